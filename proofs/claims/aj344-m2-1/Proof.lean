import JvmDerived
import JvmDerived.Pilot.@@N@@Statement
import JvmDerived.Pilot.@@N@@Code
set_option linter.unusedVariables false
set_option linter.unusedSimpArgs false
namespace Jvm.RoadKit
open Sem ClassFile Op Lib Jvm.Stand Jvm.Free Jvm.LawKit
section New
variable {p : Program} {l : Launch} {e : Env} {R : Room} {s : State} {m : MethodId} {args : Array Value} {below : List Frame} {meth : Method} {c : Code} {T : State} {locs : List Loc} {cells slots : Nat}
theorem retI (X : Stand p l e R s m args below meth c T locs cells slots) (hx : p.tables.exec = Jvm.exec) {pc : Nat} {Ls : Array Slot} {z : Int32} {rest : List Value} (hret : meth.sig.returnType = some .int) (hd : decode c.code pc = .ok (.ireturn, 1)) {fs : List Frame}
    (hl : ∀ (f : JFrame) (acts : List Action), f.method = m → f.locked = none → f.entered = [] → (doReturn e (T.setTop f) acts (some (.int z))).1 = T.setFrames fs) : Steps p.tables e below (T.setTop (mkF m pc Ls (.int z :: rest))) (T.setFrames fs) := by
  have hm' : T.vm.method? m = some meth := X.method'
  have hn : narrow .int (.int z) = .int z := rfl
  show Steps p.tables e below (T.setTop { method := m, pc := pc, locals := Ls, stack := _ :: rest, locked := none }) _
  jvm_step X.here [X.here.top, hx, hd, hm', hret, hn]
  first | (intro acts; rw [hl _ acts rfl rfl rfl]) | rw [hl _ _ rfl rfl rfl]
  exact Steps.refl _
end New
end Jvm.RoadKit
namespace Jvm.Pilot.@@N@@
open Jvm Jvm.ClassFile Sem Op Lib Jvm.Free Jvm.Stand Jvm.LawKit Jvm.RoadKit Bundle Jvm.Pilot.@@N@@.Jvm.D
def own_eqE (a b c d : Int32) : Int32 := if c = a then (if d = b then (1 : Int32) else (0 : Int32)) else (0 : Int32)
theorem own_eqE_refl (a b : Int32) : ¬ own_eqE a b a b = (0 : Int32) := by unfold own_eqE; rw [if_pos rfl, if_pos rfl]; decide
theorem own_eqE_of {a b c d : Int32} (h : ¬ own_eqE a b c d = (0 : Int32)) : c = a ∧ d = b := by
  unfold own_eqE at h
  by_cases q : c = a
  · by_cases r : d = b
    · exact ⟨q, r⟩
    · rw [if_pos q, if_neg r] at h; exact absurd rfl h
  · rw [if_neg q] at h; exact absurd rfl h
theorem own_hash {a b c d : Int32} (h : ¬ own_eqE a b c d = (0 : Int32)) : (((31 : Int32) * a) + b) = (((31 : Int32) * c) + d) := by
  obtain ⟨rfl, rfl⟩ := own_eqE_of h; rfl
theorem ef_rec (m : MethodId) (x0 : Addr) : entryFrame m #[(.ref x0)] 1 = mkF m 0 #[rv x0] [] := by first | (simp [entryFrame, mkF, argsToLocals, Value.category]; done) | rfl
theorem pn_0 : plainName "java/lang/Record" = true := by first | (simp [plainName, overriddenIn]; done) | decide +kernel
def Q_rec (Z : State) (o0 : Addr) (h0 : Heap) (n0 : Nat) (v : Option Value) (h : Heap) (L : List Loc) : Prop := v = none ∧ Fr n0 L ∧ h = h0
theorem d0_0 : decode jdk_30_method_1_code 0 = .ok (.aload_n 0, 1) := by decide +kernel
theorem d0_1 : decode jdk_30_method_1_code 1 = .ok (.invokespecial 1, 3) := by decide +kernel
theorem d0_4 : decode jdk_30_method_1_code 4 = .ok (.return_, 1) := by decide +kernel
set_option maxRecDepth 65536 in
set_option maxHeartbeats 40000000 in
theorem rm_rec (l : Launch) (Z : State) (a0 : Array Value) (hw : ∀ d ∈ tables_1, d.before a0 Z = true) (ws : List Jvm.Cond) (o0 : Addr) (h0 : Heap) (n0 : Nat) (Z0 : n0 ≤ h0.size)  :
    MetFree l (⟨"java/lang/Record", "<init>", "()V"⟩ : MethodName) (head1 (Jvm.Cond.code (⟨"java/lang/Record", "<init>", "()V"⟩ : MethodName) jdk_30_method_1_code 1 none :: ws) ({ frames := 1, cells := 0, slots := 0, locals := 12 } : Room)) (fun a U => a = #[(.ref o0)] ∧ Z.Warmed39 U.vm ∧ U.heap = h0) (fun _ _ _ _ _ => True) (fun _ U o U' => ∃ v L, o = .returned v ∧ Q_rec Z o0 h0 n0 v U'.heap L ∧ FrameEnd U o U' L ({ frames := 1, cells := 0, slots := 0, locals := 12 } : Room).cells ({ frames := 1, cells := 0, slots := 0, locals := 12 } : Room).slots) := by
  refine MetFree.of_bodySF (plainFor_of_name pn_0) hisR ?_
  intro p e s m args below meth c s₁ Bd hml0 hP hK
  obtain ⟨rfl, hZ, hh⟩ := hP
  have hx := Bd.exec
  have hby := Bd.bytes
  have hml : c.maxLocals = 1 := hml0
  have hown : s.vm.findClass "java/lang/Record" = some m.cls := findClass_of_methodNamed Bd.named
  have hnm := (name_of_methodNamed Bd.named Bd.method).1
  have X0 : Stand p l e ({ frames := 1, cells := 0, slots := 0, locals := 12 } : Room) s m #[(.ref o0)] below meth c s₁ [] 0 0 := Stand.of_body Bd
  have e0 : s₁.heap = h0 := by rw [← hh, Bd.state]; rfl
  have N0 := Fr.nil n0
  have go0 : ∀ t, Steps p.tables e below (s₁.setTop (mkF m 0 #[rv o0] [])) t → Steps p.tables e below (s₁.setTop (entryFrame m #[(.ref o0)] 1)) t := fun t k => castTop (ef_rec m o0) k
  obtain ⟨O, hO⟩ : ∃ z, z = (s₁.setTop (entryFrame m #[(.ref o0)] 1)) := ⟨_, rfl⟩
  rw [← hO] at go0
  obtain ⟨T101, X101, e101, st101⟩ := initO X0 hx hZ hown (hw _ (List.mem_of_getElem? (i := 11) rfl)) (hw _ (List.mem_of_getElem? (i := 12) rfl)) (hw _ (List.mem_of_getElem? (i := 13) rfl)) e0 (g := (mkF m 1 #[rv o0] [(.ref o0)])) rfl (by rw [hml]; rfl) rfl (hb hby d0_1) (by decide) (W := 0) (by show 2 * 0 + _ ≤ _; exact Nat.le_of_eq rfl) (by decide)
  have go102 : ∀ t, Steps p.tables e below (T101.setTop (mkF m 4 #[rv o0] [])) t → Steps p.tables e below O t := fun t k => go0 t (by
    refine XS.aloadN X0.here hx rfl (hb hby d0_0) rfl rfl ?_
    show Steps _ _ _ (s₁.setTop (mkF m 1 _ [(.ref o0)])) _
    refine st101 _ ?_
    show Steps _ _ _ (T101.setTop (mkF m 4 _ [])) _
    exact k)
  subst hO
  obtain ⟨fs, hr, hrun, hended, hW, hsame⟩ := X101.leave (v := none) (fun _ => rfl)
  refine ⟨_, _, go102 _ ?_, hrun, hended, _, _, rfl, ?_, ⟨_, rfl⟩, hW, hsame.mono (by decide) (by decide)⟩
  · exact X101.returnOut hx Bd.returns (hb hby d0_4) hr
  · show Q_rec Z o0 h0 n0 _ T101.heap _
    rw [e101]
    exact ⟨rfl, N0, rfl⟩
theorem ef_ed (m : MethodId) (x0 : Addr) (x1 : Int32) (x2 : Int32) : entryFrame m #[(.ref x0), (.int x1), (.int x2)] 3 = mkF m 0 #[rv x0, iv x1, iv x2] [] := by first | (simp [entryFrame, mkF, argsToLocals, Value.category]; done) | rfl
theorem pn_1 : plainName "com/example/errand/errand/model/Tree$Edge" = true := by first | (simp [plainName, overriddenIn]; done) | decide +kernel
def Q_ed (Z : State) (o0 : Addr) (p1 : Int32) (p2 : Int32) (h0 : Heap) (n0 : Nat) (v : Option Value) (h : Heap) (L : List Loc) : Prop := v = none ∧ Fr n0 L ∧ Keep h0 h [o0] ∧ Exa Z h o0 "com/example/errand/errand/model/Tree$Edge" ∧ Fld Z h o0 "com/example/errand/errand/model/Tree$Edge" "a" "I" (.int p1) ∧ Fld Z h o0 "com/example/errand/errand/model/Tree$Edge" "b" "I" (.int p2)
theorem d1_0 : decode prog_27_method_1_code 0 = .ok (.aload_n 0, 1) := by decide +kernel
theorem pd_0 : parseMethodDescriptor "()V" = some ⟨[], none⟩ := by decide +kernel
theorem d1_1 : decode prog_27_method_1_code 1 = .ok (.invokespecial 1, 3) := by decide +kernel
theorem d1_4 : decode prog_27_method_1_code 4 = .ok (.aload_n 0, 1) := by decide +kernel
theorem d1_5 : decode prog_27_method_1_code 5 = .ok (.iload_n 1, 1) := by decide +kernel
theorem d1_6 : decode prog_27_method_1_code 6 = .ok (.putfield 7, 3) := by decide +kernel
theorem d1_9 : decode prog_27_method_1_code 9 = .ok (.aload_n 0, 1) := by decide +kernel
theorem d1_10 : decode prog_27_method_1_code 10 = .ok (.iload_n 2, 1) := by decide +kernel
theorem d1_11 : decode prog_27_method_1_code 11 = .ok (.putfield 13, 3) := by decide +kernel
theorem d1_14 : decode prog_27_method_1_code 14 = .ok (.return_, 1) := by decide +kernel
set_option maxRecDepth 65536 in
set_option maxHeartbeats 40000000 in
theorem rm_ed (l : Launch) (Z : State) (a0 : Array Value) (hw : ∀ d ∈ tables_1, d.before a0 Z = true) (ws : List Jvm.Cond) (o0 : Addr) (p1 : Int32) (p2 : Int32) (h0 : Heap) (n0 : Nat) (Z0 : n0 ≤ h0.size) (E_o0 : Exa Z h0 o0 "com/example/errand/errand/model/Tree$Edge") (ge_o0 : n0 ≤ o0) (F_a_o0 : Fld Z h0 o0 "com/example/errand/errand/model/Tree$Edge" "a" "I" (.int 0)) (F_b_o0 : Fld Z h0 o0 "com/example/errand/errand/model/Tree$Edge" "b" "I" (.int 0)) :
    MetFree l (⟨"com/example/errand/errand/model/Tree$Edge", "<init>", "(II)V"⟩ : MethodName) (head1 (Jvm.Cond.code (⟨"com/example/errand/errand/model/Tree$Edge", "<init>", "(II)V"⟩ : MethodName) prog_27_method_1_code 3 none :: ws) ({ frames := 2, cells := 0, slots := 0, locals := 24 } : Room)) (fun a U => a = #[(.ref o0), (.int p1), (.int p2)] ∧ Z.Warmed39 U.vm ∧ U.heap = h0) (fun _ _ _ _ _ => True) (fun _ U o U' => ∃ v L, o = .returned v ∧ Q_ed Z o0 p1 p2 h0 n0 v U'.heap L ∧ FrameEnd U o U' L ({ frames := 2, cells := 0, slots := 0, locals := 24 } : Room).cells ({ frames := 2, cells := 0, slots := 0, locals := 24 } : Room).slots) := by
  refine MetFree.of_bodySF (plainFor_of_name pn_1) hisR ?_
  intro p e s m args below meth c s₁ Bd hml0 hP hK
  obtain ⟨rfl, hZ, hh⟩ := hP
  have hx := Bd.exec
  have hby := Bd.bytes
  have hml : c.maxLocals = 3 := hml0
  have hown : s.vm.findClass "com/example/errand/errand/model/Tree$Edge" = some m.cls := findClass_of_methodNamed Bd.named
  have hnm := (name_of_methodNamed Bd.named Bd.method).1
  have X0 : Stand p l e ({ frames := 2, cells := 0, slots := 0, locals := 24 } : Room) s m #[(.ref o0), (.int p1), (.int p2)] below meth c s₁ [] 0 0 := Stand.of_body Bd
  have e0 : s₁.heap = h0 := by rw [← hh, Bd.state]; rfl
  have N0 := Fr.nil n0
  have go0 : ∀ t, Steps p.tables e below (s₁.setTop (mkF m 0 #[rv o0, iv p1, iv p2] [])) t → Steps p.tables e below (s₁.setTop (entryFrame m #[(.ref o0), (.int p1), (.int p2)] 3)) t := fun t k => castTop (ef_ed m o0 p1 p2) k
  obtain ⟨O, hO⟩ : ∃ z, z = (s₁.setTop (entryFrame m #[(.ref o0), (.int p1), (.int p2)] 3)) := ⟨_, rfl⟩
  rw [← hO] at go0
  have K101 := Keep.refl h0 [o0]
  obtain ⟨_, _, ⟨T102, L102, k102, n102⟩, -, X102, ⟨Lc102, hQ102, l102, y102, z102⟩, st102⟩ := X0.specialBack hx (y := (⟨"java/lang/Record", "<init>", "()V"⟩ : MethodName)) rfl hown (mvT hZ (hw _ (List.mem_of_getElem? (i := 6) rfl))) (mvT hZ (hw _ (List.mem_of_getElem? (i := 7) rfl))) (mvT hZ (hw _ (List.mem_of_getElem? (i := 10) rfl))) (by decide) (backOf (W := 0) (rm_rec l Z a0 hw [] o0  h0 n0 Z0 ) hZ (hw _ (List.mem_of_getElem? (i := 10) rfl)) (hw _ (List.mem_of_getElem? (i := 9) rfl)) (by decide) (by decide)) (g := (mkF m 1 #[rv o0, iv p1, iv p2] [(.ref o0)])) rfl (by rw [hml]; rfl) (Steps.refl _) (a := o0) (argsL := []) (rest := []) (lenOf pd_0 rfl) rfl (by show 2 * 0 + _ ≤ _; exact Nat.le_of_eq rfl) (hb hby d1_1) (fun _ _ => ⟨rfl, e0, (by decide : 0 + 0 ≤ _), (by decide : 0 + 0 ≤ _)⟩)
  dsimp only [Pt.U, Pt.locs, Pt.cells, Pt.slots] at X102 l102 y102 z102 st102 hQ102
  subst l102 y102 z102
  obtain ⟨rfl, N102q, eR⟩ := hQ102
  have N102 := Fr.app N0 N102q
  obtain ⟨T103, h103, X103, e103, W103, st103⟩ := putF X102 hx hZ hown (host := "") (Or.inl (hw _ (List.mem_of_getElem? (i := 14) rfl))) Via.refl eR F_a_o0 E_o0 (Or.inr ⟨(hw _ (List.mem_of_getElem? (i := 15) rfl)), rfl, hnm⟩) (hw _ (List.mem_of_getElem? (i := 1) rfl)) (ty := .int) (by decide) rfl rfl (g := (mkF m 6 #[rv o0, iv p1, iv p2] [(.int p1), (.ref o0)])) rfl rfl (hb hby d1_6)
  have f104 := E_o0.wr W103
  have f105 := F_b_o0.other W103 (Or.inr (slot_ne (Or.inr (hw _ (List.mem_of_getElem? (i := 17) rfl))) (Or.inr (hw _ (List.mem_of_getElem? (i := 15) rfl))) (by decide) (t := .int) (t' := .int) (by decide) (by decide)))
  have Z106 := Nat.le_trans Z0 (Keep.of_wr W103).1
  have K107 := K101.wr W103 (Or.inl (List.mem_of_getElem? (i := 0) rfl))
  have f108 := F_a_o0.same W103
  have N103 := Fr.snoc X103 N102 ge_o0
  obtain ⟨T109, h109, X109, e109, W109, st109⟩ := putF X103 hx hZ hown (host := "") (Or.inl (hw _ (List.mem_of_getElem? (i := 16) rfl))) Via.refl e103 f105 f104 (Or.inr ⟨(hw _ (List.mem_of_getElem? (i := 17) rfl)), rfl, hnm⟩) (hw _ (List.mem_of_getElem? (i := 1) rfl)) (ty := .int) (by decide) rfl rfl (g := (mkF m 11 #[rv o0, iv p1, iv p2] [(.int p2), (.ref o0)])) rfl rfl (hb hby d1_11)
  have f110 := f104.wr W109
  have f111 := f108.other W109 (Or.inr (slot_ne (Or.inr (hw _ (List.mem_of_getElem? (i := 15) rfl))) (Or.inr (hw _ (List.mem_of_getElem? (i := 17) rfl))) (by decide) (t := .int) (t' := .int) (by decide) (by decide)))
  have Z112 := Nat.le_trans Z106 (Keep.of_wr W109).1
  have K113 := K107.wr W109 (Or.inl (List.mem_of_getElem? (i := 0) rfl))
  have f114 := f105.same W109
  have N109 := Fr.snoc X109 N103 ge_o0
  have go115 : ∀ t, Steps p.tables e below (T109.setTop (mkF m 14 #[rv o0, iv p1, iv p2] [])) t → Steps p.tables e below O t := fun t k => go0 t (by
    refine XS.aloadN X0.here hx rfl (hb hby d1_0) rfl rfl ?_
    show Steps _ _ _ (s₁.setTop (mkF m 1 _ [(.ref o0)])) _
    refine st102.trans ?_
    show Steps _ _ _ (T102.setTop (mkF m 4 _ [])) _
    refine XS.aloadN X102.here hx rfl (hb hby d1_4) rfl rfl ?_
    show Steps _ _ _ (T102.setTop (mkF m 5 _ [(.ref o0)])) _
    refine XS.iloadN X102.here hx rfl (hb hby d1_5) rfl ?_
    show Steps _ _ _ (T102.setTop (mkF m 6 _ [(.int p1), (.ref o0)])) _
    refine st103 _ ?_
    show Steps _ _ _ (T103.setTop (mkF m 9 _ [])) _
    refine XS.aloadN X103.here hx rfl (hb hby d1_9) rfl rfl ?_
    show Steps _ _ _ (T103.setTop (mkF m 10 _ [(.ref o0)])) _
    refine XS.iloadN X103.here hx rfl (hb hby d1_10) rfl ?_
    show Steps _ _ _ (T103.setTop (mkF m 11 _ [(.int p2), (.ref o0)])) _
    refine st109 _ ?_
    show Steps _ _ _ (T109.setTop (mkF m 14 _ [])) _
    exact k)
  subst hO
  obtain ⟨fs, hr, hrun, hended, hW, hsame⟩ := X109.leave (v := none) (fun _ => rfl)
  refine ⟨_, _, go115 _ ?_, hrun, hended, _, _, rfl, ?_, ⟨_, rfl⟩, hW, hsame.mono (by decide) (by decide)⟩
  · exact X109.returnOut hx Bd.returns (hb hby d1_14) hr
  · show Q_ed Z o0 p1 p2 h0 n0 _ T109.heap _
    rw [e109]
    exact ⟨rfl, N109, K113, f110, f111, f114⟩
theorem ef_hc (m : MethodId) (x0 : Addr) : entryFrame m #[(.ref x0)] 1 = mkF m 0 #[rv x0] [] := by first | (simp [entryFrame, mkF, argsToLocals, Value.category]; done) | rfl
def Q_hc (Z : State) (o0 : Addr) (w0_ : Int32) (w1_ : Int32) (h0 : Heap) (n0 : Nat) (v : Option Value) (h : Heap) (L : List Loc) : Prop := v = some (.int (((31 : Int32) * w0_) + w1_)) ∧ Fr n0 L ∧ h = h0
theorem d2_0 : decode prog_27_method_3_code 0 = .ok (.bipush 31, 2) := by decide +kernel
theorem d2_2 : decode prog_27_method_3_code 2 = .ok (.aload_n 0, 1) := by decide +kernel
theorem d2_3 : decode prog_27_method_3_code 3 = .ok (.getfield 7, 3) := by decide +kernel
theorem d2_6 : decode prog_27_method_3_code 6 = .ok (.imul, 1) := by decide +kernel
theorem d2_7 : decode prog_27_method_3_code 7 = .ok (.aload_n 0, 1) := by decide +kernel
theorem d2_8 : decode prog_27_method_3_code 8 = .ok (.getfield 13, 3) := by decide +kernel
theorem d2_11 : decode prog_27_method_3_code 11 = .ok (.iadd, 1) := by decide +kernel
theorem d2_12 : decode prog_27_method_3_code 12 = .ok (.ireturn, 1) := by decide +kernel
set_option maxRecDepth 65536 in
set_option maxHeartbeats 40000000 in
theorem rm_hc (l : Launch) (Z : State) (a0 : Array Value) (hw : ∀ d ∈ tables_1, d.before a0 Z = true) (ws : List Jvm.Cond) (o0 : Addr) (w0_ : Int32) (w1_ : Int32) (h0 : Heap) (n0 : Nat) (Z0 : n0 ≤ h0.size) (E_o0 : Exa Z h0 o0 "com/example/errand/errand/model/Tree$Edge") (ge_o0 : n0 ≤ o0) (F_a_o0 : Fld Z h0 o0 "com/example/errand/errand/model/Tree$Edge" "a" "I" (.int w0_)) (F_b_o0 : Fld Z h0 o0 "com/example/errand/errand/model/Tree$Edge" "b" "I" (.int w1_)) :
    MetFree l (⟨"com/example/errand/errand/model/Tree$Edge", "hashCode", "()I"⟩ : MethodName) (head1 (Jvm.Cond.code (⟨"com/example/errand/errand/model/Tree$Edge", "hashCode", "()I"⟩ : MethodName) prog_27_method_3_code 1 (some .int) :: ws) ({ frames := 0, cells := 0, slots := 0, locals := 0 } : Room)) (fun a U => a = #[(.ref o0)] ∧ Z.Warmed39 U.vm ∧ U.heap = h0) (fun _ _ _ _ _ => True) (fun _ U o U' => ∃ v L, o = .returned v ∧ Q_hc Z o0 w0_ w1_ h0 n0 v U'.heap L ∧ FrameEnd U o U' L ({ frames := 0, cells := 0, slots := 0, locals := 0 } : Room).cells ({ frames := 0, cells := 0, slots := 0, locals := 0 } : Room).slots) := by
  refine MetFree.of_bodySF (plainFor_of_name pn_1) hisR ?_
  intro p e s m args below meth c s₁ Bd hml0 hP hK
  obtain ⟨rfl, hZ, hh⟩ := hP
  have hx := Bd.exec
  have hby := Bd.bytes
  have hml : c.maxLocals = 1 := hml0
  have hown : s.vm.findClass "com/example/errand/errand/model/Tree$Edge" = some m.cls := findClass_of_methodNamed Bd.named
  have hnm := (name_of_methodNamed Bd.named Bd.method).1
  have X0 : Stand p l e ({ frames := 0, cells := 0, slots := 0, locals := 0 } : Room) s m #[(.ref o0)] below meth c s₁ [] 0 0 := Stand.of_body Bd
  have e0 : s₁.heap = h0 := by rw [← hh, Bd.state]; rfl
  have N0 := Fr.nil n0
  have go0 : ∀ t, Steps p.tables e below (s₁.setTop (mkF m 0 #[rv o0] [])) t → Steps p.tables e below (s₁.setTop (entryFrame m #[(.ref o0)] 1)) t := fun t k => castTop (ef_hc m o0) k
  obtain ⟨O, hO⟩ : ∃ z, z = (s₁.setTop (entryFrame m #[(.ref o0)] 1)) := ⟨_, rfl⟩
  rw [← hO] at go0
  obtain ⟨T101, X101, e101, st101⟩ := getF X0 hx hZ hown (host := "") (Or.inl (hw _ (List.mem_of_getElem? (i := 14) rfl))) Via.refl e0 F_a_o0 (g := (mkF m 3 #[rv o0] [(.ref o0), (.int 31)])) rfl rfl (hb hby d2_3)
  obtain ⟨T102, X102, e102, st102⟩ := getF X101 hx hZ hown (host := "") (Or.inl (hw _ (List.mem_of_getElem? (i := 16) rfl))) Via.refl e101 F_b_o0 (g := (mkF m 8 #[rv o0] [(.ref o0), (.int ((31 : Int32) * w0_))])) rfl rfl (hb hby d2_8)
  have go103 : ∀ t, Steps p.tables e below (T102.setTop (mkF m 12 #[rv o0] [(.int (((31 : Int32) * w0_) + w1_))])) t → Steps p.tables e below O t := fun t k => go0 t (by
    refine XS.bipush X0.here hx rfl (hb hby d2_0) ?_
    show Steps _ _ _ (s₁.setTop (mkF m 2 _ [(.int 31)])) _
    refine XS.aloadN X0.here hx rfl (hb hby d2_2) rfl rfl ?_
    show Steps _ _ _ (s₁.setTop (mkF m 3 _ [(.ref o0), (.int 31)])) _
    refine st101 _ ?_
    show Steps _ _ _ (T101.setTop (mkF m 6 _ [(.int w0_), (.int 31)])) _
    refine XS.imul X101.here hx rfl (hb hby d2_6) rfl ?_
    show Steps _ _ _ (T101.setTop (mkF m 7 _ [(.int ((31 : Int32) * w0_))])) _
    refine XS.aloadN X101.here hx rfl (hb hby d2_7) rfl rfl ?_
    show Steps _ _ _ (T101.setTop (mkF m 8 _ [(.ref o0), (.int ((31 : Int32) * w0_))])) _
    refine st102 _ ?_
    show Steps _ _ _ (T102.setTop (mkF m 11 _ [(.int w1_), (.int ((31 : Int32) * w0_))])) _
    refine XS.iadd X102.here hx rfl (hb hby d2_11) rfl ?_
    show Steps _ _ _ (T102.setTop (mkF m 12 _ [(.int (((31 : Int32) * w0_) + w1_))])) _
    exact k)
  subst hO
  obtain ⟨fs, hr, hrun, hended, hW, hsame⟩ := X102.leave (v := some (.int (((31 : Int32) * w0_) + w1_))) (fun h => by rw [Bd.returns] at h; cases h)
  refine ⟨_, _, go103 _ ?_, hrun, hended, _, _, rfl, ?_, ⟨_, rfl⟩, hW, hsame.mono (by decide) (by decide)⟩
  · exact retI X102 hx Bd.returns (hb hby d2_12) hr
  · show Q_hc Z o0 w0_ w1_ h0 n0 _ T102.heap _
    rw [e102]
    exact ⟨rfl, N0, rfl⟩
theorem ef_eq (m : MethodId) (x0 : Addr) (x1 : Addr) : entryFrame m #[(.ref x0), (.ref x1)] 3 = mkF m 0 #[rv x0, rv x1, .unset] [] := by first | (simp [entryFrame, mkF, argsToLocals, Value.category]; done) | rfl
def Q_eq (Z : State) (o0 : Addr) (o1 : Addr) (w0_ : Int32) (w1_ : Int32) (u0_ : Int32) (u1_ : Int32) (h0 : Heap) (n0 : Nat) (v : Option Value) (h : Heap) (L : List Loc) : Prop := v = some (.int (own_eqE w0_ w1_ u0_ u1_)) ∧ Fr n0 L ∧ h = h0
theorem d3_0 : decode prog_27_method_2_code 0 = .ok (.aload_n 1, 1) := by decide +kernel
theorem d3_1 : decode prog_27_method_2_code 1 = .ok (.instanceof 8, 3) := by decide +kernel
theorem d3_4 : decode prog_27_method_2_code 4 = .ok (.ifCond .eq 34, 3) := by decide +kernel
theorem d3_7 : decode prog_27_method_2_code 7 = .ok (.aload_n 1, 1) := by decide +kernel
theorem d3_8 : decode prog_27_method_2_code 8 = .ok (.checkcast 8, 3) := by decide +kernel
theorem d3_11 : decode prog_27_method_2_code 11 = .ok (.astore_n 2, 1) := by decide +kernel
theorem d3_12 : decode prog_27_method_2_code 12 = .ok (.aload_n 2, 1) := by decide +kernel
theorem d3_13 : decode prog_27_method_2_code 13 = .ok (.getfield 7, 3) := by decide +kernel
theorem d3_16 : decode prog_27_method_2_code 16 = .ok (.aload_n 0, 1) := by decide +kernel
theorem d3_17 : decode prog_27_method_2_code 17 = .ok (.getfield 7, 3) := by decide +kernel
theorem d3_20 : decode prog_27_method_2_code 20 = .ok (.if_icmp .ne 18, 3) := by decide +kernel
theorem d3_23 : decode prog_27_method_2_code 23 = .ok (.aload_n 2, 1) := by decide +kernel
theorem d3_24 : decode prog_27_method_2_code 24 = .ok (.getfield 13, 3) := by decide +kernel
theorem d3_27 : decode prog_27_method_2_code 27 = .ok (.aload_n 0, 1) := by decide +kernel
theorem d3_28 : decode prog_27_method_2_code 28 = .ok (.getfield 13, 3) := by decide +kernel
theorem d3_31 : decode prog_27_method_2_code 31 = .ok (.if_icmp .ne 7, 3) := by decide +kernel
theorem d3_34 : decode prog_27_method_2_code 34 = .ok (.iconst 1, 1) := by decide +kernel
theorem d3_35 : decode prog_27_method_2_code 35 = .ok (.goto 4, 3) := by decide +kernel
theorem d3_39 : decode prog_27_method_2_code 39 = .ok (.ireturn, 1) := by decide +kernel
theorem d3_38 : decode prog_27_method_2_code 38 = .ok (.iconst 0, 1) := by decide +kernel
set_option maxRecDepth 65536 in
set_option maxHeartbeats 40000000 in
theorem rm_eq (l : Launch) (Z : State) (a0 : Array Value) (hw : ∀ d ∈ tables_1, d.before a0 Z = true) (ws : List Jvm.Cond) (o0 : Addr) (o1 : Addr) (w0_ : Int32) (w1_ : Int32) (u0_ : Int32) (u1_ : Int32) (h0 : Heap) (n0 : Nat) (Z0 : n0 ≤ h0.size) (E_o0 : Exa Z h0 o0 "com/example/errand/errand/model/Tree$Edge") (ge_o0 : n0 ≤ o0) (F_a_o0 : Fld Z h0 o0 "com/example/errand/errand/model/Tree$Edge" "a" "I" (.int w0_)) (F_b_o0 : Fld Z h0 o0 "com/example/errand/errand/model/Tree$Edge" "b" "I" (.int w1_)) (E_o1 : Exa Z h0 o1 "com/example/errand/errand/model/Tree$Edge") (ge_o1 : n0 ≤ o1) (F_a_o1 : Fld Z h0 o1 "com/example/errand/errand/model/Tree$Edge" "a" "I" (.int u0_)) (F_b_o1 : Fld Z h0 o1 "com/example/errand/errand/model/Tree$Edge" "b" "I" (.int u1_)) :
    MetFree l (⟨"com/example/errand/errand/model/Tree$Edge", "equals", "(Ljava/lang/Object;)Z"⟩ : MethodName) (head1 (Jvm.Cond.code (⟨"com/example/errand/errand/model/Tree$Edge", "equals", "(Ljava/lang/Object;)Z"⟩ : MethodName) prog_27_method_2_code 3 (some .boolean) :: ws) ({ frames := 0, cells := 0, slots := 0, locals := 0 } : Room)) (fun a U => a = #[(.ref o0), (.ref o1)] ∧ Z.Warmed39 U.vm ∧ U.heap = h0) (fun _ _ _ _ _ => True) (fun _ U o U' => ∃ v L, o = .returned v ∧ Q_eq Z o0 o1 w0_ w1_ u0_ u1_ h0 n0 v U'.heap L ∧ FrameEnd U o U' L ({ frames := 0, cells := 0, slots := 0, locals := 0 } : Room).cells ({ frames := 0, cells := 0, slots := 0, locals := 0 } : Room).slots) := by
  refine MetFree.of_bodySF (plainFor_of_name pn_1) hisR ?_
  intro p e s m args below meth c s₁ Bd hml0 hP hK
  obtain ⟨rfl, hZ, hh⟩ := hP
  have hx := Bd.exec
  have hby := Bd.bytes
  have hml : c.maxLocals = 3 := hml0
  have hown : s.vm.findClass "com/example/errand/errand/model/Tree$Edge" = some m.cls := findClass_of_methodNamed Bd.named
  have hnm := (name_of_methodNamed Bd.named Bd.method).1
  have X0 : Stand p l e ({ frames := 0, cells := 0, slots := 0, locals := 0 } : Room) s m #[(.ref o0), (.ref o1)] below meth c s₁ [] 0 0 := Stand.of_body Bd
  have e0 : s₁.heap = h0 := by rw [← hh, Bd.state]; rfl
  have N0 := Fr.nil n0
  have go0 : ∀ t, Steps p.tables e below (s₁.setTop (mkF m 0 #[rv o0, rv o1, .unset] [])) t → Steps p.tables e below (s₁.setTop (entryFrame m #[(.ref o0), (.ref o1)] 3)) t := fun t k => castTop (ef_eq m o0 o1) k
  obtain ⟨O, hO⟩ : ∃ z, z = (s₁.setTop (entryFrame m #[(.ref o0), (.ref o1)] 3)) := ⟨_, rfl⟩
  rw [← hO] at go0
  obtain ⟨T101, X101, e101, st101⟩ := instY X0 hx hZ hown (hw _ (List.mem_of_getElem? (i := 28) rfl)) e0 (Ins.self E_o1) (g := (mkF m 1 #[rv o0, rv o1, .unset] [(.ref o1)])) rfl rfl (hb hby d3_1)
  obtain ⟨T102, X102, e102, st102⟩ := castY X101 hx hZ hown (hw _ (List.mem_of_getElem? (i := 28) rfl)) e101 (Ins.self E_o1) (g := (mkF m 8 #[rv o0, rv o1, .unset] [(.ref o1)])) rfl rfl (hb hby d3_8)
  obtain ⟨T103, X103, e103, st103⟩ := getF X102 hx hZ hown (host := "") (Or.inl (hw _ (List.mem_of_getElem? (i := 14) rfl))) Via.refl e102 F_a_o1 (g := (mkF m 13 #[rv o0, rv o1, rv o1] [(.ref o1)])) rfl rfl (hb hby d3_13)
  obtain ⟨T104, X104, e104, st104⟩ := getF X103 hx hZ hown (host := "") (Or.inl (hw _ (List.mem_of_getElem? (i := 14) rfl))) Via.refl e103 F_a_o0 (g := (mkF m 17 #[rv o0, rv o1, rv o1] [(.ref o0), (.int u0_)])) rfl rfl (hb hby d3_17)
  have go105 : ∀ t, Steps p.tables e below (T104.setTop (mkF m 20 #[rv o0, rv o1, rv o1] [(.int w0_), (.int u0_)])) t → Steps p.tables e below O t := fun t k => go0 t (by
    refine XS.aloadN X0.here hx rfl (hb hby d3_0) rfl rfl ?_
    show Steps _ _ _ (s₁.setTop (mkF m 1 _ [(.ref o1)])) _
    refine st101 _ ?_
    show Steps _ _ _ (T101.setTop (mkF m 4 _ [(.int 1)])) _
    refine XS.ifNo X101.here hx rfl (hb hby d3_4) rfl ((if0 _ _).trans (feq (by decide : ¬ ((1 : Int32) = (0 : Int32)))).1) ?_
    show Steps _ _ _ (T101.setTop (mkF m 7 _ [])) _
    refine XS.aloadN X101.here hx rfl (hb hby d3_7) rfl rfl ?_
    show Steps _ _ _ (T101.setTop (mkF m 8 _ [(.ref o1)])) _
    refine st102 _ ?_
    show Steps _ _ _ (T102.setTop (mkF m 11 _ [(.ref o1)])) _
    refine XS.astoreN X102.here hx rfl (hb hby d3_11) rfl rfl (l' := #[rv o0, rv o1, rv o1]) rfl ?_
    show Steps _ _ _ (T102.setTop (mkF m 12 _ [])) _
    refine XS.aloadN X102.here hx rfl (hb hby d3_12) rfl rfl ?_
    show Steps _ _ _ (T102.setTop (mkF m 13 _ [(.ref o1)])) _
    refine st103 _ ?_
    show Steps _ _ _ (T103.setTop (mkF m 16 _ [(.int u0_)])) _
    refine XS.aloadN X103.here hx rfl (hb hby d3_16) rfl rfl ?_
    show Steps _ _ _ (T103.setTop (mkF m 17 _ [(.ref o0), (.int u0_)])) _
    refine st104 _ ?_
    show Steps _ _ _ (T104.setTop (mkF m 20 _ [(.int w0_), (.int u0_)])) _
    exact k)
  by_cases hc1 : u0_ = w0_
  · obtain ⟨T106, X106, e106, st106⟩ := getF X104 hx hZ hown (host := "") (Or.inl (hw _ (List.mem_of_getElem? (i := 16) rfl))) Via.refl e104 F_b_o1 (g := (mkF m 24 #[rv o0, rv o1, rv o1] [(.ref o1)])) rfl rfl (hb hby d3_24)
    obtain ⟨T107, X107, e107, st107⟩ := getF X106 hx hZ hown (host := "") (Or.inl (hw _ (List.mem_of_getElem? (i := 16) rfl))) Via.refl e106 F_b_o0 (g := (mkF m 28 #[rv o0, rv o1, rv o1] [(.ref o0), (.int u1_)])) rfl rfl (hb hby d3_28)
    have go108 : ∀ t, Steps p.tables e below (T107.setTop (mkF m 31 #[rv o0, rv o1, rv o1] [(.int w1_), (.int u1_)])) t → Steps p.tables e below O t := fun t k => go105 t (by
      refine XS.icmpNo X104.here hx rfl (hb hby d3_20) rfl (teq (hc1 : u0_ = w0_)).2 ?_
      show Steps _ _ _ (T104.setTop (mkF m 23 _ [])) _
      refine XS.aloadN X104.here hx rfl (hb hby d3_23) rfl rfl ?_
      show Steps _ _ _ (T104.setTop (mkF m 24 _ [(.ref o1)])) _
      refine st106 _ ?_
      show Steps _ _ _ (T106.setTop (mkF m 27 _ [(.int u1_)])) _
      refine XS.aloadN X106.here hx rfl (hb hby d3_27) rfl rfl ?_
      show Steps _ _ _ (T106.setTop (mkF m 28 _ [(.ref o0), (.int u1_)])) _
      refine st107 _ ?_
      show Steps _ _ _ (T107.setTop (mkF m 31 _ [(.int w1_), (.int u1_)])) _
      exact k)
    by_cases hc2 : u1_ = w1_
    · have go109 : ∀ t, Steps p.tables e below (T107.setTop (mkF m 39 #[rv o0, rv o1, rv o1] [(.int 1)])) t → Steps p.tables e below O t := fun t k => go108 t (by
        refine XS.icmpNo X107.here hx rfl (hb hby d3_31) rfl (teq (hc2 : u1_ = w1_)).2 ?_
        show Steps _ _ _ (T107.setTop (mkF m 34 _ [])) _
        refine XS.iconst X107.here hx rfl (hb hby d3_34) ?_
        show Steps _ _ _ (T107.setTop (mkF m 35 _ [(.int 1)])) _
        refine XS.goto X107.here hx rfl (pc0 := 35) (pc' := 39) rfl (hb hby d3_35) (by decide) (by decide) ?_
        show Steps _ _ _ (T107.setTop (mkF m 39 _ [(.int 1)])) _
        exact k)
      subst hO
      obtain ⟨fs, hr, hrun, hended, hW, hsame⟩ := X107.leave (v := some (.int 1)) (fun h => by rw [Bd.returns] at h; cases h)
      refine ⟨_, _, go109 _ ?_, hrun, hended, _, _, rfl, ?_, ⟨_, rfl⟩, hW, hsame.mono (by decide) (by decide)⟩
      · exact retN X107 hx (t := .boolean) Bd.returns (by simp) (hb hby d3_39) hr
      · show Q_eq Z o0 o1 w0_ w1_ u0_ u1_ h0 n0 _ T107.heap _
        rw [e107]
        exact ⟨by unfold own_eqE; rw [if_pos hc1, if_pos hc2], N0, rfl⟩
    · have go111 : ∀ t, Steps p.tables e below (T107.setTop (mkF m 39 #[rv o0, rv o1, rv o1] [(.int 0)])) t → Steps p.tables e below O t := fun t k => go108 t (by
        refine XS.icmpYes X107.here hx rfl (pc0 := 31) (pc' := 38) rfl (hb hby d3_31) rfl (feq (hc2 : ¬ (u1_ = w1_))).2 (by decide) (by decide) ?_
        show Steps _ _ _ (T107.setTop (mkF m 38 _ [])) _
        refine XS.iconst X107.here hx rfl (hb hby d3_38) ?_
        show Steps _ _ _ (T107.setTop (mkF m 39 _ [(.int 0)])) _
        exact k)
      subst hO
      obtain ⟨fs, hr, hrun, hended, hW, hsame⟩ := X107.leave (v := some (.int 0)) (fun h => by rw [Bd.returns] at h; cases h)
      refine ⟨_, _, go111 _ ?_, hrun, hended, _, _, rfl, ?_, ⟨_, rfl⟩, hW, hsame.mono (by decide) (by decide)⟩
      · exact retN X107 hx (t := .boolean) Bd.returns (by simp) (hb hby d3_39) hr
      · show Q_eq Z o0 o1 w0_ w1_ u0_ u1_ h0 n0 _ T107.heap _
        rw [e107]
        exact ⟨by unfold own_eqE; rw [if_pos hc1, if_neg hc2], N0, rfl⟩
  · have go113 : ∀ t, Steps p.tables e below (T104.setTop (mkF m 39 #[rv o0, rv o1, rv o1] [(.int 0)])) t → Steps p.tables e below O t := fun t k => go105 t (by
      refine XS.icmpYes X104.here hx rfl (pc0 := 20) (pc' := 38) rfl (hb hby d3_20) rfl (feq (hc1 : ¬ (u0_ = w0_))).2 (by decide) (by decide) ?_
      show Steps _ _ _ (T104.setTop (mkF m 38 _ [])) _
      refine XS.iconst X104.here hx rfl (hb hby d3_38) ?_
      show Steps _ _ _ (T104.setTop (mkF m 39 _ [(.int 0)])) _
      exact k)
    subst hO
    obtain ⟨fs, hr, hrun, hended, hW, hsame⟩ := X104.leave (v := some (.int 0)) (fun h => by rw [Bd.returns] at h; cases h)
    refine ⟨_, _, go113 _ ?_, hrun, hended, _, _, rfl, ?_, ⟨_, rfl⟩, hW, hsame.mono (by decide) (by decide)⟩
    · exact retN X104 hx (t := .boolean) Bd.returns (by simp) (hb hby d3_39) hr
    · show Q_eq Z o0 o1 w0_ w1_ u0_ u1_ h0 n0 _ T104.heap _
      rw [e104]
      exact ⟨by unfold own_eqE; rw [if_neg hc1], N0, rfl⟩
theorem ef_law (m : MethodId) (x0 : Int32) (x1 : Int32) (x2 : Int32) (x3 : Int32) (x4 : Int32) : entryFrame m #[(.int x0), (.int x1), (.int x2), (.int x3), (.int x4)] maxLocals = mkF m 0 #[iv x0, iv x1, iv x2, iv x3, iv x4, .unset, .unset, .unset, .unset, .unset, .unset] [] := by first | (simp [entryFrame, mkF, argsToLocals, Value.category, maxLocals]; done) | rfl
theorem pn_2 : plainName "com/example/errand/errand/model/EdgeHashCodePinLaw" = true := by first | (simp [plainName, overriddenIn]; done) | decide +kernel
def Q_law (Z : State) (p0 : Int32) (p1 : Int32) (p2 : Int32) (p3 : Int32) (p4 : Int32) (h0 : Heap) (n0 : Nat) (v : Option Value) (h : Heap) (L : List Loc) : Prop := v = some (.int (1 : Int32)) ∧ Fr n0 L
theorem pd_1 : parseMethodDescriptor "(II)V" = some ⟨[.int, .int], none⟩ := by decide +kernel
theorem pd_2 : parseMethodDescriptor "()I" = some ⟨[], some .int⟩ := by decide +kernel
theorem pd_3 : parseMethodDescriptor "(Ljava/lang/Object;)Z" = some ⟨[(.object "java/lang/Object")], some .boolean⟩ := by decide +kernel
set_option maxRecDepth 65536 in
set_option maxHeartbeats 40000000 in
theorem rm_law (l : Launch) (Z : State) (a0 : Array Value) (hw : ∀ d ∈ tables_1, d.before a0 Z = true) (ws : List Jvm.Cond) (p0 : Int32) (p1 : Int32) (p2 : Int32) (p3 : Int32) (p4 : Int32) (h0 : Heap) (n0 : Nat) (Z0 : n0 ≤ h0.size)  :
    MetFree l x (head1 (Jvm.Cond.code x code maxLocals ret :: ws) room_1) (fun a U => a = #[(.int p0), (.int p1), (.int p2), (.int p3), (.int p4)] ∧ Z.Warmed39 U.vm ∧ U.heap = h0) (fun _ _ _ _ _ => True) (fun _ U o U' => ∃ v L, o = .returned v ∧ Q_law Z p0 p1 p2 p3 p4 h0 n0 v U'.heap L ∧ FrameEnd U o U' L room_1.cells room_1.slots) := by
  refine MetFree.of_bodySF (plainFor_of_name pn_2) hisR ?_
  intro p e s m args below meth c s₁ Bd hml0 hP hK
  obtain ⟨rfl, hZ, hh⟩ := hP
  have hx := Bd.exec
  have hby := Bd.bytes
  have hml : c.maxLocals = 11 := hml0
  have hown : s.vm.findClass "com/example/errand/errand/model/EdgeHashCodePinLaw" = some m.cls := findClass_of_methodNamed Bd.named
  have hnm := (name_of_methodNamed Bd.named Bd.method).1
  have X0 : Stand p l e room_1 s m #[(.int p0), (.int p1), (.int p2), (.int p3), (.int p4)] below meth c s₁ [] 0 0 := Stand.of_body Bd
  have e0 : s₁.heap = h0 := by rw [← hh, Bd.state]; rfl
  have N0 := Fr.nil n0
  have go0 : ∀ t, Steps p.tables e below (s₁.setTop (mkF m 0 #[iv p0, iv p1, iv p2, iv p3, iv p4, .unset, .unset, .unset, .unset, .unset, .unset] [])) t → Steps p.tables e below (s₁.setTop (entryFrame m #[(.int p0), (.int p1), (.int p2), (.int p3), (.int p4)] maxLocals)) t := fun t k => castTop (ef_law m p0 p1 p2 p3 p4) k
  obtain ⟨O, hO⟩ : ∃ z, z = (s₁.setTop (entryFrame m #[(.int p0), (.int p1), (.int p2), (.int p3), (.int p4)] maxLocals)) := ⟨_, rfl⟩
  rw [← hO] at go0
  have go101 : ∀ t, Steps p.tables e below (s₁.setTop (mkF m 4 #[iv p0, iv p1, iv p2, iv p3, iv p4, .unset, .unset, .unset, .unset, .unset, .unset] [(.int (p4 &&& (1 : Int32)))])) t → Steps p.tables e below O t := fun t k => go0 t (by
    refine XS.iload X0.here hx rfl (hb hby at_0) rfl ?_
    show Steps _ _ _ (s₁.setTop (mkF m 2 _ [(.int p4)])) _
    refine XS.iconst X0.here hx rfl (hb hby at_2) ?_
    show Steps _ _ _ (s₁.setTop (mkF m 3 _ [(.int 1), (.int p4)])) _
    refine XS.iand X0.here hx rfl (hb hby at_3) rfl ?_
    show Steps _ _ _ (s₁.setTop (mkF m 4 _ [(.int (p4 &&& (1 : Int32)))])) _
    exact k)
  by_cases hc : (p4 &&& (1 : Int32)) = (0 : Int32)
  · obtain ⟨T102, h102, X102, e102, E102, A102, D102, -, st102⟩ := newO X0 hx hZ hown (hw _ (List.mem_of_getElem? (i := 0) rfl)) (hw _ (List.mem_of_getElem? (i := 1) rfl)) (hw _ (List.mem_of_getElem? (i := 2) rfl)) e0 (g := (mkF m 14 #[iv p0, iv p1, iv p2, iv p3, iv p4, iv 0, .unset, .unset, .unset, .unset, .unset] [])) rfl (hb hby at_14) (by decide) (by decide)
    obtain ⟨e1_, g102⟩ : ∃ z, z = h0.size := ⟨_, rfl⟩
    have ge_e1_ : n0 ≤ e1_ := Nat.le_trans Z0 (Nat.le_of_eq g102.symm)
    rw [← g102] at A102 D102 st102
    have Z103 := Nat.le_trans Z0 E102.1
    have F_a_e1_ : Fld Z h102 e1_ "com/example/errand/errand/model/Tree$Edge" "a" "I" (.int 0) := D102 (Or.inr (hw _ (List.mem_of_getElem? (i := 15) rfl))) (ty := .int) (by decide)
    have F_b_e1_ : Fld Z h102 e1_ "com/example/errand/errand/model/Tree$Edge" "b" "I" (.int 0) := D102 (Or.inr (hw _ (List.mem_of_getElem? (i := 17) rfl))) (ty := .int) (by decide)
    obtain ⟨_, _, ⟨T104, L104, k104, n104⟩, -, X104, ⟨Lc104, hQ104, l104, y104, z104⟩, st104⟩ := X102.specialBack hx (y := (⟨"com/example/errand/errand/model/Tree$Edge", "<init>", "(II)V"⟩ : MethodName)) rfl hown (mvT hZ (hw _ (List.mem_of_getElem? (i := 3) rfl))) (mvT hZ (hw _ (List.mem_of_getElem? (i := 4) rfl))) (mvT hZ (hw _ (List.mem_of_getElem? (i := 5) rfl))) (by decide) (backOf (W := 1) (rm_ed l Z a0 hw [] e1_ p0 p1  h102 n0 Z103 A102 ge_e1_ F_a_e1_ F_b_e1_) hZ (hw _ (List.mem_of_getElem? (i := 5) rfl)) (hw _ (List.mem_of_getElem? (i := 2) rfl)) (by decide) (by decide)) (g := (mkF m 20 #[iv p0, iv p1, iv p2, iv p3, iv p4, iv 0, .unset, .unset, .unset, .unset, .unset] [(.int p1), (.int p0), (.ref e1_), (.ref e1_)])) rfl (by rw [hml]; rfl) (Steps.refl _) (a := e1_) (argsL := [(.int p0), (.int p1)]) (rest := [(.ref e1_)]) (lenOf pd_1 rfl) rfl (by show 2 * 0 + _ ≤ _; exact Nat.le_of_eq rfl) (hb hby at_20) (fun _ _ => ⟨rfl, e102, (by decide : 1 + 0 ≤ _), (by decide : 2 + 0 ≤ _)⟩)
    dsimp only [Pt.U, Pt.locs, Pt.cells, Pt.slots] at X104 l104 y104 z104 st104 hQ104
    subst l104 y104 z104
    obtain ⟨rfl, N104q, Ke1_, Ee1_, Fa_e1_, Fb_e1_⟩ := hQ104
    have N104 := Fr.app N0 N104q
    have f105 := A102.keep Ke1_
    have Z106 := Nat.le_trans Z103 Ke1_.1
    obtain ⟨T107, h107, X107, e107, E107, A107, D107, -, st107⟩ := newO X104 hx hZ hown (hw _ (List.mem_of_getElem? (i := 0) rfl)) (hw _ (List.mem_of_getElem? (i := 1) rfl)) (hw _ (List.mem_of_getElem? (i := 2) rfl)) rfl (g := (mkF m 42 #[iv p0, iv p1, iv p2, iv p3, iv p4, iv 0, rv e1_, .unset, .unset, .unset, .unset] [])) rfl (hb hby at_42) (by decide) (by decide)
    obtain ⟨e2_, g107⟩ : ∃ z, z = T104.heap.size := ⟨_, rfl⟩
    have ne108 : e1_ ≠ e2_ := Nat.ne_of_lt (Nat.lt_of_lt_of_le f105.lt (Nat.le_of_eq g107.symm))
    have ge_e2_ : n0 ≤ e2_ := Nat.le_trans Z106 (Nat.le_of_eq g107.symm)
    rw [← g107] at A107 D107 st107
    have f109 := f105.ext E107
    have f110 := Fa_e1_.ext E107
    have f111 := Fb_e1_.ext E107
    have Z112 := Nat.le_trans Z106 E107.1
    have F_a_e2_ : Fld Z h107 e2_ "com/example/errand/errand/model/Tree$Edge" "a" "I" (.int 0) := D107 (Or.inr (hw _ (List.mem_of_getElem? (i := 15) rfl))) (ty := .int) (by decide)
    have F_b_e2_ : Fld Z h107 e2_ "com/example/errand/errand/model/Tree$Edge" "b" "I" (.int 0) := D107 (Or.inr (hw _ (List.mem_of_getElem? (i := 17) rfl))) (ty := .int) (by decide)
    obtain ⟨_, _, ⟨T113, L113, k113, n113⟩, -, X113, ⟨Lc113, hQ113, l113, y113, z113⟩, st113⟩ := X107.specialBack hx (y := (⟨"com/example/errand/errand/model/Tree$Edge", "<init>", "(II)V"⟩ : MethodName)) rfl hown (mvT hZ (hw _ (List.mem_of_getElem? (i := 3) rfl))) (mvT hZ (hw _ (List.mem_of_getElem? (i := 4) rfl))) (mvT hZ (hw _ (List.mem_of_getElem? (i := 5) rfl))) (by decide) (backOf (W := 1) (rm_ed l Z a0 hw [] e2_ p2 p3  h107 n0 Z112 A107 ge_e2_ F_a_e2_ F_b_e2_) hZ (hw _ (List.mem_of_getElem? (i := 5) rfl)) (hw _ (List.mem_of_getElem? (i := 2) rfl)) (by decide) (by decide)) (g := (mkF m 48 #[iv p0, iv p1, iv p2, iv p3, iv p4, iv 0, rv e1_, .unset, .unset, .unset, .unset] [(.int p3), (.int p2), (.ref e2_), (.ref e2_)])) rfl (by rw [hml]; rfl) (Steps.refl _) (a := e2_) (argsL := [(.int p2), (.int p3)]) (rest := [(.ref e2_)]) (lenOf pd_1 rfl) rfl (by show 2 * 0 + _ ≤ _; exact Nat.le_of_eq rfl) (hb hby at_48) (fun _ _ => ⟨rfl, e107, (by decide : 2 + 0 ≤ _), (by decide : 4 + 0 ≤ _)⟩)
    dsimp only [Pt.U, Pt.locs, Pt.cells, Pt.slots] at X113 l113 y113 z113 st113 hQ113
    subst l113 y113 z113
    obtain ⟨rfl, N113q, Ke2_, Ee2_, Fa_e2_, Fb_e2_⟩ := hQ113
    have N113 := Fr.app N104 N113q
    have f114 := f109.keep Ke2_
    have f115 := f110.keep Ke2_ (ninS ne108 nin0)
    have f116 := f111.keep Ke2_ (ninS ne108 nin0)
    have f117 := A107.keep Ke2_
    have Z118 := Nat.le_trans Z112 Ke2_.1
    obtain ⟨cq119, kq119, q119a, q119b, q119c⟩ := isOf hZ rfl f114
    obtain ⟨_, _, ⟨T119, L119, k119, n119⟩, -, X119, ⟨Lc119, hQ119, l119, y119, z119⟩, st119⟩ := X113.virtualBack hx (y := (⟨"com/example/errand/errand/model/Tree$Edge", "hashCode", "()I"⟩ : MethodName)) (z := (⟨"com/example/errand/errand/model/Tree$Edge", "hashCode", "()I"⟩ : MethodName)) hown (mvT hZ (hw _ (List.mem_of_getElem? (i := 18) rfl))) (mvT hZ (hw _ (List.mem_of_getElem? (i := 19) rfl))) (notFace_of_selects (args := #[]) (mvT hZ (hw _ (List.mem_of_getElem? (i := 21) rfl)))) (mvT hZ (hw _ (List.mem_of_getElem? (i := 21) rfl))) (mvT hZ (hw _ (List.mem_of_getElem? (i := 20) rfl))) (by decide) (backOf (W := 0) (rm_hc l Z a0 hw [] e1_ p0 p1 T113.heap n0 Z118 f114 ge_e1_ f115 f116) hZ (hw _ (List.mem_of_getElem? (i := 22) rfl)) (hw _ (List.mem_of_getElem? (i := 2) rfl)) (by decide) (by decide)) q119a q119c (g := (mkF m 55 #[iv p0, iv p1, iv p2, iv p3, iv p4, iv 0, rv e1_, rv e2_, .unset, .unset, .unset] [(.ref e1_)])) rfl (by rw [hml]; rfl) (Steps.refl _) (argsL := []) (rest := []) (lenOf pd_2 rfl) rfl (by show 2 * 0 + _ ≤ _; exact Nat.le_of_eq rfl) (hb hby at_55) (fun _ _ => ⟨rfl, rfl, (by decide : 2 + 0 ≤ _), (by decide : 4 + 0 ≤ _)⟩)
    dsimp only [Pt.U, Pt.locs, Pt.cells, Pt.slots] at X119 l119 y119 z119 st119 hQ119
    subst l119 y119 z119
    obtain ⟨rfl, N119q, eh1⟩ := hQ119
    have N119 := Fr.app N113 N119q
    obtain ⟨cq120, kq120, q120a, q120b, q120c⟩ := isOf hZ eh1 f114
    obtain ⟨_, _, ⟨T120, L120, k120, n120⟩, -, X120, ⟨Lc120, hQ120, l120, y120, z120⟩, st120⟩ := X119.virtualBack hx (y := (⟨"com/example/errand/errand/model/Tree$Edge", "hashCode", "()I"⟩ : MethodName)) (z := (⟨"com/example/errand/errand/model/Tree$Edge", "hashCode", "()I"⟩ : MethodName)) hown (mvT hZ (hw _ (List.mem_of_getElem? (i := 18) rfl))) (mvT hZ (hw _ (List.mem_of_getElem? (i := 19) rfl))) (notFace_of_selects (args := #[]) (mvT hZ (hw _ (List.mem_of_getElem? (i := 21) rfl)))) (mvT hZ (hw _ (List.mem_of_getElem? (i := 21) rfl))) (mvT hZ (hw _ (List.mem_of_getElem? (i := 20) rfl))) (by decide) (backOf (W := 0) (rm_hc l Z a0 hw [] e1_ p0 p1 T113.heap n0 Z118 f114 ge_e1_ f115 f116) hZ (hw _ (List.mem_of_getElem? (i := 22) rfl)) (hw _ (List.mem_of_getElem? (i := 2) rfl)) (by decide) (by decide)) q120a q120c (g := (mkF m 62 #[iv p0, iv p1, iv p2, iv p3, iv p4, iv 0, rv e1_, rv e2_, iv (((31 : Int32) * p0) + p1), .unset, .unset] [(.ref e1_)])) rfl (by rw [hml]; rfl) (Steps.refl _) (argsL := []) (rest := []) (lenOf pd_2 rfl) rfl (by show 2 * 0 + _ ≤ _; exact Nat.le_of_eq rfl) (hb hby at_62) (fun _ _ => ⟨rfl, eh1, (by decide : 2 + 0 ≤ _), (by decide : 4 + 0 ≤ _)⟩)
    dsimp only [Pt.U, Pt.locs, Pt.cells, Pt.slots] at X120 l120 y120 z120 st120 hQ120
    subst l120 y120 z120
    obtain ⟨rfl, N120q, eh2⟩ := hQ120
    have N120 := Fr.app N119 N120q
    obtain ⟨cq121, kq121, q121a, q121b, q121c⟩ := isOf hZ eh2 f117
    obtain ⟨_, _, ⟨T121, L121, k121, n121⟩, -, X121, ⟨Lc121, hQ121, l121, y121, z121⟩, st121⟩ := X120.virtualBack hx (y := (⟨"com/example/errand/errand/model/Tree$Edge", "hashCode", "()I"⟩ : MethodName)) (z := (⟨"com/example/errand/errand/model/Tree$Edge", "hashCode", "()I"⟩ : MethodName)) hown (mvT hZ (hw _ (List.mem_of_getElem? (i := 18) rfl))) (mvT hZ (hw _ (List.mem_of_getElem? (i := 19) rfl))) (notFace_of_selects (args := #[]) (mvT hZ (hw _ (List.mem_of_getElem? (i := 21) rfl)))) (mvT hZ (hw _ (List.mem_of_getElem? (i := 21) rfl))) (mvT hZ (hw _ (List.mem_of_getElem? (i := 20) rfl))) (by decide) (backOf (W := 0) (rm_hc l Z a0 hw [] e2_ p2 p3 T113.heap n0 Z118 f117 ge_e2_ Fa_e2_ Fb_e2_) hZ (hw _ (List.mem_of_getElem? (i := 22) rfl)) (hw _ (List.mem_of_getElem? (i := 2) rfl)) (by decide) (by decide)) q121a q121c (g := (mkF m 69 #[iv p0, iv p1, iv p2, iv p3, iv p4, iv 0, rv e1_, rv e2_, iv (((31 : Int32) * p0) + p1), iv (((31 : Int32) * p0) + p1), .unset] [(.ref e2_)])) rfl (by rw [hml]; rfl) (Steps.refl _) (argsL := []) (rest := []) (lenOf pd_2 rfl) rfl (by show 2 * 0 + _ ≤ _; exact Nat.le_of_eq rfl) (hb hby at_69) (fun _ _ => ⟨rfl, eh2, (by decide : 2 + 0 ≤ _), (by decide : 4 + 0 ≤ _)⟩)
    dsimp only [Pt.U, Pt.locs, Pt.cells, Pt.slots] at X121 l121 y121 z121 st121 hQ121
    subst l121 y121 z121
    obtain ⟨rfl, N121q, eh3⟩ := hQ121
    have N121 := Fr.app N120 N121q
    obtain ⟨cq122, kq122, q122a, q122b, q122c⟩ := isOf hZ eh3 f114
    obtain ⟨_, _, ⟨T122, L122, k122, n122⟩, -, X122, ⟨Lc122, hQ122, l122, y122, z122⟩, st122⟩ := X121.virtualBack hx (y := (⟨"com/example/errand/errand/model/Tree$Edge", "equals", "(Ljava/lang/Object;)Z"⟩ : MethodName)) (z := (⟨"com/example/errand/errand/model/Tree$Edge", "equals", "(Ljava/lang/Object;)Z"⟩ : MethodName)) hown (mvT hZ (hw _ (List.mem_of_getElem? (i := 23) rfl))) (mvT hZ (hw _ (List.mem_of_getElem? (i := 24) rfl))) (notFace_of_selects (args := #[]) (mvT hZ (hw _ (List.mem_of_getElem? (i := 26) rfl)))) (mvT hZ (hw _ (List.mem_of_getElem? (i := 26) rfl))) (mvT hZ (hw _ (List.mem_of_getElem? (i := 25) rfl))) (by decide) (backOf (W := 0) (rm_eq l Z a0 hw [] e1_ e2_ p0 p1 p2 p3 T113.heap n0 Z118 f114 ge_e1_ f115 f116 f117 ge_e2_ Fa_e2_ Fb_e2_) hZ (hw _ (List.mem_of_getElem? (i := 27) rfl)) (hw _ (List.mem_of_getElem? (i := 2) rfl)) (by decide) (by decide)) q122a q122c (g := (mkF m 104 #[iv p0, iv p1, iv p2, iv p3, iv p4, iv 0, rv e1_, rv e2_, iv (((31 : Int32) * p0) + p1), iv (((31 : Int32) * p0) + p1), iv (((31 : Int32) * p2) + p3)] [(.ref e2_), (.ref e1_)])) rfl (by rw [hml]; rfl) (Steps.refl _) (argsL := [(.ref e2_)]) (rest := []) (lenOf pd_3 rfl) rfl (by show 2 * 0 + _ ≤ _; exact Nat.le_of_eq rfl) (hb hby at_104) (fun _ _ => ⟨rfl, eh3, (by decide : 2 + 0 ≤ _), (by decide : 4 + 0 ≤ _)⟩)
    dsimp only [Pt.U, Pt.locs, Pt.cells, Pt.slots] at X122 l122 y122 z122 st122 hQ122
    subst l122 y122 z122
    obtain ⟨rfl, N122q, eq1⟩ := hQ122
    have N122 := Fr.app N121 N122q
    have go123 : ∀ t, Steps p.tables e below (T122.setTop (mkF m 107 #[iv p0, iv p1, iv p2, iv p3, iv p4, iv 0, rv e1_, rv e2_, iv (((31 : Int32) * p0) + p1), iv (((31 : Int32) * p0) + p1), iv (((31 : Int32) * p2) + p3)] [(.int (own_eqE p0 p1 p2 p3))])) t → Steps p.tables e below O t := fun t k => go101 t (by
      refine XS.ifYes X0.here hx rfl (pc0 := 4) (pc' := 11) rfl (hb hby at_4) rfl ((if0 _ _).trans (teq (hc : (p4 &&& (1 : Int32)) = (0 : Int32))).1) (by decide) (by decide) ?_
      show Steps _ _ _ (s₁.setTop (mkF m 11 _ [])) _
      refine XS.iconst X0.here hx rfl (hb hby at_11) ?_
      show Steps _ _ _ (s₁.setTop (mkF m 12 _ [(.int 0)])) _
      refine XS.istore X0.here hx rfl (hb hby at_12) rfl (l' := #[iv p0, iv p1, iv p2, iv p3, iv p4, iv 0, .unset, .unset, .unset, .unset, .unset]) rfl ?_
      show Steps _ _ _ (s₁.setTop (mkF m 14 _ [])) _
      refine st102 _ ?_
      show Steps _ _ _ (T102.setTop (mkF m 17 _ [(.ref e1_)])) _
      refine XS.dup X102.here hx rfl (hb hby at_17) rfl rfl ?_
      show Steps _ _ _ (T102.setTop (mkF m 18 _ [(.ref e1_), (.ref e1_)])) _
      refine XS.iloadN X102.here hx rfl (hb hby at_18) rfl ?_
      show Steps _ _ _ (T102.setTop (mkF m 19 _ [(.int p0), (.ref e1_), (.ref e1_)])) _
      refine XS.iloadN X102.here hx rfl (hb hby at_19) rfl ?_
      show Steps _ _ _ (T102.setTop (mkF m 20 _ [(.int p1), (.int p0), (.ref e1_), (.ref e1_)])) _
      refine st104.trans ?_
      show Steps _ _ _ (T104.setTop (mkF m 23 _ [(.ref e1_)])) _
      refine XS.astore X104.here hx rfl (hb hby at_23) rfl rfl (l' := #[iv p0, iv p1, iv p2, iv p3, iv p4, iv 0, rv e1_, .unset, .unset, .unset, .unset]) rfl ?_
      show Steps _ _ _ (T104.setTop (mkF m 25 _ [])) _
      refine XS.iload X104.here hx rfl (hb hby at_25) rfl ?_
      show Steps _ _ _ (T104.setTop (mkF m 27 _ [(.int 0)])) _
      refine XS.ifYes X104.here hx rfl (pc0 := 27) (pc' := 42) rfl (hb hby at_27) rfl ((if0 _ _).trans (teq (by decide : (0 : Int32) = (0 : Int32))).1) (by decide) (by decide) ?_
      show Steps _ _ _ (T104.setTop (mkF m 42 _ [])) _
      refine st107 _ ?_
      show Steps _ _ _ (T107.setTop (mkF m 45 _ [(.ref e2_)])) _
      refine XS.dup X107.here hx rfl (hb hby at_45) rfl rfl ?_
      show Steps _ _ _ (T107.setTop (mkF m 46 _ [(.ref e2_), (.ref e2_)])) _
      refine XS.iloadN X107.here hx rfl (hb hby at_46) rfl ?_
      show Steps _ _ _ (T107.setTop (mkF m 47 _ [(.int p2), (.ref e2_), (.ref e2_)])) _
      refine XS.iloadN X107.here hx rfl (hb hby at_47) rfl ?_
      show Steps _ _ _ (T107.setTop (mkF m 48 _ [(.int p3), (.int p2), (.ref e2_), (.ref e2_)])) _
      refine st113.trans ?_
      show Steps _ _ _ (T113.setTop (mkF m 51 _ [(.ref e2_)])) _
      refine XS.astore X113.here hx rfl (hb hby at_51) rfl rfl (l' := #[iv p0, iv p1, iv p2, iv p3, iv p4, iv 0, rv e1_, rv e2_, .unset, .unset, .unset]) rfl ?_
      show Steps _ _ _ (T113.setTop (mkF m 53 _ [])) _
      refine XS.aload X113.here hx rfl (hb hby at_53) rfl rfl ?_
      show Steps _ _ _ (T113.setTop (mkF m 55 _ [(.ref e1_)])) _
      refine st119.trans ?_
      show Steps _ _ _ (T119.setTop (mkF m 58 _ [(.int (((31 : Int32) * p0) + p1))])) _
      refine XS.istore X119.here hx rfl (hb hby at_58) rfl (l' := #[iv p0, iv p1, iv p2, iv p3, iv p4, iv 0, rv e1_, rv e2_, iv (((31 : Int32) * p0) + p1), .unset, .unset]) rfl ?_
      show Steps _ _ _ (T119.setTop (mkF m 60 _ [])) _
      refine XS.aload X119.here hx rfl (hb hby at_60) rfl rfl ?_
      show Steps _ _ _ (T119.setTop (mkF m 62 _ [(.ref e1_)])) _
      refine st120.trans ?_
      show Steps _ _ _ (T120.setTop (mkF m 65 _ [(.int (((31 : Int32) * p0) + p1))])) _
      refine XS.istore X120.here hx rfl (hb hby at_65) rfl (l' := #[iv p0, iv p1, iv p2, iv p3, iv p4, iv 0, rv e1_, rv e2_, iv (((31 : Int32) * p0) + p1), iv (((31 : Int32) * p0) + p1), .unset]) rfl ?_
      show Steps _ _ _ (T120.setTop (mkF m 67 _ [])) _
      refine XS.aload X120.here hx rfl (hb hby at_67) rfl rfl ?_
      show Steps _ _ _ (T120.setTop (mkF m 69 _ [(.ref e2_)])) _
      refine st121.trans ?_
      show Steps _ _ _ (T121.setTop (mkF m 72 _ [(.int (((31 : Int32) * p2) + p3))])) _
      refine XS.istore X121.here hx rfl (hb hby at_72) rfl (l' := #[iv p0, iv p1, iv p2, iv p3, iv p4, iv 0, rv e1_, rv e2_, iv (((31 : Int32) * p0) + p1), iv (((31 : Int32) * p0) + p1), iv (((31 : Int32) * p2) + p3)]) rfl ?_
      show Steps _ _ _ (T121.setTop (mkF m 74 _ [])) _
      refine XS.iload X121.here hx rfl (hb hby at_74) rfl ?_
      show Steps _ _ _ (T121.setTop (mkF m 76 _ [(.int (((31 : Int32) * p0) + p1))])) _
      refine XS.iload X121.here hx rfl (hb hby at_76) rfl ?_
      show Steps _ _ _ (T121.setTop (mkF m 78 _ [(.int (((31 : Int32) * p0) + p1)), (.int (((31 : Int32) * p0) + p1))])) _
      refine XS.icmpYes X121.here hx rfl (pc0 := 78) (pc' := 83) rfl (hb hby at_78) rfl (teq (rfl : (((31 : Int32) * p0) + p1) = (((31 : Int32) * p0) + p1))).1 (by decide) (by decide) ?_
      show Steps _ _ _ (T121.setTop (mkF m 83 _ [])) _
      refine XS.iload X121.here hx rfl (hb hby at_83) rfl ?_
      show Steps _ _ _ (T121.setTop (mkF m 85 _ [(.int 0)])) _
      refine XS.ifYes X121.here hx rfl (pc0 := 85) (pc' := 100) rfl (hb hby at_85) rfl ((if0 _ _).trans (teq (by decide : (0 : Int32) = (0 : Int32))).1) (by decide) (by decide) ?_
      show Steps _ _ _ (T121.setTop (mkF m 100 _ [])) _
      refine XS.aload X121.here hx rfl (hb hby at_100) rfl rfl ?_
      show Steps _ _ _ (T121.setTop (mkF m 102 _ [(.ref e1_)])) _
      refine XS.aload X121.here hx rfl (hb hby at_102) rfl rfl ?_
      show Steps _ _ _ (T121.setTop (mkF m 104 _ [(.ref e2_), (.ref e1_)])) _
      refine st122.trans ?_
      show Steps _ _ _ (T122.setTop (mkF m 107 _ [(.int (own_eqE p0 p1 p2 p3))])) _
      exact k)
    by_cases hd : (own_eqE p0 p1 p2 p3) = (0 : Int32)
    · have go124 : ∀ t, Steps p.tables e below (T122.setTop (mkF m 124 #[iv p0, iv p1, iv p2, iv p3, iv p4, iv 0, rv e1_, rv e2_, iv (((31 : Int32) * p0) + p1), iv (((31 : Int32) * p0) + p1), iv (((31 : Int32) * p2) + p3)] [(.int 1)])) t → Steps p.tables e below O t := fun t k => go123 t (by
        refine XS.ifYes X122.here hx rfl (pc0 := 107) (pc' := 123) rfl (hb hby at_107) rfl ((if0 _ _).trans (teq (hd : (own_eqE p0 p1 p2 p3) = (0 : Int32))).1) (by decide) (by decide) ?_
        show Steps _ _ _ (T122.setTop (mkF m 123 _ [])) _
        refine XS.iconst X122.here hx rfl (hb hby at_123) ?_
        show Steps _ _ _ (T122.setTop (mkF m 124 _ [(.int 1)])) _
        exact k)
      subst hO
      obtain ⟨fs, hr, hrun, hended, hW, hsame⟩ := X122.leave (v := some (.int 1)) (fun h => by rw [Bd.returns] at h; cases h)
      refine ⟨_, _, go124 _ ?_, hrun, hended, _, _, rfl, ?_, ⟨_, rfl⟩, hW, hsame.mono (by decide) (by decide)⟩
      · exact retN X122 hx (t := .boolean) Bd.returns (by simp) (hb hby at_124) hr
      · show Q_law Z p0 p1 p2 p3 p4 h0 n0 _ T122.heap _
        rw [eq1]
        exact ⟨rfl, N122⟩
    · have go126 : ∀ t, Steps p.tables e below (T122.setTop (mkF m 122 #[iv p0, iv p1, iv p2, iv p3, iv p4, iv 0, rv e1_, rv e2_, iv (((31 : Int32) * p0) + p1), iv (((31 : Int32) * p0) + p1), iv (((31 : Int32) * p2) + p3)] [(.int 1)])) t → Steps p.tables e below O t := fun t k => go123 t (by
        refine XS.ifNo X122.here hx rfl (hb hby at_107) rfl ((if0 _ _).trans (feq (hd : ¬ ((own_eqE p0 p1 p2 p3) = (0 : Int32)))).1) ?_
        show Steps _ _ _ (T122.setTop (mkF m 110 _ [])) _
        refine XS.iload X122.here hx rfl (hb hby at_110) rfl ?_
        show Steps _ _ _ (T122.setTop (mkF m 112 _ [(.int (((31 : Int32) * p0) + p1))])) _
        refine XS.iload X122.here hx rfl (hb hby at_112) rfl ?_
        show Steps _ _ _ (T122.setTop (mkF m 114 _ [(.int (((31 : Int32) * p2) + p3)), (.int (((31 : Int32) * p0) + p1))])) _
        refine XS.icmpNo X122.here hx rfl (hb hby at_114) rfl (teq (own_hash hd : (((31 : Int32) * p0) + p1) = (((31 : Int32) * p2) + p3))).2 ?_
        show Steps _ _ _ (T122.setTop (mkF m 117 _ [])) _
        refine XS.iconst X122.here hx rfl (hb hby at_117) ?_
        show Steps _ _ _ (T122.setTop (mkF m 118 _ [(.int 1)])) _
        refine XS.goto X122.here hx rfl (pc0 := 118) (pc' := 122) rfl (hb hby at_118) (by decide) (by decide) ?_
        show Steps _ _ _ (T122.setTop (mkF m 122 _ [(.int 1)])) _
        exact k)
      subst hO
      obtain ⟨fs, hr, hrun, hended, hW, hsame⟩ := X122.leave (v := some (.int 1)) (fun h => by rw [Bd.returns] at h; cases h)
      refine ⟨_, _, go126 _ ?_, hrun, hended, _, _, rfl, ?_, ⟨_, rfl⟩, hW, hsame.mono (by decide) (by decide)⟩
      · exact retN X122 hx (t := .boolean) Bd.returns (by simp) (hb hby at_122) hr
      · show Q_law Z p0 p1 p2 p3 p4 h0 n0 _ T122.heap _
        rw [eq1]
        exact ⟨rfl, N122⟩
  · obtain ⟨T128, h128, X128, e128, E128, A128, D128, -, st128⟩ := newO X0 hx hZ hown (hw _ (List.mem_of_getElem? (i := 0) rfl)) (hw _ (List.mem_of_getElem? (i := 1) rfl)) (hw _ (List.mem_of_getElem? (i := 2) rfl)) e0 (g := (mkF m 14 #[iv p0, iv p1, iv p2, iv p3, iv p4, iv 1, .unset, .unset, .unset, .unset, .unset] [])) rfl (hb hby at_14) (by decide) (by decide)
    obtain ⟨e1_, g128⟩ : ∃ z, z = h0.size := ⟨_, rfl⟩
    have ge_e1_ : n0 ≤ e1_ := Nat.le_trans Z0 (Nat.le_of_eq g128.symm)
    rw [← g128] at A128 D128 st128
    have Z129 := Nat.le_trans Z0 E128.1
    have F_a_e1_ : Fld Z h128 e1_ "com/example/errand/errand/model/Tree$Edge" "a" "I" (.int 0) := D128 (Or.inr (hw _ (List.mem_of_getElem? (i := 15) rfl))) (ty := .int) (by decide)
    have F_b_e1_ : Fld Z h128 e1_ "com/example/errand/errand/model/Tree$Edge" "b" "I" (.int 0) := D128 (Or.inr (hw _ (List.mem_of_getElem? (i := 17) rfl))) (ty := .int) (by decide)
    obtain ⟨_, _, ⟨T130, L130, k130, n130⟩, -, X130, ⟨Lc130, hQ130, l130, y130, z130⟩, st130⟩ := X128.specialBack hx (y := (⟨"com/example/errand/errand/model/Tree$Edge", "<init>", "(II)V"⟩ : MethodName)) rfl hown (mvT hZ (hw _ (List.mem_of_getElem? (i := 3) rfl))) (mvT hZ (hw _ (List.mem_of_getElem? (i := 4) rfl))) (mvT hZ (hw _ (List.mem_of_getElem? (i := 5) rfl))) (by decide) (backOf (W := 1) (rm_ed l Z a0 hw [] e1_ p0 p1  h128 n0 Z129 A128 ge_e1_ F_a_e1_ F_b_e1_) hZ (hw _ (List.mem_of_getElem? (i := 5) rfl)) (hw _ (List.mem_of_getElem? (i := 2) rfl)) (by decide) (by decide)) (g := (mkF m 20 #[iv p0, iv p1, iv p2, iv p3, iv p4, iv 1, .unset, .unset, .unset, .unset, .unset] [(.int p1), (.int p0), (.ref e1_), (.ref e1_)])) rfl (by rw [hml]; rfl) (Steps.refl _) (a := e1_) (argsL := [(.int p0), (.int p1)]) (rest := [(.ref e1_)]) (lenOf pd_1 rfl) rfl (by show 2 * 0 + _ ≤ _; exact Nat.le_of_eq rfl) (hb hby at_20) (fun _ _ => ⟨rfl, e128, (by decide : 1 + 0 ≤ _), (by decide : 2 + 0 ≤ _)⟩)
    dsimp only [Pt.U, Pt.locs, Pt.cells, Pt.slots] at X130 l130 y130 z130 st130 hQ130
    subst l130 y130 z130
    obtain ⟨rfl, N130q, Ke1_, Ee1_, Fa_e1_, Fb_e1_⟩ := hQ130
    have N130 := Fr.app N0 N130q
    have f131 := A128.keep Ke1_
    have Z132 := Nat.le_trans Z129 Ke1_.1
    obtain ⟨T133, h133, X133, e133, E133, A133, D133, -, st133⟩ := newO X130 hx hZ hown (hw _ (List.mem_of_getElem? (i := 0) rfl)) (hw _ (List.mem_of_getElem? (i := 1) rfl)) (hw _ (List.mem_of_getElem? (i := 2) rfl)) rfl (g := (mkF m 30 #[iv p0, iv p1, iv p2, iv p3, iv p4, iv 1, rv e1_, .unset, .unset, .unset, .unset] [])) rfl (hb hby at_30) (by decide) (by decide)
    obtain ⟨e2_, g133⟩ : ∃ z, z = T130.heap.size := ⟨_, rfl⟩
    have ne134 : e1_ ≠ e2_ := Nat.ne_of_lt (Nat.lt_of_lt_of_le f131.lt (Nat.le_of_eq g133.symm))
    have ge_e2_ : n0 ≤ e2_ := Nat.le_trans Z132 (Nat.le_of_eq g133.symm)
    rw [← g133] at A133 D133 st133
    have f135 := f131.ext E133
    have f136 := Fa_e1_.ext E133
    have f137 := Fb_e1_.ext E133
    have Z138 := Nat.le_trans Z132 E133.1
    have F_a_e2_ : Fld Z h133 e2_ "com/example/errand/errand/model/Tree$Edge" "a" "I" (.int 0) := D133 (Or.inr (hw _ (List.mem_of_getElem? (i := 15) rfl))) (ty := .int) (by decide)
    have F_b_e2_ : Fld Z h133 e2_ "com/example/errand/errand/model/Tree$Edge" "b" "I" (.int 0) := D133 (Or.inr (hw _ (List.mem_of_getElem? (i := 17) rfl))) (ty := .int) (by decide)
    obtain ⟨_, _, ⟨T139, L139, k139, n139⟩, -, X139, ⟨Lc139, hQ139, l139, y139, z139⟩, st139⟩ := X133.specialBack hx (y := (⟨"com/example/errand/errand/model/Tree$Edge", "<init>", "(II)V"⟩ : MethodName)) rfl hown (mvT hZ (hw _ (List.mem_of_getElem? (i := 3) rfl))) (mvT hZ (hw _ (List.mem_of_getElem? (i := 4) rfl))) (mvT hZ (hw _ (List.mem_of_getElem? (i := 5) rfl))) (by decide) (backOf (W := 1) (rm_ed l Z a0 hw [] e2_ p0 p1  h133 n0 Z138 A133 ge_e2_ F_a_e2_ F_b_e2_) hZ (hw _ (List.mem_of_getElem? (i := 5) rfl)) (hw _ (List.mem_of_getElem? (i := 2) rfl)) (by decide) (by decide)) (g := (mkF m 36 #[iv p0, iv p1, iv p2, iv p3, iv p4, iv 1, rv e1_, .unset, .unset, .unset, .unset] [(.int p1), (.int p0), (.ref e2_), (.ref e2_)])) rfl (by rw [hml]; rfl) (Steps.refl _) (a := e2_) (argsL := [(.int p0), (.int p1)]) (rest := [(.ref e2_)]) (lenOf pd_1 rfl) rfl (by show 2 * 0 + _ ≤ _; exact Nat.le_of_eq rfl) (hb hby at_36) (fun _ _ => ⟨rfl, e133, (by decide : 2 + 0 ≤ _), (by decide : 4 + 0 ≤ _)⟩)
    dsimp only [Pt.U, Pt.locs, Pt.cells, Pt.slots] at X139 l139 y139 z139 st139 hQ139
    subst l139 y139 z139
    obtain ⟨rfl, N139q, Ke2_, Ee2_, Fa_e2_, Fb_e2_⟩ := hQ139
    have N139 := Fr.app N130 N139q
    have f140 := f135.keep Ke2_
    have f141 := f136.keep Ke2_ (ninS ne134 nin0)
    have f142 := f137.keep Ke2_ (ninS ne134 nin0)
    have f143 := A133.keep Ke2_
    have Z144 := Nat.le_trans Z138 Ke2_.1
    obtain ⟨cq145, kq145, q145a, q145b, q145c⟩ := isOf hZ rfl f140
    obtain ⟨_, _, ⟨T145, L145, k145, n145⟩, -, X145, ⟨Lc145, hQ145, l145, y145, z145⟩, st145⟩ := X139.virtualBack hx (y := (⟨"com/example/errand/errand/model/Tree$Edge", "hashCode", "()I"⟩ : MethodName)) (z := (⟨"com/example/errand/errand/model/Tree$Edge", "hashCode", "()I"⟩ : MethodName)) hown (mvT hZ (hw _ (List.mem_of_getElem? (i := 18) rfl))) (mvT hZ (hw _ (List.mem_of_getElem? (i := 19) rfl))) (notFace_of_selects (args := #[]) (mvT hZ (hw _ (List.mem_of_getElem? (i := 21) rfl)))) (mvT hZ (hw _ (List.mem_of_getElem? (i := 21) rfl))) (mvT hZ (hw _ (List.mem_of_getElem? (i := 20) rfl))) (by decide) (backOf (W := 0) (rm_hc l Z a0 hw [] e1_ p0 p1 T139.heap n0 Z144 f140 ge_e1_ f141 f142) hZ (hw _ (List.mem_of_getElem? (i := 22) rfl)) (hw _ (List.mem_of_getElem? (i := 2) rfl)) (by decide) (by decide)) q145a q145c (g := (mkF m 55 #[iv p0, iv p1, iv p2, iv p3, iv p4, iv 1, rv e1_, rv e2_, .unset, .unset, .unset] [(.ref e1_)])) rfl (by rw [hml]; rfl) (Steps.refl _) (argsL := []) (rest := []) (lenOf pd_2 rfl) rfl (by show 2 * 0 + _ ≤ _; exact Nat.le_of_eq rfl) (hb hby at_55) (fun _ _ => ⟨rfl, rfl, (by decide : 2 + 0 ≤ _), (by decide : 4 + 0 ≤ _)⟩)
    dsimp only [Pt.U, Pt.locs, Pt.cells, Pt.slots] at X145 l145 y145 z145 st145 hQ145
    subst l145 y145 z145
    obtain ⟨rfl, N145q, eh1⟩ := hQ145
    have N145 := Fr.app N139 N145q
    obtain ⟨cq146, kq146, q146a, q146b, q146c⟩ := isOf hZ eh1 f140
    obtain ⟨_, _, ⟨T146, L146, k146, n146⟩, -, X146, ⟨Lc146, hQ146, l146, y146, z146⟩, st146⟩ := X145.virtualBack hx (y := (⟨"com/example/errand/errand/model/Tree$Edge", "hashCode", "()I"⟩ : MethodName)) (z := (⟨"com/example/errand/errand/model/Tree$Edge", "hashCode", "()I"⟩ : MethodName)) hown (mvT hZ (hw _ (List.mem_of_getElem? (i := 18) rfl))) (mvT hZ (hw _ (List.mem_of_getElem? (i := 19) rfl))) (notFace_of_selects (args := #[]) (mvT hZ (hw _ (List.mem_of_getElem? (i := 21) rfl)))) (mvT hZ (hw _ (List.mem_of_getElem? (i := 21) rfl))) (mvT hZ (hw _ (List.mem_of_getElem? (i := 20) rfl))) (by decide) (backOf (W := 0) (rm_hc l Z a0 hw [] e1_ p0 p1 T139.heap n0 Z144 f140 ge_e1_ f141 f142) hZ (hw _ (List.mem_of_getElem? (i := 22) rfl)) (hw _ (List.mem_of_getElem? (i := 2) rfl)) (by decide) (by decide)) q146a q146c (g := (mkF m 62 #[iv p0, iv p1, iv p2, iv p3, iv p4, iv 1, rv e1_, rv e2_, iv (((31 : Int32) * p0) + p1), .unset, .unset] [(.ref e1_)])) rfl (by rw [hml]; rfl) (Steps.refl _) (argsL := []) (rest := []) (lenOf pd_2 rfl) rfl (by show 2 * 0 + _ ≤ _; exact Nat.le_of_eq rfl) (hb hby at_62) (fun _ _ => ⟨rfl, eh1, (by decide : 2 + 0 ≤ _), (by decide : 4 + 0 ≤ _)⟩)
    dsimp only [Pt.U, Pt.locs, Pt.cells, Pt.slots] at X146 l146 y146 z146 st146 hQ146
    subst l146 y146 z146
    obtain ⟨rfl, N146q, eh2⟩ := hQ146
    have N146 := Fr.app N145 N146q
    obtain ⟨cq147, kq147, q147a, q147b, q147c⟩ := isOf hZ eh2 f143
    obtain ⟨_, _, ⟨T147, L147, k147, n147⟩, -, X147, ⟨Lc147, hQ147, l147, y147, z147⟩, st147⟩ := X146.virtualBack hx (y := (⟨"com/example/errand/errand/model/Tree$Edge", "hashCode", "()I"⟩ : MethodName)) (z := (⟨"com/example/errand/errand/model/Tree$Edge", "hashCode", "()I"⟩ : MethodName)) hown (mvT hZ (hw _ (List.mem_of_getElem? (i := 18) rfl))) (mvT hZ (hw _ (List.mem_of_getElem? (i := 19) rfl))) (notFace_of_selects (args := #[]) (mvT hZ (hw _ (List.mem_of_getElem? (i := 21) rfl)))) (mvT hZ (hw _ (List.mem_of_getElem? (i := 21) rfl))) (mvT hZ (hw _ (List.mem_of_getElem? (i := 20) rfl))) (by decide) (backOf (W := 0) (rm_hc l Z a0 hw [] e2_ p0 p1 T139.heap n0 Z144 f143 ge_e2_ Fa_e2_ Fb_e2_) hZ (hw _ (List.mem_of_getElem? (i := 22) rfl)) (hw _ (List.mem_of_getElem? (i := 2) rfl)) (by decide) (by decide)) q147a q147c (g := (mkF m 69 #[iv p0, iv p1, iv p2, iv p3, iv p4, iv 1, rv e1_, rv e2_, iv (((31 : Int32) * p0) + p1), iv (((31 : Int32) * p0) + p1), .unset] [(.ref e2_)])) rfl (by rw [hml]; rfl) (Steps.refl _) (argsL := []) (rest := []) (lenOf pd_2 rfl) rfl (by show 2 * 0 + _ ≤ _; exact Nat.le_of_eq rfl) (hb hby at_69) (fun _ _ => ⟨rfl, eh2, (by decide : 2 + 0 ≤ _), (by decide : 4 + 0 ≤ _)⟩)
    dsimp only [Pt.U, Pt.locs, Pt.cells, Pt.slots] at X147 l147 y147 z147 st147 hQ147
    subst l147 y147 z147
    obtain ⟨rfl, N147q, eh3⟩ := hQ147
    have N147 := Fr.app N146 N147q
    obtain ⟨cq148, kq148, q148a, q148b, q148c⟩ := isOf hZ eh3 f140
    obtain ⟨_, _, ⟨T148, L148, k148, n148⟩, -, X148, ⟨Lc148, hQ148, l148, y148, z148⟩, st148⟩ := X147.virtualBack hx (y := (⟨"com/example/errand/errand/model/Tree$Edge", "equals", "(Ljava/lang/Object;)Z"⟩ : MethodName)) (z := (⟨"com/example/errand/errand/model/Tree$Edge", "equals", "(Ljava/lang/Object;)Z"⟩ : MethodName)) hown (mvT hZ (hw _ (List.mem_of_getElem? (i := 23) rfl))) (mvT hZ (hw _ (List.mem_of_getElem? (i := 24) rfl))) (notFace_of_selects (args := #[]) (mvT hZ (hw _ (List.mem_of_getElem? (i := 26) rfl)))) (mvT hZ (hw _ (List.mem_of_getElem? (i := 26) rfl))) (mvT hZ (hw _ (List.mem_of_getElem? (i := 25) rfl))) (by decide) (backOf (W := 0) (rm_eq l Z a0 hw [] e1_ e2_ p0 p1 p0 p1 T139.heap n0 Z144 f140 ge_e1_ f141 f142 f143 ge_e2_ Fa_e2_ Fb_e2_) hZ (hw _ (List.mem_of_getElem? (i := 27) rfl)) (hw _ (List.mem_of_getElem? (i := 2) rfl)) (by decide) (by decide)) q148a q148c (g := (mkF m 92 #[iv p0, iv p1, iv p2, iv p3, iv p4, iv 1, rv e1_, rv e2_, iv (((31 : Int32) * p0) + p1), iv (((31 : Int32) * p0) + p1), iv (((31 : Int32) * p0) + p1)] [(.ref e2_), (.ref e1_)])) rfl (by rw [hml]; rfl) (Steps.refl _) (argsL := [(.ref e2_)]) (rest := []) (lenOf pd_3 rfl) rfl (by show 2 * 0 + _ ≤ _; exact Nat.le_of_eq rfl) (hb hby at_92) (fun _ _ => ⟨rfl, eh3, (by decide : 2 + 0 ≤ _), (by decide : 4 + 0 ≤ _)⟩)
    dsimp only [Pt.U, Pt.locs, Pt.cells, Pt.slots] at X148 l148 y148 z148 st148 hQ148
    subst l148 y148 z148
    obtain ⟨rfl, N148q, eq1⟩ := hQ148
    have N148 := Fr.app N147 N148q
    obtain ⟨cq149, kq149, q149a, q149b, q149c⟩ := isOf hZ eq1 f140
    obtain ⟨_, _, ⟨T149, L149, k149, n149⟩, -, X149, ⟨Lc149, hQ149, l149, y149, z149⟩, st149⟩ := X148.virtualBack hx (y := (⟨"com/example/errand/errand/model/Tree$Edge", "equals", "(Ljava/lang/Object;)Z"⟩ : MethodName)) (z := (⟨"com/example/errand/errand/model/Tree$Edge", "equals", "(Ljava/lang/Object;)Z"⟩ : MethodName)) hown (mvT hZ (hw _ (List.mem_of_getElem? (i := 23) rfl))) (mvT hZ (hw _ (List.mem_of_getElem? (i := 24) rfl))) (notFace_of_selects (args := #[]) (mvT hZ (hw _ (List.mem_of_getElem? (i := 26) rfl)))) (mvT hZ (hw _ (List.mem_of_getElem? (i := 26) rfl))) (mvT hZ (hw _ (List.mem_of_getElem? (i := 25) rfl))) (by decide) (backOf (W := 0) (rm_eq l Z a0 hw [] e1_ e2_ p0 p1 p0 p1 T139.heap n0 Z144 f140 ge_e1_ f141 f142 f143 ge_e2_ Fa_e2_ Fb_e2_) hZ (hw _ (List.mem_of_getElem? (i := 27) rfl)) (hw _ (List.mem_of_getElem? (i := 2) rfl)) (by decide) (by decide)) q149a q149c (g := (mkF m 104 #[iv p0, iv p1, iv p2, iv p3, iv p4, iv 1, rv e1_, rv e2_, iv (((31 : Int32) * p0) + p1), iv (((31 : Int32) * p0) + p1), iv (((31 : Int32) * p0) + p1)] [(.ref e2_), (.ref e1_)])) rfl (by rw [hml]; rfl) (Steps.refl _) (argsL := [(.ref e2_)]) (rest := []) (lenOf pd_3 rfl) rfl (by show 2 * 0 + _ ≤ _; exact Nat.le_of_eq rfl) (hb hby at_104) (fun _ _ => ⟨rfl, eq1, (by decide : 2 + 0 ≤ _), (by decide : 4 + 0 ≤ _)⟩)
    dsimp only [Pt.U, Pt.locs, Pt.cells, Pt.slots] at X149 l149 y149 z149 st149 hQ149
    subst l149 y149 z149
    obtain ⟨rfl, N149q, eq2⟩ := hQ149
    have N149 := Fr.app N148 N149q
    have go150 : ∀ t, Steps p.tables e below (T149.setTop (mkF m 122 #[iv p0, iv p1, iv p2, iv p3, iv p4, iv 1, rv e1_, rv e2_, iv (((31 : Int32) * p0) + p1), iv (((31 : Int32) * p0) + p1), iv (((31 : Int32) * p0) + p1)] [(.int 1)])) t → Steps p.tables e below O t := fun t k => go101 t (by
      refine XS.ifNo X0.here hx rfl (hb hby at_4) rfl ((if0 _ _).trans (feq (hc : ¬ ((p4 &&& (1 : Int32)) = (0 : Int32)))).1) ?_
      show Steps _ _ _ (s₁.setTop (mkF m 7 _ [])) _
      refine XS.iconst X0.here hx rfl (hb hby at_7) ?_
      show Steps _ _ _ (s₁.setTop (mkF m 8 _ [(.int 1)])) _
      refine XS.goto X0.here hx rfl (pc0 := 8) (pc' := 12) rfl (hb hby at_8) (by decide) (by decide) ?_
      show Steps _ _ _ (s₁.setTop (mkF m 12 _ [(.int 1)])) _
      refine XS.istore X0.here hx rfl (hb hby at_12) rfl (l' := #[iv p0, iv p1, iv p2, iv p3, iv p4, iv 1, .unset, .unset, .unset, .unset, .unset]) rfl ?_
      show Steps _ _ _ (s₁.setTop (mkF m 14 _ [])) _
      refine st128 _ ?_
      show Steps _ _ _ (T128.setTop (mkF m 17 _ [(.ref e1_)])) _
      refine XS.dup X128.here hx rfl (hb hby at_17) rfl rfl ?_
      show Steps _ _ _ (T128.setTop (mkF m 18 _ [(.ref e1_), (.ref e1_)])) _
      refine XS.iloadN X128.here hx rfl (hb hby at_18) rfl ?_
      show Steps _ _ _ (T128.setTop (mkF m 19 _ [(.int p0), (.ref e1_), (.ref e1_)])) _
      refine XS.iloadN X128.here hx rfl (hb hby at_19) rfl ?_
      show Steps _ _ _ (T128.setTop (mkF m 20 _ [(.int p1), (.int p0), (.ref e1_), (.ref e1_)])) _
      refine st130.trans ?_
      show Steps _ _ _ (T130.setTop (mkF m 23 _ [(.ref e1_)])) _
      refine XS.astore X130.here hx rfl (hb hby at_23) rfl rfl (l' := #[iv p0, iv p1, iv p2, iv p3, iv p4, iv 1, rv e1_, .unset, .unset, .unset, .unset]) rfl ?_
      show Steps _ _ _ (T130.setTop (mkF m 25 _ [])) _
      refine XS.iload X130.here hx rfl (hb hby at_25) rfl ?_
      show Steps _ _ _ (T130.setTop (mkF m 27 _ [(.int 1)])) _
      refine XS.ifNo X130.here hx rfl (hb hby at_27) rfl ((if0 _ _).trans (feq (by decide : ¬ ((1 : Int32) = (0 : Int32)))).1) ?_
      show Steps _ _ _ (T130.setTop (mkF m 30 _ [])) _
      refine st133 _ ?_
      show Steps _ _ _ (T133.setTop (mkF m 33 _ [(.ref e2_)])) _
      refine XS.dup X133.here hx rfl (hb hby at_33) rfl rfl ?_
      show Steps _ _ _ (T133.setTop (mkF m 34 _ [(.ref e2_), (.ref e2_)])) _
      refine XS.iloadN X133.here hx rfl (hb hby at_34) rfl ?_
      show Steps _ _ _ (T133.setTop (mkF m 35 _ [(.int p0), (.ref e2_), (.ref e2_)])) _
      refine XS.iloadN X133.here hx rfl (hb hby at_35) rfl ?_
      show Steps _ _ _ (T133.setTop (mkF m 36 _ [(.int p1), (.int p0), (.ref e2_), (.ref e2_)])) _
      refine st139.trans ?_
      show Steps _ _ _ (T139.setTop (mkF m 39 _ [(.ref e2_)])) _
      refine XS.goto X139.here hx rfl (pc0 := 39) (pc' := 51) rfl (hb hby at_39) (by decide) (by decide) ?_
      show Steps _ _ _ (T139.setTop (mkF m 51 _ [(.ref e2_)])) _
      refine XS.astore X139.here hx rfl (hb hby at_51) rfl rfl (l' := #[iv p0, iv p1, iv p2, iv p3, iv p4, iv 1, rv e1_, rv e2_, .unset, .unset, .unset]) rfl ?_
      show Steps _ _ _ (T139.setTop (mkF m 53 _ [])) _
      refine XS.aload X139.here hx rfl (hb hby at_53) rfl rfl ?_
      show Steps _ _ _ (T139.setTop (mkF m 55 _ [(.ref e1_)])) _
      refine st145.trans ?_
      show Steps _ _ _ (T145.setTop (mkF m 58 _ [(.int (((31 : Int32) * p0) + p1))])) _
      refine XS.istore X145.here hx rfl (hb hby at_58) rfl (l' := #[iv p0, iv p1, iv p2, iv p3, iv p4, iv 1, rv e1_, rv e2_, iv (((31 : Int32) * p0) + p1), .unset, .unset]) rfl ?_
      show Steps _ _ _ (T145.setTop (mkF m 60 _ [])) _
      refine XS.aload X145.here hx rfl (hb hby at_60) rfl rfl ?_
      show Steps _ _ _ (T145.setTop (mkF m 62 _ [(.ref e1_)])) _
      refine st146.trans ?_
      show Steps _ _ _ (T146.setTop (mkF m 65 _ [(.int (((31 : Int32) * p0) + p1))])) _
      refine XS.istore X146.here hx rfl (hb hby at_65) rfl (l' := #[iv p0, iv p1, iv p2, iv p3, iv p4, iv 1, rv e1_, rv e2_, iv (((31 : Int32) * p0) + p1), iv (((31 : Int32) * p0) + p1), .unset]) rfl ?_
      show Steps _ _ _ (T146.setTop (mkF m 67 _ [])) _
      refine XS.aload X146.here hx rfl (hb hby at_67) rfl rfl ?_
      show Steps _ _ _ (T146.setTop (mkF m 69 _ [(.ref e2_)])) _
      refine st147.trans ?_
      show Steps _ _ _ (T147.setTop (mkF m 72 _ [(.int (((31 : Int32) * p0) + p1))])) _
      refine XS.istore X147.here hx rfl (hb hby at_72) rfl (l' := #[iv p0, iv p1, iv p2, iv p3, iv p4, iv 1, rv e1_, rv e2_, iv (((31 : Int32) * p0) + p1), iv (((31 : Int32) * p0) + p1), iv (((31 : Int32) * p0) + p1)]) rfl ?_
      show Steps _ _ _ (T147.setTop (mkF m 74 _ [])) _
      refine XS.iload X147.here hx rfl (hb hby at_74) rfl ?_
      show Steps _ _ _ (T147.setTop (mkF m 76 _ [(.int (((31 : Int32) * p0) + p1))])) _
      refine XS.iload X147.here hx rfl (hb hby at_76) rfl ?_
      show Steps _ _ _ (T147.setTop (mkF m 78 _ [(.int (((31 : Int32) * p0) + p1)), (.int (((31 : Int32) * p0) + p1))])) _
      refine XS.icmpYes X147.here hx rfl (pc0 := 78) (pc' := 83) rfl (hb hby at_78) rfl (teq (rfl : (((31 : Int32) * p0) + p1) = (((31 : Int32) * p0) + p1))).1 (by decide) (by decide) ?_
      show Steps _ _ _ (T147.setTop (mkF m 83 _ [])) _
      refine XS.iload X147.here hx rfl (hb hby at_83) rfl ?_
      show Steps _ _ _ (T147.setTop (mkF m 85 _ [(.int 1)])) _
      refine XS.ifNo X147.here hx rfl (hb hby at_85) rfl ((if0 _ _).trans (feq (by decide : ¬ ((1 : Int32) = (0 : Int32)))).1) ?_
      show Steps _ _ _ (T147.setTop (mkF m 88 _ [])) _
      refine XS.aload X147.here hx rfl (hb hby at_88) rfl rfl ?_
      show Steps _ _ _ (T147.setTop (mkF m 90 _ [(.ref e1_)])) _
      refine XS.aload X147.here hx rfl (hb hby at_90) rfl rfl ?_
      show Steps _ _ _ (T147.setTop (mkF m 92 _ [(.ref e2_), (.ref e1_)])) _
      refine st148.trans ?_
      show Steps _ _ _ (T148.setTop (mkF m 95 _ [(.int (own_eqE p0 p1 p0 p1))])) _
      refine XS.ifYes X148.here hx rfl (pc0 := 95) (pc' := 100) rfl (hb hby at_95) rfl ((if0 _ _).trans (feq (own_eqE_refl p0 p1 : ¬ ((own_eqE p0 p1 p0 p1) = (0 : Int32)))).2) (by decide) (by decide) ?_
      show Steps _ _ _ (T148.setTop (mkF m 100 _ [])) _
      refine XS.aload X148.here hx rfl (hb hby at_100) rfl rfl ?_
      show Steps _ _ _ (T148.setTop (mkF m 102 _ [(.ref e1_)])) _
      refine XS.aload X148.here hx rfl (hb hby at_102) rfl rfl ?_
      show Steps _ _ _ (T148.setTop (mkF m 104 _ [(.ref e2_), (.ref e1_)])) _
      refine st149.trans ?_
      show Steps _ _ _ (T149.setTop (mkF m 107 _ [(.int (own_eqE p0 p1 p0 p1))])) _
      refine XS.ifNo X149.here hx rfl (hb hby at_107) rfl ((if0 _ _).trans (feq (own_eqE_refl p0 p1 : ¬ ((own_eqE p0 p1 p0 p1) = (0 : Int32)))).1) ?_
      show Steps _ _ _ (T149.setTop (mkF m 110 _ [])) _
      refine XS.iload X149.here hx rfl (hb hby at_110) rfl ?_
      show Steps _ _ _ (T149.setTop (mkF m 112 _ [(.int (((31 : Int32) * p0) + p1))])) _
      refine XS.iload X149.here hx rfl (hb hby at_112) rfl ?_
      show Steps _ _ _ (T149.setTop (mkF m 114 _ [(.int (((31 : Int32) * p0) + p1)), (.int (((31 : Int32) * p0) + p1))])) _
      refine XS.icmpNo X149.here hx rfl (hb hby at_114) rfl (teq (rfl : (((31 : Int32) * p0) + p1) = (((31 : Int32) * p0) + p1))).2 ?_
      show Steps _ _ _ (T149.setTop (mkF m 117 _ [])) _
      refine XS.iconst X149.here hx rfl (hb hby at_117) ?_
      show Steps _ _ _ (T149.setTop (mkF m 118 _ [(.int 1)])) _
      refine XS.goto X149.here hx rfl (pc0 := 118) (pc' := 122) rfl (hb hby at_118) (by decide) (by decide) ?_
      show Steps _ _ _ (T149.setTop (mkF m 122 _ [(.int 1)])) _
      exact k)
    subst hO
    obtain ⟨fs, hr, hrun, hended, hW, hsame⟩ := X149.leave (v := some (.int 1)) (fun h => by rw [Bd.returns] at h; cases h)
    refine ⟨_, _, go150 _ ?_, hrun, hended, _, _, rfl, ?_, ⟨_, rfl⟩, hW, hsame.mono (by decide) (by decide)⟩
    · exact retN X149 hx (t := .boolean) Bd.returns (by simp) (hb hby at_122) hr
    · show Q_law Z p0 p1 p2 p3 p4 h0 n0 _ T149.heap _
      rw [eq2]
      exact ⟨rfl, N149⟩
set_option maxRecDepth 65536 in
set_option maxHeartbeats 40000000 in
theorem comes_1 {Post : Tables → Env → Array Value → State → Outcome → State → Prop} (hpost : ∀ tb e args s v u, (limb_1_1.after args s (.returned v) u = true ∧ limb_1_2.after args s (.returned v) u = true ∧ True) → FrameEnd s (.returned v) u (Jvm.fieldLocs frame_1_writes args s ++ Jvm.arrayLocs frame_1_arrays args s ++ Jvm.staticLocs frame_1_statics s) 16 128 → Post tb e args s (.returned v) u) :
    ArmFor flags0 classFile x code maxLocals ret World_1 tables_1 room_1 Calls_1 rest_1 Pre_1 Post := by
  intro l hfl _ _ p e ha hc hk s m args below hf hA hF happ hP
  obtain ⟨hcalls, hrest, hpre⟩ := hP
  obtain ⟨-, -, -, hnamed, -, -, -, hat⟩ := (Spec.applies_iff hf).mp happ
  obtain ⟨hg, hn⟩ := and_e (Cond.before_iff.mp (show (Jvm.Cond.and given_1 narrow_1).before args s = true from hpre))
  obtain ⟨hcnt, r0⟩ := and_e hg
  obtain ⟨c0, r1⟩ := and_e r0
  obtain ⟨c1, r2⟩ := and_e r1
  obtain ⟨c2, r3⟩ := and_e r2
  obtain ⟨c3, r4⟩ := and_e r3
  obtain ⟨w0, w1, w2, w3, w4, rfl⟩ : ∃ w0 w1 w2 w3 w4 : Value, args = #[w0, w1, w2, w3, w4] := by
    have hs : args.size = 5 := by simpa [Cond.value, given_1] using hcnt
    obtain ⟨L⟩ := args
    match L, hs with
    | [w0, w1, w2, w3, w4], _ => exact ⟨w0, w1, w2, w3, w4, rfl⟩
  have hw := fun d (hd : d ∈ tables_1) => atoms_spec (ws := Jvm.Cond.code x code maxLocals ret :: tables_1) hat d (List.mem_cons_of_mem _ hd)
  obtain ⟨i0, ei0⟩ := is_v c0
  obtain rfl : w0 = (.int i0) := Option.some.inj ei0
  obtain ⟨i1, ei1⟩ := is_v c1
  obtain rfl : w1 = (.int i1) := Option.some.inj ei1
  obtain ⟨i2, ei2⟩ := is_v c2
  obtain rfl : w2 = (.int i2) := Option.some.inj ei2
  obtain ⟨i3, ei3⟩ := is_v c3
  obtain rfl : w3 = (.int i3) := Option.some.inj ei3
  obtain ⟨i4, ei4⟩ := is_v r4
  obtain rfl : w4 = (.int i4) := Option.some.inj ei4
  obtain ⟨n, o, h1, h2, h3, _, L, rfl, ⟨rfl, N⟩, hq⟩ := rm_law l s _ hw tables_1 i0 i1 i2 i3 i4 s.heap s.heap.size (Nat.le_refl _) p e ha hc hk s m _ below hf ((Spec.applies_iff_loose hf).mp happ).1 ⟨rfl, State.Warmed39.refl s, rfl⟩ trivial
  refine ⟨n, _, h1, h2, h3, hpost _ _ _ _ _ _ ⟨Cond.after_iff.mpr rfl, Cond.after_iff.mpr (eq_i res_at (Term.int_eval (1)) rfl), trivial⟩ ⟨hq.1, hq.2.1, (hq.2.2.sift fun y hy => Or.inr (N y hy)).mono (by decide) (by decide)⟩⟩
theorem main_1_1 : Claimed_1_1 := comes_1 fun _ _ _ _ _ _ h hF => ⟨h.1, hF⟩
theorem main_1_2 : Claimed_1_2 := comes_1 fun _ _ _ _ _ _ h hF => ⟨h.2.1, hF⟩
end Jvm.Pilot.@@N@@
namespace Jvm.Pilot.@@N@@
open Jvm Jvm.ClassFile Sem Op Lib Jvm.Free Jvm.Stand Jvm.Pilot.@@N@@.Jvm.D
/-! MADE BY PROGRAM (witnessworld.py) out of the Statement's table words and the real class files: 10 classes; the members and pool entries that the words name. The judged class is class 1, her method 1. -/
namespace start1
open Jvm.ClassFile
def u (s : String) : CpInfo := .utf8 (stringToUtf16 s)
/-- a pool by its gaps: so many unusable entries, then the entry; so many at the end -/
def gap : Nat → List CpInfo → List CpInfo
  | 0, r => r
  | n + 1, r => .unusable :: gap n r
def poolList (es : List (Nat × CpInfo)) (last : Nat) : List CpInfo := es.foldr (fun e r => gap e.1 (e.2 :: r)) (gap last [])
def pool (es : List (Nat × CpInfo)) (last : Nat) : Array CpInfo := ⟨poolList es last⟩
def fileOf (pool : Array CpInfo) (this : Nat) (attrs : Array Attribute := #[]) (ms : Array MethodInfo := #[]) (fl : Nat := 33) (sup : Nat := 0) (ifs : Array Nat := #[]) (fds : Array FieldInfo := #[]) : ClassFile where
  minorVersion := 0
  majorVersion := 65
  constantPool := pool
  accessFlags := fl
  thisClass := this
  superClass := sup
  interfaces := ifs
  fields := fds
  methods := ms
  attributes := attrs
def plain (name : String) (sup : Option ClassId) : Class where
  name := name
  kind := .ordinary
  loader := none
  accessFlags := 33
  super := sup
  interfaces := #[]
  cf := none
  fields := #[]
  methods := #[]
  instanceTypes := #[]
  staticTypes := #[]
  resolved := #[]
  callSites := []
  init := .initialized
  statics := none
  mirror := none

def pool0 : Array CpInfo := pool [(5, u "<init>"), (0, u "()V"), (1, .class_ 10), (1, u "java/lang/Object")] 113

def k0c0 : Code := { maxStack := 0, maxLocals := 1, code := object_method_1_code, exceptionTable := #[], attributes := #[] }
def k0m0 : Method := { name := "<init>", desc := "()V", sig := { parameters := [], returnType := none }, accessFlags := 1, code := some k0c0 }
/-- java/lang/Object -/
def k0 : Class := { plain "java/lang/Object" none with
  accessFlags := 33
  interfaces := #[]
  cf := some (fileOf pool0 8 #[] #[{ accessFlags := 1, nameIndex := 5, descriptorIndex := 6, attributes := #[] }] 33 0 #[] #[])
  fields := #[]
  methods := #[k0m0]
  instanceTypes := #[]
  staticTypes := #[]
  resolved := Array.replicate 124 none
  statics := none }

def pool1 : Array CpInfo := pool [(2, .class_ 4), (1, u "java/lang/Object"), (0, u "<init>"), (0, u "()V"), (0, .class_ 8), (0, u "com/example/errand/errand/model/Tree$Edge"), (0, .methodref 7 10), (0, .nameAndType 5 11), (0, u "(II)V"), (0, .methodref 7 13), (0, .nameAndType 14 15), (0, u "hashCode"), (0, u "()I"), (0, .methodref 7 17), (0, .nameAndType 18 19), (0, u "equals"), (0, u "(Ljava/lang/Object;)Z"), (0, .class_ 21), (0, u "com/example/errand/errand/model/EdgeHashCodePinLaw"), (2, u "law"), (0, u "(IIIII)Z")] 7

def k1m0 : Method := { name := "<init>", desc := "()V", sig := { parameters := [], returnType := none }, accessFlags := 2, code := none }
def k1c1 : Code := { maxStack := 4, maxLocals := 11, code := code, exceptionTable := #[], attributes := #[] }
def k1m1 : Method := { name := "law", desc := "(IIIII)Z", sig := { parameters := [.int, .int, .int, .int, .int], returnType := some .boolean }, accessFlags := 9, code := some k1c1 }
/-- com/example/errand/errand/model/EdgeHashCodePinLaw -/
def k1 : Class := { plain "com/example/errand/errand/model/EdgeHashCodePinLaw" (some 0) with
  accessFlags := 49
  interfaces := #[]
  cf := some (fileOf pool1 20 #[] #[{ accessFlags := 2, nameIndex := 5, descriptorIndex := 6, attributes := #[] }, { accessFlags := 9, nameIndex := 24, descriptorIndex := 25, attributes := #[] }] 49 2 #[] #[])
  fields := #[]
  methods := #[k1m0, k1m1]
  instanceTypes := #[]
  staticTypes := #[]
  resolved := Array.replicate 33 none
  statics := none }

def pool2 : Array CpInfo := pool [(1, .methodref 2 3), (0, .class_ 4), (0, .nameAndType 5 6), (0, u "java/lang/Object"), (0, u "<init>"), (0, u "()V"), (0, .class_ 8), (0, u "java/lang/Record")] 13

def k2c0 : Code := { maxStack := 1, maxLocals := 1, code := jdk_30_method_1_code, exceptionTable := #[], attributes := #[] }
def k2m0 : Method := { name := "<init>", desc := "()V", sig := { parameters := [], returnType := none }, accessFlags := 4, code := some k2c0 }
/-- java/lang/Record -/
def k2 : Class := { plain "java/lang/Record" (some 0) with
  accessFlags := 1057
  interfaces := #[]
  cf := some (fileOf pool2 7 #[] #[{ accessFlags := 4, nameIndex := 5, descriptorIndex := 6, attributes := #[] }] 1057 2 #[] #[])
  fields := #[]
  methods := #[k2m0]
  instanceTypes := #[]
  staticTypes := #[]
  resolved := Array.replicate 22 none
  statics := none }

def pool3 : Array CpInfo := pool [(1, .methodref 2 3), (0, .class_ 4), (0, .nameAndType 5 6), (0, u "java/lang/Record"), (0, u "<init>"), (0, u "()V"), (0, .fieldref 8 9), (0, .class_ 10), (0, .nameAndType 11 12), (0, u "com/example/errand/errand/model/Tree$Edge"), (0, u "a"), (0, u "I"), (0, .fieldref 8 14), (0, .nameAndType 15 12), (0, u "b"), (4, u "(II)V"), (3, u "equals"), (0, u "(Ljava/lang/Object;)Z"), (1, u "hashCode"), (0, u "()I"), (5, .class_ 35), (0, u "com/example/errand/errand/model/Tree")] 17

def k3c0 : Code := { maxStack := 2, maxLocals := 3, code := prog_27_method_1_code, exceptionTable := #[], attributes := #[] }
def k3m0 : Method := { name := "<init>", desc := "(II)V", sig := { parameters := [.int, .int], returnType := none }, accessFlags := 1, code := some k3c0 }
def k3c1 : Code := { maxStack := 2, maxLocals := 3, code := prog_27_method_2_code, exceptionTable := #[], attributes := #[] }
def k3m1 : Method := { name := "equals", desc := "(Ljava/lang/Object;)Z", sig := { parameters := [(.object "java/lang/Object")], returnType := some .boolean }, accessFlags := 1, code := some k3c1 }
def k3c2 : Code := { maxStack := 2, maxLocals := 1, code := prog_27_method_3_code, exceptionTable := #[], attributes := #[] }
def k3m2 : Method := { name := "hashCode", desc := "()I", sig := { parameters := [], returnType := some .int }, accessFlags := 1, code := some k3c2 }
/-- com/example/errand/errand/model/Tree$Edge -/
def k3 : Class := { plain "com/example/errand/errand/model/Tree$Edge" (some 2) with
  accessFlags := 49
  interfaces := #[]
  cf := some (fileOf pool3 8 #[.nestHost 34] #[{ accessFlags := 1, nameIndex := 5, descriptorIndex := 20, attributes := #[] }, { accessFlags := 1, nameIndex := 24, descriptorIndex := 25, attributes := #[] }, { accessFlags := 1, nameIndex := 27, descriptorIndex := 28, attributes := #[] }] 49 2 #[] #[{ accessFlags := 18, nameIndex := 11, descriptorIndex := 12, attributes := #[] }, { accessFlags := 18, nameIndex := 15, descriptorIndex := 12, attributes := #[] }])
  fields := #[{ name := "a", type := .int, accessFlags := 18, slot := 0, constantValue := 0 }, { name := "b", type := .int, accessFlags := 18, slot := 1, constantValue := 0 }]
  methods := #[k3m0, k3m1, k3m2]
  instanceTypes := #[.int, .int]
  staticTypes := #[]
  resolved := Array.replicate 53 none
  statics := none }

def pool4 : Array CpInfo := pool [(1, u "java/lang/Cloneable"), (0, .class_ 1), (0, u "java/lang/Object"), (0, .class_ 3)] 3

/-- java/lang/Cloneable -/
def k4 : Class := { plain "java/lang/Cloneable" (some 0) with
  accessFlags := 1537
  interfaces := #[]
  cf := some (fileOf pool4 2 #[] #[] 1537 4 #[] #[])
  fields := #[]
  methods := #[]
  instanceTypes := #[]
  staticTypes := #[]
  resolved := Array.replicate 8 none
  statics := none }

def pool5 : Array CpInfo := pool [(1, u "java/io/Serializable"), (0, .class_ 1), (0, u "java/lang/Object"), (0, .class_ 3)] 3

/-- java/io/Serializable -/
def k5 : Class := { plain "java/io/Serializable" (some 0) with
  accessFlags := 1537
  interfaces := #[]
  cf := some (fileOf pool5 2 #[] #[] 1537 4 #[] #[])
  fields := #[]
  methods := #[]
  instanceTypes := #[]
  staticTypes := #[]
  resolved := Array.replicate 8 none
  statics := none }

/-- the primitive byte -/
def k6 : Class := { plain "byte" none with kind := .primitive 'B', accessFlags := 0x411 }
/-- [B -/
def k7 : Class := { plain "[B" (some 0) with kind := .array 6 .byte, interfaces := #[4, 5], accessFlags := 1041 }

/-- the primitive int -/
def k8 : Class := { plain "int" none with kind := .primitive 'I', accessFlags := 0x411 }
/-- [I -/
def k9 : Class := { plain "[I" (some 0) with kind := .array 8 .int, interfaces := #[4, 5], accessFlags := 1041 }

def heap : Heap := #[]
def classes : Array Class := #[k0, k1, k2, k3, k4, k5, k6, k7, k8, k9]
def interned : List (Array UInt16 × Addr) := []
def slotsUsed : Nat := 0
def theMethod : MethodId := ⟨1, 1⟩
def args0 : Array Value := #[.int 5, .int 3, .int 7, .int 2, .int 1]
def aboutOver (below : List Frame) : State where
  vm := { classes := classes, interned := interned.toArray }
  heap := heap
  slotsUsed := slotsUsed
  threads := #[{ frames := .invoking theMethod args0 :: below }]
def below0 : List Frame := [.native { method := ⟨0, 0⟩, args := #[] }]
def about1 : State := aboutOver below0
def p0 : Program := .bare "" "" ""
def e0 : Env := launch0.env 0 0 0
theorem w_frames : about1.frames = Frame.invoking theMethod args0 :: below0 := rfl
set_option maxRecDepth 65536 in
theorem w_args : argsFit about1.vm theMethod args0 = true := by decide +kernel
set_option maxRecDepth 65536 in
theorem w_heap : heapFits about1 = true := by decide +kernel
set_option maxRecDepth 65536 in
theorem w_runnable : about1.curStatus? = some .runnable := by decide +kernel
set_option maxRecDepth 65536 in
theorem w_alone : about1.alone = true := by decide +kernel
set_option maxRecDepth 65536 in
theorem w_named : about1.methodNamed? x = some theMethod := by decide +kernel
set_option maxRecDepth 65536 in
theorem w_hears : about1.hears theMethod below0 = true := by decide +kernel
set_option maxRecDepth 65536 in
theorem w_ripe : about1.ripe theMethod args0 below0 = true := by decide +kernel
theorem w_running : about1.status = .running := rfl
set_option maxRecDepth 65536 in
theorem w_room : about1.hasRoom e0.platform room_1 = true :=
  launch0.hasRoom_least _ room_1 (by decide +kernel) (by decide +kernel) (by decide +kernel) (by decide +kernel) (by decide +kernel) (by decide +kernel)
theorem allAtoms_all (ts : List Jvm.Cond) (a : Array Jvm.Value) (st : Jvm.State) : (allAtoms ts).before a st = ts.all (fun c => c.before a st) := by
  induction ts with
  | nil => rfl
  | cons c t ih =>
    show (Jvm.Cond.and c (allAtoms t)).before a st = _
    rw [Jvm.Cond.before_and, ih, List.all_cons]
def words1 : List Jvm.Cond := Jvm.Cond.code x code maxLocals ret :: tables_1
/-- a 'code' word, met by the world's own term for the bytes: nothing is compared byte by byte -/
theorem code_word {y : MethodName} {bytes : ByteArray} {mx : Nat} {rt : Option FieldType} {a : Array Value} {s : State} {m : MethodId} {meth : Method} {c : Code} (h1 : s.methodNamed? y = some m) (h2 : s.vm.method? m = some meth) (h3 : meth.code = some c) (h4 : c.code = bytes)
    (h5 : (c.maxLocals == mx && c.exceptionTable.isEmpty && decide (c.maxStack ≤ mostOperands) && decide (meth.sig.returnType = rt) && !meth.locks && decide (parseMethodDescriptor y.desc = some meth.sig)) = true) : (Jvm.Cond.code y bytes mx rt).before a s = true := by
  simp only [Bool.and_eq_true, beq_iff_eq, Bool.not_eq_true', decide_eq_true_eq] at h5
  obtain ⟨⟨⟨⟨⟨g1, g2⟩, g3⟩, g4⟩, g5⟩, g6⟩ := h5
  simp [Cond.before, Cond.holds, Cond.value, h1, h2, h3, h4, g1, g2, g3, g4, g5, g6]
def isCode : Jvm.Cond → Bool
  | .code _ _ _ _ => true
  | _ => false
theorem all_split {L : List Jvm.Cond} {P : Jvm.Cond → Bool} (h1 : L.all (fun c => isCode c || P c) = true) (h2 : ∀ c ∈ L.filter isCode, P c = true) : L.all P = true := by
  refine List.all_eq_true.mpr fun c hc => ?_
  have h := List.all_eq_true.mp h1 c hc
  rcases Bool.eq_false_or_eq_true (isCode c) with hi | hi
  · exact h2 c (List.mem_filter.mpr ⟨hc, hi⟩)
  · simpa [hi] using h
set_option maxRecDepth 65536 in
theorem w_c0 : (Jvm.Cond.code x code maxLocals ret).before args0 about1 = true := code_word (m := ⟨1, 1⟩) (meth := k1m1) (c := k1c1) (by decide +kernel) rfl rfl rfl (by decide +kernel)
set_option maxRecDepth 65536 in
theorem w_c1 : (Jvm.Cond.code ({ cls := "com/example/errand/errand/model/Tree$Edge", name := "<init>", desc := "(II)V" } : Jvm.MethodName) prog_27_method_1_code (3 : Nat) (Option.none : Option Jvm.ClassFile.FieldType)).before args0 about1 = true := code_word (m := ⟨3, 0⟩) (meth := k3m0) (c := k3c0) (by decide +kernel) rfl rfl rfl (by decide +kernel)
set_option maxRecDepth 65536 in
theorem w_c2 : (Jvm.Cond.code ({ cls := "java/lang/Record", name := "<init>", desc := "()V" } : Jvm.MethodName) jdk_30_method_1_code (1 : Nat) (Option.none : Option Jvm.ClassFile.FieldType)).before args0 about1 = true := code_word (m := ⟨2, 0⟩) (meth := k2m0) (c := k2c0) (by decide +kernel) rfl rfl rfl (by decide +kernel)
set_option maxRecDepth 65536 in
theorem w_c3 : (Jvm.Cond.code ({ cls := "java/lang/Object", name := "<init>", desc := "()V" } : Jvm.MethodName) object_method_1_code (1 : Nat) (Option.none : Option Jvm.ClassFile.FieldType)).before args0 about1 = true := code_word (m := ⟨0, 0⟩) (meth := k0m0) (c := k0c0) (by decide +kernel) rfl rfl rfl (by decide +kernel)
set_option maxRecDepth 65536 in
theorem w_c4 : (Jvm.Cond.code ({ cls := "com/example/errand/errand/model/Tree$Edge", name := "hashCode", desc := "()I" } : Jvm.MethodName) prog_27_method_3_code (1 : Nat) (Option.some Jvm.ClassFile.FieldType.int)).before args0 about1 = true := code_word (m := ⟨3, 2⟩) (meth := k3m2) (c := k3c2) (by decide +kernel) rfl rfl rfl (by decide +kernel)
set_option maxRecDepth 65536 in
theorem w_c5 : (Jvm.Cond.code ({ cls := "com/example/errand/errand/model/Tree$Edge", name := "equals", desc := "(Ljava/lang/Object;)Z" } : Jvm.MethodName) prog_27_method_2_code (3 : Nat) (Option.some Jvm.ClassFile.FieldType.boolean)).before args0 about1 = true := code_word (m := ⟨3, 1⟩) (meth := k3m1) (c := k3c1) (by decide +kernel) rfl rfl rfl (by decide +kernel)
def codes1 : List Jvm.Cond := [Jvm.Cond.code x code maxLocals ret, Jvm.Cond.code ({ cls := "com/example/errand/errand/model/Tree$Edge", name := "<init>", desc := "(II)V" } : Jvm.MethodName) prog_27_method_1_code (3 : Nat) (Option.none : Option Jvm.ClassFile.FieldType), Jvm.Cond.code ({ cls := "java/lang/Record", name := "<init>", desc := "()V" } : Jvm.MethodName) jdk_30_method_1_code (1 : Nat) (Option.none : Option Jvm.ClassFile.FieldType), Jvm.Cond.code ({ cls := "java/lang/Object", name := "<init>", desc := "()V" } : Jvm.MethodName) object_method_1_code (1 : Nat) (Option.none : Option Jvm.ClassFile.FieldType), Jvm.Cond.code ({ cls := "com/example/errand/errand/model/Tree$Edge", name := "hashCode", desc := "()I" } : Jvm.MethodName) prog_27_method_3_code (1 : Nat) (Option.some Jvm.ClassFile.FieldType.int), Jvm.Cond.code ({ cls := "com/example/errand/errand/model/Tree$Edge", name := "equals", desc := "(Ljava/lang/Object;)Z" } : Jvm.MethodName) prog_27_method_2_code (3 : Nat) (Option.some Jvm.ClassFile.FieldType.boolean)]
set_option maxRecDepth 65536 in
theorem codes_eq : words1.filter isCode = codes1 := rfl
theorem w_codes : ∀ c ∈ words1.filter isCode, c.before args0 about1 = true := by
  rw [codes_eq]
  intro c hc
  simp only [codes1, List.mem_cons, List.not_mem_nil, or_false] at hc
  rcases hc with rfl | rfl | rfl | rfl | rfl | rfl
  · exact w_c0
  · exact w_c1
  · exact w_c2
  · exact w_c3
  · exact w_c4
  · exact w_c5
set_option maxRecDepth 65536 in
theorem w_t1 : (words1.take 24).all (fun c => isCode c || c.before args0 about1) = true := by decide +kernel
set_option maxRecDepth 65536 in
theorem w_t2 : (words1.drop 24).all (fun c => isCode c || c.before args0 about1) = true := by decide +kernel
theorem w_tables : (allAtoms (Jvm.Cond.code x code maxLocals ret :: tables_1)).before args0 about1 = true := by
  rw [allAtoms_all]
  show words1.all (fun c => c.before args0 about1) = true
  refine all_split ?_ w_codes
  rw [← List.take_append_drop 24 words1, List.all_append, w_t1, w_t2]
  rfl
set_option maxRecDepth 65536 in
theorem w_case : (Jvm.Cond.and given_1 narrow_1).before args0 about1 = true := by decide +kernel
theorem w_applies : (headSpec (Jvm.Cond.code x code maxLocals ret :: tables_1) room_1).applies x e0.platform about1 = true :=
  (Spec.applies_iff w_frames).mpr ⟨w_running, w_runnable, w_alone, w_named, w_hears, w_ripe, w_room, w_tables⟩
theorem atStart : AtStart classFile x code maxLocals ret World_1 tables_1 room_1 Calls_1 rest_1 Pre_1 launch0 p0 e0 about1 theMethod args0 below0 :=
  ⟨lists_1, trivial, launch0.admits_env _ _ _, launch0.least_env, fairChoices_fair.cas, fairChoices_fair.clock, w_frames, w_args, w_heap, w_applies, trivial, trivial, w_case⟩
end start1
theorem witness_1 : WitnessClaimed_1 := ⟨start1.p0, start1.e0, start1.about1, start1.theMethod, start1.args0, start1.below0, start1.atStart⟩
end Jvm.Pilot.@@N@@
