import JvmDerived
import JvmDerived.Pilot.@@N@@Statement
import JvmDerived.Pilot.@@N@@Code
set_option linter.unusedVariables false
set_option linter.unusedSimpArgs false
namespace Jvm.RoadKit
open Sem ClassFile Op Lib Jvm.Stand Jvm.Free Jvm.LawKit
section New
variable {p : Program} {l : Launch} {e : Env} {R : Room} {s : State} {m : MethodId} {args : Array Value} {below : List Frame} {meth : Method} {c : Code} {T : State} {locs : List Loc} {cells slots : Nat}
theorem retI (X : Stand p l e R s m args below meth c T locs cells slots) (hx : p.tables.exec = Jvm.exec) {pc : Nat} {Ls : Array Slot} {z : Int32} {rest : List Value} (hret : meth.sig.returnType = some .int) (hd : decode c.code pc = .ok (.ireturn, 1)) {fs : List Frame}
    (hl : ∀ (f : JFrame) (acts : List Action), f.method = m → f.locked = none → f.entered = [] → (doReturn e (T.setTop f) acts (some (.int z))).1 = T.setFrames fs) : Steps p.tables e below (T.setTop (mkF m pc Ls (.int z :: rest))) (T.setFrames fs) := by
  have hm' : T.vm.method? m = some meth := X.method'
  have hn : narrow .int (.int z) = .int z := rfl
  show Steps p.tables e below (T.setTop { method := m, pc := pc, locals := Ls, stack := _ :: rest, locked := none }) _
  jvm_step X.here [X.here.top, hx, hd, hm', hret, hn]
  first | (intro acts; rw [hl _ acts rfl rfl rfl]) | rw [hl _ _ rfl rfl rfl]
  exact Steps.refl _
end New
end Jvm.RoadKit
namespace Jvm.Pilot.@@N@@
open Jvm Jvm.ClassFile Sem Op Lib Jvm.Free Jvm.Stand Jvm.LawKit Jvm.RoadKit Bundle Jvm.Pilot.@@N@@.Jvm.D
def own_won (x y : Int64) : Int32 := if lcmpW x y < (0 : Int32) then (0 : Int32) else (1 : Int32)
theorem own_won_ge {x y : Int64} (h : ¬ x.toInt < y.toInt) : own_won x y = (1 : Int32) := by
  unfold own_won; rw [if_neg (fun z => h (Int64.lt_iff_toInt_lt.mp ((lw_lt x y).mp z)))]
theorem own_won_lt {x y : Int64} (h : x.toInt < y.toInt) : own_won x y = (0 : Int32) := by
  unfold own_won; rw [if_pos ((lw_lt x y).mpr (Int64.lt_iff_toInt_lt.mpr h))]
theorem own_ge0 {x : Int64} (h : 0 ≤ x.toInt) : ¬ (lcmpW x (0 : Int64) < (0 : Int32)) := fun z => by
  have := Int64.lt_iff_toInt_lt.mp ((lw_lt x 0).mp z)
  have z0 : (0 : Int64).toInt = 0 := rfl
  omega
theorem ef_rec (m : MethodId) (x0 : Addr) : entryFrame m #[(.ref x0)] 1 = mkF m 0 #[rv x0] [] := by first | (simp [entryFrame, mkF, argsToLocals, Value.category]; done) | rfl
theorem pn_0 : plainName "java/lang/Record" = true := by first | (simp [plainName, overriddenIn]; done) | decide +kernel
def Q_rec (Z : State) (o0 : Addr) (h0 : Heap) (n0 : Nat) (v : Option Value) (h : Heap) (L : List Loc) : Prop := v = none ∧ Fr n0 L ∧ h = h0
theorem d0_0 : decode jdk_30_method_1_code 0 = .ok (.aload_n 0, 1) := by decide +kernel
theorem d0_1 : decode jdk_30_method_1_code 1 = .ok (.invokespecial 1, 3) := by decide +kernel
theorem d0_4 : decode jdk_30_method_1_code 4 = .ok (.return_, 1) := by decide +kernel
set_option maxRecDepth 65536 in
set_option maxHeartbeats 40000000 in
theorem rm_rec (l : Launch) (Z : State) (a0 : Array Value) (hw : ∀ d ∈ tables_1, d.before a0 Z = true) (ws : List Jvm.Cond) (o0 : Addr) (h0 : Heap) (n0 : Nat) (Z0 : n0 ≤ h0.size)  :
    MetFree l (⟨"java/lang/Record", "<init>", "()V"⟩ : MethodName) (head1 (Jvm.Cond.code (⟨"java/lang/Record", "<init>", "()V"⟩ : MethodName) jdk_30_method_1_code 1 none :: ws) ({ frames := 1, cells := 0, slots := 0, locals := 12 } : Room)) (fun a U => a = #[(.ref o0)] ∧ Z.Warmed39 U.vm ∧ U.heap = h0) (fun _ _ _ _ _ => True) (fun _ U o U' => ∃ v L, o = .returned v ∧ Q_rec Z o0 h0 n0 v U'.heap L ∧ FrameEnd U o U' L ({ frames := 1, cells := 0, slots := 0, locals := 12 } : Room).cells ({ frames := 1, cells := 0, slots := 0, locals := 12 } : Room).slots) := by
  refine MetFree.of_bodySF (plainFor_of_name pn_0) hisR ?_
  intro p e s m args below meth c s₁ Bd hml0 hP hK
  obtain ⟨rfl, hZ, hh⟩ := hP
  have hx := Bd.exec
  have hby := Bd.bytes
  have hml : c.maxLocals = 1 := hml0
  have hown : s.vm.findClass "java/lang/Record" = some m.cls := findClass_of_methodNamed Bd.named
  have hnm := (name_of_methodNamed Bd.named Bd.method).1
  have X0 : Stand p l e ({ frames := 1, cells := 0, slots := 0, locals := 12 } : Room) s m #[(.ref o0)] below meth c s₁ [] 0 0 := Stand.of_body Bd
  have e0 : s₁.heap = h0 := by rw [← hh, Bd.state]; rfl
  have N0 := Fr.nil n0
  have go0 : ∀ t, Steps p.tables e below (s₁.setTop (mkF m 0 #[rv o0] [])) t → Steps p.tables e below (s₁.setTop (entryFrame m #[(.ref o0)] 1)) t := fun t k => castTop (ef_rec m o0) k
  obtain ⟨O, hO⟩ : ∃ z, z = (s₁.setTop (entryFrame m #[(.ref o0)] 1)) := ⟨_, rfl⟩
  rw [← hO] at go0
  obtain ⟨T101, X101, e101, st101⟩ := initO X0 hx hZ hown (hw _ (List.mem_of_getElem? (i := 12) rfl)) (hw _ (List.mem_of_getElem? (i := 13) rfl)) (hw _ (List.mem_of_getElem? (i := 14) rfl)) e0 (g := (mkF m 1 #[rv o0] [(.ref o0)])) rfl (by rw [hml]; rfl) rfl (hb hby d0_1) (by decide) (W := 0) (by show 2 * 0 + _ ≤ _; exact Nat.le_of_eq rfl) (by decide)
  have go102 : ∀ t, Steps p.tables e below (T101.setTop (mkF m 4 #[rv o0] [])) t → Steps p.tables e below O t := fun t k => go0 t (by
    refine XS.aloadN X0.here hx rfl (hb hby d0_0) rfl rfl ?_
    show Steps _ _ _ (s₁.setTop (mkF m 1 _ [(.ref o0)])) _
    refine st101 _ ?_
    show Steps _ _ _ (T101.setTop (mkF m 4 _ [])) _
    exact k)
  subst hO
  obtain ⟨fs, hr, hrun, hended, hW, hsame⟩ := X101.leave (v := none) (fun _ => rfl)
  refine ⟨_, _, go102 _ ?_, hrun, hended, _, _, rfl, ?_, ⟨_, rfl⟩, hW, hsame.mono (by decide) (by decide)⟩
  · exact X101.returnOut hx Bd.returns (hb hby d0_4) hr
  · show Q_rec Z o0 h0 n0 _ T101.heap _
    rw [e101]
    exact ⟨rfl, N0, rfl⟩
theorem ef_au (m : MethodId) (x0 : Addr) (x1 : Int64) (x2 : Int32) : entryFrame m #[(.ref x0), (.long x1), (.int x2)] 4 = mkF m 0 #[rv x0, .val (.long x1), .second, iv x2] [] := by first | (simp [entryFrame, mkF, argsToLocals, Value.category]; done) | rfl
theorem pn_1 : plainName "com/example/bidpace/bidpace/model/Auction" = true := by first | (simp [plainName, overriddenIn]; done) | decide +kernel
def Q_au (Z : State) (o0 : Addr) (q1 : Int64) (p2 : Int32) (h0 : Heap) (n0 : Nat) (v : Option Value) (h : Heap) (L : List Loc) : Prop := v = none ∧ Fr n0 L ∧ Keep h0 h [o0] ∧ Exa Z h o0 "com/example/bidpace/bidpace/model/Auction" ∧ Fld Z h o0 "com/example/bidpace/bidpace/model/Auction" "price" "J" (.long q1)
theorem d1_0 : decode prog_24_method_1_code 0 = .ok (.aload_n 0, 1) := by decide +kernel
theorem pd_0 : parseMethodDescriptor "()V" = some ⟨[], none⟩ := by decide +kernel
theorem d1_1 : decode prog_24_method_1_code 1 = .ok (.invokespecial 1, 3) := by decide +kernel
theorem d1_4 : decode prog_24_method_1_code 4 = .ok (.lload_n 1, 1) := by decide +kernel
theorem d1_5 : decode prog_24_method_1_code 5 = .ok (.lconst 0, 1) := by decide +kernel
theorem d1_6 : decode prog_24_method_1_code 6 = .ok (.lcmp, 1) := by decide +kernel
theorem d1_7 : decode prog_24_method_1_code 7 = .ok (.ifCond .ge 17, 3) := by decide +kernel
theorem d1_24 : decode prog_24_method_1_code 24 = .ok (.aload_n 0, 1) := by decide +kernel
theorem d1_25 : decode prog_24_method_1_code 25 = .ok (.lload_n 1, 1) := by decide +kernel
theorem d1_26 : decode prog_24_method_1_code 26 = .ok (.putfield 16, 3) := by decide +kernel
theorem d1_29 : decode prog_24_method_1_code 29 = .ok (.aload_n 0, 1) := by decide +kernel
theorem d1_30 : decode prog_24_method_1_code 30 = .ok (.iload_n 3, 1) := by decide +kernel
theorem d1_31 : decode prog_24_method_1_code 31 = .ok (.putfield 22, 3) := by decide +kernel
theorem d1_34 : decode prog_24_method_1_code 34 = .ok (.return_, 1) := by decide +kernel
set_option maxRecDepth 65536 in
set_option maxHeartbeats 40000000 in
theorem rm_au (l : Launch) (Z : State) (a0 : Array Value) (hw : ∀ d ∈ tables_1, d.before a0 Z = true) (ws : List Jvm.Cond) (o0 : Addr) (q1 : Int64) (p2 : Int32) (h0 : Heap) (n0 : Nat) (Z0 : n0 ≤ h0.size) (E_o0 : Exa Z h0 o0 "com/example/bidpace/bidpace/model/Auction") (ge_o0 : n0 ≤ o0) (F_price_o0 : Fld Z h0 o0 "com/example/bidpace/bidpace/model/Auction" "price" "J" (.long 0)) (F_clicked_o0 : Fld Z h0 o0 "com/example/bidpace/bidpace/model/Auction" "clicked" "Z" (.int 0)) (h1 : ¬ (lcmpW q1 (0 : Int64) < (0 : Int32))) :
    MetFree l (⟨"com/example/bidpace/bidpace/model/Auction", "<init>", "(JZ)V"⟩ : MethodName) (head1 (Jvm.Cond.code (⟨"com/example/bidpace/bidpace/model/Auction", "<init>", "(JZ)V"⟩ : MethodName) prog_24_method_1_code 4 none :: ws) ({ frames := 2, cells := 0, slots := 0, locals := 24 } : Room)) (fun a U => a = #[(.ref o0), (.long q1), (.int p2)] ∧ Z.Warmed39 U.vm ∧ U.heap = h0) (fun _ _ _ _ _ => True) (fun _ U o U' => ∃ v L, o = .returned v ∧ Q_au Z o0 q1 p2 h0 n0 v U'.heap L ∧ FrameEnd U o U' L ({ frames := 2, cells := 0, slots := 0, locals := 24 } : Room).cells ({ frames := 2, cells := 0, slots := 0, locals := 24 } : Room).slots) := by
  refine MetFree.of_bodySF (plainFor_of_name pn_1) hisR ?_
  intro p e s m args below meth c s₁ Bd hml0 hP hK
  obtain ⟨rfl, hZ, hh⟩ := hP
  have hx := Bd.exec
  have hby := Bd.bytes
  have hml : c.maxLocals = 4 := hml0
  have hown : s.vm.findClass "com/example/bidpace/bidpace/model/Auction" = some m.cls := findClass_of_methodNamed Bd.named
  have hnm := (name_of_methodNamed Bd.named Bd.method).1
  have X0 : Stand p l e ({ frames := 2, cells := 0, slots := 0, locals := 24 } : Room) s m #[(.ref o0), (.long q1), (.int p2)] below meth c s₁ [] 0 0 := Stand.of_body Bd
  have e0 : s₁.heap = h0 := by rw [← hh, Bd.state]; rfl
  have N0 := Fr.nil n0
  have go0 : ∀ t, Steps p.tables e below (s₁.setTop (mkF m 0 #[rv o0, .val (.long q1), .second, iv p2] [])) t → Steps p.tables e below (s₁.setTop (entryFrame m #[(.ref o0), (.long q1), (.int p2)] 4)) t := fun t k => castTop (ef_au m o0 q1 p2) k
  obtain ⟨O, hO⟩ : ∃ z, z = (s₁.setTop (entryFrame m #[(.ref o0), (.long q1), (.int p2)] 4)) := ⟨_, rfl⟩
  rw [← hO] at go0
  have K101 := Keep.refl h0 [o0]
  obtain ⟨_, _, ⟨T102, L102, k102, n102⟩, -, X102, ⟨Lc102, hQ102, l102, y102, z102⟩, st102⟩ := X0.specialBack hx (y := (⟨"java/lang/Record", "<init>", "()V"⟩ : MethodName)) rfl hown (mvT hZ (hw _ (List.mem_of_getElem? (i := 7) rfl))) (mvT hZ (hw _ (List.mem_of_getElem? (i := 8) rfl))) (mvT hZ (hw _ (List.mem_of_getElem? (i := 11) rfl))) (by decide) (backOf (W := 0) (rm_rec l Z a0 hw [] o0  h0 n0 Z0 ) hZ (hw _ (List.mem_of_getElem? (i := 11) rfl)) (hw _ (List.mem_of_getElem? (i := 10) rfl)) (by decide) (by decide)) (g := (mkF m 1 #[rv o0, .val (.long q1), .second, iv p2] [(.ref o0)])) rfl (by rw [hml]; rfl) (Steps.refl _) (a := o0) (argsL := []) (rest := []) (lenOf pd_0 rfl) rfl (by show 2 * 0 + _ ≤ _; exact Nat.le_of_eq rfl) (hb hby d1_1) (fun _ _ => ⟨rfl, e0, (by decide : 0 + 0 ≤ _), (by decide : 0 + 0 ≤ _)⟩)
  dsimp only [Pt.U, Pt.locs, Pt.cells, Pt.slots] at X102 l102 y102 z102 st102 hQ102
  subst l102 y102 z102
  obtain ⟨rfl, N102q, eR⟩ := hQ102
  have N102 := Fr.app N0 N102q
  obtain ⟨T103, h103, X103, e103, W103, st103⟩ := putF X102 hx hZ hown (host := "") (Or.inl (hw _ (List.mem_of_getElem? (i := 15) rfl))) Via.refl eR F_price_o0 E_o0 (Or.inr ⟨(hw _ (List.mem_of_getElem? (i := 16) rfl)), rfl, hnm⟩) (hw _ (List.mem_of_getElem? (i := 2) rfl)) (ty := .long) (by decide) rfl rfl (g := (mkF m 26 #[rv o0, .val (.long q1), .second, iv p2] [(.long q1), (.ref o0)])) rfl rfl (hb hby d1_26)
  have f104 := E_o0.wr W103
  have f105 := F_clicked_o0.other W103 (Or.inr (slot_ne (Or.inr (hw _ (List.mem_of_getElem? (i := 18) rfl))) (Or.inr (hw _ (List.mem_of_getElem? (i := 16) rfl))) (by decide) (t := .boolean) (t' := .long) (by decide) (by decide)))
  have Z106 := Nat.le_trans Z0 (Keep.of_wr W103).1
  have K107 := K101.wr W103 (Or.inl (List.mem_of_getElem? (i := 0) rfl))
  have f108 := F_price_o0.same W103
  have N103 := Fr.snoc X103 N102 ge_o0
  obtain ⟨T109, h109, X109, e109, W109, st109⟩ := putFN X103 hx hZ hown (hw _ (List.mem_of_getElem? (i := 17) rfl)) Via.refl e103 f105 f104 (Or.inr ⟨(hw _ (List.mem_of_getElem? (i := 18) rfl)), rfl, hnm⟩) (hw _ (List.mem_of_getElem? (i := 2) rfl)) (ty := .boolean) (v' := .int (nar .boolean p2)) (by decide) rfl (fits_nar_bool _) (g := (mkF m 31 #[rv o0, .val (.long q1), .second, iv p2] [(.int p2), (.ref o0)])) rfl rfl (hb hby d1_31)
  have f110 := f104.wr W109
  have f111 := f108.other W109 (Or.inr (slot_ne (Or.inr (hw _ (List.mem_of_getElem? (i := 16) rfl))) (Or.inr (hw _ (List.mem_of_getElem? (i := 18) rfl))) (by decide) (t := .long) (t' := .boolean) (by decide) (by decide)))
  have Z112 := Nat.le_trans Z106 (Keep.of_wr W109).1
  have K113 := K107.wr W109 (Or.inl (List.mem_of_getElem? (i := 0) rfl))
  have f114 := f105.same W109
  have N109 := Fr.snoc X109 N103 ge_o0
  have go115 : ∀ t, Steps p.tables e below (T109.setTop (mkF m 34 #[rv o0, .val (.long q1), .second, iv p2] [])) t → Steps p.tables e below O t := fun t k => go0 t (by
    refine XS.aloadN X0.here hx rfl (hb hby d1_0) rfl rfl ?_
    show Steps _ _ _ (s₁.setTop (mkF m 1 _ [(.ref o0)])) _
    refine st102.trans ?_
    show Steps _ _ _ (T102.setTop (mkF m 4 _ [])) _
    refine XS.lloadN X102.here hx rfl (hb hby d1_4) rfl ?_
    show Steps _ _ _ (T102.setTop (mkF m 5 _ [(.long q1)])) _
    refine XS.lconst X102.here hx rfl (hb hby d1_5) ?_
    show Steps _ _ _ (T102.setTop (mkF m 6 _ [(.long 0), (.long q1)])) _
    refine XS.lcmp X102.here hx rfl (hb hby d1_6) rfl ?_
    show Steps _ _ _ (T102.setTop (mkF m 7 _ [(.int (lcmpW q1 (0 : Int64)))])) _
    refine XS.ifYes X102.here hx rfl (pc0 := 7) (pc' := 24) rfl (hb hby d1_7) rfl ((if0 _ _).trans (flt (h1 : ¬ ((lcmpW q1 (0 : Int64)) < (0 : Int32)))).2.1) (by decide) (by decide) ?_
    show Steps _ _ _ (T102.setTop (mkF m 24 _ [])) _
    refine XS.aloadN X102.here hx rfl (hb hby d1_24) rfl rfl ?_
    show Steps _ _ _ (T102.setTop (mkF m 25 _ [(.ref o0)])) _
    refine XS.lloadN X102.here hx rfl (hb hby d1_25) rfl ?_
    show Steps _ _ _ (T102.setTop (mkF m 26 _ [(.long q1), (.ref o0)])) _
    refine st103 _ ?_
    show Steps _ _ _ (T103.setTop (mkF m 29 _ [])) _
    refine XS.aloadN X103.here hx rfl (hb hby d1_29) rfl rfl ?_
    show Steps _ _ _ (T103.setTop (mkF m 30 _ [(.ref o0)])) _
    refine XS.iloadN X103.here hx rfl (hb hby d1_30) rfl ?_
    show Steps _ _ _ (T103.setTop (mkF m 31 _ [(.int p2), (.ref o0)])) _
    refine st109 _ ?_
    show Steps _ _ _ (T109.setTop (mkF m 34 _ [])) _
    exact k)
  subst hO
  obtain ⟨fs, hr, hrun, hended, hW, hsame⟩ := X109.leave (v := none) (fun _ => rfl)
  refine ⟨_, _, go115 _ ?_, hrun, hended, _, _, rfl, ?_, ⟨_, rfl⟩, hW, hsame.mono (by decide) (by decide)⟩
  · exact X109.returnOut hx Bd.returns (hb hby d1_34) hr
  · show Q_au Z o0 q1 p2 h0 n0 _ T109.heap _
    rw [e109]
    exact ⟨rfl, N109, K113, f110, f111⟩
theorem ef_bi (m : MethodId) (x0 : Addr) (x1 : Int64) (x2 : Addr) : entryFrame m #[(.ref x0), (.long x1), (.ref x2)] 4 = mkF m 0 #[rv x0, .val (.long x1), .second, rv x2] [] := by first | (simp [entryFrame, mkF, argsToLocals, Value.category]; done) | rfl
theorem pn_2 : plainName "com/example/bidpace/bidpace/model/Bid" = true := by first | (simp [plainName, overriddenIn]; done) | decide +kernel
def Q_bi (Z : State) (o0 : Addr) (q1 : Int64) (o2 : Addr) (h0 : Heap) (n0 : Nat) (v : Option Value) (h : Heap) (L : List Loc) : Prop := v = none ∧ Fr n0 L ∧ Keep h0 h [o0] ∧ Exa Z h o0 "com/example/bidpace/bidpace/model/Bid" ∧ Fld Z h o0 "com/example/bidpace/bidpace/model/Bid" "amount" "J" (.long q1) ∧ Fld Z h o0 "com/example/bidpace/bidpace/model/Bid" "auction" "Lcom/example/bidpace/bidpace/model/Auction;" (.ref o2)
theorem d2_0 : decode prog_25_method_1_code 0 = .ok (.aload_n 0, 1) := by decide +kernel
theorem d2_1 : decode prog_25_method_1_code 1 = .ok (.invokespecial 1, 3) := by decide +kernel
theorem d2_4 : decode prog_25_method_1_code 4 = .ok (.lload_n 1, 1) := by decide +kernel
theorem d2_5 : decode prog_25_method_1_code 5 = .ok (.lconst 0, 1) := by decide +kernel
theorem d2_6 : decode prog_25_method_1_code 6 = .ok (.lcmp, 1) := by decide +kernel
theorem d2_7 : decode prog_25_method_1_code 7 = .ok (.ifCond .ge 17, 3) := by decide +kernel
theorem d2_24 : decode prog_25_method_1_code 24 = .ok (.aload_n 0, 1) := by decide +kernel
theorem d2_25 : decode prog_25_method_1_code 25 = .ok (.lload_n 1, 1) := by decide +kernel
theorem d2_26 : decode prog_25_method_1_code 26 = .ok (.putfield 16, 3) := by decide +kernel
theorem d2_29 : decode prog_25_method_1_code 29 = .ok (.aload_n 0, 1) := by decide +kernel
theorem d2_30 : decode prog_25_method_1_code 30 = .ok (.aload_n 3, 1) := by decide +kernel
theorem d2_31 : decode prog_25_method_1_code 31 = .ok (.putfield 22, 3) := by decide +kernel
theorem d2_34 : decode prog_25_method_1_code 34 = .ok (.return_, 1) := by decide +kernel
set_option maxRecDepth 65536 in
set_option maxHeartbeats 40000000 in
theorem rm_bi (l : Launch) (Z : State) (a0 : Array Value) (hw : ∀ d ∈ tables_1, d.before a0 Z = true) (ws : List Jvm.Cond) (o0 : Addr) (q1 : Int64) (o2 : Addr) (h0 : Heap) (n0 : Nat) (Z0 : n0 ≤ h0.size) (E_o0 : Exa Z h0 o0 "com/example/bidpace/bidpace/model/Bid") (ge_o0 : n0 ≤ o0) (F_amount_o0 : Fld Z h0 o0 "com/example/bidpace/bidpace/model/Bid" "amount" "J" (.long 0)) (F_auction_o0 : Fld Z h0 o0 "com/example/bidpace/bidpace/model/Bid" "auction" "Lcom/example/bidpace/bidpace/model/Auction;" .null) (h1 : ¬ (lcmpW q1 (0 : Int64) < (0 : Int32))) :
    MetFree l (⟨"com/example/bidpace/bidpace/model/Bid", "<init>", "(JLcom/example/bidpace/bidpace/model/Auction;)V"⟩ : MethodName) (head1 (Jvm.Cond.code (⟨"com/example/bidpace/bidpace/model/Bid", "<init>", "(JLcom/example/bidpace/bidpace/model/Auction;)V"⟩ : MethodName) prog_25_method_1_code 4 none :: ws) ({ frames := 2, cells := 0, slots := 0, locals := 24 } : Room)) (fun a U => a = #[(.ref o0), (.long q1), (.ref o2)] ∧ Z.Warmed39 U.vm ∧ U.heap = h0) (fun _ _ _ _ _ => True) (fun _ U o U' => ∃ v L, o = .returned v ∧ Q_bi Z o0 q1 o2 h0 n0 v U'.heap L ∧ FrameEnd U o U' L ({ frames := 2, cells := 0, slots := 0, locals := 24 } : Room).cells ({ frames := 2, cells := 0, slots := 0, locals := 24 } : Room).slots) := by
  refine MetFree.of_bodySF (plainFor_of_name pn_2) hisR ?_
  intro p e s m args below meth c s₁ Bd hml0 hP hK
  obtain ⟨rfl, hZ, hh⟩ := hP
  have hx := Bd.exec
  have hby := Bd.bytes
  have hml : c.maxLocals = 4 := hml0
  have hown : s.vm.findClass "com/example/bidpace/bidpace/model/Bid" = some m.cls := findClass_of_methodNamed Bd.named
  have hnm := (name_of_methodNamed Bd.named Bd.method).1
  have X0 : Stand p l e ({ frames := 2, cells := 0, slots := 0, locals := 24 } : Room) s m #[(.ref o0), (.long q1), (.ref o2)] below meth c s₁ [] 0 0 := Stand.of_body Bd
  have e0 : s₁.heap = h0 := by rw [← hh, Bd.state]; rfl
  have N0 := Fr.nil n0
  have go0 : ∀ t, Steps p.tables e below (s₁.setTop (mkF m 0 #[rv o0, .val (.long q1), .second, rv o2] [])) t → Steps p.tables e below (s₁.setTop (entryFrame m #[(.ref o0), (.long q1), (.ref o2)] 4)) t := fun t k => castTop (ef_bi m o0 q1 o2) k
  obtain ⟨O, hO⟩ : ∃ z, z = (s₁.setTop (entryFrame m #[(.ref o0), (.long q1), (.ref o2)] 4)) := ⟨_, rfl⟩
  rw [← hO] at go0
  have K101 := Keep.refl h0 [o0]
  obtain ⟨_, _, ⟨T102, L102, k102, n102⟩, -, X102, ⟨Lc102, hQ102, l102, y102, z102⟩, st102⟩ := X0.specialBack hx (y := (⟨"java/lang/Record", "<init>", "()V"⟩ : MethodName)) rfl hown (mvT hZ (hw _ (List.mem_of_getElem? (i := 25) rfl))) (mvT hZ (hw _ (List.mem_of_getElem? (i := 8) rfl))) (mvT hZ (hw _ (List.mem_of_getElem? (i := 11) rfl))) (by decide) (backOf (W := 0) (rm_rec l Z a0 hw [] o0  h0 n0 Z0 ) hZ (hw _ (List.mem_of_getElem? (i := 11) rfl)) (hw _ (List.mem_of_getElem? (i := 10) rfl)) (by decide) (by decide)) (g := (mkF m 1 #[rv o0, .val (.long q1), .second, rv o2] [(.ref o0)])) rfl (by rw [hml]; rfl) (Steps.refl _) (a := o0) (argsL := []) (rest := []) (lenOf pd_0 rfl) rfl (by show 2 * 0 + _ ≤ _; exact Nat.le_of_eq rfl) (hb hby d2_1) (fun _ _ => ⟨rfl, e0, (by decide : 0 + 0 ≤ _), (by decide : 0 + 0 ≤ _)⟩)
  dsimp only [Pt.U, Pt.locs, Pt.cells, Pt.slots] at X102 l102 y102 z102 st102 hQ102
  subst l102 y102 z102
  obtain ⟨rfl, N102q, eR⟩ := hQ102
  have N102 := Fr.app N0 N102q
  obtain ⟨T103, h103, X103, e103, W103, st103⟩ := putF X102 hx hZ hown (host := "") (Or.inl (hw _ (List.mem_of_getElem? (i := 26) rfl))) Via.refl eR F_amount_o0 E_o0 (Or.inr ⟨(hw _ (List.mem_of_getElem? (i := 27) rfl)), rfl, hnm⟩) (hw _ (List.mem_of_getElem? (i := 20) rfl)) (ty := .long) (by decide) rfl rfl (g := (mkF m 26 #[rv o0, .val (.long q1), .second, rv o2] [(.long q1), (.ref o0)])) rfl rfl (hb hby d2_26)
  have f104 := E_o0.wr W103
  have f105 := F_auction_o0.other W103 (Or.inr (slot_ne (Or.inr (hw _ (List.mem_of_getElem? (i := 29) rfl))) (Or.inr (hw _ (List.mem_of_getElem? (i := 27) rfl))) (by decide) (t := (.object "com/example/bidpace/bidpace/model/Auction")) (t' := .long) (by decide) (by decide)))
  have Z106 := Nat.le_trans Z0 (Keep.of_wr W103).1
  have K107 := K101.wr W103 (Or.inl (List.mem_of_getElem? (i := 0) rfl))
  have f108 := F_amount_o0.same W103
  have N103 := Fr.snoc X103 N102 ge_o0
  obtain ⟨T109, h109, X109, e109, W109, st109⟩ := putF X103 hx hZ hown (host := "") (Or.inl (hw _ (List.mem_of_getElem? (i := 28) rfl))) Via.refl e103 f105 f104 (Or.inr ⟨(hw _ (List.mem_of_getElem? (i := 29) rfl)), rfl, hnm⟩) (hw _ (List.mem_of_getElem? (i := 20) rfl)) (ty := (.object "com/example/bidpace/bidpace/model/Auction")) (by decide) rfl rfl (g := (mkF m 31 #[rv o0, .val (.long q1), .second, rv o2] [(.ref o2), (.ref o0)])) rfl rfl (hb hby d2_31)
  have f110 := f104.wr W109
  have f111 := f108.other W109 (Or.inr (slot_ne (Or.inr (hw _ (List.mem_of_getElem? (i := 27) rfl))) (Or.inr (hw _ (List.mem_of_getElem? (i := 29) rfl))) (by decide) (t := .long) (t' := (.object "com/example/bidpace/bidpace/model/Auction")) (by decide) (by decide)))
  have Z112 := Nat.le_trans Z106 (Keep.of_wr W109).1
  have K113 := K107.wr W109 (Or.inl (List.mem_of_getElem? (i := 0) rfl))
  have f114 := f105.same W109
  have N109 := Fr.snoc X109 N103 ge_o0
  have go115 : ∀ t, Steps p.tables e below (T109.setTop (mkF m 34 #[rv o0, .val (.long q1), .second, rv o2] [])) t → Steps p.tables e below O t := fun t k => go0 t (by
    refine XS.aloadN X0.here hx rfl (hb hby d2_0) rfl rfl ?_
    show Steps _ _ _ (s₁.setTop (mkF m 1 _ [(.ref o0)])) _
    refine st102.trans ?_
    show Steps _ _ _ (T102.setTop (mkF m 4 _ [])) _
    refine XS.lloadN X102.here hx rfl (hb hby d2_4) rfl ?_
    show Steps _ _ _ (T102.setTop (mkF m 5 _ [(.long q1)])) _
    refine XS.lconst X102.here hx rfl (hb hby d2_5) ?_
    show Steps _ _ _ (T102.setTop (mkF m 6 _ [(.long 0), (.long q1)])) _
    refine XS.lcmp X102.here hx rfl (hb hby d2_6) rfl ?_
    show Steps _ _ _ (T102.setTop (mkF m 7 _ [(.int (lcmpW q1 (0 : Int64)))])) _
    refine XS.ifYes X102.here hx rfl (pc0 := 7) (pc' := 24) rfl (hb hby d2_7) rfl ((if0 _ _).trans (flt (h1 : ¬ ((lcmpW q1 (0 : Int64)) < (0 : Int32)))).2.1) (by decide) (by decide) ?_
    show Steps _ _ _ (T102.setTop (mkF m 24 _ [])) _
    refine XS.aloadN X102.here hx rfl (hb hby d2_24) rfl rfl ?_
    show Steps _ _ _ (T102.setTop (mkF m 25 _ [(.ref o0)])) _
    refine XS.lloadN X102.here hx rfl (hb hby d2_25) rfl ?_
    show Steps _ _ _ (T102.setTop (mkF m 26 _ [(.long q1), (.ref o0)])) _
    refine st103 _ ?_
    show Steps _ _ _ (T103.setTop (mkF m 29 _ [])) _
    refine XS.aloadN X103.here hx rfl (hb hby d2_29) rfl rfl ?_
    show Steps _ _ _ (T103.setTop (mkF m 30 _ [(.ref o0)])) _
    refine XS.aloadN X103.here hx rfl (hb hby d2_30) rfl rfl ?_
    show Steps _ _ _ (T103.setTop (mkF m 31 _ [(.ref o2), (.ref o0)])) _
    refine st109 _ ?_
    show Steps _ _ _ (T109.setTop (mkF m 34 _ [])) _
    exact k)
  subst hO
  obtain ⟨fs, hr, hrun, hended, hW, hsame⟩ := X109.leave (v := none) (fun _ => rfl)
  refine ⟨_, _, go115 _ ?_, hrun, hended, _, _, rfl, ?_, ⟨_, rfl⟩, hW, hsame.mono (by decide) (by decide)⟩
  · exact X109.returnOut hx Bd.returns (hb hby d2_34) hr
  · show Q_bi Z o0 q1 o2 h0 n0 _ T109.heap _
    rw [e109]
    exact ⟨rfl, N109, K113, f110, f111, f114⟩
theorem ef_pr (m : MethodId) (x0 : Addr) : entryFrame m #[(.ref x0)] 1 = mkF m 0 #[rv x0] [] := by first | (simp [entryFrame, mkF, argsToLocals, Value.category]; done) | rfl
def Q_pr (Z : State) (o0 : Addr) (w_ : Int64) (h0 : Heap) (n0 : Nat) (v : Option Value) (h : Heap) (L : List Loc) : Prop := v = some (.long w_) ∧ Fr n0 L ∧ h = h0
theorem d3_0 : decode prog_24_method_5_code 0 = .ok (.aload_n 0, 1) := by decide +kernel
theorem d3_1 : decode prog_24_method_5_code 1 = .ok (.getfield 16, 3) := by decide +kernel
theorem d3_4 : decode prog_24_method_5_code 4 = .ok (.lreturn, 1) := by decide +kernel
set_option maxRecDepth 65536 in
set_option maxHeartbeats 40000000 in
theorem rm_pr (l : Launch) (Z : State) (a0 : Array Value) (hw : ∀ d ∈ tables_1, d.before a0 Z = true) (ws : List Jvm.Cond) (o0 : Addr) (w_ : Int64) (h0 : Heap) (n0 : Nat) (Z0 : n0 ≤ h0.size) (E_o0 : Exa Z h0 o0 "com/example/bidpace/bidpace/model/Auction") (ge_o0 : n0 ≤ o0) (F_price_o0 : Fld Z h0 o0 "com/example/bidpace/bidpace/model/Auction" "price" "J" (.long w_)) :
    MetFree l (⟨"com/example/bidpace/bidpace/model/Auction", "price", "()J"⟩ : MethodName) (head1 (Jvm.Cond.code (⟨"com/example/bidpace/bidpace/model/Auction", "price", "()J"⟩ : MethodName) prog_24_method_5_code 1 (some .long) :: ws) ({ frames := 0, cells := 0, slots := 0, locals := 0 } : Room)) (fun a U => a = #[(.ref o0)] ∧ Z.Warmed39 U.vm ∧ U.heap = h0) (fun _ _ _ _ _ => True) (fun _ U o U' => ∃ v L, o = .returned v ∧ Q_pr Z o0 w_ h0 n0 v U'.heap L ∧ FrameEnd U o U' L ({ frames := 0, cells := 0, slots := 0, locals := 0 } : Room).cells ({ frames := 0, cells := 0, slots := 0, locals := 0 } : Room).slots) := by
  refine MetFree.of_bodySF (plainFor_of_name pn_1) hisR ?_
  intro p e s m args below meth c s₁ Bd hml0 hP hK
  obtain ⟨rfl, hZ, hh⟩ := hP
  have hx := Bd.exec
  have hby := Bd.bytes
  have hml : c.maxLocals = 1 := hml0
  have hown : s.vm.findClass "com/example/bidpace/bidpace/model/Auction" = some m.cls := findClass_of_methodNamed Bd.named
  have hnm := (name_of_methodNamed Bd.named Bd.method).1
  have X0 : Stand p l e ({ frames := 0, cells := 0, slots := 0, locals := 0 } : Room) s m #[(.ref o0)] below meth c s₁ [] 0 0 := Stand.of_body Bd
  have e0 : s₁.heap = h0 := by rw [← hh, Bd.state]; rfl
  have N0 := Fr.nil n0
  have go0 : ∀ t, Steps p.tables e below (s₁.setTop (mkF m 0 #[rv o0] [])) t → Steps p.tables e below (s₁.setTop (entryFrame m #[(.ref o0)] 1)) t := fun t k => castTop (ef_pr m o0) k
  obtain ⟨O, hO⟩ : ∃ z, z = (s₁.setTop (entryFrame m #[(.ref o0)] 1)) := ⟨_, rfl⟩
  rw [← hO] at go0
  obtain ⟨T101, X101, e101, st101⟩ := getF X0 hx hZ hown (host := "") (Or.inl (hw _ (List.mem_of_getElem? (i := 15) rfl))) Via.refl e0 F_price_o0 (g := (mkF m 1 #[rv o0] [(.ref o0)])) rfl rfl (hb hby d3_1)
  have go102 : ∀ t, Steps p.tables e below (T101.setTop (mkF m 4 #[rv o0] [(.long w_)])) t → Steps p.tables e below O t := fun t k => go0 t (by
    refine XS.aloadN X0.here hx rfl (hb hby d3_0) rfl rfl ?_
    show Steps _ _ _ (s₁.setTop (mkF m 1 _ [(.ref o0)])) _
    refine st101 _ ?_
    show Steps _ _ _ (T101.setTop (mkF m 4 _ [(.long w_)])) _
    exact k)
  subst hO
  obtain ⟨fs, hr, hrun, hended, hW, hsame⟩ := X101.leave (v := some (.long w_)) (fun h => by rw [Bd.returns] at h; cases h)
  refine ⟨_, _, go102 _ ?_, hrun, hended, _, _, rfl, ?_, ⟨_, rfl⟩, hW, hsame.mono (by decide) (by decide)⟩
  · exact X101.lreturnOut hx Bd.returns (hb hby d3_4) hr
  · show Q_pr Z o0 w_ h0 n0 _ T101.heap _
    rw [e101]
    exact ⟨rfl, N0, rfl⟩
theorem ef_wo (m : MethodId) (x0 : Addr) : entryFrame m #[(.ref x0)] 1 = mkF m 0 #[rv x0] [] := by first | (simp [entryFrame, mkF, argsToLocals, Value.category]; done) | rfl
def Q_wo (Z : State) (o0 : Addr) (w_ : Int64) (au_ : Addr) (u_ : Int64) (h0 : Heap) (n0 : Nat) (v : Option Value) (h : Heap) (L : List Loc) : Prop := v = some (.int (own_won w_ u_)) ∧ Fr n0 L ∧ h = h0
theorem d4_0 : decode prog_25_method_2_code 0 = .ok (.aload_n 0, 1) := by decide +kernel
theorem d4_1 : decode prog_25_method_2_code 1 = .ok (.getfield 16, 3) := by decide +kernel
theorem d4_4 : decode prog_25_method_2_code 4 = .ok (.aload_n 0, 1) := by decide +kernel
theorem d4_5 : decode prog_25_method_2_code 5 = .ok (.getfield 22, 3) := by decide +kernel
theorem pd_1 : parseMethodDescriptor "()J" = some ⟨[], some .long⟩ := by decide +kernel
theorem d4_8 : decode prog_25_method_2_code 8 = .ok (.invokevirtual 26, 3) := by decide +kernel
theorem d4_11 : decode prog_25_method_2_code 11 = .ok (.lcmp, 1) := by decide +kernel
theorem d4_12 : decode prog_25_method_2_code 12 = .ok (.ifCond .lt 7, 3) := by decide +kernel
theorem d4_19 : decode prog_25_method_2_code 19 = .ok (.iconst 0, 1) := by decide +kernel
theorem d4_20 : decode prog_25_method_2_code 20 = .ok (.ireturn, 1) := by decide +kernel
theorem d4_15 : decode prog_25_method_2_code 15 = .ok (.iconst 1, 1) := by decide +kernel
theorem d4_16 : decode prog_25_method_2_code 16 = .ok (.goto 4, 3) := by decide +kernel
set_option maxRecDepth 65536 in
set_option maxHeartbeats 40000000 in
theorem rm_wo (l : Launch) (Z : State) (a0 : Array Value) (hw : ∀ d ∈ tables_1, d.before a0 Z = true) (ws : List Jvm.Cond) (o0 : Addr) (w_ : Int64) (au_ : Addr) (u_ : Int64) (h0 : Heap) (n0 : Nat) (Z0 : n0 ≤ h0.size) (E_o0 : Exa Z h0 o0 "com/example/bidpace/bidpace/model/Bid") (ge_o0 : n0 ≤ o0) (F_amount_o0 : Fld Z h0 o0 "com/example/bidpace/bidpace/model/Bid" "amount" "J" (.long w_)) (F_auction_o0 : Fld Z h0 o0 "com/example/bidpace/bidpace/model/Bid" "auction" "Lcom/example/bidpace/bidpace/model/Auction;" (.ref au_)) (E_au_ : Exa Z h0 au_ "com/example/bidpace/bidpace/model/Auction") (ge_au_ : n0 ≤ au_) (F_price_au_ : Fld Z h0 au_ "com/example/bidpace/bidpace/model/Auction" "price" "J" (.long u_)) :
    MetFree l (⟨"com/example/bidpace/bidpace/model/Bid", "won", "()Z"⟩ : MethodName) (head1 (Jvm.Cond.code (⟨"com/example/bidpace/bidpace/model/Bid", "won", "()Z"⟩ : MethodName) prog_25_method_2_code 1 (some .boolean) :: ws) ({ frames := 1, cells := 0, slots := 0, locals := 14 } : Room)) (fun a U => a = #[(.ref o0)] ∧ Z.Warmed39 U.vm ∧ U.heap = h0) (fun _ _ _ _ _ => True) (fun _ U o U' => ∃ v L, o = .returned v ∧ Q_wo Z o0 w_ au_ u_ h0 n0 v U'.heap L ∧ FrameEnd U o U' L ({ frames := 1, cells := 0, slots := 0, locals := 14 } : Room).cells ({ frames := 1, cells := 0, slots := 0, locals := 14 } : Room).slots) := by
  refine MetFree.of_bodySF (plainFor_of_name pn_2) hisR ?_
  intro p e s m args below meth c s₁ Bd hml0 hP hK
  obtain ⟨rfl, hZ, hh⟩ := hP
  have hx := Bd.exec
  have hby := Bd.bytes
  have hml : c.maxLocals = 1 := hml0
  have hown : s.vm.findClass "com/example/bidpace/bidpace/model/Bid" = some m.cls := findClass_of_methodNamed Bd.named
  have hnm := (name_of_methodNamed Bd.named Bd.method).1
  have X0 : Stand p l e ({ frames := 1, cells := 0, slots := 0, locals := 14 } : Room) s m #[(.ref o0)] below meth c s₁ [] 0 0 := Stand.of_body Bd
  have e0 : s₁.heap = h0 := by rw [← hh, Bd.state]; rfl
  have N0 := Fr.nil n0
  have go0 : ∀ t, Steps p.tables e below (s₁.setTop (mkF m 0 #[rv o0] [])) t → Steps p.tables e below (s₁.setTop (entryFrame m #[(.ref o0)] 1)) t := fun t k => castTop (ef_wo m o0) k
  obtain ⟨O, hO⟩ : ∃ z, z = (s₁.setTop (entryFrame m #[(.ref o0)] 1)) := ⟨_, rfl⟩
  rw [← hO] at go0
  obtain ⟨T101, X101, e101, st101⟩ := getF X0 hx hZ hown (host := "") (Or.inl (hw _ (List.mem_of_getElem? (i := 26) rfl))) Via.refl e0 F_amount_o0 (g := (mkF m 1 #[rv o0] [(.ref o0)])) rfl rfl (hb hby d4_1)
  obtain ⟨T102, X102, e102, st102⟩ := getF X101 hx hZ hown (host := "") (Or.inl (hw _ (List.mem_of_getElem? (i := 28) rfl))) Via.refl e101 F_auction_o0 (g := (mkF m 5 #[rv o0] [(.ref o0), (.long w_)])) rfl rfl (hb hby d4_5)
  obtain ⟨cq103, kq103, q103a, q103b, q103c⟩ := isOf hZ e102 E_au_
  obtain ⟨_, _, ⟨T103, L103, k103, n103⟩, -, X103, ⟨Lc103, hQ103, l103, y103, z103⟩, st103⟩ := X102.virtualBack hx (y := (⟨"com/example/bidpace/bidpace/model/Auction", "price", "()J"⟩ : MethodName)) (z := (⟨"com/example/bidpace/bidpace/model/Auction", "price", "()J"⟩ : MethodName)) hown (mvT hZ (hw _ (List.mem_of_getElem? (i := 35) rfl))) (mvT hZ (hw _ (List.mem_of_getElem? (i := 36) rfl))) (notFace_of_selects (args := #[]) (mvT hZ (hw _ (List.mem_of_getElem? (i := 38) rfl)))) (mvT hZ (hw _ (List.mem_of_getElem? (i := 38) rfl))) (mvT hZ (hw _ (List.mem_of_getElem? (i := 37) rfl))) (by decide) (backOf (W := 2) (rm_pr l Z a0 hw [] au_ u_ h0 n0 Z0 E_au_ ge_au_ F_price_au_) hZ (hw _ (List.mem_of_getElem? (i := 39) rfl)) (hw _ (List.mem_of_getElem? (i := 3) rfl)) (by decide) (by decide)) q103a q103c (g := (mkF m 8 #[rv o0] [(.ref au_), (.long w_)])) rfl (by rw [hml]; rfl) (Steps.refl _) (argsL := []) (rest := [(.long w_)]) (lenOf pd_1 rfl) rfl (by show 2 * 0 + _ ≤ _; exact Nat.le_of_eq rfl) (hb hby d4_8) (fun _ _ => ⟨rfl, e102, (by decide : 0 + 0 ≤ _), (by decide : 0 + 0 ≤ _)⟩)
  dsimp only [Pt.U, Pt.locs, Pt.cells, Pt.slots] at X103 l103 y103 z103 st103 hQ103
  subst l103 y103 z103
  obtain ⟨rfl, N103q, eP⟩ := hQ103
  have N103 := Fr.app N0 N103q
  have go104 : ∀ t, Steps p.tables e below (T103.setTop (mkF m 12 #[rv o0] [(.int (lcmpW w_ u_))])) t → Steps p.tables e below O t := fun t k => go0 t (by
    refine XS.aloadN X0.here hx rfl (hb hby d4_0) rfl rfl ?_
    show Steps _ _ _ (s₁.setTop (mkF m 1 _ [(.ref o0)])) _
    refine st101 _ ?_
    show Steps _ _ _ (T101.setTop (mkF m 4 _ [(.long w_)])) _
    refine XS.aloadN X101.here hx rfl (hb hby d4_4) rfl rfl ?_
    show Steps _ _ _ (T101.setTop (mkF m 5 _ [(.ref o0), (.long w_)])) _
    refine st102 _ ?_
    show Steps _ _ _ (T102.setTop (mkF m 8 _ [(.ref au_), (.long w_)])) _
    refine st103.trans ?_
    show Steps _ _ _ (T103.setTop (mkF m 11 _ [(.long u_), (.long w_)])) _
    refine XS.lcmp X103.here hx rfl (hb hby d4_11) rfl ?_
    show Steps _ _ _ (T103.setTop (mkF m 12 _ [(.int (lcmpW w_ u_))])) _
    exact k)
  by_cases hc : (lcmpW w_ u_) < (0 : Int32)
  · have go105 : ∀ t, Steps p.tables e below (T103.setTop (mkF m 20 #[rv o0] [(.int 0)])) t → Steps p.tables e below O t := fun t k => go104 t (by
      refine XS.ifYes X103.here hx rfl (pc0 := 12) (pc' := 19) rfl (hb hby d4_12) rfl ((if0 _ _).trans (tlt (hc : (lcmpW w_ u_) < (0 : Int32))).1) (by decide) (by decide) ?_
      show Steps _ _ _ (T103.setTop (mkF m 19 _ [])) _
      refine XS.iconst X103.here hx rfl (hb hby d4_19) ?_
      show Steps _ _ _ (T103.setTop (mkF m 20 _ [(.int 0)])) _
      exact k)
    subst hO
    obtain ⟨fs, hr, hrun, hended, hW, hsame⟩ := X103.leave (v := some (.int 0)) (fun h => by rw [Bd.returns] at h; cases h)
    refine ⟨_, _, go105 _ ?_, hrun, hended, _, _, rfl, ?_, ⟨_, rfl⟩, hW, hsame.mono (by decide) (by decide)⟩
    · exact retN X103 hx (t := .boolean) Bd.returns (by simp) (hb hby d4_20) hr
    · show Q_wo Z o0 w_ au_ u_ h0 n0 _ T103.heap _
      rw [eP]
      exact ⟨by unfold own_won; rw [if_pos hc], N103, rfl⟩
  · have go107 : ∀ t, Steps p.tables e below (T103.setTop (mkF m 20 #[rv o0] [(.int 1)])) t → Steps p.tables e below O t := fun t k => go104 t (by
      refine XS.ifNo X103.here hx rfl (hb hby d4_12) rfl ((if0 _ _).trans (flt (hc : ¬ ((lcmpW w_ u_) < (0 : Int32)))).1) ?_
      show Steps _ _ _ (T103.setTop (mkF m 15 _ [])) _
      refine XS.iconst X103.here hx rfl (hb hby d4_15) ?_
      show Steps _ _ _ (T103.setTop (mkF m 16 _ [(.int 1)])) _
      refine XS.goto X103.here hx rfl (pc0 := 16) (pc' := 20) rfl (hb hby d4_16) (by decide) (by decide) ?_
      show Steps _ _ _ (T103.setTop (mkF m 20 _ [(.int 1)])) _
      exact k)
    subst hO
    obtain ⟨fs, hr, hrun, hended, hW, hsame⟩ := X103.leave (v := some (.int 1)) (fun h => by rw [Bd.returns] at h; cases h)
    refine ⟨_, _, go107 _ ?_, hrun, hended, _, _, rfl, ?_, ⟨_, rfl⟩, hW, hsame.mono (by decide) (by decide)⟩
    · exact retN X103 hx (t := .boolean) Bd.returns (by simp) (hb hby d4_20) hr
    · show Q_wo Z o0 w_ au_ u_ h0 n0 _ T103.heap _
      rw [eP]
      exact ⟨by unfold own_won; rw [if_neg hc], N103, rfl⟩
theorem ef_law (m : MethodId) (x0 : Int64) (x1 : Int64) (x2 : Int32) : entryFrame m #[(.long x0), (.long x1), (.int x2)] maxLocals = mkF m 0 #[.val (.long x0), .second, .val (.long x1), .second, iv x2, .unset, .unset, .unset, .unset, .unset, .unset, .unset, .unset, .unset, .unset, .unset, .unset] [] := by first | (simp [entryFrame, mkF, argsToLocals, Value.category, maxLocals]; done) | rfl
theorem pn_3 : plainName "com/example/bidpace/bidpace/model/BidWonPinLaw" = true := by first | (simp [plainName, overriddenIn]; done) | decide +kernel
def Q_law (Z : State) (q0 : Int64) (q1 : Int64) (p2 : Int32) (h0 : Heap) (n0 : Nat) (v : Option Value) (h : Heap) (L : List Loc) : Prop := v = some (.int (1 : Int32)) ∧ Fr n0 L
theorem pd_2 : parseMethodDescriptor "(JZ)V" = some ⟨[.long, .boolean], none⟩ := by decide +kernel
theorem pd_3 : parseMethodDescriptor "(JLcom/example/bidpace/bidpace/model/Auction;)V" = some ⟨[.long, (.object "com/example/bidpace/bidpace/model/Auction")], none⟩ := by decide +kernel
theorem pd_4 : parseMethodDescriptor "()Z" = some ⟨[], some .boolean⟩ := by decide +kernel
set_option maxRecDepth 65536 in
set_option maxHeartbeats 40000000 in
theorem rm_law (l : Launch) (Z : State) (a0 : Array Value) (hw : ∀ d ∈ tables_1, d.before a0 Z = true) (ws : List Jvm.Cond) (q0 : Int64) (q1 : Int64) (p2 : Int32) (h0 : Heap) (n0 : Nat) (Z0 : n0 ≤ h0.size)  :
    MetFree l x (head1 (Jvm.Cond.code x code maxLocals ret :: ws) room_1) (fun a U => a = #[(.long q0), (.long q1), (.int p2)] ∧ Z.Warmed39 U.vm ∧ U.heap = h0) (fun _ _ _ _ _ => True) (fun _ U o U' => ∃ v L, o = .returned v ∧ Q_law Z q0 q1 p2 h0 n0 v U'.heap L ∧ FrameEnd U o U' L room_1.cells room_1.slots) := by
  refine MetFree.of_bodySF (plainFor_of_name pn_3) hisR ?_
  intro p e s m args below meth c s₁ Bd hml0 hP hK
  obtain ⟨rfl, hZ, hh⟩ := hP
  have hx := Bd.exec
  have hby := Bd.bytes
  have hml : c.maxLocals = 17 := hml0
  have hown : s.vm.findClass "com/example/bidpace/bidpace/model/BidWonPinLaw" = some m.cls := findClass_of_methodNamed Bd.named
  have hnm := (name_of_methodNamed Bd.named Bd.method).1
  have X0 : Stand p l e room_1 s m #[(.long q0), (.long q1), (.int p2)] below meth c s₁ [] 0 0 := Stand.of_body Bd
  have e0 : s₁.heap = h0 := by rw [← hh, Bd.state]; rfl
  have N0 := Fr.nil n0
  have go0 : ∀ t, Steps p.tables e below (s₁.setTop (mkF m 0 #[.val (.long q0), .second, .val (.long q1), .second, iv p2, .unset, .unset, .unset, .unset, .unset, .unset, .unset, .unset, .unset, .unset, .unset, .unset] [])) t → Steps p.tables e below (s₁.setTop (entryFrame m #[(.long q0), (.long q1), (.int p2)] maxLocals)) t := fun t k => castTop (ef_law m q0 q1 p2) k
  obtain ⟨O, hO⟩ : ∃ z, z = (s₁.setTop (entryFrame m #[(.long q0), (.long q1), (.int p2)] maxLocals)) := ⟨_, rfl⟩
  rw [← hO] at go0
  have g_am : 0 ≤ (q0 &&& (9223372036854775807 : Int64)).toInt := by rw [c_maskL q0 _ 63 (by decide) (by decide)]; omega
  have go101 : ∀ t, Steps p.tables e below (s₁.setTop (mkF m 18 #[.val (.long q0), .second, .val (.long q1), .second, iv p2, .val (.long (q0 &&& (9223372036854775807 : Int64))), .second, .val (.long (q1 &&& (9223372036854775807 : Int64))), .second, .unset, .unset, .unset, .unset, .unset, .unset, .unset, .unset] [(.int (p2 &&& (1 : Int32)))])) t → Steps p.tables e below O t := fun t k => go0 t (by
    refine XS.lloadN X0.here hx rfl (hb hby at_0) rfl ?_
    show Steps _ _ _ (s₁.setTop (mkF m 1 _ [(.long q0)])) _
    refine X0.ldc2Long hx hown (mvT hZ (hw _ (List.mem_of_getElem? (i := 0) rfl))) (g := (mkF m 1 #[.val (.long q0), .second, .val (.long q1), .second, iv p2, .unset, .unset, .unset, .unset, .unset, .unset, .unset, .unset, .unset, .unset, .unset, .unset] [(.long q0)])) rfl (hb hby at_1) _ ?_
    show Steps _ _ _ (s₁.setTop (mkF m 4 _ [(.long 9223372036854775807), (.long q0)])) _
    refine XS.land X0.here hx rfl (hb hby at_4) rfl ?_
    show Steps _ _ _ (s₁.setTop (mkF m 5 _ [(.long (q0 &&& (9223372036854775807 : Int64)))])) _
    refine XS.lstore X0.here hx rfl (hb hby at_5) rfl (l' := #[.val (.long q0), .second, .val (.long q1), .second, iv p2, .val (.long (q0 &&& (9223372036854775807 : Int64))), .second, .unset, .unset, .unset, .unset, .unset, .unset, .unset, .unset, .unset, .unset]) rfl ?_
    show Steps _ _ _ (s₁.setTop (mkF m 7 _ [])) _
    refine XS.lloadN X0.here hx rfl (hb hby at_7) rfl ?_
    show Steps _ _ _ (s₁.setTop (mkF m 8 _ [(.long q1)])) _
    refine X0.ldc2Long hx hown (mvT hZ (hw _ (List.mem_of_getElem? (i := 0) rfl))) (g := (mkF m 8 #[.val (.long q0), .second, .val (.long q1), .second, iv p2, .val (.long (q0 &&& (9223372036854775807 : Int64))), .second, .unset, .unset, .unset, .unset, .unset, .unset, .unset, .unset, .unset, .unset] [(.long q1)])) rfl (hb hby at_8) _ ?_
    show Steps _ _ _ (s₁.setTop (mkF m 11 _ [(.long 9223372036854775807), (.long q1)])) _
    refine XS.land X0.here hx rfl (hb hby at_11) rfl ?_
    show Steps _ _ _ (s₁.setTop (mkF m 12 _ [(.long (q1 &&& (9223372036854775807 : Int64)))])) _
    refine XS.lstore X0.here hx rfl (hb hby at_12) rfl (l' := #[.val (.long q0), .second, .val (.long q1), .second, iv p2, .val (.long (q0 &&& (9223372036854775807 : Int64))), .second, .val (.long (q1 &&& (9223372036854775807 : Int64))), .second, .unset, .unset, .unset, .unset, .unset, .unset, .unset, .unset]) rfl ?_
    show Steps _ _ _ (s₁.setTop (mkF m 14 _ [])) _
    refine XS.iload X0.here hx rfl (hb hby at_14) rfl ?_
    show Steps _ _ _ (s₁.setTop (mkF m 16 _ [(.int p2)])) _
    refine XS.iconst X0.here hx rfl (hb hby at_16) ?_
    show Steps _ _ _ (s₁.setTop (mkF m 17 _ [(.int 1), (.int p2)])) _
    refine XS.iand X0.here hx rfl (hb hby at_17) rfl ?_
    show Steps _ _ _ (s₁.setTop (mkF m 18 _ [(.int (p2 &&& (1 : Int32)))])) _
    exact k)
  obtain ⟨am, hq_am⟩ : ∃ z : Int64, z = (q0 &&& (9223372036854775807 : Int64)) := ⟨_, rfl⟩
  rw [← hq_am] at go101
  rw [← hq_am] at g_am
  have g_pc_ : 0 ≤ (q1 &&& (9223372036854775807 : Int64)).toInt := by rw [c_maskL q1 _ 63 (by decide) (by decide)]; omega
  obtain ⟨pc_, hq_pc_⟩ : ∃ z : Int64, z = (q1 &&& (9223372036854775807 : Int64)) := ⟨_, rfl⟩
  rw [← hq_pc_] at go101
  rw [← hq_pc_] at g_pc_
  have r1 := rng64 am
  have r2 := rng64 pc_
  have z0 : (0 : Int64).toInt = 0 := rfl
  have z1 : (1 : Int64).toInt = 1 := rfl
  obtain ⟨cl, hm102, go102⟩ : ∃ cl : Int32, (True) ∧ ∀ t, Steps p.tables e below (s₁.setTop (mkF m 28 #[.val (.long q0), .second, .val (.long q1), .second, iv p2, .val (.long am), .second, .val (.long pc_), .second, iv cl, .unset, .unset, .unset, .unset, .unset, .unset, .unset] [])) t → Steps p.tables e below O t := by
    by_cases hc : (p2 &&& (1 : Int32)) = (0 : Int32)
    · have go103 : ∀ t, Steps p.tables e below (s₁.setTop (mkF m 28 #[.val (.long q0), .second, .val (.long q1), .second, iv p2, .val (.long am), .second, .val (.long pc_), .second, iv 0, .unset, .unset, .unset, .unset, .unset, .unset, .unset] [])) t → Steps p.tables e below O t := fun t k => go101 t (by
        refine XS.ifYes X0.here hx rfl (pc0 := 18) (pc' := 25) rfl (hb hby at_18) rfl ((if0 _ _).trans (teq (hc : (p2 &&& (1 : Int32)) = (0 : Int32))).1) (by decide) (by decide) ?_
        show Steps _ _ _ (s₁.setTop (mkF m 25 _ [])) _
        refine XS.iconst X0.here hx rfl (hb hby at_25) ?_
        show Steps _ _ _ (s₁.setTop (mkF m 26 _ [(.int 0)])) _
        refine XS.istore X0.here hx rfl (hb hby at_26) rfl (l' := #[.val (.long q0), .second, .val (.long q1), .second, iv p2, .val (.long am), .second, .val (.long pc_), .second, iv 0, .unset, .unset, .unset, .unset, .unset, .unset, .unset]) rfl ?_
        show Steps _ _ _ (s₁.setTop (mkF m 28 _ [])) _
        exact k)
      exact ⟨(0 : Int32), trivial, go103⟩
    · have go104 : ∀ t, Steps p.tables e below (s₁.setTop (mkF m 28 #[.val (.long q0), .second, .val (.long q1), .second, iv p2, .val (.long am), .second, .val (.long pc_), .second, iv 1, .unset, .unset, .unset, .unset, .unset, .unset, .unset] [])) t → Steps p.tables e below O t := fun t k => go101 t (by
        refine XS.ifNo X0.here hx rfl (hb hby at_18) rfl ((if0 _ _).trans (feq (hc : ¬ ((p2 &&& (1 : Int32)) = (0 : Int32)))).1) ?_
        show Steps _ _ _ (s₁.setTop (mkF m 21 _ [])) _
        refine XS.iconst X0.here hx rfl (hb hby at_21) ?_
        show Steps _ _ _ (s₁.setTop (mkF m 22 _ [(.int 1)])) _
        refine XS.goto X0.here hx rfl (pc0 := 22) (pc' := 26) rfl (hb hby at_22) (by decide) (by decide) ?_
        show Steps _ _ _ (s₁.setTop (mkF m 26 _ [(.int 1)])) _
        refine XS.istore X0.here hx rfl (hb hby at_26) rfl (l' := #[.val (.long q0), .second, .val (.long q1), .second, iv p2, .val (.long am), .second, .val (.long pc_), .second, iv 1, .unset, .unset, .unset, .unset, .unset, .unset, .unset]) rfl ?_
        show Steps _ _ _ (s₁.setTop (mkF m 28 _ [])) _
        exact k)
      exact ⟨(1 : Int32), trivial, go104⟩
  obtain ⟨T105, h105, X105, e105, E105, A105, D105, -, st105⟩ := newO X0 hx hZ hown (hw _ (List.mem_of_getElem? (i := 1) rfl)) (hw _ (List.mem_of_getElem? (i := 2) rfl)) (hw _ (List.mem_of_getElem? (i := 3) rfl)) e0 (g := (mkF m 28 #[.val (.long q0), .second, .val (.long q1), .second, iv p2, .val (.long am), .second, .val (.long pc_), .second, iv cl, .unset, .unset, .unset, .unset, .unset, .unset, .unset] [])) rfl (hb hby at_28) (by decide) (by decide)
  obtain ⟨au, g105⟩ : ∃ z, z = h0.size := ⟨_, rfl⟩
  have ge_au : n0 ≤ au := Nat.le_trans Z0 (Nat.le_of_eq g105.symm)
  rw [← g105] at A105 D105 st105
  have Z106 := Nat.le_trans Z0 E105.1
  have F_price_au : Fld Z h105 au "com/example/bidpace/bidpace/model/Auction" "price" "J" (.long 0) := D105 (Or.inr (hw _ (List.mem_of_getElem? (i := 16) rfl))) (ty := .long) (by decide)
  have F_clicked_au : Fld Z h105 au "com/example/bidpace/bidpace/model/Auction" "clicked" "Z" (.int 0) := D105 (Or.inr (hw _ (List.mem_of_getElem? (i := 18) rfl))) (ty := .boolean) (by decide)
  obtain ⟨_, _, ⟨T107, L107, k107, n107⟩, -, X107, ⟨Lc107, hQ107, l107, y107, z107⟩, st107⟩ := X105.specialBack hx (y := (⟨"com/example/bidpace/bidpace/model/Auction", "<init>", "(JZ)V"⟩ : MethodName)) rfl hown (mvT hZ (hw _ (List.mem_of_getElem? (i := 4) rfl))) (mvT hZ (hw _ (List.mem_of_getElem? (i := 5) rfl))) (mvT hZ (hw _ (List.mem_of_getElem? (i := 6) rfl))) (by decide) (backOf (W := 1) (rm_au l Z a0 hw [] au pc_ cl  h105 n0 Z106 A105 ge_au F_price_au F_clicked_au (own_ge0 g_pc_)) hZ (hw _ (List.mem_of_getElem? (i := 6) rfl)) (hw _ (List.mem_of_getElem? (i := 3) rfl)) (by decide) (by decide)) (g := (mkF m 36 #[.val (.long q0), .second, .val (.long q1), .second, iv p2, .val (.long am), .second, .val (.long pc_), .second, iv cl, .unset, .unset, .unset, .unset, .unset, .unset, .unset] [(.int cl), (.long pc_), (.ref au), (.ref au)])) rfl (by rw [hml]; rfl) (Steps.refl _) (a := au) (argsL := [(.long pc_), (.int cl)]) (rest := [(.ref au)]) (lenOf pd_2 rfl) rfl (by show 2 * 0 + _ ≤ _; exact Nat.le_of_eq rfl) (hb hby at_36) (fun _ _ => ⟨rfl, e105, (by decide : 1 + 0 ≤ _), (by decide : 2 + 0 ≤ _)⟩)
  dsimp only [Pt.U, Pt.locs, Pt.cells, Pt.slots] at X107 l107 y107 z107 st107 hQ107
  subst l107 y107 z107
  obtain ⟨rfl, N107q, Kau, Eau, Fau⟩ := hQ107
  have N107 := Fr.app N0 N107q
  have f108 := A105.keep Kau
  have Z109 := Nat.le_trans Z106 Kau.1
  obtain ⟨T110, h110, X110, e110, E110, A110, D110, -, st110⟩ := newO X107 hx hZ hown (hw _ (List.mem_of_getElem? (i := 19) rfl)) (hw _ (List.mem_of_getElem? (i := 20) rfl)) (hw _ (List.mem_of_getElem? (i := 21) rfl)) rfl (g := (mkF m 41 #[.val (.long q0), .second, .val (.long q1), .second, iv p2, .val (.long am), .second, .val (.long pc_), .second, iv cl, rv au, .unset, .unset, .unset, .unset, .unset, .unset] [])) rfl (hb hby at_41) (by decide) (by decide)
  obtain ⟨b1, g110⟩ : ∃ z, z = T107.heap.size := ⟨_, rfl⟩
  have ne111 : au ≠ b1 := Nat.ne_of_lt (Nat.lt_of_lt_of_le f108.lt (Nat.le_of_eq g110.symm))
  have ge_b1 : n0 ≤ b1 := Nat.le_trans Z109 (Nat.le_of_eq g110.symm)
  rw [← g110] at A110 D110 st110
  have f112 := f108.ext E110
  have f113 := Fau.ext E110
  have Z114 := Nat.le_trans Z109 E110.1
  have F_amount_b1 : Fld Z h110 b1 "com/example/bidpace/bidpace/model/Bid" "amount" "J" (.long 0) := D110 (Or.inr (hw _ (List.mem_of_getElem? (i := 27) rfl))) (ty := .long) (by decide)
  have F_auction_b1 : Fld Z h110 b1 "com/example/bidpace/bidpace/model/Bid" "auction" "Lcom/example/bidpace/bidpace/model/Auction;" .null := D110 (Or.inr (hw _ (List.mem_of_getElem? (i := 29) rfl))) (ty := (.object "com/example/bidpace/bidpace/model/Auction")) (by decide)
  obtain ⟨_, _, ⟨T115, L115, k115, n115⟩, -, X115, ⟨Lc115, hQ115, l115, y115, z115⟩, st115⟩ := X110.specialBack hx (y := (⟨"com/example/bidpace/bidpace/model/Bid", "<init>", "(JLcom/example/bidpace/bidpace/model/Auction;)V"⟩ : MethodName)) rfl hown (mvT hZ (hw _ (List.mem_of_getElem? (i := 22) rfl))) (mvT hZ (hw _ (List.mem_of_getElem? (i := 23) rfl))) (mvT hZ (hw _ (List.mem_of_getElem? (i := 24) rfl))) (by decide) (backOf (W := 1) (rm_bi l Z a0 hw [] b1 am au  h110 n0 Z114 A110 ge_b1 F_amount_b1 F_auction_b1 (own_ge0 g_am)) hZ (hw _ (List.mem_of_getElem? (i := 24) rfl)) (hw _ (List.mem_of_getElem? (i := 21) rfl)) (by decide) (by decide)) (g := (mkF m 49 #[.val (.long q0), .second, .val (.long q1), .second, iv p2, .val (.long am), .second, .val (.long pc_), .second, iv cl, rv au, .unset, .unset, .unset, .unset, .unset, .unset] [(.ref au), (.long am), (.ref b1), (.ref b1)])) rfl (by rw [hml]; rfl) (Steps.refl _) (a := b1) (argsL := [(.long am), (.ref au)]) (rest := [(.ref b1)]) (lenOf pd_3 rfl) rfl (by show 2 * 0 + _ ≤ _; exact Nat.le_of_eq rfl) (hb hby at_49) (fun _ _ => ⟨rfl, e110, (by decide : 2 + 0 ≤ _), (by decide : 4 + 0 ≤ _)⟩)
  dsimp only [Pt.U, Pt.locs, Pt.cells, Pt.slots] at X115 l115 y115 z115 st115 hQ115
  subst l115 y115 z115
  obtain ⟨rfl, N115q, Kb1, Eb1, F1b1, F2b1⟩ := hQ115
  have N115 := Fr.app N107 N115q
  have f116 := f112.keep Kb1
  have f117 := f113.keep Kb1 (ninS ne111 nin0)
  have f118 := A110.keep Kb1
  have Z119 := Nat.le_trans Z114 Kb1.1
  obtain ⟨T120, h120, X120, e120, E120, A120, D120, -, st120⟩ := newO X115 hx hZ hown (hw _ (List.mem_of_getElem? (i := 19) rfl)) (hw _ (List.mem_of_getElem? (i := 20) rfl)) (hw _ (List.mem_of_getElem? (i := 21) rfl)) rfl (g := (mkF m 54 #[.val (.long q0), .second, .val (.long q1), .second, iv p2, .val (.long am), .second, .val (.long pc_), .second, iv cl, rv au, rv b1, .unset, .unset, .unset, .unset, .unset] [])) rfl (hb hby at_54) (by decide) (by decide)
  obtain ⟨b2, g120⟩ : ∃ z, z = T115.heap.size := ⟨_, rfl⟩
  have ne121 : au ≠ b2 := Nat.ne_of_lt (Nat.lt_of_lt_of_le f116.lt (Nat.le_of_eq g120.symm))
  have ne122 : b1 ≠ b2 := Nat.ne_of_lt (Nat.lt_of_lt_of_le f118.lt (Nat.le_of_eq g120.symm))
  have ge_b2 : n0 ≤ b2 := Nat.le_trans Z119 (Nat.le_of_eq g120.symm)
  rw [← g120] at A120 D120 st120
  have f123 := f116.ext E120
  have f124 := f117.ext E120
  have f125 := f118.ext E120
  have f126 := F1b1.ext E120
  have f127 := F2b1.ext E120
  have Z128 := Nat.le_trans Z119 E120.1
  have F_amount_b2 : Fld Z h120 b2 "com/example/bidpace/bidpace/model/Bid" "amount" "J" (.long 0) := D120 (Or.inr (hw _ (List.mem_of_getElem? (i := 27) rfl))) (ty := .long) (by decide)
  have F_auction_b2 : Fld Z h120 b2 "com/example/bidpace/bidpace/model/Bid" "auction" "Lcom/example/bidpace/bidpace/model/Auction;" .null := D120 (Or.inr (hw _ (List.mem_of_getElem? (i := 29) rfl))) (ty := (.object "com/example/bidpace/bidpace/model/Auction")) (by decide)
  obtain ⟨_, _, ⟨T129, L129, k129, n129⟩, -, X129, ⟨Lc129, hQ129, l129, y129, z129⟩, st129⟩ := X120.specialBack hx (y := (⟨"com/example/bidpace/bidpace/model/Bid", "<init>", "(JLcom/example/bidpace/bidpace/model/Auction;)V"⟩ : MethodName)) rfl hown (mvT hZ (hw _ (List.mem_of_getElem? (i := 22) rfl))) (mvT hZ (hw _ (List.mem_of_getElem? (i := 23) rfl))) (mvT hZ (hw _ (List.mem_of_getElem? (i := 24) rfl))) (by decide) (backOf (W := 1) (rm_bi l Z a0 hw [] b2 pc_ au  h120 n0 Z128 A120 ge_b2 F_amount_b2 F_auction_b2 (own_ge0 g_pc_)) hZ (hw _ (List.mem_of_getElem? (i := 24) rfl)) (hw _ (List.mem_of_getElem? (i := 21) rfl)) (by decide) (by decide)) (g := (mkF m 62 #[.val (.long q0), .second, .val (.long q1), .second, iv p2, .val (.long am), .second, .val (.long pc_), .second, iv cl, rv au, rv b1, .unset, .unset, .unset, .unset, .unset] [(.ref au), (.long pc_), (.ref b2), (.ref b2)])) rfl (by rw [hml]; rfl) (Steps.refl _) (a := b2) (argsL := [(.long pc_), (.ref au)]) (rest := [(.ref b2)]) (lenOf pd_3 rfl) rfl (by show 2 * 0 + _ ≤ _; exact Nat.le_of_eq rfl) (hb hby at_62) (fun _ _ => ⟨rfl, e120, (by decide : 3 + 0 ≤ _), (by decide : 6 + 0 ≤ _)⟩)
  dsimp only [Pt.U, Pt.locs, Pt.cells, Pt.slots] at X129 l129 y129 z129 st129 hQ129
  subst l129 y129 z129
  obtain ⟨rfl, N129q, Kb2, Eb2, F1b2, F2b2⟩ := hQ129
  have N129 := Fr.app N115 N129q
  have f130 := f123.keep Kb2
  have f131 := f124.keep Kb2 (ninS ne121 nin0)
  have f132 := f125.keep Kb2
  have f133 := f126.keep Kb2 (ninS ne122 nin0)
  have f134 := f127.keep Kb2 (ninS ne122 nin0)
  have f135 := A120.keep Kb2
  have Z136 := Nat.le_trans Z128 Kb2.1
  obtain ⟨cq137, kq137, q137a, q137b, q137c⟩ := isOf hZ rfl f135
  obtain ⟨_, _, ⟨T137, L137, k137, n137⟩, -, X137, ⟨Lc137, hQ137, l137, y137, z137⟩, st137⟩ := X129.virtualBack hx (y := (⟨"com/example/bidpace/bidpace/model/Bid", "won", "()Z"⟩ : MethodName)) (z := (⟨"com/example/bidpace/bidpace/model/Bid", "won", "()Z"⟩ : MethodName)) hown (mvT hZ (hw _ (List.mem_of_getElem? (i := 30) rfl))) (mvT hZ (hw _ (List.mem_of_getElem? (i := 31) rfl))) (notFace_of_selects (args := #[]) (mvT hZ (hw _ (List.mem_of_getElem? (i := 33) rfl)))) (mvT hZ (hw _ (List.mem_of_getElem? (i := 33) rfl))) (mvT hZ (hw _ (List.mem_of_getElem? (i := 32) rfl))) (by decide) (backOf (W := 0) (rm_wo l Z a0 hw [] b2 pc_ au pc_ T129.heap n0 Z136 f135 ge_b2 F1b2 F2b2 f130 ge_au f131) hZ (hw _ (List.mem_of_getElem? (i := 34) rfl)) (hw _ (List.mem_of_getElem? (i := 21) rfl)) (by decide) (by decide)) q137a q137c (g := (mkF m 69 #[.val (.long q0), .second, .val (.long q1), .second, iv p2, .val (.long am), .second, .val (.long pc_), .second, iv cl, rv au, rv b1, rv b2, .unset, .unset, .unset, .unset] [(.ref b2)])) rfl (by rw [hml]; rfl) (Steps.refl _) (argsL := []) (rest := []) (lenOf pd_4 rfl) rfl (by show 2 * 0 + _ ≤ _; exact Nat.le_of_eq rfl) (hb hby at_69) (fun _ _ => ⟨rfl, rfl, (by decide : 3 + 0 ≤ _), (by decide : 6 + 0 ≤ _)⟩)
  dsimp only [Pt.U, Pt.locs, Pt.cells, Pt.slots] at X137 l137 y137 z137 st137 hQ137
  subst l137 y137 z137
  obtain ⟨rfl, N137q, ew2⟩ := hQ137
  have N137 := Fr.app N129 N137q
  have w2 : own_won pc_ pc_ = (1 : Int32) := own_won_ge (by omega)
  have go138 : ∀ t, Steps p.tables e below (T137.setTop (mkF m 78 #[.val (.long q0), .second, .val (.long q1), .second, iv p2, .val (.long am), .second, .val (.long pc_), .second, iv cl, rv au, rv b1, rv b2, iv (own_won pc_ pc_), .unset, .unset, .unset] [(.int (lcmpW pc_ (0 : Int64)))])) t → Steps p.tables e below O t := fun t k => go102 t (by
    refine st105 _ ?_
    show Steps _ _ _ (T105.setTop (mkF m 31 _ [(.ref au)])) _
    refine XS.dup X105.here hx rfl (hb hby at_31) rfl rfl ?_
    show Steps _ _ _ (T105.setTop (mkF m 32 _ [(.ref au), (.ref au)])) _
    refine XS.lload X105.here hx rfl (hb hby at_32) rfl ?_
    show Steps _ _ _ (T105.setTop (mkF m 34 _ [(.long pc_), (.ref au), (.ref au)])) _
    refine XS.iload X105.here hx rfl (hb hby at_34) rfl ?_
    show Steps _ _ _ (T105.setTop (mkF m 36 _ [(.int cl), (.long pc_), (.ref au), (.ref au)])) _
    refine st107.trans ?_
    show Steps _ _ _ (T107.setTop (mkF m 39 _ [(.ref au)])) _
    refine XS.astore X107.here hx rfl (hb hby at_39) rfl rfl (l' := #[.val (.long q0), .second, .val (.long q1), .second, iv p2, .val (.long am), .second, .val (.long pc_), .second, iv cl, rv au, .unset, .unset, .unset, .unset, .unset, .unset]) rfl ?_
    show Steps _ _ _ (T107.setTop (mkF m 41 _ [])) _
    refine st110 _ ?_
    show Steps _ _ _ (T110.setTop (mkF m 44 _ [(.ref b1)])) _
    refine XS.dup X110.here hx rfl (hb hby at_44) rfl rfl ?_
    show Steps _ _ _ (T110.setTop (mkF m 45 _ [(.ref b1), (.ref b1)])) _
    refine XS.lload X110.here hx rfl (hb hby at_45) rfl ?_
    show Steps _ _ _ (T110.setTop (mkF m 47 _ [(.long am), (.ref b1), (.ref b1)])) _
    refine XS.aload X110.here hx rfl (hb hby at_47) rfl rfl ?_
    show Steps _ _ _ (T110.setTop (mkF m 49 _ [(.ref au), (.long am), (.ref b1), (.ref b1)])) _
    refine st115.trans ?_
    show Steps _ _ _ (T115.setTop (mkF m 52 _ [(.ref b1)])) _
    refine XS.astore X115.here hx rfl (hb hby at_52) rfl rfl (l' := #[.val (.long q0), .second, .val (.long q1), .second, iv p2, .val (.long am), .second, .val (.long pc_), .second, iv cl, rv au, rv b1, .unset, .unset, .unset, .unset, .unset]) rfl ?_
    show Steps _ _ _ (T115.setTop (mkF m 54 _ [])) _
    refine st120 _ ?_
    show Steps _ _ _ (T120.setTop (mkF m 57 _ [(.ref b2)])) _
    refine XS.dup X120.here hx rfl (hb hby at_57) rfl rfl ?_
    show Steps _ _ _ (T120.setTop (mkF m 58 _ [(.ref b2), (.ref b2)])) _
    refine XS.lload X120.here hx rfl (hb hby at_58) rfl ?_
    show Steps _ _ _ (T120.setTop (mkF m 60 _ [(.long pc_), (.ref b2), (.ref b2)])) _
    refine XS.aload X120.here hx rfl (hb hby at_60) rfl rfl ?_
    show Steps _ _ _ (T120.setTop (mkF m 62 _ [(.ref au), (.long pc_), (.ref b2), (.ref b2)])) _
    refine st129.trans ?_
    show Steps _ _ _ (T129.setTop (mkF m 65 _ [(.ref b2)])) _
    refine XS.astore X129.here hx rfl (hb hby at_65) rfl rfl (l' := #[.val (.long q0), .second, .val (.long q1), .second, iv p2, .val (.long am), .second, .val (.long pc_), .second, iv cl, rv au, rv b1, rv b2, .unset, .unset, .unset, .unset]) rfl ?_
    show Steps _ _ _ (T129.setTop (mkF m 67 _ [])) _
    refine XS.aload X129.here hx rfl (hb hby at_67) rfl rfl ?_
    show Steps _ _ _ (T129.setTop (mkF m 69 _ [(.ref b2)])) _
    refine st137.trans ?_
    show Steps _ _ _ (T137.setTop (mkF m 72 _ [(.int (own_won pc_ pc_))])) _
    refine XS.istore X137.here hx rfl (hb hby at_72) rfl (l' := #[.val (.long q0), .second, .val (.long q1), .second, iv p2, .val (.long am), .second, .val (.long pc_), .second, iv cl, rv au, rv b1, rv b2, iv (own_won pc_ pc_), .unset, .unset, .unset]) rfl ?_
    show Steps _ _ _ (T137.setTop (mkF m 74 _ [])) _
    refine XS.lload X137.here hx rfl (hb hby at_74) rfl ?_
    show Steps _ _ _ (T137.setTop (mkF m 76 _ [(.long pc_)])) _
    refine XS.lconst X137.here hx rfl (hb hby at_76) ?_
    show Steps _ _ _ (T137.setTop (mkF m 77 _ [(.long 0), (.long pc_)])) _
    refine XS.lcmp X137.here hx rfl (hb hby at_77) rfl ?_
    show Steps _ _ _ (T137.setTop (mkF m 78 _ [(.int (lcmpW pc_ (0 : Int64)))])) _
    exact k)
  by_cases hp : (0 : Int32) < (lcmpW pc_ (0 : Int64))
  · have hp' := lw_gt pc_ (0 : Int64)
    rw [Int64.lt_iff_toInt_lt] at hp'
    have hp1 : 0 < pc_.toInt := by have := hp'.mp hp; omega
    have s1 : (pc_ - (1 : Int64)).toInt = pc_.toInt - 1 := by have := c_lsub pc_ 1; have := rng64 (pc_ - 1); omega
    obtain ⟨T139, h139, X139, e139, E139, A139, D139, -, st139⟩ := newO X137 hx hZ hown (hw _ (List.mem_of_getElem? (i := 19) rfl)) (hw _ (List.mem_of_getElem? (i := 20) rfl)) (hw _ (List.mem_of_getElem? (i := 21) rfl)) ew2 (g := (mkF m 81 #[.val (.long q0), .second, .val (.long q1), .second, iv p2, .val (.long am), .second, .val (.long pc_), .second, iv cl, rv au, rv b1, rv b2, iv (own_won pc_ pc_), .unset, .unset, .unset] [])) rfl (hb hby at_81) (by decide) (by decide)
    obtain ⟨b3, g139⟩ : ∃ z, z = T129.heap.size := ⟨_, rfl⟩
    have ne140 : au ≠ b3 := Nat.ne_of_lt (Nat.lt_of_lt_of_le f130.lt (Nat.le_of_eq g139.symm))
    have ne141 : b1 ≠ b3 := Nat.ne_of_lt (Nat.lt_of_lt_of_le f132.lt (Nat.le_of_eq g139.symm))
    have ne142 : b2 ≠ b3 := Nat.ne_of_lt (Nat.lt_of_lt_of_le f135.lt (Nat.le_of_eq g139.symm))
    have ge_b3 : n0 ≤ b3 := Nat.le_trans Z136 (Nat.le_of_eq g139.symm)
    rw [← g139] at A139 D139 st139
    have f143 := f130.ext E139
    have f144 := f131.ext E139
    have f145 := f132.ext E139
    have f146 := f133.ext E139
    have f147 := f134.ext E139
    have f148 := f135.ext E139
    have f149 := F1b2.ext E139
    have f150 := F2b2.ext E139
    have Z151 := Nat.le_trans Z136 E139.1
    have F_amount_b3 : Fld Z h139 b3 "com/example/bidpace/bidpace/model/Bid" "amount" "J" (.long 0) := D139 (Or.inr (hw _ (List.mem_of_getElem? (i := 27) rfl))) (ty := .long) (by decide)
    have F_auction_b3 : Fld Z h139 b3 "com/example/bidpace/bidpace/model/Bid" "auction" "Lcom/example/bidpace/bidpace/model/Auction;" .null := D139 (Or.inr (hw _ (List.mem_of_getElem? (i := 29) rfl))) (ty := (.object "com/example/bidpace/bidpace/model/Auction")) (by decide)
    obtain ⟨_, _, ⟨T152, L152, k152, n152⟩, -, X152, ⟨Lc152, hQ152, l152, y152, z152⟩, st152⟩ := X139.specialBack hx (y := (⟨"com/example/bidpace/bidpace/model/Bid", "<init>", "(JLcom/example/bidpace/bidpace/model/Auction;)V"⟩ : MethodName)) rfl hown (mvT hZ (hw _ (List.mem_of_getElem? (i := 22) rfl))) (mvT hZ (hw _ (List.mem_of_getElem? (i := 23) rfl))) (mvT hZ (hw _ (List.mem_of_getElem? (i := 24) rfl))) (by decide) (backOf (W := 1) (rm_bi l Z a0 hw [] b3 (pc_ - (1 : Int64)) au  h139 n0 Z151 A139 ge_b3 F_amount_b3 F_auction_b3 (own_ge0 (by omega))) hZ (hw _ (List.mem_of_getElem? (i := 24) rfl)) (hw _ (List.mem_of_getElem? (i := 21) rfl)) (by decide) (by decide)) (g := (mkF m 91 #[.val (.long q0), .second, .val (.long q1), .second, iv p2, .val (.long am), .second, .val (.long pc_), .second, iv cl, rv au, rv b1, rv b2, iv (own_won pc_ pc_), .unset, .unset, .unset] [(.ref au), (.long (pc_ - (1 : Int64))), (.ref b3), (.ref b3)])) rfl (by rw [hml]; rfl) (Steps.refl _) (a := b3) (argsL := [(.long (pc_ - (1 : Int64))), (.ref au)]) (rest := [(.ref b3)]) (lenOf pd_3 rfl) rfl (by show 2 * 0 + _ ≤ _; exact Nat.le_of_eq rfl) (hb hby at_91) (fun _ _ => ⟨rfl, e139, (by decide : 4 + 0 ≤ _), (by decide : 8 + 0 ≤ _)⟩)
    dsimp only [Pt.U, Pt.locs, Pt.cells, Pt.slots] at X152 l152 y152 z152 st152 hQ152
    subst l152 y152 z152
    obtain ⟨rfl, N152q, Kb3, Eb3, F1b3, F2b3⟩ := hQ152
    have N152 := Fr.app N137 N152q
    have f153 := f143.keep Kb3
    have f154 := f144.keep Kb3 (ninS ne140 nin0)
    have f155 := f145.keep Kb3
    have f156 := f146.keep Kb3 (ninS ne141 nin0)
    have f157 := f147.keep Kb3 (ninS ne141 nin0)
    have f158 := f148.keep Kb3
    have f159 := f149.keep Kb3 (ninS ne142 nin0)
    have f160 := f150.keep Kb3 (ninS ne142 nin0)
    have f161 := A139.keep Kb3
    have Z162 := Nat.le_trans Z151 Kb3.1
    obtain ⟨cq163, kq163, q163a, q163b, q163c⟩ := isOf hZ rfl f161
    obtain ⟨_, _, ⟨T163, L163, k163, n163⟩, -, X163, ⟨Lc163, hQ163, l163, y163, z163⟩, st163⟩ := X152.virtualBack hx (y := (⟨"com/example/bidpace/bidpace/model/Bid", "won", "()Z"⟩ : MethodName)) (z := (⟨"com/example/bidpace/bidpace/model/Bid", "won", "()Z"⟩ : MethodName)) hown (mvT hZ (hw _ (List.mem_of_getElem? (i := 30) rfl))) (mvT hZ (hw _ (List.mem_of_getElem? (i := 31) rfl))) (notFace_of_selects (args := #[]) (mvT hZ (hw _ (List.mem_of_getElem? (i := 33) rfl)))) (mvT hZ (hw _ (List.mem_of_getElem? (i := 33) rfl))) (mvT hZ (hw _ (List.mem_of_getElem? (i := 32) rfl))) (by decide) (backOf (W := 0) (rm_wo l Z a0 hw [] b3 (pc_ - (1 : Int64)) au pc_ T152.heap n0 Z162 f161 ge_b3 F1b3 F2b3 f153 ge_au f154) hZ (hw _ (List.mem_of_getElem? (i := 34) rfl)) (hw _ (List.mem_of_getElem? (i := 21) rfl)) (by decide) (by decide)) q163a q163c (g := (mkF m 103 #[.val (.long q0), .second, .val (.long q1), .second, iv p2, .val (.long am), .second, .val (.long pc_), .second, iv cl, rv au, rv b1, rv b2, iv (own_won pc_ pc_), rv b3, .unset, .unset] [(.ref b3)])) rfl (by rw [hml]; rfl) (Steps.refl _) (argsL := []) (rest := []) (lenOf pd_4 rfl) rfl (by show 2 * 0 + _ ≤ _; exact Nat.le_of_eq rfl) (hb hby at_103) (fun _ _ => ⟨rfl, rfl, (by decide : 4 + 0 ≤ _), (by decide : 8 + 0 ≤ _)⟩)
    dsimp only [Pt.U, Pt.locs, Pt.cells, Pt.slots] at X163 l163 y163 z163 st163 hQ163
    subst l163 y163 z163
    obtain ⟨rfl, N163q, ew3⟩ := hQ163
    have N163 := Fr.app N152 N163q
    have hok : ¬ (1 : Int32) = (0 : Int32) := by decide
    have go164 : ∀ t, Steps p.tables e below (T163.setTop (mkF m 127 #[.val (.long q0), .second, .val (.long q1), .second, iv p2, .val (.long am), .second, .val (.long pc_), .second, iv cl, rv au, rv b1, rv b2, iv 1, .val (.long (pc_ - am)), .second, .unset] [(.int (lcmpW (pc_ - am) (0 : Int64)))])) t → Steps p.tables e below O t := fun t k => go138 t (by
      refine XS.ifNo X137.here hx rfl (hb hby at_78) rfl ((if0 _ _).trans (tlt (hp : (0 : Int32) < (lcmpW pc_ (0 : Int64)))).2.2.2) ?_
      show Steps _ _ _ (T137.setTop (mkF m 81 _ [])) _
      refine st139 _ ?_
      show Steps _ _ _ (T139.setTop (mkF m 84 _ [(.ref b3)])) _
      refine XS.dup X139.here hx rfl (hb hby at_84) rfl rfl ?_
      show Steps _ _ _ (T139.setTop (mkF m 85 _ [(.ref b3), (.ref b3)])) _
      refine XS.lload X139.here hx rfl (hb hby at_85) rfl ?_
      show Steps _ _ _ (T139.setTop (mkF m 87 _ [(.long pc_), (.ref b3), (.ref b3)])) _
      refine XS.lconst X139.here hx rfl (hb hby at_87) ?_
      show Steps _ _ _ (T139.setTop (mkF m 88 _ [(.long 1), (.long pc_), (.ref b3), (.ref b3)])) _
      refine XS.lsub X139.here hx rfl (hb hby at_88) rfl ?_
      show Steps _ _ _ (T139.setTop (mkF m 89 _ [(.long (pc_ - (1 : Int64))), (.ref b3), (.ref b3)])) _
      refine XS.aload X139.here hx rfl (hb hby at_89) rfl rfl ?_
      show Steps _ _ _ (T139.setTop (mkF m 91 _ [(.ref au), (.long (pc_ - (1 : Int64))), (.ref b3), (.ref b3)])) _
      refine st152.trans ?_
      show Steps _ _ _ (T152.setTop (mkF m 94 _ [(.ref b3)])) _
      refine XS.astore X152.here hx rfl (hb hby at_94) rfl rfl (l' := #[.val (.long q0), .second, .val (.long q1), .second, iv p2, .val (.long am), .second, .val (.long pc_), .second, iv cl, rv au, rv b1, rv b2, iv (own_won pc_ pc_), rv b3, .unset, .unset]) rfl ?_
      show Steps _ _ _ (T152.setTop (mkF m 96 _ [])) _
      refine XS.iload X152.here hx rfl (hb hby at_96) rfl ?_
      show Steps _ _ _ (T152.setTop (mkF m 98 _ [(.int (own_won pc_ pc_))])) _
      refine XS.ifNo X152.here hx rfl (hb hby at_98) rfl ((if0 _ _).trans (feq (by rw [w2]; decide : ¬ ((own_won pc_ pc_) = (0 : Int32)))).1) ?_
      show Steps _ _ _ (T152.setTop (mkF m 101 _ [])) _
      refine XS.aload X152.here hx rfl (hb hby at_101) rfl rfl ?_
      show Steps _ _ _ (T152.setTop (mkF m 103 _ [(.ref b3)])) _
      refine st163.trans ?_
      show Steps _ _ _ (T163.setTop (mkF m 106 _ [(.int (own_won (pc_ - (1 : Int64)) pc_))])) _
      refine XS.ifNo X163.here hx rfl (hb hby at_106) rfl ((if0 _ _).trans (teq (own_won_lt (by omega) : (own_won (pc_ - (1 : Int64)) pc_) = (0 : Int32))).2) ?_
      show Steps _ _ _ (T163.setTop (mkF m 109 _ [])) _
      refine XS.iconst X163.here hx rfl (hb hby at_109) ?_
      show Steps _ _ _ (T163.setTop (mkF m 110 _ [(.int 1)])) _
      refine XS.goto X163.here hx rfl (pc0 := 110) (pc' := 114) rfl (hb hby at_110) (by decide) (by decide) ?_
      show Steps _ _ _ (T163.setTop (mkF m 114 _ [(.int 1)])) _
      refine XS.istore X163.here hx rfl (hb hby at_114) rfl (l' := #[.val (.long q0), .second, .val (.long q1), .second, iv p2, .val (.long am), .second, .val (.long pc_), .second, iv cl, rv au, rv b1, rv b2, iv 1, rv b3, .unset, .unset]) rfl ?_
      show Steps _ _ _ (T163.setTop (mkF m 116 _ [])) _
      refine XS.lload X163.here hx rfl (hb hby at_116) rfl ?_
      show Steps _ _ _ (T163.setTop (mkF m 118 _ [(.long pc_)])) _
      refine XS.lload X163.here hx rfl (hb hby at_118) rfl ?_
      show Steps _ _ _ (T163.setTop (mkF m 120 _ [(.long am), (.long pc_)])) _
      refine XS.lsub X163.here hx rfl (hb hby at_120) rfl ?_
      show Steps _ _ _ (T163.setTop (mkF m 121 _ [(.long (pc_ - am))])) _
      refine XS.lstore X163.here hx rfl (hb hby at_121) rfl (l' := #[.val (.long q0), .second, .val (.long q1), .second, iv p2, .val (.long am), .second, .val (.long pc_), .second, iv cl, rv au, rv b1, rv b2, iv 1, .val (.long (pc_ - am)), .second, .unset]) rfl ?_
      show Steps _ _ _ (T163.setTop (mkF m 123 _ [])) _
      refine XS.lload X163.here hx rfl (hb hby at_123) rfl ?_
      show Steps _ _ _ (T163.setTop (mkF m 125 _ [(.long (pc_ - am))])) _
      refine XS.lconst X163.here hx rfl (hb hby at_125) ?_
      show Steps _ _ _ (T163.setTop (mkF m 126 _ [(.long 0), (.long (pc_ - am))])) _
      refine XS.lcmp X163.here hx rfl (hb hby at_126) rfl ?_
      show Steps _ _ _ (T163.setTop (mkF m 127 _ [(.int (lcmpW (pc_ - am) (0 : Int64)))])) _
      exact k)
    by_cases hd : (0 : Int32) < (lcmpW (pc_ - am) (0 : Int64))
    · have dd := c_lsub pc_ am
      have dr := rng64 (pc_ - am)
      have hd' := lw_gt (pc_ - am) (0 : Int64)
      rw [Int64.lt_iff_toInt_lt] at hd'
      have w1 : own_won am pc_ = (0 : Int32) := own_won_lt (by have := hd'.mp hd; omega)
      obtain ⟨cq165, kq165, q165a, q165b, q165c⟩ := isOf hZ ew3 f155
      obtain ⟨_, _, ⟨T165, L165, k165, n165⟩, -, X165, ⟨Lc165, hQ165, l165, y165, z165⟩, st165⟩ := X163.virtualBack hx (y := (⟨"com/example/bidpace/bidpace/model/Bid", "won", "()Z"⟩ : MethodName)) (z := (⟨"com/example/bidpace/bidpace/model/Bid", "won", "()Z"⟩ : MethodName)) hown (mvT hZ (hw _ (List.mem_of_getElem? (i := 30) rfl))) (mvT hZ (hw _ (List.mem_of_getElem? (i := 31) rfl))) (notFace_of_selects (args := #[]) (mvT hZ (hw _ (List.mem_of_getElem? (i := 33) rfl)))) (mvT hZ (hw _ (List.mem_of_getElem? (i := 33) rfl))) (mvT hZ (hw _ (List.mem_of_getElem? (i := 32) rfl))) (by decide) (backOf (W := 0) (rm_wo l Z a0 hw [] b1 am au pc_ T152.heap n0 Z162 f155 ge_b1 f156 f157 f153 ge_au f154) hZ (hw _ (List.mem_of_getElem? (i := 34) rfl)) (hw _ (List.mem_of_getElem? (i := 21) rfl)) (by decide) (by decide)) q165a q165c (g := (mkF m 144 #[.val (.long q0), .second, .val (.long q1), .second, iv p2, .val (.long am), .second, .val (.long pc_), .second, iv cl, rv au, rv b1, rv b2, iv 1, .val (.long (pc_ - am)), .second, iv 0] [(.ref b1)])) rfl (by rw [hml]; rfl) (Steps.refl _) (argsL := []) (rest := []) (lenOf pd_4 rfl) rfl (by show 2 * 0 + _ ≤ _; exact Nat.le_of_eq rfl) (hb hby at_144) (fun _ _ => ⟨rfl, ew3, (by decide : 4 + 0 ≤ _), (by decide : 8 + 0 ≤ _)⟩)
      dsimp only [Pt.U, Pt.locs, Pt.cells, Pt.slots] at X165 l165 y165 z165 st165 hQ165
      subst l165 y165 z165
      obtain ⟨rfl, N165q, ew1⟩ := hQ165
      have N165 := Fr.app N163 N165q
      have go166 : ∀ t, Steps p.tables e below (T165.setTop (mkF m 157 #[.val (.long q0), .second, .val (.long q1), .second, iv p2, .val (.long am), .second, .val (.long pc_), .second, iv cl, rv au, rv b1, rv b2, iv 1, .val (.long (pc_ - am)), .second, iv 0] [(.int 1)])) t → Steps p.tables e below O t := fun t k => go164 t (by
        refine XS.ifYes X163.here hx rfl (pc0 := 127) (pc' := 134) rfl (hb hby at_127) rfl ((if0 _ _).trans (tlt (hd : (0 : Int32) < (lcmpW (pc_ - am) (0 : Int64)))).2.2.1) (by decide) (by decide) ?_
        show Steps _ _ _ (T163.setTop (mkF m 134 _ [])) _
        refine XS.iconst X163.here hx rfl (hb hby at_134) ?_
        show Steps _ _ _ (T163.setTop (mkF m 135 _ [(.int 0)])) _
        refine XS.istore X163.here hx rfl (hb hby at_135) rfl (l' := #[.val (.long q0), .second, .val (.long q1), .second, iv p2, .val (.long am), .second, .val (.long pc_), .second, iv cl, rv au, rv b1, rv b2, iv 1, .val (.long (pc_ - am)), .second, iv 0]) rfl ?_
        show Steps _ _ _ (T163.setTop (mkF m 137 _ [])) _
        refine XS.iload X163.here hx rfl (hb hby at_137) rfl ?_
        show Steps _ _ _ (T163.setTop (mkF m 139 _ [(.int 1)])) _
        refine XS.ifNo X163.here hx rfl (hb hby at_139) rfl ((if0 _ _).trans (feq (hok : ¬ ((1 : Int32) = (0 : Int32)))).1) ?_
        show Steps _ _ _ (T163.setTop (mkF m 142 _ [])) _
        refine XS.aload X163.here hx rfl (hb hby at_142) rfl rfl ?_
        show Steps _ _ _ (T163.setTop (mkF m 144 _ [(.ref b1)])) _
        refine st165.trans ?_
        show Steps _ _ _ (T165.setTop (mkF m 147 _ [(.int (own_won am pc_))])) _
        refine XS.iload X165.here hx rfl (hb hby at_147) rfl ?_
        show Steps _ _ _ (T165.setTop (mkF m 149 _ [(.int 0), (.int (own_won am pc_))])) _
        refine XS.icmpNo X165.here hx rfl (hb hby at_149) rfl (teq (w1 : (own_won am pc_) = (0 : Int32))).2 ?_
        show Steps _ _ _ (T165.setTop (mkF m 152 _ [])) _
        refine XS.iconst X165.here hx rfl (hb hby at_152) ?_
        show Steps _ _ _ (T165.setTop (mkF m 153 _ [(.int 1)])) _
        refine XS.goto X165.here hx rfl (pc0 := 153) (pc' := 157) rfl (hb hby at_153) (by decide) (by decide) ?_
        show Steps _ _ _ (T165.setTop (mkF m 157 _ [(.int 1)])) _
        exact k)
      subst hO
      obtain ⟨fs, hr, hrun, hended, hW, hsame⟩ := X165.leave (v := some (.int 1)) (fun h => by rw [Bd.returns] at h; cases h)
      refine ⟨_, _, go166 _ ?_, hrun, hended, _, _, rfl, ?_, ⟨_, rfl⟩, hW, hsame.mono (by decide) (by decide)⟩
      · exact retN X165 hx (t := .boolean) Bd.returns (by simp) (hb hby at_157) hr
      · show Q_law Z q0 q1 p2 h0 n0 _ T165.heap _
        rw [ew1]
        exact ⟨rfl, N165⟩
    · have dd := c_lsub pc_ am
      have dr := rng64 (pc_ - am)
      have hd' := lw_gt (pc_ - am) (0 : Int64)
      rw [Int64.lt_iff_toInt_lt] at hd'
      have w1 : own_won am pc_ = (1 : Int32) := own_won_ge (by have q : ¬ ((0 : Int64).toInt < (pc_ - am).toInt) := fun z => hd (hd'.mpr z); omega)
      obtain ⟨cq168, kq168, q168a, q168b, q168c⟩ := isOf hZ ew3 f155
      obtain ⟨_, _, ⟨T168, L168, k168, n168⟩, -, X168, ⟨Lc168, hQ168, l168, y168, z168⟩, st168⟩ := X163.virtualBack hx (y := (⟨"com/example/bidpace/bidpace/model/Bid", "won", "()Z"⟩ : MethodName)) (z := (⟨"com/example/bidpace/bidpace/model/Bid", "won", "()Z"⟩ : MethodName)) hown (mvT hZ (hw _ (List.mem_of_getElem? (i := 30) rfl))) (mvT hZ (hw _ (List.mem_of_getElem? (i := 31) rfl))) (notFace_of_selects (args := #[]) (mvT hZ (hw _ (List.mem_of_getElem? (i := 33) rfl)))) (mvT hZ (hw _ (List.mem_of_getElem? (i := 33) rfl))) (mvT hZ (hw _ (List.mem_of_getElem? (i := 32) rfl))) (by decide) (backOf (W := 0) (rm_wo l Z a0 hw [] b1 am au pc_ T152.heap n0 Z162 f155 ge_b1 f156 f157 f153 ge_au f154) hZ (hw _ (List.mem_of_getElem? (i := 34) rfl)) (hw _ (List.mem_of_getElem? (i := 21) rfl)) (by decide) (by decide)) q168a q168c (g := (mkF m 144 #[.val (.long q0), .second, .val (.long q1), .second, iv p2, .val (.long am), .second, .val (.long pc_), .second, iv cl, rv au, rv b1, rv b2, iv 1, .val (.long (pc_ - am)), .second, iv 1] [(.ref b1)])) rfl (by rw [hml]; rfl) (Steps.refl _) (argsL := []) (rest := []) (lenOf pd_4 rfl) rfl (by show 2 * 0 + _ ≤ _; exact Nat.le_of_eq rfl) (hb hby at_144) (fun _ _ => ⟨rfl, ew3, (by decide : 4 + 0 ≤ _), (by decide : 8 + 0 ≤ _)⟩)
      dsimp only [Pt.U, Pt.locs, Pt.cells, Pt.slots] at X168 l168 y168 z168 st168 hQ168
      subst l168 y168 z168
      obtain ⟨rfl, N168q, ew1⟩ := hQ168
      have N168 := Fr.app N163 N168q
      have go169 : ∀ t, Steps p.tables e below (T168.setTop (mkF m 157 #[.val (.long q0), .second, .val (.long q1), .second, iv p2, .val (.long am), .second, .val (.long pc_), .second, iv cl, rv au, rv b1, rv b2, iv 1, .val (.long (pc_ - am)), .second, iv 1] [(.int 1)])) t → Steps p.tables e below O t := fun t k => go164 t (by
        refine XS.ifNo X163.here hx rfl (hb hby at_127) rfl ((if0 _ _).trans (flt (hd : ¬ ((0 : Int32) < (lcmpW (pc_ - am) (0 : Int64))))).2.2.1) ?_
        show Steps _ _ _ (T163.setTop (mkF m 130 _ [])) _
        refine XS.iconst X163.here hx rfl (hb hby at_130) ?_
        show Steps _ _ _ (T163.setTop (mkF m 131 _ [(.int 1)])) _
        refine XS.goto X163.here hx rfl (pc0 := 131) (pc' := 135) rfl (hb hby at_131) (by decide) (by decide) ?_
        show Steps _ _ _ (T163.setTop (mkF m 135 _ [(.int 1)])) _
        refine XS.istore X163.here hx rfl (hb hby at_135) rfl (l' := #[.val (.long q0), .second, .val (.long q1), .second, iv p2, .val (.long am), .second, .val (.long pc_), .second, iv cl, rv au, rv b1, rv b2, iv 1, .val (.long (pc_ - am)), .second, iv 1]) rfl ?_
        show Steps _ _ _ (T163.setTop (mkF m 137 _ [])) _
        refine XS.iload X163.here hx rfl (hb hby at_137) rfl ?_
        show Steps _ _ _ (T163.setTop (mkF m 139 _ [(.int 1)])) _
        refine XS.ifNo X163.here hx rfl (hb hby at_139) rfl ((if0 _ _).trans (feq (hok : ¬ ((1 : Int32) = (0 : Int32)))).1) ?_
        show Steps _ _ _ (T163.setTop (mkF m 142 _ [])) _
        refine XS.aload X163.here hx rfl (hb hby at_142) rfl rfl ?_
        show Steps _ _ _ (T163.setTop (mkF m 144 _ [(.ref b1)])) _
        refine st168.trans ?_
        show Steps _ _ _ (T168.setTop (mkF m 147 _ [(.int (own_won am pc_))])) _
        refine XS.iload X168.here hx rfl (hb hby at_147) rfl ?_
        show Steps _ _ _ (T168.setTop (mkF m 149 _ [(.int 1), (.int (own_won am pc_))])) _
        refine XS.icmpNo X168.here hx rfl (hb hby at_149) rfl (teq (w1 : (own_won am pc_) = (1 : Int32))).2 ?_
        show Steps _ _ _ (T168.setTop (mkF m 152 _ [])) _
        refine XS.iconst X168.here hx rfl (hb hby at_152) ?_
        show Steps _ _ _ (T168.setTop (mkF m 153 _ [(.int 1)])) _
        refine XS.goto X168.here hx rfl (pc0 := 153) (pc' := 157) rfl (hb hby at_153) (by decide) (by decide) ?_
        show Steps _ _ _ (T168.setTop (mkF m 157 _ [(.int 1)])) _
        exact k)
      subst hO
      obtain ⟨fs, hr, hrun, hended, hW, hsame⟩ := X168.leave (v := some (.int 1)) (fun h => by rw [Bd.returns] at h; cases h)
      refine ⟨_, _, go169 _ ?_, hrun, hended, _, _, rfl, ?_, ⟨_, rfl⟩, hW, hsame.mono (by decide) (by decide)⟩
      · exact retN X168 hx (t := .boolean) Bd.returns (by simp) (hb hby at_157) hr
      · show Q_law Z q0 q1 p2 h0 n0 _ T168.heap _
        rw [ew1]
        exact ⟨rfl, N168⟩
  · have hp' := lw_gt pc_ (0 : Int64)
    rw [Int64.lt_iff_toInt_lt] at hp'
    have hok : ¬ own_won pc_ pc_ = (0 : Int32) := by rw [w2]; decide
    have go171 : ∀ t, Steps p.tables e below (T137.setTop (mkF m 127 #[.val (.long q0), .second, .val (.long q1), .second, iv p2, .val (.long am), .second, .val (.long pc_), .second, iv cl, rv au, rv b1, rv b2, iv (own_won pc_ pc_), .val (.long (pc_ - am)), .second, .unset] [(.int (lcmpW (pc_ - am) (0 : Int64)))])) t → Steps p.tables e below O t := fun t k => go138 t (by
      refine XS.ifYes X137.here hx rfl (pc0 := 78) (pc' := 116) rfl (hb hby at_78) rfl ((if0 _ _).trans (flt (hp : ¬ ((0 : Int32) < (lcmpW pc_ (0 : Int64))))).2.2.2) (by decide) (by decide) ?_
      show Steps _ _ _ (T137.setTop (mkF m 116 _ [])) _
      refine XS.lload X137.here hx rfl (hb hby at_116) rfl ?_
      show Steps _ _ _ (T137.setTop (mkF m 118 _ [(.long pc_)])) _
      refine XS.lload X137.here hx rfl (hb hby at_118) rfl ?_
      show Steps _ _ _ (T137.setTop (mkF m 120 _ [(.long am), (.long pc_)])) _
      refine XS.lsub X137.here hx rfl (hb hby at_120) rfl ?_
      show Steps _ _ _ (T137.setTop (mkF m 121 _ [(.long (pc_ - am))])) _
      refine XS.lstore X137.here hx rfl (hb hby at_121) rfl (l' := #[.val (.long q0), .second, .val (.long q1), .second, iv p2, .val (.long am), .second, .val (.long pc_), .second, iv cl, rv au, rv b1, rv b2, iv (own_won pc_ pc_), .val (.long (pc_ - am)), .second, .unset]) rfl ?_
      show Steps _ _ _ (T137.setTop (mkF m 123 _ [])) _
      refine XS.lload X137.here hx rfl (hb hby at_123) rfl ?_
      show Steps _ _ _ (T137.setTop (mkF m 125 _ [(.long (pc_ - am))])) _
      refine XS.lconst X137.here hx rfl (hb hby at_125) ?_
      show Steps _ _ _ (T137.setTop (mkF m 126 _ [(.long 0), (.long (pc_ - am))])) _
      refine XS.lcmp X137.here hx rfl (hb hby at_126) rfl ?_
      show Steps _ _ _ (T137.setTop (mkF m 127 _ [(.int (lcmpW (pc_ - am) (0 : Int64)))])) _
      exact k)
    by_cases hd : (0 : Int32) < (lcmpW (pc_ - am) (0 : Int64))
    · have dd := c_lsub pc_ am
      have dr := rng64 (pc_ - am)
      have hd' := lw_gt (pc_ - am) (0 : Int64)
      rw [Int64.lt_iff_toInt_lt] at hd'
      have w1 : own_won am pc_ = (0 : Int32) := own_won_lt (by have := hd'.mp hd; omega)
      obtain ⟨cq172, kq172, q172a, q172b, q172c⟩ := isOf hZ ew2 f132
      obtain ⟨_, _, ⟨T172, L172, k172, n172⟩, -, X172, ⟨Lc172, hQ172, l172, y172, z172⟩, st172⟩ := X137.virtualBack hx (y := (⟨"com/example/bidpace/bidpace/model/Bid", "won", "()Z"⟩ : MethodName)) (z := (⟨"com/example/bidpace/bidpace/model/Bid", "won", "()Z"⟩ : MethodName)) hown (mvT hZ (hw _ (List.mem_of_getElem? (i := 30) rfl))) (mvT hZ (hw _ (List.mem_of_getElem? (i := 31) rfl))) (notFace_of_selects (args := #[]) (mvT hZ (hw _ (List.mem_of_getElem? (i := 33) rfl)))) (mvT hZ (hw _ (List.mem_of_getElem? (i := 33) rfl))) (mvT hZ (hw _ (List.mem_of_getElem? (i := 32) rfl))) (by decide) (backOf (W := 0) (rm_wo l Z a0 hw [] b1 am au pc_ T129.heap n0 Z136 f132 ge_b1 f133 f134 f130 ge_au f131) hZ (hw _ (List.mem_of_getElem? (i := 34) rfl)) (hw _ (List.mem_of_getElem? (i := 21) rfl)) (by decide) (by decide)) q172a q172c (g := (mkF m 144 #[.val (.long q0), .second, .val (.long q1), .second, iv p2, .val (.long am), .second, .val (.long pc_), .second, iv cl, rv au, rv b1, rv b2, iv (own_won pc_ pc_), .val (.long (pc_ - am)), .second, iv 0] [(.ref b1)])) rfl (by rw [hml]; rfl) (Steps.refl _) (argsL := []) (rest := []) (lenOf pd_4 rfl) rfl (by show 2 * 0 + _ ≤ _; exact Nat.le_of_eq rfl) (hb hby at_144) (fun _ _ => ⟨rfl, ew2, (by decide : 3 + 0 ≤ _), (by decide : 6 + 0 ≤ _)⟩)
      dsimp only [Pt.U, Pt.locs, Pt.cells, Pt.slots] at X172 l172 y172 z172 st172 hQ172
      subst l172 y172 z172
      obtain ⟨rfl, N172q, ew1⟩ := hQ172
      have N172 := Fr.app N137 N172q
      have go173 : ∀ t, Steps p.tables e below (T172.setTop (mkF m 157 #[.val (.long q0), .second, .val (.long q1), .second, iv p2, .val (.long am), .second, .val (.long pc_), .second, iv cl, rv au, rv b1, rv b2, iv (own_won pc_ pc_), .val (.long (pc_ - am)), .second, iv 0] [(.int 1)])) t → Steps p.tables e below O t := fun t k => go171 t (by
        refine XS.ifYes X137.here hx rfl (pc0 := 127) (pc' := 134) rfl (hb hby at_127) rfl ((if0 _ _).trans (tlt (hd : (0 : Int32) < (lcmpW (pc_ - am) (0 : Int64)))).2.2.1) (by decide) (by decide) ?_
        show Steps _ _ _ (T137.setTop (mkF m 134 _ [])) _
        refine XS.iconst X137.here hx rfl (hb hby at_134) ?_
        show Steps _ _ _ (T137.setTop (mkF m 135 _ [(.int 0)])) _
        refine XS.istore X137.here hx rfl (hb hby at_135) rfl (l' := #[.val (.long q0), .second, .val (.long q1), .second, iv p2, .val (.long am), .second, .val (.long pc_), .second, iv cl, rv au, rv b1, rv b2, iv (own_won pc_ pc_), .val (.long (pc_ - am)), .second, iv 0]) rfl ?_
        show Steps _ _ _ (T137.setTop (mkF m 137 _ [])) _
        refine XS.iload X137.here hx rfl (hb hby at_137) rfl ?_
        show Steps _ _ _ (T137.setTop (mkF m 139 _ [(.int (own_won pc_ pc_))])) _
        refine XS.ifNo X137.here hx rfl (hb hby at_139) rfl ((if0 _ _).trans (feq (hok : ¬ ((own_won pc_ pc_) = (0 : Int32)))).1) ?_
        show Steps _ _ _ (T137.setTop (mkF m 142 _ [])) _
        refine XS.aload X137.here hx rfl (hb hby at_142) rfl rfl ?_
        show Steps _ _ _ (T137.setTop (mkF m 144 _ [(.ref b1)])) _
        refine st172.trans ?_
        show Steps _ _ _ (T172.setTop (mkF m 147 _ [(.int (own_won am pc_))])) _
        refine XS.iload X172.here hx rfl (hb hby at_147) rfl ?_
        show Steps _ _ _ (T172.setTop (mkF m 149 _ [(.int 0), (.int (own_won am pc_))])) _
        refine XS.icmpNo X172.here hx rfl (hb hby at_149) rfl (teq (w1 : (own_won am pc_) = (0 : Int32))).2 ?_
        show Steps _ _ _ (T172.setTop (mkF m 152 _ [])) _
        refine XS.iconst X172.here hx rfl (hb hby at_152) ?_
        show Steps _ _ _ (T172.setTop (mkF m 153 _ [(.int 1)])) _
        refine XS.goto X172.here hx rfl (pc0 := 153) (pc' := 157) rfl (hb hby at_153) (by decide) (by decide) ?_
        show Steps _ _ _ (T172.setTop (mkF m 157 _ [(.int 1)])) _
        exact k)
      subst hO
      obtain ⟨fs, hr, hrun, hended, hW, hsame⟩ := X172.leave (v := some (.int 1)) (fun h => by rw [Bd.returns] at h; cases h)
      refine ⟨_, _, go173 _ ?_, hrun, hended, _, _, rfl, ?_, ⟨_, rfl⟩, hW, hsame.mono (by decide) (by decide)⟩
      · exact retN X172 hx (t := .boolean) Bd.returns (by simp) (hb hby at_157) hr
      · show Q_law Z q0 q1 p2 h0 n0 _ T172.heap _
        rw [ew1]
        exact ⟨rfl, N172⟩
    · have dd := c_lsub pc_ am
      have dr := rng64 (pc_ - am)
      have hd' := lw_gt (pc_ - am) (0 : Int64)
      rw [Int64.lt_iff_toInt_lt] at hd'
      have w1 : own_won am pc_ = (1 : Int32) := own_won_ge (by have q : ¬ ((0 : Int64).toInt < (pc_ - am).toInt) := fun z => hd (hd'.mpr z); omega)
      obtain ⟨cq175, kq175, q175a, q175b, q175c⟩ := isOf hZ ew2 f132
      obtain ⟨_, _, ⟨T175, L175, k175, n175⟩, -, X175, ⟨Lc175, hQ175, l175, y175, z175⟩, st175⟩ := X137.virtualBack hx (y := (⟨"com/example/bidpace/bidpace/model/Bid", "won", "()Z"⟩ : MethodName)) (z := (⟨"com/example/bidpace/bidpace/model/Bid", "won", "()Z"⟩ : MethodName)) hown (mvT hZ (hw _ (List.mem_of_getElem? (i := 30) rfl))) (mvT hZ (hw _ (List.mem_of_getElem? (i := 31) rfl))) (notFace_of_selects (args := #[]) (mvT hZ (hw _ (List.mem_of_getElem? (i := 33) rfl)))) (mvT hZ (hw _ (List.mem_of_getElem? (i := 33) rfl))) (mvT hZ (hw _ (List.mem_of_getElem? (i := 32) rfl))) (by decide) (backOf (W := 0) (rm_wo l Z a0 hw [] b1 am au pc_ T129.heap n0 Z136 f132 ge_b1 f133 f134 f130 ge_au f131) hZ (hw _ (List.mem_of_getElem? (i := 34) rfl)) (hw _ (List.mem_of_getElem? (i := 21) rfl)) (by decide) (by decide)) q175a q175c (g := (mkF m 144 #[.val (.long q0), .second, .val (.long q1), .second, iv p2, .val (.long am), .second, .val (.long pc_), .second, iv cl, rv au, rv b1, rv b2, iv (own_won pc_ pc_), .val (.long (pc_ - am)), .second, iv 1] [(.ref b1)])) rfl (by rw [hml]; rfl) (Steps.refl _) (argsL := []) (rest := []) (lenOf pd_4 rfl) rfl (by show 2 * 0 + _ ≤ _; exact Nat.le_of_eq rfl) (hb hby at_144) (fun _ _ => ⟨rfl, ew2, (by decide : 3 + 0 ≤ _), (by decide : 6 + 0 ≤ _)⟩)
      dsimp only [Pt.U, Pt.locs, Pt.cells, Pt.slots] at X175 l175 y175 z175 st175 hQ175
      subst l175 y175 z175
      obtain ⟨rfl, N175q, ew1⟩ := hQ175
      have N175 := Fr.app N137 N175q
      have go176 : ∀ t, Steps p.tables e below (T175.setTop (mkF m 157 #[.val (.long q0), .second, .val (.long q1), .second, iv p2, .val (.long am), .second, .val (.long pc_), .second, iv cl, rv au, rv b1, rv b2, iv (own_won pc_ pc_), .val (.long (pc_ - am)), .second, iv 1] [(.int 1)])) t → Steps p.tables e below O t := fun t k => go171 t (by
        refine XS.ifNo X137.here hx rfl (hb hby at_127) rfl ((if0 _ _).trans (flt (hd : ¬ ((0 : Int32) < (lcmpW (pc_ - am) (0 : Int64))))).2.2.1) ?_
        show Steps _ _ _ (T137.setTop (mkF m 130 _ [])) _
        refine XS.iconst X137.here hx rfl (hb hby at_130) ?_
        show Steps _ _ _ (T137.setTop (mkF m 131 _ [(.int 1)])) _
        refine XS.goto X137.here hx rfl (pc0 := 131) (pc' := 135) rfl (hb hby at_131) (by decide) (by decide) ?_
        show Steps _ _ _ (T137.setTop (mkF m 135 _ [(.int 1)])) _
        refine XS.istore X137.here hx rfl (hb hby at_135) rfl (l' := #[.val (.long q0), .second, .val (.long q1), .second, iv p2, .val (.long am), .second, .val (.long pc_), .second, iv cl, rv au, rv b1, rv b2, iv (own_won pc_ pc_), .val (.long (pc_ - am)), .second, iv 1]) rfl ?_
        show Steps _ _ _ (T137.setTop (mkF m 137 _ [])) _
        refine XS.iload X137.here hx rfl (hb hby at_137) rfl ?_
        show Steps _ _ _ (T137.setTop (mkF m 139 _ [(.int (own_won pc_ pc_))])) _
        refine XS.ifNo X137.here hx rfl (hb hby at_139) rfl ((if0 _ _).trans (feq (hok : ¬ ((own_won pc_ pc_) = (0 : Int32)))).1) ?_
        show Steps _ _ _ (T137.setTop (mkF m 142 _ [])) _
        refine XS.aload X137.here hx rfl (hb hby at_142) rfl rfl ?_
        show Steps _ _ _ (T137.setTop (mkF m 144 _ [(.ref b1)])) _
        refine st175.trans ?_
        show Steps _ _ _ (T175.setTop (mkF m 147 _ [(.int (own_won am pc_))])) _
        refine XS.iload X175.here hx rfl (hb hby at_147) rfl ?_
        show Steps _ _ _ (T175.setTop (mkF m 149 _ [(.int 1), (.int (own_won am pc_))])) _
        refine XS.icmpNo X175.here hx rfl (hb hby at_149) rfl (teq (w1 : (own_won am pc_) = (1 : Int32))).2 ?_
        show Steps _ _ _ (T175.setTop (mkF m 152 _ [])) _
        refine XS.iconst X175.here hx rfl (hb hby at_152) ?_
        show Steps _ _ _ (T175.setTop (mkF m 153 _ [(.int 1)])) _
        refine XS.goto X175.here hx rfl (pc0 := 153) (pc' := 157) rfl (hb hby at_153) (by decide) (by decide) ?_
        show Steps _ _ _ (T175.setTop (mkF m 157 _ [(.int 1)])) _
        exact k)
      subst hO
      obtain ⟨fs, hr, hrun, hended, hW, hsame⟩ := X175.leave (v := some (.int 1)) (fun h => by rw [Bd.returns] at h; cases h)
      refine ⟨_, _, go176 _ ?_, hrun, hended, _, _, rfl, ?_, ⟨_, rfl⟩, hW, hsame.mono (by decide) (by decide)⟩
      · exact retN X175 hx (t := .boolean) Bd.returns (by simp) (hb hby at_157) hr
      · show Q_law Z q0 q1 p2 h0 n0 _ T175.heap _
        rw [ew1]
        exact ⟨rfl, N175⟩
set_option maxRecDepth 65536 in
set_option maxHeartbeats 40000000 in
theorem comes_1 {Post : Tables → Env → Array Value → State → Outcome → State → Prop} (hpost : ∀ tb e args s v u, (limb_1_1.after args s (.returned v) u = true ∧ limb_1_2.after args s (.returned v) u = true ∧ True) → FrameEnd s (.returned v) u (Jvm.fieldLocs frame_1_writes args s ++ Jvm.arrayLocs frame_1_arrays args s ++ Jvm.staticLocs frame_1_statics s) 16 128 → Post tb e args s (.returned v) u) :
    ArmFor flags0 classFile x code maxLocals ret World_1 tables_1 room_1 Calls_1 rest_1 Pre_1 Post := by
  intro l hfl _ _ p e ha hc hk s m args below hf hA hF happ hP
  obtain ⟨hcalls, hrest, hpre⟩ := hP
  obtain ⟨-, -, -, hnamed, -, -, -, hat⟩ := (Spec.applies_iff hf).mp happ
  obtain ⟨hg, hn⟩ := and_e (Cond.before_iff.mp (show (Jvm.Cond.and given_1 narrow_1).before args s = true from hpre))
  obtain ⟨hcnt, r0⟩ := and_e hg
  obtain ⟨c0, r1⟩ := and_e r0
  obtain ⟨c1, r2⟩ := and_e r1
  obtain ⟨w0, w1, w2, rfl⟩ : ∃ w0 w1 w2 : Value, args = #[w0, w1, w2] := by
    have hs : args.size = 3 := by simpa [Cond.value, given_1] using hcnt
    obtain ⟨L⟩ := args
    match L, hs with
    | [w0, w1, w2], _ => exact ⟨w0, w1, w2, rfl⟩
  have hw := fun d (hd : d ∈ tables_1) => atoms_spec (ws := Jvm.Cond.code x code maxLocals ret :: tables_1) hat d (List.mem_cons_of_mem _ hd)
  obtain ⟨i0, ei0⟩ := isL_v c0
  obtain rfl : w0 = (.long i0) := Option.some.inj ei0
  obtain ⟨i1, ei1⟩ := isL_v c1
  obtain rfl : w1 = (.long i1) := Option.some.inj ei1
  obtain ⟨i2, ei2⟩ := is_v r2
  obtain rfl : w2 = (.int i2) := Option.some.inj ei2
  obtain ⟨n, o, h1, h2, h3, _, L, rfl, ⟨rfl, N⟩, hq⟩ := rm_law l s _ hw tables_1 i0 i1 i2 s.heap s.heap.size (Nat.le_refl _) p e ha hc hk s m _ below hf ((Spec.applies_iff_loose hf).mp happ).1 ⟨rfl, State.Warmed39.refl s, rfl⟩ trivial
  refine ⟨n, _, h1, h2, h3, hpost _ _ _ _ _ _ ⟨Cond.after_iff.mpr rfl, Cond.after_iff.mpr (eq_i res_at (Term.int_eval (1)) rfl), trivial⟩ ⟨hq.1, hq.2.1, (hq.2.2.sift fun y hy => Or.inr (N y hy)).mono (by decide) (by decide)⟩⟩
theorem main_1_1 : Claimed_1_1 := comes_1 fun _ _ _ _ _ _ h hF => ⟨h.1, hF⟩
theorem main_1_2 : Claimed_1_2 := comes_1 fun _ _ _ _ _ _ h hF => ⟨h.2.1, hF⟩
end Jvm.Pilot.@@N@@
namespace Jvm.Pilot.@@N@@
open Jvm Jvm.ClassFile Sem Op Lib Jvm.Free Jvm.Stand Jvm.Pilot.@@N@@.Jvm.D
/-! MADE BY PROGRAM (witnessworld.py) out of the Statement's table words and the real class files: 11 classes; the members and pool entries that the words name. The judged class is class 1, her method 1. -/
namespace start1
open Jvm.ClassFile
def u (s : String) : CpInfo := .utf8 (stringToUtf16 s)
/-- a pool by its gaps: so many unusable entries, then the entry; so many at the end -/
def gap : Nat → List CpInfo → List CpInfo
  | 0, r => r
  | n + 1, r => .unusable :: gap n r
def poolList (es : List (Nat × CpInfo)) (last : Nat) : List CpInfo := es.foldr (fun e r => gap e.1 (e.2 :: r)) (gap last [])
def pool (es : List (Nat × CpInfo)) (last : Nat) : Array CpInfo := ⟨poolList es last⟩
def fileOf (pool : Array CpInfo) (this : Nat) (attrs : Array Attribute := #[]) (ms : Array MethodInfo := #[]) (fl : Nat := 33) (sup : Nat := 0) (ifs : Array Nat := #[]) (fds : Array FieldInfo := #[]) : ClassFile where
  minorVersion := 0
  majorVersion := 65
  constantPool := pool
  accessFlags := fl
  thisClass := this
  superClass := sup
  interfaces := ifs
  fields := fds
  methods := ms
  attributes := attrs
def plain (name : String) (sup : Option ClassId) : Class where
  name := name
  kind := .ordinary
  loader := none
  accessFlags := 33
  super := sup
  interfaces := #[]
  cf := none
  fields := #[]
  methods := #[]
  instanceTypes := #[]
  staticTypes := #[]
  resolved := #[]
  callSites := []
  init := .initialized
  statics := none
  mirror := none

def pool0 : Array CpInfo := pool [(5, u "<init>"), (0, u "()V"), (1, .class_ 10), (1, u "java/lang/Object")] 113

def k0c0 : Code := { maxStack := 0, maxLocals := 1, code := object_method_1_code, exceptionTable := #[], attributes := #[] }
def k0m0 : Method := { name := "<init>", desc := "()V", sig := { parameters := [], returnType := none }, accessFlags := 1, code := some k0c0 }
/-- java/lang/Object -/
def k0 : Class := { plain "java/lang/Object" none with
  accessFlags := 33
  interfaces := #[]
  cf := some (fileOf pool0 8 #[] #[{ accessFlags := 1, nameIndex := 5, descriptorIndex := 6, attributes := #[] }] 33 0 #[] #[])
  fields := #[]
  methods := #[k0m0]
  instanceTypes := #[]
  staticTypes := #[]
  resolved := Array.replicate 124 none
  statics := none }

def pool1 : Array CpInfo := pool [(2, .class_ 4), (1, u "java/lang/Object"), (0, u "<init>"), (0, u "()V"), (2, .long 9223372036854775807), (1, .class_ 12), (0, u "com/example/bidpace/bidpace/model/Auction"), (0, .methodref 11 14), (0, .nameAndType 5 15), (0, u "(JZ)V"), (0, .class_ 17), (0, u "com/example/bidpace/bidpace/model/Bid"), (0, .methodref 16 19), (0, .nameAndType 5 20), (0, u "(JLcom/example/bidpace/bidpace/model/Auction;)V"), (0, .methodref 16 22), (0, .nameAndType 23 24), (0, u "won"), (0, u "()Z"), (0, .class_ 26), (0, u "com/example/bidpace/bidpace/model/BidWonPinLaw"), (2, u "law"), (0, u "(JJI)Z")] 3

def k1m0 : Method := { name := "<init>", desc := "()V", sig := { parameters := [], returnType := none }, accessFlags := 1, code := none }
def k1c1 : Code := { maxStack := 6, maxLocals := 17, code := code, exceptionTable := #[], attributes := #[] }
def k1m1 : Method := { name := "law", desc := "(JJI)Z", sig := { parameters := [.long, .long, .int], returnType := some .boolean }, accessFlags := 9, code := some k1c1 }
/-- com/example/bidpace/bidpace/model/BidWonPinLaw -/
def k1 : Class := { plain "com/example/bidpace/bidpace/model/BidWonPinLaw" (some 0) with
  accessFlags := 49
  interfaces := #[]
  cf := some (fileOf pool1 25 #[] #[{ accessFlags := 1, nameIndex := 5, descriptorIndex := 6, attributes := #[] }, { accessFlags := 9, nameIndex := 29, descriptorIndex := 30, attributes := #[] }] 49 2 #[] #[])
  fields := #[]
  methods := #[k1m0, k1m1]
  instanceTypes := #[]
  staticTypes := #[]
  resolved := Array.replicate 34 none
  statics := none }

def pool2 : Array CpInfo := pool [(1, .methodref 2 3), (0, .class_ 4), (0, .nameAndType 5 6), (0, u "java/lang/Object"), (0, u "<init>"), (0, u "()V"), (0, .class_ 8), (0, u "java/lang/Record")] 13

def k2c0 : Code := { maxStack := 1, maxLocals := 1, code := jdk_30_method_1_code, exceptionTable := #[], attributes := #[] }
def k2m0 : Method := { name := "<init>", desc := "()V", sig := { parameters := [], returnType := none }, accessFlags := 4, code := some k2c0 }
/-- java/lang/Record -/
def k2 : Class := { plain "java/lang/Record" (some 0) with
  accessFlags := 1057
  interfaces := #[]
  cf := some (fileOf pool2 7 #[] #[{ accessFlags := 4, nameIndex := 5, descriptorIndex := 6, attributes := #[] }] 1057 2 #[] #[])
  fields := #[]
  methods := #[k2m0]
  instanceTypes := #[]
  staticTypes := #[]
  resolved := Array.replicate 22 none
  statics := none }

def pool3 : Array CpInfo := pool [(1, .methodref 2 3), (0, .class_ 4), (0, .nameAndType 5 6), (0, u "java/lang/Record"), (0, u "<init>"), (0, u "()V"), (9, .fieldref 17 18), (0, .class_ 19), (0, .nameAndType 20 21), (0, u "com/example/bidpace/bidpace/model/Auction"), (0, u "price"), (0, u "J"), (0, .fieldref 17 23), (0, .nameAndType 24 25), (0, u "clicked"), (0, u "Z"), (12, u "(JZ)V"), (7, u "()J")] 30

def k3c0 : Code := { maxStack := 4, maxLocals := 4, code := prog_24_method_1_code, exceptionTable := #[], attributes := #[] }
def k3m0 : Method := { name := "<init>", desc := "(JZ)V", sig := { parameters := [.long, .boolean], returnType := none }, accessFlags := 1, code := some k3c0 }
def k3c1 : Code := { maxStack := 2, maxLocals := 1, code := prog_24_method_5_code, exceptionTable := #[], attributes := #[] }
def k3m1 : Method := { name := "price", desc := "()J", sig := { parameters := [], returnType := some .long }, accessFlags := 1, code := some k3c1 }
/-- com/example/bidpace/bidpace/model/Auction -/
def k3 : Class := { plain "com/example/bidpace/bidpace/model/Auction" (some 2) with
  accessFlags := 49
  interfaces := #[]
  cf := some (fileOf pool3 17 #[] #[{ accessFlags := 1, nameIndex := 5, descriptorIndex := 38, attributes := #[] }, { accessFlags := 1, nameIndex := 20, descriptorIndex := 46, attributes := #[] }] 49 2 #[] #[{ accessFlags := 18, nameIndex := 20, descriptorIndex := 21, attributes := #[] }, { accessFlags := 18, nameIndex := 24, descriptorIndex := 25, attributes := #[] }])
  fields := #[{ name := "price", type := .long, accessFlags := 18, slot := 0, constantValue := 0 }, { name := "clicked", type := .boolean, accessFlags := 18, slot := 1, constantValue := 0 }]
  methods := #[k3m0, k3m1]
  instanceTypes := #[.long, .boolean]
  staticTypes := #[]
  resolved := Array.replicate 77 none
  statics := none }

def pool4 : Array CpInfo := pool [(1, .methodref 2 3), (0, .class_ 4), (0, .nameAndType 5 6), (0, u "java/lang/Record"), (0, u "<init>"), (0, u "()V"), (9, .fieldref 17 18), (0, .class_ 19), (0, .nameAndType 20 21), (0, u "com/example/bidpace/bidpace/model/Bid"), (0, u "amount"), (0, u "J"), (0, .fieldref 17 23), (0, .nameAndType 24 25), (0, u "auction"), (0, u "Lcom/example/bidpace/bidpace/model/Auction;"), (0, .methodref 27 28), (0, .class_ 29), (0, .nameAndType 30 31), (0, u "com/example/bidpace/bidpace/model/Auction"), (0, u "price"), (0, u "()J"), (12, u "(JLcom/example/bidpace/bidpace/model/Auction;)V"), (4, u "won"), (0, u "()Z")] 33

def k4c0 : Code := { maxStack := 4, maxLocals := 4, code := prog_25_method_1_code, exceptionTable := #[], attributes := #[] }
def k4m0 : Method := { name := "<init>", desc := "(JLcom/example/bidpace/bidpace/model/Auction;)V", sig := { parameters := [.long, (.object "com/example/bidpace/bidpace/model/Auction")], returnType := none }, accessFlags := 1, code := some k4c0 }
def k4c1 : Code := { maxStack := 4, maxLocals := 1, code := prog_25_method_2_code, exceptionTable := #[], attributes := #[] }
def k4m1 : Method := { name := "won", desc := "()Z", sig := { parameters := [], returnType := some .boolean }, accessFlags := 1, code := some k4c1 }
/-- com/example/bidpace/bidpace/model/Bid -/
def k4 : Class := { plain "com/example/bidpace/bidpace/model/Bid" (some 2) with
  accessFlags := 49
  interfaces := #[]
  cf := some (fileOf pool4 17 #[] #[{ accessFlags := 1, nameIndex := 5, descriptorIndex := 44, attributes := #[] }, { accessFlags := 1, nameIndex := 49, descriptorIndex := 50, attributes := #[] }] 49 2 #[] #[{ accessFlags := 18, nameIndex := 20, descriptorIndex := 21, attributes := #[] }, { accessFlags := 18, nameIndex := 24, descriptorIndex := 25, attributes := #[] }])
  fields := #[{ name := "amount", type := .long, accessFlags := 18, slot := 0, constantValue := 0 }, { name := "auction", type := (.object "com/example/bidpace/bidpace/model/Auction"), accessFlags := 18, slot := 1, constantValue := 0 }]
  methods := #[k4m0, k4m1]
  instanceTypes := #[.long, (.object "com/example/bidpace/bidpace/model/Auction")]
  staticTypes := #[]
  resolved := Array.replicate 84 none
  statics := none }

def pool5 : Array CpInfo := pool [(1, u "java/lang/Cloneable"), (0, .class_ 1), (0, u "java/lang/Object"), (0, .class_ 3)] 3

/-- java/lang/Cloneable -/
def k5 : Class := { plain "java/lang/Cloneable" (some 0) with
  accessFlags := 1537
  interfaces := #[]
  cf := some (fileOf pool5 2 #[] #[] 1537 4 #[] #[])
  fields := #[]
  methods := #[]
  instanceTypes := #[]
  staticTypes := #[]
  resolved := Array.replicate 8 none
  statics := none }

def pool6 : Array CpInfo := pool [(1, u "java/io/Serializable"), (0, .class_ 1), (0, u "java/lang/Object"), (0, .class_ 3)] 3

/-- java/io/Serializable -/
def k6 : Class := { plain "java/io/Serializable" (some 0) with
  accessFlags := 1537
  interfaces := #[]
  cf := some (fileOf pool6 2 #[] #[] 1537 4 #[] #[])
  fields := #[]
  methods := #[]
  instanceTypes := #[]
  staticTypes := #[]
  resolved := Array.replicate 8 none
  statics := none }

/-- the primitive byte -/
def k7 : Class := { plain "byte" none with kind := .primitive 'B', accessFlags := 0x411 }
/-- [B -/
def k8 : Class := { plain "[B" (some 0) with kind := .array 7 .byte, interfaces := #[5, 6], accessFlags := 1041 }

/-- the primitive int -/
def k9 : Class := { plain "int" none with kind := .primitive 'I', accessFlags := 0x411 }
/-- [I -/
def k10 : Class := { plain "[I" (some 0) with kind := .array 9 .int, interfaces := #[5, 6], accessFlags := 1041 }

def heap : Heap := #[]
def classes : Array Class := #[k0, k1, k2, k3, k4, k5, k6, k7, k8, k9, k10]
def interned : List (Array UInt16 × Addr) := []
def slotsUsed : Nat := 0
def theMethod : MethodId := ⟨1, 1⟩
def args0 : Array Value := #[.long 5, .long 3, .int 7]
def aboutOver (below : List Frame) : State where
  vm := { classes := classes, interned := interned.toArray }
  heap := heap
  slotsUsed := slotsUsed
  threads := #[{ frames := .invoking theMethod args0 :: below }]
def below0 : List Frame := [.native { method := ⟨0, 0⟩, args := #[] }]
def about1 : State := aboutOver below0
def p0 : Program := .bare "" "" ""
def e0 : Env := launch0.env 0 0 0
theorem w_frames : about1.frames = Frame.invoking theMethod args0 :: below0 := rfl
set_option maxRecDepth 65536 in
theorem w_args : argsFit about1.vm theMethod args0 = true := by decide +kernel
set_option maxRecDepth 65536 in
theorem w_heap : heapFits about1 = true := by decide +kernel
set_option maxRecDepth 65536 in
theorem w_runnable : about1.curStatus? = some .runnable := by decide +kernel
set_option maxRecDepth 65536 in
theorem w_alone : about1.alone = true := by decide +kernel
set_option maxRecDepth 65536 in
theorem w_named : about1.methodNamed? x = some theMethod := by decide +kernel
set_option maxRecDepth 65536 in
theorem w_hears : about1.hears theMethod below0 = true := by decide +kernel
set_option maxRecDepth 65536 in
theorem w_ripe : about1.ripe theMethod args0 below0 = true := by decide +kernel
theorem w_running : about1.status = .running := rfl
set_option maxRecDepth 65536 in
theorem w_room : about1.hasRoom e0.platform room_1 = true :=
  launch0.hasRoom_least _ room_1 (by decide +kernel) (by decide +kernel) (by decide +kernel) (by decide +kernel) (by decide +kernel) (by decide +kernel)
theorem allAtoms_all (ts : List Jvm.Cond) (a : Array Jvm.Value) (st : Jvm.State) : (allAtoms ts).before a st = ts.all (fun c => c.before a st) := by
  induction ts with
  | nil => rfl
  | cons c t ih =>
    show (Jvm.Cond.and c (allAtoms t)).before a st = _
    rw [Jvm.Cond.before_and, ih, List.all_cons]
def words1 : List Jvm.Cond := Jvm.Cond.code x code maxLocals ret :: tables_1
/-- a 'code' word, met by the world's own term for the bytes: nothing is compared byte by byte -/
theorem code_word {y : MethodName} {bytes : ByteArray} {mx : Nat} {rt : Option FieldType} {a : Array Value} {s : State} {m : MethodId} {meth : Method} {c : Code} (h1 : s.methodNamed? y = some m) (h2 : s.vm.method? m = some meth) (h3 : meth.code = some c) (h4 : c.code = bytes)
    (h5 : (c.maxLocals == mx && c.exceptionTable.isEmpty && decide (c.maxStack ≤ mostOperands) && decide (meth.sig.returnType = rt) && !meth.locks && decide (parseMethodDescriptor y.desc = some meth.sig)) = true) : (Jvm.Cond.code y bytes mx rt).before a s = true := by
  simp only [Bool.and_eq_true, beq_iff_eq, Bool.not_eq_true', decide_eq_true_eq] at h5
  obtain ⟨⟨⟨⟨⟨g1, g2⟩, g3⟩, g4⟩, g5⟩, g6⟩ := h5
  simp [Cond.before, Cond.holds, Cond.value, h1, h2, h3, h4, g1, g2, g3, g4, g5, g6]
def isCode : Jvm.Cond → Bool
  | .code _ _ _ _ => true
  | _ => false
theorem all_split {L : List Jvm.Cond} {P : Jvm.Cond → Bool} (h1 : L.all (fun c => isCode c || P c) = true) (h2 : ∀ c ∈ L.filter isCode, P c = true) : L.all P = true := by
  refine List.all_eq_true.mpr fun c hc => ?_
  have h := List.all_eq_true.mp h1 c hc
  rcases Bool.eq_false_or_eq_true (isCode c) with hi | hi
  · exact h2 c (List.mem_filter.mpr ⟨hc, hi⟩)
  · simpa [hi] using h
set_option maxRecDepth 65536 in
theorem w_c0 : (Jvm.Cond.code x code maxLocals ret).before args0 about1 = true := code_word (m := ⟨1, 1⟩) (meth := k1m1) (c := k1c1) (by decide +kernel) rfl rfl rfl (by decide +kernel)
set_option maxRecDepth 65536 in
theorem w_c1 : (Jvm.Cond.code ({ cls := "com/example/bidpace/bidpace/model/Auction", name := "<init>", desc := "(JZ)V" } : Jvm.MethodName) prog_24_method_1_code (4 : Nat) (Option.none : Option Jvm.ClassFile.FieldType)).before args0 about1 = true := code_word (m := ⟨3, 0⟩) (meth := k3m0) (c := k3c0) (by decide +kernel) rfl rfl rfl (by decide +kernel)
set_option maxRecDepth 65536 in
theorem w_c2 : (Jvm.Cond.code ({ cls := "java/lang/Record", name := "<init>", desc := "()V" } : Jvm.MethodName) jdk_30_method_1_code (1 : Nat) (Option.none : Option Jvm.ClassFile.FieldType)).before args0 about1 = true := code_word (m := ⟨2, 0⟩) (meth := k2m0) (c := k2c0) (by decide +kernel) rfl rfl rfl (by decide +kernel)
set_option maxRecDepth 65536 in
theorem w_c3 : (Jvm.Cond.code ({ cls := "java/lang/Object", name := "<init>", desc := "()V" } : Jvm.MethodName) object_method_1_code (1 : Nat) (Option.none : Option Jvm.ClassFile.FieldType)).before args0 about1 = true := code_word (m := ⟨0, 0⟩) (meth := k0m0) (c := k0c0) (by decide +kernel) rfl rfl rfl (by decide +kernel)
set_option maxRecDepth 65536 in
theorem w_c4 : (Jvm.Cond.code ({ cls := "com/example/bidpace/bidpace/model/Bid", name := "<init>", desc := "(JLcom/example/bidpace/bidpace/model/Auction;)V" } : Jvm.MethodName) prog_25_method_1_code (4 : Nat) (Option.none : Option Jvm.ClassFile.FieldType)).before args0 about1 = true := code_word (m := ⟨4, 0⟩) (meth := k4m0) (c := k4c0) (by decide +kernel) rfl rfl rfl (by decide +kernel)
set_option maxRecDepth 65536 in
theorem w_c5 : (Jvm.Cond.code ({ cls := "com/example/bidpace/bidpace/model/Bid", name := "won", desc := "()Z" } : Jvm.MethodName) prog_25_method_2_code (1 : Nat) (Option.some Jvm.ClassFile.FieldType.boolean)).before args0 about1 = true := code_word (m := ⟨4, 1⟩) (meth := k4m1) (c := k4c1) (by decide +kernel) rfl rfl rfl (by decide +kernel)
set_option maxRecDepth 65536 in
theorem w_c6 : (Jvm.Cond.code ({ cls := "com/example/bidpace/bidpace/model/Auction", name := "price", desc := "()J" } : Jvm.MethodName) prog_24_method_5_code (1 : Nat) (Option.some Jvm.ClassFile.FieldType.long)).before args0 about1 = true := code_word (m := ⟨3, 1⟩) (meth := k3m1) (c := k3c1) (by decide +kernel) rfl rfl rfl (by decide +kernel)
def codes1 : List Jvm.Cond := [Jvm.Cond.code x code maxLocals ret, Jvm.Cond.code ({ cls := "com/example/bidpace/bidpace/model/Auction", name := "<init>", desc := "(JZ)V" } : Jvm.MethodName) prog_24_method_1_code (4 : Nat) (Option.none : Option Jvm.ClassFile.FieldType), Jvm.Cond.code ({ cls := "java/lang/Record", name := "<init>", desc := "()V" } : Jvm.MethodName) jdk_30_method_1_code (1 : Nat) (Option.none : Option Jvm.ClassFile.FieldType), Jvm.Cond.code ({ cls := "java/lang/Object", name := "<init>", desc := "()V" } : Jvm.MethodName) object_method_1_code (1 : Nat) (Option.none : Option Jvm.ClassFile.FieldType), Jvm.Cond.code ({ cls := "com/example/bidpace/bidpace/model/Bid", name := "<init>", desc := "(JLcom/example/bidpace/bidpace/model/Auction;)V" } : Jvm.MethodName) prog_25_method_1_code (4 : Nat) (Option.none : Option Jvm.ClassFile.FieldType), Jvm.Cond.code ({ cls := "com/example/bidpace/bidpace/model/Bid", name := "won", desc := "()Z" } : Jvm.MethodName) prog_25_method_2_code (1 : Nat) (Option.some Jvm.ClassFile.FieldType.boolean), Jvm.Cond.code ({ cls := "com/example/bidpace/bidpace/model/Auction", name := "price", desc := "()J" } : Jvm.MethodName) prog_24_method_5_code (1 : Nat) (Option.some Jvm.ClassFile.FieldType.long)]
set_option maxRecDepth 65536 in
theorem codes_eq : words1.filter isCode = codes1 := rfl
theorem w_codes : ∀ c ∈ words1.filter isCode, c.before args0 about1 = true := by
  rw [codes_eq]
  intro c hc
  simp only [codes1, List.mem_cons, List.not_mem_nil, or_false] at hc
  rcases hc with rfl | rfl | rfl | rfl | rfl | rfl | rfl
  · exact w_c0
  · exact w_c1
  · exact w_c2
  · exact w_c3
  · exact w_c4
  · exact w_c5
  · exact w_c6
set_option maxRecDepth 65536 in
theorem w_t1 : (words1.take 24).all (fun c => isCode c || c.before args0 about1) = true := by decide +kernel
set_option maxRecDepth 65536 in
theorem w_t2 : (words1.drop 24).all (fun c => isCode c || c.before args0 about1) = true := by decide +kernel
theorem w_tables : (allAtoms (Jvm.Cond.code x code maxLocals ret :: tables_1)).before args0 about1 = true := by
  rw [allAtoms_all]
  show words1.all (fun c => c.before args0 about1) = true
  refine all_split ?_ w_codes
  rw [← List.take_append_drop 24 words1, List.all_append, w_t1, w_t2]
  rfl
set_option maxRecDepth 65536 in
theorem w_case : (Jvm.Cond.and given_1 narrow_1).before args0 about1 = true := by decide +kernel
theorem w_applies : (headSpec (Jvm.Cond.code x code maxLocals ret :: tables_1) room_1).applies x e0.platform about1 = true :=
  (Spec.applies_iff w_frames).mpr ⟨w_running, w_runnable, w_alone, w_named, w_hears, w_ripe, w_room, w_tables⟩
theorem atStart : AtStart classFile x code maxLocals ret World_1 tables_1 room_1 Calls_1 rest_1 Pre_1 launch0 p0 e0 about1 theMethod args0 below0 :=
  ⟨lists_1, trivial, launch0.admits_env _ _ _, launch0.least_env, fairChoices_fair.cas, fairChoices_fair.clock, w_frames, w_args, w_heap, w_applies, trivial, trivial, w_case⟩
end start1
theorem witness_1 : WitnessClaimed_1 := ⟨start1.p0, start1.e0, start1.about1, start1.theMethod, start1.args0, start1.below0, start1.atStart⟩
end Jvm.Pilot.@@N@@
