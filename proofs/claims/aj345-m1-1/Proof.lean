import JvmDerived
import JvmDerived.Pilot.@@N@@Statement
import JvmDerived.Pilot.@@N@@Code
set_option linter.unusedVariables false
set_option linter.unusedSimpArgs false
namespace Jvm.RoadKit
open Sem ClassFile Op Lib Jvm.Stand Jvm.Free Jvm.LawKit
section New
variable {p : Program} {l : Launch} {e : Env} {R : Room} {s : State} {m : MethodId} {args : Array Value} {below : List Frame} {meth : Method} {c : Code} {T : State} {locs : List Loc} {cells slots : Nat}
theorem retI (X : Stand p l e R s m args below meth c T locs cells slots) (hx : p.tables.exec = Jvm.exec) {pc : Nat} {Ls : Array Slot} {z : Int32} {rest : List Value} (hret : meth.sig.returnType = some .int) (hd : decode c.code pc = .ok (.ireturn, 1)) {fs : List Frame}
    (hl : ∀ (f : JFrame) (acts : List Action), f.method = m → f.locked = none → f.entered = [] → (doReturn e (T.setTop f) acts (some (.int z))).1 = T.setFrames fs) : Steps p.tables e below (T.setTop (mkF m pc Ls (.int z :: rest))) (T.setFrames fs) := by
  have hm' : T.vm.method? m = some meth := X.method'
  have hn : narrow .int (.int z) = .int z := rfl
  show Steps p.tables e below (T.setTop { method := m, pc := pc, locals := Ls, stack := _ :: rest, locked := none }) _
  jvm_step X.here [X.here.top, hx, hd, hm', hret, hn]
  first | (intro acts; rw [hl _ acts rfl rfl rfl]) | rw [hl _ _ rfl rfl rfl]
  exact Steps.refl _
end New
end Jvm.RoadKit
namespace Jvm.Pilot.@@N@@
open Jvm Jvm.ClassFile Sem Op Lib Jvm.Free Jvm.Stand Jvm.LawKit Jvm.RoadKit Bundle Jvm.Pilot.@@N@@.Jvm.D
def own_min (x y : Int32) : Int32 := if y < x then y else x
theorem own_pos (x b : Int32) (hx : 0 ≤ x.toInt) (hx' : x.toInt < 536870912) (hb : 0 ≤ b.toInt) (hb' : b.toInt < 536870912) : (x + b).toInt = x.toInt + b.toInt := by
  have := c_iadd x b; have := rng32 (x + b); omega
theorem own_sum (x y b : Int32) : ((x + b) + (y + b)) - b = (x + y) + b := by
  rw [← Int32.toInt_inj]
  have a1 := c_iadd x b
  have a2 := c_iadd y b
  have a3 := c_iadd (x + b) (y + b)
  have a4 := c_isub ((x + b) + (y + b)) b
  have a5 := c_iadd x y
  have a6 := c_iadd (x + y) b
  have r1 := rng32 (((x + b) + (y + b)) - b)
  have r2 := rng32 ((x + y) + b)
  omega
theorem own_sum' (x y b : Int32) : ((y + b) + (x + b)) - b = (x + y) + b := by
  rw [own_sum, Int32.add_comm y x]
theorem own_le_min (x y b : Int32) (hx : 0 ≤ x.toInt) (hx' : x.toInt < 536870912) (hy : 0 ≤ y.toInt) (hy' : y.toInt < 536870912) (hb : 0 ≤ b.toInt) (hb' : b.toInt < 536870912) : ¬ (own_min (x + b) (y + b) < b) := by
  intro h
  have e1 := own_pos x b hx hx' hb hb'
  have e2 := own_pos y b hy hy' hb hb'
  have h1 := Int32.lt_iff_toInt_lt.mp h
  unfold own_min at h1
  split at h1 <;> omega
theorem ef_rec (m : MethodId) (x0 : Addr) : entryFrame m #[(.ref x0)] 1 = mkF m 0 #[rv x0] [] := by first | (simp [entryFrame, mkF, argsToLocals, Value.category]; done) | rfl
theorem pn_0 : plainName "java/lang/Record" = true := by first | (simp [plainName, overriddenIn]; done) | decide +kernel
def Q_rec (Z : State) (o0 : Addr) (h0 : Heap) (n0 : Nat) (v : Option Value) (h : Heap) (L : List Loc) : Prop := v = none ∧ Fr n0 L ∧ h = h0
theorem d0_0 : decode jdk_30_method_1_code 0 = .ok (.aload_n 0, 1) := by decide +kernel
theorem d0_1 : decode jdk_30_method_1_code 1 = .ok (.invokespecial 1, 3) := by decide +kernel
theorem d0_4 : decode jdk_30_method_1_code 4 = .ok (.return_, 1) := by decide +kernel
set_option maxRecDepth 65536 in
set_option maxHeartbeats 40000000 in
theorem rm_rec (l : Launch) (Z : State) (a0 : Array Value) (hw : ∀ d ∈ tables_1, d.before a0 Z = true) (ws : List Jvm.Cond) (o0 : Addr) (h0 : Heap) (n0 : Nat) (Z0 : n0 ≤ h0.size)  :
    MetFree l (⟨"java/lang/Record", "<init>", "()V"⟩ : MethodName) (head1 (Jvm.Cond.code (⟨"java/lang/Record", "<init>", "()V"⟩ : MethodName) jdk_30_method_1_code 1 none :: ws) ({ frames := 1, cells := 0, slots := 0, locals := 12 } : Room)) (fun a U => a = #[(.ref o0)] ∧ Z.Warmed39 U.vm ∧ U.heap = h0) (fun _ _ _ _ _ => True) (fun _ U o U' => ∃ v L, o = .returned v ∧ Q_rec Z o0 h0 n0 v U'.heap L ∧ FrameEnd U o U' L ({ frames := 1, cells := 0, slots := 0, locals := 12 } : Room).cells ({ frames := 1, cells := 0, slots := 0, locals := 12 } : Room).slots) := by
  refine MetFree.of_bodySF (plainFor_of_name pn_0) hisR ?_
  intro p e s m args below meth c s₁ Bd hml0 hP hK
  obtain ⟨rfl, hZ, hh⟩ := hP
  have hx := Bd.exec
  have hby := Bd.bytes
  have hml : c.maxLocals = 1 := hml0
  have hown : s.vm.findClass "java/lang/Record" = some m.cls := findClass_of_methodNamed Bd.named
  have hnm := (name_of_methodNamed Bd.named Bd.method).1
  have X0 : Stand p l e ({ frames := 1, cells := 0, slots := 0, locals := 12 } : Room) s m #[(.ref o0)] below meth c s₁ [] 0 0 := Stand.of_body Bd
  have e0 : s₁.heap = h0 := by rw [← hh, Bd.state]; rfl
  have N0 := Fr.nil n0
  have go0 : ∀ t, Steps p.tables e below (s₁.setTop (mkF m 0 #[rv o0] [])) t → Steps p.tables e below (s₁.setTop (entryFrame m #[(.ref o0)] 1)) t := fun t k => castTop (ef_rec m o0) k
  obtain ⟨O, hO⟩ : ∃ z, z = (s₁.setTop (entryFrame m #[(.ref o0)] 1)) := ⟨_, rfl⟩
  rw [← hO] at go0
  obtain ⟨T101, X101, e101, st101⟩ := initO X0 hx hZ hown (hw _ (List.mem_of_getElem? (i := 12) rfl)) (hw _ (List.mem_of_getElem? (i := 13) rfl)) (hw _ (List.mem_of_getElem? (i := 14) rfl)) e0 (g := (mkF m 1 #[rv o0] [(.ref o0)])) rfl (by rw [hml]; rfl) rfl (hb hby d0_1) (by decide) (W := 0) (by show 2 * 0 + _ ≤ _; exact Nat.le_of_eq rfl) (by decide)
  have go102 : ∀ t, Steps p.tables e below (T101.setTop (mkF m 4 #[rv o0] [])) t → Steps p.tables e below O t := fun t k => go0 t (by
    refine XS.aloadN X0.here hx rfl (hb hby d0_0) rfl rfl ?_
    show Steps _ _ _ (s₁.setTop (mkF m 1 _ [(.ref o0)])) _
    refine st101 _ ?_
    show Steps _ _ _ (T101.setTop (mkF m 4 _ [])) _
    exact k)
  subst hO
  obtain ⟨fs, hr, hrun, hended, hW, hsame⟩ := X101.leave (v := none) (fun _ => rfl)
  refine ⟨_, _, go102 _ ?_, hrun, hended, _, _, rfl, ?_, ⟨_, rfl⟩, hW, hsame.mono (by decide) (by decide)⟩
  · exact X101.returnOut hx Bd.returns (hb hby d0_4) hr
  · show Q_rec Z o0 h0 n0 _ T101.heap _
    rw [e101]
    exact ⟨rfl, N0, rfl⟩
theorem ef_mn (m : MethodId) (x0 : Int32) (x1 : Int32) : entryFrame m #[(.int x0), (.int x1)] 2 = mkF m 0 #[iv x0, iv x1] [] := by first | (simp [entryFrame, mkF, argsToLocals, Value.category]; done) | rfl
def Q_mn (Z : State) (p0 : Int32) (p1 : Int32) (h0 : Heap) (n0 : Nat) (v : Option Value) (h : Heap) (L : List Loc) : Prop := v = some (.int (own_min p0 p1)) ∧ Fr n0 L ∧ h = h0
theorem d1_0 : decode jdk_29_method_69_code 0 = .ok (.iload_n 0, 1) := by decide +kernel
theorem d1_1 : decode jdk_29_method_69_code 1 = .ok (.iload_n 1, 1) := by decide +kernel
theorem d1_2 : decode jdk_29_method_69_code 2 = .ok (.if_icmp .gt 7, 3) := by decide +kernel
theorem d1_9 : decode jdk_29_method_69_code 9 = .ok (.iload_n 1, 1) := by decide +kernel
theorem d1_10 : decode jdk_29_method_69_code 10 = .ok (.ireturn, 1) := by decide +kernel
theorem d1_5 : decode jdk_29_method_69_code 5 = .ok (.iload_n 0, 1) := by decide +kernel
theorem d1_6 : decode jdk_29_method_69_code 6 = .ok (.goto 4, 3) := by decide +kernel
set_option maxRecDepth 65536 in
set_option maxHeartbeats 40000000 in
theorem rm_mn (l : Launch) (Z : State) (a0 : Array Value) (hw : ∀ d ∈ tables_1, d.before a0 Z = true) (ws : List Jvm.Cond) (p0 : Int32) (p1 : Int32) (h0 : Heap) (n0 : Nat) (Z0 : n0 ≤ h0.size)  :
    MetFree l (⟨"java/lang/Math", "min", "(II)I"⟩ : MethodName) (head1 (Jvm.Cond.code (⟨"java/lang/Math", "min", "(II)I"⟩ : MethodName) jdk_29_method_69_code 2 (some .int) :: ws) ({ frames := 0, cells := 0, slots := 0, locals := 0 } : Room)) (fun a U => a = #[(.int p0), (.int p1)] ∧ Z.Warmed39 U.vm ∧ U.heap = h0) (fun _ _ _ _ _ => True) (fun _ U o U' => ∃ v L, o = .returned v ∧ Q_mn Z p0 p1 h0 n0 v U'.heap L ∧ FrameEnd U o U' L ({ frames := 0, cells := 0, slots := 0, locals := 0 } : Room).cells ({ frames := 0, cells := 0, slots := 0, locals := 0 } : Room).slots) := by
  refine MetFree.of_bodySF (Jvm.Free.JP.mathPlain rfl (by decide +kernel)) hisR ?_
  intro p e s m args below meth c s₁ Bd hml0 hP hK
  obtain ⟨rfl, hZ, hh⟩ := hP
  have hx := Bd.exec
  have hby := Bd.bytes
  have hml : c.maxLocals = 2 := hml0
  have hown : s.vm.findClass "java/lang/Math" = some m.cls := findClass_of_methodNamed Bd.named
  have hnm := (name_of_methodNamed Bd.named Bd.method).1
  have X0 : Stand p l e ({ frames := 0, cells := 0, slots := 0, locals := 0 } : Room) s m #[(.int p0), (.int p1)] below meth c s₁ [] 0 0 := Stand.of_body Bd
  have e0 : s₁.heap = h0 := by rw [← hh, Bd.state]; rfl
  have N0 := Fr.nil n0
  have go0 : ∀ t, Steps p.tables e below (s₁.setTop (mkF m 0 #[iv p0, iv p1] [])) t → Steps p.tables e below (s₁.setTop (entryFrame m #[(.int p0), (.int p1)] 2)) t := fun t k => castTop (ef_mn m p0 p1) k
  obtain ⟨O, hO⟩ : ∃ z, z = (s₁.setTop (entryFrame m #[(.int p0), (.int p1)] 2)) := ⟨_, rfl⟩
  rw [← hO] at go0
  have go101 : ∀ t, Steps p.tables e below (s₁.setTop (mkF m 2 #[iv p0, iv p1] [(.int p1), (.int p0)])) t → Steps p.tables e below O t := fun t k => go0 t (by
    refine XS.iloadN X0.here hx rfl (hb hby d1_0) rfl ?_
    show Steps _ _ _ (s₁.setTop (mkF m 1 _ [(.int p0)])) _
    refine XS.iloadN X0.here hx rfl (hb hby d1_1) rfl ?_
    show Steps _ _ _ (s₁.setTop (mkF m 2 _ [(.int p1), (.int p0)])) _
    exact k)
  by_cases hc : p1 < p0
  · have go102 : ∀ t, Steps p.tables e below (s₁.setTop (mkF m 10 #[iv p0, iv p1] [(.int p1)])) t → Steps p.tables e below O t := fun t k => go101 t (by
      refine XS.icmpYes X0.here hx rfl (pc0 := 2) (pc' := 9) rfl (hb hby d1_2) rfl (tlt (hc : p1 < p0)).2.2.1 (by decide) (by decide) ?_
      show Steps _ _ _ (s₁.setTop (mkF m 9 _ [])) _
      refine XS.iloadN X0.here hx rfl (hb hby d1_9) rfl ?_
      show Steps _ _ _ (s₁.setTop (mkF m 10 _ [(.int p1)])) _
      exact k)
    subst hO
    obtain ⟨fs, hr, hrun, hended, hW, hsame⟩ := X0.leave (v := some (.int p1)) (fun h => by rw [Bd.returns] at h; cases h)
    refine ⟨_, _, go102 _ ?_, hrun, hended, _, _, rfl, ?_, ⟨_, rfl⟩, hW, hsame.mono (by decide) (by decide)⟩
    · exact retI X0 hx Bd.returns (hb hby d1_10) hr
    · show Q_mn Z p0 p1 h0 n0 _ s₁.heap _
      rw [e0]
      exact ⟨by unfold own_min; rw [if_pos hc], N0, rfl⟩
  · have go104 : ∀ t, Steps p.tables e below (s₁.setTop (mkF m 10 #[iv p0, iv p1] [(.int p0)])) t → Steps p.tables e below O t := fun t k => go101 t (by
      refine XS.icmpNo X0.here hx rfl (hb hby d1_2) rfl (flt (hc : ¬ (p1 < p0))).2.2.1 ?_
      show Steps _ _ _ (s₁.setTop (mkF m 5 _ [])) _
      refine XS.iloadN X0.here hx rfl (hb hby d1_5) rfl ?_
      show Steps _ _ _ (s₁.setTop (mkF m 6 _ [(.int p0)])) _
      refine XS.goto X0.here hx rfl (pc0 := 6) (pc' := 10) rfl (hb hby d1_6) (by decide) (by decide) ?_
      show Steps _ _ _ (s₁.setTop (mkF m 10 _ [(.int p0)])) _
      exact k)
    subst hO
    obtain ⟨fs, hr, hrun, hended, hW, hsame⟩ := X0.leave (v := some (.int p0)) (fun h => by rw [Bd.returns] at h; cases h)
    refine ⟨_, _, go104 _ ?_, hrun, hended, _, _, rfl, ?_, ⟨_, rfl⟩, hW, hsame.mono (by decide) (by decide)⟩
    · exact retI X0 hx Bd.returns (hb hby d1_10) hr
    · show Q_mn Z p0 p1 h0 n0 _ s₁.heap _
      rw [e0]
      exact ⟨by unfold own_min; rw [if_neg hc], N0, rfl⟩
theorem ef_si (m : MethodId) (x0 : Addr) (x1 : Int32) (x2 : Int32) (x3 : Int32) : entryFrame m #[(.ref x0), (.int x1), (.int x2), (.int x3)] 4 = mkF m 0 #[rv x0, iv x1, iv x2, iv x3] [] := by first | (simp [entryFrame, mkF, argsToLocals, Value.category]; done) | rfl
theorem pn_1 : plainName "com/example/gradus/gradus/expansion/Similarity" = true := by first | (simp [plainName, overriddenIn]; done) | decide +kernel
def Q_si (Z : State) (o0 : Addr) (p1 : Int32) (p2 : Int32) (p3 : Int32) (h0 : Heap) (n0 : Nat) (v : Option Value) (h : Heap) (L : List Loc) : Prop := v = none ∧ Fr n0 L ∧ Keep h0 h [o0] ∧ Exa Z h o0 "com/example/gradus/gradus/expansion/Similarity" ∧ Fld Z h o0 "com/example/gradus/gradus/expansion/Similarity" "firstSize" "I" (.int p1) ∧ Fld Z h o0 "com/example/gradus/gradus/expansion/Similarity" "secondSize" "I" (.int p2) ∧ Fld Z h o0 "com/example/gradus/gradus/expansion/Similarity" "shared" "I" (.int p3)
theorem d2_0 : decode prog_24_method_1_code 0 = .ok (.aload_n 0, 1) := by decide +kernel
theorem pd_0 : parseMethodDescriptor "()V" = some ⟨[], none⟩ := by decide +kernel
theorem d2_1 : decode prog_24_method_1_code 1 = .ok (.invokespecial 1, 3) := by decide +kernel
theorem d2_4 : decode prog_24_method_1_code 4 = .ok (.iload_n 1, 1) := by decide +kernel
theorem d2_5 : decode prog_24_method_1_code 5 = .ok (.iconst 1, 1) := by decide +kernel
theorem d2_6 : decode prog_24_method_1_code 6 = .ok (.if_icmp .lt 21, 3) := by decide +kernel
theorem d2_9 : decode prog_24_method_1_code 9 = .ok (.iload_n 2, 1) := by decide +kernel
theorem d2_10 : decode prog_24_method_1_code 10 = .ok (.iconst 1, 1) := by decide +kernel
theorem d2_11 : decode prog_24_method_1_code 11 = .ok (.if_icmp .lt 16, 3) := by decide +kernel
theorem d2_14 : decode prog_24_method_1_code 14 = .ok (.iload_n 3, 1) := by decide +kernel
theorem d2_15 : decode prog_24_method_1_code 15 = .ok (.ifCond .lt 12, 3) := by decide +kernel
theorem d2_18 : decode prog_24_method_1_code 18 = .ok (.iload_n 3, 1) := by decide +kernel
theorem d2_19 : decode prog_24_method_1_code 19 = .ok (.iload_n 1, 1) := by decide +kernel
theorem d2_20 : decode prog_24_method_1_code 20 = .ok (.iload_n 2, 1) := by decide +kernel
theorem pd_1 : parseMethodDescriptor "(II)I" = some ⟨[.int, .int], some .int⟩ := by decide +kernel
theorem d2_21 : decode prog_24_method_1_code 21 = .ok (.invokestatic 7, 3) := by decide +kernel
theorem d2_24 : decode prog_24_method_1_code 24 = .ok (.if_icmp .le 19, 3) := by decide +kernel
theorem d2_43 : decode prog_24_method_1_code 43 = .ok (.aload_n 0, 1) := by decide +kernel
theorem d2_44 : decode prog_24_method_1_code 44 = .ok (.iload_n 1, 1) := by decide +kernel
theorem d2_45 : decode prog_24_method_1_code 45 = .ok (.putfield 22, 3) := by decide +kernel
theorem d2_48 : decode prog_24_method_1_code 48 = .ok (.aload_n 0, 1) := by decide +kernel
theorem d2_49 : decode prog_24_method_1_code 49 = .ok (.iload_n 2, 1) := by decide +kernel
theorem d2_50 : decode prog_24_method_1_code 50 = .ok (.putfield 28, 3) := by decide +kernel
theorem d2_53 : decode prog_24_method_1_code 53 = .ok (.aload_n 0, 1) := by decide +kernel
theorem d2_54 : decode prog_24_method_1_code 54 = .ok (.iload_n 3, 1) := by decide +kernel
theorem d2_55 : decode prog_24_method_1_code 55 = .ok (.putfield 31, 3) := by decide +kernel
theorem d2_58 : decode prog_24_method_1_code 58 = .ok (.return_, 1) := by decide +kernel
set_option maxRecDepth 65536 in
set_option maxHeartbeats 40000000 in
theorem rm_si (l : Launch) (Z : State) (a0 : Array Value) (hw : ∀ d ∈ tables_1, d.before a0 Z = true) (ws : List Jvm.Cond) (o0 : Addr) (p1 : Int32) (p2 : Int32) (p3 : Int32) (h0 : Heap) (n0 : Nat) (Z0 : n0 ≤ h0.size) (E_o0 : Exa Z h0 o0 "com/example/gradus/gradus/expansion/Similarity") (ge_o0 : n0 ≤ o0) (F_firstSize_o0 : Fld Z h0 o0 "com/example/gradus/gradus/expansion/Similarity" "firstSize" "I" (.int 0)) (F_secondSize_o0 : Fld Z h0 o0 "com/example/gradus/gradus/expansion/Similarity" "secondSize" "I" (.int 0)) (F_shared_o0 : Fld Z h0 o0 "com/example/gradus/gradus/expansion/Similarity" "shared" "I" (.int 0)) (h1 : ¬ p1 < (1 : Int32)) (h2 : ¬ p2 < (1 : Int32)) (h3 : ¬ p3 < (0 : Int32)) (h4 : ¬ (own_min p1 p2 < p3)) :
    MetFree l (⟨"com/example/gradus/gradus/expansion/Similarity", "<init>", "(III)V"⟩ : MethodName) (head1 (Jvm.Cond.code (⟨"com/example/gradus/gradus/expansion/Similarity", "<init>", "(III)V"⟩ : MethodName) prog_24_method_1_code 4 none :: ws) ({ frames := 2, cells := 0, slots := 0, locals := 24 } : Room)) (fun a U => a = #[(.ref o0), (.int p1), (.int p2), (.int p3)] ∧ Z.Warmed39 U.vm ∧ U.heap = h0) (fun _ _ _ _ _ => True) (fun _ U o U' => ∃ v L, o = .returned v ∧ Q_si Z o0 p1 p2 p3 h0 n0 v U'.heap L ∧ FrameEnd U o U' L ({ frames := 2, cells := 0, slots := 0, locals := 24 } : Room).cells ({ frames := 2, cells := 0, slots := 0, locals := 24 } : Room).slots) := by
  refine MetFree.of_bodySF (plainFor_of_name pn_1) hisR ?_
  intro p e s m args below meth c s₁ Bd hml0 hP hK
  obtain ⟨rfl, hZ, hh⟩ := hP
  have hx := Bd.exec
  have hby := Bd.bytes
  have hml : c.maxLocals = 4 := hml0
  have hown : s.vm.findClass "com/example/gradus/gradus/expansion/Similarity" = some m.cls := findClass_of_methodNamed Bd.named
  have hnm := (name_of_methodNamed Bd.named Bd.method).1
  have X0 : Stand p l e ({ frames := 2, cells := 0, slots := 0, locals := 24 } : Room) s m #[(.ref o0), (.int p1), (.int p2), (.int p3)] below meth c s₁ [] 0 0 := Stand.of_body Bd
  have e0 : s₁.heap = h0 := by rw [← hh, Bd.state]; rfl
  have N0 := Fr.nil n0
  have go0 : ∀ t, Steps p.tables e below (s₁.setTop (mkF m 0 #[rv o0, iv p1, iv p2, iv p3] [])) t → Steps p.tables e below (s₁.setTop (entryFrame m #[(.ref o0), (.int p1), (.int p2), (.int p3)] 4)) t := fun t k => castTop (ef_si m o0 p1 p2 p3) k
  obtain ⟨O, hO⟩ : ∃ z, z = (s₁.setTop (entryFrame m #[(.ref o0), (.int p1), (.int p2), (.int p3)] 4)) := ⟨_, rfl⟩
  rw [← hO] at go0
  have K101 := Keep.refl h0 [o0]
  obtain ⟨_, _, ⟨T102, L102, k102, n102⟩, -, X102, ⟨Lc102, hQ102, l102, y102, z102⟩, st102⟩ := X0.specialBack hx (y := (⟨"java/lang/Record", "<init>", "()V"⟩ : MethodName)) rfl hown (mvT hZ (hw _ (List.mem_of_getElem? (i := 7) rfl))) (mvT hZ (hw _ (List.mem_of_getElem? (i := 8) rfl))) (mvT hZ (hw _ (List.mem_of_getElem? (i := 11) rfl))) (by decide) (backOf (W := 0) (rm_rec l Z a0 hw [] o0  h0 n0 Z0 ) hZ (hw _ (List.mem_of_getElem? (i := 11) rfl)) (hw _ (List.mem_of_getElem? (i := 10) rfl)) (by decide) (by decide)) (g := (mkF m 1 #[rv o0, iv p1, iv p2, iv p3] [(.ref o0)])) rfl (by rw [hml]; rfl) (Steps.refl _) (a := o0) (argsL := []) (rest := []) (lenOf pd_0 rfl) rfl (by show 2 * 0 + _ ≤ _; exact Nat.le_of_eq rfl) (hb hby d2_1) (fun _ _ => ⟨rfl, e0, (by decide : 0 + 0 ≤ _), (by decide : 0 + 0 ≤ _)⟩)
  dsimp only [Pt.U, Pt.locs, Pt.cells, Pt.slots] at X102 l102 y102 z102 st102 hQ102
  subst l102 y102 z102
  obtain ⟨rfl, N102q, eR⟩ := hQ102
  have N102 := Fr.app N0 N102q
  obtain ⟨_, _, ⟨T103, L103, k103, n103⟩, -, X103, ⟨Lc103, hQ103, l103, y103, z103⟩, st103⟩ := Jvm.LawKit.callS X102 hx (y := (⟨"java/lang/Math", "min", "(II)I"⟩ : MethodName)) hown (mvT hZ (hw _ (List.mem_of_getElem? (i := 15) rfl))) (mvT hZ (hw _ (List.mem_of_getElem? (i := 16) rfl))) (mvT hZ (hw _ (List.mem_of_getElem? (i := 17) rfl))) (mvT hZ (hw _ (List.mem_of_getElem? (i := 18) rfl))) (by decide) (backOf (W := 1) (rm_mn l Z a0 hw [] p1 p2  h0 n0 Z0 ) hZ (hw _ (List.mem_of_getElem? (i := 18) rfl)) (hw _ (List.mem_of_getElem? (i := 17) rfl)) (by decide) (by decide)) (g := (mkF m 21 #[rv o0, iv p1, iv p2, iv p3] [(.int p2), (.int p1), (.int p3)])) rfl (by rw [hml]; rfl) (argsL := [(.int p1), (.int p2)]) (rest := [(.int p3)]) (lenOf pd_1 rfl) rfl (by show 2 * 0 + _ ≤ _; exact Nat.le_of_eq rfl) (hb hby d2_21) (fun _ _ => ⟨rfl, eR, (by decide : 0 + 0 ≤ _), (by decide : 0 + 0 ≤ _)⟩)
  dsimp only [Pt.U, Pt.locs, Pt.cells, Pt.slots] at X103 l103 y103 z103 st103 hQ103
  subst l103 y103 z103
  obtain ⟨rfl, N103q, eM⟩ := hQ103
  have N103 := Fr.app N102 N103q
  obtain ⟨T104, h104, X104, e104, W104, st104⟩ := putF X103 hx hZ hown (host := "") (Or.inl (hw _ (List.mem_of_getElem? (i := 19) rfl))) Via.refl eM F_firstSize_o0 E_o0 (Or.inr ⟨(hw _ (List.mem_of_getElem? (i := 20) rfl)), rfl, hnm⟩) (hw _ (List.mem_of_getElem? (i := 2) rfl)) (ty := .int) (by decide) rfl rfl (g := (mkF m 45 #[rv o0, iv p1, iv p2, iv p3] [(.int p1), (.ref o0)])) rfl rfl (hb hby d2_45)
  have f105 := E_o0.wr W104
  have f106 := F_secondSize_o0.other W104 (Or.inr (slot_ne (Or.inr (hw _ (List.mem_of_getElem? (i := 22) rfl))) (Or.inr (hw _ (List.mem_of_getElem? (i := 20) rfl))) (by decide) (t := .int) (t' := .int) (by decide) (by decide)))
  have f107 := F_shared_o0.other W104 (Or.inr (slot_ne (Or.inr (hw _ (List.mem_of_getElem? (i := 24) rfl))) (Or.inr (hw _ (List.mem_of_getElem? (i := 20) rfl))) (by decide) (t := .int) (t' := .int) (by decide) (by decide)))
  have Z108 := Nat.le_trans Z0 (Keep.of_wr W104).1
  have K109 := K101.wr W104 (Or.inl (List.mem_of_getElem? (i := 0) rfl))
  have f110 := F_firstSize_o0.same W104
  have N104 := Fr.snoc X104 N103 ge_o0
  obtain ⟨T111, h111, X111, e111, W111, st111⟩ := putF X104 hx hZ hown (host := "") (Or.inl (hw _ (List.mem_of_getElem? (i := 21) rfl))) Via.refl e104 f106 f105 (Or.inr ⟨(hw _ (List.mem_of_getElem? (i := 22) rfl)), rfl, hnm⟩) (hw _ (List.mem_of_getElem? (i := 2) rfl)) (ty := .int) (by decide) rfl rfl (g := (mkF m 50 #[rv o0, iv p1, iv p2, iv p3] [(.int p2), (.ref o0)])) rfl rfl (hb hby d2_50)
  have f112 := f105.wr W111
  have f113 := f110.other W111 (Or.inr (slot_ne (Or.inr (hw _ (List.mem_of_getElem? (i := 20) rfl))) (Or.inr (hw _ (List.mem_of_getElem? (i := 22) rfl))) (by decide) (t := .int) (t' := .int) (by decide) (by decide)))
  have f114 := f107.other W111 (Or.inr (slot_ne (Or.inr (hw _ (List.mem_of_getElem? (i := 24) rfl))) (Or.inr (hw _ (List.mem_of_getElem? (i := 22) rfl))) (by decide) (t := .int) (t' := .int) (by decide) (by decide)))
  have Z115 := Nat.le_trans Z108 (Keep.of_wr W111).1
  have K116 := K109.wr W111 (Or.inl (List.mem_of_getElem? (i := 0) rfl))
  have f117 := f106.same W111
  have N111 := Fr.snoc X111 N104 ge_o0
  obtain ⟨T118, h118, X118, e118, W118, st118⟩ := putF X111 hx hZ hown (host := "") (Or.inl (hw _ (List.mem_of_getElem? (i := 23) rfl))) Via.refl e111 f114 f112 (Or.inr ⟨(hw _ (List.mem_of_getElem? (i := 24) rfl)), rfl, hnm⟩) (hw _ (List.mem_of_getElem? (i := 2) rfl)) (ty := .int) (by decide) rfl rfl (g := (mkF m 55 #[rv o0, iv p1, iv p2, iv p3] [(.int p3), (.ref o0)])) rfl rfl (hb hby d2_55)
  have f119 := f112.wr W118
  have f120 := f113.other W118 (Or.inr (slot_ne (Or.inr (hw _ (List.mem_of_getElem? (i := 20) rfl))) (Or.inr (hw _ (List.mem_of_getElem? (i := 24) rfl))) (by decide) (t := .int) (t' := .int) (by decide) (by decide)))
  have f121 := f117.other W118 (Or.inr (slot_ne (Or.inr (hw _ (List.mem_of_getElem? (i := 22) rfl))) (Or.inr (hw _ (List.mem_of_getElem? (i := 24) rfl))) (by decide) (t := .int) (t' := .int) (by decide) (by decide)))
  have Z122 := Nat.le_trans Z115 (Keep.of_wr W118).1
  have K123 := K116.wr W118 (Or.inl (List.mem_of_getElem? (i := 0) rfl))
  have f124 := f114.same W118
  have N118 := Fr.snoc X118 N111 ge_o0
  have go125 : ∀ t, Steps p.tables e below (T118.setTop (mkF m 58 #[rv o0, iv p1, iv p2, iv p3] [])) t → Steps p.tables e below O t := fun t k => go0 t (by
    refine XS.aloadN X0.here hx rfl (hb hby d2_0) rfl rfl ?_
    show Steps _ _ _ (s₁.setTop (mkF m 1 _ [(.ref o0)])) _
    refine st102.trans ?_
    show Steps _ _ _ (T102.setTop (mkF m 4 _ [])) _
    refine XS.iloadN X102.here hx rfl (hb hby d2_4) rfl ?_
    show Steps _ _ _ (T102.setTop (mkF m 5 _ [(.int p1)])) _
    refine XS.iconst X102.here hx rfl (hb hby d2_5) ?_
    show Steps _ _ _ (T102.setTop (mkF m 6 _ [(.int 1), (.int p1)])) _
    refine XS.icmpNo X102.here hx rfl (hb hby d2_6) rfl (flt (h1 : ¬ (p1 < (1 : Int32)))).1 ?_
    show Steps _ _ _ (T102.setTop (mkF m 9 _ [])) _
    refine XS.iloadN X102.here hx rfl (hb hby d2_9) rfl ?_
    show Steps _ _ _ (T102.setTop (mkF m 10 _ [(.int p2)])) _
    refine XS.iconst X102.here hx rfl (hb hby d2_10) ?_
    show Steps _ _ _ (T102.setTop (mkF m 11 _ [(.int 1), (.int p2)])) _
    refine XS.icmpNo X102.here hx rfl (hb hby d2_11) rfl (flt (h2 : ¬ (p2 < (1 : Int32)))).1 ?_
    show Steps _ _ _ (T102.setTop (mkF m 14 _ [])) _
    refine XS.iloadN X102.here hx rfl (hb hby d2_14) rfl ?_
    show Steps _ _ _ (T102.setTop (mkF m 15 _ [(.int p3)])) _
    refine XS.ifNo X102.here hx rfl (hb hby d2_15) rfl ((if0 _ _).trans (flt (h3 : ¬ (p3 < (0 : Int32)))).1) ?_
    show Steps _ _ _ (T102.setTop (mkF m 18 _ [])) _
    refine XS.iloadN X102.here hx rfl (hb hby d2_18) rfl ?_
    show Steps _ _ _ (T102.setTop (mkF m 19 _ [(.int p3)])) _
    refine XS.iloadN X102.here hx rfl (hb hby d2_19) rfl ?_
    show Steps _ _ _ (T102.setTop (mkF m 20 _ [(.int p1), (.int p3)])) _
    refine XS.iloadN X102.here hx rfl (hb hby d2_20) rfl ?_
    show Steps _ _ _ (T102.setTop (mkF m 21 _ [(.int p2), (.int p1), (.int p3)])) _
    refine st103 _ ?_
    show Steps _ _ _ (T103.setTop (mkF m 24 _ [(.int (own_min p1 p2)), (.int p3)])) _
    refine XS.icmpYes X103.here hx rfl (pc0 := 24) (pc' := 43) rfl (hb hby d2_24) rfl (flt (h4 : ¬ ((own_min p1 p2) < p3))).2.2.2 (by decide) (by decide) ?_
    show Steps _ _ _ (T103.setTop (mkF m 43 _ [])) _
    refine XS.aloadN X103.here hx rfl (hb hby d2_43) rfl rfl ?_
    show Steps _ _ _ (T103.setTop (mkF m 44 _ [(.ref o0)])) _
    refine XS.iloadN X103.here hx rfl (hb hby d2_44) rfl ?_
    show Steps _ _ _ (T103.setTop (mkF m 45 _ [(.int p1), (.ref o0)])) _
    refine st104 _ ?_
    show Steps _ _ _ (T104.setTop (mkF m 48 _ [])) _
    refine XS.aloadN X104.here hx rfl (hb hby d2_48) rfl rfl ?_
    show Steps _ _ _ (T104.setTop (mkF m 49 _ [(.ref o0)])) _
    refine XS.iloadN X104.here hx rfl (hb hby d2_49) rfl ?_
    show Steps _ _ _ (T104.setTop (mkF m 50 _ [(.int p2), (.ref o0)])) _
    refine st111 _ ?_
    show Steps _ _ _ (T111.setTop (mkF m 53 _ [])) _
    refine XS.aloadN X111.here hx rfl (hb hby d2_53) rfl rfl ?_
    show Steps _ _ _ (T111.setTop (mkF m 54 _ [(.ref o0)])) _
    refine XS.iloadN X111.here hx rfl (hb hby d2_54) rfl ?_
    show Steps _ _ _ (T111.setTop (mkF m 55 _ [(.int p3), (.ref o0)])) _
    refine st118 _ ?_
    show Steps _ _ _ (T118.setTop (mkF m 58 _ [])) _
    exact k)
  subst hO
  obtain ⟨fs, hr, hrun, hended, hW, hsame⟩ := X118.leave (v := none) (fun _ => rfl)
  refine ⟨_, _, go125 _ ?_, hrun, hended, _, _, rfl, ?_, ⟨_, rfl⟩, hW, hsame.mono (by decide) (by decide)⟩
  · exact X118.returnOut hx Bd.returns (hb hby d2_58) hr
  · show Q_si Z o0 p1 p2 p3 h0 n0 _ T118.heap _
    rw [e118]
    exact ⟨rfl, N118, K123, f119, f120, f121, f124⟩
theorem ef_un (m : MethodId) (x0 : Addr) : entryFrame m #[(.ref x0)] 1 = mkF m 0 #[rv x0] [] := by first | (simp [entryFrame, mkF, argsToLocals, Value.category]; done) | rfl
def Q_un (Z : State) (o0 : Addr) (w0_ : Int32) (w1_ : Int32) (w2_ : Int32) (h0 : Heap) (n0 : Nat) (v : Option Value) (h : Heap) (L : List Loc) : Prop := v = some (.int ((w0_ + w1_) - w2_)) ∧ Fr n0 L ∧ h = h0
theorem d3_0 : decode prog_24_method_3_code 0 = .ok (.aload_n 0, 1) := by decide +kernel
theorem d3_1 : decode prog_24_method_3_code 1 = .ok (.getfield 22, 3) := by decide +kernel
theorem d3_4 : decode prog_24_method_3_code 4 = .ok (.aload_n 0, 1) := by decide +kernel
theorem d3_5 : decode prog_24_method_3_code 5 = .ok (.getfield 28, 3) := by decide +kernel
theorem d3_8 : decode prog_24_method_3_code 8 = .ok (.iadd, 1) := by decide +kernel
theorem d3_9 : decode prog_24_method_3_code 9 = .ok (.aload_n 0, 1) := by decide +kernel
theorem d3_10 : decode prog_24_method_3_code 10 = .ok (.getfield 31, 3) := by decide +kernel
theorem d3_13 : decode prog_24_method_3_code 13 = .ok (.isub, 1) := by decide +kernel
theorem d3_14 : decode prog_24_method_3_code 14 = .ok (.ireturn, 1) := by decide +kernel
set_option maxRecDepth 65536 in
set_option maxHeartbeats 40000000 in
theorem rm_un (l : Launch) (Z : State) (a0 : Array Value) (hw : ∀ d ∈ tables_1, d.before a0 Z = true) (ws : List Jvm.Cond) (o0 : Addr) (w0_ : Int32) (w1_ : Int32) (w2_ : Int32) (h0 : Heap) (n0 : Nat) (Z0 : n0 ≤ h0.size) (E_o0 : Exa Z h0 o0 "com/example/gradus/gradus/expansion/Similarity") (ge_o0 : n0 ≤ o0) (F_firstSize_o0 : Fld Z h0 o0 "com/example/gradus/gradus/expansion/Similarity" "firstSize" "I" (.int w0_)) (F_secondSize_o0 : Fld Z h0 o0 "com/example/gradus/gradus/expansion/Similarity" "secondSize" "I" (.int w1_)) (F_shared_o0 : Fld Z h0 o0 "com/example/gradus/gradus/expansion/Similarity" "shared" "I" (.int w2_)) :
    MetFree l (⟨"com/example/gradus/gradus/expansion/Similarity", "union", "()I"⟩ : MethodName) (head1 (Jvm.Cond.code (⟨"com/example/gradus/gradus/expansion/Similarity", "union", "()I"⟩ : MethodName) prog_24_method_3_code 1 (some .int) :: ws) ({ frames := 0, cells := 0, slots := 0, locals := 0 } : Room)) (fun a U => a = #[(.ref o0)] ∧ Z.Warmed39 U.vm ∧ U.heap = h0) (fun _ _ _ _ _ => True) (fun _ U o U' => ∃ v L, o = .returned v ∧ Q_un Z o0 w0_ w1_ w2_ h0 n0 v U'.heap L ∧ FrameEnd U o U' L ({ frames := 0, cells := 0, slots := 0, locals := 0 } : Room).cells ({ frames := 0, cells := 0, slots := 0, locals := 0 } : Room).slots) := by
  refine MetFree.of_bodySF (plainFor_of_name pn_1) hisR ?_
  intro p e s m args below meth c s₁ Bd hml0 hP hK
  obtain ⟨rfl, hZ, hh⟩ := hP
  have hx := Bd.exec
  have hby := Bd.bytes
  have hml : c.maxLocals = 1 := hml0
  have hown : s.vm.findClass "com/example/gradus/gradus/expansion/Similarity" = some m.cls := findClass_of_methodNamed Bd.named
  have hnm := (name_of_methodNamed Bd.named Bd.method).1
  have X0 : Stand p l e ({ frames := 0, cells := 0, slots := 0, locals := 0 } : Room) s m #[(.ref o0)] below meth c s₁ [] 0 0 := Stand.of_body Bd
  have e0 : s₁.heap = h0 := by rw [← hh, Bd.state]; rfl
  have N0 := Fr.nil n0
  have go0 : ∀ t, Steps p.tables e below (s₁.setTop (mkF m 0 #[rv o0] [])) t → Steps p.tables e below (s₁.setTop (entryFrame m #[(.ref o0)] 1)) t := fun t k => castTop (ef_un m o0) k
  obtain ⟨O, hO⟩ : ∃ z, z = (s₁.setTop (entryFrame m #[(.ref o0)] 1)) := ⟨_, rfl⟩
  rw [← hO] at go0
  obtain ⟨T101, X101, e101, st101⟩ := getF X0 hx hZ hown (host := "") (Or.inl (hw _ (List.mem_of_getElem? (i := 19) rfl))) Via.refl e0 F_firstSize_o0 (g := (mkF m 1 #[rv o0] [(.ref o0)])) rfl rfl (hb hby d3_1)
  obtain ⟨T102, X102, e102, st102⟩ := getF X101 hx hZ hown (host := "") (Or.inl (hw _ (List.mem_of_getElem? (i := 21) rfl))) Via.refl e101 F_secondSize_o0 (g := (mkF m 5 #[rv o0] [(.ref o0), (.int w0_)])) rfl rfl (hb hby d3_5)
  obtain ⟨T103, X103, e103, st103⟩ := getF X102 hx hZ hown (host := "") (Or.inl (hw _ (List.mem_of_getElem? (i := 23) rfl))) Via.refl e102 F_shared_o0 (g := (mkF m 10 #[rv o0] [(.ref o0), (.int (w0_ + w1_))])) rfl rfl (hb hby d3_10)
  have go104 : ∀ t, Steps p.tables e below (T103.setTop (mkF m 14 #[rv o0] [(.int ((w0_ + w1_) - w2_))])) t → Steps p.tables e below O t := fun t k => go0 t (by
    refine XS.aloadN X0.here hx rfl (hb hby d3_0) rfl rfl ?_
    show Steps _ _ _ (s₁.setTop (mkF m 1 _ [(.ref o0)])) _
    refine st101 _ ?_
    show Steps _ _ _ (T101.setTop (mkF m 4 _ [(.int w0_)])) _
    refine XS.aloadN X101.here hx rfl (hb hby d3_4) rfl rfl ?_
    show Steps _ _ _ (T101.setTop (mkF m 5 _ [(.ref o0), (.int w0_)])) _
    refine st102 _ ?_
    show Steps _ _ _ (T102.setTop (mkF m 8 _ [(.int w1_), (.int w0_)])) _
    refine XS.iadd X102.here hx rfl (hb hby d3_8) rfl ?_
    show Steps _ _ _ (T102.setTop (mkF m 9 _ [(.int (w0_ + w1_))])) _
    refine XS.aloadN X102.here hx rfl (hb hby d3_9) rfl rfl ?_
    show Steps _ _ _ (T102.setTop (mkF m 10 _ [(.ref o0), (.int (w0_ + w1_))])) _
    refine st103 _ ?_
    show Steps _ _ _ (T103.setTop (mkF m 13 _ [(.int w2_), (.int (w0_ + w1_))])) _
    refine XS.isub X103.here hx rfl (hb hby d3_13) rfl ?_
    show Steps _ _ _ (T103.setTop (mkF m 14 _ [(.int ((w0_ + w1_) - w2_))])) _
    exact k)
  subst hO
  obtain ⟨fs, hr, hrun, hended, hW, hsame⟩ := X103.leave (v := some (.int ((w0_ + w1_) - w2_))) (fun h => by rw [Bd.returns] at h; cases h)
  refine ⟨_, _, go104 _ ?_, hrun, hended, _, _, rfl, ?_, ⟨_, rfl⟩, hW, hsame.mono (by decide) (by decide)⟩
  · exact retI X103 hx Bd.returns (hb hby d3_14) hr
  · show Q_un Z o0 w0_ w1_ w2_ h0 n0 _ T103.heap _
    rw [e103]
    exact ⟨rfl, N0, rfl⟩
theorem ef_law (m : MethodId) (x0 : Int32) (x1 : Int32) (x2 : Int32) : entryFrame m #[(.int x0), (.int x1), (.int x2)] maxLocals = mkF m 0 #[iv x0, iv x1, iv x2, .unset, .unset, .unset, .unset, .unset, .unset, .unset, .unset] [] := by first | (simp [entryFrame, mkF, argsToLocals, Value.category, maxLocals]; done) | rfl
theorem pn_2 : plainName "com/example/gradus/gradus/expansion/SimilarityUnionPinLaw" = true := by first | (simp [plainName, overriddenIn]; done) | decide +kernel
def Q_law (Z : State) (p0 : Int32) (p1 : Int32) (p2 : Int32) (h0 : Heap) (n0 : Nat) (v : Option Value) (h : Heap) (L : List Loc) : Prop := v = some (.int (1 : Int32)) ∧ Fr n0 L
theorem pd_2 : parseMethodDescriptor "(III)V" = some ⟨[.int, .int, .int], none⟩ := by decide +kernel
theorem pd_3 : parseMethodDescriptor "()I" = some ⟨[], some .int⟩ := by decide +kernel
set_option maxRecDepth 65536 in
set_option maxHeartbeats 40000000 in
theorem rm_law (l : Launch) (Z : State) (a0 : Array Value) (hw : ∀ d ∈ tables_1, d.before a0 Z = true) (ws : List Jvm.Cond) (p0 : Int32) (p1 : Int32) (p2 : Int32) (h0 : Heap) (n0 : Nat) (Z0 : n0 ≤ h0.size)  :
    MetFree l x (head1 (Jvm.Cond.code x code maxLocals ret :: ws) room_1) (fun a U => a = #[(.int p0), (.int p1), (.int p2)] ∧ Z.Warmed39 U.vm ∧ U.heap = h0) (fun _ _ _ _ _ => True) (fun _ U o U' => ∃ v L, o = .returned v ∧ Q_law Z p0 p1 p2 h0 n0 v U'.heap L ∧ FrameEnd U o U' L room_1.cells room_1.slots) := by
  refine MetFree.of_bodySF (plainFor_of_name pn_2) hisR ?_
  intro p e s m args below meth c s₁ Bd hml0 hP hK
  obtain ⟨rfl, hZ, hh⟩ := hP
  have hx := Bd.exec
  have hby := Bd.bytes
  have hml : c.maxLocals = 11 := hml0
  have hown : s.vm.findClass "com/example/gradus/gradus/expansion/SimilarityUnionPinLaw" = some m.cls := findClass_of_methodNamed Bd.named
  have hnm := (name_of_methodNamed Bd.named Bd.method).1
  have X0 : Stand p l e room_1 s m #[(.int p0), (.int p1), (.int p2)] below meth c s₁ [] 0 0 := Stand.of_body Bd
  have e0 : s₁.heap = h0 := by rw [← hh, Bd.state]; rfl
  have N0 := Fr.nil n0
  have go0 : ∀ t, Steps p.tables e below (s₁.setTop (mkF m 0 #[iv p0, iv p1, iv p2, .unset, .unset, .unset, .unset, .unset, .unset, .unset, .unset] [])) t → Steps p.tables e below (s₁.setTop (entryFrame m #[(.int p0), (.int p1), (.int p2)] maxLocals)) t := fun t k => castTop (ef_law m p0 p1 p2) k
  obtain ⟨O, hO⟩ : ∃ z, z = (s₁.setTop (entryFrame m #[(.int p0), (.int p1), (.int p2)] maxLocals)) := ⟨_, rfl⟩
  rw [← hO] at go0
  have g_of : 0 ≤ (p0 &&& (536870911 : Int32)).toInt ∧ (p0 &&& (536870911 : Int32)).toInt < 536870912 := by rw [c_mask p0 _ 29 (by decide) (by decide)]; omega
  have go101 : ∀ t, Steps p.tables e below (s₁.setTop (mkF m 17 #[iv p0, iv p1, iv p2, iv (p0 &&& (536870911 : Int32)), iv (p1 &&& (536870911 : Int32)), iv (p2 &&& (536870911 : Int32)), .unset, .unset, .unset, .unset, .unset] [])) t → Steps p.tables e below O t := fun t k => go0 t (by
    refine XS.iloadN X0.here hx rfl (hb hby at_0) rfl ?_
    show Steps _ _ _ (s₁.setTop (mkF m 1 _ [(.int p0)])) _
    refine X0.ldcInt hx hown (mvT hZ (hw _ (List.mem_of_getElem? (i := 0) rfl))) (g := (mkF m 1 #[iv p0, iv p1, iv p2, .unset, .unset, .unset, .unset, .unset, .unset, .unset, .unset] [(.int p0)])) rfl (hb hby at_1) _ ?_
    show Steps _ _ _ (s₁.setTop (mkF m 3 _ [(.int 536870911), (.int p0)])) _
    refine XS.iand X0.here hx rfl (hb hby at_3) rfl ?_
    show Steps _ _ _ (s₁.setTop (mkF m 4 _ [(.int (p0 &&& (536870911 : Int32)))])) _
    refine XS.istoreN X0.here hx rfl (hb hby at_4) rfl (l' := #[iv p0, iv p1, iv p2, iv (p0 &&& (536870911 : Int32)), .unset, .unset, .unset, .unset, .unset, .unset, .unset]) rfl ?_
    show Steps _ _ _ (s₁.setTop (mkF m 5 _ [])) _
    refine XS.iloadN X0.here hx rfl (hb hby at_5) rfl ?_
    show Steps _ _ _ (s₁.setTop (mkF m 6 _ [(.int p1)])) _
    refine X0.ldcInt hx hown (mvT hZ (hw _ (List.mem_of_getElem? (i := 0) rfl))) (g := (mkF m 6 #[iv p0, iv p1, iv p2, iv (p0 &&& (536870911 : Int32)), .unset, .unset, .unset, .unset, .unset, .unset, .unset] [(.int p1)])) rfl (hb hby at_6) _ ?_
    show Steps _ _ _ (s₁.setTop (mkF m 8 _ [(.int 536870911), (.int p1)])) _
    refine XS.iand X0.here hx rfl (hb hby at_8) rfl ?_
    show Steps _ _ _ (s₁.setTop (mkF m 9 _ [(.int (p1 &&& (536870911 : Int32)))])) _
    refine XS.istore X0.here hx rfl (hb hby at_9) rfl (l' := #[iv p0, iv p1, iv p2, iv (p0 &&& (536870911 : Int32)), iv (p1 &&& (536870911 : Int32)), .unset, .unset, .unset, .unset, .unset, .unset]) rfl ?_
    show Steps _ _ _ (s₁.setTop (mkF m 11 _ [])) _
    refine XS.iloadN X0.here hx rfl (hb hby at_11) rfl ?_
    show Steps _ _ _ (s₁.setTop (mkF m 12 _ [(.int p2)])) _
    refine X0.ldcInt hx hown (mvT hZ (hw _ (List.mem_of_getElem? (i := 0) rfl))) (g := (mkF m 12 #[iv p0, iv p1, iv p2, iv (p0 &&& (536870911 : Int32)), iv (p1 &&& (536870911 : Int32)), .unset, .unset, .unset, .unset, .unset, .unset] [(.int p2)])) rfl (hb hby at_12) _ ?_
    show Steps _ _ _ (s₁.setTop (mkF m 14 _ [(.int 536870911), (.int p2)])) _
    refine XS.iand X0.here hx rfl (hb hby at_14) rfl ?_
    show Steps _ _ _ (s₁.setTop (mkF m 15 _ [(.int (p2 &&& (536870911 : Int32)))])) _
    refine XS.istore X0.here hx rfl (hb hby at_15) rfl (l' := #[iv p0, iv p1, iv p2, iv (p0 &&& (536870911 : Int32)), iv (p1 &&& (536870911 : Int32)), iv (p2 &&& (536870911 : Int32)), .unset, .unset, .unset, .unset, .unset]) rfl ?_
    show Steps _ _ _ (s₁.setTop (mkF m 17 _ [])) _
    exact k)
  obtain ⟨of, hq_of⟩ : ∃ z : Int32, z = (p0 &&& (536870911 : Int32)) := ⟨_, rfl⟩
  rw [← hq_of] at go101
  rw [← hq_of] at g_of
  have g_os : 0 ≤ (p1 &&& (536870911 : Int32)).toInt ∧ (p1 &&& (536870911 : Int32)).toInt < 536870912 := by rw [c_mask p1 _ 29 (by decide) (by decide)]; omega
  obtain ⟨os, hq_os⟩ : ∃ z : Int32, z = (p1 &&& (536870911 : Int32)) := ⟨_, rfl⟩
  rw [← hq_os] at go101
  rw [← hq_os] at g_os
  have g_bo : 0 ≤ (p2 &&& (536870911 : Int32)).toInt ∧ (p2 &&& (536870911 : Int32)).toInt < 536870912 := by rw [c_mask p2 _ 29 (by decide) (by decide)]; omega
  obtain ⟨bo, hq_bo⟩ : ∃ z : Int32, z = (p2 &&& (536870911 : Int32)) := ⟨_, rfl⟩
  rw [← hq_bo] at go101
  rw [← hq_bo] at g_bo
  have z0 : (0 : Int32).toInt = 0 := rfl
  have z1 : (1 : Int32).toInt = 1 := rfl
  have go102 : ∀ t, Steps p.tables e below (s₁.setTop (mkF m 21 #[iv p0, iv p1, iv p2, iv of, iv os, iv bo, .unset, .unset, .unset, .unset, .unset] [(.int (of + bo))])) t → Steps p.tables e below O t := fun t k => go101 t (by
    refine XS.iloadN X0.here hx rfl (hb hby at_17) rfl ?_
    show Steps _ _ _ (s₁.setTop (mkF m 18 _ [(.int of)])) _
    refine XS.iload X0.here hx rfl (hb hby at_18) rfl ?_
    show Steps _ _ _ (s₁.setTop (mkF m 20 _ [(.int bo), (.int of)])) _
    refine XS.iadd X0.here hx rfl (hb hby at_20) rfl ?_
    show Steps _ _ _ (s₁.setTop (mkF m 21 _ [(.int (of + bo))])) _
    exact k)
  obtain ⟨fi, hF, go103⟩ : ∃ fi : Int32, (0 ≤ fi.toInt ∧ fi.toInt < 536870912 ∧ 1 ≤ fi.toInt + bo.toInt) ∧ ∀ t, Steps p.tables e below (s₁.setTop (mkF m 26 #[iv p0, iv p1, iv p2, iv fi, iv os, iv bo, .unset, .unset, .unset, .unset, .unset] [])) t → Steps p.tables e below O t := by
    by_cases hc : (of + bo) = (0 : Int32)
    · have s1 := own_pos of bo g_of.1 g_of.2 g_bo.1 g_bo.2
      have go104 : ∀ t, Steps p.tables e below (s₁.setTop (mkF m 26 #[iv p0, iv p1, iv p2, iv 1, iv os, iv bo, .unset, .unset, .unset, .unset, .unset] [])) t → Steps p.tables e below O t := fun t k => go102 t (by
        refine XS.ifNo X0.here hx rfl (hb hby at_21) rfl ((if0 _ _).trans (teq (hc : (of + bo) = (0 : Int32))).2) ?_
        show Steps _ _ _ (s₁.setTop (mkF m 24 _ [])) _
        refine XS.iconst X0.here hx rfl (hb hby at_24) ?_
        show Steps _ _ _ (s₁.setTop (mkF m 25 _ [(.int 1)])) _
        refine XS.istoreN X0.here hx rfl (hb hby at_25) rfl (l' := #[iv p0, iv p1, iv p2, iv 1, iv os, iv bo, .unset, .unset, .unset, .unset, .unset]) rfl ?_
        show Steps _ _ _ (s₁.setTop (mkF m 26 _ [])) _
        exact k)
      exact ⟨(1 : Int32), by omega, go104⟩
    · have s1 := own_pos of bo g_of.1 g_of.2 g_bo.1 g_bo.2
      have s2 : ¬ (of + bo).toInt = 0 := fun h => hc (by rw [← Int32.toInt_inj, h]; rfl)
      have go105 : ∀ t, Steps p.tables e below (s₁.setTop (mkF m 26 #[iv p0, iv p1, iv p2, iv of, iv os, iv bo, .unset, .unset, .unset, .unset, .unset] [])) t → Steps p.tables e below O t := fun t k => go102 t (by
        refine XS.ifYes X0.here hx rfl (pc0 := 21) (pc' := 26) rfl (hb hby at_21) rfl ((if0 _ _).trans (feq (hc : ¬ ((of + bo) = (0 : Int32)))).2) (by decide) (by decide) ?_
        show Steps _ _ _ (s₁.setTop (mkF m 26 _ [])) _
        exact k)
      exact ⟨of, by omega, go105⟩
  have go106 : ∀ t, Steps p.tables e below (s₁.setTop (mkF m 31 #[iv p0, iv p1, iv p2, iv fi, iv os, iv bo, .unset, .unset, .unset, .unset, .unset] [(.int (os + bo))])) t → Steps p.tables e below O t := fun t k => go103 t (by
    refine XS.iload X0.here hx rfl (hb hby at_26) rfl ?_
    show Steps _ _ _ (s₁.setTop (mkF m 28 _ [(.int os)])) _
    refine XS.iload X0.here hx rfl (hb hby at_28) rfl ?_
    show Steps _ _ _ (s₁.setTop (mkF m 30 _ [(.int bo), (.int os)])) _
    refine XS.iadd X0.here hx rfl (hb hby at_30) rfl ?_
    show Steps _ _ _ (s₁.setTop (mkF m 31 _ [(.int (os + bo))])) _
    exact k)
  obtain ⟨se, hS, go107⟩ : ∃ se : Int32, (0 ≤ se.toInt ∧ se.toInt < 536870912 ∧ 1 ≤ se.toInt + bo.toInt) ∧ ∀ t, Steps p.tables e below (s₁.setTop (mkF m 37 #[iv p0, iv p1, iv p2, iv fi, iv se, iv bo, .unset, .unset, .unset, .unset, .unset] [])) t → Steps p.tables e below O t := by
    by_cases hc : (os + bo) = (0 : Int32)
    · have s1 := own_pos os bo g_os.1 g_os.2 g_bo.1 g_bo.2
      have go108 : ∀ t, Steps p.tables e below (s₁.setTop (mkF m 37 #[iv p0, iv p1, iv p2, iv fi, iv 1, iv bo, .unset, .unset, .unset, .unset, .unset] [])) t → Steps p.tables e below O t := fun t k => go106 t (by
        refine XS.ifNo X0.here hx rfl (hb hby at_31) rfl ((if0 _ _).trans (teq (hc : (os + bo) = (0 : Int32))).2) ?_
        show Steps _ _ _ (s₁.setTop (mkF m 34 _ [])) _
        refine XS.iconst X0.here hx rfl (hb hby at_34) ?_
        show Steps _ _ _ (s₁.setTop (mkF m 35 _ [(.int 1)])) _
        refine XS.istore X0.here hx rfl (hb hby at_35) rfl (l' := #[iv p0, iv p1, iv p2, iv fi, iv 1, iv bo, .unset, .unset, .unset, .unset, .unset]) rfl ?_
        show Steps _ _ _ (s₁.setTop (mkF m 37 _ [])) _
        exact k)
      exact ⟨(1 : Int32), by omega, go108⟩
    · have s1 := own_pos os bo g_os.1 g_os.2 g_bo.1 g_bo.2
      have s2 : ¬ (os + bo).toInt = 0 := fun h => hc (by rw [← Int32.toInt_inj, h]; rfl)
      have go109 : ∀ t, Steps p.tables e below (s₁.setTop (mkF m 37 #[iv p0, iv p1, iv p2, iv fi, iv os, iv bo, .unset, .unset, .unset, .unset, .unset] [])) t → Steps p.tables e below O t := fun t k => go106 t (by
        refine XS.ifYes X0.here hx rfl (pc0 := 31) (pc' := 37) rfl (hb hby at_31) rfl ((if0 _ _).trans (feq (hc : ¬ ((os + bo) = (0 : Int32)))).2) (by decide) (by decide) ?_
        show Steps _ _ _ (s₁.setTop (mkF m 37 _ [])) _
        exact k)
      exact ⟨os, by omega, go109⟩
  have s1 := own_pos fi bo hF.1 hF.2.1 g_bo.1 g_bo.2
  have s2 := own_pos se bo hS.1 hS.2.1 g_bo.1 g_bo.2
  have q1 : ¬ (fi + bo) < (1 : Int32) := fun h => by have := Int32.lt_iff_toInt_lt.mp h; omega
  have q2 : ¬ (se + bo) < (1 : Int32) := fun h => by have := Int32.lt_iff_toInt_lt.mp h; omega
  have q3 : ¬ bo < (0 : Int32) := fun h => by have := Int32.lt_iff_toInt_lt.mp h; omega
  have q4 := own_le_min fi se bo hF.1 hF.2.1 hS.1 hS.2.1 g_bo.1 g_bo.2
  have q5 := own_le_min se fi bo hS.1 hS.2.1 hF.1 hF.2.1 g_bo.1 g_bo.2
  obtain ⟨T110, h110, X110, e110, E110, A110, D110, -, st110⟩ := newO X0 hx hZ hown (hw _ (List.mem_of_getElem? (i := 1) rfl)) (hw _ (List.mem_of_getElem? (i := 2) rfl)) (hw _ (List.mem_of_getElem? (i := 3) rfl)) e0 (g := (mkF m 59 #[iv p0, iv p1, iv p2, iv fi, iv se, iv bo, iv (fi + bo), iv (se + bo), iv ((fi + se) + bo), .unset, .unset] [])) rfl (hb hby at_59) (by decide) (by decide)
  obtain ⟨s1_, g110⟩ : ∃ z, z = h0.size := ⟨_, rfl⟩
  have ge_s1_ : n0 ≤ s1_ := Nat.le_trans Z0 (Nat.le_of_eq g110.symm)
  rw [← g110] at A110 D110 st110
  have Z111 := Nat.le_trans Z0 E110.1
  have F_firstSize_s1_ : Fld Z h110 s1_ "com/example/gradus/gradus/expansion/Similarity" "firstSize" "I" (.int 0) := D110 (Or.inr (hw _ (List.mem_of_getElem? (i := 20) rfl))) (ty := .int) (by decide)
  have F_secondSize_s1_ : Fld Z h110 s1_ "com/example/gradus/gradus/expansion/Similarity" "secondSize" "I" (.int 0) := D110 (Or.inr (hw _ (List.mem_of_getElem? (i := 22) rfl))) (ty := .int) (by decide)
  have F_shared_s1_ : Fld Z h110 s1_ "com/example/gradus/gradus/expansion/Similarity" "shared" "I" (.int 0) := D110 (Or.inr (hw _ (List.mem_of_getElem? (i := 24) rfl))) (ty := .int) (by decide)
  obtain ⟨_, _, ⟨T112, L112, k112, n112⟩, -, X112, ⟨Lc112, hQ112, l112, y112, z112⟩, st112⟩ := X110.specialBack hx (y := (⟨"com/example/gradus/gradus/expansion/Similarity", "<init>", "(III)V"⟩ : MethodName)) rfl hown (mvT hZ (hw _ (List.mem_of_getElem? (i := 4) rfl))) (mvT hZ (hw _ (List.mem_of_getElem? (i := 5) rfl))) (mvT hZ (hw _ (List.mem_of_getElem? (i := 6) rfl))) (by decide) (backOf (W := 1) (rm_si l Z a0 hw [] s1_ (fi + bo) (se + bo) bo  h110 n0 Z111 A110 ge_s1_ F_firstSize_s1_ F_secondSize_s1_ F_shared_s1_ q1 q2 q3 q4) hZ (hw _ (List.mem_of_getElem? (i := 6) rfl)) (hw _ (List.mem_of_getElem? (i := 3) rfl)) (by decide) (by decide)) (g := (mkF m 69 #[iv p0, iv p1, iv p2, iv fi, iv se, iv bo, iv (fi + bo), iv (se + bo), iv ((fi + se) + bo), .unset, .unset] [(.int bo), (.int (se + bo)), (.int (fi + bo)), (.ref s1_), (.ref s1_)])) rfl (by rw [hml]; rfl) (Steps.refl _) (a := s1_) (argsL := [(.int (fi + bo)), (.int (se + bo)), (.int bo)]) (rest := [(.ref s1_)]) (lenOf pd_2 rfl) rfl (by show 2 * 0 + _ ≤ _; exact Nat.le_of_eq rfl) (hb hby at_69) (fun _ _ => ⟨rfl, e110, (by decide : 1 + 0 ≤ _), (by decide : 3 + 0 ≤ _)⟩)
  dsimp only [Pt.U, Pt.locs, Pt.cells, Pt.slots] at X112 l112 y112 z112 st112 hQ112
  subst l112 y112 z112
  obtain ⟨rfl, N112q, Ks1_, Es1_, FfirstSize_s1_, FsecondSize_s1_, Fshared_s1_⟩ := hQ112
  have N112 := Fr.app N0 N112q
  have f113 := A110.keep Ks1_
  have Z114 := Nat.le_trans Z111 Ks1_.1
  obtain ⟨T115, h115, X115, e115, E115, A115, D115, -, st115⟩ := newO X112 hx hZ hown (hw _ (List.mem_of_getElem? (i := 1) rfl)) (hw _ (List.mem_of_getElem? (i := 2) rfl)) (hw _ (List.mem_of_getElem? (i := 3) rfl)) rfl (g := (mkF m 74 #[iv p0, iv p1, iv p2, iv fi, iv se, iv bo, iv (fi + bo), iv (se + bo), iv ((fi + se) + bo), rv s1_, .unset] [])) rfl (hb hby at_74) (by decide) (by decide)
  obtain ⟨s2_, g115⟩ : ∃ z, z = T112.heap.size := ⟨_, rfl⟩
  have ne116 : s1_ ≠ s2_ := Nat.ne_of_lt (Nat.lt_of_lt_of_le f113.lt (Nat.le_of_eq g115.symm))
  have ge_s2_ : n0 ≤ s2_ := Nat.le_trans Z114 (Nat.le_of_eq g115.symm)
  rw [← g115] at A115 D115 st115
  have f117 := f113.ext E115
  have f118 := FfirstSize_s1_.ext E115
  have f119 := FsecondSize_s1_.ext E115
  have f120 := Fshared_s1_.ext E115
  have Z121 := Nat.le_trans Z114 E115.1
  have F_firstSize_s2_ : Fld Z h115 s2_ "com/example/gradus/gradus/expansion/Similarity" "firstSize" "I" (.int 0) := D115 (Or.inr (hw _ (List.mem_of_getElem? (i := 20) rfl))) (ty := .int) (by decide)
  have F_secondSize_s2_ : Fld Z h115 s2_ "com/example/gradus/gradus/expansion/Similarity" "secondSize" "I" (.int 0) := D115 (Or.inr (hw _ (List.mem_of_getElem? (i := 22) rfl))) (ty := .int) (by decide)
  have F_shared_s2_ : Fld Z h115 s2_ "com/example/gradus/gradus/expansion/Similarity" "shared" "I" (.int 0) := D115 (Or.inr (hw _ (List.mem_of_getElem? (i := 24) rfl))) (ty := .int) (by decide)
  obtain ⟨_, _, ⟨T122, L122, k122, n122⟩, -, X122, ⟨Lc122, hQ122, l122, y122, z122⟩, st122⟩ := X115.specialBack hx (y := (⟨"com/example/gradus/gradus/expansion/Similarity", "<init>", "(III)V"⟩ : MethodName)) rfl hown (mvT hZ (hw _ (List.mem_of_getElem? (i := 4) rfl))) (mvT hZ (hw _ (List.mem_of_getElem? (i := 5) rfl))) (mvT hZ (hw _ (List.mem_of_getElem? (i := 6) rfl))) (by decide) (backOf (W := 1) (rm_si l Z a0 hw [] s2_ (se + bo) (fi + bo) bo  h115 n0 Z121 A115 ge_s2_ F_firstSize_s2_ F_secondSize_s2_ F_shared_s2_ q2 q1 q3 q5) hZ (hw _ (List.mem_of_getElem? (i := 6) rfl)) (hw _ (List.mem_of_getElem? (i := 3) rfl)) (by decide) (by decide)) (g := (mkF m 84 #[iv p0, iv p1, iv p2, iv fi, iv se, iv bo, iv (fi + bo), iv (se + bo), iv ((fi + se) + bo), rv s1_, .unset] [(.int bo), (.int (fi + bo)), (.int (se + bo)), (.ref s2_), (.ref s2_)])) rfl (by rw [hml]; rfl) (Steps.refl _) (a := s2_) (argsL := [(.int (se + bo)), (.int (fi + bo)), (.int bo)]) (rest := [(.ref s2_)]) (lenOf pd_2 rfl) rfl (by show 2 * 0 + _ ≤ _; exact Nat.le_of_eq rfl) (hb hby at_84) (fun _ _ => ⟨rfl, e115, (by decide : 2 + 0 ≤ _), (by decide : 6 + 0 ≤ _)⟩)
  dsimp only [Pt.U, Pt.locs, Pt.cells, Pt.slots] at X122 l122 y122 z122 st122 hQ122
  subst l122 y122 z122
  obtain ⟨rfl, N122q, Ks2_, Es2_, FfirstSize_s2_, FsecondSize_s2_, Fshared_s2_⟩ := hQ122
  have N122 := Fr.app N112 N122q
  have f123 := f117.keep Ks2_
  have f124 := f118.keep Ks2_ (ninS ne116 nin0)
  have f125 := f119.keep Ks2_ (ninS ne116 nin0)
  have f126 := f120.keep Ks2_ (ninS ne116 nin0)
  have f127 := A115.keep Ks2_
  have Z128 := Nat.le_trans Z121 Ks2_.1
  obtain ⟨cq129, kq129, q129a, q129b, q129c⟩ := isOf hZ rfl f123
  obtain ⟨_, _, ⟨T129, L129, k129, n129⟩, -, X129, ⟨Lc129, hQ129, l129, y129, z129⟩, st129⟩ := X122.virtualBack hx (y := (⟨"com/example/gradus/gradus/expansion/Similarity", "union", "()I"⟩ : MethodName)) (z := (⟨"com/example/gradus/gradus/expansion/Similarity", "union", "()I"⟩ : MethodName)) hown (mvT hZ (hw _ (List.mem_of_getElem? (i := 25) rfl))) (mvT hZ (hw _ (List.mem_of_getElem? (i := 26) rfl))) (notFace_of_selects (args := #[]) (mvT hZ (hw _ (List.mem_of_getElem? (i := 28) rfl)))) (mvT hZ (hw _ (List.mem_of_getElem? (i := 28) rfl))) (mvT hZ (hw _ (List.mem_of_getElem? (i := 27) rfl))) (by decide) (backOf (W := 0) (rm_un l Z a0 hw [] s1_ (fi + bo) (se + bo) bo T122.heap n0 Z128 f123 ge_s1_ f124 f125 f126) hZ (hw _ (List.mem_of_getElem? (i := 29) rfl)) (hw _ (List.mem_of_getElem? (i := 3) rfl)) (by decide) (by decide)) q129a q129c (g := (mkF m 91 #[iv p0, iv p1, iv p2, iv fi, iv se, iv bo, iv (fi + bo), iv (se + bo), iv ((fi + se) + bo), rv s1_, rv s2_] [(.ref s1_)])) rfl (by rw [hml]; rfl) (Steps.refl _) (argsL := []) (rest := []) (lenOf pd_3 rfl) rfl (by show 2 * 0 + _ ≤ _; exact Nat.le_of_eq rfl) (hb hby at_91) (fun _ _ => ⟨rfl, rfl, (by decide : 2 + 0 ≤ _), (by decide : 6 + 0 ≤ _)⟩)
  dsimp only [Pt.U, Pt.locs, Pt.cells, Pt.slots] at X129 l129 y129 z129 st129 hQ129
  subst l129 y129 z129
  obtain ⟨rfl, N129q, eUs1_⟩ := hQ129
  have N129 := Fr.app N122 N129q
  obtain ⟨cq130, kq130, q130a, q130b, q130c⟩ := isOf hZ eUs1_ f127
  obtain ⟨_, _, ⟨T130, L130, k130, n130⟩, -, X130, ⟨Lc130, hQ130, l130, y130, z130⟩, st130⟩ := X129.virtualBack hx (y := (⟨"com/example/gradus/gradus/expansion/Similarity", "union", "()I"⟩ : MethodName)) (z := (⟨"com/example/gradus/gradus/expansion/Similarity", "union", "()I"⟩ : MethodName)) hown (mvT hZ (hw _ (List.mem_of_getElem? (i := 25) rfl))) (mvT hZ (hw _ (List.mem_of_getElem? (i := 26) rfl))) (notFace_of_selects (args := #[]) (mvT hZ (hw _ (List.mem_of_getElem? (i := 28) rfl)))) (mvT hZ (hw _ (List.mem_of_getElem? (i := 28) rfl))) (mvT hZ (hw _ (List.mem_of_getElem? (i := 27) rfl))) (by decide) (backOf (W := 0) (rm_un l Z a0 hw [] s2_ (se + bo) (fi + bo) bo T122.heap n0 Z128 f127 ge_s2_ FfirstSize_s2_ FsecondSize_s2_ Fshared_s2_) hZ (hw _ (List.mem_of_getElem? (i := 29) rfl)) (hw _ (List.mem_of_getElem? (i := 3) rfl)) (by decide) (by decide)) q130a q130c (g := (mkF m 101 #[iv p0, iv p1, iv p2, iv fi, iv se, iv bo, iv (fi + bo), iv (se + bo), iv ((fi + se) + bo), rv s1_, rv s2_] [(.ref s2_)])) rfl (by rw [hml]; rfl) (Steps.refl _) (argsL := []) (rest := []) (lenOf pd_3 rfl) rfl (by show 2 * 0 + _ ≤ _; exact Nat.le_of_eq rfl) (hb hby at_101) (fun _ _ => ⟨rfl, eUs1_, (by decide : 2 + 0 ≤ _), (by decide : 6 + 0 ≤ _)⟩)
  dsimp only [Pt.U, Pt.locs, Pt.cells, Pt.slots] at X130 l130 y130 z130 st130 hQ130
  subst l130 y130 z130
  obtain ⟨rfl, N130q, eUs2_⟩ := hQ130
  have N130 := Fr.app N129 N130q
  have go131 : ∀ t, Steps p.tables e below (T130.setTop (mkF m 114 #[iv p0, iv p1, iv p2, iv fi, iv se, iv bo, iv (fi + bo), iv (se + bo), iv ((fi + se) + bo), rv s1_, rv s2_] [(.int 1)])) t → Steps p.tables e below O t := fun t k => go107 t (by
    refine XS.iloadN X0.here hx rfl (hb hby at_37) rfl ?_
    show Steps _ _ _ (s₁.setTop (mkF m 38 _ [(.int fi)])) _
    refine XS.iload X0.here hx rfl (hb hby at_38) rfl ?_
    show Steps _ _ _ (s₁.setTop (mkF m 40 _ [(.int bo), (.int fi)])) _
    refine XS.iadd X0.here hx rfl (hb hby at_40) rfl ?_
    show Steps _ _ _ (s₁.setTop (mkF m 41 _ [(.int (fi + bo))])) _
    refine XS.istore X0.here hx rfl (hb hby at_41) rfl (l' := #[iv p0, iv p1, iv p2, iv fi, iv se, iv bo, iv (fi + bo), .unset, .unset, .unset, .unset]) rfl ?_
    show Steps _ _ _ (s₁.setTop (mkF m 43 _ [])) _
    refine XS.iload X0.here hx rfl (hb hby at_43) rfl ?_
    show Steps _ _ _ (s₁.setTop (mkF m 45 _ [(.int se)])) _
    refine XS.iload X0.here hx rfl (hb hby at_45) rfl ?_
    show Steps _ _ _ (s₁.setTop (mkF m 47 _ [(.int bo), (.int se)])) _
    refine XS.iadd X0.here hx rfl (hb hby at_47) rfl ?_
    show Steps _ _ _ (s₁.setTop (mkF m 48 _ [(.int (se + bo))])) _
    refine XS.istore X0.here hx rfl (hb hby at_48) rfl (l' := #[iv p0, iv p1, iv p2, iv fi, iv se, iv bo, iv (fi + bo), iv (se + bo), .unset, .unset, .unset]) rfl ?_
    show Steps _ _ _ (s₁.setTop (mkF m 50 _ [])) _
    refine XS.iloadN X0.here hx rfl (hb hby at_50) rfl ?_
    show Steps _ _ _ (s₁.setTop (mkF m 51 _ [(.int fi)])) _
    refine XS.iload X0.here hx rfl (hb hby at_51) rfl ?_
    show Steps _ _ _ (s₁.setTop (mkF m 53 _ [(.int se), (.int fi)])) _
    refine XS.iadd X0.here hx rfl (hb hby at_53) rfl ?_
    show Steps _ _ _ (s₁.setTop (mkF m 54 _ [(.int (fi + se))])) _
    refine XS.iload X0.here hx rfl (hb hby at_54) rfl ?_
    show Steps _ _ _ (s₁.setTop (mkF m 56 _ [(.int bo), (.int (fi + se))])) _
    refine XS.iadd X0.here hx rfl (hb hby at_56) rfl ?_
    show Steps _ _ _ (s₁.setTop (mkF m 57 _ [(.int ((fi + se) + bo))])) _
    refine XS.istore X0.here hx rfl (hb hby at_57) rfl (l' := #[iv p0, iv p1, iv p2, iv fi, iv se, iv bo, iv (fi + bo), iv (se + bo), iv ((fi + se) + bo), .unset, .unset]) rfl ?_
    show Steps _ _ _ (s₁.setTop (mkF m 59 _ [])) _
    refine st110 _ ?_
    show Steps _ _ _ (T110.setTop (mkF m 62 _ [(.ref s1_)])) _
    refine XS.dup X110.here hx rfl (hb hby at_62) rfl rfl ?_
    show Steps _ _ _ (T110.setTop (mkF m 63 _ [(.ref s1_), (.ref s1_)])) _
    refine XS.iload X110.here hx rfl (hb hby at_63) rfl ?_
    show Steps _ _ _ (T110.setTop (mkF m 65 _ [(.int (fi + bo)), (.ref s1_), (.ref s1_)])) _
    refine XS.iload X110.here hx rfl (hb hby at_65) rfl ?_
    show Steps _ _ _ (T110.setTop (mkF m 67 _ [(.int (se + bo)), (.int (fi + bo)), (.ref s1_), (.ref s1_)])) _
    refine XS.iload X110.here hx rfl (hb hby at_67) rfl ?_
    show Steps _ _ _ (T110.setTop (mkF m 69 _ [(.int bo), (.int (se + bo)), (.int (fi + bo)), (.ref s1_), (.ref s1_)])) _
    refine st112.trans ?_
    show Steps _ _ _ (T112.setTop (mkF m 72 _ [(.ref s1_)])) _
    refine XS.astore X112.here hx rfl (hb hby at_72) rfl rfl (l' := #[iv p0, iv p1, iv p2, iv fi, iv se, iv bo, iv (fi + bo), iv (se + bo), iv ((fi + se) + bo), rv s1_, .unset]) rfl ?_
    show Steps _ _ _ (T112.setTop (mkF m 74 _ [])) _
    refine st115 _ ?_
    show Steps _ _ _ (T115.setTop (mkF m 77 _ [(.ref s2_)])) _
    refine XS.dup X115.here hx rfl (hb hby at_77) rfl rfl ?_
    show Steps _ _ _ (T115.setTop (mkF m 78 _ [(.ref s2_), (.ref s2_)])) _
    refine XS.iload X115.here hx rfl (hb hby at_78) rfl ?_
    show Steps _ _ _ (T115.setTop (mkF m 80 _ [(.int (se + bo)), (.ref s2_), (.ref s2_)])) _
    refine XS.iload X115.here hx rfl (hb hby at_80) rfl ?_
    show Steps _ _ _ (T115.setTop (mkF m 82 _ [(.int (fi + bo)), (.int (se + bo)), (.ref s2_), (.ref s2_)])) _
    refine XS.iload X115.here hx rfl (hb hby at_82) rfl ?_
    show Steps _ _ _ (T115.setTop (mkF m 84 _ [(.int bo), (.int (fi + bo)), (.int (se + bo)), (.ref s2_), (.ref s2_)])) _
    refine st122.trans ?_
    show Steps _ _ _ (T122.setTop (mkF m 87 _ [(.ref s2_)])) _
    refine XS.astore X122.here hx rfl (hb hby at_87) rfl rfl (l' := #[iv p0, iv p1, iv p2, iv fi, iv se, iv bo, iv (fi + bo), iv (se + bo), iv ((fi + se) + bo), rv s1_, rv s2_]) rfl ?_
    show Steps _ _ _ (T122.setTop (mkF m 89 _ [])) _
    refine XS.aload X122.here hx rfl (hb hby at_89) rfl rfl ?_
    show Steps _ _ _ (T122.setTop (mkF m 91 _ [(.ref s1_)])) _
    refine st129.trans ?_
    show Steps _ _ _ (T129.setTop (mkF m 94 _ [(.int (((fi + bo) + (se + bo)) - bo))])) _
    refine XS.iload X129.here hx rfl (hb hby at_94) rfl ?_
    show Steps _ _ _ (T129.setTop (mkF m 96 _ [(.int ((fi + se) + bo)), (.int (((fi + bo) + (se + bo)) - bo))])) _
    refine XS.icmpNo X129.here hx rfl (hb hby at_96) rfl (teq (own_sum fi se bo : (((fi + bo) + (se + bo)) - bo) = ((fi + se) + bo))).2 ?_
    show Steps _ _ _ (T129.setTop (mkF m 99 _ [])) _
    refine XS.aload X129.here hx rfl (hb hby at_99) rfl rfl ?_
    show Steps _ _ _ (T129.setTop (mkF m 101 _ [(.ref s2_)])) _
    refine st130.trans ?_
    show Steps _ _ _ (T130.setTop (mkF m 104 _ [(.int (((se + bo) + (fi + bo)) - bo))])) _
    refine XS.iload X130.here hx rfl (hb hby at_104) rfl ?_
    show Steps _ _ _ (T130.setTop (mkF m 106 _ [(.int ((fi + se) + bo)), (.int (((se + bo) + (fi + bo)) - bo))])) _
    refine XS.icmpNo X130.here hx rfl (hb hby at_106) rfl (teq (own_sum' fi se bo : (((se + bo) + (fi + bo)) - bo) = ((fi + se) + bo))).2 ?_
    show Steps _ _ _ (T130.setTop (mkF m 109 _ [])) _
    refine XS.iconst X130.here hx rfl (hb hby at_109) ?_
    show Steps _ _ _ (T130.setTop (mkF m 110 _ [(.int 1)])) _
    refine XS.goto X130.here hx rfl (pc0 := 110) (pc' := 114) rfl (hb hby at_110) (by decide) (by decide) ?_
    show Steps _ _ _ (T130.setTop (mkF m 114 _ [(.int 1)])) _
    exact k)
  subst hO
  obtain ⟨fs, hr, hrun, hended, hW, hsame⟩ := X130.leave (v := some (.int 1)) (fun h => by rw [Bd.returns] at h; cases h)
  refine ⟨_, _, go131 _ ?_, hrun, hended, _, _, rfl, ?_, ⟨_, rfl⟩, hW, hsame.mono (by decide) (by decide)⟩
  · exact retN X130 hx (t := .boolean) Bd.returns (by simp) (hb hby at_114) hr
  · show Q_law Z p0 p1 p2 h0 n0 _ T130.heap _
    rw [eUs2_]
    exact ⟨rfl, N130⟩
set_option maxRecDepth 65536 in
set_option maxHeartbeats 40000000 in
theorem comes_1 {Post : Tables → Env → Array Value → State → Outcome → State → Prop} (hpost : ∀ tb e args s v u, (limb_1_1.after args s (.returned v) u = true ∧ limb_1_2.after args s (.returned v) u = true ∧ True) → FrameEnd s (.returned v) u (Jvm.fieldLocs frame_1_writes args s ++ Jvm.arrayLocs frame_1_arrays args s ++ Jvm.staticLocs frame_1_statics s) 16 128 → Post tb e args s (.returned v) u) :
    ArmFor flags0 classFile x code maxLocals ret World_1 tables_1 room_1 Calls_1 rest_1 Pre_1 Post := by
  intro l hfl _ _ p e ha hc hk s m args below hf hA hF happ hP
  obtain ⟨hcalls, hrest, hpre⟩ := hP
  obtain ⟨-, -, -, hnamed, -, -, -, hat⟩ := (Spec.applies_iff hf).mp happ
  obtain ⟨hg, hn⟩ := and_e (Cond.before_iff.mp (show (Jvm.Cond.and given_1 narrow_1).before args s = true from hpre))
  obtain ⟨hcnt, r0⟩ := and_e hg
  obtain ⟨c0, r1⟩ := and_e r0
  obtain ⟨c1, r2⟩ := and_e r1
  obtain ⟨w0, w1, w2, rfl⟩ : ∃ w0 w1 w2 : Value, args = #[w0, w1, w2] := by
    have hs : args.size = 3 := by simpa [Cond.value, given_1] using hcnt
    obtain ⟨L⟩ := args
    match L, hs with
    | [w0, w1, w2], _ => exact ⟨w0, w1, w2, rfl⟩
  have hw := fun d (hd : d ∈ tables_1) => atoms_spec (ws := Jvm.Cond.code x code maxLocals ret :: tables_1) hat d (List.mem_cons_of_mem _ hd)
  obtain ⟨i0, ei0⟩ := is_v c0
  obtain rfl : w0 = (.int i0) := Option.some.inj ei0
  obtain ⟨i1, ei1⟩ := is_v c1
  obtain rfl : w1 = (.int i1) := Option.some.inj ei1
  obtain ⟨i2, ei2⟩ := is_v r2
  obtain rfl : w2 = (.int i2) := Option.some.inj ei2
  obtain ⟨n, o, h1, h2, h3, _, L, rfl, ⟨rfl, N⟩, hq⟩ := rm_law l s _ hw tables_1 i0 i1 i2 s.heap s.heap.size (Nat.le_refl _) p e ha hc hk s m _ below hf ((Spec.applies_iff_loose hf).mp happ).1 ⟨rfl, State.Warmed39.refl s, rfl⟩ trivial
  refine ⟨n, _, h1, h2, h3, hpost _ _ _ _ _ _ ⟨Cond.after_iff.mpr rfl, Cond.after_iff.mpr (eq_i res_at (Term.int_eval (1)) rfl), trivial⟩ ⟨hq.1, hq.2.1, (hq.2.2.sift fun y hy => Or.inr (N y hy)).mono (by decide) (by decide)⟩⟩
theorem main_1_1 : Claimed_1_1 := comes_1 fun _ _ _ _ _ _ h hF => ⟨h.1, hF⟩
theorem main_1_2 : Claimed_1_2 := comes_1 fun _ _ _ _ _ _ h hF => ⟨h.2.1, hF⟩
end Jvm.Pilot.@@N@@
namespace Jvm.Pilot.@@N@@
open Jvm Jvm.ClassFile Sem Op Lib Jvm.Free Jvm.Stand Jvm.Pilot.@@N@@.Jvm.D
/-! MADE BY PROGRAM (witnessworld.py) out of the Statement's table words and the real class files: 11 classes; the members and pool entries that the words name. The judged class is class 1, her method 1. -/
namespace start1
open Jvm.ClassFile
def u (s : String) : CpInfo := .utf8 (stringToUtf16 s)
/-- a pool by its gaps: so many unusable entries, then the entry; so many at the end -/
def gap : Nat → List CpInfo → List CpInfo
  | 0, r => r
  | n + 1, r => .unusable :: gap n r
def poolList (es : List (Nat × CpInfo)) (last : Nat) : List CpInfo := es.foldr (fun e r => gap e.1 (e.2 :: r)) (gap last [])
def pool (es : List (Nat × CpInfo)) (last : Nat) : Array CpInfo := ⟨poolList es last⟩
def fileOf (pool : Array CpInfo) (this : Nat) (attrs : Array Attribute := #[]) (ms : Array MethodInfo := #[]) (fl : Nat := 33) (sup : Nat := 0) (ifs : Array Nat := #[]) (fds : Array FieldInfo := #[]) : ClassFile where
  minorVersion := 0
  majorVersion := 65
  constantPool := pool
  accessFlags := fl
  thisClass := this
  superClass := sup
  interfaces := ifs
  fields := fds
  methods := ms
  attributes := attrs
def plain (name : String) (sup : Option ClassId) : Class where
  name := name
  kind := .ordinary
  loader := none
  accessFlags := 33
  super := sup
  interfaces := #[]
  cf := none
  fields := #[]
  methods := #[]
  instanceTypes := #[]
  staticTypes := #[]
  resolved := #[]
  callSites := []
  init := .initialized
  statics := none
  mirror := none

def pool0 : Array CpInfo := pool [(5, u "<init>"), (0, u "()V"), (1, .class_ 10), (1, u "java/lang/Object")] 113

def k0c0 : Code := { maxStack := 0, maxLocals := 1, code := object_method_1_code, exceptionTable := #[], attributes := #[] }
def k0m0 : Method := { name := "<init>", desc := "()V", sig := { parameters := [], returnType := none }, accessFlags := 1, code := some k0c0 }
/-- java/lang/Object -/
def k0 : Class := { plain "java/lang/Object" none with
  accessFlags := 33
  interfaces := #[]
  cf := some (fileOf pool0 8 #[] #[{ accessFlags := 1, nameIndex := 5, descriptorIndex := 6, attributes := #[] }] 33 0 #[] #[])
  fields := #[]
  methods := #[k0m0]
  instanceTypes := #[]
  staticTypes := #[]
  resolved := Array.replicate 124 none
  statics := none }

def pool1 : Array CpInfo := pool [(2, .class_ 4), (1, u "java/lang/Object"), (0, u "<init>"), (0, u "()V"), (0, .integer 536870911), (0, .class_ 9), (0, u "com/example/gradus/gradus/expansion/Similarity"), (0, .methodref 8 11), (0, .nameAndType 5 12), (0, u "(III)V"), (0, .methodref 8 14), (0, .nameAndType 15 16), (0, u "union"), (0, u "()I"), (0, .class_ 18), (0, u "com/example/gradus/gradus/expansion/SimilarityUnionPinLaw"), (2, u "law"), (0, u "(III)Z")] 3

def k1m0 : Method := { name := "<init>", desc := "()V", sig := { parameters := [], returnType := none }, accessFlags := 1, code := none }
def k1c1 : Code := { maxStack := 5, maxLocals := 11, code := code, exceptionTable := #[], attributes := #[] }
def k1m1 : Method := { name := "law", desc := "(III)Z", sig := { parameters := [.int, .int, .int], returnType := some .boolean }, accessFlags := 9, code := some k1c1 }
/-- com/example/gradus/gradus/expansion/SimilarityUnionPinLaw -/
def k1 : Class := { plain "com/example/gradus/gradus/expansion/SimilarityUnionPinLaw" (some 0) with
  accessFlags := 49
  interfaces := #[]
  cf := some (fileOf pool1 17 #[] #[{ accessFlags := 1, nameIndex := 5, descriptorIndex := 6, attributes := #[] }, { accessFlags := 9, nameIndex := 21, descriptorIndex := 22, attributes := #[] }] 49 2 #[] #[])
  fields := #[]
  methods := #[k1m0, k1m1]
  instanceTypes := #[]
  staticTypes := #[]
  resolved := Array.replicate 26 none
  statics := none }

def pool2 : Array CpInfo := pool [(1, .methodref 2 3), (0, .class_ 4), (0, .nameAndType 5 6), (0, u "java/lang/Object"), (0, u "<init>"), (0, u "()V"), (0, .class_ 8), (0, u "java/lang/Record")] 13

def k2c0 : Code := { maxStack := 1, maxLocals := 1, code := jdk_30_method_1_code, exceptionTable := #[], attributes := #[] }
def k2m0 : Method := { name := "<init>", desc := "()V", sig := { parameters := [], returnType := none }, accessFlags := 4, code := some k2c0 }
/-- java/lang/Record -/
def k2 : Class := { plain "java/lang/Record" (some 0) with
  accessFlags := 1057
  interfaces := #[]
  cf := some (fileOf pool2 7 #[] #[{ accessFlags := 4, nameIndex := 5, descriptorIndex := 6, attributes := #[] }] 1057 2 #[] #[])
  fields := #[]
  methods := #[k2m0]
  instanceTypes := #[]
  staticTypes := #[]
  resolved := Array.replicate 22 none
  statics := none }

def pool3 : Array CpInfo := pool [(1, .methodref 2 3), (0, .class_ 4), (0, .nameAndType 5 6), (0, u "java/lang/Record"), (0, u "<init>"), (0, u "()V"), (0, .methodref 8 9), (0, .class_ 10), (0, .nameAndType 11 12), (0, u "java/lang/Math"), (0, u "min"), (0, u "(II)I"), (9, .fieldref 23 24), (0, .class_ 25), (0, .nameAndType 26 27), (0, u "com/example/gradus/gradus/expansion/Similarity"), (0, u "firstSize"), (0, u "I"), (0, .fieldref 23 29), (0, .nameAndType 30 27), (0, u "secondSize"), (0, .fieldref 23 32), (0, .nameAndType 33 27), (0, u "shared"), (25, u "()I"), (2, u "(III)V"), (2, u "union"), (14, u "REFERENCE"), (0, u "Lcom/example/gradus/gradus/expansion/Similarity;"), (24, u "HUNDRED"), (0, u "Lcom/example/gradus/gradus/score/Fraction;")] 67

def k3c0 : Code := { maxStack := 5, maxLocals := 4, code := prog_24_method_1_code, exceptionTable := #[], attributes := #[] }
def k3m0 : Method := { name := "<init>", desc := "(III)V", sig := { parameters := [.int, .int, .int], returnType := none }, accessFlags := 1, code := some k3c0 }
def k3c1 : Code := { maxStack := 2, maxLocals := 1, code := prog_24_method_3_code, exceptionTable := #[], attributes := #[] }
def k3m1 : Method := { name := "union", desc := "()I", sig := { parameters := [], returnType := some .int }, accessFlags := 1, code := some k3c1 }
/-- com/example/gradus/gradus/expansion/Similarity -/
def k3 : Class := { plain "com/example/gradus/gradus/expansion/Similarity" (some 2) with
  accessFlags := 49
  interfaces := #[]
  cf := some (fileOf pool3 23 #[] #[{ accessFlags := 1, nameIndex := 5, descriptorIndex := 62, attributes := #[] }, { accessFlags := 1, nameIndex := 65, descriptorIndex := 59, attributes := #[] }] 49 2 #[] #[{ accessFlags := 18, nameIndex := 26, descriptorIndex := 27, attributes := #[] }, { accessFlags := 18, nameIndex := 30, descriptorIndex := 27, attributes := #[] }, { accessFlags := 18, nameIndex := 33, descriptorIndex := 27, attributes := #[] }, { accessFlags := 25, nameIndex := 80, descriptorIndex := 81, attributes := #[] }, { accessFlags := 26, nameIndex := 106, descriptorIndex := 107, attributes := #[] }])
  fields := #[{ name := "firstSize", type := .int, accessFlags := 18, slot := 0, constantValue := 0 }, { name := "secondSize", type := .int, accessFlags := 18, slot := 1, constantValue := 0 }, { name := "shared", type := .int, accessFlags := 18, slot := 2, constantValue := 0 }, { name := "REFERENCE", type := (.object "com/example/gradus/gradus/expansion/Similarity"), accessFlags := 25, slot := 0, constantValue := 0 }, { name := "HUNDRED", type := (.object "com/example/gradus/gradus/score/Fraction"), accessFlags := 26, slot := 1, constantValue := 0 }]
  methods := #[k3m0, k3m1]
  instanceTypes := #[.int, .int, .int]
  staticTypes := #[(.object "com/example/gradus/gradus/expansion/Similarity"), (.object "com/example/gradus/gradus/score/Fraction")]
  resolved := Array.replicate 175 none
  statics := none }

def pool4 : Array CpInfo := pool [(1, .class_ 2), (0, u "java/lang/Math"), (1, .class_ 6), (1, u "java/lang/Object"), (0, u "<init>"), (0, u "()V"), (89, .class_ 100), (1, u "java/lang/Math$RandomNumberGeneratorHolder"), (71, u "negativeZeroFloatBits"), (0, u "J"), (2, u "negativeZeroDoubleBits"), (24, u "min"), (43, u "$assertionsDisabled"), (0, u "Z"), (88, u "(II)I"), (2, u "twoToTheDoubleScaleDown"), (0, u "D"), (4, u "twoToTheDoubleScaleUp"), (9, u "E"), (3, u "PI"), (2, u "TAU"), (2, u "DEGREES_TO_RADIANS"), (0, u "RADIANS_TO_DEGREES")] 94

def k4m0 : Method := { name := "<init>", desc := "()V", sig := { parameters := [], returnType := none }, accessFlags := 2, code := none }
def k4c1 : Code := { maxStack := 2, maxLocals := 2, code := jdk_29_method_69_code, exceptionTable := #[], attributes := #[] }
def k4m1 : Method := { name := "min", desc := "(II)I", sig := { parameters := [.int, .int], returnType := some .int }, accessFlags := 9, code := some k4c1 }
/-- java/lang/Math -/
def k4 : Class := { plain "java/lang/Math" (some 0) with
  accessFlags := 49
  interfaces := #[]
  cf := some (fileOf pool4 1 #[.nestMembers #[98]] #[{ accessFlags := 2, nameIndex := 7, descriptorIndex := 8, attributes := #[] }, { accessFlags := 9, nameIndex := 201, descriptorIndex := 335, attributes := #[] }] 49 4 #[] #[{ accessFlags := 25, nameIndex := 354, descriptorIndex := 339, attributes := #[] }, { accessFlags := 25, nameIndex := 358, descriptorIndex := 339, attributes := #[] }, { accessFlags := 25, nameIndex := 361, descriptorIndex := 339, attributes := #[] }, { accessFlags := 26, nameIndex := 364, descriptorIndex := 339, attributes := #[] }, { accessFlags := 26, nameIndex := 365, descriptorIndex := 339, attributes := #[] }, { accessFlags := 26, nameIndex := 172, descriptorIndex := 173, attributes := #[] }, { accessFlags := 26, nameIndex := 176, descriptorIndex := 173, attributes := #[] }, { accessFlags := 8, nameIndex := 344, descriptorIndex := 339, attributes := #[] }, { accessFlags := 8, nameIndex := 338, descriptorIndex := 339, attributes := #[] }, { accessFlags := 4120, nameIndex := 245, descriptorIndex := 246, attributes := #[] }])
  fields := #[{ name := "E", type := .double, accessFlags := 25, slot := 0, constantValue := 0 }, { name := "PI", type := .double, accessFlags := 25, slot := 1, constantValue := 0 }, { name := "TAU", type := .double, accessFlags := 25, slot := 2, constantValue := 0 }, { name := "DEGREES_TO_RADIANS", type := .double, accessFlags := 26, slot := 3, constantValue := 0 }, { name := "RADIANS_TO_DEGREES", type := .double, accessFlags := 26, slot := 4, constantValue := 0 }, { name := "negativeZeroFloatBits", type := .long, accessFlags := 26, slot := 5, constantValue := 0 }, { name := "negativeZeroDoubleBits", type := .long, accessFlags := 26, slot := 6, constantValue := 0 }, { name := "twoToTheDoubleScaleUp", type := .double, accessFlags := 8, slot := 7, constantValue := 0 }, { name := "twoToTheDoubleScaleDown", type := .double, accessFlags := 8, slot := 8, constantValue := 0 }, { name := "$assertionsDisabled", type := .boolean, accessFlags := 4120, slot := 9, constantValue := 0 }]
  methods := #[k4m0, k4m1]
  instanceTypes := #[]
  staticTypes := #[.double, .double, .double, .double, .double, .long, .long, .double, .double, .boolean]
  resolved := Array.replicate 460 none
  statics := none }

def pool5 : Array CpInfo := pool [(1, u "java/lang/Cloneable"), (0, .class_ 1), (0, u "java/lang/Object"), (0, .class_ 3)] 3

/-- java/lang/Cloneable -/
def k5 : Class := { plain "java/lang/Cloneable" (some 0) with
  accessFlags := 1537
  interfaces := #[]
  cf := some (fileOf pool5 2 #[] #[] 1537 4 #[] #[])
  fields := #[]
  methods := #[]
  instanceTypes := #[]
  staticTypes := #[]
  resolved := Array.replicate 8 none
  statics := none }

def pool6 : Array CpInfo := pool [(1, u "java/io/Serializable"), (0, .class_ 1), (0, u "java/lang/Object"), (0, .class_ 3)] 3

/-- java/io/Serializable -/
def k6 : Class := { plain "java/io/Serializable" (some 0) with
  accessFlags := 1537
  interfaces := #[]
  cf := some (fileOf pool6 2 #[] #[] 1537 4 #[] #[])
  fields := #[]
  methods := #[]
  instanceTypes := #[]
  staticTypes := #[]
  resolved := Array.replicate 8 none
  statics := none }

/-- the primitive byte -/
def k7 : Class := { plain "byte" none with kind := .primitive 'B', accessFlags := 0x411 }
/-- [B -/
def k8 : Class := { plain "[B" (some 0) with kind := .array 7 .byte, interfaces := #[5, 6], accessFlags := 1041 }

/-- the primitive int -/
def k9 : Class := { plain "int" none with kind := .primitive 'I', accessFlags := 0x411 }
/-- [I -/
def k10 : Class := { plain "[I" (some 0) with kind := .array 9 .int, interfaces := #[5, 6], accessFlags := 1041 }

def heap : Heap := #[]
def classes : Array Class := #[k0, k1, k2, k3, k4, k5, k6, k7, k8, k9, k10]
def interned : List (Array UInt16 × Addr) := []
def slotsUsed : Nat := 0
def theMethod : MethodId := ⟨1, 1⟩
def args0 : Array Value := #[.int 5, .int 3, .int 7]
def aboutOver (below : List Frame) : State where
  vm := { classes := classes, interned := interned.toArray }
  heap := heap
  slotsUsed := slotsUsed
  threads := #[{ frames := .invoking theMethod args0 :: below }]
def below0 : List Frame := [.native { method := ⟨0, 0⟩, args := #[] }]
def about1 : State := aboutOver below0
def p0 : Program := .bare "" "" ""
def e0 : Env := launch0.env 0 0 0
theorem w_frames : about1.frames = Frame.invoking theMethod args0 :: below0 := rfl
set_option maxRecDepth 65536 in
theorem w_args : argsFit about1.vm theMethod args0 = true := by decide +kernel
set_option maxRecDepth 65536 in
theorem w_heap : heapFits about1 = true := by decide +kernel
set_option maxRecDepth 65536 in
theorem w_runnable : about1.curStatus? = some .runnable := by decide +kernel
set_option maxRecDepth 65536 in
theorem w_alone : about1.alone = true := by decide +kernel
set_option maxRecDepth 65536 in
theorem w_named : about1.methodNamed? x = some theMethod := by decide +kernel
set_option maxRecDepth 65536 in
theorem w_hears : about1.hears theMethod below0 = true := by decide +kernel
set_option maxRecDepth 65536 in
theorem w_ripe : about1.ripe theMethod args0 below0 = true := by decide +kernel
theorem w_running : about1.status = .running := rfl
set_option maxRecDepth 65536 in
theorem w_room : about1.hasRoom e0.platform room_1 = true :=
  launch0.hasRoom_least _ room_1 (by decide +kernel) (by decide +kernel) (by decide +kernel) (by decide +kernel) (by decide +kernel) (by decide +kernel)
theorem allAtoms_all (ts : List Jvm.Cond) (a : Array Jvm.Value) (st : Jvm.State) : (allAtoms ts).before a st = ts.all (fun c => c.before a st) := by
  induction ts with
  | nil => rfl
  | cons c t ih =>
    show (Jvm.Cond.and c (allAtoms t)).before a st = _
    rw [Jvm.Cond.before_and, ih, List.all_cons]
def words1 : List Jvm.Cond := Jvm.Cond.code x code maxLocals ret :: tables_1
/-- a 'code' word, met by the world's own term for the bytes: nothing is compared byte by byte -/
theorem code_word {y : MethodName} {bytes : ByteArray} {mx : Nat} {rt : Option FieldType} {a : Array Value} {s : State} {m : MethodId} {meth : Method} {c : Code} (h1 : s.methodNamed? y = some m) (h2 : s.vm.method? m = some meth) (h3 : meth.code = some c) (h4 : c.code = bytes)
    (h5 : (c.maxLocals == mx && c.exceptionTable.isEmpty && decide (c.maxStack ≤ mostOperands) && decide (meth.sig.returnType = rt) && !meth.locks && decide (parseMethodDescriptor y.desc = some meth.sig)) = true) : (Jvm.Cond.code y bytes mx rt).before a s = true := by
  simp only [Bool.and_eq_true, beq_iff_eq, Bool.not_eq_true', decide_eq_true_eq] at h5
  obtain ⟨⟨⟨⟨⟨g1, g2⟩, g3⟩, g4⟩, g5⟩, g6⟩ := h5
  simp [Cond.before, Cond.holds, Cond.value, h1, h2, h3, h4, g1, g2, g3, g4, g5, g6]
def isCode : Jvm.Cond → Bool
  | .code _ _ _ _ => true
  | _ => false
theorem all_split {L : List Jvm.Cond} {P : Jvm.Cond → Bool} (h1 : L.all (fun c => isCode c || P c) = true) (h2 : ∀ c ∈ L.filter isCode, P c = true) : L.all P = true := by
  refine List.all_eq_true.mpr fun c hc => ?_
  have h := List.all_eq_true.mp h1 c hc
  rcases Bool.eq_false_or_eq_true (isCode c) with hi | hi
  · exact h2 c (List.mem_filter.mpr ⟨hc, hi⟩)
  · simpa [hi] using h
set_option maxRecDepth 65536 in
theorem w_c0 : (Jvm.Cond.code x code maxLocals ret).before args0 about1 = true := code_word (m := ⟨1, 1⟩) (meth := k1m1) (c := k1c1) (by decide +kernel) rfl rfl rfl (by decide +kernel)
set_option maxRecDepth 65536 in
theorem w_c1 : (Jvm.Cond.code ({ cls := "com/example/gradus/gradus/expansion/Similarity", name := "<init>", desc := "(III)V" } : Jvm.MethodName) prog_24_method_1_code (4 : Nat) (Option.none : Option Jvm.ClassFile.FieldType)).before args0 about1 = true := code_word (m := ⟨3, 0⟩) (meth := k3m0) (c := k3c0) (by decide +kernel) rfl rfl rfl (by decide +kernel)
set_option maxRecDepth 65536 in
theorem w_c2 : (Jvm.Cond.code ({ cls := "java/lang/Record", name := "<init>", desc := "()V" } : Jvm.MethodName) jdk_30_method_1_code (1 : Nat) (Option.none : Option Jvm.ClassFile.FieldType)).before args0 about1 = true := code_word (m := ⟨2, 0⟩) (meth := k2m0) (c := k2c0) (by decide +kernel) rfl rfl rfl (by decide +kernel)
set_option maxRecDepth 65536 in
theorem w_c3 : (Jvm.Cond.code ({ cls := "java/lang/Object", name := "<init>", desc := "()V" } : Jvm.MethodName) object_method_1_code (1 : Nat) (Option.none : Option Jvm.ClassFile.FieldType)).before args0 about1 = true := code_word (m := ⟨0, 0⟩) (meth := k0m0) (c := k0c0) (by decide +kernel) rfl rfl rfl (by decide +kernel)
set_option maxRecDepth 65536 in
theorem w_c4 : (Jvm.Cond.code ({ cls := "java/lang/Math", name := "min", desc := "(II)I" } : Jvm.MethodName) jdk_29_method_69_code (2 : Nat) (Option.some Jvm.ClassFile.FieldType.int)).before args0 about1 = true := code_word (m := ⟨4, 1⟩) (meth := k4m1) (c := k4c1) (by decide +kernel) rfl rfl rfl (by decide +kernel)
set_option maxRecDepth 65536 in
theorem w_c5 : (Jvm.Cond.code ({ cls := "com/example/gradus/gradus/expansion/Similarity", name := "union", desc := "()I" } : Jvm.MethodName) prog_24_method_3_code (1 : Nat) (Option.some Jvm.ClassFile.FieldType.int)).before args0 about1 = true := code_word (m := ⟨3, 1⟩) (meth := k3m1) (c := k3c1) (by decide +kernel) rfl rfl rfl (by decide +kernel)
def codes1 : List Jvm.Cond := [Jvm.Cond.code x code maxLocals ret, Jvm.Cond.code ({ cls := "com/example/gradus/gradus/expansion/Similarity", name := "<init>", desc := "(III)V" } : Jvm.MethodName) prog_24_method_1_code (4 : Nat) (Option.none : Option Jvm.ClassFile.FieldType), Jvm.Cond.code ({ cls := "java/lang/Record", name := "<init>", desc := "()V" } : Jvm.MethodName) jdk_30_method_1_code (1 : Nat) (Option.none : Option Jvm.ClassFile.FieldType), Jvm.Cond.code ({ cls := "java/lang/Object", name := "<init>", desc := "()V" } : Jvm.MethodName) object_method_1_code (1 : Nat) (Option.none : Option Jvm.ClassFile.FieldType), Jvm.Cond.code ({ cls := "java/lang/Math", name := "min", desc := "(II)I" } : Jvm.MethodName) jdk_29_method_69_code (2 : Nat) (Option.some Jvm.ClassFile.FieldType.int), Jvm.Cond.code ({ cls := "com/example/gradus/gradus/expansion/Similarity", name := "union", desc := "()I" } : Jvm.MethodName) prog_24_method_3_code (1 : Nat) (Option.some Jvm.ClassFile.FieldType.int)]
set_option maxRecDepth 65536 in
theorem codes_eq : words1.filter isCode = codes1 := rfl
theorem w_codes : ∀ c ∈ words1.filter isCode, c.before args0 about1 = true := by
  rw [codes_eq]
  intro c hc
  simp only [codes1, List.mem_cons, List.not_mem_nil, or_false] at hc
  rcases hc with rfl | rfl | rfl | rfl | rfl | rfl
  · exact w_c0
  · exact w_c1
  · exact w_c2
  · exact w_c3
  · exact w_c4
  · exact w_c5
set_option maxRecDepth 65536 in
theorem w_t1 : (words1.take 24).all (fun c => isCode c || c.before args0 about1) = true := by decide +kernel
set_option maxRecDepth 65536 in
theorem w_t2 : (words1.drop 24).all (fun c => isCode c || c.before args0 about1) = true := by decide +kernel
theorem w_tables : (allAtoms (Jvm.Cond.code x code maxLocals ret :: tables_1)).before args0 about1 = true := by
  rw [allAtoms_all]
  show words1.all (fun c => c.before args0 about1) = true
  refine all_split ?_ w_codes
  rw [← List.take_append_drop 24 words1, List.all_append, w_t1, w_t2]
  rfl
set_option maxRecDepth 65536 in
theorem w_case : (Jvm.Cond.and given_1 narrow_1).before args0 about1 = true := by decide +kernel
theorem w_applies : (headSpec (Jvm.Cond.code x code maxLocals ret :: tables_1) room_1).applies x e0.platform about1 = true :=
  (Spec.applies_iff w_frames).mpr ⟨w_running, w_runnable, w_alone, w_named, w_hears, w_ripe, w_room, w_tables⟩
theorem atStart : AtStart classFile x code maxLocals ret World_1 tables_1 room_1 Calls_1 rest_1 Pre_1 launch0 p0 e0 about1 theMethod args0 below0 :=
  ⟨lists_1, trivial, launch0.admits_env _ _ _, launch0.least_env, fairChoices_fair.cas, fairChoices_fair.clock, w_frames, w_args, w_heap, w_applies, trivial, trivial, w_case⟩
end start1
theorem witness_1 : WitnessClaimed_1 := ⟨start1.p0, start1.e0, start1.about1, start1.theMethod, start1.args0, start1.below0, start1.atStart⟩
end Jvm.Pilot.@@N@@
