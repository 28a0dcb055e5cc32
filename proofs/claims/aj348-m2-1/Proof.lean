import JvmDerived
import JvmDerived.Pilot.@@N@@Statement
import JvmDerived.Pilot.@@N@@Code
set_option linter.unusedVariables false
set_option linter.unusedSimpArgs false
namespace Jvm.RoadKit
open Sem ClassFile Op Lib Jvm.Stand Jvm.Free Jvm.LawKit
section New
variable {p : Program} {l : Launch} {e : Env} {R : Room} {s : State} {m : MethodId} {args : Array Value} {below : List Frame} {meth : Method} {c : Code} {T : State} {locs : List Loc} {cells slots : Nat}
theorem retI (X : Stand p l e R s m args below meth c T locs cells slots) (hx : p.tables.exec = Jvm.exec) {pc : Nat} {Ls : Array Slot} {z : Int32} {rest : List Value} (hret : meth.sig.returnType = some .int) (hd : decode c.code pc = .ok (.ireturn, 1)) {fs : List Frame}
    (hl : ∀ (f : JFrame) (acts : List Action), f.method = m → f.locked = none → f.entered = [] → (doReturn e (T.setTop f) acts (some (.int z))).1 = T.setFrames fs) : Steps p.tables e below (T.setTop (mkF m pc Ls (.int z :: rest))) (T.setFrames fs) := by
  have hm' : T.vm.method? m = some meth := X.method'
  have hn : narrow .int (.int z) = .int z := rfl
  show Steps p.tables e below (T.setTop { method := m, pc := pc, locals := Ls, stack := _ :: rest, locked := none }) _
  jvm_step X.here [X.here.top, hx, hd, hm', hret, hn]
  first | (intro acts; rw [hl _ acts rfl rfl rfl]) | rw [hl _ _ rfl rfl rfl]
  exact Steps.refl _
end New
end Jvm.RoadKit
namespace Jvm.Pilot.@@N@@
open Jvm Jvm.ClassFile Sem Op Lib Jvm.Free Jvm.Stand Jvm.LawKit Jvm.RoadKit Bundle Jvm.Pilot.@@N@@.Jvm.D
def own_A (Z : State) (h : Heap) (n0 : Nat) (o st dg rm it : Addr) (k1 k2 k3 k4 : ClassId) (zi : Int32) (its : List Value) (slv : Value) (dv rv ev hv sv : Int32) : Prop :=
  Exa Z h o "com/example/plebiscite/plebiscite/Adjacency" ∧ n0 ≤ o ∧ n0 ≤ st ∧ n0 ≤ dg ∧ n0 ≤ rm ∧ n0 ≤ it ∧ Fld Z h o "com/example/plebiscite/plebiscite/Adjacency" "start" "[I" (.ref st) ∧ Fld Z h o "com/example/plebiscite/plebiscite/Adjacency" "degree" "[I" (.ref dg) ∧ Fld Z h o "com/example/plebiscite/plebiscite/Adjacency" "room" "[I" (.ref rm) ∧ Fld Z h o "com/example/plebiscite/plebiscite/Adjacency" "items" "[I" (.ref it) ∧ Fld Z h o "com/example/plebiscite/plebiscite/Adjacency" "slots" "[I" slv ∧ Fld Z h o "com/example/plebiscite/plebiscite/Adjacency" "end" "I" (.int ev) ∧ Fld Z h o "com/example/plebiscite/plebiscite/Adjacency" "held" "I" (.int hv) ∧ Fld Z h o "com/example/plebiscite/plebiscite/Adjacency" "size" "I" (.int sv) ∧ Fld Z h o "com/example/plebiscite/plebiscite/Adjacency" "bound" "[I" .null ∧ Arv Z h st k1 .int (1 : Int32) [.int (0 : Int32)] (.int (0 : Int32)) ∧ Arv Z h dg k2 .int (1 : Int32) [.int dv] (.int (0 : Int32)) ∧ Arv Z h rm k3 .int (1 : Int32) [.int rv] (.int (0 : Int32)) ∧ Arv Z h it k4 .int zi its (.int (0 : Int32)) ∧ o ≠ st ∧ o ≠ dg ∧ o ≠ rm ∧ o ≠ it ∧ st ≠ dg ∧ st ≠ rm ∧ st ≠ it ∧ dg ≠ rm ∧ dg ≠ it ∧ rm ≠ it
def own_S (Z : State) (h : Heap) (n0 : Nat) (sl : Addr) (k5 : ClassId) (zi : Int32) (sls : List Value) (o st dg rm it : Addr) : Prop :=
  n0 ≤ sl ∧ Arv Z h sl k5 .int zi sls (.int (0 : Int32)) ∧ o ≠ sl ∧ st ≠ sl ∧ dg ≠ sl ∧ rm ≠ sl ∧ it ≠ sl
theorem own_selects {args : Array Value} {s : State} {y z : MethodName} (hc : z.cls = y.cls) (hp : (Jvm.Cond.privateMethod y).before args s = true) (hi : (Jvm.Cond.instanceMethod y).before args s = true) (hz : (Jvm.Cond.selects z.cls z z).before args s = true)
    (hy : y.cls ≠ "java/lang/invoke/MethodHandle" ∧ y.cls ≠ "java/lang/invoke/VarHandle") : (Jvm.Cond.selects y.cls y y).before args s = true := by
  obtain ⟨mk, methM, hnamed, hmethM, hstM, habM⟩ := Cond.instanceMethod_spec hi
  have hpriv := Cond.privateMethod_at hp mk methM hnamed hmethM
  obtain ⟨c2, r2, m2, q1, q2, q3, q4, kP, hkP, hkPi⟩ := Cond.selects_spec hz
  have f1 := findClass_of_methodNamed hnamed
  have f2 := findClass_of_methodNamed q3
  rw [hc] at f2
  have hcls : m2.cls = mk.cls := Option.some.inj (f2.symm.trans f1)
  rw [hcls] at hkP
  have hf := State.methodFound?_of_named hnamed hy
  have hs : selectMethod {} s.vm mk.cls mk = .method mk := selectMethod_private hmethM hpriv
  simp [Cond.before, Cond.holds, Cond.value, f1, hf, hnamed, hs, hkP, hkPi]
def own_max (x y : Int32) : Int32 := if x < y then y else x
def own_min (x y : Int32) : Int32 := if y < x then y else x
def own_minL (x y : Int64) : Int64 := if (0 : Int32) < lcmpW x y then y else x
def own_maxL (x y : Int64) : Int64 := if lcmpW x y < (0 : Int32) then y else x
theorem ef_mxI (m : MethodId) (x0 : Int32) (x1 : Int32) : entryFrame m #[(.int x0), (.int x1)] 2 = mkF m 0 #[iv x0, iv x1] [] := by first | (simp [entryFrame, mkF, argsToLocals, Value.category]; done) | rfl
def Q_mxI (Z : State) (p0 : Int32) (p1 : Int32) (h0 : Heap) (n0 : Nat) (v : Option Value) (h : Heap) (L : List Loc) : Prop := v = some (.int (own_max p0 p1)) ∧ Fr n0 L ∧ h = h0
theorem d0_0 : decode jdk_29_method_65_code 0 = .ok (.iload_n 0, 1) := by decide +kernel
theorem d0_1 : decode jdk_29_method_65_code 1 = .ok (.iload_n 1, 1) := by decide +kernel
theorem d0_2 : decode jdk_29_method_65_code 2 = .ok (.if_icmp .lt 7, 3) := by decide +kernel
theorem d0_9 : decode jdk_29_method_65_code 9 = .ok (.iload_n 1, 1) := by decide +kernel
theorem d0_10 : decode jdk_29_method_65_code 10 = .ok (.ireturn, 1) := by decide +kernel
theorem d0_5 : decode jdk_29_method_65_code 5 = .ok (.iload_n 0, 1) := by decide +kernel
theorem d0_6 : decode jdk_29_method_65_code 6 = .ok (.goto 4, 3) := by decide +kernel
set_option maxRecDepth 65536 in
set_option maxHeartbeats 40000000 in
theorem rm_mxI (l : Launch) (Z : State) (a0 : Array Value) (hw : ∀ d ∈ tables_1, d.before a0 Z = true) (ws : List Jvm.Cond) (p0 : Int32) (p1 : Int32) (h0 : Heap) (n0 : Nat) (Z0 : n0 ≤ h0.size)  :
    MetFree l (⟨"java/lang/Math", "max", "(II)I"⟩ : MethodName) (head1 (Jvm.Cond.code (⟨"java/lang/Math", "max", "(II)I"⟩ : MethodName) jdk_29_method_65_code 2 (some .int) :: ws) ({ frames := 0, cells := 0, slots := 0, locals := 0 } : Room)) (fun a U => a = #[(.int p0), (.int p1)] ∧ Z.Warmed39 U.vm ∧ U.heap = h0) (fun _ _ _ _ _ => True) (fun _ U o U' => ∃ v L, o = .returned v ∧ Q_mxI Z p0 p1 h0 n0 v U'.heap L ∧ FrameEnd U o U' L ({ frames := 0, cells := 0, slots := 0, locals := 0 } : Room).cells ({ frames := 0, cells := 0, slots := 0, locals := 0 } : Room).slots) := by
  refine MetFree.of_bodySF (Jvm.Free.JP.mathPlain rfl (by decide +kernel)) hisR ?_
  intro p e s m args below meth c s₁ Bd hml0 hP hK
  obtain ⟨rfl, hZ, hh⟩ := hP
  have hx := Bd.exec
  have hby := Bd.bytes
  have hml : c.maxLocals = 2 := hml0
  have hown : s.vm.findClass "java/lang/Math" = some m.cls := findClass_of_methodNamed Bd.named
  have hnm := (name_of_methodNamed Bd.named Bd.method).1
  have X0 : Stand p l e ({ frames := 0, cells := 0, slots := 0, locals := 0 } : Room) s m #[(.int p0), (.int p1)] below meth c s₁ [] 0 0 := Stand.of_body Bd
  have e0 : s₁.heap = h0 := by rw [← hh, Bd.state]; rfl
  have N0 := Fr.nil n0
  have go0 : ∀ t, Steps p.tables e below (s₁.setTop (mkF m 0 #[iv p0, iv p1] [])) t → Steps p.tables e below (s₁.setTop (entryFrame m #[(.int p0), (.int p1)] 2)) t := fun t k => castTop (ef_mxI m p0 p1) k
  obtain ⟨O, hO⟩ : ∃ z, z = (s₁.setTop (entryFrame m #[(.int p0), (.int p1)] 2)) := ⟨_, rfl⟩
  rw [← hO] at go0
  have go101 : ∀ t, Steps p.tables e below (s₁.setTop (mkF m 2 #[iv p0, iv p1] [(.int p1), (.int p0)])) t → Steps p.tables e below O t := fun t k => go0 t (by
    refine XS.iloadN X0.here hx rfl (hb hby d0_0) rfl ?_
    refine XS.iloadN X0.here hx rfl (hb hby d0_1) rfl ?_
    show Steps _ _ _ (s₁.setTop (mkF m 2 _ [(.int p1), (.int p0)])) _
    exact k)
  by_cases hc : p0 < p1
  · have go102 : ∀ t, Steps p.tables e below (s₁.setTop (mkF m 10 #[iv p0, iv p1] [(.int p1)])) t → Steps p.tables e below O t := fun t k => go101 t (by
      refine XS.icmpYes X0.here hx rfl (pc0 := 2) (pc' := 9) rfl (hb hby d0_2) rfl (tlt (hc : p0 < p1)).1 (by decide) (by decide) ?_
      refine XS.iloadN X0.here hx rfl (hb hby d0_9) rfl ?_
      show Steps _ _ _ (s₁.setTop (mkF m 10 _ [(.int p1)])) _
      exact k)
    rw [hO] at go102
    obtain ⟨fs, hr, hrun, hended, hW, hsame⟩ := X0.leave (v := some (.int p1)) (fun h => by rw [Bd.returns] at h; cases h)
    refine ⟨_, _, go102 _ ?_, hrun, hended, _, _, rfl, ?_, ⟨_, rfl⟩, hW, hsame.mono (by decide) (by decide)⟩
    · exact retI X0 hx Bd.returns (hb hby d0_10) hr
    · show Q_mxI Z p0 p1 h0 n0 _ s₁.heap _
      rw [e0]
      exact ⟨by unfold own_max; rw [if_pos hc], N0, rfl⟩
  · have go104 : ∀ t, Steps p.tables e below (s₁.setTop (mkF m 10 #[iv p0, iv p1] [(.int p0)])) t → Steps p.tables e below O t := fun t k => go101 t (by
      refine XS.icmpNo X0.here hx rfl (hb hby d0_2) rfl (flt (hc : ¬ (p0 < p1))).1 ?_
      refine XS.iloadN X0.here hx rfl (hb hby d0_5) rfl ?_
      show Steps _ _ _ (s₁.setTop (mkF m 6 _ [(.int p0)])) _
      refine XS.goto X0.here hx rfl (pc0 := 6) (pc' := 10) rfl (hb hby d0_6) (by decide) (by decide) ?_
      exact k)
    rw [hO] at go104
    obtain ⟨fs, hr, hrun, hended, hW, hsame⟩ := X0.leave (v := some (.int p0)) (fun h => by rw [Bd.returns] at h; cases h)
    refine ⟨_, _, go104 _ ?_, hrun, hended, _, _, rfl, ?_, ⟨_, rfl⟩, hW, hsame.mono (by decide) (by decide)⟩
    · exact retI X0 hx Bd.returns (hb hby d0_10) hr
    · show Q_mxI Z p0 p1 h0 n0 _ s₁.heap _
      rw [e0]
      exact ⟨by unfold own_max; rw [if_neg hc], N0, rfl⟩
theorem ef_mnI (m : MethodId) (x0 : Int32) (x1 : Int32) : entryFrame m #[(.int x0), (.int x1)] 2 = mkF m 0 #[iv x0, iv x1] [] := by first | (simp [entryFrame, mkF, argsToLocals, Value.category]; done) | rfl
def Q_mnI (Z : State) (p0 : Int32) (p1 : Int32) (h0 : Heap) (n0 : Nat) (v : Option Value) (h : Heap) (L : List Loc) : Prop := v = some (.int (own_min p0 p1)) ∧ Fr n0 L ∧ h = h0
theorem d1_0 : decode jdk_29_method_69_code 0 = .ok (.iload_n 0, 1) := by decide +kernel
theorem d1_1 : decode jdk_29_method_69_code 1 = .ok (.iload_n 1, 1) := by decide +kernel
theorem d1_2 : decode jdk_29_method_69_code 2 = .ok (.if_icmp .gt 7, 3) := by decide +kernel
theorem d1_9 : decode jdk_29_method_69_code 9 = .ok (.iload_n 1, 1) := by decide +kernel
theorem d1_10 : decode jdk_29_method_69_code 10 = .ok (.ireturn, 1) := by decide +kernel
theorem d1_5 : decode jdk_29_method_69_code 5 = .ok (.iload_n 0, 1) := by decide +kernel
theorem d1_6 : decode jdk_29_method_69_code 6 = .ok (.goto 4, 3) := by decide +kernel
set_option maxRecDepth 65536 in
set_option maxHeartbeats 40000000 in
theorem rm_mnI (l : Launch) (Z : State) (a0 : Array Value) (hw : ∀ d ∈ tables_1, d.before a0 Z = true) (ws : List Jvm.Cond) (p0 : Int32) (p1 : Int32) (h0 : Heap) (n0 : Nat) (Z0 : n0 ≤ h0.size)  :
    MetFree l (⟨"java/lang/Math", "min", "(II)I"⟩ : MethodName) (head1 (Jvm.Cond.code (⟨"java/lang/Math", "min", "(II)I"⟩ : MethodName) jdk_29_method_69_code 2 (some .int) :: ws) ({ frames := 0, cells := 0, slots := 0, locals := 0 } : Room)) (fun a U => a = #[(.int p0), (.int p1)] ∧ Z.Warmed39 U.vm ∧ U.heap = h0) (fun _ _ _ _ _ => True) (fun _ U o U' => ∃ v L, o = .returned v ∧ Q_mnI Z p0 p1 h0 n0 v U'.heap L ∧ FrameEnd U o U' L ({ frames := 0, cells := 0, slots := 0, locals := 0 } : Room).cells ({ frames := 0, cells := 0, slots := 0, locals := 0 } : Room).slots) := by
  refine MetFree.of_bodySF (Jvm.Free.JP.mathPlain rfl (by decide +kernel)) hisR ?_
  intro p e s m args below meth c s₁ Bd hml0 hP hK
  obtain ⟨rfl, hZ, hh⟩ := hP
  have hx := Bd.exec
  have hby := Bd.bytes
  have hml : c.maxLocals = 2 := hml0
  have hown : s.vm.findClass "java/lang/Math" = some m.cls := findClass_of_methodNamed Bd.named
  have hnm := (name_of_methodNamed Bd.named Bd.method).1
  have X0 : Stand p l e ({ frames := 0, cells := 0, slots := 0, locals := 0 } : Room) s m #[(.int p0), (.int p1)] below meth c s₁ [] 0 0 := Stand.of_body Bd
  have e0 : s₁.heap = h0 := by rw [← hh, Bd.state]; rfl
  have N0 := Fr.nil n0
  have go0 : ∀ t, Steps p.tables e below (s₁.setTop (mkF m 0 #[iv p0, iv p1] [])) t → Steps p.tables e below (s₁.setTop (entryFrame m #[(.int p0), (.int p1)] 2)) t := fun t k => castTop (ef_mnI m p0 p1) k
  obtain ⟨O, hO⟩ : ∃ z, z = (s₁.setTop (entryFrame m #[(.int p0), (.int p1)] 2)) := ⟨_, rfl⟩
  rw [← hO] at go0
  have go101 : ∀ t, Steps p.tables e below (s₁.setTop (mkF m 2 #[iv p0, iv p1] [(.int p1), (.int p0)])) t → Steps p.tables e below O t := fun t k => go0 t (by
    refine XS.iloadN X0.here hx rfl (hb hby d1_0) rfl ?_
    refine XS.iloadN X0.here hx rfl (hb hby d1_1) rfl ?_
    show Steps _ _ _ (s₁.setTop (mkF m 2 _ [(.int p1), (.int p0)])) _
    exact k)
  by_cases hc : p1 < p0
  · have go102 : ∀ t, Steps p.tables e below (s₁.setTop (mkF m 10 #[iv p0, iv p1] [(.int p1)])) t → Steps p.tables e below O t := fun t k => go101 t (by
      refine XS.icmpYes X0.here hx rfl (pc0 := 2) (pc' := 9) rfl (hb hby d1_2) rfl (tlt (hc : p1 < p0)).2.2.1 (by decide) (by decide) ?_
      refine XS.iloadN X0.here hx rfl (hb hby d1_9) rfl ?_
      show Steps _ _ _ (s₁.setTop (mkF m 10 _ [(.int p1)])) _
      exact k)
    rw [hO] at go102
    obtain ⟨fs, hr, hrun, hended, hW, hsame⟩ := X0.leave (v := some (.int p1)) (fun h => by rw [Bd.returns] at h; cases h)
    refine ⟨_, _, go102 _ ?_, hrun, hended, _, _, rfl, ?_, ⟨_, rfl⟩, hW, hsame.mono (by decide) (by decide)⟩
    · exact retI X0 hx Bd.returns (hb hby d1_10) hr
    · show Q_mnI Z p0 p1 h0 n0 _ s₁.heap _
      rw [e0]
      exact ⟨by unfold own_min; rw [if_pos hc], N0, rfl⟩
  · have go104 : ∀ t, Steps p.tables e below (s₁.setTop (mkF m 10 #[iv p0, iv p1] [(.int p0)])) t → Steps p.tables e below O t := fun t k => go101 t (by
      refine XS.icmpNo X0.here hx rfl (hb hby d1_2) rfl (flt (hc : ¬ (p1 < p0))).2.2.1 ?_
      refine XS.iloadN X0.here hx rfl (hb hby d1_5) rfl ?_
      show Steps _ _ _ (s₁.setTop (mkF m 6 _ [(.int p0)])) _
      refine XS.goto X0.here hx rfl (pc0 := 6) (pc' := 10) rfl (hb hby d1_6) (by decide) (by decide) ?_
      exact k)
    rw [hO] at go104
    obtain ⟨fs, hr, hrun, hended, hW, hsame⟩ := X0.leave (v := some (.int p0)) (fun h => by rw [Bd.returns] at h; cases h)
    refine ⟨_, _, go104 _ ?_, hrun, hended, _, _, rfl, ?_, ⟨_, rfl⟩, hW, hsame.mono (by decide) (by decide)⟩
    · exact retI X0 hx Bd.returns (hb hby d1_10) hr
    · show Q_mnI Z p0 p1 h0 n0 _ s₁.heap _
      rw [e0]
      exact ⟨by unfold own_min; rw [if_neg hc], N0, rfl⟩
theorem ef_mxL (m : MethodId) (x0 : Int64) (x1 : Int64) : entryFrame m #[(.long x0), (.long x1)] 4 = mkF m 0 #[.val (.long x0), .second, .val (.long x1), .second] [] := by first | (simp [entryFrame, mkF, argsToLocals, Value.category]; done) | rfl
def Q_mxL (Z : State) (q0 : Int64) (q1 : Int64) (h0 : Heap) (n0 : Nat) (v : Option Value) (h : Heap) (L : List Loc) : Prop := v = some (.long (own_maxL q0 q1)) ∧ Fr n0 L ∧ h = h0
theorem d2_0 : decode jdk_29_method_66_code 0 = .ok (.lload_n 0, 1) := by decide +kernel
theorem d2_1 : decode jdk_29_method_66_code 1 = .ok (.lload_n 2, 1) := by decide +kernel
theorem d2_2 : decode jdk_29_method_66_code 2 = .ok (.lcmp, 1) := by decide +kernel
theorem d2_3 : decode jdk_29_method_66_code 3 = .ok (.ifCond .lt 7, 3) := by decide +kernel
theorem d2_10 : decode jdk_29_method_66_code 10 = .ok (.lload_n 2, 1) := by decide +kernel
theorem d2_11 : decode jdk_29_method_66_code 11 = .ok (.lreturn, 1) := by decide +kernel
theorem d2_6 : decode jdk_29_method_66_code 6 = .ok (.lload_n 0, 1) := by decide +kernel
theorem d2_7 : decode jdk_29_method_66_code 7 = .ok (.goto 4, 3) := by decide +kernel
set_option maxRecDepth 65536 in
set_option maxHeartbeats 40000000 in
theorem rm_mxL (l : Launch) (Z : State) (a0 : Array Value) (hw : ∀ d ∈ tables_1, d.before a0 Z = true) (ws : List Jvm.Cond) (q0 : Int64) (q1 : Int64) (h0 : Heap) (n0 : Nat) (Z0 : n0 ≤ h0.size)  :
    MetFree l (⟨"java/lang/Math", "max", "(JJ)J"⟩ : MethodName) (head1 (Jvm.Cond.code (⟨"java/lang/Math", "max", "(JJ)J"⟩ : MethodName) jdk_29_method_66_code 4 (some .long) :: ws) ({ frames := 0, cells := 0, slots := 0, locals := 0 } : Room)) (fun a U => a = #[(.long q0), (.long q1)] ∧ Z.Warmed39 U.vm ∧ U.heap = h0) (fun _ _ _ _ _ => True) (fun _ U o U' => ∃ v L, o = .returned v ∧ Q_mxL Z q0 q1 h0 n0 v U'.heap L ∧ FrameEnd U o U' L ({ frames := 0, cells := 0, slots := 0, locals := 0 } : Room).cells ({ frames := 0, cells := 0, slots := 0, locals := 0 } : Room).slots) := by
  refine MetFree.of_bodySF (Jvm.Free.JP.mathPlain rfl (by decide +kernel)) hisR ?_
  intro p e s m args below meth c s₁ Bd hml0 hP hK
  obtain ⟨rfl, hZ, hh⟩ := hP
  have hx := Bd.exec
  have hby := Bd.bytes
  have hml : c.maxLocals = 4 := hml0
  have hown : s.vm.findClass "java/lang/Math" = some m.cls := findClass_of_methodNamed Bd.named
  have hnm := (name_of_methodNamed Bd.named Bd.method).1
  have X0 : Stand p l e ({ frames := 0, cells := 0, slots := 0, locals := 0 } : Room) s m #[(.long q0), (.long q1)] below meth c s₁ [] 0 0 := Stand.of_body Bd
  have e0 : s₁.heap = h0 := by rw [← hh, Bd.state]; rfl
  have N0 := Fr.nil n0
  have go0 : ∀ t, Steps p.tables e below (s₁.setTop (mkF m 0 #[.val (.long q0), .second, .val (.long q1), .second] [])) t → Steps p.tables e below (s₁.setTop (entryFrame m #[(.long q0), (.long q1)] 4)) t := fun t k => castTop (ef_mxL m q0 q1) k
  obtain ⟨O, hO⟩ : ∃ z, z = (s₁.setTop (entryFrame m #[(.long q0), (.long q1)] 4)) := ⟨_, rfl⟩
  rw [← hO] at go0
  have go101 : ∀ t, Steps p.tables e below (s₁.setTop (mkF m 3 #[.val (.long q0), .second, .val (.long q1), .second] [(.int (lcmpW q0 q1))])) t → Steps p.tables e below O t := fun t k => go0 t (by
    refine XS.lloadN X0.here hx rfl (hb hby d2_0) rfl ?_
    refine XS.lloadN X0.here hx rfl (hb hby d2_1) rfl ?_
    show Steps _ _ _ (s₁.setTop (mkF m 2 _ [(.long q1), (.long q0)])) _
    refine XS.lcmp X0.here hx rfl (hb hby d2_2) rfl ?_
    exact k)
  by_cases hc : (lcmpW q0 q1) < (0 : Int32)
  · have go102 : ∀ t, Steps p.tables e below (s₁.setTop (mkF m 11 #[.val (.long q0), .second, .val (.long q1), .second] [(.long q1)])) t → Steps p.tables e below O t := fun t k => go101 t (by
      refine XS.ifYes X0.here hx rfl (pc0 := 3) (pc' := 10) rfl (hb hby d2_3) rfl ((if0 _ _).trans (tlt (hc : (lcmpW q0 q1) < (0 : Int32))).1) (by decide) (by decide) ?_
      refine XS.lloadN X0.here hx rfl (hb hby d2_10) rfl ?_
      show Steps _ _ _ (s₁.setTop (mkF m 11 _ [(.long q1)])) _
      exact k)
    rw [hO] at go102
    obtain ⟨fs, hr, hrun, hended, hW, hsame⟩ := X0.leave (v := some (.long q1)) (fun h => by rw [Bd.returns] at h; cases h)
    refine ⟨_, _, go102 _ ?_, hrun, hended, _, _, rfl, ?_, ⟨_, rfl⟩, hW, hsame.mono (by decide) (by decide)⟩
    · exact X0.lreturnOut hx Bd.returns (hb hby d2_11) hr
    · show Q_mxL Z q0 q1 h0 n0 _ s₁.heap _
      rw [e0]
      exact ⟨by unfold own_maxL; rw [if_pos hc], N0, rfl⟩
  · have go104 : ∀ t, Steps p.tables e below (s₁.setTop (mkF m 11 #[.val (.long q0), .second, .val (.long q1), .second] [(.long q0)])) t → Steps p.tables e below O t := fun t k => go101 t (by
      refine XS.ifNo X0.here hx rfl (hb hby d2_3) rfl ((if0 _ _).trans (flt (hc : ¬ ((lcmpW q0 q1) < (0 : Int32)))).1) ?_
      refine XS.lloadN X0.here hx rfl (hb hby d2_6) rfl ?_
      show Steps _ _ _ (s₁.setTop (mkF m 7 _ [(.long q0)])) _
      refine XS.goto X0.here hx rfl (pc0 := 7) (pc' := 11) rfl (hb hby d2_7) (by decide) (by decide) ?_
      exact k)
    rw [hO] at go104
    obtain ⟨fs, hr, hrun, hended, hW, hsame⟩ := X0.leave (v := some (.long q0)) (fun h => by rw [Bd.returns] at h; cases h)
    refine ⟨_, _, go104 _ ?_, hrun, hended, _, _, rfl, ?_, ⟨_, rfl⟩, hW, hsame.mono (by decide) (by decide)⟩
    · exact X0.lreturnOut hx Bd.returns (hb hby d2_11) hr
    · show Q_mxL Z q0 q1 h0 n0 _ s₁.heap _
      rw [e0]
      exact ⟨by unfold own_maxL; rw [if_neg hc], N0, rfl⟩
theorem ef_mnL (m : MethodId) (x0 : Int64) (x1 : Int64) : entryFrame m #[(.long x0), (.long x1)] 4 = mkF m 0 #[.val (.long x0), .second, .val (.long x1), .second] [] := by first | (simp [entryFrame, mkF, argsToLocals, Value.category]; done) | rfl
def Q_mnL (Z : State) (q0 : Int64) (q1 : Int64) (h0 : Heap) (n0 : Nat) (v : Option Value) (h : Heap) (L : List Loc) : Prop := v = some (.long (own_minL q0 q1)) ∧ Fr n0 L ∧ h = h0
theorem d3_0 : decode jdk_29_method_70_code 0 = .ok (.lload_n 0, 1) := by decide +kernel
theorem d3_1 : decode jdk_29_method_70_code 1 = .ok (.lload_n 2, 1) := by decide +kernel
theorem d3_2 : decode jdk_29_method_70_code 2 = .ok (.lcmp, 1) := by decide +kernel
theorem d3_3 : decode jdk_29_method_70_code 3 = .ok (.ifCond .gt 7, 3) := by decide +kernel
theorem d3_10 : decode jdk_29_method_70_code 10 = .ok (.lload_n 2, 1) := by decide +kernel
theorem d3_11 : decode jdk_29_method_70_code 11 = .ok (.lreturn, 1) := by decide +kernel
theorem d3_6 : decode jdk_29_method_70_code 6 = .ok (.lload_n 0, 1) := by decide +kernel
theorem d3_7 : decode jdk_29_method_70_code 7 = .ok (.goto 4, 3) := by decide +kernel
set_option maxRecDepth 65536 in
set_option maxHeartbeats 40000000 in
theorem rm_mnL (l : Launch) (Z : State) (a0 : Array Value) (hw : ∀ d ∈ tables_1, d.before a0 Z = true) (ws : List Jvm.Cond) (q0 : Int64) (q1 : Int64) (h0 : Heap) (n0 : Nat) (Z0 : n0 ≤ h0.size)  :
    MetFree l (⟨"java/lang/Math", "min", "(JJ)J"⟩ : MethodName) (head1 (Jvm.Cond.code (⟨"java/lang/Math", "min", "(JJ)J"⟩ : MethodName) jdk_29_method_70_code 4 (some .long) :: ws) ({ frames := 0, cells := 0, slots := 0, locals := 0 } : Room)) (fun a U => a = #[(.long q0), (.long q1)] ∧ Z.Warmed39 U.vm ∧ U.heap = h0) (fun _ _ _ _ _ => True) (fun _ U o U' => ∃ v L, o = .returned v ∧ Q_mnL Z q0 q1 h0 n0 v U'.heap L ∧ FrameEnd U o U' L ({ frames := 0, cells := 0, slots := 0, locals := 0 } : Room).cells ({ frames := 0, cells := 0, slots := 0, locals := 0 } : Room).slots) := by
  refine MetFree.of_bodySF (Jvm.Free.JP.mathPlain rfl (by decide +kernel)) hisR ?_
  intro p e s m args below meth c s₁ Bd hml0 hP hK
  obtain ⟨rfl, hZ, hh⟩ := hP
  have hx := Bd.exec
  have hby := Bd.bytes
  have hml : c.maxLocals = 4 := hml0
  have hown : s.vm.findClass "java/lang/Math" = some m.cls := findClass_of_methodNamed Bd.named
  have hnm := (name_of_methodNamed Bd.named Bd.method).1
  have X0 : Stand p l e ({ frames := 0, cells := 0, slots := 0, locals := 0 } : Room) s m #[(.long q0), (.long q1)] below meth c s₁ [] 0 0 := Stand.of_body Bd
  have e0 : s₁.heap = h0 := by rw [← hh, Bd.state]; rfl
  have N0 := Fr.nil n0
  have go0 : ∀ t, Steps p.tables e below (s₁.setTop (mkF m 0 #[.val (.long q0), .second, .val (.long q1), .second] [])) t → Steps p.tables e below (s₁.setTop (entryFrame m #[(.long q0), (.long q1)] 4)) t := fun t k => castTop (ef_mnL m q0 q1) k
  obtain ⟨O, hO⟩ : ∃ z, z = (s₁.setTop (entryFrame m #[(.long q0), (.long q1)] 4)) := ⟨_, rfl⟩
  rw [← hO] at go0
  have go101 : ∀ t, Steps p.tables e below (s₁.setTop (mkF m 3 #[.val (.long q0), .second, .val (.long q1), .second] [(.int (lcmpW q0 q1))])) t → Steps p.tables e below O t := fun t k => go0 t (by
    refine XS.lloadN X0.here hx rfl (hb hby d3_0) rfl ?_
    refine XS.lloadN X0.here hx rfl (hb hby d3_1) rfl ?_
    show Steps _ _ _ (s₁.setTop (mkF m 2 _ [(.long q1), (.long q0)])) _
    refine XS.lcmp X0.here hx rfl (hb hby d3_2) rfl ?_
    exact k)
  by_cases hc : (0 : Int32) < (lcmpW q0 q1)
  · have go102 : ∀ t, Steps p.tables e below (s₁.setTop (mkF m 11 #[.val (.long q0), .second, .val (.long q1), .second] [(.long q1)])) t → Steps p.tables e below O t := fun t k => go101 t (by
      refine XS.ifYes X0.here hx rfl (pc0 := 3) (pc' := 10) rfl (hb hby d3_3) rfl ((if0 _ _).trans (tlt (hc : (0 : Int32) < (lcmpW q0 q1))).2.2.1) (by decide) (by decide) ?_
      refine XS.lloadN X0.here hx rfl (hb hby d3_10) rfl ?_
      show Steps _ _ _ (s₁.setTop (mkF m 11 _ [(.long q1)])) _
      exact k)
    rw [hO] at go102
    obtain ⟨fs, hr, hrun, hended, hW, hsame⟩ := X0.leave (v := some (.long q1)) (fun h => by rw [Bd.returns] at h; cases h)
    refine ⟨_, _, go102 _ ?_, hrun, hended, _, _, rfl, ?_, ⟨_, rfl⟩, hW, hsame.mono (by decide) (by decide)⟩
    · exact X0.lreturnOut hx Bd.returns (hb hby d3_11) hr
    · show Q_mnL Z q0 q1 h0 n0 _ s₁.heap _
      rw [e0]
      exact ⟨by unfold own_minL; rw [if_pos hc], N0, rfl⟩
  · have go104 : ∀ t, Steps p.tables e below (s₁.setTop (mkF m 11 #[.val (.long q0), .second, .val (.long q1), .second] [(.long q0)])) t → Steps p.tables e below O t := fun t k => go101 t (by
      refine XS.ifNo X0.here hx rfl (hb hby d3_3) rfl ((if0 _ _).trans (flt (hc : ¬ ((0 : Int32) < (lcmpW q0 q1)))).2.2.1) ?_
      refine XS.lloadN X0.here hx rfl (hb hby d3_6) rfl ?_
      show Steps _ _ _ (s₁.setTop (mkF m 7 _ [(.long q0)])) _
      refine XS.goto X0.here hx rfl (pc0 := 7) (pc' := 11) rfl (hb hby d3_7) (by decide) (by decide) ?_
      exact k)
    rw [hO] at go104
    obtain ⟨fs, hr, hrun, hended, hW, hsame⟩ := X0.leave (v := some (.long q0)) (fun h => by rw [Bd.returns] at h; cases h)
    refine ⟨_, _, go104 _ ?_, hrun, hended, _, _, rfl, ?_, ⟨_, rfl⟩, hW, hsame.mono (by decide) (by decide)⟩
    · exact X0.lreturnOut hx Bd.returns (hb hby d3_11) hr
    · show Q_mnL Z q0 q1 h0 n0 _ s₁.heap _
      rw [e0]
      exact ⟨by unfold own_minL; rw [if_neg hc], N0, rfl⟩
theorem ef_c20 (m : MethodId) (x0 : Addr) (x1 : Int32) (x2 : Int32) : entryFrame m #[(.ref x0), (.int x1), (.int x2)] 3 = mkF m 0 #[rv x0, iv x1, iv x2] [] := by first | (simp [entryFrame, mkF, argsToLocals, Value.category]; done) | rfl
theorem pn_0 : plainName "com/example/plebiscite/plebiscite/Adjacency" = true := by first | (simp [plainName, overriddenIn]; done) | decide +kernel
def Q_c20 (Z : State) (o0 : Addr) (h0 : Heap) (n0 : Nat) (v : Option Value) (h : Heap) (L : List Loc) : Prop := ∃ (st dg rm it : Addr) (k1 k2 k3 k4 : ClassId), v = none ∧ Fr n0 L ∧ Keep h0 h [o0] ∧ own_A Z h n0 o0 st dg rm it k1 k2 k3 k4 (0 : Int32) [] .null (0 : Int32) (0 : Int32) (0 : Int32) (0 : Int32) (0 : Int32)
theorem d4_0 : decode prog_2_method_2_code 0 = .ok (.aload_n 0, 1) := by decide +kernel
theorem d4_1 : decode prog_2_method_2_code 1 = .ok (.invokespecial 7, 3) := by decide +kernel
theorem d4_4 : decode prog_2_method_2_code 4 = .ok (.aload_n 0, 1) := by decide +kernel
theorem d4_5 : decode prog_2_method_2_code 5 = .ok (.iload_n 1, 1) := by decide +kernel
theorem d4_6 : decode prog_2_method_2_code 6 = .ok (.newarray .int, 2) := by decide +kernel
theorem d4_8 : decode prog_2_method_2_code 8 = .ok (.putfield 12, 3) := by decide +kernel
theorem d4_11 : decode prog_2_method_2_code 11 = .ok (.aload_n 0, 1) := by decide +kernel
theorem d4_12 : decode prog_2_method_2_code 12 = .ok (.iload_n 1, 1) := by decide +kernel
theorem d4_13 : decode prog_2_method_2_code 13 = .ok (.newarray .int, 2) := by decide +kernel
theorem d4_15 : decode prog_2_method_2_code 15 = .ok (.putfield 16, 3) := by decide +kernel
theorem d4_18 : decode prog_2_method_2_code 18 = .ok (.aload_n 0, 1) := by decide +kernel
theorem d4_19 : decode prog_2_method_2_code 19 = .ok (.iload_n 1, 1) := by decide +kernel
theorem d4_20 : decode prog_2_method_2_code 20 = .ok (.newarray .int, 2) := by decide +kernel
theorem d4_22 : decode prog_2_method_2_code 22 = .ok (.putfield 19, 3) := by decide +kernel
theorem d4_25 : decode prog_2_method_2_code 25 = .ok (.aload_n 0, 1) := by decide +kernel
theorem d4_26 : decode prog_2_method_2_code 26 = .ok (.iload_n 2, 1) := by decide +kernel
theorem d4_27 : decode prog_2_method_2_code 27 = .ok (.newarray .int, 2) := by decide +kernel
theorem d4_29 : decode prog_2_method_2_code 29 = .ok (.putfield 22, 3) := by decide +kernel
theorem d4_32 : decode prog_2_method_2_code 32 = .ok (.return_, 1) := by decide +kernel
set_option maxRecDepth 65536 in
set_option maxHeartbeats 40000000 in
theorem rm_c20 (l : Launch) (Z : State) (a0 : Array Value) (hw : ∀ d ∈ tables_1, d.before a0 Z = true) (ws : List Jvm.Cond) (o0 : Addr) (h0 : Heap) (n0 : Nat) (Z0 : n0 ≤ h0.size) (E_o0 : Exa Z h0 o0 "com/example/plebiscite/plebiscite/Adjacency") (ge_o0 : n0 ≤ o0) (F_start_o0 : Fld Z h0 o0 "com/example/plebiscite/plebiscite/Adjacency" "start" "[I" .null) (F_degree_o0 : Fld Z h0 o0 "com/example/plebiscite/plebiscite/Adjacency" "degree" "[I" .null) (F_room_o0 : Fld Z h0 o0 "com/example/plebiscite/plebiscite/Adjacency" "room" "[I" .null) (F_items_o0 : Fld Z h0 o0 "com/example/plebiscite/plebiscite/Adjacency" "items" "[I" .null) (F_slots_o0 : Fld Z h0 o0 "com/example/plebiscite/plebiscite/Adjacency" "slots" "[I" .null) (F_end_o0 : Fld Z h0 o0 "com/example/plebiscite/plebiscite/Adjacency" "end" "I" (.int 0)) (F_held_o0 : Fld Z h0 o0 "com/example/plebiscite/plebiscite/Adjacency" "held" "I" (.int 0)) (F_size_o0 : Fld Z h0 o0 "com/example/plebiscite/plebiscite/Adjacency" "size" "I" (.int 0)) (F_bound_o0 : Fld Z h0 o0 "com/example/plebiscite/plebiscite/Adjacency" "bound" "[I" .null) :
    MetFree l (⟨"com/example/plebiscite/plebiscite/Adjacency", "<init>", "(II)V"⟩ : MethodName) (head1 (Jvm.Cond.code (⟨"com/example/plebiscite/plebiscite/Adjacency", "<init>", "(II)V"⟩ : MethodName) prog_2_method_2_code 3 none :: ws) ({ frames := 1, cells := 4, slots := 3, locals := 12 } : Room)) (fun a U => a = #[(.ref o0), (.int 1), (.int 0)] ∧ Z.Warmed39 U.vm ∧ U.heap = h0) (fun _ _ _ _ _ => True) (fun _ U o U' => ∃ v L, o = .returned v ∧ Q_c20 Z o0 h0 n0 v U'.heap L ∧ FrameEnd U o U' L ({ frames := 1, cells := 4, slots := 3, locals := 12 } : Room).cells ({ frames := 1, cells := 4, slots := 3, locals := 12 } : Room).slots) := by
  refine MetFree.of_bodySF (plainFor_of_name pn_0) hisR ?_
  intro p e s m args below meth c s₁ Bd hml0 hP hK
  obtain ⟨rfl, hZ, hh⟩ := hP
  have hx := Bd.exec
  have hby := Bd.bytes
  have hml : c.maxLocals = 3 := hml0
  have hown : s.vm.findClass "com/example/plebiscite/plebiscite/Adjacency" = some m.cls := findClass_of_methodNamed Bd.named
  have hnm := (name_of_methodNamed Bd.named Bd.method).1
  have X0 : Stand p l e ({ frames := 1, cells := 4, slots := 3, locals := 12 } : Room) s m #[(.ref o0), (.int 1), (.int 0)] below meth c s₁ [] 0 0 := Stand.of_body Bd
  have e0 : s₁.heap = h0 := by rw [← hh, Bd.state]; rfl
  have N0 := Fr.nil n0
  have go0 : ∀ t, Steps p.tables e below (s₁.setTop (mkF m 0 #[rv o0, iv 1, iv 0] [])) t → Steps p.tables e below (s₁.setTop (entryFrame m #[(.ref o0), (.int 1), (.int 0)] 3)) t := fun t k => castTop (ef_c20 m o0 (1 : Int32) (0 : Int32)) k
  obtain ⟨O, hO⟩ : ∃ z, z = (s₁.setTop (entryFrame m #[(.ref o0), (.int 1), (.int 0)] 3)) := ⟨_, rfl⟩
  rw [← hO] at go0
  have K101 := Keep.refl h0 [o0]
  obtain ⟨T102, X102, e102, st102⟩ := initO X0 hx hZ hown (hw _ (List.mem_of_getElem? (i := 6) rfl)) (hw _ (List.mem_of_getElem? (i := 7) rfl)) (hw _ (List.mem_of_getElem? (i := 8) rfl)) e0 (g := (mkF m 1 #[rv o0, iv 1, iv 0] [(.ref o0)])) rfl (by rw [hml]; rfl) rfl (hb hby d4_1) (by decide) (W := 0) (by show 2 * 0 + _ ≤ _; exact Nat.le_of_eq rfl) (by decide)
  obtain ⟨T103, h103, k103, X103, e103, E103, A103, st103⟩ := newP X102 hx hZ (hw _ (List.mem_of_getElem? (i := 9) rfl)) e102 (g := (mkF m 6 #[rv o0, iv 1, iv 0] [(.int 1), (.ref o0)])) rfl (hb hby d4_6) rfl (by decide) (cap := 1) (by decide) (by decide) (by decide) (by decide)
  obtain ⟨st, g103⟩ : ∃ z, z = h0.size := ⟨_, rfl⟩
  have ne104 : o0 ≠ st := Nat.ne_of_lt (Nat.lt_of_lt_of_le E_o0.lt (Nat.le_of_eq g103.symm))
  have ge_st : n0 ≤ st := Nat.le_trans Z0 (Nat.le_of_eq g103.symm)
  have sz_st : h0.size ≤ st := Nat.le_trans K101.1 (Nat.le_of_eq g103.symm)
  rw [← g103] at A103 st103
  have f105 := E_o0.ext E103
  have f106 := F_start_o0.ext E103
  have f107 := F_degree_o0.ext E103
  have f108 := F_room_o0.ext E103
  have f109 := F_items_o0.ext E103
  have f110 := F_slots_o0.ext E103
  have f111 := F_end_o0.ext E103
  have f112 := F_held_o0.ext E103
  have f113 := F_size_o0.ext E103
  have f114 := F_bound_o0.ext E103
  have Z115 := Nat.le_trans Z0 E103.1
  have K116 := K101.ext E103
  have V_st_103 : Arv Z h103 st k103 .int (1 : Int32) [(.int 0)] (.int 0) := (Arv.new A103 (by decide)).pad (pad_rep [] (.int 0) 1)
  obtain ⟨T117, h117, X117, e117, W117, st117⟩ := putF X103 hx hZ hown (host := "") (Or.inl (hw _ (List.mem_of_getElem? (i := 10) rfl))) Via.refl e103 f106 f105 (Or.inr ⟨(hw _ (List.mem_of_getElem? (i := 11) rfl)), rfl, hnm⟩) (hw _ (List.mem_of_getElem? (i := 1) rfl)) (ty := (.array .int)) (by decide) rfl rfl (g := (mkF m 8 #[rv o0, iv 1, iv 0] [(.ref st), (.ref o0)])) rfl rfl (hb hby d4_8)
  have f118 := f105.wr W117
  have f119 := f107.other W117 (Or.inr (slot_ne (Or.inr (hw _ (List.mem_of_getElem? (i := 13) rfl))) (Or.inr (hw _ (List.mem_of_getElem? (i := 11) rfl))) (by decide) (t := (.array .int)) (t' := (.array .int)) (by decide) (by decide)))
  have f120 := f108.other W117 (Or.inr (slot_ne (Or.inl (hw _ (List.mem_of_getElem? (i := 15) rfl))) (Or.inr (hw _ (List.mem_of_getElem? (i := 11) rfl))) (by decide) (t := (.array .int)) (t' := (.array .int)) (by decide) (by decide)))
  have f121 := f109.other W117 (Or.inr (slot_ne (Or.inl (hw _ (List.mem_of_getElem? (i := 17) rfl))) (Or.inr (hw _ (List.mem_of_getElem? (i := 11) rfl))) (by decide) (t := (.array .int)) (t' := (.array .int)) (by decide) (by decide)))
  have f122 := f110.other W117 (Or.inr (slot_ne (Or.inl (hw _ (List.mem_of_getElem? (i := 53) rfl))) (Or.inr (hw _ (List.mem_of_getElem? (i := 11) rfl))) (by decide) (t := (.array .int)) (t' := (.array .int)) (by decide) (by decide)))
  have f123 := f111.other W117 (Or.inr (slot_ne (Or.inl (hw _ (List.mem_of_getElem? (i := 38) rfl))) (Or.inr (hw _ (List.mem_of_getElem? (i := 11) rfl))) (by decide) (t := .int) (t' := (.array .int)) (by decide) (by decide)))
  have f124 := f112.other W117 (Or.inr (slot_ne (Or.inl (hw _ (List.mem_of_getElem? (i := 44) rfl))) (Or.inr (hw _ (List.mem_of_getElem? (i := 11) rfl))) (by decide) (t := .int) (t' := (.array .int)) (by decide) (by decide)))
  have f125 := f113.other W117 (Or.inr (slot_ne (Or.inl (hw _ (List.mem_of_getElem? (i := 46) rfl))) (Or.inr (hw _ (List.mem_of_getElem? (i := 11) rfl))) (by decide) (t := .int) (t' := (.array .int)) (by decide) (by decide)))
  have f126 := f114.other W117 (Or.inr (slot_ne (Or.inl (hw _ (List.mem_of_getElem? (i := 28) rfl))) (Or.inr (hw _ (List.mem_of_getElem? (i := 11) rfl))) (by decide) (t := (.array .int)) (t' := (.array .int)) (by decide) (by decide)))
  have f127 := V_st_103.other W117 (Ne.symm ne104)
  have Z128 := Nat.le_trans Z115 (Keep.of_wr W117).1
  have K129 := K116.wr W117 (Or.inl (List.mem_of_getElem? (i := 0) rfl))
  have f130 := f106.same W117
  have N117 := Fr.snoc X117 N0 ge_o0
  obtain ⟨T131, h131, k131, X131, e131, E131, A131, st131⟩ := newP X117 hx hZ (hw _ (List.mem_of_getElem? (i := 9) rfl)) e117 (g := (mkF m 13 #[rv o0, iv 1, iv 0] [(.int 1), (.ref o0)])) rfl (hb hby d4_13) rfl (by decide) (cap := 1) (by decide) (by decide) (by decide) (by decide)
  obtain ⟨dg, g131⟩ : ∃ z, z = h117.size := ⟨_, rfl⟩
  have ne132 : o0 ≠ dg := Nat.ne_of_lt (Nat.lt_of_lt_of_le f118.lt (Nat.le_of_eq g131.symm))
  have ne133 : st ≠ dg := Nat.ne_of_lt (Nat.lt_of_lt_of_le f127.lt (Nat.le_of_eq g131.symm))
  have ge_dg : n0 ≤ dg := Nat.le_trans Z128 (Nat.le_of_eq g131.symm)
  have sz_dg : h0.size ≤ dg := Nat.le_trans K129.1 (Nat.le_of_eq g131.symm)
  rw [← g131] at A131 st131
  have f134 := f118.ext E131
  have f135 := f130.ext E131
  have f136 := f119.ext E131
  have f137 := f120.ext E131
  have f138 := f121.ext E131
  have f139 := f122.ext E131
  have f140 := f123.ext E131
  have f141 := f124.ext E131
  have f142 := f125.ext E131
  have f143 := f126.ext E131
  have f144 := f127.ext E131
  have Z145 := Nat.le_trans Z128 E131.1
  have K146 := K129.ext E131
  have V_dg_131 : Arv Z h131 dg k131 .int (1 : Int32) [(.int 0)] (.int 0) := (Arv.new A131 (by decide)).pad (pad_rep [] (.int 0) 1)
  obtain ⟨T147, h147, X147, e147, W147, st147⟩ := putF X131 hx hZ hown (host := "") (Or.inl (hw _ (List.mem_of_getElem? (i := 12) rfl))) Via.refl e131 f136 f134 (Or.inr ⟨(hw _ (List.mem_of_getElem? (i := 13) rfl)), rfl, hnm⟩) (hw _ (List.mem_of_getElem? (i := 1) rfl)) (ty := (.array .int)) (by decide) rfl rfl (g := (mkF m 15 #[rv o0, iv 1, iv 0] [(.ref dg), (.ref o0)])) rfl rfl (hb hby d4_15)
  have f148 := f134.wr W147
  have f149 := f135.other W147 (Or.inr (slot_ne (Or.inr (hw _ (List.mem_of_getElem? (i := 11) rfl))) (Or.inr (hw _ (List.mem_of_getElem? (i := 13) rfl))) (by decide) (t := (.array .int)) (t' := (.array .int)) (by decide) (by decide)))
  have f150 := f137.other W147 (Or.inr (slot_ne (Or.inl (hw _ (List.mem_of_getElem? (i := 15) rfl))) (Or.inr (hw _ (List.mem_of_getElem? (i := 13) rfl))) (by decide) (t := (.array .int)) (t' := (.array .int)) (by decide) (by decide)))
  have f151 := f138.other W147 (Or.inr (slot_ne (Or.inl (hw _ (List.mem_of_getElem? (i := 17) rfl))) (Or.inr (hw _ (List.mem_of_getElem? (i := 13) rfl))) (by decide) (t := (.array .int)) (t' := (.array .int)) (by decide) (by decide)))
  have f152 := f139.other W147 (Or.inr (slot_ne (Or.inl (hw _ (List.mem_of_getElem? (i := 53) rfl))) (Or.inr (hw _ (List.mem_of_getElem? (i := 13) rfl))) (by decide) (t := (.array .int)) (t' := (.array .int)) (by decide) (by decide)))
  have f153 := f140.other W147 (Or.inr (slot_ne (Or.inl (hw _ (List.mem_of_getElem? (i := 38) rfl))) (Or.inr (hw _ (List.mem_of_getElem? (i := 13) rfl))) (by decide) (t := .int) (t' := (.array .int)) (by decide) (by decide)))
  have f154 := f141.other W147 (Or.inr (slot_ne (Or.inl (hw _ (List.mem_of_getElem? (i := 44) rfl))) (Or.inr (hw _ (List.mem_of_getElem? (i := 13) rfl))) (by decide) (t := .int) (t' := (.array .int)) (by decide) (by decide)))
  have f155 := f142.other W147 (Or.inr (slot_ne (Or.inl (hw _ (List.mem_of_getElem? (i := 46) rfl))) (Or.inr (hw _ (List.mem_of_getElem? (i := 13) rfl))) (by decide) (t := .int) (t' := (.array .int)) (by decide) (by decide)))
  have f156 := f143.other W147 (Or.inr (slot_ne (Or.inl (hw _ (List.mem_of_getElem? (i := 28) rfl))) (Or.inr (hw _ (List.mem_of_getElem? (i := 13) rfl))) (by decide) (t := (.array .int)) (t' := (.array .int)) (by decide) (by decide)))
  have f157 := f144.other W147 (Ne.symm ne104)
  have f158 := V_dg_131.other W147 (Ne.symm ne132)
  have Z159 := Nat.le_trans Z145 (Keep.of_wr W147).1
  have K160 := K146.wr W147 (Or.inl (List.mem_of_getElem? (i := 0) rfl))
  have f161 := f136.same W147
  have N147 := Fr.snoc X147 N117 ge_o0
  obtain ⟨T162, h162, k162, X162, e162, E162, A162, st162⟩ := newP X147 hx hZ (hw _ (List.mem_of_getElem? (i := 9) rfl)) e147 (g := (mkF m 20 #[rv o0, iv 1, iv 0] [(.int 1), (.ref o0)])) rfl (hb hby d4_20) rfl (by decide) (cap := 1) (by decide) (by decide) (by decide) (by decide)
  obtain ⟨rm, g162⟩ : ∃ z, z = h147.size := ⟨_, rfl⟩
  have ne163 : o0 ≠ rm := Nat.ne_of_lt (Nat.lt_of_lt_of_le f148.lt (Nat.le_of_eq g162.symm))
  have ne164 : st ≠ rm := Nat.ne_of_lt (Nat.lt_of_lt_of_le f157.lt (Nat.le_of_eq g162.symm))
  have ne165 : dg ≠ rm := Nat.ne_of_lt (Nat.lt_of_lt_of_le f158.lt (Nat.le_of_eq g162.symm))
  have ge_rm : n0 ≤ rm := Nat.le_trans Z159 (Nat.le_of_eq g162.symm)
  have sz_rm : h0.size ≤ rm := Nat.le_trans K160.1 (Nat.le_of_eq g162.symm)
  rw [← g162] at A162 st162
  have f166 := f148.ext E162
  have f167 := f149.ext E162
  have f168 := f161.ext E162
  have f169 := f150.ext E162
  have f170 := f151.ext E162
  have f171 := f152.ext E162
  have f172 := f153.ext E162
  have f173 := f154.ext E162
  have f174 := f155.ext E162
  have f175 := f156.ext E162
  have f176 := f157.ext E162
  have f177 := f158.ext E162
  have Z178 := Nat.le_trans Z159 E162.1
  have K179 := K160.ext E162
  have V_rm_162 : Arv Z h162 rm k162 .int (1 : Int32) [(.int 0)] (.int 0) := (Arv.new A162 (by decide)).pad (pad_rep [] (.int 0) 1)
  obtain ⟨T180, h180, X180, e180, W180, st180⟩ := putF X162 hx hZ hown (host := "") (Or.inl (hw _ (List.mem_of_getElem? (i := 14) rfl))) Via.refl e162 f169 f166 (Or.inl (hw _ (List.mem_of_getElem? (i := 15) rfl))) (hw _ (List.mem_of_getElem? (i := 1) rfl)) (ty := (.array .int)) (by decide) rfl rfl (g := (mkF m 22 #[rv o0, iv 1, iv 0] [(.ref rm), (.ref o0)])) rfl rfl (hb hby d4_22)
  have f181 := f166.wr W180
  have f182 := f167.other W180 (Or.inr (slot_ne (Or.inr (hw _ (List.mem_of_getElem? (i := 11) rfl))) (Or.inl (hw _ (List.mem_of_getElem? (i := 15) rfl))) (by decide) (t := (.array .int)) (t' := (.array .int)) (by decide) (by decide)))
  have f183 := f168.other W180 (Or.inr (slot_ne (Or.inr (hw _ (List.mem_of_getElem? (i := 13) rfl))) (Or.inl (hw _ (List.mem_of_getElem? (i := 15) rfl))) (by decide) (t := (.array .int)) (t' := (.array .int)) (by decide) (by decide)))
  have f184 := f170.other W180 (Or.inr (slot_ne (Or.inl (hw _ (List.mem_of_getElem? (i := 17) rfl))) (Or.inl (hw _ (List.mem_of_getElem? (i := 15) rfl))) (by decide) (t := (.array .int)) (t' := (.array .int)) (by decide) (by decide)))
  have f185 := f171.other W180 (Or.inr (slot_ne (Or.inl (hw _ (List.mem_of_getElem? (i := 53) rfl))) (Or.inl (hw _ (List.mem_of_getElem? (i := 15) rfl))) (by decide) (t := (.array .int)) (t' := (.array .int)) (by decide) (by decide)))
  have f186 := f172.other W180 (Or.inr (slot_ne (Or.inl (hw _ (List.mem_of_getElem? (i := 38) rfl))) (Or.inl (hw _ (List.mem_of_getElem? (i := 15) rfl))) (by decide) (t := .int) (t' := (.array .int)) (by decide) (by decide)))
  have f187 := f173.other W180 (Or.inr (slot_ne (Or.inl (hw _ (List.mem_of_getElem? (i := 44) rfl))) (Or.inl (hw _ (List.mem_of_getElem? (i := 15) rfl))) (by decide) (t := .int) (t' := (.array .int)) (by decide) (by decide)))
  have f188 := f174.other W180 (Or.inr (slot_ne (Or.inl (hw _ (List.mem_of_getElem? (i := 46) rfl))) (Or.inl (hw _ (List.mem_of_getElem? (i := 15) rfl))) (by decide) (t := .int) (t' := (.array .int)) (by decide) (by decide)))
  have f189 := f175.other W180 (Or.inr (slot_ne (Or.inl (hw _ (List.mem_of_getElem? (i := 28) rfl))) (Or.inl (hw _ (List.mem_of_getElem? (i := 15) rfl))) (by decide) (t := (.array .int)) (t' := (.array .int)) (by decide) (by decide)))
  have f190 := f176.other W180 (Ne.symm ne104)
  have f191 := f177.other W180 (Ne.symm ne132)
  have f192 := V_rm_162.other W180 (Ne.symm ne163)
  have Z193 := Nat.le_trans Z178 (Keep.of_wr W180).1
  have K194 := K179.wr W180 (Or.inl (List.mem_of_getElem? (i := 0) rfl))
  have f195 := f169.same W180
  have N180 := Fr.snoc X180 N147 ge_o0
  obtain ⟨T196, h196, k196, X196, e196, E196, A196, st196⟩ := newP X180 hx hZ (hw _ (List.mem_of_getElem? (i := 9) rfl)) e180 (g := (mkF m 27 #[rv o0, iv 1, iv 0] [(.int 0), (.ref o0)])) rfl (hb hby d4_27) rfl (by decide) (cap := 0) (by decide) (by decide) (by decide) (by decide)
  obtain ⟨it, g196⟩ : ∃ z, z = h180.size := ⟨_, rfl⟩
  have ne197 : o0 ≠ it := Nat.ne_of_lt (Nat.lt_of_lt_of_le f181.lt (Nat.le_of_eq g196.symm))
  have ne198 : st ≠ it := Nat.ne_of_lt (Nat.lt_of_lt_of_le f190.lt (Nat.le_of_eq g196.symm))
  have ne199 : dg ≠ it := Nat.ne_of_lt (Nat.lt_of_lt_of_le f191.lt (Nat.le_of_eq g196.symm))
  have ne200 : rm ≠ it := Nat.ne_of_lt (Nat.lt_of_lt_of_le f192.lt (Nat.le_of_eq g196.symm))
  have ge_it : n0 ≤ it := Nat.le_trans Z193 (Nat.le_of_eq g196.symm)
  have sz_it : h0.size ≤ it := Nat.le_trans K194.1 (Nat.le_of_eq g196.symm)
  rw [← g196] at A196 st196
  have f201 := f181.ext E196
  have f202 := f182.ext E196
  have f203 := f183.ext E196
  have f204 := f195.ext E196
  have f205 := f184.ext E196
  have f206 := f185.ext E196
  have f207 := f186.ext E196
  have f208 := f187.ext E196
  have f209 := f188.ext E196
  have f210 := f189.ext E196
  have f211 := f190.ext E196
  have f212 := f191.ext E196
  have f213 := f192.ext E196
  have Z214 := Nat.le_trans Z193 E196.1
  have K215 := K194.ext E196
  have V_it_196 : Arv Z h196 it k196 .int (0 : Int32) [] (.int 0) := (Arv.new A196 (by decide)).pad (pad_rep [] (.int 0) 0)
  obtain ⟨T216, h216, X216, e216, W216, st216⟩ := putF X196 hx hZ hown (host := "") (Or.inl (hw _ (List.mem_of_getElem? (i := 16) rfl))) Via.refl e196 f205 f201 (Or.inl (hw _ (List.mem_of_getElem? (i := 17) rfl))) (hw _ (List.mem_of_getElem? (i := 1) rfl)) (ty := (.array .int)) (by decide) rfl rfl (g := (mkF m 29 #[rv o0, iv 1, iv 0] [(.ref it), (.ref o0)])) rfl rfl (hb hby d4_29)
  have f217 := f201.wr W216
  have f218 := f202.other W216 (Or.inr (slot_ne (Or.inr (hw _ (List.mem_of_getElem? (i := 11) rfl))) (Or.inl (hw _ (List.mem_of_getElem? (i := 17) rfl))) (by decide) (t := (.array .int)) (t' := (.array .int)) (by decide) (by decide)))
  have f219 := f203.other W216 (Or.inr (slot_ne (Or.inr (hw _ (List.mem_of_getElem? (i := 13) rfl))) (Or.inl (hw _ (List.mem_of_getElem? (i := 17) rfl))) (by decide) (t := (.array .int)) (t' := (.array .int)) (by decide) (by decide)))
  have f220 := f204.other W216 (Or.inr (slot_ne (Or.inl (hw _ (List.mem_of_getElem? (i := 15) rfl))) (Or.inl (hw _ (List.mem_of_getElem? (i := 17) rfl))) (by decide) (t := (.array .int)) (t' := (.array .int)) (by decide) (by decide)))
  have f221 := f206.other W216 (Or.inr (slot_ne (Or.inl (hw _ (List.mem_of_getElem? (i := 53) rfl))) (Or.inl (hw _ (List.mem_of_getElem? (i := 17) rfl))) (by decide) (t := (.array .int)) (t' := (.array .int)) (by decide) (by decide)))
  have f222 := f207.other W216 (Or.inr (slot_ne (Or.inl (hw _ (List.mem_of_getElem? (i := 38) rfl))) (Or.inl (hw _ (List.mem_of_getElem? (i := 17) rfl))) (by decide) (t := .int) (t' := (.array .int)) (by decide) (by decide)))
  have f223 := f208.other W216 (Or.inr (slot_ne (Or.inl (hw _ (List.mem_of_getElem? (i := 44) rfl))) (Or.inl (hw _ (List.mem_of_getElem? (i := 17) rfl))) (by decide) (t := .int) (t' := (.array .int)) (by decide) (by decide)))
  have f224 := f209.other W216 (Or.inr (slot_ne (Or.inl (hw _ (List.mem_of_getElem? (i := 46) rfl))) (Or.inl (hw _ (List.mem_of_getElem? (i := 17) rfl))) (by decide) (t := .int) (t' := (.array .int)) (by decide) (by decide)))
  have f225 := f210.other W216 (Or.inr (slot_ne (Or.inl (hw _ (List.mem_of_getElem? (i := 28) rfl))) (Or.inl (hw _ (List.mem_of_getElem? (i := 17) rfl))) (by decide) (t := (.array .int)) (t' := (.array .int)) (by decide) (by decide)))
  have f226 := f211.other W216 (Ne.symm ne104)
  have f227 := f212.other W216 (Ne.symm ne132)
  have f228 := f213.other W216 (Ne.symm ne163)
  have f229 := V_it_196.other W216 (Ne.symm ne197)
  have Z230 := Nat.le_trans Z214 (Keep.of_wr W216).1
  have K231 := K215.wr W216 (Or.inl (List.mem_of_getElem? (i := 0) rfl))
  have f232 := f205.same W216
  have N216 := Fr.snoc X216 N180 ge_o0
  have go233 : ∀ t, Steps p.tables e below (T216.setTop (mkF m 32 #[rv o0, iv 1, iv 0] [])) t → Steps p.tables e below O t := fun t k => go0 t (by
    refine XS.aloadN X0.here hx rfl (hb hby d4_0) rfl rfl ?_
    refine st102 _ ?_
    show Steps _ _ _ (T102.setTop (mkF m 4 _ [])) _
    refine XS.aloadN X102.here hx rfl (hb hby d4_4) rfl rfl ?_
    refine XS.iloadN X102.here hx rfl (hb hby d4_5) rfl ?_
    show Steps _ _ _ (T102.setTop (mkF m 6 _ [(.int 1), (.ref o0)])) _
    refine st103 _ ?_
    show Steps _ _ _ (T103.setTop (mkF m 8 _ [(.ref st), (.ref o0)])) _
    refine st117 _ ?_
    show Steps _ _ _ (T117.setTop (mkF m 11 _ [])) _
    refine XS.aloadN X117.here hx rfl (hb hby d4_11) rfl rfl ?_
    refine XS.iloadN X117.here hx rfl (hb hby d4_12) rfl ?_
    show Steps _ _ _ (T117.setTop (mkF m 13 _ [(.int 1), (.ref o0)])) _
    refine st131 _ ?_
    show Steps _ _ _ (T131.setTop (mkF m 15 _ [(.ref dg), (.ref o0)])) _
    refine st147 _ ?_
    show Steps _ _ _ (T147.setTop (mkF m 18 _ [])) _
    refine XS.aloadN X147.here hx rfl (hb hby d4_18) rfl rfl ?_
    refine XS.iloadN X147.here hx rfl (hb hby d4_19) rfl ?_
    show Steps _ _ _ (T147.setTop (mkF m 20 _ [(.int 1), (.ref o0)])) _
    refine st162 _ ?_
    show Steps _ _ _ (T162.setTop (mkF m 22 _ [(.ref rm), (.ref o0)])) _
    refine st180 _ ?_
    show Steps _ _ _ (T180.setTop (mkF m 25 _ [])) _
    refine XS.aloadN X180.here hx rfl (hb hby d4_25) rfl rfl ?_
    refine XS.iloadN X180.here hx rfl (hb hby d4_26) rfl ?_
    show Steps _ _ _ (T180.setTop (mkF m 27 _ [(.int 0), (.ref o0)])) _
    refine st196 _ ?_
    show Steps _ _ _ (T196.setTop (mkF m 29 _ [(.ref it), (.ref o0)])) _
    refine st216 _ ?_
    show Steps _ _ _ (T216.setTop (mkF m 32 _ [])) _
    exact k)
  rw [hO] at go233
  obtain ⟨fs, hr, hrun, hended, hW, hsame⟩ := X216.leave (v := none) (fun _ => rfl)
  refine ⟨_, _, go233 _ ?_, hrun, hended, _, _, rfl, ?_, ⟨_, rfl⟩, hW, hsame.mono (by decide) (by decide)⟩
  · exact X216.returnOut hx Bd.returns (hb hby d4_32) hr
  · show Q_c20 Z o0 h0 n0 _ T216.heap _
    rw [e216]
    exact ⟨st, dg, rm, it, k103, k131, k162, k196, rfl, N216, K231, ⟨f217, ge_o0, ge_st, ge_dg, ge_rm, ge_it, f218, f219, f220, f232, f221, f222, f223, f224, f225, f226, f227, f228, f229, ne104, ne132, ne163, ne197, ne133, ne164, ne198, ne165, ne199, ne200⟩⟩
theorem ef_c24 (m : MethodId) (x0 : Addr) (x1 : Int32) (x2 : Int32) : entryFrame m #[(.ref x0), (.int x1), (.int x2)] 3 = mkF m 0 #[rv x0, iv x1, iv x2] [] := by first | (simp [entryFrame, mkF, argsToLocals, Value.category]; done) | rfl
def Q_c24 (Z : State) (o0 : Addr) (h0 : Heap) (n0 : Nat) (v : Option Value) (h : Heap) (L : List Loc) : Prop := ∃ (st dg rm it : Addr) (k1 k2 k3 k4 : ClassId), v = none ∧ Fr n0 L ∧ Keep h0 h [o0] ∧ own_A Z h n0 o0 st dg rm it k1 k2 k3 k4 (4 : Int32) [.int (0 : Int32), .int (0 : Int32), .int (0 : Int32), .int (0 : Int32)] .null (0 : Int32) (0 : Int32) (0 : Int32) (0 : Int32) (0 : Int32)
set_option maxRecDepth 65536 in
set_option maxHeartbeats 40000000 in
theorem rm_c24 (l : Launch) (Z : State) (a0 : Array Value) (hw : ∀ d ∈ tables_1, d.before a0 Z = true) (ws : List Jvm.Cond) (o0 : Addr) (h0 : Heap) (n0 : Nat) (Z0 : n0 ≤ h0.size) (E_o0 : Exa Z h0 o0 "com/example/plebiscite/plebiscite/Adjacency") (ge_o0 : n0 ≤ o0) (F_start_o0 : Fld Z h0 o0 "com/example/plebiscite/plebiscite/Adjacency" "start" "[I" .null) (F_degree_o0 : Fld Z h0 o0 "com/example/plebiscite/plebiscite/Adjacency" "degree" "[I" .null) (F_room_o0 : Fld Z h0 o0 "com/example/plebiscite/plebiscite/Adjacency" "room" "[I" .null) (F_items_o0 : Fld Z h0 o0 "com/example/plebiscite/plebiscite/Adjacency" "items" "[I" .null) (F_slots_o0 : Fld Z h0 o0 "com/example/plebiscite/plebiscite/Adjacency" "slots" "[I" .null) (F_end_o0 : Fld Z h0 o0 "com/example/plebiscite/plebiscite/Adjacency" "end" "I" (.int 0)) (F_held_o0 : Fld Z h0 o0 "com/example/plebiscite/plebiscite/Adjacency" "held" "I" (.int 0)) (F_size_o0 : Fld Z h0 o0 "com/example/plebiscite/plebiscite/Adjacency" "size" "I" (.int 0)) (F_bound_o0 : Fld Z h0 o0 "com/example/plebiscite/plebiscite/Adjacency" "bound" "[I" .null) :
    MetFree l (⟨"com/example/plebiscite/plebiscite/Adjacency", "<init>", "(II)V"⟩ : MethodName) (head1 (Jvm.Cond.code (⟨"com/example/plebiscite/plebiscite/Adjacency", "<init>", "(II)V"⟩ : MethodName) prog_2_method_2_code 3 none :: ws) ({ frames := 1, cells := 4, slots := 7, locals := 12 } : Room)) (fun a U => a = #[(.ref o0), (.int 1), (.int 4)] ∧ Z.Warmed39 U.vm ∧ U.heap = h0) (fun _ _ _ _ _ => True) (fun _ U o U' => ∃ v L, o = .returned v ∧ Q_c24 Z o0 h0 n0 v U'.heap L ∧ FrameEnd U o U' L ({ frames := 1, cells := 4, slots := 7, locals := 12 } : Room).cells ({ frames := 1, cells := 4, slots := 7, locals := 12 } : Room).slots) := by
  refine MetFree.of_bodySF (plainFor_of_name pn_0) hisR ?_
  intro p e s m args below meth c s₁ Bd hml0 hP hK
  obtain ⟨rfl, hZ, hh⟩ := hP
  have hx := Bd.exec
  have hby := Bd.bytes
  have hml : c.maxLocals = 3 := hml0
  have hown : s.vm.findClass "com/example/plebiscite/plebiscite/Adjacency" = some m.cls := findClass_of_methodNamed Bd.named
  have hnm := (name_of_methodNamed Bd.named Bd.method).1
  have X0 : Stand p l e ({ frames := 1, cells := 4, slots := 7, locals := 12 } : Room) s m #[(.ref o0), (.int 1), (.int 4)] below meth c s₁ [] 0 0 := Stand.of_body Bd
  have e0 : s₁.heap = h0 := by rw [← hh, Bd.state]; rfl
  have N0 := Fr.nil n0
  have go0 : ∀ t, Steps p.tables e below (s₁.setTop (mkF m 0 #[rv o0, iv 1, iv 4] [])) t → Steps p.tables e below (s₁.setTop (entryFrame m #[(.ref o0), (.int 1), (.int 4)] 3)) t := fun t k => castTop (ef_c24 m o0 (1 : Int32) (4 : Int32)) k
  obtain ⟨O, hO⟩ : ∃ z, z = (s₁.setTop (entryFrame m #[(.ref o0), (.int 1), (.int 4)] 3)) := ⟨_, rfl⟩
  rw [← hO] at go0
  have K101 := Keep.refl h0 [o0]
  obtain ⟨T102, X102, e102, st102⟩ := initO X0 hx hZ hown (hw _ (List.mem_of_getElem? (i := 6) rfl)) (hw _ (List.mem_of_getElem? (i := 7) rfl)) (hw _ (List.mem_of_getElem? (i := 8) rfl)) e0 (g := (mkF m 1 #[rv o0, iv 1, iv 4] [(.ref o0)])) rfl (by rw [hml]; rfl) rfl (hb hby d4_1) (by decide) (W := 0) (by show 2 * 0 + _ ≤ _; exact Nat.le_of_eq rfl) (by decide)
  obtain ⟨T103, h103, k103, X103, e103, E103, A103, st103⟩ := newP X102 hx hZ (hw _ (List.mem_of_getElem? (i := 9) rfl)) e102 (g := (mkF m 6 #[rv o0, iv 1, iv 4] [(.int 1), (.ref o0)])) rfl (hb hby d4_6) rfl (by decide) (cap := 1) (by decide) (by decide) (by decide) (by decide)
  obtain ⟨st, g103⟩ : ∃ z, z = h0.size := ⟨_, rfl⟩
  have ne104 : o0 ≠ st := Nat.ne_of_lt (Nat.lt_of_lt_of_le E_o0.lt (Nat.le_of_eq g103.symm))
  have ge_st : n0 ≤ st := Nat.le_trans Z0 (Nat.le_of_eq g103.symm)
  have sz_st : h0.size ≤ st := Nat.le_trans K101.1 (Nat.le_of_eq g103.symm)
  rw [← g103] at A103 st103
  have f105 := E_o0.ext E103
  have f106 := F_start_o0.ext E103
  have f107 := F_degree_o0.ext E103
  have f108 := F_room_o0.ext E103
  have f109 := F_items_o0.ext E103
  have f110 := F_slots_o0.ext E103
  have f111 := F_end_o0.ext E103
  have f112 := F_held_o0.ext E103
  have f113 := F_size_o0.ext E103
  have f114 := F_bound_o0.ext E103
  have Z115 := Nat.le_trans Z0 E103.1
  have K116 := K101.ext E103
  have V_st_103 : Arv Z h103 st k103 .int (1 : Int32) [(.int 0)] (.int 0) := (Arv.new A103 (by decide)).pad (pad_rep [] (.int 0) 1)
  obtain ⟨T117, h117, X117, e117, W117, st117⟩ := putF X103 hx hZ hown (host := "") (Or.inl (hw _ (List.mem_of_getElem? (i := 10) rfl))) Via.refl e103 f106 f105 (Or.inr ⟨(hw _ (List.mem_of_getElem? (i := 11) rfl)), rfl, hnm⟩) (hw _ (List.mem_of_getElem? (i := 1) rfl)) (ty := (.array .int)) (by decide) rfl rfl (g := (mkF m 8 #[rv o0, iv 1, iv 4] [(.ref st), (.ref o0)])) rfl rfl (hb hby d4_8)
  have f118 := f105.wr W117
  have f119 := f107.other W117 (Or.inr (slot_ne (Or.inr (hw _ (List.mem_of_getElem? (i := 13) rfl))) (Or.inr (hw _ (List.mem_of_getElem? (i := 11) rfl))) (by decide) (t := (.array .int)) (t' := (.array .int)) (by decide) (by decide)))
  have f120 := f108.other W117 (Or.inr (slot_ne (Or.inl (hw _ (List.mem_of_getElem? (i := 15) rfl))) (Or.inr (hw _ (List.mem_of_getElem? (i := 11) rfl))) (by decide) (t := (.array .int)) (t' := (.array .int)) (by decide) (by decide)))
  have f121 := f109.other W117 (Or.inr (slot_ne (Or.inl (hw _ (List.mem_of_getElem? (i := 17) rfl))) (Or.inr (hw _ (List.mem_of_getElem? (i := 11) rfl))) (by decide) (t := (.array .int)) (t' := (.array .int)) (by decide) (by decide)))
  have f122 := f110.other W117 (Or.inr (slot_ne (Or.inl (hw _ (List.mem_of_getElem? (i := 53) rfl))) (Or.inr (hw _ (List.mem_of_getElem? (i := 11) rfl))) (by decide) (t := (.array .int)) (t' := (.array .int)) (by decide) (by decide)))
  have f123 := f111.other W117 (Or.inr (slot_ne (Or.inl (hw _ (List.mem_of_getElem? (i := 38) rfl))) (Or.inr (hw _ (List.mem_of_getElem? (i := 11) rfl))) (by decide) (t := .int) (t' := (.array .int)) (by decide) (by decide)))
  have f124 := f112.other W117 (Or.inr (slot_ne (Or.inl (hw _ (List.mem_of_getElem? (i := 44) rfl))) (Or.inr (hw _ (List.mem_of_getElem? (i := 11) rfl))) (by decide) (t := .int) (t' := (.array .int)) (by decide) (by decide)))
  have f125 := f113.other W117 (Or.inr (slot_ne (Or.inl (hw _ (List.mem_of_getElem? (i := 46) rfl))) (Or.inr (hw _ (List.mem_of_getElem? (i := 11) rfl))) (by decide) (t := .int) (t' := (.array .int)) (by decide) (by decide)))
  have f126 := f114.other W117 (Or.inr (slot_ne (Or.inl (hw _ (List.mem_of_getElem? (i := 28) rfl))) (Or.inr (hw _ (List.mem_of_getElem? (i := 11) rfl))) (by decide) (t := (.array .int)) (t' := (.array .int)) (by decide) (by decide)))
  have f127 := V_st_103.other W117 (Ne.symm ne104)
  have Z128 := Nat.le_trans Z115 (Keep.of_wr W117).1
  have K129 := K116.wr W117 (Or.inl (List.mem_of_getElem? (i := 0) rfl))
  have f130 := f106.same W117
  have N117 := Fr.snoc X117 N0 ge_o0
  obtain ⟨T131, h131, k131, X131, e131, E131, A131, st131⟩ := newP X117 hx hZ (hw _ (List.mem_of_getElem? (i := 9) rfl)) e117 (g := (mkF m 13 #[rv o0, iv 1, iv 4] [(.int 1), (.ref o0)])) rfl (hb hby d4_13) rfl (by decide) (cap := 1) (by decide) (by decide) (by decide) (by decide)
  obtain ⟨dg, g131⟩ : ∃ z, z = h117.size := ⟨_, rfl⟩
  have ne132 : o0 ≠ dg := Nat.ne_of_lt (Nat.lt_of_lt_of_le f118.lt (Nat.le_of_eq g131.symm))
  have ne133 : st ≠ dg := Nat.ne_of_lt (Nat.lt_of_lt_of_le f127.lt (Nat.le_of_eq g131.symm))
  have ge_dg : n0 ≤ dg := Nat.le_trans Z128 (Nat.le_of_eq g131.symm)
  have sz_dg : h0.size ≤ dg := Nat.le_trans K129.1 (Nat.le_of_eq g131.symm)
  rw [← g131] at A131 st131
  have f134 := f118.ext E131
  have f135 := f130.ext E131
  have f136 := f119.ext E131
  have f137 := f120.ext E131
  have f138 := f121.ext E131
  have f139 := f122.ext E131
  have f140 := f123.ext E131
  have f141 := f124.ext E131
  have f142 := f125.ext E131
  have f143 := f126.ext E131
  have f144 := f127.ext E131
  have Z145 := Nat.le_trans Z128 E131.1
  have K146 := K129.ext E131
  have V_dg_131 : Arv Z h131 dg k131 .int (1 : Int32) [(.int 0)] (.int 0) := (Arv.new A131 (by decide)).pad (pad_rep [] (.int 0) 1)
  obtain ⟨T147, h147, X147, e147, W147, st147⟩ := putF X131 hx hZ hown (host := "") (Or.inl (hw _ (List.mem_of_getElem? (i := 12) rfl))) Via.refl e131 f136 f134 (Or.inr ⟨(hw _ (List.mem_of_getElem? (i := 13) rfl)), rfl, hnm⟩) (hw _ (List.mem_of_getElem? (i := 1) rfl)) (ty := (.array .int)) (by decide) rfl rfl (g := (mkF m 15 #[rv o0, iv 1, iv 4] [(.ref dg), (.ref o0)])) rfl rfl (hb hby d4_15)
  have f148 := f134.wr W147
  have f149 := f135.other W147 (Or.inr (slot_ne (Or.inr (hw _ (List.mem_of_getElem? (i := 11) rfl))) (Or.inr (hw _ (List.mem_of_getElem? (i := 13) rfl))) (by decide) (t := (.array .int)) (t' := (.array .int)) (by decide) (by decide)))
  have f150 := f137.other W147 (Or.inr (slot_ne (Or.inl (hw _ (List.mem_of_getElem? (i := 15) rfl))) (Or.inr (hw _ (List.mem_of_getElem? (i := 13) rfl))) (by decide) (t := (.array .int)) (t' := (.array .int)) (by decide) (by decide)))
  have f151 := f138.other W147 (Or.inr (slot_ne (Or.inl (hw _ (List.mem_of_getElem? (i := 17) rfl))) (Or.inr (hw _ (List.mem_of_getElem? (i := 13) rfl))) (by decide) (t := (.array .int)) (t' := (.array .int)) (by decide) (by decide)))
  have f152 := f139.other W147 (Or.inr (slot_ne (Or.inl (hw _ (List.mem_of_getElem? (i := 53) rfl))) (Or.inr (hw _ (List.mem_of_getElem? (i := 13) rfl))) (by decide) (t := (.array .int)) (t' := (.array .int)) (by decide) (by decide)))
  have f153 := f140.other W147 (Or.inr (slot_ne (Or.inl (hw _ (List.mem_of_getElem? (i := 38) rfl))) (Or.inr (hw _ (List.mem_of_getElem? (i := 13) rfl))) (by decide) (t := .int) (t' := (.array .int)) (by decide) (by decide)))
  have f154 := f141.other W147 (Or.inr (slot_ne (Or.inl (hw _ (List.mem_of_getElem? (i := 44) rfl))) (Or.inr (hw _ (List.mem_of_getElem? (i := 13) rfl))) (by decide) (t := .int) (t' := (.array .int)) (by decide) (by decide)))
  have f155 := f142.other W147 (Or.inr (slot_ne (Or.inl (hw _ (List.mem_of_getElem? (i := 46) rfl))) (Or.inr (hw _ (List.mem_of_getElem? (i := 13) rfl))) (by decide) (t := .int) (t' := (.array .int)) (by decide) (by decide)))
  have f156 := f143.other W147 (Or.inr (slot_ne (Or.inl (hw _ (List.mem_of_getElem? (i := 28) rfl))) (Or.inr (hw _ (List.mem_of_getElem? (i := 13) rfl))) (by decide) (t := (.array .int)) (t' := (.array .int)) (by decide) (by decide)))
  have f157 := f144.other W147 (Ne.symm ne104)
  have f158 := V_dg_131.other W147 (Ne.symm ne132)
  have Z159 := Nat.le_trans Z145 (Keep.of_wr W147).1
  have K160 := K146.wr W147 (Or.inl (List.mem_of_getElem? (i := 0) rfl))
  have f161 := f136.same W147
  have N147 := Fr.snoc X147 N117 ge_o0
  obtain ⟨T162, h162, k162, X162, e162, E162, A162, st162⟩ := newP X147 hx hZ (hw _ (List.mem_of_getElem? (i := 9) rfl)) e147 (g := (mkF m 20 #[rv o0, iv 1, iv 4] [(.int 1), (.ref o0)])) rfl (hb hby d4_20) rfl (by decide) (cap := 1) (by decide) (by decide) (by decide) (by decide)
  obtain ⟨rm, g162⟩ : ∃ z, z = h147.size := ⟨_, rfl⟩
  have ne163 : o0 ≠ rm := Nat.ne_of_lt (Nat.lt_of_lt_of_le f148.lt (Nat.le_of_eq g162.symm))
  have ne164 : st ≠ rm := Nat.ne_of_lt (Nat.lt_of_lt_of_le f157.lt (Nat.le_of_eq g162.symm))
  have ne165 : dg ≠ rm := Nat.ne_of_lt (Nat.lt_of_lt_of_le f158.lt (Nat.le_of_eq g162.symm))
  have ge_rm : n0 ≤ rm := Nat.le_trans Z159 (Nat.le_of_eq g162.symm)
  have sz_rm : h0.size ≤ rm := Nat.le_trans K160.1 (Nat.le_of_eq g162.symm)
  rw [← g162] at A162 st162
  have f166 := f148.ext E162
  have f167 := f149.ext E162
  have f168 := f161.ext E162
  have f169 := f150.ext E162
  have f170 := f151.ext E162
  have f171 := f152.ext E162
  have f172 := f153.ext E162
  have f173 := f154.ext E162
  have f174 := f155.ext E162
  have f175 := f156.ext E162
  have f176 := f157.ext E162
  have f177 := f158.ext E162
  have Z178 := Nat.le_trans Z159 E162.1
  have K179 := K160.ext E162
  have V_rm_162 : Arv Z h162 rm k162 .int (1 : Int32) [(.int 0)] (.int 0) := (Arv.new A162 (by decide)).pad (pad_rep [] (.int 0) 1)
  obtain ⟨T180, h180, X180, e180, W180, st180⟩ := putF X162 hx hZ hown (host := "") (Or.inl (hw _ (List.mem_of_getElem? (i := 14) rfl))) Via.refl e162 f169 f166 (Or.inl (hw _ (List.mem_of_getElem? (i := 15) rfl))) (hw _ (List.mem_of_getElem? (i := 1) rfl)) (ty := (.array .int)) (by decide) rfl rfl (g := (mkF m 22 #[rv o0, iv 1, iv 4] [(.ref rm), (.ref o0)])) rfl rfl (hb hby d4_22)
  have f181 := f166.wr W180
  have f182 := f167.other W180 (Or.inr (slot_ne (Or.inr (hw _ (List.mem_of_getElem? (i := 11) rfl))) (Or.inl (hw _ (List.mem_of_getElem? (i := 15) rfl))) (by decide) (t := (.array .int)) (t' := (.array .int)) (by decide) (by decide)))
  have f183 := f168.other W180 (Or.inr (slot_ne (Or.inr (hw _ (List.mem_of_getElem? (i := 13) rfl))) (Or.inl (hw _ (List.mem_of_getElem? (i := 15) rfl))) (by decide) (t := (.array .int)) (t' := (.array .int)) (by decide) (by decide)))
  have f184 := f170.other W180 (Or.inr (slot_ne (Or.inl (hw _ (List.mem_of_getElem? (i := 17) rfl))) (Or.inl (hw _ (List.mem_of_getElem? (i := 15) rfl))) (by decide) (t := (.array .int)) (t' := (.array .int)) (by decide) (by decide)))
  have f185 := f171.other W180 (Or.inr (slot_ne (Or.inl (hw _ (List.mem_of_getElem? (i := 53) rfl))) (Or.inl (hw _ (List.mem_of_getElem? (i := 15) rfl))) (by decide) (t := (.array .int)) (t' := (.array .int)) (by decide) (by decide)))
  have f186 := f172.other W180 (Or.inr (slot_ne (Or.inl (hw _ (List.mem_of_getElem? (i := 38) rfl))) (Or.inl (hw _ (List.mem_of_getElem? (i := 15) rfl))) (by decide) (t := .int) (t' := (.array .int)) (by decide) (by decide)))
  have f187 := f173.other W180 (Or.inr (slot_ne (Or.inl (hw _ (List.mem_of_getElem? (i := 44) rfl))) (Or.inl (hw _ (List.mem_of_getElem? (i := 15) rfl))) (by decide) (t := .int) (t' := (.array .int)) (by decide) (by decide)))
  have f188 := f174.other W180 (Or.inr (slot_ne (Or.inl (hw _ (List.mem_of_getElem? (i := 46) rfl))) (Or.inl (hw _ (List.mem_of_getElem? (i := 15) rfl))) (by decide) (t := .int) (t' := (.array .int)) (by decide) (by decide)))
  have f189 := f175.other W180 (Or.inr (slot_ne (Or.inl (hw _ (List.mem_of_getElem? (i := 28) rfl))) (Or.inl (hw _ (List.mem_of_getElem? (i := 15) rfl))) (by decide) (t := (.array .int)) (t' := (.array .int)) (by decide) (by decide)))
  have f190 := f176.other W180 (Ne.symm ne104)
  have f191 := f177.other W180 (Ne.symm ne132)
  have f192 := V_rm_162.other W180 (Ne.symm ne163)
  have Z193 := Nat.le_trans Z178 (Keep.of_wr W180).1
  have K194 := K179.wr W180 (Or.inl (List.mem_of_getElem? (i := 0) rfl))
  have f195 := f169.same W180
  have N180 := Fr.snoc X180 N147 ge_o0
  obtain ⟨T196, h196, k196, X196, e196, E196, A196, st196⟩ := newP X180 hx hZ (hw _ (List.mem_of_getElem? (i := 9) rfl)) e180 (g := (mkF m 27 #[rv o0, iv 1, iv 4] [(.int 4), (.ref o0)])) rfl (hb hby d4_27) rfl (by decide) (cap := 4) (by decide) (by decide) (by decide) (by decide)
  obtain ⟨it, g196⟩ : ∃ z, z = h180.size := ⟨_, rfl⟩
  have ne197 : o0 ≠ it := Nat.ne_of_lt (Nat.lt_of_lt_of_le f181.lt (Nat.le_of_eq g196.symm))
  have ne198 : st ≠ it := Nat.ne_of_lt (Nat.lt_of_lt_of_le f190.lt (Nat.le_of_eq g196.symm))
  have ne199 : dg ≠ it := Nat.ne_of_lt (Nat.lt_of_lt_of_le f191.lt (Nat.le_of_eq g196.symm))
  have ne200 : rm ≠ it := Nat.ne_of_lt (Nat.lt_of_lt_of_le f192.lt (Nat.le_of_eq g196.symm))
  have ge_it : n0 ≤ it := Nat.le_trans Z193 (Nat.le_of_eq g196.symm)
  have sz_it : h0.size ≤ it := Nat.le_trans K194.1 (Nat.le_of_eq g196.symm)
  rw [← g196] at A196 st196
  have f201 := f181.ext E196
  have f202 := f182.ext E196
  have f203 := f183.ext E196
  have f204 := f195.ext E196
  have f205 := f184.ext E196
  have f206 := f185.ext E196
  have f207 := f186.ext E196
  have f208 := f187.ext E196
  have f209 := f188.ext E196
  have f210 := f189.ext E196
  have f211 := f190.ext E196
  have f212 := f191.ext E196
  have f213 := f192.ext E196
  have Z214 := Nat.le_trans Z193 E196.1
  have K215 := K194.ext E196
  have V_it_196 : Arv Z h196 it k196 .int (4 : Int32) [(.int 0), (.int 0), (.int 0), (.int 0)] (.int 0) := (Arv.new A196 (by decide)).pad (pad_rep [] (.int 0) 4)
  obtain ⟨T216, h216, X216, e216, W216, st216⟩ := putF X196 hx hZ hown (host := "") (Or.inl (hw _ (List.mem_of_getElem? (i := 16) rfl))) Via.refl e196 f205 f201 (Or.inl (hw _ (List.mem_of_getElem? (i := 17) rfl))) (hw _ (List.mem_of_getElem? (i := 1) rfl)) (ty := (.array .int)) (by decide) rfl rfl (g := (mkF m 29 #[rv o0, iv 1, iv 4] [(.ref it), (.ref o0)])) rfl rfl (hb hby d4_29)
  have f217 := f201.wr W216
  have f218 := f202.other W216 (Or.inr (slot_ne (Or.inr (hw _ (List.mem_of_getElem? (i := 11) rfl))) (Or.inl (hw _ (List.mem_of_getElem? (i := 17) rfl))) (by decide) (t := (.array .int)) (t' := (.array .int)) (by decide) (by decide)))
  have f219 := f203.other W216 (Or.inr (slot_ne (Or.inr (hw _ (List.mem_of_getElem? (i := 13) rfl))) (Or.inl (hw _ (List.mem_of_getElem? (i := 17) rfl))) (by decide) (t := (.array .int)) (t' := (.array .int)) (by decide) (by decide)))
  have f220 := f204.other W216 (Or.inr (slot_ne (Or.inl (hw _ (List.mem_of_getElem? (i := 15) rfl))) (Or.inl (hw _ (List.mem_of_getElem? (i := 17) rfl))) (by decide) (t := (.array .int)) (t' := (.array .int)) (by decide) (by decide)))
  have f221 := f206.other W216 (Or.inr (slot_ne (Or.inl (hw _ (List.mem_of_getElem? (i := 53) rfl))) (Or.inl (hw _ (List.mem_of_getElem? (i := 17) rfl))) (by decide) (t := (.array .int)) (t' := (.array .int)) (by decide) (by decide)))
  have f222 := f207.other W216 (Or.inr (slot_ne (Or.inl (hw _ (List.mem_of_getElem? (i := 38) rfl))) (Or.inl (hw _ (List.mem_of_getElem? (i := 17) rfl))) (by decide) (t := .int) (t' := (.array .int)) (by decide) (by decide)))
  have f223 := f208.other W216 (Or.inr (slot_ne (Or.inl (hw _ (List.mem_of_getElem? (i := 44) rfl))) (Or.inl (hw _ (List.mem_of_getElem? (i := 17) rfl))) (by decide) (t := .int) (t' := (.array .int)) (by decide) (by decide)))
  have f224 := f209.other W216 (Or.inr (slot_ne (Or.inl (hw _ (List.mem_of_getElem? (i := 46) rfl))) (Or.inl (hw _ (List.mem_of_getElem? (i := 17) rfl))) (by decide) (t := .int) (t' := (.array .int)) (by decide) (by decide)))
  have f225 := f210.other W216 (Or.inr (slot_ne (Or.inl (hw _ (List.mem_of_getElem? (i := 28) rfl))) (Or.inl (hw _ (List.mem_of_getElem? (i := 17) rfl))) (by decide) (t := (.array .int)) (t' := (.array .int)) (by decide) (by decide)))
  have f226 := f211.other W216 (Ne.symm ne104)
  have f227 := f212.other W216 (Ne.symm ne132)
  have f228 := f213.other W216 (Ne.symm ne163)
  have f229 := V_it_196.other W216 (Ne.symm ne197)
  have Z230 := Nat.le_trans Z214 (Keep.of_wr W216).1
  have K231 := K215.wr W216 (Or.inl (List.mem_of_getElem? (i := 0) rfl))
  have f232 := f205.same W216
  have N216 := Fr.snoc X216 N180 ge_o0
  have go233 : ∀ t, Steps p.tables e below (T216.setTop (mkF m 32 #[rv o0, iv 1, iv 4] [])) t → Steps p.tables e below O t := fun t k => go0 t (by
    refine XS.aloadN X0.here hx rfl (hb hby d4_0) rfl rfl ?_
    refine st102 _ ?_
    show Steps _ _ _ (T102.setTop (mkF m 4 _ [])) _
    refine XS.aloadN X102.here hx rfl (hb hby d4_4) rfl rfl ?_
    refine XS.iloadN X102.here hx rfl (hb hby d4_5) rfl ?_
    show Steps _ _ _ (T102.setTop (mkF m 6 _ [(.int 1), (.ref o0)])) _
    refine st103 _ ?_
    show Steps _ _ _ (T103.setTop (mkF m 8 _ [(.ref st), (.ref o0)])) _
    refine st117 _ ?_
    show Steps _ _ _ (T117.setTop (mkF m 11 _ [])) _
    refine XS.aloadN X117.here hx rfl (hb hby d4_11) rfl rfl ?_
    refine XS.iloadN X117.here hx rfl (hb hby d4_12) rfl ?_
    show Steps _ _ _ (T117.setTop (mkF m 13 _ [(.int 1), (.ref o0)])) _
    refine st131 _ ?_
    show Steps _ _ _ (T131.setTop (mkF m 15 _ [(.ref dg), (.ref o0)])) _
    refine st147 _ ?_
    show Steps _ _ _ (T147.setTop (mkF m 18 _ [])) _
    refine XS.aloadN X147.here hx rfl (hb hby d4_18) rfl rfl ?_
    refine XS.iloadN X147.here hx rfl (hb hby d4_19) rfl ?_
    show Steps _ _ _ (T147.setTop (mkF m 20 _ [(.int 1), (.ref o0)])) _
    refine st162 _ ?_
    show Steps _ _ _ (T162.setTop (mkF m 22 _ [(.ref rm), (.ref o0)])) _
    refine st180 _ ?_
    show Steps _ _ _ (T180.setTop (mkF m 25 _ [])) _
    refine XS.aloadN X180.here hx rfl (hb hby d4_25) rfl rfl ?_
    refine XS.iloadN X180.here hx rfl (hb hby d4_26) rfl ?_
    show Steps _ _ _ (T180.setTop (mkF m 27 _ [(.int 4), (.ref o0)])) _
    refine st196 _ ?_
    show Steps _ _ _ (T196.setTop (mkF m 29 _ [(.ref it), (.ref o0)])) _
    refine st216 _ ?_
    show Steps _ _ _ (T216.setTop (mkF m 32 _ [])) _
    exact k)
  rw [hO] at go233
  obtain ⟨fs, hr, hrun, hended, hW, hsame⟩ := X216.leave (v := none) (fun _ => rfl)
  refine ⟨_, _, go233 _ ?_, hrun, hended, _, _, rfl, ?_, ⟨_, rfl⟩, hW, hsame.mono (by decide) (by decide)⟩
  · exact X216.returnOut hx Bd.returns (hb hby d4_32) hr
  · show Q_c24 Z o0 h0 n0 _ T216.heap _
    rw [e216]
    exact ⟨st, dg, rm, it, k103, k131, k162, k196, rfl, N216, K231, ⟨f217, ge_o0, ge_st, ge_dg, ge_rm, ge_it, f218, f219, f220, f232, f221, f222, f223, f224, f225, f226, f227, f228, f229, ne104, ne132, ne163, ne197, ne133, ne164, ne198, ne165, ne199, ne200⟩⟩
theorem ef_c1 (m : MethodId) (x0 : Addr) (x1 : Int32) : entryFrame m #[(.ref x0), (.int x1)] 2 = mkF m 0 #[rv x0, iv x1] [] := by first | (simp [entryFrame, mkF, argsToLocals, Value.category]; done) | rfl
def Q_c1 (Z : State) (o0 : Addr) (h0 : Heap) (n0 : Nat) (v : Option Value) (h : Heap) (L : List Loc) : Prop := ∃ (st dg rm it : Addr) (k1 k2 k3 k4 : ClassId), v = none ∧ Fr n0 L ∧ Keep h0 h [o0] ∧ own_A Z h n0 o0 st dg rm it k1 k2 k3 k4 (0 : Int32) [] .null (0 : Int32) (0 : Int32) (0 : Int32) (0 : Int32) (0 : Int32)
theorem d5_0 : decode prog_2_method_1_code 0 = .ok (.aload_n 0, 1) := by decide +kernel
theorem d5_1 : decode prog_2_method_1_code 1 = .ok (.iload_n 1, 1) := by decide +kernel
theorem d5_2 : decode prog_2_method_1_code 2 = .ok (.iconst 0, 1) := by decide +kernel
theorem pd_0 : parseMethodDescriptor "(II)V" = some ⟨[.int, .int], none⟩ := by decide +kernel
theorem d5_3 : decode prog_2_method_1_code 3 = .ok (.invokespecial 1, 3) := by decide +kernel
theorem d5_6 : decode prog_2_method_1_code 6 = .ok (.return_, 1) := by decide +kernel
set_option maxRecDepth 65536 in
set_option maxHeartbeats 40000000 in
theorem rm_c1 (l : Launch) (Z : State) (a0 : Array Value) (hw : ∀ d ∈ tables_1, d.before a0 Z = true) (ws : List Jvm.Cond) (o0 : Addr) (h0 : Heap) (n0 : Nat) (Z0 : n0 ≤ h0.size) (E_o0 : Exa Z h0 o0 "com/example/plebiscite/plebiscite/Adjacency") (ge_o0 : n0 ≤ o0) (F_start_o0 : Fld Z h0 o0 "com/example/plebiscite/plebiscite/Adjacency" "start" "[I" .null) (F_degree_o0 : Fld Z h0 o0 "com/example/plebiscite/plebiscite/Adjacency" "degree" "[I" .null) (F_room_o0 : Fld Z h0 o0 "com/example/plebiscite/plebiscite/Adjacency" "room" "[I" .null) (F_items_o0 : Fld Z h0 o0 "com/example/plebiscite/plebiscite/Adjacency" "items" "[I" .null) (F_slots_o0 : Fld Z h0 o0 "com/example/plebiscite/plebiscite/Adjacency" "slots" "[I" .null) (F_end_o0 : Fld Z h0 o0 "com/example/plebiscite/plebiscite/Adjacency" "end" "I" (.int 0)) (F_held_o0 : Fld Z h0 o0 "com/example/plebiscite/plebiscite/Adjacency" "held" "I" (.int 0)) (F_size_o0 : Fld Z h0 o0 "com/example/plebiscite/plebiscite/Adjacency" "size" "I" (.int 0)) (F_bound_o0 : Fld Z h0 o0 "com/example/plebiscite/plebiscite/Adjacency" "bound" "[I" .null) :
    MetFree l (⟨"com/example/plebiscite/plebiscite/Adjacency", "<init>", "(I)V"⟩ : MethodName) (head1 (Jvm.Cond.code (⟨"com/example/plebiscite/plebiscite/Adjacency", "<init>", "(I)V"⟩ : MethodName) prog_2_method_1_code 2 none :: ws) ({ frames := 2, cells := 4, slots := 3, locals := 26 } : Room)) (fun a U => a = #[(.ref o0), (.int 1)] ∧ Z.Warmed39 U.vm ∧ U.heap = h0) (fun _ _ _ _ _ => True) (fun _ U o U' => ∃ v L, o = .returned v ∧ Q_c1 Z o0 h0 n0 v U'.heap L ∧ FrameEnd U o U' L ({ frames := 2, cells := 4, slots := 3, locals := 26 } : Room).cells ({ frames := 2, cells := 4, slots := 3, locals := 26 } : Room).slots) := by
  refine MetFree.of_bodySF (plainFor_of_name pn_0) hisR ?_
  intro p e s m args below meth c s₁ Bd hml0 hP hK
  obtain ⟨rfl, hZ, hh⟩ := hP
  have hx := Bd.exec
  have hby := Bd.bytes
  have hml : c.maxLocals = 2 := hml0
  have hown : s.vm.findClass "com/example/plebiscite/plebiscite/Adjacency" = some m.cls := findClass_of_methodNamed Bd.named
  have hnm := (name_of_methodNamed Bd.named Bd.method).1
  have X0 : Stand p l e ({ frames := 2, cells := 4, slots := 3, locals := 26 } : Room) s m #[(.ref o0), (.int 1)] below meth c s₁ [] 0 0 := Stand.of_body Bd
  have e0 : s₁.heap = h0 := by rw [← hh, Bd.state]; rfl
  have N0 := Fr.nil n0
  have go0 : ∀ t, Steps p.tables e below (s₁.setTop (mkF m 0 #[rv o0, iv 1] [])) t → Steps p.tables e below (s₁.setTop (entryFrame m #[(.ref o0), (.int 1)] 2)) t := fun t k => castTop (ef_c1 m o0 (1 : Int32)) k
  obtain ⟨O, hO⟩ : ∃ z, z = (s₁.setTop (entryFrame m #[(.ref o0), (.int 1)] 2)) := ⟨_, rfl⟩
  rw [← hO] at go0
  obtain ⟨_, _, ⟨T101, L101, k101, n101⟩, -, X101, ⟨Lc101, hQ101, l101, y101, z101⟩, st101⟩ := X0.specialBack hx (y := (⟨"com/example/plebiscite/plebiscite/Adjacency", "<init>", "(II)V"⟩ : MethodName)) rfl hown (mvT hZ (hw _ (List.mem_of_getElem? (i := 76) rfl))) (mvT hZ (hw _ (List.mem_of_getElem? (i := 4) rfl))) (mvT hZ (hw _ (List.mem_of_getElem? (i := 5) rfl))) (by decide) (backOf (W := 0) (rm_c20 l Z a0 hw [] o0  h0 n0 Z0 E_o0 ge_o0 F_start_o0 F_degree_o0 F_room_o0 F_items_o0 F_slots_o0 F_end_o0 F_held_o0 F_size_o0 F_bound_o0) hZ (hw _ (List.mem_of_getElem? (i := 5) rfl)) (hw _ (List.mem_of_getElem? (i := 2) rfl)) (by decide) (by decide)) (g := (mkF m 3 #[rv o0, iv 1] [(.int 0), (.int 1), (.ref o0)])) rfl (by rw [hml]; rfl) (Steps.refl _) (a := o0) (argsL := [(.int 1), (.int 0)]) (rest := []) (lenOf pd_0 rfl) rfl (by show 2 * 0 + _ ≤ _; exact Nat.le_of_eq rfl) (hb hby d5_3) (fun _ _ => ⟨rfl, e0, (by decide : 0 + 4 ≤ _), (by decide : 0 + 3 ≤ _)⟩)
  dsimp only [Pt.U, Pt.locs, Pt.cells, Pt.slots] at X101 l101 y101 z101 st101 hQ101
  rw [l101, y101, z101] at X101
  obtain ⟨st, dg, rm, it, k1, k2, k3, k4, hv101, N101q, K1, H1⟩ := hQ101
  rw [hv101] at st101
  have N101 := Fr.app N0 N101q
  have go102 : ∀ t, Steps p.tables e below (T101.setTop (mkF m 6 #[rv o0, iv 1] [])) t → Steps p.tables e below O t := fun t k => go0 t (by
    refine XS.aloadN X0.here hx rfl (hb hby d5_0) rfl rfl ?_
    refine XS.iloadN X0.here hx rfl (hb hby d5_1) rfl ?_
    show Steps _ _ _ (s₁.setTop (mkF m 2 _ [(.int 1), (.ref o0)])) _
    refine XS.iconst X0.here hx rfl (hb hby d5_2) ?_
    refine st101.trans ?_
    show Steps _ _ _ (T101.setTop (mkF m 6 _ [])) _
    exact k)
  rw [hO] at go102
  obtain ⟨fs, hr, hrun, hended, hW, hsame⟩ := X101.leave (v := none) (fun _ => rfl)
  refine ⟨_, _, go102 _ ?_, hrun, hended, _, _, rfl, ?_, ⟨_, rfl⟩, hW, hsame.mono (by decide) (by decide)⟩
  · exact X101.returnOut hx Bd.returns (hb hby d5_6) hr
  · show Q_c1 Z o0 h0 n0 _ T101.heap _
    exact ⟨st, dg, rm, it, k1, k2, k3, k4, rfl, N101, K1, H1⟩
theorem ef_pai (m : MethodId) (x0 : Int32) : entryFrame m #[(.int x0)] 2 = mkF m 0 #[iv x0, .unset] [] := by first | (simp [entryFrame, mkF, argsToLocals, Value.category]; done) | rfl
def Q_pai (Z : State)  (h0 : Heap) (n0 : Nat) (v : Option Value) (h : Heap) (L : List Loc) : Prop := ∃ (g_ st dg rm it sl : Addr) (k1 k2 k3 k4 k5 : ClassId), v = some (.ref g_) ∧ Fr n0 L ∧ own_A Z h n0 g_ st dg rm it k1 k2 k3 k4 (0 : Int32) [] (.ref sl) (0 : Int32) (0 : Int32) (0 : Int32) (0 : Int32) (0 : Int32) ∧ own_S Z h n0 sl k5 (0 : Int32) [] g_ st dg rm it
theorem d6_0 : decode prog_2_method_7_code 0 = .ok (.new 2, 3) := by decide +kernel
theorem d6_3 : decode prog_2_method_7_code 3 = .ok (.dup, 1) := by decide +kernel
theorem d6_4 : decode prog_2_method_7_code 4 = .ok (.iload_n 0, 1) := by decide +kernel
theorem pd_1 : parseMethodDescriptor "(I)V" = some ⟨[.int], none⟩ := by decide +kernel
theorem d6_5 : decode prog_2_method_7_code 5 = .ok (.invokespecial 25, 3) := by decide +kernel
theorem d6_8 : decode prog_2_method_7_code 8 = .ok (.astore_n 1, 1) := by decide +kernel
theorem d6_9 : decode prog_2_method_7_code 9 = .ok (.aload_n 1, 1) := by decide +kernel
theorem d6_10 : decode prog_2_method_7_code 10 = .ok (.iconst 0, 1) := by decide +kernel
theorem d6_11 : decode prog_2_method_7_code 11 = .ok (.newarray .int, 2) := by decide +kernel
theorem d6_13 : decode prog_2_method_7_code 13 = .ok (.putfield 65, 3) := by decide +kernel
theorem d6_16 : decode prog_2_method_7_code 16 = .ok (.aload_n 1, 1) := by decide +kernel
theorem d6_17 : decode prog_2_method_7_code 17 = .ok (.areturn, 1) := by decide +kernel
set_option maxRecDepth 65536 in
set_option maxHeartbeats 40000000 in
theorem rm_pai (l : Launch) (Z : State) (a0 : Array Value) (hw : ∀ d ∈ tables_1, d.before a0 Z = true) (ws : List Jvm.Cond)  (h0 : Heap) (n0 : Nat) (Z0 : n0 ≤ h0.size)  :
    MetFree l (⟨"com/example/plebiscite/plebiscite/Adjacency", "paired", "(I)Lcom/example/plebiscite/plebiscite/Adjacency;"⟩ : MethodName) (head1 (Jvm.Cond.code (⟨"com/example/plebiscite/plebiscite/Adjacency", "paired", "(I)Lcom/example/plebiscite/plebiscite/Adjacency;"⟩ : MethodName) prog_2_method_7_code 2 (some (.object "com/example/plebiscite/plebiscite/Adjacency")) :: ws) ({ frames := 3, cells := 6, slots := 13, locals := 40 } : Room)) (fun a U => a = #[(.int 1)] ∧ Z.Warmed39 U.vm ∧ U.heap = h0) (fun _ _ _ _ _ => True) (fun _ U o U' => ∃ v L, o = .returned v ∧ Q_pai Z  h0 n0 v U'.heap L ∧ FrameEnd U o U' L ({ frames := 3, cells := 6, slots := 13, locals := 40 } : Room).cells ({ frames := 3, cells := 6, slots := 13, locals := 40 } : Room).slots) := by
  refine MetFree.of_bodySF (plainFor_of_name pn_0) hisR ?_
  intro p e s m args below meth c s₁ Bd hml0 hP hK
  obtain ⟨rfl, hZ, hh⟩ := hP
  have hx := Bd.exec
  have hby := Bd.bytes
  have hml : c.maxLocals = 2 := hml0
  have hown : s.vm.findClass "com/example/plebiscite/plebiscite/Adjacency" = some m.cls := findClass_of_methodNamed Bd.named
  have hnm := (name_of_methodNamed Bd.named Bd.method).1
  have X0 : Stand p l e ({ frames := 3, cells := 6, slots := 13, locals := 40 } : Room) s m #[(.int 1)] below meth c s₁ [] 0 0 := Stand.of_body Bd
  have e0 : s₁.heap = h0 := by rw [← hh, Bd.state]; rfl
  have N0 := Fr.nil n0
  have go0 : ∀ t, Steps p.tables e below (s₁.setTop (mkF m 0 #[iv 1, .unset] [])) t → Steps p.tables e below (s₁.setTop (entryFrame m #[(.int 1)] 2)) t := fun t k => castTop (ef_pai m (1 : Int32)) k
  obtain ⟨O, hO⟩ : ∃ z, z = (s₁.setTop (entryFrame m #[(.int 1)] 2)) := ⟨_, rfl⟩
  rw [← hO] at go0
  obtain ⟨T101, h101, X101, e101, E101, A101, D101, -, st101⟩ := newO X0 hx hZ hown (hw _ (List.mem_of_getElem? (i := 72) rfl)) (hw _ (List.mem_of_getElem? (i := 1) rfl)) (hw _ (List.mem_of_getElem? (i := 2) rfl)) e0 (g := (mkF m 0 #[iv 1, .unset] [])) rfl (hb hby d6_0) (by decide) (by decide)
  obtain ⟨g_, g101⟩ : ∃ z, z = h0.size := ⟨_, rfl⟩
  have ge_g_ : n0 ≤ g_ := Nat.le_trans Z0 (Nat.le_of_eq g101.symm)
  rw [← g101] at A101 D101 st101
  have Z102 := Nat.le_trans Z0 E101.1
  have F_start_g_ : Fld Z h101 g_ "com/example/plebiscite/plebiscite/Adjacency" "start" "[I" .null := D101 (Or.inr (hw _ (List.mem_of_getElem? (i := 11) rfl))) (ty := (.array .int)) (by decide)
  have F_degree_g_ : Fld Z h101 g_ "com/example/plebiscite/plebiscite/Adjacency" "degree" "[I" .null := D101 (Or.inr (hw _ (List.mem_of_getElem? (i := 13) rfl))) (ty := (.array .int)) (by decide)
  have F_room_g_ : Fld Z h101 g_ "com/example/plebiscite/plebiscite/Adjacency" "room" "[I" .null := D101 (Or.inl (hw _ (List.mem_of_getElem? (i := 15) rfl))) (ty := (.array .int)) (by decide)
  have F_items_g_ : Fld Z h101 g_ "com/example/plebiscite/plebiscite/Adjacency" "items" "[I" .null := D101 (Or.inl (hw _ (List.mem_of_getElem? (i := 17) rfl))) (ty := (.array .int)) (by decide)
  have F_bound_g_ : Fld Z h101 g_ "com/example/plebiscite/plebiscite/Adjacency" "bound" "[I" .null := D101 (Or.inl (hw _ (List.mem_of_getElem? (i := 28) rfl))) (ty := (.array .int)) (by decide)
  have F_end_g_ : Fld Z h101 g_ "com/example/plebiscite/plebiscite/Adjacency" "end" "I" (.int 0) := D101 (Or.inl (hw _ (List.mem_of_getElem? (i := 38) rfl))) (ty := .int) (by decide)
  have F_held_g_ : Fld Z h101 g_ "com/example/plebiscite/plebiscite/Adjacency" "held" "I" (.int 0) := D101 (Or.inl (hw _ (List.mem_of_getElem? (i := 44) rfl))) (ty := .int) (by decide)
  have F_size_g_ : Fld Z h101 g_ "com/example/plebiscite/plebiscite/Adjacency" "size" "I" (.int 0) := D101 (Or.inl (hw _ (List.mem_of_getElem? (i := 46) rfl))) (ty := .int) (by decide)
  have F_slots_g_ : Fld Z h101 g_ "com/example/plebiscite/plebiscite/Adjacency" "slots" "[I" .null := D101 (Or.inl (hw _ (List.mem_of_getElem? (i := 53) rfl))) (ty := (.array .int)) (by decide)
  have F_boundSum_g_ : Fld Z h101 g_ "com/example/plebiscite/plebiscite/Adjacency" "boundSum" "J" (.long 0) := D101 (Or.inl (hw _ (List.mem_of_getElem? (i := 113) rfl))) (ty := .long) (by decide)
  obtain ⟨_, _, ⟨T103, L103, k103, n103⟩, -, X103, ⟨Lc103, hQ103, l103, y103, z103⟩, st103⟩ := X101.specialBack hx (y := (⟨"com/example/plebiscite/plebiscite/Adjacency", "<init>", "(I)V"⟩ : MethodName)) rfl hown (mvT hZ (hw _ (List.mem_of_getElem? (i := 73) rfl))) (mvT hZ (hw _ (List.mem_of_getElem? (i := 74) rfl))) (mvT hZ (hw _ (List.mem_of_getElem? (i := 75) rfl))) (by decide) (backOf (W := 1) (rm_c1 l Z a0 hw [] g_  h101 n0 Z102 A101 ge_g_ F_start_g_ F_degree_g_ F_room_g_ F_items_g_ F_slots_g_ F_end_g_ F_held_g_ F_size_g_ F_bound_g_) hZ (hw _ (List.mem_of_getElem? (i := 75) rfl)) (hw _ (List.mem_of_getElem? (i := 2) rfl)) (by decide) (by decide)) (g := (mkF m 5 #[iv 1, .unset] [(.int 1), (.ref g_), (.ref g_)])) rfl (by rw [hml]; rfl) (Steps.refl _) (a := g_) (argsL := [(.int 1)]) (rest := [(.ref g_)]) (lenOf pd_1 rfl) rfl (by show 2 * 0 + _ ≤ _; exact Nat.le_of_eq rfl) (hb hby d6_5) (fun _ _ => ⟨rfl, e101, (by decide : 1 + 4 ≤ _), (by decide : 10 + 3 ≤ _)⟩)
  dsimp only [Pt.U, Pt.locs, Pt.cells, Pt.slots] at X103 l103 y103 z103 st103 hQ103
  rw [l103, y103, z103] at X103
  obtain ⟨st, dg, rm, it, k1, k2, k3, k4, hv103, N103q, K1, H1⟩ := hQ103
  rw [hv103] at st103
  have N103 := Fr.app N0 N103q
  obtain ⟨AX_104, Ag0_104, Ag1_104, Ag2_104, Ag3_104, Ag4_104, AF0_104, AF1_104, AF2_104, AF3_104, AF4_104, AF5_104, AF6_104, AF7_104, AF8_104, AV0_104, AV1_104, AV2_104, AV3_104, AN0_104, AN1_104, AN2_104, AN3_104, AN4_104, AN5_104, AN6_104, AN7_104, AN8_104, AN9_104⟩ := H1
  have Z105 := Nat.le_trans Ag0_104 (Nat.le_of_lt AX_104.lt)
  obtain ⟨T106, h106, k106, X106, e106, E106, A106, st106⟩ := newP X103 hx hZ (hw _ (List.mem_of_getElem? (i := 9) rfl)) rfl (g := (mkF m 11 #[iv 1, rv g_] [(.int 0), (.ref g_)])) rfl (hb hby d6_11) rfl (by decide) (cap := 0) (by decide) (by decide) (by decide) (by decide)
  obtain ⟨sl, g106⟩ : ∃ z, z = T103.heap.size := ⟨_, rfl⟩
  have ne107 : g_ ≠ sl := Nat.ne_of_lt (Nat.lt_of_lt_of_le AX_104.lt (Nat.le_of_eq g106.symm))
  have ne108 : st ≠ sl := Nat.ne_of_lt (Nat.lt_of_lt_of_le AV0_104.lt (Nat.le_of_eq g106.symm))
  have ne109 : dg ≠ sl := Nat.ne_of_lt (Nat.lt_of_lt_of_le AV1_104.lt (Nat.le_of_eq g106.symm))
  have ne110 : rm ≠ sl := Nat.ne_of_lt (Nat.lt_of_lt_of_le AV2_104.lt (Nat.le_of_eq g106.symm))
  have ne111 : it ≠ sl := Nat.ne_of_lt (Nat.lt_of_lt_of_le AV3_104.lt (Nat.le_of_eq g106.symm))
  have ge_sl : n0 ≤ sl := Nat.le_trans Z105 (Nat.le_of_eq g106.symm)
  rw [← g106] at A106 st106
  have f112 := AX_104.ext E106
  have f113 := AF0_104.ext E106
  have f114 := AF1_104.ext E106
  have f115 := AF2_104.ext E106
  have f116 := AF3_104.ext E106
  have f117 := AF4_104.ext E106
  have f118 := AF5_104.ext E106
  have f119 := AF6_104.ext E106
  have f120 := AF7_104.ext E106
  have f121 := AF8_104.ext E106
  have f122 := AV0_104.ext E106
  have f123 := AV1_104.ext E106
  have f124 := AV2_104.ext E106
  have f125 := AV3_104.ext E106
  have Z126 := Nat.le_trans Z105 E106.1
  have V_sl_106 : Arv Z h106 sl k106 .int (0 : Int32) [] (.int 0) := (Arv.new A106 (by decide)).pad (pad_rep [] (.int 0) 0)
  obtain ⟨T127, h127, X127, e127, W127, st127⟩ := putF X106 hx hZ hown (host := "") (Or.inl (hw _ (List.mem_of_getElem? (i := 52) rfl))) Via.refl e106 f117 f112 (Or.inl (hw _ (List.mem_of_getElem? (i := 53) rfl))) (hw _ (List.mem_of_getElem? (i := 1) rfl)) (ty := (.array .int)) (by decide) rfl rfl (g := (mkF m 13 #[iv 1, rv g_] [(.ref sl), (.ref g_)])) rfl rfl (hb hby d6_13)
  have f128 := f112.wr W127
  have f129 := f113.other W127 (Or.inr (slot_ne (Or.inr (hw _ (List.mem_of_getElem? (i := 11) rfl))) (Or.inl (hw _ (List.mem_of_getElem? (i := 53) rfl))) (by decide) (t := (.array .int)) (t' := (.array .int)) (by decide) (by decide)))
  have f130 := f114.other W127 (Or.inr (slot_ne (Or.inr (hw _ (List.mem_of_getElem? (i := 13) rfl))) (Or.inl (hw _ (List.mem_of_getElem? (i := 53) rfl))) (by decide) (t := (.array .int)) (t' := (.array .int)) (by decide) (by decide)))
  have f131 := f115.other W127 (Or.inr (slot_ne (Or.inl (hw _ (List.mem_of_getElem? (i := 15) rfl))) (Or.inl (hw _ (List.mem_of_getElem? (i := 53) rfl))) (by decide) (t := (.array .int)) (t' := (.array .int)) (by decide) (by decide)))
  have f132 := f116.other W127 (Or.inr (slot_ne (Or.inl (hw _ (List.mem_of_getElem? (i := 17) rfl))) (Or.inl (hw _ (List.mem_of_getElem? (i := 53) rfl))) (by decide) (t := (.array .int)) (t' := (.array .int)) (by decide) (by decide)))
  have f133 := f118.other W127 (Or.inr (slot_ne (Or.inl (hw _ (List.mem_of_getElem? (i := 38) rfl))) (Or.inl (hw _ (List.mem_of_getElem? (i := 53) rfl))) (by decide) (t := .int) (t' := (.array .int)) (by decide) (by decide)))
  have f134 := f119.other W127 (Or.inr (slot_ne (Or.inl (hw _ (List.mem_of_getElem? (i := 44) rfl))) (Or.inl (hw _ (List.mem_of_getElem? (i := 53) rfl))) (by decide) (t := .int) (t' := (.array .int)) (by decide) (by decide)))
  have f135 := f120.other W127 (Or.inr (slot_ne (Or.inl (hw _ (List.mem_of_getElem? (i := 46) rfl))) (Or.inl (hw _ (List.mem_of_getElem? (i := 53) rfl))) (by decide) (t := .int) (t' := (.array .int)) (by decide) (by decide)))
  have f136 := f121.other W127 (Or.inr (slot_ne (Or.inl (hw _ (List.mem_of_getElem? (i := 28) rfl))) (Or.inl (hw _ (List.mem_of_getElem? (i := 53) rfl))) (by decide) (t := (.array .int)) (t' := (.array .int)) (by decide) (by decide)))
  have f137 := f122.other W127 (Ne.symm AN0_104)
  have f138 := f123.other W127 (Ne.symm AN1_104)
  have f139 := f124.other W127 (Ne.symm AN2_104)
  have f140 := f125.other W127 (Ne.symm AN3_104)
  have f141 := V_sl_106.other W127 (Ne.symm ne107)
  have Z142 := Nat.le_trans Z126 (Keep.of_wr W127).1
  have f143 := f117.same W127
  have N127 := Fr.snoc X127 N103 Ag0_104
  have go144 : ∀ t, Steps p.tables e below (T127.setTop (mkF m 17 #[iv 1, rv g_] [(.ref g_)])) t → Steps p.tables e below O t := fun t k => go0 t (by
    refine st101 _ ?_
    show Steps _ _ _ (T101.setTop (mkF m 3 _ [(.ref g_)])) _
    refine XS.dup X101.here hx rfl (hb hby d6_3) rfl rfl ?_
    refine XS.iloadN X101.here hx rfl (hb hby d6_4) rfl ?_
    show Steps _ _ _ (T101.setTop (mkF m 5 _ [(.int 1), (.ref g_), (.ref g_)])) _
    refine st103.trans ?_
    show Steps _ _ _ (T103.setTop (mkF m 8 _ [(.ref g_)])) _
    refine XS.astoreN X103.here hx rfl (hb hby d6_8) rfl rfl (l' := #[iv 1, rv g_]) rfl ?_
    show Steps _ _ _ (T103.setTop (mkF m 9 _ [])) _
    refine XS.aloadN X103.here hx rfl (hb hby d6_9) rfl rfl ?_
    refine XS.iconst X103.here hx rfl (hb hby d6_10) ?_
    show Steps _ _ _ (T103.setTop (mkF m 11 _ [(.int 0), (.ref g_)])) _
    refine st106 _ ?_
    show Steps _ _ _ (T106.setTop (mkF m 13 _ [(.ref sl), (.ref g_)])) _
    refine st127 _ ?_
    show Steps _ _ _ (T127.setTop (mkF m 16 _ [])) _
    refine XS.aloadN X127.here hx rfl (hb hby d6_16) rfl rfl ?_
    exact k)
  rw [hO] at go144
  obtain ⟨fs, hr, hrun, hended, hW, hsame⟩ := X127.leave (v := some (.ref g_)) (fun h => by rw [Bd.returns] at h; cases h)
  refine ⟨_, _, go144 _ ?_, hrun, hended, _, _, rfl, ?_, ⟨_, rfl⟩, hW, hsame.mono (by decide) (by decide)⟩
  · jvm_step X127.here [X127.here.top, hx, (hb hby d6_17), X127.method', Bd.returns, Value.isRef, FieldType.isReference]
    first | (intro acts; rw [hr _ acts rfl rfl rfl]) | rw [hr _ _ rfl rfl rfl]
    exact Steps.refl _
  · show Q_pai Z  h0 n0 _ T127.heap _
    rw [e127]
    exact ⟨g_, st, dg, rm, it, sl, k1, k2, k3, k4, k106, rfl, N127, ⟨f128, Ag0_104, Ag1_104, Ag2_104, Ag3_104, Ag4_104, f129, f130, f131, f132, f143, f133, f134, f135, f136, f137, f138, f139, f140, AN0_104, AN1_104, AN2_104, AN3_104, AN4_104, AN5_104, AN6_104, AN7_104, AN8_104, AN9_104⟩, ⟨ge_sl, f141, ne107, ne108, ne109, ne110, ne111⟩⟩
theorem ef_mk (m : MethodId) (x0 : Addr) (x1 : Int32) : entryFrame m #[(.ref x0), (.int x1)] 8 = mkF m 0 #[rv x0, iv x1, .unset, .unset, .unset, .unset, .unset, .unset] [] := by first | (simp [entryFrame, mkF, argsToLocals, Value.category]; done) | rfl
def Q_mk (Z : State) (o0 : Addr) (st_ : Addr) (dg_ : Addr) (rm_ : Addr) (it_ : Addr) (k1_ : ClassId) (k2_ : ClassId) (k3_ : ClassId) (k4_ : ClassId) (zi_ : Int32) (its_ : List Value) (slv_ : Value) (d_ : Int32) (h0 : Heap) (n0 : Nat) (v : Option Value) (h : Heap) (L : List Loc) : Prop := v = some (.int (0 : Int32)) ∧ Fr n0 L ∧ h = h0
theorem d7_0 : decode prog_2_method_21_code 0 = .ok (.iconst 0, 1) := by decide +kernel
theorem d7_1 : decode prog_2_method_21_code 1 = .ok (.istore_n 2, 1) := by decide +kernel
theorem d7_2 : decode prog_2_method_21_code 2 = .ok (.aload_n 0, 1) := by decide +kernel
theorem d7_3 : decode prog_2_method_21_code 3 = .ok (.getfield 58, 3) := by decide +kernel
theorem d7_6 : decode prog_2_method_21_code 6 = .ok (.i2l, 1) := by decide +kernel
theorem d7_7 : decode prog_2_method_21_code 7 = .ok (.iload_n 1, 1) := by decide +kernel
theorem d7_8 : decode prog_2_method_21_code 8 = .ok (.i2l, 1) := by decide +kernel
theorem d7_9 : decode prog_2_method_21_code 9 = .ok (.ladd, 1) := by decide +kernel
theorem d7_10 : decode prog_2_method_21_code 10 = .ok (.aload_n 0, 1) := by decide +kernel
theorem d7_11 : decode prog_2_method_21_code 11 = .ok (.getfield 22, 3) := by decide +kernel
theorem d7_14 : decode prog_2_method_21_code 14 = .ok (.arraylength, 1) := by decide +kernel
theorem d7_15 : decode prog_2_method_21_code 15 = .ok (.i2l, 1) := by decide +kernel
theorem d7_16 : decode prog_2_method_21_code 16 = .ok (.lcmp, 1) := by decide +kernel
theorem d7_17 : decode prog_2_method_21_code 17 = .ok (.ifCond .le 173, 3) := by decide +kernel
theorem d7_190 : decode prog_2_method_21_code 190 = .ok (.iload_n 2, 1) := by decide +kernel
theorem d7_191 : decode prog_2_method_21_code 191 = .ok (.ireturn, 1) := by decide +kernel
set_option maxRecDepth 65536 in
set_option maxHeartbeats 40000000 in
theorem rm_mk (l : Launch) (Z : State) (a0 : Array Value) (hw : ∀ d ∈ tables_1, d.before a0 Z = true) (ws : List Jvm.Cond) (o0 : Addr) (st_ : Addr) (dg_ : Addr) (rm_ : Addr) (it_ : Addr) (k1_ : ClassId) (k2_ : ClassId) (k3_ : ClassId) (k4_ : ClassId) (zi_ : Int32) (its_ : List Value) (slv_ : Value) (d_ : Int32) (h0 : Heap) (n0 : Nat) (Z0 : n0 ≤ h0.size) (H : own_A Z h0 n0 o0 st_ dg_ rm_ it_ k1_ k2_ k3_ k4_ zi_ its_ slv_ d_ d_ d_ d_ d_) (hz : ¬ ((0 : Int32) < lcmpW (d_.toInt64 + (1 : Int32).toInt64) zi_.toInt64)) :
    MetFree l (⟨"com/example/plebiscite/plebiscite/Adjacency", "makeRoom", "(I)Z"⟩ : MethodName) (head1 (Jvm.Cond.code (⟨"com/example/plebiscite/plebiscite/Adjacency", "makeRoom", "(I)Z"⟩ : MethodName) prog_2_method_21_code 8 (some .boolean) :: ws) ({ frames := 0, cells := 0, slots := 0, locals := 0 } : Room)) (fun a U => a = #[(.ref o0), (.int 1)] ∧ Z.Warmed39 U.vm ∧ U.heap = h0) (fun _ _ _ _ _ => True) (fun _ U o U' => ∃ v L, o = .returned v ∧ Q_mk Z o0 st_ dg_ rm_ it_ k1_ k2_ k3_ k4_ zi_ its_ slv_ d_ h0 n0 v U'.heap L ∧ FrameEnd U o U' L ({ frames := 0, cells := 0, slots := 0, locals := 0 } : Room).cells ({ frames := 0, cells := 0, slots := 0, locals := 0 } : Room).slots) := by
  refine MetFree.of_bodySF (plainFor_of_name pn_0) hisR ?_
  intro p e s m args below meth c s₁ Bd hml0 hP hK
  obtain ⟨rfl, hZ, hh⟩ := hP
  have hx := Bd.exec
  have hby := Bd.bytes
  have hml : c.maxLocals = 8 := hml0
  have hown : s.vm.findClass "com/example/plebiscite/plebiscite/Adjacency" = some m.cls := findClass_of_methodNamed Bd.named
  have hnm := (name_of_methodNamed Bd.named Bd.method).1
  have X0 : Stand p l e ({ frames := 0, cells := 0, slots := 0, locals := 0 } : Room) s m #[(.ref o0), (.int 1)] below meth c s₁ [] 0 0 := Stand.of_body Bd
  have e0 : s₁.heap = h0 := by rw [← hh, Bd.state]; rfl
  have N0 := Fr.nil n0
  have go0 : ∀ t, Steps p.tables e below (s₁.setTop (mkF m 0 #[rv o0, iv 1, .unset, .unset, .unset, .unset, .unset, .unset] [])) t → Steps p.tables e below (s₁.setTop (entryFrame m #[(.ref o0), (.int 1)] 8)) t := fun t k => castTop (ef_mk m o0 (1 : Int32)) k
  obtain ⟨O, hO⟩ : ∃ z, z = (s₁.setTop (entryFrame m #[(.ref o0), (.int 1)] 8)) := ⟨_, rfl⟩
  rw [← hO] at go0
  obtain ⟨AX_101, Ag0_101, Ag1_101, Ag2_101, Ag3_101, Ag4_101, AF0_101, AF1_101, AF2_101, AF3_101, AF4_101, AF5_101, AF6_101, AF7_101, AF8_101, AV0_101, AV1_101, AV2_101, AV3_101, AN0_101, AN1_101, AN2_101, AN3_101, AN4_101, AN5_101, AN6_101, AN7_101, AN8_101, AN9_101⟩ := H
  have Z102 := Nat.le_trans Ag0_101 (Nat.le_of_lt AX_101.lt)
  obtain ⟨T103, X103, e103, st103⟩ := getF X0 hx hZ hown (host := "") (Or.inl (hw _ (List.mem_of_getElem? (i := 37) rfl))) Via.refl e0 AF5_101 (g := (mkF m 3 #[rv o0, iv 1, iv 0, .unset, .unset, .unset, .unset, .unset] [(.ref o0)])) rfl rfl (hb hby d7_3)
  obtain ⟨T104, X104, e104, st104⟩ := getF X103 hx hZ hown (host := "") (Or.inl (hw _ (List.mem_of_getElem? (i := 16) rfl))) Via.refl e103 AF3_101 (g := (mkF m 11 #[rv o0, iv 1, iv 0, .unset, .unset, .unset, .unset, .unset] [(.ref o0), (.long (d_.toInt64 + (1 : Int32).toInt64))])) rfl rfl (hb hby d7_11)
  obtain ⟨cl105, Ar105, q105, S105, M105, Hs105, G105⟩ := AV3_101
  have f106 : Arv Z h0 it_ k4_ .int zi_ its_ (.int 0) := ⟨cl105, Ar105, q105, S105, M105, Hs105, G105⟩
  have go107 : ∀ t, Steps p.tables e below (T104.setTop (mkF m 191 #[rv o0, iv 1, iv 0, .unset, .unset, .unset, .unset, .unset] [(.int 0)])) t → Steps p.tables e below O t := fun t k => go0 t (by
    refine XS.iconst X0.here hx rfl (hb hby d7_0) ?_
    refine XS.istoreN X0.here hx rfl (hb hby d7_1) rfl (l' := #[rv o0, iv 1, iv 0, .unset, .unset, .unset, .unset, .unset]) rfl ?_
    show Steps _ _ _ (s₁.setTop (mkF m 2 _ [])) _
    refine XS.aloadN X0.here hx rfl (hb hby d7_2) rfl rfl ?_
    refine st103 _ ?_
    show Steps _ _ _ (T103.setTop (mkF m 6 _ [(.int d_)])) _
    refine XS.i2l X103.here hx rfl (hb hby d7_6) rfl ?_
    refine XS.iloadN X103.here hx rfl (hb hby d7_7) rfl ?_
    show Steps _ _ _ (T103.setTop (mkF m 8 _ [(.int 1), (.long d_.toInt64)])) _
    refine XS.i2l X103.here hx rfl (hb hby d7_8) rfl ?_
    refine XS.ladd X103.here hx rfl (hb hby d7_9) rfl ?_
    show Steps _ _ _ (T103.setTop (mkF m 10 _ [(.long (d_.toInt64 + (1 : Int32).toInt64))])) _
    refine XS.aloadN X103.here hx rfl (hb hby d7_10) rfl rfl ?_
    refine st104 _ ?_
    show Steps _ _ _ (T104.setTop (mkF m 14 _ [(.ref it_), (.long (d_.toInt64 + (1 : Int32).toInt64))])) _
    refine X104.arraylength hx (by rw [e104]; exact Ar105.1) (State.isArrayOf_alike hZ.alike Ar105.2.1) (g := (mkF m 14 #[rv o0, iv 1, iv 0, .unset, .unset, .unset, .unset, .unset] [(.ref it_), (.long (d_.toInt64 + (1 : Int32).toInt64))])) rfl rfl (hb hby d7_14) _ ?_
    rw [len_of S105 M105]
    show Steps _ _ _ (T104.setTop (mkF m 15 _ [(.int zi_), (.long (d_.toInt64 + (1 : Int32).toInt64))])) _
    refine XS.i2l X104.here hx rfl (hb hby d7_15) rfl ?_
    refine XS.lcmp X104.here hx rfl (hb hby d7_16) rfl ?_
    show Steps _ _ _ (T104.setTop (mkF m 17 _ [(.int (lcmpW (d_.toInt64 + (1 : Int32).toInt64) zi_.toInt64))])) _
    refine XS.ifYes X104.here hx rfl (pc0 := 17) (pc' := 190) rfl (hb hby d7_17) rfl ((if0 _ _).trans (flt (hz : ¬ ((0 : Int32) < (lcmpW (d_.toInt64 + (1 : Int32).toInt64) zi_.toInt64)))).2.2.2) (by decide) (by decide) ?_
    refine XS.iloadN X104.here hx rfl (hb hby d7_190) rfl ?_
    show Steps _ _ _ (T104.setTop (mkF m 191 _ [(.int 0)])) _
    exact k)
  rw [hO] at go107
  obtain ⟨fs, hr, hrun, hended, hW, hsame⟩ := X104.leave (v := some (.int 0)) (fun h => by rw [Bd.returns] at h; cases h)
  refine ⟨_, _, go107 _ ?_, hrun, hended, _, _, rfl, ?_, ⟨_, rfl⟩, hW, hsame.mono (by decide) (by decide)⟩
  · exact retN X104 hx (t := .boolean) Bd.returns (by simp) (hb hby d7_191) hr
  · show Q_mk Z o0 st_ dg_ rm_ it_ k1_ k2_ k3_ k4_ zi_ its_ slv_ d_ h0 n0 _ T104.heap _
    rw [e104]
    exact ⟨rfl, N0, rfl⟩
theorem ef_gr (m : MethodId) (x0 : Addr) (x1 : Int32) : entryFrame m #[(.ref x0), (.int x1)] 5 = mkF m 0 #[rv x0, iv x1, .unset, .unset, .unset] [] := by first | (simp [entryFrame, mkF, argsToLocals, Value.category]; done) | rfl
def Q_gr (Z : State) (o0 : Addr) (st_ : Addr) (dg_ : Addr) (rm_ : Addr) (it_ : Addr) (k1_ : ClassId) (k2_ : ClassId) (k3_ : ClassId) (k4_ : ClassId) (zi_ : Int32) (its_ : List Value) (slv_ : Value) (d_ : Int32) (h0 : Heap) (n0 : Nat) (v : Option Value) (h : Heap) (L : List Loc) : Prop := v = none ∧ Fr n0 L ∧ Keep h0 h [o0, rm_] ∧ own_A Z h n0 o0 st_ dg_ rm_ it_ k1_ k2_ k3_ k4_ zi_ its_ slv_ d_ (d_ + (1 : Int32)) (d_ + (1 : Int32)) (d_ + (1 : Int32)) d_
theorem d8_0 : decode prog_2_method_20_code 0 = .ok (.iconst 1, 1) := by decide +kernel
theorem d8_1 : decode prog_2_method_20_code 1 = .ok (.iconst 2, 1) := by decide +kernel
theorem d8_2 : decode prog_2_method_20_code 2 = .ok (.aload_n 0, 1) := by decide +kernel
theorem d8_3 : decode prog_2_method_20_code 3 = .ok (.getfield 16, 3) := by decide +kernel
theorem d8_6 : decode prog_2_method_20_code 6 = .ok (.iload_n 1, 1) := by decide +kernel
theorem d8_7 : decode prog_2_method_20_code 7 = .ok (.iaload, 1) := by decide +kernel
theorem d8_8 : decode prog_2_method_20_code 8 = .ok (.imul, 1) := by decide +kernel
theorem pd_2 : parseMethodDescriptor "(II)I" = some ⟨[.int, .int], some .int⟩ := by decide +kernel
theorem d8_9 : decode prog_2_method_20_code 9 = .ok (.invokestatic 94, 3) := by decide +kernel
theorem d8_12 : decode prog_2_method_20_code 12 = .ok (.istore_n 2, 1) := by decide +kernel
theorem d8_13 : decode prog_2_method_20_code 13 = .ok (.aload_n 0, 1) := by decide +kernel
theorem d8_14 : decode prog_2_method_20_code 14 = .ok (.getfield 12, 3) := by decide +kernel
theorem d8_17 : decode prog_2_method_20_code 17 = .ok (.iload_n 1, 1) := by decide +kernel
theorem d8_18 : decode prog_2_method_20_code 18 = .ok (.iaload, 1) := by decide +kernel
theorem d8_19 : decode prog_2_method_20_code 19 = .ok (.aload_n 0, 1) := by decide +kernel
theorem d8_20 : decode prog_2_method_20_code 20 = .ok (.getfield 19, 3) := by decide +kernel
theorem d8_23 : decode prog_2_method_20_code 23 = .ok (.iload_n 1, 1) := by decide +kernel
theorem d8_24 : decode prog_2_method_20_code 24 = .ok (.iaload, 1) := by decide +kernel
theorem d8_25 : decode prog_2_method_20_code 25 = .ok (.iadd, 1) := by decide +kernel
theorem d8_26 : decode prog_2_method_20_code 26 = .ok (.aload_n 0, 1) := by decide +kernel
theorem d8_27 : decode prog_2_method_20_code 27 = .ok (.getfield 58, 3) := by decide +kernel
theorem d8_30 : decode prog_2_method_20_code 30 = .ok (.if_icmp .ne 7, 3) := by decide +kernel
theorem d8_33 : decode prog_2_method_20_code 33 = .ok (.iconst 1, 1) := by decide +kernel
theorem d8_34 : decode prog_2_method_20_code 34 = .ok (.goto 4, 3) := by decide +kernel
theorem d8_38 : decode prog_2_method_20_code 38 = .ok (.istore_n 3, 1) := by decide +kernel
theorem d8_39 : decode prog_2_method_20_code 39 = .ok (.aload_n 0, 1) := by decide +kernel
theorem d8_40 : decode prog_2_method_20_code 40 = .ok (.iload_n 3, 1) := by decide +kernel
theorem d8_41 : decode prog_2_method_20_code 41 = .ok (.ifCond .eq 7, 3) := by decide +kernel
theorem d8_44 : decode prog_2_method_20_code 44 = .ok (.iconst 1, 1) := by decide +kernel
theorem d8_45 : decode prog_2_method_20_code 45 = .ok (.goto 4, 3) := by decide +kernel
theorem pd_3 : parseMethodDescriptor "(I)Z" = some ⟨[.int], some .boolean⟩ := by decide +kernel
theorem d8_49 : decode prog_2_method_20_code 49 = .ok (.invokevirtual 100, 3) := by decide +kernel
theorem d8_52 : decode prog_2_method_20_code 52 = .ok (.istore 4, 2) := by decide +kernel
theorem d8_54 : decode prog_2_method_20_code 54 = .ok (.iload 4, 2) := by decide +kernel
theorem d8_56 : decode prog_2_method_20_code 56 = .ok (.ifCond .ne 34, 3) := by decide +kernel
theorem d8_59 : decode prog_2_method_20_code 59 = .ok (.iload_n 3, 1) := by decide +kernel
theorem d8_60 : decode prog_2_method_20_code 60 = .ok (.ifCond .eq 30, 3) := by decide +kernel
theorem d8_63 : decode prog_2_method_20_code 63 = .ok (.aload_n 0, 1) := by decide +kernel
theorem d8_64 : decode prog_2_method_20_code 64 = .ok (.getfield 12, 3) := by decide +kernel
theorem d8_67 : decode prog_2_method_20_code 67 = .ok (.iload_n 1, 1) := by decide +kernel
theorem d8_68 : decode prog_2_method_20_code 68 = .ok (.iaload, 1) := by decide +kernel
theorem d8_69 : decode prog_2_method_20_code 69 = .ok (.aload_n 0, 1) := by decide +kernel
theorem d8_70 : decode prog_2_method_20_code 70 = .ok (.getfield 19, 3) := by decide +kernel
theorem d8_73 : decode prog_2_method_20_code 73 = .ok (.iload_n 1, 1) := by decide +kernel
theorem d8_74 : decode prog_2_method_20_code 74 = .ok (.iaload, 1) := by decide +kernel
theorem d8_75 : decode prog_2_method_20_code 75 = .ok (.iadd, 1) := by decide +kernel
theorem d8_76 : decode prog_2_method_20_code 76 = .ok (.aload_n 0, 1) := by decide +kernel
theorem d8_77 : decode prog_2_method_20_code 77 = .ok (.getfield 58, 3) := by decide +kernel
theorem d8_80 : decode prog_2_method_20_code 80 = .ok (.if_icmp .eq 10, 3) := by decide +kernel
theorem d8_90 : decode prog_2_method_20_code 90 = .ok (.iload 4, 2) := by decide +kernel
theorem d8_92 : decode prog_2_method_20_code 92 = .ok (.ifCond .ne 56, 3) := by decide +kernel
theorem d8_95 : decode prog_2_method_20_code 95 = .ok (.aload_n 0, 1) := by decide +kernel
theorem d8_96 : decode prog_2_method_20_code 96 = .ok (.getfield 12, 3) := by decide +kernel
theorem d8_99 : decode prog_2_method_20_code 99 = .ok (.iload_n 1, 1) := by decide +kernel
theorem d8_100 : decode prog_2_method_20_code 100 = .ok (.iaload, 1) := by decide +kernel
theorem d8_101 : decode prog_2_method_20_code 101 = .ok (.aload_n 0, 1) := by decide +kernel
theorem d8_102 : decode prog_2_method_20_code 102 = .ok (.getfield 19, 3) := by decide +kernel
theorem d8_105 : decode prog_2_method_20_code 105 = .ok (.iload_n 1, 1) := by decide +kernel
theorem d8_106 : decode prog_2_method_20_code 106 = .ok (.iaload, 1) := by decide +kernel
theorem d8_107 : decode prog_2_method_20_code 107 = .ok (.iadd, 1) := by decide +kernel
theorem d8_108 : decode prog_2_method_20_code 108 = .ok (.aload_n 0, 1) := by decide +kernel
theorem d8_109 : decode prog_2_method_20_code 109 = .ok (.getfield 58, 3) := by decide +kernel
theorem d8_112 : decode prog_2_method_20_code 112 = .ok (.if_icmp .ne 36, 3) := by decide +kernel
theorem d8_115 : decode prog_2_method_20_code 115 = .ok (.aload_n 0, 1) := by decide +kernel
theorem d8_116 : decode prog_2_method_20_code 116 = .ok (.getfield 19, 3) := by decide +kernel
theorem d8_119 : decode prog_2_method_20_code 119 = .ok (.iload_n 1, 1) := by decide +kernel
theorem d8_120 : decode prog_2_method_20_code 120 = .ok (.dup2, 1) := by decide +kernel
theorem d8_121 : decode prog_2_method_20_code 121 = .ok (.iaload, 1) := by decide +kernel
theorem d8_122 : decode prog_2_method_20_code 122 = .ok (.iconst 1, 1) := by decide +kernel
theorem d8_123 : decode prog_2_method_20_code 123 = .ok (.iadd, 1) := by decide +kernel
theorem d8_124 : decode prog_2_method_20_code 124 = .ok (.iastore, 1) := by decide +kernel
theorem d8_125 : decode prog_2_method_20_code 125 = .ok (.aload_n 0, 1) := by decide +kernel
theorem d8_126 : decode prog_2_method_20_code 126 = .ok (.dup, 1) := by decide +kernel
theorem d8_127 : decode prog_2_method_20_code 127 = .ok (.getfield 58, 3) := by decide +kernel
theorem d8_130 : decode prog_2_method_20_code 130 = .ok (.iconst 1, 1) := by decide +kernel
theorem d8_131 : decode prog_2_method_20_code 131 = .ok (.iadd, 1) := by decide +kernel
theorem d8_132 : decode prog_2_method_20_code 132 = .ok (.putfield 58, 3) := by decide +kernel
theorem d8_135 : decode prog_2_method_20_code 135 = .ok (.aload_n 0, 1) := by decide +kernel
theorem d8_136 : decode prog_2_method_20_code 136 = .ok (.dup, 1) := by decide +kernel
theorem d8_137 : decode prog_2_method_20_code 137 = .ok (.getfield 62, 3) := by decide +kernel
theorem d8_140 : decode prog_2_method_20_code 140 = .ok (.iconst 1, 1) := by decide +kernel
theorem d8_141 : decode prog_2_method_20_code 141 = .ok (.iadd, 1) := by decide +kernel
theorem d8_142 : decode prog_2_method_20_code 142 = .ok (.putfield 62, 3) := by decide +kernel
theorem d8_145 : decode prog_2_method_20_code 145 = .ok (.goto 113, 3) := by decide +kernel
theorem d8_258 : decode prog_2_method_20_code 258 = .ok (.return_, 1) := by decide +kernel
set_option maxRecDepth 65536 in
set_option maxHeartbeats 40000000 in
theorem rm_gr (l : Launch) (Z : State) (a0 : Array Value) (hw : ∀ d ∈ tables_1, d.before a0 Z = true) (ws : List Jvm.Cond) (o0 : Addr) (st_ : Addr) (dg_ : Addr) (rm_ : Addr) (it_ : Addr) (k1_ : ClassId) (k2_ : ClassId) (k3_ : ClassId) (k4_ : ClassId) (zi_ : Int32) (its_ : List Value) (slv_ : Value) (d_ : Int32) (h0 : Heap) (n0 : Nat) (Z0 : n0 ≤ h0.size) (H : own_A Z h0 n0 o0 st_ dg_ rm_ it_ k1_ k2_ k3_ k4_ zi_ its_ slv_ d_ d_ d_ d_ d_) (hz : ¬ ((0 : Int32) < lcmpW (d_.toInt64 + (1 : Int32).toInt64) zi_.toInt64)) :
    MetFree l (⟨"com/example/plebiscite/plebiscite/Adjacency", "growBlock", "(I)V"⟩ : MethodName) (head1 (Jvm.Cond.code (⟨"com/example/plebiscite/plebiscite/Adjacency", "growBlock", "(I)V"⟩ : MethodName) prog_2_method_20_code 5 none :: ws) ({ frames := 1, cells := 0, slots := 0, locals := 19 } : Room)) (fun a U => a = #[(.ref o0), (.int 0)] ∧ Z.Warmed39 U.vm ∧ U.heap = h0) (fun _ _ _ _ _ => True) (fun _ U o U' => ∃ v L, o = .returned v ∧ Q_gr Z o0 st_ dg_ rm_ it_ k1_ k2_ k3_ k4_ zi_ its_ slv_ d_ h0 n0 v U'.heap L ∧ FrameEnd U o U' L ({ frames := 1, cells := 0, slots := 0, locals := 19 } : Room).cells ({ frames := 1, cells := 0, slots := 0, locals := 19 } : Room).slots) := by
  refine MetFree.of_bodySF (plainFor_of_name pn_0) hisR ?_
  intro p e s m args below meth c s₁ Bd hml0 hP hK
  obtain ⟨rfl, hZ, hh⟩ := hP
  have hx := Bd.exec
  have hby := Bd.bytes
  have hml : c.maxLocals = 5 := hml0
  have hown : s.vm.findClass "com/example/plebiscite/plebiscite/Adjacency" = some m.cls := findClass_of_methodNamed Bd.named
  have hnm := (name_of_methodNamed Bd.named Bd.method).1
  have X0 : Stand p l e ({ frames := 1, cells := 0, slots := 0, locals := 19 } : Room) s m #[(.ref o0), (.int 0)] below meth c s₁ [] 0 0 := Stand.of_body Bd
  have e0 : s₁.heap = h0 := by rw [← hh, Bd.state]; rfl
  have N0 := Fr.nil n0
  have go0 : ∀ t, Steps p.tables e below (s₁.setTop (mkF m 0 #[rv o0, iv 0, .unset, .unset, .unset] [])) t → Steps p.tables e below (s₁.setTop (entryFrame m #[(.ref o0), (.int 0)] 5)) t := fun t k => castTop (ef_gr m o0 (0 : Int32)) k
  obtain ⟨O, hO⟩ : ∃ z, z = (s₁.setTop (entryFrame m #[(.ref o0), (.int 0)] 5)) := ⟨_, rfl⟩
  rw [← hO] at go0
  obtain ⟨AX_101, Ag0_101, Ag1_101, Ag2_101, Ag3_101, Ag4_101, AF0_101, AF1_101, AF2_101, AF3_101, AF4_101, AF5_101, AF6_101, AF7_101, AF8_101, AV0_101, AV1_101, AV2_101, AV3_101, AN0_101, AN1_101, AN2_101, AN3_101, AN4_101, AN5_101, AN6_101, AN7_101, AN8_101, AN9_101⟩ := H
  have Z102 := Nat.le_trans Ag0_101 (Nat.le_of_lt AX_101.lt)
  have K103 := Keep.refl h0 [o0, rm_]
  obtain ⟨T104, X104, e104, st104⟩ := getF X0 hx hZ hown (host := "") (Or.inl (hw _ (List.mem_of_getElem? (i := 12) rfl))) Via.refl e0 AF1_101 (g := (mkF m 3 #[rv o0, iv 0, .unset, .unset, .unset] [(.ref o0), (.int 2), (.int 1)])) rfl rfl (hb hby d8_3)
  obtain ⟨cl105, Ar105, q105, S105, M105, Hs105, G105⟩ := AV1_101
  have f106 : Arv Z h0 dg_ k2_ .int (1 : Int32) [(.int d_)] (.int 0) := ⟨cl105, Ar105, q105, S105, M105, Hs105, G105⟩
  have hin107 : ¬ ((0 : Int32) < 0 ∨ cl105.slots.size ≤ ((0 : Int32)).toNatClampNeg) := inb_of S105 ⟨by decide, by decide⟩
  have hat107 : cl105.slots[((0 : Int32)).toNatClampNeg]? = some (.int d_) := Hs105.at hin107 rfl
  obtain ⟨_, _, ⟨T108, L108, k108, n108⟩, -, X108, ⟨Lc108, hQ108, l108, y108, z108⟩, st108⟩ := Jvm.LawKit.callS X104 hx (y := (⟨"java/lang/Math", "max", "(II)I"⟩ : MethodName)) hown (mvT hZ (hw _ (List.mem_of_getElem? (i := 33) rfl))) (mvT hZ (hw _ (List.mem_of_getElem? (i := 34) rfl))) (mvT hZ (hw _ (List.mem_of_getElem? (i := 35) rfl))) (mvT hZ (hw _ (List.mem_of_getElem? (i := 36) rfl))) (by decide) (backOf (W := 0) (rm_mxI l Z a0 hw [] (1 : Int32) ((2 : Int32) * d_)  h0 n0 Z102 ) hZ (hw _ (List.mem_of_getElem? (i := 36) rfl)) (hw _ (List.mem_of_getElem? (i := 35) rfl)) (by decide) (by decide)) (g := (mkF m 9 #[rv o0, iv 0, .unset, .unset, .unset] [(.int ((2 : Int32) * d_)), (.int 1)])) rfl (by rw [hml]; rfl) (argsL := [(.int 1), (.int ((2 : Int32) * d_))]) (rest := []) (lenOf pd_2 rfl) rfl (by show 2 * 0 + _ ≤ _; exact Nat.le_of_eq rfl) (hb hby d8_9) (fun _ _ => ⟨rfl, e104, (by decide : 0 + 0 ≤ _), (by decide : 0 + 0 ≤ _)⟩)
  dsimp only [Pt.U, Pt.locs, Pt.cells, Pt.slots] at X108 l108 y108 z108 st108 hQ108
  rw [l108, y108, z108] at X108
  obtain ⟨hv108, N108q, eX1⟩ := hQ108
  rw [hv108] at st108
  have N108 := Fr.app N0 N108q
  have go109 : ∀ t, Steps p.tables e below (T108.setTop (mkF m 13 #[rv o0, iv 0, iv (own_max (1 : Int32) ((2 : Int32) * d_)), .unset, .unset] [])) t → Steps p.tables e below O t := fun t k => go0 t (by
    refine XS.iconst X0.here hx rfl (hb hby d8_0) ?_
    refine XS.iconst X0.here hx rfl (hb hby d8_1) ?_
    show Steps _ _ _ (s₁.setTop (mkF m 2 _ [(.int 2), (.int 1)])) _
    refine XS.aloadN X0.here hx rfl (hb hby d8_2) rfl rfl ?_
    refine st104 _ ?_
    show Steps _ _ _ (T104.setTop (mkF m 6 _ [(.ref dg_), (.int 2), (.int 1)])) _
    refine XS.iloadN X104.here hx rfl (hb hby d8_6) rfl ?_
    refine X104.iaload hx (j := (0 : Int32)) (v := (.int d_)) (by rw [e104]; exact Ar105.1) (State.isArrayOf_alike hZ.alike Ar105.2.1) Ar105.2.2 hin107 hat107 (g := (mkF m 7 #[rv o0, iv 0, .unset, .unset, .unset] [(.int 0), (.ref dg_), (.int 2), (.int 1)])) rfl rfl (hb hby d8_7) _ ?_
    show Steps _ _ _ (T104.setTop (mkF m 8 _ [(.int d_), (.int 2), (.int 1)])) _
    refine XS.imul X104.here hx rfl (hb hby d8_8) rfl ?_
    refine st108 _ ?_
    show Steps _ _ _ (T108.setTop (mkF m 12 _ [(.int (own_max (1 : Int32) ((2 : Int32) * d_)))])) _
    refine XS.istoreN X108.here hx rfl (hb hby d8_12) rfl (l' := #[rv o0, iv 0, iv (own_max (1 : Int32) ((2 : Int32) * d_)), .unset, .unset]) rfl ?_
    show Steps _ _ _ (T108.setTop (mkF m 13 _ [])) _
    exact k)
  obtain ⟨mv_, hmv⟩ : ∃ z : Int32, z = (own_max (1 : Int32) ((2 : Int32) * d_)) := ⟨_, rfl⟩
  rw [← hmv] at go109
  obtain ⟨T110, X110, e110, st110⟩ := getF X108 hx hZ hown (host := "") (Or.inl (hw _ (List.mem_of_getElem? (i := 10) rfl))) Via.refl eX1 AF0_101 (g := (mkF m 14 #[rv o0, iv 0, iv mv_, .unset, .unset] [(.ref o0)])) rfl rfl (hb hby d8_14)
  obtain ⟨cl111, Ar111, q111, S111, M111, Hs111, G111⟩ := AV0_101
  have f112 : Arv Z h0 st_ k1_ .int (1 : Int32) [(.int 0)] (.int 0) := ⟨cl111, Ar111, q111, S111, M111, Hs111, G111⟩
  have hin113 : ¬ ((0 : Int32) < 0 ∨ cl111.slots.size ≤ ((0 : Int32)).toNatClampNeg) := inb_of S111 ⟨by decide, by decide⟩
  have hat113 : cl111.slots[((0 : Int32)).toNatClampNeg]? = some (.int 0) := Hs111.at hin113 rfl
  obtain ⟨T114, X114, e114, st114⟩ := getF X110 hx hZ hown (host := "") (Or.inl (hw _ (List.mem_of_getElem? (i := 14) rfl))) Via.refl e110 AF2_101 (g := (mkF m 20 #[rv o0, iv 0, iv mv_, .unset, .unset] [(.ref o0), (.int 0)])) rfl rfl (hb hby d8_20)
  obtain ⟨cl115, Ar115, q115, S115, M115, Hs115, G115⟩ := AV2_101
  have f116 : Arv Z h0 rm_ k3_ .int (1 : Int32) [(.int d_)] (.int 0) := ⟨cl115, Ar115, q115, S115, M115, Hs115, G115⟩
  have hin117 : ¬ ((0 : Int32) < 0 ∨ cl115.slots.size ≤ ((0 : Int32)).toNatClampNeg) := inb_of S115 ⟨by decide, by decide⟩
  have hat117 : cl115.slots[((0 : Int32)).toNatClampNeg]? = some (.int d_) := Hs115.at hin117 rfl
  obtain ⟨T118, X118, e118, st118⟩ := getF X114 hx hZ hown (host := "") (Or.inl (hw _ (List.mem_of_getElem? (i := 37) rfl))) Via.refl e114 AF5_101 (g := (mkF m 27 #[rv o0, iv 0, iv mv_, .unset, .unset] [(.ref o0), (.int ((0 : Int32) + d_))])) rfl rfl (hb hby d8_27)
  obtain ⟨cq119, qc119, qd119⟩ := AX_101.cell
  obtain ⟨_, _, ⟨T119, L119, k119, n119⟩, -, X119, ⟨Lc119, hQ119, l119, y119, z119⟩, st119⟩ := X118.privateBack hx (y := (⟨"com/example/plebiscite/plebiscite/Adjacency", "makeRoom", "(I)Z"⟩ : MethodName)) hown (mvT hZ (hw _ (List.mem_of_getElem? (i := 39) rfl))) (mvT hZ (hw _ (List.mem_of_getElem? (i := 40) rfl))) (mvT hZ (own_selects (y := (⟨"com/example/plebiscite/plebiscite/Adjacency", "makeRoom", "(I)Z"⟩ : MethodName)) (z := (⟨"com/example/plebiscite/plebiscite/Adjacency", "add", "(II)V"⟩ : MethodName)) rfl (hw _ (List.mem_of_getElem? (i := 41) rfl)) (hw _ (List.mem_of_getElem? (i := 40) rfl)) (hw _ (List.mem_of_getElem? (i := 21) rfl)) (by decide))) (Cond.privateMethod_at (mvP hZ (hw _ (List.mem_of_getElem? (i := 41) rfl)) (args := #[]))) (mvT hZ (hw _ (List.mem_of_getElem? (i := 42) rfl))) (by decide) (backOf (W := 0) (rm_mk l Z a0 hw [] o0 st_ dg_ rm_ it_ k1_ k2_ k3_ k4_ zi_ its_ slv_ d_ h0 n0 Z102 ⟨AX_101, Ag0_101, Ag1_101, Ag2_101, Ag3_101, Ag4_101, AF0_101, AF1_101, AF2_101, AF3_101, AF4_101, AF5_101, AF6_101, AF7_101, AF8_101, f112, f106, f116, AV3_101, AN0_101, AN1_101, AN2_101, AN3_101, AN4_101, AN5_101, AN6_101, AN7_101, AN8_101, AN9_101⟩ hz) hZ (hw _ (List.mem_of_getElem? (i := 42) rfl)) (hw _ (List.mem_of_getElem? (i := 2) rfl)) (by decide) (by decide)) (g := (mkF m 49 #[rv o0, iv 0, iv mv_, iv 1, .unset] [(.int 1), (.ref o0)])) rfl (by rw [hml]; rfl) (Steps.refl _) (a := o0) (by rw [e118]; exact qc119) qd119 (argsL := [(.int 1)]) (rest := []) (lenOf pd_3 rfl) rfl (by show 2 * 0 + _ ≤ _; exact Nat.le_of_eq rfl) (hb hby d8_49) (fun _ _ => ⟨rfl, e118, (by decide : 0 + 0 ≤ _), (by decide : 0 + 0 ≤ _)⟩)
  dsimp only [Pt.U, Pt.locs, Pt.cells, Pt.slots] at X119 l119 y119 z119 st119 hQ119
  rw [l119, y119, z119] at X119
  obtain ⟨hv119, N119q, eK1⟩ := hQ119
  rw [hv119] at st119
  have N119 := Fr.app N108 N119q
  obtain ⟨T120, X120, e120, st120⟩ := getF X119 hx hZ hown (host := "") (Or.inl (hw _ (List.mem_of_getElem? (i := 10) rfl))) Via.refl eK1 AF0_101 (g := (mkF m 64 #[rv o0, iv 0, iv mv_, iv 1, iv 0] [(.ref o0)])) rfl rfl (hb hby d8_64)
  obtain ⟨cl121, Ar121, q121, S121, M121, Hs121, G121⟩ := f112
  have f122 : Arv Z h0 st_ k1_ .int (1 : Int32) [(.int 0)] (.int 0) := ⟨cl121, Ar121, q121, S121, M121, Hs121, G121⟩
  have hin123 : ¬ ((0 : Int32) < 0 ∨ cl121.slots.size ≤ ((0 : Int32)).toNatClampNeg) := inb_of S121 ⟨by decide, by decide⟩
  have hat123 : cl121.slots[((0 : Int32)).toNatClampNeg]? = some (.int 0) := Hs121.at hin123 rfl
  obtain ⟨T124, X124, e124, st124⟩ := getF X120 hx hZ hown (host := "") (Or.inl (hw _ (List.mem_of_getElem? (i := 14) rfl))) Via.refl e120 AF2_101 (g := (mkF m 70 #[rv o0, iv 0, iv mv_, iv 1, iv 0] [(.ref o0), (.int 0)])) rfl rfl (hb hby d8_70)
  obtain ⟨cl125, Ar125, q125, S125, M125, Hs125, G125⟩ := f116
  have f126 : Arv Z h0 rm_ k3_ .int (1 : Int32) [(.int d_)] (.int 0) := ⟨cl125, Ar125, q125, S125, M125, Hs125, G125⟩
  have hin127 : ¬ ((0 : Int32) < 0 ∨ cl125.slots.size ≤ ((0 : Int32)).toNatClampNeg) := inb_of S125 ⟨by decide, by decide⟩
  have hat127 : cl125.slots[((0 : Int32)).toNatClampNeg]? = some (.int d_) := Hs125.at hin127 rfl
  obtain ⟨T128, X128, e128, st128⟩ := getF X124 hx hZ hown (host := "") (Or.inl (hw _ (List.mem_of_getElem? (i := 37) rfl))) Via.refl e124 AF5_101 (g := (mkF m 77 #[rv o0, iv 0, iv mv_, iv 1, iv 0] [(.ref o0), (.int ((0 : Int32) + d_))])) rfl rfl (hb hby d8_77)
  obtain ⟨T129, X129, e129, st129⟩ := getF X128 hx hZ hown (host := "") (Or.inl (hw _ (List.mem_of_getElem? (i := 10) rfl))) Via.refl e128 AF0_101 (g := (mkF m 96 #[rv o0, iv 0, iv mv_, iv 1, iv 0] [(.ref o0)])) rfl rfl (hb hby d8_96)
  obtain ⟨cl130, Ar130, q130, S130, M130, Hs130, G130⟩ := f122
  have f131 : Arv Z h0 st_ k1_ .int (1 : Int32) [(.int 0)] (.int 0) := ⟨cl130, Ar130, q130, S130, M130, Hs130, G130⟩
  have hin132 : ¬ ((0 : Int32) < 0 ∨ cl130.slots.size ≤ ((0 : Int32)).toNatClampNeg) := inb_of S130 ⟨by decide, by decide⟩
  have hat132 : cl130.slots[((0 : Int32)).toNatClampNeg]? = some (.int 0) := Hs130.at hin132 rfl
  obtain ⟨T133, X133, e133, st133⟩ := getF X129 hx hZ hown (host := "") (Or.inl (hw _ (List.mem_of_getElem? (i := 14) rfl))) Via.refl e129 AF2_101 (g := (mkF m 102 #[rv o0, iv 0, iv mv_, iv 1, iv 0] [(.ref o0), (.int 0)])) rfl rfl (hb hby d8_102)
  obtain ⟨cl134, Ar134, q134, S134, M134, Hs134, G134⟩ := f126
  have f135 : Arv Z h0 rm_ k3_ .int (1 : Int32) [(.int d_)] (.int 0) := ⟨cl134, Ar134, q134, S134, M134, Hs134, G134⟩
  have hin136 : ¬ ((0 : Int32) < 0 ∨ cl134.slots.size ≤ ((0 : Int32)).toNatClampNeg) := inb_of S134 ⟨by decide, by decide⟩
  have hat136 : cl134.slots[((0 : Int32)).toNatClampNeg]? = some (.int d_) := Hs134.at hin136 rfl
  obtain ⟨T137, X137, e137, st137⟩ := getF X133 hx hZ hown (host := "") (Or.inl (hw _ (List.mem_of_getElem? (i := 37) rfl))) Via.refl e133 AF5_101 (g := (mkF m 109 #[rv o0, iv 0, iv mv_, iv 1, iv 0] [(.ref o0), (.int ((0 : Int32) + d_))])) rfl rfl (hb hby d8_109)
  obtain ⟨T138, X138, e138, st138⟩ := getF X137 hx hZ hown (host := "") (Or.inl (hw _ (List.mem_of_getElem? (i := 14) rfl))) Via.refl e137 AF2_101 (g := (mkF m 116 #[rv o0, iv 0, iv mv_, iv 1, iv 0] [(.ref o0)])) rfl rfl (hb hby d8_116)
  obtain ⟨cl139, Ar139, q139, S139, M139, Hs139, G139⟩ := f135
  have f140 : Arv Z h0 rm_ k3_ .int (1 : Int32) [(.int d_)] (.int 0) := ⟨cl139, Ar139, q139, S139, M139, Hs139, G139⟩
  have hin141 : ¬ ((0 : Int32) < 0 ∨ cl139.slots.size ≤ ((0 : Int32)).toNatClampNeg) := inb_of S139 ⟨by decide, by decide⟩
  have hat141 : cl139.slots[((0 : Int32)).toNatClampNeg]? = some (.int d_) := Hs139.at hin141 rfl
  obtain ⟨cl142, Ar142, q142, S142, M142, Hs142, G142⟩ := f140
  have f143 : Arv Z h0 rm_ k3_ .int (1 : Int32) [(.int d_)] (.int 0) := ⟨cl142, Ar142, q142, S142, M142, Hs142, G142⟩
  have hin144 : ¬ ((0 : Int32) < 0 ∨ cl142.slots.size ≤ ((0 : Int32)).toNatClampNeg) := inb_of S142 ⟨by decide, by decide⟩
  obtain ⟨T144, h144, X144, e144, W144, st144⟩ := stI X138 hx hZ e138 Ar142 (j := (0 : Int32)) hin144 (g := (mkF m 124 #[rv o0, iv 0, iv mv_, iv 1, iv 0] [(.int (d_ + (1 : Int32))), (.int 0), (.ref rm_)])) rfl rfl (hb hby d8_124)
  have f145 := AX_101.wr W144
  have f146 := AF0_101.other W144 (Or.inl AN2_101)
  have f147 := AF1_101.other W144 (Or.inl AN2_101)
  have f148 := AF2_101.other W144 (Or.inl AN2_101)
  have f149 := AF3_101.other W144 (Or.inl AN2_101)
  have f150 := AF4_101.other W144 (Or.inl AN2_101)
  have f151 := AF5_101.other W144 (Or.inl AN2_101)
  have f152 := AF6_101.other W144 (Or.inl AN2_101)
  have f153 := AF7_101.other W144 (Or.inl AN2_101)
  have f154 := AF8_101.other W144 (Or.inl AN2_101)
  have f155 := f131.other W144 AN5_101
  have f156 := f106.other W144 AN7_101
  have f157 := AV3_101.other W144 (Ne.symm AN9_101)
  have Z158 := Nat.le_trans Z102 (Keep.of_wr W144).1
  have K159 := K103.wr W144 (Or.inl (List.mem_of_getElem? (i := 1) rfl))
  have V144 : Arv Z h144 rm_ k3_ .int (1 : Int32) [(.int (d_ + (1 : Int32)))] (.int 0) := Arv.set Ar142 q142 S142 M142 Hs142 G142 rfl W144 0 rfl (Nat.le_of_ble_eq_true rfl)
  have N144 := Fr.snoc X144 N119 Ag3_101
  obtain ⟨T160, X160, e160, st160⟩ := getF X144 hx hZ hown (host := "") (Or.inl (hw _ (List.mem_of_getElem? (i := 37) rfl))) Via.refl e144 f151 (g := (mkF m 127 #[rv o0, iv 0, iv mv_, iv 1, iv 0] [(.ref o0), (.ref o0)])) rfl rfl (hb hby d8_127)
  obtain ⟨T161, h161, X161, e161, W161, st161⟩ := putF X160 hx hZ hown (host := "") (Or.inl (hw _ (List.mem_of_getElem? (i := 37) rfl))) Via.refl e160 f151 f145 (Or.inl (hw _ (List.mem_of_getElem? (i := 38) rfl))) (hw _ (List.mem_of_getElem? (i := 1) rfl)) (ty := .int) (by decide) rfl rfl (g := (mkF m 132 #[rv o0, iv 0, iv mv_, iv 1, iv 0] [(.int (d_ + (1 : Int32))), (.ref o0)])) rfl rfl (hb hby d8_132)
  have f162 := f145.wr W161
  have f163 := f146.other W161 (Or.inr (slot_ne (Or.inr (hw _ (List.mem_of_getElem? (i := 11) rfl))) (Or.inl (hw _ (List.mem_of_getElem? (i := 38) rfl))) (by decide) (t := (.array .int)) (t' := .int) (by decide) (by decide)))
  have f164 := f147.other W161 (Or.inr (slot_ne (Or.inr (hw _ (List.mem_of_getElem? (i := 13) rfl))) (Or.inl (hw _ (List.mem_of_getElem? (i := 38) rfl))) (by decide) (t := (.array .int)) (t' := .int) (by decide) (by decide)))
  have f165 := f148.other W161 (Or.inr (slot_ne (Or.inl (hw _ (List.mem_of_getElem? (i := 15) rfl))) (Or.inl (hw _ (List.mem_of_getElem? (i := 38) rfl))) (by decide) (t := (.array .int)) (t' := .int) (by decide) (by decide)))
  have f166 := f149.other W161 (Or.inr (slot_ne (Or.inl (hw _ (List.mem_of_getElem? (i := 17) rfl))) (Or.inl (hw _ (List.mem_of_getElem? (i := 38) rfl))) (by decide) (t := (.array .int)) (t' := .int) (by decide) (by decide)))
  have f167 := f150.other W161 (Or.inr (slot_ne (Or.inl (hw _ (List.mem_of_getElem? (i := 53) rfl))) (Or.inl (hw _ (List.mem_of_getElem? (i := 38) rfl))) (by decide) (t := (.array .int)) (t' := .int) (by decide) (by decide)))
  have f168 := f152.other W161 (Or.inr (slot_ne (Or.inl (hw _ (List.mem_of_getElem? (i := 44) rfl))) (Or.inl (hw _ (List.mem_of_getElem? (i := 38) rfl))) (by decide) (t := .int) (t' := .int) (by decide) (by decide)))
  have f169 := f153.other W161 (Or.inr (slot_ne (Or.inl (hw _ (List.mem_of_getElem? (i := 46) rfl))) (Or.inl (hw _ (List.mem_of_getElem? (i := 38) rfl))) (by decide) (t := .int) (t' := .int) (by decide) (by decide)))
  have f170 := f154.other W161 (Or.inr (slot_ne (Or.inl (hw _ (List.mem_of_getElem? (i := 28) rfl))) (Or.inl (hw _ (List.mem_of_getElem? (i := 38) rfl))) (by decide) (t := (.array .int)) (t' := .int) (by decide) (by decide)))
  have f171 := f155.other W161 (Ne.symm AN0_101)
  have f172 := f156.other W161 (Ne.symm AN1_101)
  have f173 := V144.other W161 (Ne.symm AN2_101)
  have f174 := f157.other W161 (Ne.symm AN3_101)
  have Z175 := Nat.le_trans Z158 (Keep.of_wr W161).1
  have K176 := K159.wr W161 (Or.inl (List.mem_of_getElem? (i := 0) rfl))
  have f177 := f151.same W161
  have N161 := Fr.snoc X161 N144 Ag0_101
  obtain ⟨T178, X178, e178, st178⟩ := getF X161 hx hZ hown (host := "") (Or.inl (hw _ (List.mem_of_getElem? (i := 43) rfl))) Via.refl e161 f168 (g := (mkF m 137 #[rv o0, iv 0, iv mv_, iv 1, iv 0] [(.ref o0), (.ref o0)])) rfl rfl (hb hby d8_137)
  obtain ⟨T179, h179, X179, e179, W179, st179⟩ := putF X178 hx hZ hown (host := "") (Or.inl (hw _ (List.mem_of_getElem? (i := 43) rfl))) Via.refl e178 f168 f162 (Or.inl (hw _ (List.mem_of_getElem? (i := 44) rfl))) (hw _ (List.mem_of_getElem? (i := 1) rfl)) (ty := .int) (by decide) rfl rfl (g := (mkF m 142 #[rv o0, iv 0, iv mv_, iv 1, iv 0] [(.int (d_ + (1 : Int32))), (.ref o0)])) rfl rfl (hb hby d8_142)
  have f180 := f162.wr W179
  have f181 := f163.other W179 (Or.inr (slot_ne (Or.inr (hw _ (List.mem_of_getElem? (i := 11) rfl))) (Or.inl (hw _ (List.mem_of_getElem? (i := 44) rfl))) (by decide) (t := (.array .int)) (t' := .int) (by decide) (by decide)))
  have f182 := f164.other W179 (Or.inr (slot_ne (Or.inr (hw _ (List.mem_of_getElem? (i := 13) rfl))) (Or.inl (hw _ (List.mem_of_getElem? (i := 44) rfl))) (by decide) (t := (.array .int)) (t' := .int) (by decide) (by decide)))
  have f183 := f165.other W179 (Or.inr (slot_ne (Or.inl (hw _ (List.mem_of_getElem? (i := 15) rfl))) (Or.inl (hw _ (List.mem_of_getElem? (i := 44) rfl))) (by decide) (t := (.array .int)) (t' := .int) (by decide) (by decide)))
  have f184 := f166.other W179 (Or.inr (slot_ne (Or.inl (hw _ (List.mem_of_getElem? (i := 17) rfl))) (Or.inl (hw _ (List.mem_of_getElem? (i := 44) rfl))) (by decide) (t := (.array .int)) (t' := .int) (by decide) (by decide)))
  have f185 := f167.other W179 (Or.inr (slot_ne (Or.inl (hw _ (List.mem_of_getElem? (i := 53) rfl))) (Or.inl (hw _ (List.mem_of_getElem? (i := 44) rfl))) (by decide) (t := (.array .int)) (t' := .int) (by decide) (by decide)))
  have f186 := f177.other W179 (Or.inr (slot_ne (Or.inl (hw _ (List.mem_of_getElem? (i := 38) rfl))) (Or.inl (hw _ (List.mem_of_getElem? (i := 44) rfl))) (by decide) (t := .int) (t' := .int) (by decide) (by decide)))
  have f187 := f169.other W179 (Or.inr (slot_ne (Or.inl (hw _ (List.mem_of_getElem? (i := 46) rfl))) (Or.inl (hw _ (List.mem_of_getElem? (i := 44) rfl))) (by decide) (t := .int) (t' := .int) (by decide) (by decide)))
  have f188 := f170.other W179 (Or.inr (slot_ne (Or.inl (hw _ (List.mem_of_getElem? (i := 28) rfl))) (Or.inl (hw _ (List.mem_of_getElem? (i := 44) rfl))) (by decide) (t := (.array .int)) (t' := .int) (by decide) (by decide)))
  have f189 := f171.other W179 (Ne.symm AN0_101)
  have f190 := f172.other W179 (Ne.symm AN1_101)
  have f191 := f173.other W179 (Ne.symm AN2_101)
  have f192 := f174.other W179 (Ne.symm AN3_101)
  have Z193 := Nat.le_trans Z175 (Keep.of_wr W179).1
  have K194 := K176.wr W179 (Or.inl (List.mem_of_getElem? (i := 0) rfl))
  have f195 := f168.same W179
  have N179 := Fr.snoc X179 N161 Ag0_101
  have go196 : ∀ t, Steps p.tables e below (T179.setTop (mkF m 258 #[rv o0, iv 0, iv mv_, iv 1, iv 0] [])) t → Steps p.tables e below O t := fun t k => go109 t (by
    refine XS.aloadN X108.here hx rfl (hb hby d8_13) rfl rfl ?_
    refine st110 _ ?_
    show Steps _ _ _ (T110.setTop (mkF m 17 _ [(.ref st_)])) _
    refine XS.iloadN X110.here hx rfl (hb hby d8_17) rfl ?_
    refine X110.iaload hx (j := (0 : Int32)) (v := (.int 0)) (by rw [e110]; exact Ar111.1) (State.isArrayOf_alike hZ.alike Ar111.2.1) Ar111.2.2 hin113 hat113 (g := (mkF m 18 #[rv o0, iv 0, iv mv_, .unset, .unset] [(.int 0), (.ref st_)])) rfl rfl (hb hby d8_18) _ ?_
    show Steps _ _ _ (T110.setTop (mkF m 19 _ [(.int 0)])) _
    refine XS.aloadN X110.here hx rfl (hb hby d8_19) rfl rfl ?_
    refine st114 _ ?_
    show Steps _ _ _ (T114.setTop (mkF m 23 _ [(.ref rm_), (.int 0)])) _
    refine XS.iloadN X114.here hx rfl (hb hby d8_23) rfl ?_
    refine X114.iaload hx (j := (0 : Int32)) (v := (.int d_)) (by rw [e114]; exact Ar115.1) (State.isArrayOf_alike hZ.alike Ar115.2.1) Ar115.2.2 hin117 hat117 (g := (mkF m 24 #[rv o0, iv 0, iv mv_, .unset, .unset] [(.int 0), (.ref rm_), (.int 0)])) rfl rfl (hb hby d8_24) _ ?_
    show Steps _ _ _ (T114.setTop (mkF m 25 _ [(.int d_), (.int 0)])) _
    refine XS.iadd X114.here hx rfl (hb hby d8_25) rfl ?_
    refine XS.aloadN X114.here hx rfl (hb hby d8_26) rfl rfl ?_
    show Steps _ _ _ (T114.setTop (mkF m 27 _ [(.ref o0), (.int ((0 : Int32) + d_))])) _
    refine st118 _ ?_
    show Steps _ _ _ (T118.setTop (mkF m 30 _ [(.int d_), (.int ((0 : Int32) + d_))])) _
    refine XS.icmpNo X118.here hx rfl (hb hby d8_30) rfl (teq (Int32.zero_add d_ : ((0 : Int32) + d_) = d_)).2 ?_
    refine XS.iconst X118.here hx rfl (hb hby d8_33) ?_
    show Steps _ _ _ (T118.setTop (mkF m 34 _ [(.int 1)])) _
    refine XS.goto X118.here hx rfl (pc0 := 34) (pc' := 38) rfl (hb hby d8_34) (by decide) (by decide) ?_
    refine XS.istoreN X118.here hx rfl (hb hby d8_38) rfl (l' := #[rv o0, iv 0, iv mv_, iv 1, .unset]) rfl ?_
    show Steps _ _ _ (T118.setTop (mkF m 39 _ [])) _
    refine XS.aloadN X118.here hx rfl (hb hby d8_39) rfl rfl ?_
    refine XS.iloadN X118.here hx rfl (hb hby d8_40) rfl ?_
    show Steps _ _ _ (T118.setTop (mkF m 41 _ [(.int 1), (.ref o0)])) _
    refine XS.ifNo X118.here hx rfl (hb hby d8_41) rfl ((if0 _ _).trans (feq (by decide : ¬ ((1 : Int32) = (0 : Int32)))).1) ?_
    refine XS.iconst X118.here hx rfl (hb hby d8_44) ?_
    show Steps _ _ _ (T118.setTop (mkF m 45 _ [(.int 1), (.ref o0)])) _
    refine XS.goto X118.here hx rfl (pc0 := 45) (pc' := 49) rfl (hb hby d8_45) (by decide) (by decide) ?_
    refine st119.trans ?_
    show Steps _ _ _ (T119.setTop (mkF m 52 _ [(.int 0)])) _
    refine XS.istore X119.here hx rfl (hb hby d8_52) rfl (l' := #[rv o0, iv 0, iv mv_, iv 1, iv 0]) rfl ?_
    show Steps _ _ _ (T119.setTop (mkF m 54 _ [])) _
    refine XS.iload X119.here hx rfl (hb hby d8_54) rfl ?_
    refine XS.ifNo X119.here hx rfl (hb hby d8_56) rfl ((if0 _ _).trans (teq (rfl : (0 : Int32) = (0 : Int32))).2) ?_
    show Steps _ _ _ (T119.setTop (mkF m 59 _ [])) _
    refine XS.iloadN X119.here hx rfl (hb hby d8_59) rfl ?_
    refine XS.ifNo X119.here hx rfl (hb hby d8_60) rfl ((if0 _ _).trans (feq (by decide : ¬ ((1 : Int32) = (0 : Int32)))).1) ?_
    show Steps _ _ _ (T119.setTop (mkF m 63 _ [])) _
    refine XS.aloadN X119.here hx rfl (hb hby d8_63) rfl rfl ?_
    refine st120 _ ?_
    show Steps _ _ _ (T120.setTop (mkF m 67 _ [(.ref st_)])) _
    refine XS.iloadN X120.here hx rfl (hb hby d8_67) rfl ?_
    refine X120.iaload hx (j := (0 : Int32)) (v := (.int 0)) (by rw [e120]; exact Ar121.1) (State.isArrayOf_alike hZ.alike Ar121.2.1) Ar121.2.2 hin123 hat123 (g := (mkF m 68 #[rv o0, iv 0, iv mv_, iv 1, iv 0] [(.int 0), (.ref st_)])) rfl rfl (hb hby d8_68) _ ?_
    show Steps _ _ _ (T120.setTop (mkF m 69 _ [(.int 0)])) _
    refine XS.aloadN X120.here hx rfl (hb hby d8_69) rfl rfl ?_
    refine st124 _ ?_
    show Steps _ _ _ (T124.setTop (mkF m 73 _ [(.ref rm_), (.int 0)])) _
    refine XS.iloadN X124.here hx rfl (hb hby d8_73) rfl ?_
    refine X124.iaload hx (j := (0 : Int32)) (v := (.int d_)) (by rw [e124]; exact Ar125.1) (State.isArrayOf_alike hZ.alike Ar125.2.1) Ar125.2.2 hin127 hat127 (g := (mkF m 74 #[rv o0, iv 0, iv mv_, iv 1, iv 0] [(.int 0), (.ref rm_), (.int 0)])) rfl rfl (hb hby d8_74) _ ?_
    show Steps _ _ _ (T124.setTop (mkF m 75 _ [(.int d_), (.int 0)])) _
    refine XS.iadd X124.here hx rfl (hb hby d8_75) rfl ?_
    refine XS.aloadN X124.here hx rfl (hb hby d8_76) rfl rfl ?_
    show Steps _ _ _ (T124.setTop (mkF m 77 _ [(.ref o0), (.int ((0 : Int32) + d_))])) _
    refine st128 _ ?_
    show Steps _ _ _ (T128.setTop (mkF m 80 _ [(.int d_), (.int ((0 : Int32) + d_))])) _
    refine XS.icmpYes X128.here hx rfl (pc0 := 80) (pc' := 90) rfl (hb hby d8_80) rfl (teq (Int32.zero_add d_ : ((0 : Int32) + d_) = d_)).1 (by decide) (by decide) ?_
    refine XS.iload X128.here hx rfl (hb hby d8_90) rfl ?_
    show Steps _ _ _ (T128.setTop (mkF m 92 _ [(.int 0)])) _
    refine XS.ifNo X128.here hx rfl (hb hby d8_92) rfl ((if0 _ _).trans (teq (rfl : (0 : Int32) = (0 : Int32))).2) ?_
    refine XS.aloadN X128.here hx rfl (hb hby d8_95) rfl rfl ?_
    show Steps _ _ _ (T128.setTop (mkF m 96 _ [(.ref o0)])) _
    refine st129 _ ?_
    show Steps _ _ _ (T129.setTop (mkF m 99 _ [(.ref st_)])) _
    refine XS.iloadN X129.here hx rfl (hb hby d8_99) rfl ?_
    refine X129.iaload hx (j := (0 : Int32)) (v := (.int 0)) (by rw [e129]; exact Ar130.1) (State.isArrayOf_alike hZ.alike Ar130.2.1) Ar130.2.2 hin132 hat132 (g := (mkF m 100 #[rv o0, iv 0, iv mv_, iv 1, iv 0] [(.int 0), (.ref st_)])) rfl rfl (hb hby d8_100) _ ?_
    show Steps _ _ _ (T129.setTop (mkF m 101 _ [(.int 0)])) _
    refine XS.aloadN X129.here hx rfl (hb hby d8_101) rfl rfl ?_
    refine st133 _ ?_
    show Steps _ _ _ (T133.setTop (mkF m 105 _ [(.ref rm_), (.int 0)])) _
    refine XS.iloadN X133.here hx rfl (hb hby d8_105) rfl ?_
    refine X133.iaload hx (j := (0 : Int32)) (v := (.int d_)) (by rw [e133]; exact Ar134.1) (State.isArrayOf_alike hZ.alike Ar134.2.1) Ar134.2.2 hin136 hat136 (g := (mkF m 106 #[rv o0, iv 0, iv mv_, iv 1, iv 0] [(.int 0), (.ref rm_), (.int 0)])) rfl rfl (hb hby d8_106) _ ?_
    show Steps _ _ _ (T133.setTop (mkF m 107 _ [(.int d_), (.int 0)])) _
    refine XS.iadd X133.here hx rfl (hb hby d8_107) rfl ?_
    refine XS.aloadN X133.here hx rfl (hb hby d8_108) rfl rfl ?_
    show Steps _ _ _ (T133.setTop (mkF m 109 _ [(.ref o0), (.int ((0 : Int32) + d_))])) _
    refine st137 _ ?_
    show Steps _ _ _ (T137.setTop (mkF m 112 _ [(.int d_), (.int ((0 : Int32) + d_))])) _
    refine XS.icmpNo X137.here hx rfl (hb hby d8_112) rfl (teq (Int32.zero_add d_ : ((0 : Int32) + d_) = d_)).2 ?_
    refine XS.aloadN X137.here hx rfl (hb hby d8_115) rfl rfl ?_
    show Steps _ _ _ (T137.setTop (mkF m 116 _ [(.ref o0)])) _
    refine st138 _ ?_
    show Steps _ _ _ (T138.setTop (mkF m 119 _ [(.ref rm_)])) _
    refine XS.iloadN X138.here hx rfl (hb hby d8_119) rfl ?_
    refine XT.dup2 X138.here hx rfl (hb hby d8_120) rfl rfl rfl ?_
    show Steps _ _ _ (T138.setTop (mkF m 121 _ [(.int 0), (.ref rm_), (.int 0), (.ref rm_)])) _
    refine X138.iaload hx (j := (0 : Int32)) (v := (.int d_)) (by rw [e138]; exact Ar139.1) (State.isArrayOf_alike hZ.alike Ar139.2.1) Ar139.2.2 hin141 hat141 (g := (mkF m 121 #[rv o0, iv 0, iv mv_, iv 1, iv 0] [(.int 0), (.ref rm_), (.int 0), (.ref rm_)])) rfl rfl (hb hby d8_121) _ ?_
    refine XS.iconst X138.here hx rfl (hb hby d8_122) ?_
    show Steps _ _ _ (T138.setTop (mkF m 123 _ [(.int 1), (.int d_), (.int 0), (.ref rm_)])) _
    refine XS.iadd X138.here hx rfl (hb hby d8_123) rfl ?_
    refine st144 _ ?_
    show Steps _ _ _ (T144.setTop (mkF m 125 _ [])) _
    refine XS.aloadN X144.here hx rfl (hb hby d8_125) rfl rfl ?_
    refine XS.dup X144.here hx rfl (hb hby d8_126) rfl rfl ?_
    show Steps _ _ _ (T144.setTop (mkF m 127 _ [(.ref o0), (.ref o0)])) _
    refine st160 _ ?_
    show Steps _ _ _ (T160.setTop (mkF m 130 _ [(.int d_), (.ref o0)])) _
    refine XS.iconst X160.here hx rfl (hb hby d8_130) ?_
    refine XS.iadd X160.here hx rfl (hb hby d8_131) rfl ?_
    show Steps _ _ _ (T160.setTop (mkF m 132 _ [(.int (d_ + (1 : Int32))), (.ref o0)])) _
    refine st161 _ ?_
    show Steps _ _ _ (T161.setTop (mkF m 135 _ [])) _
    refine XS.aloadN X161.here hx rfl (hb hby d8_135) rfl rfl ?_
    refine XS.dup X161.here hx rfl (hb hby d8_136) rfl rfl ?_
    show Steps _ _ _ (T161.setTop (mkF m 137 _ [(.ref o0), (.ref o0)])) _
    refine st178 _ ?_
    show Steps _ _ _ (T178.setTop (mkF m 140 _ [(.int d_), (.ref o0)])) _
    refine XS.iconst X178.here hx rfl (hb hby d8_140) ?_
    refine XS.iadd X178.here hx rfl (hb hby d8_141) rfl ?_
    show Steps _ _ _ (T178.setTop (mkF m 142 _ [(.int (d_ + (1 : Int32))), (.ref o0)])) _
    refine st179 _ ?_
    show Steps _ _ _ (T179.setTop (mkF m 145 _ [])) _
    refine XS.goto X179.here hx rfl (pc0 := 145) (pc' := 258) rfl (hb hby d8_145) (by decide) (by decide) ?_
    exact k)
  rw [hO] at go196
  obtain ⟨fs, hr, hrun, hended, hW, hsame⟩ := X179.leave (v := none) (fun _ => rfl)
  refine ⟨_, _, go196 _ ?_, hrun, hended, _, _, rfl, ?_, ⟨_, rfl⟩, hW, hsame.mono (by decide) (by decide)⟩
  · exact X179.returnOut hx Bd.returns (hb hby d8_258) hr
  · show Q_gr Z o0 st_ dg_ rm_ it_ k1_ k2_ k3_ k4_ zi_ its_ slv_ d_ h0 n0 _ T179.heap _
    rw [e179]
    exact ⟨rfl, N179, K194, ⟨f180, Ag0_101, Ag1_101, Ag2_101, Ag3_101, Ag4_101, f181, f182, f183, f184, f185, f186, f195, f187, f188, f189, f190, f191, f192, AN0_101, AN1_101, AN2_101, AN3_101, AN4_101, AN5_101, AN6_101, AN7_101, AN8_101, AN9_101⟩⟩
theorem ef_ap (m : MethodId) (x0 : Addr) (x1 : Int32) : entryFrame m #[(.ref x0), (.int x1)] 2 = mkF m 0 #[rv x0, iv x1] [] := by first | (simp [entryFrame, mkF, argsToLocals, Value.category]; done) | rfl
def Q_ap (Z : State) (o0 : Addr) (st_ : Addr) (dg_ : Addr) (rm_ : Addr) (it_ : Addr) (k1_ : ClassId) (k2_ : ClassId) (k3_ : ClassId) (k4_ : ClassId) (zi_ : Int32) (its_ : List Value) (slv_ : Value) (d_ : Int32) (h0 : Heap) (n0 : Nat) (v : Option Value) (h : Heap) (L : List Loc) : Prop := v = some (.int ((0 : Int32) + d_)) ∧ Fr n0 L ∧ Keep h0 h [o0, rm_, dg_] ∧ own_A Z h n0 o0 st_ dg_ rm_ it_ k1_ k2_ k3_ k4_ zi_ its_ slv_ (d_ + (1 : Int32)) (d_ + (1 : Int32)) (d_ + (1 : Int32)) (d_ + (1 : Int32)) (d_ + (1 : Int32))
theorem d9_0 : decode prog_2_method_19_code 0 = .ok (.aload_n 0, 1) := by decide +kernel
theorem d9_1 : decode prog_2_method_19_code 1 = .ok (.getfield 72, 3) := by decide +kernel
theorem d9_4 : decode prog_2_method_19_code 4 = .ok (.ifnull 38, 3) := by decide +kernel
theorem d9_42 : decode prog_2_method_19_code 42 = .ok (.aload_n 0, 1) := by decide +kernel
theorem d9_43 : decode prog_2_method_19_code 43 = .ok (.getfield 16, 3) := by decide +kernel
theorem d9_46 : decode prog_2_method_19_code 46 = .ok (.iload_n 1, 1) := by decide +kernel
theorem d9_47 : decode prog_2_method_19_code 47 = .ok (.iaload, 1) := by decide +kernel
theorem d9_48 : decode prog_2_method_19_code 48 = .ok (.aload_n 0, 1) := by decide +kernel
theorem d9_49 : decode prog_2_method_19_code 49 = .ok (.getfield 19, 3) := by decide +kernel
theorem d9_52 : decode prog_2_method_19_code 52 = .ok (.iload_n 1, 1) := by decide +kernel
theorem d9_53 : decode prog_2_method_19_code 53 = .ok (.iaload, 1) := by decide +kernel
theorem d9_54 : decode prog_2_method_19_code 54 = .ok (.if_icmp .ne 8, 3) := by decide +kernel
theorem d9_57 : decode prog_2_method_19_code 57 = .ok (.aload_n 0, 1) := by decide +kernel
theorem d9_58 : decode prog_2_method_19_code 58 = .ok (.iload_n 1, 1) := by decide +kernel
theorem d9_59 : decode prog_2_method_19_code 59 = .ok (.invokevirtual 91, 3) := by decide +kernel
theorem d9_62 : decode prog_2_method_19_code 62 = .ok (.aload_n 0, 1) := by decide +kernel
theorem d9_63 : decode prog_2_method_19_code 63 = .ok (.dup, 1) := by decide +kernel
theorem d9_64 : decode prog_2_method_19_code 64 = .ok (.getfield 79, 3) := by decide +kernel
theorem d9_67 : decode prog_2_method_19_code 67 = .ok (.iconst 1, 1) := by decide +kernel
theorem d9_68 : decode prog_2_method_19_code 68 = .ok (.iadd, 1) := by decide +kernel
theorem d9_69 : decode prog_2_method_19_code 69 = .ok (.putfield 79, 3) := by decide +kernel
theorem d9_72 : decode prog_2_method_19_code 72 = .ok (.aload_n 0, 1) := by decide +kernel
theorem d9_73 : decode prog_2_method_19_code 73 = .ok (.getfield 12, 3) := by decide +kernel
theorem d9_76 : decode prog_2_method_19_code 76 = .ok (.iload_n 1, 1) := by decide +kernel
theorem d9_77 : decode prog_2_method_19_code 77 = .ok (.iaload, 1) := by decide +kernel
theorem d9_78 : decode prog_2_method_19_code 78 = .ok (.aload_n 0, 1) := by decide +kernel
theorem d9_79 : decode prog_2_method_19_code 79 = .ok (.getfield 16, 3) := by decide +kernel
theorem d9_82 : decode prog_2_method_19_code 82 = .ok (.iload_n 1, 1) := by decide +kernel
theorem d9_83 : decode prog_2_method_19_code 83 = .ok (.dup2, 1) := by decide +kernel
theorem d9_84 : decode prog_2_method_19_code 84 = .ok (.iaload, 1) := by decide +kernel
theorem d9_85 : decode prog_2_method_19_code 85 = .ok (.dup_x2, 1) := by decide +kernel
theorem d9_86 : decode prog_2_method_19_code 86 = .ok (.iconst 1, 1) := by decide +kernel
theorem d9_87 : decode prog_2_method_19_code 87 = .ok (.iadd, 1) := by decide +kernel
theorem d9_88 : decode prog_2_method_19_code 88 = .ok (.iastore, 1) := by decide +kernel
theorem d9_89 : decode prog_2_method_19_code 89 = .ok (.iadd, 1) := by decide +kernel
theorem d9_90 : decode prog_2_method_19_code 90 = .ok (.ireturn, 1) := by decide +kernel
set_option maxRecDepth 65536 in
set_option maxHeartbeats 40000000 in
theorem rm_ap (l : Launch) (Z : State) (a0 : Array Value) (hw : ∀ d ∈ tables_1, d.before a0 Z = true) (ws : List Jvm.Cond) (o0 : Addr) (st_ : Addr) (dg_ : Addr) (rm_ : Addr) (it_ : Addr) (k1_ : ClassId) (k2_ : ClassId) (k3_ : ClassId) (k4_ : ClassId) (zi_ : Int32) (its_ : List Value) (slv_ : Value) (d_ : Int32) (h0 : Heap) (n0 : Nat) (Z0 : n0 ≤ h0.size) (H : own_A Z h0 n0 o0 st_ dg_ rm_ it_ k1_ k2_ k3_ k4_ zi_ its_ slv_ d_ d_ d_ d_ d_) (hz : ¬ ((0 : Int32) < lcmpW (d_.toInt64 + (1 : Int32).toInt64) zi_.toInt64)) :
    MetFree l (⟨"com/example/plebiscite/plebiscite/Adjacency", "append", "(I)I"⟩ : MethodName) (head1 (Jvm.Cond.code (⟨"com/example/plebiscite/plebiscite/Adjacency", "append", "(I)I"⟩ : MethodName) prog_2_method_19_code 2 (some .int) :: ws) ({ frames := 2, cells := 0, slots := 0, locals := 35 } : Room)) (fun a U => a = #[(.ref o0), (.int 0)] ∧ Z.Warmed39 U.vm ∧ U.heap = h0) (fun _ _ _ _ _ => True) (fun _ U o U' => ∃ v L, o = .returned v ∧ Q_ap Z o0 st_ dg_ rm_ it_ k1_ k2_ k3_ k4_ zi_ its_ slv_ d_ h0 n0 v U'.heap L ∧ FrameEnd U o U' L ({ frames := 2, cells := 0, slots := 0, locals := 35 } : Room).cells ({ frames := 2, cells := 0, slots := 0, locals := 35 } : Room).slots) := by
  refine MetFree.of_bodySF (plainFor_of_name pn_0) hisR ?_
  intro p e s m args below meth c s₁ Bd hml0 hP hK
  obtain ⟨rfl, hZ, hh⟩ := hP
  have hx := Bd.exec
  have hby := Bd.bytes
  have hml : c.maxLocals = 2 := hml0
  have hown : s.vm.findClass "com/example/plebiscite/plebiscite/Adjacency" = some m.cls := findClass_of_methodNamed Bd.named
  have hnm := (name_of_methodNamed Bd.named Bd.method).1
  have X0 : Stand p l e ({ frames := 2, cells := 0, slots := 0, locals := 35 } : Room) s m #[(.ref o0), (.int 0)] below meth c s₁ [] 0 0 := Stand.of_body Bd
  have e0 : s₁.heap = h0 := by rw [← hh, Bd.state]; rfl
  have N0 := Fr.nil n0
  have go0 : ∀ t, Steps p.tables e below (s₁.setTop (mkF m 0 #[rv o0, iv 0] [])) t → Steps p.tables e below (s₁.setTop (entryFrame m #[(.ref o0), (.int 0)] 2)) t := fun t k => castTop (ef_ap m o0 (0 : Int32)) k
  obtain ⟨O, hO⟩ : ∃ z, z = (s₁.setTop (entryFrame m #[(.ref o0), (.int 0)] 2)) := ⟨_, rfl⟩
  rw [← hO] at go0
  obtain ⟨AX_101, Ag0_101, Ag1_101, Ag2_101, Ag3_101, Ag4_101, AF0_101, AF1_101, AF2_101, AF3_101, AF4_101, AF5_101, AF6_101, AF7_101, AF8_101, AV0_101, AV1_101, AV2_101, AV3_101, AN0_101, AN1_101, AN2_101, AN3_101, AN4_101, AN5_101, AN6_101, AN7_101, AN8_101, AN9_101⟩ := H
  have Z102 := Nat.le_trans Ag0_101 (Nat.le_of_lt AX_101.lt)
  have K103 := Keep.refl h0 [o0, rm_, dg_]
  obtain ⟨T104, X104, e104, st104⟩ := getF X0 hx hZ hown (host := "") (Or.inl (hw _ (List.mem_of_getElem? (i := 27) rfl))) Via.refl e0 AF8_101 (g := (mkF m 1 #[rv o0, iv 0] [(.ref o0)])) rfl rfl (hb hby d9_1)
  obtain ⟨T105, X105, e105, st105⟩ := getF X104 hx hZ hown (host := "") (Or.inl (hw _ (List.mem_of_getElem? (i := 12) rfl))) Via.refl e104 AF1_101 (g := (mkF m 43 #[rv o0, iv 0] [(.ref o0)])) rfl rfl (hb hby d9_43)
  obtain ⟨cl106, Ar106, q106, S106, M106, Hs106, G106⟩ := AV1_101
  have f107 : Arv Z h0 dg_ k2_ .int (1 : Int32) [(.int d_)] (.int 0) := ⟨cl106, Ar106, q106, S106, M106, Hs106, G106⟩
  have hin108 : ¬ ((0 : Int32) < 0 ∨ cl106.slots.size ≤ ((0 : Int32)).toNatClampNeg) := inb_of S106 ⟨by decide, by decide⟩
  have hat108 : cl106.slots[((0 : Int32)).toNatClampNeg]? = some (.int d_) := Hs106.at hin108 rfl
  obtain ⟨T109, X109, e109, st109⟩ := getF X105 hx hZ hown (host := "") (Or.inl (hw _ (List.mem_of_getElem? (i := 14) rfl))) Via.refl e105 AF2_101 (g := (mkF m 49 #[rv o0, iv 0] [(.ref o0), (.int d_)])) rfl rfl (hb hby d9_49)
  obtain ⟨cl110, Ar110, q110, S110, M110, Hs110, G110⟩ := AV2_101
  have f111 : Arv Z h0 rm_ k3_ .int (1 : Int32) [(.int d_)] (.int 0) := ⟨cl110, Ar110, q110, S110, M110, Hs110, G110⟩
  have hin112 : ¬ ((0 : Int32) < 0 ∨ cl110.slots.size ≤ ((0 : Int32)).toNatClampNeg) := inb_of S110 ⟨by decide, by decide⟩
  have hat112 : cl110.slots[((0 : Int32)).toNatClampNeg]? = some (.int d_) := Hs110.at hin112 rfl
  obtain ⟨cq113, qc113, qd113⟩ := AX_101.cell
  obtain ⟨_, _, ⟨T113, L113, k113, n113⟩, -, X113, ⟨Lc113, hQ113, l113, y113, z113⟩, st113⟩ := X109.privateBack hx (y := (⟨"com/example/plebiscite/plebiscite/Adjacency", "growBlock", "(I)V"⟩ : MethodName)) hown (mvT hZ (hw _ (List.mem_of_getElem? (i := 29) rfl))) (mvT hZ (hw _ (List.mem_of_getElem? (i := 30) rfl))) (mvT hZ (own_selects (y := (⟨"com/example/plebiscite/plebiscite/Adjacency", "growBlock", "(I)V"⟩ : MethodName)) (z := (⟨"com/example/plebiscite/plebiscite/Adjacency", "add", "(II)V"⟩ : MethodName)) rfl (hw _ (List.mem_of_getElem? (i := 31) rfl)) (hw _ (List.mem_of_getElem? (i := 30) rfl)) (hw _ (List.mem_of_getElem? (i := 21) rfl)) (by decide))) (Cond.privateMethod_at (mvP hZ (hw _ (List.mem_of_getElem? (i := 31) rfl)) (args := #[]))) (mvT hZ (hw _ (List.mem_of_getElem? (i := 32) rfl))) (by decide) (backOf (W := 0) (rm_gr l Z a0 hw [] o0 st_ dg_ rm_ it_ k1_ k2_ k3_ k4_ zi_ its_ slv_ d_ h0 n0 Z102 ⟨AX_101, Ag0_101, Ag1_101, Ag2_101, Ag3_101, Ag4_101, AF0_101, AF1_101, AF2_101, AF3_101, AF4_101, AF5_101, AF6_101, AF7_101, AF8_101, AV0_101, f107, f111, AV3_101, AN0_101, AN1_101, AN2_101, AN3_101, AN4_101, AN5_101, AN6_101, AN7_101, AN8_101, AN9_101⟩ hz) hZ (hw _ (List.mem_of_getElem? (i := 32) rfl)) (hw _ (List.mem_of_getElem? (i := 2) rfl)) (by decide) (by decide)) (g := (mkF m 59 #[rv o0, iv 0] [(.int 0), (.ref o0)])) rfl (by rw [hml]; rfl) (Steps.refl _) (a := o0) (by rw [e109]; exact qc113) qd113 (argsL := [(.int 0)]) (rest := []) (lenOf pd_1 rfl) rfl (by show 2 * 0 + _ ≤ _; exact Nat.le_of_eq rfl) (hb hby d9_59) (fun _ _ => ⟨rfl, e109, (by decide : 0 + 0 ≤ _), (by decide : 0 + 0 ≤ _)⟩)
  dsimp only [Pt.U, Pt.locs, Pt.cells, Pt.slots] at X113 l113 y113 z113 st113 hQ113
  rw [l113, y113, z113] at X113
  obtain ⟨hv113, N113q, KG, HG⟩ := hQ113
  rw [hv113] at st113
  have N113 := Fr.app N0 N113q
  have Z114 := Nat.le_trans Z102 KG.1
  have K115 := K103.trans KG (allS (Or.inl (List.mem_of_getElem? (i := 0) rfl)) (allS (Or.inl (List.mem_of_getElem? (i := 1) rfl)) all0))
  obtain ⟨AX_116, Ag0_116, Ag1_116, Ag2_116, Ag3_116, Ag4_116, AF0_116, AF1_116, AF2_116, AF3_116, AF4_116, AF5_116, AF6_116, AF7_116, AF8_116, AV0_116, AV1_116, AV2_116, AV3_116, AN0_116, AN1_116, AN2_116, AN3_116, AN4_116, AN5_116, AN6_116, AN7_116, AN8_116, AN9_116⟩ := HG
  have Z117 := Nat.le_trans Ag0_116 (Nat.le_of_lt AX_116.lt)
  obtain ⟨T118, X118, e118, st118⟩ := getF X113 hx hZ hown (host := "") (Or.inl (hw _ (List.mem_of_getElem? (i := 45) rfl))) Via.refl rfl AF7_116 (g := (mkF m 64 #[rv o0, iv 0] [(.ref o0), (.ref o0)])) rfl rfl (hb hby d9_64)
  obtain ⟨T119, h119, X119, e119, W119, st119⟩ := putF X118 hx hZ hown (host := "") (Or.inl (hw _ (List.mem_of_getElem? (i := 45) rfl))) Via.refl e118 AF7_116 AX_116 (Or.inl (hw _ (List.mem_of_getElem? (i := 46) rfl))) (hw _ (List.mem_of_getElem? (i := 1) rfl)) (ty := .int) (by decide) rfl rfl (g := (mkF m 69 #[rv o0, iv 0] [(.int (d_ + (1 : Int32))), (.ref o0)])) rfl rfl (hb hby d9_69)
  have f120 := AX_116.wr W119
  have f121 := AF0_116.other W119 (Or.inr (slot_ne (Or.inr (hw _ (List.mem_of_getElem? (i := 11) rfl))) (Or.inl (hw _ (List.mem_of_getElem? (i := 46) rfl))) (by decide) (t := (.array .int)) (t' := .int) (by decide) (by decide)))
  have f122 := AF1_116.other W119 (Or.inr (slot_ne (Or.inr (hw _ (List.mem_of_getElem? (i := 13) rfl))) (Or.inl (hw _ (List.mem_of_getElem? (i := 46) rfl))) (by decide) (t := (.array .int)) (t' := .int) (by decide) (by decide)))
  have f123 := AF2_116.other W119 (Or.inr (slot_ne (Or.inl (hw _ (List.mem_of_getElem? (i := 15) rfl))) (Or.inl (hw _ (List.mem_of_getElem? (i := 46) rfl))) (by decide) (t := (.array .int)) (t' := .int) (by decide) (by decide)))
  have f124 := AF3_116.other W119 (Or.inr (slot_ne (Or.inl (hw _ (List.mem_of_getElem? (i := 17) rfl))) (Or.inl (hw _ (List.mem_of_getElem? (i := 46) rfl))) (by decide) (t := (.array .int)) (t' := .int) (by decide) (by decide)))
  have f125 := AF4_116.other W119 (Or.inr (slot_ne (Or.inl (hw _ (List.mem_of_getElem? (i := 53) rfl))) (Or.inl (hw _ (List.mem_of_getElem? (i := 46) rfl))) (by decide) (t := (.array .int)) (t' := .int) (by decide) (by decide)))
  have f126 := AF5_116.other W119 (Or.inr (slot_ne (Or.inl (hw _ (List.mem_of_getElem? (i := 38) rfl))) (Or.inl (hw _ (List.mem_of_getElem? (i := 46) rfl))) (by decide) (t := .int) (t' := .int) (by decide) (by decide)))
  have f127 := AF6_116.other W119 (Or.inr (slot_ne (Or.inl (hw _ (List.mem_of_getElem? (i := 44) rfl))) (Or.inl (hw _ (List.mem_of_getElem? (i := 46) rfl))) (by decide) (t := .int) (t' := .int) (by decide) (by decide)))
  have f128 := AF8_116.other W119 (Or.inr (slot_ne (Or.inl (hw _ (List.mem_of_getElem? (i := 28) rfl))) (Or.inl (hw _ (List.mem_of_getElem? (i := 46) rfl))) (by decide) (t := (.array .int)) (t' := .int) (by decide) (by decide)))
  have f129 := AV0_116.other W119 (Ne.symm AN0_116)
  have f130 := AV1_116.other W119 (Ne.symm AN1_116)
  have f131 := AV2_116.other W119 (Ne.symm AN2_116)
  have f132 := AV3_116.other W119 (Ne.symm AN3_116)
  have Z133 := Nat.le_trans Z117 (Keep.of_wr W119).1
  have K134 := K115.wr W119 (Or.inl (List.mem_of_getElem? (i := 0) rfl))
  have f135 := AF7_116.same W119
  have N119 := Fr.snoc X119 N113 Ag0_116
  obtain ⟨T136, X136, e136, st136⟩ := getF X119 hx hZ hown (host := "") (Or.inl (hw _ (List.mem_of_getElem? (i := 10) rfl))) Via.refl e119 f121 (g := (mkF m 73 #[rv o0, iv 0] [(.ref o0)])) rfl rfl (hb hby d9_73)
  obtain ⟨cl137, Ar137, q137, S137, M137, Hs137, G137⟩ := f129
  have f138 : Arv Z h119 st_ k1_ .int (1 : Int32) [(.int 0)] (.int 0) := ⟨cl137, Ar137, q137, S137, M137, Hs137, G137⟩
  have hin139 : ¬ ((0 : Int32) < 0 ∨ cl137.slots.size ≤ ((0 : Int32)).toNatClampNeg) := inb_of S137 ⟨by decide, by decide⟩
  have hat139 : cl137.slots[((0 : Int32)).toNatClampNeg]? = some (.int 0) := Hs137.at hin139 rfl
  obtain ⟨T140, X140, e140, st140⟩ := getF X136 hx hZ hown (host := "") (Or.inl (hw _ (List.mem_of_getElem? (i := 12) rfl))) Via.refl e136 f122 (g := (mkF m 79 #[rv o0, iv 0] [(.ref o0), (.int 0)])) rfl rfl (hb hby d9_79)
  obtain ⟨cl141, Ar141, q141, S141, M141, Hs141, G141⟩ := f130
  have f142 : Arv Z h119 dg_ k2_ .int (1 : Int32) [(.int d_)] (.int 0) := ⟨cl141, Ar141, q141, S141, M141, Hs141, G141⟩
  have hin143 : ¬ ((0 : Int32) < 0 ∨ cl141.slots.size ≤ ((0 : Int32)).toNatClampNeg) := inb_of S141 ⟨by decide, by decide⟩
  have hat143 : cl141.slots[((0 : Int32)).toNatClampNeg]? = some (.int d_) := Hs141.at hin143 rfl
  obtain ⟨cl144, Ar144, q144, S144, M144, Hs144, G144⟩ := f142
  have f145 : Arv Z h119 dg_ k2_ .int (1 : Int32) [(.int d_)] (.int 0) := ⟨cl144, Ar144, q144, S144, M144, Hs144, G144⟩
  have hin146 : ¬ ((0 : Int32) < 0 ∨ cl144.slots.size ≤ ((0 : Int32)).toNatClampNeg) := inb_of S144 ⟨by decide, by decide⟩
  obtain ⟨T146, h146, X146, e146, W146, st146⟩ := stI X140 hx hZ e140 Ar144 (j := (0 : Int32)) hin146 (g := (mkF m 88 #[rv o0, iv 0] [(.int (d_ + (1 : Int32))), (.int 0), (.ref dg_), (.int d_), (.int 0)])) rfl rfl (hb hby d9_88)
  have f147 := f120.wr W146
  have f148 := f121.other W146 (Or.inl AN1_116)
  have f149 := f122.other W146 (Or.inl AN1_116)
  have f150 := f123.other W146 (Or.inl AN1_116)
  have f151 := f124.other W146 (Or.inl AN1_116)
  have f152 := f125.other W146 (Or.inl AN1_116)
  have f153 := f126.other W146 (Or.inl AN1_116)
  have f154 := f127.other W146 (Or.inl AN1_116)
  have f155 := f135.other W146 (Or.inl AN1_116)
  have f156 := f128.other W146 (Or.inl AN1_116)
  have f157 := f138.other W146 AN4_116
  have f158 := f131.other W146 (Ne.symm AN7_116)
  have f159 := f132.other W146 (Ne.symm AN8_116)
  have Z160 := Nat.le_trans Z133 (Keep.of_wr W146).1
  have K161 := K134.wr W146 (Or.inl (List.mem_of_getElem? (i := 2) rfl))
  have V146 : Arv Z h146 dg_ k2_ .int (1 : Int32) [(.int (d_ + (1 : Int32)))] (.int 0) := Arv.set Ar144 q144 S144 M144 Hs144 G144 rfl W146 0 rfl (Nat.le_of_ble_eq_true rfl)
  have N146 := Fr.snoc X146 N119 Ag2_116
  have go162 : ∀ t, Steps p.tables e below (T146.setTop (mkF m 90 #[rv o0, iv 0] [(.int ((0 : Int32) + d_))])) t → Steps p.tables e below O t := fun t k => go0 t (by
    refine XS.aloadN X0.here hx rfl (hb hby d9_0) rfl rfl ?_
    refine st104 _ ?_
    show Steps _ _ _ (T104.setTop (mkF m 4 _ [.null])) _
    refine XS.ifnullYes X104.here hx rfl (pc0 := 4) (pc' := 42) rfl (hb hby d9_4) rfl (by decide) (by decide) ?_
    refine XS.aloadN X104.here hx rfl (hb hby d9_42) rfl rfl ?_
    show Steps _ _ _ (T104.setTop (mkF m 43 _ [(.ref o0)])) _
    refine st105 _ ?_
    show Steps _ _ _ (T105.setTop (mkF m 46 _ [(.ref dg_)])) _
    refine XS.iloadN X105.here hx rfl (hb hby d9_46) rfl ?_
    refine X105.iaload hx (j := (0 : Int32)) (v := (.int d_)) (by rw [e105]; exact Ar106.1) (State.isArrayOf_alike hZ.alike Ar106.2.1) Ar106.2.2 hin108 hat108 (g := (mkF m 47 #[rv o0, iv 0] [(.int 0), (.ref dg_)])) rfl rfl (hb hby d9_47) _ ?_
    show Steps _ _ _ (T105.setTop (mkF m 48 _ [(.int d_)])) _
    refine XS.aloadN X105.here hx rfl (hb hby d9_48) rfl rfl ?_
    refine st109 _ ?_
    show Steps _ _ _ (T109.setTop (mkF m 52 _ [(.ref rm_), (.int d_)])) _
    refine XS.iloadN X109.here hx rfl (hb hby d9_52) rfl ?_
    refine X109.iaload hx (j := (0 : Int32)) (v := (.int d_)) (by rw [e109]; exact Ar110.1) (State.isArrayOf_alike hZ.alike Ar110.2.1) Ar110.2.2 hin112 hat112 (g := (mkF m 53 #[rv o0, iv 0] [(.int 0), (.ref rm_), (.int d_)])) rfl rfl (hb hby d9_53) _ ?_
    show Steps _ _ _ (T109.setTop (mkF m 54 _ [(.int d_), (.int d_)])) _
    refine XS.icmpNo X109.here hx rfl (hb hby d9_54) rfl (teq (rfl : d_ = d_)).2 ?_
    refine XS.aloadN X109.here hx rfl (hb hby d9_57) rfl rfl ?_
    show Steps _ _ _ (T109.setTop (mkF m 58 _ [(.ref o0)])) _
    refine XS.iloadN X109.here hx rfl (hb hby d9_58) rfl ?_
    refine st113.trans ?_
    show Steps _ _ _ (T113.setTop (mkF m 62 _ [])) _
    refine XS.aloadN X113.here hx rfl (hb hby d9_62) rfl rfl ?_
    refine XS.dup X113.here hx rfl (hb hby d9_63) rfl rfl ?_
    show Steps _ _ _ (T113.setTop (mkF m 64 _ [(.ref o0), (.ref o0)])) _
    refine st118 _ ?_
    show Steps _ _ _ (T118.setTop (mkF m 67 _ [(.int d_), (.ref o0)])) _
    refine XS.iconst X118.here hx rfl (hb hby d9_67) ?_
    refine XS.iadd X118.here hx rfl (hb hby d9_68) rfl ?_
    show Steps _ _ _ (T118.setTop (mkF m 69 _ [(.int (d_ + (1 : Int32))), (.ref o0)])) _
    refine st119 _ ?_
    show Steps _ _ _ (T119.setTop (mkF m 72 _ [])) _
    refine XS.aloadN X119.here hx rfl (hb hby d9_72) rfl rfl ?_
    refine st136 _ ?_
    show Steps _ _ _ (T136.setTop (mkF m 76 _ [(.ref st_)])) _
    refine XS.iloadN X136.here hx rfl (hb hby d9_76) rfl ?_
    refine X136.iaload hx (j := (0 : Int32)) (v := (.int 0)) (by rw [e136]; exact Ar137.1) (State.isArrayOf_alike hZ.alike Ar137.2.1) Ar137.2.2 hin139 hat139 (g := (mkF m 77 #[rv o0, iv 0] [(.int 0), (.ref st_)])) rfl rfl (hb hby d9_77) _ ?_
    show Steps _ _ _ (T136.setTop (mkF m 78 _ [(.int 0)])) _
    refine XS.aloadN X136.here hx rfl (hb hby d9_78) rfl rfl ?_
    refine st140 _ ?_
    show Steps _ _ _ (T140.setTop (mkF m 82 _ [(.ref dg_), (.int 0)])) _
    refine XS.iloadN X140.here hx rfl (hb hby d9_82) rfl ?_
    refine XT.dup2 X140.here hx rfl (hb hby d9_83) rfl rfl rfl ?_
    show Steps _ _ _ (T140.setTop (mkF m 84 _ [(.int 0), (.ref dg_), (.int 0), (.ref dg_), (.int 0)])) _
    refine X140.iaload hx (j := (0 : Int32)) (v := (.int d_)) (by rw [e140]; exact Ar141.1) (State.isArrayOf_alike hZ.alike Ar141.2.1) Ar141.2.2 hin143 hat143 (g := (mkF m 84 #[rv o0, iv 0] [(.int 0), (.ref dg_), (.int 0), (.ref dg_), (.int 0)])) rfl rfl (hb hby d9_84) _ ?_
    jvm_step X140.here [X140.here.top, hx, (hb hby d9_85), Value.category]
    show Steps _ _ _ (T140.setTop (mkF m 86 _ [(.int d_), (.int 0), (.ref dg_), (.int d_), (.int 0)])) _
    refine XS.iconst X140.here hx rfl (hb hby d9_86) ?_
    refine XS.iadd X140.here hx rfl (hb hby d9_87) rfl ?_
    show Steps _ _ _ (T140.setTop (mkF m 88 _ [(.int (d_ + (1 : Int32))), (.int 0), (.ref dg_), (.int d_), (.int 0)])) _
    refine st146 _ ?_
    show Steps _ _ _ (T146.setTop (mkF m 89 _ [(.int d_), (.int 0)])) _
    refine XS.iadd X146.here hx rfl (hb hby d9_89) rfl ?_
    exact k)
  rw [hO] at go162
  obtain ⟨fs, hr, hrun, hended, hW, hsame⟩ := X146.leave (v := some (.int ((0 : Int32) + d_))) (fun h => by rw [Bd.returns] at h; cases h)
  refine ⟨_, _, go162 _ ?_, hrun, hended, _, _, rfl, ?_, ⟨_, rfl⟩, hW, hsame.mono (by decide) (by decide)⟩
  · exact retI X146 hx Bd.returns (hb hby d9_90) hr
  · show Q_ap Z o0 st_ dg_ rm_ it_ k1_ k2_ k3_ k4_ zi_ its_ slv_ d_ h0 n0 _ T146.heap _
    rw [e146]
    exact ⟨rfl, N146, K161, ⟨f147, Ag0_116, Ag1_116, Ag2_116, Ag3_116, Ag4_116, f148, f149, f150, f151, f152, f153, f154, f155, f156, f157, V146, f158, f159, AN0_116, AN1_116, AN2_116, AN3_116, AN4_116, AN5_116, AN6_116, AN7_116, AN8_116, AN9_116⟩⟩
theorem ef_adu (m : MethodId) (x0 : Addr) (x1 : Int32) (x2 : Int32) : entryFrame m #[(.ref x0), (.int x1), (.int x2)] 4 = mkF m 0 #[rv x0, iv x1, iv x2, .unset] [] := by first | (simp [entryFrame, mkF, argsToLocals, Value.category]; done) | rfl
def Q_adu (Z : State) (o0 : Addr) (p2 : Int32) (st_ : Addr) (dg_ : Addr) (rm_ : Addr) (it_ : Addr) (k1_ : ClassId) (k2_ : ClassId) (k3_ : ClassId) (k4_ : ClassId) (zi_ : Int32) (its_ : List Value) (slv_ : Value) (d_ : Int32) (h0 : Heap) (n0 : Nat) (v : Option Value) (h : Heap) (L : List Loc) : Prop := v = none ∧ Fr n0 L ∧ own_A Z h n0 o0 st_ dg_ rm_ it_ k1_ k2_ k3_ k4_ zi_ (its_.set ((0 : Int32) + d_).toNatClampNeg (.int p2)) slv_ (d_ + (1 : Int32)) (d_ + (1 : Int32)) (d_ + (1 : Int32)) (d_ + (1 : Int32)) (d_ + (1 : Int32))
theorem d10_0 : decode prog_2_method_16_code 0 = .ok (.aload_n 0, 1) := by decide +kernel
theorem d10_1 : decode prog_2_method_16_code 1 = .ok (.iload_n 1, 1) := by decide +kernel
theorem pd_4 : parseMethodDescriptor "(I)I" = some ⟨[.int], some .int⟩ := by decide +kernel
theorem d10_2 : decode prog_2_method_16_code 2 = .ok (.invokevirtual 82, 3) := by decide +kernel
theorem d10_5 : decode prog_2_method_16_code 5 = .ok (.istore_n 3, 1) := by decide +kernel
theorem d10_6 : decode prog_2_method_16_code 6 = .ok (.aload_n 0, 1) := by decide +kernel
theorem d10_7 : decode prog_2_method_16_code 7 = .ok (.getfield 22, 3) := by decide +kernel
theorem d10_10 : decode prog_2_method_16_code 10 = .ok (.iload_n 3, 1) := by decide +kernel
theorem d10_11 : decode prog_2_method_16_code 11 = .ok (.iload_n 2, 1) := by decide +kernel
theorem d10_12 : decode prog_2_method_16_code 12 = .ok (.iastore, 1) := by decide +kernel
theorem d10_13 : decode prog_2_method_16_code 13 = .ok (.return_, 1) := by decide +kernel
set_option maxRecDepth 65536 in
set_option maxHeartbeats 40000000 in
theorem rm_adu (l : Launch) (Z : State) (a0 : Array Value) (hw : ∀ d ∈ tables_1, d.before a0 Z = true) (ws : List Jvm.Cond) (o0 : Addr) (p2 : Int32) (st_ : Addr) (dg_ : Addr) (rm_ : Addr) (it_ : Addr) (k1_ : ClassId) (k2_ : ClassId) (k3_ : ClassId) (k4_ : ClassId) (zi_ : Int32) (its_ : List Value) (slv_ : Value) (d_ : Int32) (h0 : Heap) (n0 : Nat) (Z0 : n0 ≤ h0.size) (H : own_A Z h0 n0 o0 st_ dg_ rm_ it_ k1_ k2_ k3_ k4_ zi_ its_ slv_ d_ d_ d_ d_ d_) (hz : ¬ ((0 : Int32) < lcmpW (d_.toInt64 + (1 : Int32).toInt64) zi_.toInt64)) (hin : ¬ ((0 : Int32) + d_) < 0 ∧ ((0 : Int32) + d_) < zi_) (hl : ((0 : Int32) + d_).toNatClampNeg < its_.length) :
    MetFree l (⟨"com/example/plebiscite/plebiscite/Adjacency", "add", "(II)V"⟩ : MethodName) (head1 (Jvm.Cond.code (⟨"com/example/plebiscite/plebiscite/Adjacency", "add", "(II)V"⟩ : MethodName) prog_2_method_16_code 4 none :: ws) ({ frames := 3, cells := 0, slots := 0, locals := 48 } : Room)) (fun a U => a = #[(.ref o0), (.int 0), (.int p2)] ∧ Z.Warmed39 U.vm ∧ U.heap = h0) (fun _ _ _ _ _ => True) (fun _ U o U' => ∃ v L, o = .returned v ∧ Q_adu Z o0 p2 st_ dg_ rm_ it_ k1_ k2_ k3_ k4_ zi_ its_ slv_ d_ h0 n0 v U'.heap L ∧ FrameEnd U o U' L ({ frames := 3, cells := 0, slots := 0, locals := 48 } : Room).cells ({ frames := 3, cells := 0, slots := 0, locals := 48 } : Room).slots) := by
  refine MetFree.of_bodySF (plainFor_of_name pn_0) hisR ?_
  intro p e s m args below meth c s₁ Bd hml0 hP hK
  obtain ⟨rfl, hZ, hh⟩ := hP
  have hx := Bd.exec
  have hby := Bd.bytes
  have hml : c.maxLocals = 4 := hml0
  have hown : s.vm.findClass "com/example/plebiscite/plebiscite/Adjacency" = some m.cls := findClass_of_methodNamed Bd.named
  have hnm := (name_of_methodNamed Bd.named Bd.method).1
  have X0 : Stand p l e ({ frames := 3, cells := 0, slots := 0, locals := 48 } : Room) s m #[(.ref o0), (.int 0), (.int p2)] below meth c s₁ [] 0 0 := Stand.of_body Bd
  have e0 : s₁.heap = h0 := by rw [← hh, Bd.state]; rfl
  have N0 := Fr.nil n0
  have go0 : ∀ t, Steps p.tables e below (s₁.setTop (mkF m 0 #[rv o0, iv 0, iv p2, .unset] [])) t → Steps p.tables e below (s₁.setTop (entryFrame m #[(.ref o0), (.int 0), (.int p2)] 4)) t := fun t k => castTop (ef_adu m o0 (0 : Int32) p2) k
  obtain ⟨O, hO⟩ : ∃ z, z = (s₁.setTop (entryFrame m #[(.ref o0), (.int 0), (.int p2)] 4)) := ⟨_, rfl⟩
  rw [← hO] at go0
  obtain ⟨AX_101, Ag0_101, Ag1_101, Ag2_101, Ag3_101, Ag4_101, AF0_101, AF1_101, AF2_101, AF3_101, AF4_101, AF5_101, AF6_101, AF7_101, AF8_101, AV0_101, AV1_101, AV2_101, AV3_101, AN0_101, AN1_101, AN2_101, AN3_101, AN4_101, AN5_101, AN6_101, AN7_101, AN8_101, AN9_101⟩ := H
  have Z102 := Nat.le_trans Ag0_101 (Nat.le_of_lt AX_101.lt)
  obtain ⟨cq103, qc103, qd103⟩ := AX_101.cell
  obtain ⟨_, _, ⟨T103, L103, k103, n103⟩, -, X103, ⟨Lc103, hQ103, l103, y103, z103⟩, st103⟩ := X0.privateBack hx (y := (⟨"com/example/plebiscite/plebiscite/Adjacency", "append", "(I)I"⟩ : MethodName)) hown (mvT hZ (hw _ (List.mem_of_getElem? (i := 23) rfl))) (mvT hZ (hw _ (List.mem_of_getElem? (i := 24) rfl))) (mvT hZ (own_selects (y := (⟨"com/example/plebiscite/plebiscite/Adjacency", "append", "(I)I"⟩ : MethodName)) (z := (⟨"com/example/plebiscite/plebiscite/Adjacency", "add", "(II)V"⟩ : MethodName)) rfl (hw _ (List.mem_of_getElem? (i := 25) rfl)) (hw _ (List.mem_of_getElem? (i := 24) rfl)) (hw _ (List.mem_of_getElem? (i := 21) rfl)) (by decide))) (Cond.privateMethod_at (mvP hZ (hw _ (List.mem_of_getElem? (i := 25) rfl)) (args := #[]))) (mvT hZ (hw _ (List.mem_of_getElem? (i := 26) rfl))) (by decide) (backOf (W := 0) (rm_ap l Z a0 hw [] o0 st_ dg_ rm_ it_ k1_ k2_ k3_ k4_ zi_ its_ slv_ d_ h0 n0 Z102 ⟨AX_101, Ag0_101, Ag1_101, Ag2_101, Ag3_101, Ag4_101, AF0_101, AF1_101, AF2_101, AF3_101, AF4_101, AF5_101, AF6_101, AF7_101, AF8_101, AV0_101, AV1_101, AV2_101, AV3_101, AN0_101, AN1_101, AN2_101, AN3_101, AN4_101, AN5_101, AN6_101, AN7_101, AN8_101, AN9_101⟩ hz) hZ (hw _ (List.mem_of_getElem? (i := 26) rfl)) (hw _ (List.mem_of_getElem? (i := 2) rfl)) (by decide) (by decide)) (g := (mkF m 2 #[rv o0, iv 0, iv p2, .unset] [(.int 0), (.ref o0)])) rfl (by rw [hml]; rfl) (Steps.refl _) (a := o0) (by rw [e0]; exact qc103) qd103 (argsL := [(.int 0)]) (rest := []) (lenOf pd_4 rfl) rfl (by show 2 * 0 + _ ≤ _; exact Nat.le_of_eq rfl) (hb hby d10_2) (fun _ _ => ⟨rfl, e0, (by decide : 0 + 0 ≤ _), (by decide : 0 + 0 ≤ _)⟩)
  dsimp only [Pt.U, Pt.locs, Pt.cells, Pt.slots] at X103 l103 y103 z103 st103 hQ103
  rw [l103, y103, z103] at X103
  obtain ⟨hv103, N103q, KA, HA⟩ := hQ103
  rw [hv103] at st103
  have N103 := Fr.app N0 N103q
  obtain ⟨AX_104, Ag0_104, Ag1_104, Ag2_104, Ag3_104, Ag4_104, AF0_104, AF1_104, AF2_104, AF3_104, AF4_104, AF5_104, AF6_104, AF7_104, AF8_104, AV0_104, AV1_104, AV2_104, AV3_104, AN0_104, AN1_104, AN2_104, AN3_104, AN4_104, AN5_104, AN6_104, AN7_104, AN8_104, AN9_104⟩ := HA
  have Z105 := Nat.le_trans Ag0_104 (Nat.le_of_lt AX_104.lt)
  obtain ⟨T106, X106, e106, st106⟩ := getF X103 hx hZ hown (host := "") (Or.inl (hw _ (List.mem_of_getElem? (i := 16) rfl))) Via.refl rfl AF3_104 (g := (mkF m 7 #[rv o0, iv 0, iv p2, iv ((0 : Int32) + d_)] [(.ref o0)])) rfl rfl (hb hby d10_7)
  obtain ⟨cl107, Ar107, q107, S107, M107, Hs107, G107⟩ := AV3_104
  have f108 : Arv Z T103.heap it_ k4_ .int zi_ its_ (.int 0) := ⟨cl107, Ar107, q107, S107, M107, Hs107, G107⟩
  have hin109 : ¬ (((0 : Int32) + d_) < 0 ∨ cl107.slots.size ≤ (((0 : Int32) + d_)).toNatClampNeg) := inb_of S107 hin
  obtain ⟨T109, h109, X109, e109, W109, st109⟩ := stI X106 hx hZ e106 Ar107 (j := ((0 : Int32) + d_)) hin109 (g := (mkF m 12 #[rv o0, iv 0, iv p2, iv ((0 : Int32) + d_)] [(.int p2), (.int ((0 : Int32) + d_)), (.ref it_)])) rfl rfl (hb hby d10_12)
  have f110 := AX_104.wr W109
  have f111 := AF0_104.other W109 (Or.inl AN3_104)
  have f112 := AF1_104.other W109 (Or.inl AN3_104)
  have f113 := AF2_104.other W109 (Or.inl AN3_104)
  have f114 := AF3_104.other W109 (Or.inl AN3_104)
  have f115 := AF4_104.other W109 (Or.inl AN3_104)
  have f116 := AF5_104.other W109 (Or.inl AN3_104)
  have f117 := AF6_104.other W109 (Or.inl AN3_104)
  have f118 := AF7_104.other W109 (Or.inl AN3_104)
  have f119 := AF8_104.other W109 (Or.inl AN3_104)
  have f120 := AV0_104.other W109 AN6_104
  have f121 := AV1_104.other W109 AN8_104
  have f122 := AV2_104.other W109 AN9_104
  have Z123 := Nat.le_trans Z105 (Keep.of_wr W109).1
  have V109 : Arv Z h109 it_ k4_ .int zi_ (its_.set (((0 : Int32) + d_)).toNatClampNeg (.int p2)) (.int 0) := Arv.set Ar107 q107 S107 M107 Hs107 G107 rfl W109 (((0 : Int32) + d_)).toNatClampNeg rfl hl
  have N109 := Fr.snoc X109 N103 Ag4_104
  have go124 : ∀ t, Steps p.tables e below (T109.setTop (mkF m 13 #[rv o0, iv 0, iv p2, iv ((0 : Int32) + d_)] [])) t → Steps p.tables e below O t := fun t k => go0 t (by
    refine XS.aloadN X0.here hx rfl (hb hby d10_0) rfl rfl ?_
    refine XS.iloadN X0.here hx rfl (hb hby d10_1) rfl ?_
    show Steps _ _ _ (s₁.setTop (mkF m 2 _ [(.int 0), (.ref o0)])) _
    refine st103.trans ?_
    show Steps _ _ _ (T103.setTop (mkF m 5 _ [(.int ((0 : Int32) + d_))])) _
    refine XS.istoreN X103.here hx rfl (hb hby d10_5) rfl (l' := #[rv o0, iv 0, iv p2, iv ((0 : Int32) + d_)]) rfl ?_
    show Steps _ _ _ (T103.setTop (mkF m 6 _ [])) _
    refine XS.aloadN X103.here hx rfl (hb hby d10_6) rfl rfl ?_
    refine st106 _ ?_
    show Steps _ _ _ (T106.setTop (mkF m 10 _ [(.ref it_)])) _
    refine XS.iloadN X106.here hx rfl (hb hby d10_10) rfl ?_
    refine XS.iloadN X106.here hx rfl (hb hby d10_11) rfl ?_
    show Steps _ _ _ (T106.setTop (mkF m 12 _ [(.int p2), (.int ((0 : Int32) + d_)), (.ref it_)])) _
    refine st109 _ ?_
    show Steps _ _ _ (T109.setTop (mkF m 13 _ [])) _
    exact k)
  rw [hO] at go124
  obtain ⟨fs, hr, hrun, hended, hW, hsame⟩ := X109.leave (v := none) (fun _ => rfl)
  refine ⟨_, _, go124 _ ?_, hrun, hended, _, _, rfl, ?_, ⟨_, rfl⟩, hW, hsame.mono (by decide) (by decide)⟩
  · exact X109.returnOut hx Bd.returns (hb hby d10_13) hr
  · show Q_adu Z o0 p2 st_ dg_ rm_ it_ k1_ k2_ k3_ k4_ zi_ its_ slv_ d_ h0 n0 _ T109.heap _
    rw [e109]
    exact ⟨rfl, N109, ⟨f110, Ag0_104, Ag1_104, Ag2_104, Ag3_104, Ag4_104, f111, f112, f113, f114, f115, f116, f117, f118, f119, f120, f121, f122, V109, AN0_104, AN1_104, AN2_104, AN3_104, AN4_104, AN5_104, AN6_104, AN7_104, AN8_104, AN9_104⟩⟩
theorem ef_adp (m : MethodId) (x0 : Addr) (x1 : Int32) (x2 : Int32) (x3 : Int32) : entryFrame m #[(.ref x0), (.int x1), (.int x2), (.int x3)] 5 = mkF m 0 #[rv x0, iv x1, iv x2, iv x3, .unset] [] := by first | (simp [entryFrame, mkF, argsToLocals, Value.category]; done) | rfl
def Q_adp (Z : State) (o0 : Addr) (p2 : Int32) (p3 : Int32) (st_ : Addr) (dg_ : Addr) (rm_ : Addr) (it_ : Addr) (k1_ : ClassId) (k2_ : ClassId) (k3_ : ClassId) (k4_ : ClassId) (zi_ : Int32) (its_ : List Value) (d_ : Int32) (sl_ : Addr) (k5_ : ClassId) (sls_ : List Value) (h0 : Heap) (n0 : Nat) (v : Option Value) (h : Heap) (L : List Loc) : Prop := v = none ∧ Fr n0 L ∧ own_A Z h n0 o0 st_ dg_ rm_ it_ k1_ k2_ k3_ k4_ zi_ (its_.set ((0 : Int32) + d_).toNatClampNeg (.int p2)) (.ref sl_) (d_ + (1 : Int32)) (d_ + (1 : Int32)) (d_ + (1 : Int32)) (d_ + (1 : Int32)) (d_ + (1 : Int32)) ∧ own_S Z h n0 sl_ k5_ zi_ (sls_.set ((0 : Int32) + d_).toNatClampNeg (.int p3)) o0 st_ dg_ rm_ it_
theorem d11_0 : decode prog_2_method_17_code 0 = .ok (.aload_n 0, 1) := by decide +kernel
theorem d11_1 : decode prog_2_method_17_code 1 = .ok (.iload_n 1, 1) := by decide +kernel
theorem d11_2 : decode prog_2_method_17_code 2 = .ok (.invokevirtual 82, 3) := by decide +kernel
theorem d11_5 : decode prog_2_method_17_code 5 = .ok (.istore 4, 2) := by decide +kernel
theorem d11_7 : decode prog_2_method_17_code 7 = .ok (.aload_n 0, 1) := by decide +kernel
theorem d11_8 : decode prog_2_method_17_code 8 = .ok (.getfield 22, 3) := by decide +kernel
theorem d11_11 : decode prog_2_method_17_code 11 = .ok (.iload 4, 2) := by decide +kernel
theorem d11_13 : decode prog_2_method_17_code 13 = .ok (.iload_n 2, 1) := by decide +kernel
theorem d11_14 : decode prog_2_method_17_code 14 = .ok (.iastore, 1) := by decide +kernel
theorem d11_15 : decode prog_2_method_17_code 15 = .ok (.aload_n 0, 1) := by decide +kernel
theorem d11_16 : decode prog_2_method_17_code 16 = .ok (.getfield 65, 3) := by decide +kernel
theorem d11_19 : decode prog_2_method_17_code 19 = .ok (.iload 4, 2) := by decide +kernel
theorem d11_21 : decode prog_2_method_17_code 21 = .ok (.iload_n 3, 1) := by decide +kernel
theorem d11_22 : decode prog_2_method_17_code 22 = .ok (.iastore, 1) := by decide +kernel
theorem d11_23 : decode prog_2_method_17_code 23 = .ok (.return_, 1) := by decide +kernel
set_option maxRecDepth 65536 in
set_option maxHeartbeats 40000000 in
theorem rm_adp (l : Launch) (Z : State) (a0 : Array Value) (hw : ∀ d ∈ tables_1, d.before a0 Z = true) (ws : List Jvm.Cond) (o0 : Addr) (p2 : Int32) (p3 : Int32) (st_ : Addr) (dg_ : Addr) (rm_ : Addr) (it_ : Addr) (k1_ : ClassId) (k2_ : ClassId) (k3_ : ClassId) (k4_ : ClassId) (zi_ : Int32) (its_ : List Value) (d_ : Int32) (sl_ : Addr) (k5_ : ClassId) (sls_ : List Value) (h0 : Heap) (n0 : Nat) (Z0 : n0 ≤ h0.size) (H : own_A Z h0 n0 o0 st_ dg_ rm_ it_ k1_ k2_ k3_ k4_ zi_ its_ (.ref sl_) d_ d_ d_ d_ d_) (HS : own_S Z h0 n0 sl_ k5_ zi_ sls_ o0 st_ dg_ rm_ it_) (hz : ¬ ((0 : Int32) < lcmpW (d_.toInt64 + (1 : Int32).toInt64) zi_.toInt64)) (hin : ¬ ((0 : Int32) + d_) < 0 ∧ ((0 : Int32) + d_) < zi_) (hl : ((0 : Int32) + d_).toNatClampNeg < its_.length) (hl2 : ((0 : Int32) + d_).toNatClampNeg < sls_.length) :
    MetFree l (⟨"com/example/plebiscite/plebiscite/Adjacency", "add", "(III)V"⟩ : MethodName) (head1 (Jvm.Cond.code (⟨"com/example/plebiscite/plebiscite/Adjacency", "add", "(III)V"⟩ : MethodName) prog_2_method_17_code 5 none :: ws) ({ frames := 3, cells := 0, slots := 0, locals := 48 } : Room)) (fun a U => a = #[(.ref o0), (.int 0), (.int p2), (.int p3)] ∧ Z.Warmed39 U.vm ∧ U.heap = h0) (fun _ _ _ _ _ => True) (fun _ U o U' => ∃ v L, o = .returned v ∧ Q_adp Z o0 p2 p3 st_ dg_ rm_ it_ k1_ k2_ k3_ k4_ zi_ its_ d_ sl_ k5_ sls_ h0 n0 v U'.heap L ∧ FrameEnd U o U' L ({ frames := 3, cells := 0, slots := 0, locals := 48 } : Room).cells ({ frames := 3, cells := 0, slots := 0, locals := 48 } : Room).slots) := by
  refine MetFree.of_bodySF (plainFor_of_name pn_0) hisR ?_
  intro p e s m args below meth c s₁ Bd hml0 hP hK
  obtain ⟨rfl, hZ, hh⟩ := hP
  have hx := Bd.exec
  have hby := Bd.bytes
  have hml : c.maxLocals = 5 := hml0
  have hown : s.vm.findClass "com/example/plebiscite/plebiscite/Adjacency" = some m.cls := findClass_of_methodNamed Bd.named
  have hnm := (name_of_methodNamed Bd.named Bd.method).1
  have X0 : Stand p l e ({ frames := 3, cells := 0, slots := 0, locals := 48 } : Room) s m #[(.ref o0), (.int 0), (.int p2), (.int p3)] below meth c s₁ [] 0 0 := Stand.of_body Bd
  have e0 : s₁.heap = h0 := by rw [← hh, Bd.state]; rfl
  have N0 := Fr.nil n0
  have go0 : ∀ t, Steps p.tables e below (s₁.setTop (mkF m 0 #[rv o0, iv 0, iv p2, iv p3, .unset] [])) t → Steps p.tables e below (s₁.setTop (entryFrame m #[(.ref o0), (.int 0), (.int p2), (.int p3)] 5)) t := fun t k => castTop (ef_adp m o0 (0 : Int32) p2 p3) k
  obtain ⟨O, hO⟩ : ∃ z, z = (s₁.setTop (entryFrame m #[(.ref o0), (.int 0), (.int p2), (.int p3)] 5)) := ⟨_, rfl⟩
  rw [← hO] at go0
  obtain ⟨AX_101, Ag0_101, Ag1_101, Ag2_101, Ag3_101, Ag4_101, AF0_101, AF1_101, AF2_101, AF3_101, AF4_101, AF5_101, AF6_101, AF7_101, AF8_101, AV0_101, AV1_101, AV2_101, AV3_101, AN0_101, AN1_101, AN2_101, AN3_101, AN4_101, AN5_101, AN6_101, AN7_101, AN8_101, AN9_101⟩ := H
  have Z102 := Nat.le_trans Ag0_101 (Nat.le_of_lt AX_101.lt)
  obtain ⟨SG_103, SV_103, SN0_103, SN1_103, SN2_103, SN3_103, SN4_103⟩ := HS
  obtain ⟨cq104, qc104, qd104⟩ := AX_101.cell
  obtain ⟨_, _, ⟨T104, L104, k104, n104⟩, -, X104, ⟨Lc104, hQ104, l104, y104, z104⟩, st104⟩ := X0.privateBack hx (y := (⟨"com/example/plebiscite/plebiscite/Adjacency", "append", "(I)I"⟩ : MethodName)) hown (mvT hZ (hw _ (List.mem_of_getElem? (i := 23) rfl))) (mvT hZ (hw _ (List.mem_of_getElem? (i := 24) rfl))) (mvT hZ (own_selects (y := (⟨"com/example/plebiscite/plebiscite/Adjacency", "append", "(I)I"⟩ : MethodName)) (z := (⟨"com/example/plebiscite/plebiscite/Adjacency", "add", "(II)V"⟩ : MethodName)) rfl (hw _ (List.mem_of_getElem? (i := 25) rfl)) (hw _ (List.mem_of_getElem? (i := 24) rfl)) (hw _ (List.mem_of_getElem? (i := 21) rfl)) (by decide))) (Cond.privateMethod_at (mvP hZ (hw _ (List.mem_of_getElem? (i := 25) rfl)) (args := #[]))) (mvT hZ (hw _ (List.mem_of_getElem? (i := 26) rfl))) (by decide) (backOf (W := 0) (rm_ap l Z a0 hw [] o0 st_ dg_ rm_ it_ k1_ k2_ k3_ k4_ zi_ its_ (.ref sl_) d_ h0 n0 Z102 ⟨AX_101, Ag0_101, Ag1_101, Ag2_101, Ag3_101, Ag4_101, AF0_101, AF1_101, AF2_101, AF3_101, AF4_101, AF5_101, AF6_101, AF7_101, AF8_101, AV0_101, AV1_101, AV2_101, AV3_101, AN0_101, AN1_101, AN2_101, AN3_101, AN4_101, AN5_101, AN6_101, AN7_101, AN8_101, AN9_101⟩ hz) hZ (hw _ (List.mem_of_getElem? (i := 26) rfl)) (hw _ (List.mem_of_getElem? (i := 2) rfl)) (by decide) (by decide)) (g := (mkF m 2 #[rv o0, iv 0, iv p2, iv p3, .unset] [(.int 0), (.ref o0)])) rfl (by rw [hml]; rfl) (Steps.refl _) (a := o0) (by rw [e0]; exact qc104) qd104 (argsL := [(.int 0)]) (rest := []) (lenOf pd_4 rfl) rfl (by show 2 * 0 + _ ≤ _; exact Nat.le_of_eq rfl) (hb hby d11_2) (fun _ _ => ⟨rfl, e0, (by decide : 0 + 0 ≤ _), (by decide : 0 + 0 ≤ _)⟩)
  dsimp only [Pt.U, Pt.locs, Pt.cells, Pt.slots] at X104 l104 y104 z104 st104 hQ104
  rw [l104, y104, z104] at X104
  obtain ⟨hv104, N104q, KA, HA⟩ := hQ104
  rw [hv104] at st104
  have N104 := Fr.app N0 N104q
  have f105 := SV_103.keep KA (ninS (Ne.symm SN0_103) (ninS (Ne.symm SN3_103) (ninS (Ne.symm SN2_103) nin0)))
  have Z106 := Nat.le_trans Z102 KA.1
  obtain ⟨AX_107, Ag0_107, Ag1_107, Ag2_107, Ag3_107, Ag4_107, AF0_107, AF1_107, AF2_107, AF3_107, AF4_107, AF5_107, AF6_107, AF7_107, AF8_107, AV0_107, AV1_107, AV2_107, AV3_107, AN0_107, AN1_107, AN2_107, AN3_107, AN4_107, AN5_107, AN6_107, AN7_107, AN8_107, AN9_107⟩ := HA
  have Z108 := Nat.le_trans Ag0_107 (Nat.le_of_lt AX_107.lt)
  obtain ⟨T109, X109, e109, st109⟩ := getF X104 hx hZ hown (host := "") (Or.inl (hw _ (List.mem_of_getElem? (i := 16) rfl))) Via.refl rfl AF3_107 (g := (mkF m 8 #[rv o0, iv 0, iv p2, iv p3, iv ((0 : Int32) + d_)] [(.ref o0)])) rfl rfl (hb hby d11_8)
  obtain ⟨cl110, Ar110, q110, S110, M110, Hs110, G110⟩ := AV3_107
  have f111 : Arv Z T104.heap it_ k4_ .int zi_ its_ (.int 0) := ⟨cl110, Ar110, q110, S110, M110, Hs110, G110⟩
  have hin112 : ¬ (((0 : Int32) + d_) < 0 ∨ cl110.slots.size ≤ (((0 : Int32) + d_)).toNatClampNeg) := inb_of S110 hin
  obtain ⟨T112, h112, X112, e112, W112, st112⟩ := stI X109 hx hZ e109 Ar110 (j := ((0 : Int32) + d_)) hin112 (g := (mkF m 14 #[rv o0, iv 0, iv p2, iv p3, iv ((0 : Int32) + d_)] [(.int p2), (.int ((0 : Int32) + d_)), (.ref it_)])) rfl rfl (hb hby d11_14)
  have f113 := f105.other W112 (Ne.symm SN4_103)
  have f114 := AX_107.wr W112
  have f115 := AF0_107.other W112 (Or.inl AN3_107)
  have f116 := AF1_107.other W112 (Or.inl AN3_107)
  have f117 := AF2_107.other W112 (Or.inl AN3_107)
  have f118 := AF3_107.other W112 (Or.inl AN3_107)
  have f119 := AF4_107.other W112 (Or.inl AN3_107)
  have f120 := AF5_107.other W112 (Or.inl AN3_107)
  have f121 := AF6_107.other W112 (Or.inl AN3_107)
  have f122 := AF7_107.other W112 (Or.inl AN3_107)
  have f123 := AF8_107.other W112 (Or.inl AN3_107)
  have f124 := AV0_107.other W112 AN6_107
  have f125 := AV1_107.other W112 AN8_107
  have f126 := AV2_107.other W112 AN9_107
  have Z127 := Nat.le_trans Z108 (Keep.of_wr W112).1
  have V112 : Arv Z h112 it_ k4_ .int zi_ (its_.set (((0 : Int32) + d_)).toNatClampNeg (.int p2)) (.int 0) := Arv.set Ar110 q110 S110 M110 Hs110 G110 rfl W112 (((0 : Int32) + d_)).toNatClampNeg rfl hl
  have N112 := Fr.snoc X112 N104 Ag4_107
  obtain ⟨T128, X128, e128, st128⟩ := getF X112 hx hZ hown (host := "") (Or.inl (hw _ (List.mem_of_getElem? (i := 52) rfl))) Via.refl e112 f119 (g := (mkF m 16 #[rv o0, iv 0, iv p2, iv p3, iv ((0 : Int32) + d_)] [(.ref o0)])) rfl rfl (hb hby d11_16)
  obtain ⟨cl129, Ar129, q129, S129, M129, Hs129, G129⟩ := f113
  have f130 : Arv Z h112 sl_ k5_ .int zi_ sls_ (.int 0) := ⟨cl129, Ar129, q129, S129, M129, Hs129, G129⟩
  have hin131 : ¬ (((0 : Int32) + d_) < 0 ∨ cl129.slots.size ≤ (((0 : Int32) + d_)).toNatClampNeg) := inb_of S129 hin
  obtain ⟨T131, h131, X131, e131, W131, st131⟩ := stI X128 hx hZ e128 Ar129 (j := ((0 : Int32) + d_)) hin131 (g := (mkF m 22 #[rv o0, iv 0, iv p2, iv p3, iv ((0 : Int32) + d_)] [(.int p3), (.int ((0 : Int32) + d_)), (.ref sl_)])) rfl rfl (hb hby d11_22)
  have f132 := f114.wr W131
  have f133 := f115.other W131 (Or.inl SN0_103)
  have f134 := f116.other W131 (Or.inl SN0_103)
  have f135 := f117.other W131 (Or.inl SN0_103)
  have f136 := f118.other W131 (Or.inl SN0_103)
  have f137 := f119.other W131 (Or.inl SN0_103)
  have f138 := f120.other W131 (Or.inl SN0_103)
  have f139 := f121.other W131 (Or.inl SN0_103)
  have f140 := f122.other W131 (Or.inl SN0_103)
  have f141 := f123.other W131 (Or.inl SN0_103)
  have f142 := f124.other W131 SN1_103
  have f143 := f125.other W131 SN2_103
  have f144 := f126.other W131 SN3_103
  have f145 := V112.other W131 SN4_103
  have Z146 := Nat.le_trans Z127 (Keep.of_wr W131).1
  have V131 : Arv Z h131 sl_ k5_ .int zi_ (sls_.set (((0 : Int32) + d_)).toNatClampNeg (.int p3)) (.int 0) := Arv.set Ar129 q129 S129 M129 Hs129 G129 rfl W131 (((0 : Int32) + d_)).toNatClampNeg rfl hl2
  have N131 := Fr.snoc X131 N112 SG_103
  have go147 : ∀ t, Steps p.tables e below (T131.setTop (mkF m 23 #[rv o0, iv 0, iv p2, iv p3, iv ((0 : Int32) + d_)] [])) t → Steps p.tables e below O t := fun t k => go0 t (by
    refine XS.aloadN X0.here hx rfl (hb hby d11_0) rfl rfl ?_
    refine XS.iloadN X0.here hx rfl (hb hby d11_1) rfl ?_
    show Steps _ _ _ (s₁.setTop (mkF m 2 _ [(.int 0), (.ref o0)])) _
    refine st104.trans ?_
    show Steps _ _ _ (T104.setTop (mkF m 5 _ [(.int ((0 : Int32) + d_))])) _
    refine XS.istore X104.here hx rfl (hb hby d11_5) rfl (l' := #[rv o0, iv 0, iv p2, iv p3, iv ((0 : Int32) + d_)]) rfl ?_
    show Steps _ _ _ (T104.setTop (mkF m 7 _ [])) _
    refine XS.aloadN X104.here hx rfl (hb hby d11_7) rfl rfl ?_
    refine st109 _ ?_
    show Steps _ _ _ (T109.setTop (mkF m 11 _ [(.ref it_)])) _
    refine XS.iload X109.here hx rfl (hb hby d11_11) rfl ?_
    refine XS.iloadN X109.here hx rfl (hb hby d11_13) rfl ?_
    show Steps _ _ _ (T109.setTop (mkF m 14 _ [(.int p2), (.int ((0 : Int32) + d_)), (.ref it_)])) _
    refine st112 _ ?_
    show Steps _ _ _ (T112.setTop (mkF m 15 _ [])) _
    refine XS.aloadN X112.here hx rfl (hb hby d11_15) rfl rfl ?_
    refine st128 _ ?_
    show Steps _ _ _ (T128.setTop (mkF m 19 _ [(.ref sl_)])) _
    refine XS.iload X128.here hx rfl (hb hby d11_19) rfl ?_
    refine XS.iloadN X128.here hx rfl (hb hby d11_21) rfl ?_
    show Steps _ _ _ (T128.setTop (mkF m 22 _ [(.int p3), (.int ((0 : Int32) + d_)), (.ref sl_)])) _
    refine st131 _ ?_
    show Steps _ _ _ (T131.setTop (mkF m 23 _ [])) _
    exact k)
  rw [hO] at go147
  obtain ⟨fs, hr, hrun, hended, hW, hsame⟩ := X131.leave (v := none) (fun _ => rfl)
  refine ⟨_, _, go147 _ ?_, hrun, hended, _, _, rfl, ?_, ⟨_, rfl⟩, hW, hsame.mono (by decide) (by decide)⟩
  · exact X131.returnOut hx Bd.returns (hb hby d11_23) hr
  · show Q_adp Z o0 p2 p3 st_ dg_ rm_ it_ k1_ k2_ k3_ k4_ zi_ its_ d_ sl_ k5_ sls_ h0 n0 _ T131.heap _
    rw [e131]
    exact ⟨rfl, N131, ⟨f132, Ag0_107, Ag1_107, Ag2_107, Ag3_107, Ag4_107, f133, f134, f135, f136, f137, f138, f139, f140, f141, f142, f143, f144, f145, AN0_107, AN1_107, AN2_107, AN3_107, AN4_107, AN5_107, AN6_107, AN7_107, AN8_107, AN9_107⟩, ⟨SG_103, V131, SN0_103, SN1_103, SN2_103, SN3_103, SN4_103⟩⟩
theorem ef_cpy (m : MethodId) (x0 : Addr) (x1 : Int32) : entryFrame m #[(.ref x0), (.int x1)] 3 = mkF m 0 #[rv x0, iv x1, .unset] [] := by first | (simp [entryFrame, mkF, argsToLocals, Value.category]; done) | rfl
theorem pn_1 : plainName "java/util/Arrays" = true := by first | (simp [plainName, overriddenIn]; done) | decide +kernel
def Q_cpy (Z : State) (o0 : Addr) (k_ : ClassId) (h0 : Heap) (n0 : Nat) (v : Option Value) (h : Heap) (L : List Loc) : Prop := ∃ (b_ : Addr) (kb : ClassId), v = some (.ref b_) ∧ Fr n0 L ∧ n0 ≤ b_ ∧ h0.size ≤ b_ ∧ Keep h0 h [] ∧ Arv Z h b_ kb .int (16 : Int32) [.int (0 : Int32), .int (0 : Int32), .int (0 : Int32), .int (0 : Int32), .int (0 : Int32), .int (0 : Int32), .int (0 : Int32), .int (0 : Int32), .int (0 : Int32), .int (0 : Int32), .int (0 : Int32), .int (0 : Int32), .int (0 : Int32), .int (0 : Int32), .int (0 : Int32), .int (0 : Int32)] (.int (0 : Int32))
theorem d12_0 : decode jdk_65_method_123_code 0 = .ok (.iload_n 1, 1) := by decide +kernel
theorem d12_1 : decode jdk_65_method_123_code 1 = .ok (.aload_n 0, 1) := by decide +kernel
theorem d12_2 : decode jdk_65_method_123_code 2 = .ok (.arraylength, 1) := by decide +kernel
theorem d12_3 : decode jdk_65_method_123_code 3 = .ok (.if_icmp .ne 11, 3) := by decide +kernel
theorem d12_14 : decode jdk_65_method_123_code 14 = .ok (.iload_n 1, 1) := by decide +kernel
theorem d12_15 : decode jdk_65_method_123_code 15 = .ok (.newarray .int, 2) := by decide +kernel
theorem d12_17 : decode jdk_65_method_123_code 17 = .ok (.astore_n 2, 1) := by decide +kernel
theorem d12_18 : decode jdk_65_method_123_code 18 = .ok (.aload_n 0, 1) := by decide +kernel
theorem d12_19 : decode jdk_65_method_123_code 19 = .ok (.iconst 0, 1) := by decide +kernel
theorem d12_20 : decode jdk_65_method_123_code 20 = .ok (.aload_n 2, 1) := by decide +kernel
theorem d12_21 : decode jdk_65_method_123_code 21 = .ok (.iconst 0, 1) := by decide +kernel
theorem d12_22 : decode jdk_65_method_123_code 22 = .ok (.aload_n 0, 1) := by decide +kernel
theorem d12_23 : decode jdk_65_method_123_code 23 = .ok (.arraylength, 1) := by decide +kernel
theorem d12_24 : decode jdk_65_method_123_code 24 = .ok (.iload_n 1, 1) := by decide +kernel
theorem d12_25 : decode jdk_65_method_123_code 25 = .ok (.invokestatic 304, 3) := by decide +kernel
theorem d12_28 : decode jdk_65_method_123_code 28 = .ok (.invokestatic 150, 3) := by decide +kernel
theorem d12_31 : decode jdk_65_method_123_code 31 = .ok (.aload_n 2, 1) := by decide +kernel
theorem d12_32 : decode jdk_65_method_123_code 32 = .ok (.areturn, 1) := by decide +kernel
set_option maxRecDepth 65536 in
set_option maxHeartbeats 40000000 in
theorem rm_cpy (l : Launch) (Z : State) (a0 : Array Value) (hw : ∀ d ∈ tables_1, d.before a0 Z = true) (ws : List Jvm.Cond) (o0 : Addr) (k_ : ClassId) (h0 : Heap) (n0 : Nat) (Z0 : n0 ≤ h0.size) (V_o0 : Arv Z h0 o0 k_ .int (0 : Int32) [] (.int (0 : Int32))) :
    MetFree l (⟨"java/util/Arrays", "copyOf", "([II)[I"⟩ : MethodName) (head1 (Jvm.Cond.code (⟨"java/util/Arrays", "copyOf", "([II)[I"⟩ : MethodName) jdk_65_method_123_code 3 (some (.array .int)) :: ws) ({ frames := 1, cells := 1, slots := 16, locals := 18 } : Room)) (fun a U => a = #[(.ref o0), (.int 16)] ∧ Z.Warmed39 U.vm ∧ U.heap = h0) (fun _ _ _ _ _ => True) (fun _ U o U' => ∃ v L, o = .returned v ∧ Q_cpy Z o0 k_ h0 n0 v U'.heap L ∧ FrameEnd U o U' L ({ frames := 1, cells := 1, slots := 16, locals := 18 } : Room).cells ({ frames := 1, cells := 1, slots := 16, locals := 18 } : Room).slots) := by
  refine MetFree.of_bodySF (plainFor_of_name pn_1) hisR ?_
  intro p e s m args below meth c s₁ Bd hml0 hP hK
  obtain ⟨rfl, hZ, hh⟩ := hP
  have hx := Bd.exec
  have hby := Bd.bytes
  have hml : c.maxLocals = 3 := hml0
  have hown : s.vm.findClass "java/util/Arrays" = some m.cls := findClass_of_methodNamed Bd.named
  have hnm := (name_of_methodNamed Bd.named Bd.method).1
  have X0 : Stand p l e ({ frames := 1, cells := 1, slots := 16, locals := 18 } : Room) s m #[(.ref o0), (.int 16)] below meth c s₁ [] 0 0 := Stand.of_body Bd
  have e0 : s₁.heap = h0 := by rw [← hh, Bd.state]; rfl
  have N0 := Fr.nil n0
  have go0 : ∀ t, Steps p.tables e below (s₁.setTop (mkF m 0 #[rv o0, iv 16, .unset] [])) t → Steps p.tables e below (s₁.setTop (entryFrame m #[(.ref o0), (.int 16)] 3)) t := fun t k => castTop (ef_cpy m o0 (16 : Int32)) k
  obtain ⟨O, hO⟩ : ∃ z, z = (s₁.setTop (entryFrame m #[(.ref o0), (.int 16)] 3)) := ⟨_, rfl⟩
  rw [← hO] at go0
  have K101 := Keep.refl h0 []
  obtain ⟨cl102, Ar102, q102, S102, M102, Hs102, G102⟩ := V_o0
  have f103 : Arv Z h0 o0 k_ .int (0 : Int32) [] (.int 0) := ⟨cl102, Ar102, q102, S102, M102, Hs102, G102⟩
  obtain ⟨T104, h104, k104, X104, e104, E104, A104, st104⟩ := newP X0 hx hZ (hw _ (List.mem_of_getElem? (i := 9) rfl)) e0 (g := (mkF m 15 #[rv o0, iv 16, .unset] [(.int 16)])) rfl (hb hby d12_15) rfl (by decide) (cap := 16) (by decide) (by decide) (by decide) (by decide)
  obtain ⟨b_, g104⟩ : ∃ z, z = h0.size := ⟨_, rfl⟩
  have ne105 : o0 ≠ b_ := Nat.ne_of_lt (Nat.lt_of_lt_of_le f103.lt (Nat.le_of_eq g104.symm))
  have ge_b_ : n0 ≤ b_ := Nat.le_trans Z0 (Nat.le_of_eq g104.symm)
  have sz_b_ : h0.size ≤ b_ := Nat.le_trans K101.1 (Nat.le_of_eq g104.symm)
  rw [← g104] at A104 st104
  have f106 := f103.ext E104
  have Z107 := Nat.le_trans Z0 E104.1
  have K108 := K101.ext E104
  have V_b__104 : Arv Z h104 b_ k104 .int (16 : Int32) [(.int 0), (.int 0), (.int 0), (.int 0), (.int 0), (.int 0), (.int 0), (.int 0), (.int 0), (.int 0), (.int 0), (.int 0), (.int 0), (.int 0), (.int 0), (.int 0)] (.int 0) := (Arv.new A104 (by decide)).pad (pad_rep [] (.int 0) 16)
  obtain ⟨cl109, Ar109, q109, S109, M109, Hs109, G109⟩ := f106
  have f110 : Arv Z h104 o0 k_ .int (0 : Int32) [] (.int 0) := ⟨cl109, Ar109, q109, S109, M109, Hs109, G109⟩
  obtain ⟨_, _, ⟨T111, L111, k111, n111⟩, -, X111, ⟨Lc111, hQ111, l111, y111, z111⟩, st111⟩ := Jvm.LawKit.callS X104 hx (y := (⟨"java/lang/Math", "min", "(II)I"⟩ : MethodName)) hown (mvT hZ (hw _ (List.mem_of_getElem? (i := 95) rfl))) (mvT hZ (hw _ (List.mem_of_getElem? (i := 96) rfl))) (mvT hZ (hw _ (List.mem_of_getElem? (i := 35) rfl))) (mvT hZ (hw _ (List.mem_of_getElem? (i := 97) rfl))) (by decide) (backOf (W := 4) (rm_mnI l Z a0 hw [] (0 : Int32) (16 : Int32)  h104 n0 Z107 ) hZ (hw _ (List.mem_of_getElem? (i := 97) rfl)) (hw _ (List.mem_of_getElem? (i := 35) rfl)) (by decide) (by decide)) (g := (mkF m 25 #[rv o0, iv 16, rv b_] [(.int 16), (.int 0), (.int 0), (.ref b_), (.int 0), (.ref o0)])) rfl (by rw [hml]; rfl) (argsL := [(.int 0), (.int 16)]) (rest := [(.int 0), (.ref b_), (.int 0), (.ref o0)]) (lenOf pd_2 rfl) rfl (by show 2 * 0 + _ ≤ _; exact Nat.le_of_eq rfl) (hb hby d12_25) (fun _ _ => ⟨rfl, e104, (by decide : 1 + 0 ≤ _), (by decide : 16 + 0 ≤ _)⟩)
  dsimp only [Pt.U, Pt.locs, Pt.cells, Pt.slots] at X111 l111 y111 z111 st111 hQ111
  rw [l111, y111, z111] at X111
  obtain ⟨hv111, N111q, eM⟩ := hQ111
  rw [hv111] at st111
  have N111 := Fr.app N0 N111q
  have go112 : ∀ t, Steps p.tables e below (T111.setTop (mkF m 28 #[rv o0, iv 16, rv b_] [(.int (own_min (0 : Int32) (16 : Int32))), (.int 0), (.ref b_), (.int 0), (.ref o0)])) t → Steps p.tables e below O t := fun t k => go0 t (by
    refine XS.iloadN X0.here hx rfl (hb hby d12_0) rfl ?_
    refine XS.aloadN X0.here hx rfl (hb hby d12_1) rfl rfl ?_
    show Steps _ _ _ (s₁.setTop (mkF m 2 _ [(.ref o0), (.int 16)])) _
    refine X0.arraylength hx (by rw [e0]; exact Ar102.1) (State.isArrayOf_alike hZ.alike Ar102.2.1) (g := (mkF m 2 #[rv o0, iv 16, .unset] [(.ref o0), (.int 16)])) rfl rfl (hb hby d12_2) _ ?_
    rw [len_of S102 M102]
    show Steps _ _ _ (s₁.setTop (mkF m 3 _ [(.int 0), (.int 16)])) _
    refine XS.icmpYes X0.here hx rfl (pc0 := 3) (pc' := 14) rfl (hb hby d12_3) rfl (feq (by decide : ¬ ((16 : Int32) = (0 : Int32)))).2 (by decide) (by decide) ?_
    refine XS.iloadN X0.here hx rfl (hb hby d12_14) rfl ?_
    show Steps _ _ _ (s₁.setTop (mkF m 15 _ [(.int 16)])) _
    refine st104 _ ?_
    show Steps _ _ _ (T104.setTop (mkF m 17 _ [(.ref b_)])) _
    refine XS.astoreN X104.here hx rfl (hb hby d12_17) rfl rfl (l' := #[rv o0, iv 16, rv b_]) rfl ?_
    show Steps _ _ _ (T104.setTop (mkF m 18 _ [])) _
    refine XS.aloadN X104.here hx rfl (hb hby d12_18) rfl rfl ?_
    refine XS.iconst X104.here hx rfl (hb hby d12_19) ?_
    show Steps _ _ _ (T104.setTop (mkF m 20 _ [(.int 0), (.ref o0)])) _
    refine XS.aloadN X104.here hx rfl (hb hby d12_20) rfl rfl ?_
    refine XS.iconst X104.here hx rfl (hb hby d12_21) ?_
    show Steps _ _ _ (T104.setTop (mkF m 22 _ [(.int 0), (.ref b_), (.int 0), (.ref o0)])) _
    refine XS.aloadN X104.here hx rfl (hb hby d12_22) rfl rfl ?_
    refine X104.arraylength hx (by rw [e104]; exact Ar109.1) (State.isArrayOf_alike hZ.alike Ar109.2.1) (g := (mkF m 23 #[rv o0, iv 16, rv b_] [(.ref o0), (.int 0), (.ref b_), (.int 0), (.ref o0)])) rfl rfl (hb hby d12_23) _ ?_
    rw [len_of S109 M109]
    show Steps _ _ _ (T104.setTop (mkF m 24 _ [(.int 0), (.int 0), (.ref b_), (.int 0), (.ref o0)])) _
    refine XS.iloadN X104.here hx rfl (hb hby d12_24) rfl ?_
    show Steps _ _ _ (T104.setTop (mkF m 25 _ [(.int 16), (.int 0), (.int 0), (.ref b_), (.int 0), (.ref o0)])) _
    refine st111 _ ?_
    show Steps _ _ _ (T111.setTop (mkF m 28 _ [(.int (own_min (0 : Int32) (16 : Int32))), (.int 0), (.ref b_), (.int 0), (.ref o0)])) _
    exact k)
  rw [show (own_min (0 : Int32) (16 : Int32)) = (0 : Int32) from by decide] at go112
  obtain ⟨T113, h113, L113, X113, e113, N113, KK113, VB113, st113⟩ := cpA X111 hx hZ hown (hw _ (List.mem_of_getElem? (i := 98) rfl)) (hw _ (List.mem_of_getElem? (i := 101) rfl)) (hw _ (List.mem_of_getElem? (i := 99) rfl)) (hw _ (List.mem_of_getElem? (i := 100) rfl)) eM f110 V_b__104 (us := []) (Or.inl ⟨rfl, rfl⟩) (by decide) (by decide) (by decide) (by decide) (by decide) rfl (by decide) N111 ge_b_ (g := (mkF m 28 #[rv o0, iv 16, rv b_] [(.int 0), (.int 0), (.ref b_), (.int 0), (.ref o0)])) rfl (by rw [hml]; rfl) rfl (hb hby d12_28) (by decide) (W := 0) (by show 2 * 0 + _ ≤ _; exact Nat.le_of_eq rfl) (by decide)
  have f114 := f110.keep KK113 (ninS ne105 nin0)
  have Z115 := Nat.le_trans Z107 KK113.1
  have K116 := K108.trans KK113 (allS (Or.inr sz_b_) all0)
  have go117 : ∀ t, Steps p.tables e below (T113.setTop (mkF m 32 #[rv o0, iv 16, rv b_] [(.ref b_)])) t → Steps p.tables e below O t := fun t k => go112 t (by
    refine st113 _ ?_
    show Steps _ _ _ (T113.setTop (mkF m 31 _ [])) _
    refine XS.aloadN X113.here hx rfl (hb hby d12_31) rfl rfl ?_
    exact k)
  rw [hO] at go117
  obtain ⟨fs, hr, hrun, hended, hW, hsame⟩ := X113.leave (v := some (.ref b_)) (fun h => by rw [Bd.returns] at h; cases h)
  refine ⟨_, _, go117 _ ?_, hrun, hended, _, _, rfl, ?_, ⟨_, rfl⟩, hW, hsame.mono (by decide) (by decide)⟩
  · jvm_step X113.here [X113.here.top, hx, (hb hby d12_32), X113.method', Bd.returns, Value.isRef, FieldType.isReference]
    first | (intro acts; rw [hr _ acts rfl rfl rfl]) | rw [hr _ _ rfl rfl rfl]
    exact Steps.refl _
  · show Q_cpy Z o0 k_ h0 n0 _ T113.heap _
    rw [e113]
    exact ⟨b_, k104, rfl, N113, ge_b_, sz_b_, K116, VB113⟩
theorem ef_mkg (m : MethodId) (x0 : Addr) (x1 : Int32) : entryFrame m #[(.ref x0), (.int x1)] 8 = mkF m 0 #[rv x0, iv x1, .unset, .unset, .unset, .unset, .unset, .unset] [] := by first | (simp [entryFrame, mkF, argsToLocals, Value.category]; done) | rfl
def Q_mkg (Z : State) (o0 : Addr) (st_ : Addr) (dg_ : Addr) (rm_ : Addr) (it_ : Addr) (k1_ : ClassId) (k2_ : ClassId) (k3_ : ClassId) (k4_ : ClassId) (sl_ : Addr) (k5_ : ClassId) (h0 : Heap) (n0 : Nat) (v : Option Value) (h : Heap) (L : List Loc) : Prop := ∃ (it2 sl2 : Addr) (k42 k52 : ClassId), v = some (.int (0 : Int32)) ∧ Fr n0 L ∧ own_A Z h n0 o0 st_ dg_ rm_ it2 k1_ k2_ k3_ k42 (16 : Int32) [.int (0 : Int32), .int (0 : Int32), .int (0 : Int32), .int (0 : Int32), .int (0 : Int32), .int (0 : Int32), .int (0 : Int32), .int (0 : Int32), .int (0 : Int32), .int (0 : Int32), .int (0 : Int32), .int (0 : Int32), .int (0 : Int32), .int (0 : Int32), .int (0 : Int32), .int (0 : Int32)] (.ref sl2) (0 : Int32) (0 : Int32) (0 : Int32) (0 : Int32) (0 : Int32) ∧ own_S Z h n0 sl2 k52 (16 : Int32) [.int (0 : Int32), .int (0 : Int32), .int (0 : Int32), .int (0 : Int32), .int (0 : Int32), .int (0 : Int32), .int (0 : Int32), .int (0 : Int32), .int (0 : Int32), .int (0 : Int32), .int (0 : Int32), .int (0 : Int32), .int (0 : Int32), .int (0 : Int32), .int (0 : Int32), .int (0 : Int32)] o0 st_ dg_ rm_ it2
theorem d7_20 : decode prog_2_method_21_code 20 = .ok (.aload_n 0, 1) := by decide +kernel
theorem d7_21 : decode prog_2_method_21_code 21 = .ok (.getfield 58, 3) := by decide +kernel
theorem d7_24 : decode prog_2_method_21_code 24 = .ok (.aload_n 0, 1) := by decide +kernel
theorem d7_25 : decode prog_2_method_21_code 25 = .ok (.getfield 62, 3) := by decide +kernel
theorem d7_28 : decode prog_2_method_21_code 28 = .ok (.isub, 1) := by decide +kernel
theorem d7_29 : decode prog_2_method_21_code 29 = .ok (.aload_n 0, 1) := by decide +kernel
theorem d7_30 : decode prog_2_method_21_code 30 = .ok (.getfield 79, 3) := by decide +kernel
theorem d7_33 : decode prog_2_method_21_code 33 = .ok (.aload_n 0, 1) := by decide +kernel
theorem d7_34 : decode prog_2_method_21_code 34 = .ok (.getfield 12, 3) := by decide +kernel
theorem d7_37 : decode prog_2_method_21_code 37 = .ok (.arraylength, 1) := by decide +kernel
theorem d7_38 : decode prog_2_method_21_code 38 = .ok (.invokestatic 94, 3) := by decide +kernel
theorem d7_41 : decode prog_2_method_21_code 41 = .ok (.if_icmp .lt 7, 3) := by decide +kernel
theorem d7_48 : decode prog_2_method_21_code 48 = .ok (.iconst 0, 1) := by decide +kernel
theorem d7_49 : decode prog_2_method_21_code 49 = .ok (.istore_n 3, 1) := by decide +kernel
theorem d7_50 : decode prog_2_method_21_code 50 = .ok (.iload_n 3, 1) := by decide +kernel
theorem d7_51 : decode prog_2_method_21_code 51 = .ok (.ifCond .eq 11, 3) := by decide +kernel
theorem d7_62 : decode prog_2_method_21_code 62 = .ok (.aload_n 0, 1) := by decide +kernel
theorem d7_63 : decode prog_2_method_21_code 63 = .ok (.getfield 58, 3) := by decide +kernel
theorem d7_66 : decode prog_2_method_21_code 66 = .ok (.i2l, 1) := by decide +kernel
theorem d7_67 : decode prog_2_method_21_code 67 = .ok (.iload_n 1, 1) := by decide +kernel
theorem d7_68 : decode prog_2_method_21_code 68 = .ok (.i2l, 1) := by decide +kernel
theorem d7_69 : decode prog_2_method_21_code 69 = .ok (.ladd, 1) := by decide +kernel
theorem d7_70 : decode prog_2_method_21_code 70 = .ok (.lstore 4, 2) := by decide +kernel
theorem d7_72 : decode prog_2_method_21_code 72 = .ok (.ldc2_w 43, 3) := by decide +kernel
theorem d7_75 : decode prog_2_method_21_code 75 = .ok (.ldc2_w 110, 3) := by decide +kernel
theorem d7_78 : decode prog_2_method_21_code 78 = .ok (.ldc2_w 112, 3) := by decide +kernel
theorem d7_81 : decode prog_2_method_21_code 81 = .ok (.lload 4, 2) := by decide +kernel
theorem d7_83 : decode prog_2_method_21_code 83 = .ok (.lmul, 1) := by decide +kernel
theorem pd_5 : parseMethodDescriptor "(JJ)J" = some ⟨[.long, .long], some .long⟩ := by decide +kernel
theorem d7_84 : decode prog_2_method_21_code 84 = .ok (.invokestatic 114, 3) := by decide +kernel
theorem d7_87 : decode prog_2_method_21_code 87 = .ok (.invokestatic 117, 3) := by decide +kernel
theorem d7_90 : decode prog_2_method_21_code 90 = .ok (.lstore 6, 2) := by decide +kernel
theorem d7_92 : decode prog_2_method_21_code 92 = .ok (.aload_n 0, 1) := by decide +kernel
theorem d7_93 : decode prog_2_method_21_code 93 = .ok (.getfield 72, 3) := by decide +kernel
theorem d7_96 : decode prog_2_method_21_code 96 = .ok (.ifnull 26, 3) := by decide +kernel
theorem d7_122 : decode prog_2_method_21_code 122 = .ok (.lload 4, 2) := by decide +kernel
theorem d7_124 : decode prog_2_method_21_code 124 = .ok (.ldc2_w 43, 3) := by decide +kernel
theorem d7_127 : decode prog_2_method_21_code 127 = .ok (.lcmp, 1) := by decide +kernel
theorem d7_128 : decode prog_2_method_21_code 128 = .ok (.ifCond .le 9, 3) := by decide +kernel
theorem d7_137 : decode prog_2_method_21_code 137 = .ok (.iload_n 3, 1) := by decide +kernel
theorem d7_138 : decode prog_2_method_21_code 138 = .ok (.ifCond .eq 13, 3) := by decide +kernel
theorem d7_151 : decode prog_2_method_21_code 151 = .ok (.aload_n 0, 1) := by decide +kernel
theorem d7_152 : decode prog_2_method_21_code 152 = .ok (.aload_n 0, 1) := by decide +kernel
theorem d7_153 : decode prog_2_method_21_code 153 = .ok (.getfield 22, 3) := by decide +kernel
theorem d7_156 : decode prog_2_method_21_code 156 = .ok (.lload 6, 2) := by decide +kernel
theorem d7_158 : decode prog_2_method_21_code 158 = .ok (.l2i, 1) := by decide +kernel
theorem pd_6 : parseMethodDescriptor "([II)[I" = some ⟨[(.array .int), .int], some (.array .int)⟩ := by decide +kernel
theorem d7_159 : decode prog_2_method_21_code 159 = .ok (.invokestatic 126, 3) := by decide +kernel
theorem d7_162 : decode prog_2_method_21_code 162 = .ok (.putfield 22, 3) := by decide +kernel
theorem d7_165 : decode prog_2_method_21_code 165 = .ok (.aload_n 0, 1) := by decide +kernel
theorem d7_166 : decode prog_2_method_21_code 166 = .ok (.aload_n 0, 1) := by decide +kernel
theorem d7_167 : decode prog_2_method_21_code 167 = .ok (.getfield 65, 3) := by decide +kernel
theorem d7_170 : decode prog_2_method_21_code 170 = .ok (.ifnonnull 7, 3) := by decide +kernel
theorem d7_177 : decode prog_2_method_21_code 177 = .ok (.aload_n 0, 1) := by decide +kernel
theorem d7_178 : decode prog_2_method_21_code 178 = .ok (.getfield 65, 3) := by decide +kernel
theorem d7_181 : decode prog_2_method_21_code 181 = .ok (.lload 6, 2) := by decide +kernel
theorem d7_183 : decode prog_2_method_21_code 183 = .ok (.l2i, 1) := by decide +kernel
theorem d7_184 : decode prog_2_method_21_code 184 = .ok (.invokestatic 126, 3) := by decide +kernel
theorem d7_187 : decode prog_2_method_21_code 187 = .ok (.putfield 65, 3) := by decide +kernel
set_option maxRecDepth 65536 in
set_option maxHeartbeats 40000000 in
theorem rm_mkg (l : Launch) (Z : State) (a0 : Array Value) (hw : ∀ d ∈ tables_1, d.before a0 Z = true) (ws : List Jvm.Cond) (o0 : Addr) (st_ : Addr) (dg_ : Addr) (rm_ : Addr) (it_ : Addr) (k1_ : ClassId) (k2_ : ClassId) (k3_ : ClassId) (k4_ : ClassId) (sl_ : Addr) (k5_ : ClassId) (h0 : Heap) (n0 : Nat) (Z0 : n0 ≤ h0.size) (H : own_A Z h0 n0 o0 st_ dg_ rm_ it_ k1_ k2_ k3_ k4_ (0 : Int32) [] (.ref sl_) (0 : Int32) (0 : Int32) (0 : Int32) (0 : Int32) (0 : Int32)) (HS : own_S Z h0 n0 sl_ k5_ (0 : Int32) [] o0 st_ dg_ rm_ it_) :
    MetFree l (⟨"com/example/plebiscite/plebiscite/Adjacency", "makeRoom", "(I)Z"⟩ : MethodName) (head1 (Jvm.Cond.code (⟨"com/example/plebiscite/plebiscite/Adjacency", "makeRoom", "(I)Z"⟩ : MethodName) prog_2_method_21_code 8 (some .boolean) :: ws) ({ frames := 2, cells := 2, slots := 32, locals := 33 } : Room)) (fun a U => a = #[(.ref o0), (.int 1)] ∧ Z.Warmed39 U.vm ∧ U.heap = h0) (fun _ _ _ _ _ => True) (fun _ U o U' => ∃ v L, o = .returned v ∧ Q_mkg Z o0 st_ dg_ rm_ it_ k1_ k2_ k3_ k4_ sl_ k5_ h0 n0 v U'.heap L ∧ FrameEnd U o U' L ({ frames := 2, cells := 2, slots := 32, locals := 33 } : Room).cells ({ frames := 2, cells := 2, slots := 32, locals := 33 } : Room).slots) := by
  refine MetFree.of_bodySF (plainFor_of_name pn_0) hisR ?_
  intro p e s m args below meth c s₁ Bd hml0 hP hK
  obtain ⟨rfl, hZ, hh⟩ := hP
  have hx := Bd.exec
  have hby := Bd.bytes
  have hml : c.maxLocals = 8 := hml0
  have hown : s.vm.findClass "com/example/plebiscite/plebiscite/Adjacency" = some m.cls := findClass_of_methodNamed Bd.named
  have hnm := (name_of_methodNamed Bd.named Bd.method).1
  have X0 : Stand p l e ({ frames := 2, cells := 2, slots := 32, locals := 33 } : Room) s m #[(.ref o0), (.int 1)] below meth c s₁ [] 0 0 := Stand.of_body Bd
  have e0 : s₁.heap = h0 := by rw [← hh, Bd.state]; rfl
  have N0 := Fr.nil n0
  have go0 : ∀ t, Steps p.tables e below (s₁.setTop (mkF m 0 #[rv o0, iv 1, .unset, .unset, .unset, .unset, .unset, .unset] [])) t → Steps p.tables e below (s₁.setTop (entryFrame m #[(.ref o0), (.int 1)] 8)) t := fun t k => castTop (ef_mkg m o0 (1 : Int32)) k
  obtain ⟨O, hO⟩ : ∃ z, z = (s₁.setTop (entryFrame m #[(.ref o0), (.int 1)] 8)) := ⟨_, rfl⟩
  rw [← hO] at go0
  obtain ⟨AX_101, Ag0_101, Ag1_101, Ag2_101, Ag3_101, Ag4_101, AF0_101, AF1_101, AF2_101, AF3_101, AF4_101, AF5_101, AF6_101, AF7_101, AF8_101, AV0_101, AV1_101, AV2_101, AV3_101, AN0_101, AN1_101, AN2_101, AN3_101, AN4_101, AN5_101, AN6_101, AN7_101, AN8_101, AN9_101⟩ := H
  have Z102 := Nat.le_trans Ag0_101 (Nat.le_of_lt AX_101.lt)
  obtain ⟨SG_103, SV_103, SN0_103, SN1_103, SN2_103, SN3_103, SN4_103⟩ := HS
  obtain ⟨T104, X104, e104, st104⟩ := getF X0 hx hZ hown (host := "") (Or.inl (hw _ (List.mem_of_getElem? (i := 37) rfl))) Via.refl e0 AF5_101 (g := (mkF m 3 #[rv o0, iv 1, iv 0, .unset, .unset, .unset, .unset, .unset] [(.ref o0)])) rfl rfl (hb hby d7_3)
  obtain ⟨T105, X105, e105, st105⟩ := getF X104 hx hZ hown (host := "") (Or.inl (hw _ (List.mem_of_getElem? (i := 16) rfl))) Via.refl e104 AF3_101 (g := (mkF m 11 #[rv o0, iv 1, iv 0, .unset, .unset, .unset, .unset, .unset] [(.ref o0), (.long ((0 : Int32).toInt64 + (1 : Int32).toInt64))])) rfl rfl (hb hby d7_11)
  obtain ⟨cl106, Ar106, q106, S106, M106, Hs106, G106⟩ := AV3_101
  have f107 : Arv Z h0 it_ k4_ .int (0 : Int32) [] (.int 0) := ⟨cl106, Ar106, q106, S106, M106, Hs106, G106⟩
  obtain ⟨T108, X108, e108, st108⟩ := getF X105 hx hZ hown (host := "") (Or.inl (hw _ (List.mem_of_getElem? (i := 37) rfl))) Via.refl e105 AF5_101 (g := (mkF m 21 #[rv o0, iv 1, iv 0, .unset, .unset, .unset, .unset, .unset] [(.ref o0)])) rfl rfl (hb hby d7_21)
  obtain ⟨T109, X109, e109, st109⟩ := getF X108 hx hZ hown (host := "") (Or.inl (hw _ (List.mem_of_getElem? (i := 43) rfl))) Via.refl e108 AF6_101 (g := (mkF m 25 #[rv o0, iv 1, iv 0, .unset, .unset, .unset, .unset, .unset] [(.ref o0), (.int 0)])) rfl rfl (hb hby d7_25)
  obtain ⟨T110, X110, e110, st110⟩ := getF X109 hx hZ hown (host := "") (Or.inl (hw _ (List.mem_of_getElem? (i := 45) rfl))) Via.refl e109 AF7_101 (g := (mkF m 30 #[rv o0, iv 1, iv 0, .unset, .unset, .unset, .unset, .unset] [(.ref o0), (.int ((0 : Int32) - (0 : Int32)))])) rfl rfl (hb hby d7_30)
  obtain ⟨T111, X111, e111, st111⟩ := getF X110 hx hZ hown (host := "") (Or.inl (hw _ (List.mem_of_getElem? (i := 10) rfl))) Via.refl e110 AF0_101 (g := (mkF m 34 #[rv o0, iv 1, iv 0, .unset, .unset, .unset, .unset, .unset] [(.ref o0), (.int 0), (.int ((0 : Int32) - (0 : Int32)))])) rfl rfl (hb hby d7_34)
  obtain ⟨cl112, Ar112, q112, S112, M112, Hs112, G112⟩ := AV0_101
  have f113 : Arv Z h0 st_ k1_ .int (1 : Int32) [(.int 0)] (.int 0) := ⟨cl112, Ar112, q112, S112, M112, Hs112, G112⟩
  obtain ⟨_, _, ⟨T114, L114, k114, n114⟩, -, X114, ⟨Lc114, hQ114, l114, y114, z114⟩, st114⟩ := Jvm.LawKit.callS X111 hx (y := (⟨"java/lang/Math", "max", "(II)I"⟩ : MethodName)) hown (mvT hZ (hw _ (List.mem_of_getElem? (i := 33) rfl))) (mvT hZ (hw _ (List.mem_of_getElem? (i := 34) rfl))) (mvT hZ (hw _ (List.mem_of_getElem? (i := 35) rfl))) (mvT hZ (hw _ (List.mem_of_getElem? (i := 36) rfl))) (by decide) (backOf (W := 1) (rm_mxI l Z a0 hw [] (0 : Int32) (1 : Int32)  h0 n0 Z102 ) hZ (hw _ (List.mem_of_getElem? (i := 36) rfl)) (hw _ (List.mem_of_getElem? (i := 35) rfl)) (by decide) (by decide)) (g := (mkF m 38 #[rv o0, iv 1, iv 0, .unset, .unset, .unset, .unset, .unset] [(.int 1), (.int 0), (.int ((0 : Int32) - (0 : Int32)))])) rfl (by rw [hml]; rfl) (argsL := [(.int 0), (.int 1)]) (rest := [(.int ((0 : Int32) - (0 : Int32)))]) (lenOf pd_2 rfl) rfl (by show 2 * 0 + _ ≤ _; exact Nat.le_of_eq rfl) (hb hby d7_38) (fun _ _ => ⟨rfl, e111, (by decide : 0 + 0 ≤ _), (by decide : 0 + 0 ≤ _)⟩)
  dsimp only [Pt.U, Pt.locs, Pt.cells, Pt.slots] at X114 l114 y114 z114 st114 hQ114
  rw [l114, y114, z114] at X114
  obtain ⟨hv114, N114q, eX1⟩ := hQ114
  rw [hv114] at st114
  have N114 := Fr.app N0 N114q
  obtain ⟨T115, X115, e115, st115⟩ := getF X114 hx hZ hown (host := "") (Or.inl (hw _ (List.mem_of_getElem? (i := 37) rfl))) Via.refl eX1 AF5_101 (g := (mkF m 63 #[rv o0, iv 1, iv 0, iv 0, .unset, .unset, .unset, .unset] [(.ref o0)])) rfl rfl (hb hby d7_63)
  have go116 : ∀ t, Steps p.tables e below (T115.setTop (mkF m 84 #[rv o0, iv 1, iv 0, iv 0, .val (.long ((0 : Int32).toInt64 + (1 : Int32).toInt64)), .second, .unset, .unset] [(.long ((2 : Int64) * ((0 : Int32).toInt64 + (1 : Int32).toInt64))), (.long 16), (.long 2147483639)])) t → Steps p.tables e below O t := fun t k => go0 t (by
    refine XS.iconst X0.here hx rfl (hb hby d7_0) ?_
    refine XS.istoreN X0.here hx rfl (hb hby d7_1) rfl (l' := #[rv o0, iv 1, iv 0, .unset, .unset, .unset, .unset, .unset]) rfl ?_
    show Steps _ _ _ (s₁.setTop (mkF m 2 _ [])) _
    refine XS.aloadN X0.here hx rfl (hb hby d7_2) rfl rfl ?_
    refine st104 _ ?_
    show Steps _ _ _ (T104.setTop (mkF m 6 _ [(.int 0)])) _
    refine XS.i2l X104.here hx rfl (hb hby d7_6) rfl ?_
    refine XS.iloadN X104.here hx rfl (hb hby d7_7) rfl ?_
    show Steps _ _ _ (T104.setTop (mkF m 8 _ [(.int 1), (.long (0 : Int32).toInt64)])) _
    refine XS.i2l X104.here hx rfl (hb hby d7_8) rfl ?_
    refine XS.ladd X104.here hx rfl (hb hby d7_9) rfl ?_
    show Steps _ _ _ (T104.setTop (mkF m 10 _ [(.long ((0 : Int32).toInt64 + (1 : Int32).toInt64))])) _
    refine XS.aloadN X104.here hx rfl (hb hby d7_10) rfl rfl ?_
    refine st105 _ ?_
    show Steps _ _ _ (T105.setTop (mkF m 14 _ [(.ref it_), (.long ((0 : Int32).toInt64 + (1 : Int32).toInt64))])) _
    refine X105.arraylength hx (by rw [e105]; exact Ar106.1) (State.isArrayOf_alike hZ.alike Ar106.2.1) (g := (mkF m 14 #[rv o0, iv 1, iv 0, .unset, .unset, .unset, .unset, .unset] [(.ref it_), (.long ((0 : Int32).toInt64 + (1 : Int32).toInt64))])) rfl rfl (hb hby d7_14) _ ?_
    rw [len_of S106 M106]
    show Steps _ _ _ (T105.setTop (mkF m 15 _ [(.int 0), (.long ((0 : Int32).toInt64 + (1 : Int32).toInt64))])) _
    refine XS.i2l X105.here hx rfl (hb hby d7_15) rfl ?_
    refine XS.lcmp X105.here hx rfl (hb hby d7_16) rfl ?_
    show Steps _ _ _ (T105.setTop (mkF m 17 _ [(.int (lcmpW ((0 : Int32).toInt64 + (1 : Int32).toInt64) (0 : Int32).toInt64))])) _
    refine XS.ifNo X105.here hx rfl (hb hby d7_17) rfl ((if0 _ _).trans (tlt (by decide : (0 : Int32) < (lcmpW ((0 : Int32).toInt64 + (1 : Int32).toInt64) (0 : Int32).toInt64))).2.2.2) ?_
    refine XS.aloadN X105.here hx rfl (hb hby d7_20) rfl rfl ?_
    show Steps _ _ _ (T105.setTop (mkF m 21 _ [(.ref o0)])) _
    refine st108 _ ?_
    show Steps _ _ _ (T108.setTop (mkF m 24 _ [(.int 0)])) _
    refine XS.aloadN X108.here hx rfl (hb hby d7_24) rfl rfl ?_
    refine st109 _ ?_
    show Steps _ _ _ (T109.setTop (mkF m 28 _ [(.int 0), (.int 0)])) _
    refine XS.isub X109.here hx rfl (hb hby d7_28) rfl ?_
    refine XS.aloadN X109.here hx rfl (hb hby d7_29) rfl rfl ?_
    show Steps _ _ _ (T109.setTop (mkF m 30 _ [(.ref o0), (.int ((0 : Int32) - (0 : Int32)))])) _
    refine st110 _ ?_
    show Steps _ _ _ (T110.setTop (mkF m 33 _ [(.int 0), (.int ((0 : Int32) - (0 : Int32)))])) _
    refine XS.aloadN X110.here hx rfl (hb hby d7_33) rfl rfl ?_
    refine st111 _ ?_
    show Steps _ _ _ (T111.setTop (mkF m 37 _ [(.ref st_), (.int 0), (.int ((0 : Int32) - (0 : Int32)))])) _
    refine X111.arraylength hx (by rw [e111]; exact Ar112.1) (State.isArrayOf_alike hZ.alike Ar112.2.1) (g := (mkF m 37 #[rv o0, iv 1, iv 0, .unset, .unset, .unset, .unset, .unset] [(.ref st_), (.int 0), (.int ((0 : Int32) - (0 : Int32)))])) rfl rfl (hb hby d7_37) _ ?_
    rw [len_of S112 M112]
    show Steps _ _ _ (T111.setTop (mkF m 38 _ [(.int 1), (.int 0), (.int ((0 : Int32) - (0 : Int32)))])) _
    refine st114 _ ?_
    show Steps _ _ _ (T114.setTop (mkF m 41 _ [(.int (own_max (0 : Int32) (1 : Int32))), (.int ((0 : Int32) - (0 : Int32)))])) _
    refine XS.icmpYes X114.here hx rfl (pc0 := 41) (pc' := 48) rfl (hb hby d7_41) rfl (tlt (by decide : ((0 : Int32) - (0 : Int32)) < (own_max (0 : Int32) (1 : Int32)))).1 (by decide) (by decide) ?_
    refine XS.iconst X114.here hx rfl (hb hby d7_48) ?_
    show Steps _ _ _ (T114.setTop (mkF m 49 _ [(.int 0)])) _
    refine XS.istoreN X114.here hx rfl (hb hby d7_49) rfl (l' := #[rv o0, iv 1, iv 0, iv 0, .unset, .unset, .unset, .unset]) rfl ?_
    show Steps _ _ _ (T114.setTop (mkF m 50 _ [])) _
    refine XS.iloadN X114.here hx rfl (hb hby d7_50) rfl ?_
    refine XS.ifYes X114.here hx rfl (pc0 := 51) (pc' := 62) rfl (hb hby d7_51) rfl ((if0 _ _).trans (teq (by decide : (0 : Int32) = (0 : Int32))).1) (by decide) (by decide) ?_
    show Steps _ _ _ (T114.setTop (mkF m 62 _ [])) _
    refine XS.aloadN X114.here hx rfl (hb hby d7_62) rfl rfl ?_
    refine st115 _ ?_
    show Steps _ _ _ (T115.setTop (mkF m 66 _ [(.int 0)])) _
    refine XS.i2l X115.here hx rfl (hb hby d7_66) rfl ?_
    refine XS.iloadN X115.here hx rfl (hb hby d7_67) rfl ?_
    show Steps _ _ _ (T115.setTop (mkF m 68 _ [(.int 1), (.long (0 : Int32).toInt64)])) _
    refine XS.i2l X115.here hx rfl (hb hby d7_68) rfl ?_
    refine XS.ladd X115.here hx rfl (hb hby d7_69) rfl ?_
    show Steps _ _ _ (T115.setTop (mkF m 70 _ [(.long ((0 : Int32).toInt64 + (1 : Int32).toInt64))])) _
    refine XS.lstore X115.here hx rfl (hb hby d7_70) rfl (l' := #[rv o0, iv 1, iv 0, iv 0, .val (.long ((0 : Int32).toInt64 + (1 : Int32).toInt64)), .second, .unset, .unset]) rfl ?_
    show Steps _ _ _ (T115.setTop (mkF m 72 _ [])) _
    refine X115.ldc2Long hx hown (mvT hZ (hw _ (List.mem_of_getElem? (i := 82) rfl))) (g := (mkF m 72 #[rv o0, iv 1, iv 0, iv 0, .val (.long ((0 : Int32).toInt64 + (1 : Int32).toInt64)), .second, .unset, .unset] [])) rfl (hb hby d7_72) _ ?_
    refine X115.ldc2Long hx hown (mvT hZ (hw _ (List.mem_of_getElem? (i := 83) rfl))) (g := (mkF m 75 #[rv o0, iv 1, iv 0, iv 0, .val (.long ((0 : Int32).toInt64 + (1 : Int32).toInt64)), .second, .unset, .unset] [(.long 2147483639)])) rfl (hb hby d7_75) _ ?_
    show Steps _ _ _ (T115.setTop (mkF m 78 _ [(.long 16), (.long 2147483639)])) _
    refine X115.ldc2Long hx hown (mvT hZ (hw _ (List.mem_of_getElem? (i := 84) rfl))) (g := (mkF m 78 #[rv o0, iv 1, iv 0, iv 0, .val (.long ((0 : Int32).toInt64 + (1 : Int32).toInt64)), .second, .unset, .unset] [(.long 16), (.long 2147483639)])) rfl (hb hby d7_78) _ ?_
    refine XS.lload X115.here hx rfl (hb hby d7_81) rfl ?_
    show Steps _ _ _ (T115.setTop (mkF m 83 _ [(.long ((0 : Int32).toInt64 + (1 : Int32).toInt64)), (.long 2), (.long 16), (.long 2147483639)])) _
    refine XS.lmul X115.here hx rfl (hb hby d7_83) rfl ?_
    exact k)
  rw [show ((2 : Int64) * ((0 : Int32).toInt64 + (1 : Int32).toInt64)) = (2 : Int64) from by decide] at go116
  obtain ⟨_, _, ⟨T117, L117, k117, n117⟩, -, X117, ⟨Lc117, hQ117, l117, y117, z117⟩, st117⟩ := Jvm.LawKit.callS X115 hx (y := (⟨"java/lang/Math", "max", "(JJ)J"⟩ : MethodName)) hown (mvT hZ (hw _ (List.mem_of_getElem? (i := 85) rfl))) (mvT hZ (hw _ (List.mem_of_getElem? (i := 86) rfl))) (mvT hZ (hw _ (List.mem_of_getElem? (i := 35) rfl))) (mvT hZ (hw _ (List.mem_of_getElem? (i := 87) rfl))) (by decide) (backOf (W := 2) (rm_mxL l Z a0 hw [] (16 : Int64) (2 : Int64)  h0 n0 Z102 ) hZ (hw _ (List.mem_of_getElem? (i := 87) rfl)) (hw _ (List.mem_of_getElem? (i := 35) rfl)) (by decide) (by decide)) (g := (mkF m 84 #[rv o0, iv 1, iv 0, iv 0, .val (.long ((0 : Int32).toInt64 + (1 : Int32).toInt64)), .second, .unset, .unset] [(.long 2), (.long 16), (.long 2147483639)])) rfl (by rw [hml]; rfl) (argsL := [(.long 16), (.long 2)]) (rest := [(.long 2147483639)]) (lenOf pd_5 rfl) rfl (by show 2 * 0 + _ ≤ _; exact Nat.le_of_eq rfl) (hb hby d7_84) (fun _ _ => ⟨rfl, e115, (by decide : 0 + 0 ≤ _), (by decide : 0 + 0 ≤ _)⟩)
  dsimp only [Pt.U, Pt.locs, Pt.cells, Pt.slots] at X117 l117 y117 z117 st117 hQ117
  rw [l117, y117, z117] at X117
  obtain ⟨hv117, N117q, eX2⟩ := hQ117
  rw [hv117] at st117
  have N117 := Fr.app N114 N117q
  have go118 : ∀ t, Steps p.tables e below (T117.setTop (mkF m 87 #[rv o0, iv 1, iv 0, iv 0, .val (.long ((0 : Int32).toInt64 + (1 : Int32).toInt64)), .second, .unset, .unset] [(.long (own_maxL (16 : Int64) (2 : Int64))), (.long 2147483639)])) t → Steps p.tables e below O t := fun t k => go116 t (by
    refine st117 _ ?_
    show Steps _ _ _ (T117.setTop (mkF m 87 _ [(.long (own_maxL (16 : Int64) (2 : Int64))), (.long 2147483639)])) _
    exact k)
  rw [show (own_maxL (16 : Int64) (2 : Int64)) = (16 : Int64) from by decide] at go118
  obtain ⟨_, _, ⟨T119, L119, k119, n119⟩, -, X119, ⟨Lc119, hQ119, l119, y119, z119⟩, st119⟩ := Jvm.LawKit.callS X117 hx (y := (⟨"java/lang/Math", "min", "(JJ)J"⟩ : MethodName)) hown (mvT hZ (hw _ (List.mem_of_getElem? (i := 88) rfl))) (mvT hZ (hw _ (List.mem_of_getElem? (i := 89) rfl))) (mvT hZ (hw _ (List.mem_of_getElem? (i := 35) rfl))) (mvT hZ (hw _ (List.mem_of_getElem? (i := 90) rfl))) (by decide) (backOf (W := 0) (rm_mnL l Z a0 hw [] (2147483639 : Int64) (16 : Int64)  h0 n0 Z102 ) hZ (hw _ (List.mem_of_getElem? (i := 90) rfl)) (hw _ (List.mem_of_getElem? (i := 35) rfl)) (by decide) (by decide)) (g := (mkF m 87 #[rv o0, iv 1, iv 0, iv 0, .val (.long ((0 : Int32).toInt64 + (1 : Int32).toInt64)), .second, .unset, .unset] [(.long 16), (.long 2147483639)])) rfl (by rw [hml]; rfl) (argsL := [(.long 2147483639), (.long 16)]) (rest := []) (lenOf pd_5 rfl) rfl (by show 2 * 0 + _ ≤ _; exact Nat.le_of_eq rfl) (hb hby d7_87) (fun _ _ => ⟨rfl, eX2, (by decide : 0 + 0 ≤ _), (by decide : 0 + 0 ≤ _)⟩)
  dsimp only [Pt.U, Pt.locs, Pt.cells, Pt.slots] at X119 l119 y119 z119 st119 hQ119
  rw [l119, y119, z119] at X119
  obtain ⟨hv119, N119q, eX3⟩ := hQ119
  rw [hv119] at st119
  have N119 := Fr.app N117 N119q
  have go120 : ∀ t, Steps p.tables e below (T119.setTop (mkF m 90 #[rv o0, iv 1, iv 0, iv 0, .val (.long ((0 : Int32).toInt64 + (1 : Int32).toInt64)), .second, .unset, .unset] [(.long (own_minL (2147483639 : Int64) (16 : Int64)))])) t → Steps p.tables e below O t := fun t k => go118 t (by
    refine st119 _ ?_
    show Steps _ _ _ (T119.setTop (mkF m 90 _ [(.long (own_minL (2147483639 : Int64) (16 : Int64)))])) _
    exact k)
  rw [show (own_minL (2147483639 : Int64) (16 : Int64)) = (16 : Int64) from by decide] at go120
  obtain ⟨T121, X121, e121, st121⟩ := getF X119 hx hZ hown (host := "") (Or.inl (hw _ (List.mem_of_getElem? (i := 27) rfl))) Via.refl eX3 AF8_101 (g := (mkF m 93 #[rv o0, iv 1, iv 0, iv 0, .val (.long ((0 : Int32).toInt64 + (1 : Int32).toInt64)), .second, .val (.long 16), .second] [(.ref o0)])) rfl rfl (hb hby d7_93)
  obtain ⟨T122, X122, e122, st122⟩ := getF X121 hx hZ hown (host := "") (Or.inl (hw _ (List.mem_of_getElem? (i := 16) rfl))) Via.refl e121 AF3_101 (g := (mkF m 153 #[rv o0, iv 1, iv 0, iv 0, .val (.long ((0 : Int32).toInt64 + (1 : Int32).toInt64)), .second, .val (.long 16), .second] [(.ref o0), (.ref o0)])) rfl rfl (hb hby d7_153)
  have go123 : ∀ t, Steps p.tables e below (T122.setTop (mkF m 159 #[rv o0, iv 1, iv 0, iv 0, .val (.long ((0 : Int32).toInt64 + (1 : Int32).toInt64)), .second, .val (.long 16), .second] [(.int (16 : Int64).toInt32), (.ref it_), (.ref o0)])) t → Steps p.tables e below O t := fun t k => go120 t (by
    refine XS.lstore X119.here hx rfl (hb hby d7_90) rfl (l' := #[rv o0, iv 1, iv 0, iv 0, .val (.long ((0 : Int32).toInt64 + (1 : Int32).toInt64)), .second, .val (.long 16), .second]) rfl ?_
    show Steps _ _ _ (T119.setTop (mkF m 92 _ [])) _
    refine XS.aloadN X119.here hx rfl (hb hby d7_92) rfl rfl ?_
    refine st121 _ ?_
    show Steps _ _ _ (T121.setTop (mkF m 96 _ [.null])) _
    refine XS.ifnullYes X121.here hx rfl (pc0 := 96) (pc' := 122) rfl (hb hby d7_96) rfl (by decide) (by decide) ?_
    refine XS.lload X121.here hx rfl (hb hby d7_122) rfl ?_
    show Steps _ _ _ (T121.setTop (mkF m 124 _ [(.long ((0 : Int32).toInt64 + (1 : Int32).toInt64))])) _
    refine X121.ldc2Long hx hown (mvT hZ (hw _ (List.mem_of_getElem? (i := 82) rfl))) (g := (mkF m 124 #[rv o0, iv 1, iv 0, iv 0, .val (.long ((0 : Int32).toInt64 + (1 : Int32).toInt64)), .second, .val (.long 16), .second] [(.long ((0 : Int32).toInt64 + (1 : Int32).toInt64))])) rfl (hb hby d7_124) _ ?_
    refine XS.lcmp X121.here hx rfl (hb hby d7_127) rfl ?_
    show Steps _ _ _ (T121.setTop (mkF m 128 _ [(.int (lcmpW ((0 : Int32).toInt64 + (1 : Int32).toInt64) (2147483639 : Int64)))])) _
    refine XS.ifYes X121.here hx rfl (pc0 := 128) (pc' := 137) rfl (hb hby d7_128) rfl ((if0 _ _).trans (flt (by decide : ¬ ((0 : Int32) < (lcmpW ((0 : Int32).toInt64 + (1 : Int32).toInt64) (2147483639 : Int64))))).2.2.2) (by decide) (by decide) ?_
    refine XS.iloadN X121.here hx rfl (hb hby d7_137) rfl ?_
    show Steps _ _ _ (T121.setTop (mkF m 138 _ [(.int 0)])) _
    refine XS.ifYes X121.here hx rfl (pc0 := 138) (pc' := 151) rfl (hb hby d7_138) rfl ((if0 _ _).trans (teq (by decide : (0 : Int32) = (0 : Int32))).1) (by decide) (by decide) ?_
    refine XS.aloadN X121.here hx rfl (hb hby d7_151) rfl rfl ?_
    show Steps _ _ _ (T121.setTop (mkF m 152 _ [(.ref o0)])) _
    refine XS.aloadN X121.here hx rfl (hb hby d7_152) rfl rfl ?_
    refine st122 _ ?_
    show Steps _ _ _ (T122.setTop (mkF m 156 _ [(.ref it_), (.ref o0)])) _
    refine XS.lload X122.here hx rfl (hb hby d7_156) rfl ?_
    refine XS.l2i X122.here hx rfl (hb hby d7_158) rfl ?_
    show Steps _ _ _ (T122.setTop (mkF m 159 _ [(.int (16 : Int64).toInt32), (.ref it_), (.ref o0)])) _
    exact k)
  rw [show (16 : Int64).toInt32 = (16 : Int32) from by decide] at go123
  obtain ⟨_, _, ⟨T124, L124, k124, n124⟩, -, X124, ⟨Lc124, hQ124, l124, y124, z124⟩, st124⟩ := Jvm.LawKit.callS X122 hx (y := (⟨"java/util/Arrays", "copyOf", "([II)[I"⟩ : MethodName)) hown (mvT hZ (hw _ (List.mem_of_getElem? (i := 91) rfl))) (mvT hZ (hw _ (List.mem_of_getElem? (i := 92) rfl))) (mvT hZ (hw _ (List.mem_of_getElem? (i := 93) rfl))) (mvT hZ (hw _ (List.mem_of_getElem? (i := 94) rfl))) (by decide) (backOf (W := 1) (rm_cpy l Z a0 hw [] it_ k4_ h0 n0 Z102 f107) hZ (hw _ (List.mem_of_getElem? (i := 94) rfl)) (hw _ (List.mem_of_getElem? (i := 93) rfl)) (by decide) (by decide)) (g := (mkF m 159 #[rv o0, iv 1, iv 0, iv 0, .val (.long ((0 : Int32).toInt64 + (1 : Int32).toInt64)), .second, .val (.long 16), .second] [(.int 16), (.ref it_), (.ref o0)])) rfl (by rw [hml]; rfl) (argsL := [(.ref it_), (.int 16)]) (rest := [(.ref o0)]) (lenOf pd_6 rfl) rfl (by show 2 * 0 + _ ≤ _; exact Nat.le_of_eq rfl) (hb hby d7_159) (fun _ _ => ⟨rfl, e122, (by decide : 0 + 1 ≤ _), (by decide : 0 + 16 ≤ _)⟩)
  dsimp only [Pt.U, Pt.locs, Pt.cells, Pt.slots] at X124 l124 y124 z124 st124 hQ124
  rw [l124, y124, z124] at X124
  obtain ⟨it2, k42, hv124, N124q, gx1, zx1, Kx1, Vx1⟩ := hQ124
  rw [hv124] at st124
  have N124 := Fr.app N119 N124q
  have ne125 : o0 ≠ it2 := Nat.ne_of_lt (Nat.lt_of_lt_of_le AX_101.lt zx1)
  have ne126 : st_ ≠ it2 := Nat.ne_of_lt (Nat.lt_of_lt_of_le f113.lt zx1)
  have ne127 : dg_ ≠ it2 := Nat.ne_of_lt (Nat.lt_of_lt_of_le AV1_101.lt zx1)
  have ne128 : rm_ ≠ it2 := Nat.ne_of_lt (Nat.lt_of_lt_of_le AV2_101.lt zx1)
  have ne129 : it_ ≠ it2 := Nat.ne_of_lt (Nat.lt_of_lt_of_le f107.lt zx1)
  have ne130 : sl_ ≠ it2 := Nat.ne_of_lt (Nat.lt_of_lt_of_le SV_103.lt zx1)
  have f131 := AX_101.keep Kx1
  have f132 := AF0_101.keep Kx1 nin0
  have f133 := AF1_101.keep Kx1 nin0
  have f134 := AF2_101.keep Kx1 nin0
  have f135 := AF3_101.keep Kx1 nin0
  have f136 := AF4_101.keep Kx1 nin0
  have f137 := AF5_101.keep Kx1 nin0
  have f138 := AF6_101.keep Kx1 nin0
  have f139 := AF7_101.keep Kx1 nin0
  have f140 := AF8_101.keep Kx1 nin0
  have f141 := f113.keep Kx1 nin0
  have f142 := AV1_101.keep Kx1 nin0
  have f143 := AV2_101.keep Kx1 nin0
  have f144 := f107.keep Kx1 nin0
  have f145 := SV_103.keep Kx1 nin0
  have Z146 := Nat.le_trans Z102 Kx1.1
  obtain ⟨T147, h147, X147, e147, W147, st147⟩ := putF X124 hx hZ hown (host := "") (Or.inl (hw _ (List.mem_of_getElem? (i := 16) rfl))) Via.refl rfl f135 f131 (Or.inl (hw _ (List.mem_of_getElem? (i := 17) rfl))) (hw _ (List.mem_of_getElem? (i := 1) rfl)) (ty := (.array .int)) (by decide) rfl rfl (g := (mkF m 162 #[rv o0, iv 1, iv 0, iv 0, .val (.long ((0 : Int32).toInt64 + (1 : Int32).toInt64)), .second, .val (.long 16), .second] [(.ref it2), (.ref o0)])) rfl rfl (hb hby d7_162)
  have f148 := f131.wr W147
  have f149 := f132.other W147 (Or.inr (slot_ne (Or.inr (hw _ (List.mem_of_getElem? (i := 11) rfl))) (Or.inl (hw _ (List.mem_of_getElem? (i := 17) rfl))) (by decide) (t := (.array .int)) (t' := (.array .int)) (by decide) (by decide)))
  have f150 := f133.other W147 (Or.inr (slot_ne (Or.inr (hw _ (List.mem_of_getElem? (i := 13) rfl))) (Or.inl (hw _ (List.mem_of_getElem? (i := 17) rfl))) (by decide) (t := (.array .int)) (t' := (.array .int)) (by decide) (by decide)))
  have f151 := f134.other W147 (Or.inr (slot_ne (Or.inl (hw _ (List.mem_of_getElem? (i := 15) rfl))) (Or.inl (hw _ (List.mem_of_getElem? (i := 17) rfl))) (by decide) (t := (.array .int)) (t' := (.array .int)) (by decide) (by decide)))
  have f152 := f136.other W147 (Or.inr (slot_ne (Or.inl (hw _ (List.mem_of_getElem? (i := 53) rfl))) (Or.inl (hw _ (List.mem_of_getElem? (i := 17) rfl))) (by decide) (t := (.array .int)) (t' := (.array .int)) (by decide) (by decide)))
  have f153 := f137.other W147 (Or.inr (slot_ne (Or.inl (hw _ (List.mem_of_getElem? (i := 38) rfl))) (Or.inl (hw _ (List.mem_of_getElem? (i := 17) rfl))) (by decide) (t := .int) (t' := (.array .int)) (by decide) (by decide)))
  have f154 := f138.other W147 (Or.inr (slot_ne (Or.inl (hw _ (List.mem_of_getElem? (i := 44) rfl))) (Or.inl (hw _ (List.mem_of_getElem? (i := 17) rfl))) (by decide) (t := .int) (t' := (.array .int)) (by decide) (by decide)))
  have f155 := f139.other W147 (Or.inr (slot_ne (Or.inl (hw _ (List.mem_of_getElem? (i := 46) rfl))) (Or.inl (hw _ (List.mem_of_getElem? (i := 17) rfl))) (by decide) (t := .int) (t' := (.array .int)) (by decide) (by decide)))
  have f156 := f140.other W147 (Or.inr (slot_ne (Or.inl (hw _ (List.mem_of_getElem? (i := 28) rfl))) (Or.inl (hw _ (List.mem_of_getElem? (i := 17) rfl))) (by decide) (t := (.array .int)) (t' := (.array .int)) (by decide) (by decide)))
  have f157 := f141.other W147 (Ne.symm AN0_101)
  have f158 := f142.other W147 (Ne.symm AN1_101)
  have f159 := f143.other W147 (Ne.symm AN2_101)
  have f160 := f144.other W147 (Ne.symm AN3_101)
  have f161 := f145.other W147 (Ne.symm SN0_103)
  have f162 := Vx1.other W147 (Ne.symm ne125)
  have Z163 := Nat.le_trans Z146 (Keep.of_wr W147).1
  have f164 := f135.same W147
  have N147 := Fr.snoc X147 N124 Ag0_101
  obtain ⟨T165, X165, e165, st165⟩ := getF X147 hx hZ hown (host := "") (Or.inl (hw _ (List.mem_of_getElem? (i := 52) rfl))) Via.refl e147 f152 (g := (mkF m 167 #[rv o0, iv 1, iv 0, iv 0, .val (.long ((0 : Int32).toInt64 + (1 : Int32).toInt64)), .second, .val (.long 16), .second] [(.ref o0), (.ref o0)])) rfl rfl (hb hby d7_167)
  obtain ⟨T166, X166, e166, st166⟩ := getF X165 hx hZ hown (host := "") (Or.inl (hw _ (List.mem_of_getElem? (i := 52) rfl))) Via.refl e165 f152 (g := (mkF m 178 #[rv o0, iv 1, iv 0, iv 0, .val (.long ((0 : Int32).toInt64 + (1 : Int32).toInt64)), .second, .val (.long 16), .second] [(.ref o0), (.ref o0)])) rfl rfl (hb hby d7_178)
  have go167 : ∀ t, Steps p.tables e below (T166.setTop (mkF m 184 #[rv o0, iv 1, iv 0, iv 0, .val (.long ((0 : Int32).toInt64 + (1 : Int32).toInt64)), .second, .val (.long 16), .second] [(.int (16 : Int64).toInt32), (.ref sl_), (.ref o0)])) t → Steps p.tables e below O t := fun t k => go123 t (by
    refine st124 _ ?_
    show Steps _ _ _ (T124.setTop (mkF m 162 _ [(.ref it2), (.ref o0)])) _
    refine st147 _ ?_
    show Steps _ _ _ (T147.setTop (mkF m 165 _ [])) _
    refine XS.aloadN X147.here hx rfl (hb hby d7_165) rfl rfl ?_
    refine XS.aloadN X147.here hx rfl (hb hby d7_166) rfl rfl ?_
    show Steps _ _ _ (T147.setTop (mkF m 167 _ [(.ref o0), (.ref o0)])) _
    refine st165 _ ?_
    show Steps _ _ _ (T165.setTop (mkF m 170 _ [(.ref sl_), (.ref o0)])) _
    refine XS.ifnonnullYes X165.here hx rfl (pc0 := 170) (pc' := 177) rfl (hb hby d7_170) rfl (by decide) (by decide) ?_
    refine XS.aloadN X165.here hx rfl (hb hby d7_177) rfl rfl ?_
    show Steps _ _ _ (T165.setTop (mkF m 178 _ [(.ref o0), (.ref o0)])) _
    refine st166 _ ?_
    show Steps _ _ _ (T166.setTop (mkF m 181 _ [(.ref sl_), (.ref o0)])) _
    refine XS.lload X166.here hx rfl (hb hby d7_181) rfl ?_
    refine XS.l2i X166.here hx rfl (hb hby d7_183) rfl ?_
    show Steps _ _ _ (T166.setTop (mkF m 184 _ [(.int (16 : Int64).toInt32), (.ref sl_), (.ref o0)])) _
    exact k)
  rw [show (16 : Int64).toInt32 = (16 : Int32) from by decide] at go167
  obtain ⟨_, _, ⟨T168, L168, k168, n168⟩, -, X168, ⟨Lc168, hQ168, l168, y168, z168⟩, st168⟩ := Jvm.LawKit.callS X166 hx (y := (⟨"java/util/Arrays", "copyOf", "([II)[I"⟩ : MethodName)) hown (mvT hZ (hw _ (List.mem_of_getElem? (i := 91) rfl))) (mvT hZ (hw _ (List.mem_of_getElem? (i := 92) rfl))) (mvT hZ (hw _ (List.mem_of_getElem? (i := 93) rfl))) (mvT hZ (hw _ (List.mem_of_getElem? (i := 94) rfl))) (by decide) (backOf (W := 1) (rm_cpy l Z a0 hw [] sl_ k5_ h147 n0 Z163 f161) hZ (hw _ (List.mem_of_getElem? (i := 94) rfl)) (hw _ (List.mem_of_getElem? (i := 93) rfl)) (by decide) (by decide)) (g := (mkF m 184 #[rv o0, iv 1, iv 0, iv 0, .val (.long ((0 : Int32).toInt64 + (1 : Int32).toInt64)), .second, .val (.long 16), .second] [(.int 16), (.ref sl_), (.ref o0)])) rfl (by rw [hml]; rfl) (argsL := [(.ref sl_), (.int 16)]) (rest := [(.ref o0)]) (lenOf pd_6 rfl) rfl (by show 2 * 0 + _ ≤ _; exact Nat.le_of_eq rfl) (hb hby d7_184) (fun _ _ => ⟨rfl, e166, (by decide : 1 + 1 ≤ _), (by decide : 16 + 16 ≤ _)⟩)
  dsimp only [Pt.U, Pt.locs, Pt.cells, Pt.slots] at X168 l168 y168 z168 st168 hQ168
  rw [l168, y168, z168] at X168
  obtain ⟨sl2, k52, hv168, N168q, gx2, zx2, Kx2, Vx2⟩ := hQ168
  rw [hv168] at st168
  have N168 := Fr.app N147 N168q
  have ne169 : o0 ≠ sl2 := Nat.ne_of_lt (Nat.lt_of_lt_of_le f148.lt zx2)
  have ne170 : st_ ≠ sl2 := Nat.ne_of_lt (Nat.lt_of_lt_of_le f157.lt zx2)
  have ne171 : dg_ ≠ sl2 := Nat.ne_of_lt (Nat.lt_of_lt_of_le f158.lt zx2)
  have ne172 : rm_ ≠ sl2 := Nat.ne_of_lt (Nat.lt_of_lt_of_le f159.lt zx2)
  have ne173 : it_ ≠ sl2 := Nat.ne_of_lt (Nat.lt_of_lt_of_le f160.lt zx2)
  have ne174 : sl_ ≠ sl2 := Nat.ne_of_lt (Nat.lt_of_lt_of_le f161.lt zx2)
  have ne175 : it2 ≠ sl2 := Nat.ne_of_lt (Nat.lt_of_lt_of_le f162.lt zx2)
  have f176 := f148.keep Kx2
  have f177 := f149.keep Kx2 nin0
  have f178 := f150.keep Kx2 nin0
  have f179 := f151.keep Kx2 nin0
  have f180 := f164.keep Kx2 nin0
  have f181 := f152.keep Kx2 nin0
  have f182 := f153.keep Kx2 nin0
  have f183 := f154.keep Kx2 nin0
  have f184 := f155.keep Kx2 nin0
  have f185 := f156.keep Kx2 nin0
  have f186 := f157.keep Kx2 nin0
  have f187 := f158.keep Kx2 nin0
  have f188 := f159.keep Kx2 nin0
  have f189 := f160.keep Kx2 nin0
  have f190 := f161.keep Kx2 nin0
  have f191 := f162.keep Kx2 nin0
  have Z192 := Nat.le_trans Z163 Kx2.1
  obtain ⟨T193, h193, X193, e193, W193, st193⟩ := putF X168 hx hZ hown (host := "") (Or.inl (hw _ (List.mem_of_getElem? (i := 52) rfl))) Via.refl rfl f181 f176 (Or.inl (hw _ (List.mem_of_getElem? (i := 53) rfl))) (hw _ (List.mem_of_getElem? (i := 1) rfl)) (ty := (.array .int)) (by decide) rfl rfl (g := (mkF m 187 #[rv o0, iv 1, iv 0, iv 0, .val (.long ((0 : Int32).toInt64 + (1 : Int32).toInt64)), .second, .val (.long 16), .second] [(.ref sl2), (.ref o0)])) rfl rfl (hb hby d7_187)
  have f194 := f176.wr W193
  have f195 := f177.other W193 (Or.inr (slot_ne (Or.inr (hw _ (List.mem_of_getElem? (i := 11) rfl))) (Or.inl (hw _ (List.mem_of_getElem? (i := 53) rfl))) (by decide) (t := (.array .int)) (t' := (.array .int)) (by decide) (by decide)))
  have f196 := f178.other W193 (Or.inr (slot_ne (Or.inr (hw _ (List.mem_of_getElem? (i := 13) rfl))) (Or.inl (hw _ (List.mem_of_getElem? (i := 53) rfl))) (by decide) (t := (.array .int)) (t' := (.array .int)) (by decide) (by decide)))
  have f197 := f179.other W193 (Or.inr (slot_ne (Or.inl (hw _ (List.mem_of_getElem? (i := 15) rfl))) (Or.inl (hw _ (List.mem_of_getElem? (i := 53) rfl))) (by decide) (t := (.array .int)) (t' := (.array .int)) (by decide) (by decide)))
  have f198 := f180.other W193 (Or.inr (slot_ne (Or.inl (hw _ (List.mem_of_getElem? (i := 17) rfl))) (Or.inl (hw _ (List.mem_of_getElem? (i := 53) rfl))) (by decide) (t := (.array .int)) (t' := (.array .int)) (by decide) (by decide)))
  have f199 := f182.other W193 (Or.inr (slot_ne (Or.inl (hw _ (List.mem_of_getElem? (i := 38) rfl))) (Or.inl (hw _ (List.mem_of_getElem? (i := 53) rfl))) (by decide) (t := .int) (t' := (.array .int)) (by decide) (by decide)))
  have f200 := f183.other W193 (Or.inr (slot_ne (Or.inl (hw _ (List.mem_of_getElem? (i := 44) rfl))) (Or.inl (hw _ (List.mem_of_getElem? (i := 53) rfl))) (by decide) (t := .int) (t' := (.array .int)) (by decide) (by decide)))
  have f201 := f184.other W193 (Or.inr (slot_ne (Or.inl (hw _ (List.mem_of_getElem? (i := 46) rfl))) (Or.inl (hw _ (List.mem_of_getElem? (i := 53) rfl))) (by decide) (t := .int) (t' := (.array .int)) (by decide) (by decide)))
  have f202 := f185.other W193 (Or.inr (slot_ne (Or.inl (hw _ (List.mem_of_getElem? (i := 28) rfl))) (Or.inl (hw _ (List.mem_of_getElem? (i := 53) rfl))) (by decide) (t := (.array .int)) (t' := (.array .int)) (by decide) (by decide)))
  have f203 := f186.other W193 (Ne.symm AN0_101)
  have f204 := f187.other W193 (Ne.symm AN1_101)
  have f205 := f188.other W193 (Ne.symm AN2_101)
  have f206 := f189.other W193 (Ne.symm AN3_101)
  have f207 := f190.other W193 (Ne.symm SN0_103)
  have f208 := f191.other W193 (Ne.symm ne125)
  have f209 := Vx2.other W193 (Ne.symm ne169)
  have Z210 := Nat.le_trans Z192 (Keep.of_wr W193).1
  have f211 := f181.same W193
  have N193 := Fr.snoc X193 N168 Ag0_101
  have go212 : ∀ t, Steps p.tables e below (T193.setTop (mkF m 191 #[rv o0, iv 1, iv 0, iv 0, .val (.long ((0 : Int32).toInt64 + (1 : Int32).toInt64)), .second, .val (.long 16), .second] [(.int 0)])) t → Steps p.tables e below O t := fun t k => go167 t (by
    refine st168 _ ?_
    show Steps _ _ _ (T168.setTop (mkF m 187 _ [(.ref sl2), (.ref o0)])) _
    refine st193 _ ?_
    show Steps _ _ _ (T193.setTop (mkF m 190 _ [])) _
    refine XS.iloadN X193.here hx rfl (hb hby d7_190) rfl ?_
    exact k)
  rw [hO] at go212
  obtain ⟨fs, hr, hrun, hended, hW, hsame⟩ := X193.leave (v := some (.int 0)) (fun h => by rw [Bd.returns] at h; cases h)
  refine ⟨_, _, go212 _ ?_, hrun, hended, _, _, rfl, ?_, ⟨_, rfl⟩, hW, hsame.mono (by decide) (by decide)⟩
  · exact retN X193 hx (t := .boolean) Bd.returns (by simp) (hb hby d7_191) hr
  · show Q_mkg Z o0 st_ dg_ rm_ it_ k1_ k2_ k3_ k4_ sl_ k5_ h0 n0 _ T193.heap _
    rw [e193]
    exact ⟨it2, sl2, k42, k52, rfl, N193, ⟨f194, Ag0_101, Ag1_101, Ag2_101, Ag3_101, gx1, f195, f196, f197, f198, f211, f199, f200, f201, f202, f203, f204, f205, f208, AN0_101, AN1_101, AN2_101, ne125, AN4_101, AN5_101, ne126, AN7_101, ne127, ne128⟩, ⟨gx2, f209, ne169, ne170, ne171, ne172, ne175⟩⟩
theorem ef_grg (m : MethodId) (x0 : Addr) (x1 : Int32) : entryFrame m #[(.ref x0), (.int x1)] 5 = mkF m 0 #[rv x0, iv x1, .unset, .unset, .unset] [] := by first | (simp [entryFrame, mkF, argsToLocals, Value.category]; done) | rfl
def Q_grg (Z : State) (o0 : Addr) (st_ : Addr) (dg_ : Addr) (rm_ : Addr) (it_ : Addr) (k1_ : ClassId) (k2_ : ClassId) (k3_ : ClassId) (k4_ : ClassId) (sl_ : Addr) (k5_ : ClassId) (h0 : Heap) (n0 : Nat) (v : Option Value) (h : Heap) (L : List Loc) : Prop := ∃ (it2 sl2 : Addr) (k42 k52 : ClassId), v = none ∧ Fr n0 L ∧ own_A Z h n0 o0 st_ dg_ rm_ it2 k1_ k2_ k3_ k42 (16 : Int32) [.int (0 : Int32), .int (0 : Int32), .int (0 : Int32), .int (0 : Int32), .int (0 : Int32), .int (0 : Int32), .int (0 : Int32), .int (0 : Int32), .int (0 : Int32), .int (0 : Int32), .int (0 : Int32), .int (0 : Int32), .int (0 : Int32), .int (0 : Int32), .int (0 : Int32), .int (0 : Int32)] (.ref sl2) (0 : Int32) (1 : Int32) (1 : Int32) (1 : Int32) (0 : Int32) ∧ own_S Z h n0 sl2 k52 (16 : Int32) [.int (0 : Int32), .int (0 : Int32), .int (0 : Int32), .int (0 : Int32), .int (0 : Int32), .int (0 : Int32), .int (0 : Int32), .int (0 : Int32), .int (0 : Int32), .int (0 : Int32), .int (0 : Int32), .int (0 : Int32), .int (0 : Int32), .int (0 : Int32), .int (0 : Int32), .int (0 : Int32)] o0 st_ dg_ rm_ it2
set_option maxRecDepth 65536 in
set_option maxHeartbeats 40000000 in
theorem rm_grg (l : Launch) (Z : State) (a0 : Array Value) (hw : ∀ d ∈ tables_1, d.before a0 Z = true) (ws : List Jvm.Cond) (o0 : Addr) (st_ : Addr) (dg_ : Addr) (rm_ : Addr) (it_ : Addr) (k1_ : ClassId) (k2_ : ClassId) (k3_ : ClassId) (k4_ : ClassId) (sl_ : Addr) (k5_ : ClassId) (h0 : Heap) (n0 : Nat) (Z0 : n0 ≤ h0.size) (H : own_A Z h0 n0 o0 st_ dg_ rm_ it_ k1_ k2_ k3_ k4_ (0 : Int32) [] (.ref sl_) (0 : Int32) (0 : Int32) (0 : Int32) (0 : Int32) (0 : Int32)) (HS : own_S Z h0 n0 sl_ k5_ (0 : Int32) [] o0 st_ dg_ rm_ it_) :
    MetFree l (⟨"com/example/plebiscite/plebiscite/Adjacency", "growBlock", "(I)V"⟩ : MethodName) (head1 (Jvm.Cond.code (⟨"com/example/plebiscite/plebiscite/Adjacency", "growBlock", "(I)V"⟩ : MethodName) prog_2_method_20_code 5 none :: ws) ({ frames := 3, cells := 2, slots := 32, locals := 52 } : Room)) (fun a U => a = #[(.ref o0), (.int 0)] ∧ Z.Warmed39 U.vm ∧ U.heap = h0) (fun _ _ _ _ _ => True) (fun _ U o U' => ∃ v L, o = .returned v ∧ Q_grg Z o0 st_ dg_ rm_ it_ k1_ k2_ k3_ k4_ sl_ k5_ h0 n0 v U'.heap L ∧ FrameEnd U o U' L ({ frames := 3, cells := 2, slots := 32, locals := 52 } : Room).cells ({ frames := 3, cells := 2, slots := 32, locals := 52 } : Room).slots) := by
  refine MetFree.of_bodySF (plainFor_of_name pn_0) hisR ?_
  intro p e s m args below meth c s₁ Bd hml0 hP hK
  obtain ⟨rfl, hZ, hh⟩ := hP
  have hx := Bd.exec
  have hby := Bd.bytes
  have hml : c.maxLocals = 5 := hml0
  have hown : s.vm.findClass "com/example/plebiscite/plebiscite/Adjacency" = some m.cls := findClass_of_methodNamed Bd.named
  have hnm := (name_of_methodNamed Bd.named Bd.method).1
  have X0 : Stand p l e ({ frames := 3, cells := 2, slots := 32, locals := 52 } : Room) s m #[(.ref o0), (.int 0)] below meth c s₁ [] 0 0 := Stand.of_body Bd
  have e0 : s₁.heap = h0 := by rw [← hh, Bd.state]; rfl
  have N0 := Fr.nil n0
  have go0 : ∀ t, Steps p.tables e below (s₁.setTop (mkF m 0 #[rv o0, iv 0, .unset, .unset, .unset] [])) t → Steps p.tables e below (s₁.setTop (entryFrame m #[(.ref o0), (.int 0)] 5)) t := fun t k => castTop (ef_grg m o0 (0 : Int32)) k
  obtain ⟨O, hO⟩ : ∃ z, z = (s₁.setTop (entryFrame m #[(.ref o0), (.int 0)] 5)) := ⟨_, rfl⟩
  rw [← hO] at go0
  obtain ⟨AX_101, Ag0_101, Ag1_101, Ag2_101, Ag3_101, Ag4_101, AF0_101, AF1_101, AF2_101, AF3_101, AF4_101, AF5_101, AF6_101, AF7_101, AF8_101, AV0_101, AV1_101, AV2_101, AV3_101, AN0_101, AN1_101, AN2_101, AN3_101, AN4_101, AN5_101, AN6_101, AN7_101, AN8_101, AN9_101⟩ := H
  have Z102 := Nat.le_trans Ag0_101 (Nat.le_of_lt AX_101.lt)
  obtain ⟨SG_103, SV_103, SN0_103, SN1_103, SN2_103, SN3_103, SN4_103⟩ := HS
  obtain ⟨T104, X104, e104, st104⟩ := getF X0 hx hZ hown (host := "") (Or.inl (hw _ (List.mem_of_getElem? (i := 12) rfl))) Via.refl e0 AF1_101 (g := (mkF m 3 #[rv o0, iv 0, .unset, .unset, .unset] [(.ref o0), (.int 2), (.int 1)])) rfl rfl (hb hby d8_3)
  obtain ⟨cl105, Ar105, q105, S105, M105, Hs105, G105⟩ := AV1_101
  have f106 : Arv Z h0 dg_ k2_ .int (1 : Int32) [(.int 0)] (.int 0) := ⟨cl105, Ar105, q105, S105, M105, Hs105, G105⟩
  have hin107 : ¬ ((0 : Int32) < 0 ∨ cl105.slots.size ≤ ((0 : Int32)).toNatClampNeg) := inb_of S105 ⟨by decide, by decide⟩
  have hat107 : cl105.slots[((0 : Int32)).toNatClampNeg]? = some (.int 0) := Hs105.at hin107 rfl
  obtain ⟨_, _, ⟨T108, L108, k108, n108⟩, -, X108, ⟨Lc108, hQ108, l108, y108, z108⟩, st108⟩ := Jvm.LawKit.callS X104 hx (y := (⟨"java/lang/Math", "max", "(II)I"⟩ : MethodName)) hown (mvT hZ (hw _ (List.mem_of_getElem? (i := 33) rfl))) (mvT hZ (hw _ (List.mem_of_getElem? (i := 34) rfl))) (mvT hZ (hw _ (List.mem_of_getElem? (i := 35) rfl))) (mvT hZ (hw _ (List.mem_of_getElem? (i := 36) rfl))) (by decide) (backOf (W := 0) (rm_mxI l Z a0 hw [] (1 : Int32) ((2 : Int32) * (0 : Int32))  h0 n0 Z102 ) hZ (hw _ (List.mem_of_getElem? (i := 36) rfl)) (hw _ (List.mem_of_getElem? (i := 35) rfl)) (by decide) (by decide)) (g := (mkF m 9 #[rv o0, iv 0, .unset, .unset, .unset] [(.int ((2 : Int32) * (0 : Int32))), (.int 1)])) rfl (by rw [hml]; rfl) (argsL := [(.int 1), (.int ((2 : Int32) * (0 : Int32)))]) (rest := []) (lenOf pd_2 rfl) rfl (by show 2 * 0 + _ ≤ _; exact Nat.le_of_eq rfl) (hb hby d8_9) (fun _ _ => ⟨rfl, e104, (by decide : 0 + 0 ≤ _), (by decide : 0 + 0 ≤ _)⟩)
  dsimp only [Pt.U, Pt.locs, Pt.cells, Pt.slots] at X108 l108 y108 z108 st108 hQ108
  rw [l108, y108, z108] at X108
  obtain ⟨hv108, N108q, eX1⟩ := hQ108
  rw [hv108] at st108
  have N108 := Fr.app N0 N108q
  have go109 : ∀ t, Steps p.tables e below (T108.setTop (mkF m 13 #[rv o0, iv 0, iv (own_max (1 : Int32) ((2 : Int32) * (0 : Int32))), .unset, .unset] [])) t → Steps p.tables e below O t := fun t k => go0 t (by
    refine XS.iconst X0.here hx rfl (hb hby d8_0) ?_
    refine XS.iconst X0.here hx rfl (hb hby d8_1) ?_
    show Steps _ _ _ (s₁.setTop (mkF m 2 _ [(.int 2), (.int 1)])) _
    refine XS.aloadN X0.here hx rfl (hb hby d8_2) rfl rfl ?_
    refine st104 _ ?_
    show Steps _ _ _ (T104.setTop (mkF m 6 _ [(.ref dg_), (.int 2), (.int 1)])) _
    refine XS.iloadN X104.here hx rfl (hb hby d8_6) rfl ?_
    refine X104.iaload hx (j := (0 : Int32)) (v := (.int 0)) (by rw [e104]; exact Ar105.1) (State.isArrayOf_alike hZ.alike Ar105.2.1) Ar105.2.2 hin107 hat107 (g := (mkF m 7 #[rv o0, iv 0, .unset, .unset, .unset] [(.int 0), (.ref dg_), (.int 2), (.int 1)])) rfl rfl (hb hby d8_7) _ ?_
    show Steps _ _ _ (T104.setTop (mkF m 8 _ [(.int 0), (.int 2), (.int 1)])) _
    refine XS.imul X104.here hx rfl (hb hby d8_8) rfl ?_
    refine st108 _ ?_
    show Steps _ _ _ (T108.setTop (mkF m 12 _ [(.int (own_max (1 : Int32) ((2 : Int32) * (0 : Int32))))])) _
    refine XS.istoreN X108.here hx rfl (hb hby d8_12) rfl (l' := #[rv o0, iv 0, iv (own_max (1 : Int32) ((2 : Int32) * (0 : Int32))), .unset, .unset]) rfl ?_
    show Steps _ _ _ (T108.setTop (mkF m 13 _ [])) _
    exact k)
  obtain ⟨mv_, hmv⟩ : ∃ z : Int32, z = (own_max (1 : Int32) ((2 : Int32) * (0 : Int32))) := ⟨_, rfl⟩
  rw [← hmv] at go109
  obtain ⟨T110, X110, e110, st110⟩ := getF X108 hx hZ hown (host := "") (Or.inl (hw _ (List.mem_of_getElem? (i := 10) rfl))) Via.refl eX1 AF0_101 (g := (mkF m 14 #[rv o0, iv 0, iv mv_, .unset, .unset] [(.ref o0)])) rfl rfl (hb hby d8_14)
  obtain ⟨cl111, Ar111, q111, S111, M111, Hs111, G111⟩ := AV0_101
  have f112 : Arv Z h0 st_ k1_ .int (1 : Int32) [(.int 0)] (.int 0) := ⟨cl111, Ar111, q111, S111, M111, Hs111, G111⟩
  have hin113 : ¬ ((0 : Int32) < 0 ∨ cl111.slots.size ≤ ((0 : Int32)).toNatClampNeg) := inb_of S111 ⟨by decide, by decide⟩
  have hat113 : cl111.slots[((0 : Int32)).toNatClampNeg]? = some (.int 0) := Hs111.at hin113 rfl
  obtain ⟨T114, X114, e114, st114⟩ := getF X110 hx hZ hown (host := "") (Or.inl (hw _ (List.mem_of_getElem? (i := 14) rfl))) Via.refl e110 AF2_101 (g := (mkF m 20 #[rv o0, iv 0, iv mv_, .unset, .unset] [(.ref o0), (.int 0)])) rfl rfl (hb hby d8_20)
  obtain ⟨cl115, Ar115, q115, S115, M115, Hs115, G115⟩ := AV2_101
  have f116 : Arv Z h0 rm_ k3_ .int (1 : Int32) [(.int 0)] (.int 0) := ⟨cl115, Ar115, q115, S115, M115, Hs115, G115⟩
  have hin117 : ¬ ((0 : Int32) < 0 ∨ cl115.slots.size ≤ ((0 : Int32)).toNatClampNeg) := inb_of S115 ⟨by decide, by decide⟩
  have hat117 : cl115.slots[((0 : Int32)).toNatClampNeg]? = some (.int 0) := Hs115.at hin117 rfl
  obtain ⟨T118, X118, e118, st118⟩ := getF X114 hx hZ hown (host := "") (Or.inl (hw _ (List.mem_of_getElem? (i := 37) rfl))) Via.refl e114 AF5_101 (g := (mkF m 27 #[rv o0, iv 0, iv mv_, .unset, .unset] [(.ref o0), (.int ((0 : Int32) + (0 : Int32)))])) rfl rfl (hb hby d8_27)
  obtain ⟨cq119, qc119, qd119⟩ := AX_101.cell
  obtain ⟨_, _, ⟨T119, L119, k119, n119⟩, -, X119, ⟨Lc119, hQ119, l119, y119, z119⟩, st119⟩ := X118.privateBack hx (y := (⟨"com/example/plebiscite/plebiscite/Adjacency", "makeRoom", "(I)Z"⟩ : MethodName)) hown (mvT hZ (hw _ (List.mem_of_getElem? (i := 39) rfl))) (mvT hZ (hw _ (List.mem_of_getElem? (i := 40) rfl))) (mvT hZ (own_selects (y := (⟨"com/example/plebiscite/plebiscite/Adjacency", "makeRoom", "(I)Z"⟩ : MethodName)) (z := (⟨"com/example/plebiscite/plebiscite/Adjacency", "add", "(II)V"⟩ : MethodName)) rfl (hw _ (List.mem_of_getElem? (i := 41) rfl)) (hw _ (List.mem_of_getElem? (i := 40) rfl)) (hw _ (List.mem_of_getElem? (i := 21) rfl)) (by decide))) (Cond.privateMethod_at (mvP hZ (hw _ (List.mem_of_getElem? (i := 41) rfl)) (args := #[]))) (mvT hZ (hw _ (List.mem_of_getElem? (i := 42) rfl))) (by decide) (backOf (W := 0) (rm_mkg l Z a0 hw [] o0 st_ dg_ rm_ it_ k1_ k2_ k3_ k4_ sl_ k5_ h0 n0 Z102 ⟨AX_101, Ag0_101, Ag1_101, Ag2_101, Ag3_101, Ag4_101, AF0_101, AF1_101, AF2_101, AF3_101, AF4_101, AF5_101, AF6_101, AF7_101, AF8_101, f112, f106, f116, AV3_101, AN0_101, AN1_101, AN2_101, AN3_101, AN4_101, AN5_101, AN6_101, AN7_101, AN8_101, AN9_101⟩ ⟨SG_103, SV_103, SN0_103, SN1_103, SN2_103, SN3_103, SN4_103⟩) hZ (hw _ (List.mem_of_getElem? (i := 42) rfl)) (hw _ (List.mem_of_getElem? (i := 2) rfl)) (by decide) (by decide)) (g := (mkF m 49 #[rv o0, iv 0, iv mv_, iv 1, .unset] [(.int 1), (.ref o0)])) rfl (by rw [hml]; rfl) (Steps.refl _) (a := o0) (by rw [e118]; exact qc119) qd119 (argsL := [(.int 1)]) (rest := []) (lenOf pd_3 rfl) rfl (by show 2 * 0 + _ ≤ _; exact Nat.le_of_eq rfl) (hb hby d8_49) (fun _ _ => ⟨rfl, e118, (by decide : 0 + 2 ≤ _), (by decide : 0 + 32 ≤ _)⟩)
  dsimp only [Pt.U, Pt.locs, Pt.cells, Pt.slots] at X119 l119 y119 z119 st119 hQ119
  rw [l119, y119, z119] at X119
  obtain ⟨it2, sl2, k42, k52, hv119, N119q, HA, HB⟩ := hQ119
  rw [hv119] at st119
  have N119 := Fr.app N108 N119q
  obtain ⟨AX_120, Ag0_120, Ag1_120, Ag2_120, Ag3_120, Ag4_120, AF0_120, AF1_120, AF2_120, AF3_120, AF4_120, AF5_120, AF6_120, AF7_120, AF8_120, AV0_120, AV1_120, AV2_120, AV3_120, AN0_120, AN1_120, AN2_120, AN3_120, AN4_120, AN5_120, AN6_120, AN7_120, AN8_120, AN9_120⟩ := HA
  have Z121 := Nat.le_trans Ag0_120 (Nat.le_of_lt AX_120.lt)
  obtain ⟨SG_122, SV_122, SN0_122, SN1_122, SN2_122, SN3_122, SN4_122⟩ := HB
  obtain ⟨T123, X123, e123, st123⟩ := getF X119 hx hZ hown (host := "") (Or.inl (hw _ (List.mem_of_getElem? (i := 10) rfl))) Via.refl rfl AF0_120 (g := (mkF m 64 #[rv o0, iv 0, iv mv_, iv 1, iv 0] [(.ref o0)])) rfl rfl (hb hby d8_64)
  obtain ⟨cl124, Ar124, q124, S124, M124, Hs124, G124⟩ := AV0_120
  have f125 : Arv Z T119.heap st_ k1_ .int (1 : Int32) [(.int 0)] (.int 0) := ⟨cl124, Ar124, q124, S124, M124, Hs124, G124⟩
  have hin126 : ¬ ((0 : Int32) < 0 ∨ cl124.slots.size ≤ ((0 : Int32)).toNatClampNeg) := inb_of S124 ⟨by decide, by decide⟩
  have hat126 : cl124.slots[((0 : Int32)).toNatClampNeg]? = some (.int 0) := Hs124.at hin126 rfl
  obtain ⟨T127, X127, e127, st127⟩ := getF X123 hx hZ hown (host := "") (Or.inl (hw _ (List.mem_of_getElem? (i := 14) rfl))) Via.refl e123 AF2_120 (g := (mkF m 70 #[rv o0, iv 0, iv mv_, iv 1, iv 0] [(.ref o0), (.int 0)])) rfl rfl (hb hby d8_70)
  obtain ⟨cl128, Ar128, q128, S128, M128, Hs128, G128⟩ := AV2_120
  have f129 : Arv Z T119.heap rm_ k3_ .int (1 : Int32) [(.int 0)] (.int 0) := ⟨cl128, Ar128, q128, S128, M128, Hs128, G128⟩
  have hin130 : ¬ ((0 : Int32) < 0 ∨ cl128.slots.size ≤ ((0 : Int32)).toNatClampNeg) := inb_of S128 ⟨by decide, by decide⟩
  have hat130 : cl128.slots[((0 : Int32)).toNatClampNeg]? = some (.int 0) := Hs128.at hin130 rfl
  obtain ⟨T131, X131, e131, st131⟩ := getF X127 hx hZ hown (host := "") (Or.inl (hw _ (List.mem_of_getElem? (i := 37) rfl))) Via.refl e127 AF5_120 (g := (mkF m 77 #[rv o0, iv 0, iv mv_, iv 1, iv 0] [(.ref o0), (.int ((0 : Int32) + (0 : Int32)))])) rfl rfl (hb hby d8_77)
  obtain ⟨T132, X132, e132, st132⟩ := getF X131 hx hZ hown (host := "") (Or.inl (hw _ (List.mem_of_getElem? (i := 10) rfl))) Via.refl e131 AF0_120 (g := (mkF m 96 #[rv o0, iv 0, iv mv_, iv 1, iv 0] [(.ref o0)])) rfl rfl (hb hby d8_96)
  obtain ⟨cl133, Ar133, q133, S133, M133, Hs133, G133⟩ := f125
  have f134 : Arv Z T119.heap st_ k1_ .int (1 : Int32) [(.int 0)] (.int 0) := ⟨cl133, Ar133, q133, S133, M133, Hs133, G133⟩
  have hin135 : ¬ ((0 : Int32) < 0 ∨ cl133.slots.size ≤ ((0 : Int32)).toNatClampNeg) := inb_of S133 ⟨by decide, by decide⟩
  have hat135 : cl133.slots[((0 : Int32)).toNatClampNeg]? = some (.int 0) := Hs133.at hin135 rfl
  obtain ⟨T136, X136, e136, st136⟩ := getF X132 hx hZ hown (host := "") (Or.inl (hw _ (List.mem_of_getElem? (i := 14) rfl))) Via.refl e132 AF2_120 (g := (mkF m 102 #[rv o0, iv 0, iv mv_, iv 1, iv 0] [(.ref o0), (.int 0)])) rfl rfl (hb hby d8_102)
  obtain ⟨cl137, Ar137, q137, S137, M137, Hs137, G137⟩ := f129
  have f138 : Arv Z T119.heap rm_ k3_ .int (1 : Int32) [(.int 0)] (.int 0) := ⟨cl137, Ar137, q137, S137, M137, Hs137, G137⟩
  have hin139 : ¬ ((0 : Int32) < 0 ∨ cl137.slots.size ≤ ((0 : Int32)).toNatClampNeg) := inb_of S137 ⟨by decide, by decide⟩
  have hat139 : cl137.slots[((0 : Int32)).toNatClampNeg]? = some (.int 0) := Hs137.at hin139 rfl
  obtain ⟨T140, X140, e140, st140⟩ := getF X136 hx hZ hown (host := "") (Or.inl (hw _ (List.mem_of_getElem? (i := 37) rfl))) Via.refl e136 AF5_120 (g := (mkF m 109 #[rv o0, iv 0, iv mv_, iv 1, iv 0] [(.ref o0), (.int ((0 : Int32) + (0 : Int32)))])) rfl rfl (hb hby d8_109)
  obtain ⟨T141, X141, e141, st141⟩ := getF X140 hx hZ hown (host := "") (Or.inl (hw _ (List.mem_of_getElem? (i := 14) rfl))) Via.refl e140 AF2_120 (g := (mkF m 116 #[rv o0, iv 0, iv mv_, iv 1, iv 0] [(.ref o0)])) rfl rfl (hb hby d8_116)
  obtain ⟨cl142, Ar142, q142, S142, M142, Hs142, G142⟩ := f138
  have f143 : Arv Z T119.heap rm_ k3_ .int (1 : Int32) [(.int 0)] (.int 0) := ⟨cl142, Ar142, q142, S142, M142, Hs142, G142⟩
  have hin144 : ¬ ((0 : Int32) < 0 ∨ cl142.slots.size ≤ ((0 : Int32)).toNatClampNeg) := inb_of S142 ⟨by decide, by decide⟩
  have hat144 : cl142.slots[((0 : Int32)).toNatClampNeg]? = some (.int 0) := Hs142.at hin144 rfl
  obtain ⟨cl145, Ar145, q145, S145, M145, Hs145, G145⟩ := f143
  have f146 : Arv Z T119.heap rm_ k3_ .int (1 : Int32) [(.int 0)] (.int 0) := ⟨cl145, Ar145, q145, S145, M145, Hs145, G145⟩
  have hin147 : ¬ ((0 : Int32) < 0 ∨ cl145.slots.size ≤ ((0 : Int32)).toNatClampNeg) := inb_of S145 ⟨by decide, by decide⟩
  obtain ⟨T147, h147, X147, e147, W147, st147⟩ := stI X141 hx hZ e141 Ar145 (j := (0 : Int32)) hin147 (g := (mkF m 124 #[rv o0, iv 0, iv mv_, iv 1, iv 0] [(.int ((0 : Int32) + (1 : Int32))), (.int 0), (.ref rm_)])) rfl rfl (hb hby d8_124)
  have f148 := AX_120.wr W147
  have f149 := AF0_120.other W147 (Or.inl AN2_120)
  have f150 := AF1_120.other W147 (Or.inl AN2_120)
  have f151 := AF2_120.other W147 (Or.inl AN2_120)
  have f152 := AF3_120.other W147 (Or.inl AN2_120)
  have f153 := AF4_120.other W147 (Or.inl AN2_120)
  have f154 := AF5_120.other W147 (Or.inl AN2_120)
  have f155 := AF6_120.other W147 (Or.inl AN2_120)
  have f156 := AF7_120.other W147 (Or.inl AN2_120)
  have f157 := AF8_120.other W147 (Or.inl AN2_120)
  have f158 := f134.other W147 AN5_120
  have f159 := AV1_120.other W147 AN7_120
  have f160 := AV3_120.other W147 (Ne.symm AN9_120)
  have f161 := SV_122.other W147 (Ne.symm SN3_122)
  have Z162 := Nat.le_trans Z121 (Keep.of_wr W147).1
  have V147 : Arv Z h147 rm_ k3_ .int (1 : Int32) [(.int ((0 : Int32) + (1 : Int32)))] (.int 0) := Arv.set Ar145 q145 S145 M145 Hs145 G145 rfl W147 0 rfl (Nat.le_of_ble_eq_true rfl)
  have N147 := Fr.snoc X147 N119 Ag3_120
  obtain ⟨T163, X163, e163, st163⟩ := getF X147 hx hZ hown (host := "") (Or.inl (hw _ (List.mem_of_getElem? (i := 37) rfl))) Via.refl e147 f154 (g := (mkF m 127 #[rv o0, iv 0, iv mv_, iv 1, iv 0] [(.ref o0), (.ref o0)])) rfl rfl (hb hby d8_127)
  obtain ⟨T164, h164, X164, e164, W164, st164⟩ := putF X163 hx hZ hown (host := "") (Or.inl (hw _ (List.mem_of_getElem? (i := 37) rfl))) Via.refl e163 f154 f148 (Or.inl (hw _ (List.mem_of_getElem? (i := 38) rfl))) (hw _ (List.mem_of_getElem? (i := 1) rfl)) (ty := .int) (by decide) rfl rfl (g := (mkF m 132 #[rv o0, iv 0, iv mv_, iv 1, iv 0] [(.int ((0 : Int32) + (1 : Int32))), (.ref o0)])) rfl rfl (hb hby d8_132)
  have f165 := f148.wr W164
  have f166 := f149.other W164 (Or.inr (slot_ne (Or.inr (hw _ (List.mem_of_getElem? (i := 11) rfl))) (Or.inl (hw _ (List.mem_of_getElem? (i := 38) rfl))) (by decide) (t := (.array .int)) (t' := .int) (by decide) (by decide)))
  have f167 := f150.other W164 (Or.inr (slot_ne (Or.inr (hw _ (List.mem_of_getElem? (i := 13) rfl))) (Or.inl (hw _ (List.mem_of_getElem? (i := 38) rfl))) (by decide) (t := (.array .int)) (t' := .int) (by decide) (by decide)))
  have f168 := f151.other W164 (Or.inr (slot_ne (Or.inl (hw _ (List.mem_of_getElem? (i := 15) rfl))) (Or.inl (hw _ (List.mem_of_getElem? (i := 38) rfl))) (by decide) (t := (.array .int)) (t' := .int) (by decide) (by decide)))
  have f169 := f152.other W164 (Or.inr (slot_ne (Or.inl (hw _ (List.mem_of_getElem? (i := 17) rfl))) (Or.inl (hw _ (List.mem_of_getElem? (i := 38) rfl))) (by decide) (t := (.array .int)) (t' := .int) (by decide) (by decide)))
  have f170 := f153.other W164 (Or.inr (slot_ne (Or.inl (hw _ (List.mem_of_getElem? (i := 53) rfl))) (Or.inl (hw _ (List.mem_of_getElem? (i := 38) rfl))) (by decide) (t := (.array .int)) (t' := .int) (by decide) (by decide)))
  have f171 := f155.other W164 (Or.inr (slot_ne (Or.inl (hw _ (List.mem_of_getElem? (i := 44) rfl))) (Or.inl (hw _ (List.mem_of_getElem? (i := 38) rfl))) (by decide) (t := .int) (t' := .int) (by decide) (by decide)))
  have f172 := f156.other W164 (Or.inr (slot_ne (Or.inl (hw _ (List.mem_of_getElem? (i := 46) rfl))) (Or.inl (hw _ (List.mem_of_getElem? (i := 38) rfl))) (by decide) (t := .int) (t' := .int) (by decide) (by decide)))
  have f173 := f157.other W164 (Or.inr (slot_ne (Or.inl (hw _ (List.mem_of_getElem? (i := 28) rfl))) (Or.inl (hw _ (List.mem_of_getElem? (i := 38) rfl))) (by decide) (t := (.array .int)) (t' := .int) (by decide) (by decide)))
  have f174 := f158.other W164 (Ne.symm AN0_120)
  have f175 := f159.other W164 (Ne.symm AN1_120)
  have f176 := V147.other W164 (Ne.symm AN2_120)
  have f177 := f160.other W164 (Ne.symm AN3_120)
  have f178 := f161.other W164 (Ne.symm SN0_122)
  have Z179 := Nat.le_trans Z162 (Keep.of_wr W164).1
  have f180 := f154.same W164
  have N164 := Fr.snoc X164 N147 Ag0_120
  obtain ⟨T181, X181, e181, st181⟩ := getF X164 hx hZ hown (host := "") (Or.inl (hw _ (List.mem_of_getElem? (i := 43) rfl))) Via.refl e164 f171 (g := (mkF m 137 #[rv o0, iv 0, iv mv_, iv 1, iv 0] [(.ref o0), (.ref o0)])) rfl rfl (hb hby d8_137)
  obtain ⟨T182, h182, X182, e182, W182, st182⟩ := putF X181 hx hZ hown (host := "") (Or.inl (hw _ (List.mem_of_getElem? (i := 43) rfl))) Via.refl e181 f171 f165 (Or.inl (hw _ (List.mem_of_getElem? (i := 44) rfl))) (hw _ (List.mem_of_getElem? (i := 1) rfl)) (ty := .int) (by decide) rfl rfl (g := (mkF m 142 #[rv o0, iv 0, iv mv_, iv 1, iv 0] [(.int ((0 : Int32) + (1 : Int32))), (.ref o0)])) rfl rfl (hb hby d8_142)
  have f183 := f165.wr W182
  have f184 := f166.other W182 (Or.inr (slot_ne (Or.inr (hw _ (List.mem_of_getElem? (i := 11) rfl))) (Or.inl (hw _ (List.mem_of_getElem? (i := 44) rfl))) (by decide) (t := (.array .int)) (t' := .int) (by decide) (by decide)))
  have f185 := f167.other W182 (Or.inr (slot_ne (Or.inr (hw _ (List.mem_of_getElem? (i := 13) rfl))) (Or.inl (hw _ (List.mem_of_getElem? (i := 44) rfl))) (by decide) (t := (.array .int)) (t' := .int) (by decide) (by decide)))
  have f186 := f168.other W182 (Or.inr (slot_ne (Or.inl (hw _ (List.mem_of_getElem? (i := 15) rfl))) (Or.inl (hw _ (List.mem_of_getElem? (i := 44) rfl))) (by decide) (t := (.array .int)) (t' := .int) (by decide) (by decide)))
  have f187 := f169.other W182 (Or.inr (slot_ne (Or.inl (hw _ (List.mem_of_getElem? (i := 17) rfl))) (Or.inl (hw _ (List.mem_of_getElem? (i := 44) rfl))) (by decide) (t := (.array .int)) (t' := .int) (by decide) (by decide)))
  have f188 := f170.other W182 (Or.inr (slot_ne (Or.inl (hw _ (List.mem_of_getElem? (i := 53) rfl))) (Or.inl (hw _ (List.mem_of_getElem? (i := 44) rfl))) (by decide) (t := (.array .int)) (t' := .int) (by decide) (by decide)))
  have f189 := f180.other W182 (Or.inr (slot_ne (Or.inl (hw _ (List.mem_of_getElem? (i := 38) rfl))) (Or.inl (hw _ (List.mem_of_getElem? (i := 44) rfl))) (by decide) (t := .int) (t' := .int) (by decide) (by decide)))
  have f190 := f172.other W182 (Or.inr (slot_ne (Or.inl (hw _ (List.mem_of_getElem? (i := 46) rfl))) (Or.inl (hw _ (List.mem_of_getElem? (i := 44) rfl))) (by decide) (t := .int) (t' := .int) (by decide) (by decide)))
  have f191 := f173.other W182 (Or.inr (slot_ne (Or.inl (hw _ (List.mem_of_getElem? (i := 28) rfl))) (Or.inl (hw _ (List.mem_of_getElem? (i := 44) rfl))) (by decide) (t := (.array .int)) (t' := .int) (by decide) (by decide)))
  have f192 := f174.other W182 (Ne.symm AN0_120)
  have f193 := f175.other W182 (Ne.symm AN1_120)
  have f194 := f176.other W182 (Ne.symm AN2_120)
  have f195 := f177.other W182 (Ne.symm AN3_120)
  have f196 := f178.other W182 (Ne.symm SN0_122)
  have Z197 := Nat.le_trans Z179 (Keep.of_wr W182).1
  have f198 := f171.same W182
  have N182 := Fr.snoc X182 N164 Ag0_120
  have go199 : ∀ t, Steps p.tables e below (T182.setTop (mkF m 258 #[rv o0, iv 0, iv mv_, iv 1, iv 0] [])) t → Steps p.tables e below O t := fun t k => go109 t (by
    refine XS.aloadN X108.here hx rfl (hb hby d8_13) rfl rfl ?_
    refine st110 _ ?_
    show Steps _ _ _ (T110.setTop (mkF m 17 _ [(.ref st_)])) _
    refine XS.iloadN X110.here hx rfl (hb hby d8_17) rfl ?_
    refine X110.iaload hx (j := (0 : Int32)) (v := (.int 0)) (by rw [e110]; exact Ar111.1) (State.isArrayOf_alike hZ.alike Ar111.2.1) Ar111.2.2 hin113 hat113 (g := (mkF m 18 #[rv o0, iv 0, iv mv_, .unset, .unset] [(.int 0), (.ref st_)])) rfl rfl (hb hby d8_18) _ ?_
    show Steps _ _ _ (T110.setTop (mkF m 19 _ [(.int 0)])) _
    refine XS.aloadN X110.here hx rfl (hb hby d8_19) rfl rfl ?_
    refine st114 _ ?_
    show Steps _ _ _ (T114.setTop (mkF m 23 _ [(.ref rm_), (.int 0)])) _
    refine XS.iloadN X114.here hx rfl (hb hby d8_23) rfl ?_
    refine X114.iaload hx (j := (0 : Int32)) (v := (.int 0)) (by rw [e114]; exact Ar115.1) (State.isArrayOf_alike hZ.alike Ar115.2.1) Ar115.2.2 hin117 hat117 (g := (mkF m 24 #[rv o0, iv 0, iv mv_, .unset, .unset] [(.int 0), (.ref rm_), (.int 0)])) rfl rfl (hb hby d8_24) _ ?_
    show Steps _ _ _ (T114.setTop (mkF m 25 _ [(.int 0), (.int 0)])) _
    refine XS.iadd X114.here hx rfl (hb hby d8_25) rfl ?_
    refine XS.aloadN X114.here hx rfl (hb hby d8_26) rfl rfl ?_
    show Steps _ _ _ (T114.setTop (mkF m 27 _ [(.ref o0), (.int ((0 : Int32) + (0 : Int32)))])) _
    refine st118 _ ?_
    show Steps _ _ _ (T118.setTop (mkF m 30 _ [(.int 0), (.int ((0 : Int32) + (0 : Int32)))])) _
    refine XS.icmpNo X118.here hx rfl (hb hby d8_30) rfl (teq (Int32.zero_add (0 : Int32) : ((0 : Int32) + (0 : Int32)) = (0 : Int32))).2 ?_
    refine XS.iconst X118.here hx rfl (hb hby d8_33) ?_
    show Steps _ _ _ (T118.setTop (mkF m 34 _ [(.int 1)])) _
    refine XS.goto X118.here hx rfl (pc0 := 34) (pc' := 38) rfl (hb hby d8_34) (by decide) (by decide) ?_
    refine XS.istoreN X118.here hx rfl (hb hby d8_38) rfl (l' := #[rv o0, iv 0, iv mv_, iv 1, .unset]) rfl ?_
    show Steps _ _ _ (T118.setTop (mkF m 39 _ [])) _
    refine XS.aloadN X118.here hx rfl (hb hby d8_39) rfl rfl ?_
    refine XS.iloadN X118.here hx rfl (hb hby d8_40) rfl ?_
    show Steps _ _ _ (T118.setTop (mkF m 41 _ [(.int 1), (.ref o0)])) _
    refine XS.ifNo X118.here hx rfl (hb hby d8_41) rfl ((if0 _ _).trans (feq (by decide : ¬ ((1 : Int32) = (0 : Int32)))).1) ?_
    refine XS.iconst X118.here hx rfl (hb hby d8_44) ?_
    show Steps _ _ _ (T118.setTop (mkF m 45 _ [(.int 1), (.ref o0)])) _
    refine XS.goto X118.here hx rfl (pc0 := 45) (pc' := 49) rfl (hb hby d8_45) (by decide) (by decide) ?_
    refine st119.trans ?_
    show Steps _ _ _ (T119.setTop (mkF m 52 _ [(.int 0)])) _
    refine XS.istore X119.here hx rfl (hb hby d8_52) rfl (l' := #[rv o0, iv 0, iv mv_, iv 1, iv 0]) rfl ?_
    show Steps _ _ _ (T119.setTop (mkF m 54 _ [])) _
    refine XS.iload X119.here hx rfl (hb hby d8_54) rfl ?_
    refine XS.ifNo X119.here hx rfl (hb hby d8_56) rfl ((if0 _ _).trans (teq (rfl : (0 : Int32) = (0 : Int32))).2) ?_
    show Steps _ _ _ (T119.setTop (mkF m 59 _ [])) _
    refine XS.iloadN X119.here hx rfl (hb hby d8_59) rfl ?_
    refine XS.ifNo X119.here hx rfl (hb hby d8_60) rfl ((if0 _ _).trans (feq (by decide : ¬ ((1 : Int32) = (0 : Int32)))).1) ?_
    show Steps _ _ _ (T119.setTop (mkF m 63 _ [])) _
    refine XS.aloadN X119.here hx rfl (hb hby d8_63) rfl rfl ?_
    refine st123 _ ?_
    show Steps _ _ _ (T123.setTop (mkF m 67 _ [(.ref st_)])) _
    refine XS.iloadN X123.here hx rfl (hb hby d8_67) rfl ?_
    refine X123.iaload hx (j := (0 : Int32)) (v := (.int 0)) (by rw [e123]; exact Ar124.1) (State.isArrayOf_alike hZ.alike Ar124.2.1) Ar124.2.2 hin126 hat126 (g := (mkF m 68 #[rv o0, iv 0, iv mv_, iv 1, iv 0] [(.int 0), (.ref st_)])) rfl rfl (hb hby d8_68) _ ?_
    show Steps _ _ _ (T123.setTop (mkF m 69 _ [(.int 0)])) _
    refine XS.aloadN X123.here hx rfl (hb hby d8_69) rfl rfl ?_
    refine st127 _ ?_
    show Steps _ _ _ (T127.setTop (mkF m 73 _ [(.ref rm_), (.int 0)])) _
    refine XS.iloadN X127.here hx rfl (hb hby d8_73) rfl ?_
    refine X127.iaload hx (j := (0 : Int32)) (v := (.int 0)) (by rw [e127]; exact Ar128.1) (State.isArrayOf_alike hZ.alike Ar128.2.1) Ar128.2.2 hin130 hat130 (g := (mkF m 74 #[rv o0, iv 0, iv mv_, iv 1, iv 0] [(.int 0), (.ref rm_), (.int 0)])) rfl rfl (hb hby d8_74) _ ?_
    show Steps _ _ _ (T127.setTop (mkF m 75 _ [(.int 0), (.int 0)])) _
    refine XS.iadd X127.here hx rfl (hb hby d8_75) rfl ?_
    refine XS.aloadN X127.here hx rfl (hb hby d8_76) rfl rfl ?_
    show Steps _ _ _ (T127.setTop (mkF m 77 _ [(.ref o0), (.int ((0 : Int32) + (0 : Int32)))])) _
    refine st131 _ ?_
    show Steps _ _ _ (T131.setTop (mkF m 80 _ [(.int 0), (.int ((0 : Int32) + (0 : Int32)))])) _
    refine XS.icmpYes X131.here hx rfl (pc0 := 80) (pc' := 90) rfl (hb hby d8_80) rfl (teq (Int32.zero_add (0 : Int32) : ((0 : Int32) + (0 : Int32)) = (0 : Int32))).1 (by decide) (by decide) ?_
    refine XS.iload X131.here hx rfl (hb hby d8_90) rfl ?_
    show Steps _ _ _ (T131.setTop (mkF m 92 _ [(.int 0)])) _
    refine XS.ifNo X131.here hx rfl (hb hby d8_92) rfl ((if0 _ _).trans (teq (rfl : (0 : Int32) = (0 : Int32))).2) ?_
    refine XS.aloadN X131.here hx rfl (hb hby d8_95) rfl rfl ?_
    show Steps _ _ _ (T131.setTop (mkF m 96 _ [(.ref o0)])) _
    refine st132 _ ?_
    show Steps _ _ _ (T132.setTop (mkF m 99 _ [(.ref st_)])) _
    refine XS.iloadN X132.here hx rfl (hb hby d8_99) rfl ?_
    refine X132.iaload hx (j := (0 : Int32)) (v := (.int 0)) (by rw [e132]; exact Ar133.1) (State.isArrayOf_alike hZ.alike Ar133.2.1) Ar133.2.2 hin135 hat135 (g := (mkF m 100 #[rv o0, iv 0, iv mv_, iv 1, iv 0] [(.int 0), (.ref st_)])) rfl rfl (hb hby d8_100) _ ?_
    show Steps _ _ _ (T132.setTop (mkF m 101 _ [(.int 0)])) _
    refine XS.aloadN X132.here hx rfl (hb hby d8_101) rfl rfl ?_
    refine st136 _ ?_
    show Steps _ _ _ (T136.setTop (mkF m 105 _ [(.ref rm_), (.int 0)])) _
    refine XS.iloadN X136.here hx rfl (hb hby d8_105) rfl ?_
    refine X136.iaload hx (j := (0 : Int32)) (v := (.int 0)) (by rw [e136]; exact Ar137.1) (State.isArrayOf_alike hZ.alike Ar137.2.1) Ar137.2.2 hin139 hat139 (g := (mkF m 106 #[rv o0, iv 0, iv mv_, iv 1, iv 0] [(.int 0), (.ref rm_), (.int 0)])) rfl rfl (hb hby d8_106) _ ?_
    show Steps _ _ _ (T136.setTop (mkF m 107 _ [(.int 0), (.int 0)])) _
    refine XS.iadd X136.here hx rfl (hb hby d8_107) rfl ?_
    refine XS.aloadN X136.here hx rfl (hb hby d8_108) rfl rfl ?_
    show Steps _ _ _ (T136.setTop (mkF m 109 _ [(.ref o0), (.int ((0 : Int32) + (0 : Int32)))])) _
    refine st140 _ ?_
    show Steps _ _ _ (T140.setTop (mkF m 112 _ [(.int 0), (.int ((0 : Int32) + (0 : Int32)))])) _
    refine XS.icmpNo X140.here hx rfl (hb hby d8_112) rfl (teq (Int32.zero_add (0 : Int32) : ((0 : Int32) + (0 : Int32)) = (0 : Int32))).2 ?_
    refine XS.aloadN X140.here hx rfl (hb hby d8_115) rfl rfl ?_
    show Steps _ _ _ (T140.setTop (mkF m 116 _ [(.ref o0)])) _
    refine st141 _ ?_
    show Steps _ _ _ (T141.setTop (mkF m 119 _ [(.ref rm_)])) _
    refine XS.iloadN X141.here hx rfl (hb hby d8_119) rfl ?_
    refine XT.dup2 X141.here hx rfl (hb hby d8_120) rfl rfl rfl ?_
    show Steps _ _ _ (T141.setTop (mkF m 121 _ [(.int 0), (.ref rm_), (.int 0), (.ref rm_)])) _
    refine X141.iaload hx (j := (0 : Int32)) (v := (.int 0)) (by rw [e141]; exact Ar142.1) (State.isArrayOf_alike hZ.alike Ar142.2.1) Ar142.2.2 hin144 hat144 (g := (mkF m 121 #[rv o0, iv 0, iv mv_, iv 1, iv 0] [(.int 0), (.ref rm_), (.int 0), (.ref rm_)])) rfl rfl (hb hby d8_121) _ ?_
    refine XS.iconst X141.here hx rfl (hb hby d8_122) ?_
    show Steps _ _ _ (T141.setTop (mkF m 123 _ [(.int 1), (.int 0), (.int 0), (.ref rm_)])) _
    refine XS.iadd X141.here hx rfl (hb hby d8_123) rfl ?_
    refine st147 _ ?_
    show Steps _ _ _ (T147.setTop (mkF m 125 _ [])) _
    refine XS.aloadN X147.here hx rfl (hb hby d8_125) rfl rfl ?_
    refine XS.dup X147.here hx rfl (hb hby d8_126) rfl rfl ?_
    show Steps _ _ _ (T147.setTop (mkF m 127 _ [(.ref o0), (.ref o0)])) _
    refine st163 _ ?_
    show Steps _ _ _ (T163.setTop (mkF m 130 _ [(.int 0), (.ref o0)])) _
    refine XS.iconst X163.here hx rfl (hb hby d8_130) ?_
    refine XS.iadd X163.here hx rfl (hb hby d8_131) rfl ?_
    show Steps _ _ _ (T163.setTop (mkF m 132 _ [(.int ((0 : Int32) + (1 : Int32))), (.ref o0)])) _
    refine st164 _ ?_
    show Steps _ _ _ (T164.setTop (mkF m 135 _ [])) _
    refine XS.aloadN X164.here hx rfl (hb hby d8_135) rfl rfl ?_
    refine XS.dup X164.here hx rfl (hb hby d8_136) rfl rfl ?_
    show Steps _ _ _ (T164.setTop (mkF m 137 _ [(.ref o0), (.ref o0)])) _
    refine st181 _ ?_
    show Steps _ _ _ (T181.setTop (mkF m 140 _ [(.int 0), (.ref o0)])) _
    refine XS.iconst X181.here hx rfl (hb hby d8_140) ?_
    refine XS.iadd X181.here hx rfl (hb hby d8_141) rfl ?_
    show Steps _ _ _ (T181.setTop (mkF m 142 _ [(.int ((0 : Int32) + (1 : Int32))), (.ref o0)])) _
    refine st182 _ ?_
    show Steps _ _ _ (T182.setTop (mkF m 145 _ [])) _
    refine XS.goto X182.here hx rfl (pc0 := 145) (pc' := 258) rfl (hb hby d8_145) (by decide) (by decide) ?_
    exact k)
  rw [hO] at go199
  obtain ⟨fs, hr, hrun, hended, hW, hsame⟩ := X182.leave (v := none) (fun _ => rfl)
  refine ⟨_, _, go199 _ ?_, hrun, hended, _, _, rfl, ?_, ⟨_, rfl⟩, hW, hsame.mono (by decide) (by decide)⟩
  · exact X182.returnOut hx Bd.returns (hb hby d8_258) hr
  · show Q_grg Z o0 st_ dg_ rm_ it_ k1_ k2_ k3_ k4_ sl_ k5_ h0 n0 _ T182.heap _
    rw [e182]
    exact ⟨it2, sl2, k42, k52, rfl, N182, ⟨f183, Ag0_120, Ag1_120, Ag2_120, Ag3_120, Ag4_120, f184, f185, f186, f187, f188, f189, f198, f190, f191, f192, f193, f194, f195, AN0_120, AN1_120, AN2_120, AN3_120, AN4_120, AN5_120, AN6_120, AN7_120, AN8_120, AN9_120⟩, ⟨SG_122, f196, SN0_122, SN1_122, SN2_122, SN3_122, SN4_122⟩⟩
theorem ef_apg (m : MethodId) (x0 : Addr) (x1 : Int32) : entryFrame m #[(.ref x0), (.int x1)] 2 = mkF m 0 #[rv x0, iv x1] [] := by first | (simp [entryFrame, mkF, argsToLocals, Value.category]; done) | rfl
def Q_apg (Z : State) (o0 : Addr) (st_ : Addr) (dg_ : Addr) (rm_ : Addr) (it_ : Addr) (k1_ : ClassId) (k2_ : ClassId) (k3_ : ClassId) (k4_ : ClassId) (sl_ : Addr) (k5_ : ClassId) (h0 : Heap) (n0 : Nat) (v : Option Value) (h : Heap) (L : List Loc) : Prop := ∃ (it2 sl2 : Addr) (k42 k52 : ClassId), v = some (.int (0 : Int32)) ∧ Fr n0 L ∧ own_A Z h n0 o0 st_ dg_ rm_ it2 k1_ k2_ k3_ k42 (16 : Int32) [.int (0 : Int32), .int (0 : Int32), .int (0 : Int32), .int (0 : Int32), .int (0 : Int32), .int (0 : Int32), .int (0 : Int32), .int (0 : Int32), .int (0 : Int32), .int (0 : Int32), .int (0 : Int32), .int (0 : Int32), .int (0 : Int32), .int (0 : Int32), .int (0 : Int32), .int (0 : Int32)] (.ref sl2) (1 : Int32) (1 : Int32) (1 : Int32) (1 : Int32) (1 : Int32) ∧ own_S Z h n0 sl2 k52 (16 : Int32) [.int (0 : Int32), .int (0 : Int32), .int (0 : Int32), .int (0 : Int32), .int (0 : Int32), .int (0 : Int32), .int (0 : Int32), .int (0 : Int32), .int (0 : Int32), .int (0 : Int32), .int (0 : Int32), .int (0 : Int32), .int (0 : Int32), .int (0 : Int32), .int (0 : Int32), .int (0 : Int32)] o0 st_ dg_ rm_ it2
set_option maxRecDepth 65536 in
set_option maxHeartbeats 40000000 in
theorem rm_apg (l : Launch) (Z : State) (a0 : Array Value) (hw : ∀ d ∈ tables_1, d.before a0 Z = true) (ws : List Jvm.Cond) (o0 : Addr) (st_ : Addr) (dg_ : Addr) (rm_ : Addr) (it_ : Addr) (k1_ : ClassId) (k2_ : ClassId) (k3_ : ClassId) (k4_ : ClassId) (sl_ : Addr) (k5_ : ClassId) (h0 : Heap) (n0 : Nat) (Z0 : n0 ≤ h0.size) (H : own_A Z h0 n0 o0 st_ dg_ rm_ it_ k1_ k2_ k3_ k4_ (0 : Int32) [] (.ref sl_) (0 : Int32) (0 : Int32) (0 : Int32) (0 : Int32) (0 : Int32)) (HS : own_S Z h0 n0 sl_ k5_ (0 : Int32) [] o0 st_ dg_ rm_ it_) :
    MetFree l (⟨"com/example/plebiscite/plebiscite/Adjacency", "append", "(I)I"⟩ : MethodName) (head1 (Jvm.Cond.code (⟨"com/example/plebiscite/plebiscite/Adjacency", "append", "(I)I"⟩ : MethodName) prog_2_method_19_code 2 (some .int) :: ws) ({ frames := 4, cells := 2, slots := 32, locals := 68 } : Room)) (fun a U => a = #[(.ref o0), (.int 0)] ∧ Z.Warmed39 U.vm ∧ U.heap = h0) (fun _ _ _ _ _ => True) (fun _ U o U' => ∃ v L, o = .returned v ∧ Q_apg Z o0 st_ dg_ rm_ it_ k1_ k2_ k3_ k4_ sl_ k5_ h0 n0 v U'.heap L ∧ FrameEnd U o U' L ({ frames := 4, cells := 2, slots := 32, locals := 68 } : Room).cells ({ frames := 4, cells := 2, slots := 32, locals := 68 } : Room).slots) := by
  refine MetFree.of_bodySF (plainFor_of_name pn_0) hisR ?_
  intro p e s m args below meth c s₁ Bd hml0 hP hK
  obtain ⟨rfl, hZ, hh⟩ := hP
  have hx := Bd.exec
  have hby := Bd.bytes
  have hml : c.maxLocals = 2 := hml0
  have hown : s.vm.findClass "com/example/plebiscite/plebiscite/Adjacency" = some m.cls := findClass_of_methodNamed Bd.named
  have hnm := (name_of_methodNamed Bd.named Bd.method).1
  have X0 : Stand p l e ({ frames := 4, cells := 2, slots := 32, locals := 68 } : Room) s m #[(.ref o0), (.int 0)] below meth c s₁ [] 0 0 := Stand.of_body Bd
  have e0 : s₁.heap = h0 := by rw [← hh, Bd.state]; rfl
  have N0 := Fr.nil n0
  have go0 : ∀ t, Steps p.tables e below (s₁.setTop (mkF m 0 #[rv o0, iv 0] [])) t → Steps p.tables e below (s₁.setTop (entryFrame m #[(.ref o0), (.int 0)] 2)) t := fun t k => castTop (ef_apg m o0 (0 : Int32)) k
  obtain ⟨O, hO⟩ : ∃ z, z = (s₁.setTop (entryFrame m #[(.ref o0), (.int 0)] 2)) := ⟨_, rfl⟩
  rw [← hO] at go0
  obtain ⟨AX_101, Ag0_101, Ag1_101, Ag2_101, Ag3_101, Ag4_101, AF0_101, AF1_101, AF2_101, AF3_101, AF4_101, AF5_101, AF6_101, AF7_101, AF8_101, AV0_101, AV1_101, AV2_101, AV3_101, AN0_101, AN1_101, AN2_101, AN3_101, AN4_101, AN5_101, AN6_101, AN7_101, AN8_101, AN9_101⟩ := H
  have Z102 := Nat.le_trans Ag0_101 (Nat.le_of_lt AX_101.lt)
  obtain ⟨SG_103, SV_103, SN0_103, SN1_103, SN2_103, SN3_103, SN4_103⟩ := HS
  obtain ⟨T104, X104, e104, st104⟩ := getF X0 hx hZ hown (host := "") (Or.inl (hw _ (List.mem_of_getElem? (i := 27) rfl))) Via.refl e0 AF8_101 (g := (mkF m 1 #[rv o0, iv 0] [(.ref o0)])) rfl rfl (hb hby d9_1)
  obtain ⟨T105, X105, e105, st105⟩ := getF X104 hx hZ hown (host := "") (Or.inl (hw _ (List.mem_of_getElem? (i := 12) rfl))) Via.refl e104 AF1_101 (g := (mkF m 43 #[rv o0, iv 0] [(.ref o0)])) rfl rfl (hb hby d9_43)
  obtain ⟨cl106, Ar106, q106, S106, M106, Hs106, G106⟩ := AV1_101
  have f107 : Arv Z h0 dg_ k2_ .int (1 : Int32) [(.int 0)] (.int 0) := ⟨cl106, Ar106, q106, S106, M106, Hs106, G106⟩
  have hin108 : ¬ ((0 : Int32) < 0 ∨ cl106.slots.size ≤ ((0 : Int32)).toNatClampNeg) := inb_of S106 ⟨by decide, by decide⟩
  have hat108 : cl106.slots[((0 : Int32)).toNatClampNeg]? = some (.int 0) := Hs106.at hin108 rfl
  obtain ⟨T109, X109, e109, st109⟩ := getF X105 hx hZ hown (host := "") (Or.inl (hw _ (List.mem_of_getElem? (i := 14) rfl))) Via.refl e105 AF2_101 (g := (mkF m 49 #[rv o0, iv 0] [(.ref o0), (.int 0)])) rfl rfl (hb hby d9_49)
  obtain ⟨cl110, Ar110, q110, S110, M110, Hs110, G110⟩ := AV2_101
  have f111 : Arv Z h0 rm_ k3_ .int (1 : Int32) [(.int 0)] (.int 0) := ⟨cl110, Ar110, q110, S110, M110, Hs110, G110⟩
  have hin112 : ¬ ((0 : Int32) < 0 ∨ cl110.slots.size ≤ ((0 : Int32)).toNatClampNeg) := inb_of S110 ⟨by decide, by decide⟩
  have hat112 : cl110.slots[((0 : Int32)).toNatClampNeg]? = some (.int 0) := Hs110.at hin112 rfl
  obtain ⟨cq113, qc113, qd113⟩ := AX_101.cell
  obtain ⟨_, _, ⟨T113, L113, k113, n113⟩, -, X113, ⟨Lc113, hQ113, l113, y113, z113⟩, st113⟩ := X109.privateBack hx (y := (⟨"com/example/plebiscite/plebiscite/Adjacency", "growBlock", "(I)V"⟩ : MethodName)) hown (mvT hZ (hw _ (List.mem_of_getElem? (i := 29) rfl))) (mvT hZ (hw _ (List.mem_of_getElem? (i := 30) rfl))) (mvT hZ (own_selects (y := (⟨"com/example/plebiscite/plebiscite/Adjacency", "growBlock", "(I)V"⟩ : MethodName)) (z := (⟨"com/example/plebiscite/plebiscite/Adjacency", "add", "(II)V"⟩ : MethodName)) rfl (hw _ (List.mem_of_getElem? (i := 31) rfl)) (hw _ (List.mem_of_getElem? (i := 30) rfl)) (hw _ (List.mem_of_getElem? (i := 21) rfl)) (by decide))) (Cond.privateMethod_at (mvP hZ (hw _ (List.mem_of_getElem? (i := 31) rfl)) (args := #[]))) (mvT hZ (hw _ (List.mem_of_getElem? (i := 32) rfl))) (by decide) (backOf (W := 0) (rm_grg l Z a0 hw [] o0 st_ dg_ rm_ it_ k1_ k2_ k3_ k4_ sl_ k5_ h0 n0 Z102 ⟨AX_101, Ag0_101, Ag1_101, Ag2_101, Ag3_101, Ag4_101, AF0_101, AF1_101, AF2_101, AF3_101, AF4_101, AF5_101, AF6_101, AF7_101, AF8_101, AV0_101, f107, f111, AV3_101, AN0_101, AN1_101, AN2_101, AN3_101, AN4_101, AN5_101, AN6_101, AN7_101, AN8_101, AN9_101⟩ ⟨SG_103, SV_103, SN0_103, SN1_103, SN2_103, SN3_103, SN4_103⟩) hZ (hw _ (List.mem_of_getElem? (i := 32) rfl)) (hw _ (List.mem_of_getElem? (i := 2) rfl)) (by decide) (by decide)) (g := (mkF m 59 #[rv o0, iv 0] [(.int 0), (.ref o0)])) rfl (by rw [hml]; rfl) (Steps.refl _) (a := o0) (by rw [e109]; exact qc113) qd113 (argsL := [(.int 0)]) (rest := []) (lenOf pd_1 rfl) rfl (by show 2 * 0 + _ ≤ _; exact Nat.le_of_eq rfl) (hb hby d9_59) (fun _ _ => ⟨rfl, e109, (by decide : 0 + 2 ≤ _), (by decide : 0 + 32 ≤ _)⟩)
  dsimp only [Pt.U, Pt.locs, Pt.cells, Pt.slots] at X113 l113 y113 z113 st113 hQ113
  rw [l113, y113, z113] at X113
  obtain ⟨it2, sl2, k42, k52, hv113, N113q, HA, HB⟩ := hQ113
  rw [hv113] at st113
  have N113 := Fr.app N0 N113q
  obtain ⟨AX_114, Ag0_114, Ag1_114, Ag2_114, Ag3_114, Ag4_114, AF0_114, AF1_114, AF2_114, AF3_114, AF4_114, AF5_114, AF6_114, AF7_114, AF8_114, AV0_114, AV1_114, AV2_114, AV3_114, AN0_114, AN1_114, AN2_114, AN3_114, AN4_114, AN5_114, AN6_114, AN7_114, AN8_114, AN9_114⟩ := HA
  have Z115 := Nat.le_trans Ag0_114 (Nat.le_of_lt AX_114.lt)
  obtain ⟨SG_116, SV_116, SN0_116, SN1_116, SN2_116, SN3_116, SN4_116⟩ := HB
  obtain ⟨T117, X117, e117, st117⟩ := getF X113 hx hZ hown (host := "") (Or.inl (hw _ (List.mem_of_getElem? (i := 45) rfl))) Via.refl rfl AF7_114 (g := (mkF m 64 #[rv o0, iv 0] [(.ref o0), (.ref o0)])) rfl rfl (hb hby d9_64)
  obtain ⟨T118, h118, X118, e118, W118, st118⟩ := putF X117 hx hZ hown (host := "") (Or.inl (hw _ (List.mem_of_getElem? (i := 45) rfl))) Via.refl e117 AF7_114 AX_114 (Or.inl (hw _ (List.mem_of_getElem? (i := 46) rfl))) (hw _ (List.mem_of_getElem? (i := 1) rfl)) (ty := .int) (by decide) rfl rfl (g := (mkF m 69 #[rv o0, iv 0] [(.int ((0 : Int32) + (1 : Int32))), (.ref o0)])) rfl rfl (hb hby d9_69)
  have f119 := AX_114.wr W118
  have f120 := AF0_114.other W118 (Or.inr (slot_ne (Or.inr (hw _ (List.mem_of_getElem? (i := 11) rfl))) (Or.inl (hw _ (List.mem_of_getElem? (i := 46) rfl))) (by decide) (t := (.array .int)) (t' := .int) (by decide) (by decide)))
  have f121 := AF1_114.other W118 (Or.inr (slot_ne (Or.inr (hw _ (List.mem_of_getElem? (i := 13) rfl))) (Or.inl (hw _ (List.mem_of_getElem? (i := 46) rfl))) (by decide) (t := (.array .int)) (t' := .int) (by decide) (by decide)))
  have f122 := AF2_114.other W118 (Or.inr (slot_ne (Or.inl (hw _ (List.mem_of_getElem? (i := 15) rfl))) (Or.inl (hw _ (List.mem_of_getElem? (i := 46) rfl))) (by decide) (t := (.array .int)) (t' := .int) (by decide) (by decide)))
  have f123 := AF3_114.other W118 (Or.inr (slot_ne (Or.inl (hw _ (List.mem_of_getElem? (i := 17) rfl))) (Or.inl (hw _ (List.mem_of_getElem? (i := 46) rfl))) (by decide) (t := (.array .int)) (t' := .int) (by decide) (by decide)))
  have f124 := AF4_114.other W118 (Or.inr (slot_ne (Or.inl (hw _ (List.mem_of_getElem? (i := 53) rfl))) (Or.inl (hw _ (List.mem_of_getElem? (i := 46) rfl))) (by decide) (t := (.array .int)) (t' := .int) (by decide) (by decide)))
  have f125 := AF5_114.other W118 (Or.inr (slot_ne (Or.inl (hw _ (List.mem_of_getElem? (i := 38) rfl))) (Or.inl (hw _ (List.mem_of_getElem? (i := 46) rfl))) (by decide) (t := .int) (t' := .int) (by decide) (by decide)))
  have f126 := AF6_114.other W118 (Or.inr (slot_ne (Or.inl (hw _ (List.mem_of_getElem? (i := 44) rfl))) (Or.inl (hw _ (List.mem_of_getElem? (i := 46) rfl))) (by decide) (t := .int) (t' := .int) (by decide) (by decide)))
  have f127 := AF8_114.other W118 (Or.inr (slot_ne (Or.inl (hw _ (List.mem_of_getElem? (i := 28) rfl))) (Or.inl (hw _ (List.mem_of_getElem? (i := 46) rfl))) (by decide) (t := (.array .int)) (t' := .int) (by decide) (by decide)))
  have f128 := AV0_114.other W118 (Ne.symm AN0_114)
  have f129 := AV1_114.other W118 (Ne.symm AN1_114)
  have f130 := AV2_114.other W118 (Ne.symm AN2_114)
  have f131 := AV3_114.other W118 (Ne.symm AN3_114)
  have f132 := SV_116.other W118 (Ne.symm SN0_116)
  have Z133 := Nat.le_trans Z115 (Keep.of_wr W118).1
  have f134 := AF7_114.same W118
  have N118 := Fr.snoc X118 N113 Ag0_114
  obtain ⟨T135, X135, e135, st135⟩ := getF X118 hx hZ hown (host := "") (Or.inl (hw _ (List.mem_of_getElem? (i := 10) rfl))) Via.refl e118 f120 (g := (mkF m 73 #[rv o0, iv 0] [(.ref o0)])) rfl rfl (hb hby d9_73)
  obtain ⟨cl136, Ar136, q136, S136, M136, Hs136, G136⟩ := f128
  have f137 : Arv Z h118 st_ k1_ .int (1 : Int32) [(.int 0)] (.int 0) := ⟨cl136, Ar136, q136, S136, M136, Hs136, G136⟩
  have hin138 : ¬ ((0 : Int32) < 0 ∨ cl136.slots.size ≤ ((0 : Int32)).toNatClampNeg) := inb_of S136 ⟨by decide, by decide⟩
  have hat138 : cl136.slots[((0 : Int32)).toNatClampNeg]? = some (.int 0) := Hs136.at hin138 rfl
  obtain ⟨T139, X139, e139, st139⟩ := getF X135 hx hZ hown (host := "") (Or.inl (hw _ (List.mem_of_getElem? (i := 12) rfl))) Via.refl e135 f121 (g := (mkF m 79 #[rv o0, iv 0] [(.ref o0), (.int 0)])) rfl rfl (hb hby d9_79)
  obtain ⟨cl140, Ar140, q140, S140, M140, Hs140, G140⟩ := f129
  have f141 : Arv Z h118 dg_ k2_ .int (1 : Int32) [(.int 0)] (.int 0) := ⟨cl140, Ar140, q140, S140, M140, Hs140, G140⟩
  have hin142 : ¬ ((0 : Int32) < 0 ∨ cl140.slots.size ≤ ((0 : Int32)).toNatClampNeg) := inb_of S140 ⟨by decide, by decide⟩
  have hat142 : cl140.slots[((0 : Int32)).toNatClampNeg]? = some (.int 0) := Hs140.at hin142 rfl
  obtain ⟨cl143, Ar143, q143, S143, M143, Hs143, G143⟩ := f141
  have f144 : Arv Z h118 dg_ k2_ .int (1 : Int32) [(.int 0)] (.int 0) := ⟨cl143, Ar143, q143, S143, M143, Hs143, G143⟩
  have hin145 : ¬ ((0 : Int32) < 0 ∨ cl143.slots.size ≤ ((0 : Int32)).toNatClampNeg) := inb_of S143 ⟨by decide, by decide⟩
  obtain ⟨T145, h145, X145, e145, W145, st145⟩ := stI X139 hx hZ e139 Ar143 (j := (0 : Int32)) hin145 (g := (mkF m 88 #[rv o0, iv 0] [(.int ((0 : Int32) + (1 : Int32))), (.int 0), (.ref dg_), (.int 0), (.int 0)])) rfl rfl (hb hby d9_88)
  have f146 := f119.wr W145
  have f147 := f120.other W145 (Or.inl AN1_114)
  have f148 := f121.other W145 (Or.inl AN1_114)
  have f149 := f122.other W145 (Or.inl AN1_114)
  have f150 := f123.other W145 (Or.inl AN1_114)
  have f151 := f124.other W145 (Or.inl AN1_114)
  have f152 := f125.other W145 (Or.inl AN1_114)
  have f153 := f126.other W145 (Or.inl AN1_114)
  have f154 := f134.other W145 (Or.inl AN1_114)
  have f155 := f127.other W145 (Or.inl AN1_114)
  have f156 := f137.other W145 AN4_114
  have f157 := f130.other W145 (Ne.symm AN7_114)
  have f158 := f131.other W145 (Ne.symm AN8_114)
  have f159 := f132.other W145 (Ne.symm SN2_116)
  have Z160 := Nat.le_trans Z133 (Keep.of_wr W145).1
  have V145 : Arv Z h145 dg_ k2_ .int (1 : Int32) [(.int ((0 : Int32) + (1 : Int32)))] (.int 0) := Arv.set Ar143 q143 S143 M143 Hs143 G143 rfl W145 0 rfl (Nat.le_of_ble_eq_true rfl)
  have N145 := Fr.snoc X145 N118 Ag2_114
  have go161 : ∀ t, Steps p.tables e below (T145.setTop (mkF m 90 #[rv o0, iv 0] [(.int ((0 : Int32) + (0 : Int32)))])) t → Steps p.tables e below O t := fun t k => go0 t (by
    refine XS.aloadN X0.here hx rfl (hb hby d9_0) rfl rfl ?_
    refine st104 _ ?_
    show Steps _ _ _ (T104.setTop (mkF m 4 _ [.null])) _
    refine XS.ifnullYes X104.here hx rfl (pc0 := 4) (pc' := 42) rfl (hb hby d9_4) rfl (by decide) (by decide) ?_
    refine XS.aloadN X104.here hx rfl (hb hby d9_42) rfl rfl ?_
    show Steps _ _ _ (T104.setTop (mkF m 43 _ [(.ref o0)])) _
    refine st105 _ ?_
    show Steps _ _ _ (T105.setTop (mkF m 46 _ [(.ref dg_)])) _
    refine XS.iloadN X105.here hx rfl (hb hby d9_46) rfl ?_
    refine X105.iaload hx (j := (0 : Int32)) (v := (.int 0)) (by rw [e105]; exact Ar106.1) (State.isArrayOf_alike hZ.alike Ar106.2.1) Ar106.2.2 hin108 hat108 (g := (mkF m 47 #[rv o0, iv 0] [(.int 0), (.ref dg_)])) rfl rfl (hb hby d9_47) _ ?_
    show Steps _ _ _ (T105.setTop (mkF m 48 _ [(.int 0)])) _
    refine XS.aloadN X105.here hx rfl (hb hby d9_48) rfl rfl ?_
    refine st109 _ ?_
    show Steps _ _ _ (T109.setTop (mkF m 52 _ [(.ref rm_), (.int 0)])) _
    refine XS.iloadN X109.here hx rfl (hb hby d9_52) rfl ?_
    refine X109.iaload hx (j := (0 : Int32)) (v := (.int 0)) (by rw [e109]; exact Ar110.1) (State.isArrayOf_alike hZ.alike Ar110.2.1) Ar110.2.2 hin112 hat112 (g := (mkF m 53 #[rv o0, iv 0] [(.int 0), (.ref rm_), (.int 0)])) rfl rfl (hb hby d9_53) _ ?_
    show Steps _ _ _ (T109.setTop (mkF m 54 _ [(.int 0), (.int 0)])) _
    refine XS.icmpNo X109.here hx rfl (hb hby d9_54) rfl (teq (rfl : (0 : Int32) = (0 : Int32))).2 ?_
    refine XS.aloadN X109.here hx rfl (hb hby d9_57) rfl rfl ?_
    show Steps _ _ _ (T109.setTop (mkF m 58 _ [(.ref o0)])) _
    refine XS.iloadN X109.here hx rfl (hb hby d9_58) rfl ?_
    refine st113.trans ?_
    show Steps _ _ _ (T113.setTop (mkF m 62 _ [])) _
    refine XS.aloadN X113.here hx rfl (hb hby d9_62) rfl rfl ?_
    refine XS.dup X113.here hx rfl (hb hby d9_63) rfl rfl ?_
    show Steps _ _ _ (T113.setTop (mkF m 64 _ [(.ref o0), (.ref o0)])) _
    refine st117 _ ?_
    show Steps _ _ _ (T117.setTop (mkF m 67 _ [(.int 0), (.ref o0)])) _
    refine XS.iconst X117.here hx rfl (hb hby d9_67) ?_
    refine XS.iadd X117.here hx rfl (hb hby d9_68) rfl ?_
    show Steps _ _ _ (T117.setTop (mkF m 69 _ [(.int ((0 : Int32) + (1 : Int32))), (.ref o0)])) _
    refine st118 _ ?_
    show Steps _ _ _ (T118.setTop (mkF m 72 _ [])) _
    refine XS.aloadN X118.here hx rfl (hb hby d9_72) rfl rfl ?_
    refine st135 _ ?_
    show Steps _ _ _ (T135.setTop (mkF m 76 _ [(.ref st_)])) _
    refine XS.iloadN X135.here hx rfl (hb hby d9_76) rfl ?_
    refine X135.iaload hx (j := (0 : Int32)) (v := (.int 0)) (by rw [e135]; exact Ar136.1) (State.isArrayOf_alike hZ.alike Ar136.2.1) Ar136.2.2 hin138 hat138 (g := (mkF m 77 #[rv o0, iv 0] [(.int 0), (.ref st_)])) rfl rfl (hb hby d9_77) _ ?_
    show Steps _ _ _ (T135.setTop (mkF m 78 _ [(.int 0)])) _
    refine XS.aloadN X135.here hx rfl (hb hby d9_78) rfl rfl ?_
    refine st139 _ ?_
    show Steps _ _ _ (T139.setTop (mkF m 82 _ [(.ref dg_), (.int 0)])) _
    refine XS.iloadN X139.here hx rfl (hb hby d9_82) rfl ?_
    refine XT.dup2 X139.here hx rfl (hb hby d9_83) rfl rfl rfl ?_
    show Steps _ _ _ (T139.setTop (mkF m 84 _ [(.int 0), (.ref dg_), (.int 0), (.ref dg_), (.int 0)])) _
    refine X139.iaload hx (j := (0 : Int32)) (v := (.int 0)) (by rw [e139]; exact Ar140.1) (State.isArrayOf_alike hZ.alike Ar140.2.1) Ar140.2.2 hin142 hat142 (g := (mkF m 84 #[rv o0, iv 0] [(.int 0), (.ref dg_), (.int 0), (.ref dg_), (.int 0)])) rfl rfl (hb hby d9_84) _ ?_
    jvm_step X139.here [X139.here.top, hx, (hb hby d9_85), Value.category]
    show Steps _ _ _ (T139.setTop (mkF m 86 _ [(.int 0), (.int 0), (.ref dg_), (.int 0), (.int 0)])) _
    refine XS.iconst X139.here hx rfl (hb hby d9_86) ?_
    refine XS.iadd X139.here hx rfl (hb hby d9_87) rfl ?_
    show Steps _ _ _ (T139.setTop (mkF m 88 _ [(.int ((0 : Int32) + (1 : Int32))), (.int 0), (.ref dg_), (.int 0), (.int 0)])) _
    refine st145 _ ?_
    show Steps _ _ _ (T145.setTop (mkF m 89 _ [(.int 0), (.int 0)])) _
    refine XS.iadd X145.here hx rfl (hb hby d9_89) rfl ?_
    exact k)
  rw [show ((0 : Int32) + (0 : Int32)) = (0 : Int32) from by decide] at go161
  rw [hO] at go161
  obtain ⟨fs, hr, hrun, hended, hW, hsame⟩ := X145.leave (v := some (.int 0)) (fun h => by rw [Bd.returns] at h; cases h)
  refine ⟨_, _, go161 _ ?_, hrun, hended, _, _, rfl, ?_, ⟨_, rfl⟩, hW, hsame.mono (by decide) (by decide)⟩
  · exact retI X145 hx Bd.returns (hb hby d9_90) hr
  · show Q_apg Z o0 st_ dg_ rm_ it_ k1_ k2_ k3_ k4_ sl_ k5_ h0 n0 _ T145.heap _
    rw [e145]
    exact ⟨it2, sl2, k42, k52, rfl, N145, ⟨f146, Ag0_114, Ag1_114, Ag2_114, Ag3_114, Ag4_114, f147, f148, f149, f150, f151, f152, f153, f154, f155, f156, V145, f157, f158, AN0_114, AN1_114, AN2_114, AN3_114, AN4_114, AN5_114, AN6_114, AN7_114, AN8_114, AN9_114⟩, ⟨SG_116, f159, SN0_116, SN1_116, SN2_116, SN3_116, SN4_116⟩⟩
theorem ef_adg (m : MethodId) (x0 : Addr) (x1 : Int32) (x2 : Int32) (x3 : Int32) : entryFrame m #[(.ref x0), (.int x1), (.int x2), (.int x3)] 5 = mkF m 0 #[rv x0, iv x1, iv x2, iv x3, .unset] [] := by first | (simp [entryFrame, mkF, argsToLocals, Value.category]; done) | rfl
def Q_adg (Z : State) (o0 : Addr) (p2 : Int32) (p3 : Int32) (st_ : Addr) (dg_ : Addr) (rm_ : Addr) (it_ : Addr) (k1_ : ClassId) (k2_ : ClassId) (k3_ : ClassId) (k4_ : ClassId) (sl_ : Addr) (k5_ : ClassId) (h0 : Heap) (n0 : Nat) (v : Option Value) (h : Heap) (L : List Loc) : Prop := ∃ (it2 sl2 : Addr) (k42 k52 : ClassId), v = none ∧ Fr n0 L ∧ own_A Z h n0 o0 st_ dg_ rm_ it2 k1_ k2_ k3_ k42 (16 : Int32) [.int p2, .int (0 : Int32), .int (0 : Int32), .int (0 : Int32), .int (0 : Int32), .int (0 : Int32), .int (0 : Int32), .int (0 : Int32), .int (0 : Int32), .int (0 : Int32), .int (0 : Int32), .int (0 : Int32), .int (0 : Int32), .int (0 : Int32), .int (0 : Int32), .int (0 : Int32)] (.ref sl2) (1 : Int32) (1 : Int32) (1 : Int32) (1 : Int32) (1 : Int32) ∧ own_S Z h n0 sl2 k52 (16 : Int32) [.int p3, .int (0 : Int32), .int (0 : Int32), .int (0 : Int32), .int (0 : Int32), .int (0 : Int32), .int (0 : Int32), .int (0 : Int32), .int (0 : Int32), .int (0 : Int32), .int (0 : Int32), .int (0 : Int32), .int (0 : Int32), .int (0 : Int32), .int (0 : Int32), .int (0 : Int32)] o0 st_ dg_ rm_ it2
set_option maxRecDepth 65536 in
set_option maxHeartbeats 40000000 in
theorem rm_adg (l : Launch) (Z : State) (a0 : Array Value) (hw : ∀ d ∈ tables_1, d.before a0 Z = true) (ws : List Jvm.Cond) (o0 : Addr) (p2 : Int32) (p3 : Int32) (st_ : Addr) (dg_ : Addr) (rm_ : Addr) (it_ : Addr) (k1_ : ClassId) (k2_ : ClassId) (k3_ : ClassId) (k4_ : ClassId) (sl_ : Addr) (k5_ : ClassId) (h0 : Heap) (n0 : Nat) (Z0 : n0 ≤ h0.size) (H : own_A Z h0 n0 o0 st_ dg_ rm_ it_ k1_ k2_ k3_ k4_ (0 : Int32) [] (.ref sl_) (0 : Int32) (0 : Int32) (0 : Int32) (0 : Int32) (0 : Int32)) (HS : own_S Z h0 n0 sl_ k5_ (0 : Int32) [] o0 st_ dg_ rm_ it_) :
    MetFree l (⟨"com/example/plebiscite/plebiscite/Adjacency", "add", "(III)V"⟩ : MethodName) (head1 (Jvm.Cond.code (⟨"com/example/plebiscite/plebiscite/Adjacency", "add", "(III)V"⟩ : MethodName) prog_2_method_17_code 5 none :: ws) ({ frames := 5, cells := 2, slots := 32, locals := 81 } : Room)) (fun a U => a = #[(.ref o0), (.int 0), (.int p2), (.int p3)] ∧ Z.Warmed39 U.vm ∧ U.heap = h0) (fun _ _ _ _ _ => True) (fun _ U o U' => ∃ v L, o = .returned v ∧ Q_adg Z o0 p2 p3 st_ dg_ rm_ it_ k1_ k2_ k3_ k4_ sl_ k5_ h0 n0 v U'.heap L ∧ FrameEnd U o U' L ({ frames := 5, cells := 2, slots := 32, locals := 81 } : Room).cells ({ frames := 5, cells := 2, slots := 32, locals := 81 } : Room).slots) := by
  refine MetFree.of_bodySF (plainFor_of_name pn_0) hisR ?_
  intro p e s m args below meth c s₁ Bd hml0 hP hK
  obtain ⟨rfl, hZ, hh⟩ := hP
  have hx := Bd.exec
  have hby := Bd.bytes
  have hml : c.maxLocals = 5 := hml0
  have hown : s.vm.findClass "com/example/plebiscite/plebiscite/Adjacency" = some m.cls := findClass_of_methodNamed Bd.named
  have hnm := (name_of_methodNamed Bd.named Bd.method).1
  have X0 : Stand p l e ({ frames := 5, cells := 2, slots := 32, locals := 81 } : Room) s m #[(.ref o0), (.int 0), (.int p2), (.int p3)] below meth c s₁ [] 0 0 := Stand.of_body Bd
  have e0 : s₁.heap = h0 := by rw [← hh, Bd.state]; rfl
  have N0 := Fr.nil n0
  have go0 : ∀ t, Steps p.tables e below (s₁.setTop (mkF m 0 #[rv o0, iv 0, iv p2, iv p3, .unset] [])) t → Steps p.tables e below (s₁.setTop (entryFrame m #[(.ref o0), (.int 0), (.int p2), (.int p3)] 5)) t := fun t k => castTop (ef_adg m o0 (0 : Int32) p2 p3) k
  obtain ⟨O, hO⟩ : ∃ z, z = (s₁.setTop (entryFrame m #[(.ref o0), (.int 0), (.int p2), (.int p3)] 5)) := ⟨_, rfl⟩
  rw [← hO] at go0
  obtain ⟨AX_101, Ag0_101, Ag1_101, Ag2_101, Ag3_101, Ag4_101, AF0_101, AF1_101, AF2_101, AF3_101, AF4_101, AF5_101, AF6_101, AF7_101, AF8_101, AV0_101, AV1_101, AV2_101, AV3_101, AN0_101, AN1_101, AN2_101, AN3_101, AN4_101, AN5_101, AN6_101, AN7_101, AN8_101, AN9_101⟩ := H
  have Z102 := Nat.le_trans Ag0_101 (Nat.le_of_lt AX_101.lt)
  obtain ⟨SG_103, SV_103, SN0_103, SN1_103, SN2_103, SN3_103, SN4_103⟩ := HS
  obtain ⟨cq104, qc104, qd104⟩ := AX_101.cell
  obtain ⟨_, _, ⟨T104, L104, k104, n104⟩, -, X104, ⟨Lc104, hQ104, l104, y104, z104⟩, st104⟩ := X0.privateBack hx (y := (⟨"com/example/plebiscite/plebiscite/Adjacency", "append", "(I)I"⟩ : MethodName)) hown (mvT hZ (hw _ (List.mem_of_getElem? (i := 23) rfl))) (mvT hZ (hw _ (List.mem_of_getElem? (i := 24) rfl))) (mvT hZ (own_selects (y := (⟨"com/example/plebiscite/plebiscite/Adjacency", "append", "(I)I"⟩ : MethodName)) (z := (⟨"com/example/plebiscite/plebiscite/Adjacency", "add", "(II)V"⟩ : MethodName)) rfl (hw _ (List.mem_of_getElem? (i := 25) rfl)) (hw _ (List.mem_of_getElem? (i := 24) rfl)) (hw _ (List.mem_of_getElem? (i := 21) rfl)) (by decide))) (Cond.privateMethod_at (mvP hZ (hw _ (List.mem_of_getElem? (i := 25) rfl)) (args := #[]))) (mvT hZ (hw _ (List.mem_of_getElem? (i := 26) rfl))) (by decide) (backOf (W := 0) (rm_apg l Z a0 hw [] o0 st_ dg_ rm_ it_ k1_ k2_ k3_ k4_ sl_ k5_ h0 n0 Z102 ⟨AX_101, Ag0_101, Ag1_101, Ag2_101, Ag3_101, Ag4_101, AF0_101, AF1_101, AF2_101, AF3_101, AF4_101, AF5_101, AF6_101, AF7_101, AF8_101, AV0_101, AV1_101, AV2_101, AV3_101, AN0_101, AN1_101, AN2_101, AN3_101, AN4_101, AN5_101, AN6_101, AN7_101, AN8_101, AN9_101⟩ ⟨SG_103, SV_103, SN0_103, SN1_103, SN2_103, SN3_103, SN4_103⟩) hZ (hw _ (List.mem_of_getElem? (i := 26) rfl)) (hw _ (List.mem_of_getElem? (i := 2) rfl)) (by decide) (by decide)) (g := (mkF m 2 #[rv o0, iv 0, iv p2, iv p3, .unset] [(.int 0), (.ref o0)])) rfl (by rw [hml]; rfl) (Steps.refl _) (a := o0) (by rw [e0]; exact qc104) qd104 (argsL := [(.int 0)]) (rest := []) (lenOf pd_4 rfl) rfl (by show 2 * 0 + _ ≤ _; exact Nat.le_of_eq rfl) (hb hby d11_2) (fun _ _ => ⟨rfl, e0, (by decide : 0 + 2 ≤ _), (by decide : 0 + 32 ≤ _)⟩)
  dsimp only [Pt.U, Pt.locs, Pt.cells, Pt.slots] at X104 l104 y104 z104 st104 hQ104
  rw [l104, y104, z104] at X104
  obtain ⟨it2, sl2, k42, k52, hv104, N104q, HA, HB⟩ := hQ104
  rw [hv104] at st104
  have N104 := Fr.app N0 N104q
  obtain ⟨AX_105, Ag0_105, Ag1_105, Ag2_105, Ag3_105, Ag4_105, AF0_105, AF1_105, AF2_105, AF3_105, AF4_105, AF5_105, AF6_105, AF7_105, AF8_105, AV0_105, AV1_105, AV2_105, AV3_105, AN0_105, AN1_105, AN2_105, AN3_105, AN4_105, AN5_105, AN6_105, AN7_105, AN8_105, AN9_105⟩ := HA
  have Z106 := Nat.le_trans Ag0_105 (Nat.le_of_lt AX_105.lt)
  obtain ⟨SG_107, SV_107, SN0_107, SN1_107, SN2_107, SN3_107, SN4_107⟩ := HB
  obtain ⟨T108, X108, e108, st108⟩ := getF X104 hx hZ hown (host := "") (Or.inl (hw _ (List.mem_of_getElem? (i := 16) rfl))) Via.refl rfl AF3_105 (g := (mkF m 8 #[rv o0, iv 0, iv p2, iv p3, iv 0] [(.ref o0)])) rfl rfl (hb hby d11_8)
  obtain ⟨cl109, Ar109, q109, S109, M109, Hs109, G109⟩ := AV3_105
  have f110 : Arv Z T104.heap it2 k42 .int (16 : Int32) [(.int 0), (.int 0), (.int 0), (.int 0), (.int 0), (.int 0), (.int 0), (.int 0), (.int 0), (.int 0), (.int 0), (.int 0), (.int 0), (.int 0), (.int 0), (.int 0)] (.int 0) := ⟨cl109, Ar109, q109, S109, M109, Hs109, G109⟩
  have hin111 : ¬ ((0 : Int32) < 0 ∨ cl109.slots.size ≤ ((0 : Int32)).toNatClampNeg) := inb_of S109 ⟨by decide, by decide⟩
  obtain ⟨T111, h111, X111, e111, W111, st111⟩ := stI X108 hx hZ e108 Ar109 (j := (0 : Int32)) hin111 (g := (mkF m 14 #[rv o0, iv 0, iv p2, iv p3, iv 0] [(.int p2), (.int 0), (.ref it2)])) rfl rfl (hb hby d11_14)
  have f112 := AX_105.wr W111
  have f113 := AF0_105.other W111 (Or.inl AN3_105)
  have f114 := AF1_105.other W111 (Or.inl AN3_105)
  have f115 := AF2_105.other W111 (Or.inl AN3_105)
  have f116 := AF3_105.other W111 (Or.inl AN3_105)
  have f117 := AF4_105.other W111 (Or.inl AN3_105)
  have f118 := AF5_105.other W111 (Or.inl AN3_105)
  have f119 := AF6_105.other W111 (Or.inl AN3_105)
  have f120 := AF7_105.other W111 (Or.inl AN3_105)
  have f121 := AF8_105.other W111 (Or.inl AN3_105)
  have f122 := AV0_105.other W111 AN6_105
  have f123 := AV1_105.other W111 AN8_105
  have f124 := AV2_105.other W111 AN9_105
  have f125 := SV_107.other W111 (Ne.symm SN4_107)
  have Z126 := Nat.le_trans Z106 (Keep.of_wr W111).1
  have V111 : Arv Z h111 it2 k42 .int (16 : Int32) [(.int p2), (.int 0), (.int 0), (.int 0), (.int 0), (.int 0), (.int 0), (.int 0), (.int 0), (.int 0), (.int 0), (.int 0), (.int 0), (.int 0), (.int 0), (.int 0)] (.int 0) := Arv.set Ar109 q109 S109 M109 Hs109 G109 rfl W111 0 rfl (Nat.le_of_ble_eq_true rfl)
  have N111 := Fr.snoc X111 N104 Ag4_105
  obtain ⟨T127, X127, e127, st127⟩ := getF X111 hx hZ hown (host := "") (Or.inl (hw _ (List.mem_of_getElem? (i := 52) rfl))) Via.refl e111 f117 (g := (mkF m 16 #[rv o0, iv 0, iv p2, iv p3, iv 0] [(.ref o0)])) rfl rfl (hb hby d11_16)
  obtain ⟨cl128, Ar128, q128, S128, M128, Hs128, G128⟩ := f125
  have f129 : Arv Z h111 sl2 k52 .int (16 : Int32) [(.int 0), (.int 0), (.int 0), (.int 0), (.int 0), (.int 0), (.int 0), (.int 0), (.int 0), (.int 0), (.int 0), (.int 0), (.int 0), (.int 0), (.int 0), (.int 0)] (.int 0) := ⟨cl128, Ar128, q128, S128, M128, Hs128, G128⟩
  have hin130 : ¬ ((0 : Int32) < 0 ∨ cl128.slots.size ≤ ((0 : Int32)).toNatClampNeg) := inb_of S128 ⟨by decide, by decide⟩
  obtain ⟨T130, h130, X130, e130, W130, st130⟩ := stI X127 hx hZ e127 Ar128 (j := (0 : Int32)) hin130 (g := (mkF m 22 #[rv o0, iv 0, iv p2, iv p3, iv 0] [(.int p3), (.int 0), (.ref sl2)])) rfl rfl (hb hby d11_22)
  have f131 := f112.wr W130
  have f132 := f113.other W130 (Or.inl SN0_107)
  have f133 := f114.other W130 (Or.inl SN0_107)
  have f134 := f115.other W130 (Or.inl SN0_107)
  have f135 := f116.other W130 (Or.inl SN0_107)
  have f136 := f117.other W130 (Or.inl SN0_107)
  have f137 := f118.other W130 (Or.inl SN0_107)
  have f138 := f119.other W130 (Or.inl SN0_107)
  have f139 := f120.other W130 (Or.inl SN0_107)
  have f140 := f121.other W130 (Or.inl SN0_107)
  have f141 := f122.other W130 SN1_107
  have f142 := f123.other W130 SN2_107
  have f143 := f124.other W130 SN3_107
  have f144 := V111.other W130 SN4_107
  have Z145 := Nat.le_trans Z126 (Keep.of_wr W130).1
  have V130 : Arv Z h130 sl2 k52 .int (16 : Int32) [(.int p3), (.int 0), (.int 0), (.int 0), (.int 0), (.int 0), (.int 0), (.int 0), (.int 0), (.int 0), (.int 0), (.int 0), (.int 0), (.int 0), (.int 0), (.int 0)] (.int 0) := Arv.set Ar128 q128 S128 M128 Hs128 G128 rfl W130 0 rfl (Nat.le_of_ble_eq_true rfl)
  have N130 := Fr.snoc X130 N111 SG_107
  have go146 : ∀ t, Steps p.tables e below (T130.setTop (mkF m 23 #[rv o0, iv 0, iv p2, iv p3, iv 0] [])) t → Steps p.tables e below O t := fun t k => go0 t (by
    refine XS.aloadN X0.here hx rfl (hb hby d11_0) rfl rfl ?_
    refine XS.iloadN X0.here hx rfl (hb hby d11_1) rfl ?_
    show Steps _ _ _ (s₁.setTop (mkF m 2 _ [(.int 0), (.ref o0)])) _
    refine st104.trans ?_
    show Steps _ _ _ (T104.setTop (mkF m 5 _ [(.int 0)])) _
    refine XS.istore X104.here hx rfl (hb hby d11_5) rfl (l' := #[rv o0, iv 0, iv p2, iv p3, iv 0]) rfl ?_
    show Steps _ _ _ (T104.setTop (mkF m 7 _ [])) _
    refine XS.aloadN X104.here hx rfl (hb hby d11_7) rfl rfl ?_
    refine st108 _ ?_
    show Steps _ _ _ (T108.setTop (mkF m 11 _ [(.ref it2)])) _
    refine XS.iload X108.here hx rfl (hb hby d11_11) rfl ?_
    refine XS.iloadN X108.here hx rfl (hb hby d11_13) rfl ?_
    show Steps _ _ _ (T108.setTop (mkF m 14 _ [(.int p2), (.int 0), (.ref it2)])) _
    refine st111 _ ?_
    show Steps _ _ _ (T111.setTop (mkF m 15 _ [])) _
    refine XS.aloadN X111.here hx rfl (hb hby d11_15) rfl rfl ?_
    refine st127 _ ?_
    show Steps _ _ _ (T127.setTop (mkF m 19 _ [(.ref sl2)])) _
    refine XS.iload X127.here hx rfl (hb hby d11_19) rfl ?_
    refine XS.iloadN X127.here hx rfl (hb hby d11_21) rfl ?_
    show Steps _ _ _ (T127.setTop (mkF m 22 _ [(.int p3), (.int 0), (.ref sl2)])) _
    refine st130 _ ?_
    show Steps _ _ _ (T130.setTop (mkF m 23 _ [])) _
    exact k)
  rw [hO] at go146
  obtain ⟨fs, hr, hrun, hended, hW, hsame⟩ := X130.leave (v := none) (fun _ => rfl)
  refine ⟨_, _, go146 _ ?_, hrun, hended, _, _, rfl, ?_, ⟨_, rfl⟩, hW, hsame.mono (by decide) (by decide)⟩
  · exact X130.returnOut hx Bd.returns (hb hby d11_23) hr
  · show Q_adg Z o0 p2 p3 st_ dg_ rm_ it_ k1_ k2_ k3_ k4_ sl_ k5_ h0 n0 _ T130.heap _
    rw [e130]
    exact ⟨it2, sl2, k42, k52, rfl, N130, ⟨f131, Ag0_105, Ag1_105, Ag2_105, Ag3_105, Ag4_105, f132, f133, f134, f135, f136, f137, f138, f139, f140, f141, f142, f143, f144, AN0_105, AN1_105, AN2_105, AN3_105, AN4_105, AN5_105, AN6_105, AN7_105, AN8_105, AN9_105⟩, ⟨SG_107, V130, SN0_107, SN1_107, SN2_107, SN3_107, SN4_107⟩⟩
theorem ef_rmu (m : MethodId) (x0 : Addr) (x1 : Int32) (x2 : Int32) : entryFrame m #[(.ref x0), (.int x1), (.int x2)] 4 = mkF m 0 #[rv x0, iv x1, iv x2, .unset] [] := by first | (simp [entryFrame, mkF, argsToLocals, Value.category]; done) | rfl
def Q_rmu (Z : State) (o0 : Addr) (p2 : Int32) (st_ : Addr) (dg_ : Addr) (rm_ : Addr) (it_ : Addr) (k1_ : ClassId) (k2_ : ClassId) (k3_ : ClassId) (k4_ : ClassId) (zi_ : Int32) (its_ : List Value) (d_ : Int32) (w_ : Int32) (h0 : Heap) (n0 : Nat) (v : Option Value) (h : Heap) (L : List Loc) : Prop := v = none ∧ Fr n0 L ∧ own_A Z h n0 o0 st_ dg_ rm_ it_ k1_ k2_ k3_ k4_ zi_ (its_.set ((0 : Int32) + p2).toNatClampNeg (.int w_)) .null (d_ - (1 : Int32)) d_ d_ d_ (d_ - (1 : Int32))
theorem d13_0 : decode prog_2_method_18_code 0 = .ok (.aload_n 0, 1) := by decide +kernel
theorem d13_1 : decode prog_2_method_18_code 1 = .ok (.getfield 12, 3) := by decide +kernel
theorem d13_4 : decode prog_2_method_18_code 4 = .ok (.iload_n 1, 1) := by decide +kernel
theorem d13_5 : decode prog_2_method_18_code 5 = .ok (.iaload, 1) := by decide +kernel
theorem d13_6 : decode prog_2_method_18_code 6 = .ok (.aload_n 0, 1) := by decide +kernel
theorem d13_7 : decode prog_2_method_18_code 7 = .ok (.getfield 16, 3) := by decide +kernel
theorem d13_10 : decode prog_2_method_18_code 10 = .ok (.iload_n 1, 1) := by decide +kernel
theorem d13_11 : decode prog_2_method_18_code 11 = .ok (.dup2, 1) := by decide +kernel
theorem d13_12 : decode prog_2_method_18_code 12 = .ok (.iaload, 1) := by decide +kernel
theorem d13_13 : decode prog_2_method_18_code 13 = .ok (.iconst 1, 1) := by decide +kernel
theorem d13_14 : decode prog_2_method_18_code 14 = .ok (.isub, 1) := by decide +kernel
theorem d13_15 : decode prog_2_method_18_code 15 = .ok (.dup_x2, 1) := by decide +kernel
theorem d13_16 : decode prog_2_method_18_code 16 = .ok (.iastore, 1) := by decide +kernel
theorem d13_17 : decode prog_2_method_18_code 17 = .ok (.iadd, 1) := by decide +kernel
theorem d13_18 : decode prog_2_method_18_code 18 = .ok (.istore_n 3, 1) := by decide +kernel
theorem d13_19 : decode prog_2_method_18_code 19 = .ok (.aload_n 0, 1) := by decide +kernel
theorem d13_20 : decode prog_2_method_18_code 20 = .ok (.getfield 22, 3) := by decide +kernel
theorem d13_23 : decode prog_2_method_18_code 23 = .ok (.aload_n 0, 1) := by decide +kernel
theorem d13_24 : decode prog_2_method_18_code 24 = .ok (.getfield 12, 3) := by decide +kernel
theorem d13_27 : decode prog_2_method_18_code 27 = .ok (.iload_n 1, 1) := by decide +kernel
theorem d13_28 : decode prog_2_method_18_code 28 = .ok (.iaload, 1) := by decide +kernel
theorem d13_29 : decode prog_2_method_18_code 29 = .ok (.iload_n 2, 1) := by decide +kernel
theorem d13_30 : decode prog_2_method_18_code 30 = .ok (.iadd, 1) := by decide +kernel
theorem d13_31 : decode prog_2_method_18_code 31 = .ok (.aload_n 0, 1) := by decide +kernel
theorem d13_32 : decode prog_2_method_18_code 32 = .ok (.getfield 22, 3) := by decide +kernel
theorem d13_35 : decode prog_2_method_18_code 35 = .ok (.iload_n 3, 1) := by decide +kernel
theorem d13_36 : decode prog_2_method_18_code 36 = .ok (.iaload, 1) := by decide +kernel
theorem d13_37 : decode prog_2_method_18_code 37 = .ok (.iastore, 1) := by decide +kernel
theorem d13_38 : decode prog_2_method_18_code 38 = .ok (.aload_n 0, 1) := by decide +kernel
theorem d13_39 : decode prog_2_method_18_code 39 = .ok (.getfield 65, 3) := by decide +kernel
theorem d13_42 : decode prog_2_method_18_code 42 = .ok (.ifnull 22, 3) := by decide +kernel
theorem d13_64 : decode prog_2_method_18_code 64 = .ok (.aload_n 0, 1) := by decide +kernel
theorem d13_65 : decode prog_2_method_18_code 65 = .ok (.dup, 1) := by decide +kernel
theorem d13_66 : decode prog_2_method_18_code 66 = .ok (.getfield 79, 3) := by decide +kernel
theorem d13_69 : decode prog_2_method_18_code 69 = .ok (.iconst 1, 1) := by decide +kernel
theorem d13_70 : decode prog_2_method_18_code 70 = .ok (.isub, 1) := by decide +kernel
theorem d13_71 : decode prog_2_method_18_code 71 = .ok (.putfield 79, 3) := by decide +kernel
theorem d13_74 : decode prog_2_method_18_code 74 = .ok (.return_, 1) := by decide +kernel
set_option maxRecDepth 65536 in
set_option maxHeartbeats 40000000 in
theorem rm_rmu (l : Launch) (Z : State) (a0 : Array Value) (hw : ∀ d ∈ tables_1, d.before a0 Z = true) (ws : List Jvm.Cond) (o0 : Addr) (p2 : Int32) (st_ : Addr) (dg_ : Addr) (rm_ : Addr) (it_ : Addr) (k1_ : ClassId) (k2_ : ClassId) (k3_ : ClassId) (k4_ : ClassId) (zi_ : Int32) (its_ : List Value) (d_ : Int32) (w_ : Int32) (h0 : Heap) (n0 : Nat) (Z0 : n0 ≤ h0.size) (H : own_A Z h0 n0 o0 st_ dg_ rm_ it_ k1_ k2_ k3_ k4_ zi_ its_ .null d_ d_ d_ d_ d_) (hin1 : ¬ ((0 : Int32) + (d_ - (1 : Int32))) < 0 ∧ ((0 : Int32) + (d_ - (1 : Int32))) < zi_) (hat1 : its_.getD ((0 : Int32) + (d_ - (1 : Int32))).toNatClampNeg (.int (0 : Int32)) = .int w_) (hin2 : ¬ ((0 : Int32) + p2) < 0 ∧ ((0 : Int32) + p2) < zi_) (hl2 : ((0 : Int32) + p2).toNatClampNeg < its_.length) :
    MetFree l (⟨"com/example/plebiscite/plebiscite/Adjacency", "remove", "(II)V"⟩ : MethodName) (head1 (Jvm.Cond.code (⟨"com/example/plebiscite/plebiscite/Adjacency", "remove", "(II)V"⟩ : MethodName) prog_2_method_18_code 4 none :: ws) ({ frames := 0, cells := 0, slots := 0, locals := 0 } : Room)) (fun a U => a = #[(.ref o0), (.int 0), (.int p2)] ∧ Z.Warmed39 U.vm ∧ U.heap = h0) (fun _ _ _ _ _ => True) (fun _ U o U' => ∃ v L, o = .returned v ∧ Q_rmu Z o0 p2 st_ dg_ rm_ it_ k1_ k2_ k3_ k4_ zi_ its_ d_ w_ h0 n0 v U'.heap L ∧ FrameEnd U o U' L ({ frames := 0, cells := 0, slots := 0, locals := 0 } : Room).cells ({ frames := 0, cells := 0, slots := 0, locals := 0 } : Room).slots) := by
  refine MetFree.of_bodySF (plainFor_of_name pn_0) hisR ?_
  intro p e s m args below meth c s₁ Bd hml0 hP hK
  obtain ⟨rfl, hZ, hh⟩ := hP
  have hx := Bd.exec
  have hby := Bd.bytes
  have hml : c.maxLocals = 4 := hml0
  have hown : s.vm.findClass "com/example/plebiscite/plebiscite/Adjacency" = some m.cls := findClass_of_methodNamed Bd.named
  have hnm := (name_of_methodNamed Bd.named Bd.method).1
  have X0 : Stand p l e ({ frames := 0, cells := 0, slots := 0, locals := 0 } : Room) s m #[(.ref o0), (.int 0), (.int p2)] below meth c s₁ [] 0 0 := Stand.of_body Bd
  have e0 : s₁.heap = h0 := by rw [← hh, Bd.state]; rfl
  have N0 := Fr.nil n0
  have go0 : ∀ t, Steps p.tables e below (s₁.setTop (mkF m 0 #[rv o0, iv 0, iv p2, .unset] [])) t → Steps p.tables e below (s₁.setTop (entryFrame m #[(.ref o0), (.int 0), (.int p2)] 4)) t := fun t k => castTop (ef_rmu m o0 (0 : Int32) p2) k
  obtain ⟨O, hO⟩ : ∃ z, z = (s₁.setTop (entryFrame m #[(.ref o0), (.int 0), (.int p2)] 4)) := ⟨_, rfl⟩
  rw [← hO] at go0
  obtain ⟨AX_101, Ag0_101, Ag1_101, Ag2_101, Ag3_101, Ag4_101, AF0_101, AF1_101, AF2_101, AF3_101, AF4_101, AF5_101, AF6_101, AF7_101, AF8_101, AV0_101, AV1_101, AV2_101, AV3_101, AN0_101, AN1_101, AN2_101, AN3_101, AN4_101, AN5_101, AN6_101, AN7_101, AN8_101, AN9_101⟩ := H
  have Z102 := Nat.le_trans Ag0_101 (Nat.le_of_lt AX_101.lt)
  obtain ⟨T103, X103, e103, st103⟩ := getF X0 hx hZ hown (host := "") (Or.inl (hw _ (List.mem_of_getElem? (i := 10) rfl))) Via.refl e0 AF0_101 (g := (mkF m 1 #[rv o0, iv 0, iv p2, .unset] [(.ref o0)])) rfl rfl (hb hby d13_1)
  obtain ⟨cl104, Ar104, q104, S104, M104, Hs104, G104⟩ := AV0_101
  have f105 : Arv Z h0 st_ k1_ .int (1 : Int32) [(.int 0)] (.int 0) := ⟨cl104, Ar104, q104, S104, M104, Hs104, G104⟩
  have hin106 : ¬ ((0 : Int32) < 0 ∨ cl104.slots.size ≤ ((0 : Int32)).toNatClampNeg) := inb_of S104 ⟨by decide, by decide⟩
  have hat106 : cl104.slots[((0 : Int32)).toNatClampNeg]? = some (.int 0) := Hs104.at hin106 rfl
  obtain ⟨T107, X107, e107, st107⟩ := getF X103 hx hZ hown (host := "") (Or.inl (hw _ (List.mem_of_getElem? (i := 12) rfl))) Via.refl e103 AF1_101 (g := (mkF m 7 #[rv o0, iv 0, iv p2, .unset] [(.ref o0), (.int 0)])) rfl rfl (hb hby d13_7)
  obtain ⟨cl108, Ar108, q108, S108, M108, Hs108, G108⟩ := AV1_101
  have f109 : Arv Z h0 dg_ k2_ .int (1 : Int32) [(.int d_)] (.int 0) := ⟨cl108, Ar108, q108, S108, M108, Hs108, G108⟩
  have hin110 : ¬ ((0 : Int32) < 0 ∨ cl108.slots.size ≤ ((0 : Int32)).toNatClampNeg) := inb_of S108 ⟨by decide, by decide⟩
  have hat110 : cl108.slots[((0 : Int32)).toNatClampNeg]? = some (.int d_) := Hs108.at hin110 rfl
  obtain ⟨cl111, Ar111, q111, S111, M111, Hs111, G111⟩ := f109
  have f112 : Arv Z h0 dg_ k2_ .int (1 : Int32) [(.int d_)] (.int 0) := ⟨cl111, Ar111, q111, S111, M111, Hs111, G111⟩
  have hin113 : ¬ ((0 : Int32) < 0 ∨ cl111.slots.size ≤ ((0 : Int32)).toNatClampNeg) := inb_of S111 ⟨by decide, by decide⟩
  obtain ⟨T113, h113, X113, e113, W113, st113⟩ := stI X107 hx hZ e107 Ar111 (j := (0 : Int32)) hin113 (g := (mkF m 16 #[rv o0, iv 0, iv p2, .unset] [(.int (d_ - (1 : Int32))), (.int 0), (.ref dg_), (.int (d_ - (1 : Int32))), (.int 0)])) rfl rfl (hb hby d13_16)
  have f114 := AX_101.wr W113
  have f115 := AF0_101.other W113 (Or.inl AN1_101)
  have f116 := AF1_101.other W113 (Or.inl AN1_101)
  have f117 := AF2_101.other W113 (Or.inl AN1_101)
  have f118 := AF3_101.other W113 (Or.inl AN1_101)
  have f119 := AF4_101.other W113 (Or.inl AN1_101)
  have f120 := AF5_101.other W113 (Or.inl AN1_101)
  have f121 := AF6_101.other W113 (Or.inl AN1_101)
  have f122 := AF7_101.other W113 (Or.inl AN1_101)
  have f123 := AF8_101.other W113 (Or.inl AN1_101)
  have f124 := f105.other W113 AN4_101
  have f125 := AV2_101.other W113 (Ne.symm AN7_101)
  have f126 := AV3_101.other W113 (Ne.symm AN8_101)
  have Z127 := Nat.le_trans Z102 (Keep.of_wr W113).1
  have V113 : Arv Z h113 dg_ k2_ .int (1 : Int32) [(.int (d_ - (1 : Int32)))] (.int 0) := Arv.set Ar111 q111 S111 M111 Hs111 G111 rfl W113 0 rfl (Nat.le_of_ble_eq_true rfl)
  have N113 := Fr.snoc X113 N0 Ag2_101
  obtain ⟨T128, X128, e128, st128⟩ := getF X113 hx hZ hown (host := "") (Or.inl (hw _ (List.mem_of_getElem? (i := 16) rfl))) Via.refl e113 f118 (g := (mkF m 20 #[rv o0, iv 0, iv p2, iv ((0 : Int32) + (d_ - (1 : Int32)))] [(.ref o0)])) rfl rfl (hb hby d13_20)
  obtain ⟨T129, X129, e129, st129⟩ := getF X128 hx hZ hown (host := "") (Or.inl (hw _ (List.mem_of_getElem? (i := 10) rfl))) Via.refl e128 f115 (g := (mkF m 24 #[rv o0, iv 0, iv p2, iv ((0 : Int32) + (d_ - (1 : Int32)))] [(.ref o0), (.ref it_)])) rfl rfl (hb hby d13_24)
  obtain ⟨cl130, Ar130, q130, S130, M130, Hs130, G130⟩ := f124
  have f131 : Arv Z h113 st_ k1_ .int (1 : Int32) [(.int 0)] (.int 0) := ⟨cl130, Ar130, q130, S130, M130, Hs130, G130⟩
  have hin132 : ¬ ((0 : Int32) < 0 ∨ cl130.slots.size ≤ ((0 : Int32)).toNatClampNeg) := inb_of S130 ⟨by decide, by decide⟩
  have hat132 : cl130.slots[((0 : Int32)).toNatClampNeg]? = some (.int 0) := Hs130.at hin132 rfl
  obtain ⟨T133, X133, e133, st133⟩ := getF X129 hx hZ hown (host := "") (Or.inl (hw _ (List.mem_of_getElem? (i := 16) rfl))) Via.refl e129 f118 (g := (mkF m 32 #[rv o0, iv 0, iv p2, iv ((0 : Int32) + (d_ - (1 : Int32)))] [(.ref o0), (.int ((0 : Int32) + p2)), (.ref it_)])) rfl rfl (hb hby d13_32)
  obtain ⟨cl134, Ar134, q134, S134, M134, Hs134, G134⟩ := f126
  have f135 : Arv Z h113 it_ k4_ .int zi_ its_ (.int 0) := ⟨cl134, Ar134, q134, S134, M134, Hs134, G134⟩
  have hin136 : ¬ (((0 : Int32) + (d_ - (1 : Int32))) < 0 ∨ cl134.slots.size ≤ (((0 : Int32) + (d_ - (1 : Int32)))).toNatClampNeg) := inb_of S134 hin1
  have hat136 : cl134.slots[(((0 : Int32) + (d_ - (1 : Int32)))).toNatClampNeg]? = some (.int w_) := Hs134.at hin136 hat1
  obtain ⟨cl137, Ar137, q137, S137, M137, Hs137, G137⟩ := f135
  have f138 : Arv Z h113 it_ k4_ .int zi_ its_ (.int 0) := ⟨cl137, Ar137, q137, S137, M137, Hs137, G137⟩
  have hin139 : ¬ (((0 : Int32) + p2) < 0 ∨ cl137.slots.size ≤ (((0 : Int32) + p2)).toNatClampNeg) := inb_of S137 hin2
  obtain ⟨T139, h139, X139, e139, W139, st139⟩ := stI X133 hx hZ e133 Ar137 (j := ((0 : Int32) + p2)) hin139 (g := (mkF m 37 #[rv o0, iv 0, iv p2, iv ((0 : Int32) + (d_ - (1 : Int32)))] [(.int w_), (.int ((0 : Int32) + p2)), (.ref it_)])) rfl rfl (hb hby d13_37)
  have f140 := f114.wr W139
  have f141 := f115.other W139 (Or.inl AN3_101)
  have f142 := f116.other W139 (Or.inl AN3_101)
  have f143 := f117.other W139 (Or.inl AN3_101)
  have f144 := f118.other W139 (Or.inl AN3_101)
  have f145 := f119.other W139 (Or.inl AN3_101)
  have f146 := f120.other W139 (Or.inl AN3_101)
  have f147 := f121.other W139 (Or.inl AN3_101)
  have f148 := f122.other W139 (Or.inl AN3_101)
  have f149 := f123.other W139 (Or.inl AN3_101)
  have f150 := f131.other W139 AN6_101
  have f151 := V113.other W139 AN8_101
  have f152 := f125.other W139 AN9_101
  have Z153 := Nat.le_trans Z127 (Keep.of_wr W139).1
  have V139 : Arv Z h139 it_ k4_ .int zi_ (its_.set (((0 : Int32) + p2)).toNatClampNeg (.int w_)) (.int 0) := Arv.set Ar137 q137 S137 M137 Hs137 G137 rfl W139 (((0 : Int32) + p2)).toNatClampNeg rfl hl2
  have N139 := Fr.snoc X139 N113 Ag4_101
  obtain ⟨T154, X154, e154, st154⟩ := getF X139 hx hZ hown (host := "") (Or.inl (hw _ (List.mem_of_getElem? (i := 52) rfl))) Via.refl e139 f145 (g := (mkF m 39 #[rv o0, iv 0, iv p2, iv ((0 : Int32) + (d_ - (1 : Int32)))] [(.ref o0)])) rfl rfl (hb hby d13_39)
  obtain ⟨T155, X155, e155, st155⟩ := getF X154 hx hZ hown (host := "") (Or.inl (hw _ (List.mem_of_getElem? (i := 45) rfl))) Via.refl e154 f148 (g := (mkF m 66 #[rv o0, iv 0, iv p2, iv ((0 : Int32) + (d_ - (1 : Int32)))] [(.ref o0), (.ref o0)])) rfl rfl (hb hby d13_66)
  obtain ⟨T156, h156, X156, e156, W156, st156⟩ := putF X155 hx hZ hown (host := "") (Or.inl (hw _ (List.mem_of_getElem? (i := 45) rfl))) Via.refl e155 f148 f140 (Or.inl (hw _ (List.mem_of_getElem? (i := 46) rfl))) (hw _ (List.mem_of_getElem? (i := 1) rfl)) (ty := .int) (by decide) rfl rfl (g := (mkF m 71 #[rv o0, iv 0, iv p2, iv ((0 : Int32) + (d_ - (1 : Int32)))] [(.int (d_ - (1 : Int32))), (.ref o0)])) rfl rfl (hb hby d13_71)
  have f157 := f140.wr W156
  have f158 := f141.other W156 (Or.inr (slot_ne (Or.inr (hw _ (List.mem_of_getElem? (i := 11) rfl))) (Or.inl (hw _ (List.mem_of_getElem? (i := 46) rfl))) (by decide) (t := (.array .int)) (t' := .int) (by decide) (by decide)))
  have f159 := f142.other W156 (Or.inr (slot_ne (Or.inr (hw _ (List.mem_of_getElem? (i := 13) rfl))) (Or.inl (hw _ (List.mem_of_getElem? (i := 46) rfl))) (by decide) (t := (.array .int)) (t' := .int) (by decide) (by decide)))
  have f160 := f143.other W156 (Or.inr (slot_ne (Or.inl (hw _ (List.mem_of_getElem? (i := 15) rfl))) (Or.inl (hw _ (List.mem_of_getElem? (i := 46) rfl))) (by decide) (t := (.array .int)) (t' := .int) (by decide) (by decide)))
  have f161 := f144.other W156 (Or.inr (slot_ne (Or.inl (hw _ (List.mem_of_getElem? (i := 17) rfl))) (Or.inl (hw _ (List.mem_of_getElem? (i := 46) rfl))) (by decide) (t := (.array .int)) (t' := .int) (by decide) (by decide)))
  have f162 := f145.other W156 (Or.inr (slot_ne (Or.inl (hw _ (List.mem_of_getElem? (i := 53) rfl))) (Or.inl (hw _ (List.mem_of_getElem? (i := 46) rfl))) (by decide) (t := (.array .int)) (t' := .int) (by decide) (by decide)))
  have f163 := f146.other W156 (Or.inr (slot_ne (Or.inl (hw _ (List.mem_of_getElem? (i := 38) rfl))) (Or.inl (hw _ (List.mem_of_getElem? (i := 46) rfl))) (by decide) (t := .int) (t' := .int) (by decide) (by decide)))
  have f164 := f147.other W156 (Or.inr (slot_ne (Or.inl (hw _ (List.mem_of_getElem? (i := 44) rfl))) (Or.inl (hw _ (List.mem_of_getElem? (i := 46) rfl))) (by decide) (t := .int) (t' := .int) (by decide) (by decide)))
  have f165 := f149.other W156 (Or.inr (slot_ne (Or.inl (hw _ (List.mem_of_getElem? (i := 28) rfl))) (Or.inl (hw _ (List.mem_of_getElem? (i := 46) rfl))) (by decide) (t := (.array .int)) (t' := .int) (by decide) (by decide)))
  have f166 := f150.other W156 (Ne.symm AN0_101)
  have f167 := f151.other W156 (Ne.symm AN1_101)
  have f168 := f152.other W156 (Ne.symm AN2_101)
  have f169 := V139.other W156 (Ne.symm AN3_101)
  have Z170 := Nat.le_trans Z153 (Keep.of_wr W156).1
  have f171 := f148.same W156
  have N156 := Fr.snoc X156 N139 Ag0_101
  have go172 : ∀ t, Steps p.tables e below (T156.setTop (mkF m 74 #[rv o0, iv 0, iv p2, iv ((0 : Int32) + (d_ - (1 : Int32)))] [])) t → Steps p.tables e below O t := fun t k => go0 t (by
    refine XS.aloadN X0.here hx rfl (hb hby d13_0) rfl rfl ?_
    refine st103 _ ?_
    show Steps _ _ _ (T103.setTop (mkF m 4 _ [(.ref st_)])) _
    refine XS.iloadN X103.here hx rfl (hb hby d13_4) rfl ?_
    refine X103.iaload hx (j := (0 : Int32)) (v := (.int 0)) (by rw [e103]; exact Ar104.1) (State.isArrayOf_alike hZ.alike Ar104.2.1) Ar104.2.2 hin106 hat106 (g := (mkF m 5 #[rv o0, iv 0, iv p2, .unset] [(.int 0), (.ref st_)])) rfl rfl (hb hby d13_5) _ ?_
    show Steps _ _ _ (T103.setTop (mkF m 6 _ [(.int 0)])) _
    refine XS.aloadN X103.here hx rfl (hb hby d13_6) rfl rfl ?_
    refine st107 _ ?_
    show Steps _ _ _ (T107.setTop (mkF m 10 _ [(.ref dg_), (.int 0)])) _
    refine XS.iloadN X107.here hx rfl (hb hby d13_10) rfl ?_
    refine XT.dup2 X107.here hx rfl (hb hby d13_11) rfl rfl rfl ?_
    show Steps _ _ _ (T107.setTop (mkF m 12 _ [(.int 0), (.ref dg_), (.int 0), (.ref dg_), (.int 0)])) _
    refine X107.iaload hx (j := (0 : Int32)) (v := (.int d_)) (by rw [e107]; exact Ar108.1) (State.isArrayOf_alike hZ.alike Ar108.2.1) Ar108.2.2 hin110 hat110 (g := (mkF m 12 #[rv o0, iv 0, iv p2, .unset] [(.int 0), (.ref dg_), (.int 0), (.ref dg_), (.int 0)])) rfl rfl (hb hby d13_12) _ ?_
    refine XS.iconst X107.here hx rfl (hb hby d13_13) ?_
    show Steps _ _ _ (T107.setTop (mkF m 14 _ [(.int 1), (.int d_), (.int 0), (.ref dg_), (.int 0)])) _
    refine XS.isub X107.here hx rfl (hb hby d13_14) rfl ?_
    jvm_step X107.here [X107.here.top, hx, (hb hby d13_15), Value.category]
    show Steps _ _ _ (T107.setTop (mkF m 16 _ [(.int (d_ - (1 : Int32))), (.int 0), (.ref dg_), (.int (d_ - (1 : Int32))), (.int 0)])) _
    refine st113 _ ?_
    show Steps _ _ _ (T113.setTop (mkF m 17 _ [(.int (d_ - (1 : Int32))), (.int 0)])) _
    refine XS.iadd X113.here hx rfl (hb hby d13_17) rfl ?_
    refine XS.istoreN X113.here hx rfl (hb hby d13_18) rfl (l' := #[rv o0, iv 0, iv p2, iv ((0 : Int32) + (d_ - (1 : Int32)))]) rfl ?_
    show Steps _ _ _ (T113.setTop (mkF m 19 _ [])) _
    refine XS.aloadN X113.here hx rfl (hb hby d13_19) rfl rfl ?_
    refine st128 _ ?_
    show Steps _ _ _ (T128.setTop (mkF m 23 _ [(.ref it_)])) _
    refine XS.aloadN X128.here hx rfl (hb hby d13_23) rfl rfl ?_
    refine st129 _ ?_
    show Steps _ _ _ (T129.setTop (mkF m 27 _ [(.ref st_), (.ref it_)])) _
    refine XS.iloadN X129.here hx rfl (hb hby d13_27) rfl ?_
    refine X129.iaload hx (j := (0 : Int32)) (v := (.int 0)) (by rw [e129]; exact Ar130.1) (State.isArrayOf_alike hZ.alike Ar130.2.1) Ar130.2.2 hin132 hat132 (g := (mkF m 28 #[rv o0, iv 0, iv p2, iv ((0 : Int32) + (d_ - (1 : Int32)))] [(.int 0), (.ref st_), (.ref it_)])) rfl rfl (hb hby d13_28) _ ?_
    show Steps _ _ _ (T129.setTop (mkF m 29 _ [(.int 0), (.ref it_)])) _
    refine XS.iloadN X129.here hx rfl (hb hby d13_29) rfl ?_
    refine XS.iadd X129.here hx rfl (hb hby d13_30) rfl ?_
    show Steps _ _ _ (T129.setTop (mkF m 31 _ [(.int ((0 : Int32) + p2)), (.ref it_)])) _
    refine XS.aloadN X129.here hx rfl (hb hby d13_31) rfl rfl ?_
    refine st133 _ ?_
    show Steps _ _ _ (T133.setTop (mkF m 35 _ [(.ref it_), (.int ((0 : Int32) + p2)), (.ref it_)])) _
    refine XS.iloadN X133.here hx rfl (hb hby d13_35) rfl ?_
    refine X133.iaload hx (j := ((0 : Int32) + (d_ - (1 : Int32)))) (v := (.int w_)) (by rw [e133]; exact Ar134.1) (State.isArrayOf_alike hZ.alike Ar134.2.1) Ar134.2.2 hin136 hat136 (g := (mkF m 36 #[rv o0, iv 0, iv p2, iv ((0 : Int32) + (d_ - (1 : Int32)))] [(.int ((0 : Int32) + (d_ - (1 : Int32)))), (.ref it_), (.int ((0 : Int32) + p2)), (.ref it_)])) rfl rfl (hb hby d13_36) _ ?_
    show Steps _ _ _ (T133.setTop (mkF m 37 _ [(.int w_), (.int ((0 : Int32) + p2)), (.ref it_)])) _
    refine st139 _ ?_
    show Steps _ _ _ (T139.setTop (mkF m 38 _ [])) _
    refine XS.aloadN X139.here hx rfl (hb hby d13_38) rfl rfl ?_
    refine st154 _ ?_
    show Steps _ _ _ (T154.setTop (mkF m 42 _ [.null])) _
    refine XS.ifnullYes X154.here hx rfl (pc0 := 42) (pc' := 64) rfl (hb hby d13_42) rfl (by decide) (by decide) ?_
    refine XS.aloadN X154.here hx rfl (hb hby d13_64) rfl rfl ?_
    show Steps _ _ _ (T154.setTop (mkF m 65 _ [(.ref o0)])) _
    refine XS.dup X154.here hx rfl (hb hby d13_65) rfl rfl ?_
    refine st155 _ ?_
    show Steps _ _ _ (T155.setTop (mkF m 69 _ [(.int d_), (.ref o0)])) _
    refine XS.iconst X155.here hx rfl (hb hby d13_69) ?_
    refine XS.isub X155.here hx rfl (hb hby d13_70) rfl ?_
    show Steps _ _ _ (T155.setTop (mkF m 71 _ [(.int (d_ - (1 : Int32))), (.ref o0)])) _
    refine st156 _ ?_
    show Steps _ _ _ (T156.setTop (mkF m 74 _ [])) _
    exact k)
  rw [hO] at go172
  obtain ⟨fs, hr, hrun, hended, hW, hsame⟩ := X156.leave (v := none) (fun _ => rfl)
  refine ⟨_, _, go172 _ ?_, hrun, hended, _, _, rfl, ?_, ⟨_, rfl⟩, hW, hsame.mono (by decide) (by decide)⟩
  · exact X156.returnOut hx Bd.returns (hb hby d13_74) hr
  · show Q_rmu Z o0 p2 st_ dg_ rm_ it_ k1_ k2_ k3_ k4_ zi_ its_ d_ w_ h0 n0 _ T156.heap _
    rw [e156]
    exact ⟨rfl, N156, ⟨f157, Ag0_101, Ag1_101, Ag2_101, Ag3_101, Ag4_101, f158, f159, f160, f161, f162, f163, f164, f171, f165, f166, f167, f168, f169, AN0_101, AN1_101, AN2_101, AN3_101, AN4_101, AN5_101, AN6_101, AN7_101, AN8_101, AN9_101⟩⟩
theorem ef_rmp (m : MethodId) (x0 : Addr) (x1 : Int32) (x2 : Int32) : entryFrame m #[(.ref x0), (.int x1), (.int x2)] 4 = mkF m 0 #[rv x0, iv x1, iv x2, .unset] [] := by first | (simp [entryFrame, mkF, argsToLocals, Value.category]; done) | rfl
def Q_rmp (Z : State) (o0 : Addr) (p2 : Int32) (st_ : Addr) (dg_ : Addr) (rm_ : Addr) (it_ : Addr) (k1_ : ClassId) (k2_ : ClassId) (k3_ : ClassId) (k4_ : ClassId) (zi_ : Int32) (its_ : List Value) (d_ : Int32) (sl_ : Addr) (k5_ : ClassId) (sls_ : List Value) (w_ : Int32) (w2_ : Int32) (h0 : Heap) (n0 : Nat) (v : Option Value) (h : Heap) (L : List Loc) : Prop := v = none ∧ Fr n0 L ∧ own_A Z h n0 o0 st_ dg_ rm_ it_ k1_ k2_ k3_ k4_ zi_ (its_.set ((0 : Int32) + p2).toNatClampNeg (.int w_)) (.ref sl_) (d_ - (1 : Int32)) d_ d_ d_ (d_ - (1 : Int32)) ∧ own_S Z h n0 sl_ k5_ zi_ (sls_.set ((0 : Int32) + p2).toNatClampNeg (.int w2_)) o0 st_ dg_ rm_ it_
theorem d13_45 : decode prog_2_method_18_code 45 = .ok (.aload_n 0, 1) := by decide +kernel
theorem d13_46 : decode prog_2_method_18_code 46 = .ok (.getfield 65, 3) := by decide +kernel
theorem d13_49 : decode prog_2_method_18_code 49 = .ok (.aload_n 0, 1) := by decide +kernel
theorem d13_50 : decode prog_2_method_18_code 50 = .ok (.getfield 12, 3) := by decide +kernel
theorem d13_53 : decode prog_2_method_18_code 53 = .ok (.iload_n 1, 1) := by decide +kernel
theorem d13_54 : decode prog_2_method_18_code 54 = .ok (.iaload, 1) := by decide +kernel
theorem d13_55 : decode prog_2_method_18_code 55 = .ok (.iload_n 2, 1) := by decide +kernel
theorem d13_56 : decode prog_2_method_18_code 56 = .ok (.iadd, 1) := by decide +kernel
theorem d13_57 : decode prog_2_method_18_code 57 = .ok (.aload_n 0, 1) := by decide +kernel
theorem d13_58 : decode prog_2_method_18_code 58 = .ok (.getfield 65, 3) := by decide +kernel
theorem d13_61 : decode prog_2_method_18_code 61 = .ok (.iload_n 3, 1) := by decide +kernel
theorem d13_62 : decode prog_2_method_18_code 62 = .ok (.iaload, 1) := by decide +kernel
theorem d13_63 : decode prog_2_method_18_code 63 = .ok (.iastore, 1) := by decide +kernel
set_option maxRecDepth 65536 in
set_option maxHeartbeats 40000000 in
theorem rm_rmp (l : Launch) (Z : State) (a0 : Array Value) (hw : ∀ d ∈ tables_1, d.before a0 Z = true) (ws : List Jvm.Cond) (o0 : Addr) (p2 : Int32) (st_ : Addr) (dg_ : Addr) (rm_ : Addr) (it_ : Addr) (k1_ : ClassId) (k2_ : ClassId) (k3_ : ClassId) (k4_ : ClassId) (zi_ : Int32) (its_ : List Value) (d_ : Int32) (sl_ : Addr) (k5_ : ClassId) (sls_ : List Value) (w_ : Int32) (w2_ : Int32) (h0 : Heap) (n0 : Nat) (Z0 : n0 ≤ h0.size) (H : own_A Z h0 n0 o0 st_ dg_ rm_ it_ k1_ k2_ k3_ k4_ zi_ its_ (.ref sl_) d_ d_ d_ d_ d_) (HS : own_S Z h0 n0 sl_ k5_ zi_ sls_ o0 st_ dg_ rm_ it_) (hin1 : ¬ ((0 : Int32) + (d_ - (1 : Int32))) < 0 ∧ ((0 : Int32) + (d_ - (1 : Int32))) < zi_) (hat1 : its_.getD ((0 : Int32) + (d_ - (1 : Int32))).toNatClampNeg (.int (0 : Int32)) = .int w_) (hin2 : ¬ ((0 : Int32) + p2) < 0 ∧ ((0 : Int32) + p2) < zi_) (hl2 : ((0 : Int32) + p2).toNatClampNeg < its_.length) (hat3 : sls_.getD ((0 : Int32) + (d_ - (1 : Int32))).toNatClampNeg (.int (0 : Int32)) = .int w2_) (hl3 : ((0 : Int32) + p2).toNatClampNeg < sls_.length) :
    MetFree l (⟨"com/example/plebiscite/plebiscite/Adjacency", "remove", "(II)V"⟩ : MethodName) (head1 (Jvm.Cond.code (⟨"com/example/plebiscite/plebiscite/Adjacency", "remove", "(II)V"⟩ : MethodName) prog_2_method_18_code 4 none :: ws) ({ frames := 0, cells := 0, slots := 0, locals := 0 } : Room)) (fun a U => a = #[(.ref o0), (.int 0), (.int p2)] ∧ Z.Warmed39 U.vm ∧ U.heap = h0) (fun _ _ _ _ _ => True) (fun _ U o U' => ∃ v L, o = .returned v ∧ Q_rmp Z o0 p2 st_ dg_ rm_ it_ k1_ k2_ k3_ k4_ zi_ its_ d_ sl_ k5_ sls_ w_ w2_ h0 n0 v U'.heap L ∧ FrameEnd U o U' L ({ frames := 0, cells := 0, slots := 0, locals := 0 } : Room).cells ({ frames := 0, cells := 0, slots := 0, locals := 0 } : Room).slots) := by
  refine MetFree.of_bodySF (plainFor_of_name pn_0) hisR ?_
  intro p e s m args below meth c s₁ Bd hml0 hP hK
  obtain ⟨rfl, hZ, hh⟩ := hP
  have hx := Bd.exec
  have hby := Bd.bytes
  have hml : c.maxLocals = 4 := hml0
  have hown : s.vm.findClass "com/example/plebiscite/plebiscite/Adjacency" = some m.cls := findClass_of_methodNamed Bd.named
  have hnm := (name_of_methodNamed Bd.named Bd.method).1
  have X0 : Stand p l e ({ frames := 0, cells := 0, slots := 0, locals := 0 } : Room) s m #[(.ref o0), (.int 0), (.int p2)] below meth c s₁ [] 0 0 := Stand.of_body Bd
  have e0 : s₁.heap = h0 := by rw [← hh, Bd.state]; rfl
  have N0 := Fr.nil n0
  have go0 : ∀ t, Steps p.tables e below (s₁.setTop (mkF m 0 #[rv o0, iv 0, iv p2, .unset] [])) t → Steps p.tables e below (s₁.setTop (entryFrame m #[(.ref o0), (.int 0), (.int p2)] 4)) t := fun t k => castTop (ef_rmp m o0 (0 : Int32) p2) k
  obtain ⟨O, hO⟩ : ∃ z, z = (s₁.setTop (entryFrame m #[(.ref o0), (.int 0), (.int p2)] 4)) := ⟨_, rfl⟩
  rw [← hO] at go0
  obtain ⟨AX_101, Ag0_101, Ag1_101, Ag2_101, Ag3_101, Ag4_101, AF0_101, AF1_101, AF2_101, AF3_101, AF4_101, AF5_101, AF6_101, AF7_101, AF8_101, AV0_101, AV1_101, AV2_101, AV3_101, AN0_101, AN1_101, AN2_101, AN3_101, AN4_101, AN5_101, AN6_101, AN7_101, AN8_101, AN9_101⟩ := H
  have Z102 := Nat.le_trans Ag0_101 (Nat.le_of_lt AX_101.lt)
  obtain ⟨SG_103, SV_103, SN0_103, SN1_103, SN2_103, SN3_103, SN4_103⟩ := HS
  obtain ⟨T104, X104, e104, st104⟩ := getF X0 hx hZ hown (host := "") (Or.inl (hw _ (List.mem_of_getElem? (i := 10) rfl))) Via.refl e0 AF0_101 (g := (mkF m 1 #[rv o0, iv 0, iv p2, .unset] [(.ref o0)])) rfl rfl (hb hby d13_1)
  obtain ⟨cl105, Ar105, q105, S105, M105, Hs105, G105⟩ := AV0_101
  have f106 : Arv Z h0 st_ k1_ .int (1 : Int32) [(.int 0)] (.int 0) := ⟨cl105, Ar105, q105, S105, M105, Hs105, G105⟩
  have hin107 : ¬ ((0 : Int32) < 0 ∨ cl105.slots.size ≤ ((0 : Int32)).toNatClampNeg) := inb_of S105 ⟨by decide, by decide⟩
  have hat107 : cl105.slots[((0 : Int32)).toNatClampNeg]? = some (.int 0) := Hs105.at hin107 rfl
  obtain ⟨T108, X108, e108, st108⟩ := getF X104 hx hZ hown (host := "") (Or.inl (hw _ (List.mem_of_getElem? (i := 12) rfl))) Via.refl e104 AF1_101 (g := (mkF m 7 #[rv o0, iv 0, iv p2, .unset] [(.ref o0), (.int 0)])) rfl rfl (hb hby d13_7)
  obtain ⟨cl109, Ar109, q109, S109, M109, Hs109, G109⟩ := AV1_101
  have f110 : Arv Z h0 dg_ k2_ .int (1 : Int32) [(.int d_)] (.int 0) := ⟨cl109, Ar109, q109, S109, M109, Hs109, G109⟩
  have hin111 : ¬ ((0 : Int32) < 0 ∨ cl109.slots.size ≤ ((0 : Int32)).toNatClampNeg) := inb_of S109 ⟨by decide, by decide⟩
  have hat111 : cl109.slots[((0 : Int32)).toNatClampNeg]? = some (.int d_) := Hs109.at hin111 rfl
  obtain ⟨cl112, Ar112, q112, S112, M112, Hs112, G112⟩ := f110
  have f113 : Arv Z h0 dg_ k2_ .int (1 : Int32) [(.int d_)] (.int 0) := ⟨cl112, Ar112, q112, S112, M112, Hs112, G112⟩
  have hin114 : ¬ ((0 : Int32) < 0 ∨ cl112.slots.size ≤ ((0 : Int32)).toNatClampNeg) := inb_of S112 ⟨by decide, by decide⟩
  obtain ⟨T114, h114, X114, e114, W114, st114⟩ := stI X108 hx hZ e108 Ar112 (j := (0 : Int32)) hin114 (g := (mkF m 16 #[rv o0, iv 0, iv p2, .unset] [(.int (d_ - (1 : Int32))), (.int 0), (.ref dg_), (.int (d_ - (1 : Int32))), (.int 0)])) rfl rfl (hb hby d13_16)
  have f115 := AX_101.wr W114
  have f116 := AF0_101.other W114 (Or.inl AN1_101)
  have f117 := AF1_101.other W114 (Or.inl AN1_101)
  have f118 := AF2_101.other W114 (Or.inl AN1_101)
  have f119 := AF3_101.other W114 (Or.inl AN1_101)
  have f120 := AF4_101.other W114 (Or.inl AN1_101)
  have f121 := AF5_101.other W114 (Or.inl AN1_101)
  have f122 := AF6_101.other W114 (Or.inl AN1_101)
  have f123 := AF7_101.other W114 (Or.inl AN1_101)
  have f124 := AF8_101.other W114 (Or.inl AN1_101)
  have f125 := f106.other W114 AN4_101
  have f126 := AV2_101.other W114 (Ne.symm AN7_101)
  have f127 := AV3_101.other W114 (Ne.symm AN8_101)
  have f128 := SV_103.other W114 (Ne.symm SN2_103)
  have Z129 := Nat.le_trans Z102 (Keep.of_wr W114).1
  have V114 : Arv Z h114 dg_ k2_ .int (1 : Int32) [(.int (d_ - (1 : Int32)))] (.int 0) := Arv.set Ar112 q112 S112 M112 Hs112 G112 rfl W114 0 rfl (Nat.le_of_ble_eq_true rfl)
  have N114 := Fr.snoc X114 N0 Ag2_101
  obtain ⟨T130, X130, e130, st130⟩ := getF X114 hx hZ hown (host := "") (Or.inl (hw _ (List.mem_of_getElem? (i := 16) rfl))) Via.refl e114 f119 (g := (mkF m 20 #[rv o0, iv 0, iv p2, iv ((0 : Int32) + (d_ - (1 : Int32)))] [(.ref o0)])) rfl rfl (hb hby d13_20)
  obtain ⟨T131, X131, e131, st131⟩ := getF X130 hx hZ hown (host := "") (Or.inl (hw _ (List.mem_of_getElem? (i := 10) rfl))) Via.refl e130 f116 (g := (mkF m 24 #[rv o0, iv 0, iv p2, iv ((0 : Int32) + (d_ - (1 : Int32)))] [(.ref o0), (.ref it_)])) rfl rfl (hb hby d13_24)
  obtain ⟨cl132, Ar132, q132, S132, M132, Hs132, G132⟩ := f125
  have f133 : Arv Z h114 st_ k1_ .int (1 : Int32) [(.int 0)] (.int 0) := ⟨cl132, Ar132, q132, S132, M132, Hs132, G132⟩
  have hin134 : ¬ ((0 : Int32) < 0 ∨ cl132.slots.size ≤ ((0 : Int32)).toNatClampNeg) := inb_of S132 ⟨by decide, by decide⟩
  have hat134 : cl132.slots[((0 : Int32)).toNatClampNeg]? = some (.int 0) := Hs132.at hin134 rfl
  obtain ⟨T135, X135, e135, st135⟩ := getF X131 hx hZ hown (host := "") (Or.inl (hw _ (List.mem_of_getElem? (i := 16) rfl))) Via.refl e131 f119 (g := (mkF m 32 #[rv o0, iv 0, iv p2, iv ((0 : Int32) + (d_ - (1 : Int32)))] [(.ref o0), (.int ((0 : Int32) + p2)), (.ref it_)])) rfl rfl (hb hby d13_32)
  obtain ⟨cl136, Ar136, q136, S136, M136, Hs136, G136⟩ := f127
  have f137 : Arv Z h114 it_ k4_ .int zi_ its_ (.int 0) := ⟨cl136, Ar136, q136, S136, M136, Hs136, G136⟩
  have hin138 : ¬ (((0 : Int32) + (d_ - (1 : Int32))) < 0 ∨ cl136.slots.size ≤ (((0 : Int32) + (d_ - (1 : Int32)))).toNatClampNeg) := inb_of S136 hin1
  have hat138 : cl136.slots[(((0 : Int32) + (d_ - (1 : Int32)))).toNatClampNeg]? = some (.int w_) := Hs136.at hin138 hat1
  obtain ⟨cl139, Ar139, q139, S139, M139, Hs139, G139⟩ := f137
  have f140 : Arv Z h114 it_ k4_ .int zi_ its_ (.int 0) := ⟨cl139, Ar139, q139, S139, M139, Hs139, G139⟩
  have hin141 : ¬ (((0 : Int32) + p2) < 0 ∨ cl139.slots.size ≤ (((0 : Int32) + p2)).toNatClampNeg) := inb_of S139 hin2
  obtain ⟨T141, h141, X141, e141, W141, st141⟩ := stI X135 hx hZ e135 Ar139 (j := ((0 : Int32) + p2)) hin141 (g := (mkF m 37 #[rv o0, iv 0, iv p2, iv ((0 : Int32) + (d_ - (1 : Int32)))] [(.int w_), (.int ((0 : Int32) + p2)), (.ref it_)])) rfl rfl (hb hby d13_37)
  have f142 := f115.wr W141
  have f143 := f116.other W141 (Or.inl AN3_101)
  have f144 := f117.other W141 (Or.inl AN3_101)
  have f145 := f118.other W141 (Or.inl AN3_101)
  have f146 := f119.other W141 (Or.inl AN3_101)
  have f147 := f120.other W141 (Or.inl AN3_101)
  have f148 := f121.other W141 (Or.inl AN3_101)
  have f149 := f122.other W141 (Or.inl AN3_101)
  have f150 := f123.other W141 (Or.inl AN3_101)
  have f151 := f124.other W141 (Or.inl AN3_101)
  have f152 := f133.other W141 AN6_101
  have f153 := V114.other W141 AN8_101
  have f154 := f126.other W141 AN9_101
  have f155 := f128.other W141 (Ne.symm SN4_103)
  have Z156 := Nat.le_trans Z129 (Keep.of_wr W141).1
  have V141 : Arv Z h141 it_ k4_ .int zi_ (its_.set (((0 : Int32) + p2)).toNatClampNeg (.int w_)) (.int 0) := Arv.set Ar139 q139 S139 M139 Hs139 G139 rfl W141 (((0 : Int32) + p2)).toNatClampNeg rfl hl2
  have N141 := Fr.snoc X141 N114 Ag4_101
  obtain ⟨T157, X157, e157, st157⟩ := getF X141 hx hZ hown (host := "") (Or.inl (hw _ (List.mem_of_getElem? (i := 52) rfl))) Via.refl e141 f147 (g := (mkF m 39 #[rv o0, iv 0, iv p2, iv ((0 : Int32) + (d_ - (1 : Int32)))] [(.ref o0)])) rfl rfl (hb hby d13_39)
  obtain ⟨T158, X158, e158, st158⟩ := getF X157 hx hZ hown (host := "") (Or.inl (hw _ (List.mem_of_getElem? (i := 52) rfl))) Via.refl e157 f147 (g := (mkF m 46 #[rv o0, iv 0, iv p2, iv ((0 : Int32) + (d_ - (1 : Int32)))] [(.ref o0)])) rfl rfl (hb hby d13_46)
  obtain ⟨T159, X159, e159, st159⟩ := getF X158 hx hZ hown (host := "") (Or.inl (hw _ (List.mem_of_getElem? (i := 10) rfl))) Via.refl e158 f143 (g := (mkF m 50 #[rv o0, iv 0, iv p2, iv ((0 : Int32) + (d_ - (1 : Int32)))] [(.ref o0), (.ref sl_)])) rfl rfl (hb hby d13_50)
  obtain ⟨cl160, Ar160, q160, S160, M160, Hs160, G160⟩ := f152
  have f161 : Arv Z h141 st_ k1_ .int (1 : Int32) [(.int 0)] (.int 0) := ⟨cl160, Ar160, q160, S160, M160, Hs160, G160⟩
  have hin162 : ¬ ((0 : Int32) < 0 ∨ cl160.slots.size ≤ ((0 : Int32)).toNatClampNeg) := inb_of S160 ⟨by decide, by decide⟩
  have hat162 : cl160.slots[((0 : Int32)).toNatClampNeg]? = some (.int 0) := Hs160.at hin162 rfl
  obtain ⟨T163, X163, e163, st163⟩ := getF X159 hx hZ hown (host := "") (Or.inl (hw _ (List.mem_of_getElem? (i := 52) rfl))) Via.refl e159 f147 (g := (mkF m 58 #[rv o0, iv 0, iv p2, iv ((0 : Int32) + (d_ - (1 : Int32)))] [(.ref o0), (.int ((0 : Int32) + p2)), (.ref sl_)])) rfl rfl (hb hby d13_58)
  obtain ⟨cl164, Ar164, q164, S164, M164, Hs164, G164⟩ := f155
  have f165 : Arv Z h141 sl_ k5_ .int zi_ sls_ (.int 0) := ⟨cl164, Ar164, q164, S164, M164, Hs164, G164⟩
  have hin166 : ¬ (((0 : Int32) + (d_ - (1 : Int32))) < 0 ∨ cl164.slots.size ≤ (((0 : Int32) + (d_ - (1 : Int32)))).toNatClampNeg) := inb_of S164 hin1
  have hat166 : cl164.slots[(((0 : Int32) + (d_ - (1 : Int32)))).toNatClampNeg]? = some (.int w2_) := Hs164.at hin166 hat3
  obtain ⟨cl167, Ar167, q167, S167, M167, Hs167, G167⟩ := f165
  have f168 : Arv Z h141 sl_ k5_ .int zi_ sls_ (.int 0) := ⟨cl167, Ar167, q167, S167, M167, Hs167, G167⟩
  have hin169 : ¬ (((0 : Int32) + p2) < 0 ∨ cl167.slots.size ≤ (((0 : Int32) + p2)).toNatClampNeg) := inb_of S167 hin2
  obtain ⟨T169, h169, X169, e169, W169, st169⟩ := stI X163 hx hZ e163 Ar167 (j := ((0 : Int32) + p2)) hin169 (g := (mkF m 63 #[rv o0, iv 0, iv p2, iv ((0 : Int32) + (d_ - (1 : Int32)))] [(.int w2_), (.int ((0 : Int32) + p2)), (.ref sl_)])) rfl rfl (hb hby d13_63)
  have f170 := f142.wr W169
  have f171 := f143.other W169 (Or.inl SN0_103)
  have f172 := f144.other W169 (Or.inl SN0_103)
  have f173 := f145.other W169 (Or.inl SN0_103)
  have f174 := f146.other W169 (Or.inl SN0_103)
  have f175 := f147.other W169 (Or.inl SN0_103)
  have f176 := f148.other W169 (Or.inl SN0_103)
  have f177 := f149.other W169 (Or.inl SN0_103)
  have f178 := f150.other W169 (Or.inl SN0_103)
  have f179 := f151.other W169 (Or.inl SN0_103)
  have f180 := f161.other W169 SN1_103
  have f181 := f153.other W169 SN2_103
  have f182 := f154.other W169 SN3_103
  have f183 := V141.other W169 SN4_103
  have Z184 := Nat.le_trans Z156 (Keep.of_wr W169).1
  have V169 : Arv Z h169 sl_ k5_ .int zi_ (sls_.set (((0 : Int32) + p2)).toNatClampNeg (.int w2_)) (.int 0) := Arv.set Ar167 q167 S167 M167 Hs167 G167 rfl W169 (((0 : Int32) + p2)).toNatClampNeg rfl hl3
  have N169 := Fr.snoc X169 N141 SG_103
  obtain ⟨T185, X185, e185, st185⟩ := getF X169 hx hZ hown (host := "") (Or.inl (hw _ (List.mem_of_getElem? (i := 45) rfl))) Via.refl e169 f178 (g := (mkF m 66 #[rv o0, iv 0, iv p2, iv ((0 : Int32) + (d_ - (1 : Int32)))] [(.ref o0), (.ref o0)])) rfl rfl (hb hby d13_66)
  obtain ⟨T186, h186, X186, e186, W186, st186⟩ := putF X185 hx hZ hown (host := "") (Or.inl (hw _ (List.mem_of_getElem? (i := 45) rfl))) Via.refl e185 f178 f170 (Or.inl (hw _ (List.mem_of_getElem? (i := 46) rfl))) (hw _ (List.mem_of_getElem? (i := 1) rfl)) (ty := .int) (by decide) rfl rfl (g := (mkF m 71 #[rv o0, iv 0, iv p2, iv ((0 : Int32) + (d_ - (1 : Int32)))] [(.int (d_ - (1 : Int32))), (.ref o0)])) rfl rfl (hb hby d13_71)
  have f187 := f170.wr W186
  have f188 := f171.other W186 (Or.inr (slot_ne (Or.inr (hw _ (List.mem_of_getElem? (i := 11) rfl))) (Or.inl (hw _ (List.mem_of_getElem? (i := 46) rfl))) (by decide) (t := (.array .int)) (t' := .int) (by decide) (by decide)))
  have f189 := f172.other W186 (Or.inr (slot_ne (Or.inr (hw _ (List.mem_of_getElem? (i := 13) rfl))) (Or.inl (hw _ (List.mem_of_getElem? (i := 46) rfl))) (by decide) (t := (.array .int)) (t' := .int) (by decide) (by decide)))
  have f190 := f173.other W186 (Or.inr (slot_ne (Or.inl (hw _ (List.mem_of_getElem? (i := 15) rfl))) (Or.inl (hw _ (List.mem_of_getElem? (i := 46) rfl))) (by decide) (t := (.array .int)) (t' := .int) (by decide) (by decide)))
  have f191 := f174.other W186 (Or.inr (slot_ne (Or.inl (hw _ (List.mem_of_getElem? (i := 17) rfl))) (Or.inl (hw _ (List.mem_of_getElem? (i := 46) rfl))) (by decide) (t := (.array .int)) (t' := .int) (by decide) (by decide)))
  have f192 := f175.other W186 (Or.inr (slot_ne (Or.inl (hw _ (List.mem_of_getElem? (i := 53) rfl))) (Or.inl (hw _ (List.mem_of_getElem? (i := 46) rfl))) (by decide) (t := (.array .int)) (t' := .int) (by decide) (by decide)))
  have f193 := f176.other W186 (Or.inr (slot_ne (Or.inl (hw _ (List.mem_of_getElem? (i := 38) rfl))) (Or.inl (hw _ (List.mem_of_getElem? (i := 46) rfl))) (by decide) (t := .int) (t' := .int) (by decide) (by decide)))
  have f194 := f177.other W186 (Or.inr (slot_ne (Or.inl (hw _ (List.mem_of_getElem? (i := 44) rfl))) (Or.inl (hw _ (List.mem_of_getElem? (i := 46) rfl))) (by decide) (t := .int) (t' := .int) (by decide) (by decide)))
  have f195 := f179.other W186 (Or.inr (slot_ne (Or.inl (hw _ (List.mem_of_getElem? (i := 28) rfl))) (Or.inl (hw _ (List.mem_of_getElem? (i := 46) rfl))) (by decide) (t := (.array .int)) (t' := .int) (by decide) (by decide)))
  have f196 := f180.other W186 (Ne.symm AN0_101)
  have f197 := f181.other W186 (Ne.symm AN1_101)
  have f198 := f182.other W186 (Ne.symm AN2_101)
  have f199 := f183.other W186 (Ne.symm AN3_101)
  have f200 := V169.other W186 (Ne.symm SN0_103)
  have Z201 := Nat.le_trans Z184 (Keep.of_wr W186).1
  have f202 := f178.same W186
  have N186 := Fr.snoc X186 N169 Ag0_101
  have go203 : ∀ t, Steps p.tables e below (T186.setTop (mkF m 74 #[rv o0, iv 0, iv p2, iv ((0 : Int32) + (d_ - (1 : Int32)))] [])) t → Steps p.tables e below O t := fun t k => go0 t (by
    refine XS.aloadN X0.here hx rfl (hb hby d13_0) rfl rfl ?_
    refine st104 _ ?_
    show Steps _ _ _ (T104.setTop (mkF m 4 _ [(.ref st_)])) _
    refine XS.iloadN X104.here hx rfl (hb hby d13_4) rfl ?_
    refine X104.iaload hx (j := (0 : Int32)) (v := (.int 0)) (by rw [e104]; exact Ar105.1) (State.isArrayOf_alike hZ.alike Ar105.2.1) Ar105.2.2 hin107 hat107 (g := (mkF m 5 #[rv o0, iv 0, iv p2, .unset] [(.int 0), (.ref st_)])) rfl rfl (hb hby d13_5) _ ?_
    show Steps _ _ _ (T104.setTop (mkF m 6 _ [(.int 0)])) _
    refine XS.aloadN X104.here hx rfl (hb hby d13_6) rfl rfl ?_
    refine st108 _ ?_
    show Steps _ _ _ (T108.setTop (mkF m 10 _ [(.ref dg_), (.int 0)])) _
    refine XS.iloadN X108.here hx rfl (hb hby d13_10) rfl ?_
    refine XT.dup2 X108.here hx rfl (hb hby d13_11) rfl rfl rfl ?_
    show Steps _ _ _ (T108.setTop (mkF m 12 _ [(.int 0), (.ref dg_), (.int 0), (.ref dg_), (.int 0)])) _
    refine X108.iaload hx (j := (0 : Int32)) (v := (.int d_)) (by rw [e108]; exact Ar109.1) (State.isArrayOf_alike hZ.alike Ar109.2.1) Ar109.2.2 hin111 hat111 (g := (mkF m 12 #[rv o0, iv 0, iv p2, .unset] [(.int 0), (.ref dg_), (.int 0), (.ref dg_), (.int 0)])) rfl rfl (hb hby d13_12) _ ?_
    refine XS.iconst X108.here hx rfl (hb hby d13_13) ?_
    show Steps _ _ _ (T108.setTop (mkF m 14 _ [(.int 1), (.int d_), (.int 0), (.ref dg_), (.int 0)])) _
    refine XS.isub X108.here hx rfl (hb hby d13_14) rfl ?_
    jvm_step X108.here [X108.here.top, hx, (hb hby d13_15), Value.category]
    show Steps _ _ _ (T108.setTop (mkF m 16 _ [(.int (d_ - (1 : Int32))), (.int 0), (.ref dg_), (.int (d_ - (1 : Int32))), (.int 0)])) _
    refine st114 _ ?_
    show Steps _ _ _ (T114.setTop (mkF m 17 _ [(.int (d_ - (1 : Int32))), (.int 0)])) _
    refine XS.iadd X114.here hx rfl (hb hby d13_17) rfl ?_
    refine XS.istoreN X114.here hx rfl (hb hby d13_18) rfl (l' := #[rv o0, iv 0, iv p2, iv ((0 : Int32) + (d_ - (1 : Int32)))]) rfl ?_
    show Steps _ _ _ (T114.setTop (mkF m 19 _ [])) _
    refine XS.aloadN X114.here hx rfl (hb hby d13_19) rfl rfl ?_
    refine st130 _ ?_
    show Steps _ _ _ (T130.setTop (mkF m 23 _ [(.ref it_)])) _
    refine XS.aloadN X130.here hx rfl (hb hby d13_23) rfl rfl ?_
    refine st131 _ ?_
    show Steps _ _ _ (T131.setTop (mkF m 27 _ [(.ref st_), (.ref it_)])) _
    refine XS.iloadN X131.here hx rfl (hb hby d13_27) rfl ?_
    refine X131.iaload hx (j := (0 : Int32)) (v := (.int 0)) (by rw [e131]; exact Ar132.1) (State.isArrayOf_alike hZ.alike Ar132.2.1) Ar132.2.2 hin134 hat134 (g := (mkF m 28 #[rv o0, iv 0, iv p2, iv ((0 : Int32) + (d_ - (1 : Int32)))] [(.int 0), (.ref st_), (.ref it_)])) rfl rfl (hb hby d13_28) _ ?_
    show Steps _ _ _ (T131.setTop (mkF m 29 _ [(.int 0), (.ref it_)])) _
    refine XS.iloadN X131.here hx rfl (hb hby d13_29) rfl ?_
    refine XS.iadd X131.here hx rfl (hb hby d13_30) rfl ?_
    show Steps _ _ _ (T131.setTop (mkF m 31 _ [(.int ((0 : Int32) + p2)), (.ref it_)])) _
    refine XS.aloadN X131.here hx rfl (hb hby d13_31) rfl rfl ?_
    refine st135 _ ?_
    show Steps _ _ _ (T135.setTop (mkF m 35 _ [(.ref it_), (.int ((0 : Int32) + p2)), (.ref it_)])) _
    refine XS.iloadN X135.here hx rfl (hb hby d13_35) rfl ?_
    refine X135.iaload hx (j := ((0 : Int32) + (d_ - (1 : Int32)))) (v := (.int w_)) (by rw [e135]; exact Ar136.1) (State.isArrayOf_alike hZ.alike Ar136.2.1) Ar136.2.2 hin138 hat138 (g := (mkF m 36 #[rv o0, iv 0, iv p2, iv ((0 : Int32) + (d_ - (1 : Int32)))] [(.int ((0 : Int32) + (d_ - (1 : Int32)))), (.ref it_), (.int ((0 : Int32) + p2)), (.ref it_)])) rfl rfl (hb hby d13_36) _ ?_
    show Steps _ _ _ (T135.setTop (mkF m 37 _ [(.int w_), (.int ((0 : Int32) + p2)), (.ref it_)])) _
    refine st141 _ ?_
    show Steps _ _ _ (T141.setTop (mkF m 38 _ [])) _
    refine XS.aloadN X141.here hx rfl (hb hby d13_38) rfl rfl ?_
    refine st157 _ ?_
    show Steps _ _ _ (T157.setTop (mkF m 42 _ [(.ref sl_)])) _
    refine XS.ifnullNo X157.here hx rfl (hb hby d13_42) rfl ?_
    refine XS.aloadN X157.here hx rfl (hb hby d13_45) rfl rfl ?_
    show Steps _ _ _ (T157.setTop (mkF m 46 _ [(.ref o0)])) _
    refine st158 _ ?_
    show Steps _ _ _ (T158.setTop (mkF m 49 _ [(.ref sl_)])) _
    refine XS.aloadN X158.here hx rfl (hb hby d13_49) rfl rfl ?_
    refine st159 _ ?_
    show Steps _ _ _ (T159.setTop (mkF m 53 _ [(.ref st_), (.ref sl_)])) _
    refine XS.iloadN X159.here hx rfl (hb hby d13_53) rfl ?_
    refine X159.iaload hx (j := (0 : Int32)) (v := (.int 0)) (by rw [e159]; exact Ar160.1) (State.isArrayOf_alike hZ.alike Ar160.2.1) Ar160.2.2 hin162 hat162 (g := (mkF m 54 #[rv o0, iv 0, iv p2, iv ((0 : Int32) + (d_ - (1 : Int32)))] [(.int 0), (.ref st_), (.ref sl_)])) rfl rfl (hb hby d13_54) _ ?_
    show Steps _ _ _ (T159.setTop (mkF m 55 _ [(.int 0), (.ref sl_)])) _
    refine XS.iloadN X159.here hx rfl (hb hby d13_55) rfl ?_
    refine XS.iadd X159.here hx rfl (hb hby d13_56) rfl ?_
    show Steps _ _ _ (T159.setTop (mkF m 57 _ [(.int ((0 : Int32) + p2)), (.ref sl_)])) _
    refine XS.aloadN X159.here hx rfl (hb hby d13_57) rfl rfl ?_
    refine st163 _ ?_
    show Steps _ _ _ (T163.setTop (mkF m 61 _ [(.ref sl_), (.int ((0 : Int32) + p2)), (.ref sl_)])) _
    refine XS.iloadN X163.here hx rfl (hb hby d13_61) rfl ?_
    refine X163.iaload hx (j := ((0 : Int32) + (d_ - (1 : Int32)))) (v := (.int w2_)) (by rw [e163]; exact Ar164.1) (State.isArrayOf_alike hZ.alike Ar164.2.1) Ar164.2.2 hin166 hat166 (g := (mkF m 62 #[rv o0, iv 0, iv p2, iv ((0 : Int32) + (d_ - (1 : Int32)))] [(.int ((0 : Int32) + (d_ - (1 : Int32)))), (.ref sl_), (.int ((0 : Int32) + p2)), (.ref sl_)])) rfl rfl (hb hby d13_62) _ ?_
    show Steps _ _ _ (T163.setTop (mkF m 63 _ [(.int w2_), (.int ((0 : Int32) + p2)), (.ref sl_)])) _
    refine st169 _ ?_
    show Steps _ _ _ (T169.setTop (mkF m 64 _ [])) _
    refine XS.aloadN X169.here hx rfl (hb hby d13_64) rfl rfl ?_
    refine XS.dup X169.here hx rfl (hb hby d13_65) rfl rfl ?_
    show Steps _ _ _ (T169.setTop (mkF m 66 _ [(.ref o0), (.ref o0)])) _
    refine st185 _ ?_
    show Steps _ _ _ (T185.setTop (mkF m 69 _ [(.int d_), (.ref o0)])) _
    refine XS.iconst X185.here hx rfl (hb hby d13_69) ?_
    refine XS.isub X185.here hx rfl (hb hby d13_70) rfl ?_
    show Steps _ _ _ (T185.setTop (mkF m 71 _ [(.int (d_ - (1 : Int32))), (.ref o0)])) _
    refine st186 _ ?_
    show Steps _ _ _ (T186.setTop (mkF m 74 _ [])) _
    exact k)
  rw [hO] at go203
  obtain ⟨fs, hr, hrun, hended, hW, hsame⟩ := X186.leave (v := none) (fun _ => rfl)
  refine ⟨_, _, go203 _ ?_, hrun, hended, _, _, rfl, ?_, ⟨_, rfl⟩, hW, hsame.mono (by decide) (by decide)⟩
  · exact X186.returnOut hx Bd.returns (hb hby d13_74) hr
  · show Q_rmp Z o0 p2 st_ dg_ rm_ it_ k1_ k2_ k3_ k4_ zi_ its_ d_ sl_ k5_ sls_ w_ w2_ h0 n0 _ T186.heap _
    rw [e186]
    exact ⟨rfl, N186, ⟨f187, Ag0_101, Ag1_101, Ag2_101, Ag3_101, Ag4_101, f188, f189, f190, f191, f192, f193, f194, f202, f195, f196, f197, f198, f199, AN0_101, AN1_101, AN2_101, AN3_101, AN4_101, AN5_101, AN6_101, AN7_101, AN8_101, AN9_101⟩, ⟨SG_103, f200, SN0_103, SN1_103, SN2_103, SN3_103, SN4_103⟩⟩
theorem ef_dgr (m : MethodId) (x0 : Addr) (x1 : Int32) : entryFrame m #[(.ref x0), (.int x1)] 2 = mkF m 0 #[rv x0, iv x1] [] := by first | (simp [entryFrame, mkF, argsToLocals, Value.category]; done) | rfl
def Q_dgr (Z : State) (o0 : Addr) (dg_ : Addr) (k_ : ClassId) (w_ : Int32) (h0 : Heap) (n0 : Nat) (v : Option Value) (h : Heap) (L : List Loc) : Prop := v = some (.int w_) ∧ Fr n0 L ∧ h = h0
theorem d14_0 : decode prog_2_method_10_code 0 = .ok (.aload_n 0, 1) := by decide +kernel
theorem d14_1 : decode prog_2_method_10_code 1 = .ok (.getfield 16, 3) := by decide +kernel
theorem d14_4 : decode prog_2_method_10_code 4 = .ok (.iload_n 1, 1) := by decide +kernel
theorem d14_5 : decode prog_2_method_10_code 5 = .ok (.iaload, 1) := by decide +kernel
theorem d14_6 : decode prog_2_method_10_code 6 = .ok (.ireturn, 1) := by decide +kernel
set_option maxRecDepth 65536 in
set_option maxHeartbeats 40000000 in
theorem rm_dgr (l : Launch) (Z : State) (a0 : Array Value) (hw : ∀ d ∈ tables_1, d.before a0 Z = true) (ws : List Jvm.Cond) (o0 : Addr) (dg_ : Addr) (k_ : ClassId) (w_ : Int32) (h0 : Heap) (n0 : Nat) (Z0 : n0 ≤ h0.size) (F : Fld Z h0 o0 "com/example/plebiscite/plebiscite/Adjacency" "degree" "[I" (.ref dg_)) (V : Arv Z h0 dg_ k_ .int (1 : Int32) [.int w_] (.int (0 : Int32))) :
    MetFree l (⟨"com/example/plebiscite/plebiscite/Adjacency", "degree", "(I)I"⟩ : MethodName) (head1 (Jvm.Cond.code (⟨"com/example/plebiscite/plebiscite/Adjacency", "degree", "(I)I"⟩ : MethodName) prog_2_method_10_code 2 (some .int) :: ws) ({ frames := 0, cells := 0, slots := 0, locals := 0 } : Room)) (fun a U => a = #[(.ref o0), (.int 0)] ∧ Z.Warmed39 U.vm ∧ U.heap = h0) (fun _ _ _ _ _ => True) (fun _ U o U' => ∃ v L, o = .returned v ∧ Q_dgr Z o0 dg_ k_ w_ h0 n0 v U'.heap L ∧ FrameEnd U o U' L ({ frames := 0, cells := 0, slots := 0, locals := 0 } : Room).cells ({ frames := 0, cells := 0, slots := 0, locals := 0 } : Room).slots) := by
  refine MetFree.of_bodySF (plainFor_of_name pn_0) hisR ?_
  intro p e s m args below meth c s₁ Bd hml0 hP hK
  obtain ⟨rfl, hZ, hh⟩ := hP
  have hx := Bd.exec
  have hby := Bd.bytes
  have hml : c.maxLocals = 2 := hml0
  have hown : s.vm.findClass "com/example/plebiscite/plebiscite/Adjacency" = some m.cls := findClass_of_methodNamed Bd.named
  have hnm := (name_of_methodNamed Bd.named Bd.method).1
  have X0 : Stand p l e ({ frames := 0, cells := 0, slots := 0, locals := 0 } : Room) s m #[(.ref o0), (.int 0)] below meth c s₁ [] 0 0 := Stand.of_body Bd
  have e0 : s₁.heap = h0 := by rw [← hh, Bd.state]; rfl
  have N0 := Fr.nil n0
  have go0 : ∀ t, Steps p.tables e below (s₁.setTop (mkF m 0 #[rv o0, iv 0] [])) t → Steps p.tables e below (s₁.setTop (entryFrame m #[(.ref o0), (.int 0)] 2)) t := fun t k => castTop (ef_dgr m o0 (0 : Int32)) k
  obtain ⟨O, hO⟩ : ∃ z, z = (s₁.setTop (entryFrame m #[(.ref o0), (.int 0)] 2)) := ⟨_, rfl⟩
  rw [← hO] at go0
  obtain ⟨T101, X101, e101, st101⟩ := getF X0 hx hZ hown (host := "") (Or.inl (hw _ (List.mem_of_getElem? (i := 12) rfl))) Via.refl e0 F (g := (mkF m 1 #[rv o0, iv 0] [(.ref o0)])) rfl rfl (hb hby d14_1)
  obtain ⟨cl102, Ar102, q102, S102, M102, Hs102, G102⟩ := V
  have f103 : Arv Z h0 dg_ k_ .int (1 : Int32) [(.int w_)] (.int 0) := ⟨cl102, Ar102, q102, S102, M102, Hs102, G102⟩
  have hin104 : ¬ ((0 : Int32) < 0 ∨ cl102.slots.size ≤ ((0 : Int32)).toNatClampNeg) := inb_of S102 ⟨by decide, by decide⟩
  have hat104 : cl102.slots[((0 : Int32)).toNatClampNeg]? = some (.int w_) := Hs102.at hin104 rfl
  have go105 : ∀ t, Steps p.tables e below (T101.setTop (mkF m 6 #[rv o0, iv 0] [(.int w_)])) t → Steps p.tables e below O t := fun t k => go0 t (by
    refine XS.aloadN X0.here hx rfl (hb hby d14_0) rfl rfl ?_
    refine st101 _ ?_
    show Steps _ _ _ (T101.setTop (mkF m 4 _ [(.ref dg_)])) _
    refine XS.iloadN X101.here hx rfl (hb hby d14_4) rfl ?_
    refine X101.iaload hx (j := (0 : Int32)) (v := (.int w_)) (by rw [e101]; exact Ar102.1) (State.isArrayOf_alike hZ.alike Ar102.2.1) Ar102.2.2 hin104 hat104 (g := (mkF m 5 #[rv o0, iv 0] [(.int 0), (.ref dg_)])) rfl rfl (hb hby d14_5) _ ?_
    show Steps _ _ _ (T101.setTop (mkF m 6 _ [(.int w_)])) _
    exact k)
  rw [hO] at go105
  obtain ⟨fs, hr, hrun, hended, hW, hsame⟩ := X101.leave (v := some (.int w_)) (fun h => by rw [Bd.returns] at h; cases h)
  refine ⟨_, _, go105 _ ?_, hrun, hended, _, _, rfl, ?_, ⟨_, rfl⟩, hW, hsame.mono (by decide) (by decide)⟩
  · exact retI X101 hx Bd.returns (hb hby d14_6) hr
  · show Q_dgr Z o0 dg_ k_ w_ h0 n0 _ T101.heap _
    rw [e101]
    exact ⟨rfl, N0, rfl⟩
theorem ef_bgn (m : MethodId) (x0 : Addr) (x1 : Int32) : entryFrame m #[(.ref x0), (.int x1)] 2 = mkF m 0 #[rv x0, iv x1] [] := by first | (simp [entryFrame, mkF, argsToLocals, Value.category]; done) | rfl
def Q_bgn (Z : State) (o0 : Addr) (st_ : Addr) (k_ : ClassId) (w_ : Int32) (h0 : Heap) (n0 : Nat) (v : Option Value) (h : Heap) (L : List Loc) : Prop := v = some (.int w_) ∧ Fr n0 L ∧ h = h0
theorem d15_0 : decode prog_2_method_11_code 0 = .ok (.aload_n 0, 1) := by decide +kernel
theorem d15_1 : decode prog_2_method_11_code 1 = .ok (.getfield 12, 3) := by decide +kernel
theorem d15_4 : decode prog_2_method_11_code 4 = .ok (.iload_n 1, 1) := by decide +kernel
theorem d15_5 : decode prog_2_method_11_code 5 = .ok (.iaload, 1) := by decide +kernel
theorem d15_6 : decode prog_2_method_11_code 6 = .ok (.ireturn, 1) := by decide +kernel
set_option maxRecDepth 65536 in
set_option maxHeartbeats 40000000 in
theorem rm_bgn (l : Launch) (Z : State) (a0 : Array Value) (hw : ∀ d ∈ tables_1, d.before a0 Z = true) (ws : List Jvm.Cond) (o0 : Addr) (st_ : Addr) (k_ : ClassId) (w_ : Int32) (h0 : Heap) (n0 : Nat) (Z0 : n0 ≤ h0.size) (F : Fld Z h0 o0 "com/example/plebiscite/plebiscite/Adjacency" "start" "[I" (.ref st_)) (V : Arv Z h0 st_ k_ .int (1 : Int32) [.int w_] (.int (0 : Int32))) :
    MetFree l (⟨"com/example/plebiscite/plebiscite/Adjacency", "begin", "(I)I"⟩ : MethodName) (head1 (Jvm.Cond.code (⟨"com/example/plebiscite/plebiscite/Adjacency", "begin", "(I)I"⟩ : MethodName) prog_2_method_11_code 2 (some .int) :: ws) ({ frames := 0, cells := 0, slots := 0, locals := 0 } : Room)) (fun a U => a = #[(.ref o0), (.int 0)] ∧ Z.Warmed39 U.vm ∧ U.heap = h0) (fun _ _ _ _ _ => True) (fun _ U o U' => ∃ v L, o = .returned v ∧ Q_bgn Z o0 st_ k_ w_ h0 n0 v U'.heap L ∧ FrameEnd U o U' L ({ frames := 0, cells := 0, slots := 0, locals := 0 } : Room).cells ({ frames := 0, cells := 0, slots := 0, locals := 0 } : Room).slots) := by
  refine MetFree.of_bodySF (plainFor_of_name pn_0) hisR ?_
  intro p e s m args below meth c s₁ Bd hml0 hP hK
  obtain ⟨rfl, hZ, hh⟩ := hP
  have hx := Bd.exec
  have hby := Bd.bytes
  have hml : c.maxLocals = 2 := hml0
  have hown : s.vm.findClass "com/example/plebiscite/plebiscite/Adjacency" = some m.cls := findClass_of_methodNamed Bd.named
  have hnm := (name_of_methodNamed Bd.named Bd.method).1
  have X0 : Stand p l e ({ frames := 0, cells := 0, slots := 0, locals := 0 } : Room) s m #[(.ref o0), (.int 0)] below meth c s₁ [] 0 0 := Stand.of_body Bd
  have e0 : s₁.heap = h0 := by rw [← hh, Bd.state]; rfl
  have N0 := Fr.nil n0
  have go0 : ∀ t, Steps p.tables e below (s₁.setTop (mkF m 0 #[rv o0, iv 0] [])) t → Steps p.tables e below (s₁.setTop (entryFrame m #[(.ref o0), (.int 0)] 2)) t := fun t k => castTop (ef_bgn m o0 (0 : Int32)) k
  obtain ⟨O, hO⟩ : ∃ z, z = (s₁.setTop (entryFrame m #[(.ref o0), (.int 0)] 2)) := ⟨_, rfl⟩
  rw [← hO] at go0
  obtain ⟨T101, X101, e101, st101⟩ := getF X0 hx hZ hown (host := "") (Or.inl (hw _ (List.mem_of_getElem? (i := 10) rfl))) Via.refl e0 F (g := (mkF m 1 #[rv o0, iv 0] [(.ref o0)])) rfl rfl (hb hby d15_1)
  obtain ⟨cl102, Ar102, q102, S102, M102, Hs102, G102⟩ := V
  have f103 : Arv Z h0 st_ k_ .int (1 : Int32) [(.int w_)] (.int 0) := ⟨cl102, Ar102, q102, S102, M102, Hs102, G102⟩
  have hin104 : ¬ ((0 : Int32) < 0 ∨ cl102.slots.size ≤ ((0 : Int32)).toNatClampNeg) := inb_of S102 ⟨by decide, by decide⟩
  have hat104 : cl102.slots[((0 : Int32)).toNatClampNeg]? = some (.int w_) := Hs102.at hin104 rfl
  have go105 : ∀ t, Steps p.tables e below (T101.setTop (mkF m 6 #[rv o0, iv 0] [(.int w_)])) t → Steps p.tables e below O t := fun t k => go0 t (by
    refine XS.aloadN X0.here hx rfl (hb hby d15_0) rfl rfl ?_
    refine st101 _ ?_
    show Steps _ _ _ (T101.setTop (mkF m 4 _ [(.ref st_)])) _
    refine XS.iloadN X101.here hx rfl (hb hby d15_4) rfl ?_
    refine X101.iaload hx (j := (0 : Int32)) (v := (.int w_)) (by rw [e101]; exact Ar102.1) (State.isArrayOf_alike hZ.alike Ar102.2.1) Ar102.2.2 hin104 hat104 (g := (mkF m 5 #[rv o0, iv 0] [(.int 0), (.ref st_)])) rfl rfl (hb hby d15_5) _ ?_
    show Steps _ _ _ (T101.setTop (mkF m 6 _ [(.int w_)])) _
    exact k)
  rw [hO] at go105
  obtain ⟨fs, hr, hrun, hended, hW, hsame⟩ := X101.leave (v := some (.int w_)) (fun h => by rw [Bd.returns] at h; cases h)
  refine ⟨_, _, go105 _ ?_, hrun, hended, _, _, rfl, ?_, ⟨_, rfl⟩, hW, hsame.mono (by decide) (by decide)⟩
  · exact retI X101 hx Bd.returns (hb hby d15_6) hr
  · show Q_bgn Z o0 st_ k_ w_ h0 n0 _ T101.heap _
    rw [e101]
    exact ⟨rfl, N0, rfl⟩
theorem ef_siz (m : MethodId) (x0 : Addr) : entryFrame m #[(.ref x0)] 1 = mkF m 0 #[rv x0] [] := by first | (simp [entryFrame, mkF, argsToLocals, Value.category]; done) | rfl
def Q_siz (Z : State) (o0 : Addr) (w_ : Int32) (h0 : Heap) (n0 : Nat) (v : Option Value) (h : Heap) (L : List Loc) : Prop := v = some (.int w_) ∧ Fr n0 L ∧ h = h0
theorem d16_0 : decode prog_2_method_9_code 0 = .ok (.aload_n 0, 1) := by decide +kernel
theorem d16_1 : decode prog_2_method_9_code 1 = .ok (.getfield 79, 3) := by decide +kernel
theorem d16_4 : decode prog_2_method_9_code 4 = .ok (.ireturn, 1) := by decide +kernel
set_option maxRecDepth 65536 in
set_option maxHeartbeats 40000000 in
theorem rm_siz (l : Launch) (Z : State) (a0 : Array Value) (hw : ∀ d ∈ tables_1, d.before a0 Z = true) (ws : List Jvm.Cond) (o0 : Addr) (w_ : Int32) (h0 : Heap) (n0 : Nat) (Z0 : n0 ≤ h0.size) (F : Fld Z h0 o0 "com/example/plebiscite/plebiscite/Adjacency" "size" "I" (.int w_)) :
    MetFree l (⟨"com/example/plebiscite/plebiscite/Adjacency", "size", "()I"⟩ : MethodName) (head1 (Jvm.Cond.code (⟨"com/example/plebiscite/plebiscite/Adjacency", "size", "()I"⟩ : MethodName) prog_2_method_9_code 1 (some .int) :: ws) ({ frames := 0, cells := 0, slots := 0, locals := 0 } : Room)) (fun a U => a = #[(.ref o0)] ∧ Z.Warmed39 U.vm ∧ U.heap = h0) (fun _ _ _ _ _ => True) (fun _ U o U' => ∃ v L, o = .returned v ∧ Q_siz Z o0 w_ h0 n0 v U'.heap L ∧ FrameEnd U o U' L ({ frames := 0, cells := 0, slots := 0, locals := 0 } : Room).cells ({ frames := 0, cells := 0, slots := 0, locals := 0 } : Room).slots) := by
  refine MetFree.of_bodySF (plainFor_of_name pn_0) hisR ?_
  intro p e s m args below meth c s₁ Bd hml0 hP hK
  obtain ⟨rfl, hZ, hh⟩ := hP
  have hx := Bd.exec
  have hby := Bd.bytes
  have hml : c.maxLocals = 1 := hml0
  have hown : s.vm.findClass "com/example/plebiscite/plebiscite/Adjacency" = some m.cls := findClass_of_methodNamed Bd.named
  have hnm := (name_of_methodNamed Bd.named Bd.method).1
  have X0 : Stand p l e ({ frames := 0, cells := 0, slots := 0, locals := 0 } : Room) s m #[(.ref o0)] below meth c s₁ [] 0 0 := Stand.of_body Bd
  have e0 : s₁.heap = h0 := by rw [← hh, Bd.state]; rfl
  have N0 := Fr.nil n0
  have go0 : ∀ t, Steps p.tables e below (s₁.setTop (mkF m 0 #[rv o0] [])) t → Steps p.tables e below (s₁.setTop (entryFrame m #[(.ref o0)] 1)) t := fun t k => castTop (ef_siz m o0) k
  obtain ⟨O, hO⟩ : ∃ z, z = (s₁.setTop (entryFrame m #[(.ref o0)] 1)) := ⟨_, rfl⟩
  rw [← hO] at go0
  obtain ⟨T101, X101, e101, st101⟩ := getF X0 hx hZ hown (host := "") (Or.inl (hw _ (List.mem_of_getElem? (i := 45) rfl))) Via.refl e0 F (g := (mkF m 1 #[rv o0] [(.ref o0)])) rfl rfl (hb hby d16_1)
  have go102 : ∀ t, Steps p.tables e below (T101.setTop (mkF m 4 #[rv o0] [(.int w_)])) t → Steps p.tables e below O t := fun t k => go0 t (by
    refine XS.aloadN X0.here hx rfl (hb hby d16_0) rfl rfl ?_
    refine st101 _ ?_
    show Steps _ _ _ (T101.setTop (mkF m 4 _ [(.int w_)])) _
    exact k)
  rw [hO] at go102
  obtain ⟨fs, hr, hrun, hended, hW, hsame⟩ := X101.leave (v := some (.int w_)) (fun h => by rw [Bd.returns] at h; cases h)
  refine ⟨_, _, go102 _ ?_, hrun, hended, _, _, rfl, ?_, ⟨_, rfl⟩, hW, hsame.mono (by decide) (by decide)⟩
  · exact retI X101 hx Bd.returns (hb hby d16_4) hr
  · show Q_siz Z o0 w_ h0 n0 _ T101.heap _
    rw [e101]
    exact ⟨rfl, N0, rfl⟩
theorem ef_itm (m : MethodId) (x0 : Addr) (x1 : Int32) : entryFrame m #[(.ref x0), (.int x1)] 2 = mkF m 0 #[rv x0, iv x1] [] := by first | (simp [entryFrame, mkF, argsToLocals, Value.category]; done) | rfl
def Q_itm (Z : State) (o0 : Addr) (p1 : Int32) (x_ : Addr) (k_ : ClassId) (zi_ : Int32) (vs_ : List Value) (w_ : Int32) (h0 : Heap) (n0 : Nat) (v : Option Value) (h : Heap) (L : List Loc) : Prop := v = some (.int w_) ∧ Fr n0 L ∧ h = h0
theorem d17_0 : decode prog_2_method_13_code 0 = .ok (.aload_n 0, 1) := by decide +kernel
theorem d17_1 : decode prog_2_method_13_code 1 = .ok (.getfield 22, 3) := by decide +kernel
theorem d17_4 : decode prog_2_method_13_code 4 = .ok (.iload_n 1, 1) := by decide +kernel
theorem d17_5 : decode prog_2_method_13_code 5 = .ok (.iaload, 1) := by decide +kernel
theorem d17_6 : decode prog_2_method_13_code 6 = .ok (.ireturn, 1) := by decide +kernel
set_option maxRecDepth 65536 in
set_option maxHeartbeats 40000000 in
theorem rm_itm (l : Launch) (Z : State) (a0 : Array Value) (hw : ∀ d ∈ tables_1, d.before a0 Z = true) (ws : List Jvm.Cond) (o0 : Addr) (p1 : Int32) (x_ : Addr) (k_ : ClassId) (zi_ : Int32) (vs_ : List Value) (w_ : Int32) (h0 : Heap) (n0 : Nat) (Z0 : n0 ≤ h0.size) (F : Fld Z h0 o0 "com/example/plebiscite/plebiscite/Adjacency" "items" "[I" (.ref x_)) (V : Arv Z h0 x_ k_ .int zi_ vs_ (.int (0 : Int32))) (hin : ¬ p1 < 0 ∧ p1 < zi_) (hat : vs_.getD p1.toNatClampNeg (.int (0 : Int32)) = .int w_) :
    MetFree l (⟨"com/example/plebiscite/plebiscite/Adjacency", "item", "(I)I"⟩ : MethodName) (head1 (Jvm.Cond.code (⟨"com/example/plebiscite/plebiscite/Adjacency", "item", "(I)I"⟩ : MethodName) prog_2_method_13_code 2 (some .int) :: ws) ({ frames := 0, cells := 0, slots := 0, locals := 0 } : Room)) (fun a U => a = #[(.ref o0), (.int p1)] ∧ Z.Warmed39 U.vm ∧ U.heap = h0) (fun _ _ _ _ _ => True) (fun _ U o U' => ∃ v L, o = .returned v ∧ Q_itm Z o0 p1 x_ k_ zi_ vs_ w_ h0 n0 v U'.heap L ∧ FrameEnd U o U' L ({ frames := 0, cells := 0, slots := 0, locals := 0 } : Room).cells ({ frames := 0, cells := 0, slots := 0, locals := 0 } : Room).slots) := by
  refine MetFree.of_bodySF (plainFor_of_name pn_0) hisR ?_
  intro p e s m args below meth c s₁ Bd hml0 hP hK
  obtain ⟨rfl, hZ, hh⟩ := hP
  have hx := Bd.exec
  have hby := Bd.bytes
  have hml : c.maxLocals = 2 := hml0
  have hown : s.vm.findClass "com/example/plebiscite/plebiscite/Adjacency" = some m.cls := findClass_of_methodNamed Bd.named
  have hnm := (name_of_methodNamed Bd.named Bd.method).1
  have X0 : Stand p l e ({ frames := 0, cells := 0, slots := 0, locals := 0 } : Room) s m #[(.ref o0), (.int p1)] below meth c s₁ [] 0 0 := Stand.of_body Bd
  have e0 : s₁.heap = h0 := by rw [← hh, Bd.state]; rfl
  have N0 := Fr.nil n0
  have go0 : ∀ t, Steps p.tables e below (s₁.setTop (mkF m 0 #[rv o0, iv p1] [])) t → Steps p.tables e below (s₁.setTop (entryFrame m #[(.ref o0), (.int p1)] 2)) t := fun t k => castTop (ef_itm m o0 p1) k
  obtain ⟨O, hO⟩ : ∃ z, z = (s₁.setTop (entryFrame m #[(.ref o0), (.int p1)] 2)) := ⟨_, rfl⟩
  rw [← hO] at go0
  obtain ⟨T101, X101, e101, st101⟩ := getF X0 hx hZ hown (host := "") (Or.inl (hw _ (List.mem_of_getElem? (i := 16) rfl))) Via.refl e0 F (g := (mkF m 1 #[rv o0, iv p1] [(.ref o0)])) rfl rfl (hb hby d17_1)
  obtain ⟨cl102, Ar102, q102, S102, M102, Hs102, G102⟩ := V
  have f103 : Arv Z h0 x_ k_ .int zi_ vs_ (.int 0) := ⟨cl102, Ar102, q102, S102, M102, Hs102, G102⟩
  have hin104 : ¬ (p1 < 0 ∨ cl102.slots.size ≤ (p1).toNatClampNeg) := inb_of S102 hin
  have hat104 : cl102.slots[(p1).toNatClampNeg]? = some (.int w_) := Hs102.at hin104 hat
  have go105 : ∀ t, Steps p.tables e below (T101.setTop (mkF m 6 #[rv o0, iv p1] [(.int w_)])) t → Steps p.tables e below O t := fun t k => go0 t (by
    refine XS.aloadN X0.here hx rfl (hb hby d17_0) rfl rfl ?_
    refine st101 _ ?_
    show Steps _ _ _ (T101.setTop (mkF m 4 _ [(.ref x_)])) _
    refine XS.iloadN X101.here hx rfl (hb hby d17_4) rfl ?_
    refine X101.iaload hx (j := p1) (v := (.int w_)) (by rw [e101]; exact Ar102.1) (State.isArrayOf_alike hZ.alike Ar102.2.1) Ar102.2.2 hin104 hat104 (g := (mkF m 5 #[rv o0, iv p1] [(.int p1), (.ref x_)])) rfl rfl (hb hby d17_5) _ ?_
    show Steps _ _ _ (T101.setTop (mkF m 6 _ [(.int w_)])) _
    exact k)
  rw [hO] at go105
  obtain ⟨fs, hr, hrun, hended, hW, hsame⟩ := X101.leave (v := some (.int w_)) (fun h => by rw [Bd.returns] at h; cases h)
  refine ⟨_, _, go105 _ ?_, hrun, hended, _, _, rfl, ?_, ⟨_, rfl⟩, hW, hsame.mono (by decide) (by decide)⟩
  · exact retI X101 hx Bd.returns (hb hby d17_6) hr
  · show Q_itm Z o0 p1 x_ k_ zi_ vs_ w_ h0 n0 _ T101.heap _
    rw [e101]
    exact ⟨rfl, N0, rfl⟩
theorem ef_slt (m : MethodId) (x0 : Addr) (x1 : Int32) : entryFrame m #[(.ref x0), (.int x1)] 2 = mkF m 0 #[rv x0, iv x1] [] := by first | (simp [entryFrame, mkF, argsToLocals, Value.category]; done) | rfl
def Q_slt (Z : State) (o0 : Addr) (p1 : Int32) (x_ : Addr) (k_ : ClassId) (zi_ : Int32) (vs_ : List Value) (w_ : Int32) (h0 : Heap) (n0 : Nat) (v : Option Value) (h : Heap) (L : List Loc) : Prop := v = some (.int w_) ∧ Fr n0 L ∧ h = h0
theorem d18_0 : decode prog_2_method_14_code 0 = .ok (.aload_n 0, 1) := by decide +kernel
theorem d18_1 : decode prog_2_method_14_code 1 = .ok (.getfield 65, 3) := by decide +kernel
theorem d18_4 : decode prog_2_method_14_code 4 = .ok (.iload_n 1, 1) := by decide +kernel
theorem d18_5 : decode prog_2_method_14_code 5 = .ok (.iaload, 1) := by decide +kernel
theorem d18_6 : decode prog_2_method_14_code 6 = .ok (.ireturn, 1) := by decide +kernel
set_option maxRecDepth 65536 in
set_option maxHeartbeats 40000000 in
theorem rm_slt (l : Launch) (Z : State) (a0 : Array Value) (hw : ∀ d ∈ tables_1, d.before a0 Z = true) (ws : List Jvm.Cond) (o0 : Addr) (p1 : Int32) (x_ : Addr) (k_ : ClassId) (zi_ : Int32) (vs_ : List Value) (w_ : Int32) (h0 : Heap) (n0 : Nat) (Z0 : n0 ≤ h0.size) (F : Fld Z h0 o0 "com/example/plebiscite/plebiscite/Adjacency" "slots" "[I" (.ref x_)) (V : Arv Z h0 x_ k_ .int zi_ vs_ (.int (0 : Int32))) (hin : ¬ p1 < 0 ∧ p1 < zi_) (hat : vs_.getD p1.toNatClampNeg (.int (0 : Int32)) = .int w_) :
    MetFree l (⟨"com/example/plebiscite/plebiscite/Adjacency", "slot", "(I)I"⟩ : MethodName) (head1 (Jvm.Cond.code (⟨"com/example/plebiscite/plebiscite/Adjacency", "slot", "(I)I"⟩ : MethodName) prog_2_method_14_code 2 (some .int) :: ws) ({ frames := 0, cells := 0, slots := 0, locals := 0 } : Room)) (fun a U => a = #[(.ref o0), (.int p1)] ∧ Z.Warmed39 U.vm ∧ U.heap = h0) (fun _ _ _ _ _ => True) (fun _ U o U' => ∃ v L, o = .returned v ∧ Q_slt Z o0 p1 x_ k_ zi_ vs_ w_ h0 n0 v U'.heap L ∧ FrameEnd U o U' L ({ frames := 0, cells := 0, slots := 0, locals := 0 } : Room).cells ({ frames := 0, cells := 0, slots := 0, locals := 0 } : Room).slots) := by
  refine MetFree.of_bodySF (plainFor_of_name pn_0) hisR ?_
  intro p e s m args below meth c s₁ Bd hml0 hP hK
  obtain ⟨rfl, hZ, hh⟩ := hP
  have hx := Bd.exec
  have hby := Bd.bytes
  have hml : c.maxLocals = 2 := hml0
  have hown : s.vm.findClass "com/example/plebiscite/plebiscite/Adjacency" = some m.cls := findClass_of_methodNamed Bd.named
  have hnm := (name_of_methodNamed Bd.named Bd.method).1
  have X0 : Stand p l e ({ frames := 0, cells := 0, slots := 0, locals := 0 } : Room) s m #[(.ref o0), (.int p1)] below meth c s₁ [] 0 0 := Stand.of_body Bd
  have e0 : s₁.heap = h0 := by rw [← hh, Bd.state]; rfl
  have N0 := Fr.nil n0
  have go0 : ∀ t, Steps p.tables e below (s₁.setTop (mkF m 0 #[rv o0, iv p1] [])) t → Steps p.tables e below (s₁.setTop (entryFrame m #[(.ref o0), (.int p1)] 2)) t := fun t k => castTop (ef_slt m o0 p1) k
  obtain ⟨O, hO⟩ : ∃ z, z = (s₁.setTop (entryFrame m #[(.ref o0), (.int p1)] 2)) := ⟨_, rfl⟩
  rw [← hO] at go0
  obtain ⟨T101, X101, e101, st101⟩ := getF X0 hx hZ hown (host := "") (Or.inl (hw _ (List.mem_of_getElem? (i := 52) rfl))) Via.refl e0 F (g := (mkF m 1 #[rv o0, iv p1] [(.ref o0)])) rfl rfl (hb hby d18_1)
  obtain ⟨cl102, Ar102, q102, S102, M102, Hs102, G102⟩ := V
  have f103 : Arv Z h0 x_ k_ .int zi_ vs_ (.int 0) := ⟨cl102, Ar102, q102, S102, M102, Hs102, G102⟩
  have hin104 : ¬ (p1 < 0 ∨ cl102.slots.size ≤ (p1).toNatClampNeg) := inb_of S102 hin
  have hat104 : cl102.slots[(p1).toNatClampNeg]? = some (.int w_) := Hs102.at hin104 hat
  have go105 : ∀ t, Steps p.tables e below (T101.setTop (mkF m 6 #[rv o0, iv p1] [(.int w_)])) t → Steps p.tables e below O t := fun t k => go0 t (by
    refine XS.aloadN X0.here hx rfl (hb hby d18_0) rfl rfl ?_
    refine st101 _ ?_
    show Steps _ _ _ (T101.setTop (mkF m 4 _ [(.ref x_)])) _
    refine XS.iloadN X101.here hx rfl (hb hby d18_4) rfl ?_
    refine X101.iaload hx (j := p1) (v := (.int w_)) (by rw [e101]; exact Ar102.1) (State.isArrayOf_alike hZ.alike Ar102.2.1) Ar102.2.2 hin104 hat104 (g := (mkF m 5 #[rv o0, iv p1] [(.int p1), (.ref x_)])) rfl rfl (hb hby d18_5) _ ?_
    show Steps _ _ _ (T101.setTop (mkF m 6 _ [(.int w_)])) _
    exact k)
  rw [hO] at go105
  obtain ⟨fs, hr, hrun, hended, hW, hsame⟩ := X101.leave (v := some (.int w_)) (fun h => by rw [Bd.returns] at h; cases h)
  refine ⟨_, _, go105 _ ?_, hrun, hended, _, _, rfl, ?_, ⟨_, rfl⟩, hW, hsame.mono (by decide) (by decide)⟩
  · exact retI X101 hx Bd.returns (hb hby d18_6) hr
  · show Q_slt Z o0 p1 x_ k_ zi_ vs_ w_ h0 n0 _ T101.heap _
    rw [e101]
    exact ⟨rfl, N0, rfl⟩
theorem own_sync1 (p a b c x : Int32) (R : List Value) (h : p = (0 : Int32)) : ∃ e0 : Int32, ([.int a, .int b, .int c] : List Value).set p.toNatClampNeg (.int x) = [.int e0, .int b, .int c] ∧ ((.int a :: R : List Value).set ((0 : Int32) + p).toNatClampNeg (.int x)) = .int e0 :: R := by
  subst h; exact ⟨x, rfl, rfl⟩
theorem own_sync2 (p a b c x : Int32) (R : List Value) (h : p = (0 : Int32) ∨ p = (1 : Int32)) : ∃ e0 e1 : Int32, ([.int a, .int b, .int c] : List Value).set p.toNatClampNeg (.int x) = [.int e0, .int e1, .int c] ∧ ((.int a :: .int b :: R : List Value).set ((0 : Int32) + p).toNatClampNeg (.int x)) = .int e0 :: .int e1 :: R := by
  rcases h with rfl | rfl
  · exact ⟨x, b, rfl, rfl⟩
  · exact ⟨a, x, rfl, rfl⟩
theorem own_sync3 (p a b c x : Int32) (R : List Value) (h : p = (0 : Int32) ∨ p = (1 : Int32) ∨ p = (2 : Int32)) : ∃ e0 e1 e2 : Int32, ([.int a, .int b, .int c] : List Value).set p.toNatClampNeg (.int x) = [.int e0, .int e1, .int e2] ∧ ((.int a :: .int b :: .int c :: R : List Value).set ((0 : Int32) + p).toNatClampNeg (.int x)) = .int e0 :: .int e1 :: .int e2 :: R := by
  rcases h with rfl | rfl | rfl
  · exact ⟨x, b, c, rfl, rfl⟩
  · exact ⟨a, x, c, rfl, rfl⟩
  · exact ⟨a, b, x, rfl, rfl⟩
theorem own_kk (k : Int32) (h1 : 1 ≤ k.toInt) (h3 : k.toInt ≤ 3) : k = (1 : Int32) ∨ k = (2 : Int32) ∨ k = (3 : Int32) := by
  have z1 : (1 : Int32).toInt = 1 := rfl
  have z2 : (2 : Int32).toInt = 2 := rfl
  have z3 : (3 : Int32).toInt = 3 := rfl
  simp only [← Int32.toInt_inj, z1, z2, z3]
  omega
theorem own_pp (p : Int32) (h0 : 0 ≤ p.toInt) (h3 : p.toInt < 3) : p = (0 : Int32) ∨ p = (1 : Int32) ∨ p = (2 : Int32) := by
  have z0 : (0 : Int32).toInt = 0 := rfl
  have z1 : (1 : Int32).toInt = 1 := rfl
  have z2 : (2 : Int32).toInt = 2 := rfl
  simp only [← Int32.toInt_inj, z0, z1, z2]
  omega
theorem own_pos1 {p : Int32} (h0 : 0 ≤ p.toInt) (h1 : p.toInt < (1 : Int32).toInt) : p = (0 : Int32) := by
  have z0 : (0 : Int32).toInt = 0 := rfl
  have z1 : (1 : Int32).toInt = 1 := rfl
  rw [← Int32.toInt_inj]; omega
theorem own_pos2 {p : Int32} (h0 : 0 ≤ p.toInt) (h1 : p.toInt < (2 : Int32).toInt) : p = (0 : Int32) ∨ p = (1 : Int32) := by
  have z0 : (0 : Int32).toInt = 0 := rfl
  have z1 : (1 : Int32).toInt = 1 := rfl
  have z2 : (2 : Int32).toInt = 2 := rfl
  simp only [← Int32.toInt_inj]; omega
theorem own_pin {p : Int32} (h : p = (0 : Int32) ∨ p = (1 : Int32) ∨ p = (2 : Int32)) : (¬ p < 0 ∧ p < (3 : Int32)) ∧ p.toNatClampNeg < 3 ∧ (¬ ((0 : Int32) + p) < 0 ∧ ((0 : Int32) + p) < (4 : Int32)) ∧ (¬ ((0 : Int32) + p) < 0 ∧ ((0 : Int32) + p) < (16 : Int32)) ∧ ((0 : Int32) + p).toNatClampNeg < 4 ∧ ((0 : Int32) + p).toNatClampNeg < 16 := by
  rcases h with rfl | rfl | rfl <;> decide
theorem ef_law (m : MethodId) (x0 : Int32) (x1 : Int32) (x2 : Int32) (x3 : Int32) (x4 : Int64) (x5 : Int32) : entryFrame m #[(.int x0), (.int x1), (.int x2), (.int x3), (.long x4), (.int x5)] maxLocals = mkF m 0 #[iv x0, iv x1, iv x2, iv x3, .val (.long x4), .second, iv x5, .unset, .unset, .unset, .unset, .unset, .unset, .unset, .unset, .unset, .unset, .unset, .unset, .unset] [] := by first | (simp [entryFrame, mkF, argsToLocals, Value.category, maxLocals]; done) | rfl
theorem pn_2 : plainName "com/example/plebiscite/plebiscite/AdjacencyRemovePinLaw" = true := by first | (simp [plainName, overriddenIn]; done) | decide +kernel
def Q_law (Z : State) (p0 : Int32) (p1 : Int32) (p2 : Int32) (p3 : Int32) (q4 : Int64) (p5 : Int32) (h0 : Heap) (n0 : Nat) (v : Option Value) (h : Heap) (L : List Loc) : Prop := v = some (.int (1 : Int32)) ∧ Fr n0 L
theorem pd_7 : parseMethodDescriptor "()I" = some ⟨[], some .int⟩ := by decide +kernel
theorem pd_8 : parseMethodDescriptor "(I)Lcom/example/plebiscite/plebiscite/Adjacency;" = some ⟨[.int], some (.object "com/example/plebiscite/plebiscite/Adjacency")⟩ := by decide +kernel
theorem pd_9 : parseMethodDescriptor "(III)V" = some ⟨[.int, .int, .int], none⟩ := by decide +kernel
set_option maxRecDepth 65536 in
set_option maxHeartbeats 40000000 in
theorem rm_law (l : Launch) (Z : State) (a0 : Array Value) (hw : ∀ d ∈ tables_1, d.before a0 Z = true) (ws : List Jvm.Cond) (p0 : Int32) (p1 : Int32) (p2 : Int32) (p3 : Int32) (q4 : Int64) (p5 : Int32) (h0 : Heap) (n0 : Nat) (Z0 : n0 ≤ h0.size)  :
    MetFree l x (head1 (Jvm.Cond.code x code maxLocals ret :: ws) room_1) (fun a U => a = #[(.int p0), (.int p1), (.int p2), (.int p3), (.long q4), (.int p5)] ∧ Z.Warmed39 U.vm ∧ U.heap = h0) (fun _ _ _ _ _ => True) (fun _ U o U' => ∃ v L, o = .returned v ∧ Q_law Z p0 p1 p2 p3 q4 p5 h0 n0 v U'.heap L ∧ FrameEnd U o U' L room_1.cells room_1.slots) := by
  refine MetFree.of_bodySF (plainFor_of_name pn_2) hisR ?_
  intro p e s m args below meth c s₁ Bd hml0 hP hK
  obtain ⟨rfl, hZ, hh⟩ := hP
  have hx := Bd.exec
  have hby := Bd.bytes
  have hml : c.maxLocals = 20 := hml0
  have hown : s.vm.findClass "com/example/plebiscite/plebiscite/AdjacencyRemovePinLaw" = some m.cls := findClass_of_methodNamed Bd.named
  have hnm := (name_of_methodNamed Bd.named Bd.method).1
  have X0 : Stand p l e room_1 s m #[(.int p0), (.int p1), (.int p2), (.int p3), (.long q4), (.int p5)] below meth c s₁ [] 0 0 := Stand.of_body Bd
  have e0 : s₁.heap = h0 := by rw [← hh, Bd.state]; rfl
  have N0 := Fr.nil n0
  have go0 : ∀ t, Steps p.tables e below (s₁.setTop (mkF m 0 #[iv p0, iv p1, iv p2, iv p3, .val (.long q4), .second, iv p5, .unset, .unset, .unset, .unset, .unset, .unset, .unset, .unset, .unset, .unset, .unset, .unset, .unset] [])) t → Steps p.tables e below (s₁.setTop (entryFrame m #[(.int p0), (.int p1), (.int p2), (.int p3), (.long q4), (.int p5)] maxLocals)) t := fun t k => castTop (ef_law m p0 p1 p2 p3 q4 p5) k
  obtain ⟨O, hO⟩ : ∃ z, z = (s₁.setTop (entryFrame m #[(.int p0), (.int p1), (.int p2), (.int p3), (.long q4), (.int p5)] maxLocals)) := ⟨_, rfl⟩
  rw [← hO] at go0
  have go101 : ∀ t, Steps p.tables e below (s₁.setTop (mkF m 3 #[iv p0, iv p1, iv p2, iv p3, .val (.long q4), .second, iv p5, .unset, .unset, .unset, .unset, .unset, .unset, .unset, .unset, .unset, .unset, .unset, .unset, .unset] [(.int (p0 &&& (1 : Int32)))])) t → Steps p.tables e below O t := fun t k => go0 t (by
    refine XS.iloadN X0.here hx rfl (hb hby at_0) rfl ?_
    refine XS.iconst X0.here hx rfl (hb hby at_1) ?_
    show Steps _ _ _ (s₁.setTop (mkF m 2 _ [(.int 1), (.int p0)])) _
    refine XS.iand X0.here hx rfl (hb hby at_2) rfl ?_
    exact k)
  by_cases hpair : (p0 &&& (1 : Int32)) = (0 : Int32)
  · have g_s : 0 ≤ (((p0.toUInt32 >>> ((1 : Int32) &&& 31).toUInt32).toInt32) &&& (255 : Int32)).toInt := by rw [c_mask _ _ 8 (by decide) (by decide)]; omega
    have g_k : 1 ≤ (((((p0.toUInt32 >>> ((1 : Int32) &&& 31).toUInt32).toInt32) &&& (255 : Int32)) % (3 : Int32)) + (1 : Int32)).toInt ∧ (((((p0.toUInt32 >>> ((1 : Int32) &&& 31).toUInt32).toInt32) &&& (255 : Int32)) % (3 : Int32)) + (1 : Int32)).toInt ≤ 3 := by
      have h1 := (c_irem (((p0.toUInt32 >>> ((1 : Int32) &&& 31).toUInt32).toInt32) &&& (255 : Int32)) (3 : Int32) 3 rfl).1 g_s
      have h2 := c_iadd ((((p0.toUInt32 >>> ((1 : Int32) &&& 31).toUInt32).toInt32) &&& (255 : Int32)) % (3 : Int32)) (1 : Int32)
      have h3 := rng32 (((((p0.toUInt32 >>> ((1 : Int32) &&& 31).toUInt32).toInt32) &&& (255 : Int32)) % (3 : Int32)) + (1 : Int32))
      have z1 : (1 : Int32).toInt = 1 := rfl
      omega
    have go102 : ∀ t, Steps p.tables e below (s₁.setTop (mkF m 26 #[iv p0, iv p1, iv p2, iv p3, .val (.long q4), .second, iv p5, iv 0, iv (((((p0.toUInt32 >>> ((1 : Int32) &&& 31).toUInt32).toInt32) &&& (255 : Int32)) % (3 : Int32)) + (1 : Int32)), .unset, .unset, .unset, .unset, .unset, .unset, .unset, .unset, .unset, .unset, .unset] [])) t → Steps p.tables e below O t := fun t k => go101 t (by
      refine XS.ifYes X0.here hx rfl (pc0 := 3) (pc' := 10) rfl (hb hby at_3) rfl ((if0 _ _).trans (teq (hpair : (p0 &&& (1 : Int32)) = (0 : Int32))).1) (by decide) (by decide) ?_
      refine XS.iconst X0.here hx rfl (hb hby at_10) ?_
      show Steps _ _ _ (s₁.setTop (mkF m 11 _ [(.int 0)])) _
      refine XS.istore X0.here hx rfl (hb hby at_11) rfl (l' := #[iv p0, iv p1, iv p2, iv p3, .val (.long q4), .second, iv p5, iv 0, .unset, .unset, .unset, .unset, .unset, .unset, .unset, .unset, .unset, .unset, .unset, .unset]) rfl ?_
      show Steps _ _ _ (s₁.setTop (mkF m 13 _ [])) _
      refine XS.iloadN X0.here hx rfl (hb hby at_13) rfl ?_
      refine XS.iconst X0.here hx rfl (hb hby at_14) ?_
      show Steps _ _ _ (s₁.setTop (mkF m 15 _ [(.int 1), (.int p0)])) _
      refine XS.iushr X0.here hx rfl (hb hby at_15) rfl ?_
      refine XS.sipush X0.here hx rfl (hb hby at_16) ?_
      show Steps _ _ _ (s₁.setTop (mkF m 19 _ [(.int 255), (.int ((p0.toUInt32 >>> ((1 : Int32) &&& 31).toUInt32).toInt32))])) _
      refine XS.iand X0.here hx rfl (hb hby at_19) rfl ?_
      refine XS.iconst X0.here hx rfl (hb hby at_20) ?_
      show Steps _ _ _ (s₁.setTop (mkF m 21 _ [(.int 3), (.int (((p0.toUInt32 >>> ((1 : Int32) &&& 31).toUInt32).toInt32) &&& (255 : Int32)))])) _
      refine iremM X0 hx rfl (hb hby at_21) rfl (by decide) ?_
      refine XS.iconst X0.here hx rfl (hb hby at_22) ?_
      show Steps _ _ _ (s₁.setTop (mkF m 23 _ [(.int 1), (.int ((((p0.toUInt32 >>> ((1 : Int32) &&& 31).toUInt32).toInt32) &&& (255 : Int32)) % (3 : Int32)))])) _
      refine XS.iadd X0.here hx rfl (hb hby at_23) rfl ?_
      refine XS.istore X0.here hx rfl (hb hby at_24) rfl (l' := #[iv p0, iv p1, iv p2, iv p3, .val (.long q4), .second, iv p5, iv 0, iv (((((p0.toUInt32 >>> ((1 : Int32) &&& 31).toUInt32).toInt32) &&& (255 : Int32)) % (3 : Int32)) + (1 : Int32)), .unset, .unset, .unset, .unset, .unset, .unset, .unset, .unset, .unset, .unset, .unset]) rfl ?_
      show Steps _ _ _ (s₁.setTop (mkF m 26 _ [])) _
      exact k)
    obtain ⟨kk, hq_k⟩ : ∃ z : Int32, z = (((((p0.toUInt32 >>> ((1 : Int32) &&& 31).toUInt32).toInt32) &&& (255 : Int32)) % (3 : Int32)) + (1 : Int32)) := ⟨_, rfl⟩
    rw [← hq_k] at go102
    rw [← hq_k] at g_k
    have hk := own_kk kk g_k.1 g_k.2
    have hk0 : ¬ kk = (0 : Int32) := by rcases hk with h | h | h <;> rw [h] <;> decide
    have g_9 : 0 ≤ ((p0.toUInt32 >>> ((9 : Int32) &&& 31).toUInt32).toInt32).toInt := by rw [c_iushr p0 (9 : Int32) 9 (by decide) (by decide)]; omega
    have g_p := (c_iremV ((p0.toUInt32 >>> ((9 : Int32) &&& 31).toUInt32).toInt32) kk).1 g_9 (by omega)
    have go103 : ∀ t, Steps p.tables e below (s₁.setTop (mkF m 35 #[iv p0, iv p1, iv p2, iv p3, .val (.long q4), .second, iv p5, iv 0, iv kk, iv (((p0.toUInt32 >>> ((9 : Int32) &&& 31).toUInt32).toInt32) % kk), .unset, .unset, .unset, .unset, .unset, .unset, .unset, .unset, .unset, .unset] [])) t → Steps p.tables e below O t := fun t k => go102 t (by
      refine XS.iloadN X0.here hx rfl (hb hby at_26) rfl ?_
      refine XS.bipush X0.here hx rfl (hb hby at_27) ?_
      show Steps _ _ _ (s₁.setTop (mkF m 29 _ [(.int 9), (.int p0)])) _
      refine XS.iushr X0.here hx rfl (hb hby at_29) rfl ?_
      refine XS.iload X0.here hx rfl (hb hby at_30) rfl ?_
      show Steps _ _ _ (s₁.setTop (mkF m 32 _ [(.int kk), (.int ((p0.toUInt32 >>> ((9 : Int32) &&& 31).toUInt32).toInt32))])) _
      refine iremM X0 hx rfl (hb hby at_32) rfl hk0 ?_
      refine XS.istore X0.here hx rfl (hb hby at_33) rfl (l' := #[iv p0, iv p1, iv p2, iv p3, .val (.long q4), .second, iv p5, iv 0, iv kk, iv (((p0.toUInt32 >>> ((9 : Int32) &&& 31).toUInt32).toInt32) % kk), .unset, .unset, .unset, .unset, .unset, .unset, .unset, .unset, .unset, .unset]) rfl ?_
      show Steps _ _ _ (s₁.setTop (mkF m 35 _ [])) _
      exact k)
    obtain ⟨pos, hq_p⟩ : ∃ z : Int32, z = (((p0.toUInt32 >>> ((9 : Int32) &&& 31).toUInt32).toInt32) % kk) := ⟨_, rfl⟩
    rw [← hq_p] at go103
    rw [← hq_p] at g_p
    have hp := own_pp pos (by omega) (by omega)
    have hpi := own_pin hp
    have go104 : ∀ t, Steps p.tables e below (s₁.setTop (mkF m 48 #[iv p0, iv p1, iv p2, iv p3, .val (.long q4), .second, iv p5, iv 0, iv kk, iv pos, iv q4.toInt32, iv ((q4.toUInt64 >>> ((32 : Int32) &&& 0x3f).toInt64.toUInt64).toInt64).toInt32, .unset, .unset, .unset, .unset, .unset, .unset, .unset, .unset] [])) t → Steps p.tables e below O t := fun t k => go103 t (by
      refine XS.lload X0.here hx rfl (hb hby at_35) rfl ?_
      refine XS.l2i X0.here hx rfl (hb hby at_37) rfl ?_
      show Steps _ _ _ (s₁.setTop (mkF m 38 _ [(.int q4.toInt32)])) _
      refine XS.istore X0.here hx rfl (hb hby at_38) rfl (l' := #[iv p0, iv p1, iv p2, iv p3, .val (.long q4), .second, iv p5, iv 0, iv kk, iv pos, iv q4.toInt32, .unset, .unset, .unset, .unset, .unset, .unset, .unset, .unset, .unset]) rfl ?_
      show Steps _ _ _ (s₁.setTop (mkF m 40 _ [])) _
      refine XS.lload X0.here hx rfl (hb hby at_40) rfl ?_
      refine XS.bipush X0.here hx rfl (hb hby at_42) ?_
      show Steps _ _ _ (s₁.setTop (mkF m 44 _ [(.int 32), (.long q4)])) _
      refine XS.lushr X0.here hx rfl (hb hby at_44) rfl ?_
      refine XS.l2i X0.here hx rfl (hb hby at_45) rfl ?_
      show Steps _ _ _ (s₁.setTop (mkF m 46 _ [(.int ((q4.toUInt64 >>> ((32 : Int32) &&& 0x3f).toInt64.toUInt64).toInt64).toInt32)])) _
      refine XS.istore X0.here hx rfl (hb hby at_46) rfl (l' := #[iv p0, iv p1, iv p2, iv p3, .val (.long q4), .second, iv p5, iv 0, iv kk, iv pos, iv q4.toInt32, iv ((q4.toUInt64 >>> ((32 : Int32) &&& 0x3f).toInt64.toUInt64).toInt64).toInt32, .unset, .unset, .unset, .unset, .unset, .unset, .unset, .unset]) rfl ?_
      show Steps _ _ _ (s₁.setTop (mkF m 48 _ [])) _
      exact k)
    obtain ⟨s0, hq_s0⟩ : ∃ z : Int32, z = q4.toInt32 := ⟨_, rfl⟩
    rw [← hq_s0] at go104
    obtain ⟨s1, hq_s1⟩ : ∃ z : Int32, z = ((q4.toUInt64 >>> ((32 : Int32) &&& 0x3f).toInt64.toUInt64).toInt64).toInt32 := ⟨_, rfl⟩
    rw [← hq_s1] at go104
    obtain ⟨T105, h105, X105, e105, E105, A105, D105, -, st105⟩ := newO X0 hx hZ hown (hw _ (List.mem_of_getElem? (i := 0) rfl)) (hw _ (List.mem_of_getElem? (i := 1) rfl)) (hw _ (List.mem_of_getElem? (i := 2) rfl)) e0 (g := (mkF m 105 #[iv p0, iv p1, iv p2, iv p3, .val (.long q4), .second, iv p5, iv 0, iv kk, iv pos, iv s0, iv s1, iv p5, .unset, .unset, .unset, .unset, .unset, .unset, .unset] [])) rfl (hb hby at_105) (by decide) (by decide)
    obtain ⟨g, g105⟩ : ∃ z, z = h0.size := ⟨_, rfl⟩
    have ge_g : n0 ≤ g := Nat.le_trans Z0 (Nat.le_of_eq g105.symm)
    rw [← g105] at A105 D105 st105
    have Z106 := Nat.le_trans Z0 E105.1
    have F_start_g : Fld Z h105 g "com/example/plebiscite/plebiscite/Adjacency" "start" "[I" .null := D105 (Or.inr (hw _ (List.mem_of_getElem? (i := 11) rfl))) (ty := (.array .int)) (by decide)
    have F_degree_g : Fld Z h105 g "com/example/plebiscite/plebiscite/Adjacency" "degree" "[I" .null := D105 (Or.inr (hw _ (List.mem_of_getElem? (i := 13) rfl))) (ty := (.array .int)) (by decide)
    have F_room_g : Fld Z h105 g "com/example/plebiscite/plebiscite/Adjacency" "room" "[I" .null := D105 (Or.inl (hw _ (List.mem_of_getElem? (i := 15) rfl))) (ty := (.array .int)) (by decide)
    have F_items_g : Fld Z h105 g "com/example/plebiscite/plebiscite/Adjacency" "items" "[I" .null := D105 (Or.inl (hw _ (List.mem_of_getElem? (i := 17) rfl))) (ty := (.array .int)) (by decide)
    have F_bound_g : Fld Z h105 g "com/example/plebiscite/plebiscite/Adjacency" "bound" "[I" .null := D105 (Or.inl (hw _ (List.mem_of_getElem? (i := 28) rfl))) (ty := (.array .int)) (by decide)
    have F_end_g : Fld Z h105 g "com/example/plebiscite/plebiscite/Adjacency" "end" "I" (.int 0) := D105 (Or.inl (hw _ (List.mem_of_getElem? (i := 38) rfl))) (ty := .int) (by decide)
    have F_held_g : Fld Z h105 g "com/example/plebiscite/plebiscite/Adjacency" "held" "I" (.int 0) := D105 (Or.inl (hw _ (List.mem_of_getElem? (i := 44) rfl))) (ty := .int) (by decide)
    have F_size_g : Fld Z h105 g "com/example/plebiscite/plebiscite/Adjacency" "size" "I" (.int 0) := D105 (Or.inl (hw _ (List.mem_of_getElem? (i := 46) rfl))) (ty := .int) (by decide)
    have F_slots_g : Fld Z h105 g "com/example/plebiscite/plebiscite/Adjacency" "slots" "[I" .null := D105 (Or.inl (hw _ (List.mem_of_getElem? (i := 53) rfl))) (ty := (.array .int)) (by decide)
    have F_boundSum_g : Fld Z h105 g "com/example/plebiscite/plebiscite/Adjacency" "boundSum" "J" (.long 0) := D105 (Or.inl (hw _ (List.mem_of_getElem? (i := 113) rfl))) (ty := .long) (by decide)
    obtain ⟨_, _, ⟨T107, L107, k107, n107⟩, -, X107, ⟨Lc107, hQ107, l107, y107, z107⟩, st107⟩ := X105.specialBack hx (y := (⟨"com/example/plebiscite/plebiscite/Adjacency", "<init>", "(II)V"⟩ : MethodName)) rfl hown (mvT hZ (hw _ (List.mem_of_getElem? (i := 3) rfl))) (mvT hZ (hw _ (List.mem_of_getElem? (i := 4) rfl))) (mvT hZ (hw _ (List.mem_of_getElem? (i := 5) rfl))) (by decide) (backOf (W := 1) (rm_c24 l Z a0 hw [] g  h105 n0 Z106 A105 ge_g F_start_g F_degree_g F_room_g F_items_g F_slots_g F_end_g F_held_g F_size_g F_bound_g) hZ (hw _ (List.mem_of_getElem? (i := 5) rfl)) (hw _ (List.mem_of_getElem? (i := 2) rfl)) (by decide) (by decide)) (g := (mkF m 111 #[iv p0, iv p1, iv p2, iv p3, .val (.long q4), .second, iv p5, iv 0, iv kk, iv pos, iv s0, iv s1, iv p5, .unset, .unset, .unset, .unset, .unset, .unset, .unset] [(.int 4), (.int 1), (.ref g), (.ref g)])) rfl (by rw [hml]; rfl) (Steps.refl _) (a := g) (argsL := [(.int 1), (.int 4)]) (rest := [(.ref g)]) (lenOf pd_0 rfl) rfl (by show 2 * 0 + _ ≤ _; exact Nat.le_of_eq rfl) (hb hby at_111) (fun _ _ => ⟨rfl, e105, (by decide : 1 + 4 ≤ _), (by decide : 10 + 7 ≤ _)⟩)
    dsimp only [Pt.U, Pt.locs, Pt.cells, Pt.slots] at X107 l107 y107 z107 st107 hQ107
    rw [l107, y107, z107] at X107
    obtain ⟨st, dg, rm, it, k1, k2, k3, k4, hv107, N107q, K0, hA0⟩ := hQ107
    rw [hv107] at st107
    have N107 := Fr.app N0 N107q
    have HA0 : own_A Z T107.heap n0 g st dg rm it k1 k2 k3 k4 (4 : Int32) [.int (0 : Int32), .int (0 : Int32), .int (0 : Int32), .int (0 : Int32)] .null (0 : Int32) (0 : Int32) (0 : Int32) (0 : Int32) (0 : Int32) := hA0
    have Z108 := Nat.le_trans HA0.2.1 (Nat.le_of_lt HA0.1.lt)
    obtain ⟨cq109, kq109, q109a, q109b, q109c⟩ := isOf hZ rfl HA0.1
    obtain ⟨_, _, ⟨T109, L109, k109, n109⟩, -, X109, ⟨Lc109, hQ109, l109, y109, z109⟩, st109⟩ := X107.virtualBack hx (y := (⟨"com/example/plebiscite/plebiscite/Adjacency", "add", "(II)V"⟩ : MethodName)) (z := (⟨"com/example/plebiscite/plebiscite/Adjacency", "add", "(II)V"⟩ : MethodName)) hown (mvT hZ (hw _ (List.mem_of_getElem? (i := 18) rfl))) (mvT hZ (hw _ (List.mem_of_getElem? (i := 19) rfl))) (notFace_of_selects (args := #[]) (mvT hZ (hw _ (List.mem_of_getElem? (i := 21) rfl)))) (mvT hZ (hw _ (List.mem_of_getElem? (i := 21) rfl))) (mvT hZ (hw _ (List.mem_of_getElem? (i := 20) rfl))) (by decide) (backOf (W := 0) (rm_adu l Z a0 hw [] g p1 st dg rm it k1 k2 k3 k4 (4 : Int32) [.int (0 : Int32), .int (0 : Int32), .int (0 : Int32), .int (0 : Int32)] .null (0 : Int32) T107.heap n0 Z108 HA0 (by decide) ⟨by decide, by decide⟩ (Nat.le_of_ble_eq_true rfl)) hZ (hw _ (List.mem_of_getElem? (i := 22) rfl)) (hw _ (List.mem_of_getElem? (i := 2) rfl)) (by decide) (by decide)) q109a q109c (g := (mkF m 120 #[iv p0, iv p1, iv p2, iv p3, .val (.long q4), .second, iv p5, iv 0, iv kk, iv pos, iv s0, iv s1, iv p5, rv g, .unset, .unset, .unset, .unset, .unset, .unset] [(.int p1), (.int 0), (.ref g)])) rfl (by rw [hml]; rfl) (Steps.refl _) (argsL := [(.int 0), (.int p1)]) (rest := []) (lenOf pd_0 rfl) rfl (by show 2 * 0 + _ ≤ _; exact Nat.le_of_eq rfl) (hb hby at_120) (fun _ _ => ⟨rfl, rfl, (by decide : 5 + 0 ≤ _), (by decide : 17 + 0 ≤ _)⟩)
    dsimp only [Pt.U, Pt.locs, Pt.cells, Pt.slots] at X109 l109 y109 z109 st109 hQ109
    rw [l109, y109, z109] at X109
    obtain ⟨hv109, N109q, hA⟩ := hQ109
    rw [hv109] at st109
    have N109 := Fr.app N107 N109q
    have HA1 : own_A Z T109.heap n0 g st dg rm it k1 k2 k3 k4 (4 : Int32) [.int p1, .int (0 : Int32), .int (0 : Int32), .int (0 : Int32)] .null (1 : Int32) (1 : Int32) (1 : Int32) (1 : Int32) (1 : Int32) := hA
    have Z110 := Nat.le_trans HA1.2.1 (Nat.le_of_lt HA1.1.lt)
    have go111 : ∀ t, Steps p.tables e below (T109.setTop (mkF m 123 #[iv p0, iv p1, iv p2, iv p3, .val (.long q4), .second, iv p5, iv 0, iv kk, iv pos, iv s0, iv s1, iv p5, rv g, .unset, .unset, .unset, .unset, .unset, .unset] [])) t → Steps p.tables e below O t := fun t k => go104 t (by
      refine XS.iload X0.here hx rfl (hb hby at_48) rfl ?_
      refine XS.istore X0.here hx rfl (hb hby at_50) rfl (l' := #[iv p0, iv p1, iv p2, iv p3, .val (.long q4), .second, iv p5, iv 0, iv kk, iv pos, iv s0, iv s1, iv p5, .unset, .unset, .unset, .unset, .unset, .unset, .unset]) rfl ?_
      show Steps _ _ _ (s₁.setTop (mkF m 52 _ [])) _
      refine XS.iload X0.here hx rfl (hb hby at_52) rfl ?_
      refine XS.ifYes X0.here hx rfl (pc0 := 54) (pc' := 105) rfl (hb hby at_54) rfl ((if0 _ _).trans (teq (by decide : (0 : Int32) = (0 : Int32))).1) (by decide) (by decide) ?_
      show Steps _ _ _ (s₁.setTop (mkF m 105 _ [])) _
      refine st105 _ ?_
      show Steps _ _ _ (T105.setTop (mkF m 108 _ [(.ref g)])) _
      refine XS.dup X105.here hx rfl (hb hby at_108) rfl rfl ?_
      refine XS.iconst X105.here hx rfl (hb hby at_109) ?_
      show Steps _ _ _ (T105.setTop (mkF m 110 _ [(.int 1), (.ref g), (.ref g)])) _
      refine XS.iconst X105.here hx rfl (hb hby at_110) ?_
      refine st107.trans ?_
      show Steps _ _ _ (T107.setTop (mkF m 114 _ [(.ref g)])) _
      refine XS.astore X107.here hx rfl (hb hby at_114) rfl rfl (l' := #[iv p0, iv p1, iv p2, iv p3, .val (.long q4), .second, iv p5, iv 0, iv kk, iv pos, iv s0, iv s1, iv p5, rv g, .unset, .unset, .unset, .unset, .unset, .unset]) rfl ?_
      show Steps _ _ _ (T107.setTop (mkF m 116 _ [])) _
      refine XS.aload X107.here hx rfl (hb hby at_116) rfl rfl ?_
      refine XS.iconst X107.here hx rfl (hb hby at_118) ?_
      show Steps _ _ _ (T107.setTop (mkF m 119 _ [(.int 0), (.ref g)])) _
      refine XS.iloadN X107.here hx rfl (hb hby at_119) rfl ?_
      refine st109.trans ?_
      show Steps _ _ _ (T109.setTop (mkF m 123 _ [])) _
      exact k)
    rcases hk with rfl | rfl | rfl
    · obtain ⟨cq112, kq112, q112a, q112b, q112c⟩ := isOf hZ rfl HA1.1
      obtain ⟨_, _, ⟨T112, L112, k112, n112⟩, -, X112, ⟨Lc112, hQ112, l112, y112, z112⟩, st112⟩ := X109.virtualBack hx (y := (⟨"com/example/plebiscite/plebiscite/Adjacency", "remove", "(II)V"⟩ : MethodName)) (z := (⟨"com/example/plebiscite/plebiscite/Adjacency", "remove", "(II)V"⟩ : MethodName)) hown (mvT hZ (hw _ (List.mem_of_getElem? (i := 47) rfl))) (mvT hZ (hw _ (List.mem_of_getElem? (i := 48) rfl))) (notFace_of_selects (args := #[]) (mvT hZ (hw _ (List.mem_of_getElem? (i := 50) rfl)))) (mvT hZ (hw _ (List.mem_of_getElem? (i := 50) rfl))) (mvT hZ (hw _ (List.mem_of_getElem? (i := 49) rfl))) (by decide) (backOf (W := 0) (rm_rmu l Z a0 hw [] g pos st dg rm it k1 k2 k3 k4 (4 : Int32) [.int p1, .int (0 : Int32), .int (0 : Int32), .int (0 : Int32)] (1 : Int32) p1 T109.heap n0 Z110 HA1 ⟨by decide, by decide⟩ rfl hpi.2.2.1 hpi.2.2.2.2.1) hZ (hw _ (List.mem_of_getElem? (i := 51) rfl)) (hw _ (List.mem_of_getElem? (i := 2) rfl)) (by decide) (by decide)) q112a q112c (g := (mkF m 154 #[iv p0, iv p1, iv p2, iv p3, .val (.long q4), .second, iv p5, iv 0, iv 1, iv pos, iv s0, iv s1, iv p5, rv g, .unset, .unset, .unset, .unset, .unset, .unset] [(.int pos), (.int 0), (.ref g)])) rfl (by rw [hml]; rfl) (Steps.refl _) (argsL := [(.int 0), (.int pos)]) (rest := []) (lenOf pd_0 rfl) rfl (by show 2 * 0 + _ ≤ _; exact Nat.le_of_eq rfl) (hb hby at_154) (fun _ _ => ⟨rfl, rfl, (by decide : 5 + 0 ≤ _), (by decide : 17 + 0 ≤ _)⟩)
      dsimp only [Pt.U, Pt.locs, Pt.cells, Pt.slots] at X112 l112 y112 z112 st112 hQ112
      rw [l112, y112, z112] at X112
      obtain ⟨hv112, N112q, hA⟩ := hQ112
      rw [hv112] at st112
      have N112 := Fr.app N109 N112q
      have hp1 := own_pos1 g_p.1 g_p.2.1
      obtain ⟨e0, he, hi⟩ := own_sync1 pos p1 p2 p3 p1 [.int (0 : Int32), .int (0 : Int32), .int (0 : Int32)] hp1
      have hA2 : own_A Z T112.heap n0 g st dg rm it k1 k2 k3 k4 (4 : Int32) [.int e0, .int (0 : Int32), .int (0 : Int32), .int (0 : Int32)] .null (0 : Int32) (1 : Int32) (1 : Int32) (1 : Int32) (0 : Int32) := hi ▸ hA
      obtain ⟨f0_, hf, hj⟩ := own_sync1 pos s0 s1 p5 s0 [.int (0 : Int32), .int (0 : Int32), .int (0 : Int32)] hp1
      obtain ⟨AX_113, Ag0_113, Ag1_113, Ag2_113, Ag3_113, Ag4_113, AF0_113, AF1_113, AF2_113, AF3_113, AF4_113, AF5_113, AF6_113, AF7_113, AF8_113, AV0_113, AV1_113, AV2_113, AV3_113, AN0_113, AN1_113, AN2_113, AN3_113, AN4_113, AN5_113, AN6_113, AN7_113, AN8_113, AN9_113⟩ := hA2
      have Z114 := Nat.le_trans Ag0_113 (Nat.le_of_lt AX_113.lt)
      obtain ⟨T115, h115, k115, X115, e115, E115, A115, st115⟩ := newP X112 hx hZ (hw _ (List.mem_of_getElem? (i := 9) rfl)) rfl (g := (mkF m 158 #[iv p0, iv p1, iv p2, iv p3, .val (.long q4), .second, iv p5, iv 0, iv 1, iv pos, iv s0, iv s1, iv p5, rv g, .unset, .unset, .unset, .unset, .unset, .unset] [(.int 3)])) rfl (hb hby at_158) rfl (by decide) (cap := 3) (by decide) (by decide) (by decide) (by decide)
      obtain ⟨old, g115⟩ : ∃ z, z = T112.heap.size := ⟨_, rfl⟩
      have ne116 : g ≠ old := Nat.ne_of_lt (Nat.lt_of_lt_of_le AX_113.lt (Nat.le_of_eq g115.symm))
      have ne117 : st ≠ old := Nat.ne_of_lt (Nat.lt_of_lt_of_le AV0_113.lt (Nat.le_of_eq g115.symm))
      have ne118 : dg ≠ old := Nat.ne_of_lt (Nat.lt_of_lt_of_le AV1_113.lt (Nat.le_of_eq g115.symm))
      have ne119 : it ≠ old := Nat.ne_of_lt (Nat.lt_of_lt_of_le AV3_113.lt (Nat.le_of_eq g115.symm))
      have ge_old : n0 ≤ old := Nat.le_trans Z114 (Nat.le_of_eq g115.symm)
      rw [← g115] at A115 st115
      have f120 := AX_113.ext E115
      have f121 := AF0_113.ext E115
      have f122 := AF1_113.ext E115
      have f123 := AF3_113.ext E115
      have f124 := AF7_113.ext E115
      have f125 := AV0_113.ext E115
      have f126 := AV1_113.ext E115
      have f127 := AV3_113.ext E115
      have Z128 := Nat.le_trans Z114 E115.1
      have V_old_115 : Arv Z h115 old k115 .int (3 : Int32) [(.int 0), (.int 0), (.int 0)] (.int 0) := (Arv.new A115 (by decide)).pad (pad_rep [] (.int 0) 3)
      obtain ⟨cl129, Ar129, q129, S129, M129, Hs129, G129⟩ := V_old_115
      have f130 : Arv Z h115 old k115 .int (3 : Int32) [(.int 0), (.int 0), (.int 0)] (.int 0) := ⟨cl129, Ar129, q129, S129, M129, Hs129, G129⟩
      have hin131 : ¬ ((0 : Int32) < 0 ∨ cl129.slots.size ≤ ((0 : Int32)).toNatClampNeg) := inb_of S129 ⟨by decide, by decide⟩
      obtain ⟨T131, h131, X131, e131, W131, st131⟩ := stI X115 hx hZ e115 Ar129 (j := (0 : Int32)) hin131 (g := (mkF m 163 #[iv p0, iv p1, iv p2, iv p3, .val (.long q4), .second, iv p5, iv 0, iv 1, iv pos, iv s0, iv s1, iv p5, rv g, .unset, .unset, .unset, .unset, .unset, .unset] [(.int p1), (.int 0), (.ref old), (.ref old)])) rfl rfl (hb hby at_163)
      have f132 := f120.wr W131
      have f133 := f121.other W131 (Or.inl ne116)
      have f134 := f122.other W131 (Or.inl ne116)
      have f135 := f123.other W131 (Or.inl ne116)
      have f136 := f124.other W131 (Or.inl ne116)
      have f137 := f125.other W131 ne117
      have f138 := f126.other W131 ne118
      have f139 := f127.other W131 ne119
      have Z140 := Nat.le_trans Z128 (Keep.of_wr W131).1
      have V131 : Arv Z h131 old k115 .int (3 : Int32) [(.int p1), (.int 0), (.int 0)] (.int 0) := Arv.set Ar129 q129 S129 M129 Hs129 G129 rfl W131 0 rfl (Nat.le_of_ble_eq_true rfl)
      have N131 := Fr.snoc X131 N112 ge_old
      obtain ⟨cl141, Ar141, q141, S141, M141, Hs141, G141⟩ := V131
      have f142 : Arv Z h131 old k115 .int (3 : Int32) [(.int p1), (.int 0), (.int 0)] (.int 0) := ⟨cl141, Ar141, q141, S141, M141, Hs141, G141⟩
      have hin143 : ¬ ((1 : Int32) < 0 ∨ cl141.slots.size ≤ ((1 : Int32)).toNatClampNeg) := inb_of S141 ⟨by decide, by decide⟩
      obtain ⟨T143, h143, X143, e143, W143, st143⟩ := stI X131 hx hZ e131 Ar141 (j := (1 : Int32)) hin143 (g := (mkF m 167 #[iv p0, iv p1, iv p2, iv p3, .val (.long q4), .second, iv p5, iv 0, iv 1, iv pos, iv s0, iv s1, iv p5, rv g, .unset, .unset, .unset, .unset, .unset, .unset] [(.int p2), (.int 1), (.ref old), (.ref old)])) rfl rfl (hb hby at_167)
      have f144 := f132.wr W143
      have f145 := f133.other W143 (Or.inl ne116)
      have f146 := f134.other W143 (Or.inl ne116)
      have f147 := f135.other W143 (Or.inl ne116)
      have f148 := f136.other W143 (Or.inl ne116)
      have f149 := f137.other W143 ne117
      have f150 := f138.other W143 ne118
      have f151 := f139.other W143 ne119
      have Z152 := Nat.le_trans Z140 (Keep.of_wr W143).1
      have V143 : Arv Z h143 old k115 .int (3 : Int32) [(.int p1), (.int p2), (.int 0)] (.int 0) := Arv.set Ar141 q141 S141 M141 Hs141 G141 rfl W143 1 rfl (Nat.le_of_ble_eq_true rfl)
      have N143 := Fr.snoc X143 N131 ge_old
      obtain ⟨cl153, Ar153, q153, S153, M153, Hs153, G153⟩ := V143
      have f154 : Arv Z h143 old k115 .int (3 : Int32) [(.int p1), (.int p2), (.int 0)] (.int 0) := ⟨cl153, Ar153, q153, S153, M153, Hs153, G153⟩
      have hin155 : ¬ ((2 : Int32) < 0 ∨ cl153.slots.size ≤ ((2 : Int32)).toNatClampNeg) := inb_of S153 ⟨by decide, by decide⟩
      obtain ⟨T155, h155, X155, e155, W155, st155⟩ := stI X143 hx hZ e143 Ar153 (j := (2 : Int32)) hin155 (g := (mkF m 171 #[iv p0, iv p1, iv p2, iv p3, .val (.long q4), .second, iv p5, iv 0, iv 1, iv pos, iv s0, iv s1, iv p5, rv g, .unset, .unset, .unset, .unset, .unset, .unset] [(.int p3), (.int 2), (.ref old), (.ref old)])) rfl rfl (hb hby at_171)
      have f156 := f144.wr W155
      have f157 := f145.other W155 (Or.inl ne116)
      have f158 := f146.other W155 (Or.inl ne116)
      have f159 := f147.other W155 (Or.inl ne116)
      have f160 := f148.other W155 (Or.inl ne116)
      have f161 := f149.other W155 ne117
      have f162 := f150.other W155 ne118
      have f163 := f151.other W155 ne119
      have Z164 := Nat.le_trans Z152 (Keep.of_wr W155).1
      have V155 : Arv Z h155 old k115 .int (3 : Int32) [(.int p1), (.int p2), (.int p3)] (.int 0) := Arv.set Ar153 q153 S153 M153 Hs153 G153 rfl W155 2 rfl (Nat.le_of_ble_eq_true rfl)
      have N155 := Fr.snoc X155 N143 ge_old
      obtain ⟨T165, h165, k165, X165, e165, E165, A165, st165⟩ := newP X155 hx hZ (hw _ (List.mem_of_getElem? (i := 9) rfl)) e155 (g := (mkF m 175 #[iv p0, iv p1, iv p2, iv p3, .val (.long q4), .second, iv p5, iv 0, iv 1, iv pos, iv s0, iv s1, iv p5, rv g, rv old, .unset, .unset, .unset, .unset, .unset] [(.int 3)])) rfl (hb hby at_175) rfl (by decide) (cap := 3) (by decide) (by decide) (by decide) (by decide)
      obtain ⟨olds, g165⟩ : ∃ z, z = h155.size := ⟨_, rfl⟩
      have ne166 : g ≠ olds := Nat.ne_of_lt (Nat.lt_of_lt_of_le f156.lt (Nat.le_of_eq g165.symm))
      have ne167 : st ≠ olds := Nat.ne_of_lt (Nat.lt_of_lt_of_le f161.lt (Nat.le_of_eq g165.symm))
      have ne168 : dg ≠ olds := Nat.ne_of_lt (Nat.lt_of_lt_of_le f162.lt (Nat.le_of_eq g165.symm))
      have ne169 : it ≠ olds := Nat.ne_of_lt (Nat.lt_of_lt_of_le f163.lt (Nat.le_of_eq g165.symm))
      have ne170 : old ≠ olds := Nat.ne_of_lt (Nat.lt_of_lt_of_le V155.lt (Nat.le_of_eq g165.symm))
      have ge_olds : n0 ≤ olds := Nat.le_trans Z164 (Nat.le_of_eq g165.symm)
      rw [← g165] at A165 st165
      have f171 := f156.ext E165
      have f172 := f157.ext E165
      have f173 := f158.ext E165
      have f174 := f159.ext E165
      have f175 := f160.ext E165
      have f176 := f161.ext E165
      have f177 := f162.ext E165
      have f178 := f163.ext E165
      have f179 := V155.ext E165
      have Z180 := Nat.le_trans Z164 E165.1
      have V_olds_165 : Arv Z h165 olds k165 .int (3 : Int32) [(.int 0), (.int 0), (.int 0)] (.int 0) := (Arv.new A165 (by decide)).pad (pad_rep [] (.int 0) 3)
      obtain ⟨cl181, Ar181, q181, S181, M181, Hs181, G181⟩ := V_olds_165
      have f182 : Arv Z h165 olds k165 .int (3 : Int32) [(.int 0), (.int 0), (.int 0)] (.int 0) := ⟨cl181, Ar181, q181, S181, M181, Hs181, G181⟩
      have hin183 : ¬ ((0 : Int32) < 0 ∨ cl181.slots.size ≤ ((0 : Int32)).toNatClampNeg) := inb_of S181 ⟨by decide, by decide⟩
      obtain ⟨T183, h183, X183, e183, W183, st183⟩ := stI X165 hx hZ e165 Ar181 (j := (0 : Int32)) hin183 (g := (mkF m 181 #[iv p0, iv p1, iv p2, iv p3, .val (.long q4), .second, iv p5, iv 0, iv 1, iv pos, iv s0, iv s1, iv p5, rv g, rv old, .unset, .unset, .unset, .unset, .unset] [(.int s0), (.int 0), (.ref olds), (.ref olds)])) rfl rfl (hb hby at_181)
      have f184 := f171.wr W183
      have f185 := f172.other W183 (Or.inl ne166)
      have f186 := f173.other W183 (Or.inl ne166)
      have f187 := f174.other W183 (Or.inl ne166)
      have f188 := f175.other W183 (Or.inl ne166)
      have f189 := f176.other W183 ne167
      have f190 := f177.other W183 ne168
      have f191 := f178.other W183 ne169
      have f192 := f179.other W183 ne170
      have Z193 := Nat.le_trans Z180 (Keep.of_wr W183).1
      have V183 : Arv Z h183 olds k165 .int (3 : Int32) [(.int s0), (.int 0), (.int 0)] (.int 0) := Arv.set Ar181 q181 S181 M181 Hs181 G181 rfl W183 0 rfl (Nat.le_of_ble_eq_true rfl)
      have N183 := Fr.snoc X183 N155 ge_olds
      obtain ⟨cl194, Ar194, q194, S194, M194, Hs194, G194⟩ := V183
      have f195 : Arv Z h183 olds k165 .int (3 : Int32) [(.int s0), (.int 0), (.int 0)] (.int 0) := ⟨cl194, Ar194, q194, S194, M194, Hs194, G194⟩
      have hin196 : ¬ ((1 : Int32) < 0 ∨ cl194.slots.size ≤ ((1 : Int32)).toNatClampNeg) := inb_of S194 ⟨by decide, by decide⟩
      obtain ⟨T196, h196, X196, e196, W196, st196⟩ := stI X183 hx hZ e183 Ar194 (j := (1 : Int32)) hin196 (g := (mkF m 186 #[iv p0, iv p1, iv p2, iv p3, .val (.long q4), .second, iv p5, iv 0, iv 1, iv pos, iv s0, iv s1, iv p5, rv g, rv old, .unset, .unset, .unset, .unset, .unset] [(.int s1), (.int 1), (.ref olds), (.ref olds)])) rfl rfl (hb hby at_186)
      have f197 := f184.wr W196
      have f198 := f185.other W196 (Or.inl ne166)
      have f199 := f186.other W196 (Or.inl ne166)
      have f200 := f187.other W196 (Or.inl ne166)
      have f201 := f188.other W196 (Or.inl ne166)
      have f202 := f189.other W196 ne167
      have f203 := f190.other W196 ne168
      have f204 := f191.other W196 ne169
      have f205 := f192.other W196 ne170
      have Z206 := Nat.le_trans Z193 (Keep.of_wr W196).1
      have V196 : Arv Z h196 olds k165 .int (3 : Int32) [(.int s0), (.int s1), (.int 0)] (.int 0) := Arv.set Ar194 q194 S194 M194 Hs194 G194 rfl W196 1 rfl (Nat.le_of_ble_eq_true rfl)
      have N196 := Fr.snoc X196 N183 ge_olds
      obtain ⟨cl207, Ar207, q207, S207, M207, Hs207, G207⟩ := V196
      have f208 : Arv Z h196 olds k165 .int (3 : Int32) [(.int s0), (.int s1), (.int 0)] (.int 0) := ⟨cl207, Ar207, q207, S207, M207, Hs207, G207⟩
      have hin209 : ¬ ((2 : Int32) < 0 ∨ cl207.slots.size ≤ ((2 : Int32)).toNatClampNeg) := inb_of S207 ⟨by decide, by decide⟩
      obtain ⟨T209, h209, X209, e209, W209, st209⟩ := stI X196 hx hZ e196 Ar207 (j := (2 : Int32)) hin209 (g := (mkF m 191 #[iv p0, iv p1, iv p2, iv p3, .val (.long q4), .second, iv p5, iv 0, iv 1, iv pos, iv s0, iv s1, iv p5, rv g, rv old, .unset, .unset, .unset, .unset, .unset] [(.int p5), (.int 2), (.ref olds), (.ref olds)])) rfl rfl (hb hby at_191)
      have f210 := f197.wr W209
      have f211 := f198.other W209 (Or.inl ne166)
      have f212 := f199.other W209 (Or.inl ne166)
      have f213 := f200.other W209 (Or.inl ne166)
      have f214 := f201.other W209 (Or.inl ne166)
      have f215 := f202.other W209 ne167
      have f216 := f203.other W209 ne168
      have f217 := f204.other W209 ne169
      have f218 := f205.other W209 ne170
      have Z219 := Nat.le_trans Z206 (Keep.of_wr W209).1
      have V209 : Arv Z h209 olds k165 .int (3 : Int32) [(.int s0), (.int s1), (.int p5)] (.int 0) := Arv.set Ar207 q207 S207 M207 Hs207 G207 rfl W209 2 rfl (Nat.le_of_ble_eq_true rfl)
      have N209 := Fr.snoc X209 N196 ge_olds
      obtain ⟨T220, h220, k220, X220, e220, E220, A220, st220⟩ := newP X209 hx hZ (hw _ (List.mem_of_getElem? (i := 9) rfl)) e209 (g := (mkF m 195 #[iv p0, iv p1, iv p2, iv p3, .val (.long q4), .second, iv p5, iv 0, iv 1, iv pos, iv s0, iv s1, iv p5, rv g, rv old, rv olds, .unset, .unset, .unset, .unset] [(.int 3)])) rfl (hb hby at_195) rfl (by decide) (cap := 3) (by decide) (by decide) (by decide) (by decide)
      obtain ⟨e_, g220⟩ : ∃ z, z = h209.size := ⟨_, rfl⟩
      have ne221 : g ≠ e_ := Nat.ne_of_lt (Nat.lt_of_lt_of_le f210.lt (Nat.le_of_eq g220.symm))
      have ne222 : st ≠ e_ := Nat.ne_of_lt (Nat.lt_of_lt_of_le f215.lt (Nat.le_of_eq g220.symm))
      have ne223 : dg ≠ e_ := Nat.ne_of_lt (Nat.lt_of_lt_of_le f216.lt (Nat.le_of_eq g220.symm))
      have ne224 : it ≠ e_ := Nat.ne_of_lt (Nat.lt_of_lt_of_le f217.lt (Nat.le_of_eq g220.symm))
      have ne225 : old ≠ e_ := Nat.ne_of_lt (Nat.lt_of_lt_of_le f218.lt (Nat.le_of_eq g220.symm))
      have ne226 : olds ≠ e_ := Nat.ne_of_lt (Nat.lt_of_lt_of_le V209.lt (Nat.le_of_eq g220.symm))
      have ge_e_ : n0 ≤ e_ := Nat.le_trans Z219 (Nat.le_of_eq g220.symm)
      rw [← g220] at A220 st220
      have f227 := f210.ext E220
      have f228 := f211.ext E220
      have f229 := f212.ext E220
      have f230 := f213.ext E220
      have f231 := f214.ext E220
      have f232 := f215.ext E220
      have f233 := f216.ext E220
      have f234 := f217.ext E220
      have f235 := f218.ext E220
      have f236 := V209.ext E220
      have Z237 := Nat.le_trans Z219 E220.1
      have V_e__220 : Arv Z h220 e_ k220 .int (3 : Int32) [(.int 0), (.int 0), (.int 0)] (.int 0) := (Arv.new A220 (by decide)).pad (pad_rep [] (.int 0) 3)
      obtain ⟨cl238, Ar238, q238, S238, M238, Hs238, G238⟩ := V_e__220
      have f239 : Arv Z h220 e_ k220 .int (3 : Int32) [(.int 0), (.int 0), (.int 0)] (.int 0) := ⟨cl238, Ar238, q238, S238, M238, Hs238, G238⟩
      have hin240 : ¬ ((0 : Int32) < 0 ∨ cl238.slots.size ≤ ((0 : Int32)).toNatClampNeg) := inb_of S238 ⟨by decide, by decide⟩
      obtain ⟨T240, h240, X240, e240, W240, st240⟩ := stI X220 hx hZ e220 Ar238 (j := (0 : Int32)) hin240 (g := (mkF m 200 #[iv p0, iv p1, iv p2, iv p3, .val (.long q4), .second, iv p5, iv 0, iv 1, iv pos, iv s0, iv s1, iv p5, rv g, rv old, rv olds, .unset, .unset, .unset, .unset] [(.int p1), (.int 0), (.ref e_), (.ref e_)])) rfl rfl (hb hby at_200)
      have f241 := f227.wr W240
      have f242 := f228.other W240 (Or.inl ne221)
      have f243 := f229.other W240 (Or.inl ne221)
      have f244 := f230.other W240 (Or.inl ne221)
      have f245 := f231.other W240 (Or.inl ne221)
      have f246 := f232.other W240 ne222
      have f247 := f233.other W240 ne223
      have f248 := f234.other W240 ne224
      have f249 := f235.other W240 ne225
      have f250 := f236.other W240 ne226
      have Z251 := Nat.le_trans Z237 (Keep.of_wr W240).1
      have V240 : Arv Z h240 e_ k220 .int (3 : Int32) [(.int p1), (.int 0), (.int 0)] (.int 0) := Arv.set Ar238 q238 S238 M238 Hs238 G238 rfl W240 0 rfl (Nat.le_of_ble_eq_true rfl)
      have N240 := Fr.snoc X240 N209 ge_e_
      obtain ⟨cl252, Ar252, q252, S252, M252, Hs252, G252⟩ := V240
      have f253 : Arv Z h240 e_ k220 .int (3 : Int32) [(.int p1), (.int 0), (.int 0)] (.int 0) := ⟨cl252, Ar252, q252, S252, M252, Hs252, G252⟩
      have hin254 : ¬ ((1 : Int32) < 0 ∨ cl252.slots.size ≤ ((1 : Int32)).toNatClampNeg) := inb_of S252 ⟨by decide, by decide⟩
      obtain ⟨T254, h254, X254, e254, W254, st254⟩ := stI X240 hx hZ e240 Ar252 (j := (1 : Int32)) hin254 (g := (mkF m 204 #[iv p0, iv p1, iv p2, iv p3, .val (.long q4), .second, iv p5, iv 0, iv 1, iv pos, iv s0, iv s1, iv p5, rv g, rv old, rv olds, .unset, .unset, .unset, .unset] [(.int p2), (.int 1), (.ref e_), (.ref e_)])) rfl rfl (hb hby at_204)
      have f255 := f241.wr W254
      have f256 := f242.other W254 (Or.inl ne221)
      have f257 := f243.other W254 (Or.inl ne221)
      have f258 := f244.other W254 (Or.inl ne221)
      have f259 := f245.other W254 (Or.inl ne221)
      have f260 := f246.other W254 ne222
      have f261 := f247.other W254 ne223
      have f262 := f248.other W254 ne224
      have f263 := f249.other W254 ne225
      have f264 := f250.other W254 ne226
      have Z265 := Nat.le_trans Z251 (Keep.of_wr W254).1
      have V254 : Arv Z h254 e_ k220 .int (3 : Int32) [(.int p1), (.int p2), (.int 0)] (.int 0) := Arv.set Ar252 q252 S252 M252 Hs252 G252 rfl W254 1 rfl (Nat.le_of_ble_eq_true rfl)
      have N254 := Fr.snoc X254 N240 ge_e_
      obtain ⟨cl266, Ar266, q266, S266, M266, Hs266, G266⟩ := V254
      have f267 : Arv Z h254 e_ k220 .int (3 : Int32) [(.int p1), (.int p2), (.int 0)] (.int 0) := ⟨cl266, Ar266, q266, S266, M266, Hs266, G266⟩
      have hin268 : ¬ ((2 : Int32) < 0 ∨ cl266.slots.size ≤ ((2 : Int32)).toNatClampNeg) := inb_of S266 ⟨by decide, by decide⟩
      obtain ⟨T268, h268, X268, e268, W268, st268⟩ := stI X254 hx hZ e254 Ar266 (j := (2 : Int32)) hin268 (g := (mkF m 208 #[iv p0, iv p1, iv p2, iv p3, .val (.long q4), .second, iv p5, iv 0, iv 1, iv pos, iv s0, iv s1, iv p5, rv g, rv old, rv olds, .unset, .unset, .unset, .unset] [(.int p3), (.int 2), (.ref e_), (.ref e_)])) rfl rfl (hb hby at_208)
      have f269 := f255.wr W268
      have f270 := f256.other W268 (Or.inl ne221)
      have f271 := f257.other W268 (Or.inl ne221)
      have f272 := f258.other W268 (Or.inl ne221)
      have f273 := f259.other W268 (Or.inl ne221)
      have f274 := f260.other W268 ne222
      have f275 := f261.other W268 ne223
      have f276 := f262.other W268 ne224
      have f277 := f263.other W268 ne225
      have f278 := f264.other W268 ne226
      have Z279 := Nat.le_trans Z265 (Keep.of_wr W268).1
      have V268 : Arv Z h268 e_ k220 .int (3 : Int32) [(.int p1), (.int p2), (.int p3)] (.int 0) := Arv.set Ar266 q266 S266 M266 Hs266 G266 rfl W268 2 rfl (Nat.le_of_ble_eq_true rfl)
      have N268 := Fr.snoc X268 N254 ge_e_
      obtain ⟨T280, h280, k280, X280, e280, E280, A280, st280⟩ := newP X268 hx hZ (hw _ (List.mem_of_getElem? (i := 9) rfl)) e268 (g := (mkF m 212 #[iv p0, iv p1, iv p2, iv p3, .val (.long q4), .second, iv p5, iv 0, iv 1, iv pos, iv s0, iv s1, iv p5, rv g, rv old, rv olds, rv e_, .unset, .unset, .unset] [(.int 3)])) rfl (hb hby at_212) rfl (by decide) (cap := 3) (by decide) (by decide) (by decide) (by decide)
      obtain ⟨es, g280⟩ : ∃ z, z = h268.size := ⟨_, rfl⟩
      have ne281 : g ≠ es := Nat.ne_of_lt (Nat.lt_of_lt_of_le f269.lt (Nat.le_of_eq g280.symm))
      have ne282 : st ≠ es := Nat.ne_of_lt (Nat.lt_of_lt_of_le f274.lt (Nat.le_of_eq g280.symm))
      have ne283 : dg ≠ es := Nat.ne_of_lt (Nat.lt_of_lt_of_le f275.lt (Nat.le_of_eq g280.symm))
      have ne284 : it ≠ es := Nat.ne_of_lt (Nat.lt_of_lt_of_le f276.lt (Nat.le_of_eq g280.symm))
      have ne285 : old ≠ es := Nat.ne_of_lt (Nat.lt_of_lt_of_le f277.lt (Nat.le_of_eq g280.symm))
      have ne286 : olds ≠ es := Nat.ne_of_lt (Nat.lt_of_lt_of_le f278.lt (Nat.le_of_eq g280.symm))
      have ne287 : e_ ≠ es := Nat.ne_of_lt (Nat.lt_of_lt_of_le V268.lt (Nat.le_of_eq g280.symm))
      have ge_es : n0 ≤ es := Nat.le_trans Z279 (Nat.le_of_eq g280.symm)
      rw [← g280] at A280 st280
      have f288 := f269.ext E280
      have f289 := f270.ext E280
      have f290 := f271.ext E280
      have f291 := f272.ext E280
      have f292 := f273.ext E280
      have f293 := f274.ext E280
      have f294 := f275.ext E280
      have f295 := f276.ext E280
      have f296 := f277.ext E280
      have f297 := f278.ext E280
      have f298 := V268.ext E280
      have Z299 := Nat.le_trans Z279 E280.1
      have V_es_280 : Arv Z h280 es k280 .int (3 : Int32) [(.int 0), (.int 0), (.int 0)] (.int 0) := (Arv.new A280 (by decide)).pad (pad_rep [] (.int 0) 3)
      obtain ⟨cl300, Ar300, q300, S300, M300, Hs300, G300⟩ := V_es_280
      have f301 : Arv Z h280 es k280 .int (3 : Int32) [(.int 0), (.int 0), (.int 0)] (.int 0) := ⟨cl300, Ar300, q300, S300, M300, Hs300, G300⟩
      have hin302 : ¬ ((0 : Int32) < 0 ∨ cl300.slots.size ≤ ((0 : Int32)).toNatClampNeg) := inb_of S300 ⟨by decide, by decide⟩
      obtain ⟨T302, h302, X302, e302, W302, st302⟩ := stI X280 hx hZ e280 Ar300 (j := (0 : Int32)) hin302 (g := (mkF m 218 #[iv p0, iv p1, iv p2, iv p3, .val (.long q4), .second, iv p5, iv 0, iv 1, iv pos, iv s0, iv s1, iv p5, rv g, rv old, rv olds, rv e_, .unset, .unset, .unset] [(.int s0), (.int 0), (.ref es), (.ref es)])) rfl rfl (hb hby at_218)
      have f303 := f288.wr W302
      have f304 := f289.other W302 (Or.inl ne281)
      have f305 := f290.other W302 (Or.inl ne281)
      have f306 := f291.other W302 (Or.inl ne281)
      have f307 := f292.other W302 (Or.inl ne281)
      have f308 := f293.other W302 ne282
      have f309 := f294.other W302 ne283
      have f310 := f295.other W302 ne284
      have f311 := f296.other W302 ne285
      have f312 := f297.other W302 ne286
      have f313 := f298.other W302 ne287
      have Z314 := Nat.le_trans Z299 (Keep.of_wr W302).1
      have V302 : Arv Z h302 es k280 .int (3 : Int32) [(.int s0), (.int 0), (.int 0)] (.int 0) := Arv.set Ar300 q300 S300 M300 Hs300 G300 rfl W302 0 rfl (Nat.le_of_ble_eq_true rfl)
      have N302 := Fr.snoc X302 N268 ge_es
      obtain ⟨cl315, Ar315, q315, S315, M315, Hs315, G315⟩ := V302
      have f316 : Arv Z h302 es k280 .int (3 : Int32) [(.int s0), (.int 0), (.int 0)] (.int 0) := ⟨cl315, Ar315, q315, S315, M315, Hs315, G315⟩
      have hin317 : ¬ ((1 : Int32) < 0 ∨ cl315.slots.size ≤ ((1 : Int32)).toNatClampNeg) := inb_of S315 ⟨by decide, by decide⟩
      obtain ⟨T317, h317, X317, e317, W317, st317⟩ := stI X302 hx hZ e302 Ar315 (j := (1 : Int32)) hin317 (g := (mkF m 223 #[iv p0, iv p1, iv p2, iv p3, .val (.long q4), .second, iv p5, iv 0, iv 1, iv pos, iv s0, iv s1, iv p5, rv g, rv old, rv olds, rv e_, .unset, .unset, .unset] [(.int s1), (.int 1), (.ref es), (.ref es)])) rfl rfl (hb hby at_223)
      have f318 := f303.wr W317
      have f319 := f304.other W317 (Or.inl ne281)
      have f320 := f305.other W317 (Or.inl ne281)
      have f321 := f306.other W317 (Or.inl ne281)
      have f322 := f307.other W317 (Or.inl ne281)
      have f323 := f308.other W317 ne282
      have f324 := f309.other W317 ne283
      have f325 := f310.other W317 ne284
      have f326 := f311.other W317 ne285
      have f327 := f312.other W317 ne286
      have f328 := f313.other W317 ne287
      have Z329 := Nat.le_trans Z314 (Keep.of_wr W317).1
      have V317 : Arv Z h317 es k280 .int (3 : Int32) [(.int s0), (.int s1), (.int 0)] (.int 0) := Arv.set Ar315 q315 S315 M315 Hs315 G315 rfl W317 1 rfl (Nat.le_of_ble_eq_true rfl)
      have N317 := Fr.snoc X317 N302 ge_es
      obtain ⟨cl330, Ar330, q330, S330, M330, Hs330, G330⟩ := V317
      have f331 : Arv Z h317 es k280 .int (3 : Int32) [(.int s0), (.int s1), (.int 0)] (.int 0) := ⟨cl330, Ar330, q330, S330, M330, Hs330, G330⟩
      have hin332 : ¬ ((2 : Int32) < 0 ∨ cl330.slots.size ≤ ((2 : Int32)).toNatClampNeg) := inb_of S330 ⟨by decide, by decide⟩
      obtain ⟨T332, h332, X332, e332, W332, st332⟩ := stI X317 hx hZ e317 Ar330 (j := (2 : Int32)) hin332 (g := (mkF m 228 #[iv p0, iv p1, iv p2, iv p3, .val (.long q4), .second, iv p5, iv 0, iv 1, iv pos, iv s0, iv s1, iv p5, rv g, rv old, rv olds, rv e_, .unset, .unset, .unset] [(.int p5), (.int 2), (.ref es), (.ref es)])) rfl rfl (hb hby at_228)
      have f333 := f318.wr W332
      have f334 := f319.other W332 (Or.inl ne281)
      have f335 := f320.other W332 (Or.inl ne281)
      have f336 := f321.other W332 (Or.inl ne281)
      have f337 := f322.other W332 (Or.inl ne281)
      have f338 := f323.other W332 ne282
      have f339 := f324.other W332 ne283
      have f340 := f325.other W332 ne284
      have f341 := f326.other W332 ne285
      have f342 := f327.other W332 ne286
      have f343 := f328.other W332 ne287
      have Z344 := Nat.le_trans Z329 (Keep.of_wr W332).1
      have V332 : Arv Z h332 es k280 .int (3 : Int32) [(.int s0), (.int s1), (.int p5)] (.int 0) := Arv.set Ar330 q330 S330 M330 Hs330 G330 rfl W332 2 rfl (Nat.le_of_ble_eq_true rfl)
      have N332 := Fr.snoc X332 N317 ge_es
      obtain ⟨cl345, Ar345, q345, S345, M345, Hs345, G345⟩ := f341
      have f346 : Arv Z h332 old k115 .int (3 : Int32) [(.int p1), (.int p2), (.int p3)] (.int 0) := ⟨cl345, Ar345, q345, S345, M345, Hs345, G345⟩
      have hin347 : ¬ (((1 : Int32) - (1 : Int32)) < 0 ∨ cl345.slots.size ≤ (((1 : Int32) - (1 : Int32))).toNatClampNeg) := inb_of S345 ⟨by decide, by decide⟩
      have hat347 : cl345.slots[(((1 : Int32) - (1 : Int32))).toNatClampNeg]? = some (.int p1) := Hs345.at hin347 rfl
      obtain ⟨cl348, Ar348, q348, S348, M348, Hs348, G348⟩ := f343
      have f349 : Arv Z h332 e_ k220 .int (3 : Int32) [(.int p1), (.int p2), (.int p3)] (.int 0) := ⟨cl348, Ar348, q348, S348, M348, Hs348, G348⟩
      have hin350 : ¬ (pos < 0 ∨ cl348.slots.size ≤ (pos).toNatClampNeg) := inb_of S348 hpi.1
      obtain ⟨T350, h350, X350, e350, W350, st350⟩ := stI X332 hx hZ e332 Ar348 (j := pos) hin350 (g := (mkF m 242 #[iv p0, iv p1, iv p2, iv p3, .val (.long q4), .second, iv p5, iv 0, iv 1, iv pos, iv s0, iv s1, iv p5, rv g, rv old, rv olds, rv e_, rv es, .unset, .unset] [(.int p1), (.int pos), (.ref e_)])) rfl rfl (hb hby at_242)
      have f351 := f333.wr W350
      have f352 := f334.other W350 (Or.inl ne221)
      have f353 := f335.other W350 (Or.inl ne221)
      have f354 := f336.other W350 (Or.inl ne221)
      have f355 := f337.other W350 (Or.inl ne221)
      have f356 := f338.other W350 ne222
      have f357 := f339.other W350 ne223
      have f358 := f340.other W350 ne224
      have f359 := f346.other W350 ne225
      have f360 := f342.other W350 ne226
      have f361 := V332.other W350 (Ne.symm ne287)
      have Z362 := Nat.le_trans Z344 (Keep.of_wr W350).1
      have V350 : Arv Z h350 e_ k220 .int (3 : Int32) ([(.int p1), (.int p2), (.int p3)].set (pos).toNatClampNeg (.int p1)) (.int 0) := Arv.set Ar348 q348 S348 M348 Hs348 G348 rfl W350 (pos).toNatClampNeg rfl hpi.2.1
      have N350 := Fr.snoc X350 N332 ge_e_
      have f363 : Arv Z h350 e_ k220 .int (3 : Int32) [(.int e0), (.int p2), (.int p3)] (.int (0 : Int32)) := he ▸ V350
      obtain ⟨cl364, Ar364, q364, S364, M364, Hs364, G364⟩ := f360
      have f365 : Arv Z h350 olds k165 .int (3 : Int32) [(.int s0), (.int s1), (.int p5)] (.int 0) := ⟨cl364, Ar364, q364, S364, M364, Hs364, G364⟩
      have hin366 : ¬ (((1 : Int32) - (1 : Int32)) < 0 ∨ cl364.slots.size ≤ (((1 : Int32) - (1 : Int32))).toNatClampNeg) := inb_of S364 ⟨by decide, by decide⟩
      have hat366 : cl364.slots[(((1 : Int32) - (1 : Int32))).toNatClampNeg]? = some (.int s0) := Hs364.at hin366 rfl
      obtain ⟨cl367, Ar367, q367, S367, M367, Hs367, G367⟩ := f361
      have f368 : Arv Z h350 es k280 .int (3 : Int32) [(.int s0), (.int s1), (.int p5)] (.int 0) := ⟨cl367, Ar367, q367, S367, M367, Hs367, G367⟩
      have hin369 : ¬ (pos < 0 ∨ cl367.slots.size ≤ (pos).toNatClampNeg) := inb_of S367 hpi.1
      obtain ⟨T369, h369, X369, e369, W369, st369⟩ := stI X350 hx hZ e350 Ar367 (j := pos) hin369 (g := (mkF m 254 #[iv p0, iv p1, iv p2, iv p3, .val (.long q4), .second, iv p5, iv 0, iv 1, iv pos, iv s0, iv s1, iv p5, rv g, rv old, rv olds, rv e_, rv es, .unset, .unset] [(.int s0), (.int pos), (.ref es)])) rfl rfl (hb hby at_254)
      have f370 := f351.wr W369
      have f371 := f352.other W369 (Or.inl ne281)
      have f372 := f353.other W369 (Or.inl ne281)
      have f373 := f354.other W369 (Or.inl ne281)
      have f374 := f355.other W369 (Or.inl ne281)
      have f375 := f356.other W369 ne282
      have f376 := f357.other W369 ne283
      have f377 := f358.other W369 ne284
      have f378 := f359.other W369 ne285
      have f379 := f365.other W369 ne286
      have f380 := f363.other W369 ne287
      have Z381 := Nat.le_trans Z362 (Keep.of_wr W369).1
      have V369 : Arv Z h369 es k280 .int (3 : Int32) ([(.int s0), (.int s1), (.int p5)].set (pos).toNatClampNeg (.int s0)) (.int 0) := Arv.set Ar367 q367 S367 M367 Hs367 G367 rfl W369 (pos).toNatClampNeg rfl hpi.2.1
      have N369 := Fr.snoc X369 N350 ge_es
      have f382 : Arv Z h369 es k280 .int (3 : Int32) [(.int f0_), (.int s1), (.int p5)] (.int (0 : Int32)) := hf ▸ V369
      obtain ⟨cq383, kq383, q383a, q383b, q383c⟩ := isOf hZ e369 f370
      obtain ⟨_, _, ⟨T383, L383, k383, n383⟩, -, X383, ⟨Lc383, hQ383, l383, y383, z383⟩, st383⟩ := X369.virtualBack hx (y := (⟨"com/example/plebiscite/plebiscite/Adjacency", "degree", "(I)I"⟩ : MethodName)) (z := (⟨"com/example/plebiscite/plebiscite/Adjacency", "degree", "(I)I"⟩ : MethodName)) hown (mvT hZ (hw _ (List.mem_of_getElem? (i := 54) rfl))) (mvT hZ (hw _ (List.mem_of_getElem? (i := 55) rfl))) (notFace_of_selects (args := #[]) (mvT hZ (hw _ (List.mem_of_getElem? (i := 57) rfl)))) (mvT hZ (hw _ (List.mem_of_getElem? (i := 57) rfl))) (mvT hZ (hw _ (List.mem_of_getElem? (i := 56) rfl))) (by decide) (backOf (W := 0) (rm_dgr l Z a0 hw [] g dg k2 (0 : Int32) h369 n0 Z381 f372 f376) hZ (hw _ (List.mem_of_getElem? (i := 58) rfl)) (hw _ (List.mem_of_getElem? (i := 2) rfl)) (by decide) (by decide)) q383a q383c (g := (mkF m 258 #[iv p0, iv p1, iv p2, iv p3, .val (.long q4), .second, iv p5, iv 0, iv 1, iv pos, iv s0, iv s1, iv p5, rv g, rv old, rv olds, rv e_, rv es, .unset, .unset] [(.int 0), (.ref g)])) rfl (by rw [hml]; rfl) (Steps.refl _) (argsL := [(.int 0)]) (rest := []) (lenOf pd_4 rfl) rfl (by show 2 * 0 + _ ≤ _; exact Nat.le_of_eq rfl) (hb hby at_258) (fun _ _ => ⟨rfl, e369, (by decide : 9 + 0 ≤ _), (by decide : 29 + 0 ≤ _)⟩)
      dsimp only [Pt.U, Pt.locs, Pt.cells, Pt.slots] at X383 l383 y383 z383 st383 hQ383
      rw [l383, y383, z383] at X383
      obtain ⟨hv383, N383q, er1⟩ := hQ383
      rw [hv383] at st383
      have N383 := Fr.app N369 N383q
      obtain ⟨cq384, kq384, q384a, q384b, q384c⟩ := isOf hZ er1 f370
      obtain ⟨_, _, ⟨T384, L384, k384, n384⟩, -, X384, ⟨Lc384, hQ384, l384, y384, z384⟩, st384⟩ := X383.virtualBack hx (y := (⟨"com/example/plebiscite/plebiscite/Adjacency", "size", "()I"⟩ : MethodName)) (z := (⟨"com/example/plebiscite/plebiscite/Adjacency", "size", "()I"⟩ : MethodName)) hown (mvT hZ (hw _ (List.mem_of_getElem? (i := 59) rfl))) (mvT hZ (hw _ (List.mem_of_getElem? (i := 60) rfl))) (notFace_of_selects (args := #[]) (mvT hZ (hw _ (List.mem_of_getElem? (i := 62) rfl)))) (mvT hZ (hw _ (List.mem_of_getElem? (i := 62) rfl))) (mvT hZ (hw _ (List.mem_of_getElem? (i := 61) rfl))) (by decide) (backOf (W := 0) (rm_siz l Z a0 hw [] g (0 : Int32) h369 n0 Z381 f374) hZ (hw _ (List.mem_of_getElem? (i := 63) rfl)) (hw _ (List.mem_of_getElem? (i := 2) rfl)) (by decide) (by decide)) q384a q384c (g := (mkF m 270 #[iv p0, iv p1, iv p2, iv p3, .val (.long q4), .second, iv p5, iv 0, iv 1, iv pos, iv s0, iv s1, iv p5, rv g, rv old, rv olds, rv e_, rv es, .unset, .unset] [(.ref g)])) rfl (by rw [hml]; rfl) (Steps.refl _) (argsL := []) (rest := []) (lenOf pd_7 rfl) rfl (by show 2 * 0 + _ ≤ _; exact Nat.le_of_eq rfl) (hb hby at_270) (fun _ _ => ⟨rfl, er1, (by decide : 9 + 0 ≤ _), (by decide : 29 + 0 ≤ _)⟩)
      dsimp only [Pt.U, Pt.locs, Pt.cells, Pt.slots] at X384 l384 y384 z384 st384 hQ384
      rw [l384, y384, z384] at X384
      obtain ⟨hv384, N384q, er2⟩ := hQ384
      rw [hv384] at st384
      have N384 := Fr.app N383 N384q
      obtain ⟨cq385, kq385, q385a, q385b, q385c⟩ := isOf hZ er2 f370
      obtain ⟨_, _, ⟨T385, L385, k385, n385⟩, -, X385, ⟨Lc385, hQ385, l385, y385, z385⟩, st385⟩ := X384.virtualBack hx (y := (⟨"com/example/plebiscite/plebiscite/Adjacency", "begin", "(I)I"⟩ : MethodName)) (z := (⟨"com/example/plebiscite/plebiscite/Adjacency", "begin", "(I)I"⟩ : MethodName)) hown (mvT hZ (hw _ (List.mem_of_getElem? (i := 64) rfl))) (mvT hZ (hw _ (List.mem_of_getElem? (i := 65) rfl))) (notFace_of_selects (args := #[]) (mvT hZ (hw _ (List.mem_of_getElem? (i := 67) rfl)))) (mvT hZ (hw _ (List.mem_of_getElem? (i := 67) rfl))) (mvT hZ (hw _ (List.mem_of_getElem? (i := 66) rfl))) (by decide) (backOf (W := 0) (rm_bgn l Z a0 hw [] g st k1 (0 : Int32) h369 n0 Z381 f371 f375) hZ (hw _ (List.mem_of_getElem? (i := 68) rfl)) (hw _ (List.mem_of_getElem? (i := 2) rfl)) (by decide) (by decide)) q385a q385c (g := (mkF m 290 #[iv p0, iv p1, iv p2, iv p3, .val (.long q4), .second, iv p5, iv 0, iv 1, iv pos, iv s0, iv s1, iv p5, rv g, rv old, rv olds, rv e_, rv es, iv 1, .unset] [(.int 0), (.ref g)])) rfl (by rw [hml]; rfl) (Steps.refl _) (argsL := [(.int 0)]) (rest := []) (lenOf pd_4 rfl) rfl (by show 2 * 0 + _ ≤ _; exact Nat.le_of_eq rfl) (hb hby at_290) (fun _ _ => ⟨rfl, er2, (by decide : 9 + 0 ≤ _), (by decide : 29 + 0 ≤ _)⟩)
      dsimp only [Pt.U, Pt.locs, Pt.cells, Pt.slots] at X385 l385 y385 z385 st385 hQ385
      rw [l385, y385, z385] at X385
      obtain ⟨hv385, N385q, er3⟩ := hQ385
      rw [hv385] at st385
      have N385 := Fr.app N384 N385q
      have go386 : ∀ t, Steps p.tables e below (T385.setTop (mkF m 403 #[iv p0, iv p1, iv p2, iv p3, .val (.long q4), .second, iv p5, iv 0, iv 1, iv pos, iv s0, iv s1, iv p5, rv g, rv old, rv olds, rv e_, rv es, iv 1, iv 0] [(.int 1)])) t → Steps p.tables e below O t := fun t k => go111 t (by
        refine XS.iload X109.here hx rfl (hb hby at_123) rfl ?_
        refine XS.iconst X109.here hx rfl (hb hby at_125) ?_
        show Steps _ _ _ (T109.setTop (mkF m 126 _ [(.int 2), (.int 1)])) _
        refine XS.icmpYes X109.here hx rfl (pc0 := 126) (pc' := 136) rfl (hb hby at_126) rfl (tlt (by decide : (1 : Int32) < (2 : Int32))).1 (by decide) (by decide) ?_
        refine XS.iload X109.here hx rfl (hb hby at_136) rfl ?_
        show Steps _ _ _ (T109.setTop (mkF m 138 _ [(.int 1)])) _
        refine XS.iconst X109.here hx rfl (hb hby at_138) ?_
        refine XS.icmpYes X109.here hx rfl (pc0 := 139) (pc' := 149) rfl (hb hby at_139) rfl (tlt (by decide : (1 : Int32) < (3 : Int32))).1 (by decide) (by decide) ?_
        show Steps _ _ _ (T109.setTop (mkF m 149 _ [])) _
        refine XS.aload X109.here hx rfl (hb hby at_149) rfl rfl ?_
        refine XS.iconst X109.here hx rfl (hb hby at_151) ?_
        show Steps _ _ _ (T109.setTop (mkF m 152 _ [(.int 0), (.ref g)])) _
        refine XS.iload X109.here hx rfl (hb hby at_152) rfl ?_
        refine st112.trans ?_
        show Steps _ _ _ (T112.setTop (mkF m 157 _ [])) _
        refine XS.iconst X112.here hx rfl (hb hby at_157) ?_
        refine st115 _ ?_
        show Steps _ _ _ (T115.setTop (mkF m 160 _ [(.ref old)])) _
        refine XS.dup X115.here hx rfl (hb hby at_160) rfl rfl ?_
        refine XS.iconst X115.here hx rfl (hb hby at_161) ?_
        show Steps _ _ _ (T115.setTop (mkF m 162 _ [(.int 0), (.ref old), (.ref old)])) _
        refine XS.iloadN X115.here hx rfl (hb hby at_162) rfl ?_
        refine st131 _ ?_
        show Steps _ _ _ (T131.setTop (mkF m 164 _ [(.ref old)])) _
        refine XS.dup X131.here hx rfl (hb hby at_164) rfl rfl ?_
        refine XS.iconst X131.here hx rfl (hb hby at_165) ?_
        show Steps _ _ _ (T131.setTop (mkF m 166 _ [(.int 1), (.ref old), (.ref old)])) _
        refine XS.iloadN X131.here hx rfl (hb hby at_166) rfl ?_
        refine st143 _ ?_
        show Steps _ _ _ (T143.setTop (mkF m 168 _ [(.ref old)])) _
        refine XS.dup X143.here hx rfl (hb hby at_168) rfl rfl ?_
        refine XS.iconst X143.here hx rfl (hb hby at_169) ?_
        show Steps _ _ _ (T143.setTop (mkF m 170 _ [(.int 2), (.ref old), (.ref old)])) _
        refine XS.iloadN X143.here hx rfl (hb hby at_170) rfl ?_
        refine st155 _ ?_
        show Steps _ _ _ (T155.setTop (mkF m 172 _ [(.ref old)])) _
        refine XS.astore X155.here hx rfl (hb hby at_172) rfl rfl (l' := #[iv p0, iv p1, iv p2, iv p3, .val (.long q4), .second, iv p5, iv 0, iv 1, iv pos, iv s0, iv s1, iv p5, rv g, rv old, .unset, .unset, .unset, .unset, .unset]) rfl ?_
        show Steps _ _ _ (T155.setTop (mkF m 174 _ [])) _
        refine XS.iconst X155.here hx rfl (hb hby at_174) ?_
        refine st165 _ ?_
        show Steps _ _ _ (T165.setTop (mkF m 177 _ [(.ref olds)])) _
        refine XS.dup X165.here hx rfl (hb hby at_177) rfl rfl ?_
        refine XS.iconst X165.here hx rfl (hb hby at_178) ?_
        show Steps _ _ _ (T165.setTop (mkF m 179 _ [(.int 0), (.ref olds), (.ref olds)])) _
        refine XS.iload X165.here hx rfl (hb hby at_179) rfl ?_
        refine st183 _ ?_
        show Steps _ _ _ (T183.setTop (mkF m 182 _ [(.ref olds)])) _
        refine XS.dup X183.here hx rfl (hb hby at_182) rfl rfl ?_
        refine XS.iconst X183.here hx rfl (hb hby at_183) ?_
        show Steps _ _ _ (T183.setTop (mkF m 184 _ [(.int 1), (.ref olds), (.ref olds)])) _
        refine XS.iload X183.here hx rfl (hb hby at_184) rfl ?_
        refine st196 _ ?_
        show Steps _ _ _ (T196.setTop (mkF m 187 _ [(.ref olds)])) _
        refine XS.dup X196.here hx rfl (hb hby at_187) rfl rfl ?_
        refine XS.iconst X196.here hx rfl (hb hby at_188) ?_
        show Steps _ _ _ (T196.setTop (mkF m 189 _ [(.int 2), (.ref olds), (.ref olds)])) _
        refine XS.iload X196.here hx rfl (hb hby at_189) rfl ?_
        refine st209 _ ?_
        show Steps _ _ _ (T209.setTop (mkF m 192 _ [(.ref olds)])) _
        refine XS.astore X209.here hx rfl (hb hby at_192) rfl rfl (l' := #[iv p0, iv p1, iv p2, iv p3, .val (.long q4), .second, iv p5, iv 0, iv 1, iv pos, iv s0, iv s1, iv p5, rv g, rv old, rv olds, .unset, .unset, .unset, .unset]) rfl ?_
        show Steps _ _ _ (T209.setTop (mkF m 194 _ [])) _
        refine XS.iconst X209.here hx rfl (hb hby at_194) ?_
        refine st220 _ ?_
        show Steps _ _ _ (T220.setTop (mkF m 197 _ [(.ref e_)])) _
        refine XS.dup X220.here hx rfl (hb hby at_197) rfl rfl ?_
        refine XS.iconst X220.here hx rfl (hb hby at_198) ?_
        show Steps _ _ _ (T220.setTop (mkF m 199 _ [(.int 0), (.ref e_), (.ref e_)])) _
        refine XS.iloadN X220.here hx rfl (hb hby at_199) rfl ?_
        refine st240 _ ?_
        show Steps _ _ _ (T240.setTop (mkF m 201 _ [(.ref e_)])) _
        refine XS.dup X240.here hx rfl (hb hby at_201) rfl rfl ?_
        refine XS.iconst X240.here hx rfl (hb hby at_202) ?_
        show Steps _ _ _ (T240.setTop (mkF m 203 _ [(.int 1), (.ref e_), (.ref e_)])) _
        refine XS.iloadN X240.here hx rfl (hb hby at_203) rfl ?_
        refine st254 _ ?_
        show Steps _ _ _ (T254.setTop (mkF m 205 _ [(.ref e_)])) _
        refine XS.dup X254.here hx rfl (hb hby at_205) rfl rfl ?_
        refine XS.iconst X254.here hx rfl (hb hby at_206) ?_
        show Steps _ _ _ (T254.setTop (mkF m 207 _ [(.int 2), (.ref e_), (.ref e_)])) _
        refine XS.iloadN X254.here hx rfl (hb hby at_207) rfl ?_
        refine st268 _ ?_
        show Steps _ _ _ (T268.setTop (mkF m 209 _ [(.ref e_)])) _
        refine XS.astore X268.here hx rfl (hb hby at_209) rfl rfl (l' := #[iv p0, iv p1, iv p2, iv p3, .val (.long q4), .second, iv p5, iv 0, iv 1, iv pos, iv s0, iv s1, iv p5, rv g, rv old, rv olds, rv e_, .unset, .unset, .unset]) rfl ?_
        show Steps _ _ _ (T268.setTop (mkF m 211 _ [])) _
        refine XS.iconst X268.here hx rfl (hb hby at_211) ?_
        refine st280 _ ?_
        show Steps _ _ _ (T280.setTop (mkF m 214 _ [(.ref es)])) _
        refine XS.dup X280.here hx rfl (hb hby at_214) rfl rfl ?_
        refine XS.iconst X280.here hx rfl (hb hby at_215) ?_
        show Steps _ _ _ (T280.setTop (mkF m 216 _ [(.int 0), (.ref es), (.ref es)])) _
        refine XS.iload X280.here hx rfl (hb hby at_216) rfl ?_
        refine st302 _ ?_
        show Steps _ _ _ (T302.setTop (mkF m 219 _ [(.ref es)])) _
        refine XS.dup X302.here hx rfl (hb hby at_219) rfl rfl ?_
        refine XS.iconst X302.here hx rfl (hb hby at_220) ?_
        show Steps _ _ _ (T302.setTop (mkF m 221 _ [(.int 1), (.ref es), (.ref es)])) _
        refine XS.iload X302.here hx rfl (hb hby at_221) rfl ?_
        refine st317 _ ?_
        show Steps _ _ _ (T317.setTop (mkF m 224 _ [(.ref es)])) _
        refine XS.dup X317.here hx rfl (hb hby at_224) rfl rfl ?_
        refine XS.iconst X317.here hx rfl (hb hby at_225) ?_
        show Steps _ _ _ (T317.setTop (mkF m 226 _ [(.int 2), (.ref es), (.ref es)])) _
        refine XS.iload X317.here hx rfl (hb hby at_226) rfl ?_
        refine st332 _ ?_
        show Steps _ _ _ (T332.setTop (mkF m 229 _ [(.ref es)])) _
        refine XS.astore X332.here hx rfl (hb hby at_229) rfl rfl (l' := #[iv p0, iv p1, iv p2, iv p3, .val (.long q4), .second, iv p5, iv 0, iv 1, iv pos, iv s0, iv s1, iv p5, rv g, rv old, rv olds, rv e_, rv es, .unset, .unset]) rfl ?_
        show Steps _ _ _ (T332.setTop (mkF m 231 _ [])) _
        refine XS.aload X332.here hx rfl (hb hby at_231) rfl rfl ?_
        refine XS.iload X332.here hx rfl (hb hby at_233) rfl ?_
        show Steps _ _ _ (T332.setTop (mkF m 235 _ [(.int pos), (.ref e_)])) _
        refine XS.aload X332.here hx rfl (hb hby at_235) rfl rfl ?_
        refine XS.iload X332.here hx rfl (hb hby at_237) rfl ?_
        show Steps _ _ _ (T332.setTop (mkF m 239 _ [(.int 1), (.ref old), (.int pos), (.ref e_)])) _
        refine XS.iconst X332.here hx rfl (hb hby at_239) ?_
        refine XS.isub X332.here hx rfl (hb hby at_240) rfl ?_
        show Steps _ _ _ (T332.setTop (mkF m 241 _ [(.int ((1 : Int32) - (1 : Int32))), (.ref old), (.int pos), (.ref e_)])) _
        refine X332.iaload hx (j := ((1 : Int32) - (1 : Int32))) (v := (.int p1)) (by rw [e332]; exact Ar345.1) (State.isArrayOf_alike hZ.alike Ar345.2.1) Ar345.2.2 hin347 hat347 (g := (mkF m 241 #[iv p0, iv p1, iv p2, iv p3, .val (.long q4), .second, iv p5, iv 0, iv 1, iv pos, iv s0, iv s1, iv p5, rv g, rv old, rv olds, rv e_, rv es, .unset, .unset] [(.int ((1 : Int32) - (1 : Int32))), (.ref old), (.int pos), (.ref e_)])) rfl rfl (hb hby at_241) _ ?_
        refine st350 _ ?_
        show Steps _ _ _ (T350.setTop (mkF m 243 _ [])) _
        refine XS.aload X350.here hx rfl (hb hby at_243) rfl rfl ?_
        refine XS.iload X350.here hx rfl (hb hby at_245) rfl ?_
        show Steps _ _ _ (T350.setTop (mkF m 247 _ [(.int pos), (.ref es)])) _
        refine XS.aload X350.here hx rfl (hb hby at_247) rfl rfl ?_
        refine XS.iload X350.here hx rfl (hb hby at_249) rfl ?_
        show Steps _ _ _ (T350.setTop (mkF m 251 _ [(.int 1), (.ref olds), (.int pos), (.ref es)])) _
        refine XS.iconst X350.here hx rfl (hb hby at_251) ?_
        refine XS.isub X350.here hx rfl (hb hby at_252) rfl ?_
        show Steps _ _ _ (T350.setTop (mkF m 253 _ [(.int ((1 : Int32) - (1 : Int32))), (.ref olds), (.int pos), (.ref es)])) _
        refine X350.iaload hx (j := ((1 : Int32) - (1 : Int32))) (v := (.int s0)) (by rw [e350]; exact Ar364.1) (State.isArrayOf_alike hZ.alike Ar364.2.1) Ar364.2.2 hin366 hat366 (g := (mkF m 253 #[iv p0, iv p1, iv p2, iv p3, .val (.long q4), .second, iv p5, iv 0, iv 1, iv pos, iv s0, iv s1, iv p5, rv g, rv old, rv olds, rv e_, rv es, .unset, .unset] [(.int ((1 : Int32) - (1 : Int32))), (.ref olds), (.int pos), (.ref es)])) rfl rfl (hb hby at_253) _ ?_
        refine st369 _ ?_
        show Steps _ _ _ (T369.setTop (mkF m 255 _ [])) _
        refine XS.aload X369.here hx rfl (hb hby at_255) rfl rfl ?_
        refine XS.iconst X369.here hx rfl (hb hby at_257) ?_
        show Steps _ _ _ (T369.setTop (mkF m 258 _ [(.int 0), (.ref g)])) _
        refine st383.trans ?_
        show Steps _ _ _ (T383.setTop (mkF m 261 _ [(.int 0)])) _
        refine XS.iload X383.here hx rfl (hb hby at_261) rfl ?_
        refine XS.iconst X383.here hx rfl (hb hby at_263) ?_
        show Steps _ _ _ (T383.setTop (mkF m 264 _ [(.int 1), (.int 1), (.int 0)])) _
        refine XS.isub X383.here hx rfl (hb hby at_264) rfl ?_
        refine XS.icmpNo X383.here hx rfl (hb hby at_265) rfl (teq (by decide : (0 : Int32) = ((1 : Int32) - (1 : Int32)))).2 ?_
        show Steps _ _ _ (T383.setTop (mkF m 268 _ [])) _
        refine XS.aload X383.here hx rfl (hb hby at_268) rfl rfl ?_
        refine st384.trans ?_
        show Steps _ _ _ (T384.setTop (mkF m 273 _ [(.int 0)])) _
        refine XS.iload X384.here hx rfl (hb hby at_273) rfl ?_
        refine XS.iconst X384.here hx rfl (hb hby at_275) ?_
        show Steps _ _ _ (T384.setTop (mkF m 276 _ [(.int 1), (.int 1), (.int 0)])) _
        refine XS.isub X384.here hx rfl (hb hby at_276) rfl ?_
        refine XS.icmpNo X384.here hx rfl (hb hby at_277) rfl (teq (by decide : (0 : Int32) = ((1 : Int32) - (1 : Int32)))).2 ?_
        show Steps _ _ _ (T384.setTop (mkF m 280 _ [])) _
        refine XS.iconst X384.here hx rfl (hb hby at_280) ?_
        refine XS.goto X384.here hx rfl (pc0 := 281) (pc' := 285) rfl (hb hby at_281) (by decide) (by decide) ?_
        show Steps _ _ _ (T384.setTop (mkF m 285 _ [(.int 1)])) _
        refine XS.istore X384.here hx rfl (hb hby at_285) rfl (l' := #[iv p0, iv p1, iv p2, iv p3, .val (.long q4), .second, iv p5, iv 0, iv 1, iv pos, iv s0, iv s1, iv p5, rv g, rv old, rv olds, rv e_, rv es, iv 1, .unset]) rfl ?_
        show Steps _ _ _ (T384.setTop (mkF m 287 _ [])) _
        refine XS.aload X384.here hx rfl (hb hby at_287) rfl rfl ?_
        refine XS.iconst X384.here hx rfl (hb hby at_289) ?_
        show Steps _ _ _ (T384.setTop (mkF m 290 _ [(.int 0), (.ref g)])) _
        refine st385.trans ?_
        show Steps _ _ _ (T385.setTop (mkF m 293 _ [(.int 0)])) _
        refine XS.istore X385.here hx rfl (hb hby at_293) rfl (l' := #[iv p0, iv p1, iv p2, iv p3, .val (.long q4), .second, iv p5, iv 0, iv 1, iv pos, iv s0, iv s1, iv p5, rv g, rv old, rv olds, rv e_, rv es, iv 1, iv 0]) rfl ?_
        show Steps _ _ _ (T385.setTop (mkF m 295 _ [])) _
        refine XS.iload X385.here hx rfl (hb hby at_295) rfl ?_
        refine XS.iconst X385.here hx rfl (hb hby at_297) ?_
        show Steps _ _ _ (T385.setTop (mkF m 298 _ [(.int 2), (.int 1)])) _
        refine XS.icmpYes X385.here hx rfl (pc0 := 298) (pc' := 346) rfl (hb hby at_298) rfl (tlt (by decide : (1 : Int32) < (2 : Int32))).1 (by decide) (by decide) ?_
        refine XS.iload X385.here hx rfl (hb hby at_346) rfl ?_
        show Steps _ _ _ (T385.setTop (mkF m 348 _ [(.int 1)])) _
        refine XS.iconst X385.here hx rfl (hb hby at_348) ?_
        refine XS.icmpYes X385.here hx rfl (pc0 := 349) (pc' := 401) rfl (hb hby at_349) rfl (tlt (by decide : (1 : Int32) < (3 : Int32))).1 (by decide) (by decide) ?_
        show Steps _ _ _ (T385.setTop (mkF m 401 _ [])) _
        refine XS.iload X385.here hx rfl (hb hby at_401) rfl ?_
        exact k)
      rw [hO] at go386
      obtain ⟨fs, hr, hrun, hended, hW, hsame⟩ := X385.leave (v := some (.int 1)) (fun h => by rw [Bd.returns] at h; cases h)
      refine ⟨_, _, go386 _ ?_, hrun, hended, _, _, rfl, ?_, ⟨_, rfl⟩, hW, hsame.mono (by decide) (by decide)⟩
      · exact retN X385 hx (t := .boolean) Bd.returns (by simp) (hb hby at_403) hr
      · show Q_law Z p0 p1 p2 p3 q4 p5 h0 n0 _ T385.heap _
        rw [er3]
        exact ⟨rfl, N385⟩
    · obtain ⟨cq388, kq388, q388a, q388b, q388c⟩ := isOf hZ rfl HA1.1
      obtain ⟨_, _, ⟨T388, L388, k388, n388⟩, -, X388, ⟨Lc388, hQ388, l388, y388, z388⟩, st388⟩ := X109.virtualBack hx (y := (⟨"com/example/plebiscite/plebiscite/Adjacency", "add", "(II)V"⟩ : MethodName)) (z := (⟨"com/example/plebiscite/plebiscite/Adjacency", "add", "(II)V"⟩ : MethodName)) hown (mvT hZ (hw _ (List.mem_of_getElem? (i := 18) rfl))) (mvT hZ (hw _ (List.mem_of_getElem? (i := 19) rfl))) (notFace_of_selects (args := #[]) (mvT hZ (hw _ (List.mem_of_getElem? (i := 21) rfl)))) (mvT hZ (hw _ (List.mem_of_getElem? (i := 21) rfl))) (mvT hZ (hw _ (List.mem_of_getElem? (i := 20) rfl))) (by decide) (backOf (W := 0) (rm_adu l Z a0 hw [] g p2 st dg rm it k1 k2 k3 k4 (4 : Int32) [.int p1, .int (0 : Int32), .int (0 : Int32), .int (0 : Int32)] .null (1 : Int32) T109.heap n0 Z110 HA1 (by decide) ⟨by decide, by decide⟩ (Nat.le_of_ble_eq_true rfl)) hZ (hw _ (List.mem_of_getElem? (i := 22) rfl)) (hw _ (List.mem_of_getElem? (i := 2) rfl)) (by decide) (by decide)) q388a q388c (g := (mkF m 133 #[iv p0, iv p1, iv p2, iv p3, .val (.long q4), .second, iv p5, iv 0, iv 2, iv pos, iv s0, iv s1, iv p5, rv g, .unset, .unset, .unset, .unset, .unset, .unset] [(.int p2), (.int 0), (.ref g)])) rfl (by rw [hml]; rfl) (Steps.refl _) (argsL := [(.int 0), (.int p2)]) (rest := []) (lenOf pd_0 rfl) rfl (by show 2 * 0 + _ ≤ _; exact Nat.le_of_eq rfl) (hb hby at_133) (fun _ _ => ⟨rfl, rfl, (by decide : 5 + 0 ≤ _), (by decide : 17 + 0 ≤ _)⟩)
      dsimp only [Pt.U, Pt.locs, Pt.cells, Pt.slots] at X388 l388 y388 z388 st388 hQ388
      rw [l388, y388, z388] at X388
      obtain ⟨hv388, N388q, hA⟩ := hQ388
      rw [hv388] at st388
      have N388 := Fr.app N109 N388q
      have HA2 : own_A Z T388.heap n0 g st dg rm it k1 k2 k3 k4 (4 : Int32) [.int p1, .int p2, .int (0 : Int32), .int (0 : Int32)] .null (2 : Int32) (2 : Int32) (2 : Int32) (2 : Int32) (2 : Int32) := hA
      have Z389 := Nat.le_trans HA2.2.1 (Nat.le_of_lt HA2.1.lt)
      obtain ⟨cq390, kq390, q390a, q390b, q390c⟩ := isOf hZ rfl HA2.1
      obtain ⟨_, _, ⟨T390, L390, k390, n390⟩, -, X390, ⟨Lc390, hQ390, l390, y390, z390⟩, st390⟩ := X388.virtualBack hx (y := (⟨"com/example/plebiscite/plebiscite/Adjacency", "remove", "(II)V"⟩ : MethodName)) (z := (⟨"com/example/plebiscite/plebiscite/Adjacency", "remove", "(II)V"⟩ : MethodName)) hown (mvT hZ (hw _ (List.mem_of_getElem? (i := 47) rfl))) (mvT hZ (hw _ (List.mem_of_getElem? (i := 48) rfl))) (notFace_of_selects (args := #[]) (mvT hZ (hw _ (List.mem_of_getElem? (i := 50) rfl)))) (mvT hZ (hw _ (List.mem_of_getElem? (i := 50) rfl))) (mvT hZ (hw _ (List.mem_of_getElem? (i := 49) rfl))) (by decide) (backOf (W := 0) (rm_rmu l Z a0 hw [] g pos st dg rm it k1 k2 k3 k4 (4 : Int32) [.int p1, .int p2, .int (0 : Int32), .int (0 : Int32)] (2 : Int32) p2 T388.heap n0 Z389 HA2 ⟨by decide, by decide⟩ rfl hpi.2.2.1 hpi.2.2.2.2.1) hZ (hw _ (List.mem_of_getElem? (i := 51) rfl)) (hw _ (List.mem_of_getElem? (i := 2) rfl)) (by decide) (by decide)) q390a q390c (g := (mkF m 154 #[iv p0, iv p1, iv p2, iv p3, .val (.long q4), .second, iv p5, iv 0, iv 2, iv pos, iv s0, iv s1, iv p5, rv g, .unset, .unset, .unset, .unset, .unset, .unset] [(.int pos), (.int 0), (.ref g)])) rfl (by rw [hml]; rfl) (Steps.refl _) (argsL := [(.int 0), (.int pos)]) (rest := []) (lenOf pd_0 rfl) rfl (by show 2 * 0 + _ ≤ _; exact Nat.le_of_eq rfl) (hb hby at_154) (fun _ _ => ⟨rfl, rfl, (by decide : 5 + 0 ≤ _), (by decide : 17 + 0 ≤ _)⟩)
      dsimp only [Pt.U, Pt.locs, Pt.cells, Pt.slots] at X390 l390 y390 z390 st390 hQ390
      rw [l390, y390, z390] at X390
      obtain ⟨hv390, N390q, hA⟩ := hQ390
      rw [hv390] at st390
      have N390 := Fr.app N388 N390q
      have hp2 := own_pos2 g_p.1 g_p.2.1
      obtain ⟨e0, e1, he, hi⟩ := own_sync2 pos p1 p2 p3 p2 [.int (0 : Int32), .int (0 : Int32)] hp2
      have hA2 : own_A Z T390.heap n0 g st dg rm it k1 k2 k3 k4 (4 : Int32) [.int e0, .int e1, .int (0 : Int32), .int (0 : Int32)] .null (1 : Int32) (2 : Int32) (2 : Int32) (2 : Int32) (1 : Int32) := hi ▸ hA
      obtain ⟨f0_, f1_, hf, hj⟩ := own_sync2 pos s0 s1 p5 s1 [.int (0 : Int32), .int (0 : Int32)] hp2
      obtain ⟨AX_391, Ag0_391, Ag1_391, Ag2_391, Ag3_391, Ag4_391, AF0_391, AF1_391, AF2_391, AF3_391, AF4_391, AF5_391, AF6_391, AF7_391, AF8_391, AV0_391, AV1_391, AV2_391, AV3_391, AN0_391, AN1_391, AN2_391, AN3_391, AN4_391, AN5_391, AN6_391, AN7_391, AN8_391, AN9_391⟩ := hA2
      have Z392 := Nat.le_trans Ag0_391 (Nat.le_of_lt AX_391.lt)
      obtain ⟨T393, h393, k393, X393, e393, E393, A393, st393⟩ := newP X390 hx hZ (hw _ (List.mem_of_getElem? (i := 9) rfl)) rfl (g := (mkF m 158 #[iv p0, iv p1, iv p2, iv p3, .val (.long q4), .second, iv p5, iv 0, iv 2, iv pos, iv s0, iv s1, iv p5, rv g, .unset, .unset, .unset, .unset, .unset, .unset] [(.int 3)])) rfl (hb hby at_158) rfl (by decide) (cap := 3) (by decide) (by decide) (by decide) (by decide)
      obtain ⟨old, g393⟩ : ∃ z, z = T390.heap.size := ⟨_, rfl⟩
      have ne394 : g ≠ old := Nat.ne_of_lt (Nat.lt_of_lt_of_le AX_391.lt (Nat.le_of_eq g393.symm))
      have ne395 : st ≠ old := Nat.ne_of_lt (Nat.lt_of_lt_of_le AV0_391.lt (Nat.le_of_eq g393.symm))
      have ne396 : dg ≠ old := Nat.ne_of_lt (Nat.lt_of_lt_of_le AV1_391.lt (Nat.le_of_eq g393.symm))
      have ne397 : it ≠ old := Nat.ne_of_lt (Nat.lt_of_lt_of_le AV3_391.lt (Nat.le_of_eq g393.symm))
      have ge_old : n0 ≤ old := Nat.le_trans Z392 (Nat.le_of_eq g393.symm)
      rw [← g393] at A393 st393
      have f398 := AX_391.ext E393
      have f399 := AF0_391.ext E393
      have f400 := AF1_391.ext E393
      have f401 := AF3_391.ext E393
      have f402 := AF7_391.ext E393
      have f403 := AV0_391.ext E393
      have f404 := AV1_391.ext E393
      have f405 := AV3_391.ext E393
      have Z406 := Nat.le_trans Z392 E393.1
      have V_old_393 : Arv Z h393 old k393 .int (3 : Int32) [(.int 0), (.int 0), (.int 0)] (.int 0) := (Arv.new A393 (by decide)).pad (pad_rep [] (.int 0) 3)
      obtain ⟨cl407, Ar407, q407, S407, M407, Hs407, G407⟩ := V_old_393
      have f408 : Arv Z h393 old k393 .int (3 : Int32) [(.int 0), (.int 0), (.int 0)] (.int 0) := ⟨cl407, Ar407, q407, S407, M407, Hs407, G407⟩
      have hin409 : ¬ ((0 : Int32) < 0 ∨ cl407.slots.size ≤ ((0 : Int32)).toNatClampNeg) := inb_of S407 ⟨by decide, by decide⟩
      obtain ⟨T409, h409, X409, e409, W409, st409⟩ := stI X393 hx hZ e393 Ar407 (j := (0 : Int32)) hin409 (g := (mkF m 163 #[iv p0, iv p1, iv p2, iv p3, .val (.long q4), .second, iv p5, iv 0, iv 2, iv pos, iv s0, iv s1, iv p5, rv g, .unset, .unset, .unset, .unset, .unset, .unset] [(.int p1), (.int 0), (.ref old), (.ref old)])) rfl rfl (hb hby at_163)
      have f410 := f398.wr W409
      have f411 := f399.other W409 (Or.inl ne394)
      have f412 := f400.other W409 (Or.inl ne394)
      have f413 := f401.other W409 (Or.inl ne394)
      have f414 := f402.other W409 (Or.inl ne394)
      have f415 := f403.other W409 ne395
      have f416 := f404.other W409 ne396
      have f417 := f405.other W409 ne397
      have Z418 := Nat.le_trans Z406 (Keep.of_wr W409).1
      have V409 : Arv Z h409 old k393 .int (3 : Int32) [(.int p1), (.int 0), (.int 0)] (.int 0) := Arv.set Ar407 q407 S407 M407 Hs407 G407 rfl W409 0 rfl (Nat.le_of_ble_eq_true rfl)
      have N409 := Fr.snoc X409 N390 ge_old
      obtain ⟨cl419, Ar419, q419, S419, M419, Hs419, G419⟩ := V409
      have f420 : Arv Z h409 old k393 .int (3 : Int32) [(.int p1), (.int 0), (.int 0)] (.int 0) := ⟨cl419, Ar419, q419, S419, M419, Hs419, G419⟩
      have hin421 : ¬ ((1 : Int32) < 0 ∨ cl419.slots.size ≤ ((1 : Int32)).toNatClampNeg) := inb_of S419 ⟨by decide, by decide⟩
      obtain ⟨T421, h421, X421, e421, W421, st421⟩ := stI X409 hx hZ e409 Ar419 (j := (1 : Int32)) hin421 (g := (mkF m 167 #[iv p0, iv p1, iv p2, iv p3, .val (.long q4), .second, iv p5, iv 0, iv 2, iv pos, iv s0, iv s1, iv p5, rv g, .unset, .unset, .unset, .unset, .unset, .unset] [(.int p2), (.int 1), (.ref old), (.ref old)])) rfl rfl (hb hby at_167)
      have f422 := f410.wr W421
      have f423 := f411.other W421 (Or.inl ne394)
      have f424 := f412.other W421 (Or.inl ne394)
      have f425 := f413.other W421 (Or.inl ne394)
      have f426 := f414.other W421 (Or.inl ne394)
      have f427 := f415.other W421 ne395
      have f428 := f416.other W421 ne396
      have f429 := f417.other W421 ne397
      have Z430 := Nat.le_trans Z418 (Keep.of_wr W421).1
      have V421 : Arv Z h421 old k393 .int (3 : Int32) [(.int p1), (.int p2), (.int 0)] (.int 0) := Arv.set Ar419 q419 S419 M419 Hs419 G419 rfl W421 1 rfl (Nat.le_of_ble_eq_true rfl)
      have N421 := Fr.snoc X421 N409 ge_old
      obtain ⟨cl431, Ar431, q431, S431, M431, Hs431, G431⟩ := V421
      have f432 : Arv Z h421 old k393 .int (3 : Int32) [(.int p1), (.int p2), (.int 0)] (.int 0) := ⟨cl431, Ar431, q431, S431, M431, Hs431, G431⟩
      have hin433 : ¬ ((2 : Int32) < 0 ∨ cl431.slots.size ≤ ((2 : Int32)).toNatClampNeg) := inb_of S431 ⟨by decide, by decide⟩
      obtain ⟨T433, h433, X433, e433, W433, st433⟩ := stI X421 hx hZ e421 Ar431 (j := (2 : Int32)) hin433 (g := (mkF m 171 #[iv p0, iv p1, iv p2, iv p3, .val (.long q4), .second, iv p5, iv 0, iv 2, iv pos, iv s0, iv s1, iv p5, rv g, .unset, .unset, .unset, .unset, .unset, .unset] [(.int p3), (.int 2), (.ref old), (.ref old)])) rfl rfl (hb hby at_171)
      have f434 := f422.wr W433
      have f435 := f423.other W433 (Or.inl ne394)
      have f436 := f424.other W433 (Or.inl ne394)
      have f437 := f425.other W433 (Or.inl ne394)
      have f438 := f426.other W433 (Or.inl ne394)
      have f439 := f427.other W433 ne395
      have f440 := f428.other W433 ne396
      have f441 := f429.other W433 ne397
      have Z442 := Nat.le_trans Z430 (Keep.of_wr W433).1
      have V433 : Arv Z h433 old k393 .int (3 : Int32) [(.int p1), (.int p2), (.int p3)] (.int 0) := Arv.set Ar431 q431 S431 M431 Hs431 G431 rfl W433 2 rfl (Nat.le_of_ble_eq_true rfl)
      have N433 := Fr.snoc X433 N421 ge_old
      obtain ⟨T443, h443, k443, X443, e443, E443, A443, st443⟩ := newP X433 hx hZ (hw _ (List.mem_of_getElem? (i := 9) rfl)) e433 (g := (mkF m 175 #[iv p0, iv p1, iv p2, iv p3, .val (.long q4), .second, iv p5, iv 0, iv 2, iv pos, iv s0, iv s1, iv p5, rv g, rv old, .unset, .unset, .unset, .unset, .unset] [(.int 3)])) rfl (hb hby at_175) rfl (by decide) (cap := 3) (by decide) (by decide) (by decide) (by decide)
      obtain ⟨olds, g443⟩ : ∃ z, z = h433.size := ⟨_, rfl⟩
      have ne444 : g ≠ olds := Nat.ne_of_lt (Nat.lt_of_lt_of_le f434.lt (Nat.le_of_eq g443.symm))
      have ne445 : st ≠ olds := Nat.ne_of_lt (Nat.lt_of_lt_of_le f439.lt (Nat.le_of_eq g443.symm))
      have ne446 : dg ≠ olds := Nat.ne_of_lt (Nat.lt_of_lt_of_le f440.lt (Nat.le_of_eq g443.symm))
      have ne447 : it ≠ olds := Nat.ne_of_lt (Nat.lt_of_lt_of_le f441.lt (Nat.le_of_eq g443.symm))
      have ne448 : old ≠ olds := Nat.ne_of_lt (Nat.lt_of_lt_of_le V433.lt (Nat.le_of_eq g443.symm))
      have ge_olds : n0 ≤ olds := Nat.le_trans Z442 (Nat.le_of_eq g443.symm)
      rw [← g443] at A443 st443
      have f449 := f434.ext E443
      have f450 := f435.ext E443
      have f451 := f436.ext E443
      have f452 := f437.ext E443
      have f453 := f438.ext E443
      have f454 := f439.ext E443
      have f455 := f440.ext E443
      have f456 := f441.ext E443
      have f457 := V433.ext E443
      have Z458 := Nat.le_trans Z442 E443.1
      have V_olds_443 : Arv Z h443 olds k443 .int (3 : Int32) [(.int 0), (.int 0), (.int 0)] (.int 0) := (Arv.new A443 (by decide)).pad (pad_rep [] (.int 0) 3)
      obtain ⟨cl459, Ar459, q459, S459, M459, Hs459, G459⟩ := V_olds_443
      have f460 : Arv Z h443 olds k443 .int (3 : Int32) [(.int 0), (.int 0), (.int 0)] (.int 0) := ⟨cl459, Ar459, q459, S459, M459, Hs459, G459⟩
      have hin461 : ¬ ((0 : Int32) < 0 ∨ cl459.slots.size ≤ ((0 : Int32)).toNatClampNeg) := inb_of S459 ⟨by decide, by decide⟩
      obtain ⟨T461, h461, X461, e461, W461, st461⟩ := stI X443 hx hZ e443 Ar459 (j := (0 : Int32)) hin461 (g := (mkF m 181 #[iv p0, iv p1, iv p2, iv p3, .val (.long q4), .second, iv p5, iv 0, iv 2, iv pos, iv s0, iv s1, iv p5, rv g, rv old, .unset, .unset, .unset, .unset, .unset] [(.int s0), (.int 0), (.ref olds), (.ref olds)])) rfl rfl (hb hby at_181)
      have f462 := f449.wr W461
      have f463 := f450.other W461 (Or.inl ne444)
      have f464 := f451.other W461 (Or.inl ne444)
      have f465 := f452.other W461 (Or.inl ne444)
      have f466 := f453.other W461 (Or.inl ne444)
      have f467 := f454.other W461 ne445
      have f468 := f455.other W461 ne446
      have f469 := f456.other W461 ne447
      have f470 := f457.other W461 ne448
      have Z471 := Nat.le_trans Z458 (Keep.of_wr W461).1
      have V461 : Arv Z h461 olds k443 .int (3 : Int32) [(.int s0), (.int 0), (.int 0)] (.int 0) := Arv.set Ar459 q459 S459 M459 Hs459 G459 rfl W461 0 rfl (Nat.le_of_ble_eq_true rfl)
      have N461 := Fr.snoc X461 N433 ge_olds
      obtain ⟨cl472, Ar472, q472, S472, M472, Hs472, G472⟩ := V461
      have f473 : Arv Z h461 olds k443 .int (3 : Int32) [(.int s0), (.int 0), (.int 0)] (.int 0) := ⟨cl472, Ar472, q472, S472, M472, Hs472, G472⟩
      have hin474 : ¬ ((1 : Int32) < 0 ∨ cl472.slots.size ≤ ((1 : Int32)).toNatClampNeg) := inb_of S472 ⟨by decide, by decide⟩
      obtain ⟨T474, h474, X474, e474, W474, st474⟩ := stI X461 hx hZ e461 Ar472 (j := (1 : Int32)) hin474 (g := (mkF m 186 #[iv p0, iv p1, iv p2, iv p3, .val (.long q4), .second, iv p5, iv 0, iv 2, iv pos, iv s0, iv s1, iv p5, rv g, rv old, .unset, .unset, .unset, .unset, .unset] [(.int s1), (.int 1), (.ref olds), (.ref olds)])) rfl rfl (hb hby at_186)
      have f475 := f462.wr W474
      have f476 := f463.other W474 (Or.inl ne444)
      have f477 := f464.other W474 (Or.inl ne444)
      have f478 := f465.other W474 (Or.inl ne444)
      have f479 := f466.other W474 (Or.inl ne444)
      have f480 := f467.other W474 ne445
      have f481 := f468.other W474 ne446
      have f482 := f469.other W474 ne447
      have f483 := f470.other W474 ne448
      have Z484 := Nat.le_trans Z471 (Keep.of_wr W474).1
      have V474 : Arv Z h474 olds k443 .int (3 : Int32) [(.int s0), (.int s1), (.int 0)] (.int 0) := Arv.set Ar472 q472 S472 M472 Hs472 G472 rfl W474 1 rfl (Nat.le_of_ble_eq_true rfl)
      have N474 := Fr.snoc X474 N461 ge_olds
      obtain ⟨cl485, Ar485, q485, S485, M485, Hs485, G485⟩ := V474
      have f486 : Arv Z h474 olds k443 .int (3 : Int32) [(.int s0), (.int s1), (.int 0)] (.int 0) := ⟨cl485, Ar485, q485, S485, M485, Hs485, G485⟩
      have hin487 : ¬ ((2 : Int32) < 0 ∨ cl485.slots.size ≤ ((2 : Int32)).toNatClampNeg) := inb_of S485 ⟨by decide, by decide⟩
      obtain ⟨T487, h487, X487, e487, W487, st487⟩ := stI X474 hx hZ e474 Ar485 (j := (2 : Int32)) hin487 (g := (mkF m 191 #[iv p0, iv p1, iv p2, iv p3, .val (.long q4), .second, iv p5, iv 0, iv 2, iv pos, iv s0, iv s1, iv p5, rv g, rv old, .unset, .unset, .unset, .unset, .unset] [(.int p5), (.int 2), (.ref olds), (.ref olds)])) rfl rfl (hb hby at_191)
      have f488 := f475.wr W487
      have f489 := f476.other W487 (Or.inl ne444)
      have f490 := f477.other W487 (Or.inl ne444)
      have f491 := f478.other W487 (Or.inl ne444)
      have f492 := f479.other W487 (Or.inl ne444)
      have f493 := f480.other W487 ne445
      have f494 := f481.other W487 ne446
      have f495 := f482.other W487 ne447
      have f496 := f483.other W487 ne448
      have Z497 := Nat.le_trans Z484 (Keep.of_wr W487).1
      have V487 : Arv Z h487 olds k443 .int (3 : Int32) [(.int s0), (.int s1), (.int p5)] (.int 0) := Arv.set Ar485 q485 S485 M485 Hs485 G485 rfl W487 2 rfl (Nat.le_of_ble_eq_true rfl)
      have N487 := Fr.snoc X487 N474 ge_olds
      obtain ⟨T498, h498, k498, X498, e498, E498, A498, st498⟩ := newP X487 hx hZ (hw _ (List.mem_of_getElem? (i := 9) rfl)) e487 (g := (mkF m 195 #[iv p0, iv p1, iv p2, iv p3, .val (.long q4), .second, iv p5, iv 0, iv 2, iv pos, iv s0, iv s1, iv p5, rv g, rv old, rv olds, .unset, .unset, .unset, .unset] [(.int 3)])) rfl (hb hby at_195) rfl (by decide) (cap := 3) (by decide) (by decide) (by decide) (by decide)
      obtain ⟨e_, g498⟩ : ∃ z, z = h487.size := ⟨_, rfl⟩
      have ne499 : g ≠ e_ := Nat.ne_of_lt (Nat.lt_of_lt_of_le f488.lt (Nat.le_of_eq g498.symm))
      have ne500 : st ≠ e_ := Nat.ne_of_lt (Nat.lt_of_lt_of_le f493.lt (Nat.le_of_eq g498.symm))
      have ne501 : dg ≠ e_ := Nat.ne_of_lt (Nat.lt_of_lt_of_le f494.lt (Nat.le_of_eq g498.symm))
      have ne502 : it ≠ e_ := Nat.ne_of_lt (Nat.lt_of_lt_of_le f495.lt (Nat.le_of_eq g498.symm))
      have ne503 : old ≠ e_ := Nat.ne_of_lt (Nat.lt_of_lt_of_le f496.lt (Nat.le_of_eq g498.symm))
      have ne504 : olds ≠ e_ := Nat.ne_of_lt (Nat.lt_of_lt_of_le V487.lt (Nat.le_of_eq g498.symm))
      have ge_e_ : n0 ≤ e_ := Nat.le_trans Z497 (Nat.le_of_eq g498.symm)
      rw [← g498] at A498 st498
      have f505 := f488.ext E498
      have f506 := f489.ext E498
      have f507 := f490.ext E498
      have f508 := f491.ext E498
      have f509 := f492.ext E498
      have f510 := f493.ext E498
      have f511 := f494.ext E498
      have f512 := f495.ext E498
      have f513 := f496.ext E498
      have f514 := V487.ext E498
      have Z515 := Nat.le_trans Z497 E498.1
      have V_e__498 : Arv Z h498 e_ k498 .int (3 : Int32) [(.int 0), (.int 0), (.int 0)] (.int 0) := (Arv.new A498 (by decide)).pad (pad_rep [] (.int 0) 3)
      obtain ⟨cl516, Ar516, q516, S516, M516, Hs516, G516⟩ := V_e__498
      have f517 : Arv Z h498 e_ k498 .int (3 : Int32) [(.int 0), (.int 0), (.int 0)] (.int 0) := ⟨cl516, Ar516, q516, S516, M516, Hs516, G516⟩
      have hin518 : ¬ ((0 : Int32) < 0 ∨ cl516.slots.size ≤ ((0 : Int32)).toNatClampNeg) := inb_of S516 ⟨by decide, by decide⟩
      obtain ⟨T518, h518, X518, e518, W518, st518⟩ := stI X498 hx hZ e498 Ar516 (j := (0 : Int32)) hin518 (g := (mkF m 200 #[iv p0, iv p1, iv p2, iv p3, .val (.long q4), .second, iv p5, iv 0, iv 2, iv pos, iv s0, iv s1, iv p5, rv g, rv old, rv olds, .unset, .unset, .unset, .unset] [(.int p1), (.int 0), (.ref e_), (.ref e_)])) rfl rfl (hb hby at_200)
      have f519 := f505.wr W518
      have f520 := f506.other W518 (Or.inl ne499)
      have f521 := f507.other W518 (Or.inl ne499)
      have f522 := f508.other W518 (Or.inl ne499)
      have f523 := f509.other W518 (Or.inl ne499)
      have f524 := f510.other W518 ne500
      have f525 := f511.other W518 ne501
      have f526 := f512.other W518 ne502
      have f527 := f513.other W518 ne503
      have f528 := f514.other W518 ne504
      have Z529 := Nat.le_trans Z515 (Keep.of_wr W518).1
      have V518 : Arv Z h518 e_ k498 .int (3 : Int32) [(.int p1), (.int 0), (.int 0)] (.int 0) := Arv.set Ar516 q516 S516 M516 Hs516 G516 rfl W518 0 rfl (Nat.le_of_ble_eq_true rfl)
      have N518 := Fr.snoc X518 N487 ge_e_
      obtain ⟨cl530, Ar530, q530, S530, M530, Hs530, G530⟩ := V518
      have f531 : Arv Z h518 e_ k498 .int (3 : Int32) [(.int p1), (.int 0), (.int 0)] (.int 0) := ⟨cl530, Ar530, q530, S530, M530, Hs530, G530⟩
      have hin532 : ¬ ((1 : Int32) < 0 ∨ cl530.slots.size ≤ ((1 : Int32)).toNatClampNeg) := inb_of S530 ⟨by decide, by decide⟩
      obtain ⟨T532, h532, X532, e532, W532, st532⟩ := stI X518 hx hZ e518 Ar530 (j := (1 : Int32)) hin532 (g := (mkF m 204 #[iv p0, iv p1, iv p2, iv p3, .val (.long q4), .second, iv p5, iv 0, iv 2, iv pos, iv s0, iv s1, iv p5, rv g, rv old, rv olds, .unset, .unset, .unset, .unset] [(.int p2), (.int 1), (.ref e_), (.ref e_)])) rfl rfl (hb hby at_204)
      have f533 := f519.wr W532
      have f534 := f520.other W532 (Or.inl ne499)
      have f535 := f521.other W532 (Or.inl ne499)
      have f536 := f522.other W532 (Or.inl ne499)
      have f537 := f523.other W532 (Or.inl ne499)
      have f538 := f524.other W532 ne500
      have f539 := f525.other W532 ne501
      have f540 := f526.other W532 ne502
      have f541 := f527.other W532 ne503
      have f542 := f528.other W532 ne504
      have Z543 := Nat.le_trans Z529 (Keep.of_wr W532).1
      have V532 : Arv Z h532 e_ k498 .int (3 : Int32) [(.int p1), (.int p2), (.int 0)] (.int 0) := Arv.set Ar530 q530 S530 M530 Hs530 G530 rfl W532 1 rfl (Nat.le_of_ble_eq_true rfl)
      have N532 := Fr.snoc X532 N518 ge_e_
      obtain ⟨cl544, Ar544, q544, S544, M544, Hs544, G544⟩ := V532
      have f545 : Arv Z h532 e_ k498 .int (3 : Int32) [(.int p1), (.int p2), (.int 0)] (.int 0) := ⟨cl544, Ar544, q544, S544, M544, Hs544, G544⟩
      have hin546 : ¬ ((2 : Int32) < 0 ∨ cl544.slots.size ≤ ((2 : Int32)).toNatClampNeg) := inb_of S544 ⟨by decide, by decide⟩
      obtain ⟨T546, h546, X546, e546, W546, st546⟩ := stI X532 hx hZ e532 Ar544 (j := (2 : Int32)) hin546 (g := (mkF m 208 #[iv p0, iv p1, iv p2, iv p3, .val (.long q4), .second, iv p5, iv 0, iv 2, iv pos, iv s0, iv s1, iv p5, rv g, rv old, rv olds, .unset, .unset, .unset, .unset] [(.int p3), (.int 2), (.ref e_), (.ref e_)])) rfl rfl (hb hby at_208)
      have f547 := f533.wr W546
      have f548 := f534.other W546 (Or.inl ne499)
      have f549 := f535.other W546 (Or.inl ne499)
      have f550 := f536.other W546 (Or.inl ne499)
      have f551 := f537.other W546 (Or.inl ne499)
      have f552 := f538.other W546 ne500
      have f553 := f539.other W546 ne501
      have f554 := f540.other W546 ne502
      have f555 := f541.other W546 ne503
      have f556 := f542.other W546 ne504
      have Z557 := Nat.le_trans Z543 (Keep.of_wr W546).1
      have V546 : Arv Z h546 e_ k498 .int (3 : Int32) [(.int p1), (.int p2), (.int p3)] (.int 0) := Arv.set Ar544 q544 S544 M544 Hs544 G544 rfl W546 2 rfl (Nat.le_of_ble_eq_true rfl)
      have N546 := Fr.snoc X546 N532 ge_e_
      obtain ⟨T558, h558, k558, X558, e558, E558, A558, st558⟩ := newP X546 hx hZ (hw _ (List.mem_of_getElem? (i := 9) rfl)) e546 (g := (mkF m 212 #[iv p0, iv p1, iv p2, iv p3, .val (.long q4), .second, iv p5, iv 0, iv 2, iv pos, iv s0, iv s1, iv p5, rv g, rv old, rv olds, rv e_, .unset, .unset, .unset] [(.int 3)])) rfl (hb hby at_212) rfl (by decide) (cap := 3) (by decide) (by decide) (by decide) (by decide)
      obtain ⟨es, g558⟩ : ∃ z, z = h546.size := ⟨_, rfl⟩
      have ne559 : g ≠ es := Nat.ne_of_lt (Nat.lt_of_lt_of_le f547.lt (Nat.le_of_eq g558.symm))
      have ne560 : st ≠ es := Nat.ne_of_lt (Nat.lt_of_lt_of_le f552.lt (Nat.le_of_eq g558.symm))
      have ne561 : dg ≠ es := Nat.ne_of_lt (Nat.lt_of_lt_of_le f553.lt (Nat.le_of_eq g558.symm))
      have ne562 : it ≠ es := Nat.ne_of_lt (Nat.lt_of_lt_of_le f554.lt (Nat.le_of_eq g558.symm))
      have ne563 : old ≠ es := Nat.ne_of_lt (Nat.lt_of_lt_of_le f555.lt (Nat.le_of_eq g558.symm))
      have ne564 : olds ≠ es := Nat.ne_of_lt (Nat.lt_of_lt_of_le f556.lt (Nat.le_of_eq g558.symm))
      have ne565 : e_ ≠ es := Nat.ne_of_lt (Nat.lt_of_lt_of_le V546.lt (Nat.le_of_eq g558.symm))
      have ge_es : n0 ≤ es := Nat.le_trans Z557 (Nat.le_of_eq g558.symm)
      rw [← g558] at A558 st558
      have f566 := f547.ext E558
      have f567 := f548.ext E558
      have f568 := f549.ext E558
      have f569 := f550.ext E558
      have f570 := f551.ext E558
      have f571 := f552.ext E558
      have f572 := f553.ext E558
      have f573 := f554.ext E558
      have f574 := f555.ext E558
      have f575 := f556.ext E558
      have f576 := V546.ext E558
      have Z577 := Nat.le_trans Z557 E558.1
      have V_es_558 : Arv Z h558 es k558 .int (3 : Int32) [(.int 0), (.int 0), (.int 0)] (.int 0) := (Arv.new A558 (by decide)).pad (pad_rep [] (.int 0) 3)
      obtain ⟨cl578, Ar578, q578, S578, M578, Hs578, G578⟩ := V_es_558
      have f579 : Arv Z h558 es k558 .int (3 : Int32) [(.int 0), (.int 0), (.int 0)] (.int 0) := ⟨cl578, Ar578, q578, S578, M578, Hs578, G578⟩
      have hin580 : ¬ ((0 : Int32) < 0 ∨ cl578.slots.size ≤ ((0 : Int32)).toNatClampNeg) := inb_of S578 ⟨by decide, by decide⟩
      obtain ⟨T580, h580, X580, e580, W580, st580⟩ := stI X558 hx hZ e558 Ar578 (j := (0 : Int32)) hin580 (g := (mkF m 218 #[iv p0, iv p1, iv p2, iv p3, .val (.long q4), .second, iv p5, iv 0, iv 2, iv pos, iv s0, iv s1, iv p5, rv g, rv old, rv olds, rv e_, .unset, .unset, .unset] [(.int s0), (.int 0), (.ref es), (.ref es)])) rfl rfl (hb hby at_218)
      have f581 := f566.wr W580
      have f582 := f567.other W580 (Or.inl ne559)
      have f583 := f568.other W580 (Or.inl ne559)
      have f584 := f569.other W580 (Or.inl ne559)
      have f585 := f570.other W580 (Or.inl ne559)
      have f586 := f571.other W580 ne560
      have f587 := f572.other W580 ne561
      have f588 := f573.other W580 ne562
      have f589 := f574.other W580 ne563
      have f590 := f575.other W580 ne564
      have f591 := f576.other W580 ne565
      have Z592 := Nat.le_trans Z577 (Keep.of_wr W580).1
      have V580 : Arv Z h580 es k558 .int (3 : Int32) [(.int s0), (.int 0), (.int 0)] (.int 0) := Arv.set Ar578 q578 S578 M578 Hs578 G578 rfl W580 0 rfl (Nat.le_of_ble_eq_true rfl)
      have N580 := Fr.snoc X580 N546 ge_es
      obtain ⟨cl593, Ar593, q593, S593, M593, Hs593, G593⟩ := V580
      have f594 : Arv Z h580 es k558 .int (3 : Int32) [(.int s0), (.int 0), (.int 0)] (.int 0) := ⟨cl593, Ar593, q593, S593, M593, Hs593, G593⟩
      have hin595 : ¬ ((1 : Int32) < 0 ∨ cl593.slots.size ≤ ((1 : Int32)).toNatClampNeg) := inb_of S593 ⟨by decide, by decide⟩
      obtain ⟨T595, h595, X595, e595, W595, st595⟩ := stI X580 hx hZ e580 Ar593 (j := (1 : Int32)) hin595 (g := (mkF m 223 #[iv p0, iv p1, iv p2, iv p3, .val (.long q4), .second, iv p5, iv 0, iv 2, iv pos, iv s0, iv s1, iv p5, rv g, rv old, rv olds, rv e_, .unset, .unset, .unset] [(.int s1), (.int 1), (.ref es), (.ref es)])) rfl rfl (hb hby at_223)
      have f596 := f581.wr W595
      have f597 := f582.other W595 (Or.inl ne559)
      have f598 := f583.other W595 (Or.inl ne559)
      have f599 := f584.other W595 (Or.inl ne559)
      have f600 := f585.other W595 (Or.inl ne559)
      have f601 := f586.other W595 ne560
      have f602 := f587.other W595 ne561
      have f603 := f588.other W595 ne562
      have f604 := f589.other W595 ne563
      have f605 := f590.other W595 ne564
      have f606 := f591.other W595 ne565
      have Z607 := Nat.le_trans Z592 (Keep.of_wr W595).1
      have V595 : Arv Z h595 es k558 .int (3 : Int32) [(.int s0), (.int s1), (.int 0)] (.int 0) := Arv.set Ar593 q593 S593 M593 Hs593 G593 rfl W595 1 rfl (Nat.le_of_ble_eq_true rfl)
      have N595 := Fr.snoc X595 N580 ge_es
      obtain ⟨cl608, Ar608, q608, S608, M608, Hs608, G608⟩ := V595
      have f609 : Arv Z h595 es k558 .int (3 : Int32) [(.int s0), (.int s1), (.int 0)] (.int 0) := ⟨cl608, Ar608, q608, S608, M608, Hs608, G608⟩
      have hin610 : ¬ ((2 : Int32) < 0 ∨ cl608.slots.size ≤ ((2 : Int32)).toNatClampNeg) := inb_of S608 ⟨by decide, by decide⟩
      obtain ⟨T610, h610, X610, e610, W610, st610⟩ := stI X595 hx hZ e595 Ar608 (j := (2 : Int32)) hin610 (g := (mkF m 228 #[iv p0, iv p1, iv p2, iv p3, .val (.long q4), .second, iv p5, iv 0, iv 2, iv pos, iv s0, iv s1, iv p5, rv g, rv old, rv olds, rv e_, .unset, .unset, .unset] [(.int p5), (.int 2), (.ref es), (.ref es)])) rfl rfl (hb hby at_228)
      have f611 := f596.wr W610
      have f612 := f597.other W610 (Or.inl ne559)
      have f613 := f598.other W610 (Or.inl ne559)
      have f614 := f599.other W610 (Or.inl ne559)
      have f615 := f600.other W610 (Or.inl ne559)
      have f616 := f601.other W610 ne560
      have f617 := f602.other W610 ne561
      have f618 := f603.other W610 ne562
      have f619 := f604.other W610 ne563
      have f620 := f605.other W610 ne564
      have f621 := f606.other W610 ne565
      have Z622 := Nat.le_trans Z607 (Keep.of_wr W610).1
      have V610 : Arv Z h610 es k558 .int (3 : Int32) [(.int s0), (.int s1), (.int p5)] (.int 0) := Arv.set Ar608 q608 S608 M608 Hs608 G608 rfl W610 2 rfl (Nat.le_of_ble_eq_true rfl)
      have N610 := Fr.snoc X610 N595 ge_es
      obtain ⟨cl623, Ar623, q623, S623, M623, Hs623, G623⟩ := f619
      have f624 : Arv Z h610 old k393 .int (3 : Int32) [(.int p1), (.int p2), (.int p3)] (.int 0) := ⟨cl623, Ar623, q623, S623, M623, Hs623, G623⟩
      have hin625 : ¬ (((2 : Int32) - (1 : Int32)) < 0 ∨ cl623.slots.size ≤ (((2 : Int32) - (1 : Int32))).toNatClampNeg) := inb_of S623 ⟨by decide, by decide⟩
      have hat625 : cl623.slots[(((2 : Int32) - (1 : Int32))).toNatClampNeg]? = some (.int p2) := Hs623.at hin625 rfl
      obtain ⟨cl626, Ar626, q626, S626, M626, Hs626, G626⟩ := f621
      have f627 : Arv Z h610 e_ k498 .int (3 : Int32) [(.int p1), (.int p2), (.int p3)] (.int 0) := ⟨cl626, Ar626, q626, S626, M626, Hs626, G626⟩
      have hin628 : ¬ (pos < 0 ∨ cl626.slots.size ≤ (pos).toNatClampNeg) := inb_of S626 hpi.1
      obtain ⟨T628, h628, X628, e628, W628, st628⟩ := stI X610 hx hZ e610 Ar626 (j := pos) hin628 (g := (mkF m 242 #[iv p0, iv p1, iv p2, iv p3, .val (.long q4), .second, iv p5, iv 0, iv 2, iv pos, iv s0, iv s1, iv p5, rv g, rv old, rv olds, rv e_, rv es, .unset, .unset] [(.int p2), (.int pos), (.ref e_)])) rfl rfl (hb hby at_242)
      have f629 := f611.wr W628
      have f630 := f612.other W628 (Or.inl ne499)
      have f631 := f613.other W628 (Or.inl ne499)
      have f632 := f614.other W628 (Or.inl ne499)
      have f633 := f615.other W628 (Or.inl ne499)
      have f634 := f616.other W628 ne500
      have f635 := f617.other W628 ne501
      have f636 := f618.other W628 ne502
      have f637 := f624.other W628 ne503
      have f638 := f620.other W628 ne504
      have f639 := V610.other W628 (Ne.symm ne565)
      have Z640 := Nat.le_trans Z622 (Keep.of_wr W628).1
      have V628 : Arv Z h628 e_ k498 .int (3 : Int32) ([(.int p1), (.int p2), (.int p3)].set (pos).toNatClampNeg (.int p2)) (.int 0) := Arv.set Ar626 q626 S626 M626 Hs626 G626 rfl W628 (pos).toNatClampNeg rfl hpi.2.1
      have N628 := Fr.snoc X628 N610 ge_e_
      have f641 : Arv Z h628 e_ k498 .int (3 : Int32) [(.int e0), (.int e1), (.int p3)] (.int (0 : Int32)) := he ▸ V628
      obtain ⟨cl642, Ar642, q642, S642, M642, Hs642, G642⟩ := f638
      have f643 : Arv Z h628 olds k443 .int (3 : Int32) [(.int s0), (.int s1), (.int p5)] (.int 0) := ⟨cl642, Ar642, q642, S642, M642, Hs642, G642⟩
      have hin644 : ¬ (((2 : Int32) - (1 : Int32)) < 0 ∨ cl642.slots.size ≤ (((2 : Int32) - (1 : Int32))).toNatClampNeg) := inb_of S642 ⟨by decide, by decide⟩
      have hat644 : cl642.slots[(((2 : Int32) - (1 : Int32))).toNatClampNeg]? = some (.int s1) := Hs642.at hin644 rfl
      obtain ⟨cl645, Ar645, q645, S645, M645, Hs645, G645⟩ := f639
      have f646 : Arv Z h628 es k558 .int (3 : Int32) [(.int s0), (.int s1), (.int p5)] (.int 0) := ⟨cl645, Ar645, q645, S645, M645, Hs645, G645⟩
      have hin647 : ¬ (pos < 0 ∨ cl645.slots.size ≤ (pos).toNatClampNeg) := inb_of S645 hpi.1
      obtain ⟨T647, h647, X647, e647, W647, st647⟩ := stI X628 hx hZ e628 Ar645 (j := pos) hin647 (g := (mkF m 254 #[iv p0, iv p1, iv p2, iv p3, .val (.long q4), .second, iv p5, iv 0, iv 2, iv pos, iv s0, iv s1, iv p5, rv g, rv old, rv olds, rv e_, rv es, .unset, .unset] [(.int s1), (.int pos), (.ref es)])) rfl rfl (hb hby at_254)
      have f648 := f629.wr W647
      have f649 := f630.other W647 (Or.inl ne559)
      have f650 := f631.other W647 (Or.inl ne559)
      have f651 := f632.other W647 (Or.inl ne559)
      have f652 := f633.other W647 (Or.inl ne559)
      have f653 := f634.other W647 ne560
      have f654 := f635.other W647 ne561
      have f655 := f636.other W647 ne562
      have f656 := f637.other W647 ne563
      have f657 := f643.other W647 ne564
      have f658 := f641.other W647 ne565
      have Z659 := Nat.le_trans Z640 (Keep.of_wr W647).1
      have V647 : Arv Z h647 es k558 .int (3 : Int32) ([(.int s0), (.int s1), (.int p5)].set (pos).toNatClampNeg (.int s1)) (.int 0) := Arv.set Ar645 q645 S645 M645 Hs645 G645 rfl W647 (pos).toNatClampNeg rfl hpi.2.1
      have N647 := Fr.snoc X647 N628 ge_es
      have f660 : Arv Z h647 es k558 .int (3 : Int32) [(.int f0_), (.int f1_), (.int p5)] (.int (0 : Int32)) := hf ▸ V647
      obtain ⟨cq661, kq661, q661a, q661b, q661c⟩ := isOf hZ e647 f648
      obtain ⟨_, _, ⟨T661, L661, k661, n661⟩, -, X661, ⟨Lc661, hQ661, l661, y661, z661⟩, st661⟩ := X647.virtualBack hx (y := (⟨"com/example/plebiscite/plebiscite/Adjacency", "degree", "(I)I"⟩ : MethodName)) (z := (⟨"com/example/plebiscite/plebiscite/Adjacency", "degree", "(I)I"⟩ : MethodName)) hown (mvT hZ (hw _ (List.mem_of_getElem? (i := 54) rfl))) (mvT hZ (hw _ (List.mem_of_getElem? (i := 55) rfl))) (notFace_of_selects (args := #[]) (mvT hZ (hw _ (List.mem_of_getElem? (i := 57) rfl)))) (mvT hZ (hw _ (List.mem_of_getElem? (i := 57) rfl))) (mvT hZ (hw _ (List.mem_of_getElem? (i := 56) rfl))) (by decide) (backOf (W := 0) (rm_dgr l Z a0 hw [] g dg k2 (1 : Int32) h647 n0 Z659 f650 f654) hZ (hw _ (List.mem_of_getElem? (i := 58) rfl)) (hw _ (List.mem_of_getElem? (i := 2) rfl)) (by decide) (by decide)) q661a q661c (g := (mkF m 258 #[iv p0, iv p1, iv p2, iv p3, .val (.long q4), .second, iv p5, iv 0, iv 2, iv pos, iv s0, iv s1, iv p5, rv g, rv old, rv olds, rv e_, rv es, .unset, .unset] [(.int 0), (.ref g)])) rfl (by rw [hml]; rfl) (Steps.refl _) (argsL := [(.int 0)]) (rest := []) (lenOf pd_4 rfl) rfl (by show 2 * 0 + _ ≤ _; exact Nat.le_of_eq rfl) (hb hby at_258) (fun _ _ => ⟨rfl, e647, (by decide : 9 + 0 ≤ _), (by decide : 29 + 0 ≤ _)⟩)
      dsimp only [Pt.U, Pt.locs, Pt.cells, Pt.slots] at X661 l661 y661 z661 st661 hQ661
      rw [l661, y661, z661] at X661
      obtain ⟨hv661, N661q, er1⟩ := hQ661
      rw [hv661] at st661
      have N661 := Fr.app N647 N661q
      obtain ⟨cq662, kq662, q662a, q662b, q662c⟩ := isOf hZ er1 f648
      obtain ⟨_, _, ⟨T662, L662, k662, n662⟩, -, X662, ⟨Lc662, hQ662, l662, y662, z662⟩, st662⟩ := X661.virtualBack hx (y := (⟨"com/example/plebiscite/plebiscite/Adjacency", "size", "()I"⟩ : MethodName)) (z := (⟨"com/example/plebiscite/plebiscite/Adjacency", "size", "()I"⟩ : MethodName)) hown (mvT hZ (hw _ (List.mem_of_getElem? (i := 59) rfl))) (mvT hZ (hw _ (List.mem_of_getElem? (i := 60) rfl))) (notFace_of_selects (args := #[]) (mvT hZ (hw _ (List.mem_of_getElem? (i := 62) rfl)))) (mvT hZ (hw _ (List.mem_of_getElem? (i := 62) rfl))) (mvT hZ (hw _ (List.mem_of_getElem? (i := 61) rfl))) (by decide) (backOf (W := 0) (rm_siz l Z a0 hw [] g (1 : Int32) h647 n0 Z659 f652) hZ (hw _ (List.mem_of_getElem? (i := 63) rfl)) (hw _ (List.mem_of_getElem? (i := 2) rfl)) (by decide) (by decide)) q662a q662c (g := (mkF m 270 #[iv p0, iv p1, iv p2, iv p3, .val (.long q4), .second, iv p5, iv 0, iv 2, iv pos, iv s0, iv s1, iv p5, rv g, rv old, rv olds, rv e_, rv es, .unset, .unset] [(.ref g)])) rfl (by rw [hml]; rfl) (Steps.refl _) (argsL := []) (rest := []) (lenOf pd_7 rfl) rfl (by show 2 * 0 + _ ≤ _; exact Nat.le_of_eq rfl) (hb hby at_270) (fun _ _ => ⟨rfl, er1, (by decide : 9 + 0 ≤ _), (by decide : 29 + 0 ≤ _)⟩)
      dsimp only [Pt.U, Pt.locs, Pt.cells, Pt.slots] at X662 l662 y662 z662 st662 hQ662
      rw [l662, y662, z662] at X662
      obtain ⟨hv662, N662q, er2⟩ := hQ662
      rw [hv662] at st662
      have N662 := Fr.app N661 N662q
      obtain ⟨cq663, kq663, q663a, q663b, q663c⟩ := isOf hZ er2 f648
      obtain ⟨_, _, ⟨T663, L663, k663, n663⟩, -, X663, ⟨Lc663, hQ663, l663, y663, z663⟩, st663⟩ := X662.virtualBack hx (y := (⟨"com/example/plebiscite/plebiscite/Adjacency", "begin", "(I)I"⟩ : MethodName)) (z := (⟨"com/example/plebiscite/plebiscite/Adjacency", "begin", "(I)I"⟩ : MethodName)) hown (mvT hZ (hw _ (List.mem_of_getElem? (i := 64) rfl))) (mvT hZ (hw _ (List.mem_of_getElem? (i := 65) rfl))) (notFace_of_selects (args := #[]) (mvT hZ (hw _ (List.mem_of_getElem? (i := 67) rfl)))) (mvT hZ (hw _ (List.mem_of_getElem? (i := 67) rfl))) (mvT hZ (hw _ (List.mem_of_getElem? (i := 66) rfl))) (by decide) (backOf (W := 0) (rm_bgn l Z a0 hw [] g st k1 (0 : Int32) h647 n0 Z659 f649 f653) hZ (hw _ (List.mem_of_getElem? (i := 68) rfl)) (hw _ (List.mem_of_getElem? (i := 2) rfl)) (by decide) (by decide)) q663a q663c (g := (mkF m 290 #[iv p0, iv p1, iv p2, iv p3, .val (.long q4), .second, iv p5, iv 0, iv 2, iv pos, iv s0, iv s1, iv p5, rv g, rv old, rv olds, rv e_, rv es, iv 1, .unset] [(.int 0), (.ref g)])) rfl (by rw [hml]; rfl) (Steps.refl _) (argsL := [(.int 0)]) (rest := []) (lenOf pd_4 rfl) rfl (by show 2 * 0 + _ ≤ _; exact Nat.le_of_eq rfl) (hb hby at_290) (fun _ _ => ⟨rfl, er2, (by decide : 9 + 0 ≤ _), (by decide : 29 + 0 ≤ _)⟩)
      dsimp only [Pt.U, Pt.locs, Pt.cells, Pt.slots] at X663 l663 y663 z663 st663 hQ663
      rw [l663, y663, z663] at X663
      obtain ⟨hv663, N663q, er3⟩ := hQ663
      rw [hv663] at st663
      have N663 := Fr.app N662 N663q
      obtain ⟨cq664, kq664, q664a, q664b, q664c⟩ := isOf hZ er3 f648
      obtain ⟨_, _, ⟨T664, L664, k664, n664⟩, -, X664, ⟨Lc664, hQ664, l664, y664, z664⟩, st664⟩ := X663.virtualBack hx (y := (⟨"com/example/plebiscite/plebiscite/Adjacency", "item", "(I)I"⟩ : MethodName)) (z := (⟨"com/example/plebiscite/plebiscite/Adjacency", "item", "(I)I"⟩ : MethodName)) hown (mvT hZ (hw _ (List.mem_of_getElem? (i := 102) rfl))) (mvT hZ (hw _ (List.mem_of_getElem? (i := 103) rfl))) (notFace_of_selects (args := #[]) (mvT hZ (hw _ (List.mem_of_getElem? (i := 105) rfl)))) (mvT hZ (hw _ (List.mem_of_getElem? (i := 105) rfl))) (mvT hZ (hw _ (List.mem_of_getElem? (i := 104) rfl))) (by decide) (backOf (W := 0) (rm_itm l Z a0 hw [] g (0 : Int32) it k4 (4 : Int32) [(.int e0), (.int e1), (.int 0), (.int 0)] e0 h647 n0 Z659 f651 f655 ⟨by decide, by decide⟩ rfl) hZ (hw _ (List.mem_of_getElem? (i := 106) rfl)) (hw _ (List.mem_of_getElem? (i := 2) rfl)) (by decide) (by decide)) q664a q664c (g := (mkF m 310 #[iv p0, iv p1, iv p2, iv p3, .val (.long q4), .second, iv p5, iv 0, iv 2, iv pos, iv s0, iv s1, iv p5, rv g, rv old, rv olds, rv e_, rv es, iv 1, iv 0] [(.int 0), (.ref g)])) rfl (by rw [hml]; rfl) (Steps.refl _) (argsL := [(.int 0)]) (rest := []) (lenOf pd_4 rfl) rfl (by show 2 * 0 + _ ≤ _; exact Nat.le_of_eq rfl) (hb hby at_310) (fun _ _ => ⟨rfl, er3, (by decide : 9 + 0 ≤ _), (by decide : 29 + 0 ≤ _)⟩)
      dsimp only [Pt.U, Pt.locs, Pt.cells, Pt.slots] at X664 l664 y664 z664 st664 hQ664
      rw [l664, y664, z664] at X664
      obtain ⟨hv664, N664q, ei0⟩ := hQ664
      rw [hv664] at st664
      have N664 := Fr.app N663 N664q
      obtain ⟨cl665, Ar665, q665, S665, M665, Hs665, G665⟩ := f658
      have f666 : Arv Z h647 e_ k498 .int (3 : Int32) [(.int e0), (.int e1), (.int p3)] (.int 0) := ⟨cl665, Ar665, q665, S665, M665, Hs665, G665⟩
      have hin667 : ¬ ((0 : Int32) < 0 ∨ cl665.slots.size ≤ ((0 : Int32)).toNatClampNeg) := inb_of S665 ⟨by decide, by decide⟩
      have hat667 : cl665.slots[((0 : Int32)).toNatClampNeg]? = some (.int e0) := Hs665.at hin667 rfl
      have go668 : ∀ t, Steps p.tables e below (T664.setTop (mkF m 403 #[iv p0, iv p1, iv p2, iv p3, .val (.long q4), .second, iv p5, iv 0, iv 2, iv pos, iv s0, iv s1, iv p5, rv g, rv old, rv olds, rv e_, rv es, iv 1, iv 0] [(.int 1)])) t → Steps p.tables e below O t := fun t k => go111 t (by
        refine XS.iload X109.here hx rfl (hb hby at_123) rfl ?_
        refine XS.iconst X109.here hx rfl (hb hby at_125) ?_
        show Steps _ _ _ (T109.setTop (mkF m 126 _ [(.int 2), (.int 2)])) _
        refine XS.icmpNo X109.here hx rfl (hb hby at_126) rfl (flt (by decide : ¬ ((2 : Int32) < (2 : Int32)))).1 ?_
        refine XS.aload X109.here hx rfl (hb hby at_129) rfl rfl ?_
        show Steps _ _ _ (T109.setTop (mkF m 131 _ [(.ref g)])) _
        refine XS.iconst X109.here hx rfl (hb hby at_131) ?_
        refine XS.iloadN X109.here hx rfl (hb hby at_132) rfl ?_
        show Steps _ _ _ (T109.setTop (mkF m 133 _ [(.int p2), (.int 0), (.ref g)])) _
        refine st388.trans ?_
        show Steps _ _ _ (T388.setTop (mkF m 136 _ [])) _
        refine XS.iload X388.here hx rfl (hb hby at_136) rfl ?_
        refine XS.iconst X388.here hx rfl (hb hby at_138) ?_
        show Steps _ _ _ (T388.setTop (mkF m 139 _ [(.int 3), (.int 2)])) _
        refine XS.icmpYes X388.here hx rfl (pc0 := 139) (pc' := 149) rfl (hb hby at_139) rfl (tlt (by decide : (2 : Int32) < (3 : Int32))).1 (by decide) (by decide) ?_
        refine XS.aload X388.here hx rfl (hb hby at_149) rfl rfl ?_
        show Steps _ _ _ (T388.setTop (mkF m 151 _ [(.ref g)])) _
        refine XS.iconst X388.here hx rfl (hb hby at_151) ?_
        refine XS.iload X388.here hx rfl (hb hby at_152) rfl ?_
        show Steps _ _ _ (T388.setTop (mkF m 154 _ [(.int pos), (.int 0), (.ref g)])) _
        refine st390.trans ?_
        show Steps _ _ _ (T390.setTop (mkF m 157 _ [])) _
        refine XS.iconst X390.here hx rfl (hb hby at_157) ?_
        refine st393 _ ?_
        show Steps _ _ _ (T393.setTop (mkF m 160 _ [(.ref old)])) _
        refine XS.dup X393.here hx rfl (hb hby at_160) rfl rfl ?_
        refine XS.iconst X393.here hx rfl (hb hby at_161) ?_
        show Steps _ _ _ (T393.setTop (mkF m 162 _ [(.int 0), (.ref old), (.ref old)])) _
        refine XS.iloadN X393.here hx rfl (hb hby at_162) rfl ?_
        refine st409 _ ?_
        show Steps _ _ _ (T409.setTop (mkF m 164 _ [(.ref old)])) _
        refine XS.dup X409.here hx rfl (hb hby at_164) rfl rfl ?_
        refine XS.iconst X409.here hx rfl (hb hby at_165) ?_
        show Steps _ _ _ (T409.setTop (mkF m 166 _ [(.int 1), (.ref old), (.ref old)])) _
        refine XS.iloadN X409.here hx rfl (hb hby at_166) rfl ?_
        refine st421 _ ?_
        show Steps _ _ _ (T421.setTop (mkF m 168 _ [(.ref old)])) _
        refine XS.dup X421.here hx rfl (hb hby at_168) rfl rfl ?_
        refine XS.iconst X421.here hx rfl (hb hby at_169) ?_
        show Steps _ _ _ (T421.setTop (mkF m 170 _ [(.int 2), (.ref old), (.ref old)])) _
        refine XS.iloadN X421.here hx rfl (hb hby at_170) rfl ?_
        refine st433 _ ?_
        show Steps _ _ _ (T433.setTop (mkF m 172 _ [(.ref old)])) _
        refine XS.astore X433.here hx rfl (hb hby at_172) rfl rfl (l' := #[iv p0, iv p1, iv p2, iv p3, .val (.long q4), .second, iv p5, iv 0, iv 2, iv pos, iv s0, iv s1, iv p5, rv g, rv old, .unset, .unset, .unset, .unset, .unset]) rfl ?_
        show Steps _ _ _ (T433.setTop (mkF m 174 _ [])) _
        refine XS.iconst X433.here hx rfl (hb hby at_174) ?_
        refine st443 _ ?_
        show Steps _ _ _ (T443.setTop (mkF m 177 _ [(.ref olds)])) _
        refine XS.dup X443.here hx rfl (hb hby at_177) rfl rfl ?_
        refine XS.iconst X443.here hx rfl (hb hby at_178) ?_
        show Steps _ _ _ (T443.setTop (mkF m 179 _ [(.int 0), (.ref olds), (.ref olds)])) _
        refine XS.iload X443.here hx rfl (hb hby at_179) rfl ?_
        refine st461 _ ?_
        show Steps _ _ _ (T461.setTop (mkF m 182 _ [(.ref olds)])) _
        refine XS.dup X461.here hx rfl (hb hby at_182) rfl rfl ?_
        refine XS.iconst X461.here hx rfl (hb hby at_183) ?_
        show Steps _ _ _ (T461.setTop (mkF m 184 _ [(.int 1), (.ref olds), (.ref olds)])) _
        refine XS.iload X461.here hx rfl (hb hby at_184) rfl ?_
        refine st474 _ ?_
        show Steps _ _ _ (T474.setTop (mkF m 187 _ [(.ref olds)])) _
        refine XS.dup X474.here hx rfl (hb hby at_187) rfl rfl ?_
        refine XS.iconst X474.here hx rfl (hb hby at_188) ?_
        show Steps _ _ _ (T474.setTop (mkF m 189 _ [(.int 2), (.ref olds), (.ref olds)])) _
        refine XS.iload X474.here hx rfl (hb hby at_189) rfl ?_
        refine st487 _ ?_
        show Steps _ _ _ (T487.setTop (mkF m 192 _ [(.ref olds)])) _
        refine XS.astore X487.here hx rfl (hb hby at_192) rfl rfl (l' := #[iv p0, iv p1, iv p2, iv p3, .val (.long q4), .second, iv p5, iv 0, iv 2, iv pos, iv s0, iv s1, iv p5, rv g, rv old, rv olds, .unset, .unset, .unset, .unset]) rfl ?_
        show Steps _ _ _ (T487.setTop (mkF m 194 _ [])) _
        refine XS.iconst X487.here hx rfl (hb hby at_194) ?_
        refine st498 _ ?_
        show Steps _ _ _ (T498.setTop (mkF m 197 _ [(.ref e_)])) _
        refine XS.dup X498.here hx rfl (hb hby at_197) rfl rfl ?_
        refine XS.iconst X498.here hx rfl (hb hby at_198) ?_
        show Steps _ _ _ (T498.setTop (mkF m 199 _ [(.int 0), (.ref e_), (.ref e_)])) _
        refine XS.iloadN X498.here hx rfl (hb hby at_199) rfl ?_
        refine st518 _ ?_
        show Steps _ _ _ (T518.setTop (mkF m 201 _ [(.ref e_)])) _
        refine XS.dup X518.here hx rfl (hb hby at_201) rfl rfl ?_
        refine XS.iconst X518.here hx rfl (hb hby at_202) ?_
        show Steps _ _ _ (T518.setTop (mkF m 203 _ [(.int 1), (.ref e_), (.ref e_)])) _
        refine XS.iloadN X518.here hx rfl (hb hby at_203) rfl ?_
        refine st532 _ ?_
        show Steps _ _ _ (T532.setTop (mkF m 205 _ [(.ref e_)])) _
        refine XS.dup X532.here hx rfl (hb hby at_205) rfl rfl ?_
        refine XS.iconst X532.here hx rfl (hb hby at_206) ?_
        show Steps _ _ _ (T532.setTop (mkF m 207 _ [(.int 2), (.ref e_), (.ref e_)])) _
        refine XS.iloadN X532.here hx rfl (hb hby at_207) rfl ?_
        refine st546 _ ?_
        show Steps _ _ _ (T546.setTop (mkF m 209 _ [(.ref e_)])) _
        refine XS.astore X546.here hx rfl (hb hby at_209) rfl rfl (l' := #[iv p0, iv p1, iv p2, iv p3, .val (.long q4), .second, iv p5, iv 0, iv 2, iv pos, iv s0, iv s1, iv p5, rv g, rv old, rv olds, rv e_, .unset, .unset, .unset]) rfl ?_
        show Steps _ _ _ (T546.setTop (mkF m 211 _ [])) _
        refine XS.iconst X546.here hx rfl (hb hby at_211) ?_
        refine st558 _ ?_
        show Steps _ _ _ (T558.setTop (mkF m 214 _ [(.ref es)])) _
        refine XS.dup X558.here hx rfl (hb hby at_214) rfl rfl ?_
        refine XS.iconst X558.here hx rfl (hb hby at_215) ?_
        show Steps _ _ _ (T558.setTop (mkF m 216 _ [(.int 0), (.ref es), (.ref es)])) _
        refine XS.iload X558.here hx rfl (hb hby at_216) rfl ?_
        refine st580 _ ?_
        show Steps _ _ _ (T580.setTop (mkF m 219 _ [(.ref es)])) _
        refine XS.dup X580.here hx rfl (hb hby at_219) rfl rfl ?_
        refine XS.iconst X580.here hx rfl (hb hby at_220) ?_
        show Steps _ _ _ (T580.setTop (mkF m 221 _ [(.int 1), (.ref es), (.ref es)])) _
        refine XS.iload X580.here hx rfl (hb hby at_221) rfl ?_
        refine st595 _ ?_
        show Steps _ _ _ (T595.setTop (mkF m 224 _ [(.ref es)])) _
        refine XS.dup X595.here hx rfl (hb hby at_224) rfl rfl ?_
        refine XS.iconst X595.here hx rfl (hb hby at_225) ?_
        show Steps _ _ _ (T595.setTop (mkF m 226 _ [(.int 2), (.ref es), (.ref es)])) _
        refine XS.iload X595.here hx rfl (hb hby at_226) rfl ?_
        refine st610 _ ?_
        show Steps _ _ _ (T610.setTop (mkF m 229 _ [(.ref es)])) _
        refine XS.astore X610.here hx rfl (hb hby at_229) rfl rfl (l' := #[iv p0, iv p1, iv p2, iv p3, .val (.long q4), .second, iv p5, iv 0, iv 2, iv pos, iv s0, iv s1, iv p5, rv g, rv old, rv olds, rv e_, rv es, .unset, .unset]) rfl ?_
        show Steps _ _ _ (T610.setTop (mkF m 231 _ [])) _
        refine XS.aload X610.here hx rfl (hb hby at_231) rfl rfl ?_
        refine XS.iload X610.here hx rfl (hb hby at_233) rfl ?_
        show Steps _ _ _ (T610.setTop (mkF m 235 _ [(.int pos), (.ref e_)])) _
        refine XS.aload X610.here hx rfl (hb hby at_235) rfl rfl ?_
        refine XS.iload X610.here hx rfl (hb hby at_237) rfl ?_
        show Steps _ _ _ (T610.setTop (mkF m 239 _ [(.int 2), (.ref old), (.int pos), (.ref e_)])) _
        refine XS.iconst X610.here hx rfl (hb hby at_239) ?_
        refine XS.isub X610.here hx rfl (hb hby at_240) rfl ?_
        show Steps _ _ _ (T610.setTop (mkF m 241 _ [(.int ((2 : Int32) - (1 : Int32))), (.ref old), (.int pos), (.ref e_)])) _
        refine X610.iaload hx (j := ((2 : Int32) - (1 : Int32))) (v := (.int p2)) (by rw [e610]; exact Ar623.1) (State.isArrayOf_alike hZ.alike Ar623.2.1) Ar623.2.2 hin625 hat625 (g := (mkF m 241 #[iv p0, iv p1, iv p2, iv p3, .val (.long q4), .second, iv p5, iv 0, iv 2, iv pos, iv s0, iv s1, iv p5, rv g, rv old, rv olds, rv e_, rv es, .unset, .unset] [(.int ((2 : Int32) - (1 : Int32))), (.ref old), (.int pos), (.ref e_)])) rfl rfl (hb hby at_241) _ ?_
        refine st628 _ ?_
        show Steps _ _ _ (T628.setTop (mkF m 243 _ [])) _
        refine XS.aload X628.here hx rfl (hb hby at_243) rfl rfl ?_
        refine XS.iload X628.here hx rfl (hb hby at_245) rfl ?_
        show Steps _ _ _ (T628.setTop (mkF m 247 _ [(.int pos), (.ref es)])) _
        refine XS.aload X628.here hx rfl (hb hby at_247) rfl rfl ?_
        refine XS.iload X628.here hx rfl (hb hby at_249) rfl ?_
        show Steps _ _ _ (T628.setTop (mkF m 251 _ [(.int 2), (.ref olds), (.int pos), (.ref es)])) _
        refine XS.iconst X628.here hx rfl (hb hby at_251) ?_
        refine XS.isub X628.here hx rfl (hb hby at_252) rfl ?_
        show Steps _ _ _ (T628.setTop (mkF m 253 _ [(.int ((2 : Int32) - (1 : Int32))), (.ref olds), (.int pos), (.ref es)])) _
        refine X628.iaload hx (j := ((2 : Int32) - (1 : Int32))) (v := (.int s1)) (by rw [e628]; exact Ar642.1) (State.isArrayOf_alike hZ.alike Ar642.2.1) Ar642.2.2 hin644 hat644 (g := (mkF m 253 #[iv p0, iv p1, iv p2, iv p3, .val (.long q4), .second, iv p5, iv 0, iv 2, iv pos, iv s0, iv s1, iv p5, rv g, rv old, rv olds, rv e_, rv es, .unset, .unset] [(.int ((2 : Int32) - (1 : Int32))), (.ref olds), (.int pos), (.ref es)])) rfl rfl (hb hby at_253) _ ?_
        refine st647 _ ?_
        show Steps _ _ _ (T647.setTop (mkF m 255 _ [])) _
        refine XS.aload X647.here hx rfl (hb hby at_255) rfl rfl ?_
        refine XS.iconst X647.here hx rfl (hb hby at_257) ?_
        show Steps _ _ _ (T647.setTop (mkF m 258 _ [(.int 0), (.ref g)])) _
        refine st661.trans ?_
        show Steps _ _ _ (T661.setTop (mkF m 261 _ [(.int 1)])) _
        refine XS.iload X661.here hx rfl (hb hby at_261) rfl ?_
        refine XS.iconst X661.here hx rfl (hb hby at_263) ?_
        show Steps _ _ _ (T661.setTop (mkF m 264 _ [(.int 1), (.int 2), (.int 1)])) _
        refine XS.isub X661.here hx rfl (hb hby at_264) rfl ?_
        refine XS.icmpNo X661.here hx rfl (hb hby at_265) rfl (teq (by decide : (1 : Int32) = ((2 : Int32) - (1 : Int32)))).2 ?_
        show Steps _ _ _ (T661.setTop (mkF m 268 _ [])) _
        refine XS.aload X661.here hx rfl (hb hby at_268) rfl rfl ?_
        refine st662.trans ?_
        show Steps _ _ _ (T662.setTop (mkF m 273 _ [(.int 1)])) _
        refine XS.iload X662.here hx rfl (hb hby at_273) rfl ?_
        refine XS.iconst X662.here hx rfl (hb hby at_275) ?_
        show Steps _ _ _ (T662.setTop (mkF m 276 _ [(.int 1), (.int 2), (.int 1)])) _
        refine XS.isub X662.here hx rfl (hb hby at_276) rfl ?_
        refine XS.icmpNo X662.here hx rfl (hb hby at_277) rfl (teq (by decide : (1 : Int32) = ((2 : Int32) - (1 : Int32)))).2 ?_
        show Steps _ _ _ (T662.setTop (mkF m 280 _ [])) _
        refine XS.iconst X662.here hx rfl (hb hby at_280) ?_
        refine XS.goto X662.here hx rfl (pc0 := 281) (pc' := 285) rfl (hb hby at_281) (by decide) (by decide) ?_
        show Steps _ _ _ (T662.setTop (mkF m 285 _ [(.int 1)])) _
        refine XS.istore X662.here hx rfl (hb hby at_285) rfl (l' := #[iv p0, iv p1, iv p2, iv p3, .val (.long q4), .second, iv p5, iv 0, iv 2, iv pos, iv s0, iv s1, iv p5, rv g, rv old, rv olds, rv e_, rv es, iv 1, .unset]) rfl ?_
        show Steps _ _ _ (T662.setTop (mkF m 287 _ [])) _
        refine XS.aload X662.here hx rfl (hb hby at_287) rfl rfl ?_
        refine XS.iconst X662.here hx rfl (hb hby at_289) ?_
        show Steps _ _ _ (T662.setTop (mkF m 290 _ [(.int 0), (.ref g)])) _
        refine st663.trans ?_
        show Steps _ _ _ (T663.setTop (mkF m 293 _ [(.int 0)])) _
        refine XS.istore X663.here hx rfl (hb hby at_293) rfl (l' := #[iv p0, iv p1, iv p2, iv p3, .val (.long q4), .second, iv p5, iv 0, iv 2, iv pos, iv s0, iv s1, iv p5, rv g, rv old, rv olds, rv e_, rv es, iv 1, iv 0]) rfl ?_
        show Steps _ _ _ (T663.setTop (mkF m 295 _ [])) _
        refine XS.iload X663.here hx rfl (hb hby at_295) rfl ?_
        refine XS.iconst X663.here hx rfl (hb hby at_297) ?_
        show Steps _ _ _ (T663.setTop (mkF m 298 _ [(.int 2), (.int 2)])) _
        refine XS.icmpNo X663.here hx rfl (hb hby at_298) rfl (flt (by decide : ¬ ((2 : Int32) < (2 : Int32)))).1 ?_
        refine XS.iload X663.here hx rfl (hb hby at_301) rfl ?_
        show Steps _ _ _ (T663.setTop (mkF m 303 _ [(.int 1)])) _
        refine XS.ifNo X663.here hx rfl (hb hby at_303) rfl ((if0 _ _).trans (feq (by decide : ¬ ((1 : Int32) = (0 : Int32)))).1) ?_
        refine XS.aload X663.here hx rfl (hb hby at_306) rfl rfl ?_
        show Steps _ _ _ (T663.setTop (mkF m 308 _ [(.ref g)])) _
        refine XS.iload X663.here hx rfl (hb hby at_308) rfl ?_
        refine st664.trans ?_
        show Steps _ _ _ (T664.setTop (mkF m 313 _ [(.int e0)])) _
        refine XS.aload X664.here hx rfl (hb hby at_313) rfl rfl ?_
        refine XS.iconst X664.here hx rfl (hb hby at_315) ?_
        show Steps _ _ _ (T664.setTop (mkF m 316 _ [(.int 0), (.ref e_), (.int e0)])) _
        refine X664.iaload hx (j := (0 : Int32)) (v := (.int e0)) (by rw [ei0]; exact Ar665.1) (State.isArrayOf_alike hZ.alike Ar665.2.1) Ar665.2.2 hin667 hat667 (g := (mkF m 316 #[iv p0, iv p1, iv p2, iv p3, .val (.long q4), .second, iv p5, iv 0, iv 2, iv pos, iv s0, iv s1, iv p5, rv g, rv old, rv olds, rv e_, rv es, iv 1, iv 0] [(.int 0), (.ref e_), (.int e0)])) rfl rfl (hb hby at_316) _ ?_
        refine XS.icmpNo X664.here hx rfl (hb hby at_317) rfl (teq (rfl : e0 = e0)).2 ?_
        show Steps _ _ _ (T664.setTop (mkF m 320 _ [])) _
        refine XS.iload X664.here hx rfl (hb hby at_320) rfl ?_
        refine XS.ifYes X664.here hx rfl (pc0 := 322) (pc' := 339) rfl (hb hby at_322) rfl ((if0 _ _).trans (teq (by decide : (0 : Int32) = (0 : Int32))).1) (by decide) (by decide) ?_
        show Steps _ _ _ (T664.setTop (mkF m 339 _ [])) _
        refine XS.iconst X664.here hx rfl (hb hby at_339) ?_
        refine XS.goto X664.here hx rfl (pc0 := 340) (pc' := 344) rfl (hb hby at_340) (by decide) (by decide) ?_
        show Steps _ _ _ (T664.setTop (mkF m 344 _ [(.int 1)])) _
        refine XS.istore X664.here hx rfl (hb hby at_344) rfl (l' := #[iv p0, iv p1, iv p2, iv p3, .val (.long q4), .second, iv p5, iv 0, iv 2, iv pos, iv s0, iv s1, iv p5, rv g, rv old, rv olds, rv e_, rv es, iv 1, iv 0]) rfl ?_
        show Steps _ _ _ (T664.setTop (mkF m 346 _ [])) _
        refine XS.iload X664.here hx rfl (hb hby at_346) rfl ?_
        refine XS.iconst X664.here hx rfl (hb hby at_348) ?_
        show Steps _ _ _ (T664.setTop (mkF m 349 _ [(.int 3), (.int 2)])) _
        refine XS.icmpYes X664.here hx rfl (pc0 := 349) (pc' := 401) rfl (hb hby at_349) rfl (tlt (by decide : (2 : Int32) < (3 : Int32))).1 (by decide) (by decide) ?_
        refine XS.iload X664.here hx rfl (hb hby at_401) rfl ?_
        show Steps _ _ _ (T664.setTop (mkF m 403 _ [(.int 1)])) _
        exact k)
      rw [hO] at go668
      obtain ⟨fs, hr, hrun, hended, hW, hsame⟩ := X664.leave (v := some (.int 1)) (fun h => by rw [Bd.returns] at h; cases h)
      refine ⟨_, _, go668 _ ?_, hrun, hended, _, _, rfl, ?_, ⟨_, rfl⟩, hW, hsame.mono (by decide) (by decide)⟩
      · exact retN X664 hx (t := .boolean) Bd.returns (by simp) (hb hby at_403) hr
      · show Q_law Z p0 p1 p2 p3 q4 p5 h0 n0 _ T664.heap _
        rw [ei0]
        exact ⟨rfl, N664⟩
    · obtain ⟨cq670, kq670, q670a, q670b, q670c⟩ := isOf hZ rfl HA1.1
      obtain ⟨_, _, ⟨T670, L670, k670, n670⟩, -, X670, ⟨Lc670, hQ670, l670, y670, z670⟩, st670⟩ := X109.virtualBack hx (y := (⟨"com/example/plebiscite/plebiscite/Adjacency", "add", "(II)V"⟩ : MethodName)) (z := (⟨"com/example/plebiscite/plebiscite/Adjacency", "add", "(II)V"⟩ : MethodName)) hown (mvT hZ (hw _ (List.mem_of_getElem? (i := 18) rfl))) (mvT hZ (hw _ (List.mem_of_getElem? (i := 19) rfl))) (notFace_of_selects (args := #[]) (mvT hZ (hw _ (List.mem_of_getElem? (i := 21) rfl)))) (mvT hZ (hw _ (List.mem_of_getElem? (i := 21) rfl))) (mvT hZ (hw _ (List.mem_of_getElem? (i := 20) rfl))) (by decide) (backOf (W := 0) (rm_adu l Z a0 hw [] g p2 st dg rm it k1 k2 k3 k4 (4 : Int32) [.int p1, .int (0 : Int32), .int (0 : Int32), .int (0 : Int32)] .null (1 : Int32) T109.heap n0 Z110 HA1 (by decide) ⟨by decide, by decide⟩ (Nat.le_of_ble_eq_true rfl)) hZ (hw _ (List.mem_of_getElem? (i := 22) rfl)) (hw _ (List.mem_of_getElem? (i := 2) rfl)) (by decide) (by decide)) q670a q670c (g := (mkF m 133 #[iv p0, iv p1, iv p2, iv p3, .val (.long q4), .second, iv p5, iv 0, iv 3, iv pos, iv s0, iv s1, iv p5, rv g, .unset, .unset, .unset, .unset, .unset, .unset] [(.int p2), (.int 0), (.ref g)])) rfl (by rw [hml]; rfl) (Steps.refl _) (argsL := [(.int 0), (.int p2)]) (rest := []) (lenOf pd_0 rfl) rfl (by show 2 * 0 + _ ≤ _; exact Nat.le_of_eq rfl) (hb hby at_133) (fun _ _ => ⟨rfl, rfl, (by decide : 5 + 0 ≤ _), (by decide : 17 + 0 ≤ _)⟩)
      dsimp only [Pt.U, Pt.locs, Pt.cells, Pt.slots] at X670 l670 y670 z670 st670 hQ670
      rw [l670, y670, z670] at X670
      obtain ⟨hv670, N670q, hA⟩ := hQ670
      rw [hv670] at st670
      have N670 := Fr.app N109 N670q
      have HA2 : own_A Z T670.heap n0 g st dg rm it k1 k2 k3 k4 (4 : Int32) [.int p1, .int p2, .int (0 : Int32), .int (0 : Int32)] .null (2 : Int32) (2 : Int32) (2 : Int32) (2 : Int32) (2 : Int32) := hA
      have Z671 := Nat.le_trans HA2.2.1 (Nat.le_of_lt HA2.1.lt)
      obtain ⟨cq672, kq672, q672a, q672b, q672c⟩ := isOf hZ rfl HA2.1
      obtain ⟨_, _, ⟨T672, L672, k672, n672⟩, -, X672, ⟨Lc672, hQ672, l672, y672, z672⟩, st672⟩ := X670.virtualBack hx (y := (⟨"com/example/plebiscite/plebiscite/Adjacency", "add", "(II)V"⟩ : MethodName)) (z := (⟨"com/example/plebiscite/plebiscite/Adjacency", "add", "(II)V"⟩ : MethodName)) hown (mvT hZ (hw _ (List.mem_of_getElem? (i := 18) rfl))) (mvT hZ (hw _ (List.mem_of_getElem? (i := 19) rfl))) (notFace_of_selects (args := #[]) (mvT hZ (hw _ (List.mem_of_getElem? (i := 21) rfl)))) (mvT hZ (hw _ (List.mem_of_getElem? (i := 21) rfl))) (mvT hZ (hw _ (List.mem_of_getElem? (i := 20) rfl))) (by decide) (backOf (W := 0) (rm_adu l Z a0 hw [] g p3 st dg rm it k1 k2 k3 k4 (4 : Int32) [.int p1, .int p2, .int (0 : Int32), .int (0 : Int32)] .null (2 : Int32) T670.heap n0 Z671 HA2 (by decide) ⟨by decide, by decide⟩ (Nat.le_of_ble_eq_true rfl)) hZ (hw _ (List.mem_of_getElem? (i := 22) rfl)) (hw _ (List.mem_of_getElem? (i := 2) rfl)) (by decide) (by decide)) q672a q672c (g := (mkF m 146 #[iv p0, iv p1, iv p2, iv p3, .val (.long q4), .second, iv p5, iv 0, iv 3, iv pos, iv s0, iv s1, iv p5, rv g, .unset, .unset, .unset, .unset, .unset, .unset] [(.int p3), (.int 0), (.ref g)])) rfl (by rw [hml]; rfl) (Steps.refl _) (argsL := [(.int 0), (.int p3)]) (rest := []) (lenOf pd_0 rfl) rfl (by show 2 * 0 + _ ≤ _; exact Nat.le_of_eq rfl) (hb hby at_146) (fun _ _ => ⟨rfl, rfl, (by decide : 5 + 0 ≤ _), (by decide : 17 + 0 ≤ _)⟩)
      dsimp only [Pt.U, Pt.locs, Pt.cells, Pt.slots] at X672 l672 y672 z672 st672 hQ672
      rw [l672, y672, z672] at X672
      obtain ⟨hv672, N672q, hA⟩ := hQ672
      rw [hv672] at st672
      have N672 := Fr.app N670 N672q
      have HA3 : own_A Z T672.heap n0 g st dg rm it k1 k2 k3 k4 (4 : Int32) [.int p1, .int p2, .int p3, .int (0 : Int32)] .null (3 : Int32) (3 : Int32) (3 : Int32) (3 : Int32) (3 : Int32) := hA
      have Z673 := Nat.le_trans HA3.2.1 (Nat.le_of_lt HA3.1.lt)
      obtain ⟨cq674, kq674, q674a, q674b, q674c⟩ := isOf hZ rfl HA3.1
      obtain ⟨_, _, ⟨T674, L674, k674, n674⟩, -, X674, ⟨Lc674, hQ674, l674, y674, z674⟩, st674⟩ := X672.virtualBack hx (y := (⟨"com/example/plebiscite/plebiscite/Adjacency", "remove", "(II)V"⟩ : MethodName)) (z := (⟨"com/example/plebiscite/plebiscite/Adjacency", "remove", "(II)V"⟩ : MethodName)) hown (mvT hZ (hw _ (List.mem_of_getElem? (i := 47) rfl))) (mvT hZ (hw _ (List.mem_of_getElem? (i := 48) rfl))) (notFace_of_selects (args := #[]) (mvT hZ (hw _ (List.mem_of_getElem? (i := 50) rfl)))) (mvT hZ (hw _ (List.mem_of_getElem? (i := 50) rfl))) (mvT hZ (hw _ (List.mem_of_getElem? (i := 49) rfl))) (by decide) (backOf (W := 0) (rm_rmu l Z a0 hw [] g pos st dg rm it k1 k2 k3 k4 (4 : Int32) [.int p1, .int p2, .int p3, .int (0 : Int32)] (3 : Int32) p3 T672.heap n0 Z673 HA3 ⟨by decide, by decide⟩ rfl hpi.2.2.1 hpi.2.2.2.2.1) hZ (hw _ (List.mem_of_getElem? (i := 51) rfl)) (hw _ (List.mem_of_getElem? (i := 2) rfl)) (by decide) (by decide)) q674a q674c (g := (mkF m 154 #[iv p0, iv p1, iv p2, iv p3, .val (.long q4), .second, iv p5, iv 0, iv 3, iv pos, iv s0, iv s1, iv p5, rv g, .unset, .unset, .unset, .unset, .unset, .unset] [(.int pos), (.int 0), (.ref g)])) rfl (by rw [hml]; rfl) (Steps.refl _) (argsL := [(.int 0), (.int pos)]) (rest := []) (lenOf pd_0 rfl) rfl (by show 2 * 0 + _ ≤ _; exact Nat.le_of_eq rfl) (hb hby at_154) (fun _ _ => ⟨rfl, rfl, (by decide : 5 + 0 ≤ _), (by decide : 17 + 0 ≤ _)⟩)
      dsimp only [Pt.U, Pt.locs, Pt.cells, Pt.slots] at X674 l674 y674 z674 st674 hQ674
      rw [l674, y674, z674] at X674
      obtain ⟨hv674, N674q, hA⟩ := hQ674
      rw [hv674] at st674
      have N674 := Fr.app N672 N674q
      obtain ⟨e0, e1, e2, he, hi⟩ := own_sync3 pos p1 p2 p3 p3 [.int (0 : Int32)] hp
      have hA2 : own_A Z T674.heap n0 g st dg rm it k1 k2 k3 k4 (4 : Int32) [.int e0, .int e1, .int e2, .int (0 : Int32)] .null (2 : Int32) (3 : Int32) (3 : Int32) (3 : Int32) (2 : Int32) := hi ▸ hA
      obtain ⟨f0_, f1_, f2_, hf, hj⟩ := own_sync3 pos s0 s1 p5 p5 [.int (0 : Int32)] hp
      obtain ⟨AX_675, Ag0_675, Ag1_675, Ag2_675, Ag3_675, Ag4_675, AF0_675, AF1_675, AF2_675, AF3_675, AF4_675, AF5_675, AF6_675, AF7_675, AF8_675, AV0_675, AV1_675, AV2_675, AV3_675, AN0_675, AN1_675, AN2_675, AN3_675, AN4_675, AN5_675, AN6_675, AN7_675, AN8_675, AN9_675⟩ := hA2
      have Z676 := Nat.le_trans Ag0_675 (Nat.le_of_lt AX_675.lt)
      obtain ⟨T677, h677, k677, X677, e677, E677, A677, st677⟩ := newP X674 hx hZ (hw _ (List.mem_of_getElem? (i := 9) rfl)) rfl (g := (mkF m 158 #[iv p0, iv p1, iv p2, iv p3, .val (.long q4), .second, iv p5, iv 0, iv 3, iv pos, iv s0, iv s1, iv p5, rv g, .unset, .unset, .unset, .unset, .unset, .unset] [(.int 3)])) rfl (hb hby at_158) rfl (by decide) (cap := 3) (by decide) (by decide) (by decide) (by decide)
      obtain ⟨old, g677⟩ : ∃ z, z = T674.heap.size := ⟨_, rfl⟩
      have ne678 : g ≠ old := Nat.ne_of_lt (Nat.lt_of_lt_of_le AX_675.lt (Nat.le_of_eq g677.symm))
      have ne679 : st ≠ old := Nat.ne_of_lt (Nat.lt_of_lt_of_le AV0_675.lt (Nat.le_of_eq g677.symm))
      have ne680 : dg ≠ old := Nat.ne_of_lt (Nat.lt_of_lt_of_le AV1_675.lt (Nat.le_of_eq g677.symm))
      have ne681 : it ≠ old := Nat.ne_of_lt (Nat.lt_of_lt_of_le AV3_675.lt (Nat.le_of_eq g677.symm))
      have ge_old : n0 ≤ old := Nat.le_trans Z676 (Nat.le_of_eq g677.symm)
      rw [← g677] at A677 st677
      have f682 := AX_675.ext E677
      have f683 := AF0_675.ext E677
      have f684 := AF1_675.ext E677
      have f685 := AF3_675.ext E677
      have f686 := AF7_675.ext E677
      have f687 := AV0_675.ext E677
      have f688 := AV1_675.ext E677
      have f689 := AV3_675.ext E677
      have Z690 := Nat.le_trans Z676 E677.1
      have V_old_677 : Arv Z h677 old k677 .int (3 : Int32) [(.int 0), (.int 0), (.int 0)] (.int 0) := (Arv.new A677 (by decide)).pad (pad_rep [] (.int 0) 3)
      obtain ⟨cl691, Ar691, q691, S691, M691, Hs691, G691⟩ := V_old_677
      have f692 : Arv Z h677 old k677 .int (3 : Int32) [(.int 0), (.int 0), (.int 0)] (.int 0) := ⟨cl691, Ar691, q691, S691, M691, Hs691, G691⟩
      have hin693 : ¬ ((0 : Int32) < 0 ∨ cl691.slots.size ≤ ((0 : Int32)).toNatClampNeg) := inb_of S691 ⟨by decide, by decide⟩
      obtain ⟨T693, h693, X693, e693, W693, st693⟩ := stI X677 hx hZ e677 Ar691 (j := (0 : Int32)) hin693 (g := (mkF m 163 #[iv p0, iv p1, iv p2, iv p3, .val (.long q4), .second, iv p5, iv 0, iv 3, iv pos, iv s0, iv s1, iv p5, rv g, .unset, .unset, .unset, .unset, .unset, .unset] [(.int p1), (.int 0), (.ref old), (.ref old)])) rfl rfl (hb hby at_163)
      have f694 := f682.wr W693
      have f695 := f683.other W693 (Or.inl ne678)
      have f696 := f684.other W693 (Or.inl ne678)
      have f697 := f685.other W693 (Or.inl ne678)
      have f698 := f686.other W693 (Or.inl ne678)
      have f699 := f687.other W693 ne679
      have f700 := f688.other W693 ne680
      have f701 := f689.other W693 ne681
      have Z702 := Nat.le_trans Z690 (Keep.of_wr W693).1
      have V693 : Arv Z h693 old k677 .int (3 : Int32) [(.int p1), (.int 0), (.int 0)] (.int 0) := Arv.set Ar691 q691 S691 M691 Hs691 G691 rfl W693 0 rfl (Nat.le_of_ble_eq_true rfl)
      have N693 := Fr.snoc X693 N674 ge_old
      obtain ⟨cl703, Ar703, q703, S703, M703, Hs703, G703⟩ := V693
      have f704 : Arv Z h693 old k677 .int (3 : Int32) [(.int p1), (.int 0), (.int 0)] (.int 0) := ⟨cl703, Ar703, q703, S703, M703, Hs703, G703⟩
      have hin705 : ¬ ((1 : Int32) < 0 ∨ cl703.slots.size ≤ ((1 : Int32)).toNatClampNeg) := inb_of S703 ⟨by decide, by decide⟩
      obtain ⟨T705, h705, X705, e705, W705, st705⟩ := stI X693 hx hZ e693 Ar703 (j := (1 : Int32)) hin705 (g := (mkF m 167 #[iv p0, iv p1, iv p2, iv p3, .val (.long q4), .second, iv p5, iv 0, iv 3, iv pos, iv s0, iv s1, iv p5, rv g, .unset, .unset, .unset, .unset, .unset, .unset] [(.int p2), (.int 1), (.ref old), (.ref old)])) rfl rfl (hb hby at_167)
      have f706 := f694.wr W705
      have f707 := f695.other W705 (Or.inl ne678)
      have f708 := f696.other W705 (Or.inl ne678)
      have f709 := f697.other W705 (Or.inl ne678)
      have f710 := f698.other W705 (Or.inl ne678)
      have f711 := f699.other W705 ne679
      have f712 := f700.other W705 ne680
      have f713 := f701.other W705 ne681
      have Z714 := Nat.le_trans Z702 (Keep.of_wr W705).1
      have V705 : Arv Z h705 old k677 .int (3 : Int32) [(.int p1), (.int p2), (.int 0)] (.int 0) := Arv.set Ar703 q703 S703 M703 Hs703 G703 rfl W705 1 rfl (Nat.le_of_ble_eq_true rfl)
      have N705 := Fr.snoc X705 N693 ge_old
      obtain ⟨cl715, Ar715, q715, S715, M715, Hs715, G715⟩ := V705
      have f716 : Arv Z h705 old k677 .int (3 : Int32) [(.int p1), (.int p2), (.int 0)] (.int 0) := ⟨cl715, Ar715, q715, S715, M715, Hs715, G715⟩
      have hin717 : ¬ ((2 : Int32) < 0 ∨ cl715.slots.size ≤ ((2 : Int32)).toNatClampNeg) := inb_of S715 ⟨by decide, by decide⟩
      obtain ⟨T717, h717, X717, e717, W717, st717⟩ := stI X705 hx hZ e705 Ar715 (j := (2 : Int32)) hin717 (g := (mkF m 171 #[iv p0, iv p1, iv p2, iv p3, .val (.long q4), .second, iv p5, iv 0, iv 3, iv pos, iv s0, iv s1, iv p5, rv g, .unset, .unset, .unset, .unset, .unset, .unset] [(.int p3), (.int 2), (.ref old), (.ref old)])) rfl rfl (hb hby at_171)
      have f718 := f706.wr W717
      have f719 := f707.other W717 (Or.inl ne678)
      have f720 := f708.other W717 (Or.inl ne678)
      have f721 := f709.other W717 (Or.inl ne678)
      have f722 := f710.other W717 (Or.inl ne678)
      have f723 := f711.other W717 ne679
      have f724 := f712.other W717 ne680
      have f725 := f713.other W717 ne681
      have Z726 := Nat.le_trans Z714 (Keep.of_wr W717).1
      have V717 : Arv Z h717 old k677 .int (3 : Int32) [(.int p1), (.int p2), (.int p3)] (.int 0) := Arv.set Ar715 q715 S715 M715 Hs715 G715 rfl W717 2 rfl (Nat.le_of_ble_eq_true rfl)
      have N717 := Fr.snoc X717 N705 ge_old
      obtain ⟨T727, h727, k727, X727, e727, E727, A727, st727⟩ := newP X717 hx hZ (hw _ (List.mem_of_getElem? (i := 9) rfl)) e717 (g := (mkF m 175 #[iv p0, iv p1, iv p2, iv p3, .val (.long q4), .second, iv p5, iv 0, iv 3, iv pos, iv s0, iv s1, iv p5, rv g, rv old, .unset, .unset, .unset, .unset, .unset] [(.int 3)])) rfl (hb hby at_175) rfl (by decide) (cap := 3) (by decide) (by decide) (by decide) (by decide)
      obtain ⟨olds, g727⟩ : ∃ z, z = h717.size := ⟨_, rfl⟩
      have ne728 : g ≠ olds := Nat.ne_of_lt (Nat.lt_of_lt_of_le f718.lt (Nat.le_of_eq g727.symm))
      have ne729 : st ≠ olds := Nat.ne_of_lt (Nat.lt_of_lt_of_le f723.lt (Nat.le_of_eq g727.symm))
      have ne730 : dg ≠ olds := Nat.ne_of_lt (Nat.lt_of_lt_of_le f724.lt (Nat.le_of_eq g727.symm))
      have ne731 : it ≠ olds := Nat.ne_of_lt (Nat.lt_of_lt_of_le f725.lt (Nat.le_of_eq g727.symm))
      have ne732 : old ≠ olds := Nat.ne_of_lt (Nat.lt_of_lt_of_le V717.lt (Nat.le_of_eq g727.symm))
      have ge_olds : n0 ≤ olds := Nat.le_trans Z726 (Nat.le_of_eq g727.symm)
      rw [← g727] at A727 st727
      have f733 := f718.ext E727
      have f734 := f719.ext E727
      have f735 := f720.ext E727
      have f736 := f721.ext E727
      have f737 := f722.ext E727
      have f738 := f723.ext E727
      have f739 := f724.ext E727
      have f740 := f725.ext E727
      have f741 := V717.ext E727
      have Z742 := Nat.le_trans Z726 E727.1
      have V_olds_727 : Arv Z h727 olds k727 .int (3 : Int32) [(.int 0), (.int 0), (.int 0)] (.int 0) := (Arv.new A727 (by decide)).pad (pad_rep [] (.int 0) 3)
      obtain ⟨cl743, Ar743, q743, S743, M743, Hs743, G743⟩ := V_olds_727
      have f744 : Arv Z h727 olds k727 .int (3 : Int32) [(.int 0), (.int 0), (.int 0)] (.int 0) := ⟨cl743, Ar743, q743, S743, M743, Hs743, G743⟩
      have hin745 : ¬ ((0 : Int32) < 0 ∨ cl743.slots.size ≤ ((0 : Int32)).toNatClampNeg) := inb_of S743 ⟨by decide, by decide⟩
      obtain ⟨T745, h745, X745, e745, W745, st745⟩ := stI X727 hx hZ e727 Ar743 (j := (0 : Int32)) hin745 (g := (mkF m 181 #[iv p0, iv p1, iv p2, iv p3, .val (.long q4), .second, iv p5, iv 0, iv 3, iv pos, iv s0, iv s1, iv p5, rv g, rv old, .unset, .unset, .unset, .unset, .unset] [(.int s0), (.int 0), (.ref olds), (.ref olds)])) rfl rfl (hb hby at_181)
      have f746 := f733.wr W745
      have f747 := f734.other W745 (Or.inl ne728)
      have f748 := f735.other W745 (Or.inl ne728)
      have f749 := f736.other W745 (Or.inl ne728)
      have f750 := f737.other W745 (Or.inl ne728)
      have f751 := f738.other W745 ne729
      have f752 := f739.other W745 ne730
      have f753 := f740.other W745 ne731
      have f754 := f741.other W745 ne732
      have Z755 := Nat.le_trans Z742 (Keep.of_wr W745).1
      have V745 : Arv Z h745 olds k727 .int (3 : Int32) [(.int s0), (.int 0), (.int 0)] (.int 0) := Arv.set Ar743 q743 S743 M743 Hs743 G743 rfl W745 0 rfl (Nat.le_of_ble_eq_true rfl)
      have N745 := Fr.snoc X745 N717 ge_olds
      obtain ⟨cl756, Ar756, q756, S756, M756, Hs756, G756⟩ := V745
      have f757 : Arv Z h745 olds k727 .int (3 : Int32) [(.int s0), (.int 0), (.int 0)] (.int 0) := ⟨cl756, Ar756, q756, S756, M756, Hs756, G756⟩
      have hin758 : ¬ ((1 : Int32) < 0 ∨ cl756.slots.size ≤ ((1 : Int32)).toNatClampNeg) := inb_of S756 ⟨by decide, by decide⟩
      obtain ⟨T758, h758, X758, e758, W758, st758⟩ := stI X745 hx hZ e745 Ar756 (j := (1 : Int32)) hin758 (g := (mkF m 186 #[iv p0, iv p1, iv p2, iv p3, .val (.long q4), .second, iv p5, iv 0, iv 3, iv pos, iv s0, iv s1, iv p5, rv g, rv old, .unset, .unset, .unset, .unset, .unset] [(.int s1), (.int 1), (.ref olds), (.ref olds)])) rfl rfl (hb hby at_186)
      have f759 := f746.wr W758
      have f760 := f747.other W758 (Or.inl ne728)
      have f761 := f748.other W758 (Or.inl ne728)
      have f762 := f749.other W758 (Or.inl ne728)
      have f763 := f750.other W758 (Or.inl ne728)
      have f764 := f751.other W758 ne729
      have f765 := f752.other W758 ne730
      have f766 := f753.other W758 ne731
      have f767 := f754.other W758 ne732
      have Z768 := Nat.le_trans Z755 (Keep.of_wr W758).1
      have V758 : Arv Z h758 olds k727 .int (3 : Int32) [(.int s0), (.int s1), (.int 0)] (.int 0) := Arv.set Ar756 q756 S756 M756 Hs756 G756 rfl W758 1 rfl (Nat.le_of_ble_eq_true rfl)
      have N758 := Fr.snoc X758 N745 ge_olds
      obtain ⟨cl769, Ar769, q769, S769, M769, Hs769, G769⟩ := V758
      have f770 : Arv Z h758 olds k727 .int (3 : Int32) [(.int s0), (.int s1), (.int 0)] (.int 0) := ⟨cl769, Ar769, q769, S769, M769, Hs769, G769⟩
      have hin771 : ¬ ((2 : Int32) < 0 ∨ cl769.slots.size ≤ ((2 : Int32)).toNatClampNeg) := inb_of S769 ⟨by decide, by decide⟩
      obtain ⟨T771, h771, X771, e771, W771, st771⟩ := stI X758 hx hZ e758 Ar769 (j := (2 : Int32)) hin771 (g := (mkF m 191 #[iv p0, iv p1, iv p2, iv p3, .val (.long q4), .second, iv p5, iv 0, iv 3, iv pos, iv s0, iv s1, iv p5, rv g, rv old, .unset, .unset, .unset, .unset, .unset] [(.int p5), (.int 2), (.ref olds), (.ref olds)])) rfl rfl (hb hby at_191)
      have f772 := f759.wr W771
      have f773 := f760.other W771 (Or.inl ne728)
      have f774 := f761.other W771 (Or.inl ne728)
      have f775 := f762.other W771 (Or.inl ne728)
      have f776 := f763.other W771 (Or.inl ne728)
      have f777 := f764.other W771 ne729
      have f778 := f765.other W771 ne730
      have f779 := f766.other W771 ne731
      have f780 := f767.other W771 ne732
      have Z781 := Nat.le_trans Z768 (Keep.of_wr W771).1
      have V771 : Arv Z h771 olds k727 .int (3 : Int32) [(.int s0), (.int s1), (.int p5)] (.int 0) := Arv.set Ar769 q769 S769 M769 Hs769 G769 rfl W771 2 rfl (Nat.le_of_ble_eq_true rfl)
      have N771 := Fr.snoc X771 N758 ge_olds
      obtain ⟨T782, h782, k782, X782, e782, E782, A782, st782⟩ := newP X771 hx hZ (hw _ (List.mem_of_getElem? (i := 9) rfl)) e771 (g := (mkF m 195 #[iv p0, iv p1, iv p2, iv p3, .val (.long q4), .second, iv p5, iv 0, iv 3, iv pos, iv s0, iv s1, iv p5, rv g, rv old, rv olds, .unset, .unset, .unset, .unset] [(.int 3)])) rfl (hb hby at_195) rfl (by decide) (cap := 3) (by decide) (by decide) (by decide) (by decide)
      obtain ⟨e_, g782⟩ : ∃ z, z = h771.size := ⟨_, rfl⟩
      have ne783 : g ≠ e_ := Nat.ne_of_lt (Nat.lt_of_lt_of_le f772.lt (Nat.le_of_eq g782.symm))
      have ne784 : st ≠ e_ := Nat.ne_of_lt (Nat.lt_of_lt_of_le f777.lt (Nat.le_of_eq g782.symm))
      have ne785 : dg ≠ e_ := Nat.ne_of_lt (Nat.lt_of_lt_of_le f778.lt (Nat.le_of_eq g782.symm))
      have ne786 : it ≠ e_ := Nat.ne_of_lt (Nat.lt_of_lt_of_le f779.lt (Nat.le_of_eq g782.symm))
      have ne787 : old ≠ e_ := Nat.ne_of_lt (Nat.lt_of_lt_of_le f780.lt (Nat.le_of_eq g782.symm))
      have ne788 : olds ≠ e_ := Nat.ne_of_lt (Nat.lt_of_lt_of_le V771.lt (Nat.le_of_eq g782.symm))
      have ge_e_ : n0 ≤ e_ := Nat.le_trans Z781 (Nat.le_of_eq g782.symm)
      rw [← g782] at A782 st782
      have f789 := f772.ext E782
      have f790 := f773.ext E782
      have f791 := f774.ext E782
      have f792 := f775.ext E782
      have f793 := f776.ext E782
      have f794 := f777.ext E782
      have f795 := f778.ext E782
      have f796 := f779.ext E782
      have f797 := f780.ext E782
      have f798 := V771.ext E782
      have Z799 := Nat.le_trans Z781 E782.1
      have V_e__782 : Arv Z h782 e_ k782 .int (3 : Int32) [(.int 0), (.int 0), (.int 0)] (.int 0) := (Arv.new A782 (by decide)).pad (pad_rep [] (.int 0) 3)
      obtain ⟨cl800, Ar800, q800, S800, M800, Hs800, G800⟩ := V_e__782
      have f801 : Arv Z h782 e_ k782 .int (3 : Int32) [(.int 0), (.int 0), (.int 0)] (.int 0) := ⟨cl800, Ar800, q800, S800, M800, Hs800, G800⟩
      have hin802 : ¬ ((0 : Int32) < 0 ∨ cl800.slots.size ≤ ((0 : Int32)).toNatClampNeg) := inb_of S800 ⟨by decide, by decide⟩
      obtain ⟨T802, h802, X802, e802, W802, st802⟩ := stI X782 hx hZ e782 Ar800 (j := (0 : Int32)) hin802 (g := (mkF m 200 #[iv p0, iv p1, iv p2, iv p3, .val (.long q4), .second, iv p5, iv 0, iv 3, iv pos, iv s0, iv s1, iv p5, rv g, rv old, rv olds, .unset, .unset, .unset, .unset] [(.int p1), (.int 0), (.ref e_), (.ref e_)])) rfl rfl (hb hby at_200)
      have f803 := f789.wr W802
      have f804 := f790.other W802 (Or.inl ne783)
      have f805 := f791.other W802 (Or.inl ne783)
      have f806 := f792.other W802 (Or.inl ne783)
      have f807 := f793.other W802 (Or.inl ne783)
      have f808 := f794.other W802 ne784
      have f809 := f795.other W802 ne785
      have f810 := f796.other W802 ne786
      have f811 := f797.other W802 ne787
      have f812 := f798.other W802 ne788
      have Z813 := Nat.le_trans Z799 (Keep.of_wr W802).1
      have V802 : Arv Z h802 e_ k782 .int (3 : Int32) [(.int p1), (.int 0), (.int 0)] (.int 0) := Arv.set Ar800 q800 S800 M800 Hs800 G800 rfl W802 0 rfl (Nat.le_of_ble_eq_true rfl)
      have N802 := Fr.snoc X802 N771 ge_e_
      obtain ⟨cl814, Ar814, q814, S814, M814, Hs814, G814⟩ := V802
      have f815 : Arv Z h802 e_ k782 .int (3 : Int32) [(.int p1), (.int 0), (.int 0)] (.int 0) := ⟨cl814, Ar814, q814, S814, M814, Hs814, G814⟩
      have hin816 : ¬ ((1 : Int32) < 0 ∨ cl814.slots.size ≤ ((1 : Int32)).toNatClampNeg) := inb_of S814 ⟨by decide, by decide⟩
      obtain ⟨T816, h816, X816, e816, W816, st816⟩ := stI X802 hx hZ e802 Ar814 (j := (1 : Int32)) hin816 (g := (mkF m 204 #[iv p0, iv p1, iv p2, iv p3, .val (.long q4), .second, iv p5, iv 0, iv 3, iv pos, iv s0, iv s1, iv p5, rv g, rv old, rv olds, .unset, .unset, .unset, .unset] [(.int p2), (.int 1), (.ref e_), (.ref e_)])) rfl rfl (hb hby at_204)
      have f817 := f803.wr W816
      have f818 := f804.other W816 (Or.inl ne783)
      have f819 := f805.other W816 (Or.inl ne783)
      have f820 := f806.other W816 (Or.inl ne783)
      have f821 := f807.other W816 (Or.inl ne783)
      have f822 := f808.other W816 ne784
      have f823 := f809.other W816 ne785
      have f824 := f810.other W816 ne786
      have f825 := f811.other W816 ne787
      have f826 := f812.other W816 ne788
      have Z827 := Nat.le_trans Z813 (Keep.of_wr W816).1
      have V816 : Arv Z h816 e_ k782 .int (3 : Int32) [(.int p1), (.int p2), (.int 0)] (.int 0) := Arv.set Ar814 q814 S814 M814 Hs814 G814 rfl W816 1 rfl (Nat.le_of_ble_eq_true rfl)
      have N816 := Fr.snoc X816 N802 ge_e_
      obtain ⟨cl828, Ar828, q828, S828, M828, Hs828, G828⟩ := V816
      have f829 : Arv Z h816 e_ k782 .int (3 : Int32) [(.int p1), (.int p2), (.int 0)] (.int 0) := ⟨cl828, Ar828, q828, S828, M828, Hs828, G828⟩
      have hin830 : ¬ ((2 : Int32) < 0 ∨ cl828.slots.size ≤ ((2 : Int32)).toNatClampNeg) := inb_of S828 ⟨by decide, by decide⟩
      obtain ⟨T830, h830, X830, e830, W830, st830⟩ := stI X816 hx hZ e816 Ar828 (j := (2 : Int32)) hin830 (g := (mkF m 208 #[iv p0, iv p1, iv p2, iv p3, .val (.long q4), .second, iv p5, iv 0, iv 3, iv pos, iv s0, iv s1, iv p5, rv g, rv old, rv olds, .unset, .unset, .unset, .unset] [(.int p3), (.int 2), (.ref e_), (.ref e_)])) rfl rfl (hb hby at_208)
      have f831 := f817.wr W830
      have f832 := f818.other W830 (Or.inl ne783)
      have f833 := f819.other W830 (Or.inl ne783)
      have f834 := f820.other W830 (Or.inl ne783)
      have f835 := f821.other W830 (Or.inl ne783)
      have f836 := f822.other W830 ne784
      have f837 := f823.other W830 ne785
      have f838 := f824.other W830 ne786
      have f839 := f825.other W830 ne787
      have f840 := f826.other W830 ne788
      have Z841 := Nat.le_trans Z827 (Keep.of_wr W830).1
      have V830 : Arv Z h830 e_ k782 .int (3 : Int32) [(.int p1), (.int p2), (.int p3)] (.int 0) := Arv.set Ar828 q828 S828 M828 Hs828 G828 rfl W830 2 rfl (Nat.le_of_ble_eq_true rfl)
      have N830 := Fr.snoc X830 N816 ge_e_
      obtain ⟨T842, h842, k842, X842, e842, E842, A842, st842⟩ := newP X830 hx hZ (hw _ (List.mem_of_getElem? (i := 9) rfl)) e830 (g := (mkF m 212 #[iv p0, iv p1, iv p2, iv p3, .val (.long q4), .second, iv p5, iv 0, iv 3, iv pos, iv s0, iv s1, iv p5, rv g, rv old, rv olds, rv e_, .unset, .unset, .unset] [(.int 3)])) rfl (hb hby at_212) rfl (by decide) (cap := 3) (by decide) (by decide) (by decide) (by decide)
      obtain ⟨es, g842⟩ : ∃ z, z = h830.size := ⟨_, rfl⟩
      have ne843 : g ≠ es := Nat.ne_of_lt (Nat.lt_of_lt_of_le f831.lt (Nat.le_of_eq g842.symm))
      have ne844 : st ≠ es := Nat.ne_of_lt (Nat.lt_of_lt_of_le f836.lt (Nat.le_of_eq g842.symm))
      have ne845 : dg ≠ es := Nat.ne_of_lt (Nat.lt_of_lt_of_le f837.lt (Nat.le_of_eq g842.symm))
      have ne846 : it ≠ es := Nat.ne_of_lt (Nat.lt_of_lt_of_le f838.lt (Nat.le_of_eq g842.symm))
      have ne847 : old ≠ es := Nat.ne_of_lt (Nat.lt_of_lt_of_le f839.lt (Nat.le_of_eq g842.symm))
      have ne848 : olds ≠ es := Nat.ne_of_lt (Nat.lt_of_lt_of_le f840.lt (Nat.le_of_eq g842.symm))
      have ne849 : e_ ≠ es := Nat.ne_of_lt (Nat.lt_of_lt_of_le V830.lt (Nat.le_of_eq g842.symm))
      have ge_es : n0 ≤ es := Nat.le_trans Z841 (Nat.le_of_eq g842.symm)
      rw [← g842] at A842 st842
      have f850 := f831.ext E842
      have f851 := f832.ext E842
      have f852 := f833.ext E842
      have f853 := f834.ext E842
      have f854 := f835.ext E842
      have f855 := f836.ext E842
      have f856 := f837.ext E842
      have f857 := f838.ext E842
      have f858 := f839.ext E842
      have f859 := f840.ext E842
      have f860 := V830.ext E842
      have Z861 := Nat.le_trans Z841 E842.1
      have V_es_842 : Arv Z h842 es k842 .int (3 : Int32) [(.int 0), (.int 0), (.int 0)] (.int 0) := (Arv.new A842 (by decide)).pad (pad_rep [] (.int 0) 3)
      obtain ⟨cl862, Ar862, q862, S862, M862, Hs862, G862⟩ := V_es_842
      have f863 : Arv Z h842 es k842 .int (3 : Int32) [(.int 0), (.int 0), (.int 0)] (.int 0) := ⟨cl862, Ar862, q862, S862, M862, Hs862, G862⟩
      have hin864 : ¬ ((0 : Int32) < 0 ∨ cl862.slots.size ≤ ((0 : Int32)).toNatClampNeg) := inb_of S862 ⟨by decide, by decide⟩
      obtain ⟨T864, h864, X864, e864, W864, st864⟩ := stI X842 hx hZ e842 Ar862 (j := (0 : Int32)) hin864 (g := (mkF m 218 #[iv p0, iv p1, iv p2, iv p3, .val (.long q4), .second, iv p5, iv 0, iv 3, iv pos, iv s0, iv s1, iv p5, rv g, rv old, rv olds, rv e_, .unset, .unset, .unset] [(.int s0), (.int 0), (.ref es), (.ref es)])) rfl rfl (hb hby at_218)
      have f865 := f850.wr W864
      have f866 := f851.other W864 (Or.inl ne843)
      have f867 := f852.other W864 (Or.inl ne843)
      have f868 := f853.other W864 (Or.inl ne843)
      have f869 := f854.other W864 (Or.inl ne843)
      have f870 := f855.other W864 ne844
      have f871 := f856.other W864 ne845
      have f872 := f857.other W864 ne846
      have f873 := f858.other W864 ne847
      have f874 := f859.other W864 ne848
      have f875 := f860.other W864 ne849
      have Z876 := Nat.le_trans Z861 (Keep.of_wr W864).1
      have V864 : Arv Z h864 es k842 .int (3 : Int32) [(.int s0), (.int 0), (.int 0)] (.int 0) := Arv.set Ar862 q862 S862 M862 Hs862 G862 rfl W864 0 rfl (Nat.le_of_ble_eq_true rfl)
      have N864 := Fr.snoc X864 N830 ge_es
      obtain ⟨cl877, Ar877, q877, S877, M877, Hs877, G877⟩ := V864
      have f878 : Arv Z h864 es k842 .int (3 : Int32) [(.int s0), (.int 0), (.int 0)] (.int 0) := ⟨cl877, Ar877, q877, S877, M877, Hs877, G877⟩
      have hin879 : ¬ ((1 : Int32) < 0 ∨ cl877.slots.size ≤ ((1 : Int32)).toNatClampNeg) := inb_of S877 ⟨by decide, by decide⟩
      obtain ⟨T879, h879, X879, e879, W879, st879⟩ := stI X864 hx hZ e864 Ar877 (j := (1 : Int32)) hin879 (g := (mkF m 223 #[iv p0, iv p1, iv p2, iv p3, .val (.long q4), .second, iv p5, iv 0, iv 3, iv pos, iv s0, iv s1, iv p5, rv g, rv old, rv olds, rv e_, .unset, .unset, .unset] [(.int s1), (.int 1), (.ref es), (.ref es)])) rfl rfl (hb hby at_223)
      have f880 := f865.wr W879
      have f881 := f866.other W879 (Or.inl ne843)
      have f882 := f867.other W879 (Or.inl ne843)
      have f883 := f868.other W879 (Or.inl ne843)
      have f884 := f869.other W879 (Or.inl ne843)
      have f885 := f870.other W879 ne844
      have f886 := f871.other W879 ne845
      have f887 := f872.other W879 ne846
      have f888 := f873.other W879 ne847
      have f889 := f874.other W879 ne848
      have f890 := f875.other W879 ne849
      have Z891 := Nat.le_trans Z876 (Keep.of_wr W879).1
      have V879 : Arv Z h879 es k842 .int (3 : Int32) [(.int s0), (.int s1), (.int 0)] (.int 0) := Arv.set Ar877 q877 S877 M877 Hs877 G877 rfl W879 1 rfl (Nat.le_of_ble_eq_true rfl)
      have N879 := Fr.snoc X879 N864 ge_es
      obtain ⟨cl892, Ar892, q892, S892, M892, Hs892, G892⟩ := V879
      have f893 : Arv Z h879 es k842 .int (3 : Int32) [(.int s0), (.int s1), (.int 0)] (.int 0) := ⟨cl892, Ar892, q892, S892, M892, Hs892, G892⟩
      have hin894 : ¬ ((2 : Int32) < 0 ∨ cl892.slots.size ≤ ((2 : Int32)).toNatClampNeg) := inb_of S892 ⟨by decide, by decide⟩
      obtain ⟨T894, h894, X894, e894, W894, st894⟩ := stI X879 hx hZ e879 Ar892 (j := (2 : Int32)) hin894 (g := (mkF m 228 #[iv p0, iv p1, iv p2, iv p3, .val (.long q4), .second, iv p5, iv 0, iv 3, iv pos, iv s0, iv s1, iv p5, rv g, rv old, rv olds, rv e_, .unset, .unset, .unset] [(.int p5), (.int 2), (.ref es), (.ref es)])) rfl rfl (hb hby at_228)
      have f895 := f880.wr W894
      have f896 := f881.other W894 (Or.inl ne843)
      have f897 := f882.other W894 (Or.inl ne843)
      have f898 := f883.other W894 (Or.inl ne843)
      have f899 := f884.other W894 (Or.inl ne843)
      have f900 := f885.other W894 ne844
      have f901 := f886.other W894 ne845
      have f902 := f887.other W894 ne846
      have f903 := f888.other W894 ne847
      have f904 := f889.other W894 ne848
      have f905 := f890.other W894 ne849
      have Z906 := Nat.le_trans Z891 (Keep.of_wr W894).1
      have V894 : Arv Z h894 es k842 .int (3 : Int32) [(.int s0), (.int s1), (.int p5)] (.int 0) := Arv.set Ar892 q892 S892 M892 Hs892 G892 rfl W894 2 rfl (Nat.le_of_ble_eq_true rfl)
      have N894 := Fr.snoc X894 N879 ge_es
      obtain ⟨cl907, Ar907, q907, S907, M907, Hs907, G907⟩ := f903
      have f908 : Arv Z h894 old k677 .int (3 : Int32) [(.int p1), (.int p2), (.int p3)] (.int 0) := ⟨cl907, Ar907, q907, S907, M907, Hs907, G907⟩
      have hin909 : ¬ (((3 : Int32) - (1 : Int32)) < 0 ∨ cl907.slots.size ≤ (((3 : Int32) - (1 : Int32))).toNatClampNeg) := inb_of S907 ⟨by decide, by decide⟩
      have hat909 : cl907.slots[(((3 : Int32) - (1 : Int32))).toNatClampNeg]? = some (.int p3) := Hs907.at hin909 rfl
      obtain ⟨cl910, Ar910, q910, S910, M910, Hs910, G910⟩ := f905
      have f911 : Arv Z h894 e_ k782 .int (3 : Int32) [(.int p1), (.int p2), (.int p3)] (.int 0) := ⟨cl910, Ar910, q910, S910, M910, Hs910, G910⟩
      have hin912 : ¬ (pos < 0 ∨ cl910.slots.size ≤ (pos).toNatClampNeg) := inb_of S910 hpi.1
      obtain ⟨T912, h912, X912, e912, W912, st912⟩ := stI X894 hx hZ e894 Ar910 (j := pos) hin912 (g := (mkF m 242 #[iv p0, iv p1, iv p2, iv p3, .val (.long q4), .second, iv p5, iv 0, iv 3, iv pos, iv s0, iv s1, iv p5, rv g, rv old, rv olds, rv e_, rv es, .unset, .unset] [(.int p3), (.int pos), (.ref e_)])) rfl rfl (hb hby at_242)
      have f913 := f895.wr W912
      have f914 := f896.other W912 (Or.inl ne783)
      have f915 := f897.other W912 (Or.inl ne783)
      have f916 := f898.other W912 (Or.inl ne783)
      have f917 := f899.other W912 (Or.inl ne783)
      have f918 := f900.other W912 ne784
      have f919 := f901.other W912 ne785
      have f920 := f902.other W912 ne786
      have f921 := f908.other W912 ne787
      have f922 := f904.other W912 ne788
      have f923 := V894.other W912 (Ne.symm ne849)
      have Z924 := Nat.le_trans Z906 (Keep.of_wr W912).1
      have V912 : Arv Z h912 e_ k782 .int (3 : Int32) ([(.int p1), (.int p2), (.int p3)].set (pos).toNatClampNeg (.int p3)) (.int 0) := Arv.set Ar910 q910 S910 M910 Hs910 G910 rfl W912 (pos).toNatClampNeg rfl hpi.2.1
      have N912 := Fr.snoc X912 N894 ge_e_
      have f925 : Arv Z h912 e_ k782 .int (3 : Int32) [(.int e0), (.int e1), (.int e2)] (.int (0 : Int32)) := he ▸ V912
      obtain ⟨cl926, Ar926, q926, S926, M926, Hs926, G926⟩ := f922
      have f927 : Arv Z h912 olds k727 .int (3 : Int32) [(.int s0), (.int s1), (.int p5)] (.int 0) := ⟨cl926, Ar926, q926, S926, M926, Hs926, G926⟩
      have hin928 : ¬ (((3 : Int32) - (1 : Int32)) < 0 ∨ cl926.slots.size ≤ (((3 : Int32) - (1 : Int32))).toNatClampNeg) := inb_of S926 ⟨by decide, by decide⟩
      have hat928 : cl926.slots[(((3 : Int32) - (1 : Int32))).toNatClampNeg]? = some (.int p5) := Hs926.at hin928 rfl
      obtain ⟨cl929, Ar929, q929, S929, M929, Hs929, G929⟩ := f923
      have f930 : Arv Z h912 es k842 .int (3 : Int32) [(.int s0), (.int s1), (.int p5)] (.int 0) := ⟨cl929, Ar929, q929, S929, M929, Hs929, G929⟩
      have hin931 : ¬ (pos < 0 ∨ cl929.slots.size ≤ (pos).toNatClampNeg) := inb_of S929 hpi.1
      obtain ⟨T931, h931, X931, e931, W931, st931⟩ := stI X912 hx hZ e912 Ar929 (j := pos) hin931 (g := (mkF m 254 #[iv p0, iv p1, iv p2, iv p3, .val (.long q4), .second, iv p5, iv 0, iv 3, iv pos, iv s0, iv s1, iv p5, rv g, rv old, rv olds, rv e_, rv es, .unset, .unset] [(.int p5), (.int pos), (.ref es)])) rfl rfl (hb hby at_254)
      have f932 := f913.wr W931
      have f933 := f914.other W931 (Or.inl ne843)
      have f934 := f915.other W931 (Or.inl ne843)
      have f935 := f916.other W931 (Or.inl ne843)
      have f936 := f917.other W931 (Or.inl ne843)
      have f937 := f918.other W931 ne844
      have f938 := f919.other W931 ne845
      have f939 := f920.other W931 ne846
      have f940 := f921.other W931 ne847
      have f941 := f927.other W931 ne848
      have f942 := f925.other W931 ne849
      have Z943 := Nat.le_trans Z924 (Keep.of_wr W931).1
      have V931 : Arv Z h931 es k842 .int (3 : Int32) ([(.int s0), (.int s1), (.int p5)].set (pos).toNatClampNeg (.int p5)) (.int 0) := Arv.set Ar929 q929 S929 M929 Hs929 G929 rfl W931 (pos).toNatClampNeg rfl hpi.2.1
      have N931 := Fr.snoc X931 N912 ge_es
      have f944 : Arv Z h931 es k842 .int (3 : Int32) [(.int f0_), (.int f1_), (.int f2_)] (.int (0 : Int32)) := hf ▸ V931
      obtain ⟨cq945, kq945, q945a, q945b, q945c⟩ := isOf hZ e931 f932
      obtain ⟨_, _, ⟨T945, L945, k945, n945⟩, -, X945, ⟨Lc945, hQ945, l945, y945, z945⟩, st945⟩ := X931.virtualBack hx (y := (⟨"com/example/plebiscite/plebiscite/Adjacency", "degree", "(I)I"⟩ : MethodName)) (z := (⟨"com/example/plebiscite/plebiscite/Adjacency", "degree", "(I)I"⟩ : MethodName)) hown (mvT hZ (hw _ (List.mem_of_getElem? (i := 54) rfl))) (mvT hZ (hw _ (List.mem_of_getElem? (i := 55) rfl))) (notFace_of_selects (args := #[]) (mvT hZ (hw _ (List.mem_of_getElem? (i := 57) rfl)))) (mvT hZ (hw _ (List.mem_of_getElem? (i := 57) rfl))) (mvT hZ (hw _ (List.mem_of_getElem? (i := 56) rfl))) (by decide) (backOf (W := 0) (rm_dgr l Z a0 hw [] g dg k2 (2 : Int32) h931 n0 Z943 f934 f938) hZ (hw _ (List.mem_of_getElem? (i := 58) rfl)) (hw _ (List.mem_of_getElem? (i := 2) rfl)) (by decide) (by decide)) q945a q945c (g := (mkF m 258 #[iv p0, iv p1, iv p2, iv p3, .val (.long q4), .second, iv p5, iv 0, iv 3, iv pos, iv s0, iv s1, iv p5, rv g, rv old, rv olds, rv e_, rv es, .unset, .unset] [(.int 0), (.ref g)])) rfl (by rw [hml]; rfl) (Steps.refl _) (argsL := [(.int 0)]) (rest := []) (lenOf pd_4 rfl) rfl (by show 2 * 0 + _ ≤ _; exact Nat.le_of_eq rfl) (hb hby at_258) (fun _ _ => ⟨rfl, e931, (by decide : 9 + 0 ≤ _), (by decide : 29 + 0 ≤ _)⟩)
      dsimp only [Pt.U, Pt.locs, Pt.cells, Pt.slots] at X945 l945 y945 z945 st945 hQ945
      rw [l945, y945, z945] at X945
      obtain ⟨hv945, N945q, er1⟩ := hQ945
      rw [hv945] at st945
      have N945 := Fr.app N931 N945q
      obtain ⟨cq946, kq946, q946a, q946b, q946c⟩ := isOf hZ er1 f932
      obtain ⟨_, _, ⟨T946, L946, k946, n946⟩, -, X946, ⟨Lc946, hQ946, l946, y946, z946⟩, st946⟩ := X945.virtualBack hx (y := (⟨"com/example/plebiscite/plebiscite/Adjacency", "size", "()I"⟩ : MethodName)) (z := (⟨"com/example/plebiscite/plebiscite/Adjacency", "size", "()I"⟩ : MethodName)) hown (mvT hZ (hw _ (List.mem_of_getElem? (i := 59) rfl))) (mvT hZ (hw _ (List.mem_of_getElem? (i := 60) rfl))) (notFace_of_selects (args := #[]) (mvT hZ (hw _ (List.mem_of_getElem? (i := 62) rfl)))) (mvT hZ (hw _ (List.mem_of_getElem? (i := 62) rfl))) (mvT hZ (hw _ (List.mem_of_getElem? (i := 61) rfl))) (by decide) (backOf (W := 0) (rm_siz l Z a0 hw [] g (2 : Int32) h931 n0 Z943 f936) hZ (hw _ (List.mem_of_getElem? (i := 63) rfl)) (hw _ (List.mem_of_getElem? (i := 2) rfl)) (by decide) (by decide)) q946a q946c (g := (mkF m 270 #[iv p0, iv p1, iv p2, iv p3, .val (.long q4), .second, iv p5, iv 0, iv 3, iv pos, iv s0, iv s1, iv p5, rv g, rv old, rv olds, rv e_, rv es, .unset, .unset] [(.ref g)])) rfl (by rw [hml]; rfl) (Steps.refl _) (argsL := []) (rest := []) (lenOf pd_7 rfl) rfl (by show 2 * 0 + _ ≤ _; exact Nat.le_of_eq rfl) (hb hby at_270) (fun _ _ => ⟨rfl, er1, (by decide : 9 + 0 ≤ _), (by decide : 29 + 0 ≤ _)⟩)
      dsimp only [Pt.U, Pt.locs, Pt.cells, Pt.slots] at X946 l946 y946 z946 st946 hQ946
      rw [l946, y946, z946] at X946
      obtain ⟨hv946, N946q, er2⟩ := hQ946
      rw [hv946] at st946
      have N946 := Fr.app N945 N946q
      obtain ⟨cq947, kq947, q947a, q947b, q947c⟩ := isOf hZ er2 f932
      obtain ⟨_, _, ⟨T947, L947, k947, n947⟩, -, X947, ⟨Lc947, hQ947, l947, y947, z947⟩, st947⟩ := X946.virtualBack hx (y := (⟨"com/example/plebiscite/plebiscite/Adjacency", "begin", "(I)I"⟩ : MethodName)) (z := (⟨"com/example/plebiscite/plebiscite/Adjacency", "begin", "(I)I"⟩ : MethodName)) hown (mvT hZ (hw _ (List.mem_of_getElem? (i := 64) rfl))) (mvT hZ (hw _ (List.mem_of_getElem? (i := 65) rfl))) (notFace_of_selects (args := #[]) (mvT hZ (hw _ (List.mem_of_getElem? (i := 67) rfl)))) (mvT hZ (hw _ (List.mem_of_getElem? (i := 67) rfl))) (mvT hZ (hw _ (List.mem_of_getElem? (i := 66) rfl))) (by decide) (backOf (W := 0) (rm_bgn l Z a0 hw [] g st k1 (0 : Int32) h931 n0 Z943 f933 f937) hZ (hw _ (List.mem_of_getElem? (i := 68) rfl)) (hw _ (List.mem_of_getElem? (i := 2) rfl)) (by decide) (by decide)) q947a q947c (g := (mkF m 290 #[iv p0, iv p1, iv p2, iv p3, .val (.long q4), .second, iv p5, iv 0, iv 3, iv pos, iv s0, iv s1, iv p5, rv g, rv old, rv olds, rv e_, rv es, iv 1, .unset] [(.int 0), (.ref g)])) rfl (by rw [hml]; rfl) (Steps.refl _) (argsL := [(.int 0)]) (rest := []) (lenOf pd_4 rfl) rfl (by show 2 * 0 + _ ≤ _; exact Nat.le_of_eq rfl) (hb hby at_290) (fun _ _ => ⟨rfl, er2, (by decide : 9 + 0 ≤ _), (by decide : 29 + 0 ≤ _)⟩)
      dsimp only [Pt.U, Pt.locs, Pt.cells, Pt.slots] at X947 l947 y947 z947 st947 hQ947
      rw [l947, y947, z947] at X947
      obtain ⟨hv947, N947q, er3⟩ := hQ947
      rw [hv947] at st947
      have N947 := Fr.app N946 N947q
      obtain ⟨cq948, kq948, q948a, q948b, q948c⟩ := isOf hZ er3 f932
      obtain ⟨_, _, ⟨T948, L948, k948, n948⟩, -, X948, ⟨Lc948, hQ948, l948, y948, z948⟩, st948⟩ := X947.virtualBack hx (y := (⟨"com/example/plebiscite/plebiscite/Adjacency", "item", "(I)I"⟩ : MethodName)) (z := (⟨"com/example/plebiscite/plebiscite/Adjacency", "item", "(I)I"⟩ : MethodName)) hown (mvT hZ (hw _ (List.mem_of_getElem? (i := 102) rfl))) (mvT hZ (hw _ (List.mem_of_getElem? (i := 103) rfl))) (notFace_of_selects (args := #[]) (mvT hZ (hw _ (List.mem_of_getElem? (i := 105) rfl)))) (mvT hZ (hw _ (List.mem_of_getElem? (i := 105) rfl))) (mvT hZ (hw _ (List.mem_of_getElem? (i := 104) rfl))) (by decide) (backOf (W := 0) (rm_itm l Z a0 hw [] g (0 : Int32) it k4 (4 : Int32) [(.int e0), (.int e1), (.int e2), (.int 0)] e0 h931 n0 Z943 f935 f939 ⟨by decide, by decide⟩ rfl) hZ (hw _ (List.mem_of_getElem? (i := 106) rfl)) (hw _ (List.mem_of_getElem? (i := 2) rfl)) (by decide) (by decide)) q948a q948c (g := (mkF m 310 #[iv p0, iv p1, iv p2, iv p3, .val (.long q4), .second, iv p5, iv 0, iv 3, iv pos, iv s0, iv s1, iv p5, rv g, rv old, rv olds, rv e_, rv es, iv 1, iv 0] [(.int 0), (.ref g)])) rfl (by rw [hml]; rfl) (Steps.refl _) (argsL := [(.int 0)]) (rest := []) (lenOf pd_4 rfl) rfl (by show 2 * 0 + _ ≤ _; exact Nat.le_of_eq rfl) (hb hby at_310) (fun _ _ => ⟨rfl, er3, (by decide : 9 + 0 ≤ _), (by decide : 29 + 0 ≤ _)⟩)
      dsimp only [Pt.U, Pt.locs, Pt.cells, Pt.slots] at X948 l948 y948 z948 st948 hQ948
      rw [l948, y948, z948] at X948
      obtain ⟨hv948, N948q, ei0⟩ := hQ948
      rw [hv948] at st948
      have N948 := Fr.app N947 N948q
      obtain ⟨cl949, Ar949, q949, S949, M949, Hs949, G949⟩ := f942
      have f950 : Arv Z h931 e_ k782 .int (3 : Int32) [(.int e0), (.int e1), (.int e2)] (.int 0) := ⟨cl949, Ar949, q949, S949, M949, Hs949, G949⟩
      have hin951 : ¬ ((0 : Int32) < 0 ∨ cl949.slots.size ≤ ((0 : Int32)).toNatClampNeg) := inb_of S949 ⟨by decide, by decide⟩
      have hat951 : cl949.slots[((0 : Int32)).toNatClampNeg]? = some (.int e0) := Hs949.at hin951 rfl
      obtain ⟨cq952, kq952, q952a, q952b, q952c⟩ := isOf hZ ei0 f932
      obtain ⟨_, _, ⟨T952, L952, k952, n952⟩, -, X952, ⟨Lc952, hQ952, l952, y952, z952⟩, st952⟩ := X948.virtualBack hx (y := (⟨"com/example/plebiscite/plebiscite/Adjacency", "item", "(I)I"⟩ : MethodName)) (z := (⟨"com/example/plebiscite/plebiscite/Adjacency", "item", "(I)I"⟩ : MethodName)) hown (mvT hZ (hw _ (List.mem_of_getElem? (i := 102) rfl))) (mvT hZ (hw _ (List.mem_of_getElem? (i := 103) rfl))) (notFace_of_selects (args := #[]) (mvT hZ (hw _ (List.mem_of_getElem? (i := 105) rfl)))) (mvT hZ (hw _ (List.mem_of_getElem? (i := 105) rfl))) (mvT hZ (hw _ (List.mem_of_getElem? (i := 104) rfl))) (by decide) (backOf (W := 0) (rm_itm l Z a0 hw [] g ((0 : Int32) + (1 : Int32)) it k4 (4 : Int32) [(.int e0), (.int e1), (.int e2), (.int 0)] e1 h931 n0 Z943 f935 f939 ⟨by decide, by decide⟩ rfl) hZ (hw _ (List.mem_of_getElem? (i := 106) rfl)) (hw _ (List.mem_of_getElem? (i := 2) rfl)) (by decide) (by decide)) q952a q952c (g := (mkF m 363 #[iv p0, iv p1, iv p2, iv p3, .val (.long q4), .second, iv p5, iv 0, iv 3, iv pos, iv s0, iv s1, iv p5, rv g, rv old, rv olds, rv e_, rv es, iv 1, iv 0] [(.int ((0 : Int32) + (1 : Int32))), (.ref g)])) rfl (by rw [hml]; rfl) (Steps.refl _) (argsL := [(.int ((0 : Int32) + (1 : Int32)))]) (rest := []) (lenOf pd_4 rfl) rfl (by show 2 * 0 + _ ≤ _; exact Nat.le_of_eq rfl) (hb hby at_363) (fun _ _ => ⟨rfl, ei0, (by decide : 9 + 0 ≤ _), (by decide : 29 + 0 ≤ _)⟩)
      dsimp only [Pt.U, Pt.locs, Pt.cells, Pt.slots] at X952 l952 y952 z952 st952 hQ952
      rw [l952, y952, z952] at X952
      obtain ⟨hv952, N952q, ei1⟩ := hQ952
      rw [hv952] at st952
      have N952 := Fr.app N948 N952q
      obtain ⟨cl953, Ar953, q953, S953, M953, Hs953, G953⟩ := f950
      have f954 : Arv Z h931 e_ k782 .int (3 : Int32) [(.int e0), (.int e1), (.int e2)] (.int 0) := ⟨cl953, Ar953, q953, S953, M953, Hs953, G953⟩
      have hin955 : ¬ ((1 : Int32) < 0 ∨ cl953.slots.size ≤ ((1 : Int32)).toNatClampNeg) := inb_of S953 ⟨by decide, by decide⟩
      have hat955 : cl953.slots[((1 : Int32)).toNatClampNeg]? = some (.int e1) := Hs953.at hin955 rfl
      have go956 : ∀ t, Steps p.tables e below (T952.setTop (mkF m 403 #[iv p0, iv p1, iv p2, iv p3, .val (.long q4), .second, iv p5, iv 0, iv 3, iv pos, iv s0, iv s1, iv p5, rv g, rv old, rv olds, rv e_, rv es, iv 1, iv 0] [(.int 1)])) t → Steps p.tables e below O t := fun t k => go111 t (by
        refine XS.iload X109.here hx rfl (hb hby at_123) rfl ?_
        refine XS.iconst X109.here hx rfl (hb hby at_125) ?_
        show Steps _ _ _ (T109.setTop (mkF m 126 _ [(.int 2), (.int 3)])) _
        refine XS.icmpNo X109.here hx rfl (hb hby at_126) rfl (flt (by decide : ¬ ((3 : Int32) < (2 : Int32)))).1 ?_
        refine XS.aload X109.here hx rfl (hb hby at_129) rfl rfl ?_
        show Steps _ _ _ (T109.setTop (mkF m 131 _ [(.ref g)])) _
        refine XS.iconst X109.here hx rfl (hb hby at_131) ?_
        refine XS.iloadN X109.here hx rfl (hb hby at_132) rfl ?_
        show Steps _ _ _ (T109.setTop (mkF m 133 _ [(.int p2), (.int 0), (.ref g)])) _
        refine st670.trans ?_
        show Steps _ _ _ (T670.setTop (mkF m 136 _ [])) _
        refine XS.iload X670.here hx rfl (hb hby at_136) rfl ?_
        refine XS.iconst X670.here hx rfl (hb hby at_138) ?_
        show Steps _ _ _ (T670.setTop (mkF m 139 _ [(.int 3), (.int 3)])) _
        refine XS.icmpNo X670.here hx rfl (hb hby at_139) rfl (flt (by decide : ¬ ((3 : Int32) < (3 : Int32)))).1 ?_
        refine XS.aload X670.here hx rfl (hb hby at_142) rfl rfl ?_
        show Steps _ _ _ (T670.setTop (mkF m 144 _ [(.ref g)])) _
        refine XS.iconst X670.here hx rfl (hb hby at_144) ?_
        refine XS.iloadN X670.here hx rfl (hb hby at_145) rfl ?_
        show Steps _ _ _ (T670.setTop (mkF m 146 _ [(.int p3), (.int 0), (.ref g)])) _
        refine st672.trans ?_
        show Steps _ _ _ (T672.setTop (mkF m 149 _ [])) _
        refine XS.aload X672.here hx rfl (hb hby at_149) rfl rfl ?_
        refine XS.iconst X672.here hx rfl (hb hby at_151) ?_
        show Steps _ _ _ (T672.setTop (mkF m 152 _ [(.int 0), (.ref g)])) _
        refine XS.iload X672.here hx rfl (hb hby at_152) rfl ?_
        refine st674.trans ?_
        show Steps _ _ _ (T674.setTop (mkF m 157 _ [])) _
        refine XS.iconst X674.here hx rfl (hb hby at_157) ?_
        refine st677 _ ?_
        show Steps _ _ _ (T677.setTop (mkF m 160 _ [(.ref old)])) _
        refine XS.dup X677.here hx rfl (hb hby at_160) rfl rfl ?_
        refine XS.iconst X677.here hx rfl (hb hby at_161) ?_
        show Steps _ _ _ (T677.setTop (mkF m 162 _ [(.int 0), (.ref old), (.ref old)])) _
        refine XS.iloadN X677.here hx rfl (hb hby at_162) rfl ?_
        refine st693 _ ?_
        show Steps _ _ _ (T693.setTop (mkF m 164 _ [(.ref old)])) _
        refine XS.dup X693.here hx rfl (hb hby at_164) rfl rfl ?_
        refine XS.iconst X693.here hx rfl (hb hby at_165) ?_
        show Steps _ _ _ (T693.setTop (mkF m 166 _ [(.int 1), (.ref old), (.ref old)])) _
        refine XS.iloadN X693.here hx rfl (hb hby at_166) rfl ?_
        refine st705 _ ?_
        show Steps _ _ _ (T705.setTop (mkF m 168 _ [(.ref old)])) _
        refine XS.dup X705.here hx rfl (hb hby at_168) rfl rfl ?_
        refine XS.iconst X705.here hx rfl (hb hby at_169) ?_
        show Steps _ _ _ (T705.setTop (mkF m 170 _ [(.int 2), (.ref old), (.ref old)])) _
        refine XS.iloadN X705.here hx rfl (hb hby at_170) rfl ?_
        refine st717 _ ?_
        show Steps _ _ _ (T717.setTop (mkF m 172 _ [(.ref old)])) _
        refine XS.astore X717.here hx rfl (hb hby at_172) rfl rfl (l' := #[iv p0, iv p1, iv p2, iv p3, .val (.long q4), .second, iv p5, iv 0, iv 3, iv pos, iv s0, iv s1, iv p5, rv g, rv old, .unset, .unset, .unset, .unset, .unset]) rfl ?_
        show Steps _ _ _ (T717.setTop (mkF m 174 _ [])) _
        refine XS.iconst X717.here hx rfl (hb hby at_174) ?_
        refine st727 _ ?_
        show Steps _ _ _ (T727.setTop (mkF m 177 _ [(.ref olds)])) _
        refine XS.dup X727.here hx rfl (hb hby at_177) rfl rfl ?_
        refine XS.iconst X727.here hx rfl (hb hby at_178) ?_
        show Steps _ _ _ (T727.setTop (mkF m 179 _ [(.int 0), (.ref olds), (.ref olds)])) _
        refine XS.iload X727.here hx rfl (hb hby at_179) rfl ?_
        refine st745 _ ?_
        show Steps _ _ _ (T745.setTop (mkF m 182 _ [(.ref olds)])) _
        refine XS.dup X745.here hx rfl (hb hby at_182) rfl rfl ?_
        refine XS.iconst X745.here hx rfl (hb hby at_183) ?_
        show Steps _ _ _ (T745.setTop (mkF m 184 _ [(.int 1), (.ref olds), (.ref olds)])) _
        refine XS.iload X745.here hx rfl (hb hby at_184) rfl ?_
        refine st758 _ ?_
        show Steps _ _ _ (T758.setTop (mkF m 187 _ [(.ref olds)])) _
        refine XS.dup X758.here hx rfl (hb hby at_187) rfl rfl ?_
        refine XS.iconst X758.here hx rfl (hb hby at_188) ?_
        show Steps _ _ _ (T758.setTop (mkF m 189 _ [(.int 2), (.ref olds), (.ref olds)])) _
        refine XS.iload X758.here hx rfl (hb hby at_189) rfl ?_
        refine st771 _ ?_
        show Steps _ _ _ (T771.setTop (mkF m 192 _ [(.ref olds)])) _
        refine XS.astore X771.here hx rfl (hb hby at_192) rfl rfl (l' := #[iv p0, iv p1, iv p2, iv p3, .val (.long q4), .second, iv p5, iv 0, iv 3, iv pos, iv s0, iv s1, iv p5, rv g, rv old, rv olds, .unset, .unset, .unset, .unset]) rfl ?_
        show Steps _ _ _ (T771.setTop (mkF m 194 _ [])) _
        refine XS.iconst X771.here hx rfl (hb hby at_194) ?_
        refine st782 _ ?_
        show Steps _ _ _ (T782.setTop (mkF m 197 _ [(.ref e_)])) _
        refine XS.dup X782.here hx rfl (hb hby at_197) rfl rfl ?_
        refine XS.iconst X782.here hx rfl (hb hby at_198) ?_
        show Steps _ _ _ (T782.setTop (mkF m 199 _ [(.int 0), (.ref e_), (.ref e_)])) _
        refine XS.iloadN X782.here hx rfl (hb hby at_199) rfl ?_
        refine st802 _ ?_
        show Steps _ _ _ (T802.setTop (mkF m 201 _ [(.ref e_)])) _
        refine XS.dup X802.here hx rfl (hb hby at_201) rfl rfl ?_
        refine XS.iconst X802.here hx rfl (hb hby at_202) ?_
        show Steps _ _ _ (T802.setTop (mkF m 203 _ [(.int 1), (.ref e_), (.ref e_)])) _
        refine XS.iloadN X802.here hx rfl (hb hby at_203) rfl ?_
        refine st816 _ ?_
        show Steps _ _ _ (T816.setTop (mkF m 205 _ [(.ref e_)])) _
        refine XS.dup X816.here hx rfl (hb hby at_205) rfl rfl ?_
        refine XS.iconst X816.here hx rfl (hb hby at_206) ?_
        show Steps _ _ _ (T816.setTop (mkF m 207 _ [(.int 2), (.ref e_), (.ref e_)])) _
        refine XS.iloadN X816.here hx rfl (hb hby at_207) rfl ?_
        refine st830 _ ?_
        show Steps _ _ _ (T830.setTop (mkF m 209 _ [(.ref e_)])) _
        refine XS.astore X830.here hx rfl (hb hby at_209) rfl rfl (l' := #[iv p0, iv p1, iv p2, iv p3, .val (.long q4), .second, iv p5, iv 0, iv 3, iv pos, iv s0, iv s1, iv p5, rv g, rv old, rv olds, rv e_, .unset, .unset, .unset]) rfl ?_
        show Steps _ _ _ (T830.setTop (mkF m 211 _ [])) _
        refine XS.iconst X830.here hx rfl (hb hby at_211) ?_
        refine st842 _ ?_
        show Steps _ _ _ (T842.setTop (mkF m 214 _ [(.ref es)])) _
        refine XS.dup X842.here hx rfl (hb hby at_214) rfl rfl ?_
        refine XS.iconst X842.here hx rfl (hb hby at_215) ?_
        show Steps _ _ _ (T842.setTop (mkF m 216 _ [(.int 0), (.ref es), (.ref es)])) _
        refine XS.iload X842.here hx rfl (hb hby at_216) rfl ?_
        refine st864 _ ?_
        show Steps _ _ _ (T864.setTop (mkF m 219 _ [(.ref es)])) _
        refine XS.dup X864.here hx rfl (hb hby at_219) rfl rfl ?_
        refine XS.iconst X864.here hx rfl (hb hby at_220) ?_
        show Steps _ _ _ (T864.setTop (mkF m 221 _ [(.int 1), (.ref es), (.ref es)])) _
        refine XS.iload X864.here hx rfl (hb hby at_221) rfl ?_
        refine st879 _ ?_
        show Steps _ _ _ (T879.setTop (mkF m 224 _ [(.ref es)])) _
        refine XS.dup X879.here hx rfl (hb hby at_224) rfl rfl ?_
        refine XS.iconst X879.here hx rfl (hb hby at_225) ?_
        show Steps _ _ _ (T879.setTop (mkF m 226 _ [(.int 2), (.ref es), (.ref es)])) _
        refine XS.iload X879.here hx rfl (hb hby at_226) rfl ?_
        refine st894 _ ?_
        show Steps _ _ _ (T894.setTop (mkF m 229 _ [(.ref es)])) _
        refine XS.astore X894.here hx rfl (hb hby at_229) rfl rfl (l' := #[iv p0, iv p1, iv p2, iv p3, .val (.long q4), .second, iv p5, iv 0, iv 3, iv pos, iv s0, iv s1, iv p5, rv g, rv old, rv olds, rv e_, rv es, .unset, .unset]) rfl ?_
        show Steps _ _ _ (T894.setTop (mkF m 231 _ [])) _
        refine XS.aload X894.here hx rfl (hb hby at_231) rfl rfl ?_
        refine XS.iload X894.here hx rfl (hb hby at_233) rfl ?_
        show Steps _ _ _ (T894.setTop (mkF m 235 _ [(.int pos), (.ref e_)])) _
        refine XS.aload X894.here hx rfl (hb hby at_235) rfl rfl ?_
        refine XS.iload X894.here hx rfl (hb hby at_237) rfl ?_
        show Steps _ _ _ (T894.setTop (mkF m 239 _ [(.int 3), (.ref old), (.int pos), (.ref e_)])) _
        refine XS.iconst X894.here hx rfl (hb hby at_239) ?_
        refine XS.isub X894.here hx rfl (hb hby at_240) rfl ?_
        show Steps _ _ _ (T894.setTop (mkF m 241 _ [(.int ((3 : Int32) - (1 : Int32))), (.ref old), (.int pos), (.ref e_)])) _
        refine X894.iaload hx (j := ((3 : Int32) - (1 : Int32))) (v := (.int p3)) (by rw [e894]; exact Ar907.1) (State.isArrayOf_alike hZ.alike Ar907.2.1) Ar907.2.2 hin909 hat909 (g := (mkF m 241 #[iv p0, iv p1, iv p2, iv p3, .val (.long q4), .second, iv p5, iv 0, iv 3, iv pos, iv s0, iv s1, iv p5, rv g, rv old, rv olds, rv e_, rv es, .unset, .unset] [(.int ((3 : Int32) - (1 : Int32))), (.ref old), (.int pos), (.ref e_)])) rfl rfl (hb hby at_241) _ ?_
        refine st912 _ ?_
        show Steps _ _ _ (T912.setTop (mkF m 243 _ [])) _
        refine XS.aload X912.here hx rfl (hb hby at_243) rfl rfl ?_
        refine XS.iload X912.here hx rfl (hb hby at_245) rfl ?_
        show Steps _ _ _ (T912.setTop (mkF m 247 _ [(.int pos), (.ref es)])) _
        refine XS.aload X912.here hx rfl (hb hby at_247) rfl rfl ?_
        refine XS.iload X912.here hx rfl (hb hby at_249) rfl ?_
        show Steps _ _ _ (T912.setTop (mkF m 251 _ [(.int 3), (.ref olds), (.int pos), (.ref es)])) _
        refine XS.iconst X912.here hx rfl (hb hby at_251) ?_
        refine XS.isub X912.here hx rfl (hb hby at_252) rfl ?_
        show Steps _ _ _ (T912.setTop (mkF m 253 _ [(.int ((3 : Int32) - (1 : Int32))), (.ref olds), (.int pos), (.ref es)])) _
        refine X912.iaload hx (j := ((3 : Int32) - (1 : Int32))) (v := (.int p5)) (by rw [e912]; exact Ar926.1) (State.isArrayOf_alike hZ.alike Ar926.2.1) Ar926.2.2 hin928 hat928 (g := (mkF m 253 #[iv p0, iv p1, iv p2, iv p3, .val (.long q4), .second, iv p5, iv 0, iv 3, iv pos, iv s0, iv s1, iv p5, rv g, rv old, rv olds, rv e_, rv es, .unset, .unset] [(.int ((3 : Int32) - (1 : Int32))), (.ref olds), (.int pos), (.ref es)])) rfl rfl (hb hby at_253) _ ?_
        refine st931 _ ?_
        show Steps _ _ _ (T931.setTop (mkF m 255 _ [])) _
        refine XS.aload X931.here hx rfl (hb hby at_255) rfl rfl ?_
        refine XS.iconst X931.here hx rfl (hb hby at_257) ?_
        show Steps _ _ _ (T931.setTop (mkF m 258 _ [(.int 0), (.ref g)])) _
        refine st945.trans ?_
        show Steps _ _ _ (T945.setTop (mkF m 261 _ [(.int 2)])) _
        refine XS.iload X945.here hx rfl (hb hby at_261) rfl ?_
        refine XS.iconst X945.here hx rfl (hb hby at_263) ?_
        show Steps _ _ _ (T945.setTop (mkF m 264 _ [(.int 1), (.int 3), (.int 2)])) _
        refine XS.isub X945.here hx rfl (hb hby at_264) rfl ?_
        refine XS.icmpNo X945.here hx rfl (hb hby at_265) rfl (teq (by decide : (2 : Int32) = ((3 : Int32) - (1 : Int32)))).2 ?_
        show Steps _ _ _ (T945.setTop (mkF m 268 _ [])) _
        refine XS.aload X945.here hx rfl (hb hby at_268) rfl rfl ?_
        refine st946.trans ?_
        show Steps _ _ _ (T946.setTop (mkF m 273 _ [(.int 2)])) _
        refine XS.iload X946.here hx rfl (hb hby at_273) rfl ?_
        refine XS.iconst X946.here hx rfl (hb hby at_275) ?_
        show Steps _ _ _ (T946.setTop (mkF m 276 _ [(.int 1), (.int 3), (.int 2)])) _
        refine XS.isub X946.here hx rfl (hb hby at_276) rfl ?_
        refine XS.icmpNo X946.here hx rfl (hb hby at_277) rfl (teq (by decide : (2 : Int32) = ((3 : Int32) - (1 : Int32)))).2 ?_
        show Steps _ _ _ (T946.setTop (mkF m 280 _ [])) _
        refine XS.iconst X946.here hx rfl (hb hby at_280) ?_
        refine XS.goto X946.here hx rfl (pc0 := 281) (pc' := 285) rfl (hb hby at_281) (by decide) (by decide) ?_
        show Steps _ _ _ (T946.setTop (mkF m 285 _ [(.int 1)])) _
        refine XS.istore X946.here hx rfl (hb hby at_285) rfl (l' := #[iv p0, iv p1, iv p2, iv p3, .val (.long q4), .second, iv p5, iv 0, iv 3, iv pos, iv s0, iv s1, iv p5, rv g, rv old, rv olds, rv e_, rv es, iv 1, .unset]) rfl ?_
        show Steps _ _ _ (T946.setTop (mkF m 287 _ [])) _
        refine XS.aload X946.here hx rfl (hb hby at_287) rfl rfl ?_
        refine XS.iconst X946.here hx rfl (hb hby at_289) ?_
        show Steps _ _ _ (T946.setTop (mkF m 290 _ [(.int 0), (.ref g)])) _
        refine st947.trans ?_
        show Steps _ _ _ (T947.setTop (mkF m 293 _ [(.int 0)])) _
        refine XS.istore X947.here hx rfl (hb hby at_293) rfl (l' := #[iv p0, iv p1, iv p2, iv p3, .val (.long q4), .second, iv p5, iv 0, iv 3, iv pos, iv s0, iv s1, iv p5, rv g, rv old, rv olds, rv e_, rv es, iv 1, iv 0]) rfl ?_
        show Steps _ _ _ (T947.setTop (mkF m 295 _ [])) _
        refine XS.iload X947.here hx rfl (hb hby at_295) rfl ?_
        refine XS.iconst X947.here hx rfl (hb hby at_297) ?_
        show Steps _ _ _ (T947.setTop (mkF m 298 _ [(.int 2), (.int 3)])) _
        refine XS.icmpNo X947.here hx rfl (hb hby at_298) rfl (flt (by decide : ¬ ((3 : Int32) < (2 : Int32)))).1 ?_
        refine XS.iload X947.here hx rfl (hb hby at_301) rfl ?_
        show Steps _ _ _ (T947.setTop (mkF m 303 _ [(.int 1)])) _
        refine XS.ifNo X947.here hx rfl (hb hby at_303) rfl ((if0 _ _).trans (feq (by decide : ¬ ((1 : Int32) = (0 : Int32)))).1) ?_
        refine XS.aload X947.here hx rfl (hb hby at_306) rfl rfl ?_
        show Steps _ _ _ (T947.setTop (mkF m 308 _ [(.ref g)])) _
        refine XS.iload X947.here hx rfl (hb hby at_308) rfl ?_
        refine st948.trans ?_
        show Steps _ _ _ (T948.setTop (mkF m 313 _ [(.int e0)])) _
        refine XS.aload X948.here hx rfl (hb hby at_313) rfl rfl ?_
        refine XS.iconst X948.here hx rfl (hb hby at_315) ?_
        show Steps _ _ _ (T948.setTop (mkF m 316 _ [(.int 0), (.ref e_), (.int e0)])) _
        refine X948.iaload hx (j := (0 : Int32)) (v := (.int e0)) (by rw [ei0]; exact Ar949.1) (State.isArrayOf_alike hZ.alike Ar949.2.1) Ar949.2.2 hin951 hat951 (g := (mkF m 316 #[iv p0, iv p1, iv p2, iv p3, .val (.long q4), .second, iv p5, iv 0, iv 3, iv pos, iv s0, iv s1, iv p5, rv g, rv old, rv olds, rv e_, rv es, iv 1, iv 0] [(.int 0), (.ref e_), (.int e0)])) rfl rfl (hb hby at_316) _ ?_
        refine XS.icmpNo X948.here hx rfl (hb hby at_317) rfl (teq (rfl : e0 = e0)).2 ?_
        show Steps _ _ _ (T948.setTop (mkF m 320 _ [])) _
        refine XS.iload X948.here hx rfl (hb hby at_320) rfl ?_
        refine XS.ifYes X948.here hx rfl (pc0 := 322) (pc' := 339) rfl (hb hby at_322) rfl ((if0 _ _).trans (teq (by decide : (0 : Int32) = (0 : Int32))).1) (by decide) (by decide) ?_
        show Steps _ _ _ (T948.setTop (mkF m 339 _ [])) _
        refine XS.iconst X948.here hx rfl (hb hby at_339) ?_
        refine XS.goto X948.here hx rfl (pc0 := 340) (pc' := 344) rfl (hb hby at_340) (by decide) (by decide) ?_
        show Steps _ _ _ (T948.setTop (mkF m 344 _ [(.int 1)])) _
        refine XS.istore X948.here hx rfl (hb hby at_344) rfl (l' := #[iv p0, iv p1, iv p2, iv p3, .val (.long q4), .second, iv p5, iv 0, iv 3, iv pos, iv s0, iv s1, iv p5, rv g, rv old, rv olds, rv e_, rv es, iv 1, iv 0]) rfl ?_
        show Steps _ _ _ (T948.setTop (mkF m 346 _ [])) _
        refine XS.iload X948.here hx rfl (hb hby at_346) rfl ?_
        refine XS.iconst X948.here hx rfl (hb hby at_348) ?_
        show Steps _ _ _ (T948.setTop (mkF m 349 _ [(.int 3), (.int 3)])) _
        refine XS.icmpNo X948.here hx rfl (hb hby at_349) rfl (flt (by decide : ¬ ((3 : Int32) < (3 : Int32)))).1 ?_
        refine XS.iload X948.here hx rfl (hb hby at_352) rfl ?_
        show Steps _ _ _ (T948.setTop (mkF m 354 _ [(.int 1)])) _
        refine XS.ifNo X948.here hx rfl (hb hby at_354) rfl ((if0 _ _).trans (feq (by decide : ¬ ((1 : Int32) = (0 : Int32)))).1) ?_
        refine XS.aload X948.here hx rfl (hb hby at_357) rfl rfl ?_
        show Steps _ _ _ (T948.setTop (mkF m 359 _ [(.ref g)])) _
        refine XS.iload X948.here hx rfl (hb hby at_359) rfl ?_
        refine XS.iconst X948.here hx rfl (hb hby at_361) ?_
        show Steps _ _ _ (T948.setTop (mkF m 362 _ [(.int 1), (.int 0), (.ref g)])) _
        refine XS.iadd X948.here hx rfl (hb hby at_362) rfl ?_
        refine st952.trans ?_
        show Steps _ _ _ (T952.setTop (mkF m 366 _ [(.int e1)])) _
        refine XS.aload X952.here hx rfl (hb hby at_366) rfl rfl ?_
        refine XS.iconst X952.here hx rfl (hb hby at_368) ?_
        show Steps _ _ _ (T952.setTop (mkF m 369 _ [(.int 1), (.ref e_), (.int e1)])) _
        refine X952.iaload hx (j := (1 : Int32)) (v := (.int e1)) (by rw [ei1]; exact Ar953.1) (State.isArrayOf_alike hZ.alike Ar953.2.1) Ar953.2.2 hin955 hat955 (g := (mkF m 369 #[iv p0, iv p1, iv p2, iv p3, .val (.long q4), .second, iv p5, iv 0, iv 3, iv pos, iv s0, iv s1, iv p5, rv g, rv old, rv olds, rv e_, rv es, iv 1, iv 0] [(.int 1), (.ref e_), (.int e1)])) rfl rfl (hb hby at_369) _ ?_
        refine XS.icmpNo X952.here hx rfl (hb hby at_370) rfl (teq (rfl : e1 = e1)).2 ?_
        show Steps _ _ _ (T952.setTop (mkF m 373 _ [])) _
        refine XS.iload X952.here hx rfl (hb hby at_373) rfl ?_
        refine XS.ifYes X952.here hx rfl (pc0 := 375) (pc' := 394) rfl (hb hby at_375) rfl ((if0 _ _).trans (teq (by decide : (0 : Int32) = (0 : Int32))).1) (by decide) (by decide) ?_
        show Steps _ _ _ (T952.setTop (mkF m 394 _ [])) _
        refine XS.iconst X952.here hx rfl (hb hby at_394) ?_
        refine XS.goto X952.here hx rfl (pc0 := 395) (pc' := 399) rfl (hb hby at_395) (by decide) (by decide) ?_
        show Steps _ _ _ (T952.setTop (mkF m 399 _ [(.int 1)])) _
        refine XS.istore X952.here hx rfl (hb hby at_399) rfl (l' := #[iv p0, iv p1, iv p2, iv p3, .val (.long q4), .second, iv p5, iv 0, iv 3, iv pos, iv s0, iv s1, iv p5, rv g, rv old, rv olds, rv e_, rv es, iv 1, iv 0]) rfl ?_
        show Steps _ _ _ (T952.setTop (mkF m 401 _ [])) _
        refine XS.iload X952.here hx rfl (hb hby at_401) rfl ?_
        exact k)
      rw [hO] at go956
      obtain ⟨fs, hr, hrun, hended, hW, hsame⟩ := X952.leave (v := some (.int 1)) (fun h => by rw [Bd.returns] at h; cases h)
      refine ⟨_, _, go956 _ ?_, hrun, hended, _, _, rfl, ?_, ⟨_, rfl⟩, hW, hsame.mono (by decide) (by decide)⟩
      · exact retN X952 hx (t := .boolean) Bd.returns (by simp) (hb hby at_403) hr
      · show Q_law Z p0 p1 p2 p3 q4 p5 h0 n0 _ T952.heap _
        rw [ei1]
        exact ⟨rfl, N952⟩
  · have g_s : 0 ≤ (((p0.toUInt32 >>> ((1 : Int32) &&& 31).toUInt32).toInt32) &&& (255 : Int32)).toInt := by rw [c_mask _ _ 8 (by decide) (by decide)]; omega
    have g_k : 1 ≤ (((((p0.toUInt32 >>> ((1 : Int32) &&& 31).toUInt32).toInt32) &&& (255 : Int32)) % (3 : Int32)) + (1 : Int32)).toInt ∧ (((((p0.toUInt32 >>> ((1 : Int32) &&& 31).toUInt32).toInt32) &&& (255 : Int32)) % (3 : Int32)) + (1 : Int32)).toInt ≤ 3 := by
      have h1 := (c_irem (((p0.toUInt32 >>> ((1 : Int32) &&& 31).toUInt32).toInt32) &&& (255 : Int32)) (3 : Int32) 3 rfl).1 g_s
      have h2 := c_iadd ((((p0.toUInt32 >>> ((1 : Int32) &&& 31).toUInt32).toInt32) &&& (255 : Int32)) % (3 : Int32)) (1 : Int32)
      have h3 := rng32 (((((p0.toUInt32 >>> ((1 : Int32) &&& 31).toUInt32).toInt32) &&& (255 : Int32)) % (3 : Int32)) + (1 : Int32))
      have z1 : (1 : Int32).toInt = 1 := rfl
      omega
    have go958 : ∀ t, Steps p.tables e below (s₁.setTop (mkF m 26 #[iv p0, iv p1, iv p2, iv p3, .val (.long q4), .second, iv p5, iv 1, iv (((((p0.toUInt32 >>> ((1 : Int32) &&& 31).toUInt32).toInt32) &&& (255 : Int32)) % (3 : Int32)) + (1 : Int32)), .unset, .unset, .unset, .unset, .unset, .unset, .unset, .unset, .unset, .unset, .unset] [])) t → Steps p.tables e below O t := fun t k => go101 t (by
      refine XS.ifNo X0.here hx rfl (hb hby at_3) rfl ((if0 _ _).trans (feq (hpair : ¬ ((p0 &&& (1 : Int32)) = (0 : Int32)))).1) ?_
      refine XS.iconst X0.here hx rfl (hb hby at_6) ?_
      show Steps _ _ _ (s₁.setTop (mkF m 7 _ [(.int 1)])) _
      refine XS.goto X0.here hx rfl (pc0 := 7) (pc' := 11) rfl (hb hby at_7) (by decide) (by decide) ?_
      refine XS.istore X0.here hx rfl (hb hby at_11) rfl (l' := #[iv p0, iv p1, iv p2, iv p3, .val (.long q4), .second, iv p5, iv 1, .unset, .unset, .unset, .unset, .unset, .unset, .unset, .unset, .unset, .unset, .unset, .unset]) rfl ?_
      show Steps _ _ _ (s₁.setTop (mkF m 13 _ [])) _
      refine XS.iloadN X0.here hx rfl (hb hby at_13) rfl ?_
      refine XS.iconst X0.here hx rfl (hb hby at_14) ?_
      show Steps _ _ _ (s₁.setTop (mkF m 15 _ [(.int 1), (.int p0)])) _
      refine XS.iushr X0.here hx rfl (hb hby at_15) rfl ?_
      refine XS.sipush X0.here hx rfl (hb hby at_16) ?_
      show Steps _ _ _ (s₁.setTop (mkF m 19 _ [(.int 255), (.int ((p0.toUInt32 >>> ((1 : Int32) &&& 31).toUInt32).toInt32))])) _
      refine XS.iand X0.here hx rfl (hb hby at_19) rfl ?_
      refine XS.iconst X0.here hx rfl (hb hby at_20) ?_
      show Steps _ _ _ (s₁.setTop (mkF m 21 _ [(.int 3), (.int (((p0.toUInt32 >>> ((1 : Int32) &&& 31).toUInt32).toInt32) &&& (255 : Int32)))])) _
      refine iremM X0 hx rfl (hb hby at_21) rfl (by decide) ?_
      refine XS.iconst X0.here hx rfl (hb hby at_22) ?_
      show Steps _ _ _ (s₁.setTop (mkF m 23 _ [(.int 1), (.int ((((p0.toUInt32 >>> ((1 : Int32) &&& 31).toUInt32).toInt32) &&& (255 : Int32)) % (3 : Int32)))])) _
      refine XS.iadd X0.here hx rfl (hb hby at_23) rfl ?_
      refine XS.istore X0.here hx rfl (hb hby at_24) rfl (l' := #[iv p0, iv p1, iv p2, iv p3, .val (.long q4), .second, iv p5, iv 1, iv (((((p0.toUInt32 >>> ((1 : Int32) &&& 31).toUInt32).toInt32) &&& (255 : Int32)) % (3 : Int32)) + (1 : Int32)), .unset, .unset, .unset, .unset, .unset, .unset, .unset, .unset, .unset, .unset, .unset]) rfl ?_
      show Steps _ _ _ (s₁.setTop (mkF m 26 _ [])) _
      exact k)
    obtain ⟨kk, hq_k⟩ : ∃ z : Int32, z = (((((p0.toUInt32 >>> ((1 : Int32) &&& 31).toUInt32).toInt32) &&& (255 : Int32)) % (3 : Int32)) + (1 : Int32)) := ⟨_, rfl⟩
    rw [← hq_k] at go958
    rw [← hq_k] at g_k
    have hk := own_kk kk g_k.1 g_k.2
    have hk0 : ¬ kk = (0 : Int32) := by rcases hk with h | h | h <;> rw [h] <;> decide
    have g_9 : 0 ≤ ((p0.toUInt32 >>> ((9 : Int32) &&& 31).toUInt32).toInt32).toInt := by rw [c_iushr p0 (9 : Int32) 9 (by decide) (by decide)]; omega
    have g_p := (c_iremV ((p0.toUInt32 >>> ((9 : Int32) &&& 31).toUInt32).toInt32) kk).1 g_9 (by omega)
    have go959 : ∀ t, Steps p.tables e below (s₁.setTop (mkF m 35 #[iv p0, iv p1, iv p2, iv p3, .val (.long q4), .second, iv p5, iv 1, iv kk, iv (((p0.toUInt32 >>> ((9 : Int32) &&& 31).toUInt32).toInt32) % kk), .unset, .unset, .unset, .unset, .unset, .unset, .unset, .unset, .unset, .unset] [])) t → Steps p.tables e below O t := fun t k => go958 t (by
      refine XS.iloadN X0.here hx rfl (hb hby at_26) rfl ?_
      refine XS.bipush X0.here hx rfl (hb hby at_27) ?_
      show Steps _ _ _ (s₁.setTop (mkF m 29 _ [(.int 9), (.int p0)])) _
      refine XS.iushr X0.here hx rfl (hb hby at_29) rfl ?_
      refine XS.iload X0.here hx rfl (hb hby at_30) rfl ?_
      show Steps _ _ _ (s₁.setTop (mkF m 32 _ [(.int kk), (.int ((p0.toUInt32 >>> ((9 : Int32) &&& 31).toUInt32).toInt32))])) _
      refine iremM X0 hx rfl (hb hby at_32) rfl hk0 ?_
      refine XS.istore X0.here hx rfl (hb hby at_33) rfl (l' := #[iv p0, iv p1, iv p2, iv p3, .val (.long q4), .second, iv p5, iv 1, iv kk, iv (((p0.toUInt32 >>> ((9 : Int32) &&& 31).toUInt32).toInt32) % kk), .unset, .unset, .unset, .unset, .unset, .unset, .unset, .unset, .unset, .unset]) rfl ?_
      show Steps _ _ _ (s₁.setTop (mkF m 35 _ [])) _
      exact k)
    obtain ⟨pos, hq_p⟩ : ∃ z : Int32, z = (((p0.toUInt32 >>> ((9 : Int32) &&& 31).toUInt32).toInt32) % kk) := ⟨_, rfl⟩
    rw [← hq_p] at go959
    rw [← hq_p] at g_p
    have hp := own_pp pos (by omega) (by omega)
    have hpi := own_pin hp
    have go960 : ∀ t, Steps p.tables e below (s₁.setTop (mkF m 48 #[iv p0, iv p1, iv p2, iv p3, .val (.long q4), .second, iv p5, iv 1, iv kk, iv pos, iv q4.toInt32, iv ((q4.toUInt64 >>> ((32 : Int32) &&& 0x3f).toInt64.toUInt64).toInt64).toInt32, .unset, .unset, .unset, .unset, .unset, .unset, .unset, .unset] [])) t → Steps p.tables e below O t := fun t k => go959 t (by
      refine XS.lload X0.here hx rfl (hb hby at_35) rfl ?_
      refine XS.l2i X0.here hx rfl (hb hby at_37) rfl ?_
      show Steps _ _ _ (s₁.setTop (mkF m 38 _ [(.int q4.toInt32)])) _
      refine XS.istore X0.here hx rfl (hb hby at_38) rfl (l' := #[iv p0, iv p1, iv p2, iv p3, .val (.long q4), .second, iv p5, iv 1, iv kk, iv pos, iv q4.toInt32, .unset, .unset, .unset, .unset, .unset, .unset, .unset, .unset, .unset]) rfl ?_
      show Steps _ _ _ (s₁.setTop (mkF m 40 _ [])) _
      refine XS.lload X0.here hx rfl (hb hby at_40) rfl ?_
      refine XS.bipush X0.here hx rfl (hb hby at_42) ?_
      show Steps _ _ _ (s₁.setTop (mkF m 44 _ [(.int 32), (.long q4)])) _
      refine XS.lushr X0.here hx rfl (hb hby at_44) rfl ?_
      refine XS.l2i X0.here hx rfl (hb hby at_45) rfl ?_
      show Steps _ _ _ (s₁.setTop (mkF m 46 _ [(.int ((q4.toUInt64 >>> ((32 : Int32) &&& 0x3f).toInt64.toUInt64).toInt64).toInt32)])) _
      refine XS.istore X0.here hx rfl (hb hby at_46) rfl (l' := #[iv p0, iv p1, iv p2, iv p3, .val (.long q4), .second, iv p5, iv 1, iv kk, iv pos, iv q4.toInt32, iv ((q4.toUInt64 >>> ((32 : Int32) &&& 0x3f).toInt64.toUInt64).toInt64).toInt32, .unset, .unset, .unset, .unset, .unset, .unset, .unset, .unset]) rfl ?_
      show Steps _ _ _ (s₁.setTop (mkF m 48 _ [])) _
      exact k)
    obtain ⟨s0, hq_s0⟩ : ∃ z : Int32, z = q4.toInt32 := ⟨_, rfl⟩
    rw [← hq_s0] at go960
    obtain ⟨s1, hq_s1⟩ : ∃ z : Int32, z = ((q4.toUInt64 >>> ((32 : Int32) &&& 0x3f).toInt64.toUInt64).toInt64).toInt32 := ⟨_, rfl⟩
    rw [← hq_s1] at go960
    obtain ⟨_, _, ⟨T961, L961, k961, n961⟩, -, X961, ⟨Lc961, hQ961, l961, y961, z961⟩, st961⟩ := Jvm.LawKit.callS X0 hx (y := (⟨"com/example/plebiscite/plebiscite/Adjacency", "paired", "(I)Lcom/example/plebiscite/plebiscite/Adjacency;"⟩ : MethodName)) hown (mvT hZ (hw _ (List.mem_of_getElem? (i := 69) rfl))) (mvT hZ (hw _ (List.mem_of_getElem? (i := 70) rfl))) (mvT hZ (hw _ (List.mem_of_getElem? (i := 2) rfl))) (mvT hZ (hw _ (List.mem_of_getElem? (i := 71) rfl))) (by decide) (backOf (W := 0) (rm_pai l Z a0 hw []   h0 n0 Z0 ) hZ (hw _ (List.mem_of_getElem? (i := 71) rfl)) (hw _ (List.mem_of_getElem? (i := 2) rfl)) (by decide) (by decide)) (g := (mkF m 58 #[iv p0, iv p1, iv p2, iv p3, .val (.long q4), .second, iv p5, iv 1, iv kk, iv pos, iv s0, iv s1, iv p5, .unset, .unset, .unset, .unset, .unset, .unset, .unset] [(.int 1)])) rfl (by rw [hml]; rfl) (argsL := [(.int 1)]) (rest := []) (lenOf pd_8 rfl) rfl (by show 2 * 0 + _ ≤ _; exact Nat.le_of_eq rfl) (hb hby at_58) (fun _ _ => ⟨rfl, e0, (by decide : 0 + 6 ≤ _), (by decide : 0 + 13 ≤ _)⟩)
    dsimp only [Pt.U, Pt.locs, Pt.cells, Pt.slots] at X961 l961 y961 z961 st961 hQ961
    rw [l961, y961, z961] at X961
    obtain ⟨g, st, dg, rm, it, sl, k1, k2, k3, k4, k5, hv961, N961q, hA0, hB0⟩ := hQ961
    rw [hv961] at st961
    have N961 := Fr.app N0 N961q
    have Z962 := Nat.le_trans hA0.2.1 (Nat.le_of_lt hA0.1.lt)
    obtain ⟨cq963, kq963, q963a, q963b, q963c⟩ := isOf hZ rfl hA0.1
    obtain ⟨_, _, ⟨T963, L963, k963, n963⟩, -, X963, ⟨Lc963, hQ963, l963, y963, z963⟩, st963⟩ := X961.virtualBack hx (y := (⟨"com/example/plebiscite/plebiscite/Adjacency", "add", "(III)V"⟩ : MethodName)) (z := (⟨"com/example/plebiscite/plebiscite/Adjacency", "add", "(III)V"⟩ : MethodName)) hown (mvT hZ (hw _ (List.mem_of_getElem? (i := 77) rfl))) (mvT hZ (hw _ (List.mem_of_getElem? (i := 78) rfl))) (notFace_of_selects (args := #[]) (mvT hZ (hw _ (List.mem_of_getElem? (i := 80) rfl)))) (mvT hZ (hw _ (List.mem_of_getElem? (i := 80) rfl))) (mvT hZ (hw _ (List.mem_of_getElem? (i := 79) rfl))) (by decide) (backOf (W := 0) (rm_adg l Z a0 hw [] g p1 s0 st dg rm it k1 k2 k3 k4 sl k5 T961.heap n0 Z962 hA0 hB0) hZ (hw _ (List.mem_of_getElem? (i := 81) rfl)) (hw _ (List.mem_of_getElem? (i := 2) rfl)) (by decide) (by decide)) q963a q963c (g := (mkF m 69 #[iv p0, iv p1, iv p2, iv p3, .val (.long q4), .second, iv p5, iv 1, iv kk, iv pos, iv s0, iv s1, iv p5, rv g, .unset, .unset, .unset, .unset, .unset, .unset] [(.int s0), (.int p1), (.int 0), (.ref g)])) rfl (by rw [hml]; rfl) (Steps.refl _) (argsL := [(.int 0), (.int p1), (.int s0)]) (rest := []) (lenOf pd_9 rfl) rfl (by show 2 * 0 + _ ≤ _; exact Nat.le_of_eq rfl) (hb hby at_69) (fun _ _ => ⟨rfl, rfl, (by decide : 6 + 2 ≤ _), (by decide : 13 + 32 ≤ _)⟩)
    dsimp only [Pt.U, Pt.locs, Pt.cells, Pt.slots] at X963 l963 y963 z963 st963 hQ963
    rw [l963, y963, z963] at X963
    obtain ⟨it2, sl2, k42, k52, hv963, N963q, hA, hB⟩ := hQ963
    rw [hv963] at st963
    have N963 := Fr.app N961 N963q
    have HA1 : own_A Z T963.heap n0 g st dg rm it2 k1 k2 k3 k42 (16 : Int32) [.int p1, .int (0 : Int32), .int (0 : Int32), .int (0 : Int32), .int (0 : Int32), .int (0 : Int32), .int (0 : Int32), .int (0 : Int32), .int (0 : Int32), .int (0 : Int32), .int (0 : Int32), .int (0 : Int32), .int (0 : Int32), .int (0 : Int32), .int (0 : Int32), .int (0 : Int32)] (.ref sl2) (1 : Int32) (1 : Int32) (1 : Int32) (1 : Int32) (1 : Int32) := hA
    have HB1 : own_S Z T963.heap n0 sl2 k52 (16 : Int32) [.int s0, .int (0 : Int32), .int (0 : Int32), .int (0 : Int32), .int (0 : Int32), .int (0 : Int32), .int (0 : Int32), .int (0 : Int32), .int (0 : Int32), .int (0 : Int32), .int (0 : Int32), .int (0 : Int32), .int (0 : Int32), .int (0 : Int32), .int (0 : Int32), .int (0 : Int32)] g st dg rm it2 := hB
    have Z964 := Nat.le_trans HA1.2.1 (Nat.le_of_lt HA1.1.lt)
    have go965 : ∀ t, Steps p.tables e below (T963.setTop (mkF m 72 #[iv p0, iv p1, iv p2, iv p3, .val (.long q4), .second, iv p5, iv 1, iv kk, iv pos, iv s0, iv s1, iv p5, rv g, .unset, .unset, .unset, .unset, .unset, .unset] [])) t → Steps p.tables e below O t := fun t k => go960 t (by
      refine XS.iload X0.here hx rfl (hb hby at_48) rfl ?_
      refine XS.istore X0.here hx rfl (hb hby at_50) rfl (l' := #[iv p0, iv p1, iv p2, iv p3, .val (.long q4), .second, iv p5, iv 1, iv kk, iv pos, iv s0, iv s1, iv p5, .unset, .unset, .unset, .unset, .unset, .unset, .unset]) rfl ?_
      show Steps _ _ _ (s₁.setTop (mkF m 52 _ [])) _
      refine XS.iload X0.here hx rfl (hb hby at_52) rfl ?_
      refine XS.ifNo X0.here hx rfl (hb hby at_54) rfl ((if0 _ _).trans (feq (by decide : ¬ ((1 : Int32) = (0 : Int32)))).1) ?_
      show Steps _ _ _ (s₁.setTop (mkF m 57 _ [])) _
      refine XS.iconst X0.here hx rfl (hb hby at_57) ?_
      refine st961 _ ?_
      show Steps _ _ _ (T961.setTop (mkF m 61 _ [(.ref g)])) _
      refine XS.astore X961.here hx rfl (hb hby at_61) rfl rfl (l' := #[iv p0, iv p1, iv p2, iv p3, .val (.long q4), .second, iv p5, iv 1, iv kk, iv pos, iv s0, iv s1, iv p5, rv g, .unset, .unset, .unset, .unset, .unset, .unset]) rfl ?_
      show Steps _ _ _ (T961.setTop (mkF m 63 _ [])) _
      refine XS.aload X961.here hx rfl (hb hby at_63) rfl rfl ?_
      refine XS.iconst X961.here hx rfl (hb hby at_65) ?_
      show Steps _ _ _ (T961.setTop (mkF m 66 _ [(.int 0), (.ref g)])) _
      refine XS.iloadN X961.here hx rfl (hb hby at_66) rfl ?_
      refine XS.iload X961.here hx rfl (hb hby at_67) rfl ?_
      show Steps _ _ _ (T961.setTop (mkF m 69 _ [(.int s0), (.int p1), (.int 0), (.ref g)])) _
      refine st963.trans ?_
      show Steps _ _ _ (T963.setTop (mkF m 72 _ [])) _
      exact k)
    rcases hk with rfl | rfl | rfl
    · obtain ⟨cq966, kq966, q966a, q966b, q966c⟩ := isOf hZ rfl HA1.1
      obtain ⟨_, _, ⟨T966, L966, k966, n966⟩, -, X966, ⟨Lc966, hQ966, l966, y966, z966⟩, st966⟩ := X963.virtualBack hx (y := (⟨"com/example/plebiscite/plebiscite/Adjacency", "remove", "(II)V"⟩ : MethodName)) (z := (⟨"com/example/plebiscite/plebiscite/Adjacency", "remove", "(II)V"⟩ : MethodName)) hown (mvT hZ (hw _ (List.mem_of_getElem? (i := 47) rfl))) (mvT hZ (hw _ (List.mem_of_getElem? (i := 48) rfl))) (notFace_of_selects (args := #[]) (mvT hZ (hw _ (List.mem_of_getElem? (i := 50) rfl)))) (mvT hZ (hw _ (List.mem_of_getElem? (i := 50) rfl))) (mvT hZ (hw _ (List.mem_of_getElem? (i := 49) rfl))) (by decide) (backOf (W := 0) (rm_rmp l Z a0 hw [] g pos st dg rm it2 k1 k2 k3 k42 (16 : Int32) [.int p1, .int (0 : Int32), .int (0 : Int32), .int (0 : Int32), .int (0 : Int32), .int (0 : Int32), .int (0 : Int32), .int (0 : Int32), .int (0 : Int32), .int (0 : Int32), .int (0 : Int32), .int (0 : Int32), .int (0 : Int32), .int (0 : Int32), .int (0 : Int32), .int (0 : Int32)] (1 : Int32) sl2 k52 [.int s0, .int (0 : Int32), .int (0 : Int32), .int (0 : Int32), .int (0 : Int32), .int (0 : Int32), .int (0 : Int32), .int (0 : Int32), .int (0 : Int32), .int (0 : Int32), .int (0 : Int32), .int (0 : Int32), .int (0 : Int32), .int (0 : Int32), .int (0 : Int32), .int (0 : Int32)] p1 s0 T963.heap n0 Z964 HA1 HB1 ⟨by decide, by decide⟩ rfl hpi.2.2.2.1 hpi.2.2.2.2.2 rfl hpi.2.2.2.2.2) hZ (hw _ (List.mem_of_getElem? (i := 51) rfl)) (hw _ (List.mem_of_getElem? (i := 2) rfl)) (by decide) (by decide)) q966a q966c (g := (mkF m 154 #[iv p0, iv p1, iv p2, iv p3, .val (.long q4), .second, iv p5, iv 1, iv 1, iv pos, iv s0, iv s1, iv p5, rv g, .unset, .unset, .unset, .unset, .unset, .unset] [(.int pos), (.int 0), (.ref g)])) rfl (by rw [hml]; rfl) (Steps.refl _) (argsL := [(.int 0), (.int pos)]) (rest := []) (lenOf pd_0 rfl) rfl (by show 2 * 0 + _ ≤ _; exact Nat.le_of_eq rfl) (hb hby at_154) (fun _ _ => ⟨rfl, rfl, (by decide : 8 + 0 ≤ _), (by decide : 45 + 0 ≤ _)⟩)
      dsimp only [Pt.U, Pt.locs, Pt.cells, Pt.slots] at X966 l966 y966 z966 st966 hQ966
      rw [l966, y966, z966] at X966
      obtain ⟨hv966, N966q, hA, hB⟩ := hQ966
      rw [hv966] at st966
      have N966 := Fr.app N963 N966q
      have hp1 := own_pos1 g_p.1 g_p.2.1
      obtain ⟨e0, he, hi⟩ := own_sync1 pos p1 p2 p3 p1 [.int (0 : Int32), .int (0 : Int32), .int (0 : Int32), .int (0 : Int32), .int (0 : Int32), .int (0 : Int32), .int (0 : Int32), .int (0 : Int32), .int (0 : Int32), .int (0 : Int32), .int (0 : Int32), .int (0 : Int32), .int (0 : Int32), .int (0 : Int32), .int (0 : Int32)] hp1
      have hA2 : own_A Z T966.heap n0 g st dg rm it2 k1 k2 k3 k42 (16 : Int32) [.int e0, .int (0 : Int32), .int (0 : Int32), .int (0 : Int32), .int (0 : Int32), .int (0 : Int32), .int (0 : Int32), .int (0 : Int32), .int (0 : Int32), .int (0 : Int32), .int (0 : Int32), .int (0 : Int32), .int (0 : Int32), .int (0 : Int32), .int (0 : Int32), .int (0 : Int32)] (.ref sl2) (0 : Int32) (1 : Int32) (1 : Int32) (1 : Int32) (0 : Int32) := hi ▸ hA
      obtain ⟨f0_, hf, hj⟩ := own_sync1 pos s0 s1 p5 s0 [.int (0 : Int32), .int (0 : Int32), .int (0 : Int32), .int (0 : Int32), .int (0 : Int32), .int (0 : Int32), .int (0 : Int32), .int (0 : Int32), .int (0 : Int32), .int (0 : Int32), .int (0 : Int32), .int (0 : Int32), .int (0 : Int32), .int (0 : Int32), .int (0 : Int32)] hp1
      have hB2 : own_S Z T966.heap n0 sl2 k52 (16 : Int32) [.int f0_, .int (0 : Int32), .int (0 : Int32), .int (0 : Int32), .int (0 : Int32), .int (0 : Int32), .int (0 : Int32), .int (0 : Int32), .int (0 : Int32), .int (0 : Int32), .int (0 : Int32), .int (0 : Int32), .int (0 : Int32), .int (0 : Int32), .int (0 : Int32), .int (0 : Int32)] g st dg rm it2 := hj ▸ hB
      obtain ⟨AX_967, Ag0_967, Ag1_967, Ag2_967, Ag3_967, Ag4_967, AF0_967, AF1_967, AF2_967, AF3_967, AF4_967, AF5_967, AF6_967, AF7_967, AF8_967, AV0_967, AV1_967, AV2_967, AV3_967, AN0_967, AN1_967, AN2_967, AN3_967, AN4_967, AN5_967, AN6_967, AN7_967, AN8_967, AN9_967⟩ := hA2
      have Z968 := Nat.le_trans Ag0_967 (Nat.le_of_lt AX_967.lt)
      obtain ⟨SG_969, SV_969, SN0_969, SN1_969, SN2_969, SN3_969, SN4_969⟩ := hB2
      obtain ⟨T970, h970, k970, X970, e970, E970, A970, st970⟩ := newP X966 hx hZ (hw _ (List.mem_of_getElem? (i := 9) rfl)) rfl (g := (mkF m 158 #[iv p0, iv p1, iv p2, iv p3, .val (.long q4), .second, iv p5, iv 1, iv 1, iv pos, iv s0, iv s1, iv p5, rv g, .unset, .unset, .unset, .unset, .unset, .unset] [(.int 3)])) rfl (hb hby at_158) rfl (by decide) (cap := 3) (by decide) (by decide) (by decide) (by decide)
      obtain ⟨old, g970⟩ : ∃ z, z = T966.heap.size := ⟨_, rfl⟩
      have ne971 : g ≠ old := Nat.ne_of_lt (Nat.lt_of_lt_of_le AX_967.lt (Nat.le_of_eq g970.symm))
      have ne972 : st ≠ old := Nat.ne_of_lt (Nat.lt_of_lt_of_le AV0_967.lt (Nat.le_of_eq g970.symm))
      have ne973 : dg ≠ old := Nat.ne_of_lt (Nat.lt_of_lt_of_le AV1_967.lt (Nat.le_of_eq g970.symm))
      have ne974 : it2 ≠ old := Nat.ne_of_lt (Nat.lt_of_lt_of_le AV3_967.lt (Nat.le_of_eq g970.symm))
      have ne975 : sl2 ≠ old := Nat.ne_of_lt (Nat.lt_of_lt_of_le SV_969.lt (Nat.le_of_eq g970.symm))
      have ge_old : n0 ≤ old := Nat.le_trans Z968 (Nat.le_of_eq g970.symm)
      rw [← g970] at A970 st970
      have f976 := AX_967.ext E970
      have f977 := AF0_967.ext E970
      have f978 := AF1_967.ext E970
      have f979 := AF3_967.ext E970
      have f980 := AF4_967.ext E970
      have f981 := AF7_967.ext E970
      have f982 := AV0_967.ext E970
      have f983 := AV1_967.ext E970
      have f984 := AV3_967.ext E970
      have f985 := SV_969.ext E970
      have Z986 := Nat.le_trans Z968 E970.1
      have V_old_970 : Arv Z h970 old k970 .int (3 : Int32) [(.int 0), (.int 0), (.int 0)] (.int 0) := (Arv.new A970 (by decide)).pad (pad_rep [] (.int 0) 3)
      obtain ⟨cl987, Ar987, q987, S987, M987, Hs987, G987⟩ := V_old_970
      have f988 : Arv Z h970 old k970 .int (3 : Int32) [(.int 0), (.int 0), (.int 0)] (.int 0) := ⟨cl987, Ar987, q987, S987, M987, Hs987, G987⟩
      have hin989 : ¬ ((0 : Int32) < 0 ∨ cl987.slots.size ≤ ((0 : Int32)).toNatClampNeg) := inb_of S987 ⟨by decide, by decide⟩
      obtain ⟨T989, h989, X989, e989, W989, st989⟩ := stI X970 hx hZ e970 Ar987 (j := (0 : Int32)) hin989 (g := (mkF m 163 #[iv p0, iv p1, iv p2, iv p3, .val (.long q4), .second, iv p5, iv 1, iv 1, iv pos, iv s0, iv s1, iv p5, rv g, .unset, .unset, .unset, .unset, .unset, .unset] [(.int p1), (.int 0), (.ref old), (.ref old)])) rfl rfl (hb hby at_163)
      have f990 := f976.wr W989
      have f991 := f977.other W989 (Or.inl ne971)
      have f992 := f978.other W989 (Or.inl ne971)
      have f993 := f979.other W989 (Or.inl ne971)
      have f994 := f980.other W989 (Or.inl ne971)
      have f995 := f981.other W989 (Or.inl ne971)
      have f996 := f982.other W989 ne972
      have f997 := f983.other W989 ne973
      have f998 := f984.other W989 ne974
      have f999 := f985.other W989 ne975
      have Z1000 := Nat.le_trans Z986 (Keep.of_wr W989).1
      have V989 : Arv Z h989 old k970 .int (3 : Int32) [(.int p1), (.int 0), (.int 0)] (.int 0) := Arv.set Ar987 q987 S987 M987 Hs987 G987 rfl W989 0 rfl (Nat.le_of_ble_eq_true rfl)
      have N989 := Fr.snoc X989 N966 ge_old
      obtain ⟨cl1001, Ar1001, q1001, S1001, M1001, Hs1001, G1001⟩ := V989
      have f1002 : Arv Z h989 old k970 .int (3 : Int32) [(.int p1), (.int 0), (.int 0)] (.int 0) := ⟨cl1001, Ar1001, q1001, S1001, M1001, Hs1001, G1001⟩
      have hin1003 : ¬ ((1 : Int32) < 0 ∨ cl1001.slots.size ≤ ((1 : Int32)).toNatClampNeg) := inb_of S1001 ⟨by decide, by decide⟩
      obtain ⟨T1003, h1003, X1003, e1003, W1003, st1003⟩ := stI X989 hx hZ e989 Ar1001 (j := (1 : Int32)) hin1003 (g := (mkF m 167 #[iv p0, iv p1, iv p2, iv p3, .val (.long q4), .second, iv p5, iv 1, iv 1, iv pos, iv s0, iv s1, iv p5, rv g, .unset, .unset, .unset, .unset, .unset, .unset] [(.int p2), (.int 1), (.ref old), (.ref old)])) rfl rfl (hb hby at_167)
      have f1004 := f990.wr W1003
      have f1005 := f991.other W1003 (Or.inl ne971)
      have f1006 := f992.other W1003 (Or.inl ne971)
      have f1007 := f993.other W1003 (Or.inl ne971)
      have f1008 := f994.other W1003 (Or.inl ne971)
      have f1009 := f995.other W1003 (Or.inl ne971)
      have f1010 := f996.other W1003 ne972
      have f1011 := f997.other W1003 ne973
      have f1012 := f998.other W1003 ne974
      have f1013 := f999.other W1003 ne975
      have Z1014 := Nat.le_trans Z1000 (Keep.of_wr W1003).1
      have V1003 : Arv Z h1003 old k970 .int (3 : Int32) [(.int p1), (.int p2), (.int 0)] (.int 0) := Arv.set Ar1001 q1001 S1001 M1001 Hs1001 G1001 rfl W1003 1 rfl (Nat.le_of_ble_eq_true rfl)
      have N1003 := Fr.snoc X1003 N989 ge_old
      obtain ⟨cl1015, Ar1015, q1015, S1015, M1015, Hs1015, G1015⟩ := V1003
      have f1016 : Arv Z h1003 old k970 .int (3 : Int32) [(.int p1), (.int p2), (.int 0)] (.int 0) := ⟨cl1015, Ar1015, q1015, S1015, M1015, Hs1015, G1015⟩
      have hin1017 : ¬ ((2 : Int32) < 0 ∨ cl1015.slots.size ≤ ((2 : Int32)).toNatClampNeg) := inb_of S1015 ⟨by decide, by decide⟩
      obtain ⟨T1017, h1017, X1017, e1017, W1017, st1017⟩ := stI X1003 hx hZ e1003 Ar1015 (j := (2 : Int32)) hin1017 (g := (mkF m 171 #[iv p0, iv p1, iv p2, iv p3, .val (.long q4), .second, iv p5, iv 1, iv 1, iv pos, iv s0, iv s1, iv p5, rv g, .unset, .unset, .unset, .unset, .unset, .unset] [(.int p3), (.int 2), (.ref old), (.ref old)])) rfl rfl (hb hby at_171)
      have f1018 := f1004.wr W1017
      have f1019 := f1005.other W1017 (Or.inl ne971)
      have f1020 := f1006.other W1017 (Or.inl ne971)
      have f1021 := f1007.other W1017 (Or.inl ne971)
      have f1022 := f1008.other W1017 (Or.inl ne971)
      have f1023 := f1009.other W1017 (Or.inl ne971)
      have f1024 := f1010.other W1017 ne972
      have f1025 := f1011.other W1017 ne973
      have f1026 := f1012.other W1017 ne974
      have f1027 := f1013.other W1017 ne975
      have Z1028 := Nat.le_trans Z1014 (Keep.of_wr W1017).1
      have V1017 : Arv Z h1017 old k970 .int (3 : Int32) [(.int p1), (.int p2), (.int p3)] (.int 0) := Arv.set Ar1015 q1015 S1015 M1015 Hs1015 G1015 rfl W1017 2 rfl (Nat.le_of_ble_eq_true rfl)
      have N1017 := Fr.snoc X1017 N1003 ge_old
      obtain ⟨T1029, h1029, k1029, X1029, e1029, E1029, A1029, st1029⟩ := newP X1017 hx hZ (hw _ (List.mem_of_getElem? (i := 9) rfl)) e1017 (g := (mkF m 175 #[iv p0, iv p1, iv p2, iv p3, .val (.long q4), .second, iv p5, iv 1, iv 1, iv pos, iv s0, iv s1, iv p5, rv g, rv old, .unset, .unset, .unset, .unset, .unset] [(.int 3)])) rfl (hb hby at_175) rfl (by decide) (cap := 3) (by decide) (by decide) (by decide) (by decide)
      obtain ⟨olds, g1029⟩ : ∃ z, z = h1017.size := ⟨_, rfl⟩
      have ne1030 : g ≠ olds := Nat.ne_of_lt (Nat.lt_of_lt_of_le f1018.lt (Nat.le_of_eq g1029.symm))
      have ne1031 : st ≠ olds := Nat.ne_of_lt (Nat.lt_of_lt_of_le f1024.lt (Nat.le_of_eq g1029.symm))
      have ne1032 : dg ≠ olds := Nat.ne_of_lt (Nat.lt_of_lt_of_le f1025.lt (Nat.le_of_eq g1029.symm))
      have ne1033 : it2 ≠ olds := Nat.ne_of_lt (Nat.lt_of_lt_of_le f1026.lt (Nat.le_of_eq g1029.symm))
      have ne1034 : sl2 ≠ olds := Nat.ne_of_lt (Nat.lt_of_lt_of_le f1027.lt (Nat.le_of_eq g1029.symm))
      have ne1035 : old ≠ olds := Nat.ne_of_lt (Nat.lt_of_lt_of_le V1017.lt (Nat.le_of_eq g1029.symm))
      have ge_olds : n0 ≤ olds := Nat.le_trans Z1028 (Nat.le_of_eq g1029.symm)
      rw [← g1029] at A1029 st1029
      have f1036 := f1018.ext E1029
      have f1037 := f1019.ext E1029
      have f1038 := f1020.ext E1029
      have f1039 := f1021.ext E1029
      have f1040 := f1022.ext E1029
      have f1041 := f1023.ext E1029
      have f1042 := f1024.ext E1029
      have f1043 := f1025.ext E1029
      have f1044 := f1026.ext E1029
      have f1045 := f1027.ext E1029
      have f1046 := V1017.ext E1029
      have Z1047 := Nat.le_trans Z1028 E1029.1
      have V_olds_1029 : Arv Z h1029 olds k1029 .int (3 : Int32) [(.int 0), (.int 0), (.int 0)] (.int 0) := (Arv.new A1029 (by decide)).pad (pad_rep [] (.int 0) 3)
      obtain ⟨cl1048, Ar1048, q1048, S1048, M1048, Hs1048, G1048⟩ := V_olds_1029
      have f1049 : Arv Z h1029 olds k1029 .int (3 : Int32) [(.int 0), (.int 0), (.int 0)] (.int 0) := ⟨cl1048, Ar1048, q1048, S1048, M1048, Hs1048, G1048⟩
      have hin1050 : ¬ ((0 : Int32) < 0 ∨ cl1048.slots.size ≤ ((0 : Int32)).toNatClampNeg) := inb_of S1048 ⟨by decide, by decide⟩
      obtain ⟨T1050, h1050, X1050, e1050, W1050, st1050⟩ := stI X1029 hx hZ e1029 Ar1048 (j := (0 : Int32)) hin1050 (g := (mkF m 181 #[iv p0, iv p1, iv p2, iv p3, .val (.long q4), .second, iv p5, iv 1, iv 1, iv pos, iv s0, iv s1, iv p5, rv g, rv old, .unset, .unset, .unset, .unset, .unset] [(.int s0), (.int 0), (.ref olds), (.ref olds)])) rfl rfl (hb hby at_181)
      have f1051 := f1036.wr W1050
      have f1052 := f1037.other W1050 (Or.inl ne1030)
      have f1053 := f1038.other W1050 (Or.inl ne1030)
      have f1054 := f1039.other W1050 (Or.inl ne1030)
      have f1055 := f1040.other W1050 (Or.inl ne1030)
      have f1056 := f1041.other W1050 (Or.inl ne1030)
      have f1057 := f1042.other W1050 ne1031
      have f1058 := f1043.other W1050 ne1032
      have f1059 := f1044.other W1050 ne1033
      have f1060 := f1045.other W1050 ne1034
      have f1061 := f1046.other W1050 ne1035
      have Z1062 := Nat.le_trans Z1047 (Keep.of_wr W1050).1
      have V1050 : Arv Z h1050 olds k1029 .int (3 : Int32) [(.int s0), (.int 0), (.int 0)] (.int 0) := Arv.set Ar1048 q1048 S1048 M1048 Hs1048 G1048 rfl W1050 0 rfl (Nat.le_of_ble_eq_true rfl)
      have N1050 := Fr.snoc X1050 N1017 ge_olds
      obtain ⟨cl1063, Ar1063, q1063, S1063, M1063, Hs1063, G1063⟩ := V1050
      have f1064 : Arv Z h1050 olds k1029 .int (3 : Int32) [(.int s0), (.int 0), (.int 0)] (.int 0) := ⟨cl1063, Ar1063, q1063, S1063, M1063, Hs1063, G1063⟩
      have hin1065 : ¬ ((1 : Int32) < 0 ∨ cl1063.slots.size ≤ ((1 : Int32)).toNatClampNeg) := inb_of S1063 ⟨by decide, by decide⟩
      obtain ⟨T1065, h1065, X1065, e1065, W1065, st1065⟩ := stI X1050 hx hZ e1050 Ar1063 (j := (1 : Int32)) hin1065 (g := (mkF m 186 #[iv p0, iv p1, iv p2, iv p3, .val (.long q4), .second, iv p5, iv 1, iv 1, iv pos, iv s0, iv s1, iv p5, rv g, rv old, .unset, .unset, .unset, .unset, .unset] [(.int s1), (.int 1), (.ref olds), (.ref olds)])) rfl rfl (hb hby at_186)
      have f1066 := f1051.wr W1065
      have f1067 := f1052.other W1065 (Or.inl ne1030)
      have f1068 := f1053.other W1065 (Or.inl ne1030)
      have f1069 := f1054.other W1065 (Or.inl ne1030)
      have f1070 := f1055.other W1065 (Or.inl ne1030)
      have f1071 := f1056.other W1065 (Or.inl ne1030)
      have f1072 := f1057.other W1065 ne1031
      have f1073 := f1058.other W1065 ne1032
      have f1074 := f1059.other W1065 ne1033
      have f1075 := f1060.other W1065 ne1034
      have f1076 := f1061.other W1065 ne1035
      have Z1077 := Nat.le_trans Z1062 (Keep.of_wr W1065).1
      have V1065 : Arv Z h1065 olds k1029 .int (3 : Int32) [(.int s0), (.int s1), (.int 0)] (.int 0) := Arv.set Ar1063 q1063 S1063 M1063 Hs1063 G1063 rfl W1065 1 rfl (Nat.le_of_ble_eq_true rfl)
      have N1065 := Fr.snoc X1065 N1050 ge_olds
      obtain ⟨cl1078, Ar1078, q1078, S1078, M1078, Hs1078, G1078⟩ := V1065
      have f1079 : Arv Z h1065 olds k1029 .int (3 : Int32) [(.int s0), (.int s1), (.int 0)] (.int 0) := ⟨cl1078, Ar1078, q1078, S1078, M1078, Hs1078, G1078⟩
      have hin1080 : ¬ ((2 : Int32) < 0 ∨ cl1078.slots.size ≤ ((2 : Int32)).toNatClampNeg) := inb_of S1078 ⟨by decide, by decide⟩
      obtain ⟨T1080, h1080, X1080, e1080, W1080, st1080⟩ := stI X1065 hx hZ e1065 Ar1078 (j := (2 : Int32)) hin1080 (g := (mkF m 191 #[iv p0, iv p1, iv p2, iv p3, .val (.long q4), .second, iv p5, iv 1, iv 1, iv pos, iv s0, iv s1, iv p5, rv g, rv old, .unset, .unset, .unset, .unset, .unset] [(.int p5), (.int 2), (.ref olds), (.ref olds)])) rfl rfl (hb hby at_191)
      have f1081 := f1066.wr W1080
      have f1082 := f1067.other W1080 (Or.inl ne1030)
      have f1083 := f1068.other W1080 (Or.inl ne1030)
      have f1084 := f1069.other W1080 (Or.inl ne1030)
      have f1085 := f1070.other W1080 (Or.inl ne1030)
      have f1086 := f1071.other W1080 (Or.inl ne1030)
      have f1087 := f1072.other W1080 ne1031
      have f1088 := f1073.other W1080 ne1032
      have f1089 := f1074.other W1080 ne1033
      have f1090 := f1075.other W1080 ne1034
      have f1091 := f1076.other W1080 ne1035
      have Z1092 := Nat.le_trans Z1077 (Keep.of_wr W1080).1
      have V1080 : Arv Z h1080 olds k1029 .int (3 : Int32) [(.int s0), (.int s1), (.int p5)] (.int 0) := Arv.set Ar1078 q1078 S1078 M1078 Hs1078 G1078 rfl W1080 2 rfl (Nat.le_of_ble_eq_true rfl)
      have N1080 := Fr.snoc X1080 N1065 ge_olds
      obtain ⟨T1093, h1093, k1093, X1093, e1093, E1093, A1093, st1093⟩ := newP X1080 hx hZ (hw _ (List.mem_of_getElem? (i := 9) rfl)) e1080 (g := (mkF m 195 #[iv p0, iv p1, iv p2, iv p3, .val (.long q4), .second, iv p5, iv 1, iv 1, iv pos, iv s0, iv s1, iv p5, rv g, rv old, rv olds, .unset, .unset, .unset, .unset] [(.int 3)])) rfl (hb hby at_195) rfl (by decide) (cap := 3) (by decide) (by decide) (by decide) (by decide)
      obtain ⟨e_, g1093⟩ : ∃ z, z = h1080.size := ⟨_, rfl⟩
      have ne1094 : g ≠ e_ := Nat.ne_of_lt (Nat.lt_of_lt_of_le f1081.lt (Nat.le_of_eq g1093.symm))
      have ne1095 : st ≠ e_ := Nat.ne_of_lt (Nat.lt_of_lt_of_le f1087.lt (Nat.le_of_eq g1093.symm))
      have ne1096 : dg ≠ e_ := Nat.ne_of_lt (Nat.lt_of_lt_of_le f1088.lt (Nat.le_of_eq g1093.symm))
      have ne1097 : it2 ≠ e_ := Nat.ne_of_lt (Nat.lt_of_lt_of_le f1089.lt (Nat.le_of_eq g1093.symm))
      have ne1098 : sl2 ≠ e_ := Nat.ne_of_lt (Nat.lt_of_lt_of_le f1090.lt (Nat.le_of_eq g1093.symm))
      have ne1099 : old ≠ e_ := Nat.ne_of_lt (Nat.lt_of_lt_of_le f1091.lt (Nat.le_of_eq g1093.symm))
      have ne1100 : olds ≠ e_ := Nat.ne_of_lt (Nat.lt_of_lt_of_le V1080.lt (Nat.le_of_eq g1093.symm))
      have ge_e_ : n0 ≤ e_ := Nat.le_trans Z1092 (Nat.le_of_eq g1093.symm)
      rw [← g1093] at A1093 st1093
      have f1101 := f1081.ext E1093
      have f1102 := f1082.ext E1093
      have f1103 := f1083.ext E1093
      have f1104 := f1084.ext E1093
      have f1105 := f1085.ext E1093
      have f1106 := f1086.ext E1093
      have f1107 := f1087.ext E1093
      have f1108 := f1088.ext E1093
      have f1109 := f1089.ext E1093
      have f1110 := f1090.ext E1093
      have f1111 := f1091.ext E1093
      have f1112 := V1080.ext E1093
      have Z1113 := Nat.le_trans Z1092 E1093.1
      have V_e__1093 : Arv Z h1093 e_ k1093 .int (3 : Int32) [(.int 0), (.int 0), (.int 0)] (.int 0) := (Arv.new A1093 (by decide)).pad (pad_rep [] (.int 0) 3)
      obtain ⟨cl1114, Ar1114, q1114, S1114, M1114, Hs1114, G1114⟩ := V_e__1093
      have f1115 : Arv Z h1093 e_ k1093 .int (3 : Int32) [(.int 0), (.int 0), (.int 0)] (.int 0) := ⟨cl1114, Ar1114, q1114, S1114, M1114, Hs1114, G1114⟩
      have hin1116 : ¬ ((0 : Int32) < 0 ∨ cl1114.slots.size ≤ ((0 : Int32)).toNatClampNeg) := inb_of S1114 ⟨by decide, by decide⟩
      obtain ⟨T1116, h1116, X1116, e1116, W1116, st1116⟩ := stI X1093 hx hZ e1093 Ar1114 (j := (0 : Int32)) hin1116 (g := (mkF m 200 #[iv p0, iv p1, iv p2, iv p3, .val (.long q4), .second, iv p5, iv 1, iv 1, iv pos, iv s0, iv s1, iv p5, rv g, rv old, rv olds, .unset, .unset, .unset, .unset] [(.int p1), (.int 0), (.ref e_), (.ref e_)])) rfl rfl (hb hby at_200)
      have f1117 := f1101.wr W1116
      have f1118 := f1102.other W1116 (Or.inl ne1094)
      have f1119 := f1103.other W1116 (Or.inl ne1094)
      have f1120 := f1104.other W1116 (Or.inl ne1094)
      have f1121 := f1105.other W1116 (Or.inl ne1094)
      have f1122 := f1106.other W1116 (Or.inl ne1094)
      have f1123 := f1107.other W1116 ne1095
      have f1124 := f1108.other W1116 ne1096
      have f1125 := f1109.other W1116 ne1097
      have f1126 := f1110.other W1116 ne1098
      have f1127 := f1111.other W1116 ne1099
      have f1128 := f1112.other W1116 ne1100
      have Z1129 := Nat.le_trans Z1113 (Keep.of_wr W1116).1
      have V1116 : Arv Z h1116 e_ k1093 .int (3 : Int32) [(.int p1), (.int 0), (.int 0)] (.int 0) := Arv.set Ar1114 q1114 S1114 M1114 Hs1114 G1114 rfl W1116 0 rfl (Nat.le_of_ble_eq_true rfl)
      have N1116 := Fr.snoc X1116 N1080 ge_e_
      obtain ⟨cl1130, Ar1130, q1130, S1130, M1130, Hs1130, G1130⟩ := V1116
      have f1131 : Arv Z h1116 e_ k1093 .int (3 : Int32) [(.int p1), (.int 0), (.int 0)] (.int 0) := ⟨cl1130, Ar1130, q1130, S1130, M1130, Hs1130, G1130⟩
      have hin1132 : ¬ ((1 : Int32) < 0 ∨ cl1130.slots.size ≤ ((1 : Int32)).toNatClampNeg) := inb_of S1130 ⟨by decide, by decide⟩
      obtain ⟨T1132, h1132, X1132, e1132, W1132, st1132⟩ := stI X1116 hx hZ e1116 Ar1130 (j := (1 : Int32)) hin1132 (g := (mkF m 204 #[iv p0, iv p1, iv p2, iv p3, .val (.long q4), .second, iv p5, iv 1, iv 1, iv pos, iv s0, iv s1, iv p5, rv g, rv old, rv olds, .unset, .unset, .unset, .unset] [(.int p2), (.int 1), (.ref e_), (.ref e_)])) rfl rfl (hb hby at_204)
      have f1133 := f1117.wr W1132
      have f1134 := f1118.other W1132 (Or.inl ne1094)
      have f1135 := f1119.other W1132 (Or.inl ne1094)
      have f1136 := f1120.other W1132 (Or.inl ne1094)
      have f1137 := f1121.other W1132 (Or.inl ne1094)
      have f1138 := f1122.other W1132 (Or.inl ne1094)
      have f1139 := f1123.other W1132 ne1095
      have f1140 := f1124.other W1132 ne1096
      have f1141 := f1125.other W1132 ne1097
      have f1142 := f1126.other W1132 ne1098
      have f1143 := f1127.other W1132 ne1099
      have f1144 := f1128.other W1132 ne1100
      have Z1145 := Nat.le_trans Z1129 (Keep.of_wr W1132).1
      have V1132 : Arv Z h1132 e_ k1093 .int (3 : Int32) [(.int p1), (.int p2), (.int 0)] (.int 0) := Arv.set Ar1130 q1130 S1130 M1130 Hs1130 G1130 rfl W1132 1 rfl (Nat.le_of_ble_eq_true rfl)
      have N1132 := Fr.snoc X1132 N1116 ge_e_
      obtain ⟨cl1146, Ar1146, q1146, S1146, M1146, Hs1146, G1146⟩ := V1132
      have f1147 : Arv Z h1132 e_ k1093 .int (3 : Int32) [(.int p1), (.int p2), (.int 0)] (.int 0) := ⟨cl1146, Ar1146, q1146, S1146, M1146, Hs1146, G1146⟩
      have hin1148 : ¬ ((2 : Int32) < 0 ∨ cl1146.slots.size ≤ ((2 : Int32)).toNatClampNeg) := inb_of S1146 ⟨by decide, by decide⟩
      obtain ⟨T1148, h1148, X1148, e1148, W1148, st1148⟩ := stI X1132 hx hZ e1132 Ar1146 (j := (2 : Int32)) hin1148 (g := (mkF m 208 #[iv p0, iv p1, iv p2, iv p3, .val (.long q4), .second, iv p5, iv 1, iv 1, iv pos, iv s0, iv s1, iv p5, rv g, rv old, rv olds, .unset, .unset, .unset, .unset] [(.int p3), (.int 2), (.ref e_), (.ref e_)])) rfl rfl (hb hby at_208)
      have f1149 := f1133.wr W1148
      have f1150 := f1134.other W1148 (Or.inl ne1094)
      have f1151 := f1135.other W1148 (Or.inl ne1094)
      have f1152 := f1136.other W1148 (Or.inl ne1094)
      have f1153 := f1137.other W1148 (Or.inl ne1094)
      have f1154 := f1138.other W1148 (Or.inl ne1094)
      have f1155 := f1139.other W1148 ne1095
      have f1156 := f1140.other W1148 ne1096
      have f1157 := f1141.other W1148 ne1097
      have f1158 := f1142.other W1148 ne1098
      have f1159 := f1143.other W1148 ne1099
      have f1160 := f1144.other W1148 ne1100
      have Z1161 := Nat.le_trans Z1145 (Keep.of_wr W1148).1
      have V1148 : Arv Z h1148 e_ k1093 .int (3 : Int32) [(.int p1), (.int p2), (.int p3)] (.int 0) := Arv.set Ar1146 q1146 S1146 M1146 Hs1146 G1146 rfl W1148 2 rfl (Nat.le_of_ble_eq_true rfl)
      have N1148 := Fr.snoc X1148 N1132 ge_e_
      obtain ⟨T1162, h1162, k1162, X1162, e1162, E1162, A1162, st1162⟩ := newP X1148 hx hZ (hw _ (List.mem_of_getElem? (i := 9) rfl)) e1148 (g := (mkF m 212 #[iv p0, iv p1, iv p2, iv p3, .val (.long q4), .second, iv p5, iv 1, iv 1, iv pos, iv s0, iv s1, iv p5, rv g, rv old, rv olds, rv e_, .unset, .unset, .unset] [(.int 3)])) rfl (hb hby at_212) rfl (by decide) (cap := 3) (by decide) (by decide) (by decide) (by decide)
      obtain ⟨es, g1162⟩ : ∃ z, z = h1148.size := ⟨_, rfl⟩
      have ne1163 : g ≠ es := Nat.ne_of_lt (Nat.lt_of_lt_of_le f1149.lt (Nat.le_of_eq g1162.symm))
      have ne1164 : st ≠ es := Nat.ne_of_lt (Nat.lt_of_lt_of_le f1155.lt (Nat.le_of_eq g1162.symm))
      have ne1165 : dg ≠ es := Nat.ne_of_lt (Nat.lt_of_lt_of_le f1156.lt (Nat.le_of_eq g1162.symm))
      have ne1166 : it2 ≠ es := Nat.ne_of_lt (Nat.lt_of_lt_of_le f1157.lt (Nat.le_of_eq g1162.symm))
      have ne1167 : sl2 ≠ es := Nat.ne_of_lt (Nat.lt_of_lt_of_le f1158.lt (Nat.le_of_eq g1162.symm))
      have ne1168 : old ≠ es := Nat.ne_of_lt (Nat.lt_of_lt_of_le f1159.lt (Nat.le_of_eq g1162.symm))
      have ne1169 : olds ≠ es := Nat.ne_of_lt (Nat.lt_of_lt_of_le f1160.lt (Nat.le_of_eq g1162.symm))
      have ne1170 : e_ ≠ es := Nat.ne_of_lt (Nat.lt_of_lt_of_le V1148.lt (Nat.le_of_eq g1162.symm))
      have ge_es : n0 ≤ es := Nat.le_trans Z1161 (Nat.le_of_eq g1162.symm)
      rw [← g1162] at A1162 st1162
      have f1171 := f1149.ext E1162
      have f1172 := f1150.ext E1162
      have f1173 := f1151.ext E1162
      have f1174 := f1152.ext E1162
      have f1175 := f1153.ext E1162
      have f1176 := f1154.ext E1162
      have f1177 := f1155.ext E1162
      have f1178 := f1156.ext E1162
      have f1179 := f1157.ext E1162
      have f1180 := f1158.ext E1162
      have f1181 := f1159.ext E1162
      have f1182 := f1160.ext E1162
      have f1183 := V1148.ext E1162
      have Z1184 := Nat.le_trans Z1161 E1162.1
      have V_es_1162 : Arv Z h1162 es k1162 .int (3 : Int32) [(.int 0), (.int 0), (.int 0)] (.int 0) := (Arv.new A1162 (by decide)).pad (pad_rep [] (.int 0) 3)
      obtain ⟨cl1185, Ar1185, q1185, S1185, M1185, Hs1185, G1185⟩ := V_es_1162
      have f1186 : Arv Z h1162 es k1162 .int (3 : Int32) [(.int 0), (.int 0), (.int 0)] (.int 0) := ⟨cl1185, Ar1185, q1185, S1185, M1185, Hs1185, G1185⟩
      have hin1187 : ¬ ((0 : Int32) < 0 ∨ cl1185.slots.size ≤ ((0 : Int32)).toNatClampNeg) := inb_of S1185 ⟨by decide, by decide⟩
      obtain ⟨T1187, h1187, X1187, e1187, W1187, st1187⟩ := stI X1162 hx hZ e1162 Ar1185 (j := (0 : Int32)) hin1187 (g := (mkF m 218 #[iv p0, iv p1, iv p2, iv p3, .val (.long q4), .second, iv p5, iv 1, iv 1, iv pos, iv s0, iv s1, iv p5, rv g, rv old, rv olds, rv e_, .unset, .unset, .unset] [(.int s0), (.int 0), (.ref es), (.ref es)])) rfl rfl (hb hby at_218)
      have f1188 := f1171.wr W1187
      have f1189 := f1172.other W1187 (Or.inl ne1163)
      have f1190 := f1173.other W1187 (Or.inl ne1163)
      have f1191 := f1174.other W1187 (Or.inl ne1163)
      have f1192 := f1175.other W1187 (Or.inl ne1163)
      have f1193 := f1176.other W1187 (Or.inl ne1163)
      have f1194 := f1177.other W1187 ne1164
      have f1195 := f1178.other W1187 ne1165
      have f1196 := f1179.other W1187 ne1166
      have f1197 := f1180.other W1187 ne1167
      have f1198 := f1181.other W1187 ne1168
      have f1199 := f1182.other W1187 ne1169
      have f1200 := f1183.other W1187 ne1170
      have Z1201 := Nat.le_trans Z1184 (Keep.of_wr W1187).1
      have V1187 : Arv Z h1187 es k1162 .int (3 : Int32) [(.int s0), (.int 0), (.int 0)] (.int 0) := Arv.set Ar1185 q1185 S1185 M1185 Hs1185 G1185 rfl W1187 0 rfl (Nat.le_of_ble_eq_true rfl)
      have N1187 := Fr.snoc X1187 N1148 ge_es
      obtain ⟨cl1202, Ar1202, q1202, S1202, M1202, Hs1202, G1202⟩ := V1187
      have f1203 : Arv Z h1187 es k1162 .int (3 : Int32) [(.int s0), (.int 0), (.int 0)] (.int 0) := ⟨cl1202, Ar1202, q1202, S1202, M1202, Hs1202, G1202⟩
      have hin1204 : ¬ ((1 : Int32) < 0 ∨ cl1202.slots.size ≤ ((1 : Int32)).toNatClampNeg) := inb_of S1202 ⟨by decide, by decide⟩
      obtain ⟨T1204, h1204, X1204, e1204, W1204, st1204⟩ := stI X1187 hx hZ e1187 Ar1202 (j := (1 : Int32)) hin1204 (g := (mkF m 223 #[iv p0, iv p1, iv p2, iv p3, .val (.long q4), .second, iv p5, iv 1, iv 1, iv pos, iv s0, iv s1, iv p5, rv g, rv old, rv olds, rv e_, .unset, .unset, .unset] [(.int s1), (.int 1), (.ref es), (.ref es)])) rfl rfl (hb hby at_223)
      have f1205 := f1188.wr W1204
      have f1206 := f1189.other W1204 (Or.inl ne1163)
      have f1207 := f1190.other W1204 (Or.inl ne1163)
      have f1208 := f1191.other W1204 (Or.inl ne1163)
      have f1209 := f1192.other W1204 (Or.inl ne1163)
      have f1210 := f1193.other W1204 (Or.inl ne1163)
      have f1211 := f1194.other W1204 ne1164
      have f1212 := f1195.other W1204 ne1165
      have f1213 := f1196.other W1204 ne1166
      have f1214 := f1197.other W1204 ne1167
      have f1215 := f1198.other W1204 ne1168
      have f1216 := f1199.other W1204 ne1169
      have f1217 := f1200.other W1204 ne1170
      have Z1218 := Nat.le_trans Z1201 (Keep.of_wr W1204).1
      have V1204 : Arv Z h1204 es k1162 .int (3 : Int32) [(.int s0), (.int s1), (.int 0)] (.int 0) := Arv.set Ar1202 q1202 S1202 M1202 Hs1202 G1202 rfl W1204 1 rfl (Nat.le_of_ble_eq_true rfl)
      have N1204 := Fr.snoc X1204 N1187 ge_es
      obtain ⟨cl1219, Ar1219, q1219, S1219, M1219, Hs1219, G1219⟩ := V1204
      have f1220 : Arv Z h1204 es k1162 .int (3 : Int32) [(.int s0), (.int s1), (.int 0)] (.int 0) := ⟨cl1219, Ar1219, q1219, S1219, M1219, Hs1219, G1219⟩
      have hin1221 : ¬ ((2 : Int32) < 0 ∨ cl1219.slots.size ≤ ((2 : Int32)).toNatClampNeg) := inb_of S1219 ⟨by decide, by decide⟩
      obtain ⟨T1221, h1221, X1221, e1221, W1221, st1221⟩ := stI X1204 hx hZ e1204 Ar1219 (j := (2 : Int32)) hin1221 (g := (mkF m 228 #[iv p0, iv p1, iv p2, iv p3, .val (.long q4), .second, iv p5, iv 1, iv 1, iv pos, iv s0, iv s1, iv p5, rv g, rv old, rv olds, rv e_, .unset, .unset, .unset] [(.int p5), (.int 2), (.ref es), (.ref es)])) rfl rfl (hb hby at_228)
      have f1222 := f1205.wr W1221
      have f1223 := f1206.other W1221 (Or.inl ne1163)
      have f1224 := f1207.other W1221 (Or.inl ne1163)
      have f1225 := f1208.other W1221 (Or.inl ne1163)
      have f1226 := f1209.other W1221 (Or.inl ne1163)
      have f1227 := f1210.other W1221 (Or.inl ne1163)
      have f1228 := f1211.other W1221 ne1164
      have f1229 := f1212.other W1221 ne1165
      have f1230 := f1213.other W1221 ne1166
      have f1231 := f1214.other W1221 ne1167
      have f1232 := f1215.other W1221 ne1168
      have f1233 := f1216.other W1221 ne1169
      have f1234 := f1217.other W1221 ne1170
      have Z1235 := Nat.le_trans Z1218 (Keep.of_wr W1221).1
      have V1221 : Arv Z h1221 es k1162 .int (3 : Int32) [(.int s0), (.int s1), (.int p5)] (.int 0) := Arv.set Ar1219 q1219 S1219 M1219 Hs1219 G1219 rfl W1221 2 rfl (Nat.le_of_ble_eq_true rfl)
      have N1221 := Fr.snoc X1221 N1204 ge_es
      obtain ⟨cl1236, Ar1236, q1236, S1236, M1236, Hs1236, G1236⟩ := f1232
      have f1237 : Arv Z h1221 old k970 .int (3 : Int32) [(.int p1), (.int p2), (.int p3)] (.int 0) := ⟨cl1236, Ar1236, q1236, S1236, M1236, Hs1236, G1236⟩
      have hin1238 : ¬ (((1 : Int32) - (1 : Int32)) < 0 ∨ cl1236.slots.size ≤ (((1 : Int32) - (1 : Int32))).toNatClampNeg) := inb_of S1236 ⟨by decide, by decide⟩
      have hat1238 : cl1236.slots[(((1 : Int32) - (1 : Int32))).toNatClampNeg]? = some (.int p1) := Hs1236.at hin1238 rfl
      obtain ⟨cl1239, Ar1239, q1239, S1239, M1239, Hs1239, G1239⟩ := f1234
      have f1240 : Arv Z h1221 e_ k1093 .int (3 : Int32) [(.int p1), (.int p2), (.int p3)] (.int 0) := ⟨cl1239, Ar1239, q1239, S1239, M1239, Hs1239, G1239⟩
      have hin1241 : ¬ (pos < 0 ∨ cl1239.slots.size ≤ (pos).toNatClampNeg) := inb_of S1239 hpi.1
      obtain ⟨T1241, h1241, X1241, e1241, W1241, st1241⟩ := stI X1221 hx hZ e1221 Ar1239 (j := pos) hin1241 (g := (mkF m 242 #[iv p0, iv p1, iv p2, iv p3, .val (.long q4), .second, iv p5, iv 1, iv 1, iv pos, iv s0, iv s1, iv p5, rv g, rv old, rv olds, rv e_, rv es, .unset, .unset] [(.int p1), (.int pos), (.ref e_)])) rfl rfl (hb hby at_242)
      have f1242 := f1222.wr W1241
      have f1243 := f1223.other W1241 (Or.inl ne1094)
      have f1244 := f1224.other W1241 (Or.inl ne1094)
      have f1245 := f1225.other W1241 (Or.inl ne1094)
      have f1246 := f1226.other W1241 (Or.inl ne1094)
      have f1247 := f1227.other W1241 (Or.inl ne1094)
      have f1248 := f1228.other W1241 ne1095
      have f1249 := f1229.other W1241 ne1096
      have f1250 := f1230.other W1241 ne1097
      have f1251 := f1231.other W1241 ne1098
      have f1252 := f1237.other W1241 ne1099
      have f1253 := f1233.other W1241 ne1100
      have f1254 := V1221.other W1241 (Ne.symm ne1170)
      have Z1255 := Nat.le_trans Z1235 (Keep.of_wr W1241).1
      have V1241 : Arv Z h1241 e_ k1093 .int (3 : Int32) ([(.int p1), (.int p2), (.int p3)].set (pos).toNatClampNeg (.int p1)) (.int 0) := Arv.set Ar1239 q1239 S1239 M1239 Hs1239 G1239 rfl W1241 (pos).toNatClampNeg rfl hpi.2.1
      have N1241 := Fr.snoc X1241 N1221 ge_e_
      have f1256 : Arv Z h1241 e_ k1093 .int (3 : Int32) [(.int e0), (.int p2), (.int p3)] (.int (0 : Int32)) := he ▸ V1241
      obtain ⟨cl1257, Ar1257, q1257, S1257, M1257, Hs1257, G1257⟩ := f1253
      have f1258 : Arv Z h1241 olds k1029 .int (3 : Int32) [(.int s0), (.int s1), (.int p5)] (.int 0) := ⟨cl1257, Ar1257, q1257, S1257, M1257, Hs1257, G1257⟩
      have hin1259 : ¬ (((1 : Int32) - (1 : Int32)) < 0 ∨ cl1257.slots.size ≤ (((1 : Int32) - (1 : Int32))).toNatClampNeg) := inb_of S1257 ⟨by decide, by decide⟩
      have hat1259 : cl1257.slots[(((1 : Int32) - (1 : Int32))).toNatClampNeg]? = some (.int s0) := Hs1257.at hin1259 rfl
      obtain ⟨cl1260, Ar1260, q1260, S1260, M1260, Hs1260, G1260⟩ := f1254
      have f1261 : Arv Z h1241 es k1162 .int (3 : Int32) [(.int s0), (.int s1), (.int p5)] (.int 0) := ⟨cl1260, Ar1260, q1260, S1260, M1260, Hs1260, G1260⟩
      have hin1262 : ¬ (pos < 0 ∨ cl1260.slots.size ≤ (pos).toNatClampNeg) := inb_of S1260 hpi.1
      obtain ⟨T1262, h1262, X1262, e1262, W1262, st1262⟩ := stI X1241 hx hZ e1241 Ar1260 (j := pos) hin1262 (g := (mkF m 254 #[iv p0, iv p1, iv p2, iv p3, .val (.long q4), .second, iv p5, iv 1, iv 1, iv pos, iv s0, iv s1, iv p5, rv g, rv old, rv olds, rv e_, rv es, .unset, .unset] [(.int s0), (.int pos), (.ref es)])) rfl rfl (hb hby at_254)
      have f1263 := f1242.wr W1262
      have f1264 := f1243.other W1262 (Or.inl ne1163)
      have f1265 := f1244.other W1262 (Or.inl ne1163)
      have f1266 := f1245.other W1262 (Or.inl ne1163)
      have f1267 := f1246.other W1262 (Or.inl ne1163)
      have f1268 := f1247.other W1262 (Or.inl ne1163)
      have f1269 := f1248.other W1262 ne1164
      have f1270 := f1249.other W1262 ne1165
      have f1271 := f1250.other W1262 ne1166
      have f1272 := f1251.other W1262 ne1167
      have f1273 := f1252.other W1262 ne1168
      have f1274 := f1258.other W1262 ne1169
      have f1275 := f1256.other W1262 ne1170
      have Z1276 := Nat.le_trans Z1255 (Keep.of_wr W1262).1
      have V1262 : Arv Z h1262 es k1162 .int (3 : Int32) ([(.int s0), (.int s1), (.int p5)].set (pos).toNatClampNeg (.int s0)) (.int 0) := Arv.set Ar1260 q1260 S1260 M1260 Hs1260 G1260 rfl W1262 (pos).toNatClampNeg rfl hpi.2.1
      have N1262 := Fr.snoc X1262 N1241 ge_es
      have f1277 : Arv Z h1262 es k1162 .int (3 : Int32) [(.int f0_), (.int s1), (.int p5)] (.int (0 : Int32)) := hf ▸ V1262
      obtain ⟨cq1278, kq1278, q1278a, q1278b, q1278c⟩ := isOf hZ e1262 f1263
      obtain ⟨_, _, ⟨T1278, L1278, k1278, n1278⟩, -, X1278, ⟨Lc1278, hQ1278, l1278, y1278, z1278⟩, st1278⟩ := X1262.virtualBack hx (y := (⟨"com/example/plebiscite/plebiscite/Adjacency", "degree", "(I)I"⟩ : MethodName)) (z := (⟨"com/example/plebiscite/plebiscite/Adjacency", "degree", "(I)I"⟩ : MethodName)) hown (mvT hZ (hw _ (List.mem_of_getElem? (i := 54) rfl))) (mvT hZ (hw _ (List.mem_of_getElem? (i := 55) rfl))) (notFace_of_selects (args := #[]) (mvT hZ (hw _ (List.mem_of_getElem? (i := 57) rfl)))) (mvT hZ (hw _ (List.mem_of_getElem? (i := 57) rfl))) (mvT hZ (hw _ (List.mem_of_getElem? (i := 56) rfl))) (by decide) (backOf (W := 0) (rm_dgr l Z a0 hw [] g dg k2 (0 : Int32) h1262 n0 Z1276 f1265 f1270) hZ (hw _ (List.mem_of_getElem? (i := 58) rfl)) (hw _ (List.mem_of_getElem? (i := 2) rfl)) (by decide) (by decide)) q1278a q1278c (g := (mkF m 258 #[iv p0, iv p1, iv p2, iv p3, .val (.long q4), .second, iv p5, iv 1, iv 1, iv pos, iv s0, iv s1, iv p5, rv g, rv old, rv olds, rv e_, rv es, .unset, .unset] [(.int 0), (.ref g)])) rfl (by rw [hml]; rfl) (Steps.refl _) (argsL := [(.int 0)]) (rest := []) (lenOf pd_4 rfl) rfl (by show 2 * 0 + _ ≤ _; exact Nat.le_of_eq rfl) (hb hby at_258) (fun _ _ => ⟨rfl, e1262, (by decide : 12 + 0 ≤ _), (by decide : 57 + 0 ≤ _)⟩)
      dsimp only [Pt.U, Pt.locs, Pt.cells, Pt.slots] at X1278 l1278 y1278 z1278 st1278 hQ1278
      rw [l1278, y1278, z1278] at X1278
      obtain ⟨hv1278, N1278q, er1⟩ := hQ1278
      rw [hv1278] at st1278
      have N1278 := Fr.app N1262 N1278q
      obtain ⟨cq1279, kq1279, q1279a, q1279b, q1279c⟩ := isOf hZ er1 f1263
      obtain ⟨_, _, ⟨T1279, L1279, k1279, n1279⟩, -, X1279, ⟨Lc1279, hQ1279, l1279, y1279, z1279⟩, st1279⟩ := X1278.virtualBack hx (y := (⟨"com/example/plebiscite/plebiscite/Adjacency", "size", "()I"⟩ : MethodName)) (z := (⟨"com/example/plebiscite/plebiscite/Adjacency", "size", "()I"⟩ : MethodName)) hown (mvT hZ (hw _ (List.mem_of_getElem? (i := 59) rfl))) (mvT hZ (hw _ (List.mem_of_getElem? (i := 60) rfl))) (notFace_of_selects (args := #[]) (mvT hZ (hw _ (List.mem_of_getElem? (i := 62) rfl)))) (mvT hZ (hw _ (List.mem_of_getElem? (i := 62) rfl))) (mvT hZ (hw _ (List.mem_of_getElem? (i := 61) rfl))) (by decide) (backOf (W := 0) (rm_siz l Z a0 hw [] g (0 : Int32) h1262 n0 Z1276 f1268) hZ (hw _ (List.mem_of_getElem? (i := 63) rfl)) (hw _ (List.mem_of_getElem? (i := 2) rfl)) (by decide) (by decide)) q1279a q1279c (g := (mkF m 270 #[iv p0, iv p1, iv p2, iv p3, .val (.long q4), .second, iv p5, iv 1, iv 1, iv pos, iv s0, iv s1, iv p5, rv g, rv old, rv olds, rv e_, rv es, .unset, .unset] [(.ref g)])) rfl (by rw [hml]; rfl) (Steps.refl _) (argsL := []) (rest := []) (lenOf pd_7 rfl) rfl (by show 2 * 0 + _ ≤ _; exact Nat.le_of_eq rfl) (hb hby at_270) (fun _ _ => ⟨rfl, er1, (by decide : 12 + 0 ≤ _), (by decide : 57 + 0 ≤ _)⟩)
      dsimp only [Pt.U, Pt.locs, Pt.cells, Pt.slots] at X1279 l1279 y1279 z1279 st1279 hQ1279
      rw [l1279, y1279, z1279] at X1279
      obtain ⟨hv1279, N1279q, er2⟩ := hQ1279
      rw [hv1279] at st1279
      have N1279 := Fr.app N1278 N1279q
      obtain ⟨cq1280, kq1280, q1280a, q1280b, q1280c⟩ := isOf hZ er2 f1263
      obtain ⟨_, _, ⟨T1280, L1280, k1280, n1280⟩, -, X1280, ⟨Lc1280, hQ1280, l1280, y1280, z1280⟩, st1280⟩ := X1279.virtualBack hx (y := (⟨"com/example/plebiscite/plebiscite/Adjacency", "begin", "(I)I"⟩ : MethodName)) (z := (⟨"com/example/plebiscite/plebiscite/Adjacency", "begin", "(I)I"⟩ : MethodName)) hown (mvT hZ (hw _ (List.mem_of_getElem? (i := 64) rfl))) (mvT hZ (hw _ (List.mem_of_getElem? (i := 65) rfl))) (notFace_of_selects (args := #[]) (mvT hZ (hw _ (List.mem_of_getElem? (i := 67) rfl)))) (mvT hZ (hw _ (List.mem_of_getElem? (i := 67) rfl))) (mvT hZ (hw _ (List.mem_of_getElem? (i := 66) rfl))) (by decide) (backOf (W := 0) (rm_bgn l Z a0 hw [] g st k1 (0 : Int32) h1262 n0 Z1276 f1264 f1269) hZ (hw _ (List.mem_of_getElem? (i := 68) rfl)) (hw _ (List.mem_of_getElem? (i := 2) rfl)) (by decide) (by decide)) q1280a q1280c (g := (mkF m 290 #[iv p0, iv p1, iv p2, iv p3, .val (.long q4), .second, iv p5, iv 1, iv 1, iv pos, iv s0, iv s1, iv p5, rv g, rv old, rv olds, rv e_, rv es, iv 1, .unset] [(.int 0), (.ref g)])) rfl (by rw [hml]; rfl) (Steps.refl _) (argsL := [(.int 0)]) (rest := []) (lenOf pd_4 rfl) rfl (by show 2 * 0 + _ ≤ _; exact Nat.le_of_eq rfl) (hb hby at_290) (fun _ _ => ⟨rfl, er2, (by decide : 12 + 0 ≤ _), (by decide : 57 + 0 ≤ _)⟩)
      dsimp only [Pt.U, Pt.locs, Pt.cells, Pt.slots] at X1280 l1280 y1280 z1280 st1280 hQ1280
      rw [l1280, y1280, z1280] at X1280
      obtain ⟨hv1280, N1280q, er3⟩ := hQ1280
      rw [hv1280] at st1280
      have N1280 := Fr.app N1279 N1280q
      have go1281 : ∀ t, Steps p.tables e below (T1280.setTop (mkF m 403 #[iv p0, iv p1, iv p2, iv p3, .val (.long q4), .second, iv p5, iv 1, iv 1, iv pos, iv s0, iv s1, iv p5, rv g, rv old, rv olds, rv e_, rv es, iv 1, iv 0] [(.int 1)])) t → Steps p.tables e below O t := fun t k => go965 t (by
        refine XS.iload X963.here hx rfl (hb hby at_72) rfl ?_
        refine XS.iconst X963.here hx rfl (hb hby at_74) ?_
        show Steps _ _ _ (T963.setTop (mkF m 75 _ [(.int 2), (.int 1)])) _
        refine XS.icmpYes X963.here hx rfl (pc0 := 75) (pc' := 87) rfl (hb hby at_75) rfl (tlt (by decide : (1 : Int32) < (2 : Int32))).1 (by decide) (by decide) ?_
        refine XS.iload X963.here hx rfl (hb hby at_87) rfl ?_
        show Steps _ _ _ (T963.setTop (mkF m 89 _ [(.int 1)])) _
        refine XS.iconst X963.here hx rfl (hb hby at_89) ?_
        refine XS.icmpYes X963.here hx rfl (pc0 := 90) (pc' := 149) rfl (hb hby at_90) rfl (tlt (by decide : (1 : Int32) < (3 : Int32))).1 (by decide) (by decide) ?_
        show Steps _ _ _ (T963.setTop (mkF m 149 _ [])) _
        refine XS.aload X963.here hx rfl (hb hby at_149) rfl rfl ?_
        refine XS.iconst X963.here hx rfl (hb hby at_151) ?_
        show Steps _ _ _ (T963.setTop (mkF m 152 _ [(.int 0), (.ref g)])) _
        refine XS.iload X963.here hx rfl (hb hby at_152) rfl ?_
        refine st966.trans ?_
        show Steps _ _ _ (T966.setTop (mkF m 157 _ [])) _
        refine XS.iconst X966.here hx rfl (hb hby at_157) ?_
        refine st970 _ ?_
        show Steps _ _ _ (T970.setTop (mkF m 160 _ [(.ref old)])) _
        refine XS.dup X970.here hx rfl (hb hby at_160) rfl rfl ?_
        refine XS.iconst X970.here hx rfl (hb hby at_161) ?_
        show Steps _ _ _ (T970.setTop (mkF m 162 _ [(.int 0), (.ref old), (.ref old)])) _
        refine XS.iloadN X970.here hx rfl (hb hby at_162) rfl ?_
        refine st989 _ ?_
        show Steps _ _ _ (T989.setTop (mkF m 164 _ [(.ref old)])) _
        refine XS.dup X989.here hx rfl (hb hby at_164) rfl rfl ?_
        refine XS.iconst X989.here hx rfl (hb hby at_165) ?_
        show Steps _ _ _ (T989.setTop (mkF m 166 _ [(.int 1), (.ref old), (.ref old)])) _
        refine XS.iloadN X989.here hx rfl (hb hby at_166) rfl ?_
        refine st1003 _ ?_
        show Steps _ _ _ (T1003.setTop (mkF m 168 _ [(.ref old)])) _
        refine XS.dup X1003.here hx rfl (hb hby at_168) rfl rfl ?_
        refine XS.iconst X1003.here hx rfl (hb hby at_169) ?_
        show Steps _ _ _ (T1003.setTop (mkF m 170 _ [(.int 2), (.ref old), (.ref old)])) _
        refine XS.iloadN X1003.here hx rfl (hb hby at_170) rfl ?_
        refine st1017 _ ?_
        show Steps _ _ _ (T1017.setTop (mkF m 172 _ [(.ref old)])) _
        refine XS.astore X1017.here hx rfl (hb hby at_172) rfl rfl (l' := #[iv p0, iv p1, iv p2, iv p3, .val (.long q4), .second, iv p5, iv 1, iv 1, iv pos, iv s0, iv s1, iv p5, rv g, rv old, .unset, .unset, .unset, .unset, .unset]) rfl ?_
        show Steps _ _ _ (T1017.setTop (mkF m 174 _ [])) _
        refine XS.iconst X1017.here hx rfl (hb hby at_174) ?_
        refine st1029 _ ?_
        show Steps _ _ _ (T1029.setTop (mkF m 177 _ [(.ref olds)])) _
        refine XS.dup X1029.here hx rfl (hb hby at_177) rfl rfl ?_
        refine XS.iconst X1029.here hx rfl (hb hby at_178) ?_
        show Steps _ _ _ (T1029.setTop (mkF m 179 _ [(.int 0), (.ref olds), (.ref olds)])) _
        refine XS.iload X1029.here hx rfl (hb hby at_179) rfl ?_
        refine st1050 _ ?_
        show Steps _ _ _ (T1050.setTop (mkF m 182 _ [(.ref olds)])) _
        refine XS.dup X1050.here hx rfl (hb hby at_182) rfl rfl ?_
        refine XS.iconst X1050.here hx rfl (hb hby at_183) ?_
        show Steps _ _ _ (T1050.setTop (mkF m 184 _ [(.int 1), (.ref olds), (.ref olds)])) _
        refine XS.iload X1050.here hx rfl (hb hby at_184) rfl ?_
        refine st1065 _ ?_
        show Steps _ _ _ (T1065.setTop (mkF m 187 _ [(.ref olds)])) _
        refine XS.dup X1065.here hx rfl (hb hby at_187) rfl rfl ?_
        refine XS.iconst X1065.here hx rfl (hb hby at_188) ?_
        show Steps _ _ _ (T1065.setTop (mkF m 189 _ [(.int 2), (.ref olds), (.ref olds)])) _
        refine XS.iload X1065.here hx rfl (hb hby at_189) rfl ?_
        refine st1080 _ ?_
        show Steps _ _ _ (T1080.setTop (mkF m 192 _ [(.ref olds)])) _
        refine XS.astore X1080.here hx rfl (hb hby at_192) rfl rfl (l' := #[iv p0, iv p1, iv p2, iv p3, .val (.long q4), .second, iv p5, iv 1, iv 1, iv pos, iv s0, iv s1, iv p5, rv g, rv old, rv olds, .unset, .unset, .unset, .unset]) rfl ?_
        show Steps _ _ _ (T1080.setTop (mkF m 194 _ [])) _
        refine XS.iconst X1080.here hx rfl (hb hby at_194) ?_
        refine st1093 _ ?_
        show Steps _ _ _ (T1093.setTop (mkF m 197 _ [(.ref e_)])) _
        refine XS.dup X1093.here hx rfl (hb hby at_197) rfl rfl ?_
        refine XS.iconst X1093.here hx rfl (hb hby at_198) ?_
        show Steps _ _ _ (T1093.setTop (mkF m 199 _ [(.int 0), (.ref e_), (.ref e_)])) _
        refine XS.iloadN X1093.here hx rfl (hb hby at_199) rfl ?_
        refine st1116 _ ?_
        show Steps _ _ _ (T1116.setTop (mkF m 201 _ [(.ref e_)])) _
        refine XS.dup X1116.here hx rfl (hb hby at_201) rfl rfl ?_
        refine XS.iconst X1116.here hx rfl (hb hby at_202) ?_
        show Steps _ _ _ (T1116.setTop (mkF m 203 _ [(.int 1), (.ref e_), (.ref e_)])) _
        refine XS.iloadN X1116.here hx rfl (hb hby at_203) rfl ?_
        refine st1132 _ ?_
        show Steps _ _ _ (T1132.setTop (mkF m 205 _ [(.ref e_)])) _
        refine XS.dup X1132.here hx rfl (hb hby at_205) rfl rfl ?_
        refine XS.iconst X1132.here hx rfl (hb hby at_206) ?_
        show Steps _ _ _ (T1132.setTop (mkF m 207 _ [(.int 2), (.ref e_), (.ref e_)])) _
        refine XS.iloadN X1132.here hx rfl (hb hby at_207) rfl ?_
        refine st1148 _ ?_
        show Steps _ _ _ (T1148.setTop (mkF m 209 _ [(.ref e_)])) _
        refine XS.astore X1148.here hx rfl (hb hby at_209) rfl rfl (l' := #[iv p0, iv p1, iv p2, iv p3, .val (.long q4), .second, iv p5, iv 1, iv 1, iv pos, iv s0, iv s1, iv p5, rv g, rv old, rv olds, rv e_, .unset, .unset, .unset]) rfl ?_
        show Steps _ _ _ (T1148.setTop (mkF m 211 _ [])) _
        refine XS.iconst X1148.here hx rfl (hb hby at_211) ?_
        refine st1162 _ ?_
        show Steps _ _ _ (T1162.setTop (mkF m 214 _ [(.ref es)])) _
        refine XS.dup X1162.here hx rfl (hb hby at_214) rfl rfl ?_
        refine XS.iconst X1162.here hx rfl (hb hby at_215) ?_
        show Steps _ _ _ (T1162.setTop (mkF m 216 _ [(.int 0), (.ref es), (.ref es)])) _
        refine XS.iload X1162.here hx rfl (hb hby at_216) rfl ?_
        refine st1187 _ ?_
        show Steps _ _ _ (T1187.setTop (mkF m 219 _ [(.ref es)])) _
        refine XS.dup X1187.here hx rfl (hb hby at_219) rfl rfl ?_
        refine XS.iconst X1187.here hx rfl (hb hby at_220) ?_
        show Steps _ _ _ (T1187.setTop (mkF m 221 _ [(.int 1), (.ref es), (.ref es)])) _
        refine XS.iload X1187.here hx rfl (hb hby at_221) rfl ?_
        refine st1204 _ ?_
        show Steps _ _ _ (T1204.setTop (mkF m 224 _ [(.ref es)])) _
        refine XS.dup X1204.here hx rfl (hb hby at_224) rfl rfl ?_
        refine XS.iconst X1204.here hx rfl (hb hby at_225) ?_
        show Steps _ _ _ (T1204.setTop (mkF m 226 _ [(.int 2), (.ref es), (.ref es)])) _
        refine XS.iload X1204.here hx rfl (hb hby at_226) rfl ?_
        refine st1221 _ ?_
        show Steps _ _ _ (T1221.setTop (mkF m 229 _ [(.ref es)])) _
        refine XS.astore X1221.here hx rfl (hb hby at_229) rfl rfl (l' := #[iv p0, iv p1, iv p2, iv p3, .val (.long q4), .second, iv p5, iv 1, iv 1, iv pos, iv s0, iv s1, iv p5, rv g, rv old, rv olds, rv e_, rv es, .unset, .unset]) rfl ?_
        show Steps _ _ _ (T1221.setTop (mkF m 231 _ [])) _
        refine XS.aload X1221.here hx rfl (hb hby at_231) rfl rfl ?_
        refine XS.iload X1221.here hx rfl (hb hby at_233) rfl ?_
        show Steps _ _ _ (T1221.setTop (mkF m 235 _ [(.int pos), (.ref e_)])) _
        refine XS.aload X1221.here hx rfl (hb hby at_235) rfl rfl ?_
        refine XS.iload X1221.here hx rfl (hb hby at_237) rfl ?_
        show Steps _ _ _ (T1221.setTop (mkF m 239 _ [(.int 1), (.ref old), (.int pos), (.ref e_)])) _
        refine XS.iconst X1221.here hx rfl (hb hby at_239) ?_
        refine XS.isub X1221.here hx rfl (hb hby at_240) rfl ?_
        show Steps _ _ _ (T1221.setTop (mkF m 241 _ [(.int ((1 : Int32) - (1 : Int32))), (.ref old), (.int pos), (.ref e_)])) _
        refine X1221.iaload hx (j := ((1 : Int32) - (1 : Int32))) (v := (.int p1)) (by rw [e1221]; exact Ar1236.1) (State.isArrayOf_alike hZ.alike Ar1236.2.1) Ar1236.2.2 hin1238 hat1238 (g := (mkF m 241 #[iv p0, iv p1, iv p2, iv p3, .val (.long q4), .second, iv p5, iv 1, iv 1, iv pos, iv s0, iv s1, iv p5, rv g, rv old, rv olds, rv e_, rv es, .unset, .unset] [(.int ((1 : Int32) - (1 : Int32))), (.ref old), (.int pos), (.ref e_)])) rfl rfl (hb hby at_241) _ ?_
        refine st1241 _ ?_
        show Steps _ _ _ (T1241.setTop (mkF m 243 _ [])) _
        refine XS.aload X1241.here hx rfl (hb hby at_243) rfl rfl ?_
        refine XS.iload X1241.here hx rfl (hb hby at_245) rfl ?_
        show Steps _ _ _ (T1241.setTop (mkF m 247 _ [(.int pos), (.ref es)])) _
        refine XS.aload X1241.here hx rfl (hb hby at_247) rfl rfl ?_
        refine XS.iload X1241.here hx rfl (hb hby at_249) rfl ?_
        show Steps _ _ _ (T1241.setTop (mkF m 251 _ [(.int 1), (.ref olds), (.int pos), (.ref es)])) _
        refine XS.iconst X1241.here hx rfl (hb hby at_251) ?_
        refine XS.isub X1241.here hx rfl (hb hby at_252) rfl ?_
        show Steps _ _ _ (T1241.setTop (mkF m 253 _ [(.int ((1 : Int32) - (1 : Int32))), (.ref olds), (.int pos), (.ref es)])) _
        refine X1241.iaload hx (j := ((1 : Int32) - (1 : Int32))) (v := (.int s0)) (by rw [e1241]; exact Ar1257.1) (State.isArrayOf_alike hZ.alike Ar1257.2.1) Ar1257.2.2 hin1259 hat1259 (g := (mkF m 253 #[iv p0, iv p1, iv p2, iv p3, .val (.long q4), .second, iv p5, iv 1, iv 1, iv pos, iv s0, iv s1, iv p5, rv g, rv old, rv olds, rv e_, rv es, .unset, .unset] [(.int ((1 : Int32) - (1 : Int32))), (.ref olds), (.int pos), (.ref es)])) rfl rfl (hb hby at_253) _ ?_
        refine st1262 _ ?_
        show Steps _ _ _ (T1262.setTop (mkF m 255 _ [])) _
        refine XS.aload X1262.here hx rfl (hb hby at_255) rfl rfl ?_
        refine XS.iconst X1262.here hx rfl (hb hby at_257) ?_
        show Steps _ _ _ (T1262.setTop (mkF m 258 _ [(.int 0), (.ref g)])) _
        refine st1278.trans ?_
        show Steps _ _ _ (T1278.setTop (mkF m 261 _ [(.int 0)])) _
        refine XS.iload X1278.here hx rfl (hb hby at_261) rfl ?_
        refine XS.iconst X1278.here hx rfl (hb hby at_263) ?_
        show Steps _ _ _ (T1278.setTop (mkF m 264 _ [(.int 1), (.int 1), (.int 0)])) _
        refine XS.isub X1278.here hx rfl (hb hby at_264) rfl ?_
        refine XS.icmpNo X1278.here hx rfl (hb hby at_265) rfl (teq (by decide : (0 : Int32) = ((1 : Int32) - (1 : Int32)))).2 ?_
        show Steps _ _ _ (T1278.setTop (mkF m 268 _ [])) _
        refine XS.aload X1278.here hx rfl (hb hby at_268) rfl rfl ?_
        refine st1279.trans ?_
        show Steps _ _ _ (T1279.setTop (mkF m 273 _ [(.int 0)])) _
        refine XS.iload X1279.here hx rfl (hb hby at_273) rfl ?_
        refine XS.iconst X1279.here hx rfl (hb hby at_275) ?_
        show Steps _ _ _ (T1279.setTop (mkF m 276 _ [(.int 1), (.int 1), (.int 0)])) _
        refine XS.isub X1279.here hx rfl (hb hby at_276) rfl ?_
        refine XS.icmpNo X1279.here hx rfl (hb hby at_277) rfl (teq (by decide : (0 : Int32) = ((1 : Int32) - (1 : Int32)))).2 ?_
        show Steps _ _ _ (T1279.setTop (mkF m 280 _ [])) _
        refine XS.iconst X1279.here hx rfl (hb hby at_280) ?_
        refine XS.goto X1279.here hx rfl (pc0 := 281) (pc' := 285) rfl (hb hby at_281) (by decide) (by decide) ?_
        show Steps _ _ _ (T1279.setTop (mkF m 285 _ [(.int 1)])) _
        refine XS.istore X1279.here hx rfl (hb hby at_285) rfl (l' := #[iv p0, iv p1, iv p2, iv p3, .val (.long q4), .second, iv p5, iv 1, iv 1, iv pos, iv s0, iv s1, iv p5, rv g, rv old, rv olds, rv e_, rv es, iv 1, .unset]) rfl ?_
        show Steps _ _ _ (T1279.setTop (mkF m 287 _ [])) _
        refine XS.aload X1279.here hx rfl (hb hby at_287) rfl rfl ?_
        refine XS.iconst X1279.here hx rfl (hb hby at_289) ?_
        show Steps _ _ _ (T1279.setTop (mkF m 290 _ [(.int 0), (.ref g)])) _
        refine st1280.trans ?_
        show Steps _ _ _ (T1280.setTop (mkF m 293 _ [(.int 0)])) _
        refine XS.istore X1280.here hx rfl (hb hby at_293) rfl (l' := #[iv p0, iv p1, iv p2, iv p3, .val (.long q4), .second, iv p5, iv 1, iv 1, iv pos, iv s0, iv s1, iv p5, rv g, rv old, rv olds, rv e_, rv es, iv 1, iv 0]) rfl ?_
        show Steps _ _ _ (T1280.setTop (mkF m 295 _ [])) _
        refine XS.iload X1280.here hx rfl (hb hby at_295) rfl ?_
        refine XS.iconst X1280.here hx rfl (hb hby at_297) ?_
        show Steps _ _ _ (T1280.setTop (mkF m 298 _ [(.int 2), (.int 1)])) _
        refine XS.icmpYes X1280.here hx rfl (pc0 := 298) (pc' := 346) rfl (hb hby at_298) rfl (tlt (by decide : (1 : Int32) < (2 : Int32))).1 (by decide) (by decide) ?_
        refine XS.iload X1280.here hx rfl (hb hby at_346) rfl ?_
        show Steps _ _ _ (T1280.setTop (mkF m 348 _ [(.int 1)])) _
        refine XS.iconst X1280.here hx rfl (hb hby at_348) ?_
        refine XS.icmpYes X1280.here hx rfl (pc0 := 349) (pc' := 401) rfl (hb hby at_349) rfl (tlt (by decide : (1 : Int32) < (3 : Int32))).1 (by decide) (by decide) ?_
        show Steps _ _ _ (T1280.setTop (mkF m 401 _ [])) _
        refine XS.iload X1280.here hx rfl (hb hby at_401) rfl ?_
        exact k)
      rw [hO] at go1281
      obtain ⟨fs, hr, hrun, hended, hW, hsame⟩ := X1280.leave (v := some (.int 1)) (fun h => by rw [Bd.returns] at h; cases h)
      refine ⟨_, _, go1281 _ ?_, hrun, hended, _, _, rfl, ?_, ⟨_, rfl⟩, hW, hsame.mono (by decide) (by decide)⟩
      · exact retN X1280 hx (t := .boolean) Bd.returns (by simp) (hb hby at_403) hr
      · show Q_law Z p0 p1 p2 p3 q4 p5 h0 n0 _ T1280.heap _
        rw [er3]
        exact ⟨rfl, N1280⟩
    · obtain ⟨cq1283, kq1283, q1283a, q1283b, q1283c⟩ := isOf hZ rfl HA1.1
      obtain ⟨_, _, ⟨T1283, L1283, k1283, n1283⟩, -, X1283, ⟨Lc1283, hQ1283, l1283, y1283, z1283⟩, st1283⟩ := X963.virtualBack hx (y := (⟨"com/example/plebiscite/plebiscite/Adjacency", "add", "(III)V"⟩ : MethodName)) (z := (⟨"com/example/plebiscite/plebiscite/Adjacency", "add", "(III)V"⟩ : MethodName)) hown (mvT hZ (hw _ (List.mem_of_getElem? (i := 77) rfl))) (mvT hZ (hw _ (List.mem_of_getElem? (i := 78) rfl))) (notFace_of_selects (args := #[]) (mvT hZ (hw _ (List.mem_of_getElem? (i := 80) rfl)))) (mvT hZ (hw _ (List.mem_of_getElem? (i := 80) rfl))) (mvT hZ (hw _ (List.mem_of_getElem? (i := 79) rfl))) (by decide) (backOf (W := 0) (rm_adp l Z a0 hw [] g p2 s1 st dg rm it2 k1 k2 k3 k42 (16 : Int32) [.int p1, .int (0 : Int32), .int (0 : Int32), .int (0 : Int32), .int (0 : Int32), .int (0 : Int32), .int (0 : Int32), .int (0 : Int32), .int (0 : Int32), .int (0 : Int32), .int (0 : Int32), .int (0 : Int32), .int (0 : Int32), .int (0 : Int32), .int (0 : Int32), .int (0 : Int32)] (1 : Int32) sl2 k52 [.int s0, .int (0 : Int32), .int (0 : Int32), .int (0 : Int32), .int (0 : Int32), .int (0 : Int32), .int (0 : Int32), .int (0 : Int32), .int (0 : Int32), .int (0 : Int32), .int (0 : Int32), .int (0 : Int32), .int (0 : Int32), .int (0 : Int32), .int (0 : Int32), .int (0 : Int32)] T963.heap n0 Z964 HA1 HB1 (by decide) ⟨by decide, by decide⟩ (Nat.le_of_ble_eq_true rfl) (Nat.le_of_ble_eq_true rfl)) hZ (hw _ (List.mem_of_getElem? (i := 81) rfl)) (hw _ (List.mem_of_getElem? (i := 2) rfl)) (by decide) (by decide)) q1283a q1283c (g := (mkF m 84 #[iv p0, iv p1, iv p2, iv p3, .val (.long q4), .second, iv p5, iv 1, iv 2, iv pos, iv s0, iv s1, iv p5, rv g, .unset, .unset, .unset, .unset, .unset, .unset] [(.int s1), (.int p2), (.int 0), (.ref g)])) rfl (by rw [hml]; rfl) (Steps.refl _) (argsL := [(.int 0), (.int p2), (.int s1)]) (rest := []) (lenOf pd_9 rfl) rfl (by show 2 * 0 + _ ≤ _; exact Nat.le_of_eq rfl) (hb hby at_84) (fun _ _ => ⟨rfl, rfl, (by decide : 8 + 0 ≤ _), (by decide : 45 + 0 ≤ _)⟩)
      dsimp only [Pt.U, Pt.locs, Pt.cells, Pt.slots] at X1283 l1283 y1283 z1283 st1283 hQ1283
      rw [l1283, y1283, z1283] at X1283
      obtain ⟨hv1283, N1283q, hA, hB⟩ := hQ1283
      rw [hv1283] at st1283
      have N1283 := Fr.app N963 N1283q
      have HA2 : own_A Z T1283.heap n0 g st dg rm it2 k1 k2 k3 k42 (16 : Int32) [.int p1, .int p2, .int (0 : Int32), .int (0 : Int32), .int (0 : Int32), .int (0 : Int32), .int (0 : Int32), .int (0 : Int32), .int (0 : Int32), .int (0 : Int32), .int (0 : Int32), .int (0 : Int32), .int (0 : Int32), .int (0 : Int32), .int (0 : Int32), .int (0 : Int32)] (.ref sl2) (2 : Int32) (2 : Int32) (2 : Int32) (2 : Int32) (2 : Int32) := hA
      have HB2 : own_S Z T1283.heap n0 sl2 k52 (16 : Int32) [.int s0, .int s1, .int (0 : Int32), .int (0 : Int32), .int (0 : Int32), .int (0 : Int32), .int (0 : Int32), .int (0 : Int32), .int (0 : Int32), .int (0 : Int32), .int (0 : Int32), .int (0 : Int32), .int (0 : Int32), .int (0 : Int32), .int (0 : Int32), .int (0 : Int32)] g st dg rm it2 := hB
      have Z1284 := Nat.le_trans HA2.2.1 (Nat.le_of_lt HA2.1.lt)
      obtain ⟨cq1285, kq1285, q1285a, q1285b, q1285c⟩ := isOf hZ rfl HA2.1
      obtain ⟨_, _, ⟨T1285, L1285, k1285, n1285⟩, -, X1285, ⟨Lc1285, hQ1285, l1285, y1285, z1285⟩, st1285⟩ := X1283.virtualBack hx (y := (⟨"com/example/plebiscite/plebiscite/Adjacency", "remove", "(II)V"⟩ : MethodName)) (z := (⟨"com/example/plebiscite/plebiscite/Adjacency", "remove", "(II)V"⟩ : MethodName)) hown (mvT hZ (hw _ (List.mem_of_getElem? (i := 47) rfl))) (mvT hZ (hw _ (List.mem_of_getElem? (i := 48) rfl))) (notFace_of_selects (args := #[]) (mvT hZ (hw _ (List.mem_of_getElem? (i := 50) rfl)))) (mvT hZ (hw _ (List.mem_of_getElem? (i := 50) rfl))) (mvT hZ (hw _ (List.mem_of_getElem? (i := 49) rfl))) (by decide) (backOf (W := 0) (rm_rmp l Z a0 hw [] g pos st dg rm it2 k1 k2 k3 k42 (16 : Int32) [.int p1, .int p2, .int (0 : Int32), .int (0 : Int32), .int (0 : Int32), .int (0 : Int32), .int (0 : Int32), .int (0 : Int32), .int (0 : Int32), .int (0 : Int32), .int (0 : Int32), .int (0 : Int32), .int (0 : Int32), .int (0 : Int32), .int (0 : Int32), .int (0 : Int32)] (2 : Int32) sl2 k52 [.int s0, .int s1, .int (0 : Int32), .int (0 : Int32), .int (0 : Int32), .int (0 : Int32), .int (0 : Int32), .int (0 : Int32), .int (0 : Int32), .int (0 : Int32), .int (0 : Int32), .int (0 : Int32), .int (0 : Int32), .int (0 : Int32), .int (0 : Int32), .int (0 : Int32)] p2 s1 T1283.heap n0 Z1284 HA2 HB2 ⟨by decide, by decide⟩ rfl hpi.2.2.2.1 hpi.2.2.2.2.2 rfl hpi.2.2.2.2.2) hZ (hw _ (List.mem_of_getElem? (i := 51) rfl)) (hw _ (List.mem_of_getElem? (i := 2) rfl)) (by decide) (by decide)) q1285a q1285c (g := (mkF m 154 #[iv p0, iv p1, iv p2, iv p3, .val (.long q4), .second, iv p5, iv 1, iv 2, iv pos, iv s0, iv s1, iv p5, rv g, .unset, .unset, .unset, .unset, .unset, .unset] [(.int pos), (.int 0), (.ref g)])) rfl (by rw [hml]; rfl) (Steps.refl _) (argsL := [(.int 0), (.int pos)]) (rest := []) (lenOf pd_0 rfl) rfl (by show 2 * 0 + _ ≤ _; exact Nat.le_of_eq rfl) (hb hby at_154) (fun _ _ => ⟨rfl, rfl, (by decide : 8 + 0 ≤ _), (by decide : 45 + 0 ≤ _)⟩)
      dsimp only [Pt.U, Pt.locs, Pt.cells, Pt.slots] at X1285 l1285 y1285 z1285 st1285 hQ1285
      rw [l1285, y1285, z1285] at X1285
      obtain ⟨hv1285, N1285q, hA, hB⟩ := hQ1285
      rw [hv1285] at st1285
      have N1285 := Fr.app N1283 N1285q
      have hp2 := own_pos2 g_p.1 g_p.2.1
      obtain ⟨e0, e1, he, hi⟩ := own_sync2 pos p1 p2 p3 p2 [.int (0 : Int32), .int (0 : Int32), .int (0 : Int32), .int (0 : Int32), .int (0 : Int32), .int (0 : Int32), .int (0 : Int32), .int (0 : Int32), .int (0 : Int32), .int (0 : Int32), .int (0 : Int32), .int (0 : Int32), .int (0 : Int32), .int (0 : Int32)] hp2
      have hA2 : own_A Z T1285.heap n0 g st dg rm it2 k1 k2 k3 k42 (16 : Int32) [.int e0, .int e1, .int (0 : Int32), .int (0 : Int32), .int (0 : Int32), .int (0 : Int32), .int (0 : Int32), .int (0 : Int32), .int (0 : Int32), .int (0 : Int32), .int (0 : Int32), .int (0 : Int32), .int (0 : Int32), .int (0 : Int32), .int (0 : Int32), .int (0 : Int32)] (.ref sl2) (1 : Int32) (2 : Int32) (2 : Int32) (2 : Int32) (1 : Int32) := hi ▸ hA
      obtain ⟨f0_, f1_, hf, hj⟩ := own_sync2 pos s0 s1 p5 s1 [.int (0 : Int32), .int (0 : Int32), .int (0 : Int32), .int (0 : Int32), .int (0 : Int32), .int (0 : Int32), .int (0 : Int32), .int (0 : Int32), .int (0 : Int32), .int (0 : Int32), .int (0 : Int32), .int (0 : Int32), .int (0 : Int32), .int (0 : Int32)] hp2
      have hB2 : own_S Z T1285.heap n0 sl2 k52 (16 : Int32) [.int f0_, .int f1_, .int (0 : Int32), .int (0 : Int32), .int (0 : Int32), .int (0 : Int32), .int (0 : Int32), .int (0 : Int32), .int (0 : Int32), .int (0 : Int32), .int (0 : Int32), .int (0 : Int32), .int (0 : Int32), .int (0 : Int32), .int (0 : Int32), .int (0 : Int32)] g st dg rm it2 := hj ▸ hB
      obtain ⟨AX_1286, Ag0_1286, Ag1_1286, Ag2_1286, Ag3_1286, Ag4_1286, AF0_1286, AF1_1286, AF2_1286, AF3_1286, AF4_1286, AF5_1286, AF6_1286, AF7_1286, AF8_1286, AV0_1286, AV1_1286, AV2_1286, AV3_1286, AN0_1286, AN1_1286, AN2_1286, AN3_1286, AN4_1286, AN5_1286, AN6_1286, AN7_1286, AN8_1286, AN9_1286⟩ := hA2
      have Z1287 := Nat.le_trans Ag0_1286 (Nat.le_of_lt AX_1286.lt)
      obtain ⟨SG_1288, SV_1288, SN0_1288, SN1_1288, SN2_1288, SN3_1288, SN4_1288⟩ := hB2
      obtain ⟨T1289, h1289, k1289, X1289, e1289, E1289, A1289, st1289⟩ := newP X1285 hx hZ (hw _ (List.mem_of_getElem? (i := 9) rfl)) rfl (g := (mkF m 158 #[iv p0, iv p1, iv p2, iv p3, .val (.long q4), .second, iv p5, iv 1, iv 2, iv pos, iv s0, iv s1, iv p5, rv g, .unset, .unset, .unset, .unset, .unset, .unset] [(.int 3)])) rfl (hb hby at_158) rfl (by decide) (cap := 3) (by decide) (by decide) (by decide) (by decide)
      obtain ⟨old, g1289⟩ : ∃ z, z = T1285.heap.size := ⟨_, rfl⟩
      have ne1290 : g ≠ old := Nat.ne_of_lt (Nat.lt_of_lt_of_le AX_1286.lt (Nat.le_of_eq g1289.symm))
      have ne1291 : st ≠ old := Nat.ne_of_lt (Nat.lt_of_lt_of_le AV0_1286.lt (Nat.le_of_eq g1289.symm))
      have ne1292 : dg ≠ old := Nat.ne_of_lt (Nat.lt_of_lt_of_le AV1_1286.lt (Nat.le_of_eq g1289.symm))
      have ne1293 : it2 ≠ old := Nat.ne_of_lt (Nat.lt_of_lt_of_le AV3_1286.lt (Nat.le_of_eq g1289.symm))
      have ne1294 : sl2 ≠ old := Nat.ne_of_lt (Nat.lt_of_lt_of_le SV_1288.lt (Nat.le_of_eq g1289.symm))
      have ge_old : n0 ≤ old := Nat.le_trans Z1287 (Nat.le_of_eq g1289.symm)
      rw [← g1289] at A1289 st1289
      have f1295 := AX_1286.ext E1289
      have f1296 := AF0_1286.ext E1289
      have f1297 := AF1_1286.ext E1289
      have f1298 := AF3_1286.ext E1289
      have f1299 := AF4_1286.ext E1289
      have f1300 := AF7_1286.ext E1289
      have f1301 := AV0_1286.ext E1289
      have f1302 := AV1_1286.ext E1289
      have f1303 := AV3_1286.ext E1289
      have f1304 := SV_1288.ext E1289
      have Z1305 := Nat.le_trans Z1287 E1289.1
      have V_old_1289 : Arv Z h1289 old k1289 .int (3 : Int32) [(.int 0), (.int 0), (.int 0)] (.int 0) := (Arv.new A1289 (by decide)).pad (pad_rep [] (.int 0) 3)
      obtain ⟨cl1306, Ar1306, q1306, S1306, M1306, Hs1306, G1306⟩ := V_old_1289
      have f1307 : Arv Z h1289 old k1289 .int (3 : Int32) [(.int 0), (.int 0), (.int 0)] (.int 0) := ⟨cl1306, Ar1306, q1306, S1306, M1306, Hs1306, G1306⟩
      have hin1308 : ¬ ((0 : Int32) < 0 ∨ cl1306.slots.size ≤ ((0 : Int32)).toNatClampNeg) := inb_of S1306 ⟨by decide, by decide⟩
      obtain ⟨T1308, h1308, X1308, e1308, W1308, st1308⟩ := stI X1289 hx hZ e1289 Ar1306 (j := (0 : Int32)) hin1308 (g := (mkF m 163 #[iv p0, iv p1, iv p2, iv p3, .val (.long q4), .second, iv p5, iv 1, iv 2, iv pos, iv s0, iv s1, iv p5, rv g, .unset, .unset, .unset, .unset, .unset, .unset] [(.int p1), (.int 0), (.ref old), (.ref old)])) rfl rfl (hb hby at_163)
      have f1309 := f1295.wr W1308
      have f1310 := f1296.other W1308 (Or.inl ne1290)
      have f1311 := f1297.other W1308 (Or.inl ne1290)
      have f1312 := f1298.other W1308 (Or.inl ne1290)
      have f1313 := f1299.other W1308 (Or.inl ne1290)
      have f1314 := f1300.other W1308 (Or.inl ne1290)
      have f1315 := f1301.other W1308 ne1291
      have f1316 := f1302.other W1308 ne1292
      have f1317 := f1303.other W1308 ne1293
      have f1318 := f1304.other W1308 ne1294
      have Z1319 := Nat.le_trans Z1305 (Keep.of_wr W1308).1
      have V1308 : Arv Z h1308 old k1289 .int (3 : Int32) [(.int p1), (.int 0), (.int 0)] (.int 0) := Arv.set Ar1306 q1306 S1306 M1306 Hs1306 G1306 rfl W1308 0 rfl (Nat.le_of_ble_eq_true rfl)
      have N1308 := Fr.snoc X1308 N1285 ge_old
      obtain ⟨cl1320, Ar1320, q1320, S1320, M1320, Hs1320, G1320⟩ := V1308
      have f1321 : Arv Z h1308 old k1289 .int (3 : Int32) [(.int p1), (.int 0), (.int 0)] (.int 0) := ⟨cl1320, Ar1320, q1320, S1320, M1320, Hs1320, G1320⟩
      have hin1322 : ¬ ((1 : Int32) < 0 ∨ cl1320.slots.size ≤ ((1 : Int32)).toNatClampNeg) := inb_of S1320 ⟨by decide, by decide⟩
      obtain ⟨T1322, h1322, X1322, e1322, W1322, st1322⟩ := stI X1308 hx hZ e1308 Ar1320 (j := (1 : Int32)) hin1322 (g := (mkF m 167 #[iv p0, iv p1, iv p2, iv p3, .val (.long q4), .second, iv p5, iv 1, iv 2, iv pos, iv s0, iv s1, iv p5, rv g, .unset, .unset, .unset, .unset, .unset, .unset] [(.int p2), (.int 1), (.ref old), (.ref old)])) rfl rfl (hb hby at_167)
      have f1323 := f1309.wr W1322
      have f1324 := f1310.other W1322 (Or.inl ne1290)
      have f1325 := f1311.other W1322 (Or.inl ne1290)
      have f1326 := f1312.other W1322 (Or.inl ne1290)
      have f1327 := f1313.other W1322 (Or.inl ne1290)
      have f1328 := f1314.other W1322 (Or.inl ne1290)
      have f1329 := f1315.other W1322 ne1291
      have f1330 := f1316.other W1322 ne1292
      have f1331 := f1317.other W1322 ne1293
      have f1332 := f1318.other W1322 ne1294
      have Z1333 := Nat.le_trans Z1319 (Keep.of_wr W1322).1
      have V1322 : Arv Z h1322 old k1289 .int (3 : Int32) [(.int p1), (.int p2), (.int 0)] (.int 0) := Arv.set Ar1320 q1320 S1320 M1320 Hs1320 G1320 rfl W1322 1 rfl (Nat.le_of_ble_eq_true rfl)
      have N1322 := Fr.snoc X1322 N1308 ge_old
      obtain ⟨cl1334, Ar1334, q1334, S1334, M1334, Hs1334, G1334⟩ := V1322
      have f1335 : Arv Z h1322 old k1289 .int (3 : Int32) [(.int p1), (.int p2), (.int 0)] (.int 0) := ⟨cl1334, Ar1334, q1334, S1334, M1334, Hs1334, G1334⟩
      have hin1336 : ¬ ((2 : Int32) < 0 ∨ cl1334.slots.size ≤ ((2 : Int32)).toNatClampNeg) := inb_of S1334 ⟨by decide, by decide⟩
      obtain ⟨T1336, h1336, X1336, e1336, W1336, st1336⟩ := stI X1322 hx hZ e1322 Ar1334 (j := (2 : Int32)) hin1336 (g := (mkF m 171 #[iv p0, iv p1, iv p2, iv p3, .val (.long q4), .second, iv p5, iv 1, iv 2, iv pos, iv s0, iv s1, iv p5, rv g, .unset, .unset, .unset, .unset, .unset, .unset] [(.int p3), (.int 2), (.ref old), (.ref old)])) rfl rfl (hb hby at_171)
      have f1337 := f1323.wr W1336
      have f1338 := f1324.other W1336 (Or.inl ne1290)
      have f1339 := f1325.other W1336 (Or.inl ne1290)
      have f1340 := f1326.other W1336 (Or.inl ne1290)
      have f1341 := f1327.other W1336 (Or.inl ne1290)
      have f1342 := f1328.other W1336 (Or.inl ne1290)
      have f1343 := f1329.other W1336 ne1291
      have f1344 := f1330.other W1336 ne1292
      have f1345 := f1331.other W1336 ne1293
      have f1346 := f1332.other W1336 ne1294
      have Z1347 := Nat.le_trans Z1333 (Keep.of_wr W1336).1
      have V1336 : Arv Z h1336 old k1289 .int (3 : Int32) [(.int p1), (.int p2), (.int p3)] (.int 0) := Arv.set Ar1334 q1334 S1334 M1334 Hs1334 G1334 rfl W1336 2 rfl (Nat.le_of_ble_eq_true rfl)
      have N1336 := Fr.snoc X1336 N1322 ge_old
      obtain ⟨T1348, h1348, k1348, X1348, e1348, E1348, A1348, st1348⟩ := newP X1336 hx hZ (hw _ (List.mem_of_getElem? (i := 9) rfl)) e1336 (g := (mkF m 175 #[iv p0, iv p1, iv p2, iv p3, .val (.long q4), .second, iv p5, iv 1, iv 2, iv pos, iv s0, iv s1, iv p5, rv g, rv old, .unset, .unset, .unset, .unset, .unset] [(.int 3)])) rfl (hb hby at_175) rfl (by decide) (cap := 3) (by decide) (by decide) (by decide) (by decide)
      obtain ⟨olds, g1348⟩ : ∃ z, z = h1336.size := ⟨_, rfl⟩
      have ne1349 : g ≠ olds := Nat.ne_of_lt (Nat.lt_of_lt_of_le f1337.lt (Nat.le_of_eq g1348.symm))
      have ne1350 : st ≠ olds := Nat.ne_of_lt (Nat.lt_of_lt_of_le f1343.lt (Nat.le_of_eq g1348.symm))
      have ne1351 : dg ≠ olds := Nat.ne_of_lt (Nat.lt_of_lt_of_le f1344.lt (Nat.le_of_eq g1348.symm))
      have ne1352 : it2 ≠ olds := Nat.ne_of_lt (Nat.lt_of_lt_of_le f1345.lt (Nat.le_of_eq g1348.symm))
      have ne1353 : sl2 ≠ olds := Nat.ne_of_lt (Nat.lt_of_lt_of_le f1346.lt (Nat.le_of_eq g1348.symm))
      have ne1354 : old ≠ olds := Nat.ne_of_lt (Nat.lt_of_lt_of_le V1336.lt (Nat.le_of_eq g1348.symm))
      have ge_olds : n0 ≤ olds := Nat.le_trans Z1347 (Nat.le_of_eq g1348.symm)
      rw [← g1348] at A1348 st1348
      have f1355 := f1337.ext E1348
      have f1356 := f1338.ext E1348
      have f1357 := f1339.ext E1348
      have f1358 := f1340.ext E1348
      have f1359 := f1341.ext E1348
      have f1360 := f1342.ext E1348
      have f1361 := f1343.ext E1348
      have f1362 := f1344.ext E1348
      have f1363 := f1345.ext E1348
      have f1364 := f1346.ext E1348
      have f1365 := V1336.ext E1348
      have Z1366 := Nat.le_trans Z1347 E1348.1
      have V_olds_1348 : Arv Z h1348 olds k1348 .int (3 : Int32) [(.int 0), (.int 0), (.int 0)] (.int 0) := (Arv.new A1348 (by decide)).pad (pad_rep [] (.int 0) 3)
      obtain ⟨cl1367, Ar1367, q1367, S1367, M1367, Hs1367, G1367⟩ := V_olds_1348
      have f1368 : Arv Z h1348 olds k1348 .int (3 : Int32) [(.int 0), (.int 0), (.int 0)] (.int 0) := ⟨cl1367, Ar1367, q1367, S1367, M1367, Hs1367, G1367⟩
      have hin1369 : ¬ ((0 : Int32) < 0 ∨ cl1367.slots.size ≤ ((0 : Int32)).toNatClampNeg) := inb_of S1367 ⟨by decide, by decide⟩
      obtain ⟨T1369, h1369, X1369, e1369, W1369, st1369⟩ := stI X1348 hx hZ e1348 Ar1367 (j := (0 : Int32)) hin1369 (g := (mkF m 181 #[iv p0, iv p1, iv p2, iv p3, .val (.long q4), .second, iv p5, iv 1, iv 2, iv pos, iv s0, iv s1, iv p5, rv g, rv old, .unset, .unset, .unset, .unset, .unset] [(.int s0), (.int 0), (.ref olds), (.ref olds)])) rfl rfl (hb hby at_181)
      have f1370 := f1355.wr W1369
      have f1371 := f1356.other W1369 (Or.inl ne1349)
      have f1372 := f1357.other W1369 (Or.inl ne1349)
      have f1373 := f1358.other W1369 (Or.inl ne1349)
      have f1374 := f1359.other W1369 (Or.inl ne1349)
      have f1375 := f1360.other W1369 (Or.inl ne1349)
      have f1376 := f1361.other W1369 ne1350
      have f1377 := f1362.other W1369 ne1351
      have f1378 := f1363.other W1369 ne1352
      have f1379 := f1364.other W1369 ne1353
      have f1380 := f1365.other W1369 ne1354
      have Z1381 := Nat.le_trans Z1366 (Keep.of_wr W1369).1
      have V1369 : Arv Z h1369 olds k1348 .int (3 : Int32) [(.int s0), (.int 0), (.int 0)] (.int 0) := Arv.set Ar1367 q1367 S1367 M1367 Hs1367 G1367 rfl W1369 0 rfl (Nat.le_of_ble_eq_true rfl)
      have N1369 := Fr.snoc X1369 N1336 ge_olds
      obtain ⟨cl1382, Ar1382, q1382, S1382, M1382, Hs1382, G1382⟩ := V1369
      have f1383 : Arv Z h1369 olds k1348 .int (3 : Int32) [(.int s0), (.int 0), (.int 0)] (.int 0) := ⟨cl1382, Ar1382, q1382, S1382, M1382, Hs1382, G1382⟩
      have hin1384 : ¬ ((1 : Int32) < 0 ∨ cl1382.slots.size ≤ ((1 : Int32)).toNatClampNeg) := inb_of S1382 ⟨by decide, by decide⟩
      obtain ⟨T1384, h1384, X1384, e1384, W1384, st1384⟩ := stI X1369 hx hZ e1369 Ar1382 (j := (1 : Int32)) hin1384 (g := (mkF m 186 #[iv p0, iv p1, iv p2, iv p3, .val (.long q4), .second, iv p5, iv 1, iv 2, iv pos, iv s0, iv s1, iv p5, rv g, rv old, .unset, .unset, .unset, .unset, .unset] [(.int s1), (.int 1), (.ref olds), (.ref olds)])) rfl rfl (hb hby at_186)
      have f1385 := f1370.wr W1384
      have f1386 := f1371.other W1384 (Or.inl ne1349)
      have f1387 := f1372.other W1384 (Or.inl ne1349)
      have f1388 := f1373.other W1384 (Or.inl ne1349)
      have f1389 := f1374.other W1384 (Or.inl ne1349)
      have f1390 := f1375.other W1384 (Or.inl ne1349)
      have f1391 := f1376.other W1384 ne1350
      have f1392 := f1377.other W1384 ne1351
      have f1393 := f1378.other W1384 ne1352
      have f1394 := f1379.other W1384 ne1353
      have f1395 := f1380.other W1384 ne1354
      have Z1396 := Nat.le_trans Z1381 (Keep.of_wr W1384).1
      have V1384 : Arv Z h1384 olds k1348 .int (3 : Int32) [(.int s0), (.int s1), (.int 0)] (.int 0) := Arv.set Ar1382 q1382 S1382 M1382 Hs1382 G1382 rfl W1384 1 rfl (Nat.le_of_ble_eq_true rfl)
      have N1384 := Fr.snoc X1384 N1369 ge_olds
      obtain ⟨cl1397, Ar1397, q1397, S1397, M1397, Hs1397, G1397⟩ := V1384
      have f1398 : Arv Z h1384 olds k1348 .int (3 : Int32) [(.int s0), (.int s1), (.int 0)] (.int 0) := ⟨cl1397, Ar1397, q1397, S1397, M1397, Hs1397, G1397⟩
      have hin1399 : ¬ ((2 : Int32) < 0 ∨ cl1397.slots.size ≤ ((2 : Int32)).toNatClampNeg) := inb_of S1397 ⟨by decide, by decide⟩
      obtain ⟨T1399, h1399, X1399, e1399, W1399, st1399⟩ := stI X1384 hx hZ e1384 Ar1397 (j := (2 : Int32)) hin1399 (g := (mkF m 191 #[iv p0, iv p1, iv p2, iv p3, .val (.long q4), .second, iv p5, iv 1, iv 2, iv pos, iv s0, iv s1, iv p5, rv g, rv old, .unset, .unset, .unset, .unset, .unset] [(.int p5), (.int 2), (.ref olds), (.ref olds)])) rfl rfl (hb hby at_191)
      have f1400 := f1385.wr W1399
      have f1401 := f1386.other W1399 (Or.inl ne1349)
      have f1402 := f1387.other W1399 (Or.inl ne1349)
      have f1403 := f1388.other W1399 (Or.inl ne1349)
      have f1404 := f1389.other W1399 (Or.inl ne1349)
      have f1405 := f1390.other W1399 (Or.inl ne1349)
      have f1406 := f1391.other W1399 ne1350
      have f1407 := f1392.other W1399 ne1351
      have f1408 := f1393.other W1399 ne1352
      have f1409 := f1394.other W1399 ne1353
      have f1410 := f1395.other W1399 ne1354
      have Z1411 := Nat.le_trans Z1396 (Keep.of_wr W1399).1
      have V1399 : Arv Z h1399 olds k1348 .int (3 : Int32) [(.int s0), (.int s1), (.int p5)] (.int 0) := Arv.set Ar1397 q1397 S1397 M1397 Hs1397 G1397 rfl W1399 2 rfl (Nat.le_of_ble_eq_true rfl)
      have N1399 := Fr.snoc X1399 N1384 ge_olds
      obtain ⟨T1412, h1412, k1412, X1412, e1412, E1412, A1412, st1412⟩ := newP X1399 hx hZ (hw _ (List.mem_of_getElem? (i := 9) rfl)) e1399 (g := (mkF m 195 #[iv p0, iv p1, iv p2, iv p3, .val (.long q4), .second, iv p5, iv 1, iv 2, iv pos, iv s0, iv s1, iv p5, rv g, rv old, rv olds, .unset, .unset, .unset, .unset] [(.int 3)])) rfl (hb hby at_195) rfl (by decide) (cap := 3) (by decide) (by decide) (by decide) (by decide)
      obtain ⟨e_, g1412⟩ : ∃ z, z = h1399.size := ⟨_, rfl⟩
      have ne1413 : g ≠ e_ := Nat.ne_of_lt (Nat.lt_of_lt_of_le f1400.lt (Nat.le_of_eq g1412.symm))
      have ne1414 : st ≠ e_ := Nat.ne_of_lt (Nat.lt_of_lt_of_le f1406.lt (Nat.le_of_eq g1412.symm))
      have ne1415 : dg ≠ e_ := Nat.ne_of_lt (Nat.lt_of_lt_of_le f1407.lt (Nat.le_of_eq g1412.symm))
      have ne1416 : it2 ≠ e_ := Nat.ne_of_lt (Nat.lt_of_lt_of_le f1408.lt (Nat.le_of_eq g1412.symm))
      have ne1417 : sl2 ≠ e_ := Nat.ne_of_lt (Nat.lt_of_lt_of_le f1409.lt (Nat.le_of_eq g1412.symm))
      have ne1418 : old ≠ e_ := Nat.ne_of_lt (Nat.lt_of_lt_of_le f1410.lt (Nat.le_of_eq g1412.symm))
      have ne1419 : olds ≠ e_ := Nat.ne_of_lt (Nat.lt_of_lt_of_le V1399.lt (Nat.le_of_eq g1412.symm))
      have ge_e_ : n0 ≤ e_ := Nat.le_trans Z1411 (Nat.le_of_eq g1412.symm)
      rw [← g1412] at A1412 st1412
      have f1420 := f1400.ext E1412
      have f1421 := f1401.ext E1412
      have f1422 := f1402.ext E1412
      have f1423 := f1403.ext E1412
      have f1424 := f1404.ext E1412
      have f1425 := f1405.ext E1412
      have f1426 := f1406.ext E1412
      have f1427 := f1407.ext E1412
      have f1428 := f1408.ext E1412
      have f1429 := f1409.ext E1412
      have f1430 := f1410.ext E1412
      have f1431 := V1399.ext E1412
      have Z1432 := Nat.le_trans Z1411 E1412.1
      have V_e__1412 : Arv Z h1412 e_ k1412 .int (3 : Int32) [(.int 0), (.int 0), (.int 0)] (.int 0) := (Arv.new A1412 (by decide)).pad (pad_rep [] (.int 0) 3)
      obtain ⟨cl1433, Ar1433, q1433, S1433, M1433, Hs1433, G1433⟩ := V_e__1412
      have f1434 : Arv Z h1412 e_ k1412 .int (3 : Int32) [(.int 0), (.int 0), (.int 0)] (.int 0) := ⟨cl1433, Ar1433, q1433, S1433, M1433, Hs1433, G1433⟩
      have hin1435 : ¬ ((0 : Int32) < 0 ∨ cl1433.slots.size ≤ ((0 : Int32)).toNatClampNeg) := inb_of S1433 ⟨by decide, by decide⟩
      obtain ⟨T1435, h1435, X1435, e1435, W1435, st1435⟩ := stI X1412 hx hZ e1412 Ar1433 (j := (0 : Int32)) hin1435 (g := (mkF m 200 #[iv p0, iv p1, iv p2, iv p3, .val (.long q4), .second, iv p5, iv 1, iv 2, iv pos, iv s0, iv s1, iv p5, rv g, rv old, rv olds, .unset, .unset, .unset, .unset] [(.int p1), (.int 0), (.ref e_), (.ref e_)])) rfl rfl (hb hby at_200)
      have f1436 := f1420.wr W1435
      have f1437 := f1421.other W1435 (Or.inl ne1413)
      have f1438 := f1422.other W1435 (Or.inl ne1413)
      have f1439 := f1423.other W1435 (Or.inl ne1413)
      have f1440 := f1424.other W1435 (Or.inl ne1413)
      have f1441 := f1425.other W1435 (Or.inl ne1413)
      have f1442 := f1426.other W1435 ne1414
      have f1443 := f1427.other W1435 ne1415
      have f1444 := f1428.other W1435 ne1416
      have f1445 := f1429.other W1435 ne1417
      have f1446 := f1430.other W1435 ne1418
      have f1447 := f1431.other W1435 ne1419
      have Z1448 := Nat.le_trans Z1432 (Keep.of_wr W1435).1
      have V1435 : Arv Z h1435 e_ k1412 .int (3 : Int32) [(.int p1), (.int 0), (.int 0)] (.int 0) := Arv.set Ar1433 q1433 S1433 M1433 Hs1433 G1433 rfl W1435 0 rfl (Nat.le_of_ble_eq_true rfl)
      have N1435 := Fr.snoc X1435 N1399 ge_e_
      obtain ⟨cl1449, Ar1449, q1449, S1449, M1449, Hs1449, G1449⟩ := V1435
      have f1450 : Arv Z h1435 e_ k1412 .int (3 : Int32) [(.int p1), (.int 0), (.int 0)] (.int 0) := ⟨cl1449, Ar1449, q1449, S1449, M1449, Hs1449, G1449⟩
      have hin1451 : ¬ ((1 : Int32) < 0 ∨ cl1449.slots.size ≤ ((1 : Int32)).toNatClampNeg) := inb_of S1449 ⟨by decide, by decide⟩
      obtain ⟨T1451, h1451, X1451, e1451, W1451, st1451⟩ := stI X1435 hx hZ e1435 Ar1449 (j := (1 : Int32)) hin1451 (g := (mkF m 204 #[iv p0, iv p1, iv p2, iv p3, .val (.long q4), .second, iv p5, iv 1, iv 2, iv pos, iv s0, iv s1, iv p5, rv g, rv old, rv olds, .unset, .unset, .unset, .unset] [(.int p2), (.int 1), (.ref e_), (.ref e_)])) rfl rfl (hb hby at_204)
      have f1452 := f1436.wr W1451
      have f1453 := f1437.other W1451 (Or.inl ne1413)
      have f1454 := f1438.other W1451 (Or.inl ne1413)
      have f1455 := f1439.other W1451 (Or.inl ne1413)
      have f1456 := f1440.other W1451 (Or.inl ne1413)
      have f1457 := f1441.other W1451 (Or.inl ne1413)
      have f1458 := f1442.other W1451 ne1414
      have f1459 := f1443.other W1451 ne1415
      have f1460 := f1444.other W1451 ne1416
      have f1461 := f1445.other W1451 ne1417
      have f1462 := f1446.other W1451 ne1418
      have f1463 := f1447.other W1451 ne1419
      have Z1464 := Nat.le_trans Z1448 (Keep.of_wr W1451).1
      have V1451 : Arv Z h1451 e_ k1412 .int (3 : Int32) [(.int p1), (.int p2), (.int 0)] (.int 0) := Arv.set Ar1449 q1449 S1449 M1449 Hs1449 G1449 rfl W1451 1 rfl (Nat.le_of_ble_eq_true rfl)
      have N1451 := Fr.snoc X1451 N1435 ge_e_
      obtain ⟨cl1465, Ar1465, q1465, S1465, M1465, Hs1465, G1465⟩ := V1451
      have f1466 : Arv Z h1451 e_ k1412 .int (3 : Int32) [(.int p1), (.int p2), (.int 0)] (.int 0) := ⟨cl1465, Ar1465, q1465, S1465, M1465, Hs1465, G1465⟩
      have hin1467 : ¬ ((2 : Int32) < 0 ∨ cl1465.slots.size ≤ ((2 : Int32)).toNatClampNeg) := inb_of S1465 ⟨by decide, by decide⟩
      obtain ⟨T1467, h1467, X1467, e1467, W1467, st1467⟩ := stI X1451 hx hZ e1451 Ar1465 (j := (2 : Int32)) hin1467 (g := (mkF m 208 #[iv p0, iv p1, iv p2, iv p3, .val (.long q4), .second, iv p5, iv 1, iv 2, iv pos, iv s0, iv s1, iv p5, rv g, rv old, rv olds, .unset, .unset, .unset, .unset] [(.int p3), (.int 2), (.ref e_), (.ref e_)])) rfl rfl (hb hby at_208)
      have f1468 := f1452.wr W1467
      have f1469 := f1453.other W1467 (Or.inl ne1413)
      have f1470 := f1454.other W1467 (Or.inl ne1413)
      have f1471 := f1455.other W1467 (Or.inl ne1413)
      have f1472 := f1456.other W1467 (Or.inl ne1413)
      have f1473 := f1457.other W1467 (Or.inl ne1413)
      have f1474 := f1458.other W1467 ne1414
      have f1475 := f1459.other W1467 ne1415
      have f1476 := f1460.other W1467 ne1416
      have f1477 := f1461.other W1467 ne1417
      have f1478 := f1462.other W1467 ne1418
      have f1479 := f1463.other W1467 ne1419
      have Z1480 := Nat.le_trans Z1464 (Keep.of_wr W1467).1
      have V1467 : Arv Z h1467 e_ k1412 .int (3 : Int32) [(.int p1), (.int p2), (.int p3)] (.int 0) := Arv.set Ar1465 q1465 S1465 M1465 Hs1465 G1465 rfl W1467 2 rfl (Nat.le_of_ble_eq_true rfl)
      have N1467 := Fr.snoc X1467 N1451 ge_e_
      obtain ⟨T1481, h1481, k1481, X1481, e1481, E1481, A1481, st1481⟩ := newP X1467 hx hZ (hw _ (List.mem_of_getElem? (i := 9) rfl)) e1467 (g := (mkF m 212 #[iv p0, iv p1, iv p2, iv p3, .val (.long q4), .second, iv p5, iv 1, iv 2, iv pos, iv s0, iv s1, iv p5, rv g, rv old, rv olds, rv e_, .unset, .unset, .unset] [(.int 3)])) rfl (hb hby at_212) rfl (by decide) (cap := 3) (by decide) (by decide) (by decide) (by decide)
      obtain ⟨es, g1481⟩ : ∃ z, z = h1467.size := ⟨_, rfl⟩
      have ne1482 : g ≠ es := Nat.ne_of_lt (Nat.lt_of_lt_of_le f1468.lt (Nat.le_of_eq g1481.symm))
      have ne1483 : st ≠ es := Nat.ne_of_lt (Nat.lt_of_lt_of_le f1474.lt (Nat.le_of_eq g1481.symm))
      have ne1484 : dg ≠ es := Nat.ne_of_lt (Nat.lt_of_lt_of_le f1475.lt (Nat.le_of_eq g1481.symm))
      have ne1485 : it2 ≠ es := Nat.ne_of_lt (Nat.lt_of_lt_of_le f1476.lt (Nat.le_of_eq g1481.symm))
      have ne1486 : sl2 ≠ es := Nat.ne_of_lt (Nat.lt_of_lt_of_le f1477.lt (Nat.le_of_eq g1481.symm))
      have ne1487 : old ≠ es := Nat.ne_of_lt (Nat.lt_of_lt_of_le f1478.lt (Nat.le_of_eq g1481.symm))
      have ne1488 : olds ≠ es := Nat.ne_of_lt (Nat.lt_of_lt_of_le f1479.lt (Nat.le_of_eq g1481.symm))
      have ne1489 : e_ ≠ es := Nat.ne_of_lt (Nat.lt_of_lt_of_le V1467.lt (Nat.le_of_eq g1481.symm))
      have ge_es : n0 ≤ es := Nat.le_trans Z1480 (Nat.le_of_eq g1481.symm)
      rw [← g1481] at A1481 st1481
      have f1490 := f1468.ext E1481
      have f1491 := f1469.ext E1481
      have f1492 := f1470.ext E1481
      have f1493 := f1471.ext E1481
      have f1494 := f1472.ext E1481
      have f1495 := f1473.ext E1481
      have f1496 := f1474.ext E1481
      have f1497 := f1475.ext E1481
      have f1498 := f1476.ext E1481
      have f1499 := f1477.ext E1481
      have f1500 := f1478.ext E1481
      have f1501 := f1479.ext E1481
      have f1502 := V1467.ext E1481
      have Z1503 := Nat.le_trans Z1480 E1481.1
      have V_es_1481 : Arv Z h1481 es k1481 .int (3 : Int32) [(.int 0), (.int 0), (.int 0)] (.int 0) := (Arv.new A1481 (by decide)).pad (pad_rep [] (.int 0) 3)
      obtain ⟨cl1504, Ar1504, q1504, S1504, M1504, Hs1504, G1504⟩ := V_es_1481
      have f1505 : Arv Z h1481 es k1481 .int (3 : Int32) [(.int 0), (.int 0), (.int 0)] (.int 0) := ⟨cl1504, Ar1504, q1504, S1504, M1504, Hs1504, G1504⟩
      have hin1506 : ¬ ((0 : Int32) < 0 ∨ cl1504.slots.size ≤ ((0 : Int32)).toNatClampNeg) := inb_of S1504 ⟨by decide, by decide⟩
      obtain ⟨T1506, h1506, X1506, e1506, W1506, st1506⟩ := stI X1481 hx hZ e1481 Ar1504 (j := (0 : Int32)) hin1506 (g := (mkF m 218 #[iv p0, iv p1, iv p2, iv p3, .val (.long q4), .second, iv p5, iv 1, iv 2, iv pos, iv s0, iv s1, iv p5, rv g, rv old, rv olds, rv e_, .unset, .unset, .unset] [(.int s0), (.int 0), (.ref es), (.ref es)])) rfl rfl (hb hby at_218)
      have f1507 := f1490.wr W1506
      have f1508 := f1491.other W1506 (Or.inl ne1482)
      have f1509 := f1492.other W1506 (Or.inl ne1482)
      have f1510 := f1493.other W1506 (Or.inl ne1482)
      have f1511 := f1494.other W1506 (Or.inl ne1482)
      have f1512 := f1495.other W1506 (Or.inl ne1482)
      have f1513 := f1496.other W1506 ne1483
      have f1514 := f1497.other W1506 ne1484
      have f1515 := f1498.other W1506 ne1485
      have f1516 := f1499.other W1506 ne1486
      have f1517 := f1500.other W1506 ne1487
      have f1518 := f1501.other W1506 ne1488
      have f1519 := f1502.other W1506 ne1489
      have Z1520 := Nat.le_trans Z1503 (Keep.of_wr W1506).1
      have V1506 : Arv Z h1506 es k1481 .int (3 : Int32) [(.int s0), (.int 0), (.int 0)] (.int 0) := Arv.set Ar1504 q1504 S1504 M1504 Hs1504 G1504 rfl W1506 0 rfl (Nat.le_of_ble_eq_true rfl)
      have N1506 := Fr.snoc X1506 N1467 ge_es
      obtain ⟨cl1521, Ar1521, q1521, S1521, M1521, Hs1521, G1521⟩ := V1506
      have f1522 : Arv Z h1506 es k1481 .int (3 : Int32) [(.int s0), (.int 0), (.int 0)] (.int 0) := ⟨cl1521, Ar1521, q1521, S1521, M1521, Hs1521, G1521⟩
      have hin1523 : ¬ ((1 : Int32) < 0 ∨ cl1521.slots.size ≤ ((1 : Int32)).toNatClampNeg) := inb_of S1521 ⟨by decide, by decide⟩
      obtain ⟨T1523, h1523, X1523, e1523, W1523, st1523⟩ := stI X1506 hx hZ e1506 Ar1521 (j := (1 : Int32)) hin1523 (g := (mkF m 223 #[iv p0, iv p1, iv p2, iv p3, .val (.long q4), .second, iv p5, iv 1, iv 2, iv pos, iv s0, iv s1, iv p5, rv g, rv old, rv olds, rv e_, .unset, .unset, .unset] [(.int s1), (.int 1), (.ref es), (.ref es)])) rfl rfl (hb hby at_223)
      have f1524 := f1507.wr W1523
      have f1525 := f1508.other W1523 (Or.inl ne1482)
      have f1526 := f1509.other W1523 (Or.inl ne1482)
      have f1527 := f1510.other W1523 (Or.inl ne1482)
      have f1528 := f1511.other W1523 (Or.inl ne1482)
      have f1529 := f1512.other W1523 (Or.inl ne1482)
      have f1530 := f1513.other W1523 ne1483
      have f1531 := f1514.other W1523 ne1484
      have f1532 := f1515.other W1523 ne1485
      have f1533 := f1516.other W1523 ne1486
      have f1534 := f1517.other W1523 ne1487
      have f1535 := f1518.other W1523 ne1488
      have f1536 := f1519.other W1523 ne1489
      have Z1537 := Nat.le_trans Z1520 (Keep.of_wr W1523).1
      have V1523 : Arv Z h1523 es k1481 .int (3 : Int32) [(.int s0), (.int s1), (.int 0)] (.int 0) := Arv.set Ar1521 q1521 S1521 M1521 Hs1521 G1521 rfl W1523 1 rfl (Nat.le_of_ble_eq_true rfl)
      have N1523 := Fr.snoc X1523 N1506 ge_es
      obtain ⟨cl1538, Ar1538, q1538, S1538, M1538, Hs1538, G1538⟩ := V1523
      have f1539 : Arv Z h1523 es k1481 .int (3 : Int32) [(.int s0), (.int s1), (.int 0)] (.int 0) := ⟨cl1538, Ar1538, q1538, S1538, M1538, Hs1538, G1538⟩
      have hin1540 : ¬ ((2 : Int32) < 0 ∨ cl1538.slots.size ≤ ((2 : Int32)).toNatClampNeg) := inb_of S1538 ⟨by decide, by decide⟩
      obtain ⟨T1540, h1540, X1540, e1540, W1540, st1540⟩ := stI X1523 hx hZ e1523 Ar1538 (j := (2 : Int32)) hin1540 (g := (mkF m 228 #[iv p0, iv p1, iv p2, iv p3, .val (.long q4), .second, iv p5, iv 1, iv 2, iv pos, iv s0, iv s1, iv p5, rv g, rv old, rv olds, rv e_, .unset, .unset, .unset] [(.int p5), (.int 2), (.ref es), (.ref es)])) rfl rfl (hb hby at_228)
      have f1541 := f1524.wr W1540
      have f1542 := f1525.other W1540 (Or.inl ne1482)
      have f1543 := f1526.other W1540 (Or.inl ne1482)
      have f1544 := f1527.other W1540 (Or.inl ne1482)
      have f1545 := f1528.other W1540 (Or.inl ne1482)
      have f1546 := f1529.other W1540 (Or.inl ne1482)
      have f1547 := f1530.other W1540 ne1483
      have f1548 := f1531.other W1540 ne1484
      have f1549 := f1532.other W1540 ne1485
      have f1550 := f1533.other W1540 ne1486
      have f1551 := f1534.other W1540 ne1487
      have f1552 := f1535.other W1540 ne1488
      have f1553 := f1536.other W1540 ne1489
      have Z1554 := Nat.le_trans Z1537 (Keep.of_wr W1540).1
      have V1540 : Arv Z h1540 es k1481 .int (3 : Int32) [(.int s0), (.int s1), (.int p5)] (.int 0) := Arv.set Ar1538 q1538 S1538 M1538 Hs1538 G1538 rfl W1540 2 rfl (Nat.le_of_ble_eq_true rfl)
      have N1540 := Fr.snoc X1540 N1523 ge_es
      obtain ⟨cl1555, Ar1555, q1555, S1555, M1555, Hs1555, G1555⟩ := f1551
      have f1556 : Arv Z h1540 old k1289 .int (3 : Int32) [(.int p1), (.int p2), (.int p3)] (.int 0) := ⟨cl1555, Ar1555, q1555, S1555, M1555, Hs1555, G1555⟩
      have hin1557 : ¬ (((2 : Int32) - (1 : Int32)) < 0 ∨ cl1555.slots.size ≤ (((2 : Int32) - (1 : Int32))).toNatClampNeg) := inb_of S1555 ⟨by decide, by decide⟩
      have hat1557 : cl1555.slots[(((2 : Int32) - (1 : Int32))).toNatClampNeg]? = some (.int p2) := Hs1555.at hin1557 rfl
      obtain ⟨cl1558, Ar1558, q1558, S1558, M1558, Hs1558, G1558⟩ := f1553
      have f1559 : Arv Z h1540 e_ k1412 .int (3 : Int32) [(.int p1), (.int p2), (.int p3)] (.int 0) := ⟨cl1558, Ar1558, q1558, S1558, M1558, Hs1558, G1558⟩
      have hin1560 : ¬ (pos < 0 ∨ cl1558.slots.size ≤ (pos).toNatClampNeg) := inb_of S1558 hpi.1
      obtain ⟨T1560, h1560, X1560, e1560, W1560, st1560⟩ := stI X1540 hx hZ e1540 Ar1558 (j := pos) hin1560 (g := (mkF m 242 #[iv p0, iv p1, iv p2, iv p3, .val (.long q4), .second, iv p5, iv 1, iv 2, iv pos, iv s0, iv s1, iv p5, rv g, rv old, rv olds, rv e_, rv es, .unset, .unset] [(.int p2), (.int pos), (.ref e_)])) rfl rfl (hb hby at_242)
      have f1561 := f1541.wr W1560
      have f1562 := f1542.other W1560 (Or.inl ne1413)
      have f1563 := f1543.other W1560 (Or.inl ne1413)
      have f1564 := f1544.other W1560 (Or.inl ne1413)
      have f1565 := f1545.other W1560 (Or.inl ne1413)
      have f1566 := f1546.other W1560 (Or.inl ne1413)
      have f1567 := f1547.other W1560 ne1414
      have f1568 := f1548.other W1560 ne1415
      have f1569 := f1549.other W1560 ne1416
      have f1570 := f1550.other W1560 ne1417
      have f1571 := f1556.other W1560 ne1418
      have f1572 := f1552.other W1560 ne1419
      have f1573 := V1540.other W1560 (Ne.symm ne1489)
      have Z1574 := Nat.le_trans Z1554 (Keep.of_wr W1560).1
      have V1560 : Arv Z h1560 e_ k1412 .int (3 : Int32) ([(.int p1), (.int p2), (.int p3)].set (pos).toNatClampNeg (.int p2)) (.int 0) := Arv.set Ar1558 q1558 S1558 M1558 Hs1558 G1558 rfl W1560 (pos).toNatClampNeg rfl hpi.2.1
      have N1560 := Fr.snoc X1560 N1540 ge_e_
      have f1575 : Arv Z h1560 e_ k1412 .int (3 : Int32) [(.int e0), (.int e1), (.int p3)] (.int (0 : Int32)) := he ▸ V1560
      obtain ⟨cl1576, Ar1576, q1576, S1576, M1576, Hs1576, G1576⟩ := f1572
      have f1577 : Arv Z h1560 olds k1348 .int (3 : Int32) [(.int s0), (.int s1), (.int p5)] (.int 0) := ⟨cl1576, Ar1576, q1576, S1576, M1576, Hs1576, G1576⟩
      have hin1578 : ¬ (((2 : Int32) - (1 : Int32)) < 0 ∨ cl1576.slots.size ≤ (((2 : Int32) - (1 : Int32))).toNatClampNeg) := inb_of S1576 ⟨by decide, by decide⟩
      have hat1578 : cl1576.slots[(((2 : Int32) - (1 : Int32))).toNatClampNeg]? = some (.int s1) := Hs1576.at hin1578 rfl
      obtain ⟨cl1579, Ar1579, q1579, S1579, M1579, Hs1579, G1579⟩ := f1573
      have f1580 : Arv Z h1560 es k1481 .int (3 : Int32) [(.int s0), (.int s1), (.int p5)] (.int 0) := ⟨cl1579, Ar1579, q1579, S1579, M1579, Hs1579, G1579⟩
      have hin1581 : ¬ (pos < 0 ∨ cl1579.slots.size ≤ (pos).toNatClampNeg) := inb_of S1579 hpi.1
      obtain ⟨T1581, h1581, X1581, e1581, W1581, st1581⟩ := stI X1560 hx hZ e1560 Ar1579 (j := pos) hin1581 (g := (mkF m 254 #[iv p0, iv p1, iv p2, iv p3, .val (.long q4), .second, iv p5, iv 1, iv 2, iv pos, iv s0, iv s1, iv p5, rv g, rv old, rv olds, rv e_, rv es, .unset, .unset] [(.int s1), (.int pos), (.ref es)])) rfl rfl (hb hby at_254)
      have f1582 := f1561.wr W1581
      have f1583 := f1562.other W1581 (Or.inl ne1482)
      have f1584 := f1563.other W1581 (Or.inl ne1482)
      have f1585 := f1564.other W1581 (Or.inl ne1482)
      have f1586 := f1565.other W1581 (Or.inl ne1482)
      have f1587 := f1566.other W1581 (Or.inl ne1482)
      have f1588 := f1567.other W1581 ne1483
      have f1589 := f1568.other W1581 ne1484
      have f1590 := f1569.other W1581 ne1485
      have f1591 := f1570.other W1581 ne1486
      have f1592 := f1571.other W1581 ne1487
      have f1593 := f1577.other W1581 ne1488
      have f1594 := f1575.other W1581 ne1489
      have Z1595 := Nat.le_trans Z1574 (Keep.of_wr W1581).1
      have V1581 : Arv Z h1581 es k1481 .int (3 : Int32) ([(.int s0), (.int s1), (.int p5)].set (pos).toNatClampNeg (.int s1)) (.int 0) := Arv.set Ar1579 q1579 S1579 M1579 Hs1579 G1579 rfl W1581 (pos).toNatClampNeg rfl hpi.2.1
      have N1581 := Fr.snoc X1581 N1560 ge_es
      have f1596 : Arv Z h1581 es k1481 .int (3 : Int32) [(.int f0_), (.int f1_), (.int p5)] (.int (0 : Int32)) := hf ▸ V1581
      obtain ⟨cq1597, kq1597, q1597a, q1597b, q1597c⟩ := isOf hZ e1581 f1582
      obtain ⟨_, _, ⟨T1597, L1597, k1597, n1597⟩, -, X1597, ⟨Lc1597, hQ1597, l1597, y1597, z1597⟩, st1597⟩ := X1581.virtualBack hx (y := (⟨"com/example/plebiscite/plebiscite/Adjacency", "degree", "(I)I"⟩ : MethodName)) (z := (⟨"com/example/plebiscite/plebiscite/Adjacency", "degree", "(I)I"⟩ : MethodName)) hown (mvT hZ (hw _ (List.mem_of_getElem? (i := 54) rfl))) (mvT hZ (hw _ (List.mem_of_getElem? (i := 55) rfl))) (notFace_of_selects (args := #[]) (mvT hZ (hw _ (List.mem_of_getElem? (i := 57) rfl)))) (mvT hZ (hw _ (List.mem_of_getElem? (i := 57) rfl))) (mvT hZ (hw _ (List.mem_of_getElem? (i := 56) rfl))) (by decide) (backOf (W := 0) (rm_dgr l Z a0 hw [] g dg k2 (1 : Int32) h1581 n0 Z1595 f1584 f1589) hZ (hw _ (List.mem_of_getElem? (i := 58) rfl)) (hw _ (List.mem_of_getElem? (i := 2) rfl)) (by decide) (by decide)) q1597a q1597c (g := (mkF m 258 #[iv p0, iv p1, iv p2, iv p3, .val (.long q4), .second, iv p5, iv 1, iv 2, iv pos, iv s0, iv s1, iv p5, rv g, rv old, rv olds, rv e_, rv es, .unset, .unset] [(.int 0), (.ref g)])) rfl (by rw [hml]; rfl) (Steps.refl _) (argsL := [(.int 0)]) (rest := []) (lenOf pd_4 rfl) rfl (by show 2 * 0 + _ ≤ _; exact Nat.le_of_eq rfl) (hb hby at_258) (fun _ _ => ⟨rfl, e1581, (by decide : 12 + 0 ≤ _), (by decide : 57 + 0 ≤ _)⟩)
      dsimp only [Pt.U, Pt.locs, Pt.cells, Pt.slots] at X1597 l1597 y1597 z1597 st1597 hQ1597
      rw [l1597, y1597, z1597] at X1597
      obtain ⟨hv1597, N1597q, er1⟩ := hQ1597
      rw [hv1597] at st1597
      have N1597 := Fr.app N1581 N1597q
      obtain ⟨cq1598, kq1598, q1598a, q1598b, q1598c⟩ := isOf hZ er1 f1582
      obtain ⟨_, _, ⟨T1598, L1598, k1598, n1598⟩, -, X1598, ⟨Lc1598, hQ1598, l1598, y1598, z1598⟩, st1598⟩ := X1597.virtualBack hx (y := (⟨"com/example/plebiscite/plebiscite/Adjacency", "size", "()I"⟩ : MethodName)) (z := (⟨"com/example/plebiscite/plebiscite/Adjacency", "size", "()I"⟩ : MethodName)) hown (mvT hZ (hw _ (List.mem_of_getElem? (i := 59) rfl))) (mvT hZ (hw _ (List.mem_of_getElem? (i := 60) rfl))) (notFace_of_selects (args := #[]) (mvT hZ (hw _ (List.mem_of_getElem? (i := 62) rfl)))) (mvT hZ (hw _ (List.mem_of_getElem? (i := 62) rfl))) (mvT hZ (hw _ (List.mem_of_getElem? (i := 61) rfl))) (by decide) (backOf (W := 0) (rm_siz l Z a0 hw [] g (1 : Int32) h1581 n0 Z1595 f1587) hZ (hw _ (List.mem_of_getElem? (i := 63) rfl)) (hw _ (List.mem_of_getElem? (i := 2) rfl)) (by decide) (by decide)) q1598a q1598c (g := (mkF m 270 #[iv p0, iv p1, iv p2, iv p3, .val (.long q4), .second, iv p5, iv 1, iv 2, iv pos, iv s0, iv s1, iv p5, rv g, rv old, rv olds, rv e_, rv es, .unset, .unset] [(.ref g)])) rfl (by rw [hml]; rfl) (Steps.refl _) (argsL := []) (rest := []) (lenOf pd_7 rfl) rfl (by show 2 * 0 + _ ≤ _; exact Nat.le_of_eq rfl) (hb hby at_270) (fun _ _ => ⟨rfl, er1, (by decide : 12 + 0 ≤ _), (by decide : 57 + 0 ≤ _)⟩)
      dsimp only [Pt.U, Pt.locs, Pt.cells, Pt.slots] at X1598 l1598 y1598 z1598 st1598 hQ1598
      rw [l1598, y1598, z1598] at X1598
      obtain ⟨hv1598, N1598q, er2⟩ := hQ1598
      rw [hv1598] at st1598
      have N1598 := Fr.app N1597 N1598q
      obtain ⟨cq1599, kq1599, q1599a, q1599b, q1599c⟩ := isOf hZ er2 f1582
      obtain ⟨_, _, ⟨T1599, L1599, k1599, n1599⟩, -, X1599, ⟨Lc1599, hQ1599, l1599, y1599, z1599⟩, st1599⟩ := X1598.virtualBack hx (y := (⟨"com/example/plebiscite/plebiscite/Adjacency", "begin", "(I)I"⟩ : MethodName)) (z := (⟨"com/example/plebiscite/plebiscite/Adjacency", "begin", "(I)I"⟩ : MethodName)) hown (mvT hZ (hw _ (List.mem_of_getElem? (i := 64) rfl))) (mvT hZ (hw _ (List.mem_of_getElem? (i := 65) rfl))) (notFace_of_selects (args := #[]) (mvT hZ (hw _ (List.mem_of_getElem? (i := 67) rfl)))) (mvT hZ (hw _ (List.mem_of_getElem? (i := 67) rfl))) (mvT hZ (hw _ (List.mem_of_getElem? (i := 66) rfl))) (by decide) (backOf (W := 0) (rm_bgn l Z a0 hw [] g st k1 (0 : Int32) h1581 n0 Z1595 f1583 f1588) hZ (hw _ (List.mem_of_getElem? (i := 68) rfl)) (hw _ (List.mem_of_getElem? (i := 2) rfl)) (by decide) (by decide)) q1599a q1599c (g := (mkF m 290 #[iv p0, iv p1, iv p2, iv p3, .val (.long q4), .second, iv p5, iv 1, iv 2, iv pos, iv s0, iv s1, iv p5, rv g, rv old, rv olds, rv e_, rv es, iv 1, .unset] [(.int 0), (.ref g)])) rfl (by rw [hml]; rfl) (Steps.refl _) (argsL := [(.int 0)]) (rest := []) (lenOf pd_4 rfl) rfl (by show 2 * 0 + _ ≤ _; exact Nat.le_of_eq rfl) (hb hby at_290) (fun _ _ => ⟨rfl, er2, (by decide : 12 + 0 ≤ _), (by decide : 57 + 0 ≤ _)⟩)
      dsimp only [Pt.U, Pt.locs, Pt.cells, Pt.slots] at X1599 l1599 y1599 z1599 st1599 hQ1599
      rw [l1599, y1599, z1599] at X1599
      obtain ⟨hv1599, N1599q, er3⟩ := hQ1599
      rw [hv1599] at st1599
      have N1599 := Fr.app N1598 N1599q
      obtain ⟨cq1600, kq1600, q1600a, q1600b, q1600c⟩ := isOf hZ er3 f1582
      obtain ⟨_, _, ⟨T1600, L1600, k1600, n1600⟩, -, X1600, ⟨Lc1600, hQ1600, l1600, y1600, z1600⟩, st1600⟩ := X1599.virtualBack hx (y := (⟨"com/example/plebiscite/plebiscite/Adjacency", "item", "(I)I"⟩ : MethodName)) (z := (⟨"com/example/plebiscite/plebiscite/Adjacency", "item", "(I)I"⟩ : MethodName)) hown (mvT hZ (hw _ (List.mem_of_getElem? (i := 102) rfl))) (mvT hZ (hw _ (List.mem_of_getElem? (i := 103) rfl))) (notFace_of_selects (args := #[]) (mvT hZ (hw _ (List.mem_of_getElem? (i := 105) rfl)))) (mvT hZ (hw _ (List.mem_of_getElem? (i := 105) rfl))) (mvT hZ (hw _ (List.mem_of_getElem? (i := 104) rfl))) (by decide) (backOf (W := 0) (rm_itm l Z a0 hw [] g (0 : Int32) it2 k42 (16 : Int32) [(.int e0), (.int e1), (.int 0), (.int 0), (.int 0), (.int 0), (.int 0), (.int 0), (.int 0), (.int 0), (.int 0), (.int 0), (.int 0), (.int 0), (.int 0), (.int 0)] e0 h1581 n0 Z1595 f1585 f1590 ⟨by decide, by decide⟩ rfl) hZ (hw _ (List.mem_of_getElem? (i := 106) rfl)) (hw _ (List.mem_of_getElem? (i := 2) rfl)) (by decide) (by decide)) q1600a q1600c (g := (mkF m 310 #[iv p0, iv p1, iv p2, iv p3, .val (.long q4), .second, iv p5, iv 1, iv 2, iv pos, iv s0, iv s1, iv p5, rv g, rv old, rv olds, rv e_, rv es, iv 1, iv 0] [(.int 0), (.ref g)])) rfl (by rw [hml]; rfl) (Steps.refl _) (argsL := [(.int 0)]) (rest := []) (lenOf pd_4 rfl) rfl (by show 2 * 0 + _ ≤ _; exact Nat.le_of_eq rfl) (hb hby at_310) (fun _ _ => ⟨rfl, er3, (by decide : 12 + 0 ≤ _), (by decide : 57 + 0 ≤ _)⟩)
      dsimp only [Pt.U, Pt.locs, Pt.cells, Pt.slots] at X1600 l1600 y1600 z1600 st1600 hQ1600
      rw [l1600, y1600, z1600] at X1600
      obtain ⟨hv1600, N1600q, ei0⟩ := hQ1600
      rw [hv1600] at st1600
      have N1600 := Fr.app N1599 N1600q
      obtain ⟨cl1601, Ar1601, q1601, S1601, M1601, Hs1601, G1601⟩ := f1594
      have f1602 : Arv Z h1581 e_ k1412 .int (3 : Int32) [(.int e0), (.int e1), (.int p3)] (.int 0) := ⟨cl1601, Ar1601, q1601, S1601, M1601, Hs1601, G1601⟩
      have hin1603 : ¬ ((0 : Int32) < 0 ∨ cl1601.slots.size ≤ ((0 : Int32)).toNatClampNeg) := inb_of S1601 ⟨by decide, by decide⟩
      have hat1603 : cl1601.slots[((0 : Int32)).toNatClampNeg]? = some (.int e0) := Hs1601.at hin1603 rfl
      obtain ⟨cq1604, kq1604, q1604a, q1604b, q1604c⟩ := isOf hZ ei0 f1582
      obtain ⟨_, _, ⟨T1604, L1604, k1604, n1604⟩, -, X1604, ⟨Lc1604, hQ1604, l1604, y1604, z1604⟩, st1604⟩ := X1600.virtualBack hx (y := (⟨"com/example/plebiscite/plebiscite/Adjacency", "slot", "(I)I"⟩ : MethodName)) (z := (⟨"com/example/plebiscite/plebiscite/Adjacency", "slot", "(I)I"⟩ : MethodName)) hown (mvT hZ (hw _ (List.mem_of_getElem? (i := 107) rfl))) (mvT hZ (hw _ (List.mem_of_getElem? (i := 108) rfl))) (notFace_of_selects (args := #[]) (mvT hZ (hw _ (List.mem_of_getElem? (i := 110) rfl)))) (mvT hZ (hw _ (List.mem_of_getElem? (i := 110) rfl))) (mvT hZ (hw _ (List.mem_of_getElem? (i := 109) rfl))) (by decide) (backOf (W := 0) (rm_slt l Z a0 hw [] g (0 : Int32) sl2 k52 (16 : Int32) [(.int f0_), (.int f1_), (.int 0), (.int 0), (.int 0), (.int 0), (.int 0), (.int 0), (.int 0), (.int 0), (.int 0), (.int 0), (.int 0), (.int 0), (.int 0), (.int 0)] f0_ h1581 n0 Z1595 f1586 f1591 ⟨by decide, by decide⟩ rfl) hZ (hw _ (List.mem_of_getElem? (i := 111) rfl)) (hw _ (List.mem_of_getElem? (i := 2) rfl)) (by decide) (by decide)) q1604a q1604c (g := (mkF m 329 #[iv p0, iv p1, iv p2, iv p3, .val (.long q4), .second, iv p5, iv 1, iv 2, iv pos, iv s0, iv s1, iv p5, rv g, rv old, rv olds, rv e_, rv es, iv 1, iv 0] [(.int 0), (.ref g)])) rfl (by rw [hml]; rfl) (Steps.refl _) (argsL := [(.int 0)]) (rest := []) (lenOf pd_4 rfl) rfl (by show 2 * 0 + _ ≤ _; exact Nat.le_of_eq rfl) (hb hby at_329) (fun _ _ => ⟨rfl, ei0, (by decide : 12 + 0 ≤ _), (by decide : 57 + 0 ≤ _)⟩)
      dsimp only [Pt.U, Pt.locs, Pt.cells, Pt.slots] at X1604 l1604 y1604 z1604 st1604 hQ1604
      rw [l1604, y1604, z1604] at X1604
      obtain ⟨hv1604, N1604q, ej0⟩ := hQ1604
      rw [hv1604] at st1604
      have N1604 := Fr.app N1600 N1604q
      obtain ⟨cl1605, Ar1605, q1605, S1605, M1605, Hs1605, G1605⟩ := f1596
      have f1606 : Arv Z h1581 es k1481 .int (3 : Int32) [(.int f0_), (.int f1_), (.int p5)] (.int 0) := ⟨cl1605, Ar1605, q1605, S1605, M1605, Hs1605, G1605⟩
      have hin1607 : ¬ ((0 : Int32) < 0 ∨ cl1605.slots.size ≤ ((0 : Int32)).toNatClampNeg) := inb_of S1605 ⟨by decide, by decide⟩
      have hat1607 : cl1605.slots[((0 : Int32)).toNatClampNeg]? = some (.int f0_) := Hs1605.at hin1607 rfl
      have go1608 : ∀ t, Steps p.tables e below (T1604.setTop (mkF m 403 #[iv p0, iv p1, iv p2, iv p3, .val (.long q4), .second, iv p5, iv 1, iv 2, iv pos, iv s0, iv s1, iv p5, rv g, rv old, rv olds, rv e_, rv es, iv 1, iv 0] [(.int 1)])) t → Steps p.tables e below O t := fun t k => go965 t (by
        refine XS.iload X963.here hx rfl (hb hby at_72) rfl ?_
        refine XS.iconst X963.here hx rfl (hb hby at_74) ?_
        show Steps _ _ _ (T963.setTop (mkF m 75 _ [(.int 2), (.int 2)])) _
        refine XS.icmpNo X963.here hx rfl (hb hby at_75) rfl (flt (by decide : ¬ ((2 : Int32) < (2 : Int32)))).1 ?_
        refine XS.aload X963.here hx rfl (hb hby at_78) rfl rfl ?_
        show Steps _ _ _ (T963.setTop (mkF m 80 _ [(.ref g)])) _
        refine XS.iconst X963.here hx rfl (hb hby at_80) ?_
        refine XS.iloadN X963.here hx rfl (hb hby at_81) rfl ?_
        show Steps _ _ _ (T963.setTop (mkF m 82 _ [(.int p2), (.int 0), (.ref g)])) _
        refine XS.iload X963.here hx rfl (hb hby at_82) rfl ?_
        refine st1283.trans ?_
        show Steps _ _ _ (T1283.setTop (mkF m 87 _ [])) _
        refine XS.iload X1283.here hx rfl (hb hby at_87) rfl ?_
        refine XS.iconst X1283.here hx rfl (hb hby at_89) ?_
        show Steps _ _ _ (T1283.setTop (mkF m 90 _ [(.int 3), (.int 2)])) _
        refine XS.icmpYes X1283.here hx rfl (pc0 := 90) (pc' := 149) rfl (hb hby at_90) rfl (tlt (by decide : (2 : Int32) < (3 : Int32))).1 (by decide) (by decide) ?_
        refine XS.aload X1283.here hx rfl (hb hby at_149) rfl rfl ?_
        show Steps _ _ _ (T1283.setTop (mkF m 151 _ [(.ref g)])) _
        refine XS.iconst X1283.here hx rfl (hb hby at_151) ?_
        refine XS.iload X1283.here hx rfl (hb hby at_152) rfl ?_
        show Steps _ _ _ (T1283.setTop (mkF m 154 _ [(.int pos), (.int 0), (.ref g)])) _
        refine st1285.trans ?_
        show Steps _ _ _ (T1285.setTop (mkF m 157 _ [])) _
        refine XS.iconst X1285.here hx rfl (hb hby at_157) ?_
        refine st1289 _ ?_
        show Steps _ _ _ (T1289.setTop (mkF m 160 _ [(.ref old)])) _
        refine XS.dup X1289.here hx rfl (hb hby at_160) rfl rfl ?_
        refine XS.iconst X1289.here hx rfl (hb hby at_161) ?_
        show Steps _ _ _ (T1289.setTop (mkF m 162 _ [(.int 0), (.ref old), (.ref old)])) _
        refine XS.iloadN X1289.here hx rfl (hb hby at_162) rfl ?_
        refine st1308 _ ?_
        show Steps _ _ _ (T1308.setTop (mkF m 164 _ [(.ref old)])) _
        refine XS.dup X1308.here hx rfl (hb hby at_164) rfl rfl ?_
        refine XS.iconst X1308.here hx rfl (hb hby at_165) ?_
        show Steps _ _ _ (T1308.setTop (mkF m 166 _ [(.int 1), (.ref old), (.ref old)])) _
        refine XS.iloadN X1308.here hx rfl (hb hby at_166) rfl ?_
        refine st1322 _ ?_
        show Steps _ _ _ (T1322.setTop (mkF m 168 _ [(.ref old)])) _
        refine XS.dup X1322.here hx rfl (hb hby at_168) rfl rfl ?_
        refine XS.iconst X1322.here hx rfl (hb hby at_169) ?_
        show Steps _ _ _ (T1322.setTop (mkF m 170 _ [(.int 2), (.ref old), (.ref old)])) _
        refine XS.iloadN X1322.here hx rfl (hb hby at_170) rfl ?_
        refine st1336 _ ?_
        show Steps _ _ _ (T1336.setTop (mkF m 172 _ [(.ref old)])) _
        refine XS.astore X1336.here hx rfl (hb hby at_172) rfl rfl (l' := #[iv p0, iv p1, iv p2, iv p3, .val (.long q4), .second, iv p5, iv 1, iv 2, iv pos, iv s0, iv s1, iv p5, rv g, rv old, .unset, .unset, .unset, .unset, .unset]) rfl ?_
        show Steps _ _ _ (T1336.setTop (mkF m 174 _ [])) _
        refine XS.iconst X1336.here hx rfl (hb hby at_174) ?_
        refine st1348 _ ?_
        show Steps _ _ _ (T1348.setTop (mkF m 177 _ [(.ref olds)])) _
        refine XS.dup X1348.here hx rfl (hb hby at_177) rfl rfl ?_
        refine XS.iconst X1348.here hx rfl (hb hby at_178) ?_
        show Steps _ _ _ (T1348.setTop (mkF m 179 _ [(.int 0), (.ref olds), (.ref olds)])) _
        refine XS.iload X1348.here hx rfl (hb hby at_179) rfl ?_
        refine st1369 _ ?_
        show Steps _ _ _ (T1369.setTop (mkF m 182 _ [(.ref olds)])) _
        refine XS.dup X1369.here hx rfl (hb hby at_182) rfl rfl ?_
        refine XS.iconst X1369.here hx rfl (hb hby at_183) ?_
        show Steps _ _ _ (T1369.setTop (mkF m 184 _ [(.int 1), (.ref olds), (.ref olds)])) _
        refine XS.iload X1369.here hx rfl (hb hby at_184) rfl ?_
        refine st1384 _ ?_
        show Steps _ _ _ (T1384.setTop (mkF m 187 _ [(.ref olds)])) _
        refine XS.dup X1384.here hx rfl (hb hby at_187) rfl rfl ?_
        refine XS.iconst X1384.here hx rfl (hb hby at_188) ?_
        show Steps _ _ _ (T1384.setTop (mkF m 189 _ [(.int 2), (.ref olds), (.ref olds)])) _
        refine XS.iload X1384.here hx rfl (hb hby at_189) rfl ?_
        refine st1399 _ ?_
        show Steps _ _ _ (T1399.setTop (mkF m 192 _ [(.ref olds)])) _
        refine XS.astore X1399.here hx rfl (hb hby at_192) rfl rfl (l' := #[iv p0, iv p1, iv p2, iv p3, .val (.long q4), .second, iv p5, iv 1, iv 2, iv pos, iv s0, iv s1, iv p5, rv g, rv old, rv olds, .unset, .unset, .unset, .unset]) rfl ?_
        show Steps _ _ _ (T1399.setTop (mkF m 194 _ [])) _
        refine XS.iconst X1399.here hx rfl (hb hby at_194) ?_
        refine st1412 _ ?_
        show Steps _ _ _ (T1412.setTop (mkF m 197 _ [(.ref e_)])) _
        refine XS.dup X1412.here hx rfl (hb hby at_197) rfl rfl ?_
        refine XS.iconst X1412.here hx rfl (hb hby at_198) ?_
        show Steps _ _ _ (T1412.setTop (mkF m 199 _ [(.int 0), (.ref e_), (.ref e_)])) _
        refine XS.iloadN X1412.here hx rfl (hb hby at_199) rfl ?_
        refine st1435 _ ?_
        show Steps _ _ _ (T1435.setTop (mkF m 201 _ [(.ref e_)])) _
        refine XS.dup X1435.here hx rfl (hb hby at_201) rfl rfl ?_
        refine XS.iconst X1435.here hx rfl (hb hby at_202) ?_
        show Steps _ _ _ (T1435.setTop (mkF m 203 _ [(.int 1), (.ref e_), (.ref e_)])) _
        refine XS.iloadN X1435.here hx rfl (hb hby at_203) rfl ?_
        refine st1451 _ ?_
        show Steps _ _ _ (T1451.setTop (mkF m 205 _ [(.ref e_)])) _
        refine XS.dup X1451.here hx rfl (hb hby at_205) rfl rfl ?_
        refine XS.iconst X1451.here hx rfl (hb hby at_206) ?_
        show Steps _ _ _ (T1451.setTop (mkF m 207 _ [(.int 2), (.ref e_), (.ref e_)])) _
        refine XS.iloadN X1451.here hx rfl (hb hby at_207) rfl ?_
        refine st1467 _ ?_
        show Steps _ _ _ (T1467.setTop (mkF m 209 _ [(.ref e_)])) _
        refine XS.astore X1467.here hx rfl (hb hby at_209) rfl rfl (l' := #[iv p0, iv p1, iv p2, iv p3, .val (.long q4), .second, iv p5, iv 1, iv 2, iv pos, iv s0, iv s1, iv p5, rv g, rv old, rv olds, rv e_, .unset, .unset, .unset]) rfl ?_
        show Steps _ _ _ (T1467.setTop (mkF m 211 _ [])) _
        refine XS.iconst X1467.here hx rfl (hb hby at_211) ?_
        refine st1481 _ ?_
        show Steps _ _ _ (T1481.setTop (mkF m 214 _ [(.ref es)])) _
        refine XS.dup X1481.here hx rfl (hb hby at_214) rfl rfl ?_
        refine XS.iconst X1481.here hx rfl (hb hby at_215) ?_
        show Steps _ _ _ (T1481.setTop (mkF m 216 _ [(.int 0), (.ref es), (.ref es)])) _
        refine XS.iload X1481.here hx rfl (hb hby at_216) rfl ?_
        refine st1506 _ ?_
        show Steps _ _ _ (T1506.setTop (mkF m 219 _ [(.ref es)])) _
        refine XS.dup X1506.here hx rfl (hb hby at_219) rfl rfl ?_
        refine XS.iconst X1506.here hx rfl (hb hby at_220) ?_
        show Steps _ _ _ (T1506.setTop (mkF m 221 _ [(.int 1), (.ref es), (.ref es)])) _
        refine XS.iload X1506.here hx rfl (hb hby at_221) rfl ?_
        refine st1523 _ ?_
        show Steps _ _ _ (T1523.setTop (mkF m 224 _ [(.ref es)])) _
        refine XS.dup X1523.here hx rfl (hb hby at_224) rfl rfl ?_
        refine XS.iconst X1523.here hx rfl (hb hby at_225) ?_
        show Steps _ _ _ (T1523.setTop (mkF m 226 _ [(.int 2), (.ref es), (.ref es)])) _
        refine XS.iload X1523.here hx rfl (hb hby at_226) rfl ?_
        refine st1540 _ ?_
        show Steps _ _ _ (T1540.setTop (mkF m 229 _ [(.ref es)])) _
        refine XS.astore X1540.here hx rfl (hb hby at_229) rfl rfl (l' := #[iv p0, iv p1, iv p2, iv p3, .val (.long q4), .second, iv p5, iv 1, iv 2, iv pos, iv s0, iv s1, iv p5, rv g, rv old, rv olds, rv e_, rv es, .unset, .unset]) rfl ?_
        show Steps _ _ _ (T1540.setTop (mkF m 231 _ [])) _
        refine XS.aload X1540.here hx rfl (hb hby at_231) rfl rfl ?_
        refine XS.iload X1540.here hx rfl (hb hby at_233) rfl ?_
        show Steps _ _ _ (T1540.setTop (mkF m 235 _ [(.int pos), (.ref e_)])) _
        refine XS.aload X1540.here hx rfl (hb hby at_235) rfl rfl ?_
        refine XS.iload X1540.here hx rfl (hb hby at_237) rfl ?_
        show Steps _ _ _ (T1540.setTop (mkF m 239 _ [(.int 2), (.ref old), (.int pos), (.ref e_)])) _
        refine XS.iconst X1540.here hx rfl (hb hby at_239) ?_
        refine XS.isub X1540.here hx rfl (hb hby at_240) rfl ?_
        show Steps _ _ _ (T1540.setTop (mkF m 241 _ [(.int ((2 : Int32) - (1 : Int32))), (.ref old), (.int pos), (.ref e_)])) _
        refine X1540.iaload hx (j := ((2 : Int32) - (1 : Int32))) (v := (.int p2)) (by rw [e1540]; exact Ar1555.1) (State.isArrayOf_alike hZ.alike Ar1555.2.1) Ar1555.2.2 hin1557 hat1557 (g := (mkF m 241 #[iv p0, iv p1, iv p2, iv p3, .val (.long q4), .second, iv p5, iv 1, iv 2, iv pos, iv s0, iv s1, iv p5, rv g, rv old, rv olds, rv e_, rv es, .unset, .unset] [(.int ((2 : Int32) - (1 : Int32))), (.ref old), (.int pos), (.ref e_)])) rfl rfl (hb hby at_241) _ ?_
        refine st1560 _ ?_
        show Steps _ _ _ (T1560.setTop (mkF m 243 _ [])) _
        refine XS.aload X1560.here hx rfl (hb hby at_243) rfl rfl ?_
        refine XS.iload X1560.here hx rfl (hb hby at_245) rfl ?_
        show Steps _ _ _ (T1560.setTop (mkF m 247 _ [(.int pos), (.ref es)])) _
        refine XS.aload X1560.here hx rfl (hb hby at_247) rfl rfl ?_
        refine XS.iload X1560.here hx rfl (hb hby at_249) rfl ?_
        show Steps _ _ _ (T1560.setTop (mkF m 251 _ [(.int 2), (.ref olds), (.int pos), (.ref es)])) _
        refine XS.iconst X1560.here hx rfl (hb hby at_251) ?_
        refine XS.isub X1560.here hx rfl (hb hby at_252) rfl ?_
        show Steps _ _ _ (T1560.setTop (mkF m 253 _ [(.int ((2 : Int32) - (1 : Int32))), (.ref olds), (.int pos), (.ref es)])) _
        refine X1560.iaload hx (j := ((2 : Int32) - (1 : Int32))) (v := (.int s1)) (by rw [e1560]; exact Ar1576.1) (State.isArrayOf_alike hZ.alike Ar1576.2.1) Ar1576.2.2 hin1578 hat1578 (g := (mkF m 253 #[iv p0, iv p1, iv p2, iv p3, .val (.long q4), .second, iv p5, iv 1, iv 2, iv pos, iv s0, iv s1, iv p5, rv g, rv old, rv olds, rv e_, rv es, .unset, .unset] [(.int ((2 : Int32) - (1 : Int32))), (.ref olds), (.int pos), (.ref es)])) rfl rfl (hb hby at_253) _ ?_
        refine st1581 _ ?_
        show Steps _ _ _ (T1581.setTop (mkF m 255 _ [])) _
        refine XS.aload X1581.here hx rfl (hb hby at_255) rfl rfl ?_
        refine XS.iconst X1581.here hx rfl (hb hby at_257) ?_
        show Steps _ _ _ (T1581.setTop (mkF m 258 _ [(.int 0), (.ref g)])) _
        refine st1597.trans ?_
        show Steps _ _ _ (T1597.setTop (mkF m 261 _ [(.int 1)])) _
        refine XS.iload X1597.here hx rfl (hb hby at_261) rfl ?_
        refine XS.iconst X1597.here hx rfl (hb hby at_263) ?_
        show Steps _ _ _ (T1597.setTop (mkF m 264 _ [(.int 1), (.int 2), (.int 1)])) _
        refine XS.isub X1597.here hx rfl (hb hby at_264) rfl ?_
        refine XS.icmpNo X1597.here hx rfl (hb hby at_265) rfl (teq (by decide : (1 : Int32) = ((2 : Int32) - (1 : Int32)))).2 ?_
        show Steps _ _ _ (T1597.setTop (mkF m 268 _ [])) _
        refine XS.aload X1597.here hx rfl (hb hby at_268) rfl rfl ?_
        refine st1598.trans ?_
        show Steps _ _ _ (T1598.setTop (mkF m 273 _ [(.int 1)])) _
        refine XS.iload X1598.here hx rfl (hb hby at_273) rfl ?_
        refine XS.iconst X1598.here hx rfl (hb hby at_275) ?_
        show Steps _ _ _ (T1598.setTop (mkF m 276 _ [(.int 1), (.int 2), (.int 1)])) _
        refine XS.isub X1598.here hx rfl (hb hby at_276) rfl ?_
        refine XS.icmpNo X1598.here hx rfl (hb hby at_277) rfl (teq (by decide : (1 : Int32) = ((2 : Int32) - (1 : Int32)))).2 ?_
        show Steps _ _ _ (T1598.setTop (mkF m 280 _ [])) _
        refine XS.iconst X1598.here hx rfl (hb hby at_280) ?_
        refine XS.goto X1598.here hx rfl (pc0 := 281) (pc' := 285) rfl (hb hby at_281) (by decide) (by decide) ?_
        show Steps _ _ _ (T1598.setTop (mkF m 285 _ [(.int 1)])) _
        refine XS.istore X1598.here hx rfl (hb hby at_285) rfl (l' := #[iv p0, iv p1, iv p2, iv p3, .val (.long q4), .second, iv p5, iv 1, iv 2, iv pos, iv s0, iv s1, iv p5, rv g, rv old, rv olds, rv e_, rv es, iv 1, .unset]) rfl ?_
        show Steps _ _ _ (T1598.setTop (mkF m 287 _ [])) _
        refine XS.aload X1598.here hx rfl (hb hby at_287) rfl rfl ?_
        refine XS.iconst X1598.here hx rfl (hb hby at_289) ?_
        show Steps _ _ _ (T1598.setTop (mkF m 290 _ [(.int 0), (.ref g)])) _
        refine st1599.trans ?_
        show Steps _ _ _ (T1599.setTop (mkF m 293 _ [(.int 0)])) _
        refine XS.istore X1599.here hx rfl (hb hby at_293) rfl (l' := #[iv p0, iv p1, iv p2, iv p3, .val (.long q4), .second, iv p5, iv 1, iv 2, iv pos, iv s0, iv s1, iv p5, rv g, rv old, rv olds, rv e_, rv es, iv 1, iv 0]) rfl ?_
        show Steps _ _ _ (T1599.setTop (mkF m 295 _ [])) _
        refine XS.iload X1599.here hx rfl (hb hby at_295) rfl ?_
        refine XS.iconst X1599.here hx rfl (hb hby at_297) ?_
        show Steps _ _ _ (T1599.setTop (mkF m 298 _ [(.int 2), (.int 2)])) _
        refine XS.icmpNo X1599.here hx rfl (hb hby at_298) rfl (flt (by decide : ¬ ((2 : Int32) < (2 : Int32)))).1 ?_
        refine XS.iload X1599.here hx rfl (hb hby at_301) rfl ?_
        show Steps _ _ _ (T1599.setTop (mkF m 303 _ [(.int 1)])) _
        refine XS.ifNo X1599.here hx rfl (hb hby at_303) rfl ((if0 _ _).trans (feq (by decide : ¬ ((1 : Int32) = (0 : Int32)))).1) ?_
        refine XS.aload X1599.here hx rfl (hb hby at_306) rfl rfl ?_
        show Steps _ _ _ (T1599.setTop (mkF m 308 _ [(.ref g)])) _
        refine XS.iload X1599.here hx rfl (hb hby at_308) rfl ?_
        refine st1600.trans ?_
        show Steps _ _ _ (T1600.setTop (mkF m 313 _ [(.int e0)])) _
        refine XS.aload X1600.here hx rfl (hb hby at_313) rfl rfl ?_
        refine XS.iconst X1600.here hx rfl (hb hby at_315) ?_
        show Steps _ _ _ (T1600.setTop (mkF m 316 _ [(.int 0), (.ref e_), (.int e0)])) _
        refine X1600.iaload hx (j := (0 : Int32)) (v := (.int e0)) (by rw [ei0]; exact Ar1601.1) (State.isArrayOf_alike hZ.alike Ar1601.2.1) Ar1601.2.2 hin1603 hat1603 (g := (mkF m 316 #[iv p0, iv p1, iv p2, iv p3, .val (.long q4), .second, iv p5, iv 1, iv 2, iv pos, iv s0, iv s1, iv p5, rv g, rv old, rv olds, rv e_, rv es, iv 1, iv 0] [(.int 0), (.ref e_), (.int e0)])) rfl rfl (hb hby at_316) _ ?_
        refine XS.icmpNo X1600.here hx rfl (hb hby at_317) rfl (teq (rfl : e0 = e0)).2 ?_
        show Steps _ _ _ (T1600.setTop (mkF m 320 _ [])) _
        refine XS.iload X1600.here hx rfl (hb hby at_320) rfl ?_
        refine XS.ifNo X1600.here hx rfl (hb hby at_322) rfl ((if0 _ _).trans (feq (by decide : ¬ ((1 : Int32) = (0 : Int32)))).1) ?_
        show Steps _ _ _ (T1600.setTop (mkF m 325 _ [])) _
        refine XS.aload X1600.here hx rfl (hb hby at_325) rfl rfl ?_
        refine XS.iload X1600.here hx rfl (hb hby at_327) rfl ?_
        show Steps _ _ _ (T1600.setTop (mkF m 329 _ [(.int 0), (.ref g)])) _
        refine st1604.trans ?_
        show Steps _ _ _ (T1604.setTop (mkF m 332 _ [(.int f0_)])) _
        refine XS.aload X1604.here hx rfl (hb hby at_332) rfl rfl ?_
        refine XS.iconst X1604.here hx rfl (hb hby at_334) ?_
        show Steps _ _ _ (T1604.setTop (mkF m 335 _ [(.int 0), (.ref es), (.int f0_)])) _
        refine X1604.iaload hx (j := (0 : Int32)) (v := (.int f0_)) (by rw [ej0]; exact Ar1605.1) (State.isArrayOf_alike hZ.alike Ar1605.2.1) Ar1605.2.2 hin1607 hat1607 (g := (mkF m 335 #[iv p0, iv p1, iv p2, iv p3, .val (.long q4), .second, iv p5, iv 1, iv 2, iv pos, iv s0, iv s1, iv p5, rv g, rv old, rv olds, rv e_, rv es, iv 1, iv 0] [(.int 0), (.ref es), (.int f0_)])) rfl rfl (hb hby at_335) _ ?_
        refine XS.icmpNo X1604.here hx rfl (hb hby at_336) rfl (teq (rfl : f0_ = f0_)).2 ?_
        show Steps _ _ _ (T1604.setTop (mkF m 339 _ [])) _
        refine XS.iconst X1604.here hx rfl (hb hby at_339) ?_
        refine XS.goto X1604.here hx rfl (pc0 := 340) (pc' := 344) rfl (hb hby at_340) (by decide) (by decide) ?_
        show Steps _ _ _ (T1604.setTop (mkF m 344 _ [(.int 1)])) _
        refine XS.istore X1604.here hx rfl (hb hby at_344) rfl (l' := #[iv p0, iv p1, iv p2, iv p3, .val (.long q4), .second, iv p5, iv 1, iv 2, iv pos, iv s0, iv s1, iv p5, rv g, rv old, rv olds, rv e_, rv es, iv 1, iv 0]) rfl ?_
        show Steps _ _ _ (T1604.setTop (mkF m 346 _ [])) _
        refine XS.iload X1604.here hx rfl (hb hby at_346) rfl ?_
        refine XS.iconst X1604.here hx rfl (hb hby at_348) ?_
        show Steps _ _ _ (T1604.setTop (mkF m 349 _ [(.int 3), (.int 2)])) _
        refine XS.icmpYes X1604.here hx rfl (pc0 := 349) (pc' := 401) rfl (hb hby at_349) rfl (tlt (by decide : (2 : Int32) < (3 : Int32))).1 (by decide) (by decide) ?_
        refine XS.iload X1604.here hx rfl (hb hby at_401) rfl ?_
        show Steps _ _ _ (T1604.setTop (mkF m 403 _ [(.int 1)])) _
        exact k)
      rw [hO] at go1608
      obtain ⟨fs, hr, hrun, hended, hW, hsame⟩ := X1604.leave (v := some (.int 1)) (fun h => by rw [Bd.returns] at h; cases h)
      refine ⟨_, _, go1608 _ ?_, hrun, hended, _, _, rfl, ?_, ⟨_, rfl⟩, hW, hsame.mono (by decide) (by decide)⟩
      · exact retN X1604 hx (t := .boolean) Bd.returns (by simp) (hb hby at_403) hr
      · show Q_law Z p0 p1 p2 p3 q4 p5 h0 n0 _ T1604.heap _
        rw [ej0]
        exact ⟨rfl, N1604⟩
    · obtain ⟨cq1610, kq1610, q1610a, q1610b, q1610c⟩ := isOf hZ rfl HA1.1
      obtain ⟨_, _, ⟨T1610, L1610, k1610, n1610⟩, -, X1610, ⟨Lc1610, hQ1610, l1610, y1610, z1610⟩, st1610⟩ := X963.virtualBack hx (y := (⟨"com/example/plebiscite/plebiscite/Adjacency", "add", "(III)V"⟩ : MethodName)) (z := (⟨"com/example/plebiscite/plebiscite/Adjacency", "add", "(III)V"⟩ : MethodName)) hown (mvT hZ (hw _ (List.mem_of_getElem? (i := 77) rfl))) (mvT hZ (hw _ (List.mem_of_getElem? (i := 78) rfl))) (notFace_of_selects (args := #[]) (mvT hZ (hw _ (List.mem_of_getElem? (i := 80) rfl)))) (mvT hZ (hw _ (List.mem_of_getElem? (i := 80) rfl))) (mvT hZ (hw _ (List.mem_of_getElem? (i := 79) rfl))) (by decide) (backOf (W := 0) (rm_adp l Z a0 hw [] g p2 s1 st dg rm it2 k1 k2 k3 k42 (16 : Int32) [.int p1, .int (0 : Int32), .int (0 : Int32), .int (0 : Int32), .int (0 : Int32), .int (0 : Int32), .int (0 : Int32), .int (0 : Int32), .int (0 : Int32), .int (0 : Int32), .int (0 : Int32), .int (0 : Int32), .int (0 : Int32), .int (0 : Int32), .int (0 : Int32), .int (0 : Int32)] (1 : Int32) sl2 k52 [.int s0, .int (0 : Int32), .int (0 : Int32), .int (0 : Int32), .int (0 : Int32), .int (0 : Int32), .int (0 : Int32), .int (0 : Int32), .int (0 : Int32), .int (0 : Int32), .int (0 : Int32), .int (0 : Int32), .int (0 : Int32), .int (0 : Int32), .int (0 : Int32), .int (0 : Int32)] T963.heap n0 Z964 HA1 HB1 (by decide) ⟨by decide, by decide⟩ (Nat.le_of_ble_eq_true rfl) (Nat.le_of_ble_eq_true rfl)) hZ (hw _ (List.mem_of_getElem? (i := 81) rfl)) (hw _ (List.mem_of_getElem? (i := 2) rfl)) (by decide) (by decide)) q1610a q1610c (g := (mkF m 84 #[iv p0, iv p1, iv p2, iv p3, .val (.long q4), .second, iv p5, iv 1, iv 3, iv pos, iv s0, iv s1, iv p5, rv g, .unset, .unset, .unset, .unset, .unset, .unset] [(.int s1), (.int p2), (.int 0), (.ref g)])) rfl (by rw [hml]; rfl) (Steps.refl _) (argsL := [(.int 0), (.int p2), (.int s1)]) (rest := []) (lenOf pd_9 rfl) rfl (by show 2 * 0 + _ ≤ _; exact Nat.le_of_eq rfl) (hb hby at_84) (fun _ _ => ⟨rfl, rfl, (by decide : 8 + 0 ≤ _), (by decide : 45 + 0 ≤ _)⟩)
      dsimp only [Pt.U, Pt.locs, Pt.cells, Pt.slots] at X1610 l1610 y1610 z1610 st1610 hQ1610
      rw [l1610, y1610, z1610] at X1610
      obtain ⟨hv1610, N1610q, hA, hB⟩ := hQ1610
      rw [hv1610] at st1610
      have N1610 := Fr.app N963 N1610q
      have HA2 : own_A Z T1610.heap n0 g st dg rm it2 k1 k2 k3 k42 (16 : Int32) [.int p1, .int p2, .int (0 : Int32), .int (0 : Int32), .int (0 : Int32), .int (0 : Int32), .int (0 : Int32), .int (0 : Int32), .int (0 : Int32), .int (0 : Int32), .int (0 : Int32), .int (0 : Int32), .int (0 : Int32), .int (0 : Int32), .int (0 : Int32), .int (0 : Int32)] (.ref sl2) (2 : Int32) (2 : Int32) (2 : Int32) (2 : Int32) (2 : Int32) := hA
      have HB2 : own_S Z T1610.heap n0 sl2 k52 (16 : Int32) [.int s0, .int s1, .int (0 : Int32), .int (0 : Int32), .int (0 : Int32), .int (0 : Int32), .int (0 : Int32), .int (0 : Int32), .int (0 : Int32), .int (0 : Int32), .int (0 : Int32), .int (0 : Int32), .int (0 : Int32), .int (0 : Int32), .int (0 : Int32), .int (0 : Int32)] g st dg rm it2 := hB
      have Z1611 := Nat.le_trans HA2.2.1 (Nat.le_of_lt HA2.1.lt)
      obtain ⟨cq1612, kq1612, q1612a, q1612b, q1612c⟩ := isOf hZ rfl HA2.1
      obtain ⟨_, _, ⟨T1612, L1612, k1612, n1612⟩, -, X1612, ⟨Lc1612, hQ1612, l1612, y1612, z1612⟩, st1612⟩ := X1610.virtualBack hx (y := (⟨"com/example/plebiscite/plebiscite/Adjacency", "add", "(III)V"⟩ : MethodName)) (z := (⟨"com/example/plebiscite/plebiscite/Adjacency", "add", "(III)V"⟩ : MethodName)) hown (mvT hZ (hw _ (List.mem_of_getElem? (i := 77) rfl))) (mvT hZ (hw _ (List.mem_of_getElem? (i := 78) rfl))) (notFace_of_selects (args := #[]) (mvT hZ (hw _ (List.mem_of_getElem? (i := 80) rfl)))) (mvT hZ (hw _ (List.mem_of_getElem? (i := 80) rfl))) (mvT hZ (hw _ (List.mem_of_getElem? (i := 79) rfl))) (by decide) (backOf (W := 0) (rm_adp l Z a0 hw [] g p3 p5 st dg rm it2 k1 k2 k3 k42 (16 : Int32) [.int p1, .int p2, .int (0 : Int32), .int (0 : Int32), .int (0 : Int32), .int (0 : Int32), .int (0 : Int32), .int (0 : Int32), .int (0 : Int32), .int (0 : Int32), .int (0 : Int32), .int (0 : Int32), .int (0 : Int32), .int (0 : Int32), .int (0 : Int32), .int (0 : Int32)] (2 : Int32) sl2 k52 [.int s0, .int s1, .int (0 : Int32), .int (0 : Int32), .int (0 : Int32), .int (0 : Int32), .int (0 : Int32), .int (0 : Int32), .int (0 : Int32), .int (0 : Int32), .int (0 : Int32), .int (0 : Int32), .int (0 : Int32), .int (0 : Int32), .int (0 : Int32), .int (0 : Int32)] T1610.heap n0 Z1611 HA2 HB2 (by decide) ⟨by decide, by decide⟩ (Nat.le_of_ble_eq_true rfl) (Nat.le_of_ble_eq_true rfl)) hZ (hw _ (List.mem_of_getElem? (i := 81) rfl)) (hw _ (List.mem_of_getElem? (i := 2) rfl)) (by decide) (by decide)) q1612a q1612c (g := (mkF m 99 #[iv p0, iv p1, iv p2, iv p3, .val (.long q4), .second, iv p5, iv 1, iv 3, iv pos, iv s0, iv s1, iv p5, rv g, .unset, .unset, .unset, .unset, .unset, .unset] [(.int p5), (.int p3), (.int 0), (.ref g)])) rfl (by rw [hml]; rfl) (Steps.refl _) (argsL := [(.int 0), (.int p3), (.int p5)]) (rest := []) (lenOf pd_9 rfl) rfl (by show 2 * 0 + _ ≤ _; exact Nat.le_of_eq rfl) (hb hby at_99) (fun _ _ => ⟨rfl, rfl, (by decide : 8 + 0 ≤ _), (by decide : 45 + 0 ≤ _)⟩)
      dsimp only [Pt.U, Pt.locs, Pt.cells, Pt.slots] at X1612 l1612 y1612 z1612 st1612 hQ1612
      rw [l1612, y1612, z1612] at X1612
      obtain ⟨hv1612, N1612q, hA, hB⟩ := hQ1612
      rw [hv1612] at st1612
      have N1612 := Fr.app N1610 N1612q
      have HA3 : own_A Z T1612.heap n0 g st dg rm it2 k1 k2 k3 k42 (16 : Int32) [.int p1, .int p2, .int p3, .int (0 : Int32), .int (0 : Int32), .int (0 : Int32), .int (0 : Int32), .int (0 : Int32), .int (0 : Int32), .int (0 : Int32), .int (0 : Int32), .int (0 : Int32), .int (0 : Int32), .int (0 : Int32), .int (0 : Int32), .int (0 : Int32)] (.ref sl2) (3 : Int32) (3 : Int32) (3 : Int32) (3 : Int32) (3 : Int32) := hA
      have HB3 : own_S Z T1612.heap n0 sl2 k52 (16 : Int32) [.int s0, .int s1, .int p5, .int (0 : Int32), .int (0 : Int32), .int (0 : Int32), .int (0 : Int32), .int (0 : Int32), .int (0 : Int32), .int (0 : Int32), .int (0 : Int32), .int (0 : Int32), .int (0 : Int32), .int (0 : Int32), .int (0 : Int32), .int (0 : Int32)] g st dg rm it2 := hB
      have Z1613 := Nat.le_trans HA3.2.1 (Nat.le_of_lt HA3.1.lt)
      obtain ⟨cq1614, kq1614, q1614a, q1614b, q1614c⟩ := isOf hZ rfl HA3.1
      obtain ⟨_, _, ⟨T1614, L1614, k1614, n1614⟩, -, X1614, ⟨Lc1614, hQ1614, l1614, y1614, z1614⟩, st1614⟩ := X1612.virtualBack hx (y := (⟨"com/example/plebiscite/plebiscite/Adjacency", "remove", "(II)V"⟩ : MethodName)) (z := (⟨"com/example/plebiscite/plebiscite/Adjacency", "remove", "(II)V"⟩ : MethodName)) hown (mvT hZ (hw _ (List.mem_of_getElem? (i := 47) rfl))) (mvT hZ (hw _ (List.mem_of_getElem? (i := 48) rfl))) (notFace_of_selects (args := #[]) (mvT hZ (hw _ (List.mem_of_getElem? (i := 50) rfl)))) (mvT hZ (hw _ (List.mem_of_getElem? (i := 50) rfl))) (mvT hZ (hw _ (List.mem_of_getElem? (i := 49) rfl))) (by decide) (backOf (W := 0) (rm_rmp l Z a0 hw [] g pos st dg rm it2 k1 k2 k3 k42 (16 : Int32) [.int p1, .int p2, .int p3, .int (0 : Int32), .int (0 : Int32), .int (0 : Int32), .int (0 : Int32), .int (0 : Int32), .int (0 : Int32), .int (0 : Int32), .int (0 : Int32), .int (0 : Int32), .int (0 : Int32), .int (0 : Int32), .int (0 : Int32), .int (0 : Int32)] (3 : Int32) sl2 k52 [.int s0, .int s1, .int p5, .int (0 : Int32), .int (0 : Int32), .int (0 : Int32), .int (0 : Int32), .int (0 : Int32), .int (0 : Int32), .int (0 : Int32), .int (0 : Int32), .int (0 : Int32), .int (0 : Int32), .int (0 : Int32), .int (0 : Int32), .int (0 : Int32)] p3 p5 T1612.heap n0 Z1613 HA3 HB3 ⟨by decide, by decide⟩ rfl hpi.2.2.2.1 hpi.2.2.2.2.2 rfl hpi.2.2.2.2.2) hZ (hw _ (List.mem_of_getElem? (i := 51) rfl)) (hw _ (List.mem_of_getElem? (i := 2) rfl)) (by decide) (by decide)) q1614a q1614c (g := (mkF m 154 #[iv p0, iv p1, iv p2, iv p3, .val (.long q4), .second, iv p5, iv 1, iv 3, iv pos, iv s0, iv s1, iv p5, rv g, .unset, .unset, .unset, .unset, .unset, .unset] [(.int pos), (.int 0), (.ref g)])) rfl (by rw [hml]; rfl) (Steps.refl _) (argsL := [(.int 0), (.int pos)]) (rest := []) (lenOf pd_0 rfl) rfl (by show 2 * 0 + _ ≤ _; exact Nat.le_of_eq rfl) (hb hby at_154) (fun _ _ => ⟨rfl, rfl, (by decide : 8 + 0 ≤ _), (by decide : 45 + 0 ≤ _)⟩)
      dsimp only [Pt.U, Pt.locs, Pt.cells, Pt.slots] at X1614 l1614 y1614 z1614 st1614 hQ1614
      rw [l1614, y1614, z1614] at X1614
      obtain ⟨hv1614, N1614q, hA, hB⟩ := hQ1614
      rw [hv1614] at st1614
      have N1614 := Fr.app N1612 N1614q
      obtain ⟨e0, e1, e2, he, hi⟩ := own_sync3 pos p1 p2 p3 p3 [.int (0 : Int32), .int (0 : Int32), .int (0 : Int32), .int (0 : Int32), .int (0 : Int32), .int (0 : Int32), .int (0 : Int32), .int (0 : Int32), .int (0 : Int32), .int (0 : Int32), .int (0 : Int32), .int (0 : Int32), .int (0 : Int32)] hp
      have hA2 : own_A Z T1614.heap n0 g st dg rm it2 k1 k2 k3 k42 (16 : Int32) [.int e0, .int e1, .int e2, .int (0 : Int32), .int (0 : Int32), .int (0 : Int32), .int (0 : Int32), .int (0 : Int32), .int (0 : Int32), .int (0 : Int32), .int (0 : Int32), .int (0 : Int32), .int (0 : Int32), .int (0 : Int32), .int (0 : Int32), .int (0 : Int32)] (.ref sl2) (2 : Int32) (3 : Int32) (3 : Int32) (3 : Int32) (2 : Int32) := hi ▸ hA
      obtain ⟨f0_, f1_, f2_, hf, hj⟩ := own_sync3 pos s0 s1 p5 p5 [.int (0 : Int32), .int (0 : Int32), .int (0 : Int32), .int (0 : Int32), .int (0 : Int32), .int (0 : Int32), .int (0 : Int32), .int (0 : Int32), .int (0 : Int32), .int (0 : Int32), .int (0 : Int32), .int (0 : Int32), .int (0 : Int32)] hp
      have hB2 : own_S Z T1614.heap n0 sl2 k52 (16 : Int32) [.int f0_, .int f1_, .int f2_, .int (0 : Int32), .int (0 : Int32), .int (0 : Int32), .int (0 : Int32), .int (0 : Int32), .int (0 : Int32), .int (0 : Int32), .int (0 : Int32), .int (0 : Int32), .int (0 : Int32), .int (0 : Int32), .int (0 : Int32), .int (0 : Int32)] g st dg rm it2 := hj ▸ hB
      obtain ⟨AX_1615, Ag0_1615, Ag1_1615, Ag2_1615, Ag3_1615, Ag4_1615, AF0_1615, AF1_1615, AF2_1615, AF3_1615, AF4_1615, AF5_1615, AF6_1615, AF7_1615, AF8_1615, AV0_1615, AV1_1615, AV2_1615, AV3_1615, AN0_1615, AN1_1615, AN2_1615, AN3_1615, AN4_1615, AN5_1615, AN6_1615, AN7_1615, AN8_1615, AN9_1615⟩ := hA2
      have Z1616 := Nat.le_trans Ag0_1615 (Nat.le_of_lt AX_1615.lt)
      obtain ⟨SG_1617, SV_1617, SN0_1617, SN1_1617, SN2_1617, SN3_1617, SN4_1617⟩ := hB2
      obtain ⟨T1618, h1618, k1618, X1618, e1618, E1618, A1618, st1618⟩ := newP X1614 hx hZ (hw _ (List.mem_of_getElem? (i := 9) rfl)) rfl (g := (mkF m 158 #[iv p0, iv p1, iv p2, iv p3, .val (.long q4), .second, iv p5, iv 1, iv 3, iv pos, iv s0, iv s1, iv p5, rv g, .unset, .unset, .unset, .unset, .unset, .unset] [(.int 3)])) rfl (hb hby at_158) rfl (by decide) (cap := 3) (by decide) (by decide) (by decide) (by decide)
      obtain ⟨old, g1618⟩ : ∃ z, z = T1614.heap.size := ⟨_, rfl⟩
      have ne1619 : g ≠ old := Nat.ne_of_lt (Nat.lt_of_lt_of_le AX_1615.lt (Nat.le_of_eq g1618.symm))
      have ne1620 : st ≠ old := Nat.ne_of_lt (Nat.lt_of_lt_of_le AV0_1615.lt (Nat.le_of_eq g1618.symm))
      have ne1621 : dg ≠ old := Nat.ne_of_lt (Nat.lt_of_lt_of_le AV1_1615.lt (Nat.le_of_eq g1618.symm))
      have ne1622 : it2 ≠ old := Nat.ne_of_lt (Nat.lt_of_lt_of_le AV3_1615.lt (Nat.le_of_eq g1618.symm))
      have ne1623 : sl2 ≠ old := Nat.ne_of_lt (Nat.lt_of_lt_of_le SV_1617.lt (Nat.le_of_eq g1618.symm))
      have ge_old : n0 ≤ old := Nat.le_trans Z1616 (Nat.le_of_eq g1618.symm)
      rw [← g1618] at A1618 st1618
      have f1624 := AX_1615.ext E1618
      have f1625 := AF0_1615.ext E1618
      have f1626 := AF1_1615.ext E1618
      have f1627 := AF3_1615.ext E1618
      have f1628 := AF4_1615.ext E1618
      have f1629 := AF7_1615.ext E1618
      have f1630 := AV0_1615.ext E1618
      have f1631 := AV1_1615.ext E1618
      have f1632 := AV3_1615.ext E1618
      have f1633 := SV_1617.ext E1618
      have Z1634 := Nat.le_trans Z1616 E1618.1
      have V_old_1618 : Arv Z h1618 old k1618 .int (3 : Int32) [(.int 0), (.int 0), (.int 0)] (.int 0) := (Arv.new A1618 (by decide)).pad (pad_rep [] (.int 0) 3)
      obtain ⟨cl1635, Ar1635, q1635, S1635, M1635, Hs1635, G1635⟩ := V_old_1618
      have f1636 : Arv Z h1618 old k1618 .int (3 : Int32) [(.int 0), (.int 0), (.int 0)] (.int 0) := ⟨cl1635, Ar1635, q1635, S1635, M1635, Hs1635, G1635⟩
      have hin1637 : ¬ ((0 : Int32) < 0 ∨ cl1635.slots.size ≤ ((0 : Int32)).toNatClampNeg) := inb_of S1635 ⟨by decide, by decide⟩
      obtain ⟨T1637, h1637, X1637, e1637, W1637, st1637⟩ := stI X1618 hx hZ e1618 Ar1635 (j := (0 : Int32)) hin1637 (g := (mkF m 163 #[iv p0, iv p1, iv p2, iv p3, .val (.long q4), .second, iv p5, iv 1, iv 3, iv pos, iv s0, iv s1, iv p5, rv g, .unset, .unset, .unset, .unset, .unset, .unset] [(.int p1), (.int 0), (.ref old), (.ref old)])) rfl rfl (hb hby at_163)
      have f1638 := f1624.wr W1637
      have f1639 := f1625.other W1637 (Or.inl ne1619)
      have f1640 := f1626.other W1637 (Or.inl ne1619)
      have f1641 := f1627.other W1637 (Or.inl ne1619)
      have f1642 := f1628.other W1637 (Or.inl ne1619)
      have f1643 := f1629.other W1637 (Or.inl ne1619)
      have f1644 := f1630.other W1637 ne1620
      have f1645 := f1631.other W1637 ne1621
      have f1646 := f1632.other W1637 ne1622
      have f1647 := f1633.other W1637 ne1623
      have Z1648 := Nat.le_trans Z1634 (Keep.of_wr W1637).1
      have V1637 : Arv Z h1637 old k1618 .int (3 : Int32) [(.int p1), (.int 0), (.int 0)] (.int 0) := Arv.set Ar1635 q1635 S1635 M1635 Hs1635 G1635 rfl W1637 0 rfl (Nat.le_of_ble_eq_true rfl)
      have N1637 := Fr.snoc X1637 N1614 ge_old
      obtain ⟨cl1649, Ar1649, q1649, S1649, M1649, Hs1649, G1649⟩ := V1637
      have f1650 : Arv Z h1637 old k1618 .int (3 : Int32) [(.int p1), (.int 0), (.int 0)] (.int 0) := ⟨cl1649, Ar1649, q1649, S1649, M1649, Hs1649, G1649⟩
      have hin1651 : ¬ ((1 : Int32) < 0 ∨ cl1649.slots.size ≤ ((1 : Int32)).toNatClampNeg) := inb_of S1649 ⟨by decide, by decide⟩
      obtain ⟨T1651, h1651, X1651, e1651, W1651, st1651⟩ := stI X1637 hx hZ e1637 Ar1649 (j := (1 : Int32)) hin1651 (g := (mkF m 167 #[iv p0, iv p1, iv p2, iv p3, .val (.long q4), .second, iv p5, iv 1, iv 3, iv pos, iv s0, iv s1, iv p5, rv g, .unset, .unset, .unset, .unset, .unset, .unset] [(.int p2), (.int 1), (.ref old), (.ref old)])) rfl rfl (hb hby at_167)
      have f1652 := f1638.wr W1651
      have f1653 := f1639.other W1651 (Or.inl ne1619)
      have f1654 := f1640.other W1651 (Or.inl ne1619)
      have f1655 := f1641.other W1651 (Or.inl ne1619)
      have f1656 := f1642.other W1651 (Or.inl ne1619)
      have f1657 := f1643.other W1651 (Or.inl ne1619)
      have f1658 := f1644.other W1651 ne1620
      have f1659 := f1645.other W1651 ne1621
      have f1660 := f1646.other W1651 ne1622
      have f1661 := f1647.other W1651 ne1623
      have Z1662 := Nat.le_trans Z1648 (Keep.of_wr W1651).1
      have V1651 : Arv Z h1651 old k1618 .int (3 : Int32) [(.int p1), (.int p2), (.int 0)] (.int 0) := Arv.set Ar1649 q1649 S1649 M1649 Hs1649 G1649 rfl W1651 1 rfl (Nat.le_of_ble_eq_true rfl)
      have N1651 := Fr.snoc X1651 N1637 ge_old
      obtain ⟨cl1663, Ar1663, q1663, S1663, M1663, Hs1663, G1663⟩ := V1651
      have f1664 : Arv Z h1651 old k1618 .int (3 : Int32) [(.int p1), (.int p2), (.int 0)] (.int 0) := ⟨cl1663, Ar1663, q1663, S1663, M1663, Hs1663, G1663⟩
      have hin1665 : ¬ ((2 : Int32) < 0 ∨ cl1663.slots.size ≤ ((2 : Int32)).toNatClampNeg) := inb_of S1663 ⟨by decide, by decide⟩
      obtain ⟨T1665, h1665, X1665, e1665, W1665, st1665⟩ := stI X1651 hx hZ e1651 Ar1663 (j := (2 : Int32)) hin1665 (g := (mkF m 171 #[iv p0, iv p1, iv p2, iv p3, .val (.long q4), .second, iv p5, iv 1, iv 3, iv pos, iv s0, iv s1, iv p5, rv g, .unset, .unset, .unset, .unset, .unset, .unset] [(.int p3), (.int 2), (.ref old), (.ref old)])) rfl rfl (hb hby at_171)
      have f1666 := f1652.wr W1665
      have f1667 := f1653.other W1665 (Or.inl ne1619)
      have f1668 := f1654.other W1665 (Or.inl ne1619)
      have f1669 := f1655.other W1665 (Or.inl ne1619)
      have f1670 := f1656.other W1665 (Or.inl ne1619)
      have f1671 := f1657.other W1665 (Or.inl ne1619)
      have f1672 := f1658.other W1665 ne1620
      have f1673 := f1659.other W1665 ne1621
      have f1674 := f1660.other W1665 ne1622
      have f1675 := f1661.other W1665 ne1623
      have Z1676 := Nat.le_trans Z1662 (Keep.of_wr W1665).1
      have V1665 : Arv Z h1665 old k1618 .int (3 : Int32) [(.int p1), (.int p2), (.int p3)] (.int 0) := Arv.set Ar1663 q1663 S1663 M1663 Hs1663 G1663 rfl W1665 2 rfl (Nat.le_of_ble_eq_true rfl)
      have N1665 := Fr.snoc X1665 N1651 ge_old
      obtain ⟨T1677, h1677, k1677, X1677, e1677, E1677, A1677, st1677⟩ := newP X1665 hx hZ (hw _ (List.mem_of_getElem? (i := 9) rfl)) e1665 (g := (mkF m 175 #[iv p0, iv p1, iv p2, iv p3, .val (.long q4), .second, iv p5, iv 1, iv 3, iv pos, iv s0, iv s1, iv p5, rv g, rv old, .unset, .unset, .unset, .unset, .unset] [(.int 3)])) rfl (hb hby at_175) rfl (by decide) (cap := 3) (by decide) (by decide) (by decide) (by decide)
      obtain ⟨olds, g1677⟩ : ∃ z, z = h1665.size := ⟨_, rfl⟩
      have ne1678 : g ≠ olds := Nat.ne_of_lt (Nat.lt_of_lt_of_le f1666.lt (Nat.le_of_eq g1677.symm))
      have ne1679 : st ≠ olds := Nat.ne_of_lt (Nat.lt_of_lt_of_le f1672.lt (Nat.le_of_eq g1677.symm))
      have ne1680 : dg ≠ olds := Nat.ne_of_lt (Nat.lt_of_lt_of_le f1673.lt (Nat.le_of_eq g1677.symm))
      have ne1681 : it2 ≠ olds := Nat.ne_of_lt (Nat.lt_of_lt_of_le f1674.lt (Nat.le_of_eq g1677.symm))
      have ne1682 : sl2 ≠ olds := Nat.ne_of_lt (Nat.lt_of_lt_of_le f1675.lt (Nat.le_of_eq g1677.symm))
      have ne1683 : old ≠ olds := Nat.ne_of_lt (Nat.lt_of_lt_of_le V1665.lt (Nat.le_of_eq g1677.symm))
      have ge_olds : n0 ≤ olds := Nat.le_trans Z1676 (Nat.le_of_eq g1677.symm)
      rw [← g1677] at A1677 st1677
      have f1684 := f1666.ext E1677
      have f1685 := f1667.ext E1677
      have f1686 := f1668.ext E1677
      have f1687 := f1669.ext E1677
      have f1688 := f1670.ext E1677
      have f1689 := f1671.ext E1677
      have f1690 := f1672.ext E1677
      have f1691 := f1673.ext E1677
      have f1692 := f1674.ext E1677
      have f1693 := f1675.ext E1677
      have f1694 := V1665.ext E1677
      have Z1695 := Nat.le_trans Z1676 E1677.1
      have V_olds_1677 : Arv Z h1677 olds k1677 .int (3 : Int32) [(.int 0), (.int 0), (.int 0)] (.int 0) := (Arv.new A1677 (by decide)).pad (pad_rep [] (.int 0) 3)
      obtain ⟨cl1696, Ar1696, q1696, S1696, M1696, Hs1696, G1696⟩ := V_olds_1677
      have f1697 : Arv Z h1677 olds k1677 .int (3 : Int32) [(.int 0), (.int 0), (.int 0)] (.int 0) := ⟨cl1696, Ar1696, q1696, S1696, M1696, Hs1696, G1696⟩
      have hin1698 : ¬ ((0 : Int32) < 0 ∨ cl1696.slots.size ≤ ((0 : Int32)).toNatClampNeg) := inb_of S1696 ⟨by decide, by decide⟩
      obtain ⟨T1698, h1698, X1698, e1698, W1698, st1698⟩ := stI X1677 hx hZ e1677 Ar1696 (j := (0 : Int32)) hin1698 (g := (mkF m 181 #[iv p0, iv p1, iv p2, iv p3, .val (.long q4), .second, iv p5, iv 1, iv 3, iv pos, iv s0, iv s1, iv p5, rv g, rv old, .unset, .unset, .unset, .unset, .unset] [(.int s0), (.int 0), (.ref olds), (.ref olds)])) rfl rfl (hb hby at_181)
      have f1699 := f1684.wr W1698
      have f1700 := f1685.other W1698 (Or.inl ne1678)
      have f1701 := f1686.other W1698 (Or.inl ne1678)
      have f1702 := f1687.other W1698 (Or.inl ne1678)
      have f1703 := f1688.other W1698 (Or.inl ne1678)
      have f1704 := f1689.other W1698 (Or.inl ne1678)
      have f1705 := f1690.other W1698 ne1679
      have f1706 := f1691.other W1698 ne1680
      have f1707 := f1692.other W1698 ne1681
      have f1708 := f1693.other W1698 ne1682
      have f1709 := f1694.other W1698 ne1683
      have Z1710 := Nat.le_trans Z1695 (Keep.of_wr W1698).1
      have V1698 : Arv Z h1698 olds k1677 .int (3 : Int32) [(.int s0), (.int 0), (.int 0)] (.int 0) := Arv.set Ar1696 q1696 S1696 M1696 Hs1696 G1696 rfl W1698 0 rfl (Nat.le_of_ble_eq_true rfl)
      have N1698 := Fr.snoc X1698 N1665 ge_olds
      obtain ⟨cl1711, Ar1711, q1711, S1711, M1711, Hs1711, G1711⟩ := V1698
      have f1712 : Arv Z h1698 olds k1677 .int (3 : Int32) [(.int s0), (.int 0), (.int 0)] (.int 0) := ⟨cl1711, Ar1711, q1711, S1711, M1711, Hs1711, G1711⟩
      have hin1713 : ¬ ((1 : Int32) < 0 ∨ cl1711.slots.size ≤ ((1 : Int32)).toNatClampNeg) := inb_of S1711 ⟨by decide, by decide⟩
      obtain ⟨T1713, h1713, X1713, e1713, W1713, st1713⟩ := stI X1698 hx hZ e1698 Ar1711 (j := (1 : Int32)) hin1713 (g := (mkF m 186 #[iv p0, iv p1, iv p2, iv p3, .val (.long q4), .second, iv p5, iv 1, iv 3, iv pos, iv s0, iv s1, iv p5, rv g, rv old, .unset, .unset, .unset, .unset, .unset] [(.int s1), (.int 1), (.ref olds), (.ref olds)])) rfl rfl (hb hby at_186)
      have f1714 := f1699.wr W1713
      have f1715 := f1700.other W1713 (Or.inl ne1678)
      have f1716 := f1701.other W1713 (Or.inl ne1678)
      have f1717 := f1702.other W1713 (Or.inl ne1678)
      have f1718 := f1703.other W1713 (Or.inl ne1678)
      have f1719 := f1704.other W1713 (Or.inl ne1678)
      have f1720 := f1705.other W1713 ne1679
      have f1721 := f1706.other W1713 ne1680
      have f1722 := f1707.other W1713 ne1681
      have f1723 := f1708.other W1713 ne1682
      have f1724 := f1709.other W1713 ne1683
      have Z1725 := Nat.le_trans Z1710 (Keep.of_wr W1713).1
      have V1713 : Arv Z h1713 olds k1677 .int (3 : Int32) [(.int s0), (.int s1), (.int 0)] (.int 0) := Arv.set Ar1711 q1711 S1711 M1711 Hs1711 G1711 rfl W1713 1 rfl (Nat.le_of_ble_eq_true rfl)
      have N1713 := Fr.snoc X1713 N1698 ge_olds
      obtain ⟨cl1726, Ar1726, q1726, S1726, M1726, Hs1726, G1726⟩ := V1713
      have f1727 : Arv Z h1713 olds k1677 .int (3 : Int32) [(.int s0), (.int s1), (.int 0)] (.int 0) := ⟨cl1726, Ar1726, q1726, S1726, M1726, Hs1726, G1726⟩
      have hin1728 : ¬ ((2 : Int32) < 0 ∨ cl1726.slots.size ≤ ((2 : Int32)).toNatClampNeg) := inb_of S1726 ⟨by decide, by decide⟩
      obtain ⟨T1728, h1728, X1728, e1728, W1728, st1728⟩ := stI X1713 hx hZ e1713 Ar1726 (j := (2 : Int32)) hin1728 (g := (mkF m 191 #[iv p0, iv p1, iv p2, iv p3, .val (.long q4), .second, iv p5, iv 1, iv 3, iv pos, iv s0, iv s1, iv p5, rv g, rv old, .unset, .unset, .unset, .unset, .unset] [(.int p5), (.int 2), (.ref olds), (.ref olds)])) rfl rfl (hb hby at_191)
      have f1729 := f1714.wr W1728
      have f1730 := f1715.other W1728 (Or.inl ne1678)
      have f1731 := f1716.other W1728 (Or.inl ne1678)
      have f1732 := f1717.other W1728 (Or.inl ne1678)
      have f1733 := f1718.other W1728 (Or.inl ne1678)
      have f1734 := f1719.other W1728 (Or.inl ne1678)
      have f1735 := f1720.other W1728 ne1679
      have f1736 := f1721.other W1728 ne1680
      have f1737 := f1722.other W1728 ne1681
      have f1738 := f1723.other W1728 ne1682
      have f1739 := f1724.other W1728 ne1683
      have Z1740 := Nat.le_trans Z1725 (Keep.of_wr W1728).1
      have V1728 : Arv Z h1728 olds k1677 .int (3 : Int32) [(.int s0), (.int s1), (.int p5)] (.int 0) := Arv.set Ar1726 q1726 S1726 M1726 Hs1726 G1726 rfl W1728 2 rfl (Nat.le_of_ble_eq_true rfl)
      have N1728 := Fr.snoc X1728 N1713 ge_olds
      obtain ⟨T1741, h1741, k1741, X1741, e1741, E1741, A1741, st1741⟩ := newP X1728 hx hZ (hw _ (List.mem_of_getElem? (i := 9) rfl)) e1728 (g := (mkF m 195 #[iv p0, iv p1, iv p2, iv p3, .val (.long q4), .second, iv p5, iv 1, iv 3, iv pos, iv s0, iv s1, iv p5, rv g, rv old, rv olds, .unset, .unset, .unset, .unset] [(.int 3)])) rfl (hb hby at_195) rfl (by decide) (cap := 3) (by decide) (by decide) (by decide) (by decide)
      obtain ⟨e_, g1741⟩ : ∃ z, z = h1728.size := ⟨_, rfl⟩
      have ne1742 : g ≠ e_ := Nat.ne_of_lt (Nat.lt_of_lt_of_le f1729.lt (Nat.le_of_eq g1741.symm))
      have ne1743 : st ≠ e_ := Nat.ne_of_lt (Nat.lt_of_lt_of_le f1735.lt (Nat.le_of_eq g1741.symm))
      have ne1744 : dg ≠ e_ := Nat.ne_of_lt (Nat.lt_of_lt_of_le f1736.lt (Nat.le_of_eq g1741.symm))
      have ne1745 : it2 ≠ e_ := Nat.ne_of_lt (Nat.lt_of_lt_of_le f1737.lt (Nat.le_of_eq g1741.symm))
      have ne1746 : sl2 ≠ e_ := Nat.ne_of_lt (Nat.lt_of_lt_of_le f1738.lt (Nat.le_of_eq g1741.symm))
      have ne1747 : old ≠ e_ := Nat.ne_of_lt (Nat.lt_of_lt_of_le f1739.lt (Nat.le_of_eq g1741.symm))
      have ne1748 : olds ≠ e_ := Nat.ne_of_lt (Nat.lt_of_lt_of_le V1728.lt (Nat.le_of_eq g1741.symm))
      have ge_e_ : n0 ≤ e_ := Nat.le_trans Z1740 (Nat.le_of_eq g1741.symm)
      rw [← g1741] at A1741 st1741
      have f1749 := f1729.ext E1741
      have f1750 := f1730.ext E1741
      have f1751 := f1731.ext E1741
      have f1752 := f1732.ext E1741
      have f1753 := f1733.ext E1741
      have f1754 := f1734.ext E1741
      have f1755 := f1735.ext E1741
      have f1756 := f1736.ext E1741
      have f1757 := f1737.ext E1741
      have f1758 := f1738.ext E1741
      have f1759 := f1739.ext E1741
      have f1760 := V1728.ext E1741
      have Z1761 := Nat.le_trans Z1740 E1741.1
      have V_e__1741 : Arv Z h1741 e_ k1741 .int (3 : Int32) [(.int 0), (.int 0), (.int 0)] (.int 0) := (Arv.new A1741 (by decide)).pad (pad_rep [] (.int 0) 3)
      obtain ⟨cl1762, Ar1762, q1762, S1762, M1762, Hs1762, G1762⟩ := V_e__1741
      have f1763 : Arv Z h1741 e_ k1741 .int (3 : Int32) [(.int 0), (.int 0), (.int 0)] (.int 0) := ⟨cl1762, Ar1762, q1762, S1762, M1762, Hs1762, G1762⟩
      have hin1764 : ¬ ((0 : Int32) < 0 ∨ cl1762.slots.size ≤ ((0 : Int32)).toNatClampNeg) := inb_of S1762 ⟨by decide, by decide⟩
      obtain ⟨T1764, h1764, X1764, e1764, W1764, st1764⟩ := stI X1741 hx hZ e1741 Ar1762 (j := (0 : Int32)) hin1764 (g := (mkF m 200 #[iv p0, iv p1, iv p2, iv p3, .val (.long q4), .second, iv p5, iv 1, iv 3, iv pos, iv s0, iv s1, iv p5, rv g, rv old, rv olds, .unset, .unset, .unset, .unset] [(.int p1), (.int 0), (.ref e_), (.ref e_)])) rfl rfl (hb hby at_200)
      have f1765 := f1749.wr W1764
      have f1766 := f1750.other W1764 (Or.inl ne1742)
      have f1767 := f1751.other W1764 (Or.inl ne1742)
      have f1768 := f1752.other W1764 (Or.inl ne1742)
      have f1769 := f1753.other W1764 (Or.inl ne1742)
      have f1770 := f1754.other W1764 (Or.inl ne1742)
      have f1771 := f1755.other W1764 ne1743
      have f1772 := f1756.other W1764 ne1744
      have f1773 := f1757.other W1764 ne1745
      have f1774 := f1758.other W1764 ne1746
      have f1775 := f1759.other W1764 ne1747
      have f1776 := f1760.other W1764 ne1748
      have Z1777 := Nat.le_trans Z1761 (Keep.of_wr W1764).1
      have V1764 : Arv Z h1764 e_ k1741 .int (3 : Int32) [(.int p1), (.int 0), (.int 0)] (.int 0) := Arv.set Ar1762 q1762 S1762 M1762 Hs1762 G1762 rfl W1764 0 rfl (Nat.le_of_ble_eq_true rfl)
      have N1764 := Fr.snoc X1764 N1728 ge_e_
      obtain ⟨cl1778, Ar1778, q1778, S1778, M1778, Hs1778, G1778⟩ := V1764
      have f1779 : Arv Z h1764 e_ k1741 .int (3 : Int32) [(.int p1), (.int 0), (.int 0)] (.int 0) := ⟨cl1778, Ar1778, q1778, S1778, M1778, Hs1778, G1778⟩
      have hin1780 : ¬ ((1 : Int32) < 0 ∨ cl1778.slots.size ≤ ((1 : Int32)).toNatClampNeg) := inb_of S1778 ⟨by decide, by decide⟩
      obtain ⟨T1780, h1780, X1780, e1780, W1780, st1780⟩ := stI X1764 hx hZ e1764 Ar1778 (j := (1 : Int32)) hin1780 (g := (mkF m 204 #[iv p0, iv p1, iv p2, iv p3, .val (.long q4), .second, iv p5, iv 1, iv 3, iv pos, iv s0, iv s1, iv p5, rv g, rv old, rv olds, .unset, .unset, .unset, .unset] [(.int p2), (.int 1), (.ref e_), (.ref e_)])) rfl rfl (hb hby at_204)
      have f1781 := f1765.wr W1780
      have f1782 := f1766.other W1780 (Or.inl ne1742)
      have f1783 := f1767.other W1780 (Or.inl ne1742)
      have f1784 := f1768.other W1780 (Or.inl ne1742)
      have f1785 := f1769.other W1780 (Or.inl ne1742)
      have f1786 := f1770.other W1780 (Or.inl ne1742)
      have f1787 := f1771.other W1780 ne1743
      have f1788 := f1772.other W1780 ne1744
      have f1789 := f1773.other W1780 ne1745
      have f1790 := f1774.other W1780 ne1746
      have f1791 := f1775.other W1780 ne1747
      have f1792 := f1776.other W1780 ne1748
      have Z1793 := Nat.le_trans Z1777 (Keep.of_wr W1780).1
      have V1780 : Arv Z h1780 e_ k1741 .int (3 : Int32) [(.int p1), (.int p2), (.int 0)] (.int 0) := Arv.set Ar1778 q1778 S1778 M1778 Hs1778 G1778 rfl W1780 1 rfl (Nat.le_of_ble_eq_true rfl)
      have N1780 := Fr.snoc X1780 N1764 ge_e_
      obtain ⟨cl1794, Ar1794, q1794, S1794, M1794, Hs1794, G1794⟩ := V1780
      have f1795 : Arv Z h1780 e_ k1741 .int (3 : Int32) [(.int p1), (.int p2), (.int 0)] (.int 0) := ⟨cl1794, Ar1794, q1794, S1794, M1794, Hs1794, G1794⟩
      have hin1796 : ¬ ((2 : Int32) < 0 ∨ cl1794.slots.size ≤ ((2 : Int32)).toNatClampNeg) := inb_of S1794 ⟨by decide, by decide⟩
      obtain ⟨T1796, h1796, X1796, e1796, W1796, st1796⟩ := stI X1780 hx hZ e1780 Ar1794 (j := (2 : Int32)) hin1796 (g := (mkF m 208 #[iv p0, iv p1, iv p2, iv p3, .val (.long q4), .second, iv p5, iv 1, iv 3, iv pos, iv s0, iv s1, iv p5, rv g, rv old, rv olds, .unset, .unset, .unset, .unset] [(.int p3), (.int 2), (.ref e_), (.ref e_)])) rfl rfl (hb hby at_208)
      have f1797 := f1781.wr W1796
      have f1798 := f1782.other W1796 (Or.inl ne1742)
      have f1799 := f1783.other W1796 (Or.inl ne1742)
      have f1800 := f1784.other W1796 (Or.inl ne1742)
      have f1801 := f1785.other W1796 (Or.inl ne1742)
      have f1802 := f1786.other W1796 (Or.inl ne1742)
      have f1803 := f1787.other W1796 ne1743
      have f1804 := f1788.other W1796 ne1744
      have f1805 := f1789.other W1796 ne1745
      have f1806 := f1790.other W1796 ne1746
      have f1807 := f1791.other W1796 ne1747
      have f1808 := f1792.other W1796 ne1748
      have Z1809 := Nat.le_trans Z1793 (Keep.of_wr W1796).1
      have V1796 : Arv Z h1796 e_ k1741 .int (3 : Int32) [(.int p1), (.int p2), (.int p3)] (.int 0) := Arv.set Ar1794 q1794 S1794 M1794 Hs1794 G1794 rfl W1796 2 rfl (Nat.le_of_ble_eq_true rfl)
      have N1796 := Fr.snoc X1796 N1780 ge_e_
      obtain ⟨T1810, h1810, k1810, X1810, e1810, E1810, A1810, st1810⟩ := newP X1796 hx hZ (hw _ (List.mem_of_getElem? (i := 9) rfl)) e1796 (g := (mkF m 212 #[iv p0, iv p1, iv p2, iv p3, .val (.long q4), .second, iv p5, iv 1, iv 3, iv pos, iv s0, iv s1, iv p5, rv g, rv old, rv olds, rv e_, .unset, .unset, .unset] [(.int 3)])) rfl (hb hby at_212) rfl (by decide) (cap := 3) (by decide) (by decide) (by decide) (by decide)
      obtain ⟨es, g1810⟩ : ∃ z, z = h1796.size := ⟨_, rfl⟩
      have ne1811 : g ≠ es := Nat.ne_of_lt (Nat.lt_of_lt_of_le f1797.lt (Nat.le_of_eq g1810.symm))
      have ne1812 : st ≠ es := Nat.ne_of_lt (Nat.lt_of_lt_of_le f1803.lt (Nat.le_of_eq g1810.symm))
      have ne1813 : dg ≠ es := Nat.ne_of_lt (Nat.lt_of_lt_of_le f1804.lt (Nat.le_of_eq g1810.symm))
      have ne1814 : it2 ≠ es := Nat.ne_of_lt (Nat.lt_of_lt_of_le f1805.lt (Nat.le_of_eq g1810.symm))
      have ne1815 : sl2 ≠ es := Nat.ne_of_lt (Nat.lt_of_lt_of_le f1806.lt (Nat.le_of_eq g1810.symm))
      have ne1816 : old ≠ es := Nat.ne_of_lt (Nat.lt_of_lt_of_le f1807.lt (Nat.le_of_eq g1810.symm))
      have ne1817 : olds ≠ es := Nat.ne_of_lt (Nat.lt_of_lt_of_le f1808.lt (Nat.le_of_eq g1810.symm))
      have ne1818 : e_ ≠ es := Nat.ne_of_lt (Nat.lt_of_lt_of_le V1796.lt (Nat.le_of_eq g1810.symm))
      have ge_es : n0 ≤ es := Nat.le_trans Z1809 (Nat.le_of_eq g1810.symm)
      rw [← g1810] at A1810 st1810
      have f1819 := f1797.ext E1810
      have f1820 := f1798.ext E1810
      have f1821 := f1799.ext E1810
      have f1822 := f1800.ext E1810
      have f1823 := f1801.ext E1810
      have f1824 := f1802.ext E1810
      have f1825 := f1803.ext E1810
      have f1826 := f1804.ext E1810
      have f1827 := f1805.ext E1810
      have f1828 := f1806.ext E1810
      have f1829 := f1807.ext E1810
      have f1830 := f1808.ext E1810
      have f1831 := V1796.ext E1810
      have Z1832 := Nat.le_trans Z1809 E1810.1
      have V_es_1810 : Arv Z h1810 es k1810 .int (3 : Int32) [(.int 0), (.int 0), (.int 0)] (.int 0) := (Arv.new A1810 (by decide)).pad (pad_rep [] (.int 0) 3)
      obtain ⟨cl1833, Ar1833, q1833, S1833, M1833, Hs1833, G1833⟩ := V_es_1810
      have f1834 : Arv Z h1810 es k1810 .int (3 : Int32) [(.int 0), (.int 0), (.int 0)] (.int 0) := ⟨cl1833, Ar1833, q1833, S1833, M1833, Hs1833, G1833⟩
      have hin1835 : ¬ ((0 : Int32) < 0 ∨ cl1833.slots.size ≤ ((0 : Int32)).toNatClampNeg) := inb_of S1833 ⟨by decide, by decide⟩
      obtain ⟨T1835, h1835, X1835, e1835, W1835, st1835⟩ := stI X1810 hx hZ e1810 Ar1833 (j := (0 : Int32)) hin1835 (g := (mkF m 218 #[iv p0, iv p1, iv p2, iv p3, .val (.long q4), .second, iv p5, iv 1, iv 3, iv pos, iv s0, iv s1, iv p5, rv g, rv old, rv olds, rv e_, .unset, .unset, .unset] [(.int s0), (.int 0), (.ref es), (.ref es)])) rfl rfl (hb hby at_218)
      have f1836 := f1819.wr W1835
      have f1837 := f1820.other W1835 (Or.inl ne1811)
      have f1838 := f1821.other W1835 (Or.inl ne1811)
      have f1839 := f1822.other W1835 (Or.inl ne1811)
      have f1840 := f1823.other W1835 (Or.inl ne1811)
      have f1841 := f1824.other W1835 (Or.inl ne1811)
      have f1842 := f1825.other W1835 ne1812
      have f1843 := f1826.other W1835 ne1813
      have f1844 := f1827.other W1835 ne1814
      have f1845 := f1828.other W1835 ne1815
      have f1846 := f1829.other W1835 ne1816
      have f1847 := f1830.other W1835 ne1817
      have f1848 := f1831.other W1835 ne1818
      have Z1849 := Nat.le_trans Z1832 (Keep.of_wr W1835).1
      have V1835 : Arv Z h1835 es k1810 .int (3 : Int32) [(.int s0), (.int 0), (.int 0)] (.int 0) := Arv.set Ar1833 q1833 S1833 M1833 Hs1833 G1833 rfl W1835 0 rfl (Nat.le_of_ble_eq_true rfl)
      have N1835 := Fr.snoc X1835 N1796 ge_es
      obtain ⟨cl1850, Ar1850, q1850, S1850, M1850, Hs1850, G1850⟩ := V1835
      have f1851 : Arv Z h1835 es k1810 .int (3 : Int32) [(.int s0), (.int 0), (.int 0)] (.int 0) := ⟨cl1850, Ar1850, q1850, S1850, M1850, Hs1850, G1850⟩
      have hin1852 : ¬ ((1 : Int32) < 0 ∨ cl1850.slots.size ≤ ((1 : Int32)).toNatClampNeg) := inb_of S1850 ⟨by decide, by decide⟩
      obtain ⟨T1852, h1852, X1852, e1852, W1852, st1852⟩ := stI X1835 hx hZ e1835 Ar1850 (j := (1 : Int32)) hin1852 (g := (mkF m 223 #[iv p0, iv p1, iv p2, iv p3, .val (.long q4), .second, iv p5, iv 1, iv 3, iv pos, iv s0, iv s1, iv p5, rv g, rv old, rv olds, rv e_, .unset, .unset, .unset] [(.int s1), (.int 1), (.ref es), (.ref es)])) rfl rfl (hb hby at_223)
      have f1853 := f1836.wr W1852
      have f1854 := f1837.other W1852 (Or.inl ne1811)
      have f1855 := f1838.other W1852 (Or.inl ne1811)
      have f1856 := f1839.other W1852 (Or.inl ne1811)
      have f1857 := f1840.other W1852 (Or.inl ne1811)
      have f1858 := f1841.other W1852 (Or.inl ne1811)
      have f1859 := f1842.other W1852 ne1812
      have f1860 := f1843.other W1852 ne1813
      have f1861 := f1844.other W1852 ne1814
      have f1862 := f1845.other W1852 ne1815
      have f1863 := f1846.other W1852 ne1816
      have f1864 := f1847.other W1852 ne1817
      have f1865 := f1848.other W1852 ne1818
      have Z1866 := Nat.le_trans Z1849 (Keep.of_wr W1852).1
      have V1852 : Arv Z h1852 es k1810 .int (3 : Int32) [(.int s0), (.int s1), (.int 0)] (.int 0) := Arv.set Ar1850 q1850 S1850 M1850 Hs1850 G1850 rfl W1852 1 rfl (Nat.le_of_ble_eq_true rfl)
      have N1852 := Fr.snoc X1852 N1835 ge_es
      obtain ⟨cl1867, Ar1867, q1867, S1867, M1867, Hs1867, G1867⟩ := V1852
      have f1868 : Arv Z h1852 es k1810 .int (3 : Int32) [(.int s0), (.int s1), (.int 0)] (.int 0) := ⟨cl1867, Ar1867, q1867, S1867, M1867, Hs1867, G1867⟩
      have hin1869 : ¬ ((2 : Int32) < 0 ∨ cl1867.slots.size ≤ ((2 : Int32)).toNatClampNeg) := inb_of S1867 ⟨by decide, by decide⟩
      obtain ⟨T1869, h1869, X1869, e1869, W1869, st1869⟩ := stI X1852 hx hZ e1852 Ar1867 (j := (2 : Int32)) hin1869 (g := (mkF m 228 #[iv p0, iv p1, iv p2, iv p3, .val (.long q4), .second, iv p5, iv 1, iv 3, iv pos, iv s0, iv s1, iv p5, rv g, rv old, rv olds, rv e_, .unset, .unset, .unset] [(.int p5), (.int 2), (.ref es), (.ref es)])) rfl rfl (hb hby at_228)
      have f1870 := f1853.wr W1869
      have f1871 := f1854.other W1869 (Or.inl ne1811)
      have f1872 := f1855.other W1869 (Or.inl ne1811)
      have f1873 := f1856.other W1869 (Or.inl ne1811)
      have f1874 := f1857.other W1869 (Or.inl ne1811)
      have f1875 := f1858.other W1869 (Or.inl ne1811)
      have f1876 := f1859.other W1869 ne1812
      have f1877 := f1860.other W1869 ne1813
      have f1878 := f1861.other W1869 ne1814
      have f1879 := f1862.other W1869 ne1815
      have f1880 := f1863.other W1869 ne1816
      have f1881 := f1864.other W1869 ne1817
      have f1882 := f1865.other W1869 ne1818
      have Z1883 := Nat.le_trans Z1866 (Keep.of_wr W1869).1
      have V1869 : Arv Z h1869 es k1810 .int (3 : Int32) [(.int s0), (.int s1), (.int p5)] (.int 0) := Arv.set Ar1867 q1867 S1867 M1867 Hs1867 G1867 rfl W1869 2 rfl (Nat.le_of_ble_eq_true rfl)
      have N1869 := Fr.snoc X1869 N1852 ge_es
      obtain ⟨cl1884, Ar1884, q1884, S1884, M1884, Hs1884, G1884⟩ := f1880
      have f1885 : Arv Z h1869 old k1618 .int (3 : Int32) [(.int p1), (.int p2), (.int p3)] (.int 0) := ⟨cl1884, Ar1884, q1884, S1884, M1884, Hs1884, G1884⟩
      have hin1886 : ¬ (((3 : Int32) - (1 : Int32)) < 0 ∨ cl1884.slots.size ≤ (((3 : Int32) - (1 : Int32))).toNatClampNeg) := inb_of S1884 ⟨by decide, by decide⟩
      have hat1886 : cl1884.slots[(((3 : Int32) - (1 : Int32))).toNatClampNeg]? = some (.int p3) := Hs1884.at hin1886 rfl
      obtain ⟨cl1887, Ar1887, q1887, S1887, M1887, Hs1887, G1887⟩ := f1882
      have f1888 : Arv Z h1869 e_ k1741 .int (3 : Int32) [(.int p1), (.int p2), (.int p3)] (.int 0) := ⟨cl1887, Ar1887, q1887, S1887, M1887, Hs1887, G1887⟩
      have hin1889 : ¬ (pos < 0 ∨ cl1887.slots.size ≤ (pos).toNatClampNeg) := inb_of S1887 hpi.1
      obtain ⟨T1889, h1889, X1889, e1889, W1889, st1889⟩ := stI X1869 hx hZ e1869 Ar1887 (j := pos) hin1889 (g := (mkF m 242 #[iv p0, iv p1, iv p2, iv p3, .val (.long q4), .second, iv p5, iv 1, iv 3, iv pos, iv s0, iv s1, iv p5, rv g, rv old, rv olds, rv e_, rv es, .unset, .unset] [(.int p3), (.int pos), (.ref e_)])) rfl rfl (hb hby at_242)
      have f1890 := f1870.wr W1889
      have f1891 := f1871.other W1889 (Or.inl ne1742)
      have f1892 := f1872.other W1889 (Or.inl ne1742)
      have f1893 := f1873.other W1889 (Or.inl ne1742)
      have f1894 := f1874.other W1889 (Or.inl ne1742)
      have f1895 := f1875.other W1889 (Or.inl ne1742)
      have f1896 := f1876.other W1889 ne1743
      have f1897 := f1877.other W1889 ne1744
      have f1898 := f1878.other W1889 ne1745
      have f1899 := f1879.other W1889 ne1746
      have f1900 := f1885.other W1889 ne1747
      have f1901 := f1881.other W1889 ne1748
      have f1902 := V1869.other W1889 (Ne.symm ne1818)
      have Z1903 := Nat.le_trans Z1883 (Keep.of_wr W1889).1
      have V1889 : Arv Z h1889 e_ k1741 .int (3 : Int32) ([(.int p1), (.int p2), (.int p3)].set (pos).toNatClampNeg (.int p3)) (.int 0) := Arv.set Ar1887 q1887 S1887 M1887 Hs1887 G1887 rfl W1889 (pos).toNatClampNeg rfl hpi.2.1
      have N1889 := Fr.snoc X1889 N1869 ge_e_
      have f1904 : Arv Z h1889 e_ k1741 .int (3 : Int32) [(.int e0), (.int e1), (.int e2)] (.int (0 : Int32)) := he ▸ V1889
      obtain ⟨cl1905, Ar1905, q1905, S1905, M1905, Hs1905, G1905⟩ := f1901
      have f1906 : Arv Z h1889 olds k1677 .int (3 : Int32) [(.int s0), (.int s1), (.int p5)] (.int 0) := ⟨cl1905, Ar1905, q1905, S1905, M1905, Hs1905, G1905⟩
      have hin1907 : ¬ (((3 : Int32) - (1 : Int32)) < 0 ∨ cl1905.slots.size ≤ (((3 : Int32) - (1 : Int32))).toNatClampNeg) := inb_of S1905 ⟨by decide, by decide⟩
      have hat1907 : cl1905.slots[(((3 : Int32) - (1 : Int32))).toNatClampNeg]? = some (.int p5) := Hs1905.at hin1907 rfl
      obtain ⟨cl1908, Ar1908, q1908, S1908, M1908, Hs1908, G1908⟩ := f1902
      have f1909 : Arv Z h1889 es k1810 .int (3 : Int32) [(.int s0), (.int s1), (.int p5)] (.int 0) := ⟨cl1908, Ar1908, q1908, S1908, M1908, Hs1908, G1908⟩
      have hin1910 : ¬ (pos < 0 ∨ cl1908.slots.size ≤ (pos).toNatClampNeg) := inb_of S1908 hpi.1
      obtain ⟨T1910, h1910, X1910, e1910, W1910, st1910⟩ := stI X1889 hx hZ e1889 Ar1908 (j := pos) hin1910 (g := (mkF m 254 #[iv p0, iv p1, iv p2, iv p3, .val (.long q4), .second, iv p5, iv 1, iv 3, iv pos, iv s0, iv s1, iv p5, rv g, rv old, rv olds, rv e_, rv es, .unset, .unset] [(.int p5), (.int pos), (.ref es)])) rfl rfl (hb hby at_254)
      have f1911 := f1890.wr W1910
      have f1912 := f1891.other W1910 (Or.inl ne1811)
      have f1913 := f1892.other W1910 (Or.inl ne1811)
      have f1914 := f1893.other W1910 (Or.inl ne1811)
      have f1915 := f1894.other W1910 (Or.inl ne1811)
      have f1916 := f1895.other W1910 (Or.inl ne1811)
      have f1917 := f1896.other W1910 ne1812
      have f1918 := f1897.other W1910 ne1813
      have f1919 := f1898.other W1910 ne1814
      have f1920 := f1899.other W1910 ne1815
      have f1921 := f1900.other W1910 ne1816
      have f1922 := f1906.other W1910 ne1817
      have f1923 := f1904.other W1910 ne1818
      have Z1924 := Nat.le_trans Z1903 (Keep.of_wr W1910).1
      have V1910 : Arv Z h1910 es k1810 .int (3 : Int32) ([(.int s0), (.int s1), (.int p5)].set (pos).toNatClampNeg (.int p5)) (.int 0) := Arv.set Ar1908 q1908 S1908 M1908 Hs1908 G1908 rfl W1910 (pos).toNatClampNeg rfl hpi.2.1
      have N1910 := Fr.snoc X1910 N1889 ge_es
      have f1925 : Arv Z h1910 es k1810 .int (3 : Int32) [(.int f0_), (.int f1_), (.int f2_)] (.int (0 : Int32)) := hf ▸ V1910
      obtain ⟨cq1926, kq1926, q1926a, q1926b, q1926c⟩ := isOf hZ e1910 f1911
      obtain ⟨_, _, ⟨T1926, L1926, k1926, n1926⟩, -, X1926, ⟨Lc1926, hQ1926, l1926, y1926, z1926⟩, st1926⟩ := X1910.virtualBack hx (y := (⟨"com/example/plebiscite/plebiscite/Adjacency", "degree", "(I)I"⟩ : MethodName)) (z := (⟨"com/example/plebiscite/plebiscite/Adjacency", "degree", "(I)I"⟩ : MethodName)) hown (mvT hZ (hw _ (List.mem_of_getElem? (i := 54) rfl))) (mvT hZ (hw _ (List.mem_of_getElem? (i := 55) rfl))) (notFace_of_selects (args := #[]) (mvT hZ (hw _ (List.mem_of_getElem? (i := 57) rfl)))) (mvT hZ (hw _ (List.mem_of_getElem? (i := 57) rfl))) (mvT hZ (hw _ (List.mem_of_getElem? (i := 56) rfl))) (by decide) (backOf (W := 0) (rm_dgr l Z a0 hw [] g dg k2 (2 : Int32) h1910 n0 Z1924 f1913 f1918) hZ (hw _ (List.mem_of_getElem? (i := 58) rfl)) (hw _ (List.mem_of_getElem? (i := 2) rfl)) (by decide) (by decide)) q1926a q1926c (g := (mkF m 258 #[iv p0, iv p1, iv p2, iv p3, .val (.long q4), .second, iv p5, iv 1, iv 3, iv pos, iv s0, iv s1, iv p5, rv g, rv old, rv olds, rv e_, rv es, .unset, .unset] [(.int 0), (.ref g)])) rfl (by rw [hml]; rfl) (Steps.refl _) (argsL := [(.int 0)]) (rest := []) (lenOf pd_4 rfl) rfl (by show 2 * 0 + _ ≤ _; exact Nat.le_of_eq rfl) (hb hby at_258) (fun _ _ => ⟨rfl, e1910, (by decide : 12 + 0 ≤ _), (by decide : 57 + 0 ≤ _)⟩)
      dsimp only [Pt.U, Pt.locs, Pt.cells, Pt.slots] at X1926 l1926 y1926 z1926 st1926 hQ1926
      rw [l1926, y1926, z1926] at X1926
      obtain ⟨hv1926, N1926q, er1⟩ := hQ1926
      rw [hv1926] at st1926
      have N1926 := Fr.app N1910 N1926q
      obtain ⟨cq1927, kq1927, q1927a, q1927b, q1927c⟩ := isOf hZ er1 f1911
      obtain ⟨_, _, ⟨T1927, L1927, k1927, n1927⟩, -, X1927, ⟨Lc1927, hQ1927, l1927, y1927, z1927⟩, st1927⟩ := X1926.virtualBack hx (y := (⟨"com/example/plebiscite/plebiscite/Adjacency", "size", "()I"⟩ : MethodName)) (z := (⟨"com/example/plebiscite/plebiscite/Adjacency", "size", "()I"⟩ : MethodName)) hown (mvT hZ (hw _ (List.mem_of_getElem? (i := 59) rfl))) (mvT hZ (hw _ (List.mem_of_getElem? (i := 60) rfl))) (notFace_of_selects (args := #[]) (mvT hZ (hw _ (List.mem_of_getElem? (i := 62) rfl)))) (mvT hZ (hw _ (List.mem_of_getElem? (i := 62) rfl))) (mvT hZ (hw _ (List.mem_of_getElem? (i := 61) rfl))) (by decide) (backOf (W := 0) (rm_siz l Z a0 hw [] g (2 : Int32) h1910 n0 Z1924 f1916) hZ (hw _ (List.mem_of_getElem? (i := 63) rfl)) (hw _ (List.mem_of_getElem? (i := 2) rfl)) (by decide) (by decide)) q1927a q1927c (g := (mkF m 270 #[iv p0, iv p1, iv p2, iv p3, .val (.long q4), .second, iv p5, iv 1, iv 3, iv pos, iv s0, iv s1, iv p5, rv g, rv old, rv olds, rv e_, rv es, .unset, .unset] [(.ref g)])) rfl (by rw [hml]; rfl) (Steps.refl _) (argsL := []) (rest := []) (lenOf pd_7 rfl) rfl (by show 2 * 0 + _ ≤ _; exact Nat.le_of_eq rfl) (hb hby at_270) (fun _ _ => ⟨rfl, er1, (by decide : 12 + 0 ≤ _), (by decide : 57 + 0 ≤ _)⟩)
      dsimp only [Pt.U, Pt.locs, Pt.cells, Pt.slots] at X1927 l1927 y1927 z1927 st1927 hQ1927
      rw [l1927, y1927, z1927] at X1927
      obtain ⟨hv1927, N1927q, er2⟩ := hQ1927
      rw [hv1927] at st1927
      have N1927 := Fr.app N1926 N1927q
      obtain ⟨cq1928, kq1928, q1928a, q1928b, q1928c⟩ := isOf hZ er2 f1911
      obtain ⟨_, _, ⟨T1928, L1928, k1928, n1928⟩, -, X1928, ⟨Lc1928, hQ1928, l1928, y1928, z1928⟩, st1928⟩ := X1927.virtualBack hx (y := (⟨"com/example/plebiscite/plebiscite/Adjacency", "begin", "(I)I"⟩ : MethodName)) (z := (⟨"com/example/plebiscite/plebiscite/Adjacency", "begin", "(I)I"⟩ : MethodName)) hown (mvT hZ (hw _ (List.mem_of_getElem? (i := 64) rfl))) (mvT hZ (hw _ (List.mem_of_getElem? (i := 65) rfl))) (notFace_of_selects (args := #[]) (mvT hZ (hw _ (List.mem_of_getElem? (i := 67) rfl)))) (mvT hZ (hw _ (List.mem_of_getElem? (i := 67) rfl))) (mvT hZ (hw _ (List.mem_of_getElem? (i := 66) rfl))) (by decide) (backOf (W := 0) (rm_bgn l Z a0 hw [] g st k1 (0 : Int32) h1910 n0 Z1924 f1912 f1917) hZ (hw _ (List.mem_of_getElem? (i := 68) rfl)) (hw _ (List.mem_of_getElem? (i := 2) rfl)) (by decide) (by decide)) q1928a q1928c (g := (mkF m 290 #[iv p0, iv p1, iv p2, iv p3, .val (.long q4), .second, iv p5, iv 1, iv 3, iv pos, iv s0, iv s1, iv p5, rv g, rv old, rv olds, rv e_, rv es, iv 1, .unset] [(.int 0), (.ref g)])) rfl (by rw [hml]; rfl) (Steps.refl _) (argsL := [(.int 0)]) (rest := []) (lenOf pd_4 rfl) rfl (by show 2 * 0 + _ ≤ _; exact Nat.le_of_eq rfl) (hb hby at_290) (fun _ _ => ⟨rfl, er2, (by decide : 12 + 0 ≤ _), (by decide : 57 + 0 ≤ _)⟩)
      dsimp only [Pt.U, Pt.locs, Pt.cells, Pt.slots] at X1928 l1928 y1928 z1928 st1928 hQ1928
      rw [l1928, y1928, z1928] at X1928
      obtain ⟨hv1928, N1928q, er3⟩ := hQ1928
      rw [hv1928] at st1928
      have N1928 := Fr.app N1927 N1928q
      obtain ⟨cq1929, kq1929, q1929a, q1929b, q1929c⟩ := isOf hZ er3 f1911
      obtain ⟨_, _, ⟨T1929, L1929, k1929, n1929⟩, -, X1929, ⟨Lc1929, hQ1929, l1929, y1929, z1929⟩, st1929⟩ := X1928.virtualBack hx (y := (⟨"com/example/plebiscite/plebiscite/Adjacency", "item", "(I)I"⟩ : MethodName)) (z := (⟨"com/example/plebiscite/plebiscite/Adjacency", "item", "(I)I"⟩ : MethodName)) hown (mvT hZ (hw _ (List.mem_of_getElem? (i := 102) rfl))) (mvT hZ (hw _ (List.mem_of_getElem? (i := 103) rfl))) (notFace_of_selects (args := #[]) (mvT hZ (hw _ (List.mem_of_getElem? (i := 105) rfl)))) (mvT hZ (hw _ (List.mem_of_getElem? (i := 105) rfl))) (mvT hZ (hw _ (List.mem_of_getElem? (i := 104) rfl))) (by decide) (backOf (W := 0) (rm_itm l Z a0 hw [] g (0 : Int32) it2 k42 (16 : Int32) [(.int e0), (.int e1), (.int e2), (.int 0), (.int 0), (.int 0), (.int 0), (.int 0), (.int 0), (.int 0), (.int 0), (.int 0), (.int 0), (.int 0), (.int 0), (.int 0)] e0 h1910 n0 Z1924 f1914 f1919 ⟨by decide, by decide⟩ rfl) hZ (hw _ (List.mem_of_getElem? (i := 106) rfl)) (hw _ (List.mem_of_getElem? (i := 2) rfl)) (by decide) (by decide)) q1929a q1929c (g := (mkF m 310 #[iv p0, iv p1, iv p2, iv p3, .val (.long q4), .second, iv p5, iv 1, iv 3, iv pos, iv s0, iv s1, iv p5, rv g, rv old, rv olds, rv e_, rv es, iv 1, iv 0] [(.int 0), (.ref g)])) rfl (by rw [hml]; rfl) (Steps.refl _) (argsL := [(.int 0)]) (rest := []) (lenOf pd_4 rfl) rfl (by show 2 * 0 + _ ≤ _; exact Nat.le_of_eq rfl) (hb hby at_310) (fun _ _ => ⟨rfl, er3, (by decide : 12 + 0 ≤ _), (by decide : 57 + 0 ≤ _)⟩)
      dsimp only [Pt.U, Pt.locs, Pt.cells, Pt.slots] at X1929 l1929 y1929 z1929 st1929 hQ1929
      rw [l1929, y1929, z1929] at X1929
      obtain ⟨hv1929, N1929q, ei0⟩ := hQ1929
      rw [hv1929] at st1929
      have N1929 := Fr.app N1928 N1929q
      obtain ⟨cl1930, Ar1930, q1930, S1930, M1930, Hs1930, G1930⟩ := f1923
      have f1931 : Arv Z h1910 e_ k1741 .int (3 : Int32) [(.int e0), (.int e1), (.int e2)] (.int 0) := ⟨cl1930, Ar1930, q1930, S1930, M1930, Hs1930, G1930⟩
      have hin1932 : ¬ ((0 : Int32) < 0 ∨ cl1930.slots.size ≤ ((0 : Int32)).toNatClampNeg) := inb_of S1930 ⟨by decide, by decide⟩
      have hat1932 : cl1930.slots[((0 : Int32)).toNatClampNeg]? = some (.int e0) := Hs1930.at hin1932 rfl
      obtain ⟨cq1933, kq1933, q1933a, q1933b, q1933c⟩ := isOf hZ ei0 f1911
      obtain ⟨_, _, ⟨T1933, L1933, k1933, n1933⟩, -, X1933, ⟨Lc1933, hQ1933, l1933, y1933, z1933⟩, st1933⟩ := X1929.virtualBack hx (y := (⟨"com/example/plebiscite/plebiscite/Adjacency", "slot", "(I)I"⟩ : MethodName)) (z := (⟨"com/example/plebiscite/plebiscite/Adjacency", "slot", "(I)I"⟩ : MethodName)) hown (mvT hZ (hw _ (List.mem_of_getElem? (i := 107) rfl))) (mvT hZ (hw _ (List.mem_of_getElem? (i := 108) rfl))) (notFace_of_selects (args := #[]) (mvT hZ (hw _ (List.mem_of_getElem? (i := 110) rfl)))) (mvT hZ (hw _ (List.mem_of_getElem? (i := 110) rfl))) (mvT hZ (hw _ (List.mem_of_getElem? (i := 109) rfl))) (by decide) (backOf (W := 0) (rm_slt l Z a0 hw [] g (0 : Int32) sl2 k52 (16 : Int32) [(.int f0_), (.int f1_), (.int f2_), (.int 0), (.int 0), (.int 0), (.int 0), (.int 0), (.int 0), (.int 0), (.int 0), (.int 0), (.int 0), (.int 0), (.int 0), (.int 0)] f0_ h1910 n0 Z1924 f1915 f1920 ⟨by decide, by decide⟩ rfl) hZ (hw _ (List.mem_of_getElem? (i := 111) rfl)) (hw _ (List.mem_of_getElem? (i := 2) rfl)) (by decide) (by decide)) q1933a q1933c (g := (mkF m 329 #[iv p0, iv p1, iv p2, iv p3, .val (.long q4), .second, iv p5, iv 1, iv 3, iv pos, iv s0, iv s1, iv p5, rv g, rv old, rv olds, rv e_, rv es, iv 1, iv 0] [(.int 0), (.ref g)])) rfl (by rw [hml]; rfl) (Steps.refl _) (argsL := [(.int 0)]) (rest := []) (lenOf pd_4 rfl) rfl (by show 2 * 0 + _ ≤ _; exact Nat.le_of_eq rfl) (hb hby at_329) (fun _ _ => ⟨rfl, ei0, (by decide : 12 + 0 ≤ _), (by decide : 57 + 0 ≤ _)⟩)
      dsimp only [Pt.U, Pt.locs, Pt.cells, Pt.slots] at X1933 l1933 y1933 z1933 st1933 hQ1933
      rw [l1933, y1933, z1933] at X1933
      obtain ⟨hv1933, N1933q, ej0⟩ := hQ1933
      rw [hv1933] at st1933
      have N1933 := Fr.app N1929 N1933q
      obtain ⟨cl1934, Ar1934, q1934, S1934, M1934, Hs1934, G1934⟩ := f1925
      have f1935 : Arv Z h1910 es k1810 .int (3 : Int32) [(.int f0_), (.int f1_), (.int f2_)] (.int 0) := ⟨cl1934, Ar1934, q1934, S1934, M1934, Hs1934, G1934⟩
      have hin1936 : ¬ ((0 : Int32) < 0 ∨ cl1934.slots.size ≤ ((0 : Int32)).toNatClampNeg) := inb_of S1934 ⟨by decide, by decide⟩
      have hat1936 : cl1934.slots[((0 : Int32)).toNatClampNeg]? = some (.int f0_) := Hs1934.at hin1936 rfl
      obtain ⟨cq1937, kq1937, q1937a, q1937b, q1937c⟩ := isOf hZ ej0 f1911
      obtain ⟨_, _, ⟨T1937, L1937, k1937, n1937⟩, -, X1937, ⟨Lc1937, hQ1937, l1937, y1937, z1937⟩, st1937⟩ := X1933.virtualBack hx (y := (⟨"com/example/plebiscite/plebiscite/Adjacency", "item", "(I)I"⟩ : MethodName)) (z := (⟨"com/example/plebiscite/plebiscite/Adjacency", "item", "(I)I"⟩ : MethodName)) hown (mvT hZ (hw _ (List.mem_of_getElem? (i := 102) rfl))) (mvT hZ (hw _ (List.mem_of_getElem? (i := 103) rfl))) (notFace_of_selects (args := #[]) (mvT hZ (hw _ (List.mem_of_getElem? (i := 105) rfl)))) (mvT hZ (hw _ (List.mem_of_getElem? (i := 105) rfl))) (mvT hZ (hw _ (List.mem_of_getElem? (i := 104) rfl))) (by decide) (backOf (W := 0) (rm_itm l Z a0 hw [] g ((0 : Int32) + (1 : Int32)) it2 k42 (16 : Int32) [(.int e0), (.int e1), (.int e2), (.int 0), (.int 0), (.int 0), (.int 0), (.int 0), (.int 0), (.int 0), (.int 0), (.int 0), (.int 0), (.int 0), (.int 0), (.int 0)] e1 h1910 n0 Z1924 f1914 f1919 ⟨by decide, by decide⟩ rfl) hZ (hw _ (List.mem_of_getElem? (i := 106) rfl)) (hw _ (List.mem_of_getElem? (i := 2) rfl)) (by decide) (by decide)) q1937a q1937c (g := (mkF m 363 #[iv p0, iv p1, iv p2, iv p3, .val (.long q4), .second, iv p5, iv 1, iv 3, iv pos, iv s0, iv s1, iv p5, rv g, rv old, rv olds, rv e_, rv es, iv 1, iv 0] [(.int ((0 : Int32) + (1 : Int32))), (.ref g)])) rfl (by rw [hml]; rfl) (Steps.refl _) (argsL := [(.int ((0 : Int32) + (1 : Int32)))]) (rest := []) (lenOf pd_4 rfl) rfl (by show 2 * 0 + _ ≤ _; exact Nat.le_of_eq rfl) (hb hby at_363) (fun _ _ => ⟨rfl, ej0, (by decide : 12 + 0 ≤ _), (by decide : 57 + 0 ≤ _)⟩)
      dsimp only [Pt.U, Pt.locs, Pt.cells, Pt.slots] at X1937 l1937 y1937 z1937 st1937 hQ1937
      rw [l1937, y1937, z1937] at X1937
      obtain ⟨hv1937, N1937q, ei1⟩ := hQ1937
      rw [hv1937] at st1937
      have N1937 := Fr.app N1933 N1937q
      obtain ⟨cl1938, Ar1938, q1938, S1938, M1938, Hs1938, G1938⟩ := f1931
      have f1939 : Arv Z h1910 e_ k1741 .int (3 : Int32) [(.int e0), (.int e1), (.int e2)] (.int 0) := ⟨cl1938, Ar1938, q1938, S1938, M1938, Hs1938, G1938⟩
      have hin1940 : ¬ ((1 : Int32) < 0 ∨ cl1938.slots.size ≤ ((1 : Int32)).toNatClampNeg) := inb_of S1938 ⟨by decide, by decide⟩
      have hat1940 : cl1938.slots[((1 : Int32)).toNatClampNeg]? = some (.int e1) := Hs1938.at hin1940 rfl
      obtain ⟨cq1941, kq1941, q1941a, q1941b, q1941c⟩ := isOf hZ ei1 f1911
      obtain ⟨_, _, ⟨T1941, L1941, k1941, n1941⟩, -, X1941, ⟨Lc1941, hQ1941, l1941, y1941, z1941⟩, st1941⟩ := X1937.virtualBack hx (y := (⟨"com/example/plebiscite/plebiscite/Adjacency", "slot", "(I)I"⟩ : MethodName)) (z := (⟨"com/example/plebiscite/plebiscite/Adjacency", "slot", "(I)I"⟩ : MethodName)) hown (mvT hZ (hw _ (List.mem_of_getElem? (i := 107) rfl))) (mvT hZ (hw _ (List.mem_of_getElem? (i := 108) rfl))) (notFace_of_selects (args := #[]) (mvT hZ (hw _ (List.mem_of_getElem? (i := 110) rfl)))) (mvT hZ (hw _ (List.mem_of_getElem? (i := 110) rfl))) (mvT hZ (hw _ (List.mem_of_getElem? (i := 109) rfl))) (by decide) (backOf (W := 0) (rm_slt l Z a0 hw [] g ((0 : Int32) + (1 : Int32)) sl2 k52 (16 : Int32) [(.int f0_), (.int f1_), (.int f2_), (.int 0), (.int 0), (.int 0), (.int 0), (.int 0), (.int 0), (.int 0), (.int 0), (.int 0), (.int 0), (.int 0), (.int 0), (.int 0)] f1_ h1910 n0 Z1924 f1915 f1920 ⟨by decide, by decide⟩ rfl) hZ (hw _ (List.mem_of_getElem? (i := 111) rfl)) (hw _ (List.mem_of_getElem? (i := 2) rfl)) (by decide) (by decide)) q1941a q1941c (g := (mkF m 384 #[iv p0, iv p1, iv p2, iv p3, .val (.long q4), .second, iv p5, iv 1, iv 3, iv pos, iv s0, iv s1, iv p5, rv g, rv old, rv olds, rv e_, rv es, iv 1, iv 0] [(.int ((0 : Int32) + (1 : Int32))), (.ref g)])) rfl (by rw [hml]; rfl) (Steps.refl _) (argsL := [(.int ((0 : Int32) + (1 : Int32)))]) (rest := []) (lenOf pd_4 rfl) rfl (by show 2 * 0 + _ ≤ _; exact Nat.le_of_eq rfl) (hb hby at_384) (fun _ _ => ⟨rfl, ei1, (by decide : 12 + 0 ≤ _), (by decide : 57 + 0 ≤ _)⟩)
      dsimp only [Pt.U, Pt.locs, Pt.cells, Pt.slots] at X1941 l1941 y1941 z1941 st1941 hQ1941
      rw [l1941, y1941, z1941] at X1941
      obtain ⟨hv1941, N1941q, ej1⟩ := hQ1941
      rw [hv1941] at st1941
      have N1941 := Fr.app N1937 N1941q
      obtain ⟨cl1942, Ar1942, q1942, S1942, M1942, Hs1942, G1942⟩ := f1935
      have f1943 : Arv Z h1910 es k1810 .int (3 : Int32) [(.int f0_), (.int f1_), (.int f2_)] (.int 0) := ⟨cl1942, Ar1942, q1942, S1942, M1942, Hs1942, G1942⟩
      have hin1944 : ¬ ((1 : Int32) < 0 ∨ cl1942.slots.size ≤ ((1 : Int32)).toNatClampNeg) := inb_of S1942 ⟨by decide, by decide⟩
      have hat1944 : cl1942.slots[((1 : Int32)).toNatClampNeg]? = some (.int f1_) := Hs1942.at hin1944 rfl
      have go1945 : ∀ t, Steps p.tables e below (T1941.setTop (mkF m 403 #[iv p0, iv p1, iv p2, iv p3, .val (.long q4), .second, iv p5, iv 1, iv 3, iv pos, iv s0, iv s1, iv p5, rv g, rv old, rv olds, rv e_, rv es, iv 1, iv 0] [(.int 1)])) t → Steps p.tables e below O t := fun t k => go965 t (by
        refine XS.iload X963.here hx rfl (hb hby at_72) rfl ?_
        refine XS.iconst X963.here hx rfl (hb hby at_74) ?_
        show Steps _ _ _ (T963.setTop (mkF m 75 _ [(.int 2), (.int 3)])) _
        refine XS.icmpNo X963.here hx rfl (hb hby at_75) rfl (flt (by decide : ¬ ((3 : Int32) < (2 : Int32)))).1 ?_
        refine XS.aload X963.here hx rfl (hb hby at_78) rfl rfl ?_
        show Steps _ _ _ (T963.setTop (mkF m 80 _ [(.ref g)])) _
        refine XS.iconst X963.here hx rfl (hb hby at_80) ?_
        refine XS.iloadN X963.here hx rfl (hb hby at_81) rfl ?_
        show Steps _ _ _ (T963.setTop (mkF m 82 _ [(.int p2), (.int 0), (.ref g)])) _
        refine XS.iload X963.here hx rfl (hb hby at_82) rfl ?_
        refine st1610.trans ?_
        show Steps _ _ _ (T1610.setTop (mkF m 87 _ [])) _
        refine XS.iload X1610.here hx rfl (hb hby at_87) rfl ?_
        refine XS.iconst X1610.here hx rfl (hb hby at_89) ?_
        show Steps _ _ _ (T1610.setTop (mkF m 90 _ [(.int 3), (.int 3)])) _
        refine XS.icmpNo X1610.here hx rfl (hb hby at_90) rfl (flt (by decide : ¬ ((3 : Int32) < (3 : Int32)))).1 ?_
        refine XS.aload X1610.here hx rfl (hb hby at_93) rfl rfl ?_
        show Steps _ _ _ (T1610.setTop (mkF m 95 _ [(.ref g)])) _
        refine XS.iconst X1610.here hx rfl (hb hby at_95) ?_
        refine XS.iloadN X1610.here hx rfl (hb hby at_96) rfl ?_
        show Steps _ _ _ (T1610.setTop (mkF m 97 _ [(.int p3), (.int 0), (.ref g)])) _
        refine XS.iload X1610.here hx rfl (hb hby at_97) rfl ?_
        refine st1612.trans ?_
        show Steps _ _ _ (T1612.setTop (mkF m 102 _ [])) _
        refine XS.goto X1612.here hx rfl (pc0 := 102) (pc' := 149) rfl (hb hby at_102) (by decide) (by decide) ?_
        refine XS.aload X1612.here hx rfl (hb hby at_149) rfl rfl ?_
        show Steps _ _ _ (T1612.setTop (mkF m 151 _ [(.ref g)])) _
        refine XS.iconst X1612.here hx rfl (hb hby at_151) ?_
        refine XS.iload X1612.here hx rfl (hb hby at_152) rfl ?_
        show Steps _ _ _ (T1612.setTop (mkF m 154 _ [(.int pos), (.int 0), (.ref g)])) _
        refine st1614.trans ?_
        show Steps _ _ _ (T1614.setTop (mkF m 157 _ [])) _
        refine XS.iconst X1614.here hx rfl (hb hby at_157) ?_
        refine st1618 _ ?_
        show Steps _ _ _ (T1618.setTop (mkF m 160 _ [(.ref old)])) _
        refine XS.dup X1618.here hx rfl (hb hby at_160) rfl rfl ?_
        refine XS.iconst X1618.here hx rfl (hb hby at_161) ?_
        show Steps _ _ _ (T1618.setTop (mkF m 162 _ [(.int 0), (.ref old), (.ref old)])) _
        refine XS.iloadN X1618.here hx rfl (hb hby at_162) rfl ?_
        refine st1637 _ ?_
        show Steps _ _ _ (T1637.setTop (mkF m 164 _ [(.ref old)])) _
        refine XS.dup X1637.here hx rfl (hb hby at_164) rfl rfl ?_
        refine XS.iconst X1637.here hx rfl (hb hby at_165) ?_
        show Steps _ _ _ (T1637.setTop (mkF m 166 _ [(.int 1), (.ref old), (.ref old)])) _
        refine XS.iloadN X1637.here hx rfl (hb hby at_166) rfl ?_
        refine st1651 _ ?_
        show Steps _ _ _ (T1651.setTop (mkF m 168 _ [(.ref old)])) _
        refine XS.dup X1651.here hx rfl (hb hby at_168) rfl rfl ?_
        refine XS.iconst X1651.here hx rfl (hb hby at_169) ?_
        show Steps _ _ _ (T1651.setTop (mkF m 170 _ [(.int 2), (.ref old), (.ref old)])) _
        refine XS.iloadN X1651.here hx rfl (hb hby at_170) rfl ?_
        refine st1665 _ ?_
        show Steps _ _ _ (T1665.setTop (mkF m 172 _ [(.ref old)])) _
        refine XS.astore X1665.here hx rfl (hb hby at_172) rfl rfl (l' := #[iv p0, iv p1, iv p2, iv p3, .val (.long q4), .second, iv p5, iv 1, iv 3, iv pos, iv s0, iv s1, iv p5, rv g, rv old, .unset, .unset, .unset, .unset, .unset]) rfl ?_
        show Steps _ _ _ (T1665.setTop (mkF m 174 _ [])) _
        refine XS.iconst X1665.here hx rfl (hb hby at_174) ?_
        refine st1677 _ ?_
        show Steps _ _ _ (T1677.setTop (mkF m 177 _ [(.ref olds)])) _
        refine XS.dup X1677.here hx rfl (hb hby at_177) rfl rfl ?_
        refine XS.iconst X1677.here hx rfl (hb hby at_178) ?_
        show Steps _ _ _ (T1677.setTop (mkF m 179 _ [(.int 0), (.ref olds), (.ref olds)])) _
        refine XS.iload X1677.here hx rfl (hb hby at_179) rfl ?_
        refine st1698 _ ?_
        show Steps _ _ _ (T1698.setTop (mkF m 182 _ [(.ref olds)])) _
        refine XS.dup X1698.here hx rfl (hb hby at_182) rfl rfl ?_
        refine XS.iconst X1698.here hx rfl (hb hby at_183) ?_
        show Steps _ _ _ (T1698.setTop (mkF m 184 _ [(.int 1), (.ref olds), (.ref olds)])) _
        refine XS.iload X1698.here hx rfl (hb hby at_184) rfl ?_
        refine st1713 _ ?_
        show Steps _ _ _ (T1713.setTop (mkF m 187 _ [(.ref olds)])) _
        refine XS.dup X1713.here hx rfl (hb hby at_187) rfl rfl ?_
        refine XS.iconst X1713.here hx rfl (hb hby at_188) ?_
        show Steps _ _ _ (T1713.setTop (mkF m 189 _ [(.int 2), (.ref olds), (.ref olds)])) _
        refine XS.iload X1713.here hx rfl (hb hby at_189) rfl ?_
        refine st1728 _ ?_
        show Steps _ _ _ (T1728.setTop (mkF m 192 _ [(.ref olds)])) _
        refine XS.astore X1728.here hx rfl (hb hby at_192) rfl rfl (l' := #[iv p0, iv p1, iv p2, iv p3, .val (.long q4), .second, iv p5, iv 1, iv 3, iv pos, iv s0, iv s1, iv p5, rv g, rv old, rv olds, .unset, .unset, .unset, .unset]) rfl ?_
        show Steps _ _ _ (T1728.setTop (mkF m 194 _ [])) _
        refine XS.iconst X1728.here hx rfl (hb hby at_194) ?_
        refine st1741 _ ?_
        show Steps _ _ _ (T1741.setTop (mkF m 197 _ [(.ref e_)])) _
        refine XS.dup X1741.here hx rfl (hb hby at_197) rfl rfl ?_
        refine XS.iconst X1741.here hx rfl (hb hby at_198) ?_
        show Steps _ _ _ (T1741.setTop (mkF m 199 _ [(.int 0), (.ref e_), (.ref e_)])) _
        refine XS.iloadN X1741.here hx rfl (hb hby at_199) rfl ?_
        refine st1764 _ ?_
        show Steps _ _ _ (T1764.setTop (mkF m 201 _ [(.ref e_)])) _
        refine XS.dup X1764.here hx rfl (hb hby at_201) rfl rfl ?_
        refine XS.iconst X1764.here hx rfl (hb hby at_202) ?_
        show Steps _ _ _ (T1764.setTop (mkF m 203 _ [(.int 1), (.ref e_), (.ref e_)])) _
        refine XS.iloadN X1764.here hx rfl (hb hby at_203) rfl ?_
        refine st1780 _ ?_
        show Steps _ _ _ (T1780.setTop (mkF m 205 _ [(.ref e_)])) _
        refine XS.dup X1780.here hx rfl (hb hby at_205) rfl rfl ?_
        refine XS.iconst X1780.here hx rfl (hb hby at_206) ?_
        show Steps _ _ _ (T1780.setTop (mkF m 207 _ [(.int 2), (.ref e_), (.ref e_)])) _
        refine XS.iloadN X1780.here hx rfl (hb hby at_207) rfl ?_
        refine st1796 _ ?_
        show Steps _ _ _ (T1796.setTop (mkF m 209 _ [(.ref e_)])) _
        refine XS.astore X1796.here hx rfl (hb hby at_209) rfl rfl (l' := #[iv p0, iv p1, iv p2, iv p3, .val (.long q4), .second, iv p5, iv 1, iv 3, iv pos, iv s0, iv s1, iv p5, rv g, rv old, rv olds, rv e_, .unset, .unset, .unset]) rfl ?_
        show Steps _ _ _ (T1796.setTop (mkF m 211 _ [])) _
        refine XS.iconst X1796.here hx rfl (hb hby at_211) ?_
        refine st1810 _ ?_
        show Steps _ _ _ (T1810.setTop (mkF m 214 _ [(.ref es)])) _
        refine XS.dup X1810.here hx rfl (hb hby at_214) rfl rfl ?_
        refine XS.iconst X1810.here hx rfl (hb hby at_215) ?_
        show Steps _ _ _ (T1810.setTop (mkF m 216 _ [(.int 0), (.ref es), (.ref es)])) _
        refine XS.iload X1810.here hx rfl (hb hby at_216) rfl ?_
        refine st1835 _ ?_
        show Steps _ _ _ (T1835.setTop (mkF m 219 _ [(.ref es)])) _
        refine XS.dup X1835.here hx rfl (hb hby at_219) rfl rfl ?_
        refine XS.iconst X1835.here hx rfl (hb hby at_220) ?_
        show Steps _ _ _ (T1835.setTop (mkF m 221 _ [(.int 1), (.ref es), (.ref es)])) _
        refine XS.iload X1835.here hx rfl (hb hby at_221) rfl ?_
        refine st1852 _ ?_
        show Steps _ _ _ (T1852.setTop (mkF m 224 _ [(.ref es)])) _
        refine XS.dup X1852.here hx rfl (hb hby at_224) rfl rfl ?_
        refine XS.iconst X1852.here hx rfl (hb hby at_225) ?_
        show Steps _ _ _ (T1852.setTop (mkF m 226 _ [(.int 2), (.ref es), (.ref es)])) _
        refine XS.iload X1852.here hx rfl (hb hby at_226) rfl ?_
        refine st1869 _ ?_
        show Steps _ _ _ (T1869.setTop (mkF m 229 _ [(.ref es)])) _
        refine XS.astore X1869.here hx rfl (hb hby at_229) rfl rfl (l' := #[iv p0, iv p1, iv p2, iv p3, .val (.long q4), .second, iv p5, iv 1, iv 3, iv pos, iv s0, iv s1, iv p5, rv g, rv old, rv olds, rv e_, rv es, .unset, .unset]) rfl ?_
        show Steps _ _ _ (T1869.setTop (mkF m 231 _ [])) _
        refine XS.aload X1869.here hx rfl (hb hby at_231) rfl rfl ?_
        refine XS.iload X1869.here hx rfl (hb hby at_233) rfl ?_
        show Steps _ _ _ (T1869.setTop (mkF m 235 _ [(.int pos), (.ref e_)])) _
        refine XS.aload X1869.here hx rfl (hb hby at_235) rfl rfl ?_
        refine XS.iload X1869.here hx rfl (hb hby at_237) rfl ?_
        show Steps _ _ _ (T1869.setTop (mkF m 239 _ [(.int 3), (.ref old), (.int pos), (.ref e_)])) _
        refine XS.iconst X1869.here hx rfl (hb hby at_239) ?_
        refine XS.isub X1869.here hx rfl (hb hby at_240) rfl ?_
        show Steps _ _ _ (T1869.setTop (mkF m 241 _ [(.int ((3 : Int32) - (1 : Int32))), (.ref old), (.int pos), (.ref e_)])) _
        refine X1869.iaload hx (j := ((3 : Int32) - (1 : Int32))) (v := (.int p3)) (by rw [e1869]; exact Ar1884.1) (State.isArrayOf_alike hZ.alike Ar1884.2.1) Ar1884.2.2 hin1886 hat1886 (g := (mkF m 241 #[iv p0, iv p1, iv p2, iv p3, .val (.long q4), .second, iv p5, iv 1, iv 3, iv pos, iv s0, iv s1, iv p5, rv g, rv old, rv olds, rv e_, rv es, .unset, .unset] [(.int ((3 : Int32) - (1 : Int32))), (.ref old), (.int pos), (.ref e_)])) rfl rfl (hb hby at_241) _ ?_
        refine st1889 _ ?_
        show Steps _ _ _ (T1889.setTop (mkF m 243 _ [])) _
        refine XS.aload X1889.here hx rfl (hb hby at_243) rfl rfl ?_
        refine XS.iload X1889.here hx rfl (hb hby at_245) rfl ?_
        show Steps _ _ _ (T1889.setTop (mkF m 247 _ [(.int pos), (.ref es)])) _
        refine XS.aload X1889.here hx rfl (hb hby at_247) rfl rfl ?_
        refine XS.iload X1889.here hx rfl (hb hby at_249) rfl ?_
        show Steps _ _ _ (T1889.setTop (mkF m 251 _ [(.int 3), (.ref olds), (.int pos), (.ref es)])) _
        refine XS.iconst X1889.here hx rfl (hb hby at_251) ?_
        refine XS.isub X1889.here hx rfl (hb hby at_252) rfl ?_
        show Steps _ _ _ (T1889.setTop (mkF m 253 _ [(.int ((3 : Int32) - (1 : Int32))), (.ref olds), (.int pos), (.ref es)])) _
        refine X1889.iaload hx (j := ((3 : Int32) - (1 : Int32))) (v := (.int p5)) (by rw [e1889]; exact Ar1905.1) (State.isArrayOf_alike hZ.alike Ar1905.2.1) Ar1905.2.2 hin1907 hat1907 (g := (mkF m 253 #[iv p0, iv p1, iv p2, iv p3, .val (.long q4), .second, iv p5, iv 1, iv 3, iv pos, iv s0, iv s1, iv p5, rv g, rv old, rv olds, rv e_, rv es, .unset, .unset] [(.int ((3 : Int32) - (1 : Int32))), (.ref olds), (.int pos), (.ref es)])) rfl rfl (hb hby at_253) _ ?_
        refine st1910 _ ?_
        show Steps _ _ _ (T1910.setTop (mkF m 255 _ [])) _
        refine XS.aload X1910.here hx rfl (hb hby at_255) rfl rfl ?_
        refine XS.iconst X1910.here hx rfl (hb hby at_257) ?_
        show Steps _ _ _ (T1910.setTop (mkF m 258 _ [(.int 0), (.ref g)])) _
        refine st1926.trans ?_
        show Steps _ _ _ (T1926.setTop (mkF m 261 _ [(.int 2)])) _
        refine XS.iload X1926.here hx rfl (hb hby at_261) rfl ?_
        refine XS.iconst X1926.here hx rfl (hb hby at_263) ?_
        show Steps _ _ _ (T1926.setTop (mkF m 264 _ [(.int 1), (.int 3), (.int 2)])) _
        refine XS.isub X1926.here hx rfl (hb hby at_264) rfl ?_
        refine XS.icmpNo X1926.here hx rfl (hb hby at_265) rfl (teq (by decide : (2 : Int32) = ((3 : Int32) - (1 : Int32)))).2 ?_
        show Steps _ _ _ (T1926.setTop (mkF m 268 _ [])) _
        refine XS.aload X1926.here hx rfl (hb hby at_268) rfl rfl ?_
        refine st1927.trans ?_
        show Steps _ _ _ (T1927.setTop (mkF m 273 _ [(.int 2)])) _
        refine XS.iload X1927.here hx rfl (hb hby at_273) rfl ?_
        refine XS.iconst X1927.here hx rfl (hb hby at_275) ?_
        show Steps _ _ _ (T1927.setTop (mkF m 276 _ [(.int 1), (.int 3), (.int 2)])) _
        refine XS.isub X1927.here hx rfl (hb hby at_276) rfl ?_
        refine XS.icmpNo X1927.here hx rfl (hb hby at_277) rfl (teq (by decide : (2 : Int32) = ((3 : Int32) - (1 : Int32)))).2 ?_
        show Steps _ _ _ (T1927.setTop (mkF m 280 _ [])) _
        refine XS.iconst X1927.here hx rfl (hb hby at_280) ?_
        refine XS.goto X1927.here hx rfl (pc0 := 281) (pc' := 285) rfl (hb hby at_281) (by decide) (by decide) ?_
        show Steps _ _ _ (T1927.setTop (mkF m 285 _ [(.int 1)])) _
        refine XS.istore X1927.here hx rfl (hb hby at_285) rfl (l' := #[iv p0, iv p1, iv p2, iv p3, .val (.long q4), .second, iv p5, iv 1, iv 3, iv pos, iv s0, iv s1, iv p5, rv g, rv old, rv olds, rv e_, rv es, iv 1, .unset]) rfl ?_
        show Steps _ _ _ (T1927.setTop (mkF m 287 _ [])) _
        refine XS.aload X1927.here hx rfl (hb hby at_287) rfl rfl ?_
        refine XS.iconst X1927.here hx rfl (hb hby at_289) ?_
        show Steps _ _ _ (T1927.setTop (mkF m 290 _ [(.int 0), (.ref g)])) _
        refine st1928.trans ?_
        show Steps _ _ _ (T1928.setTop (mkF m 293 _ [(.int 0)])) _
        refine XS.istore X1928.here hx rfl (hb hby at_293) rfl (l' := #[iv p0, iv p1, iv p2, iv p3, .val (.long q4), .second, iv p5, iv 1, iv 3, iv pos, iv s0, iv s1, iv p5, rv g, rv old, rv olds, rv e_, rv es, iv 1, iv 0]) rfl ?_
        show Steps _ _ _ (T1928.setTop (mkF m 295 _ [])) _
        refine XS.iload X1928.here hx rfl (hb hby at_295) rfl ?_
        refine XS.iconst X1928.here hx rfl (hb hby at_297) ?_
        show Steps _ _ _ (T1928.setTop (mkF m 298 _ [(.int 2), (.int 3)])) _
        refine XS.icmpNo X1928.here hx rfl (hb hby at_298) rfl (flt (by decide : ¬ ((3 : Int32) < (2 : Int32)))).1 ?_
        refine XS.iload X1928.here hx rfl (hb hby at_301) rfl ?_
        show Steps _ _ _ (T1928.setTop (mkF m 303 _ [(.int 1)])) _
        refine XS.ifNo X1928.here hx rfl (hb hby at_303) rfl ((if0 _ _).trans (feq (by decide : ¬ ((1 : Int32) = (0 : Int32)))).1) ?_
        refine XS.aload X1928.here hx rfl (hb hby at_306) rfl rfl ?_
        show Steps _ _ _ (T1928.setTop (mkF m 308 _ [(.ref g)])) _
        refine XS.iload X1928.here hx rfl (hb hby at_308) rfl ?_
        refine st1929.trans ?_
        show Steps _ _ _ (T1929.setTop (mkF m 313 _ [(.int e0)])) _
        refine XS.aload X1929.here hx rfl (hb hby at_313) rfl rfl ?_
        refine XS.iconst X1929.here hx rfl (hb hby at_315) ?_
        show Steps _ _ _ (T1929.setTop (mkF m 316 _ [(.int 0), (.ref e_), (.int e0)])) _
        refine X1929.iaload hx (j := (0 : Int32)) (v := (.int e0)) (by rw [ei0]; exact Ar1930.1) (State.isArrayOf_alike hZ.alike Ar1930.2.1) Ar1930.2.2 hin1932 hat1932 (g := (mkF m 316 #[iv p0, iv p1, iv p2, iv p3, .val (.long q4), .second, iv p5, iv 1, iv 3, iv pos, iv s0, iv s1, iv p5, rv g, rv old, rv olds, rv e_, rv es, iv 1, iv 0] [(.int 0), (.ref e_), (.int e0)])) rfl rfl (hb hby at_316) _ ?_
        refine XS.icmpNo X1929.here hx rfl (hb hby at_317) rfl (teq (rfl : e0 = e0)).2 ?_
        show Steps _ _ _ (T1929.setTop (mkF m 320 _ [])) _
        refine XS.iload X1929.here hx rfl (hb hby at_320) rfl ?_
        refine XS.ifNo X1929.here hx rfl (hb hby at_322) rfl ((if0 _ _).trans (feq (by decide : ¬ ((1 : Int32) = (0 : Int32)))).1) ?_
        show Steps _ _ _ (T1929.setTop (mkF m 325 _ [])) _
        refine XS.aload X1929.here hx rfl (hb hby at_325) rfl rfl ?_
        refine XS.iload X1929.here hx rfl (hb hby at_327) rfl ?_
        show Steps _ _ _ (T1929.setTop (mkF m 329 _ [(.int 0), (.ref g)])) _
        refine st1933.trans ?_
        show Steps _ _ _ (T1933.setTop (mkF m 332 _ [(.int f0_)])) _
        refine XS.aload X1933.here hx rfl (hb hby at_332) rfl rfl ?_
        refine XS.iconst X1933.here hx rfl (hb hby at_334) ?_
        show Steps _ _ _ (T1933.setTop (mkF m 335 _ [(.int 0), (.ref es), (.int f0_)])) _
        refine X1933.iaload hx (j := (0 : Int32)) (v := (.int f0_)) (by rw [ej0]; exact Ar1934.1) (State.isArrayOf_alike hZ.alike Ar1934.2.1) Ar1934.2.2 hin1936 hat1936 (g := (mkF m 335 #[iv p0, iv p1, iv p2, iv p3, .val (.long q4), .second, iv p5, iv 1, iv 3, iv pos, iv s0, iv s1, iv p5, rv g, rv old, rv olds, rv e_, rv es, iv 1, iv 0] [(.int 0), (.ref es), (.int f0_)])) rfl rfl (hb hby at_335) _ ?_
        refine XS.icmpNo X1933.here hx rfl (hb hby at_336) rfl (teq (rfl : f0_ = f0_)).2 ?_
        show Steps _ _ _ (T1933.setTop (mkF m 339 _ [])) _
        refine XS.iconst X1933.here hx rfl (hb hby at_339) ?_
        refine XS.goto X1933.here hx rfl (pc0 := 340) (pc' := 344) rfl (hb hby at_340) (by decide) (by decide) ?_
        show Steps _ _ _ (T1933.setTop (mkF m 344 _ [(.int 1)])) _
        refine XS.istore X1933.here hx rfl (hb hby at_344) rfl (l' := #[iv p0, iv p1, iv p2, iv p3, .val (.long q4), .second, iv p5, iv 1, iv 3, iv pos, iv s0, iv s1, iv p5, rv g, rv old, rv olds, rv e_, rv es, iv 1, iv 0]) rfl ?_
        show Steps _ _ _ (T1933.setTop (mkF m 346 _ [])) _
        refine XS.iload X1933.here hx rfl (hb hby at_346) rfl ?_
        refine XS.iconst X1933.here hx rfl (hb hby at_348) ?_
        show Steps _ _ _ (T1933.setTop (mkF m 349 _ [(.int 3), (.int 3)])) _
        refine XS.icmpNo X1933.here hx rfl (hb hby at_349) rfl (flt (by decide : ¬ ((3 : Int32) < (3 : Int32)))).1 ?_
        refine XS.iload X1933.here hx rfl (hb hby at_352) rfl ?_
        show Steps _ _ _ (T1933.setTop (mkF m 354 _ [(.int 1)])) _
        refine XS.ifNo X1933.here hx rfl (hb hby at_354) rfl ((if0 _ _).trans (feq (by decide : ¬ ((1 : Int32) = (0 : Int32)))).1) ?_
        refine XS.aload X1933.here hx rfl (hb hby at_357) rfl rfl ?_
        show Steps _ _ _ (T1933.setTop (mkF m 359 _ [(.ref g)])) _
        refine XS.iload X1933.here hx rfl (hb hby at_359) rfl ?_
        refine XS.iconst X1933.here hx rfl (hb hby at_361) ?_
        show Steps _ _ _ (T1933.setTop (mkF m 362 _ [(.int 1), (.int 0), (.ref g)])) _
        refine XS.iadd X1933.here hx rfl (hb hby at_362) rfl ?_
        refine st1937.trans ?_
        show Steps _ _ _ (T1937.setTop (mkF m 366 _ [(.int e1)])) _
        refine XS.aload X1937.here hx rfl (hb hby at_366) rfl rfl ?_
        refine XS.iconst X1937.here hx rfl (hb hby at_368) ?_
        show Steps _ _ _ (T1937.setTop (mkF m 369 _ [(.int 1), (.ref e_), (.int e1)])) _
        refine X1937.iaload hx (j := (1 : Int32)) (v := (.int e1)) (by rw [ei1]; exact Ar1938.1) (State.isArrayOf_alike hZ.alike Ar1938.2.1) Ar1938.2.2 hin1940 hat1940 (g := (mkF m 369 #[iv p0, iv p1, iv p2, iv p3, .val (.long q4), .second, iv p5, iv 1, iv 3, iv pos, iv s0, iv s1, iv p5, rv g, rv old, rv olds, rv e_, rv es, iv 1, iv 0] [(.int 1), (.ref e_), (.int e1)])) rfl rfl (hb hby at_369) _ ?_
        refine XS.icmpNo X1937.here hx rfl (hb hby at_370) rfl (teq (rfl : e1 = e1)).2 ?_
        show Steps _ _ _ (T1937.setTop (mkF m 373 _ [])) _
        refine XS.iload X1937.here hx rfl (hb hby at_373) rfl ?_
        refine XS.ifNo X1937.here hx rfl (hb hby at_375) rfl ((if0 _ _).trans (feq (by decide : ¬ ((1 : Int32) = (0 : Int32)))).1) ?_
        show Steps _ _ _ (T1937.setTop (mkF m 378 _ [])) _
        refine XS.aload X1937.here hx rfl (hb hby at_378) rfl rfl ?_
        refine XS.iload X1937.here hx rfl (hb hby at_380) rfl ?_
        show Steps _ _ _ (T1937.setTop (mkF m 382 _ [(.int 0), (.ref g)])) _
        refine XS.iconst X1937.here hx rfl (hb hby at_382) ?_
        refine XS.iadd X1937.here hx rfl (hb hby at_383) rfl ?_
        show Steps _ _ _ (T1937.setTop (mkF m 384 _ [(.int ((0 : Int32) + (1 : Int32))), (.ref g)])) _
        refine st1941.trans ?_
        show Steps _ _ _ (T1941.setTop (mkF m 387 _ [(.int f1_)])) _
        refine XS.aload X1941.here hx rfl (hb hby at_387) rfl rfl ?_
        refine XS.iconst X1941.here hx rfl (hb hby at_389) ?_
        show Steps _ _ _ (T1941.setTop (mkF m 390 _ [(.int 1), (.ref es), (.int f1_)])) _
        refine X1941.iaload hx (j := (1 : Int32)) (v := (.int f1_)) (by rw [ej1]; exact Ar1942.1) (State.isArrayOf_alike hZ.alike Ar1942.2.1) Ar1942.2.2 hin1944 hat1944 (g := (mkF m 390 #[iv p0, iv p1, iv p2, iv p3, .val (.long q4), .second, iv p5, iv 1, iv 3, iv pos, iv s0, iv s1, iv p5, rv g, rv old, rv olds, rv e_, rv es, iv 1, iv 0] [(.int 1), (.ref es), (.int f1_)])) rfl rfl (hb hby at_390) _ ?_
        refine XS.icmpNo X1941.here hx rfl (hb hby at_391) rfl (teq (rfl : f1_ = f1_)).2 ?_
        show Steps _ _ _ (T1941.setTop (mkF m 394 _ [])) _
        refine XS.iconst X1941.here hx rfl (hb hby at_394) ?_
        refine XS.goto X1941.here hx rfl (pc0 := 395) (pc' := 399) rfl (hb hby at_395) (by decide) (by decide) ?_
        show Steps _ _ _ (T1941.setTop (mkF m 399 _ [(.int 1)])) _
        refine XS.istore X1941.here hx rfl (hb hby at_399) rfl (l' := #[iv p0, iv p1, iv p2, iv p3, .val (.long q4), .second, iv p5, iv 1, iv 3, iv pos, iv s0, iv s1, iv p5, rv g, rv old, rv olds, rv e_, rv es, iv 1, iv 0]) rfl ?_
        show Steps _ _ _ (T1941.setTop (mkF m 401 _ [])) _
        refine XS.iload X1941.here hx rfl (hb hby at_401) rfl ?_
        exact k)
      rw [hO] at go1945
      obtain ⟨fs, hr, hrun, hended, hW, hsame⟩ := X1941.leave (v := some (.int 1)) (fun h => by rw [Bd.returns] at h; cases h)
      refine ⟨_, _, go1945 _ ?_, hrun, hended, _, _, rfl, ?_, ⟨_, rfl⟩, hW, hsame.mono (by decide) (by decide)⟩
      · exact retN X1941 hx (t := .boolean) Bd.returns (by simp) (hb hby at_403) hr
      · show Q_law Z p0 p1 p2 p3 q4 p5 h0 n0 _ T1941.heap _
        rw [ej1]
        exact ⟨rfl, N1941⟩
set_option maxRecDepth 65536 in
set_option maxHeartbeats 40000000 in
theorem comes_1 {Post : Tables → Env → Array Value → State → Outcome → State → Prop} (hpost : ∀ tb e args s v u, (limb_1_1.after args s (.returned v) u = true ∧ limb_1_2.after args s (.returned v) u = true ∧ True) → FrameEnd s (.returned v) u (Jvm.fieldLocs frame_1_writes args s ++ Jvm.arrayLocs frame_1_arrays args s ++ Jvm.staticLocs frame_1_statics s) 32 192 → Post tb e args s (.returned v) u) :
    ArmFor flags0 classFile x code maxLocals ret World_1 tables_1 room_1 Calls_1 rest_1 Pre_1 Post := by
  intro l hfl _ _ p e ha hc hk s m args below hf hA hF happ hP
  obtain ⟨hcalls, hrest, hpre⟩ := hP
  obtain ⟨-, -, -, hnamed, -, -, -, hat⟩ := (Spec.applies_iff hf).mp happ
  obtain ⟨hg, hn⟩ := and_e (Cond.before_iff.mp (show (Jvm.Cond.and given_1 narrow_1).before args s = true from hpre))
  obtain ⟨hcnt, r0⟩ := and_e hg
  obtain ⟨c0, r1⟩ := and_e r0
  obtain ⟨c1, r2⟩ := and_e r1
  obtain ⟨c2, r3⟩ := and_e r2
  obtain ⟨c3, r4⟩ := and_e r3
  obtain ⟨c4, r5⟩ := and_e r4
  obtain ⟨w0, w1, w2, w3, w4, w5, rfl⟩ : ∃ w0 w1 w2 w3 w4 w5 : Value, args = #[w0, w1, w2, w3, w4, w5] := by
    have hs : args.size = 6 := by simpa [Cond.value, given_1] using hcnt
    obtain ⟨L⟩ := args
    match L, hs with
    | [w0, w1, w2, w3, w4, w5], _ => exact ⟨w0, w1, w2, w3, w4, w5, rfl⟩
  have hw := fun d (hd : d ∈ tables_1) => atoms_spec (ws := Jvm.Cond.code x code maxLocals ret :: tables_1) hat d (List.mem_cons_of_mem _ hd)
  obtain ⟨i0, ei0⟩ := is_v c0
  obtain rfl : w0 = (.int i0) := Option.some.inj ei0
  obtain ⟨i1, ei1⟩ := is_v c1
  obtain rfl : w1 = (.int i1) := Option.some.inj ei1
  obtain ⟨i2, ei2⟩ := is_v c2
  obtain rfl : w2 = (.int i2) := Option.some.inj ei2
  obtain ⟨i3, ei3⟩ := is_v c3
  obtain rfl : w3 = (.int i3) := Option.some.inj ei3
  obtain ⟨i4, ei4⟩ := isL_v c4
  obtain rfl : w4 = (.long i4) := Option.some.inj ei4
  obtain ⟨i5, ei5⟩ := is_v r5
  obtain rfl : w5 = (.int i5) := Option.some.inj ei5
  obtain ⟨n, o, h1, h2, h3, _, L, rfl, ⟨rfl, N⟩, hq⟩ := rm_law l s _ hw tables_1 i0 i1 i2 i3 i4 i5 s.heap s.heap.size (Nat.le_refl _) p e ha hc hk s m _ below hf ((Spec.applies_iff_loose hf).mp happ).1 ⟨rfl, State.Warmed39.refl s, rfl⟩ trivial
  refine ⟨n, _, h1, h2, h3, hpost _ _ _ _ _ _ ⟨Cond.after_iff.mpr rfl, Cond.after_iff.mpr (eq_i res_at (Term.int_eval (1)) rfl), trivial⟩ ⟨hq.1, hq.2.1, (hq.2.2.sift fun y hy => Or.inr (N y hy)).mono (by decide) (by decide)⟩⟩
theorem main_1_1 : Claimed_1_1 := comes_1 fun _ _ _ _ _ _ h hF => ⟨h.1, hF⟩
theorem main_1_2 : Claimed_1_2 := comes_1 fun _ _ _ _ _ _ h hF => ⟨h.2.1, hF⟩
end Jvm.Pilot.@@N@@
namespace Jvm.Pilot.@@N@@
open Jvm Jvm.ClassFile Sem Op Lib Jvm.Free Jvm.Stand Jvm.Pilot.@@N@@.Jvm.D
/-! MADE BY PROGRAM (witnessworld.py) out of the Statement's table words and the real class files: 12 classes; the members and pool entries that the words name. The judged class is class 1, her method 1. -/
namespace start1
open Jvm.ClassFile
def u (s : String) : CpInfo := .utf8 (stringToUtf16 s)
/-- a pool by its gaps: so many unusable entries, then the entry; so many at the end -/
def gap : Nat → List CpInfo → List CpInfo
  | 0, r => r
  | n + 1, r => .unusable :: gap n r
def poolList (es : List (Nat × CpInfo)) (last : Nat) : List CpInfo := es.foldr (fun e r => gap e.1 (e.2 :: r)) (gap last [])
def pool (es : List (Nat × CpInfo)) (last : Nat) : Array CpInfo := ⟨poolList es last⟩
def fileOf (pool : Array CpInfo) (this : Nat) (attrs : Array Attribute := #[]) (ms : Array MethodInfo := #[]) (fl : Nat := 33) (sup : Nat := 0) (ifs : Array Nat := #[]) (fds : Array FieldInfo := #[]) : ClassFile where
  minorVersion := 0
  majorVersion := 65
  constantPool := pool
  accessFlags := fl
  thisClass := this
  superClass := sup
  interfaces := ifs
  fields := fds
  methods := ms
  attributes := attrs
def plain (name : String) (sup : Option ClassId) : Class where
  name := name
  kind := .ordinary
  loader := none
  accessFlags := 33
  super := sup
  interfaces := #[]
  cf := none
  fields := #[]
  methods := #[]
  instanceTypes := #[]
  staticTypes := #[]
  resolved := #[]
  callSites := []
  init := .initialized
  statics := none
  mirror := none

def pool0 : Array CpInfo := pool [(5, u "<init>"), (0, u "()V"), (1, .class_ 10), (1, u "java/lang/Object")] 113

def k0c0 : Code := { maxStack := 0, maxLocals := 1, code := object_method_1_code, exceptionTable := #[], attributes := #[] }
def k0m0 : Method := { name := "<init>", desc := "()V", sig := { parameters := [], returnType := none }, accessFlags := 1, code := some k0c0 }
/-- java/lang/Object -/
def k0 : Class := { plain "java/lang/Object" none with
  accessFlags := 33
  interfaces := #[]
  cf := some (fileOf pool0 8 #[] #[{ accessFlags := 1, nameIndex := 5, descriptorIndex := 6, attributes := #[] }] 33 0 #[] #[])
  fields := #[]
  methods := #[k0m0]
  instanceTypes := #[]
  staticTypes := #[]
  resolved := Array.replicate 124 none
  statics := none }

def pool1 : Array CpInfo := pool [(2, .class_ 4), (1, u "java/lang/Object"), (0, u "<init>"), (0, u "()V"), (0, .methodref 8 9), (0, .class_ 10), (0, .nameAndType 11 12), (0, u "com/example/plebiscite/plebiscite/Adjacency"), (0, u "paired"), (0, u "(I)Lcom/example/plebiscite/plebiscite/Adjacency;"), (0, .methodref 8 14), (0, .nameAndType 15 16), (0, u "add"), (0, u "(III)V"), (0, .methodref 8 18), (0, .nameAndType 5 19), (0, u "(II)V"), (0, .methodref 8 21), (0, .nameAndType 15 19), (0, .methodref 8 23), (0, .nameAndType 24 19), (0, u "remove"), (0, .methodref 8 26), (0, .nameAndType 27 28), (0, u "degree"), (0, u "(I)I"), (0, .methodref 8 30), (0, .nameAndType 31 32), (0, u "size"), (0, u "()I"), (0, .methodref 8 34), (0, .nameAndType 35 28), (0, u "begin"), (0, .methodref 8 37), (0, .nameAndType 38 28), (0, u "item"), (0, .methodref 8 40), (0, .nameAndType 41 28), (0, u "slot"), (0, .class_ 43), (0, u "com/example/plebiscite/plebiscite/AdjacencyRemovePinLaw"), (2, u "law"), (0, u "(IIIIJI)Z")] 5

def k1m0 : Method := { name := "<init>", desc := "()V", sig := { parameters := [], returnType := none }, accessFlags := 2, code := none }
def k1c1 : Code := { maxStack := 5, maxLocals := 20, code := code, exceptionTable := #[], attributes := #[] }
def k1m1 : Method := { name := "law", desc := "(IIIIJI)Z", sig := { parameters := [.int, .int, .int, .int, .long, .int], returnType := some .boolean }, accessFlags := 9, code := some k1c1 }
/-- com/example/plebiscite/plebiscite/AdjacencyRemovePinLaw -/
def k1 : Class := { plain "com/example/plebiscite/plebiscite/AdjacencyRemovePinLaw" (some 0) with
  accessFlags := 49
  interfaces := #[]
  cf := some (fileOf pool1 42 #[] #[{ accessFlags := 2, nameIndex := 5, descriptorIndex := 6, attributes := #[] }, { accessFlags := 9, nameIndex := 46, descriptorIndex := 47, attributes := #[] }] 49 2 #[] #[])
  fields := #[]
  methods := #[k1m0, k1m1]
  instanceTypes := #[]
  staticTypes := #[]
  resolved := Array.replicate 53 none
  statics := none }

def pool2 : Array CpInfo := pool [(1, .methodref 2 3), (0, .class_ 4), (0, .nameAndType 5 6), (0, u "com/example/plebiscite/plebiscite/Adjacency"), (0, u "<init>"), (0, u "(II)V"), (0, .methodref 8 9), (0, .class_ 10), (0, .nameAndType 5 11), (0, u "java/lang/Object"), (0, u "()V"), (0, .fieldref 2 13), (0, .nameAndType 14 15), (0, u "start"), (0, u "[I"), (0, .fieldref 2 17), (0, .nameAndType 18 15), (0, u "degree"), (0, .fieldref 2 20), (0, .nameAndType 21 15), (0, u "room"), (0, .fieldref 2 23), (0, .nameAndType 24 15), (0, u "items"), (0, .methodref 2 26), (0, .nameAndType 5 27), (0, u "(I)V"), (12, u "(I)I"), (2, .long 2147483639), (14, .fieldref 2 59), (0, .nameAndType 60 61), (0, u "end"), (0, u "I"), (0, .fieldref 2 63), (0, .nameAndType 64 61), (0, u "held"), (0, .fieldref 2 66), (0, .nameAndType 67 15), (0, u "slots"), (2, u "paired"), (0, u "(I)Lcom/example/plebiscite/plebiscite/Adjacency;"), (0, .fieldref 2 73), (0, .nameAndType 74 15), (0, u "bound"), (0, .fieldref 2 76), (0, .nameAndType 77 78), (0, u "boundSum"), (0, u "J"), (0, .fieldref 2 80), (0, .nameAndType 81 61), (0, u "size"), (0, .methodref 2 83), (0, .nameAndType 84 40), (0, u "append"), (6, .methodref 2 92), (0, .nameAndType 93 27), (0, u "growBlock"), (0, .methodref 95 96), (0, .class_ 97), (0, .nameAndType 98 99), (0, u "java/lang/Math"), (0, u "max"), (0, u "(II)I"), (0, .methodref 2 101), (0, .nameAndType 102 103), (0, u "makeRoom"), (0, u "(I)Z"), (6, .long 16), (1, .long 2), (1, .methodref 95 115), (0, .nameAndType 98 116), (0, u "(JJ)J"), (0, .methodref 95 118), (0, .nameAndType 119 116), (0, u "min"), (6, .methodref 127 128), (0, .class_ 129), (0, .nameAndType 130 131), (0, u "java/util/Arrays"), (0, u "copyOf"), (0, u "([II)[I"), (15, u "MIN_LENGTH"), (2, u "BOUND_SHARE"), (7, u "()I"), (0, u "begin"), (0, u "item"), (0, u "slot"), (1, u "add"), (0, u "(III)V"), (0, u "remove")] 36

def k2c0 : Code := { maxStack := 3, maxLocals := 2, code := prog_2_method_1_code, exceptionTable := #[], attributes := #[] }
def k2m0 : Method := { name := "<init>", desc := "(I)V", sig := { parameters := [.int], returnType := none }, accessFlags := 0, code := some k2c0 }
def k2c1 : Code := { maxStack := 2, maxLocals := 3, code := prog_2_method_2_code, exceptionTable := #[], attributes := #[] }
def k2m1 : Method := { name := "<init>", desc := "(II)V", sig := { parameters := [.int, .int], returnType := none }, accessFlags := 0, code := some k2c1 }
def k2c2 : Code := { maxStack := 3, maxLocals := 2, code := prog_2_method_7_code, exceptionTable := #[], attributes := #[] }
def k2m2 : Method := { name := "paired", desc := "(I)Lcom/example/plebiscite/plebiscite/Adjacency;", sig := { parameters := [.int], returnType := some (.object "com/example/plebiscite/plebiscite/Adjacency") }, accessFlags := 8, code := some k2c2 }
def k2c3 : Code := { maxStack := 1, maxLocals := 1, code := prog_2_method_9_code, exceptionTable := #[], attributes := #[] }
def k2m3 : Method := { name := "size", desc := "()I", sig := { parameters := [], returnType := some .int }, accessFlags := 0, code := some k2c3 }
def k2c4 : Code := { maxStack := 2, maxLocals := 2, code := prog_2_method_10_code, exceptionTable := #[], attributes := #[] }
def k2m4 : Method := { name := "degree", desc := "(I)I", sig := { parameters := [.int], returnType := some .int }, accessFlags := 0, code := some k2c4 }
def k2c5 : Code := { maxStack := 2, maxLocals := 2, code := prog_2_method_11_code, exceptionTable := #[], attributes := #[] }
def k2m5 : Method := { name := "begin", desc := "(I)I", sig := { parameters := [.int], returnType := some .int }, accessFlags := 0, code := some k2c5 }
def k2c6 : Code := { maxStack := 2, maxLocals := 2, code := prog_2_method_13_code, exceptionTable := #[], attributes := #[] }
def k2m6 : Method := { name := "item", desc := "(I)I", sig := { parameters := [.int], returnType := some .int }, accessFlags := 0, code := some k2c6 }
def k2c7 : Code := { maxStack := 2, maxLocals := 2, code := prog_2_method_14_code, exceptionTable := #[], attributes := #[] }
def k2m7 : Method := { name := "slot", desc := "(I)I", sig := { parameters := [.int], returnType := some .int }, accessFlags := 0, code := some k2c7 }
def k2c8 : Code := { maxStack := 3, maxLocals := 4, code := prog_2_method_16_code, exceptionTable := #[], attributes := #[] }
def k2m8 : Method := { name := "add", desc := "(II)V", sig := { parameters := [.int, .int], returnType := none }, accessFlags := 0, code := some k2c8 }
def k2c9 : Code := { maxStack := 3, maxLocals := 5, code := prog_2_method_17_code, exceptionTable := #[], attributes := #[] }
def k2m9 : Method := { name := "add", desc := "(III)V", sig := { parameters := [.int, .int, .int], returnType := none }, accessFlags := 0, code := some k2c9 }
def k2c10 : Code := { maxStack := 5, maxLocals := 4, code := prog_2_method_18_code, exceptionTable := #[], attributes := #[] }
def k2m10 : Method := { name := "remove", desc := "(II)V", sig := { parameters := [.int, .int], returnType := none }, accessFlags := 0, code := some k2c10 }
def k2c11 : Code := { maxStack := 6, maxLocals := 2, code := prog_2_method_19_code, exceptionTable := #[], attributes := #[] }
def k2m11 : Method := { name := "append", desc := "(I)I", sig := { parameters := [.int], returnType := some .int }, accessFlags := 2, code := some k2c11 }
def k2c12 : Code := { maxStack := 6, maxLocals := 5, code := prog_2_method_20_code, exceptionTable := #[], attributes := #[] }
def k2m12 : Method := { name := "growBlock", desc := "(I)V", sig := { parameters := [.int], returnType := none }, accessFlags := 2, code := some k2c12 }
def k2c13 : Code := { maxStack := 8, maxLocals := 8, code := prog_2_method_21_code, exceptionTable := #[], attributes := #[] }
def k2m13 : Method := { name := "makeRoom", desc := "(I)Z", sig := { parameters := [.int], returnType := some .boolean }, accessFlags := 2, code := some k2c13 }
/-- com/example/plebiscite/plebiscite/Adjacency -/
def k2 : Class := { plain "com/example/plebiscite/plebiscite/Adjacency" (some 0) with
  accessFlags := 32
  interfaces := #[]
  cf := some (fileOf pool2 2 #[] #[{ accessFlags := 0, nameIndex := 5, descriptorIndex := 27, attributes := #[] }, { accessFlags := 0, nameIndex := 5, descriptorIndex := 6, attributes := #[] }, { accessFlags := 8, nameIndex := 70, descriptorIndex := 71, attributes := #[] }, { accessFlags := 0, nameIndex := 81, descriptorIndex := 158, attributes := #[] }, { accessFlags := 0, nameIndex := 18, descriptorIndex := 40, attributes := #[] }, { accessFlags := 0, nameIndex := 159, descriptorIndex := 40, attributes := #[] }, { accessFlags := 0, nameIndex := 160, descriptorIndex := 40, attributes := #[] }, { accessFlags := 0, nameIndex := 161, descriptorIndex := 40, attributes := #[] }, { accessFlags := 0, nameIndex := 163, descriptorIndex := 6, attributes := #[] }, { accessFlags := 0, nameIndex := 163, descriptorIndex := 164, attributes := #[] }, { accessFlags := 0, nameIndex := 165, descriptorIndex := 6, attributes := #[] }, { accessFlags := 2, nameIndex := 84, descriptorIndex := 40, attributes := #[] }, { accessFlags := 2, nameIndex := 93, descriptorIndex := 27, attributes := #[] }, { accessFlags := 2, nameIndex := 102, descriptorIndex := 103, attributes := #[] }] 32 8 #[] #[{ accessFlags := 26, nameIndex := 147, descriptorIndex := 61, attributes := #[] }, { accessFlags := 24, nameIndex := 150, descriptorIndex := 61, attributes := #[] }, { accessFlags := 18, nameIndex := 14, descriptorIndex := 15, attributes := #[] }, { accessFlags := 18, nameIndex := 18, descriptorIndex := 15, attributes := #[] }, { accessFlags := 2, nameIndex := 21, descriptorIndex := 15, attributes := #[] }, { accessFlags := 2, nameIndex := 24, descriptorIndex := 15, attributes := #[] }, { accessFlags := 2, nameIndex := 67, descriptorIndex := 15, attributes := #[] }, { accessFlags := 2, nameIndex := 60, descriptorIndex := 61, attributes := #[] }, { accessFlags := 2, nameIndex := 64, descriptorIndex := 61, attributes := #[] }, { accessFlags := 2, nameIndex := 81, descriptorIndex := 61, attributes := #[] }, { accessFlags := 2, nameIndex := 74, descriptorIndex := 15, attributes := #[] }, { accessFlags := 2, nameIndex := 77, descriptorIndex := 78, attributes := #[] }])
  fields := #[{ name := "MIN_LENGTH", type := .int, accessFlags := 26, slot := 0, constantValue := 0 }, { name := "BOUND_SHARE", type := .int, accessFlags := 24, slot := 1, constantValue := 0 }, { name := "start", type := (.array .int), accessFlags := 18, slot := 0, constantValue := 0 }, { name := "degree", type := (.array .int), accessFlags := 18, slot := 1, constantValue := 0 }, { name := "room", type := (.array .int), accessFlags := 2, slot := 2, constantValue := 0 }, { name := "items", type := (.array .int), accessFlags := 2, slot := 3, constantValue := 0 }, { name := "slots", type := (.array .int), accessFlags := 2, slot := 4, constantValue := 0 }, { name := "end", type := .int, accessFlags := 2, slot := 5, constantValue := 0 }, { name := "held", type := .int, accessFlags := 2, slot := 6, constantValue := 0 }, { name := "size", type := .int, accessFlags := 2, slot := 7, constantValue := 0 }, { name := "bound", type := (.array .int), accessFlags := 2, slot := 8, constantValue := 0 }, { name := "boundSum", type := .long, accessFlags := 2, slot := 9, constantValue := 0 }]
  methods := #[k2m0, k2m1, k2m2, k2m3, k2m4, k2m5, k2m6, k2m7, k2m8, k2m9, k2m10, k2m11, k2m12, k2m13]
  instanceTypes := #[(.array .int), (.array .int), (.array .int), (.array .int), (.array .int), .int, .int, .int, (.array .int), .long]
  staticTypes := #[.int, .int]
  resolved := Array.replicate 202 none
  statics := none }

def pool3 : Array CpInfo := pool [(1, .class_ 2), (0, u "java/lang/Math"), (1, .class_ 6), (1, u "java/lang/Object"), (0, u "<init>"), (0, u "()V"), (89, .class_ 100), (1, u "java/lang/Math$RandomNumberGeneratorHolder"), (20, u "(JJ)J"), (50, u "negativeZeroFloatBits"), (0, u "J"), (2, u "negativeZeroDoubleBits"), (21, u "max"), (2, u "min"), (43, u "$assertionsDisabled"), (0, u "Z"), (88, u "(II)I"), (2, u "twoToTheDoubleScaleDown"), (0, u "D"), (4, u "twoToTheDoubleScaleUp"), (9, u "E"), (3, u "PI"), (2, u "TAU"), (2, u "DEGREES_TO_RADIANS"), (0, u "RADIANS_TO_DEGREES")] 94

def k3m0 : Method := { name := "<init>", desc := "()V", sig := { parameters := [], returnType := none }, accessFlags := 2, code := none }
def k3c1 : Code := { maxStack := 2, maxLocals := 2, code := jdk_29_method_65_code, exceptionTable := #[], attributes := #[] }
def k3m1 : Method := { name := "max", desc := "(II)I", sig := { parameters := [.int, .int], returnType := some .int }, accessFlags := 9, code := some k3c1 }
def k3c2 : Code := { maxStack := 4, maxLocals := 4, code := jdk_29_method_66_code, exceptionTable := #[], attributes := #[] }
def k3m2 : Method := { name := "max", desc := "(JJ)J", sig := { parameters := [.long, .long], returnType := some .long }, accessFlags := 9, code := some k3c2 }
def k3c3 : Code := { maxStack := 2, maxLocals := 2, code := jdk_29_method_69_code, exceptionTable := #[], attributes := #[] }
def k3m3 : Method := { name := "min", desc := "(II)I", sig := { parameters := [.int, .int], returnType := some .int }, accessFlags := 9, code := some k3c3 }
def k3c4 : Code := { maxStack := 4, maxLocals := 4, code := jdk_29_method_70_code, exceptionTable := #[], attributes := #[] }
def k3m4 : Method := { name := "min", desc := "(JJ)J", sig := { parameters := [.long, .long], returnType := some .long }, accessFlags := 9, code := some k3c4 }
/-- java/lang/Math -/
def k3 : Class := { plain "java/lang/Math" (some 0) with
  accessFlags := 49
  interfaces := #[]
  cf := some (fileOf pool3 1 #[.nestMembers #[98]] #[{ accessFlags := 2, nameIndex := 7, descriptorIndex := 8, attributes := #[] }, { accessFlags := 9, nameIndex := 198, descriptorIndex := 335, attributes := #[] }, { accessFlags := 9, nameIndex := 198, descriptorIndex := 121, attributes := #[] }, { accessFlags := 9, nameIndex := 201, descriptorIndex := 335, attributes := #[] }, { accessFlags := 9, nameIndex := 201, descriptorIndex := 121, attributes := #[] }] 49 4 #[] #[{ accessFlags := 25, nameIndex := 354, descriptorIndex := 339, attributes := #[] }, { accessFlags := 25, nameIndex := 358, descriptorIndex := 339, attributes := #[] }, { accessFlags := 25, nameIndex := 361, descriptorIndex := 339, attributes := #[] }, { accessFlags := 26, nameIndex := 364, descriptorIndex := 339, attributes := #[] }, { accessFlags := 26, nameIndex := 365, descriptorIndex := 339, attributes := #[] }, { accessFlags := 26, nameIndex := 172, descriptorIndex := 173, attributes := #[] }, { accessFlags := 26, nameIndex := 176, descriptorIndex := 173, attributes := #[] }, { accessFlags := 8, nameIndex := 344, descriptorIndex := 339, attributes := #[] }, { accessFlags := 8, nameIndex := 338, descriptorIndex := 339, attributes := #[] }, { accessFlags := 4120, nameIndex := 245, descriptorIndex := 246, attributes := #[] }])
  fields := #[{ name := "E", type := .double, accessFlags := 25, slot := 0, constantValue := 0 }, { name := "PI", type := .double, accessFlags := 25, slot := 1, constantValue := 0 }, { name := "TAU", type := .double, accessFlags := 25, slot := 2, constantValue := 0 }, { name := "DEGREES_TO_RADIANS", type := .double, accessFlags := 26, slot := 3, constantValue := 0 }, { name := "RADIANS_TO_DEGREES", type := .double, accessFlags := 26, slot := 4, constantValue := 0 }, { name := "negativeZeroFloatBits", type := .long, accessFlags := 26, slot := 5, constantValue := 0 }, { name := "negativeZeroDoubleBits", type := .long, accessFlags := 26, slot := 6, constantValue := 0 }, { name := "twoToTheDoubleScaleUp", type := .double, accessFlags := 8, slot := 7, constantValue := 0 }, { name := "twoToTheDoubleScaleDown", type := .double, accessFlags := 8, slot := 8, constantValue := 0 }, { name := "$assertionsDisabled", type := .boolean, accessFlags := 4120, slot := 9, constantValue := 0 }]
  methods := #[k3m0, k3m1, k3m2, k3m3, k3m4]
  instanceTypes := #[]
  staticTypes := #[.double, .double, .double, .double, .double, .long, .long, .double, .double, .boolean]
  resolved := Array.replicate 460 none
  statics := none }

def pool4 : Array CpInfo := pool [(2, .class_ 4), (1, u "java/lang/Object"), (0, u "<init>"), (0, u "()V"), (7, .class_ 16), (1, u "java/util/Arrays"), (57, .class_ 76), (1, u "java/util/Arrays$NaturalOrder"), (36, .class_ 115), (1, u "java/util/Arrays$LegacyMergeSort"), (1, u "Z"), (32, .methodref 151 152), (0, .class_ 153), (0, .nameAndType 154 155), (0, u "java/lang/System"), (0, u "arraycopy"), (0, u "(Ljava/lang/Object;ILjava/lang/Object;II)V"), (146, u "copyOf"), (1, .methodref 305 306), (0, .class_ 307), (0, .nameAndType 308 309), (0, u "java/lang/Math"), (0, u "min"), (0, u "(II)I"), (65, .class_ 376), (0, u "java/util/Arrays$ArrayList"), (68, u "$assertionsDisabled"), (269, u "MIN_ARRAY_SORT_GRAN"), (0, u "I"), (2, u "INSERTIONSORT_THRESHOLD"), (151, u "([II)[I"), (103, .class_ 976), (0, u "java/util/Arrays$ArrayItr")] 52

def k4m0 : Method := { name := "<init>", desc := "()V", sig := { parameters := [], returnType := none }, accessFlags := 2, code := none }
def k4c1 : Code := { maxStack := 6, maxLocals := 3, code := jdk_65_method_123_code, exceptionTable := #[], attributes := #[] }
def k4m1 : Method := { name := "copyOf", desc := "([II)[I", sig := { parameters := [(.array .int), .int], returnType := some (.array .int) }, accessFlags := 9, code := some k4c1 }
/-- java/util/Arrays -/
def k4 : Class := { plain "java/util/Arrays" (some 0) with
  accessFlags := 49
  interfaces := #[]
  cf := some (fileOf pool4 14 #[.nestMembers #[975, 375, 113, 74]] #[{ accessFlags := 2, nameIndex := 5, descriptorIndex := 6, attributes := #[] }, { accessFlags := 9, nameIndex := 302, descriptorIndex := 871, attributes := #[] }] 49 2 #[] #[{ accessFlags := 26, nameIndex := 715, descriptorIndex := 716, attributes := #[] }, { accessFlags := 26, nameIndex := 719, descriptorIndex := 716, attributes := #[] }, { accessFlags := 4120, nameIndex := 445, descriptorIndex := 117, attributes := #[] }])
  fields := #[{ name := "MIN_ARRAY_SORT_GRAN", type := .int, accessFlags := 26, slot := 0, constantValue := 0 }, { name := "INSERTIONSORT_THRESHOLD", type := .int, accessFlags := 26, slot := 1, constantValue := 0 }, { name := "$assertionsDisabled", type := .boolean, accessFlags := 4120, slot := 2, constantValue := 0 }]
  methods := #[k4m0, k4m1]
  instanceTypes := #[]
  staticTypes := #[.int, .int, .boolean]
  resolved := Array.replicate 1029 none
  statics := none }

def pool5 : Array CpInfo := pool [(2, .class_ 4), (1, u "java/lang/Object"), (0, u "<init>"), (0, u "()V"), (1, .class_ 10), (1, u "java/lang/System"), (0, u "allowSecurityManager"), (0, u "I"), (16, u "cons"), (0, u "Ljava/io/Console;"), (77, .class_ 110), (1, u "java/lang/System$CallersHolder"), (43, u "initialErrStream"), (0, u "Ljava/io/PrintStream;"), (19, u "security"), (0, u "Ljava/lang/SecurityManager;"), (31, .class_ 209), (0, u "java/lang/System$1"), (7, u "props"), (0, u "Ljava/util/Properties;"), (2, u "lineSeparator"), (0, u "Ljava/lang/String;"), (96, .class_ 321), (1, u "java/lang/System$LoggerFinder"), (5, .class_ 328), (0, u "java/lang/System$Logger"), (67, u "err"), (2, u "out"), (91, u "notSupportedJnuEncoding"), (15, u "in"), (17, u "initialIn"), (0, u "Ljava/io/InputStream;"), (35, u "bootLayer"), (0, u "Ljava/lang/ModuleLayer;"), (99, .class_ 664), (0, u "java/lang/System$2"), (9, u "NEVER"), (2, u "MAYBE"), (49, u "arraycopy"), (0, u "(Ljava/lang/Object;ILjava/lang/Object;II)V"), (72, .class_ 802), (0, u "java/lang/System$Logger$Level")] 31

def k5m0 : Method := { name := "<init>", desc := "()V", sig := { parameters := [], returnType := none }, accessFlags := 2, code := none }
def k5m1 : Method := { name := "arraycopy", desc := "(Ljava/lang/Object;ILjava/lang/Object;II)V", sig := { parameters := [(.object "java/lang/Object"), .int, (.object "java/lang/Object"), .int, .int], returnType := none }, accessFlags := 265, code := none }
/-- java/lang/System -/
def k5 : Class := { plain "java/lang/System" (some 0) with
  accessFlags := 49
  interfaces := #[]
  cf := some (fileOf pool5 8 #[.nestMembers #[319, 327, 801, 108, 663, 208]] #[{ accessFlags := 2, nameIndex := 5, descriptorIndex := 6, attributes := #[] }, { accessFlags := 265, nameIndex := 727, descriptorIndex := 728, attributes := #[] }] 49 2 #[] #[{ accessFlags := 25, nameIndex := 507, descriptorIndex := 526, attributes := #[] }, { accessFlags := 25, nameIndex := 399, descriptorIndex := 155, attributes := #[] }, { accessFlags := 25, nameIndex := 396, descriptorIndex := 155, attributes := #[] }, { accessFlags := 10, nameIndex := 525, descriptorIndex := 526, attributes := #[] }, { accessFlags := 26, nameIndex := 674, descriptorIndex := 12, attributes := #[] }, { accessFlags := 26, nameIndex := 677, descriptorIndex := 12, attributes := #[] }, { accessFlags := 10, nameIndex := 11, descriptorIndex := 12, attributes := #[] }, { accessFlags := 74, nameIndex := 175, descriptorIndex := 176, attributes := #[] }, { accessFlags := 10, nameIndex := 491, descriptorIndex := 222, attributes := #[] }, { accessFlags := 74, nameIndex := 29, descriptorIndex := 30, attributes := #[] }, { accessFlags := 74, nameIndex := 154, descriptorIndex := 155, attributes := #[] }, { accessFlags := 10, nameIndex := 217, descriptorIndex := 218, attributes := #[] }, { accessFlags := 10, nameIndex := 221, descriptorIndex := 222, attributes := #[] }, { accessFlags := 8, nameIndex := 562, descriptorIndex := 563, attributes := #[] }])
  fields := #[{ name := "in", type := (.object "java/io/InputStream"), accessFlags := 25, slot := 0, constantValue := 0 }, { name := "out", type := (.object "java/io/PrintStream"), accessFlags := 25, slot := 1, constantValue := 0 }, { name := "err", type := (.object "java/io/PrintStream"), accessFlags := 25, slot := 2, constantValue := 0 }, { name := "initialIn", type := (.object "java/io/InputStream"), accessFlags := 10, slot := 3, constantValue := 0 }, { name := "NEVER", type := .int, accessFlags := 26, slot := 4, constantValue := 0 }, { name := "MAYBE", type := .int, accessFlags := 26, slot := 5, constantValue := 0 }, { name := "allowSecurityManager", type := .int, accessFlags := 10, slot := 6, constantValue := 0 }, { name := "security", type := (.object "java/lang/SecurityManager"), accessFlags := 74, slot := 7, constantValue := 0 }, { name := "notSupportedJnuEncoding", type := (.object "java/lang/String"), accessFlags := 10, slot := 8, constantValue := 0 }, { name := "cons", type := (.object "java/io/Console"), accessFlags := 74, slot := 9, constantValue := 0 }, { name := "initialErrStream", type := (.object "java/io/PrintStream"), accessFlags := 74, slot := 10, constantValue := 0 }, { name := "props", type := (.object "java/util/Properties"), accessFlags := 10, slot := 11, constantValue := 0 }, { name := "lineSeparator", type := (.object "java/lang/String"), accessFlags := 10, slot := 12, constantValue := 0 }, { name := "bootLayer", type := (.object "java/lang/ModuleLayer"), accessFlags := 8, slot := 13, constantValue := 0 }]
  methods := #[k5m0, k5m1]
  instanceTypes := #[]
  staticTypes := #[(.object "java/io/InputStream"), (.object "java/io/PrintStream"), (.object "java/io/PrintStream"), (.object "java/io/InputStream"), .int, .int, .int, (.object "java/lang/SecurityManager"), (.object "java/lang/String"), (.object "java/io/Console"), (.object "java/io/PrintStream"), (.object "java/util/Properties"), (.object "java/lang/String"), (.object "java/lang/ModuleLayer")]
  resolved := Array.replicate 834 none
  statics := none }

def pool6 : Array CpInfo := pool [(1, u "java/lang/Cloneable"), (0, .class_ 1), (0, u "java/lang/Object"), (0, .class_ 3)] 3

/-- java/lang/Cloneable -/
def k6 : Class := { plain "java/lang/Cloneable" (some 0) with
  accessFlags := 1537
  interfaces := #[]
  cf := some (fileOf pool6 2 #[] #[] 1537 4 #[] #[])
  fields := #[]
  methods := #[]
  instanceTypes := #[]
  staticTypes := #[]
  resolved := Array.replicate 8 none
  statics := none }

def pool7 : Array CpInfo := pool [(1, u "java/io/Serializable"), (0, .class_ 1), (0, u "java/lang/Object"), (0, .class_ 3)] 3

/-- java/io/Serializable -/
def k7 : Class := { plain "java/io/Serializable" (some 0) with
  accessFlags := 1537
  interfaces := #[]
  cf := some (fileOf pool7 2 #[] #[] 1537 4 #[] #[])
  fields := #[]
  methods := #[]
  instanceTypes := #[]
  staticTypes := #[]
  resolved := Array.replicate 8 none
  statics := none }

/-- the primitive byte -/
def k8 : Class := { plain "byte" none with kind := .primitive 'B', accessFlags := 0x411 }
/-- [B -/
def k9 : Class := { plain "[B" (some 0) with kind := .array 8 .byte, interfaces := #[6, 7], accessFlags := 1041 }

/-- the primitive int -/
def k10 : Class := { plain "int" none with kind := .primitive 'I', accessFlags := 0x411 }
/-- [I -/
def k11 : Class := { plain "[I" (some 0) with kind := .array 10 .int, interfaces := #[6, 7], accessFlags := 1041 }

def heap : Heap := #[]
def classes : Array Class := #[k0, k1, k2, k3, k4, k5, k6, k7, k8, k9, k10, k11]
def interned : List (Array UInt16 × Addr) := []
def slotsUsed : Nat := 0
def theMethod : MethodId := ⟨1, 1⟩
def args0 : Array Value := #[.int 5, .int 3, .int 3, .int 3, .long 3, .int 3]
def aboutOver (below : List Frame) : State where
  vm := { classes := classes, interned := interned.toArray }
  heap := heap
  slotsUsed := slotsUsed
  threads := #[{ frames := .invoking theMethod args0 :: below }]
def below0 : List Frame := [.native { method := ⟨0, 0⟩, args := #[] }]
def about1 : State := aboutOver below0
def p0 : Program := .bare "" "" ""
def e0 : Env := launch0.env 0 0 0
theorem w_frames : about1.frames = Frame.invoking theMethod args0 :: below0 := rfl
set_option maxRecDepth 65536 in
theorem w_args : argsFit about1.vm theMethod args0 = true := by decide +kernel
set_option maxRecDepth 65536 in
theorem w_heap : heapFits about1 = true := by decide +kernel
set_option maxRecDepth 65536 in
theorem w_runnable : about1.curStatus? = some .runnable := by decide +kernel
set_option maxRecDepth 65536 in
theorem w_alone : about1.alone = true := by decide +kernel
set_option maxRecDepth 65536 in
theorem w_named : about1.methodNamed? x = some theMethod := by decide +kernel
set_option maxRecDepth 65536 in
theorem w_hears : about1.hears theMethod below0 = true := by decide +kernel
set_option maxRecDepth 65536 in
theorem w_ripe : about1.ripe theMethod args0 below0 = true := by decide +kernel
theorem w_running : about1.status = .running := rfl
set_option maxRecDepth 65536 in
theorem w_room : about1.hasRoom e0.platform room_1 = true :=
  launch0.hasRoom_least _ room_1 (by decide +kernel) (by decide +kernel) (by decide +kernel) (by decide +kernel) (by decide +kernel) (by decide +kernel)
theorem allAtoms_all (ts : List Jvm.Cond) (a : Array Jvm.Value) (st : Jvm.State) : (allAtoms ts).before a st = ts.all (fun c => c.before a st) := by
  induction ts with
  | nil => rfl
  | cons c t ih =>
    show (Jvm.Cond.and c (allAtoms t)).before a st = _
    rw [Jvm.Cond.before_and, ih, List.all_cons]
def words1 : List Jvm.Cond := Jvm.Cond.code x code maxLocals ret :: tables_1
/-- a 'code' word, met by the world's own term for the bytes: nothing is compared byte by byte -/
theorem code_word {y : MethodName} {bytes : ByteArray} {mx : Nat} {rt : Option FieldType} {a : Array Value} {s : State} {m : MethodId} {meth : Method} {c : Code} (h1 : s.methodNamed? y = some m) (h2 : s.vm.method? m = some meth) (h3 : meth.code = some c) (h4 : c.code = bytes)
    (h5 : (c.maxLocals == mx && c.exceptionTable.isEmpty && decide (c.maxStack ≤ mostOperands) && decide (meth.sig.returnType = rt) && !meth.locks && decide (parseMethodDescriptor y.desc = some meth.sig)) = true) : (Jvm.Cond.code y bytes mx rt).before a s = true := by
  simp only [Bool.and_eq_true, beq_iff_eq, Bool.not_eq_true', decide_eq_true_eq] at h5
  obtain ⟨⟨⟨⟨⟨g1, g2⟩, g3⟩, g4⟩, g5⟩, g6⟩ := h5
  simp [Cond.before, Cond.holds, Cond.value, h1, h2, h3, h4, g1, g2, g3, g4, g5, g6]
def isCode : Jvm.Cond → Bool
  | .code _ _ _ _ => true
  | _ => false
theorem all_split {L : List Jvm.Cond} {P : Jvm.Cond → Bool} (h1 : L.all (fun c => isCode c || P c) = true) (h2 : ∀ c ∈ L.filter isCode, P c = true) : L.all P = true := by
  refine List.all_eq_true.mpr fun c hc => ?_
  have h := List.all_eq_true.mp h1 c hc
  rcases Bool.eq_false_or_eq_true (isCode c) with hi | hi
  · exact h2 c (List.mem_filter.mpr ⟨hc, hi⟩)
  · simpa [hi] using h
set_option maxRecDepth 65536 in
theorem w_c0 : (Jvm.Cond.code x code maxLocals ret).before args0 about1 = true := code_word (m := ⟨1, 1⟩) (meth := k1m1) (c := k1c1) (by decide +kernel) rfl rfl rfl (by decide +kernel)
set_option maxRecDepth 65536 in
theorem w_c1 : (Jvm.Cond.code ({ cls := "com/example/plebiscite/plebiscite/Adjacency", name := "<init>", desc := "(II)V" } : Jvm.MethodName) prog_2_method_2_code (3 : Nat) (Option.none : Option Jvm.ClassFile.FieldType)).before args0 about1 = true := code_word (m := ⟨2, 1⟩) (meth := k2m1) (c := k2c1) (by decide +kernel) rfl rfl rfl (by decide +kernel)
set_option maxRecDepth 65536 in
theorem w_c2 : (Jvm.Cond.code ({ cls := "java/lang/Object", name := "<init>", desc := "()V" } : Jvm.MethodName) object_method_1_code (1 : Nat) (Option.none : Option Jvm.ClassFile.FieldType)).before args0 about1 = true := code_word (m := ⟨0, 0⟩) (meth := k0m0) (c := k0c0) (by decide +kernel) rfl rfl rfl (by decide +kernel)
set_option maxRecDepth 65536 in
theorem w_c3 : (Jvm.Cond.code ({ cls := "com/example/plebiscite/plebiscite/Adjacency", name := "add", desc := "(II)V" } : Jvm.MethodName) prog_2_method_16_code (4 : Nat) (Option.none : Option Jvm.ClassFile.FieldType)).before args0 about1 = true := code_word (m := ⟨2, 8⟩) (meth := k2m8) (c := k2c8) (by decide +kernel) rfl rfl rfl (by decide +kernel)
set_option maxRecDepth 65536 in
theorem w_c4 : (Jvm.Cond.code ({ cls := "com/example/plebiscite/plebiscite/Adjacency", name := "append", desc := "(I)I" } : Jvm.MethodName) prog_2_method_19_code (2 : Nat) (Option.some Jvm.ClassFile.FieldType.int)).before args0 about1 = true := code_word (m := ⟨2, 11⟩) (meth := k2m11) (c := k2c11) (by decide +kernel) rfl rfl rfl (by decide +kernel)
set_option maxRecDepth 65536 in
theorem w_c5 : (Jvm.Cond.code ({ cls := "com/example/plebiscite/plebiscite/Adjacency", name := "growBlock", desc := "(I)V" } : Jvm.MethodName) prog_2_method_20_code (5 : Nat) (Option.none : Option Jvm.ClassFile.FieldType)).before args0 about1 = true := code_word (m := ⟨2, 12⟩) (meth := k2m12) (c := k2c12) (by decide +kernel) rfl rfl rfl (by decide +kernel)
set_option maxRecDepth 65536 in
theorem w_c6 : (Jvm.Cond.code ({ cls := "java/lang/Math", name := "max", desc := "(II)I" } : Jvm.MethodName) jdk_29_method_65_code (2 : Nat) (Option.some Jvm.ClassFile.FieldType.int)).before args0 about1 = true := code_word (m := ⟨3, 1⟩) (meth := k3m1) (c := k3c1) (by decide +kernel) rfl rfl rfl (by decide +kernel)
set_option maxRecDepth 65536 in
theorem w_c7 : (Jvm.Cond.code ({ cls := "com/example/plebiscite/plebiscite/Adjacency", name := "makeRoom", desc := "(I)Z" } : Jvm.MethodName) prog_2_method_21_code (8 : Nat) (Option.some Jvm.ClassFile.FieldType.boolean)).before args0 about1 = true := code_word (m := ⟨2, 13⟩) (meth := k2m13) (c := k2c13) (by decide +kernel) rfl rfl rfl (by decide +kernel)
set_option maxRecDepth 65536 in
theorem w_c8 : (Jvm.Cond.code ({ cls := "com/example/plebiscite/plebiscite/Adjacency", name := "remove", desc := "(II)V" } : Jvm.MethodName) prog_2_method_18_code (4 : Nat) (Option.none : Option Jvm.ClassFile.FieldType)).before args0 about1 = true := code_word (m := ⟨2, 10⟩) (meth := k2m10) (c := k2c10) (by decide +kernel) rfl rfl rfl (by decide +kernel)
set_option maxRecDepth 65536 in
theorem w_c9 : (Jvm.Cond.code ({ cls := "com/example/plebiscite/plebiscite/Adjacency", name := "degree", desc := "(I)I" } : Jvm.MethodName) prog_2_method_10_code (2 : Nat) (Option.some Jvm.ClassFile.FieldType.int)).before args0 about1 = true := code_word (m := ⟨2, 4⟩) (meth := k2m4) (c := k2c4) (by decide +kernel) rfl rfl rfl (by decide +kernel)
set_option maxRecDepth 65536 in
theorem w_c10 : (Jvm.Cond.code ({ cls := "com/example/plebiscite/plebiscite/Adjacency", name := "size", desc := "()I" } : Jvm.MethodName) prog_2_method_9_code (1 : Nat) (Option.some Jvm.ClassFile.FieldType.int)).before args0 about1 = true := code_word (m := ⟨2, 3⟩) (meth := k2m3) (c := k2c3) (by decide +kernel) rfl rfl rfl (by decide +kernel)
set_option maxRecDepth 65536 in
theorem w_c11 : (Jvm.Cond.code ({ cls := "com/example/plebiscite/plebiscite/Adjacency", name := "begin", desc := "(I)I" } : Jvm.MethodName) prog_2_method_11_code (2 : Nat) (Option.some Jvm.ClassFile.FieldType.int)).before args0 about1 = true := code_word (m := ⟨2, 5⟩) (meth := k2m5) (c := k2c5) (by decide +kernel) rfl rfl rfl (by decide +kernel)
set_option maxRecDepth 65536 in
theorem w_c12 : (Jvm.Cond.code ({ cls := "com/example/plebiscite/plebiscite/Adjacency", name := "paired", desc := "(I)Lcom/example/plebiscite/plebiscite/Adjacency;" } : Jvm.MethodName) prog_2_method_7_code (2 : Nat) (Option.some (Jvm.ClassFile.FieldType.object "com/example/plebiscite/plebiscite/Adjacency"))).before args0 about1 = true := code_word (m := ⟨2, 2⟩) (meth := k2m2) (c := k2c2) (by decide +kernel) rfl rfl rfl (by decide +kernel)
set_option maxRecDepth 65536 in
theorem w_c13 : (Jvm.Cond.code ({ cls := "com/example/plebiscite/plebiscite/Adjacency", name := "<init>", desc := "(I)V" } : Jvm.MethodName) prog_2_method_1_code (2 : Nat) (Option.none : Option Jvm.ClassFile.FieldType)).before args0 about1 = true := code_word (m := ⟨2, 0⟩) (meth := k2m0) (c := k2c0) (by decide +kernel) rfl rfl rfl (by decide +kernel)
set_option maxRecDepth 65536 in
theorem w_c14 : (Jvm.Cond.code ({ cls := "com/example/plebiscite/plebiscite/Adjacency", name := "add", desc := "(III)V" } : Jvm.MethodName) prog_2_method_17_code (5 : Nat) (Option.none : Option Jvm.ClassFile.FieldType)).before args0 about1 = true := code_word (m := ⟨2, 9⟩) (meth := k2m9) (c := k2c9) (by decide +kernel) rfl rfl rfl (by decide +kernel)
set_option maxRecDepth 65536 in
theorem w_c15 : (Jvm.Cond.code ({ cls := "java/lang/Math", name := "max", desc := "(JJ)J" } : Jvm.MethodName) jdk_29_method_66_code (4 : Nat) (Option.some Jvm.ClassFile.FieldType.long)).before args0 about1 = true := code_word (m := ⟨3, 2⟩) (meth := k3m2) (c := k3c2) (by decide +kernel) rfl rfl rfl (by decide +kernel)
set_option maxRecDepth 65536 in
theorem w_c16 : (Jvm.Cond.code ({ cls := "java/lang/Math", name := "min", desc := "(JJ)J" } : Jvm.MethodName) jdk_29_method_70_code (4 : Nat) (Option.some Jvm.ClassFile.FieldType.long)).before args0 about1 = true := code_word (m := ⟨3, 4⟩) (meth := k3m4) (c := k3c4) (by decide +kernel) rfl rfl rfl (by decide +kernel)
set_option maxRecDepth 65536 in
theorem w_c17 : (Jvm.Cond.code ({ cls := "java/util/Arrays", name := "copyOf", desc := "([II)[I" } : Jvm.MethodName) jdk_65_method_123_code (3 : Nat) (Option.some (Jvm.ClassFile.FieldType.array Jvm.ClassFile.FieldType.int))).before args0 about1 = true := code_word (m := ⟨4, 1⟩) (meth := k4m1) (c := k4c1) (by decide +kernel) rfl rfl rfl (by decide +kernel)
set_option maxRecDepth 65536 in
theorem w_c18 : (Jvm.Cond.code ({ cls := "java/lang/Math", name := "min", desc := "(II)I" } : Jvm.MethodName) jdk_29_method_69_code (2 : Nat) (Option.some Jvm.ClassFile.FieldType.int)).before args0 about1 = true := code_word (m := ⟨3, 3⟩) (meth := k3m3) (c := k3c3) (by decide +kernel) rfl rfl rfl (by decide +kernel)
set_option maxRecDepth 65536 in
theorem w_c19 : (Jvm.Cond.code ({ cls := "com/example/plebiscite/plebiscite/Adjacency", name := "item", desc := "(I)I" } : Jvm.MethodName) prog_2_method_13_code (2 : Nat) (Option.some Jvm.ClassFile.FieldType.int)).before args0 about1 = true := code_word (m := ⟨2, 6⟩) (meth := k2m6) (c := k2c6) (by decide +kernel) rfl rfl rfl (by decide +kernel)
set_option maxRecDepth 65536 in
theorem w_c20 : (Jvm.Cond.code ({ cls := "com/example/plebiscite/plebiscite/Adjacency", name := "slot", desc := "(I)I" } : Jvm.MethodName) prog_2_method_14_code (2 : Nat) (Option.some Jvm.ClassFile.FieldType.int)).before args0 about1 = true := code_word (m := ⟨2, 7⟩) (meth := k2m7) (c := k2c7) (by decide +kernel) rfl rfl rfl (by decide +kernel)
def codes1 : List Jvm.Cond := [Jvm.Cond.code x code maxLocals ret, Jvm.Cond.code ({ cls := "com/example/plebiscite/plebiscite/Adjacency", name := "<init>", desc := "(II)V" } : Jvm.MethodName) prog_2_method_2_code (3 : Nat) (Option.none : Option Jvm.ClassFile.FieldType), Jvm.Cond.code ({ cls := "java/lang/Object", name := "<init>", desc := "()V" } : Jvm.MethodName) object_method_1_code (1 : Nat) (Option.none : Option Jvm.ClassFile.FieldType), Jvm.Cond.code ({ cls := "com/example/plebiscite/plebiscite/Adjacency", name := "add", desc := "(II)V" } : Jvm.MethodName) prog_2_method_16_code (4 : Nat) (Option.none : Option Jvm.ClassFile.FieldType), Jvm.Cond.code ({ cls := "com/example/plebiscite/plebiscite/Adjacency", name := "append", desc := "(I)I" } : Jvm.MethodName) prog_2_method_19_code (2 : Nat) (Option.some Jvm.ClassFile.FieldType.int), Jvm.Cond.code ({ cls := "com/example/plebiscite/plebiscite/Adjacency", name := "growBlock", desc := "(I)V" } : Jvm.MethodName) prog_2_method_20_code (5 : Nat) (Option.none : Option Jvm.ClassFile.FieldType), Jvm.Cond.code ({ cls := "java/lang/Math", name := "max", desc := "(II)I" } : Jvm.MethodName) jdk_29_method_65_code (2 : Nat) (Option.some Jvm.ClassFile.FieldType.int), Jvm.Cond.code ({ cls := "com/example/plebiscite/plebiscite/Adjacency", name := "makeRoom", desc := "(I)Z" } : Jvm.MethodName) prog_2_method_21_code (8 : Nat) (Option.some Jvm.ClassFile.FieldType.boolean), Jvm.Cond.code ({ cls := "com/example/plebiscite/plebiscite/Adjacency", name := "remove", desc := "(II)V" } : Jvm.MethodName) prog_2_method_18_code (4 : Nat) (Option.none : Option Jvm.ClassFile.FieldType), Jvm.Cond.code ({ cls := "com/example/plebiscite/plebiscite/Adjacency", name := "degree", desc := "(I)I" } : Jvm.MethodName) prog_2_method_10_code (2 : Nat) (Option.some Jvm.ClassFile.FieldType.int), Jvm.Cond.code ({ cls := "com/example/plebiscite/plebiscite/Adjacency", name := "size", desc := "()I" } : Jvm.MethodName) prog_2_method_9_code (1 : Nat) (Option.some Jvm.ClassFile.FieldType.int), Jvm.Cond.code ({ cls := "com/example/plebiscite/plebiscite/Adjacency", name := "begin", desc := "(I)I" } : Jvm.MethodName) prog_2_method_11_code (2 : Nat) (Option.some Jvm.ClassFile.FieldType.int), Jvm.Cond.code ({ cls := "com/example/plebiscite/plebiscite/Adjacency", name := "paired", desc := "(I)Lcom/example/plebiscite/plebiscite/Adjacency;" } : Jvm.MethodName) prog_2_method_7_code (2 : Nat) (Option.some (Jvm.ClassFile.FieldType.object "com/example/plebiscite/plebiscite/Adjacency")), Jvm.Cond.code ({ cls := "com/example/plebiscite/plebiscite/Adjacency", name := "<init>", desc := "(I)V" } : Jvm.MethodName) prog_2_method_1_code (2 : Nat) (Option.none : Option Jvm.ClassFile.FieldType), Jvm.Cond.code ({ cls := "com/example/plebiscite/plebiscite/Adjacency", name := "add", desc := "(III)V" } : Jvm.MethodName) prog_2_method_17_code (5 : Nat) (Option.none : Option Jvm.ClassFile.FieldType), Jvm.Cond.code ({ cls := "java/lang/Math", name := "max", desc := "(JJ)J" } : Jvm.MethodName) jdk_29_method_66_code (4 : Nat) (Option.some Jvm.ClassFile.FieldType.long), Jvm.Cond.code ({ cls := "java/lang/Math", name := "min", desc := "(JJ)J" } : Jvm.MethodName) jdk_29_method_70_code (4 : Nat) (Option.some Jvm.ClassFile.FieldType.long), Jvm.Cond.code ({ cls := "java/util/Arrays", name := "copyOf", desc := "([II)[I" } : Jvm.MethodName) jdk_65_method_123_code (3 : Nat) (Option.some (Jvm.ClassFile.FieldType.array Jvm.ClassFile.FieldType.int)), Jvm.Cond.code ({ cls := "java/lang/Math", name := "min", desc := "(II)I" } : Jvm.MethodName) jdk_29_method_69_code (2 : Nat) (Option.some Jvm.ClassFile.FieldType.int), Jvm.Cond.code ({ cls := "com/example/plebiscite/plebiscite/Adjacency", name := "item", desc := "(I)I" } : Jvm.MethodName) prog_2_method_13_code (2 : Nat) (Option.some Jvm.ClassFile.FieldType.int), Jvm.Cond.code ({ cls := "com/example/plebiscite/plebiscite/Adjacency", name := "slot", desc := "(I)I" } : Jvm.MethodName) prog_2_method_14_code (2 : Nat) (Option.some Jvm.ClassFile.FieldType.int)]
set_option maxRecDepth 65536 in
theorem codes_eq : words1.filter isCode = codes1 := rfl
theorem w_codes : ∀ c ∈ words1.filter isCode, c.before args0 about1 = true := by
  rw [codes_eq]
  intro c hc
  simp only [codes1, List.mem_cons, List.not_mem_nil, or_false] at hc
  rcases hc with rfl | rfl | rfl | rfl | rfl | rfl | rfl | rfl | rfl | rfl | rfl | rfl | rfl | rfl | rfl | rfl | rfl | rfl | rfl | rfl | rfl
  · exact w_c0
  · exact w_c1
  · exact w_c2
  · exact w_c3
  · exact w_c4
  · exact w_c5
  · exact w_c6
  · exact w_c7
  · exact w_c8
  · exact w_c9
  · exact w_c10
  · exact w_c11
  · exact w_c12
  · exact w_c13
  · exact w_c14
  · exact w_c15
  · exact w_c16
  · exact w_c17
  · exact w_c18
  · exact w_c19
  · exact w_c20
set_option maxRecDepth 65536 in
theorem w_t1 : (words1.take 24).all (fun c => isCode c || c.before args0 about1) = true := by decide +kernel
set_option maxRecDepth 65536 in
theorem w_t2 : ((words1.drop 24).take 24).all (fun c => isCode c || c.before args0 about1) = true := by decide +kernel
set_option maxRecDepth 65536 in
theorem w_t3 : (((words1.drop 24).drop 24).take 24).all (fun c => isCode c || c.before args0 about1) = true := by decide +kernel
set_option maxRecDepth 65536 in
theorem w_t4 : ((((words1.drop 24).drop 24).drop 24).take 24).all (fun c => isCode c || c.before args0 about1) = true := by decide +kernel
set_option maxRecDepth 65536 in
theorem w_t5 : ((((words1.drop 24).drop 24).drop 24).drop 24).all (fun c => isCode c || c.before args0 about1) = true := by decide +kernel
theorem w_tables : (allAtoms (Jvm.Cond.code x code maxLocals ret :: tables_1)).before args0 about1 = true := by
  rw [allAtoms_all]
  show words1.all (fun c => c.before args0 about1) = true
  refine all_split ?_ w_codes
  rw [← List.take_append_drop 24 words1, List.all_append, w_t1, ← List.take_append_drop 24 (words1.drop 24), List.all_append, w_t2, ← List.take_append_drop 24 ((words1.drop 24).drop 24), List.all_append, w_t3, ← List.take_append_drop 24 (((words1.drop 24).drop 24).drop 24), List.all_append, w_t4, w_t5]
  rfl
set_option maxRecDepth 65536 in
theorem w_case : (Jvm.Cond.and given_1 narrow_1).before args0 about1 = true := by decide +kernel
theorem w_applies : (headSpec (Jvm.Cond.code x code maxLocals ret :: tables_1) room_1).applies x e0.platform about1 = true :=
  (Spec.applies_iff w_frames).mpr ⟨w_running, w_runnable, w_alone, w_named, w_hears, w_ripe, w_room, w_tables⟩
theorem atStart : AtStart classFile x code maxLocals ret World_1 tables_1 room_1 Calls_1 rest_1 Pre_1 launch0 p0 e0 about1 theMethod args0 below0 :=
  ⟨lists_1, trivial, launch0.admits_env _ _ _, launch0.least_env, fairChoices_fair.cas, fairChoices_fair.clock, w_frames, w_args, w_heap, w_applies, trivial, trivial, w_case⟩
end start1
theorem witness_1 : WitnessClaimed_1 := ⟨start1.p0, start1.e0, start1.about1, start1.theMethod, start1.args0, start1.below0, start1.atStart⟩
end Jvm.Pilot.@@N@@
