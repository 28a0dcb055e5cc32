import JvmDerived
import JvmDerived.Pilot.@@N@@Statement
import JvmDerived.Pilot.@@N@@Code
set_option linter.unusedVariables false
set_option linter.unusedSimpArgs false
namespace Jvm.RoadKit
open Sem ClassFile Op Lib Jvm.Stand Jvm.Free Jvm.LawKit
section New
variable {p : Program} {l : Launch} {e : Env} {R : Room} {s : State} {m : MethodId} {args : Array Value} {below : List Frame} {meth : Method} {c : Code} {T : State} {locs : List Loc} {cells slots : Nat}
theorem retI (X : Stand p l e R s m args below meth c T locs cells slots) (hx : p.tables.exec = Jvm.exec) {pc : Nat} {Ls : Array Slot} {z : Int32} {rest : List Value} (hret : meth.sig.returnType = some .int) (hd : decode c.code pc = .ok (.ireturn, 1)) {fs : List Frame}
    (hl : ∀ (f : JFrame) (acts : List Action), f.method = m → f.locked = none → f.entered = [] → (doReturn e (T.setTop f) acts (some (.int z))).1 = T.setFrames fs) : Steps p.tables e below (T.setTop (mkF m pc Ls (.int z :: rest))) (T.setFrames fs) := by
  have hm' : T.vm.method? m = some meth := X.method'
  have hn : narrow .int (.int z) = .int z := rfl
  show Steps p.tables e below (T.setTop { method := m, pc := pc, locals := Ls, stack := _ :: rest, locked := none }) _
  jvm_step X.here [X.here.top, hx, hd, hm', hret, hn]
  first | (intro acts; rw [hl _ acts rfl rfl rfl]) | rw [hl _ _ rfl rfl rfl]
  exact Steps.refl _
end New
end Jvm.RoadKit
namespace Jvm.Pilot.@@N@@
open Jvm Jvm.ClassFile Sem Op Lib Jvm.Free Jvm.Stand Jvm.LawKit Jvm.RoadKit Bundle Jvm.Pilot.@@N@@.Jvm.D
def own_minL (x y : Int64) : Int64 := if (0 : Int32) < lcmpW x y then y else x
def own_maxL (x y : Int64) : Int64 := if lcmpW x y < (0 : Int32) then y else x
def own_rank (s r m : Int32) : Int32 := if r = (0 : Int32) then (0 : Int32) else if s < m then (if r < m - s then s + r else m) else (0 : Int32)
theorem own_minL_eq (x y : Int64) : (own_minL x y).toInt = if y.toInt < x.toInt then y.toInt else x.toInt := by
  unfold own_minL
  have h := lw_gt x y
  rw [Int64.lt_iff_toInt_lt (x := y) (y := x)] at h
  by_cases q : y.toInt < x.toInt
  · rw [if_pos (h.mpr q), if_pos q]
  · rw [if_neg (fun z => q (h.mp z)), if_neg q]
theorem own_maxL_eq (x y : Int64) : (own_maxL x y).toInt = if x.toInt < y.toInt then y.toInt else x.toInt := by
  unfold own_maxL
  have h := lw_lt x y
  rw [Int64.lt_iff_toInt_lt (x := x) (y := y)] at h
  by_cases q : x.toInt < y.toInt
  · rw [if_pos (h.mpr q), if_pos q]
  · rw [if_neg (fun z => q (h.mp z)), if_neg q]
theorem own_rank_eq (s r m : Int32) (hs : 0 ≤ s.toInt) (hr : 0 ≤ r.toInt) (hm : 0 ≤ m.toInt) :
    (own_rank s r m).toInt = if r.toInt = 0 then 0 else if s.toInt < m.toInt then (if r.toInt < m.toInt - s.toInt then s.toInt + r.toInt else m.toInt) else 0 := by
  unfold own_rank
  have a1 := rng32 s
  have a2 := rng32 r
  have a3 := rng32 m
  have z0 : (0 : Int32).toInt = 0 := rfl
  by_cases q : r = (0 : Int32)
  · rw [if_pos q, if_pos (by rw [q]; rfl)]; rfl
  · have q' : ¬ r.toInt = 0 := fun z => q (by rw [← Int32.toInt_inj, z]; rfl)
    rw [if_neg q, if_neg q']
    by_cases q2 : s < m
    · have q2' := Int32.lt_iff_toInt_lt.mp q2
      rw [if_pos q2, if_pos q2']
      have e1 : (m - s).toInt = m.toInt - s.toInt := by have := c_isub m s; have := rng32 (m - s); omega
      by_cases q3 : r < m - s
      · have q3' := Int32.lt_iff_toInt_lt.mp q3
        rw [e1] at q3'
        rw [if_pos q3, if_pos q3']
        have := c_iadd s r; have := rng32 (s + r); omega
      · have q3' : ¬ r.toInt < m.toInt - s.toInt := fun z => q3 (Int32.lt_iff_toInt_lt.mpr (by rw [e1]; exact z))
        rw [if_neg q3, if_neg q3']
    · have q2' : ¬ s.toInt < m.toInt := fun z => q2 (Int32.lt_iff_toInt_lt.mpr z)
      rw [if_neg q2, if_neg q2']; rfl
theorem own_fin (s r m : Int32) (hs : 0 ≤ s.toInt) (hr : 0 ≤ r.toInt) (hm : 0 ≤ m.toInt) (c : Int64) (hc : c = own_maxL (0 : Int64) ((own_minL (s.toInt64 + r.toInt64) m.toInt64) - s.toInt64)) :
    (c = (0 : Int64) → (own_rank s r m).toInt64 = (0 : Int64)) ∧ (¬ c = (0 : Int64) → (own_rank s r m).toInt64 = s.toInt64 + c) := by
  have a1 := rng32 s
  have a2 := rng32 r
  have a3 := rng32 m
  have z0 : (0 : Int64).toInt = 0 := rfl
  have e1 : (s.toInt64 + r.toInt64).toInt = s.toInt + r.toInt := by
    have h := c_ladd s.toInt64 r.toInt64
    rw [c_i2l, c_i2l] at h
    have := rng64 (s.toInt64 + r.toInt64)
    omega
  have e2 := own_minL_eq (s.toInt64 + r.toInt64) m.toInt64
  rw [e1, c_i2l] at e2
  generalize own_minL (s.toInt64 + r.toInt64) m.toInt64 = w at *
  have e3 : (w - s.toInt64).toInt = w.toInt - s.toInt := by
    have h := c_lsub w s.toInt64
    rw [c_i2l] at h
    have := rng64 (w - s.toInt64)
    split at e2 <;> omega
  have e4 := own_maxL_eq (0 : Int64) (w - s.toInt64)
  rw [← hc, e3, z0] at e4
  have e5 := own_rank_eq s r m hs hr hm
  have e6 : (own_rank s r m).toInt64.toInt = (own_rank s r m).toInt := c_i2l _
  constructor
  · intro q
    have q1 : c.toInt = 0 := by rw [q]; rfl
    rw [← Int64.toInt_inj, e6, e5, z0]
    split at e2 <;> split at e4 <;> (repeat' split) <;> omega
  · intro q
    have q1 : ¬ c.toInt = 0 := fun z => q (by rw [← Int64.toInt_inj, z]; rfl)
    have e7 : (s.toInt64 + c).toInt = s.toInt + c.toInt := by
      have h := c_ladd s.toInt64 c
      rw [c_i2l] at h
      have := rng64 (s.toInt64 + c)
      split at e2 <;> split at e4 <;> omega
    rw [← Int64.toInt_inj, e6, e5, e7]
    split at e2 <;> split at e4 <;> (repeat' split) <;> omega
theorem ef_rec (m : MethodId) (x0 : Addr) : entryFrame m #[(.ref x0)] 1 = mkF m 0 #[rv x0] [] := by first | (simp [entryFrame, mkF, argsToLocals, Value.category]; done) | rfl
theorem pn_0 : plainName "java/lang/Record" = true := by first | (simp [plainName, overriddenIn]; done) | decide +kernel
def Q_rec (Z : State) (o0 : Addr) (h0 : Heap) (n0 : Nat) (v : Option Value) (h : Heap) (L : List Loc) : Prop := v = none ∧ Fr n0 L ∧ h = h0
theorem d0_0 : decode jdk_30_method_1_code 0 = .ok (.aload_n 0, 1) := by decide +kernel
theorem d0_1 : decode jdk_30_method_1_code 1 = .ok (.invokespecial 1, 3) := by decide +kernel
theorem d0_4 : decode jdk_30_method_1_code 4 = .ok (.return_, 1) := by decide +kernel
set_option maxRecDepth 65536 in
set_option maxHeartbeats 40000000 in
theorem rm_rec (l : Launch) (Z : State) (a0 : Array Value) (hw : ∀ d ∈ tables_1, d.before a0 Z = true) (ws : List Jvm.Cond) (o0 : Addr) (h0 : Heap) (n0 : Nat) (Z0 : n0 ≤ h0.size)  :
    MetFree l (⟨"java/lang/Record", "<init>", "()V"⟩ : MethodName) (head1 (Jvm.Cond.code (⟨"java/lang/Record", "<init>", "()V"⟩ : MethodName) jdk_30_method_1_code 1 none :: ws) ({ frames := 1, cells := 0, slots := 0, locals := 12 } : Room)) (fun a U => a = #[(.ref o0)] ∧ Z.Warmed39 U.vm ∧ U.heap = h0) (fun _ _ _ _ _ => True) (fun _ U o U' => ∃ v L, o = .returned v ∧ Q_rec Z o0 h0 n0 v U'.heap L ∧ FrameEnd U o U' L ({ frames := 1, cells := 0, slots := 0, locals := 12 } : Room).cells ({ frames := 1, cells := 0, slots := 0, locals := 12 } : Room).slots) := by
  refine MetFree.of_bodySF (plainFor_of_name pn_0) hisR ?_
  intro p e s m args below meth c s₁ Bd hml0 hP hK
  obtain ⟨rfl, hZ, hh⟩ := hP
  have hx := Bd.exec
  have hby := Bd.bytes
  have hml : c.maxLocals = 1 := hml0
  have hown : s.vm.findClass "java/lang/Record" = some m.cls := findClass_of_methodNamed Bd.named
  have hnm := (name_of_methodNamed Bd.named Bd.method).1
  have X0 : Stand p l e ({ frames := 1, cells := 0, slots := 0, locals := 12 } : Room) s m #[(.ref o0)] below meth c s₁ [] 0 0 := Stand.of_body Bd
  have e0 : s₁.heap = h0 := by rw [← hh, Bd.state]; rfl
  have N0 := Fr.nil n0
  have go0 : ∀ t, Steps p.tables e below (s₁.setTop (mkF m 0 #[rv o0] [])) t → Steps p.tables e below (s₁.setTop (entryFrame m #[(.ref o0)] 1)) t := fun t k => castTop (ef_rec m o0) k
  obtain ⟨O, hO⟩ : ∃ z, z = (s₁.setTop (entryFrame m #[(.ref o0)] 1)) := ⟨_, rfl⟩
  rw [← hO] at go0
  obtain ⟨T101, X101, e101, st101⟩ := initO X0 hx hZ hown (hw _ (List.mem_of_getElem? (i := 12) rfl)) (hw _ (List.mem_of_getElem? (i := 13) rfl)) (hw _ (List.mem_of_getElem? (i := 14) rfl)) e0 (g := (mkF m 1 #[rv o0] [(.ref o0)])) rfl (by rw [hml]; rfl) rfl (hb hby d0_1) (by decide) (W := 0) (by show 2 * 0 + _ ≤ _; exact Nat.le_of_eq rfl) (by decide)
  have go102 : ∀ t, Steps p.tables e below (T101.setTop (mkF m 4 #[rv o0] [])) t → Steps p.tables e below O t := fun t k => go0 t (by
    refine XS.aloadN X0.here hx rfl (hb hby d0_0) rfl rfl ?_
    show Steps _ _ _ (s₁.setTop (mkF m 1 _ [(.ref o0)])) _
    refine st101 _ ?_
    show Steps _ _ _ (T101.setTop (mkF m 4 _ [])) _
    exact k)
  subst hO
  obtain ⟨fs, hr, hrun, hended, hW, hsame⟩ := X101.leave (v := none) (fun _ => rfl)
  refine ⟨_, _, go102 _ ?_, hrun, hended, _, _, rfl, ?_, ⟨_, rfl⟩, hW, hsame.mono (by decide) (by decide)⟩
  · exact X101.returnOut hx Bd.returns (hb hby d0_4) hr
  · show Q_rec Z o0 h0 n0 _ T101.heap _
    rw [e101]
    exact ⟨rfl, N0, rfl⟩
theorem ef_mn (m : MethodId) (x0 : Int64) (x1 : Int64) : entryFrame m #[(.long x0), (.long x1)] 4 = mkF m 0 #[.val (.long x0), .second, .val (.long x1), .second] [] := by first | (simp [entryFrame, mkF, argsToLocals, Value.category]; done) | rfl
def Q_mn (Z : State) (q0 : Int64) (q1 : Int64) (h0 : Heap) (n0 : Nat) (v : Option Value) (h : Heap) (L : List Loc) : Prop := v = some (.long (own_minL q0 q1)) ∧ Fr n0 L ∧ h = h0
theorem d1_0 : decode jdk_29_method_70_code 0 = .ok (.lload_n 0, 1) := by decide +kernel
theorem d1_1 : decode jdk_29_method_70_code 1 = .ok (.lload_n 2, 1) := by decide +kernel
theorem d1_2 : decode jdk_29_method_70_code 2 = .ok (.lcmp, 1) := by decide +kernel
theorem d1_3 : decode jdk_29_method_70_code 3 = .ok (.ifCond .gt 7, 3) := by decide +kernel
theorem d1_10 : decode jdk_29_method_70_code 10 = .ok (.lload_n 2, 1) := by decide +kernel
theorem d1_11 : decode jdk_29_method_70_code 11 = .ok (.lreturn, 1) := by decide +kernel
theorem d1_6 : decode jdk_29_method_70_code 6 = .ok (.lload_n 0, 1) := by decide +kernel
theorem d1_7 : decode jdk_29_method_70_code 7 = .ok (.goto 4, 3) := by decide +kernel
set_option maxRecDepth 65536 in
set_option maxHeartbeats 40000000 in
theorem rm_mn (l : Launch) (Z : State) (a0 : Array Value) (hw : ∀ d ∈ tables_1, d.before a0 Z = true) (ws : List Jvm.Cond) (q0 : Int64) (q1 : Int64) (h0 : Heap) (n0 : Nat) (Z0 : n0 ≤ h0.size)  :
    MetFree l (⟨"java/lang/Math", "min", "(JJ)J"⟩ : MethodName) (head1 (Jvm.Cond.code (⟨"java/lang/Math", "min", "(JJ)J"⟩ : MethodName) jdk_29_method_70_code 4 (some .long) :: ws) ({ frames := 0, cells := 0, slots := 0, locals := 0 } : Room)) (fun a U => a = #[(.long q0), (.long q1)] ∧ Z.Warmed39 U.vm ∧ U.heap = h0) (fun _ _ _ _ _ => True) (fun _ U o U' => ∃ v L, o = .returned v ∧ Q_mn Z q0 q1 h0 n0 v U'.heap L ∧ FrameEnd U o U' L ({ frames := 0, cells := 0, slots := 0, locals := 0 } : Room).cells ({ frames := 0, cells := 0, slots := 0, locals := 0 } : Room).slots) := by
  refine MetFree.of_bodySF (Jvm.Free.JP.mathPlain rfl (by decide +kernel)) hisR ?_
  intro p e s m args below meth c s₁ Bd hml0 hP hK
  obtain ⟨rfl, hZ, hh⟩ := hP
  have hx := Bd.exec
  have hby := Bd.bytes
  have hml : c.maxLocals = 4 := hml0
  have hown : s.vm.findClass "java/lang/Math" = some m.cls := findClass_of_methodNamed Bd.named
  have hnm := (name_of_methodNamed Bd.named Bd.method).1
  have X0 : Stand p l e ({ frames := 0, cells := 0, slots := 0, locals := 0 } : Room) s m #[(.long q0), (.long q1)] below meth c s₁ [] 0 0 := Stand.of_body Bd
  have e0 : s₁.heap = h0 := by rw [← hh, Bd.state]; rfl
  have N0 := Fr.nil n0
  have go0 : ∀ t, Steps p.tables e below (s₁.setTop (mkF m 0 #[.val (.long q0), .second, .val (.long q1), .second] [])) t → Steps p.tables e below (s₁.setTop (entryFrame m #[(.long q0), (.long q1)] 4)) t := fun t k => castTop (ef_mn m q0 q1) k
  obtain ⟨O, hO⟩ : ∃ z, z = (s₁.setTop (entryFrame m #[(.long q0), (.long q1)] 4)) := ⟨_, rfl⟩
  rw [← hO] at go0
  have go101 : ∀ t, Steps p.tables e below (s₁.setTop (mkF m 3 #[.val (.long q0), .second, .val (.long q1), .second] [(.int (lcmpW q0 q1))])) t → Steps p.tables e below O t := fun t k => go0 t (by
    refine XS.lloadN X0.here hx rfl (hb hby d1_0) rfl ?_
    show Steps _ _ _ (s₁.setTop (mkF m 1 _ [(.long q0)])) _
    refine XS.lloadN X0.here hx rfl (hb hby d1_1) rfl ?_
    show Steps _ _ _ (s₁.setTop (mkF m 2 _ [(.long q1), (.long q0)])) _
    refine XS.lcmp X0.here hx rfl (hb hby d1_2) rfl ?_
    show Steps _ _ _ (s₁.setTop (mkF m 3 _ [(.int (lcmpW q0 q1))])) _
    exact k)
  by_cases hc : (0 : Int32) < (lcmpW q0 q1)
  · have go102 : ∀ t, Steps p.tables e below (s₁.setTop (mkF m 11 #[.val (.long q0), .second, .val (.long q1), .second] [(.long q1)])) t → Steps p.tables e below O t := fun t k => go101 t (by
      refine XS.ifYes X0.here hx rfl (pc0 := 3) (pc' := 10) rfl (hb hby d1_3) rfl ((if0 _ _).trans (tlt (hc : (0 : Int32) < (lcmpW q0 q1))).2.2.1) (by decide) (by decide) ?_
      show Steps _ _ _ (s₁.setTop (mkF m 10 _ [])) _
      refine XS.lloadN X0.here hx rfl (hb hby d1_10) rfl ?_
      show Steps _ _ _ (s₁.setTop (mkF m 11 _ [(.long q1)])) _
      exact k)
    subst hO
    obtain ⟨fs, hr, hrun, hended, hW, hsame⟩ := X0.leave (v := some (.long q1)) (fun h => by rw [Bd.returns] at h; cases h)
    refine ⟨_, _, go102 _ ?_, hrun, hended, _, _, rfl, ?_, ⟨_, rfl⟩, hW, hsame.mono (by decide) (by decide)⟩
    · exact X0.lreturnOut hx Bd.returns (hb hby d1_11) hr
    · show Q_mn Z q0 q1 h0 n0 _ s₁.heap _
      rw [e0]
      exact ⟨by unfold own_minL; rw [if_pos hc], N0, rfl⟩
  · have go104 : ∀ t, Steps p.tables e below (s₁.setTop (mkF m 11 #[.val (.long q0), .second, .val (.long q1), .second] [(.long q0)])) t → Steps p.tables e below O t := fun t k => go101 t (by
      refine XS.ifNo X0.here hx rfl (hb hby d1_3) rfl ((if0 _ _).trans (flt (hc : ¬ ((0 : Int32) < (lcmpW q0 q1)))).2.2.1) ?_
      show Steps _ _ _ (s₁.setTop (mkF m 6 _ [])) _
      refine XS.lloadN X0.here hx rfl (hb hby d1_6) rfl ?_
      show Steps _ _ _ (s₁.setTop (mkF m 7 _ [(.long q0)])) _
      refine XS.goto X0.here hx rfl (pc0 := 7) (pc' := 11) rfl (hb hby d1_7) (by decide) (by decide) ?_
      show Steps _ _ _ (s₁.setTop (mkF m 11 _ [(.long q0)])) _
      exact k)
    subst hO
    obtain ⟨fs, hr, hrun, hended, hW, hsame⟩ := X0.leave (v := some (.long q0)) (fun h => by rw [Bd.returns] at h; cases h)
    refine ⟨_, _, go104 _ ?_, hrun, hended, _, _, rfl, ?_, ⟨_, rfl⟩, hW, hsame.mono (by decide) (by decide)⟩
    · exact X0.lreturnOut hx Bd.returns (hb hby d1_11) hr
    · show Q_mn Z q0 q1 h0 n0 _ s₁.heap _
      rw [e0]
      exact ⟨by unfold own_minL; rw [if_neg hc], N0, rfl⟩
theorem ef_mx (m : MethodId) (x0 : Int64) (x1 : Int64) : entryFrame m #[(.long x0), (.long x1)] 4 = mkF m 0 #[.val (.long x0), .second, .val (.long x1), .second] [] := by first | (simp [entryFrame, mkF, argsToLocals, Value.category]; done) | rfl
def Q_mx (Z : State) (q0 : Int64) (q1 : Int64) (h0 : Heap) (n0 : Nat) (v : Option Value) (h : Heap) (L : List Loc) : Prop := v = some (.long (own_maxL q0 q1)) ∧ Fr n0 L ∧ h = h0
theorem d2_0 : decode jdk_29_method_66_code 0 = .ok (.lload_n 0, 1) := by decide +kernel
theorem d2_1 : decode jdk_29_method_66_code 1 = .ok (.lload_n 2, 1) := by decide +kernel
theorem d2_2 : decode jdk_29_method_66_code 2 = .ok (.lcmp, 1) := by decide +kernel
theorem d2_3 : decode jdk_29_method_66_code 3 = .ok (.ifCond .lt 7, 3) := by decide +kernel
theorem d2_10 : decode jdk_29_method_66_code 10 = .ok (.lload_n 2, 1) := by decide +kernel
theorem d2_11 : decode jdk_29_method_66_code 11 = .ok (.lreturn, 1) := by decide +kernel
theorem d2_6 : decode jdk_29_method_66_code 6 = .ok (.lload_n 0, 1) := by decide +kernel
theorem d2_7 : decode jdk_29_method_66_code 7 = .ok (.goto 4, 3) := by decide +kernel
set_option maxRecDepth 65536 in
set_option maxHeartbeats 40000000 in
theorem rm_mx (l : Launch) (Z : State) (a0 : Array Value) (hw : ∀ d ∈ tables_1, d.before a0 Z = true) (ws : List Jvm.Cond) (q0 : Int64) (q1 : Int64) (h0 : Heap) (n0 : Nat) (Z0 : n0 ≤ h0.size)  :
    MetFree l (⟨"java/lang/Math", "max", "(JJ)J"⟩ : MethodName) (head1 (Jvm.Cond.code (⟨"java/lang/Math", "max", "(JJ)J"⟩ : MethodName) jdk_29_method_66_code 4 (some .long) :: ws) ({ frames := 0, cells := 0, slots := 0, locals := 0 } : Room)) (fun a U => a = #[(.long q0), (.long q1)] ∧ Z.Warmed39 U.vm ∧ U.heap = h0) (fun _ _ _ _ _ => True) (fun _ U o U' => ∃ v L, o = .returned v ∧ Q_mx Z q0 q1 h0 n0 v U'.heap L ∧ FrameEnd U o U' L ({ frames := 0, cells := 0, slots := 0, locals := 0 } : Room).cells ({ frames := 0, cells := 0, slots := 0, locals := 0 } : Room).slots) := by
  refine MetFree.of_bodySF (Jvm.Free.JP.mathPlain rfl (by decide +kernel)) hisR ?_
  intro p e s m args below meth c s₁ Bd hml0 hP hK
  obtain ⟨rfl, hZ, hh⟩ := hP
  have hx := Bd.exec
  have hby := Bd.bytes
  have hml : c.maxLocals = 4 := hml0
  have hown : s.vm.findClass "java/lang/Math" = some m.cls := findClass_of_methodNamed Bd.named
  have hnm := (name_of_methodNamed Bd.named Bd.method).1
  have X0 : Stand p l e ({ frames := 0, cells := 0, slots := 0, locals := 0 } : Room) s m #[(.long q0), (.long q1)] below meth c s₁ [] 0 0 := Stand.of_body Bd
  have e0 : s₁.heap = h0 := by rw [← hh, Bd.state]; rfl
  have N0 := Fr.nil n0
  have go0 : ∀ t, Steps p.tables e below (s₁.setTop (mkF m 0 #[.val (.long q0), .second, .val (.long q1), .second] [])) t → Steps p.tables e below (s₁.setTop (entryFrame m #[(.long q0), (.long q1)] 4)) t := fun t k => castTop (ef_mx m q0 q1) k
  obtain ⟨O, hO⟩ : ∃ z, z = (s₁.setTop (entryFrame m #[(.long q0), (.long q1)] 4)) := ⟨_, rfl⟩
  rw [← hO] at go0
  have go101 : ∀ t, Steps p.tables e below (s₁.setTop (mkF m 3 #[.val (.long q0), .second, .val (.long q1), .second] [(.int (lcmpW q0 q1))])) t → Steps p.tables e below O t := fun t k => go0 t (by
    refine XS.lloadN X0.here hx rfl (hb hby d2_0) rfl ?_
    show Steps _ _ _ (s₁.setTop (mkF m 1 _ [(.long q0)])) _
    refine XS.lloadN X0.here hx rfl (hb hby d2_1) rfl ?_
    show Steps _ _ _ (s₁.setTop (mkF m 2 _ [(.long q1), (.long q0)])) _
    refine XS.lcmp X0.here hx rfl (hb hby d2_2) rfl ?_
    show Steps _ _ _ (s₁.setTop (mkF m 3 _ [(.int (lcmpW q0 q1))])) _
    exact k)
  by_cases hc : (lcmpW q0 q1) < (0 : Int32)
  · have go102 : ∀ t, Steps p.tables e below (s₁.setTop (mkF m 11 #[.val (.long q0), .second, .val (.long q1), .second] [(.long q1)])) t → Steps p.tables e below O t := fun t k => go101 t (by
      refine XS.ifYes X0.here hx rfl (pc0 := 3) (pc' := 10) rfl (hb hby d2_3) rfl ((if0 _ _).trans (tlt (hc : (lcmpW q0 q1) < (0 : Int32))).1) (by decide) (by decide) ?_
      show Steps _ _ _ (s₁.setTop (mkF m 10 _ [])) _
      refine XS.lloadN X0.here hx rfl (hb hby d2_10) rfl ?_
      show Steps _ _ _ (s₁.setTop (mkF m 11 _ [(.long q1)])) _
      exact k)
    subst hO
    obtain ⟨fs, hr, hrun, hended, hW, hsame⟩ := X0.leave (v := some (.long q1)) (fun h => by rw [Bd.returns] at h; cases h)
    refine ⟨_, _, go102 _ ?_, hrun, hended, _, _, rfl, ?_, ⟨_, rfl⟩, hW, hsame.mono (by decide) (by decide)⟩
    · exact X0.lreturnOut hx Bd.returns (hb hby d2_11) hr
    · show Q_mx Z q0 q1 h0 n0 _ s₁.heap _
      rw [e0]
      exact ⟨by unfold own_maxL; rw [if_pos hc], N0, rfl⟩
  · have go104 : ∀ t, Steps p.tables e below (s₁.setTop (mkF m 11 #[.val (.long q0), .second, .val (.long q1), .second] [(.long q0)])) t → Steps p.tables e below O t := fun t k => go101 t (by
      refine XS.ifNo X0.here hx rfl (hb hby d2_3) rfl ((if0 _ _).trans (flt (hc : ¬ ((lcmpW q0 q1) < (0 : Int32)))).1) ?_
      show Steps _ _ _ (s₁.setTop (mkF m 6 _ [])) _
      refine XS.lloadN X0.here hx rfl (hb hby d2_6) rfl ?_
      show Steps _ _ _ (s₁.setTop (mkF m 7 _ [(.long q0)])) _
      refine XS.goto X0.here hx rfl (pc0 := 7) (pc' := 11) rfl (hb hby d2_7) (by decide) (by decide) ?_
      show Steps _ _ _ (s₁.setTop (mkF m 11 _ [(.long q0)])) _
      exact k)
    subst hO
    obtain ⟨fs, hr, hrun, hended, hW, hsame⟩ := X0.leave (v := some (.long q0)) (fun h => by rw [Bd.returns] at h; cases h)
    refine ⟨_, _, go104 _ ?_, hrun, hended, _, _, rfl, ?_, ⟨_, rfl⟩, hW, hsame.mono (by decide) (by decide)⟩
    · exact X0.lreturnOut hx Bd.returns (hb hby d2_11) hr
    · show Q_mx Z q0 q1 h0 n0 _ s₁.heap _
      rw [e0]
      exact ⟨by unfold own_maxL; rw [if_neg hc], N0, rfl⟩
theorem ef_pg (m : MethodId) (x0 : Addr) (x1 : Int32) (x2 : Int32) : entryFrame m #[(.ref x0), (.int x1), (.int x2)] 3 = mkF m 0 #[rv x0, iv x1, iv x2] [] := by first | (simp [entryFrame, mkF, argsToLocals, Value.category]; done) | rfl
theorem pn_1 : plainName "com/example/dowser/dowser/search/Page" = true := by first | (simp [plainName, overriddenIn]; done) | decide +kernel
def Q_pg (Z : State) (o0 : Addr) (p1 : Int32) (p2 : Int32) (h0 : Heap) (n0 : Nat) (v : Option Value) (h : Heap) (L : List Loc) : Prop := v = none ∧ Fr n0 L ∧ Keep h0 h [o0] ∧ Exa Z h o0 "com/example/dowser/dowser/search/Page" ∧ Fld Z h o0 "com/example/dowser/dowser/search/Page" "start" "I" (.int p1) ∧ Fld Z h o0 "com/example/dowser/dowser/search/Page" "rows" "I" (.int p2)
theorem d3_0 : decode prog_22_method_1_code 0 = .ok (.aload_n 0, 1) := by decide +kernel
theorem pd_0 : parseMethodDescriptor "()V" = some ⟨[], none⟩ := by decide +kernel
theorem d3_1 : decode prog_22_method_1_code 1 = .ok (.invokespecial 1, 3) := by decide +kernel
theorem d3_4 : decode prog_22_method_1_code 4 = .ok (.iload_n 1, 1) := by decide +kernel
theorem d3_5 : decode prog_22_method_1_code 5 = .ok (.ifCond .ge 17, 3) := by decide +kernel
theorem d3_22 : decode prog_22_method_1_code 22 = .ok (.iload_n 2, 1) := by decide +kernel
theorem d3_23 : decode prog_22_method_1_code 23 = .ok (.ifCond .ge 17, 3) := by decide +kernel
theorem d3_40 : decode prog_22_method_1_code 40 = .ok (.aload_n 0, 1) := by decide +kernel
theorem d3_41 : decode prog_22_method_1_code 41 = .ok (.iload_n 1, 1) := by decide +kernel
theorem d3_42 : decode prog_22_method_1_code 42 = .ok (.putfield 17, 3) := by decide +kernel
theorem d3_45 : decode prog_22_method_1_code 45 = .ok (.aload_n 0, 1) := by decide +kernel
theorem d3_46 : decode prog_22_method_1_code 46 = .ok (.iload_n 2, 1) := by decide +kernel
theorem d3_47 : decode prog_22_method_1_code 47 = .ok (.putfield 23, 3) := by decide +kernel
theorem d3_50 : decode prog_22_method_1_code 50 = .ok (.return_, 1) := by decide +kernel
set_option maxRecDepth 65536 in
set_option maxHeartbeats 40000000 in
theorem rm_pg (l : Launch) (Z : State) (a0 : Array Value) (hw : ∀ d ∈ tables_1, d.before a0 Z = true) (ws : List Jvm.Cond) (o0 : Addr) (p1 : Int32) (p2 : Int32) (h0 : Heap) (n0 : Nat) (Z0 : n0 ≤ h0.size) (E_o0 : Exa Z h0 o0 "com/example/dowser/dowser/search/Page") (ge_o0 : n0 ≤ o0) (F_start_o0 : Fld Z h0 o0 "com/example/dowser/dowser/search/Page" "start" "I" (.int 0)) (F_rows_o0 : Fld Z h0 o0 "com/example/dowser/dowser/search/Page" "rows" "I" (.int 0)) (h1 : ¬ p1 < (0 : Int32)) (h2 : ¬ p2 < (0 : Int32)) :
    MetFree l (⟨"com/example/dowser/dowser/search/Page", "<init>", "(II)V"⟩ : MethodName) (head1 (Jvm.Cond.code (⟨"com/example/dowser/dowser/search/Page", "<init>", "(II)V"⟩ : MethodName) prog_22_method_1_code 3 none :: ws) ({ frames := 2, cells := 0, slots := 0, locals := 24 } : Room)) (fun a U => a = #[(.ref o0), (.int p1), (.int p2)] ∧ Z.Warmed39 U.vm ∧ U.heap = h0) (fun _ _ _ _ _ => True) (fun _ U o U' => ∃ v L, o = .returned v ∧ Q_pg Z o0 p1 p2 h0 n0 v U'.heap L ∧ FrameEnd U o U' L ({ frames := 2, cells := 0, slots := 0, locals := 24 } : Room).cells ({ frames := 2, cells := 0, slots := 0, locals := 24 } : Room).slots) := by
  refine MetFree.of_bodySF (plainFor_of_name pn_1) hisR ?_
  intro p e s m args below meth c s₁ Bd hml0 hP hK
  obtain ⟨rfl, hZ, hh⟩ := hP
  have hx := Bd.exec
  have hby := Bd.bytes
  have hml : c.maxLocals = 3 := hml0
  have hown : s.vm.findClass "com/example/dowser/dowser/search/Page" = some m.cls := findClass_of_methodNamed Bd.named
  have hnm := (name_of_methodNamed Bd.named Bd.method).1
  have X0 : Stand p l e ({ frames := 2, cells := 0, slots := 0, locals := 24 } : Room) s m #[(.ref o0), (.int p1), (.int p2)] below meth c s₁ [] 0 0 := Stand.of_body Bd
  have e0 : s₁.heap = h0 := by rw [← hh, Bd.state]; rfl
  have N0 := Fr.nil n0
  have go0 : ∀ t, Steps p.tables e below (s₁.setTop (mkF m 0 #[rv o0, iv p1, iv p2] [])) t → Steps p.tables e below (s₁.setTop (entryFrame m #[(.ref o0), (.int p1), (.int p2)] 3)) t := fun t k => castTop (ef_pg m o0 p1 p2) k
  obtain ⟨O, hO⟩ : ∃ z, z = (s₁.setTop (entryFrame m #[(.ref o0), (.int p1), (.int p2)] 3)) := ⟨_, rfl⟩
  rw [← hO] at go0
  have K101 := Keep.refl h0 [o0]
  obtain ⟨_, _, ⟨T102, L102, k102, n102⟩, -, X102, ⟨Lc102, hQ102, l102, y102, z102⟩, st102⟩ := X0.specialBack hx (y := (⟨"java/lang/Record", "<init>", "()V"⟩ : MethodName)) rfl hown (mvT hZ (hw _ (List.mem_of_getElem? (i := 7) rfl))) (mvT hZ (hw _ (List.mem_of_getElem? (i := 8) rfl))) (mvT hZ (hw _ (List.mem_of_getElem? (i := 11) rfl))) (by decide) (backOf (W := 0) (rm_rec l Z a0 hw [] o0  h0 n0 Z0 ) hZ (hw _ (List.mem_of_getElem? (i := 11) rfl)) (hw _ (List.mem_of_getElem? (i := 10) rfl)) (by decide) (by decide)) (g := (mkF m 1 #[rv o0, iv p1, iv p2] [(.ref o0)])) rfl (by rw [hml]; rfl) (Steps.refl _) (a := o0) (argsL := []) (rest := []) (lenOf pd_0 rfl) rfl (by show 2 * 0 + _ ≤ _; exact Nat.le_of_eq rfl) (hb hby d3_1) (fun _ _ => ⟨rfl, e0, (by decide : 0 + 0 ≤ _), (by decide : 0 + 0 ≤ _)⟩)
  dsimp only [Pt.U, Pt.locs, Pt.cells, Pt.slots] at X102 l102 y102 z102 st102 hQ102
  subst l102 y102 z102
  obtain ⟨rfl, N102q, eR⟩ := hQ102
  have N102 := Fr.app N0 N102q
  obtain ⟨T103, h103, X103, e103, W103, st103⟩ := putF X102 hx hZ hown (host := "") (Or.inl (hw _ (List.mem_of_getElem? (i := 15) rfl))) Via.refl eR F_start_o0 E_o0 (Or.inr ⟨(hw _ (List.mem_of_getElem? (i := 16) rfl)), rfl, hnm⟩) (hw _ (List.mem_of_getElem? (i := 2) rfl)) (ty := .int) (by decide) rfl rfl (g := (mkF m 42 #[rv o0, iv p1, iv p2] [(.int p1), (.ref o0)])) rfl rfl (hb hby d3_42)
  have f104 := E_o0.wr W103
  have f105 := F_rows_o0.other W103 (Or.inr (slot_ne (Or.inr (hw _ (List.mem_of_getElem? (i := 18) rfl))) (Or.inr (hw _ (List.mem_of_getElem? (i := 16) rfl))) (by decide) (t := .int) (t' := .int) (by decide) (by decide)))
  have Z106 := Nat.le_trans Z0 (Keep.of_wr W103).1
  have K107 := K101.wr W103 (Or.inl (List.mem_of_getElem? (i := 0) rfl))
  have f108 := F_start_o0.same W103
  have N103 := Fr.snoc X103 N102 ge_o0
  obtain ⟨T109, h109, X109, e109, W109, st109⟩ := putF X103 hx hZ hown (host := "") (Or.inl (hw _ (List.mem_of_getElem? (i := 17) rfl))) Via.refl e103 f105 f104 (Or.inr ⟨(hw _ (List.mem_of_getElem? (i := 18) rfl)), rfl, hnm⟩) (hw _ (List.mem_of_getElem? (i := 2) rfl)) (ty := .int) (by decide) rfl rfl (g := (mkF m 47 #[rv o0, iv p1, iv p2] [(.int p2), (.ref o0)])) rfl rfl (hb hby d3_47)
  have f110 := f104.wr W109
  have f111 := f108.other W109 (Or.inr (slot_ne (Or.inr (hw _ (List.mem_of_getElem? (i := 16) rfl))) (Or.inr (hw _ (List.mem_of_getElem? (i := 18) rfl))) (by decide) (t := .int) (t' := .int) (by decide) (by decide)))
  have Z112 := Nat.le_trans Z106 (Keep.of_wr W109).1
  have K113 := K107.wr W109 (Or.inl (List.mem_of_getElem? (i := 0) rfl))
  have f114 := f105.same W109
  have N109 := Fr.snoc X109 N103 ge_o0
  have go115 : ∀ t, Steps p.tables e below (T109.setTop (mkF m 50 #[rv o0, iv p1, iv p2] [])) t → Steps p.tables e below O t := fun t k => go0 t (by
    refine XS.aloadN X0.here hx rfl (hb hby d3_0) rfl rfl ?_
    show Steps _ _ _ (s₁.setTop (mkF m 1 _ [(.ref o0)])) _
    refine st102.trans ?_
    show Steps _ _ _ (T102.setTop (mkF m 4 _ [])) _
    refine XS.iloadN X102.here hx rfl (hb hby d3_4) rfl ?_
    show Steps _ _ _ (T102.setTop (mkF m 5 _ [(.int p1)])) _
    refine XS.ifYes X102.here hx rfl (pc0 := 5) (pc' := 22) rfl (hb hby d3_5) rfl ((if0 _ _).trans (flt (h1 : ¬ (p1 < (0 : Int32)))).2.1) (by decide) (by decide) ?_
    show Steps _ _ _ (T102.setTop (mkF m 22 _ [])) _
    refine XS.iloadN X102.here hx rfl (hb hby d3_22) rfl ?_
    show Steps _ _ _ (T102.setTop (mkF m 23 _ [(.int p2)])) _
    refine XS.ifYes X102.here hx rfl (pc0 := 23) (pc' := 40) rfl (hb hby d3_23) rfl ((if0 _ _).trans (flt (h2 : ¬ (p2 < (0 : Int32)))).2.1) (by decide) (by decide) ?_
    show Steps _ _ _ (T102.setTop (mkF m 40 _ [])) _
    refine XS.aloadN X102.here hx rfl (hb hby d3_40) rfl rfl ?_
    show Steps _ _ _ (T102.setTop (mkF m 41 _ [(.ref o0)])) _
    refine XS.iloadN X102.here hx rfl (hb hby d3_41) rfl ?_
    show Steps _ _ _ (T102.setTop (mkF m 42 _ [(.int p1), (.ref o0)])) _
    refine st103 _ ?_
    show Steps _ _ _ (T103.setTop (mkF m 45 _ [])) _
    refine XS.aloadN X103.here hx rfl (hb hby d3_45) rfl rfl ?_
    show Steps _ _ _ (T103.setTop (mkF m 46 _ [(.ref o0)])) _
    refine XS.iloadN X103.here hx rfl (hb hby d3_46) rfl ?_
    show Steps _ _ _ (T103.setTop (mkF m 47 _ [(.int p2), (.ref o0)])) _
    refine st109 _ ?_
    show Steps _ _ _ (T109.setTop (mkF m 50 _ [])) _
    exact k)
  subst hO
  obtain ⟨fs, hr, hrun, hended, hW, hsame⟩ := X109.leave (v := none) (fun _ => rfl)
  refine ⟨_, _, go115 _ ?_, hrun, hended, _, _, rfl, ?_, ⟨_, rfl⟩, hW, hsame.mono (by decide) (by decide)⟩
  · exact X109.returnOut hx Bd.returns (hb hby d3_50) hr
  · show Q_pg Z o0 p1 p2 h0 n0 _ T109.heap _
    rw [e109]
    exact ⟨rfl, N109, K113, f110, f111, f114⟩
theorem ef_rk (m : MethodId) (x0 : Addr) (x1 : Int32) : entryFrame m #[(.ref x0), (.int x1)] 2 = mkF m 0 #[rv x0, iv x1] [] := by first | (simp [entryFrame, mkF, argsToLocals, Value.category]; done) | rfl
def Q_rk (Z : State) (o0 : Addr) (p1 : Int32) (ws_ : Int32) (wr_ : Int32) (h0 : Heap) (n0 : Nat) (v : Option Value) (h : Heap) (L : List Loc) : Prop := v = some (.int (own_rank ws_ wr_ p1)) ∧ Fr n0 L ∧ h = h0
theorem d4_0 : decode prog_22_method_2_code 0 = .ok (.iload_n 1, 1) := by decide +kernel
theorem d4_1 : decode prog_22_method_2_code 1 = .ok (.ifCond .ge 17, 3) := by decide +kernel
theorem d4_18 : decode prog_22_method_2_code 18 = .ok (.aload_n 0, 1) := by decide +kernel
theorem d4_19 : decode prog_22_method_2_code 19 = .ok (.getfield 23, 3) := by decide +kernel
theorem d4_22 : decode prog_22_method_2_code 22 = .ok (.ifCond .eq 11, 3) := by decide +kernel
theorem d4_33 : decode prog_22_method_2_code 33 = .ok (.iconst 0, 1) := by decide +kernel
theorem d4_34 : decode prog_22_method_2_code 34 = .ok (.ireturn, 1) := by decide +kernel
theorem d4_25 : decode prog_22_method_2_code 25 = .ok (.aload_n 0, 1) := by decide +kernel
theorem d4_26 : decode prog_22_method_2_code 26 = .ok (.getfield 17, 3) := by decide +kernel
theorem d4_29 : decode prog_22_method_2_code 29 = .ok (.iload_n 1, 1) := by decide +kernel
theorem d4_30 : decode prog_22_method_2_code 30 = .ok (.if_icmp .lt 5, 3) := by decide +kernel
theorem d4_35 : decode prog_22_method_2_code 35 = .ok (.aload_n 0, 1) := by decide +kernel
theorem d4_36 : decode prog_22_method_2_code 36 = .ok (.getfield 23, 3) := by decide +kernel
theorem d4_39 : decode prog_22_method_2_code 39 = .ok (.iload_n 1, 1) := by decide +kernel
theorem d4_40 : decode prog_22_method_2_code 40 = .ok (.aload_n 0, 1) := by decide +kernel
theorem d4_41 : decode prog_22_method_2_code 41 = .ok (.getfield 17, 3) := by decide +kernel
theorem d4_44 : decode prog_22_method_2_code 44 = .ok (.isub, 1) := by decide +kernel
theorem d4_45 : decode prog_22_method_2_code 45 = .ok (.if_icmp .lt 7, 3) := by decide +kernel
theorem d4_52 : decode prog_22_method_2_code 52 = .ok (.aload_n 0, 1) := by decide +kernel
theorem d4_53 : decode prog_22_method_2_code 53 = .ok (.getfield 17, 3) := by decide +kernel
theorem d4_56 : decode prog_22_method_2_code 56 = .ok (.aload_n 0, 1) := by decide +kernel
theorem d4_57 : decode prog_22_method_2_code 57 = .ok (.getfield 23, 3) := by decide +kernel
theorem d4_60 : decode prog_22_method_2_code 60 = .ok (.iadd, 1) := by decide +kernel
theorem d4_61 : decode prog_22_method_2_code 61 = .ok (.ireturn, 1) := by decide +kernel
theorem d4_48 : decode prog_22_method_2_code 48 = .ok (.iload_n 1, 1) := by decide +kernel
theorem d4_49 : decode prog_22_method_2_code 49 = .ok (.goto 12, 3) := by decide +kernel
set_option maxRecDepth 65536 in
set_option maxHeartbeats 40000000 in
theorem rm_rk (l : Launch) (Z : State) (a0 : Array Value) (hw : ∀ d ∈ tables_1, d.before a0 Z = true) (ws : List Jvm.Cond) (o0 : Addr) (p1 : Int32) (ws_ : Int32) (wr_ : Int32) (h0 : Heap) (n0 : Nat) (Z0 : n0 ≤ h0.size) (E_o0 : Exa Z h0 o0 "com/example/dowser/dowser/search/Page") (ge_o0 : n0 ≤ o0) (F_start_o0 : Fld Z h0 o0 "com/example/dowser/dowser/search/Page" "start" "I" (.int ws_)) (F_rows_o0 : Fld Z h0 o0 "com/example/dowser/dowser/search/Page" "rows" "I" (.int wr_)) (h1 : ¬ p1 < (0 : Int32)) :
    MetFree l (⟨"com/example/dowser/dowser/search/Page", "rankDepth", "(I)I"⟩ : MethodName) (head1 (Jvm.Cond.code (⟨"com/example/dowser/dowser/search/Page", "rankDepth", "(I)I"⟩ : MethodName) prog_22_method_2_code 2 (some .int) :: ws) ({ frames := 0, cells := 0, slots := 0, locals := 0 } : Room)) (fun a U => a = #[(.ref o0), (.int p1)] ∧ Z.Warmed39 U.vm ∧ U.heap = h0) (fun _ _ _ _ _ => True) (fun _ U o U' => ∃ v L, o = .returned v ∧ Q_rk Z o0 p1 ws_ wr_ h0 n0 v U'.heap L ∧ FrameEnd U o U' L ({ frames := 0, cells := 0, slots := 0, locals := 0 } : Room).cells ({ frames := 0, cells := 0, slots := 0, locals := 0 } : Room).slots) := by
  refine MetFree.of_bodySF (plainFor_of_name pn_1) hisR ?_
  intro p e s m args below meth c s₁ Bd hml0 hP hK
  obtain ⟨rfl, hZ, hh⟩ := hP
  have hx := Bd.exec
  have hby := Bd.bytes
  have hml : c.maxLocals = 2 := hml0
  have hown : s.vm.findClass "com/example/dowser/dowser/search/Page" = some m.cls := findClass_of_methodNamed Bd.named
  have hnm := (name_of_methodNamed Bd.named Bd.method).1
  have X0 : Stand p l e ({ frames := 0, cells := 0, slots := 0, locals := 0 } : Room) s m #[(.ref o0), (.int p1)] below meth c s₁ [] 0 0 := Stand.of_body Bd
  have e0 : s₁.heap = h0 := by rw [← hh, Bd.state]; rfl
  have N0 := Fr.nil n0
  have go0 : ∀ t, Steps p.tables e below (s₁.setTop (mkF m 0 #[rv o0, iv p1] [])) t → Steps p.tables e below (s₁.setTop (entryFrame m #[(.ref o0), (.int p1)] 2)) t := fun t k => castTop (ef_rk m o0 p1) k
  obtain ⟨O, hO⟩ : ∃ z, z = (s₁.setTop (entryFrame m #[(.ref o0), (.int p1)] 2)) := ⟨_, rfl⟩
  rw [← hO] at go0
  obtain ⟨T101, X101, e101, st101⟩ := getF X0 hx hZ hown (host := "") (Or.inl (hw _ (List.mem_of_getElem? (i := 17) rfl))) Via.refl e0 F_rows_o0 (g := (mkF m 19 #[rv o0, iv p1] [(.ref o0)])) rfl rfl (hb hby d4_19)
  have go102 : ∀ t, Steps p.tables e below (T101.setTop (mkF m 22 #[rv o0, iv p1] [(.int wr_)])) t → Steps p.tables e below O t := fun t k => go0 t (by
    refine XS.iloadN X0.here hx rfl (hb hby d4_0) rfl ?_
    show Steps _ _ _ (s₁.setTop (mkF m 1 _ [(.int p1)])) _
    refine XS.ifYes X0.here hx rfl (pc0 := 1) (pc' := 18) rfl (hb hby d4_1) rfl ((if0 _ _).trans (flt (h1 : ¬ (p1 < (0 : Int32)))).2.1) (by decide) (by decide) ?_
    show Steps _ _ _ (s₁.setTop (mkF m 18 _ [])) _
    refine XS.aloadN X0.here hx rfl (hb hby d4_18) rfl rfl ?_
    show Steps _ _ _ (s₁.setTop (mkF m 19 _ [(.ref o0)])) _
    refine st101 _ ?_
    show Steps _ _ _ (T101.setTop (mkF m 22 _ [(.int wr_)])) _
    exact k)
  by_cases hc1 : wr_ = (0 : Int32)
  · have go103 : ∀ t, Steps p.tables e below (T101.setTop (mkF m 34 #[rv o0, iv p1] [(.int 0)])) t → Steps p.tables e below O t := fun t k => go102 t (by
      refine XS.ifYes X101.here hx rfl (pc0 := 22) (pc' := 33) rfl (hb hby d4_22) rfl ((if0 _ _).trans (teq (hc1 : wr_ = (0 : Int32))).1) (by decide) (by decide) ?_
      show Steps _ _ _ (T101.setTop (mkF m 33 _ [])) _
      refine XS.iconst X101.here hx rfl (hb hby d4_33) ?_
      show Steps _ _ _ (T101.setTop (mkF m 34 _ [(.int 0)])) _
      exact k)
    subst hO
    obtain ⟨fs, hr, hrun, hended, hW, hsame⟩ := X101.leave (v := some (.int 0)) (fun h => by rw [Bd.returns] at h; cases h)
    refine ⟨_, _, go103 _ ?_, hrun, hended, _, _, rfl, ?_, ⟨_, rfl⟩, hW, hsame.mono (by decide) (by decide)⟩
    · exact retI X101 hx Bd.returns (hb hby d4_34) hr
    · show Q_rk Z o0 p1 ws_ wr_ h0 n0 _ T101.heap _
      rw [e101]
      exact ⟨by unfold own_rank; rw [if_pos hc1], N0, rfl⟩
  · obtain ⟨T105, X105, e105, st105⟩ := getF X101 hx hZ hown (host := "") (Or.inl (hw _ (List.mem_of_getElem? (i := 15) rfl))) Via.refl e101 F_start_o0 (g := (mkF m 26 #[rv o0, iv p1] [(.ref o0)])) rfl rfl (hb hby d4_26)
    have go106 : ∀ t, Steps p.tables e below (T105.setTop (mkF m 30 #[rv o0, iv p1] [(.int p1), (.int ws_)])) t → Steps p.tables e below O t := fun t k => go102 t (by
      refine XS.ifNo X101.here hx rfl (hb hby d4_22) rfl ((if0 _ _).trans (feq (hc1 : ¬ (wr_ = (0 : Int32)))).1) ?_
      show Steps _ _ _ (T101.setTop (mkF m 25 _ [])) _
      refine XS.aloadN X101.here hx rfl (hb hby d4_25) rfl rfl ?_
      show Steps _ _ _ (T101.setTop (mkF m 26 _ [(.ref o0)])) _
      refine st105 _ ?_
      show Steps _ _ _ (T105.setTop (mkF m 29 _ [(.int ws_)])) _
      refine XS.iloadN X105.here hx rfl (hb hby d4_29) rfl ?_
      show Steps _ _ _ (T105.setTop (mkF m 30 _ [(.int p1), (.int ws_)])) _
      exact k)
    by_cases hc2 : ws_ < p1
    · obtain ⟨T107, X107, e107, st107⟩ := getF X105 hx hZ hown (host := "") (Or.inl (hw _ (List.mem_of_getElem? (i := 17) rfl))) Via.refl e105 F_rows_o0 (g := (mkF m 36 #[rv o0, iv p1] [(.ref o0)])) rfl rfl (hb hby d4_36)
      obtain ⟨T108, X108, e108, st108⟩ := getF X107 hx hZ hown (host := "") (Or.inl (hw _ (List.mem_of_getElem? (i := 15) rfl))) Via.refl e107 F_start_o0 (g := (mkF m 41 #[rv o0, iv p1] [(.ref o0), (.int p1), (.int wr_)])) rfl rfl (hb hby d4_41)
      have go109 : ∀ t, Steps p.tables e below (T108.setTop (mkF m 45 #[rv o0, iv p1] [(.int (p1 - ws_)), (.int wr_)])) t → Steps p.tables e below O t := fun t k => go106 t (by
        refine XS.icmpYes X105.here hx rfl (pc0 := 30) (pc' := 35) rfl (hb hby d4_30) rfl (tlt (hc2 : ws_ < p1)).1 (by decide) (by decide) ?_
        show Steps _ _ _ (T105.setTop (mkF m 35 _ [])) _
        refine XS.aloadN X105.here hx rfl (hb hby d4_35) rfl rfl ?_
        show Steps _ _ _ (T105.setTop (mkF m 36 _ [(.ref o0)])) _
        refine st107 _ ?_
        show Steps _ _ _ (T107.setTop (mkF m 39 _ [(.int wr_)])) _
        refine XS.iloadN X107.here hx rfl (hb hby d4_39) rfl ?_
        show Steps _ _ _ (T107.setTop (mkF m 40 _ [(.int p1), (.int wr_)])) _
        refine XS.aloadN X107.here hx rfl (hb hby d4_40) rfl rfl ?_
        show Steps _ _ _ (T107.setTop (mkF m 41 _ [(.ref o0), (.int p1), (.int wr_)])) _
        refine st108 _ ?_
        show Steps _ _ _ (T108.setTop (mkF m 44 _ [(.int ws_), (.int p1), (.int wr_)])) _
        refine XS.isub X108.here hx rfl (hb hby d4_44) rfl ?_
        show Steps _ _ _ (T108.setTop (mkF m 45 _ [(.int (p1 - ws_)), (.int wr_)])) _
        exact k)
      by_cases hc3 : wr_ < (p1 - ws_)
      · obtain ⟨T110, X110, e110, st110⟩ := getF X108 hx hZ hown (host := "") (Or.inl (hw _ (List.mem_of_getElem? (i := 15) rfl))) Via.refl e108 F_start_o0 (g := (mkF m 53 #[rv o0, iv p1] [(.ref o0)])) rfl rfl (hb hby d4_53)
        obtain ⟨T111, X111, e111, st111⟩ := getF X110 hx hZ hown (host := "") (Or.inl (hw _ (List.mem_of_getElem? (i := 17) rfl))) Via.refl e110 F_rows_o0 (g := (mkF m 57 #[rv o0, iv p1] [(.ref o0), (.int ws_)])) rfl rfl (hb hby d4_57)
        have go112 : ∀ t, Steps p.tables e below (T111.setTop (mkF m 61 #[rv o0, iv p1] [(.int (ws_ + wr_))])) t → Steps p.tables e below O t := fun t k => go109 t (by
          refine XS.icmpYes X108.here hx rfl (pc0 := 45) (pc' := 52) rfl (hb hby d4_45) rfl (tlt (hc3 : wr_ < (p1 - ws_))).1 (by decide) (by decide) ?_
          show Steps _ _ _ (T108.setTop (mkF m 52 _ [])) _
          refine XS.aloadN X108.here hx rfl (hb hby d4_52) rfl rfl ?_
          show Steps _ _ _ (T108.setTop (mkF m 53 _ [(.ref o0)])) _
          refine st110 _ ?_
          show Steps _ _ _ (T110.setTop (mkF m 56 _ [(.int ws_)])) _
          refine XS.aloadN X110.here hx rfl (hb hby d4_56) rfl rfl ?_
          show Steps _ _ _ (T110.setTop (mkF m 57 _ [(.ref o0), (.int ws_)])) _
          refine st111 _ ?_
          show Steps _ _ _ (T111.setTop (mkF m 60 _ [(.int wr_), (.int ws_)])) _
          refine XS.iadd X111.here hx rfl (hb hby d4_60) rfl ?_
          show Steps _ _ _ (T111.setTop (mkF m 61 _ [(.int (ws_ + wr_))])) _
          exact k)
        subst hO
        obtain ⟨fs, hr, hrun, hended, hW, hsame⟩ := X111.leave (v := some (.int (ws_ + wr_))) (fun h => by rw [Bd.returns] at h; cases h)
        refine ⟨_, _, go112 _ ?_, hrun, hended, _, _, rfl, ?_, ⟨_, rfl⟩, hW, hsame.mono (by decide) (by decide)⟩
        · exact retI X111 hx Bd.returns (hb hby d4_61) hr
        · show Q_rk Z o0 p1 ws_ wr_ h0 n0 _ T111.heap _
          rw [e111]
          exact ⟨by unfold own_rank; rw [if_neg hc1, if_pos hc2, if_pos hc3], N0, rfl⟩
      · have go114 : ∀ t, Steps p.tables e below (T108.setTop (mkF m 61 #[rv o0, iv p1] [(.int p1)])) t → Steps p.tables e below O t := fun t k => go109 t (by
          refine XS.icmpNo X108.here hx rfl (hb hby d4_45) rfl (flt (hc3 : ¬ (wr_ < (p1 - ws_)))).1 ?_
          show Steps _ _ _ (T108.setTop (mkF m 48 _ [])) _
          refine XS.iloadN X108.here hx rfl (hb hby d4_48) rfl ?_
          show Steps _ _ _ (T108.setTop (mkF m 49 _ [(.int p1)])) _
          refine XS.goto X108.here hx rfl (pc0 := 49) (pc' := 61) rfl (hb hby d4_49) (by decide) (by decide) ?_
          show Steps _ _ _ (T108.setTop (mkF m 61 _ [(.int p1)])) _
          exact k)
        subst hO
        obtain ⟨fs, hr, hrun, hended, hW, hsame⟩ := X108.leave (v := some (.int p1)) (fun h => by rw [Bd.returns] at h; cases h)
        refine ⟨_, _, go114 _ ?_, hrun, hended, _, _, rfl, ?_, ⟨_, rfl⟩, hW, hsame.mono (by decide) (by decide)⟩
        · exact retI X108 hx Bd.returns (hb hby d4_61) hr
        · show Q_rk Z o0 p1 ws_ wr_ h0 n0 _ T108.heap _
          rw [e108]
          exact ⟨by unfold own_rank; rw [if_neg hc1, if_pos hc2, if_neg hc3], N0, rfl⟩
    · have go116 : ∀ t, Steps p.tables e below (T105.setTop (mkF m 34 #[rv o0, iv p1] [(.int 0)])) t → Steps p.tables e below O t := fun t k => go106 t (by
        refine XS.icmpNo X105.here hx rfl (hb hby d4_30) rfl (flt (hc2 : ¬ (ws_ < p1))).1 ?_
        show Steps _ _ _ (T105.setTop (mkF m 33 _ [])) _
        refine XS.iconst X105.here hx rfl (hb hby d4_33) ?_
        show Steps _ _ _ (T105.setTop (mkF m 34 _ [(.int 0)])) _
        exact k)
      subst hO
      obtain ⟨fs, hr, hrun, hended, hW, hsame⟩ := X105.leave (v := some (.int 0)) (fun h => by rw [Bd.returns] at h; cases h)
      refine ⟨_, _, go116 _ ?_, hrun, hended, _, _, rfl, ?_, ⟨_, rfl⟩, hW, hsame.mono (by decide) (by decide)⟩
      · exact retI X105 hx Bd.returns (hb hby d4_34) hr
      · show Q_rk Z o0 p1 ws_ wr_ h0 n0 _ T105.heap _
        rw [e105]
        exact ⟨by unfold own_rank; rw [if_neg hc1, if_neg hc2], N0, rfl⟩
theorem ef_law (m : MethodId) (x0 : Int32) (x1 : Int32) (x2 : Int32) : entryFrame m #[(.int x0), (.int x1), (.int x2)] maxLocals = mkF m 0 #[iv x0, iv x1, iv x2, .unset, .unset, .unset, .unset, .unset, .unset, .unset, .unset, .unset, .unset, .unset] [] := by first | (simp [entryFrame, mkF, argsToLocals, Value.category, maxLocals]; done) | rfl
theorem pn_2 : plainName "com/example/dowser/dowser/search/PageRankDepthPinLaw" = true := by first | (simp [plainName, overriddenIn]; done) | decide +kernel
def Q_law (Z : State) (p0 : Int32) (p1 : Int32) (p2 : Int32) (h0 : Heap) (n0 : Nat) (v : Option Value) (h : Heap) (L : List Loc) : Prop := v = some (.int (1 : Int32)) ∧ Fr n0 L
theorem pd_1 : parseMethodDescriptor "(II)V" = some ⟨[.int, .int], none⟩ := by decide +kernel
theorem pd_2 : parseMethodDescriptor "(I)I" = some ⟨[.int], some .int⟩ := by decide +kernel
theorem pd_3 : parseMethodDescriptor "(JJ)J" = some ⟨[.long, .long], some .long⟩ := by decide +kernel
set_option maxRecDepth 65536 in
set_option maxHeartbeats 40000000 in
theorem rm_law (l : Launch) (Z : State) (a0 : Array Value) (hw : ∀ d ∈ tables_1, d.before a0 Z = true) (ws : List Jvm.Cond) (p0 : Int32) (p1 : Int32) (p2 : Int32) (h0 : Heap) (n0 : Nat) (Z0 : n0 ≤ h0.size)  :
    MetFree l x (head1 (Jvm.Cond.code x code maxLocals ret :: ws) room_1) (fun a U => a = #[(.int p0), (.int p1), (.int p2)] ∧ Z.Warmed39 U.vm ∧ U.heap = h0) (fun _ _ _ _ _ => True) (fun _ U o U' => ∃ v L, o = .returned v ∧ Q_law Z p0 p1 p2 h0 n0 v U'.heap L ∧ FrameEnd U o U' L room_1.cells room_1.slots) := by
  refine MetFree.of_bodySF (plainFor_of_name pn_2) hisR ?_
  intro p e s m args below meth c s₁ Bd hml0 hP hK
  obtain ⟨rfl, hZ, hh⟩ := hP
  have hx := Bd.exec
  have hby := Bd.bytes
  have hml : c.maxLocals = 14 := hml0
  have hown : s.vm.findClass "com/example/dowser/dowser/search/PageRankDepthPinLaw" = some m.cls := findClass_of_methodNamed Bd.named
  have hnm := (name_of_methodNamed Bd.named Bd.method).1
  have X0 : Stand p l e room_1 s m #[(.int p0), (.int p1), (.int p2)] below meth c s₁ [] 0 0 := Stand.of_body Bd
  have e0 : s₁.heap = h0 := by rw [← hh, Bd.state]; rfl
  have N0 := Fr.nil n0
  have go0 : ∀ t, Steps p.tables e below (s₁.setTop (mkF m 0 #[iv p0, iv p1, iv p2, .unset, .unset, .unset, .unset, .unset, .unset, .unset, .unset, .unset, .unset, .unset] [])) t → Steps p.tables e below (s₁.setTop (entryFrame m #[(.int p0), (.int p1), (.int p2)] maxLocals)) t := fun t k => castTop (ef_law m p0 p1 p2) k
  obtain ⟨O, hO⟩ : ∃ z, z = (s₁.setTop (entryFrame m #[(.int p0), (.int p1), (.int p2)] maxLocals)) := ⟨_, rfl⟩
  rw [← hO] at go0
  have g_st : 0 ≤ (p0 &&& (2147483647 : Int32)).toInt := by rw [c_mask p0 _ 31 (by decide) (by decide)]; omega
  have go101 : ∀ t, Steps p.tables e below (s₁.setTop (mkF m 17 #[iv p0, iv p1, iv p2, iv (p0 &&& (2147483647 : Int32)), iv (p1 &&& (2147483647 : Int32)), iv (p2 &&& (2147483647 : Int32)), .unset, .unset, .unset, .unset, .unset, .unset, .unset, .unset] [])) t → Steps p.tables e below O t := fun t k => go0 t (by
    refine XS.iloadN X0.here hx rfl (hb hby at_0) rfl ?_
    show Steps _ _ _ (s₁.setTop (mkF m 1 _ [(.int p0)])) _
    refine X0.ldcInt hx hown (mvT hZ (hw _ (List.mem_of_getElem? (i := 0) rfl))) (g := (mkF m 1 #[iv p0, iv p1, iv p2, .unset, .unset, .unset, .unset, .unset, .unset, .unset, .unset, .unset, .unset, .unset] [(.int p0)])) rfl (hb hby at_1) _ ?_
    show Steps _ _ _ (s₁.setTop (mkF m 3 _ [(.int 2147483647), (.int p0)])) _
    refine XS.iand X0.here hx rfl (hb hby at_3) rfl ?_
    show Steps _ _ _ (s₁.setTop (mkF m 4 _ [(.int (p0 &&& (2147483647 : Int32)))])) _
    refine XS.istoreN X0.here hx rfl (hb hby at_4) rfl (l' := #[iv p0, iv p1, iv p2, iv (p0 &&& (2147483647 : Int32)), .unset, .unset, .unset, .unset, .unset, .unset, .unset, .unset, .unset, .unset]) rfl ?_
    show Steps _ _ _ (s₁.setTop (mkF m 5 _ [])) _
    refine XS.iloadN X0.here hx rfl (hb hby at_5) rfl ?_
    show Steps _ _ _ (s₁.setTop (mkF m 6 _ [(.int p1)])) _
    refine X0.ldcInt hx hown (mvT hZ (hw _ (List.mem_of_getElem? (i := 0) rfl))) (g := (mkF m 6 #[iv p0, iv p1, iv p2, iv (p0 &&& (2147483647 : Int32)), .unset, .unset, .unset, .unset, .unset, .unset, .unset, .unset, .unset, .unset] [(.int p1)])) rfl (hb hby at_6) _ ?_
    show Steps _ _ _ (s₁.setTop (mkF m 8 _ [(.int 2147483647), (.int p1)])) _
    refine XS.iand X0.here hx rfl (hb hby at_8) rfl ?_
    show Steps _ _ _ (s₁.setTop (mkF m 9 _ [(.int (p1 &&& (2147483647 : Int32)))])) _
    refine XS.istore X0.here hx rfl (hb hby at_9) rfl (l' := #[iv p0, iv p1, iv p2, iv (p0 &&& (2147483647 : Int32)), iv (p1 &&& (2147483647 : Int32)), .unset, .unset, .unset, .unset, .unset, .unset, .unset, .unset, .unset]) rfl ?_
    show Steps _ _ _ (s₁.setTop (mkF m 11 _ [])) _
    refine XS.iloadN X0.here hx rfl (hb hby at_11) rfl ?_
    show Steps _ _ _ (s₁.setTop (mkF m 12 _ [(.int p2)])) _
    refine X0.ldcInt hx hown (mvT hZ (hw _ (List.mem_of_getElem? (i := 0) rfl))) (g := (mkF m 12 #[iv p0, iv p1, iv p2, iv (p0 &&& (2147483647 : Int32)), iv (p1 &&& (2147483647 : Int32)), .unset, .unset, .unset, .unset, .unset, .unset, .unset, .unset, .unset] [(.int p2)])) rfl (hb hby at_12) _ ?_
    show Steps _ _ _ (s₁.setTop (mkF m 14 _ [(.int 2147483647), (.int p2)])) _
    refine XS.iand X0.here hx rfl (hb hby at_14) rfl ?_
    show Steps _ _ _ (s₁.setTop (mkF m 15 _ [(.int (p2 &&& (2147483647 : Int32)))])) _
    refine XS.istore X0.here hx rfl (hb hby at_15) rfl (l' := #[iv p0, iv p1, iv p2, iv (p0 &&& (2147483647 : Int32)), iv (p1 &&& (2147483647 : Int32)), iv (p2 &&& (2147483647 : Int32)), .unset, .unset, .unset, .unset, .unset, .unset, .unset, .unset]) rfl ?_
    show Steps _ _ _ (s₁.setTop (mkF m 17 _ [])) _
    exact k)
  obtain ⟨st, hq_st⟩ : ∃ z : Int32, z = (p0 &&& (2147483647 : Int32)) := ⟨_, rfl⟩
  rw [← hq_st] at go101
  rw [← hq_st] at g_st
  have n_st : ¬ st < (0 : Int32) := fun h => by have := Int32.lt_iff_toInt_lt.mp h; have z : (0 : Int32).toInt = 0 := rfl; omega
  have g_ro : 0 ≤ (p1 &&& (2147483647 : Int32)).toInt := by rw [c_mask p1 _ 31 (by decide) (by decide)]; omega
  obtain ⟨ro, hq_ro⟩ : ∃ z : Int32, z = (p1 &&& (2147483647 : Int32)) := ⟨_, rfl⟩
  rw [← hq_ro] at go101
  rw [← hq_ro] at g_ro
  have n_ro : ¬ ro < (0 : Int32) := fun h => by have := Int32.lt_iff_toInt_lt.mp h; have z : (0 : Int32).toInt = 0 := rfl; omega
  have g_ma : 0 ≤ (p2 &&& (2147483647 : Int32)).toInt := by rw [c_mask p2 _ 31 (by decide) (by decide)]; omega
  obtain ⟨ma, hq_ma⟩ : ∃ z : Int32, z = (p2 &&& (2147483647 : Int32)) := ⟨_, rfl⟩
  rw [← hq_ma] at go101
  rw [← hq_ma] at g_ma
  have n_ma : ¬ ma < (0 : Int32) := fun h => by have := Int32.lt_iff_toInt_lt.mp h; have z : (0 : Int32).toInt = 0 := rfl; omega
  obtain ⟨T102, h102, X102, e102, E102, A102, D102, -, st102⟩ := newO X0 hx hZ hown (hw _ (List.mem_of_getElem? (i := 1) rfl)) (hw _ (List.mem_of_getElem? (i := 2) rfl)) (hw _ (List.mem_of_getElem? (i := 3) rfl)) e0 (g := (mkF m 17 #[iv p0, iv p1, iv p2, iv st, iv ro, iv ma, .unset, .unset, .unset, .unset, .unset, .unset, .unset, .unset] [])) rfl (hb hby at_17) (by decide) (by decide)
  obtain ⟨pg, g102⟩ : ∃ z, z = h0.size := ⟨_, rfl⟩
  have ge_pg : n0 ≤ pg := Nat.le_trans Z0 (Nat.le_of_eq g102.symm)
  rw [← g102] at A102 D102 st102
  have Z103 := Nat.le_trans Z0 E102.1
  have F_start_pg : Fld Z h102 pg "com/example/dowser/dowser/search/Page" "start" "I" (.int 0) := D102 (Or.inr (hw _ (List.mem_of_getElem? (i := 16) rfl))) (ty := .int) (by decide)
  have F_rows_pg : Fld Z h102 pg "com/example/dowser/dowser/search/Page" "rows" "I" (.int 0) := D102 (Or.inr (hw _ (List.mem_of_getElem? (i := 18) rfl))) (ty := .int) (by decide)
  obtain ⟨_, _, ⟨T104, L104, k104, n104⟩, -, X104, ⟨Lc104, hQ104, l104, y104, z104⟩, st104⟩ := X102.specialBack hx (y := (⟨"com/example/dowser/dowser/search/Page", "<init>", "(II)V"⟩ : MethodName)) rfl hown (mvT hZ (hw _ (List.mem_of_getElem? (i := 4) rfl))) (mvT hZ (hw _ (List.mem_of_getElem? (i := 5) rfl))) (mvT hZ (hw _ (List.mem_of_getElem? (i := 6) rfl))) (by decide) (backOf (W := 1) (rm_pg l Z a0 hw [] pg st ro  h102 n0 Z103 A102 ge_pg F_start_pg F_rows_pg n_st n_ro) hZ (hw _ (List.mem_of_getElem? (i := 6) rfl)) (hw _ (List.mem_of_getElem? (i := 3) rfl)) (by decide) (by decide)) (g := (mkF m 24 #[iv p0, iv p1, iv p2, iv st, iv ro, iv ma, .unset, .unset, .unset, .unset, .unset, .unset, .unset, .unset] [(.int ro), (.int st), (.ref pg), (.ref pg)])) rfl (by rw [hml]; rfl) (Steps.refl _) (a := pg) (argsL := [(.int st), (.int ro)]) (rest := [(.ref pg)]) (lenOf pd_1 rfl) rfl (by show 2 * 0 + _ ≤ _; exact Nat.le_of_eq rfl) (hb hby at_24) (fun _ _ => ⟨rfl, e102, (by decide : 1 + 0 ≤ _), (by decide : 2 + 0 ≤ _)⟩)
  dsimp only [Pt.U, Pt.locs, Pt.cells, Pt.slots] at X104 l104 y104 z104 st104 hQ104
  subst l104 y104 z104
  obtain ⟨rfl, N104q, K1, E1, F1, F2⟩ := hQ104
  have N104 := Fr.app N0 N104q
  have f105 := A102.keep K1
  have Z106 := Nat.le_trans Z103 K1.1
  obtain ⟨cq107, kq107, q107a, q107b, q107c⟩ := isOf hZ rfl f105
  obtain ⟨_, _, ⟨T107, L107, k107, n107⟩, -, X107, ⟨Lc107, hQ107, l107, y107, z107⟩, st107⟩ := X104.virtualBack hx (y := (⟨"com/example/dowser/dowser/search/Page", "rankDepth", "(I)I"⟩ : MethodName)) (z := (⟨"com/example/dowser/dowser/search/Page", "rankDepth", "(I)I"⟩ : MethodName)) hown (mvT hZ (hw _ (List.mem_of_getElem? (i := 19) rfl))) (mvT hZ (hw _ (List.mem_of_getElem? (i := 20) rfl))) (notFace_of_selects (args := #[]) (mvT hZ (hw _ (List.mem_of_getElem? (i := 22) rfl)))) (mvT hZ (hw _ (List.mem_of_getElem? (i := 22) rfl))) (mvT hZ (hw _ (List.mem_of_getElem? (i := 21) rfl))) (by decide) (backOf (W := 0) (rm_rk l Z a0 hw [] pg ma st ro T104.heap n0 Z106 f105 ge_pg F1 F2 n_ma) hZ (hw _ (List.mem_of_getElem? (i := 23) rfl)) (hw _ (List.mem_of_getElem? (i := 3) rfl)) (by decide) (by decide)) q107a q107c (g := (mkF m 33 #[iv p0, iv p1, iv p2, iv st, iv ro, iv ma, rv pg, .unset, .unset, .unset, .unset, .unset, .unset, .unset] [(.int ma), (.ref pg)])) rfl (by rw [hml]; rfl) (Steps.refl _) (argsL := [(.int ma)]) (rest := []) (lenOf pd_2 rfl) rfl (by show 2 * 0 + _ ≤ _; exact Nat.le_of_eq rfl) (hb hby at_33) (fun _ _ => ⟨rfl, rfl, (by decide : 1 + 0 ≤ _), (by decide : 2 + 0 ≤ _)⟩)
  dsimp only [Pt.U, Pt.locs, Pt.cells, Pt.slots] at X107 l107 y107 z107 st107 hQ107
  subst l107 y107 z107
  obtain ⟨rfl, N107q, eK⟩ := hQ107
  have N107 := Fr.app N104 N107q
  obtain ⟨_, _, ⟨T108, L108, k108, n108⟩, -, X108, ⟨Lc108, hQ108, l108, y108, z108⟩, st108⟩ := Jvm.LawKit.callS X107 hx (y := (⟨"java/lang/Math", "min", "(JJ)J"⟩ : MethodName)) hown (mvT hZ (hw _ (List.mem_of_getElem? (i := 24) rfl))) (mvT hZ (hw _ (List.mem_of_getElem? (i := 25) rfl))) (mvT hZ (hw _ (List.mem_of_getElem? (i := 26) rfl))) (mvT hZ (hw _ (List.mem_of_getElem? (i := 27) rfl))) (by decide) (backOf (W := 0) (rm_mn l Z a0 hw [] (st.toInt64 + ro.toInt64) ma.toInt64  T104.heap n0 Z106 ) hZ (hw _ (List.mem_of_getElem? (i := 27) rfl)) (hw _ (List.mem_of_getElem? (i := 26) rfl)) (by decide) (by decide)) (g := (mkF m 47 #[iv p0, iv p1, iv p2, iv st, iv ro, iv ma, rv pg, iv (own_rank st ro ma), .unset, .unset, .unset, .unset, .unset, .unset] [(.long ma.toInt64), (.long (st.toInt64 + ro.toInt64))])) rfl (by rw [hml]; rfl) (argsL := [(.long (st.toInt64 + ro.toInt64)), (.long ma.toInt64)]) (rest := []) (lenOf pd_3 rfl) rfl (by show 2 * 0 + _ ≤ _; exact Nat.le_of_eq rfl) (hb hby at_47) (fun _ _ => ⟨rfl, eK, (by decide : 1 + 0 ≤ _), (by decide : 2 + 0 ≤ _)⟩)
  dsimp only [Pt.U, Pt.locs, Pt.cells, Pt.slots] at X108 l108 y108 z108 st108 hQ108
  subst l108 y108 z108
  obtain ⟨rfl, N108q, eM⟩ := hQ108
  have N108 := Fr.app N107 N108q
  obtain ⟨_, _, ⟨T109, L109, k109, n109⟩, -, X109, ⟨Lc109, hQ109, l109, y109, z109⟩, st109⟩ := Jvm.LawKit.callS X108 hx (y := (⟨"java/lang/Math", "max", "(JJ)J"⟩ : MethodName)) hown (mvT hZ (hw _ (List.mem_of_getElem? (i := 28) rfl))) (mvT hZ (hw _ (List.mem_of_getElem? (i := 29) rfl))) (mvT hZ (hw _ (List.mem_of_getElem? (i := 26) rfl))) (mvT hZ (hw _ (List.mem_of_getElem? (i := 30) rfl))) (by decide) (backOf (W := 0) (rm_mx l Z a0 hw [] (0 : Int64) ((own_minL (st.toInt64 + ro.toInt64) ma.toInt64) - st.toInt64)  T104.heap n0 Z106 ) hZ (hw _ (List.mem_of_getElem? (i := 30) rfl)) (hw _ (List.mem_of_getElem? (i := 26) rfl)) (by decide) (by decide)) (g := (mkF m 58 #[iv p0, iv p1, iv p2, iv st, iv ro, iv ma, rv pg, iv (own_rank st ro ma), .val (.long (own_minL (st.toInt64 + ro.toInt64) ma.toInt64)), .second, .unset, .unset, .unset, .unset] [(.long ((own_minL (st.toInt64 + ro.toInt64) ma.toInt64) - st.toInt64)), (.long 0)])) rfl (by rw [hml]; rfl) (argsL := [(.long 0), (.long ((own_minL (st.toInt64 + ro.toInt64) ma.toInt64) - st.toInt64))]) (rest := []) (lenOf pd_3 rfl) rfl (by show 2 * 0 + _ ≤ _; exact Nat.le_of_eq rfl) (hb hby at_58) (fun _ _ => ⟨rfl, eM, (by decide : 1 + 0 ≤ _), (by decide : 2 + 0 ≤ _)⟩)
  dsimp only [Pt.U, Pt.locs, Pt.cells, Pt.slots] at X109 l109 y109 z109 st109 hQ109
  subst l109 y109 z109
  obtain ⟨rfl, N109q, eX⟩ := hQ109
  have N109 := Fr.app N108 N109q
  have go110 : ∀ t, Steps p.tables e below (T109.setTop (mkF m 67 #[iv p0, iv p1, iv p2, iv st, iv ro, iv ma, rv pg, iv (own_rank st ro ma), .val (.long (own_minL (st.toInt64 + ro.toInt64) ma.toInt64)), .second, .val (.long (own_maxL (0 : Int64) ((own_minL (st.toInt64 + ro.toInt64) ma.toInt64) - st.toInt64))), .second, .unset, .unset] [(.int (lcmpW (own_maxL (0 : Int64) ((own_minL (st.toInt64 + ro.toInt64) ma.toInt64) - st.toInt64)) (0 : Int64)))])) t → Steps p.tables e below O t := fun t k => go101 t (by
    refine st102 _ ?_
    show Steps _ _ _ (T102.setTop (mkF m 20 _ [(.ref pg)])) _
    refine XS.dup X102.here hx rfl (hb hby at_20) rfl rfl ?_
    show Steps _ _ _ (T102.setTop (mkF m 21 _ [(.ref pg), (.ref pg)])) _
    refine XS.iloadN X102.here hx rfl (hb hby at_21) rfl ?_
    show Steps _ _ _ (T102.setTop (mkF m 22 _ [(.int st), (.ref pg), (.ref pg)])) _
    refine XS.iload X102.here hx rfl (hb hby at_22) rfl ?_
    show Steps _ _ _ (T102.setTop (mkF m 24 _ [(.int ro), (.int st), (.ref pg), (.ref pg)])) _
    refine st104.trans ?_
    show Steps _ _ _ (T104.setTop (mkF m 27 _ [(.ref pg)])) _
    refine XS.astore X104.here hx rfl (hb hby at_27) rfl rfl (l' := #[iv p0, iv p1, iv p2, iv st, iv ro, iv ma, rv pg, .unset, .unset, .unset, .unset, .unset, .unset, .unset]) rfl ?_
    show Steps _ _ _ (T104.setTop (mkF m 29 _ [])) _
    refine XS.aload X104.here hx rfl (hb hby at_29) rfl rfl ?_
    show Steps _ _ _ (T104.setTop (mkF m 31 _ [(.ref pg)])) _
    refine XS.iload X104.here hx rfl (hb hby at_31) rfl ?_
    show Steps _ _ _ (T104.setTop (mkF m 33 _ [(.int ma), (.ref pg)])) _
    refine st107.trans ?_
    show Steps _ _ _ (T107.setTop (mkF m 36 _ [(.int (own_rank st ro ma))])) _
    refine XS.istore X107.here hx rfl (hb hby at_36) rfl (l' := #[iv p0, iv p1, iv p2, iv st, iv ro, iv ma, rv pg, iv (own_rank st ro ma), .unset, .unset, .unset, .unset, .unset, .unset]) rfl ?_
    show Steps _ _ _ (T107.setTop (mkF m 38 _ [])) _
    refine XS.iloadN X107.here hx rfl (hb hby at_38) rfl ?_
    show Steps _ _ _ (T107.setTop (mkF m 39 _ [(.int st)])) _
    refine XS.i2l X107.here hx rfl (hb hby at_39) rfl ?_
    show Steps _ _ _ (T107.setTop (mkF m 40 _ [(.long st.toInt64)])) _
    refine XS.iload X107.here hx rfl (hb hby at_40) rfl ?_
    show Steps _ _ _ (T107.setTop (mkF m 42 _ [(.int ro), (.long st.toInt64)])) _
    refine XS.i2l X107.here hx rfl (hb hby at_42) rfl ?_
    show Steps _ _ _ (T107.setTop (mkF m 43 _ [(.long ro.toInt64), (.long st.toInt64)])) _
    refine XS.ladd X107.here hx rfl (hb hby at_43) rfl ?_
    show Steps _ _ _ (T107.setTop (mkF m 44 _ [(.long (st.toInt64 + ro.toInt64))])) _
    refine XS.iload X107.here hx rfl (hb hby at_44) rfl ?_
    show Steps _ _ _ (T107.setTop (mkF m 46 _ [(.int ma), (.long (st.toInt64 + ro.toInt64))])) _
    refine XS.i2l X107.here hx rfl (hb hby at_46) rfl ?_
    show Steps _ _ _ (T107.setTop (mkF m 47 _ [(.long ma.toInt64), (.long (st.toInt64 + ro.toInt64))])) _
    refine st108 _ ?_
    show Steps _ _ _ (T108.setTop (mkF m 50 _ [(.long (own_minL (st.toInt64 + ro.toInt64) ma.toInt64))])) _
    refine XS.lstore X108.here hx rfl (hb hby at_50) rfl (l' := #[iv p0, iv p1, iv p2, iv st, iv ro, iv ma, rv pg, iv (own_rank st ro ma), .val (.long (own_minL (st.toInt64 + ro.toInt64) ma.toInt64)), .second, .unset, .unset, .unset, .unset]) rfl ?_
    show Steps _ _ _ (T108.setTop (mkF m 52 _ [])) _
    refine XS.lconst X108.here hx rfl (hb hby at_52) ?_
    show Steps _ _ _ (T108.setTop (mkF m 53 _ [(.long 0)])) _
    refine XS.lload X108.here hx rfl (hb hby at_53) rfl ?_
    show Steps _ _ _ (T108.setTop (mkF m 55 _ [(.long (own_minL (st.toInt64 + ro.toInt64) ma.toInt64)), (.long 0)])) _
    refine XS.iloadN X108.here hx rfl (hb hby at_55) rfl ?_
    show Steps _ _ _ (T108.setTop (mkF m 56 _ [(.int st), (.long (own_minL (st.toInt64 + ro.toInt64) ma.toInt64)), (.long 0)])) _
    refine XS.i2l X108.here hx rfl (hb hby at_56) rfl ?_
    show Steps _ _ _ (T108.setTop (mkF m 57 _ [(.long st.toInt64), (.long (own_minL (st.toInt64 + ro.toInt64) ma.toInt64)), (.long 0)])) _
    refine XS.lsub X108.here hx rfl (hb hby at_57) rfl ?_
    show Steps _ _ _ (T108.setTop (mkF m 58 _ [(.long ((own_minL (st.toInt64 + ro.toInt64) ma.toInt64) - st.toInt64)), (.long 0)])) _
    refine st109 _ ?_
    show Steps _ _ _ (T109.setTop (mkF m 61 _ [(.long (own_maxL (0 : Int64) ((own_minL (st.toInt64 + ro.toInt64) ma.toInt64) - st.toInt64)))])) _
    refine XS.lstore X109.here hx rfl (hb hby at_61) rfl (l' := #[iv p0, iv p1, iv p2, iv st, iv ro, iv ma, rv pg, iv (own_rank st ro ma), .val (.long (own_minL (st.toInt64 + ro.toInt64) ma.toInt64)), .second, .val (.long (own_maxL (0 : Int64) ((own_minL (st.toInt64 + ro.toInt64) ma.toInt64) - st.toInt64))), .second, .unset, .unset]) rfl ?_
    show Steps _ _ _ (T109.setTop (mkF m 63 _ [])) _
    refine XS.lload X109.here hx rfl (hb hby at_63) rfl ?_
    show Steps _ _ _ (T109.setTop (mkF m 65 _ [(.long (own_maxL (0 : Int64) ((own_minL (st.toInt64 + ro.toInt64) ma.toInt64) - st.toInt64)))])) _
    refine XS.lconst X109.here hx rfl (hb hby at_65) ?_
    show Steps _ _ _ (T109.setTop (mkF m 66 _ [(.long 0), (.long (own_maxL (0 : Int64) ((own_minL (st.toInt64 + ro.toInt64) ma.toInt64) - st.toInt64)))])) _
    refine XS.lcmp X109.here hx rfl (hb hby at_66) rfl ?_
    show Steps _ _ _ (T109.setTop (mkF m 67 _ [(.int (lcmpW (own_maxL (0 : Int64) ((own_minL (st.toInt64 + ro.toInt64) ma.toInt64) - st.toInt64)) (0 : Int64)))])) _
    exact k)
  obtain ⟨cnt, hcnt⟩ : ∃ z : Int64, z = (own_maxL (0 : Int64) ((own_minL (st.toInt64 + ro.toInt64) ma.toInt64) - st.toInt64)) := ⟨_, rfl⟩
  rw [← hcnt] at go110
  have fin := own_fin st ro ma g_st g_ro g_ma cnt hcnt
  by_cases hc : (lcmpW cnt (0 : Int64)) = (0 : Int32)
  · have go111 : ∀ t, Steps p.tables e below (T109.setTop (mkF m 95 #[iv p0, iv p1, iv p2, iv st, iv ro, iv ma, rv pg, iv (own_rank st ro ma), .val (.long (own_minL (st.toInt64 + ro.toInt64) ma.toInt64)), .second, .val (.long cnt), .second, .val (.long 0), .second] [(.int 1)])) t → Steps p.tables e below O t := fun t k => go110 t (by
      refine XS.ifNo X109.here hx rfl (hb hby at_67) rfl ((if0 _ _).trans (teq (hc : (lcmpW cnt (0 : Int64)) = (0 : Int32))).2) ?_
      show Steps _ _ _ (T109.setTop (mkF m 70 _ [])) _
      refine XS.lconst X109.here hx rfl (hb hby at_70) ?_
      show Steps _ _ _ (T109.setTop (mkF m 71 _ [(.long 0)])) _
      refine XS.goto X109.here hx rfl (pc0 := 71) (pc' := 79) rfl (hb hby at_71) (by decide) (by decide) ?_
      show Steps _ _ _ (T109.setTop (mkF m 79 _ [(.long 0)])) _
      refine XS.lstore X109.here hx rfl (hb hby at_79) rfl (l' := #[iv p0, iv p1, iv p2, iv st, iv ro, iv ma, rv pg, iv (own_rank st ro ma), .val (.long (own_minL (st.toInt64 + ro.toInt64) ma.toInt64)), .second, .val (.long cnt), .second, .val (.long 0), .second]) rfl ?_
      show Steps _ _ _ (T109.setTop (mkF m 81 _ [])) _
      refine XS.iload X109.here hx rfl (hb hby at_81) rfl ?_
      show Steps _ _ _ (T109.setTop (mkF m 83 _ [(.int (own_rank st ro ma))])) _
      refine XS.i2l X109.here hx rfl (hb hby at_83) rfl ?_
      show Steps _ _ _ (T109.setTop (mkF m 84 _ [(.long (own_rank st ro ma).toInt64)])) _
      refine XS.lload X109.here hx rfl (hb hby at_84) rfl ?_
      show Steps _ _ _ (T109.setTop (mkF m 86 _ [(.long 0), (.long (own_rank st ro ma).toInt64)])) _
      refine XS.lcmp X109.here hx rfl (hb hby at_86) rfl ?_
      show Steps _ _ _ (T109.setTop (mkF m 87 _ [(.int (lcmpW (own_rank st ro ma).toInt64 (0 : Int64)))])) _
      refine XS.ifNo X109.here hx rfl (hb hby at_87) rfl ((if0 _ _).trans (teq ((lw_eq _ _).mpr (fin.1 ((lw_eq _ _).mp hc)) : (lcmpW (own_rank st ro ma).toInt64 (0 : Int64)) = (0 : Int32))).2) ?_
      show Steps _ _ _ (T109.setTop (mkF m 90 _ [])) _
      refine XS.iconst X109.here hx rfl (hb hby at_90) ?_
      show Steps _ _ _ (T109.setTop (mkF m 91 _ [(.int 1)])) _
      refine XS.goto X109.here hx rfl (pc0 := 91) (pc' := 95) rfl (hb hby at_91) (by decide) (by decide) ?_
      show Steps _ _ _ (T109.setTop (mkF m 95 _ [(.int 1)])) _
      exact k)
    subst hO
    obtain ⟨fs, hr, hrun, hended, hW, hsame⟩ := X109.leave (v := some (.int 1)) (fun h => by rw [Bd.returns] at h; cases h)
    refine ⟨_, _, go111 _ ?_, hrun, hended, _, _, rfl, ?_, ⟨_, rfl⟩, hW, hsame.mono (by decide) (by decide)⟩
    · exact retN X109 hx (t := .boolean) Bd.returns (by simp) (hb hby at_95) hr
    · show Q_law Z p0 p1 p2 h0 n0 _ T109.heap _
      rw [eX]
      exact ⟨rfl, N109⟩
  · have go113 : ∀ t, Steps p.tables e below (T109.setTop (mkF m 95 #[iv p0, iv p1, iv p2, iv st, iv ro, iv ma, rv pg, iv (own_rank st ro ma), .val (.long (own_minL (st.toInt64 + ro.toInt64) ma.toInt64)), .second, .val (.long cnt), .second, .val (.long (st.toInt64 + cnt)), .second] [(.int 1)])) t → Steps p.tables e below O t := fun t k => go110 t (by
      refine XS.ifYes X109.here hx rfl (pc0 := 67) (pc' := 74) rfl (hb hby at_67) rfl ((if0 _ _).trans (feq (hc : ¬ ((lcmpW cnt (0 : Int64)) = (0 : Int32)))).2) (by decide) (by decide) ?_
      show Steps _ _ _ (T109.setTop (mkF m 74 _ [])) _
      refine XS.iloadN X109.here hx rfl (hb hby at_74) rfl ?_
      show Steps _ _ _ (T109.setTop (mkF m 75 _ [(.int st)])) _
      refine XS.i2l X109.here hx rfl (hb hby at_75) rfl ?_
      show Steps _ _ _ (T109.setTop (mkF m 76 _ [(.long st.toInt64)])) _
      refine XS.lload X109.here hx rfl (hb hby at_76) rfl ?_
      show Steps _ _ _ (T109.setTop (mkF m 78 _ [(.long cnt), (.long st.toInt64)])) _
      refine XS.ladd X109.here hx rfl (hb hby at_78) rfl ?_
      show Steps _ _ _ (T109.setTop (mkF m 79 _ [(.long (st.toInt64 + cnt))])) _
      refine XS.lstore X109.here hx rfl (hb hby at_79) rfl (l' := #[iv p0, iv p1, iv p2, iv st, iv ro, iv ma, rv pg, iv (own_rank st ro ma), .val (.long (own_minL (st.toInt64 + ro.toInt64) ma.toInt64)), .second, .val (.long cnt), .second, .val (.long (st.toInt64 + cnt)), .second]) rfl ?_
      show Steps _ _ _ (T109.setTop (mkF m 81 _ [])) _
      refine XS.iload X109.here hx rfl (hb hby at_81) rfl ?_
      show Steps _ _ _ (T109.setTop (mkF m 83 _ [(.int (own_rank st ro ma))])) _
      refine XS.i2l X109.here hx rfl (hb hby at_83) rfl ?_
      show Steps _ _ _ (T109.setTop (mkF m 84 _ [(.long (own_rank st ro ma).toInt64)])) _
      refine XS.lload X109.here hx rfl (hb hby at_84) rfl ?_
      show Steps _ _ _ (T109.setTop (mkF m 86 _ [(.long (st.toInt64 + cnt)), (.long (own_rank st ro ma).toInt64)])) _
      refine XS.lcmp X109.here hx rfl (hb hby at_86) rfl ?_
      show Steps _ _ _ (T109.setTop (mkF m 87 _ [(.int (lcmpW (own_rank st ro ma).toInt64 (st.toInt64 + cnt)))])) _
      refine XS.ifNo X109.here hx rfl (hb hby at_87) rfl ((if0 _ _).trans (teq ((lw_eq _ _).mpr (fin.2 (fun h => hc ((lw_eq _ _).mpr h))) : (lcmpW (own_rank st ro ma).toInt64 (st.toInt64 + cnt)) = (0 : Int32))).2) ?_
      show Steps _ _ _ (T109.setTop (mkF m 90 _ [])) _
      refine XS.iconst X109.here hx rfl (hb hby at_90) ?_
      show Steps _ _ _ (T109.setTop (mkF m 91 _ [(.int 1)])) _
      refine XS.goto X109.here hx rfl (pc0 := 91) (pc' := 95) rfl (hb hby at_91) (by decide) (by decide) ?_
      show Steps _ _ _ (T109.setTop (mkF m 95 _ [(.int 1)])) _
      exact k)
    subst hO
    obtain ⟨fs, hr, hrun, hended, hW, hsame⟩ := X109.leave (v := some (.int 1)) (fun h => by rw [Bd.returns] at h; cases h)
    refine ⟨_, _, go113 _ ?_, hrun, hended, _, _, rfl, ?_, ⟨_, rfl⟩, hW, hsame.mono (by decide) (by decide)⟩
    · exact retN X109 hx (t := .boolean) Bd.returns (by simp) (hb hby at_95) hr
    · show Q_law Z p0 p1 p2 h0 n0 _ T109.heap _
      rw [eX]
      exact ⟨rfl, N109⟩
set_option maxRecDepth 65536 in
set_option maxHeartbeats 40000000 in
theorem comes_1 {Post : Tables → Env → Array Value → State → Outcome → State → Prop} (hpost : ∀ tb e args s v u, (limb_1_1.after args s (.returned v) u = true ∧ limb_1_2.after args s (.returned v) u = true ∧ True) → FrameEnd s (.returned v) u (Jvm.fieldLocs frame_1_writes args s ++ Jvm.arrayLocs frame_1_arrays args s ++ Jvm.staticLocs frame_1_statics s) 16 128 → Post tb e args s (.returned v) u) :
    ArmFor flags0 classFile x code maxLocals ret World_1 tables_1 room_1 Calls_1 rest_1 Pre_1 Post := by
  intro l hfl _ _ p e ha hc hk s m args below hf hA hF happ hP
  obtain ⟨hcalls, hrest, hpre⟩ := hP
  obtain ⟨-, -, -, hnamed, -, -, -, hat⟩ := (Spec.applies_iff hf).mp happ
  obtain ⟨hg, hn⟩ := and_e (Cond.before_iff.mp (show (Jvm.Cond.and given_1 narrow_1).before args s = true from hpre))
  obtain ⟨hcnt, r0⟩ := and_e hg
  obtain ⟨c0, r1⟩ := and_e r0
  obtain ⟨c1, r2⟩ := and_e r1
  obtain ⟨w0, w1, w2, rfl⟩ : ∃ w0 w1 w2 : Value, args = #[w0, w1, w2] := by
    have hs : args.size = 3 := by simpa [Cond.value, given_1] using hcnt
    obtain ⟨L⟩ := args
    match L, hs with
    | [w0, w1, w2], _ => exact ⟨w0, w1, w2, rfl⟩
  have hw := fun d (hd : d ∈ tables_1) => atoms_spec (ws := Jvm.Cond.code x code maxLocals ret :: tables_1) hat d (List.mem_cons_of_mem _ hd)
  obtain ⟨i0, ei0⟩ := is_v c0
  obtain rfl : w0 = (.int i0) := Option.some.inj ei0
  obtain ⟨i1, ei1⟩ := is_v c1
  obtain rfl : w1 = (.int i1) := Option.some.inj ei1
  obtain ⟨i2, ei2⟩ := is_v r2
  obtain rfl : w2 = (.int i2) := Option.some.inj ei2
  obtain ⟨n, o, h1, h2, h3, _, L, rfl, ⟨rfl, N⟩, hq⟩ := rm_law l s _ hw tables_1 i0 i1 i2 s.heap s.heap.size (Nat.le_refl _) p e ha hc hk s m _ below hf ((Spec.applies_iff_loose hf).mp happ).1 ⟨rfl, State.Warmed39.refl s, rfl⟩ trivial
  refine ⟨n, _, h1, h2, h3, hpost _ _ _ _ _ _ ⟨Cond.after_iff.mpr rfl, Cond.after_iff.mpr (eq_i res_at (Term.int_eval (1)) rfl), trivial⟩ ⟨hq.1, hq.2.1, (hq.2.2.sift fun y hy => Or.inr (N y hy)).mono (by decide) (by decide)⟩⟩
theorem main_1_1 : Claimed_1_1 := comes_1 fun _ _ _ _ _ _ h hF => ⟨h.1, hF⟩
theorem main_1_2 : Claimed_1_2 := comes_1 fun _ _ _ _ _ _ h hF => ⟨h.2.1, hF⟩
end Jvm.Pilot.@@N@@
namespace Jvm.Pilot.@@N@@
open Jvm Jvm.ClassFile Sem Op Lib Jvm.Free Jvm.Stand Jvm.Pilot.@@N@@.Jvm.D
/-! MADE BY PROGRAM (witnessworld.py) out of the Statement's table words and the real class files: 11 classes; the members and pool entries that the words name. The judged class is class 1, her method 1. -/
namespace start1
open Jvm.ClassFile
def u (s : String) : CpInfo := .utf8 (stringToUtf16 s)
/-- a pool by its gaps: so many unusable entries, then the entry; so many at the end -/
def gap : Nat → List CpInfo → List CpInfo
  | 0, r => r
  | n + 1, r => .unusable :: gap n r
def poolList (es : List (Nat × CpInfo)) (last : Nat) : List CpInfo := es.foldr (fun e r => gap e.1 (e.2 :: r)) (gap last [])
def pool (es : List (Nat × CpInfo)) (last : Nat) : Array CpInfo := ⟨poolList es last⟩
def fileOf (pool : Array CpInfo) (this : Nat) (attrs : Array Attribute := #[]) (ms : Array MethodInfo := #[]) (fl : Nat := 33) (sup : Nat := 0) (ifs : Array Nat := #[]) (fds : Array FieldInfo := #[]) : ClassFile where
  minorVersion := 0
  majorVersion := 65
  constantPool := pool
  accessFlags := fl
  thisClass := this
  superClass := sup
  interfaces := ifs
  fields := fds
  methods := ms
  attributes := attrs
def plain (name : String) (sup : Option ClassId) : Class where
  name := name
  kind := .ordinary
  loader := none
  accessFlags := 33
  super := sup
  interfaces := #[]
  cf := none
  fields := #[]
  methods := #[]
  instanceTypes := #[]
  staticTypes := #[]
  resolved := #[]
  callSites := []
  init := .initialized
  statics := none
  mirror := none

def pool0 : Array CpInfo := pool [(5, u "<init>"), (0, u "()V"), (1, .class_ 10), (1, u "java/lang/Object")] 113

def k0c0 : Code := { maxStack := 0, maxLocals := 1, code := object_method_1_code, exceptionTable := #[], attributes := #[] }
def k0m0 : Method := { name := "<init>", desc := "()V", sig := { parameters := [], returnType := none }, accessFlags := 1, code := some k0c0 }
/-- java/lang/Object -/
def k0 : Class := { plain "java/lang/Object" none with
  accessFlags := 33
  interfaces := #[]
  cf := some (fileOf pool0 8 #[] #[{ accessFlags := 1, nameIndex := 5, descriptorIndex := 6, attributes := #[] }] 33 0 #[] #[])
  fields := #[]
  methods := #[k0m0]
  instanceTypes := #[]
  staticTypes := #[]
  resolved := Array.replicate 124 none
  statics := none }

def pool1 : Array CpInfo := pool [(2, .class_ 4), (1, u "java/lang/Object"), (0, u "<init>"), (0, u "()V"), (0, .integer 2147483647), (0, .class_ 9), (0, u "com/example/dowser/dowser/search/Page"), (0, .methodref 8 11), (0, .nameAndType 5 12), (0, u "(II)V"), (0, .methodref 8 14), (0, .nameAndType 15 16), (0, u "rankDepth"), (0, u "(I)I"), (0, .methodref 18 19), (0, .class_ 20), (0, .nameAndType 21 22), (0, u "java/lang/Math"), (0, u "min"), (0, u "(JJ)J"), (0, .methodref 18 24), (0, .nameAndType 25 22), (0, u "max"), (0, .class_ 27), (0, u "com/example/dowser/dowser/search/PageRankDepthPinLaw"), (2, u "law"), (0, u "(III)Z")] 3

def k1m0 : Method := { name := "<init>", desc := "()V", sig := { parameters := [], returnType := none }, accessFlags := 1, code := none }
def k1c1 : Code := { maxStack := 6, maxLocals := 14, code := code, exceptionTable := #[], attributes := #[] }
def k1m1 : Method := { name := "law", desc := "(III)Z", sig := { parameters := [.int, .int, .int], returnType := some .boolean }, accessFlags := 9, code := some k1c1 }
/-- com/example/dowser/dowser/search/PageRankDepthPinLaw -/
def k1 : Class := { plain "com/example/dowser/dowser/search/PageRankDepthPinLaw" (some 0) with
  accessFlags := 49
  interfaces := #[]
  cf := some (fileOf pool1 26 #[] #[{ accessFlags := 1, nameIndex := 5, descriptorIndex := 6, attributes := #[] }, { accessFlags := 9, nameIndex := 30, descriptorIndex := 31, attributes := #[] }] 49 2 #[] #[])
  fields := #[]
  methods := #[k1m0, k1m1]
  instanceTypes := #[]
  staticTypes := #[]
  resolved := Array.replicate 35 none
  statics := none }

def pool2 : Array CpInfo := pool [(1, .methodref 2 3), (0, .class_ 4), (0, .nameAndType 5 6), (0, u "java/lang/Object"), (0, u "<init>"), (0, u "()V"), (0, .class_ 8), (0, u "java/lang/Record")] 13

def k2c0 : Code := { maxStack := 1, maxLocals := 1, code := jdk_30_method_1_code, exceptionTable := #[], attributes := #[] }
def k2m0 : Method := { name := "<init>", desc := "()V", sig := { parameters := [], returnType := none }, accessFlags := 4, code := some k2c0 }
/-- java/lang/Record -/
def k2 : Class := { plain "java/lang/Record" (some 0) with
  accessFlags := 1057
  interfaces := #[]
  cf := some (fileOf pool2 7 #[] #[{ accessFlags := 4, nameIndex := 5, descriptorIndex := 6, attributes := #[] }] 1057 2 #[] #[])
  fields := #[]
  methods := #[k2m0]
  instanceTypes := #[]
  staticTypes := #[]
  resolved := Array.replicate 22 none
  statics := none }

def pool3 : Array CpInfo := pool [(1, .methodref 2 3), (0, .class_ 4), (0, .nameAndType 5 6), (0, u "java/lang/Record"), (0, u "<init>"), (0, u "()V"), (10, .fieldref 18 19), (0, .class_ 20), (0, .nameAndType 21 22), (0, u "com/example/dowser/dowser/search/Page"), (0, u "start"), (0, u "I"), (0, .fieldref 18 24), (0, .nameAndType 25 22), (0, u "rows"), (15, u "(II)V"), (2, u "FIRST"), (0, u "Lcom/example/dowser/dowser/search/Page;"), (4, u "rankDepth"), (0, u "(I)I")] 37

def k3c0 : Code := { maxStack := 3, maxLocals := 3, code := prog_22_method_1_code, exceptionTable := #[], attributes := #[] }
def k3m0 : Method := { name := "<init>", desc := "(II)V", sig := { parameters := [.int, .int], returnType := none }, accessFlags := 1, code := some k3c0 }
def k3c1 : Code := { maxStack := 3, maxLocals := 2, code := prog_22_method_2_code, exceptionTable := #[], attributes := #[] }
def k3m1 : Method := { name := "rankDepth", desc := "(I)I", sig := { parameters := [.int], returnType := some .int }, accessFlags := 1, code := some k3c1 }
/-- com/example/dowser/dowser/search/Page -/
def k3 : Class := { plain "com/example/dowser/dowser/search/Page" (some 2) with
  accessFlags := 49
  interfaces := #[]
  cf := some (fileOf pool3 18 #[] #[{ accessFlags := 1, nameIndex := 5, descriptorIndex := 41, attributes := #[] }, { accessFlags := 1, nameIndex := 50, descriptorIndex := 51, attributes := #[] }] 49 2 #[] #[{ accessFlags := 18, nameIndex := 21, descriptorIndex := 22, attributes := #[] }, { accessFlags := 18, nameIndex := 25, descriptorIndex := 22, attributes := #[] }, { accessFlags := 25, nameIndex := 44, descriptorIndex := 45, attributes := #[] }])
  fields := #[{ name := "start", type := .int, accessFlags := 18, slot := 0, constantValue := 0 }, { name := "rows", type := .int, accessFlags := 18, slot := 1, constantValue := 0 }, { name := "FIRST", type := (.object "com/example/dowser/dowser/search/Page"), accessFlags := 25, slot := 0, constantValue := 0 }]
  methods := #[k3m0, k3m1]
  instanceTypes := #[.int, .int]
  staticTypes := #[(.object "com/example/dowser/dowser/search/Page")]
  resolved := Array.replicate 89 none
  statics := none }

def pool4 : Array CpInfo := pool [(1, .class_ 2), (0, u "java/lang/Math"), (1, .class_ 6), (1, u "java/lang/Object"), (0, u "<init>"), (0, u "()V"), (89, .class_ 100), (1, u "java/lang/Math$RandomNumberGeneratorHolder"), (20, u "(JJ)J"), (50, u "negativeZeroFloatBits"), (0, u "J"), (2, u "negativeZeroDoubleBits"), (21, u "max"), (2, u "min"), (43, u "$assertionsDisabled"), (0, u "Z"), (91, u "twoToTheDoubleScaleDown"), (0, u "D"), (4, u "twoToTheDoubleScaleUp"), (9, u "E"), (3, u "PI"), (2, u "TAU"), (2, u "DEGREES_TO_RADIANS"), (0, u "RADIANS_TO_DEGREES")] 94

def k4m0 : Method := { name := "<init>", desc := "()V", sig := { parameters := [], returnType := none }, accessFlags := 2, code := none }
def k4c1 : Code := { maxStack := 4, maxLocals := 4, code := jdk_29_method_66_code, exceptionTable := #[], attributes := #[] }
def k4m1 : Method := { name := "max", desc := "(JJ)J", sig := { parameters := [.long, .long], returnType := some .long }, accessFlags := 9, code := some k4c1 }
def k4c2 : Code := { maxStack := 4, maxLocals := 4, code := jdk_29_method_70_code, exceptionTable := #[], attributes := #[] }
def k4m2 : Method := { name := "min", desc := "(JJ)J", sig := { parameters := [.long, .long], returnType := some .long }, accessFlags := 9, code := some k4c2 }
/-- java/lang/Math -/
def k4 : Class := { plain "java/lang/Math" (some 0) with
  accessFlags := 49
  interfaces := #[]
  cf := some (fileOf pool4 1 #[.nestMembers #[98]] #[{ accessFlags := 2, nameIndex := 7, descriptorIndex := 8, attributes := #[] }, { accessFlags := 9, nameIndex := 198, descriptorIndex := 121, attributes := #[] }, { accessFlags := 9, nameIndex := 201, descriptorIndex := 121, attributes := #[] }] 49 4 #[] #[{ accessFlags := 25, nameIndex := 354, descriptorIndex := 339, attributes := #[] }, { accessFlags := 25, nameIndex := 358, descriptorIndex := 339, attributes := #[] }, { accessFlags := 25, nameIndex := 361, descriptorIndex := 339, attributes := #[] }, { accessFlags := 26, nameIndex := 364, descriptorIndex := 339, attributes := #[] }, { accessFlags := 26, nameIndex := 365, descriptorIndex := 339, attributes := #[] }, { accessFlags := 26, nameIndex := 172, descriptorIndex := 173, attributes := #[] }, { accessFlags := 26, nameIndex := 176, descriptorIndex := 173, attributes := #[] }, { accessFlags := 8, nameIndex := 344, descriptorIndex := 339, attributes := #[] }, { accessFlags := 8, nameIndex := 338, descriptorIndex := 339, attributes := #[] }, { accessFlags := 4120, nameIndex := 245, descriptorIndex := 246, attributes := #[] }])
  fields := #[{ name := "E", type := .double, accessFlags := 25, slot := 0, constantValue := 0 }, { name := "PI", type := .double, accessFlags := 25, slot := 1, constantValue := 0 }, { name := "TAU", type := .double, accessFlags := 25, slot := 2, constantValue := 0 }, { name := "DEGREES_TO_RADIANS", type := .double, accessFlags := 26, slot := 3, constantValue := 0 }, { name := "RADIANS_TO_DEGREES", type := .double, accessFlags := 26, slot := 4, constantValue := 0 }, { name := "negativeZeroFloatBits", type := .long, accessFlags := 26, slot := 5, constantValue := 0 }, { name := "negativeZeroDoubleBits", type := .long, accessFlags := 26, slot := 6, constantValue := 0 }, { name := "twoToTheDoubleScaleUp", type := .double, accessFlags := 8, slot := 7, constantValue := 0 }, { name := "twoToTheDoubleScaleDown", type := .double, accessFlags := 8, slot := 8, constantValue := 0 }, { name := "$assertionsDisabled", type := .boolean, accessFlags := 4120, slot := 9, constantValue := 0 }]
  methods := #[k4m0, k4m1, k4m2]
  instanceTypes := #[]
  staticTypes := #[.double, .double, .double, .double, .double, .long, .long, .double, .double, .boolean]
  resolved := Array.replicate 460 none
  statics := none }

def pool5 : Array CpInfo := pool [(1, u "java/lang/Cloneable"), (0, .class_ 1), (0, u "java/lang/Object"), (0, .class_ 3)] 3

/-- java/lang/Cloneable -/
def k5 : Class := { plain "java/lang/Cloneable" (some 0) with
  accessFlags := 1537
  interfaces := #[]
  cf := some (fileOf pool5 2 #[] #[] 1537 4 #[] #[])
  fields := #[]
  methods := #[]
  instanceTypes := #[]
  staticTypes := #[]
  resolved := Array.replicate 8 none
  statics := none }

def pool6 : Array CpInfo := pool [(1, u "java/io/Serializable"), (0, .class_ 1), (0, u "java/lang/Object"), (0, .class_ 3)] 3

/-- java/io/Serializable -/
def k6 : Class := { plain "java/io/Serializable" (some 0) with
  accessFlags := 1537
  interfaces := #[]
  cf := some (fileOf pool6 2 #[] #[] 1537 4 #[] #[])
  fields := #[]
  methods := #[]
  instanceTypes := #[]
  staticTypes := #[]
  resolved := Array.replicate 8 none
  statics := none }

/-- the primitive byte -/
def k7 : Class := { plain "byte" none with kind := .primitive 'B', accessFlags := 0x411 }
/-- [B -/
def k8 : Class := { plain "[B" (some 0) with kind := .array 7 .byte, interfaces := #[5, 6], accessFlags := 1041 }

/-- the primitive int -/
def k9 : Class := { plain "int" none with kind := .primitive 'I', accessFlags := 0x411 }
/-- [I -/
def k10 : Class := { plain "[I" (some 0) with kind := .array 9 .int, interfaces := #[5, 6], accessFlags := 1041 }

def heap : Heap := #[]
def classes : Array Class := #[k0, k1, k2, k3, k4, k5, k6, k7, k8, k9, k10]
def interned : List (Array UInt16 × Addr) := []
def slotsUsed : Nat := 0
def theMethod : MethodId := ⟨1, 1⟩
def args0 : Array Value := #[.int 5, .int 3, .int 7]
def aboutOver (below : List Frame) : State where
  vm := { classes := classes, interned := interned.toArray }
  heap := heap
  slotsUsed := slotsUsed
  threads := #[{ frames := .invoking theMethod args0 :: below }]
def below0 : List Frame := [.native { method := ⟨0, 0⟩, args := #[] }]
def about1 : State := aboutOver below0
def p0 : Program := .bare "" "" ""
def e0 : Env := launch0.env 0 0 0
theorem w_frames : about1.frames = Frame.invoking theMethod args0 :: below0 := rfl
set_option maxRecDepth 65536 in
theorem w_args : argsFit about1.vm theMethod args0 = true := by decide +kernel
set_option maxRecDepth 65536 in
theorem w_heap : heapFits about1 = true := by decide +kernel
set_option maxRecDepth 65536 in
theorem w_runnable : about1.curStatus? = some .runnable := by decide +kernel
set_option maxRecDepth 65536 in
theorem w_alone : about1.alone = true := by decide +kernel
set_option maxRecDepth 65536 in
theorem w_named : about1.methodNamed? x = some theMethod := by decide +kernel
set_option maxRecDepth 65536 in
theorem w_hears : about1.hears theMethod below0 = true := by decide +kernel
set_option maxRecDepth 65536 in
theorem w_ripe : about1.ripe theMethod args0 below0 = true := by decide +kernel
theorem w_running : about1.status = .running := rfl
set_option maxRecDepth 65536 in
theorem w_room : about1.hasRoom e0.platform room_1 = true :=
  launch0.hasRoom_least _ room_1 (by decide +kernel) (by decide +kernel) (by decide +kernel) (by decide +kernel) (by decide +kernel) (by decide +kernel)
theorem allAtoms_all (ts : List Jvm.Cond) (a : Array Jvm.Value) (st : Jvm.State) : (allAtoms ts).before a st = ts.all (fun c => c.before a st) := by
  induction ts with
  | nil => rfl
  | cons c t ih =>
    show (Jvm.Cond.and c (allAtoms t)).before a st = _
    rw [Jvm.Cond.before_and, ih, List.all_cons]
def words1 : List Jvm.Cond := Jvm.Cond.code x code maxLocals ret :: tables_1
/-- a 'code' word, met by the world's own term for the bytes: nothing is compared byte by byte -/
theorem code_word {y : MethodName} {bytes : ByteArray} {mx : Nat} {rt : Option FieldType} {a : Array Value} {s : State} {m : MethodId} {meth : Method} {c : Code} (h1 : s.methodNamed? y = some m) (h2 : s.vm.method? m = some meth) (h3 : meth.code = some c) (h4 : c.code = bytes)
    (h5 : (c.maxLocals == mx && c.exceptionTable.isEmpty && decide (c.maxStack ≤ mostOperands) && decide (meth.sig.returnType = rt) && !meth.locks && decide (parseMethodDescriptor y.desc = some meth.sig)) = true) : (Jvm.Cond.code y bytes mx rt).before a s = true := by
  simp only [Bool.and_eq_true, beq_iff_eq, Bool.not_eq_true', decide_eq_true_eq] at h5
  obtain ⟨⟨⟨⟨⟨g1, g2⟩, g3⟩, g4⟩, g5⟩, g6⟩ := h5
  simp [Cond.before, Cond.holds, Cond.value, h1, h2, h3, h4, g1, g2, g3, g4, g5, g6]
def isCode : Jvm.Cond → Bool
  | .code _ _ _ _ => true
  | _ => false
theorem all_split {L : List Jvm.Cond} {P : Jvm.Cond → Bool} (h1 : L.all (fun c => isCode c || P c) = true) (h2 : ∀ c ∈ L.filter isCode, P c = true) : L.all P = true := by
  refine List.all_eq_true.mpr fun c hc => ?_
  have h := List.all_eq_true.mp h1 c hc
  rcases Bool.eq_false_or_eq_true (isCode c) with hi | hi
  · exact h2 c (List.mem_filter.mpr ⟨hc, hi⟩)
  · simpa [hi] using h
set_option maxRecDepth 65536 in
theorem w_c0 : (Jvm.Cond.code x code maxLocals ret).before args0 about1 = true := code_word (m := ⟨1, 1⟩) (meth := k1m1) (c := k1c1) (by decide +kernel) rfl rfl rfl (by decide +kernel)
set_option maxRecDepth 65536 in
theorem w_c1 : (Jvm.Cond.code ({ cls := "com/example/dowser/dowser/search/Page", name := "<init>", desc := "(II)V" } : Jvm.MethodName) prog_22_method_1_code (3 : Nat) (Option.none : Option Jvm.ClassFile.FieldType)).before args0 about1 = true := code_word (m := ⟨3, 0⟩) (meth := k3m0) (c := k3c0) (by decide +kernel) rfl rfl rfl (by decide +kernel)
set_option maxRecDepth 65536 in
theorem w_c2 : (Jvm.Cond.code ({ cls := "java/lang/Record", name := "<init>", desc := "()V" } : Jvm.MethodName) jdk_30_method_1_code (1 : Nat) (Option.none : Option Jvm.ClassFile.FieldType)).before args0 about1 = true := code_word (m := ⟨2, 0⟩) (meth := k2m0) (c := k2c0) (by decide +kernel) rfl rfl rfl (by decide +kernel)
set_option maxRecDepth 65536 in
theorem w_c3 : (Jvm.Cond.code ({ cls := "java/lang/Object", name := "<init>", desc := "()V" } : Jvm.MethodName) object_method_1_code (1 : Nat) (Option.none : Option Jvm.ClassFile.FieldType)).before args0 about1 = true := code_word (m := ⟨0, 0⟩) (meth := k0m0) (c := k0c0) (by decide +kernel) rfl rfl rfl (by decide +kernel)
set_option maxRecDepth 65536 in
theorem w_c4 : (Jvm.Cond.code ({ cls := "com/example/dowser/dowser/search/Page", name := "rankDepth", desc := "(I)I" } : Jvm.MethodName) prog_22_method_2_code (2 : Nat) (Option.some Jvm.ClassFile.FieldType.int)).before args0 about1 = true := code_word (m := ⟨3, 1⟩) (meth := k3m1) (c := k3c1) (by decide +kernel) rfl rfl rfl (by decide +kernel)
set_option maxRecDepth 65536 in
theorem w_c5 : (Jvm.Cond.code ({ cls := "java/lang/Math", name := "min", desc := "(JJ)J" } : Jvm.MethodName) jdk_29_method_70_code (4 : Nat) (Option.some Jvm.ClassFile.FieldType.long)).before args0 about1 = true := code_word (m := ⟨4, 2⟩) (meth := k4m2) (c := k4c2) (by decide +kernel) rfl rfl rfl (by decide +kernel)
set_option maxRecDepth 65536 in
theorem w_c6 : (Jvm.Cond.code ({ cls := "java/lang/Math", name := "max", desc := "(JJ)J" } : Jvm.MethodName) jdk_29_method_66_code (4 : Nat) (Option.some Jvm.ClassFile.FieldType.long)).before args0 about1 = true := code_word (m := ⟨4, 1⟩) (meth := k4m1) (c := k4c1) (by decide +kernel) rfl rfl rfl (by decide +kernel)
def codes1 : List Jvm.Cond := [Jvm.Cond.code x code maxLocals ret, Jvm.Cond.code ({ cls := "com/example/dowser/dowser/search/Page", name := "<init>", desc := "(II)V" } : Jvm.MethodName) prog_22_method_1_code (3 : Nat) (Option.none : Option Jvm.ClassFile.FieldType), Jvm.Cond.code ({ cls := "java/lang/Record", name := "<init>", desc := "()V" } : Jvm.MethodName) jdk_30_method_1_code (1 : Nat) (Option.none : Option Jvm.ClassFile.FieldType), Jvm.Cond.code ({ cls := "java/lang/Object", name := "<init>", desc := "()V" } : Jvm.MethodName) object_method_1_code (1 : Nat) (Option.none : Option Jvm.ClassFile.FieldType), Jvm.Cond.code ({ cls := "com/example/dowser/dowser/search/Page", name := "rankDepth", desc := "(I)I" } : Jvm.MethodName) prog_22_method_2_code (2 : Nat) (Option.some Jvm.ClassFile.FieldType.int), Jvm.Cond.code ({ cls := "java/lang/Math", name := "min", desc := "(JJ)J" } : Jvm.MethodName) jdk_29_method_70_code (4 : Nat) (Option.some Jvm.ClassFile.FieldType.long), Jvm.Cond.code ({ cls := "java/lang/Math", name := "max", desc := "(JJ)J" } : Jvm.MethodName) jdk_29_method_66_code (4 : Nat) (Option.some Jvm.ClassFile.FieldType.long)]
set_option maxRecDepth 65536 in
theorem codes_eq : words1.filter isCode = codes1 := rfl
theorem w_codes : ∀ c ∈ words1.filter isCode, c.before args0 about1 = true := by
  rw [codes_eq]
  intro c hc
  simp only [codes1, List.mem_cons, List.not_mem_nil, or_false] at hc
  rcases hc with rfl | rfl | rfl | rfl | rfl | rfl | rfl
  · exact w_c0
  · exact w_c1
  · exact w_c2
  · exact w_c3
  · exact w_c4
  · exact w_c5
  · exact w_c6
set_option maxRecDepth 65536 in
theorem w_t1 : (words1.take 24).all (fun c => isCode c || c.before args0 about1) = true := by decide +kernel
set_option maxRecDepth 65536 in
theorem w_t2 : (words1.drop 24).all (fun c => isCode c || c.before args0 about1) = true := by decide +kernel
theorem w_tables : (allAtoms (Jvm.Cond.code x code maxLocals ret :: tables_1)).before args0 about1 = true := by
  rw [allAtoms_all]
  show words1.all (fun c => c.before args0 about1) = true
  refine all_split ?_ w_codes
  rw [← List.take_append_drop 24 words1, List.all_append, w_t1, w_t2]
  rfl
set_option maxRecDepth 65536 in
theorem w_case : (Jvm.Cond.and given_1 narrow_1).before args0 about1 = true := by decide +kernel
theorem w_applies : (headSpec (Jvm.Cond.code x code maxLocals ret :: tables_1) room_1).applies x e0.platform about1 = true :=
  (Spec.applies_iff w_frames).mpr ⟨w_running, w_runnable, w_alone, w_named, w_hears, w_ripe, w_room, w_tables⟩
theorem atStart : AtStart classFile x code maxLocals ret World_1 tables_1 room_1 Calls_1 rest_1 Pre_1 launch0 p0 e0 about1 theMethod args0 below0 :=
  ⟨lists_1, trivial, launch0.admits_env _ _ _, launch0.least_env, fairChoices_fair.cas, fairChoices_fair.clock, w_frames, w_args, w_heap, w_applies, trivial, trivial, w_case⟩
end start1
theorem witness_1 : WitnessClaimed_1 := ⟨start1.p0, start1.e0, start1.about1, start1.theMethod, start1.args0, start1.below0, start1.atStart⟩
end Jvm.Pilot.@@N@@
