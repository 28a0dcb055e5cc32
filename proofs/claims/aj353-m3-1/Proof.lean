import JvmDerived
import JvmDerived.Pilot.@@N@@Statement
import JvmDerived.Pilot.@@N@@Code
set_option linter.unusedVariables false
set_option linter.unusedSimpArgs false
namespace Jvm.RoadKit
open Sem ClassFile Op Lib Jvm.Stand Jvm.Free Jvm.LawKit
section New
variable {p : Program} {l : Launch} {e : Env} {R : Room} {s : State} {m : MethodId} {args : Array Value} {below : List Frame} {meth : Method} {c : Code} {T : State} {locs : List Loc} {cells slots : Nat}
theorem retI (X : Stand p l e R s m args below meth c T locs cells slots) (hx : p.tables.exec = Jvm.exec) {pc : Nat} {Ls : Array Slot} {z : Int32} {rest : List Value} (hret : meth.sig.returnType = some .int) (hd : decode c.code pc = .ok (.ireturn, 1)) {fs : List Frame}
    (hl : ∀ (f : JFrame) (acts : List Action), f.method = m → f.locked = none → f.entered = [] → (doReturn e (T.setTop f) acts (some (.int z))).1 = T.setFrames fs) : Steps p.tables e below (T.setTop (mkF m pc Ls (.int z :: rest))) (T.setFrames fs) := by
  have hm' : T.vm.method? m = some meth := X.method'
  have hn : narrow .int (.int z) = .int z := rfl
  show Steps p.tables e below (T.setTop { method := m, pc := pc, locals := Ls, stack := _ :: rest, locked := none }) _
  jvm_step X.here [X.here.top, hx, hd, hm', hret, hn]
  first | (intro acts; rw [hl _ acts rfl rfl rfl]) | rw [hl _ _ rfl rfl rfl]
  exact Steps.refl _
end New
end Jvm.RoadKit
namespace Jvm.Pilot.@@N@@
open Jvm Jvm.ClassFile Sem Op Lib Jvm.Free Jvm.Stand Jvm.LawKit Jvm.RoadKit Bundle Jvm.Pilot.@@N@@.Jvm.D
theorem ef_q (m : MethodId) (x0 : Int64) (x1 : Int64) : entryFrame m #[(.long x0), (.long x1)] 4 = mkF m 0 #[.val (.long x0), .second, .val (.long x1), .second] [] := by first | (simp [entryFrame, mkF, argsToLocals, Value.category]; done) | rfl
theorem pn_0 : plainName "com/example/tripleward/tripleward/model/regex/Saturating" = true := by first | (simp [plainName, overriddenIn]; done) | decide +kernel
def Q_q (Z : State) (q0 : Int64) (q1 : Int64) (h0 : Heap) (n0 : Nat) (v : Option Value) (h : Heap) (L : List Loc) : Prop := v = some (.long ((q0 / q1) + (if (lcmpW (q0 % q1) (0 : Int64)) = (0 : Int32) then (0 : Int32) else (1 : Int32)).toInt64)) ∧ Fr n0 L ∧ h = h0
theorem d0_0 : decode prog_51_method_4_code 0 = .ok (.lload_n 0, 1) := by decide +kernel
theorem d0_1 : decode prog_51_method_4_code 1 = .ok (.lload_n 2, 1) := by decide +kernel
theorem d0_2 : decode prog_51_method_4_code 2 = .ok (.ldiv, 1) := by decide +kernel
theorem d0_3 : decode prog_51_method_4_code 3 = .ok (.lload_n 0, 1) := by decide +kernel
theorem d0_4 : decode prog_51_method_4_code 4 = .ok (.lload_n 2, 1) := by decide +kernel
theorem d0_5 : decode prog_51_method_4_code 5 = .ok (.lrem, 1) := by decide +kernel
theorem d0_6 : decode prog_51_method_4_code 6 = .ok (.lconst 0, 1) := by decide +kernel
theorem d0_7 : decode prog_51_method_4_code 7 = .ok (.lcmp, 1) := by decide +kernel
theorem d0_8 : decode prog_51_method_4_code 8 = .ok (.ifCond .ne 7, 3) := by decide +kernel
theorem d0_11 : decode prog_51_method_4_code 11 = .ok (.iconst 0, 1) := by decide +kernel
theorem d0_12 : decode prog_51_method_4_code 12 = .ok (.goto 4, 3) := by decide +kernel
theorem d0_16 : decode prog_51_method_4_code 16 = .ok (.i2l, 1) := by decide +kernel
theorem d0_17 : decode prog_51_method_4_code 17 = .ok (.ladd, 1) := by decide +kernel
theorem d0_18 : decode prog_51_method_4_code 18 = .ok (.lreturn, 1) := by decide +kernel
theorem d0_15 : decode prog_51_method_4_code 15 = .ok (.iconst 1, 1) := by decide +kernel
set_option maxRecDepth 65536 in
set_option maxHeartbeats 40000000 in
theorem rm_q (l : Launch) (Z : State) (a0 : Array Value) (hw : ∀ d ∈ tables_1, d.before a0 Z = true) (ws : List Jvm.Cond) (q0 : Int64) (q1 : Int64) (h0 : Heap) (n0 : Nat) (Z0 : n0 ≤ h0.size) (hd : ¬ q1 = (0 : Int64)) :
    MetFree l (⟨"com/example/tripleward/tripleward/model/regex/Saturating", "quotientRoundedUp", "(JJ)J"⟩ : MethodName) (head1 (Jvm.Cond.code (⟨"com/example/tripleward/tripleward/model/regex/Saturating", "quotientRoundedUp", "(JJ)J"⟩ : MethodName) prog_51_method_4_code 4 (some .long) :: ws) ({ frames := 0, cells := 0, slots := 0, locals := 0 } : Room)) (fun a U => a = #[(.long q0), (.long q1)] ∧ Z.Warmed39 U.vm ∧ U.heap = h0) (fun _ _ _ _ _ => True) (fun _ U o U' => ∃ v L, o = .returned v ∧ Q_q Z q0 q1 h0 n0 v U'.heap L ∧ FrameEnd U o U' L ({ frames := 0, cells := 0, slots := 0, locals := 0 } : Room).cells ({ frames := 0, cells := 0, slots := 0, locals := 0 } : Room).slots) := by
  refine MetFree.of_bodySF (plainFor_of_name pn_0) hisR ?_
  intro p e s m args below meth c s₁ Bd hml0 hP hK
  obtain ⟨rfl, hZ, hh⟩ := hP
  have hx := Bd.exec
  have hby := Bd.bytes
  have hml : c.maxLocals = 4 := hml0
  have hown : s.vm.findClass "com/example/tripleward/tripleward/model/regex/Saturating" = some m.cls := findClass_of_methodNamed Bd.named
  have hnm := (name_of_methodNamed Bd.named Bd.method).1
  have X0 : Stand p l e ({ frames := 0, cells := 0, slots := 0, locals := 0 } : Room) s m #[(.long q0), (.long q1)] below meth c s₁ [] 0 0 := Stand.of_body Bd
  have e0 : s₁.heap = h0 := by rw [← hh, Bd.state]; rfl
  have N0 := Fr.nil n0
  have go0 : ∀ t, Steps p.tables e below (s₁.setTop (mkF m 0 #[.val (.long q0), .second, .val (.long q1), .second] [])) t → Steps p.tables e below (s₁.setTop (entryFrame m #[(.long q0), (.long q1)] 4)) t := fun t k => castTop (ef_q m q0 q1) k
  obtain ⟨O, hO⟩ : ∃ z, z = (s₁.setTop (entryFrame m #[(.long q0), (.long q1)] 4)) := ⟨_, rfl⟩
  rw [← hO] at go0
  have go1 : ∀ t, Steps p.tables e below (s₁.setTop (mkF m 8 #[.val (.long q0), .second, .val (.long q1), .second] [(.int (lcmpW (q0 % q1) (0 : Int64))), (.long (q0 / q1))])) t → Steps p.tables e below O t := fun t k => go0 t (by
    refine XS.lloadN X0.here hx rfl (hb hby d0_0) rfl ?_
    show Steps _ _ _ (s₁.setTop (mkF m 1 _ [(.long q0)])) _
    refine XS.lloadN X0.here hx rfl (hb hby d0_1) rfl ?_
    show Steps _ _ _ (s₁.setTop (mkF m 2 _ [(.long q1), (.long q0)])) _
    refine XS.ldiv X0.here hx rfl (hb hby d0_2) rfl hd ?_
    show Steps _ _ _ (s₁.setTop (mkF m 3 _ [(.long (q0 / q1))])) _
    refine XS.lloadN X0.here hx rfl (hb hby d0_3) rfl ?_
    show Steps _ _ _ (s₁.setTop (mkF m 4 _ [(.long q0), (.long (q0 / q1))])) _
    refine XS.lloadN X0.here hx rfl (hb hby d0_4) rfl ?_
    show Steps _ _ _ (s₁.setTop (mkF m 5 _ [(.long q1), (.long q0), (.long (q0 / q1))])) _
    refine XS.lrem X0.here hx rfl (hb hby d0_5) rfl hd ?_
    rw [lrem_mod]
    show Steps _ _ _ (s₁.setTop (mkF m 6 _ [(.long (q0 % q1)), (.long (q0 / q1))])) _
    refine XS.lconst X0.here hx rfl (hb hby d0_6) ?_
    show Steps _ _ _ (s₁.setTop (mkF m 7 _ [(.long 0), (.long (q0 % q1)), (.long (q0 / q1))])) _
    refine XS.lcmp X0.here hx rfl (hb hby d0_7) rfl ?_
    show Steps _ _ _ (s₁.setTop (mkF m 8 _ [(.int (lcmpW (q0 % q1) (0 : Int64))), (.long (q0 / q1))])) _
    exact k)
  by_cases hc : (lcmpW (q0 % q1) (0 : Int64)) = (0 : Int32)
  · have go2 : ∀ t, Steps p.tables e below (s₁.setTop (mkF m 18 #[.val (.long q0), .second, .val (.long q1), .second] [(.long ((q0 / q1) + (0 : Int32).toInt64))])) t → Steps p.tables e below O t := fun t k => go1 t (by
      refine XS.ifNo X0.here hx rfl (hb hby d0_8) rfl ((if0 _ _).trans (teq (hc : (lcmpW (q0 % q1) (0 : Int64)) = (0 : Int32))).2) ?_
      show Steps _ _ _ (s₁.setTop (mkF m 11 _ [(.long (q0 / q1))])) _
      refine XS.iconst X0.here hx rfl (hb hby d0_11) ?_
      show Steps _ _ _ (s₁.setTop (mkF m 12 _ [(.int 0), (.long (q0 / q1))])) _
      refine XS.goto X0.here hx rfl (pc0 := 12) (pc' := 16) rfl (hb hby d0_12) (by decide) (by decide) ?_
      show Steps _ _ _ (s₁.setTop (mkF m 16 _ [(.int 0), (.long (q0 / q1))])) _
      refine XS.i2l X0.here hx rfl (hb hby d0_16) rfl ?_
      show Steps _ _ _ (s₁.setTop (mkF m 17 _ [(.long (0 : Int32).toInt64), (.long (q0 / q1))])) _
      refine XS.ladd X0.here hx rfl (hb hby d0_17) rfl ?_
      show Steps _ _ _ (s₁.setTop (mkF m 18 _ [(.long ((q0 / q1) + (0 : Int32).toInt64))])) _
      exact k)
    subst hO
    obtain ⟨fs, hr, hrun, hended, hW, hsame⟩ := X0.leave (v := some (.long ((q0 / q1) + (0 : Int32).toInt64))) (fun h => by rw [Bd.returns] at h; cases h)
    refine ⟨_, _, go2 _ ?_, hrun, hended, _, _, rfl, ?_, ⟨_, rfl⟩, hW, hsame.mono (by decide) (by decide)⟩
    · exact X0.lreturnOut hx Bd.returns (hb hby d0_18) hr
    · show Q_q Z q0 q1 h0 n0 _ s₁.heap _
      rw [e0]
      exact ⟨by rw [if_pos hc], N0, rfl⟩
  · have go4 : ∀ t, Steps p.tables e below (s₁.setTop (mkF m 18 #[.val (.long q0), .second, .val (.long q1), .second] [(.long ((q0 / q1) + (1 : Int32).toInt64))])) t → Steps p.tables e below O t := fun t k => go1 t (by
      refine XS.ifYes X0.here hx rfl (pc0 := 8) (pc' := 15) rfl (hb hby d0_8) rfl ((if0 _ _).trans (feq (hc : ¬ ((lcmpW (q0 % q1) (0 : Int64)) = (0 : Int32)))).2) (by decide) (by decide) ?_
      show Steps _ _ _ (s₁.setTop (mkF m 15 _ [(.long (q0 / q1))])) _
      refine XS.iconst X0.here hx rfl (hb hby d0_15) ?_
      show Steps _ _ _ (s₁.setTop (mkF m 16 _ [(.int 1), (.long (q0 / q1))])) _
      refine XS.i2l X0.here hx rfl (hb hby d0_16) rfl ?_
      show Steps _ _ _ (s₁.setTop (mkF m 17 _ [(.long (1 : Int32).toInt64), (.long (q0 / q1))])) _
      refine XS.ladd X0.here hx rfl (hb hby d0_17) rfl ?_
      show Steps _ _ _ (s₁.setTop (mkF m 18 _ [(.long ((q0 / q1) + (1 : Int32).toInt64))])) _
      exact k)
    subst hO
    obtain ⟨fs, hr, hrun, hended, hW, hsame⟩ := X0.leave (v := some (.long ((q0 / q1) + (1 : Int32).toInt64))) (fun h => by rw [Bd.returns] at h; cases h)
    refine ⟨_, _, go4 _ ?_, hrun, hended, _, _, rfl, ?_, ⟨_, rfl⟩, hW, hsame.mono (by decide) (by decide)⟩
    · exact X0.lreturnOut hx Bd.returns (hb hby d0_18) hr
    · show Q_q Z q0 q1 h0 n0 _ s₁.heap _
      rw [e0]
      exact ⟨by rw [if_neg hc], N0, rfl⟩
theorem own_ceil (a d : Int64) (ha : 0 ≤ a.toInt) (hd : 1 ≤ d.toInt) (ha0 : ¬ a = (0 : Int64)) :
    (a / d) + (if (lcmpW (a % d) (0 : Int64)) = (0 : Int32) then (0 : Int32) else (1 : Int32)).toInt64 = ((a - (1 : Int64)) / d) + (1 : Int64) := by
  have r1 := rng64 a
  have r2 := rng64 d
  have hd1 : d ≠ -1 := fun h => by subst h; revert hd; decide
  have ha1 : 1 ≤ a.toInt := by
    rcases Int.lt_or_le a.toInt 1 with h | h
    · exfalso; apply ha0; rw [← Int64.toInt_inj]; have : a.toInt = 0 := by omega
      rw [this]; rfl
    · exact h
  have s1 : (a - (1 : Int64)).toInt = a.toInt - 1 := by
    have h := c_lsub a 1
    have h1 : (1 : Int64).toInt = 1 := rfl
    have r3 := rng64 (a - 1)
    rw [h1] at h; omega
  have s2 : (a / d).toInt = a.toInt / d.toInt := (c_ldiv a d _ rfl hd1).1 ha
  have s3 : ((a - (1 : Int64)) / d).toInt = (a.toInt - 1) / d.toInt := by rw [(c_ldiv (a - 1) d _ rfl hd1).1 (by omega), s1]
  have s4 : (a % d).toInt = a.toInt % d.toInt := by rw [Int64.toInt_mod]; exact Int.tmod_eq_emod_of_nonneg ha
  generalize hA : a.toInt = A at *
  generalize hD : d.toInt = D at *
  have e1 := Int.mul_ediv_add_emod A D
  have e2 := Int.emod_nonneg A (show D ≠ 0 by omega)
  have e3 := Int.emod_lt_of_pos A (show 0 < D by omega)
  have f1 := Int.mul_ediv_add_emod (A - 1) D
  have f2 := Int.emod_nonneg (A - 1) (show D ≠ 0 by omega)
  have f3 := Int.emod_lt_of_pos (A - 1) (show 0 < D by omega)
  have g1 : 0 ≤ A / D := Int.ediv_nonneg (by omega) (by omega)
  have g2 : A / D ≤ A := Int.ediv_le_self _ (by omega)
  have g3 : 0 ≤ (A - 1) / D := Int.ediv_nonneg (by omega) (by omega)
  have g4 : (A - 1) / D ≤ A - 1 := Int.ediv_le_self _ (by omega)
  rw [← Int64.toInt_inj]
  have t1 := c_ladd ((a - (1 : Int64)) / d) 1
  have h1 : (1 : Int64).toInt = 1 := rfl
  rw [h1, s3] at t1
  have t2 := rng64 (((a - (1 : Int64)) / d) + 1)
  by_cases hz : A % D = 0
  · have hq : lcmpW (a % d) (0 : Int64) = (0 : Int32) := (lw_eq _ _).mpr (by rw [← Int64.toInt_inj, s4, hz]; rfl)
    rw [if_pos hq]
    have u1 := c_ladd (a / d) ((0 : Int32).toInt64)
    have h0 : ((0 : Int32).toInt64).toInt = 0 := rfl
    rw [h0, s2] at u1
    have u2 := rng64 ((a / d) + (0 : Int32).toInt64)
    have key : (A - 1) / D = A / D - 1 := by
      have : A - 1 = D * (A / D - 1) + (D - 1) := by rw [Int.mul_sub]; omega
      have w : (D - 1) / D = 0 := Int.ediv_eq_zero_of_lt (by omega) (by omega)
      rw [this, Int.mul_add_ediv_left _ _ (show D ≠ 0 by omega), w]
      omega
    omega
  · have hq : ¬ lcmpW (a % d) (0 : Int64) = (0 : Int32) := fun h => hz (by
      have := (lw_eq _ _).mp h
      rw [← Int64.toInt_inj, s4] at this; exact this)
    rw [if_neg hq]
    have u1 := c_ladd (a / d) ((1 : Int32).toInt64)
    have h0 : ((1 : Int32).toInt64).toInt = 1 := rfl
    rw [h0, s2] at u1
    have u2 := rng64 ((a / d) + (1 : Int32).toInt64)
    have key : (A - 1) / D = A / D := by
      have : A - 1 = D * (A / D) + (A % D - 1) := by omega
      have w : (A % D - 1) / D = 0 := Int.ediv_eq_zero_of_lt (by omega) (by omega)
      rw [this, Int.mul_add_ediv_left _ _ (show D ≠ 0 by omega), w]
      omega
    have g5 : A / D ≤ A - 1 := by omega
    omega
theorem ef_law (m : MethodId) (x0 : Int64) (x1 : Int64) : entryFrame m #[(.long x0), (.long x1)] maxLocals = mkF m 0 #[.val (.long x0), .second, .val (.long x1), .second, .unset, .unset, .unset, .unset, .unset, .unset, .unset, .unset] [] := by first | (simp [entryFrame, mkF, argsToLocals, Value.category, maxLocals]; done) | rfl
theorem pn_1 : plainName "com/example/tripleward/tripleward/model/regex/SaturatingQuotientRoundedUpPinLaw" = true := by first | (simp [plainName, overriddenIn]; done) | decide +kernel
def Q_law (Z : State) (q0 : Int64) (q1 : Int64) (h0 : Heap) (n0 : Nat) (v : Option Value) (h : Heap) (L : List Loc) : Prop := v = some (.int (1 : Int32)) ∧ Fr n0 L
theorem pd_0 : parseMethodDescriptor "(JJ)J" = some ⟨[.long, .long], some .long⟩ := by decide +kernel
theorem own_zero (a d : Int64) (ha : a = (0 : Int64)) (hd : ¬ d = (0 : Int64)) : (0 : Int64) = (a / d) + (if (lcmpW (a % d) (0 : Int64)) = (0 : Int32) then (0 : Int32) else (1 : Int32)).toInt64 := by
  subst ha
  have h1 : (0 : Int64) / d = 0 := Int64.zero_div
  have h2 : (0 : Int64) % d = 0 := Int64.zero_mod
  rw [h1, h2, if_pos ((lw_eq _ _).mpr rfl)]; rfl
set_option maxRecDepth 65536 in
set_option maxHeartbeats 40000000 in
theorem rm_law (l : Launch) (Z : State) (a0 : Array Value) (hw : ∀ d ∈ tables_1, d.before a0 Z = true) (ws : List Jvm.Cond) (q0 : Int64) (q1 : Int64) (h0 : Heap) (n0 : Nat) (Z0 : n0 ≤ h0.size)  :
    MetFree l x (head1 (Jvm.Cond.code x code maxLocals ret :: ws) room_1) (fun a U => a = #[(.long q0), (.long q1)] ∧ Z.Warmed39 U.vm ∧ U.heap = h0) (fun _ _ _ _ _ => True) (fun _ U o U' => ∃ v L, o = .returned v ∧ Q_law Z q0 q1 h0 n0 v U'.heap L ∧ FrameEnd U o U' L room_1.cells room_1.slots) := by
  refine MetFree.of_bodySF (plainFor_of_name pn_1) hisR ?_
  intro p e s m args below meth c s₁ Bd hml0 hP hK
  obtain ⟨rfl, hZ, hh⟩ := hP
  have hx := Bd.exec
  have hby := Bd.bytes
  have hml : c.maxLocals = 12 := hml0
  have hown : s.vm.findClass "com/example/tripleward/tripleward/model/regex/SaturatingQuotientRoundedUpPinLaw" = some m.cls := findClass_of_methodNamed Bd.named
  have hnm := (name_of_methodNamed Bd.named Bd.method).1
  have X0 : Stand p l e room_1 s m #[(.long q0), (.long q1)] below meth c s₁ [] 0 0 := Stand.of_body Bd
  have e0 : s₁.heap = h0 := by rw [← hh, Bd.state]; rfl
  have N0 := Fr.nil n0
  have go0 : ∀ t, Steps p.tables e below (s₁.setTop (mkF m 0 #[.val (.long q0), .second, .val (.long q1), .second, .unset, .unset, .unset, .unset, .unset, .unset, .unset, .unset] [])) t → Steps p.tables e below (s₁.setTop (entryFrame m #[(.long q0), (.long q1)] maxLocals)) t := fun t k => castTop (ef_law m q0 q1) k
  obtain ⟨O, hO⟩ : ∃ z, z = (s₁.setTop (entryFrame m #[(.long q0), (.long q1)] maxLocals)) := ⟨_, rfl⟩
  rw [← hO] at go0
  have ha : 0 ≤ (q0 &&& (9223372036854775807 : Int64)).toInt := by rw [c_maskL q0 _ 63 (by decide) (by decide)]; omega
  have hd0 : 0 ≤ (q1 &&& (9223372036854775807 : Int64)).toInt := by rw [c_maskL q1 _ 63 (by decide) (by decide)]; omega
  have go1 : ∀ t, Steps p.tables e below (s₁.setTop (mkF m 14 #[.val (.long q0), .second, .val (.long q1), .second, .val (.long (q0 &&& (9223372036854775807 : Int64))), .second, .val (.long (q1 &&& (9223372036854775807 : Int64))), .second, .unset, .unset, .unset, .unset] [])) t → Steps p.tables e below O t := fun t k => go0 t (by
    refine XS.lloadN X0.here hx rfl (hb hby at_0) rfl ?_
    show Steps _ _ _ (s₁.setTop (mkF m 1 _ [(.long q0)])) _
    refine X0.ldc2Long hx hown (mvT hZ (hw _ (List.mem_of_getElem? (i := 0) rfl))) (g := (mkF m 1 #[.val (.long q0), .second, .val (.long q1), .second, .unset, .unset, .unset, .unset, .unset, .unset, .unset, .unset] [(.long q0)])) rfl (hb hby at_1) _ ?_
    show Steps _ _ _ (s₁.setTop (mkF m 4 _ [(.long 9223372036854775807), (.long q0)])) _
    refine XS.land X0.here hx rfl (hb hby at_4) rfl ?_
    show Steps _ _ _ (s₁.setTop (mkF m 5 _ [(.long (q0 &&& (9223372036854775807 : Int64)))])) _
    refine XS.lstore X0.here hx rfl (hb hby at_5) rfl (l' := #[.val (.long q0), .second, .val (.long q1), .second, .val (.long (q0 &&& (9223372036854775807 : Int64))), .second, .unset, .unset, .unset, .unset, .unset, .unset]) rfl ?_
    show Steps _ _ _ (s₁.setTop (mkF m 7 _ [])) _
    refine XS.lloadN X0.here hx rfl (hb hby at_7) rfl ?_
    show Steps _ _ _ (s₁.setTop (mkF m 8 _ [(.long q1)])) _
    refine X0.ldc2Long hx hown (mvT hZ (hw _ (List.mem_of_getElem? (i := 0) rfl))) (g := (mkF m 8 #[.val (.long q0), .second, .val (.long q1), .second, .val (.long (q0 &&& (9223372036854775807 : Int64))), .second, .unset, .unset, .unset, .unset, .unset, .unset] [(.long q1)])) rfl (hb hby at_8) _ ?_
    show Steps _ _ _ (s₁.setTop (mkF m 11 _ [(.long 9223372036854775807), (.long q1)])) _
    refine XS.land X0.here hx rfl (hb hby at_11) rfl ?_
    show Steps _ _ _ (s₁.setTop (mkF m 12 _ [(.long (q1 &&& (9223372036854775807 : Int64)))])) _
    refine XS.lstore X0.here hx rfl (hb hby at_12) rfl (l' := #[.val (.long q0), .second, .val (.long q1), .second, .val (.long (q0 &&& (9223372036854775807 : Int64))), .second, .val (.long (q1 &&& (9223372036854775807 : Int64))), .second, .unset, .unset, .unset, .unset]) rfl ?_
    show Steps _ _ _ (s₁.setTop (mkF m 14 _ [])) _
    exact k)
  obtain ⟨a, hae⟩ : ∃ z : Int64, z = (q0 &&& (9223372036854775807 : Int64)) := ⟨_, rfl⟩
  rw [← hae] at go1
  rw [← hae] at ha
  obtain ⟨d1, hde⟩ : ∃ z : Int64, z = (q1 &&& (9223372036854775807 : Int64)) := ⟨_, rfl⟩
  rw [← hde] at go1
  rw [← hde] at hd0
  have go2 : ∀ t, Steps p.tables e below (s₁.setTop (mkF m 18 #[.val (.long q0), .second, .val (.long q1), .second, .val (.long a), .second, .val (.long d1), .second, .unset, .unset, .unset, .unset] [(.int (lcmpW d1 (0 : Int64)))])) t → Steps p.tables e below O t := fun t k => go1 t (by
    refine XS.lload X0.here hx rfl (hb hby at_14) rfl ?_
    show Steps _ _ _ (s₁.setTop (mkF m 16 _ [(.long d1)])) _
    refine XS.lconst X0.here hx rfl (hb hby at_16) ?_
    show Steps _ _ _ (s₁.setTop (mkF m 17 _ [(.long 0), (.long d1)])) _
    refine XS.lcmp X0.here hx rfl (hb hby at_17) rfl ?_
    show Steps _ _ _ (s₁.setTop (mkF m 18 _ [(.int (lcmpW d1 (0 : Int64)))])) _
    exact k)
  obtain ⟨d, hd_, go3⟩ : ∃ d : Int64, (1 ≤ d.toInt) ∧ ∀ t, Steps p.tables e below (s₁.setTop (mkF m 24 #[.val (.long q0), .second, .val (.long q1), .second, .val (.long a), .second, .val (.long d), .second, .unset, .unset, .unset, .unset] [])) t → Steps p.tables e below O t := by
    by_cases hc : (lcmpW d1 (0 : Int64)) = (0 : Int32)
    · have go4 : ∀ t, Steps p.tables e below (s₁.setTop (mkF m 24 #[.val (.long q0), .second, .val (.long q1), .second, .val (.long a), .second, .val (.long 1), .second, .unset, .unset, .unset, .unset] [])) t → Steps p.tables e below O t := fun t k => go2 t (by
        refine XS.ifNo X0.here hx rfl (hb hby at_18) rfl ((if0 _ _).trans (teq (hc : (lcmpW d1 (0 : Int64)) = (0 : Int32))).2) ?_
        show Steps _ _ _ (s₁.setTop (mkF m 21 _ [])) _
        refine XS.lconst X0.here hx rfl (hb hby at_21) ?_
        show Steps _ _ _ (s₁.setTop (mkF m 22 _ [(.long 1)])) _
        refine XS.lstore X0.here hx rfl (hb hby at_22) rfl (l' := #[.val (.long q0), .second, .val (.long q1), .second, .val (.long a), .second, .val (.long 1), .second, .unset, .unset, .unset, .unset]) rfl ?_
        show Steps _ _ _ (s₁.setTop (mkF m 24 _ [])) _
        exact k)
      exact ⟨(1 : Int64), by decide, go4⟩
    · have hd2 : ¬ d1 = (0 : Int64) := fun h => hc ((lw_eq _ _).mpr h)
      have hd3 : ¬ d1.toInt = 0 := fun h => hd2 (by rw [← Int64.toInt_inj, h]; rfl)
      have go5 : ∀ t, Steps p.tables e below (s₁.setTop (mkF m 24 #[.val (.long q0), .second, .val (.long q1), .second, .val (.long a), .second, .val (.long d1), .second, .unset, .unset, .unset, .unset] [])) t → Steps p.tables e below O t := fun t k => go2 t (by
        refine XS.ifYes X0.here hx rfl (pc0 := 18) (pc' := 24) rfl (hb hby at_18) rfl ((if0 _ _).trans (feq (hc : ¬ ((lcmpW d1 (0 : Int64)) = (0 : Int32)))).2) (by decide) (by decide) ?_
        show Steps _ _ _ (s₁.setTop (mkF m 24 _ [])) _
        exact k)
      exact ⟨d1, by omega, go5⟩
  have hdz : ¬ d = (0 : Int64) := fun h => by rw [h] at hd_; revert hd_; decide
  have go6 : ∀ t, Steps p.tables e below (s₁.setTop (mkF m 28 #[.val (.long q0), .second, .val (.long q1), .second, .val (.long a), .second, .val (.long d), .second, .unset, .unset, .unset, .unset] [(.int (lcmpW a (0 : Int64)))])) t → Steps p.tables e below O t := fun t k => go3 t (by
    refine XS.lload X0.here hx rfl (hb hby at_24) rfl ?_
    show Steps _ _ _ (s₁.setTop (mkF m 26 _ [(.long a)])) _
    refine XS.lconst X0.here hx rfl (hb hby at_26) ?_
    show Steps _ _ _ (s₁.setTop (mkF m 27 _ [(.long 0), (.long a)])) _
    refine XS.lcmp X0.here hx rfl (hb hby at_27) rfl ?_
    show Steps _ _ _ (s₁.setTop (mkF m 28 _ [(.int (lcmpW a (0 : Int64)))])) _
    exact k)
  obtain ⟨w, hw_, go7⟩ : ∃ w : Int64, (w = ((a / d) + (if (lcmpW (a % d) (0 : Int64)) = (0 : Int32) then (0 : Int32) else (1 : Int32)).toInt64)) ∧ ∀ t, Steps p.tables e below (s₁.setTop (mkF m 48 #[.val (.long q0), .second, .val (.long q1), .second, .val (.long a), .second, .val (.long d), .second, .val (.long w), .second, .unset, .unset] [])) t → Steps p.tables e below O t := by
    by_cases hc : (lcmpW a (0 : Int64)) = (0 : Int32)
    · have ha0 : a = (0 : Int64) := (lw_eq _ _).mp hc
      have go8 : ∀ t, Steps p.tables e below (s₁.setTop (mkF m 48 #[.val (.long q0), .second, .val (.long q1), .second, .val (.long a), .second, .val (.long d), .second, .val (.long 0), .second, .unset, .unset] [])) t → Steps p.tables e below O t := fun t k => go6 t (by
        refine XS.ifNo X0.here hx rfl (hb hby at_28) rfl ((if0 _ _).trans (teq (hc : (lcmpW a (0 : Int64)) = (0 : Int32))).2) ?_
        show Steps _ _ _ (s₁.setTop (mkF m 31 _ [])) _
        refine XS.lconst X0.here hx rfl (hb hby at_31) ?_
        show Steps _ _ _ (s₁.setTop (mkF m 32 _ [(.long 0)])) _
        refine XS.lstore X0.here hx rfl (hb hby at_32) rfl (l' := #[.val (.long q0), .second, .val (.long q1), .second, .val (.long a), .second, .val (.long d), .second, .val (.long 0), .second, .unset, .unset]) rfl ?_
        show Steps _ _ _ (s₁.setTop (mkF m 34 _ [])) _
        refine XS.goto X0.here hx rfl (pc0 := 34) (pc' := 48) rfl (hb hby at_34) (by decide) (by decide) ?_
        show Steps _ _ _ (s₁.setTop (mkF m 48 _ [])) _
        exact k)
      exact ⟨(0 : Int64), own_zero a d ha0 hdz, go8⟩
    · have go9 : ∀ t, Steps p.tables e below (s₁.setTop (mkF m 48 #[.val (.long q0), .second, .val (.long q1), .second, .val (.long a), .second, .val (.long d), .second, .val (.long (((a - (1 : Int64)) / d) + (1 : Int64))), .second, .unset, .unset] [])) t → Steps p.tables e below O t := fun t k => go6 t (by
        refine XS.ifYes X0.here hx rfl (pc0 := 28) (pc' := 37) rfl (hb hby at_28) rfl ((if0 _ _).trans (feq (hc : ¬ ((lcmpW a (0 : Int64)) = (0 : Int32)))).2) (by decide) (by decide) ?_
        show Steps _ _ _ (s₁.setTop (mkF m 37 _ [])) _
        refine XS.lload X0.here hx rfl (hb hby at_37) rfl ?_
        show Steps _ _ _ (s₁.setTop (mkF m 39 _ [(.long a)])) _
        refine XS.lconst X0.here hx rfl (hb hby at_39) ?_
        show Steps _ _ _ (s₁.setTop (mkF m 40 _ [(.long 1), (.long a)])) _
        refine XS.lsub X0.here hx rfl (hb hby at_40) rfl ?_
        show Steps _ _ _ (s₁.setTop (mkF m 41 _ [(.long (a - (1 : Int64)))])) _
        refine XS.lload X0.here hx rfl (hb hby at_41) rfl ?_
        show Steps _ _ _ (s₁.setTop (mkF m 43 _ [(.long d), (.long (a - (1 : Int64)))])) _
        refine XS.ldiv X0.here hx rfl (hb hby at_43) rfl hdz ?_
        show Steps _ _ _ (s₁.setTop (mkF m 44 _ [(.long ((a - (1 : Int64)) / d))])) _
        refine XS.lconst X0.here hx rfl (hb hby at_44) ?_
        show Steps _ _ _ (s₁.setTop (mkF m 45 _ [(.long 1), (.long ((a - (1 : Int64)) / d))])) _
        refine XS.ladd X0.here hx rfl (hb hby at_45) rfl ?_
        show Steps _ _ _ (s₁.setTop (mkF m 46 _ [(.long (((a - (1 : Int64)) / d) + (1 : Int64)))])) _
        refine XS.lstore X0.here hx rfl (hb hby at_46) rfl (l' := #[.val (.long q0), .second, .val (.long q1), .second, .val (.long a), .second, .val (.long d), .second, .val (.long (((a - (1 : Int64)) / d) + (1 : Int64))), .second, .unset, .unset]) rfl ?_
        show Steps _ _ _ (s₁.setTop (mkF m 48 _ [])) _
        exact k)
      exact ⟨_, (own_ceil a d ha hd_ (fun h => hc ((lw_eq _ _).mpr h))).symm, go9⟩
  obtain ⟨_, _, ⟨T10, L10, k10, n10⟩, -, X10, ⟨Lc10, hQ10, l10, y10, z10⟩, st10⟩ := Jvm.LawKit.callS X0 hx (y := (⟨"com/example/tripleward/tripleward/model/regex/Saturating", "quotientRoundedUp", "(JJ)J"⟩ : MethodName)) hown (mvT hZ (hw _ (List.mem_of_getElem? (i := 1) rfl))) (mvT hZ (hw _ (List.mem_of_getElem? (i := 2) rfl))) (mvT hZ (hw _ (List.mem_of_getElem? (i := 3) rfl))) (mvT hZ (hw _ (List.mem_of_getElem? (i := 4) rfl))) (by decide) (backOf (W := 0) (rm_q l Z a0 hw [] a d  h0 n0 Z0 hdz) hZ (hw _ (List.mem_of_getElem? (i := 4) rfl)) (hw _ (List.mem_of_getElem? (i := 3) rfl)) (by decide) (by decide)) (g := (mkF m 52 #[.val (.long q0), .second, .val (.long q1), .second, .val (.long a), .second, .val (.long d), .second, .val (.long w), .second, .unset, .unset] [(.long d), (.long a)])) rfl (by rw [hml]; rfl) (argsL := [(.long a), (.long d)]) (rest := []) (lenOf pd_0 rfl) rfl (by show 2 * 0 + _ ≤ _; exact Nat.le_of_eq rfl) (hb hby at_52) (fun _ _ => ⟨rfl, e0, (by decide : 0 + 0 ≤ _), (by decide : 0 + 0 ≤ _)⟩)
  dsimp only [Pt.U, Pt.locs, Pt.cells, Pt.slots] at X10 l10 y10 z10 st10 hQ10
  subst l10 y10 z10
  obtain ⟨rfl, N10q, e_h⟩ := hQ10
  have N10 := Fr.app N0 N10q
  have go11 : ∀ t, Steps p.tables e below (T10.setTop (mkF m 70 #[.val (.long q0), .second, .val (.long q1), .second, .val (.long a), .second, .val (.long d), .second, .val (.long w), .second, .val (.long ((a / d) + (if (lcmpW (a % d) (0 : Int64)) = (0 : Int32) then (0 : Int32) else (1 : Int32)).toInt64)), .second] [(.int 1)])) t → Steps p.tables e below O t := fun t k => go7 t (by
    refine XS.lload X0.here hx rfl (hb hby at_48) rfl ?_
    show Steps _ _ _ (s₁.setTop (mkF m 50 _ [(.long a)])) _
    refine XS.lload X0.here hx rfl (hb hby at_50) rfl ?_
    show Steps _ _ _ (s₁.setTop (mkF m 52 _ [(.long d), (.long a)])) _
    refine st10 _ ?_
    show Steps _ _ _ (T10.setTop (mkF m 55 _ [(.long ((a / d) + (if (lcmpW (a % d) (0 : Int64)) = (0 : Int32) then (0 : Int32) else (1 : Int32)).toInt64))])) _
    refine XS.lstore X10.here hx rfl (hb hby at_55) rfl (l' := #[.val (.long q0), .second, .val (.long q1), .second, .val (.long a), .second, .val (.long d), .second, .val (.long w), .second, .val (.long ((a / d) + (if (lcmpW (a % d) (0 : Int64)) = (0 : Int32) then (0 : Int32) else (1 : Int32)).toInt64)), .second]) rfl ?_
    show Steps _ _ _ (T10.setTop (mkF m 57 _ [])) _
    refine XS.lload X10.here hx rfl (hb hby at_57) rfl ?_
    show Steps _ _ _ (T10.setTop (mkF m 59 _ [(.long ((a / d) + (if (lcmpW (a % d) (0 : Int64)) = (0 : Int32) then (0 : Int32) else (1 : Int32)).toInt64))])) _
    refine XS.lload X10.here hx rfl (hb hby at_59) rfl ?_
    show Steps _ _ _ (T10.setTop (mkF m 61 _ [(.long w), (.long ((a / d) + (if (lcmpW (a % d) (0 : Int64)) = (0 : Int32) then (0 : Int32) else (1 : Int32)).toInt64))])) _
    refine XS.lcmp X10.here hx rfl (hb hby at_61) rfl ?_
    show Steps _ _ _ (T10.setTop (mkF m 62 _ [(.int (lcmpW ((a / d) + (if (lcmpW (a % d) (0 : Int64)) = (0 : Int32) then (0 : Int32) else (1 : Int32)).toInt64) w))])) _
    refine XS.ifNo X10.here hx rfl (hb hby at_62) rfl ((if0 _ _).trans (teq ((lw_eq _ _).mpr hw_.symm : (lcmpW ((a / d) + (if (lcmpW (a % d) (0 : Int64)) = (0 : Int32) then (0 : Int32) else (1 : Int32)).toInt64) w) = (0 : Int32))).2) ?_
    show Steps _ _ _ (T10.setTop (mkF m 65 _ [])) _
    refine XS.iconst X10.here hx rfl (hb hby at_65) ?_
    show Steps _ _ _ (T10.setTop (mkF m 66 _ [(.int 1)])) _
    refine XS.goto X10.here hx rfl (pc0 := 66) (pc' := 70) rfl (hb hby at_66) (by decide) (by decide) ?_
    show Steps _ _ _ (T10.setTop (mkF m 70 _ [(.int 1)])) _
    exact k)
  subst hO
  obtain ⟨fs, hr, hrun, hended, hW, hsame⟩ := X10.leave (v := some (.int 1)) (fun h => by rw [Bd.returns] at h; cases h)
  refine ⟨_, _, go11 _ ?_, hrun, hended, _, _, rfl, ?_, ⟨_, rfl⟩, hW, hsame.mono (by decide) (by decide)⟩
  · exact retN X10 hx (t := .boolean) Bd.returns (by simp) (hb hby at_70) hr
  · show Q_law Z q0 q1 h0 n0 _ T10.heap _
    exact ⟨rfl, N10⟩
set_option maxRecDepth 65536 in
set_option maxHeartbeats 40000000 in
theorem comes_1 {Post : Tables → Env → Array Value → State → Outcome → State → Prop} (hpost : ∀ tb e args s v u, (limb_1_1.after args s (.returned v) u = true ∧ limb_1_2.after args s (.returned v) u = true ∧ True) → FrameEnd s (.returned v) u (Jvm.fieldLocs frame_1_writes args s ++ Jvm.arrayLocs frame_1_arrays args s ++ Jvm.staticLocs frame_1_statics s) 0 0 → Post tb e args s (.returned v) u) :
    ArmFor flags0 classFile x code maxLocals ret World_1 tables_1 room_1 Calls_1 rest_1 Pre_1 Post := by
  intro l hfl _ _ p e ha hc hk s m args below hf hA hF happ hP
  obtain ⟨hcalls, hrest, hpre⟩ := hP
  obtain ⟨-, -, -, hnamed, -, -, -, hat⟩ := (Spec.applies_iff hf).mp happ
  obtain ⟨hg, hn⟩ := and_e (Cond.before_iff.mp (show (Jvm.Cond.and given_1 narrow_1).before args s = true from hpre))
  obtain ⟨hcnt, r0⟩ := and_e hg
  obtain ⟨c0, r1⟩ := and_e r0
  obtain ⟨w0, w1, rfl⟩ : ∃ w0 w1 : Value, args = #[w0, w1] := by
    have hs : args.size = 2 := by simpa [Cond.value, given_1] using hcnt
    obtain ⟨L⟩ := args
    match L, hs with
    | [w0, w1], _ => exact ⟨w0, w1, rfl⟩
  have hw := fun d (hd : d ∈ tables_1) => atoms_spec (ws := Jvm.Cond.code x code maxLocals ret :: tables_1) hat d (List.mem_cons_of_mem _ hd)
  obtain ⟨i0, ei0⟩ := isL_v c0
  obtain rfl : w0 = (.long i0) := Option.some.inj ei0
  obtain ⟨i1, ei1⟩ := isL_v r1
  obtain rfl : w1 = (.long i1) := Option.some.inj ei1
  obtain ⟨n, o, h1, h2, h3, _, L, rfl, ⟨rfl, N⟩, hq⟩ := rm_law l s _ hw tables_1 i0 i1 s.heap s.heap.size (Nat.le_refl _) p e ha hc hk s m _ below hf ((Spec.applies_iff_loose hf).mp happ).1 ⟨rfl, State.Warmed39.refl s, rfl⟩ trivial
  refine ⟨n, _, h1, h2, h3, hpost _ _ _ _ _ _ ⟨Cond.after_iff.mpr rfl, Cond.after_iff.mpr (eq_i res_at (Term.int_eval (1)) rfl), trivial⟩ ⟨hq.1, hq.2.1, (hq.2.2.sift fun y hy => Or.inr (N y hy)).mono (by decide) (by decide)⟩⟩
theorem main_1_1 : Claimed_1_1 := comes_1 fun _ _ _ _ _ _ h hF => ⟨h.1, hF⟩
theorem main_1_2 : Claimed_1_2 := comes_1 fun _ _ _ _ _ _ h hF => ⟨h.2.1, hF⟩
end Jvm.Pilot.@@N@@
namespace Jvm.Pilot.@@N@@
open Jvm Jvm.ClassFile Sem Op Lib Jvm.Free Jvm.Stand Jvm.Pilot.@@N@@.Jvm.D
/-! MADE BY PROGRAM (witnessworld.py) out of the Statement's table words and the real class files: 9 classes; the members and pool entries that the words name. The judged class is class 1, her method 1. -/
namespace start1
open Jvm.ClassFile
def u (s : String) : CpInfo := .utf8 (stringToUtf16 s)
/-- a pool by its gaps: so many unusable entries, then the entry; so many at the end -/
def gap : Nat → List CpInfo → List CpInfo
  | 0, r => r
  | n + 1, r => .unusable :: gap n r
def poolList (es : List (Nat × CpInfo)) (last : Nat) : List CpInfo := es.foldr (fun e r => gap e.1 (e.2 :: r)) (gap last [])
def pool (es : List (Nat × CpInfo)) (last : Nat) : Array CpInfo := ⟨poolList es last⟩
def fileOf (pool : Array CpInfo) (this : Nat) (attrs : Array Attribute := #[]) (ms : Array MethodInfo := #[]) (fl : Nat := 33) (sup : Nat := 0) (ifs : Array Nat := #[]) (fds : Array FieldInfo := #[]) : ClassFile where
  minorVersion := 0
  majorVersion := 65
  constantPool := pool
  accessFlags := fl
  thisClass := this
  superClass := sup
  interfaces := ifs
  fields := fds
  methods := ms
  attributes := attrs
def plain (name : String) (sup : Option ClassId) : Class where
  name := name
  kind := .ordinary
  loader := none
  accessFlags := 33
  super := sup
  interfaces := #[]
  cf := none
  fields := #[]
  methods := #[]
  instanceTypes := #[]
  staticTypes := #[]
  resolved := #[]
  callSites := []
  init := .initialized
  statics := none
  mirror := none

def pool0 : Array CpInfo := pool [(5, u "<init>"), (0, u "()V"), (1, .class_ 10), (1, u "java/lang/Object")] 113

def k0m0 : Method := { name := "<init>", desc := "()V", sig := { parameters := [], returnType := none }, accessFlags := 1, code := none }
/-- java/lang/Object -/
def k0 : Class := { plain "java/lang/Object" none with
  accessFlags := 33
  interfaces := #[]
  cf := some (fileOf pool0 8 #[] #[{ accessFlags := 1, nameIndex := 5, descriptorIndex := 6, attributes := #[] }] 33 0 #[] #[])
  fields := #[]
  methods := #[k0m0]
  instanceTypes := #[]
  staticTypes := #[]
  resolved := Array.replicate 124 none
  statics := none }

def pool1 : Array CpInfo := pool [(2, .class_ 4), (1, u "java/lang/Object"), (0, u "<init>"), (0, u "()V"), (2, .long 9223372036854775807), (1, .methodref 12 13), (0, .class_ 14), (0, .nameAndType 15 16), (0, u "com/example/tripleward/tripleward/model/regex/Saturating"), (0, u "quotientRoundedUp"), (0, u "(JJ)J"), (0, .class_ 18), (0, u "com/example/tripleward/tripleward/model/regex/SaturatingQuotientRoundedUpPinLaw"), (2, u "law"), (0, u "(JJ)Z")] 3

def k1m0 : Method := { name := "<init>", desc := "()V", sig := { parameters := [], returnType := none }, accessFlags := 2, code := none }
def k1c1 : Code := { maxStack := 4, maxLocals := 12, code := code, exceptionTable := #[], attributes := #[] }
def k1m1 : Method := { name := "law", desc := "(JJ)Z", sig := { parameters := [.long, .long], returnType := some .boolean }, accessFlags := 9, code := some k1c1 }
/-- com/example/tripleward/tripleward/model/regex/SaturatingQuotientRoundedUpPinLaw -/
def k1 : Class := { plain "com/example/tripleward/tripleward/model/regex/SaturatingQuotientRoundedUpPinLaw" (some 0) with
  accessFlags := 49
  interfaces := #[]
  cf := some (fileOf pool1 17 #[] #[{ accessFlags := 2, nameIndex := 5, descriptorIndex := 6, attributes := #[] }, { accessFlags := 9, nameIndex := 21, descriptorIndex := 22, attributes := #[] }] 49 2 #[] #[])
  fields := #[]
  methods := #[k1m0, k1m1]
  instanceTypes := #[]
  staticTypes := #[]
  resolved := Array.replicate 26 none
  statics := none }

def pool2 : Array CpInfo := pool [(2, .class_ 4), (1, u "java/lang/Object"), (0, u "<init>"), (0, u "()V"), (4, .class_ 12), (0, u "com/example/tripleward/tripleward/model/regex/Saturating"), (3, u "(JJ)J"), (2, u "quotientRoundedUp")] 2

def k2m0 : Method := { name := "<init>", desc := "()V", sig := { parameters := [], returnType := none }, accessFlags := 2, code := none }
def k2c1 : Code := { maxStack := 6, maxLocals := 4, code := prog_51_method_4_code, exceptionTable := #[], attributes := #[] }
def k2m1 : Method := { name := "quotientRoundedUp", desc := "(JJ)J", sig := { parameters := [.long, .long], returnType := some .long }, accessFlags := 8, code := some k2c1 }
/-- com/example/tripleward/tripleward/model/regex/Saturating -/
def k2 : Class := { plain "com/example/tripleward/tripleward/model/regex/Saturating" (some 0) with
  accessFlags := 48
  interfaces := #[]
  cf := some (fileOf pool2 11 #[] #[{ accessFlags := 2, nameIndex := 5, descriptorIndex := 6, attributes := #[] }, { accessFlags := 8, nameIndex := 19, descriptorIndex := 16, attributes := #[] }] 48 2 #[] #[])
  fields := #[]
  methods := #[k2m0, k2m1]
  instanceTypes := #[]
  staticTypes := #[]
  resolved := Array.replicate 22 none
  statics := none }

def pool3 : Array CpInfo := pool [(1, u "java/lang/Cloneable"), (0, .class_ 1), (0, u "java/lang/Object"), (0, .class_ 3)] 3

/-- java/lang/Cloneable -/
def k3 : Class := { plain "java/lang/Cloneable" (some 0) with
  accessFlags := 1537
  interfaces := #[]
  cf := some (fileOf pool3 2 #[] #[] 1537 4 #[] #[])
  fields := #[]
  methods := #[]
  instanceTypes := #[]
  staticTypes := #[]
  resolved := Array.replicate 8 none
  statics := none }

def pool4 : Array CpInfo := pool [(1, u "java/io/Serializable"), (0, .class_ 1), (0, u "java/lang/Object"), (0, .class_ 3)] 3

/-- java/io/Serializable -/
def k4 : Class := { plain "java/io/Serializable" (some 0) with
  accessFlags := 1537
  interfaces := #[]
  cf := some (fileOf pool4 2 #[] #[] 1537 4 #[] #[])
  fields := #[]
  methods := #[]
  instanceTypes := #[]
  staticTypes := #[]
  resolved := Array.replicate 8 none
  statics := none }

/-- the primitive byte -/
def k5 : Class := { plain "byte" none with kind := .primitive 'B', accessFlags := 0x411 }
/-- [B -/
def k6 : Class := { plain "[B" (some 0) with kind := .array 5 .byte, interfaces := #[3, 4], accessFlags := 1041 }

/-- the primitive int -/
def k7 : Class := { plain "int" none with kind := .primitive 'I', accessFlags := 0x411 }
/-- [I -/
def k8 : Class := { plain "[I" (some 0) with kind := .array 7 .int, interfaces := #[3, 4], accessFlags := 1041 }

def heap : Heap := #[]
def classes : Array Class := #[k0, k1, k2, k3, k4, k5, k6, k7, k8]
def interned : List (Array UInt16 × Addr) := []
def slotsUsed : Nat := 0
def theMethod : MethodId := ⟨1, 1⟩
def args0 : Array Value := #[.long 5, .long 3]
def aboutOver (below : List Frame) : State where
  vm := { classes := classes, interned := interned.toArray }
  heap := heap
  slotsUsed := slotsUsed
  threads := #[{ frames := .invoking theMethod args0 :: below }]
def below0 : List Frame := [.native { method := ⟨0, 0⟩, args := #[] }]
def about1 : State := aboutOver below0
def p0 : Program := .bare "" "" ""
def e0 : Env := launch0.env 0 0 0
theorem w_frames : about1.frames = Frame.invoking theMethod args0 :: below0 := rfl
set_option maxRecDepth 65536 in
theorem w_args : argsFit about1.vm theMethod args0 = true := by decide +kernel
set_option maxRecDepth 65536 in
theorem w_heap : heapFits about1 = true := by decide +kernel
set_option maxRecDepth 65536 in
theorem w_runnable : about1.curStatus? = some .runnable := by decide +kernel
set_option maxRecDepth 65536 in
theorem w_alone : about1.alone = true := by decide +kernel
set_option maxRecDepth 65536 in
theorem w_named : about1.methodNamed? x = some theMethod := by decide +kernel
set_option maxRecDepth 65536 in
theorem w_hears : about1.hears theMethod below0 = true := by decide +kernel
set_option maxRecDepth 65536 in
theorem w_ripe : about1.ripe theMethod args0 below0 = true := by decide +kernel
theorem w_running : about1.status = .running := rfl
set_option maxRecDepth 65536 in
theorem w_room : about1.hasRoom e0.platform room_1 = true :=
  launch0.hasRoom_least _ room_1 (by decide +kernel) (by decide +kernel) (by decide +kernel) (by decide +kernel) (by decide +kernel) (by decide +kernel)
theorem allAtoms_all (ts : List Jvm.Cond) (a : Array Jvm.Value) (st : Jvm.State) : (allAtoms ts).before a st = ts.all (fun c => c.before a st) := by
  induction ts with
  | nil => rfl
  | cons c t ih =>
    show (Jvm.Cond.and c (allAtoms t)).before a st = _
    rw [Jvm.Cond.before_and, ih, List.all_cons]
def words1 : List Jvm.Cond := Jvm.Cond.code x code maxLocals ret :: tables_1
/-- a 'code' word, met by the world's own term for the bytes: nothing is compared byte by byte -/
theorem code_word {y : MethodName} {bytes : ByteArray} {mx : Nat} {rt : Option FieldType} {a : Array Value} {s : State} {m : MethodId} {meth : Method} {c : Code} (h1 : s.methodNamed? y = some m) (h2 : s.vm.method? m = some meth) (h3 : meth.code = some c) (h4 : c.code = bytes)
    (h5 : (c.maxLocals == mx && c.exceptionTable.isEmpty && decide (c.maxStack ≤ mostOperands) && decide (meth.sig.returnType = rt) && !meth.locks && decide (parseMethodDescriptor y.desc = some meth.sig)) = true) : (Jvm.Cond.code y bytes mx rt).before a s = true := by
  simp only [Bool.and_eq_true, beq_iff_eq, Bool.not_eq_true', decide_eq_true_eq] at h5
  obtain ⟨⟨⟨⟨⟨g1, g2⟩, g3⟩, g4⟩, g5⟩, g6⟩ := h5
  simp [Cond.before, Cond.holds, Cond.value, h1, h2, h3, h4, g1, g2, g3, g4, g5, g6]
def isCode : Jvm.Cond → Bool
  | .code _ _ _ _ => true
  | _ => false
theorem all_split {L : List Jvm.Cond} {P : Jvm.Cond → Bool} (h1 : L.all (fun c => isCode c || P c) = true) (h2 : ∀ c ∈ L.filter isCode, P c = true) : L.all P = true := by
  refine List.all_eq_true.mpr fun c hc => ?_
  have h := List.all_eq_true.mp h1 c hc
  rcases Bool.eq_false_or_eq_true (isCode c) with hi | hi
  · exact h2 c (List.mem_filter.mpr ⟨hc, hi⟩)
  · simpa [hi] using h
set_option maxRecDepth 65536 in
theorem w_c0 : (Jvm.Cond.code x code maxLocals ret).before args0 about1 = true := code_word (m := ⟨1, 1⟩) (meth := k1m1) (c := k1c1) (by decide +kernel) rfl rfl rfl (by decide +kernel)
set_option maxRecDepth 65536 in
theorem w_c1 : (Jvm.Cond.code ({ cls := "com/example/tripleward/tripleward/model/regex/Saturating", name := "quotientRoundedUp", desc := "(JJ)J" } : Jvm.MethodName) prog_51_method_4_code (4 : Nat) (Option.some Jvm.ClassFile.FieldType.long)).before args0 about1 = true := code_word (m := ⟨2, 1⟩) (meth := k2m1) (c := k2c1) (by decide +kernel) rfl rfl rfl (by decide +kernel)
def codes1 : List Jvm.Cond := [Jvm.Cond.code x code maxLocals ret, Jvm.Cond.code ({ cls := "com/example/tripleward/tripleward/model/regex/Saturating", name := "quotientRoundedUp", desc := "(JJ)J" } : Jvm.MethodName) prog_51_method_4_code (4 : Nat) (Option.some Jvm.ClassFile.FieldType.long)]
set_option maxRecDepth 65536 in
theorem codes_eq : words1.filter isCode = codes1 := rfl
theorem w_codes : ∀ c ∈ words1.filter isCode, c.before args0 about1 = true := by
  rw [codes_eq]
  intro c hc
  simp only [codes1, List.mem_cons, List.not_mem_nil, or_false] at hc
  rcases hc with rfl | rfl
  · exact w_c0
  · exact w_c1
set_option maxRecDepth 65536 in
theorem w_t1 : words1.all (fun c => isCode c || c.before args0 about1) = true := by decide +kernel
theorem w_tables : (allAtoms (Jvm.Cond.code x code maxLocals ret :: tables_1)).before args0 about1 = true := by
  rw [allAtoms_all]
  show words1.all (fun c => c.before args0 about1) = true
  refine all_split ?_ w_codes
  rw [w_t1]
set_option maxRecDepth 65536 in
theorem w_case : (Jvm.Cond.and given_1 narrow_1).before args0 about1 = true := by decide +kernel
theorem w_applies : (headSpec (Jvm.Cond.code x code maxLocals ret :: tables_1) room_1).applies x e0.platform about1 = true :=
  (Spec.applies_iff w_frames).mpr ⟨w_running, w_runnable, w_alone, w_named, w_hears, w_ripe, w_room, w_tables⟩
theorem atStart : AtStart classFile x code maxLocals ret World_1 tables_1 room_1 Calls_1 rest_1 Pre_1 launch0 p0 e0 about1 theMethod args0 below0 :=
  ⟨lists_1, trivial, launch0.admits_env _ _ _, launch0.least_env, fairChoices_fair.cas, fairChoices_fair.clock, w_frames, w_args, w_heap, w_applies, trivial, trivial, w_case⟩
end start1
theorem witness_1 : WitnessClaimed_1 := ⟨start1.p0, start1.e0, start1.about1, start1.theMethod, start1.args0, start1.below0, start1.atStart⟩
end Jvm.Pilot.@@N@@
