import JvmDerived
import JvmDerived.Pilot.@@N@@Statement
import JvmDerived.Pilot.@@N@@Code
set_option linter.unusedVariables false
set_option linter.unusedSimpArgs false
namespace Jvm.RoadKit
open Sem ClassFile Op Lib Jvm.Stand Jvm.Free Jvm.LawKit
section New
variable {p : Program} {l : Launch} {e : Env} {R : Room} {s : State} {m : MethodId} {args : Array Value} {below : List Frame} {meth : Method} {c : Code} {T : State} {locs : List Loc} {cells slots : Nat}
theorem retI (X : Stand p l e R s m args below meth c T locs cells slots) (hx : p.tables.exec = Jvm.exec) {pc : Nat} {Ls : Array Slot} {z : Int32} {rest : List Value} (hret : meth.sig.returnType = some .int) (hd : decode c.code pc = .ok (.ireturn, 1)) {fs : List Frame}
    (hl : ∀ (f : JFrame) (acts : List Action), f.method = m → f.locked = none → f.entered = [] → (doReturn e (T.setTop f) acts (some (.int z))).1 = T.setFrames fs) : Steps p.tables e below (T.setTop (mkF m pc Ls (.int z :: rest))) (T.setFrames fs) := by
  have hm' : T.vm.method? m = some meth := X.method'
  have hn : narrow .int (.int z) = .int z := rfl
  show Steps p.tables e below (T.setTop { method := m, pc := pc, locals := Ls, stack := _ :: rest, locked := none }) _
  jvm_step X.here [X.here.top, hx, hd, hm', hret, hn]
  first | (intro acts; rw [hl _ acts rfl rfl rfl]) | rw [hl _ _ rfl rfl rfl]
  exact Steps.refl _
end New
end Jvm.RoadKit
namespace Jvm.Pilot.@@N@@
open Jvm Jvm.ClassFile Sem Op Lib Jvm.Free Jvm.Stand Jvm.LawKit Jvm.RoadKit Bundle Jvm.Pilot.@@N@@.Jvm.D
def own_hi (c : Int64) : Int64 := ((c.toUInt64 >>> ((32 : Int32) &&& 0x3f).toInt64.toUInt64).toInt64)
def own_big (hi lo : Int32) : Int64 := ((hi.toInt64 <<< ((32 : Int32) &&& 0x3f).toInt64) ||| (lo.toInt64 &&& (4294967295 : Int64)))
def own_c64 (x y s : Int64) : Int64 := ((((x &&& y) ||| ((x ||| y) &&& (s ^^^ (-1 : Int64)))).toUInt64 >>> ((63 : Int32) &&& 0x3f).toInt64.toUInt64).toInt64)
def own_exp (j z n : Int32) (s : Int64) (b : Int32) : Int32 := if (j - z) < (0 : Int32) then b else if (j - z) < n then (if (j - z) = (0 : Int32) then s.toInt32 else (own_hi s).toInt32) else b
def own_pick (n k v : Int32) : Int32 := if n < k then (0 : Int32) else v
/-- the sum that the law reckons with -/
def own_sumL (n m xa xb ya yb : Int32) : Int64 := own_big (own_pick n 2 xb) (own_pick n 1 xa) + own_big (own_pick m 2 yb) (own_pick m 1 ya)
/-- the carry that the law expects -/
def own_carry (n m xa xb ya yb : Int32) : Int32 := if n = (2 : Int32) then (own_c64 (own_big (own_pick n 2 xb) (own_pick n 1 xa)) (own_big (own_pick m 2 yb) (own_pick m 1 ya)) (own_sumL n m xa xb ya yb)).toInt32 else (own_hi (own_sumL n m xa xb ya yb)).toInt32
/-- what the adding leaves: the carry, and the two words (as far as they are written) -/
def own_post (n m xa xb ya yb r v0 v1 : Int32) : Prop := r = own_carry n m xa xb ya yb ∧ (¬ n < (1 : Int32) → v0 = (own_sumL n m xa xb ya yb).toInt32) ∧ (¬ n < (2 : Int32) → v1 = (own_hi (own_sumL n m xa xb ya yb)).toInt32)
def own_put (n p : Int32) (zs : List Value) (v0 v1 : Int32) : List Value := if n < (1 : Int32) then zs else if n < (2 : Int32) then zs.set p.toNatClampNeg (.int v0) else (zs.set p.toNatClampNeg (.int v0)).set (p + (1 : Int32)).toNatClampNeg (.int v1)
theorem own_hi_eq (c : Int64) : (own_hi c).toInt = (c.toInt % 18446744073709551616) / 4294967296 := c_lushr c 32 32 (by decide) (by decide)
theorem own_m_eq (x : Int32) : (x.toInt64 &&& (4294967295 : Int64)).toInt = x.toInt % 4294967296 := by
  rw [c_maskL _ _ 32 (by decide) (by decide), c_i2l]; rfl
theorem own_big_eq (hi lo : Int32) : (own_big hi lo).toInt = hi.toInt * 4294967296 + lo.toInt % 4294967296 := by
  unfold own_big
  have a1 := c_lshl hi.toInt64 (32 : Int32) 32 (by decide)
  rw [c_i2l] at a1
  have a2 := own_m_eq lo
  have r1 := rng32 hi
  have r2 := rng64 (hi.toInt64 <<< ((32 : Int32) &&& 0x3f).toInt64)
  have a3 : (hi.toInt64 <<< ((32 : Int32) &&& 0x3f).toInt64).toInt = hi.toInt * 4294967296 := by
    have : ((2 ^ 32 : Nat) : Int) = 4294967296 := by decide
    rw [this] at a1; omega
  have a4 := c_orL (hi.toInt64 <<< ((32 : Int32) &&& 0x3f).toInt64) (lo.toInt64 &&& (4294967295 : Int64)) 32 (by decide) 4294967296 (by decide) (by rw [a3]; omega) (by omega) (by omega)
  have r3 := rng64 ((hi.toInt64 <<< ((32 : Int32) &&& 0x3f).toInt64) ||| (lo.toInt64 &&& (4294967295 : Int64)))
  omega
theorem own_sgn (X Y S V A B C E : Int) (a1 : (X < 0 → Y < 0 → B < 0) ∧ (0 ≤ X → 0 ≤ B) ∧ (0 ≤ Y → 0 ≤ B)) (a2 : (0 ≤ X → 0 ≤ Y → 0 ≤ C) ∧ (X < 0 → C < 0) ∧ (Y < 0 → C < 0)) (e1 : S < 0 → 0 ≤ E) (e2 : 0 ≤ S → E < 0)
    (a4 : (C < 0 → E < 0 → A < 0) ∧ (0 ≤ C → 0 ≤ A) ∧ (0 ≤ E → 0 ≤ A)) (a5 : (0 ≤ B → 0 ≤ A → 0 ≤ V) ∧ (B < 0 → V < 0) ∧ (A < 0 → V < 0)) : (V < 0 ↔ (X < 0 ∧ Y < 0) ∨ ((X < 0 ∨ Y < 0) ∧ 0 ≤ S)) := by
  have hB : B < 0 ↔ X < 0 ∧ Y < 0 := ⟨fun h => ⟨Int.not_le.mp fun z => absurd (a1.2.1 z) (by omega), Int.not_le.mp fun z => absurd (a1.2.2 z) (by omega)⟩, fun h => a1.1 h.1 h.2⟩
  have hC : C < 0 ↔ X < 0 ∨ Y < 0 := ⟨fun h => Classical.byContradiction fun z => absurd (a2.1 (by omega) (by omega)) (by omega), fun h => h.elim a2.2.1 a2.2.2⟩
  have hE : E < 0 ↔ 0 ≤ S := ⟨fun h => Int.not_lt.mp fun z => absurd (e1 z) (by omega), e2⟩
  have hA : A < 0 ↔ C < 0 ∧ E < 0 := ⟨fun h => ⟨Int.not_le.mp fun z => absurd (a4.2.1 z) (by omega), Int.not_le.mp fun z => absurd (a4.2.2 z) (by omega)⟩, fun h => a4.1 h.1 h.2⟩
  have hV : V < 0 ↔ B < 0 ∨ A < 0 := ⟨fun h => Classical.byContradiction fun z => absurd (a5.1 (by omega) (by omega)) (by omega), fun h => h.elim a5.2.1 a5.2.2⟩
  rw [hV, hA, hB, hC, hE]
theorem own_c64_eq (x y s : Int64) (h : (s.toInt - (x.toInt + y.toInt)) % 18446744073709551616 = 0) : (own_c64 x y s).toInt = (x.toInt % 18446744073709551616 + y.toInt % 18446744073709551616) / 18446744073709551616 := by
  unfold own_c64
  rw [c_lushr _ (63 : Int32) 63 (by decide) (by decide)]
  have m1 : (-1 : Int64).toInt = -1 := rfl
  have a3 := c_xorSL s (-1 : Int64)
  rw [m1] at a3
  have key := own_sgn x.toInt y.toInt s.toInt _ _ _ _ _ (c_andSL x y) (c_orSL x y) (fun z => a3.1 z (by decide)) (fun z => a3.2.2.1 z (by decide)) (c_andSL (x ||| y) (s ^^^ (-1 : Int64))) (c_orSL (x &&& y) ((x ||| y) &&& (s ^^^ (-1 : Int64))))
  have r1 := rng64 x
  have r2 := rng64 y
  have r3 := rng64 s
  have r4 := rng64 ((x &&& y) ||| ((x ||| y) &&& (s ^^^ (-1 : Int64))))
  have p63 : ((2 ^ 63 : Nat) : Int) = 9223372036854775808 := by decide
  rw [p63]
  clear a3
  generalize ((x &&& y) ||| ((x ||| y) &&& (s ^^^ (-1 : Int64)))).toInt = V at *
  generalize x.toInt = X at *
  generalize y.toInt = Y at *
  generalize s.toInt = S at *
  by_cases q1 : X < 0 <;> by_cases q2 : Y < 0 <;> by_cases q3 : 0 ≤ S
  · have : V < 0 := key.mpr (Or.inl ⟨q1, q2⟩)
    omega
  · have : V < 0 := key.mpr (Or.inl ⟨q1, q2⟩)
    omega
  · have : V < 0 := key.mpr (Or.inr ⟨Or.inl q1, q3⟩)
    omega
  · have : ¬ V < 0 := fun z => by rcases key.mp z with ⟨_, b⟩ | ⟨_, b⟩ <;> omega
    omega
  · have : V < 0 := key.mpr (Or.inr ⟨Or.inr q2, q3⟩)
    omega
  · have : ¬ V < 0 := fun z => by rcases key.mp z with ⟨_, b⟩ | ⟨_, b⟩ <;> omega
    omega
  · have : ¬ V < 0 := fun z => by rcases key.mp z with ⟨_, b⟩ | ⟨b, _⟩ <;> omega
    omega
  · have : ¬ V < 0 := fun z => by rcases key.mp z with ⟨_, b⟩ | ⟨b, _⟩ <;> omega
    omega
theorem own_i32 {a b : Int32} (h : a.toInt % 4294967296 = b.toInt % 4294967296) : a = b := by
  rw [← Int32.toInt_inj]; have := rng32 a; have := rng32 b; omega
theorem own_l2i (c : Int64) : c.toInt32.toInt % 4294967296 = c.toInt % 4294967296 := by have := c_l2i c; omega
theorem own_addS (a b : Int64) (h1 : 0 ≤ a.toInt + b.toInt) (h2 : a.toInt + b.toInt < 9223372036854775808) : (a + b).toInt = a.toInt + b.toInt := by
  have := c_ladd a b; have := rng64 (a + b); omega
theorem own_bigU (hi lo : Int32) : (own_big hi lo).toInt % 18446744073709551616 = (hi.toInt % 4294967296) * 4294967296 + lo.toInt % 4294967296 := by have := own_big_eq hi lo; omega
theorem own_sumU (a b : Int64) : (a + b).toInt % 18446744073709551616 = (a.toInt % 18446744073709551616 + b.toInt % 18446744073709551616) % 18446744073709551616 := by have := c_ladd a b; omega
theorem own_hiS (c : Int64) (h : 0 ≤ c.toInt) : (own_hi c).toInt = c.toInt / 4294967296 := by
  rw [own_hi_eq, Int.emod_eq_of_lt h (by have := rng64 c; omega)]
theorem ef_ex (m : MethodId) (x0 : Int32) (x1 : Int32) (x2 : Int32) (x3 : Int64) (x4 : Int32) : entryFrame m #[(.int x0), (.int x1), (.int x2), (.long x3), (.int x4)] 7 = mkF m 0 #[iv x0, iv x1, iv x2, .val (.long x3), .second, iv x4, .unset] [] := by first | (simp [entryFrame, mkF, argsToLocals, Value.category]; done) | rfl
theorem pn_0 : plainName "com/example/limbwise/kernel/WordsAddPinLaw" = true := by first | (simp [plainName, overriddenIn]; done) | decide +kernel
def Q_ex (Z : State) (p0 : Int32) (p1 : Int32) (p2 : Int32) (q3 : Int64) (p4 : Int32) (h0 : Heap) (n0 : Nat) (v : Option Value) (h : Heap) (L : List Loc) : Prop := v = some (.int (own_exp p0 p1 p2 q3 p4)) ∧ Fr n0 L ∧ h = h0
theorem d0_0 : decode method_2_code 0 = .ok (.iload_n 0, 1) := by decide +kernel
theorem d0_1 : decode method_2_code 1 = .ok (.iload_n 1, 1) := by decide +kernel
theorem d0_2 : decode method_2_code 2 = .ok (.isub, 1) := by decide +kernel
theorem d0_3 : decode method_2_code 3 = .ok (.istore 6, 2) := by decide +kernel
theorem d0_5 : decode method_2_code 5 = .ok (.iload 6, 2) := by decide +kernel
theorem d0_7 : decode method_2_code 7 = .ok (.ifCond .lt 23, 3) := by decide +kernel
theorem d0_30 : decode method_2_code 30 = .ok (.iload 5, 2) := by decide +kernel
theorem d0_32 : decode method_2_code 32 = .ok (.ireturn, 1) := by decide +kernel
theorem d0_10 : decode method_2_code 10 = .ok (.iload 6, 2) := by decide +kernel
theorem d0_12 : decode method_2_code 12 = .ok (.iload_n 2, 1) := by decide +kernel
theorem d0_13 : decode method_2_code 13 = .ok (.if_icmp .ge 17, 3) := by decide +kernel
theorem d0_16 : decode method_2_code 16 = .ok (.iload 6, 2) := by decide +kernel
theorem d0_18 : decode method_2_code 18 = .ok (.ifCond .ne 6, 3) := by decide +kernel
theorem d0_21 : decode method_2_code 21 = .ok (.lload_n 3, 1) := by decide +kernel
theorem d0_22 : decode method_2_code 22 = .ok (.l2i, 1) := by decide +kernel
theorem d0_23 : decode method_2_code 23 = .ok (.ireturn, 1) := by decide +kernel
theorem d0_24 : decode method_2_code 24 = .ok (.lload_n 3, 1) := by decide +kernel
theorem d0_25 : decode method_2_code 25 = .ok (.bipush 32, 2) := by decide +kernel
theorem d0_27 : decode method_2_code 27 = .ok (.lushr, 1) := by decide +kernel
theorem d0_28 : decode method_2_code 28 = .ok (.l2i, 1) := by decide +kernel
theorem d0_29 : decode method_2_code 29 = .ok (.ireturn, 1) := by decide +kernel
set_option maxRecDepth 65536 in
set_option maxHeartbeats 40000000 in
theorem rm_ex (l : Launch) (Z : State) (a0 : Array Value) (hw : ∀ d ∈ tables_1, d.before a0 Z = true) (ws : List Jvm.Cond) (p0 : Int32) (p1 : Int32) (p2 : Int32) (q3 : Int64) (p4 : Int32) (h0 : Heap) (n0 : Nat) (Z0 : n0 ≤ h0.size)  :
    MetFree l (⟨"com/example/limbwise/kernel/WordsAddPinLaw", "expect", "(IIIJI)I"⟩ : MethodName) (head1 (Jvm.Cond.code (⟨"com/example/limbwise/kernel/WordsAddPinLaw", "expect", "(IIIJI)I"⟩ : MethodName) method_2_code 7 (some .int) :: ws) ({ frames := 0, cells := 0, slots := 0, locals := 0 } : Room)) (fun a U => a = #[(.int p0), (.int p1), (.int p2), (.long q3), (.int p4)] ∧ Z.Warmed39 U.vm ∧ U.heap = h0) (fun _ _ _ _ _ => True) (fun _ U o U' => ∃ v L, o = .returned v ∧ Q_ex Z p0 p1 p2 q3 p4 h0 n0 v U'.heap L ∧ FrameEnd U o U' L ({ frames := 0, cells := 0, slots := 0, locals := 0 } : Room).cells ({ frames := 0, cells := 0, slots := 0, locals := 0 } : Room).slots) := by
  refine MetFree.of_bodySF (plainFor_of_name pn_0) hisR ?_
  intro p e s m args below meth c s₁ Bd hml0 hP hK
  obtain ⟨rfl, hZ, hh⟩ := hP
  have hx := Bd.exec
  have hby := Bd.bytes
  have hml : c.maxLocals = 7 := hml0
  have hown : s.vm.findClass "com/example/limbwise/kernel/WordsAddPinLaw" = some m.cls := findClass_of_methodNamed Bd.named
  have hnm := (name_of_methodNamed Bd.named Bd.method).1
  have X0 : Stand p l e ({ frames := 0, cells := 0, slots := 0, locals := 0 } : Room) s m #[(.int p0), (.int p1), (.int p2), (.long q3), (.int p4)] below meth c s₁ [] 0 0 := Stand.of_body Bd
  have e0 : s₁.heap = h0 := by rw [← hh, Bd.state]; rfl
  have N0 := Fr.nil n0
  have go0 : ∀ t, Steps p.tables e below (s₁.setTop (mkF m 0 #[iv p0, iv p1, iv p2, .val (.long q3), .second, iv p4, .unset] [])) t → Steps p.tables e below (s₁.setTop (entryFrame m #[(.int p0), (.int p1), (.int p2), (.long q3), (.int p4)] 7)) t := fun t k => castTop (ef_ex m p0 p1 p2 q3 p4) k
  obtain ⟨O, hO⟩ : ∃ z, z = (s₁.setTop (entryFrame m #[(.int p0), (.int p1), (.int p2), (.long q3), (.int p4)] 7)) := ⟨_, rfl⟩
  rw [← hO] at go0
  have go101 : ∀ t, Steps p.tables e below (s₁.setTop (mkF m 7 #[iv p0, iv p1, iv p2, .val (.long q3), .second, iv p4, iv (p0 - p1)] [(.int (p0 - p1))])) t → Steps p.tables e below O t := fun t k => go0 t (by
    refine XS.iloadN X0.here hx rfl (hb hby d0_0) rfl ?_
    refine XS.iloadN X0.here hx rfl (hb hby d0_1) rfl ?_
    show Steps _ _ _ (s₁.setTop (mkF m 2 _ [(.int p1), (.int p0)])) _
    refine XS.isub X0.here hx rfl (hb hby d0_2) rfl ?_
    refine XS.istore X0.here hx rfl (hb hby d0_3) rfl (l' := #[iv p0, iv p1, iv p2, .val (.long q3), .second, iv p4, iv (p0 - p1)]) rfl ?_
    show Steps _ _ _ (s₁.setTop (mkF m 5 _ [])) _
    refine XS.iload X0.here hx rfl (hb hby d0_5) rfl ?_
    exact k)
  by_cases h1 : (p0 - p1) < (0 : Int32)
  · have go102 : ∀ t, Steps p.tables e below (s₁.setTop (mkF m 32 #[iv p0, iv p1, iv p2, .val (.long q3), .second, iv p4, iv (p0 - p1)] [(.int p4)])) t → Steps p.tables e below O t := fun t k => go101 t (by
      refine XS.ifYes X0.here hx rfl (pc0 := 7) (pc' := 30) rfl (hb hby d0_7) rfl ((if0 _ _).trans (tlt (h1 : (p0 - p1) < (0 : Int32))).1) (by decide) (by decide) ?_
      refine XS.iload X0.here hx rfl (hb hby d0_30) rfl ?_
      show Steps _ _ _ (s₁.setTop (mkF m 32 _ [(.int p4)])) _
      exact k)
    rw [hO] at go102
    obtain ⟨fs, hr, hrun, hended, hW, hsame⟩ := X0.leave (v := some (.int p4)) (fun h => by rw [Bd.returns] at h; cases h)
    refine ⟨_, _, go102 _ ?_, hrun, hended, _, _, rfl, ?_, ⟨_, rfl⟩, hW, hsame.mono (by decide) (by decide)⟩
    · exact retI X0 hx Bd.returns (hb hby d0_32) hr
    · show Q_ex Z p0 p1 p2 q3 p4 h0 n0 _ s₁.heap _
      rw [e0]
      exact ⟨by unfold own_exp; rw [if_pos h1], N0, rfl⟩
  · have go104 : ∀ t, Steps p.tables e below (s₁.setTop (mkF m 13 #[iv p0, iv p1, iv p2, .val (.long q3), .second, iv p4, iv (p0 - p1)] [(.int p2), (.int (p0 - p1))])) t → Steps p.tables e below O t := fun t k => go101 t (by
      refine XS.ifNo X0.here hx rfl (hb hby d0_7) rfl ((if0 _ _).trans (flt (h1 : ¬ ((p0 - p1) < (0 : Int32)))).1) ?_
      refine XS.iload X0.here hx rfl (hb hby d0_10) rfl ?_
      show Steps _ _ _ (s₁.setTop (mkF m 12 _ [(.int (p0 - p1))])) _
      refine XS.iloadN X0.here hx rfl (hb hby d0_12) rfl ?_
      exact k)
    by_cases h2 : (p0 - p1) < p2
    · have go105 : ∀ t, Steps p.tables e below (s₁.setTop (mkF m 18 #[iv p0, iv p1, iv p2, .val (.long q3), .second, iv p4, iv (p0 - p1)] [(.int (p0 - p1))])) t → Steps p.tables e below O t := fun t k => go104 t (by
        refine XS.icmpNo X0.here hx rfl (hb hby d0_13) rfl (tlt (h2 : (p0 - p1) < p2)).2.1 ?_
        refine XS.iload X0.here hx rfl (hb hby d0_16) rfl ?_
        show Steps _ _ _ (s₁.setTop (mkF m 18 _ [(.int (p0 - p1))])) _
        exact k)
      by_cases h3 : (p0 - p1) = (0 : Int32)
      · have go106 : ∀ t, Steps p.tables e below (s₁.setTop (mkF m 23 #[iv p0, iv p1, iv p2, .val (.long q3), .second, iv p4, iv (p0 - p1)] [(.int q3.toInt32)])) t → Steps p.tables e below O t := fun t k => go105 t (by
          refine XS.ifNo X0.here hx rfl (hb hby d0_18) rfl ((if0 _ _).trans (teq (h3 : (p0 - p1) = (0 : Int32))).2) ?_
          refine XS.lloadN X0.here hx rfl (hb hby d0_21) rfl ?_
          show Steps _ _ _ (s₁.setTop (mkF m 22 _ [(.long q3)])) _
          refine XS.l2i X0.here hx rfl (hb hby d0_22) rfl ?_
          exact k)
        rw [hO] at go106
        obtain ⟨fs, hr, hrun, hended, hW, hsame⟩ := X0.leave (v := some (.int q3.toInt32)) (fun h => by rw [Bd.returns] at h; cases h)
        refine ⟨_, _, go106 _ ?_, hrun, hended, _, _, rfl, ?_, ⟨_, rfl⟩, hW, hsame.mono (by decide) (by decide)⟩
        · exact retI X0 hx Bd.returns (hb hby d0_23) hr
        · show Q_ex Z p0 p1 p2 q3 p4 h0 n0 _ s₁.heap _
          rw [e0]
          exact ⟨by unfold own_exp; rw [if_neg h1, if_pos h2, if_pos h3], N0, rfl⟩
      · have go108 : ∀ t, Steps p.tables e below (s₁.setTop (mkF m 29 #[iv p0, iv p1, iv p2, .val (.long q3), .second, iv p4, iv (p0 - p1)] [(.int ((q3.toUInt64 >>> ((32 : Int32) &&& 0x3f).toInt64.toUInt64).toInt64).toInt32)])) t → Steps p.tables e below O t := fun t k => go105 t (by
          refine XS.ifYes X0.here hx rfl (pc0 := 18) (pc' := 24) rfl (hb hby d0_18) rfl ((if0 _ _).trans (feq (h3 : ¬ ((p0 - p1) = (0 : Int32)))).2) (by decide) (by decide) ?_
          refine XS.lloadN X0.here hx rfl (hb hby d0_24) rfl ?_
          show Steps _ _ _ (s₁.setTop (mkF m 25 _ [(.long q3)])) _
          refine XS.bipush X0.here hx rfl (hb hby d0_25) ?_
          refine XS.lushr X0.here hx rfl (hb hby d0_27) rfl ?_
          show Steps _ _ _ (s₁.setTop (mkF m 28 _ [(.long ((q3.toUInt64 >>> ((32 : Int32) &&& 0x3f).toInt64.toUInt64).toInt64))])) _
          refine XS.l2i X0.here hx rfl (hb hby d0_28) rfl ?_
          exact k)
        rw [hO] at go108
        obtain ⟨fs, hr, hrun, hended, hW, hsame⟩ := X0.leave (v := some (.int ((q3.toUInt64 >>> ((32 : Int32) &&& 0x3f).toInt64.toUInt64).toInt64).toInt32)) (fun h => by rw [Bd.returns] at h; cases h)
        refine ⟨_, _, go108 _ ?_, hrun, hended, _, _, rfl, ?_, ⟨_, rfl⟩, hW, hsame.mono (by decide) (by decide)⟩
        · exact retI X0 hx Bd.returns (hb hby d0_29) hr
        · show Q_ex Z p0 p1 p2 q3 p4 h0 n0 _ s₁.heap _
          rw [e0]
          exact ⟨by unfold own_exp; rw [if_neg h1, if_pos h2, if_neg h3]; rfl, N0, rfl⟩
    · have go110 : ∀ t, Steps p.tables e below (s₁.setTop (mkF m 32 #[iv p0, iv p1, iv p2, .val (.long q3), .second, iv p4, iv (p0 - p1)] [(.int p4)])) t → Steps p.tables e below O t := fun t k => go104 t (by
        refine XS.icmpYes X0.here hx rfl (pc0 := 13) (pc' := 30) rfl (hb hby d0_13) rfl (flt (h2 : ¬ ((p0 - p1) < p2))).2.1 (by decide) (by decide) ?_
        refine XS.iload X0.here hx rfl (hb hby d0_30) rfl ?_
        show Steps _ _ _ (s₁.setTop (mkF m 32 _ [(.int p4)])) _
        exact k)
      rw [hO] at go110
      obtain ⟨fs, hr, hrun, hended, hW, hsame⟩ := X0.leave (v := some (.int p4)) (fun h => by rw [Bd.returns] at h; cases h)
      refine ⟨_, _, go110 _ ?_, hrun, hended, _, _, rfl, ?_, ⟨_, rfl⟩, hW, hsame.mono (by decide) (by decide)⟩
      · exact retI X0 hx Bd.returns (hb hby d0_32) hr
      · show Q_ex Z p0 p1 p2 q3 p4 h0 n0 _ s₁.heap _
        rw [e0]
        exact ⟨by unfold own_exp; rw [if_neg h1, if_neg h2], N0, rfl⟩
theorem own_ar_00 (xa xb ya yb : Int32) (u0 : Int32) (u1 : Int32) : own_post (0 : Int32) (0 : Int32) xa xb ya yb (0 : Int64).toInt32 u0 u1 := by
  have z0 : (0 : Int32).toInt = 0 := rfl
  have z0L : (0 : Int64).toInt = 0 := rfl
  have k_xb : own_pick (0 : Int32) 2 xb = (0 : Int32) := by unfold own_pick; exact if_pos (by decide)
  have k_xa : own_pick (0 : Int32) 1 xa = (0 : Int32) := by unfold own_pick; exact if_pos (by decide)
  have k_yb : own_pick (0 : Int32) 2 yb = (0 : Int32) := by unfold own_pick; exact if_pos (by decide)
  have k_ya : own_pick (0 : Int32) 1 ya = (0 : Int32) := by unfold own_pick; exact if_pos (by decide)
  have sL : own_sumL (0 : Int32) (0 : Int32) xa xb ya yb = (own_big (0 : Int32) (0 : Int32)) + (own_big (0 : Int32) (0 : Int32)) := by unfold own_sumL; rw [k_xb, k_xa, k_yb, k_ya]
  have cL : own_carry (0 : Int32) (0 : Int32) xa xb ya yb = (own_hi ((own_big (0 : Int32) (0 : Int32)) + (own_big (0 : Int32) (0 : Int32)))).toInt32 := by unfold own_carry; rw [if_neg (by decide)]; rw [sL]
  unfold own_post
  rw [cL, sL]
  clear cL sL k_xb k_xa k_yb k_ya
  have z32 : (0 : Int32).toInt % 4294967296 = 0 := by decide
  have m_xa := own_m_eq xa
  have p_xa : 0 ≤ xa.toInt % 4294967296 ∧ xa.toInt % 4294967296 < 4294967296 := by omega
  have m_xb := own_m_eq xb
  have p_xb : 0 ≤ xb.toInt % 4294967296 ∧ xb.toInt % 4294967296 < 4294967296 := by omega
  have m_ya := own_m_eq ya
  have p_ya : 0 ≤ ya.toInt % 4294967296 ∧ ya.toInt % 4294967296 < 4294967296 := by omega
  have m_yb := own_m_eq yb
  have p_yb : 0 ≤ yb.toInt % 4294967296 ∧ yb.toInt % 4294967296 < 4294967296 := by omega
  have e1 := own_bigU (0 : Int32) (0 : Int32)
  have e2 := own_bigU (0 : Int32) (0 : Int32)
  simp only [z32] at e1 e2
  have e3 := own_sumU (own_big (0 : Int32) (0 : Int32)) (own_big (0 : Int32) (0 : Int32))
  rw [e1] at e3
  have e4 := own_hi_eq ((own_big (0 : Int32) (0 : Int32)) + (own_big (0 : Int32) (0 : Int32)))
  rw [e3] at e4
  clear e1 e2
  generalize xa.toInt % 4294967296 = XA at *
  generalize xb.toInt % 4294967296 = XB at *
  generalize ya.toInt % 4294967296 = YA at *
  generalize yb.toInt % 4294967296 = YB at *
  refine ⟨?_, fun hn => ?_, fun hn => ?_⟩
  · apply own_i32
    rw [own_l2i, own_l2i]
    rw [z0L, e4]
    clear m_xa
    omega
  · exact absurd (by decide) hn
  · exact absurd (by decide) hn
theorem own_ar_10 (xa xb ya yb : Int32) (u1 : Int32) : own_post (1 : Int32) (0 : Int32) xa xb ya yb (own_hi ((0 : Int64) + (xa.toInt64 &&& (4294967295 : Int64)))).toInt32 ((0 : Int64) + (xa.toInt64 &&& (4294967295 : Int64))).toInt32 u1 := by
  have z0 : (0 : Int32).toInt = 0 := rfl
  have z0L : (0 : Int64).toInt = 0 := rfl
  have k_xb : own_pick (1 : Int32) 2 xb = (0 : Int32) := by unfold own_pick; exact if_pos (by decide)
  have k_xa : own_pick (1 : Int32) 1 xa = xa := by unfold own_pick; exact if_neg (by decide)
  have k_yb : own_pick (0 : Int32) 2 yb = (0 : Int32) := by unfold own_pick; exact if_pos (by decide)
  have k_ya : own_pick (0 : Int32) 1 ya = (0 : Int32) := by unfold own_pick; exact if_pos (by decide)
  have sL : own_sumL (1 : Int32) (0 : Int32) xa xb ya yb = (own_big (0 : Int32) xa) + (own_big (0 : Int32) (0 : Int32)) := by unfold own_sumL; rw [k_xb, k_xa, k_yb, k_ya]
  have cL : own_carry (1 : Int32) (0 : Int32) xa xb ya yb = (own_hi ((own_big (0 : Int32) xa) + (own_big (0 : Int32) (0 : Int32)))).toInt32 := by unfold own_carry; rw [if_neg (by decide)]; rw [sL]
  unfold own_post
  rw [cL, sL]
  clear cL sL k_xb k_xa k_yb k_ya
  have z32 : (0 : Int32).toInt % 4294967296 = 0 := by decide
  have m_xa := own_m_eq xa
  have p_xa : 0 ≤ xa.toInt % 4294967296 ∧ xa.toInt % 4294967296 < 4294967296 := by omega
  have m_xb := own_m_eq xb
  have p_xb : 0 ≤ xb.toInt % 4294967296 ∧ xb.toInt % 4294967296 < 4294967296 := by omega
  have m_ya := own_m_eq ya
  have p_ya : 0 ≤ ya.toInt % 4294967296 ∧ ya.toInt % 4294967296 < 4294967296 := by omega
  have m_yb := own_m_eq yb
  have p_yb : 0 ≤ yb.toInt % 4294967296 ∧ yb.toInt % 4294967296 < 4294967296 := by omega
  have e1 := own_bigU (0 : Int32) xa
  have e2 := own_bigU (0 : Int32) (0 : Int32)
  simp only [z32] at e1 e2
  have e3 := own_sumU (own_big (0 : Int32) xa) (own_big (0 : Int32) (0 : Int32))
  rw [e1, e2] at e3
  have e4 := own_hi_eq ((own_big (0 : Int32) xa) + (own_big (0 : Int32) (0 : Int32)))
  rw [e3] at e4
  clear e1 e2
  generalize xa.toInt % 4294967296 = XA at *
  generalize xb.toInt % 4294967296 = XB at *
  generalize ya.toInt % 4294967296 = YA at *
  generalize yb.toInt % 4294967296 = YB at *
  have b0 : ((0 : Int64) + (xa.toInt64 &&& (4294967295 : Int64))).toInt = (0 + XA) := by rw [own_addS _ _ (by omega) (by omega)]; omega
  have h0 : (own_hi ((0 : Int64) + (xa.toInt64 &&& (4294967295 : Int64)))).toInt = (0 + XA) / 4294967296 := by rw [own_hiS _ (by omega), b0]
  refine ⟨?_, fun hn => ?_, fun hn => ?_⟩
  · apply own_i32
    rw [own_l2i, own_l2i]
    rw [h0, e4]
    clear m_xa
    omega
  · apply own_i32
    rw [own_l2i, own_l2i]
    rw [b0]
    have e5 : ((own_big (0 : Int32) xa) + (own_big (0 : Int32) (0 : Int32))).toInt % 4294967296 = (((own_big (0 : Int32) xa) + (own_big (0 : Int32) (0 : Int32))).toInt % 18446744073709551616) % 4294967296 := by omega
    rw [e5, e3]
    omega
  · exact absurd (by decide) hn
theorem own_ar_11 (xa xb ya yb : Int32) (u1 : Int32) : own_post (1 : Int32) (1 : Int32) xa xb ya yb (own_hi ((0 : Int64) + ((xa.toInt64 &&& (4294967295 : Int64)) + (ya.toInt64 &&& (4294967295 : Int64))))).toInt32 ((0 : Int64) + ((xa.toInt64 &&& (4294967295 : Int64)) + (ya.toInt64 &&& (4294967295 : Int64)))).toInt32 u1 := by
  have z0 : (0 : Int32).toInt = 0 := rfl
  have z0L : (0 : Int64).toInt = 0 := rfl
  have k_xb : own_pick (1 : Int32) 2 xb = (0 : Int32) := by unfold own_pick; exact if_pos (by decide)
  have k_xa : own_pick (1 : Int32) 1 xa = xa := by unfold own_pick; exact if_neg (by decide)
  have k_yb : own_pick (1 : Int32) 2 yb = (0 : Int32) := by unfold own_pick; exact if_pos (by decide)
  have k_ya : own_pick (1 : Int32) 1 ya = ya := by unfold own_pick; exact if_neg (by decide)
  have sL : own_sumL (1 : Int32) (1 : Int32) xa xb ya yb = (own_big (0 : Int32) xa) + (own_big (0 : Int32) ya) := by unfold own_sumL; rw [k_xb, k_xa, k_yb, k_ya]
  have cL : own_carry (1 : Int32) (1 : Int32) xa xb ya yb = (own_hi ((own_big (0 : Int32) xa) + (own_big (0 : Int32) ya))).toInt32 := by unfold own_carry; rw [if_neg (by decide)]; rw [sL]
  unfold own_post
  rw [cL, sL]
  clear cL sL k_xb k_xa k_yb k_ya
  have z32 : (0 : Int32).toInt % 4294967296 = 0 := by decide
  have m_xa := own_m_eq xa
  have p_xa : 0 ≤ xa.toInt % 4294967296 ∧ xa.toInt % 4294967296 < 4294967296 := by omega
  have m_xb := own_m_eq xb
  have p_xb : 0 ≤ xb.toInt % 4294967296 ∧ xb.toInt % 4294967296 < 4294967296 := by omega
  have m_ya := own_m_eq ya
  have p_ya : 0 ≤ ya.toInt % 4294967296 ∧ ya.toInt % 4294967296 < 4294967296 := by omega
  have m_yb := own_m_eq yb
  have p_yb : 0 ≤ yb.toInt % 4294967296 ∧ yb.toInt % 4294967296 < 4294967296 := by omega
  have e1 := own_bigU (0 : Int32) xa
  have e2 := own_bigU (0 : Int32) ya
  simp only [z32] at e1 e2
  have e3 := own_sumU (own_big (0 : Int32) xa) (own_big (0 : Int32) ya)
  rw [e1, e2] at e3
  have e4 := own_hi_eq ((own_big (0 : Int32) xa) + (own_big (0 : Int32) ya))
  rw [e3] at e4
  clear e1 e2
  generalize xa.toInt % 4294967296 = XA at *
  generalize xb.toInt % 4294967296 = XB at *
  generalize ya.toInt % 4294967296 = YA at *
  generalize yb.toInt % 4294967296 = YB at *
  have a0 : ((xa.toInt64 &&& (4294967295 : Int64)) + (ya.toInt64 &&& (4294967295 : Int64))).toInt = XA + YA := by rw [own_addS _ _ (by omega) (by omega)]; omega
  have b0 : ((0 : Int64) + ((xa.toInt64 &&& (4294967295 : Int64)) + (ya.toInt64 &&& (4294967295 : Int64)))).toInt = (0 + (XA + YA)) := by rw [own_addS _ _ (by omega) (by omega)]; omega
  have h0 : (own_hi ((0 : Int64) + ((xa.toInt64 &&& (4294967295 : Int64)) + (ya.toInt64 &&& (4294967295 : Int64))))).toInt = (0 + (XA + YA)) / 4294967296 := by rw [own_hiS _ (by omega), b0]
  refine ⟨?_, fun hn => ?_, fun hn => ?_⟩
  · apply own_i32
    rw [own_l2i, own_l2i]
    rw [h0, e4]
    clear m_xa
    omega
  · apply own_i32
    rw [own_l2i, own_l2i]
    rw [b0]
    have e5 : ((own_big (0 : Int32) xa) + (own_big (0 : Int32) ya)).toInt % 4294967296 = (((own_big (0 : Int32) xa) + (own_big (0 : Int32) ya)).toInt % 18446744073709551616) % 4294967296 := by omega
    rw [e5, e3]
    omega
  · exact absurd (by decide) hn
theorem own_ar_20 (xa xb ya yb : Int32) : own_post (2 : Int32) (0 : Int32) xa xb ya yb (own_hi ((own_hi ((0 : Int64) + (xa.toInt64 &&& (4294967295 : Int64)))) + (xb.toInt64 &&& (4294967295 : Int64)))).toInt32 ((0 : Int64) + (xa.toInt64 &&& (4294967295 : Int64))).toInt32 ((own_hi ((0 : Int64) + (xa.toInt64 &&& (4294967295 : Int64)))) + (xb.toInt64 &&& (4294967295 : Int64))).toInt32 := by
  have z0 : (0 : Int32).toInt = 0 := rfl
  have z0L : (0 : Int64).toInt = 0 := rfl
  have k_xb : own_pick (2 : Int32) 2 xb = xb := by unfold own_pick; exact if_neg (by decide)
  have k_xa : own_pick (2 : Int32) 1 xa = xa := by unfold own_pick; exact if_neg (by decide)
  have k_yb : own_pick (0 : Int32) 2 yb = (0 : Int32) := by unfold own_pick; exact if_pos (by decide)
  have k_ya : own_pick (0 : Int32) 1 ya = (0 : Int32) := by unfold own_pick; exact if_pos (by decide)
  have sL : own_sumL (2 : Int32) (0 : Int32) xa xb ya yb = (own_big xb xa) + (own_big (0 : Int32) (0 : Int32)) := by unfold own_sumL; rw [k_xb, k_xa, k_yb, k_ya]
  have cL : own_carry (2 : Int32) (0 : Int32) xa xb ya yb = (own_c64 (own_big xb xa) (own_big (0 : Int32) (0 : Int32)) ((own_big xb xa) + (own_big (0 : Int32) (0 : Int32)))).toInt32 := by unfold own_carry; rw [if_pos rfl]; rw [sL, k_xb, k_xa, k_yb, k_ya]
  unfold own_post
  rw [cL, sL]
  clear cL sL k_xb k_xa k_yb k_ya
  have z32 : (0 : Int32).toInt % 4294967296 = 0 := by decide
  have m_xa := own_m_eq xa
  have p_xa : 0 ≤ xa.toInt % 4294967296 ∧ xa.toInt % 4294967296 < 4294967296 := by omega
  have m_xb := own_m_eq xb
  have p_xb : 0 ≤ xb.toInt % 4294967296 ∧ xb.toInt % 4294967296 < 4294967296 := by omega
  have m_ya := own_m_eq ya
  have p_ya : 0 ≤ ya.toInt % 4294967296 ∧ ya.toInt % 4294967296 < 4294967296 := by omega
  have m_yb := own_m_eq yb
  have p_yb : 0 ≤ yb.toInt % 4294967296 ∧ yb.toInt % 4294967296 < 4294967296 := by omega
  have e1 := own_bigU xb xa
  have e2 := own_bigU (0 : Int32) (0 : Int32)
  simp only [z32] at e1 e2
  have e3 := own_sumU (own_big xb xa) (own_big (0 : Int32) (0 : Int32))
  rw [e1, e2] at e3
  have e7 := own_c64_eq (own_big xb xa) (own_big (0 : Int32) (0 : Int32)) ((own_big xb xa) + (own_big (0 : Int32) (0 : Int32))) (c_ladd _ _)
  rw [e1, e2] at e7
  have e4 := own_hi_eq ((own_big xb xa) + (own_big (0 : Int32) (0 : Int32)))
  rw [e3] at e4
  clear e1 e2
  generalize xa.toInt % 4294967296 = XA at *
  generalize xb.toInt % 4294967296 = XB at *
  generalize ya.toInt % 4294967296 = YA at *
  generalize yb.toInt % 4294967296 = YB at *
  have b0 : ((0 : Int64) + (xa.toInt64 &&& (4294967295 : Int64))).toInt = (0 + XA) := by rw [own_addS _ _ (by omega) (by omega)]; omega
  have h0 : (own_hi ((0 : Int64) + (xa.toInt64 &&& (4294967295 : Int64)))).toInt = (0 + XA) / 4294967296 := by rw [own_hiS _ (by omega), b0]
  have b1 : ((own_hi ((0 : Int64) + (xa.toInt64 &&& (4294967295 : Int64)))) + (xb.toInt64 &&& (4294967295 : Int64))).toInt = (((0 + XA) / 4294967296) + XB) := by rw [own_addS _ _ (by omega) (by omega)]; omega
  have h1 : (own_hi ((own_hi ((0 : Int64) + (xa.toInt64 &&& (4294967295 : Int64)))) + (xb.toInt64 &&& (4294967295 : Int64)))).toInt = (((0 + XA) / 4294967296) + XB) / 4294967296 := by rw [own_hiS _ (by omega), b1]
  refine ⟨?_, fun hn => ?_, fun hn => ?_⟩
  · apply own_i32
    rw [own_l2i, own_l2i]
    rw [h1, e7]
    clear m_xa
    omega
  · apply own_i32
    rw [own_l2i, own_l2i]
    rw [b0]
    have e5 : ((own_big xb xa) + (own_big (0 : Int32) (0 : Int32))).toInt % 4294967296 = (((own_big xb xa) + (own_big (0 : Int32) (0 : Int32))).toInt % 18446744073709551616) % 4294967296 := by omega
    rw [e5, e3]
    omega
  · apply own_i32
    rw [own_l2i, own_l2i]
    rw [b1, e4]
    omega
theorem own_ar_21 (xa xb ya yb : Int32) : own_post (2 : Int32) (1 : Int32) xa xb ya yb (own_hi ((own_hi ((0 : Int64) + ((xa.toInt64 &&& (4294967295 : Int64)) + (ya.toInt64 &&& (4294967295 : Int64))))) + (xb.toInt64 &&& (4294967295 : Int64)))).toInt32 ((0 : Int64) + ((xa.toInt64 &&& (4294967295 : Int64)) + (ya.toInt64 &&& (4294967295 : Int64)))).toInt32 ((own_hi ((0 : Int64) + ((xa.toInt64 &&& (4294967295 : Int64)) + (ya.toInt64 &&& (4294967295 : Int64))))) + (xb.toInt64 &&& (4294967295 : Int64))).toInt32 := by
  have z0 : (0 : Int32).toInt = 0 := rfl
  have z0L : (0 : Int64).toInt = 0 := rfl
  have k_xb : own_pick (2 : Int32) 2 xb = xb := by unfold own_pick; exact if_neg (by decide)
  have k_xa : own_pick (2 : Int32) 1 xa = xa := by unfold own_pick; exact if_neg (by decide)
  have k_yb : own_pick (1 : Int32) 2 yb = (0 : Int32) := by unfold own_pick; exact if_pos (by decide)
  have k_ya : own_pick (1 : Int32) 1 ya = ya := by unfold own_pick; exact if_neg (by decide)
  have sL : own_sumL (2 : Int32) (1 : Int32) xa xb ya yb = (own_big xb xa) + (own_big (0 : Int32) ya) := by unfold own_sumL; rw [k_xb, k_xa, k_yb, k_ya]
  have cL : own_carry (2 : Int32) (1 : Int32) xa xb ya yb = (own_c64 (own_big xb xa) (own_big (0 : Int32) ya) ((own_big xb xa) + (own_big (0 : Int32) ya))).toInt32 := by unfold own_carry; rw [if_pos rfl]; rw [sL, k_xb, k_xa, k_yb, k_ya]
  unfold own_post
  rw [cL, sL]
  clear cL sL k_xb k_xa k_yb k_ya
  have z32 : (0 : Int32).toInt % 4294967296 = 0 := by decide
  have m_xa := own_m_eq xa
  have p_xa : 0 ≤ xa.toInt % 4294967296 ∧ xa.toInt % 4294967296 < 4294967296 := by omega
  have m_xb := own_m_eq xb
  have p_xb : 0 ≤ xb.toInt % 4294967296 ∧ xb.toInt % 4294967296 < 4294967296 := by omega
  have m_ya := own_m_eq ya
  have p_ya : 0 ≤ ya.toInt % 4294967296 ∧ ya.toInt % 4294967296 < 4294967296 := by omega
  have m_yb := own_m_eq yb
  have p_yb : 0 ≤ yb.toInt % 4294967296 ∧ yb.toInt % 4294967296 < 4294967296 := by omega
  have e1 := own_bigU xb xa
  have e2 := own_bigU (0 : Int32) ya
  simp only [z32] at e1 e2
  have e3 := own_sumU (own_big xb xa) (own_big (0 : Int32) ya)
  rw [e1, e2] at e3
  have e7 := own_c64_eq (own_big xb xa) (own_big (0 : Int32) ya) ((own_big xb xa) + (own_big (0 : Int32) ya)) (c_ladd _ _)
  rw [e1, e2] at e7
  have e4 := own_hi_eq ((own_big xb xa) + (own_big (0 : Int32) ya))
  rw [e3] at e4
  clear e1 e2
  generalize xa.toInt % 4294967296 = XA at *
  generalize xb.toInt % 4294967296 = XB at *
  generalize ya.toInt % 4294967296 = YA at *
  generalize yb.toInt % 4294967296 = YB at *
  have a0 : ((xa.toInt64 &&& (4294967295 : Int64)) + (ya.toInt64 &&& (4294967295 : Int64))).toInt = XA + YA := by rw [own_addS _ _ (by omega) (by omega)]; omega
  have b0 : ((0 : Int64) + ((xa.toInt64 &&& (4294967295 : Int64)) + (ya.toInt64 &&& (4294967295 : Int64)))).toInt = (0 + (XA + YA)) := by rw [own_addS _ _ (by omega) (by omega)]; omega
  have h0 : (own_hi ((0 : Int64) + ((xa.toInt64 &&& (4294967295 : Int64)) + (ya.toInt64 &&& (4294967295 : Int64))))).toInt = (0 + (XA + YA)) / 4294967296 := by rw [own_hiS _ (by omega), b0]
  have b1 : ((own_hi ((0 : Int64) + ((xa.toInt64 &&& (4294967295 : Int64)) + (ya.toInt64 &&& (4294967295 : Int64))))) + (xb.toInt64 &&& (4294967295 : Int64))).toInt = (((0 + (XA + YA)) / 4294967296) + XB) := by rw [own_addS _ _ (by omega) (by omega)]; omega
  have h1 : (own_hi ((own_hi ((0 : Int64) + ((xa.toInt64 &&& (4294967295 : Int64)) + (ya.toInt64 &&& (4294967295 : Int64))))) + (xb.toInt64 &&& (4294967295 : Int64)))).toInt = (((0 + (XA + YA)) / 4294967296) + XB) / 4294967296 := by rw [own_hiS _ (by omega), b1]
  refine ⟨?_, fun hn => ?_, fun hn => ?_⟩
  · apply own_i32
    rw [own_l2i, own_l2i]
    rw [h1, e7]
    clear m_xa
    omega
  · apply own_i32
    rw [own_l2i, own_l2i]
    rw [b0]
    have e5 : ((own_big xb xa) + (own_big (0 : Int32) ya)).toInt % 4294967296 = (((own_big xb xa) + (own_big (0 : Int32) ya)).toInt % 18446744073709551616) % 4294967296 := by omega
    rw [e5, e3]
    omega
  · apply own_i32
    rw [own_l2i, own_l2i]
    rw [b1, e4]
    omega
theorem own_ar_22 (xa xb ya yb : Int32) : own_post (2 : Int32) (2 : Int32) xa xb ya yb (own_hi ((own_hi ((0 : Int64) + ((xa.toInt64 &&& (4294967295 : Int64)) + (ya.toInt64 &&& (4294967295 : Int64))))) + ((xb.toInt64 &&& (4294967295 : Int64)) + (yb.toInt64 &&& (4294967295 : Int64))))).toInt32 ((0 : Int64) + ((xa.toInt64 &&& (4294967295 : Int64)) + (ya.toInt64 &&& (4294967295 : Int64)))).toInt32 ((own_hi ((0 : Int64) + ((xa.toInt64 &&& (4294967295 : Int64)) + (ya.toInt64 &&& (4294967295 : Int64))))) + ((xb.toInt64 &&& (4294967295 : Int64)) + (yb.toInt64 &&& (4294967295 : Int64)))).toInt32 := by
  have z0 : (0 : Int32).toInt = 0 := rfl
  have z0L : (0 : Int64).toInt = 0 := rfl
  have k_xb : own_pick (2 : Int32) 2 xb = xb := by unfold own_pick; exact if_neg (by decide)
  have k_xa : own_pick (2 : Int32) 1 xa = xa := by unfold own_pick; exact if_neg (by decide)
  have k_yb : own_pick (2 : Int32) 2 yb = yb := by unfold own_pick; exact if_neg (by decide)
  have k_ya : own_pick (2 : Int32) 1 ya = ya := by unfold own_pick; exact if_neg (by decide)
  have sL : own_sumL (2 : Int32) (2 : Int32) xa xb ya yb = (own_big xb xa) + (own_big yb ya) := by unfold own_sumL; rw [k_xb, k_xa, k_yb, k_ya]
  have cL : own_carry (2 : Int32) (2 : Int32) xa xb ya yb = (own_c64 (own_big xb xa) (own_big yb ya) ((own_big xb xa) + (own_big yb ya))).toInt32 := by unfold own_carry; rw [if_pos rfl]; rw [sL, k_xb, k_xa, k_yb, k_ya]
  unfold own_post
  rw [cL, sL]
  clear cL sL k_xb k_xa k_yb k_ya
  have z32 : (0 : Int32).toInt % 4294967296 = 0 := by decide
  have m_xa := own_m_eq xa
  have p_xa : 0 ≤ xa.toInt % 4294967296 ∧ xa.toInt % 4294967296 < 4294967296 := by omega
  have m_xb := own_m_eq xb
  have p_xb : 0 ≤ xb.toInt % 4294967296 ∧ xb.toInt % 4294967296 < 4294967296 := by omega
  have m_ya := own_m_eq ya
  have p_ya : 0 ≤ ya.toInt % 4294967296 ∧ ya.toInt % 4294967296 < 4294967296 := by omega
  have m_yb := own_m_eq yb
  have p_yb : 0 ≤ yb.toInt % 4294967296 ∧ yb.toInt % 4294967296 < 4294967296 := by omega
  have e1 := own_bigU xb xa
  have e2 := own_bigU yb ya
  have e3 := own_sumU (own_big xb xa) (own_big yb ya)
  rw [e1, e2] at e3
  have e7 := own_c64_eq (own_big xb xa) (own_big yb ya) ((own_big xb xa) + (own_big yb ya)) (c_ladd _ _)
  rw [e1, e2] at e7
  have e4 := own_hi_eq ((own_big xb xa) + (own_big yb ya))
  rw [e3] at e4
  clear e1 e2
  generalize xa.toInt % 4294967296 = XA at *
  generalize xb.toInt % 4294967296 = XB at *
  generalize ya.toInt % 4294967296 = YA at *
  generalize yb.toInt % 4294967296 = YB at *
  have a0 : ((xa.toInt64 &&& (4294967295 : Int64)) + (ya.toInt64 &&& (4294967295 : Int64))).toInt = XA + YA := by rw [own_addS _ _ (by omega) (by omega)]; omega
  have b0 : ((0 : Int64) + ((xa.toInt64 &&& (4294967295 : Int64)) + (ya.toInt64 &&& (4294967295 : Int64)))).toInt = (0 + (XA + YA)) := by rw [own_addS _ _ (by omega) (by omega)]; omega
  have h0 : (own_hi ((0 : Int64) + ((xa.toInt64 &&& (4294967295 : Int64)) + (ya.toInt64 &&& (4294967295 : Int64))))).toInt = (0 + (XA + YA)) / 4294967296 := by rw [own_hiS _ (by omega), b0]
  have a1 : ((xb.toInt64 &&& (4294967295 : Int64)) + (yb.toInt64 &&& (4294967295 : Int64))).toInt = XB + YB := by rw [own_addS _ _ (by omega) (by omega)]; omega
  have b1 : ((own_hi ((0 : Int64) + ((xa.toInt64 &&& (4294967295 : Int64)) + (ya.toInt64 &&& (4294967295 : Int64))))) + ((xb.toInt64 &&& (4294967295 : Int64)) + (yb.toInt64 &&& (4294967295 : Int64)))).toInt = (((0 + (XA + YA)) / 4294967296) + (XB + YB)) := by rw [own_addS _ _ (by omega) (by omega)]; omega
  have h1 : (own_hi ((own_hi ((0 : Int64) + ((xa.toInt64 &&& (4294967295 : Int64)) + (ya.toInt64 &&& (4294967295 : Int64))))) + ((xb.toInt64 &&& (4294967295 : Int64)) + (yb.toInt64 &&& (4294967295 : Int64))))).toInt = (((0 + (XA + YA)) / 4294967296) + (XB + YB)) / 4294967296 := by rw [own_hiS _ (by omega), b1]
  refine ⟨?_, fun hn => ?_, fun hn => ?_⟩
  · apply own_i32
    rw [own_l2i, own_l2i]
    rw [h1, e7]
    clear m_xa
    omega
  · apply own_i32
    rw [own_l2i, own_l2i]
    rw [b0]
    have e5 : ((own_big xb xa) + (own_big yb ya)).toInt % 4294967296 = (((own_big xb xa) + (own_big yb ya)).toInt % 18446744073709551616) % 4294967296 := by omega
    rw [e5, e3]
    omega
  · apply own_i32
    rw [own_l2i, own_l2i]
    rw [b1, e4]
    omega
theorem own_in0 {p : Int32} (h : p = (0 : Int32) ∨ p = (1 : Int32)) : ¬ (p + (0 : Int32)) < 0 ∧ (p + (0 : Int32)) < (4 : Int32) := by rcases h with rfl | rfl <;> decide
theorem own_in1 {p : Int32} (h : p = (0 : Int32) ∨ p = (1 : Int32)) : ¬ (p + (1 : Int32)) < 0 ∧ (p + (1 : Int32)) < (4 : Int32) := by rcases h with rfl | rfl <;> decide
theorem own_ln0 {p : Int32} {zs : List Value} (h : p = (0 : Int32) ∨ p = (1 : Int32)) (hl : zs.length = 4) : (p + (0 : Int32)).toNatClampNeg < zs.length := by rw [hl]; rcases h with rfl | rfl <;> decide
theorem own_ln1 {p : Int32} {zs : List Value} (h : p = (0 : Int32) ∨ p = (1 : Int32)) (hl : zs.length = 4) : (p + (1 : Int32)).toNatClampNeg < zs.length := by rw [hl]; rcases h with rfl | rfl <;> decide
theorem own_get_set {p : Int32} {zs : List Value} {u d w : Value} (h : p = (0 : Int32) ∨ p = (1 : Int32)) (hb : zs.getD (p + (1 : Int32)).toNatClampNeg d = w) : (zs.set (p + (0 : Int32)).toNatClampNeg u).getD (p + (1 : Int32)).toNatClampNeg d = w := by
  rw [← hb, List.getD_eq_getElem?_getD, List.getD_eq_getElem?_getD, List.getElem?_set_ne (by rcases h with rfl | rfl <;> decide)]
theorem own_put_0 {Z : State} {h : Heap} {a : Addr} {k : ClassId} {p : Int32} {zs : List Value} {d : Value} {u0 u1 : Int32} (A : Arv Z h a k .int (4 : Int32) zs d) : Arv Z h a k .int (4 : Int32) (own_put (0 : Int32) p zs u0 u1) d := A
theorem own_put_1 {Z : State} {h : Heap} {a : Addr} {k : ClassId} {p : Int32} {zs : List Value} {d : Value} {u0 u1 : Int32} (hp : p = (0 : Int32) ∨ p = (1 : Int32)) (A : Arv Z h a k .int (4 : Int32) (zs.set (p + (0 : Int32)).toNatClampNeg (.int u0)) d) : Arv Z h a k .int (4 : Int32) (own_put (1 : Int32) p zs u0 u1) d := by
  rcases hp with rfl | rfl <;> exact A
theorem own_put_2 {Z : State} {h : Heap} {a : Addr} {k : ClassId} {p : Int32} {zs : List Value} {d : Value} {u0 u1 : Int32} (hp : p = (0 : Int32) ∨ p = (1 : Int32)) (A : Arv Z h a k .int (4 : Int32) ((zs.set (p + (0 : Int32)).toNatClampNeg (.int u0)).set (p + (1 : Int32)).toNatClampNeg (.int u1)) d) : Arv Z h a k .int (4 : Int32) (own_put (2 : Int32) p zs u0 u1) d := by
  rcases hp with rfl | rfl <;> exact A
theorem ef_ai00 (m : MethodId) (x0 : Addr) (x1 : Int32) (x2 : Addr) (x3 : Int32) (x4 : Int32) (x5 : Addr) (x6 : Int32) (x7 : Int32) : entryFrame m #[(.ref x2), (.int x3), (.ref x2), (.int x3), (.int x7), (.ref x5), (.int x6), (.int x7)] 11 = mkF m 0 #[rv x2, iv x3, rv x2, iv x3, iv x7, rv x5, iv x6, iv x7, .unset, .unset, .unset] [] := by first | (simp [entryFrame, mkF, argsToLocals, Value.category]; done) | rfl
theorem pn_1 : plainName "com/example/limbwise/kernel/Words" = true := by first | (simp [plainName, overriddenIn]; done) | decide +kernel
def Q_ai00 (Z : State) (o0 : Addr) (p1 : Int32) (o5 : Addr) (p6 : Int32) (kz_ : ClassId) (zs_ : List Value) (ky_ : ClassId) (ys_ : List Value) (xa : Int32) (xb : Int32) (ya : Int32) (yb : Int32) (h0 : Heap) (n0 : Nat) (v : Option Value) (h : Heap) (L : List Loc) : Prop := ∃ r u0 u1 : Int32, v = some (.int r) ∧ Fr n0 L ∧ own_post (0 : Int32) (0 : Int32) xa xb ya yb r u0 u1 ∧ Keep h0 h [o0] ∧ Arv Z h o0 kz_ .int (4 : Int32) (own_put (0 : Int32) p1 zs_ u0 u1) (.int (0 : Int32))
theorem d1_0 : decode prog_24_method_2_code 0 = .ok (.lconst 0, 1) := by decide +kernel
theorem d1_1 : decode prog_24_method_2_code 1 = .ok (.lstore 8, 2) := by decide +kernel
theorem d1_3 : decode prog_24_method_2_code 3 = .ok (.iconst 0, 1) := by decide +kernel
theorem d1_4 : decode prog_24_method_2_code 4 = .ok (.istore 10, 2) := by decide +kernel
theorem d1_6 : decode prog_24_method_2_code 6 = .ok (.iload 10, 2) := by decide +kernel
theorem d1_8 : decode prog_24_method_2_code 8 = .ok (.iload 7, 2) := by decide +kernel
theorem d1_10 : decode prog_24_method_2_code 10 = .ok (.if_icmp .ge 55, 3) := by decide +kernel
theorem d1_65 : decode prog_24_method_2_code 65 = .ok (.iload 7, 2) := by decide +kernel
theorem d1_67 : decode prog_24_method_2_code 67 = .ok (.istore 10, 2) := by decide +kernel
theorem d1_69 : decode prog_24_method_2_code 69 = .ok (.iload 10, 2) := by decide +kernel
theorem d1_71 : decode prog_24_method_2_code 71 = .ok (.iload 4, 2) := by decide +kernel
theorem d1_73 : decode prog_24_method_2_code 73 = .ok (.if_icmp .ge 41, 3) := by decide +kernel
theorem d1_114 : decode prog_24_method_2_code 114 = .ok (.lload 8, 2) := by decide +kernel
theorem d1_116 : decode prog_24_method_2_code 116 = .ok (.l2i, 1) := by decide +kernel
theorem d1_117 : decode prog_24_method_2_code 117 = .ok (.ireturn, 1) := by decide +kernel
set_option maxRecDepth 65536 in
set_option maxHeartbeats 40000000 in
theorem rm_ai00 (l : Launch) (Z : State) (a0 : Array Value) (hw : ∀ d ∈ tables_1, d.before a0 Z = true) (ws : List Jvm.Cond) (o0 : Addr) (p1 : Int32) (o5 : Addr) (p6 : Int32) (kz_ : ClassId) (zs_ : List Value) (ky_ : ClassId) (ys_ : List Value) (xa : Int32) (xb : Int32) (ya : Int32) (yb : Int32) (h0 : Heap) (n0 : Nat) (Z0 : n0 ≤ h0.size) (ge_o0 : n0 ≤ o0) (V_o0 : Arv Z h0 o0 kz_ .int (4 : Int32) zs_ (.int (0 : Int32))) (V_o5 : Arv Z h0 o5 ky_ .int (4 : Int32) ys_ (.int (0 : Int32))) (ne_y : o5 ≠ o0) (hl : zs_.length = 4) (hzO : p1 = (0 : Int32) ∨ p1 = (1 : Int32)) (hyO : p6 = (0 : Int32) ∨ p6 = (1 : Int32)) (hxa : zs_.getD (p1 + (0 : Int32)).toNatClampNeg (.int (0 : Int32)) = .int xa) (hya : ys_.getD (p6 + (0 : Int32)).toNatClampNeg (.int (0 : Int32)) = .int ya) (hxb : zs_.getD (p1 + (1 : Int32)).toNatClampNeg (.int (0 : Int32)) = .int xb) (hyb : ys_.getD (p6 + (1 : Int32)).toNatClampNeg (.int (0 : Int32)) = .int yb) :
    MetFree l (⟨"com/example/limbwise/kernel/Words", "add", "([II[III[III)I"⟩ : MethodName) (head1 (Jvm.Cond.code (⟨"com/example/limbwise/kernel/Words", "add", "([II[III[III)I"⟩ : MethodName) prog_24_method_2_code 11 (some .int) :: ws) ({ frames := 0, cells := 0, slots := 0, locals := 0 } : Room)) (fun a U => a = #[(.ref o0), (.int p1), (.ref o0), (.int p1), (.int 0), (.ref o5), (.int p6), (.int 0)] ∧ Z.Warmed39 U.vm ∧ U.heap = h0) (fun _ _ _ _ _ => True) (fun _ U o U' => ∃ v L, o = .returned v ∧ Q_ai00 Z o0 p1 o5 p6 kz_ zs_ ky_ ys_ xa xb ya yb h0 n0 v U'.heap L ∧ FrameEnd U o U' L ({ frames := 0, cells := 0, slots := 0, locals := 0 } : Room).cells ({ frames := 0, cells := 0, slots := 0, locals := 0 } : Room).slots) := by
  refine MetFree.of_bodySF (plainFor_of_name pn_1) hisR ?_
  intro p e s m args below meth c s₁ Bd hml0 hP hK
  obtain ⟨rfl, hZ, hh⟩ := hP
  have hx := Bd.exec
  have hby := Bd.bytes
  have hml : c.maxLocals = 11 := hml0
  have hown : s.vm.findClass "com/example/limbwise/kernel/Words" = some m.cls := findClass_of_methodNamed Bd.named
  have hnm := (name_of_methodNamed Bd.named Bd.method).1
  have X0 : Stand p l e ({ frames := 0, cells := 0, slots := 0, locals := 0 } : Room) s m #[(.ref o0), (.int p1), (.ref o0), (.int p1), (.int 0), (.ref o5), (.int p6), (.int 0)] below meth c s₁ [] 0 0 := Stand.of_body Bd
  have e0 : s₁.heap = h0 := by rw [← hh, Bd.state]; rfl
  have N0 := Fr.nil n0
  have go0 : ∀ t, Steps p.tables e below (s₁.setTop (mkF m 0 #[rv o0, iv p1, rv o0, iv p1, iv 0, rv o5, iv p6, iv 0, .unset, .unset, .unset] [])) t → Steps p.tables e below (s₁.setTop (entryFrame m #[(.ref o0), (.int p1), (.ref o0), (.int p1), (.int 0), (.ref o5), (.int p6), (.int 0)] 11)) t := fun t k => castTop (ef_ai00 m o0 p1 o0 p1 (0 : Int32) o5 p6 (0 : Int32)) k
  obtain ⟨O, hO⟩ : ∃ z, z = (s₁.setTop (entryFrame m #[(.ref o0), (.int p1), (.ref o0), (.int p1), (.int 0), (.ref o5), (.int p6), (.int 0)] 11)) := ⟨_, rfl⟩
  rw [← hO] at go0
  have K101 := Keep.refl h0 [o0]
  have go102 : ∀ t, Steps p.tables e below (s₁.setTop (mkF m 117 #[rv o0, iv p1, rv o0, iv p1, iv 0, rv o5, iv p6, iv 0, .val (.long 0), .second, iv 0] [(.int (0 : Int64).toInt32)])) t → Steps p.tables e below O t := fun t k => go0 t (by
    refine XS.lconst X0.here hx rfl (hb hby d1_0) ?_
    refine XS.lstore X0.here hx rfl (hb hby d1_1) rfl (l' := #[rv o0, iv p1, rv o0, iv p1, iv 0, rv o5, iv p6, iv 0, .val (.long 0), .second, .unset]) rfl ?_
    show Steps _ _ _ (s₁.setTop (mkF m 3 _ [])) _
    refine XS.iconst X0.here hx rfl (hb hby d1_3) ?_
    refine XS.istore X0.here hx rfl (hb hby d1_4) rfl (l' := #[rv o0, iv p1, rv o0, iv p1, iv 0, rv o5, iv p6, iv 0, .val (.long 0), .second, iv 0]) rfl ?_
    show Steps _ _ _ (s₁.setTop (mkF m 6 _ [])) _
    refine XS.iload X0.here hx rfl (hb hby d1_6) rfl ?_
    refine XS.iload X0.here hx rfl (hb hby d1_8) rfl ?_
    show Steps _ _ _ (s₁.setTop (mkF m 10 _ [(.int 0), (.int 0)])) _
    refine XS.icmpYes X0.here hx rfl (pc0 := 10) (pc' := 65) rfl (hb hby d1_10) rfl (flt (by decide : ¬ ((0 : Int32) < (0 : Int32)))).2.1 (by decide) (by decide) ?_
    refine XS.iload X0.here hx rfl (hb hby d1_65) rfl ?_
    show Steps _ _ _ (s₁.setTop (mkF m 67 _ [(.int 0)])) _
    refine XS.istore X0.here hx rfl (hb hby d1_67) rfl (l' := #[rv o0, iv p1, rv o0, iv p1, iv 0, rv o5, iv p6, iv 0, .val (.long 0), .second, iv 0]) rfl ?_
    show Steps _ _ _ (s₁.setTop (mkF m 69 _ [])) _
    refine XS.iload X0.here hx rfl (hb hby d1_69) rfl ?_
    refine XS.iload X0.here hx rfl (hb hby d1_71) rfl ?_
    show Steps _ _ _ (s₁.setTop (mkF m 73 _ [(.int 0), (.int 0)])) _
    refine XS.icmpYes X0.here hx rfl (pc0 := 73) (pc' := 114) rfl (hb hby d1_73) rfl (flt (by decide : ¬ ((0 : Int32) < (0 : Int32)))).2.1 (by decide) (by decide) ?_
    refine XS.lload X0.here hx rfl (hb hby d1_114) rfl ?_
    show Steps _ _ _ (s₁.setTop (mkF m 116 _ [(.long 0)])) _
    refine XS.l2i X0.here hx rfl (hb hby d1_116) rfl ?_
    exact k)
  have hp : own_post (0 : Int32) (0 : Int32) xa xb ya yb (0 : Int64).toInt32 (0 : Int32) (0 : Int32) := by
    exact own_ar_00 xa xb ya yb (0 : Int32) (0 : Int32)
  rw [hO] at go102
  obtain ⟨fs, hr, hrun, hended, hW, hsame⟩ := X0.leave (v := some (.int (0 : Int64).toInt32)) (fun h => by rw [Bd.returns] at h; cases h)
  refine ⟨_, _, go102 _ ?_, hrun, hended, _, _, rfl, ?_, ⟨_, rfl⟩, hW, hsame.mono (by decide) (by decide)⟩
  · exact retI X0 hx Bd.returns (hb hby d1_117) hr
  · show Q_ai00 Z o0 p1 o5 p6 kz_ zs_ ky_ ys_ xa xb ya yb h0 n0 _ s₁.heap _
    rw [e0]
    exact ⟨_, _, _, rfl, N0, hp, K101, own_put_0 V_o0⟩
theorem ef_ai10 (m : MethodId) (x0 : Addr) (x1 : Int32) (x2 : Addr) (x3 : Int32) (x4 : Int32) (x5 : Addr) (x6 : Int32) (x7 : Int32) : entryFrame m #[(.ref x2), (.int x3), (.ref x2), (.int x3), (.int x4), (.ref x5), (.int x6), (.int x7)] 11 = mkF m 0 #[rv x2, iv x3, rv x2, iv x3, iv x4, rv x5, iv x6, iv x7, .unset, .unset, .unset] [] := by first | (simp [entryFrame, mkF, argsToLocals, Value.category]; done) | rfl
def Q_ai10 (Z : State) (o0 : Addr) (p1 : Int32) (o5 : Addr) (p6 : Int32) (kz_ : ClassId) (zs_ : List Value) (ky_ : ClassId) (ys_ : List Value) (xa : Int32) (xb : Int32) (ya : Int32) (yb : Int32) (h0 : Heap) (n0 : Nat) (v : Option Value) (h : Heap) (L : List Loc) : Prop := ∃ r u0 u1 : Int32, v = some (.int r) ∧ Fr n0 L ∧ own_post (1 : Int32) (0 : Int32) xa xb ya yb r u0 u1 ∧ Keep h0 h [o0] ∧ Arv Z h o0 kz_ .int (4 : Int32) (own_put (1 : Int32) p1 zs_ u0 u1) (.int (0 : Int32))
theorem d1_76 : decode prog_24_method_2_code 76 = .ok (.lload 8, 2) := by decide +kernel
theorem d1_78 : decode prog_24_method_2_code 78 = .ok (.aload_n 2, 1) := by decide +kernel
theorem d1_79 : decode prog_24_method_2_code 79 = .ok (.iload_n 3, 1) := by decide +kernel
theorem d1_80 : decode prog_24_method_2_code 80 = .ok (.iload 10, 2) := by decide +kernel
theorem d1_82 : decode prog_24_method_2_code 82 = .ok (.iadd, 1) := by decide +kernel
theorem d1_83 : decode prog_24_method_2_code 83 = .ok (.iaload, 1) := by decide +kernel
theorem d1_84 : decode prog_24_method_2_code 84 = .ok (.i2l, 1) := by decide +kernel
theorem d1_85 : decode prog_24_method_2_code 85 = .ok (.ldc2_w 9, 3) := by decide +kernel
theorem d1_88 : decode prog_24_method_2_code 88 = .ok (.land, 1) := by decide +kernel
theorem d1_89 : decode prog_24_method_2_code 89 = .ok (.ladd, 1) := by decide +kernel
theorem d1_90 : decode prog_24_method_2_code 90 = .ok (.lstore 8, 2) := by decide +kernel
theorem d1_92 : decode prog_24_method_2_code 92 = .ok (.aload_n 0, 1) := by decide +kernel
theorem d1_93 : decode prog_24_method_2_code 93 = .ok (.iload_n 1, 1) := by decide +kernel
theorem d1_94 : decode prog_24_method_2_code 94 = .ok (.iload 10, 2) := by decide +kernel
theorem d1_96 : decode prog_24_method_2_code 96 = .ok (.iadd, 1) := by decide +kernel
theorem d1_97 : decode prog_24_method_2_code 97 = .ok (.lload 8, 2) := by decide +kernel
theorem d1_99 : decode prog_24_method_2_code 99 = .ok (.l2i, 1) := by decide +kernel
theorem d1_100 : decode prog_24_method_2_code 100 = .ok (.iastore, 1) := by decide +kernel
theorem d1_101 : decode prog_24_method_2_code 101 = .ok (.lload 8, 2) := by decide +kernel
theorem d1_103 : decode prog_24_method_2_code 103 = .ok (.bipush 32, 2) := by decide +kernel
theorem d1_105 : decode prog_24_method_2_code 105 = .ok (.lushr, 1) := by decide +kernel
theorem d1_106 : decode prog_24_method_2_code 106 = .ok (.lstore 8, 2) := by decide +kernel
theorem d1_108 : decode prog_24_method_2_code 108 = .ok (.iinc 10 1, 3) := by decide +kernel
theorem d1_111 : decode prog_24_method_2_code 111 = .ok (.goto (-42), 3) := by decide +kernel
set_option maxRecDepth 65536 in
set_option maxHeartbeats 40000000 in
theorem rm_ai10 (l : Launch) (Z : State) (a0 : Array Value) (hw : ∀ d ∈ tables_1, d.before a0 Z = true) (ws : List Jvm.Cond) (o0 : Addr) (p1 : Int32) (o5 : Addr) (p6 : Int32) (kz_ : ClassId) (zs_ : List Value) (ky_ : ClassId) (ys_ : List Value) (xa : Int32) (xb : Int32) (ya : Int32) (yb : Int32) (h0 : Heap) (n0 : Nat) (Z0 : n0 ≤ h0.size) (ge_o0 : n0 ≤ o0) (V_o0 : Arv Z h0 o0 kz_ .int (4 : Int32) zs_ (.int (0 : Int32))) (V_o5 : Arv Z h0 o5 ky_ .int (4 : Int32) ys_ (.int (0 : Int32))) (ne_y : o5 ≠ o0) (hl : zs_.length = 4) (hzO : p1 = (0 : Int32) ∨ p1 = (1 : Int32)) (hyO : p6 = (0 : Int32) ∨ p6 = (1 : Int32)) (hxa : zs_.getD (p1 + (0 : Int32)).toNatClampNeg (.int (0 : Int32)) = .int xa) (hya : ys_.getD (p6 + (0 : Int32)).toNatClampNeg (.int (0 : Int32)) = .int ya) (hxb : zs_.getD (p1 + (1 : Int32)).toNatClampNeg (.int (0 : Int32)) = .int xb) (hyb : ys_.getD (p6 + (1 : Int32)).toNatClampNeg (.int (0 : Int32)) = .int yb) :
    MetFree l (⟨"com/example/limbwise/kernel/Words", "add", "([II[III[III)I"⟩ : MethodName) (head1 (Jvm.Cond.code (⟨"com/example/limbwise/kernel/Words", "add", "([II[III[III)I"⟩ : MethodName) prog_24_method_2_code 11 (some .int) :: ws) ({ frames := 0, cells := 0, slots := 0, locals := 0 } : Room)) (fun a U => a = #[(.ref o0), (.int p1), (.ref o0), (.int p1), (.int 1), (.ref o5), (.int p6), (.int 0)] ∧ Z.Warmed39 U.vm ∧ U.heap = h0) (fun _ _ _ _ _ => True) (fun _ U o U' => ∃ v L, o = .returned v ∧ Q_ai10 Z o0 p1 o5 p6 kz_ zs_ ky_ ys_ xa xb ya yb h0 n0 v U'.heap L ∧ FrameEnd U o U' L ({ frames := 0, cells := 0, slots := 0, locals := 0 } : Room).cells ({ frames := 0, cells := 0, slots := 0, locals := 0 } : Room).slots) := by
  refine MetFree.of_bodySF (plainFor_of_name pn_1) hisR ?_
  intro p e s m args below meth c s₁ Bd hml0 hP hK
  obtain ⟨rfl, hZ, hh⟩ := hP
  have hx := Bd.exec
  have hby := Bd.bytes
  have hml : c.maxLocals = 11 := hml0
  have hown : s.vm.findClass "com/example/limbwise/kernel/Words" = some m.cls := findClass_of_methodNamed Bd.named
  have hnm := (name_of_methodNamed Bd.named Bd.method).1
  have X0 : Stand p l e ({ frames := 0, cells := 0, slots := 0, locals := 0 } : Room) s m #[(.ref o0), (.int p1), (.ref o0), (.int p1), (.int 1), (.ref o5), (.int p6), (.int 0)] below meth c s₁ [] 0 0 := Stand.of_body Bd
  have e0 : s₁.heap = h0 := by rw [← hh, Bd.state]; rfl
  have N0 := Fr.nil n0
  have go0 : ∀ t, Steps p.tables e below (s₁.setTop (mkF m 0 #[rv o0, iv p1, rv o0, iv p1, iv 1, rv o5, iv p6, iv 0, .unset, .unset, .unset] [])) t → Steps p.tables e below (s₁.setTop (entryFrame m #[(.ref o0), (.int p1), (.ref o0), (.int p1), (.int 1), (.ref o5), (.int p6), (.int 0)] 11)) t := fun t k => castTop (ef_ai10 m o0 p1 o0 p1 (1 : Int32) o5 p6 (0 : Int32)) k
  obtain ⟨O, hO⟩ : ∃ z, z = (s₁.setTop (entryFrame m #[(.ref o0), (.int p1), (.ref o0), (.int p1), (.int 1), (.ref o5), (.int p6), (.int 0)] 11)) := ⟨_, rfl⟩
  rw [← hO] at go0
  have K101 := Keep.refl h0 [o0]
  obtain ⟨cl102, Ar102, q102, S102, M102, Hs102, G102⟩ := V_o0
  have f103 : Arv Z h0 o0 kz_ .int (4 : Int32) zs_ (.int 0) := ⟨cl102, Ar102, q102, S102, M102, Hs102, G102⟩
  have hin104 : ¬ ((p1 + (0 : Int32)) < 0 ∨ cl102.slots.size ≤ ((p1 + (0 : Int32))).toNatClampNeg) := inb_of S102 (own_in0 hzO)
  have hat104 : cl102.slots[((p1 + (0 : Int32))).toNatClampNeg]? = some (.int xa) := Hs102.at hin104 hxa
  have go105 : ∀ t, Steps p.tables e below (s₁.setTop (mkF m 92 #[rv o0, iv p1, rv o0, iv p1, iv 1, rv o5, iv p6, iv 0, .val (.long ((0 : Int64) + (xa.toInt64 &&& (4294967295 : Int64)))), .second, iv 0] [])) t → Steps p.tables e below O t := fun t k => go0 t (by
    refine XS.lconst X0.here hx rfl (hb hby d1_0) ?_
    refine XS.lstore X0.here hx rfl (hb hby d1_1) rfl (l' := #[rv o0, iv p1, rv o0, iv p1, iv 1, rv o5, iv p6, iv 0, .val (.long 0), .second, .unset]) rfl ?_
    show Steps _ _ _ (s₁.setTop (mkF m 3 _ [])) _
    refine XS.iconst X0.here hx rfl (hb hby d1_3) ?_
    refine XS.istore X0.here hx rfl (hb hby d1_4) rfl (l' := #[rv o0, iv p1, rv o0, iv p1, iv 1, rv o5, iv p6, iv 0, .val (.long 0), .second, iv 0]) rfl ?_
    show Steps _ _ _ (s₁.setTop (mkF m 6 _ [])) _
    refine XS.iload X0.here hx rfl (hb hby d1_6) rfl ?_
    refine XS.iload X0.here hx rfl (hb hby d1_8) rfl ?_
    show Steps _ _ _ (s₁.setTop (mkF m 10 _ [(.int 0), (.int 0)])) _
    refine XS.icmpYes X0.here hx rfl (pc0 := 10) (pc' := 65) rfl (hb hby d1_10) rfl (flt (by decide : ¬ ((0 : Int32) < (0 : Int32)))).2.1 (by decide) (by decide) ?_
    refine XS.iload X0.here hx rfl (hb hby d1_65) rfl ?_
    show Steps _ _ _ (s₁.setTop (mkF m 67 _ [(.int 0)])) _
    refine XS.istore X0.here hx rfl (hb hby d1_67) rfl (l' := #[rv o0, iv p1, rv o0, iv p1, iv 1, rv o5, iv p6, iv 0, .val (.long 0), .second, iv 0]) rfl ?_
    show Steps _ _ _ (s₁.setTop (mkF m 69 _ [])) _
    refine XS.iload X0.here hx rfl (hb hby d1_69) rfl ?_
    refine XS.iload X0.here hx rfl (hb hby d1_71) rfl ?_
    show Steps _ _ _ (s₁.setTop (mkF m 73 _ [(.int 1), (.int 0)])) _
    refine XS.icmpNo X0.here hx rfl (hb hby d1_73) rfl (tlt (by decide : (0 : Int32) < (1 : Int32))).2.1 ?_
    refine XS.lload X0.here hx rfl (hb hby d1_76) rfl ?_
    show Steps _ _ _ (s₁.setTop (mkF m 78 _ [(.long 0)])) _
    refine XS.aloadN X0.here hx rfl (hb hby d1_78) rfl rfl ?_
    refine XS.iloadN X0.here hx rfl (hb hby d1_79) rfl ?_
    show Steps _ _ _ (s₁.setTop (mkF m 80 _ [(.int p1), (.ref o0), (.long 0)])) _
    refine XS.iload X0.here hx rfl (hb hby d1_80) rfl ?_
    refine XS.iadd X0.here hx rfl (hb hby d1_82) rfl ?_
    show Steps _ _ _ (s₁.setTop (mkF m 83 _ [(.int (p1 + (0 : Int32))), (.ref o0), (.long 0)])) _
    refine X0.iaload hx (j := (p1 + (0 : Int32))) (v := (.int xa)) (by rw [e0]; exact Ar102.1) (State.isArrayOf_alike hZ.alike Ar102.2.1) Ar102.2.2 hin104 hat104 (g := (mkF m 83 #[rv o0, iv p1, rv o0, iv p1, iv 1, rv o5, iv p6, iv 0, .val (.long 0), .second, iv 0] [(.int (p1 + (0 : Int32))), (.ref o0), (.long 0)])) rfl rfl (hb hby d1_83) _ ?_
    refine XS.i2l X0.here hx rfl (hb hby d1_84) rfl ?_
    show Steps _ _ _ (s₁.setTop (mkF m 85 _ [(.long xa.toInt64), (.long 0)])) _
    refine X0.ldc2Long hx hown (mvT hZ (hw _ (List.mem_of_getElem? (i := 12) rfl))) (g := (mkF m 85 #[rv o0, iv p1, rv o0, iv p1, iv 1, rv o5, iv p6, iv 0, .val (.long 0), .second, iv 0] [(.long xa.toInt64), (.long 0)])) rfl (hb hby d1_85) _ ?_
    refine XS.land X0.here hx rfl (hb hby d1_88) rfl ?_
    show Steps _ _ _ (s₁.setTop (mkF m 89 _ [(.long (xa.toInt64 &&& (4294967295 : Int64))), (.long 0)])) _
    refine XS.ladd X0.here hx rfl (hb hby d1_89) rfl ?_
    show Steps _ _ _ (s₁.setTop (mkF m 90 #[rv o0, iv p1, rv o0, iv p1, iv 1, rv o5, iv p6, iv 0, .val (.long 0), .second, iv 0] [(.long ((0 : Int64) + (xa.toInt64 &&& (4294967295 : Int64))))])) _
    refine XS.lstore X0.here hx rfl (hb hby d1_90) rfl (l' := #[rv o0, iv p1, rv o0, iv p1, iv 1, rv o5, iv p6, iv 0, .val (.long ((0 : Int64) + (xa.toInt64 &&& (4294967295 : Int64)))), .second, iv 0]) rfl ?_
    show Steps _ _ _ (s₁.setTop (mkF m 92 _ [])) _
    exact k)
  obtain ⟨s0_, hs0⟩ : ∃ z : Int64, z = ((0 : Int64) + (xa.toInt64 &&& (4294967295 : Int64))) := ⟨_, rfl⟩
  rw [← hs0] at go105
  obtain ⟨cl106, Ar106, q106, S106, M106, Hs106, G106⟩ := f103
  have f107 : Arv Z h0 o0 kz_ .int (4 : Int32) zs_ (.int 0) := ⟨cl106, Ar106, q106, S106, M106, Hs106, G106⟩
  have hin108 : ¬ ((p1 + (0 : Int32)) < 0 ∨ cl106.slots.size ≤ ((p1 + (0 : Int32))).toNatClampNeg) := inb_of S106 (own_in0 hzO)
  obtain ⟨T108, h108, X108, e108, W108, st108⟩ := stI X0 hx hZ e0 Ar106 (j := (p1 + (0 : Int32))) hin108 (g := (mkF m 100 #[rv o0, iv p1, rv o0, iv p1, iv 1, rv o5, iv p6, iv 0, .val (.long s0_), .second, iv 0] [(.int s0_.toInt32), (.int (p1 + (0 : Int32))), (.ref o0)])) rfl rfl (hb hby d1_100)
  have f109 := V_o5.other W108 ne_y
  have Z110 := Nat.le_trans Z0 (Keep.of_wr W108).1
  have K111 := K101.wr W108 (Or.inl (List.mem_of_getElem? (i := 0) rfl))
  have V108 : Arv Z h108 o0 kz_ .int (4 : Int32) (zs_.set ((p1 + (0 : Int32))).toNatClampNeg (.int s0_.toInt32)) (.int 0) := Arv.set Ar106 q106 S106 M106 Hs106 G106 rfl W108 ((p1 + (0 : Int32))).toNatClampNeg rfl (own_ln0 hzO hl)
  have N108 := Fr.snoc X108 N0 ge_o0
  have go112 : ∀ t, Steps p.tables e below (T108.setTop (mkF m 108 #[rv o0, iv p1, rv o0, iv p1, iv 1, rv o5, iv p6, iv 0, .val (.long ((s0_.toUInt64 >>> ((32 : Int32) &&& 0x3f).toInt64.toUInt64).toInt64)), .second, iv 0] [])) t → Steps p.tables e below O t := fun t k => go105 t (by
    refine XS.aloadN X0.here hx rfl (hb hby d1_92) rfl rfl ?_
    refine XS.iloadN X0.here hx rfl (hb hby d1_93) rfl ?_
    show Steps _ _ _ (s₁.setTop (mkF m 94 _ [(.int p1), (.ref o0)])) _
    refine XS.iload X0.here hx rfl (hb hby d1_94) rfl ?_
    refine XS.iadd X0.here hx rfl (hb hby d1_96) rfl ?_
    show Steps _ _ _ (s₁.setTop (mkF m 97 _ [(.int (p1 + (0 : Int32))), (.ref o0)])) _
    refine XS.lload X0.here hx rfl (hb hby d1_97) rfl ?_
    refine XS.l2i X0.here hx rfl (hb hby d1_99) rfl ?_
    show Steps _ _ _ (s₁.setTop (mkF m 100 _ [(.int s0_.toInt32), (.int (p1 + (0 : Int32))), (.ref o0)])) _
    refine st108 _ ?_
    show Steps _ _ _ (T108.setTop (mkF m 101 _ [])) _
    refine XS.lload X108.here hx rfl (hb hby d1_101) rfl ?_
    refine XS.bipush X108.here hx rfl (hb hby d1_103) ?_
    show Steps _ _ _ (T108.setTop (mkF m 105 _ [(.int 32), (.long s0_)])) _
    refine XS.lushr X108.here hx rfl (hb hby d1_105) rfl ?_
    refine XS.lstore X108.here hx rfl (hb hby d1_106) rfl (l' := #[rv o0, iv p1, rv o0, iv p1, iv 1, rv o5, iv p6, iv 0, .val (.long ((s0_.toUInt64 >>> ((32 : Int32) &&& 0x3f).toInt64.toUInt64).toInt64)), .second, iv 0]) rfl ?_
    show Steps _ _ _ (T108.setTop (mkF m 108 _ [])) _
    exact k)
  obtain ⟨c0_, hc0⟩ : ∃ z : Int64, z = ((s0_.toUInt64 >>> ((32 : Int32) &&& 0x3f).toInt64.toUInt64).toInt64) := ⟨_, rfl⟩
  rw [← hc0] at go112
  have go113 : ∀ t, Steps p.tables e below (T108.setTop (mkF m 73 #[rv o0, iv p1, rv o0, iv p1, iv 1, rv o5, iv p6, iv 0, .val (.long c0_), .second, iv ((0 : Int32) + (1 : Int32))] [(.int 1), (.int ((0 : Int32) + (1 : Int32)))])) t → Steps p.tables e below O t := fun t k => go112 t (by
    refine XS.iinc X108.here hx rfl (hb hby d1_108) rfl (l' := #[rv o0, iv p1, rv o0, iv p1, iv 1, rv o5, iv p6, iv 0, .val (.long c0_), .second, iv ((0 : Int32) + (1 : Int32))]) rfl ?_
    show Steps _ _ _ (T108.setTop (mkF m 111 _ [])) _
    refine XS.goto X108.here hx rfl (pc0 := 111) (pc' := 69) rfl (hb hby d1_111) (by decide) (by decide) ?_
    refine XS.iload X108.here hx rfl (hb hby d1_69) rfl ?_
    show Steps _ _ _ (T108.setTop (mkF m 71 _ [(.int ((0 : Int32) + (1 : Int32)))])) _
    refine XS.iload X108.here hx rfl (hb hby d1_71) rfl ?_
    exact k)
  have go114 : ∀ t, Steps p.tables e below (T108.setTop (mkF m 73 #[rv o0, iv p1, rv o0, iv p1, iv 1, rv o5, iv p6, iv 0, .val (.long c0_), .second, iv 1] [(.int 1), (.int ((0 : Int32) + (1 : Int32)))])) t → Steps p.tables e below O t := go113
  have go115 : ∀ t, Steps p.tables e below (T108.setTop (mkF m 117 #[rv o0, iv p1, rv o0, iv p1, iv 1, rv o5, iv p6, iv 0, .val (.long c0_), .second, iv 1] [(.int c0_.toInt32)])) t → Steps p.tables e below O t := fun t k => go114 t (by
    refine XS.icmpYes X108.here hx rfl (pc0 := 73) (pc' := 114) rfl (hb hby d1_73) rfl (flt (by decide : ¬ ((1 : Int32) < (1 : Int32)))).2.1 (by decide) (by decide) ?_
    refine XS.lload X108.here hx rfl (hb hby d1_114) rfl ?_
    show Steps _ _ _ (T108.setTop (mkF m 116 _ [(.long c0_)])) _
    refine XS.l2i X108.here hx rfl (hb hby d1_116) rfl ?_
    exact k)
  have hp : own_post (1 : Int32) (0 : Int32) xa xb ya yb c0_.toInt32 s0_.toInt32 (0 : Int32) := by
    subst hc0 hs0
    exact own_ar_10 xa xb ya yb (0 : Int32)
  rw [hO] at go115
  obtain ⟨fs, hr, hrun, hended, hW, hsame⟩ := X108.leave (v := some (.int c0_.toInt32)) (fun h => by rw [Bd.returns] at h; cases h)
  refine ⟨_, _, go115 _ ?_, hrun, hended, _, _, rfl, ?_, ⟨_, rfl⟩, hW, hsame.mono (by decide) (by decide)⟩
  · exact retI X108 hx Bd.returns (hb hby d1_117) hr
  · show Q_ai10 Z o0 p1 o5 p6 kz_ zs_ ky_ ys_ xa xb ya yb h0 n0 _ T108.heap _
    rw [e108]
    exact ⟨_, _, _, rfl, N108, hp, K111, own_put_1 hzO V108⟩
theorem ef_ai11 (m : MethodId) (x0 : Addr) (x1 : Int32) (x2 : Addr) (x3 : Int32) (x4 : Int32) (x5 : Addr) (x6 : Int32) (x7 : Int32) : entryFrame m #[(.ref x2), (.int x3), (.ref x2), (.int x3), (.int x7), (.ref x5), (.int x6), (.int x7)] 11 = mkF m 0 #[rv x2, iv x3, rv x2, iv x3, iv x7, rv x5, iv x6, iv x7, .unset, .unset, .unset] [] := by first | (simp [entryFrame, mkF, argsToLocals, Value.category]; done) | rfl
def Q_ai11 (Z : State) (o0 : Addr) (p1 : Int32) (o5 : Addr) (p6 : Int32) (kz_ : ClassId) (zs_ : List Value) (ky_ : ClassId) (ys_ : List Value) (xa : Int32) (xb : Int32) (ya : Int32) (yb : Int32) (h0 : Heap) (n0 : Nat) (v : Option Value) (h : Heap) (L : List Loc) : Prop := ∃ r u0 u1 : Int32, v = some (.int r) ∧ Fr n0 L ∧ own_post (1 : Int32) (1 : Int32) xa xb ya yb r u0 u1 ∧ Keep h0 h [o0] ∧ Arv Z h o0 kz_ .int (4 : Int32) (own_put (1 : Int32) p1 zs_ u0 u1) (.int (0 : Int32))
theorem d1_13 : decode prog_24_method_2_code 13 = .ok (.lload 8, 2) := by decide +kernel
theorem d1_15 : decode prog_24_method_2_code 15 = .ok (.aload_n 2, 1) := by decide +kernel
theorem d1_16 : decode prog_24_method_2_code 16 = .ok (.iload_n 3, 1) := by decide +kernel
theorem d1_17 : decode prog_24_method_2_code 17 = .ok (.iload 10, 2) := by decide +kernel
theorem d1_19 : decode prog_24_method_2_code 19 = .ok (.iadd, 1) := by decide +kernel
theorem d1_20 : decode prog_24_method_2_code 20 = .ok (.iaload, 1) := by decide +kernel
theorem d1_21 : decode prog_24_method_2_code 21 = .ok (.i2l, 1) := by decide +kernel
theorem d1_22 : decode prog_24_method_2_code 22 = .ok (.ldc2_w 9, 3) := by decide +kernel
theorem d1_25 : decode prog_24_method_2_code 25 = .ok (.land, 1) := by decide +kernel
theorem d1_26 : decode prog_24_method_2_code 26 = .ok (.aload 5, 2) := by decide +kernel
theorem d1_28 : decode prog_24_method_2_code 28 = .ok (.iload 6, 2) := by decide +kernel
theorem d1_30 : decode prog_24_method_2_code 30 = .ok (.iload 10, 2) := by decide +kernel
theorem d1_32 : decode prog_24_method_2_code 32 = .ok (.iadd, 1) := by decide +kernel
theorem d1_33 : decode prog_24_method_2_code 33 = .ok (.iaload, 1) := by decide +kernel
theorem d1_34 : decode prog_24_method_2_code 34 = .ok (.i2l, 1) := by decide +kernel
theorem d1_35 : decode prog_24_method_2_code 35 = .ok (.ldc2_w 9, 3) := by decide +kernel
theorem d1_38 : decode prog_24_method_2_code 38 = .ok (.land, 1) := by decide +kernel
theorem d1_39 : decode prog_24_method_2_code 39 = .ok (.ladd, 1) := by decide +kernel
theorem d1_40 : decode prog_24_method_2_code 40 = .ok (.ladd, 1) := by decide +kernel
theorem d1_41 : decode prog_24_method_2_code 41 = .ok (.lstore 8, 2) := by decide +kernel
theorem d1_43 : decode prog_24_method_2_code 43 = .ok (.aload_n 0, 1) := by decide +kernel
theorem d1_44 : decode prog_24_method_2_code 44 = .ok (.iload_n 1, 1) := by decide +kernel
theorem d1_45 : decode prog_24_method_2_code 45 = .ok (.iload 10, 2) := by decide +kernel
theorem d1_47 : decode prog_24_method_2_code 47 = .ok (.iadd, 1) := by decide +kernel
theorem d1_48 : decode prog_24_method_2_code 48 = .ok (.lload 8, 2) := by decide +kernel
theorem d1_50 : decode prog_24_method_2_code 50 = .ok (.l2i, 1) := by decide +kernel
theorem d1_51 : decode prog_24_method_2_code 51 = .ok (.iastore, 1) := by decide +kernel
theorem d1_52 : decode prog_24_method_2_code 52 = .ok (.lload 8, 2) := by decide +kernel
theorem d1_54 : decode prog_24_method_2_code 54 = .ok (.bipush 32, 2) := by decide +kernel
theorem d1_56 : decode prog_24_method_2_code 56 = .ok (.lushr, 1) := by decide +kernel
theorem d1_57 : decode prog_24_method_2_code 57 = .ok (.lstore 8, 2) := by decide +kernel
theorem d1_59 : decode prog_24_method_2_code 59 = .ok (.iinc 10 1, 3) := by decide +kernel
theorem d1_62 : decode prog_24_method_2_code 62 = .ok (.goto (-56), 3) := by decide +kernel
set_option maxRecDepth 65536 in
set_option maxHeartbeats 40000000 in
theorem rm_ai11 (l : Launch) (Z : State) (a0 : Array Value) (hw : ∀ d ∈ tables_1, d.before a0 Z = true) (ws : List Jvm.Cond) (o0 : Addr) (p1 : Int32) (o5 : Addr) (p6 : Int32) (kz_ : ClassId) (zs_ : List Value) (ky_ : ClassId) (ys_ : List Value) (xa : Int32) (xb : Int32) (ya : Int32) (yb : Int32) (h0 : Heap) (n0 : Nat) (Z0 : n0 ≤ h0.size) (ge_o0 : n0 ≤ o0) (V_o0 : Arv Z h0 o0 kz_ .int (4 : Int32) zs_ (.int (0 : Int32))) (V_o5 : Arv Z h0 o5 ky_ .int (4 : Int32) ys_ (.int (0 : Int32))) (ne_y : o5 ≠ o0) (hl : zs_.length = 4) (hzO : p1 = (0 : Int32) ∨ p1 = (1 : Int32)) (hyO : p6 = (0 : Int32) ∨ p6 = (1 : Int32)) (hxa : zs_.getD (p1 + (0 : Int32)).toNatClampNeg (.int (0 : Int32)) = .int xa) (hya : ys_.getD (p6 + (0 : Int32)).toNatClampNeg (.int (0 : Int32)) = .int ya) (hxb : zs_.getD (p1 + (1 : Int32)).toNatClampNeg (.int (0 : Int32)) = .int xb) (hyb : ys_.getD (p6 + (1 : Int32)).toNatClampNeg (.int (0 : Int32)) = .int yb) :
    MetFree l (⟨"com/example/limbwise/kernel/Words", "add", "([II[III[III)I"⟩ : MethodName) (head1 (Jvm.Cond.code (⟨"com/example/limbwise/kernel/Words", "add", "([II[III[III)I"⟩ : MethodName) prog_24_method_2_code 11 (some .int) :: ws) ({ frames := 0, cells := 0, slots := 0, locals := 0 } : Room)) (fun a U => a = #[(.ref o0), (.int p1), (.ref o0), (.int p1), (.int 1), (.ref o5), (.int p6), (.int 1)] ∧ Z.Warmed39 U.vm ∧ U.heap = h0) (fun _ _ _ _ _ => True) (fun _ U o U' => ∃ v L, o = .returned v ∧ Q_ai11 Z o0 p1 o5 p6 kz_ zs_ ky_ ys_ xa xb ya yb h0 n0 v U'.heap L ∧ FrameEnd U o U' L ({ frames := 0, cells := 0, slots := 0, locals := 0 } : Room).cells ({ frames := 0, cells := 0, slots := 0, locals := 0 } : Room).slots) := by
  refine MetFree.of_bodySF (plainFor_of_name pn_1) hisR ?_
  intro p e s m args below meth c s₁ Bd hml0 hP hK
  obtain ⟨rfl, hZ, hh⟩ := hP
  have hx := Bd.exec
  have hby := Bd.bytes
  have hml : c.maxLocals = 11 := hml0
  have hown : s.vm.findClass "com/example/limbwise/kernel/Words" = some m.cls := findClass_of_methodNamed Bd.named
  have hnm := (name_of_methodNamed Bd.named Bd.method).1
  have X0 : Stand p l e ({ frames := 0, cells := 0, slots := 0, locals := 0 } : Room) s m #[(.ref o0), (.int p1), (.ref o0), (.int p1), (.int 1), (.ref o5), (.int p6), (.int 1)] below meth c s₁ [] 0 0 := Stand.of_body Bd
  have e0 : s₁.heap = h0 := by rw [← hh, Bd.state]; rfl
  have N0 := Fr.nil n0
  have go0 : ∀ t, Steps p.tables e below (s₁.setTop (mkF m 0 #[rv o0, iv p1, rv o0, iv p1, iv 1, rv o5, iv p6, iv 1, .unset, .unset, .unset] [])) t → Steps p.tables e below (s₁.setTop (entryFrame m #[(.ref o0), (.int p1), (.ref o0), (.int p1), (.int 1), (.ref o5), (.int p6), (.int 1)] 11)) t := fun t k => castTop (ef_ai11 m o0 p1 o0 p1 (1 : Int32) o5 p6 (1 : Int32)) k
  obtain ⟨O, hO⟩ : ∃ z, z = (s₁.setTop (entryFrame m #[(.ref o0), (.int p1), (.ref o0), (.int p1), (.int 1), (.ref o5), (.int p6), (.int 1)] 11)) := ⟨_, rfl⟩
  rw [← hO] at go0
  have K101 := Keep.refl h0 [o0]
  obtain ⟨cl102, Ar102, q102, S102, M102, Hs102, G102⟩ := V_o0
  have f103 : Arv Z h0 o0 kz_ .int (4 : Int32) zs_ (.int 0) := ⟨cl102, Ar102, q102, S102, M102, Hs102, G102⟩
  have hin104 : ¬ ((p1 + (0 : Int32)) < 0 ∨ cl102.slots.size ≤ ((p1 + (0 : Int32))).toNatClampNeg) := inb_of S102 (own_in0 hzO)
  have hat104 : cl102.slots[((p1 + (0 : Int32))).toNatClampNeg]? = some (.int xa) := Hs102.at hin104 hxa
  obtain ⟨cl105, Ar105, q105, S105, M105, Hs105, G105⟩ := V_o5
  have f106 : Arv Z h0 o5 ky_ .int (4 : Int32) ys_ (.int 0) := ⟨cl105, Ar105, q105, S105, M105, Hs105, G105⟩
  have hin107 : ¬ ((p6 + (0 : Int32)) < 0 ∨ cl105.slots.size ≤ ((p6 + (0 : Int32))).toNatClampNeg) := inb_of S105 (own_in0 hyO)
  have hat107 : cl105.slots[((p6 + (0 : Int32))).toNatClampNeg]? = some (.int ya) := Hs105.at hin107 hya
  have go108 : ∀ t, Steps p.tables e below (s₁.setTop (mkF m 43 #[rv o0, iv p1, rv o0, iv p1, iv 1, rv o5, iv p6, iv 1, .val (.long ((0 : Int64) + ((xa.toInt64 &&& (4294967295 : Int64)) + (ya.toInt64 &&& (4294967295 : Int64))))), .second, iv 0] [])) t → Steps p.tables e below O t := fun t k => go0 t (by
    refine XS.lconst X0.here hx rfl (hb hby d1_0) ?_
    refine XS.lstore X0.here hx rfl (hb hby d1_1) rfl (l' := #[rv o0, iv p1, rv o0, iv p1, iv 1, rv o5, iv p6, iv 1, .val (.long 0), .second, .unset]) rfl ?_
    show Steps _ _ _ (s₁.setTop (mkF m 3 _ [])) _
    refine XS.iconst X0.here hx rfl (hb hby d1_3) ?_
    refine XS.istore X0.here hx rfl (hb hby d1_4) rfl (l' := #[rv o0, iv p1, rv o0, iv p1, iv 1, rv o5, iv p6, iv 1, .val (.long 0), .second, iv 0]) rfl ?_
    show Steps _ _ _ (s₁.setTop (mkF m 6 _ [])) _
    refine XS.iload X0.here hx rfl (hb hby d1_6) rfl ?_
    refine XS.iload X0.here hx rfl (hb hby d1_8) rfl ?_
    show Steps _ _ _ (s₁.setTop (mkF m 10 _ [(.int 1), (.int 0)])) _
    refine XS.icmpNo X0.here hx rfl (hb hby d1_10) rfl (tlt (by decide : (0 : Int32) < (1 : Int32))).2.1 ?_
    refine XS.lload X0.here hx rfl (hb hby d1_13) rfl ?_
    show Steps _ _ _ (s₁.setTop (mkF m 15 _ [(.long 0)])) _
    refine XS.aloadN X0.here hx rfl (hb hby d1_15) rfl rfl ?_
    refine XS.iloadN X0.here hx rfl (hb hby d1_16) rfl ?_
    show Steps _ _ _ (s₁.setTop (mkF m 17 _ [(.int p1), (.ref o0), (.long 0)])) _
    refine XS.iload X0.here hx rfl (hb hby d1_17) rfl ?_
    refine XS.iadd X0.here hx rfl (hb hby d1_19) rfl ?_
    show Steps _ _ _ (s₁.setTop (mkF m 20 _ [(.int (p1 + (0 : Int32))), (.ref o0), (.long 0)])) _
    refine X0.iaload hx (j := (p1 + (0 : Int32))) (v := (.int xa)) (by rw [e0]; exact Ar102.1) (State.isArrayOf_alike hZ.alike Ar102.2.1) Ar102.2.2 hin104 hat104 (g := (mkF m 20 #[rv o0, iv p1, rv o0, iv p1, iv 1, rv o5, iv p6, iv 1, .val (.long 0), .second, iv 0] [(.int (p1 + (0 : Int32))), (.ref o0), (.long 0)])) rfl rfl (hb hby d1_20) _ ?_
    refine XS.i2l X0.here hx rfl (hb hby d1_21) rfl ?_
    show Steps _ _ _ (s₁.setTop (mkF m 22 _ [(.long xa.toInt64), (.long 0)])) _
    refine X0.ldc2Long hx hown (mvT hZ (hw _ (List.mem_of_getElem? (i := 12) rfl))) (g := (mkF m 22 #[rv o0, iv p1, rv o0, iv p1, iv 1, rv o5, iv p6, iv 1, .val (.long 0), .second, iv 0] [(.long xa.toInt64), (.long 0)])) rfl (hb hby d1_22) _ ?_
    refine XS.land X0.here hx rfl (hb hby d1_25) rfl ?_
    show Steps _ _ _ (s₁.setTop (mkF m 26 _ [(.long (xa.toInt64 &&& (4294967295 : Int64))), (.long 0)])) _
    refine XS.aload X0.here hx rfl (hb hby d1_26) rfl rfl ?_
    show Steps _ _ _ (s₁.setTop (mkF m 28 #[rv o0, iv p1, rv o0, iv p1, iv 1, rv o5, iv p6, iv 1, .val (.long 0), .second, iv 0] [(.ref o5), (.long (xa.toInt64 &&& (4294967295 : Int64))), (.long 0)])) _
    refine XS.iload X0.here hx rfl (hb hby d1_28) rfl ?_
    refine XS.iload X0.here hx rfl (hb hby d1_30) rfl ?_
    show Steps _ _ _ (s₁.setTop (mkF m 32 _ [(.int 0), (.int p6), (.ref o5), (.long (xa.toInt64 &&& (4294967295 : Int64))), (.long 0)])) _
    refine XS.iadd X0.here hx rfl (hb hby d1_32) rfl ?_
    refine X0.iaload hx (j := (p6 + (0 : Int32))) (v := (.int ya)) (by rw [e0]; exact Ar105.1) (State.isArrayOf_alike hZ.alike Ar105.2.1) Ar105.2.2 hin107 hat107 (g := (mkF m 33 #[rv o0, iv p1, rv o0, iv p1, iv 1, rv o5, iv p6, iv 1, .val (.long 0), .second, iv 0] [(.int (p6 + (0 : Int32))), (.ref o5), (.long (xa.toInt64 &&& (4294967295 : Int64))), (.long 0)])) rfl rfl (hb hby d1_33) _ ?_
    show Steps _ _ _ (s₁.setTop (mkF m 34 _ [(.int ya), (.long (xa.toInt64 &&& (4294967295 : Int64))), (.long 0)])) _
    refine XS.i2l X0.here hx rfl (hb hby d1_34) rfl ?_
    refine X0.ldc2Long hx hown (mvT hZ (hw _ (List.mem_of_getElem? (i := 12) rfl))) (g := (mkF m 35 #[rv o0, iv p1, rv o0, iv p1, iv 1, rv o5, iv p6, iv 1, .val (.long 0), .second, iv 0] [(.long ya.toInt64), (.long (xa.toInt64 &&& (4294967295 : Int64))), (.long 0)])) rfl (hb hby d1_35) _ ?_
    show Steps _ _ _ (s₁.setTop (mkF m 38 _ [(.long 4294967295), (.long ya.toInt64), (.long (xa.toInt64 &&& (4294967295 : Int64))), (.long 0)])) _
    refine XS.land X0.here hx rfl (hb hby d1_38) rfl ?_
    refine XS.ladd X0.here hx rfl (hb hby d1_39) rfl ?_
    show Steps _ _ _ (s₁.setTop (mkF m 40 _ [(.long ((xa.toInt64 &&& (4294967295 : Int64)) + (ya.toInt64 &&& (4294967295 : Int64)))), (.long 0)])) _
    refine XS.ladd X0.here hx rfl (hb hby d1_40) rfl ?_
    refine XS.lstore X0.here hx rfl (hb hby d1_41) rfl (l' := #[rv o0, iv p1, rv o0, iv p1, iv 1, rv o5, iv p6, iv 1, .val (.long ((0 : Int64) + ((xa.toInt64 &&& (4294967295 : Int64)) + (ya.toInt64 &&& (4294967295 : Int64))))), .second, iv 0]) rfl ?_
    show Steps _ _ _ (s₁.setTop (mkF m 43 _ [])) _
    exact k)
  obtain ⟨s0_, hs0⟩ : ∃ z : Int64, z = ((0 : Int64) + ((xa.toInt64 &&& (4294967295 : Int64)) + (ya.toInt64 &&& (4294967295 : Int64)))) := ⟨_, rfl⟩
  rw [← hs0] at go108
  obtain ⟨cl109, Ar109, q109, S109, M109, Hs109, G109⟩ := f103
  have f110 : Arv Z h0 o0 kz_ .int (4 : Int32) zs_ (.int 0) := ⟨cl109, Ar109, q109, S109, M109, Hs109, G109⟩
  have hin111 : ¬ ((p1 + (0 : Int32)) < 0 ∨ cl109.slots.size ≤ ((p1 + (0 : Int32))).toNatClampNeg) := inb_of S109 (own_in0 hzO)
  obtain ⟨T111, h111, X111, e111, W111, st111⟩ := stI X0 hx hZ e0 Ar109 (j := (p1 + (0 : Int32))) hin111 (g := (mkF m 51 #[rv o0, iv p1, rv o0, iv p1, iv 1, rv o5, iv p6, iv 1, .val (.long s0_), .second, iv 0] [(.int s0_.toInt32), (.int (p1 + (0 : Int32))), (.ref o0)])) rfl rfl (hb hby d1_51)
  have f112 := f106.other W111 ne_y
  have Z113 := Nat.le_trans Z0 (Keep.of_wr W111).1
  have K114 := K101.wr W111 (Or.inl (List.mem_of_getElem? (i := 0) rfl))
  have V111 : Arv Z h111 o0 kz_ .int (4 : Int32) (zs_.set ((p1 + (0 : Int32))).toNatClampNeg (.int s0_.toInt32)) (.int 0) := Arv.set Ar109 q109 S109 M109 Hs109 G109 rfl W111 ((p1 + (0 : Int32))).toNatClampNeg rfl (own_ln0 hzO hl)
  have N111 := Fr.snoc X111 N0 ge_o0
  have go115 : ∀ t, Steps p.tables e below (T111.setTop (mkF m 59 #[rv o0, iv p1, rv o0, iv p1, iv 1, rv o5, iv p6, iv 1, .val (.long ((s0_.toUInt64 >>> ((32 : Int32) &&& 0x3f).toInt64.toUInt64).toInt64)), .second, iv 0] [])) t → Steps p.tables e below O t := fun t k => go108 t (by
    refine XS.aloadN X0.here hx rfl (hb hby d1_43) rfl rfl ?_
    refine XS.iloadN X0.here hx rfl (hb hby d1_44) rfl ?_
    show Steps _ _ _ (s₁.setTop (mkF m 45 _ [(.int p1), (.ref o0)])) _
    refine XS.iload X0.here hx rfl (hb hby d1_45) rfl ?_
    refine XS.iadd X0.here hx rfl (hb hby d1_47) rfl ?_
    show Steps _ _ _ (s₁.setTop (mkF m 48 _ [(.int (p1 + (0 : Int32))), (.ref o0)])) _
    refine XS.lload X0.here hx rfl (hb hby d1_48) rfl ?_
    refine XS.l2i X0.here hx rfl (hb hby d1_50) rfl ?_
    show Steps _ _ _ (s₁.setTop (mkF m 51 _ [(.int s0_.toInt32), (.int (p1 + (0 : Int32))), (.ref o0)])) _
    refine st111 _ ?_
    show Steps _ _ _ (T111.setTop (mkF m 52 _ [])) _
    refine XS.lload X111.here hx rfl (hb hby d1_52) rfl ?_
    refine XS.bipush X111.here hx rfl (hb hby d1_54) ?_
    show Steps _ _ _ (T111.setTop (mkF m 56 _ [(.int 32), (.long s0_)])) _
    refine XS.lushr X111.here hx rfl (hb hby d1_56) rfl ?_
    refine XS.lstore X111.here hx rfl (hb hby d1_57) rfl (l' := #[rv o0, iv p1, rv o0, iv p1, iv 1, rv o5, iv p6, iv 1, .val (.long ((s0_.toUInt64 >>> ((32 : Int32) &&& 0x3f).toInt64.toUInt64).toInt64)), .second, iv 0]) rfl ?_
    show Steps _ _ _ (T111.setTop (mkF m 59 _ [])) _
    exact k)
  obtain ⟨c0_, hc0⟩ : ∃ z : Int64, z = ((s0_.toUInt64 >>> ((32 : Int32) &&& 0x3f).toInt64.toUInt64).toInt64) := ⟨_, rfl⟩
  rw [← hc0] at go115
  have go116 : ∀ t, Steps p.tables e below (T111.setTop (mkF m 10 #[rv o0, iv p1, rv o0, iv p1, iv 1, rv o5, iv p6, iv 1, .val (.long c0_), .second, iv ((0 : Int32) + (1 : Int32))] [(.int 1), (.int ((0 : Int32) + (1 : Int32)))])) t → Steps p.tables e below O t := fun t k => go115 t (by
    refine XS.iinc X111.here hx rfl (hb hby d1_59) rfl (l' := #[rv o0, iv p1, rv o0, iv p1, iv 1, rv o5, iv p6, iv 1, .val (.long c0_), .second, iv ((0 : Int32) + (1 : Int32))]) rfl ?_
    show Steps _ _ _ (T111.setTop (mkF m 62 _ [])) _
    refine XS.goto X111.here hx rfl (pc0 := 62) (pc' := 6) rfl (hb hby d1_62) (by decide) (by decide) ?_
    refine XS.iload X111.here hx rfl (hb hby d1_6) rfl ?_
    show Steps _ _ _ (T111.setTop (mkF m 8 _ [(.int ((0 : Int32) + (1 : Int32)))])) _
    refine XS.iload X111.here hx rfl (hb hby d1_8) rfl ?_
    exact k)
  have go117 : ∀ t, Steps p.tables e below (T111.setTop (mkF m 10 #[rv o0, iv p1, rv o0, iv p1, iv 1, rv o5, iv p6, iv 1, .val (.long c0_), .second, iv 1] [(.int 1), (.int ((0 : Int32) + (1 : Int32)))])) t → Steps p.tables e below O t := go116
  have go118 : ∀ t, Steps p.tables e below (T111.setTop (mkF m 117 #[rv o0, iv p1, rv o0, iv p1, iv 1, rv o5, iv p6, iv 1, .val (.long c0_), .second, iv 1] [(.int c0_.toInt32)])) t → Steps p.tables e below O t := fun t k => go117 t (by
    refine XS.icmpYes X111.here hx rfl (pc0 := 10) (pc' := 65) rfl (hb hby d1_10) rfl (flt (by decide : ¬ ((1 : Int32) < (1 : Int32)))).2.1 (by decide) (by decide) ?_
    refine XS.iload X111.here hx rfl (hb hby d1_65) rfl ?_
    show Steps _ _ _ (T111.setTop (mkF m 67 _ [(.int 1)])) _
    refine XS.istore X111.here hx rfl (hb hby d1_67) rfl (l' := #[rv o0, iv p1, rv o0, iv p1, iv 1, rv o5, iv p6, iv 1, .val (.long c0_), .second, iv 1]) rfl ?_
    show Steps _ _ _ (T111.setTop (mkF m 69 _ [])) _
    refine XS.iload X111.here hx rfl (hb hby d1_69) rfl ?_
    refine XS.iload X111.here hx rfl (hb hby d1_71) rfl ?_
    show Steps _ _ _ (T111.setTop (mkF m 73 _ [(.int 1), (.int 1)])) _
    refine XS.icmpYes X111.here hx rfl (pc0 := 73) (pc' := 114) rfl (hb hby d1_73) rfl (flt (by decide : ¬ ((1 : Int32) < (1 : Int32)))).2.1 (by decide) (by decide) ?_
    refine XS.lload X111.here hx rfl (hb hby d1_114) rfl ?_
    show Steps _ _ _ (T111.setTop (mkF m 116 _ [(.long c0_)])) _
    refine XS.l2i X111.here hx rfl (hb hby d1_116) rfl ?_
    exact k)
  have hp : own_post (1 : Int32) (1 : Int32) xa xb ya yb c0_.toInt32 s0_.toInt32 (0 : Int32) := by
    subst hc0 hs0
    exact own_ar_11 xa xb ya yb (0 : Int32)
  rw [hO] at go118
  obtain ⟨fs, hr, hrun, hended, hW, hsame⟩ := X111.leave (v := some (.int c0_.toInt32)) (fun h => by rw [Bd.returns] at h; cases h)
  refine ⟨_, _, go118 _ ?_, hrun, hended, _, _, rfl, ?_, ⟨_, rfl⟩, hW, hsame.mono (by decide) (by decide)⟩
  · exact retI X111 hx Bd.returns (hb hby d1_117) hr
  · show Q_ai11 Z o0 p1 o5 p6 kz_ zs_ ky_ ys_ xa xb ya yb h0 n0 _ T111.heap _
    rw [e111]
    exact ⟨_, _, _, rfl, N111, hp, K114, own_put_1 hzO V111⟩
theorem ef_ai20 (m : MethodId) (x0 : Addr) (x1 : Int32) (x2 : Addr) (x3 : Int32) (x4 : Int32) (x5 : Addr) (x6 : Int32) (x7 : Int32) : entryFrame m #[(.ref x2), (.int x3), (.ref x2), (.int x3), (.int x4), (.ref x5), (.int x6), (.int x7)] 11 = mkF m 0 #[rv x2, iv x3, rv x2, iv x3, iv x4, rv x5, iv x6, iv x7, .unset, .unset, .unset] [] := by first | (simp [entryFrame, mkF, argsToLocals, Value.category]; done) | rfl
def Q_ai20 (Z : State) (o0 : Addr) (p1 : Int32) (o5 : Addr) (p6 : Int32) (kz_ : ClassId) (zs_ : List Value) (ky_ : ClassId) (ys_ : List Value) (xa : Int32) (xb : Int32) (ya : Int32) (yb : Int32) (h0 : Heap) (n0 : Nat) (v : Option Value) (h : Heap) (L : List Loc) : Prop := ∃ r u0 u1 : Int32, v = some (.int r) ∧ Fr n0 L ∧ own_post (2 : Int32) (0 : Int32) xa xb ya yb r u0 u1 ∧ Keep h0 h [o0] ∧ Arv Z h o0 kz_ .int (4 : Int32) (own_put (2 : Int32) p1 zs_ u0 u1) (.int (0 : Int32))
set_option maxRecDepth 65536 in
set_option maxHeartbeats 40000000 in
theorem rm_ai20 (l : Launch) (Z : State) (a0 : Array Value) (hw : ∀ d ∈ tables_1, d.before a0 Z = true) (ws : List Jvm.Cond) (o0 : Addr) (p1 : Int32) (o5 : Addr) (p6 : Int32) (kz_ : ClassId) (zs_ : List Value) (ky_ : ClassId) (ys_ : List Value) (xa : Int32) (xb : Int32) (ya : Int32) (yb : Int32) (h0 : Heap) (n0 : Nat) (Z0 : n0 ≤ h0.size) (ge_o0 : n0 ≤ o0) (V_o0 : Arv Z h0 o0 kz_ .int (4 : Int32) zs_ (.int (0 : Int32))) (V_o5 : Arv Z h0 o5 ky_ .int (4 : Int32) ys_ (.int (0 : Int32))) (ne_y : o5 ≠ o0) (hl : zs_.length = 4) (hzO : p1 = (0 : Int32) ∨ p1 = (1 : Int32)) (hyO : p6 = (0 : Int32) ∨ p6 = (1 : Int32)) (hxa : zs_.getD (p1 + (0 : Int32)).toNatClampNeg (.int (0 : Int32)) = .int xa) (hya : ys_.getD (p6 + (0 : Int32)).toNatClampNeg (.int (0 : Int32)) = .int ya) (hxb : zs_.getD (p1 + (1 : Int32)).toNatClampNeg (.int (0 : Int32)) = .int xb) (hyb : ys_.getD (p6 + (1 : Int32)).toNatClampNeg (.int (0 : Int32)) = .int yb) :
    MetFree l (⟨"com/example/limbwise/kernel/Words", "add", "([II[III[III)I"⟩ : MethodName) (head1 (Jvm.Cond.code (⟨"com/example/limbwise/kernel/Words", "add", "([II[III[III)I"⟩ : MethodName) prog_24_method_2_code 11 (some .int) :: ws) ({ frames := 0, cells := 0, slots := 0, locals := 0 } : Room)) (fun a U => a = #[(.ref o0), (.int p1), (.ref o0), (.int p1), (.int 2), (.ref o5), (.int p6), (.int 0)] ∧ Z.Warmed39 U.vm ∧ U.heap = h0) (fun _ _ _ _ _ => True) (fun _ U o U' => ∃ v L, o = .returned v ∧ Q_ai20 Z o0 p1 o5 p6 kz_ zs_ ky_ ys_ xa xb ya yb h0 n0 v U'.heap L ∧ FrameEnd U o U' L ({ frames := 0, cells := 0, slots := 0, locals := 0 } : Room).cells ({ frames := 0, cells := 0, slots := 0, locals := 0 } : Room).slots) := by
  refine MetFree.of_bodySF (plainFor_of_name pn_1) hisR ?_
  intro p e s m args below meth c s₁ Bd hml0 hP hK
  obtain ⟨rfl, hZ, hh⟩ := hP
  have hx := Bd.exec
  have hby := Bd.bytes
  have hml : c.maxLocals = 11 := hml0
  have hown : s.vm.findClass "com/example/limbwise/kernel/Words" = some m.cls := findClass_of_methodNamed Bd.named
  have hnm := (name_of_methodNamed Bd.named Bd.method).1
  have X0 : Stand p l e ({ frames := 0, cells := 0, slots := 0, locals := 0 } : Room) s m #[(.ref o0), (.int p1), (.ref o0), (.int p1), (.int 2), (.ref o5), (.int p6), (.int 0)] below meth c s₁ [] 0 0 := Stand.of_body Bd
  have e0 : s₁.heap = h0 := by rw [← hh, Bd.state]; rfl
  have N0 := Fr.nil n0
  have go0 : ∀ t, Steps p.tables e below (s₁.setTop (mkF m 0 #[rv o0, iv p1, rv o0, iv p1, iv 2, rv o5, iv p6, iv 0, .unset, .unset, .unset] [])) t → Steps p.tables e below (s₁.setTop (entryFrame m #[(.ref o0), (.int p1), (.ref o0), (.int p1), (.int 2), (.ref o5), (.int p6), (.int 0)] 11)) t := fun t k => castTop (ef_ai20 m o0 p1 o0 p1 (2 : Int32) o5 p6 (0 : Int32)) k
  obtain ⟨O, hO⟩ : ∃ z, z = (s₁.setTop (entryFrame m #[(.ref o0), (.int p1), (.ref o0), (.int p1), (.int 2), (.ref o5), (.int p6), (.int 0)] 11)) := ⟨_, rfl⟩
  rw [← hO] at go0
  have K101 := Keep.refl h0 [o0]
  obtain ⟨cl102, Ar102, q102, S102, M102, Hs102, G102⟩ := V_o0
  have f103 : Arv Z h0 o0 kz_ .int (4 : Int32) zs_ (.int 0) := ⟨cl102, Ar102, q102, S102, M102, Hs102, G102⟩
  have hin104 : ¬ ((p1 + (0 : Int32)) < 0 ∨ cl102.slots.size ≤ ((p1 + (0 : Int32))).toNatClampNeg) := inb_of S102 (own_in0 hzO)
  have hat104 : cl102.slots[((p1 + (0 : Int32))).toNatClampNeg]? = some (.int xa) := Hs102.at hin104 hxa
  have go105 : ∀ t, Steps p.tables e below (s₁.setTop (mkF m 92 #[rv o0, iv p1, rv o0, iv p1, iv 2, rv o5, iv p6, iv 0, .val (.long ((0 : Int64) + (xa.toInt64 &&& (4294967295 : Int64)))), .second, iv 0] [])) t → Steps p.tables e below O t := fun t k => go0 t (by
    refine XS.lconst X0.here hx rfl (hb hby d1_0) ?_
    refine XS.lstore X0.here hx rfl (hb hby d1_1) rfl (l' := #[rv o0, iv p1, rv o0, iv p1, iv 2, rv o5, iv p6, iv 0, .val (.long 0), .second, .unset]) rfl ?_
    show Steps _ _ _ (s₁.setTop (mkF m 3 _ [])) _
    refine XS.iconst X0.here hx rfl (hb hby d1_3) ?_
    refine XS.istore X0.here hx rfl (hb hby d1_4) rfl (l' := #[rv o0, iv p1, rv o0, iv p1, iv 2, rv o5, iv p6, iv 0, .val (.long 0), .second, iv 0]) rfl ?_
    show Steps _ _ _ (s₁.setTop (mkF m 6 _ [])) _
    refine XS.iload X0.here hx rfl (hb hby d1_6) rfl ?_
    refine XS.iload X0.here hx rfl (hb hby d1_8) rfl ?_
    show Steps _ _ _ (s₁.setTop (mkF m 10 _ [(.int 0), (.int 0)])) _
    refine XS.icmpYes X0.here hx rfl (pc0 := 10) (pc' := 65) rfl (hb hby d1_10) rfl (flt (by decide : ¬ ((0 : Int32) < (0 : Int32)))).2.1 (by decide) (by decide) ?_
    refine XS.iload X0.here hx rfl (hb hby d1_65) rfl ?_
    show Steps _ _ _ (s₁.setTop (mkF m 67 _ [(.int 0)])) _
    refine XS.istore X0.here hx rfl (hb hby d1_67) rfl (l' := #[rv o0, iv p1, rv o0, iv p1, iv 2, rv o5, iv p6, iv 0, .val (.long 0), .second, iv 0]) rfl ?_
    show Steps _ _ _ (s₁.setTop (mkF m 69 _ [])) _
    refine XS.iload X0.here hx rfl (hb hby d1_69) rfl ?_
    refine XS.iload X0.here hx rfl (hb hby d1_71) rfl ?_
    show Steps _ _ _ (s₁.setTop (mkF m 73 _ [(.int 2), (.int 0)])) _
    refine XS.icmpNo X0.here hx rfl (hb hby d1_73) rfl (tlt (by decide : (0 : Int32) < (2 : Int32))).2.1 ?_
    refine XS.lload X0.here hx rfl (hb hby d1_76) rfl ?_
    show Steps _ _ _ (s₁.setTop (mkF m 78 _ [(.long 0)])) _
    refine XS.aloadN X0.here hx rfl (hb hby d1_78) rfl rfl ?_
    refine XS.iloadN X0.here hx rfl (hb hby d1_79) rfl ?_
    show Steps _ _ _ (s₁.setTop (mkF m 80 _ [(.int p1), (.ref o0), (.long 0)])) _
    refine XS.iload X0.here hx rfl (hb hby d1_80) rfl ?_
    refine XS.iadd X0.here hx rfl (hb hby d1_82) rfl ?_
    show Steps _ _ _ (s₁.setTop (mkF m 83 _ [(.int (p1 + (0 : Int32))), (.ref o0), (.long 0)])) _
    refine X0.iaload hx (j := (p1 + (0 : Int32))) (v := (.int xa)) (by rw [e0]; exact Ar102.1) (State.isArrayOf_alike hZ.alike Ar102.2.1) Ar102.2.2 hin104 hat104 (g := (mkF m 83 #[rv o0, iv p1, rv o0, iv p1, iv 2, rv o5, iv p6, iv 0, .val (.long 0), .second, iv 0] [(.int (p1 + (0 : Int32))), (.ref o0), (.long 0)])) rfl rfl (hb hby d1_83) _ ?_
    refine XS.i2l X0.here hx rfl (hb hby d1_84) rfl ?_
    show Steps _ _ _ (s₁.setTop (mkF m 85 _ [(.long xa.toInt64), (.long 0)])) _
    refine X0.ldc2Long hx hown (mvT hZ (hw _ (List.mem_of_getElem? (i := 12) rfl))) (g := (mkF m 85 #[rv o0, iv p1, rv o0, iv p1, iv 2, rv o5, iv p6, iv 0, .val (.long 0), .second, iv 0] [(.long xa.toInt64), (.long 0)])) rfl (hb hby d1_85) _ ?_
    refine XS.land X0.here hx rfl (hb hby d1_88) rfl ?_
    show Steps _ _ _ (s₁.setTop (mkF m 89 _ [(.long (xa.toInt64 &&& (4294967295 : Int64))), (.long 0)])) _
    refine XS.ladd X0.here hx rfl (hb hby d1_89) rfl ?_
    show Steps _ _ _ (s₁.setTop (mkF m 90 #[rv o0, iv p1, rv o0, iv p1, iv 2, rv o5, iv p6, iv 0, .val (.long 0), .second, iv 0] [(.long ((0 : Int64) + (xa.toInt64 &&& (4294967295 : Int64))))])) _
    refine XS.lstore X0.here hx rfl (hb hby d1_90) rfl (l' := #[rv o0, iv p1, rv o0, iv p1, iv 2, rv o5, iv p6, iv 0, .val (.long ((0 : Int64) + (xa.toInt64 &&& (4294967295 : Int64)))), .second, iv 0]) rfl ?_
    show Steps _ _ _ (s₁.setTop (mkF m 92 _ [])) _
    exact k)
  obtain ⟨s0_, hs0⟩ : ∃ z : Int64, z = ((0 : Int64) + (xa.toInt64 &&& (4294967295 : Int64))) := ⟨_, rfl⟩
  rw [← hs0] at go105
  obtain ⟨cl106, Ar106, q106, S106, M106, Hs106, G106⟩ := f103
  have f107 : Arv Z h0 o0 kz_ .int (4 : Int32) zs_ (.int 0) := ⟨cl106, Ar106, q106, S106, M106, Hs106, G106⟩
  have hin108 : ¬ ((p1 + (0 : Int32)) < 0 ∨ cl106.slots.size ≤ ((p1 + (0 : Int32))).toNatClampNeg) := inb_of S106 (own_in0 hzO)
  obtain ⟨T108, h108, X108, e108, W108, st108⟩ := stI X0 hx hZ e0 Ar106 (j := (p1 + (0 : Int32))) hin108 (g := (mkF m 100 #[rv o0, iv p1, rv o0, iv p1, iv 2, rv o5, iv p6, iv 0, .val (.long s0_), .second, iv 0] [(.int s0_.toInt32), (.int (p1 + (0 : Int32))), (.ref o0)])) rfl rfl (hb hby d1_100)
  have f109 := V_o5.other W108 ne_y
  have Z110 := Nat.le_trans Z0 (Keep.of_wr W108).1
  have K111 := K101.wr W108 (Or.inl (List.mem_of_getElem? (i := 0) rfl))
  have V108 : Arv Z h108 o0 kz_ .int (4 : Int32) (zs_.set ((p1 + (0 : Int32))).toNatClampNeg (.int s0_.toInt32)) (.int 0) := Arv.set Ar106 q106 S106 M106 Hs106 G106 rfl W108 ((p1 + (0 : Int32))).toNatClampNeg rfl (own_ln0 hzO hl)
  have N108 := Fr.snoc X108 N0 ge_o0
  have go112 : ∀ t, Steps p.tables e below (T108.setTop (mkF m 108 #[rv o0, iv p1, rv o0, iv p1, iv 2, rv o5, iv p6, iv 0, .val (.long ((s0_.toUInt64 >>> ((32 : Int32) &&& 0x3f).toInt64.toUInt64).toInt64)), .second, iv 0] [])) t → Steps p.tables e below O t := fun t k => go105 t (by
    refine XS.aloadN X0.here hx rfl (hb hby d1_92) rfl rfl ?_
    refine XS.iloadN X0.here hx rfl (hb hby d1_93) rfl ?_
    show Steps _ _ _ (s₁.setTop (mkF m 94 _ [(.int p1), (.ref o0)])) _
    refine XS.iload X0.here hx rfl (hb hby d1_94) rfl ?_
    refine XS.iadd X0.here hx rfl (hb hby d1_96) rfl ?_
    show Steps _ _ _ (s₁.setTop (mkF m 97 _ [(.int (p1 + (0 : Int32))), (.ref o0)])) _
    refine XS.lload X0.here hx rfl (hb hby d1_97) rfl ?_
    refine XS.l2i X0.here hx rfl (hb hby d1_99) rfl ?_
    show Steps _ _ _ (s₁.setTop (mkF m 100 _ [(.int s0_.toInt32), (.int (p1 + (0 : Int32))), (.ref o0)])) _
    refine st108 _ ?_
    show Steps _ _ _ (T108.setTop (mkF m 101 _ [])) _
    refine XS.lload X108.here hx rfl (hb hby d1_101) rfl ?_
    refine XS.bipush X108.here hx rfl (hb hby d1_103) ?_
    show Steps _ _ _ (T108.setTop (mkF m 105 _ [(.int 32), (.long s0_)])) _
    refine XS.lushr X108.here hx rfl (hb hby d1_105) rfl ?_
    refine XS.lstore X108.here hx rfl (hb hby d1_106) rfl (l' := #[rv o0, iv p1, rv o0, iv p1, iv 2, rv o5, iv p6, iv 0, .val (.long ((s0_.toUInt64 >>> ((32 : Int32) &&& 0x3f).toInt64.toUInt64).toInt64)), .second, iv 0]) rfl ?_
    show Steps _ _ _ (T108.setTop (mkF m 108 _ [])) _
    exact k)
  obtain ⟨c0_, hc0⟩ : ∃ z : Int64, z = ((s0_.toUInt64 >>> ((32 : Int32) &&& 0x3f).toInt64.toUInt64).toInt64) := ⟨_, rfl⟩
  rw [← hc0] at go112
  have go113 : ∀ t, Steps p.tables e below (T108.setTop (mkF m 73 #[rv o0, iv p1, rv o0, iv p1, iv 2, rv o5, iv p6, iv 0, .val (.long c0_), .second, iv ((0 : Int32) + (1 : Int32))] [(.int 2), (.int ((0 : Int32) + (1 : Int32)))])) t → Steps p.tables e below O t := fun t k => go112 t (by
    refine XS.iinc X108.here hx rfl (hb hby d1_108) rfl (l' := #[rv o0, iv p1, rv o0, iv p1, iv 2, rv o5, iv p6, iv 0, .val (.long c0_), .second, iv ((0 : Int32) + (1 : Int32))]) rfl ?_
    show Steps _ _ _ (T108.setTop (mkF m 111 _ [])) _
    refine XS.goto X108.here hx rfl (pc0 := 111) (pc' := 69) rfl (hb hby d1_111) (by decide) (by decide) ?_
    refine XS.iload X108.here hx rfl (hb hby d1_69) rfl ?_
    show Steps _ _ _ (T108.setTop (mkF m 71 _ [(.int ((0 : Int32) + (1 : Int32)))])) _
    refine XS.iload X108.here hx rfl (hb hby d1_71) rfl ?_
    exact k)
  have go114 : ∀ t, Steps p.tables e below (T108.setTop (mkF m 73 #[rv o0, iv p1, rv o0, iv p1, iv 2, rv o5, iv p6, iv 0, .val (.long c0_), .second, iv 1] [(.int 2), (.int ((0 : Int32) + (1 : Int32)))])) t → Steps p.tables e below O t := go113
  obtain ⟨cl115, Ar115, q115, S115, M115, Hs115, G115⟩ := V108
  have f116 : Arv Z h108 o0 kz_ .int (4 : Int32) (zs_.set ((p1 + (0 : Int32))).toNatClampNeg (.int s0_.toInt32)) (.int 0) := ⟨cl115, Ar115, q115, S115, M115, Hs115, G115⟩
  have hin117 : ¬ ((p1 + (1 : Int32)) < 0 ∨ cl115.slots.size ≤ ((p1 + (1 : Int32))).toNatClampNeg) := inb_of S115 (own_in1 hzO)
  have hat117 : cl115.slots[((p1 + (1 : Int32))).toNatClampNeg]? = some (.int xb) := Hs115.at hin117 (own_get_set hzO hxb)
  have go118 : ∀ t, Steps p.tables e below (T108.setTop (mkF m 92 #[rv o0, iv p1, rv o0, iv p1, iv 2, rv o5, iv p6, iv 0, .val (.long (c0_ + (xb.toInt64 &&& (4294967295 : Int64)))), .second, iv 1] [])) t → Steps p.tables e below O t := fun t k => go114 t (by
    refine XS.icmpNo X108.here hx rfl (hb hby d1_73) rfl (tlt (by decide : (1 : Int32) < (2 : Int32))).2.1 ?_
    refine XS.lload X108.here hx rfl (hb hby d1_76) rfl ?_
    show Steps _ _ _ (T108.setTop (mkF m 78 _ [(.long c0_)])) _
    refine XS.aloadN X108.here hx rfl (hb hby d1_78) rfl rfl ?_
    refine XS.iloadN X108.here hx rfl (hb hby d1_79) rfl ?_
    show Steps _ _ _ (T108.setTop (mkF m 80 _ [(.int p1), (.ref o0), (.long c0_)])) _
    refine XS.iload X108.here hx rfl (hb hby d1_80) rfl ?_
    refine XS.iadd X108.here hx rfl (hb hby d1_82) rfl ?_
    show Steps _ _ _ (T108.setTop (mkF m 83 _ [(.int (p1 + (1 : Int32))), (.ref o0), (.long c0_)])) _
    refine X108.iaload hx (j := (p1 + (1 : Int32))) (v := (.int xb)) (by rw [e108]; exact Ar115.1) (State.isArrayOf_alike hZ.alike Ar115.2.1) Ar115.2.2 hin117 hat117 (g := (mkF m 83 #[rv o0, iv p1, rv o0, iv p1, iv 2, rv o5, iv p6, iv 0, .val (.long c0_), .second, iv 1] [(.int (p1 + (1 : Int32))), (.ref o0), (.long c0_)])) rfl rfl (hb hby d1_83) _ ?_
    refine XS.i2l X108.here hx rfl (hb hby d1_84) rfl ?_
    show Steps _ _ _ (T108.setTop (mkF m 85 _ [(.long xb.toInt64), (.long c0_)])) _
    refine X108.ldc2Long hx hown (mvT hZ (hw _ (List.mem_of_getElem? (i := 12) rfl))) (g := (mkF m 85 #[rv o0, iv p1, rv o0, iv p1, iv 2, rv o5, iv p6, iv 0, .val (.long c0_), .second, iv 1] [(.long xb.toInt64), (.long c0_)])) rfl (hb hby d1_85) _ ?_
    refine XS.land X108.here hx rfl (hb hby d1_88) rfl ?_
    show Steps _ _ _ (T108.setTop (mkF m 89 _ [(.long (xb.toInt64 &&& (4294967295 : Int64))), (.long c0_)])) _
    refine XS.ladd X108.here hx rfl (hb hby d1_89) rfl ?_
    refine XS.lstore X108.here hx rfl (hb hby d1_90) rfl (l' := #[rv o0, iv p1, rv o0, iv p1, iv 2, rv o5, iv p6, iv 0, .val (.long (c0_ + (xb.toInt64 &&& (4294967295 : Int64)))), .second, iv 1]) rfl ?_
    show Steps _ _ _ (T108.setTop (mkF m 92 _ [])) _
    exact k)
  obtain ⟨s1_, hs1⟩ : ∃ z : Int64, z = (c0_ + (xb.toInt64 &&& (4294967295 : Int64))) := ⟨_, rfl⟩
  rw [← hs1] at go118
  obtain ⟨cl119, Ar119, q119, S119, M119, Hs119, G119⟩ := f116
  have f120 : Arv Z h108 o0 kz_ .int (4 : Int32) (zs_.set ((p1 + (0 : Int32))).toNatClampNeg (.int s0_.toInt32)) (.int 0) := ⟨cl119, Ar119, q119, S119, M119, Hs119, G119⟩
  have hin121 : ¬ ((p1 + (1 : Int32)) < 0 ∨ cl119.slots.size ≤ ((p1 + (1 : Int32))).toNatClampNeg) := inb_of S119 (own_in1 hzO)
  obtain ⟨T121, h121, X121, e121, W121, st121⟩ := stI X108 hx hZ e108 Ar119 (j := (p1 + (1 : Int32))) hin121 (g := (mkF m 100 #[rv o0, iv p1, rv o0, iv p1, iv 2, rv o5, iv p6, iv 0, .val (.long s1_), .second, iv 1] [(.int s1_.toInt32), (.int (p1 + (1 : Int32))), (.ref o0)])) rfl rfl (hb hby d1_100)
  have f122 := f109.other W121 ne_y
  have Z123 := Nat.le_trans Z110 (Keep.of_wr W121).1
  have K124 := K111.wr W121 (Or.inl (List.mem_of_getElem? (i := 0) rfl))
  have V121 : Arv Z h121 o0 kz_ .int (4 : Int32) ((zs_.set ((p1 + (0 : Int32))).toNatClampNeg (.int s0_.toInt32)).set ((p1 + (1 : Int32))).toNatClampNeg (.int s1_.toInt32)) (.int 0) := Arv.set Ar119 q119 S119 M119 Hs119 G119 rfl W121 ((p1 + (1 : Int32))).toNatClampNeg rfl (own_ln1 hzO ((List.length_set ..).trans hl))
  have N121 := Fr.snoc X121 N108 ge_o0
  have go125 : ∀ t, Steps p.tables e below (T121.setTop (mkF m 108 #[rv o0, iv p1, rv o0, iv p1, iv 2, rv o5, iv p6, iv 0, .val (.long ((s1_.toUInt64 >>> ((32 : Int32) &&& 0x3f).toInt64.toUInt64).toInt64)), .second, iv 1] [])) t → Steps p.tables e below O t := fun t k => go118 t (by
    refine XS.aloadN X108.here hx rfl (hb hby d1_92) rfl rfl ?_
    refine XS.iloadN X108.here hx rfl (hb hby d1_93) rfl ?_
    show Steps _ _ _ (T108.setTop (mkF m 94 _ [(.int p1), (.ref o0)])) _
    refine XS.iload X108.here hx rfl (hb hby d1_94) rfl ?_
    refine XS.iadd X108.here hx rfl (hb hby d1_96) rfl ?_
    show Steps _ _ _ (T108.setTop (mkF m 97 _ [(.int (p1 + (1 : Int32))), (.ref o0)])) _
    refine XS.lload X108.here hx rfl (hb hby d1_97) rfl ?_
    refine XS.l2i X108.here hx rfl (hb hby d1_99) rfl ?_
    show Steps _ _ _ (T108.setTop (mkF m 100 _ [(.int s1_.toInt32), (.int (p1 + (1 : Int32))), (.ref o0)])) _
    refine st121 _ ?_
    show Steps _ _ _ (T121.setTop (mkF m 101 _ [])) _
    refine XS.lload X121.here hx rfl (hb hby d1_101) rfl ?_
    refine XS.bipush X121.here hx rfl (hb hby d1_103) ?_
    show Steps _ _ _ (T121.setTop (mkF m 105 _ [(.int 32), (.long s1_)])) _
    refine XS.lushr X121.here hx rfl (hb hby d1_105) rfl ?_
    refine XS.lstore X121.here hx rfl (hb hby d1_106) rfl (l' := #[rv o0, iv p1, rv o0, iv p1, iv 2, rv o5, iv p6, iv 0, .val (.long ((s1_.toUInt64 >>> ((32 : Int32) &&& 0x3f).toInt64.toUInt64).toInt64)), .second, iv 1]) rfl ?_
    show Steps _ _ _ (T121.setTop (mkF m 108 _ [])) _
    exact k)
  obtain ⟨c1_, hc1⟩ : ∃ z : Int64, z = ((s1_.toUInt64 >>> ((32 : Int32) &&& 0x3f).toInt64.toUInt64).toInt64) := ⟨_, rfl⟩
  rw [← hc1] at go125
  have go126 : ∀ t, Steps p.tables e below (T121.setTop (mkF m 73 #[rv o0, iv p1, rv o0, iv p1, iv 2, rv o5, iv p6, iv 0, .val (.long c1_), .second, iv ((1 : Int32) + (1 : Int32))] [(.int 2), (.int ((1 : Int32) + (1 : Int32)))])) t → Steps p.tables e below O t := fun t k => go125 t (by
    refine XS.iinc X121.here hx rfl (hb hby d1_108) rfl (l' := #[rv o0, iv p1, rv o0, iv p1, iv 2, rv o5, iv p6, iv 0, .val (.long c1_), .second, iv ((1 : Int32) + (1 : Int32))]) rfl ?_
    show Steps _ _ _ (T121.setTop (mkF m 111 _ [])) _
    refine XS.goto X121.here hx rfl (pc0 := 111) (pc' := 69) rfl (hb hby d1_111) (by decide) (by decide) ?_
    refine XS.iload X121.here hx rfl (hb hby d1_69) rfl ?_
    show Steps _ _ _ (T121.setTop (mkF m 71 _ [(.int ((1 : Int32) + (1 : Int32)))])) _
    refine XS.iload X121.here hx rfl (hb hby d1_71) rfl ?_
    exact k)
  have go127 : ∀ t, Steps p.tables e below (T121.setTop (mkF m 73 #[rv o0, iv p1, rv o0, iv p1, iv 2, rv o5, iv p6, iv 0, .val (.long c1_), .second, iv 2] [(.int 2), (.int ((1 : Int32) + (1 : Int32)))])) t → Steps p.tables e below O t := go126
  have go128 : ∀ t, Steps p.tables e below (T121.setTop (mkF m 117 #[rv o0, iv p1, rv o0, iv p1, iv 2, rv o5, iv p6, iv 0, .val (.long c1_), .second, iv 2] [(.int c1_.toInt32)])) t → Steps p.tables e below O t := fun t k => go127 t (by
    refine XS.icmpYes X121.here hx rfl (pc0 := 73) (pc' := 114) rfl (hb hby d1_73) rfl (flt (by decide : ¬ ((2 : Int32) < (2 : Int32)))).2.1 (by decide) (by decide) ?_
    refine XS.lload X121.here hx rfl (hb hby d1_114) rfl ?_
    show Steps _ _ _ (T121.setTop (mkF m 116 _ [(.long c1_)])) _
    refine XS.l2i X121.here hx rfl (hb hby d1_116) rfl ?_
    exact k)
  have hp : own_post (2 : Int32) (0 : Int32) xa xb ya yb c1_.toInt32 s0_.toInt32 s1_.toInt32 := by
    subst hc1 hs1 hc0 hs0
    exact own_ar_20 xa xb ya yb
  rw [hO] at go128
  obtain ⟨fs, hr, hrun, hended, hW, hsame⟩ := X121.leave (v := some (.int c1_.toInt32)) (fun h => by rw [Bd.returns] at h; cases h)
  refine ⟨_, _, go128 _ ?_, hrun, hended, _, _, rfl, ?_, ⟨_, rfl⟩, hW, hsame.mono (by decide) (by decide)⟩
  · exact retI X121 hx Bd.returns (hb hby d1_117) hr
  · show Q_ai20 Z o0 p1 o5 p6 kz_ zs_ ky_ ys_ xa xb ya yb h0 n0 _ T121.heap _
    rw [e121]
    exact ⟨_, _, _, rfl, N121, hp, K124, own_put_2 hzO V121⟩
theorem ef_ai21 (m : MethodId) (x0 : Addr) (x1 : Int32) (x2 : Addr) (x3 : Int32) (x4 : Int32) (x5 : Addr) (x6 : Int32) (x7 : Int32) : entryFrame m #[(.ref x2), (.int x3), (.ref x2), (.int x3), (.int x4), (.ref x5), (.int x6), (.int x7)] 11 = mkF m 0 #[rv x2, iv x3, rv x2, iv x3, iv x4, rv x5, iv x6, iv x7, .unset, .unset, .unset] [] := by first | (simp [entryFrame, mkF, argsToLocals, Value.category]; done) | rfl
def Q_ai21 (Z : State) (o0 : Addr) (p1 : Int32) (o5 : Addr) (p6 : Int32) (kz_ : ClassId) (zs_ : List Value) (ky_ : ClassId) (ys_ : List Value) (xa : Int32) (xb : Int32) (ya : Int32) (yb : Int32) (h0 : Heap) (n0 : Nat) (v : Option Value) (h : Heap) (L : List Loc) : Prop := ∃ r u0 u1 : Int32, v = some (.int r) ∧ Fr n0 L ∧ own_post (2 : Int32) (1 : Int32) xa xb ya yb r u0 u1 ∧ Keep h0 h [o0] ∧ Arv Z h o0 kz_ .int (4 : Int32) (own_put (2 : Int32) p1 zs_ u0 u1) (.int (0 : Int32))
set_option maxRecDepth 65536 in
set_option maxHeartbeats 40000000 in
theorem rm_ai21 (l : Launch) (Z : State) (a0 : Array Value) (hw : ∀ d ∈ tables_1, d.before a0 Z = true) (ws : List Jvm.Cond) (o0 : Addr) (p1 : Int32) (o5 : Addr) (p6 : Int32) (kz_ : ClassId) (zs_ : List Value) (ky_ : ClassId) (ys_ : List Value) (xa : Int32) (xb : Int32) (ya : Int32) (yb : Int32) (h0 : Heap) (n0 : Nat) (Z0 : n0 ≤ h0.size) (ge_o0 : n0 ≤ o0) (V_o0 : Arv Z h0 o0 kz_ .int (4 : Int32) zs_ (.int (0 : Int32))) (V_o5 : Arv Z h0 o5 ky_ .int (4 : Int32) ys_ (.int (0 : Int32))) (ne_y : o5 ≠ o0) (hl : zs_.length = 4) (hzO : p1 = (0 : Int32) ∨ p1 = (1 : Int32)) (hyO : p6 = (0 : Int32) ∨ p6 = (1 : Int32)) (hxa : zs_.getD (p1 + (0 : Int32)).toNatClampNeg (.int (0 : Int32)) = .int xa) (hya : ys_.getD (p6 + (0 : Int32)).toNatClampNeg (.int (0 : Int32)) = .int ya) (hxb : zs_.getD (p1 + (1 : Int32)).toNatClampNeg (.int (0 : Int32)) = .int xb) (hyb : ys_.getD (p6 + (1 : Int32)).toNatClampNeg (.int (0 : Int32)) = .int yb) :
    MetFree l (⟨"com/example/limbwise/kernel/Words", "add", "([II[III[III)I"⟩ : MethodName) (head1 (Jvm.Cond.code (⟨"com/example/limbwise/kernel/Words", "add", "([II[III[III)I"⟩ : MethodName) prog_24_method_2_code 11 (some .int) :: ws) ({ frames := 0, cells := 0, slots := 0, locals := 0 } : Room)) (fun a U => a = #[(.ref o0), (.int p1), (.ref o0), (.int p1), (.int 2), (.ref o5), (.int p6), (.int 1)] ∧ Z.Warmed39 U.vm ∧ U.heap = h0) (fun _ _ _ _ _ => True) (fun _ U o U' => ∃ v L, o = .returned v ∧ Q_ai21 Z o0 p1 o5 p6 kz_ zs_ ky_ ys_ xa xb ya yb h0 n0 v U'.heap L ∧ FrameEnd U o U' L ({ frames := 0, cells := 0, slots := 0, locals := 0 } : Room).cells ({ frames := 0, cells := 0, slots := 0, locals := 0 } : Room).slots) := by
  refine MetFree.of_bodySF (plainFor_of_name pn_1) hisR ?_
  intro p e s m args below meth c s₁ Bd hml0 hP hK
  obtain ⟨rfl, hZ, hh⟩ := hP
  have hx := Bd.exec
  have hby := Bd.bytes
  have hml : c.maxLocals = 11 := hml0
  have hown : s.vm.findClass "com/example/limbwise/kernel/Words" = some m.cls := findClass_of_methodNamed Bd.named
  have hnm := (name_of_methodNamed Bd.named Bd.method).1
  have X0 : Stand p l e ({ frames := 0, cells := 0, slots := 0, locals := 0 } : Room) s m #[(.ref o0), (.int p1), (.ref o0), (.int p1), (.int 2), (.ref o5), (.int p6), (.int 1)] below meth c s₁ [] 0 0 := Stand.of_body Bd
  have e0 : s₁.heap = h0 := by rw [← hh, Bd.state]; rfl
  have N0 := Fr.nil n0
  have go0 : ∀ t, Steps p.tables e below (s₁.setTop (mkF m 0 #[rv o0, iv p1, rv o0, iv p1, iv 2, rv o5, iv p6, iv 1, .unset, .unset, .unset] [])) t → Steps p.tables e below (s₁.setTop (entryFrame m #[(.ref o0), (.int p1), (.ref o0), (.int p1), (.int 2), (.ref o5), (.int p6), (.int 1)] 11)) t := fun t k => castTop (ef_ai21 m o0 p1 o0 p1 (2 : Int32) o5 p6 (1 : Int32)) k
  obtain ⟨O, hO⟩ : ∃ z, z = (s₁.setTop (entryFrame m #[(.ref o0), (.int p1), (.ref o0), (.int p1), (.int 2), (.ref o5), (.int p6), (.int 1)] 11)) := ⟨_, rfl⟩
  rw [← hO] at go0
  have K101 := Keep.refl h0 [o0]
  obtain ⟨cl102, Ar102, q102, S102, M102, Hs102, G102⟩ := V_o0
  have f103 : Arv Z h0 o0 kz_ .int (4 : Int32) zs_ (.int 0) := ⟨cl102, Ar102, q102, S102, M102, Hs102, G102⟩
  have hin104 : ¬ ((p1 + (0 : Int32)) < 0 ∨ cl102.slots.size ≤ ((p1 + (0 : Int32))).toNatClampNeg) := inb_of S102 (own_in0 hzO)
  have hat104 : cl102.slots[((p1 + (0 : Int32))).toNatClampNeg]? = some (.int xa) := Hs102.at hin104 hxa
  obtain ⟨cl105, Ar105, q105, S105, M105, Hs105, G105⟩ := V_o5
  have f106 : Arv Z h0 o5 ky_ .int (4 : Int32) ys_ (.int 0) := ⟨cl105, Ar105, q105, S105, M105, Hs105, G105⟩
  have hin107 : ¬ ((p6 + (0 : Int32)) < 0 ∨ cl105.slots.size ≤ ((p6 + (0 : Int32))).toNatClampNeg) := inb_of S105 (own_in0 hyO)
  have hat107 : cl105.slots[((p6 + (0 : Int32))).toNatClampNeg]? = some (.int ya) := Hs105.at hin107 hya
  have go108 : ∀ t, Steps p.tables e below (s₁.setTop (mkF m 43 #[rv o0, iv p1, rv o0, iv p1, iv 2, rv o5, iv p6, iv 1, .val (.long ((0 : Int64) + ((xa.toInt64 &&& (4294967295 : Int64)) + (ya.toInt64 &&& (4294967295 : Int64))))), .second, iv 0] [])) t → Steps p.tables e below O t := fun t k => go0 t (by
    refine XS.lconst X0.here hx rfl (hb hby d1_0) ?_
    refine XS.lstore X0.here hx rfl (hb hby d1_1) rfl (l' := #[rv o0, iv p1, rv o0, iv p1, iv 2, rv o5, iv p6, iv 1, .val (.long 0), .second, .unset]) rfl ?_
    show Steps _ _ _ (s₁.setTop (mkF m 3 _ [])) _
    refine XS.iconst X0.here hx rfl (hb hby d1_3) ?_
    refine XS.istore X0.here hx rfl (hb hby d1_4) rfl (l' := #[rv o0, iv p1, rv o0, iv p1, iv 2, rv o5, iv p6, iv 1, .val (.long 0), .second, iv 0]) rfl ?_
    show Steps _ _ _ (s₁.setTop (mkF m 6 _ [])) _
    refine XS.iload X0.here hx rfl (hb hby d1_6) rfl ?_
    refine XS.iload X0.here hx rfl (hb hby d1_8) rfl ?_
    show Steps _ _ _ (s₁.setTop (mkF m 10 _ [(.int 1), (.int 0)])) _
    refine XS.icmpNo X0.here hx rfl (hb hby d1_10) rfl (tlt (by decide : (0 : Int32) < (1 : Int32))).2.1 ?_
    refine XS.lload X0.here hx rfl (hb hby d1_13) rfl ?_
    show Steps _ _ _ (s₁.setTop (mkF m 15 _ [(.long 0)])) _
    refine XS.aloadN X0.here hx rfl (hb hby d1_15) rfl rfl ?_
    refine XS.iloadN X0.here hx rfl (hb hby d1_16) rfl ?_
    show Steps _ _ _ (s₁.setTop (mkF m 17 _ [(.int p1), (.ref o0), (.long 0)])) _
    refine XS.iload X0.here hx rfl (hb hby d1_17) rfl ?_
    refine XS.iadd X0.here hx rfl (hb hby d1_19) rfl ?_
    show Steps _ _ _ (s₁.setTop (mkF m 20 _ [(.int (p1 + (0 : Int32))), (.ref o0), (.long 0)])) _
    refine X0.iaload hx (j := (p1 + (0 : Int32))) (v := (.int xa)) (by rw [e0]; exact Ar102.1) (State.isArrayOf_alike hZ.alike Ar102.2.1) Ar102.2.2 hin104 hat104 (g := (mkF m 20 #[rv o0, iv p1, rv o0, iv p1, iv 2, rv o5, iv p6, iv 1, .val (.long 0), .second, iv 0] [(.int (p1 + (0 : Int32))), (.ref o0), (.long 0)])) rfl rfl (hb hby d1_20) _ ?_
    refine XS.i2l X0.here hx rfl (hb hby d1_21) rfl ?_
    show Steps _ _ _ (s₁.setTop (mkF m 22 _ [(.long xa.toInt64), (.long 0)])) _
    refine X0.ldc2Long hx hown (mvT hZ (hw _ (List.mem_of_getElem? (i := 12) rfl))) (g := (mkF m 22 #[rv o0, iv p1, rv o0, iv p1, iv 2, rv o5, iv p6, iv 1, .val (.long 0), .second, iv 0] [(.long xa.toInt64), (.long 0)])) rfl (hb hby d1_22) _ ?_
    refine XS.land X0.here hx rfl (hb hby d1_25) rfl ?_
    show Steps _ _ _ (s₁.setTop (mkF m 26 _ [(.long (xa.toInt64 &&& (4294967295 : Int64))), (.long 0)])) _
    refine XS.aload X0.here hx rfl (hb hby d1_26) rfl rfl ?_
    show Steps _ _ _ (s₁.setTop (mkF m 28 #[rv o0, iv p1, rv o0, iv p1, iv 2, rv o5, iv p6, iv 1, .val (.long 0), .second, iv 0] [(.ref o5), (.long (xa.toInt64 &&& (4294967295 : Int64))), (.long 0)])) _
    refine XS.iload X0.here hx rfl (hb hby d1_28) rfl ?_
    refine XS.iload X0.here hx rfl (hb hby d1_30) rfl ?_
    show Steps _ _ _ (s₁.setTop (mkF m 32 _ [(.int 0), (.int p6), (.ref o5), (.long (xa.toInt64 &&& (4294967295 : Int64))), (.long 0)])) _
    refine XS.iadd X0.here hx rfl (hb hby d1_32) rfl ?_
    refine X0.iaload hx (j := (p6 + (0 : Int32))) (v := (.int ya)) (by rw [e0]; exact Ar105.1) (State.isArrayOf_alike hZ.alike Ar105.2.1) Ar105.2.2 hin107 hat107 (g := (mkF m 33 #[rv o0, iv p1, rv o0, iv p1, iv 2, rv o5, iv p6, iv 1, .val (.long 0), .second, iv 0] [(.int (p6 + (0 : Int32))), (.ref o5), (.long (xa.toInt64 &&& (4294967295 : Int64))), (.long 0)])) rfl rfl (hb hby d1_33) _ ?_
    show Steps _ _ _ (s₁.setTop (mkF m 34 _ [(.int ya), (.long (xa.toInt64 &&& (4294967295 : Int64))), (.long 0)])) _
    refine XS.i2l X0.here hx rfl (hb hby d1_34) rfl ?_
    refine X0.ldc2Long hx hown (mvT hZ (hw _ (List.mem_of_getElem? (i := 12) rfl))) (g := (mkF m 35 #[rv o0, iv p1, rv o0, iv p1, iv 2, rv o5, iv p6, iv 1, .val (.long 0), .second, iv 0] [(.long ya.toInt64), (.long (xa.toInt64 &&& (4294967295 : Int64))), (.long 0)])) rfl (hb hby d1_35) _ ?_
    show Steps _ _ _ (s₁.setTop (mkF m 38 _ [(.long 4294967295), (.long ya.toInt64), (.long (xa.toInt64 &&& (4294967295 : Int64))), (.long 0)])) _
    refine XS.land X0.here hx rfl (hb hby d1_38) rfl ?_
    refine XS.ladd X0.here hx rfl (hb hby d1_39) rfl ?_
    show Steps _ _ _ (s₁.setTop (mkF m 40 _ [(.long ((xa.toInt64 &&& (4294967295 : Int64)) + (ya.toInt64 &&& (4294967295 : Int64)))), (.long 0)])) _
    refine XS.ladd X0.here hx rfl (hb hby d1_40) rfl ?_
    refine XS.lstore X0.here hx rfl (hb hby d1_41) rfl (l' := #[rv o0, iv p1, rv o0, iv p1, iv 2, rv o5, iv p6, iv 1, .val (.long ((0 : Int64) + ((xa.toInt64 &&& (4294967295 : Int64)) + (ya.toInt64 &&& (4294967295 : Int64))))), .second, iv 0]) rfl ?_
    show Steps _ _ _ (s₁.setTop (mkF m 43 _ [])) _
    exact k)
  obtain ⟨s0_, hs0⟩ : ∃ z : Int64, z = ((0 : Int64) + ((xa.toInt64 &&& (4294967295 : Int64)) + (ya.toInt64 &&& (4294967295 : Int64)))) := ⟨_, rfl⟩
  rw [← hs0] at go108
  obtain ⟨cl109, Ar109, q109, S109, M109, Hs109, G109⟩ := f103
  have f110 : Arv Z h0 o0 kz_ .int (4 : Int32) zs_ (.int 0) := ⟨cl109, Ar109, q109, S109, M109, Hs109, G109⟩
  have hin111 : ¬ ((p1 + (0 : Int32)) < 0 ∨ cl109.slots.size ≤ ((p1 + (0 : Int32))).toNatClampNeg) := inb_of S109 (own_in0 hzO)
  obtain ⟨T111, h111, X111, e111, W111, st111⟩ := stI X0 hx hZ e0 Ar109 (j := (p1 + (0 : Int32))) hin111 (g := (mkF m 51 #[rv o0, iv p1, rv o0, iv p1, iv 2, rv o5, iv p6, iv 1, .val (.long s0_), .second, iv 0] [(.int s0_.toInt32), (.int (p1 + (0 : Int32))), (.ref o0)])) rfl rfl (hb hby d1_51)
  have f112 := f106.other W111 ne_y
  have Z113 := Nat.le_trans Z0 (Keep.of_wr W111).1
  have K114 := K101.wr W111 (Or.inl (List.mem_of_getElem? (i := 0) rfl))
  have V111 : Arv Z h111 o0 kz_ .int (4 : Int32) (zs_.set ((p1 + (0 : Int32))).toNatClampNeg (.int s0_.toInt32)) (.int 0) := Arv.set Ar109 q109 S109 M109 Hs109 G109 rfl W111 ((p1 + (0 : Int32))).toNatClampNeg rfl (own_ln0 hzO hl)
  have N111 := Fr.snoc X111 N0 ge_o0
  have go115 : ∀ t, Steps p.tables e below (T111.setTop (mkF m 59 #[rv o0, iv p1, rv o0, iv p1, iv 2, rv o5, iv p6, iv 1, .val (.long ((s0_.toUInt64 >>> ((32 : Int32) &&& 0x3f).toInt64.toUInt64).toInt64)), .second, iv 0] [])) t → Steps p.tables e below O t := fun t k => go108 t (by
    refine XS.aloadN X0.here hx rfl (hb hby d1_43) rfl rfl ?_
    refine XS.iloadN X0.here hx rfl (hb hby d1_44) rfl ?_
    show Steps _ _ _ (s₁.setTop (mkF m 45 _ [(.int p1), (.ref o0)])) _
    refine XS.iload X0.here hx rfl (hb hby d1_45) rfl ?_
    refine XS.iadd X0.here hx rfl (hb hby d1_47) rfl ?_
    show Steps _ _ _ (s₁.setTop (mkF m 48 _ [(.int (p1 + (0 : Int32))), (.ref o0)])) _
    refine XS.lload X0.here hx rfl (hb hby d1_48) rfl ?_
    refine XS.l2i X0.here hx rfl (hb hby d1_50) rfl ?_
    show Steps _ _ _ (s₁.setTop (mkF m 51 _ [(.int s0_.toInt32), (.int (p1 + (0 : Int32))), (.ref o0)])) _
    refine st111 _ ?_
    show Steps _ _ _ (T111.setTop (mkF m 52 _ [])) _
    refine XS.lload X111.here hx rfl (hb hby d1_52) rfl ?_
    refine XS.bipush X111.here hx rfl (hb hby d1_54) ?_
    show Steps _ _ _ (T111.setTop (mkF m 56 _ [(.int 32), (.long s0_)])) _
    refine XS.lushr X111.here hx rfl (hb hby d1_56) rfl ?_
    refine XS.lstore X111.here hx rfl (hb hby d1_57) rfl (l' := #[rv o0, iv p1, rv o0, iv p1, iv 2, rv o5, iv p6, iv 1, .val (.long ((s0_.toUInt64 >>> ((32 : Int32) &&& 0x3f).toInt64.toUInt64).toInt64)), .second, iv 0]) rfl ?_
    show Steps _ _ _ (T111.setTop (mkF m 59 _ [])) _
    exact k)
  obtain ⟨c0_, hc0⟩ : ∃ z : Int64, z = ((s0_.toUInt64 >>> ((32 : Int32) &&& 0x3f).toInt64.toUInt64).toInt64) := ⟨_, rfl⟩
  rw [← hc0] at go115
  have go116 : ∀ t, Steps p.tables e below (T111.setTop (mkF m 10 #[rv o0, iv p1, rv o0, iv p1, iv 2, rv o5, iv p6, iv 1, .val (.long c0_), .second, iv ((0 : Int32) + (1 : Int32))] [(.int 1), (.int ((0 : Int32) + (1 : Int32)))])) t → Steps p.tables e below O t := fun t k => go115 t (by
    refine XS.iinc X111.here hx rfl (hb hby d1_59) rfl (l' := #[rv o0, iv p1, rv o0, iv p1, iv 2, rv o5, iv p6, iv 1, .val (.long c0_), .second, iv ((0 : Int32) + (1 : Int32))]) rfl ?_
    show Steps _ _ _ (T111.setTop (mkF m 62 _ [])) _
    refine XS.goto X111.here hx rfl (pc0 := 62) (pc' := 6) rfl (hb hby d1_62) (by decide) (by decide) ?_
    refine XS.iload X111.here hx rfl (hb hby d1_6) rfl ?_
    show Steps _ _ _ (T111.setTop (mkF m 8 _ [(.int ((0 : Int32) + (1 : Int32)))])) _
    refine XS.iload X111.here hx rfl (hb hby d1_8) rfl ?_
    exact k)
  have go117 : ∀ t, Steps p.tables e below (T111.setTop (mkF m 10 #[rv o0, iv p1, rv o0, iv p1, iv 2, rv o5, iv p6, iv 1, .val (.long c0_), .second, iv 1] [(.int 1), (.int ((0 : Int32) + (1 : Int32)))])) t → Steps p.tables e below O t := go116
  obtain ⟨cl118, Ar118, q118, S118, M118, Hs118, G118⟩ := V111
  have f119 : Arv Z h111 o0 kz_ .int (4 : Int32) (zs_.set ((p1 + (0 : Int32))).toNatClampNeg (.int s0_.toInt32)) (.int 0) := ⟨cl118, Ar118, q118, S118, M118, Hs118, G118⟩
  have hin120 : ¬ ((p1 + (1 : Int32)) < 0 ∨ cl118.slots.size ≤ ((p1 + (1 : Int32))).toNatClampNeg) := inb_of S118 (own_in1 hzO)
  have hat120 : cl118.slots[((p1 + (1 : Int32))).toNatClampNeg]? = some (.int xb) := Hs118.at hin120 (own_get_set hzO hxb)
  have go121 : ∀ t, Steps p.tables e below (T111.setTop (mkF m 92 #[rv o0, iv p1, rv o0, iv p1, iv 2, rv o5, iv p6, iv 1, .val (.long (c0_ + (xb.toInt64 &&& (4294967295 : Int64)))), .second, iv 1] [])) t → Steps p.tables e below O t := fun t k => go117 t (by
    refine XS.icmpYes X111.here hx rfl (pc0 := 10) (pc' := 65) rfl (hb hby d1_10) rfl (flt (by decide : ¬ ((1 : Int32) < (1 : Int32)))).2.1 (by decide) (by decide) ?_
    refine XS.iload X111.here hx rfl (hb hby d1_65) rfl ?_
    show Steps _ _ _ (T111.setTop (mkF m 67 _ [(.int 1)])) _
    refine XS.istore X111.here hx rfl (hb hby d1_67) rfl (l' := #[rv o0, iv p1, rv o0, iv p1, iv 2, rv o5, iv p6, iv 1, .val (.long c0_), .second, iv 1]) rfl ?_
    show Steps _ _ _ (T111.setTop (mkF m 69 _ [])) _
    refine XS.iload X111.here hx rfl (hb hby d1_69) rfl ?_
    refine XS.iload X111.here hx rfl (hb hby d1_71) rfl ?_
    show Steps _ _ _ (T111.setTop (mkF m 73 _ [(.int 2), (.int 1)])) _
    refine XS.icmpNo X111.here hx rfl (hb hby d1_73) rfl (tlt (by decide : (1 : Int32) < (2 : Int32))).2.1 ?_
    refine XS.lload X111.here hx rfl (hb hby d1_76) rfl ?_
    show Steps _ _ _ (T111.setTop (mkF m 78 _ [(.long c0_)])) _
    refine XS.aloadN X111.here hx rfl (hb hby d1_78) rfl rfl ?_
    refine XS.iloadN X111.here hx rfl (hb hby d1_79) rfl ?_
    show Steps _ _ _ (T111.setTop (mkF m 80 _ [(.int p1), (.ref o0), (.long c0_)])) _
    refine XS.iload X111.here hx rfl (hb hby d1_80) rfl ?_
    refine XS.iadd X111.here hx rfl (hb hby d1_82) rfl ?_
    show Steps _ _ _ (T111.setTop (mkF m 83 _ [(.int (p1 + (1 : Int32))), (.ref o0), (.long c0_)])) _
    refine X111.iaload hx (j := (p1 + (1 : Int32))) (v := (.int xb)) (by rw [e111]; exact Ar118.1) (State.isArrayOf_alike hZ.alike Ar118.2.1) Ar118.2.2 hin120 hat120 (g := (mkF m 83 #[rv o0, iv p1, rv o0, iv p1, iv 2, rv o5, iv p6, iv 1, .val (.long c0_), .second, iv 1] [(.int (p1 + (1 : Int32))), (.ref o0), (.long c0_)])) rfl rfl (hb hby d1_83) _ ?_
    refine XS.i2l X111.here hx rfl (hb hby d1_84) rfl ?_
    show Steps _ _ _ (T111.setTop (mkF m 85 _ [(.long xb.toInt64), (.long c0_)])) _
    refine X111.ldc2Long hx hown (mvT hZ (hw _ (List.mem_of_getElem? (i := 12) rfl))) (g := (mkF m 85 #[rv o0, iv p1, rv o0, iv p1, iv 2, rv o5, iv p6, iv 1, .val (.long c0_), .second, iv 1] [(.long xb.toInt64), (.long c0_)])) rfl (hb hby d1_85) _ ?_
    refine XS.land X111.here hx rfl (hb hby d1_88) rfl ?_
    show Steps _ _ _ (T111.setTop (mkF m 89 _ [(.long (xb.toInt64 &&& (4294967295 : Int64))), (.long c0_)])) _
    refine XS.ladd X111.here hx rfl (hb hby d1_89) rfl ?_
    show Steps _ _ _ (T111.setTop (mkF m 90 #[rv o0, iv p1, rv o0, iv p1, iv 2, rv o5, iv p6, iv 1, .val (.long c0_), .second, iv 1] [(.long (c0_ + (xb.toInt64 &&& (4294967295 : Int64))))])) _
    refine XS.lstore X111.here hx rfl (hb hby d1_90) rfl (l' := #[rv o0, iv p1, rv o0, iv p1, iv 2, rv o5, iv p6, iv 1, .val (.long (c0_ + (xb.toInt64 &&& (4294967295 : Int64)))), .second, iv 1]) rfl ?_
    show Steps _ _ _ (T111.setTop (mkF m 92 _ [])) _
    exact k)
  obtain ⟨s1_, hs1⟩ : ∃ z : Int64, z = (c0_ + (xb.toInt64 &&& (4294967295 : Int64))) := ⟨_, rfl⟩
  rw [← hs1] at go121
  obtain ⟨cl122, Ar122, q122, S122, M122, Hs122, G122⟩ := f119
  have f123 : Arv Z h111 o0 kz_ .int (4 : Int32) (zs_.set ((p1 + (0 : Int32))).toNatClampNeg (.int s0_.toInt32)) (.int 0) := ⟨cl122, Ar122, q122, S122, M122, Hs122, G122⟩
  have hin124 : ¬ ((p1 + (1 : Int32)) < 0 ∨ cl122.slots.size ≤ ((p1 + (1 : Int32))).toNatClampNeg) := inb_of S122 (own_in1 hzO)
  obtain ⟨T124, h124, X124, e124, W124, st124⟩ := stI X111 hx hZ e111 Ar122 (j := (p1 + (1 : Int32))) hin124 (g := (mkF m 100 #[rv o0, iv p1, rv o0, iv p1, iv 2, rv o5, iv p6, iv 1, .val (.long s1_), .second, iv 1] [(.int s1_.toInt32), (.int (p1 + (1 : Int32))), (.ref o0)])) rfl rfl (hb hby d1_100)
  have f125 := f112.other W124 ne_y
  have Z126 := Nat.le_trans Z113 (Keep.of_wr W124).1
  have K127 := K114.wr W124 (Or.inl (List.mem_of_getElem? (i := 0) rfl))
  have V124 : Arv Z h124 o0 kz_ .int (4 : Int32) ((zs_.set ((p1 + (0 : Int32))).toNatClampNeg (.int s0_.toInt32)).set ((p1 + (1 : Int32))).toNatClampNeg (.int s1_.toInt32)) (.int 0) := Arv.set Ar122 q122 S122 M122 Hs122 G122 rfl W124 ((p1 + (1 : Int32))).toNatClampNeg rfl (own_ln1 hzO ((List.length_set ..).trans hl))
  have N124 := Fr.snoc X124 N111 ge_o0
  have go128 : ∀ t, Steps p.tables e below (T124.setTop (mkF m 108 #[rv o0, iv p1, rv o0, iv p1, iv 2, rv o5, iv p6, iv 1, .val (.long ((s1_.toUInt64 >>> ((32 : Int32) &&& 0x3f).toInt64.toUInt64).toInt64)), .second, iv 1] [])) t → Steps p.tables e below O t := fun t k => go121 t (by
    refine XS.aloadN X111.here hx rfl (hb hby d1_92) rfl rfl ?_
    refine XS.iloadN X111.here hx rfl (hb hby d1_93) rfl ?_
    show Steps _ _ _ (T111.setTop (mkF m 94 _ [(.int p1), (.ref o0)])) _
    refine XS.iload X111.here hx rfl (hb hby d1_94) rfl ?_
    refine XS.iadd X111.here hx rfl (hb hby d1_96) rfl ?_
    show Steps _ _ _ (T111.setTop (mkF m 97 _ [(.int (p1 + (1 : Int32))), (.ref o0)])) _
    refine XS.lload X111.here hx rfl (hb hby d1_97) rfl ?_
    refine XS.l2i X111.here hx rfl (hb hby d1_99) rfl ?_
    show Steps _ _ _ (T111.setTop (mkF m 100 _ [(.int s1_.toInt32), (.int (p1 + (1 : Int32))), (.ref o0)])) _
    refine st124 _ ?_
    show Steps _ _ _ (T124.setTop (mkF m 101 _ [])) _
    refine XS.lload X124.here hx rfl (hb hby d1_101) rfl ?_
    refine XS.bipush X124.here hx rfl (hb hby d1_103) ?_
    show Steps _ _ _ (T124.setTop (mkF m 105 _ [(.int 32), (.long s1_)])) _
    refine XS.lushr X124.here hx rfl (hb hby d1_105) rfl ?_
    refine XS.lstore X124.here hx rfl (hb hby d1_106) rfl (l' := #[rv o0, iv p1, rv o0, iv p1, iv 2, rv o5, iv p6, iv 1, .val (.long ((s1_.toUInt64 >>> ((32 : Int32) &&& 0x3f).toInt64.toUInt64).toInt64)), .second, iv 1]) rfl ?_
    show Steps _ _ _ (T124.setTop (mkF m 108 _ [])) _
    exact k)
  obtain ⟨c1_, hc1⟩ : ∃ z : Int64, z = ((s1_.toUInt64 >>> ((32 : Int32) &&& 0x3f).toInt64.toUInt64).toInt64) := ⟨_, rfl⟩
  rw [← hc1] at go128
  have go129 : ∀ t, Steps p.tables e below (T124.setTop (mkF m 73 #[rv o0, iv p1, rv o0, iv p1, iv 2, rv o5, iv p6, iv 1, .val (.long c1_), .second, iv ((1 : Int32) + (1 : Int32))] [(.int 2), (.int ((1 : Int32) + (1 : Int32)))])) t → Steps p.tables e below O t := fun t k => go128 t (by
    refine XS.iinc X124.here hx rfl (hb hby d1_108) rfl (l' := #[rv o0, iv p1, rv o0, iv p1, iv 2, rv o5, iv p6, iv 1, .val (.long c1_), .second, iv ((1 : Int32) + (1 : Int32))]) rfl ?_
    show Steps _ _ _ (T124.setTop (mkF m 111 _ [])) _
    refine XS.goto X124.here hx rfl (pc0 := 111) (pc' := 69) rfl (hb hby d1_111) (by decide) (by decide) ?_
    refine XS.iload X124.here hx rfl (hb hby d1_69) rfl ?_
    show Steps _ _ _ (T124.setTop (mkF m 71 _ [(.int ((1 : Int32) + (1 : Int32)))])) _
    refine XS.iload X124.here hx rfl (hb hby d1_71) rfl ?_
    exact k)
  have go130 : ∀ t, Steps p.tables e below (T124.setTop (mkF m 73 #[rv o0, iv p1, rv o0, iv p1, iv 2, rv o5, iv p6, iv 1, .val (.long c1_), .second, iv 2] [(.int 2), (.int ((1 : Int32) + (1 : Int32)))])) t → Steps p.tables e below O t := go129
  have go131 : ∀ t, Steps p.tables e below (T124.setTop (mkF m 117 #[rv o0, iv p1, rv o0, iv p1, iv 2, rv o5, iv p6, iv 1, .val (.long c1_), .second, iv 2] [(.int c1_.toInt32)])) t → Steps p.tables e below O t := fun t k => go130 t (by
    refine XS.icmpYes X124.here hx rfl (pc0 := 73) (pc' := 114) rfl (hb hby d1_73) rfl (flt (by decide : ¬ ((2 : Int32) < (2 : Int32)))).2.1 (by decide) (by decide) ?_
    refine XS.lload X124.here hx rfl (hb hby d1_114) rfl ?_
    show Steps _ _ _ (T124.setTop (mkF m 116 _ [(.long c1_)])) _
    refine XS.l2i X124.here hx rfl (hb hby d1_116) rfl ?_
    exact k)
  have hp : own_post (2 : Int32) (1 : Int32) xa xb ya yb c1_.toInt32 s0_.toInt32 s1_.toInt32 := by
    subst hc1 hs1 hc0 hs0
    exact own_ar_21 xa xb ya yb
  rw [hO] at go131
  obtain ⟨fs, hr, hrun, hended, hW, hsame⟩ := X124.leave (v := some (.int c1_.toInt32)) (fun h => by rw [Bd.returns] at h; cases h)
  refine ⟨_, _, go131 _ ?_, hrun, hended, _, _, rfl, ?_, ⟨_, rfl⟩, hW, hsame.mono (by decide) (by decide)⟩
  · exact retI X124 hx Bd.returns (hb hby d1_117) hr
  · show Q_ai21 Z o0 p1 o5 p6 kz_ zs_ ky_ ys_ xa xb ya yb h0 n0 _ T124.heap _
    rw [e124]
    exact ⟨_, _, _, rfl, N124, hp, K127, own_put_2 hzO V124⟩
theorem ef_ai22 (m : MethodId) (x0 : Addr) (x1 : Int32) (x2 : Addr) (x3 : Int32) (x4 : Int32) (x5 : Addr) (x6 : Int32) (x7 : Int32) : entryFrame m #[(.ref x2), (.int x3), (.ref x2), (.int x3), (.int x7), (.ref x5), (.int x6), (.int x7)] 11 = mkF m 0 #[rv x2, iv x3, rv x2, iv x3, iv x7, rv x5, iv x6, iv x7, .unset, .unset, .unset] [] := by first | (simp [entryFrame, mkF, argsToLocals, Value.category]; done) | rfl
def Q_ai22 (Z : State) (o0 : Addr) (p1 : Int32) (o5 : Addr) (p6 : Int32) (kz_ : ClassId) (zs_ : List Value) (ky_ : ClassId) (ys_ : List Value) (xa : Int32) (xb : Int32) (ya : Int32) (yb : Int32) (h0 : Heap) (n0 : Nat) (v : Option Value) (h : Heap) (L : List Loc) : Prop := ∃ r u0 u1 : Int32, v = some (.int r) ∧ Fr n0 L ∧ own_post (2 : Int32) (2 : Int32) xa xb ya yb r u0 u1 ∧ Keep h0 h [o0] ∧ Arv Z h o0 kz_ .int (4 : Int32) (own_put (2 : Int32) p1 zs_ u0 u1) (.int (0 : Int32))
set_option maxRecDepth 65536 in
set_option maxHeartbeats 40000000 in
theorem rm_ai22 (l : Launch) (Z : State) (a0 : Array Value) (hw : ∀ d ∈ tables_1, d.before a0 Z = true) (ws : List Jvm.Cond) (o0 : Addr) (p1 : Int32) (o5 : Addr) (p6 : Int32) (kz_ : ClassId) (zs_ : List Value) (ky_ : ClassId) (ys_ : List Value) (xa : Int32) (xb : Int32) (ya : Int32) (yb : Int32) (h0 : Heap) (n0 : Nat) (Z0 : n0 ≤ h0.size) (ge_o0 : n0 ≤ o0) (V_o0 : Arv Z h0 o0 kz_ .int (4 : Int32) zs_ (.int (0 : Int32))) (V_o5 : Arv Z h0 o5 ky_ .int (4 : Int32) ys_ (.int (0 : Int32))) (ne_y : o5 ≠ o0) (hl : zs_.length = 4) (hzO : p1 = (0 : Int32) ∨ p1 = (1 : Int32)) (hyO : p6 = (0 : Int32) ∨ p6 = (1 : Int32)) (hxa : zs_.getD (p1 + (0 : Int32)).toNatClampNeg (.int (0 : Int32)) = .int xa) (hya : ys_.getD (p6 + (0 : Int32)).toNatClampNeg (.int (0 : Int32)) = .int ya) (hxb : zs_.getD (p1 + (1 : Int32)).toNatClampNeg (.int (0 : Int32)) = .int xb) (hyb : ys_.getD (p6 + (1 : Int32)).toNatClampNeg (.int (0 : Int32)) = .int yb) :
    MetFree l (⟨"com/example/limbwise/kernel/Words", "add", "([II[III[III)I"⟩ : MethodName) (head1 (Jvm.Cond.code (⟨"com/example/limbwise/kernel/Words", "add", "([II[III[III)I"⟩ : MethodName) prog_24_method_2_code 11 (some .int) :: ws) ({ frames := 0, cells := 0, slots := 0, locals := 0 } : Room)) (fun a U => a = #[(.ref o0), (.int p1), (.ref o0), (.int p1), (.int 2), (.ref o5), (.int p6), (.int 2)] ∧ Z.Warmed39 U.vm ∧ U.heap = h0) (fun _ _ _ _ _ => True) (fun _ U o U' => ∃ v L, o = .returned v ∧ Q_ai22 Z o0 p1 o5 p6 kz_ zs_ ky_ ys_ xa xb ya yb h0 n0 v U'.heap L ∧ FrameEnd U o U' L ({ frames := 0, cells := 0, slots := 0, locals := 0 } : Room).cells ({ frames := 0, cells := 0, slots := 0, locals := 0 } : Room).slots) := by
  refine MetFree.of_bodySF (plainFor_of_name pn_1) hisR ?_
  intro p e s m args below meth c s₁ Bd hml0 hP hK
  obtain ⟨rfl, hZ, hh⟩ := hP
  have hx := Bd.exec
  have hby := Bd.bytes
  have hml : c.maxLocals = 11 := hml0
  have hown : s.vm.findClass "com/example/limbwise/kernel/Words" = some m.cls := findClass_of_methodNamed Bd.named
  have hnm := (name_of_methodNamed Bd.named Bd.method).1
  have X0 : Stand p l e ({ frames := 0, cells := 0, slots := 0, locals := 0 } : Room) s m #[(.ref o0), (.int p1), (.ref o0), (.int p1), (.int 2), (.ref o5), (.int p6), (.int 2)] below meth c s₁ [] 0 0 := Stand.of_body Bd
  have e0 : s₁.heap = h0 := by rw [← hh, Bd.state]; rfl
  have N0 := Fr.nil n0
  have go0 : ∀ t, Steps p.tables e below (s₁.setTop (mkF m 0 #[rv o0, iv p1, rv o0, iv p1, iv 2, rv o5, iv p6, iv 2, .unset, .unset, .unset] [])) t → Steps p.tables e below (s₁.setTop (entryFrame m #[(.ref o0), (.int p1), (.ref o0), (.int p1), (.int 2), (.ref o5), (.int p6), (.int 2)] 11)) t := fun t k => castTop (ef_ai22 m o0 p1 o0 p1 (2 : Int32) o5 p6 (2 : Int32)) k
  obtain ⟨O, hO⟩ : ∃ z, z = (s₁.setTop (entryFrame m #[(.ref o0), (.int p1), (.ref o0), (.int p1), (.int 2), (.ref o5), (.int p6), (.int 2)] 11)) := ⟨_, rfl⟩
  rw [← hO] at go0
  have K101 := Keep.refl h0 [o0]
  obtain ⟨cl102, Ar102, q102, S102, M102, Hs102, G102⟩ := V_o0
  have f103 : Arv Z h0 o0 kz_ .int (4 : Int32) zs_ (.int 0) := ⟨cl102, Ar102, q102, S102, M102, Hs102, G102⟩
  have hin104 : ¬ ((p1 + (0 : Int32)) < 0 ∨ cl102.slots.size ≤ ((p1 + (0 : Int32))).toNatClampNeg) := inb_of S102 (own_in0 hzO)
  have hat104 : cl102.slots[((p1 + (0 : Int32))).toNatClampNeg]? = some (.int xa) := Hs102.at hin104 hxa
  obtain ⟨cl105, Ar105, q105, S105, M105, Hs105, G105⟩ := V_o5
  have f106 : Arv Z h0 o5 ky_ .int (4 : Int32) ys_ (.int 0) := ⟨cl105, Ar105, q105, S105, M105, Hs105, G105⟩
  have hin107 : ¬ ((p6 + (0 : Int32)) < 0 ∨ cl105.slots.size ≤ ((p6 + (0 : Int32))).toNatClampNeg) := inb_of S105 (own_in0 hyO)
  have hat107 : cl105.slots[((p6 + (0 : Int32))).toNatClampNeg]? = some (.int ya) := Hs105.at hin107 hya
  have go108 : ∀ t, Steps p.tables e below (s₁.setTop (mkF m 43 #[rv o0, iv p1, rv o0, iv p1, iv 2, rv o5, iv p6, iv 2, .val (.long ((0 : Int64) + ((xa.toInt64 &&& (4294967295 : Int64)) + (ya.toInt64 &&& (4294967295 : Int64))))), .second, iv 0] [])) t → Steps p.tables e below O t := fun t k => go0 t (by
    refine XS.lconst X0.here hx rfl (hb hby d1_0) ?_
    refine XS.lstore X0.here hx rfl (hb hby d1_1) rfl (l' := #[rv o0, iv p1, rv o0, iv p1, iv 2, rv o5, iv p6, iv 2, .val (.long 0), .second, .unset]) rfl ?_
    show Steps _ _ _ (s₁.setTop (mkF m 3 _ [])) _
    refine XS.iconst X0.here hx rfl (hb hby d1_3) ?_
    refine XS.istore X0.here hx rfl (hb hby d1_4) rfl (l' := #[rv o0, iv p1, rv o0, iv p1, iv 2, rv o5, iv p6, iv 2, .val (.long 0), .second, iv 0]) rfl ?_
    show Steps _ _ _ (s₁.setTop (mkF m 6 _ [])) _
    refine XS.iload X0.here hx rfl (hb hby d1_6) rfl ?_
    refine XS.iload X0.here hx rfl (hb hby d1_8) rfl ?_
    show Steps _ _ _ (s₁.setTop (mkF m 10 _ [(.int 2), (.int 0)])) _
    refine XS.icmpNo X0.here hx rfl (hb hby d1_10) rfl (tlt (by decide : (0 : Int32) < (2 : Int32))).2.1 ?_
    refine XS.lload X0.here hx rfl (hb hby d1_13) rfl ?_
    show Steps _ _ _ (s₁.setTop (mkF m 15 _ [(.long 0)])) _
    refine XS.aloadN X0.here hx rfl (hb hby d1_15) rfl rfl ?_
    refine XS.iloadN X0.here hx rfl (hb hby d1_16) rfl ?_
    show Steps _ _ _ (s₁.setTop (mkF m 17 _ [(.int p1), (.ref o0), (.long 0)])) _
    refine XS.iload X0.here hx rfl (hb hby d1_17) rfl ?_
    refine XS.iadd X0.here hx rfl (hb hby d1_19) rfl ?_
    show Steps _ _ _ (s₁.setTop (mkF m 20 _ [(.int (p1 + (0 : Int32))), (.ref o0), (.long 0)])) _
    refine X0.iaload hx (j := (p1 + (0 : Int32))) (v := (.int xa)) (by rw [e0]; exact Ar102.1) (State.isArrayOf_alike hZ.alike Ar102.2.1) Ar102.2.2 hin104 hat104 (g := (mkF m 20 #[rv o0, iv p1, rv o0, iv p1, iv 2, rv o5, iv p6, iv 2, .val (.long 0), .second, iv 0] [(.int (p1 + (0 : Int32))), (.ref o0), (.long 0)])) rfl rfl (hb hby d1_20) _ ?_
    refine XS.i2l X0.here hx rfl (hb hby d1_21) rfl ?_
    show Steps _ _ _ (s₁.setTop (mkF m 22 _ [(.long xa.toInt64), (.long 0)])) _
    refine X0.ldc2Long hx hown (mvT hZ (hw _ (List.mem_of_getElem? (i := 12) rfl))) (g := (mkF m 22 #[rv o0, iv p1, rv o0, iv p1, iv 2, rv o5, iv p6, iv 2, .val (.long 0), .second, iv 0] [(.long xa.toInt64), (.long 0)])) rfl (hb hby d1_22) _ ?_
    refine XS.land X0.here hx rfl (hb hby d1_25) rfl ?_
    show Steps _ _ _ (s₁.setTop (mkF m 26 _ [(.long (xa.toInt64 &&& (4294967295 : Int64))), (.long 0)])) _
    refine XS.aload X0.here hx rfl (hb hby d1_26) rfl rfl ?_
    show Steps _ _ _ (s₁.setTop (mkF m 28 #[rv o0, iv p1, rv o0, iv p1, iv 2, rv o5, iv p6, iv 2, .val (.long 0), .second, iv 0] [(.ref o5), (.long (xa.toInt64 &&& (4294967295 : Int64))), (.long 0)])) _
    refine XS.iload X0.here hx rfl (hb hby d1_28) rfl ?_
    refine XS.iload X0.here hx rfl (hb hby d1_30) rfl ?_
    show Steps _ _ _ (s₁.setTop (mkF m 32 _ [(.int 0), (.int p6), (.ref o5), (.long (xa.toInt64 &&& (4294967295 : Int64))), (.long 0)])) _
    refine XS.iadd X0.here hx rfl (hb hby d1_32) rfl ?_
    refine X0.iaload hx (j := (p6 + (0 : Int32))) (v := (.int ya)) (by rw [e0]; exact Ar105.1) (State.isArrayOf_alike hZ.alike Ar105.2.1) Ar105.2.2 hin107 hat107 (g := (mkF m 33 #[rv o0, iv p1, rv o0, iv p1, iv 2, rv o5, iv p6, iv 2, .val (.long 0), .second, iv 0] [(.int (p6 + (0 : Int32))), (.ref o5), (.long (xa.toInt64 &&& (4294967295 : Int64))), (.long 0)])) rfl rfl (hb hby d1_33) _ ?_
    show Steps _ _ _ (s₁.setTop (mkF m 34 _ [(.int ya), (.long (xa.toInt64 &&& (4294967295 : Int64))), (.long 0)])) _
    refine XS.i2l X0.here hx rfl (hb hby d1_34) rfl ?_
    refine X0.ldc2Long hx hown (mvT hZ (hw _ (List.mem_of_getElem? (i := 12) rfl))) (g := (mkF m 35 #[rv o0, iv p1, rv o0, iv p1, iv 2, rv o5, iv p6, iv 2, .val (.long 0), .second, iv 0] [(.long ya.toInt64), (.long (xa.toInt64 &&& (4294967295 : Int64))), (.long 0)])) rfl (hb hby d1_35) _ ?_
    show Steps _ _ _ (s₁.setTop (mkF m 38 _ [(.long 4294967295), (.long ya.toInt64), (.long (xa.toInt64 &&& (4294967295 : Int64))), (.long 0)])) _
    refine XS.land X0.here hx rfl (hb hby d1_38) rfl ?_
    refine XS.ladd X0.here hx rfl (hb hby d1_39) rfl ?_
    show Steps _ _ _ (s₁.setTop (mkF m 40 _ [(.long ((xa.toInt64 &&& (4294967295 : Int64)) + (ya.toInt64 &&& (4294967295 : Int64)))), (.long 0)])) _
    refine XS.ladd X0.here hx rfl (hb hby d1_40) rfl ?_
    refine XS.lstore X0.here hx rfl (hb hby d1_41) rfl (l' := #[rv o0, iv p1, rv o0, iv p1, iv 2, rv o5, iv p6, iv 2, .val (.long ((0 : Int64) + ((xa.toInt64 &&& (4294967295 : Int64)) + (ya.toInt64 &&& (4294967295 : Int64))))), .second, iv 0]) rfl ?_
    show Steps _ _ _ (s₁.setTop (mkF m 43 _ [])) _
    exact k)
  obtain ⟨s0_, hs0⟩ : ∃ z : Int64, z = ((0 : Int64) + ((xa.toInt64 &&& (4294967295 : Int64)) + (ya.toInt64 &&& (4294967295 : Int64)))) := ⟨_, rfl⟩
  rw [← hs0] at go108
  obtain ⟨cl109, Ar109, q109, S109, M109, Hs109, G109⟩ := f103
  have f110 : Arv Z h0 o0 kz_ .int (4 : Int32) zs_ (.int 0) := ⟨cl109, Ar109, q109, S109, M109, Hs109, G109⟩
  have hin111 : ¬ ((p1 + (0 : Int32)) < 0 ∨ cl109.slots.size ≤ ((p1 + (0 : Int32))).toNatClampNeg) := inb_of S109 (own_in0 hzO)
  obtain ⟨T111, h111, X111, e111, W111, st111⟩ := stI X0 hx hZ e0 Ar109 (j := (p1 + (0 : Int32))) hin111 (g := (mkF m 51 #[rv o0, iv p1, rv o0, iv p1, iv 2, rv o5, iv p6, iv 2, .val (.long s0_), .second, iv 0] [(.int s0_.toInt32), (.int (p1 + (0 : Int32))), (.ref o0)])) rfl rfl (hb hby d1_51)
  have f112 := f106.other W111 ne_y
  have Z113 := Nat.le_trans Z0 (Keep.of_wr W111).1
  have K114 := K101.wr W111 (Or.inl (List.mem_of_getElem? (i := 0) rfl))
  have V111 : Arv Z h111 o0 kz_ .int (4 : Int32) (zs_.set ((p1 + (0 : Int32))).toNatClampNeg (.int s0_.toInt32)) (.int 0) := Arv.set Ar109 q109 S109 M109 Hs109 G109 rfl W111 ((p1 + (0 : Int32))).toNatClampNeg rfl (own_ln0 hzO hl)
  have N111 := Fr.snoc X111 N0 ge_o0
  have go115 : ∀ t, Steps p.tables e below (T111.setTop (mkF m 59 #[rv o0, iv p1, rv o0, iv p1, iv 2, rv o5, iv p6, iv 2, .val (.long ((s0_.toUInt64 >>> ((32 : Int32) &&& 0x3f).toInt64.toUInt64).toInt64)), .second, iv 0] [])) t → Steps p.tables e below O t := fun t k => go108 t (by
    refine XS.aloadN X0.here hx rfl (hb hby d1_43) rfl rfl ?_
    refine XS.iloadN X0.here hx rfl (hb hby d1_44) rfl ?_
    show Steps _ _ _ (s₁.setTop (mkF m 45 _ [(.int p1), (.ref o0)])) _
    refine XS.iload X0.here hx rfl (hb hby d1_45) rfl ?_
    refine XS.iadd X0.here hx rfl (hb hby d1_47) rfl ?_
    show Steps _ _ _ (s₁.setTop (mkF m 48 _ [(.int (p1 + (0 : Int32))), (.ref o0)])) _
    refine XS.lload X0.here hx rfl (hb hby d1_48) rfl ?_
    refine XS.l2i X0.here hx rfl (hb hby d1_50) rfl ?_
    show Steps _ _ _ (s₁.setTop (mkF m 51 _ [(.int s0_.toInt32), (.int (p1 + (0 : Int32))), (.ref o0)])) _
    refine st111 _ ?_
    show Steps _ _ _ (T111.setTop (mkF m 52 _ [])) _
    refine XS.lload X111.here hx rfl (hb hby d1_52) rfl ?_
    refine XS.bipush X111.here hx rfl (hb hby d1_54) ?_
    show Steps _ _ _ (T111.setTop (mkF m 56 _ [(.int 32), (.long s0_)])) _
    refine XS.lushr X111.here hx rfl (hb hby d1_56) rfl ?_
    refine XS.lstore X111.here hx rfl (hb hby d1_57) rfl (l' := #[rv o0, iv p1, rv o0, iv p1, iv 2, rv o5, iv p6, iv 2, .val (.long ((s0_.toUInt64 >>> ((32 : Int32) &&& 0x3f).toInt64.toUInt64).toInt64)), .second, iv 0]) rfl ?_
    show Steps _ _ _ (T111.setTop (mkF m 59 _ [])) _
    exact k)
  obtain ⟨c0_, hc0⟩ : ∃ z : Int64, z = ((s0_.toUInt64 >>> ((32 : Int32) &&& 0x3f).toInt64.toUInt64).toInt64) := ⟨_, rfl⟩
  rw [← hc0] at go115
  have go116 : ∀ t, Steps p.tables e below (T111.setTop (mkF m 10 #[rv o0, iv p1, rv o0, iv p1, iv 2, rv o5, iv p6, iv 2, .val (.long c0_), .second, iv ((0 : Int32) + (1 : Int32))] [(.int 2), (.int ((0 : Int32) + (1 : Int32)))])) t → Steps p.tables e below O t := fun t k => go115 t (by
    refine XS.iinc X111.here hx rfl (hb hby d1_59) rfl (l' := #[rv o0, iv p1, rv o0, iv p1, iv 2, rv o5, iv p6, iv 2, .val (.long c0_), .second, iv ((0 : Int32) + (1 : Int32))]) rfl ?_
    show Steps _ _ _ (T111.setTop (mkF m 62 _ [])) _
    refine XS.goto X111.here hx rfl (pc0 := 62) (pc' := 6) rfl (hb hby d1_62) (by decide) (by decide) ?_
    refine XS.iload X111.here hx rfl (hb hby d1_6) rfl ?_
    show Steps _ _ _ (T111.setTop (mkF m 8 _ [(.int ((0 : Int32) + (1 : Int32)))])) _
    refine XS.iload X111.here hx rfl (hb hby d1_8) rfl ?_
    exact k)
  have go117 : ∀ t, Steps p.tables e below (T111.setTop (mkF m 10 #[rv o0, iv p1, rv o0, iv p1, iv 2, rv o5, iv p6, iv 2, .val (.long c0_), .second, iv 1] [(.int 2), (.int ((0 : Int32) + (1 : Int32)))])) t → Steps p.tables e below O t := go116
  obtain ⟨cl118, Ar118, q118, S118, M118, Hs118, G118⟩ := V111
  have f119 : Arv Z h111 o0 kz_ .int (4 : Int32) (zs_.set ((p1 + (0 : Int32))).toNatClampNeg (.int s0_.toInt32)) (.int 0) := ⟨cl118, Ar118, q118, S118, M118, Hs118, G118⟩
  have hin120 : ¬ ((p1 + (1 : Int32)) < 0 ∨ cl118.slots.size ≤ ((p1 + (1 : Int32))).toNatClampNeg) := inb_of S118 (own_in1 hzO)
  have hat120 : cl118.slots[((p1 + (1 : Int32))).toNatClampNeg]? = some (.int xb) := Hs118.at hin120 (own_get_set hzO hxb)
  obtain ⟨cl121, Ar121, q121, S121, M121, Hs121, G121⟩ := f112
  have f122 : Arv Z h111 o5 ky_ .int (4 : Int32) ys_ (.int 0) := ⟨cl121, Ar121, q121, S121, M121, Hs121, G121⟩
  have hin123 : ¬ ((p6 + (1 : Int32)) < 0 ∨ cl121.slots.size ≤ ((p6 + (1 : Int32))).toNatClampNeg) := inb_of S121 (own_in1 hyO)
  have hat123 : cl121.slots[((p6 + (1 : Int32))).toNatClampNeg]? = some (.int yb) := Hs121.at hin123 hyb
  have go124 : ∀ t, Steps p.tables e below (T111.setTop (mkF m 43 #[rv o0, iv p1, rv o0, iv p1, iv 2, rv o5, iv p6, iv 2, .val (.long (c0_ + ((xb.toInt64 &&& (4294967295 : Int64)) + (yb.toInt64 &&& (4294967295 : Int64))))), .second, iv 1] [])) t → Steps p.tables e below O t := fun t k => go117 t (by
    refine XS.icmpNo X111.here hx rfl (hb hby d1_10) rfl (tlt (by decide : (1 : Int32) < (2 : Int32))).2.1 ?_
    refine XS.lload X111.here hx rfl (hb hby d1_13) rfl ?_
    show Steps _ _ _ (T111.setTop (mkF m 15 _ [(.long c0_)])) _
    refine XS.aloadN X111.here hx rfl (hb hby d1_15) rfl rfl ?_
    refine XS.iloadN X111.here hx rfl (hb hby d1_16) rfl ?_
    show Steps _ _ _ (T111.setTop (mkF m 17 _ [(.int p1), (.ref o0), (.long c0_)])) _
    refine XS.iload X111.here hx rfl (hb hby d1_17) rfl ?_
    refine XS.iadd X111.here hx rfl (hb hby d1_19) rfl ?_
    show Steps _ _ _ (T111.setTop (mkF m 20 _ [(.int (p1 + (1 : Int32))), (.ref o0), (.long c0_)])) _
    refine X111.iaload hx (j := (p1 + (1 : Int32))) (v := (.int xb)) (by rw [e111]; exact Ar118.1) (State.isArrayOf_alike hZ.alike Ar118.2.1) Ar118.2.2 hin120 hat120 (g := (mkF m 20 #[rv o0, iv p1, rv o0, iv p1, iv 2, rv o5, iv p6, iv 2, .val (.long c0_), .second, iv 1] [(.int (p1 + (1 : Int32))), (.ref o0), (.long c0_)])) rfl rfl (hb hby d1_20) _ ?_
    refine XS.i2l X111.here hx rfl (hb hby d1_21) rfl ?_
    show Steps _ _ _ (T111.setTop (mkF m 22 _ [(.long xb.toInt64), (.long c0_)])) _
    refine X111.ldc2Long hx hown (mvT hZ (hw _ (List.mem_of_getElem? (i := 12) rfl))) (g := (mkF m 22 #[rv o0, iv p1, rv o0, iv p1, iv 2, rv o5, iv p6, iv 2, .val (.long c0_), .second, iv 1] [(.long xb.toInt64), (.long c0_)])) rfl (hb hby d1_22) _ ?_
    refine XS.land X111.here hx rfl (hb hby d1_25) rfl ?_
    show Steps _ _ _ (T111.setTop (mkF m 26 _ [(.long (xb.toInt64 &&& (4294967295 : Int64))), (.long c0_)])) _
    refine XS.aload X111.here hx rfl (hb hby d1_26) rfl rfl ?_
    refine XS.iload X111.here hx rfl (hb hby d1_28) rfl ?_
    show Steps _ _ _ (T111.setTop (mkF m 30 _ [(.int p6), (.ref o5), (.long (xb.toInt64 &&& (4294967295 : Int64))), (.long c0_)])) _
    refine XS.iload X111.here hx rfl (hb hby d1_30) rfl ?_
    show Steps _ _ _ (T111.setTop (mkF m 32 #[rv o0, iv p1, rv o0, iv p1, iv 2, rv o5, iv p6, iv 2, .val (.long c0_), .second, iv 1] [(.int 1), (.int p6), (.ref o5), (.long (xb.toInt64 &&& (4294967295 : Int64))), (.long c0_)])) _
    refine XS.iadd X111.here hx rfl (hb hby d1_32) rfl ?_
    refine X111.iaload hx (j := (p6 + (1 : Int32))) (v := (.int yb)) (by rw [e111]; exact Ar121.1) (State.isArrayOf_alike hZ.alike Ar121.2.1) Ar121.2.2 hin123 hat123 (g := (mkF m 33 #[rv o0, iv p1, rv o0, iv p1, iv 2, rv o5, iv p6, iv 2, .val (.long c0_), .second, iv 1] [(.int (p6 + (1 : Int32))), (.ref o5), (.long (xb.toInt64 &&& (4294967295 : Int64))), (.long c0_)])) rfl rfl (hb hby d1_33) _ ?_
    show Steps _ _ _ (T111.setTop (mkF m 34 _ [(.int yb), (.long (xb.toInt64 &&& (4294967295 : Int64))), (.long c0_)])) _
    refine XS.i2l X111.here hx rfl (hb hby d1_34) rfl ?_
    refine X111.ldc2Long hx hown (mvT hZ (hw _ (List.mem_of_getElem? (i := 12) rfl))) (g := (mkF m 35 #[rv o0, iv p1, rv o0, iv p1, iv 2, rv o5, iv p6, iv 2, .val (.long c0_), .second, iv 1] [(.long yb.toInt64), (.long (xb.toInt64 &&& (4294967295 : Int64))), (.long c0_)])) rfl (hb hby d1_35) _ ?_
    show Steps _ _ _ (T111.setTop (mkF m 38 _ [(.long 4294967295), (.long yb.toInt64), (.long (xb.toInt64 &&& (4294967295 : Int64))), (.long c0_)])) _
    refine XS.land X111.here hx rfl (hb hby d1_38) rfl ?_
    refine XS.ladd X111.here hx rfl (hb hby d1_39) rfl ?_
    show Steps _ _ _ (T111.setTop (mkF m 40 _ [(.long ((xb.toInt64 &&& (4294967295 : Int64)) + (yb.toInt64 &&& (4294967295 : Int64)))), (.long c0_)])) _
    refine XS.ladd X111.here hx rfl (hb hby d1_40) rfl ?_
    refine XS.lstore X111.here hx rfl (hb hby d1_41) rfl (l' := #[rv o0, iv p1, rv o0, iv p1, iv 2, rv o5, iv p6, iv 2, .val (.long (c0_ + ((xb.toInt64 &&& (4294967295 : Int64)) + (yb.toInt64 &&& (4294967295 : Int64))))), .second, iv 1]) rfl ?_
    show Steps _ _ _ (T111.setTop (mkF m 43 _ [])) _
    exact k)
  obtain ⟨s1_, hs1⟩ : ∃ z : Int64, z = (c0_ + ((xb.toInt64 &&& (4294967295 : Int64)) + (yb.toInt64 &&& (4294967295 : Int64)))) := ⟨_, rfl⟩
  rw [← hs1] at go124
  obtain ⟨cl125, Ar125, q125, S125, M125, Hs125, G125⟩ := f119
  have f126 : Arv Z h111 o0 kz_ .int (4 : Int32) (zs_.set ((p1 + (0 : Int32))).toNatClampNeg (.int s0_.toInt32)) (.int 0) := ⟨cl125, Ar125, q125, S125, M125, Hs125, G125⟩
  have hin127 : ¬ ((p1 + (1 : Int32)) < 0 ∨ cl125.slots.size ≤ ((p1 + (1 : Int32))).toNatClampNeg) := inb_of S125 (own_in1 hzO)
  obtain ⟨T127, h127, X127, e127, W127, st127⟩ := stI X111 hx hZ e111 Ar125 (j := (p1 + (1 : Int32))) hin127 (g := (mkF m 51 #[rv o0, iv p1, rv o0, iv p1, iv 2, rv o5, iv p6, iv 2, .val (.long s1_), .second, iv 1] [(.int s1_.toInt32), (.int (p1 + (1 : Int32))), (.ref o0)])) rfl rfl (hb hby d1_51)
  have f128 := f122.other W127 ne_y
  have Z129 := Nat.le_trans Z113 (Keep.of_wr W127).1
  have K130 := K114.wr W127 (Or.inl (List.mem_of_getElem? (i := 0) rfl))
  have V127 : Arv Z h127 o0 kz_ .int (4 : Int32) ((zs_.set ((p1 + (0 : Int32))).toNatClampNeg (.int s0_.toInt32)).set ((p1 + (1 : Int32))).toNatClampNeg (.int s1_.toInt32)) (.int 0) := Arv.set Ar125 q125 S125 M125 Hs125 G125 rfl W127 ((p1 + (1 : Int32))).toNatClampNeg rfl (own_ln1 hzO ((List.length_set ..).trans hl))
  have N127 := Fr.snoc X127 N111 ge_o0
  have go131 : ∀ t, Steps p.tables e below (T127.setTop (mkF m 59 #[rv o0, iv p1, rv o0, iv p1, iv 2, rv o5, iv p6, iv 2, .val (.long ((s1_.toUInt64 >>> ((32 : Int32) &&& 0x3f).toInt64.toUInt64).toInt64)), .second, iv 1] [])) t → Steps p.tables e below O t := fun t k => go124 t (by
    refine XS.aloadN X111.here hx rfl (hb hby d1_43) rfl rfl ?_
    refine XS.iloadN X111.here hx rfl (hb hby d1_44) rfl ?_
    show Steps _ _ _ (T111.setTop (mkF m 45 _ [(.int p1), (.ref o0)])) _
    refine XS.iload X111.here hx rfl (hb hby d1_45) rfl ?_
    refine XS.iadd X111.here hx rfl (hb hby d1_47) rfl ?_
    show Steps _ _ _ (T111.setTop (mkF m 48 _ [(.int (p1 + (1 : Int32))), (.ref o0)])) _
    refine XS.lload X111.here hx rfl (hb hby d1_48) rfl ?_
    refine XS.l2i X111.here hx rfl (hb hby d1_50) rfl ?_
    show Steps _ _ _ (T111.setTop (mkF m 51 _ [(.int s1_.toInt32), (.int (p1 + (1 : Int32))), (.ref o0)])) _
    refine st127 _ ?_
    show Steps _ _ _ (T127.setTop (mkF m 52 _ [])) _
    refine XS.lload X127.here hx rfl (hb hby d1_52) rfl ?_
    refine XS.bipush X127.here hx rfl (hb hby d1_54) ?_
    show Steps _ _ _ (T127.setTop (mkF m 56 _ [(.int 32), (.long s1_)])) _
    refine XS.lushr X127.here hx rfl (hb hby d1_56) rfl ?_
    refine XS.lstore X127.here hx rfl (hb hby d1_57) rfl (l' := #[rv o0, iv p1, rv o0, iv p1, iv 2, rv o5, iv p6, iv 2, .val (.long ((s1_.toUInt64 >>> ((32 : Int32) &&& 0x3f).toInt64.toUInt64).toInt64)), .second, iv 1]) rfl ?_
    show Steps _ _ _ (T127.setTop (mkF m 59 _ [])) _
    exact k)
  obtain ⟨c1_, hc1⟩ : ∃ z : Int64, z = ((s1_.toUInt64 >>> ((32 : Int32) &&& 0x3f).toInt64.toUInt64).toInt64) := ⟨_, rfl⟩
  rw [← hc1] at go131
  have go132 : ∀ t, Steps p.tables e below (T127.setTop (mkF m 10 #[rv o0, iv p1, rv o0, iv p1, iv 2, rv o5, iv p6, iv 2, .val (.long c1_), .second, iv ((1 : Int32) + (1 : Int32))] [(.int 2), (.int ((1 : Int32) + (1 : Int32)))])) t → Steps p.tables e below O t := fun t k => go131 t (by
    refine XS.iinc X127.here hx rfl (hb hby d1_59) rfl (l' := #[rv o0, iv p1, rv o0, iv p1, iv 2, rv o5, iv p6, iv 2, .val (.long c1_), .second, iv ((1 : Int32) + (1 : Int32))]) rfl ?_
    show Steps _ _ _ (T127.setTop (mkF m 62 _ [])) _
    refine XS.goto X127.here hx rfl (pc0 := 62) (pc' := 6) rfl (hb hby d1_62) (by decide) (by decide) ?_
    refine XS.iload X127.here hx rfl (hb hby d1_6) rfl ?_
    show Steps _ _ _ (T127.setTop (mkF m 8 _ [(.int ((1 : Int32) + (1 : Int32)))])) _
    refine XS.iload X127.here hx rfl (hb hby d1_8) rfl ?_
    exact k)
  have go133 : ∀ t, Steps p.tables e below (T127.setTop (mkF m 10 #[rv o0, iv p1, rv o0, iv p1, iv 2, rv o5, iv p6, iv 2, .val (.long c1_), .second, iv 2] [(.int 2), (.int ((1 : Int32) + (1 : Int32)))])) t → Steps p.tables e below O t := go132
  have go134 : ∀ t, Steps p.tables e below (T127.setTop (mkF m 117 #[rv o0, iv p1, rv o0, iv p1, iv 2, rv o5, iv p6, iv 2, .val (.long c1_), .second, iv 2] [(.int c1_.toInt32)])) t → Steps p.tables e below O t := fun t k => go133 t (by
    refine XS.icmpYes X127.here hx rfl (pc0 := 10) (pc' := 65) rfl (hb hby d1_10) rfl (flt (by decide : ¬ ((2 : Int32) < (2 : Int32)))).2.1 (by decide) (by decide) ?_
    refine XS.iload X127.here hx rfl (hb hby d1_65) rfl ?_
    show Steps _ _ _ (T127.setTop (mkF m 67 _ [(.int 2)])) _
    refine XS.istore X127.here hx rfl (hb hby d1_67) rfl (l' := #[rv o0, iv p1, rv o0, iv p1, iv 2, rv o5, iv p6, iv 2, .val (.long c1_), .second, iv 2]) rfl ?_
    show Steps _ _ _ (T127.setTop (mkF m 69 _ [])) _
    refine XS.iload X127.here hx rfl (hb hby d1_69) rfl ?_
    refine XS.iload X127.here hx rfl (hb hby d1_71) rfl ?_
    show Steps _ _ _ (T127.setTop (mkF m 73 _ [(.int 2), (.int 2)])) _
    refine XS.icmpYes X127.here hx rfl (pc0 := 73) (pc' := 114) rfl (hb hby d1_73) rfl (flt (by decide : ¬ ((2 : Int32) < (2 : Int32)))).2.1 (by decide) (by decide) ?_
    refine XS.lload X127.here hx rfl (hb hby d1_114) rfl ?_
    show Steps _ _ _ (T127.setTop (mkF m 116 _ [(.long c1_)])) _
    refine XS.l2i X127.here hx rfl (hb hby d1_116) rfl ?_
    exact k)
  have hp : own_post (2 : Int32) (2 : Int32) xa xb ya yb c1_.toInt32 s0_.toInt32 s1_.toInt32 := by
    subst hc1 hs1 hc0 hs0
    exact own_ar_22 xa xb ya yb
  rw [hO] at go134
  obtain ⟨fs, hr, hrun, hended, hW, hsame⟩ := X127.leave (v := some (.int c1_.toInt32)) (fun h => by rw [Bd.returns] at h; cases h)
  refine ⟨_, _, go134 _ ?_, hrun, hended, _, _, rfl, ?_, ⟨_, rfl⟩, hW, hsame.mono (by decide) (by decide)⟩
  · exact retI X127 hx Bd.returns (hb hby d1_117) hr
  · show Q_ai22 Z o0 p1 o5 p6 kz_ zs_ ky_ ys_ xa xb ya yb h0 n0 _ T127.heap _
    rw [e127]
    exact ⟨_, _, _, rfl, N127, hp, K130, own_put_2 hzO V127⟩
def Q_ai (Z : State) (o0 : Addr) (p1 : Int32) (o5 : Addr) (p6 : Int32) (p4 : Int32) (p7 : Int32) (kz_ : ClassId) (zs_ : List Value) (ky_ : ClassId) (ys_ : List Value) (xa : Int32) (xb : Int32) (ya : Int32) (yb : Int32) (h0 : Heap) (n0 : Nat) (v : Option Value) (h : Heap) (L : List Loc) : Prop := ∃ r u0 u1 : Int32, v = some (.int r) ∧ Fr n0 L ∧ own_post p4 p7 xa xb ya yb r u0 u1 ∧ Keep h0 h [o0] ∧ Arv Z h o0 kz_ .int (4 : Int32) (own_put p4 p1 zs_ u0 u1) (.int (0 : Int32))
theorem rm_ai (l : Launch) (Z : State) (a0 : Array Value) (hw : ∀ d ∈ tables_1, d.before a0 Z = true) (ws : List Jvm.Cond) (o0 : Addr) (p1 : Int32) (o5 : Addr) (p6 : Int32) (p4 : Int32) (p7 : Int32) (kz_ : ClassId) (zs_ : List Value) (ky_ : ClassId) (ys_ : List Value) (xa : Int32) (xb : Int32) (ya : Int32) (yb : Int32) (h0 : Heap) (n0 : Nat) (Z0 : n0 ≤ h0.size) (ge_o0 : n0 ≤ o0) (V_o0 : Arv Z h0 o0 kz_ .int (4 : Int32) zs_ (.int (0 : Int32))) (V_o5 : Arv Z h0 o5 ky_ .int (4 : Int32) ys_ (.int (0 : Int32))) (ne_y : o5 ≠ o0) (hl : zs_.length = 4) (hzO : p1 = (0 : Int32) ∨ p1 = (1 : Int32)) (hyO : p6 = (0 : Int32) ∨ p6 = (1 : Int32)) (hxa : zs_.getD (p1 + (0 : Int32)).toNatClampNeg (.int (0 : Int32)) = .int xa) (hya : ys_.getD (p6 + (0 : Int32)).toNatClampNeg (.int (0 : Int32)) = .int ya) (hxb : zs_.getD (p1 + (1 : Int32)).toNatClampNeg (.int (0 : Int32)) = .int xb) (hyb : ys_.getD (p6 + (1 : Int32)).toNatClampNeg (.int (0 : Int32)) = .int yb) (hnm : (p4 = (0 : Int32) ∧ p7 = (0 : Int32)) ∨ (p4 = (1 : Int32) ∧ p7 = (0 : Int32)) ∨ (p4 = (1 : Int32) ∧ p7 = (1 : Int32)) ∨ (p4 = (2 : Int32) ∧ p7 = (0 : Int32)) ∨ (p4 = (2 : Int32) ∧ p7 = (1 : Int32)) ∨ (p4 = (2 : Int32) ∧ p7 = (2 : Int32))) :
    MetFree l (⟨"com/example/limbwise/kernel/Words", "add", "([II[III[III)I"⟩ : MethodName) (head1 (Jvm.Cond.code (⟨"com/example/limbwise/kernel/Words", "add", "([II[III[III)I"⟩ : MethodName) prog_24_method_2_code 11 (some .int) :: ws) ({ frames := 0, cells := 0, slots := 0, locals := 0 } : Room)) (fun a U => a = #[(.ref o0), (.int p1), (.ref o0), (.int p1), (.int p4), (.ref o5), (.int p6), (.int p7)] ∧ Z.Warmed39 U.vm ∧ U.heap = h0) (fun _ _ _ _ _ => True) (fun _ U o U' => ∃ v L, o = .returned v ∧ Q_ai Z o0 p1 o5 p6 p4 p7 kz_ zs_ ky_ ys_ xa xb ya yb h0 n0 v U'.heap L ∧ FrameEnd U o U' L ({ frames := 0, cells := 0, slots := 0, locals := 0 } : Room).cells ({ frames := 0, cells := 0, slots := 0, locals := 0 } : Room).slots) := by
  rcases hnm with ⟨rfl, rfl⟩ | ⟨rfl, rfl⟩ | ⟨rfl, rfl⟩ | ⟨rfl, rfl⟩ | ⟨rfl, rfl⟩ | ⟨rfl, rfl⟩
  · exact rm_ai00 l Z a0 hw ws o0 p1 o5 p6 kz_ zs_ ky_ ys_ xa xb ya yb h0 n0 Z0 ge_o0 V_o0 V_o5 ne_y hl hzO hyO hxa hya hxb hyb
  · exact rm_ai10 l Z a0 hw ws o0 p1 o5 p6 kz_ zs_ ky_ ys_ xa xb ya yb h0 n0 Z0 ge_o0 V_o0 V_o5 ne_y hl hzO hyO hxa hya hxb hyb
  · exact rm_ai11 l Z a0 hw ws o0 p1 o5 p6 kz_ zs_ ky_ ys_ xa xb ya yb h0 n0 Z0 ge_o0 V_o0 V_o5 ne_y hl hzO hyO hxa hya hxb hyb
  · exact rm_ai20 l Z a0 hw ws o0 p1 o5 p6 kz_ zs_ ky_ ys_ xa xb ya yb h0 n0 Z0 ge_o0 V_o0 V_o5 ne_y hl hzO hyO hxa hya hxb hyb
  · exact rm_ai21 l Z a0 hw ws o0 p1 o5 p6 kz_ zs_ ky_ ys_ xa xb ya yb h0 n0 Z0 ge_o0 V_o0 V_o5 ne_y hl hzO hyO hxa hya hxb hyb
  · exact rm_ai22 l Z a0 hw ws o0 p1 o5 p6 kz_ zs_ ky_ ys_ xa xb ya yb h0 n0 Z0 ge_o0 V_o0 V_o5 ne_y hl hzO hyO hxa hya hxb hyb
theorem ef_aa00 (m : MethodId) (x0 : Addr) (x1 : Int32) (x2 : Addr) (x3 : Int32) (x4 : Int32) (x5 : Addr) (x6 : Int32) (x7 : Int32) : entryFrame m #[(.ref x0), (.int x1), (.ref x2), (.int x3), (.int x7), (.ref x5), (.int x6), (.int x7)] 11 = mkF m 0 #[rv x0, iv x1, rv x2, iv x3, iv x7, rv x5, iv x6, iv x7, .unset, .unset, .unset] [] := by first | (simp [entryFrame, mkF, argsToLocals, Value.category]; done) | rfl
def Q_aa00 (Z : State) (o0 : Addr) (p1 : Int32) (o2 : Addr) (p3 : Int32) (o5 : Addr) (p6 : Int32) (kz_ : ClassId) (zs_ : List Value) (ky_ : ClassId) (ys_ : List Value) (xa : Int32) (xb : Int32) (ya : Int32) (yb : Int32) (kx_ : ClassId) (xs_ : List Value) (h0 : Heap) (n0 : Nat) (v : Option Value) (h : Heap) (L : List Loc) : Prop := ∃ r u0 u1 : Int32, v = some (.int r) ∧ Fr n0 L ∧ own_post (0 : Int32) (0 : Int32) xa xb ya yb r u0 u1 ∧ Keep h0 h [o0] ∧ Arv Z h o0 kz_ .int (4 : Int32) (own_put (0 : Int32) p1 zs_ u0 u1) (.int (0 : Int32))
set_option maxRecDepth 65536 in
set_option maxHeartbeats 40000000 in
theorem rm_aa00 (l : Launch) (Z : State) (a0 : Array Value) (hw : ∀ d ∈ tables_1, d.before a0 Z = true) (ws : List Jvm.Cond) (o0 : Addr) (p1 : Int32) (o2 : Addr) (p3 : Int32) (o5 : Addr) (p6 : Int32) (kz_ : ClassId) (zs_ : List Value) (ky_ : ClassId) (ys_ : List Value) (xa : Int32) (xb : Int32) (ya : Int32) (yb : Int32) (kx_ : ClassId) (xs_ : List Value) (h0 : Heap) (n0 : Nat) (Z0 : n0 ≤ h0.size) (ge_o0 : n0 ≤ o0) (V_o0 : Arv Z h0 o0 kz_ .int (4 : Int32) zs_ (.int (0 : Int32))) (V_o5 : Arv Z h0 o5 ky_ .int (4 : Int32) ys_ (.int (0 : Int32))) (ne_y : o5 ≠ o0) (hl : zs_.length = 4) (V_o2 : Arv Z h0 o2 kx_ .int (4 : Int32) xs_ (.int (0 : Int32))) (ne_x : o2 ≠ o0) (hzO : p1 = (0 : Int32) ∨ p1 = (1 : Int32)) (hyO : p6 = (0 : Int32) ∨ p6 = (1 : Int32)) (hxO : p3 = (0 : Int32) ∨ p3 = (1 : Int32)) (hxa : xs_.getD (p3 + (0 : Int32)).toNatClampNeg (.int (0 : Int32)) = .int xa) (hya : ys_.getD (p6 + (0 : Int32)).toNatClampNeg (.int (0 : Int32)) = .int ya) (hxb : xs_.getD (p3 + (1 : Int32)).toNatClampNeg (.int (0 : Int32)) = .int xb) (hyb : ys_.getD (p6 + (1 : Int32)).toNatClampNeg (.int (0 : Int32)) = .int yb) :
    MetFree l (⟨"com/example/limbwise/kernel/Words", "add", "([II[III[III)I"⟩ : MethodName) (head1 (Jvm.Cond.code (⟨"com/example/limbwise/kernel/Words", "add", "([II[III[III)I"⟩ : MethodName) prog_24_method_2_code 11 (some .int) :: ws) ({ frames := 0, cells := 0, slots := 0, locals := 0 } : Room)) (fun a U => a = #[(.ref o0), (.int p1), (.ref o2), (.int p3), (.int 0), (.ref o5), (.int p6), (.int 0)] ∧ Z.Warmed39 U.vm ∧ U.heap = h0) (fun _ _ _ _ _ => True) (fun _ U o U' => ∃ v L, o = .returned v ∧ Q_aa00 Z o0 p1 o2 p3 o5 p6 kz_ zs_ ky_ ys_ xa xb ya yb kx_ xs_ h0 n0 v U'.heap L ∧ FrameEnd U o U' L ({ frames := 0, cells := 0, slots := 0, locals := 0 } : Room).cells ({ frames := 0, cells := 0, slots := 0, locals := 0 } : Room).slots) := by
  refine MetFree.of_bodySF (plainFor_of_name pn_1) hisR ?_
  intro p e s m args below meth c s₁ Bd hml0 hP hK
  obtain ⟨rfl, hZ, hh⟩ := hP
  have hx := Bd.exec
  have hby := Bd.bytes
  have hml : c.maxLocals = 11 := hml0
  have hown : s.vm.findClass "com/example/limbwise/kernel/Words" = some m.cls := findClass_of_methodNamed Bd.named
  have hnm := (name_of_methodNamed Bd.named Bd.method).1
  have X0 : Stand p l e ({ frames := 0, cells := 0, slots := 0, locals := 0 } : Room) s m #[(.ref o0), (.int p1), (.ref o2), (.int p3), (.int 0), (.ref o5), (.int p6), (.int 0)] below meth c s₁ [] 0 0 := Stand.of_body Bd
  have e0 : s₁.heap = h0 := by rw [← hh, Bd.state]; rfl
  have N0 := Fr.nil n0
  have go0 : ∀ t, Steps p.tables e below (s₁.setTop (mkF m 0 #[rv o0, iv p1, rv o2, iv p3, iv 0, rv o5, iv p6, iv 0, .unset, .unset, .unset] [])) t → Steps p.tables e below (s₁.setTop (entryFrame m #[(.ref o0), (.int p1), (.ref o2), (.int p3), (.int 0), (.ref o5), (.int p6), (.int 0)] 11)) t := fun t k => castTop (ef_aa00 m o0 p1 o2 p3 (0 : Int32) o5 p6 (0 : Int32)) k
  obtain ⟨O, hO⟩ : ∃ z, z = (s₁.setTop (entryFrame m #[(.ref o0), (.int p1), (.ref o2), (.int p3), (.int 0), (.ref o5), (.int p6), (.int 0)] 11)) := ⟨_, rfl⟩
  rw [← hO] at go0
  have K101 := Keep.refl h0 [o0]
  have go102 : ∀ t, Steps p.tables e below (s₁.setTop (mkF m 117 #[rv o0, iv p1, rv o2, iv p3, iv 0, rv o5, iv p6, iv 0, .val (.long 0), .second, iv 0] [(.int (0 : Int64).toInt32)])) t → Steps p.tables e below O t := fun t k => go0 t (by
    refine XS.lconst X0.here hx rfl (hb hby d1_0) ?_
    refine XS.lstore X0.here hx rfl (hb hby d1_1) rfl (l' := #[rv o0, iv p1, rv o2, iv p3, iv 0, rv o5, iv p6, iv 0, .val (.long 0), .second, .unset]) rfl ?_
    show Steps _ _ _ (s₁.setTop (mkF m 3 _ [])) _
    refine XS.iconst X0.here hx rfl (hb hby d1_3) ?_
    refine XS.istore X0.here hx rfl (hb hby d1_4) rfl (l' := #[rv o0, iv p1, rv o2, iv p3, iv 0, rv o5, iv p6, iv 0, .val (.long 0), .second, iv 0]) rfl ?_
    show Steps _ _ _ (s₁.setTop (mkF m 6 _ [])) _
    refine XS.iload X0.here hx rfl (hb hby d1_6) rfl ?_
    refine XS.iload X0.here hx rfl (hb hby d1_8) rfl ?_
    show Steps _ _ _ (s₁.setTop (mkF m 10 _ [(.int 0), (.int 0)])) _
    refine XS.icmpYes X0.here hx rfl (pc0 := 10) (pc' := 65) rfl (hb hby d1_10) rfl (flt (by decide : ¬ ((0 : Int32) < (0 : Int32)))).2.1 (by decide) (by decide) ?_
    refine XS.iload X0.here hx rfl (hb hby d1_65) rfl ?_
    show Steps _ _ _ (s₁.setTop (mkF m 67 _ [(.int 0)])) _
    refine XS.istore X0.here hx rfl (hb hby d1_67) rfl (l' := #[rv o0, iv p1, rv o2, iv p3, iv 0, rv o5, iv p6, iv 0, .val (.long 0), .second, iv 0]) rfl ?_
    show Steps _ _ _ (s₁.setTop (mkF m 69 _ [])) _
    refine XS.iload X0.here hx rfl (hb hby d1_69) rfl ?_
    refine XS.iload X0.here hx rfl (hb hby d1_71) rfl ?_
    show Steps _ _ _ (s₁.setTop (mkF m 73 _ [(.int 0), (.int 0)])) _
    refine XS.icmpYes X0.here hx rfl (pc0 := 73) (pc' := 114) rfl (hb hby d1_73) rfl (flt (by decide : ¬ ((0 : Int32) < (0 : Int32)))).2.1 (by decide) (by decide) ?_
    refine XS.lload X0.here hx rfl (hb hby d1_114) rfl ?_
    show Steps _ _ _ (s₁.setTop (mkF m 116 _ [(.long 0)])) _
    refine XS.l2i X0.here hx rfl (hb hby d1_116) rfl ?_
    exact k)
  have hp : own_post (0 : Int32) (0 : Int32) xa xb ya yb (0 : Int64).toInt32 (0 : Int32) (0 : Int32) := by
    exact own_ar_00 xa xb ya yb (0 : Int32) (0 : Int32)
  rw [hO] at go102
  obtain ⟨fs, hr, hrun, hended, hW, hsame⟩ := X0.leave (v := some (.int (0 : Int64).toInt32)) (fun h => by rw [Bd.returns] at h; cases h)
  refine ⟨_, _, go102 _ ?_, hrun, hended, _, _, rfl, ?_, ⟨_, rfl⟩, hW, hsame.mono (by decide) (by decide)⟩
  · exact retI X0 hx Bd.returns (hb hby d1_117) hr
  · show Q_aa00 Z o0 p1 o2 p3 o5 p6 kz_ zs_ ky_ ys_ xa xb ya yb kx_ xs_ h0 n0 _ s₁.heap _
    rw [e0]
    exact ⟨_, _, _, rfl, N0, hp, K101, own_put_0 V_o0⟩
theorem ef_aa10 (m : MethodId) (x0 : Addr) (x1 : Int32) (x2 : Addr) (x3 : Int32) (x4 : Int32) (x5 : Addr) (x6 : Int32) (x7 : Int32) : entryFrame m #[(.ref x0), (.int x1), (.ref x2), (.int x3), (.int x4), (.ref x5), (.int x6), (.int x7)] 11 = mkF m 0 #[rv x0, iv x1, rv x2, iv x3, iv x4, rv x5, iv x6, iv x7, .unset, .unset, .unset] [] := by first | (simp [entryFrame, mkF, argsToLocals, Value.category]; done) | rfl
def Q_aa10 (Z : State) (o0 : Addr) (p1 : Int32) (o2 : Addr) (p3 : Int32) (o5 : Addr) (p6 : Int32) (kz_ : ClassId) (zs_ : List Value) (ky_ : ClassId) (ys_ : List Value) (xa : Int32) (xb : Int32) (ya : Int32) (yb : Int32) (kx_ : ClassId) (xs_ : List Value) (h0 : Heap) (n0 : Nat) (v : Option Value) (h : Heap) (L : List Loc) : Prop := ∃ r u0 u1 : Int32, v = some (.int r) ∧ Fr n0 L ∧ own_post (1 : Int32) (0 : Int32) xa xb ya yb r u0 u1 ∧ Keep h0 h [o0] ∧ Arv Z h o0 kz_ .int (4 : Int32) (own_put (1 : Int32) p1 zs_ u0 u1) (.int (0 : Int32))
set_option maxRecDepth 65536 in
set_option maxHeartbeats 40000000 in
theorem rm_aa10 (l : Launch) (Z : State) (a0 : Array Value) (hw : ∀ d ∈ tables_1, d.before a0 Z = true) (ws : List Jvm.Cond) (o0 : Addr) (p1 : Int32) (o2 : Addr) (p3 : Int32) (o5 : Addr) (p6 : Int32) (kz_ : ClassId) (zs_ : List Value) (ky_ : ClassId) (ys_ : List Value) (xa : Int32) (xb : Int32) (ya : Int32) (yb : Int32) (kx_ : ClassId) (xs_ : List Value) (h0 : Heap) (n0 : Nat) (Z0 : n0 ≤ h0.size) (ge_o0 : n0 ≤ o0) (V_o0 : Arv Z h0 o0 kz_ .int (4 : Int32) zs_ (.int (0 : Int32))) (V_o5 : Arv Z h0 o5 ky_ .int (4 : Int32) ys_ (.int (0 : Int32))) (ne_y : o5 ≠ o0) (hl : zs_.length = 4) (V_o2 : Arv Z h0 o2 kx_ .int (4 : Int32) xs_ (.int (0 : Int32))) (ne_x : o2 ≠ o0) (hzO : p1 = (0 : Int32) ∨ p1 = (1 : Int32)) (hyO : p6 = (0 : Int32) ∨ p6 = (1 : Int32)) (hxO : p3 = (0 : Int32) ∨ p3 = (1 : Int32)) (hxa : xs_.getD (p3 + (0 : Int32)).toNatClampNeg (.int (0 : Int32)) = .int xa) (hya : ys_.getD (p6 + (0 : Int32)).toNatClampNeg (.int (0 : Int32)) = .int ya) (hxb : xs_.getD (p3 + (1 : Int32)).toNatClampNeg (.int (0 : Int32)) = .int xb) (hyb : ys_.getD (p6 + (1 : Int32)).toNatClampNeg (.int (0 : Int32)) = .int yb) :
    MetFree l (⟨"com/example/limbwise/kernel/Words", "add", "([II[III[III)I"⟩ : MethodName) (head1 (Jvm.Cond.code (⟨"com/example/limbwise/kernel/Words", "add", "([II[III[III)I"⟩ : MethodName) prog_24_method_2_code 11 (some .int) :: ws) ({ frames := 0, cells := 0, slots := 0, locals := 0 } : Room)) (fun a U => a = #[(.ref o0), (.int p1), (.ref o2), (.int p3), (.int 1), (.ref o5), (.int p6), (.int 0)] ∧ Z.Warmed39 U.vm ∧ U.heap = h0) (fun _ _ _ _ _ => True) (fun _ U o U' => ∃ v L, o = .returned v ∧ Q_aa10 Z o0 p1 o2 p3 o5 p6 kz_ zs_ ky_ ys_ xa xb ya yb kx_ xs_ h0 n0 v U'.heap L ∧ FrameEnd U o U' L ({ frames := 0, cells := 0, slots := 0, locals := 0 } : Room).cells ({ frames := 0, cells := 0, slots := 0, locals := 0 } : Room).slots) := by
  refine MetFree.of_bodySF (plainFor_of_name pn_1) hisR ?_
  intro p e s m args below meth c s₁ Bd hml0 hP hK
  obtain ⟨rfl, hZ, hh⟩ := hP
  have hx := Bd.exec
  have hby := Bd.bytes
  have hml : c.maxLocals = 11 := hml0
  have hown : s.vm.findClass "com/example/limbwise/kernel/Words" = some m.cls := findClass_of_methodNamed Bd.named
  have hnm := (name_of_methodNamed Bd.named Bd.method).1
  have X0 : Stand p l e ({ frames := 0, cells := 0, slots := 0, locals := 0 } : Room) s m #[(.ref o0), (.int p1), (.ref o2), (.int p3), (.int 1), (.ref o5), (.int p6), (.int 0)] below meth c s₁ [] 0 0 := Stand.of_body Bd
  have e0 : s₁.heap = h0 := by rw [← hh, Bd.state]; rfl
  have N0 := Fr.nil n0
  have go0 : ∀ t, Steps p.tables e below (s₁.setTop (mkF m 0 #[rv o0, iv p1, rv o2, iv p3, iv 1, rv o5, iv p6, iv 0, .unset, .unset, .unset] [])) t → Steps p.tables e below (s₁.setTop (entryFrame m #[(.ref o0), (.int p1), (.ref o2), (.int p3), (.int 1), (.ref o5), (.int p6), (.int 0)] 11)) t := fun t k => castTop (ef_aa10 m o0 p1 o2 p3 (1 : Int32) o5 p6 (0 : Int32)) k
  obtain ⟨O, hO⟩ : ∃ z, z = (s₁.setTop (entryFrame m #[(.ref o0), (.int p1), (.ref o2), (.int p3), (.int 1), (.ref o5), (.int p6), (.int 0)] 11)) := ⟨_, rfl⟩
  rw [← hO] at go0
  have K101 := Keep.refl h0 [o0]
  obtain ⟨cl102, Ar102, q102, S102, M102, Hs102, G102⟩ := V_o2
  have f103 : Arv Z h0 o2 kx_ .int (4 : Int32) xs_ (.int 0) := ⟨cl102, Ar102, q102, S102, M102, Hs102, G102⟩
  have hin104 : ¬ ((p3 + (0 : Int32)) < 0 ∨ cl102.slots.size ≤ ((p3 + (0 : Int32))).toNatClampNeg) := inb_of S102 (own_in0 hxO)
  have hat104 : cl102.slots[((p3 + (0 : Int32))).toNatClampNeg]? = some (.int xa) := Hs102.at hin104 hxa
  have go105 : ∀ t, Steps p.tables e below (s₁.setTop (mkF m 92 #[rv o0, iv p1, rv o2, iv p3, iv 1, rv o5, iv p6, iv 0, .val (.long ((0 : Int64) + (xa.toInt64 &&& (4294967295 : Int64)))), .second, iv 0] [])) t → Steps p.tables e below O t := fun t k => go0 t (by
    refine XS.lconst X0.here hx rfl (hb hby d1_0) ?_
    refine XS.lstore X0.here hx rfl (hb hby d1_1) rfl (l' := #[rv o0, iv p1, rv o2, iv p3, iv 1, rv o5, iv p6, iv 0, .val (.long 0), .second, .unset]) rfl ?_
    show Steps _ _ _ (s₁.setTop (mkF m 3 _ [])) _
    refine XS.iconst X0.here hx rfl (hb hby d1_3) ?_
    refine XS.istore X0.here hx rfl (hb hby d1_4) rfl (l' := #[rv o0, iv p1, rv o2, iv p3, iv 1, rv o5, iv p6, iv 0, .val (.long 0), .second, iv 0]) rfl ?_
    show Steps _ _ _ (s₁.setTop (mkF m 6 _ [])) _
    refine XS.iload X0.here hx rfl (hb hby d1_6) rfl ?_
    refine XS.iload X0.here hx rfl (hb hby d1_8) rfl ?_
    show Steps _ _ _ (s₁.setTop (mkF m 10 _ [(.int 0), (.int 0)])) _
    refine XS.icmpYes X0.here hx rfl (pc0 := 10) (pc' := 65) rfl (hb hby d1_10) rfl (flt (by decide : ¬ ((0 : Int32) < (0 : Int32)))).2.1 (by decide) (by decide) ?_
    refine XS.iload X0.here hx rfl (hb hby d1_65) rfl ?_
    show Steps _ _ _ (s₁.setTop (mkF m 67 _ [(.int 0)])) _
    refine XS.istore X0.here hx rfl (hb hby d1_67) rfl (l' := #[rv o0, iv p1, rv o2, iv p3, iv 1, rv o5, iv p6, iv 0, .val (.long 0), .second, iv 0]) rfl ?_
    show Steps _ _ _ (s₁.setTop (mkF m 69 _ [])) _
    refine XS.iload X0.here hx rfl (hb hby d1_69) rfl ?_
    refine XS.iload X0.here hx rfl (hb hby d1_71) rfl ?_
    show Steps _ _ _ (s₁.setTop (mkF m 73 _ [(.int 1), (.int 0)])) _
    refine XS.icmpNo X0.here hx rfl (hb hby d1_73) rfl (tlt (by decide : (0 : Int32) < (1 : Int32))).2.1 ?_
    refine XS.lload X0.here hx rfl (hb hby d1_76) rfl ?_
    show Steps _ _ _ (s₁.setTop (mkF m 78 _ [(.long 0)])) _
    refine XS.aloadN X0.here hx rfl (hb hby d1_78) rfl rfl ?_
    refine XS.iloadN X0.here hx rfl (hb hby d1_79) rfl ?_
    show Steps _ _ _ (s₁.setTop (mkF m 80 _ [(.int p3), (.ref o2), (.long 0)])) _
    refine XS.iload X0.here hx rfl (hb hby d1_80) rfl ?_
    refine XS.iadd X0.here hx rfl (hb hby d1_82) rfl ?_
    show Steps _ _ _ (s₁.setTop (mkF m 83 _ [(.int (p3 + (0 : Int32))), (.ref o2), (.long 0)])) _
    refine X0.iaload hx (j := (p3 + (0 : Int32))) (v := (.int xa)) (by rw [e0]; exact Ar102.1) (State.isArrayOf_alike hZ.alike Ar102.2.1) Ar102.2.2 hin104 hat104 (g := (mkF m 83 #[rv o0, iv p1, rv o2, iv p3, iv 1, rv o5, iv p6, iv 0, .val (.long 0), .second, iv 0] [(.int (p3 + (0 : Int32))), (.ref o2), (.long 0)])) rfl rfl (hb hby d1_83) _ ?_
    refine XS.i2l X0.here hx rfl (hb hby d1_84) rfl ?_
    show Steps _ _ _ (s₁.setTop (mkF m 85 _ [(.long xa.toInt64), (.long 0)])) _
    refine X0.ldc2Long hx hown (mvT hZ (hw _ (List.mem_of_getElem? (i := 12) rfl))) (g := (mkF m 85 #[rv o0, iv p1, rv o2, iv p3, iv 1, rv o5, iv p6, iv 0, .val (.long 0), .second, iv 0] [(.long xa.toInt64), (.long 0)])) rfl (hb hby d1_85) _ ?_
    refine XS.land X0.here hx rfl (hb hby d1_88) rfl ?_
    show Steps _ _ _ (s₁.setTop (mkF m 89 _ [(.long (xa.toInt64 &&& (4294967295 : Int64))), (.long 0)])) _
    refine XS.ladd X0.here hx rfl (hb hby d1_89) rfl ?_
    show Steps _ _ _ (s₁.setTop (mkF m 90 #[rv o0, iv p1, rv o2, iv p3, iv 1, rv o5, iv p6, iv 0, .val (.long 0), .second, iv 0] [(.long ((0 : Int64) + (xa.toInt64 &&& (4294967295 : Int64))))])) _
    refine XS.lstore X0.here hx rfl (hb hby d1_90) rfl (l' := #[rv o0, iv p1, rv o2, iv p3, iv 1, rv o5, iv p6, iv 0, .val (.long ((0 : Int64) + (xa.toInt64 &&& (4294967295 : Int64)))), .second, iv 0]) rfl ?_
    show Steps _ _ _ (s₁.setTop (mkF m 92 _ [])) _
    exact k)
  obtain ⟨s0_, hs0⟩ : ∃ z : Int64, z = ((0 : Int64) + (xa.toInt64 &&& (4294967295 : Int64))) := ⟨_, rfl⟩
  rw [← hs0] at go105
  obtain ⟨cl106, Ar106, q106, S106, M106, Hs106, G106⟩ := V_o0
  have f107 : Arv Z h0 o0 kz_ .int (4 : Int32) zs_ (.int 0) := ⟨cl106, Ar106, q106, S106, M106, Hs106, G106⟩
  have hin108 : ¬ ((p1 + (0 : Int32)) < 0 ∨ cl106.slots.size ≤ ((p1 + (0 : Int32))).toNatClampNeg) := inb_of S106 (own_in0 hzO)
  obtain ⟨T108, h108, X108, e108, W108, st108⟩ := stI X0 hx hZ e0 Ar106 (j := (p1 + (0 : Int32))) hin108 (g := (mkF m 100 #[rv o0, iv p1, rv o2, iv p3, iv 1, rv o5, iv p6, iv 0, .val (.long s0_), .second, iv 0] [(.int s0_.toInt32), (.int (p1 + (0 : Int32))), (.ref o0)])) rfl rfl (hb hby d1_100)
  have f109 := V_o5.other W108 ne_y
  have f110 := f103.other W108 ne_x
  have Z111 := Nat.le_trans Z0 (Keep.of_wr W108).1
  have K112 := K101.wr W108 (Or.inl (List.mem_of_getElem? (i := 0) rfl))
  have V108 : Arv Z h108 o0 kz_ .int (4 : Int32) (zs_.set ((p1 + (0 : Int32))).toNatClampNeg (.int s0_.toInt32)) (.int 0) := Arv.set Ar106 q106 S106 M106 Hs106 G106 rfl W108 ((p1 + (0 : Int32))).toNatClampNeg rfl (own_ln0 hzO hl)
  have N108 := Fr.snoc X108 N0 ge_o0
  have go113 : ∀ t, Steps p.tables e below (T108.setTop (mkF m 108 #[rv o0, iv p1, rv o2, iv p3, iv 1, rv o5, iv p6, iv 0, .val (.long ((s0_.toUInt64 >>> ((32 : Int32) &&& 0x3f).toInt64.toUInt64).toInt64)), .second, iv 0] [])) t → Steps p.tables e below O t := fun t k => go105 t (by
    refine XS.aloadN X0.here hx rfl (hb hby d1_92) rfl rfl ?_
    refine XS.iloadN X0.here hx rfl (hb hby d1_93) rfl ?_
    show Steps _ _ _ (s₁.setTop (mkF m 94 _ [(.int p1), (.ref o0)])) _
    refine XS.iload X0.here hx rfl (hb hby d1_94) rfl ?_
    refine XS.iadd X0.here hx rfl (hb hby d1_96) rfl ?_
    show Steps _ _ _ (s₁.setTop (mkF m 97 _ [(.int (p1 + (0 : Int32))), (.ref o0)])) _
    refine XS.lload X0.here hx rfl (hb hby d1_97) rfl ?_
    refine XS.l2i X0.here hx rfl (hb hby d1_99) rfl ?_
    show Steps _ _ _ (s₁.setTop (mkF m 100 _ [(.int s0_.toInt32), (.int (p1 + (0 : Int32))), (.ref o0)])) _
    refine st108 _ ?_
    show Steps _ _ _ (T108.setTop (mkF m 101 _ [])) _
    refine XS.lload X108.here hx rfl (hb hby d1_101) rfl ?_
    refine XS.bipush X108.here hx rfl (hb hby d1_103) ?_
    show Steps _ _ _ (T108.setTop (mkF m 105 _ [(.int 32), (.long s0_)])) _
    refine XS.lushr X108.here hx rfl (hb hby d1_105) rfl ?_
    refine XS.lstore X108.here hx rfl (hb hby d1_106) rfl (l' := #[rv o0, iv p1, rv o2, iv p3, iv 1, rv o5, iv p6, iv 0, .val (.long ((s0_.toUInt64 >>> ((32 : Int32) &&& 0x3f).toInt64.toUInt64).toInt64)), .second, iv 0]) rfl ?_
    show Steps _ _ _ (T108.setTop (mkF m 108 _ [])) _
    exact k)
  obtain ⟨c0_, hc0⟩ : ∃ z : Int64, z = ((s0_.toUInt64 >>> ((32 : Int32) &&& 0x3f).toInt64.toUInt64).toInt64) := ⟨_, rfl⟩
  rw [← hc0] at go113
  have go114 : ∀ t, Steps p.tables e below (T108.setTop (mkF m 73 #[rv o0, iv p1, rv o2, iv p3, iv 1, rv o5, iv p6, iv 0, .val (.long c0_), .second, iv ((0 : Int32) + (1 : Int32))] [(.int 1), (.int ((0 : Int32) + (1 : Int32)))])) t → Steps p.tables e below O t := fun t k => go113 t (by
    refine XS.iinc X108.here hx rfl (hb hby d1_108) rfl (l' := #[rv o0, iv p1, rv o2, iv p3, iv 1, rv o5, iv p6, iv 0, .val (.long c0_), .second, iv ((0 : Int32) + (1 : Int32))]) rfl ?_
    show Steps _ _ _ (T108.setTop (mkF m 111 _ [])) _
    refine XS.goto X108.here hx rfl (pc0 := 111) (pc' := 69) rfl (hb hby d1_111) (by decide) (by decide) ?_
    refine XS.iload X108.here hx rfl (hb hby d1_69) rfl ?_
    show Steps _ _ _ (T108.setTop (mkF m 71 _ [(.int ((0 : Int32) + (1 : Int32)))])) _
    refine XS.iload X108.here hx rfl (hb hby d1_71) rfl ?_
    exact k)
  have go115 : ∀ t, Steps p.tables e below (T108.setTop (mkF m 73 #[rv o0, iv p1, rv o2, iv p3, iv 1, rv o5, iv p6, iv 0, .val (.long c0_), .second, iv 1] [(.int 1), (.int ((0 : Int32) + (1 : Int32)))])) t → Steps p.tables e below O t := go114
  have go116 : ∀ t, Steps p.tables e below (T108.setTop (mkF m 117 #[rv o0, iv p1, rv o2, iv p3, iv 1, rv o5, iv p6, iv 0, .val (.long c0_), .second, iv 1] [(.int c0_.toInt32)])) t → Steps p.tables e below O t := fun t k => go115 t (by
    refine XS.icmpYes X108.here hx rfl (pc0 := 73) (pc' := 114) rfl (hb hby d1_73) rfl (flt (by decide : ¬ ((1 : Int32) < (1 : Int32)))).2.1 (by decide) (by decide) ?_
    refine XS.lload X108.here hx rfl (hb hby d1_114) rfl ?_
    show Steps _ _ _ (T108.setTop (mkF m 116 _ [(.long c0_)])) _
    refine XS.l2i X108.here hx rfl (hb hby d1_116) rfl ?_
    exact k)
  have hp : own_post (1 : Int32) (0 : Int32) xa xb ya yb c0_.toInt32 s0_.toInt32 (0 : Int32) := by
    subst hc0 hs0
    exact own_ar_10 xa xb ya yb (0 : Int32)
  rw [hO] at go116
  obtain ⟨fs, hr, hrun, hended, hW, hsame⟩ := X108.leave (v := some (.int c0_.toInt32)) (fun h => by rw [Bd.returns] at h; cases h)
  refine ⟨_, _, go116 _ ?_, hrun, hended, _, _, rfl, ?_, ⟨_, rfl⟩, hW, hsame.mono (by decide) (by decide)⟩
  · exact retI X108 hx Bd.returns (hb hby d1_117) hr
  · show Q_aa10 Z o0 p1 o2 p3 o5 p6 kz_ zs_ ky_ ys_ xa xb ya yb kx_ xs_ h0 n0 _ T108.heap _
    rw [e108]
    exact ⟨_, _, _, rfl, N108, hp, K112, own_put_1 hzO V108⟩
theorem ef_aa11 (m : MethodId) (x0 : Addr) (x1 : Int32) (x2 : Addr) (x3 : Int32) (x4 : Int32) (x5 : Addr) (x6 : Int32) (x7 : Int32) : entryFrame m #[(.ref x0), (.int x1), (.ref x2), (.int x3), (.int x7), (.ref x5), (.int x6), (.int x7)] 11 = mkF m 0 #[rv x0, iv x1, rv x2, iv x3, iv x7, rv x5, iv x6, iv x7, .unset, .unset, .unset] [] := by first | (simp [entryFrame, mkF, argsToLocals, Value.category]; done) | rfl
def Q_aa11 (Z : State) (o0 : Addr) (p1 : Int32) (o2 : Addr) (p3 : Int32) (o5 : Addr) (p6 : Int32) (kz_ : ClassId) (zs_ : List Value) (ky_ : ClassId) (ys_ : List Value) (xa : Int32) (xb : Int32) (ya : Int32) (yb : Int32) (kx_ : ClassId) (xs_ : List Value) (h0 : Heap) (n0 : Nat) (v : Option Value) (h : Heap) (L : List Loc) : Prop := ∃ r u0 u1 : Int32, v = some (.int r) ∧ Fr n0 L ∧ own_post (1 : Int32) (1 : Int32) xa xb ya yb r u0 u1 ∧ Keep h0 h [o0] ∧ Arv Z h o0 kz_ .int (4 : Int32) (own_put (1 : Int32) p1 zs_ u0 u1) (.int (0 : Int32))
set_option maxRecDepth 65536 in
set_option maxHeartbeats 40000000 in
theorem rm_aa11 (l : Launch) (Z : State) (a0 : Array Value) (hw : ∀ d ∈ tables_1, d.before a0 Z = true) (ws : List Jvm.Cond) (o0 : Addr) (p1 : Int32) (o2 : Addr) (p3 : Int32) (o5 : Addr) (p6 : Int32) (kz_ : ClassId) (zs_ : List Value) (ky_ : ClassId) (ys_ : List Value) (xa : Int32) (xb : Int32) (ya : Int32) (yb : Int32) (kx_ : ClassId) (xs_ : List Value) (h0 : Heap) (n0 : Nat) (Z0 : n0 ≤ h0.size) (ge_o0 : n0 ≤ o0) (V_o0 : Arv Z h0 o0 kz_ .int (4 : Int32) zs_ (.int (0 : Int32))) (V_o5 : Arv Z h0 o5 ky_ .int (4 : Int32) ys_ (.int (0 : Int32))) (ne_y : o5 ≠ o0) (hl : zs_.length = 4) (V_o2 : Arv Z h0 o2 kx_ .int (4 : Int32) xs_ (.int (0 : Int32))) (ne_x : o2 ≠ o0) (hzO : p1 = (0 : Int32) ∨ p1 = (1 : Int32)) (hyO : p6 = (0 : Int32) ∨ p6 = (1 : Int32)) (hxO : p3 = (0 : Int32) ∨ p3 = (1 : Int32)) (hxa : xs_.getD (p3 + (0 : Int32)).toNatClampNeg (.int (0 : Int32)) = .int xa) (hya : ys_.getD (p6 + (0 : Int32)).toNatClampNeg (.int (0 : Int32)) = .int ya) (hxb : xs_.getD (p3 + (1 : Int32)).toNatClampNeg (.int (0 : Int32)) = .int xb) (hyb : ys_.getD (p6 + (1 : Int32)).toNatClampNeg (.int (0 : Int32)) = .int yb) :
    MetFree l (⟨"com/example/limbwise/kernel/Words", "add", "([II[III[III)I"⟩ : MethodName) (head1 (Jvm.Cond.code (⟨"com/example/limbwise/kernel/Words", "add", "([II[III[III)I"⟩ : MethodName) prog_24_method_2_code 11 (some .int) :: ws) ({ frames := 0, cells := 0, slots := 0, locals := 0 } : Room)) (fun a U => a = #[(.ref o0), (.int p1), (.ref o2), (.int p3), (.int 1), (.ref o5), (.int p6), (.int 1)] ∧ Z.Warmed39 U.vm ∧ U.heap = h0) (fun _ _ _ _ _ => True) (fun _ U o U' => ∃ v L, o = .returned v ∧ Q_aa11 Z o0 p1 o2 p3 o5 p6 kz_ zs_ ky_ ys_ xa xb ya yb kx_ xs_ h0 n0 v U'.heap L ∧ FrameEnd U o U' L ({ frames := 0, cells := 0, slots := 0, locals := 0 } : Room).cells ({ frames := 0, cells := 0, slots := 0, locals := 0 } : Room).slots) := by
  refine MetFree.of_bodySF (plainFor_of_name pn_1) hisR ?_
  intro p e s m args below meth c s₁ Bd hml0 hP hK
  obtain ⟨rfl, hZ, hh⟩ := hP
  have hx := Bd.exec
  have hby := Bd.bytes
  have hml : c.maxLocals = 11 := hml0
  have hown : s.vm.findClass "com/example/limbwise/kernel/Words" = some m.cls := findClass_of_methodNamed Bd.named
  have hnm := (name_of_methodNamed Bd.named Bd.method).1
  have X0 : Stand p l e ({ frames := 0, cells := 0, slots := 0, locals := 0 } : Room) s m #[(.ref o0), (.int p1), (.ref o2), (.int p3), (.int 1), (.ref o5), (.int p6), (.int 1)] below meth c s₁ [] 0 0 := Stand.of_body Bd
  have e0 : s₁.heap = h0 := by rw [← hh, Bd.state]; rfl
  have N0 := Fr.nil n0
  have go0 : ∀ t, Steps p.tables e below (s₁.setTop (mkF m 0 #[rv o0, iv p1, rv o2, iv p3, iv 1, rv o5, iv p6, iv 1, .unset, .unset, .unset] [])) t → Steps p.tables e below (s₁.setTop (entryFrame m #[(.ref o0), (.int p1), (.ref o2), (.int p3), (.int 1), (.ref o5), (.int p6), (.int 1)] 11)) t := fun t k => castTop (ef_aa11 m o0 p1 o2 p3 (1 : Int32) o5 p6 (1 : Int32)) k
  obtain ⟨O, hO⟩ : ∃ z, z = (s₁.setTop (entryFrame m #[(.ref o0), (.int p1), (.ref o2), (.int p3), (.int 1), (.ref o5), (.int p6), (.int 1)] 11)) := ⟨_, rfl⟩
  rw [← hO] at go0
  have K101 := Keep.refl h0 [o0]
  obtain ⟨cl102, Ar102, q102, S102, M102, Hs102, G102⟩ := V_o2
  have f103 : Arv Z h0 o2 kx_ .int (4 : Int32) xs_ (.int 0) := ⟨cl102, Ar102, q102, S102, M102, Hs102, G102⟩
  have hin104 : ¬ ((p3 + (0 : Int32)) < 0 ∨ cl102.slots.size ≤ ((p3 + (0 : Int32))).toNatClampNeg) := inb_of S102 (own_in0 hxO)
  have hat104 : cl102.slots[((p3 + (0 : Int32))).toNatClampNeg]? = some (.int xa) := Hs102.at hin104 hxa
  obtain ⟨cl105, Ar105, q105, S105, M105, Hs105, G105⟩ := V_o5
  have f106 : Arv Z h0 o5 ky_ .int (4 : Int32) ys_ (.int 0) := ⟨cl105, Ar105, q105, S105, M105, Hs105, G105⟩
  have hin107 : ¬ ((p6 + (0 : Int32)) < 0 ∨ cl105.slots.size ≤ ((p6 + (0 : Int32))).toNatClampNeg) := inb_of S105 (own_in0 hyO)
  have hat107 : cl105.slots[((p6 + (0 : Int32))).toNatClampNeg]? = some (.int ya) := Hs105.at hin107 hya
  have go108 : ∀ t, Steps p.tables e below (s₁.setTop (mkF m 43 #[rv o0, iv p1, rv o2, iv p3, iv 1, rv o5, iv p6, iv 1, .val (.long ((0 : Int64) + ((xa.toInt64 &&& (4294967295 : Int64)) + (ya.toInt64 &&& (4294967295 : Int64))))), .second, iv 0] [])) t → Steps p.tables e below O t := fun t k => go0 t (by
    refine XS.lconst X0.here hx rfl (hb hby d1_0) ?_
    refine XS.lstore X0.here hx rfl (hb hby d1_1) rfl (l' := #[rv o0, iv p1, rv o2, iv p3, iv 1, rv o5, iv p6, iv 1, .val (.long 0), .second, .unset]) rfl ?_
    show Steps _ _ _ (s₁.setTop (mkF m 3 _ [])) _
    refine XS.iconst X0.here hx rfl (hb hby d1_3) ?_
    refine XS.istore X0.here hx rfl (hb hby d1_4) rfl (l' := #[rv o0, iv p1, rv o2, iv p3, iv 1, rv o5, iv p6, iv 1, .val (.long 0), .second, iv 0]) rfl ?_
    show Steps _ _ _ (s₁.setTop (mkF m 6 _ [])) _
    refine XS.iload X0.here hx rfl (hb hby d1_6) rfl ?_
    refine XS.iload X0.here hx rfl (hb hby d1_8) rfl ?_
    show Steps _ _ _ (s₁.setTop (mkF m 10 _ [(.int 1), (.int 0)])) _
    refine XS.icmpNo X0.here hx rfl (hb hby d1_10) rfl (tlt (by decide : (0 : Int32) < (1 : Int32))).2.1 ?_
    refine XS.lload X0.here hx rfl (hb hby d1_13) rfl ?_
    show Steps _ _ _ (s₁.setTop (mkF m 15 _ [(.long 0)])) _
    refine XS.aloadN X0.here hx rfl (hb hby d1_15) rfl rfl ?_
    refine XS.iloadN X0.here hx rfl (hb hby d1_16) rfl ?_
    show Steps _ _ _ (s₁.setTop (mkF m 17 _ [(.int p3), (.ref o2), (.long 0)])) _
    refine XS.iload X0.here hx rfl (hb hby d1_17) rfl ?_
    refine XS.iadd X0.here hx rfl (hb hby d1_19) rfl ?_
    show Steps _ _ _ (s₁.setTop (mkF m 20 _ [(.int (p3 + (0 : Int32))), (.ref o2), (.long 0)])) _
    refine X0.iaload hx (j := (p3 + (0 : Int32))) (v := (.int xa)) (by rw [e0]; exact Ar102.1) (State.isArrayOf_alike hZ.alike Ar102.2.1) Ar102.2.2 hin104 hat104 (g := (mkF m 20 #[rv o0, iv p1, rv o2, iv p3, iv 1, rv o5, iv p6, iv 1, .val (.long 0), .second, iv 0] [(.int (p3 + (0 : Int32))), (.ref o2), (.long 0)])) rfl rfl (hb hby d1_20) _ ?_
    refine XS.i2l X0.here hx rfl (hb hby d1_21) rfl ?_
    show Steps _ _ _ (s₁.setTop (mkF m 22 _ [(.long xa.toInt64), (.long 0)])) _
    refine X0.ldc2Long hx hown (mvT hZ (hw _ (List.mem_of_getElem? (i := 12) rfl))) (g := (mkF m 22 #[rv o0, iv p1, rv o2, iv p3, iv 1, rv o5, iv p6, iv 1, .val (.long 0), .second, iv 0] [(.long xa.toInt64), (.long 0)])) rfl (hb hby d1_22) _ ?_
    refine XS.land X0.here hx rfl (hb hby d1_25) rfl ?_
    show Steps _ _ _ (s₁.setTop (mkF m 26 _ [(.long (xa.toInt64 &&& (4294967295 : Int64))), (.long 0)])) _
    refine XS.aload X0.here hx rfl (hb hby d1_26) rfl rfl ?_
    show Steps _ _ _ (s₁.setTop (mkF m 28 #[rv o0, iv p1, rv o2, iv p3, iv 1, rv o5, iv p6, iv 1, .val (.long 0), .second, iv 0] [(.ref o5), (.long (xa.toInt64 &&& (4294967295 : Int64))), (.long 0)])) _
    refine XS.iload X0.here hx rfl (hb hby d1_28) rfl ?_
    refine XS.iload X0.here hx rfl (hb hby d1_30) rfl ?_
    show Steps _ _ _ (s₁.setTop (mkF m 32 _ [(.int 0), (.int p6), (.ref o5), (.long (xa.toInt64 &&& (4294967295 : Int64))), (.long 0)])) _
    refine XS.iadd X0.here hx rfl (hb hby d1_32) rfl ?_
    refine X0.iaload hx (j := (p6 + (0 : Int32))) (v := (.int ya)) (by rw [e0]; exact Ar105.1) (State.isArrayOf_alike hZ.alike Ar105.2.1) Ar105.2.2 hin107 hat107 (g := (mkF m 33 #[rv o0, iv p1, rv o2, iv p3, iv 1, rv o5, iv p6, iv 1, .val (.long 0), .second, iv 0] [(.int (p6 + (0 : Int32))), (.ref o5), (.long (xa.toInt64 &&& (4294967295 : Int64))), (.long 0)])) rfl rfl (hb hby d1_33) _ ?_
    show Steps _ _ _ (s₁.setTop (mkF m 34 _ [(.int ya), (.long (xa.toInt64 &&& (4294967295 : Int64))), (.long 0)])) _
    refine XS.i2l X0.here hx rfl (hb hby d1_34) rfl ?_
    refine X0.ldc2Long hx hown (mvT hZ (hw _ (List.mem_of_getElem? (i := 12) rfl))) (g := (mkF m 35 #[rv o0, iv p1, rv o2, iv p3, iv 1, rv o5, iv p6, iv 1, .val (.long 0), .second, iv 0] [(.long ya.toInt64), (.long (xa.toInt64 &&& (4294967295 : Int64))), (.long 0)])) rfl (hb hby d1_35) _ ?_
    show Steps _ _ _ (s₁.setTop (mkF m 38 _ [(.long 4294967295), (.long ya.toInt64), (.long (xa.toInt64 &&& (4294967295 : Int64))), (.long 0)])) _
    refine XS.land X0.here hx rfl (hb hby d1_38) rfl ?_
    refine XS.ladd X0.here hx rfl (hb hby d1_39) rfl ?_
    show Steps _ _ _ (s₁.setTop (mkF m 40 _ [(.long ((xa.toInt64 &&& (4294967295 : Int64)) + (ya.toInt64 &&& (4294967295 : Int64)))), (.long 0)])) _
    refine XS.ladd X0.here hx rfl (hb hby d1_40) rfl ?_
    refine XS.lstore X0.here hx rfl (hb hby d1_41) rfl (l' := #[rv o0, iv p1, rv o2, iv p3, iv 1, rv o5, iv p6, iv 1, .val (.long ((0 : Int64) + ((xa.toInt64 &&& (4294967295 : Int64)) + (ya.toInt64 &&& (4294967295 : Int64))))), .second, iv 0]) rfl ?_
    show Steps _ _ _ (s₁.setTop (mkF m 43 _ [])) _
    exact k)
  obtain ⟨s0_, hs0⟩ : ∃ z : Int64, z = ((0 : Int64) + ((xa.toInt64 &&& (4294967295 : Int64)) + (ya.toInt64 &&& (4294967295 : Int64)))) := ⟨_, rfl⟩
  rw [← hs0] at go108
  obtain ⟨cl109, Ar109, q109, S109, M109, Hs109, G109⟩ := V_o0
  have f110 : Arv Z h0 o0 kz_ .int (4 : Int32) zs_ (.int 0) := ⟨cl109, Ar109, q109, S109, M109, Hs109, G109⟩
  have hin111 : ¬ ((p1 + (0 : Int32)) < 0 ∨ cl109.slots.size ≤ ((p1 + (0 : Int32))).toNatClampNeg) := inb_of S109 (own_in0 hzO)
  obtain ⟨T111, h111, X111, e111, W111, st111⟩ := stI X0 hx hZ e0 Ar109 (j := (p1 + (0 : Int32))) hin111 (g := (mkF m 51 #[rv o0, iv p1, rv o2, iv p3, iv 1, rv o5, iv p6, iv 1, .val (.long s0_), .second, iv 0] [(.int s0_.toInt32), (.int (p1 + (0 : Int32))), (.ref o0)])) rfl rfl (hb hby d1_51)
  have f112 := f106.other W111 ne_y
  have f113 := f103.other W111 ne_x
  have Z114 := Nat.le_trans Z0 (Keep.of_wr W111).1
  have K115 := K101.wr W111 (Or.inl (List.mem_of_getElem? (i := 0) rfl))
  have V111 : Arv Z h111 o0 kz_ .int (4 : Int32) (zs_.set ((p1 + (0 : Int32))).toNatClampNeg (.int s0_.toInt32)) (.int 0) := Arv.set Ar109 q109 S109 M109 Hs109 G109 rfl W111 ((p1 + (0 : Int32))).toNatClampNeg rfl (own_ln0 hzO hl)
  have N111 := Fr.snoc X111 N0 ge_o0
  have go116 : ∀ t, Steps p.tables e below (T111.setTop (mkF m 59 #[rv o0, iv p1, rv o2, iv p3, iv 1, rv o5, iv p6, iv 1, .val (.long ((s0_.toUInt64 >>> ((32 : Int32) &&& 0x3f).toInt64.toUInt64).toInt64)), .second, iv 0] [])) t → Steps p.tables e below O t := fun t k => go108 t (by
    refine XS.aloadN X0.here hx rfl (hb hby d1_43) rfl rfl ?_
    refine XS.iloadN X0.here hx rfl (hb hby d1_44) rfl ?_
    show Steps _ _ _ (s₁.setTop (mkF m 45 _ [(.int p1), (.ref o0)])) _
    refine XS.iload X0.here hx rfl (hb hby d1_45) rfl ?_
    refine XS.iadd X0.here hx rfl (hb hby d1_47) rfl ?_
    show Steps _ _ _ (s₁.setTop (mkF m 48 _ [(.int (p1 + (0 : Int32))), (.ref o0)])) _
    refine XS.lload X0.here hx rfl (hb hby d1_48) rfl ?_
    refine XS.l2i X0.here hx rfl (hb hby d1_50) rfl ?_
    show Steps _ _ _ (s₁.setTop (mkF m 51 _ [(.int s0_.toInt32), (.int (p1 + (0 : Int32))), (.ref o0)])) _
    refine st111 _ ?_
    show Steps _ _ _ (T111.setTop (mkF m 52 _ [])) _
    refine XS.lload X111.here hx rfl (hb hby d1_52) rfl ?_
    refine XS.bipush X111.here hx rfl (hb hby d1_54) ?_
    show Steps _ _ _ (T111.setTop (mkF m 56 _ [(.int 32), (.long s0_)])) _
    refine XS.lushr X111.here hx rfl (hb hby d1_56) rfl ?_
    refine XS.lstore X111.here hx rfl (hb hby d1_57) rfl (l' := #[rv o0, iv p1, rv o2, iv p3, iv 1, rv o5, iv p6, iv 1, .val (.long ((s0_.toUInt64 >>> ((32 : Int32) &&& 0x3f).toInt64.toUInt64).toInt64)), .second, iv 0]) rfl ?_
    show Steps _ _ _ (T111.setTop (mkF m 59 _ [])) _
    exact k)
  obtain ⟨c0_, hc0⟩ : ∃ z : Int64, z = ((s0_.toUInt64 >>> ((32 : Int32) &&& 0x3f).toInt64.toUInt64).toInt64) := ⟨_, rfl⟩
  rw [← hc0] at go116
  have go117 : ∀ t, Steps p.tables e below (T111.setTop (mkF m 10 #[rv o0, iv p1, rv o2, iv p3, iv 1, rv o5, iv p6, iv 1, .val (.long c0_), .second, iv ((0 : Int32) + (1 : Int32))] [(.int 1), (.int ((0 : Int32) + (1 : Int32)))])) t → Steps p.tables e below O t := fun t k => go116 t (by
    refine XS.iinc X111.here hx rfl (hb hby d1_59) rfl (l' := #[rv o0, iv p1, rv o2, iv p3, iv 1, rv o5, iv p6, iv 1, .val (.long c0_), .second, iv ((0 : Int32) + (1 : Int32))]) rfl ?_
    show Steps _ _ _ (T111.setTop (mkF m 62 _ [])) _
    refine XS.goto X111.here hx rfl (pc0 := 62) (pc' := 6) rfl (hb hby d1_62) (by decide) (by decide) ?_
    refine XS.iload X111.here hx rfl (hb hby d1_6) rfl ?_
    show Steps _ _ _ (T111.setTop (mkF m 8 _ [(.int ((0 : Int32) + (1 : Int32)))])) _
    refine XS.iload X111.here hx rfl (hb hby d1_8) rfl ?_
    exact k)
  have go118 : ∀ t, Steps p.tables e below (T111.setTop (mkF m 10 #[rv o0, iv p1, rv o2, iv p3, iv 1, rv o5, iv p6, iv 1, .val (.long c0_), .second, iv 1] [(.int 1), (.int ((0 : Int32) + (1 : Int32)))])) t → Steps p.tables e below O t := go117
  have go119 : ∀ t, Steps p.tables e below (T111.setTop (mkF m 117 #[rv o0, iv p1, rv o2, iv p3, iv 1, rv o5, iv p6, iv 1, .val (.long c0_), .second, iv 1] [(.int c0_.toInt32)])) t → Steps p.tables e below O t := fun t k => go118 t (by
    refine XS.icmpYes X111.here hx rfl (pc0 := 10) (pc' := 65) rfl (hb hby d1_10) rfl (flt (by decide : ¬ ((1 : Int32) < (1 : Int32)))).2.1 (by decide) (by decide) ?_
    refine XS.iload X111.here hx rfl (hb hby d1_65) rfl ?_
    show Steps _ _ _ (T111.setTop (mkF m 67 _ [(.int 1)])) _
    refine XS.istore X111.here hx rfl (hb hby d1_67) rfl (l' := #[rv o0, iv p1, rv o2, iv p3, iv 1, rv o5, iv p6, iv 1, .val (.long c0_), .second, iv 1]) rfl ?_
    show Steps _ _ _ (T111.setTop (mkF m 69 _ [])) _
    refine XS.iload X111.here hx rfl (hb hby d1_69) rfl ?_
    refine XS.iload X111.here hx rfl (hb hby d1_71) rfl ?_
    show Steps _ _ _ (T111.setTop (mkF m 73 _ [(.int 1), (.int 1)])) _
    refine XS.icmpYes X111.here hx rfl (pc0 := 73) (pc' := 114) rfl (hb hby d1_73) rfl (flt (by decide : ¬ ((1 : Int32) < (1 : Int32)))).2.1 (by decide) (by decide) ?_
    refine XS.lload X111.here hx rfl (hb hby d1_114) rfl ?_
    show Steps _ _ _ (T111.setTop (mkF m 116 _ [(.long c0_)])) _
    refine XS.l2i X111.here hx rfl (hb hby d1_116) rfl ?_
    exact k)
  have hp : own_post (1 : Int32) (1 : Int32) xa xb ya yb c0_.toInt32 s0_.toInt32 (0 : Int32) := by
    subst hc0 hs0
    exact own_ar_11 xa xb ya yb (0 : Int32)
  rw [hO] at go119
  obtain ⟨fs, hr, hrun, hended, hW, hsame⟩ := X111.leave (v := some (.int c0_.toInt32)) (fun h => by rw [Bd.returns] at h; cases h)
  refine ⟨_, _, go119 _ ?_, hrun, hended, _, _, rfl, ?_, ⟨_, rfl⟩, hW, hsame.mono (by decide) (by decide)⟩
  · exact retI X111 hx Bd.returns (hb hby d1_117) hr
  · show Q_aa11 Z o0 p1 o2 p3 o5 p6 kz_ zs_ ky_ ys_ xa xb ya yb kx_ xs_ h0 n0 _ T111.heap _
    rw [e111]
    exact ⟨_, _, _, rfl, N111, hp, K115, own_put_1 hzO V111⟩
theorem ef_aa20 (m : MethodId) (x0 : Addr) (x1 : Int32) (x2 : Addr) (x3 : Int32) (x4 : Int32) (x5 : Addr) (x6 : Int32) (x7 : Int32) : entryFrame m #[(.ref x0), (.int x1), (.ref x2), (.int x3), (.int x4), (.ref x5), (.int x6), (.int x7)] 11 = mkF m 0 #[rv x0, iv x1, rv x2, iv x3, iv x4, rv x5, iv x6, iv x7, .unset, .unset, .unset] [] := by first | (simp [entryFrame, mkF, argsToLocals, Value.category]; done) | rfl
def Q_aa20 (Z : State) (o0 : Addr) (p1 : Int32) (o2 : Addr) (p3 : Int32) (o5 : Addr) (p6 : Int32) (kz_ : ClassId) (zs_ : List Value) (ky_ : ClassId) (ys_ : List Value) (xa : Int32) (xb : Int32) (ya : Int32) (yb : Int32) (kx_ : ClassId) (xs_ : List Value) (h0 : Heap) (n0 : Nat) (v : Option Value) (h : Heap) (L : List Loc) : Prop := ∃ r u0 u1 : Int32, v = some (.int r) ∧ Fr n0 L ∧ own_post (2 : Int32) (0 : Int32) xa xb ya yb r u0 u1 ∧ Keep h0 h [o0] ∧ Arv Z h o0 kz_ .int (4 : Int32) (own_put (2 : Int32) p1 zs_ u0 u1) (.int (0 : Int32))
set_option maxRecDepth 65536 in
set_option maxHeartbeats 40000000 in
theorem rm_aa20 (l : Launch) (Z : State) (a0 : Array Value) (hw : ∀ d ∈ tables_1, d.before a0 Z = true) (ws : List Jvm.Cond) (o0 : Addr) (p1 : Int32) (o2 : Addr) (p3 : Int32) (o5 : Addr) (p6 : Int32) (kz_ : ClassId) (zs_ : List Value) (ky_ : ClassId) (ys_ : List Value) (xa : Int32) (xb : Int32) (ya : Int32) (yb : Int32) (kx_ : ClassId) (xs_ : List Value) (h0 : Heap) (n0 : Nat) (Z0 : n0 ≤ h0.size) (ge_o0 : n0 ≤ o0) (V_o0 : Arv Z h0 o0 kz_ .int (4 : Int32) zs_ (.int (0 : Int32))) (V_o5 : Arv Z h0 o5 ky_ .int (4 : Int32) ys_ (.int (0 : Int32))) (ne_y : o5 ≠ o0) (hl : zs_.length = 4) (V_o2 : Arv Z h0 o2 kx_ .int (4 : Int32) xs_ (.int (0 : Int32))) (ne_x : o2 ≠ o0) (hzO : p1 = (0 : Int32) ∨ p1 = (1 : Int32)) (hyO : p6 = (0 : Int32) ∨ p6 = (1 : Int32)) (hxO : p3 = (0 : Int32) ∨ p3 = (1 : Int32)) (hxa : xs_.getD (p3 + (0 : Int32)).toNatClampNeg (.int (0 : Int32)) = .int xa) (hya : ys_.getD (p6 + (0 : Int32)).toNatClampNeg (.int (0 : Int32)) = .int ya) (hxb : xs_.getD (p3 + (1 : Int32)).toNatClampNeg (.int (0 : Int32)) = .int xb) (hyb : ys_.getD (p6 + (1 : Int32)).toNatClampNeg (.int (0 : Int32)) = .int yb) :
    MetFree l (⟨"com/example/limbwise/kernel/Words", "add", "([II[III[III)I"⟩ : MethodName) (head1 (Jvm.Cond.code (⟨"com/example/limbwise/kernel/Words", "add", "([II[III[III)I"⟩ : MethodName) prog_24_method_2_code 11 (some .int) :: ws) ({ frames := 0, cells := 0, slots := 0, locals := 0 } : Room)) (fun a U => a = #[(.ref o0), (.int p1), (.ref o2), (.int p3), (.int 2), (.ref o5), (.int p6), (.int 0)] ∧ Z.Warmed39 U.vm ∧ U.heap = h0) (fun _ _ _ _ _ => True) (fun _ U o U' => ∃ v L, o = .returned v ∧ Q_aa20 Z o0 p1 o2 p3 o5 p6 kz_ zs_ ky_ ys_ xa xb ya yb kx_ xs_ h0 n0 v U'.heap L ∧ FrameEnd U o U' L ({ frames := 0, cells := 0, slots := 0, locals := 0 } : Room).cells ({ frames := 0, cells := 0, slots := 0, locals := 0 } : Room).slots) := by
  refine MetFree.of_bodySF (plainFor_of_name pn_1) hisR ?_
  intro p e s m args below meth c s₁ Bd hml0 hP hK
  obtain ⟨rfl, hZ, hh⟩ := hP
  have hx := Bd.exec
  have hby := Bd.bytes
  have hml : c.maxLocals = 11 := hml0
  have hown : s.vm.findClass "com/example/limbwise/kernel/Words" = some m.cls := findClass_of_methodNamed Bd.named
  have hnm := (name_of_methodNamed Bd.named Bd.method).1
  have X0 : Stand p l e ({ frames := 0, cells := 0, slots := 0, locals := 0 } : Room) s m #[(.ref o0), (.int p1), (.ref o2), (.int p3), (.int 2), (.ref o5), (.int p6), (.int 0)] below meth c s₁ [] 0 0 := Stand.of_body Bd
  have e0 : s₁.heap = h0 := by rw [← hh, Bd.state]; rfl
  have N0 := Fr.nil n0
  have go0 : ∀ t, Steps p.tables e below (s₁.setTop (mkF m 0 #[rv o0, iv p1, rv o2, iv p3, iv 2, rv o5, iv p6, iv 0, .unset, .unset, .unset] [])) t → Steps p.tables e below (s₁.setTop (entryFrame m #[(.ref o0), (.int p1), (.ref o2), (.int p3), (.int 2), (.ref o5), (.int p6), (.int 0)] 11)) t := fun t k => castTop (ef_aa20 m o0 p1 o2 p3 (2 : Int32) o5 p6 (0 : Int32)) k
  obtain ⟨O, hO⟩ : ∃ z, z = (s₁.setTop (entryFrame m #[(.ref o0), (.int p1), (.ref o2), (.int p3), (.int 2), (.ref o5), (.int p6), (.int 0)] 11)) := ⟨_, rfl⟩
  rw [← hO] at go0
  have K101 := Keep.refl h0 [o0]
  obtain ⟨cl102, Ar102, q102, S102, M102, Hs102, G102⟩ := V_o2
  have f103 : Arv Z h0 o2 kx_ .int (4 : Int32) xs_ (.int 0) := ⟨cl102, Ar102, q102, S102, M102, Hs102, G102⟩
  have hin104 : ¬ ((p3 + (0 : Int32)) < 0 ∨ cl102.slots.size ≤ ((p3 + (0 : Int32))).toNatClampNeg) := inb_of S102 (own_in0 hxO)
  have hat104 : cl102.slots[((p3 + (0 : Int32))).toNatClampNeg]? = some (.int xa) := Hs102.at hin104 hxa
  have go105 : ∀ t, Steps p.tables e below (s₁.setTop (mkF m 92 #[rv o0, iv p1, rv o2, iv p3, iv 2, rv o5, iv p6, iv 0, .val (.long ((0 : Int64) + (xa.toInt64 &&& (4294967295 : Int64)))), .second, iv 0] [])) t → Steps p.tables e below O t := fun t k => go0 t (by
    refine XS.lconst X0.here hx rfl (hb hby d1_0) ?_
    refine XS.lstore X0.here hx rfl (hb hby d1_1) rfl (l' := #[rv o0, iv p1, rv o2, iv p3, iv 2, rv o5, iv p6, iv 0, .val (.long 0), .second, .unset]) rfl ?_
    show Steps _ _ _ (s₁.setTop (mkF m 3 _ [])) _
    refine XS.iconst X0.here hx rfl (hb hby d1_3) ?_
    refine XS.istore X0.here hx rfl (hb hby d1_4) rfl (l' := #[rv o0, iv p1, rv o2, iv p3, iv 2, rv o5, iv p6, iv 0, .val (.long 0), .second, iv 0]) rfl ?_
    show Steps _ _ _ (s₁.setTop (mkF m 6 _ [])) _
    refine XS.iload X0.here hx rfl (hb hby d1_6) rfl ?_
    refine XS.iload X0.here hx rfl (hb hby d1_8) rfl ?_
    show Steps _ _ _ (s₁.setTop (mkF m 10 _ [(.int 0), (.int 0)])) _
    refine XS.icmpYes X0.here hx rfl (pc0 := 10) (pc' := 65) rfl (hb hby d1_10) rfl (flt (by decide : ¬ ((0 : Int32) < (0 : Int32)))).2.1 (by decide) (by decide) ?_
    refine XS.iload X0.here hx rfl (hb hby d1_65) rfl ?_
    show Steps _ _ _ (s₁.setTop (mkF m 67 _ [(.int 0)])) _
    refine XS.istore X0.here hx rfl (hb hby d1_67) rfl (l' := #[rv o0, iv p1, rv o2, iv p3, iv 2, rv o5, iv p6, iv 0, .val (.long 0), .second, iv 0]) rfl ?_
    show Steps _ _ _ (s₁.setTop (mkF m 69 _ [])) _
    refine XS.iload X0.here hx rfl (hb hby d1_69) rfl ?_
    refine XS.iload X0.here hx rfl (hb hby d1_71) rfl ?_
    show Steps _ _ _ (s₁.setTop (mkF m 73 _ [(.int 2), (.int 0)])) _
    refine XS.icmpNo X0.here hx rfl (hb hby d1_73) rfl (tlt (by decide : (0 : Int32) < (2 : Int32))).2.1 ?_
    refine XS.lload X0.here hx rfl (hb hby d1_76) rfl ?_
    show Steps _ _ _ (s₁.setTop (mkF m 78 _ [(.long 0)])) _
    refine XS.aloadN X0.here hx rfl (hb hby d1_78) rfl rfl ?_
    refine XS.iloadN X0.here hx rfl (hb hby d1_79) rfl ?_
    show Steps _ _ _ (s₁.setTop (mkF m 80 _ [(.int p3), (.ref o2), (.long 0)])) _
    refine XS.iload X0.here hx rfl (hb hby d1_80) rfl ?_
    refine XS.iadd X0.here hx rfl (hb hby d1_82) rfl ?_
    show Steps _ _ _ (s₁.setTop (mkF m 83 _ [(.int (p3 + (0 : Int32))), (.ref o2), (.long 0)])) _
    refine X0.iaload hx (j := (p3 + (0 : Int32))) (v := (.int xa)) (by rw [e0]; exact Ar102.1) (State.isArrayOf_alike hZ.alike Ar102.2.1) Ar102.2.2 hin104 hat104 (g := (mkF m 83 #[rv o0, iv p1, rv o2, iv p3, iv 2, rv o5, iv p6, iv 0, .val (.long 0), .second, iv 0] [(.int (p3 + (0 : Int32))), (.ref o2), (.long 0)])) rfl rfl (hb hby d1_83) _ ?_
    refine XS.i2l X0.here hx rfl (hb hby d1_84) rfl ?_
    show Steps _ _ _ (s₁.setTop (mkF m 85 _ [(.long xa.toInt64), (.long 0)])) _
    refine X0.ldc2Long hx hown (mvT hZ (hw _ (List.mem_of_getElem? (i := 12) rfl))) (g := (mkF m 85 #[rv o0, iv p1, rv o2, iv p3, iv 2, rv o5, iv p6, iv 0, .val (.long 0), .second, iv 0] [(.long xa.toInt64), (.long 0)])) rfl (hb hby d1_85) _ ?_
    refine XS.land X0.here hx rfl (hb hby d1_88) rfl ?_
    show Steps _ _ _ (s₁.setTop (mkF m 89 _ [(.long (xa.toInt64 &&& (4294967295 : Int64))), (.long 0)])) _
    refine XS.ladd X0.here hx rfl (hb hby d1_89) rfl ?_
    show Steps _ _ _ (s₁.setTop (mkF m 90 #[rv o0, iv p1, rv o2, iv p3, iv 2, rv o5, iv p6, iv 0, .val (.long 0), .second, iv 0] [(.long ((0 : Int64) + (xa.toInt64 &&& (4294967295 : Int64))))])) _
    refine XS.lstore X0.here hx rfl (hb hby d1_90) rfl (l' := #[rv o0, iv p1, rv o2, iv p3, iv 2, rv o5, iv p6, iv 0, .val (.long ((0 : Int64) + (xa.toInt64 &&& (4294967295 : Int64)))), .second, iv 0]) rfl ?_
    show Steps _ _ _ (s₁.setTop (mkF m 92 _ [])) _
    exact k)
  obtain ⟨s0_, hs0⟩ : ∃ z : Int64, z = ((0 : Int64) + (xa.toInt64 &&& (4294967295 : Int64))) := ⟨_, rfl⟩
  rw [← hs0] at go105
  obtain ⟨cl106, Ar106, q106, S106, M106, Hs106, G106⟩ := V_o0
  have f107 : Arv Z h0 o0 kz_ .int (4 : Int32) zs_ (.int 0) := ⟨cl106, Ar106, q106, S106, M106, Hs106, G106⟩
  have hin108 : ¬ ((p1 + (0 : Int32)) < 0 ∨ cl106.slots.size ≤ ((p1 + (0 : Int32))).toNatClampNeg) := inb_of S106 (own_in0 hzO)
  obtain ⟨T108, h108, X108, e108, W108, st108⟩ := stI X0 hx hZ e0 Ar106 (j := (p1 + (0 : Int32))) hin108 (g := (mkF m 100 #[rv o0, iv p1, rv o2, iv p3, iv 2, rv o5, iv p6, iv 0, .val (.long s0_), .second, iv 0] [(.int s0_.toInt32), (.int (p1 + (0 : Int32))), (.ref o0)])) rfl rfl (hb hby d1_100)
  have f109 := V_o5.other W108 ne_y
  have f110 := f103.other W108 ne_x
  have Z111 := Nat.le_trans Z0 (Keep.of_wr W108).1
  have K112 := K101.wr W108 (Or.inl (List.mem_of_getElem? (i := 0) rfl))
  have V108 : Arv Z h108 o0 kz_ .int (4 : Int32) (zs_.set ((p1 + (0 : Int32))).toNatClampNeg (.int s0_.toInt32)) (.int 0) := Arv.set Ar106 q106 S106 M106 Hs106 G106 rfl W108 ((p1 + (0 : Int32))).toNatClampNeg rfl (own_ln0 hzO hl)
  have N108 := Fr.snoc X108 N0 ge_o0
  have go113 : ∀ t, Steps p.tables e below (T108.setTop (mkF m 108 #[rv o0, iv p1, rv o2, iv p3, iv 2, rv o5, iv p6, iv 0, .val (.long ((s0_.toUInt64 >>> ((32 : Int32) &&& 0x3f).toInt64.toUInt64).toInt64)), .second, iv 0] [])) t → Steps p.tables e below O t := fun t k => go105 t (by
    refine XS.aloadN X0.here hx rfl (hb hby d1_92) rfl rfl ?_
    refine XS.iloadN X0.here hx rfl (hb hby d1_93) rfl ?_
    show Steps _ _ _ (s₁.setTop (mkF m 94 _ [(.int p1), (.ref o0)])) _
    refine XS.iload X0.here hx rfl (hb hby d1_94) rfl ?_
    refine XS.iadd X0.here hx rfl (hb hby d1_96) rfl ?_
    show Steps _ _ _ (s₁.setTop (mkF m 97 _ [(.int (p1 + (0 : Int32))), (.ref o0)])) _
    refine XS.lload X0.here hx rfl (hb hby d1_97) rfl ?_
    refine XS.l2i X0.here hx rfl (hb hby d1_99) rfl ?_
    show Steps _ _ _ (s₁.setTop (mkF m 100 _ [(.int s0_.toInt32), (.int (p1 + (0 : Int32))), (.ref o0)])) _
    refine st108 _ ?_
    show Steps _ _ _ (T108.setTop (mkF m 101 _ [])) _
    refine XS.lload X108.here hx rfl (hb hby d1_101) rfl ?_
    refine XS.bipush X108.here hx rfl (hb hby d1_103) ?_
    show Steps _ _ _ (T108.setTop (mkF m 105 _ [(.int 32), (.long s0_)])) _
    refine XS.lushr X108.here hx rfl (hb hby d1_105) rfl ?_
    refine XS.lstore X108.here hx rfl (hb hby d1_106) rfl (l' := #[rv o0, iv p1, rv o2, iv p3, iv 2, rv o5, iv p6, iv 0, .val (.long ((s0_.toUInt64 >>> ((32 : Int32) &&& 0x3f).toInt64.toUInt64).toInt64)), .second, iv 0]) rfl ?_
    show Steps _ _ _ (T108.setTop (mkF m 108 _ [])) _
    exact k)
  obtain ⟨c0_, hc0⟩ : ∃ z : Int64, z = ((s0_.toUInt64 >>> ((32 : Int32) &&& 0x3f).toInt64.toUInt64).toInt64) := ⟨_, rfl⟩
  rw [← hc0] at go113
  have go114 : ∀ t, Steps p.tables e below (T108.setTop (mkF m 73 #[rv o0, iv p1, rv o2, iv p3, iv 2, rv o5, iv p6, iv 0, .val (.long c0_), .second, iv ((0 : Int32) + (1 : Int32))] [(.int 2), (.int ((0 : Int32) + (1 : Int32)))])) t → Steps p.tables e below O t := fun t k => go113 t (by
    refine XS.iinc X108.here hx rfl (hb hby d1_108) rfl (l' := #[rv o0, iv p1, rv o2, iv p3, iv 2, rv o5, iv p6, iv 0, .val (.long c0_), .second, iv ((0 : Int32) + (1 : Int32))]) rfl ?_
    show Steps _ _ _ (T108.setTop (mkF m 111 _ [])) _
    refine XS.goto X108.here hx rfl (pc0 := 111) (pc' := 69) rfl (hb hby d1_111) (by decide) (by decide) ?_
    refine XS.iload X108.here hx rfl (hb hby d1_69) rfl ?_
    show Steps _ _ _ (T108.setTop (mkF m 71 _ [(.int ((0 : Int32) + (1 : Int32)))])) _
    refine XS.iload X108.here hx rfl (hb hby d1_71) rfl ?_
    exact k)
  have go115 : ∀ t, Steps p.tables e below (T108.setTop (mkF m 73 #[rv o0, iv p1, rv o2, iv p3, iv 2, rv o5, iv p6, iv 0, .val (.long c0_), .second, iv 1] [(.int 2), (.int ((0 : Int32) + (1 : Int32)))])) t → Steps p.tables e below O t := go114
  obtain ⟨cl116, Ar116, q116, S116, M116, Hs116, G116⟩ := f110
  have f117 : Arv Z h108 o2 kx_ .int (4 : Int32) xs_ (.int 0) := ⟨cl116, Ar116, q116, S116, M116, Hs116, G116⟩
  have hin118 : ¬ ((p3 + (1 : Int32)) < 0 ∨ cl116.slots.size ≤ ((p3 + (1 : Int32))).toNatClampNeg) := inb_of S116 (own_in1 hxO)
  have hat118 : cl116.slots[((p3 + (1 : Int32))).toNatClampNeg]? = some (.int xb) := Hs116.at hin118 hxb
  have go119 : ∀ t, Steps p.tables e below (T108.setTop (mkF m 92 #[rv o0, iv p1, rv o2, iv p3, iv 2, rv o5, iv p6, iv 0, .val (.long (c0_ + (xb.toInt64 &&& (4294967295 : Int64)))), .second, iv 1] [])) t → Steps p.tables e below O t := fun t k => go115 t (by
    refine XS.icmpNo X108.here hx rfl (hb hby d1_73) rfl (tlt (by decide : (1 : Int32) < (2 : Int32))).2.1 ?_
    refine XS.lload X108.here hx rfl (hb hby d1_76) rfl ?_
    show Steps _ _ _ (T108.setTop (mkF m 78 _ [(.long c0_)])) _
    refine XS.aloadN X108.here hx rfl (hb hby d1_78) rfl rfl ?_
    refine XS.iloadN X108.here hx rfl (hb hby d1_79) rfl ?_
    show Steps _ _ _ (T108.setTop (mkF m 80 _ [(.int p3), (.ref o2), (.long c0_)])) _
    refine XS.iload X108.here hx rfl (hb hby d1_80) rfl ?_
    refine XS.iadd X108.here hx rfl (hb hby d1_82) rfl ?_
    show Steps _ _ _ (T108.setTop (mkF m 83 _ [(.int (p3 + (1 : Int32))), (.ref o2), (.long c0_)])) _
    refine X108.iaload hx (j := (p3 + (1 : Int32))) (v := (.int xb)) (by rw [e108]; exact Ar116.1) (State.isArrayOf_alike hZ.alike Ar116.2.1) Ar116.2.2 hin118 hat118 (g := (mkF m 83 #[rv o0, iv p1, rv o2, iv p3, iv 2, rv o5, iv p6, iv 0, .val (.long c0_), .second, iv 1] [(.int (p3 + (1 : Int32))), (.ref o2), (.long c0_)])) rfl rfl (hb hby d1_83) _ ?_
    refine XS.i2l X108.here hx rfl (hb hby d1_84) rfl ?_
    show Steps _ _ _ (T108.setTop (mkF m 85 _ [(.long xb.toInt64), (.long c0_)])) _
    refine X108.ldc2Long hx hown (mvT hZ (hw _ (List.mem_of_getElem? (i := 12) rfl))) (g := (mkF m 85 #[rv o0, iv p1, rv o2, iv p3, iv 2, rv o5, iv p6, iv 0, .val (.long c0_), .second, iv 1] [(.long xb.toInt64), (.long c0_)])) rfl (hb hby d1_85) _ ?_
    refine XS.land X108.here hx rfl (hb hby d1_88) rfl ?_
    show Steps _ _ _ (T108.setTop (mkF m 89 _ [(.long (xb.toInt64 &&& (4294967295 : Int64))), (.long c0_)])) _
    refine XS.ladd X108.here hx rfl (hb hby d1_89) rfl ?_
    refine XS.lstore X108.here hx rfl (hb hby d1_90) rfl (l' := #[rv o0, iv p1, rv o2, iv p3, iv 2, rv o5, iv p6, iv 0, .val (.long (c0_ + (xb.toInt64 &&& (4294967295 : Int64)))), .second, iv 1]) rfl ?_
    show Steps _ _ _ (T108.setTop (mkF m 92 _ [])) _
    exact k)
  obtain ⟨s1_, hs1⟩ : ∃ z : Int64, z = (c0_ + (xb.toInt64 &&& (4294967295 : Int64))) := ⟨_, rfl⟩
  rw [← hs1] at go119
  obtain ⟨cl120, Ar120, q120, S120, M120, Hs120, G120⟩ := V108
  have f121 : Arv Z h108 o0 kz_ .int (4 : Int32) (zs_.set ((p1 + (0 : Int32))).toNatClampNeg (.int s0_.toInt32)) (.int 0) := ⟨cl120, Ar120, q120, S120, M120, Hs120, G120⟩
  have hin122 : ¬ ((p1 + (1 : Int32)) < 0 ∨ cl120.slots.size ≤ ((p1 + (1 : Int32))).toNatClampNeg) := inb_of S120 (own_in1 hzO)
  obtain ⟨T122, h122, X122, e122, W122, st122⟩ := stI X108 hx hZ e108 Ar120 (j := (p1 + (1 : Int32))) hin122 (g := (mkF m 100 #[rv o0, iv p1, rv o2, iv p3, iv 2, rv o5, iv p6, iv 0, .val (.long s1_), .second, iv 1] [(.int s1_.toInt32), (.int (p1 + (1 : Int32))), (.ref o0)])) rfl rfl (hb hby d1_100)
  have f123 := f109.other W122 ne_y
  have f124 := f117.other W122 ne_x
  have Z125 := Nat.le_trans Z111 (Keep.of_wr W122).1
  have K126 := K112.wr W122 (Or.inl (List.mem_of_getElem? (i := 0) rfl))
  have V122 : Arv Z h122 o0 kz_ .int (4 : Int32) ((zs_.set ((p1 + (0 : Int32))).toNatClampNeg (.int s0_.toInt32)).set ((p1 + (1 : Int32))).toNatClampNeg (.int s1_.toInt32)) (.int 0) := Arv.set Ar120 q120 S120 M120 Hs120 G120 rfl W122 ((p1 + (1 : Int32))).toNatClampNeg rfl (own_ln1 hzO ((List.length_set ..).trans hl))
  have N122 := Fr.snoc X122 N108 ge_o0
  have go127 : ∀ t, Steps p.tables e below (T122.setTop (mkF m 108 #[rv o0, iv p1, rv o2, iv p3, iv 2, rv o5, iv p6, iv 0, .val (.long ((s1_.toUInt64 >>> ((32 : Int32) &&& 0x3f).toInt64.toUInt64).toInt64)), .second, iv 1] [])) t → Steps p.tables e below O t := fun t k => go119 t (by
    refine XS.aloadN X108.here hx rfl (hb hby d1_92) rfl rfl ?_
    refine XS.iloadN X108.here hx rfl (hb hby d1_93) rfl ?_
    show Steps _ _ _ (T108.setTop (mkF m 94 _ [(.int p1), (.ref o0)])) _
    refine XS.iload X108.here hx rfl (hb hby d1_94) rfl ?_
    refine XS.iadd X108.here hx rfl (hb hby d1_96) rfl ?_
    show Steps _ _ _ (T108.setTop (mkF m 97 _ [(.int (p1 + (1 : Int32))), (.ref o0)])) _
    refine XS.lload X108.here hx rfl (hb hby d1_97) rfl ?_
    refine XS.l2i X108.here hx rfl (hb hby d1_99) rfl ?_
    show Steps _ _ _ (T108.setTop (mkF m 100 _ [(.int s1_.toInt32), (.int (p1 + (1 : Int32))), (.ref o0)])) _
    refine st122 _ ?_
    show Steps _ _ _ (T122.setTop (mkF m 101 _ [])) _
    refine XS.lload X122.here hx rfl (hb hby d1_101) rfl ?_
    refine XS.bipush X122.here hx rfl (hb hby d1_103) ?_
    show Steps _ _ _ (T122.setTop (mkF m 105 _ [(.int 32), (.long s1_)])) _
    refine XS.lushr X122.here hx rfl (hb hby d1_105) rfl ?_
    refine XS.lstore X122.here hx rfl (hb hby d1_106) rfl (l' := #[rv o0, iv p1, rv o2, iv p3, iv 2, rv o5, iv p6, iv 0, .val (.long ((s1_.toUInt64 >>> ((32 : Int32) &&& 0x3f).toInt64.toUInt64).toInt64)), .second, iv 1]) rfl ?_
    show Steps _ _ _ (T122.setTop (mkF m 108 _ [])) _
    exact k)
  obtain ⟨c1_, hc1⟩ : ∃ z : Int64, z = ((s1_.toUInt64 >>> ((32 : Int32) &&& 0x3f).toInt64.toUInt64).toInt64) := ⟨_, rfl⟩
  rw [← hc1] at go127
  have go128 : ∀ t, Steps p.tables e below (T122.setTop (mkF m 73 #[rv o0, iv p1, rv o2, iv p3, iv 2, rv o5, iv p6, iv 0, .val (.long c1_), .second, iv ((1 : Int32) + (1 : Int32))] [(.int 2), (.int ((1 : Int32) + (1 : Int32)))])) t → Steps p.tables e below O t := fun t k => go127 t (by
    refine XS.iinc X122.here hx rfl (hb hby d1_108) rfl (l' := #[rv o0, iv p1, rv o2, iv p3, iv 2, rv o5, iv p6, iv 0, .val (.long c1_), .second, iv ((1 : Int32) + (1 : Int32))]) rfl ?_
    show Steps _ _ _ (T122.setTop (mkF m 111 _ [])) _
    refine XS.goto X122.here hx rfl (pc0 := 111) (pc' := 69) rfl (hb hby d1_111) (by decide) (by decide) ?_
    refine XS.iload X122.here hx rfl (hb hby d1_69) rfl ?_
    show Steps _ _ _ (T122.setTop (mkF m 71 _ [(.int ((1 : Int32) + (1 : Int32)))])) _
    refine XS.iload X122.here hx rfl (hb hby d1_71) rfl ?_
    exact k)
  have go129 : ∀ t, Steps p.tables e below (T122.setTop (mkF m 73 #[rv o0, iv p1, rv o2, iv p3, iv 2, rv o5, iv p6, iv 0, .val (.long c1_), .second, iv 2] [(.int 2), (.int ((1 : Int32) + (1 : Int32)))])) t → Steps p.tables e below O t := go128
  have go130 : ∀ t, Steps p.tables e below (T122.setTop (mkF m 117 #[rv o0, iv p1, rv o2, iv p3, iv 2, rv o5, iv p6, iv 0, .val (.long c1_), .second, iv 2] [(.int c1_.toInt32)])) t → Steps p.tables e below O t := fun t k => go129 t (by
    refine XS.icmpYes X122.here hx rfl (pc0 := 73) (pc' := 114) rfl (hb hby d1_73) rfl (flt (by decide : ¬ ((2 : Int32) < (2 : Int32)))).2.1 (by decide) (by decide) ?_
    refine XS.lload X122.here hx rfl (hb hby d1_114) rfl ?_
    show Steps _ _ _ (T122.setTop (mkF m 116 _ [(.long c1_)])) _
    refine XS.l2i X122.here hx rfl (hb hby d1_116) rfl ?_
    exact k)
  have hp : own_post (2 : Int32) (0 : Int32) xa xb ya yb c1_.toInt32 s0_.toInt32 s1_.toInt32 := by
    subst hc1 hs1 hc0 hs0
    exact own_ar_20 xa xb ya yb
  rw [hO] at go130
  obtain ⟨fs, hr, hrun, hended, hW, hsame⟩ := X122.leave (v := some (.int c1_.toInt32)) (fun h => by rw [Bd.returns] at h; cases h)
  refine ⟨_, _, go130 _ ?_, hrun, hended, _, _, rfl, ?_, ⟨_, rfl⟩, hW, hsame.mono (by decide) (by decide)⟩
  · exact retI X122 hx Bd.returns (hb hby d1_117) hr
  · show Q_aa20 Z o0 p1 o2 p3 o5 p6 kz_ zs_ ky_ ys_ xa xb ya yb kx_ xs_ h0 n0 _ T122.heap _
    rw [e122]
    exact ⟨_, _, _, rfl, N122, hp, K126, own_put_2 hzO V122⟩
theorem ef_aa21 (m : MethodId) (x0 : Addr) (x1 : Int32) (x2 : Addr) (x3 : Int32) (x4 : Int32) (x5 : Addr) (x6 : Int32) (x7 : Int32) : entryFrame m #[(.ref x0), (.int x1), (.ref x2), (.int x3), (.int x4), (.ref x5), (.int x6), (.int x7)] 11 = mkF m 0 #[rv x0, iv x1, rv x2, iv x3, iv x4, rv x5, iv x6, iv x7, .unset, .unset, .unset] [] := by first | (simp [entryFrame, mkF, argsToLocals, Value.category]; done) | rfl
def Q_aa21 (Z : State) (o0 : Addr) (p1 : Int32) (o2 : Addr) (p3 : Int32) (o5 : Addr) (p6 : Int32) (kz_ : ClassId) (zs_ : List Value) (ky_ : ClassId) (ys_ : List Value) (xa : Int32) (xb : Int32) (ya : Int32) (yb : Int32) (kx_ : ClassId) (xs_ : List Value) (h0 : Heap) (n0 : Nat) (v : Option Value) (h : Heap) (L : List Loc) : Prop := ∃ r u0 u1 : Int32, v = some (.int r) ∧ Fr n0 L ∧ own_post (2 : Int32) (1 : Int32) xa xb ya yb r u0 u1 ∧ Keep h0 h [o0] ∧ Arv Z h o0 kz_ .int (4 : Int32) (own_put (2 : Int32) p1 zs_ u0 u1) (.int (0 : Int32))
set_option maxRecDepth 65536 in
set_option maxHeartbeats 40000000 in
theorem rm_aa21 (l : Launch) (Z : State) (a0 : Array Value) (hw : ∀ d ∈ tables_1, d.before a0 Z = true) (ws : List Jvm.Cond) (o0 : Addr) (p1 : Int32) (o2 : Addr) (p3 : Int32) (o5 : Addr) (p6 : Int32) (kz_ : ClassId) (zs_ : List Value) (ky_ : ClassId) (ys_ : List Value) (xa : Int32) (xb : Int32) (ya : Int32) (yb : Int32) (kx_ : ClassId) (xs_ : List Value) (h0 : Heap) (n0 : Nat) (Z0 : n0 ≤ h0.size) (ge_o0 : n0 ≤ o0) (V_o0 : Arv Z h0 o0 kz_ .int (4 : Int32) zs_ (.int (0 : Int32))) (V_o5 : Arv Z h0 o5 ky_ .int (4 : Int32) ys_ (.int (0 : Int32))) (ne_y : o5 ≠ o0) (hl : zs_.length = 4) (V_o2 : Arv Z h0 o2 kx_ .int (4 : Int32) xs_ (.int (0 : Int32))) (ne_x : o2 ≠ o0) (hzO : p1 = (0 : Int32) ∨ p1 = (1 : Int32)) (hyO : p6 = (0 : Int32) ∨ p6 = (1 : Int32)) (hxO : p3 = (0 : Int32) ∨ p3 = (1 : Int32)) (hxa : xs_.getD (p3 + (0 : Int32)).toNatClampNeg (.int (0 : Int32)) = .int xa) (hya : ys_.getD (p6 + (0 : Int32)).toNatClampNeg (.int (0 : Int32)) = .int ya) (hxb : xs_.getD (p3 + (1 : Int32)).toNatClampNeg (.int (0 : Int32)) = .int xb) (hyb : ys_.getD (p6 + (1 : Int32)).toNatClampNeg (.int (0 : Int32)) = .int yb) :
    MetFree l (⟨"com/example/limbwise/kernel/Words", "add", "([II[III[III)I"⟩ : MethodName) (head1 (Jvm.Cond.code (⟨"com/example/limbwise/kernel/Words", "add", "([II[III[III)I"⟩ : MethodName) prog_24_method_2_code 11 (some .int) :: ws) ({ frames := 0, cells := 0, slots := 0, locals := 0 } : Room)) (fun a U => a = #[(.ref o0), (.int p1), (.ref o2), (.int p3), (.int 2), (.ref o5), (.int p6), (.int 1)] ∧ Z.Warmed39 U.vm ∧ U.heap = h0) (fun _ _ _ _ _ => True) (fun _ U o U' => ∃ v L, o = .returned v ∧ Q_aa21 Z o0 p1 o2 p3 o5 p6 kz_ zs_ ky_ ys_ xa xb ya yb kx_ xs_ h0 n0 v U'.heap L ∧ FrameEnd U o U' L ({ frames := 0, cells := 0, slots := 0, locals := 0 } : Room).cells ({ frames := 0, cells := 0, slots := 0, locals := 0 } : Room).slots) := by
  refine MetFree.of_bodySF (plainFor_of_name pn_1) hisR ?_
  intro p e s m args below meth c s₁ Bd hml0 hP hK
  obtain ⟨rfl, hZ, hh⟩ := hP
  have hx := Bd.exec
  have hby := Bd.bytes
  have hml : c.maxLocals = 11 := hml0
  have hown : s.vm.findClass "com/example/limbwise/kernel/Words" = some m.cls := findClass_of_methodNamed Bd.named
  have hnm := (name_of_methodNamed Bd.named Bd.method).1
  have X0 : Stand p l e ({ frames := 0, cells := 0, slots := 0, locals := 0 } : Room) s m #[(.ref o0), (.int p1), (.ref o2), (.int p3), (.int 2), (.ref o5), (.int p6), (.int 1)] below meth c s₁ [] 0 0 := Stand.of_body Bd
  have e0 : s₁.heap = h0 := by rw [← hh, Bd.state]; rfl
  have N0 := Fr.nil n0
  have go0 : ∀ t, Steps p.tables e below (s₁.setTop (mkF m 0 #[rv o0, iv p1, rv o2, iv p3, iv 2, rv o5, iv p6, iv 1, .unset, .unset, .unset] [])) t → Steps p.tables e below (s₁.setTop (entryFrame m #[(.ref o0), (.int p1), (.ref o2), (.int p3), (.int 2), (.ref o5), (.int p6), (.int 1)] 11)) t := fun t k => castTop (ef_aa21 m o0 p1 o2 p3 (2 : Int32) o5 p6 (1 : Int32)) k
  obtain ⟨O, hO⟩ : ∃ z, z = (s₁.setTop (entryFrame m #[(.ref o0), (.int p1), (.ref o2), (.int p3), (.int 2), (.ref o5), (.int p6), (.int 1)] 11)) := ⟨_, rfl⟩
  rw [← hO] at go0
  have K101 := Keep.refl h0 [o0]
  obtain ⟨cl102, Ar102, q102, S102, M102, Hs102, G102⟩ := V_o2
  have f103 : Arv Z h0 o2 kx_ .int (4 : Int32) xs_ (.int 0) := ⟨cl102, Ar102, q102, S102, M102, Hs102, G102⟩
  have hin104 : ¬ ((p3 + (0 : Int32)) < 0 ∨ cl102.slots.size ≤ ((p3 + (0 : Int32))).toNatClampNeg) := inb_of S102 (own_in0 hxO)
  have hat104 : cl102.slots[((p3 + (0 : Int32))).toNatClampNeg]? = some (.int xa) := Hs102.at hin104 hxa
  obtain ⟨cl105, Ar105, q105, S105, M105, Hs105, G105⟩ := V_o5
  have f106 : Arv Z h0 o5 ky_ .int (4 : Int32) ys_ (.int 0) := ⟨cl105, Ar105, q105, S105, M105, Hs105, G105⟩
  have hin107 : ¬ ((p6 + (0 : Int32)) < 0 ∨ cl105.slots.size ≤ ((p6 + (0 : Int32))).toNatClampNeg) := inb_of S105 (own_in0 hyO)
  have hat107 : cl105.slots[((p6 + (0 : Int32))).toNatClampNeg]? = some (.int ya) := Hs105.at hin107 hya
  have go108 : ∀ t, Steps p.tables e below (s₁.setTop (mkF m 43 #[rv o0, iv p1, rv o2, iv p3, iv 2, rv o5, iv p6, iv 1, .val (.long ((0 : Int64) + ((xa.toInt64 &&& (4294967295 : Int64)) + (ya.toInt64 &&& (4294967295 : Int64))))), .second, iv 0] [])) t → Steps p.tables e below O t := fun t k => go0 t (by
    refine XS.lconst X0.here hx rfl (hb hby d1_0) ?_
    refine XS.lstore X0.here hx rfl (hb hby d1_1) rfl (l' := #[rv o0, iv p1, rv o2, iv p3, iv 2, rv o5, iv p6, iv 1, .val (.long 0), .second, .unset]) rfl ?_
    show Steps _ _ _ (s₁.setTop (mkF m 3 _ [])) _
    refine XS.iconst X0.here hx rfl (hb hby d1_3) ?_
    refine XS.istore X0.here hx rfl (hb hby d1_4) rfl (l' := #[rv o0, iv p1, rv o2, iv p3, iv 2, rv o5, iv p6, iv 1, .val (.long 0), .second, iv 0]) rfl ?_
    show Steps _ _ _ (s₁.setTop (mkF m 6 _ [])) _
    refine XS.iload X0.here hx rfl (hb hby d1_6) rfl ?_
    refine XS.iload X0.here hx rfl (hb hby d1_8) rfl ?_
    show Steps _ _ _ (s₁.setTop (mkF m 10 _ [(.int 1), (.int 0)])) _
    refine XS.icmpNo X0.here hx rfl (hb hby d1_10) rfl (tlt (by decide : (0 : Int32) < (1 : Int32))).2.1 ?_
    refine XS.lload X0.here hx rfl (hb hby d1_13) rfl ?_
    show Steps _ _ _ (s₁.setTop (mkF m 15 _ [(.long 0)])) _
    refine XS.aloadN X0.here hx rfl (hb hby d1_15) rfl rfl ?_
    refine XS.iloadN X0.here hx rfl (hb hby d1_16) rfl ?_
    show Steps _ _ _ (s₁.setTop (mkF m 17 _ [(.int p3), (.ref o2), (.long 0)])) _
    refine XS.iload X0.here hx rfl (hb hby d1_17) rfl ?_
    refine XS.iadd X0.here hx rfl (hb hby d1_19) rfl ?_
    show Steps _ _ _ (s₁.setTop (mkF m 20 _ [(.int (p3 + (0 : Int32))), (.ref o2), (.long 0)])) _
    refine X0.iaload hx (j := (p3 + (0 : Int32))) (v := (.int xa)) (by rw [e0]; exact Ar102.1) (State.isArrayOf_alike hZ.alike Ar102.2.1) Ar102.2.2 hin104 hat104 (g := (mkF m 20 #[rv o0, iv p1, rv o2, iv p3, iv 2, rv o5, iv p6, iv 1, .val (.long 0), .second, iv 0] [(.int (p3 + (0 : Int32))), (.ref o2), (.long 0)])) rfl rfl (hb hby d1_20) _ ?_
    refine XS.i2l X0.here hx rfl (hb hby d1_21) rfl ?_
    show Steps _ _ _ (s₁.setTop (mkF m 22 _ [(.long xa.toInt64), (.long 0)])) _
    refine X0.ldc2Long hx hown (mvT hZ (hw _ (List.mem_of_getElem? (i := 12) rfl))) (g := (mkF m 22 #[rv o0, iv p1, rv o2, iv p3, iv 2, rv o5, iv p6, iv 1, .val (.long 0), .second, iv 0] [(.long xa.toInt64), (.long 0)])) rfl (hb hby d1_22) _ ?_
    refine XS.land X0.here hx rfl (hb hby d1_25) rfl ?_
    show Steps _ _ _ (s₁.setTop (mkF m 26 _ [(.long (xa.toInt64 &&& (4294967295 : Int64))), (.long 0)])) _
    refine XS.aload X0.here hx rfl (hb hby d1_26) rfl rfl ?_
    show Steps _ _ _ (s₁.setTop (mkF m 28 #[rv o0, iv p1, rv o2, iv p3, iv 2, rv o5, iv p6, iv 1, .val (.long 0), .second, iv 0] [(.ref o5), (.long (xa.toInt64 &&& (4294967295 : Int64))), (.long 0)])) _
    refine XS.iload X0.here hx rfl (hb hby d1_28) rfl ?_
    refine XS.iload X0.here hx rfl (hb hby d1_30) rfl ?_
    show Steps _ _ _ (s₁.setTop (mkF m 32 _ [(.int 0), (.int p6), (.ref o5), (.long (xa.toInt64 &&& (4294967295 : Int64))), (.long 0)])) _
    refine XS.iadd X0.here hx rfl (hb hby d1_32) rfl ?_
    refine X0.iaload hx (j := (p6 + (0 : Int32))) (v := (.int ya)) (by rw [e0]; exact Ar105.1) (State.isArrayOf_alike hZ.alike Ar105.2.1) Ar105.2.2 hin107 hat107 (g := (mkF m 33 #[rv o0, iv p1, rv o2, iv p3, iv 2, rv o5, iv p6, iv 1, .val (.long 0), .second, iv 0] [(.int (p6 + (0 : Int32))), (.ref o5), (.long (xa.toInt64 &&& (4294967295 : Int64))), (.long 0)])) rfl rfl (hb hby d1_33) _ ?_
    show Steps _ _ _ (s₁.setTop (mkF m 34 _ [(.int ya), (.long (xa.toInt64 &&& (4294967295 : Int64))), (.long 0)])) _
    refine XS.i2l X0.here hx rfl (hb hby d1_34) rfl ?_
    refine X0.ldc2Long hx hown (mvT hZ (hw _ (List.mem_of_getElem? (i := 12) rfl))) (g := (mkF m 35 #[rv o0, iv p1, rv o2, iv p3, iv 2, rv o5, iv p6, iv 1, .val (.long 0), .second, iv 0] [(.long ya.toInt64), (.long (xa.toInt64 &&& (4294967295 : Int64))), (.long 0)])) rfl (hb hby d1_35) _ ?_
    show Steps _ _ _ (s₁.setTop (mkF m 38 _ [(.long 4294967295), (.long ya.toInt64), (.long (xa.toInt64 &&& (4294967295 : Int64))), (.long 0)])) _
    refine XS.land X0.here hx rfl (hb hby d1_38) rfl ?_
    refine XS.ladd X0.here hx rfl (hb hby d1_39) rfl ?_
    show Steps _ _ _ (s₁.setTop (mkF m 40 _ [(.long ((xa.toInt64 &&& (4294967295 : Int64)) + (ya.toInt64 &&& (4294967295 : Int64)))), (.long 0)])) _
    refine XS.ladd X0.here hx rfl (hb hby d1_40) rfl ?_
    refine XS.lstore X0.here hx rfl (hb hby d1_41) rfl (l' := #[rv o0, iv p1, rv o2, iv p3, iv 2, rv o5, iv p6, iv 1, .val (.long ((0 : Int64) + ((xa.toInt64 &&& (4294967295 : Int64)) + (ya.toInt64 &&& (4294967295 : Int64))))), .second, iv 0]) rfl ?_
    show Steps _ _ _ (s₁.setTop (mkF m 43 _ [])) _
    exact k)
  obtain ⟨s0_, hs0⟩ : ∃ z : Int64, z = ((0 : Int64) + ((xa.toInt64 &&& (4294967295 : Int64)) + (ya.toInt64 &&& (4294967295 : Int64)))) := ⟨_, rfl⟩
  rw [← hs0] at go108
  obtain ⟨cl109, Ar109, q109, S109, M109, Hs109, G109⟩ := V_o0
  have f110 : Arv Z h0 o0 kz_ .int (4 : Int32) zs_ (.int 0) := ⟨cl109, Ar109, q109, S109, M109, Hs109, G109⟩
  have hin111 : ¬ ((p1 + (0 : Int32)) < 0 ∨ cl109.slots.size ≤ ((p1 + (0 : Int32))).toNatClampNeg) := inb_of S109 (own_in0 hzO)
  obtain ⟨T111, h111, X111, e111, W111, st111⟩ := stI X0 hx hZ e0 Ar109 (j := (p1 + (0 : Int32))) hin111 (g := (mkF m 51 #[rv o0, iv p1, rv o2, iv p3, iv 2, rv o5, iv p6, iv 1, .val (.long s0_), .second, iv 0] [(.int s0_.toInt32), (.int (p1 + (0 : Int32))), (.ref o0)])) rfl rfl (hb hby d1_51)
  have f112 := f106.other W111 ne_y
  have f113 := f103.other W111 ne_x
  have Z114 := Nat.le_trans Z0 (Keep.of_wr W111).1
  have K115 := K101.wr W111 (Or.inl (List.mem_of_getElem? (i := 0) rfl))
  have V111 : Arv Z h111 o0 kz_ .int (4 : Int32) (zs_.set ((p1 + (0 : Int32))).toNatClampNeg (.int s0_.toInt32)) (.int 0) := Arv.set Ar109 q109 S109 M109 Hs109 G109 rfl W111 ((p1 + (0 : Int32))).toNatClampNeg rfl (own_ln0 hzO hl)
  have N111 := Fr.snoc X111 N0 ge_o0
  have go116 : ∀ t, Steps p.tables e below (T111.setTop (mkF m 59 #[rv o0, iv p1, rv o2, iv p3, iv 2, rv o5, iv p6, iv 1, .val (.long ((s0_.toUInt64 >>> ((32 : Int32) &&& 0x3f).toInt64.toUInt64).toInt64)), .second, iv 0] [])) t → Steps p.tables e below O t := fun t k => go108 t (by
    refine XS.aloadN X0.here hx rfl (hb hby d1_43) rfl rfl ?_
    refine XS.iloadN X0.here hx rfl (hb hby d1_44) rfl ?_
    show Steps _ _ _ (s₁.setTop (mkF m 45 _ [(.int p1), (.ref o0)])) _
    refine XS.iload X0.here hx rfl (hb hby d1_45) rfl ?_
    refine XS.iadd X0.here hx rfl (hb hby d1_47) rfl ?_
    show Steps _ _ _ (s₁.setTop (mkF m 48 _ [(.int (p1 + (0 : Int32))), (.ref o0)])) _
    refine XS.lload X0.here hx rfl (hb hby d1_48) rfl ?_
    refine XS.l2i X0.here hx rfl (hb hby d1_50) rfl ?_
    show Steps _ _ _ (s₁.setTop (mkF m 51 _ [(.int s0_.toInt32), (.int (p1 + (0 : Int32))), (.ref o0)])) _
    refine st111 _ ?_
    show Steps _ _ _ (T111.setTop (mkF m 52 _ [])) _
    refine XS.lload X111.here hx rfl (hb hby d1_52) rfl ?_
    refine XS.bipush X111.here hx rfl (hb hby d1_54) ?_
    show Steps _ _ _ (T111.setTop (mkF m 56 _ [(.int 32), (.long s0_)])) _
    refine XS.lushr X111.here hx rfl (hb hby d1_56) rfl ?_
    refine XS.lstore X111.here hx rfl (hb hby d1_57) rfl (l' := #[rv o0, iv p1, rv o2, iv p3, iv 2, rv o5, iv p6, iv 1, .val (.long ((s0_.toUInt64 >>> ((32 : Int32) &&& 0x3f).toInt64.toUInt64).toInt64)), .second, iv 0]) rfl ?_
    show Steps _ _ _ (T111.setTop (mkF m 59 _ [])) _
    exact k)
  obtain ⟨c0_, hc0⟩ : ∃ z : Int64, z = ((s0_.toUInt64 >>> ((32 : Int32) &&& 0x3f).toInt64.toUInt64).toInt64) := ⟨_, rfl⟩
  rw [← hc0] at go116
  have go117 : ∀ t, Steps p.tables e below (T111.setTop (mkF m 10 #[rv o0, iv p1, rv o2, iv p3, iv 2, rv o5, iv p6, iv 1, .val (.long c0_), .second, iv ((0 : Int32) + (1 : Int32))] [(.int 1), (.int ((0 : Int32) + (1 : Int32)))])) t → Steps p.tables e below O t := fun t k => go116 t (by
    refine XS.iinc X111.here hx rfl (hb hby d1_59) rfl (l' := #[rv o0, iv p1, rv o2, iv p3, iv 2, rv o5, iv p6, iv 1, .val (.long c0_), .second, iv ((0 : Int32) + (1 : Int32))]) rfl ?_
    show Steps _ _ _ (T111.setTop (mkF m 62 _ [])) _
    refine XS.goto X111.here hx rfl (pc0 := 62) (pc' := 6) rfl (hb hby d1_62) (by decide) (by decide) ?_
    refine XS.iload X111.here hx rfl (hb hby d1_6) rfl ?_
    show Steps _ _ _ (T111.setTop (mkF m 8 _ [(.int ((0 : Int32) + (1 : Int32)))])) _
    refine XS.iload X111.here hx rfl (hb hby d1_8) rfl ?_
    exact k)
  have go118 : ∀ t, Steps p.tables e below (T111.setTop (mkF m 10 #[rv o0, iv p1, rv o2, iv p3, iv 2, rv o5, iv p6, iv 1, .val (.long c0_), .second, iv 1] [(.int 1), (.int ((0 : Int32) + (1 : Int32)))])) t → Steps p.tables e below O t := go117
  obtain ⟨cl119, Ar119, q119, S119, M119, Hs119, G119⟩ := f113
  have f120 : Arv Z h111 o2 kx_ .int (4 : Int32) xs_ (.int 0) := ⟨cl119, Ar119, q119, S119, M119, Hs119, G119⟩
  have hin121 : ¬ ((p3 + (1 : Int32)) < 0 ∨ cl119.slots.size ≤ ((p3 + (1 : Int32))).toNatClampNeg) := inb_of S119 (own_in1 hxO)
  have hat121 : cl119.slots[((p3 + (1 : Int32))).toNatClampNeg]? = some (.int xb) := Hs119.at hin121 hxb
  have go122 : ∀ t, Steps p.tables e below (T111.setTop (mkF m 92 #[rv o0, iv p1, rv o2, iv p3, iv 2, rv o5, iv p6, iv 1, .val (.long (c0_ + (xb.toInt64 &&& (4294967295 : Int64)))), .second, iv 1] [])) t → Steps p.tables e below O t := fun t k => go118 t (by
    refine XS.icmpYes X111.here hx rfl (pc0 := 10) (pc' := 65) rfl (hb hby d1_10) rfl (flt (by decide : ¬ ((1 : Int32) < (1 : Int32)))).2.1 (by decide) (by decide) ?_
    refine XS.iload X111.here hx rfl (hb hby d1_65) rfl ?_
    show Steps _ _ _ (T111.setTop (mkF m 67 _ [(.int 1)])) _
    refine XS.istore X111.here hx rfl (hb hby d1_67) rfl (l' := #[rv o0, iv p1, rv o2, iv p3, iv 2, rv o5, iv p6, iv 1, .val (.long c0_), .second, iv 1]) rfl ?_
    show Steps _ _ _ (T111.setTop (mkF m 69 _ [])) _
    refine XS.iload X111.here hx rfl (hb hby d1_69) rfl ?_
    refine XS.iload X111.here hx rfl (hb hby d1_71) rfl ?_
    show Steps _ _ _ (T111.setTop (mkF m 73 _ [(.int 2), (.int 1)])) _
    refine XS.icmpNo X111.here hx rfl (hb hby d1_73) rfl (tlt (by decide : (1 : Int32) < (2 : Int32))).2.1 ?_
    refine XS.lload X111.here hx rfl (hb hby d1_76) rfl ?_
    show Steps _ _ _ (T111.setTop (mkF m 78 _ [(.long c0_)])) _
    refine XS.aloadN X111.here hx rfl (hb hby d1_78) rfl rfl ?_
    refine XS.iloadN X111.here hx rfl (hb hby d1_79) rfl ?_
    show Steps _ _ _ (T111.setTop (mkF m 80 _ [(.int p3), (.ref o2), (.long c0_)])) _
    refine XS.iload X111.here hx rfl (hb hby d1_80) rfl ?_
    refine XS.iadd X111.here hx rfl (hb hby d1_82) rfl ?_
    show Steps _ _ _ (T111.setTop (mkF m 83 _ [(.int (p3 + (1 : Int32))), (.ref o2), (.long c0_)])) _
    refine X111.iaload hx (j := (p3 + (1 : Int32))) (v := (.int xb)) (by rw [e111]; exact Ar119.1) (State.isArrayOf_alike hZ.alike Ar119.2.1) Ar119.2.2 hin121 hat121 (g := (mkF m 83 #[rv o0, iv p1, rv o2, iv p3, iv 2, rv o5, iv p6, iv 1, .val (.long c0_), .second, iv 1] [(.int (p3 + (1 : Int32))), (.ref o2), (.long c0_)])) rfl rfl (hb hby d1_83) _ ?_
    refine XS.i2l X111.here hx rfl (hb hby d1_84) rfl ?_
    show Steps _ _ _ (T111.setTop (mkF m 85 _ [(.long xb.toInt64), (.long c0_)])) _
    refine X111.ldc2Long hx hown (mvT hZ (hw _ (List.mem_of_getElem? (i := 12) rfl))) (g := (mkF m 85 #[rv o0, iv p1, rv o2, iv p3, iv 2, rv o5, iv p6, iv 1, .val (.long c0_), .second, iv 1] [(.long xb.toInt64), (.long c0_)])) rfl (hb hby d1_85) _ ?_
    refine XS.land X111.here hx rfl (hb hby d1_88) rfl ?_
    show Steps _ _ _ (T111.setTop (mkF m 89 _ [(.long (xb.toInt64 &&& (4294967295 : Int64))), (.long c0_)])) _
    refine XS.ladd X111.here hx rfl (hb hby d1_89) rfl ?_
    show Steps _ _ _ (T111.setTop (mkF m 90 #[rv o0, iv p1, rv o2, iv p3, iv 2, rv o5, iv p6, iv 1, .val (.long c0_), .second, iv 1] [(.long (c0_ + (xb.toInt64 &&& (4294967295 : Int64))))])) _
    refine XS.lstore X111.here hx rfl (hb hby d1_90) rfl (l' := #[rv o0, iv p1, rv o2, iv p3, iv 2, rv o5, iv p6, iv 1, .val (.long (c0_ + (xb.toInt64 &&& (4294967295 : Int64)))), .second, iv 1]) rfl ?_
    show Steps _ _ _ (T111.setTop (mkF m 92 _ [])) _
    exact k)
  obtain ⟨s1_, hs1⟩ : ∃ z : Int64, z = (c0_ + (xb.toInt64 &&& (4294967295 : Int64))) := ⟨_, rfl⟩
  rw [← hs1] at go122
  obtain ⟨cl123, Ar123, q123, S123, M123, Hs123, G123⟩ := V111
  have f124 : Arv Z h111 o0 kz_ .int (4 : Int32) (zs_.set ((p1 + (0 : Int32))).toNatClampNeg (.int s0_.toInt32)) (.int 0) := ⟨cl123, Ar123, q123, S123, M123, Hs123, G123⟩
  have hin125 : ¬ ((p1 + (1 : Int32)) < 0 ∨ cl123.slots.size ≤ ((p1 + (1 : Int32))).toNatClampNeg) := inb_of S123 (own_in1 hzO)
  obtain ⟨T125, h125, X125, e125, W125, st125⟩ := stI X111 hx hZ e111 Ar123 (j := (p1 + (1 : Int32))) hin125 (g := (mkF m 100 #[rv o0, iv p1, rv o2, iv p3, iv 2, rv o5, iv p6, iv 1, .val (.long s1_), .second, iv 1] [(.int s1_.toInt32), (.int (p1 + (1 : Int32))), (.ref o0)])) rfl rfl (hb hby d1_100)
  have f126 := f112.other W125 ne_y
  have f127 := f120.other W125 ne_x
  have Z128 := Nat.le_trans Z114 (Keep.of_wr W125).1
  have K129 := K115.wr W125 (Or.inl (List.mem_of_getElem? (i := 0) rfl))
  have V125 : Arv Z h125 o0 kz_ .int (4 : Int32) ((zs_.set ((p1 + (0 : Int32))).toNatClampNeg (.int s0_.toInt32)).set ((p1 + (1 : Int32))).toNatClampNeg (.int s1_.toInt32)) (.int 0) := Arv.set Ar123 q123 S123 M123 Hs123 G123 rfl W125 ((p1 + (1 : Int32))).toNatClampNeg rfl (own_ln1 hzO ((List.length_set ..).trans hl))
  have N125 := Fr.snoc X125 N111 ge_o0
  have go130 : ∀ t, Steps p.tables e below (T125.setTop (mkF m 108 #[rv o0, iv p1, rv o2, iv p3, iv 2, rv o5, iv p6, iv 1, .val (.long ((s1_.toUInt64 >>> ((32 : Int32) &&& 0x3f).toInt64.toUInt64).toInt64)), .second, iv 1] [])) t → Steps p.tables e below O t := fun t k => go122 t (by
    refine XS.aloadN X111.here hx rfl (hb hby d1_92) rfl rfl ?_
    refine XS.iloadN X111.here hx rfl (hb hby d1_93) rfl ?_
    show Steps _ _ _ (T111.setTop (mkF m 94 _ [(.int p1), (.ref o0)])) _
    refine XS.iload X111.here hx rfl (hb hby d1_94) rfl ?_
    refine XS.iadd X111.here hx rfl (hb hby d1_96) rfl ?_
    show Steps _ _ _ (T111.setTop (mkF m 97 _ [(.int (p1 + (1 : Int32))), (.ref o0)])) _
    refine XS.lload X111.here hx rfl (hb hby d1_97) rfl ?_
    refine XS.l2i X111.here hx rfl (hb hby d1_99) rfl ?_
    show Steps _ _ _ (T111.setTop (mkF m 100 _ [(.int s1_.toInt32), (.int (p1 + (1 : Int32))), (.ref o0)])) _
    refine st125 _ ?_
    show Steps _ _ _ (T125.setTop (mkF m 101 _ [])) _
    refine XS.lload X125.here hx rfl (hb hby d1_101) rfl ?_
    refine XS.bipush X125.here hx rfl (hb hby d1_103) ?_
    show Steps _ _ _ (T125.setTop (mkF m 105 _ [(.int 32), (.long s1_)])) _
    refine XS.lushr X125.here hx rfl (hb hby d1_105) rfl ?_
    refine XS.lstore X125.here hx rfl (hb hby d1_106) rfl (l' := #[rv o0, iv p1, rv o2, iv p3, iv 2, rv o5, iv p6, iv 1, .val (.long ((s1_.toUInt64 >>> ((32 : Int32) &&& 0x3f).toInt64.toUInt64).toInt64)), .second, iv 1]) rfl ?_
    show Steps _ _ _ (T125.setTop (mkF m 108 _ [])) _
    exact k)
  obtain ⟨c1_, hc1⟩ : ∃ z : Int64, z = ((s1_.toUInt64 >>> ((32 : Int32) &&& 0x3f).toInt64.toUInt64).toInt64) := ⟨_, rfl⟩
  rw [← hc1] at go130
  have go131 : ∀ t, Steps p.tables e below (T125.setTop (mkF m 73 #[rv o0, iv p1, rv o2, iv p3, iv 2, rv o5, iv p6, iv 1, .val (.long c1_), .second, iv ((1 : Int32) + (1 : Int32))] [(.int 2), (.int ((1 : Int32) + (1 : Int32)))])) t → Steps p.tables e below O t := fun t k => go130 t (by
    refine XS.iinc X125.here hx rfl (hb hby d1_108) rfl (l' := #[rv o0, iv p1, rv o2, iv p3, iv 2, rv o5, iv p6, iv 1, .val (.long c1_), .second, iv ((1 : Int32) + (1 : Int32))]) rfl ?_
    show Steps _ _ _ (T125.setTop (mkF m 111 _ [])) _
    refine XS.goto X125.here hx rfl (pc0 := 111) (pc' := 69) rfl (hb hby d1_111) (by decide) (by decide) ?_
    refine XS.iload X125.here hx rfl (hb hby d1_69) rfl ?_
    show Steps _ _ _ (T125.setTop (mkF m 71 _ [(.int ((1 : Int32) + (1 : Int32)))])) _
    refine XS.iload X125.here hx rfl (hb hby d1_71) rfl ?_
    exact k)
  have go132 : ∀ t, Steps p.tables e below (T125.setTop (mkF m 73 #[rv o0, iv p1, rv o2, iv p3, iv 2, rv o5, iv p6, iv 1, .val (.long c1_), .second, iv 2] [(.int 2), (.int ((1 : Int32) + (1 : Int32)))])) t → Steps p.tables e below O t := go131
  have go133 : ∀ t, Steps p.tables e below (T125.setTop (mkF m 117 #[rv o0, iv p1, rv o2, iv p3, iv 2, rv o5, iv p6, iv 1, .val (.long c1_), .second, iv 2] [(.int c1_.toInt32)])) t → Steps p.tables e below O t := fun t k => go132 t (by
    refine XS.icmpYes X125.here hx rfl (pc0 := 73) (pc' := 114) rfl (hb hby d1_73) rfl (flt (by decide : ¬ ((2 : Int32) < (2 : Int32)))).2.1 (by decide) (by decide) ?_
    refine XS.lload X125.here hx rfl (hb hby d1_114) rfl ?_
    show Steps _ _ _ (T125.setTop (mkF m 116 _ [(.long c1_)])) _
    refine XS.l2i X125.here hx rfl (hb hby d1_116) rfl ?_
    exact k)
  have hp : own_post (2 : Int32) (1 : Int32) xa xb ya yb c1_.toInt32 s0_.toInt32 s1_.toInt32 := by
    subst hc1 hs1 hc0 hs0
    exact own_ar_21 xa xb ya yb
  rw [hO] at go133
  obtain ⟨fs, hr, hrun, hended, hW, hsame⟩ := X125.leave (v := some (.int c1_.toInt32)) (fun h => by rw [Bd.returns] at h; cases h)
  refine ⟨_, _, go133 _ ?_, hrun, hended, _, _, rfl, ?_, ⟨_, rfl⟩, hW, hsame.mono (by decide) (by decide)⟩
  · exact retI X125 hx Bd.returns (hb hby d1_117) hr
  · show Q_aa21 Z o0 p1 o2 p3 o5 p6 kz_ zs_ ky_ ys_ xa xb ya yb kx_ xs_ h0 n0 _ T125.heap _
    rw [e125]
    exact ⟨_, _, _, rfl, N125, hp, K129, own_put_2 hzO V125⟩
theorem ef_aa22 (m : MethodId) (x0 : Addr) (x1 : Int32) (x2 : Addr) (x3 : Int32) (x4 : Int32) (x5 : Addr) (x6 : Int32) (x7 : Int32) : entryFrame m #[(.ref x0), (.int x1), (.ref x2), (.int x3), (.int x7), (.ref x5), (.int x6), (.int x7)] 11 = mkF m 0 #[rv x0, iv x1, rv x2, iv x3, iv x7, rv x5, iv x6, iv x7, .unset, .unset, .unset] [] := by first | (simp [entryFrame, mkF, argsToLocals, Value.category]; done) | rfl
def Q_aa22 (Z : State) (o0 : Addr) (p1 : Int32) (o2 : Addr) (p3 : Int32) (o5 : Addr) (p6 : Int32) (kz_ : ClassId) (zs_ : List Value) (ky_ : ClassId) (ys_ : List Value) (xa : Int32) (xb : Int32) (ya : Int32) (yb : Int32) (kx_ : ClassId) (xs_ : List Value) (h0 : Heap) (n0 : Nat) (v : Option Value) (h : Heap) (L : List Loc) : Prop := ∃ r u0 u1 : Int32, v = some (.int r) ∧ Fr n0 L ∧ own_post (2 : Int32) (2 : Int32) xa xb ya yb r u0 u1 ∧ Keep h0 h [o0] ∧ Arv Z h o0 kz_ .int (4 : Int32) (own_put (2 : Int32) p1 zs_ u0 u1) (.int (0 : Int32))
set_option maxRecDepth 65536 in
set_option maxHeartbeats 40000000 in
theorem rm_aa22 (l : Launch) (Z : State) (a0 : Array Value) (hw : ∀ d ∈ tables_1, d.before a0 Z = true) (ws : List Jvm.Cond) (o0 : Addr) (p1 : Int32) (o2 : Addr) (p3 : Int32) (o5 : Addr) (p6 : Int32) (kz_ : ClassId) (zs_ : List Value) (ky_ : ClassId) (ys_ : List Value) (xa : Int32) (xb : Int32) (ya : Int32) (yb : Int32) (kx_ : ClassId) (xs_ : List Value) (h0 : Heap) (n0 : Nat) (Z0 : n0 ≤ h0.size) (ge_o0 : n0 ≤ o0) (V_o0 : Arv Z h0 o0 kz_ .int (4 : Int32) zs_ (.int (0 : Int32))) (V_o5 : Arv Z h0 o5 ky_ .int (4 : Int32) ys_ (.int (0 : Int32))) (ne_y : o5 ≠ o0) (hl : zs_.length = 4) (V_o2 : Arv Z h0 o2 kx_ .int (4 : Int32) xs_ (.int (0 : Int32))) (ne_x : o2 ≠ o0) (hzO : p1 = (0 : Int32) ∨ p1 = (1 : Int32)) (hyO : p6 = (0 : Int32) ∨ p6 = (1 : Int32)) (hxO : p3 = (0 : Int32) ∨ p3 = (1 : Int32)) (hxa : xs_.getD (p3 + (0 : Int32)).toNatClampNeg (.int (0 : Int32)) = .int xa) (hya : ys_.getD (p6 + (0 : Int32)).toNatClampNeg (.int (0 : Int32)) = .int ya) (hxb : xs_.getD (p3 + (1 : Int32)).toNatClampNeg (.int (0 : Int32)) = .int xb) (hyb : ys_.getD (p6 + (1 : Int32)).toNatClampNeg (.int (0 : Int32)) = .int yb) :
    MetFree l (⟨"com/example/limbwise/kernel/Words", "add", "([II[III[III)I"⟩ : MethodName) (head1 (Jvm.Cond.code (⟨"com/example/limbwise/kernel/Words", "add", "([II[III[III)I"⟩ : MethodName) prog_24_method_2_code 11 (some .int) :: ws) ({ frames := 0, cells := 0, slots := 0, locals := 0 } : Room)) (fun a U => a = #[(.ref o0), (.int p1), (.ref o2), (.int p3), (.int 2), (.ref o5), (.int p6), (.int 2)] ∧ Z.Warmed39 U.vm ∧ U.heap = h0) (fun _ _ _ _ _ => True) (fun _ U o U' => ∃ v L, o = .returned v ∧ Q_aa22 Z o0 p1 o2 p3 o5 p6 kz_ zs_ ky_ ys_ xa xb ya yb kx_ xs_ h0 n0 v U'.heap L ∧ FrameEnd U o U' L ({ frames := 0, cells := 0, slots := 0, locals := 0 } : Room).cells ({ frames := 0, cells := 0, slots := 0, locals := 0 } : Room).slots) := by
  refine MetFree.of_bodySF (plainFor_of_name pn_1) hisR ?_
  intro p e s m args below meth c s₁ Bd hml0 hP hK
  obtain ⟨rfl, hZ, hh⟩ := hP
  have hx := Bd.exec
  have hby := Bd.bytes
  have hml : c.maxLocals = 11 := hml0
  have hown : s.vm.findClass "com/example/limbwise/kernel/Words" = some m.cls := findClass_of_methodNamed Bd.named
  have hnm := (name_of_methodNamed Bd.named Bd.method).1
  have X0 : Stand p l e ({ frames := 0, cells := 0, slots := 0, locals := 0 } : Room) s m #[(.ref o0), (.int p1), (.ref o2), (.int p3), (.int 2), (.ref o5), (.int p6), (.int 2)] below meth c s₁ [] 0 0 := Stand.of_body Bd
  have e0 : s₁.heap = h0 := by rw [← hh, Bd.state]; rfl
  have N0 := Fr.nil n0
  have go0 : ∀ t, Steps p.tables e below (s₁.setTop (mkF m 0 #[rv o0, iv p1, rv o2, iv p3, iv 2, rv o5, iv p6, iv 2, .unset, .unset, .unset] [])) t → Steps p.tables e below (s₁.setTop (entryFrame m #[(.ref o0), (.int p1), (.ref o2), (.int p3), (.int 2), (.ref o5), (.int p6), (.int 2)] 11)) t := fun t k => castTop (ef_aa22 m o0 p1 o2 p3 (2 : Int32) o5 p6 (2 : Int32)) k
  obtain ⟨O, hO⟩ : ∃ z, z = (s₁.setTop (entryFrame m #[(.ref o0), (.int p1), (.ref o2), (.int p3), (.int 2), (.ref o5), (.int p6), (.int 2)] 11)) := ⟨_, rfl⟩
  rw [← hO] at go0
  have K101 := Keep.refl h0 [o0]
  obtain ⟨cl102, Ar102, q102, S102, M102, Hs102, G102⟩ := V_o2
  have f103 : Arv Z h0 o2 kx_ .int (4 : Int32) xs_ (.int 0) := ⟨cl102, Ar102, q102, S102, M102, Hs102, G102⟩
  have hin104 : ¬ ((p3 + (0 : Int32)) < 0 ∨ cl102.slots.size ≤ ((p3 + (0 : Int32))).toNatClampNeg) := inb_of S102 (own_in0 hxO)
  have hat104 : cl102.slots[((p3 + (0 : Int32))).toNatClampNeg]? = some (.int xa) := Hs102.at hin104 hxa
  obtain ⟨cl105, Ar105, q105, S105, M105, Hs105, G105⟩ := V_o5
  have f106 : Arv Z h0 o5 ky_ .int (4 : Int32) ys_ (.int 0) := ⟨cl105, Ar105, q105, S105, M105, Hs105, G105⟩
  have hin107 : ¬ ((p6 + (0 : Int32)) < 0 ∨ cl105.slots.size ≤ ((p6 + (0 : Int32))).toNatClampNeg) := inb_of S105 (own_in0 hyO)
  have hat107 : cl105.slots[((p6 + (0 : Int32))).toNatClampNeg]? = some (.int ya) := Hs105.at hin107 hya
  have go108 : ∀ t, Steps p.tables e below (s₁.setTop (mkF m 43 #[rv o0, iv p1, rv o2, iv p3, iv 2, rv o5, iv p6, iv 2, .val (.long ((0 : Int64) + ((xa.toInt64 &&& (4294967295 : Int64)) + (ya.toInt64 &&& (4294967295 : Int64))))), .second, iv 0] [])) t → Steps p.tables e below O t := fun t k => go0 t (by
    refine XS.lconst X0.here hx rfl (hb hby d1_0) ?_
    refine XS.lstore X0.here hx rfl (hb hby d1_1) rfl (l' := #[rv o0, iv p1, rv o2, iv p3, iv 2, rv o5, iv p6, iv 2, .val (.long 0), .second, .unset]) rfl ?_
    show Steps _ _ _ (s₁.setTop (mkF m 3 _ [])) _
    refine XS.iconst X0.here hx rfl (hb hby d1_3) ?_
    refine XS.istore X0.here hx rfl (hb hby d1_4) rfl (l' := #[rv o0, iv p1, rv o2, iv p3, iv 2, rv o5, iv p6, iv 2, .val (.long 0), .second, iv 0]) rfl ?_
    show Steps _ _ _ (s₁.setTop (mkF m 6 _ [])) _
    refine XS.iload X0.here hx rfl (hb hby d1_6) rfl ?_
    refine XS.iload X0.here hx rfl (hb hby d1_8) rfl ?_
    show Steps _ _ _ (s₁.setTop (mkF m 10 _ [(.int 2), (.int 0)])) _
    refine XS.icmpNo X0.here hx rfl (hb hby d1_10) rfl (tlt (by decide : (0 : Int32) < (2 : Int32))).2.1 ?_
    refine XS.lload X0.here hx rfl (hb hby d1_13) rfl ?_
    show Steps _ _ _ (s₁.setTop (mkF m 15 _ [(.long 0)])) _
    refine XS.aloadN X0.here hx rfl (hb hby d1_15) rfl rfl ?_
    refine XS.iloadN X0.here hx rfl (hb hby d1_16) rfl ?_
    show Steps _ _ _ (s₁.setTop (mkF m 17 _ [(.int p3), (.ref o2), (.long 0)])) _
    refine XS.iload X0.here hx rfl (hb hby d1_17) rfl ?_
    refine XS.iadd X0.here hx rfl (hb hby d1_19) rfl ?_
    show Steps _ _ _ (s₁.setTop (mkF m 20 _ [(.int (p3 + (0 : Int32))), (.ref o2), (.long 0)])) _
    refine X0.iaload hx (j := (p3 + (0 : Int32))) (v := (.int xa)) (by rw [e0]; exact Ar102.1) (State.isArrayOf_alike hZ.alike Ar102.2.1) Ar102.2.2 hin104 hat104 (g := (mkF m 20 #[rv o0, iv p1, rv o2, iv p3, iv 2, rv o5, iv p6, iv 2, .val (.long 0), .second, iv 0] [(.int (p3 + (0 : Int32))), (.ref o2), (.long 0)])) rfl rfl (hb hby d1_20) _ ?_
    refine XS.i2l X0.here hx rfl (hb hby d1_21) rfl ?_
    show Steps _ _ _ (s₁.setTop (mkF m 22 _ [(.long xa.toInt64), (.long 0)])) _
    refine X0.ldc2Long hx hown (mvT hZ (hw _ (List.mem_of_getElem? (i := 12) rfl))) (g := (mkF m 22 #[rv o0, iv p1, rv o2, iv p3, iv 2, rv o5, iv p6, iv 2, .val (.long 0), .second, iv 0] [(.long xa.toInt64), (.long 0)])) rfl (hb hby d1_22) _ ?_
    refine XS.land X0.here hx rfl (hb hby d1_25) rfl ?_
    show Steps _ _ _ (s₁.setTop (mkF m 26 _ [(.long (xa.toInt64 &&& (4294967295 : Int64))), (.long 0)])) _
    refine XS.aload X0.here hx rfl (hb hby d1_26) rfl rfl ?_
    show Steps _ _ _ (s₁.setTop (mkF m 28 #[rv o0, iv p1, rv o2, iv p3, iv 2, rv o5, iv p6, iv 2, .val (.long 0), .second, iv 0] [(.ref o5), (.long (xa.toInt64 &&& (4294967295 : Int64))), (.long 0)])) _
    refine XS.iload X0.here hx rfl (hb hby d1_28) rfl ?_
    refine XS.iload X0.here hx rfl (hb hby d1_30) rfl ?_
    show Steps _ _ _ (s₁.setTop (mkF m 32 _ [(.int 0), (.int p6), (.ref o5), (.long (xa.toInt64 &&& (4294967295 : Int64))), (.long 0)])) _
    refine XS.iadd X0.here hx rfl (hb hby d1_32) rfl ?_
    refine X0.iaload hx (j := (p6 + (0 : Int32))) (v := (.int ya)) (by rw [e0]; exact Ar105.1) (State.isArrayOf_alike hZ.alike Ar105.2.1) Ar105.2.2 hin107 hat107 (g := (mkF m 33 #[rv o0, iv p1, rv o2, iv p3, iv 2, rv o5, iv p6, iv 2, .val (.long 0), .second, iv 0] [(.int (p6 + (0 : Int32))), (.ref o5), (.long (xa.toInt64 &&& (4294967295 : Int64))), (.long 0)])) rfl rfl (hb hby d1_33) _ ?_
    show Steps _ _ _ (s₁.setTop (mkF m 34 _ [(.int ya), (.long (xa.toInt64 &&& (4294967295 : Int64))), (.long 0)])) _
    refine XS.i2l X0.here hx rfl (hb hby d1_34) rfl ?_
    refine X0.ldc2Long hx hown (mvT hZ (hw _ (List.mem_of_getElem? (i := 12) rfl))) (g := (mkF m 35 #[rv o0, iv p1, rv o2, iv p3, iv 2, rv o5, iv p6, iv 2, .val (.long 0), .second, iv 0] [(.long ya.toInt64), (.long (xa.toInt64 &&& (4294967295 : Int64))), (.long 0)])) rfl (hb hby d1_35) _ ?_
    show Steps _ _ _ (s₁.setTop (mkF m 38 _ [(.long 4294967295), (.long ya.toInt64), (.long (xa.toInt64 &&& (4294967295 : Int64))), (.long 0)])) _
    refine XS.land X0.here hx rfl (hb hby d1_38) rfl ?_
    refine XS.ladd X0.here hx rfl (hb hby d1_39) rfl ?_
    show Steps _ _ _ (s₁.setTop (mkF m 40 _ [(.long ((xa.toInt64 &&& (4294967295 : Int64)) + (ya.toInt64 &&& (4294967295 : Int64)))), (.long 0)])) _
    refine XS.ladd X0.here hx rfl (hb hby d1_40) rfl ?_
    refine XS.lstore X0.here hx rfl (hb hby d1_41) rfl (l' := #[rv o0, iv p1, rv o2, iv p3, iv 2, rv o5, iv p6, iv 2, .val (.long ((0 : Int64) + ((xa.toInt64 &&& (4294967295 : Int64)) + (ya.toInt64 &&& (4294967295 : Int64))))), .second, iv 0]) rfl ?_
    show Steps _ _ _ (s₁.setTop (mkF m 43 _ [])) _
    exact k)
  obtain ⟨s0_, hs0⟩ : ∃ z : Int64, z = ((0 : Int64) + ((xa.toInt64 &&& (4294967295 : Int64)) + (ya.toInt64 &&& (4294967295 : Int64)))) := ⟨_, rfl⟩
  rw [← hs0] at go108
  obtain ⟨cl109, Ar109, q109, S109, M109, Hs109, G109⟩ := V_o0
  have f110 : Arv Z h0 o0 kz_ .int (4 : Int32) zs_ (.int 0) := ⟨cl109, Ar109, q109, S109, M109, Hs109, G109⟩
  have hin111 : ¬ ((p1 + (0 : Int32)) < 0 ∨ cl109.slots.size ≤ ((p1 + (0 : Int32))).toNatClampNeg) := inb_of S109 (own_in0 hzO)
  obtain ⟨T111, h111, X111, e111, W111, st111⟩ := stI X0 hx hZ e0 Ar109 (j := (p1 + (0 : Int32))) hin111 (g := (mkF m 51 #[rv o0, iv p1, rv o2, iv p3, iv 2, rv o5, iv p6, iv 2, .val (.long s0_), .second, iv 0] [(.int s0_.toInt32), (.int (p1 + (0 : Int32))), (.ref o0)])) rfl rfl (hb hby d1_51)
  have f112 := f106.other W111 ne_y
  have f113 := f103.other W111 ne_x
  have Z114 := Nat.le_trans Z0 (Keep.of_wr W111).1
  have K115 := K101.wr W111 (Or.inl (List.mem_of_getElem? (i := 0) rfl))
  have V111 : Arv Z h111 o0 kz_ .int (4 : Int32) (zs_.set ((p1 + (0 : Int32))).toNatClampNeg (.int s0_.toInt32)) (.int 0) := Arv.set Ar109 q109 S109 M109 Hs109 G109 rfl W111 ((p1 + (0 : Int32))).toNatClampNeg rfl (own_ln0 hzO hl)
  have N111 := Fr.snoc X111 N0 ge_o0
  have go116 : ∀ t, Steps p.tables e below (T111.setTop (mkF m 59 #[rv o0, iv p1, rv o2, iv p3, iv 2, rv o5, iv p6, iv 2, .val (.long ((s0_.toUInt64 >>> ((32 : Int32) &&& 0x3f).toInt64.toUInt64).toInt64)), .second, iv 0] [])) t → Steps p.tables e below O t := fun t k => go108 t (by
    refine XS.aloadN X0.here hx rfl (hb hby d1_43) rfl rfl ?_
    refine XS.iloadN X0.here hx rfl (hb hby d1_44) rfl ?_
    show Steps _ _ _ (s₁.setTop (mkF m 45 _ [(.int p1), (.ref o0)])) _
    refine XS.iload X0.here hx rfl (hb hby d1_45) rfl ?_
    refine XS.iadd X0.here hx rfl (hb hby d1_47) rfl ?_
    show Steps _ _ _ (s₁.setTop (mkF m 48 _ [(.int (p1 + (0 : Int32))), (.ref o0)])) _
    refine XS.lload X0.here hx rfl (hb hby d1_48) rfl ?_
    refine XS.l2i X0.here hx rfl (hb hby d1_50) rfl ?_
    show Steps _ _ _ (s₁.setTop (mkF m 51 _ [(.int s0_.toInt32), (.int (p1 + (0 : Int32))), (.ref o0)])) _
    refine st111 _ ?_
    show Steps _ _ _ (T111.setTop (mkF m 52 _ [])) _
    refine XS.lload X111.here hx rfl (hb hby d1_52) rfl ?_
    refine XS.bipush X111.here hx rfl (hb hby d1_54) ?_
    show Steps _ _ _ (T111.setTop (mkF m 56 _ [(.int 32), (.long s0_)])) _
    refine XS.lushr X111.here hx rfl (hb hby d1_56) rfl ?_
    refine XS.lstore X111.here hx rfl (hb hby d1_57) rfl (l' := #[rv o0, iv p1, rv o2, iv p3, iv 2, rv o5, iv p6, iv 2, .val (.long ((s0_.toUInt64 >>> ((32 : Int32) &&& 0x3f).toInt64.toUInt64).toInt64)), .second, iv 0]) rfl ?_
    show Steps _ _ _ (T111.setTop (mkF m 59 _ [])) _
    exact k)
  obtain ⟨c0_, hc0⟩ : ∃ z : Int64, z = ((s0_.toUInt64 >>> ((32 : Int32) &&& 0x3f).toInt64.toUInt64).toInt64) := ⟨_, rfl⟩
  rw [← hc0] at go116
  have go117 : ∀ t, Steps p.tables e below (T111.setTop (mkF m 10 #[rv o0, iv p1, rv o2, iv p3, iv 2, rv o5, iv p6, iv 2, .val (.long c0_), .second, iv ((0 : Int32) + (1 : Int32))] [(.int 2), (.int ((0 : Int32) + (1 : Int32)))])) t → Steps p.tables e below O t := fun t k => go116 t (by
    refine XS.iinc X111.here hx rfl (hb hby d1_59) rfl (l' := #[rv o0, iv p1, rv o2, iv p3, iv 2, rv o5, iv p6, iv 2, .val (.long c0_), .second, iv ((0 : Int32) + (1 : Int32))]) rfl ?_
    show Steps _ _ _ (T111.setTop (mkF m 62 _ [])) _
    refine XS.goto X111.here hx rfl (pc0 := 62) (pc' := 6) rfl (hb hby d1_62) (by decide) (by decide) ?_
    refine XS.iload X111.here hx rfl (hb hby d1_6) rfl ?_
    show Steps _ _ _ (T111.setTop (mkF m 8 _ [(.int ((0 : Int32) + (1 : Int32)))])) _
    refine XS.iload X111.here hx rfl (hb hby d1_8) rfl ?_
    exact k)
  have go118 : ∀ t, Steps p.tables e below (T111.setTop (mkF m 10 #[rv o0, iv p1, rv o2, iv p3, iv 2, rv o5, iv p6, iv 2, .val (.long c0_), .second, iv 1] [(.int 2), (.int ((0 : Int32) + (1 : Int32)))])) t → Steps p.tables e below O t := go117
  obtain ⟨cl119, Ar119, q119, S119, M119, Hs119, G119⟩ := f113
  have f120 : Arv Z h111 o2 kx_ .int (4 : Int32) xs_ (.int 0) := ⟨cl119, Ar119, q119, S119, M119, Hs119, G119⟩
  have hin121 : ¬ ((p3 + (1 : Int32)) < 0 ∨ cl119.slots.size ≤ ((p3 + (1 : Int32))).toNatClampNeg) := inb_of S119 (own_in1 hxO)
  have hat121 : cl119.slots[((p3 + (1 : Int32))).toNatClampNeg]? = some (.int xb) := Hs119.at hin121 hxb
  obtain ⟨cl122, Ar122, q122, S122, M122, Hs122, G122⟩ := f112
  have f123 : Arv Z h111 o5 ky_ .int (4 : Int32) ys_ (.int 0) := ⟨cl122, Ar122, q122, S122, M122, Hs122, G122⟩
  have hin124 : ¬ ((p6 + (1 : Int32)) < 0 ∨ cl122.slots.size ≤ ((p6 + (1 : Int32))).toNatClampNeg) := inb_of S122 (own_in1 hyO)
  have hat124 : cl122.slots[((p6 + (1 : Int32))).toNatClampNeg]? = some (.int yb) := Hs122.at hin124 hyb
  have go125 : ∀ t, Steps p.tables e below (T111.setTop (mkF m 43 #[rv o0, iv p1, rv o2, iv p3, iv 2, rv o5, iv p6, iv 2, .val (.long (c0_ + ((xb.toInt64 &&& (4294967295 : Int64)) + (yb.toInt64 &&& (4294967295 : Int64))))), .second, iv 1] [])) t → Steps p.tables e below O t := fun t k => go118 t (by
    refine XS.icmpNo X111.here hx rfl (hb hby d1_10) rfl (tlt (by decide : (1 : Int32) < (2 : Int32))).2.1 ?_
    refine XS.lload X111.here hx rfl (hb hby d1_13) rfl ?_
    show Steps _ _ _ (T111.setTop (mkF m 15 _ [(.long c0_)])) _
    refine XS.aloadN X111.here hx rfl (hb hby d1_15) rfl rfl ?_
    refine XS.iloadN X111.here hx rfl (hb hby d1_16) rfl ?_
    show Steps _ _ _ (T111.setTop (mkF m 17 _ [(.int p3), (.ref o2), (.long c0_)])) _
    refine XS.iload X111.here hx rfl (hb hby d1_17) rfl ?_
    refine XS.iadd X111.here hx rfl (hb hby d1_19) rfl ?_
    show Steps _ _ _ (T111.setTop (mkF m 20 _ [(.int (p3 + (1 : Int32))), (.ref o2), (.long c0_)])) _
    refine X111.iaload hx (j := (p3 + (1 : Int32))) (v := (.int xb)) (by rw [e111]; exact Ar119.1) (State.isArrayOf_alike hZ.alike Ar119.2.1) Ar119.2.2 hin121 hat121 (g := (mkF m 20 #[rv o0, iv p1, rv o2, iv p3, iv 2, rv o5, iv p6, iv 2, .val (.long c0_), .second, iv 1] [(.int (p3 + (1 : Int32))), (.ref o2), (.long c0_)])) rfl rfl (hb hby d1_20) _ ?_
    refine XS.i2l X111.here hx rfl (hb hby d1_21) rfl ?_
    show Steps _ _ _ (T111.setTop (mkF m 22 _ [(.long xb.toInt64), (.long c0_)])) _
    refine X111.ldc2Long hx hown (mvT hZ (hw _ (List.mem_of_getElem? (i := 12) rfl))) (g := (mkF m 22 #[rv o0, iv p1, rv o2, iv p3, iv 2, rv o5, iv p6, iv 2, .val (.long c0_), .second, iv 1] [(.long xb.toInt64), (.long c0_)])) rfl (hb hby d1_22) _ ?_
    refine XS.land X111.here hx rfl (hb hby d1_25) rfl ?_
    show Steps _ _ _ (T111.setTop (mkF m 26 _ [(.long (xb.toInt64 &&& (4294967295 : Int64))), (.long c0_)])) _
    refine XS.aload X111.here hx rfl (hb hby d1_26) rfl rfl ?_
    refine XS.iload X111.here hx rfl (hb hby d1_28) rfl ?_
    show Steps _ _ _ (T111.setTop (mkF m 30 _ [(.int p6), (.ref o5), (.long (xb.toInt64 &&& (4294967295 : Int64))), (.long c0_)])) _
    refine XS.iload X111.here hx rfl (hb hby d1_30) rfl ?_
    show Steps _ _ _ (T111.setTop (mkF m 32 #[rv o0, iv p1, rv o2, iv p3, iv 2, rv o5, iv p6, iv 2, .val (.long c0_), .second, iv 1] [(.int 1), (.int p6), (.ref o5), (.long (xb.toInt64 &&& (4294967295 : Int64))), (.long c0_)])) _
    refine XS.iadd X111.here hx rfl (hb hby d1_32) rfl ?_
    refine X111.iaload hx (j := (p6 + (1 : Int32))) (v := (.int yb)) (by rw [e111]; exact Ar122.1) (State.isArrayOf_alike hZ.alike Ar122.2.1) Ar122.2.2 hin124 hat124 (g := (mkF m 33 #[rv o0, iv p1, rv o2, iv p3, iv 2, rv o5, iv p6, iv 2, .val (.long c0_), .second, iv 1] [(.int (p6 + (1 : Int32))), (.ref o5), (.long (xb.toInt64 &&& (4294967295 : Int64))), (.long c0_)])) rfl rfl (hb hby d1_33) _ ?_
    show Steps _ _ _ (T111.setTop (mkF m 34 _ [(.int yb), (.long (xb.toInt64 &&& (4294967295 : Int64))), (.long c0_)])) _
    refine XS.i2l X111.here hx rfl (hb hby d1_34) rfl ?_
    refine X111.ldc2Long hx hown (mvT hZ (hw _ (List.mem_of_getElem? (i := 12) rfl))) (g := (mkF m 35 #[rv o0, iv p1, rv o2, iv p3, iv 2, rv o5, iv p6, iv 2, .val (.long c0_), .second, iv 1] [(.long yb.toInt64), (.long (xb.toInt64 &&& (4294967295 : Int64))), (.long c0_)])) rfl (hb hby d1_35) _ ?_
    show Steps _ _ _ (T111.setTop (mkF m 38 _ [(.long 4294967295), (.long yb.toInt64), (.long (xb.toInt64 &&& (4294967295 : Int64))), (.long c0_)])) _
    refine XS.land X111.here hx rfl (hb hby d1_38) rfl ?_
    refine XS.ladd X111.here hx rfl (hb hby d1_39) rfl ?_
    show Steps _ _ _ (T111.setTop (mkF m 40 _ [(.long ((xb.toInt64 &&& (4294967295 : Int64)) + (yb.toInt64 &&& (4294967295 : Int64)))), (.long c0_)])) _
    refine XS.ladd X111.here hx rfl (hb hby d1_40) rfl ?_
    refine XS.lstore X111.here hx rfl (hb hby d1_41) rfl (l' := #[rv o0, iv p1, rv o2, iv p3, iv 2, rv o5, iv p6, iv 2, .val (.long (c0_ + ((xb.toInt64 &&& (4294967295 : Int64)) + (yb.toInt64 &&& (4294967295 : Int64))))), .second, iv 1]) rfl ?_
    show Steps _ _ _ (T111.setTop (mkF m 43 _ [])) _
    exact k)
  obtain ⟨s1_, hs1⟩ : ∃ z : Int64, z = (c0_ + ((xb.toInt64 &&& (4294967295 : Int64)) + (yb.toInt64 &&& (4294967295 : Int64)))) := ⟨_, rfl⟩
  rw [← hs1] at go125
  obtain ⟨cl126, Ar126, q126, S126, M126, Hs126, G126⟩ := V111
  have f127 : Arv Z h111 o0 kz_ .int (4 : Int32) (zs_.set ((p1 + (0 : Int32))).toNatClampNeg (.int s0_.toInt32)) (.int 0) := ⟨cl126, Ar126, q126, S126, M126, Hs126, G126⟩
  have hin128 : ¬ ((p1 + (1 : Int32)) < 0 ∨ cl126.slots.size ≤ ((p1 + (1 : Int32))).toNatClampNeg) := inb_of S126 (own_in1 hzO)
  obtain ⟨T128, h128, X128, e128, W128, st128⟩ := stI X111 hx hZ e111 Ar126 (j := (p1 + (1 : Int32))) hin128 (g := (mkF m 51 #[rv o0, iv p1, rv o2, iv p3, iv 2, rv o5, iv p6, iv 2, .val (.long s1_), .second, iv 1] [(.int s1_.toInt32), (.int (p1 + (1 : Int32))), (.ref o0)])) rfl rfl (hb hby d1_51)
  have f129 := f123.other W128 ne_y
  have f130 := f120.other W128 ne_x
  have Z131 := Nat.le_trans Z114 (Keep.of_wr W128).1
  have K132 := K115.wr W128 (Or.inl (List.mem_of_getElem? (i := 0) rfl))
  have V128 : Arv Z h128 o0 kz_ .int (4 : Int32) ((zs_.set ((p1 + (0 : Int32))).toNatClampNeg (.int s0_.toInt32)).set ((p1 + (1 : Int32))).toNatClampNeg (.int s1_.toInt32)) (.int 0) := Arv.set Ar126 q126 S126 M126 Hs126 G126 rfl W128 ((p1 + (1 : Int32))).toNatClampNeg rfl (own_ln1 hzO ((List.length_set ..).trans hl))
  have N128 := Fr.snoc X128 N111 ge_o0
  have go133 : ∀ t, Steps p.tables e below (T128.setTop (mkF m 59 #[rv o0, iv p1, rv o2, iv p3, iv 2, rv o5, iv p6, iv 2, .val (.long ((s1_.toUInt64 >>> ((32 : Int32) &&& 0x3f).toInt64.toUInt64).toInt64)), .second, iv 1] [])) t → Steps p.tables e below O t := fun t k => go125 t (by
    refine XS.aloadN X111.here hx rfl (hb hby d1_43) rfl rfl ?_
    refine XS.iloadN X111.here hx rfl (hb hby d1_44) rfl ?_
    show Steps _ _ _ (T111.setTop (mkF m 45 _ [(.int p1), (.ref o0)])) _
    refine XS.iload X111.here hx rfl (hb hby d1_45) rfl ?_
    refine XS.iadd X111.here hx rfl (hb hby d1_47) rfl ?_
    show Steps _ _ _ (T111.setTop (mkF m 48 _ [(.int (p1 + (1 : Int32))), (.ref o0)])) _
    refine XS.lload X111.here hx rfl (hb hby d1_48) rfl ?_
    refine XS.l2i X111.here hx rfl (hb hby d1_50) rfl ?_
    show Steps _ _ _ (T111.setTop (mkF m 51 _ [(.int s1_.toInt32), (.int (p1 + (1 : Int32))), (.ref o0)])) _
    refine st128 _ ?_
    show Steps _ _ _ (T128.setTop (mkF m 52 _ [])) _
    refine XS.lload X128.here hx rfl (hb hby d1_52) rfl ?_
    refine XS.bipush X128.here hx rfl (hb hby d1_54) ?_
    show Steps _ _ _ (T128.setTop (mkF m 56 _ [(.int 32), (.long s1_)])) _
    refine XS.lushr X128.here hx rfl (hb hby d1_56) rfl ?_
    refine XS.lstore X128.here hx rfl (hb hby d1_57) rfl (l' := #[rv o0, iv p1, rv o2, iv p3, iv 2, rv o5, iv p6, iv 2, .val (.long ((s1_.toUInt64 >>> ((32 : Int32) &&& 0x3f).toInt64.toUInt64).toInt64)), .second, iv 1]) rfl ?_
    show Steps _ _ _ (T128.setTop (mkF m 59 _ [])) _
    exact k)
  obtain ⟨c1_, hc1⟩ : ∃ z : Int64, z = ((s1_.toUInt64 >>> ((32 : Int32) &&& 0x3f).toInt64.toUInt64).toInt64) := ⟨_, rfl⟩
  rw [← hc1] at go133
  have go134 : ∀ t, Steps p.tables e below (T128.setTop (mkF m 10 #[rv o0, iv p1, rv o2, iv p3, iv 2, rv o5, iv p6, iv 2, .val (.long c1_), .second, iv ((1 : Int32) + (1 : Int32))] [(.int 2), (.int ((1 : Int32) + (1 : Int32)))])) t → Steps p.tables e below O t := fun t k => go133 t (by
    refine XS.iinc X128.here hx rfl (hb hby d1_59) rfl (l' := #[rv o0, iv p1, rv o2, iv p3, iv 2, rv o5, iv p6, iv 2, .val (.long c1_), .second, iv ((1 : Int32) + (1 : Int32))]) rfl ?_
    show Steps _ _ _ (T128.setTop (mkF m 62 _ [])) _
    refine XS.goto X128.here hx rfl (pc0 := 62) (pc' := 6) rfl (hb hby d1_62) (by decide) (by decide) ?_
    refine XS.iload X128.here hx rfl (hb hby d1_6) rfl ?_
    show Steps _ _ _ (T128.setTop (mkF m 8 _ [(.int ((1 : Int32) + (1 : Int32)))])) _
    refine XS.iload X128.here hx rfl (hb hby d1_8) rfl ?_
    exact k)
  have go135 : ∀ t, Steps p.tables e below (T128.setTop (mkF m 10 #[rv o0, iv p1, rv o2, iv p3, iv 2, rv o5, iv p6, iv 2, .val (.long c1_), .second, iv 2] [(.int 2), (.int ((1 : Int32) + (1 : Int32)))])) t → Steps p.tables e below O t := go134
  have go136 : ∀ t, Steps p.tables e below (T128.setTop (mkF m 117 #[rv o0, iv p1, rv o2, iv p3, iv 2, rv o5, iv p6, iv 2, .val (.long c1_), .second, iv 2] [(.int c1_.toInt32)])) t → Steps p.tables e below O t := fun t k => go135 t (by
    refine XS.icmpYes X128.here hx rfl (pc0 := 10) (pc' := 65) rfl (hb hby d1_10) rfl (flt (by decide : ¬ ((2 : Int32) < (2 : Int32)))).2.1 (by decide) (by decide) ?_
    refine XS.iload X128.here hx rfl (hb hby d1_65) rfl ?_
    show Steps _ _ _ (T128.setTop (mkF m 67 _ [(.int 2)])) _
    refine XS.istore X128.here hx rfl (hb hby d1_67) rfl (l' := #[rv o0, iv p1, rv o2, iv p3, iv 2, rv o5, iv p6, iv 2, .val (.long c1_), .second, iv 2]) rfl ?_
    show Steps _ _ _ (T128.setTop (mkF m 69 _ [])) _
    refine XS.iload X128.here hx rfl (hb hby d1_69) rfl ?_
    refine XS.iload X128.here hx rfl (hb hby d1_71) rfl ?_
    show Steps _ _ _ (T128.setTop (mkF m 73 _ [(.int 2), (.int 2)])) _
    refine XS.icmpYes X128.here hx rfl (pc0 := 73) (pc' := 114) rfl (hb hby d1_73) rfl (flt (by decide : ¬ ((2 : Int32) < (2 : Int32)))).2.1 (by decide) (by decide) ?_
    refine XS.lload X128.here hx rfl (hb hby d1_114) rfl ?_
    show Steps _ _ _ (T128.setTop (mkF m 116 _ [(.long c1_)])) _
    refine XS.l2i X128.here hx rfl (hb hby d1_116) rfl ?_
    exact k)
  have hp : own_post (2 : Int32) (2 : Int32) xa xb ya yb c1_.toInt32 s0_.toInt32 s1_.toInt32 := by
    subst hc1 hs1 hc0 hs0
    exact own_ar_22 xa xb ya yb
  rw [hO] at go136
  obtain ⟨fs, hr, hrun, hended, hW, hsame⟩ := X128.leave (v := some (.int c1_.toInt32)) (fun h => by rw [Bd.returns] at h; cases h)
  refine ⟨_, _, go136 _ ?_, hrun, hended, _, _, rfl, ?_, ⟨_, rfl⟩, hW, hsame.mono (by decide) (by decide)⟩
  · exact retI X128 hx Bd.returns (hb hby d1_117) hr
  · show Q_aa22 Z o0 p1 o2 p3 o5 p6 kz_ zs_ ky_ ys_ xa xb ya yb kx_ xs_ h0 n0 _ T128.heap _
    rw [e128]
    exact ⟨_, _, _, rfl, N128, hp, K132, own_put_2 hzO V128⟩
def Q_aa (Z : State) (o0 : Addr) (p1 : Int32) (o2 : Addr) (p3 : Int32) (o5 : Addr) (p6 : Int32) (p4 : Int32) (p7 : Int32) (kz_ : ClassId) (zs_ : List Value) (ky_ : ClassId) (ys_ : List Value) (xa : Int32) (xb : Int32) (ya : Int32) (yb : Int32) (kx_ : ClassId) (xs_ : List Value) (h0 : Heap) (n0 : Nat) (v : Option Value) (h : Heap) (L : List Loc) : Prop := ∃ r u0 u1 : Int32, v = some (.int r) ∧ Fr n0 L ∧ own_post p4 p7 xa xb ya yb r u0 u1 ∧ Keep h0 h [o0] ∧ Arv Z h o0 kz_ .int (4 : Int32) (own_put p4 p1 zs_ u0 u1) (.int (0 : Int32))
theorem rm_aa (l : Launch) (Z : State) (a0 : Array Value) (hw : ∀ d ∈ tables_1, d.before a0 Z = true) (ws : List Jvm.Cond) (o0 : Addr) (p1 : Int32) (o2 : Addr) (p3 : Int32) (o5 : Addr) (p6 : Int32) (p4 : Int32) (p7 : Int32) (kz_ : ClassId) (zs_ : List Value) (ky_ : ClassId) (ys_ : List Value) (xa : Int32) (xb : Int32) (ya : Int32) (yb : Int32) (kx_ : ClassId) (xs_ : List Value) (h0 : Heap) (n0 : Nat) (Z0 : n0 ≤ h0.size) (ge_o0 : n0 ≤ o0) (V_o0 : Arv Z h0 o0 kz_ .int (4 : Int32) zs_ (.int (0 : Int32))) (V_o5 : Arv Z h0 o5 ky_ .int (4 : Int32) ys_ (.int (0 : Int32))) (ne_y : o5 ≠ o0) (hl : zs_.length = 4) (V_o2 : Arv Z h0 o2 kx_ .int (4 : Int32) xs_ (.int (0 : Int32))) (ne_x : o2 ≠ o0) (hzO : p1 = (0 : Int32) ∨ p1 = (1 : Int32)) (hyO : p6 = (0 : Int32) ∨ p6 = (1 : Int32)) (hxO : p3 = (0 : Int32) ∨ p3 = (1 : Int32)) (hxa : xs_.getD (p3 + (0 : Int32)).toNatClampNeg (.int (0 : Int32)) = .int xa) (hya : ys_.getD (p6 + (0 : Int32)).toNatClampNeg (.int (0 : Int32)) = .int ya) (hxb : xs_.getD (p3 + (1 : Int32)).toNatClampNeg (.int (0 : Int32)) = .int xb) (hyb : ys_.getD (p6 + (1 : Int32)).toNatClampNeg (.int (0 : Int32)) = .int yb) (hnm : (p4 = (0 : Int32) ∧ p7 = (0 : Int32)) ∨ (p4 = (1 : Int32) ∧ p7 = (0 : Int32)) ∨ (p4 = (1 : Int32) ∧ p7 = (1 : Int32)) ∨ (p4 = (2 : Int32) ∧ p7 = (0 : Int32)) ∨ (p4 = (2 : Int32) ∧ p7 = (1 : Int32)) ∨ (p4 = (2 : Int32) ∧ p7 = (2 : Int32))) :
    MetFree l (⟨"com/example/limbwise/kernel/Words", "add", "([II[III[III)I"⟩ : MethodName) (head1 (Jvm.Cond.code (⟨"com/example/limbwise/kernel/Words", "add", "([II[III[III)I"⟩ : MethodName) prog_24_method_2_code 11 (some .int) :: ws) ({ frames := 0, cells := 0, slots := 0, locals := 0 } : Room)) (fun a U => a = #[(.ref o0), (.int p1), (.ref o2), (.int p3), (.int p4), (.ref o5), (.int p6), (.int p7)] ∧ Z.Warmed39 U.vm ∧ U.heap = h0) (fun _ _ _ _ _ => True) (fun _ U o U' => ∃ v L, o = .returned v ∧ Q_aa Z o0 p1 o2 p3 o5 p6 p4 p7 kz_ zs_ ky_ ys_ xa xb ya yb kx_ xs_ h0 n0 v U'.heap L ∧ FrameEnd U o U' L ({ frames := 0, cells := 0, slots := 0, locals := 0 } : Room).cells ({ frames := 0, cells := 0, slots := 0, locals := 0 } : Room).slots) := by
  rcases hnm with ⟨rfl, rfl⟩ | ⟨rfl, rfl⟩ | ⟨rfl, rfl⟩ | ⟨rfl, rfl⟩ | ⟨rfl, rfl⟩ | ⟨rfl, rfl⟩
  · exact rm_aa00 l Z a0 hw ws o0 p1 o2 p3 o5 p6 kz_ zs_ ky_ ys_ xa xb ya yb kx_ xs_ h0 n0 Z0 ge_o0 V_o0 V_o5 ne_y hl V_o2 ne_x hzO hyO hxO hxa hya hxb hyb
  · exact rm_aa10 l Z a0 hw ws o0 p1 o2 p3 o5 p6 kz_ zs_ ky_ ys_ xa xb ya yb kx_ xs_ h0 n0 Z0 ge_o0 V_o0 V_o5 ne_y hl V_o2 ne_x hzO hyO hxO hxa hya hxb hyb
  · exact rm_aa11 l Z a0 hw ws o0 p1 o2 p3 o5 p6 kz_ zs_ ky_ ys_ xa xb ya yb kx_ xs_ h0 n0 Z0 ge_o0 V_o0 V_o5 ne_y hl V_o2 ne_x hzO hyO hxO hxa hya hxb hyb
  · exact rm_aa20 l Z a0 hw ws o0 p1 o2 p3 o5 p6 kz_ zs_ ky_ ys_ xa xb ya yb kx_ xs_ h0 n0 Z0 ge_o0 V_o0 V_o5 ne_y hl V_o2 ne_x hzO hyO hxO hxa hya hxb hyb
  · exact rm_aa21 l Z a0 hw ws o0 p1 o2 p3 o5 p6 kz_ zs_ ky_ ys_ xa xb ya yb kx_ xs_ h0 n0 Z0 ge_o0 V_o0 V_o5 ne_y hl V_o2 ne_x hzO hyO hxO hxa hya hxb hyb
  · exact rm_aa22 l Z a0 hw ws o0 p1 o2 p3 o5 p6 kz_ zs_ ky_ ys_ xa xb ya yb kx_ xs_ h0 n0 Z0 ge_o0 V_o0 V_o5 ne_y hl V_o2 ne_x hzO hyO hxO hxa hya hxb hyb
theorem own_inS {p : Int32} (h : p = (0 : Int32) ∨ p = (1 : Int32)) : ¬ p < 0 ∧ p < (4 : Int32) := by rcases h with rfl | rfl <;> decide
theorem own_lnS {p : Int32} {zs : List Value} (h : p = (0 : Int32) ∨ p = (1 : Int32)) (hl : zs.length = 4) : p.toNatClampNeg < zs.length := by rw [hl]; rcases h with rfl | rfl <;> decide
theorem own_fill (p s a b : Int32) (h : p = (0 : Int32) ∨ p = (1 : Int32)) : ∃ x0 x1 x2 x3 : Int32, (([.int s, .int s, .int s, .int s] : List Value).set p.toNatClampNeg (.int a)).set (p + (1 : Int32)).toNatClampNeg (.int b) = [.int x0, .int x1, .int x2, .int x3] ∧ ([.int x0, .int x1, .int x2, .int x3] : List Value).getD (p + (0 : Int32)).toNatClampNeg (.int (0 : Int32)) = .int a ∧ ([.int x0, .int x1, .int x2, .int x3] : List Value).getD (p + (1 : Int32)).toNatClampNeg (.int (0 : Int32)) = .int b := by
  rcases h with rfl | rfl
  · exact ⟨a, b, s, s, rfl, rfl, rfl⟩
  · exact ⟨s, a, b, s, rfl, rfl, rfl⟩
theorem own_fin (n p : Int32) (s : Int64) (z0 z1 z2 z3 u0 u1 : Int32) (hn : n = (0 : Int32) ∨ n = (1 : Int32) ∨ n = (2 : Int32)) (hp : p = (0 : Int32) ∨ p = (1 : Int32)) (h0 : ¬ n < (1 : Int32) → u0 = s.toInt32) (h1 : ¬ n < (2 : Int32) → u1 = (own_hi s).toInt32) :
    own_put n p [.int z0, .int z1, .int z2, .int z3] u0 u1 = [.int (own_exp (0 : Int32) p n s z0), .int (own_exp (1 : Int32) p n s z1), .int (own_exp (2 : Int32) p n s z2), .int (own_exp (3 : Int32) p n s z3)] := by
  rcases hn with rfl | rfl | rfl <;> rcases hp with rfl | rfl
  · rfl
  · rfl
  · rw [h0 (by decide)]; rfl
  · rw [h0 (by decide)]; rfl
  · rw [h0 (by decide), h1 (by decide)]; rfl
  · rw [h0 (by decide), h1 (by decide)]; rfl
theorem own_nm (n m : Int32) (h0 : 0 ≤ n.toInt) (h2 : n.toInt ≤ 2) (h3 : 0 ≤ m.toInt) (h4 : m.toInt ≤ n.toInt) : (n = (0 : Int32) ∧ m = (0 : Int32)) ∨ (n = (1 : Int32) ∧ m = (0 : Int32)) ∨ (n = (1 : Int32) ∧ m = (1 : Int32)) ∨ (n = (2 : Int32) ∧ m = (0 : Int32)) ∨ (n = (2 : Int32) ∧ m = (1 : Int32)) ∨ (n = (2 : Int32) ∧ m = (2 : Int32)) := by
  have z0 : (0 : Int32).toInt = 0 := rfl
  have z1 : (1 : Int32).toInt = 1 := rfl
  have z2 : (2 : Int32).toInt = 2 := rfl
  simp only [← Int32.toInt_inj, z0, z1, z2]
  omega
theorem own_n (n : Int32) (h0 : 0 ≤ n.toInt) (h2 : n.toInt ≤ 2) : n = (0 : Int32) ∨ n = (1 : Int32) ∨ n = (2 : Int32) := by
  have z0 : (0 : Int32).toInt = 0 := rfl
  have z1 : (1 : Int32).toInt = 1 := rfl
  have z2 : (2 : Int32).toInt = 2 := rfl
  simp only [← Int32.toInt_inj, z0, z1, z2]
  omega
theorem own_nz (nw : Int32) (h0 : 0 ≤ nw.toInt) (h3 : nw.toInt ≤ 2) : ¬ nw + (1 : Int32) = (0 : Int32) := fun h => by
  have z1 : (1 : Int32).toInt = 1 := rfl
  have z0 : (0 : Int32).toInt = 0 := rfl
  have e1 : (nw + (1 : Int32)).toInt = nw.toInt + 1 := by have := c_iadd nw 1; have := rng32 (nw + 1); omega
  rw [h] at e1; omega
theorem own_pl (s nw : Int32) (hs : 0 ≤ s.toInt) (h0 : 0 ≤ nw.toInt) (h3 : nw.toInt ≤ 2) : 0 ≤ (s % (nw + (1 : Int32))).toInt ∧ (s % (nw + (1 : Int32))).toInt ≤ nw.toInt := by
  have z1 : (1 : Int32).toInt = 1 := rfl
  have e1 : (nw + (1 : Int32)).toInt = nw.toInt + 1 := by have := c_iadd nw 1; have := rng32 (nw + 1); omega
  have := (c_iremV s (nw + 1)).1 hs (by omega)
  omega
theorem ef_law (m : MethodId) (x0 : Int32) (x1 : Int32) (x2 : Int32) (x3 : Int32) (x4 : Int32) (x5 : Int32) : entryFrame m #[(.int x0), (.int x1), (.int x2), (.int x3), (.int x4), (.int x5)] maxLocals = mkF m 0 #[iv x0, iv x1, iv x2, iv x3, iv x4, iv x5, .unset, .unset, .unset, .unset, .unset, .unset, .unset, .unset, .unset, .unset, .unset, .unset, .unset, .unset, .unset, .unset, .unset, .unset, .unset, .unset, .unset, .unset, .unset, .unset, .unset, .unset, .unset, .unset, .unset, .unset, .unset, .unset, .unset, .unset, .unset, .unset, .unset, .unset, .unset] [] := by first | (simp [entryFrame, mkF, argsToLocals, Value.category, maxLocals]; done) | rfl
def Q_law (Z : State) (p0 : Int32) (p1 : Int32) (p2 : Int32) (p3 : Int32) (p4 : Int32) (p5 : Int32) (h0 : Heap) (n0 : Nat) (v : Option Value) (h : Heap) (L : List Loc) : Prop := v = some (.int (1 : Int32)) ∧ Fr n0 L
theorem pd_0 : parseMethodDescriptor "([II[III[III)I" = some ⟨[(.array .int), .int, (.array .int), .int, .int, (.array .int), .int, .int], some .int⟩ := by decide +kernel
theorem pd_1 : parseMethodDescriptor "(IIIJI)I" = some ⟨[.int, .int, .int, .long, .int], some .int⟩ := by decide +kernel
set_option maxRecDepth 65536 in
set_option maxHeartbeats 40000000 in
theorem rm_law (l : Launch) (Z : State) (a0 : Array Value) (hw : ∀ d ∈ tables_1, d.before a0 Z = true) (ws : List Jvm.Cond) (p0 : Int32) (p1 : Int32) (p2 : Int32) (p3 : Int32) (p4 : Int32) (p5 : Int32) (h0 : Heap) (n0 : Nat) (Z0 : n0 ≤ h0.size)  :
    MetFree l x (head1 (Jvm.Cond.code x code maxLocals ret :: ws) room_1) (fun a U => a = #[(.int p0), (.int p1), (.int p2), (.int p3), (.int p4), (.int p5)] ∧ Z.Warmed39 U.vm ∧ U.heap = h0) (fun _ _ _ _ _ => True) (fun _ U o U' => ∃ v L, o = .returned v ∧ Q_law Z p0 p1 p2 p3 p4 p5 h0 n0 v U'.heap L ∧ FrameEnd U o U' L room_1.cells room_1.slots) := by
  refine MetFree.of_bodySF (plainFor_of_name pn_0) hisR ?_
  intro p e s m args below meth c s₁ Bd hml0 hP hK
  obtain ⟨rfl, hZ, hh⟩ := hP
  have hx := Bd.exec
  have hby := Bd.bytes
  have hml : c.maxLocals = 45 := hml0
  have hown : s.vm.findClass "com/example/limbwise/kernel/WordsAddPinLaw" = some m.cls := findClass_of_methodNamed Bd.named
  have hnm := (name_of_methodNamed Bd.named Bd.method).1
  have X0 : Stand p l e room_1 s m #[(.int p0), (.int p1), (.int p2), (.int p3), (.int p4), (.int p5)] below meth c s₁ [] 0 0 := Stand.of_body Bd
  have e0 : s₁.heap = h0 := by rw [← hh, Bd.state]; rfl
  have N0 := Fr.nil n0
  have go0 : ∀ t, Steps p.tables e below (s₁.setTop (mkF m 0 #[iv p0, iv p1, iv p2, iv p3, iv p4, iv p5, .unset, .unset, .unset, .unset, .unset, .unset, .unset, .unset, .unset, .unset, .unset, .unset, .unset, .unset, .unset, .unset, .unset, .unset, .unset, .unset, .unset, .unset, .unset, .unset, .unset, .unset, .unset, .unset, .unset, .unset, .unset, .unset, .unset, .unset, .unset, .unset, .unset, .unset, .unset] [])) t → Steps p.tables e below (s₁.setTop (entryFrame m #[(.int p0), (.int p1), (.int p2), (.int p3), (.int p4), (.int p5)] maxLocals)) t := fun t k => castTop (ef_law m p0 p1 p2 p3 p4 p5) k
  obtain ⟨O, hO⟩ : ∃ z, z = (s₁.setTop (entryFrame m #[(.int p0), (.int p1), (.int p2), (.int p3), (.int p4), (.int p5)] maxLocals)) := ⟨_, rfl⟩
  rw [← hO] at go0
  have g_s0 : 0 ≤ (p4 &&& (2147483647 : Int32)).toInt := by rw [c_mask p4 _ 31 (by decide) (by decide)]; omega
  have g_n : 0 ≤ ((p4 &&& (2147483647 : Int32)) % (3 : Int32)).toInt ∧ ((p4 &&& (2147483647 : Int32)) % (3 : Int32)).toInt ≤ 2 := by have h := (c_irem (p4 &&& (2147483647 : Int32)) (3 : Int32) 3 rfl).1 g_s0; omega
  have go101 : ∀ t, Steps p.tables e below (s₁.setTop (mkF m 9 #[iv p0, iv p1, iv p2, iv p3, iv p4, iv p5, iv ((p4 &&& (2147483647 : Int32)) % (3 : Int32)), .unset, .unset, .unset, .unset, .unset, .unset, .unset, .unset, .unset, .unset, .unset, .unset, .unset, .unset, .unset, .unset, .unset, .unset, .unset, .unset, .unset, .unset, .unset, .unset, .unset, .unset, .unset, .unset, .unset, .unset, .unset, .unset, .unset, .unset, .unset, .unset, .unset, .unset] [])) t → Steps p.tables e below O t := fun t k => go0 t (by
    refine XS.iload X0.here hx rfl (hb hby at_0) rfl ?_
    refine X0.ldcInt hx hown (mvT hZ (hw _ (List.mem_of_getElem? (i := 0) rfl))) (g := (mkF m 2 #[iv p0, iv p1, iv p2, iv p3, iv p4, iv p5, .unset, .unset, .unset, .unset, .unset, .unset, .unset, .unset, .unset, .unset, .unset, .unset, .unset, .unset, .unset, .unset, .unset, .unset, .unset, .unset, .unset, .unset, .unset, .unset, .unset, .unset, .unset, .unset, .unset, .unset, .unset, .unset, .unset, .unset, .unset, .unset, .unset, .unset, .unset] [(.int p4)])) rfl (hb hby at_2) _ ?_
    show Steps _ _ _ (s₁.setTop (mkF m 4 _ [(.int 2147483647), (.int p4)])) _
    refine XS.iand X0.here hx rfl (hb hby at_4) rfl ?_
    refine XS.iconst X0.here hx rfl (hb hby at_5) ?_
    show Steps _ _ _ (s₁.setTop (mkF m 6 _ [(.int 3), (.int (p4 &&& (2147483647 : Int32)))])) _
    refine iremM X0 hx rfl (hb hby at_6) rfl (by decide) ?_
    refine XS.istore X0.here hx rfl (hb hby at_7) rfl (l' := #[iv p0, iv p1, iv p2, iv p3, iv p4, iv p5, iv ((p4 &&& (2147483647 : Int32)) % (3 : Int32)), .unset, .unset, .unset, .unset, .unset, .unset, .unset, .unset, .unset, .unset, .unset, .unset, .unset, .unset, .unset, .unset, .unset, .unset, .unset, .unset, .unset, .unset, .unset, .unset, .unset, .unset, .unset, .unset, .unset, .unset, .unset, .unset, .unset, .unset, .unset, .unset, .unset, .unset]) rfl ?_
    show Steps _ _ _ (s₁.setTop (mkF m 9 _ [])) _
    exact k)
  obtain ⟨n_, hq_n⟩ : ∃ z : Int32, z = ((p4 &&& (2147483647 : Int32)) % (3 : Int32)) := ⟨_, rfl⟩
  rw [← hq_n] at go101
  rw [← hq_n] at g_n
  have g_s1 : 0 ≤ (((p4.toUInt32 >>> ((2 : Int32) &&& 31).toUInt32).toInt32) &&& (3 : Int32)).toInt := by rw [c_mask _ _ 2 (by decide) (by decide)]; omega
  have g_m := own_pl (((p4.toUInt32 >>> ((2 : Int32) &&& 31).toUInt32).toInt32) &&& (3 : Int32)) n_ g_s1 g_n.1 g_n.2
  have go102 : ∀ t, Steps p.tables e below (s₁.setTop (mkF m 22 #[iv p0, iv p1, iv p2, iv p3, iv p4, iv p5, iv n_, iv ((((p4.toUInt32 >>> ((2 : Int32) &&& 31).toUInt32).toInt32) &&& (3 : Int32)) % (n_ + (1 : Int32))), .unset, .unset, .unset, .unset, .unset, .unset, .unset, .unset, .unset, .unset, .unset, .unset, .unset, .unset, .unset, .unset, .unset, .unset, .unset, .unset, .unset, .unset, .unset, .unset, .unset, .unset, .unset, .unset, .unset, .unset, .unset, .unset, .unset, .unset, .unset, .unset, .unset] [])) t → Steps p.tables e below O t := fun t k => go101 t (by
    refine XS.iload X0.here hx rfl (hb hby at_9) rfl ?_
    refine XS.iconst X0.here hx rfl (hb hby at_11) ?_
    show Steps _ _ _ (s₁.setTop (mkF m 12 _ [(.int 2), (.int p4)])) _
    refine XS.iushr X0.here hx rfl (hb hby at_12) rfl ?_
    refine XS.iconst X0.here hx rfl (hb hby at_13) ?_
    show Steps _ _ _ (s₁.setTop (mkF m 14 _ [(.int 3), (.int ((p4.toUInt32 >>> ((2 : Int32) &&& 31).toUInt32).toInt32))])) _
    refine XS.iand X0.here hx rfl (hb hby at_14) rfl ?_
    refine XS.iload X0.here hx rfl (hb hby at_15) rfl ?_
    show Steps _ _ _ (s₁.setTop (mkF m 17 _ [(.int n_), (.int (((p4.toUInt32 >>> ((2 : Int32) &&& 31).toUInt32).toInt32) &&& (3 : Int32)))])) _
    refine XS.iconst X0.here hx rfl (hb hby at_17) ?_
    refine XS.iadd X0.here hx rfl (hb hby at_18) rfl ?_
    show Steps _ _ _ (s₁.setTop (mkF m 19 _ [(.int (n_ + (1 : Int32))), (.int (((p4.toUInt32 >>> ((2 : Int32) &&& 31).toUInt32).toInt32) &&& (3 : Int32)))])) _
    refine iremM X0 hx rfl (hb hby at_19) rfl (own_nz n_ g_n.1 g_n.2) ?_
    refine XS.istore X0.here hx rfl (hb hby at_20) rfl (l' := #[iv p0, iv p1, iv p2, iv p3, iv p4, iv p5, iv n_, iv ((((p4.toUInt32 >>> ((2 : Int32) &&& 31).toUInt32).toInt32) &&& (3 : Int32)) % (n_ + (1 : Int32))), .unset, .unset, .unset, .unset, .unset, .unset, .unset, .unset, .unset, .unset, .unset, .unset, .unset, .unset, .unset, .unset, .unset, .unset, .unset, .unset, .unset, .unset, .unset, .unset, .unset, .unset, .unset, .unset, .unset, .unset, .unset, .unset, .unset, .unset, .unset, .unset, .unset]) rfl ?_
    show Steps _ _ _ (s₁.setTop (mkF m 22 _ [])) _
    exact k)
  obtain ⟨m_, hq_m⟩ : ∃ z : Int32, z = ((((p4.toUInt32 >>> ((2 : Int32) &&& 31).toUInt32).toInt32) &&& (3 : Int32)) % (n_ + (1 : Int32))) := ⟨_, rfl⟩
  rw [← hq_m] at go102
  rw [← hq_m] at g_m
  have hnm := own_nm n_ m_ g_n.1 g_n.2 g_m.1 g_m.2
  have hn3 := own_n n_ g_n.1 g_n.2
  have h_xo : (((p4.toUInt32 >>> ((4 : Int32) &&& 31).toUInt32).toInt32) &&& (1 : Int32)) = (0 : Int32) ∨ (((p4.toUInt32 >>> ((4 : Int32) &&& 31).toUInt32).toInt32) &&& (1 : Int32)) = (1 : Int32) := and_one _
  have go103 : ∀ t, Steps p.tables e below (s₁.setTop (mkF m 30 #[iv p0, iv p1, iv p2, iv p3, iv p4, iv p5, iv n_, iv m_, iv (((p4.toUInt32 >>> ((4 : Int32) &&& 31).toUInt32).toInt32) &&& (1 : Int32)), .unset, .unset, .unset, .unset, .unset, .unset, .unset, .unset, .unset, .unset, .unset, .unset, .unset, .unset, .unset, .unset, .unset, .unset, .unset, .unset, .unset, .unset, .unset, .unset, .unset, .unset, .unset, .unset, .unset, .unset, .unset, .unset, .unset, .unset, .unset, .unset] [])) t → Steps p.tables e below O t := fun t k => go102 t (by
    refine XS.iload X0.here hx rfl (hb hby at_22) rfl ?_
    refine XS.iconst X0.here hx rfl (hb hby at_24) ?_
    show Steps _ _ _ (s₁.setTop (mkF m 25 _ [(.int 4), (.int p4)])) _
    refine XS.iushr X0.here hx rfl (hb hby at_25) rfl ?_
    refine XS.iconst X0.here hx rfl (hb hby at_26) ?_
    show Steps _ _ _ (s₁.setTop (mkF m 27 _ [(.int 1), (.int ((p4.toUInt32 >>> ((4 : Int32) &&& 31).toUInt32).toInt32))])) _
    refine XS.iand X0.here hx rfl (hb hby at_27) rfl ?_
    refine XS.istore X0.here hx rfl (hb hby at_28) rfl (l' := #[iv p0, iv p1, iv p2, iv p3, iv p4, iv p5, iv n_, iv m_, iv (((p4.toUInt32 >>> ((4 : Int32) &&& 31).toUInt32).toInt32) &&& (1 : Int32)), .unset, .unset, .unset, .unset, .unset, .unset, .unset, .unset, .unset, .unset, .unset, .unset, .unset, .unset, .unset, .unset, .unset, .unset, .unset, .unset, .unset, .unset, .unset, .unset, .unset, .unset, .unset, .unset, .unset, .unset, .unset, .unset, .unset, .unset, .unset, .unset]) rfl ?_
    show Steps _ _ _ (s₁.setTop (mkF m 30 _ [])) _
    exact k)
  obtain ⟨xo, hq_xo⟩ : ∃ z : Int32, z = (((p4.toUInt32 >>> ((4 : Int32) &&& 31).toUInt32).toInt32) &&& (1 : Int32)) := ⟨_, rfl⟩
  rw [← hq_xo] at go103
  rw [← hq_xo] at h_xo
  have h_yo : (((p4.toUInt32 >>> ((5 : Int32) &&& 31).toUInt32).toInt32) &&& (1 : Int32)) = (0 : Int32) ∨ (((p4.toUInt32 >>> ((5 : Int32) &&& 31).toUInt32).toInt32) &&& (1 : Int32)) = (1 : Int32) := and_one _
  have go104 : ∀ t, Steps p.tables e below (s₁.setTop (mkF m 38 #[iv p0, iv p1, iv p2, iv p3, iv p4, iv p5, iv n_, iv m_, iv xo, iv (((p4.toUInt32 >>> ((5 : Int32) &&& 31).toUInt32).toInt32) &&& (1 : Int32)), .unset, .unset, .unset, .unset, .unset, .unset, .unset, .unset, .unset, .unset, .unset, .unset, .unset, .unset, .unset, .unset, .unset, .unset, .unset, .unset, .unset, .unset, .unset, .unset, .unset, .unset, .unset, .unset, .unset, .unset, .unset, .unset, .unset, .unset, .unset] [])) t → Steps p.tables e below O t := fun t k => go103 t (by
    refine XS.iload X0.here hx rfl (hb hby at_30) rfl ?_
    refine XS.iconst X0.here hx rfl (hb hby at_32) ?_
    show Steps _ _ _ (s₁.setTop (mkF m 33 _ [(.int 5), (.int p4)])) _
    refine XS.iushr X0.here hx rfl (hb hby at_33) rfl ?_
    refine XS.iconst X0.here hx rfl (hb hby at_34) ?_
    show Steps _ _ _ (s₁.setTop (mkF m 35 _ [(.int 1), (.int ((p4.toUInt32 >>> ((5 : Int32) &&& 31).toUInt32).toInt32))])) _
    refine XS.iand X0.here hx rfl (hb hby at_35) rfl ?_
    refine XS.istore X0.here hx rfl (hb hby at_36) rfl (l' := #[iv p0, iv p1, iv p2, iv p3, iv p4, iv p5, iv n_, iv m_, iv xo, iv (((p4.toUInt32 >>> ((5 : Int32) &&& 31).toUInt32).toInt32) &&& (1 : Int32)), .unset, .unset, .unset, .unset, .unset, .unset, .unset, .unset, .unset, .unset, .unset, .unset, .unset, .unset, .unset, .unset, .unset, .unset, .unset, .unset, .unset, .unset, .unset, .unset, .unset, .unset, .unset, .unset, .unset, .unset, .unset, .unset, .unset, .unset, .unset]) rfl ?_
    show Steps _ _ _ (s₁.setTop (mkF m 38 _ [])) _
    exact k)
  obtain ⟨yo, hq_yo⟩ : ∃ z : Int32, z = (((p4.toUInt32 >>> ((5 : Int32) &&& 31).toUInt32).toInt32) &&& (1 : Int32)) := ⟨_, rfl⟩
  rw [← hq_yo] at go104
  rw [← hq_yo] at h_yo
  have h_zo : (((p4.toUInt32 >>> ((6 : Int32) &&& 31).toUInt32).toInt32) &&& (1 : Int32)) = (0 : Int32) ∨ (((p4.toUInt32 >>> ((6 : Int32) &&& 31).toUInt32).toInt32) &&& (1 : Int32)) = (1 : Int32) := and_one _
  have go105 : ∀ t, Steps p.tables e below (s₁.setTop (mkF m 47 #[iv p0, iv p1, iv p2, iv p3, iv p4, iv p5, iv n_, iv m_, iv xo, iv yo, iv (((p4.toUInt32 >>> ((6 : Int32) &&& 31).toUInt32).toInt32) &&& (1 : Int32)), .unset, .unset, .unset, .unset, .unset, .unset, .unset, .unset, .unset, .unset, .unset, .unset, .unset, .unset, .unset, .unset, .unset, .unset, .unset, .unset, .unset, .unset, .unset, .unset, .unset, .unset, .unset, .unset, .unset, .unset, .unset, .unset, .unset, .unset] [])) t → Steps p.tables e below O t := fun t k => go104 t (by
    refine XS.iload X0.here hx rfl (hb hby at_38) rfl ?_
    refine XS.bipush X0.here hx rfl (hb hby at_40) ?_
    show Steps _ _ _ (s₁.setTop (mkF m 42 _ [(.int 6), (.int p4)])) _
    refine XS.iushr X0.here hx rfl (hb hby at_42) rfl ?_
    refine XS.iconst X0.here hx rfl (hb hby at_43) ?_
    show Steps _ _ _ (s₁.setTop (mkF m 44 _ [(.int 1), (.int ((p4.toUInt32 >>> ((6 : Int32) &&& 31).toUInt32).toInt32))])) _
    refine XS.iand X0.here hx rfl (hb hby at_44) rfl ?_
    refine XS.istore X0.here hx rfl (hb hby at_45) rfl (l' := #[iv p0, iv p1, iv p2, iv p3, iv p4, iv p5, iv n_, iv m_, iv xo, iv yo, iv (((p4.toUInt32 >>> ((6 : Int32) &&& 31).toUInt32).toInt32) &&& (1 : Int32)), .unset, .unset, .unset, .unset, .unset, .unset, .unset, .unset, .unset, .unset, .unset, .unset, .unset, .unset, .unset, .unset, .unset, .unset, .unset, .unset, .unset, .unset, .unset, .unset, .unset, .unset, .unset, .unset, .unset, .unset, .unset, .unset, .unset, .unset]) rfl ?_
    show Steps _ _ _ (s₁.setTop (mkF m 47 _ [])) _
    exact k)
  obtain ⟨zo, hq_zo⟩ : ∃ z : Int32, z = (((p4.toUInt32 >>> ((6 : Int32) &&& 31).toUInt32).toInt32) &&& (1 : Int32)) := ⟨_, rfl⟩
  rw [← hq_zo] at go105
  rw [← hq_zo] at h_zo
  have go106 : ∀ t, Steps p.tables e below (s₁.setTop (mkF m 54 #[iv p0, iv p1, iv p2, iv p3, iv p4, iv p5, iv n_, iv m_, iv xo, iv yo, iv zo, .unset, .unset, .unset, .unset, .unset, .unset, .unset, .unset, .unset, .unset, .unset, .unset, .unset, .unset, .unset, .unset, .unset, .unset, .unset, .unset, .unset, .unset, .unset, .unset, .unset, .unset, .unset, .unset, .unset, .unset, .unset, .unset, .unset, .unset] [(.int (((p4.toUInt32 >>> ((7 : Int32) &&& 31).toUInt32).toInt32) &&& (1 : Int32)))])) t → Steps p.tables e below O t := fun t k => go105 t (by
    refine XS.iload X0.here hx rfl (hb hby at_47) rfl ?_
    refine XS.bipush X0.here hx rfl (hb hby at_49) ?_
    show Steps _ _ _ (s₁.setTop (mkF m 51 _ [(.int 7), (.int p4)])) _
    refine XS.iushr X0.here hx rfl (hb hby at_51) rfl ?_
    refine XS.iconst X0.here hx rfl (hb hby at_52) ?_
    show Steps _ _ _ (s₁.setTop (mkF m 53 _ [(.int 1), (.int ((p4.toUInt32 >>> ((7 : Int32) &&& 31).toUInt32).toInt32))])) _
    refine XS.iand X0.here hx rfl (hb hby at_53) rfl ?_
    exact k)
  by_cases hip : (((p4.toUInt32 >>> ((7 : Int32) &&& 31).toUInt32).toInt32) &&& (1 : Int32)) = (0 : Int32)
  · obtain ⟨T107, h107, k107, X107, e107, E107, A107, st107⟩ := newP X0 hx hZ (hw _ (List.mem_of_getElem? (i := 1) rfl)) e0 (g := (mkF m 65 #[iv p0, iv p1, iv p2, iv p3, iv p4, iv p5, iv n_, iv m_, iv xo, iv yo, iv zo, iv 0, .unset, .unset, .unset, .unset, .unset, .unset, .unset, .unset, .unset, .unset, .unset, .unset, .unset, .unset, .unset, .unset, .unset, .unset, .unset, .unset, .unset, .unset, .unset, .unset, .unset, .unset, .unset, .unset, .unset, .unset, .unset, .unset, .unset] [(.int 4)])) rfl (hb hby at_65) rfl (by decide) (cap := 4) (by decide) (by decide) (by decide) (by decide)
    obtain ⟨ax, g107⟩ : ∃ z, z = h0.size := ⟨_, rfl⟩
    have ge_ax : n0 ≤ ax := Nat.le_trans Z0 (Nat.le_of_eq g107.symm)
    rw [← g107] at A107 st107
    have Z108 := Nat.le_trans Z0 E107.1
    have V_ax_107 : Arv Z h107 ax k107 .int (4 : Int32) [(.int 0), (.int 0), (.int 0), (.int 0)] (.int 0) := (Arv.new A107 (by decide)).pad (pad_rep [] (.int 0) 4)
    obtain ⟨cl109, Ar109, q109, S109, M109, Hs109, G109⟩ := V_ax_107
    have f110 : Arv Z h107 ax k107 .int (4 : Int32) [(.int 0), (.int 0), (.int 0), (.int 0)] (.int 0) := ⟨cl109, Ar109, q109, S109, M109, Hs109, G109⟩
    have hin111 : ¬ ((0 : Int32) < 0 ∨ cl109.slots.size ≤ ((0 : Int32)).toNatClampNeg) := inb_of S109 ⟨by decide, by decide⟩
    obtain ⟨T111, h111, X111, e111, W111, st111⟩ := stI X107 hx hZ e107 Ar109 (j := (0 : Int32)) hin111 (g := (mkF m 71 #[iv p0, iv p1, iv p2, iv p3, iv p4, iv p5, iv n_, iv m_, iv xo, iv yo, iv zo, iv 0, .unset, .unset, .unset, .unset, .unset, .unset, .unset, .unset, .unset, .unset, .unset, .unset, .unset, .unset, .unset, .unset, .unset, .unset, .unset, .unset, .unset, .unset, .unset, .unset, .unset, .unset, .unset, .unset, .unset, .unset, .unset, .unset, .unset] [(.int p5), (.int 0), (.ref ax), (.ref ax)])) rfl rfl (hb hby at_71)
    have Z112 := Nat.le_trans Z108 (Keep.of_wr W111).1
    have V111 : Arv Z h111 ax k107 .int (4 : Int32) [(.int p5), (.int 0), (.int 0), (.int 0)] (.int 0) := Arv.set Ar109 q109 S109 M109 Hs109 G109 rfl W111 0 rfl (Nat.le_of_ble_eq_true rfl)
    have N111 := Fr.snoc X111 N0 ge_ax
    obtain ⟨cl113, Ar113, q113, S113, M113, Hs113, G113⟩ := V111
    have f114 : Arv Z h111 ax k107 .int (4 : Int32) [(.int p5), (.int 0), (.int 0), (.int 0)] (.int 0) := ⟨cl113, Ar113, q113, S113, M113, Hs113, G113⟩
    have hin115 : ¬ ((1 : Int32) < 0 ∨ cl113.slots.size ≤ ((1 : Int32)).toNatClampNeg) := inb_of S113 ⟨by decide, by decide⟩
    obtain ⟨T115, h115, X115, e115, W115, st115⟩ := stI X111 hx hZ e111 Ar113 (j := (1 : Int32)) hin115 (g := (mkF m 76 #[iv p0, iv p1, iv p2, iv p3, iv p4, iv p5, iv n_, iv m_, iv xo, iv yo, iv zo, iv 0, .unset, .unset, .unset, .unset, .unset, .unset, .unset, .unset, .unset, .unset, .unset, .unset, .unset, .unset, .unset, .unset, .unset, .unset, .unset, .unset, .unset, .unset, .unset, .unset, .unset, .unset, .unset, .unset, .unset, .unset, .unset, .unset, .unset] [(.int p5), (.int 1), (.ref ax), (.ref ax)])) rfl rfl (hb hby at_76)
    have Z116 := Nat.le_trans Z112 (Keep.of_wr W115).1
    have V115 : Arv Z h115 ax k107 .int (4 : Int32) [(.int p5), (.int p5), (.int 0), (.int 0)] (.int 0) := Arv.set Ar113 q113 S113 M113 Hs113 G113 rfl W115 1 rfl (Nat.le_of_ble_eq_true rfl)
    have N115 := Fr.snoc X115 N111 ge_ax
    obtain ⟨cl117, Ar117, q117, S117, M117, Hs117, G117⟩ := V115
    have f118 : Arv Z h115 ax k107 .int (4 : Int32) [(.int p5), (.int p5), (.int 0), (.int 0)] (.int 0) := ⟨cl117, Ar117, q117, S117, M117, Hs117, G117⟩
    have hin119 : ¬ ((2 : Int32) < 0 ∨ cl117.slots.size ≤ ((2 : Int32)).toNatClampNeg) := inb_of S117 ⟨by decide, by decide⟩
    obtain ⟨T119, h119, X119, e119, W119, st119⟩ := stI X115 hx hZ e115 Ar117 (j := (2 : Int32)) hin119 (g := (mkF m 81 #[iv p0, iv p1, iv p2, iv p3, iv p4, iv p5, iv n_, iv m_, iv xo, iv yo, iv zo, iv 0, .unset, .unset, .unset, .unset, .unset, .unset, .unset, .unset, .unset, .unset, .unset, .unset, .unset, .unset, .unset, .unset, .unset, .unset, .unset, .unset, .unset, .unset, .unset, .unset, .unset, .unset, .unset, .unset, .unset, .unset, .unset, .unset, .unset] [(.int p5), (.int 2), (.ref ax), (.ref ax)])) rfl rfl (hb hby at_81)
    have Z120 := Nat.le_trans Z116 (Keep.of_wr W119).1
    have V119 : Arv Z h119 ax k107 .int (4 : Int32) [(.int p5), (.int p5), (.int p5), (.int 0)] (.int 0) := Arv.set Ar117 q117 S117 M117 Hs117 G117 rfl W119 2 rfl (Nat.le_of_ble_eq_true rfl)
    have N119 := Fr.snoc X119 N115 ge_ax
    obtain ⟨cl121, Ar121, q121, S121, M121, Hs121, G121⟩ := V119
    have f122 : Arv Z h119 ax k107 .int (4 : Int32) [(.int p5), (.int p5), (.int p5), (.int 0)] (.int 0) := ⟨cl121, Ar121, q121, S121, M121, Hs121, G121⟩
    have hin123 : ¬ ((3 : Int32) < 0 ∨ cl121.slots.size ≤ ((3 : Int32)).toNatClampNeg) := inb_of S121 ⟨by decide, by decide⟩
    obtain ⟨T123, h123, X123, e123, W123, st123⟩ := stI X119 hx hZ e119 Ar121 (j := (3 : Int32)) hin123 (g := (mkF m 86 #[iv p0, iv p1, iv p2, iv p3, iv p4, iv p5, iv n_, iv m_, iv xo, iv yo, iv zo, iv 0, .unset, .unset, .unset, .unset, .unset, .unset, .unset, .unset, .unset, .unset, .unset, .unset, .unset, .unset, .unset, .unset, .unset, .unset, .unset, .unset, .unset, .unset, .unset, .unset, .unset, .unset, .unset, .unset, .unset, .unset, .unset, .unset, .unset] [(.int p5), (.int 3), (.ref ax), (.ref ax)])) rfl rfl (hb hby at_86)
    have Z124 := Nat.le_trans Z120 (Keep.of_wr W123).1
    have V123 : Arv Z h123 ax k107 .int (4 : Int32) [(.int p5), (.int p5), (.int p5), (.int p5)] (.int 0) := Arv.set Ar121 q121 S121 M121 Hs121 G121 rfl W123 3 rfl (Nat.le_of_ble_eq_true rfl)
    have N123 := Fr.snoc X123 N119 ge_ax
    obtain ⟨cl125, Ar125, q125, S125, M125, Hs125, G125⟩ := V123
    have f126 : Arv Z h123 ax k107 .int (4 : Int32) [(.int p5), (.int p5), (.int p5), (.int p5)] (.int 0) := ⟨cl125, Ar125, q125, S125, M125, Hs125, G125⟩
    have hin127 : ¬ (xo < 0 ∨ cl125.slots.size ≤ (xo).toNatClampNeg) := inb_of S125 (own_inS h_xo)
    obtain ⟨T127, h127, X127, e127, W127, st127⟩ := stI X123 hx hZ e123 Ar125 (j := xo) hin127 (g := (mkF m 94 #[iv p0, iv p1, iv p2, iv p3, iv p4, iv p5, iv n_, iv m_, iv xo, iv yo, iv zo, iv 0, rv ax, .unset, .unset, .unset, .unset, .unset, .unset, .unset, .unset, .unset, .unset, .unset, .unset, .unset, .unset, .unset, .unset, .unset, .unset, .unset, .unset, .unset, .unset, .unset, .unset, .unset, .unset, .unset, .unset, .unset, .unset, .unset, .unset] [(.int p0), (.int xo), (.ref ax)])) rfl rfl (hb hby at_94)
    have Z128 := Nat.le_trans Z124 (Keep.of_wr W127).1
    have V127 : Arv Z h127 ax k107 .int (4 : Int32) ([(.int p5), (.int p5), (.int p5), (.int p5)].set (xo).toNatClampNeg (.int p0)) (.int 0) := Arv.set Ar125 q125 S125 M125 Hs125 G125 rfl W127 (xo).toNatClampNeg rfl (own_lnS h_xo rfl)
    have N127 := Fr.snoc X127 N123 ge_ax
    obtain ⟨cl129, Ar129, q129, S129, M129, Hs129, G129⟩ := V127
    have f130 : Arv Z h127 ax k107 .int (4 : Int32) ([(.int p5), (.int p5), (.int p5), (.int p5)].set (xo).toNatClampNeg (.int p0)) (.int 0) := ⟨cl129, Ar129, q129, S129, M129, Hs129, G129⟩
    have hin131 : ¬ ((xo + (1 : Int32)) < 0 ∨ cl129.slots.size ≤ ((xo + (1 : Int32))).toNatClampNeg) := inb_of S129 (own_in1 h_xo)
    obtain ⟨T131, h131, X131, e131, W131, st131⟩ := stI X127 hx hZ e127 Ar129 (j := (xo + (1 : Int32))) hin131 (g := (mkF m 102 #[iv p0, iv p1, iv p2, iv p3, iv p4, iv p5, iv n_, iv m_, iv xo, iv yo, iv zo, iv 0, rv ax, .unset, .unset, .unset, .unset, .unset, .unset, .unset, .unset, .unset, .unset, .unset, .unset, .unset, .unset, .unset, .unset, .unset, .unset, .unset, .unset, .unset, .unset, .unset, .unset, .unset, .unset, .unset, .unset, .unset, .unset, .unset, .unset] [(.int p1), (.int (xo + (1 : Int32))), (.ref ax)])) rfl rfl (hb hby at_102)
    have Z132 := Nat.le_trans Z128 (Keep.of_wr W131).1
    have V131 : Arv Z h131 ax k107 .int (4 : Int32) (([(.int p5), (.int p5), (.int p5), (.int p5)].set (xo).toNatClampNeg (.int p0)).set ((xo + (1 : Int32))).toNatClampNeg (.int p1)) (.int 0) := Arv.set Ar129 q129 S129 M129 Hs129 G129 rfl W131 ((xo + (1 : Int32))).toNatClampNeg rfl (own_ln1 h_xo ((List.length_set ..).trans rfl))
    have N131 := Fr.snoc X131 N127 ge_ax
    obtain ⟨ax_0, ax_1, ax_2, ax_3, hf_ax, ha_ax, hb_ax⟩ := own_fill xo p5 p0 p1 h_xo
    have f133 : Arv Z h131 ax k107 .int (4 : Int32) [(.int ax_0), (.int ax_1), (.int ax_2), (.int ax_3)] (.int (0 : Int32)) := hf_ax ▸ V131
    obtain ⟨T134, h134, k134, X134, e134, E134, A134, st134⟩ := newP X131 hx hZ (hw _ (List.mem_of_getElem? (i := 1) rfl)) e131 (g := (mkF m 104 #[iv p0, iv p1, iv p2, iv p3, iv p4, iv p5, iv n_, iv m_, iv xo, iv yo, iv zo, iv 0, rv ax, .unset, .unset, .unset, .unset, .unset, .unset, .unset, .unset, .unset, .unset, .unset, .unset, .unset, .unset, .unset, .unset, .unset, .unset, .unset, .unset, .unset, .unset, .unset, .unset, .unset, .unset, .unset, .unset, .unset, .unset, .unset, .unset] [(.int 4)])) rfl (hb hby at_104) rfl (by decide) (cap := 4) (by decide) (by decide) (by decide) (by decide)
    obtain ⟨ay, g134⟩ : ∃ z, z = h131.size := ⟨_, rfl⟩
    have ne135 : ax ≠ ay := Nat.ne_of_lt (Nat.lt_of_lt_of_le f133.lt (Nat.le_of_eq g134.symm))
    have ge_ay : n0 ≤ ay := Nat.le_trans Z132 (Nat.le_of_eq g134.symm)
    rw [← g134] at A134 st134
    have f136 := f133.ext E134
    have Z137 := Nat.le_trans Z132 E134.1
    have V_ay_134 : Arv Z h134 ay k134 .int (4 : Int32) [(.int 0), (.int 0), (.int 0), (.int 0)] (.int 0) := (Arv.new A134 (by decide)).pad (pad_rep [] (.int 0) 4)
    obtain ⟨cl138, Ar138, q138, S138, M138, Hs138, G138⟩ := V_ay_134
    have f139 : Arv Z h134 ay k134 .int (4 : Int32) [(.int 0), (.int 0), (.int 0), (.int 0)] (.int 0) := ⟨cl138, Ar138, q138, S138, M138, Hs138, G138⟩
    have hin140 : ¬ ((0 : Int32) < 0 ∨ cl138.slots.size ≤ ((0 : Int32)).toNatClampNeg) := inb_of S138 ⟨by decide, by decide⟩
    obtain ⟨T140, h140, X140, e140, W140, st140⟩ := stI X134 hx hZ e134 Ar138 (j := (0 : Int32)) hin140 (g := (mkF m 110 #[iv p0, iv p1, iv p2, iv p3, iv p4, iv p5, iv n_, iv m_, iv xo, iv yo, iv zo, iv 0, rv ax, .unset, .unset, .unset, .unset, .unset, .unset, .unset, .unset, .unset, .unset, .unset, .unset, .unset, .unset, .unset, .unset, .unset, .unset, .unset, .unset, .unset, .unset, .unset, .unset, .unset, .unset, .unset, .unset, .unset, .unset, .unset, .unset] [(.int p5), (.int 0), (.ref ay), (.ref ay)])) rfl rfl (hb hby at_110)
    have f141 := f136.other W140 ne135
    have Z142 := Nat.le_trans Z137 (Keep.of_wr W140).1
    have V140 : Arv Z h140 ay k134 .int (4 : Int32) [(.int p5), (.int 0), (.int 0), (.int 0)] (.int 0) := Arv.set Ar138 q138 S138 M138 Hs138 G138 rfl W140 0 rfl (Nat.le_of_ble_eq_true rfl)
    have N140 := Fr.snoc X140 N131 ge_ay
    obtain ⟨cl143, Ar143, q143, S143, M143, Hs143, G143⟩ := V140
    have f144 : Arv Z h140 ay k134 .int (4 : Int32) [(.int p5), (.int 0), (.int 0), (.int 0)] (.int 0) := ⟨cl143, Ar143, q143, S143, M143, Hs143, G143⟩
    have hin145 : ¬ ((1 : Int32) < 0 ∨ cl143.slots.size ≤ ((1 : Int32)).toNatClampNeg) := inb_of S143 ⟨by decide, by decide⟩
    obtain ⟨T145, h145, X145, e145, W145, st145⟩ := stI X140 hx hZ e140 Ar143 (j := (1 : Int32)) hin145 (g := (mkF m 115 #[iv p0, iv p1, iv p2, iv p3, iv p4, iv p5, iv n_, iv m_, iv xo, iv yo, iv zo, iv 0, rv ax, .unset, .unset, .unset, .unset, .unset, .unset, .unset, .unset, .unset, .unset, .unset, .unset, .unset, .unset, .unset, .unset, .unset, .unset, .unset, .unset, .unset, .unset, .unset, .unset, .unset, .unset, .unset, .unset, .unset, .unset, .unset, .unset] [(.int p5), (.int 1), (.ref ay), (.ref ay)])) rfl rfl (hb hby at_115)
    have f146 := f141.other W145 ne135
    have Z147 := Nat.le_trans Z142 (Keep.of_wr W145).1
    have V145 : Arv Z h145 ay k134 .int (4 : Int32) [(.int p5), (.int p5), (.int 0), (.int 0)] (.int 0) := Arv.set Ar143 q143 S143 M143 Hs143 G143 rfl W145 1 rfl (Nat.le_of_ble_eq_true rfl)
    have N145 := Fr.snoc X145 N140 ge_ay
    obtain ⟨cl148, Ar148, q148, S148, M148, Hs148, G148⟩ := V145
    have f149 : Arv Z h145 ay k134 .int (4 : Int32) [(.int p5), (.int p5), (.int 0), (.int 0)] (.int 0) := ⟨cl148, Ar148, q148, S148, M148, Hs148, G148⟩
    have hin150 : ¬ ((2 : Int32) < 0 ∨ cl148.slots.size ≤ ((2 : Int32)).toNatClampNeg) := inb_of S148 ⟨by decide, by decide⟩
    obtain ⟨T150, h150, X150, e150, W150, st150⟩ := stI X145 hx hZ e145 Ar148 (j := (2 : Int32)) hin150 (g := (mkF m 120 #[iv p0, iv p1, iv p2, iv p3, iv p4, iv p5, iv n_, iv m_, iv xo, iv yo, iv zo, iv 0, rv ax, .unset, .unset, .unset, .unset, .unset, .unset, .unset, .unset, .unset, .unset, .unset, .unset, .unset, .unset, .unset, .unset, .unset, .unset, .unset, .unset, .unset, .unset, .unset, .unset, .unset, .unset, .unset, .unset, .unset, .unset, .unset, .unset] [(.int p5), (.int 2), (.ref ay), (.ref ay)])) rfl rfl (hb hby at_120)
    have f151 := f146.other W150 ne135
    have Z152 := Nat.le_trans Z147 (Keep.of_wr W150).1
    have V150 : Arv Z h150 ay k134 .int (4 : Int32) [(.int p5), (.int p5), (.int p5), (.int 0)] (.int 0) := Arv.set Ar148 q148 S148 M148 Hs148 G148 rfl W150 2 rfl (Nat.le_of_ble_eq_true rfl)
    have N150 := Fr.snoc X150 N145 ge_ay
    obtain ⟨cl153, Ar153, q153, S153, M153, Hs153, G153⟩ := V150
    have f154 : Arv Z h150 ay k134 .int (4 : Int32) [(.int p5), (.int p5), (.int p5), (.int 0)] (.int 0) := ⟨cl153, Ar153, q153, S153, M153, Hs153, G153⟩
    have hin155 : ¬ ((3 : Int32) < 0 ∨ cl153.slots.size ≤ ((3 : Int32)).toNatClampNeg) := inb_of S153 ⟨by decide, by decide⟩
    obtain ⟨T155, h155, X155, e155, W155, st155⟩ := stI X150 hx hZ e150 Ar153 (j := (3 : Int32)) hin155 (g := (mkF m 125 #[iv p0, iv p1, iv p2, iv p3, iv p4, iv p5, iv n_, iv m_, iv xo, iv yo, iv zo, iv 0, rv ax, .unset, .unset, .unset, .unset, .unset, .unset, .unset, .unset, .unset, .unset, .unset, .unset, .unset, .unset, .unset, .unset, .unset, .unset, .unset, .unset, .unset, .unset, .unset, .unset, .unset, .unset, .unset, .unset, .unset, .unset, .unset, .unset] [(.int p5), (.int 3), (.ref ay), (.ref ay)])) rfl rfl (hb hby at_125)
    have f156 := f151.other W155 ne135
    have Z157 := Nat.le_trans Z152 (Keep.of_wr W155).1
    have V155 : Arv Z h155 ay k134 .int (4 : Int32) [(.int p5), (.int p5), (.int p5), (.int p5)] (.int 0) := Arv.set Ar153 q153 S153 M153 Hs153 G153 rfl W155 3 rfl (Nat.le_of_ble_eq_true rfl)
    have N155 := Fr.snoc X155 N150 ge_ay
    obtain ⟨cl158, Ar158, q158, S158, M158, Hs158, G158⟩ := V155
    have f159 : Arv Z h155 ay k134 .int (4 : Int32) [(.int p5), (.int p5), (.int p5), (.int p5)] (.int 0) := ⟨cl158, Ar158, q158, S158, M158, Hs158, G158⟩
    have hin160 : ¬ (yo < 0 ∨ cl158.slots.size ≤ (yo).toNatClampNeg) := inb_of S158 (own_inS h_yo)
    obtain ⟨T160, h160, X160, e160, W160, st160⟩ := stI X155 hx hZ e155 Ar158 (j := yo) hin160 (g := (mkF m 133 #[iv p0, iv p1, iv p2, iv p3, iv p4, iv p5, iv n_, iv m_, iv xo, iv yo, iv zo, iv 0, rv ax, rv ay, .unset, .unset, .unset, .unset, .unset, .unset, .unset, .unset, .unset, .unset, .unset, .unset, .unset, .unset, .unset, .unset, .unset, .unset, .unset, .unset, .unset, .unset, .unset, .unset, .unset, .unset, .unset, .unset, .unset, .unset, .unset] [(.int p2), (.int yo), (.ref ay)])) rfl rfl (hb hby at_133)
    have f161 := f156.other W160 ne135
    have Z162 := Nat.le_trans Z157 (Keep.of_wr W160).1
    have V160 : Arv Z h160 ay k134 .int (4 : Int32) ([(.int p5), (.int p5), (.int p5), (.int p5)].set (yo).toNatClampNeg (.int p2)) (.int 0) := Arv.set Ar158 q158 S158 M158 Hs158 G158 rfl W160 (yo).toNatClampNeg rfl (own_lnS h_yo rfl)
    have N160 := Fr.snoc X160 N155 ge_ay
    obtain ⟨cl163, Ar163, q163, S163, M163, Hs163, G163⟩ := V160
    have f164 : Arv Z h160 ay k134 .int (4 : Int32) ([(.int p5), (.int p5), (.int p5), (.int p5)].set (yo).toNatClampNeg (.int p2)) (.int 0) := ⟨cl163, Ar163, q163, S163, M163, Hs163, G163⟩
    have hin165 : ¬ ((yo + (1 : Int32)) < 0 ∨ cl163.slots.size ≤ ((yo + (1 : Int32))).toNatClampNeg) := inb_of S163 (own_in1 h_yo)
    obtain ⟨T165, h165, X165, e165, W165, st165⟩ := stI X160 hx hZ e160 Ar163 (j := (yo + (1 : Int32))) hin165 (g := (mkF m 141 #[iv p0, iv p1, iv p2, iv p3, iv p4, iv p5, iv n_, iv m_, iv xo, iv yo, iv zo, iv 0, rv ax, rv ay, .unset, .unset, .unset, .unset, .unset, .unset, .unset, .unset, .unset, .unset, .unset, .unset, .unset, .unset, .unset, .unset, .unset, .unset, .unset, .unset, .unset, .unset, .unset, .unset, .unset, .unset, .unset, .unset, .unset, .unset, .unset] [(.int p3), (.int (yo + (1 : Int32))), (.ref ay)])) rfl rfl (hb hby at_141)
    have f166 := f161.other W165 ne135
    have Z167 := Nat.le_trans Z162 (Keep.of_wr W165).1
    have V165 : Arv Z h165 ay k134 .int (4 : Int32) (([(.int p5), (.int p5), (.int p5), (.int p5)].set (yo).toNatClampNeg (.int p2)).set ((yo + (1 : Int32))).toNatClampNeg (.int p3)) (.int 0) := Arv.set Ar163 q163 S163 M163 Hs163 G163 rfl W165 ((yo + (1 : Int32))).toNatClampNeg rfl (own_ln1 h_yo ((List.length_set ..).trans rfl))
    have N165 := Fr.snoc X165 N160 ge_ay
    obtain ⟨ay_0, ay_1, ay_2, ay_3, hf_ay, ha_ay, hb_ay⟩ := own_fill yo p5 p2 p3 h_yo
    have f168 : Arv Z h165 ay k134 .int (4 : Int32) [(.int ay_0), (.int ay_1), (.int ay_2), (.int ay_3)] (.int (0 : Int32)) := hf_ay ▸ V165
    obtain ⟨T169, h169, k169, X169, e169, E169, A169, st169⟩ := newP X165 hx hZ (hw _ (List.mem_of_getElem? (i := 1) rfl)) e165 (g := (mkF m 153 #[iv p0, iv p1, iv p2, iv p3, iv p4, iv p5, iv n_, iv m_, iv xo, iv yo, iv zo, iv 0, rv ax, rv ay, .unset, .unset, .unset, .unset, .unset, .unset, .unset, .unset, .unset, .unset, .unset, .unset, .unset, .unset, .unset, .unset, .unset, .unset, .unset, .unset, .unset, .unset, .unset, .unset, .unset, .unset, .unset, .unset, .unset, .unset, .unset] [(.int 4)])) rfl (hb hby at_153) rfl (by decide) (cap := 4) (by decide) (by decide) (by decide) (by decide)
    obtain ⟨az, g169⟩ : ∃ z, z = h165.size := ⟨_, rfl⟩
    have ne170 : ax ≠ az := Nat.ne_of_lt (Nat.lt_of_lt_of_le f166.lt (Nat.le_of_eq g169.symm))
    have ne171 : ay ≠ az := Nat.ne_of_lt (Nat.lt_of_lt_of_le f168.lt (Nat.le_of_eq g169.symm))
    have ge_az : n0 ≤ az := Nat.le_trans Z167 (Nat.le_of_eq g169.symm)
    rw [← g169] at A169 st169
    have f172 := f166.ext E169
    have f173 := f168.ext E169
    have Z174 := Nat.le_trans Z167 E169.1
    have V_az_169 : Arv Z h169 az k169 .int (4 : Int32) [(.int 0), (.int 0), (.int 0), (.int 0)] (.int 0) := (Arv.new A169 (by decide)).pad (pad_rep [] (.int 0) 4)
    obtain ⟨cl175, Ar175, q175, S175, M175, Hs175, G175⟩ := V_az_169
    have f176 : Arv Z h169 az k169 .int (4 : Int32) [(.int 0), (.int 0), (.int 0), (.int 0)] (.int 0) := ⟨cl175, Ar175, q175, S175, M175, Hs175, G175⟩
    have hin177 : ¬ ((0 : Int32) < 0 ∨ cl175.slots.size ≤ ((0 : Int32)).toNatClampNeg) := inb_of S175 ⟨by decide, by decide⟩
    obtain ⟨T177, h177, X177, e177, W177, st177⟩ := stI X169 hx hZ e169 Ar175 (j := (0 : Int32)) hin177 (g := (mkF m 159 #[iv p0, iv p1, iv p2, iv p3, iv p4, iv p5, iv n_, iv m_, iv xo, iv yo, iv zo, iv 0, rv ax, rv ay, .unset, .unset, .unset, .unset, .unset, .unset, .unset, .unset, .unset, .unset, .unset, .unset, .unset, .unset, .unset, .unset, .unset, .unset, .unset, .unset, .unset, .unset, .unset, .unset, .unset, .unset, .unset, .unset, .unset, .unset, .unset] [(.int p5), (.int 0), (.ref az), (.ref az)])) rfl rfl (hb hby at_159)
    have f178 := f172.other W177 ne170
    have f179 := f173.other W177 ne171
    have Z180 := Nat.le_trans Z174 (Keep.of_wr W177).1
    have V177 : Arv Z h177 az k169 .int (4 : Int32) [(.int p5), (.int 0), (.int 0), (.int 0)] (.int 0) := Arv.set Ar175 q175 S175 M175 Hs175 G175 rfl W177 0 rfl (Nat.le_of_ble_eq_true rfl)
    have N177 := Fr.snoc X177 N165 ge_az
    obtain ⟨cl181, Ar181, q181, S181, M181, Hs181, G181⟩ := V177
    have f182 : Arv Z h177 az k169 .int (4 : Int32) [(.int p5), (.int 0), (.int 0), (.int 0)] (.int 0) := ⟨cl181, Ar181, q181, S181, M181, Hs181, G181⟩
    have hin183 : ¬ ((1 : Int32) < 0 ∨ cl181.slots.size ≤ ((1 : Int32)).toNatClampNeg) := inb_of S181 ⟨by decide, by decide⟩
    obtain ⟨T183, h183, X183, e183, W183, st183⟩ := stI X177 hx hZ e177 Ar181 (j := (1 : Int32)) hin183 (g := (mkF m 164 #[iv p0, iv p1, iv p2, iv p3, iv p4, iv p5, iv n_, iv m_, iv xo, iv yo, iv zo, iv 0, rv ax, rv ay, .unset, .unset, .unset, .unset, .unset, .unset, .unset, .unset, .unset, .unset, .unset, .unset, .unset, .unset, .unset, .unset, .unset, .unset, .unset, .unset, .unset, .unset, .unset, .unset, .unset, .unset, .unset, .unset, .unset, .unset, .unset] [(.int p5), (.int 1), (.ref az), (.ref az)])) rfl rfl (hb hby at_164)
    have f184 := f178.other W183 ne170
    have f185 := f179.other W183 ne171
    have Z186 := Nat.le_trans Z180 (Keep.of_wr W183).1
    have V183 : Arv Z h183 az k169 .int (4 : Int32) [(.int p5), (.int p5), (.int 0), (.int 0)] (.int 0) := Arv.set Ar181 q181 S181 M181 Hs181 G181 rfl W183 1 rfl (Nat.le_of_ble_eq_true rfl)
    have N183 := Fr.snoc X183 N177 ge_az
    obtain ⟨cl187, Ar187, q187, S187, M187, Hs187, G187⟩ := V183
    have f188 : Arv Z h183 az k169 .int (4 : Int32) [(.int p5), (.int p5), (.int 0), (.int 0)] (.int 0) := ⟨cl187, Ar187, q187, S187, M187, Hs187, G187⟩
    have hin189 : ¬ ((2 : Int32) < 0 ∨ cl187.slots.size ≤ ((2 : Int32)).toNatClampNeg) := inb_of S187 ⟨by decide, by decide⟩
    obtain ⟨T189, h189, X189, e189, W189, st189⟩ := stI X183 hx hZ e183 Ar187 (j := (2 : Int32)) hin189 (g := (mkF m 169 #[iv p0, iv p1, iv p2, iv p3, iv p4, iv p5, iv n_, iv m_, iv xo, iv yo, iv zo, iv 0, rv ax, rv ay, .unset, .unset, .unset, .unset, .unset, .unset, .unset, .unset, .unset, .unset, .unset, .unset, .unset, .unset, .unset, .unset, .unset, .unset, .unset, .unset, .unset, .unset, .unset, .unset, .unset, .unset, .unset, .unset, .unset, .unset, .unset] [(.int p5), (.int 2), (.ref az), (.ref az)])) rfl rfl (hb hby at_169)
    have f190 := f184.other W189 ne170
    have f191 := f185.other W189 ne171
    have Z192 := Nat.le_trans Z186 (Keep.of_wr W189).1
    have V189 : Arv Z h189 az k169 .int (4 : Int32) [(.int p5), (.int p5), (.int p5), (.int 0)] (.int 0) := Arv.set Ar187 q187 S187 M187 Hs187 G187 rfl W189 2 rfl (Nat.le_of_ble_eq_true rfl)
    have N189 := Fr.snoc X189 N183 ge_az
    obtain ⟨cl193, Ar193, q193, S193, M193, Hs193, G193⟩ := V189
    have f194 : Arv Z h189 az k169 .int (4 : Int32) [(.int p5), (.int p5), (.int p5), (.int 0)] (.int 0) := ⟨cl193, Ar193, q193, S193, M193, Hs193, G193⟩
    have hin195 : ¬ ((3 : Int32) < 0 ∨ cl193.slots.size ≤ ((3 : Int32)).toNatClampNeg) := inb_of S193 ⟨by decide, by decide⟩
    obtain ⟨T195, h195, X195, e195, W195, st195⟩ := stI X189 hx hZ e189 Ar193 (j := (3 : Int32)) hin195 (g := (mkF m 174 #[iv p0, iv p1, iv p2, iv p3, iv p4, iv p5, iv n_, iv m_, iv xo, iv yo, iv zo, iv 0, rv ax, rv ay, .unset, .unset, .unset, .unset, .unset, .unset, .unset, .unset, .unset, .unset, .unset, .unset, .unset, .unset, .unset, .unset, .unset, .unset, .unset, .unset, .unset, .unset, .unset, .unset, .unset, .unset, .unset, .unset, .unset, .unset, .unset] [(.int p5), (.int 3), (.ref az), (.ref az)])) rfl rfl (hb hby at_174)
    have f196 := f190.other W195 ne170
    have f197 := f191.other W195 ne171
    have Z198 := Nat.le_trans Z192 (Keep.of_wr W195).1
    have V195 : Arv Z h195 az k169 .int (4 : Int32) [(.int p5), (.int p5), (.int p5), (.int p5)] (.int 0) := Arv.set Ar193 q193 S193 M193 Hs193 G193 rfl W195 3 rfl (Nat.le_of_ble_eq_true rfl)
    have N195 := Fr.snoc X195 N189 ge_az
    obtain ⟨cl199, Ar199, q199, S199, M199, Hs199, G199⟩ := f196
    have f200 : Arv Z h195 ax k107 .int (4 : Int32) [(.int ax_0), (.int ax_1), (.int ax_2), (.int ax_3)] (.int 0) := ⟨cl199, Ar199, q199, S199, M199, Hs199, G199⟩
    have hin201 : ¬ ((0 : Int32) < 0 ∨ cl199.slots.size ≤ ((0 : Int32)).toNatClampNeg) := inb_of S199 ⟨by decide, by decide⟩
    have hat201 : cl199.slots[((0 : Int32)).toNatClampNeg]? = some (.int ax_0) := Hs199.at hin201 rfl
    obtain ⟨cl202, Ar202, q202, S202, M202, Hs202, G202⟩ := f200
    have f203 : Arv Z h195 ax k107 .int (4 : Int32) [(.int ax_0), (.int ax_1), (.int ax_2), (.int ax_3)] (.int 0) := ⟨cl202, Ar202, q202, S202, M202, Hs202, G202⟩
    have hin204 : ¬ ((1 : Int32) < 0 ∨ cl202.slots.size ≤ ((1 : Int32)).toNatClampNeg) := inb_of S202 ⟨by decide, by decide⟩
    have hat204 : cl202.slots[((1 : Int32)).toNatClampNeg]? = some (.int ax_1) := Hs202.at hin204 rfl
    obtain ⟨cl205, Ar205, q205, S205, M205, Hs205, G205⟩ := f203
    have f206 : Arv Z h195 ax k107 .int (4 : Int32) [(.int ax_0), (.int ax_1), (.int ax_2), (.int ax_3)] (.int 0) := ⟨cl205, Ar205, q205, S205, M205, Hs205, G205⟩
    have hin207 : ¬ ((2 : Int32) < 0 ∨ cl205.slots.size ≤ ((2 : Int32)).toNatClampNeg) := inb_of S205 ⟨by decide, by decide⟩
    have hat207 : cl205.slots[((2 : Int32)).toNatClampNeg]? = some (.int ax_2) := Hs205.at hin207 rfl
    obtain ⟨cl208, Ar208, q208, S208, M208, Hs208, G208⟩ := f206
    have f209 : Arv Z h195 ax k107 .int (4 : Int32) [(.int ax_0), (.int ax_1), (.int ax_2), (.int ax_3)] (.int 0) := ⟨cl208, Ar208, q208, S208, M208, Hs208, G208⟩
    have hin210 : ¬ ((3 : Int32) < 0 ∨ cl208.slots.size ≤ ((3 : Int32)).toNatClampNeg) := inb_of S208 ⟨by decide, by decide⟩
    have hat210 : cl208.slots[((3 : Int32)).toNatClampNeg]? = some (.int ax_3) := Hs208.at hin210 rfl
    obtain ⟨cl211, Ar211, q211, S211, M211, Hs211, G211⟩ := f197
    have f212 : Arv Z h195 ay k134 .int (4 : Int32) [(.int ay_0), (.int ay_1), (.int ay_2), (.int ay_3)] (.int 0) := ⟨cl211, Ar211, q211, S211, M211, Hs211, G211⟩
    have hin213 : ¬ ((0 : Int32) < 0 ∨ cl211.slots.size ≤ ((0 : Int32)).toNatClampNeg) := inb_of S211 ⟨by decide, by decide⟩
    have hat213 : cl211.slots[((0 : Int32)).toNatClampNeg]? = some (.int ay_0) := Hs211.at hin213 rfl
    obtain ⟨cl214, Ar214, q214, S214, M214, Hs214, G214⟩ := f212
    have f215 : Arv Z h195 ay k134 .int (4 : Int32) [(.int ay_0), (.int ay_1), (.int ay_2), (.int ay_3)] (.int 0) := ⟨cl214, Ar214, q214, S214, M214, Hs214, G214⟩
    have hin216 : ¬ ((1 : Int32) < 0 ∨ cl214.slots.size ≤ ((1 : Int32)).toNatClampNeg) := inb_of S214 ⟨by decide, by decide⟩
    have hat216 : cl214.slots[((1 : Int32)).toNatClampNeg]? = some (.int ay_1) := Hs214.at hin216 rfl
    obtain ⟨cl217, Ar217, q217, S217, M217, Hs217, G217⟩ := f215
    have f218 : Arv Z h195 ay k134 .int (4 : Int32) [(.int ay_0), (.int ay_1), (.int ay_2), (.int ay_3)] (.int 0) := ⟨cl217, Ar217, q217, S217, M217, Hs217, G217⟩
    have hin219 : ¬ ((2 : Int32) < 0 ∨ cl217.slots.size ≤ ((2 : Int32)).toNatClampNeg) := inb_of S217 ⟨by decide, by decide⟩
    have hat219 : cl217.slots[((2 : Int32)).toNatClampNeg]? = some (.int ay_2) := Hs217.at hin219 rfl
    obtain ⟨cl220, Ar220, q220, S220, M220, Hs220, G220⟩ := f218
    have f221 : Arv Z h195 ay k134 .int (4 : Int32) [(.int ay_0), (.int ay_1), (.int ay_2), (.int ay_3)] (.int 0) := ⟨cl220, Ar220, q220, S220, M220, Hs220, G220⟩
    have hin222 : ¬ ((3 : Int32) < 0 ∨ cl220.slots.size ≤ ((3 : Int32)).toNatClampNeg) := inb_of S220 ⟨by decide, by decide⟩
    have hat222 : cl220.slots[((3 : Int32)).toNatClampNeg]? = some (.int ay_3) := Hs220.at hin222 rfl
    obtain ⟨cl223, Ar223, q223, S223, M223, Hs223, G223⟩ := V195
    have f224 : Arv Z h195 az k169 .int (4 : Int32) [(.int p5), (.int p5), (.int p5), (.int p5)] (.int 0) := ⟨cl223, Ar223, q223, S223, M223, Hs223, G223⟩
    have hin225 : ¬ ((0 : Int32) < 0 ∨ cl223.slots.size ≤ ((0 : Int32)).toNatClampNeg) := inb_of S223 ⟨by decide, by decide⟩
    have hat225 : cl223.slots[((0 : Int32)).toNatClampNeg]? = some (.int p5) := Hs223.at hin225 rfl
    obtain ⟨cl226, Ar226, q226, S226, M226, Hs226, G226⟩ := f224
    have f227 : Arv Z h195 az k169 .int (4 : Int32) [(.int p5), (.int p5), (.int p5), (.int p5)] (.int 0) := ⟨cl226, Ar226, q226, S226, M226, Hs226, G226⟩
    have hin228 : ¬ ((1 : Int32) < 0 ∨ cl226.slots.size ≤ ((1 : Int32)).toNatClampNeg) := inb_of S226 ⟨by decide, by decide⟩
    have hat228 : cl226.slots[((1 : Int32)).toNatClampNeg]? = some (.int p5) := Hs226.at hin228 rfl
    obtain ⟨cl229, Ar229, q229, S229, M229, Hs229, G229⟩ := f227
    have f230 : Arv Z h195 az k169 .int (4 : Int32) [(.int p5), (.int p5), (.int p5), (.int p5)] (.int 0) := ⟨cl229, Ar229, q229, S229, M229, Hs229, G229⟩
    have hin231 : ¬ ((2 : Int32) < 0 ∨ cl229.slots.size ≤ ((2 : Int32)).toNatClampNeg) := inb_of S229 ⟨by decide, by decide⟩
    have hat231 : cl229.slots[((2 : Int32)).toNatClampNeg]? = some (.int p5) := Hs229.at hin231 rfl
    obtain ⟨cl232, Ar232, q232, S232, M232, Hs232, G232⟩ := f230
    have f233 : Arv Z h195 az k169 .int (4 : Int32) [(.int p5), (.int p5), (.int p5), (.int p5)] (.int 0) := ⟨cl232, Ar232, q232, S232, M232, Hs232, G232⟩
    have hin234 : ¬ ((3 : Int32) < 0 ∨ cl232.slots.size ≤ ((3 : Int32)).toNatClampNeg) := inb_of S232 ⟨by decide, by decide⟩
    have hat234 : cl232.slots[((3 : Int32)).toNatClampNeg]? = some (.int p5) := Hs232.at hin234 rfl
    obtain ⟨_, _, ⟨T235, L235, k235, n235⟩, -, X235, ⟨Lc235, hQ235, l235, y235, z235⟩, st235⟩ := Jvm.LawKit.callS X195 hx (y := (⟨"com/example/limbwise/kernel/Words", "add", "([II[III[III)I"⟩ : MethodName)) hown (mvT hZ (hw _ (List.mem_of_getElem? (i := 2) rfl))) (mvT hZ (hw _ (List.mem_of_getElem? (i := 3) rfl))) (mvT hZ (hw _ (List.mem_of_getElem? (i := 4) rfl))) (mvT hZ (hw _ (List.mem_of_getElem? (i := 5) rfl))) (by decide) (backOf (W := 0) (rm_aa l Z a0 hw [] az zo ax xo ay yo n_ m_ k169 [(.int p5), (.int p5), (.int p5), (.int p5)] k134 [(.int ay_0), (.int ay_1), (.int ay_2), (.int ay_3)] p0 p1 p2 p3 k107 [(.int ax_0), (.int ax_1), (.int ax_2), (.int ax_3)] h195 n0 Z198 ge_az f233 f221 ne171 rfl f209 ne170 h_zo h_yo h_xo ha_ax ha_ay hb_ax hb_ay hnm) hZ (hw _ (List.mem_of_getElem? (i := 5) rfl)) (hw _ (List.mem_of_getElem? (i := 4) rfl)) (by decide) (by decide)) (g := (mkF m 279 #[iv p0, iv p1, iv p2, iv p3, iv p4, iv p5, iv n_, iv m_, iv xo, iv yo, iv zo, iv 0, rv ax, rv ay, rv az, iv zo, iv ax_0, iv ax_1, iv ax_2, iv ax_3, iv ay_0, iv ay_1, iv ay_2, iv ay_3, iv p5, iv p5, iv p5, iv p5, .unset, .unset, .unset, .unset, .unset, .unset, .unset, .unset, .unset, .unset, .unset, .unset, .unset, .unset, .unset, .unset, .unset] [(.int m_), (.int yo), (.ref ay), (.int n_), (.int xo), (.ref ax), (.int zo), (.ref az)])) rfl (by rw [hml]; rfl) (argsL := [(.ref az), (.int zo), (.ref ax), (.int xo), (.int n_), (.ref ay), (.int yo), (.int m_)]) (rest := []) (lenOf pd_0 rfl) rfl (by show 2 * 0 + _ ≤ _; exact Nat.le_of_eq rfl) (hb hby at_279) (fun _ _ => ⟨rfl, e195, (by decide : 3 + 0 ≤ _), (by decide : 12 + 0 ≤ _)⟩)
    dsimp only [Pt.U, Pt.locs, Pt.cells, Pt.slots] at X235 l235 y235 z235 st235 hQ235
    rw [l235, y235, z235] at X235
    obtain ⟨rr, u0, u1, hv235, N235q, hpost, K1, V1⟩ := hQ235
    rw [hv235] at st235
    have N235 := Fr.app N195 N235q
    have f236 := f209.keep K1 (ninS ne170 nin0)
    have f237 := f221.keep K1 (ninS ne171 nin0)
    have Z238 := Nat.le_trans Z198 K1.1
    obtain ⟨sm, hsm⟩ : ∃ w, w = own_sumL n_ m_ p0 p1 p2 p3 := ⟨_, rfl⟩
    obtain ⟨hpo1, hpo2, hpo3⟩ := hpost
    rw [← hsm] at hpo2 hpo3
    rw [own_fin n_ zo sm p5 p5 p5 p5 u0 u1 hn3 h_zo hpo2 hpo3] at V1
    have go239 : ∀ t, Steps p.tables e below (T235.setTop (mkF m 287 #[iv p0, iv p1, iv p2, iv p3, iv p4, iv p5, iv n_, iv m_, iv xo, iv yo, iv zo, iv 0, rv ax, rv ay, rv az, iv zo, iv ax_0, iv ax_1, iv ax_2, iv ax_3, iv ay_0, iv ay_1, iv ay_2, iv ay_3, iv p5, iv p5, iv p5, iv p5, iv rr, .unset, .unset, .unset, .unset, .unset, .unset, .unset, .unset, .unset, .unset, .unset, .unset, .unset, .unset, .unset, .unset] [(.int 1), (.int n_)])) t → Steps p.tables e below O t := fun t k => go106 t (by
      refine XS.ifYes X0.here hx rfl (pc0 := 54) (pc' := 61) rfl (hb hby at_54) rfl ((if0 _ _).trans (teq (hip : (((p4.toUInt32 >>> ((7 : Int32) &&& 31).toUInt32).toInt32) &&& (1 : Int32)) = (0 : Int32))).1) (by decide) (by decide) ?_
      refine XS.iconst X0.here hx rfl (hb hby at_61) ?_
      show Steps _ _ _ (s₁.setTop (mkF m 62 _ [(.int 0)])) _
      refine XS.istore X0.here hx rfl (hb hby at_62) rfl (l' := #[iv p0, iv p1, iv p2, iv p3, iv p4, iv p5, iv n_, iv m_, iv xo, iv yo, iv zo, iv 0, .unset, .unset, .unset, .unset, .unset, .unset, .unset, .unset, .unset, .unset, .unset, .unset, .unset, .unset, .unset, .unset, .unset, .unset, .unset, .unset, .unset, .unset, .unset, .unset, .unset, .unset, .unset, .unset, .unset, .unset, .unset, .unset, .unset]) rfl ?_
      show Steps _ _ _ (s₁.setTop (mkF m 64 _ [])) _
      refine XS.iconst X0.here hx rfl (hb hby at_64) ?_
      refine st107 _ ?_
      show Steps _ _ _ (T107.setTop (mkF m 67 _ [(.ref ax)])) _
      refine XS.dup X107.here hx rfl (hb hby at_67) rfl rfl ?_
      refine XS.iconst X107.here hx rfl (hb hby at_68) ?_
      show Steps _ _ _ (T107.setTop (mkF m 69 _ [(.int 0), (.ref ax), (.ref ax)])) _
      refine XS.iload X107.here hx rfl (hb hby at_69) rfl ?_
      refine st111 _ ?_
      show Steps _ _ _ (T111.setTop (mkF m 72 _ [(.ref ax)])) _
      refine XS.dup X111.here hx rfl (hb hby at_72) rfl rfl ?_
      refine XS.iconst X111.here hx rfl (hb hby at_73) ?_
      show Steps _ _ _ (T111.setTop (mkF m 74 _ [(.int 1), (.ref ax), (.ref ax)])) _
      refine XS.iload X111.here hx rfl (hb hby at_74) rfl ?_
      refine st115 _ ?_
      show Steps _ _ _ (T115.setTop (mkF m 77 _ [(.ref ax)])) _
      refine XS.dup X115.here hx rfl (hb hby at_77) rfl rfl ?_
      refine XS.iconst X115.here hx rfl (hb hby at_78) ?_
      show Steps _ _ _ (T115.setTop (mkF m 79 _ [(.int 2), (.ref ax), (.ref ax)])) _
      refine XS.iload X115.here hx rfl (hb hby at_79) rfl ?_
      refine st119 _ ?_
      show Steps _ _ _ (T119.setTop (mkF m 82 _ [(.ref ax)])) _
      refine XS.dup X119.here hx rfl (hb hby at_82) rfl rfl ?_
      refine XS.iconst X119.here hx rfl (hb hby at_83) ?_
      show Steps _ _ _ (T119.setTop (mkF m 84 _ [(.int 3), (.ref ax), (.ref ax)])) _
      refine XS.iload X119.here hx rfl (hb hby at_84) rfl ?_
      refine st123 _ ?_
      show Steps _ _ _ (T123.setTop (mkF m 87 _ [(.ref ax)])) _
      refine XS.astore X123.here hx rfl (hb hby at_87) rfl rfl (l' := #[iv p0, iv p1, iv p2, iv p3, iv p4, iv p5, iv n_, iv m_, iv xo, iv yo, iv zo, iv 0, rv ax, .unset, .unset, .unset, .unset, .unset, .unset, .unset, .unset, .unset, .unset, .unset, .unset, .unset, .unset, .unset, .unset, .unset, .unset, .unset, .unset, .unset, .unset, .unset, .unset, .unset, .unset, .unset, .unset, .unset, .unset, .unset, .unset]) rfl ?_
      show Steps _ _ _ (T123.setTop (mkF m 89 _ [])) _
      refine XS.aload X123.here hx rfl (hb hby at_89) rfl rfl ?_
      refine XS.iload X123.here hx rfl (hb hby at_91) rfl ?_
      show Steps _ _ _ (T123.setTop (mkF m 93 _ [(.int xo), (.ref ax)])) _
      refine XS.iloadN X123.here hx rfl (hb hby at_93) rfl ?_
      refine st127 _ ?_
      show Steps _ _ _ (T127.setTop (mkF m 95 _ [])) _
      refine XS.aload X127.here hx rfl (hb hby at_95) rfl rfl ?_
      refine XS.iload X127.here hx rfl (hb hby at_97) rfl ?_
      show Steps _ _ _ (T127.setTop (mkF m 99 _ [(.int xo), (.ref ax)])) _
      refine XS.iconst X127.here hx rfl (hb hby at_99) ?_
      refine XS.iadd X127.here hx rfl (hb hby at_100) rfl ?_
      show Steps _ _ _ (T127.setTop (mkF m 101 _ [(.int (xo + (1 : Int32))), (.ref ax)])) _
      refine XS.iloadN X127.here hx rfl (hb hby at_101) rfl ?_
      refine st131 _ ?_
      show Steps _ _ _ (T131.setTop (mkF m 103 _ [])) _
      refine XS.iconst X131.here hx rfl (hb hby at_103) ?_
      refine st134 _ ?_
      show Steps _ _ _ (T134.setTop (mkF m 106 _ [(.ref ay)])) _
      refine XS.dup X134.here hx rfl (hb hby at_106) rfl rfl ?_
      refine XS.iconst X134.here hx rfl (hb hby at_107) ?_
      show Steps _ _ _ (T134.setTop (mkF m 108 _ [(.int 0), (.ref ay), (.ref ay)])) _
      refine XS.iload X134.here hx rfl (hb hby at_108) rfl ?_
      refine st140 _ ?_
      show Steps _ _ _ (T140.setTop (mkF m 111 _ [(.ref ay)])) _
      refine XS.dup X140.here hx rfl (hb hby at_111) rfl rfl ?_
      refine XS.iconst X140.here hx rfl (hb hby at_112) ?_
      show Steps _ _ _ (T140.setTop (mkF m 113 _ [(.int 1), (.ref ay), (.ref ay)])) _
      refine XS.iload X140.here hx rfl (hb hby at_113) rfl ?_
      refine st145 _ ?_
      show Steps _ _ _ (T145.setTop (mkF m 116 _ [(.ref ay)])) _
      refine XS.dup X145.here hx rfl (hb hby at_116) rfl rfl ?_
      refine XS.iconst X145.here hx rfl (hb hby at_117) ?_
      show Steps _ _ _ (T145.setTop (mkF m 118 _ [(.int 2), (.ref ay), (.ref ay)])) _
      refine XS.iload X145.here hx rfl (hb hby at_118) rfl ?_
      refine st150 _ ?_
      show Steps _ _ _ (T150.setTop (mkF m 121 _ [(.ref ay)])) _
      refine XS.dup X150.here hx rfl (hb hby at_121) rfl rfl ?_
      refine XS.iconst X150.here hx rfl (hb hby at_122) ?_
      show Steps _ _ _ (T150.setTop (mkF m 123 _ [(.int 3), (.ref ay), (.ref ay)])) _
      refine XS.iload X150.here hx rfl (hb hby at_123) rfl ?_
      refine st155 _ ?_
      show Steps _ _ _ (T155.setTop (mkF m 126 _ [(.ref ay)])) _
      refine XS.astore X155.here hx rfl (hb hby at_126) rfl rfl (l' := #[iv p0, iv p1, iv p2, iv p3, iv p4, iv p5, iv n_, iv m_, iv xo, iv yo, iv zo, iv 0, rv ax, rv ay, .unset, .unset, .unset, .unset, .unset, .unset, .unset, .unset, .unset, .unset, .unset, .unset, .unset, .unset, .unset, .unset, .unset, .unset, .unset, .unset, .unset, .unset, .unset, .unset, .unset, .unset, .unset, .unset, .unset, .unset, .unset]) rfl ?_
      show Steps _ _ _ (T155.setTop (mkF m 128 _ [])) _
      refine XS.aload X155.here hx rfl (hb hby at_128) rfl rfl ?_
      refine XS.iload X155.here hx rfl (hb hby at_130) rfl ?_
      show Steps _ _ _ (T155.setTop (mkF m 132 _ [(.int yo), (.ref ay)])) _
      refine XS.iloadN X155.here hx rfl (hb hby at_132) rfl ?_
      refine st160 _ ?_
      show Steps _ _ _ (T160.setTop (mkF m 134 _ [])) _
      refine XS.aload X160.here hx rfl (hb hby at_134) rfl rfl ?_
      refine XS.iload X160.here hx rfl (hb hby at_136) rfl ?_
      show Steps _ _ _ (T160.setTop (mkF m 138 _ [(.int yo), (.ref ay)])) _
      refine XS.iconst X160.here hx rfl (hb hby at_138) ?_
      refine XS.iadd X160.here hx rfl (hb hby at_139) rfl ?_
      show Steps _ _ _ (T160.setTop (mkF m 140 _ [(.int (yo + (1 : Int32))), (.ref ay)])) _
      refine XS.iloadN X160.here hx rfl (hb hby at_140) rfl ?_
      refine st165 _ ?_
      show Steps _ _ _ (T165.setTop (mkF m 142 _ [])) _
      refine XS.iload X165.here hx rfl (hb hby at_142) rfl ?_
      refine XS.ifYes X165.here hx rfl (pc0 := 144) (pc' := 152) rfl (hb hby at_144) rfl ((if0 _ _).trans (teq (by decide : (0 : Int32) = (0 : Int32))).1) (by decide) (by decide) ?_
      show Steps _ _ _ (T165.setTop (mkF m 152 _ [])) _
      refine XS.iconst X165.here hx rfl (hb hby at_152) ?_
      refine st169 _ ?_
      show Steps _ _ _ (T169.setTop (mkF m 155 _ [(.ref az)])) _
      refine XS.dup X169.here hx rfl (hb hby at_155) rfl rfl ?_
      refine XS.iconst X169.here hx rfl (hb hby at_156) ?_
      show Steps _ _ _ (T169.setTop (mkF m 157 _ [(.int 0), (.ref az), (.ref az)])) _
      refine XS.iload X169.here hx rfl (hb hby at_157) rfl ?_
      refine st177 _ ?_
      show Steps _ _ _ (T177.setTop (mkF m 160 _ [(.ref az)])) _
      refine XS.dup X177.here hx rfl (hb hby at_160) rfl rfl ?_
      refine XS.iconst X177.here hx rfl (hb hby at_161) ?_
      show Steps _ _ _ (T177.setTop (mkF m 162 _ [(.int 1), (.ref az), (.ref az)])) _
      refine XS.iload X177.here hx rfl (hb hby at_162) rfl ?_
      refine st183 _ ?_
      show Steps _ _ _ (T183.setTop (mkF m 165 _ [(.ref az)])) _
      refine XS.dup X183.here hx rfl (hb hby at_165) rfl rfl ?_
      refine XS.iconst X183.here hx rfl (hb hby at_166) ?_
      show Steps _ _ _ (T183.setTop (mkF m 167 _ [(.int 2), (.ref az), (.ref az)])) _
      refine XS.iload X183.here hx rfl (hb hby at_167) rfl ?_
      refine st189 _ ?_
      show Steps _ _ _ (T189.setTop (mkF m 170 _ [(.ref az)])) _
      refine XS.dup X189.here hx rfl (hb hby at_170) rfl rfl ?_
      refine XS.iconst X189.here hx rfl (hb hby at_171) ?_
      show Steps _ _ _ (T189.setTop (mkF m 172 _ [(.int 3), (.ref az), (.ref az)])) _
      refine XS.iload X189.here hx rfl (hb hby at_172) rfl ?_
      refine st195 _ ?_
      show Steps _ _ _ (T195.setTop (mkF m 175 _ [(.ref az)])) _
      refine XS.astore X195.here hx rfl (hb hby at_175) rfl rfl (l' := #[iv p0, iv p1, iv p2, iv p3, iv p4, iv p5, iv n_, iv m_, iv xo, iv yo, iv zo, iv 0, rv ax, rv ay, rv az, .unset, .unset, .unset, .unset, .unset, .unset, .unset, .unset, .unset, .unset, .unset, .unset, .unset, .unset, .unset, .unset, .unset, .unset, .unset, .unset, .unset, .unset, .unset, .unset, .unset, .unset, .unset, .unset, .unset, .unset]) rfl ?_
      show Steps _ _ _ (T195.setTop (mkF m 177 _ [])) _
      refine XS.iload X195.here hx rfl (hb hby at_177) rfl ?_
      refine XS.ifYes X195.here hx rfl (pc0 := 179) (pc' := 187) rfl (hb hby at_179) rfl ((if0 _ _).trans (teq (by decide : (0 : Int32) = (0 : Int32))).1) (by decide) (by decide) ?_
      show Steps _ _ _ (T195.setTop (mkF m 187 _ [])) _
      refine XS.iload X195.here hx rfl (hb hby at_187) rfl ?_
      refine XS.istore X195.here hx rfl (hb hby at_189) rfl (l' := #[iv p0, iv p1, iv p2, iv p3, iv p4, iv p5, iv n_, iv m_, iv xo, iv yo, iv zo, iv 0, rv ax, rv ay, rv az, iv zo, .unset, .unset, .unset, .unset, .unset, .unset, .unset, .unset, .unset, .unset, .unset, .unset, .unset, .unset, .unset, .unset, .unset, .unset, .unset, .unset, .unset, .unset, .unset, .unset, .unset, .unset, .unset, .unset, .unset]) rfl ?_
      show Steps _ _ _ (T195.setTop (mkF m 191 _ [])) _
      refine XS.aload X195.here hx rfl (hb hby at_191) rfl rfl ?_
      refine XS.iconst X195.here hx rfl (hb hby at_193) ?_
      show Steps _ _ _ (T195.setTop (mkF m 194 _ [(.int 0), (.ref ax)])) _
      refine X195.iaload hx (j := (0 : Int32)) (v := (.int ax_0)) (by rw [e195]; exact Ar199.1) (State.isArrayOf_alike hZ.alike Ar199.2.1) Ar199.2.2 hin201 hat201 (g := (mkF m 194 #[iv p0, iv p1, iv p2, iv p3, iv p4, iv p5, iv n_, iv m_, iv xo, iv yo, iv zo, iv 0, rv ax, rv ay, rv az, iv zo, .unset, .unset, .unset, .unset, .unset, .unset, .unset, .unset, .unset, .unset, .unset, .unset, .unset, .unset, .unset, .unset, .unset, .unset, .unset, .unset, .unset, .unset, .unset, .unset, .unset, .unset, .unset, .unset, .unset] [(.int 0), (.ref ax)])) rfl rfl (hb hby at_194) _ ?_
      refine XS.istore X195.here hx rfl (hb hby at_195) rfl (l' := #[iv p0, iv p1, iv p2, iv p3, iv p4, iv p5, iv n_, iv m_, iv xo, iv yo, iv zo, iv 0, rv ax, rv ay, rv az, iv zo, iv ax_0, .unset, .unset, .unset, .unset, .unset, .unset, .unset, .unset, .unset, .unset, .unset, .unset, .unset, .unset, .unset, .unset, .unset, .unset, .unset, .unset, .unset, .unset, .unset, .unset, .unset, .unset, .unset, .unset]) rfl ?_
      show Steps _ _ _ (T195.setTop (mkF m 197 _ [])) _
      refine XS.aload X195.here hx rfl (hb hby at_197) rfl rfl ?_
      refine XS.iconst X195.here hx rfl (hb hby at_199) ?_
      show Steps _ _ _ (T195.setTop (mkF m 200 _ [(.int 1), (.ref ax)])) _
      refine X195.iaload hx (j := (1 : Int32)) (v := (.int ax_1)) (by rw [e195]; exact Ar202.1) (State.isArrayOf_alike hZ.alike Ar202.2.1) Ar202.2.2 hin204 hat204 (g := (mkF m 200 #[iv p0, iv p1, iv p2, iv p3, iv p4, iv p5, iv n_, iv m_, iv xo, iv yo, iv zo, iv 0, rv ax, rv ay, rv az, iv zo, iv ax_0, .unset, .unset, .unset, .unset, .unset, .unset, .unset, .unset, .unset, .unset, .unset, .unset, .unset, .unset, .unset, .unset, .unset, .unset, .unset, .unset, .unset, .unset, .unset, .unset, .unset, .unset, .unset, .unset] [(.int 1), (.ref ax)])) rfl rfl (hb hby at_200) _ ?_
      refine XS.istore X195.here hx rfl (hb hby at_201) rfl (l' := #[iv p0, iv p1, iv p2, iv p3, iv p4, iv p5, iv n_, iv m_, iv xo, iv yo, iv zo, iv 0, rv ax, rv ay, rv az, iv zo, iv ax_0, iv ax_1, .unset, .unset, .unset, .unset, .unset, .unset, .unset, .unset, .unset, .unset, .unset, .unset, .unset, .unset, .unset, .unset, .unset, .unset, .unset, .unset, .unset, .unset, .unset, .unset, .unset, .unset, .unset]) rfl ?_
      show Steps _ _ _ (T195.setTop (mkF m 203 _ [])) _
      refine XS.aload X195.here hx rfl (hb hby at_203) rfl rfl ?_
      refine XS.iconst X195.here hx rfl (hb hby at_205) ?_
      show Steps _ _ _ (T195.setTop (mkF m 206 _ [(.int 2), (.ref ax)])) _
      refine X195.iaload hx (j := (2 : Int32)) (v := (.int ax_2)) (by rw [e195]; exact Ar205.1) (State.isArrayOf_alike hZ.alike Ar205.2.1) Ar205.2.2 hin207 hat207 (g := (mkF m 206 #[iv p0, iv p1, iv p2, iv p3, iv p4, iv p5, iv n_, iv m_, iv xo, iv yo, iv zo, iv 0, rv ax, rv ay, rv az, iv zo, iv ax_0, iv ax_1, .unset, .unset, .unset, .unset, .unset, .unset, .unset, .unset, .unset, .unset, .unset, .unset, .unset, .unset, .unset, .unset, .unset, .unset, .unset, .unset, .unset, .unset, .unset, .unset, .unset, .unset, .unset] [(.int 2), (.ref ax)])) rfl rfl (hb hby at_206) _ ?_
      refine XS.istore X195.here hx rfl (hb hby at_207) rfl (l' := #[iv p0, iv p1, iv p2, iv p3, iv p4, iv p5, iv n_, iv m_, iv xo, iv yo, iv zo, iv 0, rv ax, rv ay, rv az, iv zo, iv ax_0, iv ax_1, iv ax_2, .unset, .unset, .unset, .unset, .unset, .unset, .unset, .unset, .unset, .unset, .unset, .unset, .unset, .unset, .unset, .unset, .unset, .unset, .unset, .unset, .unset, .unset, .unset, .unset, .unset, .unset]) rfl ?_
      show Steps _ _ _ (T195.setTop (mkF m 209 _ [])) _
      refine XS.aload X195.here hx rfl (hb hby at_209) rfl rfl ?_
      refine XS.iconst X195.here hx rfl (hb hby at_211) ?_
      show Steps _ _ _ (T195.setTop (mkF m 212 _ [(.int 3), (.ref ax)])) _
      refine X195.iaload hx (j := (3 : Int32)) (v := (.int ax_3)) (by rw [e195]; exact Ar208.1) (State.isArrayOf_alike hZ.alike Ar208.2.1) Ar208.2.2 hin210 hat210 (g := (mkF m 212 #[iv p0, iv p1, iv p2, iv p3, iv p4, iv p5, iv n_, iv m_, iv xo, iv yo, iv zo, iv 0, rv ax, rv ay, rv az, iv zo, iv ax_0, iv ax_1, iv ax_2, .unset, .unset, .unset, .unset, .unset, .unset, .unset, .unset, .unset, .unset, .unset, .unset, .unset, .unset, .unset, .unset, .unset, .unset, .unset, .unset, .unset, .unset, .unset, .unset, .unset, .unset] [(.int 3), (.ref ax)])) rfl rfl (hb hby at_212) _ ?_
      refine XS.istore X195.here hx rfl (hb hby at_213) rfl (l' := #[iv p0, iv p1, iv p2, iv p3, iv p4, iv p5, iv n_, iv m_, iv xo, iv yo, iv zo, iv 0, rv ax, rv ay, rv az, iv zo, iv ax_0, iv ax_1, iv ax_2, iv ax_3, .unset, .unset, .unset, .unset, .unset, .unset, .unset, .unset, .unset, .unset, .unset, .unset, .unset, .unset, .unset, .unset, .unset, .unset, .unset, .unset, .unset, .unset, .unset, .unset, .unset]) rfl ?_
      show Steps _ _ _ (T195.setTop (mkF m 215 _ [])) _
      refine XS.aload X195.here hx rfl (hb hby at_215) rfl rfl ?_
      refine XS.iconst X195.here hx rfl (hb hby at_217) ?_
      show Steps _ _ _ (T195.setTop (mkF m 218 _ [(.int 0), (.ref ay)])) _
      refine X195.iaload hx (j := (0 : Int32)) (v := (.int ay_0)) (by rw [e195]; exact Ar211.1) (State.isArrayOf_alike hZ.alike Ar211.2.1) Ar211.2.2 hin213 hat213 (g := (mkF m 218 #[iv p0, iv p1, iv p2, iv p3, iv p4, iv p5, iv n_, iv m_, iv xo, iv yo, iv zo, iv 0, rv ax, rv ay, rv az, iv zo, iv ax_0, iv ax_1, iv ax_2, iv ax_3, .unset, .unset, .unset, .unset, .unset, .unset, .unset, .unset, .unset, .unset, .unset, .unset, .unset, .unset, .unset, .unset, .unset, .unset, .unset, .unset, .unset, .unset, .unset, .unset, .unset] [(.int 0), (.ref ay)])) rfl rfl (hb hby at_218) _ ?_
      refine XS.istore X195.here hx rfl (hb hby at_219) rfl (l' := #[iv p0, iv p1, iv p2, iv p3, iv p4, iv p5, iv n_, iv m_, iv xo, iv yo, iv zo, iv 0, rv ax, rv ay, rv az, iv zo, iv ax_0, iv ax_1, iv ax_2, iv ax_3, iv ay_0, .unset, .unset, .unset, .unset, .unset, .unset, .unset, .unset, .unset, .unset, .unset, .unset, .unset, .unset, .unset, .unset, .unset, .unset, .unset, .unset, .unset, .unset, .unset, .unset]) rfl ?_
      show Steps _ _ _ (T195.setTop (mkF m 221 _ [])) _
      refine XS.aload X195.here hx rfl (hb hby at_221) rfl rfl ?_
      refine XS.iconst X195.here hx rfl (hb hby at_223) ?_
      show Steps _ _ _ (T195.setTop (mkF m 224 _ [(.int 1), (.ref ay)])) _
      refine X195.iaload hx (j := (1 : Int32)) (v := (.int ay_1)) (by rw [e195]; exact Ar214.1) (State.isArrayOf_alike hZ.alike Ar214.2.1) Ar214.2.2 hin216 hat216 (g := (mkF m 224 #[iv p0, iv p1, iv p2, iv p3, iv p4, iv p5, iv n_, iv m_, iv xo, iv yo, iv zo, iv 0, rv ax, rv ay, rv az, iv zo, iv ax_0, iv ax_1, iv ax_2, iv ax_3, iv ay_0, .unset, .unset, .unset, .unset, .unset, .unset, .unset, .unset, .unset, .unset, .unset, .unset, .unset, .unset, .unset, .unset, .unset, .unset, .unset, .unset, .unset, .unset, .unset, .unset] [(.int 1), (.ref ay)])) rfl rfl (hb hby at_224) _ ?_
      refine XS.istore X195.here hx rfl (hb hby at_225) rfl (l' := #[iv p0, iv p1, iv p2, iv p3, iv p4, iv p5, iv n_, iv m_, iv xo, iv yo, iv zo, iv 0, rv ax, rv ay, rv az, iv zo, iv ax_0, iv ax_1, iv ax_2, iv ax_3, iv ay_0, iv ay_1, .unset, .unset, .unset, .unset, .unset, .unset, .unset, .unset, .unset, .unset, .unset, .unset, .unset, .unset, .unset, .unset, .unset, .unset, .unset, .unset, .unset, .unset, .unset]) rfl ?_
      show Steps _ _ _ (T195.setTop (mkF m 227 _ [])) _
      refine XS.aload X195.here hx rfl (hb hby at_227) rfl rfl ?_
      refine XS.iconst X195.here hx rfl (hb hby at_229) ?_
      show Steps _ _ _ (T195.setTop (mkF m 230 _ [(.int 2), (.ref ay)])) _
      refine X195.iaload hx (j := (2 : Int32)) (v := (.int ay_2)) (by rw [e195]; exact Ar217.1) (State.isArrayOf_alike hZ.alike Ar217.2.1) Ar217.2.2 hin219 hat219 (g := (mkF m 230 #[iv p0, iv p1, iv p2, iv p3, iv p4, iv p5, iv n_, iv m_, iv xo, iv yo, iv zo, iv 0, rv ax, rv ay, rv az, iv zo, iv ax_0, iv ax_1, iv ax_2, iv ax_3, iv ay_0, iv ay_1, .unset, .unset, .unset, .unset, .unset, .unset, .unset, .unset, .unset, .unset, .unset, .unset, .unset, .unset, .unset, .unset, .unset, .unset, .unset, .unset, .unset, .unset, .unset] [(.int 2), (.ref ay)])) rfl rfl (hb hby at_230) _ ?_
      refine XS.istore X195.here hx rfl (hb hby at_231) rfl (l' := #[iv p0, iv p1, iv p2, iv p3, iv p4, iv p5, iv n_, iv m_, iv xo, iv yo, iv zo, iv 0, rv ax, rv ay, rv az, iv zo, iv ax_0, iv ax_1, iv ax_2, iv ax_3, iv ay_0, iv ay_1, iv ay_2, .unset, .unset, .unset, .unset, .unset, .unset, .unset, .unset, .unset, .unset, .unset, .unset, .unset, .unset, .unset, .unset, .unset, .unset, .unset, .unset, .unset, .unset]) rfl ?_
      show Steps _ _ _ (T195.setTop (mkF m 233 _ [])) _
      refine XS.aload X195.here hx rfl (hb hby at_233) rfl rfl ?_
      refine XS.iconst X195.here hx rfl (hb hby at_235) ?_
      show Steps _ _ _ (T195.setTop (mkF m 236 _ [(.int 3), (.ref ay)])) _
      refine X195.iaload hx (j := (3 : Int32)) (v := (.int ay_3)) (by rw [e195]; exact Ar220.1) (State.isArrayOf_alike hZ.alike Ar220.2.1) Ar220.2.2 hin222 hat222 (g := (mkF m 236 #[iv p0, iv p1, iv p2, iv p3, iv p4, iv p5, iv n_, iv m_, iv xo, iv yo, iv zo, iv 0, rv ax, rv ay, rv az, iv zo, iv ax_0, iv ax_1, iv ax_2, iv ax_3, iv ay_0, iv ay_1, iv ay_2, .unset, .unset, .unset, .unset, .unset, .unset, .unset, .unset, .unset, .unset, .unset, .unset, .unset, .unset, .unset, .unset, .unset, .unset, .unset, .unset, .unset, .unset] [(.int 3), (.ref ay)])) rfl rfl (hb hby at_236) _ ?_
      refine XS.istore X195.here hx rfl (hb hby at_237) rfl (l' := #[iv p0, iv p1, iv p2, iv p3, iv p4, iv p5, iv n_, iv m_, iv xo, iv yo, iv zo, iv 0, rv ax, rv ay, rv az, iv zo, iv ax_0, iv ax_1, iv ax_2, iv ax_3, iv ay_0, iv ay_1, iv ay_2, iv ay_3, .unset, .unset, .unset, .unset, .unset, .unset, .unset, .unset, .unset, .unset, .unset, .unset, .unset, .unset, .unset, .unset, .unset, .unset, .unset, .unset, .unset]) rfl ?_
      show Steps _ _ _ (T195.setTop (mkF m 239 _ [])) _
      refine XS.aload X195.here hx rfl (hb hby at_239) rfl rfl ?_
      refine XS.iconst X195.here hx rfl (hb hby at_241) ?_
      show Steps _ _ _ (T195.setTop (mkF m 242 _ [(.int 0), (.ref az)])) _
      refine X195.iaload hx (j := (0 : Int32)) (v := (.int p5)) (by rw [e195]; exact Ar223.1) (State.isArrayOf_alike hZ.alike Ar223.2.1) Ar223.2.2 hin225 hat225 (g := (mkF m 242 #[iv p0, iv p1, iv p2, iv p3, iv p4, iv p5, iv n_, iv m_, iv xo, iv yo, iv zo, iv 0, rv ax, rv ay, rv az, iv zo, iv ax_0, iv ax_1, iv ax_2, iv ax_3, iv ay_0, iv ay_1, iv ay_2, iv ay_3, .unset, .unset, .unset, .unset, .unset, .unset, .unset, .unset, .unset, .unset, .unset, .unset, .unset, .unset, .unset, .unset, .unset, .unset, .unset, .unset, .unset] [(.int 0), (.ref az)])) rfl rfl (hb hby at_242) _ ?_
      refine XS.istore X195.here hx rfl (hb hby at_243) rfl (l' := #[iv p0, iv p1, iv p2, iv p3, iv p4, iv p5, iv n_, iv m_, iv xo, iv yo, iv zo, iv 0, rv ax, rv ay, rv az, iv zo, iv ax_0, iv ax_1, iv ax_2, iv ax_3, iv ay_0, iv ay_1, iv ay_2, iv ay_3, iv p5, .unset, .unset, .unset, .unset, .unset, .unset, .unset, .unset, .unset, .unset, .unset, .unset, .unset, .unset, .unset, .unset, .unset, .unset, .unset, .unset]) rfl ?_
      show Steps _ _ _ (T195.setTop (mkF m 245 _ [])) _
      refine XS.aload X195.here hx rfl (hb hby at_245) rfl rfl ?_
      refine XS.iconst X195.here hx rfl (hb hby at_247) ?_
      show Steps _ _ _ (T195.setTop (mkF m 248 _ [(.int 1), (.ref az)])) _
      refine X195.iaload hx (j := (1 : Int32)) (v := (.int p5)) (by rw [e195]; exact Ar226.1) (State.isArrayOf_alike hZ.alike Ar226.2.1) Ar226.2.2 hin228 hat228 (g := (mkF m 248 #[iv p0, iv p1, iv p2, iv p3, iv p4, iv p5, iv n_, iv m_, iv xo, iv yo, iv zo, iv 0, rv ax, rv ay, rv az, iv zo, iv ax_0, iv ax_1, iv ax_2, iv ax_3, iv ay_0, iv ay_1, iv ay_2, iv ay_3, iv p5, .unset, .unset, .unset, .unset, .unset, .unset, .unset, .unset, .unset, .unset, .unset, .unset, .unset, .unset, .unset, .unset, .unset, .unset, .unset, .unset] [(.int 1), (.ref az)])) rfl rfl (hb hby at_248) _ ?_
      refine XS.istore X195.here hx rfl (hb hby at_249) rfl (l' := #[iv p0, iv p1, iv p2, iv p3, iv p4, iv p5, iv n_, iv m_, iv xo, iv yo, iv zo, iv 0, rv ax, rv ay, rv az, iv zo, iv ax_0, iv ax_1, iv ax_2, iv ax_3, iv ay_0, iv ay_1, iv ay_2, iv ay_3, iv p5, iv p5, .unset, .unset, .unset, .unset, .unset, .unset, .unset, .unset, .unset, .unset, .unset, .unset, .unset, .unset, .unset, .unset, .unset, .unset, .unset]) rfl ?_
      show Steps _ _ _ (T195.setTop (mkF m 251 _ [])) _
      refine XS.aload X195.here hx rfl (hb hby at_251) rfl rfl ?_
      refine XS.iconst X195.here hx rfl (hb hby at_253) ?_
      show Steps _ _ _ (T195.setTop (mkF m 254 _ [(.int 2), (.ref az)])) _
      refine X195.iaload hx (j := (2 : Int32)) (v := (.int p5)) (by rw [e195]; exact Ar229.1) (State.isArrayOf_alike hZ.alike Ar229.2.1) Ar229.2.2 hin231 hat231 (g := (mkF m 254 #[iv p0, iv p1, iv p2, iv p3, iv p4, iv p5, iv n_, iv m_, iv xo, iv yo, iv zo, iv 0, rv ax, rv ay, rv az, iv zo, iv ax_0, iv ax_1, iv ax_2, iv ax_3, iv ay_0, iv ay_1, iv ay_2, iv ay_3, iv p5, iv p5, .unset, .unset, .unset, .unset, .unset, .unset, .unset, .unset, .unset, .unset, .unset, .unset, .unset, .unset, .unset, .unset, .unset, .unset, .unset] [(.int 2), (.ref az)])) rfl rfl (hb hby at_254) _ ?_
      refine XS.istore X195.here hx rfl (hb hby at_255) rfl (l' := #[iv p0, iv p1, iv p2, iv p3, iv p4, iv p5, iv n_, iv m_, iv xo, iv yo, iv zo, iv 0, rv ax, rv ay, rv az, iv zo, iv ax_0, iv ax_1, iv ax_2, iv ax_3, iv ay_0, iv ay_1, iv ay_2, iv ay_3, iv p5, iv p5, iv p5, .unset, .unset, .unset, .unset, .unset, .unset, .unset, .unset, .unset, .unset, .unset, .unset, .unset, .unset, .unset, .unset, .unset, .unset]) rfl ?_
      show Steps _ _ _ (T195.setTop (mkF m 257 _ [])) _
      refine XS.aload X195.here hx rfl (hb hby at_257) rfl rfl ?_
      refine XS.iconst X195.here hx rfl (hb hby at_259) ?_
      show Steps _ _ _ (T195.setTop (mkF m 260 _ [(.int 3), (.ref az)])) _
      refine X195.iaload hx (j := (3 : Int32)) (v := (.int p5)) (by rw [e195]; exact Ar232.1) (State.isArrayOf_alike hZ.alike Ar232.2.1) Ar232.2.2 hin234 hat234 (g := (mkF m 260 #[iv p0, iv p1, iv p2, iv p3, iv p4, iv p5, iv n_, iv m_, iv xo, iv yo, iv zo, iv 0, rv ax, rv ay, rv az, iv zo, iv ax_0, iv ax_1, iv ax_2, iv ax_3, iv ay_0, iv ay_1, iv ay_2, iv ay_3, iv p5, iv p5, iv p5, .unset, .unset, .unset, .unset, .unset, .unset, .unset, .unset, .unset, .unset, .unset, .unset, .unset, .unset, .unset, .unset, .unset, .unset] [(.int 3), (.ref az)])) rfl rfl (hb hby at_260) _ ?_
      refine XS.istore X195.here hx rfl (hb hby at_261) rfl (l' := #[iv p0, iv p1, iv p2, iv p3, iv p4, iv p5, iv n_, iv m_, iv xo, iv yo, iv zo, iv 0, rv ax, rv ay, rv az, iv zo, iv ax_0, iv ax_1, iv ax_2, iv ax_3, iv ay_0, iv ay_1, iv ay_2, iv ay_3, iv p5, iv p5, iv p5, iv p5, .unset, .unset, .unset, .unset, .unset, .unset, .unset, .unset, .unset, .unset, .unset, .unset, .unset, .unset, .unset, .unset, .unset]) rfl ?_
      show Steps _ _ _ (T195.setTop (mkF m 263 _ [])) _
      refine XS.aload X195.here hx rfl (hb hby at_263) rfl rfl ?_
      refine XS.iload X195.here hx rfl (hb hby at_265) rfl ?_
      show Steps _ _ _ (T195.setTop (mkF m 267 _ [(.int zo), (.ref az)])) _
      refine XS.aload X195.here hx rfl (hb hby at_267) rfl rfl ?_
      refine XS.iload X195.here hx rfl (hb hby at_269) rfl ?_
      show Steps _ _ _ (T195.setTop (mkF m 271 _ [(.int xo), (.ref ax), (.int zo), (.ref az)])) _
      refine XS.iload X195.here hx rfl (hb hby at_271) rfl ?_
      refine XS.aload X195.here hx rfl (hb hby at_273) rfl rfl ?_
      show Steps _ _ _ (T195.setTop (mkF m 275 _ [(.ref ay), (.int n_), (.int xo), (.ref ax), (.int zo), (.ref az)])) _
      refine XS.iload X195.here hx rfl (hb hby at_275) rfl ?_
      refine XS.iload X195.here hx rfl (hb hby at_277) rfl ?_
      show Steps _ _ _ (T195.setTop (mkF m 279 _ [(.int m_), (.int yo), (.ref ay), (.int n_), (.int xo), (.ref ax), (.int zo), (.ref az)])) _
      refine st235 _ ?_
      show Steps _ _ _ (T235.setTop (mkF m 282 _ [(.int rr)])) _
      refine XS.istore X235.here hx rfl (hb hby at_282) rfl (l' := #[iv p0, iv p1, iv p2, iv p3, iv p4, iv p5, iv n_, iv m_, iv xo, iv yo, iv zo, iv 0, rv ax, rv ay, rv az, iv zo, iv ax_0, iv ax_1, iv ax_2, iv ax_3, iv ay_0, iv ay_1, iv ay_2, iv ay_3, iv p5, iv p5, iv p5, iv p5, iv rr, .unset, .unset, .unset, .unset, .unset, .unset, .unset, .unset, .unset, .unset, .unset, .unset, .unset, .unset, .unset, .unset]) rfl ?_
      show Steps _ _ _ (T235.setTop (mkF m 284 _ [])) _
      refine XS.iload X235.here hx rfl (hb hby at_284) rfl ?_
      refine XS.iconst X235.here hx rfl (hb hby at_286) ?_
      show Steps _ _ _ (T235.setTop (mkF m 287 _ [(.int 1), (.int n_)])) _
      exact k)
    obtain ⟨w0_, hw0, go240⟩ : ∃ w0_ : Int32, (w0_ = (own_pick n_ (1 : Int32) p0)) ∧ ∀ t, Steps p.tables e below (T235.setTop (mkF m 297 #[iv p0, iv p1, iv p2, iv p3, iv p4, iv p5, iv n_, iv m_, iv xo, iv yo, iv zo, iv 0, rv ax, rv ay, rv az, iv zo, iv ax_0, iv ax_1, iv ax_2, iv ax_3, iv ay_0, iv ay_1, iv ay_2, iv ay_3, iv p5, iv p5, iv p5, iv p5, iv rr, iv w0_, .unset, .unset, .unset, .unset, .unset, .unset, .unset, .unset, .unset, .unset, .unset, .unset, .unset, .unset, .unset] [])) t → Steps p.tables e below O t := by
      by_cases hb_ : n_ < (1 : Int32)
      · have go241 : ∀ t, Steps p.tables e below (T235.setTop (mkF m 297 #[iv p0, iv p1, iv p2, iv p3, iv p4, iv p5, iv n_, iv m_, iv xo, iv yo, iv zo, iv 0, rv ax, rv ay, rv az, iv zo, iv ax_0, iv ax_1, iv ax_2, iv ax_3, iv ay_0, iv ay_1, iv ay_2, iv ay_3, iv p5, iv p5, iv p5, iv p5, iv rr, iv 0, .unset, .unset, .unset, .unset, .unset, .unset, .unset, .unset, .unset, .unset, .unset, .unset, .unset, .unset, .unset] [])) t → Steps p.tables e below O t := fun t k => go239 t (by
          refine XS.icmpYes X235.here hx rfl (pc0 := 287) (pc' := 294) rfl (hb hby at_287) rfl (tlt (hb_ : n_ < (1 : Int32))).1 (by decide) (by decide) ?_
          refine XS.iconst X235.here hx rfl (hb hby at_294) ?_
          show Steps _ _ _ (T235.setTop (mkF m 295 _ [(.int 0)])) _
          refine XS.istore X235.here hx rfl (hb hby at_295) rfl (l' := #[iv p0, iv p1, iv p2, iv p3, iv p4, iv p5, iv n_, iv m_, iv xo, iv yo, iv zo, iv 0, rv ax, rv ay, rv az, iv zo, iv ax_0, iv ax_1, iv ax_2, iv ax_3, iv ay_0, iv ay_1, iv ay_2, iv ay_3, iv p5, iv p5, iv p5, iv p5, iv rr, iv 0, .unset, .unset, .unset, .unset, .unset, .unset, .unset, .unset, .unset, .unset, .unset, .unset, .unset, .unset, .unset]) rfl ?_
          show Steps _ _ _ (T235.setTop (mkF m 297 _ [])) _
          exact k)
        exact ⟨(0 : Int32), (by unfold own_pick; rw [if_pos hb_]), go241⟩
      · have go242 : ∀ t, Steps p.tables e below (T235.setTop (mkF m 297 #[iv p0, iv p1, iv p2, iv p3, iv p4, iv p5, iv n_, iv m_, iv xo, iv yo, iv zo, iv 0, rv ax, rv ay, rv az, iv zo, iv ax_0, iv ax_1, iv ax_2, iv ax_3, iv ay_0, iv ay_1, iv ay_2, iv ay_3, iv p5, iv p5, iv p5, iv p5, iv rr, iv p0, .unset, .unset, .unset, .unset, .unset, .unset, .unset, .unset, .unset, .unset, .unset, .unset, .unset, .unset, .unset] [])) t → Steps p.tables e below O t := fun t k => go239 t (by
          refine XS.icmpNo X235.here hx rfl (hb hby at_287) rfl (flt (hb_ : ¬ (n_ < (1 : Int32)))).1 ?_
          refine XS.iloadN X235.here hx rfl (hb hby at_290) rfl ?_
          show Steps _ _ _ (T235.setTop (mkF m 291 _ [(.int p0)])) _
          refine XS.goto X235.here hx rfl (pc0 := 291) (pc' := 295) rfl (hb hby at_291) (by decide) (by decide) ?_
          refine XS.istore X235.here hx rfl (hb hby at_295) rfl (l' := #[iv p0, iv p1, iv p2, iv p3, iv p4, iv p5, iv n_, iv m_, iv xo, iv yo, iv zo, iv 0, rv ax, rv ay, rv az, iv zo, iv ax_0, iv ax_1, iv ax_2, iv ax_3, iv ay_0, iv ay_1, iv ay_2, iv ay_3, iv p5, iv p5, iv p5, iv p5, iv rr, iv p0, .unset, .unset, .unset, .unset, .unset, .unset, .unset, .unset, .unset, .unset, .unset, .unset, .unset, .unset, .unset]) rfl ?_
          show Steps _ _ _ (T235.setTop (mkF m 297 _ [])) _
          exact k)
        exact ⟨p0, (by unfold own_pick; rw [if_neg hb_]), go242⟩
    have go243 : ∀ t, Steps p.tables e below (T235.setTop (mkF m 300 #[iv p0, iv p1, iv p2, iv p3, iv p4, iv p5, iv n_, iv m_, iv xo, iv yo, iv zo, iv 0, rv ax, rv ay, rv az, iv zo, iv ax_0, iv ax_1, iv ax_2, iv ax_3, iv ay_0, iv ay_1, iv ay_2, iv ay_3, iv p5, iv p5, iv p5, iv p5, iv rr, iv w0_, .unset, .unset, .unset, .unset, .unset, .unset, .unset, .unset, .unset, .unset, .unset, .unset, .unset, .unset, .unset] [(.int 2), (.int n_)])) t → Steps p.tables e below O t := fun t k => go240 t (by
      refine XS.iload X235.here hx rfl (hb hby at_297) rfl ?_
      refine XS.iconst X235.here hx rfl (hb hby at_299) ?_
      show Steps _ _ _ (T235.setTop (mkF m 300 _ [(.int 2), (.int n_)])) _
      exact k)
    obtain ⟨w1_, hw1, go244⟩ : ∃ w1_ : Int32, (w1_ = (own_pick n_ (2 : Int32) p1)) ∧ ∀ t, Steps p.tables e below (T235.setTop (mkF m 310 #[iv p0, iv p1, iv p2, iv p3, iv p4, iv p5, iv n_, iv m_, iv xo, iv yo, iv zo, iv 0, rv ax, rv ay, rv az, iv zo, iv ax_0, iv ax_1, iv ax_2, iv ax_3, iv ay_0, iv ay_1, iv ay_2, iv ay_3, iv p5, iv p5, iv p5, iv p5, iv rr, iv w0_, iv w1_, .unset, .unset, .unset, .unset, .unset, .unset, .unset, .unset, .unset, .unset, .unset, .unset, .unset, .unset] [])) t → Steps p.tables e below O t := by
      by_cases hb_ : n_ < (2 : Int32)
      · have go245 : ∀ t, Steps p.tables e below (T235.setTop (mkF m 310 #[iv p0, iv p1, iv p2, iv p3, iv p4, iv p5, iv n_, iv m_, iv xo, iv yo, iv zo, iv 0, rv ax, rv ay, rv az, iv zo, iv ax_0, iv ax_1, iv ax_2, iv ax_3, iv ay_0, iv ay_1, iv ay_2, iv ay_3, iv p5, iv p5, iv p5, iv p5, iv rr, iv w0_, iv 0, .unset, .unset, .unset, .unset, .unset, .unset, .unset, .unset, .unset, .unset, .unset, .unset, .unset, .unset] [])) t → Steps p.tables e below O t := fun t k => go243 t (by
          refine XS.icmpYes X235.here hx rfl (pc0 := 300) (pc' := 307) rfl (hb hby at_300) rfl (tlt (hb_ : n_ < (2 : Int32))).1 (by decide) (by decide) ?_
          refine XS.iconst X235.here hx rfl (hb hby at_307) ?_
          show Steps _ _ _ (T235.setTop (mkF m 308 _ [(.int 0)])) _
          refine XS.istore X235.here hx rfl (hb hby at_308) rfl (l' := #[iv p0, iv p1, iv p2, iv p3, iv p4, iv p5, iv n_, iv m_, iv xo, iv yo, iv zo, iv 0, rv ax, rv ay, rv az, iv zo, iv ax_0, iv ax_1, iv ax_2, iv ax_3, iv ay_0, iv ay_1, iv ay_2, iv ay_3, iv p5, iv p5, iv p5, iv p5, iv rr, iv w0_, iv 0, .unset, .unset, .unset, .unset, .unset, .unset, .unset, .unset, .unset, .unset, .unset, .unset, .unset, .unset]) rfl ?_
          show Steps _ _ _ (T235.setTop (mkF m 310 _ [])) _
          exact k)
        exact ⟨(0 : Int32), (by unfold own_pick; rw [if_pos hb_]), go245⟩
      · have go246 : ∀ t, Steps p.tables e below (T235.setTop (mkF m 310 #[iv p0, iv p1, iv p2, iv p3, iv p4, iv p5, iv n_, iv m_, iv xo, iv yo, iv zo, iv 0, rv ax, rv ay, rv az, iv zo, iv ax_0, iv ax_1, iv ax_2, iv ax_3, iv ay_0, iv ay_1, iv ay_2, iv ay_3, iv p5, iv p5, iv p5, iv p5, iv rr, iv w0_, iv p1, .unset, .unset, .unset, .unset, .unset, .unset, .unset, .unset, .unset, .unset, .unset, .unset, .unset, .unset] [])) t → Steps p.tables e below O t := fun t k => go243 t (by
          refine XS.icmpNo X235.here hx rfl (hb hby at_300) rfl (flt (hb_ : ¬ (n_ < (2 : Int32)))).1 ?_
          refine XS.iloadN X235.here hx rfl (hb hby at_303) rfl ?_
          show Steps _ _ _ (T235.setTop (mkF m 304 _ [(.int p1)])) _
          refine XS.goto X235.here hx rfl (pc0 := 304) (pc' := 308) rfl (hb hby at_304) (by decide) (by decide) ?_
          refine XS.istore X235.here hx rfl (hb hby at_308) rfl (l' := #[iv p0, iv p1, iv p2, iv p3, iv p4, iv p5, iv n_, iv m_, iv xo, iv yo, iv zo, iv 0, rv ax, rv ay, rv az, iv zo, iv ax_0, iv ax_1, iv ax_2, iv ax_3, iv ay_0, iv ay_1, iv ay_2, iv ay_3, iv p5, iv p5, iv p5, iv p5, iv rr, iv w0_, iv p1, .unset, .unset, .unset, .unset, .unset, .unset, .unset, .unset, .unset, .unset, .unset, .unset, .unset, .unset]) rfl ?_
          show Steps _ _ _ (T235.setTop (mkF m 310 _ [])) _
          exact k)
        exact ⟨p1, (by unfold own_pick; rw [if_neg hb_]), go246⟩
    have go247 : ∀ t, Steps p.tables e below (T235.setTop (mkF m 313 #[iv p0, iv p1, iv p2, iv p3, iv p4, iv p5, iv n_, iv m_, iv xo, iv yo, iv zo, iv 0, rv ax, rv ay, rv az, iv zo, iv ax_0, iv ax_1, iv ax_2, iv ax_3, iv ay_0, iv ay_1, iv ay_2, iv ay_3, iv p5, iv p5, iv p5, iv p5, iv rr, iv w0_, iv w1_, .unset, .unset, .unset, .unset, .unset, .unset, .unset, .unset, .unset, .unset, .unset, .unset, .unset, .unset] [(.int 1), (.int m_)])) t → Steps p.tables e below O t := fun t k => go244 t (by
      refine XS.iload X235.here hx rfl (hb hby at_310) rfl ?_
      refine XS.iconst X235.here hx rfl (hb hby at_312) ?_
      show Steps _ _ _ (T235.setTop (mkF m 313 _ [(.int 1), (.int m_)])) _
      exact k)
    obtain ⟨w2_, hw2, go248⟩ : ∃ w2_ : Int32, (w2_ = (own_pick m_ (1 : Int32) p2)) ∧ ∀ t, Steps p.tables e below (T235.setTop (mkF m 323 #[iv p0, iv p1, iv p2, iv p3, iv p4, iv p5, iv n_, iv m_, iv xo, iv yo, iv zo, iv 0, rv ax, rv ay, rv az, iv zo, iv ax_0, iv ax_1, iv ax_2, iv ax_3, iv ay_0, iv ay_1, iv ay_2, iv ay_3, iv p5, iv p5, iv p5, iv p5, iv rr, iv w0_, iv w1_, iv w2_, .unset, .unset, .unset, .unset, .unset, .unset, .unset, .unset, .unset, .unset, .unset, .unset, .unset] [])) t → Steps p.tables e below O t := by
      by_cases hb_ : m_ < (1 : Int32)
      · have go249 : ∀ t, Steps p.tables e below (T235.setTop (mkF m 323 #[iv p0, iv p1, iv p2, iv p3, iv p4, iv p5, iv n_, iv m_, iv xo, iv yo, iv zo, iv 0, rv ax, rv ay, rv az, iv zo, iv ax_0, iv ax_1, iv ax_2, iv ax_3, iv ay_0, iv ay_1, iv ay_2, iv ay_3, iv p5, iv p5, iv p5, iv p5, iv rr, iv w0_, iv w1_, iv 0, .unset, .unset, .unset, .unset, .unset, .unset, .unset, .unset, .unset, .unset, .unset, .unset, .unset] [])) t → Steps p.tables e below O t := fun t k => go247 t (by
          refine XS.icmpYes X235.here hx rfl (pc0 := 313) (pc' := 320) rfl (hb hby at_313) rfl (tlt (hb_ : m_ < (1 : Int32))).1 (by decide) (by decide) ?_
          refine XS.iconst X235.here hx rfl (hb hby at_320) ?_
          show Steps _ _ _ (T235.setTop (mkF m 321 _ [(.int 0)])) _
          refine XS.istore X235.here hx rfl (hb hby at_321) rfl (l' := #[iv p0, iv p1, iv p2, iv p3, iv p4, iv p5, iv n_, iv m_, iv xo, iv yo, iv zo, iv 0, rv ax, rv ay, rv az, iv zo, iv ax_0, iv ax_1, iv ax_2, iv ax_3, iv ay_0, iv ay_1, iv ay_2, iv ay_3, iv p5, iv p5, iv p5, iv p5, iv rr, iv w0_, iv w1_, iv 0, .unset, .unset, .unset, .unset, .unset, .unset, .unset, .unset, .unset, .unset, .unset, .unset, .unset]) rfl ?_
          show Steps _ _ _ (T235.setTop (mkF m 323 _ [])) _
          exact k)
        exact ⟨(0 : Int32), (by unfold own_pick; rw [if_pos hb_]), go249⟩
      · have go250 : ∀ t, Steps p.tables e below (T235.setTop (mkF m 323 #[iv p0, iv p1, iv p2, iv p3, iv p4, iv p5, iv n_, iv m_, iv xo, iv yo, iv zo, iv 0, rv ax, rv ay, rv az, iv zo, iv ax_0, iv ax_1, iv ax_2, iv ax_3, iv ay_0, iv ay_1, iv ay_2, iv ay_3, iv p5, iv p5, iv p5, iv p5, iv rr, iv w0_, iv w1_, iv p2, .unset, .unset, .unset, .unset, .unset, .unset, .unset, .unset, .unset, .unset, .unset, .unset, .unset] [])) t → Steps p.tables e below O t := fun t k => go247 t (by
          refine XS.icmpNo X235.here hx rfl (hb hby at_313) rfl (flt (hb_ : ¬ (m_ < (1 : Int32)))).1 ?_
          refine XS.iloadN X235.here hx rfl (hb hby at_316) rfl ?_
          show Steps _ _ _ (T235.setTop (mkF m 317 _ [(.int p2)])) _
          refine XS.goto X235.here hx rfl (pc0 := 317) (pc' := 321) rfl (hb hby at_317) (by decide) (by decide) ?_
          refine XS.istore X235.here hx rfl (hb hby at_321) rfl (l' := #[iv p0, iv p1, iv p2, iv p3, iv p4, iv p5, iv n_, iv m_, iv xo, iv yo, iv zo, iv 0, rv ax, rv ay, rv az, iv zo, iv ax_0, iv ax_1, iv ax_2, iv ax_3, iv ay_0, iv ay_1, iv ay_2, iv ay_3, iv p5, iv p5, iv p5, iv p5, iv rr, iv w0_, iv w1_, iv p2, .unset, .unset, .unset, .unset, .unset, .unset, .unset, .unset, .unset, .unset, .unset, .unset, .unset]) rfl ?_
          show Steps _ _ _ (T235.setTop (mkF m 323 _ [])) _
          exact k)
        exact ⟨p2, (by unfold own_pick; rw [if_neg hb_]), go250⟩
    have go251 : ∀ t, Steps p.tables e below (T235.setTop (mkF m 326 #[iv p0, iv p1, iv p2, iv p3, iv p4, iv p5, iv n_, iv m_, iv xo, iv yo, iv zo, iv 0, rv ax, rv ay, rv az, iv zo, iv ax_0, iv ax_1, iv ax_2, iv ax_3, iv ay_0, iv ay_1, iv ay_2, iv ay_3, iv p5, iv p5, iv p5, iv p5, iv rr, iv w0_, iv w1_, iv w2_, .unset, .unset, .unset, .unset, .unset, .unset, .unset, .unset, .unset, .unset, .unset, .unset, .unset] [(.int 2), (.int m_)])) t → Steps p.tables e below O t := fun t k => go248 t (by
      refine XS.iload X235.here hx rfl (hb hby at_323) rfl ?_
      refine XS.iconst X235.here hx rfl (hb hby at_325) ?_
      show Steps _ _ _ (T235.setTop (mkF m 326 _ [(.int 2), (.int m_)])) _
      exact k)
    obtain ⟨w3_, hw3, go252⟩ : ∃ w3_ : Int32, (w3_ = (own_pick m_ (2 : Int32) p3)) ∧ ∀ t, Steps p.tables e below (T235.setTop (mkF m 336 #[iv p0, iv p1, iv p2, iv p3, iv p4, iv p5, iv n_, iv m_, iv xo, iv yo, iv zo, iv 0, rv ax, rv ay, rv az, iv zo, iv ax_0, iv ax_1, iv ax_2, iv ax_3, iv ay_0, iv ay_1, iv ay_2, iv ay_3, iv p5, iv p5, iv p5, iv p5, iv rr, iv w0_, iv w1_, iv w2_, iv w3_, .unset, .unset, .unset, .unset, .unset, .unset, .unset, .unset, .unset, .unset, .unset, .unset] [])) t → Steps p.tables e below O t := by
      by_cases hb_ : m_ < (2 : Int32)
      · have go253 : ∀ t, Steps p.tables e below (T235.setTop (mkF m 336 #[iv p0, iv p1, iv p2, iv p3, iv p4, iv p5, iv n_, iv m_, iv xo, iv yo, iv zo, iv 0, rv ax, rv ay, rv az, iv zo, iv ax_0, iv ax_1, iv ax_2, iv ax_3, iv ay_0, iv ay_1, iv ay_2, iv ay_3, iv p5, iv p5, iv p5, iv p5, iv rr, iv w0_, iv w1_, iv w2_, iv 0, .unset, .unset, .unset, .unset, .unset, .unset, .unset, .unset, .unset, .unset, .unset, .unset] [])) t → Steps p.tables e below O t := fun t k => go251 t (by
          refine XS.icmpYes X235.here hx rfl (pc0 := 326) (pc' := 333) rfl (hb hby at_326) rfl (tlt (hb_ : m_ < (2 : Int32))).1 (by decide) (by decide) ?_
          refine XS.iconst X235.here hx rfl (hb hby at_333) ?_
          show Steps _ _ _ (T235.setTop (mkF m 334 _ [(.int 0)])) _
          refine XS.istore X235.here hx rfl (hb hby at_334) rfl (l' := #[iv p0, iv p1, iv p2, iv p3, iv p4, iv p5, iv n_, iv m_, iv xo, iv yo, iv zo, iv 0, rv ax, rv ay, rv az, iv zo, iv ax_0, iv ax_1, iv ax_2, iv ax_3, iv ay_0, iv ay_1, iv ay_2, iv ay_3, iv p5, iv p5, iv p5, iv p5, iv rr, iv w0_, iv w1_, iv w2_, iv 0, .unset, .unset, .unset, .unset, .unset, .unset, .unset, .unset, .unset, .unset, .unset, .unset]) rfl ?_
          show Steps _ _ _ (T235.setTop (mkF m 336 _ [])) _
          exact k)
        exact ⟨(0 : Int32), (by unfold own_pick; rw [if_pos hb_]), go253⟩
      · have go254 : ∀ t, Steps p.tables e below (T235.setTop (mkF m 336 #[iv p0, iv p1, iv p2, iv p3, iv p4, iv p5, iv n_, iv m_, iv xo, iv yo, iv zo, iv 0, rv ax, rv ay, rv az, iv zo, iv ax_0, iv ax_1, iv ax_2, iv ax_3, iv ay_0, iv ay_1, iv ay_2, iv ay_3, iv p5, iv p5, iv p5, iv p5, iv rr, iv w0_, iv w1_, iv w2_, iv p3, .unset, .unset, .unset, .unset, .unset, .unset, .unset, .unset, .unset, .unset, .unset, .unset] [])) t → Steps p.tables e below O t := fun t k => go251 t (by
          refine XS.icmpNo X235.here hx rfl (hb hby at_326) rfl (flt (hb_ : ¬ (m_ < (2 : Int32)))).1 ?_
          refine XS.iloadN X235.here hx rfl (hb hby at_329) rfl ?_
          show Steps _ _ _ (T235.setTop (mkF m 330 _ [(.int p3)])) _
          refine XS.goto X235.here hx rfl (pc0 := 330) (pc' := 334) rfl (hb hby at_330) (by decide) (by decide) ?_
          refine XS.istore X235.here hx rfl (hb hby at_334) rfl (l' := #[iv p0, iv p1, iv p2, iv p3, iv p4, iv p5, iv n_, iv m_, iv xo, iv yo, iv zo, iv 0, rv ax, rv ay, rv az, iv zo, iv ax_0, iv ax_1, iv ax_2, iv ax_3, iv ay_0, iv ay_1, iv ay_2, iv ay_3, iv p5, iv p5, iv p5, iv p5, iv rr, iv w0_, iv w1_, iv w2_, iv p3, .unset, .unset, .unset, .unset, .unset, .unset, .unset, .unset, .unset, .unset, .unset, .unset]) rfl ?_
          show Steps _ _ _ (T235.setTop (mkF m 336 _ [])) _
          exact k)
        exact ⟨p3, (by unfold own_pick; rw [if_neg hb_]), go254⟩
    have go255 : ∀ t, Steps p.tables e below (T235.setTop (mkF m 352 #[iv p0, iv p1, iv p2, iv p3, iv p4, iv p5, iv n_, iv m_, iv xo, iv yo, iv zo, iv 0, rv ax, rv ay, rv az, iv zo, iv ax_0, iv ax_1, iv ax_2, iv ax_3, iv ay_0, iv ay_1, iv ay_2, iv ay_3, iv p5, iv p5, iv p5, iv p5, iv rr, iv w0_, iv w1_, iv w2_, iv w3_, .val (.long ((w1_.toInt64 <<< ((32 : Int32) &&& 0x3f).toInt64) ||| (w0_.toInt64 &&& (4294967295 : Int64)))), .second, .unset, .unset, .unset, .unset, .unset, .unset, .unset, .unset, .unset, .unset] [])) t → Steps p.tables e below O t := fun t k => go252 t (by
      refine XS.iload X235.here hx rfl (hb hby at_336) rfl ?_
      refine XS.i2l X235.here hx rfl (hb hby at_338) rfl ?_
      show Steps _ _ _ (T235.setTop (mkF m 339 _ [(.long w1_.toInt64)])) _
      refine XS.bipush X235.here hx rfl (hb hby at_339) ?_
      refine XS.lshl X235.here hx rfl (hb hby at_341) rfl ?_
      show Steps _ _ _ (T235.setTop (mkF m 342 _ [(.long (w1_.toInt64 <<< ((32 : Int32) &&& 0x3f).toInt64))])) _
      refine XS.iload X235.here hx rfl (hb hby at_342) rfl ?_
      refine XS.i2l X235.here hx rfl (hb hby at_344) rfl ?_
      show Steps _ _ _ (T235.setTop (mkF m 345 _ [(.long w0_.toInt64), (.long (w1_.toInt64 <<< ((32 : Int32) &&& 0x3f).toInt64))])) _
      refine X235.ldc2Long hx hown (mvT hZ (hw _ (List.mem_of_getElem? (i := 6) rfl))) (g := (mkF m 345 #[iv p0, iv p1, iv p2, iv p3, iv p4, iv p5, iv n_, iv m_, iv xo, iv yo, iv zo, iv 0, rv ax, rv ay, rv az, iv zo, iv ax_0, iv ax_1, iv ax_2, iv ax_3, iv ay_0, iv ay_1, iv ay_2, iv ay_3, iv p5, iv p5, iv p5, iv p5, iv rr, iv w0_, iv w1_, iv w2_, iv w3_, .unset, .unset, .unset, .unset, .unset, .unset, .unset, .unset, .unset, .unset, .unset, .unset] [(.long w0_.toInt64), (.long (w1_.toInt64 <<< ((32 : Int32) &&& 0x3f).toInt64))])) rfl (hb hby at_345) _ ?_
      refine XS.land X235.here hx rfl (hb hby at_348) rfl ?_
      show Steps _ _ _ (T235.setTop (mkF m 349 _ [(.long (w0_.toInt64 &&& (4294967295 : Int64))), (.long (w1_.toInt64 <<< ((32 : Int32) &&& 0x3f).toInt64))])) _
      refine XS.lor X235.here hx rfl (hb hby at_349) rfl ?_
      refine XS.lstore X235.here hx rfl (hb hby at_350) rfl (l' := #[iv p0, iv p1, iv p2, iv p3, iv p4, iv p5, iv n_, iv m_, iv xo, iv yo, iv zo, iv 0, rv ax, rv ay, rv az, iv zo, iv ax_0, iv ax_1, iv ax_2, iv ax_3, iv ay_0, iv ay_1, iv ay_2, iv ay_3, iv p5, iv p5, iv p5, iv p5, iv rr, iv w0_, iv w1_, iv w2_, iv w3_, .val (.long ((w1_.toInt64 <<< ((32 : Int32) &&& 0x3f).toInt64) ||| (w0_.toInt64 &&& (4294967295 : Int64)))), .second, .unset, .unset, .unset, .unset, .unset, .unset, .unset, .unset, .unset, .unset]) rfl ?_
      show Steps _ _ _ (T235.setTop (mkF m 352 _ [])) _
      exact k)
    obtain ⟨bx, hbx⟩ : ∃ z : Int64, z = ((w1_.toInt64 <<< ((32 : Int32) &&& 0x3f).toInt64) ||| (w0_.toInt64 &&& (4294967295 : Int64))) := ⟨_, rfl⟩
    rw [← hbx] at go255
    have go256 : ∀ t, Steps p.tables e below (T235.setTop (mkF m 368 #[iv p0, iv p1, iv p2, iv p3, iv p4, iv p5, iv n_, iv m_, iv xo, iv yo, iv zo, iv 0, rv ax, rv ay, rv az, iv zo, iv ax_0, iv ax_1, iv ax_2, iv ax_3, iv ay_0, iv ay_1, iv ay_2, iv ay_3, iv p5, iv p5, iv p5, iv p5, iv rr, iv w0_, iv w1_, iv w2_, iv w3_, .val (.long bx), .second, .val (.long ((w3_.toInt64 <<< ((32 : Int32) &&& 0x3f).toInt64) ||| (w2_.toInt64 &&& (4294967295 : Int64)))), .second, .unset, .unset, .unset, .unset, .unset, .unset, .unset, .unset] [])) t → Steps p.tables e below O t := fun t k => go255 t (by
      refine XS.iload X235.here hx rfl (hb hby at_352) rfl ?_
      refine XS.i2l X235.here hx rfl (hb hby at_354) rfl ?_
      show Steps _ _ _ (T235.setTop (mkF m 355 _ [(.long w3_.toInt64)])) _
      refine XS.bipush X235.here hx rfl (hb hby at_355) ?_
      refine XS.lshl X235.here hx rfl (hb hby at_357) rfl ?_
      show Steps _ _ _ (T235.setTop (mkF m 358 _ [(.long (w3_.toInt64 <<< ((32 : Int32) &&& 0x3f).toInt64))])) _
      refine XS.iload X235.here hx rfl (hb hby at_358) rfl ?_
      refine XS.i2l X235.here hx rfl (hb hby at_360) rfl ?_
      show Steps _ _ _ (T235.setTop (mkF m 361 _ [(.long w2_.toInt64), (.long (w3_.toInt64 <<< ((32 : Int32) &&& 0x3f).toInt64))])) _
      refine X235.ldc2Long hx hown (mvT hZ (hw _ (List.mem_of_getElem? (i := 6) rfl))) (g := (mkF m 361 #[iv p0, iv p1, iv p2, iv p3, iv p4, iv p5, iv n_, iv m_, iv xo, iv yo, iv zo, iv 0, rv ax, rv ay, rv az, iv zo, iv ax_0, iv ax_1, iv ax_2, iv ax_3, iv ay_0, iv ay_1, iv ay_2, iv ay_3, iv p5, iv p5, iv p5, iv p5, iv rr, iv w0_, iv w1_, iv w2_, iv w3_, .val (.long bx), .second, .unset, .unset, .unset, .unset, .unset, .unset, .unset, .unset, .unset, .unset] [(.long w2_.toInt64), (.long (w3_.toInt64 <<< ((32 : Int32) &&& 0x3f).toInt64))])) rfl (hb hby at_361) _ ?_
      refine XS.land X235.here hx rfl (hb hby at_364) rfl ?_
      show Steps _ _ _ (T235.setTop (mkF m 365 _ [(.long (w2_.toInt64 &&& (4294967295 : Int64))), (.long (w3_.toInt64 <<< ((32 : Int32) &&& 0x3f).toInt64))])) _
      refine XS.lor X235.here hx rfl (hb hby at_365) rfl ?_
      refine XS.lstore X235.here hx rfl (hb hby at_366) rfl (l' := #[iv p0, iv p1, iv p2, iv p3, iv p4, iv p5, iv n_, iv m_, iv xo, iv yo, iv zo, iv 0, rv ax, rv ay, rv az, iv zo, iv ax_0, iv ax_1, iv ax_2, iv ax_3, iv ay_0, iv ay_1, iv ay_2, iv ay_3, iv p5, iv p5, iv p5, iv p5, iv rr, iv w0_, iv w1_, iv w2_, iv w3_, .val (.long bx), .second, .val (.long ((w3_.toInt64 <<< ((32 : Int32) &&& 0x3f).toInt64) ||| (w2_.toInt64 &&& (4294967295 : Int64)))), .second, .unset, .unset, .unset, .unset, .unset, .unset, .unset, .unset]) rfl ?_
      show Steps _ _ _ (T235.setTop (mkF m 368 _ [])) _
      exact k)
    obtain ⟨by_, hby_⟩ : ∃ z : Int64, z = ((w3_.toInt64 <<< ((32 : Int32) &&& 0x3f).toInt64) ||| (w2_.toInt64 &&& (4294967295 : Int64))) := ⟨_, rfl⟩
    rw [← hby_] at go256
    have go257 : ∀ t, Steps p.tables e below (T235.setTop (mkF m 375 #[iv p0, iv p1, iv p2, iv p3, iv p4, iv p5, iv n_, iv m_, iv xo, iv yo, iv zo, iv 0, rv ax, rv ay, rv az, iv zo, iv ax_0, iv ax_1, iv ax_2, iv ax_3, iv ay_0, iv ay_1, iv ay_2, iv ay_3, iv p5, iv p5, iv p5, iv p5, iv rr, iv w0_, iv w1_, iv w2_, iv w3_, .val (.long bx), .second, .val (.long by_), .second, .val (.long (bx + by_)), .second, .unset, .unset, .unset, .unset, .unset, .unset] [])) t → Steps p.tables e below O t := fun t k => go256 t (by
      refine XS.lload X235.here hx rfl (hb hby at_368) rfl ?_
      refine XS.lload X235.here hx rfl (hb hby at_370) rfl ?_
      show Steps _ _ _ (T235.setTop (mkF m 372 _ [(.long by_), (.long bx)])) _
      refine XS.ladd X235.here hx rfl (hb hby at_372) rfl ?_
      refine XS.lstore X235.here hx rfl (hb hby at_373) rfl (l' := #[iv p0, iv p1, iv p2, iv p3, iv p4, iv p5, iv n_, iv m_, iv xo, iv yo, iv zo, iv 0, rv ax, rv ay, rv az, iv zo, iv ax_0, iv ax_1, iv ax_2, iv ax_3, iv ay_0, iv ay_1, iv ay_2, iv ay_3, iv p5, iv p5, iv p5, iv p5, iv rr, iv w0_, iv w1_, iv w2_, iv w3_, .val (.long bx), .second, .val (.long by_), .second, .val (.long (bx + by_)), .second, .unset, .unset, .unset, .unset, .unset, .unset]) rfl ?_
      show Steps _ _ _ (T235.setTop (mkF m 375 _ [])) _
      exact k)
    have hE : (bx + by_) = sm := by rw [hsm, hbx, hby_, hw0, hw1, hw2, hw3]; rfl
    rw [hE] at go257
    have go258 : ∀ t, Steps p.tables e below (T235.setTop (mkF m 398 #[iv p0, iv p1, iv p2, iv p3, iv p4, iv p5, iv n_, iv m_, iv xo, iv yo, iv zo, iv 0, rv ax, rv ay, rv az, iv zo, iv ax_0, iv ax_1, iv ax_2, iv ax_3, iv ay_0, iv ay_1, iv ay_2, iv ay_3, iv p5, iv p5, iv p5, iv p5, iv rr, iv w0_, iv w1_, iv w2_, iv w3_, .val (.long bx), .second, .val (.long by_), .second, .val (.long sm), .second, .val (.long ((((bx &&& by_) ||| ((bx ||| by_) &&& (sm ^^^ (-1 : Int64)))).toUInt64 >>> ((63 : Int32) &&& 0x3f).toInt64.toUInt64).toInt64)), .second, .unset, .unset, .unset, .unset] [])) t → Steps p.tables e below O t := fun t k => go257 t (by
      refine XS.lload X235.here hx rfl (hb hby at_375) rfl ?_
      refine XS.lload X235.here hx rfl (hb hby at_377) rfl ?_
      show Steps _ _ _ (T235.setTop (mkF m 379 _ [(.long by_), (.long bx)])) _
      refine XS.land X235.here hx rfl (hb hby at_379) rfl ?_
      refine XS.lload X235.here hx rfl (hb hby at_380) rfl ?_
      show Steps _ _ _ (T235.setTop (mkF m 382 _ [(.long bx), (.long (bx &&& by_))])) _
      refine XS.lload X235.here hx rfl (hb hby at_382) rfl ?_
      refine XS.lor X235.here hx rfl (hb hby at_384) rfl ?_
      show Steps _ _ _ (T235.setTop (mkF m 385 _ [(.long (bx ||| by_)), (.long (bx &&& by_))])) _
      refine XS.lload X235.here hx rfl (hb hby at_385) rfl ?_
      refine X235.ldc2Long hx hown (mvT hZ (hw _ (List.mem_of_getElem? (i := 7) rfl))) (g := (mkF m 387 #[iv p0, iv p1, iv p2, iv p3, iv p4, iv p5, iv n_, iv m_, iv xo, iv yo, iv zo, iv 0, rv ax, rv ay, rv az, iv zo, iv ax_0, iv ax_1, iv ax_2, iv ax_3, iv ay_0, iv ay_1, iv ay_2, iv ay_3, iv p5, iv p5, iv p5, iv p5, iv rr, iv w0_, iv w1_, iv w2_, iv w3_, .val (.long bx), .second, .val (.long by_), .second, .val (.long sm), .second, .unset, .unset, .unset, .unset, .unset, .unset] [(.long sm), (.long (bx ||| by_)), (.long (bx &&& by_))])) rfl (hb hby at_387) _ ?_
      show Steps _ _ _ (T235.setTop (mkF m 390 _ [(.long (-1 : Int64)), (.long sm), (.long (bx ||| by_)), (.long (bx &&& by_))])) _
      refine XS.lxor X235.here hx rfl (hb hby at_390) rfl ?_
      refine XS.land X235.here hx rfl (hb hby at_391) rfl ?_
      show Steps _ _ _ (T235.setTop (mkF m 392 _ [(.long ((bx ||| by_) &&& (sm ^^^ (-1 : Int64)))), (.long (bx &&& by_))])) _
      refine XS.lor X235.here hx rfl (hb hby at_392) rfl ?_
      refine XS.bipush X235.here hx rfl (hb hby at_393) ?_
      show Steps _ _ _ (T235.setTop (mkF m 395 _ [(.int 63), (.long ((bx &&& by_) ||| ((bx ||| by_) &&& (sm ^^^ (-1 : Int64)))))])) _
      refine XS.lushr X235.here hx rfl (hb hby at_395) rfl ?_
      show Steps _ _ _ (T235.setTop (mkF m 396 #[iv p0, iv p1, iv p2, iv p3, iv p4, iv p5, iv n_, iv m_, iv xo, iv yo, iv zo, iv 0, rv ax, rv ay, rv az, iv zo, iv ax_0, iv ax_1, iv ax_2, iv ax_3, iv ay_0, iv ay_1, iv ay_2, iv ay_3, iv p5, iv p5, iv p5, iv p5, iv rr, iv w0_, iv w1_, iv w2_, iv w3_, .val (.long bx), .second, .val (.long by_), .second, .val (.long sm), .second, .unset, .unset, .unset, .unset, .unset, .unset] [(.long ((((bx &&& by_) ||| ((bx ||| by_) &&& (sm ^^^ (-1 : Int64)))).toUInt64 >>> ((63 : Int32) &&& 0x3f).toInt64.toUInt64).toInt64))])) _
      refine XS.lstore X235.here hx rfl (hb hby at_396) rfl (l' := #[iv p0, iv p1, iv p2, iv p3, iv p4, iv p5, iv n_, iv m_, iv xo, iv yo, iv zo, iv 0, rv ax, rv ay, rv az, iv zo, iv ax_0, iv ax_1, iv ax_2, iv ax_3, iv ay_0, iv ay_1, iv ay_2, iv ay_3, iv p5, iv p5, iv p5, iv p5, iv rr, iv w0_, iv w1_, iv w2_, iv w3_, .val (.long bx), .second, .val (.long by_), .second, .val (.long sm), .second, .val (.long ((((bx &&& by_) ||| ((bx ||| by_) &&& (sm ^^^ (-1 : Int64)))).toUInt64 >>> ((63 : Int32) &&& 0x3f).toInt64.toUInt64).toInt64)), .second, .unset, .unset, .unset, .unset]) rfl ?_
      show Steps _ _ _ (T235.setTop (mkF m 398 _ [])) _
      exact k)
    obtain ⟨cc, hcc⟩ : ∃ z : Int64, z = ((((bx &&& by_) ||| ((bx ||| by_) &&& (sm ^^^ (-1 : Int64)))).toUInt64 >>> ((63 : Int32) &&& 0x3f).toInt64.toUInt64).toInt64) := ⟨_, rfl⟩
    rw [← hcc] at go258
    have go259 : ∀ t, Steps p.tables e below (T235.setTop (mkF m 401 #[iv p0, iv p1, iv p2, iv p3, iv p4, iv p5, iv n_, iv m_, iv xo, iv yo, iv zo, iv 0, rv ax, rv ay, rv az, iv zo, iv ax_0, iv ax_1, iv ax_2, iv ax_3, iv ay_0, iv ay_1, iv ay_2, iv ay_3, iv p5, iv p5, iv p5, iv p5, iv rr, iv w0_, iv w1_, iv w2_, iv w3_, .val (.long bx), .second, .val (.long by_), .second, .val (.long sm), .second, .val (.long cc), .second, .unset, .unset, .unset, .unset] [(.int 2), (.int n_)])) t → Steps p.tables e below O t := fun t k => go258 t (by
      refine XS.iload X235.here hx rfl (hb hby at_398) rfl ?_
      refine XS.iconst X235.here hx rfl (hb hby at_400) ?_
      show Steps _ _ _ (T235.setTop (mkF m 401 _ [(.int 2), (.int n_)])) _
      exact k)
    obtain ⟨ec, hec, go260⟩ : ∃ ec : Int32, (ec = own_carry n_ m_ p0 p1 p2 p3) ∧ ∀ t, Steps p.tables e below (T235.setTop (mkF m 418 #[iv p0, iv p1, iv p2, iv p3, iv p4, iv p5, iv n_, iv m_, iv xo, iv yo, iv zo, iv 0, rv ax, rv ay, rv az, iv zo, iv ax_0, iv ax_1, iv ax_2, iv ax_3, iv ay_0, iv ay_1, iv ay_2, iv ay_3, iv p5, iv p5, iv p5, iv p5, iv rr, iv w0_, iv w1_, iv w2_, iv w3_, .val (.long bx), .second, .val (.long by_), .second, .val (.long sm), .second, .val (.long cc), .second, iv ec, .unset, .unset, .unset] [])) t → Steps p.tables e below O t := by
      by_cases hb_ : n_ = (2 : Int32)
      · have go261 : ∀ t, Steps p.tables e below (T235.setTop (mkF m 418 #[iv p0, iv p1, iv p2, iv p3, iv p4, iv p5, iv n_, iv m_, iv xo, iv yo, iv zo, iv 0, rv ax, rv ay, rv az, iv zo, iv ax_0, iv ax_1, iv ax_2, iv ax_3, iv ay_0, iv ay_1, iv ay_2, iv ay_3, iv p5, iv p5, iv p5, iv p5, iv rr, iv w0_, iv w1_, iv w2_, iv w3_, .val (.long bx), .second, .val (.long by_), .second, .val (.long sm), .second, .val (.long cc), .second, iv cc.toInt32, .unset, .unset, .unset] [])) t → Steps p.tables e below O t := fun t k => go259 t (by
          refine XS.icmpNo X235.here hx rfl (hb hby at_401) rfl (teq (hb_ : n_ = (2 : Int32))).2 ?_
          refine XS.lload X235.here hx rfl (hb hby at_404) rfl ?_
          show Steps _ _ _ (T235.setTop (mkF m 406 _ [(.long cc)])) _
          refine XS.l2i X235.here hx rfl (hb hby at_406) rfl ?_
          refine XS.goto X235.here hx rfl (pc0 := 407) (pc' := 416) rfl (hb hby at_407) (by decide) (by decide) ?_
          show Steps _ _ _ (T235.setTop (mkF m 416 _ [(.int cc.toInt32)])) _
          refine XS.istore X235.here hx rfl (hb hby at_416) rfl (l' := #[iv p0, iv p1, iv p2, iv p3, iv p4, iv p5, iv n_, iv m_, iv xo, iv yo, iv zo, iv 0, rv ax, rv ay, rv az, iv zo, iv ax_0, iv ax_1, iv ax_2, iv ax_3, iv ay_0, iv ay_1, iv ay_2, iv ay_3, iv p5, iv p5, iv p5, iv p5, iv rr, iv w0_, iv w1_, iv w2_, iv w3_, .val (.long bx), .second, .val (.long by_), .second, .val (.long sm), .second, .val (.long cc), .second, iv cc.toInt32, .unset, .unset, .unset]) rfl ?_
          show Steps _ _ _ (T235.setTop (mkF m 418 _ [])) _
          exact k)
        exact ⟨cc.toInt32, (by unfold own_carry; rw [if_pos hb_, ← hsm, hcc, hbx, hby_, hw0, hw1, hw2, hw3]; rfl), go261⟩
      · have go262 : ∀ t, Steps p.tables e below (T235.setTop (mkF m 418 #[iv p0, iv p1, iv p2, iv p3, iv p4, iv p5, iv n_, iv m_, iv xo, iv yo, iv zo, iv 0, rv ax, rv ay, rv az, iv zo, iv ax_0, iv ax_1, iv ax_2, iv ax_3, iv ay_0, iv ay_1, iv ay_2, iv ay_3, iv p5, iv p5, iv p5, iv p5, iv rr, iv w0_, iv w1_, iv w2_, iv w3_, .val (.long bx), .second, .val (.long by_), .second, .val (.long sm), .second, .val (.long cc), .second, iv ((sm.toUInt64 >>> ((32 : Int32) &&& 0x3f).toInt64.toUInt64).toInt64).toInt32, .unset, .unset, .unset] [])) t → Steps p.tables e below O t := fun t k => go259 t (by
          refine XS.icmpYes X235.here hx rfl (pc0 := 401) (pc' := 410) rfl (hb hby at_401) rfl (feq (hb_ : ¬ (n_ = (2 : Int32)))).2 (by decide) (by decide) ?_
          refine XS.lload X235.here hx rfl (hb hby at_410) rfl ?_
          show Steps _ _ _ (T235.setTop (mkF m 412 _ [(.long sm)])) _
          refine XS.bipush X235.here hx rfl (hb hby at_412) ?_
          refine XS.lushr X235.here hx rfl (hb hby at_414) rfl ?_
          show Steps _ _ _ (T235.setTop (mkF m 415 _ [(.long ((sm.toUInt64 >>> ((32 : Int32) &&& 0x3f).toInt64.toUInt64).toInt64))])) _
          refine XS.l2i X235.here hx rfl (hb hby at_415) rfl ?_
          refine XS.istore X235.here hx rfl (hb hby at_416) rfl (l' := #[iv p0, iv p1, iv p2, iv p3, iv p4, iv p5, iv n_, iv m_, iv xo, iv yo, iv zo, iv 0, rv ax, rv ay, rv az, iv zo, iv ax_0, iv ax_1, iv ax_2, iv ax_3, iv ay_0, iv ay_1, iv ay_2, iv ay_3, iv p5, iv p5, iv p5, iv p5, iv rr, iv w0_, iv w1_, iv w2_, iv w3_, .val (.long bx), .second, .val (.long by_), .second, .val (.long sm), .second, .val (.long cc), .second, iv ((sm.toUInt64 >>> ((32 : Int32) &&& 0x3f).toInt64.toUInt64).toInt64).toInt32, .unset, .unset, .unset]) rfl ?_
          show Steps _ _ _ (T235.setTop (mkF m 418 _ [])) _
          exact k)
        exact ⟨((sm.toUInt64 >>> ((32 : Int32) &&& 0x3f).toInt64.toUInt64).toInt64).toInt32, (by unfold own_carry; rw [if_neg hb_, ← hsm]; rfl), go262⟩
    obtain ⟨cl263, Ar263, q263, S263, M263, Hs263, G263⟩ := V1
    have f264 : Arv Z T235.heap az k169 .int (4 : Int32) [(.int (own_exp (0 : Int32) zo n_ sm p5)), (.int (own_exp (1 : Int32) zo n_ sm p5)), (.int (own_exp (2 : Int32) zo n_ sm p5)), (.int (own_exp (3 : Int32) zo n_ sm p5))] (.int 0) := ⟨cl263, Ar263, q263, S263, M263, Hs263, G263⟩
    have hin265 : ¬ ((0 : Int32) < 0 ∨ cl263.slots.size ≤ ((0 : Int32)).toNatClampNeg) := inb_of S263 ⟨by decide, by decide⟩
    have hat265 : cl263.slots[((0 : Int32)).toNatClampNeg]? = some (.int (own_exp (0 : Int32) zo n_ sm p5)) := Hs263.at hin265 rfl
    obtain ⟨_, _, ⟨T266, L266, k266, n266⟩, -, X266, ⟨Lc266, hQ266, l266, y266, z266⟩, st266⟩ := Jvm.LawKit.callS X235 hx (y := (⟨"com/example/limbwise/kernel/WordsAddPinLaw", "expect", "(IIIJI)I"⟩ : MethodName)) hown (mvT hZ (hw _ (List.mem_of_getElem? (i := 8) rfl))) (mvT hZ (hw _ (List.mem_of_getElem? (i := 9) rfl))) (mvT hZ (hw _ (List.mem_of_getElem? (i := 10) rfl))) (mvT hZ (hw _ (List.mem_of_getElem? (i := 11) rfl))) (by decide) (backOf (W := 1) (rm_ex l Z a0 hw [] (0 : Int32) zo n_ sm p5  T235.heap n0 Z238 ) hZ (hw _ (List.mem_of_getElem? (i := 11) rfl)) (hw _ (List.mem_of_getElem? (i := 10) rfl)) (by decide) (by decide)) (g := (mkF m 431 #[iv p0, iv p1, iv p2, iv p3, iv p4, iv p5, iv n_, iv m_, iv xo, iv yo, iv zo, iv 0, rv ax, rv ay, rv az, iv zo, iv ax_0, iv ax_1, iv ax_2, iv ax_3, iv ay_0, iv ay_1, iv ay_2, iv ay_3, iv p5, iv p5, iv p5, iv p5, iv rr, iv w0_, iv w1_, iv w2_, iv w3_, .val (.long bx), .second, .val (.long by_), .second, .val (.long sm), .second, .val (.long cc), .second, iv ec, .unset, .unset, .unset] [(.int p5), (.long sm), (.int n_), (.int zo), (.int 0), (.int (own_exp (0 : Int32) zo n_ sm p5))])) rfl (by rw [hml]; rfl) (argsL := [(.int 0), (.int zo), (.int n_), (.long sm), (.int p5)]) (rest := [(.int (own_exp (0 : Int32) zo n_ sm p5))]) (lenOf pd_1 rfl) rfl (by show 2 * 0 + _ ≤ _; exact Nat.le_of_eq rfl) (hb hby at_431) (fun _ _ => ⟨rfl, rfl, (by decide : 3 + 0 ≤ _), (by decide : 12 + 0 ≤ _)⟩)
    dsimp only [Pt.U, Pt.locs, Pt.cells, Pt.slots] at X266 l266 y266 z266 st266 hQ266
    rw [l266, y266, z266] at X266
    obtain ⟨hv266, N266q, eE0⟩ := hQ266
    rw [hv266] at st266
    have N266 := Fr.app N235 N266q
    obtain ⟨cl267, Ar267, q267, S267, M267, Hs267, G267⟩ := f264
    have f268 : Arv Z T235.heap az k169 .int (4 : Int32) [(.int (own_exp (0 : Int32) zo n_ sm p5)), (.int (own_exp (1 : Int32) zo n_ sm p5)), (.int (own_exp (2 : Int32) zo n_ sm p5)), (.int (own_exp (3 : Int32) zo n_ sm p5))] (.int 0) := ⟨cl267, Ar267, q267, S267, M267, Hs267, G267⟩
    have hin269 : ¬ ((1 : Int32) < 0 ∨ cl267.slots.size ≤ ((1 : Int32)).toNatClampNeg) := inb_of S267 ⟨by decide, by decide⟩
    have hat269 : cl267.slots[((1 : Int32)).toNatClampNeg]? = some (.int (own_exp (1 : Int32) zo n_ sm p5)) := Hs267.at hin269 rfl
    obtain ⟨_, _, ⟨T270, L270, k270, n270⟩, -, X270, ⟨Lc270, hQ270, l270, y270, z270⟩, st270⟩ := Jvm.LawKit.callS X266 hx (y := (⟨"com/example/limbwise/kernel/WordsAddPinLaw", "expect", "(IIIJI)I"⟩ : MethodName)) hown (mvT hZ (hw _ (List.mem_of_getElem? (i := 8) rfl))) (mvT hZ (hw _ (List.mem_of_getElem? (i := 9) rfl))) (mvT hZ (hw _ (List.mem_of_getElem? (i := 10) rfl))) (mvT hZ (hw _ (List.mem_of_getElem? (i := 11) rfl))) (by decide) (backOf (W := 1) (rm_ex l Z a0 hw [] (1 : Int32) zo n_ sm p5  T235.heap n0 Z238 ) hZ (hw _ (List.mem_of_getElem? (i := 11) rfl)) (hw _ (List.mem_of_getElem? (i := 10) rfl)) (by decide) (by decide)) (g := (mkF m 450 #[iv p0, iv p1, iv p2, iv p3, iv p4, iv p5, iv n_, iv m_, iv xo, iv yo, iv zo, iv 0, rv ax, rv ay, rv az, iv zo, iv ax_0, iv ax_1, iv ax_2, iv ax_3, iv ay_0, iv ay_1, iv ay_2, iv ay_3, iv p5, iv p5, iv p5, iv p5, iv rr, iv w0_, iv w1_, iv w2_, iv w3_, .val (.long bx), .second, .val (.long by_), .second, .val (.long sm), .second, .val (.long cc), .second, iv ec, .unset, .unset, .unset] [(.int p5), (.long sm), (.int n_), (.int zo), (.int 1), (.int (own_exp (1 : Int32) zo n_ sm p5))])) rfl (by rw [hml]; rfl) (argsL := [(.int 1), (.int zo), (.int n_), (.long sm), (.int p5)]) (rest := [(.int (own_exp (1 : Int32) zo n_ sm p5))]) (lenOf pd_1 rfl) rfl (by show 2 * 0 + _ ≤ _; exact Nat.le_of_eq rfl) (hb hby at_450) (fun _ _ => ⟨rfl, eE0, (by decide : 3 + 0 ≤ _), (by decide : 12 + 0 ≤ _)⟩)
    dsimp only [Pt.U, Pt.locs, Pt.cells, Pt.slots] at X270 l270 y270 z270 st270 hQ270
    rw [l270, y270, z270] at X270
    obtain ⟨hv270, N270q, eE1⟩ := hQ270
    rw [hv270] at st270
    have N270 := Fr.app N266 N270q
    obtain ⟨cl271, Ar271, q271, S271, M271, Hs271, G271⟩ := f268
    have f272 : Arv Z T235.heap az k169 .int (4 : Int32) [(.int (own_exp (0 : Int32) zo n_ sm p5)), (.int (own_exp (1 : Int32) zo n_ sm p5)), (.int (own_exp (2 : Int32) zo n_ sm p5)), (.int (own_exp (3 : Int32) zo n_ sm p5))] (.int 0) := ⟨cl271, Ar271, q271, S271, M271, Hs271, G271⟩
    have hin273 : ¬ ((2 : Int32) < 0 ∨ cl271.slots.size ≤ ((2 : Int32)).toNatClampNeg) := inb_of S271 ⟨by decide, by decide⟩
    have hat273 : cl271.slots[((2 : Int32)).toNatClampNeg]? = some (.int (own_exp (2 : Int32) zo n_ sm p5)) := Hs271.at hin273 rfl
    obtain ⟨_, _, ⟨T274, L274, k274, n274⟩, -, X274, ⟨Lc274, hQ274, l274, y274, z274⟩, st274⟩ := Jvm.LawKit.callS X270 hx (y := (⟨"com/example/limbwise/kernel/WordsAddPinLaw", "expect", "(IIIJI)I"⟩ : MethodName)) hown (mvT hZ (hw _ (List.mem_of_getElem? (i := 8) rfl))) (mvT hZ (hw _ (List.mem_of_getElem? (i := 9) rfl))) (mvT hZ (hw _ (List.mem_of_getElem? (i := 10) rfl))) (mvT hZ (hw _ (List.mem_of_getElem? (i := 11) rfl))) (by decide) (backOf (W := 1) (rm_ex l Z a0 hw [] (2 : Int32) zo n_ sm p5  T235.heap n0 Z238 ) hZ (hw _ (List.mem_of_getElem? (i := 11) rfl)) (hw _ (List.mem_of_getElem? (i := 10) rfl)) (by decide) (by decide)) (g := (mkF m 469 #[iv p0, iv p1, iv p2, iv p3, iv p4, iv p5, iv n_, iv m_, iv xo, iv yo, iv zo, iv 0, rv ax, rv ay, rv az, iv zo, iv ax_0, iv ax_1, iv ax_2, iv ax_3, iv ay_0, iv ay_1, iv ay_2, iv ay_3, iv p5, iv p5, iv p5, iv p5, iv rr, iv w0_, iv w1_, iv w2_, iv w3_, .val (.long bx), .second, .val (.long by_), .second, .val (.long sm), .second, .val (.long cc), .second, iv ec, .unset, .unset, .unset] [(.int p5), (.long sm), (.int n_), (.int zo), (.int 2), (.int (own_exp (2 : Int32) zo n_ sm p5))])) rfl (by rw [hml]; rfl) (argsL := [(.int 2), (.int zo), (.int n_), (.long sm), (.int p5)]) (rest := [(.int (own_exp (2 : Int32) zo n_ sm p5))]) (lenOf pd_1 rfl) rfl (by show 2 * 0 + _ ≤ _; exact Nat.le_of_eq rfl) (hb hby at_469) (fun _ _ => ⟨rfl, eE1, (by decide : 3 + 0 ≤ _), (by decide : 12 + 0 ≤ _)⟩)
    dsimp only [Pt.U, Pt.locs, Pt.cells, Pt.slots] at X274 l274 y274 z274 st274 hQ274
    rw [l274, y274, z274] at X274
    obtain ⟨hv274, N274q, eE2⟩ := hQ274
    rw [hv274] at st274
    have N274 := Fr.app N270 N274q
    obtain ⟨cl275, Ar275, q275, S275, M275, Hs275, G275⟩ := f272
    have f276 : Arv Z T235.heap az k169 .int (4 : Int32) [(.int (own_exp (0 : Int32) zo n_ sm p5)), (.int (own_exp (1 : Int32) zo n_ sm p5)), (.int (own_exp (2 : Int32) zo n_ sm p5)), (.int (own_exp (3 : Int32) zo n_ sm p5))] (.int 0) := ⟨cl275, Ar275, q275, S275, M275, Hs275, G275⟩
    have hin277 : ¬ ((3 : Int32) < 0 ∨ cl275.slots.size ≤ ((3 : Int32)).toNatClampNeg) := inb_of S275 ⟨by decide, by decide⟩
    have hat277 : cl275.slots[((3 : Int32)).toNatClampNeg]? = some (.int (own_exp (3 : Int32) zo n_ sm p5)) := Hs275.at hin277 rfl
    obtain ⟨_, _, ⟨T278, L278, k278, n278⟩, -, X278, ⟨Lc278, hQ278, l278, y278, z278⟩, st278⟩ := Jvm.LawKit.callS X274 hx (y := (⟨"com/example/limbwise/kernel/WordsAddPinLaw", "expect", "(IIIJI)I"⟩ : MethodName)) hown (mvT hZ (hw _ (List.mem_of_getElem? (i := 8) rfl))) (mvT hZ (hw _ (List.mem_of_getElem? (i := 9) rfl))) (mvT hZ (hw _ (List.mem_of_getElem? (i := 10) rfl))) (mvT hZ (hw _ (List.mem_of_getElem? (i := 11) rfl))) (by decide) (backOf (W := 1) (rm_ex l Z a0 hw [] (3 : Int32) zo n_ sm p5  T235.heap n0 Z238 ) hZ (hw _ (List.mem_of_getElem? (i := 11) rfl)) (hw _ (List.mem_of_getElem? (i := 10) rfl)) (by decide) (by decide)) (g := (mkF m 488 #[iv p0, iv p1, iv p2, iv p3, iv p4, iv p5, iv n_, iv m_, iv xo, iv yo, iv zo, iv 0, rv ax, rv ay, rv az, iv zo, iv ax_0, iv ax_1, iv ax_2, iv ax_3, iv ay_0, iv ay_1, iv ay_2, iv ay_3, iv p5, iv p5, iv p5, iv p5, iv rr, iv w0_, iv w1_, iv w2_, iv w3_, .val (.long bx), .second, .val (.long by_), .second, .val (.long sm), .second, .val (.long cc), .second, iv ec, .unset, .unset, .unset] [(.int p5), (.long sm), (.int n_), (.int zo), (.int 3), (.int (own_exp (3 : Int32) zo n_ sm p5))])) rfl (by rw [hml]; rfl) (argsL := [(.int 3), (.int zo), (.int n_), (.long sm), (.int p5)]) (rest := [(.int (own_exp (3 : Int32) zo n_ sm p5))]) (lenOf pd_1 rfl) rfl (by show 2 * 0 + _ ≤ _; exact Nat.le_of_eq rfl) (hb hby at_488) (fun _ _ => ⟨rfl, eE2, (by decide : 3 + 0 ≤ _), (by decide : 12 + 0 ≤ _)⟩)
    dsimp only [Pt.U, Pt.locs, Pt.cells, Pt.slots] at X278 l278 y278 z278 st278 hQ278
    rw [l278, y278, z278] at X278
    obtain ⟨hv278, N278q, eE3⟩ := hQ278
    rw [hv278] at st278
    have N278 := Fr.app N274 N278q
    obtain ⟨cl279, Ar279, q279, S279, M279, Hs279, G279⟩ := f237
    have f280 : Arv Z T235.heap ay k134 .int (4 : Int32) [(.int ay_0), (.int ay_1), (.int ay_2), (.int ay_3)] (.int 0) := ⟨cl279, Ar279, q279, S279, M279, Hs279, G279⟩
    have hin281 : ¬ ((0 : Int32) < 0 ∨ cl279.slots.size ≤ ((0 : Int32)).toNatClampNeg) := inb_of S279 ⟨by decide, by decide⟩
    have hat281 : cl279.slots[((0 : Int32)).toNatClampNeg]? = some (.int ay_0) := Hs279.at hin281 rfl
    obtain ⟨cl282, Ar282, q282, S282, M282, Hs282, G282⟩ := f280
    have f283 : Arv Z T235.heap ay k134 .int (4 : Int32) [(.int ay_0), (.int ay_1), (.int ay_2), (.int ay_3)] (.int 0) := ⟨cl282, Ar282, q282, S282, M282, Hs282, G282⟩
    have hin284 : ¬ ((1 : Int32) < 0 ∨ cl282.slots.size ≤ ((1 : Int32)).toNatClampNeg) := inb_of S282 ⟨by decide, by decide⟩
    have hat284 : cl282.slots[((1 : Int32)).toNatClampNeg]? = some (.int ay_1) := Hs282.at hin284 rfl
    obtain ⟨cl285, Ar285, q285, S285, M285, Hs285, G285⟩ := f283
    have f286 : Arv Z T235.heap ay k134 .int (4 : Int32) [(.int ay_0), (.int ay_1), (.int ay_2), (.int ay_3)] (.int 0) := ⟨cl285, Ar285, q285, S285, M285, Hs285, G285⟩
    have hin287 : ¬ ((2 : Int32) < 0 ∨ cl285.slots.size ≤ ((2 : Int32)).toNatClampNeg) := inb_of S285 ⟨by decide, by decide⟩
    have hat287 : cl285.slots[((2 : Int32)).toNatClampNeg]? = some (.int ay_2) := Hs285.at hin287 rfl
    obtain ⟨cl288, Ar288, q288, S288, M288, Hs288, G288⟩ := f286
    have f289 : Arv Z T235.heap ay k134 .int (4 : Int32) [(.int ay_0), (.int ay_1), (.int ay_2), (.int ay_3)] (.int 0) := ⟨cl288, Ar288, q288, S288, M288, Hs288, G288⟩
    have hin290 : ¬ ((3 : Int32) < 0 ∨ cl288.slots.size ≤ ((3 : Int32)).toNatClampNeg) := inb_of S288 ⟨by decide, by decide⟩
    have hat290 : cl288.slots[((3 : Int32)).toNatClampNeg]? = some (.int ay_3) := Hs288.at hin290 rfl
    obtain ⟨cl291, Ar291, q291, S291, M291, Hs291, G291⟩ := f236
    have f292 : Arv Z T235.heap ax k107 .int (4 : Int32) [(.int ax_0), (.int ax_1), (.int ax_2), (.int ax_3)] (.int 0) := ⟨cl291, Ar291, q291, S291, M291, Hs291, G291⟩
    have hin293 : ¬ ((0 : Int32) < 0 ∨ cl291.slots.size ≤ ((0 : Int32)).toNatClampNeg) := inb_of S291 ⟨by decide, by decide⟩
    have hat293 : cl291.slots[((0 : Int32)).toNatClampNeg]? = some (.int ax_0) := Hs291.at hin293 rfl
    obtain ⟨cl294, Ar294, q294, S294, M294, Hs294, G294⟩ := f292
    have f295 : Arv Z T235.heap ax k107 .int (4 : Int32) [(.int ax_0), (.int ax_1), (.int ax_2), (.int ax_3)] (.int 0) := ⟨cl294, Ar294, q294, S294, M294, Hs294, G294⟩
    have hin296 : ¬ ((1 : Int32) < 0 ∨ cl294.slots.size ≤ ((1 : Int32)).toNatClampNeg) := inb_of S294 ⟨by decide, by decide⟩
    have hat296 : cl294.slots[((1 : Int32)).toNatClampNeg]? = some (.int ax_1) := Hs294.at hin296 rfl
    obtain ⟨cl297, Ar297, q297, S297, M297, Hs297, G297⟩ := f295
    have f298 : Arv Z T235.heap ax k107 .int (4 : Int32) [(.int ax_0), (.int ax_1), (.int ax_2), (.int ax_3)] (.int 0) := ⟨cl297, Ar297, q297, S297, M297, Hs297, G297⟩
    have hin299 : ¬ ((2 : Int32) < 0 ∨ cl297.slots.size ≤ ((2 : Int32)).toNatClampNeg) := inb_of S297 ⟨by decide, by decide⟩
    have hat299 : cl297.slots[((2 : Int32)).toNatClampNeg]? = some (.int ax_2) := Hs297.at hin299 rfl
    obtain ⟨cl300, Ar300, q300, S300, M300, Hs300, G300⟩ := f298
    have f301 : Arv Z T235.heap ax k107 .int (4 : Int32) [(.int ax_0), (.int ax_1), (.int ax_2), (.int ax_3)] (.int 0) := ⟨cl300, Ar300, q300, S300, M300, Hs300, G300⟩
    have hin302 : ¬ ((3 : Int32) < 0 ∨ cl300.slots.size ≤ ((3 : Int32)).toNatClampNeg) := inb_of S300 ⟨by decide, by decide⟩
    have hat302 : cl300.slots[((3 : Int32)).toNatClampNeg]? = some (.int ax_3) := Hs300.at hin302 rfl
    have go303 : ∀ t, Steps p.tables e below (T278.setTop (mkF m 619 #[iv p0, iv p1, iv p2, iv p3, iv p4, iv p5, iv n_, iv m_, iv xo, iv yo, iv zo, iv 0, rv ax, rv ay, rv az, iv zo, iv ax_0, iv ax_1, iv ax_2, iv ax_3, iv ay_0, iv ay_1, iv ay_2, iv ay_3, iv p5, iv p5, iv p5, iv p5, iv rr, iv w0_, iv w1_, iv w2_, iv w3_, .val (.long bx), .second, .val (.long by_), .second, .val (.long sm), .second, .val (.long cc), .second, iv ec, iv 1, iv 1, iv 1] [(.int 1)])) t → Steps p.tables e below O t := fun t k => go260 t (by
      refine XS.aload X235.here hx rfl (hb hby at_418) rfl rfl ?_
      refine XS.iconst X235.here hx rfl (hb hby at_420) ?_
      show Steps _ _ _ (T235.setTop (mkF m 421 _ [(.int 0), (.ref az)])) _
      refine X235.iaload hx (j := (0 : Int32)) (v := (.int (own_exp (0 : Int32) zo n_ sm p5))) Ar263.1 (State.isArrayOf_alike hZ.alike Ar263.2.1) Ar263.2.2 hin265 hat265 (g := (mkF m 421 #[iv p0, iv p1, iv p2, iv p3, iv p4, iv p5, iv n_, iv m_, iv xo, iv yo, iv zo, iv 0, rv ax, rv ay, rv az, iv zo, iv ax_0, iv ax_1, iv ax_2, iv ax_3, iv ay_0, iv ay_1, iv ay_2, iv ay_3, iv p5, iv p5, iv p5, iv p5, iv rr, iv w0_, iv w1_, iv w2_, iv w3_, .val (.long bx), .second, .val (.long by_), .second, .val (.long sm), .second, .val (.long cc), .second, iv ec, .unset, .unset, .unset] [(.int 0), (.ref az)])) rfl rfl (hb hby at_421) _ ?_
      refine XS.iconst X235.here hx rfl (hb hby at_422) ?_
      show Steps _ _ _ (T235.setTop (mkF m 423 _ [(.int 0), (.int (own_exp (0 : Int32) zo n_ sm p5))])) _
      refine XS.iload X235.here hx rfl (hb hby at_423) rfl ?_
      refine XS.iload X235.here hx rfl (hb hby at_425) rfl ?_
      show Steps _ _ _ (T235.setTop (mkF m 427 _ [(.int n_), (.int zo), (.int 0), (.int (own_exp (0 : Int32) zo n_ sm p5))])) _
      refine XS.lload X235.here hx rfl (hb hby at_427) rfl ?_
      refine XS.iload X235.here hx rfl (hb hby at_429) rfl ?_
      show Steps _ _ _ (T235.setTop (mkF m 431 _ [(.int p5), (.long sm), (.int n_), (.int zo), (.int 0), (.int (own_exp (0 : Int32) zo n_ sm p5))])) _
      refine st266 _ ?_
      show Steps _ _ _ (T266.setTop (mkF m 434 _ [(.int (own_exp (0 : Int32) zo n_ sm p5)), (.int (own_exp (0 : Int32) zo n_ sm p5))])) _
      refine XS.icmpNo X266.here hx rfl (hb hby at_434) rfl (teq (rfl : (own_exp (0 : Int32) zo n_ sm p5) = (own_exp (0 : Int32) zo n_ sm p5))).2 ?_
      refine XS.aload X266.here hx rfl (hb hby at_437) rfl rfl ?_
      show Steps _ _ _ (T266.setTop (mkF m 439 _ [(.ref az)])) _
      refine XS.iconst X266.here hx rfl (hb hby at_439) ?_
      refine X266.iaload hx (j := (1 : Int32)) (v := (.int (own_exp (1 : Int32) zo n_ sm p5))) (by rw [eE0]; exact Ar267.1) (State.isArrayOf_alike hZ.alike Ar267.2.1) Ar267.2.2 hin269 hat269 (g := (mkF m 440 #[iv p0, iv p1, iv p2, iv p3, iv p4, iv p5, iv n_, iv m_, iv xo, iv yo, iv zo, iv 0, rv ax, rv ay, rv az, iv zo, iv ax_0, iv ax_1, iv ax_2, iv ax_3, iv ay_0, iv ay_1, iv ay_2, iv ay_3, iv p5, iv p5, iv p5, iv p5, iv rr, iv w0_, iv w1_, iv w2_, iv w3_, .val (.long bx), .second, .val (.long by_), .second, .val (.long sm), .second, .val (.long cc), .second, iv ec, .unset, .unset, .unset] [(.int 1), (.ref az)])) rfl rfl (hb hby at_440) _ ?_
      show Steps _ _ _ (T266.setTop (mkF m 441 _ [(.int (own_exp (1 : Int32) zo n_ sm p5))])) _
      refine XS.iconst X266.here hx rfl (hb hby at_441) ?_
      refine XS.iload X266.here hx rfl (hb hby at_442) rfl ?_
      show Steps _ _ _ (T266.setTop (mkF m 444 _ [(.int zo), (.int 1), (.int (own_exp (1 : Int32) zo n_ sm p5))])) _
      refine XS.iload X266.here hx rfl (hb hby at_444) rfl ?_
      refine XS.lload X266.here hx rfl (hb hby at_446) rfl ?_
      show Steps _ _ _ (T266.setTop (mkF m 448 _ [(.long sm), (.int n_), (.int zo), (.int 1), (.int (own_exp (1 : Int32) zo n_ sm p5))])) _
      refine XS.iload X266.here hx rfl (hb hby at_448) rfl ?_
      refine st270 _ ?_
      show Steps _ _ _ (T270.setTop (mkF m 453 _ [(.int (own_exp (1 : Int32) zo n_ sm p5)), (.int (own_exp (1 : Int32) zo n_ sm p5))])) _
      refine XS.icmpNo X270.here hx rfl (hb hby at_453) rfl (teq (rfl : (own_exp (1 : Int32) zo n_ sm p5) = (own_exp (1 : Int32) zo n_ sm p5))).2 ?_
      refine XS.aload X270.here hx rfl (hb hby at_456) rfl rfl ?_
      show Steps _ _ _ (T270.setTop (mkF m 458 _ [(.ref az)])) _
      refine XS.iconst X270.here hx rfl (hb hby at_458) ?_
      refine X270.iaload hx (j := (2 : Int32)) (v := (.int (own_exp (2 : Int32) zo n_ sm p5))) (by rw [eE1]; exact Ar271.1) (State.isArrayOf_alike hZ.alike Ar271.2.1) Ar271.2.2 hin273 hat273 (g := (mkF m 459 #[iv p0, iv p1, iv p2, iv p3, iv p4, iv p5, iv n_, iv m_, iv xo, iv yo, iv zo, iv 0, rv ax, rv ay, rv az, iv zo, iv ax_0, iv ax_1, iv ax_2, iv ax_3, iv ay_0, iv ay_1, iv ay_2, iv ay_3, iv p5, iv p5, iv p5, iv p5, iv rr, iv w0_, iv w1_, iv w2_, iv w3_, .val (.long bx), .second, .val (.long by_), .second, .val (.long sm), .second, .val (.long cc), .second, iv ec, .unset, .unset, .unset] [(.int 2), (.ref az)])) rfl rfl (hb hby at_459) _ ?_
      show Steps _ _ _ (T270.setTop (mkF m 460 _ [(.int (own_exp (2 : Int32) zo n_ sm p5))])) _
      refine XS.iconst X270.here hx rfl (hb hby at_460) ?_
      refine XS.iload X270.here hx rfl (hb hby at_461) rfl ?_
      show Steps _ _ _ (T270.setTop (mkF m 463 _ [(.int zo), (.int 2), (.int (own_exp (2 : Int32) zo n_ sm p5))])) _
      refine XS.iload X270.here hx rfl (hb hby at_463) rfl ?_
      refine XS.lload X270.here hx rfl (hb hby at_465) rfl ?_
      show Steps _ _ _ (T270.setTop (mkF m 467 _ [(.long sm), (.int n_), (.int zo), (.int 2), (.int (own_exp (2 : Int32) zo n_ sm p5))])) _
      refine XS.iload X270.here hx rfl (hb hby at_467) rfl ?_
      refine st274 _ ?_
      show Steps _ _ _ (T274.setTop (mkF m 472 _ [(.int (own_exp (2 : Int32) zo n_ sm p5)), (.int (own_exp (2 : Int32) zo n_ sm p5))])) _
      refine XS.icmpNo X274.here hx rfl (hb hby at_472) rfl (teq (rfl : (own_exp (2 : Int32) zo n_ sm p5) = (own_exp (2 : Int32) zo n_ sm p5))).2 ?_
      refine XS.aload X274.here hx rfl (hb hby at_475) rfl rfl ?_
      show Steps _ _ _ (T274.setTop (mkF m 477 _ [(.ref az)])) _
      refine XS.iconst X274.here hx rfl (hb hby at_477) ?_
      refine X274.iaload hx (j := (3 : Int32)) (v := (.int (own_exp (3 : Int32) zo n_ sm p5))) (by rw [eE2]; exact Ar275.1) (State.isArrayOf_alike hZ.alike Ar275.2.1) Ar275.2.2 hin277 hat277 (g := (mkF m 478 #[iv p0, iv p1, iv p2, iv p3, iv p4, iv p5, iv n_, iv m_, iv xo, iv yo, iv zo, iv 0, rv ax, rv ay, rv az, iv zo, iv ax_0, iv ax_1, iv ax_2, iv ax_3, iv ay_0, iv ay_1, iv ay_2, iv ay_3, iv p5, iv p5, iv p5, iv p5, iv rr, iv w0_, iv w1_, iv w2_, iv w3_, .val (.long bx), .second, .val (.long by_), .second, .val (.long sm), .second, .val (.long cc), .second, iv ec, .unset, .unset, .unset] [(.int 3), (.ref az)])) rfl rfl (hb hby at_478) _ ?_
      show Steps _ _ _ (T274.setTop (mkF m 479 _ [(.int (own_exp (3 : Int32) zo n_ sm p5))])) _
      refine XS.iconst X274.here hx rfl (hb hby at_479) ?_
      refine XS.iload X274.here hx rfl (hb hby at_480) rfl ?_
      show Steps _ _ _ (T274.setTop (mkF m 482 _ [(.int zo), (.int 3), (.int (own_exp (3 : Int32) zo n_ sm p5))])) _
      refine XS.iload X274.here hx rfl (hb hby at_482) rfl ?_
      refine XS.lload X274.here hx rfl (hb hby at_484) rfl ?_
      show Steps _ _ _ (T274.setTop (mkF m 486 _ [(.long sm), (.int n_), (.int zo), (.int 3), (.int (own_exp (3 : Int32) zo n_ sm p5))])) _
      refine XS.iload X274.here hx rfl (hb hby at_486) rfl ?_
      refine st278 _ ?_
      show Steps _ _ _ (T278.setTop (mkF m 491 _ [(.int (own_exp (3 : Int32) zo n_ sm p5)), (.int (own_exp (3 : Int32) zo n_ sm p5))])) _
      refine XS.icmpNo X278.here hx rfl (hb hby at_491) rfl (teq (rfl : (own_exp (3 : Int32) zo n_ sm p5) = (own_exp (3 : Int32) zo n_ sm p5))).2 ?_
      refine XS.iconst X278.here hx rfl (hb hby at_494) ?_
      show Steps _ _ _ (T278.setTop (mkF m 495 _ [(.int 1)])) _
      refine XS.goto X278.here hx rfl (pc0 := 495) (pc' := 499) rfl (hb hby at_495) (by decide) (by decide) ?_
      refine XS.istore X278.here hx rfl (hb hby at_499) rfl (l' := #[iv p0, iv p1, iv p2, iv p3, iv p4, iv p5, iv n_, iv m_, iv xo, iv yo, iv zo, iv 0, rv ax, rv ay, rv az, iv zo, iv ax_0, iv ax_1, iv ax_2, iv ax_3, iv ay_0, iv ay_1, iv ay_2, iv ay_3, iv p5, iv p5, iv p5, iv p5, iv rr, iv w0_, iv w1_, iv w2_, iv w3_, .val (.long bx), .second, .val (.long by_), .second, .val (.long sm), .second, .val (.long cc), .second, iv ec, iv 1, .unset, .unset]) rfl ?_
      show Steps _ _ _ (T278.setTop (mkF m 501 _ [])) _
      refine XS.aload X278.here hx rfl (hb hby at_501) rfl rfl ?_
      refine XS.iconst X278.here hx rfl (hb hby at_503) ?_
      show Steps _ _ _ (T278.setTop (mkF m 504 _ [(.int 0), (.ref ay)])) _
      refine X278.iaload hx (j := (0 : Int32)) (v := (.int ay_0)) (by rw [eE3]; exact Ar279.1) (State.isArrayOf_alike hZ.alike Ar279.2.1) Ar279.2.2 hin281 hat281 (g := (mkF m 504 #[iv p0, iv p1, iv p2, iv p3, iv p4, iv p5, iv n_, iv m_, iv xo, iv yo, iv zo, iv 0, rv ax, rv ay, rv az, iv zo, iv ax_0, iv ax_1, iv ax_2, iv ax_3, iv ay_0, iv ay_1, iv ay_2, iv ay_3, iv p5, iv p5, iv p5, iv p5, iv rr, iv w0_, iv w1_, iv w2_, iv w3_, .val (.long bx), .second, .val (.long by_), .second, .val (.long sm), .second, .val (.long cc), .second, iv ec, iv 1, .unset, .unset] [(.int 0), (.ref ay)])) rfl rfl (hb hby at_504) _ ?_
      refine XS.iload X278.here hx rfl (hb hby at_505) rfl ?_
      show Steps _ _ _ (T278.setTop (mkF m 507 _ [(.int ay_0), (.int ay_0)])) _
      refine XS.icmpNo X278.here hx rfl (hb hby at_507) rfl (teq (rfl : ay_0 = ay_0)).2 ?_
      refine XS.aload X278.here hx rfl (hb hby at_510) rfl rfl ?_
      show Steps _ _ _ (T278.setTop (mkF m 512 _ [(.ref ay)])) _
      refine XS.iconst X278.here hx rfl (hb hby at_512) ?_
      refine X278.iaload hx (j := (1 : Int32)) (v := (.int ay_1)) (by rw [eE3]; exact Ar282.1) (State.isArrayOf_alike hZ.alike Ar282.2.1) Ar282.2.2 hin284 hat284 (g := (mkF m 513 #[iv p0, iv p1, iv p2, iv p3, iv p4, iv p5, iv n_, iv m_, iv xo, iv yo, iv zo, iv 0, rv ax, rv ay, rv az, iv zo, iv ax_0, iv ax_1, iv ax_2, iv ax_3, iv ay_0, iv ay_1, iv ay_2, iv ay_3, iv p5, iv p5, iv p5, iv p5, iv rr, iv w0_, iv w1_, iv w2_, iv w3_, .val (.long bx), .second, .val (.long by_), .second, .val (.long sm), .second, .val (.long cc), .second, iv ec, iv 1, .unset, .unset] [(.int 1), (.ref ay)])) rfl rfl (hb hby at_513) _ ?_
      show Steps _ _ _ (T278.setTop (mkF m 514 _ [(.int ay_1)])) _
      refine XS.iload X278.here hx rfl (hb hby at_514) rfl ?_
      refine XS.icmpNo X278.here hx rfl (hb hby at_516) rfl (teq (rfl : ay_1 = ay_1)).2 ?_
      show Steps _ _ _ (T278.setTop (mkF m 519 _ [])) _
      refine XS.aload X278.here hx rfl (hb hby at_519) rfl rfl ?_
      refine XS.iconst X278.here hx rfl (hb hby at_521) ?_
      show Steps _ _ _ (T278.setTop (mkF m 522 _ [(.int 2), (.ref ay)])) _
      refine X278.iaload hx (j := (2 : Int32)) (v := (.int ay_2)) (by rw [eE3]; exact Ar285.1) (State.isArrayOf_alike hZ.alike Ar285.2.1) Ar285.2.2 hin287 hat287 (g := (mkF m 522 #[iv p0, iv p1, iv p2, iv p3, iv p4, iv p5, iv n_, iv m_, iv xo, iv yo, iv zo, iv 0, rv ax, rv ay, rv az, iv zo, iv ax_0, iv ax_1, iv ax_2, iv ax_3, iv ay_0, iv ay_1, iv ay_2, iv ay_3, iv p5, iv p5, iv p5, iv p5, iv rr, iv w0_, iv w1_, iv w2_, iv w3_, .val (.long bx), .second, .val (.long by_), .second, .val (.long sm), .second, .val (.long cc), .second, iv ec, iv 1, .unset, .unset] [(.int 2), (.ref ay)])) rfl rfl (hb hby at_522) _ ?_
      show Steps _ _ _ (T278.setTop (mkF m 523 #[iv p0, iv p1, iv p2, iv p3, iv p4, iv p5, iv n_, iv m_, iv xo, iv yo, iv zo, iv 0, rv ax, rv ay, rv az, iv zo, iv ax_0, iv ax_1, iv ax_2, iv ax_3, iv ay_0, iv ay_1, iv ay_2, iv ay_3, iv p5, iv p5, iv p5, iv p5, iv rr, iv w0_, iv w1_, iv w2_, iv w3_, .val (.long bx), .second, .val (.long by_), .second, .val (.long sm), .second, .val (.long cc), .second, iv ec, iv 1, .unset, .unset] [(.int ay_2)])) _
      refine XS.iload X278.here hx rfl (hb hby at_523) rfl ?_
      refine XS.icmpNo X278.here hx rfl (hb hby at_525) rfl (teq (rfl : ay_2 = ay_2)).2 ?_
      show Steps _ _ _ (T278.setTop (mkF m 528 _ [])) _
      refine XS.aload X278.here hx rfl (hb hby at_528) rfl rfl ?_
      refine XS.iconst X278.here hx rfl (hb hby at_530) ?_
      show Steps _ _ _ (T278.setTop (mkF m 531 _ [(.int 3), (.ref ay)])) _
      refine X278.iaload hx (j := (3 : Int32)) (v := (.int ay_3)) (by rw [eE3]; exact Ar288.1) (State.isArrayOf_alike hZ.alike Ar288.2.1) Ar288.2.2 hin290 hat290 (g := (mkF m 531 #[iv p0, iv p1, iv p2, iv p3, iv p4, iv p5, iv n_, iv m_, iv xo, iv yo, iv zo, iv 0, rv ax, rv ay, rv az, iv zo, iv ax_0, iv ax_1, iv ax_2, iv ax_3, iv ay_0, iv ay_1, iv ay_2, iv ay_3, iv p5, iv p5, iv p5, iv p5, iv rr, iv w0_, iv w1_, iv w2_, iv w3_, .val (.long bx), .second, .val (.long by_), .second, .val (.long sm), .second, .val (.long cc), .second, iv ec, iv 1, .unset, .unset] [(.int 3), (.ref ay)])) rfl rfl (hb hby at_531) _ ?_
      refine XS.iload X278.here hx rfl (hb hby at_532) rfl ?_
      show Steps _ _ _ (T278.setTop (mkF m 534 _ [(.int ay_3), (.int ay_3)])) _
      refine XS.icmpNo X278.here hx rfl (hb hby at_534) rfl (teq (rfl : ay_3 = ay_3)).2 ?_
      refine XS.iconst X278.here hx rfl (hb hby at_537) ?_
      show Steps _ _ _ (T278.setTop (mkF m 538 _ [(.int 1)])) _
      refine XS.goto X278.here hx rfl (pc0 := 538) (pc' := 542) rfl (hb hby at_538) (by decide) (by decide) ?_
      refine XS.istore X278.here hx rfl (hb hby at_542) rfl (l' := #[iv p0, iv p1, iv p2, iv p3, iv p4, iv p5, iv n_, iv m_, iv xo, iv yo, iv zo, iv 0, rv ax, rv ay, rv az, iv zo, iv ax_0, iv ax_1, iv ax_2, iv ax_3, iv ay_0, iv ay_1, iv ay_2, iv ay_3, iv p5, iv p5, iv p5, iv p5, iv rr, iv w0_, iv w1_, iv w2_, iv w3_, .val (.long bx), .second, .val (.long by_), .second, .val (.long sm), .second, .val (.long cc), .second, iv ec, iv 1, iv 1, .unset]) rfl ?_
      show Steps _ _ _ (T278.setTop (mkF m 544 _ [])) _
      refine XS.iload X278.here hx rfl (hb hby at_544) rfl ?_
      refine XS.ifNo X278.here hx rfl (hb hby at_546) rfl ((if0 _ _).trans (teq (by decide : (0 : Int32) = (0 : Int32))).2) ?_
      show Steps _ _ _ (T278.setTop (mkF m 549 _ [])) _
      refine XS.aload X278.here hx rfl (hb hby at_549) rfl rfl ?_
      refine XS.iconst X278.here hx rfl (hb hby at_551) ?_
      show Steps _ _ _ (T278.setTop (mkF m 552 _ [(.int 0), (.ref ax)])) _
      refine X278.iaload hx (j := (0 : Int32)) (v := (.int ax_0)) (by rw [eE3]; exact Ar291.1) (State.isArrayOf_alike hZ.alike Ar291.2.1) Ar291.2.2 hin293 hat293 (g := (mkF m 552 #[iv p0, iv p1, iv p2, iv p3, iv p4, iv p5, iv n_, iv m_, iv xo, iv yo, iv zo, iv 0, rv ax, rv ay, rv az, iv zo, iv ax_0, iv ax_1, iv ax_2, iv ax_3, iv ay_0, iv ay_1, iv ay_2, iv ay_3, iv p5, iv p5, iv p5, iv p5, iv rr, iv w0_, iv w1_, iv w2_, iv w3_, .val (.long bx), .second, .val (.long by_), .second, .val (.long sm), .second, .val (.long cc), .second, iv ec, iv 1, iv 1, .unset] [(.int 0), (.ref ax)])) rfl rfl (hb hby at_552) _ ?_
      refine XS.iload X278.here hx rfl (hb hby at_553) rfl ?_
      show Steps _ _ _ (T278.setTop (mkF m 555 _ [(.int ax_0), (.int ax_0)])) _
      refine XS.icmpNo X278.here hx rfl (hb hby at_555) rfl (teq (rfl : ax_0 = ax_0)).2 ?_
      refine XS.aload X278.here hx rfl (hb hby at_558) rfl rfl ?_
      show Steps _ _ _ (T278.setTop (mkF m 560 _ [(.ref ax)])) _
      refine XS.iconst X278.here hx rfl (hb hby at_560) ?_
      refine X278.iaload hx (j := (1 : Int32)) (v := (.int ax_1)) (by rw [eE3]; exact Ar294.1) (State.isArrayOf_alike hZ.alike Ar294.2.1) Ar294.2.2 hin296 hat296 (g := (mkF m 561 #[iv p0, iv p1, iv p2, iv p3, iv p4, iv p5, iv n_, iv m_, iv xo, iv yo, iv zo, iv 0, rv ax, rv ay, rv az, iv zo, iv ax_0, iv ax_1, iv ax_2, iv ax_3, iv ay_0, iv ay_1, iv ay_2, iv ay_3, iv p5, iv p5, iv p5, iv p5, iv rr, iv w0_, iv w1_, iv w2_, iv w3_, .val (.long bx), .second, .val (.long by_), .second, .val (.long sm), .second, .val (.long cc), .second, iv ec, iv 1, iv 1, .unset] [(.int 1), (.ref ax)])) rfl rfl (hb hby at_561) _ ?_
      show Steps _ _ _ (T278.setTop (mkF m 562 _ [(.int ax_1)])) _
      refine XS.iload X278.here hx rfl (hb hby at_562) rfl ?_
      refine XS.icmpNo X278.here hx rfl (hb hby at_564) rfl (teq (rfl : ax_1 = ax_1)).2 ?_
      show Steps _ _ _ (T278.setTop (mkF m 567 _ [])) _
      refine XS.aload X278.here hx rfl (hb hby at_567) rfl rfl ?_
      show Steps _ _ _ (T278.setTop (mkF m 569 #[iv p0, iv p1, iv p2, iv p3, iv p4, iv p5, iv n_, iv m_, iv xo, iv yo, iv zo, iv 0, rv ax, rv ay, rv az, iv zo, iv ax_0, iv ax_1, iv ax_2, iv ax_3, iv ay_0, iv ay_1, iv ay_2, iv ay_3, iv p5, iv p5, iv p5, iv p5, iv rr, iv w0_, iv w1_, iv w2_, iv w3_, .val (.long bx), .second, .val (.long by_), .second, .val (.long sm), .second, .val (.long cc), .second, iv ec, iv 1, iv 1, .unset] [(.ref ax)])) _
      refine XS.iconst X278.here hx rfl (hb hby at_569) ?_
      refine X278.iaload hx (j := (2 : Int32)) (v := (.int ax_2)) (by rw [eE3]; exact Ar297.1) (State.isArrayOf_alike hZ.alike Ar297.2.1) Ar297.2.2 hin299 hat299 (g := (mkF m 570 #[iv p0, iv p1, iv p2, iv p3, iv p4, iv p5, iv n_, iv m_, iv xo, iv yo, iv zo, iv 0, rv ax, rv ay, rv az, iv zo, iv ax_0, iv ax_1, iv ax_2, iv ax_3, iv ay_0, iv ay_1, iv ay_2, iv ay_3, iv p5, iv p5, iv p5, iv p5, iv rr, iv w0_, iv w1_, iv w2_, iv w3_, .val (.long bx), .second, .val (.long by_), .second, .val (.long sm), .second, .val (.long cc), .second, iv ec, iv 1, iv 1, .unset] [(.int 2), (.ref ax)])) rfl rfl (hb hby at_570) _ ?_
      show Steps _ _ _ (T278.setTop (mkF m 571 _ [(.int ax_2)])) _
      refine XS.iload X278.here hx rfl (hb hby at_571) rfl ?_
      refine XS.icmpNo X278.here hx rfl (hb hby at_573) rfl (teq (rfl : ax_2 = ax_2)).2 ?_
      show Steps _ _ _ (T278.setTop (mkF m 576 _ [])) _
      refine XS.aload X278.here hx rfl (hb hby at_576) rfl rfl ?_
      refine XS.iconst X278.here hx rfl (hb hby at_578) ?_
      show Steps _ _ _ (T278.setTop (mkF m 579 _ [(.int 3), (.ref ax)])) _
      refine X278.iaload hx (j := (3 : Int32)) (v := (.int ax_3)) (by rw [eE3]; exact Ar300.1) (State.isArrayOf_alike hZ.alike Ar300.2.1) Ar300.2.2 hin302 hat302 (g := (mkF m 579 #[iv p0, iv p1, iv p2, iv p3, iv p4, iv p5, iv n_, iv m_, iv xo, iv yo, iv zo, iv 0, rv ax, rv ay, rv az, iv zo, iv ax_0, iv ax_1, iv ax_2, iv ax_3, iv ay_0, iv ay_1, iv ay_2, iv ay_3, iv p5, iv p5, iv p5, iv p5, iv rr, iv w0_, iv w1_, iv w2_, iv w3_, .val (.long bx), .second, .val (.long by_), .second, .val (.long sm), .second, .val (.long cc), .second, iv ec, iv 1, iv 1, .unset] [(.int 3), (.ref ax)])) rfl rfl (hb hby at_579) _ ?_
      refine XS.iload X278.here hx rfl (hb hby at_580) rfl ?_
      show Steps _ _ _ (T278.setTop (mkF m 582 _ [(.int ax_3), (.int ax_3)])) _
      refine XS.icmpNo X278.here hx rfl (hb hby at_582) rfl (teq (rfl : ax_3 = ax_3)).2 ?_
      refine XS.iconst X278.here hx rfl (hb hby at_585) ?_
      show Steps _ _ _ (T278.setTop (mkF m 586 _ [(.int 1)])) _
      refine XS.goto X278.here hx rfl (pc0 := 586) (pc' := 590) rfl (hb hby at_586) (by decide) (by decide) ?_
      refine XS.istore X278.here hx rfl (hb hby at_590) rfl (l' := #[iv p0, iv p1, iv p2, iv p3, iv p4, iv p5, iv n_, iv m_, iv xo, iv yo, iv zo, iv 0, rv ax, rv ay, rv az, iv zo, iv ax_0, iv ax_1, iv ax_2, iv ax_3, iv ay_0, iv ay_1, iv ay_2, iv ay_3, iv p5, iv p5, iv p5, iv p5, iv rr, iv w0_, iv w1_, iv w2_, iv w3_, .val (.long bx), .second, .val (.long by_), .second, .val (.long sm), .second, .val (.long cc), .second, iv ec, iv 1, iv 1, iv 1]) rfl ?_
      show Steps _ _ _ (T278.setTop (mkF m 592 _ [])) _
      refine XS.iload X278.here hx rfl (hb hby at_592) rfl ?_
      refine XS.iload X278.here hx rfl (hb hby at_594) rfl ?_
      show Steps _ _ _ (T278.setTop (mkF m 596 _ [(.int ec), (.int rr)])) _
      refine XS.icmpNo X278.here hx rfl (hb hby at_596) rfl (teq (hpo1.trans hec.symm : rr = ec)).2 ?_
      refine XS.iload X278.here hx rfl (hb hby at_599) rfl ?_
      show Steps _ _ _ (T278.setTop (mkF m 601 _ [(.int 1)])) _
      refine XS.ifNo X278.here hx rfl (hb hby at_601) rfl ((if0 _ _).trans (feq (by decide : ¬ ((1 : Int32) = (0 : Int32)))).1) ?_
      refine XS.iload X278.here hx rfl (hb hby at_604) rfl ?_
      show Steps _ _ _ (T278.setTop (mkF m 606 _ [(.int 1)])) _
      refine XS.ifNo X278.here hx rfl (hb hby at_606) rfl ((if0 _ _).trans (feq (by decide : ¬ ((1 : Int32) = (0 : Int32)))).1) ?_
      refine XS.iload X278.here hx rfl (hb hby at_609) rfl ?_
      show Steps _ _ _ (T278.setTop (mkF m 611 _ [(.int 1)])) _
      refine XS.ifNo X278.here hx rfl (hb hby at_611) rfl ((if0 _ _).trans (feq (by decide : ¬ ((1 : Int32) = (0 : Int32)))).1) ?_
      refine XS.iconst X278.here hx rfl (hb hby at_614) ?_
      show Steps _ _ _ (T278.setTop (mkF m 615 _ [(.int 1)])) _
      refine XS.goto X278.here hx rfl (pc0 := 615) (pc' := 619) rfl (hb hby at_615) (by decide) (by decide) ?_
      exact k)
    rw [hO] at go303
    obtain ⟨fs, hr, hrun, hended, hW, hsame⟩ := X278.leave (v := some (.int 1)) (fun h => by rw [Bd.returns] at h; cases h)
    refine ⟨_, _, go303 _ ?_, hrun, hended, _, _, rfl, ?_, ⟨_, rfl⟩, hW, hsame.mono (by decide) (by decide)⟩
    · exact retN X278 hx (t := .boolean) Bd.returns (by simp) (hb hby at_619) hr
    · show Q_law Z p0 p1 p2 p3 p4 p5 h0 n0 _ T278.heap _
      rw [eE3]
      exact ⟨rfl, N278⟩
  · obtain ⟨T305, h305, k305, X305, e305, E305, A305, st305⟩ := newP X0 hx hZ (hw _ (List.mem_of_getElem? (i := 1) rfl)) e0 (g := (mkF m 65 #[iv p0, iv p1, iv p2, iv p3, iv p4, iv p5, iv n_, iv m_, iv xo, iv yo, iv zo, iv 1, .unset, .unset, .unset, .unset, .unset, .unset, .unset, .unset, .unset, .unset, .unset, .unset, .unset, .unset, .unset, .unset, .unset, .unset, .unset, .unset, .unset, .unset, .unset, .unset, .unset, .unset, .unset, .unset, .unset, .unset, .unset, .unset, .unset] [(.int 4)])) rfl (hb hby at_65) rfl (by decide) (cap := 4) (by decide) (by decide) (by decide) (by decide)
    obtain ⟨ax, g305⟩ : ∃ z, z = h0.size := ⟨_, rfl⟩
    have ge_ax : n0 ≤ ax := Nat.le_trans Z0 (Nat.le_of_eq g305.symm)
    rw [← g305] at A305 st305
    have Z306 := Nat.le_trans Z0 E305.1
    have V_ax_305 : Arv Z h305 ax k305 .int (4 : Int32) [(.int 0), (.int 0), (.int 0), (.int 0)] (.int 0) := (Arv.new A305 (by decide)).pad (pad_rep [] (.int 0) 4)
    obtain ⟨cl307, Ar307, q307, S307, M307, Hs307, G307⟩ := V_ax_305
    have f308 : Arv Z h305 ax k305 .int (4 : Int32) [(.int 0), (.int 0), (.int 0), (.int 0)] (.int 0) := ⟨cl307, Ar307, q307, S307, M307, Hs307, G307⟩
    have hin309 : ¬ ((0 : Int32) < 0 ∨ cl307.slots.size ≤ ((0 : Int32)).toNatClampNeg) := inb_of S307 ⟨by decide, by decide⟩
    obtain ⟨T309, h309, X309, e309, W309, st309⟩ := stI X305 hx hZ e305 Ar307 (j := (0 : Int32)) hin309 (g := (mkF m 71 #[iv p0, iv p1, iv p2, iv p3, iv p4, iv p5, iv n_, iv m_, iv xo, iv yo, iv zo, iv 1, .unset, .unset, .unset, .unset, .unset, .unset, .unset, .unset, .unset, .unset, .unset, .unset, .unset, .unset, .unset, .unset, .unset, .unset, .unset, .unset, .unset, .unset, .unset, .unset, .unset, .unset, .unset, .unset, .unset, .unset, .unset, .unset, .unset] [(.int p5), (.int 0), (.ref ax), (.ref ax)])) rfl rfl (hb hby at_71)
    have Z310 := Nat.le_trans Z306 (Keep.of_wr W309).1
    have V309 : Arv Z h309 ax k305 .int (4 : Int32) [(.int p5), (.int 0), (.int 0), (.int 0)] (.int 0) := Arv.set Ar307 q307 S307 M307 Hs307 G307 rfl W309 0 rfl (Nat.le_of_ble_eq_true rfl)
    have N309 := Fr.snoc X309 N0 ge_ax
    obtain ⟨cl311, Ar311, q311, S311, M311, Hs311, G311⟩ := V309
    have f312 : Arv Z h309 ax k305 .int (4 : Int32) [(.int p5), (.int 0), (.int 0), (.int 0)] (.int 0) := ⟨cl311, Ar311, q311, S311, M311, Hs311, G311⟩
    have hin313 : ¬ ((1 : Int32) < 0 ∨ cl311.slots.size ≤ ((1 : Int32)).toNatClampNeg) := inb_of S311 ⟨by decide, by decide⟩
    obtain ⟨T313, h313, X313, e313, W313, st313⟩ := stI X309 hx hZ e309 Ar311 (j := (1 : Int32)) hin313 (g := (mkF m 76 #[iv p0, iv p1, iv p2, iv p3, iv p4, iv p5, iv n_, iv m_, iv xo, iv yo, iv zo, iv 1, .unset, .unset, .unset, .unset, .unset, .unset, .unset, .unset, .unset, .unset, .unset, .unset, .unset, .unset, .unset, .unset, .unset, .unset, .unset, .unset, .unset, .unset, .unset, .unset, .unset, .unset, .unset, .unset, .unset, .unset, .unset, .unset, .unset] [(.int p5), (.int 1), (.ref ax), (.ref ax)])) rfl rfl (hb hby at_76)
    have Z314 := Nat.le_trans Z310 (Keep.of_wr W313).1
    have V313 : Arv Z h313 ax k305 .int (4 : Int32) [(.int p5), (.int p5), (.int 0), (.int 0)] (.int 0) := Arv.set Ar311 q311 S311 M311 Hs311 G311 rfl W313 1 rfl (Nat.le_of_ble_eq_true rfl)
    have N313 := Fr.snoc X313 N309 ge_ax
    obtain ⟨cl315, Ar315, q315, S315, M315, Hs315, G315⟩ := V313
    have f316 : Arv Z h313 ax k305 .int (4 : Int32) [(.int p5), (.int p5), (.int 0), (.int 0)] (.int 0) := ⟨cl315, Ar315, q315, S315, M315, Hs315, G315⟩
    have hin317 : ¬ ((2 : Int32) < 0 ∨ cl315.slots.size ≤ ((2 : Int32)).toNatClampNeg) := inb_of S315 ⟨by decide, by decide⟩
    obtain ⟨T317, h317, X317, e317, W317, st317⟩ := stI X313 hx hZ e313 Ar315 (j := (2 : Int32)) hin317 (g := (mkF m 81 #[iv p0, iv p1, iv p2, iv p3, iv p4, iv p5, iv n_, iv m_, iv xo, iv yo, iv zo, iv 1, .unset, .unset, .unset, .unset, .unset, .unset, .unset, .unset, .unset, .unset, .unset, .unset, .unset, .unset, .unset, .unset, .unset, .unset, .unset, .unset, .unset, .unset, .unset, .unset, .unset, .unset, .unset, .unset, .unset, .unset, .unset, .unset, .unset] [(.int p5), (.int 2), (.ref ax), (.ref ax)])) rfl rfl (hb hby at_81)
    have Z318 := Nat.le_trans Z314 (Keep.of_wr W317).1
    have V317 : Arv Z h317 ax k305 .int (4 : Int32) [(.int p5), (.int p5), (.int p5), (.int 0)] (.int 0) := Arv.set Ar315 q315 S315 M315 Hs315 G315 rfl W317 2 rfl (Nat.le_of_ble_eq_true rfl)
    have N317 := Fr.snoc X317 N313 ge_ax
    obtain ⟨cl319, Ar319, q319, S319, M319, Hs319, G319⟩ := V317
    have f320 : Arv Z h317 ax k305 .int (4 : Int32) [(.int p5), (.int p5), (.int p5), (.int 0)] (.int 0) := ⟨cl319, Ar319, q319, S319, M319, Hs319, G319⟩
    have hin321 : ¬ ((3 : Int32) < 0 ∨ cl319.slots.size ≤ ((3 : Int32)).toNatClampNeg) := inb_of S319 ⟨by decide, by decide⟩
    obtain ⟨T321, h321, X321, e321, W321, st321⟩ := stI X317 hx hZ e317 Ar319 (j := (3 : Int32)) hin321 (g := (mkF m 86 #[iv p0, iv p1, iv p2, iv p3, iv p4, iv p5, iv n_, iv m_, iv xo, iv yo, iv zo, iv 1, .unset, .unset, .unset, .unset, .unset, .unset, .unset, .unset, .unset, .unset, .unset, .unset, .unset, .unset, .unset, .unset, .unset, .unset, .unset, .unset, .unset, .unset, .unset, .unset, .unset, .unset, .unset, .unset, .unset, .unset, .unset, .unset, .unset] [(.int p5), (.int 3), (.ref ax), (.ref ax)])) rfl rfl (hb hby at_86)
    have Z322 := Nat.le_trans Z318 (Keep.of_wr W321).1
    have V321 : Arv Z h321 ax k305 .int (4 : Int32) [(.int p5), (.int p5), (.int p5), (.int p5)] (.int 0) := Arv.set Ar319 q319 S319 M319 Hs319 G319 rfl W321 3 rfl (Nat.le_of_ble_eq_true rfl)
    have N321 := Fr.snoc X321 N317 ge_ax
    obtain ⟨cl323, Ar323, q323, S323, M323, Hs323, G323⟩ := V321
    have f324 : Arv Z h321 ax k305 .int (4 : Int32) [(.int p5), (.int p5), (.int p5), (.int p5)] (.int 0) := ⟨cl323, Ar323, q323, S323, M323, Hs323, G323⟩
    have hin325 : ¬ (xo < 0 ∨ cl323.slots.size ≤ (xo).toNatClampNeg) := inb_of S323 (own_inS h_xo)
    obtain ⟨T325, h325, X325, e325, W325, st325⟩ := stI X321 hx hZ e321 Ar323 (j := xo) hin325 (g := (mkF m 94 #[iv p0, iv p1, iv p2, iv p3, iv p4, iv p5, iv n_, iv m_, iv xo, iv yo, iv zo, iv 1, rv ax, .unset, .unset, .unset, .unset, .unset, .unset, .unset, .unset, .unset, .unset, .unset, .unset, .unset, .unset, .unset, .unset, .unset, .unset, .unset, .unset, .unset, .unset, .unset, .unset, .unset, .unset, .unset, .unset, .unset, .unset, .unset, .unset] [(.int p0), (.int xo), (.ref ax)])) rfl rfl (hb hby at_94)
    have Z326 := Nat.le_trans Z322 (Keep.of_wr W325).1
    have V325 : Arv Z h325 ax k305 .int (4 : Int32) ([(.int p5), (.int p5), (.int p5), (.int p5)].set (xo).toNatClampNeg (.int p0)) (.int 0) := Arv.set Ar323 q323 S323 M323 Hs323 G323 rfl W325 (xo).toNatClampNeg rfl (own_lnS h_xo rfl)
    have N325 := Fr.snoc X325 N321 ge_ax
    obtain ⟨cl327, Ar327, q327, S327, M327, Hs327, G327⟩ := V325
    have f328 : Arv Z h325 ax k305 .int (4 : Int32) ([(.int p5), (.int p5), (.int p5), (.int p5)].set (xo).toNatClampNeg (.int p0)) (.int 0) := ⟨cl327, Ar327, q327, S327, M327, Hs327, G327⟩
    have hin329 : ¬ ((xo + (1 : Int32)) < 0 ∨ cl327.slots.size ≤ ((xo + (1 : Int32))).toNatClampNeg) := inb_of S327 (own_in1 h_xo)
    obtain ⟨T329, h329, X329, e329, W329, st329⟩ := stI X325 hx hZ e325 Ar327 (j := (xo + (1 : Int32))) hin329 (g := (mkF m 102 #[iv p0, iv p1, iv p2, iv p3, iv p4, iv p5, iv n_, iv m_, iv xo, iv yo, iv zo, iv 1, rv ax, .unset, .unset, .unset, .unset, .unset, .unset, .unset, .unset, .unset, .unset, .unset, .unset, .unset, .unset, .unset, .unset, .unset, .unset, .unset, .unset, .unset, .unset, .unset, .unset, .unset, .unset, .unset, .unset, .unset, .unset, .unset, .unset] [(.int p1), (.int (xo + (1 : Int32))), (.ref ax)])) rfl rfl (hb hby at_102)
    have Z330 := Nat.le_trans Z326 (Keep.of_wr W329).1
    have V329 : Arv Z h329 ax k305 .int (4 : Int32) (([(.int p5), (.int p5), (.int p5), (.int p5)].set (xo).toNatClampNeg (.int p0)).set ((xo + (1 : Int32))).toNatClampNeg (.int p1)) (.int 0) := Arv.set Ar327 q327 S327 M327 Hs327 G327 rfl W329 ((xo + (1 : Int32))).toNatClampNeg rfl (own_ln1 h_xo ((List.length_set ..).trans rfl))
    have N329 := Fr.snoc X329 N325 ge_ax
    obtain ⟨ax_0, ax_1, ax_2, ax_3, hf_ax, ha_ax, hb_ax⟩ := own_fill xo p5 p0 p1 h_xo
    have f331 : Arv Z h329 ax k305 .int (4 : Int32) [(.int ax_0), (.int ax_1), (.int ax_2), (.int ax_3)] (.int (0 : Int32)) := hf_ax ▸ V329
    obtain ⟨T332, h332, k332, X332, e332, E332, A332, st332⟩ := newP X329 hx hZ (hw _ (List.mem_of_getElem? (i := 1) rfl)) e329 (g := (mkF m 104 #[iv p0, iv p1, iv p2, iv p3, iv p4, iv p5, iv n_, iv m_, iv xo, iv yo, iv zo, iv 1, rv ax, .unset, .unset, .unset, .unset, .unset, .unset, .unset, .unset, .unset, .unset, .unset, .unset, .unset, .unset, .unset, .unset, .unset, .unset, .unset, .unset, .unset, .unset, .unset, .unset, .unset, .unset, .unset, .unset, .unset, .unset, .unset, .unset] [(.int 4)])) rfl (hb hby at_104) rfl (by decide) (cap := 4) (by decide) (by decide) (by decide) (by decide)
    obtain ⟨ay, g332⟩ : ∃ z, z = h329.size := ⟨_, rfl⟩
    have ne333 : ax ≠ ay := Nat.ne_of_lt (Nat.lt_of_lt_of_le f331.lt (Nat.le_of_eq g332.symm))
    have ge_ay : n0 ≤ ay := Nat.le_trans Z330 (Nat.le_of_eq g332.symm)
    rw [← g332] at A332 st332
    have f334 := f331.ext E332
    have Z335 := Nat.le_trans Z330 E332.1
    have V_ay_332 : Arv Z h332 ay k332 .int (4 : Int32) [(.int 0), (.int 0), (.int 0), (.int 0)] (.int 0) := (Arv.new A332 (by decide)).pad (pad_rep [] (.int 0) 4)
    obtain ⟨cl336, Ar336, q336, S336, M336, Hs336, G336⟩ := V_ay_332
    have f337 : Arv Z h332 ay k332 .int (4 : Int32) [(.int 0), (.int 0), (.int 0), (.int 0)] (.int 0) := ⟨cl336, Ar336, q336, S336, M336, Hs336, G336⟩
    have hin338 : ¬ ((0 : Int32) < 0 ∨ cl336.slots.size ≤ ((0 : Int32)).toNatClampNeg) := inb_of S336 ⟨by decide, by decide⟩
    obtain ⟨T338, h338, X338, e338, W338, st338⟩ := stI X332 hx hZ e332 Ar336 (j := (0 : Int32)) hin338 (g := (mkF m 110 #[iv p0, iv p1, iv p2, iv p3, iv p4, iv p5, iv n_, iv m_, iv xo, iv yo, iv zo, iv 1, rv ax, .unset, .unset, .unset, .unset, .unset, .unset, .unset, .unset, .unset, .unset, .unset, .unset, .unset, .unset, .unset, .unset, .unset, .unset, .unset, .unset, .unset, .unset, .unset, .unset, .unset, .unset, .unset, .unset, .unset, .unset, .unset, .unset] [(.int p5), (.int 0), (.ref ay), (.ref ay)])) rfl rfl (hb hby at_110)
    have f339 := f334.other W338 ne333
    have Z340 := Nat.le_trans Z335 (Keep.of_wr W338).1
    have V338 : Arv Z h338 ay k332 .int (4 : Int32) [(.int p5), (.int 0), (.int 0), (.int 0)] (.int 0) := Arv.set Ar336 q336 S336 M336 Hs336 G336 rfl W338 0 rfl (Nat.le_of_ble_eq_true rfl)
    have N338 := Fr.snoc X338 N329 ge_ay
    obtain ⟨cl341, Ar341, q341, S341, M341, Hs341, G341⟩ := V338
    have f342 : Arv Z h338 ay k332 .int (4 : Int32) [(.int p5), (.int 0), (.int 0), (.int 0)] (.int 0) := ⟨cl341, Ar341, q341, S341, M341, Hs341, G341⟩
    have hin343 : ¬ ((1 : Int32) < 0 ∨ cl341.slots.size ≤ ((1 : Int32)).toNatClampNeg) := inb_of S341 ⟨by decide, by decide⟩
    obtain ⟨T343, h343, X343, e343, W343, st343⟩ := stI X338 hx hZ e338 Ar341 (j := (1 : Int32)) hin343 (g := (mkF m 115 #[iv p0, iv p1, iv p2, iv p3, iv p4, iv p5, iv n_, iv m_, iv xo, iv yo, iv zo, iv 1, rv ax, .unset, .unset, .unset, .unset, .unset, .unset, .unset, .unset, .unset, .unset, .unset, .unset, .unset, .unset, .unset, .unset, .unset, .unset, .unset, .unset, .unset, .unset, .unset, .unset, .unset, .unset, .unset, .unset, .unset, .unset, .unset, .unset] [(.int p5), (.int 1), (.ref ay), (.ref ay)])) rfl rfl (hb hby at_115)
    have f344 := f339.other W343 ne333
    have Z345 := Nat.le_trans Z340 (Keep.of_wr W343).1
    have V343 : Arv Z h343 ay k332 .int (4 : Int32) [(.int p5), (.int p5), (.int 0), (.int 0)] (.int 0) := Arv.set Ar341 q341 S341 M341 Hs341 G341 rfl W343 1 rfl (Nat.le_of_ble_eq_true rfl)
    have N343 := Fr.snoc X343 N338 ge_ay
    obtain ⟨cl346, Ar346, q346, S346, M346, Hs346, G346⟩ := V343
    have f347 : Arv Z h343 ay k332 .int (4 : Int32) [(.int p5), (.int p5), (.int 0), (.int 0)] (.int 0) := ⟨cl346, Ar346, q346, S346, M346, Hs346, G346⟩
    have hin348 : ¬ ((2 : Int32) < 0 ∨ cl346.slots.size ≤ ((2 : Int32)).toNatClampNeg) := inb_of S346 ⟨by decide, by decide⟩
    obtain ⟨T348, h348, X348, e348, W348, st348⟩ := stI X343 hx hZ e343 Ar346 (j := (2 : Int32)) hin348 (g := (mkF m 120 #[iv p0, iv p1, iv p2, iv p3, iv p4, iv p5, iv n_, iv m_, iv xo, iv yo, iv zo, iv 1, rv ax, .unset, .unset, .unset, .unset, .unset, .unset, .unset, .unset, .unset, .unset, .unset, .unset, .unset, .unset, .unset, .unset, .unset, .unset, .unset, .unset, .unset, .unset, .unset, .unset, .unset, .unset, .unset, .unset, .unset, .unset, .unset, .unset] [(.int p5), (.int 2), (.ref ay), (.ref ay)])) rfl rfl (hb hby at_120)
    have f349 := f344.other W348 ne333
    have Z350 := Nat.le_trans Z345 (Keep.of_wr W348).1
    have V348 : Arv Z h348 ay k332 .int (4 : Int32) [(.int p5), (.int p5), (.int p5), (.int 0)] (.int 0) := Arv.set Ar346 q346 S346 M346 Hs346 G346 rfl W348 2 rfl (Nat.le_of_ble_eq_true rfl)
    have N348 := Fr.snoc X348 N343 ge_ay
    obtain ⟨cl351, Ar351, q351, S351, M351, Hs351, G351⟩ := V348
    have f352 : Arv Z h348 ay k332 .int (4 : Int32) [(.int p5), (.int p5), (.int p5), (.int 0)] (.int 0) := ⟨cl351, Ar351, q351, S351, M351, Hs351, G351⟩
    have hin353 : ¬ ((3 : Int32) < 0 ∨ cl351.slots.size ≤ ((3 : Int32)).toNatClampNeg) := inb_of S351 ⟨by decide, by decide⟩
    obtain ⟨T353, h353, X353, e353, W353, st353⟩ := stI X348 hx hZ e348 Ar351 (j := (3 : Int32)) hin353 (g := (mkF m 125 #[iv p0, iv p1, iv p2, iv p3, iv p4, iv p5, iv n_, iv m_, iv xo, iv yo, iv zo, iv 1, rv ax, .unset, .unset, .unset, .unset, .unset, .unset, .unset, .unset, .unset, .unset, .unset, .unset, .unset, .unset, .unset, .unset, .unset, .unset, .unset, .unset, .unset, .unset, .unset, .unset, .unset, .unset, .unset, .unset, .unset, .unset, .unset, .unset] [(.int p5), (.int 3), (.ref ay), (.ref ay)])) rfl rfl (hb hby at_125)
    have f354 := f349.other W353 ne333
    have Z355 := Nat.le_trans Z350 (Keep.of_wr W353).1
    have V353 : Arv Z h353 ay k332 .int (4 : Int32) [(.int p5), (.int p5), (.int p5), (.int p5)] (.int 0) := Arv.set Ar351 q351 S351 M351 Hs351 G351 rfl W353 3 rfl (Nat.le_of_ble_eq_true rfl)
    have N353 := Fr.snoc X353 N348 ge_ay
    obtain ⟨cl356, Ar356, q356, S356, M356, Hs356, G356⟩ := V353
    have f357 : Arv Z h353 ay k332 .int (4 : Int32) [(.int p5), (.int p5), (.int p5), (.int p5)] (.int 0) := ⟨cl356, Ar356, q356, S356, M356, Hs356, G356⟩
    have hin358 : ¬ (yo < 0 ∨ cl356.slots.size ≤ (yo).toNatClampNeg) := inb_of S356 (own_inS h_yo)
    obtain ⟨T358, h358, X358, e358, W358, st358⟩ := stI X353 hx hZ e353 Ar356 (j := yo) hin358 (g := (mkF m 133 #[iv p0, iv p1, iv p2, iv p3, iv p4, iv p5, iv n_, iv m_, iv xo, iv yo, iv zo, iv 1, rv ax, rv ay, .unset, .unset, .unset, .unset, .unset, .unset, .unset, .unset, .unset, .unset, .unset, .unset, .unset, .unset, .unset, .unset, .unset, .unset, .unset, .unset, .unset, .unset, .unset, .unset, .unset, .unset, .unset, .unset, .unset, .unset, .unset] [(.int p2), (.int yo), (.ref ay)])) rfl rfl (hb hby at_133)
    have f359 := f354.other W358 ne333
    have Z360 := Nat.le_trans Z355 (Keep.of_wr W358).1
    have V358 : Arv Z h358 ay k332 .int (4 : Int32) ([(.int p5), (.int p5), (.int p5), (.int p5)].set (yo).toNatClampNeg (.int p2)) (.int 0) := Arv.set Ar356 q356 S356 M356 Hs356 G356 rfl W358 (yo).toNatClampNeg rfl (own_lnS h_yo rfl)
    have N358 := Fr.snoc X358 N353 ge_ay
    obtain ⟨cl361, Ar361, q361, S361, M361, Hs361, G361⟩ := V358
    have f362 : Arv Z h358 ay k332 .int (4 : Int32) ([(.int p5), (.int p5), (.int p5), (.int p5)].set (yo).toNatClampNeg (.int p2)) (.int 0) := ⟨cl361, Ar361, q361, S361, M361, Hs361, G361⟩
    have hin363 : ¬ ((yo + (1 : Int32)) < 0 ∨ cl361.slots.size ≤ ((yo + (1 : Int32))).toNatClampNeg) := inb_of S361 (own_in1 h_yo)
    obtain ⟨T363, h363, X363, e363, W363, st363⟩ := stI X358 hx hZ e358 Ar361 (j := (yo + (1 : Int32))) hin363 (g := (mkF m 141 #[iv p0, iv p1, iv p2, iv p3, iv p4, iv p5, iv n_, iv m_, iv xo, iv yo, iv zo, iv 1, rv ax, rv ay, .unset, .unset, .unset, .unset, .unset, .unset, .unset, .unset, .unset, .unset, .unset, .unset, .unset, .unset, .unset, .unset, .unset, .unset, .unset, .unset, .unset, .unset, .unset, .unset, .unset, .unset, .unset, .unset, .unset, .unset, .unset] [(.int p3), (.int (yo + (1 : Int32))), (.ref ay)])) rfl rfl (hb hby at_141)
    have f364 := f359.other W363 ne333
    have Z365 := Nat.le_trans Z360 (Keep.of_wr W363).1
    have V363 : Arv Z h363 ay k332 .int (4 : Int32) (([(.int p5), (.int p5), (.int p5), (.int p5)].set (yo).toNatClampNeg (.int p2)).set ((yo + (1 : Int32))).toNatClampNeg (.int p3)) (.int 0) := Arv.set Ar361 q361 S361 M361 Hs361 G361 rfl W363 ((yo + (1 : Int32))).toNatClampNeg rfl (own_ln1 h_yo ((List.length_set ..).trans rfl))
    have N363 := Fr.snoc X363 N358 ge_ay
    obtain ⟨ay_0, ay_1, ay_2, ay_3, hf_ay, ha_ay, hb_ay⟩ := own_fill yo p5 p2 p3 h_yo
    have f366 : Arv Z h363 ay k332 .int (4 : Int32) [(.int ay_0), (.int ay_1), (.int ay_2), (.int ay_3)] (.int (0 : Int32)) := hf_ay ▸ V363
    obtain ⟨cl367, Ar367, q367, S367, M367, Hs367, G367⟩ := f364
    have f368 : Arv Z h363 ax k305 .int (4 : Int32) [(.int ax_0), (.int ax_1), (.int ax_2), (.int ax_3)] (.int 0) := ⟨cl367, Ar367, q367, S367, M367, Hs367, G367⟩
    have hin369 : ¬ ((0 : Int32) < 0 ∨ cl367.slots.size ≤ ((0 : Int32)).toNatClampNeg) := inb_of S367 ⟨by decide, by decide⟩
    have hat369 : cl367.slots[((0 : Int32)).toNatClampNeg]? = some (.int ax_0) := Hs367.at hin369 rfl
    obtain ⟨cl370, Ar370, q370, S370, M370, Hs370, G370⟩ := f368
    have f371 : Arv Z h363 ax k305 .int (4 : Int32) [(.int ax_0), (.int ax_1), (.int ax_2), (.int ax_3)] (.int 0) := ⟨cl370, Ar370, q370, S370, M370, Hs370, G370⟩
    have hin372 : ¬ ((1 : Int32) < 0 ∨ cl370.slots.size ≤ ((1 : Int32)).toNatClampNeg) := inb_of S370 ⟨by decide, by decide⟩
    have hat372 : cl370.slots[((1 : Int32)).toNatClampNeg]? = some (.int ax_1) := Hs370.at hin372 rfl
    obtain ⟨cl373, Ar373, q373, S373, M373, Hs373, G373⟩ := f371
    have f374 : Arv Z h363 ax k305 .int (4 : Int32) [(.int ax_0), (.int ax_1), (.int ax_2), (.int ax_3)] (.int 0) := ⟨cl373, Ar373, q373, S373, M373, Hs373, G373⟩
    have hin375 : ¬ ((2 : Int32) < 0 ∨ cl373.slots.size ≤ ((2 : Int32)).toNatClampNeg) := inb_of S373 ⟨by decide, by decide⟩
    have hat375 : cl373.slots[((2 : Int32)).toNatClampNeg]? = some (.int ax_2) := Hs373.at hin375 rfl
    obtain ⟨cl376, Ar376, q376, S376, M376, Hs376, G376⟩ := f374
    have f377 : Arv Z h363 ax k305 .int (4 : Int32) [(.int ax_0), (.int ax_1), (.int ax_2), (.int ax_3)] (.int 0) := ⟨cl376, Ar376, q376, S376, M376, Hs376, G376⟩
    have hin378 : ¬ ((3 : Int32) < 0 ∨ cl376.slots.size ≤ ((3 : Int32)).toNatClampNeg) := inb_of S376 ⟨by decide, by decide⟩
    have hat378 : cl376.slots[((3 : Int32)).toNatClampNeg]? = some (.int ax_3) := Hs376.at hin378 rfl
    obtain ⟨cl379, Ar379, q379, S379, M379, Hs379, G379⟩ := f366
    have f380 : Arv Z h363 ay k332 .int (4 : Int32) [(.int ay_0), (.int ay_1), (.int ay_2), (.int ay_3)] (.int 0) := ⟨cl379, Ar379, q379, S379, M379, Hs379, G379⟩
    have hin381 : ¬ ((0 : Int32) < 0 ∨ cl379.slots.size ≤ ((0 : Int32)).toNatClampNeg) := inb_of S379 ⟨by decide, by decide⟩
    have hat381 : cl379.slots[((0 : Int32)).toNatClampNeg]? = some (.int ay_0) := Hs379.at hin381 rfl
    obtain ⟨cl382, Ar382, q382, S382, M382, Hs382, G382⟩ := f380
    have f383 : Arv Z h363 ay k332 .int (4 : Int32) [(.int ay_0), (.int ay_1), (.int ay_2), (.int ay_3)] (.int 0) := ⟨cl382, Ar382, q382, S382, M382, Hs382, G382⟩
    have hin384 : ¬ ((1 : Int32) < 0 ∨ cl382.slots.size ≤ ((1 : Int32)).toNatClampNeg) := inb_of S382 ⟨by decide, by decide⟩
    have hat384 : cl382.slots[((1 : Int32)).toNatClampNeg]? = some (.int ay_1) := Hs382.at hin384 rfl
    obtain ⟨cl385, Ar385, q385, S385, M385, Hs385, G385⟩ := f383
    have f386 : Arv Z h363 ay k332 .int (4 : Int32) [(.int ay_0), (.int ay_1), (.int ay_2), (.int ay_3)] (.int 0) := ⟨cl385, Ar385, q385, S385, M385, Hs385, G385⟩
    have hin387 : ¬ ((2 : Int32) < 0 ∨ cl385.slots.size ≤ ((2 : Int32)).toNatClampNeg) := inb_of S385 ⟨by decide, by decide⟩
    have hat387 : cl385.slots[((2 : Int32)).toNatClampNeg]? = some (.int ay_2) := Hs385.at hin387 rfl
    obtain ⟨cl388, Ar388, q388, S388, M388, Hs388, G388⟩ := f386
    have f389 : Arv Z h363 ay k332 .int (4 : Int32) [(.int ay_0), (.int ay_1), (.int ay_2), (.int ay_3)] (.int 0) := ⟨cl388, Ar388, q388, S388, M388, Hs388, G388⟩
    have hin390 : ¬ ((3 : Int32) < 0 ∨ cl388.slots.size ≤ ((3 : Int32)).toNatClampNeg) := inb_of S388 ⟨by decide, by decide⟩
    have hat390 : cl388.slots[((3 : Int32)).toNatClampNeg]? = some (.int ay_3) := Hs388.at hin390 rfl
    obtain ⟨cl391, Ar391, q391, S391, M391, Hs391, G391⟩ := f377
    have f392 : Arv Z h363 ax k305 .int (4 : Int32) [(.int ax_0), (.int ax_1), (.int ax_2), (.int ax_3)] (.int 0) := ⟨cl391, Ar391, q391, S391, M391, Hs391, G391⟩
    have hin393 : ¬ ((0 : Int32) < 0 ∨ cl391.slots.size ≤ ((0 : Int32)).toNatClampNeg) := inb_of S391 ⟨by decide, by decide⟩
    have hat393 : cl391.slots[((0 : Int32)).toNatClampNeg]? = some (.int ax_0) := Hs391.at hin393 rfl
    obtain ⟨cl394, Ar394, q394, S394, M394, Hs394, G394⟩ := f392
    have f395 : Arv Z h363 ax k305 .int (4 : Int32) [(.int ax_0), (.int ax_1), (.int ax_2), (.int ax_3)] (.int 0) := ⟨cl394, Ar394, q394, S394, M394, Hs394, G394⟩
    have hin396 : ¬ ((1 : Int32) < 0 ∨ cl394.slots.size ≤ ((1 : Int32)).toNatClampNeg) := inb_of S394 ⟨by decide, by decide⟩
    have hat396 : cl394.slots[((1 : Int32)).toNatClampNeg]? = some (.int ax_1) := Hs394.at hin396 rfl
    obtain ⟨cl397, Ar397, q397, S397, M397, Hs397, G397⟩ := f395
    have f398 : Arv Z h363 ax k305 .int (4 : Int32) [(.int ax_0), (.int ax_1), (.int ax_2), (.int ax_3)] (.int 0) := ⟨cl397, Ar397, q397, S397, M397, Hs397, G397⟩
    have hin399 : ¬ ((2 : Int32) < 0 ∨ cl397.slots.size ≤ ((2 : Int32)).toNatClampNeg) := inb_of S397 ⟨by decide, by decide⟩
    have hat399 : cl397.slots[((2 : Int32)).toNatClampNeg]? = some (.int ax_2) := Hs397.at hin399 rfl
    obtain ⟨cl400, Ar400, q400, S400, M400, Hs400, G400⟩ := f398
    have f401 : Arv Z h363 ax k305 .int (4 : Int32) [(.int ax_0), (.int ax_1), (.int ax_2), (.int ax_3)] (.int 0) := ⟨cl400, Ar400, q400, S400, M400, Hs400, G400⟩
    have hin402 : ¬ ((3 : Int32) < 0 ∨ cl400.slots.size ≤ ((3 : Int32)).toNatClampNeg) := inb_of S400 ⟨by decide, by decide⟩
    have hat402 : cl400.slots[((3 : Int32)).toNatClampNeg]? = some (.int ax_3) := Hs400.at hin402 rfl
    obtain ⟨_, _, ⟨T403, L403, k403, n403⟩, -, X403, ⟨Lc403, hQ403, l403, y403, z403⟩, st403⟩ := Jvm.LawKit.callS X363 hx (y := (⟨"com/example/limbwise/kernel/Words", "add", "([II[III[III)I"⟩ : MethodName)) hown (mvT hZ (hw _ (List.mem_of_getElem? (i := 2) rfl))) (mvT hZ (hw _ (List.mem_of_getElem? (i := 3) rfl))) (mvT hZ (hw _ (List.mem_of_getElem? (i := 4) rfl))) (mvT hZ (hw _ (List.mem_of_getElem? (i := 5) rfl))) (by decide) (backOf (W := 0) (rm_ai l Z a0 hw [] ax xo ay yo n_ m_ k305 [(.int ax_0), (.int ax_1), (.int ax_2), (.int ax_3)] k332 [(.int ay_0), (.int ay_1), (.int ay_2), (.int ay_3)] p0 p1 p2 p3 h363 n0 Z365 ge_ax f401 f389 (Ne.symm ne333) rfl h_xo h_yo ha_ax ha_ay hb_ax hb_ay hnm) hZ (hw _ (List.mem_of_getElem? (i := 5) rfl)) (hw _ (List.mem_of_getElem? (i := 4) rfl)) (by decide) (by decide)) (g := (mkF m 279 #[iv p0, iv p1, iv p2, iv p3, iv p4, iv p5, iv n_, iv m_, iv xo, iv yo, iv zo, iv 1, rv ax, rv ay, rv ax, iv xo, iv ax_0, iv ax_1, iv ax_2, iv ax_3, iv ay_0, iv ay_1, iv ay_2, iv ay_3, iv ax_0, iv ax_1, iv ax_2, iv ax_3, .unset, .unset, .unset, .unset, .unset, .unset, .unset, .unset, .unset, .unset, .unset, .unset, .unset, .unset, .unset, .unset, .unset] [(.int m_), (.int yo), (.ref ay), (.int n_), (.int xo), (.ref ax), (.int xo), (.ref ax)])) rfl (by rw [hml]; rfl) (argsL := [(.ref ax), (.int xo), (.ref ax), (.int xo), (.int n_), (.ref ay), (.int yo), (.int m_)]) (rest := []) (lenOf pd_0 rfl) rfl (by show 2 * 0 + _ ≤ _; exact Nat.le_of_eq rfl) (hb hby at_279) (fun _ _ => ⟨rfl, e363, (by decide : 2 + 0 ≤ _), (by decide : 8 + 0 ≤ _)⟩)
    dsimp only [Pt.U, Pt.locs, Pt.cells, Pt.slots] at X403 l403 y403 z403 st403 hQ403
    rw [l403, y403, z403] at X403
    obtain ⟨rr, u0, u1, hv403, N403q, hpost, K1, V1⟩ := hQ403
    rw [hv403] at st403
    have N403 := Fr.app N363 N403q
    have f404 := f389.keep K1 (ninS (Ne.symm ne333) nin0)
    have Z405 := Nat.le_trans Z365 K1.1
    obtain ⟨sm, hsm⟩ : ∃ w, w = own_sumL n_ m_ p0 p1 p2 p3 := ⟨_, rfl⟩
    obtain ⟨hpo1, hpo2, hpo3⟩ := hpost
    rw [← hsm] at hpo2 hpo3
    rw [own_fin n_ xo sm ax_0 ax_1 ax_2 ax_3 u0 u1 hn3 h_xo hpo2 hpo3] at V1
    have go406 : ∀ t, Steps p.tables e below (T403.setTop (mkF m 287 #[iv p0, iv p1, iv p2, iv p3, iv p4, iv p5, iv n_, iv m_, iv xo, iv yo, iv zo, iv 1, rv ax, rv ay, rv ax, iv xo, iv ax_0, iv ax_1, iv ax_2, iv ax_3, iv ay_0, iv ay_1, iv ay_2, iv ay_3, iv ax_0, iv ax_1, iv ax_2, iv ax_3, iv rr, .unset, .unset, .unset, .unset, .unset, .unset, .unset, .unset, .unset, .unset, .unset, .unset, .unset, .unset, .unset, .unset] [(.int 1), (.int n_)])) t → Steps p.tables e below O t := fun t k => go106 t (by
      refine XS.ifNo X0.here hx rfl (hb hby at_54) rfl ((if0 _ _).trans (feq (hip : ¬ ((((p4.toUInt32 >>> ((7 : Int32) &&& 31).toUInt32).toInt32) &&& (1 : Int32)) = (0 : Int32)))).1) ?_
      refine XS.iconst X0.here hx rfl (hb hby at_57) ?_
      show Steps _ _ _ (s₁.setTop (mkF m 58 _ [(.int 1)])) _
      refine XS.goto X0.here hx rfl (pc0 := 58) (pc' := 62) rfl (hb hby at_58) (by decide) (by decide) ?_
      refine XS.istore X0.here hx rfl (hb hby at_62) rfl (l' := #[iv p0, iv p1, iv p2, iv p3, iv p4, iv p5, iv n_, iv m_, iv xo, iv yo, iv zo, iv 1, .unset, .unset, .unset, .unset, .unset, .unset, .unset, .unset, .unset, .unset, .unset, .unset, .unset, .unset, .unset, .unset, .unset, .unset, .unset, .unset, .unset, .unset, .unset, .unset, .unset, .unset, .unset, .unset, .unset, .unset, .unset, .unset, .unset]) rfl ?_
      show Steps _ _ _ (s₁.setTop (mkF m 64 _ [])) _
      refine XS.iconst X0.here hx rfl (hb hby at_64) ?_
      refine st305 _ ?_
      show Steps _ _ _ (T305.setTop (mkF m 67 _ [(.ref ax)])) _
      refine XS.dup X305.here hx rfl (hb hby at_67) rfl rfl ?_
      refine XS.iconst X305.here hx rfl (hb hby at_68) ?_
      show Steps _ _ _ (T305.setTop (mkF m 69 _ [(.int 0), (.ref ax), (.ref ax)])) _
      refine XS.iload X305.here hx rfl (hb hby at_69) rfl ?_
      refine st309 _ ?_
      show Steps _ _ _ (T309.setTop (mkF m 72 _ [(.ref ax)])) _
      refine XS.dup X309.here hx rfl (hb hby at_72) rfl rfl ?_
      refine XS.iconst X309.here hx rfl (hb hby at_73) ?_
      show Steps _ _ _ (T309.setTop (mkF m 74 _ [(.int 1), (.ref ax), (.ref ax)])) _
      refine XS.iload X309.here hx rfl (hb hby at_74) rfl ?_
      refine st313 _ ?_
      show Steps _ _ _ (T313.setTop (mkF m 77 _ [(.ref ax)])) _
      refine XS.dup X313.here hx rfl (hb hby at_77) rfl rfl ?_
      refine XS.iconst X313.here hx rfl (hb hby at_78) ?_
      show Steps _ _ _ (T313.setTop (mkF m 79 _ [(.int 2), (.ref ax), (.ref ax)])) _
      refine XS.iload X313.here hx rfl (hb hby at_79) rfl ?_
      refine st317 _ ?_
      show Steps _ _ _ (T317.setTop (mkF m 82 _ [(.ref ax)])) _
      refine XS.dup X317.here hx rfl (hb hby at_82) rfl rfl ?_
      refine XS.iconst X317.here hx rfl (hb hby at_83) ?_
      show Steps _ _ _ (T317.setTop (mkF m 84 _ [(.int 3), (.ref ax), (.ref ax)])) _
      refine XS.iload X317.here hx rfl (hb hby at_84) rfl ?_
      refine st321 _ ?_
      show Steps _ _ _ (T321.setTop (mkF m 87 _ [(.ref ax)])) _
      refine XS.astore X321.here hx rfl (hb hby at_87) rfl rfl (l' := #[iv p0, iv p1, iv p2, iv p3, iv p4, iv p5, iv n_, iv m_, iv xo, iv yo, iv zo, iv 1, rv ax, .unset, .unset, .unset, .unset, .unset, .unset, .unset, .unset, .unset, .unset, .unset, .unset, .unset, .unset, .unset, .unset, .unset, .unset, .unset, .unset, .unset, .unset, .unset, .unset, .unset, .unset, .unset, .unset, .unset, .unset, .unset, .unset]) rfl ?_
      show Steps _ _ _ (T321.setTop (mkF m 89 _ [])) _
      refine XS.aload X321.here hx rfl (hb hby at_89) rfl rfl ?_
      refine XS.iload X321.here hx rfl (hb hby at_91) rfl ?_
      show Steps _ _ _ (T321.setTop (mkF m 93 _ [(.int xo), (.ref ax)])) _
      refine XS.iloadN X321.here hx rfl (hb hby at_93) rfl ?_
      refine st325 _ ?_
      show Steps _ _ _ (T325.setTop (mkF m 95 _ [])) _
      refine XS.aload X325.here hx rfl (hb hby at_95) rfl rfl ?_
      refine XS.iload X325.here hx rfl (hb hby at_97) rfl ?_
      show Steps _ _ _ (T325.setTop (mkF m 99 _ [(.int xo), (.ref ax)])) _
      refine XS.iconst X325.here hx rfl (hb hby at_99) ?_
      refine XS.iadd X325.here hx rfl (hb hby at_100) rfl ?_
      show Steps _ _ _ (T325.setTop (mkF m 101 _ [(.int (xo + (1 : Int32))), (.ref ax)])) _
      refine XS.iloadN X325.here hx rfl (hb hby at_101) rfl ?_
      refine st329 _ ?_
      show Steps _ _ _ (T329.setTop (mkF m 103 _ [])) _
      refine XS.iconst X329.here hx rfl (hb hby at_103) ?_
      refine st332 _ ?_
      show Steps _ _ _ (T332.setTop (mkF m 106 _ [(.ref ay)])) _
      refine XS.dup X332.here hx rfl (hb hby at_106) rfl rfl ?_
      refine XS.iconst X332.here hx rfl (hb hby at_107) ?_
      show Steps _ _ _ (T332.setTop (mkF m 108 _ [(.int 0), (.ref ay), (.ref ay)])) _
      refine XS.iload X332.here hx rfl (hb hby at_108) rfl ?_
      refine st338 _ ?_
      show Steps _ _ _ (T338.setTop (mkF m 111 _ [(.ref ay)])) _
      refine XS.dup X338.here hx rfl (hb hby at_111) rfl rfl ?_
      refine XS.iconst X338.here hx rfl (hb hby at_112) ?_
      show Steps _ _ _ (T338.setTop (mkF m 113 _ [(.int 1), (.ref ay), (.ref ay)])) _
      refine XS.iload X338.here hx rfl (hb hby at_113) rfl ?_
      refine st343 _ ?_
      show Steps _ _ _ (T343.setTop (mkF m 116 _ [(.ref ay)])) _
      refine XS.dup X343.here hx rfl (hb hby at_116) rfl rfl ?_
      refine XS.iconst X343.here hx rfl (hb hby at_117) ?_
      show Steps _ _ _ (T343.setTop (mkF m 118 _ [(.int 2), (.ref ay), (.ref ay)])) _
      refine XS.iload X343.here hx rfl (hb hby at_118) rfl ?_
      refine st348 _ ?_
      show Steps _ _ _ (T348.setTop (mkF m 121 _ [(.ref ay)])) _
      refine XS.dup X348.here hx rfl (hb hby at_121) rfl rfl ?_
      refine XS.iconst X348.here hx rfl (hb hby at_122) ?_
      show Steps _ _ _ (T348.setTop (mkF m 123 _ [(.int 3), (.ref ay), (.ref ay)])) _
      refine XS.iload X348.here hx rfl (hb hby at_123) rfl ?_
      refine st353 _ ?_
      show Steps _ _ _ (T353.setTop (mkF m 126 _ [(.ref ay)])) _
      refine XS.astore X353.here hx rfl (hb hby at_126) rfl rfl (l' := #[iv p0, iv p1, iv p2, iv p3, iv p4, iv p5, iv n_, iv m_, iv xo, iv yo, iv zo, iv 1, rv ax, rv ay, .unset, .unset, .unset, .unset, .unset, .unset, .unset, .unset, .unset, .unset, .unset, .unset, .unset, .unset, .unset, .unset, .unset, .unset, .unset, .unset, .unset, .unset, .unset, .unset, .unset, .unset, .unset, .unset, .unset, .unset, .unset]) rfl ?_
      show Steps _ _ _ (T353.setTop (mkF m 128 _ [])) _
      refine XS.aload X353.here hx rfl (hb hby at_128) rfl rfl ?_
      refine XS.iload X353.here hx rfl (hb hby at_130) rfl ?_
      show Steps _ _ _ (T353.setTop (mkF m 132 _ [(.int yo), (.ref ay)])) _
      refine XS.iloadN X353.here hx rfl (hb hby at_132) rfl ?_
      refine st358 _ ?_
      show Steps _ _ _ (T358.setTop (mkF m 134 _ [])) _
      refine XS.aload X358.here hx rfl (hb hby at_134) rfl rfl ?_
      refine XS.iload X358.here hx rfl (hb hby at_136) rfl ?_
      show Steps _ _ _ (T358.setTop (mkF m 138 _ [(.int yo), (.ref ay)])) _
      refine XS.iconst X358.here hx rfl (hb hby at_138) ?_
      refine XS.iadd X358.here hx rfl (hb hby at_139) rfl ?_
      show Steps _ _ _ (T358.setTop (mkF m 140 _ [(.int (yo + (1 : Int32))), (.ref ay)])) _
      refine XS.iloadN X358.here hx rfl (hb hby at_140) rfl ?_
      refine st363 _ ?_
      show Steps _ _ _ (T363.setTop (mkF m 142 _ [])) _
      refine XS.iload X363.here hx rfl (hb hby at_142) rfl ?_
      refine XS.ifNo X363.here hx rfl (hb hby at_144) rfl ((if0 _ _).trans (feq (by decide : ¬ ((1 : Int32) = (0 : Int32)))).1) ?_
      show Steps _ _ _ (T363.setTop (mkF m 147 _ [])) _
      refine XS.aload X363.here hx rfl (hb hby at_147) rfl rfl ?_
      refine XS.goto X363.here hx rfl (pc0 := 149) (pc' := 175) rfl (hb hby at_149) (by decide) (by decide) ?_
      show Steps _ _ _ (T363.setTop (mkF m 175 _ [(.ref ax)])) _
      refine XS.astore X363.here hx rfl (hb hby at_175) rfl rfl (l' := #[iv p0, iv p1, iv p2, iv p3, iv p4, iv p5, iv n_, iv m_, iv xo, iv yo, iv zo, iv 1, rv ax, rv ay, rv ax, .unset, .unset, .unset, .unset, .unset, .unset, .unset, .unset, .unset, .unset, .unset, .unset, .unset, .unset, .unset, .unset, .unset, .unset, .unset, .unset, .unset, .unset, .unset, .unset, .unset, .unset, .unset, .unset, .unset, .unset]) rfl ?_
      show Steps _ _ _ (T363.setTop (mkF m 177 _ [])) _
      refine XS.iload X363.here hx rfl (hb hby at_177) rfl ?_
      refine XS.ifNo X363.here hx rfl (hb hby at_179) rfl ((if0 _ _).trans (feq (by decide : ¬ ((1 : Int32) = (0 : Int32)))).1) ?_
      show Steps _ _ _ (T363.setTop (mkF m 182 _ [])) _
      refine XS.iload X363.here hx rfl (hb hby at_182) rfl ?_
      refine XS.goto X363.here hx rfl (pc0 := 184) (pc' := 189) rfl (hb hby at_184) (by decide) (by decide) ?_
      show Steps _ _ _ (T363.setTop (mkF m 189 _ [(.int xo)])) _
      refine XS.istore X363.here hx rfl (hb hby at_189) rfl (l' := #[iv p0, iv p1, iv p2, iv p3, iv p4, iv p5, iv n_, iv m_, iv xo, iv yo, iv zo, iv 1, rv ax, rv ay, rv ax, iv xo, .unset, .unset, .unset, .unset, .unset, .unset, .unset, .unset, .unset, .unset, .unset, .unset, .unset, .unset, .unset, .unset, .unset, .unset, .unset, .unset, .unset, .unset, .unset, .unset, .unset, .unset, .unset, .unset, .unset]) rfl ?_
      show Steps _ _ _ (T363.setTop (mkF m 191 _ [])) _
      refine XS.aload X363.here hx rfl (hb hby at_191) rfl rfl ?_
      refine XS.iconst X363.here hx rfl (hb hby at_193) ?_
      show Steps _ _ _ (T363.setTop (mkF m 194 _ [(.int 0), (.ref ax)])) _
      refine X363.iaload hx (j := (0 : Int32)) (v := (.int ax_0)) (by rw [e363]; exact Ar367.1) (State.isArrayOf_alike hZ.alike Ar367.2.1) Ar367.2.2 hin369 hat369 (g := (mkF m 194 #[iv p0, iv p1, iv p2, iv p3, iv p4, iv p5, iv n_, iv m_, iv xo, iv yo, iv zo, iv 1, rv ax, rv ay, rv ax, iv xo, .unset, .unset, .unset, .unset, .unset, .unset, .unset, .unset, .unset, .unset, .unset, .unset, .unset, .unset, .unset, .unset, .unset, .unset, .unset, .unset, .unset, .unset, .unset, .unset, .unset, .unset, .unset, .unset, .unset] [(.int 0), (.ref ax)])) rfl rfl (hb hby at_194) _ ?_
      refine XS.istore X363.here hx rfl (hb hby at_195) rfl (l' := #[iv p0, iv p1, iv p2, iv p3, iv p4, iv p5, iv n_, iv m_, iv xo, iv yo, iv zo, iv 1, rv ax, rv ay, rv ax, iv xo, iv ax_0, .unset, .unset, .unset, .unset, .unset, .unset, .unset, .unset, .unset, .unset, .unset, .unset, .unset, .unset, .unset, .unset, .unset, .unset, .unset, .unset, .unset, .unset, .unset, .unset, .unset, .unset, .unset, .unset]) rfl ?_
      show Steps _ _ _ (T363.setTop (mkF m 197 _ [])) _
      refine XS.aload X363.here hx rfl (hb hby at_197) rfl rfl ?_
      refine XS.iconst X363.here hx rfl (hb hby at_199) ?_
      show Steps _ _ _ (T363.setTop (mkF m 200 _ [(.int 1), (.ref ax)])) _
      refine X363.iaload hx (j := (1 : Int32)) (v := (.int ax_1)) (by rw [e363]; exact Ar370.1) (State.isArrayOf_alike hZ.alike Ar370.2.1) Ar370.2.2 hin372 hat372 (g := (mkF m 200 #[iv p0, iv p1, iv p2, iv p3, iv p4, iv p5, iv n_, iv m_, iv xo, iv yo, iv zo, iv 1, rv ax, rv ay, rv ax, iv xo, iv ax_0, .unset, .unset, .unset, .unset, .unset, .unset, .unset, .unset, .unset, .unset, .unset, .unset, .unset, .unset, .unset, .unset, .unset, .unset, .unset, .unset, .unset, .unset, .unset, .unset, .unset, .unset, .unset, .unset] [(.int 1), (.ref ax)])) rfl rfl (hb hby at_200) _ ?_
      refine XS.istore X363.here hx rfl (hb hby at_201) rfl (l' := #[iv p0, iv p1, iv p2, iv p3, iv p4, iv p5, iv n_, iv m_, iv xo, iv yo, iv zo, iv 1, rv ax, rv ay, rv ax, iv xo, iv ax_0, iv ax_1, .unset, .unset, .unset, .unset, .unset, .unset, .unset, .unset, .unset, .unset, .unset, .unset, .unset, .unset, .unset, .unset, .unset, .unset, .unset, .unset, .unset, .unset, .unset, .unset, .unset, .unset, .unset]) rfl ?_
      show Steps _ _ _ (T363.setTop (mkF m 203 _ [])) _
      refine XS.aload X363.here hx rfl (hb hby at_203) rfl rfl ?_
      refine XS.iconst X363.here hx rfl (hb hby at_205) ?_
      show Steps _ _ _ (T363.setTop (mkF m 206 _ [(.int 2), (.ref ax)])) _
      refine X363.iaload hx (j := (2 : Int32)) (v := (.int ax_2)) (by rw [e363]; exact Ar373.1) (State.isArrayOf_alike hZ.alike Ar373.2.1) Ar373.2.2 hin375 hat375 (g := (mkF m 206 #[iv p0, iv p1, iv p2, iv p3, iv p4, iv p5, iv n_, iv m_, iv xo, iv yo, iv zo, iv 1, rv ax, rv ay, rv ax, iv xo, iv ax_0, iv ax_1, .unset, .unset, .unset, .unset, .unset, .unset, .unset, .unset, .unset, .unset, .unset, .unset, .unset, .unset, .unset, .unset, .unset, .unset, .unset, .unset, .unset, .unset, .unset, .unset, .unset, .unset, .unset] [(.int 2), (.ref ax)])) rfl rfl (hb hby at_206) _ ?_
      refine XS.istore X363.here hx rfl (hb hby at_207) rfl (l' := #[iv p0, iv p1, iv p2, iv p3, iv p4, iv p5, iv n_, iv m_, iv xo, iv yo, iv zo, iv 1, rv ax, rv ay, rv ax, iv xo, iv ax_0, iv ax_1, iv ax_2, .unset, .unset, .unset, .unset, .unset, .unset, .unset, .unset, .unset, .unset, .unset, .unset, .unset, .unset, .unset, .unset, .unset, .unset, .unset, .unset, .unset, .unset, .unset, .unset, .unset, .unset]) rfl ?_
      show Steps _ _ _ (T363.setTop (mkF m 209 _ [])) _
      refine XS.aload X363.here hx rfl (hb hby at_209) rfl rfl ?_
      refine XS.iconst X363.here hx rfl (hb hby at_211) ?_
      show Steps _ _ _ (T363.setTop (mkF m 212 _ [(.int 3), (.ref ax)])) _
      refine X363.iaload hx (j := (3 : Int32)) (v := (.int ax_3)) (by rw [e363]; exact Ar376.1) (State.isArrayOf_alike hZ.alike Ar376.2.1) Ar376.2.2 hin378 hat378 (g := (mkF m 212 #[iv p0, iv p1, iv p2, iv p3, iv p4, iv p5, iv n_, iv m_, iv xo, iv yo, iv zo, iv 1, rv ax, rv ay, rv ax, iv xo, iv ax_0, iv ax_1, iv ax_2, .unset, .unset, .unset, .unset, .unset, .unset, .unset, .unset, .unset, .unset, .unset, .unset, .unset, .unset, .unset, .unset, .unset, .unset, .unset, .unset, .unset, .unset, .unset, .unset, .unset, .unset] [(.int 3), (.ref ax)])) rfl rfl (hb hby at_212) _ ?_
      refine XS.istore X363.here hx rfl (hb hby at_213) rfl (l' := #[iv p0, iv p1, iv p2, iv p3, iv p4, iv p5, iv n_, iv m_, iv xo, iv yo, iv zo, iv 1, rv ax, rv ay, rv ax, iv xo, iv ax_0, iv ax_1, iv ax_2, iv ax_3, .unset, .unset, .unset, .unset, .unset, .unset, .unset, .unset, .unset, .unset, .unset, .unset, .unset, .unset, .unset, .unset, .unset, .unset, .unset, .unset, .unset, .unset, .unset, .unset, .unset]) rfl ?_
      show Steps _ _ _ (T363.setTop (mkF m 215 _ [])) _
      refine XS.aload X363.here hx rfl (hb hby at_215) rfl rfl ?_
      refine XS.iconst X363.here hx rfl (hb hby at_217) ?_
      show Steps _ _ _ (T363.setTop (mkF m 218 _ [(.int 0), (.ref ay)])) _
      refine X363.iaload hx (j := (0 : Int32)) (v := (.int ay_0)) (by rw [e363]; exact Ar379.1) (State.isArrayOf_alike hZ.alike Ar379.2.1) Ar379.2.2 hin381 hat381 (g := (mkF m 218 #[iv p0, iv p1, iv p2, iv p3, iv p4, iv p5, iv n_, iv m_, iv xo, iv yo, iv zo, iv 1, rv ax, rv ay, rv ax, iv xo, iv ax_0, iv ax_1, iv ax_2, iv ax_3, .unset, .unset, .unset, .unset, .unset, .unset, .unset, .unset, .unset, .unset, .unset, .unset, .unset, .unset, .unset, .unset, .unset, .unset, .unset, .unset, .unset, .unset, .unset, .unset, .unset] [(.int 0), (.ref ay)])) rfl rfl (hb hby at_218) _ ?_
      refine XS.istore X363.here hx rfl (hb hby at_219) rfl (l' := #[iv p0, iv p1, iv p2, iv p3, iv p4, iv p5, iv n_, iv m_, iv xo, iv yo, iv zo, iv 1, rv ax, rv ay, rv ax, iv xo, iv ax_0, iv ax_1, iv ax_2, iv ax_3, iv ay_0, .unset, .unset, .unset, .unset, .unset, .unset, .unset, .unset, .unset, .unset, .unset, .unset, .unset, .unset, .unset, .unset, .unset, .unset, .unset, .unset, .unset, .unset, .unset, .unset]) rfl ?_
      show Steps _ _ _ (T363.setTop (mkF m 221 _ [])) _
      refine XS.aload X363.here hx rfl (hb hby at_221) rfl rfl ?_
      refine XS.iconst X363.here hx rfl (hb hby at_223) ?_
      show Steps _ _ _ (T363.setTop (mkF m 224 _ [(.int 1), (.ref ay)])) _
      refine X363.iaload hx (j := (1 : Int32)) (v := (.int ay_1)) (by rw [e363]; exact Ar382.1) (State.isArrayOf_alike hZ.alike Ar382.2.1) Ar382.2.2 hin384 hat384 (g := (mkF m 224 #[iv p0, iv p1, iv p2, iv p3, iv p4, iv p5, iv n_, iv m_, iv xo, iv yo, iv zo, iv 1, rv ax, rv ay, rv ax, iv xo, iv ax_0, iv ax_1, iv ax_2, iv ax_3, iv ay_0, .unset, .unset, .unset, .unset, .unset, .unset, .unset, .unset, .unset, .unset, .unset, .unset, .unset, .unset, .unset, .unset, .unset, .unset, .unset, .unset, .unset, .unset, .unset, .unset] [(.int 1), (.ref ay)])) rfl rfl (hb hby at_224) _ ?_
      refine XS.istore X363.here hx rfl (hb hby at_225) rfl (l' := #[iv p0, iv p1, iv p2, iv p3, iv p4, iv p5, iv n_, iv m_, iv xo, iv yo, iv zo, iv 1, rv ax, rv ay, rv ax, iv xo, iv ax_0, iv ax_1, iv ax_2, iv ax_3, iv ay_0, iv ay_1, .unset, .unset, .unset, .unset, .unset, .unset, .unset, .unset, .unset, .unset, .unset, .unset, .unset, .unset, .unset, .unset, .unset, .unset, .unset, .unset, .unset, .unset, .unset]) rfl ?_
      show Steps _ _ _ (T363.setTop (mkF m 227 _ [])) _
      refine XS.aload X363.here hx rfl (hb hby at_227) rfl rfl ?_
      refine XS.iconst X363.here hx rfl (hb hby at_229) ?_
      show Steps _ _ _ (T363.setTop (mkF m 230 _ [(.int 2), (.ref ay)])) _
      refine X363.iaload hx (j := (2 : Int32)) (v := (.int ay_2)) (by rw [e363]; exact Ar385.1) (State.isArrayOf_alike hZ.alike Ar385.2.1) Ar385.2.2 hin387 hat387 (g := (mkF m 230 #[iv p0, iv p1, iv p2, iv p3, iv p4, iv p5, iv n_, iv m_, iv xo, iv yo, iv zo, iv 1, rv ax, rv ay, rv ax, iv xo, iv ax_0, iv ax_1, iv ax_2, iv ax_3, iv ay_0, iv ay_1, .unset, .unset, .unset, .unset, .unset, .unset, .unset, .unset, .unset, .unset, .unset, .unset, .unset, .unset, .unset, .unset, .unset, .unset, .unset, .unset, .unset, .unset, .unset] [(.int 2), (.ref ay)])) rfl rfl (hb hby at_230) _ ?_
      refine XS.istore X363.here hx rfl (hb hby at_231) rfl (l' := #[iv p0, iv p1, iv p2, iv p3, iv p4, iv p5, iv n_, iv m_, iv xo, iv yo, iv zo, iv 1, rv ax, rv ay, rv ax, iv xo, iv ax_0, iv ax_1, iv ax_2, iv ax_3, iv ay_0, iv ay_1, iv ay_2, .unset, .unset, .unset, .unset, .unset, .unset, .unset, .unset, .unset, .unset, .unset, .unset, .unset, .unset, .unset, .unset, .unset, .unset, .unset, .unset, .unset, .unset]) rfl ?_
      show Steps _ _ _ (T363.setTop (mkF m 233 _ [])) _
      refine XS.aload X363.here hx rfl (hb hby at_233) rfl rfl ?_
      refine XS.iconst X363.here hx rfl (hb hby at_235) ?_
      show Steps _ _ _ (T363.setTop (mkF m 236 _ [(.int 3), (.ref ay)])) _
      refine X363.iaload hx (j := (3 : Int32)) (v := (.int ay_3)) (by rw [e363]; exact Ar388.1) (State.isArrayOf_alike hZ.alike Ar388.2.1) Ar388.2.2 hin390 hat390 (g := (mkF m 236 #[iv p0, iv p1, iv p2, iv p3, iv p4, iv p5, iv n_, iv m_, iv xo, iv yo, iv zo, iv 1, rv ax, rv ay, rv ax, iv xo, iv ax_0, iv ax_1, iv ax_2, iv ax_3, iv ay_0, iv ay_1, iv ay_2, .unset, .unset, .unset, .unset, .unset, .unset, .unset, .unset, .unset, .unset, .unset, .unset, .unset, .unset, .unset, .unset, .unset, .unset, .unset, .unset, .unset, .unset] [(.int 3), (.ref ay)])) rfl rfl (hb hby at_236) _ ?_
      refine XS.istore X363.here hx rfl (hb hby at_237) rfl (l' := #[iv p0, iv p1, iv p2, iv p3, iv p4, iv p5, iv n_, iv m_, iv xo, iv yo, iv zo, iv 1, rv ax, rv ay, rv ax, iv xo, iv ax_0, iv ax_1, iv ax_2, iv ax_3, iv ay_0, iv ay_1, iv ay_2, iv ay_3, .unset, .unset, .unset, .unset, .unset, .unset, .unset, .unset, .unset, .unset, .unset, .unset, .unset, .unset, .unset, .unset, .unset, .unset, .unset, .unset, .unset]) rfl ?_
      show Steps _ _ _ (T363.setTop (mkF m 239 _ [])) _
      refine XS.aload X363.here hx rfl (hb hby at_239) rfl rfl ?_
      refine XS.iconst X363.here hx rfl (hb hby at_241) ?_
      show Steps _ _ _ (T363.setTop (mkF m 242 _ [(.int 0), (.ref ax)])) _
      refine X363.iaload hx (j := (0 : Int32)) (v := (.int ax_0)) (by rw [e363]; exact Ar391.1) (State.isArrayOf_alike hZ.alike Ar391.2.1) Ar391.2.2 hin393 hat393 (g := (mkF m 242 #[iv p0, iv p1, iv p2, iv p3, iv p4, iv p5, iv n_, iv m_, iv xo, iv yo, iv zo, iv 1, rv ax, rv ay, rv ax, iv xo, iv ax_0, iv ax_1, iv ax_2, iv ax_3, iv ay_0, iv ay_1, iv ay_2, iv ay_3, .unset, .unset, .unset, .unset, .unset, .unset, .unset, .unset, .unset, .unset, .unset, .unset, .unset, .unset, .unset, .unset, .unset, .unset, .unset, .unset, .unset] [(.int 0), (.ref ax)])) rfl rfl (hb hby at_242) _ ?_
      refine XS.istore X363.here hx rfl (hb hby at_243) rfl (l' := #[iv p0, iv p1, iv p2, iv p3, iv p4, iv p5, iv n_, iv m_, iv xo, iv yo, iv zo, iv 1, rv ax, rv ay, rv ax, iv xo, iv ax_0, iv ax_1, iv ax_2, iv ax_3, iv ay_0, iv ay_1, iv ay_2, iv ay_3, iv ax_0, .unset, .unset, .unset, .unset, .unset, .unset, .unset, .unset, .unset, .unset, .unset, .unset, .unset, .unset, .unset, .unset, .unset, .unset, .unset, .unset]) rfl ?_
      show Steps _ _ _ (T363.setTop (mkF m 245 _ [])) _
      refine XS.aload X363.here hx rfl (hb hby at_245) rfl rfl ?_
      refine XS.iconst X363.here hx rfl (hb hby at_247) ?_
      show Steps _ _ _ (T363.setTop (mkF m 248 _ [(.int 1), (.ref ax)])) _
      refine X363.iaload hx (j := (1 : Int32)) (v := (.int ax_1)) (by rw [e363]; exact Ar394.1) (State.isArrayOf_alike hZ.alike Ar394.2.1) Ar394.2.2 hin396 hat396 (g := (mkF m 248 #[iv p0, iv p1, iv p2, iv p3, iv p4, iv p5, iv n_, iv m_, iv xo, iv yo, iv zo, iv 1, rv ax, rv ay, rv ax, iv xo, iv ax_0, iv ax_1, iv ax_2, iv ax_3, iv ay_0, iv ay_1, iv ay_2, iv ay_3, iv ax_0, .unset, .unset, .unset, .unset, .unset, .unset, .unset, .unset, .unset, .unset, .unset, .unset, .unset, .unset, .unset, .unset, .unset, .unset, .unset, .unset] [(.int 1), (.ref ax)])) rfl rfl (hb hby at_248) _ ?_
      refine XS.istore X363.here hx rfl (hb hby at_249) rfl (l' := #[iv p0, iv p1, iv p2, iv p3, iv p4, iv p5, iv n_, iv m_, iv xo, iv yo, iv zo, iv 1, rv ax, rv ay, rv ax, iv xo, iv ax_0, iv ax_1, iv ax_2, iv ax_3, iv ay_0, iv ay_1, iv ay_2, iv ay_3, iv ax_0, iv ax_1, .unset, .unset, .unset, .unset, .unset, .unset, .unset, .unset, .unset, .unset, .unset, .unset, .unset, .unset, .unset, .unset, .unset, .unset, .unset]) rfl ?_
      show Steps _ _ _ (T363.setTop (mkF m 251 _ [])) _
      refine XS.aload X363.here hx rfl (hb hby at_251) rfl rfl ?_
      refine XS.iconst X363.here hx rfl (hb hby at_253) ?_
      show Steps _ _ _ (T363.setTop (mkF m 254 _ [(.int 2), (.ref ax)])) _
      refine X363.iaload hx (j := (2 : Int32)) (v := (.int ax_2)) (by rw [e363]; exact Ar397.1) (State.isArrayOf_alike hZ.alike Ar397.2.1) Ar397.2.2 hin399 hat399 (g := (mkF m 254 #[iv p0, iv p1, iv p2, iv p3, iv p4, iv p5, iv n_, iv m_, iv xo, iv yo, iv zo, iv 1, rv ax, rv ay, rv ax, iv xo, iv ax_0, iv ax_1, iv ax_2, iv ax_3, iv ay_0, iv ay_1, iv ay_2, iv ay_3, iv ax_0, iv ax_1, .unset, .unset, .unset, .unset, .unset, .unset, .unset, .unset, .unset, .unset, .unset, .unset, .unset, .unset, .unset, .unset, .unset, .unset, .unset] [(.int 2), (.ref ax)])) rfl rfl (hb hby at_254) _ ?_
      refine XS.istore X363.here hx rfl (hb hby at_255) rfl (l' := #[iv p0, iv p1, iv p2, iv p3, iv p4, iv p5, iv n_, iv m_, iv xo, iv yo, iv zo, iv 1, rv ax, rv ay, rv ax, iv xo, iv ax_0, iv ax_1, iv ax_2, iv ax_3, iv ay_0, iv ay_1, iv ay_2, iv ay_3, iv ax_0, iv ax_1, iv ax_2, .unset, .unset, .unset, .unset, .unset, .unset, .unset, .unset, .unset, .unset, .unset, .unset, .unset, .unset, .unset, .unset, .unset, .unset]) rfl ?_
      show Steps _ _ _ (T363.setTop (mkF m 257 _ [])) _
      refine XS.aload X363.here hx rfl (hb hby at_257) rfl rfl ?_
      refine XS.iconst X363.here hx rfl (hb hby at_259) ?_
      show Steps _ _ _ (T363.setTop (mkF m 260 _ [(.int 3), (.ref ax)])) _
      refine X363.iaload hx (j := (3 : Int32)) (v := (.int ax_3)) (by rw [e363]; exact Ar400.1) (State.isArrayOf_alike hZ.alike Ar400.2.1) Ar400.2.2 hin402 hat402 (g := (mkF m 260 #[iv p0, iv p1, iv p2, iv p3, iv p4, iv p5, iv n_, iv m_, iv xo, iv yo, iv zo, iv 1, rv ax, rv ay, rv ax, iv xo, iv ax_0, iv ax_1, iv ax_2, iv ax_3, iv ay_0, iv ay_1, iv ay_2, iv ay_3, iv ax_0, iv ax_1, iv ax_2, .unset, .unset, .unset, .unset, .unset, .unset, .unset, .unset, .unset, .unset, .unset, .unset, .unset, .unset, .unset, .unset, .unset, .unset] [(.int 3), (.ref ax)])) rfl rfl (hb hby at_260) _ ?_
      refine XS.istore X363.here hx rfl (hb hby at_261) rfl (l' := #[iv p0, iv p1, iv p2, iv p3, iv p4, iv p5, iv n_, iv m_, iv xo, iv yo, iv zo, iv 1, rv ax, rv ay, rv ax, iv xo, iv ax_0, iv ax_1, iv ax_2, iv ax_3, iv ay_0, iv ay_1, iv ay_2, iv ay_3, iv ax_0, iv ax_1, iv ax_2, iv ax_3, .unset, .unset, .unset, .unset, .unset, .unset, .unset, .unset, .unset, .unset, .unset, .unset, .unset, .unset, .unset, .unset, .unset]) rfl ?_
      show Steps _ _ _ (T363.setTop (mkF m 263 _ [])) _
      refine XS.aload X363.here hx rfl (hb hby at_263) rfl rfl ?_
      refine XS.iload X363.here hx rfl (hb hby at_265) rfl ?_
      show Steps _ _ _ (T363.setTop (mkF m 267 _ [(.int xo), (.ref ax)])) _
      refine XS.aload X363.here hx rfl (hb hby at_267) rfl rfl ?_
      refine XS.iload X363.here hx rfl (hb hby at_269) rfl ?_
      show Steps _ _ _ (T363.setTop (mkF m 271 _ [(.int xo), (.ref ax), (.int xo), (.ref ax)])) _
      refine XS.iload X363.here hx rfl (hb hby at_271) rfl ?_
      refine XS.aload X363.here hx rfl (hb hby at_273) rfl rfl ?_
      show Steps _ _ _ (T363.setTop (mkF m 275 _ [(.ref ay), (.int n_), (.int xo), (.ref ax), (.int xo), (.ref ax)])) _
      refine XS.iload X363.here hx rfl (hb hby at_275) rfl ?_
      refine XS.iload X363.here hx rfl (hb hby at_277) rfl ?_
      show Steps _ _ _ (T363.setTop (mkF m 279 _ [(.int m_), (.int yo), (.ref ay), (.int n_), (.int xo), (.ref ax), (.int xo), (.ref ax)])) _
      refine st403 _ ?_
      show Steps _ _ _ (T403.setTop (mkF m 282 _ [(.int rr)])) _
      refine XS.istore X403.here hx rfl (hb hby at_282) rfl (l' := #[iv p0, iv p1, iv p2, iv p3, iv p4, iv p5, iv n_, iv m_, iv xo, iv yo, iv zo, iv 1, rv ax, rv ay, rv ax, iv xo, iv ax_0, iv ax_1, iv ax_2, iv ax_3, iv ay_0, iv ay_1, iv ay_2, iv ay_3, iv ax_0, iv ax_1, iv ax_2, iv ax_3, iv rr, .unset, .unset, .unset, .unset, .unset, .unset, .unset, .unset, .unset, .unset, .unset, .unset, .unset, .unset, .unset, .unset]) rfl ?_
      show Steps _ _ _ (T403.setTop (mkF m 284 _ [])) _
      refine XS.iload X403.here hx rfl (hb hby at_284) rfl ?_
      refine XS.iconst X403.here hx rfl (hb hby at_286) ?_
      show Steps _ _ _ (T403.setTop (mkF m 287 _ [(.int 1), (.int n_)])) _
      exact k)
    obtain ⟨w0_, hw0, go407⟩ : ∃ w0_ : Int32, (w0_ = (own_pick n_ (1 : Int32) p0)) ∧ ∀ t, Steps p.tables e below (T403.setTop (mkF m 297 #[iv p0, iv p1, iv p2, iv p3, iv p4, iv p5, iv n_, iv m_, iv xo, iv yo, iv zo, iv 1, rv ax, rv ay, rv ax, iv xo, iv ax_0, iv ax_1, iv ax_2, iv ax_3, iv ay_0, iv ay_1, iv ay_2, iv ay_3, iv ax_0, iv ax_1, iv ax_2, iv ax_3, iv rr, iv w0_, .unset, .unset, .unset, .unset, .unset, .unset, .unset, .unset, .unset, .unset, .unset, .unset, .unset, .unset, .unset] [])) t → Steps p.tables e below O t := by
      by_cases hb_ : n_ < (1 : Int32)
      · have go408 : ∀ t, Steps p.tables e below (T403.setTop (mkF m 297 #[iv p0, iv p1, iv p2, iv p3, iv p4, iv p5, iv n_, iv m_, iv xo, iv yo, iv zo, iv 1, rv ax, rv ay, rv ax, iv xo, iv ax_0, iv ax_1, iv ax_2, iv ax_3, iv ay_0, iv ay_1, iv ay_2, iv ay_3, iv ax_0, iv ax_1, iv ax_2, iv ax_3, iv rr, iv 0, .unset, .unset, .unset, .unset, .unset, .unset, .unset, .unset, .unset, .unset, .unset, .unset, .unset, .unset, .unset] [])) t → Steps p.tables e below O t := fun t k => go406 t (by
          refine XS.icmpYes X403.here hx rfl (pc0 := 287) (pc' := 294) rfl (hb hby at_287) rfl (tlt (hb_ : n_ < (1 : Int32))).1 (by decide) (by decide) ?_
          refine XS.iconst X403.here hx rfl (hb hby at_294) ?_
          show Steps _ _ _ (T403.setTop (mkF m 295 _ [(.int 0)])) _
          refine XS.istore X403.here hx rfl (hb hby at_295) rfl (l' := #[iv p0, iv p1, iv p2, iv p3, iv p4, iv p5, iv n_, iv m_, iv xo, iv yo, iv zo, iv 1, rv ax, rv ay, rv ax, iv xo, iv ax_0, iv ax_1, iv ax_2, iv ax_3, iv ay_0, iv ay_1, iv ay_2, iv ay_3, iv ax_0, iv ax_1, iv ax_2, iv ax_3, iv rr, iv 0, .unset, .unset, .unset, .unset, .unset, .unset, .unset, .unset, .unset, .unset, .unset, .unset, .unset, .unset, .unset]) rfl ?_
          show Steps _ _ _ (T403.setTop (mkF m 297 _ [])) _
          exact k)
        exact ⟨(0 : Int32), (by unfold own_pick; rw [if_pos hb_]), go408⟩
      · have go409 : ∀ t, Steps p.tables e below (T403.setTop (mkF m 297 #[iv p0, iv p1, iv p2, iv p3, iv p4, iv p5, iv n_, iv m_, iv xo, iv yo, iv zo, iv 1, rv ax, rv ay, rv ax, iv xo, iv ax_0, iv ax_1, iv ax_2, iv ax_3, iv ay_0, iv ay_1, iv ay_2, iv ay_3, iv ax_0, iv ax_1, iv ax_2, iv ax_3, iv rr, iv p0, .unset, .unset, .unset, .unset, .unset, .unset, .unset, .unset, .unset, .unset, .unset, .unset, .unset, .unset, .unset] [])) t → Steps p.tables e below O t := fun t k => go406 t (by
          refine XS.icmpNo X403.here hx rfl (hb hby at_287) rfl (flt (hb_ : ¬ (n_ < (1 : Int32)))).1 ?_
          refine XS.iloadN X403.here hx rfl (hb hby at_290) rfl ?_
          show Steps _ _ _ (T403.setTop (mkF m 291 _ [(.int p0)])) _
          refine XS.goto X403.here hx rfl (pc0 := 291) (pc' := 295) rfl (hb hby at_291) (by decide) (by decide) ?_
          refine XS.istore X403.here hx rfl (hb hby at_295) rfl (l' := #[iv p0, iv p1, iv p2, iv p3, iv p4, iv p5, iv n_, iv m_, iv xo, iv yo, iv zo, iv 1, rv ax, rv ay, rv ax, iv xo, iv ax_0, iv ax_1, iv ax_2, iv ax_3, iv ay_0, iv ay_1, iv ay_2, iv ay_3, iv ax_0, iv ax_1, iv ax_2, iv ax_3, iv rr, iv p0, .unset, .unset, .unset, .unset, .unset, .unset, .unset, .unset, .unset, .unset, .unset, .unset, .unset, .unset, .unset]) rfl ?_
          show Steps _ _ _ (T403.setTop (mkF m 297 _ [])) _
          exact k)
        exact ⟨p0, (by unfold own_pick; rw [if_neg hb_]), go409⟩
    have go410 : ∀ t, Steps p.tables e below (T403.setTop (mkF m 300 #[iv p0, iv p1, iv p2, iv p3, iv p4, iv p5, iv n_, iv m_, iv xo, iv yo, iv zo, iv 1, rv ax, rv ay, rv ax, iv xo, iv ax_0, iv ax_1, iv ax_2, iv ax_3, iv ay_0, iv ay_1, iv ay_2, iv ay_3, iv ax_0, iv ax_1, iv ax_2, iv ax_3, iv rr, iv w0_, .unset, .unset, .unset, .unset, .unset, .unset, .unset, .unset, .unset, .unset, .unset, .unset, .unset, .unset, .unset] [(.int 2), (.int n_)])) t → Steps p.tables e below O t := fun t k => go407 t (by
      refine XS.iload X403.here hx rfl (hb hby at_297) rfl ?_
      refine XS.iconst X403.here hx rfl (hb hby at_299) ?_
      show Steps _ _ _ (T403.setTop (mkF m 300 _ [(.int 2), (.int n_)])) _
      exact k)
    obtain ⟨w1_, hw1, go411⟩ : ∃ w1_ : Int32, (w1_ = (own_pick n_ (2 : Int32) p1)) ∧ ∀ t, Steps p.tables e below (T403.setTop (mkF m 310 #[iv p0, iv p1, iv p2, iv p3, iv p4, iv p5, iv n_, iv m_, iv xo, iv yo, iv zo, iv 1, rv ax, rv ay, rv ax, iv xo, iv ax_0, iv ax_1, iv ax_2, iv ax_3, iv ay_0, iv ay_1, iv ay_2, iv ay_3, iv ax_0, iv ax_1, iv ax_2, iv ax_3, iv rr, iv w0_, iv w1_, .unset, .unset, .unset, .unset, .unset, .unset, .unset, .unset, .unset, .unset, .unset, .unset, .unset, .unset] [])) t → Steps p.tables e below O t := by
      by_cases hb_ : n_ < (2 : Int32)
      · have go412 : ∀ t, Steps p.tables e below (T403.setTop (mkF m 310 #[iv p0, iv p1, iv p2, iv p3, iv p4, iv p5, iv n_, iv m_, iv xo, iv yo, iv zo, iv 1, rv ax, rv ay, rv ax, iv xo, iv ax_0, iv ax_1, iv ax_2, iv ax_3, iv ay_0, iv ay_1, iv ay_2, iv ay_3, iv ax_0, iv ax_1, iv ax_2, iv ax_3, iv rr, iv w0_, iv 0, .unset, .unset, .unset, .unset, .unset, .unset, .unset, .unset, .unset, .unset, .unset, .unset, .unset, .unset] [])) t → Steps p.tables e below O t := fun t k => go410 t (by
          refine XS.icmpYes X403.here hx rfl (pc0 := 300) (pc' := 307) rfl (hb hby at_300) rfl (tlt (hb_ : n_ < (2 : Int32))).1 (by decide) (by decide) ?_
          refine XS.iconst X403.here hx rfl (hb hby at_307) ?_
          show Steps _ _ _ (T403.setTop (mkF m 308 _ [(.int 0)])) _
          refine XS.istore X403.here hx rfl (hb hby at_308) rfl (l' := #[iv p0, iv p1, iv p2, iv p3, iv p4, iv p5, iv n_, iv m_, iv xo, iv yo, iv zo, iv 1, rv ax, rv ay, rv ax, iv xo, iv ax_0, iv ax_1, iv ax_2, iv ax_3, iv ay_0, iv ay_1, iv ay_2, iv ay_3, iv ax_0, iv ax_1, iv ax_2, iv ax_3, iv rr, iv w0_, iv 0, .unset, .unset, .unset, .unset, .unset, .unset, .unset, .unset, .unset, .unset, .unset, .unset, .unset, .unset]) rfl ?_
          show Steps _ _ _ (T403.setTop (mkF m 310 _ [])) _
          exact k)
        exact ⟨(0 : Int32), (by unfold own_pick; rw [if_pos hb_]), go412⟩
      · have go413 : ∀ t, Steps p.tables e below (T403.setTop (mkF m 310 #[iv p0, iv p1, iv p2, iv p3, iv p4, iv p5, iv n_, iv m_, iv xo, iv yo, iv zo, iv 1, rv ax, rv ay, rv ax, iv xo, iv ax_0, iv ax_1, iv ax_2, iv ax_3, iv ay_0, iv ay_1, iv ay_2, iv ay_3, iv ax_0, iv ax_1, iv ax_2, iv ax_3, iv rr, iv w0_, iv p1, .unset, .unset, .unset, .unset, .unset, .unset, .unset, .unset, .unset, .unset, .unset, .unset, .unset, .unset] [])) t → Steps p.tables e below O t := fun t k => go410 t (by
          refine XS.icmpNo X403.here hx rfl (hb hby at_300) rfl (flt (hb_ : ¬ (n_ < (2 : Int32)))).1 ?_
          refine XS.iloadN X403.here hx rfl (hb hby at_303) rfl ?_
          show Steps _ _ _ (T403.setTop (mkF m 304 _ [(.int p1)])) _
          refine XS.goto X403.here hx rfl (pc0 := 304) (pc' := 308) rfl (hb hby at_304) (by decide) (by decide) ?_
          refine XS.istore X403.here hx rfl (hb hby at_308) rfl (l' := #[iv p0, iv p1, iv p2, iv p3, iv p4, iv p5, iv n_, iv m_, iv xo, iv yo, iv zo, iv 1, rv ax, rv ay, rv ax, iv xo, iv ax_0, iv ax_1, iv ax_2, iv ax_3, iv ay_0, iv ay_1, iv ay_2, iv ay_3, iv ax_0, iv ax_1, iv ax_2, iv ax_3, iv rr, iv w0_, iv p1, .unset, .unset, .unset, .unset, .unset, .unset, .unset, .unset, .unset, .unset, .unset, .unset, .unset, .unset]) rfl ?_
          show Steps _ _ _ (T403.setTop (mkF m 310 _ [])) _
          exact k)
        exact ⟨p1, (by unfold own_pick; rw [if_neg hb_]), go413⟩
    have go414 : ∀ t, Steps p.tables e below (T403.setTop (mkF m 313 #[iv p0, iv p1, iv p2, iv p3, iv p4, iv p5, iv n_, iv m_, iv xo, iv yo, iv zo, iv 1, rv ax, rv ay, rv ax, iv xo, iv ax_0, iv ax_1, iv ax_2, iv ax_3, iv ay_0, iv ay_1, iv ay_2, iv ay_3, iv ax_0, iv ax_1, iv ax_2, iv ax_3, iv rr, iv w0_, iv w1_, .unset, .unset, .unset, .unset, .unset, .unset, .unset, .unset, .unset, .unset, .unset, .unset, .unset, .unset] [(.int 1), (.int m_)])) t → Steps p.tables e below O t := fun t k => go411 t (by
      refine XS.iload X403.here hx rfl (hb hby at_310) rfl ?_
      refine XS.iconst X403.here hx rfl (hb hby at_312) ?_
      show Steps _ _ _ (T403.setTop (mkF m 313 _ [(.int 1), (.int m_)])) _
      exact k)
    obtain ⟨w2_, hw2, go415⟩ : ∃ w2_ : Int32, (w2_ = (own_pick m_ (1 : Int32) p2)) ∧ ∀ t, Steps p.tables e below (T403.setTop (mkF m 323 #[iv p0, iv p1, iv p2, iv p3, iv p4, iv p5, iv n_, iv m_, iv xo, iv yo, iv zo, iv 1, rv ax, rv ay, rv ax, iv xo, iv ax_0, iv ax_1, iv ax_2, iv ax_3, iv ay_0, iv ay_1, iv ay_2, iv ay_3, iv ax_0, iv ax_1, iv ax_2, iv ax_3, iv rr, iv w0_, iv w1_, iv w2_, .unset, .unset, .unset, .unset, .unset, .unset, .unset, .unset, .unset, .unset, .unset, .unset, .unset] [])) t → Steps p.tables e below O t := by
      by_cases hb_ : m_ < (1 : Int32)
      · have go416 : ∀ t, Steps p.tables e below (T403.setTop (mkF m 323 #[iv p0, iv p1, iv p2, iv p3, iv p4, iv p5, iv n_, iv m_, iv xo, iv yo, iv zo, iv 1, rv ax, rv ay, rv ax, iv xo, iv ax_0, iv ax_1, iv ax_2, iv ax_3, iv ay_0, iv ay_1, iv ay_2, iv ay_3, iv ax_0, iv ax_1, iv ax_2, iv ax_3, iv rr, iv w0_, iv w1_, iv 0, .unset, .unset, .unset, .unset, .unset, .unset, .unset, .unset, .unset, .unset, .unset, .unset, .unset] [])) t → Steps p.tables e below O t := fun t k => go414 t (by
          refine XS.icmpYes X403.here hx rfl (pc0 := 313) (pc' := 320) rfl (hb hby at_313) rfl (tlt (hb_ : m_ < (1 : Int32))).1 (by decide) (by decide) ?_
          refine XS.iconst X403.here hx rfl (hb hby at_320) ?_
          show Steps _ _ _ (T403.setTop (mkF m 321 _ [(.int 0)])) _
          refine XS.istore X403.here hx rfl (hb hby at_321) rfl (l' := #[iv p0, iv p1, iv p2, iv p3, iv p4, iv p5, iv n_, iv m_, iv xo, iv yo, iv zo, iv 1, rv ax, rv ay, rv ax, iv xo, iv ax_0, iv ax_1, iv ax_2, iv ax_3, iv ay_0, iv ay_1, iv ay_2, iv ay_3, iv ax_0, iv ax_1, iv ax_2, iv ax_3, iv rr, iv w0_, iv w1_, iv 0, .unset, .unset, .unset, .unset, .unset, .unset, .unset, .unset, .unset, .unset, .unset, .unset, .unset]) rfl ?_
          show Steps _ _ _ (T403.setTop (mkF m 323 _ [])) _
          exact k)
        exact ⟨(0 : Int32), (by unfold own_pick; rw [if_pos hb_]), go416⟩
      · have go417 : ∀ t, Steps p.tables e below (T403.setTop (mkF m 323 #[iv p0, iv p1, iv p2, iv p3, iv p4, iv p5, iv n_, iv m_, iv xo, iv yo, iv zo, iv 1, rv ax, rv ay, rv ax, iv xo, iv ax_0, iv ax_1, iv ax_2, iv ax_3, iv ay_0, iv ay_1, iv ay_2, iv ay_3, iv ax_0, iv ax_1, iv ax_2, iv ax_3, iv rr, iv w0_, iv w1_, iv p2, .unset, .unset, .unset, .unset, .unset, .unset, .unset, .unset, .unset, .unset, .unset, .unset, .unset] [])) t → Steps p.tables e below O t := fun t k => go414 t (by
          refine XS.icmpNo X403.here hx rfl (hb hby at_313) rfl (flt (hb_ : ¬ (m_ < (1 : Int32)))).1 ?_
          refine XS.iloadN X403.here hx rfl (hb hby at_316) rfl ?_
          show Steps _ _ _ (T403.setTop (mkF m 317 _ [(.int p2)])) _
          refine XS.goto X403.here hx rfl (pc0 := 317) (pc' := 321) rfl (hb hby at_317) (by decide) (by decide) ?_
          refine XS.istore X403.here hx rfl (hb hby at_321) rfl (l' := #[iv p0, iv p1, iv p2, iv p3, iv p4, iv p5, iv n_, iv m_, iv xo, iv yo, iv zo, iv 1, rv ax, rv ay, rv ax, iv xo, iv ax_0, iv ax_1, iv ax_2, iv ax_3, iv ay_0, iv ay_1, iv ay_2, iv ay_3, iv ax_0, iv ax_1, iv ax_2, iv ax_3, iv rr, iv w0_, iv w1_, iv p2, .unset, .unset, .unset, .unset, .unset, .unset, .unset, .unset, .unset, .unset, .unset, .unset, .unset]) rfl ?_
          show Steps _ _ _ (T403.setTop (mkF m 323 _ [])) _
          exact k)
        exact ⟨p2, (by unfold own_pick; rw [if_neg hb_]), go417⟩
    have go418 : ∀ t, Steps p.tables e below (T403.setTop (mkF m 326 #[iv p0, iv p1, iv p2, iv p3, iv p4, iv p5, iv n_, iv m_, iv xo, iv yo, iv zo, iv 1, rv ax, rv ay, rv ax, iv xo, iv ax_0, iv ax_1, iv ax_2, iv ax_3, iv ay_0, iv ay_1, iv ay_2, iv ay_3, iv ax_0, iv ax_1, iv ax_2, iv ax_3, iv rr, iv w0_, iv w1_, iv w2_, .unset, .unset, .unset, .unset, .unset, .unset, .unset, .unset, .unset, .unset, .unset, .unset, .unset] [(.int 2), (.int m_)])) t → Steps p.tables e below O t := fun t k => go415 t (by
      refine XS.iload X403.here hx rfl (hb hby at_323) rfl ?_
      refine XS.iconst X403.here hx rfl (hb hby at_325) ?_
      show Steps _ _ _ (T403.setTop (mkF m 326 _ [(.int 2), (.int m_)])) _
      exact k)
    obtain ⟨w3_, hw3, go419⟩ : ∃ w3_ : Int32, (w3_ = (own_pick m_ (2 : Int32) p3)) ∧ ∀ t, Steps p.tables e below (T403.setTop (mkF m 336 #[iv p0, iv p1, iv p2, iv p3, iv p4, iv p5, iv n_, iv m_, iv xo, iv yo, iv zo, iv 1, rv ax, rv ay, rv ax, iv xo, iv ax_0, iv ax_1, iv ax_2, iv ax_3, iv ay_0, iv ay_1, iv ay_2, iv ay_3, iv ax_0, iv ax_1, iv ax_2, iv ax_3, iv rr, iv w0_, iv w1_, iv w2_, iv w3_, .unset, .unset, .unset, .unset, .unset, .unset, .unset, .unset, .unset, .unset, .unset, .unset] [])) t → Steps p.tables e below O t := by
      by_cases hb_ : m_ < (2 : Int32)
      · have go420 : ∀ t, Steps p.tables e below (T403.setTop (mkF m 336 #[iv p0, iv p1, iv p2, iv p3, iv p4, iv p5, iv n_, iv m_, iv xo, iv yo, iv zo, iv 1, rv ax, rv ay, rv ax, iv xo, iv ax_0, iv ax_1, iv ax_2, iv ax_3, iv ay_0, iv ay_1, iv ay_2, iv ay_3, iv ax_0, iv ax_1, iv ax_2, iv ax_3, iv rr, iv w0_, iv w1_, iv w2_, iv 0, .unset, .unset, .unset, .unset, .unset, .unset, .unset, .unset, .unset, .unset, .unset, .unset] [])) t → Steps p.tables e below O t := fun t k => go418 t (by
          refine XS.icmpYes X403.here hx rfl (pc0 := 326) (pc' := 333) rfl (hb hby at_326) rfl (tlt (hb_ : m_ < (2 : Int32))).1 (by decide) (by decide) ?_
          refine XS.iconst X403.here hx rfl (hb hby at_333) ?_
          show Steps _ _ _ (T403.setTop (mkF m 334 _ [(.int 0)])) _
          refine XS.istore X403.here hx rfl (hb hby at_334) rfl (l' := #[iv p0, iv p1, iv p2, iv p3, iv p4, iv p5, iv n_, iv m_, iv xo, iv yo, iv zo, iv 1, rv ax, rv ay, rv ax, iv xo, iv ax_0, iv ax_1, iv ax_2, iv ax_3, iv ay_0, iv ay_1, iv ay_2, iv ay_3, iv ax_0, iv ax_1, iv ax_2, iv ax_3, iv rr, iv w0_, iv w1_, iv w2_, iv 0, .unset, .unset, .unset, .unset, .unset, .unset, .unset, .unset, .unset, .unset, .unset, .unset]) rfl ?_
          show Steps _ _ _ (T403.setTop (mkF m 336 _ [])) _
          exact k)
        exact ⟨(0 : Int32), (by unfold own_pick; rw [if_pos hb_]), go420⟩
      · have go421 : ∀ t, Steps p.tables e below (T403.setTop (mkF m 336 #[iv p0, iv p1, iv p2, iv p3, iv p4, iv p5, iv n_, iv m_, iv xo, iv yo, iv zo, iv 1, rv ax, rv ay, rv ax, iv xo, iv ax_0, iv ax_1, iv ax_2, iv ax_3, iv ay_0, iv ay_1, iv ay_2, iv ay_3, iv ax_0, iv ax_1, iv ax_2, iv ax_3, iv rr, iv w0_, iv w1_, iv w2_, iv p3, .unset, .unset, .unset, .unset, .unset, .unset, .unset, .unset, .unset, .unset, .unset, .unset] [])) t → Steps p.tables e below O t := fun t k => go418 t (by
          refine XS.icmpNo X403.here hx rfl (hb hby at_326) rfl (flt (hb_ : ¬ (m_ < (2 : Int32)))).1 ?_
          refine XS.iloadN X403.here hx rfl (hb hby at_329) rfl ?_
          show Steps _ _ _ (T403.setTop (mkF m 330 _ [(.int p3)])) _
          refine XS.goto X403.here hx rfl (pc0 := 330) (pc' := 334) rfl (hb hby at_330) (by decide) (by decide) ?_
          refine XS.istore X403.here hx rfl (hb hby at_334) rfl (l' := #[iv p0, iv p1, iv p2, iv p3, iv p4, iv p5, iv n_, iv m_, iv xo, iv yo, iv zo, iv 1, rv ax, rv ay, rv ax, iv xo, iv ax_0, iv ax_1, iv ax_2, iv ax_3, iv ay_0, iv ay_1, iv ay_2, iv ay_3, iv ax_0, iv ax_1, iv ax_2, iv ax_3, iv rr, iv w0_, iv w1_, iv w2_, iv p3, .unset, .unset, .unset, .unset, .unset, .unset, .unset, .unset, .unset, .unset, .unset, .unset]) rfl ?_
          show Steps _ _ _ (T403.setTop (mkF m 336 _ [])) _
          exact k)
        exact ⟨p3, (by unfold own_pick; rw [if_neg hb_]), go421⟩
    have go422 : ∀ t, Steps p.tables e below (T403.setTop (mkF m 352 #[iv p0, iv p1, iv p2, iv p3, iv p4, iv p5, iv n_, iv m_, iv xo, iv yo, iv zo, iv 1, rv ax, rv ay, rv ax, iv xo, iv ax_0, iv ax_1, iv ax_2, iv ax_3, iv ay_0, iv ay_1, iv ay_2, iv ay_3, iv ax_0, iv ax_1, iv ax_2, iv ax_3, iv rr, iv w0_, iv w1_, iv w2_, iv w3_, .val (.long ((w1_.toInt64 <<< ((32 : Int32) &&& 0x3f).toInt64) ||| (w0_.toInt64 &&& (4294967295 : Int64)))), .second, .unset, .unset, .unset, .unset, .unset, .unset, .unset, .unset, .unset, .unset] [])) t → Steps p.tables e below O t := fun t k => go419 t (by
      refine XS.iload X403.here hx rfl (hb hby at_336) rfl ?_
      refine XS.i2l X403.here hx rfl (hb hby at_338) rfl ?_
      show Steps _ _ _ (T403.setTop (mkF m 339 _ [(.long w1_.toInt64)])) _
      refine XS.bipush X403.here hx rfl (hb hby at_339) ?_
      refine XS.lshl X403.here hx rfl (hb hby at_341) rfl ?_
      show Steps _ _ _ (T403.setTop (mkF m 342 _ [(.long (w1_.toInt64 <<< ((32 : Int32) &&& 0x3f).toInt64))])) _
      refine XS.iload X403.here hx rfl (hb hby at_342) rfl ?_
      refine XS.i2l X403.here hx rfl (hb hby at_344) rfl ?_
      show Steps _ _ _ (T403.setTop (mkF m 345 _ [(.long w0_.toInt64), (.long (w1_.toInt64 <<< ((32 : Int32) &&& 0x3f).toInt64))])) _
      refine X403.ldc2Long hx hown (mvT hZ (hw _ (List.mem_of_getElem? (i := 6) rfl))) (g := (mkF m 345 #[iv p0, iv p1, iv p2, iv p3, iv p4, iv p5, iv n_, iv m_, iv xo, iv yo, iv zo, iv 1, rv ax, rv ay, rv ax, iv xo, iv ax_0, iv ax_1, iv ax_2, iv ax_3, iv ay_0, iv ay_1, iv ay_2, iv ay_3, iv ax_0, iv ax_1, iv ax_2, iv ax_3, iv rr, iv w0_, iv w1_, iv w2_, iv w3_, .unset, .unset, .unset, .unset, .unset, .unset, .unset, .unset, .unset, .unset, .unset, .unset] [(.long w0_.toInt64), (.long (w1_.toInt64 <<< ((32 : Int32) &&& 0x3f).toInt64))])) rfl (hb hby at_345) _ ?_
      refine XS.land X403.here hx rfl (hb hby at_348) rfl ?_
      show Steps _ _ _ (T403.setTop (mkF m 349 _ [(.long (w0_.toInt64 &&& (4294967295 : Int64))), (.long (w1_.toInt64 <<< ((32 : Int32) &&& 0x3f).toInt64))])) _
      refine XS.lor X403.here hx rfl (hb hby at_349) rfl ?_
      refine XS.lstore X403.here hx rfl (hb hby at_350) rfl (l' := #[iv p0, iv p1, iv p2, iv p3, iv p4, iv p5, iv n_, iv m_, iv xo, iv yo, iv zo, iv 1, rv ax, rv ay, rv ax, iv xo, iv ax_0, iv ax_1, iv ax_2, iv ax_3, iv ay_0, iv ay_1, iv ay_2, iv ay_3, iv ax_0, iv ax_1, iv ax_2, iv ax_3, iv rr, iv w0_, iv w1_, iv w2_, iv w3_, .val (.long ((w1_.toInt64 <<< ((32 : Int32) &&& 0x3f).toInt64) ||| (w0_.toInt64 &&& (4294967295 : Int64)))), .second, .unset, .unset, .unset, .unset, .unset, .unset, .unset, .unset, .unset, .unset]) rfl ?_
      show Steps _ _ _ (T403.setTop (mkF m 352 _ [])) _
      exact k)
    obtain ⟨bx, hbx⟩ : ∃ z : Int64, z = ((w1_.toInt64 <<< ((32 : Int32) &&& 0x3f).toInt64) ||| (w0_.toInt64 &&& (4294967295 : Int64))) := ⟨_, rfl⟩
    rw [← hbx] at go422
    have go423 : ∀ t, Steps p.tables e below (T403.setTop (mkF m 368 #[iv p0, iv p1, iv p2, iv p3, iv p4, iv p5, iv n_, iv m_, iv xo, iv yo, iv zo, iv 1, rv ax, rv ay, rv ax, iv xo, iv ax_0, iv ax_1, iv ax_2, iv ax_3, iv ay_0, iv ay_1, iv ay_2, iv ay_3, iv ax_0, iv ax_1, iv ax_2, iv ax_3, iv rr, iv w0_, iv w1_, iv w2_, iv w3_, .val (.long bx), .second, .val (.long ((w3_.toInt64 <<< ((32 : Int32) &&& 0x3f).toInt64) ||| (w2_.toInt64 &&& (4294967295 : Int64)))), .second, .unset, .unset, .unset, .unset, .unset, .unset, .unset, .unset] [])) t → Steps p.tables e below O t := fun t k => go422 t (by
      refine XS.iload X403.here hx rfl (hb hby at_352) rfl ?_
      refine XS.i2l X403.here hx rfl (hb hby at_354) rfl ?_
      show Steps _ _ _ (T403.setTop (mkF m 355 _ [(.long w3_.toInt64)])) _
      refine XS.bipush X403.here hx rfl (hb hby at_355) ?_
      refine XS.lshl X403.here hx rfl (hb hby at_357) rfl ?_
      show Steps _ _ _ (T403.setTop (mkF m 358 _ [(.long (w3_.toInt64 <<< ((32 : Int32) &&& 0x3f).toInt64))])) _
      refine XS.iload X403.here hx rfl (hb hby at_358) rfl ?_
      refine XS.i2l X403.here hx rfl (hb hby at_360) rfl ?_
      show Steps _ _ _ (T403.setTop (mkF m 361 _ [(.long w2_.toInt64), (.long (w3_.toInt64 <<< ((32 : Int32) &&& 0x3f).toInt64))])) _
      refine X403.ldc2Long hx hown (mvT hZ (hw _ (List.mem_of_getElem? (i := 6) rfl))) (g := (mkF m 361 #[iv p0, iv p1, iv p2, iv p3, iv p4, iv p5, iv n_, iv m_, iv xo, iv yo, iv zo, iv 1, rv ax, rv ay, rv ax, iv xo, iv ax_0, iv ax_1, iv ax_2, iv ax_3, iv ay_0, iv ay_1, iv ay_2, iv ay_3, iv ax_0, iv ax_1, iv ax_2, iv ax_3, iv rr, iv w0_, iv w1_, iv w2_, iv w3_, .val (.long bx), .second, .unset, .unset, .unset, .unset, .unset, .unset, .unset, .unset, .unset, .unset] [(.long w2_.toInt64), (.long (w3_.toInt64 <<< ((32 : Int32) &&& 0x3f).toInt64))])) rfl (hb hby at_361) _ ?_
      refine XS.land X403.here hx rfl (hb hby at_364) rfl ?_
      show Steps _ _ _ (T403.setTop (mkF m 365 _ [(.long (w2_.toInt64 &&& (4294967295 : Int64))), (.long (w3_.toInt64 <<< ((32 : Int32) &&& 0x3f).toInt64))])) _
      refine XS.lor X403.here hx rfl (hb hby at_365) rfl ?_
      refine XS.lstore X403.here hx rfl (hb hby at_366) rfl (l' := #[iv p0, iv p1, iv p2, iv p3, iv p4, iv p5, iv n_, iv m_, iv xo, iv yo, iv zo, iv 1, rv ax, rv ay, rv ax, iv xo, iv ax_0, iv ax_1, iv ax_2, iv ax_3, iv ay_0, iv ay_1, iv ay_2, iv ay_3, iv ax_0, iv ax_1, iv ax_2, iv ax_3, iv rr, iv w0_, iv w1_, iv w2_, iv w3_, .val (.long bx), .second, .val (.long ((w3_.toInt64 <<< ((32 : Int32) &&& 0x3f).toInt64) ||| (w2_.toInt64 &&& (4294967295 : Int64)))), .second, .unset, .unset, .unset, .unset, .unset, .unset, .unset, .unset]) rfl ?_
      show Steps _ _ _ (T403.setTop (mkF m 368 _ [])) _
      exact k)
    obtain ⟨by_, hby_⟩ : ∃ z : Int64, z = ((w3_.toInt64 <<< ((32 : Int32) &&& 0x3f).toInt64) ||| (w2_.toInt64 &&& (4294967295 : Int64))) := ⟨_, rfl⟩
    rw [← hby_] at go423
    have go424 : ∀ t, Steps p.tables e below (T403.setTop (mkF m 375 #[iv p0, iv p1, iv p2, iv p3, iv p4, iv p5, iv n_, iv m_, iv xo, iv yo, iv zo, iv 1, rv ax, rv ay, rv ax, iv xo, iv ax_0, iv ax_1, iv ax_2, iv ax_3, iv ay_0, iv ay_1, iv ay_2, iv ay_3, iv ax_0, iv ax_1, iv ax_2, iv ax_3, iv rr, iv w0_, iv w1_, iv w2_, iv w3_, .val (.long bx), .second, .val (.long by_), .second, .val (.long (bx + by_)), .second, .unset, .unset, .unset, .unset, .unset, .unset] [])) t → Steps p.tables e below O t := fun t k => go423 t (by
      refine XS.lload X403.here hx rfl (hb hby at_368) rfl ?_
      refine XS.lload X403.here hx rfl (hb hby at_370) rfl ?_
      show Steps _ _ _ (T403.setTop (mkF m 372 _ [(.long by_), (.long bx)])) _
      refine XS.ladd X403.here hx rfl (hb hby at_372) rfl ?_
      refine XS.lstore X403.here hx rfl (hb hby at_373) rfl (l' := #[iv p0, iv p1, iv p2, iv p3, iv p4, iv p5, iv n_, iv m_, iv xo, iv yo, iv zo, iv 1, rv ax, rv ay, rv ax, iv xo, iv ax_0, iv ax_1, iv ax_2, iv ax_3, iv ay_0, iv ay_1, iv ay_2, iv ay_3, iv ax_0, iv ax_1, iv ax_2, iv ax_3, iv rr, iv w0_, iv w1_, iv w2_, iv w3_, .val (.long bx), .second, .val (.long by_), .second, .val (.long (bx + by_)), .second, .unset, .unset, .unset, .unset, .unset, .unset]) rfl ?_
      show Steps _ _ _ (T403.setTop (mkF m 375 _ [])) _
      exact k)
    have hE : (bx + by_) = sm := by rw [hsm, hbx, hby_, hw0, hw1, hw2, hw3]; rfl
    rw [hE] at go424
    have go425 : ∀ t, Steps p.tables e below (T403.setTop (mkF m 398 #[iv p0, iv p1, iv p2, iv p3, iv p4, iv p5, iv n_, iv m_, iv xo, iv yo, iv zo, iv 1, rv ax, rv ay, rv ax, iv xo, iv ax_0, iv ax_1, iv ax_2, iv ax_3, iv ay_0, iv ay_1, iv ay_2, iv ay_3, iv ax_0, iv ax_1, iv ax_2, iv ax_3, iv rr, iv w0_, iv w1_, iv w2_, iv w3_, .val (.long bx), .second, .val (.long by_), .second, .val (.long sm), .second, .val (.long ((((bx &&& by_) ||| ((bx ||| by_) &&& (sm ^^^ (-1 : Int64)))).toUInt64 >>> ((63 : Int32) &&& 0x3f).toInt64.toUInt64).toInt64)), .second, .unset, .unset, .unset, .unset] [])) t → Steps p.tables e below O t := fun t k => go424 t (by
      refine XS.lload X403.here hx rfl (hb hby at_375) rfl ?_
      refine XS.lload X403.here hx rfl (hb hby at_377) rfl ?_
      show Steps _ _ _ (T403.setTop (mkF m 379 _ [(.long by_), (.long bx)])) _
      refine XS.land X403.here hx rfl (hb hby at_379) rfl ?_
      refine XS.lload X403.here hx rfl (hb hby at_380) rfl ?_
      show Steps _ _ _ (T403.setTop (mkF m 382 _ [(.long bx), (.long (bx &&& by_))])) _
      refine XS.lload X403.here hx rfl (hb hby at_382) rfl ?_
      refine XS.lor X403.here hx rfl (hb hby at_384) rfl ?_
      show Steps _ _ _ (T403.setTop (mkF m 385 _ [(.long (bx ||| by_)), (.long (bx &&& by_))])) _
      refine XS.lload X403.here hx rfl (hb hby at_385) rfl ?_
      refine X403.ldc2Long hx hown (mvT hZ (hw _ (List.mem_of_getElem? (i := 7) rfl))) (g := (mkF m 387 #[iv p0, iv p1, iv p2, iv p3, iv p4, iv p5, iv n_, iv m_, iv xo, iv yo, iv zo, iv 1, rv ax, rv ay, rv ax, iv xo, iv ax_0, iv ax_1, iv ax_2, iv ax_3, iv ay_0, iv ay_1, iv ay_2, iv ay_3, iv ax_0, iv ax_1, iv ax_2, iv ax_3, iv rr, iv w0_, iv w1_, iv w2_, iv w3_, .val (.long bx), .second, .val (.long by_), .second, .val (.long sm), .second, .unset, .unset, .unset, .unset, .unset, .unset] [(.long sm), (.long (bx ||| by_)), (.long (bx &&& by_))])) rfl (hb hby at_387) _ ?_
      show Steps _ _ _ (T403.setTop (mkF m 390 _ [(.long (-1 : Int64)), (.long sm), (.long (bx ||| by_)), (.long (bx &&& by_))])) _
      refine XS.lxor X403.here hx rfl (hb hby at_390) rfl ?_
      refine XS.land X403.here hx rfl (hb hby at_391) rfl ?_
      show Steps _ _ _ (T403.setTop (mkF m 392 _ [(.long ((bx ||| by_) &&& (sm ^^^ (-1 : Int64)))), (.long (bx &&& by_))])) _
      refine XS.lor X403.here hx rfl (hb hby at_392) rfl ?_
      refine XS.bipush X403.here hx rfl (hb hby at_393) ?_
      show Steps _ _ _ (T403.setTop (mkF m 395 _ [(.int 63), (.long ((bx &&& by_) ||| ((bx ||| by_) &&& (sm ^^^ (-1 : Int64)))))])) _
      refine XS.lushr X403.here hx rfl (hb hby at_395) rfl ?_
      show Steps _ _ _ (T403.setTop (mkF m 396 #[iv p0, iv p1, iv p2, iv p3, iv p4, iv p5, iv n_, iv m_, iv xo, iv yo, iv zo, iv 1, rv ax, rv ay, rv ax, iv xo, iv ax_0, iv ax_1, iv ax_2, iv ax_3, iv ay_0, iv ay_1, iv ay_2, iv ay_3, iv ax_0, iv ax_1, iv ax_2, iv ax_3, iv rr, iv w0_, iv w1_, iv w2_, iv w3_, .val (.long bx), .second, .val (.long by_), .second, .val (.long sm), .second, .unset, .unset, .unset, .unset, .unset, .unset] [(.long ((((bx &&& by_) ||| ((bx ||| by_) &&& (sm ^^^ (-1 : Int64)))).toUInt64 >>> ((63 : Int32) &&& 0x3f).toInt64.toUInt64).toInt64))])) _
      refine XS.lstore X403.here hx rfl (hb hby at_396) rfl (l' := #[iv p0, iv p1, iv p2, iv p3, iv p4, iv p5, iv n_, iv m_, iv xo, iv yo, iv zo, iv 1, rv ax, rv ay, rv ax, iv xo, iv ax_0, iv ax_1, iv ax_2, iv ax_3, iv ay_0, iv ay_1, iv ay_2, iv ay_3, iv ax_0, iv ax_1, iv ax_2, iv ax_3, iv rr, iv w0_, iv w1_, iv w2_, iv w3_, .val (.long bx), .second, .val (.long by_), .second, .val (.long sm), .second, .val (.long ((((bx &&& by_) ||| ((bx ||| by_) &&& (sm ^^^ (-1 : Int64)))).toUInt64 >>> ((63 : Int32) &&& 0x3f).toInt64.toUInt64).toInt64)), .second, .unset, .unset, .unset, .unset]) rfl ?_
      show Steps _ _ _ (T403.setTop (mkF m 398 _ [])) _
      exact k)
    obtain ⟨cc, hcc⟩ : ∃ z : Int64, z = ((((bx &&& by_) ||| ((bx ||| by_) &&& (sm ^^^ (-1 : Int64)))).toUInt64 >>> ((63 : Int32) &&& 0x3f).toInt64.toUInt64).toInt64) := ⟨_, rfl⟩
    rw [← hcc] at go425
    have go426 : ∀ t, Steps p.tables e below (T403.setTop (mkF m 401 #[iv p0, iv p1, iv p2, iv p3, iv p4, iv p5, iv n_, iv m_, iv xo, iv yo, iv zo, iv 1, rv ax, rv ay, rv ax, iv xo, iv ax_0, iv ax_1, iv ax_2, iv ax_3, iv ay_0, iv ay_1, iv ay_2, iv ay_3, iv ax_0, iv ax_1, iv ax_2, iv ax_3, iv rr, iv w0_, iv w1_, iv w2_, iv w3_, .val (.long bx), .second, .val (.long by_), .second, .val (.long sm), .second, .val (.long cc), .second, .unset, .unset, .unset, .unset] [(.int 2), (.int n_)])) t → Steps p.tables e below O t := fun t k => go425 t (by
      refine XS.iload X403.here hx rfl (hb hby at_398) rfl ?_
      refine XS.iconst X403.here hx rfl (hb hby at_400) ?_
      show Steps _ _ _ (T403.setTop (mkF m 401 _ [(.int 2), (.int n_)])) _
      exact k)
    obtain ⟨ec, hec, go427⟩ : ∃ ec : Int32, (ec = own_carry n_ m_ p0 p1 p2 p3) ∧ ∀ t, Steps p.tables e below (T403.setTop (mkF m 418 #[iv p0, iv p1, iv p2, iv p3, iv p4, iv p5, iv n_, iv m_, iv xo, iv yo, iv zo, iv 1, rv ax, rv ay, rv ax, iv xo, iv ax_0, iv ax_1, iv ax_2, iv ax_3, iv ay_0, iv ay_1, iv ay_2, iv ay_3, iv ax_0, iv ax_1, iv ax_2, iv ax_3, iv rr, iv w0_, iv w1_, iv w2_, iv w3_, .val (.long bx), .second, .val (.long by_), .second, .val (.long sm), .second, .val (.long cc), .second, iv ec, .unset, .unset, .unset] [])) t → Steps p.tables e below O t := by
      by_cases hb_ : n_ = (2 : Int32)
      · have go428 : ∀ t, Steps p.tables e below (T403.setTop (mkF m 418 #[iv p0, iv p1, iv p2, iv p3, iv p4, iv p5, iv n_, iv m_, iv xo, iv yo, iv zo, iv 1, rv ax, rv ay, rv ax, iv xo, iv ax_0, iv ax_1, iv ax_2, iv ax_3, iv ay_0, iv ay_1, iv ay_2, iv ay_3, iv ax_0, iv ax_1, iv ax_2, iv ax_3, iv rr, iv w0_, iv w1_, iv w2_, iv w3_, .val (.long bx), .second, .val (.long by_), .second, .val (.long sm), .second, .val (.long cc), .second, iv cc.toInt32, .unset, .unset, .unset] [])) t → Steps p.tables e below O t := fun t k => go426 t (by
          refine XS.icmpNo X403.here hx rfl (hb hby at_401) rfl (teq (hb_ : n_ = (2 : Int32))).2 ?_
          refine XS.lload X403.here hx rfl (hb hby at_404) rfl ?_
          show Steps _ _ _ (T403.setTop (mkF m 406 _ [(.long cc)])) _
          refine XS.l2i X403.here hx rfl (hb hby at_406) rfl ?_
          refine XS.goto X403.here hx rfl (pc0 := 407) (pc' := 416) rfl (hb hby at_407) (by decide) (by decide) ?_
          show Steps _ _ _ (T403.setTop (mkF m 416 _ [(.int cc.toInt32)])) _
          refine XS.istore X403.here hx rfl (hb hby at_416) rfl (l' := #[iv p0, iv p1, iv p2, iv p3, iv p4, iv p5, iv n_, iv m_, iv xo, iv yo, iv zo, iv 1, rv ax, rv ay, rv ax, iv xo, iv ax_0, iv ax_1, iv ax_2, iv ax_3, iv ay_0, iv ay_1, iv ay_2, iv ay_3, iv ax_0, iv ax_1, iv ax_2, iv ax_3, iv rr, iv w0_, iv w1_, iv w2_, iv w3_, .val (.long bx), .second, .val (.long by_), .second, .val (.long sm), .second, .val (.long cc), .second, iv cc.toInt32, .unset, .unset, .unset]) rfl ?_
          show Steps _ _ _ (T403.setTop (mkF m 418 _ [])) _
          exact k)
        exact ⟨cc.toInt32, (by unfold own_carry; rw [if_pos hb_, ← hsm, hcc, hbx, hby_, hw0, hw1, hw2, hw3]; rfl), go428⟩
      · have go429 : ∀ t, Steps p.tables e below (T403.setTop (mkF m 418 #[iv p0, iv p1, iv p2, iv p3, iv p4, iv p5, iv n_, iv m_, iv xo, iv yo, iv zo, iv 1, rv ax, rv ay, rv ax, iv xo, iv ax_0, iv ax_1, iv ax_2, iv ax_3, iv ay_0, iv ay_1, iv ay_2, iv ay_3, iv ax_0, iv ax_1, iv ax_2, iv ax_3, iv rr, iv w0_, iv w1_, iv w2_, iv w3_, .val (.long bx), .second, .val (.long by_), .second, .val (.long sm), .second, .val (.long cc), .second, iv ((sm.toUInt64 >>> ((32 : Int32) &&& 0x3f).toInt64.toUInt64).toInt64).toInt32, .unset, .unset, .unset] [])) t → Steps p.tables e below O t := fun t k => go426 t (by
          refine XS.icmpYes X403.here hx rfl (pc0 := 401) (pc' := 410) rfl (hb hby at_401) rfl (feq (hb_ : ¬ (n_ = (2 : Int32)))).2 (by decide) (by decide) ?_
          refine XS.lload X403.here hx rfl (hb hby at_410) rfl ?_
          show Steps _ _ _ (T403.setTop (mkF m 412 _ [(.long sm)])) _
          refine XS.bipush X403.here hx rfl (hb hby at_412) ?_
          refine XS.lushr X403.here hx rfl (hb hby at_414) rfl ?_
          show Steps _ _ _ (T403.setTop (mkF m 415 _ [(.long ((sm.toUInt64 >>> ((32 : Int32) &&& 0x3f).toInt64.toUInt64).toInt64))])) _
          refine XS.l2i X403.here hx rfl (hb hby at_415) rfl ?_
          refine XS.istore X403.here hx rfl (hb hby at_416) rfl (l' := #[iv p0, iv p1, iv p2, iv p3, iv p4, iv p5, iv n_, iv m_, iv xo, iv yo, iv zo, iv 1, rv ax, rv ay, rv ax, iv xo, iv ax_0, iv ax_1, iv ax_2, iv ax_3, iv ay_0, iv ay_1, iv ay_2, iv ay_3, iv ax_0, iv ax_1, iv ax_2, iv ax_3, iv rr, iv w0_, iv w1_, iv w2_, iv w3_, .val (.long bx), .second, .val (.long by_), .second, .val (.long sm), .second, .val (.long cc), .second, iv ((sm.toUInt64 >>> ((32 : Int32) &&& 0x3f).toInt64.toUInt64).toInt64).toInt32, .unset, .unset, .unset]) rfl ?_
          show Steps _ _ _ (T403.setTop (mkF m 418 _ [])) _
          exact k)
        exact ⟨((sm.toUInt64 >>> ((32 : Int32) &&& 0x3f).toInt64.toUInt64).toInt64).toInt32, (by unfold own_carry; rw [if_neg hb_, ← hsm]; rfl), go429⟩
    obtain ⟨cl430, Ar430, q430, S430, M430, Hs430, G430⟩ := V1
    have f431 : Arv Z T403.heap ax k305 .int (4 : Int32) [(.int (own_exp (0 : Int32) xo n_ sm ax_0)), (.int (own_exp (1 : Int32) xo n_ sm ax_1)), (.int (own_exp (2 : Int32) xo n_ sm ax_2)), (.int (own_exp (3 : Int32) xo n_ sm ax_3))] (.int 0) := ⟨cl430, Ar430, q430, S430, M430, Hs430, G430⟩
    have hin432 : ¬ ((0 : Int32) < 0 ∨ cl430.slots.size ≤ ((0 : Int32)).toNatClampNeg) := inb_of S430 ⟨by decide, by decide⟩
    have hat432 : cl430.slots[((0 : Int32)).toNatClampNeg]? = some (.int (own_exp (0 : Int32) xo n_ sm ax_0)) := Hs430.at hin432 rfl
    obtain ⟨_, _, ⟨T433, L433, k433, n433⟩, -, X433, ⟨Lc433, hQ433, l433, y433, z433⟩, st433⟩ := Jvm.LawKit.callS X403 hx (y := (⟨"com/example/limbwise/kernel/WordsAddPinLaw", "expect", "(IIIJI)I"⟩ : MethodName)) hown (mvT hZ (hw _ (List.mem_of_getElem? (i := 8) rfl))) (mvT hZ (hw _ (List.mem_of_getElem? (i := 9) rfl))) (mvT hZ (hw _ (List.mem_of_getElem? (i := 10) rfl))) (mvT hZ (hw _ (List.mem_of_getElem? (i := 11) rfl))) (by decide) (backOf (W := 1) (rm_ex l Z a0 hw [] (0 : Int32) xo n_ sm ax_0  T403.heap n0 Z405 ) hZ (hw _ (List.mem_of_getElem? (i := 11) rfl)) (hw _ (List.mem_of_getElem? (i := 10) rfl)) (by decide) (by decide)) (g := (mkF m 431 #[iv p0, iv p1, iv p2, iv p3, iv p4, iv p5, iv n_, iv m_, iv xo, iv yo, iv zo, iv 1, rv ax, rv ay, rv ax, iv xo, iv ax_0, iv ax_1, iv ax_2, iv ax_3, iv ay_0, iv ay_1, iv ay_2, iv ay_3, iv ax_0, iv ax_1, iv ax_2, iv ax_3, iv rr, iv w0_, iv w1_, iv w2_, iv w3_, .val (.long bx), .second, .val (.long by_), .second, .val (.long sm), .second, .val (.long cc), .second, iv ec, .unset, .unset, .unset] [(.int ax_0), (.long sm), (.int n_), (.int xo), (.int 0), (.int (own_exp (0 : Int32) xo n_ sm ax_0))])) rfl (by rw [hml]; rfl) (argsL := [(.int 0), (.int xo), (.int n_), (.long sm), (.int ax_0)]) (rest := [(.int (own_exp (0 : Int32) xo n_ sm ax_0))]) (lenOf pd_1 rfl) rfl (by show 2 * 0 + _ ≤ _; exact Nat.le_of_eq rfl) (hb hby at_431) (fun _ _ => ⟨rfl, rfl, (by decide : 2 + 0 ≤ _), (by decide : 8 + 0 ≤ _)⟩)
    dsimp only [Pt.U, Pt.locs, Pt.cells, Pt.slots] at X433 l433 y433 z433 st433 hQ433
    rw [l433, y433, z433] at X433
    obtain ⟨hv433, N433q, eE0⟩ := hQ433
    rw [hv433] at st433
    have N433 := Fr.app N403 N433q
    obtain ⟨cl434, Ar434, q434, S434, M434, Hs434, G434⟩ := f431
    have f435 : Arv Z T403.heap ax k305 .int (4 : Int32) [(.int (own_exp (0 : Int32) xo n_ sm ax_0)), (.int (own_exp (1 : Int32) xo n_ sm ax_1)), (.int (own_exp (2 : Int32) xo n_ sm ax_2)), (.int (own_exp (3 : Int32) xo n_ sm ax_3))] (.int 0) := ⟨cl434, Ar434, q434, S434, M434, Hs434, G434⟩
    have hin436 : ¬ ((1 : Int32) < 0 ∨ cl434.slots.size ≤ ((1 : Int32)).toNatClampNeg) := inb_of S434 ⟨by decide, by decide⟩
    have hat436 : cl434.slots[((1 : Int32)).toNatClampNeg]? = some (.int (own_exp (1 : Int32) xo n_ sm ax_1)) := Hs434.at hin436 rfl
    obtain ⟨_, _, ⟨T437, L437, k437, n437⟩, -, X437, ⟨Lc437, hQ437, l437, y437, z437⟩, st437⟩ := Jvm.LawKit.callS X433 hx (y := (⟨"com/example/limbwise/kernel/WordsAddPinLaw", "expect", "(IIIJI)I"⟩ : MethodName)) hown (mvT hZ (hw _ (List.mem_of_getElem? (i := 8) rfl))) (mvT hZ (hw _ (List.mem_of_getElem? (i := 9) rfl))) (mvT hZ (hw _ (List.mem_of_getElem? (i := 10) rfl))) (mvT hZ (hw _ (List.mem_of_getElem? (i := 11) rfl))) (by decide) (backOf (W := 1) (rm_ex l Z a0 hw [] (1 : Int32) xo n_ sm ax_1  T403.heap n0 Z405 ) hZ (hw _ (List.mem_of_getElem? (i := 11) rfl)) (hw _ (List.mem_of_getElem? (i := 10) rfl)) (by decide) (by decide)) (g := (mkF m 450 #[iv p0, iv p1, iv p2, iv p3, iv p4, iv p5, iv n_, iv m_, iv xo, iv yo, iv zo, iv 1, rv ax, rv ay, rv ax, iv xo, iv ax_0, iv ax_1, iv ax_2, iv ax_3, iv ay_0, iv ay_1, iv ay_2, iv ay_3, iv ax_0, iv ax_1, iv ax_2, iv ax_3, iv rr, iv w0_, iv w1_, iv w2_, iv w3_, .val (.long bx), .second, .val (.long by_), .second, .val (.long sm), .second, .val (.long cc), .second, iv ec, .unset, .unset, .unset] [(.int ax_1), (.long sm), (.int n_), (.int xo), (.int 1), (.int (own_exp (1 : Int32) xo n_ sm ax_1))])) rfl (by rw [hml]; rfl) (argsL := [(.int 1), (.int xo), (.int n_), (.long sm), (.int ax_1)]) (rest := [(.int (own_exp (1 : Int32) xo n_ sm ax_1))]) (lenOf pd_1 rfl) rfl (by show 2 * 0 + _ ≤ _; exact Nat.le_of_eq rfl) (hb hby at_450) (fun _ _ => ⟨rfl, eE0, (by decide : 2 + 0 ≤ _), (by decide : 8 + 0 ≤ _)⟩)
    dsimp only [Pt.U, Pt.locs, Pt.cells, Pt.slots] at X437 l437 y437 z437 st437 hQ437
    rw [l437, y437, z437] at X437
    obtain ⟨hv437, N437q, eE1⟩ := hQ437
    rw [hv437] at st437
    have N437 := Fr.app N433 N437q
    obtain ⟨cl438, Ar438, q438, S438, M438, Hs438, G438⟩ := f435
    have f439 : Arv Z T403.heap ax k305 .int (4 : Int32) [(.int (own_exp (0 : Int32) xo n_ sm ax_0)), (.int (own_exp (1 : Int32) xo n_ sm ax_1)), (.int (own_exp (2 : Int32) xo n_ sm ax_2)), (.int (own_exp (3 : Int32) xo n_ sm ax_3))] (.int 0) := ⟨cl438, Ar438, q438, S438, M438, Hs438, G438⟩
    have hin440 : ¬ ((2 : Int32) < 0 ∨ cl438.slots.size ≤ ((2 : Int32)).toNatClampNeg) := inb_of S438 ⟨by decide, by decide⟩
    have hat440 : cl438.slots[((2 : Int32)).toNatClampNeg]? = some (.int (own_exp (2 : Int32) xo n_ sm ax_2)) := Hs438.at hin440 rfl
    obtain ⟨_, _, ⟨T441, L441, k441, n441⟩, -, X441, ⟨Lc441, hQ441, l441, y441, z441⟩, st441⟩ := Jvm.LawKit.callS X437 hx (y := (⟨"com/example/limbwise/kernel/WordsAddPinLaw", "expect", "(IIIJI)I"⟩ : MethodName)) hown (mvT hZ (hw _ (List.mem_of_getElem? (i := 8) rfl))) (mvT hZ (hw _ (List.mem_of_getElem? (i := 9) rfl))) (mvT hZ (hw _ (List.mem_of_getElem? (i := 10) rfl))) (mvT hZ (hw _ (List.mem_of_getElem? (i := 11) rfl))) (by decide) (backOf (W := 1) (rm_ex l Z a0 hw [] (2 : Int32) xo n_ sm ax_2  T403.heap n0 Z405 ) hZ (hw _ (List.mem_of_getElem? (i := 11) rfl)) (hw _ (List.mem_of_getElem? (i := 10) rfl)) (by decide) (by decide)) (g := (mkF m 469 #[iv p0, iv p1, iv p2, iv p3, iv p4, iv p5, iv n_, iv m_, iv xo, iv yo, iv zo, iv 1, rv ax, rv ay, rv ax, iv xo, iv ax_0, iv ax_1, iv ax_2, iv ax_3, iv ay_0, iv ay_1, iv ay_2, iv ay_3, iv ax_0, iv ax_1, iv ax_2, iv ax_3, iv rr, iv w0_, iv w1_, iv w2_, iv w3_, .val (.long bx), .second, .val (.long by_), .second, .val (.long sm), .second, .val (.long cc), .second, iv ec, .unset, .unset, .unset] [(.int ax_2), (.long sm), (.int n_), (.int xo), (.int 2), (.int (own_exp (2 : Int32) xo n_ sm ax_2))])) rfl (by rw [hml]; rfl) (argsL := [(.int 2), (.int xo), (.int n_), (.long sm), (.int ax_2)]) (rest := [(.int (own_exp (2 : Int32) xo n_ sm ax_2))]) (lenOf pd_1 rfl) rfl (by show 2 * 0 + _ ≤ _; exact Nat.le_of_eq rfl) (hb hby at_469) (fun _ _ => ⟨rfl, eE1, (by decide : 2 + 0 ≤ _), (by decide : 8 + 0 ≤ _)⟩)
    dsimp only [Pt.U, Pt.locs, Pt.cells, Pt.slots] at X441 l441 y441 z441 st441 hQ441
    rw [l441, y441, z441] at X441
    obtain ⟨hv441, N441q, eE2⟩ := hQ441
    rw [hv441] at st441
    have N441 := Fr.app N437 N441q
    obtain ⟨cl442, Ar442, q442, S442, M442, Hs442, G442⟩ := f439
    have f443 : Arv Z T403.heap ax k305 .int (4 : Int32) [(.int (own_exp (0 : Int32) xo n_ sm ax_0)), (.int (own_exp (1 : Int32) xo n_ sm ax_1)), (.int (own_exp (2 : Int32) xo n_ sm ax_2)), (.int (own_exp (3 : Int32) xo n_ sm ax_3))] (.int 0) := ⟨cl442, Ar442, q442, S442, M442, Hs442, G442⟩
    have hin444 : ¬ ((3 : Int32) < 0 ∨ cl442.slots.size ≤ ((3 : Int32)).toNatClampNeg) := inb_of S442 ⟨by decide, by decide⟩
    have hat444 : cl442.slots[((3 : Int32)).toNatClampNeg]? = some (.int (own_exp (3 : Int32) xo n_ sm ax_3)) := Hs442.at hin444 rfl
    obtain ⟨_, _, ⟨T445, L445, k445, n445⟩, -, X445, ⟨Lc445, hQ445, l445, y445, z445⟩, st445⟩ := Jvm.LawKit.callS X441 hx (y := (⟨"com/example/limbwise/kernel/WordsAddPinLaw", "expect", "(IIIJI)I"⟩ : MethodName)) hown (mvT hZ (hw _ (List.mem_of_getElem? (i := 8) rfl))) (mvT hZ (hw _ (List.mem_of_getElem? (i := 9) rfl))) (mvT hZ (hw _ (List.mem_of_getElem? (i := 10) rfl))) (mvT hZ (hw _ (List.mem_of_getElem? (i := 11) rfl))) (by decide) (backOf (W := 1) (rm_ex l Z a0 hw [] (3 : Int32) xo n_ sm ax_3  T403.heap n0 Z405 ) hZ (hw _ (List.mem_of_getElem? (i := 11) rfl)) (hw _ (List.mem_of_getElem? (i := 10) rfl)) (by decide) (by decide)) (g := (mkF m 488 #[iv p0, iv p1, iv p2, iv p3, iv p4, iv p5, iv n_, iv m_, iv xo, iv yo, iv zo, iv 1, rv ax, rv ay, rv ax, iv xo, iv ax_0, iv ax_1, iv ax_2, iv ax_3, iv ay_0, iv ay_1, iv ay_2, iv ay_3, iv ax_0, iv ax_1, iv ax_2, iv ax_3, iv rr, iv w0_, iv w1_, iv w2_, iv w3_, .val (.long bx), .second, .val (.long by_), .second, .val (.long sm), .second, .val (.long cc), .second, iv ec, .unset, .unset, .unset] [(.int ax_3), (.long sm), (.int n_), (.int xo), (.int 3), (.int (own_exp (3 : Int32) xo n_ sm ax_3))])) rfl (by rw [hml]; rfl) (argsL := [(.int 3), (.int xo), (.int n_), (.long sm), (.int ax_3)]) (rest := [(.int (own_exp (3 : Int32) xo n_ sm ax_3))]) (lenOf pd_1 rfl) rfl (by show 2 * 0 + _ ≤ _; exact Nat.le_of_eq rfl) (hb hby at_488) (fun _ _ => ⟨rfl, eE2, (by decide : 2 + 0 ≤ _), (by decide : 8 + 0 ≤ _)⟩)
    dsimp only [Pt.U, Pt.locs, Pt.cells, Pt.slots] at X445 l445 y445 z445 st445 hQ445
    rw [l445, y445, z445] at X445
    obtain ⟨hv445, N445q, eE3⟩ := hQ445
    rw [hv445] at st445
    have N445 := Fr.app N441 N445q
    obtain ⟨cl446, Ar446, q446, S446, M446, Hs446, G446⟩ := f404
    have f447 : Arv Z T403.heap ay k332 .int (4 : Int32) [(.int ay_0), (.int ay_1), (.int ay_2), (.int ay_3)] (.int 0) := ⟨cl446, Ar446, q446, S446, M446, Hs446, G446⟩
    have hin448 : ¬ ((0 : Int32) < 0 ∨ cl446.slots.size ≤ ((0 : Int32)).toNatClampNeg) := inb_of S446 ⟨by decide, by decide⟩
    have hat448 : cl446.slots[((0 : Int32)).toNatClampNeg]? = some (.int ay_0) := Hs446.at hin448 rfl
    obtain ⟨cl449, Ar449, q449, S449, M449, Hs449, G449⟩ := f447
    have f450 : Arv Z T403.heap ay k332 .int (4 : Int32) [(.int ay_0), (.int ay_1), (.int ay_2), (.int ay_3)] (.int 0) := ⟨cl449, Ar449, q449, S449, M449, Hs449, G449⟩
    have hin451 : ¬ ((1 : Int32) < 0 ∨ cl449.slots.size ≤ ((1 : Int32)).toNatClampNeg) := inb_of S449 ⟨by decide, by decide⟩
    have hat451 : cl449.slots[((1 : Int32)).toNatClampNeg]? = some (.int ay_1) := Hs449.at hin451 rfl
    obtain ⟨cl452, Ar452, q452, S452, M452, Hs452, G452⟩ := f450
    have f453 : Arv Z T403.heap ay k332 .int (4 : Int32) [(.int ay_0), (.int ay_1), (.int ay_2), (.int ay_3)] (.int 0) := ⟨cl452, Ar452, q452, S452, M452, Hs452, G452⟩
    have hin454 : ¬ ((2 : Int32) < 0 ∨ cl452.slots.size ≤ ((2 : Int32)).toNatClampNeg) := inb_of S452 ⟨by decide, by decide⟩
    have hat454 : cl452.slots[((2 : Int32)).toNatClampNeg]? = some (.int ay_2) := Hs452.at hin454 rfl
    obtain ⟨cl455, Ar455, q455, S455, M455, Hs455, G455⟩ := f453
    have f456 : Arv Z T403.heap ay k332 .int (4 : Int32) [(.int ay_0), (.int ay_1), (.int ay_2), (.int ay_3)] (.int 0) := ⟨cl455, Ar455, q455, S455, M455, Hs455, G455⟩
    have hin457 : ¬ ((3 : Int32) < 0 ∨ cl455.slots.size ≤ ((3 : Int32)).toNatClampNeg) := inb_of S455 ⟨by decide, by decide⟩
    have hat457 : cl455.slots[((3 : Int32)).toNatClampNeg]? = some (.int ay_3) := Hs455.at hin457 rfl
    have go458 : ∀ t, Steps p.tables e below (T445.setTop (mkF m 619 #[iv p0, iv p1, iv p2, iv p3, iv p4, iv p5, iv n_, iv m_, iv xo, iv yo, iv zo, iv 1, rv ax, rv ay, rv ax, iv xo, iv ax_0, iv ax_1, iv ax_2, iv ax_3, iv ay_0, iv ay_1, iv ay_2, iv ay_3, iv ax_0, iv ax_1, iv ax_2, iv ax_3, iv rr, iv w0_, iv w1_, iv w2_, iv w3_, .val (.long bx), .second, .val (.long by_), .second, .val (.long sm), .second, .val (.long cc), .second, iv ec, iv 1, iv 1, iv 1] [(.int 1)])) t → Steps p.tables e below O t := fun t k => go427 t (by
      refine XS.aload X403.here hx rfl (hb hby at_418) rfl rfl ?_
      refine XS.iconst X403.here hx rfl (hb hby at_420) ?_
      show Steps _ _ _ (T403.setTop (mkF m 421 _ [(.int 0), (.ref ax)])) _
      refine X403.iaload hx (j := (0 : Int32)) (v := (.int (own_exp (0 : Int32) xo n_ sm ax_0))) Ar430.1 (State.isArrayOf_alike hZ.alike Ar430.2.1) Ar430.2.2 hin432 hat432 (g := (mkF m 421 #[iv p0, iv p1, iv p2, iv p3, iv p4, iv p5, iv n_, iv m_, iv xo, iv yo, iv zo, iv 1, rv ax, rv ay, rv ax, iv xo, iv ax_0, iv ax_1, iv ax_2, iv ax_3, iv ay_0, iv ay_1, iv ay_2, iv ay_3, iv ax_0, iv ax_1, iv ax_2, iv ax_3, iv rr, iv w0_, iv w1_, iv w2_, iv w3_, .val (.long bx), .second, .val (.long by_), .second, .val (.long sm), .second, .val (.long cc), .second, iv ec, .unset, .unset, .unset] [(.int 0), (.ref ax)])) rfl rfl (hb hby at_421) _ ?_
      refine XS.iconst X403.here hx rfl (hb hby at_422) ?_
      show Steps _ _ _ (T403.setTop (mkF m 423 _ [(.int 0), (.int (own_exp (0 : Int32) xo n_ sm ax_0))])) _
      refine XS.iload X403.here hx rfl (hb hby at_423) rfl ?_
      refine XS.iload X403.here hx rfl (hb hby at_425) rfl ?_
      show Steps _ _ _ (T403.setTop (mkF m 427 _ [(.int n_), (.int xo), (.int 0), (.int (own_exp (0 : Int32) xo n_ sm ax_0))])) _
      refine XS.lload X403.here hx rfl (hb hby at_427) rfl ?_
      refine XS.iload X403.here hx rfl (hb hby at_429) rfl ?_
      show Steps _ _ _ (T403.setTop (mkF m 431 _ [(.int ax_0), (.long sm), (.int n_), (.int xo), (.int 0), (.int (own_exp (0 : Int32) xo n_ sm ax_0))])) _
      refine st433 _ ?_
      show Steps _ _ _ (T433.setTop (mkF m 434 _ [(.int (own_exp (0 : Int32) xo n_ sm ax_0)), (.int (own_exp (0 : Int32) xo n_ sm ax_0))])) _
      refine XS.icmpNo X433.here hx rfl (hb hby at_434) rfl (teq (rfl : (own_exp (0 : Int32) xo n_ sm ax_0) = (own_exp (0 : Int32) xo n_ sm ax_0))).2 ?_
      refine XS.aload X433.here hx rfl (hb hby at_437) rfl rfl ?_
      show Steps _ _ _ (T433.setTop (mkF m 439 _ [(.ref ax)])) _
      refine XS.iconst X433.here hx rfl (hb hby at_439) ?_
      refine X433.iaload hx (j := (1 : Int32)) (v := (.int (own_exp (1 : Int32) xo n_ sm ax_1))) (by rw [eE0]; exact Ar434.1) (State.isArrayOf_alike hZ.alike Ar434.2.1) Ar434.2.2 hin436 hat436 (g := (mkF m 440 #[iv p0, iv p1, iv p2, iv p3, iv p4, iv p5, iv n_, iv m_, iv xo, iv yo, iv zo, iv 1, rv ax, rv ay, rv ax, iv xo, iv ax_0, iv ax_1, iv ax_2, iv ax_3, iv ay_0, iv ay_1, iv ay_2, iv ay_3, iv ax_0, iv ax_1, iv ax_2, iv ax_3, iv rr, iv w0_, iv w1_, iv w2_, iv w3_, .val (.long bx), .second, .val (.long by_), .second, .val (.long sm), .second, .val (.long cc), .second, iv ec, .unset, .unset, .unset] [(.int 1), (.ref ax)])) rfl rfl (hb hby at_440) _ ?_
      show Steps _ _ _ (T433.setTop (mkF m 441 _ [(.int (own_exp (1 : Int32) xo n_ sm ax_1))])) _
      refine XS.iconst X433.here hx rfl (hb hby at_441) ?_
      refine XS.iload X433.here hx rfl (hb hby at_442) rfl ?_
      show Steps _ _ _ (T433.setTop (mkF m 444 _ [(.int xo), (.int 1), (.int (own_exp (1 : Int32) xo n_ sm ax_1))])) _
      refine XS.iload X433.here hx rfl (hb hby at_444) rfl ?_
      refine XS.lload X433.here hx rfl (hb hby at_446) rfl ?_
      show Steps _ _ _ (T433.setTop (mkF m 448 _ [(.long sm), (.int n_), (.int xo), (.int 1), (.int (own_exp (1 : Int32) xo n_ sm ax_1))])) _
      refine XS.iload X433.here hx rfl (hb hby at_448) rfl ?_
      refine st437 _ ?_
      show Steps _ _ _ (T437.setTop (mkF m 453 _ [(.int (own_exp (1 : Int32) xo n_ sm ax_1)), (.int (own_exp (1 : Int32) xo n_ sm ax_1))])) _
      refine XS.icmpNo X437.here hx rfl (hb hby at_453) rfl (teq (rfl : (own_exp (1 : Int32) xo n_ sm ax_1) = (own_exp (1 : Int32) xo n_ sm ax_1))).2 ?_
      refine XS.aload X437.here hx rfl (hb hby at_456) rfl rfl ?_
      show Steps _ _ _ (T437.setTop (mkF m 458 _ [(.ref ax)])) _
      refine XS.iconst X437.here hx rfl (hb hby at_458) ?_
      refine X437.iaload hx (j := (2 : Int32)) (v := (.int (own_exp (2 : Int32) xo n_ sm ax_2))) (by rw [eE1]; exact Ar438.1) (State.isArrayOf_alike hZ.alike Ar438.2.1) Ar438.2.2 hin440 hat440 (g := (mkF m 459 #[iv p0, iv p1, iv p2, iv p3, iv p4, iv p5, iv n_, iv m_, iv xo, iv yo, iv zo, iv 1, rv ax, rv ay, rv ax, iv xo, iv ax_0, iv ax_1, iv ax_2, iv ax_3, iv ay_0, iv ay_1, iv ay_2, iv ay_3, iv ax_0, iv ax_1, iv ax_2, iv ax_3, iv rr, iv w0_, iv w1_, iv w2_, iv w3_, .val (.long bx), .second, .val (.long by_), .second, .val (.long sm), .second, .val (.long cc), .second, iv ec, .unset, .unset, .unset] [(.int 2), (.ref ax)])) rfl rfl (hb hby at_459) _ ?_
      show Steps _ _ _ (T437.setTop (mkF m 460 _ [(.int (own_exp (2 : Int32) xo n_ sm ax_2))])) _
      refine XS.iconst X437.here hx rfl (hb hby at_460) ?_
      refine XS.iload X437.here hx rfl (hb hby at_461) rfl ?_
      show Steps _ _ _ (T437.setTop (mkF m 463 _ [(.int xo), (.int 2), (.int (own_exp (2 : Int32) xo n_ sm ax_2))])) _
      refine XS.iload X437.here hx rfl (hb hby at_463) rfl ?_
      refine XS.lload X437.here hx rfl (hb hby at_465) rfl ?_
      show Steps _ _ _ (T437.setTop (mkF m 467 _ [(.long sm), (.int n_), (.int xo), (.int 2), (.int (own_exp (2 : Int32) xo n_ sm ax_2))])) _
      refine XS.iload X437.here hx rfl (hb hby at_467) rfl ?_
      refine st441 _ ?_
      show Steps _ _ _ (T441.setTop (mkF m 472 _ [(.int (own_exp (2 : Int32) xo n_ sm ax_2)), (.int (own_exp (2 : Int32) xo n_ sm ax_2))])) _
      refine XS.icmpNo X441.here hx rfl (hb hby at_472) rfl (teq (rfl : (own_exp (2 : Int32) xo n_ sm ax_2) = (own_exp (2 : Int32) xo n_ sm ax_2))).2 ?_
      refine XS.aload X441.here hx rfl (hb hby at_475) rfl rfl ?_
      show Steps _ _ _ (T441.setTop (mkF m 477 _ [(.ref ax)])) _
      refine XS.iconst X441.here hx rfl (hb hby at_477) ?_
      refine X441.iaload hx (j := (3 : Int32)) (v := (.int (own_exp (3 : Int32) xo n_ sm ax_3))) (by rw [eE2]; exact Ar442.1) (State.isArrayOf_alike hZ.alike Ar442.2.1) Ar442.2.2 hin444 hat444 (g := (mkF m 478 #[iv p0, iv p1, iv p2, iv p3, iv p4, iv p5, iv n_, iv m_, iv xo, iv yo, iv zo, iv 1, rv ax, rv ay, rv ax, iv xo, iv ax_0, iv ax_1, iv ax_2, iv ax_3, iv ay_0, iv ay_1, iv ay_2, iv ay_3, iv ax_0, iv ax_1, iv ax_2, iv ax_3, iv rr, iv w0_, iv w1_, iv w2_, iv w3_, .val (.long bx), .second, .val (.long by_), .second, .val (.long sm), .second, .val (.long cc), .second, iv ec, .unset, .unset, .unset] [(.int 3), (.ref ax)])) rfl rfl (hb hby at_478) _ ?_
      show Steps _ _ _ (T441.setTop (mkF m 479 _ [(.int (own_exp (3 : Int32) xo n_ sm ax_3))])) _
      refine XS.iconst X441.here hx rfl (hb hby at_479) ?_
      refine XS.iload X441.here hx rfl (hb hby at_480) rfl ?_
      show Steps _ _ _ (T441.setTop (mkF m 482 _ [(.int xo), (.int 3), (.int (own_exp (3 : Int32) xo n_ sm ax_3))])) _
      refine XS.iload X441.here hx rfl (hb hby at_482) rfl ?_
      refine XS.lload X441.here hx rfl (hb hby at_484) rfl ?_
      show Steps _ _ _ (T441.setTop (mkF m 486 _ [(.long sm), (.int n_), (.int xo), (.int 3), (.int (own_exp (3 : Int32) xo n_ sm ax_3))])) _
      refine XS.iload X441.here hx rfl (hb hby at_486) rfl ?_
      refine st445 _ ?_
      show Steps _ _ _ (T445.setTop (mkF m 491 _ [(.int (own_exp (3 : Int32) xo n_ sm ax_3)), (.int (own_exp (3 : Int32) xo n_ sm ax_3))])) _
      refine XS.icmpNo X445.here hx rfl (hb hby at_491) rfl (teq (rfl : (own_exp (3 : Int32) xo n_ sm ax_3) = (own_exp (3 : Int32) xo n_ sm ax_3))).2 ?_
      refine XS.iconst X445.here hx rfl (hb hby at_494) ?_
      show Steps _ _ _ (T445.setTop (mkF m 495 _ [(.int 1)])) _
      refine XS.goto X445.here hx rfl (pc0 := 495) (pc' := 499) rfl (hb hby at_495) (by decide) (by decide) ?_
      refine XS.istore X445.here hx rfl (hb hby at_499) rfl (l' := #[iv p0, iv p1, iv p2, iv p3, iv p4, iv p5, iv n_, iv m_, iv xo, iv yo, iv zo, iv 1, rv ax, rv ay, rv ax, iv xo, iv ax_0, iv ax_1, iv ax_2, iv ax_3, iv ay_0, iv ay_1, iv ay_2, iv ay_3, iv ax_0, iv ax_1, iv ax_2, iv ax_3, iv rr, iv w0_, iv w1_, iv w2_, iv w3_, .val (.long bx), .second, .val (.long by_), .second, .val (.long sm), .second, .val (.long cc), .second, iv ec, iv 1, .unset, .unset]) rfl ?_
      show Steps _ _ _ (T445.setTop (mkF m 501 _ [])) _
      refine XS.aload X445.here hx rfl (hb hby at_501) rfl rfl ?_
      refine XS.iconst X445.here hx rfl (hb hby at_503) ?_
      show Steps _ _ _ (T445.setTop (mkF m 504 _ [(.int 0), (.ref ay)])) _
      refine X445.iaload hx (j := (0 : Int32)) (v := (.int ay_0)) (by rw [eE3]; exact Ar446.1) (State.isArrayOf_alike hZ.alike Ar446.2.1) Ar446.2.2 hin448 hat448 (g := (mkF m 504 #[iv p0, iv p1, iv p2, iv p3, iv p4, iv p5, iv n_, iv m_, iv xo, iv yo, iv zo, iv 1, rv ax, rv ay, rv ax, iv xo, iv ax_0, iv ax_1, iv ax_2, iv ax_3, iv ay_0, iv ay_1, iv ay_2, iv ay_3, iv ax_0, iv ax_1, iv ax_2, iv ax_3, iv rr, iv w0_, iv w1_, iv w2_, iv w3_, .val (.long bx), .second, .val (.long by_), .second, .val (.long sm), .second, .val (.long cc), .second, iv ec, iv 1, .unset, .unset] [(.int 0), (.ref ay)])) rfl rfl (hb hby at_504) _ ?_
      refine XS.iload X445.here hx rfl (hb hby at_505) rfl ?_
      show Steps _ _ _ (T445.setTop (mkF m 507 _ [(.int ay_0), (.int ay_0)])) _
      refine XS.icmpNo X445.here hx rfl (hb hby at_507) rfl (teq (rfl : ay_0 = ay_0)).2 ?_
      refine XS.aload X445.here hx rfl (hb hby at_510) rfl rfl ?_
      show Steps _ _ _ (T445.setTop (mkF m 512 _ [(.ref ay)])) _
      refine XS.iconst X445.here hx rfl (hb hby at_512) ?_
      refine X445.iaload hx (j := (1 : Int32)) (v := (.int ay_1)) (by rw [eE3]; exact Ar449.1) (State.isArrayOf_alike hZ.alike Ar449.2.1) Ar449.2.2 hin451 hat451 (g := (mkF m 513 #[iv p0, iv p1, iv p2, iv p3, iv p4, iv p5, iv n_, iv m_, iv xo, iv yo, iv zo, iv 1, rv ax, rv ay, rv ax, iv xo, iv ax_0, iv ax_1, iv ax_2, iv ax_3, iv ay_0, iv ay_1, iv ay_2, iv ay_3, iv ax_0, iv ax_1, iv ax_2, iv ax_3, iv rr, iv w0_, iv w1_, iv w2_, iv w3_, .val (.long bx), .second, .val (.long by_), .second, .val (.long sm), .second, .val (.long cc), .second, iv ec, iv 1, .unset, .unset] [(.int 1), (.ref ay)])) rfl rfl (hb hby at_513) _ ?_
      show Steps _ _ _ (T445.setTop (mkF m 514 _ [(.int ay_1)])) _
      refine XS.iload X445.here hx rfl (hb hby at_514) rfl ?_
      refine XS.icmpNo X445.here hx rfl (hb hby at_516) rfl (teq (rfl : ay_1 = ay_1)).2 ?_
      show Steps _ _ _ (T445.setTop (mkF m 519 _ [])) _
      refine XS.aload X445.here hx rfl (hb hby at_519) rfl rfl ?_
      refine XS.iconst X445.here hx rfl (hb hby at_521) ?_
      show Steps _ _ _ (T445.setTop (mkF m 522 _ [(.int 2), (.ref ay)])) _
      refine X445.iaload hx (j := (2 : Int32)) (v := (.int ay_2)) (by rw [eE3]; exact Ar452.1) (State.isArrayOf_alike hZ.alike Ar452.2.1) Ar452.2.2 hin454 hat454 (g := (mkF m 522 #[iv p0, iv p1, iv p2, iv p3, iv p4, iv p5, iv n_, iv m_, iv xo, iv yo, iv zo, iv 1, rv ax, rv ay, rv ax, iv xo, iv ax_0, iv ax_1, iv ax_2, iv ax_3, iv ay_0, iv ay_1, iv ay_2, iv ay_3, iv ax_0, iv ax_1, iv ax_2, iv ax_3, iv rr, iv w0_, iv w1_, iv w2_, iv w3_, .val (.long bx), .second, .val (.long by_), .second, .val (.long sm), .second, .val (.long cc), .second, iv ec, iv 1, .unset, .unset] [(.int 2), (.ref ay)])) rfl rfl (hb hby at_522) _ ?_
      show Steps _ _ _ (T445.setTop (mkF m 523 #[iv p0, iv p1, iv p2, iv p3, iv p4, iv p5, iv n_, iv m_, iv xo, iv yo, iv zo, iv 1, rv ax, rv ay, rv ax, iv xo, iv ax_0, iv ax_1, iv ax_2, iv ax_3, iv ay_0, iv ay_1, iv ay_2, iv ay_3, iv ax_0, iv ax_1, iv ax_2, iv ax_3, iv rr, iv w0_, iv w1_, iv w2_, iv w3_, .val (.long bx), .second, .val (.long by_), .second, .val (.long sm), .second, .val (.long cc), .second, iv ec, iv 1, .unset, .unset] [(.int ay_2)])) _
      refine XS.iload X445.here hx rfl (hb hby at_523) rfl ?_
      refine XS.icmpNo X445.here hx rfl (hb hby at_525) rfl (teq (rfl : ay_2 = ay_2)).2 ?_
      show Steps _ _ _ (T445.setTop (mkF m 528 _ [])) _
      refine XS.aload X445.here hx rfl (hb hby at_528) rfl rfl ?_
      refine XS.iconst X445.here hx rfl (hb hby at_530) ?_
      show Steps _ _ _ (T445.setTop (mkF m 531 _ [(.int 3), (.ref ay)])) _
      refine X445.iaload hx (j := (3 : Int32)) (v := (.int ay_3)) (by rw [eE3]; exact Ar455.1) (State.isArrayOf_alike hZ.alike Ar455.2.1) Ar455.2.2 hin457 hat457 (g := (mkF m 531 #[iv p0, iv p1, iv p2, iv p3, iv p4, iv p5, iv n_, iv m_, iv xo, iv yo, iv zo, iv 1, rv ax, rv ay, rv ax, iv xo, iv ax_0, iv ax_1, iv ax_2, iv ax_3, iv ay_0, iv ay_1, iv ay_2, iv ay_3, iv ax_0, iv ax_1, iv ax_2, iv ax_3, iv rr, iv w0_, iv w1_, iv w2_, iv w3_, .val (.long bx), .second, .val (.long by_), .second, .val (.long sm), .second, .val (.long cc), .second, iv ec, iv 1, .unset, .unset] [(.int 3), (.ref ay)])) rfl rfl (hb hby at_531) _ ?_
      refine XS.iload X445.here hx rfl (hb hby at_532) rfl ?_
      show Steps _ _ _ (T445.setTop (mkF m 534 _ [(.int ay_3), (.int ay_3)])) _
      refine XS.icmpNo X445.here hx rfl (hb hby at_534) rfl (teq (rfl : ay_3 = ay_3)).2 ?_
      refine XS.iconst X445.here hx rfl (hb hby at_537) ?_
      show Steps _ _ _ (T445.setTop (mkF m 538 _ [(.int 1)])) _
      refine XS.goto X445.here hx rfl (pc0 := 538) (pc' := 542) rfl (hb hby at_538) (by decide) (by decide) ?_
      refine XS.istore X445.here hx rfl (hb hby at_542) rfl (l' := #[iv p0, iv p1, iv p2, iv p3, iv p4, iv p5, iv n_, iv m_, iv xo, iv yo, iv zo, iv 1, rv ax, rv ay, rv ax, iv xo, iv ax_0, iv ax_1, iv ax_2, iv ax_3, iv ay_0, iv ay_1, iv ay_2, iv ay_3, iv ax_0, iv ax_1, iv ax_2, iv ax_3, iv rr, iv w0_, iv w1_, iv w2_, iv w3_, .val (.long bx), .second, .val (.long by_), .second, .val (.long sm), .second, .val (.long cc), .second, iv ec, iv 1, iv 1, .unset]) rfl ?_
      show Steps _ _ _ (T445.setTop (mkF m 544 _ [])) _
      refine XS.iload X445.here hx rfl (hb hby at_544) rfl ?_
      refine XS.ifYes X445.here hx rfl (pc0 := 546) (pc' := 585) rfl (hb hby at_546) rfl ((if0 _ _).trans (feq (by decide : ¬ ((1 : Int32) = (0 : Int32)))).2) (by decide) (by decide) ?_
      show Steps _ _ _ (T445.setTop (mkF m 585 _ [])) _
      refine XS.iconst X445.here hx rfl (hb hby at_585) ?_
      refine XS.goto X445.here hx rfl (pc0 := 586) (pc' := 590) rfl (hb hby at_586) (by decide) (by decide) ?_
      show Steps _ _ _ (T445.setTop (mkF m 590 _ [(.int 1)])) _
      refine XS.istore X445.here hx rfl (hb hby at_590) rfl (l' := #[iv p0, iv p1, iv p2, iv p3, iv p4, iv p5, iv n_, iv m_, iv xo, iv yo, iv zo, iv 1, rv ax, rv ay, rv ax, iv xo, iv ax_0, iv ax_1, iv ax_2, iv ax_3, iv ay_0, iv ay_1, iv ay_2, iv ay_3, iv ax_0, iv ax_1, iv ax_2, iv ax_3, iv rr, iv w0_, iv w1_, iv w2_, iv w3_, .val (.long bx), .second, .val (.long by_), .second, .val (.long sm), .second, .val (.long cc), .second, iv ec, iv 1, iv 1, iv 1]) rfl ?_
      show Steps _ _ _ (T445.setTop (mkF m 592 _ [])) _
      refine XS.iload X445.here hx rfl (hb hby at_592) rfl ?_
      refine XS.iload X445.here hx rfl (hb hby at_594) rfl ?_
      show Steps _ _ _ (T445.setTop (mkF m 596 _ [(.int ec), (.int rr)])) _
      refine XS.icmpNo X445.here hx rfl (hb hby at_596) rfl (teq (hpo1.trans hec.symm : rr = ec)).2 ?_
      refine XS.iload X445.here hx rfl (hb hby at_599) rfl ?_
      show Steps _ _ _ (T445.setTop (mkF m 601 _ [(.int 1)])) _
      refine XS.ifNo X445.here hx rfl (hb hby at_601) rfl ((if0 _ _).trans (feq (by decide : ¬ ((1 : Int32) = (0 : Int32)))).1) ?_
      refine XS.iload X445.here hx rfl (hb hby at_604) rfl ?_
      show Steps _ _ _ (T445.setTop (mkF m 606 _ [(.int 1)])) _
      refine XS.ifNo X445.here hx rfl (hb hby at_606) rfl ((if0 _ _).trans (feq (by decide : ¬ ((1 : Int32) = (0 : Int32)))).1) ?_
      refine XS.iload X445.here hx rfl (hb hby at_609) rfl ?_
      show Steps _ _ _ (T445.setTop (mkF m 611 _ [(.int 1)])) _
      refine XS.ifNo X445.here hx rfl (hb hby at_611) rfl ((if0 _ _).trans (feq (by decide : ¬ ((1 : Int32) = (0 : Int32)))).1) ?_
      refine XS.iconst X445.here hx rfl (hb hby at_614) ?_
      show Steps _ _ _ (T445.setTop (mkF m 615 _ [(.int 1)])) _
      refine XS.goto X445.here hx rfl (pc0 := 615) (pc' := 619) rfl (hb hby at_615) (by decide) (by decide) ?_
      exact k)
    rw [hO] at go458
    obtain ⟨fs, hr, hrun, hended, hW, hsame⟩ := X445.leave (v := some (.int 1)) (fun h => by rw [Bd.returns] at h; cases h)
    refine ⟨_, _, go458 _ ?_, hrun, hended, _, _, rfl, ?_, ⟨_, rfl⟩, hW, hsame.mono (by decide) (by decide)⟩
    · exact retN X445 hx (t := .boolean) Bd.returns (by simp) (hb hby at_619) hr
    · show Q_law Z p0 p1 p2 p3 p4 p5 h0 n0 _ T445.heap _
      rw [eE3]
      exact ⟨rfl, N445⟩
set_option maxRecDepth 65536 in
set_option maxHeartbeats 40000000 in
theorem comes_1 {Post : Tables → Env → Array Value → State → Outcome → State → Prop} (hpost : ∀ tb e args s v u, (limb_1_1.after args s (.returned v) u = true ∧ limb_1_2.after args s (.returned v) u = true ∧ True) → FrameEnd s (.returned v) u (Jvm.fieldLocs frame_1_writes args s ++ Jvm.arrayLocs frame_1_arrays args s ++ Jvm.staticLocs frame_1_statics s) 16 128 → Post tb e args s (.returned v) u) :
    ArmFor flags0 classFile x code maxLocals ret World_1 tables_1 room_1 Calls_1 rest_1 Pre_1 Post := by
  intro l hfl _ _ p e ha hc hk s m args below hf hA hF happ hP
  obtain ⟨hcalls, hrest, hpre⟩ := hP
  obtain ⟨-, -, -, hnamed, -, -, -, hat⟩ := (Spec.applies_iff hf).mp happ
  obtain ⟨hg, hn⟩ := and_e (Cond.before_iff.mp (show (Jvm.Cond.and given_1 narrow_1).before args s = true from hpre))
  obtain ⟨hcnt, r0⟩ := and_e hg
  obtain ⟨c0, r1⟩ := and_e r0
  obtain ⟨c1, r2⟩ := and_e r1
  obtain ⟨c2, r3⟩ := and_e r2
  obtain ⟨c3, r4⟩ := and_e r3
  obtain ⟨c4, r5⟩ := and_e r4
  obtain ⟨w0, w1, w2, w3, w4, w5, rfl⟩ : ∃ w0 w1 w2 w3 w4 w5 : Value, args = #[w0, w1, w2, w3, w4, w5] := by
    have hs : args.size = 6 := by simpa [Cond.value, given_1] using hcnt
    obtain ⟨L⟩ := args
    match L, hs with
    | [w0, w1, w2, w3, w4, w5], _ => exact ⟨w0, w1, w2, w3, w4, w5, rfl⟩
  have hw := fun d (hd : d ∈ tables_1) => atoms_spec (ws := Jvm.Cond.code x code maxLocals ret :: tables_1) hat d (List.mem_cons_of_mem _ hd)
  obtain ⟨i0, ei0⟩ := is_v c0
  obtain rfl : w0 = (.int i0) := Option.some.inj ei0
  obtain ⟨i1, ei1⟩ := is_v c1
  obtain rfl : w1 = (.int i1) := Option.some.inj ei1
  obtain ⟨i2, ei2⟩ := is_v c2
  obtain rfl : w2 = (.int i2) := Option.some.inj ei2
  obtain ⟨i3, ei3⟩ := is_v c3
  obtain rfl : w3 = (.int i3) := Option.some.inj ei3
  obtain ⟨i4, ei4⟩ := is_v c4
  obtain rfl : w4 = (.int i4) := Option.some.inj ei4
  obtain ⟨i5, ei5⟩ := is_v r5
  obtain rfl : w5 = (.int i5) := Option.some.inj ei5
  obtain ⟨n, o, h1, h2, h3, _, L, rfl, ⟨rfl, N⟩, hq⟩ := rm_law l s _ hw tables_1 i0 i1 i2 i3 i4 i5 s.heap s.heap.size (Nat.le_refl _) p e ha hc hk s m _ below hf ((Spec.applies_iff_loose hf).mp happ).1 ⟨rfl, State.Warmed39.refl s, rfl⟩ trivial
  refine ⟨n, _, h1, h2, h3, hpost _ _ _ _ _ _ ⟨Cond.after_iff.mpr rfl, Cond.after_iff.mpr (eq_i res_at (Term.int_eval (1)) rfl), trivial⟩ ⟨hq.1, hq.2.1, (hq.2.2.sift fun y hy => Or.inr (N y hy)).mono (by decide) (by decide)⟩⟩
theorem main_1_1 : Claimed_1_1 := comes_1 fun _ _ _ _ _ _ h hF => ⟨h.1, hF⟩
theorem main_1_2 : Claimed_1_2 := comes_1 fun _ _ _ _ _ _ h hF => ⟨h.2.1, hF⟩
end Jvm.Pilot.@@N@@
namespace Jvm.Pilot.@@N@@
open Jvm Jvm.ClassFile Sem Op Lib Jvm.Free Jvm.Stand Jvm.Pilot.@@N@@.Jvm.D
/-! MADE BY PROGRAM (witnessworld.py) out of the Statement's table words and the real class files: 9 classes; the members and pool entries that the words name. The judged class is class 1, her method 2. -/
namespace start1
open Jvm.ClassFile
def u (s : String) : CpInfo := .utf8 (stringToUtf16 s)
/-- a pool by its gaps: so many unusable entries, then the entry; so many at the end -/
def gap : Nat → List CpInfo → List CpInfo
  | 0, r => r
  | n + 1, r => .unusable :: gap n r
def poolList (es : List (Nat × CpInfo)) (last : Nat) : List CpInfo := es.foldr (fun e r => gap e.1 (e.2 :: r)) (gap last [])
def pool (es : List (Nat × CpInfo)) (last : Nat) : Array CpInfo := ⟨poolList es last⟩
def fileOf (pool : Array CpInfo) (this : Nat) (attrs : Array Attribute := #[]) (ms : Array MethodInfo := #[]) (fl : Nat := 33) (sup : Nat := 0) (ifs : Array Nat := #[]) (fds : Array FieldInfo := #[]) : ClassFile where
  minorVersion := 0
  majorVersion := 65
  constantPool := pool
  accessFlags := fl
  thisClass := this
  superClass := sup
  interfaces := ifs
  fields := fds
  methods := ms
  attributes := attrs
def plain (name : String) (sup : Option ClassId) : Class where
  name := name
  kind := .ordinary
  loader := none
  accessFlags := 33
  super := sup
  interfaces := #[]
  cf := none
  fields := #[]
  methods := #[]
  instanceTypes := #[]
  staticTypes := #[]
  resolved := #[]
  callSites := []
  init := .initialized
  statics := none
  mirror := none

def pool0 : Array CpInfo := pool [(5, u "<init>"), (0, u "()V"), (1, .class_ 10), (1, u "java/lang/Object")] 113

def k0m0 : Method := { name := "<init>", desc := "()V", sig := { parameters := [], returnType := none }, accessFlags := 1, code := none }
/-- java/lang/Object -/
def k0 : Class := { plain "java/lang/Object" none with
  accessFlags := 33
  interfaces := #[]
  cf := some (fileOf pool0 8 #[] #[{ accessFlags := 1, nameIndex := 5, descriptorIndex := 6, attributes := #[] }] 33 0 #[] #[])
  fields := #[]
  methods := #[k0m0]
  instanceTypes := #[]
  staticTypes := #[]
  resolved := Array.replicate 124 none
  statics := none }

def pool1 : Array CpInfo := pool [(2, .class_ 4), (1, u "java/lang/Object"), (0, u "<init>"), (0, u "()V"), (0, .integer 2147483647), (0, .methodref 9 10), (0, .class_ 11), (0, .nameAndType 12 13), (0, u "com/example/limbwise/kernel/Words"), (0, u "add"), (0, u "([II[III[III)I"), (0, .long 4294967295), (1, .long 18446744073709551615), (1, .methodref 19 20), (0, .class_ 21), (0, .nameAndType 22 23), (0, u "com/example/limbwise/kernel/WordsAddPinLaw"), (0, u "expect"), (0, u "(IIIJI)I"), (3, u "law"), (0, u "(IIIIII)Z")] 4

def k1m0 : Method := { name := "<init>", desc := "()V", sig := { parameters := [], returnType := none }, accessFlags := 2, code := none }
def k1c1 : Code := { maxStack := 3, maxLocals := 7, code := method_2_code, exceptionTable := #[], attributes := #[] }
def k1m1 : Method := { name := "expect", desc := "(IIIJI)I", sig := { parameters := [.int, .int, .int, .long, .int], returnType := some .int }, accessFlags := 10, code := some k1c1 }
def k1c2 : Code := { maxStack := 8, maxLocals := 45, code := code, exceptionTable := #[], attributes := #[] }
def k1m2 : Method := { name := "law", desc := "(IIIIII)Z", sig := { parameters := [.int, .int, .int, .int, .int, .int], returnType := some .boolean }, accessFlags := 9, code := some k1c2 }
/-- com/example/limbwise/kernel/WordsAddPinLaw -/
def k1 : Class := { plain "com/example/limbwise/kernel/WordsAddPinLaw" (some 0) with
  accessFlags := 49
  interfaces := #[]
  cf := some (fileOf pool1 19 #[] #[{ accessFlags := 2, nameIndex := 5, descriptorIndex := 6, attributes := #[] }, { accessFlags := 10, nameIndex := 22, descriptorIndex := 23, attributes := #[] }, { accessFlags := 9, nameIndex := 27, descriptorIndex := 28, attributes := #[] }] 49 2 #[] #[])
  fields := #[]
  methods := #[k1m0, k1m1, k1m2]
  instanceTypes := #[]
  staticTypes := #[]
  resolved := Array.replicate 33 none
  statics := none }

def pool2 : Array CpInfo := pool [(4, .class_ 6), (1, u "java/lang/Object"), (0, u "<init>"), (0, u "()V"), (0, .long 4294967295), (2, .class_ 14), (1, u "com/example/limbwise/kernel/Words"), (0, u "add"), (0, u "([II[III[III)I")] 29

def k2m0 : Method := { name := "<init>", desc := "()V", sig := { parameters := [], returnType := none }, accessFlags := 2, code := none }
def k2c1 : Code := { maxStack := 8, maxLocals := 11, code := prog_24_method_2_code, exceptionTable := #[], attributes := #[] }
def k2m1 : Method := { name := "add", desc := "([II[III[III)I", sig := { parameters := [(.array .int), .int, (.array .int), .int, .int, (.array .int), .int, .int], returnType := some .int }, accessFlags := 8, code := some k2c1 }
/-- com/example/limbwise/kernel/Words -/
def k2 : Class := { plain "com/example/limbwise/kernel/Words" (some 0) with
  accessFlags := 32
  interfaces := #[]
  cf := some (fileOf pool2 12 #[] #[{ accessFlags := 2, nameIndex := 7, descriptorIndex := 8, attributes := #[] }, { accessFlags := 8, nameIndex := 15, descriptorIndex := 16, attributes := #[] }] 32 4 #[] #[])
  fields := #[]
  methods := #[k2m0, k2m1]
  instanceTypes := #[]
  staticTypes := #[]
  resolved := Array.replicate 46 none
  statics := none }

def pool3 : Array CpInfo := pool [(1, u "java/lang/Cloneable"), (0, .class_ 1), (0, u "java/lang/Object"), (0, .class_ 3)] 3

/-- java/lang/Cloneable -/
def k3 : Class := { plain "java/lang/Cloneable" (some 0) with
  accessFlags := 1537
  interfaces := #[]
  cf := some (fileOf pool3 2 #[] #[] 1537 4 #[] #[])
  fields := #[]
  methods := #[]
  instanceTypes := #[]
  staticTypes := #[]
  resolved := Array.replicate 8 none
  statics := none }

def pool4 : Array CpInfo := pool [(1, u "java/io/Serializable"), (0, .class_ 1), (0, u "java/lang/Object"), (0, .class_ 3)] 3

/-- java/io/Serializable -/
def k4 : Class := { plain "java/io/Serializable" (some 0) with
  accessFlags := 1537
  interfaces := #[]
  cf := some (fileOf pool4 2 #[] #[] 1537 4 #[] #[])
  fields := #[]
  methods := #[]
  instanceTypes := #[]
  staticTypes := #[]
  resolved := Array.replicate 8 none
  statics := none }

/-- the primitive byte -/
def k5 : Class := { plain "byte" none with kind := .primitive 'B', accessFlags := 0x411 }
/-- [B -/
def k6 : Class := { plain "[B" (some 0) with kind := .array 5 .byte, interfaces := #[3, 4], accessFlags := 1041 }

/-- the primitive int -/
def k7 : Class := { plain "int" none with kind := .primitive 'I', accessFlags := 0x411 }
/-- [I -/
def k8 : Class := { plain "[I" (some 0) with kind := .array 7 .int, interfaces := #[3, 4], accessFlags := 1041 }

def heap : Heap := #[]
def classes : Array Class := #[k0, k1, k2, k3, k4, k5, k6, k7, k8]
def interned : List (Array UInt16 × Addr) := []
def slotsUsed : Nat := 0
def theMethod : MethodId := ⟨1, 2⟩
def args0 : Array Value := #[.int 5, .int 3, .int 3, .int 3, .int 3, .int 3]
def aboutOver (below : List Frame) : State where
  vm := { classes := classes, interned := interned.toArray }
  heap := heap
  slotsUsed := slotsUsed
  threads := #[{ frames := .invoking theMethod args0 :: below }]
def below0 : List Frame := [.native { method := ⟨0, 0⟩, args := #[] }]
def about1 : State := aboutOver below0
def p0 : Program := .bare "" "" ""
def e0 : Env := launch0.env 0 0 0
theorem w_frames : about1.frames = Frame.invoking theMethod args0 :: below0 := rfl
set_option maxRecDepth 65536 in
theorem w_args : argsFit about1.vm theMethod args0 = true := by decide +kernel
set_option maxRecDepth 65536 in
theorem w_heap : heapFits about1 = true := by decide +kernel
set_option maxRecDepth 65536 in
theorem w_runnable : about1.curStatus? = some .runnable := by decide +kernel
set_option maxRecDepth 65536 in
theorem w_alone : about1.alone = true := by decide +kernel
set_option maxRecDepth 65536 in
theorem w_named : about1.methodNamed? x = some theMethod := by decide +kernel
set_option maxRecDepth 65536 in
theorem w_hears : about1.hears theMethod below0 = true := by decide +kernel
set_option maxRecDepth 65536 in
theorem w_ripe : about1.ripe theMethod args0 below0 = true := by decide +kernel
theorem w_running : about1.status = .running := rfl
set_option maxRecDepth 65536 in
theorem w_room : about1.hasRoom e0.platform room_1 = true :=
  launch0.hasRoom_least _ room_1 (by decide +kernel) (by decide +kernel) (by decide +kernel) (by decide +kernel) (by decide +kernel) (by decide +kernel)
theorem allAtoms_all (ts : List Jvm.Cond) (a : Array Jvm.Value) (st : Jvm.State) : (allAtoms ts).before a st = ts.all (fun c => c.before a st) := by
  induction ts with
  | nil => rfl
  | cons c t ih =>
    show (Jvm.Cond.and c (allAtoms t)).before a st = _
    rw [Jvm.Cond.before_and, ih, List.all_cons]
def words1 : List Jvm.Cond := Jvm.Cond.code x code maxLocals ret :: tables_1
/-- a 'code' word, met by the world's own term for the bytes: nothing is compared byte by byte -/
theorem code_word {y : MethodName} {bytes : ByteArray} {mx : Nat} {rt : Option FieldType} {a : Array Value} {s : State} {m : MethodId} {meth : Method} {c : Code} (h1 : s.methodNamed? y = some m) (h2 : s.vm.method? m = some meth) (h3 : meth.code = some c) (h4 : c.code = bytes)
    (h5 : (c.maxLocals == mx && c.exceptionTable.isEmpty && decide (c.maxStack ≤ mostOperands) && decide (meth.sig.returnType = rt) && !meth.locks && decide (parseMethodDescriptor y.desc = some meth.sig)) = true) : (Jvm.Cond.code y bytes mx rt).before a s = true := by
  simp only [Bool.and_eq_true, beq_iff_eq, Bool.not_eq_true', decide_eq_true_eq] at h5
  obtain ⟨⟨⟨⟨⟨g1, g2⟩, g3⟩, g4⟩, g5⟩, g6⟩ := h5
  simp [Cond.before, Cond.holds, Cond.value, h1, h2, h3, h4, g1, g2, g3, g4, g5, g6]
def isCode : Jvm.Cond → Bool
  | .code _ _ _ _ => true
  | _ => false
theorem all_split {L : List Jvm.Cond} {P : Jvm.Cond → Bool} (h1 : L.all (fun c => isCode c || P c) = true) (h2 : ∀ c ∈ L.filter isCode, P c = true) : L.all P = true := by
  refine List.all_eq_true.mpr fun c hc => ?_
  have h := List.all_eq_true.mp h1 c hc
  rcases Bool.eq_false_or_eq_true (isCode c) with hi | hi
  · exact h2 c (List.mem_filter.mpr ⟨hc, hi⟩)
  · simpa [hi] using h
set_option maxRecDepth 65536 in
theorem w_c0 : (Jvm.Cond.code x code maxLocals ret).before args0 about1 = true := code_word (m := ⟨1, 2⟩) (meth := k1m2) (c := k1c2) (by decide +kernel) rfl rfl rfl (by decide +kernel)
set_option maxRecDepth 65536 in
theorem w_c1 : (Jvm.Cond.code ({ cls := "com/example/limbwise/kernel/Words", name := "add", desc := "([II[III[III)I" } : Jvm.MethodName) prog_24_method_2_code (11 : Nat) (Option.some Jvm.ClassFile.FieldType.int)).before args0 about1 = true := code_word (m := ⟨2, 1⟩) (meth := k2m1) (c := k2c1) (by decide +kernel) rfl rfl rfl (by decide +kernel)
set_option maxRecDepth 65536 in
theorem w_c2 : (Jvm.Cond.code ({ cls := "com/example/limbwise/kernel/WordsAddPinLaw", name := "expect", desc := "(IIIJI)I" } : Jvm.MethodName) method_2_code (7 : Nat) (Option.some Jvm.ClassFile.FieldType.int)).before args0 about1 = true := code_word (m := ⟨1, 1⟩) (meth := k1m1) (c := k1c1) (by decide +kernel) rfl rfl rfl (by decide +kernel)
def codes1 : List Jvm.Cond := [Jvm.Cond.code x code maxLocals ret, Jvm.Cond.code ({ cls := "com/example/limbwise/kernel/Words", name := "add", desc := "([II[III[III)I" } : Jvm.MethodName) prog_24_method_2_code (11 : Nat) (Option.some Jvm.ClassFile.FieldType.int), Jvm.Cond.code ({ cls := "com/example/limbwise/kernel/WordsAddPinLaw", name := "expect", desc := "(IIIJI)I" } : Jvm.MethodName) method_2_code (7 : Nat) (Option.some Jvm.ClassFile.FieldType.int)]
set_option maxRecDepth 65536 in
theorem codes_eq : words1.filter isCode = codes1 := rfl
theorem w_codes : ∀ c ∈ words1.filter isCode, c.before args0 about1 = true := by
  rw [codes_eq]
  intro c hc
  simp only [codes1, List.mem_cons, List.not_mem_nil, or_false] at hc
  rcases hc with rfl | rfl | rfl
  · exact w_c0
  · exact w_c1
  · exact w_c2
set_option maxRecDepth 65536 in
theorem w_t1 : words1.all (fun c => isCode c || c.before args0 about1) = true := by decide +kernel
theorem w_tables : (allAtoms (Jvm.Cond.code x code maxLocals ret :: tables_1)).before args0 about1 = true := by
  rw [allAtoms_all]
  show words1.all (fun c => c.before args0 about1) = true
  refine all_split ?_ w_codes
  rw [w_t1]
set_option maxRecDepth 65536 in
theorem w_case : (Jvm.Cond.and given_1 narrow_1).before args0 about1 = true := by decide +kernel
theorem w_applies : (headSpec (Jvm.Cond.code x code maxLocals ret :: tables_1) room_1).applies x e0.platform about1 = true :=
  (Spec.applies_iff w_frames).mpr ⟨w_running, w_runnable, w_alone, w_named, w_hears, w_ripe, w_room, w_tables⟩
theorem atStart : AtStart classFile x code maxLocals ret World_1 tables_1 room_1 Calls_1 rest_1 Pre_1 launch0 p0 e0 about1 theMethod args0 below0 :=
  ⟨lists_1, trivial, launch0.admits_env _ _ _, launch0.least_env, fairChoices_fair.cas, fairChoices_fair.clock, w_frames, w_args, w_heap, w_applies, trivial, trivial, w_case⟩
end start1
theorem witness_1 : WitnessClaimed_1 := ⟨start1.p0, start1.e0, start1.about1, start1.theMethod, start1.args0, start1.below0, start1.atStart⟩
end Jvm.Pilot.@@N@@
