import JvmDerived
import JvmDerived.Pilot.@@N@@Statement
import JvmDerived.Pilot.@@N@@Code
set_option linter.unusedVariables false
set_option linter.unusedSimpArgs false
namespace Jvm.RoadKit
open Sem ClassFile Op Lib Jvm.Stand Jvm.Free Jvm.LawKit
section New
variable {p : Program} {l : Launch} {e : Env} {R : Room} {s : State} {m : MethodId} {args : Array Value} {below : List Frame} {meth : Method} {c : Code} {T : State} {locs : List Loc} {cells slots : Nat}
theorem retI (X : Stand p l e R s m args below meth c T locs cells slots) (hx : p.tables.exec = Jvm.exec) {pc : Nat} {Ls : Array Slot} {z : Int32} {rest : List Value} (hret : meth.sig.returnType = some .int) (hd : decode c.code pc = .ok (.ireturn, 1)) {fs : List Frame}
    (hl : ∀ (f : JFrame) (acts : List Action), f.method = m → f.locked = none → f.entered = [] → (doReturn e (T.setTop f) acts (some (.int z))).1 = T.setFrames fs) : Steps p.tables e below (T.setTop (mkF m pc Ls (.int z :: rest))) (T.setFrames fs) := by
  have hm' : T.vm.method? m = some meth := X.method'
  have hn : narrow .int (.int z) = .int z := rfl
  show Steps p.tables e below (T.setTop { method := m, pc := pc, locals := Ls, stack := _ :: rest, locked := none }) _
  jvm_step X.here [X.here.top, hx, hd, hm', hret, hn]
  first | (intro acts; rw [hl _ acts rfl rfl rfl]) | rw [hl _ _ rfl rfl rfl]
  exact Steps.refl _
end New
end Jvm.RoadKit
namespace Jvm.Pilot.@@N@@
open Jvm Jvm.ClassFile Sem Op Lib Jvm.Free Jvm.Stand Jvm.LawKit Jvm.RoadKit Bundle Jvm.Pilot.@@N@@.Jvm.D
def own_min (x y : Int32) : Int32 := if y < x then y else x
theorem own_lt {x y : Int32} (h : x.toInt < y.toInt) : x < y := Int32.lt_iff_toInt_lt.mpr h
theorem own_nz (nw : Int32) (h0 : 0 ≤ nw.toInt) (h3 : nw.toInt ≤ 3) : ¬ nw + (1 : Int32) = (0 : Int32) := fun h => by
  have z1 : (1 : Int32).toInt = 1 := rfl
  have z0 : (0 : Int32).toInt = 0 := rfl
  have e1 : (nw + (1 : Int32)).toInt = nw.toInt + 1 := by have := c_iadd nw 1; have := rng32 (nw + 1); omega
  rw [h] at e1; omega
theorem own_pl (s nw : Int32) (hs : 0 ≤ s.toInt) (h0 : 0 ≤ nw.toInt) (h3 : nw.toInt ≤ 3) : 0 ≤ (s % (nw + (1 : Int32))).toInt ∧ (s % (nw + (1 : Int32))).toInt ≤ nw.toInt := by
  have z1 : (1 : Int32).toInt = 1 := rfl
  have e1 : (nw + (1 : Int32)).toInt = nw.toInt + 1 := by have := c_iadd nw 1; have := rng32 (nw + 1); omega
  have := (c_iremV s (nw + 1)).1 hs (by omega)
  omega
theorem own_two (pl nw : Int32) (h0 : 0 ≤ pl.toInt) (h1 : pl.toInt ≤ nw.toInt) (h3 : nw.toInt ≤ 3) (a : ¬ pl = nw) (b : ¬ pl = (0 : Int32)) (c : ¬ pl = (1 : Int32)) : pl = (2 : Int32) := by
  rw [← Int32.toInt_inj] at a b c ⊢
  have z0 : (0 : Int32).toInt = 0 := rfl
  have z1 : (1 : Int32).toInt = 1 := rfl
  have z2 : (2 : Int32).toInt = 2 := rfl
  omega
theorem ef_mn (m : MethodId) (x0 : Int32) (x1 : Int32) : entryFrame m #[(.int x0), (.int x1)] 2 = mkF m 0 #[iv x0, iv x1] [] := by first | (simp [entryFrame, mkF, argsToLocals, Value.category]; done) | rfl
def Q_mn (Z : State) (p0 : Int32) (p1 : Int32) (h0 : Heap) (n0 : Nat) (v : Option Value) (h : Heap) (L : List Loc) : Prop := v = some (.int (own_min p0 p1)) ∧ Fr n0 L ∧ h = h0
theorem d0_0 : decode jdk_29_method_69_code 0 = .ok (.iload_n 0, 1) := by decide +kernel
theorem d0_1 : decode jdk_29_method_69_code 1 = .ok (.iload_n 1, 1) := by decide +kernel
theorem d0_2 : decode jdk_29_method_69_code 2 = .ok (.if_icmp .gt 7, 3) := by decide +kernel
theorem d0_9 : decode jdk_29_method_69_code 9 = .ok (.iload_n 1, 1) := by decide +kernel
theorem d0_10 : decode jdk_29_method_69_code 10 = .ok (.ireturn, 1) := by decide +kernel
theorem d0_5 : decode jdk_29_method_69_code 5 = .ok (.iload_n 0, 1) := by decide +kernel
theorem d0_6 : decode jdk_29_method_69_code 6 = .ok (.goto 4, 3) := by decide +kernel
set_option maxRecDepth 65536 in
set_option maxHeartbeats 40000000 in
theorem rm_mn (l : Launch) (Z : State) (a0 : Array Value) (hw : ∀ d ∈ tables_1, d.before a0 Z = true) (ws : List Jvm.Cond) (p0 : Int32) (p1 : Int32) (h0 : Heap) (n0 : Nat) (Z0 : n0 ≤ h0.size)  :
    MetFree l (⟨"java/lang/Math", "min", "(II)I"⟩ : MethodName) (head1 (Jvm.Cond.code (⟨"java/lang/Math", "min", "(II)I"⟩ : MethodName) jdk_29_method_69_code 2 (some .int) :: ws) ({ frames := 0, cells := 0, slots := 0, locals := 0 } : Room)) (fun a U => a = #[(.int p0), (.int p1)] ∧ Z.Warmed39 U.vm ∧ U.heap = h0) (fun _ _ _ _ _ => True) (fun _ U o U' => ∃ v L, o = .returned v ∧ Q_mn Z p0 p1 h0 n0 v U'.heap L ∧ FrameEnd U o U' L ({ frames := 0, cells := 0, slots := 0, locals := 0 } : Room).cells ({ frames := 0, cells := 0, slots := 0, locals := 0 } : Room).slots) := by
  refine MetFree.of_bodySF (Jvm.Free.JP.mathPlain rfl (by decide +kernel)) hisR ?_
  intro p e s m args below meth c s₁ Bd hml0 hP hK
  obtain ⟨rfl, hZ, hh⟩ := hP
  have hx := Bd.exec
  have hby := Bd.bytes
  have hml : c.maxLocals = 2 := hml0
  have hown : s.vm.findClass "java/lang/Math" = some m.cls := findClass_of_methodNamed Bd.named
  have hnm := (name_of_methodNamed Bd.named Bd.method).1
  have X0 : Stand p l e ({ frames := 0, cells := 0, slots := 0, locals := 0 } : Room) s m #[(.int p0), (.int p1)] below meth c s₁ [] 0 0 := Stand.of_body Bd
  have e0 : s₁.heap = h0 := by rw [← hh, Bd.state]; rfl
  have N0 := Fr.nil n0
  have go0 : ∀ t, Steps p.tables e below (s₁.setTop (mkF m 0 #[iv p0, iv p1] [])) t → Steps p.tables e below (s₁.setTop (entryFrame m #[(.int p0), (.int p1)] 2)) t := fun t k => castTop (ef_mn m p0 p1) k
  obtain ⟨O, hO⟩ : ∃ z, z = (s₁.setTop (entryFrame m #[(.int p0), (.int p1)] 2)) := ⟨_, rfl⟩
  rw [← hO] at go0
  have go101 : ∀ t, Steps p.tables e below (s₁.setTop (mkF m 2 #[iv p0, iv p1] [(.int p1), (.int p0)])) t → Steps p.tables e below O t := fun t k => go0 t (by
    refine XS.iloadN X0.here hx rfl (hb hby d0_0) rfl ?_
    show Steps _ _ _ (s₁.setTop (mkF m 1 _ [(.int p0)])) _
    refine XS.iloadN X0.here hx rfl (hb hby d0_1) rfl ?_
    show Steps _ _ _ (s₁.setTop (mkF m 2 _ [(.int p1), (.int p0)])) _
    exact k)
  by_cases hc : p1 < p0
  · have go102 : ∀ t, Steps p.tables e below (s₁.setTop (mkF m 10 #[iv p0, iv p1] [(.int p1)])) t → Steps p.tables e below O t := fun t k => go101 t (by
      refine XS.icmpYes X0.here hx rfl (pc0 := 2) (pc' := 9) rfl (hb hby d0_2) rfl (tlt (hc : p1 < p0)).2.2.1 (by decide) (by decide) ?_
      show Steps _ _ _ (s₁.setTop (mkF m 9 _ [])) _
      refine XS.iloadN X0.here hx rfl (hb hby d0_9) rfl ?_
      show Steps _ _ _ (s₁.setTop (mkF m 10 _ [(.int p1)])) _
      exact k)
    subst hO
    obtain ⟨fs, hr, hrun, hended, hW, hsame⟩ := X0.leave (v := some (.int p1)) (fun h => by rw [Bd.returns] at h; cases h)
    refine ⟨_, _, go102 _ ?_, hrun, hended, _, _, rfl, ?_, ⟨_, rfl⟩, hW, hsame.mono (by decide) (by decide)⟩
    · exact retI X0 hx Bd.returns (hb hby d0_10) hr
    · show Q_mn Z p0 p1 h0 n0 _ s₁.heap _
      rw [e0]
      exact ⟨by unfold own_min; rw [if_pos hc], N0, rfl⟩
  · have go104 : ∀ t, Steps p.tables e below (s₁.setTop (mkF m 10 #[iv p0, iv p1] [(.int p0)])) t → Steps p.tables e below O t := fun t k => go101 t (by
      refine XS.icmpNo X0.here hx rfl (hb hby d0_2) rfl (flt (hc : ¬ (p1 < p0))).2.2.1 ?_
      show Steps _ _ _ (s₁.setTop (mkF m 5 _ [])) _
      refine XS.iloadN X0.here hx rfl (hb hby d0_5) rfl ?_
      show Steps _ _ _ (s₁.setTop (mkF m 6 _ [(.int p0)])) _
      refine XS.goto X0.here hx rfl (pc0 := 6) (pc' := 10) rfl (hb hby d0_6) (by decide) (by decide) ?_
      show Steps _ _ _ (s₁.setTop (mkF m 10 _ [(.int p0)])) _
      exact k)
    subst hO
    obtain ⟨fs, hr, hrun, hended, hW, hsame⟩ := X0.leave (v := some (.int p0)) (fun h => by rw [Bd.returns] at h; cases h)
    refine ⟨_, _, go104 _ ?_, hrun, hended, _, _, rfl, ?_, ⟨_, rfl⟩, hW, hsame.mono (by decide) (by decide)⟩
    · exact retI X0 hx Bd.returns (hb hby d0_10) hr
    · show Q_mn Z p0 p1 h0 n0 _ s₁.heap _
      rw [e0]
      exact ⟨by unfold own_min; rw [if_neg hc], N0, rfl⟩
theorem ef_st (m : MethodId) (x0 : Addr) (x1 : Int64) (x2 : Addr) (x3 : Int32) (x4 : Int32) (x5 : Int64) (x6 : Int64) (x7 : Int64) : entryFrame m #[(.ref x0), (.long x1), (.ref x2), (.int x3), (.int x4), (.long x5), (.long x6), (.long x7)] 12 = mkF m 0 #[rv x0, .val (.long x1), .second, rv x2, iv x3, iv x4, .val (.long x5), .second, .val (.long x6), .second, .val (.long x7), .second] [] := by first | (simp [entryFrame, mkF, argsToLocals, Value.category]; done) | rfl
theorem pn_0 : plainName "com/example/leash/leash/service/SlidingLog$State" = true := by first | (simp [plainName, overriddenIn]; done) | decide +kernel
def Q_st (Z : State) (o0 : Addr) (q1 : Int64) (o2 : Addr) (p3 : Int32) (p4 : Int32) (q5 : Int64) (q6 : Int64) (q7 : Int64) (h0 : Heap) (n0 : Nat) (v : Option Value) (h : Heap) (L : List Loc) : Prop := v = none ∧ Fr n0 L ∧ Keep h0 h [o0] ∧ Exa Z h o0 "com/example/leash/leash/service/SlidingLog$State" ∧ Fld Z h o0 "com/example/leash/leash/service/SlidingLog$State" "shelf" "[J" (.ref o2) ∧ Fld Z h o0 "com/example/leash/leash/service/SlidingLog$State" "newest" "I" (.int p4) ∧ Fld Z h o0 "com/example/leash/leash/service/SlidingLog$State" "newestAt" "J" (.long q6)
theorem d1_0 : decode prog_53_method_1_code 0 = .ok (.aload_n 0, 1) := by decide +kernel
theorem d1_1 : decode prog_53_method_1_code 1 = .ok (.invokespecial 1, 3) := by decide +kernel
theorem d1_4 : decode prog_53_method_1_code 4 = .ok (.aload_n 0, 1) := by decide +kernel
theorem d1_5 : decode prog_53_method_1_code 5 = .ok (.lload_n 1, 1) := by decide +kernel
theorem d1_6 : decode prog_53_method_1_code 6 = .ok (.putfield 7, 3) := by decide +kernel
theorem d1_9 : decode prog_53_method_1_code 9 = .ok (.aload_n 0, 1) := by decide +kernel
theorem d1_10 : decode prog_53_method_1_code 10 = .ok (.aload_n 3, 1) := by decide +kernel
theorem d1_11 : decode prog_53_method_1_code 11 = .ok (.putfield 13, 3) := by decide +kernel
theorem d1_14 : decode prog_53_method_1_code 14 = .ok (.aload_n 0, 1) := by decide +kernel
theorem d1_15 : decode prog_53_method_1_code 15 = .ok (.iload 4, 2) := by decide +kernel
theorem d1_17 : decode prog_53_method_1_code 17 = .ok (.putfield 17, 3) := by decide +kernel
theorem d1_20 : decode prog_53_method_1_code 20 = .ok (.aload_n 0, 1) := by decide +kernel
theorem d1_21 : decode prog_53_method_1_code 21 = .ok (.iload 5, 2) := by decide +kernel
theorem d1_23 : decode prog_53_method_1_code 23 = .ok (.putfield 21, 3) := by decide +kernel
theorem d1_26 : decode prog_53_method_1_code 26 = .ok (.aload_n 0, 1) := by decide +kernel
theorem d1_27 : decode prog_53_method_1_code 27 = .ok (.lload 6, 2) := by decide +kernel
theorem d1_29 : decode prog_53_method_1_code 29 = .ok (.putfield 24, 3) := by decide +kernel
theorem d1_32 : decode prog_53_method_1_code 32 = .ok (.aload_n 0, 1) := by decide +kernel
theorem d1_33 : decode prog_53_method_1_code 33 = .ok (.lload 8, 2) := by decide +kernel
theorem d1_35 : decode prog_53_method_1_code 35 = .ok (.putfield 27, 3) := by decide +kernel
theorem d1_38 : decode prog_53_method_1_code 38 = .ok (.aload_n 0, 1) := by decide +kernel
theorem d1_39 : decode prog_53_method_1_code 39 = .ok (.lload 10, 2) := by decide +kernel
theorem d1_41 : decode prog_53_method_1_code 41 = .ok (.putfield 30, 3) := by decide +kernel
theorem d1_44 : decode prog_53_method_1_code 44 = .ok (.return_, 1) := by decide +kernel
set_option maxRecDepth 65536 in
set_option maxHeartbeats 40000000 in
theorem rm_st (l : Launch) (Z : State) (a0 : Array Value) (hw : ∀ d ∈ tables_1, d.before a0 Z = true) (ws : List Jvm.Cond) (o0 : Addr) (q1 : Int64) (o2 : Addr) (p3 : Int32) (p4 : Int32) (q5 : Int64) (q6 : Int64) (q7 : Int64) (h0 : Heap) (n0 : Nat) (Z0 : n0 ≤ h0.size) (E_o0 : Exa Z h0 o0 "com/example/leash/leash/service/SlidingLog$State") (ge_o0 : n0 ≤ o0) (F_latestSeen_o0 : Fld Z h0 o0 "com/example/leash/leash/service/SlidingLog$State" "latestSeen" "J" (.long 0)) (F_shelf_o0 : Fld Z h0 o0 "com/example/leash/leash/service/SlidingLog$State" "shelf" "[J" .null) (F_oldest_o0 : Fld Z h0 o0 "com/example/leash/leash/service/SlidingLog$State" "oldest" "I" (.int 0)) (F_newest_o0 : Fld Z h0 o0 "com/example/leash/leash/service/SlidingLog$State" "newest" "I" (.int 0)) (F_totalBefore_o0 : Fld Z h0 o0 "com/example/leash/leash/service/SlidingLog$State" "totalBefore" "J" (.long 0)) (F_newestAt_o0 : Fld Z h0 o0 "com/example/leash/leash/service/SlidingLog$State" "newestAt" "J" (.long 0)) (F_newestTotal_o0 : Fld Z h0 o0 "com/example/leash/leash/service/SlidingLog$State" "newestTotal" "J" (.long 0)) :
    MetFree l (⟨"com/example/leash/leash/service/SlidingLog$State", "<init>", "(J[JIIJJJ)V"⟩ : MethodName) (head1 (Jvm.Cond.code (⟨"com/example/leash/leash/service/SlidingLog$State", "<init>", "(J[JIIJJJ)V"⟩ : MethodName) prog_53_method_1_code 12 none :: ws) ({ frames := 1, cells := 0, slots := 0, locals := 12 } : Room)) (fun a U => a = #[(.ref o0), (.long q1), (.ref o2), (.int p3), (.int p4), (.long q5), (.long q6), (.long q7)] ∧ Z.Warmed39 U.vm ∧ U.heap = h0) (fun _ _ _ _ _ => True) (fun _ U o U' => ∃ v L, o = .returned v ∧ Q_st Z o0 q1 o2 p3 p4 q5 q6 q7 h0 n0 v U'.heap L ∧ FrameEnd U o U' L ({ frames := 1, cells := 0, slots := 0, locals := 12 } : Room).cells ({ frames := 1, cells := 0, slots := 0, locals := 12 } : Room).slots) := by
  refine MetFree.of_bodySF (plainFor_of_name pn_0) hisR ?_
  intro p e s m args below meth c s₁ Bd hml0 hP hK
  obtain ⟨rfl, hZ, hh⟩ := hP
  have hx := Bd.exec
  have hby := Bd.bytes
  have hml : c.maxLocals = 12 := hml0
  have hown : s.vm.findClass "com/example/leash/leash/service/SlidingLog$State" = some m.cls := findClass_of_methodNamed Bd.named
  have hnm := (name_of_methodNamed Bd.named Bd.method).1
  have X0 : Stand p l e ({ frames := 1, cells := 0, slots := 0, locals := 12 } : Room) s m #[(.ref o0), (.long q1), (.ref o2), (.int p3), (.int p4), (.long q5), (.long q6), (.long q7)] below meth c s₁ [] 0 0 := Stand.of_body Bd
  have e0 : s₁.heap = h0 := by rw [← hh, Bd.state]; rfl
  have N0 := Fr.nil n0
  have go0 : ∀ t, Steps p.tables e below (s₁.setTop (mkF m 0 #[rv o0, .val (.long q1), .second, rv o2, iv p3, iv p4, .val (.long q5), .second, .val (.long q6), .second, .val (.long q7), .second] [])) t → Steps p.tables e below (s₁.setTop (entryFrame m #[(.ref o0), (.long q1), (.ref o2), (.int p3), (.int p4), (.long q5), (.long q6), (.long q7)] 12)) t := fun t k => castTop (ef_st m o0 q1 o2 p3 p4 q5 q6 q7) k
  obtain ⟨O, hO⟩ : ∃ z, z = (s₁.setTop (entryFrame m #[(.ref o0), (.long q1), (.ref o2), (.int p3), (.int p4), (.long q5), (.long q6), (.long q7)] 12)) := ⟨_, rfl⟩
  rw [← hO] at go0
  have K101 := Keep.refl h0 [o0]
  obtain ⟨T102, X102, e102, st102⟩ := initO X0 hx hZ hown (hw _ (List.mem_of_getElem? (i := 14) rfl)) (hw _ (List.mem_of_getElem? (i := 15) rfl)) (hw _ (List.mem_of_getElem? (i := 16) rfl)) e0 (g := (mkF m 1 #[rv o0, .val (.long q1), .second, rv o2, iv p3, iv p4, .val (.long q5), .second, .val (.long q6), .second, .val (.long q7), .second] [(.ref o0)])) rfl (by rw [hml]; rfl) rfl (hb hby d1_1) (by decide) (W := 0) (by show 2 * 0 + _ ≤ _; exact Nat.le_of_eq rfl) (by decide)
  obtain ⟨T103, h103, X103, e103, W103, st103⟩ := putF X102 hx hZ hown (host := "") (Or.inl (hw _ (List.mem_of_getElem? (i := 17) rfl))) Via.refl e102 F_latestSeen_o0 E_o0 (Or.inr ⟨(hw _ (List.mem_of_getElem? (i := 18) rfl)), rfl, hnm⟩) (hw _ (List.mem_of_getElem? (i := 7) rfl)) (ty := .long) (by decide) rfl rfl (g := (mkF m 6 #[rv o0, .val (.long q1), .second, rv o2, iv p3, iv p4, .val (.long q5), .second, .val (.long q6), .second, .val (.long q7), .second] [(.long q1), (.ref o0)])) rfl rfl (hb hby d1_6)
  have f104 := E_o0.wr W103
  have f105 := F_shelf_o0.other W103 (Or.inr (slot_ne (Or.inr (hw _ (List.mem_of_getElem? (i := 20) rfl))) (Or.inr (hw _ (List.mem_of_getElem? (i := 18) rfl))) (by decide) (t := (.array .long)) (t' := .long) (by decide) (by decide)))
  have f106 := F_oldest_o0.other W103 (Or.inr (slot_ne (Or.inr (hw _ (List.mem_of_getElem? (i := 22) rfl))) (Or.inr (hw _ (List.mem_of_getElem? (i := 18) rfl))) (by decide) (t := .int) (t' := .long) (by decide) (by decide)))
  have f107 := F_newest_o0.other W103 (Or.inr (slot_ne (Or.inr (hw _ (List.mem_of_getElem? (i := 24) rfl))) (Or.inr (hw _ (List.mem_of_getElem? (i := 18) rfl))) (by decide) (t := .int) (t' := .long) (by decide) (by decide)))
  have f108 := F_totalBefore_o0.other W103 (Or.inr (slot_ne (Or.inr (hw _ (List.mem_of_getElem? (i := 26) rfl))) (Or.inr (hw _ (List.mem_of_getElem? (i := 18) rfl))) (by decide) (t := .long) (t' := .long) (by decide) (by decide)))
  have f109 := F_newestAt_o0.other W103 (Or.inr (slot_ne (Or.inr (hw _ (List.mem_of_getElem? (i := 28) rfl))) (Or.inr (hw _ (List.mem_of_getElem? (i := 18) rfl))) (by decide) (t := .long) (t' := .long) (by decide) (by decide)))
  have f110 := F_newestTotal_o0.other W103 (Or.inr (slot_ne (Or.inr (hw _ (List.mem_of_getElem? (i := 30) rfl))) (Or.inr (hw _ (List.mem_of_getElem? (i := 18) rfl))) (by decide) (t := .long) (t' := .long) (by decide) (by decide)))
  have Z111 := Nat.le_trans Z0 (Keep.of_wr W103).1
  have K112 := K101.wr W103 (Or.inl (List.mem_of_getElem? (i := 0) rfl))
  have f113 := F_latestSeen_o0.same W103
  have N103 := Fr.snoc X103 N0 ge_o0
  obtain ⟨T114, h114, X114, e114, W114, st114⟩ := putF X103 hx hZ hown (host := "") (Or.inl (hw _ (List.mem_of_getElem? (i := 19) rfl))) Via.refl e103 f105 f104 (Or.inr ⟨(hw _ (List.mem_of_getElem? (i := 20) rfl)), rfl, hnm⟩) (hw _ (List.mem_of_getElem? (i := 7) rfl)) (ty := (.array .long)) (by decide) rfl rfl (g := (mkF m 11 #[rv o0, .val (.long q1), .second, rv o2, iv p3, iv p4, .val (.long q5), .second, .val (.long q6), .second, .val (.long q7), .second] [(.ref o2), (.ref o0)])) rfl rfl (hb hby d1_11)
  have f115 := f104.wr W114
  have f116 := f113.other W114 (Or.inr (slot_ne (Or.inr (hw _ (List.mem_of_getElem? (i := 18) rfl))) (Or.inr (hw _ (List.mem_of_getElem? (i := 20) rfl))) (by decide) (t := .long) (t' := (.array .long)) (by decide) (by decide)))
  have f117 := f106.other W114 (Or.inr (slot_ne (Or.inr (hw _ (List.mem_of_getElem? (i := 22) rfl))) (Or.inr (hw _ (List.mem_of_getElem? (i := 20) rfl))) (by decide) (t := .int) (t' := (.array .long)) (by decide) (by decide)))
  have f118 := f107.other W114 (Or.inr (slot_ne (Or.inr (hw _ (List.mem_of_getElem? (i := 24) rfl))) (Or.inr (hw _ (List.mem_of_getElem? (i := 20) rfl))) (by decide) (t := .int) (t' := (.array .long)) (by decide) (by decide)))
  have f119 := f108.other W114 (Or.inr (slot_ne (Or.inr (hw _ (List.mem_of_getElem? (i := 26) rfl))) (Or.inr (hw _ (List.mem_of_getElem? (i := 20) rfl))) (by decide) (t := .long) (t' := (.array .long)) (by decide) (by decide)))
  have f120 := f109.other W114 (Or.inr (slot_ne (Or.inr (hw _ (List.mem_of_getElem? (i := 28) rfl))) (Or.inr (hw _ (List.mem_of_getElem? (i := 20) rfl))) (by decide) (t := .long) (t' := (.array .long)) (by decide) (by decide)))
  have f121 := f110.other W114 (Or.inr (slot_ne (Or.inr (hw _ (List.mem_of_getElem? (i := 30) rfl))) (Or.inr (hw _ (List.mem_of_getElem? (i := 20) rfl))) (by decide) (t := .long) (t' := (.array .long)) (by decide) (by decide)))
  have Z122 := Nat.le_trans Z111 (Keep.of_wr W114).1
  have K123 := K112.wr W114 (Or.inl (List.mem_of_getElem? (i := 0) rfl))
  have f124 := f105.same W114
  have N114 := Fr.snoc X114 N103 ge_o0
  obtain ⟨T125, h125, X125, e125, W125, st125⟩ := putF X114 hx hZ hown (host := "") (Or.inl (hw _ (List.mem_of_getElem? (i := 21) rfl))) Via.refl e114 f117 f115 (Or.inr ⟨(hw _ (List.mem_of_getElem? (i := 22) rfl)), rfl, hnm⟩) (hw _ (List.mem_of_getElem? (i := 7) rfl)) (ty := .int) (by decide) rfl rfl (g := (mkF m 17 #[rv o0, .val (.long q1), .second, rv o2, iv p3, iv p4, .val (.long q5), .second, .val (.long q6), .second, .val (.long q7), .second] [(.int p3), (.ref o0)])) rfl rfl (hb hby d1_17)
  have f126 := f115.wr W125
  have f127 := f116.other W125 (Or.inr (slot_ne (Or.inr (hw _ (List.mem_of_getElem? (i := 18) rfl))) (Or.inr (hw _ (List.mem_of_getElem? (i := 22) rfl))) (by decide) (t := .long) (t' := .int) (by decide) (by decide)))
  have f128 := f124.other W125 (Or.inr (slot_ne (Or.inr (hw _ (List.mem_of_getElem? (i := 20) rfl))) (Or.inr (hw _ (List.mem_of_getElem? (i := 22) rfl))) (by decide) (t := (.array .long)) (t' := .int) (by decide) (by decide)))
  have f129 := f118.other W125 (Or.inr (slot_ne (Or.inr (hw _ (List.mem_of_getElem? (i := 24) rfl))) (Or.inr (hw _ (List.mem_of_getElem? (i := 22) rfl))) (by decide) (t := .int) (t' := .int) (by decide) (by decide)))
  have f130 := f119.other W125 (Or.inr (slot_ne (Or.inr (hw _ (List.mem_of_getElem? (i := 26) rfl))) (Or.inr (hw _ (List.mem_of_getElem? (i := 22) rfl))) (by decide) (t := .long) (t' := .int) (by decide) (by decide)))
  have f131 := f120.other W125 (Or.inr (slot_ne (Or.inr (hw _ (List.mem_of_getElem? (i := 28) rfl))) (Or.inr (hw _ (List.mem_of_getElem? (i := 22) rfl))) (by decide) (t := .long) (t' := .int) (by decide) (by decide)))
  have f132 := f121.other W125 (Or.inr (slot_ne (Or.inr (hw _ (List.mem_of_getElem? (i := 30) rfl))) (Or.inr (hw _ (List.mem_of_getElem? (i := 22) rfl))) (by decide) (t := .long) (t' := .int) (by decide) (by decide)))
  have Z133 := Nat.le_trans Z122 (Keep.of_wr W125).1
  have K134 := K123.wr W125 (Or.inl (List.mem_of_getElem? (i := 0) rfl))
  have f135 := f117.same W125
  have N125 := Fr.snoc X125 N114 ge_o0
  obtain ⟨T136, h136, X136, e136, W136, st136⟩ := putF X125 hx hZ hown (host := "") (Or.inl (hw _ (List.mem_of_getElem? (i := 23) rfl))) Via.refl e125 f129 f126 (Or.inr ⟨(hw _ (List.mem_of_getElem? (i := 24) rfl)), rfl, hnm⟩) (hw _ (List.mem_of_getElem? (i := 7) rfl)) (ty := .int) (by decide) rfl rfl (g := (mkF m 23 #[rv o0, .val (.long q1), .second, rv o2, iv p3, iv p4, .val (.long q5), .second, .val (.long q6), .second, .val (.long q7), .second] [(.int p4), (.ref o0)])) rfl rfl (hb hby d1_23)
  have f137 := f126.wr W136
  have f138 := f127.other W136 (Or.inr (slot_ne (Or.inr (hw _ (List.mem_of_getElem? (i := 18) rfl))) (Or.inr (hw _ (List.mem_of_getElem? (i := 24) rfl))) (by decide) (t := .long) (t' := .int) (by decide) (by decide)))
  have f139 := f128.other W136 (Or.inr (slot_ne (Or.inr (hw _ (List.mem_of_getElem? (i := 20) rfl))) (Or.inr (hw _ (List.mem_of_getElem? (i := 24) rfl))) (by decide) (t := (.array .long)) (t' := .int) (by decide) (by decide)))
  have f140 := f135.other W136 (Or.inr (slot_ne (Or.inr (hw _ (List.mem_of_getElem? (i := 22) rfl))) (Or.inr (hw _ (List.mem_of_getElem? (i := 24) rfl))) (by decide) (t := .int) (t' := .int) (by decide) (by decide)))
  have f141 := f130.other W136 (Or.inr (slot_ne (Or.inr (hw _ (List.mem_of_getElem? (i := 26) rfl))) (Or.inr (hw _ (List.mem_of_getElem? (i := 24) rfl))) (by decide) (t := .long) (t' := .int) (by decide) (by decide)))
  have f142 := f131.other W136 (Or.inr (slot_ne (Or.inr (hw _ (List.mem_of_getElem? (i := 28) rfl))) (Or.inr (hw _ (List.mem_of_getElem? (i := 24) rfl))) (by decide) (t := .long) (t' := .int) (by decide) (by decide)))
  have f143 := f132.other W136 (Or.inr (slot_ne (Or.inr (hw _ (List.mem_of_getElem? (i := 30) rfl))) (Or.inr (hw _ (List.mem_of_getElem? (i := 24) rfl))) (by decide) (t := .long) (t' := .int) (by decide) (by decide)))
  have Z144 := Nat.le_trans Z133 (Keep.of_wr W136).1
  have K145 := K134.wr W136 (Or.inl (List.mem_of_getElem? (i := 0) rfl))
  have f146 := f129.same W136
  have N136 := Fr.snoc X136 N125 ge_o0
  obtain ⟨T147, h147, X147, e147, W147, st147⟩ := putF X136 hx hZ hown (host := "") (Or.inl (hw _ (List.mem_of_getElem? (i := 25) rfl))) Via.refl e136 f141 f137 (Or.inr ⟨(hw _ (List.mem_of_getElem? (i := 26) rfl)), rfl, hnm⟩) (hw _ (List.mem_of_getElem? (i := 7) rfl)) (ty := .long) (by decide) rfl rfl (g := (mkF m 29 #[rv o0, .val (.long q1), .second, rv o2, iv p3, iv p4, .val (.long q5), .second, .val (.long q6), .second, .val (.long q7), .second] [(.long q5), (.ref o0)])) rfl rfl (hb hby d1_29)
  have f148 := f137.wr W147
  have f149 := f138.other W147 (Or.inr (slot_ne (Or.inr (hw _ (List.mem_of_getElem? (i := 18) rfl))) (Or.inr (hw _ (List.mem_of_getElem? (i := 26) rfl))) (by decide) (t := .long) (t' := .long) (by decide) (by decide)))
  have f150 := f139.other W147 (Or.inr (slot_ne (Or.inr (hw _ (List.mem_of_getElem? (i := 20) rfl))) (Or.inr (hw _ (List.mem_of_getElem? (i := 26) rfl))) (by decide) (t := (.array .long)) (t' := .long) (by decide) (by decide)))
  have f151 := f140.other W147 (Or.inr (slot_ne (Or.inr (hw _ (List.mem_of_getElem? (i := 22) rfl))) (Or.inr (hw _ (List.mem_of_getElem? (i := 26) rfl))) (by decide) (t := .int) (t' := .long) (by decide) (by decide)))
  have f152 := f146.other W147 (Or.inr (slot_ne (Or.inr (hw _ (List.mem_of_getElem? (i := 24) rfl))) (Or.inr (hw _ (List.mem_of_getElem? (i := 26) rfl))) (by decide) (t := .int) (t' := .long) (by decide) (by decide)))
  have f153 := f142.other W147 (Or.inr (slot_ne (Or.inr (hw _ (List.mem_of_getElem? (i := 28) rfl))) (Or.inr (hw _ (List.mem_of_getElem? (i := 26) rfl))) (by decide) (t := .long) (t' := .long) (by decide) (by decide)))
  have f154 := f143.other W147 (Or.inr (slot_ne (Or.inr (hw _ (List.mem_of_getElem? (i := 30) rfl))) (Or.inr (hw _ (List.mem_of_getElem? (i := 26) rfl))) (by decide) (t := .long) (t' := .long) (by decide) (by decide)))
  have Z155 := Nat.le_trans Z144 (Keep.of_wr W147).1
  have K156 := K145.wr W147 (Or.inl (List.mem_of_getElem? (i := 0) rfl))
  have f157 := f141.same W147
  have N147 := Fr.snoc X147 N136 ge_o0
  obtain ⟨T158, h158, X158, e158, W158, st158⟩ := putF X147 hx hZ hown (host := "") (Or.inl (hw _ (List.mem_of_getElem? (i := 27) rfl))) Via.refl e147 f153 f148 (Or.inr ⟨(hw _ (List.mem_of_getElem? (i := 28) rfl)), rfl, hnm⟩) (hw _ (List.mem_of_getElem? (i := 7) rfl)) (ty := .long) (by decide) rfl rfl (g := (mkF m 35 #[rv o0, .val (.long q1), .second, rv o2, iv p3, iv p4, .val (.long q5), .second, .val (.long q6), .second, .val (.long q7), .second] [(.long q6), (.ref o0)])) rfl rfl (hb hby d1_35)
  have f159 := f148.wr W158
  have f160 := f149.other W158 (Or.inr (slot_ne (Or.inr (hw _ (List.mem_of_getElem? (i := 18) rfl))) (Or.inr (hw _ (List.mem_of_getElem? (i := 28) rfl))) (by decide) (t := .long) (t' := .long) (by decide) (by decide)))
  have f161 := f150.other W158 (Or.inr (slot_ne (Or.inr (hw _ (List.mem_of_getElem? (i := 20) rfl))) (Or.inr (hw _ (List.mem_of_getElem? (i := 28) rfl))) (by decide) (t := (.array .long)) (t' := .long) (by decide) (by decide)))
  have f162 := f151.other W158 (Or.inr (slot_ne (Or.inr (hw _ (List.mem_of_getElem? (i := 22) rfl))) (Or.inr (hw _ (List.mem_of_getElem? (i := 28) rfl))) (by decide) (t := .int) (t' := .long) (by decide) (by decide)))
  have f163 := f152.other W158 (Or.inr (slot_ne (Or.inr (hw _ (List.mem_of_getElem? (i := 24) rfl))) (Or.inr (hw _ (List.mem_of_getElem? (i := 28) rfl))) (by decide) (t := .int) (t' := .long) (by decide) (by decide)))
  have f164 := f157.other W158 (Or.inr (slot_ne (Or.inr (hw _ (List.mem_of_getElem? (i := 26) rfl))) (Or.inr (hw _ (List.mem_of_getElem? (i := 28) rfl))) (by decide) (t := .long) (t' := .long) (by decide) (by decide)))
  have f165 := f154.other W158 (Or.inr (slot_ne (Or.inr (hw _ (List.mem_of_getElem? (i := 30) rfl))) (Or.inr (hw _ (List.mem_of_getElem? (i := 28) rfl))) (by decide) (t := .long) (t' := .long) (by decide) (by decide)))
  have Z166 := Nat.le_trans Z155 (Keep.of_wr W158).1
  have K167 := K156.wr W158 (Or.inl (List.mem_of_getElem? (i := 0) rfl))
  have f168 := f153.same W158
  have N158 := Fr.snoc X158 N147 ge_o0
  obtain ⟨T169, h169, X169, e169, W169, st169⟩ := putF X158 hx hZ hown (host := "") (Or.inl (hw _ (List.mem_of_getElem? (i := 29) rfl))) Via.refl e158 f165 f159 (Or.inr ⟨(hw _ (List.mem_of_getElem? (i := 30) rfl)), rfl, hnm⟩) (hw _ (List.mem_of_getElem? (i := 7) rfl)) (ty := .long) (by decide) rfl rfl (g := (mkF m 41 #[rv o0, .val (.long q1), .second, rv o2, iv p3, iv p4, .val (.long q5), .second, .val (.long q6), .second, .val (.long q7), .second] [(.long q7), (.ref o0)])) rfl rfl (hb hby d1_41)
  have f170 := f159.wr W169
  have f171 := f160.other W169 (Or.inr (slot_ne (Or.inr (hw _ (List.mem_of_getElem? (i := 18) rfl))) (Or.inr (hw _ (List.mem_of_getElem? (i := 30) rfl))) (by decide) (t := .long) (t' := .long) (by decide) (by decide)))
  have f172 := f161.other W169 (Or.inr (slot_ne (Or.inr (hw _ (List.mem_of_getElem? (i := 20) rfl))) (Or.inr (hw _ (List.mem_of_getElem? (i := 30) rfl))) (by decide) (t := (.array .long)) (t' := .long) (by decide) (by decide)))
  have f173 := f162.other W169 (Or.inr (slot_ne (Or.inr (hw _ (List.mem_of_getElem? (i := 22) rfl))) (Or.inr (hw _ (List.mem_of_getElem? (i := 30) rfl))) (by decide) (t := .int) (t' := .long) (by decide) (by decide)))
  have f174 := f163.other W169 (Or.inr (slot_ne (Or.inr (hw _ (List.mem_of_getElem? (i := 24) rfl))) (Or.inr (hw _ (List.mem_of_getElem? (i := 30) rfl))) (by decide) (t := .int) (t' := .long) (by decide) (by decide)))
  have f175 := f164.other W169 (Or.inr (slot_ne (Or.inr (hw _ (List.mem_of_getElem? (i := 26) rfl))) (Or.inr (hw _ (List.mem_of_getElem? (i := 30) rfl))) (by decide) (t := .long) (t' := .long) (by decide) (by decide)))
  have f176 := f168.other W169 (Or.inr (slot_ne (Or.inr (hw _ (List.mem_of_getElem? (i := 28) rfl))) (Or.inr (hw _ (List.mem_of_getElem? (i := 30) rfl))) (by decide) (t := .long) (t' := .long) (by decide) (by decide)))
  have Z177 := Nat.le_trans Z166 (Keep.of_wr W169).1
  have K178 := K167.wr W169 (Or.inl (List.mem_of_getElem? (i := 0) rfl))
  have f179 := f165.same W169
  have N169 := Fr.snoc X169 N158 ge_o0
  have go180 : ∀ t, Steps p.tables e below (T169.setTop (mkF m 44 #[rv o0, .val (.long q1), .second, rv o2, iv p3, iv p4, .val (.long q5), .second, .val (.long q6), .second, .val (.long q7), .second] [])) t → Steps p.tables e below O t := fun t k => go0 t (by
    refine XS.aloadN X0.here hx rfl (hb hby d1_0) rfl rfl ?_
    show Steps _ _ _ (s₁.setTop (mkF m 1 _ [(.ref o0)])) _
    refine st102 _ ?_
    show Steps _ _ _ (T102.setTop (mkF m 4 _ [])) _
    refine XS.aloadN X102.here hx rfl (hb hby d1_4) rfl rfl ?_
    show Steps _ _ _ (T102.setTop (mkF m 5 _ [(.ref o0)])) _
    refine XS.lloadN X102.here hx rfl (hb hby d1_5) rfl ?_
    show Steps _ _ _ (T102.setTop (mkF m 6 _ [(.long q1), (.ref o0)])) _
    refine st103 _ ?_
    show Steps _ _ _ (T103.setTop (mkF m 9 _ [])) _
    refine XS.aloadN X103.here hx rfl (hb hby d1_9) rfl rfl ?_
    show Steps _ _ _ (T103.setTop (mkF m 10 _ [(.ref o0)])) _
    refine XS.aloadN X103.here hx rfl (hb hby d1_10) rfl rfl ?_
    show Steps _ _ _ (T103.setTop (mkF m 11 _ [(.ref o2), (.ref o0)])) _
    refine st114 _ ?_
    show Steps _ _ _ (T114.setTop (mkF m 14 _ [])) _
    refine XS.aloadN X114.here hx rfl (hb hby d1_14) rfl rfl ?_
    show Steps _ _ _ (T114.setTop (mkF m 15 _ [(.ref o0)])) _
    refine XS.iload X114.here hx rfl (hb hby d1_15) rfl ?_
    show Steps _ _ _ (T114.setTop (mkF m 17 _ [(.int p3), (.ref o0)])) _
    refine st125 _ ?_
    show Steps _ _ _ (T125.setTop (mkF m 20 _ [])) _
    refine XS.aloadN X125.here hx rfl (hb hby d1_20) rfl rfl ?_
    show Steps _ _ _ (T125.setTop (mkF m 21 _ [(.ref o0)])) _
    refine XS.iload X125.here hx rfl (hb hby d1_21) rfl ?_
    show Steps _ _ _ (T125.setTop (mkF m 23 _ [(.int p4), (.ref o0)])) _
    refine st136 _ ?_
    show Steps _ _ _ (T136.setTop (mkF m 26 _ [])) _
    refine XS.aloadN X136.here hx rfl (hb hby d1_26) rfl rfl ?_
    show Steps _ _ _ (T136.setTop (mkF m 27 _ [(.ref o0)])) _
    refine XS.lload X136.here hx rfl (hb hby d1_27) rfl ?_
    show Steps _ _ _ (T136.setTop (mkF m 29 _ [(.long q5), (.ref o0)])) _
    refine st147 _ ?_
    show Steps _ _ _ (T147.setTop (mkF m 32 _ [])) _
    refine XS.aloadN X147.here hx rfl (hb hby d1_32) rfl rfl ?_
    show Steps _ _ _ (T147.setTop (mkF m 33 _ [(.ref o0)])) _
    refine XS.lload X147.here hx rfl (hb hby d1_33) rfl ?_
    show Steps _ _ _ (T147.setTop (mkF m 35 _ [(.long q6), (.ref o0)])) _
    refine st158 _ ?_
    show Steps _ _ _ (T158.setTop (mkF m 38 _ [])) _
    refine XS.aloadN X158.here hx rfl (hb hby d1_38) rfl rfl ?_
    show Steps _ _ _ (T158.setTop (mkF m 39 _ [(.ref o0)])) _
    refine XS.lload X158.here hx rfl (hb hby d1_39) rfl ?_
    show Steps _ _ _ (T158.setTop (mkF m 41 _ [(.long q7), (.ref o0)])) _
    refine st169 _ ?_
    show Steps _ _ _ (T169.setTop (mkF m 44 _ [])) _
    exact k)
  subst hO
  obtain ⟨fs, hr, hrun, hended, hW, hsame⟩ := X169.leave (v := none) (fun _ => rfl)
  refine ⟨_, _, go180 _ ?_, hrun, hended, _, _, rfl, ?_, ⟨_, rfl⟩, hW, hsame.mono (by decide) (by decide)⟩
  · exact X169.returnOut hx Bd.returns (hb hby d1_44) hr
  · show Q_st Z o0 q1 o2 p3 p4 q5 q6 q7 h0 n0 _ T169.heap _
    rw [e169]
    exact ⟨rfl, N169, K178, f170, f172, f174, f176⟩
theorem ef_in (m : MethodId) (x0 : Addr) (x1 : Int32) : entryFrame m #[(.ref x0), (.int x1)] 2 = mkF m 0 #[rv x0, iv x1] [] := by first | (simp [entryFrame, mkF, argsToLocals, Value.category]; done) | rfl
def Q_in (Z : State) (o0 : Addr) (p1 : Int32) (wn_ : Int32) (wa_ : Int64) (sh_ : Addr) (k_ : ClassId) (vs_ : List Value) (wv_ : Int64) (h0 : Heap) (n0 : Nat) (v : Option Value) (h : Heap) (L : List Loc) : Prop := v = some (.long (if p1 = wn_ then wa_ else wv_)) ∧ Fr n0 L ∧ h = h0
theorem d2_0 : decode prog_53_method_4_code 0 = .ok (.iload_n 1, 1) := by decide +kernel
theorem d2_1 : decode prog_53_method_4_code 1 = .ok (.aload_n 0, 1) := by decide +kernel
theorem d2_2 : decode prog_53_method_4_code 2 = .ok (.getfield 21, 3) := by decide +kernel
theorem d2_5 : decode prog_53_method_4_code 5 = .ok (.if_icmp .ne 10, 3) := by decide +kernel
theorem d2_8 : decode prog_53_method_4_code 8 = .ok (.aload_n 0, 1) := by decide +kernel
theorem d2_9 : decode prog_53_method_4_code 9 = .ok (.getfield 27, 3) := by decide +kernel
theorem d2_12 : decode prog_53_method_4_code 12 = .ok (.goto 11, 3) := by decide +kernel
theorem d2_23 : decode prog_53_method_4_code 23 = .ok (.lreturn, 1) := by decide +kernel
theorem d2_15 : decode prog_53_method_4_code 15 = .ok (.aload_n 0, 1) := by decide +kernel
theorem d2_16 : decode prog_53_method_4_code 16 = .ok (.getfield 13, 3) := by decide +kernel
theorem d2_19 : decode prog_53_method_4_code 19 = .ok (.iconst 2, 1) := by decide +kernel
theorem d2_20 : decode prog_53_method_4_code 20 = .ok (.iload_n 1, 1) := by decide +kernel
theorem d2_21 : decode prog_53_method_4_code 21 = .ok (.imul, 1) := by decide +kernel
theorem d2_22 : decode prog_53_method_4_code 22 = .ok (.laload, 1) := by decide +kernel
set_option maxRecDepth 65536 in
set_option maxHeartbeats 40000000 in
theorem rm_in (l : Launch) (Z : State) (a0 : Array Value) (hw : ∀ d ∈ tables_1, d.before a0 Z = true) (ws : List Jvm.Cond) (o0 : Addr) (p1 : Int32) (wn_ : Int32) (wa_ : Int64) (sh_ : Addr) (k_ : ClassId) (vs_ : List Value) (wv_ : Int64) (h0 : Heap) (n0 : Nat) (Z0 : n0 ≤ h0.size) (E_o0 : Exa Z h0 o0 "com/example/leash/leash/service/SlidingLog$State") (ge_o0 : n0 ≤ o0) (F_newest_o0 : Fld Z h0 o0 "com/example/leash/leash/service/SlidingLog$State" "newest" "I" (.int wn_)) (F_newestAt_o0 : Fld Z h0 o0 "com/example/leash/leash/service/SlidingLog$State" "newestAt" "J" (.long wa_)) (F_shelf_o0 : Fld Z h0 o0 "com/example/leash/leash/service/SlidingLog$State" "shelf" "[J" (.ref sh_)) (V_sh_ : Arv Z h0 sh_ k_ .long (6 : Int32) vs_ (.long (0 : Int64))) (hin : ¬ p1 = wn_ → ¬ ((2 : Int32) * p1) < 0 ∧ ((2 : Int32) * p1) < (6 : Int32)) (hat : ¬ p1 = wn_ → vs_.getD ((2 : Int32) * p1).toNatClampNeg (.long (0 : Int64)) = (.long wv_)) :
    MetFree l (⟨"com/example/leash/leash/service/SlidingLog$State", "instant", "(I)J"⟩ : MethodName) (head1 (Jvm.Cond.code (⟨"com/example/leash/leash/service/SlidingLog$State", "instant", "(I)J"⟩ : MethodName) prog_53_method_4_code 2 (some .long) :: ws) ({ frames := 0, cells := 0, slots := 0, locals := 0 } : Room)) (fun a U => a = #[(.ref o0), (.int p1)] ∧ Z.Warmed39 U.vm ∧ U.heap = h0) (fun _ _ _ _ _ => True) (fun _ U o U' => ∃ v L, o = .returned v ∧ Q_in Z o0 p1 wn_ wa_ sh_ k_ vs_ wv_ h0 n0 v U'.heap L ∧ FrameEnd U o U' L ({ frames := 0, cells := 0, slots := 0, locals := 0 } : Room).cells ({ frames := 0, cells := 0, slots := 0, locals := 0 } : Room).slots) := by
  refine MetFree.of_bodySF (plainFor_of_name pn_0) hisR ?_
  intro p e s m args below meth c s₁ Bd hml0 hP hK
  obtain ⟨rfl, hZ, hh⟩ := hP
  have hx := Bd.exec
  have hby := Bd.bytes
  have hml : c.maxLocals = 2 := hml0
  have hown : s.vm.findClass "com/example/leash/leash/service/SlidingLog$State" = some m.cls := findClass_of_methodNamed Bd.named
  have hnm := (name_of_methodNamed Bd.named Bd.method).1
  have X0 : Stand p l e ({ frames := 0, cells := 0, slots := 0, locals := 0 } : Room) s m #[(.ref o0), (.int p1)] below meth c s₁ [] 0 0 := Stand.of_body Bd
  have e0 : s₁.heap = h0 := by rw [← hh, Bd.state]; rfl
  have N0 := Fr.nil n0
  have go0 : ∀ t, Steps p.tables e below (s₁.setTop (mkF m 0 #[rv o0, iv p1] [])) t → Steps p.tables e below (s₁.setTop (entryFrame m #[(.ref o0), (.int p1)] 2)) t := fun t k => castTop (ef_in m o0 p1) k
  obtain ⟨O, hO⟩ : ∃ z, z = (s₁.setTop (entryFrame m #[(.ref o0), (.int p1)] 2)) := ⟨_, rfl⟩
  rw [← hO] at go0
  obtain ⟨T101, X101, e101, st101⟩ := getF X0 hx hZ hown (host := "") (Or.inl (hw _ (List.mem_of_getElem? (i := 23) rfl))) Via.refl e0 F_newest_o0 (g := (mkF m 2 #[rv o0, iv p1] [(.ref o0), (.int p1)])) rfl rfl (hb hby d2_2)
  have go102 : ∀ t, Steps p.tables e below (T101.setTop (mkF m 5 #[rv o0, iv p1] [(.int wn_), (.int p1)])) t → Steps p.tables e below O t := fun t k => go0 t (by
    refine XS.iloadN X0.here hx rfl (hb hby d2_0) rfl ?_
    show Steps _ _ _ (s₁.setTop (mkF m 1 _ [(.int p1)])) _
    refine XS.aloadN X0.here hx rfl (hb hby d2_1) rfl rfl ?_
    show Steps _ _ _ (s₁.setTop (mkF m 2 _ [(.ref o0), (.int p1)])) _
    refine st101 _ ?_
    show Steps _ _ _ (T101.setTop (mkF m 5 _ [(.int wn_), (.int p1)])) _
    exact k)
  by_cases hc : p1 = wn_
  · obtain ⟨T103, X103, e103, st103⟩ := getF X101 hx hZ hown (host := "") (Or.inl (hw _ (List.mem_of_getElem? (i := 27) rfl))) Via.refl e101 F_newestAt_o0 (g := (mkF m 9 #[rv o0, iv p1] [(.ref o0)])) rfl rfl (hb hby d2_9)
    have go104 : ∀ t, Steps p.tables e below (T103.setTop (mkF m 23 #[rv o0, iv p1] [(.long wa_)])) t → Steps p.tables e below O t := fun t k => go102 t (by
      refine XS.icmpNo X101.here hx rfl (hb hby d2_5) rfl (teq (hc : p1 = wn_)).2 ?_
      show Steps _ _ _ (T101.setTop (mkF m 8 _ [])) _
      refine XS.aloadN X101.here hx rfl (hb hby d2_8) rfl rfl ?_
      show Steps _ _ _ (T101.setTop (mkF m 9 _ [(.ref o0)])) _
      refine st103 _ ?_
      show Steps _ _ _ (T103.setTop (mkF m 12 _ [(.long wa_)])) _
      refine XS.goto X103.here hx rfl (pc0 := 12) (pc' := 23) rfl (hb hby d2_12) (by decide) (by decide) ?_
      show Steps _ _ _ (T103.setTop (mkF m 23 _ [(.long wa_)])) _
      exact k)
    subst hO
    obtain ⟨fs, hr, hrun, hended, hW, hsame⟩ := X103.leave (v := some (.long wa_)) (fun h => by rw [Bd.returns] at h; cases h)
    refine ⟨_, _, go104 _ ?_, hrun, hended, _, _, rfl, ?_, ⟨_, rfl⟩, hW, hsame.mono (by decide) (by decide)⟩
    · exact X103.lreturnOut hx Bd.returns (hb hby d2_23) hr
    · show Q_in Z o0 p1 wn_ wa_ sh_ k_ vs_ wv_ h0 n0 _ T103.heap _
      rw [e103]
      exact ⟨by rw [if_pos hc], N0, rfl⟩
  · obtain ⟨T106, X106, e106, st106⟩ := getF X101 hx hZ hown (host := "") (Or.inl (hw _ (List.mem_of_getElem? (i := 19) rfl))) Via.refl e101 F_shelf_o0 (g := (mkF m 16 #[rv o0, iv p1] [(.ref o0)])) rfl rfl (hb hby d2_16)
    obtain ⟨cl107, Ar107, q107, S107, M107, Hs107, G107⟩ := V_sh_
    have f108 : Arv Z h0 sh_ k_ .long (6 : Int32) vs_ (.long 0) := ⟨cl107, Ar107, q107, S107, M107, Hs107, G107⟩
    have hin109 : ¬ (((2 : Int32) * p1) < 0 ∨ cl107.slots.size ≤ (((2 : Int32) * p1)).toNatClampNeg) := inb_of S107 (hin hc)
    have hat109 : cl107.slots[(((2 : Int32) * p1)).toNatClampNeg]? = some (.long wv_) := Hs107.at hin109 (hat hc)
    have go110 : ∀ t, Steps p.tables e below (T106.setTop (mkF m 23 #[rv o0, iv p1] [(.long wv_)])) t → Steps p.tables e below O t := fun t k => go102 t (by
      refine XS.icmpYes X101.here hx rfl (pc0 := 5) (pc' := 15) rfl (hb hby d2_5) rfl (feq (hc : ¬ (p1 = wn_))).2 (by decide) (by decide) ?_
      show Steps _ _ _ (T101.setTop (mkF m 15 _ [])) _
      refine XS.aloadN X101.here hx rfl (hb hby d2_15) rfl rfl ?_
      show Steps _ _ _ (T101.setTop (mkF m 16 _ [(.ref o0)])) _
      refine st106 _ ?_
      show Steps _ _ _ (T106.setTop (mkF m 19 _ [(.ref sh_)])) _
      refine XS.iconst X106.here hx rfl (hb hby d2_19) ?_
      show Steps _ _ _ (T106.setTop (mkF m 20 _ [(.int 2), (.ref sh_)])) _
      refine XS.iloadN X106.here hx rfl (hb hby d2_20) rfl ?_
      show Steps _ _ _ (T106.setTop (mkF m 21 _ [(.int p1), (.int 2), (.ref sh_)])) _
      refine XS.imul X106.here hx rfl (hb hby d2_21) rfl ?_
      show Steps _ _ _ (T106.setTop (mkF m 22 _ [(.int ((2 : Int32) * p1)), (.ref sh_)])) _
      refine X106.laload hx (j := ((2 : Int32) * p1)) (v := (.long wv_)) (by rw [e106]; exact Ar107.1) (State.isArrayOf_alike hZ.alike Ar107.2.1) Ar107.2.2 hin109 hat109 (g := (mkF m 22 #[rv o0, iv p1] [(.int ((2 : Int32) * p1)), (.ref sh_)])) rfl rfl (hb hby d2_22) _ ?_
      show Steps _ _ _ (T106.setTop (mkF m 23 _ [(.long wv_)])) _
      exact k)
    subst hO
    obtain ⟨fs, hr, hrun, hended, hW, hsame⟩ := X106.leave (v := some (.long wv_)) (fun h => by rw [Bd.returns] at h; cases h)
    refine ⟨_, _, go110 _ ?_, hrun, hended, _, _, rfl, ?_, ⟨_, rfl⟩, hW, hsame.mono (by decide) (by decide)⟩
    · exact X106.lreturnOut hx Bd.returns (hb hby d2_23) hr
    · show Q_in Z o0 p1 wn_ wa_ sh_ k_ vs_ wv_ h0 n0 _ T106.heap _
      rw [e106]
      exact ⟨by rw [if_neg hc], N0, rfl⟩
theorem ef_law (m : MethodId) (x0 : Int64) (x1 : Int64) (x2 : Int64) (x3 : Int64) (x4 : Int64) (x5 : Int32) : entryFrame m #[(.long x0), (.long x1), (.long x2), (.long x3), (.long x4), (.int x5)] maxLocals = mkF m 0 #[.val (.long x0), .second, .val (.long x1), .second, .val (.long x2), .second, .val (.long x3), .second, .val (.long x4), .second, iv x5, .unset, .unset, .unset, .unset, .unset, .unset, .unset] [] := by first | (simp [entryFrame, mkF, argsToLocals, Value.category, maxLocals]; done) | rfl
theorem pn_1 : plainName "com/example/leash/leash/service/StateInstantPinLaw" = true := by first | (simp [plainName, overriddenIn]; done) | decide +kernel
def Q_law (Z : State) (q0 : Int64) (q1 : Int64) (q2 : Int64) (q3 : Int64) (q4 : Int64) (p5 : Int32) (h0 : Heap) (n0 : Nat) (v : Option Value) (h : Heap) (L : List Loc) : Prop := v = some (.int (1 : Int32)) ∧ Fr n0 L
theorem pd_0 : parseMethodDescriptor "(II)I" = some ⟨[.int, .int], some .int⟩ := by decide +kernel
theorem pd_1 : parseMethodDescriptor "(J[JIIJJJ)V" = some ⟨[.long, (.array .long), .int, .int, .long, .long, .long], none⟩ := by decide +kernel
theorem pd_2 : parseMethodDescriptor "(I)J" = some ⟨[.int], some .long⟩ := by decide +kernel
set_option maxRecDepth 65536 in
set_option maxHeartbeats 40000000 in
theorem rm_law (l : Launch) (Z : State) (a0 : Array Value) (hw : ∀ d ∈ tables_1, d.before a0 Z = true) (ws : List Jvm.Cond) (q0 : Int64) (q1 : Int64) (q2 : Int64) (q3 : Int64) (q4 : Int64) (p5 : Int32) (h0 : Heap) (n0 : Nat) (Z0 : n0 ≤ h0.size)  :
    MetFree l x (head1 (Jvm.Cond.code x code maxLocals ret :: ws) room_1) (fun a U => a = #[(.long q0), (.long q1), (.long q2), (.long q3), (.long q4), (.int p5)] ∧ Z.Warmed39 U.vm ∧ U.heap = h0) (fun _ _ _ _ _ => True) (fun _ U o U' => ∃ v L, o = .returned v ∧ Q_law Z q0 q1 q2 q3 q4 p5 h0 n0 v U'.heap L ∧ FrameEnd U o U' L room_1.cells room_1.slots) := by
  refine MetFree.of_bodySF (plainFor_of_name pn_1) hisR ?_
  intro p e s m args below meth c s₁ Bd hml0 hP hK
  obtain ⟨rfl, hZ, hh⟩ := hP
  have hx := Bd.exec
  have hby := Bd.bytes
  have hml : c.maxLocals = 18 := hml0
  have hown : s.vm.findClass "com/example/leash/leash/service/StateInstantPinLaw" = some m.cls := findClass_of_methodNamed Bd.named
  have hnm := (name_of_methodNamed Bd.named Bd.method).1
  have X0 : Stand p l e room_1 s m #[(.long q0), (.long q1), (.long q2), (.long q3), (.long q4), (.int p5)] below meth c s₁ [] 0 0 := Stand.of_body Bd
  have e0 : s₁.heap = h0 := by rw [← hh, Bd.state]; rfl
  have N0 := Fr.nil n0
  have go0 : ∀ t, Steps p.tables e below (s₁.setTop (mkF m 0 #[.val (.long q0), .second, .val (.long q1), .second, .val (.long q2), .second, .val (.long q3), .second, .val (.long q4), .second, iv p5, .unset, .unset, .unset, .unset, .unset, .unset, .unset] [])) t → Steps p.tables e below (s₁.setTop (entryFrame m #[(.long q0), (.long q1), (.long q2), (.long q3), (.long q4), (.int p5)] maxLocals)) t := fun t k => castTop (ef_law m q0 q1 q2 q3 q4 p5) k
  obtain ⟨O, hO⟩ : ∃ z, z = (s₁.setTop (entryFrame m #[(.long q0), (.long q1), (.long q2), (.long q3), (.long q4), (.int p5)] maxLocals)) := ⟨_, rfl⟩
  rw [← hO] at go0
  have g_nw : 0 ≤ (p5 &&& (3 : Int32)).toInt ∧ (p5 &&& (3 : Int32)).toInt ≤ 3 := by rw [c_mask p5 _ 2 (by decide) (by decide)]; omega
  have go101 : ∀ t, Steps p.tables e below (s₁.setTop (mkF m 6 #[.val (.long q0), .second, .val (.long q1), .second, .val (.long q2), .second, .val (.long q3), .second, .val (.long q4), .second, iv p5, iv (p5 &&& (3 : Int32)), .unset, .unset, .unset, .unset, .unset, .unset] [])) t → Steps p.tables e below O t := fun t k => go0 t (by
    refine XS.iload X0.here hx rfl (hb hby at_0) rfl ?_
    show Steps _ _ _ (s₁.setTop (mkF m 2 _ [(.int p5)])) _
    refine XS.iconst X0.here hx rfl (hb hby at_2) ?_
    show Steps _ _ _ (s₁.setTop (mkF m 3 _ [(.int 3), (.int p5)])) _
    refine XS.iand X0.here hx rfl (hb hby at_3) rfl ?_
    show Steps _ _ _ (s₁.setTop (mkF m 4 _ [(.int (p5 &&& (3 : Int32)))])) _
    refine XS.istore X0.here hx rfl (hb hby at_4) rfl (l' := #[.val (.long q0), .second, .val (.long q1), .second, .val (.long q2), .second, .val (.long q3), .second, .val (.long q4), .second, iv p5, iv (p5 &&& (3 : Int32)), .unset, .unset, .unset, .unset, .unset, .unset]) rfl ?_
    show Steps _ _ _ (s₁.setTop (mkF m 6 _ [])) _
    exact k)
  obtain ⟨nw, hq_nw⟩ : ∃ z : Int32, z = (p5 &&& (3 : Int32)) := ⟨_, rfl⟩
  rw [← hq_nw] at go101
  rw [← hq_nw] at g_nw
  have g_sx : 0 ≤ (((p5.toUInt32 >>> ((2 : Int32) &&& 31).toUInt32).toInt32) &&& (3 : Int32)).toInt := by rw [c_mask _ _ 2 (by decide) (by decide)]; omega
  have g_pl := own_pl (((p5.toUInt32 >>> ((2 : Int32) &&& 31).toUInt32).toInt32) &&& (3 : Int32)) nw g_sx g_nw.1 g_nw.2
  have go102 : ∀ t, Steps p.tables e below (s₁.setTop (mkF m 19 #[.val (.long q0), .second, .val (.long q1), .second, .val (.long q2), .second, .val (.long q3), .second, .val (.long q4), .second, iv p5, iv nw, iv ((((p5.toUInt32 >>> ((2 : Int32) &&& 31).toUInt32).toInt32) &&& (3 : Int32)) % (nw + (1 : Int32))), .unset, .unset, .unset, .unset, .unset] [])) t → Steps p.tables e below O t := fun t k => go101 t (by
    refine XS.iload X0.here hx rfl (hb hby at_6) rfl ?_
    show Steps _ _ _ (s₁.setTop (mkF m 8 _ [(.int p5)])) _
    refine XS.iconst X0.here hx rfl (hb hby at_8) ?_
    show Steps _ _ _ (s₁.setTop (mkF m 9 _ [(.int 2), (.int p5)])) _
    refine XS.iushr X0.here hx rfl (hb hby at_9) rfl ?_
    show Steps _ _ _ (s₁.setTop (mkF m 10 _ [(.int ((p5.toUInt32 >>> ((2 : Int32) &&& 31).toUInt32).toInt32))])) _
    refine XS.iconst X0.here hx rfl (hb hby at_10) ?_
    show Steps _ _ _ (s₁.setTop (mkF m 11 _ [(.int 3), (.int ((p5.toUInt32 >>> ((2 : Int32) &&& 31).toUInt32).toInt32))])) _
    refine XS.iand X0.here hx rfl (hb hby at_11) rfl ?_
    show Steps _ _ _ (s₁.setTop (mkF m 12 _ [(.int (((p5.toUInt32 >>> ((2 : Int32) &&& 31).toUInt32).toInt32) &&& (3 : Int32)))])) _
    refine XS.iload X0.here hx rfl (hb hby at_12) rfl ?_
    show Steps _ _ _ (s₁.setTop (mkF m 14 _ [(.int nw), (.int (((p5.toUInt32 >>> ((2 : Int32) &&& 31).toUInt32).toInt32) &&& (3 : Int32)))])) _
    refine XS.iconst X0.here hx rfl (hb hby at_14) ?_
    show Steps _ _ _ (s₁.setTop (mkF m 15 _ [(.int 1), (.int nw), (.int (((p5.toUInt32 >>> ((2 : Int32) &&& 31).toUInt32).toInt32) &&& (3 : Int32)))])) _
    refine XS.iadd X0.here hx rfl (hb hby at_15) rfl ?_
    show Steps _ _ _ (s₁.setTop (mkF m 16 _ [(.int (nw + (1 : Int32))), (.int (((p5.toUInt32 >>> ((2 : Int32) &&& 31).toUInt32).toInt32) &&& (3 : Int32)))])) _
    refine iremM X0 hx rfl (hb hby at_16) rfl (own_nz nw g_nw.1 g_nw.2) ?_
    show Steps _ _ _ (s₁.setTop (mkF m 17 _ [(.int ((((p5.toUInt32 >>> ((2 : Int32) &&& 31).toUInt32).toInt32) &&& (3 : Int32)) % (nw + (1 : Int32))))])) _
    refine XS.istore X0.here hx rfl (hb hby at_17) rfl (l' := #[.val (.long q0), .second, .val (.long q1), .second, .val (.long q2), .second, .val (.long q3), .second, .val (.long q4), .second, iv p5, iv nw, iv ((((p5.toUInt32 >>> ((2 : Int32) &&& 31).toUInt32).toInt32) &&& (3 : Int32)) % (nw + (1 : Int32))), .unset, .unset, .unset, .unset, .unset]) rfl ?_
    show Steps _ _ _ (s₁.setTop (mkF m 19 _ [])) _
    exact k)
  obtain ⟨pl, hq_pl⟩ : ∃ z : Int32, z = ((((p5.toUInt32 >>> ((2 : Int32) &&& 31).toUInt32).toInt32) &&& (3 : Int32)) % (nw + (1 : Int32))) := ⟨_, rfl⟩
  rw [← hq_pl] at go102
  rw [← hq_pl] at g_pl
  obtain ⟨_, _, ⟨T103, L103, k103, n103⟩, -, X103, ⟨Lc103, hQ103, l103, y103, z103⟩, st103⟩ := Jvm.LawKit.callS X0 hx (y := (⟨"java/lang/Math", "min", "(II)I"⟩ : MethodName)) hown (mvT hZ (hw _ (List.mem_of_getElem? (i := 0) rfl))) (mvT hZ (hw _ (List.mem_of_getElem? (i := 1) rfl))) (mvT hZ (hw _ (List.mem_of_getElem? (i := 2) rfl))) (mvT hZ (hw _ (List.mem_of_getElem? (i := 3) rfl))) (by decide) (backOf (W := 0) (rm_mn l Z a0 hw [] pl (((p5.toUInt32 >>> ((4 : Int32) &&& 31).toUInt32).toInt32) &&& (3 : Int32))  h0 n0 Z0 ) hZ (hw _ (List.mem_of_getElem? (i := 3) rfl)) (hw _ (List.mem_of_getElem? (i := 2) rfl)) (by decide) (by decide)) (g := (mkF m 27 #[.val (.long q0), .second, .val (.long q1), .second, .val (.long q2), .second, .val (.long q3), .second, .val (.long q4), .second, iv p5, iv nw, iv pl, .unset, .unset, .unset, .unset, .unset] [(.int (((p5.toUInt32 >>> ((4 : Int32) &&& 31).toUInt32).toInt32) &&& (3 : Int32))), (.int pl)])) rfl (by rw [hml]; rfl) (argsL := [(.int pl), (.int (((p5.toUInt32 >>> ((4 : Int32) &&& 31).toUInt32).toInt32) &&& (3 : Int32)))]) (rest := []) (lenOf pd_0 rfl) rfl (by show 2 * 0 + _ ≤ _; exact Nat.le_of_eq rfl) (hb hby at_27) (fun _ _ => ⟨rfl, e0, (by decide : 0 + 0 ≤ _), (by decide : 0 + 0 ≤ _)⟩)
  dsimp only [Pt.U, Pt.locs, Pt.cells, Pt.slots] at X103 l103 y103 z103 st103 hQ103
  subst l103 y103 z103
  obtain ⟨rfl, N103q, eM⟩ := hQ103
  have N103 := Fr.app N0 N103q
  have go104 : ∀ t, Steps p.tables e below (T103.setTop (mkF m 32 #[.val (.long q0), .second, .val (.long q1), .second, .val (.long q2), .second, .val (.long q3), .second, .val (.long q4), .second, iv p5, iv nw, iv pl, iv (own_min pl (((p5.toUInt32 >>> ((4 : Int32) &&& 31).toUInt32).toInt32) &&& (3 : Int32))), .unset, .unset, .unset, .unset] [])) t → Steps p.tables e below O t := fun t k => go102 t (by
    refine XS.iload X0.here hx rfl (hb hby at_19) rfl ?_
    show Steps _ _ _ (s₁.setTop (mkF m 21 _ [(.int pl)])) _
    refine XS.iload X0.here hx rfl (hb hby at_21) rfl ?_
    show Steps _ _ _ (s₁.setTop (mkF m 23 _ [(.int p5), (.int pl)])) _
    refine XS.iconst X0.here hx rfl (hb hby at_23) ?_
    show Steps _ _ _ (s₁.setTop (mkF m 24 _ [(.int 4), (.int p5), (.int pl)])) _
    refine XS.iushr X0.here hx rfl (hb hby at_24) rfl ?_
    show Steps _ _ _ (s₁.setTop (mkF m 25 _ [(.int ((p5.toUInt32 >>> ((4 : Int32) &&& 31).toUInt32).toInt32)), (.int pl)])) _
    refine XS.iconst X0.here hx rfl (hb hby at_25) ?_
    show Steps _ _ _ (s₁.setTop (mkF m 26 _ [(.int 3), (.int ((p5.toUInt32 >>> ((4 : Int32) &&& 31).toUInt32).toInt32)), (.int pl)])) _
    refine XS.iand X0.here hx rfl (hb hby at_26) rfl ?_
    show Steps _ _ _ (s₁.setTop (mkF m 27 _ [(.int (((p5.toUInt32 >>> ((4 : Int32) &&& 31).toUInt32).toInt32) &&& (3 : Int32))), (.int pl)])) _
    refine st103 _ ?_
    show Steps _ _ _ (T103.setTop (mkF m 30 _ [(.int (own_min pl (((p5.toUInt32 >>> ((4 : Int32) &&& 31).toUInt32).toInt32) &&& (3 : Int32))))])) _
    refine XS.istore X103.here hx rfl (hb hby at_30) rfl (l' := #[.val (.long q0), .second, .val (.long q1), .second, .val (.long q2), .second, .val (.long q3), .second, .val (.long q4), .second, iv p5, iv nw, iv pl, iv (own_min pl (((p5.toUInt32 >>> ((4 : Int32) &&& 31).toUInt32).toInt32) &&& (3 : Int32))), .unset, .unset, .unset, .unset]) rfl ?_
    show Steps _ _ _ (T103.setTop (mkF m 32 _ [])) _
    exact k)
  obtain ⟨ol, hq_ol⟩ : ∃ z : Int32, z = (own_min pl (((p5.toUInt32 >>> ((4 : Int32) &&& 31).toUInt32).toInt32) &&& (3 : Int32))) := ⟨_, rfl⟩
  rw [← hq_ol] at go104
  obtain ⟨T105, h105, k105, X105, e105, E105, A105, st105⟩ := newP X103 hx hZ (hw _ (List.mem_of_getElem? (i := 4) rfl)) eM (g := (mkF m 34 #[.val (.long q0), .second, .val (.long q1), .second, .val (.long q2), .second, .val (.long q3), .second, .val (.long q4), .second, iv p5, iv nw, iv pl, iv ol, .unset, .unset, .unset, .unset] [(.int 6)])) rfl (hb hby at_34) rfl (by decide) (cap := 6) (by decide) (by decide) (by decide) (by decide)
  obtain ⟨sh, g105⟩ : ∃ z, z = h0.size := ⟨_, rfl⟩
  have ge_sh : n0 ≤ sh := Nat.le_trans Z0 (Nat.le_of_eq g105.symm)
  rw [← g105] at A105 st105
  have Z106 := Nat.le_trans Z0 E105.1
  have V_sh_105 : Arv Z h105 sh k105 .long (6 : Int32) [(.long 0), (.long 0), (.long 0), (.long 0), (.long 0), (.long 0)] (.long 0) := (Arv.new A105 (by decide)).pad (pad_rep [] (.long 0) 6)
  obtain ⟨cl107, Ar107, q107, S107, M107, Hs107, G107⟩ := V_sh_105
  have f108 : Arv Z h105 sh k105 .long (6 : Int32) [(.long 0), (.long 0), (.long 0), (.long 0), (.long 0), (.long 0)] (.long 0) := ⟨cl107, Ar107, q107, S107, M107, Hs107, G107⟩
  have hin109 : ¬ ((0 : Int32) < 0 ∨ cl107.slots.size ≤ ((0 : Int32)).toNatClampNeg) := inb_of S107 ⟨by decide, by decide⟩
  obtain ⟨T109, h109, X109, e109, W109, st109⟩ := stJ X105 hx hZ e105 Ar107 (j := (0 : Int32)) hin109 (g := (mkF m 42 #[.val (.long q0), .second, .val (.long q1), .second, .val (.long q2), .second, .val (.long q3), .second, .val (.long q4), .second, iv p5, iv nw, iv pl, iv ol, rv sh, .unset, .unset, .unset] [(.long q0), (.int 0), (.ref sh)])) rfl rfl (hb hby at_42)
  have Z110 := Nat.le_trans Z106 (Keep.of_wr W109).1
  have V109 : Arv Z h109 sh k105 .long (6 : Int32) [(.long q0), (.long 0), (.long 0), (.long 0), (.long 0), (.long 0)] (.long 0) := Arv.set Ar107 q107 S107 M107 Hs107 G107 rfl W109 0 rfl (Nat.le_of_ble_eq_true rfl)
  have N109 := Fr.snoc X109 N103 ge_sh
  obtain ⟨cl111, Ar111, q111, S111, M111, Hs111, G111⟩ := V109
  have f112 : Arv Z h109 sh k105 .long (6 : Int32) [(.long q0), (.long 0), (.long 0), (.long 0), (.long 0), (.long 0)] (.long 0) := ⟨cl111, Ar111, q111, S111, M111, Hs111, G111⟩
  have hin113 : ¬ ((1 : Int32) < 0 ∨ cl111.slots.size ≤ ((1 : Int32)).toNatClampNeg) := inb_of S111 ⟨by decide, by decide⟩
  obtain ⟨T113, h113, X113, e113, W113, st113⟩ := stJ X109 hx hZ e109 Ar111 (j := (1 : Int32)) hin113 (g := (mkF m 48 #[.val (.long q0), .second, .val (.long q1), .second, .val (.long q2), .second, .val (.long q3), .second, .val (.long q4), .second, iv p5, iv nw, iv pl, iv ol, rv sh, .unset, .unset, .unset] [(.long q4), (.int 1), (.ref sh)])) rfl rfl (hb hby at_48)
  have Z114 := Nat.le_trans Z110 (Keep.of_wr W113).1
  have V113 : Arv Z h113 sh k105 .long (6 : Int32) [(.long q0), (.long q4), (.long 0), (.long 0), (.long 0), (.long 0)] (.long 0) := Arv.set Ar111 q111 S111 M111 Hs111 G111 rfl W113 1 rfl (Nat.le_of_ble_eq_true rfl)
  have N113 := Fr.snoc X113 N109 ge_sh
  obtain ⟨cl115, Ar115, q115, S115, M115, Hs115, G115⟩ := V113
  have f116 : Arv Z h113 sh k105 .long (6 : Int32) [(.long q0), (.long q4), (.long 0), (.long 0), (.long 0), (.long 0)] (.long 0) := ⟨cl115, Ar115, q115, S115, M115, Hs115, G115⟩
  have hin117 : ¬ ((2 : Int32) < 0 ∨ cl115.slots.size ≤ ((2 : Int32)).toNatClampNeg) := inb_of S115 ⟨by decide, by decide⟩
  obtain ⟨T117, h117, X117, e117, W117, st117⟩ := stJ X113 hx hZ e113 Ar115 (j := (2 : Int32)) hin117 (g := (mkF m 53 #[.val (.long q0), .second, .val (.long q1), .second, .val (.long q2), .second, .val (.long q3), .second, .val (.long q4), .second, iv p5, iv nw, iv pl, iv ol, rv sh, .unset, .unset, .unset] [(.long q1), (.int 2), (.ref sh)])) rfl rfl (hb hby at_53)
  have Z118 := Nat.le_trans Z114 (Keep.of_wr W117).1
  have V117 : Arv Z h117 sh k105 .long (6 : Int32) [(.long q0), (.long q4), (.long q1), (.long 0), (.long 0), (.long 0)] (.long 0) := Arv.set Ar115 q115 S115 M115 Hs115 G115 rfl W117 2 rfl (Nat.le_of_ble_eq_true rfl)
  have N117 := Fr.snoc X117 N113 ge_sh
  obtain ⟨cl119, Ar119, q119, S119, M119, Hs119, G119⟩ := V117
  have f120 : Arv Z h117 sh k105 .long (6 : Int32) [(.long q0), (.long q4), (.long q1), (.long 0), (.long 0), (.long 0)] (.long 0) := ⟨cl119, Ar119, q119, S119, M119, Hs119, G119⟩
  have hin121 : ¬ ((3 : Int32) < 0 ∨ cl119.slots.size ≤ ((3 : Int32)).toNatClampNeg) := inb_of S119 ⟨by decide, by decide⟩
  obtain ⟨T121, h121, X121, e121, W121, st121⟩ := stJ X117 hx hZ e117 Ar119 (j := (3 : Int32)) hin121 (g := (mkF m 61 #[.val (.long q0), .second, .val (.long q1), .second, .val (.long q2), .second, .val (.long q3), .second, .val (.long q4), .second, iv p5, iv nw, iv pl, iv ol, rv sh, .unset, .unset, .unset] [(.long (q4 + (1 : Int64))), (.int 3), (.ref sh)])) rfl rfl (hb hby at_61)
  have Z122 := Nat.le_trans Z118 (Keep.of_wr W121).1
  have V121 : Arv Z h121 sh k105 .long (6 : Int32) [(.long q0), (.long q4), (.long q1), (.long (q4 + (1 : Int64))), (.long 0), (.long 0)] (.long 0) := Arv.set Ar119 q119 S119 M119 Hs119 G119 rfl W121 3 rfl (Nat.le_of_ble_eq_true rfl)
  have N121 := Fr.snoc X121 N117 ge_sh
  obtain ⟨cl123, Ar123, q123, S123, M123, Hs123, G123⟩ := V121
  have f124 : Arv Z h121 sh k105 .long (6 : Int32) [(.long q0), (.long q4), (.long q1), (.long (q4 + (1 : Int64))), (.long 0), (.long 0)] (.long 0) := ⟨cl123, Ar123, q123, S123, M123, Hs123, G123⟩
  have hin125 : ¬ ((4 : Int32) < 0 ∨ cl123.slots.size ≤ ((4 : Int32)).toNatClampNeg) := inb_of S123 ⟨by decide, by decide⟩
  obtain ⟨T125, h125, X125, e125, W125, st125⟩ := stJ X121 hx hZ e121 Ar123 (j := (4 : Int32)) hin125 (g := (mkF m 67 #[.val (.long q0), .second, .val (.long q1), .second, .val (.long q2), .second, .val (.long q3), .second, .val (.long q4), .second, iv p5, iv nw, iv pl, iv ol, rv sh, .unset, .unset, .unset] [(.long q2), (.int 4), (.ref sh)])) rfl rfl (hb hby at_67)
  have Z126 := Nat.le_trans Z122 (Keep.of_wr W125).1
  have V125 : Arv Z h125 sh k105 .long (6 : Int32) [(.long q0), (.long q4), (.long q1), (.long (q4 + (1 : Int64))), (.long q2), (.long 0)] (.long 0) := Arv.set Ar123 q123 S123 M123 Hs123 G123 rfl W125 4 rfl (Nat.le_of_ble_eq_true rfl)
  have N125 := Fr.snoc X125 N121 ge_sh
  obtain ⟨cl127, Ar127, q127, S127, M127, Hs127, G127⟩ := V125
  have f128 : Arv Z h125 sh k105 .long (6 : Int32) [(.long q0), (.long q4), (.long q1), (.long (q4 + (1 : Int64))), (.long q2), (.long 0)] (.long 0) := ⟨cl127, Ar127, q127, S127, M127, Hs127, G127⟩
  have hin129 : ¬ ((5 : Int32) < 0 ∨ cl127.slots.size ≤ ((5 : Int32)).toNatClampNeg) := inb_of S127 ⟨by decide, by decide⟩
  obtain ⟨T129, h129, X129, e129, W129, st129⟩ := stJ X125 hx hZ e125 Ar127 (j := (5 : Int32)) hin129 (g := (mkF m 77 #[.val (.long q0), .second, .val (.long q1), .second, .val (.long q2), .second, .val (.long q3), .second, .val (.long q4), .second, iv p5, iv nw, iv pl, iv ol, rv sh, .unset, .unset, .unset] [(.long (q4 + (2 : Int64))), (.int 5), (.ref sh)])) rfl rfl (hb hby at_77)
  have Z130 := Nat.le_trans Z126 (Keep.of_wr W129).1
  have V129 : Arv Z h129 sh k105 .long (6 : Int32) [(.long q0), (.long q4), (.long q1), (.long (q4 + (1 : Int64))), (.long q2), (.long (q4 + (2 : Int64)))] (.long 0) := Arv.set Ar127 q127 S127 M127 Hs127 G127 rfl W129 5 rfl (Nat.le_of_ble_eq_true rfl)
  have N129 := Fr.snoc X129 N125 ge_sh
  obtain ⟨T131, h131, X131, e131, E131, A131, D131, -, st131⟩ := newO X129 hx hZ hown (hw _ (List.mem_of_getElem? (i := 6) rfl)) (hw _ (List.mem_of_getElem? (i := 7) rfl)) (hw _ (List.mem_of_getElem? (i := 8) rfl)) e129 (g := (mkF m 78 #[.val (.long q0), .second, .val (.long q1), .second, .val (.long q2), .second, .val (.long q3), .second, .val (.long q4), .second, iv p5, iv nw, iv pl, iv ol, rv sh, .unset, .unset, .unset] [])) rfl (hb hby at_78) (by decide) (by decide)
  obtain ⟨st, g131⟩ : ∃ z, z = h129.size := ⟨_, rfl⟩
  have ne132 : sh ≠ st := Nat.ne_of_lt (Nat.lt_of_lt_of_le V129.lt (Nat.le_of_eq g131.symm))
  have ge_st : n0 ≤ st := Nat.le_trans Z130 (Nat.le_of_eq g131.symm)
  rw [← g131] at A131 D131 st131
  have f133 := V129.ext E131
  have Z134 := Nat.le_trans Z130 E131.1
  have F_latestSeen_st : Fld Z h131 st "com/example/leash/leash/service/SlidingLog$State" "latestSeen" "J" (.long 0) := D131 (Or.inr (hw _ (List.mem_of_getElem? (i := 18) rfl))) (ty := .long) (by decide)
  have F_shelf_st : Fld Z h131 st "com/example/leash/leash/service/SlidingLog$State" "shelf" "[J" .null := D131 (Or.inr (hw _ (List.mem_of_getElem? (i := 20) rfl))) (ty := (.array .long)) (by decide)
  have F_oldest_st : Fld Z h131 st "com/example/leash/leash/service/SlidingLog$State" "oldest" "I" (.int 0) := D131 (Or.inr (hw _ (List.mem_of_getElem? (i := 22) rfl))) (ty := .int) (by decide)
  have F_newest_st : Fld Z h131 st "com/example/leash/leash/service/SlidingLog$State" "newest" "I" (.int 0) := D131 (Or.inr (hw _ (List.mem_of_getElem? (i := 24) rfl))) (ty := .int) (by decide)
  have F_totalBefore_st : Fld Z h131 st "com/example/leash/leash/service/SlidingLog$State" "totalBefore" "J" (.long 0) := D131 (Or.inr (hw _ (List.mem_of_getElem? (i := 26) rfl))) (ty := .long) (by decide)
  have F_newestAt_st : Fld Z h131 st "com/example/leash/leash/service/SlidingLog$State" "newestAt" "J" (.long 0) := D131 (Or.inr (hw _ (List.mem_of_getElem? (i := 28) rfl))) (ty := .long) (by decide)
  have F_newestTotal_st : Fld Z h131 st "com/example/leash/leash/service/SlidingLog$State" "newestTotal" "J" (.long 0) := D131 (Or.inr (hw _ (List.mem_of_getElem? (i := 30) rfl))) (ty := .long) (by decide)
  obtain ⟨_, _, ⟨T135, L135, k135, n135⟩, -, X135, ⟨Lc135, hQ135, l135, y135, z135⟩, st135⟩ := X131.specialBack hx (y := (⟨"com/example/leash/leash/service/SlidingLog$State", "<init>", "(J[JIIJJJ)V"⟩ : MethodName)) rfl hown (mvT hZ (hw _ (List.mem_of_getElem? (i := 11) rfl))) (mvT hZ (hw _ (List.mem_of_getElem? (i := 12) rfl))) (mvT hZ (hw _ (List.mem_of_getElem? (i := 13) rfl))) (by decide) (backOf (W := 1) (rm_st l Z a0 hw [] st q4 sh ol nw (q4 ^^^ (-1 : Int64)) q3 (q4 + (3 : Int64))  h131 n0 Z134 A131 ge_st F_latestSeen_st F_shelf_st F_oldest_st F_newest_st F_totalBefore_st F_newestAt_st F_newestTotal_st) hZ (hw _ (List.mem_of_getElem? (i := 13) rfl)) (hw _ (List.mem_of_getElem? (i := 8) rfl)) (by decide) (by decide)) (g := (mkF m 104 #[.val (.long q0), .second, .val (.long q1), .second, .val (.long q2), .second, .val (.long q3), .second, .val (.long q4), .second, iv p5, iv nw, iv pl, iv ol, rv sh, .unset, .unset, .unset] [(.long (q4 + (3 : Int64))), (.long q3), (.long (q4 ^^^ (-1 : Int64))), (.int nw), (.int ol), (.ref sh), (.long q4), (.ref st), (.ref st)])) rfl (by rw [hml]; rfl) (Steps.refl _) (a := st) (argsL := [(.long q4), (.ref sh), (.int ol), (.int nw), (.long (q4 ^^^ (-1 : Int64))), (.long q3), (.long (q4 + (3 : Int64)))]) (rest := [(.ref st)]) (lenOf pd_1 rfl) rfl (by show 2 * 0 + _ ≤ _; exact Nat.le_of_eq rfl) (hb hby at_104) (fun _ _ => ⟨rfl, e131, (by decide : 2 + 0 ≤ _), (by decide : 13 + 0 ≤ _)⟩)
  dsimp only [Pt.U, Pt.locs, Pt.cells, Pt.slots] at X135 l135 y135 z135 st135 hQ135
  subst l135 y135 z135
  obtain ⟨rfl, N135q, K1, E1, Fsh, Fnw, Fna⟩ := hQ135
  have N135 := Fr.app N129 N135q
  have f136 := f133.keep K1 (ninS ne132 nin0)
  have f137 := A131.keep K1
  have Z138 := Nat.le_trans Z134 K1.1
  have go139 : ∀ t, Steps p.tables e below (T135.setTop (mkF m 113 #[.val (.long q0), .second, .val (.long q1), .second, .val (.long q2), .second, .val (.long q3), .second, .val (.long q4), .second, iv p5, iv nw, iv pl, iv ol, rv sh, rv st, .unset, .unset] [(.int nw), (.int pl)])) t → Steps p.tables e below O t := fun t k => go104 t (by
    refine XS.bipush X103.here hx rfl (hb hby at_32) ?_
    show Steps _ _ _ (T103.setTop (mkF m 34 _ [(.int 6)])) _
    refine st105 _ ?_
    show Steps _ _ _ (T105.setTop (mkF m 36 _ [(.ref sh)])) _
    refine XS.astore X105.here hx rfl (hb hby at_36) rfl rfl (l' := #[.val (.long q0), .second, .val (.long q1), .second, .val (.long q2), .second, .val (.long q3), .second, .val (.long q4), .second, iv p5, iv nw, iv pl, iv ol, rv sh, .unset, .unset, .unset]) rfl ?_
    show Steps _ _ _ (T105.setTop (mkF m 38 _ [])) _
    refine XS.aload X105.here hx rfl (hb hby at_38) rfl rfl ?_
    show Steps _ _ _ (T105.setTop (mkF m 40 _ [(.ref sh)])) _
    refine XS.iconst X105.here hx rfl (hb hby at_40) ?_
    show Steps _ _ _ (T105.setTop (mkF m 41 _ [(.int 0), (.ref sh)])) _
    refine XS.lloadN X105.here hx rfl (hb hby at_41) rfl ?_
    show Steps _ _ _ (T105.setTop (mkF m 42 _ [(.long q0), (.int 0), (.ref sh)])) _
    refine st109 _ ?_
    show Steps _ _ _ (T109.setTop (mkF m 43 _ [])) _
    refine XS.aload X109.here hx rfl (hb hby at_43) rfl rfl ?_
    show Steps _ _ _ (T109.setTop (mkF m 45 _ [(.ref sh)])) _
    refine XS.iconst X109.here hx rfl (hb hby at_45) ?_
    show Steps _ _ _ (T109.setTop (mkF m 46 _ [(.int 1), (.ref sh)])) _
    refine XS.lload X109.here hx rfl (hb hby at_46) rfl ?_
    show Steps _ _ _ (T109.setTop (mkF m 48 _ [(.long q4), (.int 1), (.ref sh)])) _
    refine st113 _ ?_
    show Steps _ _ _ (T113.setTop (mkF m 49 _ [])) _
    refine XS.aload X113.here hx rfl (hb hby at_49) rfl rfl ?_
    show Steps _ _ _ (T113.setTop (mkF m 51 _ [(.ref sh)])) _
    refine XS.iconst X113.here hx rfl (hb hby at_51) ?_
    show Steps _ _ _ (T113.setTop (mkF m 52 _ [(.int 2), (.ref sh)])) _
    refine XS.lloadN X113.here hx rfl (hb hby at_52) rfl ?_
    show Steps _ _ _ (T113.setTop (mkF m 53 _ [(.long q1), (.int 2), (.ref sh)])) _
    refine st117 _ ?_
    show Steps _ _ _ (T117.setTop (mkF m 54 _ [])) _
    refine XS.aload X117.here hx rfl (hb hby at_54) rfl rfl ?_
    show Steps _ _ _ (T117.setTop (mkF m 56 _ [(.ref sh)])) _
    refine XS.iconst X117.here hx rfl (hb hby at_56) ?_
    show Steps _ _ _ (T117.setTop (mkF m 57 _ [(.int 3), (.ref sh)])) _
    refine XS.lload X117.here hx rfl (hb hby at_57) rfl ?_
    show Steps _ _ _ (T117.setTop (mkF m 59 _ [(.long q4), (.int 3), (.ref sh)])) _
    refine XS.lconst X117.here hx rfl (hb hby at_59) ?_
    show Steps _ _ _ (T117.setTop (mkF m 60 _ [(.long 1), (.long q4), (.int 3), (.ref sh)])) _
    refine XS.ladd X117.here hx rfl (hb hby at_60) rfl ?_
    show Steps _ _ _ (T117.setTop (mkF m 61 _ [(.long (q4 + (1 : Int64))), (.int 3), (.ref sh)])) _
    refine st121 _ ?_
    show Steps _ _ _ (T121.setTop (mkF m 62 _ [])) _
    refine XS.aload X121.here hx rfl (hb hby at_62) rfl rfl ?_
    show Steps _ _ _ (T121.setTop (mkF m 64 _ [(.ref sh)])) _
    refine XS.iconst X121.here hx rfl (hb hby at_64) ?_
    show Steps _ _ _ (T121.setTop (mkF m 65 _ [(.int 4), (.ref sh)])) _
    refine XS.lload X121.here hx rfl (hb hby at_65) rfl ?_
    show Steps _ _ _ (T121.setTop (mkF m 67 _ [(.long q2), (.int 4), (.ref sh)])) _
    refine st125 _ ?_
    show Steps _ _ _ (T125.setTop (mkF m 68 _ [])) _
    refine XS.aload X125.here hx rfl (hb hby at_68) rfl rfl ?_
    show Steps _ _ _ (T125.setTop (mkF m 70 _ [(.ref sh)])) _
    refine XS.iconst X125.here hx rfl (hb hby at_70) ?_
    show Steps _ _ _ (T125.setTop (mkF m 71 _ [(.int 5), (.ref sh)])) _
    refine XS.lload X125.here hx rfl (hb hby at_71) rfl ?_
    show Steps _ _ _ (T125.setTop (mkF m 73 _ [(.long q4), (.int 5), (.ref sh)])) _
    refine X125.ldc2Long hx hown (mvT hZ (hw _ (List.mem_of_getElem? (i := 5) rfl))) (g := (mkF m 73 #[.val (.long q0), .second, .val (.long q1), .second, .val (.long q2), .second, .val (.long q3), .second, .val (.long q4), .second, iv p5, iv nw, iv pl, iv ol, rv sh, .unset, .unset, .unset] [(.long q4), (.int 5), (.ref sh)])) rfl (hb hby at_73) _ ?_
    show Steps _ _ _ (T125.setTop (mkF m 76 _ [(.long 2), (.long q4), (.int 5), (.ref sh)])) _
    refine XS.ladd X125.here hx rfl (hb hby at_76) rfl ?_
    show Steps _ _ _ (T125.setTop (mkF m 77 _ [(.long (q4 + (2 : Int64))), (.int 5), (.ref sh)])) _
    refine st129 _ ?_
    show Steps _ _ _ (T129.setTop (mkF m 78 _ [])) _
    refine st131 _ ?_
    show Steps _ _ _ (T131.setTop (mkF m 81 _ [(.ref st)])) _
    refine XS.dup X131.here hx rfl (hb hby at_81) rfl rfl ?_
    show Steps _ _ _ (T131.setTop (mkF m 82 _ [(.ref st), (.ref st)])) _
    refine XS.lload X131.here hx rfl (hb hby at_82) rfl ?_
    show Steps _ _ _ (T131.setTop (mkF m 84 _ [(.long q4), (.ref st), (.ref st)])) _
    refine XS.aload X131.here hx rfl (hb hby at_84) rfl rfl ?_
    show Steps _ _ _ (T131.setTop (mkF m 86 _ [(.ref sh), (.long q4), (.ref st), (.ref st)])) _
    refine XS.iload X131.here hx rfl (hb hby at_86) rfl ?_
    show Steps _ _ _ (T131.setTop (mkF m 88 _ [(.int ol), (.ref sh), (.long q4), (.ref st), (.ref st)])) _
    refine XS.iload X131.here hx rfl (hb hby at_88) rfl ?_
    show Steps _ _ _ (T131.setTop (mkF m 90 _ [(.int nw), (.int ol), (.ref sh), (.long q4), (.ref st), (.ref st)])) _
    refine XS.lload X131.here hx rfl (hb hby at_90) rfl ?_
    show Steps _ _ _ (T131.setTop (mkF m 92 _ [(.long q4), (.int nw), (.int ol), (.ref sh), (.long q4), (.ref st), (.ref st)])) _
    refine X131.ldc2Long hx hown (mvT hZ (hw _ (List.mem_of_getElem? (i := 9) rfl))) (g := (mkF m 92 #[.val (.long q0), .second, .val (.long q1), .second, .val (.long q2), .second, .val (.long q3), .second, .val (.long q4), .second, iv p5, iv nw, iv pl, iv ol, rv sh, .unset, .unset, .unset] [(.long q4), (.int nw), (.int ol), (.ref sh), (.long q4), (.ref st), (.ref st)])) rfl (hb hby at_92) _ ?_
    show Steps _ _ _ (T131.setTop (mkF m 95 _ [(.long (-1 : Int64)), (.long q4), (.int nw), (.int ol), (.ref sh), (.long q4), (.ref st), (.ref st)])) _
    refine XS.lxor X131.here hx rfl (hb hby at_95) rfl ?_
    show Steps _ _ _ (T131.setTop (mkF m 96 _ [(.long (q4 ^^^ (-1 : Int64))), (.int nw), (.int ol), (.ref sh), (.long q4), (.ref st), (.ref st)])) _
    refine XS.lload X131.here hx rfl (hb hby at_96) rfl ?_
    show Steps _ _ _ (T131.setTop (mkF m 98 _ [(.long q3), (.long (q4 ^^^ (-1 : Int64))), (.int nw), (.int ol), (.ref sh), (.long q4), (.ref st), (.ref st)])) _
    refine XS.lload X131.here hx rfl (hb hby at_98) rfl ?_
    show Steps _ _ _ (T131.setTop (mkF m 100 _ [(.long q4), (.long q3), (.long (q4 ^^^ (-1 : Int64))), (.int nw), (.int ol), (.ref sh), (.long q4), (.ref st), (.ref st)])) _
    refine X131.ldc2Long hx hown (mvT hZ (hw _ (List.mem_of_getElem? (i := 10) rfl))) (g := (mkF m 100 #[.val (.long q0), .second, .val (.long q1), .second, .val (.long q2), .second, .val (.long q3), .second, .val (.long q4), .second, iv p5, iv nw, iv pl, iv ol, rv sh, .unset, .unset, .unset] [(.long q4), (.long q3), (.long (q4 ^^^ (-1 : Int64))), (.int nw), (.int ol), (.ref sh), (.long q4), (.ref st), (.ref st)])) rfl (hb hby at_100) _ ?_
    show Steps _ _ _ (T131.setTop (mkF m 103 _ [(.long 3), (.long q4), (.long q3), (.long (q4 ^^^ (-1 : Int64))), (.int nw), (.int ol), (.ref sh), (.long q4), (.ref st), (.ref st)])) _
    refine XS.ladd X131.here hx rfl (hb hby at_103) rfl ?_
    show Steps _ _ _ (T131.setTop (mkF m 104 _ [(.long (q4 + (3 : Int64))), (.long q3), (.long (q4 ^^^ (-1 : Int64))), (.int nw), (.int ol), (.ref sh), (.long q4), (.ref st), (.ref st)])) _
    refine st135.trans ?_
    show Steps _ _ _ (T135.setTop (mkF m 107 _ [(.ref st)])) _
    refine XS.astore X135.here hx rfl (hb hby at_107) rfl rfl (l' := #[.val (.long q0), .second, .val (.long q1), .second, .val (.long q2), .second, .val (.long q3), .second, .val (.long q4), .second, iv p5, iv nw, iv pl, iv ol, rv sh, rv st, .unset, .unset]) rfl ?_
    show Steps _ _ _ (T135.setTop (mkF m 109 _ [])) _
    refine XS.iload X135.here hx rfl (hb hby at_109) rfl ?_
    show Steps _ _ _ (T135.setTop (mkF m 111 _ [(.int pl)])) _
    refine XS.iload X135.here hx rfl (hb hby at_111) rfl ?_
    show Steps _ _ _ (T135.setTop (mkF m 113 _ [(.int nw), (.int pl)])) _
    exact k)
  by_cases h1 : pl = nw
  · obtain ⟨cq140, kq140, q140a, q140b, q140c⟩ := isOf hZ rfl f137
    obtain ⟨_, _, ⟨T140, L140, k140, n140⟩, -, X140, ⟨Lc140, hQ140, l140, y140, z140⟩, st140⟩ := X135.virtualBack hx (y := (⟨"com/example/leash/leash/service/SlidingLog$State", "instant", "(I)J"⟩ : MethodName)) (z := (⟨"com/example/leash/leash/service/SlidingLog$State", "instant", "(I)J"⟩ : MethodName)) hown (mvT hZ (hw _ (List.mem_of_getElem? (i := 31) rfl))) (mvT hZ (hw _ (List.mem_of_getElem? (i := 32) rfl))) (notFace_of_selects (args := #[]) (mvT hZ (hw _ (List.mem_of_getElem? (i := 34) rfl)))) (mvT hZ (hw _ (List.mem_of_getElem? (i := 34) rfl))) (mvT hZ (hw _ (List.mem_of_getElem? (i := 33) rfl))) (by decide) (backOf (W := 0) (rm_in l Z a0 hw [] st pl nw q3 sh k105 [(.long q0), (.long q4), (.long q1), (.long (q4 + (1 : Int64))), (.long q2), (.long (q4 + (2 : Int64)))] q3 T135.heap n0 Z138 f137 ge_st Fnw Fna Fsh f136 (fun h => absurd h1 h) (fun h => absurd h1 h)) hZ (hw _ (List.mem_of_getElem? (i := 35) rfl)) (hw _ (List.mem_of_getElem? (i := 8) rfl)) (by decide) (by decide)) q140a q140c (g := (mkF m 154 #[.val (.long q0), .second, .val (.long q1), .second, .val (.long q2), .second, .val (.long q3), .second, .val (.long q4), .second, iv p5, iv nw, iv pl, iv ol, rv sh, rv st, .val (.long q3), .second] [(.int pl), (.ref st)])) rfl (by rw [hml]; rfl) (Steps.refl _) (argsL := [(.int pl)]) (rest := []) (lenOf pd_2 rfl) rfl (by show 2 * 0 + _ ≤ _; exact Nat.le_of_eq rfl) (hb hby at_154) (fun _ _ => ⟨rfl, rfl, (by decide : 2 + 0 ≤ _), (by decide : 13 + 0 ≤ _)⟩)
    dsimp only [Pt.U, Pt.locs, Pt.cells, Pt.slots] at X140 l140 y140 z140 st140 hQ140
    subst l140 y140 z140
    obtain ⟨rfl, N140q, eI⟩ := hQ140
    have N140 := Fr.app N135 N140q
    have go141 : ∀ t, Steps p.tables e below (T140.setTop (mkF m 168 #[.val (.long q0), .second, .val (.long q1), .second, .val (.long q2), .second, .val (.long q3), .second, .val (.long q4), .second, iv p5, iv nw, iv pl, iv ol, rv sh, rv st, .val (.long q3), .second] [(.int 1)])) t → Steps p.tables e below O t := fun t k => go139 t (by
      refine XS.icmpNo X135.here hx rfl (hb hby at_113) rfl (teq (h1 : pl = nw)).2 ?_
      show Steps _ _ _ (T135.setTop (mkF m 116 _ [])) _
      refine XS.lload X135.here hx rfl (hb hby at_116) rfl ?_
      show Steps _ _ _ (T135.setTop (mkF m 118 _ [(.long q3)])) _
      refine XS.lstore X135.here hx rfl (hb hby at_118) rfl (l' := #[.val (.long q0), .second, .val (.long q1), .second, .val (.long q2), .second, .val (.long q3), .second, .val (.long q4), .second, iv p5, iv nw, iv pl, iv ol, rv sh, rv st, .val (.long q3), .second]) rfl ?_
      show Steps _ _ _ (T135.setTop (mkF m 120 _ [])) _
      refine XS.goto X135.here hx rfl (pc0 := 120) (pc' := 150) rfl (hb hby at_120) (by decide) (by decide) ?_
      show Steps _ _ _ (T135.setTop (mkF m 150 _ [])) _
      refine XS.aload X135.here hx rfl (hb hby at_150) rfl rfl ?_
      show Steps _ _ _ (T135.setTop (mkF m 152 _ [(.ref st)])) _
      refine XS.iload X135.here hx rfl (hb hby at_152) rfl ?_
      show Steps _ _ _ (T135.setTop (mkF m 154 _ [(.int pl), (.ref st)])) _
      refine st140.trans ?_
      show Steps _ _ _ (T140.setTop (mkF m 157 _ [(.long (if pl = nw then q3 else q3))])) _
      refine XS.lload X140.here hx rfl (hb hby at_157) rfl ?_
      show Steps _ _ _ (T140.setTop (mkF m 159 _ [(.long q3), (.long (if pl = nw then q3 else q3))])) _
      refine XS.lcmp X140.here hx rfl (hb hby at_159) rfl ?_
      show Steps _ _ _ (T140.setTop (mkF m 160 _ [(.int (lcmpW (if pl = nw then q3 else q3) q3))])) _
      refine XS.ifNo X140.here hx rfl (hb hby at_160) rfl ((if0 _ _).trans (teq ((lw_eq _ _).mpr (if_pos h1) : (lcmpW (if pl = nw then q3 else q3) q3) = (0 : Int32))).2) ?_
      show Steps _ _ _ (T140.setTop (mkF m 163 _ [])) _
      refine XS.iconst X140.here hx rfl (hb hby at_163) ?_
      show Steps _ _ _ (T140.setTop (mkF m 164 _ [(.int 1)])) _
      refine XS.goto X140.here hx rfl (pc0 := 164) (pc' := 168) rfl (hb hby at_164) (by decide) (by decide) ?_
      show Steps _ _ _ (T140.setTop (mkF m 168 _ [(.int 1)])) _
      exact k)
    subst hO
    obtain ⟨fs, hr, hrun, hended, hW, hsame⟩ := X140.leave (v := some (.int 1)) (fun h => by rw [Bd.returns] at h; cases h)
    refine ⟨_, _, go141 _ ?_, hrun, hended, _, _, rfl, ?_, ⟨_, rfl⟩, hW, hsame.mono (by decide) (by decide)⟩
    · exact retN X140 hx (t := .boolean) Bd.returns (by simp) (hb hby at_168) hr
    · show Q_law Z q0 q1 q2 q3 q4 p5 h0 n0 _ T140.heap _
      rw [eI]
      exact ⟨rfl, N140⟩
  · have go143 : ∀ t, Steps p.tables e below (T135.setTop (mkF m 125 #[.val (.long q0), .second, .val (.long q1), .second, .val (.long q2), .second, .val (.long q3), .second, .val (.long q4), .second, iv p5, iv nw, iv pl, iv ol, rv sh, rv st, .unset, .unset] [(.int pl)])) t → Steps p.tables e below O t := fun t k => go139 t (by
      refine XS.icmpYes X135.here hx rfl (pc0 := 113) (pc' := 123) rfl (hb hby at_113) rfl (feq (h1 : ¬ (pl = nw))).2 (by decide) (by decide) ?_
      show Steps _ _ _ (T135.setTop (mkF m 123 _ [])) _
      refine XS.iload X135.here hx rfl (hb hby at_123) rfl ?_
      show Steps _ _ _ (T135.setTop (mkF m 125 _ [(.int pl)])) _
      exact k)
    by_cases h2 : pl = (0 : Int32)
    · obtain ⟨cq144, kq144, q144a, q144b, q144c⟩ := isOf hZ rfl f137
      obtain ⟨_, _, ⟨T144, L144, k144, n144⟩, -, X144, ⟨Lc144, hQ144, l144, y144, z144⟩, st144⟩ := X135.virtualBack hx (y := (⟨"com/example/leash/leash/service/SlidingLog$State", "instant", "(I)J"⟩ : MethodName)) (z := (⟨"com/example/leash/leash/service/SlidingLog$State", "instant", "(I)J"⟩ : MethodName)) hown (mvT hZ (hw _ (List.mem_of_getElem? (i := 31) rfl))) (mvT hZ (hw _ (List.mem_of_getElem? (i := 32) rfl))) (notFace_of_selects (args := #[]) (mvT hZ (hw _ (List.mem_of_getElem? (i := 34) rfl)))) (mvT hZ (hw _ (List.mem_of_getElem? (i := 34) rfl))) (mvT hZ (hw _ (List.mem_of_getElem? (i := 33) rfl))) (by decide) (backOf (W := 0) (rm_in l Z a0 hw [] st pl nw q3 sh k105 [(.long q0), (.long q4), (.long q1), (.long (q4 + (1 : Int64))), (.long q2), (.long (q4 + (2 : Int64)))] q0 T135.heap n0 Z138 f137 ge_st Fnw Fna Fsh f136 (fun _ => by rw [h2]; decide) (fun _ => by rw [h2]; rfl)) hZ (hw _ (List.mem_of_getElem? (i := 35) rfl)) (hw _ (List.mem_of_getElem? (i := 8) rfl)) (by decide) (by decide)) q144a q144c (g := (mkF m 154 #[.val (.long q0), .second, .val (.long q1), .second, .val (.long q2), .second, .val (.long q3), .second, .val (.long q4), .second, iv p5, iv nw, iv pl, iv ol, rv sh, rv st, .val (.long q0), .second] [(.int pl), (.ref st)])) rfl (by rw [hml]; rfl) (Steps.refl _) (argsL := [(.int pl)]) (rest := []) (lenOf pd_2 rfl) rfl (by show 2 * 0 + _ ≤ _; exact Nat.le_of_eq rfl) (hb hby at_154) (fun _ _ => ⟨rfl, rfl, (by decide : 2 + 0 ≤ _), (by decide : 13 + 0 ≤ _)⟩)
      dsimp only [Pt.U, Pt.locs, Pt.cells, Pt.slots] at X144 l144 y144 z144 st144 hQ144
      subst l144 y144 z144
      obtain ⟨rfl, N144q, eI⟩ := hQ144
      have N144 := Fr.app N135 N144q
      have go145 : ∀ t, Steps p.tables e below (T144.setTop (mkF m 168 #[.val (.long q0), .second, .val (.long q1), .second, .val (.long q2), .second, .val (.long q3), .second, .val (.long q4), .second, iv p5, iv nw, iv pl, iv ol, rv sh, rv st, .val (.long q0), .second] [(.int 1)])) t → Steps p.tables e below O t := fun t k => go143 t (by
        refine XS.ifNo X135.here hx rfl (hb hby at_125) rfl ((if0 _ _).trans (teq (h2 : pl = (0 : Int32))).2) ?_
        show Steps _ _ _ (T135.setTop (mkF m 128 _ [])) _
        refine XS.lloadN X135.here hx rfl (hb hby at_128) rfl ?_
        show Steps _ _ _ (T135.setTop (mkF m 129 _ [(.long q0)])) _
        refine XS.lstore X135.here hx rfl (hb hby at_129) rfl (l' := #[.val (.long q0), .second, .val (.long q1), .second, .val (.long q2), .second, .val (.long q3), .second, .val (.long q4), .second, iv p5, iv nw, iv pl, iv ol, rv sh, rv st, .val (.long q0), .second]) rfl ?_
        show Steps _ _ _ (T135.setTop (mkF m 131 _ [])) _
        refine XS.goto X135.here hx rfl (pc0 := 131) (pc' := 150) rfl (hb hby at_131) (by decide) (by decide) ?_
        show Steps _ _ _ (T135.setTop (mkF m 150 _ [])) _
        refine XS.aload X135.here hx rfl (hb hby at_150) rfl rfl ?_
        show Steps _ _ _ (T135.setTop (mkF m 152 _ [(.ref st)])) _
        refine XS.iload X135.here hx rfl (hb hby at_152) rfl ?_
        show Steps _ _ _ (T135.setTop (mkF m 154 _ [(.int pl), (.ref st)])) _
        refine st144.trans ?_
        show Steps _ _ _ (T144.setTop (mkF m 157 _ [(.long (if pl = nw then q3 else q0))])) _
        refine XS.lload X144.here hx rfl (hb hby at_157) rfl ?_
        show Steps _ _ _ (T144.setTop (mkF m 159 _ [(.long q0), (.long (if pl = nw then q3 else q0))])) _
        refine XS.lcmp X144.here hx rfl (hb hby at_159) rfl ?_
        show Steps _ _ _ (T144.setTop (mkF m 160 _ [(.int (lcmpW (if pl = nw then q3 else q0) q0))])) _
        refine XS.ifNo X144.here hx rfl (hb hby at_160) rfl ((if0 _ _).trans (teq ((lw_eq _ _).mpr (if_neg h1) : (lcmpW (if pl = nw then q3 else q0) q0) = (0 : Int32))).2) ?_
        show Steps _ _ _ (T144.setTop (mkF m 163 _ [])) _
        refine XS.iconst X144.here hx rfl (hb hby at_163) ?_
        show Steps _ _ _ (T144.setTop (mkF m 164 _ [(.int 1)])) _
        refine XS.goto X144.here hx rfl (pc0 := 164) (pc' := 168) rfl (hb hby at_164) (by decide) (by decide) ?_
        show Steps _ _ _ (T144.setTop (mkF m 168 _ [(.int 1)])) _
        exact k)
      subst hO
      obtain ⟨fs, hr, hrun, hended, hW, hsame⟩ := X144.leave (v := some (.int 1)) (fun h => by rw [Bd.returns] at h; cases h)
      refine ⟨_, _, go145 _ ?_, hrun, hended, _, _, rfl, ?_, ⟨_, rfl⟩, hW, hsame.mono (by decide) (by decide)⟩
      · exact retN X144 hx (t := .boolean) Bd.returns (by simp) (hb hby at_168) hr
      · show Q_law Z q0 q1 q2 q3 q4 p5 h0 n0 _ T144.heap _
        rw [eI]
        exact ⟨rfl, N144⟩
    · have go147 : ∀ t, Steps p.tables e below (T135.setTop (mkF m 137 #[.val (.long q0), .second, .val (.long q1), .second, .val (.long q2), .second, .val (.long q3), .second, .val (.long q4), .second, iv p5, iv nw, iv pl, iv ol, rv sh, rv st, .unset, .unset] [(.int 1), (.int pl)])) t → Steps p.tables e below O t := fun t k => go143 t (by
        refine XS.ifYes X135.here hx rfl (pc0 := 125) (pc' := 134) rfl (hb hby at_125) rfl ((if0 _ _).trans (feq (h2 : ¬ (pl = (0 : Int32)))).2) (by decide) (by decide) ?_
        show Steps _ _ _ (T135.setTop (mkF m 134 _ [])) _
        refine XS.iload X135.here hx rfl (hb hby at_134) rfl ?_
        show Steps _ _ _ (T135.setTop (mkF m 136 _ [(.int pl)])) _
        refine XS.iconst X135.here hx rfl (hb hby at_136) ?_
        show Steps _ _ _ (T135.setTop (mkF m 137 _ [(.int 1), (.int pl)])) _
        exact k)
      by_cases h3 : pl = (1 : Int32)
      · obtain ⟨cq148, kq148, q148a, q148b, q148c⟩ := isOf hZ rfl f137
        obtain ⟨_, _, ⟨T148, L148, k148, n148⟩, -, X148, ⟨Lc148, hQ148, l148, y148, z148⟩, st148⟩ := X135.virtualBack hx (y := (⟨"com/example/leash/leash/service/SlidingLog$State", "instant", "(I)J"⟩ : MethodName)) (z := (⟨"com/example/leash/leash/service/SlidingLog$State", "instant", "(I)J"⟩ : MethodName)) hown (mvT hZ (hw _ (List.mem_of_getElem? (i := 31) rfl))) (mvT hZ (hw _ (List.mem_of_getElem? (i := 32) rfl))) (notFace_of_selects (args := #[]) (mvT hZ (hw _ (List.mem_of_getElem? (i := 34) rfl)))) (mvT hZ (hw _ (List.mem_of_getElem? (i := 34) rfl))) (mvT hZ (hw _ (List.mem_of_getElem? (i := 33) rfl))) (by decide) (backOf (W := 0) (rm_in l Z a0 hw [] st pl nw q3 sh k105 [(.long q0), (.long q4), (.long q1), (.long (q4 + (1 : Int64))), (.long q2), (.long (q4 + (2 : Int64)))] q1 T135.heap n0 Z138 f137 ge_st Fnw Fna Fsh f136 (fun _ => by rw [h3]; decide) (fun _ => by rw [h3]; rfl)) hZ (hw _ (List.mem_of_getElem? (i := 35) rfl)) (hw _ (List.mem_of_getElem? (i := 8) rfl)) (by decide) (by decide)) q148a q148c (g := (mkF m 154 #[.val (.long q0), .second, .val (.long q1), .second, .val (.long q2), .second, .val (.long q3), .second, .val (.long q4), .second, iv p5, iv nw, iv pl, iv ol, rv sh, rv st, .val (.long q1), .second] [(.int pl), (.ref st)])) rfl (by rw [hml]; rfl) (Steps.refl _) (argsL := [(.int pl)]) (rest := []) (lenOf pd_2 rfl) rfl (by show 2 * 0 + _ ≤ _; exact Nat.le_of_eq rfl) (hb hby at_154) (fun _ _ => ⟨rfl, rfl, (by decide : 2 + 0 ≤ _), (by decide : 13 + 0 ≤ _)⟩)
        dsimp only [Pt.U, Pt.locs, Pt.cells, Pt.slots] at X148 l148 y148 z148 st148 hQ148
        subst l148 y148 z148
        obtain ⟨rfl, N148q, eI⟩ := hQ148
        have N148 := Fr.app N135 N148q
        have go149 : ∀ t, Steps p.tables e below (T148.setTop (mkF m 168 #[.val (.long q0), .second, .val (.long q1), .second, .val (.long q2), .second, .val (.long q3), .second, .val (.long q4), .second, iv p5, iv nw, iv pl, iv ol, rv sh, rv st, .val (.long q1), .second] [(.int 1)])) t → Steps p.tables e below O t := fun t k => go147 t (by
          refine XS.icmpNo X135.here hx rfl (hb hby at_137) rfl (teq (h3 : pl = (1 : Int32))).2 ?_
          show Steps _ _ _ (T135.setTop (mkF m 140 _ [])) _
          refine XS.lloadN X135.here hx rfl (hb hby at_140) rfl ?_
          show Steps _ _ _ (T135.setTop (mkF m 141 _ [(.long q1)])) _
          refine XS.lstore X135.here hx rfl (hb hby at_141) rfl (l' := #[.val (.long q0), .second, .val (.long q1), .second, .val (.long q2), .second, .val (.long q3), .second, .val (.long q4), .second, iv p5, iv nw, iv pl, iv ol, rv sh, rv st, .val (.long q1), .second]) rfl ?_
          show Steps _ _ _ (T135.setTop (mkF m 143 _ [])) _
          refine XS.goto X135.here hx rfl (pc0 := 143) (pc' := 150) rfl (hb hby at_143) (by decide) (by decide) ?_
          show Steps _ _ _ (T135.setTop (mkF m 150 _ [])) _
          refine XS.aload X135.here hx rfl (hb hby at_150) rfl rfl ?_
          show Steps _ _ _ (T135.setTop (mkF m 152 _ [(.ref st)])) _
          refine XS.iload X135.here hx rfl (hb hby at_152) rfl ?_
          show Steps _ _ _ (T135.setTop (mkF m 154 _ [(.int pl), (.ref st)])) _
          refine st148.trans ?_
          show Steps _ _ _ (T148.setTop (mkF m 157 _ [(.long (if pl = nw then q3 else q1))])) _
          refine XS.lload X148.here hx rfl (hb hby at_157) rfl ?_
          show Steps _ _ _ (T148.setTop (mkF m 159 _ [(.long q1), (.long (if pl = nw then q3 else q1))])) _
          refine XS.lcmp X148.here hx rfl (hb hby at_159) rfl ?_
          show Steps _ _ _ (T148.setTop (mkF m 160 _ [(.int (lcmpW (if pl = nw then q3 else q1) q1))])) _
          refine XS.ifNo X148.here hx rfl (hb hby at_160) rfl ((if0 _ _).trans (teq ((lw_eq _ _).mpr (if_neg h1) : (lcmpW (if pl = nw then q3 else q1) q1) = (0 : Int32))).2) ?_
          show Steps _ _ _ (T148.setTop (mkF m 163 _ [])) _
          refine XS.iconst X148.here hx rfl (hb hby at_163) ?_
          show Steps _ _ _ (T148.setTop (mkF m 164 _ [(.int 1)])) _
          refine XS.goto X148.here hx rfl (pc0 := 164) (pc' := 168) rfl (hb hby at_164) (by decide) (by decide) ?_
          show Steps _ _ _ (T148.setTop (mkF m 168 _ [(.int 1)])) _
          exact k)
        subst hO
        obtain ⟨fs, hr, hrun, hended, hW, hsame⟩ := X148.leave (v := some (.int 1)) (fun h => by rw [Bd.returns] at h; cases h)
        refine ⟨_, _, go149 _ ?_, hrun, hended, _, _, rfl, ?_, ⟨_, rfl⟩, hW, hsame.mono (by decide) (by decide)⟩
        · exact retN X148 hx (t := .boolean) Bd.returns (by simp) (hb hby at_168) hr
        · show Q_law Z q0 q1 q2 q3 q4 p5 h0 n0 _ T148.heap _
          rw [eI]
          exact ⟨rfl, N148⟩
      · have h4 := own_two pl nw g_pl.1 g_pl.2 g_nw.2 h1 h2 h3
        obtain ⟨cq151, kq151, q151a, q151b, q151c⟩ := isOf hZ rfl f137
        obtain ⟨_, _, ⟨T151, L151, k151, n151⟩, -, X151, ⟨Lc151, hQ151, l151, y151, z151⟩, st151⟩ := X135.virtualBack hx (y := (⟨"com/example/leash/leash/service/SlidingLog$State", "instant", "(I)J"⟩ : MethodName)) (z := (⟨"com/example/leash/leash/service/SlidingLog$State", "instant", "(I)J"⟩ : MethodName)) hown (mvT hZ (hw _ (List.mem_of_getElem? (i := 31) rfl))) (mvT hZ (hw _ (List.mem_of_getElem? (i := 32) rfl))) (notFace_of_selects (args := #[]) (mvT hZ (hw _ (List.mem_of_getElem? (i := 34) rfl)))) (mvT hZ (hw _ (List.mem_of_getElem? (i := 34) rfl))) (mvT hZ (hw _ (List.mem_of_getElem? (i := 33) rfl))) (by decide) (backOf (W := 0) (rm_in l Z a0 hw [] st pl nw q3 sh k105 [(.long q0), (.long q4), (.long q1), (.long (q4 + (1 : Int64))), (.long q2), (.long (q4 + (2 : Int64)))] q2 T135.heap n0 Z138 f137 ge_st Fnw Fna Fsh f136 (fun _ => by rw [h4]; decide) (fun _ => by rw [h4]; rfl)) hZ (hw _ (List.mem_of_getElem? (i := 35) rfl)) (hw _ (List.mem_of_getElem? (i := 8) rfl)) (by decide) (by decide)) q151a q151c (g := (mkF m 154 #[.val (.long q0), .second, .val (.long q1), .second, .val (.long q2), .second, .val (.long q3), .second, .val (.long q4), .second, iv p5, iv nw, iv pl, iv ol, rv sh, rv st, .val (.long q2), .second] [(.int pl), (.ref st)])) rfl (by rw [hml]; rfl) (Steps.refl _) (argsL := [(.int pl)]) (rest := []) (lenOf pd_2 rfl) rfl (by show 2 * 0 + _ ≤ _; exact Nat.le_of_eq rfl) (hb hby at_154) (fun _ _ => ⟨rfl, rfl, (by decide : 2 + 0 ≤ _), (by decide : 13 + 0 ≤ _)⟩)
        dsimp only [Pt.U, Pt.locs, Pt.cells, Pt.slots] at X151 l151 y151 z151 st151 hQ151
        subst l151 y151 z151
        obtain ⟨rfl, N151q, eI⟩ := hQ151
        have N151 := Fr.app N135 N151q
        have go152 : ∀ t, Steps p.tables e below (T151.setTop (mkF m 168 #[.val (.long q0), .second, .val (.long q1), .second, .val (.long q2), .second, .val (.long q3), .second, .val (.long q4), .second, iv p5, iv nw, iv pl, iv ol, rv sh, rv st, .val (.long q2), .second] [(.int 1)])) t → Steps p.tables e below O t := fun t k => go147 t (by
          refine XS.icmpYes X135.here hx rfl (pc0 := 137) (pc' := 146) rfl (hb hby at_137) rfl (feq (h3 : ¬ (pl = (1 : Int32)))).2 (by decide) (by decide) ?_
          show Steps _ _ _ (T135.setTop (mkF m 146 _ [])) _
          refine XS.lload X135.here hx rfl (hb hby at_146) rfl ?_
          show Steps _ _ _ (T135.setTop (mkF m 148 _ [(.long q2)])) _
          refine XS.lstore X135.here hx rfl (hb hby at_148) rfl (l' := #[.val (.long q0), .second, .val (.long q1), .second, .val (.long q2), .second, .val (.long q3), .second, .val (.long q4), .second, iv p5, iv nw, iv pl, iv ol, rv sh, rv st, .val (.long q2), .second]) rfl ?_
          show Steps _ _ _ (T135.setTop (mkF m 150 _ [])) _
          refine XS.aload X135.here hx rfl (hb hby at_150) rfl rfl ?_
          show Steps _ _ _ (T135.setTop (mkF m 152 _ [(.ref st)])) _
          refine XS.iload X135.here hx rfl (hb hby at_152) rfl ?_
          show Steps _ _ _ (T135.setTop (mkF m 154 _ [(.int pl), (.ref st)])) _
          refine st151.trans ?_
          show Steps _ _ _ (T151.setTop (mkF m 157 _ [(.long (if pl = nw then q3 else q2))])) _
          refine XS.lload X151.here hx rfl (hb hby at_157) rfl ?_
          show Steps _ _ _ (T151.setTop (mkF m 159 _ [(.long q2), (.long (if pl = nw then q3 else q2))])) _
          refine XS.lcmp X151.here hx rfl (hb hby at_159) rfl ?_
          show Steps _ _ _ (T151.setTop (mkF m 160 _ [(.int (lcmpW (if pl = nw then q3 else q2) q2))])) _
          refine XS.ifNo X151.here hx rfl (hb hby at_160) rfl ((if0 _ _).trans (teq ((lw_eq _ _).mpr (if_neg h1) : (lcmpW (if pl = nw then q3 else q2) q2) = (0 : Int32))).2) ?_
          show Steps _ _ _ (T151.setTop (mkF m 163 _ [])) _
          refine XS.iconst X151.here hx rfl (hb hby at_163) ?_
          show Steps _ _ _ (T151.setTop (mkF m 164 _ [(.int 1)])) _
          refine XS.goto X151.here hx rfl (pc0 := 164) (pc' := 168) rfl (hb hby at_164) (by decide) (by decide) ?_
          show Steps _ _ _ (T151.setTop (mkF m 168 _ [(.int 1)])) _
          exact k)
        subst hO
        obtain ⟨fs, hr, hrun, hended, hW, hsame⟩ := X151.leave (v := some (.int 1)) (fun h => by rw [Bd.returns] at h; cases h)
        refine ⟨_, _, go152 _ ?_, hrun, hended, _, _, rfl, ?_, ⟨_, rfl⟩, hW, hsame.mono (by decide) (by decide)⟩
        · exact retN X151 hx (t := .boolean) Bd.returns (by simp) (hb hby at_168) hr
        · show Q_law Z q0 q1 q2 q3 q4 p5 h0 n0 _ T151.heap _
          rw [eI]
          exact ⟨rfl, N151⟩
set_option maxRecDepth 65536 in
set_option maxHeartbeats 40000000 in
theorem comes_1 {Post : Tables → Env → Array Value → State → Outcome → State → Prop} (hpost : ∀ tb e args s v u, (limb_1_1.after args s (.returned v) u = true ∧ limb_1_2.after args s (.returned v) u = true ∧ True) → FrameEnd s (.returned v) u (Jvm.fieldLocs frame_1_writes args s ++ Jvm.arrayLocs frame_1_arrays args s ++ Jvm.staticLocs frame_1_statics s) 16 128 → Post tb e args s (.returned v) u) :
    ArmFor flags0 classFile x code maxLocals ret World_1 tables_1 room_1 Calls_1 rest_1 Pre_1 Post := by
  intro l hfl _ _ p e ha hc hk s m args below hf hA hF happ hP
  obtain ⟨hcalls, hrest, hpre⟩ := hP
  obtain ⟨-, -, -, hnamed, -, -, -, hat⟩ := (Spec.applies_iff hf).mp happ
  obtain ⟨hg, hn⟩ := and_e (Cond.before_iff.mp (show (Jvm.Cond.and given_1 narrow_1).before args s = true from hpre))
  obtain ⟨hcnt, r0⟩ := and_e hg
  obtain ⟨c0, r1⟩ := and_e r0
  obtain ⟨c1, r2⟩ := and_e r1
  obtain ⟨c2, r3⟩ := and_e r2
  obtain ⟨c3, r4⟩ := and_e r3
  obtain ⟨c4, r5⟩ := and_e r4
  obtain ⟨w0, w1, w2, w3, w4, w5, rfl⟩ : ∃ w0 w1 w2 w3 w4 w5 : Value, args = #[w0, w1, w2, w3, w4, w5] := by
    have hs : args.size = 6 := by simpa [Cond.value, given_1] using hcnt
    obtain ⟨L⟩ := args
    match L, hs with
    | [w0, w1, w2, w3, w4, w5], _ => exact ⟨w0, w1, w2, w3, w4, w5, rfl⟩
  have hw := fun d (hd : d ∈ tables_1) => atoms_spec (ws := Jvm.Cond.code x code maxLocals ret :: tables_1) hat d (List.mem_cons_of_mem _ hd)
  obtain ⟨i0, ei0⟩ := isL_v c0
  obtain rfl : w0 = (.long i0) := Option.some.inj ei0
  obtain ⟨i1, ei1⟩ := isL_v c1
  obtain rfl : w1 = (.long i1) := Option.some.inj ei1
  obtain ⟨i2, ei2⟩ := isL_v c2
  obtain rfl : w2 = (.long i2) := Option.some.inj ei2
  obtain ⟨i3, ei3⟩ := isL_v c3
  obtain rfl : w3 = (.long i3) := Option.some.inj ei3
  obtain ⟨i4, ei4⟩ := isL_v c4
  obtain rfl : w4 = (.long i4) := Option.some.inj ei4
  obtain ⟨i5, ei5⟩ := is_v r5
  obtain rfl : w5 = (.int i5) := Option.some.inj ei5
  obtain ⟨n, o, h1, h2, h3, _, L, rfl, ⟨rfl, N⟩, hq⟩ := rm_law l s _ hw tables_1 i0 i1 i2 i3 i4 i5 s.heap s.heap.size (Nat.le_refl _) p e ha hc hk s m _ below hf ((Spec.applies_iff_loose hf).mp happ).1 ⟨rfl, State.Warmed39.refl s, rfl⟩ trivial
  refine ⟨n, _, h1, h2, h3, hpost _ _ _ _ _ _ ⟨Cond.after_iff.mpr rfl, Cond.after_iff.mpr (eq_i res_at (Term.int_eval (1)) rfl), trivial⟩ ⟨hq.1, hq.2.1, (hq.2.2.sift fun y hy => Or.inr (N y hy)).mono (by decide) (by decide)⟩⟩
theorem main_1_1 : Claimed_1_1 := comes_1 fun _ _ _ _ _ _ h hF => ⟨h.1, hF⟩
theorem main_1_2 : Claimed_1_2 := comes_1 fun _ _ _ _ _ _ h hF => ⟨h.2.1, hF⟩
end Jvm.Pilot.@@N@@
namespace Jvm.Pilot.@@N@@
open Jvm Jvm.ClassFile Sem Op Lib Jvm.Free Jvm.Stand Jvm.Pilot.@@N@@.Jvm.D
/-! MADE BY PROGRAM (witnessworld.py) out of the Statement's table words and the real class files: 12 classes; the members and pool entries that the words name. The judged class is class 1, her method 1. -/
namespace start1
open Jvm.ClassFile
def u (s : String) : CpInfo := .utf8 (stringToUtf16 s)
/-- a pool by its gaps: so many unusable entries, then the entry; so many at the end -/
def gap : Nat → List CpInfo → List CpInfo
  | 0, r => r
  | n + 1, r => .unusable :: gap n r
def poolList (es : List (Nat × CpInfo)) (last : Nat) : List CpInfo := es.foldr (fun e r => gap e.1 (e.2 :: r)) (gap last [])
def pool (es : List (Nat × CpInfo)) (last : Nat) : Array CpInfo := ⟨poolList es last⟩
def fileOf (pool : Array CpInfo) (this : Nat) (attrs : Array Attribute := #[]) (ms : Array MethodInfo := #[]) (fl : Nat := 33) (sup : Nat := 0) (ifs : Array Nat := #[]) (fds : Array FieldInfo := #[]) : ClassFile where
  minorVersion := 0
  majorVersion := 65
  constantPool := pool
  accessFlags := fl
  thisClass := this
  superClass := sup
  interfaces := ifs
  fields := fds
  methods := ms
  attributes := attrs
def plain (name : String) (sup : Option ClassId) : Class where
  name := name
  kind := .ordinary
  loader := none
  accessFlags := 33
  super := sup
  interfaces := #[]
  cf := none
  fields := #[]
  methods := #[]
  instanceTypes := #[]
  staticTypes := #[]
  resolved := #[]
  callSites := []
  init := .initialized
  statics := none
  mirror := none

def pool0 : Array CpInfo := pool [(5, u "<init>"), (0, u "()V"), (1, .class_ 10), (1, u "java/lang/Object")] 113

def k0c0 : Code := { maxStack := 0, maxLocals := 1, code := object_method_1_code, exceptionTable := #[], attributes := #[] }
def k0m0 : Method := { name := "<init>", desc := "()V", sig := { parameters := [], returnType := none }, accessFlags := 1, code := some k0c0 }
/-- java/lang/Object -/
def k0 : Class := { plain "java/lang/Object" none with
  accessFlags := 33
  interfaces := #[]
  cf := some (fileOf pool0 8 #[] #[{ accessFlags := 1, nameIndex := 5, descriptorIndex := 6, attributes := #[] }] 33 0 #[] #[])
  fields := #[]
  methods := #[k0m0]
  instanceTypes := #[]
  staticTypes := #[]
  resolved := Array.replicate 124 none
  statics := none }

def pool1 : Array CpInfo := pool [(2, .class_ 4), (1, u "java/lang/Object"), (0, u "<init>"), (0, u "()V"), (0, .methodref 8 9), (0, .class_ 10), (0, .nameAndType 11 12), (0, u "java/lang/Math"), (0, u "min"), (0, u "(II)I"), (0, .long 2), (1, .class_ 16), (0, u "com/example/leash/leash/service/SlidingLog$State"), (0, .long 18446744073709551615), (1, .long 3), (1, .methodref 15 22), (0, .nameAndType 5 23), (0, u "(J[JIIJJJ)V"), (0, .methodref 15 25), (0, .nameAndType 26 27), (0, u "instant"), (0, u "(I)J"), (0, .class_ 29), (0, u "com/example/leash/leash/service/StateInstantPinLaw"), (2, u "law"), (0, u "(JJJJJI)Z")] 9

def k1m0 : Method := { name := "<init>", desc := "()V", sig := { parameters := [], returnType := none }, accessFlags := 1, code := none }
def k1c1 : Code := { maxStack := 15, maxLocals := 18, code := code, exceptionTable := #[], attributes := #[] }
def k1m1 : Method := { name := "law", desc := "(JJJJJI)Z", sig := { parameters := [.long, .long, .long, .long, .long, .int], returnType := some .boolean }, accessFlags := 9, code := some k1c1 }
/-- com/example/leash/leash/service/StateInstantPinLaw -/
def k1 : Class := { plain "com/example/leash/leash/service/StateInstantPinLaw" (some 0) with
  accessFlags := 49
  interfaces := #[]
  cf := some (fileOf pool1 28 #[] #[{ accessFlags := 1, nameIndex := 5, descriptorIndex := 6, attributes := #[] }, { accessFlags := 9, nameIndex := 32, descriptorIndex := 33, attributes := #[] }] 49 2 #[] #[])
  fields := #[]
  methods := #[k1m0, k1m1]
  instanceTypes := #[]
  staticTypes := #[]
  resolved := Array.replicate 43 none
  statics := none }

def pool2 : Array CpInfo := pool [(1, .class_ 2), (0, u "java/lang/Math"), (1, .class_ 6), (1, u "java/lang/Object"), (0, u "<init>"), (0, u "()V"), (89, .class_ 100), (1, u "java/lang/Math$RandomNumberGeneratorHolder"), (71, u "negativeZeroFloatBits"), (0, u "J"), (2, u "negativeZeroDoubleBits"), (24, u "min"), (43, u "$assertionsDisabled"), (0, u "Z"), (88, u "(II)I"), (2, u "twoToTheDoubleScaleDown"), (0, u "D"), (4, u "twoToTheDoubleScaleUp"), (9, u "E"), (3, u "PI"), (2, u "TAU"), (2, u "DEGREES_TO_RADIANS"), (0, u "RADIANS_TO_DEGREES")] 94

def k2m0 : Method := { name := "<init>", desc := "()V", sig := { parameters := [], returnType := none }, accessFlags := 2, code := none }
def k2c1 : Code := { maxStack := 2, maxLocals := 2, code := jdk_29_method_69_code, exceptionTable := #[], attributes := #[] }
def k2m1 : Method := { name := "min", desc := "(II)I", sig := { parameters := [.int, .int], returnType := some .int }, accessFlags := 9, code := some k2c1 }
/-- java/lang/Math -/
def k2 : Class := { plain "java/lang/Math" (some 0) with
  accessFlags := 49
  interfaces := #[]
  cf := some (fileOf pool2 1 #[.nestMembers #[98]] #[{ accessFlags := 2, nameIndex := 7, descriptorIndex := 8, attributes := #[] }, { accessFlags := 9, nameIndex := 201, descriptorIndex := 335, attributes := #[] }] 49 4 #[] #[{ accessFlags := 25, nameIndex := 354, descriptorIndex := 339, attributes := #[] }, { accessFlags := 25, nameIndex := 358, descriptorIndex := 339, attributes := #[] }, { accessFlags := 25, nameIndex := 361, descriptorIndex := 339, attributes := #[] }, { accessFlags := 26, nameIndex := 364, descriptorIndex := 339, attributes := #[] }, { accessFlags := 26, nameIndex := 365, descriptorIndex := 339, attributes := #[] }, { accessFlags := 26, nameIndex := 172, descriptorIndex := 173, attributes := #[] }, { accessFlags := 26, nameIndex := 176, descriptorIndex := 173, attributes := #[] }, { accessFlags := 8, nameIndex := 344, descriptorIndex := 339, attributes := #[] }, { accessFlags := 8, nameIndex := 338, descriptorIndex := 339, attributes := #[] }, { accessFlags := 4120, nameIndex := 245, descriptorIndex := 246, attributes := #[] }])
  fields := #[{ name := "E", type := .double, accessFlags := 25, slot := 0, constantValue := 0 }, { name := "PI", type := .double, accessFlags := 25, slot := 1, constantValue := 0 }, { name := "TAU", type := .double, accessFlags := 25, slot := 2, constantValue := 0 }, { name := "DEGREES_TO_RADIANS", type := .double, accessFlags := 26, slot := 3, constantValue := 0 }, { name := "RADIANS_TO_DEGREES", type := .double, accessFlags := 26, slot := 4, constantValue := 0 }, { name := "negativeZeroFloatBits", type := .long, accessFlags := 26, slot := 5, constantValue := 0 }, { name := "negativeZeroDoubleBits", type := .long, accessFlags := 26, slot := 6, constantValue := 0 }, { name := "twoToTheDoubleScaleUp", type := .double, accessFlags := 8, slot := 7, constantValue := 0 }, { name := "twoToTheDoubleScaleDown", type := .double, accessFlags := 8, slot := 8, constantValue := 0 }, { name := "$assertionsDisabled", type := .boolean, accessFlags := 4120, slot := 9, constantValue := 0 }]
  methods := #[k2m0, k2m1]
  instanceTypes := #[]
  staticTypes := #[.double, .double, .double, .double, .double, .long, .long, .double, .double, .boolean]
  resolved := Array.replicate 460 none
  statics := none }

def pool3 : Array CpInfo := pool [(1, .methodref 2 3), (0, .class_ 4), (0, .nameAndType 5 6), (0, u "java/lang/Object"), (0, u "<init>"), (0, u "()V"), (0, .fieldref 8 9), (0, .class_ 10), (0, .nameAndType 11 12), (0, u "com/example/leash/leash/service/SlidingLog$State"), (0, u "latestSeen"), (0, u "J"), (0, .fieldref 8 14), (0, .nameAndType 15 16), (0, u "shelf"), (0, u "[J"), (0, .fieldref 8 18), (0, .nameAndType 19 20), (0, u "oldest"), (0, u "I"), (0, .fieldref 8 22), (0, .nameAndType 23 20), (0, u "newest"), (0, .fieldref 8 25), (0, .nameAndType 26 12), (0, u "totalBefore"), (0, .fieldref 8 28), (0, .nameAndType 29 12), (0, u "newestAt"), (0, .fieldref 8 31), (0, .nameAndType 32 12), (0, u "newestTotal"), (1, .class_ 36), (1, u "com/example/leash/leash/service/SlidingLog"), (3, u "(J[JIIJJJ)V"), (2, u "(I)J"), (0, u "NOTHING_LOGGED"), (7, u "instant")] 6

def k3c0 : Code := { maxStack := 3, maxLocals := 12, code := prog_53_method_1_code, exceptionTable := #[], attributes := #[] }
def k3m0 : Method := { name := "<init>", desc := "(J[JIIJJJ)V", sig := { parameters := [.long, (.array .long), .int, .int, .long, .long, .long], returnType := none }, accessFlags := 0, code := some k3c0 }
def k3c1 : Code := { maxStack := 3, maxLocals := 2, code := prog_53_method_4_code, exceptionTable := #[], attributes := #[] }
def k3m1 : Method := { name := "instant", desc := "(I)J", sig := { parameters := [.int], returnType := some .long }, accessFlags := 0, code := some k3c1 }
/-- com/example/leash/leash/service/SlidingLog$State -/
def k3 : Class := { plain "com/example/leash/leash/service/SlidingLog$State" (some 0) with
  accessFlags := 32
  interfaces := #[]
  cf := some (fileOf pool3 8 #[.nestHost 34] #[{ accessFlags := 0, nameIndex := 5, descriptorIndex := 40, attributes := #[] }, { accessFlags := 0, nameIndex := 52, descriptorIndex := 43, attributes := #[] }] 32 2 #[] #[{ accessFlags := 24, nameIndex := 44, descriptorIndex := 20, attributes := #[] }, { accessFlags := 18, nameIndex := 11, descriptorIndex := 12, attributes := #[] }, { accessFlags := 18, nameIndex := 15, descriptorIndex := 16, attributes := #[] }, { accessFlags := 18, nameIndex := 19, descriptorIndex := 20, attributes := #[] }, { accessFlags := 18, nameIndex := 23, descriptorIndex := 20, attributes := #[] }, { accessFlags := 18, nameIndex := 26, descriptorIndex := 12, attributes := #[] }, { accessFlags := 18, nameIndex := 29, descriptorIndex := 12, attributes := #[] }, { accessFlags := 18, nameIndex := 32, descriptorIndex := 12, attributes := #[] }])
  fields := #[{ name := "NOTHING_LOGGED", type := .int, accessFlags := 24, slot := 0, constantValue := 0 }, { name := "latestSeen", type := .long, accessFlags := 18, slot := 0, constantValue := 0 }, { name := "shelf", type := (.array .long), accessFlags := 18, slot := 1, constantValue := 0 }, { name := "oldest", type := .int, accessFlags := 18, slot := 2, constantValue := 0 }, { name := "newest", type := .int, accessFlags := 18, slot := 3, constantValue := 0 }, { name := "totalBefore", type := .long, accessFlags := 18, slot := 4, constantValue := 0 }, { name := "newestAt", type := .long, accessFlags := 18, slot := 5, constantValue := 0 }, { name := "newestTotal", type := .long, accessFlags := 18, slot := 6, constantValue := 0 }]
  methods := #[k3m0, k3m1]
  instanceTypes := #[.long, (.array .long), .int, .int, .long, .long, .long]
  staticTypes := #[.int]
  resolved := Array.replicate 59 none
  statics := none }

def pool4 : Array CpInfo := pool [(1, u "java/lang/Cloneable"), (0, .class_ 1), (0, u "java/lang/Object"), (0, .class_ 3)] 3

/-- java/lang/Cloneable -/
def k4 : Class := { plain "java/lang/Cloneable" (some 0) with
  accessFlags := 1537
  interfaces := #[]
  cf := some (fileOf pool4 2 #[] #[] 1537 4 #[] #[])
  fields := #[]
  methods := #[]
  instanceTypes := #[]
  staticTypes := #[]
  resolved := Array.replicate 8 none
  statics := none }

def pool5 : Array CpInfo := pool [(1, u "java/io/Serializable"), (0, .class_ 1), (0, u "java/lang/Object"), (0, .class_ 3)] 3

/-- java/io/Serializable -/
def k5 : Class := { plain "java/io/Serializable" (some 0) with
  accessFlags := 1537
  interfaces := #[]
  cf := some (fileOf pool5 2 #[] #[] 1537 4 #[] #[])
  fields := #[]
  methods := #[]
  instanceTypes := #[]
  staticTypes := #[]
  resolved := Array.replicate 8 none
  statics := none }

/-- the primitive byte -/
def k6 : Class := { plain "byte" none with kind := .primitive 'B', accessFlags := 0x411 }
/-- [B -/
def k7 : Class := { plain "[B" (some 0) with kind := .array 6 .byte, interfaces := #[4, 5], accessFlags := 1041 }

/-- the primitive int -/
def k8 : Class := { plain "int" none with kind := .primitive 'I', accessFlags := 0x411 }
/-- [I -/
def k9 : Class := { plain "[I" (some 0) with kind := .array 8 .int, interfaces := #[4, 5], accessFlags := 1041 }

/-- the primitive long -/
def k10 : Class := { plain "long" none with kind := .primitive 'J', accessFlags := 0x411 }
/-- [J -/
def k11 : Class := { plain "[J" (some 0) with kind := .array 10 .long, interfaces := #[4, 5], accessFlags := 1041 }

def heap : Heap := #[]
def classes : Array Class := #[k0, k1, k2, k3, k4, k5, k6, k7, k8, k9, k10, k11]
def interned : List (Array UInt16 × Addr) := []
def slotsUsed : Nat := 0
def theMethod : MethodId := ⟨1, 1⟩
def args0 : Array Value := #[.long 5, .long 3, .long 7, .long 2, .long 1, .int 6]
def aboutOver (below : List Frame) : State where
  vm := { classes := classes, interned := interned.toArray }
  heap := heap
  slotsUsed := slotsUsed
  threads := #[{ frames := .invoking theMethod args0 :: below }]
def below0 : List Frame := [.native { method := ⟨0, 0⟩, args := #[] }]
def about1 : State := aboutOver below0
def p0 : Program := .bare "" "" ""
def e0 : Env := launch0.env 0 0 0
theorem w_frames : about1.frames = Frame.invoking theMethod args0 :: below0 := rfl
set_option maxRecDepth 65536 in
theorem w_args : argsFit about1.vm theMethod args0 = true := by decide +kernel
set_option maxRecDepth 65536 in
theorem w_heap : heapFits about1 = true := by decide +kernel
set_option maxRecDepth 65536 in
theorem w_runnable : about1.curStatus? = some .runnable := by decide +kernel
set_option maxRecDepth 65536 in
theorem w_alone : about1.alone = true := by decide +kernel
set_option maxRecDepth 65536 in
theorem w_named : about1.methodNamed? x = some theMethod := by decide +kernel
set_option maxRecDepth 65536 in
theorem w_hears : about1.hears theMethod below0 = true := by decide +kernel
set_option maxRecDepth 65536 in
theorem w_ripe : about1.ripe theMethod args0 below0 = true := by decide +kernel
theorem w_running : about1.status = .running := rfl
set_option maxRecDepth 65536 in
theorem w_room : about1.hasRoom e0.platform room_1 = true :=
  launch0.hasRoom_least _ room_1 (by decide +kernel) (by decide +kernel) (by decide +kernel) (by decide +kernel) (by decide +kernel) (by decide +kernel)
theorem allAtoms_all (ts : List Jvm.Cond) (a : Array Jvm.Value) (st : Jvm.State) : (allAtoms ts).before a st = ts.all (fun c => c.before a st) := by
  induction ts with
  | nil => rfl
  | cons c t ih =>
    show (Jvm.Cond.and c (allAtoms t)).before a st = _
    rw [Jvm.Cond.before_and, ih, List.all_cons]
def words1 : List Jvm.Cond := Jvm.Cond.code x code maxLocals ret :: tables_1
/-- a 'code' word, met by the world's own term for the bytes: nothing is compared byte by byte -/
theorem code_word {y : MethodName} {bytes : ByteArray} {mx : Nat} {rt : Option FieldType} {a : Array Value} {s : State} {m : MethodId} {meth : Method} {c : Code} (h1 : s.methodNamed? y = some m) (h2 : s.vm.method? m = some meth) (h3 : meth.code = some c) (h4 : c.code = bytes)
    (h5 : (c.maxLocals == mx && c.exceptionTable.isEmpty && decide (c.maxStack ≤ mostOperands) && decide (meth.sig.returnType = rt) && !meth.locks && decide (parseMethodDescriptor y.desc = some meth.sig)) = true) : (Jvm.Cond.code y bytes mx rt).before a s = true := by
  simp only [Bool.and_eq_true, beq_iff_eq, Bool.not_eq_true', decide_eq_true_eq] at h5
  obtain ⟨⟨⟨⟨⟨g1, g2⟩, g3⟩, g4⟩, g5⟩, g6⟩ := h5
  simp [Cond.before, Cond.holds, Cond.value, h1, h2, h3, h4, g1, g2, g3, g4, g5, g6]
def isCode : Jvm.Cond → Bool
  | .code _ _ _ _ => true
  | _ => false
theorem all_split {L : List Jvm.Cond} {P : Jvm.Cond → Bool} (h1 : L.all (fun c => isCode c || P c) = true) (h2 : ∀ c ∈ L.filter isCode, P c = true) : L.all P = true := by
  refine List.all_eq_true.mpr fun c hc => ?_
  have h := List.all_eq_true.mp h1 c hc
  rcases Bool.eq_false_or_eq_true (isCode c) with hi | hi
  · exact h2 c (List.mem_filter.mpr ⟨hc, hi⟩)
  · simpa [hi] using h
set_option maxRecDepth 65536 in
theorem w_c0 : (Jvm.Cond.code x code maxLocals ret).before args0 about1 = true := code_word (m := ⟨1, 1⟩) (meth := k1m1) (c := k1c1) (by decide +kernel) rfl rfl rfl (by decide +kernel)
set_option maxRecDepth 65536 in
theorem w_c1 : (Jvm.Cond.code ({ cls := "java/lang/Math", name := "min", desc := "(II)I" } : Jvm.MethodName) jdk_29_method_69_code (2 : Nat) (Option.some Jvm.ClassFile.FieldType.int)).before args0 about1 = true := code_word (m := ⟨2, 1⟩) (meth := k2m1) (c := k2c1) (by decide +kernel) rfl rfl rfl (by decide +kernel)
set_option maxRecDepth 65536 in
theorem w_c2 : (Jvm.Cond.code ({ cls := "com/example/leash/leash/service/SlidingLog$State", name := "<init>", desc := "(J[JIIJJJ)V" } : Jvm.MethodName) prog_53_method_1_code (12 : Nat) (Option.none : Option Jvm.ClassFile.FieldType)).before args0 about1 = true := code_word (m := ⟨3, 0⟩) (meth := k3m0) (c := k3c0) (by decide +kernel) rfl rfl rfl (by decide +kernel)
set_option maxRecDepth 65536 in
theorem w_c3 : (Jvm.Cond.code ({ cls := "java/lang/Object", name := "<init>", desc := "()V" } : Jvm.MethodName) object_method_1_code (1 : Nat) (Option.none : Option Jvm.ClassFile.FieldType)).before args0 about1 = true := code_word (m := ⟨0, 0⟩) (meth := k0m0) (c := k0c0) (by decide +kernel) rfl rfl rfl (by decide +kernel)
set_option maxRecDepth 65536 in
theorem w_c4 : (Jvm.Cond.code ({ cls := "com/example/leash/leash/service/SlidingLog$State", name := "instant", desc := "(I)J" } : Jvm.MethodName) prog_53_method_4_code (2 : Nat) (Option.some Jvm.ClassFile.FieldType.long)).before args0 about1 = true := code_word (m := ⟨3, 1⟩) (meth := k3m1) (c := k3c1) (by decide +kernel) rfl rfl rfl (by decide +kernel)
def codes1 : List Jvm.Cond := [Jvm.Cond.code x code maxLocals ret, Jvm.Cond.code ({ cls := "java/lang/Math", name := "min", desc := "(II)I" } : Jvm.MethodName) jdk_29_method_69_code (2 : Nat) (Option.some Jvm.ClassFile.FieldType.int), Jvm.Cond.code ({ cls := "com/example/leash/leash/service/SlidingLog$State", name := "<init>", desc := "(J[JIIJJJ)V" } : Jvm.MethodName) prog_53_method_1_code (12 : Nat) (Option.none : Option Jvm.ClassFile.FieldType), Jvm.Cond.code ({ cls := "java/lang/Object", name := "<init>", desc := "()V" } : Jvm.MethodName) object_method_1_code (1 : Nat) (Option.none : Option Jvm.ClassFile.FieldType), Jvm.Cond.code ({ cls := "com/example/leash/leash/service/SlidingLog$State", name := "instant", desc := "(I)J" } : Jvm.MethodName) prog_53_method_4_code (2 : Nat) (Option.some Jvm.ClassFile.FieldType.long)]
set_option maxRecDepth 65536 in
theorem codes_eq : words1.filter isCode = codes1 := rfl
theorem w_codes : ∀ c ∈ words1.filter isCode, c.before args0 about1 = true := by
  rw [codes_eq]
  intro c hc
  simp only [codes1, List.mem_cons, List.not_mem_nil, or_false] at hc
  rcases hc with rfl | rfl | rfl | rfl | rfl
  · exact w_c0
  · exact w_c1
  · exact w_c2
  · exact w_c3
  · exact w_c4
set_option maxRecDepth 65536 in
theorem w_t1 : (words1.take 24).all (fun c => isCode c || c.before args0 about1) = true := by decide +kernel
set_option maxRecDepth 65536 in
theorem w_t2 : (words1.drop 24).all (fun c => isCode c || c.before args0 about1) = true := by decide +kernel
theorem w_tables : (allAtoms (Jvm.Cond.code x code maxLocals ret :: tables_1)).before args0 about1 = true := by
  rw [allAtoms_all]
  show words1.all (fun c => c.before args0 about1) = true
  refine all_split ?_ w_codes
  rw [← List.take_append_drop 24 words1, List.all_append, w_t1, w_t2]
  rfl
set_option maxRecDepth 65536 in
theorem w_case : (Jvm.Cond.and given_1 narrow_1).before args0 about1 = true := by decide +kernel
theorem w_applies : (headSpec (Jvm.Cond.code x code maxLocals ret :: tables_1) room_1).applies x e0.platform about1 = true :=
  (Spec.applies_iff w_frames).mpr ⟨w_running, w_runnable, w_alone, w_named, w_hears, w_ripe, w_room, w_tables⟩
theorem atStart : AtStart classFile x code maxLocals ret World_1 tables_1 room_1 Calls_1 rest_1 Pre_1 launch0 p0 e0 about1 theMethod args0 below0 :=
  ⟨lists_1, trivial, launch0.admits_env _ _ _, launch0.least_env, fairChoices_fair.cas, fairChoices_fair.clock, w_frames, w_args, w_heap, w_applies, trivial, trivial, w_case⟩
end start1
theorem witness_1 : WitnessClaimed_1 := ⟨start1.p0, start1.e0, start1.about1, start1.theMethod, start1.args0, start1.below0, start1.atStart⟩
end Jvm.Pilot.@@N@@
