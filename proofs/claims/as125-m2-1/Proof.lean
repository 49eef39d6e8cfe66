import JvmDerived
import JvmDerived.Pilot.@@N@@Statement
import JvmDerived.Pilot.@@N@@Code
set_option linter.unusedVariables false
set_option linter.unusedSimpArgs false
namespace Jvm.RoadKit
open Sem ClassFile Op Lib Jvm.Stand Jvm.Free Jvm.LawKit
section New
variable {p : Program} {l : Launch} {e : Env} {R : Room} {s : State} {m : MethodId} {args : Array Value} {below : List Frame} {meth : Method} {c : Code} {T : State} {locs : List Loc} {cells slots : Nat}
/-- ireturn of an int (after example/lawnew) -/
theorem retI (X : Stand p l e R s m args below meth c T locs cells slots) (hx : p.tables.exec = Jvm.exec) {pc : Nat} {Ls : Array Slot} {z : Int32} {rest : List Value} (hret : meth.sig.returnType = some .int) (hd : decode c.code pc = .ok (.ireturn, 1)) {fs : List Frame}
    (hl : ∀ (f : JFrame) (acts : List Action), f.method = m → f.locked = none → f.entered = [] → (doReturn e (T.setTop f) acts (some (.int z))).1 = T.setFrames fs) : Steps p.tables e below (T.setTop (mkF m pc Ls (.int z :: rest))) (T.setFrames fs) := by
  have hm' : T.vm.method? m = some meth := X.method'
  have hn : narrow .int (.int z) = .int z := rfl
  show Steps p.tables e below (T.setTop { method := m, pc := pc, locals := Ls, stack := _ :: rest, locked := none }) _
  jvm_step X.here [X.here.top, hx, hd, hm', hret, hn]
  first | (intro acts; rw [hl _ acts rfl rfl rfl]) | rw [hl _ _ rfl rfl rfl]
  exact Steps.refl _
/-- the run from S comes to an end that P speaks of: a walk goes on from state to state under one goal, and may fork -/
def own_Go (tb : Tables) (e : Env) (below : List Frame) (P : State → Outcome → Prop) (S : State) : Prop := ∃ t o, Steps tb e below S t ∧ t.status = .running ∧ Ended t below o ∧ P t o
theorem own_st {tb : Tables} {e : Env} {below : List Frame} {P : State → Outcome → Prop} {S S' : State} (st : ∀ t, Steps tb e below S' t → Steps tb e below S t) (k : own_Go tb e below P S') : own_Go tb e below P S := by
  obtain ⟨t, o, h1, h2⟩ := k
  exact ⟨t, o, st t h1, h2⟩
theorem own_tr {tb : Tables} {e : Env} {below : List Frame} {P : State → Outcome → Prop} {S S' : State} (st : Steps tb e below S S') (k : own_Go tb e below P S') : own_Go tb e below P S := own_st (fun _ h => st.trans h) k
theorem own_cv {tb : Tables} {e : Env} {below : List Frame} {P : State → Outcome → Prop} {S S' : State} (q : S = S') (k : own_Go tb e below P S') : own_Go tb e below P S := q ▸ k
theorem own_join {α : Type} {tb : Tables} {e : Env} {below : List Frame} {P : State → Outcome → Prop} {S : State} (F : α → State) (k : ∀ x, own_Go tb e below P (F x)) (j : (∀ x, own_Go tb e below P (F x)) → own_Go tb e below P S) : own_Go tb e below P S := j k
/-- the end of a walk: what the return leaves -/
theorem own_end (X : Stand p l e R s m args below meth c T locs cells slots) {Q : Option Value → Heap → List Loc → Prop} {C N : Nat} {S : State} (v : Option Value) (hlocks : meth.locks = false) (hv : meth.sig.returnType = none → v = none)
    (ret : ∀ fs : List Frame, (∀ (f : JFrame) (acts : List Action), f.method = m → f.locked = none → f.entered = [] → (doReturn e (T.setTop f) acts v).1 = T.setFrames fs) → Steps p.tables e below S (T.setFrames fs))
    (q : Q v T.heap locs) (hc : cells ≤ C) (hn : slots ≤ N) : own_Go p.tables e below (fun t o => ∃ v L, o = .returned v ∧ Q v t.heap L ∧ FrameEnd s o t L C N) S := by
  obtain ⟨fs, hr, hrun, hended, hW, hsame⟩ := X.leave (v := v) hv hlocks
  exact ⟨_, _, ret fs hr, hrun, hended, v, locs, rfl, q, ⟨_, rfl⟩, hW, hsame.mono hc hn⟩
end New
theorem own_i_lt (x y : Int32) : if_icmp.holds .lt x y = decide (x.toInt < y.toInt) := by simp [if_icmp.holds, Int32.lt_iff_toInt_lt]
theorem own_i_le (x y : Int32) : if_icmp.holds .le x y = decide (x.toInt ≤ y.toInt) := by simp [if_icmp.holds, Int32.le_iff_toInt_le]
theorem own_i_gt (x y : Int32) : if_icmp.holds .gt x y = decide (x.toInt > y.toInt) := by simp [if_icmp.holds, Int32.lt_iff_toInt_lt]
theorem own_i_ge (x y : Int32) : if_icmp.holds .ge x y = decide (x.toInt ≥ y.toInt) := by simp [if_icmp.holds, Int32.le_iff_toInt_le]
theorem own_i_eq (x y : Int32) : if_icmp.holds .eq x y = decide (x.toInt = y.toInt) := by rw [Bool.eq_iff_iff]; simp [if_icmp.holds, Int32.toInt_inj]
theorem own_i_ne (x y : Int32) : if_icmp.holds .ne x y = decide (x.toInt ≠ y.toInt) := by rw [Bool.eq_iff_iff]; simp [if_icmp.holds, Int32.toInt_inj]
theorem own_z_lt (x : Int32) : ifCond.holds .lt x = decide (x.toInt < 0) := by simp [ifCond.holds, Int32.lt_iff_toInt_lt]
theorem own_z_le (x : Int32) : ifCond.holds .le x = decide (x.toInt ≤ 0) := by simp [ifCond.holds, Int32.le_iff_toInt_le]
theorem own_z_gt (x : Int32) : ifCond.holds .gt x = decide (x.toInt > 0) := by simp [ifCond.holds, Int32.lt_iff_toInt_lt]
theorem own_z_ge (x : Int32) : ifCond.holds .ge x = decide (x.toInt ≥ 0) := by simp [ifCond.holds, Int32.le_iff_toInt_le]
theorem own_z_eq (x : Int32) : ifCond.holds .eq x = decide (x.toInt = 0) := by rw [Bool.eq_iff_iff]; simp [ifCond.holds, ← Int32.toInt_inj]
theorem own_z_ne (x : Int32) : ifCond.holds .ne x = decide (x.toInt ≠ 0) := by rw [Bool.eq_iff_iff]; simp [ifCond.holds, ← Int32.toInt_inj]
theorem own_cmp (x y : Int64) : (XT.cmpL x y).toInt = if y.toInt < x.toInt then 1 else if x.toInt = y.toInt then 0 else -1 := by
  simp only [XT.cmpL, Int64.lt_iff_toInt_lt, ← Int64.toInt_inj]
  split
  · rfl
  · split <;> rfl
theorem own_l_lt (x y : Int64) : ifCond.holds .lt (XT.cmpL x y) = decide (x.toInt < y.toInt) := by
  rw [own_z_lt, own_cmp, decide_eq_decide]; split <;> (try split) <;> omega
theorem own_l_le (x y : Int64) : ifCond.holds .le (XT.cmpL x y) = decide (x.toInt ≤ y.toInt) := by
  rw [own_z_le, own_cmp, decide_eq_decide]; split <;> (try split) <;> omega
theorem own_l_gt (x y : Int64) : ifCond.holds .gt (XT.cmpL x y) = decide (x.toInt > y.toInt) := by
  rw [own_z_gt, own_cmp, decide_eq_decide]; split <;> (try split) <;> omega
theorem own_l_ge (x y : Int64) : ifCond.holds .ge (XT.cmpL x y) = decide (x.toInt ≥ y.toInt) := by
  rw [own_z_ge, own_cmp, decide_eq_decide]; split <;> (try split) <;> omega
theorem own_l_eq (x y : Int64) : ifCond.holds .eq (XT.cmpL x y) = decide (x.toInt = y.toInt) := by
  rw [own_z_eq, own_cmp, decide_eq_decide]; split <;> (try split) <;> omega
theorem own_l_ne (x y : Int64) : ifCond.holds .ne (XT.cmpL x y) = decide (x.toInt ≠ y.toInt) := by
  rw [own_z_ne, own_cmp, decide_eq_decide]; split <;> (try split) <;> omega
/-- a boolean as the int that the machine keeps -/
def own_b (P : Prop) [Decidable P] : Int32 := if P then 1 else 0
theorem own_b1 {P : Prop} [Decidable P] (h : P) : own_b P = 1 := if_pos h
theorem own_b0 {P : Prop} [Decidable P] (h : ¬ P) : own_b P = 0 := if_neg h
theorem own_bi (P : Prop) [Decidable P] : (own_b P).toInt = if P then 1 else 0 := by unfold own_b; split <;> rfl
theorem own_nb {P : Prop} [Decidable P] : nar .boolean (own_b P) = own_b P := by unfold own_b; split <;> rfl
theorem own_nB {x : Int32} : nar .byte (Int8.toInt32 (Int32.toInt8 x)) = Int8.toInt32 (Int32.toInt8 x) := by
  show Int8.toInt32 (Int32.toInt8 (Int8.toInt32 (Int32.toInt8 x))) = _
  simp
end Jvm.RoadKit
namespace Jvm.Pilot.@@N@@
open Jvm Jvm.ClassFile Sem Op Lib Jvm.Free Jvm.Stand Jvm.LawKit Jvm.RoadKit Bundle Jvm.Pilot.@@N@@.Jvm.D

theorem dD_0 : decode prog_20_method_11_code 0 = .ok (.iload_n 0, 1) := by decide +kernel
theorem dD_1 : decode prog_20_method_11_code 1 = .ok (.bipush 48, 2) := by decide +kernel
theorem dD_3 : decode prog_20_method_11_code 3 = .ok (.if_icmp .lt 13, 3) := by decide +kernel
theorem dD_6 : decode prog_20_method_11_code 6 = .ok (.iload_n 0, 1) := by decide +kernel
theorem dD_7 : decode prog_20_method_11_code 7 = .ok (.bipush 57, 2) := by decide +kernel
theorem dD_9 : decode prog_20_method_11_code 9 = .ok (.if_icmp .gt 7, 3) := by decide +kernel
theorem dD_12 : decode prog_20_method_11_code 12 = .ok (.iconst 1, 1) := by decide +kernel
theorem dD_13 : decode prog_20_method_11_code 13 = .ok (.goto 4, 3) := by decide +kernel
theorem dD_16 : decode prog_20_method_11_code 16 = .ok (.iconst 0, 1) := by decide +kernel
theorem dD_17 : decode prog_20_method_11_code 17 = .ok (.ireturn, 1) := by decide +kernel
theorem pn_D : plainName "com/example/triadex/triadex/NTriplesGrammar" = true := by first | (simp [plainName, overriddenIn]; done) | decide +kernel
theorem pd_D : parseMethodDescriptor "(I)Z" = some ⟨[.int], some .boolean⟩ := by decide +kernel
theorem ef_D (m : MethodId) (p1 : Int32) : entryFrame m #[(.int p1)] 1 = mkF m 0 #[.val (.int p1)] [] := by first | (simp [entryFrame, mkF, argsToLocals, Value.category]; done) | rfl
def QD (Z : State) (p1 : Int32) (h0 : Heap) (n0 : Nat) (v : Option Value) (h : Heap) (L : List Loc) : Prop := v = some (.int (own_b (48 ≤ Int32.toInt p1 ∧ Int32.toInt p1 ≤ 57))) ∧ Fr n0 L ∧ h = h0
set_option maxRecDepth 65536 in
set_option maxHeartbeats 40000000 in
theorem rmD (l : Launch) (Z : State) (a0 : Array Value) (hw : ∀ d ∈ tables_1, d.before a0 Z = true) (ws : List Jvm.Cond) (p1 : Int32) (h0 : Heap) (n0 : Nat) (Z0 : n0 ≤ h0.size) :
    MetFree l (⟨"com/example/triadex/triadex/NTriplesGrammar", "isAsciiDigit", "(I)Z"⟩ : MethodName) (head1 (Jvm.Cond.code (⟨"com/example/triadex/triadex/NTriplesGrammar", "isAsciiDigit", "(I)Z"⟩ : MethodName) prog_20_method_11_code 1 (some .boolean) :: ws) ({ frames := 0, cells := 0, slots := 0, locals := 0 } : Room)) (fun a U => a = #[(.int p1)] ∧ Z.Warmed39 U.vm ∧ U.heap = h0) (fun _ _ _ _ _ => True) (fun _ U o U' => ∃ v L, o = .returned v ∧ QD Z p1 h0 n0 v U'.heap L ∧ FrameEnd U o U' L ({ frames := 0, cells := 0, slots := 0, locals := 0 } : Room).cells ({ frames := 0, cells := 0, slots := 0, locals := 0 } : Room).slots) := by
  refine MetFree.of_bodySF (plainFor_of_name pn_D) hisR ?_
  intro p e s m args below meth c s₁ Bd hml0 hP hK
  obtain ⟨rfl, hZ, hh⟩ := hP
  have hx := Bd.exec
  have hby := Bd.bytes
  have hml : c.maxLocals = 1 := hml0
  have hown : s.vm.findClass "com/example/triadex/triadex/NTriplesGrammar" = some m.cls := findClass_of_methodNamed Bd.named
  have hnm := (name_of_methodNamed Bd.named Bd.method).1
  have X0 : Stand p l e ({ frames := 0, cells := 0, slots := 0, locals := 0 } : Room) s m #[(.int p1)] below meth c s₁ [] 0 0 := Stand.of_body Bd
  have e0 : s₁.heap = h0 := by rw [← hh, Bd.state]; rfl
  have N0 := Fr.nil n0
  show own_Go p.tables e below (fun t o => ∃ v L, o = .returned v ∧ QD Z p1 h0 n0 v t.heap L ∧ FrameEnd s o t L ({ frames := 0, cells := 0, slots := 0, locals := 0 } : Room).cells ({ frames := 0, cells := 0, slots := 0, locals := 0 } : Room).slots) (s₁.setTop (entryFrame m #[(.int p1)] 1))
  rw [ef_D]
  show own_Go p.tables e below _ (s₁.setTop (mkF m 0 #[.val (.int p1)] []))
  refine own_st (S' := s₁.setTop (mkF m 1 #[.val (.int p1)] [(.int p1)])) (fun _ k => XS.iloadN X0.here hx rfl (hb hby dD_0) rfl k) ?_
  refine own_st (S' := s₁.setTop (mkF m 3 #[.val (.int p1)] [(.int (48 : Int32)), (.int p1)])) (fun _ k => XS.bipush X0.here hx rfl (hb hby dD_1) k) ?_
  by_cases hc3 : Int32.toInt p1 < 48
  · skip
    refine own_st (S' := s₁.setTop (mkF m 16 #[.val (.int p1)] [])) (fun _ k => XS.icmpYes X0.here hx rfl (pc0 := 3) (pc' := 16) rfl (hb hby dD_3) rfl ((own_i_lt _ _).trans (decide_eq_true (p := Int32.toInt p1 < 48) (hc3))) (by decide) (by decide) k) ?_
    refine own_st (S' := s₁.setTop (mkF m 17 #[.val (.int p1)] [(.int (0 : Int32))])) (fun _ k => XS.iconst X0.here hx rfl (hb hby dD_16) k) ?_
    have tq101 : (0 : Int32) = (own_b (48 ≤ Int32.toInt p1 ∧ Int32.toInt p1 ≤ 57)) := (own_b0 (by omega)).symm
    refine own_cv (congrArg (fun z => s₁.setTop (mkF m 17 #[.val (.int p1)] [(.int z)])) tq101) ?_
    show own_Go p.tables e below _ (s₁.setTop (mkF m 17 #[.val (.int p1)] [(.int (own_b (48 ≤ Int32.toInt p1 ∧ Int32.toInt p1 ≤ 57)))]))
    refine own_end X0 (Q := (QD Z p1 h0 n0)) (some (.int (own_b (48 ≤ Int32.toInt p1 ∧ Int32.toInt p1 ≤ 57)))) Bd.notSynchronized (fun h => by rw [Bd.returns] at h; cases h) (fun fs hr => retN X0 hx (t := .boolean) Bd.returns (by simp) (hb hby dD_17) (by rw [own_nb]; exact hr)) ?_ (by decide) (by decide)
    rw [e0]
    exact ⟨rfl, N0, rfl⟩
  · skip
    refine own_st (S' := s₁.setTop (mkF m 6 #[.val (.int p1)] [])) (fun _ k => XS.icmpNo X0.here hx rfl (hb hby dD_3) rfl ((own_i_lt _ _).trans (decide_eq_false (p := Int32.toInt p1 < 48) (hc3))) k) ?_
    refine own_st (S' := s₁.setTop (mkF m 7 #[.val (.int p1)] [(.int p1)])) (fun _ k => XS.iloadN X0.here hx rfl (hb hby dD_6) rfl k) ?_
    refine own_st (S' := s₁.setTop (mkF m 9 #[.val (.int p1)] [(.int (57 : Int32)), (.int p1)])) (fun _ k => XS.bipush X0.here hx rfl (hb hby dD_7) k) ?_
    by_cases hc9 : Int32.toInt p1 > 57
    · skip
      refine own_st (S' := s₁.setTop (mkF m 16 #[.val (.int p1)] [])) (fun _ k => XS.icmpYes X0.here hx rfl (pc0 := 9) (pc' := 16) rfl (hb hby dD_9) rfl ((own_i_gt _ _).trans (decide_eq_true (p := Int32.toInt p1 > 57) (hc9))) (by decide) (by decide) k) ?_
      refine own_st (S' := s₁.setTop (mkF m 17 #[.val (.int p1)] [(.int (0 : Int32))])) (fun _ k => XS.iconst X0.here hx rfl (hb hby dD_16) k) ?_
      have tq102 : (0 : Int32) = (own_b (48 ≤ Int32.toInt p1 ∧ Int32.toInt p1 ≤ 57)) := (own_b0 (by omega)).symm
      refine own_cv (congrArg (fun z => s₁.setTop (mkF m 17 #[.val (.int p1)] [(.int z)])) tq102) ?_
      show own_Go p.tables e below _ (s₁.setTop (mkF m 17 #[.val (.int p1)] [(.int (own_b (48 ≤ Int32.toInt p1 ∧ Int32.toInt p1 ≤ 57)))]))
      refine own_end X0 (Q := (QD Z p1 h0 n0)) (some (.int (own_b (48 ≤ Int32.toInt p1 ∧ Int32.toInt p1 ≤ 57)))) Bd.notSynchronized (fun h => by rw [Bd.returns] at h; cases h) (fun fs hr => retN X0 hx (t := .boolean) Bd.returns (by simp) (hb hby dD_17) (by rw [own_nb]; exact hr)) ?_ (by decide) (by decide)
      rw [e0]
      exact ⟨rfl, N0, rfl⟩
    · skip
      refine own_st (S' := s₁.setTop (mkF m 12 #[.val (.int p1)] [])) (fun _ k => XS.icmpNo X0.here hx rfl (hb hby dD_9) rfl ((own_i_gt _ _).trans (decide_eq_false (p := Int32.toInt p1 > 57) (hc9))) k) ?_
      refine own_st (S' := s₁.setTop (mkF m 13 #[.val (.int p1)] [(.int (1 : Int32))])) (fun _ k => XS.iconst X0.here hx rfl (hb hby dD_12) k) ?_
      refine own_st (S' := s₁.setTop (mkF m 17 #[.val (.int p1)] [(.int (1 : Int32))])) (fun _ k => XS.goto X0.here hx rfl (pc0 := 13) (pc' := 17) rfl (hb hby dD_13) (by decide) (by decide) k) ?_
      have tq103 : (1 : Int32) = (own_b (48 ≤ Int32.toInt p1 ∧ Int32.toInt p1 ≤ 57)) := (own_b1 (by omega)).symm
      refine own_cv (congrArg (fun z => s₁.setTop (mkF m 17 #[.val (.int p1)] [(.int z)])) tq103) ?_
      show own_Go p.tables e below _ (s₁.setTop (mkF m 17 #[.val (.int p1)] [(.int (own_b (48 ≤ Int32.toInt p1 ∧ Int32.toInt p1 ≤ 57)))]))
      refine own_end X0 (Q := (QD Z p1 h0 n0)) (some (.int (own_b (48 ≤ Int32.toInt p1 ∧ Int32.toInt p1 ≤ 57)))) Bd.notSynchronized (fun h => by rw [Bd.returns] at h; cases h) (fun fs hr => retN X0 hx (t := .boolean) Bd.returns (by simp) (hb hby dD_17) (by rw [own_nb]; exact hr)) ?_ (by decide) (by decide)
      rw [e0]
      exact ⟨rfl, N0, rfl⟩
theorem dC_0 : decode method_3_code 0 = .ok (.iload_n 0, 1) := by decide +kernel
theorem dC_1 : decode method_3_code 1 = .ok (.bipush 48, 2) := by decide +kernel
theorem dC_3 : decode method_3_code 3 = .ok (.if_icmp .eq 57, 3) := by decide +kernel
theorem dC_6 : decode method_3_code 6 = .ok (.iload_n 0, 1) := by decide +kernel
theorem dC_7 : decode method_3_code 7 = .ok (.bipush 49, 2) := by decide +kernel
theorem dC_9 : decode method_3_code 9 = .ok (.if_icmp .eq 51, 3) := by decide +kernel
theorem dC_12 : decode method_3_code 12 = .ok (.iload_n 0, 1) := by decide +kernel
theorem dC_13 : decode method_3_code 13 = .ok (.bipush 50, 2) := by decide +kernel
theorem dC_15 : decode method_3_code 15 = .ok (.if_icmp .eq 45, 3) := by decide +kernel
theorem dC_18 : decode method_3_code 18 = .ok (.iload_n 0, 1) := by decide +kernel
theorem dC_19 : decode method_3_code 19 = .ok (.bipush 51, 2) := by decide +kernel
theorem dC_21 : decode method_3_code 21 = .ok (.if_icmp .eq 39, 3) := by decide +kernel
theorem dC_24 : decode method_3_code 24 = .ok (.iload_n 0, 1) := by decide +kernel
theorem dC_25 : decode method_3_code 25 = .ok (.bipush 52, 2) := by decide +kernel
theorem dC_27 : decode method_3_code 27 = .ok (.if_icmp .eq 33, 3) := by decide +kernel
theorem dC_30 : decode method_3_code 30 = .ok (.iload_n 0, 1) := by decide +kernel
theorem dC_31 : decode method_3_code 31 = .ok (.bipush 53, 2) := by decide +kernel
theorem dC_33 : decode method_3_code 33 = .ok (.if_icmp .eq 27, 3) := by decide +kernel
theorem dC_36 : decode method_3_code 36 = .ok (.iload_n 0, 1) := by decide +kernel
theorem dC_37 : decode method_3_code 37 = .ok (.bipush 54, 2) := by decide +kernel
theorem dC_39 : decode method_3_code 39 = .ok (.if_icmp .eq 21, 3) := by decide +kernel
theorem dC_42 : decode method_3_code 42 = .ok (.iload_n 0, 1) := by decide +kernel
theorem dC_43 : decode method_3_code 43 = .ok (.bipush 55, 2) := by decide +kernel
theorem dC_45 : decode method_3_code 45 = .ok (.if_icmp .eq 15, 3) := by decide +kernel
theorem dC_48 : decode method_3_code 48 = .ok (.iload_n 0, 1) := by decide +kernel
theorem dC_49 : decode method_3_code 49 = .ok (.bipush 56, 2) := by decide +kernel
theorem dC_51 : decode method_3_code 51 = .ok (.if_icmp .eq 9, 3) := by decide +kernel
theorem dC_54 : decode method_3_code 54 = .ok (.iload_n 0, 1) := by decide +kernel
theorem dC_55 : decode method_3_code 55 = .ok (.bipush 57, 2) := by decide +kernel
theorem dC_57 : decode method_3_code 57 = .ok (.if_icmp .ne 7, 3) := by decide +kernel
theorem dC_60 : decode method_3_code 60 = .ok (.iconst 1, 1) := by decide +kernel
theorem dC_61 : decode method_3_code 61 = .ok (.goto 4, 3) := by decide +kernel
theorem dC_64 : decode method_3_code 64 = .ok (.iconst 0, 1) := by decide +kernel
theorem dC_65 : decode method_3_code 65 = .ok (.istore_n 1, 1) := by decide +kernel
theorem dC_66 : decode method_3_code 66 = .ok (.iload_n 0, 1) := by decide +kernel
theorem dC_67 : decode method_3_code 67 = .ok (.invokestatic 14, 3) := by decide +kernel
theorem dC_70 : decode method_3_code 70 = .ok (.iload_n 1, 1) := by decide +kernel
theorem dC_71 : decode method_3_code 71 = .ok (.if_icmp .ne 7, 3) := by decide +kernel
theorem dC_74 : decode method_3_code 74 = .ok (.iconst 1, 1) := by decide +kernel
theorem dC_75 : decode method_3_code 75 = .ok (.goto 4, 3) := by decide +kernel
theorem dC_78 : decode method_3_code 78 = .ok (.iconst 0, 1) := by decide +kernel
theorem dC_79 : decode method_3_code 79 = .ok (.ireturn, 1) := by decide +kernel
theorem pn_C : plainName "com/example/triadex/triadex/NTriplesGrammarIsAsciiDigitPinLaw" = true := by first | (simp [plainName, overriddenIn]; done) | decide +kernel
theorem pd_C : parseMethodDescriptor "(I)Z" = some ⟨[.int], some .boolean⟩ := by decide +kernel
theorem ef_C (m : MethodId) (p1 : Int32) : entryFrame m #[(.int p1)] 2 = mkF m 0 #[.val (.int p1), .unset] [] := by first | (simp [entryFrame, mkF, argsToLocals, Value.category]; done) | rfl
def QC (Z : State) (p1 : Int32) (h0 : Heap) (n0 : Nat) (v : Option Value) (h : Heap) (L : List Loc) : Prop := v = some (.int 1) ∧ Fr n0 L ∧ h = h0
set_option maxRecDepth 65536 in
set_option maxHeartbeats 40000000 in
theorem rmC (l : Launch) (Z : State) (a0 : Array Value) (hw : ∀ d ∈ tables_1, d.before a0 Z = true) (ws : List Jvm.Cond) (p1 : Int32) (h0 : Heap) (n0 : Nat) (Z0 : n0 ≤ h0.size) :
    MetFree l (⟨"com/example/triadex/triadex/NTriplesGrammarIsAsciiDigitPinLaw", "check", "(I)Z"⟩ : MethodName) (head1 (Jvm.Cond.code (⟨"com/example/triadex/triadex/NTriplesGrammarIsAsciiDigitPinLaw", "check", "(I)Z"⟩ : MethodName) method_3_code 2 (some .boolean) :: ws) ({ frames := 1, cells := 0, slots := 0, locals := 12 } : Room)) (fun a U => a = #[(.int p1)] ∧ Z.Warmed39 U.vm ∧ U.heap = h0) (fun _ _ _ _ _ => True) (fun _ U o U' => ∃ v L, o = .returned v ∧ QC Z p1 h0 n0 v U'.heap L ∧ FrameEnd U o U' L ({ frames := 1, cells := 0, slots := 0, locals := 12 } : Room).cells ({ frames := 1, cells := 0, slots := 0, locals := 12 } : Room).slots) := by
  refine MetFree.of_bodySF (plainFor_of_name pn_C) hisR ?_
  intro p e s m args below meth c s₁ Bd hml0 hP hK
  obtain ⟨rfl, hZ, hh⟩ := hP
  have hx := Bd.exec
  have hby := Bd.bytes
  have hml : c.maxLocals = 2 := hml0
  have hown : s.vm.findClass "com/example/triadex/triadex/NTriplesGrammarIsAsciiDigitPinLaw" = some m.cls := findClass_of_methodNamed Bd.named
  have hnm := (name_of_methodNamed Bd.named Bd.method).1
  have X0 : Stand p l e ({ frames := 1, cells := 0, slots := 0, locals := 12 } : Room) s m #[(.int p1)] below meth c s₁ [] 0 0 := Stand.of_body Bd
  have e0 : s₁.heap = h0 := by rw [← hh, Bd.state]; rfl
  have N0 := Fr.nil n0
  show own_Go p.tables e below (fun t o => ∃ v L, o = .returned v ∧ QC Z p1 h0 n0 v t.heap L ∧ FrameEnd s o t L ({ frames := 1, cells := 0, slots := 0, locals := 12 } : Room).cells ({ frames := 1, cells := 0, slots := 0, locals := 12 } : Room).slots) (s₁.setTop (entryFrame m #[(.int p1)] 2))
  rw [ef_C]
  show own_Go p.tables e below _ (s₁.setTop (mkF m 0 #[.val (.int p1), .unset] []))
  have seg : ∀ P : State → Outcome → Prop, own_Go p.tables e below P (s₁.setTop (mkF m 65 #[.val (.int p1), .unset] [(.int (own_b (48 ≤ Int32.toInt p1 ∧ Int32.toInt p1 ≤ 57)))])) → own_Go p.tables e below P (s₁.setTop (mkF m 0 #[.val (.int p1), .unset] [])) := by
    intro P kk
    refine own_st (S' := s₁.setTop (mkF m 1 #[.val (.int p1), .unset] [(.int p1)])) (fun _ k => XS.iloadN X0.here hx rfl (hb hby dC_0) rfl k) ?_
    refine own_st (S' := s₁.setTop (mkF m 3 #[.val (.int p1), .unset] [(.int (48 : Int32)), (.int p1)])) (fun _ k => XS.bipush X0.here hx rfl (hb hby dC_1) k) ?_
    by_cases hc3 : Int32.toInt p1 = 48
    · skip
      refine own_st (S' := s₁.setTop (mkF m 60 #[.val (.int p1), .unset] [])) (fun _ k => XS.icmpYes X0.here hx rfl (pc0 := 3) (pc' := 60) rfl (hb hby dC_3) rfl ((own_i_eq _ _).trans (decide_eq_true (p := Int32.toInt p1 = 48) (hc3))) (by decide) (by decide) k) ?_
      refine own_st (S' := s₁.setTop (mkF m 61 #[.val (.int p1), .unset] [(.int (1 : Int32))])) (fun _ k => XS.iconst X0.here hx rfl (hb hby dC_60) k) ?_
      refine own_st (S' := s₁.setTop (mkF m 65 #[.val (.int p1), .unset] [(.int (1 : Int32))])) (fun _ k => XS.goto X0.here hx rfl (pc0 := 61) (pc' := 65) rfl (hb hby dC_61) (by decide) (by decide) k) ?_
      have tq101 : (1 : Int32) = (own_b (48 ≤ Int32.toInt p1 ∧ Int32.toInt p1 ≤ 57)) := (own_b1 (by omega)).symm
      refine own_cv (congrArg (fun z => s₁.setTop (mkF m 65 #[.val (.int p1), .unset] [(.int z)])) tq101) ?_
      show own_Go p.tables e below _ (s₁.setTop (mkF m 65 #[.val (.int p1), .unset] [(.int (own_b (48 ≤ Int32.toInt p1 ∧ Int32.toInt p1 ≤ 57)))]))
      exact kk
    · skip
      refine own_st (S' := s₁.setTop (mkF m 6 #[.val (.int p1), .unset] [])) (fun _ k => XS.icmpNo X0.here hx rfl (hb hby dC_3) rfl ((own_i_eq _ _).trans (decide_eq_false (p := Int32.toInt p1 = 48) (hc3))) k) ?_
      refine own_st (S' := s₁.setTop (mkF m 7 #[.val (.int p1), .unset] [(.int p1)])) (fun _ k => XS.iloadN X0.here hx rfl (hb hby dC_6) rfl k) ?_
      refine own_st (S' := s₁.setTop (mkF m 9 #[.val (.int p1), .unset] [(.int (49 : Int32)), (.int p1)])) (fun _ k => XS.bipush X0.here hx rfl (hb hby dC_7) k) ?_
      by_cases hc9 : Int32.toInt p1 = 49
      · skip
        refine own_st (S' := s₁.setTop (mkF m 60 #[.val (.int p1), .unset] [])) (fun _ k => XS.icmpYes X0.here hx rfl (pc0 := 9) (pc' := 60) rfl (hb hby dC_9) rfl ((own_i_eq _ _).trans (decide_eq_true (p := Int32.toInt p1 = 49) (hc9))) (by decide) (by decide) k) ?_
        refine own_st (S' := s₁.setTop (mkF m 61 #[.val (.int p1), .unset] [(.int (1 : Int32))])) (fun _ k => XS.iconst X0.here hx rfl (hb hby dC_60) k) ?_
        refine own_st (S' := s₁.setTop (mkF m 65 #[.val (.int p1), .unset] [(.int (1 : Int32))])) (fun _ k => XS.goto X0.here hx rfl (pc0 := 61) (pc' := 65) rfl (hb hby dC_61) (by decide) (by decide) k) ?_
        have tq102 : (1 : Int32) = (own_b (48 ≤ Int32.toInt p1 ∧ Int32.toInt p1 ≤ 57)) := (own_b1 (by omega)).symm
        refine own_cv (congrArg (fun z => s₁.setTop (mkF m 65 #[.val (.int p1), .unset] [(.int z)])) tq102) ?_
        show own_Go p.tables e below _ (s₁.setTop (mkF m 65 #[.val (.int p1), .unset] [(.int (own_b (48 ≤ Int32.toInt p1 ∧ Int32.toInt p1 ≤ 57)))]))
        exact kk
      · skip
        refine own_st (S' := s₁.setTop (mkF m 12 #[.val (.int p1), .unset] [])) (fun _ k => XS.icmpNo X0.here hx rfl (hb hby dC_9) rfl ((own_i_eq _ _).trans (decide_eq_false (p := Int32.toInt p1 = 49) (hc9))) k) ?_
        refine own_st (S' := s₁.setTop (mkF m 13 #[.val (.int p1), .unset] [(.int p1)])) (fun _ k => XS.iloadN X0.here hx rfl (hb hby dC_12) rfl k) ?_
        refine own_st (S' := s₁.setTop (mkF m 15 #[.val (.int p1), .unset] [(.int (50 : Int32)), (.int p1)])) (fun _ k => XS.bipush X0.here hx rfl (hb hby dC_13) k) ?_
        by_cases hc15 : Int32.toInt p1 = 50
        · skip
          refine own_st (S' := s₁.setTop (mkF m 60 #[.val (.int p1), .unset] [])) (fun _ k => XS.icmpYes X0.here hx rfl (pc0 := 15) (pc' := 60) rfl (hb hby dC_15) rfl ((own_i_eq _ _).trans (decide_eq_true (p := Int32.toInt p1 = 50) (hc15))) (by decide) (by decide) k) ?_
          refine own_st (S' := s₁.setTop (mkF m 61 #[.val (.int p1), .unset] [(.int (1 : Int32))])) (fun _ k => XS.iconst X0.here hx rfl (hb hby dC_60) k) ?_
          refine own_st (S' := s₁.setTop (mkF m 65 #[.val (.int p1), .unset] [(.int (1 : Int32))])) (fun _ k => XS.goto X0.here hx rfl (pc0 := 61) (pc' := 65) rfl (hb hby dC_61) (by decide) (by decide) k) ?_
          have tq103 : (1 : Int32) = (own_b (48 ≤ Int32.toInt p1 ∧ Int32.toInt p1 ≤ 57)) := (own_b1 (by omega)).symm
          refine own_cv (congrArg (fun z => s₁.setTop (mkF m 65 #[.val (.int p1), .unset] [(.int z)])) tq103) ?_
          show own_Go p.tables e below _ (s₁.setTop (mkF m 65 #[.val (.int p1), .unset] [(.int (own_b (48 ≤ Int32.toInt p1 ∧ Int32.toInt p1 ≤ 57)))]))
          exact kk
        · skip
          refine own_st (S' := s₁.setTop (mkF m 18 #[.val (.int p1), .unset] [])) (fun _ k => XS.icmpNo X0.here hx rfl (hb hby dC_15) rfl ((own_i_eq _ _).trans (decide_eq_false (p := Int32.toInt p1 = 50) (hc15))) k) ?_
          refine own_st (S' := s₁.setTop (mkF m 19 #[.val (.int p1), .unset] [(.int p1)])) (fun _ k => XS.iloadN X0.here hx rfl (hb hby dC_18) rfl k) ?_
          refine own_st (S' := s₁.setTop (mkF m 21 #[.val (.int p1), .unset] [(.int (51 : Int32)), (.int p1)])) (fun _ k => XS.bipush X0.here hx rfl (hb hby dC_19) k) ?_
          by_cases hc21 : Int32.toInt p1 = 51
          · skip
            refine own_st (S' := s₁.setTop (mkF m 60 #[.val (.int p1), .unset] [])) (fun _ k => XS.icmpYes X0.here hx rfl (pc0 := 21) (pc' := 60) rfl (hb hby dC_21) rfl ((own_i_eq _ _).trans (decide_eq_true (p := Int32.toInt p1 = 51) (hc21))) (by decide) (by decide) k) ?_
            refine own_st (S' := s₁.setTop (mkF m 61 #[.val (.int p1), .unset] [(.int (1 : Int32))])) (fun _ k => XS.iconst X0.here hx rfl (hb hby dC_60) k) ?_
            refine own_st (S' := s₁.setTop (mkF m 65 #[.val (.int p1), .unset] [(.int (1 : Int32))])) (fun _ k => XS.goto X0.here hx rfl (pc0 := 61) (pc' := 65) rfl (hb hby dC_61) (by decide) (by decide) k) ?_
            have tq104 : (1 : Int32) = (own_b (48 ≤ Int32.toInt p1 ∧ Int32.toInt p1 ≤ 57)) := (own_b1 (by omega)).symm
            refine own_cv (congrArg (fun z => s₁.setTop (mkF m 65 #[.val (.int p1), .unset] [(.int z)])) tq104) ?_
            show own_Go p.tables e below _ (s₁.setTop (mkF m 65 #[.val (.int p1), .unset] [(.int (own_b (48 ≤ Int32.toInt p1 ∧ Int32.toInt p1 ≤ 57)))]))
            exact kk
          · skip
            refine own_st (S' := s₁.setTop (mkF m 24 #[.val (.int p1), .unset] [])) (fun _ k => XS.icmpNo X0.here hx rfl (hb hby dC_21) rfl ((own_i_eq _ _).trans (decide_eq_false (p := Int32.toInt p1 = 51) (hc21))) k) ?_
            refine own_st (S' := s₁.setTop (mkF m 25 #[.val (.int p1), .unset] [(.int p1)])) (fun _ k => XS.iloadN X0.here hx rfl (hb hby dC_24) rfl k) ?_
            refine own_st (S' := s₁.setTop (mkF m 27 #[.val (.int p1), .unset] [(.int (52 : Int32)), (.int p1)])) (fun _ k => XS.bipush X0.here hx rfl (hb hby dC_25) k) ?_
            by_cases hc27 : Int32.toInt p1 = 52
            · skip
              refine own_st (S' := s₁.setTop (mkF m 60 #[.val (.int p1), .unset] [])) (fun _ k => XS.icmpYes X0.here hx rfl (pc0 := 27) (pc' := 60) rfl (hb hby dC_27) rfl ((own_i_eq _ _).trans (decide_eq_true (p := Int32.toInt p1 = 52) (hc27))) (by decide) (by decide) k) ?_
              refine own_st (S' := s₁.setTop (mkF m 61 #[.val (.int p1), .unset] [(.int (1 : Int32))])) (fun _ k => XS.iconst X0.here hx rfl (hb hby dC_60) k) ?_
              refine own_st (S' := s₁.setTop (mkF m 65 #[.val (.int p1), .unset] [(.int (1 : Int32))])) (fun _ k => XS.goto X0.here hx rfl (pc0 := 61) (pc' := 65) rfl (hb hby dC_61) (by decide) (by decide) k) ?_
              have tq105 : (1 : Int32) = (own_b (48 ≤ Int32.toInt p1 ∧ Int32.toInt p1 ≤ 57)) := (own_b1 (by omega)).symm
              refine own_cv (congrArg (fun z => s₁.setTop (mkF m 65 #[.val (.int p1), .unset] [(.int z)])) tq105) ?_
              show own_Go p.tables e below _ (s₁.setTop (mkF m 65 #[.val (.int p1), .unset] [(.int (own_b (48 ≤ Int32.toInt p1 ∧ Int32.toInt p1 ≤ 57)))]))
              exact kk
            · skip
              refine own_st (S' := s₁.setTop (mkF m 30 #[.val (.int p1), .unset] [])) (fun _ k => XS.icmpNo X0.here hx rfl (hb hby dC_27) rfl ((own_i_eq _ _).trans (decide_eq_false (p := Int32.toInt p1 = 52) (hc27))) k) ?_
              refine own_st (S' := s₁.setTop (mkF m 31 #[.val (.int p1), .unset] [(.int p1)])) (fun _ k => XS.iloadN X0.here hx rfl (hb hby dC_30) rfl k) ?_
              refine own_st (S' := s₁.setTop (mkF m 33 #[.val (.int p1), .unset] [(.int (53 : Int32)), (.int p1)])) (fun _ k => XS.bipush X0.here hx rfl (hb hby dC_31) k) ?_
              by_cases hc33 : Int32.toInt p1 = 53
              · skip
                refine own_st (S' := s₁.setTop (mkF m 60 #[.val (.int p1), .unset] [])) (fun _ k => XS.icmpYes X0.here hx rfl (pc0 := 33) (pc' := 60) rfl (hb hby dC_33) rfl ((own_i_eq _ _).trans (decide_eq_true (p := Int32.toInt p1 = 53) (hc33))) (by decide) (by decide) k) ?_
                refine own_st (S' := s₁.setTop (mkF m 61 #[.val (.int p1), .unset] [(.int (1 : Int32))])) (fun _ k => XS.iconst X0.here hx rfl (hb hby dC_60) k) ?_
                refine own_st (S' := s₁.setTop (mkF m 65 #[.val (.int p1), .unset] [(.int (1 : Int32))])) (fun _ k => XS.goto X0.here hx rfl (pc0 := 61) (pc' := 65) rfl (hb hby dC_61) (by decide) (by decide) k) ?_
                have tq106 : (1 : Int32) = (own_b (48 ≤ Int32.toInt p1 ∧ Int32.toInt p1 ≤ 57)) := (own_b1 (by omega)).symm
                refine own_cv (congrArg (fun z => s₁.setTop (mkF m 65 #[.val (.int p1), .unset] [(.int z)])) tq106) ?_
                show own_Go p.tables e below _ (s₁.setTop (mkF m 65 #[.val (.int p1), .unset] [(.int (own_b (48 ≤ Int32.toInt p1 ∧ Int32.toInt p1 ≤ 57)))]))
                exact kk
              · skip
                refine own_st (S' := s₁.setTop (mkF m 36 #[.val (.int p1), .unset] [])) (fun _ k => XS.icmpNo X0.here hx rfl (hb hby dC_33) rfl ((own_i_eq _ _).trans (decide_eq_false (p := Int32.toInt p1 = 53) (hc33))) k) ?_
                refine own_st (S' := s₁.setTop (mkF m 37 #[.val (.int p1), .unset] [(.int p1)])) (fun _ k => XS.iloadN X0.here hx rfl (hb hby dC_36) rfl k) ?_
                refine own_st (S' := s₁.setTop (mkF m 39 #[.val (.int p1), .unset] [(.int (54 : Int32)), (.int p1)])) (fun _ k => XS.bipush X0.here hx rfl (hb hby dC_37) k) ?_
                by_cases hc39 : Int32.toInt p1 = 54
                · skip
                  refine own_st (S' := s₁.setTop (mkF m 60 #[.val (.int p1), .unset] [])) (fun _ k => XS.icmpYes X0.here hx rfl (pc0 := 39) (pc' := 60) rfl (hb hby dC_39) rfl ((own_i_eq _ _).trans (decide_eq_true (p := Int32.toInt p1 = 54) (hc39))) (by decide) (by decide) k) ?_
                  refine own_st (S' := s₁.setTop (mkF m 61 #[.val (.int p1), .unset] [(.int (1 : Int32))])) (fun _ k => XS.iconst X0.here hx rfl (hb hby dC_60) k) ?_
                  refine own_st (S' := s₁.setTop (mkF m 65 #[.val (.int p1), .unset] [(.int (1 : Int32))])) (fun _ k => XS.goto X0.here hx rfl (pc0 := 61) (pc' := 65) rfl (hb hby dC_61) (by decide) (by decide) k) ?_
                  have tq107 : (1 : Int32) = (own_b (48 ≤ Int32.toInt p1 ∧ Int32.toInt p1 ≤ 57)) := (own_b1 (by omega)).symm
                  refine own_cv (congrArg (fun z => s₁.setTop (mkF m 65 #[.val (.int p1), .unset] [(.int z)])) tq107) ?_
                  show own_Go p.tables e below _ (s₁.setTop (mkF m 65 #[.val (.int p1), .unset] [(.int (own_b (48 ≤ Int32.toInt p1 ∧ Int32.toInt p1 ≤ 57)))]))
                  exact kk
                · skip
                  refine own_st (S' := s₁.setTop (mkF m 42 #[.val (.int p1), .unset] [])) (fun _ k => XS.icmpNo X0.here hx rfl (hb hby dC_39) rfl ((own_i_eq _ _).trans (decide_eq_false (p := Int32.toInt p1 = 54) (hc39))) k) ?_
                  refine own_st (S' := s₁.setTop (mkF m 43 #[.val (.int p1), .unset] [(.int p1)])) (fun _ k => XS.iloadN X0.here hx rfl (hb hby dC_42) rfl k) ?_
                  refine own_st (S' := s₁.setTop (mkF m 45 #[.val (.int p1), .unset] [(.int (55 : Int32)), (.int p1)])) (fun _ k => XS.bipush X0.here hx rfl (hb hby dC_43) k) ?_
                  by_cases hc45 : Int32.toInt p1 = 55
                  · skip
                    refine own_st (S' := s₁.setTop (mkF m 60 #[.val (.int p1), .unset] [])) (fun _ k => XS.icmpYes X0.here hx rfl (pc0 := 45) (pc' := 60) rfl (hb hby dC_45) rfl ((own_i_eq _ _).trans (decide_eq_true (p := Int32.toInt p1 = 55) (hc45))) (by decide) (by decide) k) ?_
                    refine own_st (S' := s₁.setTop (mkF m 61 #[.val (.int p1), .unset] [(.int (1 : Int32))])) (fun _ k => XS.iconst X0.here hx rfl (hb hby dC_60) k) ?_
                    refine own_st (S' := s₁.setTop (mkF m 65 #[.val (.int p1), .unset] [(.int (1 : Int32))])) (fun _ k => XS.goto X0.here hx rfl (pc0 := 61) (pc' := 65) rfl (hb hby dC_61) (by decide) (by decide) k) ?_
                    have tq108 : (1 : Int32) = (own_b (48 ≤ Int32.toInt p1 ∧ Int32.toInt p1 ≤ 57)) := (own_b1 (by omega)).symm
                    refine own_cv (congrArg (fun z => s₁.setTop (mkF m 65 #[.val (.int p1), .unset] [(.int z)])) tq108) ?_
                    show own_Go p.tables e below _ (s₁.setTop (mkF m 65 #[.val (.int p1), .unset] [(.int (own_b (48 ≤ Int32.toInt p1 ∧ Int32.toInt p1 ≤ 57)))]))
                    exact kk
                  · skip
                    refine own_st (S' := s₁.setTop (mkF m 48 #[.val (.int p1), .unset] [])) (fun _ k => XS.icmpNo X0.here hx rfl (hb hby dC_45) rfl ((own_i_eq _ _).trans (decide_eq_false (p := Int32.toInt p1 = 55) (hc45))) k) ?_
                    refine own_st (S' := s₁.setTop (mkF m 49 #[.val (.int p1), .unset] [(.int p1)])) (fun _ k => XS.iloadN X0.here hx rfl (hb hby dC_48) rfl k) ?_
                    refine own_st (S' := s₁.setTop (mkF m 51 #[.val (.int p1), .unset] [(.int (56 : Int32)), (.int p1)])) (fun _ k => XS.bipush X0.here hx rfl (hb hby dC_49) k) ?_
                    by_cases hc51 : Int32.toInt p1 = 56
                    · skip
                      refine own_st (S' := s₁.setTop (mkF m 60 #[.val (.int p1), .unset] [])) (fun _ k => XS.icmpYes X0.here hx rfl (pc0 := 51) (pc' := 60) rfl (hb hby dC_51) rfl ((own_i_eq _ _).trans (decide_eq_true (p := Int32.toInt p1 = 56) (hc51))) (by decide) (by decide) k) ?_
                      refine own_st (S' := s₁.setTop (mkF m 61 #[.val (.int p1), .unset] [(.int (1 : Int32))])) (fun _ k => XS.iconst X0.here hx rfl (hb hby dC_60) k) ?_
                      refine own_st (S' := s₁.setTop (mkF m 65 #[.val (.int p1), .unset] [(.int (1 : Int32))])) (fun _ k => XS.goto X0.here hx rfl (pc0 := 61) (pc' := 65) rfl (hb hby dC_61) (by decide) (by decide) k) ?_
                      have tq109 : (1 : Int32) = (own_b (48 ≤ Int32.toInt p1 ∧ Int32.toInt p1 ≤ 57)) := (own_b1 (by omega)).symm
                      refine own_cv (congrArg (fun z => s₁.setTop (mkF m 65 #[.val (.int p1), .unset] [(.int z)])) tq109) ?_
                      show own_Go p.tables e below _ (s₁.setTop (mkF m 65 #[.val (.int p1), .unset] [(.int (own_b (48 ≤ Int32.toInt p1 ∧ Int32.toInt p1 ≤ 57)))]))
                      exact kk
                    · skip
                      refine own_st (S' := s₁.setTop (mkF m 54 #[.val (.int p1), .unset] [])) (fun _ k => XS.icmpNo X0.here hx rfl (hb hby dC_51) rfl ((own_i_eq _ _).trans (decide_eq_false (p := Int32.toInt p1 = 56) (hc51))) k) ?_
                      refine own_st (S' := s₁.setTop (mkF m 55 #[.val (.int p1), .unset] [(.int p1)])) (fun _ k => XS.iloadN X0.here hx rfl (hb hby dC_54) rfl k) ?_
                      refine own_st (S' := s₁.setTop (mkF m 57 #[.val (.int p1), .unset] [(.int (57 : Int32)), (.int p1)])) (fun _ k => XS.bipush X0.here hx rfl (hb hby dC_55) k) ?_
                      by_cases hc57 : Int32.toInt p1 ≠ 57
                      · skip
                        refine own_st (S' := s₁.setTop (mkF m 64 #[.val (.int p1), .unset] [])) (fun _ k => XS.icmpYes X0.here hx rfl (pc0 := 57) (pc' := 64) rfl (hb hby dC_57) rfl ((own_i_ne _ _).trans (decide_eq_true (p := Int32.toInt p1 ≠ 57) (hc57))) (by decide) (by decide) k) ?_
                        refine own_st (S' := s₁.setTop (mkF m 65 #[.val (.int p1), .unset] [(.int (0 : Int32))])) (fun _ k => XS.iconst X0.here hx rfl (hb hby dC_64) k) ?_
                        have tq110 : (0 : Int32) = (own_b (48 ≤ Int32.toInt p1 ∧ Int32.toInt p1 ≤ 57)) := (own_b0 (by omega)).symm
                        refine own_cv (congrArg (fun z => s₁.setTop (mkF m 65 #[.val (.int p1), .unset] [(.int z)])) tq110) ?_
                        show own_Go p.tables e below _ (s₁.setTop (mkF m 65 #[.val (.int p1), .unset] [(.int (own_b (48 ≤ Int32.toInt p1 ∧ Int32.toInt p1 ≤ 57)))]))
                        exact kk
                      · skip
                        refine own_st (S' := s₁.setTop (mkF m 60 #[.val (.int p1), .unset] [])) (fun _ k => XS.icmpNo X0.here hx rfl (hb hby dC_57) rfl ((own_i_ne _ _).trans (decide_eq_false (p := Int32.toInt p1 ≠ 57) (hc57))) k) ?_
                        refine own_st (S' := s₁.setTop (mkF m 61 #[.val (.int p1), .unset] [(.int (1 : Int32))])) (fun _ k => XS.iconst X0.here hx rfl (hb hby dC_60) k) ?_
                        refine own_st (S' := s₁.setTop (mkF m 65 #[.val (.int p1), .unset] [(.int (1 : Int32))])) (fun _ k => XS.goto X0.here hx rfl (pc0 := 61) (pc' := 65) rfl (hb hby dC_61) (by decide) (by decide) k) ?_
                        have tq111 : (1 : Int32) = (own_b (48 ≤ Int32.toInt p1 ∧ Int32.toInt p1 ≤ 57)) := (own_b1 (by omega)).symm
                        refine own_cv (congrArg (fun z => s₁.setTop (mkF m 65 #[.val (.int p1), .unset] [(.int z)])) tq111) ?_
                        show own_Go p.tables e below _ (s₁.setTop (mkF m 65 #[.val (.int p1), .unset] [(.int (own_b (48 ≤ Int32.toInt p1 ∧ Int32.toInt p1 ≤ 57)))]))
                        exact kk
  refine seg _ ?_
  refine own_st (S' := s₁.setTop (mkF m 66 #[.val (.int p1), .val (.int (own_b (48 ≤ Int32.toInt p1 ∧ Int32.toInt p1 ≤ 57)))] [])) (fun _ k => XS.istoreN X0.here hx rfl (hb hby dC_65) rfl (l' := #[.val (.int p1), .val (.int (own_b (48 ≤ Int32.toInt p1 ∧ Int32.toInt p1 ≤ 57)))]) rfl k) ?_
  refine own_st (S' := s₁.setTop (mkF m 67 #[.val (.int p1), .val (.int (own_b (48 ≤ Int32.toInt p1 ∧ Int32.toInt p1 ≤ 57)))] [(.int p1)])) (fun _ k => XS.iloadN X0.here hx rfl (hb hby dC_66) rfl k) ?_
  obtain ⟨_, _, ⟨T112, L112, k112, n112⟩, -, X112, ⟨Lc112, hQ112, l112, y112, z112⟩, st112⟩ := Jvm.LawKit.callS X0 hx (y := (⟨"com/example/triadex/triadex/NTriplesGrammar", "isAsciiDigit", "(I)Z"⟩ : MethodName)) hown (mvT hZ (hw _ (List.mem_of_getElem? (i := 5) rfl))) (mvT hZ (hw _ (List.mem_of_getElem? (i := 6) rfl))) (mvT hZ (hw _ (List.mem_of_getElem? (i := 7) rfl))) (mvT hZ (hw _ (List.mem_of_getElem? (i := 8) rfl))) (by decide) (backOf (W := 0) (rmD l Z a0 hw [] p1 h0 n0 Z0) hZ (hw _ (List.mem_of_getElem? (i := 8) rfl)) (hw _ (List.mem_of_getElem? (i := 7) rfl)) (by decide) (by decide)) (g := (mkF m 67 #[.val (.int p1), .val (.int (own_b (48 ≤ Int32.toInt p1 ∧ Int32.toInt p1 ≤ 57)))] [(.int p1)])) rfl (by rw [hml]; rfl) (argsL := [(.int p1)]) (rest := []) (lenOf pd_D rfl) rfl (by show 2 * 0 + _ ≤ _; exact Nat.le_of_eq rfl) (hb hby dC_67) (fun _ _ => ⟨rfl, e0, (by dsimp only [Pt.cells]; decide), (by dsimp only [Pt.slots]; decide)⟩)
  dsimp only [Pt.U, Pt.locs, Pt.cells, Pt.slots] at X112 l112 y112 z112 st112 hQ112
  subst l112 y112 z112
  obtain ⟨rfl, N112, hh112⟩ := hQ112
  refine own_st (S' := T112.setTop (mkF m 70 #[.val (.int p1), .val (.int (own_b (48 ≤ Int32.toInt p1 ∧ Int32.toInt p1 ≤ 57)))] [(.int (own_b (48 ≤ Int32.toInt p1 ∧ Int32.toInt p1 ≤ 57)))])) st112 ?_
  have N := Fr.app N0 N112
  refine own_st (S' := T112.setTop (mkF m 71 #[.val (.int p1), .val (.int (own_b (48 ≤ Int32.toInt p1 ∧ Int32.toInt p1 ≤ 57)))] [(.int (own_b (48 ≤ Int32.toInt p1 ∧ Int32.toInt p1 ≤ 57))), (.int (own_b (48 ≤ Int32.toInt p1 ∧ Int32.toInt p1 ≤ 57)))])) (fun _ k => XS.iloadN X112.here hx rfl (hb hby dC_70) rfl k) ?_
  refine own_st (S' := T112.setTop (mkF m 74 #[.val (.int p1), .val (.int (own_b (48 ≤ Int32.toInt p1 ∧ Int32.toInt p1 ≤ 57)))] [])) (fun _ k => XS.icmpNo X112.here hx rfl (hb hby dC_71) rfl ((own_i_ne _ _).trans (decide_eq_false (p := Int32.toInt (own_b (48 ≤ Int32.toInt p1 ∧ Int32.toInt p1 ≤ 57)) ≠ Int32.toInt (own_b (48 ≤ Int32.toInt p1 ∧ Int32.toInt p1 ≤ 57))) (fun h => h rfl))) k) ?_
  refine own_st (S' := T112.setTop (mkF m 75 #[.val (.int p1), .val (.int (own_b (48 ≤ Int32.toInt p1 ∧ Int32.toInt p1 ≤ 57)))] [(.int (1 : Int32))])) (fun _ k => XS.iconst X112.here hx rfl (hb hby dC_74) k) ?_
  refine own_st (S' := T112.setTop (mkF m 79 #[.val (.int p1), .val (.int (own_b (48 ≤ Int32.toInt p1 ∧ Int32.toInt p1 ≤ 57)))] [(.int (1 : Int32))])) (fun _ k => XS.goto X112.here hx rfl (pc0 := 75) (pc' := 79) rfl (hb hby dC_75) (by decide) (by decide) k) ?_
  refine own_end X112 (Q := (QC Z p1 h0 n0)) (some (.int (1 : Int32))) Bd.notSynchronized (fun h => by rw [Bd.returns] at h; cases h) (fun fs hr => retN X112 hx (t := .boolean) Bd.returns (by simp) (hb hby dC_79) hr) ?_ (by decide) (by decide)
  rw [hh112]
  exact ⟨rfl, N, rfl⟩
theorem pn_0 : plainName "com/example/triadex/triadex/NTriplesGrammarIsAsciiDigitPinLaw" = true := by first | (simp [plainName, overriddenIn]; done) | decide +kernel
theorem ef_0 (m : MethodId) (p1 : Int32) (p2 : Int32) : entryFrame m #[(.int p1), (.int p2)] maxLocals = mkF m 0 #[.val (.int p1), .val (.int p2), .unset] [] := by first | (simp [entryFrame, mkF, argsToLocals, Value.category, maxLocals]; done) | rfl
def Q0 (Z : State) (p1 : Int32) (p2 : Int32) (h0 : Heap) (n0 : Nat) (v : Option Value) (h : Heap) (L : List Loc) : Prop := v = some (.int 1) ∧ Fr n0 L
set_option maxRecDepth 65536 in
set_option maxHeartbeats 40000000 in
theorem rm0 (l : Launch) (Z : State) (a0 : Array Value) (hw : ∀ d ∈ tables_1, d.before a0 Z = true) (ws : List Jvm.Cond) (p1 : Int32) (p2 : Int32) (h0 : Heap) (n0 : Nat) (Z0 : n0 ≤ h0.size) :
    MetFree l x (head1 (Jvm.Cond.code x code maxLocals ret :: ws) room_1) (fun a U => a = #[(.int p1), (.int p2)] ∧ Z.Warmed39 U.vm ∧ U.heap = h0) (fun _ _ _ _ _ => True) (fun _ U o U' => ∃ v L, o = .returned v ∧ Q0 Z p1 p2 h0 n0 v U'.heap L ∧ FrameEnd U o U' L room_1.cells room_1.slots) := by
  refine MetFree.of_bodySF (plainFor_of_name pn_0) hisR ?_
  intro p e s m args below meth c s₁ Bd hml0 hP hK
  obtain ⟨rfl, hZ, hh⟩ := hP
  have hx := Bd.exec
  have hby := Bd.bytes
  have hml : c.maxLocals = 3 := hml0
  have hown : s.vm.findClass "com/example/triadex/triadex/NTriplesGrammarIsAsciiDigitPinLaw" = some m.cls := findClass_of_methodNamed Bd.named
  have hnm := (name_of_methodNamed Bd.named Bd.method).1
  have X0 : Stand p l e room_1 s m #[(.int p1), (.int p2)] below meth c s₁ [] 0 0 := Stand.of_body Bd
  have e0 : s₁.heap = h0 := by rw [← hh, Bd.state]; rfl
  have N0 := Fr.nil n0
  show own_Go p.tables e below (fun t o => ∃ v L, o = .returned v ∧ Q0 Z p1 p2 h0 n0 v t.heap L ∧ FrameEnd s o t L room_1.cells room_1.slots) (s₁.setTop (entryFrame m #[(.int p1), (.int p2)] maxLocals))
  rw [ef_0]
  show own_Go p.tables e below _ (s₁.setTop (mkF m 0 #[.val (.int p1), .val (.int p2), .unset] []))
  refine own_st (S' := s₁.setTop (mkF m 2 #[.val (.int p1), .val (.int p2), .unset] [(.int (43 : Int32))])) (fun _ k => XS.bipush X0.here hx rfl (hb hby at_0) k) ?_
  refine own_st (S' := s₁.setTop (mkF m 3 #[.val (.int p1), .val (.int p2), .unset] [(.int p2), (.int (43 : Int32))])) (fun _ k => XS.iloadN X0.here hx rfl (hb hby at_2) rfl k) ?_
  refine own_st (S' := s₁.setTop (mkF m 5 #[.val (.int p1), .val (.int p2), .unset] [(.int (2147483647 : Int32)), (.int p2), (.int (43 : Int32))])) (fun _ k => X0.ldcI hx hown (mvT hZ (hw _ (List.mem_of_getElem? (i := 0) rfl))) rfl (hb hby at_3) k) ?_
  refine own_st (S' := s₁.setTop (mkF m 6 #[.val (.int p1), .val (.int p2), .unset] [(.int (p2 &&& (2147483647 : Int32))), (.int (43 : Int32))])) (fun _ k => XS.iand X0.here hx rfl (hb hby at_5) rfl k) ?_
  refine own_st (S' := s₁.setTop (mkF m 8 #[.val (.int p1), .val (.int p2), .unset] [(.int (20 : Int32)), (.int (p2 &&& (2147483647 : Int32))), (.int (43 : Int32))])) (fun _ k => XS.bipush X0.here hx rfl (hb hby at_6) k) ?_
  refine own_st (S' := s₁.setTop (mkF m 9 #[.val (.int p1), .val (.int p2), .unset] [(.int ((p2 &&& (2147483647 : Int32)) % (20 : Int32))), (.int (43 : Int32))])) (fun _ k => iremM X0 hx rfl (hb hby at_8) rfl (by decide) k) ?_
  obtain ⟨r, hv_r⟩ : ∃ z : Int32, z = ((p2 &&& (2147483647 : Int32)) % (20 : Int32)) := ⟨_, rfl⟩
  refine own_cv (congrArg (fun z => s₁.setTop (mkF m 9 #[.val (.int p1), .val (.int p2), .unset] [(.int z), (.int (43 : Int32))])) hv_r.symm) ?_
  show own_Go p.tables e below _ (s₁.setTop (mkF m 9 #[.val (.int p1), .val (.int p2), .unset] [(.int r), (.int (43 : Int32))]))
  refine own_st (S' := s₁.setTop (mkF m 10 #[.val (.int p1), .val (.int p2), .unset] [(.int ((43 : Int32) + r))])) (fun _ k => XS.iadd X0.here hx rfl (hb hby at_9) rfl k) ?_
  refine own_st (S' := s₁.setTop (mkF m 11 #[.val (.int p1), .val (.int p2), .val (.int ((43 : Int32) + r))] [])) (fun _ k => XS.istoreN X0.here hx rfl (hb hby at_10) rfl (l' := #[.val (.int p1), .val (.int p2), .val (.int ((43 : Int32) + r))]) rfl k) ?_
  refine own_st (S' := s₁.setTop (mkF m 12 #[.val (.int p1), .val (.int p2), .val (.int ((43 : Int32) + r))] [(.int p1)])) (fun _ k => XS.iloadN X0.here hx rfl (hb hby at_11) rfl k) ?_
  obtain ⟨_, _, ⟨T101, L101, k101, n101⟩, -, X101, ⟨Lc101, hQ101, l101, y101, z101⟩, st101⟩ := Jvm.LawKit.callS X0 hx (y := (⟨"com/example/triadex/triadex/NTriplesGrammarIsAsciiDigitPinLaw", "check", "(I)Z"⟩ : MethodName)) hown (mvT hZ (hw _ (List.mem_of_getElem? (i := 1) rfl))) (mvT hZ (hw _ (List.mem_of_getElem? (i := 2) rfl))) (mvT hZ (hw _ (List.mem_of_getElem? (i := 3) rfl))) (mvT hZ (hw _ (List.mem_of_getElem? (i := 4) rfl))) (by decide) (backOf (W := 0) (rmC l Z a0 hw [] p1 h0 n0 Z0) hZ (hw _ (List.mem_of_getElem? (i := 4) rfl)) (hw _ (List.mem_of_getElem? (i := 3) rfl)) (by decide) (by decide)) (g := (mkF m 12 #[.val (.int p1), .val (.int p2), .val (.int ((43 : Int32) + r))] [(.int p1)])) rfl (by rw [hml]; rfl) (argsL := [(.int p1)]) (rest := []) (lenOf pd_C rfl) rfl (by show 2 * 0 + _ ≤ _; exact Nat.le_of_eq rfl) (hb hby at_12) (fun _ _ => ⟨rfl, e0, (by dsimp only [Pt.cells]; decide), (by dsimp only [Pt.slots]; decide)⟩)
  dsimp only [Pt.U, Pt.locs, Pt.cells, Pt.slots] at X101 l101 y101 z101 st101 hQ101
  subst l101 y101 z101
  obtain ⟨rfl, N101, hh101⟩ := hQ101
  refine own_st (S' := T101.setTop (mkF m 15 #[.val (.int p1), .val (.int p2), .val (.int ((43 : Int32) + r))] [(.int (1 : Int32))])) st101 ?_
  have N1 := Fr.app N0 N101
  refine own_st (S' := T101.setTop (mkF m 18 #[.val (.int p1), .val (.int p2), .val (.int ((43 : Int32) + r))] [])) (fun _ k => XS.ifNo X101.here hx rfl (hb hby at_15) rfl ((own_z_eq _).trans (decide_eq_false (p := 1 = 0) (by decide))) k) ?_
  refine own_st (S' := T101.setTop (mkF m 19 #[.val (.int p1), .val (.int p2), .val (.int ((43 : Int32) + r))] [(.int ((43 : Int32) + r))])) (fun _ k => XS.iloadN X101.here hx rfl (hb hby at_18) rfl k) ?_
  obtain ⟨_, _, ⟨T102, L102, k102, n102⟩, -, X102, ⟨Lc102, hQ102, l102, y102, z102⟩, st102⟩ := Jvm.LawKit.callS X101 hx (y := (⟨"com/example/triadex/triadex/NTriplesGrammarIsAsciiDigitPinLaw", "check", "(I)Z"⟩ : MethodName)) hown (mvT hZ (hw _ (List.mem_of_getElem? (i := 1) rfl))) (mvT hZ (hw _ (List.mem_of_getElem? (i := 2) rfl))) (mvT hZ (hw _ (List.mem_of_getElem? (i := 3) rfl))) (mvT hZ (hw _ (List.mem_of_getElem? (i := 4) rfl))) (by decide) (backOf (W := 0) (rmC l Z a0 hw [] ((43 : Int32) + r) h0 n0 Z0) hZ (hw _ (List.mem_of_getElem? (i := 4) rfl)) (hw _ (List.mem_of_getElem? (i := 3) rfl)) (by decide) (by decide)) (g := (mkF m 19 #[.val (.int p1), .val (.int p2), .val (.int ((43 : Int32) + r))] [(.int ((43 : Int32) + r))])) rfl (by rw [hml]; rfl) (argsL := [(.int ((43 : Int32) + r))]) (rest := []) (lenOf pd_C rfl) rfl (by show 2 * 0 + _ ≤ _; exact Nat.le_of_eq rfl) (hb hby at_19) (fun _ _ => ⟨rfl, hh101, (by dsimp only [Pt.cells]; decide), (by dsimp only [Pt.slots]; decide)⟩)
  dsimp only [Pt.U, Pt.locs, Pt.cells, Pt.slots] at X102 l102 y102 z102 st102 hQ102
  subst l102 y102 z102
  obtain ⟨rfl, N102, hh102⟩ := hQ102
  refine own_st (S' := T102.setTop (mkF m 22 #[.val (.int p1), .val (.int p2), .val (.int ((43 : Int32) + r))] [(.int (1 : Int32))])) st102 ?_
  have N2 := Fr.app N1 N102
  refine own_st (S' := T102.setTop (mkF m 25 #[.val (.int p1), .val (.int p2), .val (.int ((43 : Int32) + r))] [])) (fun _ k => XS.ifNo X102.here hx rfl (hb hby at_22) rfl ((own_z_eq _).trans (decide_eq_false (p := 1 = 0) (by decide))) k) ?_
  refine own_st (S' := T102.setTop (mkF m 26 #[.val (.int p1), .val (.int p2), .val (.int ((43 : Int32) + r))] [(.int (1 : Int32))])) (fun _ k => XS.iconst X102.here hx rfl (hb hby at_25) k) ?_
  refine own_st (S' := T102.setTop (mkF m 30 #[.val (.int p1), .val (.int p2), .val (.int ((43 : Int32) + r))] [(.int (1 : Int32))])) (fun _ k => XS.goto X102.here hx rfl (pc0 := 26) (pc' := 30) rfl (hb hby at_26) (by decide) (by decide) k) ?_
  refine own_end X102 (Q := (Q0 Z p1 p2 h0 n0)) (some (.int (1 : Int32))) Bd.notSynchronized (fun h => by rw [Bd.returns] at h; cases h) (fun fs hr => retN X102 hx (t := .boolean) Bd.returns (by simp) (hb hby at_30) hr) ?_ (by decide) (by decide)
  rw [hh102]
  exact ⟨rfl, N2⟩
set_option maxRecDepth 65536 in
set_option maxHeartbeats 40000000 in
theorem comes_1 {Post : Tables → Env → Array Value → State → Outcome → State → Prop} (hpost : ∀ tb e args s v u, (limb_1_1.after args s (.returned v) u = true ∧ limb_1_2.after args s (.returned v) u = true ∧ True) → FrameEnd s (.returned v) u (Jvm.fieldLocs frame_1_writes args s ++ Jvm.arrayLocs frame_1_arrays args s ++ Jvm.staticLocs frame_1_statics s) 0 0 → Post tb e args s (.returned v) u) :
    ArmFor flags0 classFile x code maxLocals ret World_1 tables_1 room_1 Calls_1 rest_1 Pre_1 Post := by
  intro l hfl _ _ p e ha hc hk s m args below hf hA hF happ hP
  obtain ⟨hcalls, hrest, hpre⟩ := hP
  obtain ⟨-, -, -, hnamed, -, -, -, hat⟩ := (Spec.applies_iff hf).mp happ
  obtain ⟨hg, hn⟩ := and_e (Cond.before_iff.mp (show (Jvm.Cond.and given_1 narrow_1).before args s = true from hpre))
  obtain ⟨hg0, hr0⟩ := and_e hg
  obtain ⟨hk0, hr1⟩ := and_e hr0
  have hk1 := hr1
  obtain ⟨w0, w1, rfl⟩ : ∃ w0 w1 : Value, args = #[w0, w1] := by
    have hs : args.size = 2 := by simpa [Cond.value, given_1] using hg0
    obtain ⟨L⟩ := args
    match L, hs with
    | [w0, w1], _ => exact ⟨w0, w1, rfl⟩
  have hw := fun d (hd : d ∈ tables_1) => atoms_spec (ws := Jvm.Cond.code x code maxLocals ret :: tables_1) hat d (List.mem_cons_of_mem _ hd)
  obtain ⟨i0, ee0⟩ := is_v hk0
  obtain rfl : w0 = (.int i0) := Option.some.inj ee0
  obtain ⟨i1, ee1⟩ := is_v hk1
  obtain rfl : w1 = (.int i1) := Option.some.inj ee1
  obtain ⟨n, o, h1, h2, h3, _, L, rfl, ⟨rfl, N⟩, hq⟩ := rm0 l s _ hw tables_1 i0 i1 s.heap s.heap.size (Nat.le_refl _) p e ha hc hk s m _ below hf ((Spec.applies_iff_loose hf).mp happ).1 ⟨rfl, State.Warmed39.refl s, rfl⟩ trivial
  refine ⟨n, _, h1, h2, h3, hpost _ _ _ _ _ _ ⟨Cond.after_iff.mpr rfl, Cond.after_iff.mpr (eq_i res_at (Term.int_eval (1)) rfl), trivial⟩ ⟨hq.1, hq.2.1, (hq.2.2.sift fun y hy => Or.inr (N y hy)).mono (by decide) (by decide)⟩⟩
theorem main_1_1 : Claimed_1_1 := comes_1 fun _ _ _ _ _ _ h hF => ⟨h.1, hF⟩
theorem main_1_2 : Claimed_1_2 := comes_1 fun _ _ _ _ _ _ h hF => ⟨h.2.1, hF⟩
end Jvm.Pilot.@@N@@
namespace Jvm.Pilot.@@N@@
open Jvm Jvm.ClassFile Sem Op Lib Jvm.Free Jvm.Stand Jvm.Pilot.@@N@@.Jvm.D
/-! MADE BY PROGRAM (witnessworld.py) out of the Statement's table words and the real class files: 9 classes; the members and pool entries that the words name. The judged class is class 1, her method 1. -/
namespace start1
open Jvm.ClassFile
def u (s : String) : CpInfo := .utf8 (stringToUtf16 s)
/-- a pool by its gaps: so many unusable entries, then the entry; so many at the end -/
def gap : Nat → List CpInfo → List CpInfo
  | 0, r => r
  | n + 1, r => .unusable :: gap n r
def poolList (es : List (Nat × CpInfo)) (last : Nat) : List CpInfo := es.foldr (fun e r => gap e.1 (e.2 :: r)) (gap last [])
def pool (es : List (Nat × CpInfo)) (last : Nat) : Array CpInfo := ⟨poolList es last⟩
def fileOf (pool : Array CpInfo) (this : Nat) (attrs : Array Attribute := #[]) (ms : Array MethodInfo := #[]) (fl : Nat := 33) (sup : Nat := 0) (ifs : Array Nat := #[]) (fds : Array FieldInfo := #[]) : ClassFile where
  minorVersion := 0
  majorVersion := 65
  constantPool := pool
  accessFlags := fl
  thisClass := this
  superClass := sup
  interfaces := ifs
  fields := fds
  methods := ms
  attributes := attrs
def plain (name : String) (sup : Option ClassId) : Class where
  name := name
  kind := .ordinary
  loader := none
  accessFlags := 33
  super := sup
  interfaces := #[]
  cf := none
  fields := #[]
  methods := #[]
  instanceTypes := #[]
  staticTypes := #[]
  resolved := #[]
  callSites := []
  init := .initialized
  statics := none
  mirror := none

def pool0 : Array CpInfo := pool [(5, u "<init>"), (0, u "()V"), (1, .class_ 10), (1, u "java/lang/Object")] 113

def k0m0 : Method := { name := "<init>", desc := "()V", sig := { parameters := [], returnType := none }, accessFlags := 1, code := none }
/-- java/lang/Object -/
def k0 : Class := { plain "java/lang/Object" none with
  accessFlags := 33
  interfaces := #[]
  cf := some (fileOf pool0 8 #[] #[{ accessFlags := 1, nameIndex := 5, descriptorIndex := 6, attributes := #[] }] 33 0 #[] #[])
  fields := #[]
  methods := #[k0m0]
  instanceTypes := #[]
  staticTypes := #[]
  resolved := Array.replicate 124 none
  statics := none }

def pool1 : Array CpInfo := pool [(2, .class_ 4), (1, u "java/lang/Object"), (0, u "<init>"), (0, u "()V"), (0, .integer 2147483647), (0, .methodref 9 10), (0, .class_ 11), (0, .nameAndType 12 13), (0, u "com/example/triadex/triadex/NTriplesGrammarIsAsciiDigitPinLaw"), (0, u "check"), (0, u "(I)Z"), (0, .methodref 15 16), (0, .class_ 17), (0, .nameAndType 18 13), (0, u "com/example/triadex/triadex/NTriplesGrammar"), (0, u "isAsciiDigit"), (2, u "law"), (0, u "(II)Z")] 3

def k1m0 : Method := { name := "<init>", desc := "()V", sig := { parameters := [], returnType := none }, accessFlags := 2, code := none }
def k1c1 : Code := { maxStack := 3, maxLocals := 3, code := code, exceptionTable := #[], attributes := #[] }
def k1m1 : Method := { name := "law", desc := "(II)Z", sig := { parameters := [.int, .int], returnType := some .boolean }, accessFlags := 9, code := some k1c1 }
def k1c2 : Code := { maxStack := 2, maxLocals := 2, code := method_3_code, exceptionTable := #[], attributes := #[] }
def k1m2 : Method := { name := "check", desc := "(I)Z", sig := { parameters := [.int], returnType := some .boolean }, accessFlags := 10, code := some k1c2 }
/-- com/example/triadex/triadex/NTriplesGrammarIsAsciiDigitPinLaw -/
def k1 : Class := { plain "com/example/triadex/triadex/NTriplesGrammarIsAsciiDigitPinLaw" (some 0) with
  accessFlags := 49
  interfaces := #[]
  cf := some (fileOf pool1 9 #[] #[{ accessFlags := 2, nameIndex := 5, descriptorIndex := 6, attributes := #[] }, { accessFlags := 9, nameIndex := 21, descriptorIndex := 22, attributes := #[] }, { accessFlags := 10, nameIndex := 12, descriptorIndex := 13, attributes := #[] }] 49 2 #[] #[])
  fields := #[]
  methods := #[k1m0, k1m1, k1m2]
  instanceTypes := #[]
  staticTypes := #[]
  resolved := Array.replicate 26 none
  statics := none }

def pool2 : Array CpInfo := pool [(2, .class_ 4), (1, u "java/lang/Object"), (0, u "<init>"), (0, u "()V"), (0, .class_ 8), (0, u "com/example/triadex/triadex/NTriplesGrammar"), (19, u "(I)Z"), (5, u "isAsciiDigit"), (34, u "IRI_FORBIDDEN"), (0, u "Ljava/lang/String;")] 11

def k2m0 : Method := { name := "<init>", desc := "()V", sig := { parameters := [], returnType := none }, accessFlags := 2, code := none }
def k2c1 : Code := { maxStack := 2, maxLocals := 1, code := prog_20_method_11_code, exceptionTable := #[], attributes := #[] }
def k2m1 : Method := { name := "isAsciiDigit", desc := "(I)Z", sig := { parameters := [.int], returnType := some .boolean }, accessFlags := 8, code := some k2c1 }
/-- com/example/triadex/triadex/NTriplesGrammar -/
def k2 : Class := { plain "com/example/triadex/triadex/NTriplesGrammar" (some 0) with
  accessFlags := 48
  interfaces := #[]
  cf := some (fileOf pool2 7 #[] #[{ accessFlags := 2, nameIndex := 5, descriptorIndex := 6, attributes := #[] }, { accessFlags := 8, nameIndex := 34, descriptorIndex := 28, attributes := #[] }] 48 2 #[] #[{ accessFlags := 26, nameIndex := 69, descriptorIndex := 70, attributes := #[] }])
  fields := #[{ name := "IRI_FORBIDDEN", type := (.object "java/lang/String"), accessFlags := 26, slot := 0, constantValue := 0 }]
  methods := #[k2m0, k2m1]
  instanceTypes := #[]
  staticTypes := #[(.object "java/lang/String")]
  resolved := Array.replicate 82 none
  statics := none }

def pool3 : Array CpInfo := pool [(1, u "java/lang/Cloneable"), (0, .class_ 1), (0, u "java/lang/Object"), (0, .class_ 3)] 3

/-- java/lang/Cloneable -/
def k3 : Class := { plain "java/lang/Cloneable" (some 0) with
  accessFlags := 1537
  interfaces := #[]
  cf := some (fileOf pool3 2 #[] #[] 1537 4 #[] #[])
  fields := #[]
  methods := #[]
  instanceTypes := #[]
  staticTypes := #[]
  resolved := Array.replicate 8 none
  statics := none }

def pool4 : Array CpInfo := pool [(1, u "java/io/Serializable"), (0, .class_ 1), (0, u "java/lang/Object"), (0, .class_ 3)] 3

/-- java/io/Serializable -/
def k4 : Class := { plain "java/io/Serializable" (some 0) with
  accessFlags := 1537
  interfaces := #[]
  cf := some (fileOf pool4 2 #[] #[] 1537 4 #[] #[])
  fields := #[]
  methods := #[]
  instanceTypes := #[]
  staticTypes := #[]
  resolved := Array.replicate 8 none
  statics := none }

/-- the primitive byte -/
def k5 : Class := { plain "byte" none with kind := .primitive 'B', accessFlags := 0x411 }
/-- [B -/
def k6 : Class := { plain "[B" (some 0) with kind := .array 5 .byte, interfaces := #[3, 4], accessFlags := 1041 }

/-- the primitive int -/
def k7 : Class := { plain "int" none with kind := .primitive 'I', accessFlags := 0x411 }
/-- [I -/
def k8 : Class := { plain "[I" (some 0) with kind := .array 7 .int, interfaces := #[3, 4], accessFlags := 1041 }

def heap : Heap := #[]
def classes : Array Class := #[k0, k1, k2, k3, k4, k5, k6, k7, k8]
def interned : List (Array UInt16 × Addr) := []
def slotsUsed : Nat := 0
def theMethod : MethodId := ⟨1, 1⟩
def args0 : Array Value := #[.int 5, .int 7]
def aboutOver (below : List Frame) : State where
  vm := { classes := classes, interned := interned.toArray }
  heap := heap
  slotsUsed := slotsUsed
  threads := #[{ frames := .invoking theMethod args0 :: below }]
def below0 : List Frame := [.native { method := ⟨0, 0⟩, args := #[] }]
def about1 : State := aboutOver below0
def p0 : Program := .bare "" "" ""
def e0 : Env := launch0.env 0 0 0
theorem w_frames : about1.frames = Frame.invoking theMethod args0 :: below0 := rfl
set_option maxRecDepth 65536 in
theorem w_args : argsFit about1.vm theMethod args0 = true := by decide +kernel
set_option maxRecDepth 65536 in
theorem w_heap : heapFits about1 = true := by decide +kernel
set_option maxRecDepth 65536 in
theorem w_runnable : about1.curStatus? = some .runnable := by decide +kernel
set_option maxRecDepth 65536 in
theorem w_alone : about1.alone = true := by decide +kernel
set_option maxRecDepth 65536 in
theorem w_named : about1.methodNamed? x = some theMethod := by decide +kernel
set_option maxRecDepth 65536 in
theorem w_hears : about1.hears theMethod below0 = true := by decide +kernel
set_option maxRecDepth 65536 in
theorem w_ripe : about1.ripe theMethod args0 below0 = true := by decide +kernel
theorem w_running : about1.status = .running := rfl
set_option maxRecDepth 65536 in
theorem w_room : about1.hasRoom e0.platform room_1 = true :=
  launch0.hasRoom_least _ room_1 (by decide +kernel) (by decide +kernel) (by decide +kernel) (by decide +kernel) (by decide +kernel) (by decide +kernel)
theorem allAtoms_all (ts : List Jvm.Cond) (a : Array Jvm.Value) (st : Jvm.State) : (allAtoms ts).before a st = ts.all (fun c => c.before a st) := by
  induction ts with
  | nil => rfl
  | cons c t ih =>
    show (Jvm.Cond.and c (allAtoms t)).before a st = _
    rw [Jvm.Cond.before_and, ih, List.all_cons]
def words1 : List Jvm.Cond := Jvm.Cond.code x code maxLocals ret :: tables_1
/-- a 'code' word, met by the world's own term for the bytes: nothing is compared byte by byte -/
theorem code_word {y : MethodName} {bytes : ByteArray} {mx : Nat} {rt : Option FieldType} {a : Array Value} {s : State} {m : MethodId} {meth : Method} {c : Code} (h1 : s.methodNamed? y = some m) (h2 : s.vm.method? m = some meth) (h3 : meth.code = some c) (h4 : c.code = bytes)
    (h5 : (c.maxLocals == mx && c.exceptionTable.isEmpty && decide (c.maxStack ≤ mostOperands) && decide (meth.sig.returnType = rt) && !meth.locks && decide (parseMethodDescriptor y.desc = some meth.sig)) = true) : (Jvm.Cond.code y bytes mx rt).before a s = true := by
  simp only [Bool.and_eq_true, beq_iff_eq, Bool.not_eq_true', decide_eq_true_eq] at h5
  obtain ⟨⟨⟨⟨⟨g1, g2⟩, g3⟩, g4⟩, g5⟩, g6⟩ := h5
  simp [Cond.before, Cond.holds, Cond.value, h1, h2, h3, h4, g1, g2, g3, g4, g5, g6]
def isCode : Jvm.Cond → Bool
  | .code _ _ _ _ => true
  | _ => false
theorem all_split {L : List Jvm.Cond} {P : Jvm.Cond → Bool} (h1 : L.all (fun c => isCode c || P c) = true) (h2 : ∀ c ∈ L.filter isCode, P c = true) : L.all P = true := by
  refine List.all_eq_true.mpr fun c hc => ?_
  have h := List.all_eq_true.mp h1 c hc
  rcases Bool.eq_false_or_eq_true (isCode c) with hi | hi
  · exact h2 c (List.mem_filter.mpr ⟨hc, hi⟩)
  · simpa [hi] using h
set_option maxRecDepth 65536 in
theorem w_c0 : (Jvm.Cond.code x code maxLocals ret).before args0 about1 = true := code_word (m := ⟨1, 1⟩) (meth := k1m1) (c := k1c1) (by decide +kernel) rfl rfl rfl (by decide +kernel)
set_option maxRecDepth 65536 in
theorem w_c1 : (Jvm.Cond.code ({ cls := "com/example/triadex/triadex/NTriplesGrammarIsAsciiDigitPinLaw", name := "check", desc := "(I)Z" } : Jvm.MethodName) method_3_code (2 : Nat) (Option.some Jvm.ClassFile.FieldType.boolean)).before args0 about1 = true := code_word (m := ⟨1, 2⟩) (meth := k1m2) (c := k1c2) (by decide +kernel) rfl rfl rfl (by decide +kernel)
set_option maxRecDepth 65536 in
theorem w_c2 : (Jvm.Cond.code ({ cls := "com/example/triadex/triadex/NTriplesGrammar", name := "isAsciiDigit", desc := "(I)Z" } : Jvm.MethodName) prog_20_method_11_code (1 : Nat) (Option.some Jvm.ClassFile.FieldType.boolean)).before args0 about1 = true := code_word (m := ⟨2, 1⟩) (meth := k2m1) (c := k2c1) (by decide +kernel) rfl rfl rfl (by decide +kernel)
def codes1 : List Jvm.Cond := [Jvm.Cond.code x code maxLocals ret, Jvm.Cond.code ({ cls := "com/example/triadex/triadex/NTriplesGrammarIsAsciiDigitPinLaw", name := "check", desc := "(I)Z" } : Jvm.MethodName) method_3_code (2 : Nat) (Option.some Jvm.ClassFile.FieldType.boolean), Jvm.Cond.code ({ cls := "com/example/triadex/triadex/NTriplesGrammar", name := "isAsciiDigit", desc := "(I)Z" } : Jvm.MethodName) prog_20_method_11_code (1 : Nat) (Option.some Jvm.ClassFile.FieldType.boolean)]
set_option maxRecDepth 65536 in
theorem codes_eq : words1.filter isCode = codes1 := rfl
theorem w_codes : ∀ c ∈ words1.filter isCode, c.before args0 about1 = true := by
  rw [codes_eq]
  intro c hc
  simp only [codes1, List.mem_cons, List.not_mem_nil, or_false] at hc
  rcases hc with rfl | rfl | rfl
  · exact w_c0
  · exact w_c1
  · exact w_c2
set_option maxRecDepth 65536 in
theorem w_t1 : words1.all (fun c => isCode c || c.before args0 about1) = true := by decide +kernel
theorem w_tables : (allAtoms (Jvm.Cond.code x code maxLocals ret :: tables_1)).before args0 about1 = true := by
  rw [allAtoms_all]
  show words1.all (fun c => c.before args0 about1) = true
  refine all_split ?_ w_codes
  rw [w_t1]
set_option maxRecDepth 65536 in
theorem w_case : (Jvm.Cond.and given_1 narrow_1).before args0 about1 = true := by decide +kernel
theorem w_applies : (headSpec (Jvm.Cond.code x code maxLocals ret :: tables_1) room_1).applies x e0.platform about1 = true :=
  (Spec.applies_iff w_frames).mpr ⟨w_running, w_runnable, w_alone, w_named, w_hears, w_ripe, w_room, w_tables⟩
theorem atStart : AtStart classFile x code maxLocals ret World_1 tables_1 room_1 Calls_1 rest_1 Pre_1 launch0 p0 e0 about1 theMethod args0 below0 :=
  ⟨lists_1, trivial, launch0.admits_env _ _ _, launch0.least_env, fairChoices_fair.cas, fairChoices_fair.clock, w_frames, w_args, w_heap, w_applies, trivial, trivial, w_case⟩
end start1
theorem witness_1 : WitnessClaimed_1 := ⟨start1.p0, start1.e0, start1.about1, start1.theMethod, start1.args0, start1.below0, start1.atStart⟩
end Jvm.Pilot.@@N@@
