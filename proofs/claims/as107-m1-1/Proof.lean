import JvmDerived
import JvmDerived.Pilot.@@N@@Statement
import JvmDerived.Pilot.@@N@@Code
set_option linter.unusedVariables false
set_option linter.unusedSimpArgs false
@@BLOCK:NumsL.lean.txt@@
namespace Jvm.RoadKit
open Sem ClassFile Op Lib Jvm.Stand Jvm.Free Jvm.LawKit
section New
variable {p : Program} {l : Launch} {e : Env} {R : Room} {s : State} {m : MethodId} {args : Array Value} {below : List Frame} {meth : Method} {c : Code} {T : State} {locs : List Loc} {cells slots : Nat}
/-- ireturn of an int (after example/lawnew) -/
theorem retI (X : Stand p l e R s m args below meth c T locs cells slots) (hx : p.tables.exec = Jvm.exec) {pc : Nat} {Ls : Array Slot} {z : Int32} {rest : List Value} (hret : meth.sig.returnType = some .int) (hd : decode c.code pc = .ok (.ireturn, 1)) {fs : List Frame}
    (hl : ∀ (f : JFrame) (acts : List Action), f.method = m → f.locked = none → f.entered = [] → (doReturn e (T.setTop f) acts (some (.int z))).1 = T.setFrames fs) : Steps p.tables e below (T.setTop (mkF m pc Ls (.int z :: rest))) (T.setFrames fs) := by
  have hm' : T.vm.method? m = some meth := X.method'
  have hn : narrow .int (.int z) = .int z := rfl
  show Steps p.tables e below (T.setTop { method := m, pc := pc, locals := Ls, stack := _ :: rest, locked := none }) _
  jvm_step X.here [X.here.top, hx, hd, hm', hret, hn]
  first | (intro acts; rw [hl _ acts rfl rfl rfl]) | rw [hl _ _ rfl rfl rfl]
  exact Steps.refl _
/-- the run from S comes to an end that P speaks of: a walk goes on from state to state under one goal, and may fork -/
def own_Go (tb : Tables) (e : Env) (below : List Frame) (P : State → Outcome → Prop) (S : State) : Prop := ∃ t o, Steps tb e below S t ∧ t.status = .running ∧ Ended t below o ∧ P t o
theorem own_st {tb : Tables} {e : Env} {below : List Frame} {P : State → Outcome → Prop} {S S' : State} (st : ∀ t, Steps tb e below S' t → Steps tb e below S t) (k : own_Go tb e below P S') : own_Go tb e below P S := by
  obtain ⟨t, o, h1, h2⟩ := k
  exact ⟨t, o, st t h1, h2⟩
theorem own_tr {tb : Tables} {e : Env} {below : List Frame} {P : State → Outcome → Prop} {S S' : State} (st : Steps tb e below S S') (k : own_Go tb e below P S') : own_Go tb e below P S := own_st (fun _ h => st.trans h) k
theorem own_cv {tb : Tables} {e : Env} {below : List Frame} {P : State → Outcome → Prop} {S S' : State} (q : S = S') (k : own_Go tb e below P S') : own_Go tb e below P S := q ▸ k
theorem own_join {α : Type} {tb : Tables} {e : Env} {below : List Frame} {P : State → Outcome → Prop} {S : State} (F : α → State) (k : ∀ x, own_Go tb e below P (F x)) (j : (∀ x, own_Go tb e below P (F x)) → own_Go tb e below P S) : own_Go tb e below P S := j k
/-- the end of a walk: what the return leaves -/
theorem own_end (X : Stand p l e R s m args below meth c T locs cells slots) {Q : Option Value → Heap → List Loc → Prop} {C N : Nat} {S : State} (v : Option Value) (hlocks : meth.locks = false) (hv : meth.sig.returnType = none → v = none)
    (ret : ∀ fs : List Frame, (∀ (f : JFrame) (acts : List Action), f.method = m → f.locked = none → f.entered = [] → (doReturn e (T.setTop f) acts v).1 = T.setFrames fs) → Steps p.tables e below S (T.setFrames fs))
    (q : Q v T.heap locs) (hc : cells ≤ C) (hn : slots ≤ N) : own_Go p.tables e below (fun t o => ∃ v L, o = .returned v ∧ Q v t.heap L ∧ FrameEnd s o t L C N) S := by
  obtain ⟨fs, hr, hrun, hended, hW, hsame⟩ := X.leave (v := v) hv hlocks
  exact ⟨_, _, ret fs hr, hrun, hended, v, locs, rfl, q, ⟨_, rfl⟩, hW, hsame.mono hc hn⟩
end New
theorem own_i_lt (x y : Int32) : if_icmp.holds .lt x y = decide (x.toInt < y.toInt) := by simp [if_icmp.holds, Int32.lt_iff_toInt_lt]
theorem own_i_le (x y : Int32) : if_icmp.holds .le x y = decide (x.toInt ≤ y.toInt) := by simp [if_icmp.holds, Int32.le_iff_toInt_le]
theorem own_i_gt (x y : Int32) : if_icmp.holds .gt x y = decide (x.toInt > y.toInt) := by simp [if_icmp.holds, Int32.lt_iff_toInt_lt]
theorem own_i_ge (x y : Int32) : if_icmp.holds .ge x y = decide (x.toInt ≥ y.toInt) := by simp [if_icmp.holds, Int32.le_iff_toInt_le]
theorem own_i_eq (x y : Int32) : if_icmp.holds .eq x y = decide (x.toInt = y.toInt) := by rw [Bool.eq_iff_iff]; simp [if_icmp.holds, Int32.toInt_inj]
theorem own_i_ne (x y : Int32) : if_icmp.holds .ne x y = decide (x.toInt ≠ y.toInt) := by rw [Bool.eq_iff_iff]; simp [if_icmp.holds, Int32.toInt_inj]
theorem own_z_lt (x : Int32) : ifCond.holds .lt x = decide (x.toInt < 0) := by simp [ifCond.holds, Int32.lt_iff_toInt_lt]
theorem own_z_le (x : Int32) : ifCond.holds .le x = decide (x.toInt ≤ 0) := by simp [ifCond.holds, Int32.le_iff_toInt_le]
theorem own_z_gt (x : Int32) : ifCond.holds .gt x = decide (x.toInt > 0) := by simp [ifCond.holds, Int32.lt_iff_toInt_lt]
theorem own_z_ge (x : Int32) : ifCond.holds .ge x = decide (x.toInt ≥ 0) := by simp [ifCond.holds, Int32.le_iff_toInt_le]
theorem own_z_eq (x : Int32) : ifCond.holds .eq x = decide (x.toInt = 0) := by rw [Bool.eq_iff_iff]; simp [ifCond.holds, ← Int32.toInt_inj]
theorem own_z_ne (x : Int32) : ifCond.holds .ne x = decide (x.toInt ≠ 0) := by rw [Bool.eq_iff_iff]; simp [ifCond.holds, ← Int32.toInt_inj]
theorem own_cmp (x y : Int64) : (XT.cmpL x y).toInt = if y.toInt < x.toInt then 1 else if x.toInt = y.toInt then 0 else -1 := by
  simp only [XT.cmpL, Int64.lt_iff_toInt_lt, ← Int64.toInt_inj]
  split
  · rfl
  · split <;> rfl
theorem own_l_lt (x y : Int64) : ifCond.holds .lt (XT.cmpL x y) = decide (x.toInt < y.toInt) := by
  rw [own_z_lt, own_cmp, decide_eq_decide]; split <;> (try split) <;> omega
theorem own_l_le (x y : Int64) : ifCond.holds .le (XT.cmpL x y) = decide (x.toInt ≤ y.toInt) := by
  rw [own_z_le, own_cmp, decide_eq_decide]; split <;> (try split) <;> omega
theorem own_l_gt (x y : Int64) : ifCond.holds .gt (XT.cmpL x y) = decide (x.toInt > y.toInt) := by
  rw [own_z_gt, own_cmp, decide_eq_decide]; split <;> (try split) <;> omega
theorem own_l_ge (x y : Int64) : ifCond.holds .ge (XT.cmpL x y) = decide (x.toInt ≥ y.toInt) := by
  rw [own_z_ge, own_cmp, decide_eq_decide]; split <;> (try split) <;> omega
theorem own_l_eq (x y : Int64) : ifCond.holds .eq (XT.cmpL x y) = decide (x.toInt = y.toInt) := by
  rw [own_z_eq, own_cmp, decide_eq_decide]; split <;> (try split) <;> omega
theorem own_l_ne (x y : Int64) : ifCond.holds .ne (XT.cmpL x y) = decide (x.toInt ≠ y.toInt) := by
  rw [own_z_ne, own_cmp, decide_eq_decide]; split <;> (try split) <;> omega
/-- a boolean as the int that the machine keeps -/
def own_b (P : Prop) [Decidable P] : Int32 := if P then 1 else 0
theorem own_b1 {P : Prop} [Decidable P] (h : P) : own_b P = 1 := if_pos h
theorem own_b0 {P : Prop} [Decidable P] (h : ¬ P) : own_b P = 0 := if_neg h
theorem own_bi (P : Prop) [Decidable P] : (own_b P).toInt = if P then 1 else 0 := by unfold own_b; split <;> rfl
theorem own_nb {P : Prop} [Decidable P] : nar .boolean (own_b P) = own_b P := by unfold own_b; split <;> rfl
theorem own_nB {x : Int32} : nar .byte (Int8.toInt32 (Int32.toInt8 x)) = Int8.toInt32 (Int32.toInt8 x) := by
  show Int8.toInt32 (Int32.toInt8 (Int8.toInt32 (Int32.toInt8 x))) = _
  simp
end Jvm.RoadKit
namespace Jvm.Pilot.@@N@@
open Jvm Jvm.ClassFile Sem Op Lib Jvm.Free Jvm.Stand Jvm.LawKit Jvm.RoadKit Bundle Jvm.Pilot.@@N@@.Jvm.D

/-! the plain law -/
def own_min (x y : Int64) : Int64 := if x.toInt ≤ y.toInt then x else y
def own_max (x y : Int64) : Int64 := if x.toInt < y.toInt then y else x
theorem own_nx (r : Nat) (hr : r < 2 ^ 63) : 2 ^ 63 + r = 2 ^ 63 ^^^ r := by
  apply Nat.eq_of_testBit_eq
  intro i
  rw [Nat.testBit_xor, Nat.testBit_two_pow]
  by_cases e : i = 63
  · subst e
    rw [Nat.testBit_two_pow_add_eq, Nat.testBit_lt_two_pow hr]
    simp
  · by_cases l : i < 63
    · rw [Nat.testBit_two_pow_add_gt l]; simp [Ne.symm e]
    · have a : (2 ^ 63 + r).testBit i = false := Nat.testBit_lt_two_pow (Nat.lt_of_lt_of_le (show 2 ^ 63 + r < 2 ^ 64 by omega) (Nat.pow_le_pow_right (by decide) (by omega)))
      have b : r.testBit i = false := Nat.testBit_lt_two_pow (Nat.lt_of_lt_of_le hr (Nat.pow_le_pow_right (by decide) (by omega)))
      rw [a, b]; simp [Ne.symm e]
theorem own_flip (x : Int64) : (x ^^^ (-9223372036854775808 : Int64)).toInt = if 0 ≤ x.toInt then x.toInt - 2 ^ 63 else x.toInt + 2 ^ 63 := by
  have hl := x.toBitVec.isLt
  have e : (x ^^^ (-9223372036854775808 : Int64)).toBitVec.toNat = x.toBitVec.toNat ^^^ 2 ^ 63 := by
    rw [Int64.toBitVec_xor, BitVec.toNat_xor]; rfl
  have q : (x ^^^ (-9223372036854775808 : Int64)).toInt = (x ^^^ (-9223372036854775808 : Int64)).toBitVec.toInt := rfl
  have q2 : x.toInt = x.toBitVec.toInt := rfl
  rw [q, q2, BitVec.toInt_eq_toNat_cond, BitVec.toInt_eq_toNat_cond, e]
  generalize x.toBitVec.toNat = n at *
  by_cases l : n < 2 ^ 63
  · have h1 := own_nx n l
    rw [Nat.xor_comm] at h1
    rw [← h1]
    split <;> split <;> (try split) <;> omega
  · obtain ⟨r, rfl⟩ : ∃ r, n = 2 ^ 63 + r := ⟨n - 2 ^ 63, by omega⟩
    have h1 := own_nx r (by omega)
    have h2 : (2 ^ 63 + r) ^^^ 2 ^ 63 = r := by
      rw [h1, Nat.xor_comm, ← Nat.xor_assoc, Nat.xor_self, Nat.zero_xor]
    rw [h2]
    split <;> split <;> (try split) <;> omega
theorem own_main (v lo hi : Int64) (h : lo.toInt < hi.toInt) : ((((v - lo) ^^^ (-9223372036854775808 : Int64)).toInt ≤ ((hi - lo) ^^^ (-9223372036854775808 : Int64)).toInt)) ↔ (lo.toInt ≤ v.toInt ∧ v.toInt ≤ hi.toInt) := by
  have a1 := v.toInt_lt; have a2 := v.le_toInt; have b1 := lo.toInt_lt; have b2 := lo.le_toInt; have c1 := hi.toInt_lt; have c2 := hi.le_toInt
  rw [own_flip, own_flip, Int64.toInt_sub, Int64.toInt_sub, Int.bmod_def, Int.bmod_def]
  generalize v.toInt = x at *
  generalize lo.toInt = y at *
  generalize hi.toInt = z at *
  split <;> split <;> split <;> split <;> omega
theorem own_b_iff {P Q : Prop} [Decidable P] [Decidable Q] (h : P ↔ Q) : own_b P = own_b Q := by unfold own_b; simp [h]
theorem own_sub1 {x : Int64} (h : x.toInt = 9223372036854775807) : (x - (1 : Int64)).toInt = x.toInt - 1 := by
  have o : (1 : Int64).toInt = 1 := rfl
  rw [Jvm.Kit.i64_sub (by omega) (by omega), o]
theorem own_add1 {x : Int64} (h : x.toInt ≠ 9223372036854775807) : (x + (1 : Int64)).toInt = x.toInt + 1 := by
  have o : (1 : Int64).toInt = 1 := rfl
  have a := x.toInt_lt; have b := x.le_toInt
  rw [Jvm.Kit.i64_add (by omega) (by omega), o]
theorem own_mm (a b : Int64) : (own_min a b).toInt ≤ (own_max a b).toInt := by unfold own_min own_max; split <;> split <;> omega
theorem own_cl (lo hi st : Int64) (h : lo.toInt < hi.toInt) : lo.toInt ≤ (own_max lo (own_min hi st)).toInt ∧ (own_max lo (own_min hi st)).toInt ≤ hi.toInt := by unfold own_min own_max; (repeat' split) <;> omega

theorem dMN_0 : decode jdk_29_method_70_code 0 = .ok (.lload_n 0, 1) := by decide +kernel
theorem dMN_1 : decode jdk_29_method_70_code 1 = .ok (.lload_n 2, 1) := by decide +kernel
theorem dMN_2 : decode jdk_29_method_70_code 2 = .ok (.lcmp, 1) := by decide +kernel
theorem dMN_3 : decode jdk_29_method_70_code 3 = .ok (.ifCond .gt 7, 3) := by decide +kernel
theorem dMN_6 : decode jdk_29_method_70_code 6 = .ok (.lload_n 0, 1) := by decide +kernel
theorem dMN_7 : decode jdk_29_method_70_code 7 = .ok (.goto 4, 3) := by decide +kernel
theorem dMN_10 : decode jdk_29_method_70_code 10 = .ok (.lload_n 2, 1) := by decide +kernel
theorem dMN_11 : decode jdk_29_method_70_code 11 = .ok (.lreturn, 1) := by decide +kernel
theorem pd_MN : parseMethodDescriptor "(JJ)J" = some ⟨[.long, .long], some .long⟩ := by decide +kernel
theorem ef_MN (m : MethodId) (p1 : Int64) (p2 : Int64) : entryFrame m #[(.long p1), (.long p2)] 4 = mkF m 0 #[.val (.long p1), .second, .val (.long p2), .second] [] := by first | (simp [entryFrame, mkF, argsToLocals, Value.category]; done) | rfl
def QMN (Z : State) (p1 : Int64) (p2 : Int64) (h0 : Heap) (n0 : Nat) (v : Option Value) (h : Heap) (L : List Loc) : Prop := v = some (.long (own_min p1 p2)) ∧ Fr n0 L ∧ h = h0
set_option maxRecDepth 65536 in
set_option maxHeartbeats 40000000 in
theorem rmMN (l : Launch) (Z : State) (a0 : Array Value) (hw : ∀ d ∈ tables_1, d.before a0 Z = true) (ws : List Jvm.Cond) (p1 : Int64) (p2 : Int64) (h0 : Heap) (n0 : Nat) (Z0 : n0 ≤ h0.size) :
    MetFree l (⟨"java/lang/Math", "min", "(JJ)J"⟩ : MethodName) (head1 (Jvm.Cond.code (⟨"java/lang/Math", "min", "(JJ)J"⟩ : MethodName) jdk_29_method_70_code 4 (some .long) :: ws) ({ frames := 0, cells := 0, slots := 0, locals := 0 } : Room)) (fun a U => a = #[(.long p1), (.long p2)] ∧ Z.Warmed39 U.vm ∧ U.heap = h0) (fun _ _ _ _ _ => True) (fun _ U o U' => ∃ v L, o = .returned v ∧ QMN Z p1 p2 h0 n0 v U'.heap L ∧ FrameEnd U o U' L ({ frames := 0, cells := 0, slots := 0, locals := 0 } : Room).cells ({ frames := 0, cells := 0, slots := 0, locals := 0 } : Room).slots) := by
  refine MetFree.of_bodySF (Jvm.Free.JP.mathPlain rfl (by decide +kernel)) hisR ?_
  intro p e s m args below meth c s₁ Bd hml0 hP hK
  obtain ⟨rfl, hZ, hh⟩ := hP
  have hx := Bd.exec
  have hby := Bd.bytes
  have hml : c.maxLocals = 4 := hml0
  have hown : s.vm.findClass "java/lang/Math" = some m.cls := findClass_of_methodNamed Bd.named
  have hnm := (name_of_methodNamed Bd.named Bd.method).1
  have X0 : Stand p l e ({ frames := 0, cells := 0, slots := 0, locals := 0 } : Room) s m #[(.long p1), (.long p2)] below meth c s₁ [] 0 0 := Stand.of_body Bd
  have e0 : s₁.heap = h0 := by rw [← hh, Bd.state]; rfl
  have N0 := Fr.nil n0
  show own_Go p.tables e below (fun t o => ∃ v L, o = .returned v ∧ QMN Z p1 p2 h0 n0 v t.heap L ∧ FrameEnd s o t L ({ frames := 0, cells := 0, slots := 0, locals := 0 } : Room).cells ({ frames := 0, cells := 0, slots := 0, locals := 0 } : Room).slots) (s₁.setTop (entryFrame m #[(.long p1), (.long p2)] 4))
  rw [ef_MN]
  show own_Go p.tables e below _ (s₁.setTop (mkF m 0 #[.val (.long p1), .second, .val (.long p2), .second] []))
  refine own_st (S' := s₁.setTop (mkF m 1 #[.val (.long p1), .second, .val (.long p2), .second] [(.long p1)])) (fun _ kont => XT.lloadN X0.here hx rfl (hb hby dMN_0) rfl kont) ?_
  refine own_st (S' := s₁.setTop (mkF m 2 #[.val (.long p1), .second, .val (.long p2), .second] [(.long p2), (.long p1)])) (fun _ kont => XT.lloadN X0.here hx rfl (hb hby dMN_1) rfl kont) ?_
  refine own_st (S' := s₁.setTop (mkF m 3 #[.val (.long p1), .second, .val (.long p2), .second] [(.int (XT.cmpL p1 p2))])) (fun _ kont => XT.lcmp X0.here hx rfl (hb hby dMN_2) rfl kont) ?_
  by_cases hc3 : Int64.toInt p1 > Int64.toInt p2
  · skip
    refine own_st (S' := s₁.setTop (mkF m 10 #[.val (.long p1), .second, .val (.long p2), .second] [])) (fun _ kont => XS.ifYes X0.here hx rfl (pc0 := 3) (pc' := 10) rfl (hb hby dMN_3) rfl ((own_l_gt _ _).trans (decide_eq_true (p := Int64.toInt p1 > Int64.toInt p2) (hc3))) (by decide) (by decide) kont) ?_
    refine own_st (S' := s₁.setTop (mkF m 11 #[.val (.long p1), .second, .val (.long p2), .second] [(.long p2)])) (fun _ kont => XT.lloadN X0.here hx rfl (hb hby dMN_10) rfl kont) ?_
    have tq101 : p2 = (own_min p1 p2) := by unfold own_min; first | rw [if_pos (by omega)] | rw [if_neg (by omega)]
    refine own_cv (congrArg (fun z => s₁.setTop (mkF m 11 #[.val (.long p1), .second, .val (.long p2), .second] [(.long z)])) tq101) ?_
    show own_Go p.tables e below _ (s₁.setTop (mkF m 11 #[.val (.long p1), .second, .val (.long p2), .second] [(.long (own_min p1 p2))]))
    refine own_end X0 (Q := (QMN Z p1 p2 h0 n0)) (some (.long (own_min p1 p2))) Bd.notSynchronized (fun h => by rw [Bd.returns] at h; cases h) (fun fs hr => X0.lreturnOut hx Bd.returns (hb hby dMN_11) hr) ?_ (by decide) (by decide)
    rw [e0]
    exact ⟨rfl, N0, rfl⟩
  · skip
    refine own_st (S' := s₁.setTop (mkF m 6 #[.val (.long p1), .second, .val (.long p2), .second] [])) (fun _ kont => XS.ifNo X0.here hx rfl (hb hby dMN_3) rfl ((own_l_gt _ _).trans (decide_eq_false (p := Int64.toInt p1 > Int64.toInt p2) (hc3))) kont) ?_
    refine own_st (S' := s₁.setTop (mkF m 7 #[.val (.long p1), .second, .val (.long p2), .second] [(.long p1)])) (fun _ kont => XT.lloadN X0.here hx rfl (hb hby dMN_6) rfl kont) ?_
    refine own_st (S' := s₁.setTop (mkF m 11 #[.val (.long p1), .second, .val (.long p2), .second] [(.long p1)])) (fun _ kont => XS.goto X0.here hx rfl (pc0 := 7) (pc' := 11) rfl (hb hby dMN_7) (by decide) (by decide) kont) ?_
    have tq102 : p1 = (own_min p1 p2) := by unfold own_min; first | rw [if_pos (by omega)] | rw [if_neg (by omega)]
    refine own_cv (congrArg (fun z => s₁.setTop (mkF m 11 #[.val (.long p1), .second, .val (.long p2), .second] [(.long z)])) tq102) ?_
    show own_Go p.tables e below _ (s₁.setTop (mkF m 11 #[.val (.long p1), .second, .val (.long p2), .second] [(.long (own_min p1 p2))]))
    refine own_end X0 (Q := (QMN Z p1 p2 h0 n0)) (some (.long (own_min p1 p2))) Bd.notSynchronized (fun h => by rw [Bd.returns] at h; cases h) (fun fs hr => X0.lreturnOut hx Bd.returns (hb hby dMN_11) hr) ?_ (by decide) (by decide)
    rw [e0]
    exact ⟨rfl, N0, rfl⟩
theorem dMX_0 : decode jdk_29_method_66_code 0 = .ok (.lload_n 0, 1) := by decide +kernel
theorem dMX_1 : decode jdk_29_method_66_code 1 = .ok (.lload_n 2, 1) := by decide +kernel
theorem dMX_2 : decode jdk_29_method_66_code 2 = .ok (.lcmp, 1) := by decide +kernel
theorem dMX_3 : decode jdk_29_method_66_code 3 = .ok (.ifCond .lt 7, 3) := by decide +kernel
theorem dMX_6 : decode jdk_29_method_66_code 6 = .ok (.lload_n 0, 1) := by decide +kernel
theorem dMX_7 : decode jdk_29_method_66_code 7 = .ok (.goto 4, 3) := by decide +kernel
theorem dMX_10 : decode jdk_29_method_66_code 10 = .ok (.lload_n 2, 1) := by decide +kernel
theorem dMX_11 : decode jdk_29_method_66_code 11 = .ok (.lreturn, 1) := by decide +kernel
theorem pd_MX : parseMethodDescriptor "(JJ)J" = some ⟨[.long, .long], some .long⟩ := by decide +kernel
theorem ef_MX (m : MethodId) (p1 : Int64) (p2 : Int64) : entryFrame m #[(.long p1), (.long p2)] 4 = mkF m 0 #[.val (.long p1), .second, .val (.long p2), .second] [] := by first | (simp [entryFrame, mkF, argsToLocals, Value.category]; done) | rfl
def QMX (Z : State) (p1 : Int64) (p2 : Int64) (h0 : Heap) (n0 : Nat) (v : Option Value) (h : Heap) (L : List Loc) : Prop := v = some (.long (own_max p1 p2)) ∧ Fr n0 L ∧ h = h0
set_option maxRecDepth 65536 in
set_option maxHeartbeats 40000000 in
theorem rmMX (l : Launch) (Z : State) (a0 : Array Value) (hw : ∀ d ∈ tables_1, d.before a0 Z = true) (ws : List Jvm.Cond) (p1 : Int64) (p2 : Int64) (h0 : Heap) (n0 : Nat) (Z0 : n0 ≤ h0.size) :
    MetFree l (⟨"java/lang/Math", "max", "(JJ)J"⟩ : MethodName) (head1 (Jvm.Cond.code (⟨"java/lang/Math", "max", "(JJ)J"⟩ : MethodName) jdk_29_method_66_code 4 (some .long) :: ws) ({ frames := 0, cells := 0, slots := 0, locals := 0 } : Room)) (fun a U => a = #[(.long p1), (.long p2)] ∧ Z.Warmed39 U.vm ∧ U.heap = h0) (fun _ _ _ _ _ => True) (fun _ U o U' => ∃ v L, o = .returned v ∧ QMX Z p1 p2 h0 n0 v U'.heap L ∧ FrameEnd U o U' L ({ frames := 0, cells := 0, slots := 0, locals := 0 } : Room).cells ({ frames := 0, cells := 0, slots := 0, locals := 0 } : Room).slots) := by
  refine MetFree.of_bodySF (Jvm.Free.JP.mathPlain rfl (by decide +kernel)) hisR ?_
  intro p e s m args below meth c s₁ Bd hml0 hP hK
  obtain ⟨rfl, hZ, hh⟩ := hP
  have hx := Bd.exec
  have hby := Bd.bytes
  have hml : c.maxLocals = 4 := hml0
  have hown : s.vm.findClass "java/lang/Math" = some m.cls := findClass_of_methodNamed Bd.named
  have hnm := (name_of_methodNamed Bd.named Bd.method).1
  have X0 : Stand p l e ({ frames := 0, cells := 0, slots := 0, locals := 0 } : Room) s m #[(.long p1), (.long p2)] below meth c s₁ [] 0 0 := Stand.of_body Bd
  have e0 : s₁.heap = h0 := by rw [← hh, Bd.state]; rfl
  have N0 := Fr.nil n0
  show own_Go p.tables e below (fun t o => ∃ v L, o = .returned v ∧ QMX Z p1 p2 h0 n0 v t.heap L ∧ FrameEnd s o t L ({ frames := 0, cells := 0, slots := 0, locals := 0 } : Room).cells ({ frames := 0, cells := 0, slots := 0, locals := 0 } : Room).slots) (s₁.setTop (entryFrame m #[(.long p1), (.long p2)] 4))
  rw [ef_MX]
  show own_Go p.tables e below _ (s₁.setTop (mkF m 0 #[.val (.long p1), .second, .val (.long p2), .second] []))
  refine own_st (S' := s₁.setTop (mkF m 1 #[.val (.long p1), .second, .val (.long p2), .second] [(.long p1)])) (fun _ kont => XT.lloadN X0.here hx rfl (hb hby dMX_0) rfl kont) ?_
  refine own_st (S' := s₁.setTop (mkF m 2 #[.val (.long p1), .second, .val (.long p2), .second] [(.long p2), (.long p1)])) (fun _ kont => XT.lloadN X0.here hx rfl (hb hby dMX_1) rfl kont) ?_
  refine own_st (S' := s₁.setTop (mkF m 3 #[.val (.long p1), .second, .val (.long p2), .second] [(.int (XT.cmpL p1 p2))])) (fun _ kont => XT.lcmp X0.here hx rfl (hb hby dMX_2) rfl kont) ?_
  by_cases hc3 : Int64.toInt p1 < Int64.toInt p2
  · skip
    refine own_st (S' := s₁.setTop (mkF m 10 #[.val (.long p1), .second, .val (.long p2), .second] [])) (fun _ kont => XS.ifYes X0.here hx rfl (pc0 := 3) (pc' := 10) rfl (hb hby dMX_3) rfl ((own_l_lt _ _).trans (decide_eq_true (p := Int64.toInt p1 < Int64.toInt p2) (hc3))) (by decide) (by decide) kont) ?_
    refine own_st (S' := s₁.setTop (mkF m 11 #[.val (.long p1), .second, .val (.long p2), .second] [(.long p2)])) (fun _ kont => XT.lloadN X0.here hx rfl (hb hby dMX_10) rfl kont) ?_
    have tq101 : p2 = (own_max p1 p2) := by unfold own_max; first | rw [if_pos (by omega)] | rw [if_neg (by omega)]
    refine own_cv (congrArg (fun z => s₁.setTop (mkF m 11 #[.val (.long p1), .second, .val (.long p2), .second] [(.long z)])) tq101) ?_
    show own_Go p.tables e below _ (s₁.setTop (mkF m 11 #[.val (.long p1), .second, .val (.long p2), .second] [(.long (own_max p1 p2))]))
    refine own_end X0 (Q := (QMX Z p1 p2 h0 n0)) (some (.long (own_max p1 p2))) Bd.notSynchronized (fun h => by rw [Bd.returns] at h; cases h) (fun fs hr => X0.lreturnOut hx Bd.returns (hb hby dMX_11) hr) ?_ (by decide) (by decide)
    rw [e0]
    exact ⟨rfl, N0, rfl⟩
  · skip
    refine own_st (S' := s₁.setTop (mkF m 6 #[.val (.long p1), .second, .val (.long p2), .second] [])) (fun _ kont => XS.ifNo X0.here hx rfl (hb hby dMX_3) rfl ((own_l_lt _ _).trans (decide_eq_false (p := Int64.toInt p1 < Int64.toInt p2) (hc3))) kont) ?_
    refine own_st (S' := s₁.setTop (mkF m 7 #[.val (.long p1), .second, .val (.long p2), .second] [(.long p1)])) (fun _ kont => XT.lloadN X0.here hx rfl (hb hby dMX_6) rfl kont) ?_
    refine own_st (S' := s₁.setTop (mkF m 11 #[.val (.long p1), .second, .val (.long p2), .second] [(.long p1)])) (fun _ kont => XS.goto X0.here hx rfl (pc0 := 7) (pc' := 11) rfl (hb hby dMX_7) (by decide) (by decide) kont) ?_
    have tq102 : p1 = (own_max p1 p2) := by unfold own_max; first | rw [if_pos (by omega)] | rw [if_neg (by omega)]
    refine own_cv (congrArg (fun z => s₁.setTop (mkF m 11 #[.val (.long p1), .second, .val (.long p2), .second] [(.long z)])) tq102) ?_
    show own_Go p.tables e below _ (s₁.setTop (mkF m 11 #[.val (.long p1), .second, .val (.long p2), .second] [(.long (own_max p1 p2))]))
    refine own_end X0 (Q := (QMX Z p1 p2 h0 n0)) (some (.long (own_max p1 p2))) Bd.notSynchronized (fun h => by rw [Bd.returns] at h; cases h) (fun fs hr => X0.lreturnOut hx Bd.returns (hb hby dMX_11) hr) ?_ (by decide) (by decide)
    rw [e0]
    exact ⟨rfl, N0, rfl⟩
theorem dU_0 : decode method_2_code 0 = .ok (.lload_n 0, 1) := by decide +kernel
theorem dU_1 : decode method_2_code 1 = .ok (.ldc2_w 9, 3) := by decide +kernel
theorem dU_4 : decode method_2_code 4 = .ok (.lxor, 1) := by decide +kernel
theorem dU_5 : decode method_2_code 5 = .ok (.lload_n 2, 1) := by decide +kernel
theorem dU_6 : decode method_2_code 6 = .ok (.ldc2_w 9, 3) := by decide +kernel
theorem dU_9 : decode method_2_code 9 = .ok (.lxor, 1) := by decide +kernel
theorem dU_10 : decode method_2_code 10 = .ok (.lcmp, 1) := by decide +kernel
theorem dU_11 : decode method_2_code 11 = .ok (.ifCond .gt 7, 3) := by decide +kernel
theorem dU_14 : decode method_2_code 14 = .ok (.iconst 1, 1) := by decide +kernel
theorem dU_15 : decode method_2_code 15 = .ok (.goto 4, 3) := by decide +kernel
theorem dU_18 : decode method_2_code 18 = .ok (.iconst 0, 1) := by decide +kernel
theorem dU_19 : decode method_2_code 19 = .ok (.ireturn, 1) := by decide +kernel
theorem pn_U : plainName "com/example/stride/stride/core/SequenceDefinitionContainsPinLaw" = true := by first | (simp [plainName, overriddenIn]; done) | decide +kernel
theorem pd_U : parseMethodDescriptor "(JJ)Z" = some ⟨[.long, .long], some .boolean⟩ := by decide +kernel
theorem ef_U (m : MethodId) (p1 : Int64) (p2 : Int64) : entryFrame m #[(.long p1), (.long p2)] 4 = mkF m 0 #[.val (.long p1), .second, .val (.long p2), .second] [] := by first | (simp [entryFrame, mkF, argsToLocals, Value.category]; done) | rfl
def QU (Z : State) (p1 : Int64) (p2 : Int64) (h0 : Heap) (n0 : Nat) (v : Option Value) (h : Heap) (L : List Loc) : Prop := v = some (.int (own_b (Int64.toInt (p1 ^^^ (-9223372036854775808 : Int64)) ≤ Int64.toInt (p2 ^^^ (-9223372036854775808 : Int64))))) ∧ Fr n0 L ∧ h = h0
set_option maxRecDepth 65536 in
set_option maxHeartbeats 40000000 in
theorem rmU (l : Launch) (Z : State) (a0 : Array Value) (hw : ∀ d ∈ tables_1, d.before a0 Z = true) (ws : List Jvm.Cond) (p1 : Int64) (p2 : Int64) (h0 : Heap) (n0 : Nat) (Z0 : n0 ≤ h0.size) :
    MetFree l (⟨"com/example/stride/stride/core/SequenceDefinitionContainsPinLaw", "unsignedLe", "(JJ)Z"⟩ : MethodName) (head1 (Jvm.Cond.code (⟨"com/example/stride/stride/core/SequenceDefinitionContainsPinLaw", "unsignedLe", "(JJ)Z"⟩ : MethodName) method_2_code 4 (some .boolean) :: ws) ({ frames := 0, cells := 0, slots := 0, locals := 0 } : Room)) (fun a U => a = #[(.long p1), (.long p2)] ∧ Z.Warmed39 U.vm ∧ U.heap = h0) (fun _ _ _ _ _ => True) (fun _ U o U' => ∃ v L, o = .returned v ∧ QU Z p1 p2 h0 n0 v U'.heap L ∧ FrameEnd U o U' L ({ frames := 0, cells := 0, slots := 0, locals := 0 } : Room).cells ({ frames := 0, cells := 0, slots := 0, locals := 0 } : Room).slots) := by
  refine MetFree.of_bodySF (plainFor_of_name pn_U) hisR ?_
  intro p e s m args below meth c s₁ Bd hml0 hP hK
  obtain ⟨rfl, hZ, hh⟩ := hP
  have hx := Bd.exec
  have hby := Bd.bytes
  have hml : c.maxLocals = 4 := hml0
  have hown : s.vm.findClass "com/example/stride/stride/core/SequenceDefinitionContainsPinLaw" = some m.cls := findClass_of_methodNamed Bd.named
  have hnm := (name_of_methodNamed Bd.named Bd.method).1
  have X0 : Stand p l e ({ frames := 0, cells := 0, slots := 0, locals := 0 } : Room) s m #[(.long p1), (.long p2)] below meth c s₁ [] 0 0 := Stand.of_body Bd
  have e0 : s₁.heap = h0 := by rw [← hh, Bd.state]; rfl
  have N0 := Fr.nil n0
  show own_Go p.tables e below (fun t o => ∃ v L, o = .returned v ∧ QU Z p1 p2 h0 n0 v t.heap L ∧ FrameEnd s o t L ({ frames := 0, cells := 0, slots := 0, locals := 0 } : Room).cells ({ frames := 0, cells := 0, slots := 0, locals := 0 } : Room).slots) (s₁.setTop (entryFrame m #[(.long p1), (.long p2)] 4))
  rw [ef_U]
  show own_Go p.tables e below _ (s₁.setTop (mkF m 0 #[.val (.long p1), .second, .val (.long p2), .second] []))
  refine own_st (S' := s₁.setTop (mkF m 1 #[.val (.long p1), .second, .val (.long p2), .second] [(.long p1)])) (fun _ kont => XT.lloadN X0.here hx rfl (hb hby dU_0) rfl kont) ?_
  refine own_st (S' := s₁.setTop (mkF m 4 #[.val (.long p1), .second, .val (.long p2), .second] [(.long (-9223372036854775808 : Int64)), (.long p1)])) (fun _ kont => X0.ldc2J hx hown (mvT hZ (hw _ (List.mem_of_getElem? (i := 33) rfl))) rfl (hb hby dU_1) kont) ?_
  refine own_st (S' := s₁.setTop (mkF m 5 #[.val (.long p1), .second, .val (.long p2), .second] [(.long (p1 ^^^ (-9223372036854775808 : Int64)))])) (fun _ kont => XT.lxor X0.here hx rfl (hb hby dU_4) rfl kont) ?_
  refine own_st (S' := s₁.setTop (mkF m 6 #[.val (.long p1), .second, .val (.long p2), .second] [(.long p2), (.long (p1 ^^^ (-9223372036854775808 : Int64)))])) (fun _ kont => XT.lloadN X0.here hx rfl (hb hby dU_5) rfl kont) ?_
  refine own_st (S' := s₁.setTop (mkF m 9 #[.val (.long p1), .second, .val (.long p2), .second] [(.long (-9223372036854775808 : Int64)), (.long p2), (.long (p1 ^^^ (-9223372036854775808 : Int64)))])) (fun _ kont => X0.ldc2J hx hown (mvT hZ (hw _ (List.mem_of_getElem? (i := 33) rfl))) rfl (hb hby dU_6) kont) ?_
  refine own_st (S' := s₁.setTop (mkF m 10 #[.val (.long p1), .second, .val (.long p2), .second] [(.long (p2 ^^^ (-9223372036854775808 : Int64))), (.long (p1 ^^^ (-9223372036854775808 : Int64)))])) (fun _ kont => XT.lxor X0.here hx rfl (hb hby dU_9) rfl kont) ?_
  refine own_st (S' := s₁.setTop (mkF m 11 #[.val (.long p1), .second, .val (.long p2), .second] [(.int (XT.cmpL (p1 ^^^ (-9223372036854775808 : Int64)) (p2 ^^^ (-9223372036854775808 : Int64))))])) (fun _ kont => XT.lcmp X0.here hx rfl (hb hby dU_10) rfl kont) ?_
  by_cases hc11 : Int64.toInt (p1 ^^^ (-9223372036854775808 : Int64)) > Int64.toInt (p2 ^^^ (-9223372036854775808 : Int64))
  · skip
    refine own_st (S' := s₁.setTop (mkF m 18 #[.val (.long p1), .second, .val (.long p2), .second] [])) (fun _ kont => XS.ifYes X0.here hx rfl (pc0 := 11) (pc' := 18) rfl (hb hby dU_11) rfl ((own_l_gt _ _).trans (decide_eq_true (p := Int64.toInt (p1 ^^^ (-9223372036854775808 : Int64)) > Int64.toInt (p2 ^^^ (-9223372036854775808 : Int64))) (hc11))) (by decide) (by decide) kont) ?_
    refine own_st (S' := s₁.setTop (mkF m 19 #[.val (.long p1), .second, .val (.long p2), .second] [(.int (0 : Int32))])) (fun _ kont => XS.iconst X0.here hx rfl (hb hby dU_18) kont) ?_
    have tq101 : (0 : Int32) = (own_b (Int64.toInt (p1 ^^^ (-9223372036854775808 : Int64)) ≤ Int64.toInt (p2 ^^^ (-9223372036854775808 : Int64)))) := (own_b0 (by omega)).symm
    refine own_cv (congrArg (fun z => s₁.setTop (mkF m 19 #[.val (.long p1), .second, .val (.long p2), .second] [(.int z)])) tq101) ?_
    show own_Go p.tables e below _ (s₁.setTop (mkF m 19 #[.val (.long p1), .second, .val (.long p2), .second] [(.int (own_b (Int64.toInt (p1 ^^^ (-9223372036854775808 : Int64)) ≤ Int64.toInt (p2 ^^^ (-9223372036854775808 : Int64)))))]))
    refine own_end X0 (Q := (QU Z p1 p2 h0 n0)) (some (.int (own_b (Int64.toInt (p1 ^^^ (-9223372036854775808 : Int64)) ≤ Int64.toInt (p2 ^^^ (-9223372036854775808 : Int64)))))) Bd.notSynchronized (fun h => by rw [Bd.returns] at h; cases h) (fun fs hr => retN X0 hx (t := .boolean) Bd.returns (by simp) (hb hby dU_19) (by rw [own_nb]; exact hr)) ?_ (by decide) (by decide)
    rw [e0]
    exact ⟨rfl, N0, rfl⟩
  · skip
    refine own_st (S' := s₁.setTop (mkF m 14 #[.val (.long p1), .second, .val (.long p2), .second] [])) (fun _ kont => XS.ifNo X0.here hx rfl (hb hby dU_11) rfl ((own_l_gt _ _).trans (decide_eq_false (p := Int64.toInt (p1 ^^^ (-9223372036854775808 : Int64)) > Int64.toInt (p2 ^^^ (-9223372036854775808 : Int64))) (hc11))) kont) ?_
    refine own_st (S' := s₁.setTop (mkF m 15 #[.val (.long p1), .second, .val (.long p2), .second] [(.int (1 : Int32))])) (fun _ kont => XS.iconst X0.here hx rfl (hb hby dU_14) kont) ?_
    refine own_st (S' := s₁.setTop (mkF m 19 #[.val (.long p1), .second, .val (.long p2), .second] [(.int (1 : Int32))])) (fun _ kont => XS.goto X0.here hx rfl (pc0 := 15) (pc' := 19) rfl (hb hby dU_15) (by decide) (by decide) kont) ?_
    have tq102 : (1 : Int32) = (own_b (Int64.toInt (p1 ^^^ (-9223372036854775808 : Int64)) ≤ Int64.toInt (p2 ^^^ (-9223372036854775808 : Int64)))) := (own_b1 (by omega)).symm
    refine own_cv (congrArg (fun z => s₁.setTop (mkF m 19 #[.val (.long p1), .second, .val (.long p2), .second] [(.int z)])) tq102) ?_
    show own_Go p.tables e below _ (s₁.setTop (mkF m 19 #[.val (.long p1), .second, .val (.long p2), .second] [(.int (own_b (Int64.toInt (p1 ^^^ (-9223372036854775808 : Int64)) ≤ Int64.toInt (p2 ^^^ (-9223372036854775808 : Int64)))))]))
    refine own_end X0 (Q := (QU Z p1 p2 h0 n0)) (some (.int (own_b (Int64.toInt (p1 ^^^ (-9223372036854775808 : Int64)) ≤ Int64.toInt (p2 ^^^ (-9223372036854775808 : Int64)))))) Bd.notSynchronized (fun h => by rw [Bd.returns] at h; cases h) (fun fs hr => retN X0 hx (t := .boolean) Bd.returns (by simp) (hb hby dU_19) (by rw [own_nb]; exact hr)) ?_ (by decide) (by decide)
    rw [e0]
    exact ⟨rfl, N0, rfl⟩
theorem dK_0 : decode prog_30_method_3_code 0 = .ok (.lload_n 1, 1) := by decide +kernel
theorem dK_1 : decode prog_30_method_3_code 1 = .ok (.aload_n 0, 1) := by decide +kernel
theorem dK_2 : decode prog_30_method_3_code 2 = .ok (.getfield 30, 3) := by decide +kernel
theorem dK_5 : decode prog_30_method_3_code 5 = .ok (.lcmp, 1) := by decide +kernel
theorem dK_6 : decode prog_30_method_3_code 6 = .ok (.ifCond .lt 16, 3) := by decide +kernel
theorem dK_9 : decode prog_30_method_3_code 9 = .ok (.lload_n 1, 1) := by decide +kernel
theorem dK_10 : decode prog_30_method_3_code 10 = .ok (.aload_n 0, 1) := by decide +kernel
theorem dK_11 : decode prog_30_method_3_code 11 = .ok (.getfield 33, 3) := by decide +kernel
theorem dK_14 : decode prog_30_method_3_code 14 = .ok (.lcmp, 1) := by decide +kernel
theorem dK_15 : decode prog_30_method_3_code 15 = .ok (.ifCond .gt 7, 3) := by decide +kernel
theorem dK_18 : decode prog_30_method_3_code 18 = .ok (.iconst 1, 1) := by decide +kernel
theorem dK_19 : decode prog_30_method_3_code 19 = .ok (.goto 4, 3) := by decide +kernel
theorem dK_22 : decode prog_30_method_3_code 22 = .ok (.iconst 0, 1) := by decide +kernel
theorem dK_23 : decode prog_30_method_3_code 23 = .ok (.ireturn, 1) := by decide +kernel
theorem pn_K : plainName "com/example/stride/stride/core/SequenceDefinition" = true := by first | (simp [plainName, overriddenIn]; done) | decide +kernel
theorem pd_K : parseMethodDescriptor "(J)Z" = some ⟨[.long], some .boolean⟩ := by decide +kernel
theorem ef_K (m : MethodId) (a1 : Addr) (p1 : Int64) : entryFrame m #[(.ref a1), (.long p1)] 3 = mkF m 0 #[.val (.ref a1), .val (.long p1), .second] [] := by first | (simp [entryFrame, mkF, argsToLocals, Value.category]; done) | rfl
def QK (Z : State) (a1 : Addr) (p1 : Int64) (lo : Int64) (hi : Int64) (h0 : Heap) (n0 : Nat) (v : Option Value) (h : Heap) (L : List Loc) : Prop := v = some (.int (own_b (Int64.toInt lo ≤ Int64.toInt p1 ∧ Int64.toInt p1 ≤ Int64.toInt hi))) ∧ Fr n0 L ∧ h = h0
set_option maxRecDepth 65536 in
set_option maxHeartbeats 40000000 in
theorem rmK (l : Launch) (Z : State) (a0 : Array Value) (hw : ∀ d ∈ tables_1, d.before a0 Z = true) (ws : List Jvm.Cond) (a1 : Addr) (p1 : Int64) (lo : Int64) (hi : Int64) (h0 : Heap) (n0 : Nat) (Z0 : n0 ≤ h0.size) (Fm : (Fld Z h0 a1 "com/example/stride/stride/core/SequenceDefinition" "min" "J" (.long lo))) (Fx : (Fld Z h0 a1 "com/example/stride/stride/core/SequenceDefinition" "max" "J" (.long hi))) :
    MetFree l (⟨"com/example/stride/stride/core/SequenceDefinition", "contains", "(J)Z"⟩ : MethodName) (head1 (Jvm.Cond.code (⟨"com/example/stride/stride/core/SequenceDefinition", "contains", "(J)Z"⟩ : MethodName) prog_30_method_3_code 3 (some .boolean) :: ws) ({ frames := 0, cells := 0, slots := 0, locals := 0 } : Room)) (fun a U => a = #[(.ref a1), (.long p1)] ∧ Z.Warmed39 U.vm ∧ U.heap = h0) (fun _ _ _ _ _ => True) (fun _ U o U' => ∃ v L, o = .returned v ∧ QK Z a1 p1 lo hi h0 n0 v U'.heap L ∧ FrameEnd U o U' L ({ frames := 0, cells := 0, slots := 0, locals := 0 } : Room).cells ({ frames := 0, cells := 0, slots := 0, locals := 0 } : Room).slots) := by
  refine MetFree.of_bodySF (plainFor_of_name pn_K) hisR ?_
  intro p e s m args below meth c s₁ Bd hml0 hP hK
  obtain ⟨rfl, hZ, hh⟩ := hP
  have hx := Bd.exec
  have hby := Bd.bytes
  have hml : c.maxLocals = 3 := hml0
  have hown : s.vm.findClass "com/example/stride/stride/core/SequenceDefinition" = some m.cls := findClass_of_methodNamed Bd.named
  have hnm := (name_of_methodNamed Bd.named Bd.method).1
  have X0 : Stand p l e ({ frames := 0, cells := 0, slots := 0, locals := 0 } : Room) s m #[(.ref a1), (.long p1)] below meth c s₁ [] 0 0 := Stand.of_body Bd
  have e0 : s₁.heap = h0 := by rw [← hh, Bd.state]; rfl
  have N0 := Fr.nil n0
  show own_Go p.tables e below (fun t o => ∃ v L, o = .returned v ∧ QK Z a1 p1 lo hi h0 n0 v t.heap L ∧ FrameEnd s o t L ({ frames := 0, cells := 0, slots := 0, locals := 0 } : Room).cells ({ frames := 0, cells := 0, slots := 0, locals := 0 } : Room).slots) (s₁.setTop (entryFrame m #[(.ref a1), (.long p1)] 3))
  rw [ef_K]
  show own_Go p.tables e below _ (s₁.setTop (mkF m 0 #[.val (.ref a1), .val (.long p1), .second] []))
  refine own_st (S' := s₁.setTop (mkF m 1 #[.val (.ref a1), .val (.long p1), .second] [(.long p1)])) (fun _ kont => XT.lloadN X0.here hx rfl (hb hby dK_0) rfl kont) ?_
  refine own_st (S' := s₁.setTop (mkF m 2 #[.val (.ref a1), .val (.long p1), .second] [(.ref a1), (.long p1)])) (fun _ kont => XS.aloadN X0.here hx rfl (hb hby dK_1) rfl rfl kont) ?_
  obtain ⟨T101, X101, e101, st101⟩ := getF X0 hx hZ hown (host := "") (Or.inl (hw _ (List.mem_of_getElem? (i := 25) rfl))) Via.refl e0 Fm (g := (mkF m 2 #[.val (.ref a1), .val (.long p1), .second] [(.ref a1), (.long p1)])) rfl rfl (hb hby dK_2)
  refine own_st (S' := T101.setTop (mkF m 5 #[.val (.ref a1), .val (.long p1), .second] [(.long lo), (.long p1)])) st101 ?_
  refine own_st (S' := T101.setTop (mkF m 6 #[.val (.ref a1), .val (.long p1), .second] [(.int (XT.cmpL p1 lo))])) (fun _ kont => XT.lcmp X101.here hx rfl (hb hby dK_5) rfl kont) ?_
  by_cases hc6 : Int64.toInt p1 < Int64.toInt lo
  · skip
    refine own_st (S' := T101.setTop (mkF m 22 #[.val (.ref a1), .val (.long p1), .second] [])) (fun _ kont => XS.ifYes X101.here hx rfl (pc0 := 6) (pc' := 22) rfl (hb hby dK_6) rfl ((own_l_lt _ _).trans (decide_eq_true (p := Int64.toInt p1 < Int64.toInt lo) (hc6))) (by decide) (by decide) kont) ?_
    refine own_st (S' := T101.setTop (mkF m 23 #[.val (.ref a1), .val (.long p1), .second] [(.int (0 : Int32))])) (fun _ kont => XS.iconst X101.here hx rfl (hb hby dK_22) kont) ?_
    have tq102 : (0 : Int32) = (own_b (Int64.toInt lo ≤ Int64.toInt p1 ∧ Int64.toInt p1 ≤ Int64.toInt hi)) := (own_b0 (by omega)).symm
    refine own_cv (congrArg (fun z => T101.setTop (mkF m 23 #[.val (.ref a1), .val (.long p1), .second] [(.int z)])) tq102) ?_
    show own_Go p.tables e below _ (T101.setTop (mkF m 23 #[.val (.ref a1), .val (.long p1), .second] [(.int (own_b (Int64.toInt lo ≤ Int64.toInt p1 ∧ Int64.toInt p1 ≤ Int64.toInt hi)))]))
    refine own_end X101 (Q := (QK Z a1 p1 lo hi h0 n0)) (some (.int (own_b (Int64.toInt lo ≤ Int64.toInt p1 ∧ Int64.toInt p1 ≤ Int64.toInt hi)))) Bd.notSynchronized (fun h => by rw [Bd.returns] at h; cases h) (fun fs hr => retN X101 hx (t := .boolean) Bd.returns (by simp) (hb hby dK_23) (by rw [own_nb]; exact hr)) ?_ (by decide) (by decide)
    rw [e101]
    exact ⟨rfl, N0, rfl⟩
  · skip
    refine own_st (S' := T101.setTop (mkF m 9 #[.val (.ref a1), .val (.long p1), .second] [])) (fun _ kont => XS.ifNo X101.here hx rfl (hb hby dK_6) rfl ((own_l_lt _ _).trans (decide_eq_false (p := Int64.toInt p1 < Int64.toInt lo) (hc6))) kont) ?_
    refine own_st (S' := T101.setTop (mkF m 10 #[.val (.ref a1), .val (.long p1), .second] [(.long p1)])) (fun _ kont => XT.lloadN X101.here hx rfl (hb hby dK_9) rfl kont) ?_
    refine own_st (S' := T101.setTop (mkF m 11 #[.val (.ref a1), .val (.long p1), .second] [(.ref a1), (.long p1)])) (fun _ kont => XS.aloadN X101.here hx rfl (hb hby dK_10) rfl rfl kont) ?_
    obtain ⟨T103, X103, e103, st103⟩ := getF X101 hx hZ hown (host := "") (Or.inl (hw _ (List.mem_of_getElem? (i := 27) rfl))) Via.refl e101 Fx (g := (mkF m 11 #[.val (.ref a1), .val (.long p1), .second] [(.ref a1), (.long p1)])) rfl rfl (hb hby dK_11)
    refine own_st (S' := T103.setTop (mkF m 14 #[.val (.ref a1), .val (.long p1), .second] [(.long hi), (.long p1)])) st103 ?_
    refine own_st (S' := T103.setTop (mkF m 15 #[.val (.ref a1), .val (.long p1), .second] [(.int (XT.cmpL p1 hi))])) (fun _ kont => XT.lcmp X103.here hx rfl (hb hby dK_14) rfl kont) ?_
    by_cases hc15 : Int64.toInt p1 > Int64.toInt hi
    · skip
      refine own_st (S' := T103.setTop (mkF m 22 #[.val (.ref a1), .val (.long p1), .second] [])) (fun _ kont => XS.ifYes X103.here hx rfl (pc0 := 15) (pc' := 22) rfl (hb hby dK_15) rfl ((own_l_gt _ _).trans (decide_eq_true (p := Int64.toInt p1 > Int64.toInt hi) (hc15))) (by decide) (by decide) kont) ?_
      refine own_st (S' := T103.setTop (mkF m 23 #[.val (.ref a1), .val (.long p1), .second] [(.int (0 : Int32))])) (fun _ kont => XS.iconst X103.here hx rfl (hb hby dK_22) kont) ?_
      have tq104 : (0 : Int32) = (own_b (Int64.toInt lo ≤ Int64.toInt p1 ∧ Int64.toInt p1 ≤ Int64.toInt hi)) := (own_b0 (by omega)).symm
      refine own_cv (congrArg (fun z => T103.setTop (mkF m 23 #[.val (.ref a1), .val (.long p1), .second] [(.int z)])) tq104) ?_
      show own_Go p.tables e below _ (T103.setTop (mkF m 23 #[.val (.ref a1), .val (.long p1), .second] [(.int (own_b (Int64.toInt lo ≤ Int64.toInt p1 ∧ Int64.toInt p1 ≤ Int64.toInt hi)))]))
      refine own_end X103 (Q := (QK Z a1 p1 lo hi h0 n0)) (some (.int (own_b (Int64.toInt lo ≤ Int64.toInt p1 ∧ Int64.toInt p1 ≤ Int64.toInt hi)))) Bd.notSynchronized (fun h => by rw [Bd.returns] at h; cases h) (fun fs hr => retN X103 hx (t := .boolean) Bd.returns (by simp) (hb hby dK_23) (by rw [own_nb]; exact hr)) ?_ (by decide) (by decide)
      rw [e103]
      exact ⟨rfl, N0, rfl⟩
    · skip
      refine own_st (S' := T103.setTop (mkF m 18 #[.val (.ref a1), .val (.long p1), .second] [])) (fun _ kont => XS.ifNo X103.here hx rfl (hb hby dK_15) rfl ((own_l_gt _ _).trans (decide_eq_false (p := Int64.toInt p1 > Int64.toInt hi) (hc15))) kont) ?_
      refine own_st (S' := T103.setTop (mkF m 19 #[.val (.ref a1), .val (.long p1), .second] [(.int (1 : Int32))])) (fun _ kont => XS.iconst X103.here hx rfl (hb hby dK_18) kont) ?_
      refine own_st (S' := T103.setTop (mkF m 23 #[.val (.ref a1), .val (.long p1), .second] [(.int (1 : Int32))])) (fun _ kont => XS.goto X103.here hx rfl (pc0 := 19) (pc' := 23) rfl (hb hby dK_19) (by decide) (by decide) kont) ?_
      have tq105 : (1 : Int32) = (own_b (Int64.toInt lo ≤ Int64.toInt p1 ∧ Int64.toInt p1 ≤ Int64.toInt hi)) := (own_b1 (by omega)).symm
      refine own_cv (congrArg (fun z => T103.setTop (mkF m 23 #[.val (.ref a1), .val (.long p1), .second] [(.int z)])) tq105) ?_
      show own_Go p.tables e below _ (T103.setTop (mkF m 23 #[.val (.ref a1), .val (.long p1), .second] [(.int (own_b (Int64.toInt lo ≤ Int64.toInt p1 ∧ Int64.toInt p1 ≤ Int64.toInt hi)))]))
      refine own_end X103 (Q := (QK Z a1 p1 lo hi h0 n0)) (some (.int (own_b (Int64.toInt lo ≤ Int64.toInt p1 ∧ Int64.toInt p1 ≤ Int64.toInt hi)))) Bd.notSynchronized (fun h => by rw [Bd.returns] at h; cases h) (fun fs hr => retN X103 hx (t := .boolean) Bd.returns (by simp) (hb hby dK_23) (by rw [own_nb]; exact hr)) ?_ (by decide) (by decide)
      rw [e103]
      exact ⟨rfl, N0, rfl⟩
theorem dR_0 : decode jdk_30_method_1_code 0 = .ok (.aload_n 0, 1) := by decide +kernel
theorem dR_1 : decode jdk_30_method_1_code 1 = .ok (.invokespecial 1, 3) := by decide +kernel
theorem dR_4 : decode jdk_30_method_1_code 4 = .ok (.return_, 1) := by decide +kernel
theorem pn_R : plainName "java/lang/Record" = true := by first | (simp [plainName, overriddenIn]; done) | decide +kernel
theorem pd_R : parseMethodDescriptor "()V" = some ⟨[], none⟩ := by decide +kernel
theorem ef_R (m : MethodId) (a1 : Addr) : entryFrame m #[(.ref a1)] 1 = mkF m 0 #[.val (.ref a1)] [] := by first | (simp [entryFrame, mkF, argsToLocals, Value.category]; done) | rfl
def QR (Z : State) (a1 : Addr) (h0 : Heap) (n0 : Nat) (v : Option Value) (h : Heap) (L : List Loc) : Prop := v = none ∧ Fr n0 L ∧ h = h0
set_option maxRecDepth 65536 in
set_option maxHeartbeats 40000000 in
theorem rmR (l : Launch) (Z : State) (a0 : Array Value) (hw : ∀ d ∈ tables_1, d.before a0 Z = true) (ws : List Jvm.Cond) (a1 : Addr) (h0 : Heap) (n0 : Nat) (Z0 : n0 ≤ h0.size) :
    MetFree l (⟨"java/lang/Record", "<init>", "()V"⟩ : MethodName) (head1 (Jvm.Cond.code (⟨"java/lang/Record", "<init>", "()V"⟩ : MethodName) jdk_30_method_1_code 1 none :: ws) ({ frames := 1, cells := 0, slots := 0, locals := 12 } : Room)) (fun a U => a = #[(.ref a1)] ∧ Z.Warmed39 U.vm ∧ U.heap = h0) (fun _ _ _ _ _ => True) (fun _ U o U' => ∃ v L, o = .returned v ∧ QR Z a1 h0 n0 v U'.heap L ∧ FrameEnd U o U' L ({ frames := 1, cells := 0, slots := 0, locals := 12 } : Room).cells ({ frames := 1, cells := 0, slots := 0, locals := 12 } : Room).slots) := by
  refine MetFree.of_bodySF (plainFor_of_name pn_R) hisR ?_
  intro p e s m args below meth c s₁ Bd hml0 hP hK
  obtain ⟨rfl, hZ, hh⟩ := hP
  have hx := Bd.exec
  have hby := Bd.bytes
  have hml : c.maxLocals = 1 := hml0
  have hown : s.vm.findClass "java/lang/Record" = some m.cls := findClass_of_methodNamed Bd.named
  have hnm := (name_of_methodNamed Bd.named Bd.method).1
  have X0 : Stand p l e ({ frames := 1, cells := 0, slots := 0, locals := 12 } : Room) s m #[(.ref a1)] below meth c s₁ [] 0 0 := Stand.of_body Bd
  have e0 : s₁.heap = h0 := by rw [← hh, Bd.state]; rfl
  have N0 := Fr.nil n0
  show own_Go p.tables e below (fun t o => ∃ v L, o = .returned v ∧ QR Z a1 h0 n0 v t.heap L ∧ FrameEnd s o t L ({ frames := 1, cells := 0, slots := 0, locals := 12 } : Room).cells ({ frames := 1, cells := 0, slots := 0, locals := 12 } : Room).slots) (s₁.setTop (entryFrame m #[(.ref a1)] 1))
  rw [ef_R]
  show own_Go p.tables e below _ (s₁.setTop (mkF m 0 #[.val (.ref a1)] []))
  refine own_st (S' := s₁.setTop (mkF m 1 #[.val (.ref a1)] [(.ref a1)])) (fun _ kont => XS.aloadN X0.here hx rfl (hb hby dR_0) rfl rfl kont) ?_
  obtain ⟨T101, X101, e101, st101⟩ := initO X0 hx hZ hown (hw _ (List.mem_of_getElem? (i := 18) rfl)) (hw _ (List.mem_of_getElem? (i := 19) rfl)) (hw _ (List.mem_of_getElem? (i := 20) rfl)) e0 (g := (mkF m 1 #[.val (.ref a1)] [(.ref a1)])) rfl (by rw [hml]; rfl) rfl (hb hby dR_1) (by decide) (W := 0) (by show 2 * 0 + _ ≤ _; exact Nat.le_of_eq rfl) (by decide)
  refine own_st (S' := T101.setTop (mkF m 4 #[.val (.ref a1)] [])) st101 ?_
  refine own_end X101 (Q := (QR Z a1 h0 n0)) none Bd.notSynchronized (fun _ => rfl) (fun fs hr => X101.returnOut hx Bd.returns (hb hby dR_4) hr) ?_ (by decide) (by decide)
  rw [e101]
  exact ⟨rfl, N0, rfl⟩
theorem dI_0 : decode prog_30_method_1_code 0 = .ok (.aload_n 0, 1) := by decide +kernel
theorem dI_1 : decode prog_30_method_1_code 1 = .ok (.invokespecial 1, 3) := by decide +kernel
theorem dI_4 : decode prog_30_method_1_code 4 = .ok (.lload_n 3, 1) := by decide +kernel
theorem dI_5 : decode prog_30_method_1_code 5 = .ok (.lconst 0, 1) := by decide +kernel
theorem dI_6 : decode prog_30_method_1_code 6 = .ok (.lcmp, 1) := by decide +kernel
theorem dI_7 : decode prog_30_method_1_code 7 = .ok (.ifCond .ne 13, 3) := by decide +kernel
theorem dI_10 : decode prog_30_method_1_code 10 = .ok (.new 7, 3) := by decide +kernel
theorem dI_13 : decode prog_30_method_1_code 13 = .ok (.dup, 1) := by decide +kernel
theorem dI_14 : decode prog_30_method_1_code 14 = .ok (.ldc 9, 2) := by decide +kernel
theorem dI_16 : decode prog_30_method_1_code 16 = .ok (.invokespecial 11, 3) := by decide +kernel
theorem dI_19 : decode prog_30_method_1_code 19 = .ok (.athrow, 1) := by decide +kernel
theorem dI_20 : decode prog_30_method_1_code 20 = .ok (.lload 5, 2) := by decide +kernel
theorem dI_22 : decode prog_30_method_1_code 22 = .ok (.lload 7, 2) := by decide +kernel
theorem dI_24 : decode prog_30_method_1_code 24 = .ok (.lcmp, 1) := by decide +kernel
theorem dI_25 : decode prog_30_method_1_code 25 = .ok (.ifCond .lt 20, 3) := by decide +kernel
theorem dI_28 : decode prog_30_method_1_code 28 = .ok (.new 7, 3) := by decide +kernel
theorem dI_31 : decode prog_30_method_1_code 31 = .ok (.dup, 1) := by decide +kernel
theorem dI_32 : decode prog_30_method_1_code 32 = .ok (.lload 5, 2) := by decide +kernel
theorem dI_34 : decode prog_30_method_1_code 34 = .ok (.lload 7, 2) := by decide +kernel
theorem dI_36 : decode prog_30_method_1_code 36 = .ok (.invokedynamic 14, 5) := by decide +kernel
theorem dI_41 : decode prog_30_method_1_code 41 = .ok (.invokespecial 11, 3) := by decide +kernel
theorem dI_44 : decode prog_30_method_1_code 44 = .ok (.athrow, 1) := by decide +kernel
theorem dI_45 : decode prog_30_method_1_code 45 = .ok (.lload_n 1, 1) := by decide +kernel
theorem dI_46 : decode prog_30_method_1_code 46 = .ok (.lload 5, 2) := by decide +kernel
theorem dI_48 : decode prog_30_method_1_code 48 = .ok (.lcmp, 1) := by decide +kernel
theorem dI_49 : decode prog_30_method_1_code 49 = .ok (.ifCond .lt 10, 3) := by decide +kernel
theorem dI_52 : decode prog_30_method_1_code 52 = .ok (.lload_n 1, 1) := by decide +kernel
theorem dI_53 : decode prog_30_method_1_code 53 = .ok (.lload 7, 2) := by decide +kernel
theorem dI_55 : decode prog_30_method_1_code 55 = .ok (.lcmp, 1) := by decide +kernel
theorem dI_56 : decode prog_30_method_1_code 56 = .ok (.ifCond .le 21, 3) := by decide +kernel
theorem dI_59 : decode prog_30_method_1_code 59 = .ok (.new 7, 3) := by decide +kernel
theorem dI_62 : decode prog_30_method_1_code 62 = .ok (.dup, 1) := by decide +kernel
theorem dI_63 : decode prog_30_method_1_code 63 = .ok (.lload_n 1, 1) := by decide +kernel
theorem dI_64 : decode prog_30_method_1_code 64 = .ok (.lload 5, 2) := by decide +kernel
theorem dI_66 : decode prog_30_method_1_code 66 = .ok (.lload 7, 2) := by decide +kernel
theorem dI_68 : decode prog_30_method_1_code 68 = .ok (.invokedynamic 18, 5) := by decide +kernel
theorem dI_73 : decode prog_30_method_1_code 73 = .ok (.invokespecial 11, 3) := by decide +kernel
theorem dI_76 : decode prog_30_method_1_code 76 = .ok (.athrow, 1) := by decide +kernel
theorem dI_77 : decode prog_30_method_1_code 77 = .ok (.aload_n 0, 1) := by decide +kernel
theorem dI_78 : decode prog_30_method_1_code 78 = .ok (.lload_n 1, 1) := by decide +kernel
theorem dI_79 : decode prog_30_method_1_code 79 = .ok (.putfield 21, 3) := by decide +kernel
theorem dI_82 : decode prog_30_method_1_code 82 = .ok (.aload_n 0, 1) := by decide +kernel
theorem dI_83 : decode prog_30_method_1_code 83 = .ok (.lload_n 3, 1) := by decide +kernel
theorem dI_84 : decode prog_30_method_1_code 84 = .ok (.putfield 27, 3) := by decide +kernel
theorem dI_87 : decode prog_30_method_1_code 87 = .ok (.aload_n 0, 1) := by decide +kernel
theorem dI_88 : decode prog_30_method_1_code 88 = .ok (.lload 5, 2) := by decide +kernel
theorem dI_90 : decode prog_30_method_1_code 90 = .ok (.putfield 30, 3) := by decide +kernel
theorem dI_93 : decode prog_30_method_1_code 93 = .ok (.aload_n 0, 1) := by decide +kernel
theorem dI_94 : decode prog_30_method_1_code 94 = .ok (.lload 7, 2) := by decide +kernel
theorem dI_96 : decode prog_30_method_1_code 96 = .ok (.putfield 33, 3) := by decide +kernel
theorem dI_99 : decode prog_30_method_1_code 99 = .ok (.return_, 1) := by decide +kernel
theorem pn_I : plainName "com/example/stride/stride/core/SequenceDefinition" = true := by first | (simp [plainName, overriddenIn]; done) | decide +kernel
theorem pd_I : parseMethodDescriptor "(JJJJ)V" = some ⟨[.long, .long, .long, .long], none⟩ := by decide +kernel
theorem ef_I (m : MethodId) (a1 : Addr) (p1 : Int64) (p2 : Int64) (p3 : Int64) (p4 : Int64) : entryFrame m #[(.ref a1), (.long p1), (.long p2), (.long p3), (.long p4)] 9 = mkF m 0 #[.val (.ref a1), .val (.long p1), .second, .val (.long p2), .second, .val (.long p3), .second, .val (.long p4), .second] [] := by first | (simp [entryFrame, mkF, argsToLocals, Value.category]; done) | rfl
def QI (Z : State) (a1 : Addr) (p1 : Int64) (p2 : Int64) (p3 : Int64) (p4 : Int64) (h0 : Heap) (n0 : Nat) (v : Option Value) (h : Heap) (L : List Loc) : Prop := v = none ∧ Fr n0 L ∧ Keep h0 h [a1] ∧ (Exa Z h a1 "com/example/stride/stride/core/SequenceDefinition") ∧ (Fld Z h a1 "com/example/stride/stride/core/SequenceDefinition" "min" "J" (.long p3)) ∧ (Fld Z h a1 "com/example/stride/stride/core/SequenceDefinition" "max" "J" (.long p4))
set_option maxRecDepth 65536 in
set_option maxHeartbeats 40000000 in
theorem rmI (l : Launch) (Z : State) (a0 : Array Value) (hw : ∀ d ∈ tables_1, d.before a0 Z = true) (ws : List Jvm.Cond) (a1 : Addr) (p1 : Int64) (p2 : Int64) (p3 : Int64) (p4 : Int64) (h0 : Heap) (n0 : Nat) (Z0 : n0 ≤ h0.size) (Fstart : (Fld Z h0 a1 "com/example/stride/stride/core/SequenceDefinition" "start" "J" (.long (0 : Int64)))) (Fincrement : (Fld Z h0 a1 "com/example/stride/stride/core/SequenceDefinition" "increment" "J" (.long (0 : Int64)))) (Fmin : (Fld Z h0 a1 "com/example/stride/stride/core/SequenceDefinition" "min" "J" (.long (0 : Int64)))) (Fmax : (Fld Z h0 a1 "com/example/stride/stride/core/SequenceDefinition" "max" "J" (.long (0 : Int64)))) (E : (Exa Z h0 a1 "com/example/stride/stride/core/SequenceDefinition")) (g9 : n0 ≤ a1) (c2 : Int64.toInt p2 ≠ 0) (c3 : Int64.toInt p3 < Int64.toInt p4) (c4 : Int64.toInt p3 ≤ Int64.toInt p1) (c5 : Int64.toInt p1 ≤ Int64.toInt p4) :
    MetFree l (⟨"com/example/stride/stride/core/SequenceDefinition", "<init>", "(JJJJ)V"⟩ : MethodName) (head1 (Jvm.Cond.code (⟨"com/example/stride/stride/core/SequenceDefinition", "<init>", "(JJJJ)V"⟩ : MethodName) prog_30_method_1_code 9 none :: ws) ({ frames := 2, cells := 0, slots := 0, locals := 24 } : Room)) (fun a U => a = #[(.ref a1), (.long p1), (.long p2), (.long p3), (.long p4)] ∧ Z.Warmed39 U.vm ∧ U.heap = h0) (fun _ _ _ _ _ => True) (fun _ U o U' => ∃ v L, o = .returned v ∧ QI Z a1 p1 p2 p3 p4 h0 n0 v U'.heap L ∧ FrameEnd U o U' L ({ frames := 2, cells := 0, slots := 0, locals := 24 } : Room).cells ({ frames := 2, cells := 0, slots := 0, locals := 24 } : Room).slots) := by
  refine MetFree.of_bodySF (plainFor_of_name pn_I) hisR ?_
  intro p e s m args below meth c s₁ Bd hml0 hP hK
  obtain ⟨rfl, hZ, hh⟩ := hP
  have hx := Bd.exec
  have hby := Bd.bytes
  have hml : c.maxLocals = 9 := hml0
  have hown : s.vm.findClass "com/example/stride/stride/core/SequenceDefinition" = some m.cls := findClass_of_methodNamed Bd.named
  have hnm := (name_of_methodNamed Bd.named Bd.method).1
  have X0 : Stand p l e ({ frames := 2, cells := 0, slots := 0, locals := 24 } : Room) s m #[(.ref a1), (.long p1), (.long p2), (.long p3), (.long p4)] below meth c s₁ [] 0 0 := Stand.of_body Bd
  have e0 : s₁.heap = h0 := by rw [← hh, Bd.state]; rfl
  have N0 := Fr.nil n0
  show own_Go p.tables e below (fun t o => ∃ v L, o = .returned v ∧ QI Z a1 p1 p2 p3 p4 h0 n0 v t.heap L ∧ FrameEnd s o t L ({ frames := 2, cells := 0, slots := 0, locals := 24 } : Room).cells ({ frames := 2, cells := 0, slots := 0, locals := 24 } : Room).slots) (s₁.setTop (entryFrame m #[(.ref a1), (.long p1), (.long p2), (.long p3), (.long p4)] 9))
  rw [ef_I]
  show own_Go p.tables e below _ (s₁.setTop (mkF m 0 #[.val (.ref a1), .val (.long p1), .second, .val (.long p2), .second, .val (.long p3), .second, .val (.long p4), .second] []))
  refine own_st (S' := s₁.setTop (mkF m 1 #[.val (.ref a1), .val (.long p1), .second, .val (.long p2), .second, .val (.long p3), .second, .val (.long p4), .second] [(.ref a1)])) (fun _ kont => XS.aloadN X0.here hx rfl (hb hby dI_0) rfl rfl kont) ?_
  obtain ⟨_, _, ⟨T101, L101, k101, n101⟩, -, X101, ⟨Lc101, hQ101, l101, y101, z101⟩, st101⟩ := X0.specialBack hx (y := (⟨"java/lang/Record", "<init>", "()V"⟩ : MethodName)) rfl hown (mvT hZ (hw _ (List.mem_of_getElem? (i := 13) rfl))) (mvT hZ (hw _ (List.mem_of_getElem? (i := 14) rfl))) (mvT hZ (hw _ (List.mem_of_getElem? (i := 17) rfl))) (by decide) (backOf (W := 0) (rmR l Z a0 hw [] a1 h0 n0 Z0) hZ (hw _ (List.mem_of_getElem? (i := 17) rfl)) (hw _ (List.mem_of_getElem? (i := 16) rfl)) (by decide) (by decide)) (g := (mkF m 1 #[.val (.ref a1), .val (.long p1), .second, .val (.long p2), .second, .val (.long p3), .second, .val (.long p4), .second] [(.ref a1)])) rfl (by rw [hml]; rfl) (Steps.refl _) (a := a1) (argsL := []) (rest := []) (lenOf pd_R rfl) rfl (by show 2 * 0 + _ ≤ _; exact Nat.le_of_eq rfl) (hb hby dI_1) (fun _ _ => ⟨rfl, e0, (by dsimp only [Pt.cells]; decide), (by dsimp only [Pt.slots]; decide)⟩)
  dsimp only [Pt.U, Pt.locs, Pt.cells, Pt.slots] at X101 l101 y101 z101 st101 hQ101
  subst l101 y101 z101
  obtain ⟨rfl, N101, hh101⟩ := hQ101
  refine own_tr (S' := T101.setTop (mkF m 4 #[.val (.ref a1), .val (.long p1), .second, .val (.long p2), .second, .val (.long p3), .second, .val (.long p4), .second] [])) st101 ?_
  have Nr := Fr.app N0 N101
  refine own_st (S' := T101.setTop (mkF m 5 #[.val (.ref a1), .val (.long p1), .second, .val (.long p2), .second, .val (.long p3), .second, .val (.long p4), .second] [(.long p2)])) (fun _ kont => XT.lloadN X101.here hx rfl (hb hby dI_4) rfl kont) ?_
  refine own_st (S' := T101.setTop (mkF m 6 #[.val (.ref a1), .val (.long p1), .second, .val (.long p2), .second, .val (.long p3), .second, .val (.long p4), .second] [(.long (0 : Int64)), (.long p2)])) (fun _ kont => XT.lconst X101.here hx rfl (hb hby dI_5) kont) ?_
  refine own_st (S' := T101.setTop (mkF m 7 #[.val (.ref a1), .val (.long p1), .second, .val (.long p2), .second, .val (.long p3), .second, .val (.long p4), .second] [(.int (XT.cmpL p2 (0 : Int64)))])) (fun _ kont => XT.lcmp X101.here hx rfl (hb hby dI_6) rfl kont) ?_
  refine own_st (S' := T101.setTop (mkF m 20 #[.val (.ref a1), .val (.long p1), .second, .val (.long p2), .second, .val (.long p3), .second, .val (.long p4), .second] [])) (fun _ kont => XS.ifYes X101.here hx rfl (pc0 := 7) (pc' := 20) rfl (hb hby dI_7) rfl ((own_l_ne _ _).trans (decide_eq_true (p := Int64.toInt p2 ≠ 0) (c2))) (by decide) (by decide) kont) ?_
  refine own_st (S' := T101.setTop (mkF m 22 #[.val (.ref a1), .val (.long p1), .second, .val (.long p2), .second, .val (.long p3), .second, .val (.long p4), .second] [(.long p3)])) (fun _ kont => XT.lload X101.here hx rfl (hb hby dI_20) rfl kont) ?_
  refine own_st (S' := T101.setTop (mkF m 24 #[.val (.ref a1), .val (.long p1), .second, .val (.long p2), .second, .val (.long p3), .second, .val (.long p4), .second] [(.long p4), (.long p3)])) (fun _ kont => XT.lload X101.here hx rfl (hb hby dI_22) rfl kont) ?_
  refine own_st (S' := T101.setTop (mkF m 25 #[.val (.ref a1), .val (.long p1), .second, .val (.long p2), .second, .val (.long p3), .second, .val (.long p4), .second] [(.int (XT.cmpL p3 p4))])) (fun _ kont => XT.lcmp X101.here hx rfl (hb hby dI_24) rfl kont) ?_
  refine own_st (S' := T101.setTop (mkF m 45 #[.val (.ref a1), .val (.long p1), .second, .val (.long p2), .second, .val (.long p3), .second, .val (.long p4), .second] [])) (fun _ kont => XS.ifYes X101.here hx rfl (pc0 := 25) (pc' := 45) rfl (hb hby dI_25) rfl ((own_l_lt _ _).trans (decide_eq_true (p := Int64.toInt p3 < Int64.toInt p4) (c3))) (by decide) (by decide) kont) ?_
  refine own_st (S' := T101.setTop (mkF m 46 #[.val (.ref a1), .val (.long p1), .second, .val (.long p2), .second, .val (.long p3), .second, .val (.long p4), .second] [(.long p1)])) (fun _ kont => XT.lloadN X101.here hx rfl (hb hby dI_45) rfl kont) ?_
  refine own_st (S' := T101.setTop (mkF m 48 #[.val (.ref a1), .val (.long p1), .second, .val (.long p2), .second, .val (.long p3), .second, .val (.long p4), .second] [(.long p3), (.long p1)])) (fun _ kont => XT.lload X101.here hx rfl (hb hby dI_46) rfl kont) ?_
  refine own_st (S' := T101.setTop (mkF m 49 #[.val (.ref a1), .val (.long p1), .second, .val (.long p2), .second, .val (.long p3), .second, .val (.long p4), .second] [(.int (XT.cmpL p1 p3))])) (fun _ kont => XT.lcmp X101.here hx rfl (hb hby dI_48) rfl kont) ?_
  refine own_st (S' := T101.setTop (mkF m 52 #[.val (.ref a1), .val (.long p1), .second, .val (.long p2), .second, .val (.long p3), .second, .val (.long p4), .second] [])) (fun _ kont => XS.ifNo X101.here hx rfl (hb hby dI_49) rfl ((own_l_lt _ _).trans (decide_eq_false (p := Int64.toInt p1 < Int64.toInt p3) (by omega))) kont) ?_
  refine own_st (S' := T101.setTop (mkF m 53 #[.val (.ref a1), .val (.long p1), .second, .val (.long p2), .second, .val (.long p3), .second, .val (.long p4), .second] [(.long p1)])) (fun _ kont => XT.lloadN X101.here hx rfl (hb hby dI_52) rfl kont) ?_
  refine own_st (S' := T101.setTop (mkF m 55 #[.val (.ref a1), .val (.long p1), .second, .val (.long p2), .second, .val (.long p3), .second, .val (.long p4), .second] [(.long p4), (.long p1)])) (fun _ kont => XT.lload X101.here hx rfl (hb hby dI_53) rfl kont) ?_
  refine own_st (S' := T101.setTop (mkF m 56 #[.val (.ref a1), .val (.long p1), .second, .val (.long p2), .second, .val (.long p3), .second, .val (.long p4), .second] [(.int (XT.cmpL p1 p4))])) (fun _ kont => XT.lcmp X101.here hx rfl (hb hby dI_55) rfl kont) ?_
  refine own_st (S' := T101.setTop (mkF m 77 #[.val (.ref a1), .val (.long p1), .second, .val (.long p2), .second, .val (.long p3), .second, .val (.long p4), .second] [])) (fun _ kont => XS.ifYes X101.here hx rfl (pc0 := 56) (pc' := 77) rfl (hb hby dI_56) rfl ((own_l_le _ _).trans (decide_eq_true (p := Int64.toInt p1 ≤ Int64.toInt p4) (c5))) (by decide) (by decide) kont) ?_
  refine own_st (S' := T101.setTop (mkF m 78 #[.val (.ref a1), .val (.long p1), .second, .val (.long p2), .second, .val (.long p3), .second, .val (.long p4), .second] [(.ref a1)])) (fun _ kont => XS.aloadN X101.here hx rfl (hb hby dI_77) rfl rfl kont) ?_
  refine own_st (S' := T101.setTop (mkF m 79 #[.val (.ref a1), .val (.long p1), .second, .val (.long p2), .second, .val (.long p3), .second, .val (.long p4), .second] [(.long p1), (.ref a1)])) (fun _ kont => XT.lloadN X101.here hx rfl (hb hby dI_78) rfl kont) ?_
  obtain ⟨T102, h102, X102, e102, W102, st102⟩ := putF X101 hx hZ hown (host := "") (Or.inl (hw _ (List.mem_of_getElem? (i := 21) rfl))) Via.refl hh101 Fstart E (Or.inr ⟨(hw _ (List.mem_of_getElem? (i := 22) rfl)), rfl, hnm⟩) (hw _ (List.mem_of_getElem? (i := 8) rfl)) (ty := .long) (by decide) rfl rfl (g := (mkF m 79 #[.val (.ref a1), .val (.long p1), .second, .val (.long p2), .second, .val (.long p3), .second, .val (.long p4), .second] [(.long p1), (.ref a1)])) rfl rfl (hb hby dI_79)
  refine own_st (S' := T102.setTop (mkF m 82 #[.val (.ref a1), .val (.long p1), .second, .val (.long p2), .second, .val (.long p3), .second, .val (.long p4), .second] [])) st102 ?_
  have N102 := Fr.snoc X102 Nr g9
  have K102 : Keep h0 h102 [a1] := (Keep.refl _ _).wr W102 (Or.inl (List.mem_of_getElem? (i := 0) rfl))
  have E102 := E.wr W102
  have Fstart102 := Fld.same W102 Fstart
  have Fincrement102 := Fld.other W102 Fincrement (Or.inr (slot_ne (t := .long) (t' := .long) (Or.inr (hw _ (List.mem_of_getElem? (i := 24) rfl))) (Or.inr (hw _ (List.mem_of_getElem? (i := 22) rfl))) (by decide) (by decide) (by decide)))
  have Fmin102 := Fld.other W102 Fmin (Or.inr (slot_ne (t := .long) (t' := .long) (Or.inr (hw _ (List.mem_of_getElem? (i := 26) rfl))) (Or.inr (hw _ (List.mem_of_getElem? (i := 22) rfl))) (by decide) (by decide) (by decide)))
  have Fmax102 := Fld.other W102 Fmax (Or.inr (slot_ne (t := .long) (t' := .long) (Or.inr (hw _ (List.mem_of_getElem? (i := 28) rfl))) (Or.inr (hw _ (List.mem_of_getElem? (i := 22) rfl))) (by decide) (by decide) (by decide)))
  refine own_st (S' := T102.setTop (mkF m 83 #[.val (.ref a1), .val (.long p1), .second, .val (.long p2), .second, .val (.long p3), .second, .val (.long p4), .second] [(.ref a1)])) (fun _ kont => XS.aloadN X102.here hx rfl (hb hby dI_82) rfl rfl kont) ?_
  refine own_st (S' := T102.setTop (mkF m 84 #[.val (.ref a1), .val (.long p1), .second, .val (.long p2), .second, .val (.long p3), .second, .val (.long p4), .second] [(.long p2), (.ref a1)])) (fun _ kont => XT.lloadN X102.here hx rfl (hb hby dI_83) rfl kont) ?_
  obtain ⟨T103, h103, X103, e103, W103, st103⟩ := putF X102 hx hZ hown (host := "") (Or.inl (hw _ (List.mem_of_getElem? (i := 23) rfl))) Via.refl e102 Fincrement102 E102 (Or.inr ⟨(hw _ (List.mem_of_getElem? (i := 24) rfl)), rfl, hnm⟩) (hw _ (List.mem_of_getElem? (i := 8) rfl)) (ty := .long) (by decide) rfl rfl (g := (mkF m 84 #[.val (.ref a1), .val (.long p1), .second, .val (.long p2), .second, .val (.long p3), .second, .val (.long p4), .second] [(.long p2), (.ref a1)])) rfl rfl (hb hby dI_84)
  refine own_st (S' := T103.setTop (mkF m 87 #[.val (.ref a1), .val (.long p1), .second, .val (.long p2), .second, .val (.long p3), .second, .val (.long p4), .second] [])) st103 ?_
  have N103 := Fr.snoc X103 N102 g9
  have K103 : Keep h0 h103 [a1] := K102.wr W103 (Or.inl (List.mem_of_getElem? (i := 0) rfl))
  have E103 := E102.wr W103
  have Fstart103 := Fld.other W103 Fstart102 (Or.inr (slot_ne (t := .long) (t' := .long) (Or.inr (hw _ (List.mem_of_getElem? (i := 22) rfl))) (Or.inr (hw _ (List.mem_of_getElem? (i := 24) rfl))) (by decide) (by decide) (by decide)))
  have Fincrement103 := Fld.same W103 Fincrement102
  have Fmin103 := Fld.other W103 Fmin102 (Or.inr (slot_ne (t := .long) (t' := .long) (Or.inr (hw _ (List.mem_of_getElem? (i := 26) rfl))) (Or.inr (hw _ (List.mem_of_getElem? (i := 24) rfl))) (by decide) (by decide) (by decide)))
  have Fmax103 := Fld.other W103 Fmax102 (Or.inr (slot_ne (t := .long) (t' := .long) (Or.inr (hw _ (List.mem_of_getElem? (i := 28) rfl))) (Or.inr (hw _ (List.mem_of_getElem? (i := 24) rfl))) (by decide) (by decide) (by decide)))
  refine own_st (S' := T103.setTop (mkF m 88 #[.val (.ref a1), .val (.long p1), .second, .val (.long p2), .second, .val (.long p3), .second, .val (.long p4), .second] [(.ref a1)])) (fun _ kont => XS.aloadN X103.here hx rfl (hb hby dI_87) rfl rfl kont) ?_
  refine own_st (S' := T103.setTop (mkF m 90 #[.val (.ref a1), .val (.long p1), .second, .val (.long p2), .second, .val (.long p3), .second, .val (.long p4), .second] [(.long p3), (.ref a1)])) (fun _ kont => XT.lload X103.here hx rfl (hb hby dI_88) rfl kont) ?_
  obtain ⟨T104, h104, X104, e104, W104, st104⟩ := putF X103 hx hZ hown (host := "") (Or.inl (hw _ (List.mem_of_getElem? (i := 25) rfl))) Via.refl e103 Fmin103 E103 (Or.inr ⟨(hw _ (List.mem_of_getElem? (i := 26) rfl)), rfl, hnm⟩) (hw _ (List.mem_of_getElem? (i := 8) rfl)) (ty := .long) (by decide) rfl rfl (g := (mkF m 90 #[.val (.ref a1), .val (.long p1), .second, .val (.long p2), .second, .val (.long p3), .second, .val (.long p4), .second] [(.long p3), (.ref a1)])) rfl rfl (hb hby dI_90)
  refine own_st (S' := T104.setTop (mkF m 93 #[.val (.ref a1), .val (.long p1), .second, .val (.long p2), .second, .val (.long p3), .second, .val (.long p4), .second] [])) st104 ?_
  have N104 := Fr.snoc X104 N103 g9
  have K104 : Keep h0 h104 [a1] := K103.wr W104 (Or.inl (List.mem_of_getElem? (i := 0) rfl))
  have E104 := E103.wr W104
  have Fstart104 := Fld.other W104 Fstart103 (Or.inr (slot_ne (t := .long) (t' := .long) (Or.inr (hw _ (List.mem_of_getElem? (i := 22) rfl))) (Or.inr (hw _ (List.mem_of_getElem? (i := 26) rfl))) (by decide) (by decide) (by decide)))
  have Fincrement104 := Fld.other W104 Fincrement103 (Or.inr (slot_ne (t := .long) (t' := .long) (Or.inr (hw _ (List.mem_of_getElem? (i := 24) rfl))) (Or.inr (hw _ (List.mem_of_getElem? (i := 26) rfl))) (by decide) (by decide) (by decide)))
  have Fmin104 := Fld.same W104 Fmin103
  have Fmax104 := Fld.other W104 Fmax103 (Or.inr (slot_ne (t := .long) (t' := .long) (Or.inr (hw _ (List.mem_of_getElem? (i := 28) rfl))) (Or.inr (hw _ (List.mem_of_getElem? (i := 26) rfl))) (by decide) (by decide) (by decide)))
  refine own_st (S' := T104.setTop (mkF m 94 #[.val (.ref a1), .val (.long p1), .second, .val (.long p2), .second, .val (.long p3), .second, .val (.long p4), .second] [(.ref a1)])) (fun _ kont => XS.aloadN X104.here hx rfl (hb hby dI_93) rfl rfl kont) ?_
  refine own_st (S' := T104.setTop (mkF m 96 #[.val (.ref a1), .val (.long p1), .second, .val (.long p2), .second, .val (.long p3), .second, .val (.long p4), .second] [(.long p4), (.ref a1)])) (fun _ kont => XT.lload X104.here hx rfl (hb hby dI_94) rfl kont) ?_
  obtain ⟨T105, h105, X105, e105, W105, st105⟩ := putF X104 hx hZ hown (host := "") (Or.inl (hw _ (List.mem_of_getElem? (i := 27) rfl))) Via.refl e104 Fmax104 E104 (Or.inr ⟨(hw _ (List.mem_of_getElem? (i := 28) rfl)), rfl, hnm⟩) (hw _ (List.mem_of_getElem? (i := 8) rfl)) (ty := .long) (by decide) rfl rfl (g := (mkF m 96 #[.val (.ref a1), .val (.long p1), .second, .val (.long p2), .second, .val (.long p3), .second, .val (.long p4), .second] [(.long p4), (.ref a1)])) rfl rfl (hb hby dI_96)
  refine own_st (S' := T105.setTop (mkF m 99 #[.val (.ref a1), .val (.long p1), .second, .val (.long p2), .second, .val (.long p3), .second, .val (.long p4), .second] [])) st105 ?_
  have N105 := Fr.snoc X105 N104 g9
  have K105 : Keep h0 h105 [a1] := K104.wr W105 (Or.inl (List.mem_of_getElem? (i := 0) rfl))
  have E105 := E104.wr W105
  have Fstart105 := Fld.other W105 Fstart104 (Or.inr (slot_ne (t := .long) (t' := .long) (Or.inr (hw _ (List.mem_of_getElem? (i := 22) rfl))) (Or.inr (hw _ (List.mem_of_getElem? (i := 28) rfl))) (by decide) (by decide) (by decide)))
  have Fincrement105 := Fld.other W105 Fincrement104 (Or.inr (slot_ne (t := .long) (t' := .long) (Or.inr (hw _ (List.mem_of_getElem? (i := 24) rfl))) (Or.inr (hw _ (List.mem_of_getElem? (i := 28) rfl))) (by decide) (by decide) (by decide)))
  have Fmin105 := Fld.other W105 Fmin104 (Or.inr (slot_ne (t := .long) (t' := .long) (Or.inr (hw _ (List.mem_of_getElem? (i := 26) rfl))) (Or.inr (hw _ (List.mem_of_getElem? (i := 28) rfl))) (by decide) (by decide) (by decide)))
  have Fmax105 := Fld.same W105 Fmax104
  refine own_end X105 (Q := (QI Z a1 p1 p2 p3 p4 h0 n0)) none Bd.notSynchronized (fun _ => rfl) (fun fs hr => X105.returnOut hx Bd.returns (hb hby dI_99) hr) ?_ (by decide) (by decide)
  rw [e105]
  exact ⟨rfl, N105, K105, E105, Fmin105, Fmax105⟩
theorem pn_0 : plainName "com/example/stride/stride/core/SequenceDefinitionContainsPinLaw" = true := by first | (simp [plainName, overriddenIn]; done) | decide +kernel
theorem ef_0 (m : MethodId) (p1 : Int64) (p2 : Int64) (p3 : Int64) (p4 : Int64) (p5 : Int64) (p6 : Int32) : entryFrame m #[(.long p1), (.long p2), (.long p3), (.long p4), (.long p5), (.int p6)] maxLocals = mkF m 0 #[.val (.long p1), .second, .val (.long p2), .second, .val (.long p3), .second, .val (.long p4), .second, .val (.long p5), .second, .val (.int p6), .unset, .unset, .unset, .unset, .unset, .unset, .unset, .unset, .unset, .unset, .unset, .unset, .unset] [] := by first | (simp [entryFrame, mkF, argsToLocals, Value.category, maxLocals]; done) | rfl
def Q0 (Z : State) (p1 : Int64) (p2 : Int64) (p3 : Int64) (p4 : Int64) (p5 : Int64) (p6 : Int32) (h0 : Heap) (n0 : Nat) (v : Option Value) (h : Heap) (L : List Loc) : Prop := v = some (.int 1) ∧ Fr n0 L
set_option maxRecDepth 65536 in
set_option maxHeartbeats 40000000 in
theorem rm0 (l : Launch) (Z : State) (a0 : Array Value) (hw : ∀ d ∈ tables_1, d.before a0 Z = true) (ws : List Jvm.Cond) (p1 : Int64) (p2 : Int64) (p3 : Int64) (p4 : Int64) (p5 : Int64) (p6 : Int32) (h0 : Heap) (n0 : Nat) (Z0 : n0 ≤ h0.size) :
    MetFree l x (head1 (Jvm.Cond.code x code maxLocals ret :: ws) room_1) (fun a U => a = #[(.long p1), (.long p2), (.long p3), (.long p4), (.long p5), (.int p6)] ∧ Z.Warmed39 U.vm ∧ U.heap = h0) (fun _ _ _ _ _ => True) (fun _ U o U' => ∃ v L, o = .returned v ∧ Q0 Z p1 p2 p3 p4 p5 p6 h0 n0 v U'.heap L ∧ FrameEnd U o U' L room_1.cells room_1.slots) := by
  refine MetFree.of_bodySF (plainFor_of_name pn_0) hisR ?_
  intro p e s m args below meth c s₁ Bd hml0 hP hK
  obtain ⟨rfl, hZ, hh⟩ := hP
  have hx := Bd.exec
  have hby := Bd.bytes
  have hml : c.maxLocals = 24 := hml0
  have hown : s.vm.findClass "com/example/stride/stride/core/SequenceDefinitionContainsPinLaw" = some m.cls := findClass_of_methodNamed Bd.named
  have hnm := (name_of_methodNamed Bd.named Bd.method).1
  have X0 : Stand p l e room_1 s m #[(.long p1), (.long p2), (.long p3), (.long p4), (.long p5), (.int p6)] below meth c s₁ [] 0 0 := Stand.of_body Bd
  have e0 : s₁.heap = h0 := by rw [← hh, Bd.state]; rfl
  have N0 := Fr.nil n0
  show own_Go p.tables e below (fun t o => ∃ v L, o = .returned v ∧ Q0 Z p1 p2 p3 p4 p5 p6 h0 n0 v t.heap L ∧ FrameEnd s o t L room_1.cells room_1.slots) (s₁.setTop (entryFrame m #[(.long p1), (.long p2), (.long p3), (.long p4), (.long p5), (.int p6)] maxLocals))
  rw [ef_0]
  show own_Go p.tables e below _ (s₁.setTop (mkF m 0 #[.val (.long p1), .second, .val (.long p2), .second, .val (.long p3), .second, .val (.long p4), .second, .val (.long p5), .second, .val (.int p6), .unset, .unset, .unset, .unset, .unset, .unset, .unset, .unset, .unset, .unset, .unset, .unset, .unset] []))
  refine own_st (S' := s₁.setTop (mkF m 1 #[.val (.long p1), .second, .val (.long p2), .second, .val (.long p3), .second, .val (.long p4), .second, .val (.long p5), .second, .val (.int p6), .unset, .unset, .unset, .unset, .unset, .unset, .unset, .unset, .unset, .unset, .unset, .unset, .unset] [(.long p1)])) (fun _ kont => XT.lloadN X0.here hx rfl (hb hby at_0) rfl kont) ?_
  refine own_st (S' := s₁.setTop (mkF m 2 #[.val (.long p1), .second, .val (.long p2), .second, .val (.long p3), .second, .val (.long p4), .second, .val (.long p5), .second, .val (.int p6), .unset, .unset, .unset, .unset, .unset, .unset, .unset, .unset, .unset, .unset, .unset, .unset, .unset] [(.long p2), (.long p1)])) (fun _ kont => XT.lloadN X0.here hx rfl (hb hby at_1) rfl kont) ?_
  obtain ⟨_, _, ⟨T101, L101, k101, n101⟩, -, X101, ⟨Lc101, hQ101, l101, y101, z101⟩, st101⟩ := Jvm.LawKit.callS X0 hx (y := (⟨"java/lang/Math", "min", "(JJ)J"⟩ : MethodName)) hown (mvT hZ (hw _ (List.mem_of_getElem? (i := 0) rfl))) (mvT hZ (hw _ (List.mem_of_getElem? (i := 1) rfl))) (mvT hZ (hw _ (List.mem_of_getElem? (i := 2) rfl))) (mvT hZ (hw _ (List.mem_of_getElem? (i := 3) rfl))) (by decide) (backOf (W := 0) (rmMN l Z a0 hw [] p1 p2 h0 n0 Z0) hZ (hw _ (List.mem_of_getElem? (i := 3) rfl)) (hw _ (List.mem_of_getElem? (i := 2) rfl)) (by decide) (by decide)) (g := (mkF m 2 #[.val (.long p1), .second, .val (.long p2), .second, .val (.long p3), .second, .val (.long p4), .second, .val (.long p5), .second, .val (.int p6), .unset, .unset, .unset, .unset, .unset, .unset, .unset, .unset, .unset, .unset, .unset, .unset, .unset] [(.long p2), (.long p1)])) rfl (by rw [hml]; rfl) (argsL := [(.long p1), (.long p2)]) (rest := []) (lenOf pd_MN rfl) rfl (by show 2 * 0 + _ ≤ _; exact Nat.le_of_eq rfl) (hb hby at_2) (fun _ _ => ⟨rfl, e0, (by dsimp only [Pt.cells]; decide), (by dsimp only [Pt.slots]; decide)⟩)
  dsimp only [Pt.U, Pt.locs, Pt.cells, Pt.slots] at X101 l101 y101 z101 st101 hQ101
  subst l101 y101 z101
  obtain ⟨rfl, N101, hh101⟩ := hQ101
  refine own_st (S' := T101.setTop (mkF m 5 #[.val (.long p1), .second, .val (.long p2), .second, .val (.long p3), .second, .val (.long p4), .second, .val (.long p5), .second, .val (.int p6), .unset, .unset, .unset, .unset, .unset, .unset, .unset, .unset, .unset, .unset, .unset, .unset, .unset] [(.long (own_min p1 p2))])) st101 ?_
  have Nj101 := Fr.app N0 N101
  obtain ⟨l0, hv_l0⟩ : ∃ z : Int64, z = (own_min p1 p2) := ⟨_, rfl⟩
  refine own_cv (congrArg (fun z => T101.setTop (mkF m 5 #[.val (.long p1), .second, .val (.long p2), .second, .val (.long p3), .second, .val (.long p4), .second, .val (.long p5), .second, .val (.int p6), .unset, .unset, .unset, .unset, .unset, .unset, .unset, .unset, .unset, .unset, .unset, .unset, .unset] [(.long z)])) hv_l0.symm) ?_
  show own_Go p.tables e below _ (T101.setTop (mkF m 5 #[.val (.long p1), .second, .val (.long p2), .second, .val (.long p3), .second, .val (.long p4), .second, .val (.long p5), .second, .val (.int p6), .unset, .unset, .unset, .unset, .unset, .unset, .unset, .unset, .unset, .unset, .unset, .unset, .unset] [(.long l0)]))
  refine own_st (S' := T101.setTop (mkF m 7 #[.val (.long p1), .second, .val (.long p2), .second, .val (.long p3), .second, .val (.long p4), .second, .val (.long p5), .second, .val (.int p6), .val (.long l0), .second, .unset, .unset, .unset, .unset, .unset, .unset, .unset, .unset, .unset, .unset, .unset] [])) (fun _ kont => XT.lstore X101.here hx rfl (hb hby at_5) rfl (l' := #[.val (.long p1), .second, .val (.long p2), .second, .val (.long p3), .second, .val (.long p4), .second, .val (.long p5), .second, .val (.int p6), .val (.long l0), .second, .unset, .unset, .unset, .unset, .unset, .unset, .unset, .unset, .unset, .unset, .unset]) rfl kont) ?_
  refine own_st (S' := T101.setTop (mkF m 8 #[.val (.long p1), .second, .val (.long p2), .second, .val (.long p3), .second, .val (.long p4), .second, .val (.long p5), .second, .val (.int p6), .val (.long l0), .second, .unset, .unset, .unset, .unset, .unset, .unset, .unset, .unset, .unset, .unset, .unset] [(.long p1)])) (fun _ kont => XT.lloadN X101.here hx rfl (hb hby at_7) rfl kont) ?_
  refine own_st (S' := T101.setTop (mkF m 9 #[.val (.long p1), .second, .val (.long p2), .second, .val (.long p3), .second, .val (.long p4), .second, .val (.long p5), .second, .val (.int p6), .val (.long l0), .second, .unset, .unset, .unset, .unset, .unset, .unset, .unset, .unset, .unset, .unset, .unset] [(.long p2), (.long p1)])) (fun _ kont => XT.lloadN X101.here hx rfl (hb hby at_8) rfl kont) ?_
  obtain ⟨_, _, ⟨T102, L102, k102, n102⟩, -, X102, ⟨Lc102, hQ102, l102, y102, z102⟩, st102⟩ := Jvm.LawKit.callS X101 hx (y := (⟨"java/lang/Math", "max", "(JJ)J"⟩ : MethodName)) hown (mvT hZ (hw _ (List.mem_of_getElem? (i := 4) rfl))) (mvT hZ (hw _ (List.mem_of_getElem? (i := 5) rfl))) (mvT hZ (hw _ (List.mem_of_getElem? (i := 2) rfl))) (mvT hZ (hw _ (List.mem_of_getElem? (i := 6) rfl))) (by decide) (backOf (W := 0) (rmMX l Z a0 hw [] p1 p2 h0 n0 Z0) hZ (hw _ (List.mem_of_getElem? (i := 6) rfl)) (hw _ (List.mem_of_getElem? (i := 2) rfl)) (by decide) (by decide)) (g := (mkF m 9 #[.val (.long p1), .second, .val (.long p2), .second, .val (.long p3), .second, .val (.long p4), .second, .val (.long p5), .second, .val (.int p6), .val (.long l0), .second, .unset, .unset, .unset, .unset, .unset, .unset, .unset, .unset, .unset, .unset, .unset] [(.long p2), (.long p1)])) rfl (by rw [hml]; rfl) (argsL := [(.long p1), (.long p2)]) (rest := []) (lenOf pd_MX rfl) rfl (by show 2 * 0 + _ ≤ _; exact Nat.le_of_eq rfl) (hb hby at_9) (fun _ _ => ⟨rfl, hh101, (by dsimp only [Pt.cells]; decide), (by dsimp only [Pt.slots]; decide)⟩)
  dsimp only [Pt.U, Pt.locs, Pt.cells, Pt.slots] at X102 l102 y102 z102 st102 hQ102
  subst l102 y102 z102
  obtain ⟨rfl, N102, hh102⟩ := hQ102
  refine own_st (S' := T102.setTop (mkF m 12 #[.val (.long p1), .second, .val (.long p2), .second, .val (.long p3), .second, .val (.long p4), .second, .val (.long p5), .second, .val (.int p6), .val (.long l0), .second, .unset, .unset, .unset, .unset, .unset, .unset, .unset, .unset, .unset, .unset, .unset] [(.long (own_max p1 p2))])) st102 ?_
  have Nj102 := Fr.app Nj101 N102
  obtain ⟨u0, hv_u0⟩ : ∃ z : Int64, z = (own_max p1 p2) := ⟨_, rfl⟩
  refine own_cv (congrArg (fun z => T102.setTop (mkF m 12 #[.val (.long p1), .second, .val (.long p2), .second, .val (.long p3), .second, .val (.long p4), .second, .val (.long p5), .second, .val (.int p6), .val (.long l0), .second, .unset, .unset, .unset, .unset, .unset, .unset, .unset, .unset, .unset, .unset, .unset] [(.long z)])) hv_u0.symm) ?_
  show own_Go p.tables e below _ (T102.setTop (mkF m 12 #[.val (.long p1), .second, .val (.long p2), .second, .val (.long p3), .second, .val (.long p4), .second, .val (.long p5), .second, .val (.int p6), .val (.long l0), .second, .unset, .unset, .unset, .unset, .unset, .unset, .unset, .unset, .unset, .unset, .unset] [(.long u0)]))
  have hmm : Int64.toInt l0 ≤ Int64.toInt u0 := by rw [hv_l0, hv_u0]; exact own_mm p1 p2
  refine own_st (S' := T102.setTop (mkF m 14 #[.val (.long p1), .second, .val (.long p2), .second, .val (.long p3), .second, .val (.long p4), .second, .val (.long p5), .second, .val (.int p6), .val (.long l0), .second, .val (.long u0), .second, .unset, .unset, .unset, .unset, .unset, .unset, .unset, .unset, .unset] [])) (fun _ kont => XT.lstore X102.here hx rfl (hb hby at_12) rfl (l' := #[.val (.long p1), .second, .val (.long p2), .second, .val (.long p3), .second, .val (.long p4), .second, .val (.long p5), .second, .val (.int p6), .val (.long l0), .second, .val (.long u0), .second, .unset, .unset, .unset, .unset, .unset, .unset, .unset, .unset, .unset]) rfl kont) ?_
  refine own_join (fun x : {x : Int64 × Int64 // Int64.toInt x.1 < Int64.toInt x.2} => T102.setTop (mkF m 46 #[.val (.long p1), .second, .val (.long p2), .second, .val (.long p3), .second, .val (.long p4), .second, .val (.long p5), .second, .val (.int p6), .val (.long x.1.1), .second, .val (.long x.1.2), .second, .unset, .unset, .unset, .unset, .unset, .unset, .unset, .unset, .unset] [])) (fun x => ?_) (fun fin => ?_)
  · skip
    obtain ⟨⟨lo, hi⟩, hlt⟩ := x
    try dsimp only at hlt
    show own_Go p.tables e below _ (T102.setTop (mkF m 46 #[.val (.long p1), .second, .val (.long p2), .second, .val (.long p3), .second, .val (.long p4), .second, .val (.long p5), .second, .val (.int p6), .val (.long lo), .second, .val (.long hi), .second, .unset, .unset, .unset, .unset, .unset, .unset, .unset, .unset, .unset] []))
    refine own_st (S' := T102.setTop (mkF m 48 #[.val (.long p1), .second, .val (.long p2), .second, .val (.long p3), .second, .val (.long p4), .second, .val (.long p5), .second, .val (.int p6), .val (.long lo), .second, .val (.long hi), .second, .unset, .unset, .unset, .unset, .unset, .unset, .unset, .unset, .unset] [(.long p3)])) (fun _ kont => XT.lload X102.here hx rfl (hb hby at_46) rfl kont) ?_
    refine own_st (S' := T102.setTop (mkF m 49 #[.val (.long p1), .second, .val (.long p2), .second, .val (.long p3), .second, .val (.long p4), .second, .val (.long p5), .second, .val (.int p6), .val (.long lo), .second, .val (.long hi), .second, .unset, .unset, .unset, .unset, .unset, .unset, .unset, .unset, .unset] [(.long (0 : Int64)), (.long p3)])) (fun _ kont => XT.lconst X102.here hx rfl (hb hby at_48) kont) ?_
    refine own_st (S' := T102.setTop (mkF m 50 #[.val (.long p1), .second, .val (.long p2), .second, .val (.long p3), .second, .val (.long p4), .second, .val (.long p5), .second, .val (.int p6), .val (.long lo), .second, .val (.long hi), .second, .unset, .unset, .unset, .unset, .unset, .unset, .unset, .unset, .unset] [(.int (XT.cmpL p3 (0 : Int64)))])) (fun _ kont => XT.lcmp X102.here hx rfl (hb hby at_49) rfl kont) ?_
    refine own_join (fun x : {x : Int64 // Int64.toInt x ≠ 0} => T102.setTop (mkF m 59 #[.val (.long p1), .second, .val (.long p2), .second, .val (.long p3), .second, .val (.long p4), .second, .val (.long p5), .second, .val (.int p6), .val (.long lo), .second, .val (.long hi), .second, .unset, .unset, .unset, .unset, .unset, .unset, .unset, .unset, .unset] [(.long x.1)])) (fun x => ?_) (fun fin => ?_)
    · skip
      obtain ⟨step, hst⟩ := x
      try dsimp only at hst
      show own_Go p.tables e below _ (T102.setTop (mkF m 59 #[.val (.long p1), .second, .val (.long p2), .second, .val (.long p3), .second, .val (.long p4), .second, .val (.long p5), .second, .val (.int p6), .val (.long lo), .second, .val (.long hi), .second, .unset, .unset, .unset, .unset, .unset, .unset, .unset, .unset, .unset] [(.long step)]))
      refine own_st (S' := T102.setTop (mkF m 61 #[.val (.long p1), .second, .val (.long p2), .second, .val (.long p3), .second, .val (.long p4), .second, .val (.long p5), .second, .val (.int p6), .val (.long lo), .second, .val (.long hi), .second, .val (.long step), .second, .unset, .unset, .unset, .unset, .unset, .unset, .unset] [])) (fun _ kont => XT.lstore X102.here hx rfl (hb hby at_59) rfl (l' := #[.val (.long p1), .second, .val (.long p2), .second, .val (.long p3), .second, .val (.long p4), .second, .val (.long p5), .second, .val (.int p6), .val (.long lo), .second, .val (.long hi), .second, .val (.long step), .second, .unset, .unset, .unset, .unset, .unset, .unset, .unset]) rfl kont) ?_
      refine own_st (S' := T102.setTop (mkF m 63 #[.val (.long p1), .second, .val (.long p2), .second, .val (.long p3), .second, .val (.long p4), .second, .val (.long p5), .second, .val (.int p6), .val (.long lo), .second, .val (.long hi), .second, .val (.long step), .second, .unset, .unset, .unset, .unset, .unset, .unset, .unset] [(.long lo)])) (fun _ kont => XT.lload X102.here hx rfl (hb hby at_61) rfl kont) ?_
      refine own_st (S' := T102.setTop (mkF m 65 #[.val (.long p1), .second, .val (.long p2), .second, .val (.long p3), .second, .val (.long p4), .second, .val (.long p5), .second, .val (.int p6), .val (.long lo), .second, .val (.long hi), .second, .val (.long step), .second, .unset, .unset, .unset, .unset, .unset, .unset, .unset] [(.long hi), (.long lo)])) (fun _ kont => XT.lload X102.here hx rfl (hb hby at_63) rfl kont) ?_
      refine own_st (S' := T102.setTop (mkF m 67 #[.val (.long p1), .second, .val (.long p2), .second, .val (.long p3), .second, .val (.long p4), .second, .val (.long p5), .second, .val (.int p6), .val (.long lo), .second, .val (.long hi), .second, .val (.long step), .second, .unset, .unset, .unset, .unset, .unset, .unset, .unset] [(.long p4), (.long hi), (.long lo)])) (fun _ kont => XT.lload X102.here hx rfl (hb hby at_65) rfl kont) ?_
      obtain ⟨_, _, ⟨T103, L103, k103, n103⟩, -, X103, ⟨Lc103, hQ103, l103, y103, z103⟩, st103⟩ := Jvm.LawKit.callS X102 hx (y := (⟨"java/lang/Math", "min", "(JJ)J"⟩ : MethodName)) hown (mvT hZ (hw _ (List.mem_of_getElem? (i := 0) rfl))) (mvT hZ (hw _ (List.mem_of_getElem? (i := 1) rfl))) (mvT hZ (hw _ (List.mem_of_getElem? (i := 2) rfl))) (mvT hZ (hw _ (List.mem_of_getElem? (i := 3) rfl))) (by decide) (backOf (W := 2) (rmMN l Z a0 hw [] hi p4 h0 n0 Z0) hZ (hw _ (List.mem_of_getElem? (i := 3) rfl)) (hw _ (List.mem_of_getElem? (i := 2) rfl)) (by decide) (by decide)) (g := (mkF m 67 #[.val (.long p1), .second, .val (.long p2), .second, .val (.long p3), .second, .val (.long p4), .second, .val (.long p5), .second, .val (.int p6), .val (.long lo), .second, .val (.long hi), .second, .val (.long step), .second, .unset, .unset, .unset, .unset, .unset, .unset, .unset] [(.long p4), (.long hi), (.long lo)])) rfl (by rw [hml]; rfl) (argsL := [(.long hi), (.long p4)]) (rest := [(.long lo)]) (lenOf pd_MN rfl) rfl (by show 2 * 0 + _ ≤ _; exact Nat.le_of_eq rfl) (hb hby at_67) (fun _ _ => ⟨rfl, hh102, (by dsimp only [Pt.cells]; decide), (by dsimp only [Pt.slots]; decide)⟩)
      dsimp only [Pt.U, Pt.locs, Pt.cells, Pt.slots] at X103 l103 y103 z103 st103 hQ103
      subst l103 y103 z103
      obtain ⟨rfl, N103, hh103⟩ := hQ103
      refine own_st (S' := T103.setTop (mkF m 70 #[.val (.long p1), .second, .val (.long p2), .second, .val (.long p3), .second, .val (.long p4), .second, .val (.long p5), .second, .val (.int p6), .val (.long lo), .second, .val (.long hi), .second, .val (.long step), .second, .unset, .unset, .unset, .unset, .unset, .unset, .unset] [(.long (own_min hi p4)), (.long lo)])) st103 ?_
      have Nj103 := Fr.app Nj102 N103
      obtain ⟨_, _, ⟨T104, L104, k104, n104⟩, -, X104, ⟨Lc104, hQ104, l104, y104, z104⟩, st104⟩ := Jvm.LawKit.callS X103 hx (y := (⟨"java/lang/Math", "max", "(JJ)J"⟩ : MethodName)) hown (mvT hZ (hw _ (List.mem_of_getElem? (i := 4) rfl))) (mvT hZ (hw _ (List.mem_of_getElem? (i := 5) rfl))) (mvT hZ (hw _ (List.mem_of_getElem? (i := 2) rfl))) (mvT hZ (hw _ (List.mem_of_getElem? (i := 6) rfl))) (by decide) (backOf (W := 0) (rmMX l Z a0 hw [] lo (own_min hi p4) h0 n0 Z0) hZ (hw _ (List.mem_of_getElem? (i := 6) rfl)) (hw _ (List.mem_of_getElem? (i := 2) rfl)) (by decide) (by decide)) (g := (mkF m 70 #[.val (.long p1), .second, .val (.long p2), .second, .val (.long p3), .second, .val (.long p4), .second, .val (.long p5), .second, .val (.int p6), .val (.long lo), .second, .val (.long hi), .second, .val (.long step), .second, .unset, .unset, .unset, .unset, .unset, .unset, .unset] [(.long (own_min hi p4)), (.long lo)])) rfl (by rw [hml]; rfl) (argsL := [(.long lo), (.long (own_min hi p4))]) (rest := []) (lenOf pd_MX rfl) rfl (by show 2 * 0 + _ ≤ _; exact Nat.le_of_eq rfl) (hb hby at_70) (fun _ _ => ⟨rfl, hh103, (by dsimp only [Pt.cells]; decide), (by dsimp only [Pt.slots]; decide)⟩)
      dsimp only [Pt.U, Pt.locs, Pt.cells, Pt.slots] at X104 l104 y104 z104 st104 hQ104
      subst l104 y104 z104
      obtain ⟨rfl, N104, hh104⟩ := hQ104
      refine own_st (S' := T104.setTop (mkF m 73 #[.val (.long p1), .second, .val (.long p2), .second, .val (.long p3), .second, .val (.long p4), .second, .val (.long p5), .second, .val (.int p6), .val (.long lo), .second, .val (.long hi), .second, .val (.long step), .second, .unset, .unset, .unset, .unset, .unset, .unset, .unset] [(.long (own_max lo (own_min hi p4)))])) st104 ?_
      have Nj104 := Fr.app Nj103 N104
      obtain ⟨stt, hv_stt⟩ : ∃ z : Int64, z = (own_max lo (own_min hi p4)) := ⟨_, rfl⟩
      refine own_cv (congrArg (fun z => T104.setTop (mkF m 73 #[.val (.long p1), .second, .val (.long p2), .second, .val (.long p3), .second, .val (.long p4), .second, .val (.long p5), .second, .val (.int p6), .val (.long lo), .second, .val (.long hi), .second, .val (.long step), .second, .unset, .unset, .unset, .unset, .unset, .unset, .unset] [(.long z)])) hv_stt.symm) ?_
      show own_Go p.tables e below _ (T104.setTop (mkF m 73 #[.val (.long p1), .second, .val (.long p2), .second, .val (.long p3), .second, .val (.long p4), .second, .val (.long p5), .second, .val (.int p6), .val (.long lo), .second, .val (.long hi), .second, .val (.long step), .second, .unset, .unset, .unset, .unset, .unset, .unset, .unset] [(.long stt)]))
      have hcl := own_cl lo hi p4 hlt
      rw [← hv_stt] at hcl
      refine own_st (S' := T104.setTop (mkF m 75 #[.val (.long p1), .second, .val (.long p2), .second, .val (.long p3), .second, .val (.long p4), .second, .val (.long p5), .second, .val (.int p6), .val (.long lo), .second, .val (.long hi), .second, .val (.long step), .second, .val (.long stt), .second, .unset, .unset, .unset, .unset, .unset] [])) (fun _ kont => XT.lstore X104.here hx rfl (hb hby at_73) rfl (l' := #[.val (.long p1), .second, .val (.long p2), .second, .val (.long p3), .second, .val (.long p4), .second, .val (.long p5), .second, .val (.int p6), .val (.long lo), .second, .val (.long hi), .second, .val (.long step), .second, .val (.long stt), .second, .unset, .unset, .unset, .unset, .unset]) rfl kont) ?_
      obtain ⟨T105, h105, X105, e105, E105, A105, D105, -, st105⟩ := newO X104 hx hZ hown (hw _ (List.mem_of_getElem? (i := 7) rfl)) (hw _ (List.mem_of_getElem? (i := 8) rfl)) (hw _ (List.mem_of_getElem? (i := 9) rfl)) hh104 (g := (mkF m 75 #[.val (.long p1), .second, .val (.long p2), .second, .val (.long p3), .second, .val (.long p4), .second, .val (.long p5), .second, .val (.int p6), .val (.long lo), .second, .val (.long hi), .second, .val (.long step), .second, .val (.long stt), .second, .unset, .unset, .unset, .unset, .unset] [])) rfl (hb hby at_75) (by decide) (by decide)
      obtain ⟨a105, ga105⟩ : ∃ z, z = h0.size := ⟨_, rfl⟩
      rw [← ga105] at A105 D105 st105
      refine own_st (S' := T105.setTop (mkF m 78 #[.val (.long p1), .second, .val (.long p2), .second, .val (.long p3), .second, .val (.long p4), .second, .val (.long p5), .second, .val (.int p6), .val (.long lo), .second, .val (.long hi), .second, .val (.long step), .second, .val (.long stt), .second, .unset, .unset, .unset, .unset, .unset] [(.ref a105)])) st105 ?_
      have Fstart : (Fld Z h105 a105 "com/example/stride/stride/core/SequenceDefinition" "start" "J" (.long (0 : Int64))) := D105 (Or.inr (hw _ (List.mem_of_getElem? (i := 22) rfl))) (ty := .long) (by decide)
      have Fincrement : (Fld Z h105 a105 "com/example/stride/stride/core/SequenceDefinition" "increment" "J" (.long (0 : Int64))) := D105 (Or.inr (hw _ (List.mem_of_getElem? (i := 24) rfl))) (ty := .long) (by decide)
      have Fmin : (Fld Z h105 a105 "com/example/stride/stride/core/SequenceDefinition" "min" "J" (.long (0 : Int64))) := D105 (Or.inr (hw _ (List.mem_of_getElem? (i := 26) rfl))) (ty := .long) (by decide)
      have Fmax : (Fld Z h105 a105 "com/example/stride/stride/core/SequenceDefinition" "max" "J" (.long (0 : Int64))) := D105 (Or.inr (hw _ (List.mem_of_getElem? (i := 28) rfl))) (ty := .long) (by decide)
      have Zs : n0 ≤ h105.size := Nat.le_trans Z0 E105.1
      have ge : n0 ≤ a105 := by rw [ga105]; exact Z0
      refine own_st (S' := T105.setTop (mkF m 79 #[.val (.long p1), .second, .val (.long p2), .second, .val (.long p3), .second, .val (.long p4), .second, .val (.long p5), .second, .val (.int p6), .val (.long lo), .second, .val (.long hi), .second, .val (.long step), .second, .val (.long stt), .second, .unset, .unset, .unset, .unset, .unset] [(.ref a105), (.ref a105)])) (fun _ kont => XS.dup X105.here hx rfl (hb hby at_78) rfl rfl kont) ?_
      refine own_st (S' := T105.setTop (mkF m 81 #[.val (.long p1), .second, .val (.long p2), .second, .val (.long p3), .second, .val (.long p4), .second, .val (.long p5), .second, .val (.int p6), .val (.long lo), .second, .val (.long hi), .second, .val (.long step), .second, .val (.long stt), .second, .unset, .unset, .unset, .unset, .unset] [(.long stt), (.ref a105), (.ref a105)])) (fun _ kont => XT.lload X105.here hx rfl (hb hby at_79) rfl kont) ?_
      refine own_st (S' := T105.setTop (mkF m 83 #[.val (.long p1), .second, .val (.long p2), .second, .val (.long p3), .second, .val (.long p4), .second, .val (.long p5), .second, .val (.int p6), .val (.long lo), .second, .val (.long hi), .second, .val (.long step), .second, .val (.long stt), .second, .unset, .unset, .unset, .unset, .unset] [(.long step), (.long stt), (.ref a105), (.ref a105)])) (fun _ kont => XT.lload X105.here hx rfl (hb hby at_81) rfl kont) ?_
      refine own_st (S' := T105.setTop (mkF m 85 #[.val (.long p1), .second, .val (.long p2), .second, .val (.long p3), .second, .val (.long p4), .second, .val (.long p5), .second, .val (.int p6), .val (.long lo), .second, .val (.long hi), .second, .val (.long step), .second, .val (.long stt), .second, .unset, .unset, .unset, .unset, .unset] [(.long lo), (.long step), (.long stt), (.ref a105), (.ref a105)])) (fun _ kont => XT.lload X105.here hx rfl (hb hby at_83) rfl kont) ?_
      refine own_st (S' := T105.setTop (mkF m 87 #[.val (.long p1), .second, .val (.long p2), .second, .val (.long p3), .second, .val (.long p4), .second, .val (.long p5), .second, .val (.int p6), .val (.long lo), .second, .val (.long hi), .second, .val (.long step), .second, .val (.long stt), .second, .unset, .unset, .unset, .unset, .unset] [(.long hi), (.long lo), (.long step), (.long stt), (.ref a105), (.ref a105)])) (fun _ kont => XT.lload X105.here hx rfl (hb hby at_85) rfl kont) ?_
      obtain ⟨_, _, ⟨T106, L106, k106, n106⟩, -, X106, ⟨Lc106, hQ106, l106, y106, z106⟩, st106⟩ := X105.specialBack hx (y := (⟨"com/example/stride/stride/core/SequenceDefinition", "<init>", "(JJJJ)V"⟩ : MethodName)) rfl hown (mvT hZ (hw _ (List.mem_of_getElem? (i := 10) rfl))) (mvT hZ (hw _ (List.mem_of_getElem? (i := 11) rfl))) (mvT hZ (hw _ (List.mem_of_getElem? (i := 12) rfl))) (by decide) (backOf (W := 1) (rmI l Z a0 hw [] a105 stt step lo hi h105 n0 Zs Fstart Fincrement Fmin Fmax A105 ge hst hlt hcl.1 hcl.2) hZ (hw _ (List.mem_of_getElem? (i := 12) rfl)) (hw _ (List.mem_of_getElem? (i := 9) rfl)) (by decide) (by decide)) (g := (mkF m 87 #[.val (.long p1), .second, .val (.long p2), .second, .val (.long p3), .second, .val (.long p4), .second, .val (.long p5), .second, .val (.int p6), .val (.long lo), .second, .val (.long hi), .second, .val (.long step), .second, .val (.long stt), .second, .unset, .unset, .unset, .unset, .unset] [(.long hi), (.long lo), (.long step), (.long stt), (.ref a105), (.ref a105)])) rfl (by rw [hml]; rfl) (Steps.refl _) (a := a105) (argsL := [(.long stt), (.long step), (.long lo), (.long hi)]) (rest := [(.ref a105)]) (lenOf pd_I rfl) rfl (by show 2 * 0 + _ ≤ _; exact Nat.le_of_eq rfl) (hb hby at_87) (fun _ _ => ⟨rfl, e105, (by decide : 1 + 0 ≤ _), (by decide : 4 + 0 ≤ _)⟩)
      dsimp only [Pt.U, Pt.locs, Pt.cells, Pt.slots] at X106 l106 y106 z106 st106 hQ106
      subst l106 y106 z106
      obtain ⟨rfl, N106, K106, Ex106, Fm106, Fx106⟩ := hQ106
      refine own_tr (S' := T106.setTop (mkF m 90 #[.val (.long p1), .second, .val (.long p2), .second, .val (.long p3), .second, .val (.long p4), .second, .val (.long p5), .second, .val (.int p6), .val (.long lo), .second, .val (.long hi), .second, .val (.long step), .second, .val (.long stt), .second, .unset, .unset, .unset, .unset, .unset] [(.ref a105)])) st106 ?_
      have Nf := Fr.app Nj104 N106
      have Zk := Nat.le_trans Zs K106.1
      refine own_st (S' := T106.setTop (mkF m 92 #[.val (.long p1), .second, .val (.long p2), .second, .val (.long p3), .second, .val (.long p4), .second, .val (.long p5), .second, .val (.int p6), .val (.long lo), .second, .val (.long hi), .second, .val (.long step), .second, .val (.long stt), .second, .val (.ref a105), .unset, .unset, .unset, .unset] [])) (fun _ kont => XS.astore X106.here hx rfl (hb hby at_90) rfl rfl (l' := #[.val (.long p1), .second, .val (.long p2), .second, .val (.long p3), .second, .val (.long p4), .second, .val (.long p5), .second, .val (.int p6), .val (.long lo), .second, .val (.long hi), .second, .val (.long step), .second, .val (.long stt), .second, .val (.ref a105), .unset, .unset, .unset, .unset]) rfl kont) ?_
      refine own_st (S' := T106.setTop (mkF m 94 #[.val (.long p1), .second, .val (.long p2), .second, .val (.long p3), .second, .val (.long p4), .second, .val (.long p5), .second, .val (.int p6), .val (.long lo), .second, .val (.long hi), .second, .val (.long step), .second, .val (.long stt), .second, .val (.ref a105), .unset, .unset, .unset, .unset] [(.int p6)])) (fun _ kont => XS.iload X106.here hx rfl (hb hby at_92) rfl kont) ?_
      refine own_st (S' := T106.setTop (mkF m 96 #[.val (.long p1), .second, .val (.long p2), .second, .val (.long p3), .second, .val (.long p4), .second, .val (.long p5), .second, .val (.int p6), .val (.long lo), .second, .val (.long hi), .second, .val (.long step), .second, .val (.long stt), .second, .val (.ref a105), .unset, .unset, .unset, .unset] [(.int (7 : Int32)), (.int p6)])) (fun _ kont => XS.bipush X106.here hx rfl (hb hby at_94) kont) ?_
      refine own_st (S' := T106.setTop (mkF m 97 #[.val (.long p1), .second, .val (.long p2), .second, .val (.long p3), .second, .val (.long p4), .second, .val (.long p5), .second, .val (.int p6), .val (.long lo), .second, .val (.long hi), .second, .val (.long step), .second, .val (.long stt), .second, .val (.ref a105), .unset, .unset, .unset, .unset] [(.int (p6 &&& (7 : Int32)))])) (fun _ kont => XS.iand X106.here hx rfl (hb hby at_96) rfl kont) ?_
      refine own_st (S' := T106.setTop (mkF m 99 #[.val (.long p1), .second, .val (.long p2), .second, .val (.long p3), .second, .val (.long p4), .second, .val (.long p5), .second, .val (.int p6), .val (.long lo), .second, .val (.long hi), .second, .val (.long step), .second, .val (.long stt), .second, .val (.ref a105), .val (.int (p6 &&& (7 : Int32))), .unset, .unset, .unset] [])) (fun _ kont => XS.istore X106.here hx rfl (hb hby at_97) rfl (l' := #[.val (.long p1), .second, .val (.long p2), .second, .val (.long p3), .second, .val (.long p4), .second, .val (.long p5), .second, .val (.int p6), .val (.long lo), .second, .val (.long hi), .second, .val (.long step), .second, .val (.long stt), .second, .val (.ref a105), .val (.int (p6 &&& (7 : Int32))), .unset, .unset, .unset]) rfl kont) ?_
      refine own_join (fun vv : Int64 => T106.setTop (mkF m 171 #[.val (.long p1), .second, .val (.long p2), .second, .val (.long p3), .second, .val (.long p4), .second, .val (.long p5), .second, .val (.int p6), .val (.long lo), .second, .val (.long hi), .second, .val (.long step), .second, .val (.long stt), .second, .val (.ref a105), .val (.int (p6 &&& (7 : Int32))), .val (.long vv), .second, .unset] [])) (fun vv => ?_) (fun fin3 => ?_)
      · skip
        show own_Go p.tables e below _ (T106.setTop (mkF m 171 #[.val (.long p1), .second, .val (.long p2), .second, .val (.long p3), .second, .val (.long p4), .second, .val (.long p5), .second, .val (.int p6), .val (.long lo), .second, .val (.long hi), .second, .val (.long step), .second, .val (.long stt), .second, .val (.ref a105), .val (.int (p6 &&& (7 : Int32))), .val (.long vv), .second, .unset] []))
        refine own_st (S' := T106.setTop (mkF m 173 #[.val (.long p1), .second, .val (.long p2), .second, .val (.long p3), .second, .val (.long p4), .second, .val (.long p5), .second, .val (.int p6), .val (.long lo), .second, .val (.long hi), .second, .val (.long step), .second, .val (.long stt), .second, .val (.ref a105), .val (.int (p6 &&& (7 : Int32))), .val (.long vv), .second, .unset] [(.long vv)])) (fun _ kont => XT.lload X106.here hx rfl (hb hby at_171) rfl kont) ?_
        refine own_st (S' := T106.setTop (mkF m 175 #[.val (.long p1), .second, .val (.long p2), .second, .val (.long p3), .second, .val (.long p4), .second, .val (.long p5), .second, .val (.int p6), .val (.long lo), .second, .val (.long hi), .second, .val (.long step), .second, .val (.long stt), .second, .val (.ref a105), .val (.int (p6 &&& (7 : Int32))), .val (.long vv), .second, .unset] [(.long lo), (.long vv)])) (fun _ kont => XT.lload X106.here hx rfl (hb hby at_173) rfl kont) ?_
        refine own_st (S' := T106.setTop (mkF m 176 #[.val (.long p1), .second, .val (.long p2), .second, .val (.long p3), .second, .val (.long p4), .second, .val (.long p5), .second, .val (.int p6), .val (.long lo), .second, .val (.long hi), .second, .val (.long step), .second, .val (.long stt), .second, .val (.ref a105), .val (.int (p6 &&& (7 : Int32))), .val (.long vv), .second, .unset] [(.long (vv - lo))])) (fun _ kont => XT.lsub X106.here hx rfl (hb hby at_175) rfl kont) ?_
        refine own_st (S' := T106.setTop (mkF m 178 #[.val (.long p1), .second, .val (.long p2), .second, .val (.long p3), .second, .val (.long p4), .second, .val (.long p5), .second, .val (.int p6), .val (.long lo), .second, .val (.long hi), .second, .val (.long step), .second, .val (.long stt), .second, .val (.ref a105), .val (.int (p6 &&& (7 : Int32))), .val (.long vv), .second, .unset] [(.long hi), (.long (vv - lo))])) (fun _ kont => XT.lload X106.here hx rfl (hb hby at_176) rfl kont) ?_
        refine own_st (S' := T106.setTop (mkF m 180 #[.val (.long p1), .second, .val (.long p2), .second, .val (.long p3), .second, .val (.long p4), .second, .val (.long p5), .second, .val (.int p6), .val (.long lo), .second, .val (.long hi), .second, .val (.long step), .second, .val (.long stt), .second, .val (.ref a105), .val (.int (p6 &&& (7 : Int32))), .val (.long vv), .second, .unset] [(.long lo), (.long hi), (.long (vv - lo))])) (fun _ kont => XT.lload X106.here hx rfl (hb hby at_178) rfl kont) ?_
        refine own_st (S' := T106.setTop (mkF m 181 #[.val (.long p1), .second, .val (.long p2), .second, .val (.long p3), .second, .val (.long p4), .second, .val (.long p5), .second, .val (.int p6), .val (.long lo), .second, .val (.long hi), .second, .val (.long step), .second, .val (.long stt), .second, .val (.ref a105), .val (.int (p6 &&& (7 : Int32))), .val (.long vv), .second, .unset] [(.long (hi - lo)), (.long (vv - lo))])) (fun _ kont => XT.lsub X106.here hx rfl (hb hby at_180) rfl kont) ?_
        obtain ⟨_, _, ⟨T107, L107, k107, n107⟩, -, X107, ⟨Lc107, hQ107, l107, y107, z107⟩, st107⟩ := Jvm.LawKit.callS X106 hx (y := (⟨"com/example/stride/stride/core/SequenceDefinitionContainsPinLaw", "unsignedLe", "(JJ)Z"⟩ : MethodName)) hown (mvT hZ (hw _ (List.mem_of_getElem? (i := 29) rfl))) (mvT hZ (hw _ (List.mem_of_getElem? (i := 30) rfl))) (mvT hZ (hw _ (List.mem_of_getElem? (i := 31) rfl))) (mvT hZ (hw _ (List.mem_of_getElem? (i := 32) rfl))) (by decide) (backOf (W := 0) (rmU l Z a0 hw [] (vv - lo) (hi - lo) T106.heap n0 Zk) hZ (hw _ (List.mem_of_getElem? (i := 32) rfl)) (hw _ (List.mem_of_getElem? (i := 31) rfl)) (by decide) (by decide)) (g := (mkF m 181 #[.val (.long p1), .second, .val (.long p2), .second, .val (.long p3), .second, .val (.long p4), .second, .val (.long p5), .second, .val (.int p6), .val (.long lo), .second, .val (.long hi), .second, .val (.long step), .second, .val (.long stt), .second, .val (.ref a105), .val (.int (p6 &&& (7 : Int32))), .val (.long vv), .second, .unset] [(.long (hi - lo)), (.long (vv - lo))])) rfl (by rw [hml]; rfl) (argsL := [(.long (vv - lo)), (.long (hi - lo))]) (rest := []) (lenOf pd_U rfl) rfl (by show 2 * 0 + _ ≤ _; exact Nat.le_of_eq rfl) (hb hby at_181) (fun _ _ => ⟨rfl, rfl, (by decide : 1 + 0 ≤ _), (by decide : 4 + 0 ≤ _)⟩)
        dsimp only [Pt.U, Pt.locs, Pt.cells, Pt.slots] at X107 l107 y107 z107 st107 hQ107
        subst l107 y107 z107
        obtain ⟨rfl, N107, hh107⟩ := hQ107
        refine own_st (S' := T107.setTop (mkF m 184 #[.val (.long p1), .second, .val (.long p2), .second, .val (.long p3), .second, .val (.long p4), .second, .val (.long p5), .second, .val (.int p6), .val (.long lo), .second, .val (.long hi), .second, .val (.long step), .second, .val (.long stt), .second, .val (.ref a105), .val (.int (p6 &&& (7 : Int32))), .val (.long vv), .second, .unset] [(.int (own_b (Int64.toInt ((vv - lo) ^^^ (-9223372036854775808 : Int64)) ≤ Int64.toInt ((hi - lo) ^^^ (-9223372036854775808 : Int64)))))])) st107 ?_
        have Na := Fr.app Nf N107
        have tq108 : (own_b (Int64.toInt ((vv - lo) ^^^ (-9223372036854775808 : Int64)) ≤ Int64.toInt ((hi - lo) ^^^ (-9223372036854775808 : Int64)))) = (own_b (Int64.toInt lo ≤ Int64.toInt vv ∧ Int64.toInt vv ≤ Int64.toInt hi)) := own_b_iff (own_main vv lo hi hlt)
        refine own_cv (congrArg (fun z => T107.setTop (mkF m 184 #[.val (.long p1), .second, .val (.long p2), .second, .val (.long p3), .second, .val (.long p4), .second, .val (.long p5), .second, .val (.int p6), .val (.long lo), .second, .val (.long hi), .second, .val (.long step), .second, .val (.long stt), .second, .val (.ref a105), .val (.int (p6 &&& (7 : Int32))), .val (.long vv), .second, .unset] [(.int z)])) tq108) ?_
        show own_Go p.tables e below _ (T107.setTop (mkF m 184 #[.val (.long p1), .second, .val (.long p2), .second, .val (.long p3), .second, .val (.long p4), .second, .val (.long p5), .second, .val (.int p6), .val (.long lo), .second, .val (.long hi), .second, .val (.long step), .second, .val (.long stt), .second, .val (.ref a105), .val (.int (p6 &&& (7 : Int32))), .val (.long vv), .second, .unset] [(.int (own_b (Int64.toInt lo ≤ Int64.toInt vv ∧ Int64.toInt vv ≤ Int64.toInt hi)))]))
        refine own_st (S' := T107.setTop (mkF m 186 #[.val (.long p1), .second, .val (.long p2), .second, .val (.long p3), .second, .val (.long p4), .second, .val (.long p5), .second, .val (.int p6), .val (.long lo), .second, .val (.long hi), .second, .val (.long step), .second, .val (.long stt), .second, .val (.ref a105), .val (.int (p6 &&& (7 : Int32))), .val (.long vv), .second, .val (.int (own_b (Int64.toInt lo ≤ Int64.toInt vv ∧ Int64.toInt vv ≤ Int64.toInt hi)))] [])) (fun _ kont => XS.istore X107.here hx rfl (hb hby at_184) rfl (l' := #[.val (.long p1), .second, .val (.long p2), .second, .val (.long p3), .second, .val (.long p4), .second, .val (.long p5), .second, .val (.int p6), .val (.long lo), .second, .val (.long hi), .second, .val (.long step), .second, .val (.long stt), .second, .val (.ref a105), .val (.int (p6 &&& (7 : Int32))), .val (.long vv), .second, .val (.int (own_b (Int64.toInt lo ≤ Int64.toInt vv ∧ Int64.toInt vv ≤ Int64.toInt hi)))]) rfl kont) ?_
        refine own_st (S' := T107.setTop (mkF m 188 #[.val (.long p1), .second, .val (.long p2), .second, .val (.long p3), .second, .val (.long p4), .second, .val (.long p5), .second, .val (.int p6), .val (.long lo), .second, .val (.long hi), .second, .val (.long step), .second, .val (.long stt), .second, .val (.ref a105), .val (.int (p6 &&& (7 : Int32))), .val (.long vv), .second, .val (.int (own_b (Int64.toInt lo ≤ Int64.toInt vv ∧ Int64.toInt vv ≤ Int64.toInt hi)))] [(.ref a105)])) (fun _ kont => XS.aload X107.here hx rfl (hb hby at_186) rfl rfl kont) ?_
        refine own_st (S' := T107.setTop (mkF m 190 #[.val (.long p1), .second, .val (.long p2), .second, .val (.long p3), .second, .val (.long p4), .second, .val (.long p5), .second, .val (.int p6), .val (.long lo), .second, .val (.long hi), .second, .val (.long step), .second, .val (.long stt), .second, .val (.ref a105), .val (.int (p6 &&& (7 : Int32))), .val (.long vv), .second, .val (.int (own_b (Int64.toInt lo ≤ Int64.toInt vv ∧ Int64.toInt vv ≤ Int64.toInt hi)))] [(.long vv), (.ref a105)])) (fun _ kont => XT.lload X107.here hx rfl (hb hby at_188) rfl kont) ?_
        obtain ⟨cq109, kq109, q109a, q109b, q109c⟩ := isOf hZ hh107 Ex106
        obtain ⟨_, _, ⟨T109, L109, k109, n109⟩, -, X109, ⟨Lc109, hQ109, l109, y109, z109⟩, st109⟩ := X107.virtualBack hx (y := (⟨"com/example/stride/stride/core/SequenceDefinition", "contains", "(J)Z"⟩ : MethodName)) (z := (⟨"com/example/stride/stride/core/SequenceDefinition", "contains", "(J)Z"⟩ : MethodName)) hown (mvT hZ (hw _ (List.mem_of_getElem? (i := 34) rfl))) (mvT hZ (hw _ (List.mem_of_getElem? (i := 35) rfl))) (notFace_of_selects (args := #[]) (mvT hZ (hw _ (List.mem_of_getElem? (i := 37) rfl)))) (mvT hZ (hw _ (List.mem_of_getElem? (i := 37) rfl))) (mvT hZ (hw _ (List.mem_of_getElem? (i := 36) rfl))) (by decide) (backOf (W := 0) (rmK l Z a0 hw [] a105 vv lo hi T106.heap n0 Zk Fm106 Fx106) hZ (hw _ (List.mem_of_getElem? (i := 38) rfl)) (hw _ (List.mem_of_getElem? (i := 9) rfl)) (by decide) (by decide)) q109a q109c (g := (mkF m 190 #[.val (.long p1), .second, .val (.long p2), .second, .val (.long p3), .second, .val (.long p4), .second, .val (.long p5), .second, .val (.int p6), .val (.long lo), .second, .val (.long hi), .second, .val (.long step), .second, .val (.long stt), .second, .val (.ref a105), .val (.int (p6 &&& (7 : Int32))), .val (.long vv), .second, .val (.int (own_b (Int64.toInt lo ≤ Int64.toInt vv ∧ Int64.toInt vv ≤ Int64.toInt hi)))] [(.long vv), (.ref a105)])) rfl (by rw [hml]; rfl) (Steps.refl _) (argsL := [(.long vv)]) (rest := []) (lenOf pd_K rfl) rfl (by show 2 * 0 + _ ≤ _; exact Nat.le_of_eq rfl) (hb hby at_190) (fun _ _ => ⟨rfl, hh107, (by decide : 1 + 0 ≤ _), (by decide : 4 + 0 ≤ _)⟩)
        dsimp only [Pt.U, Pt.locs, Pt.cells, Pt.slots] at X109 l109 y109 z109 st109 hQ109
        subst l109 y109 z109
        obtain ⟨rfl, N109, hh109⟩ := hQ109
        refine own_tr (S' := T109.setTop (mkF m 193 #[.val (.long p1), .second, .val (.long p2), .second, .val (.long p3), .second, .val (.long p4), .second, .val (.long p5), .second, .val (.int p6), .val (.long lo), .second, .val (.long hi), .second, .val (.long step), .second, .val (.long stt), .second, .val (.ref a105), .val (.int (p6 &&& (7 : Int32))), .val (.long vv), .second, .val (.int (own_b (Int64.toInt lo ≤ Int64.toInt vv ∧ Int64.toInt vv ≤ Int64.toInt hi)))] [(.int (own_b (Int64.toInt lo ≤ Int64.toInt vv ∧ Int64.toInt vv ≤ Int64.toInt hi)))])) st109 ?_
        have Nb := Fr.app Na N109
        refine own_st (S' := T109.setTop (mkF m 195 #[.val (.long p1), .second, .val (.long p2), .second, .val (.long p3), .second, .val (.long p4), .second, .val (.long p5), .second, .val (.int p6), .val (.long lo), .second, .val (.long hi), .second, .val (.long step), .second, .val (.long stt), .second, .val (.ref a105), .val (.int (p6 &&& (7 : Int32))), .val (.long vv), .second, .val (.int (own_b (Int64.toInt lo ≤ Int64.toInt vv ∧ Int64.toInt vv ≤ Int64.toInt hi)))] [(.int (own_b (Int64.toInt lo ≤ Int64.toInt vv ∧ Int64.toInt vv ≤ Int64.toInt hi))), (.int (own_b (Int64.toInt lo ≤ Int64.toInt vv ∧ Int64.toInt vv ≤ Int64.toInt hi)))])) (fun _ kont => XS.iload X109.here hx rfl (hb hby at_193) rfl kont) ?_
        refine own_st (S' := T109.setTop (mkF m 198 #[.val (.long p1), .second, .val (.long p2), .second, .val (.long p3), .second, .val (.long p4), .second, .val (.long p5), .second, .val (.int p6), .val (.long lo), .second, .val (.long hi), .second, .val (.long step), .second, .val (.long stt), .second, .val (.ref a105), .val (.int (p6 &&& (7 : Int32))), .val (.long vv), .second, .val (.int (own_b (Int64.toInt lo ≤ Int64.toInt vv ∧ Int64.toInt vv ≤ Int64.toInt hi)))] [])) (fun _ kont => XS.icmpNo X109.here hx rfl (hb hby at_195) rfl ((own_i_ne _ _).trans (decide_eq_false (p := Int32.toInt (own_b (Int64.toInt lo ≤ Int64.toInt vv ∧ Int64.toInt vv ≤ Int64.toInt hi)) ≠ Int32.toInt (own_b (Int64.toInt lo ≤ Int64.toInt vv ∧ Int64.toInt vv ≤ Int64.toInt hi))) (fun h => h rfl))) kont) ?_
        refine own_st (S' := T109.setTop (mkF m 199 #[.val (.long p1), .second, .val (.long p2), .second, .val (.long p3), .second, .val (.long p4), .second, .val (.long p5), .second, .val (.int p6), .val (.long lo), .second, .val (.long hi), .second, .val (.long step), .second, .val (.long stt), .second, .val (.ref a105), .val (.int (p6 &&& (7 : Int32))), .val (.long vv), .second, .val (.int (own_b (Int64.toInt lo ≤ Int64.toInt vv ∧ Int64.toInt vv ≤ Int64.toInt hi)))] [(.int (1 : Int32))])) (fun _ kont => XS.iconst X109.here hx rfl (hb hby at_198) kont) ?_
        refine own_st (S' := T109.setTop (mkF m 203 #[.val (.long p1), .second, .val (.long p2), .second, .val (.long p3), .second, .val (.long p4), .second, .val (.long p5), .second, .val (.int p6), .val (.long lo), .second, .val (.long hi), .second, .val (.long step), .second, .val (.long stt), .second, .val (.ref a105), .val (.int (p6 &&& (7 : Int32))), .val (.long vv), .second, .val (.int (own_b (Int64.toInt lo ≤ Int64.toInt vv ∧ Int64.toInt vv ≤ Int64.toInt hi)))] [(.int (1 : Int32))])) (fun _ kont => XS.goto X109.here hx rfl (pc0 := 199) (pc' := 203) rfl (hb hby at_199) (by decide) (by decide) kont) ?_
        refine own_end X109 (Q := (Q0 Z p1 p2 p3 p4 p5 p6 h0 n0)) (some (.int (1 : Int32))) Bd.notSynchronized (fun h => by rw [Bd.returns] at h; cases h) (fun fs hr => retN X109 hx (t := .boolean) Bd.returns (by simp) (hb hby at_203) hr) ?_ (by decide) (by decide)
        rw [hh109]
        exact ⟨rfl, Nb⟩
      · skip
        refine own_st (S' := T106.setTop (mkF m 101 #[.val (.long p1), .second, .val (.long p2), .second, .val (.long p3), .second, .val (.long p4), .second, .val (.long p5), .second, .val (.int p6), .val (.long lo), .second, .val (.long hi), .second, .val (.long step), .second, .val (.long stt), .second, .val (.ref a105), .val (.int (p6 &&& (7 : Int32))), .unset, .unset, .unset] [(.int (p6 &&& (7 : Int32)))])) (fun _ kont => XS.iload X106.here hx rfl (hb hby at_99) rfl kont) ?_
        by_cases hcc101 : Int32.toInt (p6 &&& (7 : Int32)) ≠ 0
        · skip
          refine own_st (S' := T106.setTop (mkF m 111 #[.val (.long p1), .second, .val (.long p2), .second, .val (.long p3), .second, .val (.long p4), .second, .val (.long p5), .second, .val (.int p6), .val (.long lo), .second, .val (.long hi), .second, .val (.long step), .second, .val (.long stt), .second, .val (.ref a105), .val (.int (p6 &&& (7 : Int32))), .unset, .unset, .unset] [])) (fun _ kont => XS.ifYes X106.here hx rfl (pc0 := 101) (pc' := 111) rfl (hb hby at_101) rfl ((own_z_ne _).trans (decide_eq_true (p := Int32.toInt (p6 &&& (7 : Int32)) ≠ 0) (hcc101))) (by decide) (by decide) kont) ?_
          refine own_st (S' := T106.setTop (mkF m 113 #[.val (.long p1), .second, .val (.long p2), .second, .val (.long p3), .second, .val (.long p4), .second, .val (.long p5), .second, .val (.int p6), .val (.long lo), .second, .val (.long hi), .second, .val (.long step), .second, .val (.long stt), .second, .val (.ref a105), .val (.int (p6 &&& (7 : Int32))), .unset, .unset, .unset] [(.int (p6 &&& (7 : Int32)))])) (fun _ kont => XS.iload X106.here hx rfl (hb hby at_111) rfl kont) ?_
          refine own_st (S' := T106.setTop (mkF m 114 #[.val (.long p1), .second, .val (.long p2), .second, .val (.long p3), .second, .val (.long p4), .second, .val (.long p5), .second, .val (.int p6), .val (.long lo), .second, .val (.long hi), .second, .val (.long step), .second, .val (.long stt), .second, .val (.ref a105), .val (.int (p6 &&& (7 : Int32))), .unset, .unset, .unset] [(.int (1 : Int32)), (.int (p6 &&& (7 : Int32)))])) (fun _ kont => XS.iconst X106.here hx rfl (hb hby at_113) kont) ?_
          by_cases hcc114 : Int32.toInt (p6 &&& (7 : Int32)) ≠ 1
          · skip
            refine own_st (S' := T106.setTop (mkF m 124 #[.val (.long p1), .second, .val (.long p2), .second, .val (.long p3), .second, .val (.long p4), .second, .val (.long p5), .second, .val (.int p6), .val (.long lo), .second, .val (.long hi), .second, .val (.long step), .second, .val (.long stt), .second, .val (.ref a105), .val (.int (p6 &&& (7 : Int32))), .unset, .unset, .unset] [])) (fun _ kont => XS.icmpYes X106.here hx rfl (pc0 := 114) (pc' := 124) rfl (hb hby at_114) rfl ((own_i_ne _ _).trans (decide_eq_true (p := Int32.toInt (p6 &&& (7 : Int32)) ≠ 1) (hcc114))) (by decide) (by decide) kont) ?_
            refine own_st (S' := T106.setTop (mkF m 126 #[.val (.long p1), .second, .val (.long p2), .second, .val (.long p3), .second, .val (.long p4), .second, .val (.long p5), .second, .val (.int p6), .val (.long lo), .second, .val (.long hi), .second, .val (.long step), .second, .val (.long stt), .second, .val (.ref a105), .val (.int (p6 &&& (7 : Int32))), .unset, .unset, .unset] [(.int (p6 &&& (7 : Int32)))])) (fun _ kont => XS.iload X106.here hx rfl (hb hby at_124) rfl kont) ?_
            refine own_st (S' := T106.setTop (mkF m 127 #[.val (.long p1), .second, .val (.long p2), .second, .val (.long p3), .second, .val (.long p4), .second, .val (.long p5), .second, .val (.int p6), .val (.long lo), .second, .val (.long hi), .second, .val (.long step), .second, .val (.long stt), .second, .val (.ref a105), .val (.int (p6 &&& (7 : Int32))), .unset, .unset, .unset] [(.int (2 : Int32)), (.int (p6 &&& (7 : Int32)))])) (fun _ kont => XS.iconst X106.here hx rfl (hb hby at_126) kont) ?_
            by_cases hcc127 : Int32.toInt (p6 &&& (7 : Int32)) ≠ 2
            · skip
              refine own_st (S' := T106.setTop (mkF m 139 #[.val (.long p1), .second, .val (.long p2), .second, .val (.long p3), .second, .val (.long p4), .second, .val (.long p5), .second, .val (.int p6), .val (.long lo), .second, .val (.long hi), .second, .val (.long step), .second, .val (.long stt), .second, .val (.ref a105), .val (.int (p6 &&& (7 : Int32))), .unset, .unset, .unset] [])) (fun _ kont => XS.icmpYes X106.here hx rfl (pc0 := 127) (pc' := 139) rfl (hb hby at_127) rfl ((own_i_ne _ _).trans (decide_eq_true (p := Int32.toInt (p6 &&& (7 : Int32)) ≠ 2) (hcc127))) (by decide) (by decide) kont) ?_
              refine own_st (S' := T106.setTop (mkF m 141 #[.val (.long p1), .second, .val (.long p2), .second, .val (.long p3), .second, .val (.long p4), .second, .val (.long p5), .second, .val (.int p6), .val (.long lo), .second, .val (.long hi), .second, .val (.long step), .second, .val (.long stt), .second, .val (.ref a105), .val (.int (p6 &&& (7 : Int32))), .unset, .unset, .unset] [(.int (p6 &&& (7 : Int32)))])) (fun _ kont => XS.iload X106.here hx rfl (hb hby at_139) rfl kont) ?_
              refine own_st (S' := T106.setTop (mkF m 142 #[.val (.long p1), .second, .val (.long p2), .second, .val (.long p3), .second, .val (.long p4), .second, .val (.long p5), .second, .val (.int p6), .val (.long lo), .second, .val (.long hi), .second, .val (.long step), .second, .val (.long stt), .second, .val (.ref a105), .val (.int (p6 &&& (7 : Int32))), .unset, .unset, .unset] [(.int (3 : Int32)), (.int (p6 &&& (7 : Int32)))])) (fun _ kont => XS.iconst X106.here hx rfl (hb hby at_141) kont) ?_
              by_cases hcc142 : Int32.toInt (p6 &&& (7 : Int32)) ≠ 3
              · skip
                refine own_st (S' := T106.setTop (mkF m 154 #[.val (.long p1), .second, .val (.long p2), .second, .val (.long p3), .second, .val (.long p4), .second, .val (.long p5), .second, .val (.int p6), .val (.long lo), .second, .val (.long hi), .second, .val (.long step), .second, .val (.long stt), .second, .val (.ref a105), .val (.int (p6 &&& (7 : Int32))), .unset, .unset, .unset] [])) (fun _ kont => XS.icmpYes X106.here hx rfl (pc0 := 142) (pc' := 154) rfl (hb hby at_142) rfl ((own_i_ne _ _).trans (decide_eq_true (p := Int32.toInt (p6 &&& (7 : Int32)) ≠ 3) (hcc142))) (by decide) (by decide) kont) ?_
                refine own_st (S' := T106.setTop (mkF m 156 #[.val (.long p1), .second, .val (.long p2), .second, .val (.long p3), .second, .val (.long p4), .second, .val (.long p5), .second, .val (.int p6), .val (.long lo), .second, .val (.long hi), .second, .val (.long step), .second, .val (.long stt), .second, .val (.ref a105), .val (.int (p6 &&& (7 : Int32))), .unset, .unset, .unset] [(.int (p6 &&& (7 : Int32)))])) (fun _ kont => XS.iload X106.here hx rfl (hb hby at_154) rfl kont) ?_
                refine own_st (S' := T106.setTop (mkF m 157 #[.val (.long p1), .second, .val (.long p2), .second, .val (.long p3), .second, .val (.long p4), .second, .val (.long p5), .second, .val (.int p6), .val (.long lo), .second, .val (.long hi), .second, .val (.long step), .second, .val (.long stt), .second, .val (.ref a105), .val (.int (p6 &&& (7 : Int32))), .unset, .unset, .unset] [(.int (4 : Int32)), (.int (p6 &&& (7 : Int32)))])) (fun _ kont => XS.iconst X106.here hx rfl (hb hby at_156) kont) ?_
                by_cases hcc157 : Int32.toInt (p6 &&& (7 : Int32)) ≠ 4
                · skip
                  refine own_st (S' := T106.setTop (mkF m 167 #[.val (.long p1), .second, .val (.long p2), .second, .val (.long p3), .second, .val (.long p4), .second, .val (.long p5), .second, .val (.int p6), .val (.long lo), .second, .val (.long hi), .second, .val (.long step), .second, .val (.long stt), .second, .val (.ref a105), .val (.int (p6 &&& (7 : Int32))), .unset, .unset, .unset] [])) (fun _ kont => XS.icmpYes X106.here hx rfl (pc0 := 157) (pc' := 167) rfl (hb hby at_157) rfl ((own_i_ne _ _).trans (decide_eq_true (p := Int32.toInt (p6 &&& (7 : Int32)) ≠ 4) (hcc157))) (by decide) (by decide) kont) ?_
                  refine own_st (S' := T106.setTop (mkF m 169 #[.val (.long p1), .second, .val (.long p2), .second, .val (.long p3), .second, .val (.long p4), .second, .val (.long p5), .second, .val (.int p6), .val (.long lo), .second, .val (.long hi), .second, .val (.long step), .second, .val (.long stt), .second, .val (.ref a105), .val (.int (p6 &&& (7 : Int32))), .unset, .unset, .unset] [(.long p5)])) (fun _ kont => XT.lload X106.here hx rfl (hb hby at_167) rfl kont) ?_
                  refine own_st (S' := T106.setTop (mkF m 171 #[.val (.long p1), .second, .val (.long p2), .second, .val (.long p3), .second, .val (.long p4), .second, .val (.long p5), .second, .val (.int p6), .val (.long lo), .second, .val (.long hi), .second, .val (.long step), .second, .val (.long stt), .second, .val (.ref a105), .val (.int (p6 &&& (7 : Int32))), .val (.long p5), .second, .unset] [])) (fun _ kont => XT.lstore X106.here hx rfl (hb hby at_169) rfl (l' := #[.val (.long p1), .second, .val (.long p2), .second, .val (.long p3), .second, .val (.long p4), .second, .val (.long p5), .second, .val (.int p6), .val (.long lo), .second, .val (.long hi), .second, .val (.long step), .second, .val (.long stt), .second, .val (.ref a105), .val (.int (p6 &&& (7 : Int32))), .val (.long p5), .second, .unset]) rfl kont) ?_
                  exact fin3 p5
                · skip
                  refine own_st (S' := T106.setTop (mkF m 160 #[.val (.long p1), .second, .val (.long p2), .second, .val (.long p3), .second, .val (.long p4), .second, .val (.long p5), .second, .val (.int p6), .val (.long lo), .second, .val (.long hi), .second, .val (.long step), .second, .val (.long stt), .second, .val (.ref a105), .val (.int (p6 &&& (7 : Int32))), .unset, .unset, .unset] [])) (fun _ kont => XS.icmpNo X106.here hx rfl (hb hby at_157) rfl ((own_i_ne _ _).trans (decide_eq_false (p := Int32.toInt (p6 &&& (7 : Int32)) ≠ 4) (hcc157))) kont) ?_
                  refine own_st (S' := T106.setTop (mkF m 162 #[.val (.long p1), .second, .val (.long p2), .second, .val (.long p3), .second, .val (.long p4), .second, .val (.long p5), .second, .val (.int p6), .val (.long lo), .second, .val (.long hi), .second, .val (.long step), .second, .val (.long stt), .second, .val (.ref a105), .val (.int (p6 &&& (7 : Int32))), .unset, .unset, .unset] [(.long stt)])) (fun _ kont => XT.lload X106.here hx rfl (hb hby at_160) rfl kont) ?_
                  refine own_st (S' := T106.setTop (mkF m 164 #[.val (.long p1), .second, .val (.long p2), .second, .val (.long p3), .second, .val (.long p4), .second, .val (.long p5), .second, .val (.int p6), .val (.long lo), .second, .val (.long hi), .second, .val (.long step), .second, .val (.long stt), .second, .val (.ref a105), .val (.int (p6 &&& (7 : Int32))), .val (.long stt), .second, .unset] [])) (fun _ kont => XT.lstore X106.here hx rfl (hb hby at_162) rfl (l' := #[.val (.long p1), .second, .val (.long p2), .second, .val (.long p3), .second, .val (.long p4), .second, .val (.long p5), .second, .val (.int p6), .val (.long lo), .second, .val (.long hi), .second, .val (.long step), .second, .val (.long stt), .second, .val (.ref a105), .val (.int (p6 &&& (7 : Int32))), .val (.long stt), .second, .unset]) rfl kont) ?_
                  refine own_st (S' := T106.setTop (mkF m 171 #[.val (.long p1), .second, .val (.long p2), .second, .val (.long p3), .second, .val (.long p4), .second, .val (.long p5), .second, .val (.int p6), .val (.long lo), .second, .val (.long hi), .second, .val (.long step), .second, .val (.long stt), .second, .val (.ref a105), .val (.int (p6 &&& (7 : Int32))), .val (.long stt), .second, .unset] [])) (fun _ kont => XS.goto X106.here hx rfl (pc0 := 164) (pc' := 171) rfl (hb hby at_164) (by decide) (by decide) kont) ?_
                  exact fin3 stt
              · skip
                refine own_st (S' := T106.setTop (mkF m 145 #[.val (.long p1), .second, .val (.long p2), .second, .val (.long p3), .second, .val (.long p4), .second, .val (.long p5), .second, .val (.int p6), .val (.long lo), .second, .val (.long hi), .second, .val (.long step), .second, .val (.long stt), .second, .val (.ref a105), .val (.int (p6 &&& (7 : Int32))), .unset, .unset, .unset] [])) (fun _ kont => XS.icmpNo X106.here hx rfl (hb hby at_142) rfl ((own_i_ne _ _).trans (decide_eq_false (p := Int32.toInt (p6 &&& (7 : Int32)) ≠ 3) (hcc142))) kont) ?_
                refine own_st (S' := T106.setTop (mkF m 147 #[.val (.long p1), .second, .val (.long p2), .second, .val (.long p3), .second, .val (.long p4), .second, .val (.long p5), .second, .val (.int p6), .val (.long lo), .second, .val (.long hi), .second, .val (.long step), .second, .val (.long stt), .second, .val (.ref a105), .val (.int (p6 &&& (7 : Int32))), .unset, .unset, .unset] [(.long hi)])) (fun _ kont => XT.lload X106.here hx rfl (hb hby at_145) rfl kont) ?_
                refine own_st (S' := T106.setTop (mkF m 148 #[.val (.long p1), .second, .val (.long p2), .second, .val (.long p3), .second, .val (.long p4), .second, .val (.long p5), .second, .val (.int p6), .val (.long lo), .second, .val (.long hi), .second, .val (.long step), .second, .val (.long stt), .second, .val (.ref a105), .val (.int (p6 &&& (7 : Int32))), .unset, .unset, .unset] [(.long (1 : Int64)), (.long hi)])) (fun _ kont => XT.lconst X106.here hx rfl (hb hby at_147) kont) ?_
                refine own_st (S' := T106.setTop (mkF m 149 #[.val (.long p1), .second, .val (.long p2), .second, .val (.long p3), .second, .val (.long p4), .second, .val (.long p5), .second, .val (.int p6), .val (.long lo), .second, .val (.long hi), .second, .val (.long step), .second, .val (.long stt), .second, .val (.ref a105), .val (.int (p6 &&& (7 : Int32))), .unset, .unset, .unset] [(.long (hi + (1 : Int64)))])) (fun _ kont => XT.ladd X106.here hx rfl (hb hby at_148) rfl kont) ?_
                refine own_st (S' := T106.setTop (mkF m 151 #[.val (.long p1), .second, .val (.long p2), .second, .val (.long p3), .second, .val (.long p4), .second, .val (.long p5), .second, .val (.int p6), .val (.long lo), .second, .val (.long hi), .second, .val (.long step), .second, .val (.long stt), .second, .val (.ref a105), .val (.int (p6 &&& (7 : Int32))), .val (.long (hi + (1 : Int64))), .second, .unset] [])) (fun _ kont => XT.lstore X106.here hx rfl (hb hby at_149) rfl (l' := #[.val (.long p1), .second, .val (.long p2), .second, .val (.long p3), .second, .val (.long p4), .second, .val (.long p5), .second, .val (.int p6), .val (.long lo), .second, .val (.long hi), .second, .val (.long step), .second, .val (.long stt), .second, .val (.ref a105), .val (.int (p6 &&& (7 : Int32))), .val (.long (hi + (1 : Int64))), .second, .unset]) rfl kont) ?_
                refine own_st (S' := T106.setTop (mkF m 171 #[.val (.long p1), .second, .val (.long p2), .second, .val (.long p3), .second, .val (.long p4), .second, .val (.long p5), .second, .val (.int p6), .val (.long lo), .second, .val (.long hi), .second, .val (.long step), .second, .val (.long stt), .second, .val (.ref a105), .val (.int (p6 &&& (7 : Int32))), .val (.long (hi + (1 : Int64))), .second, .unset] [])) (fun _ kont => XS.goto X106.here hx rfl (pc0 := 151) (pc' := 171) rfl (hb hby at_151) (by decide) (by decide) kont) ?_
                exact fin3 (hi + (1 : Int64))
            · skip
              refine own_st (S' := T106.setTop (mkF m 130 #[.val (.long p1), .second, .val (.long p2), .second, .val (.long p3), .second, .val (.long p4), .second, .val (.long p5), .second, .val (.int p6), .val (.long lo), .second, .val (.long hi), .second, .val (.long step), .second, .val (.long stt), .second, .val (.ref a105), .val (.int (p6 &&& (7 : Int32))), .unset, .unset, .unset] [])) (fun _ kont => XS.icmpNo X106.here hx rfl (hb hby at_127) rfl ((own_i_ne _ _).trans (decide_eq_false (p := Int32.toInt (p6 &&& (7 : Int32)) ≠ 2) (hcc127))) kont) ?_
              refine own_st (S' := T106.setTop (mkF m 132 #[.val (.long p1), .second, .val (.long p2), .second, .val (.long p3), .second, .val (.long p4), .second, .val (.long p5), .second, .val (.int p6), .val (.long lo), .second, .val (.long hi), .second, .val (.long step), .second, .val (.long stt), .second, .val (.ref a105), .val (.int (p6 &&& (7 : Int32))), .unset, .unset, .unset] [(.long lo)])) (fun _ kont => XT.lload X106.here hx rfl (hb hby at_130) rfl kont) ?_
              refine own_st (S' := T106.setTop (mkF m 133 #[.val (.long p1), .second, .val (.long p2), .second, .val (.long p3), .second, .val (.long p4), .second, .val (.long p5), .second, .val (.int p6), .val (.long lo), .second, .val (.long hi), .second, .val (.long step), .second, .val (.long stt), .second, .val (.ref a105), .val (.int (p6 &&& (7 : Int32))), .unset, .unset, .unset] [(.long (1 : Int64)), (.long lo)])) (fun _ kont => XT.lconst X106.here hx rfl (hb hby at_132) kont) ?_
              refine own_st (S' := T106.setTop (mkF m 134 #[.val (.long p1), .second, .val (.long p2), .second, .val (.long p3), .second, .val (.long p4), .second, .val (.long p5), .second, .val (.int p6), .val (.long lo), .second, .val (.long hi), .second, .val (.long step), .second, .val (.long stt), .second, .val (.ref a105), .val (.int (p6 &&& (7 : Int32))), .unset, .unset, .unset] [(.long (lo - (1 : Int64)))])) (fun _ kont => XT.lsub X106.here hx rfl (hb hby at_133) rfl kont) ?_
              refine own_st (S' := T106.setTop (mkF m 136 #[.val (.long p1), .second, .val (.long p2), .second, .val (.long p3), .second, .val (.long p4), .second, .val (.long p5), .second, .val (.int p6), .val (.long lo), .second, .val (.long hi), .second, .val (.long step), .second, .val (.long stt), .second, .val (.ref a105), .val (.int (p6 &&& (7 : Int32))), .val (.long (lo - (1 : Int64))), .second, .unset] [])) (fun _ kont => XT.lstore X106.here hx rfl (hb hby at_134) rfl (l' := #[.val (.long p1), .second, .val (.long p2), .second, .val (.long p3), .second, .val (.long p4), .second, .val (.long p5), .second, .val (.int p6), .val (.long lo), .second, .val (.long hi), .second, .val (.long step), .second, .val (.long stt), .second, .val (.ref a105), .val (.int (p6 &&& (7 : Int32))), .val (.long (lo - (1 : Int64))), .second, .unset]) rfl kont) ?_
              refine own_st (S' := T106.setTop (mkF m 171 #[.val (.long p1), .second, .val (.long p2), .second, .val (.long p3), .second, .val (.long p4), .second, .val (.long p5), .second, .val (.int p6), .val (.long lo), .second, .val (.long hi), .second, .val (.long step), .second, .val (.long stt), .second, .val (.ref a105), .val (.int (p6 &&& (7 : Int32))), .val (.long (lo - (1 : Int64))), .second, .unset] [])) (fun _ kont => XS.goto X106.here hx rfl (pc0 := 136) (pc' := 171) rfl (hb hby at_136) (by decide) (by decide) kont) ?_
              exact fin3 (lo - (1 : Int64))
          · skip
            refine own_st (S' := T106.setTop (mkF m 117 #[.val (.long p1), .second, .val (.long p2), .second, .val (.long p3), .second, .val (.long p4), .second, .val (.long p5), .second, .val (.int p6), .val (.long lo), .second, .val (.long hi), .second, .val (.long step), .second, .val (.long stt), .second, .val (.ref a105), .val (.int (p6 &&& (7 : Int32))), .unset, .unset, .unset] [])) (fun _ kont => XS.icmpNo X106.here hx rfl (hb hby at_114) rfl ((own_i_ne _ _).trans (decide_eq_false (p := Int32.toInt (p6 &&& (7 : Int32)) ≠ 1) (hcc114))) kont) ?_
            refine own_st (S' := T106.setTop (mkF m 119 #[.val (.long p1), .second, .val (.long p2), .second, .val (.long p3), .second, .val (.long p4), .second, .val (.long p5), .second, .val (.int p6), .val (.long lo), .second, .val (.long hi), .second, .val (.long step), .second, .val (.long stt), .second, .val (.ref a105), .val (.int (p6 &&& (7 : Int32))), .unset, .unset, .unset] [(.long hi)])) (fun _ kont => XT.lload X106.here hx rfl (hb hby at_117) rfl kont) ?_
            refine own_st (S' := T106.setTop (mkF m 121 #[.val (.long p1), .second, .val (.long p2), .second, .val (.long p3), .second, .val (.long p4), .second, .val (.long p5), .second, .val (.int p6), .val (.long lo), .second, .val (.long hi), .second, .val (.long step), .second, .val (.long stt), .second, .val (.ref a105), .val (.int (p6 &&& (7 : Int32))), .val (.long hi), .second, .unset] [])) (fun _ kont => XT.lstore X106.here hx rfl (hb hby at_119) rfl (l' := #[.val (.long p1), .second, .val (.long p2), .second, .val (.long p3), .second, .val (.long p4), .second, .val (.long p5), .second, .val (.int p6), .val (.long lo), .second, .val (.long hi), .second, .val (.long step), .second, .val (.long stt), .second, .val (.ref a105), .val (.int (p6 &&& (7 : Int32))), .val (.long hi), .second, .unset]) rfl kont) ?_
            refine own_st (S' := T106.setTop (mkF m 171 #[.val (.long p1), .second, .val (.long p2), .second, .val (.long p3), .second, .val (.long p4), .second, .val (.long p5), .second, .val (.int p6), .val (.long lo), .second, .val (.long hi), .second, .val (.long step), .second, .val (.long stt), .second, .val (.ref a105), .val (.int (p6 &&& (7 : Int32))), .val (.long hi), .second, .unset] [])) (fun _ kont => XS.goto X106.here hx rfl (pc0 := 121) (pc' := 171) rfl (hb hby at_121) (by decide) (by decide) kont) ?_
            exact fin3 hi
        · skip
          refine own_st (S' := T106.setTop (mkF m 104 #[.val (.long p1), .second, .val (.long p2), .second, .val (.long p3), .second, .val (.long p4), .second, .val (.long p5), .second, .val (.int p6), .val (.long lo), .second, .val (.long hi), .second, .val (.long step), .second, .val (.long stt), .second, .val (.ref a105), .val (.int (p6 &&& (7 : Int32))), .unset, .unset, .unset] [])) (fun _ kont => XS.ifNo X106.here hx rfl (hb hby at_101) rfl ((own_z_ne _).trans (decide_eq_false (p := Int32.toInt (p6 &&& (7 : Int32)) ≠ 0) (hcc101))) kont) ?_
          refine own_st (S' := T106.setTop (mkF m 106 #[.val (.long p1), .second, .val (.long p2), .second, .val (.long p3), .second, .val (.long p4), .second, .val (.long p5), .second, .val (.int p6), .val (.long lo), .second, .val (.long hi), .second, .val (.long step), .second, .val (.long stt), .second, .val (.ref a105), .val (.int (p6 &&& (7 : Int32))), .unset, .unset, .unset] [(.long lo)])) (fun _ kont => XT.lload X106.here hx rfl (hb hby at_104) rfl kont) ?_
          refine own_st (S' := T106.setTop (mkF m 108 #[.val (.long p1), .second, .val (.long p2), .second, .val (.long p3), .second, .val (.long p4), .second, .val (.long p5), .second, .val (.int p6), .val (.long lo), .second, .val (.long hi), .second, .val (.long step), .second, .val (.long stt), .second, .val (.ref a105), .val (.int (p6 &&& (7 : Int32))), .val (.long lo), .second, .unset] [])) (fun _ kont => XT.lstore X106.here hx rfl (hb hby at_106) rfl (l' := #[.val (.long p1), .second, .val (.long p2), .second, .val (.long p3), .second, .val (.long p4), .second, .val (.long p5), .second, .val (.int p6), .val (.long lo), .second, .val (.long hi), .second, .val (.long step), .second, .val (.long stt), .second, .val (.ref a105), .val (.int (p6 &&& (7 : Int32))), .val (.long lo), .second, .unset]) rfl kont) ?_
          refine own_st (S' := T106.setTop (mkF m 171 #[.val (.long p1), .second, .val (.long p2), .second, .val (.long p3), .second, .val (.long p4), .second, .val (.long p5), .second, .val (.int p6), .val (.long lo), .second, .val (.long hi), .second, .val (.long step), .second, .val (.long stt), .second, .val (.ref a105), .val (.int (p6 &&& (7 : Int32))), .val (.long lo), .second, .unset] [])) (fun _ kont => XS.goto X106.here hx rfl (pc0 := 108) (pc' := 171) rfl (hb hby at_108) (by decide) (by decide) kont) ?_
          exact fin3 lo
    · skip
      by_cases hcb50 : Int64.toInt p3 ≠ 0
      · skip
        refine own_st (S' := T102.setTop (mkF m 57 #[.val (.long p1), .second, .val (.long p2), .second, .val (.long p3), .second, .val (.long p4), .second, .val (.long p5), .second, .val (.int p6), .val (.long lo), .second, .val (.long hi), .second, .unset, .unset, .unset, .unset, .unset, .unset, .unset, .unset, .unset] [])) (fun _ kont => XS.ifYes X102.here hx rfl (pc0 := 50) (pc' := 57) rfl (hb hby at_50) rfl ((own_l_ne _ _).trans (decide_eq_true (p := Int64.toInt p3 ≠ 0) (hcb50))) (by decide) (by decide) kont) ?_
        refine own_st (S' := T102.setTop (mkF m 59 #[.val (.long p1), .second, .val (.long p2), .second, .val (.long p3), .second, .val (.long p4), .second, .val (.long p5), .second, .val (.int p6), .val (.long lo), .second, .val (.long hi), .second, .unset, .unset, .unset, .unset, .unset, .unset, .unset, .unset, .unset] [(.long p3)])) (fun _ kont => XT.lload X102.here hx rfl (hb hby at_57) rfl kont) ?_
        exact fin ⟨p3, by first | decide | assumption⟩
      · skip
        refine own_st (S' := T102.setTop (mkF m 53 #[.val (.long p1), .second, .val (.long p2), .second, .val (.long p3), .second, .val (.long p4), .second, .val (.long p5), .second, .val (.int p6), .val (.long lo), .second, .val (.long hi), .second, .unset, .unset, .unset, .unset, .unset, .unset, .unset, .unset, .unset] [])) (fun _ kont => XS.ifNo X102.here hx rfl (hb hby at_50) rfl ((own_l_ne _ _).trans (decide_eq_false (p := Int64.toInt p3 ≠ 0) (hcb50))) kont) ?_
        refine own_st (S' := T102.setTop (mkF m 54 #[.val (.long p1), .second, .val (.long p2), .second, .val (.long p3), .second, .val (.long p4), .second, .val (.long p5), .second, .val (.int p6), .val (.long lo), .second, .val (.long hi), .second, .unset, .unset, .unset, .unset, .unset, .unset, .unset, .unset, .unset] [(.long (1 : Int64))])) (fun _ kont => XT.lconst X102.here hx rfl (hb hby at_53) kont) ?_
        refine own_st (S' := T102.setTop (mkF m 59 #[.val (.long p1), .second, .val (.long p2), .second, .val (.long p3), .second, .val (.long p4), .second, .val (.long p5), .second, .val (.int p6), .val (.long lo), .second, .val (.long hi), .second, .unset, .unset, .unset, .unset, .unset, .unset, .unset, .unset, .unset] [(.long (1 : Int64))])) (fun _ kont => XS.goto X102.here hx rfl (pc0 := 54) (pc' := 59) rfl (hb hby at_54) (by decide) (by decide) kont) ?_
        exact fin ⟨(1 : Int64), by first | decide | assumption⟩
  · skip
    refine own_st (S' := T102.setTop (mkF m 16 #[.val (.long p1), .second, .val (.long p2), .second, .val (.long p3), .second, .val (.long p4), .second, .val (.long p5), .second, .val (.int p6), .val (.long l0), .second, .val (.long u0), .second, .unset, .unset, .unset, .unset, .unset, .unset, .unset, .unset, .unset] [(.long l0)])) (fun _ kont => XT.lload X102.here hx rfl (hb hby at_14) rfl kont) ?_
    refine own_st (S' := T102.setTop (mkF m 18 #[.val (.long p1), .second, .val (.long p2), .second, .val (.long p3), .second, .val (.long p4), .second, .val (.long p5), .second, .val (.int p6), .val (.long l0), .second, .val (.long u0), .second, .unset, .unset, .unset, .unset, .unset, .unset, .unset, .unset, .unset] [(.long u0), (.long l0)])) (fun _ kont => XT.lload X102.here hx rfl (hb hby at_16) rfl kont) ?_
    refine own_st (S' := T102.setTop (mkF m 19 #[.val (.long p1), .second, .val (.long p2), .second, .val (.long p3), .second, .val (.long p4), .second, .val (.long p5), .second, .val (.int p6), .val (.long l0), .second, .val (.long u0), .second, .unset, .unset, .unset, .unset, .unset, .unset, .unset, .unset, .unset] [(.int (XT.cmpL l0 u0))])) (fun _ kont => XT.lcmp X102.here hx rfl (hb hby at_18) rfl kont) ?_
    by_cases hca19 : Int64.toInt l0 ≠ Int64.toInt u0
    · skip
      refine own_st (S' := T102.setTop (mkF m 46 #[.val (.long p1), .second, .val (.long p2), .second, .val (.long p3), .second, .val (.long p4), .second, .val (.long p5), .second, .val (.int p6), .val (.long l0), .second, .val (.long u0), .second, .unset, .unset, .unset, .unset, .unset, .unset, .unset, .unset, .unset] [])) (fun _ kont => XS.ifYes X102.here hx rfl (pc0 := 19) (pc' := 46) rfl (hb hby at_19) rfl ((own_l_ne _ _).trans (decide_eq_true (p := Int64.toInt l0 ≠ Int64.toInt u0) (hca19))) (by decide) (by decide) kont) ?_
      exact fin ⟨(l0, u0), by first | ((try dsimp only); omega) | ((try dsimp only); rw [own_sub1 (by omega)]; omega) | ((try dsimp only); rw [own_add1 (by omega)]; omega)⟩
    · skip
      refine own_st (S' := T102.setTop (mkF m 22 #[.val (.long p1), .second, .val (.long p2), .second, .val (.long p3), .second, .val (.long p4), .second, .val (.long p5), .second, .val (.int p6), .val (.long l0), .second, .val (.long u0), .second, .unset, .unset, .unset, .unset, .unset, .unset, .unset, .unset, .unset] [])) (fun _ kont => XS.ifNo X102.here hx rfl (hb hby at_19) rfl ((own_l_ne _ _).trans (decide_eq_false (p := Int64.toInt l0 ≠ Int64.toInt u0) (hca19))) kont) ?_
      refine own_st (S' := T102.setTop (mkF m 24 #[.val (.long p1), .second, .val (.long p2), .second, .val (.long p3), .second, .val (.long p4), .second, .val (.long p5), .second, .val (.int p6), .val (.long l0), .second, .val (.long u0), .second, .unset, .unset, .unset, .unset, .unset, .unset, .unset, .unset, .unset] [(.long u0)])) (fun _ kont => XT.lload X102.here hx rfl (hb hby at_22) rfl kont) ?_
      refine own_st (S' := T102.setTop (mkF m 27 #[.val (.long p1), .second, .val (.long p2), .second, .val (.long p3), .second, .val (.long p4), .second, .val (.long p5), .second, .val (.int p6), .val (.long l0), .second, .val (.long u0), .second, .unset, .unset, .unset, .unset, .unset, .unset, .unset, .unset, .unset] [(.long (9223372036854775807 : Int64)), (.long u0)])) (fun _ kont => X102.ldc2J hx hown (mvT hZ (hw _ (List.mem_of_getElem? (i := 39) rfl))) rfl (hb hby at_24) kont) ?_
      refine own_st (S' := T102.setTop (mkF m 28 #[.val (.long p1), .second, .val (.long p2), .second, .val (.long p3), .second, .val (.long p4), .second, .val (.long p5), .second, .val (.int p6), .val (.long l0), .second, .val (.long u0), .second, .unset, .unset, .unset, .unset, .unset, .unset, .unset, .unset, .unset] [(.int (XT.cmpL u0 (9223372036854775807 : Int64)))])) (fun _ kont => XT.lcmp X102.here hx rfl (hb hby at_27) rfl kont) ?_
      by_cases hca28 : Int64.toInt u0 ≠ 9223372036854775807
      · skip
        refine own_st (S' := T102.setTop (mkF m 40 #[.val (.long p1), .second, .val (.long p2), .second, .val (.long p3), .second, .val (.long p4), .second, .val (.long p5), .second, .val (.int p6), .val (.long l0), .second, .val (.long u0), .second, .unset, .unset, .unset, .unset, .unset, .unset, .unset, .unset, .unset] [])) (fun _ kont => XS.ifYes X102.here hx rfl (pc0 := 28) (pc' := 40) rfl (hb hby at_28) rfl ((own_l_ne _ _).trans (decide_eq_true (p := Int64.toInt u0 ≠ 9223372036854775807) (hca28))) (by decide) (by decide) kont) ?_
        refine own_st (S' := T102.setTop (mkF m 42 #[.val (.long p1), .second, .val (.long p2), .second, .val (.long p3), .second, .val (.long p4), .second, .val (.long p5), .second, .val (.int p6), .val (.long l0), .second, .val (.long u0), .second, .unset, .unset, .unset, .unset, .unset, .unset, .unset, .unset, .unset] [(.long l0)])) (fun _ kont => XT.lload X102.here hx rfl (hb hby at_40) rfl kont) ?_
        refine own_st (S' := T102.setTop (mkF m 43 #[.val (.long p1), .second, .val (.long p2), .second, .val (.long p3), .second, .val (.long p4), .second, .val (.long p5), .second, .val (.int p6), .val (.long l0), .second, .val (.long u0), .second, .unset, .unset, .unset, .unset, .unset, .unset, .unset, .unset, .unset] [(.long (1 : Int64)), (.long l0)])) (fun _ kont => XT.lconst X102.here hx rfl (hb hby at_42) kont) ?_
        refine own_st (S' := T102.setTop (mkF m 44 #[.val (.long p1), .second, .val (.long p2), .second, .val (.long p3), .second, .val (.long p4), .second, .val (.long p5), .second, .val (.int p6), .val (.long l0), .second, .val (.long u0), .second, .unset, .unset, .unset, .unset, .unset, .unset, .unset, .unset, .unset] [(.long (l0 + (1 : Int64)))])) (fun _ kont => XT.ladd X102.here hx rfl (hb hby at_43) rfl kont) ?_
        refine own_st (S' := T102.setTop (mkF m 46 #[.val (.long p1), .second, .val (.long p2), .second, .val (.long p3), .second, .val (.long p4), .second, .val (.long p5), .second, .val (.int p6), .val (.long l0), .second, .val (.long (l0 + (1 : Int64))), .second, .unset, .unset, .unset, .unset, .unset, .unset, .unset, .unset, .unset] [])) (fun _ kont => XT.lstore X102.here hx rfl (hb hby at_44) rfl (l' := #[.val (.long p1), .second, .val (.long p2), .second, .val (.long p3), .second, .val (.long p4), .second, .val (.long p5), .second, .val (.int p6), .val (.long l0), .second, .val (.long (l0 + (1 : Int64))), .second, .unset, .unset, .unset, .unset, .unset, .unset, .unset, .unset, .unset]) rfl kont) ?_
        exact fin ⟨(l0, (l0 + (1 : Int64))), by first | ((try dsimp only); omega) | ((try dsimp only); rw [own_sub1 (by omega)]; omega) | ((try dsimp only); rw [own_add1 (by omega)]; omega)⟩
      · skip
        refine own_st (S' := T102.setTop (mkF m 31 #[.val (.long p1), .second, .val (.long p2), .second, .val (.long p3), .second, .val (.long p4), .second, .val (.long p5), .second, .val (.int p6), .val (.long l0), .second, .val (.long u0), .second, .unset, .unset, .unset, .unset, .unset, .unset, .unset, .unset, .unset] [])) (fun _ kont => XS.ifNo X102.here hx rfl (hb hby at_28) rfl ((own_l_ne _ _).trans (decide_eq_false (p := Int64.toInt u0 ≠ 9223372036854775807) (hca28))) kont) ?_
        refine own_st (S' := T102.setTop (mkF m 33 #[.val (.long p1), .second, .val (.long p2), .second, .val (.long p3), .second, .val (.long p4), .second, .val (.long p5), .second, .val (.int p6), .val (.long l0), .second, .val (.long u0), .second, .unset, .unset, .unset, .unset, .unset, .unset, .unset, .unset, .unset] [(.long u0)])) (fun _ kont => XT.lload X102.here hx rfl (hb hby at_31) rfl kont) ?_
        refine own_st (S' := T102.setTop (mkF m 34 #[.val (.long p1), .second, .val (.long p2), .second, .val (.long p3), .second, .val (.long p4), .second, .val (.long p5), .second, .val (.int p6), .val (.long l0), .second, .val (.long u0), .second, .unset, .unset, .unset, .unset, .unset, .unset, .unset, .unset, .unset] [(.long (1 : Int64)), (.long u0)])) (fun _ kont => XT.lconst X102.here hx rfl (hb hby at_33) kont) ?_
        refine own_st (S' := T102.setTop (mkF m 35 #[.val (.long p1), .second, .val (.long p2), .second, .val (.long p3), .second, .val (.long p4), .second, .val (.long p5), .second, .val (.int p6), .val (.long l0), .second, .val (.long u0), .second, .unset, .unset, .unset, .unset, .unset, .unset, .unset, .unset, .unset] [(.long (u0 - (1 : Int64)))])) (fun _ kont => XT.lsub X102.here hx rfl (hb hby at_34) rfl kont) ?_
        refine own_st (S' := T102.setTop (mkF m 37 #[.val (.long p1), .second, .val (.long p2), .second, .val (.long p3), .second, .val (.long p4), .second, .val (.long p5), .second, .val (.int p6), .val (.long (u0 - (1 : Int64))), .second, .val (.long u0), .second, .unset, .unset, .unset, .unset, .unset, .unset, .unset, .unset, .unset] [])) (fun _ kont => XT.lstore X102.here hx rfl (hb hby at_35) rfl (l' := #[.val (.long p1), .second, .val (.long p2), .second, .val (.long p3), .second, .val (.long p4), .second, .val (.long p5), .second, .val (.int p6), .val (.long (u0 - (1 : Int64))), .second, .val (.long u0), .second, .unset, .unset, .unset, .unset, .unset, .unset, .unset, .unset, .unset]) rfl kont) ?_
        refine own_st (S' := T102.setTop (mkF m 46 #[.val (.long p1), .second, .val (.long p2), .second, .val (.long p3), .second, .val (.long p4), .second, .val (.long p5), .second, .val (.int p6), .val (.long (u0 - (1 : Int64))), .second, .val (.long u0), .second, .unset, .unset, .unset, .unset, .unset, .unset, .unset, .unset, .unset] [])) (fun _ kont => XS.goto X102.here hx rfl (pc0 := 37) (pc' := 46) rfl (hb hby at_37) (by decide) (by decide) kont) ?_
        exact fin ⟨((u0 - (1 : Int64)), u0), by first | ((try dsimp only); omega) | ((try dsimp only); rw [own_sub1 (by omega)]; omega) | ((try dsimp only); rw [own_add1 (by omega)]; omega)⟩
set_option maxRecDepth 65536 in
set_option maxHeartbeats 40000000 in
theorem comes_1 {Post : Tables → Env → Array Value → State → Outcome → State → Prop} (hpost : ∀ tb e args s v u, (limb_1_1.after args s (.returned v) u = true ∧ limb_1_2.after args s (.returned v) u = true ∧ True) → FrameEnd s (.returned v) u (Jvm.fieldLocs frame_1_writes args s ++ Jvm.arrayLocs frame_1_arrays args s ++ Jvm.staticLocs frame_1_statics s) 16 128 → Post tb e args s (.returned v) u) :
    ArmFor flags0 classFile x code maxLocals ret World_1 tables_1 room_1 Calls_1 rest_1 Pre_1 Post := by
  intro l hfl _ _ p e ha hc hk s m args below hf hA hF happ hP
  obtain ⟨hcalls, hrest, hpre⟩ := hP
  obtain ⟨-, -, -, hnamed, -, -, -, hat⟩ := (Spec.applies_iff hf).mp happ
  obtain ⟨hg, hn⟩ := and_e (Cond.before_iff.mp (show (Jvm.Cond.and given_1 narrow_1).before args s = true from hpre))
  obtain ⟨hg0, hr0⟩ := and_e hg
  obtain ⟨hk0, hr1⟩ := and_e hr0
  obtain ⟨hk1, hr2⟩ := and_e hr1
  obtain ⟨hk2, hr3⟩ := and_e hr2
  obtain ⟨hk3, hr4⟩ := and_e hr3
  obtain ⟨hk4, hr5⟩ := and_e hr4
  have hk5 := hr5
  obtain ⟨w0, w1, w2, w3, w4, w5, rfl⟩ : ∃ w0 w1 w2 w3 w4 w5 : Value, args = #[w0, w1, w2, w3, w4, w5] := by
    have hs : args.size = 6 := by simpa [Cond.value, given_1] using hg0
    obtain ⟨L⟩ := args
    match L, hs with
    | [w0, w1, w2, w3, w4, w5], _ => exact ⟨w0, w1, w2, w3, w4, w5, rfl⟩
  have hw := fun d (hd : d ∈ tables_1) => atoms_spec (ws := Jvm.Cond.code x code maxLocals ret :: tables_1) hat d (List.mem_cons_of_mem _ hd)
  obtain ⟨i0, ee0⟩ := isL_v hk0
  obtain rfl : w0 = (.long i0) := Option.some.inj ee0
  obtain ⟨i1, ee1⟩ := isL_v hk1
  obtain rfl : w1 = (.long i1) := Option.some.inj ee1
  obtain ⟨i2, ee2⟩ := isL_v hk2
  obtain rfl : w2 = (.long i2) := Option.some.inj ee2
  obtain ⟨i3, ee3⟩ := isL_v hk3
  obtain rfl : w3 = (.long i3) := Option.some.inj ee3
  obtain ⟨i4, ee4⟩ := isL_v hk4
  obtain rfl : w4 = (.long i4) := Option.some.inj ee4
  obtain ⟨i5, ee5⟩ := is_v hk5
  obtain rfl : w5 = (.int i5) := Option.some.inj ee5
  obtain ⟨n, o, h1, h2, h3, _, L, rfl, ⟨rfl, N⟩, hq⟩ := rm0 l s _ hw tables_1 i0 i1 i2 i3 i4 i5 s.heap s.heap.size (Nat.le_refl _) p e ha hc hk s m _ below hf ((Spec.applies_iff_loose hf).mp happ).1 ⟨rfl, State.Warmed39.refl s, rfl⟩ trivial
  refine ⟨n, _, h1, h2, h3, hpost _ _ _ _ _ _ ⟨Cond.after_iff.mpr rfl, Cond.after_iff.mpr (eq_i res_at (Term.int_eval (1)) rfl), trivial⟩ ⟨hq.1, hq.2.1, (hq.2.2.sift fun y hy => Or.inr (N y hy)).mono (by decide) (by decide)⟩⟩
theorem main_1_1 : Claimed_1_1 := comes_1 fun _ _ _ _ _ _ h hF => ⟨h.1, hF⟩
theorem main_1_2 : Claimed_1_2 := comes_1 fun _ _ _ _ _ _ h hF => ⟨h.2.1, hF⟩
end Jvm.Pilot.@@N@@
namespace Jvm.Pilot.@@N@@
open Jvm Jvm.ClassFile Sem Op Lib Jvm.Free Jvm.Stand Jvm.Pilot.@@N@@.Jvm.D
/-! MADE BY PROGRAM (witnessworld.py) out of the Statement's table words and the real class files: 11 classes; the members and pool entries that the words name. The judged class is class 1, her method 2. -/
namespace start1
open Jvm.ClassFile
def u (s : String) : CpInfo := .utf8 (stringToUtf16 s)
/-- a pool by its gaps: so many unusable entries, then the entry; so many at the end -/
def gap : Nat → List CpInfo → List CpInfo
  | 0, r => r
  | n + 1, r => .unusable :: gap n r
def poolList (es : List (Nat × CpInfo)) (last : Nat) : List CpInfo := es.foldr (fun e r => gap e.1 (e.2 :: r)) (gap last [])
def pool (es : List (Nat × CpInfo)) (last : Nat) : Array CpInfo := ⟨poolList es last⟩
def fileOf (pool : Array CpInfo) (this : Nat) (attrs : Array Attribute := #[]) (ms : Array MethodInfo := #[]) (fl : Nat := 33) (sup : Nat := 0) (ifs : Array Nat := #[]) (fds : Array FieldInfo := #[]) : ClassFile where
  minorVersion := 0
  majorVersion := 65
  constantPool := pool
  accessFlags := fl
  thisClass := this
  superClass := sup
  interfaces := ifs
  fields := fds
  methods := ms
  attributes := attrs
def plain (name : String) (sup : Option ClassId) : Class where
  name := name
  kind := .ordinary
  loader := none
  accessFlags := 33
  super := sup
  interfaces := #[]
  cf := none
  fields := #[]
  methods := #[]
  instanceTypes := #[]
  staticTypes := #[]
  resolved := #[]
  callSites := []
  init := .initialized
  statics := none
  mirror := none

def pool0 : Array CpInfo := pool [(5, u "<init>"), (0, u "()V"), (1, .class_ 10), (1, u "java/lang/Object")] 113

def k0c0 : Code := { maxStack := 0, maxLocals := 1, code := object_method_1_code, exceptionTable := #[], attributes := #[] }
def k0m0 : Method := { name := "<init>", desc := "()V", sig := { parameters := [], returnType := none }, accessFlags := 1, code := some k0c0 }
/-- java/lang/Object -/
def k0 : Class := { plain "java/lang/Object" none with
  accessFlags := 33
  interfaces := #[]
  cf := some (fileOf pool0 8 #[] #[{ accessFlags := 1, nameIndex := 5, descriptorIndex := 6, attributes := #[] }] 33 0 #[] #[])
  fields := #[]
  methods := #[k0m0]
  instanceTypes := #[]
  staticTypes := #[]
  resolved := Array.replicate 124 none
  statics := none }

def pool1 : Array CpInfo := pool [(2, .class_ 4), (1, u "java/lang/Object"), (0, u "<init>"), (0, u "()V"), (2, .long 9223372036854775808), (1, .methodref 12 13), (0, .class_ 14), (0, .nameAndType 15 16), (0, u "java/lang/Math"), (0, u "min"), (0, u "(JJ)J"), (0, .methodref 12 18), (0, .nameAndType 19 16), (0, u "max"), (0, .long 9223372036854775807), (1, .class_ 23), (0, u "com/example/stride/stride/core/SequenceDefinition"), (0, .methodref 22 25), (0, .nameAndType 5 26), (0, u "(JJJJ)V"), (0, .methodref 28 29), (0, .class_ 30), (0, .nameAndType 31 32), (0, u "com/example/stride/stride/core/SequenceDefinitionContainsPinLaw"), (0, u "unsignedLe"), (0, u "(JJ)Z"), (0, .methodref 22 34), (0, .nameAndType 35 36), (0, u "contains"), (0, u "(J)Z"), (3, u "law"), (0, u "(JJJJJI)Z")] 2

def k1m0 : Method := { name := "<init>", desc := "()V", sig := { parameters := [], returnType := none }, accessFlags := 1, code := none }
def k1c1 : Code := { maxStack := 6, maxLocals := 4, code := method_2_code, exceptionTable := #[], attributes := #[] }
def k1m1 : Method := { name := "unsignedLe", desc := "(JJ)Z", sig := { parameters := [.long, .long], returnType := some .boolean }, accessFlags := 10, code := some k1c1 }
def k1c2 : Code := { maxStack := 10, maxLocals := 24, code := code, exceptionTable := #[], attributes := #[] }
def k1m2 : Method := { name := "law", desc := "(JJJJJI)Z", sig := { parameters := [.long, .long, .long, .long, .long, .int], returnType := some .boolean }, accessFlags := 9, code := some k1c2 }
/-- com/example/stride/stride/core/SequenceDefinitionContainsPinLaw -/
def k1 : Class := { plain "com/example/stride/stride/core/SequenceDefinitionContainsPinLaw" (some 0) with
  accessFlags := 49
  interfaces := #[]
  cf := some (fileOf pool1 28 #[] #[{ accessFlags := 1, nameIndex := 5, descriptorIndex := 6, attributes := #[] }, { accessFlags := 10, nameIndex := 31, descriptorIndex := 32, attributes := #[] }, { accessFlags := 9, nameIndex := 40, descriptorIndex := 41, attributes := #[] }] 49 2 #[] #[])
  fields := #[]
  methods := #[k1m0, k1m1, k1m2]
  instanceTypes := #[]
  staticTypes := #[]
  resolved := Array.replicate 44 none
  statics := none }

def pool2 : Array CpInfo := pool [(1, .class_ 2), (0, u "java/lang/Math"), (1, .class_ 6), (1, u "java/lang/Object"), (0, u "<init>"), (0, u "()V"), (89, .class_ 100), (1, u "java/lang/Math$RandomNumberGeneratorHolder"), (20, u "(JJ)J"), (50, u "negativeZeroFloatBits"), (0, u "J"), (2, u "negativeZeroDoubleBits"), (21, u "max"), (2, u "min"), (43, u "$assertionsDisabled"), (0, u "Z"), (91, u "twoToTheDoubleScaleDown"), (0, u "D"), (4, u "twoToTheDoubleScaleUp"), (9, u "E"), (3, u "PI"), (2, u "TAU"), (2, u "DEGREES_TO_RADIANS"), (0, u "RADIANS_TO_DEGREES")] 94

def k2m0 : Method := { name := "<init>", desc := "()V", sig := { parameters := [], returnType := none }, accessFlags := 2, code := none }
def k2c1 : Code := { maxStack := 4, maxLocals := 4, code := jdk_29_method_66_code, exceptionTable := #[], attributes := #[] }
def k2m1 : Method := { name := "max", desc := "(JJ)J", sig := { parameters := [.long, .long], returnType := some .long }, accessFlags := 9, code := some k2c1 }
def k2c2 : Code := { maxStack := 4, maxLocals := 4, code := jdk_29_method_70_code, exceptionTable := #[], attributes := #[] }
def k2m2 : Method := { name := "min", desc := "(JJ)J", sig := { parameters := [.long, .long], returnType := some .long }, accessFlags := 9, code := some k2c2 }
/-- java/lang/Math -/
def k2 : Class := { plain "java/lang/Math" (some 0) with
  accessFlags := 49
  interfaces := #[]
  cf := some (fileOf pool2 1 #[.nestMembers #[98]] #[{ accessFlags := 2, nameIndex := 7, descriptorIndex := 8, attributes := #[] }, { accessFlags := 9, nameIndex := 198, descriptorIndex := 121, attributes := #[] }, { accessFlags := 9, nameIndex := 201, descriptorIndex := 121, attributes := #[] }] 49 4 #[] #[{ accessFlags := 25, nameIndex := 354, descriptorIndex := 339, attributes := #[] }, { accessFlags := 25, nameIndex := 358, descriptorIndex := 339, attributes := #[] }, { accessFlags := 25, nameIndex := 361, descriptorIndex := 339, attributes := #[] }, { accessFlags := 26, nameIndex := 364, descriptorIndex := 339, attributes := #[] }, { accessFlags := 26, nameIndex := 365, descriptorIndex := 339, attributes := #[] }, { accessFlags := 26, nameIndex := 172, descriptorIndex := 173, attributes := #[] }, { accessFlags := 26, nameIndex := 176, descriptorIndex := 173, attributes := #[] }, { accessFlags := 8, nameIndex := 344, descriptorIndex := 339, attributes := #[] }, { accessFlags := 8, nameIndex := 338, descriptorIndex := 339, attributes := #[] }, { accessFlags := 4120, nameIndex := 245, descriptorIndex := 246, attributes := #[] }])
  fields := #[{ name := "E", type := .double, accessFlags := 25, slot := 0, constantValue := 0 }, { name := "PI", type := .double, accessFlags := 25, slot := 1, constantValue := 0 }, { name := "TAU", type := .double, accessFlags := 25, slot := 2, constantValue := 0 }, { name := "DEGREES_TO_RADIANS", type := .double, accessFlags := 26, slot := 3, constantValue := 0 }, { name := "RADIANS_TO_DEGREES", type := .double, accessFlags := 26, slot := 4, constantValue := 0 }, { name := "negativeZeroFloatBits", type := .long, accessFlags := 26, slot := 5, constantValue := 0 }, { name := "negativeZeroDoubleBits", type := .long, accessFlags := 26, slot := 6, constantValue := 0 }, { name := "twoToTheDoubleScaleUp", type := .double, accessFlags := 8, slot := 7, constantValue := 0 }, { name := "twoToTheDoubleScaleDown", type := .double, accessFlags := 8, slot := 8, constantValue := 0 }, { name := "$assertionsDisabled", type := .boolean, accessFlags := 4120, slot := 9, constantValue := 0 }]
  methods := #[k2m0, k2m1, k2m2]
  instanceTypes := #[]
  staticTypes := #[.double, .double, .double, .double, .double, .long, .long, .double, .double, .boolean]
  resolved := Array.replicate 460 none
  statics := none }

def pool3 : Array CpInfo := pool [(1, .methodref 2 3), (0, .class_ 4), (0, .nameAndType 5 6), (0, u "java/lang/Object"), (0, u "<init>"), (0, u "()V"), (0, .class_ 8), (0, u "java/lang/Record")] 13

def k3c0 : Code := { maxStack := 1, maxLocals := 1, code := jdk_30_method_1_code, exceptionTable := #[], attributes := #[] }
def k3m0 : Method := { name := "<init>", desc := "()V", sig := { parameters := [], returnType := none }, accessFlags := 4, code := some k3c0 }
/-- java/lang/Record -/
def k3 : Class := { plain "java/lang/Record" (some 0) with
  accessFlags := 1057
  interfaces := #[]
  cf := some (fileOf pool3 7 #[] #[{ accessFlags := 4, nameIndex := 5, descriptorIndex := 6, attributes := #[] }] 1057 2 #[] #[])
  fields := #[]
  methods := #[k3m0]
  instanceTypes := #[]
  staticTypes := #[]
  resolved := Array.replicate 22 none
  statics := none }

def pool4 : Array CpInfo := pool [(1, .methodref 2 3), (0, .class_ 4), (0, .nameAndType 5 6), (0, u "java/lang/Record"), (0, u "<init>"), (0, u "()V"), (14, .fieldref 22 23), (0, .class_ 24), (0, .nameAndType 25 26), (0, u "com/example/stride/stride/core/SequenceDefinition"), (0, u "start"), (0, u "J"), (0, .fieldref 22 28), (0, .nameAndType 29 26), (0, u "increment"), (0, .fieldref 22 31), (0, .nameAndType 32 26), (0, u "min"), (0, .fieldref 22 34), (0, .nameAndType 35 26), (0, u "max"), (16, u "(JJJJ)V"), (25, u "DEFAULT"), (0, u "Lcom/example/stride/stride/core/SequenceDefinition;"), (4, u "contains"), (0, u "(J)Z")] 43

def k4c0 : Code := { maxStack := 8, maxLocals := 9, code := prog_30_method_1_code, exceptionTable := #[], attributes := #[] }
def k4m0 : Method := { name := "<init>", desc := "(JJJJ)V", sig := { parameters := [.long, .long, .long, .long], returnType := none }, accessFlags := 1, code := some k4c0 }
def k4c1 : Code := { maxStack := 4, maxLocals := 3, code := prog_30_method_3_code, exceptionTable := #[], attributes := #[] }
def k4m1 : Method := { name := "contains", desc := "(J)Z", sig := { parameters := [.long], returnType := some .boolean }, accessFlags := 0, code := some k4c1 }
/-- com/example/stride/stride/core/SequenceDefinition -/
def k4 : Class := { plain "com/example/stride/stride/core/SequenceDefinition" (some 3) with
  accessFlags := 49
  interfaces := #[]
  cf := some (fileOf pool4 22 #[] #[{ accessFlags := 1, nameIndex := 5, descriptorIndex := 52, attributes := #[] }, { accessFlags := 0, nameIndex := 84, descriptorIndex := 85, attributes := #[] }] 49 2 #[] #[{ accessFlags := 18, nameIndex := 25, descriptorIndex := 26, attributes := #[] }, { accessFlags := 18, nameIndex := 29, descriptorIndex := 26, attributes := #[] }, { accessFlags := 18, nameIndex := 32, descriptorIndex := 26, attributes := #[] }, { accessFlags := 18, nameIndex := 35, descriptorIndex := 26, attributes := #[] }, { accessFlags := 25, nameIndex := 78, descriptorIndex := 79, attributes := #[] }])
  fields := #[{ name := "start", type := .long, accessFlags := 18, slot := 0, constantValue := 0 }, { name := "increment", type := .long, accessFlags := 18, slot := 1, constantValue := 0 }, { name := "min", type := .long, accessFlags := 18, slot := 2, constantValue := 0 }, { name := "max", type := .long, accessFlags := 18, slot := 3, constantValue := 0 }, { name := "DEFAULT", type := (.object "com/example/stride/stride/core/SequenceDefinition"), accessFlags := 25, slot := 0, constantValue := 0 }]
  methods := #[k4m0, k4m1]
  instanceTypes := #[.long, .long, .long, .long]
  staticTypes := #[(.object "com/example/stride/stride/core/SequenceDefinition")]
  resolved := Array.replicate 129 none
  statics := none }

def pool5 : Array CpInfo := pool [(1, u "java/lang/Cloneable"), (0, .class_ 1), (0, u "java/lang/Object"), (0, .class_ 3)] 3

/-- java/lang/Cloneable -/
def k5 : Class := { plain "java/lang/Cloneable" (some 0) with
  accessFlags := 1537
  interfaces := #[]
  cf := some (fileOf pool5 2 #[] #[] 1537 4 #[] #[])
  fields := #[]
  methods := #[]
  instanceTypes := #[]
  staticTypes := #[]
  resolved := Array.replicate 8 none
  statics := none }

def pool6 : Array CpInfo := pool [(1, u "java/io/Serializable"), (0, .class_ 1), (0, u "java/lang/Object"), (0, .class_ 3)] 3

/-- java/io/Serializable -/
def k6 : Class := { plain "java/io/Serializable" (some 0) with
  accessFlags := 1537
  interfaces := #[]
  cf := some (fileOf pool6 2 #[] #[] 1537 4 #[] #[])
  fields := #[]
  methods := #[]
  instanceTypes := #[]
  staticTypes := #[]
  resolved := Array.replicate 8 none
  statics := none }

/-- the primitive byte -/
def k7 : Class := { plain "byte" none with kind := .primitive 'B', accessFlags := 0x411 }
/-- [B -/
def k8 : Class := { plain "[B" (some 0) with kind := .array 7 .byte, interfaces := #[5, 6], accessFlags := 1041 }

/-- the primitive int -/
def k9 : Class := { plain "int" none with kind := .primitive 'I', accessFlags := 0x411 }
/-- [I -/
def k10 : Class := { plain "[I" (some 0) with kind := .array 9 .int, interfaces := #[5, 6], accessFlags := 1041 }

def heap : Heap := #[]
def classes : Array Class := #[k0, k1, k2, k3, k4, k5, k6, k7, k8, k9, k10]
def interned : List (Array UInt16 × Addr) := []
def slotsUsed : Nat := 0
def theMethod : MethodId := ⟨1, 2⟩
def args0 : Array Value := #[.long 5, .long 9, .long 1, .long 6, .long 7, .int 3]
def aboutOver (below : List Frame) : State where
  vm := { classes := classes, interned := interned.toArray }
  heap := heap
  slotsUsed := slotsUsed
  threads := #[{ frames := .invoking theMethod args0 :: below }]
def below0 : List Frame := [.native { method := ⟨0, 0⟩, args := #[] }]
def about1 : State := aboutOver below0
def p0 : Program := .bare "" "" ""
def e0 : Env := launch0.env 0 0 0
theorem w_frames : about1.frames = Frame.invoking theMethod args0 :: below0 := rfl
set_option maxRecDepth 65536 in
theorem w_args : argsFit about1.vm theMethod args0 = true := by decide +kernel
set_option maxRecDepth 65536 in
theorem w_heap : heapFits about1 = true := by decide +kernel
set_option maxRecDepth 65536 in
theorem w_runnable : about1.curStatus? = some .runnable := by decide +kernel
set_option maxRecDepth 65536 in
theorem w_alone : about1.alone = true := by decide +kernel
set_option maxRecDepth 65536 in
theorem w_named : about1.methodNamed? x = some theMethod := by decide +kernel
set_option maxRecDepth 65536 in
theorem w_hears : about1.hears theMethod below0 = true := by decide +kernel
set_option maxRecDepth 65536 in
theorem w_ripe : about1.ripe theMethod args0 below0 = true := by decide +kernel
theorem w_running : about1.status = .running := rfl
set_option maxRecDepth 65536 in
theorem w_room : about1.hasRoom e0.platform room_1 = true :=
  launch0.hasRoom_least _ room_1 (by decide +kernel) (by decide +kernel) (by decide +kernel) (by decide +kernel) (by decide +kernel) (by decide +kernel)
theorem allAtoms_all (ts : List Jvm.Cond) (a : Array Jvm.Value) (st : Jvm.State) : (allAtoms ts).before a st = ts.all (fun c => c.before a st) := by
  induction ts with
  | nil => rfl
  | cons c t ih =>
    show (Jvm.Cond.and c (allAtoms t)).before a st = _
    rw [Jvm.Cond.before_and, ih, List.all_cons]
def words1 : List Jvm.Cond := Jvm.Cond.code x code maxLocals ret :: tables_1
/-- a 'code' word, met by the world's own term for the bytes: nothing is compared byte by byte -/
theorem code_word {y : MethodName} {bytes : ByteArray} {mx : Nat} {rt : Option FieldType} {a : Array Value} {s : State} {m : MethodId} {meth : Method} {c : Code} (h1 : s.methodNamed? y = some m) (h2 : s.vm.method? m = some meth) (h3 : meth.code = some c) (h4 : c.code = bytes)
    (h5 : (c.maxLocals == mx && c.exceptionTable.isEmpty && decide (c.maxStack ≤ mostOperands) && decide (meth.sig.returnType = rt) && !meth.locks && decide (parseMethodDescriptor y.desc = some meth.sig)) = true) : (Jvm.Cond.code y bytes mx rt).before a s = true := by
  simp only [Bool.and_eq_true, beq_iff_eq, Bool.not_eq_true', decide_eq_true_eq] at h5
  obtain ⟨⟨⟨⟨⟨g1, g2⟩, g3⟩, g4⟩, g5⟩, g6⟩ := h5
  simp [Cond.before, Cond.holds, Cond.value, h1, h2, h3, h4, g1, g2, g3, g4, g5, g6]
def isCode : Jvm.Cond → Bool
  | .code _ _ _ _ => true
  | _ => false
theorem all_split {L : List Jvm.Cond} {P : Jvm.Cond → Bool} (h1 : L.all (fun c => isCode c || P c) = true) (h2 : ∀ c ∈ L.filter isCode, P c = true) : L.all P = true := by
  refine List.all_eq_true.mpr fun c hc => ?_
  have h := List.all_eq_true.mp h1 c hc
  rcases Bool.eq_false_or_eq_true (isCode c) with hi | hi
  · exact h2 c (List.mem_filter.mpr ⟨hc, hi⟩)
  · simpa [hi] using h
set_option maxRecDepth 65536 in
theorem w_c0 : (Jvm.Cond.code x code maxLocals ret).before args0 about1 = true := code_word (m := ⟨1, 2⟩) (meth := k1m2) (c := k1c2) (by decide +kernel) rfl rfl rfl (by decide +kernel)
set_option maxRecDepth 65536 in
theorem w_c1 : (Jvm.Cond.code ({ cls := "java/lang/Math", name := "min", desc := "(JJ)J" } : Jvm.MethodName) jdk_29_method_70_code (4 : Nat) (Option.some Jvm.ClassFile.FieldType.long)).before args0 about1 = true := code_word (m := ⟨2, 2⟩) (meth := k2m2) (c := k2c2) (by decide +kernel) rfl rfl rfl (by decide +kernel)
set_option maxRecDepth 65536 in
theorem w_c2 : (Jvm.Cond.code ({ cls := "java/lang/Math", name := "max", desc := "(JJ)J" } : Jvm.MethodName) jdk_29_method_66_code (4 : Nat) (Option.some Jvm.ClassFile.FieldType.long)).before args0 about1 = true := code_word (m := ⟨2, 1⟩) (meth := k2m1) (c := k2c1) (by decide +kernel) rfl rfl rfl (by decide +kernel)
set_option maxRecDepth 65536 in
theorem w_c3 : (Jvm.Cond.code ({ cls := "com/example/stride/stride/core/SequenceDefinition", name := "<init>", desc := "(JJJJ)V" } : Jvm.MethodName) prog_30_method_1_code (9 : Nat) (Option.none : Option Jvm.ClassFile.FieldType)).before args0 about1 = true := code_word (m := ⟨4, 0⟩) (meth := k4m0) (c := k4c0) (by decide +kernel) rfl rfl rfl (by decide +kernel)
set_option maxRecDepth 65536 in
theorem w_c4 : (Jvm.Cond.code ({ cls := "java/lang/Record", name := "<init>", desc := "()V" } : Jvm.MethodName) jdk_30_method_1_code (1 : Nat) (Option.none : Option Jvm.ClassFile.FieldType)).before args0 about1 = true := code_word (m := ⟨3, 0⟩) (meth := k3m0) (c := k3c0) (by decide +kernel) rfl rfl rfl (by decide +kernel)
set_option maxRecDepth 65536 in
theorem w_c5 : (Jvm.Cond.code ({ cls := "java/lang/Object", name := "<init>", desc := "()V" } : Jvm.MethodName) object_method_1_code (1 : Nat) (Option.none : Option Jvm.ClassFile.FieldType)).before args0 about1 = true := code_word (m := ⟨0, 0⟩) (meth := k0m0) (c := k0c0) (by decide +kernel) rfl rfl rfl (by decide +kernel)
set_option maxRecDepth 65536 in
theorem w_c6 : (Jvm.Cond.code ({ cls := "com/example/stride/stride/core/SequenceDefinitionContainsPinLaw", name := "unsignedLe", desc := "(JJ)Z" } : Jvm.MethodName) method_2_code (4 : Nat) (Option.some Jvm.ClassFile.FieldType.boolean)).before args0 about1 = true := code_word (m := ⟨1, 1⟩) (meth := k1m1) (c := k1c1) (by decide +kernel) rfl rfl rfl (by decide +kernel)
set_option maxRecDepth 65536 in
theorem w_c7 : (Jvm.Cond.code ({ cls := "com/example/stride/stride/core/SequenceDefinition", name := "contains", desc := "(J)Z" } : Jvm.MethodName) prog_30_method_3_code (3 : Nat) (Option.some Jvm.ClassFile.FieldType.boolean)).before args0 about1 = true := code_word (m := ⟨4, 1⟩) (meth := k4m1) (c := k4c1) (by decide +kernel) rfl rfl rfl (by decide +kernel)
def codes1 : List Jvm.Cond := [Jvm.Cond.code x code maxLocals ret, Jvm.Cond.code ({ cls := "java/lang/Math", name := "min", desc := "(JJ)J" } : Jvm.MethodName) jdk_29_method_70_code (4 : Nat) (Option.some Jvm.ClassFile.FieldType.long), Jvm.Cond.code ({ cls := "java/lang/Math", name := "max", desc := "(JJ)J" } : Jvm.MethodName) jdk_29_method_66_code (4 : Nat) (Option.some Jvm.ClassFile.FieldType.long), Jvm.Cond.code ({ cls := "com/example/stride/stride/core/SequenceDefinition", name := "<init>", desc := "(JJJJ)V" } : Jvm.MethodName) prog_30_method_1_code (9 : Nat) (Option.none : Option Jvm.ClassFile.FieldType), Jvm.Cond.code ({ cls := "java/lang/Record", name := "<init>", desc := "()V" } : Jvm.MethodName) jdk_30_method_1_code (1 : Nat) (Option.none : Option Jvm.ClassFile.FieldType), Jvm.Cond.code ({ cls := "java/lang/Object", name := "<init>", desc := "()V" } : Jvm.MethodName) object_method_1_code (1 : Nat) (Option.none : Option Jvm.ClassFile.FieldType), Jvm.Cond.code ({ cls := "com/example/stride/stride/core/SequenceDefinitionContainsPinLaw", name := "unsignedLe", desc := "(JJ)Z" } : Jvm.MethodName) method_2_code (4 : Nat) (Option.some Jvm.ClassFile.FieldType.boolean), Jvm.Cond.code ({ cls := "com/example/stride/stride/core/SequenceDefinition", name := "contains", desc := "(J)Z" } : Jvm.MethodName) prog_30_method_3_code (3 : Nat) (Option.some Jvm.ClassFile.FieldType.boolean)]
set_option maxRecDepth 65536 in
theorem codes_eq : words1.filter isCode = codes1 := rfl
theorem w_codes : ∀ c ∈ words1.filter isCode, c.before args0 about1 = true := by
  rw [codes_eq]
  intro c hc
  simp only [codes1, List.mem_cons, List.not_mem_nil, or_false] at hc
  rcases hc with rfl | rfl | rfl | rfl | rfl | rfl | rfl | rfl
  · exact w_c0
  · exact w_c1
  · exact w_c2
  · exact w_c3
  · exact w_c4
  · exact w_c5
  · exact w_c6
  · exact w_c7
set_option maxRecDepth 65536 in
theorem w_t1 : (words1.take 24).all (fun c => isCode c || c.before args0 about1) = true := by decide +kernel
set_option maxRecDepth 65536 in
theorem w_t2 : (words1.drop 24).all (fun c => isCode c || c.before args0 about1) = true := by decide +kernel
theorem w_tables : (allAtoms (Jvm.Cond.code x code maxLocals ret :: tables_1)).before args0 about1 = true := by
  rw [allAtoms_all]
  show words1.all (fun c => c.before args0 about1) = true
  refine all_split ?_ w_codes
  rw [← List.take_append_drop 24 words1, List.all_append, w_t1, w_t2]
  rfl
set_option maxRecDepth 65536 in
theorem w_case : (Jvm.Cond.and given_1 narrow_1).before args0 about1 = true := by decide +kernel
theorem w_applies : (headSpec (Jvm.Cond.code x code maxLocals ret :: tables_1) room_1).applies x e0.platform about1 = true :=
  (Spec.applies_iff w_frames).mpr ⟨w_running, w_runnable, w_alone, w_named, w_hears, w_ripe, w_room, w_tables⟩
theorem atStart : AtStart classFile x code maxLocals ret World_1 tables_1 room_1 Calls_1 rest_1 Pre_1 launch0 p0 e0 about1 theMethod args0 below0 :=
  ⟨lists_1, trivial, launch0.admits_env _ _ _, launch0.least_env, fairChoices_fair.cas, fairChoices_fair.clock, w_frames, w_args, w_heap, w_applies, trivial, trivial, w_case⟩
end start1
theorem witness_1 : WitnessClaimed_1 := ⟨start1.p0, start1.e0, start1.about1, start1.theMethod, start1.args0, start1.below0, start1.atStart⟩
end Jvm.Pilot.@@N@@
