import JvmDerived
import JvmDerived.Pilot.@@N@@Statement
import JvmDerived.Pilot.@@N@@Code
set_option linter.unusedVariables false
set_option linter.unusedSimpArgs false
@@BLOCK:NumsL.lean.txt@@
namespace Jvm.RoadKit
open Sem ClassFile Op Lib Jvm.Stand Jvm.Free Jvm.LawKit
section New
variable {p : Program} {l : Launch} {e : Env} {R : Room} {s : State} {m : MethodId} {args : Array Value} {below : List Frame} {meth : Method} {c : Code} {T : State} {locs : List Loc} {cells slots : Nat}
/-- ireturn of an int (after example/lawnew) -/
theorem retI (X : Stand p l e R s m args below meth c T locs cells slots) (hx : p.tables.exec = Jvm.exec) {pc : Nat} {Ls : Array Slot} {z : Int32} {rest : List Value} (hret : meth.sig.returnType = some .int) (hd : decode c.code pc = .ok (.ireturn, 1)) {fs : List Frame}
    (hl : ∀ (f : JFrame) (acts : List Action), f.method = m → f.locked = none → f.entered = [] → (doReturn e (T.setTop f) acts (some (.int z))).1 = T.setFrames fs) : Steps p.tables e below (T.setTop (mkF m pc Ls (.int z :: rest))) (T.setFrames fs) := by
  have hm' : T.vm.method? m = some meth := X.method'
  have hn : narrow .int (.int z) = .int z := rfl
  show Steps p.tables e below (T.setTop { method := m, pc := pc, locals := Ls, stack := _ :: rest, locked := none }) _
  jvm_step X.here [X.here.top, hx, hd, hm', hret, hn]
  first | (intro acts; rw [hl _ acts rfl rfl rfl]) | rw [hl _ _ rfl rfl rfl]
  exact Steps.refl _
/-- the run from S comes to an end that P speaks of: a walk goes on from state to state under one goal, and may fork -/
def own_Go (tb : Tables) (e : Env) (below : List Frame) (P : State → Outcome → Prop) (S : State) : Prop := ∃ t o, Steps tb e below S t ∧ t.status = .running ∧ Ended t below o ∧ P t o
theorem own_st {tb : Tables} {e : Env} {below : List Frame} {P : State → Outcome → Prop} {S S' : State} (st : ∀ t, Steps tb e below S' t → Steps tb e below S t) (k : own_Go tb e below P S') : own_Go tb e below P S := by
  obtain ⟨t, o, h1, h2⟩ := k
  exact ⟨t, o, st t h1, h2⟩
theorem own_tr {tb : Tables} {e : Env} {below : List Frame} {P : State → Outcome → Prop} {S S' : State} (st : Steps tb e below S S') (k : own_Go tb e below P S') : own_Go tb e below P S := own_st (fun _ h => st.trans h) k
theorem own_cv {tb : Tables} {e : Env} {below : List Frame} {P : State → Outcome → Prop} {S S' : State} (q : S = S') (k : own_Go tb e below P S') : own_Go tb e below P S := q ▸ k
theorem own_join {α : Type} {tb : Tables} {e : Env} {below : List Frame} {P : State → Outcome → Prop} {S : State} (F : α → State) (k : ∀ x, own_Go tb e below P (F x)) (j : (∀ x, own_Go tb e below P (F x)) → own_Go tb e below P S) : own_Go tb e below P S := j k
/-- the end of a walk: what the return leaves -/
theorem own_end (X : Stand p l e R s m args below meth c T locs cells slots) {Q : Option Value → Heap → List Loc → Prop} {C N : Nat} {S : State} (v : Option Value) (hlocks : meth.locks = false) (hv : meth.sig.returnType = none → v = none)
    (ret : ∀ fs : List Frame, (∀ (f : JFrame) (acts : List Action), f.method = m → f.locked = none → f.entered = [] → (doReturn e (T.setTop f) acts v).1 = T.setFrames fs) → Steps p.tables e below S (T.setFrames fs))
    (q : Q v T.heap locs) (hc : cells ≤ C) (hn : slots ≤ N) : own_Go p.tables e below (fun t o => ∃ v L, o = .returned v ∧ Q v t.heap L ∧ FrameEnd s o t L C N) S := by
  obtain ⟨fs, hr, hrun, hended, hW, hsame⟩ := X.leave (v := v) hv hlocks
  exact ⟨_, _, ret fs hr, hrun, hended, v, locs, rfl, q, ⟨_, rfl⟩, hW, hsame.mono hc hn⟩
end New
theorem own_i_lt (x y : Int32) : if_icmp.holds .lt x y = decide (x.toInt < y.toInt) := by simp [if_icmp.holds, Int32.lt_iff_toInt_lt]
theorem own_i_le (x y : Int32) : if_icmp.holds .le x y = decide (x.toInt ≤ y.toInt) := by simp [if_icmp.holds, Int32.le_iff_toInt_le]
theorem own_i_gt (x y : Int32) : if_icmp.holds .gt x y = decide (x.toInt > y.toInt) := by simp [if_icmp.holds, Int32.lt_iff_toInt_lt]
theorem own_i_ge (x y : Int32) : if_icmp.holds .ge x y = decide (x.toInt ≥ y.toInt) := by simp [if_icmp.holds, Int32.le_iff_toInt_le]
theorem own_i_eq (x y : Int32) : if_icmp.holds .eq x y = decide (x.toInt = y.toInt) := by rw [Bool.eq_iff_iff]; simp [if_icmp.holds, Int32.toInt_inj]
theorem own_i_ne (x y : Int32) : if_icmp.holds .ne x y = decide (x.toInt ≠ y.toInt) := by rw [Bool.eq_iff_iff]; simp [if_icmp.holds, Int32.toInt_inj]
theorem own_z_lt (x : Int32) : ifCond.holds .lt x = decide (x.toInt < 0) := by simp [ifCond.holds, Int32.lt_iff_toInt_lt]
theorem own_z_le (x : Int32) : ifCond.holds .le x = decide (x.toInt ≤ 0) := by simp [ifCond.holds, Int32.le_iff_toInt_le]
theorem own_z_gt (x : Int32) : ifCond.holds .gt x = decide (x.toInt > 0) := by simp [ifCond.holds, Int32.lt_iff_toInt_lt]
theorem own_z_ge (x : Int32) : ifCond.holds .ge x = decide (x.toInt ≥ 0) := by simp [ifCond.holds, Int32.le_iff_toInt_le]
theorem own_z_eq (x : Int32) : ifCond.holds .eq x = decide (x.toInt = 0) := by rw [Bool.eq_iff_iff]; simp [ifCond.holds, ← Int32.toInt_inj]
theorem own_z_ne (x : Int32) : ifCond.holds .ne x = decide (x.toInt ≠ 0) := by rw [Bool.eq_iff_iff]; simp [ifCond.holds, ← Int32.toInt_inj]
theorem own_cmp (x y : Int64) : (XT.cmpL x y).toInt = if y.toInt < x.toInt then 1 else if x.toInt = y.toInt then 0 else -1 := by
  simp only [XT.cmpL, Int64.lt_iff_toInt_lt, ← Int64.toInt_inj]
  split
  · rfl
  · split <;> rfl
theorem own_l_lt (x y : Int64) : ifCond.holds .lt (XT.cmpL x y) = decide (x.toInt < y.toInt) := by
  rw [own_z_lt, own_cmp, decide_eq_decide]; split <;> (try split) <;> omega
theorem own_l_le (x y : Int64) : ifCond.holds .le (XT.cmpL x y) = decide (x.toInt ≤ y.toInt) := by
  rw [own_z_le, own_cmp, decide_eq_decide]; split <;> (try split) <;> omega
theorem own_l_gt (x y : Int64) : ifCond.holds .gt (XT.cmpL x y) = decide (x.toInt > y.toInt) := by
  rw [own_z_gt, own_cmp, decide_eq_decide]; split <;> (try split) <;> omega
theorem own_l_ge (x y : Int64) : ifCond.holds .ge (XT.cmpL x y) = decide (x.toInt ≥ y.toInt) := by
  rw [own_z_ge, own_cmp, decide_eq_decide]; split <;> (try split) <;> omega
theorem own_l_eq (x y : Int64) : ifCond.holds .eq (XT.cmpL x y) = decide (x.toInt = y.toInt) := by
  rw [own_z_eq, own_cmp, decide_eq_decide]; split <;> (try split) <;> omega
theorem own_l_ne (x y : Int64) : ifCond.holds .ne (XT.cmpL x y) = decide (x.toInt ≠ y.toInt) := by
  rw [own_z_ne, own_cmp, decide_eq_decide]; split <;> (try split) <;> omega
/-- a boolean as the int that the machine keeps -/
def own_b (P : Prop) [Decidable P] : Int32 := if P then 1 else 0
theorem own_b1 {P : Prop} [Decidable P] (h : P) : own_b P = 1 := if_pos h
theorem own_b0 {P : Prop} [Decidable P] (h : ¬ P) : own_b P = 0 := if_neg h
theorem own_bi (P : Prop) [Decidable P] : (own_b P).toInt = if P then 1 else 0 := by unfold own_b; split <;> rfl
theorem own_nb {P : Prop} [Decidable P] : nar .boolean (own_b P) = own_b P := by unfold own_b; split <;> rfl
theorem own_nB {x : Int32} : nar .byte (Int8.toInt32 (Int32.toInt8 x)) = Int8.toInt32 (Int32.toInt8 x) := by
  show Int8.toInt32 (Int32.toInt8 (Int8.toInt32 (Int32.toInt8 x))) = _
  simp
end Jvm.RoadKit
namespace Jvm.Pilot.@@N@@
open Jvm Jvm.ClassFile Sem Op Lib Jvm.Free Jvm.Stand Jvm.LawKit Jvm.RoadKit Bundle Jvm.Pilot.@@N@@.Jvm.D

def own_size (a b : Int32) : Int64 := ((40 : Int64) + (4 : Int64) * Int32.toInt64 a) + (20 : Int64) * Int32.toInt64 b
theorem own_r0 : own_size 0 0 = 40 := by decide
theorem own_r1 (s t m : Int32) : own_size s m - own_size t m = (4 : Int64) * (Int32.toInt64 s - Int32.toInt64 t) := by
  unfold own_size
  generalize Int32.toInt64 s = a; generalize Int32.toInt64 t = b; generalize Int32.toInt64 m = c
  grind
theorem own_r2 (s m n : Int32) : own_size s m - own_size s n = (20 : Int64) * (Int32.toInt64 m - Int32.toInt64 n) := by
  unfold own_size
  generalize Int32.toInt64 s = a; generalize Int32.toInt64 m = b; generalize Int32.toInt64 n = c
  grind
theorem own_r3 (p q : Int32) : ¬ (own_size (p &&& 2147483647) (q &&& 2147483647)).toInt < 40 := by
  have e1 := Jvm.Kit.i32_mask p 2147483647 (k := 31) (by decide) (by decide)
  have e2 := Jvm.Kit.i32_mask q 2147483647 (k := 31) (by decide) (by decide)
  unfold own_size
  generalize p &&& 2147483647 = a at *
  generalize q &&& 2147483647 = b at *
  have c1 := Jvm.Kit.i64_of_i32 a
  have c2 := Jvm.Kit.i64_of_i32 b
  generalize a.toInt64 = x at *
  generalize b.toInt64 = y at *
  have z40 : (40 : Int64).toInt = 40 := rfl
  have z4 : (4 : Int64).toInt = 4 := rfl
  have z20 : (20 : Int64).toInt = 20 := rfl
  have d1 : ((4 : Int64) * x).toInt = 4 * x.toInt := by rw [Jvm.Kit.i64_mul (by rw [z4]; omega) (by rw [z4]; omega), z4]
  have d2 : ((20 : Int64) * y).toInt = 20 * y.toInt := by rw [Jvm.Kit.i64_mul (by rw [z20]; omega) (by rw [z20]; omega), z20]
  have d3 : ((40 : Int64) + 4 * x).toInt = 40 + 4 * x.toInt := by rw [Jvm.Kit.i64_add (by omega) (by omega), d1, z40]
  have d4 : ((40 : Int64) + 4 * x + 20 * y).toInt = 40 + 4 * x.toInt + 20 * y.toInt := by rw [Jvm.Kit.i64_add (by omega) (by omega), d2, d3]
  omega
theorem dS_0 : decode prog_14_method_2_code 0 = .ok (.ldc2_w 34, 3) := by decide +kernel
theorem dS_3 : decode prog_14_method_2_code 3 = .ok (.ldc2_w 36, 3) := by decide +kernel
theorem dS_6 : decode prog_14_method_2_code 6 = .ok (.iload_n 0, 1) := by decide +kernel
theorem dS_7 : decode prog_14_method_2_code 7 = .ok (.i2l, 1) := by decide +kernel
theorem dS_8 : decode prog_14_method_2_code 8 = .ok (.lmul, 1) := by decide +kernel
theorem dS_9 : decode prog_14_method_2_code 9 = .ok (.ladd, 1) := by decide +kernel
theorem dS_10 : decode prog_14_method_2_code 10 = .ok (.ldc2_w 38, 3) := by decide +kernel
theorem dS_13 : decode prog_14_method_2_code 13 = .ok (.iload_n 1, 1) := by decide +kernel
theorem dS_14 : decode prog_14_method_2_code 14 = .ok (.i2l, 1) := by decide +kernel
theorem dS_15 : decode prog_14_method_2_code 15 = .ok (.lmul, 1) := by decide +kernel
theorem dS_16 : decode prog_14_method_2_code 16 = .ok (.ladd, 1) := by decide +kernel
theorem dS_17 : decode prog_14_method_2_code 17 = .ok (.lreturn, 1) := by decide +kernel
theorem pn_S : plainName "com/example/cairnlog/cairnlog/IndexFile" = true := by first | (simp [plainName, overriddenIn]; done) | decide +kernel
theorem pd_S : parseMethodDescriptor "(II)J" = some ⟨[.int, .int], some .long⟩ := by decide +kernel
theorem ef_S (m : MethodId) (p1 : Int32) (p2 : Int32) : entryFrame m #[(.int p1), (.int p2)] 2 = mkF m 0 #[.val (.int p1), .val (.int p2)] [] := by first | (simp [entryFrame, mkF, argsToLocals, Value.category]; done) | rfl
def QS (Z : State) (p1 : Int32) (p2 : Int32) (h0 : Heap) (n0 : Nat) (v : Option Value) (h : Heap) (L : List Loc) : Prop := v = some (.long (own_size p1 p2)) ∧ Fr n0 L ∧ h = h0
set_option maxRecDepth 65536 in
set_option maxHeartbeats 40000000 in
theorem rmS (l : Launch) (Z : State) (a0 : Array Value) (hw : ∀ d ∈ tables_1, d.before a0 Z = true) (ws : List Jvm.Cond) (p1 : Int32) (p2 : Int32) (h0 : Heap) (n0 : Nat) (Z0 : n0 ≤ h0.size) :
    MetFree l (⟨"com/example/cairnlog/cairnlog/IndexFile", "size", "(II)J"⟩ : MethodName) (head1 (Jvm.Cond.code (⟨"com/example/cairnlog/cairnlog/IndexFile", "size", "(II)J"⟩ : MethodName) prog_14_method_2_code 2 (some .long) :: ws) ({ frames := 0, cells := 0, slots := 0, locals := 0 } : Room)) (fun a U => a = #[(.int p1), (.int p2)] ∧ Z.Warmed39 U.vm ∧ U.heap = h0) (fun _ _ _ _ _ => True) (fun _ U o U' => ∃ v L, o = .returned v ∧ QS Z p1 p2 h0 n0 v U'.heap L ∧ FrameEnd U o U' L ({ frames := 0, cells := 0, slots := 0, locals := 0 } : Room).cells ({ frames := 0, cells := 0, slots := 0, locals := 0 } : Room).slots) := by
  refine MetFree.of_bodySF (plainFor_of_name pn_S) hisR ?_
  intro p e s m args below meth c s₁ Bd hml0 hP hK
  obtain ⟨rfl, hZ, hh⟩ := hP
  have hx := Bd.exec
  have hby := Bd.bytes
  have hml : c.maxLocals = 2 := hml0
  have hown : s.vm.findClass "com/example/cairnlog/cairnlog/IndexFile" = some m.cls := findClass_of_methodNamed Bd.named
  have hnm := (name_of_methodNamed Bd.named Bd.method).1
  have X0 : Stand p l e ({ frames := 0, cells := 0, slots := 0, locals := 0 } : Room) s m #[(.int p1), (.int p2)] below meth c s₁ [] 0 0 := Stand.of_body Bd
  have e0 : s₁.heap = h0 := by rw [← hh, Bd.state]; rfl
  have N0 := Fr.nil n0
  show own_Go p.tables e below (fun t o => ∃ v L, o = .returned v ∧ QS Z p1 p2 h0 n0 v t.heap L ∧ FrameEnd s o t L ({ frames := 0, cells := 0, slots := 0, locals := 0 } : Room).cells ({ frames := 0, cells := 0, slots := 0, locals := 0 } : Room).slots) (s₁.setTop (entryFrame m #[(.int p1), (.int p2)] 2))
  rw [ef_S]
  show own_Go p.tables e below _ (s₁.setTop (mkF m 0 #[.val (.int p1), .val (.int p2)] []))
  refine own_st (S' := s₁.setTop (mkF m 3 #[.val (.int p1), .val (.int p2)] [(.long (40 : Int64))])) (fun _ k => X0.ldc2J hx hown (mvT hZ (hw _ (List.mem_of_getElem? (i := 5) rfl))) rfl (hb hby dS_0) k) ?_
  refine own_st (S' := s₁.setTop (mkF m 6 #[.val (.int p1), .val (.int p2)] [(.long (4 : Int64)), (.long (40 : Int64))])) (fun _ k => X0.ldc2J hx hown (mvT hZ (hw _ (List.mem_of_getElem? (i := 6) rfl))) rfl (hb hby dS_3) k) ?_
  refine own_st (S' := s₁.setTop (mkF m 7 #[.val (.int p1), .val (.int p2)] [(.int p1), (.long (4 : Int64)), (.long (40 : Int64))])) (fun _ k => XS.iloadN X0.here hx rfl (hb hby dS_6) rfl k) ?_
  refine own_st (S' := s₁.setTop (mkF m 8 #[.val (.int p1), .val (.int p2)] [(.long (Int32.toInt64 p1)), (.long (4 : Int64)), (.long (40 : Int64))])) (fun _ k => XT.i2l X0.here hx rfl (hb hby dS_7) rfl k) ?_
  refine own_st (S' := s₁.setTop (mkF m 9 #[.val (.int p1), .val (.int p2)] [(.long ((4 : Int64) * (Int32.toInt64 p1))), (.long (40 : Int64))])) (fun _ k => XT.lmul X0.here hx rfl (hb hby dS_8) rfl k) ?_
  refine own_st (S' := s₁.setTop (mkF m 10 #[.val (.int p1), .val (.int p2)] [(.long ((40 : Int64) + ((4 : Int64) * (Int32.toInt64 p1))))])) (fun _ k => XT.ladd X0.here hx rfl (hb hby dS_9) rfl k) ?_
  refine own_st (S' := s₁.setTop (mkF m 13 #[.val (.int p1), .val (.int p2)] [(.long (20 : Int64)), (.long ((40 : Int64) + ((4 : Int64) * (Int32.toInt64 p1))))])) (fun _ k => X0.ldc2J hx hown (mvT hZ (hw _ (List.mem_of_getElem? (i := 7) rfl))) rfl (hb hby dS_10) k) ?_
  refine own_st (S' := s₁.setTop (mkF m 14 #[.val (.int p1), .val (.int p2)] [(.int p2), (.long (20 : Int64)), (.long ((40 : Int64) + ((4 : Int64) * (Int32.toInt64 p1))))])) (fun _ k => XS.iloadN X0.here hx rfl (hb hby dS_13) rfl k) ?_
  refine own_st (S' := s₁.setTop (mkF m 15 #[.val (.int p1), .val (.int p2)] [(.long (Int32.toInt64 p2)), (.long (20 : Int64)), (.long ((40 : Int64) + ((4 : Int64) * (Int32.toInt64 p1))))])) (fun _ k => XT.i2l X0.here hx rfl (hb hby dS_14) rfl k) ?_
  refine own_st (S' := s₁.setTop (mkF m 16 #[.val (.int p1), .val (.int p2)] [(.long ((20 : Int64) * (Int32.toInt64 p2))), (.long ((40 : Int64) + ((4 : Int64) * (Int32.toInt64 p1))))])) (fun _ k => XT.lmul X0.here hx rfl (hb hby dS_15) rfl k) ?_
  refine own_st (S' := s₁.setTop (mkF m 17 #[.val (.int p1), .val (.int p2)] [(.long (((40 : Int64) + ((4 : Int64) * (Int32.toInt64 p1))) + ((20 : Int64) * (Int32.toInt64 p2))))])) (fun _ k => XT.ladd X0.here hx rfl (hb hby dS_16) rfl k) ?_
  have tq101 : (((40 : Int64) + ((4 : Int64) * (Int32.toInt64 p1))) + ((20 : Int64) * (Int32.toInt64 p2))) = (own_size p1 p2) := rfl
  refine own_cv (congrArg (fun z => s₁.setTop (mkF m 17 #[.val (.int p1), .val (.int p2)] [(.long z)])) tq101) ?_
  show own_Go p.tables e below _ (s₁.setTop (mkF m 17 #[.val (.int p1), .val (.int p2)] [(.long (own_size p1 p2))]))
  refine own_end X0 (Q := (QS Z p1 p2 h0 n0)) (some (.long (own_size p1 p2))) Bd.notSynchronized (fun h => by rw [Bd.returns] at h; cases h) (fun fs hr => X0.lreturnOut hx Bd.returns (hb hby dS_17) hr) ?_ (by decide) (by decide)
  rw [e0]
  exact ⟨rfl, N0, rfl⟩
theorem pn_0 : plainName "com/example/cairnlog/cairnlog/IndexFileSizePinLaw" = true := by first | (simp [plainName, overriddenIn]; done) | decide +kernel
theorem ef_0 (m : MethodId) (p1 : Int32) (p2 : Int32) (p3 : Int32) (p4 : Int32) : entryFrame m #[(.int p1), (.int p2), (.int p3), (.int p4)] maxLocals = mkF m 0 #[.val (.int p1), .val (.int p2), .val (.int p3), .val (.int p4), .unset, .unset, .unset, .unset, .unset, .unset, .unset, .unset, .unset, .unset, .unset, .unset, .unset, .unset, .unset, .unset] [] := by first | (simp [entryFrame, mkF, argsToLocals, Value.category, maxLocals]; done) | rfl
def Q0 (Z : State) (p1 : Int32) (p2 : Int32) (p3 : Int32) (p4 : Int32) (h0 : Heap) (n0 : Nat) (v : Option Value) (h : Heap) (L : List Loc) : Prop := v = some (.int 1) ∧ Fr n0 L
set_option maxRecDepth 65536 in
set_option maxHeartbeats 40000000 in
theorem rm0 (l : Launch) (Z : State) (a0 : Array Value) (hw : ∀ d ∈ tables_1, d.before a0 Z = true) (ws : List Jvm.Cond) (p1 : Int32) (p2 : Int32) (p3 : Int32) (p4 : Int32) (h0 : Heap) (n0 : Nat) (Z0 : n0 ≤ h0.size) :
    MetFree l x (head1 (Jvm.Cond.code x code maxLocals ret :: ws) room_1) (fun a U => a = #[(.int p1), (.int p2), (.int p3), (.int p4)] ∧ Z.Warmed39 U.vm ∧ U.heap = h0) (fun _ _ _ _ _ => True) (fun _ U o U' => ∃ v L, o = .returned v ∧ Q0 Z p1 p2 p3 p4 h0 n0 v U'.heap L ∧ FrameEnd U o U' L room_1.cells room_1.slots) := by
  refine MetFree.of_bodySF (plainFor_of_name pn_0) hisR ?_
  intro p e s m args below meth c s₁ Bd hml0 hP hK
  obtain ⟨rfl, hZ, hh⟩ := hP
  have hx := Bd.exec
  have hby := Bd.bytes
  have hml : c.maxLocals = 20 := hml0
  have hown : s.vm.findClass "com/example/cairnlog/cairnlog/IndexFileSizePinLaw" = some m.cls := findClass_of_methodNamed Bd.named
  have hnm := (name_of_methodNamed Bd.named Bd.method).1
  have X0 : Stand p l e room_1 s m #[(.int p1), (.int p2), (.int p3), (.int p4)] below meth c s₁ [] 0 0 := Stand.of_body Bd
  have e0 : s₁.heap = h0 := by rw [← hh, Bd.state]; rfl
  have N0 := Fr.nil n0
  show own_Go p.tables e below (fun t o => ∃ v L, o = .returned v ∧ Q0 Z p1 p2 p3 p4 h0 n0 v t.heap L ∧ FrameEnd s o t L room_1.cells room_1.slots) (s₁.setTop (entryFrame m #[(.int p1), (.int p2), (.int p3), (.int p4)] maxLocals))
  rw [ef_0]
  show own_Go p.tables e below _ (s₁.setTop (mkF m 0 #[.val (.int p1), .val (.int p2), .val (.int p3), .val (.int p4), .unset, .unset, .unset, .unset, .unset, .unset, .unset, .unset, .unset, .unset, .unset, .unset, .unset, .unset, .unset, .unset] []))
  refine own_st (S' := s₁.setTop (mkF m 1 #[.val (.int p1), .val (.int p2), .val (.int p3), .val (.int p4), .unset, .unset, .unset, .unset, .unset, .unset, .unset, .unset, .unset, .unset, .unset, .unset, .unset, .unset, .unset, .unset] [(.int p1)])) (fun _ k => XS.iloadN X0.here hx rfl (hb hby at_0) rfl k) ?_
  refine own_st (S' := s₁.setTop (mkF m 3 #[.val (.int p1), .val (.int p2), .val (.int p3), .val (.int p4), .unset, .unset, .unset, .unset, .unset, .unset, .unset, .unset, .unset, .unset, .unset, .unset, .unset, .unset, .unset, .unset] [(.int (2147483647 : Int32)), (.int p1)])) (fun _ k => X0.ldcI hx hown (mvT hZ (hw _ (List.mem_of_getElem? (i := 0) rfl))) rfl (hb hby at_1) k) ?_
  refine own_st (S' := s₁.setTop (mkF m 4 #[.val (.int p1), .val (.int p2), .val (.int p3), .val (.int p4), .unset, .unset, .unset, .unset, .unset, .unset, .unset, .unset, .unset, .unset, .unset, .unset, .unset, .unset, .unset, .unset] [(.int (p1 &&& (2147483647 : Int32)))])) (fun _ k => XS.iand X0.here hx rfl (hb hby at_3) rfl k) ?_
  obtain ⟨s0, hv_s0⟩ : ∃ z : Int32, z = (p1 &&& (2147483647 : Int32)) := ⟨_, rfl⟩
  refine own_cv (congrArg (fun z => s₁.setTop (mkF m 4 #[.val (.int p1), .val (.int p2), .val (.int p3), .val (.int p4), .unset, .unset, .unset, .unset, .unset, .unset, .unset, .unset, .unset, .unset, .unset, .unset, .unset, .unset, .unset, .unset] [(.int z)])) hv_s0.symm) ?_
  show own_Go p.tables e below _ (s₁.setTop (mkF m 4 #[.val (.int p1), .val (.int p2), .val (.int p3), .val (.int p4), .unset, .unset, .unset, .unset, .unset, .unset, .unset, .unset, .unset, .unset, .unset, .unset, .unset, .unset, .unset, .unset] [(.int s0)]))
  refine own_st (S' := s₁.setTop (mkF m 6 #[.val (.int p1), .val (.int p2), .val (.int p3), .val (.int p4), .val (.int s0), .unset, .unset, .unset, .unset, .unset, .unset, .unset, .unset, .unset, .unset, .unset, .unset, .unset, .unset, .unset] [])) (fun _ k => XS.istore X0.here hx rfl (hb hby at_4) rfl (l' := #[.val (.int p1), .val (.int p2), .val (.int p3), .val (.int p4), .val (.int s0), .unset, .unset, .unset, .unset, .unset, .unset, .unset, .unset, .unset, .unset, .unset, .unset, .unset, .unset, .unset]) rfl k) ?_
  refine own_st (S' := s₁.setTop (mkF m 7 #[.val (.int p1), .val (.int p2), .val (.int p3), .val (.int p4), .val (.int s0), .unset, .unset, .unset, .unset, .unset, .unset, .unset, .unset, .unset, .unset, .unset, .unset, .unset, .unset, .unset] [(.int p2)])) (fun _ k => XS.iloadN X0.here hx rfl (hb hby at_6) rfl k) ?_
  refine own_st (S' := s₁.setTop (mkF m 9 #[.val (.int p1), .val (.int p2), .val (.int p3), .val (.int p4), .val (.int s0), .unset, .unset, .unset, .unset, .unset, .unset, .unset, .unset, .unset, .unset, .unset, .unset, .unset, .unset, .unset] [(.int (2147483647 : Int32)), (.int p2)])) (fun _ k => X0.ldcI hx hown (mvT hZ (hw _ (List.mem_of_getElem? (i := 0) rfl))) rfl (hb hby at_7) k) ?_
  refine own_st (S' := s₁.setTop (mkF m 10 #[.val (.int p1), .val (.int p2), .val (.int p3), .val (.int p4), .val (.int s0), .unset, .unset, .unset, .unset, .unset, .unset, .unset, .unset, .unset, .unset, .unset, .unset, .unset, .unset, .unset] [(.int (p2 &&& (2147483647 : Int32)))])) (fun _ k => XS.iand X0.here hx rfl (hb hby at_9) rfl k) ?_
  obtain ⟨mm0, hv_mm0⟩ : ∃ z : Int32, z = (p2 &&& (2147483647 : Int32)) := ⟨_, rfl⟩
  refine own_cv (congrArg (fun z => s₁.setTop (mkF m 10 #[.val (.int p1), .val (.int p2), .val (.int p3), .val (.int p4), .val (.int s0), .unset, .unset, .unset, .unset, .unset, .unset, .unset, .unset, .unset, .unset, .unset, .unset, .unset, .unset, .unset] [(.int z)])) hv_mm0.symm) ?_
  show own_Go p.tables e below _ (s₁.setTop (mkF m 10 #[.val (.int p1), .val (.int p2), .val (.int p3), .val (.int p4), .val (.int s0), .unset, .unset, .unset, .unset, .unset, .unset, .unset, .unset, .unset, .unset, .unset, .unset, .unset, .unset, .unset] [(.int mm0)]))
  refine own_st (S' := s₁.setTop (mkF m 12 #[.val (.int p1), .val (.int p2), .val (.int p3), .val (.int p4), .val (.int s0), .val (.int mm0), .unset, .unset, .unset, .unset, .unset, .unset, .unset, .unset, .unset, .unset, .unset, .unset, .unset, .unset] [])) (fun _ k => XS.istore X0.here hx rfl (hb hby at_10) rfl (l' := #[.val (.int p1), .val (.int p2), .val (.int p3), .val (.int p4), .val (.int s0), .val (.int mm0), .unset, .unset, .unset, .unset, .unset, .unset, .unset, .unset, .unset, .unset, .unset, .unset, .unset, .unset]) rfl k) ?_
  refine own_st (S' := s₁.setTop (mkF m 13 #[.val (.int p1), .val (.int p2), .val (.int p3), .val (.int p4), .val (.int s0), .val (.int mm0), .unset, .unset, .unset, .unset, .unset, .unset, .unset, .unset, .unset, .unset, .unset, .unset, .unset, .unset] [(.int p3)])) (fun _ k => XS.iloadN X0.here hx rfl (hb hby at_12) rfl k) ?_
  refine own_st (S' := s₁.setTop (mkF m 15 #[.val (.int p1), .val (.int p2), .val (.int p3), .val (.int p4), .val (.int s0), .val (.int mm0), .unset, .unset, .unset, .unset, .unset, .unset, .unset, .unset, .unset, .unset, .unset, .unset, .unset, .unset] [(.int (2147483647 : Int32)), (.int p3)])) (fun _ k => X0.ldcI hx hown (mvT hZ (hw _ (List.mem_of_getElem? (i := 0) rfl))) rfl (hb hby at_13) k) ?_
  refine own_st (S' := s₁.setTop (mkF m 16 #[.val (.int p1), .val (.int p2), .val (.int p3), .val (.int p4), .val (.int s0), .val (.int mm0), .unset, .unset, .unset, .unset, .unset, .unset, .unset, .unset, .unset, .unset, .unset, .unset, .unset, .unset] [(.int (p3 &&& (2147483647 : Int32)))])) (fun _ k => XS.iand X0.here hx rfl (hb hby at_15) rfl k) ?_
  obtain ⟨t0, hv_t0⟩ : ∃ z : Int32, z = (p3 &&& (2147483647 : Int32)) := ⟨_, rfl⟩
  refine own_cv (congrArg (fun z => s₁.setTop (mkF m 16 #[.val (.int p1), .val (.int p2), .val (.int p3), .val (.int p4), .val (.int s0), .val (.int mm0), .unset, .unset, .unset, .unset, .unset, .unset, .unset, .unset, .unset, .unset, .unset, .unset, .unset, .unset] [(.int z)])) hv_t0.symm) ?_
  show own_Go p.tables e below _ (s₁.setTop (mkF m 16 #[.val (.int p1), .val (.int p2), .val (.int p3), .val (.int p4), .val (.int s0), .val (.int mm0), .unset, .unset, .unset, .unset, .unset, .unset, .unset, .unset, .unset, .unset, .unset, .unset, .unset, .unset] [(.int t0)]))
  refine own_st (S' := s₁.setTop (mkF m 18 #[.val (.int p1), .val (.int p2), .val (.int p3), .val (.int p4), .val (.int s0), .val (.int mm0), .val (.int t0), .unset, .unset, .unset, .unset, .unset, .unset, .unset, .unset, .unset, .unset, .unset, .unset, .unset] [])) (fun _ k => XS.istore X0.here hx rfl (hb hby at_16) rfl (l' := #[.val (.int p1), .val (.int p2), .val (.int p3), .val (.int p4), .val (.int s0), .val (.int mm0), .val (.int t0), .unset, .unset, .unset, .unset, .unset, .unset, .unset, .unset, .unset, .unset, .unset, .unset, .unset]) rfl k) ?_
  refine own_st (S' := s₁.setTop (mkF m 19 #[.val (.int p1), .val (.int p2), .val (.int p3), .val (.int p4), .val (.int s0), .val (.int mm0), .val (.int t0), .unset, .unset, .unset, .unset, .unset, .unset, .unset, .unset, .unset, .unset, .unset, .unset, .unset] [(.int p4)])) (fun _ k => XS.iloadN X0.here hx rfl (hb hby at_18) rfl k) ?_
  refine own_st (S' := s₁.setTop (mkF m 21 #[.val (.int p1), .val (.int p2), .val (.int p3), .val (.int p4), .val (.int s0), .val (.int mm0), .val (.int t0), .unset, .unset, .unset, .unset, .unset, .unset, .unset, .unset, .unset, .unset, .unset, .unset, .unset] [(.int (2147483647 : Int32)), (.int p4)])) (fun _ k => X0.ldcI hx hown (mvT hZ (hw _ (List.mem_of_getElem? (i := 0) rfl))) rfl (hb hby at_19) k) ?_
  refine own_st (S' := s₁.setTop (mkF m 22 #[.val (.int p1), .val (.int p2), .val (.int p3), .val (.int p4), .val (.int s0), .val (.int mm0), .val (.int t0), .unset, .unset, .unset, .unset, .unset, .unset, .unset, .unset, .unset, .unset, .unset, .unset, .unset] [(.int (p4 &&& (2147483647 : Int32)))])) (fun _ k => XS.iand X0.here hx rfl (hb hby at_21) rfl k) ?_
  obtain ⟨nn0, hv_nn0⟩ : ∃ z : Int32, z = (p4 &&& (2147483647 : Int32)) := ⟨_, rfl⟩
  refine own_cv (congrArg (fun z => s₁.setTop (mkF m 22 #[.val (.int p1), .val (.int p2), .val (.int p3), .val (.int p4), .val (.int s0), .val (.int mm0), .val (.int t0), .unset, .unset, .unset, .unset, .unset, .unset, .unset, .unset, .unset, .unset, .unset, .unset, .unset] [(.int z)])) hv_nn0.symm) ?_
  show own_Go p.tables e below _ (s₁.setTop (mkF m 22 #[.val (.int p1), .val (.int p2), .val (.int p3), .val (.int p4), .val (.int s0), .val (.int mm0), .val (.int t0), .unset, .unset, .unset, .unset, .unset, .unset, .unset, .unset, .unset, .unset, .unset, .unset, .unset] [(.int nn0)]))
  refine own_st (S' := s₁.setTop (mkF m 24 #[.val (.int p1), .val (.int p2), .val (.int p3), .val (.int p4), .val (.int s0), .val (.int mm0), .val (.int t0), .val (.int nn0), .unset, .unset, .unset, .unset, .unset, .unset, .unset, .unset, .unset, .unset, .unset, .unset] [])) (fun _ k => XS.istore X0.here hx rfl (hb hby at_22) rfl (l' := #[.val (.int p1), .val (.int p2), .val (.int p3), .val (.int p4), .val (.int s0), .val (.int mm0), .val (.int t0), .val (.int nn0), .unset, .unset, .unset, .unset, .unset, .unset, .unset, .unset, .unset, .unset, .unset, .unset]) rfl k) ?_
  refine own_st (S' := s₁.setTop (mkF m 25 #[.val (.int p1), .val (.int p2), .val (.int p3), .val (.int p4), .val (.int s0), .val (.int mm0), .val (.int t0), .val (.int nn0), .unset, .unset, .unset, .unset, .unset, .unset, .unset, .unset, .unset, .unset, .unset, .unset] [(.int (0 : Int32))])) (fun _ k => XS.iconst X0.here hx rfl (hb hby at_24) k) ?_
  refine own_st (S' := s₁.setTop (mkF m 26 #[.val (.int p1), .val (.int p2), .val (.int p3), .val (.int p4), .val (.int s0), .val (.int mm0), .val (.int t0), .val (.int nn0), .unset, .unset, .unset, .unset, .unset, .unset, .unset, .unset, .unset, .unset, .unset, .unset] [(.int (0 : Int32)), (.int (0 : Int32))])) (fun _ k => XS.iconst X0.here hx rfl (hb hby at_25) k) ?_
  obtain ⟨_, _, ⟨T101, L101, k101, n101⟩, -, X101, ⟨Lc101, hQ101, l101, y101, z101⟩, st101⟩ := Jvm.LawKit.callS X0 hx (y := (⟨"com/example/cairnlog/cairnlog/IndexFile", "size", "(II)J"⟩ : MethodName)) hown (mvT hZ (hw _ (List.mem_of_getElem? (i := 1) rfl))) (mvT hZ (hw _ (List.mem_of_getElem? (i := 2) rfl))) (mvT hZ (hw _ (List.mem_of_getElem? (i := 3) rfl))) (mvT hZ (hw _ (List.mem_of_getElem? (i := 4) rfl))) (by decide) (backOf (W := 0) (rmS l Z a0 hw [] (0 : Int32) (0 : Int32) h0 n0 Z0) hZ (hw _ (List.mem_of_getElem? (i := 4) rfl)) (hw _ (List.mem_of_getElem? (i := 3) rfl)) (by decide) (by decide)) (g := (mkF m 26 #[.val (.int p1), .val (.int p2), .val (.int p3), .val (.int p4), .val (.int s0), .val (.int mm0), .val (.int t0), .val (.int nn0), .unset, .unset, .unset, .unset, .unset, .unset, .unset, .unset, .unset, .unset, .unset, .unset] [(.int (0 : Int32)), (.int (0 : Int32))])) rfl (by rw [hml]; rfl) (argsL := [(.int (0 : Int32)), (.int (0 : Int32))]) (rest := []) (lenOf pd_S rfl) rfl (by show 2 * 0 + _ ≤ _; exact Nat.le_of_eq rfl) (hb hby at_26) (fun _ _ => ⟨rfl, e0, (by dsimp only [Pt.cells]; decide), (by dsimp only [Pt.slots]; decide)⟩)
  dsimp only [Pt.U, Pt.locs, Pt.cells, Pt.slots] at X101 l101 y101 z101 st101 hQ101
  subst l101 y101 z101
  obtain ⟨rfl, N101, hh101⟩ := hQ101
  refine own_st (S' := T101.setTop (mkF m 29 #[.val (.int p1), .val (.int p2), .val (.int p3), .val (.int p4), .val (.int s0), .val (.int mm0), .val (.int t0), .val (.int nn0), .unset, .unset, .unset, .unset, .unset, .unset, .unset, .unset, .unset, .unset, .unset, .unset] [(.long (own_size (0 : Int32) (0 : Int32)))])) st101 ?_
  have Nn101 := Fr.app N0 N101
  refine own_st (S' := T101.setTop (mkF m 31 #[.val (.int p1), .val (.int p2), .val (.int p3), .val (.int p4), .val (.int s0), .val (.int mm0), .val (.int t0), .val (.int nn0), .val (.long (own_size (0 : Int32) (0 : Int32))), .second, .unset, .unset, .unset, .unset, .unset, .unset, .unset, .unset, .unset, .unset] [])) (fun _ k => XT.lstore X101.here hx rfl (hb hby at_29) rfl (l' := #[.val (.int p1), .val (.int p2), .val (.int p3), .val (.int p4), .val (.int s0), .val (.int mm0), .val (.int t0), .val (.int nn0), .val (.long (own_size (0 : Int32) (0 : Int32))), .second, .unset, .unset, .unset, .unset, .unset, .unset, .unset, .unset, .unset, .unset]) rfl k) ?_
  refine own_st (S' := T101.setTop (mkF m 33 #[.val (.int p1), .val (.int p2), .val (.int p3), .val (.int p4), .val (.int s0), .val (.int mm0), .val (.int t0), .val (.int nn0), .val (.long (own_size (0 : Int32) (0 : Int32))), .second, .unset, .unset, .unset, .unset, .unset, .unset, .unset, .unset, .unset, .unset] [(.int s0)])) (fun _ k => XS.iload X101.here hx rfl (hb hby at_31) rfl k) ?_
  refine own_st (S' := T101.setTop (mkF m 35 #[.val (.int p1), .val (.int p2), .val (.int p3), .val (.int p4), .val (.int s0), .val (.int mm0), .val (.int t0), .val (.int nn0), .val (.long (own_size (0 : Int32) (0 : Int32))), .second, .unset, .unset, .unset, .unset, .unset, .unset, .unset, .unset, .unset, .unset] [(.int mm0), (.int s0)])) (fun _ k => XS.iload X101.here hx rfl (hb hby at_33) rfl k) ?_
  obtain ⟨_, _, ⟨T102, L102, k102, n102⟩, -, X102, ⟨Lc102, hQ102, l102, y102, z102⟩, st102⟩ := Jvm.LawKit.callS X101 hx (y := (⟨"com/example/cairnlog/cairnlog/IndexFile", "size", "(II)J"⟩ : MethodName)) hown (mvT hZ (hw _ (List.mem_of_getElem? (i := 1) rfl))) (mvT hZ (hw _ (List.mem_of_getElem? (i := 2) rfl))) (mvT hZ (hw _ (List.mem_of_getElem? (i := 3) rfl))) (mvT hZ (hw _ (List.mem_of_getElem? (i := 4) rfl))) (by decide) (backOf (W := 0) (rmS l Z a0 hw [] s0 mm0 h0 n0 Z0) hZ (hw _ (List.mem_of_getElem? (i := 4) rfl)) (hw _ (List.mem_of_getElem? (i := 3) rfl)) (by decide) (by decide)) (g := (mkF m 35 #[.val (.int p1), .val (.int p2), .val (.int p3), .val (.int p4), .val (.int s0), .val (.int mm0), .val (.int t0), .val (.int nn0), .val (.long (own_size (0 : Int32) (0 : Int32))), .second, .unset, .unset, .unset, .unset, .unset, .unset, .unset, .unset, .unset, .unset] [(.int mm0), (.int s0)])) rfl (by rw [hml]; rfl) (argsL := [(.int s0), (.int mm0)]) (rest := []) (lenOf pd_S rfl) rfl (by show 2 * 0 + _ ≤ _; exact Nat.le_of_eq rfl) (hb hby at_35) (fun _ _ => ⟨rfl, hh101, (by dsimp only [Pt.cells]; decide), (by dsimp only [Pt.slots]; decide)⟩)
  dsimp only [Pt.U, Pt.locs, Pt.cells, Pt.slots] at X102 l102 y102 z102 st102 hQ102
  subst l102 y102 z102
  obtain ⟨rfl, N102, hh102⟩ := hQ102
  refine own_st (S' := T102.setTop (mkF m 38 #[.val (.int p1), .val (.int p2), .val (.int p3), .val (.int p4), .val (.int s0), .val (.int mm0), .val (.int t0), .val (.int nn0), .val (.long (own_size (0 : Int32) (0 : Int32))), .second, .unset, .unset, .unset, .unset, .unset, .unset, .unset, .unset, .unset, .unset] [(.long (own_size s0 mm0))])) st102 ?_
  have Nn102 := Fr.app Nn101 N102
  refine own_st (S' := T102.setTop (mkF m 40 #[.val (.int p1), .val (.int p2), .val (.int p3), .val (.int p4), .val (.int s0), .val (.int mm0), .val (.int t0), .val (.int nn0), .val (.long (own_size (0 : Int32) (0 : Int32))), .second, .val (.long (own_size s0 mm0)), .second, .unset, .unset, .unset, .unset, .unset, .unset, .unset, .unset] [])) (fun _ k => XT.lstore X102.here hx rfl (hb hby at_38) rfl (l' := #[.val (.int p1), .val (.int p2), .val (.int p3), .val (.int p4), .val (.int s0), .val (.int mm0), .val (.int t0), .val (.int nn0), .val (.long (own_size (0 : Int32) (0 : Int32))), .second, .val (.long (own_size s0 mm0)), .second, .unset, .unset, .unset, .unset, .unset, .unset, .unset, .unset]) rfl k) ?_
  refine own_st (S' := T102.setTop (mkF m 42 #[.val (.int p1), .val (.int p2), .val (.int p3), .val (.int p4), .val (.int s0), .val (.int mm0), .val (.int t0), .val (.int nn0), .val (.long (own_size (0 : Int32) (0 : Int32))), .second, .val (.long (own_size s0 mm0)), .second, .unset, .unset, .unset, .unset, .unset, .unset, .unset, .unset] [(.int t0)])) (fun _ k => XS.iload X102.here hx rfl (hb hby at_40) rfl k) ?_
  refine own_st (S' := T102.setTop (mkF m 44 #[.val (.int p1), .val (.int p2), .val (.int p3), .val (.int p4), .val (.int s0), .val (.int mm0), .val (.int t0), .val (.int nn0), .val (.long (own_size (0 : Int32) (0 : Int32))), .second, .val (.long (own_size s0 mm0)), .second, .unset, .unset, .unset, .unset, .unset, .unset, .unset, .unset] [(.int mm0), (.int t0)])) (fun _ k => XS.iload X102.here hx rfl (hb hby at_42) rfl k) ?_
  obtain ⟨_, _, ⟨T103, L103, k103, n103⟩, -, X103, ⟨Lc103, hQ103, l103, y103, z103⟩, st103⟩ := Jvm.LawKit.callS X102 hx (y := (⟨"com/example/cairnlog/cairnlog/IndexFile", "size", "(II)J"⟩ : MethodName)) hown (mvT hZ (hw _ (List.mem_of_getElem? (i := 1) rfl))) (mvT hZ (hw _ (List.mem_of_getElem? (i := 2) rfl))) (mvT hZ (hw _ (List.mem_of_getElem? (i := 3) rfl))) (mvT hZ (hw _ (List.mem_of_getElem? (i := 4) rfl))) (by decide) (backOf (W := 0) (rmS l Z a0 hw [] t0 mm0 h0 n0 Z0) hZ (hw _ (List.mem_of_getElem? (i := 4) rfl)) (hw _ (List.mem_of_getElem? (i := 3) rfl)) (by decide) (by decide)) (g := (mkF m 44 #[.val (.int p1), .val (.int p2), .val (.int p3), .val (.int p4), .val (.int s0), .val (.int mm0), .val (.int t0), .val (.int nn0), .val (.long (own_size (0 : Int32) (0 : Int32))), .second, .val (.long (own_size s0 mm0)), .second, .unset, .unset, .unset, .unset, .unset, .unset, .unset, .unset] [(.int mm0), (.int t0)])) rfl (by rw [hml]; rfl) (argsL := [(.int t0), (.int mm0)]) (rest := []) (lenOf pd_S rfl) rfl (by show 2 * 0 + _ ≤ _; exact Nat.le_of_eq rfl) (hb hby at_44) (fun _ _ => ⟨rfl, hh102, (by dsimp only [Pt.cells]; decide), (by dsimp only [Pt.slots]; decide)⟩)
  dsimp only [Pt.U, Pt.locs, Pt.cells, Pt.slots] at X103 l103 y103 z103 st103 hQ103
  subst l103 y103 z103
  obtain ⟨rfl, N103, hh103⟩ := hQ103
  refine own_st (S' := T103.setTop (mkF m 47 #[.val (.int p1), .val (.int p2), .val (.int p3), .val (.int p4), .val (.int s0), .val (.int mm0), .val (.int t0), .val (.int nn0), .val (.long (own_size (0 : Int32) (0 : Int32))), .second, .val (.long (own_size s0 mm0)), .second, .unset, .unset, .unset, .unset, .unset, .unset, .unset, .unset] [(.long (own_size t0 mm0))])) st103 ?_
  have Nn103 := Fr.app Nn102 N103
  refine own_st (S' := T103.setTop (mkF m 49 #[.val (.int p1), .val (.int p2), .val (.int p3), .val (.int p4), .val (.int s0), .val (.int mm0), .val (.int t0), .val (.int nn0), .val (.long (own_size (0 : Int32) (0 : Int32))), .second, .val (.long (own_size s0 mm0)), .second, .val (.long (own_size t0 mm0)), .second, .unset, .unset, .unset, .unset, .unset, .unset] [])) (fun _ k => XT.lstore X103.here hx rfl (hb hby at_47) rfl (l' := #[.val (.int p1), .val (.int p2), .val (.int p3), .val (.int p4), .val (.int s0), .val (.int mm0), .val (.int t0), .val (.int nn0), .val (.long (own_size (0 : Int32) (0 : Int32))), .second, .val (.long (own_size s0 mm0)), .second, .val (.long (own_size t0 mm0)), .second, .unset, .unset, .unset, .unset, .unset, .unset]) rfl k) ?_
  refine own_st (S' := T103.setTop (mkF m 51 #[.val (.int p1), .val (.int p2), .val (.int p3), .val (.int p4), .val (.int s0), .val (.int mm0), .val (.int t0), .val (.int nn0), .val (.long (own_size (0 : Int32) (0 : Int32))), .second, .val (.long (own_size s0 mm0)), .second, .val (.long (own_size t0 mm0)), .second, .unset, .unset, .unset, .unset, .unset, .unset] [(.int s0)])) (fun _ k => XS.iload X103.here hx rfl (hb hby at_49) rfl k) ?_
  refine own_st (S' := T103.setTop (mkF m 53 #[.val (.int p1), .val (.int p2), .val (.int p3), .val (.int p4), .val (.int s0), .val (.int mm0), .val (.int t0), .val (.int nn0), .val (.long (own_size (0 : Int32) (0 : Int32))), .second, .val (.long (own_size s0 mm0)), .second, .val (.long (own_size t0 mm0)), .second, .unset, .unset, .unset, .unset, .unset, .unset] [(.int nn0), (.int s0)])) (fun _ k => XS.iload X103.here hx rfl (hb hby at_51) rfl k) ?_
  obtain ⟨_, _, ⟨T104, L104, k104, n104⟩, -, X104, ⟨Lc104, hQ104, l104, y104, z104⟩, st104⟩ := Jvm.LawKit.callS X103 hx (y := (⟨"com/example/cairnlog/cairnlog/IndexFile", "size", "(II)J"⟩ : MethodName)) hown (mvT hZ (hw _ (List.mem_of_getElem? (i := 1) rfl))) (mvT hZ (hw _ (List.mem_of_getElem? (i := 2) rfl))) (mvT hZ (hw _ (List.mem_of_getElem? (i := 3) rfl))) (mvT hZ (hw _ (List.mem_of_getElem? (i := 4) rfl))) (by decide) (backOf (W := 0) (rmS l Z a0 hw [] s0 nn0 h0 n0 Z0) hZ (hw _ (List.mem_of_getElem? (i := 4) rfl)) (hw _ (List.mem_of_getElem? (i := 3) rfl)) (by decide) (by decide)) (g := (mkF m 53 #[.val (.int p1), .val (.int p2), .val (.int p3), .val (.int p4), .val (.int s0), .val (.int mm0), .val (.int t0), .val (.int nn0), .val (.long (own_size (0 : Int32) (0 : Int32))), .second, .val (.long (own_size s0 mm0)), .second, .val (.long (own_size t0 mm0)), .second, .unset, .unset, .unset, .unset, .unset, .unset] [(.int nn0), (.int s0)])) rfl (by rw [hml]; rfl) (argsL := [(.int s0), (.int nn0)]) (rest := []) (lenOf pd_S rfl) rfl (by show 2 * 0 + _ ≤ _; exact Nat.le_of_eq rfl) (hb hby at_53) (fun _ _ => ⟨rfl, hh103, (by dsimp only [Pt.cells]; decide), (by dsimp only [Pt.slots]; decide)⟩)
  dsimp only [Pt.U, Pt.locs, Pt.cells, Pt.slots] at X104 l104 y104 z104 st104 hQ104
  subst l104 y104 z104
  obtain ⟨rfl, N104, hh104⟩ := hQ104
  refine own_st (S' := T104.setTop (mkF m 56 #[.val (.int p1), .val (.int p2), .val (.int p3), .val (.int p4), .val (.int s0), .val (.int mm0), .val (.int t0), .val (.int nn0), .val (.long (own_size (0 : Int32) (0 : Int32))), .second, .val (.long (own_size s0 mm0)), .second, .val (.long (own_size t0 mm0)), .second, .unset, .unset, .unset, .unset, .unset, .unset] [(.long (own_size s0 nn0))])) st104 ?_
  have Nn104 := Fr.app Nn103 N104
  refine own_st (S' := T104.setTop (mkF m 58 #[.val (.int p1), .val (.int p2), .val (.int p3), .val (.int p4), .val (.int s0), .val (.int mm0), .val (.int t0), .val (.int nn0), .val (.long (own_size (0 : Int32) (0 : Int32))), .second, .val (.long (own_size s0 mm0)), .second, .val (.long (own_size t0 mm0)), .second, .val (.long (own_size s0 nn0)), .second, .unset, .unset, .unset, .unset] [])) (fun _ k => XT.lstore X104.here hx rfl (hb hby at_56) rfl (l' := #[.val (.int p1), .val (.int p2), .val (.int p3), .val (.int p4), .val (.int s0), .val (.int mm0), .val (.int t0), .val (.int nn0), .val (.long (own_size (0 : Int32) (0 : Int32))), .second, .val (.long (own_size s0 mm0)), .second, .val (.long (own_size t0 mm0)), .second, .val (.long (own_size s0 nn0)), .second, .unset, .unset, .unset, .unset]) rfl k) ?_
  refine own_st (S' := T104.setTop (mkF m 60 #[.val (.int p1), .val (.int p2), .val (.int p3), .val (.int p4), .val (.int s0), .val (.int mm0), .val (.int t0), .val (.int nn0), .val (.long (own_size (0 : Int32) (0 : Int32))), .second, .val (.long (own_size s0 mm0)), .second, .val (.long (own_size t0 mm0)), .second, .val (.long (own_size s0 nn0)), .second, .unset, .unset, .unset, .unset] [(.long (own_size (0 : Int32) (0 : Int32)))])) (fun _ k => XT.lload X104.here hx rfl (hb hby at_58) rfl k) ?_
  refine own_st (S' := T104.setTop (mkF m 63 #[.val (.int p1), .val (.int p2), .val (.int p3), .val (.int p4), .val (.int s0), .val (.int mm0), .val (.int t0), .val (.int nn0), .val (.long (own_size (0 : Int32) (0 : Int32))), .second, .val (.long (own_size s0 mm0)), .second, .val (.long (own_size t0 mm0)), .second, .val (.long (own_size s0 nn0)), .second, .unset, .unset, .unset, .unset] [(.long (40 : Int64)), (.long (own_size (0 : Int32) (0 : Int32)))])) (fun _ k => X104.ldc2J hx hown (mvT hZ (hw _ (List.mem_of_getElem? (i := 8) rfl))) rfl (hb hby at_60) k) ?_
  refine own_st (S' := T104.setTop (mkF m 64 #[.val (.int p1), .val (.int p2), .val (.int p3), .val (.int p4), .val (.int s0), .val (.int mm0), .val (.int t0), .val (.int nn0), .val (.long (own_size (0 : Int32) (0 : Int32))), .second, .val (.long (own_size s0 mm0)), .second, .val (.long (own_size t0 mm0)), .second, .val (.long (own_size s0 nn0)), .second, .unset, .unset, .unset, .unset] [(.int (XT.cmpL (own_size (0 : Int32) (0 : Int32)) (40 : Int64)))])) (fun _ k => XT.lcmp X104.here hx rfl (hb hby at_63) rfl k) ?_
  refine own_st (S' := T104.setTop (mkF m 67 #[.val (.int p1), .val (.int p2), .val (.int p3), .val (.int p4), .val (.int s0), .val (.int mm0), .val (.int t0), .val (.int nn0), .val (.long (own_size (0 : Int32) (0 : Int32))), .second, .val (.long (own_size s0 mm0)), .second, .val (.long (own_size t0 mm0)), .second, .val (.long (own_size s0 nn0)), .second, .unset, .unset, .unset, .unset] [])) (fun _ k => XS.ifNo X104.here hx rfl (hb hby at_64) rfl ((own_l_ne _ _).trans (decide_eq_false (p := Int64.toInt (own_size (0 : Int32) (0 : Int32)) ≠ 40) (fun h => h (congrArg Int64.toInt own_r0)))) k) ?_
  refine own_st (S' := T104.setTop (mkF m 68 #[.val (.int p1), .val (.int p2), .val (.int p3), .val (.int p4), .val (.int s0), .val (.int mm0), .val (.int t0), .val (.int nn0), .val (.long (own_size (0 : Int32) (0 : Int32))), .second, .val (.long (own_size s0 mm0)), .second, .val (.long (own_size t0 mm0)), .second, .val (.long (own_size s0 nn0)), .second, .unset, .unset, .unset, .unset] [(.int (1 : Int32))])) (fun _ k => XS.iconst X104.here hx rfl (hb hby at_67) k) ?_
  refine own_st (S' := T104.setTop (mkF m 72 #[.val (.int p1), .val (.int p2), .val (.int p3), .val (.int p4), .val (.int s0), .val (.int mm0), .val (.int t0), .val (.int nn0), .val (.long (own_size (0 : Int32) (0 : Int32))), .second, .val (.long (own_size s0 mm0)), .second, .val (.long (own_size t0 mm0)), .second, .val (.long (own_size s0 nn0)), .second, .unset, .unset, .unset, .unset] [(.int (1 : Int32))])) (fun _ k => XS.goto X104.here hx rfl (pc0 := 68) (pc' := 72) rfl (hb hby at_68) (by decide) (by decide) k) ?_
  refine own_st (S' := T104.setTop (mkF m 74 #[.val (.int p1), .val (.int p2), .val (.int p3), .val (.int p4), .val (.int s0), .val (.int mm0), .val (.int t0), .val (.int nn0), .val (.long (own_size (0 : Int32) (0 : Int32))), .second, .val (.long (own_size s0 mm0)), .second, .val (.long (own_size t0 mm0)), .second, .val (.long (own_size s0 nn0)), .second, .val (.int (1 : Int32)), .unset, .unset, .unset] [])) (fun _ k => XS.istore X104.here hx rfl (hb hby at_72) rfl (l' := #[.val (.int p1), .val (.int p2), .val (.int p3), .val (.int p4), .val (.int s0), .val (.int mm0), .val (.int t0), .val (.int nn0), .val (.long (own_size (0 : Int32) (0 : Int32))), .second, .val (.long (own_size s0 mm0)), .second, .val (.long (own_size t0 mm0)), .second, .val (.long (own_size s0 nn0)), .second, .val (.int (1 : Int32)), .unset, .unset, .unset]) rfl k) ?_
  refine own_st (S' := T104.setTop (mkF m 76 #[.val (.int p1), .val (.int p2), .val (.int p3), .val (.int p4), .val (.int s0), .val (.int mm0), .val (.int t0), .val (.int nn0), .val (.long (own_size (0 : Int32) (0 : Int32))), .second, .val (.long (own_size s0 mm0)), .second, .val (.long (own_size t0 mm0)), .second, .val (.long (own_size s0 nn0)), .second, .val (.int (1 : Int32)), .unset, .unset, .unset] [(.long (own_size s0 mm0))])) (fun _ k => XT.lload X104.here hx rfl (hb hby at_74) rfl k) ?_
  refine own_st (S' := T104.setTop (mkF m 78 #[.val (.int p1), .val (.int p2), .val (.int p3), .val (.int p4), .val (.int s0), .val (.int mm0), .val (.int t0), .val (.int nn0), .val (.long (own_size (0 : Int32) (0 : Int32))), .second, .val (.long (own_size s0 mm0)), .second, .val (.long (own_size t0 mm0)), .second, .val (.long (own_size s0 nn0)), .second, .val (.int (1 : Int32)), .unset, .unset, .unset] [(.long (own_size t0 mm0)), (.long (own_size s0 mm0))])) (fun _ k => XT.lload X104.here hx rfl (hb hby at_76) rfl k) ?_
  refine own_st (S' := T104.setTop (mkF m 79 #[.val (.int p1), .val (.int p2), .val (.int p3), .val (.int p4), .val (.int s0), .val (.int mm0), .val (.int t0), .val (.int nn0), .val (.long (own_size (0 : Int32) (0 : Int32))), .second, .val (.long (own_size s0 mm0)), .second, .val (.long (own_size t0 mm0)), .second, .val (.long (own_size s0 nn0)), .second, .val (.int (1 : Int32)), .unset, .unset, .unset] [(.long ((own_size s0 mm0) - (own_size t0 mm0)))])) (fun _ k => XT.lsub X104.here hx rfl (hb hby at_78) rfl k) ?_
  refine own_st (S' := T104.setTop (mkF m 82 #[.val (.int p1), .val (.int p2), .val (.int p3), .val (.int p4), .val (.int s0), .val (.int mm0), .val (.int t0), .val (.int nn0), .val (.long (own_size (0 : Int32) (0 : Int32))), .second, .val (.long (own_size s0 mm0)), .second, .val (.long (own_size t0 mm0)), .second, .val (.long (own_size s0 nn0)), .second, .val (.int (1 : Int32)), .unset, .unset, .unset] [(.long (4 : Int64)), (.long ((own_size s0 mm0) - (own_size t0 mm0)))])) (fun _ k => X104.ldc2J hx hown (mvT hZ (hw _ (List.mem_of_getElem? (i := 9) rfl))) rfl (hb hby at_79) k) ?_
  refine own_st (S' := T104.setTop (mkF m 84 #[.val (.int p1), .val (.int p2), .val (.int p3), .val (.int p4), .val (.int s0), .val (.int mm0), .val (.int t0), .val (.int nn0), .val (.long (own_size (0 : Int32) (0 : Int32))), .second, .val (.long (own_size s0 mm0)), .second, .val (.long (own_size t0 mm0)), .second, .val (.long (own_size s0 nn0)), .second, .val (.int (1 : Int32)), .unset, .unset, .unset] [(.int s0), (.long (4 : Int64)), (.long ((own_size s0 mm0) - (own_size t0 mm0)))])) (fun _ k => XS.iload X104.here hx rfl (hb hby at_82) rfl k) ?_
  refine own_st (S' := T104.setTop (mkF m 85 #[.val (.int p1), .val (.int p2), .val (.int p3), .val (.int p4), .val (.int s0), .val (.int mm0), .val (.int t0), .val (.int nn0), .val (.long (own_size (0 : Int32) (0 : Int32))), .second, .val (.long (own_size s0 mm0)), .second, .val (.long (own_size t0 mm0)), .second, .val (.long (own_size s0 nn0)), .second, .val (.int (1 : Int32)), .unset, .unset, .unset] [(.long (Int32.toInt64 s0)), (.long (4 : Int64)), (.long ((own_size s0 mm0) - (own_size t0 mm0)))])) (fun _ k => XT.i2l X104.here hx rfl (hb hby at_84) rfl k) ?_
  refine own_st (S' := T104.setTop (mkF m 87 #[.val (.int p1), .val (.int p2), .val (.int p3), .val (.int p4), .val (.int s0), .val (.int mm0), .val (.int t0), .val (.int nn0), .val (.long (own_size (0 : Int32) (0 : Int32))), .second, .val (.long (own_size s0 mm0)), .second, .val (.long (own_size t0 mm0)), .second, .val (.long (own_size s0 nn0)), .second, .val (.int (1 : Int32)), .unset, .unset, .unset] [(.int t0), (.long (Int32.toInt64 s0)), (.long (4 : Int64)), (.long ((own_size s0 mm0) - (own_size t0 mm0)))])) (fun _ k => XS.iload X104.here hx rfl (hb hby at_85) rfl k) ?_
  refine own_st (S' := T104.setTop (mkF m 88 #[.val (.int p1), .val (.int p2), .val (.int p3), .val (.int p4), .val (.int s0), .val (.int mm0), .val (.int t0), .val (.int nn0), .val (.long (own_size (0 : Int32) (0 : Int32))), .second, .val (.long (own_size s0 mm0)), .second, .val (.long (own_size t0 mm0)), .second, .val (.long (own_size s0 nn0)), .second, .val (.int (1 : Int32)), .unset, .unset, .unset] [(.long (Int32.toInt64 t0)), (.long (Int32.toInt64 s0)), (.long (4 : Int64)), (.long ((own_size s0 mm0) - (own_size t0 mm0)))])) (fun _ k => XT.i2l X104.here hx rfl (hb hby at_87) rfl k) ?_
  refine own_st (S' := T104.setTop (mkF m 89 #[.val (.int p1), .val (.int p2), .val (.int p3), .val (.int p4), .val (.int s0), .val (.int mm0), .val (.int t0), .val (.int nn0), .val (.long (own_size (0 : Int32) (0 : Int32))), .second, .val (.long (own_size s0 mm0)), .second, .val (.long (own_size t0 mm0)), .second, .val (.long (own_size s0 nn0)), .second, .val (.int (1 : Int32)), .unset, .unset, .unset] [(.long ((Int32.toInt64 s0) - (Int32.toInt64 t0))), (.long (4 : Int64)), (.long ((own_size s0 mm0) - (own_size t0 mm0)))])) (fun _ k => XT.lsub X104.here hx rfl (hb hby at_88) rfl k) ?_
  refine own_st (S' := T104.setTop (mkF m 90 #[.val (.int p1), .val (.int p2), .val (.int p3), .val (.int p4), .val (.int s0), .val (.int mm0), .val (.int t0), .val (.int nn0), .val (.long (own_size (0 : Int32) (0 : Int32))), .second, .val (.long (own_size s0 mm0)), .second, .val (.long (own_size t0 mm0)), .second, .val (.long (own_size s0 nn0)), .second, .val (.int (1 : Int32)), .unset, .unset, .unset] [(.long ((4 : Int64) * ((Int32.toInt64 s0) - (Int32.toInt64 t0)))), (.long ((own_size s0 mm0) - (own_size t0 mm0)))])) (fun _ k => XT.lmul X104.here hx rfl (hb hby at_89) rfl k) ?_
  refine own_st (S' := T104.setTop (mkF m 91 #[.val (.int p1), .val (.int p2), .val (.int p3), .val (.int p4), .val (.int s0), .val (.int mm0), .val (.int t0), .val (.int nn0), .val (.long (own_size (0 : Int32) (0 : Int32))), .second, .val (.long (own_size s0 mm0)), .second, .val (.long (own_size t0 mm0)), .second, .val (.long (own_size s0 nn0)), .second, .val (.int (1 : Int32)), .unset, .unset, .unset] [(.int (XT.cmpL ((own_size s0 mm0) - (own_size t0 mm0)) ((4 : Int64) * ((Int32.toInt64 s0) - (Int32.toInt64 t0)))))])) (fun _ k => XT.lcmp X104.here hx rfl (hb hby at_90) rfl k) ?_
  refine own_st (S' := T104.setTop (mkF m 94 #[.val (.int p1), .val (.int p2), .val (.int p3), .val (.int p4), .val (.int s0), .val (.int mm0), .val (.int t0), .val (.int nn0), .val (.long (own_size (0 : Int32) (0 : Int32))), .second, .val (.long (own_size s0 mm0)), .second, .val (.long (own_size t0 mm0)), .second, .val (.long (own_size s0 nn0)), .second, .val (.int (1 : Int32)), .unset, .unset, .unset] [])) (fun _ k => XS.ifNo X104.here hx rfl (hb hby at_91) rfl ((own_l_ne _ _).trans (decide_eq_false (p := Int64.toInt ((own_size s0 mm0) - (own_size t0 mm0)) ≠ Int64.toInt ((4 : Int64) * ((Int32.toInt64 s0) - (Int32.toInt64 t0)))) (fun h => h (congrArg Int64.toInt (own_r1 s0 t0 mm0))))) k) ?_
  refine own_st (S' := T104.setTop (mkF m 95 #[.val (.int p1), .val (.int p2), .val (.int p3), .val (.int p4), .val (.int s0), .val (.int mm0), .val (.int t0), .val (.int nn0), .val (.long (own_size (0 : Int32) (0 : Int32))), .second, .val (.long (own_size s0 mm0)), .second, .val (.long (own_size t0 mm0)), .second, .val (.long (own_size s0 nn0)), .second, .val (.int (1 : Int32)), .unset, .unset, .unset] [(.int (1 : Int32))])) (fun _ k => XS.iconst X104.here hx rfl (hb hby at_94) k) ?_
  refine own_st (S' := T104.setTop (mkF m 99 #[.val (.int p1), .val (.int p2), .val (.int p3), .val (.int p4), .val (.int s0), .val (.int mm0), .val (.int t0), .val (.int nn0), .val (.long (own_size (0 : Int32) (0 : Int32))), .second, .val (.long (own_size s0 mm0)), .second, .val (.long (own_size t0 mm0)), .second, .val (.long (own_size s0 nn0)), .second, .val (.int (1 : Int32)), .unset, .unset, .unset] [(.int (1 : Int32))])) (fun _ k => XS.goto X104.here hx rfl (pc0 := 95) (pc' := 99) rfl (hb hby at_95) (by decide) (by decide) k) ?_
  refine own_st (S' := T104.setTop (mkF m 101 #[.val (.int p1), .val (.int p2), .val (.int p3), .val (.int p4), .val (.int s0), .val (.int mm0), .val (.int t0), .val (.int nn0), .val (.long (own_size (0 : Int32) (0 : Int32))), .second, .val (.long (own_size s0 mm0)), .second, .val (.long (own_size t0 mm0)), .second, .val (.long (own_size s0 nn0)), .second, .val (.int (1 : Int32)), .val (.int (1 : Int32)), .unset, .unset] [])) (fun _ k => XS.istore X104.here hx rfl (hb hby at_99) rfl (l' := #[.val (.int p1), .val (.int p2), .val (.int p3), .val (.int p4), .val (.int s0), .val (.int mm0), .val (.int t0), .val (.int nn0), .val (.long (own_size (0 : Int32) (0 : Int32))), .second, .val (.long (own_size s0 mm0)), .second, .val (.long (own_size t0 mm0)), .second, .val (.long (own_size s0 nn0)), .second, .val (.int (1 : Int32)), .val (.int (1 : Int32)), .unset, .unset]) rfl k) ?_
  refine own_st (S' := T104.setTop (mkF m 103 #[.val (.int p1), .val (.int p2), .val (.int p3), .val (.int p4), .val (.int s0), .val (.int mm0), .val (.int t0), .val (.int nn0), .val (.long (own_size (0 : Int32) (0 : Int32))), .second, .val (.long (own_size s0 mm0)), .second, .val (.long (own_size t0 mm0)), .second, .val (.long (own_size s0 nn0)), .second, .val (.int (1 : Int32)), .val (.int (1 : Int32)), .unset, .unset] [(.long (own_size s0 mm0))])) (fun _ k => XT.lload X104.here hx rfl (hb hby at_101) rfl k) ?_
  refine own_st (S' := T104.setTop (mkF m 105 #[.val (.int p1), .val (.int p2), .val (.int p3), .val (.int p4), .val (.int s0), .val (.int mm0), .val (.int t0), .val (.int nn0), .val (.long (own_size (0 : Int32) (0 : Int32))), .second, .val (.long (own_size s0 mm0)), .second, .val (.long (own_size t0 mm0)), .second, .val (.long (own_size s0 nn0)), .second, .val (.int (1 : Int32)), .val (.int (1 : Int32)), .unset, .unset] [(.long (own_size s0 nn0)), (.long (own_size s0 mm0))])) (fun _ k => XT.lload X104.here hx rfl (hb hby at_103) rfl k) ?_
  refine own_st (S' := T104.setTop (mkF m 106 #[.val (.int p1), .val (.int p2), .val (.int p3), .val (.int p4), .val (.int s0), .val (.int mm0), .val (.int t0), .val (.int nn0), .val (.long (own_size (0 : Int32) (0 : Int32))), .second, .val (.long (own_size s0 mm0)), .second, .val (.long (own_size t0 mm0)), .second, .val (.long (own_size s0 nn0)), .second, .val (.int (1 : Int32)), .val (.int (1 : Int32)), .unset, .unset] [(.long ((own_size s0 mm0) - (own_size s0 nn0)))])) (fun _ k => XT.lsub X104.here hx rfl (hb hby at_105) rfl k) ?_
  refine own_st (S' := T104.setTop (mkF m 109 #[.val (.int p1), .val (.int p2), .val (.int p3), .val (.int p4), .val (.int s0), .val (.int mm0), .val (.int t0), .val (.int nn0), .val (.long (own_size (0 : Int32) (0 : Int32))), .second, .val (.long (own_size s0 mm0)), .second, .val (.long (own_size t0 mm0)), .second, .val (.long (own_size s0 nn0)), .second, .val (.int (1 : Int32)), .val (.int (1 : Int32)), .unset, .unset] [(.long (20 : Int64)), (.long ((own_size s0 mm0) - (own_size s0 nn0)))])) (fun _ k => X104.ldc2J hx hown (mvT hZ (hw _ (List.mem_of_getElem? (i := 10) rfl))) rfl (hb hby at_106) k) ?_
  refine own_st (S' := T104.setTop (mkF m 111 #[.val (.int p1), .val (.int p2), .val (.int p3), .val (.int p4), .val (.int s0), .val (.int mm0), .val (.int t0), .val (.int nn0), .val (.long (own_size (0 : Int32) (0 : Int32))), .second, .val (.long (own_size s0 mm0)), .second, .val (.long (own_size t0 mm0)), .second, .val (.long (own_size s0 nn0)), .second, .val (.int (1 : Int32)), .val (.int (1 : Int32)), .unset, .unset] [(.int mm0), (.long (20 : Int64)), (.long ((own_size s0 mm0) - (own_size s0 nn0)))])) (fun _ k => XS.iload X104.here hx rfl (hb hby at_109) rfl k) ?_
  refine own_st (S' := T104.setTop (mkF m 112 #[.val (.int p1), .val (.int p2), .val (.int p3), .val (.int p4), .val (.int s0), .val (.int mm0), .val (.int t0), .val (.int nn0), .val (.long (own_size (0 : Int32) (0 : Int32))), .second, .val (.long (own_size s0 mm0)), .second, .val (.long (own_size t0 mm0)), .second, .val (.long (own_size s0 nn0)), .second, .val (.int (1 : Int32)), .val (.int (1 : Int32)), .unset, .unset] [(.long (Int32.toInt64 mm0)), (.long (20 : Int64)), (.long ((own_size s0 mm0) - (own_size s0 nn0)))])) (fun _ k => XT.i2l X104.here hx rfl (hb hby at_111) rfl k) ?_
  refine own_st (S' := T104.setTop (mkF m 114 #[.val (.int p1), .val (.int p2), .val (.int p3), .val (.int p4), .val (.int s0), .val (.int mm0), .val (.int t0), .val (.int nn0), .val (.long (own_size (0 : Int32) (0 : Int32))), .second, .val (.long (own_size s0 mm0)), .second, .val (.long (own_size t0 mm0)), .second, .val (.long (own_size s0 nn0)), .second, .val (.int (1 : Int32)), .val (.int (1 : Int32)), .unset, .unset] [(.int nn0), (.long (Int32.toInt64 mm0)), (.long (20 : Int64)), (.long ((own_size s0 mm0) - (own_size s0 nn0)))])) (fun _ k => XS.iload X104.here hx rfl (hb hby at_112) rfl k) ?_
  refine own_st (S' := T104.setTop (mkF m 115 #[.val (.int p1), .val (.int p2), .val (.int p3), .val (.int p4), .val (.int s0), .val (.int mm0), .val (.int t0), .val (.int nn0), .val (.long (own_size (0 : Int32) (0 : Int32))), .second, .val (.long (own_size s0 mm0)), .second, .val (.long (own_size t0 mm0)), .second, .val (.long (own_size s0 nn0)), .second, .val (.int (1 : Int32)), .val (.int (1 : Int32)), .unset, .unset] [(.long (Int32.toInt64 nn0)), (.long (Int32.toInt64 mm0)), (.long (20 : Int64)), (.long ((own_size s0 mm0) - (own_size s0 nn0)))])) (fun _ k => XT.i2l X104.here hx rfl (hb hby at_114) rfl k) ?_
  refine own_st (S' := T104.setTop (mkF m 116 #[.val (.int p1), .val (.int p2), .val (.int p3), .val (.int p4), .val (.int s0), .val (.int mm0), .val (.int t0), .val (.int nn0), .val (.long (own_size (0 : Int32) (0 : Int32))), .second, .val (.long (own_size s0 mm0)), .second, .val (.long (own_size t0 mm0)), .second, .val (.long (own_size s0 nn0)), .second, .val (.int (1 : Int32)), .val (.int (1 : Int32)), .unset, .unset] [(.long ((Int32.toInt64 mm0) - (Int32.toInt64 nn0))), (.long (20 : Int64)), (.long ((own_size s0 mm0) - (own_size s0 nn0)))])) (fun _ k => XT.lsub X104.here hx rfl (hb hby at_115) rfl k) ?_
  refine own_st (S' := T104.setTop (mkF m 117 #[.val (.int p1), .val (.int p2), .val (.int p3), .val (.int p4), .val (.int s0), .val (.int mm0), .val (.int t0), .val (.int nn0), .val (.long (own_size (0 : Int32) (0 : Int32))), .second, .val (.long (own_size s0 mm0)), .second, .val (.long (own_size t0 mm0)), .second, .val (.long (own_size s0 nn0)), .second, .val (.int (1 : Int32)), .val (.int (1 : Int32)), .unset, .unset] [(.long ((20 : Int64) * ((Int32.toInt64 mm0) - (Int32.toInt64 nn0)))), (.long ((own_size s0 mm0) - (own_size s0 nn0)))])) (fun _ k => XT.lmul X104.here hx rfl (hb hby at_116) rfl k) ?_
  refine own_st (S' := T104.setTop (mkF m 118 #[.val (.int p1), .val (.int p2), .val (.int p3), .val (.int p4), .val (.int s0), .val (.int mm0), .val (.int t0), .val (.int nn0), .val (.long (own_size (0 : Int32) (0 : Int32))), .second, .val (.long (own_size s0 mm0)), .second, .val (.long (own_size t0 mm0)), .second, .val (.long (own_size s0 nn0)), .second, .val (.int (1 : Int32)), .val (.int (1 : Int32)), .unset, .unset] [(.int (XT.cmpL ((own_size s0 mm0) - (own_size s0 nn0)) ((20 : Int64) * ((Int32.toInt64 mm0) - (Int32.toInt64 nn0)))))])) (fun _ k => XT.lcmp X104.here hx rfl (hb hby at_117) rfl k) ?_
  refine own_st (S' := T104.setTop (mkF m 121 #[.val (.int p1), .val (.int p2), .val (.int p3), .val (.int p4), .val (.int s0), .val (.int mm0), .val (.int t0), .val (.int nn0), .val (.long (own_size (0 : Int32) (0 : Int32))), .second, .val (.long (own_size s0 mm0)), .second, .val (.long (own_size t0 mm0)), .second, .val (.long (own_size s0 nn0)), .second, .val (.int (1 : Int32)), .val (.int (1 : Int32)), .unset, .unset] [])) (fun _ k => XS.ifNo X104.here hx rfl (hb hby at_118) rfl ((own_l_ne _ _).trans (decide_eq_false (p := Int64.toInt ((own_size s0 mm0) - (own_size s0 nn0)) ≠ Int64.toInt ((20 : Int64) * ((Int32.toInt64 mm0) - (Int32.toInt64 nn0)))) (fun h => h (congrArg Int64.toInt (own_r2 s0 mm0 nn0))))) k) ?_
  refine own_st (S' := T104.setTop (mkF m 122 #[.val (.int p1), .val (.int p2), .val (.int p3), .val (.int p4), .val (.int s0), .val (.int mm0), .val (.int t0), .val (.int nn0), .val (.long (own_size (0 : Int32) (0 : Int32))), .second, .val (.long (own_size s0 mm0)), .second, .val (.long (own_size t0 mm0)), .second, .val (.long (own_size s0 nn0)), .second, .val (.int (1 : Int32)), .val (.int (1 : Int32)), .unset, .unset] [(.int (1 : Int32))])) (fun _ k => XS.iconst X104.here hx rfl (hb hby at_121) k) ?_
  refine own_st (S' := T104.setTop (mkF m 126 #[.val (.int p1), .val (.int p2), .val (.int p3), .val (.int p4), .val (.int s0), .val (.int mm0), .val (.int t0), .val (.int nn0), .val (.long (own_size (0 : Int32) (0 : Int32))), .second, .val (.long (own_size s0 mm0)), .second, .val (.long (own_size t0 mm0)), .second, .val (.long (own_size s0 nn0)), .second, .val (.int (1 : Int32)), .val (.int (1 : Int32)), .unset, .unset] [(.int (1 : Int32))])) (fun _ k => XS.goto X104.here hx rfl (pc0 := 122) (pc' := 126) rfl (hb hby at_122) (by decide) (by decide) k) ?_
  refine own_st (S' := T104.setTop (mkF m 128 #[.val (.int p1), .val (.int p2), .val (.int p3), .val (.int p4), .val (.int s0), .val (.int mm0), .val (.int t0), .val (.int nn0), .val (.long (own_size (0 : Int32) (0 : Int32))), .second, .val (.long (own_size s0 mm0)), .second, .val (.long (own_size t0 mm0)), .second, .val (.long (own_size s0 nn0)), .second, .val (.int (1 : Int32)), .val (.int (1 : Int32)), .val (.int (1 : Int32)), .unset] [])) (fun _ k => XS.istore X104.here hx rfl (hb hby at_126) rfl (l' := #[.val (.int p1), .val (.int p2), .val (.int p3), .val (.int p4), .val (.int s0), .val (.int mm0), .val (.int t0), .val (.int nn0), .val (.long (own_size (0 : Int32) (0 : Int32))), .second, .val (.long (own_size s0 mm0)), .second, .val (.long (own_size t0 mm0)), .second, .val (.long (own_size s0 nn0)), .second, .val (.int (1 : Int32)), .val (.int (1 : Int32)), .val (.int (1 : Int32)), .unset]) rfl k) ?_
  refine own_st (S' := T104.setTop (mkF m 130 #[.val (.int p1), .val (.int p2), .val (.int p3), .val (.int p4), .val (.int s0), .val (.int mm0), .val (.int t0), .val (.int nn0), .val (.long (own_size (0 : Int32) (0 : Int32))), .second, .val (.long (own_size s0 mm0)), .second, .val (.long (own_size t0 mm0)), .second, .val (.long (own_size s0 nn0)), .second, .val (.int (1 : Int32)), .val (.int (1 : Int32)), .val (.int (1 : Int32)), .unset] [(.long (own_size s0 mm0))])) (fun _ k => XT.lload X104.here hx rfl (hb hby at_128) rfl k) ?_
  refine own_st (S' := T104.setTop (mkF m 133 #[.val (.int p1), .val (.int p2), .val (.int p3), .val (.int p4), .val (.int s0), .val (.int mm0), .val (.int t0), .val (.int nn0), .val (.long (own_size (0 : Int32) (0 : Int32))), .second, .val (.long (own_size s0 mm0)), .second, .val (.long (own_size t0 mm0)), .second, .val (.long (own_size s0 nn0)), .second, .val (.int (1 : Int32)), .val (.int (1 : Int32)), .val (.int (1 : Int32)), .unset] [(.long (40 : Int64)), (.long (own_size s0 mm0))])) (fun _ k => X104.ldc2J hx hown (mvT hZ (hw _ (List.mem_of_getElem? (i := 8) rfl))) rfl (hb hby at_130) k) ?_
  refine own_st (S' := T104.setTop (mkF m 134 #[.val (.int p1), .val (.int p2), .val (.int p3), .val (.int p4), .val (.int s0), .val (.int mm0), .val (.int t0), .val (.int nn0), .val (.long (own_size (0 : Int32) (0 : Int32))), .second, .val (.long (own_size s0 mm0)), .second, .val (.long (own_size t0 mm0)), .second, .val (.long (own_size s0 nn0)), .second, .val (.int (1 : Int32)), .val (.int (1 : Int32)), .val (.int (1 : Int32)), .unset] [(.int (XT.cmpL (own_size s0 mm0) (40 : Int64)))])) (fun _ k => XT.lcmp X104.here hx rfl (hb hby at_133) rfl k) ?_
  refine own_st (S' := T104.setTop (mkF m 137 #[.val (.int p1), .val (.int p2), .val (.int p3), .val (.int p4), .val (.int s0), .val (.int mm0), .val (.int t0), .val (.int nn0), .val (.long (own_size (0 : Int32) (0 : Int32))), .second, .val (.long (own_size s0 mm0)), .second, .val (.long (own_size t0 mm0)), .second, .val (.long (own_size s0 nn0)), .second, .val (.int (1 : Int32)), .val (.int (1 : Int32)), .val (.int (1 : Int32)), .unset] [])) (fun _ k => XS.ifNo X104.here hx rfl (hb hby at_134) rfl ((own_l_lt _ _).trans (decide_eq_false (p := Int64.toInt (own_size s0 mm0) < 40) (by rw [hv_s0, hv_mm0]; exact own_r3 p1 p2))) k) ?_
  refine own_st (S' := T104.setTop (mkF m 138 #[.val (.int p1), .val (.int p2), .val (.int p3), .val (.int p4), .val (.int s0), .val (.int mm0), .val (.int t0), .val (.int nn0), .val (.long (own_size (0 : Int32) (0 : Int32))), .second, .val (.long (own_size s0 mm0)), .second, .val (.long (own_size t0 mm0)), .second, .val (.long (own_size s0 nn0)), .second, .val (.int (1 : Int32)), .val (.int (1 : Int32)), .val (.int (1 : Int32)), .unset] [(.int (1 : Int32))])) (fun _ k => XS.iconst X104.here hx rfl (hb hby at_137) k) ?_
  refine own_st (S' := T104.setTop (mkF m 142 #[.val (.int p1), .val (.int p2), .val (.int p3), .val (.int p4), .val (.int s0), .val (.int mm0), .val (.int t0), .val (.int nn0), .val (.long (own_size (0 : Int32) (0 : Int32))), .second, .val (.long (own_size s0 mm0)), .second, .val (.long (own_size t0 mm0)), .second, .val (.long (own_size s0 nn0)), .second, .val (.int (1 : Int32)), .val (.int (1 : Int32)), .val (.int (1 : Int32)), .unset] [(.int (1 : Int32))])) (fun _ k => XS.goto X104.here hx rfl (pc0 := 138) (pc' := 142) rfl (hb hby at_138) (by decide) (by decide) k) ?_
  refine own_st (S' := T104.setTop (mkF m 144 #[.val (.int p1), .val (.int p2), .val (.int p3), .val (.int p4), .val (.int s0), .val (.int mm0), .val (.int t0), .val (.int nn0), .val (.long (own_size (0 : Int32) (0 : Int32))), .second, .val (.long (own_size s0 mm0)), .second, .val (.long (own_size t0 mm0)), .second, .val (.long (own_size s0 nn0)), .second, .val (.int (1 : Int32)), .val (.int (1 : Int32)), .val (.int (1 : Int32)), .val (.int (1 : Int32))] [])) (fun _ k => XS.istore X104.here hx rfl (hb hby at_142) rfl (l' := #[.val (.int p1), .val (.int p2), .val (.int p3), .val (.int p4), .val (.int s0), .val (.int mm0), .val (.int t0), .val (.int nn0), .val (.long (own_size (0 : Int32) (0 : Int32))), .second, .val (.long (own_size s0 mm0)), .second, .val (.long (own_size t0 mm0)), .second, .val (.long (own_size s0 nn0)), .second, .val (.int (1 : Int32)), .val (.int (1 : Int32)), .val (.int (1 : Int32)), .val (.int (1 : Int32))]) rfl k) ?_
  refine own_st (S' := T104.setTop (mkF m 146 #[.val (.int p1), .val (.int p2), .val (.int p3), .val (.int p4), .val (.int s0), .val (.int mm0), .val (.int t0), .val (.int nn0), .val (.long (own_size (0 : Int32) (0 : Int32))), .second, .val (.long (own_size s0 mm0)), .second, .val (.long (own_size t0 mm0)), .second, .val (.long (own_size s0 nn0)), .second, .val (.int (1 : Int32)), .val (.int (1 : Int32)), .val (.int (1 : Int32)), .val (.int (1 : Int32))] [(.int (1 : Int32))])) (fun _ k => XS.iload X104.here hx rfl (hb hby at_144) rfl k) ?_
  refine own_st (S' := T104.setTop (mkF m 149 #[.val (.int p1), .val (.int p2), .val (.int p3), .val (.int p4), .val (.int s0), .val (.int mm0), .val (.int t0), .val (.int nn0), .val (.long (own_size (0 : Int32) (0 : Int32))), .second, .val (.long (own_size s0 mm0)), .second, .val (.long (own_size t0 mm0)), .second, .val (.long (own_size s0 nn0)), .second, .val (.int (1 : Int32)), .val (.int (1 : Int32)), .val (.int (1 : Int32)), .val (.int (1 : Int32))] [])) (fun _ k => XS.ifNo X104.here hx rfl (hb hby at_146) rfl ((own_z_eq _).trans (decide_eq_false (p := 1 = 0) (by decide))) k) ?_
  refine own_st (S' := T104.setTop (mkF m 151 #[.val (.int p1), .val (.int p2), .val (.int p3), .val (.int p4), .val (.int s0), .val (.int mm0), .val (.int t0), .val (.int nn0), .val (.long (own_size (0 : Int32) (0 : Int32))), .second, .val (.long (own_size s0 mm0)), .second, .val (.long (own_size t0 mm0)), .second, .val (.long (own_size s0 nn0)), .second, .val (.int (1 : Int32)), .val (.int (1 : Int32)), .val (.int (1 : Int32)), .val (.int (1 : Int32))] [(.int (1 : Int32))])) (fun _ k => XS.iload X104.here hx rfl (hb hby at_149) rfl k) ?_
  refine own_st (S' := T104.setTop (mkF m 154 #[.val (.int p1), .val (.int p2), .val (.int p3), .val (.int p4), .val (.int s0), .val (.int mm0), .val (.int t0), .val (.int nn0), .val (.long (own_size (0 : Int32) (0 : Int32))), .second, .val (.long (own_size s0 mm0)), .second, .val (.long (own_size t0 mm0)), .second, .val (.long (own_size s0 nn0)), .second, .val (.int (1 : Int32)), .val (.int (1 : Int32)), .val (.int (1 : Int32)), .val (.int (1 : Int32))] [])) (fun _ k => XS.ifNo X104.here hx rfl (hb hby at_151) rfl ((own_z_eq _).trans (decide_eq_false (p := 1 = 0) (by decide))) k) ?_
  refine own_st (S' := T104.setTop (mkF m 156 #[.val (.int p1), .val (.int p2), .val (.int p3), .val (.int p4), .val (.int s0), .val (.int mm0), .val (.int t0), .val (.int nn0), .val (.long (own_size (0 : Int32) (0 : Int32))), .second, .val (.long (own_size s0 mm0)), .second, .val (.long (own_size t0 mm0)), .second, .val (.long (own_size s0 nn0)), .second, .val (.int (1 : Int32)), .val (.int (1 : Int32)), .val (.int (1 : Int32)), .val (.int (1 : Int32))] [(.int (1 : Int32))])) (fun _ k => XS.iload X104.here hx rfl (hb hby at_154) rfl k) ?_
  refine own_st (S' := T104.setTop (mkF m 159 #[.val (.int p1), .val (.int p2), .val (.int p3), .val (.int p4), .val (.int s0), .val (.int mm0), .val (.int t0), .val (.int nn0), .val (.long (own_size (0 : Int32) (0 : Int32))), .second, .val (.long (own_size s0 mm0)), .second, .val (.long (own_size t0 mm0)), .second, .val (.long (own_size s0 nn0)), .second, .val (.int (1 : Int32)), .val (.int (1 : Int32)), .val (.int (1 : Int32)), .val (.int (1 : Int32))] [])) (fun _ k => XS.ifNo X104.here hx rfl (hb hby at_156) rfl ((own_z_eq _).trans (decide_eq_false (p := 1 = 0) (by decide))) k) ?_
  refine own_st (S' := T104.setTop (mkF m 161 #[.val (.int p1), .val (.int p2), .val (.int p3), .val (.int p4), .val (.int s0), .val (.int mm0), .val (.int t0), .val (.int nn0), .val (.long (own_size (0 : Int32) (0 : Int32))), .second, .val (.long (own_size s0 mm0)), .second, .val (.long (own_size t0 mm0)), .second, .val (.long (own_size s0 nn0)), .second, .val (.int (1 : Int32)), .val (.int (1 : Int32)), .val (.int (1 : Int32)), .val (.int (1 : Int32))] [(.int (1 : Int32))])) (fun _ k => XS.iload X104.here hx rfl (hb hby at_159) rfl k) ?_
  refine own_st (S' := T104.setTop (mkF m 164 #[.val (.int p1), .val (.int p2), .val (.int p3), .val (.int p4), .val (.int s0), .val (.int mm0), .val (.int t0), .val (.int nn0), .val (.long (own_size (0 : Int32) (0 : Int32))), .second, .val (.long (own_size s0 mm0)), .second, .val (.long (own_size t0 mm0)), .second, .val (.long (own_size s0 nn0)), .second, .val (.int (1 : Int32)), .val (.int (1 : Int32)), .val (.int (1 : Int32)), .val (.int (1 : Int32))] [])) (fun _ k => XS.ifNo X104.here hx rfl (hb hby at_161) rfl ((own_z_eq _).trans (decide_eq_false (p := 1 = 0) (by decide))) k) ?_
  refine own_st (S' := T104.setTop (mkF m 165 #[.val (.int p1), .val (.int p2), .val (.int p3), .val (.int p4), .val (.int s0), .val (.int mm0), .val (.int t0), .val (.int nn0), .val (.long (own_size (0 : Int32) (0 : Int32))), .second, .val (.long (own_size s0 mm0)), .second, .val (.long (own_size t0 mm0)), .second, .val (.long (own_size s0 nn0)), .second, .val (.int (1 : Int32)), .val (.int (1 : Int32)), .val (.int (1 : Int32)), .val (.int (1 : Int32))] [(.int (1 : Int32))])) (fun _ k => XS.iconst X104.here hx rfl (hb hby at_164) k) ?_
  refine own_st (S' := T104.setTop (mkF m 169 #[.val (.int p1), .val (.int p2), .val (.int p3), .val (.int p4), .val (.int s0), .val (.int mm0), .val (.int t0), .val (.int nn0), .val (.long (own_size (0 : Int32) (0 : Int32))), .second, .val (.long (own_size s0 mm0)), .second, .val (.long (own_size t0 mm0)), .second, .val (.long (own_size s0 nn0)), .second, .val (.int (1 : Int32)), .val (.int (1 : Int32)), .val (.int (1 : Int32)), .val (.int (1 : Int32))] [(.int (1 : Int32))])) (fun _ k => XS.goto X104.here hx rfl (pc0 := 165) (pc' := 169) rfl (hb hby at_165) (by decide) (by decide) k) ?_
  refine own_end X104 (Q := (Q0 Z p1 p2 p3 p4 h0 n0)) (some (.int (1 : Int32))) Bd.notSynchronized (fun h => by rw [Bd.returns] at h; cases h) (fun fs hr => retN X104 hx (t := .boolean) Bd.returns (by simp) (hb hby at_169) hr) ?_ (by decide) (by decide)
  rw [hh104]
  exact ⟨rfl, Nn104⟩
set_option maxRecDepth 65536 in
set_option maxHeartbeats 40000000 in
theorem comes_1 {Post : Tables → Env → Array Value → State → Outcome → State → Prop} (hpost : ∀ tb e args s v u, (limb_1_1.after args s (.returned v) u = true ∧ limb_1_2.after args s (.returned v) u = true ∧ True) → FrameEnd s (.returned v) u (Jvm.fieldLocs frame_1_writes args s ++ Jvm.arrayLocs frame_1_arrays args s ++ Jvm.staticLocs frame_1_statics s) 0 0 → Post tb e args s (.returned v) u) :
    ArmFor flags0 classFile x code maxLocals ret World_1 tables_1 room_1 Calls_1 rest_1 Pre_1 Post := by
  intro l hfl _ _ p e ha hc hk s m args below hf hA hF happ hP
  obtain ⟨hcalls, hrest, hpre⟩ := hP
  obtain ⟨-, -, -, hnamed, -, -, -, hat⟩ := (Spec.applies_iff hf).mp happ
  obtain ⟨hg, hn⟩ := and_e (Cond.before_iff.mp (show (Jvm.Cond.and given_1 narrow_1).before args s = true from hpre))
  obtain ⟨hg0, hr0⟩ := and_e hg
  obtain ⟨hk0, hr1⟩ := and_e hr0
  obtain ⟨hk1, hr2⟩ := and_e hr1
  obtain ⟨hk2, hr3⟩ := and_e hr2
  have hk3 := hr3
  obtain ⟨w0, w1, w2, w3, rfl⟩ : ∃ w0 w1 w2 w3 : Value, args = #[w0, w1, w2, w3] := by
    have hs : args.size = 4 := by simpa [Cond.value, given_1] using hg0
    obtain ⟨L⟩ := args
    match L, hs with
    | [w0, w1, w2, w3], _ => exact ⟨w0, w1, w2, w3, rfl⟩
  have hw := fun d (hd : d ∈ tables_1) => atoms_spec (ws := Jvm.Cond.code x code maxLocals ret :: tables_1) hat d (List.mem_cons_of_mem _ hd)
  obtain ⟨i0, ee0⟩ := is_v hk0
  obtain rfl : w0 = (.int i0) := Option.some.inj ee0
  obtain ⟨i1, ee1⟩ := is_v hk1
  obtain rfl : w1 = (.int i1) := Option.some.inj ee1
  obtain ⟨i2, ee2⟩ := is_v hk2
  obtain rfl : w2 = (.int i2) := Option.some.inj ee2
  obtain ⟨i3, ee3⟩ := is_v hk3
  obtain rfl : w3 = (.int i3) := Option.some.inj ee3
  obtain ⟨n, o, h1, h2, h3, _, L, rfl, ⟨rfl, N⟩, hq⟩ := rm0 l s _ hw tables_1 i0 i1 i2 i3 s.heap s.heap.size (Nat.le_refl _) p e ha hc hk s m _ below hf ((Spec.applies_iff_loose hf).mp happ).1 ⟨rfl, State.Warmed39.refl s, rfl⟩ trivial
  refine ⟨n, _, h1, h2, h3, hpost _ _ _ _ _ _ ⟨Cond.after_iff.mpr rfl, Cond.after_iff.mpr (eq_i res_at (Term.int_eval (1)) rfl), trivial⟩ ⟨hq.1, hq.2.1, (hq.2.2.sift fun y hy => Or.inr (N y hy)).mono (by decide) (by decide)⟩⟩
theorem main_1_1 : Claimed_1_1 := comes_1 fun _ _ _ _ _ _ h hF => ⟨h.1, hF⟩
theorem main_1_2 : Claimed_1_2 := comes_1 fun _ _ _ _ _ _ h hF => ⟨h.2.1, hF⟩
end Jvm.Pilot.@@N@@
namespace Jvm.Pilot.@@N@@
open Jvm Jvm.ClassFile Sem Op Lib Jvm.Free Jvm.Stand Jvm.Pilot.@@N@@.Jvm.D
/-! MADE BY PROGRAM (witnessworld.py) out of the Statement's table words and the real class files: 9 classes; the members and pool entries that the words name. The judged class is class 1, her method 1. -/
namespace start1
open Jvm.ClassFile
def u (s : String) : CpInfo := .utf8 (stringToUtf16 s)
/-- a pool by its gaps: so many unusable entries, then the entry; so many at the end -/
def gap : Nat → List CpInfo → List CpInfo
  | 0, r => r
  | n + 1, r => .unusable :: gap n r
def poolList (es : List (Nat × CpInfo)) (last : Nat) : List CpInfo := es.foldr (fun e r => gap e.1 (e.2 :: r)) (gap last [])
def pool (es : List (Nat × CpInfo)) (last : Nat) : Array CpInfo := ⟨poolList es last⟩
def fileOf (pool : Array CpInfo) (this : Nat) (attrs : Array Attribute := #[]) (ms : Array MethodInfo := #[]) (fl : Nat := 33) (sup : Nat := 0) (ifs : Array Nat := #[]) (fds : Array FieldInfo := #[]) : ClassFile where
  minorVersion := 0
  majorVersion := 65
  constantPool := pool
  accessFlags := fl
  thisClass := this
  superClass := sup
  interfaces := ifs
  fields := fds
  methods := ms
  attributes := attrs
def plain (name : String) (sup : Option ClassId) : Class where
  name := name
  kind := .ordinary
  loader := none
  accessFlags := 33
  super := sup
  interfaces := #[]
  cf := none
  fields := #[]
  methods := #[]
  instanceTypes := #[]
  staticTypes := #[]
  resolved := #[]
  callSites := []
  init := .initialized
  statics := none
  mirror := none

def pool0 : Array CpInfo := pool [(5, u "<init>"), (0, u "()V"), (1, .class_ 10), (1, u "java/lang/Object")] 113

def k0m0 : Method := { name := "<init>", desc := "()V", sig := { parameters := [], returnType := none }, accessFlags := 1, code := none }
/-- java/lang/Object -/
def k0 : Class := { plain "java/lang/Object" none with
  accessFlags := 33
  interfaces := #[]
  cf := some (fileOf pool0 8 #[] #[{ accessFlags := 1, nameIndex := 5, descriptorIndex := 6, attributes := #[] }] 33 0 #[] #[])
  fields := #[]
  methods := #[k0m0]
  instanceTypes := #[]
  staticTypes := #[]
  resolved := Array.replicate 124 none
  statics := none }

def pool1 : Array CpInfo := pool [(2, .class_ 4), (1, u "java/lang/Object"), (0, u "<init>"), (0, u "()V"), (0, .integer 2147483647), (0, .methodref 9 10), (0, .class_ 11), (0, .nameAndType 12 13), (0, u "com/example/cairnlog/cairnlog/IndexFile"), (0, u "size"), (0, u "(II)J"), (0, .long 40), (1, .long 4), (1, .long 20), (1, .class_ 21), (0, u "com/example/cairnlog/cairnlog/IndexFileSizePinLaw"), (2, u "law"), (0, u "(IIII)Z")] 3

def k1m0 : Method := { name := "<init>", desc := "()V", sig := { parameters := [], returnType := none }, accessFlags := 2, code := none }
def k1c1 : Code := { maxStack := 8, maxLocals := 20, code := code, exceptionTable := #[], attributes := #[] }
def k1m1 : Method := { name := "law", desc := "(IIII)Z", sig := { parameters := [.int, .int, .int, .int], returnType := some .boolean }, accessFlags := 9, code := some k1c1 }
/-- com/example/cairnlog/cairnlog/IndexFileSizePinLaw -/
def k1 : Class := { plain "com/example/cairnlog/cairnlog/IndexFileSizePinLaw" (some 0) with
  accessFlags := 49
  interfaces := #[]
  cf := some (fileOf pool1 20 #[] #[{ accessFlags := 2, nameIndex := 5, descriptorIndex := 6, attributes := #[] }, { accessFlags := 9, nameIndex := 24, descriptorIndex := 25, attributes := #[] }] 49 2 #[] #[])
  fields := #[]
  methods := #[k1m0, k1m1]
  instanceTypes := #[]
  staticTypes := #[]
  resolved := Array.replicate 29 none
  statics := none }

def pool2 : Array CpInfo := pool [(2, .class_ 4), (1, u "java/lang/Object"), (13, .class_ 20), (1, u "com/example/cairnlog/cairnlog/IndexFile"), (0, u "name"), (0, u "Ljava/lang/String;"), (2, u "slots"), (0, u "I"), (2, u "maxEntries"), (2, u "bytes"), (0, u "Ljava/nio/MappedByteBuffer;"), (0, .long 40), (1, .long 4), (1, .long 20), (3, u "size"), (0, u "(II)J"), (26, u "dirty"), (0, u "Z"), (90, u "HEADER_SIZE"), (2, u "ENTRY_SIZE"), (1, u "FIRST_TIMESTAMP"), (1, u "LAST_TIMESTAMP"), (1, u "FIRST_OFFSET"), (1, u "LAST_OFFSET"), (1, u "SLOTS_IN_USE"), (1, u "ENTRY_COUNT"), (1, u "ENTRY_OFFSET"), (1, u "ENTRY_SECONDS"), (1, u "ENTRY_PREVIOUS")] 39

def k2c0 : Code := { maxStack := 6, maxLocals := 2, code := prog_14_method_2_code, exceptionTable := #[], attributes := #[] }
def k2m0 : Method := { name := "size", desc := "(II)J", sig := { parameters := [.int, .int], returnType := some .long }, accessFlags := 8, code := some k2c0 }
/-- com/example/cairnlog/cairnlog/IndexFile -/
def k2 : Class := { plain "com/example/cairnlog/cairnlog/IndexFile" (some 0) with
  accessFlags := 48
  interfaces := #[]
  cf := some (fileOf pool2 18 #[] #[{ accessFlags := 8, nameIndex := 42, descriptorIndex := 43, attributes := #[] }] 48 2 #[] #[{ accessFlags := 26, nameIndex := 162, descriptorIndex := 26, attributes := #[] }, { accessFlags := 26, nameIndex := 165, descriptorIndex := 26, attributes := #[] }, { accessFlags := 26, nameIndex := 167, descriptorIndex := 26, attributes := #[] }, { accessFlags := 26, nameIndex := 169, descriptorIndex := 26, attributes := #[] }, { accessFlags := 26, nameIndex := 171, descriptorIndex := 26, attributes := #[] }, { accessFlags := 26, nameIndex := 173, descriptorIndex := 26, attributes := #[] }, { accessFlags := 26, nameIndex := 175, descriptorIndex := 26, attributes := #[] }, { accessFlags := 26, nameIndex := 177, descriptorIndex := 26, attributes := #[] }, { accessFlags := 26, nameIndex := 179, descriptorIndex := 26, attributes := #[] }, { accessFlags := 26, nameIndex := 181, descriptorIndex := 26, attributes := #[] }, { accessFlags := 26, nameIndex := 183, descriptorIndex := 26, attributes := #[] }, { accessFlags := 18, nameIndex := 21, descriptorIndex := 22, attributes := #[] }, { accessFlags := 18, nameIndex := 25, descriptorIndex := 26, attributes := #[] }, { accessFlags := 18, nameIndex := 29, descriptorIndex := 26, attributes := #[] }, { accessFlags := 18, nameIndex := 32, descriptorIndex := 33, attributes := #[] }, { accessFlags := 2, nameIndex := 70, descriptorIndex := 71, attributes := #[] }])
  fields := #[{ name := "HEADER_SIZE", type := .int, accessFlags := 26, slot := 0, constantValue := 0 }, { name := "ENTRY_SIZE", type := .int, accessFlags := 26, slot := 1, constantValue := 0 }, { name := "FIRST_TIMESTAMP", type := .int, accessFlags := 26, slot := 2, constantValue := 0 }, { name := "LAST_TIMESTAMP", type := .int, accessFlags := 26, slot := 3, constantValue := 0 }, { name := "FIRST_OFFSET", type := .int, accessFlags := 26, slot := 4, constantValue := 0 }, { name := "LAST_OFFSET", type := .int, accessFlags := 26, slot := 5, constantValue := 0 }, { name := "SLOTS_IN_USE", type := .int, accessFlags := 26, slot := 6, constantValue := 0 }, { name := "ENTRY_COUNT", type := .int, accessFlags := 26, slot := 7, constantValue := 0 }, { name := "ENTRY_OFFSET", type := .int, accessFlags := 26, slot := 8, constantValue := 0 }, { name := "ENTRY_SECONDS", type := .int, accessFlags := 26, slot := 9, constantValue := 0 }, { name := "ENTRY_PREVIOUS", type := .int, accessFlags := 26, slot := 10, constantValue := 0 }, { name := "name", type := (.object "java/lang/String"), accessFlags := 18, slot := 0, constantValue := 0 }, { name := "slots", type := .int, accessFlags := 18, slot := 1, constantValue := 0 }, { name := "maxEntries", type := .int, accessFlags := 18, slot := 2, constantValue := 0 }, { name := "bytes", type := (.object "java/nio/MappedByteBuffer"), accessFlags := 18, slot := 3, constantValue := 0 }, { name := "dirty", type := .boolean, accessFlags := 2, slot := 4, constantValue := 0 }]
  methods := #[k2m0]
  instanceTypes := #[(.object "java/lang/String"), .int, .int, (.object "java/nio/MappedByteBuffer"), .boolean]
  staticTypes := #[.int, .int, .int, .int, .int, .int, .int, .int, .int, .int, .int]
  resolved := Array.replicate 223 none
  statics := none }

def pool3 : Array CpInfo := pool [(1, u "java/lang/Cloneable"), (0, .class_ 1), (0, u "java/lang/Object"), (0, .class_ 3)] 3

/-- java/lang/Cloneable -/
def k3 : Class := { plain "java/lang/Cloneable" (some 0) with
  accessFlags := 1537
  interfaces := #[]
  cf := some (fileOf pool3 2 #[] #[] 1537 4 #[] #[])
  fields := #[]
  methods := #[]
  instanceTypes := #[]
  staticTypes := #[]
  resolved := Array.replicate 8 none
  statics := none }

def pool4 : Array CpInfo := pool [(1, u "java/io/Serializable"), (0, .class_ 1), (0, u "java/lang/Object"), (0, .class_ 3)] 3

/-- java/io/Serializable -/
def k4 : Class := { plain "java/io/Serializable" (some 0) with
  accessFlags := 1537
  interfaces := #[]
  cf := some (fileOf pool4 2 #[] #[] 1537 4 #[] #[])
  fields := #[]
  methods := #[]
  instanceTypes := #[]
  staticTypes := #[]
  resolved := Array.replicate 8 none
  statics := none }

/-- the primitive byte -/
def k5 : Class := { plain "byte" none with kind := .primitive 'B', accessFlags := 0x411 }
/-- [B -/
def k6 : Class := { plain "[B" (some 0) with kind := .array 5 .byte, interfaces := #[3, 4], accessFlags := 1041 }

/-- the primitive int -/
def k7 : Class := { plain "int" none with kind := .primitive 'I', accessFlags := 0x411 }
/-- [I -/
def k8 : Class := { plain "[I" (some 0) with kind := .array 7 .int, interfaces := #[3, 4], accessFlags := 1041 }

def heap : Heap := #[]
def classes : Array Class := #[k0, k1, k2, k3, k4, k5, k6, k7, k8]
def interned : List (Array UInt16 × Addr) := []
def slotsUsed : Nat := 0
def theMethod : MethodId := ⟨1, 1⟩
def args0 : Array Value := #[.int 5, .int 7, .int 3, .int 4]
def aboutOver (below : List Frame) : State where
  vm := { classes := classes, interned := interned.toArray }
  heap := heap
  slotsUsed := slotsUsed
  threads := #[{ frames := .invoking theMethod args0 :: below }]
def below0 : List Frame := [.native { method := ⟨0, 0⟩, args := #[] }]
def about1 : State := aboutOver below0
def p0 : Program := .bare "" "" ""
def e0 : Env := launch0.env 0 0 0
theorem w_frames : about1.frames = Frame.invoking theMethod args0 :: below0 := rfl
set_option maxRecDepth 65536 in
theorem w_args : argsFit about1.vm theMethod args0 = true := by decide +kernel
set_option maxRecDepth 65536 in
theorem w_heap : heapFits about1 = true := by decide +kernel
set_option maxRecDepth 65536 in
theorem w_runnable : about1.curStatus? = some .runnable := by decide +kernel
set_option maxRecDepth 65536 in
theorem w_alone : about1.alone = true := by decide +kernel
set_option maxRecDepth 65536 in
theorem w_named : about1.methodNamed? x = some theMethod := by decide +kernel
set_option maxRecDepth 65536 in
theorem w_hears : about1.hears theMethod below0 = true := by decide +kernel
set_option maxRecDepth 65536 in
theorem w_ripe : about1.ripe theMethod args0 below0 = true := by decide +kernel
theorem w_running : about1.status = .running := rfl
set_option maxRecDepth 65536 in
theorem w_room : about1.hasRoom e0.platform room_1 = true :=
  launch0.hasRoom_least _ room_1 (by decide +kernel) (by decide +kernel) (by decide +kernel) (by decide +kernel) (by decide +kernel) (by decide +kernel)
theorem allAtoms_all (ts : List Jvm.Cond) (a : Array Jvm.Value) (st : Jvm.State) : (allAtoms ts).before a st = ts.all (fun c => c.before a st) := by
  induction ts with
  | nil => rfl
  | cons c t ih =>
    show (Jvm.Cond.and c (allAtoms t)).before a st = _
    rw [Jvm.Cond.before_and, ih, List.all_cons]
def words1 : List Jvm.Cond := Jvm.Cond.code x code maxLocals ret :: tables_1
/-- a 'code' word, met by the world's own term for the bytes: nothing is compared byte by byte -/
theorem code_word {y : MethodName} {bytes : ByteArray} {mx : Nat} {rt : Option FieldType} {a : Array Value} {s : State} {m : MethodId} {meth : Method} {c : Code} (h1 : s.methodNamed? y = some m) (h2 : s.vm.method? m = some meth) (h3 : meth.code = some c) (h4 : c.code = bytes)
    (h5 : (c.maxLocals == mx && c.exceptionTable.isEmpty && decide (c.maxStack ≤ mostOperands) && decide (meth.sig.returnType = rt) && !meth.locks && decide (parseMethodDescriptor y.desc = some meth.sig)) = true) : (Jvm.Cond.code y bytes mx rt).before a s = true := by
  simp only [Bool.and_eq_true, beq_iff_eq, Bool.not_eq_true', decide_eq_true_eq] at h5
  obtain ⟨⟨⟨⟨⟨g1, g2⟩, g3⟩, g4⟩, g5⟩, g6⟩ := h5
  simp [Cond.before, Cond.holds, Cond.value, h1, h2, h3, h4, g1, g2, g3, g4, g5, g6]
def isCode : Jvm.Cond → Bool
  | .code _ _ _ _ => true
  | _ => false
theorem all_split {L : List Jvm.Cond} {P : Jvm.Cond → Bool} (h1 : L.all (fun c => isCode c || P c) = true) (h2 : ∀ c ∈ L.filter isCode, P c = true) : L.all P = true := by
  refine List.all_eq_true.mpr fun c hc => ?_
  have h := List.all_eq_true.mp h1 c hc
  rcases Bool.eq_false_or_eq_true (isCode c) with hi | hi
  · exact h2 c (List.mem_filter.mpr ⟨hc, hi⟩)
  · simpa [hi] using h
set_option maxRecDepth 65536 in
theorem w_c0 : (Jvm.Cond.code x code maxLocals ret).before args0 about1 = true := code_word (m := ⟨1, 1⟩) (meth := k1m1) (c := k1c1) (by decide +kernel) rfl rfl rfl (by decide +kernel)
set_option maxRecDepth 65536 in
theorem w_c1 : (Jvm.Cond.code ({ cls := "com/example/cairnlog/cairnlog/IndexFile", name := "size", desc := "(II)J" } : Jvm.MethodName) prog_14_method_2_code (2 : Nat) (Option.some Jvm.ClassFile.FieldType.long)).before args0 about1 = true := code_word (m := ⟨2, 0⟩) (meth := k2m0) (c := k2c0) (by decide +kernel) rfl rfl rfl (by decide +kernel)
def codes1 : List Jvm.Cond := [Jvm.Cond.code x code maxLocals ret, Jvm.Cond.code ({ cls := "com/example/cairnlog/cairnlog/IndexFile", name := "size", desc := "(II)J" } : Jvm.MethodName) prog_14_method_2_code (2 : Nat) (Option.some Jvm.ClassFile.FieldType.long)]
set_option maxRecDepth 65536 in
theorem codes_eq : words1.filter isCode = codes1 := rfl
theorem w_codes : ∀ c ∈ words1.filter isCode, c.before args0 about1 = true := by
  rw [codes_eq]
  intro c hc
  simp only [codes1, List.mem_cons, List.not_mem_nil, or_false] at hc
  rcases hc with rfl | rfl
  · exact w_c0
  · exact w_c1
set_option maxRecDepth 65536 in
theorem w_t1 : words1.all (fun c => isCode c || c.before args0 about1) = true := by decide +kernel
theorem w_tables : (allAtoms (Jvm.Cond.code x code maxLocals ret :: tables_1)).before args0 about1 = true := by
  rw [allAtoms_all]
  show words1.all (fun c => c.before args0 about1) = true
  refine all_split ?_ w_codes
  rw [w_t1]
set_option maxRecDepth 65536 in
theorem w_case : (Jvm.Cond.and given_1 narrow_1).before args0 about1 = true := by decide +kernel
theorem w_applies : (headSpec (Jvm.Cond.code x code maxLocals ret :: tables_1) room_1).applies x e0.platform about1 = true :=
  (Spec.applies_iff w_frames).mpr ⟨w_running, w_runnable, w_alone, w_named, w_hears, w_ripe, w_room, w_tables⟩
theorem atStart : AtStart classFile x code maxLocals ret World_1 tables_1 room_1 Calls_1 rest_1 Pre_1 launch0 p0 e0 about1 theMethod args0 below0 :=
  ⟨lists_1, trivial, launch0.admits_env _ _ _, launch0.least_env, fairChoices_fair.cas, fairChoices_fair.clock, w_frames, w_args, w_heap, w_applies, trivial, trivial, w_case⟩
end start1
theorem witness_1 : WitnessClaimed_1 := ⟨start1.p0, start1.e0, start1.about1, start1.theMethod, start1.args0, start1.below0, start1.atStart⟩
end Jvm.Pilot.@@N@@
