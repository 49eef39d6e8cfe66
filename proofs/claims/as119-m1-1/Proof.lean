import JvmDerived
import JvmDerived.Pilot.@@N@@Statement
import JvmDerived.Pilot.@@N@@Code
set_option linter.unusedVariables false
set_option linter.unusedSimpArgs false
namespace Jvm.RoadKit
open Sem ClassFile Op Lib Jvm.Stand Jvm.Free Jvm.LawKit
section New
variable {p : Program} {l : Launch} {e : Env} {R : Room} {s : State} {m : MethodId} {args : Array Value} {below : List Frame} {meth : Method} {c : Code} {T : State} {locs : List Loc} {cells slots : Nat}
/-- ireturn of an int (after example/lawnew) -/
theorem retI (X : Stand p l e R s m args below meth c T locs cells slots) (hx : p.tables.exec = Jvm.exec) {pc : Nat} {Ls : Array Slot} {z : Int32} {rest : List Value} (hret : meth.sig.returnType = some .int) (hd : decode c.code pc = .ok (.ireturn, 1)) {fs : List Frame}
    (hl : ∀ (f : JFrame) (acts : List Action), f.method = m → f.locked = none → f.entered = [] → (doReturn e (T.setTop f) acts (some (.int z))).1 = T.setFrames fs) : Steps p.tables e below (T.setTop (mkF m pc Ls (.int z :: rest))) (T.setFrames fs) := by
  have hm' : T.vm.method? m = some meth := X.method'
  have hn : narrow .int (.int z) = .int z := rfl
  show Steps p.tables e below (T.setTop { method := m, pc := pc, locals := Ls, stack := _ :: rest, locked := none }) _
  jvm_step X.here [X.here.top, hx, hd, hm', hret, hn]
  first | (intro acts; rw [hl _ acts rfl rfl rfl]) | rw [hl _ _ rfl rfl rfl]
  exact Steps.refl _
/-- the run from S comes to an end that P speaks of: a walk goes on from state to state under one goal, and may fork -/
def own_Go (tb : Tables) (e : Env) (below : List Frame) (P : State → Outcome → Prop) (S : State) : Prop := ∃ t o, Steps tb e below S t ∧ t.status = .running ∧ Ended t below o ∧ P t o
theorem own_st {tb : Tables} {e : Env} {below : List Frame} {P : State → Outcome → Prop} {S S' : State} (st : ∀ t, Steps tb e below S' t → Steps tb e below S t) (k : own_Go tb e below P S') : own_Go tb e below P S := by
  obtain ⟨t, o, h1, h2⟩ := k
  exact ⟨t, o, st t h1, h2⟩
theorem own_tr {tb : Tables} {e : Env} {below : List Frame} {P : State → Outcome → Prop} {S S' : State} (st : Steps tb e below S S') (k : own_Go tb e below P S') : own_Go tb e below P S := own_st (fun _ h => st.trans h) k
theorem own_cv {tb : Tables} {e : Env} {below : List Frame} {P : State → Outcome → Prop} {S S' : State} (q : S = S') (k : own_Go tb e below P S') : own_Go tb e below P S := q ▸ k
theorem own_join {α : Type} {tb : Tables} {e : Env} {below : List Frame} {P : State → Outcome → Prop} {S : State} (F : α → State) (k : ∀ x, own_Go tb e below P (F x)) (j : (∀ x, own_Go tb e below P (F x)) → own_Go tb e below P S) : own_Go tb e below P S := j k
/-- the end of a walk: what the return leaves -/
theorem own_end (X : Stand p l e R s m args below meth c T locs cells slots) {Q : Option Value → Heap → List Loc → Prop} {C N : Nat} {S : State} (v : Option Value) (hlocks : meth.locks = false) (hv : meth.sig.returnType = none → v = none)
    (ret : ∀ fs : List Frame, (∀ (f : JFrame) (acts : List Action), f.method = m → f.locked = none → f.entered = [] → (doReturn e (T.setTop f) acts v).1 = T.setFrames fs) → Steps p.tables e below S (T.setFrames fs))
    (q : Q v T.heap locs) (hc : cells ≤ C) (hn : slots ≤ N) : own_Go p.tables e below (fun t o => ∃ v L, o = .returned v ∧ Q v t.heap L ∧ FrameEnd s o t L C N) S := by
  obtain ⟨fs, hr, hrun, hended, hW, hsame⟩ := X.leave (v := v) hv hlocks
  exact ⟨_, _, ret fs hr, hrun, hended, v, locs, rfl, q, ⟨_, rfl⟩, hW, hsame.mono hc hn⟩
end New
theorem own_i_lt (x y : Int32) : if_icmp.holds .lt x y = decide (x.toInt < y.toInt) := by simp [if_icmp.holds, Int32.lt_iff_toInt_lt]
theorem own_i_le (x y : Int32) : if_icmp.holds .le x y = decide (x.toInt ≤ y.toInt) := by simp [if_icmp.holds, Int32.le_iff_toInt_le]
theorem own_i_gt (x y : Int32) : if_icmp.holds .gt x y = decide (x.toInt > y.toInt) := by simp [if_icmp.holds, Int32.lt_iff_toInt_lt]
theorem own_i_ge (x y : Int32) : if_icmp.holds .ge x y = decide (x.toInt ≥ y.toInt) := by simp [if_icmp.holds, Int32.le_iff_toInt_le]
theorem own_i_eq (x y : Int32) : if_icmp.holds .eq x y = decide (x.toInt = y.toInt) := by rw [Bool.eq_iff_iff]; simp [if_icmp.holds, Int32.toInt_inj]
theorem own_i_ne (x y : Int32) : if_icmp.holds .ne x y = decide (x.toInt ≠ y.toInt) := by rw [Bool.eq_iff_iff]; simp [if_icmp.holds, Int32.toInt_inj]
theorem own_z_lt (x : Int32) : ifCond.holds .lt x = decide (x.toInt < 0) := by simp [ifCond.holds, Int32.lt_iff_toInt_lt]
theorem own_z_le (x : Int32) : ifCond.holds .le x = decide (x.toInt ≤ 0) := by simp [ifCond.holds, Int32.le_iff_toInt_le]
theorem own_z_gt (x : Int32) : ifCond.holds .gt x = decide (x.toInt > 0) := by simp [ifCond.holds, Int32.lt_iff_toInt_lt]
theorem own_z_ge (x : Int32) : ifCond.holds .ge x = decide (x.toInt ≥ 0) := by simp [ifCond.holds, Int32.le_iff_toInt_le]
theorem own_z_eq (x : Int32) : ifCond.holds .eq x = decide (x.toInt = 0) := by rw [Bool.eq_iff_iff]; simp [ifCond.holds, ← Int32.toInt_inj]
theorem own_z_ne (x : Int32) : ifCond.holds .ne x = decide (x.toInt ≠ 0) := by rw [Bool.eq_iff_iff]; simp [ifCond.holds, ← Int32.toInt_inj]
theorem own_cmp (x y : Int64) : (XT.cmpL x y).toInt = if y.toInt < x.toInt then 1 else if x.toInt = y.toInt then 0 else -1 := by
  simp only [XT.cmpL, Int64.lt_iff_toInt_lt, ← Int64.toInt_inj]
  split
  · rfl
  · split <;> rfl
theorem own_l_lt (x y : Int64) : ifCond.holds .lt (XT.cmpL x y) = decide (x.toInt < y.toInt) := by
  rw [own_z_lt, own_cmp, decide_eq_decide]; split <;> (try split) <;> omega
theorem own_l_le (x y : Int64) : ifCond.holds .le (XT.cmpL x y) = decide (x.toInt ≤ y.toInt) := by
  rw [own_z_le, own_cmp, decide_eq_decide]; split <;> (try split) <;> omega
theorem own_l_gt (x y : Int64) : ifCond.holds .gt (XT.cmpL x y) = decide (x.toInt > y.toInt) := by
  rw [own_z_gt, own_cmp, decide_eq_decide]; split <;> (try split) <;> omega
theorem own_l_ge (x y : Int64) : ifCond.holds .ge (XT.cmpL x y) = decide (x.toInt ≥ y.toInt) := by
  rw [own_z_ge, own_cmp, decide_eq_decide]; split <;> (try split) <;> omega
theorem own_l_eq (x y : Int64) : ifCond.holds .eq (XT.cmpL x y) = decide (x.toInt = y.toInt) := by
  rw [own_z_eq, own_cmp, decide_eq_decide]; split <;> (try split) <;> omega
theorem own_l_ne (x y : Int64) : ifCond.holds .ne (XT.cmpL x y) = decide (x.toInt ≠ y.toInt) := by
  rw [own_z_ne, own_cmp, decide_eq_decide]; split <;> (try split) <;> omega
/-- a boolean as the int that the machine keeps -/
def own_b (P : Prop) [Decidable P] : Int32 := if P then 1 else 0
theorem own_b1 {P : Prop} [Decidable P] (h : P) : own_b P = 1 := if_pos h
theorem own_b0 {P : Prop} [Decidable P] (h : ¬ P) : own_b P = 0 := if_neg h
theorem own_bi (P : Prop) [Decidable P] : (own_b P).toInt = if P then 1 else 0 := by unfold own_b; split <;> rfl
theorem own_nb {P : Prop} [Decidable P] : nar .boolean (own_b P) = own_b P := by unfold own_b; split <;> rfl
theorem own_nB {x : Int32} : nar .byte (Int8.toInt32 (Int32.toInt8 x)) = Int8.toInt32 (Int32.toInt8 x) := by
  show Int8.toInt32 (Int32.toInt8 (Int8.toInt32 (Int32.toInt8 x))) = _
  simp
end Jvm.RoadKit
namespace Jvm.Pilot.@@N@@
open Jvm Jvm.ClassFile Sem Op Lib Jvm.Free Jvm.Stand Jvm.LawKit Jvm.RoadKit Bundle Jvm.Pilot.@@N@@.Jvm.D

/-! the plain law -/
def own_xs (k : Int32) (z : Int64) : Int64 := z ^^^ XT.ushrL z k
def own_mix (s : Int64) : Int64 := own_xs (31 : Int32) (own_xs (27 : Int32) (own_xs (30 : Int32) s * (-4658895280553007687 : Int64)) * (-7723592293110705685 : Int64))
def own_nw (a x : Int64) : Int64 := x * ((2 : Int64) - a * x)
def own_inv (a : Int64) : Int64 := own_nw a (own_nw a (own_nw a (own_nw a (own_nw a a))))
def own_ux (k j : Int32) (z : Int64) : Int64 := (z ^^^ XT.ushrL z k) ^^^ XT.ushrL z j
def own_un (o : Int64) : Int64 := own_ux (30 : Int32) (60 : Int32) (own_ux (27 : Int32) (54 : Int32) (own_ux (31 : Int32) (62 : Int32) o * own_inv (-7723592293110705685 : Int64)) * own_inv (-4658895280553007687 : Int64))
theorem own_i1 : own_inv (-4658895280553007687 : Int64) * (-4658895280553007687 : Int64) = 1 := by decide +kernel
theorem own_i2 : own_inv (-7723592293110705685 : Int64) * (-7723592293110705685 : Int64) = 1 := by decide +kernel
theorem own_j1 : (-4658895280553007687 : Int64) * own_inv (-4658895280553007687 : Int64) = 1 := by decide +kernel
theorem own_j2 : (-7723592293110705685 : Int64) * own_inv (-7723592293110705685 : Int64) = 1 := by decide +kernel
theorem own_bv (x : BitVec 64) (k : Nat) (hk : 3 * k ≥ 64) : ((x ^^^ x >>> k) ^^^ (x ^^^ x >>> k) >>> k) ^^^ (x ^^^ x >>> k) >>> (2 * k) = x := by
  apply BitVec.eq_of_getLsbD_eq
  intro i hi
  simp only [BitVec.getLsbD_xor, BitVec.getLsbD_ushiftRight]
  have e1 : x.getLsbD (k + (2 * k + i)) = false := BitVec.getLsbD_of_ge _ _ (by omega)
  have e2 : k + (k + i) = 2 * k + i := by omega
  rw [e1, e2]
  cases x.getLsbD i <;> cases x.getLsbD (k + i) <;> cases x.getLsbD (2 * k + i) <;> rfl
theorem own_ul (x : Int64) (y : Int32) : XT.ushrL x y = (x.toUInt64 >>> (y.toInt64.toUInt64 &&& Int64.toUInt64 63)).toInt64 := rfl
theorem own_sh (x : Int64) (y : Int32) (k : Nat) (hk : k < 64) (h : ((y.toInt64.toUInt64 &&& Int64.toUInt64 63)) = UInt64.ofNat k) : (XT.ushrL x y).toBitVec = x.toBitVec >>> k := by
  rw [own_ul, h]
  show (x.toUInt64 >>> UInt64.ofNat k).toBitVec = _
  rw [UInt64.toBitVec_shiftRight]
  show x.toBitVec >>> ((BitVec.ofNat 64 k) % 64) = _
  have e : ((BitVec.ofNat 64 k) % 64).toNat = k := by
    have z : BitVec.toNat (64 : BitVec 64) = 64 := rfl
    simp only [BitVec.toNat_umod, BitVec.toNat_ofNat, z]
    omega
  rw [BitVec.ushiftRight_eq', e]
theorem own_uxs (z : Int64) (y y2 : Int32) (k : Nat) (hk : 3 * k ≥ 64) (hk2 : 2 * k < 64) (h : ((y.toInt64.toUInt64 &&& Int64.toUInt64 63)) = UInt64.ofNat k) (h2 : ((y2.toInt64.toUInt64 &&& Int64.toUInt64 63)) = UInt64.ofNat (2 * k)) : own_ux y y2 (own_xs y z) = z := by
  apply Int64.toBitVec_inj.mp
  unfold own_ux own_xs
  simp only [Int64.toBitVec_xor, own_sh _ y k (by omega) h, own_sh _ y2 (2 * k) hk2 h2]
  exact own_bv _ k hk
theorem own_main (s : Int64) : own_un (own_mix s) = s := by
  unfold own_un own_mix
  rw [own_uxs _ 31 62 31 (by decide) (by decide) (by decide) (by decide), Int64.mul_assoc, own_j2, Int64.mul_one, own_uxs _ 27 54 27 (by decide) (by decide) (by decide) (by decide), Int64.mul_assoc, own_j1, Int64.mul_one, own_uxs _ 30 60 30 (by decide) (by decide) (by decide) (by decide)]

theorem dI_0 : decode prog_23_method_1_code 0 = .ok (.aload_n 0, 1) := by decide +kernel
theorem dI_1 : decode prog_23_method_1_code 1 = .ok (.invokespecial 1, 3) := by decide +kernel
theorem dI_4 : decode prog_23_method_1_code 4 = .ok (.aload_n 0, 1) := by decide +kernel
theorem dI_5 : decode prog_23_method_1_code 5 = .ok (.lload_n 1, 1) := by decide +kernel
theorem dI_6 : decode prog_23_method_1_code 6 = .ok (.putfield 7, 3) := by decide +kernel
theorem dI_9 : decode prog_23_method_1_code 9 = .ok (.return_, 1) := by decide +kernel
theorem pn_I : plainName "com/example/evenspend/evenspend/SplitMix64" = true := by first | (simp [plainName, overriddenIn]; done) | decide +kernel
theorem pd_I : parseMethodDescriptor "(J)V" = some ⟨[.long], none⟩ := by decide +kernel
theorem ef_I (m : MethodId) (a1 : Addr) (p1 : Int64) : entryFrame m #[(.ref a1), (.long p1)] 3 = mkF m 0 #[.val (.ref a1), .val (.long p1), .second] [] := by first | (simp [entryFrame, mkF, argsToLocals, Value.category]; done) | rfl
def QI (Z : State) (a1 : Addr) (p1 : Int64) (h0 : Heap) (n0 : Nat) (v : Option Value) (h : Heap) (L : List Loc) : Prop := v = none ∧ Fr n0 L ∧ Keep h0 h [a1] ∧ (Exa Z h a1 "com/example/evenspend/evenspend/SplitMix64") ∧ (Fld Z h a1 "com/example/evenspend/evenspend/SplitMix64" "state" "J" (.long p1))
set_option maxRecDepth 65536 in
set_option maxHeartbeats 40000000 in
theorem rmI (l : Launch) (Z : State) (a0 : Array Value) (hw : ∀ d ∈ tables_1, d.before a0 Z = true) (ws : List Jvm.Cond) (a1 : Addr) (p1 : Int64) (h0 : Heap) (n0 : Nat) (Z0 : n0 ≤ h0.size) (F : (Fld Z h0 a1 "com/example/evenspend/evenspend/SplitMix64" "state" "J" (.long (0 : Int64)))) (E : (Exa Z h0 a1 "com/example/evenspend/evenspend/SplitMix64")) (g9 : n0 ≤ a1) :
    MetFree l (⟨"com/example/evenspend/evenspend/SplitMix64", "<init>", "(J)V"⟩ : MethodName) (head1 (Jvm.Cond.code (⟨"com/example/evenspend/evenspend/SplitMix64", "<init>", "(J)V"⟩ : MethodName) prog_23_method_1_code 3 none :: ws) ({ frames := 1, cells := 0, slots := 0, locals := 12 } : Room)) (fun a U => a = #[(.ref a1), (.long p1)] ∧ Z.Warmed39 U.vm ∧ U.heap = h0) (fun _ _ _ _ _ => True) (fun _ U o U' => ∃ v L, o = .returned v ∧ QI Z a1 p1 h0 n0 v U'.heap L ∧ FrameEnd U o U' L ({ frames := 1, cells := 0, slots := 0, locals := 12 } : Room).cells ({ frames := 1, cells := 0, slots := 0, locals := 12 } : Room).slots) := by
  refine MetFree.of_bodySF (plainFor_of_name pn_I) hisR ?_
  intro p e s m args below meth c s₁ Bd hml0 hP hK
  obtain ⟨rfl, hZ, hh⟩ := hP
  have hx := Bd.exec
  have hby := Bd.bytes
  have hml : c.maxLocals = 3 := hml0
  have hown : s.vm.findClass "com/example/evenspend/evenspend/SplitMix64" = some m.cls := findClass_of_methodNamed Bd.named
  have hnm := (name_of_methodNamed Bd.named Bd.method).1
  have X0 : Stand p l e ({ frames := 1, cells := 0, slots := 0, locals := 12 } : Room) s m #[(.ref a1), (.long p1)] below meth c s₁ [] 0 0 := Stand.of_body Bd
  have e0 : s₁.heap = h0 := by rw [← hh, Bd.state]; rfl
  have N0 := Fr.nil n0
  show own_Go p.tables e below (fun t o => ∃ v L, o = .returned v ∧ QI Z a1 p1 h0 n0 v t.heap L ∧ FrameEnd s o t L ({ frames := 1, cells := 0, slots := 0, locals := 12 } : Room).cells ({ frames := 1, cells := 0, slots := 0, locals := 12 } : Room).slots) (s₁.setTop (entryFrame m #[(.ref a1), (.long p1)] 3))
  rw [ef_I]
  show own_Go p.tables e below _ (s₁.setTop (mkF m 0 #[.val (.ref a1), .val (.long p1), .second] []))
  refine own_st (S' := s₁.setTop (mkF m 1 #[.val (.ref a1), .val (.long p1), .second] [(.ref a1)])) (fun _ k => XS.aloadN X0.here hx rfl (hb hby dI_0) rfl rfl k) ?_
  obtain ⟨T101, X101, e101, st101⟩ := initO X0 hx hZ hown (hw _ (List.mem_of_getElem? (i := 6) rfl)) (hw _ (List.mem_of_getElem? (i := 7) rfl)) (hw _ (List.mem_of_getElem? (i := 8) rfl)) e0 (g := (mkF m 1 #[.val (.ref a1), .val (.long p1), .second] [(.ref a1)])) rfl (by rw [hml]; rfl) rfl (hb hby dI_1) (by decide) (W := 0) (by show 2 * 0 + _ ≤ _; exact Nat.le_of_eq rfl) (by decide)
  refine own_st (S' := T101.setTop (mkF m 4 #[.val (.ref a1), .val (.long p1), .second] [])) st101 ?_
  refine own_st (S' := T101.setTop (mkF m 5 #[.val (.ref a1), .val (.long p1), .second] [(.ref a1)])) (fun _ k => XS.aloadN X101.here hx rfl (hb hby dI_4) rfl rfl k) ?_
  refine own_st (S' := T101.setTop (mkF m 6 #[.val (.ref a1), .val (.long p1), .second] [(.long p1), (.ref a1)])) (fun _ k => XT.lloadN X101.here hx rfl (hb hby dI_5) rfl k) ?_
  obtain ⟨T102, h102, X102, e102, W102, st102⟩ := putF X101 hx hZ hown (host := "") (Or.inl (hw _ (List.mem_of_getElem? (i := 9) rfl))) Via.refl e101 F E (Or.inl (hw _ (List.mem_of_getElem? (i := 10) rfl))) (hw _ (List.mem_of_getElem? (i := 1) rfl)) (ty := .long) (by decide) rfl rfl (g := (mkF m 6 #[.val (.ref a1), .val (.long p1), .second] [(.long p1), (.ref a1)])) rfl rfl (hb hby dI_6)
  refine own_st (S' := T102.setTop (mkF m 9 #[.val (.ref a1), .val (.long p1), .second] [])) st102 ?_
  refine own_end X102 (Q := (QI Z a1 p1 h0 n0)) none Bd.notSynchronized (fun _ => rfl) (fun fs hr => X102.returnOut hx Bd.returns (hb hby dI_9) hr) ?_ (by decide) (by decide)
  rw [e102]
  exact ⟨rfl, Fr.snoc X102 N0 g9, ((Keep.refl _ _).wr W102 (Or.inl (List.mem_of_getElem? (i := 0) rfl))), E.wr W102, F.same W102⟩
theorem dN_0 : decode prog_23_method_3_code 0 = .ok (.aload_n 0, 1) := by decide +kernel
theorem dN_1 : decode prog_23_method_3_code 1 = .ok (.dup, 1) := by decide +kernel
theorem dN_2 : decode prog_23_method_3_code 2 = .ok (.getfield 7, 3) := by decide +kernel
theorem dN_5 : decode prog_23_method_3_code 5 = .ok (.ldc2_w 13, 3) := by decide +kernel
theorem dN_8 : decode prog_23_method_3_code 8 = .ok (.ladd, 1) := by decide +kernel
theorem dN_9 : decode prog_23_method_3_code 9 = .ok (.putfield 7, 3) := by decide +kernel
theorem dN_12 : decode prog_23_method_3_code 12 = .ok (.aload_n 0, 1) := by decide +kernel
theorem dN_13 : decode prog_23_method_3_code 13 = .ok (.getfield 7, 3) := by decide +kernel
theorem dN_16 : decode prog_23_method_3_code 16 = .ok (.lstore_n 1, 1) := by decide +kernel
theorem dN_17 : decode prog_23_method_3_code 17 = .ok (.lload_n 1, 1) := by decide +kernel
theorem dN_18 : decode prog_23_method_3_code 18 = .ok (.lload_n 1, 1) := by decide +kernel
theorem dN_19 : decode prog_23_method_3_code 19 = .ok (.bipush 30, 2) := by decide +kernel
theorem dN_21 : decode prog_23_method_3_code 21 = .ok (.lushr, 1) := by decide +kernel
theorem dN_22 : decode prog_23_method_3_code 22 = .ok (.lxor, 1) := by decide +kernel
theorem dN_23 : decode prog_23_method_3_code 23 = .ok (.ldc2_w 15, 3) := by decide +kernel
theorem dN_26 : decode prog_23_method_3_code 26 = .ok (.lmul, 1) := by decide +kernel
theorem dN_27 : decode prog_23_method_3_code 27 = .ok (.lstore_n 1, 1) := by decide +kernel
theorem dN_28 : decode prog_23_method_3_code 28 = .ok (.lload_n 1, 1) := by decide +kernel
theorem dN_29 : decode prog_23_method_3_code 29 = .ok (.lload_n 1, 1) := by decide +kernel
theorem dN_30 : decode prog_23_method_3_code 30 = .ok (.bipush 27, 2) := by decide +kernel
theorem dN_32 : decode prog_23_method_3_code 32 = .ok (.lushr, 1) := by decide +kernel
theorem dN_33 : decode prog_23_method_3_code 33 = .ok (.lxor, 1) := by decide +kernel
theorem dN_34 : decode prog_23_method_3_code 34 = .ok (.ldc2_w 17, 3) := by decide +kernel
theorem dN_37 : decode prog_23_method_3_code 37 = .ok (.lmul, 1) := by decide +kernel
theorem dN_38 : decode prog_23_method_3_code 38 = .ok (.lstore_n 1, 1) := by decide +kernel
theorem dN_39 : decode prog_23_method_3_code 39 = .ok (.lload_n 1, 1) := by decide +kernel
theorem dN_40 : decode prog_23_method_3_code 40 = .ok (.lload_n 1, 1) := by decide +kernel
theorem dN_41 : decode prog_23_method_3_code 41 = .ok (.bipush 31, 2) := by decide +kernel
theorem dN_43 : decode prog_23_method_3_code 43 = .ok (.lushr, 1) := by decide +kernel
theorem dN_44 : decode prog_23_method_3_code 44 = .ok (.lxor, 1) := by decide +kernel
theorem dN_45 : decode prog_23_method_3_code 45 = .ok (.lreturn, 1) := by decide +kernel
theorem pn_N : plainName "com/example/evenspend/evenspend/SplitMix64" = true := by first | (simp [plainName, overriddenIn]; done) | decide +kernel
theorem pd_N : parseMethodDescriptor "()J" = some ⟨[], some .long⟩ := by decide +kernel
theorem ef_N (m : MethodId) (a1 : Addr) : entryFrame m #[(.ref a1)] 3 = mkF m 0 #[.val (.ref a1), .unset, .unset] [] := by first | (simp [entryFrame, mkF, argsToLocals, Value.category]; done) | rfl
def QN (Z : State) (a1 : Addr) (x : Int64) (h0 : Heap) (n0 : Nat) (v : Option Value) (h : Heap) (L : List Loc) : Prop := v = some (.long (own_mix (x + (-7046029254386353131 : Int64)))) ∧ Fr n0 L ∧ Keep h0 h [a1] ∧ (Exa Z h a1 "com/example/evenspend/evenspend/SplitMix64") ∧ (Fld Z h a1 "com/example/evenspend/evenspend/SplitMix64" "state" "J" (.long (x + (-7046029254386353131 : Int64))))
set_option maxRecDepth 65536 in
set_option maxHeartbeats 40000000 in
theorem rmN (l : Launch) (Z : State) (a0 : Array Value) (hw : ∀ d ∈ tables_1, d.before a0 Z = true) (ws : List Jvm.Cond) (a1 : Addr) (x : Int64) (h0 : Heap) (n0 : Nat) (Z0 : n0 ≤ h0.size) (F : (Fld Z h0 a1 "com/example/evenspend/evenspend/SplitMix64" "state" "J" (.long x))) (E : (Exa Z h0 a1 "com/example/evenspend/evenspend/SplitMix64")) (g9 : n0 ≤ a1) :
    MetFree l (⟨"com/example/evenspend/evenspend/SplitMix64", "nextLong", "()J"⟩ : MethodName) (head1 (Jvm.Cond.code (⟨"com/example/evenspend/evenspend/SplitMix64", "nextLong", "()J"⟩ : MethodName) prog_23_method_3_code 3 (some .long) :: ws) ({ frames := 0, cells := 0, slots := 0, locals := 0 } : Room)) (fun a U => a = #[(.ref a1)] ∧ Z.Warmed39 U.vm ∧ U.heap = h0) (fun _ _ _ _ _ => True) (fun _ U o U' => ∃ v L, o = .returned v ∧ QN Z a1 x h0 n0 v U'.heap L ∧ FrameEnd U o U' L ({ frames := 0, cells := 0, slots := 0, locals := 0 } : Room).cells ({ frames := 0, cells := 0, slots := 0, locals := 0 } : Room).slots) := by
  refine MetFree.of_bodySF (plainFor_of_name pn_N) hisR ?_
  intro p e s m args below meth c s₁ Bd hml0 hP hK
  obtain ⟨rfl, hZ, hh⟩ := hP
  have hx := Bd.exec
  have hby := Bd.bytes
  have hml : c.maxLocals = 3 := hml0
  have hown : s.vm.findClass "com/example/evenspend/evenspend/SplitMix64" = some m.cls := findClass_of_methodNamed Bd.named
  have hnm := (name_of_methodNamed Bd.named Bd.method).1
  have X0 : Stand p l e ({ frames := 0, cells := 0, slots := 0, locals := 0 } : Room) s m #[(.ref a1)] below meth c s₁ [] 0 0 := Stand.of_body Bd
  have e0 : s₁.heap = h0 := by rw [← hh, Bd.state]; rfl
  have N0 := Fr.nil n0
  show own_Go p.tables e below (fun t o => ∃ v L, o = .returned v ∧ QN Z a1 x h0 n0 v t.heap L ∧ FrameEnd s o t L ({ frames := 0, cells := 0, slots := 0, locals := 0 } : Room).cells ({ frames := 0, cells := 0, slots := 0, locals := 0 } : Room).slots) (s₁.setTop (entryFrame m #[(.ref a1)] 3))
  rw [ef_N]
  show own_Go p.tables e below _ (s₁.setTop (mkF m 0 #[.val (.ref a1), .unset, .unset] []))
  refine own_st (S' := s₁.setTop (mkF m 1 #[.val (.ref a1), .unset, .unset] [(.ref a1)])) (fun _ k => XS.aloadN X0.here hx rfl (hb hby dN_0) rfl rfl k) ?_
  refine own_st (S' := s₁.setTop (mkF m 2 #[.val (.ref a1), .unset, .unset] [(.ref a1), (.ref a1)])) (fun _ k => XS.dup X0.here hx rfl (hb hby dN_1) rfl rfl k) ?_
  obtain ⟨T101, X101, e101, st101⟩ := getF X0 hx hZ hown (host := "") (Or.inl (hw _ (List.mem_of_getElem? (i := 9) rfl))) Via.refl e0 F (g := (mkF m 2 #[.val (.ref a1), .unset, .unset] [(.ref a1), (.ref a1)])) rfl rfl (hb hby dN_2)
  refine own_st (S' := T101.setTop (mkF m 5 #[.val (.ref a1), .unset, .unset] [(.long x), (.ref a1)])) st101 ?_
  refine own_st (S' := T101.setTop (mkF m 8 #[.val (.ref a1), .unset, .unset] [(.long (-7046029254386353131 : Int64)), (.long x), (.ref a1)])) (fun _ k => X101.ldc2J hx hown (mvT hZ (hw _ (List.mem_of_getElem? (i := 16) rfl))) rfl (hb hby dN_5) k) ?_
  refine own_st (S' := T101.setTop (mkF m 9 #[.val (.ref a1), .unset, .unset] [(.long (x + (-7046029254386353131 : Int64))), (.ref a1)])) (fun _ k => XT.ladd X101.here hx rfl (hb hby dN_8) rfl k) ?_
  obtain ⟨T102, h102, X102, e102, W102, st102⟩ := putF X101 hx hZ hown (host := "") (Or.inl (hw _ (List.mem_of_getElem? (i := 9) rfl))) Via.refl e101 F E (Or.inl (hw _ (List.mem_of_getElem? (i := 10) rfl))) (hw _ (List.mem_of_getElem? (i := 1) rfl)) (ty := .long) (by decide) rfl rfl (g := (mkF m 9 #[.val (.ref a1), .unset, .unset] [(.long (x + (-7046029254386353131 : Int64))), (.ref a1)])) rfl rfl (hb hby dN_9)
  refine own_st (S' := T102.setTop (mkF m 12 #[.val (.ref a1), .unset, .unset] [])) st102 ?_
  have F102 : (Fld Z h102 a1 "com/example/evenspend/evenspend/SplitMix64" "state" "J" (.long (x + (-7046029254386353131 : Int64)))) := F.same W102
  refine own_st (S' := T102.setTop (mkF m 13 #[.val (.ref a1), .unset, .unset] [(.ref a1)])) (fun _ k => XS.aloadN X102.here hx rfl (hb hby dN_12) rfl rfl k) ?_
  obtain ⟨T103, X103, e103, st103⟩ := getF X102 hx hZ hown (host := "") (Or.inl (hw _ (List.mem_of_getElem? (i := 9) rfl))) Via.refl e102 F102 (g := (mkF m 13 #[.val (.ref a1), .unset, .unset] [(.ref a1)])) rfl rfl (hb hby dN_13)
  refine own_st (S' := T103.setTop (mkF m 16 #[.val (.ref a1), .unset, .unset] [(.long (x + (-7046029254386353131 : Int64)))])) st103 ?_
  obtain ⟨s1, hv_s1⟩ : ∃ z : Int64, z = (x + (-7046029254386353131 : Int64)) := ⟨_, rfl⟩
  refine own_cv (congrArg (fun z => T103.setTop (mkF m 16 #[.val (.ref a1), .unset, .unset] [(.long z)])) hv_s1.symm) ?_
  show own_Go p.tables e below _ (T103.setTop (mkF m 16 #[.val (.ref a1), .unset, .unset] [(.long s1)]))
  refine own_st (S' := T103.setTop (mkF m 17 #[.val (.ref a1), .val (.long s1), .second] [])) (fun _ k => XT.lstoreN X103.here hx rfl (hb hby dN_16) rfl (l' := #[.val (.ref a1), .val (.long s1), .second]) rfl k) ?_
  refine own_st (S' := T103.setTop (mkF m 18 #[.val (.ref a1), .val (.long s1), .second] [(.long s1)])) (fun _ k => XT.lloadN X103.here hx rfl (hb hby dN_17) rfl k) ?_
  refine own_st (S' := T103.setTop (mkF m 19 #[.val (.ref a1), .val (.long s1), .second] [(.long s1), (.long s1)])) (fun _ k => XT.lloadN X103.here hx rfl (hb hby dN_18) rfl k) ?_
  refine own_st (S' := T103.setTop (mkF m 21 #[.val (.ref a1), .val (.long s1), .second] [(.int (30 : Int32)), (.long s1), (.long s1)])) (fun _ k => XS.bipush X103.here hx rfl (hb hby dN_19) k) ?_
  refine own_st (S' := T103.setTop (mkF m 22 #[.val (.ref a1), .val (.long s1), .second] [(.long (XT.ushrL s1 (30 : Int32))), (.long s1)])) (fun _ k => XT.lushr X103.here hx rfl (hb hby dN_21) rfl k) ?_
  refine own_st (S' := T103.setTop (mkF m 23 #[.val (.ref a1), .val (.long s1), .second] [(.long (s1 ^^^ (XT.ushrL s1 (30 : Int32))))])) (fun _ k => XT.lxor X103.here hx rfl (hb hby dN_22) rfl k) ?_
  refine own_st (S' := T103.setTop (mkF m 26 #[.val (.ref a1), .val (.long s1), .second] [(.long (-4658895280553007687 : Int64)), (.long (s1 ^^^ (XT.ushrL s1 (30 : Int32))))])) (fun _ k => X103.ldc2J hx hown (mvT hZ (hw _ (List.mem_of_getElem? (i := 17) rfl))) rfl (hb hby dN_23) k) ?_
  refine own_st (S' := T103.setTop (mkF m 27 #[.val (.ref a1), .val (.long s1), .second] [(.long ((s1 ^^^ (XT.ushrL s1 (30 : Int32))) * (-4658895280553007687 : Int64)))])) (fun _ k => XT.lmul X103.here hx rfl (hb hby dN_26) rfl k) ?_
  have tq104 : ((s1 ^^^ (XT.ushrL s1 (30 : Int32))) * (-4658895280553007687 : Int64)) = (own_xs (30 : Int32) s1 * (-4658895280553007687 : Int64)) := rfl
  refine own_cv (congrArg (fun z => T103.setTop (mkF m 27 #[.val (.ref a1), .val (.long s1), .second] [(.long z)])) tq104) ?_
  show own_Go p.tables e below _ (T103.setTop (mkF m 27 #[.val (.ref a1), .val (.long s1), .second] [(.long (own_xs (30 : Int32) s1 * (-4658895280553007687 : Int64)))]))
  refine own_st (S' := T103.setTop (mkF m 28 #[.val (.ref a1), .val (.long (own_xs (30 : Int32) s1 * (-4658895280553007687 : Int64))), .second] [])) (fun _ k => XT.lstoreN X103.here hx rfl (hb hby dN_27) rfl (l' := #[.val (.ref a1), .val (.long (own_xs (30 : Int32) s1 * (-4658895280553007687 : Int64))), .second]) rfl k) ?_
  refine own_st (S' := T103.setTop (mkF m 29 #[.val (.ref a1), .val (.long (own_xs (30 : Int32) s1 * (-4658895280553007687 : Int64))), .second] [(.long (own_xs (30 : Int32) s1 * (-4658895280553007687 : Int64)))])) (fun _ k => XT.lloadN X103.here hx rfl (hb hby dN_28) rfl k) ?_
  refine own_st (S' := T103.setTop (mkF m 30 #[.val (.ref a1), .val (.long (own_xs (30 : Int32) s1 * (-4658895280553007687 : Int64))), .second] [(.long (own_xs (30 : Int32) s1 * (-4658895280553007687 : Int64))), (.long (own_xs (30 : Int32) s1 * (-4658895280553007687 : Int64)))])) (fun _ k => XT.lloadN X103.here hx rfl (hb hby dN_29) rfl k) ?_
  refine own_st (S' := T103.setTop (mkF m 32 #[.val (.ref a1), .val (.long (own_xs (30 : Int32) s1 * (-4658895280553007687 : Int64))), .second] [(.int (27 : Int32)), (.long (own_xs (30 : Int32) s1 * (-4658895280553007687 : Int64))), (.long (own_xs (30 : Int32) s1 * (-4658895280553007687 : Int64)))])) (fun _ k => XS.bipush X103.here hx rfl (hb hby dN_30) k) ?_
  refine own_st (S' := T103.setTop (mkF m 33 #[.val (.ref a1), .val (.long (own_xs (30 : Int32) s1 * (-4658895280553007687 : Int64))), .second] [(.long (XT.ushrL (own_xs (30 : Int32) s1 * (-4658895280553007687 : Int64)) (27 : Int32))), (.long (own_xs (30 : Int32) s1 * (-4658895280553007687 : Int64)))])) (fun _ k => XT.lushr X103.here hx rfl (hb hby dN_32) rfl k) ?_
  refine own_st (S' := T103.setTop (mkF m 34 #[.val (.ref a1), .val (.long (own_xs (30 : Int32) s1 * (-4658895280553007687 : Int64))), .second] [(.long ((own_xs (30 : Int32) s1 * (-4658895280553007687 : Int64)) ^^^ (XT.ushrL (own_xs (30 : Int32) s1 * (-4658895280553007687 : Int64)) (27 : Int32))))])) (fun _ k => XT.lxor X103.here hx rfl (hb hby dN_33) rfl k) ?_
  refine own_st (S' := T103.setTop (mkF m 37 #[.val (.ref a1), .val (.long (own_xs (30 : Int32) s1 * (-4658895280553007687 : Int64))), .second] [(.long (-7723592293110705685 : Int64)), (.long ((own_xs (30 : Int32) s1 * (-4658895280553007687 : Int64)) ^^^ (XT.ushrL (own_xs (30 : Int32) s1 * (-4658895280553007687 : Int64)) (27 : Int32))))])) (fun _ k => X103.ldc2J hx hown (mvT hZ (hw _ (List.mem_of_getElem? (i := 18) rfl))) rfl (hb hby dN_34) k) ?_
  refine own_st (S' := T103.setTop (mkF m 38 #[.val (.ref a1), .val (.long (own_xs (30 : Int32) s1 * (-4658895280553007687 : Int64))), .second] [(.long (((own_xs (30 : Int32) s1 * (-4658895280553007687 : Int64)) ^^^ (XT.ushrL (own_xs (30 : Int32) s1 * (-4658895280553007687 : Int64)) (27 : Int32))) * (-7723592293110705685 : Int64)))])) (fun _ k => XT.lmul X103.here hx rfl (hb hby dN_37) rfl k) ?_
  have tq105 : (((own_xs (30 : Int32) s1 * (-4658895280553007687 : Int64)) ^^^ (XT.ushrL (own_xs (30 : Int32) s1 * (-4658895280553007687 : Int64)) (27 : Int32))) * (-7723592293110705685 : Int64)) = (own_xs (27 : Int32) (own_xs (30 : Int32) s1 * (-4658895280553007687 : Int64)) * (-7723592293110705685 : Int64)) := rfl
  refine own_cv (congrArg (fun z => T103.setTop (mkF m 38 #[.val (.ref a1), .val (.long (own_xs (30 : Int32) s1 * (-4658895280553007687 : Int64))), .second] [(.long z)])) tq105) ?_
  show own_Go p.tables e below _ (T103.setTop (mkF m 38 #[.val (.ref a1), .val (.long (own_xs (30 : Int32) s1 * (-4658895280553007687 : Int64))), .second] [(.long (own_xs (27 : Int32) (own_xs (30 : Int32) s1 * (-4658895280553007687 : Int64)) * (-7723592293110705685 : Int64)))]))
  refine own_st (S' := T103.setTop (mkF m 39 #[.val (.ref a1), .val (.long (own_xs (27 : Int32) (own_xs (30 : Int32) s1 * (-4658895280553007687 : Int64)) * (-7723592293110705685 : Int64))), .second] [])) (fun _ k => XT.lstoreN X103.here hx rfl (hb hby dN_38) rfl (l' := #[.val (.ref a1), .val (.long (own_xs (27 : Int32) (own_xs (30 : Int32) s1 * (-4658895280553007687 : Int64)) * (-7723592293110705685 : Int64))), .second]) rfl k) ?_
  refine own_st (S' := T103.setTop (mkF m 40 #[.val (.ref a1), .val (.long (own_xs (27 : Int32) (own_xs (30 : Int32) s1 * (-4658895280553007687 : Int64)) * (-7723592293110705685 : Int64))), .second] [(.long (own_xs (27 : Int32) (own_xs (30 : Int32) s1 * (-4658895280553007687 : Int64)) * (-7723592293110705685 : Int64)))])) (fun _ k => XT.lloadN X103.here hx rfl (hb hby dN_39) rfl k) ?_
  refine own_st (S' := T103.setTop (mkF m 41 #[.val (.ref a1), .val (.long (own_xs (27 : Int32) (own_xs (30 : Int32) s1 * (-4658895280553007687 : Int64)) * (-7723592293110705685 : Int64))), .second] [(.long (own_xs (27 : Int32) (own_xs (30 : Int32) s1 * (-4658895280553007687 : Int64)) * (-7723592293110705685 : Int64))), (.long (own_xs (27 : Int32) (own_xs (30 : Int32) s1 * (-4658895280553007687 : Int64)) * (-7723592293110705685 : Int64)))])) (fun _ k => XT.lloadN X103.here hx rfl (hb hby dN_40) rfl k) ?_
  refine own_st (S' := T103.setTop (mkF m 43 #[.val (.ref a1), .val (.long (own_xs (27 : Int32) (own_xs (30 : Int32) s1 * (-4658895280553007687 : Int64)) * (-7723592293110705685 : Int64))), .second] [(.int (31 : Int32)), (.long (own_xs (27 : Int32) (own_xs (30 : Int32) s1 * (-4658895280553007687 : Int64)) * (-7723592293110705685 : Int64))), (.long (own_xs (27 : Int32) (own_xs (30 : Int32) s1 * (-4658895280553007687 : Int64)) * (-7723592293110705685 : Int64)))])) (fun _ k => XS.bipush X103.here hx rfl (hb hby dN_41) k) ?_
  refine own_st (S' := T103.setTop (mkF m 44 #[.val (.ref a1), .val (.long (own_xs (27 : Int32) (own_xs (30 : Int32) s1 * (-4658895280553007687 : Int64)) * (-7723592293110705685 : Int64))), .second] [(.long (XT.ushrL (own_xs (27 : Int32) (own_xs (30 : Int32) s1 * (-4658895280553007687 : Int64)) * (-7723592293110705685 : Int64)) (31 : Int32))), (.long (own_xs (27 : Int32) (own_xs (30 : Int32) s1 * (-4658895280553007687 : Int64)) * (-7723592293110705685 : Int64)))])) (fun _ k => XT.lushr X103.here hx rfl (hb hby dN_43) rfl k) ?_
  refine own_st (S' := T103.setTop (mkF m 45 #[.val (.ref a1), .val (.long (own_xs (27 : Int32) (own_xs (30 : Int32) s1 * (-4658895280553007687 : Int64)) * (-7723592293110705685 : Int64))), .second] [(.long ((own_xs (27 : Int32) (own_xs (30 : Int32) s1 * (-4658895280553007687 : Int64)) * (-7723592293110705685 : Int64)) ^^^ (XT.ushrL (own_xs (27 : Int32) (own_xs (30 : Int32) s1 * (-4658895280553007687 : Int64)) * (-7723592293110705685 : Int64)) (31 : Int32))))])) (fun _ k => XT.lxor X103.here hx rfl (hb hby dN_44) rfl k) ?_
  have tq106 : ((own_xs (27 : Int32) (own_xs (30 : Int32) s1 * (-4658895280553007687 : Int64)) * (-7723592293110705685 : Int64)) ^^^ (XT.ushrL (own_xs (27 : Int32) (own_xs (30 : Int32) s1 * (-4658895280553007687 : Int64)) * (-7723592293110705685 : Int64)) (31 : Int32))) = (own_mix (x + (-7046029254386353131 : Int64))) := by rw [hv_s1]; rfl
  refine own_cv (congrArg (fun z => T103.setTop (mkF m 45 #[.val (.ref a1), .val (.long (own_xs (27 : Int32) (own_xs (30 : Int32) s1 * (-4658895280553007687 : Int64)) * (-7723592293110705685 : Int64))), .second] [(.long z)])) tq106) ?_
  show own_Go p.tables e below _ (T103.setTop (mkF m 45 #[.val (.ref a1), .val (.long (own_xs (27 : Int32) (own_xs (30 : Int32) s1 * (-4658895280553007687 : Int64)) * (-7723592293110705685 : Int64))), .second] [(.long (own_mix (x + (-7046029254386353131 : Int64))))]))
  refine own_end X103 (Q := (QN Z a1 x h0 n0)) (some (.long (own_mix (x + (-7046029254386353131 : Int64))))) Bd.notSynchronized (fun h => by rw [Bd.returns] at h; cases h) (fun fs hr => X103.lreturnOut hx Bd.returns (hb hby dN_45) hr) ?_ (by decide) (by decide)
  rw [e103]
  exact ⟨rfl, Fr.snoc X102 N0 g9, ((Keep.refl _ _).wr W102 (Or.inl (List.mem_of_getElem? (i := 0) rfl))), E.wr W102, F102⟩
theorem dS_0 : decode prog_23_method_2_code 0 = .ok (.aload_n 0, 1) := by decide +kernel
theorem dS_1 : decode prog_23_method_2_code 1 = .ok (.getfield 7, 3) := by decide +kernel
theorem dS_4 : decode prog_23_method_2_code 4 = .ok (.lreturn, 1) := by decide +kernel
theorem pn_S : plainName "com/example/evenspend/evenspend/SplitMix64" = true := by first | (simp [plainName, overriddenIn]; done) | decide +kernel
theorem pd_S : parseMethodDescriptor "()J" = some ⟨[], some .long⟩ := by decide +kernel
theorem ef_S (m : MethodId) (a1 : Addr) : entryFrame m #[(.ref a1)] 1 = mkF m 0 #[.val (.ref a1)] [] := by first | (simp [entryFrame, mkF, argsToLocals, Value.category]; done) | rfl
def QS (Z : State) (a1 : Addr) (x : Int64) (h0 : Heap) (n0 : Nat) (v : Option Value) (h : Heap) (L : List Loc) : Prop := v = some (.long x) ∧ Fr n0 L ∧ h = h0
set_option maxRecDepth 65536 in
set_option maxHeartbeats 40000000 in
theorem rmS (l : Launch) (Z : State) (a0 : Array Value) (hw : ∀ d ∈ tables_1, d.before a0 Z = true) (ws : List Jvm.Cond) (a1 : Addr) (x : Int64) (h0 : Heap) (n0 : Nat) (Z0 : n0 ≤ h0.size) (F : (Fld Z h0 a1 "com/example/evenspend/evenspend/SplitMix64" "state" "J" (.long x))) :
    MetFree l (⟨"com/example/evenspend/evenspend/SplitMix64", "state", "()J"⟩ : MethodName) (head1 (Jvm.Cond.code (⟨"com/example/evenspend/evenspend/SplitMix64", "state", "()J"⟩ : MethodName) prog_23_method_2_code 1 (some .long) :: ws) ({ frames := 0, cells := 0, slots := 0, locals := 0 } : Room)) (fun a U => a = #[(.ref a1)] ∧ Z.Warmed39 U.vm ∧ U.heap = h0) (fun _ _ _ _ _ => True) (fun _ U o U' => ∃ v L, o = .returned v ∧ QS Z a1 x h0 n0 v U'.heap L ∧ FrameEnd U o U' L ({ frames := 0, cells := 0, slots := 0, locals := 0 } : Room).cells ({ frames := 0, cells := 0, slots := 0, locals := 0 } : Room).slots) := by
  refine MetFree.of_bodySF (plainFor_of_name pn_S) hisR ?_
  intro p e s m args below meth c s₁ Bd hml0 hP hK
  obtain ⟨rfl, hZ, hh⟩ := hP
  have hx := Bd.exec
  have hby := Bd.bytes
  have hml : c.maxLocals = 1 := hml0
  have hown : s.vm.findClass "com/example/evenspend/evenspend/SplitMix64" = some m.cls := findClass_of_methodNamed Bd.named
  have hnm := (name_of_methodNamed Bd.named Bd.method).1
  have X0 : Stand p l e ({ frames := 0, cells := 0, slots := 0, locals := 0 } : Room) s m #[(.ref a1)] below meth c s₁ [] 0 0 := Stand.of_body Bd
  have e0 : s₁.heap = h0 := by rw [← hh, Bd.state]; rfl
  have N0 := Fr.nil n0
  show own_Go p.tables e below (fun t o => ∃ v L, o = .returned v ∧ QS Z a1 x h0 n0 v t.heap L ∧ FrameEnd s o t L ({ frames := 0, cells := 0, slots := 0, locals := 0 } : Room).cells ({ frames := 0, cells := 0, slots := 0, locals := 0 } : Room).slots) (s₁.setTop (entryFrame m #[(.ref a1)] 1))
  rw [ef_S]
  show own_Go p.tables e below _ (s₁.setTop (mkF m 0 #[.val (.ref a1)] []))
  refine own_st (S' := s₁.setTop (mkF m 1 #[.val (.ref a1)] [(.ref a1)])) (fun _ k => XS.aloadN X0.here hx rfl (hb hby dS_0) rfl rfl k) ?_
  obtain ⟨T101, X101, e101, st101⟩ := getF X0 hx hZ hown (host := "") (Or.inl (hw _ (List.mem_of_getElem? (i := 9) rfl))) Via.refl e0 F (g := (mkF m 1 #[.val (.ref a1)] [(.ref a1)])) rfl rfl (hb hby dS_1)
  refine own_st (S' := T101.setTop (mkF m 4 #[.val (.ref a1)] [(.long x)])) st101 ?_
  refine own_end X101 (Q := (QS Z a1 x h0 n0)) (some (.long x)) Bd.notSynchronized (fun h => by rw [Bd.returns] at h; cases h) (fun fs hr => X101.lreturnOut hx Bd.returns (hb hby dS_4) hr) ?_ (by decide) (by decide)
  rw [e101]
  exact ⟨rfl, N0, rfl⟩
theorem dV_0 : decode method_2_code 0 = .ok (.lload_n 0, 1) := by decide +kernel
theorem dV_1 : decode method_2_code 1 = .ok (.lstore_n 2, 1) := by decide +kernel
theorem dV_2 : decode method_2_code 2 = .ok (.lload_n 2, 1) := by decide +kernel
theorem dV_3 : decode method_2_code 3 = .ok (.ldc2_w 7, 3) := by decide +kernel
theorem dV_6 : decode method_2_code 6 = .ok (.lload_n 0, 1) := by decide +kernel
theorem dV_7 : decode method_2_code 7 = .ok (.lload_n 2, 1) := by decide +kernel
theorem dV_8 : decode method_2_code 8 = .ok (.lmul, 1) := by decide +kernel
theorem dV_9 : decode method_2_code 9 = .ok (.lsub, 1) := by decide +kernel
theorem dV_10 : decode method_2_code 10 = .ok (.lmul, 1) := by decide +kernel
theorem dV_11 : decode method_2_code 11 = .ok (.lstore_n 2, 1) := by decide +kernel
theorem dV_12 : decode method_2_code 12 = .ok (.lload_n 2, 1) := by decide +kernel
theorem dV_13 : decode method_2_code 13 = .ok (.ldc2_w 7, 3) := by decide +kernel
theorem dV_16 : decode method_2_code 16 = .ok (.lload_n 0, 1) := by decide +kernel
theorem dV_17 : decode method_2_code 17 = .ok (.lload_n 2, 1) := by decide +kernel
theorem dV_18 : decode method_2_code 18 = .ok (.lmul, 1) := by decide +kernel
theorem dV_19 : decode method_2_code 19 = .ok (.lsub, 1) := by decide +kernel
theorem dV_20 : decode method_2_code 20 = .ok (.lmul, 1) := by decide +kernel
theorem dV_21 : decode method_2_code 21 = .ok (.lstore_n 2, 1) := by decide +kernel
theorem dV_22 : decode method_2_code 22 = .ok (.lload_n 2, 1) := by decide +kernel
theorem dV_23 : decode method_2_code 23 = .ok (.ldc2_w 7, 3) := by decide +kernel
theorem dV_26 : decode method_2_code 26 = .ok (.lload_n 0, 1) := by decide +kernel
theorem dV_27 : decode method_2_code 27 = .ok (.lload_n 2, 1) := by decide +kernel
theorem dV_28 : decode method_2_code 28 = .ok (.lmul, 1) := by decide +kernel
theorem dV_29 : decode method_2_code 29 = .ok (.lsub, 1) := by decide +kernel
theorem dV_30 : decode method_2_code 30 = .ok (.lmul, 1) := by decide +kernel
theorem dV_31 : decode method_2_code 31 = .ok (.lstore_n 2, 1) := by decide +kernel
theorem dV_32 : decode method_2_code 32 = .ok (.lload_n 2, 1) := by decide +kernel
theorem dV_33 : decode method_2_code 33 = .ok (.ldc2_w 7, 3) := by decide +kernel
theorem dV_36 : decode method_2_code 36 = .ok (.lload_n 0, 1) := by decide +kernel
theorem dV_37 : decode method_2_code 37 = .ok (.lload_n 2, 1) := by decide +kernel
theorem dV_38 : decode method_2_code 38 = .ok (.lmul, 1) := by decide +kernel
theorem dV_39 : decode method_2_code 39 = .ok (.lsub, 1) := by decide +kernel
theorem dV_40 : decode method_2_code 40 = .ok (.lmul, 1) := by decide +kernel
theorem dV_41 : decode method_2_code 41 = .ok (.lstore_n 2, 1) := by decide +kernel
theorem dV_42 : decode method_2_code 42 = .ok (.lload_n 2, 1) := by decide +kernel
theorem dV_43 : decode method_2_code 43 = .ok (.ldc2_w 7, 3) := by decide +kernel
theorem dV_46 : decode method_2_code 46 = .ok (.lload_n 0, 1) := by decide +kernel
theorem dV_47 : decode method_2_code 47 = .ok (.lload_n 2, 1) := by decide +kernel
theorem dV_48 : decode method_2_code 48 = .ok (.lmul, 1) := by decide +kernel
theorem dV_49 : decode method_2_code 49 = .ok (.lsub, 1) := by decide +kernel
theorem dV_50 : decode method_2_code 50 = .ok (.lmul, 1) := by decide +kernel
theorem dV_51 : decode method_2_code 51 = .ok (.lstore_n 2, 1) := by decide +kernel
theorem dV_52 : decode method_2_code 52 = .ok (.lload_n 2, 1) := by decide +kernel
theorem dV_53 : decode method_2_code 53 = .ok (.lreturn, 1) := by decide +kernel
theorem pn_V : plainName "com/example/evenspend/evenspend/SplitMix64NextLongPinLaw" = true := by first | (simp [plainName, overriddenIn]; done) | decide +kernel
theorem pd_V : parseMethodDescriptor "(J)J" = some ⟨[.long], some .long⟩ := by decide +kernel
theorem ef_V (m : MethodId) (p1 : Int64) : entryFrame m #[(.long p1)] 4 = mkF m 0 #[.val (.long p1), .second, .unset, .unset] [] := by first | (simp [entryFrame, mkF, argsToLocals, Value.category]; done) | rfl
def QV (Z : State) (p1 : Int64) (h0 : Heap) (n0 : Nat) (v : Option Value) (h : Heap) (L : List Loc) : Prop := v = some (.long (own_inv p1)) ∧ Fr n0 L ∧ h = h0
set_option maxRecDepth 65536 in
set_option maxHeartbeats 40000000 in
theorem rmV (l : Launch) (Z : State) (a0 : Array Value) (hw : ∀ d ∈ tables_1, d.before a0 Z = true) (ws : List Jvm.Cond) (p1 : Int64) (h0 : Heap) (n0 : Nat) (Z0 : n0 ≤ h0.size) :
    MetFree l (⟨"com/example/evenspend/evenspend/SplitMix64NextLongPinLaw", "inverse", "(J)J"⟩ : MethodName) (head1 (Jvm.Cond.code (⟨"com/example/evenspend/evenspend/SplitMix64NextLongPinLaw", "inverse", "(J)J"⟩ : MethodName) method_2_code 4 (some .long) :: ws) ({ frames := 0, cells := 0, slots := 0, locals := 0 } : Room)) (fun a U => a = #[(.long p1)] ∧ Z.Warmed39 U.vm ∧ U.heap = h0) (fun _ _ _ _ _ => True) (fun _ U o U' => ∃ v L, o = .returned v ∧ QV Z p1 h0 n0 v U'.heap L ∧ FrameEnd U o U' L ({ frames := 0, cells := 0, slots := 0, locals := 0 } : Room).cells ({ frames := 0, cells := 0, slots := 0, locals := 0 } : Room).slots) := by
  refine MetFree.of_bodySF (plainFor_of_name pn_V) hisR ?_
  intro p e s m args below meth c s₁ Bd hml0 hP hK
  obtain ⟨rfl, hZ, hh⟩ := hP
  have hx := Bd.exec
  have hby := Bd.bytes
  have hml : c.maxLocals = 4 := hml0
  have hown : s.vm.findClass "com/example/evenspend/evenspend/SplitMix64NextLongPinLaw" = some m.cls := findClass_of_methodNamed Bd.named
  have hnm := (name_of_methodNamed Bd.named Bd.method).1
  have X0 : Stand p l e ({ frames := 0, cells := 0, slots := 0, locals := 0 } : Room) s m #[(.long p1)] below meth c s₁ [] 0 0 := Stand.of_body Bd
  have e0 : s₁.heap = h0 := by rw [← hh, Bd.state]; rfl
  have N0 := Fr.nil n0
  show own_Go p.tables e below (fun t o => ∃ v L, o = .returned v ∧ QV Z p1 h0 n0 v t.heap L ∧ FrameEnd s o t L ({ frames := 0, cells := 0, slots := 0, locals := 0 } : Room).cells ({ frames := 0, cells := 0, slots := 0, locals := 0 } : Room).slots) (s₁.setTop (entryFrame m #[(.long p1)] 4))
  rw [ef_V]
  show own_Go p.tables e below _ (s₁.setTop (mkF m 0 #[.val (.long p1), .second, .unset, .unset] []))
  refine own_st (S' := s₁.setTop (mkF m 1 #[.val (.long p1), .second, .unset, .unset] [(.long p1)])) (fun _ k => XT.lloadN X0.here hx rfl (hb hby dV_0) rfl k) ?_
  refine own_st (S' := s₁.setTop (mkF m 2 #[.val (.long p1), .second, .val (.long p1), .second] [])) (fun _ k => XT.lstoreN X0.here hx rfl (hb hby dV_1) rfl (l' := #[.val (.long p1), .second, .val (.long p1), .second]) rfl k) ?_
  refine own_st (S' := s₁.setTop (mkF m 3 #[.val (.long p1), .second, .val (.long p1), .second] [(.long p1)])) (fun _ k => XT.lloadN X0.here hx rfl (hb hby dV_2) rfl k) ?_
  refine own_st (S' := s₁.setTop (mkF m 6 #[.val (.long p1), .second, .val (.long p1), .second] [(.long (2 : Int64)), (.long p1)])) (fun _ k => X0.ldc2J hx hown (mvT hZ (hw _ (List.mem_of_getElem? (i := 29) rfl))) rfl (hb hby dV_3) k) ?_
  refine own_st (S' := s₁.setTop (mkF m 7 #[.val (.long p1), .second, .val (.long p1), .second] [(.long p1), (.long (2 : Int64)), (.long p1)])) (fun _ k => XT.lloadN X0.here hx rfl (hb hby dV_6) rfl k) ?_
  refine own_st (S' := s₁.setTop (mkF m 8 #[.val (.long p1), .second, .val (.long p1), .second] [(.long p1), (.long p1), (.long (2 : Int64)), (.long p1)])) (fun _ k => XT.lloadN X0.here hx rfl (hb hby dV_7) rfl k) ?_
  refine own_st (S' := s₁.setTop (mkF m 9 #[.val (.long p1), .second, .val (.long p1), .second] [(.long (p1 * p1)), (.long (2 : Int64)), (.long p1)])) (fun _ k => XT.lmul X0.here hx rfl (hb hby dV_8) rfl k) ?_
  refine own_st (S' := s₁.setTop (mkF m 10 #[.val (.long p1), .second, .val (.long p1), .second] [(.long ((2 : Int64) - (p1 * p1))), (.long p1)])) (fun _ k => XT.lsub X0.here hx rfl (hb hby dV_9) rfl k) ?_
  refine own_st (S' := s₁.setTop (mkF m 11 #[.val (.long p1), .second, .val (.long p1), .second] [(.long (p1 * ((2 : Int64) - (p1 * p1))))])) (fun _ k => XT.lmul X0.here hx rfl (hb hby dV_10) rfl k) ?_
  have tq101 : (p1 * ((2 : Int64) - (p1 * p1))) = (own_nw p1 p1) := rfl
  refine own_cv (congrArg (fun z => s₁.setTop (mkF m 11 #[.val (.long p1), .second, .val (.long p1), .second] [(.long z)])) tq101) ?_
  show own_Go p.tables e below _ (s₁.setTop (mkF m 11 #[.val (.long p1), .second, .val (.long p1), .second] [(.long (own_nw p1 p1))]))
  refine own_st (S' := s₁.setTop (mkF m 12 #[.val (.long p1), .second, .val (.long (own_nw p1 p1)), .second] [])) (fun _ k => XT.lstoreN X0.here hx rfl (hb hby dV_11) rfl (l' := #[.val (.long p1), .second, .val (.long (own_nw p1 p1)), .second]) rfl k) ?_
  refine own_st (S' := s₁.setTop (mkF m 13 #[.val (.long p1), .second, .val (.long (own_nw p1 p1)), .second] [(.long (own_nw p1 p1))])) (fun _ k => XT.lloadN X0.here hx rfl (hb hby dV_12) rfl k) ?_
  refine own_st (S' := s₁.setTop (mkF m 16 #[.val (.long p1), .second, .val (.long (own_nw p1 p1)), .second] [(.long (2 : Int64)), (.long (own_nw p1 p1))])) (fun _ k => X0.ldc2J hx hown (mvT hZ (hw _ (List.mem_of_getElem? (i := 29) rfl))) rfl (hb hby dV_13) k) ?_
  refine own_st (S' := s₁.setTop (mkF m 17 #[.val (.long p1), .second, .val (.long (own_nw p1 p1)), .second] [(.long p1), (.long (2 : Int64)), (.long (own_nw p1 p1))])) (fun _ k => XT.lloadN X0.here hx rfl (hb hby dV_16) rfl k) ?_
  refine own_st (S' := s₁.setTop (mkF m 18 #[.val (.long p1), .second, .val (.long (own_nw p1 p1)), .second] [(.long (own_nw p1 p1)), (.long p1), (.long (2 : Int64)), (.long (own_nw p1 p1))])) (fun _ k => XT.lloadN X0.here hx rfl (hb hby dV_17) rfl k) ?_
  refine own_st (S' := s₁.setTop (mkF m 19 #[.val (.long p1), .second, .val (.long (own_nw p1 p1)), .second] [(.long (p1 * (own_nw p1 p1))), (.long (2 : Int64)), (.long (own_nw p1 p1))])) (fun _ k => XT.lmul X0.here hx rfl (hb hby dV_18) rfl k) ?_
  refine own_st (S' := s₁.setTop (mkF m 20 #[.val (.long p1), .second, .val (.long (own_nw p1 p1)), .second] [(.long ((2 : Int64) - (p1 * (own_nw p1 p1)))), (.long (own_nw p1 p1))])) (fun _ k => XT.lsub X0.here hx rfl (hb hby dV_19) rfl k) ?_
  refine own_st (S' := s₁.setTop (mkF m 21 #[.val (.long p1), .second, .val (.long (own_nw p1 p1)), .second] [(.long ((own_nw p1 p1) * ((2 : Int64) - (p1 * (own_nw p1 p1)))))])) (fun _ k => XT.lmul X0.here hx rfl (hb hby dV_20) rfl k) ?_
  have tq102 : ((own_nw p1 p1) * ((2 : Int64) - (p1 * (own_nw p1 p1)))) = (own_nw p1 (own_nw p1 p1)) := rfl
  refine own_cv (congrArg (fun z => s₁.setTop (mkF m 21 #[.val (.long p1), .second, .val (.long (own_nw p1 p1)), .second] [(.long z)])) tq102) ?_
  show own_Go p.tables e below _ (s₁.setTop (mkF m 21 #[.val (.long p1), .second, .val (.long (own_nw p1 p1)), .second] [(.long (own_nw p1 (own_nw p1 p1)))]))
  refine own_st (S' := s₁.setTop (mkF m 22 #[.val (.long p1), .second, .val (.long (own_nw p1 (own_nw p1 p1))), .second] [])) (fun _ k => XT.lstoreN X0.here hx rfl (hb hby dV_21) rfl (l' := #[.val (.long p1), .second, .val (.long (own_nw p1 (own_nw p1 p1))), .second]) rfl k) ?_
  refine own_st (S' := s₁.setTop (mkF m 23 #[.val (.long p1), .second, .val (.long (own_nw p1 (own_nw p1 p1))), .second] [(.long (own_nw p1 (own_nw p1 p1)))])) (fun _ k => XT.lloadN X0.here hx rfl (hb hby dV_22) rfl k) ?_
  refine own_st (S' := s₁.setTop (mkF m 26 #[.val (.long p1), .second, .val (.long (own_nw p1 (own_nw p1 p1))), .second] [(.long (2 : Int64)), (.long (own_nw p1 (own_nw p1 p1)))])) (fun _ k => X0.ldc2J hx hown (mvT hZ (hw _ (List.mem_of_getElem? (i := 29) rfl))) rfl (hb hby dV_23) k) ?_
  refine own_st (S' := s₁.setTop (mkF m 27 #[.val (.long p1), .second, .val (.long (own_nw p1 (own_nw p1 p1))), .second] [(.long p1), (.long (2 : Int64)), (.long (own_nw p1 (own_nw p1 p1)))])) (fun _ k => XT.lloadN X0.here hx rfl (hb hby dV_26) rfl k) ?_
  refine own_st (S' := s₁.setTop (mkF m 28 #[.val (.long p1), .second, .val (.long (own_nw p1 (own_nw p1 p1))), .second] [(.long (own_nw p1 (own_nw p1 p1))), (.long p1), (.long (2 : Int64)), (.long (own_nw p1 (own_nw p1 p1)))])) (fun _ k => XT.lloadN X0.here hx rfl (hb hby dV_27) rfl k) ?_
  refine own_st (S' := s₁.setTop (mkF m 29 #[.val (.long p1), .second, .val (.long (own_nw p1 (own_nw p1 p1))), .second] [(.long (p1 * (own_nw p1 (own_nw p1 p1)))), (.long (2 : Int64)), (.long (own_nw p1 (own_nw p1 p1)))])) (fun _ k => XT.lmul X0.here hx rfl (hb hby dV_28) rfl k) ?_
  refine own_st (S' := s₁.setTop (mkF m 30 #[.val (.long p1), .second, .val (.long (own_nw p1 (own_nw p1 p1))), .second] [(.long ((2 : Int64) - (p1 * (own_nw p1 (own_nw p1 p1))))), (.long (own_nw p1 (own_nw p1 p1)))])) (fun _ k => XT.lsub X0.here hx rfl (hb hby dV_29) rfl k) ?_
  refine own_st (S' := s₁.setTop (mkF m 31 #[.val (.long p1), .second, .val (.long (own_nw p1 (own_nw p1 p1))), .second] [(.long ((own_nw p1 (own_nw p1 p1)) * ((2 : Int64) - (p1 * (own_nw p1 (own_nw p1 p1))))))])) (fun _ k => XT.lmul X0.here hx rfl (hb hby dV_30) rfl k) ?_
  have tq103 : ((own_nw p1 (own_nw p1 p1)) * ((2 : Int64) - (p1 * (own_nw p1 (own_nw p1 p1))))) = (own_nw p1 (own_nw p1 (own_nw p1 p1))) := rfl
  refine own_cv (congrArg (fun z => s₁.setTop (mkF m 31 #[.val (.long p1), .second, .val (.long (own_nw p1 (own_nw p1 p1))), .second] [(.long z)])) tq103) ?_
  show own_Go p.tables e below _ (s₁.setTop (mkF m 31 #[.val (.long p1), .second, .val (.long (own_nw p1 (own_nw p1 p1))), .second] [(.long (own_nw p1 (own_nw p1 (own_nw p1 p1))))]))
  refine own_st (S' := s₁.setTop (mkF m 32 #[.val (.long p1), .second, .val (.long (own_nw p1 (own_nw p1 (own_nw p1 p1)))), .second] [])) (fun _ k => XT.lstoreN X0.here hx rfl (hb hby dV_31) rfl (l' := #[.val (.long p1), .second, .val (.long (own_nw p1 (own_nw p1 (own_nw p1 p1)))), .second]) rfl k) ?_
  refine own_st (S' := s₁.setTop (mkF m 33 #[.val (.long p1), .second, .val (.long (own_nw p1 (own_nw p1 (own_nw p1 p1)))), .second] [(.long (own_nw p1 (own_nw p1 (own_nw p1 p1))))])) (fun _ k => XT.lloadN X0.here hx rfl (hb hby dV_32) rfl k) ?_
  refine own_st (S' := s₁.setTop (mkF m 36 #[.val (.long p1), .second, .val (.long (own_nw p1 (own_nw p1 (own_nw p1 p1)))), .second] [(.long (2 : Int64)), (.long (own_nw p1 (own_nw p1 (own_nw p1 p1))))])) (fun _ k => X0.ldc2J hx hown (mvT hZ (hw _ (List.mem_of_getElem? (i := 29) rfl))) rfl (hb hby dV_33) k) ?_
  refine own_st (S' := s₁.setTop (mkF m 37 #[.val (.long p1), .second, .val (.long (own_nw p1 (own_nw p1 (own_nw p1 p1)))), .second] [(.long p1), (.long (2 : Int64)), (.long (own_nw p1 (own_nw p1 (own_nw p1 p1))))])) (fun _ k => XT.lloadN X0.here hx rfl (hb hby dV_36) rfl k) ?_
  refine own_st (S' := s₁.setTop (mkF m 38 #[.val (.long p1), .second, .val (.long (own_nw p1 (own_nw p1 (own_nw p1 p1)))), .second] [(.long (own_nw p1 (own_nw p1 (own_nw p1 p1)))), (.long p1), (.long (2 : Int64)), (.long (own_nw p1 (own_nw p1 (own_nw p1 p1))))])) (fun _ k => XT.lloadN X0.here hx rfl (hb hby dV_37) rfl k) ?_
  refine own_st (S' := s₁.setTop (mkF m 39 #[.val (.long p1), .second, .val (.long (own_nw p1 (own_nw p1 (own_nw p1 p1)))), .second] [(.long (p1 * (own_nw p1 (own_nw p1 (own_nw p1 p1))))), (.long (2 : Int64)), (.long (own_nw p1 (own_nw p1 (own_nw p1 p1))))])) (fun _ k => XT.lmul X0.here hx rfl (hb hby dV_38) rfl k) ?_
  refine own_st (S' := s₁.setTop (mkF m 40 #[.val (.long p1), .second, .val (.long (own_nw p1 (own_nw p1 (own_nw p1 p1)))), .second] [(.long ((2 : Int64) - (p1 * (own_nw p1 (own_nw p1 (own_nw p1 p1)))))), (.long (own_nw p1 (own_nw p1 (own_nw p1 p1))))])) (fun _ k => XT.lsub X0.here hx rfl (hb hby dV_39) rfl k) ?_
  refine own_st (S' := s₁.setTop (mkF m 41 #[.val (.long p1), .second, .val (.long (own_nw p1 (own_nw p1 (own_nw p1 p1)))), .second] [(.long ((own_nw p1 (own_nw p1 (own_nw p1 p1))) * ((2 : Int64) - (p1 * (own_nw p1 (own_nw p1 (own_nw p1 p1)))))))])) (fun _ k => XT.lmul X0.here hx rfl (hb hby dV_40) rfl k) ?_
  have tq104 : ((own_nw p1 (own_nw p1 (own_nw p1 p1))) * ((2 : Int64) - (p1 * (own_nw p1 (own_nw p1 (own_nw p1 p1)))))) = (own_nw p1 (own_nw p1 (own_nw p1 (own_nw p1 p1)))) := rfl
  refine own_cv (congrArg (fun z => s₁.setTop (mkF m 41 #[.val (.long p1), .second, .val (.long (own_nw p1 (own_nw p1 (own_nw p1 p1)))), .second] [(.long z)])) tq104) ?_
  show own_Go p.tables e below _ (s₁.setTop (mkF m 41 #[.val (.long p1), .second, .val (.long (own_nw p1 (own_nw p1 (own_nw p1 p1)))), .second] [(.long (own_nw p1 (own_nw p1 (own_nw p1 (own_nw p1 p1)))))]))
  refine own_st (S' := s₁.setTop (mkF m 42 #[.val (.long p1), .second, .val (.long (own_nw p1 (own_nw p1 (own_nw p1 (own_nw p1 p1))))), .second] [])) (fun _ k => XT.lstoreN X0.here hx rfl (hb hby dV_41) rfl (l' := #[.val (.long p1), .second, .val (.long (own_nw p1 (own_nw p1 (own_nw p1 (own_nw p1 p1))))), .second]) rfl k) ?_
  refine own_st (S' := s₁.setTop (mkF m 43 #[.val (.long p1), .second, .val (.long (own_nw p1 (own_nw p1 (own_nw p1 (own_nw p1 p1))))), .second] [(.long (own_nw p1 (own_nw p1 (own_nw p1 (own_nw p1 p1)))))])) (fun _ k => XT.lloadN X0.here hx rfl (hb hby dV_42) rfl k) ?_
  refine own_st (S' := s₁.setTop (mkF m 46 #[.val (.long p1), .second, .val (.long (own_nw p1 (own_nw p1 (own_nw p1 (own_nw p1 p1))))), .second] [(.long (2 : Int64)), (.long (own_nw p1 (own_nw p1 (own_nw p1 (own_nw p1 p1)))))])) (fun _ k => X0.ldc2J hx hown (mvT hZ (hw _ (List.mem_of_getElem? (i := 29) rfl))) rfl (hb hby dV_43) k) ?_
  refine own_st (S' := s₁.setTop (mkF m 47 #[.val (.long p1), .second, .val (.long (own_nw p1 (own_nw p1 (own_nw p1 (own_nw p1 p1))))), .second] [(.long p1), (.long (2 : Int64)), (.long (own_nw p1 (own_nw p1 (own_nw p1 (own_nw p1 p1)))))])) (fun _ k => XT.lloadN X0.here hx rfl (hb hby dV_46) rfl k) ?_
  refine own_st (S' := s₁.setTop (mkF m 48 #[.val (.long p1), .second, .val (.long (own_nw p1 (own_nw p1 (own_nw p1 (own_nw p1 p1))))), .second] [(.long (own_nw p1 (own_nw p1 (own_nw p1 (own_nw p1 p1))))), (.long p1), (.long (2 : Int64)), (.long (own_nw p1 (own_nw p1 (own_nw p1 (own_nw p1 p1)))))])) (fun _ k => XT.lloadN X0.here hx rfl (hb hby dV_47) rfl k) ?_
  refine own_st (S' := s₁.setTop (mkF m 49 #[.val (.long p1), .second, .val (.long (own_nw p1 (own_nw p1 (own_nw p1 (own_nw p1 p1))))), .second] [(.long (p1 * (own_nw p1 (own_nw p1 (own_nw p1 (own_nw p1 p1)))))), (.long (2 : Int64)), (.long (own_nw p1 (own_nw p1 (own_nw p1 (own_nw p1 p1)))))])) (fun _ k => XT.lmul X0.here hx rfl (hb hby dV_48) rfl k) ?_
  refine own_st (S' := s₁.setTop (mkF m 50 #[.val (.long p1), .second, .val (.long (own_nw p1 (own_nw p1 (own_nw p1 (own_nw p1 p1))))), .second] [(.long ((2 : Int64) - (p1 * (own_nw p1 (own_nw p1 (own_nw p1 (own_nw p1 p1))))))), (.long (own_nw p1 (own_nw p1 (own_nw p1 (own_nw p1 p1)))))])) (fun _ k => XT.lsub X0.here hx rfl (hb hby dV_49) rfl k) ?_
  refine own_st (S' := s₁.setTop (mkF m 51 #[.val (.long p1), .second, .val (.long (own_nw p1 (own_nw p1 (own_nw p1 (own_nw p1 p1))))), .second] [(.long ((own_nw p1 (own_nw p1 (own_nw p1 (own_nw p1 p1)))) * ((2 : Int64) - (p1 * (own_nw p1 (own_nw p1 (own_nw p1 (own_nw p1 p1))))))))])) (fun _ k => XT.lmul X0.here hx rfl (hb hby dV_50) rfl k) ?_
  have tq105 : ((own_nw p1 (own_nw p1 (own_nw p1 (own_nw p1 p1)))) * ((2 : Int64) - (p1 * (own_nw p1 (own_nw p1 (own_nw p1 (own_nw p1 p1))))))) = (own_nw p1 (own_nw p1 (own_nw p1 (own_nw p1 (own_nw p1 p1))))) := rfl
  refine own_cv (congrArg (fun z => s₁.setTop (mkF m 51 #[.val (.long p1), .second, .val (.long (own_nw p1 (own_nw p1 (own_nw p1 (own_nw p1 p1))))), .second] [(.long z)])) tq105) ?_
  show own_Go p.tables e below _ (s₁.setTop (mkF m 51 #[.val (.long p1), .second, .val (.long (own_nw p1 (own_nw p1 (own_nw p1 (own_nw p1 p1))))), .second] [(.long (own_nw p1 (own_nw p1 (own_nw p1 (own_nw p1 (own_nw p1 p1))))))]))
  refine own_st (S' := s₁.setTop (mkF m 52 #[.val (.long p1), .second, .val (.long (own_nw p1 (own_nw p1 (own_nw p1 (own_nw p1 (own_nw p1 p1)))))), .second] [])) (fun _ k => XT.lstoreN X0.here hx rfl (hb hby dV_51) rfl (l' := #[.val (.long p1), .second, .val (.long (own_nw p1 (own_nw p1 (own_nw p1 (own_nw p1 (own_nw p1 p1)))))), .second]) rfl k) ?_
  refine own_st (S' := s₁.setTop (mkF m 53 #[.val (.long p1), .second, .val (.long (own_nw p1 (own_nw p1 (own_nw p1 (own_nw p1 (own_nw p1 p1)))))), .second] [(.long (own_nw p1 (own_nw p1 (own_nw p1 (own_nw p1 (own_nw p1 p1))))))])) (fun _ k => XT.lloadN X0.here hx rfl (hb hby dV_52) rfl k) ?_
  have tq106 : (own_nw p1 (own_nw p1 (own_nw p1 (own_nw p1 (own_nw p1 p1))))) = (own_inv p1) := rfl
  refine own_cv (congrArg (fun z => s₁.setTop (mkF m 53 #[.val (.long p1), .second, .val (.long (own_nw p1 (own_nw p1 (own_nw p1 (own_nw p1 (own_nw p1 p1)))))), .second] [(.long z)])) tq106) ?_
  show own_Go p.tables e below _ (s₁.setTop (mkF m 53 #[.val (.long p1), .second, .val (.long (own_nw p1 (own_nw p1 (own_nw p1 (own_nw p1 (own_nw p1 p1)))))), .second] [(.long (own_inv p1))]))
  refine own_end X0 (Q := (QV Z p1 h0 n0)) (some (.long (own_inv p1))) Bd.notSynchronized (fun h => by rw [Bd.returns] at h; cases h) (fun fs hr => X0.lreturnOut hx Bd.returns (hb hby dV_53) hr) ?_ (by decide) (by decide)
  rw [e0]
  exact ⟨rfl, N0, rfl⟩
theorem dU_0 : decode method_3_code 0 = .ok (.lload_n 0, 1) := by decide +kernel
theorem dU_1 : decode method_3_code 1 = .ok (.lstore_n 2, 1) := by decide +kernel
theorem dU_2 : decode method_3_code 2 = .ok (.lload_n 2, 1) := by decide +kernel
theorem dU_3 : decode method_3_code 3 = .ok (.lload_n 2, 1) := by decide +kernel
theorem dU_4 : decode method_3_code 4 = .ok (.bipush 31, 2) := by decide +kernel
theorem dU_6 : decode method_3_code 6 = .ok (.lushr, 1) := by decide +kernel
theorem dU_7 : decode method_3_code 7 = .ok (.lxor, 1) := by decide +kernel
theorem dU_8 : decode method_3_code 8 = .ok (.lload_n 2, 1) := by decide +kernel
theorem dU_9 : decode method_3_code 9 = .ok (.bipush 62, 2) := by decide +kernel
theorem dU_11 : decode method_3_code 11 = .ok (.lushr, 1) := by decide +kernel
theorem dU_12 : decode method_3_code 12 = .ok (.lxor, 1) := by decide +kernel
theorem dU_13 : decode method_3_code 13 = .ok (.lstore_n 2, 1) := by decide +kernel
theorem dU_14 : decode method_3_code 14 = .ok (.lload_n 2, 1) := by decide +kernel
theorem dU_15 : decode method_3_code 15 = .ok (.ldc2_w 11, 3) := by decide +kernel
theorem dU_18 : decode method_3_code 18 = .ok (.invokestatic 13, 3) := by decide +kernel
theorem dU_21 : decode method_3_code 21 = .ok (.lmul, 1) := by decide +kernel
theorem dU_22 : decode method_3_code 22 = .ok (.lstore_n 2, 1) := by decide +kernel
theorem dU_23 : decode method_3_code 23 = .ok (.lload_n 2, 1) := by decide +kernel
theorem dU_24 : decode method_3_code 24 = .ok (.lload_n 2, 1) := by decide +kernel
theorem dU_25 : decode method_3_code 25 = .ok (.bipush 27, 2) := by decide +kernel
theorem dU_27 : decode method_3_code 27 = .ok (.lushr, 1) := by decide +kernel
theorem dU_28 : decode method_3_code 28 = .ok (.lxor, 1) := by decide +kernel
theorem dU_29 : decode method_3_code 29 = .ok (.lload_n 2, 1) := by decide +kernel
theorem dU_30 : decode method_3_code 30 = .ok (.bipush 54, 2) := by decide +kernel
theorem dU_32 : decode method_3_code 32 = .ok (.lushr, 1) := by decide +kernel
theorem dU_33 : decode method_3_code 33 = .ok (.lxor, 1) := by decide +kernel
theorem dU_34 : decode method_3_code 34 = .ok (.lstore_n 2, 1) := by decide +kernel
theorem dU_35 : decode method_3_code 35 = .ok (.lload_n 2, 1) := by decide +kernel
theorem dU_36 : decode method_3_code 36 = .ok (.ldc2_w 17, 3) := by decide +kernel
theorem dU_39 : decode method_3_code 39 = .ok (.invokestatic 13, 3) := by decide +kernel
theorem dU_42 : decode method_3_code 42 = .ok (.lmul, 1) := by decide +kernel
theorem dU_43 : decode method_3_code 43 = .ok (.lstore_n 2, 1) := by decide +kernel
theorem dU_44 : decode method_3_code 44 = .ok (.lload_n 2, 1) := by decide +kernel
theorem dU_45 : decode method_3_code 45 = .ok (.lload_n 2, 1) := by decide +kernel
theorem dU_46 : decode method_3_code 46 = .ok (.bipush 30, 2) := by decide +kernel
theorem dU_48 : decode method_3_code 48 = .ok (.lushr, 1) := by decide +kernel
theorem dU_49 : decode method_3_code 49 = .ok (.lxor, 1) := by decide +kernel
theorem dU_50 : decode method_3_code 50 = .ok (.lload_n 2, 1) := by decide +kernel
theorem dU_51 : decode method_3_code 51 = .ok (.bipush 60, 2) := by decide +kernel
theorem dU_53 : decode method_3_code 53 = .ok (.lushr, 1) := by decide +kernel
theorem dU_54 : decode method_3_code 54 = .ok (.lxor, 1) := by decide +kernel
theorem dU_55 : decode method_3_code 55 = .ok (.lstore_n 2, 1) := by decide +kernel
theorem dU_56 : decode method_3_code 56 = .ok (.lload_n 2, 1) := by decide +kernel
theorem dU_57 : decode method_3_code 57 = .ok (.lreturn, 1) := by decide +kernel
theorem pn_U : plainName "com/example/evenspend/evenspend/SplitMix64NextLongPinLaw" = true := by first | (simp [plainName, overriddenIn]; done) | decide +kernel
theorem pd_U : parseMethodDescriptor "(J)J" = some ⟨[.long], some .long⟩ := by decide +kernel
theorem ef_U (m : MethodId) (p1 : Int64) : entryFrame m #[(.long p1)] 4 = mkF m 0 #[.val (.long p1), .second, .unset, .unset] [] := by first | (simp [entryFrame, mkF, argsToLocals, Value.category]; done) | rfl
def QU (Z : State) (p1 : Int64) (h0 : Heap) (n0 : Nat) (v : Option Value) (h : Heap) (L : List Loc) : Prop := v = some (.long (own_un p1)) ∧ Fr n0 L ∧ h = h0
set_option maxRecDepth 65536 in
set_option maxHeartbeats 40000000 in
theorem rmU (l : Launch) (Z : State) (a0 : Array Value) (hw : ∀ d ∈ tables_1, d.before a0 Z = true) (ws : List Jvm.Cond) (p1 : Int64) (h0 : Heap) (n0 : Nat) (Z0 : n0 ≤ h0.size) :
    MetFree l (⟨"com/example/evenspend/evenspend/SplitMix64NextLongPinLaw", "unmix", "(J)J"⟩ : MethodName) (head1 (Jvm.Cond.code (⟨"com/example/evenspend/evenspend/SplitMix64NextLongPinLaw", "unmix", "(J)J"⟩ : MethodName) method_3_code 4 (some .long) :: ws) ({ frames := 1, cells := 0, slots := 0, locals := 17 } : Room)) (fun a U => a = #[(.long p1)] ∧ Z.Warmed39 U.vm ∧ U.heap = h0) (fun _ _ _ _ _ => True) (fun _ U o U' => ∃ v L, o = .returned v ∧ QU Z p1 h0 n0 v U'.heap L ∧ FrameEnd U o U' L ({ frames := 1, cells := 0, slots := 0, locals := 17 } : Room).cells ({ frames := 1, cells := 0, slots := 0, locals := 17 } : Room).slots) := by
  refine MetFree.of_bodySF (plainFor_of_name pn_U) hisR ?_
  intro p e s m args below meth c s₁ Bd hml0 hP hK
  obtain ⟨rfl, hZ, hh⟩ := hP
  have hx := Bd.exec
  have hby := Bd.bytes
  have hml : c.maxLocals = 4 := hml0
  have hown : s.vm.findClass "com/example/evenspend/evenspend/SplitMix64NextLongPinLaw" = some m.cls := findClass_of_methodNamed Bd.named
  have hnm := (name_of_methodNamed Bd.named Bd.method).1
  have X0 : Stand p l e ({ frames := 1, cells := 0, slots := 0, locals := 17 } : Room) s m #[(.long p1)] below meth c s₁ [] 0 0 := Stand.of_body Bd
  have e0 : s₁.heap = h0 := by rw [← hh, Bd.state]; rfl
  have N0 := Fr.nil n0
  show own_Go p.tables e below (fun t o => ∃ v L, o = .returned v ∧ QU Z p1 h0 n0 v t.heap L ∧ FrameEnd s o t L ({ frames := 1, cells := 0, slots := 0, locals := 17 } : Room).cells ({ frames := 1, cells := 0, slots := 0, locals := 17 } : Room).slots) (s₁.setTop (entryFrame m #[(.long p1)] 4))
  rw [ef_U]
  show own_Go p.tables e below _ (s₁.setTop (mkF m 0 #[.val (.long p1), .second, .unset, .unset] []))
  refine own_st (S' := s₁.setTop (mkF m 1 #[.val (.long p1), .second, .unset, .unset] [(.long p1)])) (fun _ k => XT.lloadN X0.here hx rfl (hb hby dU_0) rfl k) ?_
  refine own_st (S' := s₁.setTop (mkF m 2 #[.val (.long p1), .second, .val (.long p1), .second] [])) (fun _ k => XT.lstoreN X0.here hx rfl (hb hby dU_1) rfl (l' := #[.val (.long p1), .second, .val (.long p1), .second]) rfl k) ?_
  refine own_st (S' := s₁.setTop (mkF m 3 #[.val (.long p1), .second, .val (.long p1), .second] [(.long p1)])) (fun _ k => XT.lloadN X0.here hx rfl (hb hby dU_2) rfl k) ?_
  refine own_st (S' := s₁.setTop (mkF m 4 #[.val (.long p1), .second, .val (.long p1), .second] [(.long p1), (.long p1)])) (fun _ k => XT.lloadN X0.here hx rfl (hb hby dU_3) rfl k) ?_
  refine own_st (S' := s₁.setTop (mkF m 6 #[.val (.long p1), .second, .val (.long p1), .second] [(.int (31 : Int32)), (.long p1), (.long p1)])) (fun _ k => XS.bipush X0.here hx rfl (hb hby dU_4) k) ?_
  refine own_st (S' := s₁.setTop (mkF m 7 #[.val (.long p1), .second, .val (.long p1), .second] [(.long (XT.ushrL p1 (31 : Int32))), (.long p1)])) (fun _ k => XT.lushr X0.here hx rfl (hb hby dU_6) rfl k) ?_
  refine own_st (S' := s₁.setTop (mkF m 8 #[.val (.long p1), .second, .val (.long p1), .second] [(.long (p1 ^^^ (XT.ushrL p1 (31 : Int32))))])) (fun _ k => XT.lxor X0.here hx rfl (hb hby dU_7) rfl k) ?_
  refine own_st (S' := s₁.setTop (mkF m 9 #[.val (.long p1), .second, .val (.long p1), .second] [(.long p1), (.long (p1 ^^^ (XT.ushrL p1 (31 : Int32))))])) (fun _ k => XT.lloadN X0.here hx rfl (hb hby dU_8) rfl k) ?_
  refine own_st (S' := s₁.setTop (mkF m 11 #[.val (.long p1), .second, .val (.long p1), .second] [(.int (62 : Int32)), (.long p1), (.long (p1 ^^^ (XT.ushrL p1 (31 : Int32))))])) (fun _ k => XS.bipush X0.here hx rfl (hb hby dU_9) k) ?_
  refine own_st (S' := s₁.setTop (mkF m 12 #[.val (.long p1), .second, .val (.long p1), .second] [(.long (XT.ushrL p1 (62 : Int32))), (.long (p1 ^^^ (XT.ushrL p1 (31 : Int32))))])) (fun _ k => XT.lushr X0.here hx rfl (hb hby dU_11) rfl k) ?_
  refine own_st (S' := s₁.setTop (mkF m 13 #[.val (.long p1), .second, .val (.long p1), .second] [(.long ((p1 ^^^ (XT.ushrL p1 (31 : Int32))) ^^^ (XT.ushrL p1 (62 : Int32))))])) (fun _ k => XT.lxor X0.here hx rfl (hb hby dU_12) rfl k) ?_
  have tq101 : ((p1 ^^^ (XT.ushrL p1 (31 : Int32))) ^^^ (XT.ushrL p1 (62 : Int32))) = (own_ux (31 : Int32) (62 : Int32) p1) := rfl
  refine own_cv (congrArg (fun z => s₁.setTop (mkF m 13 #[.val (.long p1), .second, .val (.long p1), .second] [(.long z)])) tq101) ?_
  show own_Go p.tables e below _ (s₁.setTop (mkF m 13 #[.val (.long p1), .second, .val (.long p1), .second] [(.long (own_ux (31 : Int32) (62 : Int32) p1))]))
  refine own_st (S' := s₁.setTop (mkF m 14 #[.val (.long p1), .second, .val (.long (own_ux (31 : Int32) (62 : Int32) p1)), .second] [])) (fun _ k => XT.lstoreN X0.here hx rfl (hb hby dU_13) rfl (l' := #[.val (.long p1), .second, .val (.long (own_ux (31 : Int32) (62 : Int32) p1)), .second]) rfl k) ?_
  refine own_st (S' := s₁.setTop (mkF m 15 #[.val (.long p1), .second, .val (.long (own_ux (31 : Int32) (62 : Int32) p1)), .second] [(.long (own_ux (31 : Int32) (62 : Int32) p1))])) (fun _ k => XT.lloadN X0.here hx rfl (hb hby dU_14) rfl k) ?_
  refine own_st (S' := s₁.setTop (mkF m 18 #[.val (.long p1), .second, .val (.long (own_ux (31 : Int32) (62 : Int32) p1)), .second] [(.long (-7723592293110705685 : Int64)), (.long (own_ux (31 : Int32) (62 : Int32) p1))])) (fun _ k => X0.ldc2J hx hown (mvT hZ (hw _ (List.mem_of_getElem? (i := 30) rfl))) rfl (hb hby dU_15) k) ?_
  obtain ⟨_, _, ⟨T102, L102, k102, n102⟩, -, X102, ⟨Lc102, hQ102, l102, y102, z102⟩, st102⟩ := Jvm.LawKit.callS X0 hx (y := (⟨"com/example/evenspend/evenspend/SplitMix64NextLongPinLaw", "inverse", "(J)J"⟩ : MethodName)) hown (mvT hZ (hw _ (List.mem_of_getElem? (i := 25) rfl))) (mvT hZ (hw _ (List.mem_of_getElem? (i := 26) rfl))) (mvT hZ (hw _ (List.mem_of_getElem? (i := 27) rfl))) (mvT hZ (hw _ (List.mem_of_getElem? (i := 28) rfl))) (by decide) (backOf (W := 2) (rmV l Z a0 hw [] (-7723592293110705685 : Int64) h0 n0 Z0) hZ (hw _ (List.mem_of_getElem? (i := 28) rfl)) (hw _ (List.mem_of_getElem? (i := 27) rfl)) (by decide) (by decide)) (g := (mkF m 18 #[.val (.long p1), .second, .val (.long (own_ux (31 : Int32) (62 : Int32) p1)), .second] [(.long (-7723592293110705685 : Int64)), (.long (own_ux (31 : Int32) (62 : Int32) p1))])) rfl (by rw [hml]; rfl) (argsL := [(.long (-7723592293110705685 : Int64))]) (rest := [(.long (own_ux (31 : Int32) (62 : Int32) p1))]) (lenOf pd_V rfl) rfl (by show 2 * 0 + _ ≤ _; exact Nat.le_of_eq rfl) (hb hby dU_18) (fun _ _ => ⟨rfl, e0, (by dsimp only [Pt.cells]; decide), (by dsimp only [Pt.slots]; decide)⟩)
  dsimp only [Pt.U, Pt.locs, Pt.cells, Pt.slots] at X102 l102 y102 z102 st102 hQ102
  subst l102 y102 z102
  obtain ⟨rfl, N102, hh102⟩ := hQ102
  refine own_st (S' := T102.setTop (mkF m 21 #[.val (.long p1), .second, .val (.long (own_ux (31 : Int32) (62 : Int32) p1)), .second] [(.long (own_inv (-7723592293110705685 : Int64))), (.long (own_ux (31 : Int32) (62 : Int32) p1))])) st102 ?_
  have Nu102 := Fr.app N0 N102
  refine own_st (S' := T102.setTop (mkF m 22 #[.val (.long p1), .second, .val (.long (own_ux (31 : Int32) (62 : Int32) p1)), .second] [(.long ((own_ux (31 : Int32) (62 : Int32) p1) * (own_inv (-7723592293110705685 : Int64))))])) (fun _ k => XT.lmul X102.here hx rfl (hb hby dU_21) rfl k) ?_
  refine own_st (S' := T102.setTop (mkF m 23 #[.val (.long p1), .second, .val (.long ((own_ux (31 : Int32) (62 : Int32) p1) * (own_inv (-7723592293110705685 : Int64)))), .second] [])) (fun _ k => XT.lstoreN X102.here hx rfl (hb hby dU_22) rfl (l' := #[.val (.long p1), .second, .val (.long ((own_ux (31 : Int32) (62 : Int32) p1) * (own_inv (-7723592293110705685 : Int64)))), .second]) rfl k) ?_
  refine own_st (S' := T102.setTop (mkF m 24 #[.val (.long p1), .second, .val (.long ((own_ux (31 : Int32) (62 : Int32) p1) * (own_inv (-7723592293110705685 : Int64)))), .second] [(.long ((own_ux (31 : Int32) (62 : Int32) p1) * (own_inv (-7723592293110705685 : Int64))))])) (fun _ k => XT.lloadN X102.here hx rfl (hb hby dU_23) rfl k) ?_
  refine own_st (S' := T102.setTop (mkF m 25 #[.val (.long p1), .second, .val (.long ((own_ux (31 : Int32) (62 : Int32) p1) * (own_inv (-7723592293110705685 : Int64)))), .second] [(.long ((own_ux (31 : Int32) (62 : Int32) p1) * (own_inv (-7723592293110705685 : Int64)))), (.long ((own_ux (31 : Int32) (62 : Int32) p1) * (own_inv (-7723592293110705685 : Int64))))])) (fun _ k => XT.lloadN X102.here hx rfl (hb hby dU_24) rfl k) ?_
  refine own_st (S' := T102.setTop (mkF m 27 #[.val (.long p1), .second, .val (.long ((own_ux (31 : Int32) (62 : Int32) p1) * (own_inv (-7723592293110705685 : Int64)))), .second] [(.int (27 : Int32)), (.long ((own_ux (31 : Int32) (62 : Int32) p1) * (own_inv (-7723592293110705685 : Int64)))), (.long ((own_ux (31 : Int32) (62 : Int32) p1) * (own_inv (-7723592293110705685 : Int64))))])) (fun _ k => XS.bipush X102.here hx rfl (hb hby dU_25) k) ?_
  refine own_st (S' := T102.setTop (mkF m 28 #[.val (.long p1), .second, .val (.long ((own_ux (31 : Int32) (62 : Int32) p1) * (own_inv (-7723592293110705685 : Int64)))), .second] [(.long (XT.ushrL ((own_ux (31 : Int32) (62 : Int32) p1) * (own_inv (-7723592293110705685 : Int64))) (27 : Int32))), (.long ((own_ux (31 : Int32) (62 : Int32) p1) * (own_inv (-7723592293110705685 : Int64))))])) (fun _ k => XT.lushr X102.here hx rfl (hb hby dU_27) rfl k) ?_
  refine own_st (S' := T102.setTop (mkF m 29 #[.val (.long p1), .second, .val (.long ((own_ux (31 : Int32) (62 : Int32) p1) * (own_inv (-7723592293110705685 : Int64)))), .second] [(.long (((own_ux (31 : Int32) (62 : Int32) p1) * (own_inv (-7723592293110705685 : Int64))) ^^^ (XT.ushrL ((own_ux (31 : Int32) (62 : Int32) p1) * (own_inv (-7723592293110705685 : Int64))) (27 : Int32))))])) (fun _ k => XT.lxor X102.here hx rfl (hb hby dU_28) rfl k) ?_
  refine own_st (S' := T102.setTop (mkF m 30 #[.val (.long p1), .second, .val (.long ((own_ux (31 : Int32) (62 : Int32) p1) * (own_inv (-7723592293110705685 : Int64)))), .second] [(.long ((own_ux (31 : Int32) (62 : Int32) p1) * (own_inv (-7723592293110705685 : Int64)))), (.long (((own_ux (31 : Int32) (62 : Int32) p1) * (own_inv (-7723592293110705685 : Int64))) ^^^ (XT.ushrL ((own_ux (31 : Int32) (62 : Int32) p1) * (own_inv (-7723592293110705685 : Int64))) (27 : Int32))))])) (fun _ k => XT.lloadN X102.here hx rfl (hb hby dU_29) rfl k) ?_
  refine own_st (S' := T102.setTop (mkF m 32 #[.val (.long p1), .second, .val (.long ((own_ux (31 : Int32) (62 : Int32) p1) * (own_inv (-7723592293110705685 : Int64)))), .second] [(.int (54 : Int32)), (.long ((own_ux (31 : Int32) (62 : Int32) p1) * (own_inv (-7723592293110705685 : Int64)))), (.long (((own_ux (31 : Int32) (62 : Int32) p1) * (own_inv (-7723592293110705685 : Int64))) ^^^ (XT.ushrL ((own_ux (31 : Int32) (62 : Int32) p1) * (own_inv (-7723592293110705685 : Int64))) (27 : Int32))))])) (fun _ k => XS.bipush X102.here hx rfl (hb hby dU_30) k) ?_
  refine own_st (S' := T102.setTop (mkF m 33 #[.val (.long p1), .second, .val (.long ((own_ux (31 : Int32) (62 : Int32) p1) * (own_inv (-7723592293110705685 : Int64)))), .second] [(.long (XT.ushrL ((own_ux (31 : Int32) (62 : Int32) p1) * (own_inv (-7723592293110705685 : Int64))) (54 : Int32))), (.long (((own_ux (31 : Int32) (62 : Int32) p1) * (own_inv (-7723592293110705685 : Int64))) ^^^ (XT.ushrL ((own_ux (31 : Int32) (62 : Int32) p1) * (own_inv (-7723592293110705685 : Int64))) (27 : Int32))))])) (fun _ k => XT.lushr X102.here hx rfl (hb hby dU_32) rfl k) ?_
  refine own_st (S' := T102.setTop (mkF m 34 #[.val (.long p1), .second, .val (.long ((own_ux (31 : Int32) (62 : Int32) p1) * (own_inv (-7723592293110705685 : Int64)))), .second] [(.long ((((own_ux (31 : Int32) (62 : Int32) p1) * (own_inv (-7723592293110705685 : Int64))) ^^^ (XT.ushrL ((own_ux (31 : Int32) (62 : Int32) p1) * (own_inv (-7723592293110705685 : Int64))) (27 : Int32))) ^^^ (XT.ushrL ((own_ux (31 : Int32) (62 : Int32) p1) * (own_inv (-7723592293110705685 : Int64))) (54 : Int32))))])) (fun _ k => XT.lxor X102.here hx rfl (hb hby dU_33) rfl k) ?_
  have tq103 : ((((own_ux (31 : Int32) (62 : Int32) p1) * (own_inv (-7723592293110705685 : Int64))) ^^^ (XT.ushrL ((own_ux (31 : Int32) (62 : Int32) p1) * (own_inv (-7723592293110705685 : Int64))) (27 : Int32))) ^^^ (XT.ushrL ((own_ux (31 : Int32) (62 : Int32) p1) * (own_inv (-7723592293110705685 : Int64))) (54 : Int32))) = (own_ux (27 : Int32) (54 : Int32) ((own_ux (31 : Int32) (62 : Int32) p1) * (own_inv (-7723592293110705685 : Int64)))) := rfl
  refine own_cv (congrArg (fun z => T102.setTop (mkF m 34 #[.val (.long p1), .second, .val (.long ((own_ux (31 : Int32) (62 : Int32) p1) * (own_inv (-7723592293110705685 : Int64)))), .second] [(.long z)])) tq103) ?_
  show own_Go p.tables e below _ (T102.setTop (mkF m 34 #[.val (.long p1), .second, .val (.long ((own_ux (31 : Int32) (62 : Int32) p1) * (own_inv (-7723592293110705685 : Int64)))), .second] [(.long (own_ux (27 : Int32) (54 : Int32) ((own_ux (31 : Int32) (62 : Int32) p1) * (own_inv (-7723592293110705685 : Int64)))))]))
  refine own_st (S' := T102.setTop (mkF m 35 #[.val (.long p1), .second, .val (.long (own_ux (27 : Int32) (54 : Int32) ((own_ux (31 : Int32) (62 : Int32) p1) * (own_inv (-7723592293110705685 : Int64))))), .second] [])) (fun _ k => XT.lstoreN X102.here hx rfl (hb hby dU_34) rfl (l' := #[.val (.long p1), .second, .val (.long (own_ux (27 : Int32) (54 : Int32) ((own_ux (31 : Int32) (62 : Int32) p1) * (own_inv (-7723592293110705685 : Int64))))), .second]) rfl k) ?_
  refine own_st (S' := T102.setTop (mkF m 36 #[.val (.long p1), .second, .val (.long (own_ux (27 : Int32) (54 : Int32) ((own_ux (31 : Int32) (62 : Int32) p1) * (own_inv (-7723592293110705685 : Int64))))), .second] [(.long (own_ux (27 : Int32) (54 : Int32) ((own_ux (31 : Int32) (62 : Int32) p1) * (own_inv (-7723592293110705685 : Int64)))))])) (fun _ k => XT.lloadN X102.here hx rfl (hb hby dU_35) rfl k) ?_
  refine own_st (S' := T102.setTop (mkF m 39 #[.val (.long p1), .second, .val (.long (own_ux (27 : Int32) (54 : Int32) ((own_ux (31 : Int32) (62 : Int32) p1) * (own_inv (-7723592293110705685 : Int64))))), .second] [(.long (-4658895280553007687 : Int64)), (.long (own_ux (27 : Int32) (54 : Int32) ((own_ux (31 : Int32) (62 : Int32) p1) * (own_inv (-7723592293110705685 : Int64)))))])) (fun _ k => X102.ldc2J hx hown (mvT hZ (hw _ (List.mem_of_getElem? (i := 24) rfl))) rfl (hb hby dU_36) k) ?_
  obtain ⟨_, _, ⟨T104, L104, k104, n104⟩, -, X104, ⟨Lc104, hQ104, l104, y104, z104⟩, st104⟩ := Jvm.LawKit.callS X102 hx (y := (⟨"com/example/evenspend/evenspend/SplitMix64NextLongPinLaw", "inverse", "(J)J"⟩ : MethodName)) hown (mvT hZ (hw _ (List.mem_of_getElem? (i := 25) rfl))) (mvT hZ (hw _ (List.mem_of_getElem? (i := 26) rfl))) (mvT hZ (hw _ (List.mem_of_getElem? (i := 27) rfl))) (mvT hZ (hw _ (List.mem_of_getElem? (i := 28) rfl))) (by decide) (backOf (W := 2) (rmV l Z a0 hw [] (-4658895280553007687 : Int64) h0 n0 Z0) hZ (hw _ (List.mem_of_getElem? (i := 28) rfl)) (hw _ (List.mem_of_getElem? (i := 27) rfl)) (by decide) (by decide)) (g := (mkF m 39 #[.val (.long p1), .second, .val (.long (own_ux (27 : Int32) (54 : Int32) ((own_ux (31 : Int32) (62 : Int32) p1) * (own_inv (-7723592293110705685 : Int64))))), .second] [(.long (-4658895280553007687 : Int64)), (.long (own_ux (27 : Int32) (54 : Int32) ((own_ux (31 : Int32) (62 : Int32) p1) * (own_inv (-7723592293110705685 : Int64)))))])) rfl (by rw [hml]; rfl) (argsL := [(.long (-4658895280553007687 : Int64))]) (rest := [(.long (own_ux (27 : Int32) (54 : Int32) ((own_ux (31 : Int32) (62 : Int32) p1) * (own_inv (-7723592293110705685 : Int64)))))]) (lenOf pd_V rfl) rfl (by show 2 * 0 + _ ≤ _; exact Nat.le_of_eq rfl) (hb hby dU_39) (fun _ _ => ⟨rfl, hh102, (by dsimp only [Pt.cells]; decide), (by dsimp only [Pt.slots]; decide)⟩)
  dsimp only [Pt.U, Pt.locs, Pt.cells, Pt.slots] at X104 l104 y104 z104 st104 hQ104
  subst l104 y104 z104
  obtain ⟨rfl, N104, hh104⟩ := hQ104
  refine own_st (S' := T104.setTop (mkF m 42 #[.val (.long p1), .second, .val (.long (own_ux (27 : Int32) (54 : Int32) ((own_ux (31 : Int32) (62 : Int32) p1) * (own_inv (-7723592293110705685 : Int64))))), .second] [(.long (own_inv (-4658895280553007687 : Int64))), (.long (own_ux (27 : Int32) (54 : Int32) ((own_ux (31 : Int32) (62 : Int32) p1) * (own_inv (-7723592293110705685 : Int64)))))])) st104 ?_
  have Nu104 := Fr.app Nu102 N104
  refine own_st (S' := T104.setTop (mkF m 43 #[.val (.long p1), .second, .val (.long (own_ux (27 : Int32) (54 : Int32) ((own_ux (31 : Int32) (62 : Int32) p1) * (own_inv (-7723592293110705685 : Int64))))), .second] [(.long ((own_ux (27 : Int32) (54 : Int32) ((own_ux (31 : Int32) (62 : Int32) p1) * (own_inv (-7723592293110705685 : Int64)))) * (own_inv (-4658895280553007687 : Int64))))])) (fun _ k => XT.lmul X104.here hx rfl (hb hby dU_42) rfl k) ?_
  refine own_st (S' := T104.setTop (mkF m 44 #[.val (.long p1), .second, .val (.long ((own_ux (27 : Int32) (54 : Int32) ((own_ux (31 : Int32) (62 : Int32) p1) * (own_inv (-7723592293110705685 : Int64)))) * (own_inv (-4658895280553007687 : Int64)))), .second] [])) (fun _ k => XT.lstoreN X104.here hx rfl (hb hby dU_43) rfl (l' := #[.val (.long p1), .second, .val (.long ((own_ux (27 : Int32) (54 : Int32) ((own_ux (31 : Int32) (62 : Int32) p1) * (own_inv (-7723592293110705685 : Int64)))) * (own_inv (-4658895280553007687 : Int64)))), .second]) rfl k) ?_
  refine own_st (S' := T104.setTop (mkF m 45 #[.val (.long p1), .second, .val (.long ((own_ux (27 : Int32) (54 : Int32) ((own_ux (31 : Int32) (62 : Int32) p1) * (own_inv (-7723592293110705685 : Int64)))) * (own_inv (-4658895280553007687 : Int64)))), .second] [(.long ((own_ux (27 : Int32) (54 : Int32) ((own_ux (31 : Int32) (62 : Int32) p1) * (own_inv (-7723592293110705685 : Int64)))) * (own_inv (-4658895280553007687 : Int64))))])) (fun _ k => XT.lloadN X104.here hx rfl (hb hby dU_44) rfl k) ?_
  refine own_st (S' := T104.setTop (mkF m 46 #[.val (.long p1), .second, .val (.long ((own_ux (27 : Int32) (54 : Int32) ((own_ux (31 : Int32) (62 : Int32) p1) * (own_inv (-7723592293110705685 : Int64)))) * (own_inv (-4658895280553007687 : Int64)))), .second] [(.long ((own_ux (27 : Int32) (54 : Int32) ((own_ux (31 : Int32) (62 : Int32) p1) * (own_inv (-7723592293110705685 : Int64)))) * (own_inv (-4658895280553007687 : Int64)))), (.long ((own_ux (27 : Int32) (54 : Int32) ((own_ux (31 : Int32) (62 : Int32) p1) * (own_inv (-7723592293110705685 : Int64)))) * (own_inv (-4658895280553007687 : Int64))))])) (fun _ k => XT.lloadN X104.here hx rfl (hb hby dU_45) rfl k) ?_
  refine own_st (S' := T104.setTop (mkF m 48 #[.val (.long p1), .second, .val (.long ((own_ux (27 : Int32) (54 : Int32) ((own_ux (31 : Int32) (62 : Int32) p1) * (own_inv (-7723592293110705685 : Int64)))) * (own_inv (-4658895280553007687 : Int64)))), .second] [(.int (30 : Int32)), (.long ((own_ux (27 : Int32) (54 : Int32) ((own_ux (31 : Int32) (62 : Int32) p1) * (own_inv (-7723592293110705685 : Int64)))) * (own_inv (-4658895280553007687 : Int64)))), (.long ((own_ux (27 : Int32) (54 : Int32) ((own_ux (31 : Int32) (62 : Int32) p1) * (own_inv (-7723592293110705685 : Int64)))) * (own_inv (-4658895280553007687 : Int64))))])) (fun _ k => XS.bipush X104.here hx rfl (hb hby dU_46) k) ?_
  refine own_st (S' := T104.setTop (mkF m 49 #[.val (.long p1), .second, .val (.long ((own_ux (27 : Int32) (54 : Int32) ((own_ux (31 : Int32) (62 : Int32) p1) * (own_inv (-7723592293110705685 : Int64)))) * (own_inv (-4658895280553007687 : Int64)))), .second] [(.long (XT.ushrL ((own_ux (27 : Int32) (54 : Int32) ((own_ux (31 : Int32) (62 : Int32) p1) * (own_inv (-7723592293110705685 : Int64)))) * (own_inv (-4658895280553007687 : Int64))) (30 : Int32))), (.long ((own_ux (27 : Int32) (54 : Int32) ((own_ux (31 : Int32) (62 : Int32) p1) * (own_inv (-7723592293110705685 : Int64)))) * (own_inv (-4658895280553007687 : Int64))))])) (fun _ k => XT.lushr X104.here hx rfl (hb hby dU_48) rfl k) ?_
  refine own_st (S' := T104.setTop (mkF m 50 #[.val (.long p1), .second, .val (.long ((own_ux (27 : Int32) (54 : Int32) ((own_ux (31 : Int32) (62 : Int32) p1) * (own_inv (-7723592293110705685 : Int64)))) * (own_inv (-4658895280553007687 : Int64)))), .second] [(.long (((own_ux (27 : Int32) (54 : Int32) ((own_ux (31 : Int32) (62 : Int32) p1) * (own_inv (-7723592293110705685 : Int64)))) * (own_inv (-4658895280553007687 : Int64))) ^^^ (XT.ushrL ((own_ux (27 : Int32) (54 : Int32) ((own_ux (31 : Int32) (62 : Int32) p1) * (own_inv (-7723592293110705685 : Int64)))) * (own_inv (-4658895280553007687 : Int64))) (30 : Int32))))])) (fun _ k => XT.lxor X104.here hx rfl (hb hby dU_49) rfl k) ?_
  refine own_st (S' := T104.setTop (mkF m 51 #[.val (.long p1), .second, .val (.long ((own_ux (27 : Int32) (54 : Int32) ((own_ux (31 : Int32) (62 : Int32) p1) * (own_inv (-7723592293110705685 : Int64)))) * (own_inv (-4658895280553007687 : Int64)))), .second] [(.long ((own_ux (27 : Int32) (54 : Int32) ((own_ux (31 : Int32) (62 : Int32) p1) * (own_inv (-7723592293110705685 : Int64)))) * (own_inv (-4658895280553007687 : Int64)))), (.long (((own_ux (27 : Int32) (54 : Int32) ((own_ux (31 : Int32) (62 : Int32) p1) * (own_inv (-7723592293110705685 : Int64)))) * (own_inv (-4658895280553007687 : Int64))) ^^^ (XT.ushrL ((own_ux (27 : Int32) (54 : Int32) ((own_ux (31 : Int32) (62 : Int32) p1) * (own_inv (-7723592293110705685 : Int64)))) * (own_inv (-4658895280553007687 : Int64))) (30 : Int32))))])) (fun _ k => XT.lloadN X104.here hx rfl (hb hby dU_50) rfl k) ?_
  refine own_st (S' := T104.setTop (mkF m 53 #[.val (.long p1), .second, .val (.long ((own_ux (27 : Int32) (54 : Int32) ((own_ux (31 : Int32) (62 : Int32) p1) * (own_inv (-7723592293110705685 : Int64)))) * (own_inv (-4658895280553007687 : Int64)))), .second] [(.int (60 : Int32)), (.long ((own_ux (27 : Int32) (54 : Int32) ((own_ux (31 : Int32) (62 : Int32) p1) * (own_inv (-7723592293110705685 : Int64)))) * (own_inv (-4658895280553007687 : Int64)))), (.long (((own_ux (27 : Int32) (54 : Int32) ((own_ux (31 : Int32) (62 : Int32) p1) * (own_inv (-7723592293110705685 : Int64)))) * (own_inv (-4658895280553007687 : Int64))) ^^^ (XT.ushrL ((own_ux (27 : Int32) (54 : Int32) ((own_ux (31 : Int32) (62 : Int32) p1) * (own_inv (-7723592293110705685 : Int64)))) * (own_inv (-4658895280553007687 : Int64))) (30 : Int32))))])) (fun _ k => XS.bipush X104.here hx rfl (hb hby dU_51) k) ?_
  refine own_st (S' := T104.setTop (mkF m 54 #[.val (.long p1), .second, .val (.long ((own_ux (27 : Int32) (54 : Int32) ((own_ux (31 : Int32) (62 : Int32) p1) * (own_inv (-7723592293110705685 : Int64)))) * (own_inv (-4658895280553007687 : Int64)))), .second] [(.long (XT.ushrL ((own_ux (27 : Int32) (54 : Int32) ((own_ux (31 : Int32) (62 : Int32) p1) * (own_inv (-7723592293110705685 : Int64)))) * (own_inv (-4658895280553007687 : Int64))) (60 : Int32))), (.long (((own_ux (27 : Int32) (54 : Int32) ((own_ux (31 : Int32) (62 : Int32) p1) * (own_inv (-7723592293110705685 : Int64)))) * (own_inv (-4658895280553007687 : Int64))) ^^^ (XT.ushrL ((own_ux (27 : Int32) (54 : Int32) ((own_ux (31 : Int32) (62 : Int32) p1) * (own_inv (-7723592293110705685 : Int64)))) * (own_inv (-4658895280553007687 : Int64))) (30 : Int32))))])) (fun _ k => XT.lushr X104.here hx rfl (hb hby dU_53) rfl k) ?_
  refine own_st (S' := T104.setTop (mkF m 55 #[.val (.long p1), .second, .val (.long ((own_ux (27 : Int32) (54 : Int32) ((own_ux (31 : Int32) (62 : Int32) p1) * (own_inv (-7723592293110705685 : Int64)))) * (own_inv (-4658895280553007687 : Int64)))), .second] [(.long ((((own_ux (27 : Int32) (54 : Int32) ((own_ux (31 : Int32) (62 : Int32) p1) * (own_inv (-7723592293110705685 : Int64)))) * (own_inv (-4658895280553007687 : Int64))) ^^^ (XT.ushrL ((own_ux (27 : Int32) (54 : Int32) ((own_ux (31 : Int32) (62 : Int32) p1) * (own_inv (-7723592293110705685 : Int64)))) * (own_inv (-4658895280553007687 : Int64))) (30 : Int32))) ^^^ (XT.ushrL ((own_ux (27 : Int32) (54 : Int32) ((own_ux (31 : Int32) (62 : Int32) p1) * (own_inv (-7723592293110705685 : Int64)))) * (own_inv (-4658895280553007687 : Int64))) (60 : Int32))))])) (fun _ k => XT.lxor X104.here hx rfl (hb hby dU_54) rfl k) ?_
  have tq105 : ((((own_ux (27 : Int32) (54 : Int32) ((own_ux (31 : Int32) (62 : Int32) p1) * (own_inv (-7723592293110705685 : Int64)))) * (own_inv (-4658895280553007687 : Int64))) ^^^ (XT.ushrL ((own_ux (27 : Int32) (54 : Int32) ((own_ux (31 : Int32) (62 : Int32) p1) * (own_inv (-7723592293110705685 : Int64)))) * (own_inv (-4658895280553007687 : Int64))) (30 : Int32))) ^^^ (XT.ushrL ((own_ux (27 : Int32) (54 : Int32) ((own_ux (31 : Int32) (62 : Int32) p1) * (own_inv (-7723592293110705685 : Int64)))) * (own_inv (-4658895280553007687 : Int64))) (60 : Int32))) = (own_ux (30 : Int32) (60 : Int32) ((own_ux (27 : Int32) (54 : Int32) ((own_ux (31 : Int32) (62 : Int32) p1) * (own_inv (-7723592293110705685 : Int64)))) * (own_inv (-4658895280553007687 : Int64)))) := rfl
  refine own_cv (congrArg (fun z => T104.setTop (mkF m 55 #[.val (.long p1), .second, .val (.long ((own_ux (27 : Int32) (54 : Int32) ((own_ux (31 : Int32) (62 : Int32) p1) * (own_inv (-7723592293110705685 : Int64)))) * (own_inv (-4658895280553007687 : Int64)))), .second] [(.long z)])) tq105) ?_
  show own_Go p.tables e below _ (T104.setTop (mkF m 55 #[.val (.long p1), .second, .val (.long ((own_ux (27 : Int32) (54 : Int32) ((own_ux (31 : Int32) (62 : Int32) p1) * (own_inv (-7723592293110705685 : Int64)))) * (own_inv (-4658895280553007687 : Int64)))), .second] [(.long (own_ux (30 : Int32) (60 : Int32) ((own_ux (27 : Int32) (54 : Int32) ((own_ux (31 : Int32) (62 : Int32) p1) * (own_inv (-7723592293110705685 : Int64)))) * (own_inv (-4658895280553007687 : Int64)))))]))
  refine own_st (S' := T104.setTop (mkF m 56 #[.val (.long p1), .second, .val (.long (own_ux (30 : Int32) (60 : Int32) ((own_ux (27 : Int32) (54 : Int32) ((own_ux (31 : Int32) (62 : Int32) p1) * (own_inv (-7723592293110705685 : Int64)))) * (own_inv (-4658895280553007687 : Int64))))), .second] [])) (fun _ k => XT.lstoreN X104.here hx rfl (hb hby dU_55) rfl (l' := #[.val (.long p1), .second, .val (.long (own_ux (30 : Int32) (60 : Int32) ((own_ux (27 : Int32) (54 : Int32) ((own_ux (31 : Int32) (62 : Int32) p1) * (own_inv (-7723592293110705685 : Int64)))) * (own_inv (-4658895280553007687 : Int64))))), .second]) rfl k) ?_
  refine own_st (S' := T104.setTop (mkF m 57 #[.val (.long p1), .second, .val (.long (own_ux (30 : Int32) (60 : Int32) ((own_ux (27 : Int32) (54 : Int32) ((own_ux (31 : Int32) (62 : Int32) p1) * (own_inv (-7723592293110705685 : Int64)))) * (own_inv (-4658895280553007687 : Int64))))), .second] [(.long (own_ux (30 : Int32) (60 : Int32) ((own_ux (27 : Int32) (54 : Int32) ((own_ux (31 : Int32) (62 : Int32) p1) * (own_inv (-7723592293110705685 : Int64)))) * (own_inv (-4658895280553007687 : Int64)))))])) (fun _ k => XT.lloadN X104.here hx rfl (hb hby dU_56) rfl k) ?_
  have tq106 : (own_ux (30 : Int32) (60 : Int32) ((own_ux (27 : Int32) (54 : Int32) ((own_ux (31 : Int32) (62 : Int32) p1) * (own_inv (-7723592293110705685 : Int64)))) * (own_inv (-4658895280553007687 : Int64)))) = (own_un p1) := rfl
  refine own_cv (congrArg (fun z => T104.setTop (mkF m 57 #[.val (.long p1), .second, .val (.long (own_ux (30 : Int32) (60 : Int32) ((own_ux (27 : Int32) (54 : Int32) ((own_ux (31 : Int32) (62 : Int32) p1) * (own_inv (-7723592293110705685 : Int64)))) * (own_inv (-4658895280553007687 : Int64))))), .second] [(.long z)])) tq106) ?_
  show own_Go p.tables e below _ (T104.setTop (mkF m 57 #[.val (.long p1), .second, .val (.long (own_ux (30 : Int32) (60 : Int32) ((own_ux (27 : Int32) (54 : Int32) ((own_ux (31 : Int32) (62 : Int32) p1) * (own_inv (-7723592293110705685 : Int64)))) * (own_inv (-4658895280553007687 : Int64))))), .second] [(.long (own_un p1))]))
  refine own_end X104 (Q := (QU Z p1 h0 n0)) (some (.long (own_un p1))) Bd.notSynchronized (fun h => by rw [Bd.returns] at h; cases h) (fun fs hr => X104.lreturnOut hx Bd.returns (hb hby dU_57) hr) ?_ (by decide) (by decide)
  rw [hh104]
  exact ⟨rfl, Nu104, rfl⟩
theorem pn_0 : plainName "com/example/evenspend/evenspend/SplitMix64NextLongPinLaw" = true := by first | (simp [plainName, overriddenIn]; done) | decide +kernel
theorem ef_0 (m : MethodId) (p1 : Int64) : entryFrame m #[(.long p1)] maxLocals = mkF m 0 #[.val (.long p1), .second, .unset, .unset, .unset, .unset, .unset, .unset, .unset, .unset, .unset, .unset] [] := by first | (simp [entryFrame, mkF, argsToLocals, Value.category, maxLocals]; done) | rfl
def Q0 (Z : State) (p1 : Int64) (h0 : Heap) (n0 : Nat) (v : Option Value) (h : Heap) (L : List Loc) : Prop := v = some (.int 1) ∧ Fr n0 L
set_option maxRecDepth 65536 in
set_option maxHeartbeats 40000000 in
theorem rm0 (l : Launch) (Z : State) (a0 : Array Value) (hw : ∀ d ∈ tables_1, d.before a0 Z = true) (ws : List Jvm.Cond) (p1 : Int64) (h0 : Heap) (n0 : Nat) (Z0 : n0 ≤ h0.size) :
    MetFree l x (head1 (Jvm.Cond.code x code maxLocals ret :: ws) room_1) (fun a U => a = #[(.long p1)] ∧ Z.Warmed39 U.vm ∧ U.heap = h0) (fun _ _ _ _ _ => True) (fun _ U o U' => ∃ v L, o = .returned v ∧ Q0 Z p1 h0 n0 v U'.heap L ∧ FrameEnd U o U' L room_1.cells room_1.slots) := by
  refine MetFree.of_bodySF (plainFor_of_name pn_0) hisR ?_
  intro p e s m args below meth c s₁ Bd hml0 hP hK
  obtain ⟨rfl, hZ, hh⟩ := hP
  have hx := Bd.exec
  have hby := Bd.bytes
  have hml : c.maxLocals = 12 := hml0
  have hown : s.vm.findClass "com/example/evenspend/evenspend/SplitMix64NextLongPinLaw" = some m.cls := findClass_of_methodNamed Bd.named
  have hnm := (name_of_methodNamed Bd.named Bd.method).1
  have X0 : Stand p l e room_1 s m #[(.long p1)] below meth c s₁ [] 0 0 := Stand.of_body Bd
  have e0 : s₁.heap = h0 := by rw [← hh, Bd.state]; rfl
  have N0 := Fr.nil n0
  show own_Go p.tables e below (fun t o => ∃ v L, o = .returned v ∧ Q0 Z p1 h0 n0 v t.heap L ∧ FrameEnd s o t L room_1.cells room_1.slots) (s₁.setTop (entryFrame m #[(.long p1)] maxLocals))
  rw [ef_0]
  show own_Go p.tables e below _ (s₁.setTop (mkF m 0 #[.val (.long p1), .second, .unset, .unset, .unset, .unset, .unset, .unset, .unset, .unset, .unset, .unset] []))
  obtain ⟨T101, h101, X101, e101, E101, A101, D101, -, st101⟩ := newO X0 hx hZ hown (hw _ (List.mem_of_getElem? (i := 0) rfl)) (hw _ (List.mem_of_getElem? (i := 1) rfl)) (hw _ (List.mem_of_getElem? (i := 2) rfl)) e0 (g := (mkF m 0 #[.val (.long p1), .second, .unset, .unset, .unset, .unset, .unset, .unset, .unset, .unset, .unset, .unset] [])) rfl (hb hby at_0) (by decide) (by decide)
  obtain ⟨a101, ga101⟩ : ∃ z, z = h0.size := ⟨_, rfl⟩
  rw [← ga101] at A101 D101 st101
  refine own_st (S' := T101.setTop (mkF m 3 #[.val (.long p1), .second, .unset, .unset, .unset, .unset, .unset, .unset, .unset, .unset, .unset, .unset] [(.ref a101)])) st101 ?_
  have F0 : (Fld Z h101 a101 "com/example/evenspend/evenspend/SplitMix64" "state" "J" (.long (0 : Int64))) := D101 (Or.inl (hw _ (List.mem_of_getElem? (i := 10) rfl))) (ty := .long) (by decide)
  have Zs : n0 ≤ h101.size := Nat.le_trans Z0 E101.1
  have ge : n0 ≤ a101 := by rw [ga101]; exact Z0
  refine own_st (S' := T101.setTop (mkF m 4 #[.val (.long p1), .second, .unset, .unset, .unset, .unset, .unset, .unset, .unset, .unset, .unset, .unset] [(.ref a101), (.ref a101)])) (fun _ k => XS.dup X101.here hx rfl (hb hby at_3) rfl rfl k) ?_
  refine own_st (S' := T101.setTop (mkF m 5 #[.val (.long p1), .second, .unset, .unset, .unset, .unset, .unset, .unset, .unset, .unset, .unset, .unset] [(.long p1), (.ref a101), (.ref a101)])) (fun _ k => XT.lloadN X101.here hx rfl (hb hby at_4) rfl k) ?_
  obtain ⟨_, _, ⟨T102, L102, k102, n102⟩, -, X102, ⟨Lc102, hQ102, l102, y102, z102⟩, st102⟩ := X101.specialBack hx (y := (⟨"com/example/evenspend/evenspend/SplitMix64", "<init>", "(J)V"⟩ : MethodName)) rfl hown (mvT hZ (hw _ (List.mem_of_getElem? (i := 3) rfl))) (mvT hZ (hw _ (List.mem_of_getElem? (i := 4) rfl))) (mvT hZ (hw _ (List.mem_of_getElem? (i := 5) rfl))) (by decide) (backOf (W := 1) (rmI l Z a0 hw [] a101 p1 h101 n0 Zs F0 A101 ge) hZ (hw _ (List.mem_of_getElem? (i := 5) rfl)) (hw _ (List.mem_of_getElem? (i := 2) rfl)) (by decide) (by decide)) (g := (mkF m 5 #[.val (.long p1), .second, .unset, .unset, .unset, .unset, .unset, .unset, .unset, .unset, .unset, .unset] [(.long p1), (.ref a101), (.ref a101)])) rfl (by rw [hml]; rfl) (Steps.refl _) (a := a101) (argsL := [(.long p1)]) (rest := [(.ref a101)]) (lenOf pd_I rfl) rfl (by show 2 * 0 + _ ≤ _; exact Nat.le_of_eq rfl) (hb hby at_5) (fun _ _ => ⟨rfl, e101, (by decide : 1 + 0 ≤ _), (by decide : 1 + 0 ≤ _)⟩)
  dsimp only [Pt.U, Pt.locs, Pt.cells, Pt.slots] at X102 l102 y102 z102 st102 hQ102
  subst l102 y102 z102
  obtain ⟨rfl, N102, K102, Ex102, F102⟩ := hQ102
  refine own_tr (S' := T102.setTop (mkF m 8 #[.val (.long p1), .second, .unset, .unset, .unset, .unset, .unset, .unset, .unset, .unset, .unset, .unset] [(.ref a101)])) st102 ?_
  have Nf := Fr.app N0 N102
  have Zs102 := Nat.le_trans Zs K102.1
  refine own_st (S' := T102.setTop (mkF m 9 #[.val (.long p1), .second, .val (.ref a101), .unset, .unset, .unset, .unset, .unset, .unset, .unset, .unset, .unset] [])) (fun _ k => XS.astoreN X102.here hx rfl (hb hby at_8) rfl rfl (l' := #[.val (.long p1), .second, .val (.ref a101), .unset, .unset, .unset, .unset, .unset, .unset, .unset, .unset, .unset]) rfl k) ?_
  refine own_st (S' := T102.setTop (mkF m 10 #[.val (.long p1), .second, .val (.ref a101), .unset, .unset, .unset, .unset, .unset, .unset, .unset, .unset, .unset] [(.ref a101)])) (fun _ k => XS.aloadN X102.here hx rfl (hb hby at_9) rfl rfl k) ?_
  obtain ⟨cq103, kq103, q103a, q103b, q103c⟩ := isOf hZ rfl Ex102
  obtain ⟨_, _, ⟨T103, L103, k103, n103⟩, -, X103, ⟨Lc103, hQ103, l103, y103, z103⟩, st103⟩ := X102.virtualBack hx (y := (⟨"com/example/evenspend/evenspend/SplitMix64", "nextLong", "()J"⟩ : MethodName)) (z := (⟨"com/example/evenspend/evenspend/SplitMix64", "nextLong", "()J"⟩ : MethodName)) hown (mvT hZ (hw _ (List.mem_of_getElem? (i := 11) rfl))) (mvT hZ (hw _ (List.mem_of_getElem? (i := 12) rfl))) (notFace_of_selects (args := #[]) (mvT hZ (hw _ (List.mem_of_getElem? (i := 14) rfl)))) (mvT hZ (hw _ (List.mem_of_getElem? (i := 14) rfl))) (mvT hZ (hw _ (List.mem_of_getElem? (i := 13) rfl))) (by decide) (backOf (W := 0) (rmN l Z a0 hw [] a101 p1 T102.heap n0 Zs102 F102 Ex102 ge) hZ (hw _ (List.mem_of_getElem? (i := 15) rfl)) (hw _ (List.mem_of_getElem? (i := 2) rfl)) (by decide) (by decide)) q103a q103c (g := (mkF m 10 #[.val (.long p1), .second, .val (.ref a101), .unset, .unset, .unset, .unset, .unset, .unset, .unset, .unset, .unset] [(.ref a101)])) rfl (by rw [hml]; rfl) (Steps.refl _) (argsL := []) (rest := []) (lenOf pd_N rfl) rfl (by show 2 * 0 + _ ≤ _; exact Nat.le_of_eq rfl) (hb hby at_10) (fun _ _ => ⟨rfl, rfl, (by decide : 1 + 0 ≤ _), (by decide : 1 + 0 ≤ _)⟩)
  dsimp only [Pt.U, Pt.locs, Pt.cells, Pt.slots] at X103 l103 y103 z103 st103 hQ103
  subst l103 y103 z103
  obtain ⟨rfl, N103, K103, Ex103, F103⟩ := hQ103
  refine own_tr (S' := T103.setTop (mkF m 13 #[.val (.long p1), .second, .val (.ref a101), .unset, .unset, .unset, .unset, .unset, .unset, .unset, .unset, .unset] [(.long (own_mix (p1 + (-7046029254386353131 : Int64))))])) st103 ?_
  have Nx103 := Fr.app Nf N103
  have Zs103 := Nat.le_trans Zs102 K103.1
  refine own_st (S' := T103.setTop (mkF m 14 #[.val (.long p1), .second, .val (.ref a101), .val (.long (own_mix (p1 + (-7046029254386353131 : Int64)))), .second, .unset, .unset, .unset, .unset, .unset, .unset, .unset] [])) (fun _ k => XT.lstoreN X103.here hx rfl (hb hby at_13) rfl (l' := #[.val (.long p1), .second, .val (.ref a101), .val (.long (own_mix (p1 + (-7046029254386353131 : Int64)))), .second, .unset, .unset, .unset, .unset, .unset, .unset, .unset]) rfl k) ?_
  refine own_st (S' := T103.setTop (mkF m 15 #[.val (.long p1), .second, .val (.ref a101), .val (.long (own_mix (p1 + (-7046029254386353131 : Int64)))), .second, .unset, .unset, .unset, .unset, .unset, .unset, .unset] [(.ref a101)])) (fun _ k => XS.aloadN X103.here hx rfl (hb hby at_14) rfl rfl k) ?_
  obtain ⟨cq104, kq104, q104a, q104b, q104c⟩ := isOf hZ rfl Ex103
  obtain ⟨_, _, ⟨T104, L104, k104, n104⟩, -, X104, ⟨Lc104, hQ104, l104, y104, z104⟩, st104⟩ := X103.virtualBack hx (y := (⟨"com/example/evenspend/evenspend/SplitMix64", "state", "()J"⟩ : MethodName)) (z := (⟨"com/example/evenspend/evenspend/SplitMix64", "state", "()J"⟩ : MethodName)) hown (mvT hZ (hw _ (List.mem_of_getElem? (i := 19) rfl))) (mvT hZ (hw _ (List.mem_of_getElem? (i := 20) rfl))) (notFace_of_selects (args := #[]) (mvT hZ (hw _ (List.mem_of_getElem? (i := 22) rfl)))) (mvT hZ (hw _ (List.mem_of_getElem? (i := 22) rfl))) (mvT hZ (hw _ (List.mem_of_getElem? (i := 21) rfl))) (by decide) (backOf (W := 0) (rmS l Z a0 hw [] a101 (p1 + (-7046029254386353131 : Int64)) T103.heap n0 Zs103 F103) hZ (hw _ (List.mem_of_getElem? (i := 23) rfl)) (hw _ (List.mem_of_getElem? (i := 2) rfl)) (by decide) (by decide)) q104a q104c (g := (mkF m 15 #[.val (.long p1), .second, .val (.ref a101), .val (.long (own_mix (p1 + (-7046029254386353131 : Int64)))), .second, .unset, .unset, .unset, .unset, .unset, .unset, .unset] [(.ref a101)])) rfl (by rw [hml]; rfl) (Steps.refl _) (argsL := []) (rest := []) (lenOf pd_S rfl) rfl (by show 2 * 0 + _ ≤ _; exact Nat.le_of_eq rfl) (hb hby at_15) (fun _ _ => ⟨rfl, rfl, (by decide : 1 + 0 ≤ _), (by decide : 1 + 0 ≤ _)⟩)
  dsimp only [Pt.U, Pt.locs, Pt.cells, Pt.slots] at X104 l104 y104 z104 st104 hQ104
  subst l104 y104 z104
  obtain ⟨rfl, N104, hh104⟩ := hQ104
  refine own_tr (S' := T104.setTop (mkF m 18 #[.val (.long p1), .second, .val (.ref a101), .val (.long (own_mix (p1 + (-7046029254386353131 : Int64)))), .second, .unset, .unset, .unset, .unset, .unset, .unset, .unset] [(.long (p1 + (-7046029254386353131 : Int64)))])) st104 ?_
  have Nx104 := Fr.app Nx103 N104
  refine own_st (S' := T104.setTop (mkF m 20 #[.val (.long p1), .second, .val (.ref a101), .val (.long (own_mix (p1 + (-7046029254386353131 : Int64)))), .second, .val (.long (p1 + (-7046029254386353131 : Int64))), .second, .unset, .unset, .unset, .unset, .unset] [])) (fun _ k => XT.lstore X104.here hx rfl (hb hby at_18) rfl (l' := #[.val (.long p1), .second, .val (.ref a101), .val (.long (own_mix (p1 + (-7046029254386353131 : Int64)))), .second, .val (.long (p1 + (-7046029254386353131 : Int64))), .second, .unset, .unset, .unset, .unset, .unset]) rfl k) ?_
  refine own_st (S' := T104.setTop (mkF m 21 #[.val (.long p1), .second, .val (.ref a101), .val (.long (own_mix (p1 + (-7046029254386353131 : Int64)))), .second, .val (.long (p1 + (-7046029254386353131 : Int64))), .second, .unset, .unset, .unset, .unset, .unset] [(.ref a101)])) (fun _ k => XS.aloadN X104.here hx rfl (hb hby at_20) rfl rfl k) ?_
  obtain ⟨cq105, kq105, q105a, q105b, q105c⟩ := isOf hZ hh104 Ex103
  obtain ⟨_, _, ⟨T105, L105, k105, n105⟩, -, X105, ⟨Lc105, hQ105, l105, y105, z105⟩, st105⟩ := X104.virtualBack hx (y := (⟨"com/example/evenspend/evenspend/SplitMix64", "nextLong", "()J"⟩ : MethodName)) (z := (⟨"com/example/evenspend/evenspend/SplitMix64", "nextLong", "()J"⟩ : MethodName)) hown (mvT hZ (hw _ (List.mem_of_getElem? (i := 11) rfl))) (mvT hZ (hw _ (List.mem_of_getElem? (i := 12) rfl))) (notFace_of_selects (args := #[]) (mvT hZ (hw _ (List.mem_of_getElem? (i := 14) rfl)))) (mvT hZ (hw _ (List.mem_of_getElem? (i := 14) rfl))) (mvT hZ (hw _ (List.mem_of_getElem? (i := 13) rfl))) (by decide) (backOf (W := 0) (rmN l Z a0 hw [] a101 (p1 + (-7046029254386353131 : Int64)) T103.heap n0 Zs103 F103 Ex103 ge) hZ (hw _ (List.mem_of_getElem? (i := 15) rfl)) (hw _ (List.mem_of_getElem? (i := 2) rfl)) (by decide) (by decide)) q105a q105c (g := (mkF m 21 #[.val (.long p1), .second, .val (.ref a101), .val (.long (own_mix (p1 + (-7046029254386353131 : Int64)))), .second, .val (.long (p1 + (-7046029254386353131 : Int64))), .second, .unset, .unset, .unset, .unset, .unset] [(.ref a101)])) rfl (by rw [hml]; rfl) (Steps.refl _) (argsL := []) (rest := []) (lenOf pd_N rfl) rfl (by show 2 * 0 + _ ≤ _; exact Nat.le_of_eq rfl) (hb hby at_21) (fun _ _ => ⟨rfl, hh104, (by decide : 1 + 0 ≤ _), (by decide : 1 + 0 ≤ _)⟩)
  dsimp only [Pt.U, Pt.locs, Pt.cells, Pt.slots] at X105 l105 y105 z105 st105 hQ105
  subst l105 y105 z105
  obtain ⟨rfl, N105, K105, Ex105, F105⟩ := hQ105
  refine own_tr (S' := T105.setTop (mkF m 24 #[.val (.long p1), .second, .val (.ref a101), .val (.long (own_mix (p1 + (-7046029254386353131 : Int64)))), .second, .val (.long (p1 + (-7046029254386353131 : Int64))), .second, .unset, .unset, .unset, .unset, .unset] [(.long (own_mix ((p1 + (-7046029254386353131 : Int64)) + (-7046029254386353131 : Int64))))])) st105 ?_
  have Nx105 := Fr.app Nx104 N105
  have Zs105 := Nat.le_trans Zs103 K105.1
  refine own_st (S' := T105.setTop (mkF m 26 #[.val (.long p1), .second, .val (.ref a101), .val (.long (own_mix (p1 + (-7046029254386353131 : Int64)))), .second, .val (.long (p1 + (-7046029254386353131 : Int64))), .second, .val (.long (own_mix ((p1 + (-7046029254386353131 : Int64)) + (-7046029254386353131 : Int64)))), .second, .unset, .unset, .unset] [])) (fun _ k => XT.lstore X105.here hx rfl (hb hby at_24) rfl (l' := #[.val (.long p1), .second, .val (.ref a101), .val (.long (own_mix (p1 + (-7046029254386353131 : Int64)))), .second, .val (.long (p1 + (-7046029254386353131 : Int64))), .second, .val (.long (own_mix ((p1 + (-7046029254386353131 : Int64)) + (-7046029254386353131 : Int64)))), .second, .unset, .unset, .unset]) rfl k) ?_
  refine own_st (S' := T105.setTop (mkF m 27 #[.val (.long p1), .second, .val (.ref a101), .val (.long (own_mix (p1 + (-7046029254386353131 : Int64)))), .second, .val (.long (p1 + (-7046029254386353131 : Int64))), .second, .val (.long (own_mix ((p1 + (-7046029254386353131 : Int64)) + (-7046029254386353131 : Int64)))), .second, .unset, .unset, .unset] [(.ref a101)])) (fun _ k => XS.aloadN X105.here hx rfl (hb hby at_26) rfl rfl k) ?_
  obtain ⟨cq106, kq106, q106a, q106b, q106c⟩ := isOf hZ rfl Ex105
  obtain ⟨_, _, ⟨T106, L106, k106, n106⟩, -, X106, ⟨Lc106, hQ106, l106, y106, z106⟩, st106⟩ := X105.virtualBack hx (y := (⟨"com/example/evenspend/evenspend/SplitMix64", "state", "()J"⟩ : MethodName)) (z := (⟨"com/example/evenspend/evenspend/SplitMix64", "state", "()J"⟩ : MethodName)) hown (mvT hZ (hw _ (List.mem_of_getElem? (i := 19) rfl))) (mvT hZ (hw _ (List.mem_of_getElem? (i := 20) rfl))) (notFace_of_selects (args := #[]) (mvT hZ (hw _ (List.mem_of_getElem? (i := 22) rfl)))) (mvT hZ (hw _ (List.mem_of_getElem? (i := 22) rfl))) (mvT hZ (hw _ (List.mem_of_getElem? (i := 21) rfl))) (by decide) (backOf (W := 0) (rmS l Z a0 hw [] a101 ((p1 + (-7046029254386353131 : Int64)) + (-7046029254386353131 : Int64)) T105.heap n0 Zs105 F105) hZ (hw _ (List.mem_of_getElem? (i := 23) rfl)) (hw _ (List.mem_of_getElem? (i := 2) rfl)) (by decide) (by decide)) q106a q106c (g := (mkF m 27 #[.val (.long p1), .second, .val (.ref a101), .val (.long (own_mix (p1 + (-7046029254386353131 : Int64)))), .second, .val (.long (p1 + (-7046029254386353131 : Int64))), .second, .val (.long (own_mix ((p1 + (-7046029254386353131 : Int64)) + (-7046029254386353131 : Int64)))), .second, .unset, .unset, .unset] [(.ref a101)])) rfl (by rw [hml]; rfl) (Steps.refl _) (argsL := []) (rest := []) (lenOf pd_S rfl) rfl (by show 2 * 0 + _ ≤ _; exact Nat.le_of_eq rfl) (hb hby at_27) (fun _ _ => ⟨rfl, rfl, (by decide : 1 + 0 ≤ _), (by decide : 1 + 0 ≤ _)⟩)
  dsimp only [Pt.U, Pt.locs, Pt.cells, Pt.slots] at X106 l106 y106 z106 st106 hQ106
  subst l106 y106 z106
  obtain ⟨rfl, N106, hh106⟩ := hQ106
  refine own_tr (S' := T106.setTop (mkF m 30 #[.val (.long p1), .second, .val (.ref a101), .val (.long (own_mix (p1 + (-7046029254386353131 : Int64)))), .second, .val (.long (p1 + (-7046029254386353131 : Int64))), .second, .val (.long (own_mix ((p1 + (-7046029254386353131 : Int64)) + (-7046029254386353131 : Int64)))), .second, .unset, .unset, .unset] [(.long ((p1 + (-7046029254386353131 : Int64)) + (-7046029254386353131 : Int64)))])) st106 ?_
  have Nx106 := Fr.app Nx105 N106
  refine own_st (S' := T106.setTop (mkF m 32 #[.val (.long p1), .second, .val (.ref a101), .val (.long (own_mix (p1 + (-7046029254386353131 : Int64)))), .second, .val (.long (p1 + (-7046029254386353131 : Int64))), .second, .val (.long (own_mix ((p1 + (-7046029254386353131 : Int64)) + (-7046029254386353131 : Int64)))), .second, .val (.long ((p1 + (-7046029254386353131 : Int64)) + (-7046029254386353131 : Int64))), .second, .unset] [])) (fun _ k => XT.lstore X106.here hx rfl (hb hby at_30) rfl (l' := #[.val (.long p1), .second, .val (.ref a101), .val (.long (own_mix (p1 + (-7046029254386353131 : Int64)))), .second, .val (.long (p1 + (-7046029254386353131 : Int64))), .second, .val (.long (own_mix ((p1 + (-7046029254386353131 : Int64)) + (-7046029254386353131 : Int64)))), .second, .val (.long ((p1 + (-7046029254386353131 : Int64)) + (-7046029254386353131 : Int64))), .second, .unset]) rfl k) ?_
  refine own_st (S' := T106.setTop (mkF m 35 #[.val (.long p1), .second, .val (.ref a101), .val (.long (own_mix (p1 + (-7046029254386353131 : Int64)))), .second, .val (.long (p1 + (-7046029254386353131 : Int64))), .second, .val (.long (own_mix ((p1 + (-7046029254386353131 : Int64)) + (-7046029254386353131 : Int64)))), .second, .val (.long ((p1 + (-7046029254386353131 : Int64)) + (-7046029254386353131 : Int64))), .second, .unset] [(.long (-4658895280553007687 : Int64))])) (fun _ k => X106.ldc2J hx hown (mvT hZ (hw _ (List.mem_of_getElem? (i := 24) rfl))) rfl (hb hby at_32) k) ?_
  obtain ⟨_, _, ⟨T107, L107, k107, n107⟩, -, X107, ⟨Lc107, hQ107, l107, y107, z107⟩, st107⟩ := Jvm.LawKit.callS X106 hx (y := (⟨"com/example/evenspend/evenspend/SplitMix64NextLongPinLaw", "inverse", "(J)J"⟩ : MethodName)) hown (mvT hZ (hw _ (List.mem_of_getElem? (i := 25) rfl))) (mvT hZ (hw _ (List.mem_of_getElem? (i := 26) rfl))) (mvT hZ (hw _ (List.mem_of_getElem? (i := 27) rfl))) (mvT hZ (hw _ (List.mem_of_getElem? (i := 28) rfl))) (by decide) (backOf (W := 0) (rmV l Z a0 hw [] (-4658895280553007687 : Int64) T105.heap n0 Zs105) hZ (hw _ (List.mem_of_getElem? (i := 28) rfl)) (hw _ (List.mem_of_getElem? (i := 27) rfl)) (by decide) (by decide)) (g := (mkF m 35 #[.val (.long p1), .second, .val (.ref a101), .val (.long (own_mix (p1 + (-7046029254386353131 : Int64)))), .second, .val (.long (p1 + (-7046029254386353131 : Int64))), .second, .val (.long (own_mix ((p1 + (-7046029254386353131 : Int64)) + (-7046029254386353131 : Int64)))), .second, .val (.long ((p1 + (-7046029254386353131 : Int64)) + (-7046029254386353131 : Int64))), .second, .unset] [(.long (-4658895280553007687 : Int64))])) rfl (by rw [hml]; rfl) (argsL := [(.long (-4658895280553007687 : Int64))]) (rest := []) (lenOf pd_V rfl) rfl (by show 2 * 0 + _ ≤ _; exact Nat.le_of_eq rfl) (hb hby at_35) (fun _ _ => ⟨rfl, hh106, (by decide : 1 + 0 ≤ _), (by decide : 1 + 0 ≤ _)⟩)
  dsimp only [Pt.U, Pt.locs, Pt.cells, Pt.slots] at X107 l107 y107 z107 st107 hQ107
  subst l107 y107 z107
  obtain ⟨rfl, N107, hh107⟩ := hQ107
  refine own_st (S' := T107.setTop (mkF m 38 #[.val (.long p1), .second, .val (.ref a101), .val (.long (own_mix (p1 + (-7046029254386353131 : Int64)))), .second, .val (.long (p1 + (-7046029254386353131 : Int64))), .second, .val (.long (own_mix ((p1 + (-7046029254386353131 : Int64)) + (-7046029254386353131 : Int64)))), .second, .val (.long ((p1 + (-7046029254386353131 : Int64)) + (-7046029254386353131 : Int64))), .second, .unset] [(.long (own_inv (-4658895280553007687 : Int64)))])) st107 ?_
  have Nx107 := Fr.app Nx106 N107
  refine own_st (S' := T107.setTop (mkF m 41 #[.val (.long p1), .second, .val (.ref a101), .val (.long (own_mix (p1 + (-7046029254386353131 : Int64)))), .second, .val (.long (p1 + (-7046029254386353131 : Int64))), .second, .val (.long (own_mix ((p1 + (-7046029254386353131 : Int64)) + (-7046029254386353131 : Int64)))), .second, .val (.long ((p1 + (-7046029254386353131 : Int64)) + (-7046029254386353131 : Int64))), .second, .unset] [(.long (-4658895280553007687 : Int64)), (.long (own_inv (-4658895280553007687 : Int64)))])) (fun _ k => X107.ldc2J hx hown (mvT hZ (hw _ (List.mem_of_getElem? (i := 24) rfl))) rfl (hb hby at_38) k) ?_
  refine own_st (S' := T107.setTop (mkF m 42 #[.val (.long p1), .second, .val (.ref a101), .val (.long (own_mix (p1 + (-7046029254386353131 : Int64)))), .second, .val (.long (p1 + (-7046029254386353131 : Int64))), .second, .val (.long (own_mix ((p1 + (-7046029254386353131 : Int64)) + (-7046029254386353131 : Int64)))), .second, .val (.long ((p1 + (-7046029254386353131 : Int64)) + (-7046029254386353131 : Int64))), .second, .unset] [(.long ((own_inv (-4658895280553007687 : Int64)) * (-4658895280553007687 : Int64)))])) (fun _ k => XT.lmul X107.here hx rfl (hb hby at_41) rfl k) ?_
  refine own_st (S' := T107.setTop (mkF m 43 #[.val (.long p1), .second, .val (.ref a101), .val (.long (own_mix (p1 + (-7046029254386353131 : Int64)))), .second, .val (.long (p1 + (-7046029254386353131 : Int64))), .second, .val (.long (own_mix ((p1 + (-7046029254386353131 : Int64)) + (-7046029254386353131 : Int64)))), .second, .val (.long ((p1 + (-7046029254386353131 : Int64)) + (-7046029254386353131 : Int64))), .second, .unset] [(.long (1 : Int64)), (.long ((own_inv (-4658895280553007687 : Int64)) * (-4658895280553007687 : Int64)))])) (fun _ k => XT.lconst X107.here hx rfl (hb hby at_42) k) ?_
  refine own_st (S' := T107.setTop (mkF m 44 #[.val (.long p1), .second, .val (.ref a101), .val (.long (own_mix (p1 + (-7046029254386353131 : Int64)))), .second, .val (.long (p1 + (-7046029254386353131 : Int64))), .second, .val (.long (own_mix ((p1 + (-7046029254386353131 : Int64)) + (-7046029254386353131 : Int64)))), .second, .val (.long ((p1 + (-7046029254386353131 : Int64)) + (-7046029254386353131 : Int64))), .second, .unset] [(.int (XT.cmpL ((own_inv (-4658895280553007687 : Int64)) * (-4658895280553007687 : Int64)) (1 : Int64)))])) (fun _ k => XT.lcmp X107.here hx rfl (hb hby at_43) rfl k) ?_
  refine own_st (S' := T107.setTop (mkF m 47 #[.val (.long p1), .second, .val (.ref a101), .val (.long (own_mix (p1 + (-7046029254386353131 : Int64)))), .second, .val (.long (p1 + (-7046029254386353131 : Int64))), .second, .val (.long (own_mix ((p1 + (-7046029254386353131 : Int64)) + (-7046029254386353131 : Int64)))), .second, .val (.long ((p1 + (-7046029254386353131 : Int64)) + (-7046029254386353131 : Int64))), .second, .unset] [])) (fun _ k => XS.ifNo X107.here hx rfl (hb hby at_44) rfl ((own_l_ne _ _).trans (decide_eq_false (p := Int64.toInt ((own_inv (-4658895280553007687 : Int64)) * (-4658895280553007687 : Int64)) ≠ 1) (fun h => h (congrArg Int64.toInt own_i1)))) k) ?_
  refine own_st (S' := T107.setTop (mkF m 50 #[.val (.long p1), .second, .val (.ref a101), .val (.long (own_mix (p1 + (-7046029254386353131 : Int64)))), .second, .val (.long (p1 + (-7046029254386353131 : Int64))), .second, .val (.long (own_mix ((p1 + (-7046029254386353131 : Int64)) + (-7046029254386353131 : Int64)))), .second, .val (.long ((p1 + (-7046029254386353131 : Int64)) + (-7046029254386353131 : Int64))), .second, .unset] [(.long (-7723592293110705685 : Int64))])) (fun _ k => X107.ldc2J hx hown (mvT hZ (hw _ (List.mem_of_getElem? (i := 30) rfl))) rfl (hb hby at_47) k) ?_
  obtain ⟨_, _, ⟨T108, L108, k108, n108⟩, -, X108, ⟨Lc108, hQ108, l108, y108, z108⟩, st108⟩ := Jvm.LawKit.callS X107 hx (y := (⟨"com/example/evenspend/evenspend/SplitMix64NextLongPinLaw", "inverse", "(J)J"⟩ : MethodName)) hown (mvT hZ (hw _ (List.mem_of_getElem? (i := 25) rfl))) (mvT hZ (hw _ (List.mem_of_getElem? (i := 26) rfl))) (mvT hZ (hw _ (List.mem_of_getElem? (i := 27) rfl))) (mvT hZ (hw _ (List.mem_of_getElem? (i := 28) rfl))) (by decide) (backOf (W := 0) (rmV l Z a0 hw [] (-7723592293110705685 : Int64) T105.heap n0 Zs105) hZ (hw _ (List.mem_of_getElem? (i := 28) rfl)) (hw _ (List.mem_of_getElem? (i := 27) rfl)) (by decide) (by decide)) (g := (mkF m 50 #[.val (.long p1), .second, .val (.ref a101), .val (.long (own_mix (p1 + (-7046029254386353131 : Int64)))), .second, .val (.long (p1 + (-7046029254386353131 : Int64))), .second, .val (.long (own_mix ((p1 + (-7046029254386353131 : Int64)) + (-7046029254386353131 : Int64)))), .second, .val (.long ((p1 + (-7046029254386353131 : Int64)) + (-7046029254386353131 : Int64))), .second, .unset] [(.long (-7723592293110705685 : Int64))])) rfl (by rw [hml]; rfl) (argsL := [(.long (-7723592293110705685 : Int64))]) (rest := []) (lenOf pd_V rfl) rfl (by show 2 * 0 + _ ≤ _; exact Nat.le_of_eq rfl) (hb hby at_50) (fun _ _ => ⟨rfl, hh107, (by decide : 1 + 0 ≤ _), (by decide : 1 + 0 ≤ _)⟩)
  dsimp only [Pt.U, Pt.locs, Pt.cells, Pt.slots] at X108 l108 y108 z108 st108 hQ108
  subst l108 y108 z108
  obtain ⟨rfl, N108, hh108⟩ := hQ108
  refine own_st (S' := T108.setTop (mkF m 53 #[.val (.long p1), .second, .val (.ref a101), .val (.long (own_mix (p1 + (-7046029254386353131 : Int64)))), .second, .val (.long (p1 + (-7046029254386353131 : Int64))), .second, .val (.long (own_mix ((p1 + (-7046029254386353131 : Int64)) + (-7046029254386353131 : Int64)))), .second, .val (.long ((p1 + (-7046029254386353131 : Int64)) + (-7046029254386353131 : Int64))), .second, .unset] [(.long (own_inv (-7723592293110705685 : Int64)))])) st108 ?_
  have Nx108 := Fr.app Nx107 N108
  refine own_st (S' := T108.setTop (mkF m 56 #[.val (.long p1), .second, .val (.ref a101), .val (.long (own_mix (p1 + (-7046029254386353131 : Int64)))), .second, .val (.long (p1 + (-7046029254386353131 : Int64))), .second, .val (.long (own_mix ((p1 + (-7046029254386353131 : Int64)) + (-7046029254386353131 : Int64)))), .second, .val (.long ((p1 + (-7046029254386353131 : Int64)) + (-7046029254386353131 : Int64))), .second, .unset] [(.long (-7723592293110705685 : Int64)), (.long (own_inv (-7723592293110705685 : Int64)))])) (fun _ k => X108.ldc2J hx hown (mvT hZ (hw _ (List.mem_of_getElem? (i := 30) rfl))) rfl (hb hby at_53) k) ?_
  refine own_st (S' := T108.setTop (mkF m 57 #[.val (.long p1), .second, .val (.ref a101), .val (.long (own_mix (p1 + (-7046029254386353131 : Int64)))), .second, .val (.long (p1 + (-7046029254386353131 : Int64))), .second, .val (.long (own_mix ((p1 + (-7046029254386353131 : Int64)) + (-7046029254386353131 : Int64)))), .second, .val (.long ((p1 + (-7046029254386353131 : Int64)) + (-7046029254386353131 : Int64))), .second, .unset] [(.long ((own_inv (-7723592293110705685 : Int64)) * (-7723592293110705685 : Int64)))])) (fun _ k => XT.lmul X108.here hx rfl (hb hby at_56) rfl k) ?_
  refine own_st (S' := T108.setTop (mkF m 58 #[.val (.long p1), .second, .val (.ref a101), .val (.long (own_mix (p1 + (-7046029254386353131 : Int64)))), .second, .val (.long (p1 + (-7046029254386353131 : Int64))), .second, .val (.long (own_mix ((p1 + (-7046029254386353131 : Int64)) + (-7046029254386353131 : Int64)))), .second, .val (.long ((p1 + (-7046029254386353131 : Int64)) + (-7046029254386353131 : Int64))), .second, .unset] [(.long (1 : Int64)), (.long ((own_inv (-7723592293110705685 : Int64)) * (-7723592293110705685 : Int64)))])) (fun _ k => XT.lconst X108.here hx rfl (hb hby at_57) k) ?_
  refine own_st (S' := T108.setTop (mkF m 59 #[.val (.long p1), .second, .val (.ref a101), .val (.long (own_mix (p1 + (-7046029254386353131 : Int64)))), .second, .val (.long (p1 + (-7046029254386353131 : Int64))), .second, .val (.long (own_mix ((p1 + (-7046029254386353131 : Int64)) + (-7046029254386353131 : Int64)))), .second, .val (.long ((p1 + (-7046029254386353131 : Int64)) + (-7046029254386353131 : Int64))), .second, .unset] [(.int (XT.cmpL ((own_inv (-7723592293110705685 : Int64)) * (-7723592293110705685 : Int64)) (1 : Int64)))])) (fun _ k => XT.lcmp X108.here hx rfl (hb hby at_58) rfl k) ?_
  refine own_st (S' := T108.setTop (mkF m 62 #[.val (.long p1), .second, .val (.ref a101), .val (.long (own_mix (p1 + (-7046029254386353131 : Int64)))), .second, .val (.long (p1 + (-7046029254386353131 : Int64))), .second, .val (.long (own_mix ((p1 + (-7046029254386353131 : Int64)) + (-7046029254386353131 : Int64)))), .second, .val (.long ((p1 + (-7046029254386353131 : Int64)) + (-7046029254386353131 : Int64))), .second, .unset] [])) (fun _ k => XS.ifNo X108.here hx rfl (hb hby at_59) rfl ((own_l_ne _ _).trans (decide_eq_false (p := Int64.toInt ((own_inv (-7723592293110705685 : Int64)) * (-7723592293110705685 : Int64)) ≠ 1) (fun h => h (congrArg Int64.toInt own_i2)))) k) ?_
  refine own_st (S' := T108.setTop (mkF m 63 #[.val (.long p1), .second, .val (.ref a101), .val (.long (own_mix (p1 + (-7046029254386353131 : Int64)))), .second, .val (.long (p1 + (-7046029254386353131 : Int64))), .second, .val (.long (own_mix ((p1 + (-7046029254386353131 : Int64)) + (-7046029254386353131 : Int64)))), .second, .val (.long ((p1 + (-7046029254386353131 : Int64)) + (-7046029254386353131 : Int64))), .second, .unset] [(.int (1 : Int32))])) (fun _ k => XS.iconst X108.here hx rfl (hb hby at_62) k) ?_
  refine own_st (S' := T108.setTop (mkF m 67 #[.val (.long p1), .second, .val (.ref a101), .val (.long (own_mix (p1 + (-7046029254386353131 : Int64)))), .second, .val (.long (p1 + (-7046029254386353131 : Int64))), .second, .val (.long (own_mix ((p1 + (-7046029254386353131 : Int64)) + (-7046029254386353131 : Int64)))), .second, .val (.long ((p1 + (-7046029254386353131 : Int64)) + (-7046029254386353131 : Int64))), .second, .unset] [(.int (1 : Int32))])) (fun _ k => XS.goto X108.here hx rfl (pc0 := 63) (pc' := 67) rfl (hb hby at_63) (by decide) (by decide) k) ?_
  refine own_st (S' := T108.setTop (mkF m 69 #[.val (.long p1), .second, .val (.ref a101), .val (.long (own_mix (p1 + (-7046029254386353131 : Int64)))), .second, .val (.long (p1 + (-7046029254386353131 : Int64))), .second, .val (.long (own_mix ((p1 + (-7046029254386353131 : Int64)) + (-7046029254386353131 : Int64)))), .second, .val (.long ((p1 + (-7046029254386353131 : Int64)) + (-7046029254386353131 : Int64))), .second, .val (.int (1 : Int32))] [])) (fun _ k => XS.istore X108.here hx rfl (hb hby at_67) rfl (l' := #[.val (.long p1), .second, .val (.ref a101), .val (.long (own_mix (p1 + (-7046029254386353131 : Int64)))), .second, .val (.long (p1 + (-7046029254386353131 : Int64))), .second, .val (.long (own_mix ((p1 + (-7046029254386353131 : Int64)) + (-7046029254386353131 : Int64)))), .second, .val (.long ((p1 + (-7046029254386353131 : Int64)) + (-7046029254386353131 : Int64))), .second, .val (.int (1 : Int32))]) rfl k) ?_
  refine own_st (S' := T108.setTop (mkF m 71 #[.val (.long p1), .second, .val (.ref a101), .val (.long (own_mix (p1 + (-7046029254386353131 : Int64)))), .second, .val (.long (p1 + (-7046029254386353131 : Int64))), .second, .val (.long (own_mix ((p1 + (-7046029254386353131 : Int64)) + (-7046029254386353131 : Int64)))), .second, .val (.long ((p1 + (-7046029254386353131 : Int64)) + (-7046029254386353131 : Int64))), .second, .val (.int (1 : Int32))] [(.int (1 : Int32))])) (fun _ k => XS.iload X108.here hx rfl (hb hby at_69) rfl k) ?_
  refine own_st (S' := T108.setTop (mkF m 74 #[.val (.long p1), .second, .val (.ref a101), .val (.long (own_mix (p1 + (-7046029254386353131 : Int64)))), .second, .val (.long (p1 + (-7046029254386353131 : Int64))), .second, .val (.long (own_mix ((p1 + (-7046029254386353131 : Int64)) + (-7046029254386353131 : Int64)))), .second, .val (.long ((p1 + (-7046029254386353131 : Int64)) + (-7046029254386353131 : Int64))), .second, .val (.int (1 : Int32))] [])) (fun _ k => XS.ifNo X108.here hx rfl (hb hby at_71) rfl ((own_z_eq _).trans (decide_eq_false (p := 1 = 0) (by decide))) k) ?_
  refine own_st (S' := T108.setTop (mkF m 76 #[.val (.long p1), .second, .val (.ref a101), .val (.long (own_mix (p1 + (-7046029254386353131 : Int64)))), .second, .val (.long (p1 + (-7046029254386353131 : Int64))), .second, .val (.long (own_mix ((p1 + (-7046029254386353131 : Int64)) + (-7046029254386353131 : Int64)))), .second, .val (.long ((p1 + (-7046029254386353131 : Int64)) + (-7046029254386353131 : Int64))), .second, .val (.int (1 : Int32))] [(.long (p1 + (-7046029254386353131 : Int64)))])) (fun _ k => XT.lload X108.here hx rfl (hb hby at_74) rfl k) ?_
  refine own_st (S' := T108.setTop (mkF m 77 #[.val (.long p1), .second, .val (.ref a101), .val (.long (own_mix (p1 + (-7046029254386353131 : Int64)))), .second, .val (.long (p1 + (-7046029254386353131 : Int64))), .second, .val (.long (own_mix ((p1 + (-7046029254386353131 : Int64)) + (-7046029254386353131 : Int64)))), .second, .val (.long ((p1 + (-7046029254386353131 : Int64)) + (-7046029254386353131 : Int64))), .second, .val (.int (1 : Int32))] [(.long p1), (.long (p1 + (-7046029254386353131 : Int64)))])) (fun _ k => XT.lloadN X108.here hx rfl (hb hby at_76) rfl k) ?_
  refine own_st (S' := T108.setTop (mkF m 80 #[.val (.long p1), .second, .val (.ref a101), .val (.long (own_mix (p1 + (-7046029254386353131 : Int64)))), .second, .val (.long (p1 + (-7046029254386353131 : Int64))), .second, .val (.long (own_mix ((p1 + (-7046029254386353131 : Int64)) + (-7046029254386353131 : Int64)))), .second, .val (.long ((p1 + (-7046029254386353131 : Int64)) + (-7046029254386353131 : Int64))), .second, .val (.int (1 : Int32))] [(.long (-7046029254386353131 : Int64)), (.long p1), (.long (p1 + (-7046029254386353131 : Int64)))])) (fun _ k => X108.ldc2J hx hown (mvT hZ (hw _ (List.mem_of_getElem? (i := 31) rfl))) rfl (hb hby at_77) k) ?_
  refine own_st (S' := T108.setTop (mkF m 81 #[.val (.long p1), .second, .val (.ref a101), .val (.long (own_mix (p1 + (-7046029254386353131 : Int64)))), .second, .val (.long (p1 + (-7046029254386353131 : Int64))), .second, .val (.long (own_mix ((p1 + (-7046029254386353131 : Int64)) + (-7046029254386353131 : Int64)))), .second, .val (.long ((p1 + (-7046029254386353131 : Int64)) + (-7046029254386353131 : Int64))), .second, .val (.int (1 : Int32))] [(.long (p1 + (-7046029254386353131 : Int64))), (.long (p1 + (-7046029254386353131 : Int64)))])) (fun _ k => XT.ladd X108.here hx rfl (hb hby at_80) rfl k) ?_
  refine own_st (S' := T108.setTop (mkF m 82 #[.val (.long p1), .second, .val (.ref a101), .val (.long (own_mix (p1 + (-7046029254386353131 : Int64)))), .second, .val (.long (p1 + (-7046029254386353131 : Int64))), .second, .val (.long (own_mix ((p1 + (-7046029254386353131 : Int64)) + (-7046029254386353131 : Int64)))), .second, .val (.long ((p1 + (-7046029254386353131 : Int64)) + (-7046029254386353131 : Int64))), .second, .val (.int (1 : Int32))] [(.int (XT.cmpL (p1 + (-7046029254386353131 : Int64)) (p1 + (-7046029254386353131 : Int64))))])) (fun _ k => XT.lcmp X108.here hx rfl (hb hby at_81) rfl k) ?_
  refine own_st (S' := T108.setTop (mkF m 85 #[.val (.long p1), .second, .val (.ref a101), .val (.long (own_mix (p1 + (-7046029254386353131 : Int64)))), .second, .val (.long (p1 + (-7046029254386353131 : Int64))), .second, .val (.long (own_mix ((p1 + (-7046029254386353131 : Int64)) + (-7046029254386353131 : Int64)))), .second, .val (.long ((p1 + (-7046029254386353131 : Int64)) + (-7046029254386353131 : Int64))), .second, .val (.int (1 : Int32))] [])) (fun _ k => XS.ifNo X108.here hx rfl (hb hby at_82) rfl ((own_l_ne _ _).trans (decide_eq_false (p := Int64.toInt (p1 + (-7046029254386353131 : Int64)) ≠ Int64.toInt (p1 + (-7046029254386353131 : Int64))) (fun h => h rfl))) k) ?_
  refine own_st (S' := T108.setTop (mkF m 86 #[.val (.long p1), .second, .val (.ref a101), .val (.long (own_mix (p1 + (-7046029254386353131 : Int64)))), .second, .val (.long (p1 + (-7046029254386353131 : Int64))), .second, .val (.long (own_mix ((p1 + (-7046029254386353131 : Int64)) + (-7046029254386353131 : Int64)))), .second, .val (.long ((p1 + (-7046029254386353131 : Int64)) + (-7046029254386353131 : Int64))), .second, .val (.int (1 : Int32))] [(.long (own_mix (p1 + (-7046029254386353131 : Int64))))])) (fun _ k => XT.lloadN X108.here hx rfl (hb hby at_85) rfl k) ?_
  obtain ⟨_, _, ⟨T109, L109, k109, n109⟩, -, X109, ⟨Lc109, hQ109, l109, y109, z109⟩, st109⟩ := Jvm.LawKit.callS X108 hx (y := (⟨"com/example/evenspend/evenspend/SplitMix64NextLongPinLaw", "unmix", "(J)J"⟩ : MethodName)) hown (mvT hZ (hw _ (List.mem_of_getElem? (i := 32) rfl))) (mvT hZ (hw _ (List.mem_of_getElem? (i := 33) rfl))) (mvT hZ (hw _ (List.mem_of_getElem? (i := 27) rfl))) (mvT hZ (hw _ (List.mem_of_getElem? (i := 34) rfl))) (by decide) (backOf (W := 0) (rmU l Z a0 hw [] (own_mix (p1 + (-7046029254386353131 : Int64))) T105.heap n0 Zs105) hZ (hw _ (List.mem_of_getElem? (i := 34) rfl)) (hw _ (List.mem_of_getElem? (i := 27) rfl)) (by decide) (by decide)) (g := (mkF m 86 #[.val (.long p1), .second, .val (.ref a101), .val (.long (own_mix (p1 + (-7046029254386353131 : Int64)))), .second, .val (.long (p1 + (-7046029254386353131 : Int64))), .second, .val (.long (own_mix ((p1 + (-7046029254386353131 : Int64)) + (-7046029254386353131 : Int64)))), .second, .val (.long ((p1 + (-7046029254386353131 : Int64)) + (-7046029254386353131 : Int64))), .second, .val (.int (1 : Int32))] [(.long (own_mix (p1 + (-7046029254386353131 : Int64))))])) rfl (by rw [hml]; rfl) (argsL := [(.long (own_mix (p1 + (-7046029254386353131 : Int64))))]) (rest := []) (lenOf pd_U rfl) rfl (by show 2 * 0 + _ ≤ _; exact Nat.le_of_eq rfl) (hb hby at_86) (fun _ _ => ⟨rfl, hh108, (by decide : 1 + 0 ≤ _), (by decide : 1 + 0 ≤ _)⟩)
  dsimp only [Pt.U, Pt.locs, Pt.cells, Pt.slots] at X109 l109 y109 z109 st109 hQ109
  subst l109 y109 z109
  obtain ⟨rfl, N109, hh109⟩ := hQ109
  refine own_st (S' := T109.setTop (mkF m 89 #[.val (.long p1), .second, .val (.ref a101), .val (.long (own_mix (p1 + (-7046029254386353131 : Int64)))), .second, .val (.long (p1 + (-7046029254386353131 : Int64))), .second, .val (.long (own_mix ((p1 + (-7046029254386353131 : Int64)) + (-7046029254386353131 : Int64)))), .second, .val (.long ((p1 + (-7046029254386353131 : Int64)) + (-7046029254386353131 : Int64))), .second, .val (.int (1 : Int32))] [(.long (own_un (own_mix (p1 + (-7046029254386353131 : Int64)))))])) st109 ?_
  have Nx109 := Fr.app Nx108 N109
  refine own_st (S' := T109.setTop (mkF m 91 #[.val (.long p1), .second, .val (.ref a101), .val (.long (own_mix (p1 + (-7046029254386353131 : Int64)))), .second, .val (.long (p1 + (-7046029254386353131 : Int64))), .second, .val (.long (own_mix ((p1 + (-7046029254386353131 : Int64)) + (-7046029254386353131 : Int64)))), .second, .val (.long ((p1 + (-7046029254386353131 : Int64)) + (-7046029254386353131 : Int64))), .second, .val (.int (1 : Int32))] [(.long (p1 + (-7046029254386353131 : Int64))), (.long (own_un (own_mix (p1 + (-7046029254386353131 : Int64)))))])) (fun _ k => XT.lload X109.here hx rfl (hb hby at_89) rfl k) ?_
  refine own_st (S' := T109.setTop (mkF m 92 #[.val (.long p1), .second, .val (.ref a101), .val (.long (own_mix (p1 + (-7046029254386353131 : Int64)))), .second, .val (.long (p1 + (-7046029254386353131 : Int64))), .second, .val (.long (own_mix ((p1 + (-7046029254386353131 : Int64)) + (-7046029254386353131 : Int64)))), .second, .val (.long ((p1 + (-7046029254386353131 : Int64)) + (-7046029254386353131 : Int64))), .second, .val (.int (1 : Int32))] [(.int (XT.cmpL (own_un (own_mix (p1 + (-7046029254386353131 : Int64)))) (p1 + (-7046029254386353131 : Int64))))])) (fun _ k => XT.lcmp X109.here hx rfl (hb hby at_91) rfl k) ?_
  refine own_st (S' := T109.setTop (mkF m 95 #[.val (.long p1), .second, .val (.ref a101), .val (.long (own_mix (p1 + (-7046029254386353131 : Int64)))), .second, .val (.long (p1 + (-7046029254386353131 : Int64))), .second, .val (.long (own_mix ((p1 + (-7046029254386353131 : Int64)) + (-7046029254386353131 : Int64)))), .second, .val (.long ((p1 + (-7046029254386353131 : Int64)) + (-7046029254386353131 : Int64))), .second, .val (.int (1 : Int32))] [])) (fun _ k => XS.ifNo X109.here hx rfl (hb hby at_92) rfl ((own_l_ne _ _).trans (decide_eq_false (p := Int64.toInt (own_un (own_mix (p1 + (-7046029254386353131 : Int64)))) ≠ Int64.toInt (p1 + (-7046029254386353131 : Int64))) (fun h => h (congrArg Int64.toInt (own_main _))))) k) ?_
  refine own_st (S' := T109.setTop (mkF m 97 #[.val (.long p1), .second, .val (.ref a101), .val (.long (own_mix (p1 + (-7046029254386353131 : Int64)))), .second, .val (.long (p1 + (-7046029254386353131 : Int64))), .second, .val (.long (own_mix ((p1 + (-7046029254386353131 : Int64)) + (-7046029254386353131 : Int64)))), .second, .val (.long ((p1 + (-7046029254386353131 : Int64)) + (-7046029254386353131 : Int64))), .second, .val (.int (1 : Int32))] [(.long ((p1 + (-7046029254386353131 : Int64)) + (-7046029254386353131 : Int64)))])) (fun _ k => XT.lload X109.here hx rfl (hb hby at_95) rfl k) ?_
  refine own_st (S' := T109.setTop (mkF m 98 #[.val (.long p1), .second, .val (.ref a101), .val (.long (own_mix (p1 + (-7046029254386353131 : Int64)))), .second, .val (.long (p1 + (-7046029254386353131 : Int64))), .second, .val (.long (own_mix ((p1 + (-7046029254386353131 : Int64)) + (-7046029254386353131 : Int64)))), .second, .val (.long ((p1 + (-7046029254386353131 : Int64)) + (-7046029254386353131 : Int64))), .second, .val (.int (1 : Int32))] [(.long p1), (.long ((p1 + (-7046029254386353131 : Int64)) + (-7046029254386353131 : Int64)))])) (fun _ k => XT.lloadN X109.here hx rfl (hb hby at_97) rfl k) ?_
  refine own_st (S' := T109.setTop (mkF m 101 #[.val (.long p1), .second, .val (.ref a101), .val (.long (own_mix (p1 + (-7046029254386353131 : Int64)))), .second, .val (.long (p1 + (-7046029254386353131 : Int64))), .second, .val (.long (own_mix ((p1 + (-7046029254386353131 : Int64)) + (-7046029254386353131 : Int64)))), .second, .val (.long ((p1 + (-7046029254386353131 : Int64)) + (-7046029254386353131 : Int64))), .second, .val (.int (1 : Int32))] [(.long (-7046029254386353131 : Int64)), (.long p1), (.long ((p1 + (-7046029254386353131 : Int64)) + (-7046029254386353131 : Int64)))])) (fun _ k => X109.ldc2J hx hown (mvT hZ (hw _ (List.mem_of_getElem? (i := 31) rfl))) rfl (hb hby at_98) k) ?_
  refine own_st (S' := T109.setTop (mkF m 102 #[.val (.long p1), .second, .val (.ref a101), .val (.long (own_mix (p1 + (-7046029254386353131 : Int64)))), .second, .val (.long (p1 + (-7046029254386353131 : Int64))), .second, .val (.long (own_mix ((p1 + (-7046029254386353131 : Int64)) + (-7046029254386353131 : Int64)))), .second, .val (.long ((p1 + (-7046029254386353131 : Int64)) + (-7046029254386353131 : Int64))), .second, .val (.int (1 : Int32))] [(.long (p1 + (-7046029254386353131 : Int64))), (.long ((p1 + (-7046029254386353131 : Int64)) + (-7046029254386353131 : Int64)))])) (fun _ k => XT.ladd X109.here hx rfl (hb hby at_101) rfl k) ?_
  refine own_st (S' := T109.setTop (mkF m 105 #[.val (.long p1), .second, .val (.ref a101), .val (.long (own_mix (p1 + (-7046029254386353131 : Int64)))), .second, .val (.long (p1 + (-7046029254386353131 : Int64))), .second, .val (.long (own_mix ((p1 + (-7046029254386353131 : Int64)) + (-7046029254386353131 : Int64)))), .second, .val (.long ((p1 + (-7046029254386353131 : Int64)) + (-7046029254386353131 : Int64))), .second, .val (.int (1 : Int32))] [(.long (-7046029254386353131 : Int64)), (.long (p1 + (-7046029254386353131 : Int64))), (.long ((p1 + (-7046029254386353131 : Int64)) + (-7046029254386353131 : Int64)))])) (fun _ k => X109.ldc2J hx hown (mvT hZ (hw _ (List.mem_of_getElem? (i := 31) rfl))) rfl (hb hby at_102) k) ?_
  refine own_st (S' := T109.setTop (mkF m 106 #[.val (.long p1), .second, .val (.ref a101), .val (.long (own_mix (p1 + (-7046029254386353131 : Int64)))), .second, .val (.long (p1 + (-7046029254386353131 : Int64))), .second, .val (.long (own_mix ((p1 + (-7046029254386353131 : Int64)) + (-7046029254386353131 : Int64)))), .second, .val (.long ((p1 + (-7046029254386353131 : Int64)) + (-7046029254386353131 : Int64))), .second, .val (.int (1 : Int32))] [(.long ((p1 + (-7046029254386353131 : Int64)) + (-7046029254386353131 : Int64))), (.long ((p1 + (-7046029254386353131 : Int64)) + (-7046029254386353131 : Int64)))])) (fun _ k => XT.ladd X109.here hx rfl (hb hby at_105) rfl k) ?_
  refine own_st (S' := T109.setTop (mkF m 107 #[.val (.long p1), .second, .val (.ref a101), .val (.long (own_mix (p1 + (-7046029254386353131 : Int64)))), .second, .val (.long (p1 + (-7046029254386353131 : Int64))), .second, .val (.long (own_mix ((p1 + (-7046029254386353131 : Int64)) + (-7046029254386353131 : Int64)))), .second, .val (.long ((p1 + (-7046029254386353131 : Int64)) + (-7046029254386353131 : Int64))), .second, .val (.int (1 : Int32))] [(.int (XT.cmpL ((p1 + (-7046029254386353131 : Int64)) + (-7046029254386353131 : Int64)) ((p1 + (-7046029254386353131 : Int64)) + (-7046029254386353131 : Int64))))])) (fun _ k => XT.lcmp X109.here hx rfl (hb hby at_106) rfl k) ?_
  refine own_st (S' := T109.setTop (mkF m 110 #[.val (.long p1), .second, .val (.ref a101), .val (.long (own_mix (p1 + (-7046029254386353131 : Int64)))), .second, .val (.long (p1 + (-7046029254386353131 : Int64))), .second, .val (.long (own_mix ((p1 + (-7046029254386353131 : Int64)) + (-7046029254386353131 : Int64)))), .second, .val (.long ((p1 + (-7046029254386353131 : Int64)) + (-7046029254386353131 : Int64))), .second, .val (.int (1 : Int32))] [])) (fun _ k => XS.ifNo X109.here hx rfl (hb hby at_107) rfl ((own_l_ne _ _).trans (decide_eq_false (p := Int64.toInt ((p1 + (-7046029254386353131 : Int64)) + (-7046029254386353131 : Int64)) ≠ Int64.toInt ((p1 + (-7046029254386353131 : Int64)) + (-7046029254386353131 : Int64))) (fun h => h rfl))) k) ?_
  refine own_st (S' := T109.setTop (mkF m 112 #[.val (.long p1), .second, .val (.ref a101), .val (.long (own_mix (p1 + (-7046029254386353131 : Int64)))), .second, .val (.long (p1 + (-7046029254386353131 : Int64))), .second, .val (.long (own_mix ((p1 + (-7046029254386353131 : Int64)) + (-7046029254386353131 : Int64)))), .second, .val (.long ((p1 + (-7046029254386353131 : Int64)) + (-7046029254386353131 : Int64))), .second, .val (.int (1 : Int32))] [(.long (own_mix ((p1 + (-7046029254386353131 : Int64)) + (-7046029254386353131 : Int64))))])) (fun _ k => XT.lload X109.here hx rfl (hb hby at_110) rfl k) ?_
  obtain ⟨_, _, ⟨T110, L110, k110, n110⟩, -, X110, ⟨Lc110, hQ110, l110, y110, z110⟩, st110⟩ := Jvm.LawKit.callS X109 hx (y := (⟨"com/example/evenspend/evenspend/SplitMix64NextLongPinLaw", "unmix", "(J)J"⟩ : MethodName)) hown (mvT hZ (hw _ (List.mem_of_getElem? (i := 32) rfl))) (mvT hZ (hw _ (List.mem_of_getElem? (i := 33) rfl))) (mvT hZ (hw _ (List.mem_of_getElem? (i := 27) rfl))) (mvT hZ (hw _ (List.mem_of_getElem? (i := 34) rfl))) (by decide) (backOf (W := 0) (rmU l Z a0 hw [] (own_mix ((p1 + (-7046029254386353131 : Int64)) + (-7046029254386353131 : Int64))) T105.heap n0 Zs105) hZ (hw _ (List.mem_of_getElem? (i := 34) rfl)) (hw _ (List.mem_of_getElem? (i := 27) rfl)) (by decide) (by decide)) (g := (mkF m 112 #[.val (.long p1), .second, .val (.ref a101), .val (.long (own_mix (p1 + (-7046029254386353131 : Int64)))), .second, .val (.long (p1 + (-7046029254386353131 : Int64))), .second, .val (.long (own_mix ((p1 + (-7046029254386353131 : Int64)) + (-7046029254386353131 : Int64)))), .second, .val (.long ((p1 + (-7046029254386353131 : Int64)) + (-7046029254386353131 : Int64))), .second, .val (.int (1 : Int32))] [(.long (own_mix ((p1 + (-7046029254386353131 : Int64)) + (-7046029254386353131 : Int64))))])) rfl (by rw [hml]; rfl) (argsL := [(.long (own_mix ((p1 + (-7046029254386353131 : Int64)) + (-7046029254386353131 : Int64))))]) (rest := []) (lenOf pd_U rfl) rfl (by show 2 * 0 + _ ≤ _; exact Nat.le_of_eq rfl) (hb hby at_112) (fun _ _ => ⟨rfl, hh109, (by decide : 1 + 0 ≤ _), (by decide : 1 + 0 ≤ _)⟩)
  dsimp only [Pt.U, Pt.locs, Pt.cells, Pt.slots] at X110 l110 y110 z110 st110 hQ110
  subst l110 y110 z110
  obtain ⟨rfl, N110, hh110⟩ := hQ110
  refine own_st (S' := T110.setTop (mkF m 115 #[.val (.long p1), .second, .val (.ref a101), .val (.long (own_mix (p1 + (-7046029254386353131 : Int64)))), .second, .val (.long (p1 + (-7046029254386353131 : Int64))), .second, .val (.long (own_mix ((p1 + (-7046029254386353131 : Int64)) + (-7046029254386353131 : Int64)))), .second, .val (.long ((p1 + (-7046029254386353131 : Int64)) + (-7046029254386353131 : Int64))), .second, .val (.int (1 : Int32))] [(.long (own_un (own_mix ((p1 + (-7046029254386353131 : Int64)) + (-7046029254386353131 : Int64)))))])) st110 ?_
  have Nx110 := Fr.app Nx109 N110
  refine own_st (S' := T110.setTop (mkF m 117 #[.val (.long p1), .second, .val (.ref a101), .val (.long (own_mix (p1 + (-7046029254386353131 : Int64)))), .second, .val (.long (p1 + (-7046029254386353131 : Int64))), .second, .val (.long (own_mix ((p1 + (-7046029254386353131 : Int64)) + (-7046029254386353131 : Int64)))), .second, .val (.long ((p1 + (-7046029254386353131 : Int64)) + (-7046029254386353131 : Int64))), .second, .val (.int (1 : Int32))] [(.long ((p1 + (-7046029254386353131 : Int64)) + (-7046029254386353131 : Int64))), (.long (own_un (own_mix ((p1 + (-7046029254386353131 : Int64)) + (-7046029254386353131 : Int64)))))])) (fun _ k => XT.lload X110.here hx rfl (hb hby at_115) rfl k) ?_
  refine own_st (S' := T110.setTop (mkF m 118 #[.val (.long p1), .second, .val (.ref a101), .val (.long (own_mix (p1 + (-7046029254386353131 : Int64)))), .second, .val (.long (p1 + (-7046029254386353131 : Int64))), .second, .val (.long (own_mix ((p1 + (-7046029254386353131 : Int64)) + (-7046029254386353131 : Int64)))), .second, .val (.long ((p1 + (-7046029254386353131 : Int64)) + (-7046029254386353131 : Int64))), .second, .val (.int (1 : Int32))] [(.int (XT.cmpL (own_un (own_mix ((p1 + (-7046029254386353131 : Int64)) + (-7046029254386353131 : Int64)))) ((p1 + (-7046029254386353131 : Int64)) + (-7046029254386353131 : Int64))))])) (fun _ k => XT.lcmp X110.here hx rfl (hb hby at_117) rfl k) ?_
  refine own_st (S' := T110.setTop (mkF m 121 #[.val (.long p1), .second, .val (.ref a101), .val (.long (own_mix (p1 + (-7046029254386353131 : Int64)))), .second, .val (.long (p1 + (-7046029254386353131 : Int64))), .second, .val (.long (own_mix ((p1 + (-7046029254386353131 : Int64)) + (-7046029254386353131 : Int64)))), .second, .val (.long ((p1 + (-7046029254386353131 : Int64)) + (-7046029254386353131 : Int64))), .second, .val (.int (1 : Int32))] [])) (fun _ k => XS.ifNo X110.here hx rfl (hb hby at_118) rfl ((own_l_ne _ _).trans (decide_eq_false (p := Int64.toInt (own_un (own_mix ((p1 + (-7046029254386353131 : Int64)) + (-7046029254386353131 : Int64)))) ≠ Int64.toInt ((p1 + (-7046029254386353131 : Int64)) + (-7046029254386353131 : Int64))) (fun h => h (congrArg Int64.toInt (own_main _))))) k) ?_
  refine own_st (S' := T110.setTop (mkF m 122 #[.val (.long p1), .second, .val (.ref a101), .val (.long (own_mix (p1 + (-7046029254386353131 : Int64)))), .second, .val (.long (p1 + (-7046029254386353131 : Int64))), .second, .val (.long (own_mix ((p1 + (-7046029254386353131 : Int64)) + (-7046029254386353131 : Int64)))), .second, .val (.long ((p1 + (-7046029254386353131 : Int64)) + (-7046029254386353131 : Int64))), .second, .val (.int (1 : Int32))] [(.int (1 : Int32))])) (fun _ k => XS.iconst X110.here hx rfl (hb hby at_121) k) ?_
  refine own_st (S' := T110.setTop (mkF m 126 #[.val (.long p1), .second, .val (.ref a101), .val (.long (own_mix (p1 + (-7046029254386353131 : Int64)))), .second, .val (.long (p1 + (-7046029254386353131 : Int64))), .second, .val (.long (own_mix ((p1 + (-7046029254386353131 : Int64)) + (-7046029254386353131 : Int64)))), .second, .val (.long ((p1 + (-7046029254386353131 : Int64)) + (-7046029254386353131 : Int64))), .second, .val (.int (1 : Int32))] [(.int (1 : Int32))])) (fun _ k => XS.goto X110.here hx rfl (pc0 := 122) (pc' := 126) rfl (hb hby at_122) (by decide) (by decide) k) ?_
  refine own_end X110 (Q := (Q0 Z p1 h0 n0)) (some (.int (1 : Int32))) Bd.notSynchronized (fun h => by rw [Bd.returns] at h; cases h) (fun fs hr => retN X110 hx (t := .boolean) Bd.returns (by simp) (hb hby at_126) hr) ?_ (by decide) (by decide)
  rw [hh110]
  exact ⟨rfl, Nx110⟩
set_option maxRecDepth 65536 in
set_option maxHeartbeats 40000000 in
theorem comes_1 {Post : Tables → Env → Array Value → State → Outcome → State → Prop} (hpost : ∀ tb e args s v u, (limb_1_1.after args s (.returned v) u = true ∧ limb_1_2.after args s (.returned v) u = true ∧ True) → FrameEnd s (.returned v) u (Jvm.fieldLocs frame_1_writes args s ++ Jvm.arrayLocs frame_1_arrays args s ++ Jvm.staticLocs frame_1_statics s) 16 128 → Post tb e args s (.returned v) u) :
    ArmFor flags0 classFile x code maxLocals ret World_1 tables_1 room_1 Calls_1 rest_1 Pre_1 Post := by
  intro l hfl _ _ p e ha hc hk s m args below hf hA hF happ hP
  obtain ⟨hcalls, hrest, hpre⟩ := hP
  obtain ⟨-, -, -, hnamed, -, -, -, hat⟩ := (Spec.applies_iff hf).mp happ
  obtain ⟨hg, hn⟩ := and_e (Cond.before_iff.mp (show (Jvm.Cond.and given_1 narrow_1).before args s = true from hpre))
  obtain ⟨hg0, hr0⟩ := and_e hg
  have hk0 := hr0
  obtain ⟨w0, rfl⟩ : ∃ w0 : Value, args = #[w0] := by
    have hs : args.size = 1 := by simpa [Cond.value, given_1] using hg0
    obtain ⟨L⟩ := args
    match L, hs with
    | [w0], _ => exact ⟨w0, rfl⟩
  have hw := fun d (hd : d ∈ tables_1) => atoms_spec (ws := Jvm.Cond.code x code maxLocals ret :: tables_1) hat d (List.mem_cons_of_mem _ hd)
  obtain ⟨i0, ee0⟩ := isL_v hk0
  obtain rfl : w0 = (.long i0) := Option.some.inj ee0
  obtain ⟨n, o, h1, h2, h3, _, L, rfl, ⟨rfl, N⟩, hq⟩ := rm0 l s _ hw tables_1 i0 s.heap s.heap.size (Nat.le_refl _) p e ha hc hk s m _ below hf ((Spec.applies_iff_loose hf).mp happ).1 ⟨rfl, State.Warmed39.refl s, rfl⟩ trivial
  refine ⟨n, _, h1, h2, h3, hpost _ _ _ _ _ _ ⟨Cond.after_iff.mpr rfl, Cond.after_iff.mpr (eq_i res_at (Term.int_eval (1)) rfl), trivial⟩ ⟨hq.1, hq.2.1, (hq.2.2.sift fun y hy => Or.inr (N y hy)).mono (by decide) (by decide)⟩⟩
theorem main_1_1 : Claimed_1_1 := comes_1 fun _ _ _ _ _ _ h hF => ⟨h.1, hF⟩
theorem main_1_2 : Claimed_1_2 := comes_1 fun _ _ _ _ _ _ h hF => ⟨h.2.1, hF⟩
end Jvm.Pilot.@@N@@
namespace Jvm.Pilot.@@N@@
open Jvm Jvm.ClassFile Sem Op Lib Jvm.Free Jvm.Stand Jvm.Pilot.@@N@@.Jvm.D
/-! MADE BY PROGRAM (witnessworld.py) out of the Statement's table words and the real class files: 9 classes; the members and pool entries that the words name. The judged class is class 1, her method 3. -/
namespace start1
open Jvm.ClassFile
def u (s : String) : CpInfo := .utf8 (stringToUtf16 s)
/-- a pool by its gaps: so many unusable entries, then the entry; so many at the end -/
def gap : Nat → List CpInfo → List CpInfo
  | 0, r => r
  | n + 1, r => .unusable :: gap n r
def poolList (es : List (Nat × CpInfo)) (last : Nat) : List CpInfo := es.foldr (fun e r => gap e.1 (e.2 :: r)) (gap last [])
def pool (es : List (Nat × CpInfo)) (last : Nat) : Array CpInfo := ⟨poolList es last⟩
def fileOf (pool : Array CpInfo) (this : Nat) (attrs : Array Attribute := #[]) (ms : Array MethodInfo := #[]) (fl : Nat := 33) (sup : Nat := 0) (ifs : Array Nat := #[]) (fds : Array FieldInfo := #[]) : ClassFile where
  minorVersion := 0
  majorVersion := 65
  constantPool := pool
  accessFlags := fl
  thisClass := this
  superClass := sup
  interfaces := ifs
  fields := fds
  methods := ms
  attributes := attrs
def plain (name : String) (sup : Option ClassId) : Class where
  name := name
  kind := .ordinary
  loader := none
  accessFlags := 33
  super := sup
  interfaces := #[]
  cf := none
  fields := #[]
  methods := #[]
  instanceTypes := #[]
  staticTypes := #[]
  resolved := #[]
  callSites := []
  init := .initialized
  statics := none
  mirror := none

def pool0 : Array CpInfo := pool [(5, u "<init>"), (0, u "()V"), (1, .class_ 10), (1, u "java/lang/Object")] 113

def k0c0 : Code := { maxStack := 0, maxLocals := 1, code := object_method_1_code, exceptionTable := #[], attributes := #[] }
def k0m0 : Method := { name := "<init>", desc := "()V", sig := { parameters := [], returnType := none }, accessFlags := 1, code := some k0c0 }
/-- java/lang/Object -/
def k0 : Class := { plain "java/lang/Object" none with
  accessFlags := 33
  interfaces := #[]
  cf := some (fileOf pool0 8 #[] #[{ accessFlags := 1, nameIndex := 5, descriptorIndex := 6, attributes := #[] }] 33 0 #[] #[])
  fields := #[]
  methods := #[k0m0]
  instanceTypes := #[]
  staticTypes := #[]
  resolved := Array.replicate 124 none
  statics := none }

def pool1 : Array CpInfo := pool [(2, .class_ 4), (1, u "java/lang/Object"), (0, u "<init>"), (0, u "()V"), (0, .long 2), (1, .class_ 10), (0, u "com/example/evenspend/evenspend/SplitMix64NextLongPinLaw"), (0, .long 10723151780598845931), (1, .methodref 9 14), (0, .nameAndType 15 16), (0, u "inverse"), (0, u "(J)J"), (0, .long 13787848793156543929), (1, .class_ 20), (0, u "com/example/evenspend/evenspend/SplitMix64"), (0, .methodref 19 22), (0, .nameAndType 5 23), (0, u "(J)V"), (0, .methodref 19 25), (0, .nameAndType 26 27), (0, u "nextLong"), (0, u "()J"), (0, .methodref 19 29), (0, .nameAndType 30 27), (0, u "state"), (0, .long 11400714819323198485), (1, .methodref 9 34), (0, .nameAndType 35 16), (0, u "unmix"), (0, u "GAMMA"), (0, u "J"), (1, u "M1"), (0, u "M2"), (2, u "law"), (0, u "(J)Z")] 3

def k1m0 : Method := { name := "<init>", desc := "()V", sig := { parameters := [], returnType := none }, accessFlags := 1, code := none }
def k1c1 : Code := { maxStack := 8, maxLocals := 4, code := method_2_code, exceptionTable := #[], attributes := #[] }
def k1m1 : Method := { name := "inverse", desc := "(J)J", sig := { parameters := [.long], returnType := some .long }, accessFlags := 10, code := some k1c1 }
def k1c2 : Code := { maxStack := 5, maxLocals := 4, code := method_3_code, exceptionTable := #[], attributes := #[] }
def k1m2 : Method := { name := "unmix", desc := "(J)J", sig := { parameters := [.long], returnType := some .long }, accessFlags := 10, code := some k1c2 }
def k1c3 : Code := { maxStack := 6, maxLocals := 12, code := code, exceptionTable := #[], attributes := #[] }
def k1m3 : Method := { name := "law", desc := "(J)Z", sig := { parameters := [.long], returnType := some .boolean }, accessFlags := 9, code := some k1c3 }
/-- com/example/evenspend/evenspend/SplitMix64NextLongPinLaw -/
def k1 : Class := { plain "com/example/evenspend/evenspend/SplitMix64NextLongPinLaw" (some 0) with
  accessFlags := 49
  interfaces := #[]
  cf := some (fileOf pool1 9 #[] #[{ accessFlags := 1, nameIndex := 5, descriptorIndex := 6, attributes := #[] }, { accessFlags := 10, nameIndex := 15, descriptorIndex := 16, attributes := #[] }, { accessFlags := 10, nameIndex := 35, descriptorIndex := 16, attributes := #[] }, { accessFlags := 9, nameIndex := 43, descriptorIndex := 44, attributes := #[] }] 49 2 #[] #[{ accessFlags := 26, nameIndex := 36, descriptorIndex := 37, attributes := #[] }, { accessFlags := 26, nameIndex := 39, descriptorIndex := 37, attributes := #[] }, { accessFlags := 26, nameIndex := 40, descriptorIndex := 37, attributes := #[] }])
  fields := #[{ name := "GAMMA", type := .long, accessFlags := 26, slot := 0, constantValue := 0 }, { name := "M1", type := .long, accessFlags := 26, slot := 1, constantValue := 0 }, { name := "M2", type := .long, accessFlags := 26, slot := 2, constantValue := 0 }]
  methods := #[k1m0, k1m1, k1m2, k1m3]
  instanceTypes := #[]
  staticTypes := #[.long, .long, .long]
  resolved := Array.replicate 48 none
  statics := none }

def pool2 : Array CpInfo := pool [(1, .methodref 2 3), (0, .class_ 4), (0, .nameAndType 5 6), (0, u "java/lang/Object"), (0, u "<init>"), (0, u "()V"), (0, .fieldref 8 9), (0, .class_ 10), (0, .nameAndType 11 12), (0, u "com/example/evenspend/evenspend/SplitMix64"), (0, u "state"), (0, u "J"), (0, .long 11400714819323198485), (1, .long 13787848793156543929), (1, .long 10723151780598845931), (3, u "nextLong"), (0, u "()J"), (2, u "GOLDEN_GAMMA"), (1, u "(J)V")] 6

def k2c0 : Code := { maxStack := 3, maxLocals := 3, code := prog_23_method_1_code, exceptionTable := #[], attributes := #[] }
def k2m0 : Method := { name := "<init>", desc := "(J)V", sig := { parameters := [.long], returnType := none }, accessFlags := 1, code := some k2c0 }
def k2c1 : Code := { maxStack := 2, maxLocals := 1, code := prog_23_method_2_code, exceptionTable := #[], attributes := #[] }
def k2m1 : Method := { name := "state", desc := "()J", sig := { parameters := [], returnType := some .long }, accessFlags := 0, code := some k2c1 }
def k2c2 : Code := { maxStack := 5, maxLocals := 3, code := prog_23_method_3_code, exceptionTable := #[], attributes := #[] }
def k2m2 : Method := { name := "nextLong", desc := "()J", sig := { parameters := [], returnType := some .long }, accessFlags := 1, code := some k2c2 }
/-- com/example/evenspend/evenspend/SplitMix64 -/
def k2 : Class := { plain "com/example/evenspend/evenspend/SplitMix64" (some 0) with
  accessFlags := 49
  interfaces := #[]
  cf := some (fileOf pool2 8 #[] #[{ accessFlags := 1, nameIndex := 5, descriptorIndex := 27, attributes := #[] }, { accessFlags := 0, nameIndex := 11, descriptorIndex := 22, attributes := #[] }, { accessFlags := 1, nameIndex := 21, descriptorIndex := 22, attributes := #[] }] 49 2 #[] #[{ accessFlags := 26, nameIndex := 25, descriptorIndex := 12, attributes := #[] }, { accessFlags := 2, nameIndex := 11, descriptorIndex := 12, attributes := #[] }])
  fields := #[{ name := "GOLDEN_GAMMA", type := .long, accessFlags := 26, slot := 0, constantValue := 0 }, { name := "state", type := .long, accessFlags := 2, slot := 0, constantValue := 0 }]
  methods := #[k2m0, k2m1, k2m2]
  instanceTypes := #[.long]
  staticTypes := #[.long]
  resolved := Array.replicate 34 none
  statics := none }

def pool3 : Array CpInfo := pool [(1, u "java/lang/Cloneable"), (0, .class_ 1), (0, u "java/lang/Object"), (0, .class_ 3)] 3

/-- java/lang/Cloneable -/
def k3 : Class := { plain "java/lang/Cloneable" (some 0) with
  accessFlags := 1537
  interfaces := #[]
  cf := some (fileOf pool3 2 #[] #[] 1537 4 #[] #[])
  fields := #[]
  methods := #[]
  instanceTypes := #[]
  staticTypes := #[]
  resolved := Array.replicate 8 none
  statics := none }

def pool4 : Array CpInfo := pool [(1, u "java/io/Serializable"), (0, .class_ 1), (0, u "java/lang/Object"), (0, .class_ 3)] 3

/-- java/io/Serializable -/
def k4 : Class := { plain "java/io/Serializable" (some 0) with
  accessFlags := 1537
  interfaces := #[]
  cf := some (fileOf pool4 2 #[] #[] 1537 4 #[] #[])
  fields := #[]
  methods := #[]
  instanceTypes := #[]
  staticTypes := #[]
  resolved := Array.replicate 8 none
  statics := none }

/-- the primitive byte -/
def k5 : Class := { plain "byte" none with kind := .primitive 'B', accessFlags := 0x411 }
/-- [B -/
def k6 : Class := { plain "[B" (some 0) with kind := .array 5 .byte, interfaces := #[3, 4], accessFlags := 1041 }

/-- the primitive int -/
def k7 : Class := { plain "int" none with kind := .primitive 'I', accessFlags := 0x411 }
/-- [I -/
def k8 : Class := { plain "[I" (some 0) with kind := .array 7 .int, interfaces := #[3, 4], accessFlags := 1041 }

def heap : Heap := #[]
def classes : Array Class := #[k0, k1, k2, k3, k4, k5, k6, k7, k8]
def interned : List (Array UInt16 × Addr) := []
def slotsUsed : Nat := 0
def theMethod : MethodId := ⟨1, 3⟩
def args0 : Array Value := #[.long 5]
def aboutOver (below : List Frame) : State where
  vm := { classes := classes, interned := interned.toArray }
  heap := heap
  slotsUsed := slotsUsed
  threads := #[{ frames := .invoking theMethod args0 :: below }]
def below0 : List Frame := [.native { method := ⟨0, 0⟩, args := #[] }]
def about1 : State := aboutOver below0
def p0 : Program := .bare "" "" ""
def e0 : Env := launch0.env 0 0 0
theorem w_frames : about1.frames = Frame.invoking theMethod args0 :: below0 := rfl
set_option maxRecDepth 65536 in
theorem w_args : argsFit about1.vm theMethod args0 = true := by decide +kernel
set_option maxRecDepth 65536 in
theorem w_heap : heapFits about1 = true := by decide +kernel
set_option maxRecDepth 65536 in
theorem w_runnable : about1.curStatus? = some .runnable := by decide +kernel
set_option maxRecDepth 65536 in
theorem w_alone : about1.alone = true := by decide +kernel
set_option maxRecDepth 65536 in
theorem w_named : about1.methodNamed? x = some theMethod := by decide +kernel
set_option maxRecDepth 65536 in
theorem w_hears : about1.hears theMethod below0 = true := by decide +kernel
set_option maxRecDepth 65536 in
theorem w_ripe : about1.ripe theMethod args0 below0 = true := by decide +kernel
theorem w_running : about1.status = .running := rfl
set_option maxRecDepth 65536 in
theorem w_room : about1.hasRoom e0.platform room_1 = true :=
  launch0.hasRoom_least _ room_1 (by decide +kernel) (by decide +kernel) (by decide +kernel) (by decide +kernel) (by decide +kernel) (by decide +kernel)
theorem allAtoms_all (ts : List Jvm.Cond) (a : Array Jvm.Value) (st : Jvm.State) : (allAtoms ts).before a st = ts.all (fun c => c.before a st) := by
  induction ts with
  | nil => rfl
  | cons c t ih =>
    show (Jvm.Cond.and c (allAtoms t)).before a st = _
    rw [Jvm.Cond.before_and, ih, List.all_cons]
def words1 : List Jvm.Cond := Jvm.Cond.code x code maxLocals ret :: tables_1
/-- a 'code' word, met by the world's own term for the bytes: nothing is compared byte by byte -/
theorem code_word {y : MethodName} {bytes : ByteArray} {mx : Nat} {rt : Option FieldType} {a : Array Value} {s : State} {m : MethodId} {meth : Method} {c : Code} (h1 : s.methodNamed? y = some m) (h2 : s.vm.method? m = some meth) (h3 : meth.code = some c) (h4 : c.code = bytes)
    (h5 : (c.maxLocals == mx && c.exceptionTable.isEmpty && decide (c.maxStack ≤ mostOperands) && decide (meth.sig.returnType = rt) && !meth.locks && decide (parseMethodDescriptor y.desc = some meth.sig)) = true) : (Jvm.Cond.code y bytes mx rt).before a s = true := by
  simp only [Bool.and_eq_true, beq_iff_eq, Bool.not_eq_true', decide_eq_true_eq] at h5
  obtain ⟨⟨⟨⟨⟨g1, g2⟩, g3⟩, g4⟩, g5⟩, g6⟩ := h5
  simp [Cond.before, Cond.holds, Cond.value, h1, h2, h3, h4, g1, g2, g3, g4, g5, g6]
def isCode : Jvm.Cond → Bool
  | .code _ _ _ _ => true
  | _ => false
theorem all_split {L : List Jvm.Cond} {P : Jvm.Cond → Bool} (h1 : L.all (fun c => isCode c || P c) = true) (h2 : ∀ c ∈ L.filter isCode, P c = true) : L.all P = true := by
  refine List.all_eq_true.mpr fun c hc => ?_
  have h := List.all_eq_true.mp h1 c hc
  rcases Bool.eq_false_or_eq_true (isCode c) with hi | hi
  · exact h2 c (List.mem_filter.mpr ⟨hc, hi⟩)
  · simpa [hi] using h
set_option maxRecDepth 65536 in
theorem w_c0 : (Jvm.Cond.code x code maxLocals ret).before args0 about1 = true := code_word (m := ⟨1, 3⟩) (meth := k1m3) (c := k1c3) (by decide +kernel) rfl rfl rfl (by decide +kernel)
set_option maxRecDepth 65536 in
theorem w_c1 : (Jvm.Cond.code ({ cls := "com/example/evenspend/evenspend/SplitMix64", name := "<init>", desc := "(J)V" } : Jvm.MethodName) prog_23_method_1_code (3 : Nat) (Option.none : Option Jvm.ClassFile.FieldType)).before args0 about1 = true := code_word (m := ⟨2, 0⟩) (meth := k2m0) (c := k2c0) (by decide +kernel) rfl rfl rfl (by decide +kernel)
set_option maxRecDepth 65536 in
theorem w_c2 : (Jvm.Cond.code ({ cls := "java/lang/Object", name := "<init>", desc := "()V" } : Jvm.MethodName) object_method_1_code (1 : Nat) (Option.none : Option Jvm.ClassFile.FieldType)).before args0 about1 = true := code_word (m := ⟨0, 0⟩) (meth := k0m0) (c := k0c0) (by decide +kernel) rfl rfl rfl (by decide +kernel)
set_option maxRecDepth 65536 in
theorem w_c3 : (Jvm.Cond.code ({ cls := "com/example/evenspend/evenspend/SplitMix64", name := "nextLong", desc := "()J" } : Jvm.MethodName) prog_23_method_3_code (3 : Nat) (Option.some Jvm.ClassFile.FieldType.long)).before args0 about1 = true := code_word (m := ⟨2, 2⟩) (meth := k2m2) (c := k2c2) (by decide +kernel) rfl rfl rfl (by decide +kernel)
set_option maxRecDepth 65536 in
theorem w_c4 : (Jvm.Cond.code ({ cls := "com/example/evenspend/evenspend/SplitMix64", name := "state", desc := "()J" } : Jvm.MethodName) prog_23_method_2_code (1 : Nat) (Option.some Jvm.ClassFile.FieldType.long)).before args0 about1 = true := code_word (m := ⟨2, 1⟩) (meth := k2m1) (c := k2c1) (by decide +kernel) rfl rfl rfl (by decide +kernel)
set_option maxRecDepth 65536 in
theorem w_c5 : (Jvm.Cond.code ({ cls := "com/example/evenspend/evenspend/SplitMix64NextLongPinLaw", name := "inverse", desc := "(J)J" } : Jvm.MethodName) method_2_code (4 : Nat) (Option.some Jvm.ClassFile.FieldType.long)).before args0 about1 = true := code_word (m := ⟨1, 1⟩) (meth := k1m1) (c := k1c1) (by decide +kernel) rfl rfl rfl (by decide +kernel)
set_option maxRecDepth 65536 in
theorem w_c6 : (Jvm.Cond.code ({ cls := "com/example/evenspend/evenspend/SplitMix64NextLongPinLaw", name := "unmix", desc := "(J)J" } : Jvm.MethodName) method_3_code (4 : Nat) (Option.some Jvm.ClassFile.FieldType.long)).before args0 about1 = true := code_word (m := ⟨1, 2⟩) (meth := k1m2) (c := k1c2) (by decide +kernel) rfl rfl rfl (by decide +kernel)
def codes1 : List Jvm.Cond := [Jvm.Cond.code x code maxLocals ret, Jvm.Cond.code ({ cls := "com/example/evenspend/evenspend/SplitMix64", name := "<init>", desc := "(J)V" } : Jvm.MethodName) prog_23_method_1_code (3 : Nat) (Option.none : Option Jvm.ClassFile.FieldType), Jvm.Cond.code ({ cls := "java/lang/Object", name := "<init>", desc := "()V" } : Jvm.MethodName) object_method_1_code (1 : Nat) (Option.none : Option Jvm.ClassFile.FieldType), Jvm.Cond.code ({ cls := "com/example/evenspend/evenspend/SplitMix64", name := "nextLong", desc := "()J" } : Jvm.MethodName) prog_23_method_3_code (3 : Nat) (Option.some Jvm.ClassFile.FieldType.long), Jvm.Cond.code ({ cls := "com/example/evenspend/evenspend/SplitMix64", name := "state", desc := "()J" } : Jvm.MethodName) prog_23_method_2_code (1 : Nat) (Option.some Jvm.ClassFile.FieldType.long), Jvm.Cond.code ({ cls := "com/example/evenspend/evenspend/SplitMix64NextLongPinLaw", name := "inverse", desc := "(J)J" } : Jvm.MethodName) method_2_code (4 : Nat) (Option.some Jvm.ClassFile.FieldType.long), Jvm.Cond.code ({ cls := "com/example/evenspend/evenspend/SplitMix64NextLongPinLaw", name := "unmix", desc := "(J)J" } : Jvm.MethodName) method_3_code (4 : Nat) (Option.some Jvm.ClassFile.FieldType.long)]
set_option maxRecDepth 65536 in
theorem codes_eq : words1.filter isCode = codes1 := rfl
theorem w_codes : ∀ c ∈ words1.filter isCode, c.before args0 about1 = true := by
  rw [codes_eq]
  intro c hc
  simp only [codes1, List.mem_cons, List.not_mem_nil, or_false] at hc
  rcases hc with rfl | rfl | rfl | rfl | rfl | rfl | rfl
  · exact w_c0
  · exact w_c1
  · exact w_c2
  · exact w_c3
  · exact w_c4
  · exact w_c5
  · exact w_c6
set_option maxRecDepth 65536 in
theorem w_t1 : (words1.take 24).all (fun c => isCode c || c.before args0 about1) = true := by decide +kernel
set_option maxRecDepth 65536 in
theorem w_t2 : (words1.drop 24).all (fun c => isCode c || c.before args0 about1) = true := by decide +kernel
theorem w_tables : (allAtoms (Jvm.Cond.code x code maxLocals ret :: tables_1)).before args0 about1 = true := by
  rw [allAtoms_all]
  show words1.all (fun c => c.before args0 about1) = true
  refine all_split ?_ w_codes
  rw [← List.take_append_drop 24 words1, List.all_append, w_t1, w_t2]
  rfl
set_option maxRecDepth 65536 in
theorem w_case : (Jvm.Cond.and given_1 narrow_1).before args0 about1 = true := by decide +kernel
theorem w_applies : (headSpec (Jvm.Cond.code x code maxLocals ret :: tables_1) room_1).applies x e0.platform about1 = true :=
  (Spec.applies_iff w_frames).mpr ⟨w_running, w_runnable, w_alone, w_named, w_hears, w_ripe, w_room, w_tables⟩
theorem atStart : AtStart classFile x code maxLocals ret World_1 tables_1 room_1 Calls_1 rest_1 Pre_1 launch0 p0 e0 about1 theMethod args0 below0 :=
  ⟨lists_1, trivial, launch0.admits_env _ _ _, launch0.least_env, fairChoices_fair.cas, fairChoices_fair.clock, w_frames, w_args, w_heap, w_applies, trivial, trivial, w_case⟩
end start1
theorem witness_1 : WitnessClaimed_1 := ⟨start1.p0, start1.e0, start1.about1, start1.theMethod, start1.args0, start1.below0, start1.atStart⟩
end Jvm.Pilot.@@N@@
