import JvmDerived
import JvmDerived.Pilot.@@N@@Statement
import JvmDerived.Pilot.@@N@@Code
set_option linter.unusedVariables false
set_option linter.unusedSimpArgs false
@@BLOCK:NumsL.lean.txt@@
namespace Jvm.RoadKit
open Sem ClassFile Op Lib Jvm.Stand Jvm.Free Jvm.LawKit
section New
variable {p : Program} {l : Launch} {e : Env} {R : Room} {s : State} {m : MethodId} {args : Array Value} {below : List Frame} {meth : Method} {c : Code} {T : State} {locs : List Loc} {cells slots : Nat}
/-- ireturn of an int (after example/lawnew) -/
theorem retI (X : Stand p l e R s m args below meth c T locs cells slots) (hx : p.tables.exec = Jvm.exec) {pc : Nat} {Ls : Array Slot} {z : Int32} {rest : List Value} (hret : meth.sig.returnType = some .int) (hd : decode c.code pc = .ok (.ireturn, 1)) {fs : List Frame}
    (hl : ∀ (f : JFrame) (acts : List Action), f.method = m → f.locked = none → f.entered = [] → (doReturn e (T.setTop f) acts (some (.int z))).1 = T.setFrames fs) : Steps p.tables e below (T.setTop (mkF m pc Ls (.int z :: rest))) (T.setFrames fs) := by
  have hm' : T.vm.method? m = some meth := X.method'
  have hn : narrow .int (.int z) = .int z := rfl
  show Steps p.tables e below (T.setTop { method := m, pc := pc, locals := Ls, stack := _ :: rest, locked := none }) _
  jvm_step X.here [X.here.top, hx, hd, hm', hret, hn]
  first | (intro acts; rw [hl _ acts rfl rfl rfl]) | rw [hl _ _ rfl rfl rfl]
  exact Steps.refl _
/-- the run from S comes to an end that P speaks of: a walk goes on from state to state under one goal, and may fork -/
def own_Go (tb : Tables) (e : Env) (below : List Frame) (P : State → Outcome → Prop) (S : State) : Prop := ∃ t o, Steps tb e below S t ∧ t.status = .running ∧ Ended t below o ∧ P t o
theorem own_st {tb : Tables} {e : Env} {below : List Frame} {P : State → Outcome → Prop} {S S' : State} (st : ∀ t, Steps tb e below S' t → Steps tb e below S t) (k : own_Go tb e below P S') : own_Go tb e below P S := by
  obtain ⟨t, o, h1, h2⟩ := k
  exact ⟨t, o, st t h1, h2⟩
theorem own_tr {tb : Tables} {e : Env} {below : List Frame} {P : State → Outcome → Prop} {S S' : State} (st : Steps tb e below S S') (k : own_Go tb e below P S') : own_Go tb e below P S := own_st (fun _ h => st.trans h) k
theorem own_cv {tb : Tables} {e : Env} {below : List Frame} {P : State → Outcome → Prop} {S S' : State} (q : S = S') (k : own_Go tb e below P S') : own_Go tb e below P S := q ▸ k
theorem own_join {α : Type} {tb : Tables} {e : Env} {below : List Frame} {P : State → Outcome → Prop} {S : State} (F : α → State) (k : ∀ x, own_Go tb e below P (F x)) (j : (∀ x, own_Go tb e below P (F x)) → own_Go tb e below P S) : own_Go tb e below P S := j k
/-- the end of a walk: what the return leaves -/
theorem own_end (X : Stand p l e R s m args below meth c T locs cells slots) {Q : Option Value → Heap → List Loc → Prop} {C N : Nat} {S : State} (v : Option Value) (hlocks : meth.locks = false) (hv : meth.sig.returnType = none → v = none)
    (ret : ∀ fs : List Frame, (∀ (f : JFrame) (acts : List Action), f.method = m → f.locked = none → f.entered = [] → (doReturn e (T.setTop f) acts v).1 = T.setFrames fs) → Steps p.tables e below S (T.setFrames fs))
    (q : Q v T.heap locs) (hc : cells ≤ C) (hn : slots ≤ N) : own_Go p.tables e below (fun t o => ∃ v L, o = .returned v ∧ Q v t.heap L ∧ FrameEnd s o t L C N) S := by
  obtain ⟨fs, hr, hrun, hended, hW, hsame⟩ := X.leave (v := v) hv hlocks
  exact ⟨_, _, ret fs hr, hrun, hended, v, locs, rfl, q, ⟨_, rfl⟩, hW, hsame.mono hc hn⟩
end New
theorem own_i_lt (x y : Int32) : if_icmp.holds .lt x y = decide (x.toInt < y.toInt) := by simp [if_icmp.holds, Int32.lt_iff_toInt_lt]
theorem own_i_le (x y : Int32) : if_icmp.holds .le x y = decide (x.toInt ≤ y.toInt) := by simp [if_icmp.holds, Int32.le_iff_toInt_le]
theorem own_i_gt (x y : Int32) : if_icmp.holds .gt x y = decide (x.toInt > y.toInt) := by simp [if_icmp.holds, Int32.lt_iff_toInt_lt]
theorem own_i_ge (x y : Int32) : if_icmp.holds .ge x y = decide (x.toInt ≥ y.toInt) := by simp [if_icmp.holds, Int32.le_iff_toInt_le]
theorem own_i_eq (x y : Int32) : if_icmp.holds .eq x y = decide (x.toInt = y.toInt) := by rw [Bool.eq_iff_iff]; simp [if_icmp.holds, Int32.toInt_inj]
theorem own_i_ne (x y : Int32) : if_icmp.holds .ne x y = decide (x.toInt ≠ y.toInt) := by rw [Bool.eq_iff_iff]; simp [if_icmp.holds, Int32.toInt_inj]
theorem own_z_lt (x : Int32) : ifCond.holds .lt x = decide (x.toInt < 0) := by simp [ifCond.holds, Int32.lt_iff_toInt_lt]
theorem own_z_le (x : Int32) : ifCond.holds .le x = decide (x.toInt ≤ 0) := by simp [ifCond.holds, Int32.le_iff_toInt_le]
theorem own_z_gt (x : Int32) : ifCond.holds .gt x = decide (x.toInt > 0) := by simp [ifCond.holds, Int32.lt_iff_toInt_lt]
theorem own_z_ge (x : Int32) : ifCond.holds .ge x = decide (x.toInt ≥ 0) := by simp [ifCond.holds, Int32.le_iff_toInt_le]
theorem own_z_eq (x : Int32) : ifCond.holds .eq x = decide (x.toInt = 0) := by rw [Bool.eq_iff_iff]; simp [ifCond.holds, ← Int32.toInt_inj]
theorem own_z_ne (x : Int32) : ifCond.holds .ne x = decide (x.toInt ≠ 0) := by rw [Bool.eq_iff_iff]; simp [ifCond.holds, ← Int32.toInt_inj]
theorem own_cmp (x y : Int64) : (XT.cmpL x y).toInt = if y.toInt < x.toInt then 1 else if x.toInt = y.toInt then 0 else -1 := by
  simp only [XT.cmpL, Int64.lt_iff_toInt_lt, ← Int64.toInt_inj]
  split
  · rfl
  · split <;> rfl
theorem own_l_lt (x y : Int64) : ifCond.holds .lt (XT.cmpL x y) = decide (x.toInt < y.toInt) := by
  rw [own_z_lt, own_cmp, decide_eq_decide]; split <;> (try split) <;> omega
theorem own_l_le (x y : Int64) : ifCond.holds .le (XT.cmpL x y) = decide (x.toInt ≤ y.toInt) := by
  rw [own_z_le, own_cmp, decide_eq_decide]; split <;> (try split) <;> omega
theorem own_l_gt (x y : Int64) : ifCond.holds .gt (XT.cmpL x y) = decide (x.toInt > y.toInt) := by
  rw [own_z_gt, own_cmp, decide_eq_decide]; split <;> (try split) <;> omega
theorem own_l_ge (x y : Int64) : ifCond.holds .ge (XT.cmpL x y) = decide (x.toInt ≥ y.toInt) := by
  rw [own_z_ge, own_cmp, decide_eq_decide]; split <;> (try split) <;> omega
theorem own_l_eq (x y : Int64) : ifCond.holds .eq (XT.cmpL x y) = decide (x.toInt = y.toInt) := by
  rw [own_z_eq, own_cmp, decide_eq_decide]; split <;> (try split) <;> omega
theorem own_l_ne (x y : Int64) : ifCond.holds .ne (XT.cmpL x y) = decide (x.toInt ≠ y.toInt) := by
  rw [own_z_ne, own_cmp, decide_eq_decide]; split <;> (try split) <;> omega
/-- a boolean as the int that the machine keeps -/
def own_b (P : Prop) [Decidable P] : Int32 := if P then 1 else 0
theorem own_b1 {P : Prop} [Decidable P] (h : P) : own_b P = 1 := if_pos h
theorem own_b0 {P : Prop} [Decidable P] (h : ¬ P) : own_b P = 0 := if_neg h
theorem own_bi (P : Prop) [Decidable P] : (own_b P).toInt = if P then 1 else 0 := by unfold own_b; split <;> rfl
theorem own_nb {P : Prop} [Decidable P] : nar .boolean (own_b P) = own_b P := by unfold own_b; split <;> rfl
theorem own_nB {x : Int32} : nar .byte (Int8.toInt32 (Int32.toInt8 x)) = Int8.toInt32 (Int32.toInt8 x) := by
  show Int8.toInt32 (Int32.toInt8 (Int8.toInt32 (Int32.toInt8 x))) = _
  simp
end Jvm.RoadKit
namespace Jvm.RoadKit
open Sem ClassFile Op Lib Jvm.Stand Jvm.Free Jvm.LawKit
section Arrays
variable {p : Program} {l : Launch} {e : Env} {R : Room} {s : State} {m : MethodId} {args : Array Value} {below : List Frame} {meth : Method} {c : Code} {T : State} {locs : List Loc} {cells slots : Nat} {Z : State} {h h' : Heap} {a b : Addr} {ty : FieldType} {n : Nat} {f : Nat → Int32}
/-- an array of ints or bytes by what it holds: n places, place i holds f i -/
def own_A (Z : State) (h : Heap) (a : Addr) (ty : FieldType) (n : Nat) (f : Nat → Int32) : Prop := n < 2 ^ 31 ∧ ∃ cl : Cell, Arr Z h a cl ty ∧ cl.slots.size = n ∧ (∀ i, i < n → cl.slots[i]? = some (.int (f i))) ∧ ∀ i, i < n → fits ty (.int (f i)) = true
theorem own_A.lt (V : own_A Z h a ty n f) : a < h.size := by obtain ⟨-, cl, A, -⟩ := V; exact A.lt
theorem own_A.ext (V : own_A Z h a ty n f) (E : Ext h h') : own_A Z h' a ty n f := by obtain ⟨q, cl, A, r⟩ := V; exact ⟨q, cl, A.ext E, r⟩
theorem own_A.other {sl : Nat} {v : Value} (V : own_A Z h a ty n f) (W : Wr h h' b sl v) (ne : a ≠ b) : own_A Z h' a ty n f := by obtain ⟨q, cl, A, r⟩ := V; exact ⟨q, cl, A.other W ne, r⟩
theorem own_A.keep {ws : List Addr} (V : own_A Z h a ty n f) (K : Keep h h' ws) (ne : a ∉ ws) : own_A Z h' a ty n f := by obtain ⟨q, cl, A, r⟩ := V; exact ⟨q, cl, ⟨K.2.1 a cl A.1 ne, A.2⟩, r⟩
theorem own_A.congr {f' : Nat → Int32} (V : own_A Z h a ty n f) (q : ∀ i, i < n → f' i = f i) : own_A Z h a ty n f' := by
  obtain ⟨r, cl, A, S, H, G⟩ := V
  exact ⟨r, cl, A, S, fun i hi => by rw [q i hi]; exact H i hi, fun i hi => by rw [q i hi]; exact G i hi⟩
theorem own_nat {j : Int32} (q : 0 ≤ j.toInt) : (j.toNatClampNeg : Int) = j.toInt := by simp only [Int32.toNatClampNeg]; omega
theorem own_in {j : Int32} {cl : Cell} (S : cl.slots.size = n) (q0 : 0 ≤ j.toInt) (q1 : j.toInt < n) : ¬ (j < 0 ∨ cl.slots.size ≤ j.toNatClampNeg) := by
  have := own_nat q0
  rw [Int32.lt_iff_toInt_lt, S]
  have z : (0 : Int32).toInt = 0 := rfl
  omega
theorem own_A.new {k : ClassId} {z : Int32} (A : Arr Z h a (newA k ty z) ty) (q : ¬ z < 0) (hd : defaultValue ty = .int 0) (hz : fits ty (.int 0) = true) : own_A Z h a ty z.toNatClampNeg (fun _ => 0) := by
  refine ⟨(back32 q).2, _, A, sz_new _ _ _, fun i hi => ?_, fun i hi => hz⟩
  simp [newA, hi, hd]
theorem own_A.set {j : Nat} {x : Int32} (V : own_A Z h a ty n f) (W : Wr h h' a j (.int x)) (hx : fits ty (.int x) = true) : own_A Z h' a ty n (fun i => if i = j then x else f i) := by
  obtain ⟨q, cl, A, S, H, G⟩ := V
  obtain ⟨cl', h1, h2, h3, h4⟩ := W
  cases A.1.symm.trans h1
  refine ⟨q, cl.setSlot j (.int x), A.same ⟨cl, h1, h2, h3, h4⟩, by rw [sz_set]; exact S, fun i hi => ?_, fun i hi => ?_⟩
  · simp only [Cell.setSlot, Array.getElem?_setIfInBounds]
    by_cases e : j = i
    · subst e; simp [h3]
    · rw [if_neg e, if_neg (fun u => e u.symm)]; exact H i hi
  · by_cases e : i = j
    · simp [e, hx]
    · simp [e, G i hi]
/-- a store into an int[] -/
theorem own_stI (X : Stand p l e R s m args below meth c T locs cells slots) (hx : p.tables.exec = Jvm.exec) (hZ : Z.Warmed39 s.vm) (eT : T.heap = h) (V : own_A Z h a .int n f) {j x : Int32} (q0 : 0 ≤ j.toInt) (q1 : j.toInt < n) {g : JFrame} (hg : g.method = m) {rest : List Value} (hs : g.stack = .int x :: .int j :: .ref a :: rest) (hd : decode c.code g.pc = .ok (.iastore, 1)) :
    ∃ T' h', Stand p l e R s m args below meth c T' (locs ++ [⟨a, j.toNatClampNeg⟩]) cells slots ∧ T'.heap = h' ∧ Wr h h' a j.toNatClampNeg (.int x) ∧ own_A Z h' a .int n (fun i => if i = j.toNatClampNeg then x else f i) ∧ ∀ target, Steps p.tables e below (T'.setTop { g with pc := g.pc + 1, stack := rest }) target → Steps p.tables e below (T.setTop g) target := by
  obtain ⟨r, cl, A, S, H, G⟩ := id V
  obtain ⟨T', h', X', e', W, st⟩ := stI X hx hZ eT A (own_in S q0 q1) hg hs hd
  exact ⟨T', h', X', e', W, V.set W rfl, st⟩
/-- a store into a byte[] -/
theorem own_stB (X : Stand p l e R s m args below meth c T locs cells slots) (hx : p.tables.exec = Jvm.exec) (hZ : Z.Warmed39 s.vm) (eT : T.heap = h) (V : own_A Z h a .byte n f) {j x : Int32} (q0 : 0 ≤ j.toInt) (q1 : j.toInt < n) {g : JFrame} (hg : g.method = m) {rest : List Value} (hs : g.stack = .int x :: .int j :: .ref a :: rest) (hd : decode c.code g.pc = .ok (.bastore, 1)) :
    ∃ T' h', Stand p l e R s m args below meth c T' (locs ++ [⟨a, j.toNatClampNeg⟩]) cells slots ∧ T'.heap = h' ∧ Wr h h' a j.toNatClampNeg (.int (Int8.toInt32 (Int32.toInt8 x))) ∧ own_A Z h' a .byte n (fun i => if i = j.toNatClampNeg then Int8.toInt32 (Int32.toInt8 x) else f i) ∧ ∀ target, Steps p.tables e below (T'.setTop { g with pc := g.pc + 1, stack := rest }) target → Steps p.tables e below (T.setTop g) target := by
  obtain ⟨r, cl, A, S, H, G⟩ := id V
  obtain ⟨T', h', X', e', W, st⟩ := stB X hx hZ eT A (own_in S q0 q1) hg hs hd
  exact ⟨T', h', X', e', W, V.set W (fits_nar_byte x), st⟩
/-- a read of an int[] -/
theorem own_ldI (X : Stand p l e R s m args below meth c T locs cells slots) (hx : p.tables.exec = Jvm.exec) (hZ : Z.Warmed39 s.vm) (eT : T.heap = h) (V : own_A Z h a .int n f) {j : Int32} (q0 : 0 ≤ j.toInt) (q1 : j.toInt < n) {g : JFrame} (hg : g.method = m) {rest : List Value} (hs : g.stack = .int j :: .ref a :: rest) (hd : decode c.code g.pc = .ok (.iaload, 1)) :
    ∀ target, Steps p.tables e below (T.setTop { g with pc := g.pc + 1, stack := .int (f j.toNatClampNeg) :: rest }) target → Steps p.tables e below (T.setTop g) target := fun target k => by
  obtain ⟨r, cl, A, S, H, G⟩ := V
  have u := own_nat q0
  exact X.iaload hx (by rw [eT]; exact A.1) (State.isArrayOf_alike hZ.alike A.2.1) A.2.2 (own_in S q0 q1) (H _ (by omega)) hg hs hd _ k
/-- a read of a byte[] -/
theorem own_ldB (X : Stand p l e R s m args below meth c T locs cells slots) (hx : p.tables.exec = Jvm.exec) (hZ : Z.Warmed39 s.vm) (eT : T.heap = h) (V : own_A Z h a .byte n f) {j : Int32} (q0 : 0 ≤ j.toInt) (q1 : j.toInt < n) {g : JFrame} (hg : g.method = m) {rest : List Value} (hs : g.stack = .int j :: .ref a :: rest) (hd : decode c.code g.pc = .ok (.baload, 1)) :
    ∀ target, Steps p.tables e below (T.setTop { g with pc := g.pc + 1, stack := .int (f j.toNatClampNeg) :: rest }) target → Steps p.tables e below (T.setTop g) target := fun target k => by
  obtain ⟨r, cl, A, S, H, G⟩ := V
  have u := own_nat q0
  exact X.baloadBytes hx (by rw [eT]; exact A.1) (State.isArrayOf_alike hZ.alike A.2.1) A.2.2 (own_in S q0 q1) (H _ (by omega)) hg hs hd _ k
/-- its length -/
theorem own_len (X : Stand p l e R s m args below meth c T locs cells slots) (hx : p.tables.exec = Jvm.exec) (hZ : Z.Warmed39 s.vm) (eT : T.heap = h) (V : own_A Z h a ty n f) {g : JFrame} (hg : g.method = m) {rest : List Value} (hs : g.stack = .ref a :: rest) (hd : decode c.code g.pc = .ok (.arraylength, 1)) :
    ∀ target, Steps p.tables e below (T.setTop { g with pc := g.pc + 1, stack := .int n.toInt32 :: rest }) target → Steps p.tables e below (T.setTop g) target := fun target k => by
  obtain ⟨r, cl, A, S, H, G⟩ := V
  subst S
  exact X.arraylength hx (by rw [eT]; exact A.1) (State.isArrayOf_alike hZ.alike A.2.1) hg hs hd _ k
/-- one list of its values, for the laws that speak of lists -/
theorem own_tn {n : Nat} (h : n < 2 ^ 31) : n.toInt32.toNatClampNeg = n := by
  have q := len_toInt h
  simp only [Int32.toNatClampNeg]; omega
theorem own_gd (f : Nat → Int32) (n i : Nat) (d : Value) (hi : i < n) : (((List.range n).map fun i => Value.int (f i)).getD i d) = .int (f i) := by
  simp [List.getD_eq_getElem?_getD, hi]
theorem own_A.arv (V : own_A Z h a ty n f) : ∃ k, Arv Z h a k ty n.toInt32 ((List.range n).map fun i => Value.int (f i)) (.int 0) := by
  obtain ⟨q, cl, A, S, H, G⟩ := V
  refine ⟨cl.cls, cl, A, rfl, by rw [own_tn q]; exact S, ?_, fun i hi => ?_, fun i hi => ?_⟩
  · have z := len_toInt q
    have o : (0 : Int32).toInt = 0 := rfl
    rw [Int32.lt_iff_toInt_lt]; omega
  · rw [own_gd f n i _ (S ▸ hi)]; exact H i (S ▸ hi)
  · rw [own_gd f n i _ (S ▸ hi)]; exact G i (S ▸ hi)
theorem own_A.of_arv {k : ClassId} {z : Int32} {vs : List Value} {dv : Value} (F : Arv Z h a k ty z vs dv) (g : Nat → Int32) (hg : ∀ i, i < z.toNatClampNeg → vs.getD i dv = .int (g i)) : own_A Z h a ty z.toNatClampNeg g := by
  obtain ⟨cl, A, -, S, M, H, G⟩ := F
  exact ⟨(back32 M).2, cl, A, S, fun i hi => by rw [← hg i hi]; exact H i (S ▸ hi), fun i hi => by rw [← hg i hi]; exact G i (S ▸ hi)⟩
/-- System.arraycopy from place 0 to place 0 -/
theorem own_cp (X : Stand p l e R s m args below meth c T locs cells slots) (hx : p.tables.exec = Jvm.exec) (hZ : Z.Warmed39 s.vm) {a0 : Array Value} {own : String} {index : Nat} (hown : s.vm.findClass own = some m.cls)
    (w1 : (Cond.methodLink own index Jvm.Stand.acN).before a0 Z = true) (w2 : (Cond.native Jvm.Stand.acN).before a0 Z = true) (w3 : (Cond.static Jvm.Stand.acN).before a0 Z = true) (w4 : (Cond.initialized "java/lang/System").before a0 Z = true) (eT : T.heap = h)
    {n' : Nat} {f' : Nat → Int32} (A : own_A Z h a .byte n f) (B : own_A Z h b .byte n' f') {nn : Int32} (q0 : 0 ≤ nn.toInt) (q1 : nn.toInt ≤ n) (q2 : nn.toInt ≤ n') {n0 : Nat} (N : Fr n0 locs) (ge : n0 ≤ b)
    {g : JFrame} (hg : g.method = m) (hsize : g.locals.size = c.maxLocals) {rest : List Value} (hs : g.stack = .int nn :: .int 0 :: .ref b :: .int 0 :: .ref a :: rest) (hd : decode c.code g.pc = .ok (.invokestatic index, 3))
    (hf : 1 ≤ R.frames) {W : Nat} (hW : 2 * g.monitorRoom + (rest.map fun v => v.category).sum ≤ W) (hlo : W + (nativeFrameWords "java/lang/System" "arraycopy" 5 + 11) ≤ R.locals) :
    ∃ T' h' L, Stand p l e R s m args below meth c T' L cells slots ∧ T'.heap = h' ∧ Fr n0 L ∧ Keep h h' [b] ∧ own_A Z h' b .byte n' (fun i => if i < nn.toNatClampNeg then f i else f' i) ∧
      ∀ target, Steps p.tables e below (T'.setTop { g with pc := g.pc + 3, stack := rest }) target → Steps p.tables e below (T.setTop g) target := by
  obtain ⟨k, VA⟩ := A.arv
  obtain ⟨k', VB⟩ := B.arv
  have u := own_nat q0
  have z0 : (0 : Int32).toNatClampNeg = 0 := rfl
  have nA := own_tn A.1
  have nB := own_tn B.1
  obtain ⟨T', h', L, X', e', N', K, V, st⟩ := cpA X hx hZ hown w1 w2 w3 w4 eT VA VB (Or.inl ⟨rfl, rfl⟩) (by decide) (by decide) (by rw [Int32.lt_iff_toInt_lt]; have o : (0 : Int32).toInt = 0 := rfl; omega) (by rw [z0, nA]; omega) (by rw [z0, nB]; omega) rfl (by rw [z0]; simp; omega) N ge hg hsize hs hd hf hW hlo
  refine ⟨T', h', L, X', e', N', K, ?_, st⟩
  have V2 := own_A.of_arv V (fun i => if i < nn.toNatClampNeg then f i else f' i) (fun i hi => ?_)
  · rw [nB] at V2; exact V2
  · rw [nB] at hi
    rw [z0]
    simp only [Nat.zero_add, List.take_zero, List.nil_append, List.getD_eq_getElem?_getD]
    by_cases l : i < nn.toNatClampNeg
    · rw [List.getElem?_append_left (by simp; omega)]
      have hn : i < n := by omega
      simp [l, hn]
    · rw [List.getElem?_append_right (by simp; omega)]
      have e1 : nn.toNatClampNeg + (i - nn.toNatClampNeg) = i := by omega
      simp [l, hi, e1]
/-- clone() of a byte[] -/
theorem own_cl (X : Stand p l e R s m args below meth c T locs cells slots) (hx : p.tables.exec = Jvm.exec) (hZ : Z.Warmed39 s.vm) {a0 : Array Value} {own ad : String} {index : Nat} (hown : s.vm.findClass own = some m.cls)
    (w1 : (Cond.methodLink own index ⟨ad, "clone", "()Ljava/lang/Object;"⟩).before a0 Z = true) (w2 : (Cond.sameMethod ad "java/lang/Object" "clone" "()Ljava/lang/Object;").before a0 Z = true) (w3 : (Cond.native ⟨"java/lang/Object", "clone", "()Ljava/lang/Object;"⟩).before a0 Z = true)
    (w4 : (Cond.instanceMethod ⟨"java/lang/Object", "clone", "()Ljava/lang/Object;"⟩).before a0 Z = true) (w5 : (Cond.selects ad ⟨ad, "clone", "()Ljava/lang/Object;"⟩ ⟨"java/lang/Object", "clone", "()Ljava/lang/Object;"⟩).before a0 Z = true) (w6 : (Cond.castable ad "java/lang/Cloneable").before a0 Z = true)
    (eT : T.heap = h) (V : own_A Z h a ty n f) (E : Exa Z h a ad) {g : JFrame} (hg : g.method = m) (hsize : g.locals.size = c.maxLocals) {rest : List Value} (hst : g.stack = .ref a :: rest) (hd : decode c.code g.pc = .ok (.invokevirtual index, 3))
    (hf : 1 ≤ R.frames) {W cap : Nat} (hW : 2 * g.monitorRoom + (rest.map fun v => v.category).sum ≤ W) (hl : W + 14 ≤ R.locals) (hcap : n ≤ cap) (hc : cells + 1 ≤ R.cells) (hsl : slots + cap ≤ R.slots) :
    ∃ T' h', Stand p l e R s m args below meth c T' locs (cells + 1) (slots + cap) ∧ T'.heap = h' ∧ Ext h h' ∧ own_A Z h' h.size ty n f ∧ Exa Z h' h.size ad ∧
      ∀ target, Steps p.tables e below (T'.setTop { g with pc := g.pc + 3, stack := .ref h.size :: rest }) target → Steps p.tables e below (T.setTop g) target := by
  obtain ⟨q, cl, A, S, H, G⟩ := V
  have FC : FitC Z cl := fitC_of A fun i hi v hv => by rw [H i (S ▸ hi)] at hv; cases hv; exact G i (S ▸ hi)
  obtain ⟨T', h', X', e', ex, A', E', st⟩ := cloneA X hx hZ hown w1 w2 w3 w4 w5 w6 eT A E FC hg hsize hst hd hf hW hl (by rw [S]; exact hcap) hc hsl
  exact ⟨T', h', X', e', ex, ⟨q, cloneOf cl, A', S, H, G⟩, E', st⟩
/-- a private method is selected, by what the sheet says of another method of its class -/
theorem own_selp {s : State} {args : Array Value} {y y' : MethodName} (hc : y'.cls = y.cls) (w : (Cond.selects y'.cls y' y').before args s = true) (hp : s.PrivateAt y) (hi : (Cond.instanceMethod y).before args s = true) (hy : y.cls ≠ "java/lang/invoke/MethodHandle" ∧ y.cls ≠ "java/lang/invoke/VarHandle") : (Cond.selects y.cls y y).before args s = true := by
  obtain ⟨c, r, m, h1, h2, h3, h4, mk, h5, h6⟩ := Cond.selects_spec w
  have q := findClass_of_methodNamed h3
  rw [hc] at q
  exact selects_self_of_private q h5 h6 hp hi hy
end Arrays
end Jvm.RoadKit

namespace Jvm.RoadKit
open Sem ClassFile Op Lib Jvm.Stand Jvm.Free Jvm.LawKit
/-- a long[] of two places -/
def own_L (Z : State) (h : Heap) (a : Addr) (w0 w1 : Int64) : Prop := ∃ cl : Cell, Arr Z h a cl .long ∧ cl.slots.size = 2 ∧ cl.slots[0]? = some (.long w0) ∧ cl.slots[1]? = some (.long w1)
theorem own_L.new {Z : State} {h : Heap} {a : Addr} {k : ClassId} (A : Arr Z h a (newA k .long 2) .long) : own_L Z h a 0 0 := by
  refine ⟨_, A, sz_new _ _ _, ?_, ?_⟩ <;> rfl
theorem own_L.set0 {Z : State} {h h' : Heap} {a : Addr} {w0 w1 x : Int64} (V : own_L Z h a w0 w1) (W : Wr h h' a 0 (.long x)) : own_L Z h' a x w1 := by
  obtain ⟨cl, A, S, H0, H1⟩ := V
  exact ⟨_, A.same W, by rw [sz_set]; exact S, by simp [Cell.setSlot, S], by simp [Cell.setSlot]; exact H1⟩
theorem own_L.set1 {Z : State} {h h' : Heap} {a : Addr} {w0 w1 x : Int64} (V : own_L Z h a w0 w1) (W : Wr h h' a 1 (.long x)) : own_L Z h' a w0 x := by
  obtain ⟨cl, A, S, H0, H1⟩ := V
  exact ⟨_, A.same W, by rw [sz_set]; exact S, by simp [Cell.setSlot]; exact H0, by simp [Cell.setSlot, S]⟩
end Jvm.RoadKit
namespace Jvm.Pilot.@@N@@
open Jvm Jvm.ClassFile Sem Op Lib Jvm.Free Jvm.Stand Jvm.LawKit Jvm.RoadKit Bundle Jvm.Pilot.@@N@@.Jvm.D

/-! the plain law -/
def own_c1 (a : Int64) : Int64 := a - (XT.ushrL a (1 : Int32) &&& (6148914691236517205 : Int64))
def own_c2 (a : Int64) : Int64 := (a &&& (3689348814741910323 : Int64)) + (XT.ushrL a (2 : Int32) &&& (3689348814741910323 : Int64))
def own_c3 (a : Int64) : Int64 := (a + XT.ushrL a (4 : Int32)) &&& (1085102592571150095 : Int64)
def own_c4 (a : Int64) : Int64 := a + XT.ushrL a (8 : Int32)
def own_c5 (a : Int64) : Int64 := a + XT.ushrL a (16 : Int32)
def own_c6 (a : Int64) : Int64 := a + XT.ushrL a (32 : Int32)
def own_bc (a : Int64) : Int32 := Int64.toInt32 (own_c6 (own_c5 (own_c4 (own_c3 (own_c2 (own_c1 a)))))) &&& (127 : Int32)
def own_sum (a b : Int64) : Int64 := ((0 : Int64) + Int32.toInt64 (own_bc a)) + Int32.toInt64 (own_bc b)
theorem own_lo : ∀ i : Fin 64, (own_sum (((1 : Int64) <<< (Int32.toInt64 (Int32.ofNat i.val) &&& 63)) - (1 : Int64)) (0 : Int64)).toInt = (i.val : Int) := by decide +kernel
theorem own_hi : ∀ i : Fin 64, (own_sum (-1 : Int64) (((1 : Int64) <<< (Int32.toInt64 (Int32.ofNat (i.val + 64) - (64 : Int32)) &&& 63)) - (1 : Int64))).toInt = (i.val : Int) + 64 := by decide +kernel
theorem own_nt (t : Int32) (h : 0 ≤ t.toInt) : t = Int32.ofNat t.toInt.toNat := by
  have a := t.toInt_lt
  apply Int32.toInt_inj.mp
  rw [Int32.toInt_ofNat_small (by omega)]
  omega
theorem own_lo' (t : Int32) (h0 : 0 ≤ t.toInt) (h1 : t.toInt < 64) : (own_sum (((1 : Int64) <<< (Int32.toInt64 t &&& 63)) - (1 : Int64)) (0 : Int64)).toInt = t.toInt := by
  have e := own_nt t h0
  have q := own_lo ⟨t.toInt.toNat, by omega⟩
  dsimp only at q
  rw [← e] at q
  omega
theorem own_hi' (t : Int32) (h0 : 64 ≤ t.toInt) (h1 : t.toInt < 128) : (own_sum (-1 : Int64) (((1 : Int64) <<< (Int32.toInt64 (t - (64 : Int32)) &&& 63)) - (1 : Int64))).toInt = t.toInt := by
  have e := own_nt t (by omega)
  have q := own_hi ⟨t.toInt.toNat - 64, by omega⟩
  dsimp only at q
  rw [show t.toInt.toNat - 64 + 64 = t.toInt.toNat by omega, ← e] at q
  omega
def own_imax (x y : Int32) : Int32 := if x.toInt < y.toInt then y else x
theorem own_k1 (k : Int32) (h : 2 ≤ k.toInt) : (Int32.toInt64 k - (1 : Int64)).toInt = k.toInt - 1 := by
  have a := k.toInt_lt
  have e := Jvm.Kit.i64_of_i32 k
  have o : (1 : Int64).toInt = 1 := rfl
  rw [Jvm.Kit.i64_sub (by omega) (by omega), e, o]

theorem dMX_0 : decode jdk_29_method_65_code 0 = .ok (.iload_n 0, 1) := by decide +kernel
theorem dMX_1 : decode jdk_29_method_65_code 1 = .ok (.iload_n 1, 1) := by decide +kernel
theorem dMX_2 : decode jdk_29_method_65_code 2 = .ok (.if_icmp .lt 7, 3) := by decide +kernel
theorem dMX_5 : decode jdk_29_method_65_code 5 = .ok (.iload_n 0, 1) := by decide +kernel
theorem dMX_6 : decode jdk_29_method_65_code 6 = .ok (.goto 4, 3) := by decide +kernel
theorem dMX_9 : decode jdk_29_method_65_code 9 = .ok (.iload_n 1, 1) := by decide +kernel
theorem dMX_10 : decode jdk_29_method_65_code 10 = .ok (.ireturn, 1) := by decide +kernel
theorem pd_MX : parseMethodDescriptor "(II)I" = some ⟨[.int, .int], some .int⟩ := by decide +kernel
theorem ef_MX (m : MethodId) (p1 : Int32) (p2 : Int32) : entryFrame m #[(.int p1), (.int p2)] 2 = mkF m 0 #[.val (.int p1), .val (.int p2)] [] := by first | (simp [entryFrame, mkF, argsToLocals, Value.category]; done) | rfl
def QMX (Z : State) (p1 : Int32) (p2 : Int32) (h0 : Heap) (n0 : Nat) (v : Option Value) (h : Heap) (L : List Loc) : Prop := v = some (.int (own_imax p1 p2)) ∧ Fr n0 L ∧ h = h0
set_option maxRecDepth 65536 in
set_option maxHeartbeats 40000000 in
theorem rmMX (l : Launch) (Z : State) (a0 : Array Value) (hw : ∀ d ∈ tables_1, d.before a0 Z = true) (ws : List Jvm.Cond) (p1 : Int32) (p2 : Int32) (h0 : Heap) (n0 : Nat) (Z0 : n0 ≤ h0.size) :
    MetFree l (⟨"java/lang/Math", "max", "(II)I"⟩ : MethodName) (head1 (Jvm.Cond.code (⟨"java/lang/Math", "max", "(II)I"⟩ : MethodName) jdk_29_method_65_code 2 (some .int) :: ws) ({ frames := 0, cells := 0, slots := 0, locals := 0 } : Room)) (fun a U => a = #[(.int p1), (.int p2)] ∧ Z.Warmed39 U.vm ∧ U.heap = h0) (fun _ _ _ _ _ => True) (fun _ U o U' => ∃ v L, o = .returned v ∧ QMX Z p1 p2 h0 n0 v U'.heap L ∧ FrameEnd U o U' L ({ frames := 0, cells := 0, slots := 0, locals := 0 } : Room).cells ({ frames := 0, cells := 0, slots := 0, locals := 0 } : Room).slots) := by
  refine MetFree.of_bodySF (Jvm.Free.JP.mathPlain rfl (by decide +kernel)) hisR ?_
  intro p e s m args below meth c s₁ Bd hml0 hP hK
  obtain ⟨rfl, hZ, hh⟩ := hP
  have hx := Bd.exec
  have hby := Bd.bytes
  have hml : c.maxLocals = 2 := hml0
  have hown : s.vm.findClass "java/lang/Math" = some m.cls := findClass_of_methodNamed Bd.named
  have hnm := (name_of_methodNamed Bd.named Bd.method).1
  have X0 : Stand p l e ({ frames := 0, cells := 0, slots := 0, locals := 0 } : Room) s m #[(.int p1), (.int p2)] below meth c s₁ [] 0 0 := Stand.of_body Bd
  have e0 : s₁.heap = h0 := by rw [← hh, Bd.state]; rfl
  have N0 := Fr.nil n0
  show own_Go p.tables e below (fun t o => ∃ v L, o = .returned v ∧ QMX Z p1 p2 h0 n0 v t.heap L ∧ FrameEnd s o t L ({ frames := 0, cells := 0, slots := 0, locals := 0 } : Room).cells ({ frames := 0, cells := 0, slots := 0, locals := 0 } : Room).slots) (s₁.setTop (entryFrame m #[(.int p1), (.int p2)] 2))
  rw [ef_MX]
  show own_Go p.tables e below _ (s₁.setTop (mkF m 0 #[.val (.int p1), .val (.int p2)] []))
  refine own_st (S' := s₁.setTop (mkF m 1 #[.val (.int p1), .val (.int p2)] [(.int p1)])) (fun _ kont => XS.iloadN X0.here hx rfl (hb hby dMX_0) rfl kont) ?_
  refine own_st (S' := s₁.setTop (mkF m 2 #[.val (.int p1), .val (.int p2)] [(.int p2), (.int p1)])) (fun _ kont => XS.iloadN X0.here hx rfl (hb hby dMX_1) rfl kont) ?_
  by_cases hc2 : Int32.toInt p1 < Int32.toInt p2
  · skip
    refine own_st (S' := s₁.setTop (mkF m 9 #[.val (.int p1), .val (.int p2)] [])) (fun _ kont => XS.icmpYes X0.here hx rfl (pc0 := 2) (pc' := 9) rfl (hb hby dMX_2) rfl ((own_i_lt _ _).trans (decide_eq_true (p := Int32.toInt p1 < Int32.toInt p2) (hc2))) (by decide) (by decide) kont) ?_
    refine own_st (S' := s₁.setTop (mkF m 10 #[.val (.int p1), .val (.int p2)] [(.int p2)])) (fun _ kont => XS.iloadN X0.here hx rfl (hb hby dMX_9) rfl kont) ?_
    have tq101 : p2 = (own_imax p1 p2) := by unfold own_imax; first | rw [if_pos (by omega)] | rw [if_neg (by omega)]
    refine own_cv (congrArg (fun z => s₁.setTop (mkF m 10 #[.val (.int p1), .val (.int p2)] [(.int z)])) tq101) ?_
    show own_Go p.tables e below _ (s₁.setTop (mkF m 10 #[.val (.int p1), .val (.int p2)] [(.int (own_imax p1 p2))]))
    refine own_end X0 (Q := (QMX Z p1 p2 h0 n0)) (some (.int (own_imax p1 p2))) Bd.notSynchronized (fun h => by rw [Bd.returns] at h; cases h) (fun fs hr => retI X0 hx Bd.returns (hb hby dMX_10) hr) ?_ (by decide) (by decide)
    rw [e0]
    exact ⟨rfl, N0, rfl⟩
  · skip
    refine own_st (S' := s₁.setTop (mkF m 5 #[.val (.int p1), .val (.int p2)] [])) (fun _ kont => XS.icmpNo X0.here hx rfl (hb hby dMX_2) rfl ((own_i_lt _ _).trans (decide_eq_false (p := Int32.toInt p1 < Int32.toInt p2) (hc2))) kont) ?_
    refine own_st (S' := s₁.setTop (mkF m 6 #[.val (.int p1), .val (.int p2)] [(.int p1)])) (fun _ kont => XS.iloadN X0.here hx rfl (hb hby dMX_5) rfl kont) ?_
    refine own_st (S' := s₁.setTop (mkF m 10 #[.val (.int p1), .val (.int p2)] [(.int p1)])) (fun _ kont => XS.goto X0.here hx rfl (pc0 := 6) (pc' := 10) rfl (hb hby dMX_6) (by decide) (by decide) kont) ?_
    have tq102 : p1 = (own_imax p1 p2) := by unfold own_imax; first | rw [if_pos (by omega)] | rw [if_neg (by omega)]
    refine own_cv (congrArg (fun z => s₁.setTop (mkF m 10 #[.val (.int p1), .val (.int p2)] [(.int z)])) tq102) ?_
    show own_Go p.tables e below _ (s₁.setTop (mkF m 10 #[.val (.int p1), .val (.int p2)] [(.int (own_imax p1 p2))]))
    refine own_end X0 (Q := (QMX Z p1 p2 h0 n0)) (some (.int (own_imax p1 p2))) Bd.notSynchronized (fun h => by rw [Bd.returns] at h; cases h) (fun fs hr => retI X0 hx Bd.returns (hb hby dMX_10) hr) ?_ (by decide) (by decide)
    rw [e0]
    exact ⟨rfl, N0, rfl⟩
theorem dI_0 : decode prog_21_method_1_code 0 = .ok (.aload_n 0, 1) := by decide +kernel
theorem dI_1 : decode prog_21_method_1_code 1 = .ok (.invokespecial 1, 3) := by decide +kernel
theorem dI_4 : decode prog_21_method_1_code 4 = .ok (.iload_n 1, 1) := by decide +kernel
theorem dI_5 : decode prog_21_method_1_code 5 = .ok (.iconst 2, 1) := by decide +kernel
theorem dI_6 : decode prog_21_method_1_code 6 = .ok (.if_icmp .lt 8, 3) := by decide +kernel
theorem dI_9 : decode prog_21_method_1_code 9 = .ok (.iload_n 2, 1) := by decide +kernel
theorem dI_10 : decode prog_21_method_1_code 10 = .ok (.iconst 1, 1) := by decide +kernel
theorem dI_11 : decode prog_21_method_1_code 11 = .ok (.if_icmp .ge 18, 3) := by decide +kernel
theorem dI_14 : decode prog_21_method_1_code 14 = .ok (.new 7, 3) := by decide +kernel
theorem dI_17 : decode prog_21_method_1_code 17 = .ok (.dup, 1) := by decide +kernel
theorem dI_18 : decode prog_21_method_1_code 18 = .ok (.iload_n 1, 1) := by decide +kernel
theorem dI_19 : decode prog_21_method_1_code 19 = .ok (.iload_n 2, 1) := by decide +kernel
theorem dI_20 : decode prog_21_method_1_code 20 = .ok (.invokedynamic 9, 5) := by decide +kernel
theorem dI_25 : decode prog_21_method_1_code 25 = .ok (.invokespecial 13, 3) := by decide +kernel
theorem dI_28 : decode prog_21_method_1_code 28 = .ok (.athrow, 1) := by decide +kernel
theorem dI_29 : decode prog_21_method_1_code 29 = .ok (.aload_n 0, 1) := by decide +kernel
theorem dI_30 : decode prog_21_method_1_code 30 = .ok (.iload_n 1, 1) := by decide +kernel
theorem dI_31 : decode prog_21_method_1_code 31 = .ok (.putfield 16, 3) := by decide +kernel
theorem dI_34 : decode prog_21_method_1_code 34 = .ok (.aload_n 0, 1) := by decide +kernel
theorem dI_35 : decode prog_21_method_1_code 35 = .ok (.iload_n 2, 1) := by decide +kernel
theorem dI_36 : decode prog_21_method_1_code 36 = .ok (.putfield 22, 3) := by decide +kernel
theorem dI_39 : decode prog_21_method_1_code 39 = .ok (.return_, 1) := by decide +kernel
theorem pn_I : plainName "com/example/mingle/mingle/KmAnonymity" = true := by first | (simp [plainName, overriddenIn]; done) | decide +kernel
theorem pd_I : parseMethodDescriptor "(II)V" = some ⟨[.int, .int], none⟩ := by decide +kernel
theorem ef_I (m : MethodId) (a1 : Addr) (p1 : Int32) (p2 : Int32) : entryFrame m #[(.ref a1), (.int p1), (.int p2)] 3 = mkF m 0 #[.val (.ref a1), .val (.int p1), .val (.int p2)] [] := by first | (simp [entryFrame, mkF, argsToLocals, Value.category]; done) | rfl
def QI (Z : State) (a1 : Addr) (p1 : Int32) (p2 : Int32) (h0 : Heap) (n0 : Nat) (v : Option Value) (h : Heap) (L : List Loc) : Prop := v = none ∧ Fr n0 L ∧ Keep h0 h [a1] ∧ (Exa Z h a1 "com/example/mingle/mingle/KmAnonymity") ∧ (Fld Z h a1 "com/example/mingle/mingle/KmAnonymity" "k" "I" (.int p1))
set_option maxRecDepth 65536 in
set_option maxHeartbeats 40000000 in
theorem rmI (l : Launch) (Z : State) (a0 : Array Value) (hw : ∀ d ∈ tables_1, d.before a0 Z = true) (ws : List Jvm.Cond) (a1 : Addr) (p1 : Int32) (p2 : Int32) (h0 : Heap) (n0 : Nat) (Z0 : n0 ≤ h0.size) (Fk : (Fld Z h0 a1 "com/example/mingle/mingle/KmAnonymity" "k" "I" (.int (0 : Int32)))) (Fm : (Fld Z h0 a1 "com/example/mingle/mingle/KmAnonymity" "m" "I" (.int (0 : Int32)))) (E : (Exa Z h0 a1 "com/example/mingle/mingle/KmAnonymity")) (g9 : n0 ≤ a1) (c2 : 2 ≤ Int32.toInt p1) (c3 : 1 ≤ Int32.toInt p2) :
    MetFree l (⟨"com/example/mingle/mingle/KmAnonymity", "<init>", "(II)V"⟩ : MethodName) (head1 (Jvm.Cond.code (⟨"com/example/mingle/mingle/KmAnonymity", "<init>", "(II)V"⟩ : MethodName) prog_21_method_1_code 3 none :: ws) ({ frames := 1, cells := 0, slots := 0, locals := 12 } : Room)) (fun a U => a = #[(.ref a1), (.int p1), (.int p2)] ∧ Z.Warmed39 U.vm ∧ U.heap = h0) (fun _ _ _ _ _ => True) (fun _ U o U' => ∃ v L, o = .returned v ∧ QI Z a1 p1 p2 h0 n0 v U'.heap L ∧ FrameEnd U o U' L ({ frames := 1, cells := 0, slots := 0, locals := 12 } : Room).cells ({ frames := 1, cells := 0, slots := 0, locals := 12 } : Room).slots) := by
  refine MetFree.of_bodySF (plainFor_of_name pn_I) hisR ?_
  intro p e s m args below meth c s₁ Bd hml0 hP hK
  obtain ⟨rfl, hZ, hh⟩ := hP
  have hx := Bd.exec
  have hby := Bd.bytes
  have hml : c.maxLocals = 3 := hml0
  have hown : s.vm.findClass "com/example/mingle/mingle/KmAnonymity" = some m.cls := findClass_of_methodNamed Bd.named
  have hnm := (name_of_methodNamed Bd.named Bd.method).1
  have X0 : Stand p l e ({ frames := 1, cells := 0, slots := 0, locals := 12 } : Room) s m #[(.ref a1), (.int p1), (.int p2)] below meth c s₁ [] 0 0 := Stand.of_body Bd
  have e0 : s₁.heap = h0 := by rw [← hh, Bd.state]; rfl
  have N0 := Fr.nil n0
  show own_Go p.tables e below (fun t o => ∃ v L, o = .returned v ∧ QI Z a1 p1 p2 h0 n0 v t.heap L ∧ FrameEnd s o t L ({ frames := 1, cells := 0, slots := 0, locals := 12 } : Room).cells ({ frames := 1, cells := 0, slots := 0, locals := 12 } : Room).slots) (s₁.setTop (entryFrame m #[(.ref a1), (.int p1), (.int p2)] 3))
  rw [ef_I]
  show own_Go p.tables e below _ (s₁.setTop (mkF m 0 #[.val (.ref a1), .val (.int p1), .val (.int p2)] []))
  refine own_st (S' := s₁.setTop (mkF m 1 #[.val (.ref a1), .val (.int p1), .val (.int p2)] [(.ref a1)])) (fun _ kont => XS.aloadN X0.here hx rfl (hb hby dI_0) rfl rfl kont) ?_
  obtain ⟨T101, X101, e101, st101⟩ := initO X0 hx hZ hown (hw _ (List.mem_of_getElem? (i := 11) rfl)) (hw _ (List.mem_of_getElem? (i := 12) rfl)) (hw _ (List.mem_of_getElem? (i := 13) rfl)) e0 (g := (mkF m 1 #[.val (.ref a1), .val (.int p1), .val (.int p2)] [(.ref a1)])) rfl (by rw [hml]; rfl) rfl (hb hby dI_1) (by decide) (W := 0) (by show 2 * 0 + _ ≤ _; exact Nat.le_of_eq rfl) (by decide)
  refine own_st (S' := T101.setTop (mkF m 4 #[.val (.ref a1), .val (.int p1), .val (.int p2)] [])) st101 ?_
  refine own_st (S' := T101.setTop (mkF m 5 #[.val (.ref a1), .val (.int p1), .val (.int p2)] [(.int p1)])) (fun _ kont => XS.iloadN X101.here hx rfl (hb hby dI_4) rfl kont) ?_
  refine own_st (S' := T101.setTop (mkF m 6 #[.val (.ref a1), .val (.int p1), .val (.int p2)] [(.int (2 : Int32)), (.int p1)])) (fun _ kont => XS.iconst X101.here hx rfl (hb hby dI_5) kont) ?_
  refine own_st (S' := T101.setTop (mkF m 9 #[.val (.ref a1), .val (.int p1), .val (.int p2)] [])) (fun _ kont => XS.icmpNo X101.here hx rfl (hb hby dI_6) rfl ((own_i_lt _ _).trans (decide_eq_false (p := Int32.toInt p1 < 2) (by omega))) kont) ?_
  refine own_st (S' := T101.setTop (mkF m 10 #[.val (.ref a1), .val (.int p1), .val (.int p2)] [(.int p2)])) (fun _ kont => XS.iloadN X101.here hx rfl (hb hby dI_9) rfl kont) ?_
  refine own_st (S' := T101.setTop (mkF m 11 #[.val (.ref a1), .val (.int p1), .val (.int p2)] [(.int (1 : Int32)), (.int p2)])) (fun _ kont => XS.iconst X101.here hx rfl (hb hby dI_10) kont) ?_
  refine own_st (S' := T101.setTop (mkF m 29 #[.val (.ref a1), .val (.int p1), .val (.int p2)] [])) (fun _ kont => XS.icmpYes X101.here hx rfl (pc0 := 11) (pc' := 29) rfl (hb hby dI_11) rfl ((own_i_ge _ _).trans (decide_eq_true (p := Int32.toInt p2 ≥ 1) (c3))) (by decide) (by decide) kont) ?_
  refine own_st (S' := T101.setTop (mkF m 30 #[.val (.ref a1), .val (.int p1), .val (.int p2)] [(.ref a1)])) (fun _ kont => XS.aloadN X101.here hx rfl (hb hby dI_29) rfl rfl kont) ?_
  refine own_st (S' := T101.setTop (mkF m 31 #[.val (.ref a1), .val (.int p1), .val (.int p2)] [(.int p1), (.ref a1)])) (fun _ kont => XS.iloadN X101.here hx rfl (hb hby dI_30) rfl kont) ?_
  obtain ⟨T102, h102, X102, e102, W102, st102⟩ := putF X101 hx hZ hown (host := "") (Or.inl (hw _ (List.mem_of_getElem? (i := 14) rfl))) Via.refl e101 Fk E (Or.inr ⟨(hw _ (List.mem_of_getElem? (i := 15) rfl)), rfl, hnm⟩) (hw _ (List.mem_of_getElem? (i := 6) rfl)) (ty := .int) (by decide) rfl rfl (g := (mkF m 31 #[.val (.ref a1), .val (.int p1), .val (.int p2)] [(.int p1), (.ref a1)])) rfl rfl (hb hby dI_31)
  refine own_st (S' := T102.setTop (mkF m 34 #[.val (.ref a1), .val (.int p1), .val (.int p2)] [])) st102 ?_
  have N102 := Fr.snoc X102 N0 g9
  have K102 : Keep h0 h102 [a1] := (Keep.refl _ _).wr W102 (Or.inl (List.mem_of_getElem? (i := 0) rfl))
  have E102 := E.wr W102
  have Fk102 := Fld.same W102 Fk
  have Fm102 := Fld.other W102 Fm (Or.inr (slot_ne (t := .int) (t' := .int) (Or.inr (hw _ (List.mem_of_getElem? (i := 17) rfl))) (Or.inr (hw _ (List.mem_of_getElem? (i := 15) rfl))) (by decide) (by decide) (by decide)))
  refine own_st (S' := T102.setTop (mkF m 35 #[.val (.ref a1), .val (.int p1), .val (.int p2)] [(.ref a1)])) (fun _ kont => XS.aloadN X102.here hx rfl (hb hby dI_34) rfl rfl kont) ?_
  refine own_st (S' := T102.setTop (mkF m 36 #[.val (.ref a1), .val (.int p1), .val (.int p2)] [(.int p2), (.ref a1)])) (fun _ kont => XS.iloadN X102.here hx rfl (hb hby dI_35) rfl kont) ?_
  obtain ⟨T103, h103, X103, e103, W103, st103⟩ := putF X102 hx hZ hown (host := "") (Or.inl (hw _ (List.mem_of_getElem? (i := 16) rfl))) Via.refl e102 Fm102 E102 (Or.inr ⟨(hw _ (List.mem_of_getElem? (i := 17) rfl)), rfl, hnm⟩) (hw _ (List.mem_of_getElem? (i := 6) rfl)) (ty := .int) (by decide) rfl rfl (g := (mkF m 36 #[.val (.ref a1), .val (.int p1), .val (.int p2)] [(.int p2), (.ref a1)])) rfl rfl (hb hby dI_36)
  refine own_st (S' := T103.setTop (mkF m 39 #[.val (.ref a1), .val (.int p1), .val (.int p2)] [])) st103 ?_
  have N103 := Fr.snoc X103 N102 g9
  have K103 : Keep h0 h103 [a1] := K102.wr W103 (Or.inl (List.mem_of_getElem? (i := 0) rfl))
  have E103 := E102.wr W103
  have Fk103 := Fld.other W103 Fk102 (Or.inr (slot_ne (t := .int) (t' := .int) (Or.inr (hw _ (List.mem_of_getElem? (i := 15) rfl))) (Or.inr (hw _ (List.mem_of_getElem? (i := 17) rfl))) (by decide) (by decide) (by decide)))
  have Fm103 := Fld.same W103 Fm102
  refine own_end X103 (Q := (QI Z a1 p1 p2 h0 n0)) none Bd.notSynchronized (fun _ => rfl) (fun fs hr => X103.returnOut hx Bd.returns (hb hby dI_39) hr) ?_ (by decide) (by decide)
  rw [e103]
  exact ⟨rfl, N103, K103, E103, Fk103⟩
theorem dT_0 : decode prog_21_method_7_code 0 = .ok (.lload_n 1, 1) := by decide +kernel
theorem dT_1 : decode prog_21_method_7_code 1 = .ok (.lconst 0, 1) := by decide +kernel
theorem dT_2 : decode prog_21_method_7_code 2 = .ok (.lcmp, 1) := by decide +kernel
theorem dT_3 : decode prog_21_method_7_code 3 = .ok (.ifCond .le 17, 3) := by decide +kernel
theorem dT_6 : decode prog_21_method_7_code 6 = .ok (.lload_n 1, 1) := by decide +kernel
theorem dT_7 : decode prog_21_method_7_code 7 = .ok (.aload_n 0, 1) := by decide +kernel
theorem dT_8 : decode prog_21_method_7_code 8 = .ok (.getfield 16, 3) := by decide +kernel
theorem dT_11 : decode prog_21_method_7_code 11 = .ok (.i2l, 1) := by decide +kernel
theorem dT_12 : decode prog_21_method_7_code 12 = .ok (.lcmp, 1) := by decide +kernel
theorem dT_13 : decode prog_21_method_7_code 13 = .ok (.ifCond .ge 7, 3) := by decide +kernel
theorem dT_16 : decode prog_21_method_7_code 16 = .ok (.iconst 1, 1) := by decide +kernel
theorem dT_17 : decode prog_21_method_7_code 17 = .ok (.goto 4, 3) := by decide +kernel
theorem dT_20 : decode prog_21_method_7_code 20 = .ok (.iconst 0, 1) := by decide +kernel
theorem dT_21 : decode prog_21_method_7_code 21 = .ok (.ireturn, 1) := by decide +kernel
theorem pn_T : plainName "com/example/mingle/mingle/KmAnonymity" = true := by first | (simp [plainName, overriddenIn]; done) | decide +kernel
theorem pd_T : parseMethodDescriptor "(J)Z" = some ⟨[.long], some .boolean⟩ := by decide +kernel
theorem ef_T (m : MethodId) (a1 : Addr) (p1 : Int64) : entryFrame m #[(.ref a1), (.long p1)] 3 = mkF m 0 #[.val (.ref a1), .val (.long p1), .second] [] := by first | (simp [entryFrame, mkF, argsToLocals, Value.category]; done) | rfl
def QT (Z : State) (a1 : Addr) (p1 : Int64) (k : Int32) (h0 : Heap) (n0 : Nat) (v : Option Value) (h : Heap) (L : List Loc) : Prop := v = some (.int (own_b (0 < Int64.toInt p1 ∧ Int64.toInt p1 < Int32.toInt k))) ∧ Fr n0 L ∧ h = h0
set_option maxRecDepth 65536 in
set_option maxHeartbeats 40000000 in
theorem rmT (l : Launch) (Z : State) (a0 : Array Value) (hw : ∀ d ∈ tables_1, d.before a0 Z = true) (ws : List Jvm.Cond) (a1 : Addr) (p1 : Int64) (k : Int32) (h0 : Heap) (n0 : Nat) (Z0 : n0 ≤ h0.size) (Fk : (Fld Z h0 a1 "com/example/mingle/mingle/KmAnonymity" "k" "I" (.int k))) :
    MetFree l (⟨"com/example/mingle/mingle/KmAnonymity", "threatens", "(J)Z"⟩ : MethodName) (head1 (Jvm.Cond.code (⟨"com/example/mingle/mingle/KmAnonymity", "threatens", "(J)Z"⟩ : MethodName) prog_21_method_7_code 3 (some .boolean) :: ws) ({ frames := 0, cells := 0, slots := 0, locals := 0 } : Room)) (fun a U => a = #[(.ref a1), (.long p1)] ∧ Z.Warmed39 U.vm ∧ U.heap = h0) (fun _ _ _ _ _ => True) (fun _ U o U' => ∃ v L, o = .returned v ∧ QT Z a1 p1 k h0 n0 v U'.heap L ∧ FrameEnd U o U' L ({ frames := 0, cells := 0, slots := 0, locals := 0 } : Room).cells ({ frames := 0, cells := 0, slots := 0, locals := 0 } : Room).slots) := by
  refine MetFree.of_bodySF (plainFor_of_name pn_T) hisR ?_
  intro p e s m args below meth c s₁ Bd hml0 hP hK
  obtain ⟨rfl, hZ, hh⟩ := hP
  have hx := Bd.exec
  have hby := Bd.bytes
  have hml : c.maxLocals = 3 := hml0
  have hown : s.vm.findClass "com/example/mingle/mingle/KmAnonymity" = some m.cls := findClass_of_methodNamed Bd.named
  have hnm := (name_of_methodNamed Bd.named Bd.method).1
  have X0 : Stand p l e ({ frames := 0, cells := 0, slots := 0, locals := 0 } : Room) s m #[(.ref a1), (.long p1)] below meth c s₁ [] 0 0 := Stand.of_body Bd
  have e0 : s₁.heap = h0 := by rw [← hh, Bd.state]; rfl
  have N0 := Fr.nil n0
  show own_Go p.tables e below (fun t o => ∃ v L, o = .returned v ∧ QT Z a1 p1 k h0 n0 v t.heap L ∧ FrameEnd s o t L ({ frames := 0, cells := 0, slots := 0, locals := 0 } : Room).cells ({ frames := 0, cells := 0, slots := 0, locals := 0 } : Room).slots) (s₁.setTop (entryFrame m #[(.ref a1), (.long p1)] 3))
  rw [ef_T]
  show own_Go p.tables e below _ (s₁.setTop (mkF m 0 #[.val (.ref a1), .val (.long p1), .second] []))
  have hk64 := Jvm.Kit.i64_of_i32 k
  refine own_st (S' := s₁.setTop (mkF m 1 #[.val (.ref a1), .val (.long p1), .second] [(.long p1)])) (fun _ kont => XT.lloadN X0.here hx rfl (hb hby dT_0) rfl kont) ?_
  refine own_st (S' := s₁.setTop (mkF m 2 #[.val (.ref a1), .val (.long p1), .second] [(.long (0 : Int64)), (.long p1)])) (fun _ kont => XT.lconst X0.here hx rfl (hb hby dT_1) kont) ?_
  refine own_st (S' := s₁.setTop (mkF m 3 #[.val (.ref a1), .val (.long p1), .second] [(.int (XT.cmpL p1 (0 : Int64)))])) (fun _ kont => XT.lcmp X0.here hx rfl (hb hby dT_2) rfl kont) ?_
  by_cases hc3 : Int64.toInt p1 ≤ 0
  · skip
    refine own_st (S' := s₁.setTop (mkF m 20 #[.val (.ref a1), .val (.long p1), .second] [])) (fun _ kont => XS.ifYes X0.here hx rfl (pc0 := 3) (pc' := 20) rfl (hb hby dT_3) rfl ((own_l_le _ _).trans (decide_eq_true (p := Int64.toInt p1 ≤ 0) (hc3))) (by decide) (by decide) kont) ?_
    refine own_st (S' := s₁.setTop (mkF m 21 #[.val (.ref a1), .val (.long p1), .second] [(.int (0 : Int32))])) (fun _ kont => XS.iconst X0.here hx rfl (hb hby dT_20) kont) ?_
    have tq101 : (0 : Int32) = (own_b (0 < Int64.toInt p1 ∧ Int64.toInt p1 < Int32.toInt k)) := (own_b0 (by omega)).symm
    refine own_cv (congrArg (fun z => s₁.setTop (mkF m 21 #[.val (.ref a1), .val (.long p1), .second] [(.int z)])) tq101) ?_
    show own_Go p.tables e below _ (s₁.setTop (mkF m 21 #[.val (.ref a1), .val (.long p1), .second] [(.int (own_b (0 < Int64.toInt p1 ∧ Int64.toInt p1 < Int32.toInt k)))]))
    refine own_end X0 (Q := (QT Z a1 p1 k h0 n0)) (some (.int (own_b (0 < Int64.toInt p1 ∧ Int64.toInt p1 < Int32.toInt k)))) Bd.notSynchronized (fun h => by rw [Bd.returns] at h; cases h) (fun fs hr => retN X0 hx (t := .boolean) Bd.returns (by simp) (hb hby dT_21) (by rw [own_nb]; exact hr)) ?_ (by decide) (by decide)
    rw [e0]
    exact ⟨rfl, N0, rfl⟩
  · skip
    refine own_st (S' := s₁.setTop (mkF m 6 #[.val (.ref a1), .val (.long p1), .second] [])) (fun _ kont => XS.ifNo X0.here hx rfl (hb hby dT_3) rfl ((own_l_le _ _).trans (decide_eq_false (p := Int64.toInt p1 ≤ 0) (hc3))) kont) ?_
    refine own_st (S' := s₁.setTop (mkF m 7 #[.val (.ref a1), .val (.long p1), .second] [(.long p1)])) (fun _ kont => XT.lloadN X0.here hx rfl (hb hby dT_6) rfl kont) ?_
    refine own_st (S' := s₁.setTop (mkF m 8 #[.val (.ref a1), .val (.long p1), .second] [(.ref a1), (.long p1)])) (fun _ kont => XS.aloadN X0.here hx rfl (hb hby dT_7) rfl rfl kont) ?_
    obtain ⟨T102, X102, e102, st102⟩ := getF X0 hx hZ hown (host := "") (Or.inl (hw _ (List.mem_of_getElem? (i := 14) rfl))) Via.refl e0 Fk (g := (mkF m 8 #[.val (.ref a1), .val (.long p1), .second] [(.ref a1), (.long p1)])) rfl rfl (hb hby dT_8)
    refine own_st (S' := T102.setTop (mkF m 11 #[.val (.ref a1), .val (.long p1), .second] [(.int k), (.long p1)])) st102 ?_
    refine own_st (S' := T102.setTop (mkF m 12 #[.val (.ref a1), .val (.long p1), .second] [(.long (Int32.toInt64 k)), (.long p1)])) (fun _ kont => XT.i2l X102.here hx rfl (hb hby dT_11) rfl kont) ?_
    refine own_st (S' := T102.setTop (mkF m 13 #[.val (.ref a1), .val (.long p1), .second] [(.int (XT.cmpL p1 (Int32.toInt64 k)))])) (fun _ kont => XT.lcmp X102.here hx rfl (hb hby dT_12) rfl kont) ?_
    by_cases hc13 : Int64.toInt p1 ≥ Int64.toInt (Int32.toInt64 k)
    · skip
      refine own_st (S' := T102.setTop (mkF m 20 #[.val (.ref a1), .val (.long p1), .second] [])) (fun _ kont => XS.ifYes X102.here hx rfl (pc0 := 13) (pc' := 20) rfl (hb hby dT_13) rfl ((own_l_ge _ _).trans (decide_eq_true (p := Int64.toInt p1 ≥ Int64.toInt (Int32.toInt64 k)) (hc13))) (by decide) (by decide) kont) ?_
      refine own_st (S' := T102.setTop (mkF m 21 #[.val (.ref a1), .val (.long p1), .second] [(.int (0 : Int32))])) (fun _ kont => XS.iconst X102.here hx rfl (hb hby dT_20) kont) ?_
      have tq103 : (0 : Int32) = (own_b (0 < Int64.toInt p1 ∧ Int64.toInt p1 < Int32.toInt k)) := (own_b0 (by omega)).symm
      refine own_cv (congrArg (fun z => T102.setTop (mkF m 21 #[.val (.ref a1), .val (.long p1), .second] [(.int z)])) tq103) ?_
      show own_Go p.tables e below _ (T102.setTop (mkF m 21 #[.val (.ref a1), .val (.long p1), .second] [(.int (own_b (0 < Int64.toInt p1 ∧ Int64.toInt p1 < Int32.toInt k)))]))
      refine own_end X102 (Q := (QT Z a1 p1 k h0 n0)) (some (.int (own_b (0 < Int64.toInt p1 ∧ Int64.toInt p1 < Int32.toInt k)))) Bd.notSynchronized (fun h => by rw [Bd.returns] at h; cases h) (fun fs hr => retN X102 hx (t := .boolean) Bd.returns (by simp) (hb hby dT_21) (by rw [own_nb]; exact hr)) ?_ (by decide) (by decide)
      rw [e102]
      exact ⟨rfl, N0, rfl⟩
    · skip
      refine own_st (S' := T102.setTop (mkF m 16 #[.val (.ref a1), .val (.long p1), .second] [])) (fun _ kont => XS.ifNo X102.here hx rfl (hb hby dT_13) rfl ((own_l_ge _ _).trans (decide_eq_false (p := Int64.toInt p1 ≥ Int64.toInt (Int32.toInt64 k)) (hc13))) kont) ?_
      refine own_st (S' := T102.setTop (mkF m 17 #[.val (.ref a1), .val (.long p1), .second] [(.int (1 : Int32))])) (fun _ kont => XS.iconst X102.here hx rfl (hb hby dT_16) kont) ?_
      refine own_st (S' := T102.setTop (mkF m 21 #[.val (.ref a1), .val (.long p1), .second] [(.int (1 : Int32))])) (fun _ kont => XS.goto X102.here hx rfl (pc0 := 17) (pc' := 21) rfl (hb hby dT_17) (by decide) (by decide) kont) ?_
      have tq104 : (1 : Int32) = (own_b (0 < Int64.toInt p1 ∧ Int64.toInt p1 < Int32.toInt k)) := (own_b1 (by omega)).symm
      refine own_cv (congrArg (fun z => T102.setTop (mkF m 21 #[.val (.ref a1), .val (.long p1), .second] [(.int z)])) tq104) ?_
      show own_Go p.tables e below _ (T102.setTop (mkF m 21 #[.val (.ref a1), .val (.long p1), .second] [(.int (own_b (0 < Int64.toInt p1 ∧ Int64.toInt p1 < Int32.toInt k)))]))
      refine own_end X102 (Q := (QT Z a1 p1 k h0 n0)) (some (.int (own_b (0 < Int64.toInt p1 ∧ Int64.toInt p1 < Int32.toInt k)))) Bd.notSynchronized (fun h => by rw [Bd.returns] at h; cases h) (fun fs hr => retN X102 hx (t := .boolean) Bd.returns (by simp) (hb hby dT_21) (by rw [own_nb]; exact hr)) ?_ (by decide) (by decide)
      rw [e102]
      exact ⟨rfl, N0, rfl⟩
theorem dB_0 : decode jdk_35_method_50_code 0 = .ok (.lload_n 0, 1) := by decide +kernel
theorem dB_1 : decode jdk_35_method_50_code 1 = .ok (.lload_n 0, 1) := by decide +kernel
theorem dB_2 : decode jdk_35_method_50_code 2 = .ok (.iconst 1, 1) := by decide +kernel
theorem dB_3 : decode jdk_35_method_50_code 3 = .ok (.lushr, 1) := by decide +kernel
theorem dB_4 : decode jdk_35_method_50_code 4 = .ok (.ldc2_w 314, 3) := by decide +kernel
theorem dB_7 : decode jdk_35_method_50_code 7 = .ok (.land, 1) := by decide +kernel
theorem dB_8 : decode jdk_35_method_50_code 8 = .ok (.lsub, 1) := by decide +kernel
theorem dB_9 : decode jdk_35_method_50_code 9 = .ok (.lstore_n 0, 1) := by decide +kernel
theorem dB_10 : decode jdk_35_method_50_code 10 = .ok (.lload_n 0, 1) := by decide +kernel
theorem dB_11 : decode jdk_35_method_50_code 11 = .ok (.ldc2_w 316, 3) := by decide +kernel
theorem dB_14 : decode jdk_35_method_50_code 14 = .ok (.land, 1) := by decide +kernel
theorem dB_15 : decode jdk_35_method_50_code 15 = .ok (.lload_n 0, 1) := by decide +kernel
theorem dB_16 : decode jdk_35_method_50_code 16 = .ok (.iconst 2, 1) := by decide +kernel
theorem dB_17 : decode jdk_35_method_50_code 17 = .ok (.lushr, 1) := by decide +kernel
theorem dB_18 : decode jdk_35_method_50_code 18 = .ok (.ldc2_w 316, 3) := by decide +kernel
theorem dB_21 : decode jdk_35_method_50_code 21 = .ok (.land, 1) := by decide +kernel
theorem dB_22 : decode jdk_35_method_50_code 22 = .ok (.ladd, 1) := by decide +kernel
theorem dB_23 : decode jdk_35_method_50_code 23 = .ok (.lstore_n 0, 1) := by decide +kernel
theorem dB_24 : decode jdk_35_method_50_code 24 = .ok (.lload_n 0, 1) := by decide +kernel
theorem dB_25 : decode jdk_35_method_50_code 25 = .ok (.lload_n 0, 1) := by decide +kernel
theorem dB_26 : decode jdk_35_method_50_code 26 = .ok (.iconst 4, 1) := by decide +kernel
theorem dB_27 : decode jdk_35_method_50_code 27 = .ok (.lushr, 1) := by decide +kernel
theorem dB_28 : decode jdk_35_method_50_code 28 = .ok (.ladd, 1) := by decide +kernel
theorem dB_29 : decode jdk_35_method_50_code 29 = .ok (.ldc2_w 318, 3) := by decide +kernel
theorem dB_32 : decode jdk_35_method_50_code 32 = .ok (.land, 1) := by decide +kernel
theorem dB_33 : decode jdk_35_method_50_code 33 = .ok (.lstore_n 0, 1) := by decide +kernel
theorem dB_34 : decode jdk_35_method_50_code 34 = .ok (.lload_n 0, 1) := by decide +kernel
theorem dB_35 : decode jdk_35_method_50_code 35 = .ok (.lload_n 0, 1) := by decide +kernel
theorem dB_36 : decode jdk_35_method_50_code 36 = .ok (.bipush 8, 2) := by decide +kernel
theorem dB_38 : decode jdk_35_method_50_code 38 = .ok (.lushr, 1) := by decide +kernel
theorem dB_39 : decode jdk_35_method_50_code 39 = .ok (.ladd, 1) := by decide +kernel
theorem dB_40 : decode jdk_35_method_50_code 40 = .ok (.lstore_n 0, 1) := by decide +kernel
theorem dB_41 : decode jdk_35_method_50_code 41 = .ok (.lload_n 0, 1) := by decide +kernel
theorem dB_42 : decode jdk_35_method_50_code 42 = .ok (.lload_n 0, 1) := by decide +kernel
theorem dB_43 : decode jdk_35_method_50_code 43 = .ok (.bipush 16, 2) := by decide +kernel
theorem dB_45 : decode jdk_35_method_50_code 45 = .ok (.lushr, 1) := by decide +kernel
theorem dB_46 : decode jdk_35_method_50_code 46 = .ok (.ladd, 1) := by decide +kernel
theorem dB_47 : decode jdk_35_method_50_code 47 = .ok (.lstore_n 0, 1) := by decide +kernel
theorem dB_48 : decode jdk_35_method_50_code 48 = .ok (.lload_n 0, 1) := by decide +kernel
theorem dB_49 : decode jdk_35_method_50_code 49 = .ok (.lload_n 0, 1) := by decide +kernel
theorem dB_50 : decode jdk_35_method_50_code 50 = .ok (.bipush 32, 2) := by decide +kernel
theorem dB_52 : decode jdk_35_method_50_code 52 = .ok (.lushr, 1) := by decide +kernel
theorem dB_53 : decode jdk_35_method_50_code 53 = .ok (.ladd, 1) := by decide +kernel
theorem dB_54 : decode jdk_35_method_50_code 54 = .ok (.lstore_n 0, 1) := by decide +kernel
theorem dB_55 : decode jdk_35_method_50_code 55 = .ok (.lload_n 0, 1) := by decide +kernel
theorem dB_56 : decode jdk_35_method_50_code 56 = .ok (.l2i, 1) := by decide +kernel
theorem dB_57 : decode jdk_35_method_50_code 57 = .ok (.bipush 127, 2) := by decide +kernel
theorem dB_59 : decode jdk_35_method_50_code 59 = .ok (.iand, 1) := by decide +kernel
theorem dB_60 : decode jdk_35_method_50_code 60 = .ok (.ireturn, 1) := by decide +kernel
theorem pn_B : plainName "java/lang/Long" = true := by first | (simp [plainName, overriddenIn]; done) | decide +kernel
theorem pd_B : parseMethodDescriptor "(J)I" = some ⟨[.long], some .int⟩ := by decide +kernel
theorem ef_B (m : MethodId) (p1 : Int64) : entryFrame m #[(.long p1)] 2 = mkF m 0 #[.val (.long p1), .second] [] := by first | (simp [entryFrame, mkF, argsToLocals, Value.category]; done) | rfl
def QB (Z : State) (p1 : Int64) (h0 : Heap) (n0 : Nat) (v : Option Value) (h : Heap) (L : List Loc) : Prop := v = some (.int (own_bc p1)) ∧ Fr n0 L ∧ h = h0
set_option maxRecDepth 65536 in
set_option maxHeartbeats 40000000 in
theorem rmB (l : Launch) (Z : State) (a0 : Array Value) (hw : ∀ d ∈ tables_1, d.before a0 Z = true) (ws : List Jvm.Cond) (p1 : Int64) (h0 : Heap) (n0 : Nat) (Z0 : n0 ≤ h0.size) :
    MetFree l (⟨"java/lang/Long", "bitCount", "(J)I"⟩ : MethodName) (head1 (Jvm.Cond.code (⟨"java/lang/Long", "bitCount", "(J)I"⟩ : MethodName) jdk_35_method_50_code 2 (some .int) :: ws) ({ frames := 0, cells := 0, slots := 0, locals := 0 } : Room)) (fun a U => a = #[(.long p1)] ∧ Z.Warmed39 U.vm ∧ U.heap = h0) (fun _ _ _ _ _ => True) (fun _ U o U' => ∃ v L, o = .returned v ∧ QB Z p1 h0 n0 v U'.heap L ∧ FrameEnd U o U' L ({ frames := 0, cells := 0, slots := 0, locals := 0 } : Room).cells ({ frames := 0, cells := 0, slots := 0, locals := 0 } : Room).slots) := by
  refine MetFree.of_bodySF (plainFor_of_name pn_B) hisR ?_
  intro p e s m args below meth c s₁ Bd hml0 hP hK
  obtain ⟨rfl, hZ, hh⟩ := hP
  have hx := Bd.exec
  have hby := Bd.bytes
  have hml : c.maxLocals = 2 := hml0
  have hown : s.vm.findClass "java/lang/Long" = some m.cls := findClass_of_methodNamed Bd.named
  have hnm := (name_of_methodNamed Bd.named Bd.method).1
  have X0 : Stand p l e ({ frames := 0, cells := 0, slots := 0, locals := 0 } : Room) s m #[(.long p1)] below meth c s₁ [] 0 0 := Stand.of_body Bd
  have e0 : s₁.heap = h0 := by rw [← hh, Bd.state]; rfl
  have N0 := Fr.nil n0
  show own_Go p.tables e below (fun t o => ∃ v L, o = .returned v ∧ QB Z p1 h0 n0 v t.heap L ∧ FrameEnd s o t L ({ frames := 0, cells := 0, slots := 0, locals := 0 } : Room).cells ({ frames := 0, cells := 0, slots := 0, locals := 0 } : Room).slots) (s₁.setTop (entryFrame m #[(.long p1)] 2))
  rw [ef_B]
  show own_Go p.tables e below _ (s₁.setTop (mkF m 0 #[.val (.long p1), .second] []))
  refine own_st (S' := s₁.setTop (mkF m 1 #[.val (.long p1), .second] [(.long p1)])) (fun _ kont => XT.lloadN X0.here hx rfl (hb hby dB_0) rfl kont) ?_
  refine own_st (S' := s₁.setTop (mkF m 2 #[.val (.long p1), .second] [(.long p1), (.long p1)])) (fun _ kont => XT.lloadN X0.here hx rfl (hb hby dB_1) rfl kont) ?_
  refine own_st (S' := s₁.setTop (mkF m 3 #[.val (.long p1), .second] [(.int (1 : Int32)), (.long p1), (.long p1)])) (fun _ kont => XS.iconst X0.here hx rfl (hb hby dB_2) kont) ?_
  refine own_st (S' := s₁.setTop (mkF m 4 #[.val (.long p1), .second] [(.long (XT.ushrL p1 (1 : Int32))), (.long p1)])) (fun _ kont => XT.lushr X0.here hx rfl (hb hby dB_3) rfl kont) ?_
  refine own_st (S' := s₁.setTop (mkF m 7 #[.val (.long p1), .second] [(.long (6148914691236517205 : Int64)), (.long (XT.ushrL p1 (1 : Int32))), (.long p1)])) (fun _ kont => X0.ldc2J hx hown (mvT hZ (hw _ (List.mem_of_getElem? (i := 33) rfl))) rfl (hb hby dB_4) kont) ?_
  refine own_st (S' := s₁.setTop (mkF m 8 #[.val (.long p1), .second] [(.long ((XT.ushrL p1 (1 : Int32)) &&& (6148914691236517205 : Int64))), (.long p1)])) (fun _ kont => XT.land X0.here hx rfl (hb hby dB_7) rfl kont) ?_
  refine own_st (S' := s₁.setTop (mkF m 9 #[.val (.long p1), .second] [(.long (p1 - ((XT.ushrL p1 (1 : Int32)) &&& (6148914691236517205 : Int64))))])) (fun _ kont => XT.lsub X0.here hx rfl (hb hby dB_8) rfl kont) ?_
  have tq101 : (p1 - ((XT.ushrL p1 (1 : Int32)) &&& (6148914691236517205 : Int64))) = (own_c1 p1) := rfl
  refine own_cv (congrArg (fun z => s₁.setTop (mkF m 9 #[.val (.long p1), .second] [(.long z)])) tq101) ?_
  show own_Go p.tables e below _ (s₁.setTop (mkF m 9 #[.val (.long p1), .second] [(.long (own_c1 p1))]))
  refine own_st (S' := s₁.setTop (mkF m 10 #[.val (.long (own_c1 p1)), .second] [])) (fun _ kont => XT.lstoreN X0.here hx rfl (hb hby dB_9) rfl (l' := #[.val (.long (own_c1 p1)), .second]) rfl kont) ?_
  refine own_st (S' := s₁.setTop (mkF m 11 #[.val (.long (own_c1 p1)), .second] [(.long (own_c1 p1))])) (fun _ kont => XT.lloadN X0.here hx rfl (hb hby dB_10) rfl kont) ?_
  refine own_st (S' := s₁.setTop (mkF m 14 #[.val (.long (own_c1 p1)), .second] [(.long (3689348814741910323 : Int64)), (.long (own_c1 p1))])) (fun _ kont => X0.ldc2J hx hown (mvT hZ (hw _ (List.mem_of_getElem? (i := 34) rfl))) rfl (hb hby dB_11) kont) ?_
  refine own_st (S' := s₁.setTop (mkF m 15 #[.val (.long (own_c1 p1)), .second] [(.long ((own_c1 p1) &&& (3689348814741910323 : Int64)))])) (fun _ kont => XT.land X0.here hx rfl (hb hby dB_14) rfl kont) ?_
  refine own_st (S' := s₁.setTop (mkF m 16 #[.val (.long (own_c1 p1)), .second] [(.long (own_c1 p1)), (.long ((own_c1 p1) &&& (3689348814741910323 : Int64)))])) (fun _ kont => XT.lloadN X0.here hx rfl (hb hby dB_15) rfl kont) ?_
  refine own_st (S' := s₁.setTop (mkF m 17 #[.val (.long (own_c1 p1)), .second] [(.int (2 : Int32)), (.long (own_c1 p1)), (.long ((own_c1 p1) &&& (3689348814741910323 : Int64)))])) (fun _ kont => XS.iconst X0.here hx rfl (hb hby dB_16) kont) ?_
  refine own_st (S' := s₁.setTop (mkF m 18 #[.val (.long (own_c1 p1)), .second] [(.long (XT.ushrL (own_c1 p1) (2 : Int32))), (.long ((own_c1 p1) &&& (3689348814741910323 : Int64)))])) (fun _ kont => XT.lushr X0.here hx rfl (hb hby dB_17) rfl kont) ?_
  refine own_st (S' := s₁.setTop (mkF m 21 #[.val (.long (own_c1 p1)), .second] [(.long (3689348814741910323 : Int64)), (.long (XT.ushrL (own_c1 p1) (2 : Int32))), (.long ((own_c1 p1) &&& (3689348814741910323 : Int64)))])) (fun _ kont => X0.ldc2J hx hown (mvT hZ (hw _ (List.mem_of_getElem? (i := 34) rfl))) rfl (hb hby dB_18) kont) ?_
  refine own_st (S' := s₁.setTop (mkF m 22 #[.val (.long (own_c1 p1)), .second] [(.long ((XT.ushrL (own_c1 p1) (2 : Int32)) &&& (3689348814741910323 : Int64))), (.long ((own_c1 p1) &&& (3689348814741910323 : Int64)))])) (fun _ kont => XT.land X0.here hx rfl (hb hby dB_21) rfl kont) ?_
  refine own_st (S' := s₁.setTop (mkF m 23 #[.val (.long (own_c1 p1)), .second] [(.long (((own_c1 p1) &&& (3689348814741910323 : Int64)) + ((XT.ushrL (own_c1 p1) (2 : Int32)) &&& (3689348814741910323 : Int64))))])) (fun _ kont => XT.ladd X0.here hx rfl (hb hby dB_22) rfl kont) ?_
  have tq102 : (((own_c1 p1) &&& (3689348814741910323 : Int64)) + ((XT.ushrL (own_c1 p1) (2 : Int32)) &&& (3689348814741910323 : Int64))) = (own_c2 (own_c1 p1)) := rfl
  refine own_cv (congrArg (fun z => s₁.setTop (mkF m 23 #[.val (.long (own_c1 p1)), .second] [(.long z)])) tq102) ?_
  show own_Go p.tables e below _ (s₁.setTop (mkF m 23 #[.val (.long (own_c1 p1)), .second] [(.long (own_c2 (own_c1 p1)))]))
  refine own_st (S' := s₁.setTop (mkF m 24 #[.val (.long (own_c2 (own_c1 p1))), .second] [])) (fun _ kont => XT.lstoreN X0.here hx rfl (hb hby dB_23) rfl (l' := #[.val (.long (own_c2 (own_c1 p1))), .second]) rfl kont) ?_
  refine own_st (S' := s₁.setTop (mkF m 25 #[.val (.long (own_c2 (own_c1 p1))), .second] [(.long (own_c2 (own_c1 p1)))])) (fun _ kont => XT.lloadN X0.here hx rfl (hb hby dB_24) rfl kont) ?_
  refine own_st (S' := s₁.setTop (mkF m 26 #[.val (.long (own_c2 (own_c1 p1))), .second] [(.long (own_c2 (own_c1 p1))), (.long (own_c2 (own_c1 p1)))])) (fun _ kont => XT.lloadN X0.here hx rfl (hb hby dB_25) rfl kont) ?_
  refine own_st (S' := s₁.setTop (mkF m 27 #[.val (.long (own_c2 (own_c1 p1))), .second] [(.int (4 : Int32)), (.long (own_c2 (own_c1 p1))), (.long (own_c2 (own_c1 p1)))])) (fun _ kont => XS.iconst X0.here hx rfl (hb hby dB_26) kont) ?_
  refine own_st (S' := s₁.setTop (mkF m 28 #[.val (.long (own_c2 (own_c1 p1))), .second] [(.long (XT.ushrL (own_c2 (own_c1 p1)) (4 : Int32))), (.long (own_c2 (own_c1 p1)))])) (fun _ kont => XT.lushr X0.here hx rfl (hb hby dB_27) rfl kont) ?_
  refine own_st (S' := s₁.setTop (mkF m 29 #[.val (.long (own_c2 (own_c1 p1))), .second] [(.long ((own_c2 (own_c1 p1)) + (XT.ushrL (own_c2 (own_c1 p1)) (4 : Int32))))])) (fun _ kont => XT.ladd X0.here hx rfl (hb hby dB_28) rfl kont) ?_
  refine own_st (S' := s₁.setTop (mkF m 32 #[.val (.long (own_c2 (own_c1 p1))), .second] [(.long (1085102592571150095 : Int64)), (.long ((own_c2 (own_c1 p1)) + (XT.ushrL (own_c2 (own_c1 p1)) (4 : Int32))))])) (fun _ kont => X0.ldc2J hx hown (mvT hZ (hw _ (List.mem_of_getElem? (i := 35) rfl))) rfl (hb hby dB_29) kont) ?_
  refine own_st (S' := s₁.setTop (mkF m 33 #[.val (.long (own_c2 (own_c1 p1))), .second] [(.long (((own_c2 (own_c1 p1)) + (XT.ushrL (own_c2 (own_c1 p1)) (4 : Int32))) &&& (1085102592571150095 : Int64)))])) (fun _ kont => XT.land X0.here hx rfl (hb hby dB_32) rfl kont) ?_
  have tq103 : (((own_c2 (own_c1 p1)) + (XT.ushrL (own_c2 (own_c1 p1)) (4 : Int32))) &&& (1085102592571150095 : Int64)) = (own_c3 (own_c2 (own_c1 p1))) := rfl
  refine own_cv (congrArg (fun z => s₁.setTop (mkF m 33 #[.val (.long (own_c2 (own_c1 p1))), .second] [(.long z)])) tq103) ?_
  show own_Go p.tables e below _ (s₁.setTop (mkF m 33 #[.val (.long (own_c2 (own_c1 p1))), .second] [(.long (own_c3 (own_c2 (own_c1 p1))))]))
  refine own_st (S' := s₁.setTop (mkF m 34 #[.val (.long (own_c3 (own_c2 (own_c1 p1)))), .second] [])) (fun _ kont => XT.lstoreN X0.here hx rfl (hb hby dB_33) rfl (l' := #[.val (.long (own_c3 (own_c2 (own_c1 p1)))), .second]) rfl kont) ?_
  refine own_st (S' := s₁.setTop (mkF m 35 #[.val (.long (own_c3 (own_c2 (own_c1 p1)))), .second] [(.long (own_c3 (own_c2 (own_c1 p1))))])) (fun _ kont => XT.lloadN X0.here hx rfl (hb hby dB_34) rfl kont) ?_
  refine own_st (S' := s₁.setTop (mkF m 36 #[.val (.long (own_c3 (own_c2 (own_c1 p1)))), .second] [(.long (own_c3 (own_c2 (own_c1 p1)))), (.long (own_c3 (own_c2 (own_c1 p1))))])) (fun _ kont => XT.lloadN X0.here hx rfl (hb hby dB_35) rfl kont) ?_
  refine own_st (S' := s₁.setTop (mkF m 38 #[.val (.long (own_c3 (own_c2 (own_c1 p1)))), .second] [(.int (8 : Int32)), (.long (own_c3 (own_c2 (own_c1 p1)))), (.long (own_c3 (own_c2 (own_c1 p1))))])) (fun _ kont => XS.bipush X0.here hx rfl (hb hby dB_36) kont) ?_
  refine own_st (S' := s₁.setTop (mkF m 39 #[.val (.long (own_c3 (own_c2 (own_c1 p1)))), .second] [(.long (XT.ushrL (own_c3 (own_c2 (own_c1 p1))) (8 : Int32))), (.long (own_c3 (own_c2 (own_c1 p1))))])) (fun _ kont => XT.lushr X0.here hx rfl (hb hby dB_38) rfl kont) ?_
  refine own_st (S' := s₁.setTop (mkF m 40 #[.val (.long (own_c3 (own_c2 (own_c1 p1)))), .second] [(.long ((own_c3 (own_c2 (own_c1 p1))) + (XT.ushrL (own_c3 (own_c2 (own_c1 p1))) (8 : Int32))))])) (fun _ kont => XT.ladd X0.here hx rfl (hb hby dB_39) rfl kont) ?_
  have tq104 : ((own_c3 (own_c2 (own_c1 p1))) + (XT.ushrL (own_c3 (own_c2 (own_c1 p1))) (8 : Int32))) = (own_c4 (own_c3 (own_c2 (own_c1 p1)))) := rfl
  refine own_cv (congrArg (fun z => s₁.setTop (mkF m 40 #[.val (.long (own_c3 (own_c2 (own_c1 p1)))), .second] [(.long z)])) tq104) ?_
  show own_Go p.tables e below _ (s₁.setTop (mkF m 40 #[.val (.long (own_c3 (own_c2 (own_c1 p1)))), .second] [(.long (own_c4 (own_c3 (own_c2 (own_c1 p1)))))]))
  refine own_st (S' := s₁.setTop (mkF m 41 #[.val (.long (own_c4 (own_c3 (own_c2 (own_c1 p1))))), .second] [])) (fun _ kont => XT.lstoreN X0.here hx rfl (hb hby dB_40) rfl (l' := #[.val (.long (own_c4 (own_c3 (own_c2 (own_c1 p1))))), .second]) rfl kont) ?_
  refine own_st (S' := s₁.setTop (mkF m 42 #[.val (.long (own_c4 (own_c3 (own_c2 (own_c1 p1))))), .second] [(.long (own_c4 (own_c3 (own_c2 (own_c1 p1)))))])) (fun _ kont => XT.lloadN X0.here hx rfl (hb hby dB_41) rfl kont) ?_
  refine own_st (S' := s₁.setTop (mkF m 43 #[.val (.long (own_c4 (own_c3 (own_c2 (own_c1 p1))))), .second] [(.long (own_c4 (own_c3 (own_c2 (own_c1 p1))))), (.long (own_c4 (own_c3 (own_c2 (own_c1 p1)))))])) (fun _ kont => XT.lloadN X0.here hx rfl (hb hby dB_42) rfl kont) ?_
  refine own_st (S' := s₁.setTop (mkF m 45 #[.val (.long (own_c4 (own_c3 (own_c2 (own_c1 p1))))), .second] [(.int (16 : Int32)), (.long (own_c4 (own_c3 (own_c2 (own_c1 p1))))), (.long (own_c4 (own_c3 (own_c2 (own_c1 p1)))))])) (fun _ kont => XS.bipush X0.here hx rfl (hb hby dB_43) kont) ?_
  refine own_st (S' := s₁.setTop (mkF m 46 #[.val (.long (own_c4 (own_c3 (own_c2 (own_c1 p1))))), .second] [(.long (XT.ushrL (own_c4 (own_c3 (own_c2 (own_c1 p1)))) (16 : Int32))), (.long (own_c4 (own_c3 (own_c2 (own_c1 p1)))))])) (fun _ kont => XT.lushr X0.here hx rfl (hb hby dB_45) rfl kont) ?_
  refine own_st (S' := s₁.setTop (mkF m 47 #[.val (.long (own_c4 (own_c3 (own_c2 (own_c1 p1))))), .second] [(.long ((own_c4 (own_c3 (own_c2 (own_c1 p1)))) + (XT.ushrL (own_c4 (own_c3 (own_c2 (own_c1 p1)))) (16 : Int32))))])) (fun _ kont => XT.ladd X0.here hx rfl (hb hby dB_46) rfl kont) ?_
  have tq105 : ((own_c4 (own_c3 (own_c2 (own_c1 p1)))) + (XT.ushrL (own_c4 (own_c3 (own_c2 (own_c1 p1)))) (16 : Int32))) = (own_c5 (own_c4 (own_c3 (own_c2 (own_c1 p1))))) := rfl
  refine own_cv (congrArg (fun z => s₁.setTop (mkF m 47 #[.val (.long (own_c4 (own_c3 (own_c2 (own_c1 p1))))), .second] [(.long z)])) tq105) ?_
  show own_Go p.tables e below _ (s₁.setTop (mkF m 47 #[.val (.long (own_c4 (own_c3 (own_c2 (own_c1 p1))))), .second] [(.long (own_c5 (own_c4 (own_c3 (own_c2 (own_c1 p1))))))]))
  refine own_st (S' := s₁.setTop (mkF m 48 #[.val (.long (own_c5 (own_c4 (own_c3 (own_c2 (own_c1 p1)))))), .second] [])) (fun _ kont => XT.lstoreN X0.here hx rfl (hb hby dB_47) rfl (l' := #[.val (.long (own_c5 (own_c4 (own_c3 (own_c2 (own_c1 p1)))))), .second]) rfl kont) ?_
  refine own_st (S' := s₁.setTop (mkF m 49 #[.val (.long (own_c5 (own_c4 (own_c3 (own_c2 (own_c1 p1)))))), .second] [(.long (own_c5 (own_c4 (own_c3 (own_c2 (own_c1 p1))))))])) (fun _ kont => XT.lloadN X0.here hx rfl (hb hby dB_48) rfl kont) ?_
  refine own_st (S' := s₁.setTop (mkF m 50 #[.val (.long (own_c5 (own_c4 (own_c3 (own_c2 (own_c1 p1)))))), .second] [(.long (own_c5 (own_c4 (own_c3 (own_c2 (own_c1 p1)))))), (.long (own_c5 (own_c4 (own_c3 (own_c2 (own_c1 p1))))))])) (fun _ kont => XT.lloadN X0.here hx rfl (hb hby dB_49) rfl kont) ?_
  refine own_st (S' := s₁.setTop (mkF m 52 #[.val (.long (own_c5 (own_c4 (own_c3 (own_c2 (own_c1 p1)))))), .second] [(.int (32 : Int32)), (.long (own_c5 (own_c4 (own_c3 (own_c2 (own_c1 p1)))))), (.long (own_c5 (own_c4 (own_c3 (own_c2 (own_c1 p1))))))])) (fun _ kont => XS.bipush X0.here hx rfl (hb hby dB_50) kont) ?_
  refine own_st (S' := s₁.setTop (mkF m 53 #[.val (.long (own_c5 (own_c4 (own_c3 (own_c2 (own_c1 p1)))))), .second] [(.long (XT.ushrL (own_c5 (own_c4 (own_c3 (own_c2 (own_c1 p1))))) (32 : Int32))), (.long (own_c5 (own_c4 (own_c3 (own_c2 (own_c1 p1))))))])) (fun _ kont => XT.lushr X0.here hx rfl (hb hby dB_52) rfl kont) ?_
  refine own_st (S' := s₁.setTop (mkF m 54 #[.val (.long (own_c5 (own_c4 (own_c3 (own_c2 (own_c1 p1)))))), .second] [(.long ((own_c5 (own_c4 (own_c3 (own_c2 (own_c1 p1))))) + (XT.ushrL (own_c5 (own_c4 (own_c3 (own_c2 (own_c1 p1))))) (32 : Int32))))])) (fun _ kont => XT.ladd X0.here hx rfl (hb hby dB_53) rfl kont) ?_
  have tq106 : ((own_c5 (own_c4 (own_c3 (own_c2 (own_c1 p1))))) + (XT.ushrL (own_c5 (own_c4 (own_c3 (own_c2 (own_c1 p1))))) (32 : Int32))) = (own_c6 (own_c5 (own_c4 (own_c3 (own_c2 (own_c1 p1)))))) := rfl
  refine own_cv (congrArg (fun z => s₁.setTop (mkF m 54 #[.val (.long (own_c5 (own_c4 (own_c3 (own_c2 (own_c1 p1)))))), .second] [(.long z)])) tq106) ?_
  show own_Go p.tables e below _ (s₁.setTop (mkF m 54 #[.val (.long (own_c5 (own_c4 (own_c3 (own_c2 (own_c1 p1)))))), .second] [(.long (own_c6 (own_c5 (own_c4 (own_c3 (own_c2 (own_c1 p1)))))))]))
  refine own_st (S' := s₁.setTop (mkF m 55 #[.val (.long (own_c6 (own_c5 (own_c4 (own_c3 (own_c2 (own_c1 p1))))))), .second] [])) (fun _ kont => XT.lstoreN X0.here hx rfl (hb hby dB_54) rfl (l' := #[.val (.long (own_c6 (own_c5 (own_c4 (own_c3 (own_c2 (own_c1 p1))))))), .second]) rfl kont) ?_
  refine own_st (S' := s₁.setTop (mkF m 56 #[.val (.long (own_c6 (own_c5 (own_c4 (own_c3 (own_c2 (own_c1 p1))))))), .second] [(.long (own_c6 (own_c5 (own_c4 (own_c3 (own_c2 (own_c1 p1)))))))])) (fun _ kont => XT.lloadN X0.here hx rfl (hb hby dB_55) rfl kont) ?_
  refine own_st (S' := s₁.setTop (mkF m 57 #[.val (.long (own_c6 (own_c5 (own_c4 (own_c3 (own_c2 (own_c1 p1))))))), .second] [(.int (Int64.toInt32 (own_c6 (own_c5 (own_c4 (own_c3 (own_c2 (own_c1 p1))))))))])) (fun _ kont => XT.l2i X0.here hx rfl (hb hby dB_56) rfl kont) ?_
  refine own_st (S' := s₁.setTop (mkF m 59 #[.val (.long (own_c6 (own_c5 (own_c4 (own_c3 (own_c2 (own_c1 p1))))))), .second] [(.int (127 : Int32)), (.int (Int64.toInt32 (own_c6 (own_c5 (own_c4 (own_c3 (own_c2 (own_c1 p1))))))))])) (fun _ kont => XS.bipush X0.here hx rfl (hb hby dB_57) kont) ?_
  refine own_st (S' := s₁.setTop (mkF m 60 #[.val (.long (own_c6 (own_c5 (own_c4 (own_c3 (own_c2 (own_c1 p1))))))), .second] [(.int ((Int64.toInt32 (own_c6 (own_c5 (own_c4 (own_c3 (own_c2 (own_c1 p1))))))) &&& (127 : Int32)))])) (fun _ kont => XS.iand X0.here hx rfl (hb hby dB_59) rfl kont) ?_
  have tq107 : ((Int64.toInt32 (own_c6 (own_c5 (own_c4 (own_c3 (own_c2 (own_c1 p1))))))) &&& (127 : Int32)) = (own_bc p1) := rfl
  refine own_cv (congrArg (fun z => s₁.setTop (mkF m 60 #[.val (.long (own_c6 (own_c5 (own_c4 (own_c3 (own_c2 (own_c1 p1))))))), .second] [(.int z)])) tq107) ?_
  show own_Go p.tables e below _ (s₁.setTop (mkF m 60 #[.val (.long (own_c6 (own_c5 (own_c4 (own_c3 (own_c2 (own_c1 p1))))))), .second] [(.int (own_bc p1))]))
  refine own_end X0 (Q := (QB Z p1 h0 n0)) (some (.int (own_bc p1))) Bd.notSynchronized (fun h => by rw [Bd.returns] at h; cases h) (fun fs hr => retI X0 hx Bd.returns (hb hby dB_60) hr) ?_ (by decide) (by decide)
  rw [e0]
  exact ⟨rfl, N0, rfl⟩
theorem dE_0 : decode prog_21_method_8_code 0 = .ok (.lconst 0, 1) := by decide +kernel
theorem dE_1 : decode prog_21_method_8_code 1 = .ok (.lstore_n 2, 1) := by decide +kernel
theorem dE_2 : decode prog_21_method_8_code 2 = .ok (.aload_n 1, 1) := by decide +kernel
theorem dE_3 : decode prog_21_method_8_code 3 = .ok (.astore 4, 2) := by decide +kernel
theorem dE_5 : decode prog_21_method_8_code 5 = .ok (.aload 4, 2) := by decide +kernel
theorem dE_7 : decode prog_21_method_8_code 7 = .ok (.arraylength, 1) := by decide +kernel
theorem dE_8 : decode prog_21_method_8_code 8 = .ok (.istore 5, 2) := by decide +kernel
theorem dE_10 : decode prog_21_method_8_code 10 = .ok (.iconst 0, 1) := by decide +kernel
theorem dE_11 : decode prog_21_method_8_code 11 = .ok (.istore 6, 2) := by decide +kernel
theorem dE_13 : decode prog_21_method_8_code 13 = .ok (.iload 6, 2) := by decide +kernel
theorem dE_15 : decode prog_21_method_8_code 15 = .ok (.iload 5, 2) := by decide +kernel
theorem dE_17 : decode prog_21_method_8_code 17 = .ok (.if_icmp .ge 25, 3) := by decide +kernel
theorem dE_20 : decode prog_21_method_8_code 20 = .ok (.aload 4, 2) := by decide +kernel
theorem dE_22 : decode prog_21_method_8_code 22 = .ok (.iload 6, 2) := by decide +kernel
theorem dE_24 : decode prog_21_method_8_code 24 = .ok (.laload, 1) := by decide +kernel
theorem dE_25 : decode prog_21_method_8_code 25 = .ok (.lstore 7, 2) := by decide +kernel
theorem dE_27 : decode prog_21_method_8_code 27 = .ok (.lload_n 2, 1) := by decide +kernel
theorem dE_28 : decode prog_21_method_8_code 28 = .ok (.lload 7, 2) := by decide +kernel
theorem dE_30 : decode prog_21_method_8_code 30 = .ok (.invokestatic 45, 3) := by decide +kernel
theorem dE_33 : decode prog_21_method_8_code 33 = .ok (.i2l, 1) := by decide +kernel
theorem dE_34 : decode prog_21_method_8_code 34 = .ok (.ladd, 1) := by decide +kernel
theorem dE_35 : decode prog_21_method_8_code 35 = .ok (.lstore_n 2, 1) := by decide +kernel
theorem dE_36 : decode prog_21_method_8_code 36 = .ok (.iinc 6 1, 3) := by decide +kernel
theorem dE_39 : decode prog_21_method_8_code 39 = .ok (.goto (-26), 3) := by decide +kernel
theorem dE_42 : decode prog_21_method_8_code 42 = .ok (.lload_n 2, 1) := by decide +kernel
theorem dE_43 : decode prog_21_method_8_code 43 = .ok (.aload_n 0, 1) := by decide +kernel
theorem dE_44 : decode prog_21_method_8_code 44 = .ok (.getfield 16, 3) := by decide +kernel
theorem dE_47 : decode prog_21_method_8_code 47 = .ok (.i2l, 1) := by decide +kernel
theorem dE_48 : decode prog_21_method_8_code 48 = .ok (.lcmp, 1) := by decide +kernel
theorem dE_49 : decode prog_21_method_8_code 49 = .ok (.ifCond .lt 7, 3) := by decide +kernel
theorem dE_52 : decode prog_21_method_8_code 52 = .ok (.iconst 1, 1) := by decide +kernel
theorem dE_53 : decode prog_21_method_8_code 53 = .ok (.goto 4, 3) := by decide +kernel
theorem dE_56 : decode prog_21_method_8_code 56 = .ok (.iconst 0, 1) := by decide +kernel
theorem dE_57 : decode prog_21_method_8_code 57 = .ok (.ireturn, 1) := by decide +kernel
theorem pn_E : plainName "com/example/mingle/mingle/KmAnonymity" = true := by first | (simp [plainName, overriddenIn]; done) | decide +kernel
theorem pd_E : parseMethodDescriptor "([J)Z" = some ⟨[.array .long], some .boolean⟩ := by decide +kernel
theorem ef_E (m : MethodId) (a1 : Addr) (b1 : Addr) : entryFrame m #[(.ref a1), (.ref b1)] 9 = mkF m 0 #[.val (.ref a1), .val (.ref b1), .unset, .unset, .unset, .unset, .unset, .unset, .unset] [] := by first | (simp [entryFrame, mkF, argsToLocals, Value.category]; done) | rfl
def QE (Z : State) (a1 : Addr) (b1 : Addr) (k : Int32) (w0 : Int64) (w1 : Int64) (h0 : Heap) (n0 : Nat) (v : Option Value) (h : Heap) (L : List Loc) : Prop := v = some (.int (own_b (Int32.toInt k ≤ Int64.toInt (own_sum w0 w1)))) ∧ Fr n0 L ∧ h = h0
set_option maxRecDepth 65536 in
set_option maxHeartbeats 40000000 in
theorem rmE (l : Launch) (Z : State) (a0 : Array Value) (hw : ∀ d ∈ tables_1, d.before a0 Z = true) (ws : List Jvm.Cond) (a1 : Addr) (b1 : Addr) (k : Int32) (w0 : Int64) (w1 : Int64) (h0 : Heap) (n0 : Nat) (Z0 : n0 ≤ h0.size) (Fk : (Fld Z h0 a1 "com/example/mingle/mingle/KmAnonymity" "k" "I" (.int k))) (V : own_L Z h0 b1 w0 w1) :
    MetFree l (⟨"com/example/mingle/mingle/KmAnonymity", "meets", "([J)Z"⟩ : MethodName) (head1 (Jvm.Cond.code (⟨"com/example/mingle/mingle/KmAnonymity", "meets", "([J)Z"⟩ : MethodName) prog_21_method_8_code 9 (some .boolean) :: ws) ({ frames := 1, cells := 0, slots := 0, locals := 15 } : Room)) (fun a U => a = #[(.ref a1), (.ref b1)] ∧ Z.Warmed39 U.vm ∧ U.heap = h0) (fun _ _ _ _ _ => True) (fun _ U o U' => ∃ v L, o = .returned v ∧ QE Z a1 b1 k w0 w1 h0 n0 v U'.heap L ∧ FrameEnd U o U' L ({ frames := 1, cells := 0, slots := 0, locals := 15 } : Room).cells ({ frames := 1, cells := 0, slots := 0, locals := 15 } : Room).slots) := by
  refine MetFree.of_bodySF (plainFor_of_name pn_E) hisR ?_
  intro p e s m args below meth c s₁ Bd hml0 hP hK
  obtain ⟨rfl, hZ, hh⟩ := hP
  have hx := Bd.exec
  have hby := Bd.bytes
  have hml : c.maxLocals = 9 := hml0
  have hown : s.vm.findClass "com/example/mingle/mingle/KmAnonymity" = some m.cls := findClass_of_methodNamed Bd.named
  have hnm := (name_of_methodNamed Bd.named Bd.method).1
  have X0 : Stand p l e ({ frames := 1, cells := 0, slots := 0, locals := 15 } : Room) s m #[(.ref a1), (.ref b1)] below meth c s₁ [] 0 0 := Stand.of_body Bd
  have e0 : s₁.heap = h0 := by rw [← hh, Bd.state]; rfl
  have N0 := Fr.nil n0
  show own_Go p.tables e below (fun t o => ∃ v L, o = .returned v ∧ QE Z a1 b1 k w0 w1 h0 n0 v t.heap L ∧ FrameEnd s o t L ({ frames := 1, cells := 0, slots := 0, locals := 15 } : Room).cells ({ frames := 1, cells := 0, slots := 0, locals := 15 } : Room).slots) (s₁.setTop (entryFrame m #[(.ref a1), (.ref b1)] 9))
  rw [ef_E]
  show own_Go p.tables e below _ (s₁.setTop (mkF m 0 #[.val (.ref a1), .val (.ref b1), .unset, .unset, .unset, .unset, .unset, .unset, .unset] []))
  obtain ⟨cl, Ar, S, H0, H1⟩ := V
  have hk64 := Jvm.Kit.i64_of_i32 k
  refine own_st (S' := s₁.setTop (mkF m 1 #[.val (.ref a1), .val (.ref b1), .unset, .unset, .unset, .unset, .unset, .unset, .unset] [(.long (0 : Int64))])) (fun _ kont => XT.lconst X0.here hx rfl (hb hby dE_0) kont) ?_
  refine own_st (S' := s₁.setTop (mkF m 2 #[.val (.ref a1), .val (.ref b1), .val (.long (0 : Int64)), .second, .unset, .unset, .unset, .unset, .unset] [])) (fun _ kont => XT.lstoreN X0.here hx rfl (hb hby dE_1) rfl (l' := #[.val (.ref a1), .val (.ref b1), .val (.long (0 : Int64)), .second, .unset, .unset, .unset, .unset, .unset]) rfl kont) ?_
  refine own_st (S' := s₁.setTop (mkF m 3 #[.val (.ref a1), .val (.ref b1), .val (.long (0 : Int64)), .second, .unset, .unset, .unset, .unset, .unset] [(.ref b1)])) (fun _ kont => XS.aloadN X0.here hx rfl (hb hby dE_2) rfl rfl kont) ?_
  refine own_st (S' := s₁.setTop (mkF m 5 #[.val (.ref a1), .val (.ref b1), .val (.long (0 : Int64)), .second, .val (.ref b1), .unset, .unset, .unset, .unset] [])) (fun _ kont => XS.astore X0.here hx rfl (hb hby dE_3) rfl rfl (l' := #[.val (.ref a1), .val (.ref b1), .val (.long (0 : Int64)), .second, .val (.ref b1), .unset, .unset, .unset, .unset]) rfl kont) ?_
  refine own_st (S' := s₁.setTop (mkF m 7 #[.val (.ref a1), .val (.ref b1), .val (.long (0 : Int64)), .second, .val (.ref b1), .unset, .unset, .unset, .unset] [(.ref b1)])) (fun _ kont => XS.aload X0.here hx rfl (hb hby dE_5) rfl rfl kont) ?_
  refine own_st (S' := s₁.setTop (mkF m 8 #[.val (.ref a1), .val (.ref b1), .val (.long (0 : Int64)), .second, .val (.ref b1), .unset, .unset, .unset, .unset] [(.int (cl.slots.size.toInt32))])) (X0.arraylength hx (cell := cl) (by rw [e0]; exact Ar.1) (State.isArrayOf_alike hZ.alike Ar.2.1) (g := (mkF m 7 #[.val (.ref a1), .val (.ref b1), .val (.long (0 : Int64)), .second, .val (.ref b1), .unset, .unset, .unset, .unset] [(.ref b1)])) rfl rfl (hb hby dE_7)) ?_
  have tq101 : (cl.slots.size.toInt32) = (2 : Int32) := by rw [S]; rfl
  refine own_cv (congrArg (fun z => s₁.setTop (mkF m 8 #[.val (.ref a1), .val (.ref b1), .val (.long (0 : Int64)), .second, .val (.ref b1), .unset, .unset, .unset, .unset] [(.int z)])) tq101) ?_
  show own_Go p.tables e below _ (s₁.setTop (mkF m 8 #[.val (.ref a1), .val (.ref b1), .val (.long (0 : Int64)), .second, .val (.ref b1), .unset, .unset, .unset, .unset] [(.int (2 : Int32))]))
  refine own_st (S' := s₁.setTop (mkF m 10 #[.val (.ref a1), .val (.ref b1), .val (.long (0 : Int64)), .second, .val (.ref b1), .val (.int (2 : Int32)), .unset, .unset, .unset] [])) (fun _ kont => XS.istore X0.here hx rfl (hb hby dE_8) rfl (l' := #[.val (.ref a1), .val (.ref b1), .val (.long (0 : Int64)), .second, .val (.ref b1), .val (.int (2 : Int32)), .unset, .unset, .unset]) rfl kont) ?_
  refine own_st (S' := s₁.setTop (mkF m 11 #[.val (.ref a1), .val (.ref b1), .val (.long (0 : Int64)), .second, .val (.ref b1), .val (.int (2 : Int32)), .unset, .unset, .unset] [(.int (0 : Int32))])) (fun _ kont => XS.iconst X0.here hx rfl (hb hby dE_10) kont) ?_
  refine own_st (S' := s₁.setTop (mkF m 13 #[.val (.ref a1), .val (.ref b1), .val (.long (0 : Int64)), .second, .val (.ref b1), .val (.int (2 : Int32)), .val (.int (0 : Int32)), .unset, .unset] [])) (fun _ kont => XS.istore X0.here hx rfl (hb hby dE_11) rfl (l' := #[.val (.ref a1), .val (.ref b1), .val (.long (0 : Int64)), .second, .val (.ref b1), .val (.int (2 : Int32)), .val (.int (0 : Int32)), .unset, .unset]) rfl kont) ?_
  refine own_st (S' := s₁.setTop (mkF m 15 #[.val (.ref a1), .val (.ref b1), .val (.long (0 : Int64)), .second, .val (.ref b1), .val (.int (2 : Int32)), .val (.int (0 : Int32)), .unset, .unset] [(.int (0 : Int32))])) (fun _ kont => XS.iload X0.here hx rfl (hb hby dE_13) rfl kont) ?_
  refine own_st (S' := s₁.setTop (mkF m 17 #[.val (.ref a1), .val (.ref b1), .val (.long (0 : Int64)), .second, .val (.ref b1), .val (.int (2 : Int32)), .val (.int (0 : Int32)), .unset, .unset] [(.int (2 : Int32)), (.int (0 : Int32))])) (fun _ kont => XS.iload X0.here hx rfl (hb hby dE_15) rfl kont) ?_
  refine own_st (S' := s₁.setTop (mkF m 20 #[.val (.ref a1), .val (.ref b1), .val (.long (0 : Int64)), .second, .val (.ref b1), .val (.int (2 : Int32)), .val (.int (0 : Int32)), .unset, .unset] [])) (fun _ kont => XS.icmpNo X0.here hx rfl (hb hby dE_17) rfl ((own_i_ge _ _).trans (decide_eq_false (p := 0 ≥ 2) (by decide))) kont) ?_
  refine own_st (S' := s₁.setTop (mkF m 22 #[.val (.ref a1), .val (.ref b1), .val (.long (0 : Int64)), .second, .val (.ref b1), .val (.int (2 : Int32)), .val (.int (0 : Int32)), .unset, .unset] [(.ref b1)])) (fun _ kont => XS.aload X0.here hx rfl (hb hby dE_20) rfl rfl kont) ?_
  refine own_st (S' := s₁.setTop (mkF m 24 #[.val (.ref a1), .val (.ref b1), .val (.long (0 : Int64)), .second, .val (.ref b1), .val (.int (2 : Int32)), .val (.int (0 : Int32)), .unset, .unset] [(.int (0 : Int32)), (.ref b1)])) (fun _ kont => XS.iload X0.here hx rfl (hb hby dE_22) rfl kont) ?_
  refine own_st (S' := s₁.setTop (mkF m 25 #[.val (.ref a1), .val (.ref b1), .val (.long (0 : Int64)), .second, .val (.ref b1), .val (.int (2 : Int32)), .val (.int (0 : Int32)), .unset, .unset] [(.long w0)])) (X0.laload hx (j := (0 : Int32)) (v := (.long w0)) (by rw [e0]; exact Ar.1) (State.isArrayOf_alike hZ.alike Ar.2.1) Ar.2.2 (by rw [S]; decide) (by exact H0) (g := (mkF m 24 #[.val (.ref a1), .val (.ref b1), .val (.long (0 : Int64)), .second, .val (.ref b1), .val (.int (2 : Int32)), .val (.int (0 : Int32)), .unset, .unset] [(.int (0 : Int32)), (.ref b1)])) rfl rfl (hb hby dE_24)) ?_
  refine own_st (S' := s₁.setTop (mkF m 27 #[.val (.ref a1), .val (.ref b1), .val (.long (0 : Int64)), .second, .val (.ref b1), .val (.int (2 : Int32)), .val (.int (0 : Int32)), .val (.long w0), .second] [])) (fun _ kont => XT.lstore X0.here hx rfl (hb hby dE_25) rfl (l' := #[.val (.ref a1), .val (.ref b1), .val (.long (0 : Int64)), .second, .val (.ref b1), .val (.int (2 : Int32)), .val (.int (0 : Int32)), .val (.long w0), .second]) rfl kont) ?_
  refine own_st (S' := s₁.setTop (mkF m 28 #[.val (.ref a1), .val (.ref b1), .val (.long (0 : Int64)), .second, .val (.ref b1), .val (.int (2 : Int32)), .val (.int (0 : Int32)), .val (.long w0), .second] [(.long (0 : Int64))])) (fun _ kont => XT.lloadN X0.here hx rfl (hb hby dE_27) rfl kont) ?_
  refine own_st (S' := s₁.setTop (mkF m 30 #[.val (.ref a1), .val (.ref b1), .val (.long (0 : Int64)), .second, .val (.ref b1), .val (.int (2 : Int32)), .val (.int (0 : Int32)), .val (.long w0), .second] [(.long w0), (.long (0 : Int64))])) (fun _ kont => XT.lload X0.here hx rfl (hb hby dE_28) rfl kont) ?_
  obtain ⟨_, _, ⟨T102, L102, k102, n102⟩, -, X102, ⟨Lc102, hQ102, l102, y102, z102⟩, st102⟩ := Jvm.LawKit.callS X0 hx (y := (⟨"java/lang/Long", "bitCount", "(J)I"⟩ : MethodName)) hown (mvT hZ (hw _ (List.mem_of_getElem? (i := 29) rfl))) (mvT hZ (hw _ (List.mem_of_getElem? (i := 30) rfl))) (mvT hZ (hw _ (List.mem_of_getElem? (i := 31) rfl))) (mvT hZ (hw _ (List.mem_of_getElem? (i := 32) rfl))) (by decide) (backOf (W := 2) (rmB l Z a0 hw [] w0 h0 n0 Z0) hZ (hw _ (List.mem_of_getElem? (i := 32) rfl)) (hw _ (List.mem_of_getElem? (i := 31) rfl)) (by decide) (by decide)) (g := (mkF m 30 #[.val (.ref a1), .val (.ref b1), .val (.long (0 : Int64)), .second, .val (.ref b1), .val (.int (2 : Int32)), .val (.int (0 : Int32)), .val (.long w0), .second] [(.long w0), (.long (0 : Int64))])) rfl (by rw [hml]; rfl) (argsL := [(.long w0)]) (rest := [(.long (0 : Int64))]) (lenOf pd_B rfl) rfl (by show 2 * 0 + _ ≤ _; exact Nat.le_of_eq rfl) (hb hby dE_30) (fun _ _ => ⟨rfl, e0, (by dsimp only [Pt.cells]; decide), (by dsimp only [Pt.slots]; decide)⟩)
  dsimp only [Pt.U, Pt.locs, Pt.cells, Pt.slots] at X102 l102 y102 z102 st102 hQ102
  subst l102 y102 z102
  obtain ⟨rfl, N102, hh102⟩ := hQ102
  refine own_st (S' := T102.setTop (mkF m 33 #[.val (.ref a1), .val (.ref b1), .val (.long (0 : Int64)), .second, .val (.ref b1), .val (.int (2 : Int32)), .val (.int (0 : Int32)), .val (.long w0), .second] [(.int (own_bc w0)), (.long (0 : Int64))])) st102 ?_
  have Nb0 := Fr.app N0 N102
  refine own_st (S' := T102.setTop (mkF m 34 #[.val (.ref a1), .val (.ref b1), .val (.long (0 : Int64)), .second, .val (.ref b1), .val (.int (2 : Int32)), .val (.int (0 : Int32)), .val (.long w0), .second] [(.long (Int32.toInt64 (own_bc w0))), (.long (0 : Int64))])) (fun _ kont => XT.i2l X102.here hx rfl (hb hby dE_33) rfl kont) ?_
  refine own_st (S' := T102.setTop (mkF m 35 #[.val (.ref a1), .val (.ref b1), .val (.long (0 : Int64)), .second, .val (.ref b1), .val (.int (2 : Int32)), .val (.int (0 : Int32)), .val (.long w0), .second] [(.long ((0 : Int64) + (Int32.toInt64 (own_bc w0))))])) (fun _ kont => XT.ladd X102.here hx rfl (hb hby dE_34) rfl kont) ?_
  refine own_st (S' := T102.setTop (mkF m 36 #[.val (.ref a1), .val (.ref b1), .val (.long ((0 : Int64) + (Int32.toInt64 (own_bc w0)))), .second, .val (.ref b1), .val (.int (2 : Int32)), .val (.int (0 : Int32)), .val (.long w0), .second] [])) (fun _ kont => XT.lstoreN X102.here hx rfl (hb hby dE_35) rfl (l' := #[.val (.ref a1), .val (.ref b1), .val (.long ((0 : Int64) + (Int32.toInt64 (own_bc w0)))), .second, .val (.ref b1), .val (.int (2 : Int32)), .val (.int (0 : Int32)), .val (.long w0), .second]) rfl kont) ?_
  refine own_st (S' := T102.setTop (mkF m 39 #[.val (.ref a1), .val (.ref b1), .val (.long ((0 : Int64) + (Int32.toInt64 (own_bc w0)))), .second, .val (.ref b1), .val (.int (2 : Int32)), .val (.int ((0 : Int32) + (1 : Int32))), .val (.long w0), .second] [])) (fun _ kont => XS.iinc X102.here hx rfl (hb hby dE_36) rfl (l' := #[.val (.ref a1), .val (.ref b1), .val (.long ((0 : Int64) + (Int32.toInt64 (own_bc w0)))), .second, .val (.ref b1), .val (.int (2 : Int32)), .val (.int ((0 : Int32) + (1 : Int32))), .val (.long w0), .second]) rfl kont) ?_
  have tq103 : ((0 : Int32) + (1 : Int32)) = (1 : Int32) := rfl
  refine own_cv (congrArg (fun z => T102.setTop (mkF m 39 #[.val (.ref a1), .val (.ref b1), .val (.long ((0 : Int64) + (Int32.toInt64 (own_bc w0)))), .second, .val (.ref b1), .val (.int (2 : Int32)), .val (.int z), .val (.long w0), .second] [])) tq103) ?_
  show own_Go p.tables e below _ (T102.setTop (mkF m 39 #[.val (.ref a1), .val (.ref b1), .val (.long ((0 : Int64) + (Int32.toInt64 (own_bc w0)))), .second, .val (.ref b1), .val (.int (2 : Int32)), .val (.int (1 : Int32)), .val (.long w0), .second] []))
  refine own_st (S' := T102.setTop (mkF m 13 #[.val (.ref a1), .val (.ref b1), .val (.long ((0 : Int64) + (Int32.toInt64 (own_bc w0)))), .second, .val (.ref b1), .val (.int (2 : Int32)), .val (.int (1 : Int32)), .val (.long w0), .second] [])) (fun _ kont => XS.goto X102.here hx rfl (pc0 := 39) (pc' := 13) rfl (hb hby dE_39) (by decide) (by decide) kont) ?_
  refine own_st (S' := T102.setTop (mkF m 15 #[.val (.ref a1), .val (.ref b1), .val (.long ((0 : Int64) + (Int32.toInt64 (own_bc w0)))), .second, .val (.ref b1), .val (.int (2 : Int32)), .val (.int (1 : Int32)), .val (.long w0), .second] [(.int (1 : Int32))])) (fun _ kont => XS.iload X102.here hx rfl (hb hby dE_13) rfl kont) ?_
  refine own_st (S' := T102.setTop (mkF m 17 #[.val (.ref a1), .val (.ref b1), .val (.long ((0 : Int64) + (Int32.toInt64 (own_bc w0)))), .second, .val (.ref b1), .val (.int (2 : Int32)), .val (.int (1 : Int32)), .val (.long w0), .second] [(.int (2 : Int32)), (.int (1 : Int32))])) (fun _ kont => XS.iload X102.here hx rfl (hb hby dE_15) rfl kont) ?_
  refine own_st (S' := T102.setTop (mkF m 20 #[.val (.ref a1), .val (.ref b1), .val (.long ((0 : Int64) + (Int32.toInt64 (own_bc w0)))), .second, .val (.ref b1), .val (.int (2 : Int32)), .val (.int (1 : Int32)), .val (.long w0), .second] [])) (fun _ kont => XS.icmpNo X102.here hx rfl (hb hby dE_17) rfl ((own_i_ge _ _).trans (decide_eq_false (p := 1 ≥ 2) (by decide))) kont) ?_
  refine own_st (S' := T102.setTop (mkF m 22 #[.val (.ref a1), .val (.ref b1), .val (.long ((0 : Int64) + (Int32.toInt64 (own_bc w0)))), .second, .val (.ref b1), .val (.int (2 : Int32)), .val (.int (1 : Int32)), .val (.long w0), .second] [(.ref b1)])) (fun _ kont => XS.aload X102.here hx rfl (hb hby dE_20) rfl rfl kont) ?_
  refine own_st (S' := T102.setTop (mkF m 24 #[.val (.ref a1), .val (.ref b1), .val (.long ((0 : Int64) + (Int32.toInt64 (own_bc w0)))), .second, .val (.ref b1), .val (.int (2 : Int32)), .val (.int (1 : Int32)), .val (.long w0), .second] [(.int (1 : Int32)), (.ref b1)])) (fun _ kont => XS.iload X102.here hx rfl (hb hby dE_22) rfl kont) ?_
  refine own_st (S' := T102.setTop (mkF m 25 #[.val (.ref a1), .val (.ref b1), .val (.long ((0 : Int64) + (Int32.toInt64 (own_bc w0)))), .second, .val (.ref b1), .val (.int (2 : Int32)), .val (.int (1 : Int32)), .val (.long w0), .second] [(.long w1)])) (X102.laload hx (j := (1 : Int32)) (v := (.long w1)) (by rw [hh102]; exact Ar.1) (State.isArrayOf_alike hZ.alike Ar.2.1) Ar.2.2 (by rw [S]; decide) (by exact H1) (g := (mkF m 24 #[.val (.ref a1), .val (.ref b1), .val (.long ((0 : Int64) + (Int32.toInt64 (own_bc w0)))), .second, .val (.ref b1), .val (.int (2 : Int32)), .val (.int (1 : Int32)), .val (.long w0), .second] [(.int (1 : Int32)), (.ref b1)])) rfl rfl (hb hby dE_24)) ?_
  refine own_st (S' := T102.setTop (mkF m 27 #[.val (.ref a1), .val (.ref b1), .val (.long ((0 : Int64) + (Int32.toInt64 (own_bc w0)))), .second, .val (.ref b1), .val (.int (2 : Int32)), .val (.int (1 : Int32)), .val (.long w1), .second] [])) (fun _ kont => XT.lstore X102.here hx rfl (hb hby dE_25) rfl (l' := #[.val (.ref a1), .val (.ref b1), .val (.long ((0 : Int64) + (Int32.toInt64 (own_bc w0)))), .second, .val (.ref b1), .val (.int (2 : Int32)), .val (.int (1 : Int32)), .val (.long w1), .second]) rfl kont) ?_
  refine own_st (S' := T102.setTop (mkF m 28 #[.val (.ref a1), .val (.ref b1), .val (.long ((0 : Int64) + (Int32.toInt64 (own_bc w0)))), .second, .val (.ref b1), .val (.int (2 : Int32)), .val (.int (1 : Int32)), .val (.long w1), .second] [(.long ((0 : Int64) + (Int32.toInt64 (own_bc w0))))])) (fun _ kont => XT.lloadN X102.here hx rfl (hb hby dE_27) rfl kont) ?_
  refine own_st (S' := T102.setTop (mkF m 30 #[.val (.ref a1), .val (.ref b1), .val (.long ((0 : Int64) + (Int32.toInt64 (own_bc w0)))), .second, .val (.ref b1), .val (.int (2 : Int32)), .val (.int (1 : Int32)), .val (.long w1), .second] [(.long w1), (.long ((0 : Int64) + (Int32.toInt64 (own_bc w0))))])) (fun _ kont => XT.lload X102.here hx rfl (hb hby dE_28) rfl kont) ?_
  obtain ⟨_, _, ⟨T104, L104, k104, n104⟩, -, X104, ⟨Lc104, hQ104, l104, y104, z104⟩, st104⟩ := Jvm.LawKit.callS X102 hx (y := (⟨"java/lang/Long", "bitCount", "(J)I"⟩ : MethodName)) hown (mvT hZ (hw _ (List.mem_of_getElem? (i := 29) rfl))) (mvT hZ (hw _ (List.mem_of_getElem? (i := 30) rfl))) (mvT hZ (hw _ (List.mem_of_getElem? (i := 31) rfl))) (mvT hZ (hw _ (List.mem_of_getElem? (i := 32) rfl))) (by decide) (backOf (W := 2) (rmB l Z a0 hw [] w1 h0 n0 Z0) hZ (hw _ (List.mem_of_getElem? (i := 32) rfl)) (hw _ (List.mem_of_getElem? (i := 31) rfl)) (by decide) (by decide)) (g := (mkF m 30 #[.val (.ref a1), .val (.ref b1), .val (.long ((0 : Int64) + (Int32.toInt64 (own_bc w0)))), .second, .val (.ref b1), .val (.int (2 : Int32)), .val (.int (1 : Int32)), .val (.long w1), .second] [(.long w1), (.long ((0 : Int64) + (Int32.toInt64 (own_bc w0))))])) rfl (by rw [hml]; rfl) (argsL := [(.long w1)]) (rest := [(.long ((0 : Int64) + (Int32.toInt64 (own_bc w0))))]) (lenOf pd_B rfl) rfl (by show 2 * 0 + _ ≤ _; exact Nat.le_of_eq rfl) (hb hby dE_30) (fun _ _ => ⟨rfl, hh102, (by dsimp only [Pt.cells]; decide), (by dsimp only [Pt.slots]; decide)⟩)
  dsimp only [Pt.U, Pt.locs, Pt.cells, Pt.slots] at X104 l104 y104 z104 st104 hQ104
  subst l104 y104 z104
  obtain ⟨rfl, N104, hh104⟩ := hQ104
  refine own_st (S' := T104.setTop (mkF m 33 #[.val (.ref a1), .val (.ref b1), .val (.long ((0 : Int64) + (Int32.toInt64 (own_bc w0)))), .second, .val (.ref b1), .val (.int (2 : Int32)), .val (.int (1 : Int32)), .val (.long w1), .second] [(.int (own_bc w1)), (.long ((0 : Int64) + (Int32.toInt64 (own_bc w0))))])) st104 ?_
  have Nb1 := Fr.app Nb0 N104
  refine own_st (S' := T104.setTop (mkF m 34 #[.val (.ref a1), .val (.ref b1), .val (.long ((0 : Int64) + (Int32.toInt64 (own_bc w0)))), .second, .val (.ref b1), .val (.int (2 : Int32)), .val (.int (1 : Int32)), .val (.long w1), .second] [(.long (Int32.toInt64 (own_bc w1))), (.long ((0 : Int64) + (Int32.toInt64 (own_bc w0))))])) (fun _ kont => XT.i2l X104.here hx rfl (hb hby dE_33) rfl kont) ?_
  refine own_st (S' := T104.setTop (mkF m 35 #[.val (.ref a1), .val (.ref b1), .val (.long ((0 : Int64) + (Int32.toInt64 (own_bc w0)))), .second, .val (.ref b1), .val (.int (2 : Int32)), .val (.int (1 : Int32)), .val (.long w1), .second] [(.long (((0 : Int64) + (Int32.toInt64 (own_bc w0))) + (Int32.toInt64 (own_bc w1))))])) (fun _ kont => XT.ladd X104.here hx rfl (hb hby dE_34) rfl kont) ?_
  refine own_st (S' := T104.setTop (mkF m 36 #[.val (.ref a1), .val (.ref b1), .val (.long (((0 : Int64) + (Int32.toInt64 (own_bc w0))) + (Int32.toInt64 (own_bc w1)))), .second, .val (.ref b1), .val (.int (2 : Int32)), .val (.int (1 : Int32)), .val (.long w1), .second] [])) (fun _ kont => XT.lstoreN X104.here hx rfl (hb hby dE_35) rfl (l' := #[.val (.ref a1), .val (.ref b1), .val (.long (((0 : Int64) + (Int32.toInt64 (own_bc w0))) + (Int32.toInt64 (own_bc w1)))), .second, .val (.ref b1), .val (.int (2 : Int32)), .val (.int (1 : Int32)), .val (.long w1), .second]) rfl kont) ?_
  refine own_st (S' := T104.setTop (mkF m 39 #[.val (.ref a1), .val (.ref b1), .val (.long (((0 : Int64) + (Int32.toInt64 (own_bc w0))) + (Int32.toInt64 (own_bc w1)))), .second, .val (.ref b1), .val (.int (2 : Int32)), .val (.int ((1 : Int32) + (1 : Int32))), .val (.long w1), .second] [])) (fun _ kont => XS.iinc X104.here hx rfl (hb hby dE_36) rfl (l' := #[.val (.ref a1), .val (.ref b1), .val (.long (((0 : Int64) + (Int32.toInt64 (own_bc w0))) + (Int32.toInt64 (own_bc w1)))), .second, .val (.ref b1), .val (.int (2 : Int32)), .val (.int ((1 : Int32) + (1 : Int32))), .val (.long w1), .second]) rfl kont) ?_
  have tq105 : ((1 : Int32) + (1 : Int32)) = (2 : Int32) := rfl
  refine own_cv (congrArg (fun z => T104.setTop (mkF m 39 #[.val (.ref a1), .val (.ref b1), .val (.long (((0 : Int64) + (Int32.toInt64 (own_bc w0))) + (Int32.toInt64 (own_bc w1)))), .second, .val (.ref b1), .val (.int (2 : Int32)), .val (.int z), .val (.long w1), .second] [])) tq105) ?_
  show own_Go p.tables e below _ (T104.setTop (mkF m 39 #[.val (.ref a1), .val (.ref b1), .val (.long (((0 : Int64) + (Int32.toInt64 (own_bc w0))) + (Int32.toInt64 (own_bc w1)))), .second, .val (.ref b1), .val (.int (2 : Int32)), .val (.int (2 : Int32)), .val (.long w1), .second] []))
  refine own_st (S' := T104.setTop (mkF m 13 #[.val (.ref a1), .val (.ref b1), .val (.long (((0 : Int64) + (Int32.toInt64 (own_bc w0))) + (Int32.toInt64 (own_bc w1)))), .second, .val (.ref b1), .val (.int (2 : Int32)), .val (.int (2 : Int32)), .val (.long w1), .second] [])) (fun _ kont => XS.goto X104.here hx rfl (pc0 := 39) (pc' := 13) rfl (hb hby dE_39) (by decide) (by decide) kont) ?_
  refine own_st (S' := T104.setTop (mkF m 15 #[.val (.ref a1), .val (.ref b1), .val (.long (((0 : Int64) + (Int32.toInt64 (own_bc w0))) + (Int32.toInt64 (own_bc w1)))), .second, .val (.ref b1), .val (.int (2 : Int32)), .val (.int (2 : Int32)), .val (.long w1), .second] [(.int (2 : Int32))])) (fun _ kont => XS.iload X104.here hx rfl (hb hby dE_13) rfl kont) ?_
  refine own_st (S' := T104.setTop (mkF m 17 #[.val (.ref a1), .val (.ref b1), .val (.long (((0 : Int64) + (Int32.toInt64 (own_bc w0))) + (Int32.toInt64 (own_bc w1)))), .second, .val (.ref b1), .val (.int (2 : Int32)), .val (.int (2 : Int32)), .val (.long w1), .second] [(.int (2 : Int32)), (.int (2 : Int32))])) (fun _ kont => XS.iload X104.here hx rfl (hb hby dE_15) rfl kont) ?_
  refine own_st (S' := T104.setTop (mkF m 42 #[.val (.ref a1), .val (.ref b1), .val (.long (((0 : Int64) + (Int32.toInt64 (own_bc w0))) + (Int32.toInt64 (own_bc w1)))), .second, .val (.ref b1), .val (.int (2 : Int32)), .val (.int (2 : Int32)), .val (.long w1), .second] [])) (fun _ kont => XS.icmpYes X104.here hx rfl (pc0 := 17) (pc' := 42) rfl (hb hby dE_17) rfl ((own_i_ge _ _).trans (decide_eq_true (p := 2 ≥ 2) (by decide))) (by decide) (by decide) kont) ?_
  have tq106 : (((0 : Int64) + (Int32.toInt64 (own_bc w0))) + (Int32.toInt64 (own_bc w1))) = (own_sum w0 w1) := rfl
  refine own_cv (congrArg (fun z => T104.setTop (mkF m 42 #[.val (.ref a1), .val (.ref b1), .val (.long z), .second, .val (.ref b1), .val (.int (2 : Int32)), .val (.int (2 : Int32)), .val (.long w1), .second] [])) tq106) ?_
  show own_Go p.tables e below _ (T104.setTop (mkF m 42 #[.val (.ref a1), .val (.ref b1), .val (.long (own_sum w0 w1)), .second, .val (.ref b1), .val (.int (2 : Int32)), .val (.int (2 : Int32)), .val (.long w1), .second] []))
  refine own_st (S' := T104.setTop (mkF m 43 #[.val (.ref a1), .val (.ref b1), .val (.long (own_sum w0 w1)), .second, .val (.ref b1), .val (.int (2 : Int32)), .val (.int (2 : Int32)), .val (.long w1), .second] [(.long (own_sum w0 w1))])) (fun _ kont => XT.lloadN X104.here hx rfl (hb hby dE_42) rfl kont) ?_
  refine own_st (S' := T104.setTop (mkF m 44 #[.val (.ref a1), .val (.ref b1), .val (.long (own_sum w0 w1)), .second, .val (.ref b1), .val (.int (2 : Int32)), .val (.int (2 : Int32)), .val (.long w1), .second] [(.ref a1), (.long (own_sum w0 w1))])) (fun _ kont => XS.aloadN X104.here hx rfl (hb hby dE_43) rfl rfl kont) ?_
  obtain ⟨T107, X107, e107, st107⟩ := getF X104 hx hZ hown (host := "") (Or.inl (hw _ (List.mem_of_getElem? (i := 14) rfl))) Via.refl hh104 Fk (g := (mkF m 44 #[.val (.ref a1), .val (.ref b1), .val (.long (own_sum w0 w1)), .second, .val (.ref b1), .val (.int (2 : Int32)), .val (.int (2 : Int32)), .val (.long w1), .second] [(.ref a1), (.long (own_sum w0 w1))])) rfl rfl (hb hby dE_44)
  refine own_st (S' := T107.setTop (mkF m 47 #[.val (.ref a1), .val (.ref b1), .val (.long (own_sum w0 w1)), .second, .val (.ref b1), .val (.int (2 : Int32)), .val (.int (2 : Int32)), .val (.long w1), .second] [(.int k), (.long (own_sum w0 w1))])) st107 ?_
  refine own_st (S' := T107.setTop (mkF m 48 #[.val (.ref a1), .val (.ref b1), .val (.long (own_sum w0 w1)), .second, .val (.ref b1), .val (.int (2 : Int32)), .val (.int (2 : Int32)), .val (.long w1), .second] [(.long (Int32.toInt64 k)), (.long (own_sum w0 w1))])) (fun _ kont => XT.i2l X107.here hx rfl (hb hby dE_47) rfl kont) ?_
  refine own_st (S' := T107.setTop (mkF m 49 #[.val (.ref a1), .val (.ref b1), .val (.long (own_sum w0 w1)), .second, .val (.ref b1), .val (.int (2 : Int32)), .val (.int (2 : Int32)), .val (.long w1), .second] [(.int (XT.cmpL (own_sum w0 w1) (Int32.toInt64 k)))])) (fun _ kont => XT.lcmp X107.here hx rfl (hb hby dE_48) rfl kont) ?_
  by_cases hc49 : Int64.toInt (own_sum w0 w1) < Int64.toInt (Int32.toInt64 k)
  · skip
    refine own_st (S' := T107.setTop (mkF m 56 #[.val (.ref a1), .val (.ref b1), .val (.long (own_sum w0 w1)), .second, .val (.ref b1), .val (.int (2 : Int32)), .val (.int (2 : Int32)), .val (.long w1), .second] [])) (fun _ kont => XS.ifYes X107.here hx rfl (pc0 := 49) (pc' := 56) rfl (hb hby dE_49) rfl ((own_l_lt _ _).trans (decide_eq_true (p := Int64.toInt (own_sum w0 w1) < Int64.toInt (Int32.toInt64 k)) (hc49))) (by decide) (by decide) kont) ?_
    refine own_st (S' := T107.setTop (mkF m 57 #[.val (.ref a1), .val (.ref b1), .val (.long (own_sum w0 w1)), .second, .val (.ref b1), .val (.int (2 : Int32)), .val (.int (2 : Int32)), .val (.long w1), .second] [(.int (0 : Int32))])) (fun _ kont => XS.iconst X107.here hx rfl (hb hby dE_56) kont) ?_
    have tq108 : (0 : Int32) = (own_b (Int32.toInt k ≤ Int64.toInt (own_sum w0 w1))) := (own_b0 (by omega)).symm
    refine own_cv (congrArg (fun z => T107.setTop (mkF m 57 #[.val (.ref a1), .val (.ref b1), .val (.long (own_sum w0 w1)), .second, .val (.ref b1), .val (.int (2 : Int32)), .val (.int (2 : Int32)), .val (.long w1), .second] [(.int z)])) tq108) ?_
    show own_Go p.tables e below _ (T107.setTop (mkF m 57 #[.val (.ref a1), .val (.ref b1), .val (.long (own_sum w0 w1)), .second, .val (.ref b1), .val (.int (2 : Int32)), .val (.int (2 : Int32)), .val (.long w1), .second] [(.int (own_b (Int32.toInt k ≤ Int64.toInt (own_sum w0 w1))))]))
    refine own_end X107 (Q := (QE Z a1 b1 k w0 w1 h0 n0)) (some (.int (own_b (Int32.toInt k ≤ Int64.toInt (own_sum w0 w1))))) Bd.notSynchronized (fun h => by rw [Bd.returns] at h; cases h) (fun fs hr => retN X107 hx (t := .boolean) Bd.returns (by simp) (hb hby dE_57) (by rw [own_nb]; exact hr)) ?_ (by decide) (by decide)
    rw [e107]
    exact ⟨rfl, Nb1, rfl⟩
  · skip
    refine own_st (S' := T107.setTop (mkF m 52 #[.val (.ref a1), .val (.ref b1), .val (.long (own_sum w0 w1)), .second, .val (.ref b1), .val (.int (2 : Int32)), .val (.int (2 : Int32)), .val (.long w1), .second] [])) (fun _ kont => XS.ifNo X107.here hx rfl (hb hby dE_49) rfl ((own_l_lt _ _).trans (decide_eq_false (p := Int64.toInt (own_sum w0 w1) < Int64.toInt (Int32.toInt64 k)) (hc49))) kont) ?_
    refine own_st (S' := T107.setTop (mkF m 53 #[.val (.ref a1), .val (.ref b1), .val (.long (own_sum w0 w1)), .second, .val (.ref b1), .val (.int (2 : Int32)), .val (.int (2 : Int32)), .val (.long w1), .second] [(.int (1 : Int32))])) (fun _ kont => XS.iconst X107.here hx rfl (hb hby dE_52) kont) ?_
    refine own_st (S' := T107.setTop (mkF m 57 #[.val (.ref a1), .val (.ref b1), .val (.long (own_sum w0 w1)), .second, .val (.ref b1), .val (.int (2 : Int32)), .val (.int (2 : Int32)), .val (.long w1), .second] [(.int (1 : Int32))])) (fun _ kont => XS.goto X107.here hx rfl (pc0 := 53) (pc' := 57) rfl (hb hby dE_53) (by decide) (by decide) kont) ?_
    have tq109 : (1 : Int32) = (own_b (Int32.toInt k ≤ Int64.toInt (own_sum w0 w1))) := (own_b1 (by omega)).symm
    refine own_cv (congrArg (fun z => T107.setTop (mkF m 57 #[.val (.ref a1), .val (.ref b1), .val (.long (own_sum w0 w1)), .second, .val (.ref b1), .val (.int (2 : Int32)), .val (.int (2 : Int32)), .val (.long w1), .second] [(.int z)])) tq109) ?_
    show own_Go p.tables e below _ (T107.setTop (mkF m 57 #[.val (.ref a1), .val (.ref b1), .val (.long (own_sum w0 w1)), .second, .val (.ref b1), .val (.int (2 : Int32)), .val (.int (2 : Int32)), .val (.long w1), .second] [(.int (own_b (Int32.toInt k ≤ Int64.toInt (own_sum w0 w1))))]))
    refine own_end X107 (Q := (QE Z a1 b1 k w0 w1 h0 n0)) (some (.int (own_b (Int32.toInt k ≤ Int64.toInt (own_sum w0 w1))))) Bd.notSynchronized (fun h => by rw [Bd.returns] at h; cases h) (fun fs hr => retN X107 hx (t := .boolean) Bd.returns (by simp) (hb hby dE_57) (by rw [own_nb]; exact hr)) ?_ (by decide) (by decide)
    rw [e107]
    exact ⟨rfl, Nb1, rfl⟩
theorem pn_0 : plainName "com/example/mingle/mingle/KmAnonymityThreatensPinLaw" = true := by first | (simp [plainName, overriddenIn]; done) | decide +kernel
theorem ef_0 (m : MethodId) (p1 : Int32) (p2 : Int32) (p3 : Int32) (p4 : Int64) (p5 : Int32) (p6 : Int32) : entryFrame m #[(.int p1), (.int p2), (.int p3), (.long p4), (.int p5), (.int p6)] maxLocals = mkF m 0 #[.val (.int p1), .val (.int p2), .val (.int p3), .val (.long p4), .second, .val (.int p5), .val (.int p6), .unset, .unset, .unset, .unset, .unset, .unset, .unset, .unset, .unset, .unset, .unset, .unset, .unset, .unset, .unset, .unset, .unset, .unset] [] := by first | (simp [entryFrame, mkF, argsToLocals, Value.category, maxLocals]; done) | rfl
def Q0 (Z : State) (p1 : Int32) (p2 : Int32) (p3 : Int32) (p4 : Int64) (p5 : Int32) (p6 : Int32) (h0 : Heap) (n0 : Nat) (v : Option Value) (h : Heap) (L : List Loc) : Prop := v = some (.int 1) ∧ Fr n0 L
set_option maxRecDepth 65536 in
set_option maxHeartbeats 40000000 in
theorem rm0 (l : Launch) (Z : State) (a0 : Array Value) (hw : ∀ d ∈ tables_1, d.before a0 Z = true) (ws : List Jvm.Cond) (p1 : Int32) (p2 : Int32) (p3 : Int32) (p4 : Int64) (p5 : Int32) (p6 : Int32) (h0 : Heap) (n0 : Nat) (Z0 : n0 ≤ h0.size) :
    MetFree l x (head1 (Jvm.Cond.code x code maxLocals ret :: ws) room_1) (fun a U => a = #[(.int p1), (.int p2), (.int p3), (.long p4), (.int p5), (.int p6)] ∧ Z.Warmed39 U.vm ∧ U.heap = h0) (fun _ _ _ _ _ => True) (fun _ U o U' => ∃ v L, o = .returned v ∧ Q0 Z p1 p2 p3 p4 p5 p6 h0 n0 v U'.heap L ∧ FrameEnd U o U' L room_1.cells room_1.slots) := by
  refine MetFree.of_bodySF (plainFor_of_name pn_0) hisR ?_
  intro p e s m args below meth c s₁ Bd hml0 hP hK
  obtain ⟨rfl, hZ, hh⟩ := hP
  have hx := Bd.exec
  have hby := Bd.bytes
  have hml : c.maxLocals = 25 := hml0
  have hown : s.vm.findClass "com/example/mingle/mingle/KmAnonymityThreatensPinLaw" = some m.cls := findClass_of_methodNamed Bd.named
  have hnm := (name_of_methodNamed Bd.named Bd.method).1
  have X0 : Stand p l e room_1 s m #[(.int p1), (.int p2), (.int p3), (.long p4), (.int p5), (.int p6)] below meth c s₁ [] 0 0 := Stand.of_body Bd
  have e0 : s₁.heap = h0 := by rw [← hh, Bd.state]; rfl
  have N0 := Fr.nil n0
  show own_Go p.tables e below (fun t o => ∃ v L, o = .returned v ∧ Q0 Z p1 p2 p3 p4 p5 p6 h0 n0 v t.heap L ∧ FrameEnd s o t L room_1.cells room_1.slots) (s₁.setTop (entryFrame m #[(.int p1), (.int p2), (.int p3), (.long p4), (.int p5), (.int p6)] maxLocals))
  rw [ef_0]
  show own_Go p.tables e below _ (s₁.setTop (mkF m 0 #[.val (.int p1), .val (.int p2), .val (.int p3), .val (.long p4), .second, .val (.int p5), .val (.int p6), .unset, .unset, .unset, .unset, .unset, .unset, .unset, .unset, .unset, .unset, .unset, .unset, .unset, .unset, .unset, .unset, .unset, .unset] []))
  refine own_st (S' := s₁.setTop (mkF m 1 #[.val (.int p1), .val (.int p2), .val (.int p3), .val (.long p4), .second, .val (.int p5), .val (.int p6), .unset, .unset, .unset, .unset, .unset, .unset, .unset, .unset, .unset, .unset, .unset, .unset, .unset, .unset, .unset, .unset, .unset, .unset] [(.int p1)])) (fun _ kont => XS.iloadN X0.here hx rfl (hb hby at_0) rfl kont) ?_
  refine own_st (S' := s₁.setTop (mkF m 3 #[.val (.int p1), .val (.int p2), .val (.int p3), .val (.long p4), .second, .val (.int p5), .val (.int p6), .unset, .unset, .unset, .unset, .unset, .unset, .unset, .unset, .unset, .unset, .unset, .unset, .unset, .unset, .unset, .unset, .unset, .unset] [(.int (2147483647 : Int32)), (.int p1)])) (fun _ kont => X0.ldcI hx hown (mvT hZ (hw _ (List.mem_of_getElem? (i := 0) rfl))) rfl (hb hby at_1) kont) ?_
  refine own_st (S' := s₁.setTop (mkF m 4 #[.val (.int p1), .val (.int p2), .val (.int p3), .val (.long p4), .second, .val (.int p5), .val (.int p6), .unset, .unset, .unset, .unset, .unset, .unset, .unset, .unset, .unset, .unset, .unset, .unset, .unset, .unset, .unset, .unset, .unset, .unset] [(.int (p1 &&& (2147483647 : Int32)))])) (fun _ kont => XS.iand X0.here hx rfl (hb hby at_3) rfl kont) ?_
  obtain ⟨k0, hv_k0⟩ : ∃ z : Int32, z = (p1 &&& (2147483647 : Int32)) := ⟨_, rfl⟩
  refine own_cv (congrArg (fun z => s₁.setTop (mkF m 4 #[.val (.int p1), .val (.int p2), .val (.int p3), .val (.long p4), .second, .val (.int p5), .val (.int p6), .unset, .unset, .unset, .unset, .unset, .unset, .unset, .unset, .unset, .unset, .unset, .unset, .unset, .unset, .unset, .unset, .unset, .unset] [(.int z)])) hv_k0.symm) ?_
  show own_Go p.tables e below _ (s₁.setTop (mkF m 4 #[.val (.int p1), .val (.int p2), .val (.int p3), .val (.long p4), .second, .val (.int p5), .val (.int p6), .unset, .unset, .unset, .unset, .unset, .unset, .unset, .unset, .unset, .unset, .unset, .unset, .unset, .unset, .unset, .unset, .unset, .unset] [(.int k0)]))
  have hk0 := Jvm.Kit.i32_mask p1 2147483647 (k := 31) (by decide) (by decide)
  rw [← hv_k0] at hk0
  refine own_st (S' := s₁.setTop (mkF m 6 #[.val (.int p1), .val (.int p2), .val (.int p3), .val (.long p4), .second, .val (.int p5), .val (.int p6), .val (.int k0), .unset, .unset, .unset, .unset, .unset, .unset, .unset, .unset, .unset, .unset, .unset, .unset, .unset, .unset, .unset, .unset, .unset] [])) (fun _ kont => XS.istore X0.here hx rfl (hb hby at_4) rfl (l' := #[.val (.int p1), .val (.int p2), .val (.int p3), .val (.long p4), .second, .val (.int p5), .val (.int p6), .val (.int k0), .unset, .unset, .unset, .unset, .unset, .unset, .unset, .unset, .unset, .unset, .unset, .unset, .unset, .unset, .unset, .unset, .unset]) rfl kont) ?_
  refine own_join (fun x : {x : Int32 // 2 ≤ Int32.toInt x} => s₁.setTop (mkF m 18 #[.val (.int p1), .val (.int p2), .val (.int p3), .val (.long p4), .second, .val (.int p5), .val (.int p6), .val (.int x.1), .unset, .unset, .unset, .unset, .unset, .unset, .unset, .unset, .unset, .unset, .unset, .unset, .unset, .unset, .unset, .unset, .unset] [])) (fun x => ?_) (fun fin => ?_)
  · skip
    obtain ⟨k, hk⟩ := x
    try dsimp only at hk
    show own_Go p.tables e below _ (s₁.setTop (mkF m 18 #[.val (.int p1), .val (.int p2), .val (.int p3), .val (.long p4), .second, .val (.int p5), .val (.int p6), .val (.int k), .unset, .unset, .unset, .unset, .unset, .unset, .unset, .unset, .unset, .unset, .unset, .unset, .unset, .unset, .unset, .unset, .unset] []))
    refine own_st (S' := s₁.setTop (mkF m 19 #[.val (.int p1), .val (.int p2), .val (.int p3), .val (.long p4), .second, .val (.int p5), .val (.int p6), .val (.int k), .unset, .unset, .unset, .unset, .unset, .unset, .unset, .unset, .unset, .unset, .unset, .unset, .unset, .unset, .unset, .unset, .unset] [(.int (1 : Int32))])) (fun _ kont => XS.iconst X0.here hx rfl (hb hby at_18) kont) ?_
    refine own_st (S' := s₁.setTop (mkF m 20 #[.val (.int p1), .val (.int p2), .val (.int p3), .val (.long p4), .second, .val (.int p5), .val (.int p6), .val (.int k), .unset, .unset, .unset, .unset, .unset, .unset, .unset, .unset, .unset, .unset, .unset, .unset, .unset, .unset, .unset, .unset, .unset] [(.int p2), (.int (1 : Int32))])) (fun _ kont => XS.iloadN X0.here hx rfl (hb hby at_19) rfl kont) ?_
    refine own_st (S' := s₁.setTop (mkF m 22 #[.val (.int p1), .val (.int p2), .val (.int p3), .val (.long p4), .second, .val (.int p5), .val (.int p6), .val (.int k), .unset, .unset, .unset, .unset, .unset, .unset, .unset, .unset, .unset, .unset, .unset, .unset, .unset, .unset, .unset, .unset, .unset] [(.int (2147483647 : Int32)), (.int p2), (.int (1 : Int32))])) (fun _ kont => X0.ldcI hx hown (mvT hZ (hw _ (List.mem_of_getElem? (i := 0) rfl))) rfl (hb hby at_20) kont) ?_
    refine own_st (S' := s₁.setTop (mkF m 23 #[.val (.int p1), .val (.int p2), .val (.int p3), .val (.long p4), .second, .val (.int p5), .val (.int p6), .val (.int k), .unset, .unset, .unset, .unset, .unset, .unset, .unset, .unset, .unset, .unset, .unset, .unset, .unset, .unset, .unset, .unset, .unset] [(.int (p2 &&& (2147483647 : Int32))), (.int (1 : Int32))])) (fun _ kont => XS.iand X0.here hx rfl (hb hby at_22) rfl kont) ?_
    obtain ⟨_, _, ⟨T101, L101, k101, n101⟩, -, X101, ⟨Lc101, hQ101, l101, y101, z101⟩, st101⟩ := Jvm.LawKit.callS X0 hx (y := (⟨"java/lang/Math", "max", "(II)I"⟩ : MethodName)) hown (mvT hZ (hw _ (List.mem_of_getElem? (i := 1) rfl))) (mvT hZ (hw _ (List.mem_of_getElem? (i := 2) rfl))) (mvT hZ (hw _ (List.mem_of_getElem? (i := 3) rfl))) (mvT hZ (hw _ (List.mem_of_getElem? (i := 4) rfl))) (by decide) (backOf (W := 0) (rmMX l Z a0 hw [] (1 : Int32) (p2 &&& (2147483647 : Int32)) h0 n0 Z0) hZ (hw _ (List.mem_of_getElem? (i := 4) rfl)) (hw _ (List.mem_of_getElem? (i := 3) rfl)) (by decide) (by decide)) (g := (mkF m 23 #[.val (.int p1), .val (.int p2), .val (.int p3), .val (.long p4), .second, .val (.int p5), .val (.int p6), .val (.int k), .unset, .unset, .unset, .unset, .unset, .unset, .unset, .unset, .unset, .unset, .unset, .unset, .unset, .unset, .unset, .unset, .unset] [(.int (p2 &&& (2147483647 : Int32))), (.int (1 : Int32))])) rfl (by rw [hml]; rfl) (argsL := [(.int (1 : Int32)), (.int (p2 &&& (2147483647 : Int32)))]) (rest := []) (lenOf pd_MX rfl) rfl (by show 2 * 0 + _ ≤ _; exact Nat.le_of_eq rfl) (hb hby at_23) (fun _ _ => ⟨rfl, e0, (by dsimp only [Pt.cells]; decide), (by dsimp only [Pt.slots]; decide)⟩)
    dsimp only [Pt.U, Pt.locs, Pt.cells, Pt.slots] at X101 l101 y101 z101 st101 hQ101
    subst l101 y101 z101
    obtain ⟨rfl, N101, hh101⟩ := hQ101
    refine own_st (S' := T101.setTop (mkF m 26 #[.val (.int p1), .val (.int p2), .val (.int p3), .val (.long p4), .second, .val (.int p5), .val (.int p6), .val (.int k), .unset, .unset, .unset, .unset, .unset, .unset, .unset, .unset, .unset, .unset, .unset, .unset, .unset, .unset, .unset, .unset, .unset] [(.int (own_imax (1 : Int32) (p2 &&& (2147483647 : Int32))))])) st101 ?_
    have Nm := Fr.app N0 N101
    obtain ⟨mm, hv_mm⟩ : ∃ z : Int32, z = (own_imax (1 : Int32) (p2 &&& (2147483647 : Int32))) := ⟨_, rfl⟩
    refine own_cv (congrArg (fun z => T101.setTop (mkF m 26 #[.val (.int p1), .val (.int p2), .val (.int p3), .val (.long p4), .second, .val (.int p5), .val (.int p6), .val (.int k), .unset, .unset, .unset, .unset, .unset, .unset, .unset, .unset, .unset, .unset, .unset, .unset, .unset, .unset, .unset, .unset, .unset] [(.int z)])) hv_mm.symm) ?_
    show own_Go p.tables e below _ (T101.setTop (mkF m 26 #[.val (.int p1), .val (.int p2), .val (.int p3), .val (.long p4), .second, .val (.int p5), .val (.int p6), .val (.int k), .unset, .unset, .unset, .unset, .unset, .unset, .unset, .unset, .unset, .unset, .unset, .unset, .unset, .unset, .unset, .unset, .unset] [(.int mm)]))
    have hmm : 1 ≤ Int32.toInt mm := by rw [hv_mm]; unfold own_imax; have o : (1 : Int32).toInt = 1 := rfl; split <;> omega
    refine own_st (S' := T101.setTop (mkF m 28 #[.val (.int p1), .val (.int p2), .val (.int p3), .val (.long p4), .second, .val (.int p5), .val (.int p6), .val (.int k), .val (.int mm), .unset, .unset, .unset, .unset, .unset, .unset, .unset, .unset, .unset, .unset, .unset, .unset, .unset, .unset, .unset, .unset] [])) (fun _ kont => XS.istore X101.here hx rfl (hb hby at_26) rfl (l' := #[.val (.int p1), .val (.int p2), .val (.int p3), .val (.long p4), .second, .val (.int p5), .val (.int p6), .val (.int k), .val (.int mm), .unset, .unset, .unset, .unset, .unset, .unset, .unset, .unset, .unset, .unset, .unset, .unset, .unset, .unset, .unset, .unset]) rfl kont) ?_
    obtain ⟨T102, h102, X102, e102, E102, A102, D102, -, st102⟩ := newO X101 hx hZ hown (hw _ (List.mem_of_getElem? (i := 5) rfl)) (hw _ (List.mem_of_getElem? (i := 6) rfl)) (hw _ (List.mem_of_getElem? (i := 7) rfl)) hh101 (g := (mkF m 28 #[.val (.int p1), .val (.int p2), .val (.int p3), .val (.long p4), .second, .val (.int p5), .val (.int p6), .val (.int k), .val (.int mm), .unset, .unset, .unset, .unset, .unset, .unset, .unset, .unset, .unset, .unset, .unset, .unset, .unset, .unset, .unset, .unset] [])) rfl (hb hby at_28) (by decide) (by decide)
    obtain ⟨a102, ga102⟩ : ∃ z, z = h0.size := ⟨_, rfl⟩
    rw [← ga102] at A102 D102 st102
    refine own_st (S' := T102.setTop (mkF m 31 #[.val (.int p1), .val (.int p2), .val (.int p3), .val (.long p4), .second, .val (.int p5), .val (.int p6), .val (.int k), .val (.int mm), .unset, .unset, .unset, .unset, .unset, .unset, .unset, .unset, .unset, .unset, .unset, .unset, .unset, .unset, .unset, .unset] [(.ref a102)])) st102 ?_
    have Fk : (Fld Z h102 a102 "com/example/mingle/mingle/KmAnonymity" "k" "I" (.int (0 : Int32))) := D102 (Or.inr (hw _ (List.mem_of_getElem? (i := 15) rfl))) (ty := .int) (by decide)
    have Fm : (Fld Z h102 a102 "com/example/mingle/mingle/KmAnonymity" "m" "I" (.int (0 : Int32))) := D102 (Or.inr (hw _ (List.mem_of_getElem? (i := 17) rfl))) (ty := .int) (by decide)
    have Zs : n0 ≤ h102.size := Nat.le_trans Z0 E102.1
    have ge : n0 ≤ a102 := by rw [ga102]; exact Z0
    refine own_st (S' := T102.setTop (mkF m 32 #[.val (.int p1), .val (.int p2), .val (.int p3), .val (.long p4), .second, .val (.int p5), .val (.int p6), .val (.int k), .val (.int mm), .unset, .unset, .unset, .unset, .unset, .unset, .unset, .unset, .unset, .unset, .unset, .unset, .unset, .unset, .unset, .unset] [(.ref a102), (.ref a102)])) (fun _ kont => XS.dup X102.here hx rfl (hb hby at_31) rfl rfl kont) ?_
    refine own_st (S' := T102.setTop (mkF m 34 #[.val (.int p1), .val (.int p2), .val (.int p3), .val (.long p4), .second, .val (.int p5), .val (.int p6), .val (.int k), .val (.int mm), .unset, .unset, .unset, .unset, .unset, .unset, .unset, .unset, .unset, .unset, .unset, .unset, .unset, .unset, .unset, .unset] [(.int k), (.ref a102), (.ref a102)])) (fun _ kont => XS.iload X102.here hx rfl (hb hby at_32) rfl kont) ?_
    refine own_st (S' := T102.setTop (mkF m 36 #[.val (.int p1), .val (.int p2), .val (.int p3), .val (.long p4), .second, .val (.int p5), .val (.int p6), .val (.int k), .val (.int mm), .unset, .unset, .unset, .unset, .unset, .unset, .unset, .unset, .unset, .unset, .unset, .unset, .unset, .unset, .unset, .unset] [(.int mm), (.int k), (.ref a102), (.ref a102)])) (fun _ kont => XS.iload X102.here hx rfl (hb hby at_34) rfl kont) ?_
    obtain ⟨_, _, ⟨T103, L103, k103, n103⟩, -, X103, ⟨Lc103, hQ103, l103, y103, z103⟩, st103⟩ := X102.specialBack hx (y := (⟨"com/example/mingle/mingle/KmAnonymity", "<init>", "(II)V"⟩ : MethodName)) rfl hown (mvT hZ (hw _ (List.mem_of_getElem? (i := 8) rfl))) (mvT hZ (hw _ (List.mem_of_getElem? (i := 9) rfl))) (mvT hZ (hw _ (List.mem_of_getElem? (i := 10) rfl))) (by decide) (backOf (W := 1) (rmI l Z a0 hw [] a102 k mm h102 n0 Zs Fk Fm A102 ge hk hmm) hZ (hw _ (List.mem_of_getElem? (i := 10) rfl)) (hw _ (List.mem_of_getElem? (i := 7) rfl)) (by decide) (by decide)) (g := (mkF m 36 #[.val (.int p1), .val (.int p2), .val (.int p3), .val (.long p4), .second, .val (.int p5), .val (.int p6), .val (.int k), .val (.int mm), .unset, .unset, .unset, .unset, .unset, .unset, .unset, .unset, .unset, .unset, .unset, .unset, .unset, .unset, .unset, .unset] [(.int mm), (.int k), (.ref a102), (.ref a102)])) rfl (by rw [hml]; rfl) (Steps.refl _) (a := a102) (argsL := [(.int k), (.int mm)]) (rest := [(.ref a102)]) (lenOf pd_I rfl) rfl (by show 2 * 0 + _ ≤ _; exact Nat.le_of_eq rfl) (hb hby at_36) (fun _ _ => ⟨rfl, e102, (by decide : 1 + 0 ≤ _), (by decide : 2 + 0 ≤ _)⟩)
    dsimp only [Pt.U, Pt.locs, Pt.cells, Pt.slots] at X103 l103 y103 z103 st103 hQ103
    subst l103 y103 z103
    obtain ⟨rfl, N103, K103, Ex103, Fk103⟩ := hQ103
    refine own_tr (S' := T103.setTop (mkF m 39 #[.val (.int p1), .val (.int p2), .val (.int p3), .val (.long p4), .second, .val (.int p5), .val (.int p6), .val (.int k), .val (.int mm), .unset, .unset, .unset, .unset, .unset, .unset, .unset, .unset, .unset, .unset, .unset, .unset, .unset, .unset, .unset, .unset] [(.ref a102)])) st103 ?_
    have Nf := Fr.app Nm N103
    have Zk := Nat.le_trans Zs K103.1
    have hk64 := Jvm.Kit.i64_of_i32 k
    have hk1 := own_k1 k hk
    refine own_st (S' := T103.setTop (mkF m 41 #[.val (.int p1), .val (.int p2), .val (.int p3), .val (.long p4), .second, .val (.int p5), .val (.int p6), .val (.int k), .val (.int mm), .val (.ref a102), .unset, .unset, .unset, .unset, .unset, .unset, .unset, .unset, .unset, .unset, .unset, .unset, .unset, .unset, .unset] [])) (fun _ kont => XS.astore X103.here hx rfl (hb hby at_39) rfl rfl (l' := #[.val (.int p1), .val (.int p2), .val (.int p3), .val (.long p4), .second, .val (.int p5), .val (.int p6), .val (.int k), .val (.int mm), .val (.ref a102), .unset, .unset, .unset, .unset, .unset, .unset, .unset, .unset, .unset, .unset, .unset, .unset, .unset, .unset, .unset]) rfl kont) ?_
    refine own_st (S' := T103.setTop (mkF m 43 #[.val (.int p1), .val (.int p2), .val (.int p3), .val (.long p4), .second, .val (.int p5), .val (.int p6), .val (.int k), .val (.int mm), .val (.ref a102), .unset, .unset, .unset, .unset, .unset, .unset, .unset, .unset, .unset, .unset, .unset, .unset, .unset, .unset, .unset] [(.int p5)])) (fun _ kont => XS.iload X103.here hx rfl (hb hby at_41) rfl kont) ?_
    refine own_st (S' := T103.setTop (mkF m 44 #[.val (.int p1), .val (.int p2), .val (.int p3), .val (.long p4), .second, .val (.int p5), .val (.int p6), .val (.int k), .val (.int mm), .val (.ref a102), .unset, .unset, .unset, .unset, .unset, .unset, .unset, .unset, .unset, .unset, .unset, .unset, .unset, .unset, .unset] [(.int (3 : Int32)), (.int p5)])) (fun _ kont => XS.iconst X103.here hx rfl (hb hby at_43) kont) ?_
    refine own_st (S' := T103.setTop (mkF m 45 #[.val (.int p1), .val (.int p2), .val (.int p3), .val (.long p4), .second, .val (.int p5), .val (.int p6), .val (.int k), .val (.int mm), .val (.ref a102), .unset, .unset, .unset, .unset, .unset, .unset, .unset, .unset, .unset, .unset, .unset, .unset, .unset, .unset, .unset] [(.int (p5 % (3 : Int32)))])) (fun _ kont => iremM X103 hx rfl (hb hby at_44) rfl (by decide) kont) ?_
    obtain ⟨dd, hv_dd⟩ : ∃ z : Int32, z = (p5 % (3 : Int32)) := ⟨_, rfl⟩
    refine own_cv (congrArg (fun z => T103.setTop (mkF m 45 #[.val (.int p1), .val (.int p2), .val (.int p3), .val (.long p4), .second, .val (.int p5), .val (.int p6), .val (.int k), .val (.int mm), .val (.ref a102), .unset, .unset, .unset, .unset, .unset, .unset, .unset, .unset, .unset, .unset, .unset, .unset, .unset, .unset, .unset] [(.int z)])) hv_dd.symm) ?_
    show own_Go p.tables e below _ (T103.setTop (mkF m 45 #[.val (.int p1), .val (.int p2), .val (.int p3), .val (.long p4), .second, .val (.int p5), .val (.int p6), .val (.int k), .val (.int mm), .val (.ref a102), .unset, .unset, .unset, .unset, .unset, .unset, .unset, .unset, .unset, .unset, .unset, .unset, .unset, .unset, .unset] [(.int dd)]))
    refine own_st (S' := T103.setTop (mkF m 47 #[.val (.int p1), .val (.int p2), .val (.int p3), .val (.long p4), .second, .val (.int p5), .val (.int p6), .val (.int k), .val (.int mm), .val (.ref a102), .val (.int dd), .unset, .unset, .unset, .unset, .unset, .unset, .unset, .unset, .unset, .unset, .unset, .unset, .unset, .unset] [])) (fun _ kont => XS.istore X103.here hx rfl (hb hby at_45) rfl (l' := #[.val (.int p1), .val (.int p2), .val (.int p3), .val (.long p4), .second, .val (.int p5), .val (.int p6), .val (.int k), .val (.int mm), .val (.ref a102), .val (.int dd), .unset, .unset, .unset, .unset, .unset, .unset, .unset, .unset, .unset, .unset, .unset, .unset, .unset, .unset]) rfl kont) ?_
    refine own_st (S' := T103.setTop (mkF m 48 #[.val (.int p1), .val (.int p2), .val (.int p3), .val (.long p4), .second, .val (.int p5), .val (.int p6), .val (.int k), .val (.int mm), .val (.ref a102), .val (.int dd), .unset, .unset, .unset, .unset, .unset, .unset, .unset, .unset, .unset, .unset, .unset, .unset, .unset, .unset] [(.int p3)])) (fun _ kont => XS.iloadN X103.here hx rfl (hb hby at_47) rfl kont) ?_
    refine own_st (S' := T103.setTop (mkF m 49 #[.val (.int p1), .val (.int p2), .val (.int p3), .val (.long p4), .second, .val (.int p5), .val (.int p6), .val (.int k), .val (.int mm), .val (.ref a102), .val (.int dd), .unset, .unset, .unset, .unset, .unset, .unset, .unset, .unset, .unset, .unset, .unset, .unset, .unset, .unset] [(.int (3 : Int32)), (.int p3)])) (fun _ kont => XS.iconst X103.here hx rfl (hb hby at_48) kont) ?_
    refine own_st (S' := T103.setTop (mkF m 50 #[.val (.int p1), .val (.int p2), .val (.int p3), .val (.long p4), .second, .val (.int p5), .val (.int p6), .val (.int k), .val (.int mm), .val (.ref a102), .val (.int dd), .unset, .unset, .unset, .unset, .unset, .unset, .unset, .unset, .unset, .unset, .unset, .unset, .unset, .unset] [(.int (p3 &&& (3 : Int32)))])) (fun _ kont => XS.iand X103.here hx rfl (hb hby at_49) rfl kont) ?_
    obtain ⟨md, hv_md⟩ : ∃ z : Int32, z = (p3 &&& (3 : Int32)) := ⟨_, rfl⟩
    refine own_cv (congrArg (fun z => T103.setTop (mkF m 50 #[.val (.int p1), .val (.int p2), .val (.int p3), .val (.long p4), .second, .val (.int p5), .val (.int p6), .val (.int k), .val (.int mm), .val (.ref a102), .val (.int dd), .unset, .unset, .unset, .unset, .unset, .unset, .unset, .unset, .unset, .unset, .unset, .unset, .unset, .unset] [(.int z)])) hv_md.symm) ?_
    show own_Go p.tables e below _ (T103.setTop (mkF m 50 #[.val (.int p1), .val (.int p2), .val (.int p3), .val (.long p4), .second, .val (.int p5), .val (.int p6), .val (.int k), .val (.int mm), .val (.ref a102), .val (.int dd), .unset, .unset, .unset, .unset, .unset, .unset, .unset, .unset, .unset, .unset, .unset, .unset, .unset, .unset] [(.int md)]))
    refine own_st (S' := T103.setTop (mkF m 52 #[.val (.int p1), .val (.int p2), .val (.int p3), .val (.long p4), .second, .val (.int p5), .val (.int p6), .val (.int k), .val (.int mm), .val (.ref a102), .val (.int dd), .val (.int md), .unset, .unset, .unset, .unset, .unset, .unset, .unset, .unset, .unset, .unset, .unset, .unset, .unset] [])) (fun _ kont => XS.istore X103.here hx rfl (hb hby at_50) rfl (l' := #[.val (.int p1), .val (.int p2), .val (.int p3), .val (.long p4), .second, .val (.int p5), .val (.int p6), .val (.int k), .val (.int mm), .val (.ref a102), .val (.int dd), .val (.int md), .unset, .unset, .unset, .unset, .unset, .unset, .unset, .unset, .unset, .unset, .unset, .unset, .unset]) rfl kont) ?_
    refine own_join (fun sp : Int64 => T103.setTop (mkF m 87 #[.val (.int p1), .val (.int p2), .val (.int p3), .val (.long p4), .second, .val (.int p5), .val (.int p6), .val (.int k), .val (.int mm), .val (.ref a102), .val (.int dd), .val (.int md), .val (.long sp), .second, .unset, .unset, .unset, .unset, .unset, .unset, .unset, .unset, .unset, .unset, .unset] [])) (fun sp => ?_) (fun fin => ?_)
    · skip
      show own_Go p.tables e below _ (T103.setTop (mkF m 87 #[.val (.int p1), .val (.int p2), .val (.int p3), .val (.long p4), .second, .val (.int p5), .val (.int p6), .val (.int k), .val (.int mm), .val (.ref a102), .val (.int dd), .val (.int md), .val (.long sp), .second, .unset, .unset, .unset, .unset, .unset, .unset, .unset, .unset, .unset, .unset, .unset] []))
      have seg : ∀ P : State → Outcome → Prop, own_Go p.tables e below P (T103.setTop (mkF m 120 #[.val (.int p1), .val (.int p2), .val (.int p3), .val (.long p4), .second, .val (.int p5), .val (.int p6), .val (.int k), .val (.int mm), .val (.ref a102), .val (.int dd), .val (.int md), .val (.long sp), .second, .val (.int (own_b (0 < Int64.toInt sp ∧ Int64.toInt sp < Int32.toInt k))), .unset, .unset, .unset, .unset, .unset, .unset, .unset, .unset, .unset, .unset] [])) → own_Go p.tables e below P (T103.setTop (mkF m 87 #[.val (.int p1), .val (.int p2), .val (.int p3), .val (.long p4), .second, .val (.int p5), .val (.int p6), .val (.int k), .val (.int mm), .val (.ref a102), .val (.int dd), .val (.int md), .val (.long sp), .second, .unset, .unset, .unset, .unset, .unset, .unset, .unset, .unset, .unset, .unset, .unset] [])) := by
        intro P kk
        refine own_st (S' := T103.setTop (mkF m 89 #[.val (.int p1), .val (.int p2), .val (.int p3), .val (.long p4), .second, .val (.int p5), .val (.int p6), .val (.int k), .val (.int mm), .val (.ref a102), .val (.int dd), .val (.int md), .val (.long sp), .second, .unset, .unset, .unset, .unset, .unset, .unset, .unset, .unset, .unset, .unset, .unset] [(.long sp)])) (fun _ kont => XT.lload X103.here hx rfl (hb hby at_87) rfl kont) ?_
        refine own_st (S' := T103.setTop (mkF m 90 #[.val (.int p1), .val (.int p2), .val (.int p3), .val (.long p4), .second, .val (.int p5), .val (.int p6), .val (.int k), .val (.int mm), .val (.ref a102), .val (.int dd), .val (.int md), .val (.long sp), .second, .unset, .unset, .unset, .unset, .unset, .unset, .unset, .unset, .unset, .unset, .unset] [(.long (1 : Int64)), (.long sp)])) (fun _ kont => XT.lconst X103.here hx rfl (hb hby at_89) kont) ?_
        refine own_st (S' := T103.setTop (mkF m 91 #[.val (.int p1), .val (.int p2), .val (.int p3), .val (.long p4), .second, .val (.int p5), .val (.int p6), .val (.int k), .val (.int mm), .val (.ref a102), .val (.int dd), .val (.int md), .val (.long sp), .second, .unset, .unset, .unset, .unset, .unset, .unset, .unset, .unset, .unset, .unset, .unset] [(.int (XT.cmpL sp (1 : Int64)))])) (fun _ kont => XT.lcmp X103.here hx rfl (hb hby at_90) rfl kont) ?_
        by_cases hce91 : Int64.toInt sp ≥ 1
        · skip
          refine own_st (S' := T103.setTop (mkF m 100 #[.val (.int p1), .val (.int p2), .val (.int p3), .val (.long p4), .second, .val (.int p5), .val (.int p6), .val (.int k), .val (.int mm), .val (.ref a102), .val (.int dd), .val (.int md), .val (.long sp), .second, .unset, .unset, .unset, .unset, .unset, .unset, .unset, .unset, .unset, .unset, .unset] [])) (fun _ kont => XS.ifYes X103.here hx rfl (pc0 := 91) (pc' := 100) rfl (hb hby at_91) rfl ((own_l_ge _ _).trans (decide_eq_true (p := Int64.toInt sp ≥ 1) (hce91))) (by decide) (by decide) kont) ?_
          refine own_st (S' := T103.setTop (mkF m 102 #[.val (.int p1), .val (.int p2), .val (.int p3), .val (.long p4), .second, .val (.int p5), .val (.int p6), .val (.int k), .val (.int mm), .val (.ref a102), .val (.int dd), .val (.int md), .val (.long sp), .second, .unset, .unset, .unset, .unset, .unset, .unset, .unset, .unset, .unset, .unset, .unset] [(.long sp)])) (fun _ kont => XT.lload X103.here hx rfl (hb hby at_100) rfl kont) ?_
          refine own_st (S' := T103.setTop (mkF m 104 #[.val (.int p1), .val (.int p2), .val (.int p3), .val (.long p4), .second, .val (.int p5), .val (.int p6), .val (.int k), .val (.int mm), .val (.ref a102), .val (.int dd), .val (.int md), .val (.long sp), .second, .unset, .unset, .unset, .unset, .unset, .unset, .unset, .unset, .unset, .unset, .unset] [(.int k), (.long sp)])) (fun _ kont => XS.iload X103.here hx rfl (hb hby at_102) rfl kont) ?_
          refine own_st (S' := T103.setTop (mkF m 105 #[.val (.int p1), .val (.int p2), .val (.int p3), .val (.long p4), .second, .val (.int p5), .val (.int p6), .val (.int k), .val (.int mm), .val (.ref a102), .val (.int dd), .val (.int md), .val (.long sp), .second, .unset, .unset, .unset, .unset, .unset, .unset, .unset, .unset, .unset, .unset, .unset] [(.long (Int32.toInt64 k)), (.long sp)])) (fun _ kont => XT.i2l X103.here hx rfl (hb hby at_104) rfl kont) ?_
          refine own_st (S' := T103.setTop (mkF m 106 #[.val (.int p1), .val (.int p2), .val (.int p3), .val (.long p4), .second, .val (.int p5), .val (.int p6), .val (.int k), .val (.int mm), .val (.ref a102), .val (.int dd), .val (.int md), .val (.long sp), .second, .unset, .unset, .unset, .unset, .unset, .unset, .unset, .unset, .unset, .unset, .unset] [(.long (1 : Int64)), (.long (Int32.toInt64 k)), (.long sp)])) (fun _ kont => XT.lconst X103.here hx rfl (hb hby at_105) kont) ?_
          refine own_st (S' := T103.setTop (mkF m 107 #[.val (.int p1), .val (.int p2), .val (.int p3), .val (.long p4), .second, .val (.int p5), .val (.int p6), .val (.int k), .val (.int mm), .val (.ref a102), .val (.int dd), .val (.int md), .val (.long sp), .second, .unset, .unset, .unset, .unset, .unset, .unset, .unset, .unset, .unset, .unset, .unset] [(.long ((Int32.toInt64 k) - (1 : Int64))), (.long sp)])) (fun _ kont => XT.lsub X103.here hx rfl (hb hby at_106) rfl kont) ?_
          refine own_st (S' := T103.setTop (mkF m 108 #[.val (.int p1), .val (.int p2), .val (.int p3), .val (.long p4), .second, .val (.int p5), .val (.int p6), .val (.int k), .val (.int mm), .val (.ref a102), .val (.int dd), .val (.int md), .val (.long sp), .second, .unset, .unset, .unset, .unset, .unset, .unset, .unset, .unset, .unset, .unset, .unset] [(.int (XT.cmpL sp ((Int32.toInt64 k) - (1 : Int64))))])) (fun _ kont => XT.lcmp X103.here hx rfl (hb hby at_107) rfl kont) ?_
          by_cases hce108 : Int64.toInt sp ≤ Int64.toInt ((Int32.toInt64 k) - (1 : Int64))
          · skip
            refine own_st (S' := T103.setTop (mkF m 117 #[.val (.int p1), .val (.int p2), .val (.int p3), .val (.long p4), .second, .val (.int p5), .val (.int p6), .val (.int k), .val (.int mm), .val (.ref a102), .val (.int dd), .val (.int md), .val (.long sp), .second, .unset, .unset, .unset, .unset, .unset, .unset, .unset, .unset, .unset, .unset, .unset] [])) (fun _ kont => XS.ifYes X103.here hx rfl (pc0 := 108) (pc' := 117) rfl (hb hby at_108) rfl ((own_l_le _ _).trans (decide_eq_true (p := Int64.toInt sp ≤ Int64.toInt ((Int32.toInt64 k) - (1 : Int64))) (hce108))) (by decide) (by decide) kont) ?_
            refine own_st (S' := T103.setTop (mkF m 118 #[.val (.int p1), .val (.int p2), .val (.int p3), .val (.long p4), .second, .val (.int p5), .val (.int p6), .val (.int k), .val (.int mm), .val (.ref a102), .val (.int dd), .val (.int md), .val (.long sp), .second, .unset, .unset, .unset, .unset, .unset, .unset, .unset, .unset, .unset, .unset, .unset] [(.int (1 : Int32))])) (fun _ kont => XS.iconst X103.here hx rfl (hb hby at_117) kont) ?_
            refine own_st (S' := T103.setTop (mkF m 120 #[.val (.int p1), .val (.int p2), .val (.int p3), .val (.long p4), .second, .val (.int p5), .val (.int p6), .val (.int k), .val (.int mm), .val (.ref a102), .val (.int dd), .val (.int md), .val (.long sp), .second, .val (.int (1 : Int32)), .unset, .unset, .unset, .unset, .unset, .unset, .unset, .unset, .unset, .unset] [])) (fun _ kont => XS.istore X103.here hx rfl (hb hby at_118) rfl (l' := #[.val (.int p1), .val (.int p2), .val (.int p3), .val (.long p4), .second, .val (.int p5), .val (.int p6), .val (.int k), .val (.int mm), .val (.ref a102), .val (.int dd), .val (.int md), .val (.long sp), .second, .val (.int (1 : Int32)), .unset, .unset, .unset, .unset, .unset, .unset, .unset, .unset, .unset, .unset]) rfl kont) ?_
            have tq104 : (1 : Int32) = (own_b (0 < Int64.toInt sp ∧ Int64.toInt sp < Int32.toInt k)) := (own_b1 (by omega)).symm
            refine own_cv (congrArg (fun z => T103.setTop (mkF m 120 #[.val (.int p1), .val (.int p2), .val (.int p3), .val (.long p4), .second, .val (.int p5), .val (.int p6), .val (.int k), .val (.int mm), .val (.ref a102), .val (.int dd), .val (.int md), .val (.long sp), .second, .val (.int z), .unset, .unset, .unset, .unset, .unset, .unset, .unset, .unset, .unset, .unset] [])) tq104) ?_
            show own_Go p.tables e below _ (T103.setTop (mkF m 120 #[.val (.int p1), .val (.int p2), .val (.int p3), .val (.long p4), .second, .val (.int p5), .val (.int p6), .val (.int k), .val (.int mm), .val (.ref a102), .val (.int dd), .val (.int md), .val (.long sp), .second, .val (.int (own_b (0 < Int64.toInt sp ∧ Int64.toInt sp < Int32.toInt k))), .unset, .unset, .unset, .unset, .unset, .unset, .unset, .unset, .unset, .unset] []))
            exact kk
          · skip
            refine own_st (S' := T103.setTop (mkF m 111 #[.val (.int p1), .val (.int p2), .val (.int p3), .val (.long p4), .second, .val (.int p5), .val (.int p6), .val (.int k), .val (.int mm), .val (.ref a102), .val (.int dd), .val (.int md), .val (.long sp), .second, .unset, .unset, .unset, .unset, .unset, .unset, .unset, .unset, .unset, .unset, .unset] [])) (fun _ kont => XS.ifNo X103.here hx rfl (hb hby at_108) rfl ((own_l_le _ _).trans (decide_eq_false (p := Int64.toInt sp ≤ Int64.toInt ((Int32.toInt64 k) - (1 : Int64))) (hce108))) kont) ?_
            refine own_st (S' := T103.setTop (mkF m 112 #[.val (.int p1), .val (.int p2), .val (.int p3), .val (.long p4), .second, .val (.int p5), .val (.int p6), .val (.int k), .val (.int mm), .val (.ref a102), .val (.int dd), .val (.int md), .val (.long sp), .second, .unset, .unset, .unset, .unset, .unset, .unset, .unset, .unset, .unset, .unset, .unset] [(.int (0 : Int32))])) (fun _ kont => XS.iconst X103.here hx rfl (hb hby at_111) kont) ?_
            refine own_st (S' := T103.setTop (mkF m 114 #[.val (.int p1), .val (.int p2), .val (.int p3), .val (.long p4), .second, .val (.int p5), .val (.int p6), .val (.int k), .val (.int mm), .val (.ref a102), .val (.int dd), .val (.int md), .val (.long sp), .second, .val (.int (0 : Int32)), .unset, .unset, .unset, .unset, .unset, .unset, .unset, .unset, .unset, .unset] [])) (fun _ kont => XS.istore X103.here hx rfl (hb hby at_112) rfl (l' := #[.val (.int p1), .val (.int p2), .val (.int p3), .val (.long p4), .second, .val (.int p5), .val (.int p6), .val (.int k), .val (.int mm), .val (.ref a102), .val (.int dd), .val (.int md), .val (.long sp), .second, .val (.int (0 : Int32)), .unset, .unset, .unset, .unset, .unset, .unset, .unset, .unset, .unset, .unset]) rfl kont) ?_
            refine own_st (S' := T103.setTop (mkF m 120 #[.val (.int p1), .val (.int p2), .val (.int p3), .val (.long p4), .second, .val (.int p5), .val (.int p6), .val (.int k), .val (.int mm), .val (.ref a102), .val (.int dd), .val (.int md), .val (.long sp), .second, .val (.int (0 : Int32)), .unset, .unset, .unset, .unset, .unset, .unset, .unset, .unset, .unset, .unset] [])) (fun _ kont => XS.goto X103.here hx rfl (pc0 := 114) (pc' := 120) rfl (hb hby at_114) (by decide) (by decide) kont) ?_
            have tq105 : (0 : Int32) = (own_b (0 < Int64.toInt sp ∧ Int64.toInt sp < Int32.toInt k)) := (own_b0 (by omega)).symm
            refine own_cv (congrArg (fun z => T103.setTop (mkF m 120 #[.val (.int p1), .val (.int p2), .val (.int p3), .val (.long p4), .second, .val (.int p5), .val (.int p6), .val (.int k), .val (.int mm), .val (.ref a102), .val (.int dd), .val (.int md), .val (.long sp), .second, .val (.int z), .unset, .unset, .unset, .unset, .unset, .unset, .unset, .unset, .unset, .unset] [])) tq105) ?_
            show own_Go p.tables e below _ (T103.setTop (mkF m 120 #[.val (.int p1), .val (.int p2), .val (.int p3), .val (.long p4), .second, .val (.int p5), .val (.int p6), .val (.int k), .val (.int mm), .val (.ref a102), .val (.int dd), .val (.int md), .val (.long sp), .second, .val (.int (own_b (0 < Int64.toInt sp ∧ Int64.toInt sp < Int32.toInt k))), .unset, .unset, .unset, .unset, .unset, .unset, .unset, .unset, .unset, .unset] []))
            exact kk
        · skip
          refine own_st (S' := T103.setTop (mkF m 94 #[.val (.int p1), .val (.int p2), .val (.int p3), .val (.long p4), .second, .val (.int p5), .val (.int p6), .val (.int k), .val (.int mm), .val (.ref a102), .val (.int dd), .val (.int md), .val (.long sp), .second, .unset, .unset, .unset, .unset, .unset, .unset, .unset, .unset, .unset, .unset, .unset] [])) (fun _ kont => XS.ifNo X103.here hx rfl (hb hby at_91) rfl ((own_l_ge _ _).trans (decide_eq_false (p := Int64.toInt sp ≥ 1) (hce91))) kont) ?_
          refine own_st (S' := T103.setTop (mkF m 95 #[.val (.int p1), .val (.int p2), .val (.int p3), .val (.long p4), .second, .val (.int p5), .val (.int p6), .val (.int k), .val (.int mm), .val (.ref a102), .val (.int dd), .val (.int md), .val (.long sp), .second, .unset, .unset, .unset, .unset, .unset, .unset, .unset, .unset, .unset, .unset, .unset] [(.int (0 : Int32))])) (fun _ kont => XS.iconst X103.here hx rfl (hb hby at_94) kont) ?_
          refine own_st (S' := T103.setTop (mkF m 97 #[.val (.int p1), .val (.int p2), .val (.int p3), .val (.long p4), .second, .val (.int p5), .val (.int p6), .val (.int k), .val (.int mm), .val (.ref a102), .val (.int dd), .val (.int md), .val (.long sp), .second, .val (.int (0 : Int32)), .unset, .unset, .unset, .unset, .unset, .unset, .unset, .unset, .unset, .unset] [])) (fun _ kont => XS.istore X103.here hx rfl (hb hby at_95) rfl (l' := #[.val (.int p1), .val (.int p2), .val (.int p3), .val (.long p4), .second, .val (.int p5), .val (.int p6), .val (.int k), .val (.int mm), .val (.ref a102), .val (.int dd), .val (.int md), .val (.long sp), .second, .val (.int (0 : Int32)), .unset, .unset, .unset, .unset, .unset, .unset, .unset, .unset, .unset, .unset]) rfl kont) ?_
          refine own_st (S' := T103.setTop (mkF m 120 #[.val (.int p1), .val (.int p2), .val (.int p3), .val (.long p4), .second, .val (.int p5), .val (.int p6), .val (.int k), .val (.int mm), .val (.ref a102), .val (.int dd), .val (.int md), .val (.long sp), .second, .val (.int (0 : Int32)), .unset, .unset, .unset, .unset, .unset, .unset, .unset, .unset, .unset, .unset] [])) (fun _ kont => XS.goto X103.here hx rfl (pc0 := 97) (pc' := 120) rfl (hb hby at_97) (by decide) (by decide) kont) ?_
          have tq106 : (0 : Int32) = (own_b (0 < Int64.toInt sp ∧ Int64.toInt sp < Int32.toInt k)) := (own_b0 (by omega)).symm
          refine own_cv (congrArg (fun z => T103.setTop (mkF m 120 #[.val (.int p1), .val (.int p2), .val (.int p3), .val (.long p4), .second, .val (.int p5), .val (.int p6), .val (.int k), .val (.int mm), .val (.ref a102), .val (.int dd), .val (.int md), .val (.long sp), .second, .val (.int z), .unset, .unset, .unset, .unset, .unset, .unset, .unset, .unset, .unset, .unset] [])) tq106) ?_
          show own_Go p.tables e below _ (T103.setTop (mkF m 120 #[.val (.int p1), .val (.int p2), .val (.int p3), .val (.long p4), .second, .val (.int p5), .val (.int p6), .val (.int k), .val (.int mm), .val (.ref a102), .val (.int dd), .val (.int md), .val (.long sp), .second, .val (.int (own_b (0 < Int64.toInt sp ∧ Int64.toInt sp < Int32.toInt k))), .unset, .unset, .unset, .unset, .unset, .unset, .unset, .unset, .unset, .unset] []))
          exact kk
      refine seg _ ?_
      refine own_st (S' := T103.setTop (mkF m 122 #[.val (.int p1), .val (.int p2), .val (.int p3), .val (.long p4), .second, .val (.int p5), .val (.int p6), .val (.int k), .val (.int mm), .val (.ref a102), .val (.int dd), .val (.int md), .val (.long sp), .second, .val (.int (own_b (0 < Int64.toInt sp ∧ Int64.toInt sp < Int32.toInt k))), .unset, .unset, .unset, .unset, .unset, .unset, .unset, .unset, .unset, .unset] [(.ref a102)])) (fun _ kont => XS.aload X103.here hx rfl (hb hby at_120) rfl rfl kont) ?_
      refine own_st (S' := T103.setTop (mkF m 124 #[.val (.int p1), .val (.int p2), .val (.int p3), .val (.long p4), .second, .val (.int p5), .val (.int p6), .val (.int k), .val (.int mm), .val (.ref a102), .val (.int dd), .val (.int md), .val (.long sp), .second, .val (.int (own_b (0 < Int64.toInt sp ∧ Int64.toInt sp < Int32.toInt k))), .unset, .unset, .unset, .unset, .unset, .unset, .unset, .unset, .unset, .unset] [(.long sp), (.ref a102)])) (fun _ kont => XT.lload X103.here hx rfl (hb hby at_122) rfl kont) ?_
      obtain ⟨cq107, kq107, q107a, q107b, q107c⟩ := isOf hZ rfl Ex103
      obtain ⟨_, _, ⟨T107, L107, k107, n107⟩, -, X107, ⟨Lc107, hQ107, l107, y107, z107⟩, st107⟩ := X103.virtualBack hx (y := (⟨"com/example/mingle/mingle/KmAnonymity", "threatens", "(J)Z"⟩ : MethodName)) (z := (⟨"com/example/mingle/mingle/KmAnonymity", "threatens", "(J)Z"⟩ : MethodName)) hown (mvT hZ (hw _ (List.mem_of_getElem? (i := 18) rfl))) (mvT hZ (hw _ (List.mem_of_getElem? (i := 19) rfl))) (notFace_of_selects (args := #[]) (mvT hZ (hw _ (List.mem_of_getElem? (i := 21) rfl)))) (mvT hZ (hw _ (List.mem_of_getElem? (i := 21) rfl))) (mvT hZ (hw _ (List.mem_of_getElem? (i := 20) rfl))) (by decide) (backOf (W := 0) (rmT l Z a0 hw [] a102 sp k T103.heap n0 Zk Fk103) hZ (hw _ (List.mem_of_getElem? (i := 22) rfl)) (hw _ (List.mem_of_getElem? (i := 7) rfl)) (by decide) (by decide)) q107a q107c (g := (mkF m 124 #[.val (.int p1), .val (.int p2), .val (.int p3), .val (.long p4), .second, .val (.int p5), .val (.int p6), .val (.int k), .val (.int mm), .val (.ref a102), .val (.int dd), .val (.int md), .val (.long sp), .second, .val (.int (own_b (0 < Int64.toInt sp ∧ Int64.toInt sp < Int32.toInt k))), .unset, .unset, .unset, .unset, .unset, .unset, .unset, .unset, .unset, .unset] [(.long sp), (.ref a102)])) rfl (by rw [hml]; rfl) (Steps.refl _) (argsL := [(.long sp)]) (rest := []) (lenOf pd_T rfl) rfl (by show 2 * 0 + _ ≤ _; exact Nat.le_of_eq rfl) (hb hby at_124) (fun _ _ => ⟨rfl, rfl, (by decide : 1 + 0 ≤ _), (by decide : 2 + 0 ≤ _)⟩)
      dsimp only [Pt.U, Pt.locs, Pt.cells, Pt.slots] at X107 l107 y107 z107 st107 hQ107
      subst l107 y107 z107
      obtain ⟨rfl, N107, hh107⟩ := hQ107
      refine own_tr (S' := T107.setTop (mkF m 127 #[.val (.int p1), .val (.int p2), .val (.int p3), .val (.long p4), .second, .val (.int p5), .val (.int p6), .val (.int k), .val (.int mm), .val (.ref a102), .val (.int dd), .val (.int md), .val (.long sp), .second, .val (.int (own_b (0 < Int64.toInt sp ∧ Int64.toInt sp < Int32.toInt k))), .unset, .unset, .unset, .unset, .unset, .unset, .unset, .unset, .unset, .unset] [(.int (own_b (0 < Int64.toInt sp ∧ Int64.toInt sp < Int32.toInt k)))])) st107 ?_
      have Na := Fr.app Nf N107
      refine own_st (S' := T107.setTop (mkF m 129 #[.val (.int p1), .val (.int p2), .val (.int p3), .val (.long p4), .second, .val (.int p5), .val (.int p6), .val (.int k), .val (.int mm), .val (.ref a102), .val (.int dd), .val (.int md), .val (.long sp), .second, .val (.int (own_b (0 < Int64.toInt sp ∧ Int64.toInt sp < Int32.toInt k))), .val (.int (own_b (0 < Int64.toInt sp ∧ Int64.toInt sp < Int32.toInt k))), .unset, .unset, .unset, .unset, .unset, .unset, .unset, .unset, .unset] [])) (fun _ kont => XS.istore X107.here hx rfl (hb hby at_127) rfl (l' := #[.val (.int p1), .val (.int p2), .val (.int p3), .val (.long p4), .second, .val (.int p5), .val (.int p6), .val (.int k), .val (.int mm), .val (.ref a102), .val (.int dd), .val (.int md), .val (.long sp), .second, .val (.int (own_b (0 < Int64.toInt sp ∧ Int64.toInt sp < Int32.toInt k))), .val (.int (own_b (0 < Int64.toInt sp ∧ Int64.toInt sp < Int32.toInt k))), .unset, .unset, .unset, .unset, .unset, .unset, .unset, .unset, .unset]) rfl kont) ?_
      refine own_st (S' := T107.setTop (mkF m 131 #[.val (.int p1), .val (.int p2), .val (.int p3), .val (.long p4), .second, .val (.int p5), .val (.int p6), .val (.int k), .val (.int mm), .val (.ref a102), .val (.int dd), .val (.int md), .val (.long sp), .second, .val (.int (own_b (0 < Int64.toInt sp ∧ Int64.toInt sp < Int32.toInt k))), .val (.int (own_b (0 < Int64.toInt sp ∧ Int64.toInt sp < Int32.toInt k))), .unset, .unset, .unset, .unset, .unset, .unset, .unset, .unset, .unset] [(.int p6)])) (fun _ kont => XS.iload X107.here hx rfl (hb hby at_129) rfl kont) ?_
      refine own_st (S' := T107.setTop (mkF m 133 #[.val (.int p1), .val (.int p2), .val (.int p3), .val (.long p4), .second, .val (.int p5), .val (.int p6), .val (.int k), .val (.int mm), .val (.ref a102), .val (.int dd), .val (.int md), .val (.long sp), .second, .val (.int (own_b (0 < Int64.toInt sp ∧ Int64.toInt sp < Int32.toInt k))), .val (.int (own_b (0 < Int64.toInt sp ∧ Int64.toInt sp < Int32.toInt k))), .unset, .unset, .unset, .unset, .unset, .unset, .unset, .unset, .unset] [(.int (127 : Int32)), (.int p6)])) (fun _ kont => XS.bipush X107.here hx rfl (hb hby at_131) kont) ?_
      refine own_st (S' := T107.setTop (mkF m 134 #[.val (.int p1), .val (.int p2), .val (.int p3), .val (.long p4), .second, .val (.int p5), .val (.int p6), .val (.int k), .val (.int mm), .val (.ref a102), .val (.int dd), .val (.int md), .val (.long sp), .second, .val (.int (own_b (0 < Int64.toInt sp ∧ Int64.toInt sp < Int32.toInt k))), .val (.int (own_b (0 < Int64.toInt sp ∧ Int64.toInt sp < Int32.toInt k))), .unset, .unset, .unset, .unset, .unset, .unset, .unset, .unset, .unset] [(.int (p6 &&& (127 : Int32)))])) (fun _ kont => XS.iand X107.here hx rfl (hb hby at_133) rfl kont) ?_
      obtain ⟨t, hv_t⟩ : ∃ z : Int32, z = (p6 &&& (127 : Int32)) := ⟨_, rfl⟩
      refine own_cv (congrArg (fun z => T107.setTop (mkF m 134 #[.val (.int p1), .val (.int p2), .val (.int p3), .val (.long p4), .second, .val (.int p5), .val (.int p6), .val (.int k), .val (.int mm), .val (.ref a102), .val (.int dd), .val (.int md), .val (.long sp), .second, .val (.int (own_b (0 < Int64.toInt sp ∧ Int64.toInt sp < Int32.toInt k))), .val (.int (own_b (0 < Int64.toInt sp ∧ Int64.toInt sp < Int32.toInt k))), .unset, .unset, .unset, .unset, .unset, .unset, .unset, .unset, .unset] [(.int z)])) hv_t.symm) ?_
      show own_Go p.tables e below _ (T107.setTop (mkF m 134 #[.val (.int p1), .val (.int p2), .val (.int p3), .val (.long p4), .second, .val (.int p5), .val (.int p6), .val (.int k), .val (.int mm), .val (.ref a102), .val (.int dd), .val (.int md), .val (.long sp), .second, .val (.int (own_b (0 < Int64.toInt sp ∧ Int64.toInt sp < Int32.toInt k))), .val (.int (own_b (0 < Int64.toInt sp ∧ Int64.toInt sp < Int32.toInt k))), .unset, .unset, .unset, .unset, .unset, .unset, .unset, .unset, .unset] [(.int t)]))
      have ht := Jvm.Kit.i32_mask p6 127 (k := 7) (by decide) (by decide)
      rw [← hv_t] at ht
      have ht64 := Jvm.Kit.i64_of_i32 t
      refine own_st (S' := T107.setTop (mkF m 136 #[.val (.int p1), .val (.int p2), .val (.int p3), .val (.long p4), .second, .val (.int p5), .val (.int p6), .val (.int k), .val (.int mm), .val (.ref a102), .val (.int dd), .val (.int md), .val (.long sp), .second, .val (.int (own_b (0 < Int64.toInt sp ∧ Int64.toInt sp < Int32.toInt k))), .val (.int (own_b (0 < Int64.toInt sp ∧ Int64.toInt sp < Int32.toInt k))), .val (.int t), .unset, .unset, .unset, .unset, .unset, .unset, .unset, .unset] [])) (fun _ kont => XS.istore X107.here hx rfl (hb hby at_134) rfl (l' := #[.val (.int p1), .val (.int p2), .val (.int p3), .val (.long p4), .second, .val (.int p5), .val (.int p6), .val (.int k), .val (.int mm), .val (.ref a102), .val (.int dd), .val (.int md), .val (.long sp), .second, .val (.int (own_b (0 < Int64.toInt sp ∧ Int64.toInt sp < Int32.toInt k))), .val (.int (own_b (0 < Int64.toInt sp ∧ Int64.toInt sp < Int32.toInt k))), .val (.int t), .unset, .unset, .unset, .unset, .unset, .unset, .unset, .unset]) rfl kont) ?_
      refine own_join (fun x : {x : Int64 × Int64 // Int64.toInt (own_sum x.1 x.2) = Int32.toInt t} => T107.setTop (mkF m 173 #[.val (.int p1), .val (.int p2), .val (.int p3), .val (.long p4), .second, .val (.int p5), .val (.int p6), .val (.int k), .val (.int mm), .val (.ref a102), .val (.int dd), .val (.int md), .val (.long sp), .second, .val (.int (own_b (0 < Int64.toInt sp ∧ Int64.toInt sp < Int32.toInt k))), .val (.int (own_b (0 < Int64.toInt sp ∧ Int64.toInt sp < Int32.toInt k))), .val (.int t), .val (.long x.1.1), .second, .val (.long x.1.2), .second, .unset, .unset, .unset, .unset] [])) (fun x => ?_) (fun fin3 => ?_)
      · skip
        obtain ⟨⟨w0, w1⟩, hs⟩ := x
        try dsimp only at hs
        show own_Go p.tables e below _ (T107.setTop (mkF m 173 #[.val (.int p1), .val (.int p2), .val (.int p3), .val (.long p4), .second, .val (.int p5), .val (.int p6), .val (.int k), .val (.int mm), .val (.ref a102), .val (.int dd), .val (.int md), .val (.long sp), .second, .val (.int (own_b (0 < Int64.toInt sp ∧ Int64.toInt sp < Int32.toInt k))), .val (.int (own_b (0 < Int64.toInt sp ∧ Int64.toInt sp < Int32.toInt k))), .val (.int t), .val (.long w0), .second, .val (.long w1), .second, .unset, .unset, .unset, .unset] []))
        refine own_st (S' := T107.setTop (mkF m 174 #[.val (.int p1), .val (.int p2), .val (.int p3), .val (.long p4), .second, .val (.int p5), .val (.int p6), .val (.int k), .val (.int mm), .val (.ref a102), .val (.int dd), .val (.int md), .val (.long sp), .second, .val (.int (own_b (0 < Int64.toInt sp ∧ Int64.toInt sp < Int32.toInt k))), .val (.int (own_b (0 < Int64.toInt sp ∧ Int64.toInt sp < Int32.toInt k))), .val (.int t), .val (.long w0), .second, .val (.long w1), .second, .unset, .unset, .unset, .unset] [(.int (2 : Int32))])) (fun _ kont => XS.iconst X107.here hx rfl (hb hby at_173) kont) ?_
        obtain ⟨T108, h108, cA108, X108, e108, E108, A108, st108⟩ := newP X107 hx hZ (hw _ (List.mem_of_getElem? (i := 23) rfl)) hh107 (g := (mkF m 174 #[.val (.int p1), .val (.int p2), .val (.int p3), .val (.long p4), .second, .val (.int p5), .val (.int p6), .val (.int k), .val (.int mm), .val (.ref a102), .val (.int dd), .val (.int md), .val (.long sp), .second, .val (.int (own_b (0 < Int64.toInt sp ∧ Int64.toInt sp < Int32.toInt k))), .val (.int (own_b (0 < Int64.toInt sp ∧ Int64.toInt sp < Int32.toInt k))), .val (.int t), .val (.long w0), .second, .val (.long w1), .second, .unset, .unset, .unset, .unset] [(.int (2 : Int32))])) rfl (hb hby at_174) rfl (by decide) (cap := 2) (by decide) (by decide) (by decide : 1 + 0 + 1 ≤ _) (by decide : 2 + 0 + 2 ≤ _)
        obtain ⟨a108, ga108⟩ : ∃ z, z = T103.heap.size := ⟨_, rfl⟩
        rw [← ga108] at A108 st108
        refine own_st (S' := T108.setTop (mkF m 176 #[.val (.int p1), .val (.int p2), .val (.int p3), .val (.long p4), .second, .val (.int p5), .val (.int p6), .val (.int k), .val (.int mm), .val (.ref a102), .val (.int dd), .val (.int md), .val (.long sp), .second, .val (.int (own_b (0 < Int64.toInt sp ∧ Int64.toInt sp < Int32.toInt k))), .val (.int (own_b (0 < Int64.toInt sp ∧ Int64.toInt sp < Int32.toInt k))), .val (.int t), .val (.long w0), .second, .val (.long w1), .second, .unset, .unset, .unset, .unset] [(.ref a108)])) st108 ?_
        have V0 : own_L Z h108 a108 0 0 := own_L.new A108
        have geB : n0 ≤ a108 := by rw [ga108]; exact Zk
        have Fkb := Fld.ext E108 Fk103
        have Exb := Exa.ext E108 Ex103
        have neB : a102 ≠ a108 := by rw [ga108]; exact Nat.ne_of_lt Ex103.lt
        refine own_st (S' := T108.setTop (mkF m 177 #[.val (.int p1), .val (.int p2), .val (.int p3), .val (.long p4), .second, .val (.int p5), .val (.int p6), .val (.int k), .val (.int mm), .val (.ref a102), .val (.int dd), .val (.int md), .val (.long sp), .second, .val (.int (own_b (0 < Int64.toInt sp ∧ Int64.toInt sp < Int32.toInt k))), .val (.int (own_b (0 < Int64.toInt sp ∧ Int64.toInt sp < Int32.toInt k))), .val (.int t), .val (.long w0), .second, .val (.long w1), .second, .unset, .unset, .unset, .unset] [(.ref a108), (.ref a108)])) (fun _ kont => XS.dup X108.here hx rfl (hb hby at_176) rfl rfl kont) ?_
        refine own_st (S' := T108.setTop (mkF m 178 #[.val (.int p1), .val (.int p2), .val (.int p3), .val (.long p4), .second, .val (.int p5), .val (.int p6), .val (.int k), .val (.int mm), .val (.ref a102), .val (.int dd), .val (.int md), .val (.long sp), .second, .val (.int (own_b (0 < Int64.toInt sp ∧ Int64.toInt sp < Int32.toInt k))), .val (.int (own_b (0 < Int64.toInt sp ∧ Int64.toInt sp < Int32.toInt k))), .val (.int t), .val (.long w0), .second, .val (.long w1), .second, .unset, .unset, .unset, .unset] [(.int (0 : Int32)), (.ref a108), (.ref a108)])) (fun _ kont => XS.iconst X108.here hx rfl (hb hby at_177) kont) ?_
        refine own_st (S' := T108.setTop (mkF m 180 #[.val (.int p1), .val (.int p2), .val (.int p3), .val (.long p4), .second, .val (.int p5), .val (.int p6), .val (.int k), .val (.int mm), .val (.ref a102), .val (.int dd), .val (.int md), .val (.long sp), .second, .val (.int (own_b (0 < Int64.toInt sp ∧ Int64.toInt sp < Int32.toInt k))), .val (.int (own_b (0 < Int64.toInt sp ∧ Int64.toInt sp < Int32.toInt k))), .val (.int t), .val (.long w0), .second, .val (.long w1), .second, .unset, .unset, .unset, .unset] [(.long w0), (.int (0 : Int32)), (.ref a108), (.ref a108)])) (fun _ kont => XT.lload X108.here hx rfl (hb hby at_178) rfl kont) ?_
        obtain ⟨cl109, Ar109, S109, H109a, H109b⟩ := id V0
        obtain ⟨T109, h109, X109, e109, W109, st109⟩ := stJ X108 hx hZ e108 Ar109 (by rw [S109]; decide) (g := (mkF m 180 #[.val (.int p1), .val (.int p2), .val (.int p3), .val (.long p4), .second, .val (.int p5), .val (.int p6), .val (.int k), .val (.int mm), .val (.ref a102), .val (.int dd), .val (.int md), .val (.long sp), .second, .val (.int (own_b (0 < Int64.toInt sp ∧ Int64.toInt sp < Int32.toInt k))), .val (.int (own_b (0 < Int64.toInt sp ∧ Int64.toInt sp < Int32.toInt k))), .val (.int t), .val (.long w0), .second, .val (.long w1), .second, .unset, .unset, .unset, .unset] [(.long w0), (.int (0 : Int32)), (.ref a108), (.ref a108)])) rfl rfl (hb hby at_180)
        have V109 := V0.set0 (show Wr _ h109 a108 0 _ from W109)
        have N109 := Fr.snoc X109 Na geB
        have F109 := Fld.other W109 Fkb (Or.inl neB)
        have Ex109 := Exa.wr W109 Exb
        refine own_st (S' := T109.setTop (mkF m 181 #[.val (.int p1), .val (.int p2), .val (.int p3), .val (.long p4), .second, .val (.int p5), .val (.int p6), .val (.int k), .val (.int mm), .val (.ref a102), .val (.int dd), .val (.int md), .val (.long sp), .second, .val (.int (own_b (0 < Int64.toInt sp ∧ Int64.toInt sp < Int32.toInt k))), .val (.int (own_b (0 < Int64.toInt sp ∧ Int64.toInt sp < Int32.toInt k))), .val (.int t), .val (.long w0), .second, .val (.long w1), .second, .unset, .unset, .unset, .unset] [(.ref a108)])) st109 ?_
        refine own_st (S' := T109.setTop (mkF m 182 #[.val (.int p1), .val (.int p2), .val (.int p3), .val (.long p4), .second, .val (.int p5), .val (.int p6), .val (.int k), .val (.int mm), .val (.ref a102), .val (.int dd), .val (.int md), .val (.long sp), .second, .val (.int (own_b (0 < Int64.toInt sp ∧ Int64.toInt sp < Int32.toInt k))), .val (.int (own_b (0 < Int64.toInt sp ∧ Int64.toInt sp < Int32.toInt k))), .val (.int t), .val (.long w0), .second, .val (.long w1), .second, .unset, .unset, .unset, .unset] [(.ref a108), (.ref a108)])) (fun _ kont => XS.dup X109.here hx rfl (hb hby at_181) rfl rfl kont) ?_
        refine own_st (S' := T109.setTop (mkF m 183 #[.val (.int p1), .val (.int p2), .val (.int p3), .val (.long p4), .second, .val (.int p5), .val (.int p6), .val (.int k), .val (.int mm), .val (.ref a102), .val (.int dd), .val (.int md), .val (.long sp), .second, .val (.int (own_b (0 < Int64.toInt sp ∧ Int64.toInt sp < Int32.toInt k))), .val (.int (own_b (0 < Int64.toInt sp ∧ Int64.toInt sp < Int32.toInt k))), .val (.int t), .val (.long w0), .second, .val (.long w1), .second, .unset, .unset, .unset, .unset] [(.int (1 : Int32)), (.ref a108), (.ref a108)])) (fun _ kont => XS.iconst X109.here hx rfl (hb hby at_182) kont) ?_
        refine own_st (S' := T109.setTop (mkF m 185 #[.val (.int p1), .val (.int p2), .val (.int p3), .val (.long p4), .second, .val (.int p5), .val (.int p6), .val (.int k), .val (.int mm), .val (.ref a102), .val (.int dd), .val (.int md), .val (.long sp), .second, .val (.int (own_b (0 < Int64.toInt sp ∧ Int64.toInt sp < Int32.toInt k))), .val (.int (own_b (0 < Int64.toInt sp ∧ Int64.toInt sp < Int32.toInt k))), .val (.int t), .val (.long w0), .second, .val (.long w1), .second, .unset, .unset, .unset, .unset] [(.long w1), (.int (1 : Int32)), (.ref a108), (.ref a108)])) (fun _ kont => XT.lload X109.here hx rfl (hb hby at_183) rfl kont) ?_
        obtain ⟨cl110, Ar110, S110, H110a, H110b⟩ := id V109
        obtain ⟨T110, h110, X110, e110, W110, st110⟩ := stJ X109 hx hZ e109 Ar110 (by rw [S110]; decide) (g := (mkF m 185 #[.val (.int p1), .val (.int p2), .val (.int p3), .val (.long p4), .second, .val (.int p5), .val (.int p6), .val (.int k), .val (.int mm), .val (.ref a102), .val (.int dd), .val (.int md), .val (.long sp), .second, .val (.int (own_b (0 < Int64.toInt sp ∧ Int64.toInt sp < Int32.toInt k))), .val (.int (own_b (0 < Int64.toInt sp ∧ Int64.toInt sp < Int32.toInt k))), .val (.int t), .val (.long w0), .second, .val (.long w1), .second, .unset, .unset, .unset, .unset] [(.long w1), (.int (1 : Int32)), (.ref a108), (.ref a108)])) rfl rfl (hb hby at_185)
        have V110 := V109.set1 (show Wr _ h110 a108 1 _ from W110)
        have N110 := Fr.snoc X110 N109 geB
        have F110 := Fld.other W110 F109 (Or.inl neB)
        have Ex110 := Exa.wr W110 Ex109
        refine own_st (S' := T110.setTop (mkF m 186 #[.val (.int p1), .val (.int p2), .val (.int p3), .val (.long p4), .second, .val (.int p5), .val (.int p6), .val (.int k), .val (.int mm), .val (.ref a102), .val (.int dd), .val (.int md), .val (.long sp), .second, .val (.int (own_b (0 < Int64.toInt sp ∧ Int64.toInt sp < Int32.toInt k))), .val (.int (own_b (0 < Int64.toInt sp ∧ Int64.toInt sp < Int32.toInt k))), .val (.int t), .val (.long w0), .second, .val (.long w1), .second, .unset, .unset, .unset, .unset] [(.ref a108)])) st110 ?_
        have Zb : n0 ≤ h110.size := Nat.le_of_lt (Nat.lt_of_le_of_lt ge Ex110.lt)
        refine own_st (S' := T110.setTop (mkF m 188 #[.val (.int p1), .val (.int p2), .val (.int p3), .val (.long p4), .second, .val (.int p5), .val (.int p6), .val (.int k), .val (.int mm), .val (.ref a102), .val (.int dd), .val (.int md), .val (.long sp), .second, .val (.int (own_b (0 < Int64.toInt sp ∧ Int64.toInt sp < Int32.toInt k))), .val (.int (own_b (0 < Int64.toInt sp ∧ Int64.toInt sp < Int32.toInt k))), .val (.int t), .val (.long w0), .second, .val (.long w1), .second, .val (.ref a108), .unset, .unset, .unset] [])) (fun _ kont => XS.astore X110.here hx rfl (hb hby at_186) rfl rfl (l' := #[.val (.int p1), .val (.int p2), .val (.int p3), .val (.long p4), .second, .val (.int p5), .val (.int p6), .val (.int k), .val (.int mm), .val (.ref a102), .val (.int dd), .val (.int md), .val (.long sp), .second, .val (.int (own_b (0 < Int64.toInt sp ∧ Int64.toInt sp < Int32.toInt k))), .val (.int (own_b (0 < Int64.toInt sp ∧ Int64.toInt sp < Int32.toInt k))), .val (.int t), .val (.long w0), .second, .val (.long w1), .second, .val (.ref a108), .unset, .unset, .unset]) rfl kont) ?_
        refine own_st (S' := T110.setTop (mkF m 190 #[.val (.int p1), .val (.int p2), .val (.int p3), .val (.long p4), .second, .val (.int p5), .val (.int p6), .val (.int k), .val (.int mm), .val (.ref a102), .val (.int dd), .val (.int md), .val (.long sp), .second, .val (.int (own_b (0 < Int64.toInt sp ∧ Int64.toInt sp < Int32.toInt k))), .val (.int (own_b (0 < Int64.toInt sp ∧ Int64.toInt sp < Int32.toInt k))), .val (.int t), .val (.long w0), .second, .val (.long w1), .second, .val (.ref a108), .unset, .unset, .unset] [(.ref a102)])) (fun _ kont => XS.aload X110.here hx rfl (hb hby at_188) rfl rfl kont) ?_
        refine own_st (S' := T110.setTop (mkF m 192 #[.val (.int p1), .val (.int p2), .val (.int p3), .val (.long p4), .second, .val (.int p5), .val (.int p6), .val (.int k), .val (.int mm), .val (.ref a102), .val (.int dd), .val (.int md), .val (.long sp), .second, .val (.int (own_b (0 < Int64.toInt sp ∧ Int64.toInt sp < Int32.toInt k))), .val (.int (own_b (0 < Int64.toInt sp ∧ Int64.toInt sp < Int32.toInt k))), .val (.int t), .val (.long w0), .second, .val (.long w1), .second, .val (.ref a108), .unset, .unset, .unset] [(.ref a108), (.ref a102)])) (fun _ kont => XS.aload X110.here hx rfl (hb hby at_190) rfl rfl kont) ?_
        obtain ⟨cq111, kq111, q111a, q111b, q111c⟩ := isOf hZ e110 Ex110
        obtain ⟨_, _, ⟨T111, L111, k111, n111⟩, -, X111, ⟨Lc111, hQ111, l111, y111, z111⟩, st111⟩ := X110.virtualBack hx (y := (⟨"com/example/mingle/mingle/KmAnonymity", "meets", "([J)Z"⟩ : MethodName)) (z := (⟨"com/example/mingle/mingle/KmAnonymity", "meets", "([J)Z"⟩ : MethodName)) hown (mvT hZ (hw _ (List.mem_of_getElem? (i := 24) rfl))) (mvT hZ (hw _ (List.mem_of_getElem? (i := 25) rfl))) (notFace_of_selects (args := #[]) (mvT hZ (hw _ (List.mem_of_getElem? (i := 27) rfl)))) (mvT hZ (hw _ (List.mem_of_getElem? (i := 27) rfl))) (mvT hZ (hw _ (List.mem_of_getElem? (i := 26) rfl))) (by decide) (backOf (W := 0) (rmE l Z a0 hw [] a102 a108 k w0 w1 h110 n0 Zb F110 V110) hZ (hw _ (List.mem_of_getElem? (i := 28) rfl)) (hw _ (List.mem_of_getElem? (i := 7) rfl)) (by decide) (by decide)) q111a q111c (g := (mkF m 192 #[.val (.int p1), .val (.int p2), .val (.int p3), .val (.long p4), .second, .val (.int p5), .val (.int p6), .val (.int k), .val (.int mm), .val (.ref a102), .val (.int dd), .val (.int md), .val (.long sp), .second, .val (.int (own_b (0 < Int64.toInt sp ∧ Int64.toInt sp < Int32.toInt k))), .val (.int (own_b (0 < Int64.toInt sp ∧ Int64.toInt sp < Int32.toInt k))), .val (.int t), .val (.long w0), .second, .val (.long w1), .second, .val (.ref a108), .unset, .unset, .unset] [(.ref a108), (.ref a102)])) rfl (by rw [hml]; rfl) (Steps.refl _) (argsL := [(.ref a108)]) (rest := []) (lenOf pd_E rfl) rfl (by show 2 * 0 + _ ≤ _; exact Nat.le_of_eq rfl) (hb hby at_192) (fun _ _ => ⟨rfl, e110, (by decide : 1 + 0 + 1 + 0 ≤ _), (by decide : 2 + 0 + 2 + 0 ≤ _)⟩)
        dsimp only [Pt.U, Pt.locs, Pt.cells, Pt.slots] at X111 l111 y111 z111 st111 hQ111
        subst l111 y111 z111
        obtain ⟨rfl, N111, hh111⟩ := hQ111
        refine own_tr (S' := T111.setTop (mkF m 195 #[.val (.int p1), .val (.int p2), .val (.int p3), .val (.long p4), .second, .val (.int p5), .val (.int p6), .val (.int k), .val (.int mm), .val (.ref a102), .val (.int dd), .val (.int md), .val (.long sp), .second, .val (.int (own_b (0 < Int64.toInt sp ∧ Int64.toInt sp < Int32.toInt k))), .val (.int (own_b (0 < Int64.toInt sp ∧ Int64.toInt sp < Int32.toInt k))), .val (.int t), .val (.long w0), .second, .val (.long w1), .second, .val (.ref a108), .unset, .unset, .unset] [(.int (own_b (Int32.toInt k ≤ Int64.toInt (own_sum w0 w1))))])) st111 ?_
        have Nc := Fr.app N110 N111
        refine own_st (S' := T111.setTop (mkF m 197 #[.val (.int p1), .val (.int p2), .val (.int p3), .val (.long p4), .second, .val (.int p5), .val (.int p6), .val (.int k), .val (.int mm), .val (.ref a102), .val (.int dd), .val (.int md), .val (.long sp), .second, .val (.int (own_b (0 < Int64.toInt sp ∧ Int64.toInt sp < Int32.toInt k))), .val (.int (own_b (0 < Int64.toInt sp ∧ Int64.toInt sp < Int32.toInt k))), .val (.int t), .val (.long w0), .second, .val (.long w1), .second, .val (.ref a108), .val (.int (own_b (Int32.toInt k ≤ Int64.toInt (own_sum w0 w1)))), .unset, .unset] [])) (fun _ kont => XS.istore X111.here hx rfl (hb hby at_195) rfl (l' := #[.val (.int p1), .val (.int p2), .val (.int p3), .val (.long p4), .second, .val (.int p5), .val (.int p6), .val (.int k), .val (.int mm), .val (.ref a102), .val (.int dd), .val (.int md), .val (.long sp), .second, .val (.int (own_b (0 < Int64.toInt sp ∧ Int64.toInt sp < Int32.toInt k))), .val (.int (own_b (0 < Int64.toInt sp ∧ Int64.toInt sp < Int32.toInt k))), .val (.int t), .val (.long w0), .second, .val (.long w1), .second, .val (.ref a108), .val (.int (own_b (Int32.toInt k ≤ Int64.toInt (own_sum w0 w1)))), .unset, .unset]) rfl kont) ?_
        refine own_st (S' := T111.setTop (mkF m 199 #[.val (.int p1), .val (.int p2), .val (.int p3), .val (.long p4), .second, .val (.int p5), .val (.int p6), .val (.int k), .val (.int mm), .val (.ref a102), .val (.int dd), .val (.int md), .val (.long sp), .second, .val (.int (own_b (0 < Int64.toInt sp ∧ Int64.toInt sp < Int32.toInt k))), .val (.int (own_b (0 < Int64.toInt sp ∧ Int64.toInt sp < Int32.toInt k))), .val (.int t), .val (.long w0), .second, .val (.long w1), .second, .val (.ref a108), .val (.int (own_b (Int32.toInt k ≤ Int64.toInt (own_sum w0 w1)))), .unset, .unset] [(.ref a102)])) (fun _ kont => XS.aload X111.here hx rfl (hb hby at_197) rfl rfl kont) ?_
        refine own_st (S' := T111.setTop (mkF m 201 #[.val (.int p1), .val (.int p2), .val (.int p3), .val (.long p4), .second, .val (.int p5), .val (.int p6), .val (.int k), .val (.int mm), .val (.ref a102), .val (.int dd), .val (.int md), .val (.long sp), .second, .val (.int (own_b (0 < Int64.toInt sp ∧ Int64.toInt sp < Int32.toInt k))), .val (.int (own_b (0 < Int64.toInt sp ∧ Int64.toInt sp < Int32.toInt k))), .val (.int t), .val (.long w0), .second, .val (.long w1), .second, .val (.ref a108), .val (.int (own_b (Int32.toInt k ≤ Int64.toInt (own_sum w0 w1)))), .unset, .unset] [(.int t), (.ref a102)])) (fun _ kont => XS.iload X111.here hx rfl (hb hby at_199) rfl kont) ?_
        refine own_st (S' := T111.setTop (mkF m 202 #[.val (.int p1), .val (.int p2), .val (.int p3), .val (.long p4), .second, .val (.int p5), .val (.int p6), .val (.int k), .val (.int mm), .val (.ref a102), .val (.int dd), .val (.int md), .val (.long sp), .second, .val (.int (own_b (0 < Int64.toInt sp ∧ Int64.toInt sp < Int32.toInt k))), .val (.int (own_b (0 < Int64.toInt sp ∧ Int64.toInt sp < Int32.toInt k))), .val (.int t), .val (.long w0), .second, .val (.long w1), .second, .val (.ref a108), .val (.int (own_b (Int32.toInt k ≤ Int64.toInt (own_sum w0 w1)))), .unset, .unset] [(.long (Int32.toInt64 t)), (.ref a102)])) (fun _ kont => XT.i2l X111.here hx rfl (hb hby at_201) rfl kont) ?_
        obtain ⟨cq112, kq112, q112a, q112b, q112c⟩ := isOf hZ hh111 Ex110
        obtain ⟨_, _, ⟨T112, L112, k112, n112⟩, -, X112, ⟨Lc112, hQ112, l112, y112, z112⟩, st112⟩ := X111.virtualBack hx (y := (⟨"com/example/mingle/mingle/KmAnonymity", "threatens", "(J)Z"⟩ : MethodName)) (z := (⟨"com/example/mingle/mingle/KmAnonymity", "threatens", "(J)Z"⟩ : MethodName)) hown (mvT hZ (hw _ (List.mem_of_getElem? (i := 18) rfl))) (mvT hZ (hw _ (List.mem_of_getElem? (i := 19) rfl))) (notFace_of_selects (args := #[]) (mvT hZ (hw _ (List.mem_of_getElem? (i := 21) rfl)))) (mvT hZ (hw _ (List.mem_of_getElem? (i := 21) rfl))) (mvT hZ (hw _ (List.mem_of_getElem? (i := 20) rfl))) (by decide) (backOf (W := 0) (rmT l Z a0 hw [] a102 (Int32.toInt64 t) k h110 n0 Zb F110) hZ (hw _ (List.mem_of_getElem? (i := 22) rfl)) (hw _ (List.mem_of_getElem? (i := 7) rfl)) (by decide) (by decide)) q112a q112c (g := (mkF m 202 #[.val (.int p1), .val (.int p2), .val (.int p3), .val (.long p4), .second, .val (.int p5), .val (.int p6), .val (.int k), .val (.int mm), .val (.ref a102), .val (.int dd), .val (.int md), .val (.long sp), .second, .val (.int (own_b (0 < Int64.toInt sp ∧ Int64.toInt sp < Int32.toInt k))), .val (.int (own_b (0 < Int64.toInt sp ∧ Int64.toInt sp < Int32.toInt k))), .val (.int t), .val (.long w0), .second, .val (.long w1), .second, .val (.ref a108), .val (.int (own_b (Int32.toInt k ≤ Int64.toInt (own_sum w0 w1)))), .unset, .unset] [(.long (Int32.toInt64 t)), (.ref a102)])) rfl (by rw [hml]; rfl) (Steps.refl _) (argsL := [(.long (Int32.toInt64 t))]) (rest := []) (lenOf pd_T rfl) rfl (by show 2 * 0 + _ ≤ _; exact Nat.le_of_eq rfl) (hb hby at_202) (fun _ _ => ⟨rfl, hh111, (by decide : 1 + 0 + 1 + 0 ≤ _), (by decide : 2 + 0 + 2 + 0 ≤ _)⟩)
        dsimp only [Pt.U, Pt.locs, Pt.cells, Pt.slots] at X112 l112 y112 z112 st112 hQ112
        subst l112 y112 z112
        obtain ⟨rfl, N112, hh112⟩ := hQ112
        refine own_tr (S' := T112.setTop (mkF m 205 #[.val (.int p1), .val (.int p2), .val (.int p3), .val (.long p4), .second, .val (.int p5), .val (.int p6), .val (.int k), .val (.int mm), .val (.ref a102), .val (.int dd), .val (.int md), .val (.long sp), .second, .val (.int (own_b (0 < Int64.toInt sp ∧ Int64.toInt sp < Int32.toInt k))), .val (.int (own_b (0 < Int64.toInt sp ∧ Int64.toInt sp < Int32.toInt k))), .val (.int t), .val (.long w0), .second, .val (.long w1), .second, .val (.ref a108), .val (.int (own_b (Int32.toInt k ≤ Int64.toInt (own_sum w0 w1)))), .unset, .unset] [(.int (own_b (0 < Int64.toInt (Int32.toInt64 t) ∧ Int64.toInt (Int32.toInt64 t) < Int32.toInt k)))])) st112 ?_
        have Nd := Fr.app Nc N112
        have hme := own_bi (Int32.toInt k ≤ Int64.toInt (own_sum w0 w1))
        have hth := own_bi (0 < Int64.toInt (Int32.toInt64 t) ∧ Int64.toInt (Int32.toInt64 t) < Int32.toInt k)
        refine own_st (S' := T112.setTop (mkF m 207 #[.val (.int p1), .val (.int p2), .val (.int p3), .val (.long p4), .second, .val (.int p5), .val (.int p6), .val (.int k), .val (.int mm), .val (.ref a102), .val (.int dd), .val (.int md), .val (.long sp), .second, .val (.int (own_b (0 < Int64.toInt sp ∧ Int64.toInt sp < Int32.toInt k))), .val (.int (own_b (0 < Int64.toInt sp ∧ Int64.toInt sp < Int32.toInt k))), .val (.int t), .val (.long w0), .second, .val (.long w1), .second, .val (.ref a108), .val (.int (own_b (Int32.toInt k ≤ Int64.toInt (own_sum w0 w1)))), .val (.int (own_b (0 < Int64.toInt (Int32.toInt64 t) ∧ Int64.toInt (Int32.toInt64 t) < Int32.toInt k))), .unset] [])) (fun _ kont => XS.istore X112.here hx rfl (hb hby at_205) rfl (l' := #[.val (.int p1), .val (.int p2), .val (.int p3), .val (.long p4), .second, .val (.int p5), .val (.int p6), .val (.int k), .val (.int mm), .val (.ref a102), .val (.int dd), .val (.int md), .val (.long sp), .second, .val (.int (own_b (0 < Int64.toInt sp ∧ Int64.toInt sp < Int32.toInt k))), .val (.int (own_b (0 < Int64.toInt sp ∧ Int64.toInt sp < Int32.toInt k))), .val (.int t), .val (.long w0), .second, .val (.long w1), .second, .val (.ref a108), .val (.int (own_b (Int32.toInt k ≤ Int64.toInt (own_sum w0 w1)))), .val (.int (own_b (0 < Int64.toInt (Int32.toInt64 t) ∧ Int64.toInt (Int32.toInt64 t) < Int32.toInt k))), .unset]) rfl kont) ?_
        refine own_st (S' := T112.setTop (mkF m 209 #[.val (.int p1), .val (.int p2), .val (.int p3), .val (.long p4), .second, .val (.int p5), .val (.int p6), .val (.int k), .val (.int mm), .val (.ref a102), .val (.int dd), .val (.int md), .val (.long sp), .second, .val (.int (own_b (0 < Int64.toInt sp ∧ Int64.toInt sp < Int32.toInt k))), .val (.int (own_b (0 < Int64.toInt sp ∧ Int64.toInt sp < Int32.toInt k))), .val (.int t), .val (.long w0), .second, .val (.long w1), .second, .val (.ref a108), .val (.int (own_b (Int32.toInt k ≤ Int64.toInt (own_sum w0 w1)))), .val (.int (own_b (0 < Int64.toInt (Int32.toInt64 t) ∧ Int64.toInt (Int32.toInt64 t) < Int32.toInt k))), .unset] [(.int (own_b (0 < Int64.toInt (Int32.toInt64 t) ∧ Int64.toInt (Int32.toInt64 t) < Int32.toInt k)))])) (fun _ kont => XS.iload X112.here hx rfl (hb hby at_207) rfl kont) ?_
        refine own_st (S' := T112.setTop (mkF m 211 #[.val (.int p1), .val (.int p2), .val (.int p3), .val (.long p4), .second, .val (.int p5), .val (.int p6), .val (.int k), .val (.int mm), .val (.ref a102), .val (.int dd), .val (.int md), .val (.long sp), .second, .val (.int (own_b (0 < Int64.toInt sp ∧ Int64.toInt sp < Int32.toInt k))), .val (.int (own_b (0 < Int64.toInt sp ∧ Int64.toInt sp < Int32.toInt k))), .val (.int t), .val (.long w0), .second, .val (.long w1), .second, .val (.ref a108), .val (.int (own_b (Int32.toInt k ≤ Int64.toInt (own_sum w0 w1)))), .val (.int (own_b (0 < Int64.toInt (Int32.toInt64 t) ∧ Int64.toInt (Int32.toInt64 t) < Int32.toInt k))), .unset] [(.int t), (.int (own_b (0 < Int64.toInt (Int32.toInt64 t) ∧ Int64.toInt (Int32.toInt64 t) < Int32.toInt k)))])) (fun _ kont => XS.iload X112.here hx rfl (hb hby at_209) rfl kont) ?_
        by_cases hcf211 : Int32.toInt t = 0
        · skip
          refine own_st (S' := T112.setTop (mkF m 223 #[.val (.int p1), .val (.int p2), .val (.int p3), .val (.long p4), .second, .val (.int p5), .val (.int p6), .val (.int k), .val (.int mm), .val (.ref a102), .val (.int dd), .val (.int md), .val (.long sp), .second, .val (.int (own_b (0 < Int64.toInt sp ∧ Int64.toInt sp < Int32.toInt k))), .val (.int (own_b (0 < Int64.toInt sp ∧ Int64.toInt sp < Int32.toInt k))), .val (.int t), .val (.long w0), .second, .val (.long w1), .second, .val (.ref a108), .val (.int (own_b (Int32.toInt k ≤ Int64.toInt (own_sum w0 w1)))), .val (.int (own_b (0 < Int64.toInt (Int32.toInt64 t) ∧ Int64.toInt (Int32.toInt64 t) < Int32.toInt k))), .unset] [(.int (own_b (0 < Int64.toInt (Int32.toInt64 t) ∧ Int64.toInt (Int32.toInt64 t) < Int32.toInt k)))])) (fun _ kont => XS.ifYes X112.here hx rfl (pc0 := 211) (pc' := 223) rfl (hb hby at_211) rfl ((own_z_eq _).trans (decide_eq_true (p := Int32.toInt t = 0) (hcf211))) (by decide) (by decide) kont) ?_
          refine own_st (S' := T112.setTop (mkF m 224 #[.val (.int p1), .val (.int p2), .val (.int p3), .val (.long p4), .second, .val (.int p5), .val (.int p6), .val (.int k), .val (.int mm), .val (.ref a102), .val (.int dd), .val (.int md), .val (.long sp), .second, .val (.int (own_b (0 < Int64.toInt sp ∧ Int64.toInt sp < Int32.toInt k))), .val (.int (own_b (0 < Int64.toInt sp ∧ Int64.toInt sp < Int32.toInt k))), .val (.int t), .val (.long w0), .second, .val (.long w1), .second, .val (.ref a108), .val (.int (own_b (Int32.toInt k ≤ Int64.toInt (own_sum w0 w1)))), .val (.int (own_b (0 < Int64.toInt (Int32.toInt64 t) ∧ Int64.toInt (Int32.toInt64 t) < Int32.toInt k))), .unset] [(.int (0 : Int32)), (.int (own_b (0 < Int64.toInt (Int32.toInt64 t) ∧ Int64.toInt (Int32.toInt64 t) < Int32.toInt k)))])) (fun _ kont => XS.iconst X112.here hx rfl (hb hby at_223) kont) ?_
          refine own_st (S' := T112.setTop (mkF m 227 #[.val (.int p1), .val (.int p2), .val (.int p3), .val (.long p4), .second, .val (.int p5), .val (.int p6), .val (.int k), .val (.int mm), .val (.ref a102), .val (.int dd), .val (.int md), .val (.long sp), .second, .val (.int (own_b (0 < Int64.toInt sp ∧ Int64.toInt sp < Int32.toInt k))), .val (.int (own_b (0 < Int64.toInt sp ∧ Int64.toInt sp < Int32.toInt k))), .val (.int t), .val (.long w0), .second, .val (.long w1), .second, .val (.ref a108), .val (.int (own_b (Int32.toInt k ≤ Int64.toInt (own_sum w0 w1)))), .val (.int (own_b (0 < Int64.toInt (Int32.toInt64 t) ∧ Int64.toInt (Int32.toInt64 t) < Int32.toInt k))), .unset] [])) (fun _ kont => XS.icmpNo X112.here hx rfl (hb hby at_224) rfl ((own_i_ne _ _).trans (decide_eq_false (p := Int32.toInt (own_b (0 < Int64.toInt (Int32.toInt64 t) ∧ Int64.toInt (Int32.toInt64 t) < Int32.toInt k)) ≠ 0) (by rw [hth]; split at hme <;> split <;> omega))) kont) ?_
          refine own_st (S' := T112.setTop (mkF m 228 #[.val (.int p1), .val (.int p2), .val (.int p3), .val (.long p4), .second, .val (.int p5), .val (.int p6), .val (.int k), .val (.int mm), .val (.ref a102), .val (.int dd), .val (.int md), .val (.long sp), .second, .val (.int (own_b (0 < Int64.toInt sp ∧ Int64.toInt sp < Int32.toInt k))), .val (.int (own_b (0 < Int64.toInt sp ∧ Int64.toInt sp < Int32.toInt k))), .val (.int t), .val (.long w0), .second, .val (.long w1), .second, .val (.ref a108), .val (.int (own_b (Int32.toInt k ≤ Int64.toInt (own_sum w0 w1)))), .val (.int (own_b (0 < Int64.toInt (Int32.toInt64 t) ∧ Int64.toInt (Int32.toInt64 t) < Int32.toInt k))), .unset] [(.int (1 : Int32))])) (fun _ kont => XS.iconst X112.here hx rfl (hb hby at_227) kont) ?_
          refine own_st (S' := T112.setTop (mkF m 232 #[.val (.int p1), .val (.int p2), .val (.int p3), .val (.long p4), .second, .val (.int p5), .val (.int p6), .val (.int k), .val (.int mm), .val (.ref a102), .val (.int dd), .val (.int md), .val (.long sp), .second, .val (.int (own_b (0 < Int64.toInt sp ∧ Int64.toInt sp < Int32.toInt k))), .val (.int (own_b (0 < Int64.toInt sp ∧ Int64.toInt sp < Int32.toInt k))), .val (.int t), .val (.long w0), .second, .val (.long w1), .second, .val (.ref a108), .val (.int (own_b (Int32.toInt k ≤ Int64.toInt (own_sum w0 w1)))), .val (.int (own_b (0 < Int64.toInt (Int32.toInt64 t) ∧ Int64.toInt (Int32.toInt64 t) < Int32.toInt k))), .unset] [(.int (1 : Int32))])) (fun _ kont => XS.goto X112.here hx rfl (pc0 := 228) (pc' := 232) rfl (hb hby at_228) (by decide) (by decide) kont) ?_
          refine own_st (S' := T112.setTop (mkF m 234 #[.val (.int p1), .val (.int p2), .val (.int p3), .val (.long p4), .second, .val (.int p5), .val (.int p6), .val (.int k), .val (.int mm), .val (.ref a102), .val (.int dd), .val (.int md), .val (.long sp), .second, .val (.int (own_b (0 < Int64.toInt sp ∧ Int64.toInt sp < Int32.toInt k))), .val (.int (own_b (0 < Int64.toInt sp ∧ Int64.toInt sp < Int32.toInt k))), .val (.int t), .val (.long w0), .second, .val (.long w1), .second, .val (.ref a108), .val (.int (own_b (Int32.toInt k ≤ Int64.toInt (own_sum w0 w1)))), .val (.int (own_b (0 < Int64.toInt (Int32.toInt64 t) ∧ Int64.toInt (Int32.toInt64 t) < Int32.toInt k))), .val (.int (1 : Int32))] [])) (fun _ kont => XS.istore X112.here hx rfl (hb hby at_232) rfl (l' := #[.val (.int p1), .val (.int p2), .val (.int p3), .val (.long p4), .second, .val (.int p5), .val (.int p6), .val (.int k), .val (.int mm), .val (.ref a102), .val (.int dd), .val (.int md), .val (.long sp), .second, .val (.int (own_b (0 < Int64.toInt sp ∧ Int64.toInt sp < Int32.toInt k))), .val (.int (own_b (0 < Int64.toInt sp ∧ Int64.toInt sp < Int32.toInt k))), .val (.int t), .val (.long w0), .second, .val (.long w1), .second, .val (.ref a108), .val (.int (own_b (Int32.toInt k ≤ Int64.toInt (own_sum w0 w1)))), .val (.int (own_b (0 < Int64.toInt (Int32.toInt64 t) ∧ Int64.toInt (Int32.toInt64 t) < Int32.toInt k))), .val (.int (1 : Int32))]) rfl kont) ?_
          refine own_st (S' := T112.setTop (mkF m 236 #[.val (.int p1), .val (.int p2), .val (.int p3), .val (.long p4), .second, .val (.int p5), .val (.int p6), .val (.int k), .val (.int mm), .val (.ref a102), .val (.int dd), .val (.int md), .val (.long sp), .second, .val (.int (own_b (0 < Int64.toInt sp ∧ Int64.toInt sp < Int32.toInt k))), .val (.int (own_b (0 < Int64.toInt sp ∧ Int64.toInt sp < Int32.toInt k))), .val (.int t), .val (.long w0), .second, .val (.long w1), .second, .val (.ref a108), .val (.int (own_b (Int32.toInt k ≤ Int64.toInt (own_sum w0 w1)))), .val (.int (own_b (0 < Int64.toInt (Int32.toInt64 t) ∧ Int64.toInt (Int32.toInt64 t) < Int32.toInt k))), .val (.int (1 : Int32))] [(.int (own_b (0 < Int64.toInt sp ∧ Int64.toInt sp < Int32.toInt k)))])) (fun _ kont => XS.iload X112.here hx rfl (hb hby at_234) rfl kont) ?_
          refine own_st (S' := T112.setTop (mkF m 238 #[.val (.int p1), .val (.int p2), .val (.int p3), .val (.long p4), .second, .val (.int p5), .val (.int p6), .val (.int k), .val (.int mm), .val (.ref a102), .val (.int dd), .val (.int md), .val (.long sp), .second, .val (.int (own_b (0 < Int64.toInt sp ∧ Int64.toInt sp < Int32.toInt k))), .val (.int (own_b (0 < Int64.toInt sp ∧ Int64.toInt sp < Int32.toInt k))), .val (.int t), .val (.long w0), .second, .val (.long w1), .second, .val (.ref a108), .val (.int (own_b (Int32.toInt k ≤ Int64.toInt (own_sum w0 w1)))), .val (.int (own_b (0 < Int64.toInt (Int32.toInt64 t) ∧ Int64.toInt (Int32.toInt64 t) < Int32.toInt k))), .val (.int (1 : Int32))] [(.int (own_b (0 < Int64.toInt sp ∧ Int64.toInt sp < Int32.toInt k))), (.int (own_b (0 < Int64.toInt sp ∧ Int64.toInt sp < Int32.toInt k)))])) (fun _ kont => XS.iload X112.here hx rfl (hb hby at_236) rfl kont) ?_
          refine own_st (S' := T112.setTop (mkF m 241 #[.val (.int p1), .val (.int p2), .val (.int p3), .val (.long p4), .second, .val (.int p5), .val (.int p6), .val (.int k), .val (.int mm), .val (.ref a102), .val (.int dd), .val (.int md), .val (.long sp), .second, .val (.int (own_b (0 < Int64.toInt sp ∧ Int64.toInt sp < Int32.toInt k))), .val (.int (own_b (0 < Int64.toInt sp ∧ Int64.toInt sp < Int32.toInt k))), .val (.int t), .val (.long w0), .second, .val (.long w1), .second, .val (.ref a108), .val (.int (own_b (Int32.toInt k ≤ Int64.toInt (own_sum w0 w1)))), .val (.int (own_b (0 < Int64.toInt (Int32.toInt64 t) ∧ Int64.toInt (Int32.toInt64 t) < Int32.toInt k))), .val (.int (1 : Int32))] [])) (fun _ kont => XS.icmpNo X112.here hx rfl (hb hby at_238) rfl ((own_i_ne _ _).trans (decide_eq_false (p := Int32.toInt (own_b (0 < Int64.toInt sp ∧ Int64.toInt sp < Int32.toInt k)) ≠ Int32.toInt (own_b (0 < Int64.toInt sp ∧ Int64.toInt sp < Int32.toInt k))) (fun h => h rfl))) kont) ?_
          refine own_st (S' := T112.setTop (mkF m 243 #[.val (.int p1), .val (.int p2), .val (.int p3), .val (.long p4), .second, .val (.int p5), .val (.int p6), .val (.int k), .val (.int mm), .val (.ref a102), .val (.int dd), .val (.int md), .val (.long sp), .second, .val (.int (own_b (0 < Int64.toInt sp ∧ Int64.toInt sp < Int32.toInt k))), .val (.int (own_b (0 < Int64.toInt sp ∧ Int64.toInt sp < Int32.toInt k))), .val (.int t), .val (.long w0), .second, .val (.long w1), .second, .val (.ref a108), .val (.int (own_b (Int32.toInt k ≤ Int64.toInt (own_sum w0 w1)))), .val (.int (own_b (0 < Int64.toInt (Int32.toInt64 t) ∧ Int64.toInt (Int32.toInt64 t) < Int32.toInt k))), .val (.int (1 : Int32))] [(.int (1 : Int32))])) (fun _ kont => XS.iload X112.here hx rfl (hb hby at_241) rfl kont) ?_
          refine own_st (S' := T112.setTop (mkF m 246 #[.val (.int p1), .val (.int p2), .val (.int p3), .val (.long p4), .second, .val (.int p5), .val (.int p6), .val (.int k), .val (.int mm), .val (.ref a102), .val (.int dd), .val (.int md), .val (.long sp), .second, .val (.int (own_b (0 < Int64.toInt sp ∧ Int64.toInt sp < Int32.toInt k))), .val (.int (own_b (0 < Int64.toInt sp ∧ Int64.toInt sp < Int32.toInt k))), .val (.int t), .val (.long w0), .second, .val (.long w1), .second, .val (.ref a108), .val (.int (own_b (Int32.toInt k ≤ Int64.toInt (own_sum w0 w1)))), .val (.int (own_b (0 < Int64.toInt (Int32.toInt64 t) ∧ Int64.toInt (Int32.toInt64 t) < Int32.toInt k))), .val (.int (1 : Int32))] [])) (fun _ kont => XS.ifNo X112.here hx rfl (hb hby at_243) rfl ((own_z_eq _).trans (decide_eq_false (p := 1 = 0) (by decide))) kont) ?_
          refine own_st (S' := T112.setTop (mkF m 247 #[.val (.int p1), .val (.int p2), .val (.int p3), .val (.long p4), .second, .val (.int p5), .val (.int p6), .val (.int k), .val (.int mm), .val (.ref a102), .val (.int dd), .val (.int md), .val (.long sp), .second, .val (.int (own_b (0 < Int64.toInt sp ∧ Int64.toInt sp < Int32.toInt k))), .val (.int (own_b (0 < Int64.toInt sp ∧ Int64.toInt sp < Int32.toInt k))), .val (.int t), .val (.long w0), .second, .val (.long w1), .second, .val (.ref a108), .val (.int (own_b (Int32.toInt k ≤ Int64.toInt (own_sum w0 w1)))), .val (.int (own_b (0 < Int64.toInt (Int32.toInt64 t) ∧ Int64.toInt (Int32.toInt64 t) < Int32.toInt k))), .val (.int (1 : Int32))] [(.int (1 : Int32))])) (fun _ kont => XS.iconst X112.here hx rfl (hb hby at_246) kont) ?_
          refine own_st (S' := T112.setTop (mkF m 251 #[.val (.int p1), .val (.int p2), .val (.int p3), .val (.long p4), .second, .val (.int p5), .val (.int p6), .val (.int k), .val (.int mm), .val (.ref a102), .val (.int dd), .val (.int md), .val (.long sp), .second, .val (.int (own_b (0 < Int64.toInt sp ∧ Int64.toInt sp < Int32.toInt k))), .val (.int (own_b (0 < Int64.toInt sp ∧ Int64.toInt sp < Int32.toInt k))), .val (.int t), .val (.long w0), .second, .val (.long w1), .second, .val (.ref a108), .val (.int (own_b (Int32.toInt k ≤ Int64.toInt (own_sum w0 w1)))), .val (.int (own_b (0 < Int64.toInt (Int32.toInt64 t) ∧ Int64.toInt (Int32.toInt64 t) < Int32.toInt k))), .val (.int (1 : Int32))] [(.int (1 : Int32))])) (fun _ kont => XS.goto X112.here hx rfl (pc0 := 247) (pc' := 251) rfl (hb hby at_247) (by decide) (by decide) kont) ?_
          refine own_end X112 (Q := (Q0 Z p1 p2 p3 p4 p5 p6 h0 n0)) (some (.int (1 : Int32))) Bd.notSynchronized (fun h => by rw [Bd.returns] at h; cases h) (fun fs hr => retN X112 hx (t := .boolean) Bd.returns (by simp) (hb hby at_251) hr) ?_ (by decide) (by decide)
          rw [hh112]
          exact ⟨rfl, Nd⟩
        · skip
          refine own_st (S' := T112.setTop (mkF m 214 #[.val (.int p1), .val (.int p2), .val (.int p3), .val (.long p4), .second, .val (.int p5), .val (.int p6), .val (.int k), .val (.int mm), .val (.ref a102), .val (.int dd), .val (.int md), .val (.long sp), .second, .val (.int (own_b (0 < Int64.toInt sp ∧ Int64.toInt sp < Int32.toInt k))), .val (.int (own_b (0 < Int64.toInt sp ∧ Int64.toInt sp < Int32.toInt k))), .val (.int t), .val (.long w0), .second, .val (.long w1), .second, .val (.ref a108), .val (.int (own_b (Int32.toInt k ≤ Int64.toInt (own_sum w0 w1)))), .val (.int (own_b (0 < Int64.toInt (Int32.toInt64 t) ∧ Int64.toInt (Int32.toInt64 t) < Int32.toInt k))), .unset] [(.int (own_b (0 < Int64.toInt (Int32.toInt64 t) ∧ Int64.toInt (Int32.toInt64 t) < Int32.toInt k)))])) (fun _ kont => XS.ifNo X112.here hx rfl (hb hby at_211) rfl ((own_z_eq _).trans (decide_eq_false (p := Int32.toInt t = 0) (hcf211))) kont) ?_
          refine own_st (S' := T112.setTop (mkF m 216 #[.val (.int p1), .val (.int p2), .val (.int p3), .val (.long p4), .second, .val (.int p5), .val (.int p6), .val (.int k), .val (.int mm), .val (.ref a102), .val (.int dd), .val (.int md), .val (.long sp), .second, .val (.int (own_b (0 < Int64.toInt sp ∧ Int64.toInt sp < Int32.toInt k))), .val (.int (own_b (0 < Int64.toInt sp ∧ Int64.toInt sp < Int32.toInt k))), .val (.int t), .val (.long w0), .second, .val (.long w1), .second, .val (.ref a108), .val (.int (own_b (Int32.toInt k ≤ Int64.toInt (own_sum w0 w1)))), .val (.int (own_b (0 < Int64.toInt (Int32.toInt64 t) ∧ Int64.toInt (Int32.toInt64 t) < Int32.toInt k))), .unset] [(.int (own_b (Int32.toInt k ≤ Int64.toInt (own_sum w0 w1)))), (.int (own_b (0 < Int64.toInt (Int32.toInt64 t) ∧ Int64.toInt (Int32.toInt64 t) < Int32.toInt k)))])) (fun _ kont => XS.iload X112.here hx rfl (hb hby at_214) rfl kont) ?_
          by_cases hcf216 : Int32.toInt (own_b (Int32.toInt k ≤ Int64.toInt (own_sum w0 w1))) ≠ 0
          · skip
            refine own_st (S' := T112.setTop (mkF m 223 #[.val (.int p1), .val (.int p2), .val (.int p3), .val (.long p4), .second, .val (.int p5), .val (.int p6), .val (.int k), .val (.int mm), .val (.ref a102), .val (.int dd), .val (.int md), .val (.long sp), .second, .val (.int (own_b (0 < Int64.toInt sp ∧ Int64.toInt sp < Int32.toInt k))), .val (.int (own_b (0 < Int64.toInt sp ∧ Int64.toInt sp < Int32.toInt k))), .val (.int t), .val (.long w0), .second, .val (.long w1), .second, .val (.ref a108), .val (.int (own_b (Int32.toInt k ≤ Int64.toInt (own_sum w0 w1)))), .val (.int (own_b (0 < Int64.toInt (Int32.toInt64 t) ∧ Int64.toInt (Int32.toInt64 t) < Int32.toInt k))), .unset] [(.int (own_b (0 < Int64.toInt (Int32.toInt64 t) ∧ Int64.toInt (Int32.toInt64 t) < Int32.toInt k)))])) (fun _ kont => XS.ifYes X112.here hx rfl (pc0 := 216) (pc' := 223) rfl (hb hby at_216) rfl ((own_z_ne _).trans (decide_eq_true (p := Int32.toInt (own_b (Int32.toInt k ≤ Int64.toInt (own_sum w0 w1))) ≠ 0) (hcf216))) (by decide) (by decide) kont) ?_
            refine own_st (S' := T112.setTop (mkF m 224 #[.val (.int p1), .val (.int p2), .val (.int p3), .val (.long p4), .second, .val (.int p5), .val (.int p6), .val (.int k), .val (.int mm), .val (.ref a102), .val (.int dd), .val (.int md), .val (.long sp), .second, .val (.int (own_b (0 < Int64.toInt sp ∧ Int64.toInt sp < Int32.toInt k))), .val (.int (own_b (0 < Int64.toInt sp ∧ Int64.toInt sp < Int32.toInt k))), .val (.int t), .val (.long w0), .second, .val (.long w1), .second, .val (.ref a108), .val (.int (own_b (Int32.toInt k ≤ Int64.toInt (own_sum w0 w1)))), .val (.int (own_b (0 < Int64.toInt (Int32.toInt64 t) ∧ Int64.toInt (Int32.toInt64 t) < Int32.toInt k))), .unset] [(.int (0 : Int32)), (.int (own_b (0 < Int64.toInt (Int32.toInt64 t) ∧ Int64.toInt (Int32.toInt64 t) < Int32.toInt k)))])) (fun _ kont => XS.iconst X112.here hx rfl (hb hby at_223) kont) ?_
            refine own_st (S' := T112.setTop (mkF m 227 #[.val (.int p1), .val (.int p2), .val (.int p3), .val (.long p4), .second, .val (.int p5), .val (.int p6), .val (.int k), .val (.int mm), .val (.ref a102), .val (.int dd), .val (.int md), .val (.long sp), .second, .val (.int (own_b (0 < Int64.toInt sp ∧ Int64.toInt sp < Int32.toInt k))), .val (.int (own_b (0 < Int64.toInt sp ∧ Int64.toInt sp < Int32.toInt k))), .val (.int t), .val (.long w0), .second, .val (.long w1), .second, .val (.ref a108), .val (.int (own_b (Int32.toInt k ≤ Int64.toInt (own_sum w0 w1)))), .val (.int (own_b (0 < Int64.toInt (Int32.toInt64 t) ∧ Int64.toInt (Int32.toInt64 t) < Int32.toInt k))), .unset] [])) (fun _ kont => XS.icmpNo X112.here hx rfl (hb hby at_224) rfl ((own_i_ne _ _).trans (decide_eq_false (p := Int32.toInt (own_b (0 < Int64.toInt (Int32.toInt64 t) ∧ Int64.toInt (Int32.toInt64 t) < Int32.toInt k)) ≠ 0) (by rw [hth]; split at hme <;> split <;> omega))) kont) ?_
            refine own_st (S' := T112.setTop (mkF m 228 #[.val (.int p1), .val (.int p2), .val (.int p3), .val (.long p4), .second, .val (.int p5), .val (.int p6), .val (.int k), .val (.int mm), .val (.ref a102), .val (.int dd), .val (.int md), .val (.long sp), .second, .val (.int (own_b (0 < Int64.toInt sp ∧ Int64.toInt sp < Int32.toInt k))), .val (.int (own_b (0 < Int64.toInt sp ∧ Int64.toInt sp < Int32.toInt k))), .val (.int t), .val (.long w0), .second, .val (.long w1), .second, .val (.ref a108), .val (.int (own_b (Int32.toInt k ≤ Int64.toInt (own_sum w0 w1)))), .val (.int (own_b (0 < Int64.toInt (Int32.toInt64 t) ∧ Int64.toInt (Int32.toInt64 t) < Int32.toInt k))), .unset] [(.int (1 : Int32))])) (fun _ kont => XS.iconst X112.here hx rfl (hb hby at_227) kont) ?_
            refine own_st (S' := T112.setTop (mkF m 232 #[.val (.int p1), .val (.int p2), .val (.int p3), .val (.long p4), .second, .val (.int p5), .val (.int p6), .val (.int k), .val (.int mm), .val (.ref a102), .val (.int dd), .val (.int md), .val (.long sp), .second, .val (.int (own_b (0 < Int64.toInt sp ∧ Int64.toInt sp < Int32.toInt k))), .val (.int (own_b (0 < Int64.toInt sp ∧ Int64.toInt sp < Int32.toInt k))), .val (.int t), .val (.long w0), .second, .val (.long w1), .second, .val (.ref a108), .val (.int (own_b (Int32.toInt k ≤ Int64.toInt (own_sum w0 w1)))), .val (.int (own_b (0 < Int64.toInt (Int32.toInt64 t) ∧ Int64.toInt (Int32.toInt64 t) < Int32.toInt k))), .unset] [(.int (1 : Int32))])) (fun _ kont => XS.goto X112.here hx rfl (pc0 := 228) (pc' := 232) rfl (hb hby at_228) (by decide) (by decide) kont) ?_
            refine own_st (S' := T112.setTop (mkF m 234 #[.val (.int p1), .val (.int p2), .val (.int p3), .val (.long p4), .second, .val (.int p5), .val (.int p6), .val (.int k), .val (.int mm), .val (.ref a102), .val (.int dd), .val (.int md), .val (.long sp), .second, .val (.int (own_b (0 < Int64.toInt sp ∧ Int64.toInt sp < Int32.toInt k))), .val (.int (own_b (0 < Int64.toInt sp ∧ Int64.toInt sp < Int32.toInt k))), .val (.int t), .val (.long w0), .second, .val (.long w1), .second, .val (.ref a108), .val (.int (own_b (Int32.toInt k ≤ Int64.toInt (own_sum w0 w1)))), .val (.int (own_b (0 < Int64.toInt (Int32.toInt64 t) ∧ Int64.toInt (Int32.toInt64 t) < Int32.toInt k))), .val (.int (1 : Int32))] [])) (fun _ kont => XS.istore X112.here hx rfl (hb hby at_232) rfl (l' := #[.val (.int p1), .val (.int p2), .val (.int p3), .val (.long p4), .second, .val (.int p5), .val (.int p6), .val (.int k), .val (.int mm), .val (.ref a102), .val (.int dd), .val (.int md), .val (.long sp), .second, .val (.int (own_b (0 < Int64.toInt sp ∧ Int64.toInt sp < Int32.toInt k))), .val (.int (own_b (0 < Int64.toInt sp ∧ Int64.toInt sp < Int32.toInt k))), .val (.int t), .val (.long w0), .second, .val (.long w1), .second, .val (.ref a108), .val (.int (own_b (Int32.toInt k ≤ Int64.toInt (own_sum w0 w1)))), .val (.int (own_b (0 < Int64.toInt (Int32.toInt64 t) ∧ Int64.toInt (Int32.toInt64 t) < Int32.toInt k))), .val (.int (1 : Int32))]) rfl kont) ?_
            refine own_st (S' := T112.setTop (mkF m 236 #[.val (.int p1), .val (.int p2), .val (.int p3), .val (.long p4), .second, .val (.int p5), .val (.int p6), .val (.int k), .val (.int mm), .val (.ref a102), .val (.int dd), .val (.int md), .val (.long sp), .second, .val (.int (own_b (0 < Int64.toInt sp ∧ Int64.toInt sp < Int32.toInt k))), .val (.int (own_b (0 < Int64.toInt sp ∧ Int64.toInt sp < Int32.toInt k))), .val (.int t), .val (.long w0), .second, .val (.long w1), .second, .val (.ref a108), .val (.int (own_b (Int32.toInt k ≤ Int64.toInt (own_sum w0 w1)))), .val (.int (own_b (0 < Int64.toInt (Int32.toInt64 t) ∧ Int64.toInt (Int32.toInt64 t) < Int32.toInt k))), .val (.int (1 : Int32))] [(.int (own_b (0 < Int64.toInt sp ∧ Int64.toInt sp < Int32.toInt k)))])) (fun _ kont => XS.iload X112.here hx rfl (hb hby at_234) rfl kont) ?_
            refine own_st (S' := T112.setTop (mkF m 238 #[.val (.int p1), .val (.int p2), .val (.int p3), .val (.long p4), .second, .val (.int p5), .val (.int p6), .val (.int k), .val (.int mm), .val (.ref a102), .val (.int dd), .val (.int md), .val (.long sp), .second, .val (.int (own_b (0 < Int64.toInt sp ∧ Int64.toInt sp < Int32.toInt k))), .val (.int (own_b (0 < Int64.toInt sp ∧ Int64.toInt sp < Int32.toInt k))), .val (.int t), .val (.long w0), .second, .val (.long w1), .second, .val (.ref a108), .val (.int (own_b (Int32.toInt k ≤ Int64.toInt (own_sum w0 w1)))), .val (.int (own_b (0 < Int64.toInt (Int32.toInt64 t) ∧ Int64.toInt (Int32.toInt64 t) < Int32.toInt k))), .val (.int (1 : Int32))] [(.int (own_b (0 < Int64.toInt sp ∧ Int64.toInt sp < Int32.toInt k))), (.int (own_b (0 < Int64.toInt sp ∧ Int64.toInt sp < Int32.toInt k)))])) (fun _ kont => XS.iload X112.here hx rfl (hb hby at_236) rfl kont) ?_
            refine own_st (S' := T112.setTop (mkF m 241 #[.val (.int p1), .val (.int p2), .val (.int p3), .val (.long p4), .second, .val (.int p5), .val (.int p6), .val (.int k), .val (.int mm), .val (.ref a102), .val (.int dd), .val (.int md), .val (.long sp), .second, .val (.int (own_b (0 < Int64.toInt sp ∧ Int64.toInt sp < Int32.toInt k))), .val (.int (own_b (0 < Int64.toInt sp ∧ Int64.toInt sp < Int32.toInt k))), .val (.int t), .val (.long w0), .second, .val (.long w1), .second, .val (.ref a108), .val (.int (own_b (Int32.toInt k ≤ Int64.toInt (own_sum w0 w1)))), .val (.int (own_b (0 < Int64.toInt (Int32.toInt64 t) ∧ Int64.toInt (Int32.toInt64 t) < Int32.toInt k))), .val (.int (1 : Int32))] [])) (fun _ kont => XS.icmpNo X112.here hx rfl (hb hby at_238) rfl ((own_i_ne _ _).trans (decide_eq_false (p := Int32.toInt (own_b (0 < Int64.toInt sp ∧ Int64.toInt sp < Int32.toInt k)) ≠ Int32.toInt (own_b (0 < Int64.toInt sp ∧ Int64.toInt sp < Int32.toInt k))) (fun h => h rfl))) kont) ?_
            refine own_st (S' := T112.setTop (mkF m 243 #[.val (.int p1), .val (.int p2), .val (.int p3), .val (.long p4), .second, .val (.int p5), .val (.int p6), .val (.int k), .val (.int mm), .val (.ref a102), .val (.int dd), .val (.int md), .val (.long sp), .second, .val (.int (own_b (0 < Int64.toInt sp ∧ Int64.toInt sp < Int32.toInt k))), .val (.int (own_b (0 < Int64.toInt sp ∧ Int64.toInt sp < Int32.toInt k))), .val (.int t), .val (.long w0), .second, .val (.long w1), .second, .val (.ref a108), .val (.int (own_b (Int32.toInt k ≤ Int64.toInt (own_sum w0 w1)))), .val (.int (own_b (0 < Int64.toInt (Int32.toInt64 t) ∧ Int64.toInt (Int32.toInt64 t) < Int32.toInt k))), .val (.int (1 : Int32))] [(.int (1 : Int32))])) (fun _ kont => XS.iload X112.here hx rfl (hb hby at_241) rfl kont) ?_
            refine own_st (S' := T112.setTop (mkF m 246 #[.val (.int p1), .val (.int p2), .val (.int p3), .val (.long p4), .second, .val (.int p5), .val (.int p6), .val (.int k), .val (.int mm), .val (.ref a102), .val (.int dd), .val (.int md), .val (.long sp), .second, .val (.int (own_b (0 < Int64.toInt sp ∧ Int64.toInt sp < Int32.toInt k))), .val (.int (own_b (0 < Int64.toInt sp ∧ Int64.toInt sp < Int32.toInt k))), .val (.int t), .val (.long w0), .second, .val (.long w1), .second, .val (.ref a108), .val (.int (own_b (Int32.toInt k ≤ Int64.toInt (own_sum w0 w1)))), .val (.int (own_b (0 < Int64.toInt (Int32.toInt64 t) ∧ Int64.toInt (Int32.toInt64 t) < Int32.toInt k))), .val (.int (1 : Int32))] [])) (fun _ kont => XS.ifNo X112.here hx rfl (hb hby at_243) rfl ((own_z_eq _).trans (decide_eq_false (p := 1 = 0) (by decide))) kont) ?_
            refine own_st (S' := T112.setTop (mkF m 247 #[.val (.int p1), .val (.int p2), .val (.int p3), .val (.long p4), .second, .val (.int p5), .val (.int p6), .val (.int k), .val (.int mm), .val (.ref a102), .val (.int dd), .val (.int md), .val (.long sp), .second, .val (.int (own_b (0 < Int64.toInt sp ∧ Int64.toInt sp < Int32.toInt k))), .val (.int (own_b (0 < Int64.toInt sp ∧ Int64.toInt sp < Int32.toInt k))), .val (.int t), .val (.long w0), .second, .val (.long w1), .second, .val (.ref a108), .val (.int (own_b (Int32.toInt k ≤ Int64.toInt (own_sum w0 w1)))), .val (.int (own_b (0 < Int64.toInt (Int32.toInt64 t) ∧ Int64.toInt (Int32.toInt64 t) < Int32.toInt k))), .val (.int (1 : Int32))] [(.int (1 : Int32))])) (fun _ kont => XS.iconst X112.here hx rfl (hb hby at_246) kont) ?_
            refine own_st (S' := T112.setTop (mkF m 251 #[.val (.int p1), .val (.int p2), .val (.int p3), .val (.long p4), .second, .val (.int p5), .val (.int p6), .val (.int k), .val (.int mm), .val (.ref a102), .val (.int dd), .val (.int md), .val (.long sp), .second, .val (.int (own_b (0 < Int64.toInt sp ∧ Int64.toInt sp < Int32.toInt k))), .val (.int (own_b (0 < Int64.toInt sp ∧ Int64.toInt sp < Int32.toInt k))), .val (.int t), .val (.long w0), .second, .val (.long w1), .second, .val (.ref a108), .val (.int (own_b (Int32.toInt k ≤ Int64.toInt (own_sum w0 w1)))), .val (.int (own_b (0 < Int64.toInt (Int32.toInt64 t) ∧ Int64.toInt (Int32.toInt64 t) < Int32.toInt k))), .val (.int (1 : Int32))] [(.int (1 : Int32))])) (fun _ kont => XS.goto X112.here hx rfl (pc0 := 247) (pc' := 251) rfl (hb hby at_247) (by decide) (by decide) kont) ?_
            refine own_end X112 (Q := (Q0 Z p1 p2 p3 p4 p5 p6 h0 n0)) (some (.int (1 : Int32))) Bd.notSynchronized (fun h => by rw [Bd.returns] at h; cases h) (fun fs hr => retN X112 hx (t := .boolean) Bd.returns (by simp) (hb hby at_251) hr) ?_ (by decide) (by decide)
            rw [hh112]
            exact ⟨rfl, Nd⟩
          · skip
            refine own_st (S' := T112.setTop (mkF m 219 #[.val (.int p1), .val (.int p2), .val (.int p3), .val (.long p4), .second, .val (.int p5), .val (.int p6), .val (.int k), .val (.int mm), .val (.ref a102), .val (.int dd), .val (.int md), .val (.long sp), .second, .val (.int (own_b (0 < Int64.toInt sp ∧ Int64.toInt sp < Int32.toInt k))), .val (.int (own_b (0 < Int64.toInt sp ∧ Int64.toInt sp < Int32.toInt k))), .val (.int t), .val (.long w0), .second, .val (.long w1), .second, .val (.ref a108), .val (.int (own_b (Int32.toInt k ≤ Int64.toInt (own_sum w0 w1)))), .val (.int (own_b (0 < Int64.toInt (Int32.toInt64 t) ∧ Int64.toInt (Int32.toInt64 t) < Int32.toInt k))), .unset] [(.int (own_b (0 < Int64.toInt (Int32.toInt64 t) ∧ Int64.toInt (Int32.toInt64 t) < Int32.toInt k)))])) (fun _ kont => XS.ifNo X112.here hx rfl (hb hby at_216) rfl ((own_z_ne _).trans (decide_eq_false (p := Int32.toInt (own_b (Int32.toInt k ≤ Int64.toInt (own_sum w0 w1))) ≠ 0) (hcf216))) kont) ?_
            refine own_st (S' := T112.setTop (mkF m 220 #[.val (.int p1), .val (.int p2), .val (.int p3), .val (.long p4), .second, .val (.int p5), .val (.int p6), .val (.int k), .val (.int mm), .val (.ref a102), .val (.int dd), .val (.int md), .val (.long sp), .second, .val (.int (own_b (0 < Int64.toInt sp ∧ Int64.toInt sp < Int32.toInt k))), .val (.int (own_b (0 < Int64.toInt sp ∧ Int64.toInt sp < Int32.toInt k))), .val (.int t), .val (.long w0), .second, .val (.long w1), .second, .val (.ref a108), .val (.int (own_b (Int32.toInt k ≤ Int64.toInt (own_sum w0 w1)))), .val (.int (own_b (0 < Int64.toInt (Int32.toInt64 t) ∧ Int64.toInt (Int32.toInt64 t) < Int32.toInt k))), .unset] [(.int (1 : Int32)), (.int (own_b (0 < Int64.toInt (Int32.toInt64 t) ∧ Int64.toInt (Int32.toInt64 t) < Int32.toInt k)))])) (fun _ kont => XS.iconst X112.here hx rfl (hb hby at_219) kont) ?_
            refine own_st (S' := T112.setTop (mkF m 224 #[.val (.int p1), .val (.int p2), .val (.int p3), .val (.long p4), .second, .val (.int p5), .val (.int p6), .val (.int k), .val (.int mm), .val (.ref a102), .val (.int dd), .val (.int md), .val (.long sp), .second, .val (.int (own_b (0 < Int64.toInt sp ∧ Int64.toInt sp < Int32.toInt k))), .val (.int (own_b (0 < Int64.toInt sp ∧ Int64.toInt sp < Int32.toInt k))), .val (.int t), .val (.long w0), .second, .val (.long w1), .second, .val (.ref a108), .val (.int (own_b (Int32.toInt k ≤ Int64.toInt (own_sum w0 w1)))), .val (.int (own_b (0 < Int64.toInt (Int32.toInt64 t) ∧ Int64.toInt (Int32.toInt64 t) < Int32.toInt k))), .unset] [(.int (1 : Int32)), (.int (own_b (0 < Int64.toInt (Int32.toInt64 t) ∧ Int64.toInt (Int32.toInt64 t) < Int32.toInt k)))])) (fun _ kont => XS.goto X112.here hx rfl (pc0 := 220) (pc' := 224) rfl (hb hby at_220) (by decide) (by decide) kont) ?_
            refine own_st (S' := T112.setTop (mkF m 227 #[.val (.int p1), .val (.int p2), .val (.int p3), .val (.long p4), .second, .val (.int p5), .val (.int p6), .val (.int k), .val (.int mm), .val (.ref a102), .val (.int dd), .val (.int md), .val (.long sp), .second, .val (.int (own_b (0 < Int64.toInt sp ∧ Int64.toInt sp < Int32.toInt k))), .val (.int (own_b (0 < Int64.toInt sp ∧ Int64.toInt sp < Int32.toInt k))), .val (.int t), .val (.long w0), .second, .val (.long w1), .second, .val (.ref a108), .val (.int (own_b (Int32.toInt k ≤ Int64.toInt (own_sum w0 w1)))), .val (.int (own_b (0 < Int64.toInt (Int32.toInt64 t) ∧ Int64.toInt (Int32.toInt64 t) < Int32.toInt k))), .unset] [])) (fun _ kont => XS.icmpNo X112.here hx rfl (hb hby at_224) rfl ((own_i_ne _ _).trans (decide_eq_false (p := Int32.toInt (own_b (0 < Int64.toInt (Int32.toInt64 t) ∧ Int64.toInt (Int32.toInt64 t) < Int32.toInt k)) ≠ 1) (by rw [hth]; split at hme <;> split <;> omega))) kont) ?_
            refine own_st (S' := T112.setTop (mkF m 228 #[.val (.int p1), .val (.int p2), .val (.int p3), .val (.long p4), .second, .val (.int p5), .val (.int p6), .val (.int k), .val (.int mm), .val (.ref a102), .val (.int dd), .val (.int md), .val (.long sp), .second, .val (.int (own_b (0 < Int64.toInt sp ∧ Int64.toInt sp < Int32.toInt k))), .val (.int (own_b (0 < Int64.toInt sp ∧ Int64.toInt sp < Int32.toInt k))), .val (.int t), .val (.long w0), .second, .val (.long w1), .second, .val (.ref a108), .val (.int (own_b (Int32.toInt k ≤ Int64.toInt (own_sum w0 w1)))), .val (.int (own_b (0 < Int64.toInt (Int32.toInt64 t) ∧ Int64.toInt (Int32.toInt64 t) < Int32.toInt k))), .unset] [(.int (1 : Int32))])) (fun _ kont => XS.iconst X112.here hx rfl (hb hby at_227) kont) ?_
            refine own_st (S' := T112.setTop (mkF m 232 #[.val (.int p1), .val (.int p2), .val (.int p3), .val (.long p4), .second, .val (.int p5), .val (.int p6), .val (.int k), .val (.int mm), .val (.ref a102), .val (.int dd), .val (.int md), .val (.long sp), .second, .val (.int (own_b (0 < Int64.toInt sp ∧ Int64.toInt sp < Int32.toInt k))), .val (.int (own_b (0 < Int64.toInt sp ∧ Int64.toInt sp < Int32.toInt k))), .val (.int t), .val (.long w0), .second, .val (.long w1), .second, .val (.ref a108), .val (.int (own_b (Int32.toInt k ≤ Int64.toInt (own_sum w0 w1)))), .val (.int (own_b (0 < Int64.toInt (Int32.toInt64 t) ∧ Int64.toInt (Int32.toInt64 t) < Int32.toInt k))), .unset] [(.int (1 : Int32))])) (fun _ kont => XS.goto X112.here hx rfl (pc0 := 228) (pc' := 232) rfl (hb hby at_228) (by decide) (by decide) kont) ?_
            refine own_st (S' := T112.setTop (mkF m 234 #[.val (.int p1), .val (.int p2), .val (.int p3), .val (.long p4), .second, .val (.int p5), .val (.int p6), .val (.int k), .val (.int mm), .val (.ref a102), .val (.int dd), .val (.int md), .val (.long sp), .second, .val (.int (own_b (0 < Int64.toInt sp ∧ Int64.toInt sp < Int32.toInt k))), .val (.int (own_b (0 < Int64.toInt sp ∧ Int64.toInt sp < Int32.toInt k))), .val (.int t), .val (.long w0), .second, .val (.long w1), .second, .val (.ref a108), .val (.int (own_b (Int32.toInt k ≤ Int64.toInt (own_sum w0 w1)))), .val (.int (own_b (0 < Int64.toInt (Int32.toInt64 t) ∧ Int64.toInt (Int32.toInt64 t) < Int32.toInt k))), .val (.int (1 : Int32))] [])) (fun _ kont => XS.istore X112.here hx rfl (hb hby at_232) rfl (l' := #[.val (.int p1), .val (.int p2), .val (.int p3), .val (.long p4), .second, .val (.int p5), .val (.int p6), .val (.int k), .val (.int mm), .val (.ref a102), .val (.int dd), .val (.int md), .val (.long sp), .second, .val (.int (own_b (0 < Int64.toInt sp ∧ Int64.toInt sp < Int32.toInt k))), .val (.int (own_b (0 < Int64.toInt sp ∧ Int64.toInt sp < Int32.toInt k))), .val (.int t), .val (.long w0), .second, .val (.long w1), .second, .val (.ref a108), .val (.int (own_b (Int32.toInt k ≤ Int64.toInt (own_sum w0 w1)))), .val (.int (own_b (0 < Int64.toInt (Int32.toInt64 t) ∧ Int64.toInt (Int32.toInt64 t) < Int32.toInt k))), .val (.int (1 : Int32))]) rfl kont) ?_
            refine own_st (S' := T112.setTop (mkF m 236 #[.val (.int p1), .val (.int p2), .val (.int p3), .val (.long p4), .second, .val (.int p5), .val (.int p6), .val (.int k), .val (.int mm), .val (.ref a102), .val (.int dd), .val (.int md), .val (.long sp), .second, .val (.int (own_b (0 < Int64.toInt sp ∧ Int64.toInt sp < Int32.toInt k))), .val (.int (own_b (0 < Int64.toInt sp ∧ Int64.toInt sp < Int32.toInt k))), .val (.int t), .val (.long w0), .second, .val (.long w1), .second, .val (.ref a108), .val (.int (own_b (Int32.toInt k ≤ Int64.toInt (own_sum w0 w1)))), .val (.int (own_b (0 < Int64.toInt (Int32.toInt64 t) ∧ Int64.toInt (Int32.toInt64 t) < Int32.toInt k))), .val (.int (1 : Int32))] [(.int (own_b (0 < Int64.toInt sp ∧ Int64.toInt sp < Int32.toInt k)))])) (fun _ kont => XS.iload X112.here hx rfl (hb hby at_234) rfl kont) ?_
            refine own_st (S' := T112.setTop (mkF m 238 #[.val (.int p1), .val (.int p2), .val (.int p3), .val (.long p4), .second, .val (.int p5), .val (.int p6), .val (.int k), .val (.int mm), .val (.ref a102), .val (.int dd), .val (.int md), .val (.long sp), .second, .val (.int (own_b (0 < Int64.toInt sp ∧ Int64.toInt sp < Int32.toInt k))), .val (.int (own_b (0 < Int64.toInt sp ∧ Int64.toInt sp < Int32.toInt k))), .val (.int t), .val (.long w0), .second, .val (.long w1), .second, .val (.ref a108), .val (.int (own_b (Int32.toInt k ≤ Int64.toInt (own_sum w0 w1)))), .val (.int (own_b (0 < Int64.toInt (Int32.toInt64 t) ∧ Int64.toInt (Int32.toInt64 t) < Int32.toInt k))), .val (.int (1 : Int32))] [(.int (own_b (0 < Int64.toInt sp ∧ Int64.toInt sp < Int32.toInt k))), (.int (own_b (0 < Int64.toInt sp ∧ Int64.toInt sp < Int32.toInt k)))])) (fun _ kont => XS.iload X112.here hx rfl (hb hby at_236) rfl kont) ?_
            refine own_st (S' := T112.setTop (mkF m 241 #[.val (.int p1), .val (.int p2), .val (.int p3), .val (.long p4), .second, .val (.int p5), .val (.int p6), .val (.int k), .val (.int mm), .val (.ref a102), .val (.int dd), .val (.int md), .val (.long sp), .second, .val (.int (own_b (0 < Int64.toInt sp ∧ Int64.toInt sp < Int32.toInt k))), .val (.int (own_b (0 < Int64.toInt sp ∧ Int64.toInt sp < Int32.toInt k))), .val (.int t), .val (.long w0), .second, .val (.long w1), .second, .val (.ref a108), .val (.int (own_b (Int32.toInt k ≤ Int64.toInt (own_sum w0 w1)))), .val (.int (own_b (0 < Int64.toInt (Int32.toInt64 t) ∧ Int64.toInt (Int32.toInt64 t) < Int32.toInt k))), .val (.int (1 : Int32))] [])) (fun _ kont => XS.icmpNo X112.here hx rfl (hb hby at_238) rfl ((own_i_ne _ _).trans (decide_eq_false (p := Int32.toInt (own_b (0 < Int64.toInt sp ∧ Int64.toInt sp < Int32.toInt k)) ≠ Int32.toInt (own_b (0 < Int64.toInt sp ∧ Int64.toInt sp < Int32.toInt k))) (fun h => h rfl))) kont) ?_
            refine own_st (S' := T112.setTop (mkF m 243 #[.val (.int p1), .val (.int p2), .val (.int p3), .val (.long p4), .second, .val (.int p5), .val (.int p6), .val (.int k), .val (.int mm), .val (.ref a102), .val (.int dd), .val (.int md), .val (.long sp), .second, .val (.int (own_b (0 < Int64.toInt sp ∧ Int64.toInt sp < Int32.toInt k))), .val (.int (own_b (0 < Int64.toInt sp ∧ Int64.toInt sp < Int32.toInt k))), .val (.int t), .val (.long w0), .second, .val (.long w1), .second, .val (.ref a108), .val (.int (own_b (Int32.toInt k ≤ Int64.toInt (own_sum w0 w1)))), .val (.int (own_b (0 < Int64.toInt (Int32.toInt64 t) ∧ Int64.toInt (Int32.toInt64 t) < Int32.toInt k))), .val (.int (1 : Int32))] [(.int (1 : Int32))])) (fun _ kont => XS.iload X112.here hx rfl (hb hby at_241) rfl kont) ?_
            refine own_st (S' := T112.setTop (mkF m 246 #[.val (.int p1), .val (.int p2), .val (.int p3), .val (.long p4), .second, .val (.int p5), .val (.int p6), .val (.int k), .val (.int mm), .val (.ref a102), .val (.int dd), .val (.int md), .val (.long sp), .second, .val (.int (own_b (0 < Int64.toInt sp ∧ Int64.toInt sp < Int32.toInt k))), .val (.int (own_b (0 < Int64.toInt sp ∧ Int64.toInt sp < Int32.toInt k))), .val (.int t), .val (.long w0), .second, .val (.long w1), .second, .val (.ref a108), .val (.int (own_b (Int32.toInt k ≤ Int64.toInt (own_sum w0 w1)))), .val (.int (own_b (0 < Int64.toInt (Int32.toInt64 t) ∧ Int64.toInt (Int32.toInt64 t) < Int32.toInt k))), .val (.int (1 : Int32))] [])) (fun _ kont => XS.ifNo X112.here hx rfl (hb hby at_243) rfl ((own_z_eq _).trans (decide_eq_false (p := 1 = 0) (by decide))) kont) ?_
            refine own_st (S' := T112.setTop (mkF m 247 #[.val (.int p1), .val (.int p2), .val (.int p3), .val (.long p4), .second, .val (.int p5), .val (.int p6), .val (.int k), .val (.int mm), .val (.ref a102), .val (.int dd), .val (.int md), .val (.long sp), .second, .val (.int (own_b (0 < Int64.toInt sp ∧ Int64.toInt sp < Int32.toInt k))), .val (.int (own_b (0 < Int64.toInt sp ∧ Int64.toInt sp < Int32.toInt k))), .val (.int t), .val (.long w0), .second, .val (.long w1), .second, .val (.ref a108), .val (.int (own_b (Int32.toInt k ≤ Int64.toInt (own_sum w0 w1)))), .val (.int (own_b (0 < Int64.toInt (Int32.toInt64 t) ∧ Int64.toInt (Int32.toInt64 t) < Int32.toInt k))), .val (.int (1 : Int32))] [(.int (1 : Int32))])) (fun _ kont => XS.iconst X112.here hx rfl (hb hby at_246) kont) ?_
            refine own_st (S' := T112.setTop (mkF m 251 #[.val (.int p1), .val (.int p2), .val (.int p3), .val (.long p4), .second, .val (.int p5), .val (.int p6), .val (.int k), .val (.int mm), .val (.ref a102), .val (.int dd), .val (.int md), .val (.long sp), .second, .val (.int (own_b (0 < Int64.toInt sp ∧ Int64.toInt sp < Int32.toInt k))), .val (.int (own_b (0 < Int64.toInt sp ∧ Int64.toInt sp < Int32.toInt k))), .val (.int t), .val (.long w0), .second, .val (.long w1), .second, .val (.ref a108), .val (.int (own_b (Int32.toInt k ≤ Int64.toInt (own_sum w0 w1)))), .val (.int (own_b (0 < Int64.toInt (Int32.toInt64 t) ∧ Int64.toInt (Int32.toInt64 t) < Int32.toInt k))), .val (.int (1 : Int32))] [(.int (1 : Int32))])) (fun _ kont => XS.goto X112.here hx rfl (pc0 := 247) (pc' := 251) rfl (hb hby at_247) (by decide) (by decide) kont) ?_
            refine own_end X112 (Q := (Q0 Z p1 p2 p3 p4 p5 p6 h0 n0)) (some (.int (1 : Int32))) Bd.notSynchronized (fun h => by rw [Bd.returns] at h; cases h) (fun fs hr => retN X112 hx (t := .boolean) Bd.returns (by simp) (hb hby at_251) hr) ?_ (by decide) (by decide)
            rw [hh112]
            exact ⟨rfl, Nd⟩
      · skip
        refine own_st (S' := T107.setTop (mkF m 138 #[.val (.int p1), .val (.int p2), .val (.int p3), .val (.long p4), .second, .val (.int p5), .val (.int p6), .val (.int k), .val (.int mm), .val (.ref a102), .val (.int dd), .val (.int md), .val (.long sp), .second, .val (.int (own_b (0 < Int64.toInt sp ∧ Int64.toInt sp < Int32.toInt k))), .val (.int (own_b (0 < Int64.toInt sp ∧ Int64.toInt sp < Int32.toInt k))), .val (.int t), .unset, .unset, .unset, .unset, .unset, .unset, .unset, .unset] [(.int t)])) (fun _ kont => XS.iload X107.here hx rfl (hb hby at_136) rfl kont) ?_
        refine own_st (S' := T107.setTop (mkF m 140 #[.val (.int p1), .val (.int p2), .val (.int p3), .val (.long p4), .second, .val (.int p5), .val (.int p6), .val (.int k), .val (.int mm), .val (.ref a102), .val (.int dd), .val (.int md), .val (.long sp), .second, .val (.int (own_b (0 < Int64.toInt sp ∧ Int64.toInt sp < Int32.toInt k))), .val (.int (own_b (0 < Int64.toInt sp ∧ Int64.toInt sp < Int32.toInt k))), .val (.int t), .unset, .unset, .unset, .unset, .unset, .unset, .unset, .unset] [(.int (64 : Int32)), (.int t)])) (fun _ kont => XS.bipush X107.here hx rfl (hb hby at_138) kont) ?_
        by_cases hcc140 : Int32.toInt t < 64
        · skip
          refine own_st (S' := T107.setTop (mkF m 162 #[.val (.int p1), .val (.int p2), .val (.int p3), .val (.long p4), .second, .val (.int p5), .val (.int p6), .val (.int k), .val (.int mm), .val (.ref a102), .val (.int dd), .val (.int md), .val (.long sp), .second, .val (.int (own_b (0 < Int64.toInt sp ∧ Int64.toInt sp < Int32.toInt k))), .val (.int (own_b (0 < Int64.toInt sp ∧ Int64.toInt sp < Int32.toInt k))), .val (.int t), .unset, .unset, .unset, .unset, .unset, .unset, .unset, .unset] [])) (fun _ kont => XS.icmpYes X107.here hx rfl (pc0 := 140) (pc' := 162) rfl (hb hby at_140) rfl ((own_i_lt _ _).trans (decide_eq_true (p := Int32.toInt t < 64) (hcc140))) (by decide) (by decide) kont) ?_
          refine own_st (S' := T107.setTop (mkF m 163 #[.val (.int p1), .val (.int p2), .val (.int p3), .val (.long p4), .second, .val (.int p5), .val (.int p6), .val (.int k), .val (.int mm), .val (.ref a102), .val (.int dd), .val (.int md), .val (.long sp), .second, .val (.int (own_b (0 < Int64.toInt sp ∧ Int64.toInt sp < Int32.toInt k))), .val (.int (own_b (0 < Int64.toInt sp ∧ Int64.toInt sp < Int32.toInt k))), .val (.int t), .unset, .unset, .unset, .unset, .unset, .unset, .unset, .unset] [(.long (1 : Int64))])) (fun _ kont => XT.lconst X107.here hx rfl (hb hby at_162) kont) ?_
          refine own_st (S' := T107.setTop (mkF m 165 #[.val (.int p1), .val (.int p2), .val (.int p3), .val (.long p4), .second, .val (.int p5), .val (.int p6), .val (.int k), .val (.int mm), .val (.ref a102), .val (.int dd), .val (.int md), .val (.long sp), .second, .val (.int (own_b (0 < Int64.toInt sp ∧ Int64.toInt sp < Int32.toInt k))), .val (.int (own_b (0 < Int64.toInt sp ∧ Int64.toInt sp < Int32.toInt k))), .val (.int t), .unset, .unset, .unset, .unset, .unset, .unset, .unset, .unset] [(.int t), (.long (1 : Int64))])) (fun _ kont => XS.iload X107.here hx rfl (hb hby at_163) rfl kont) ?_
          refine own_st (S' := T107.setTop (mkF m 166 #[.val (.int p1), .val (.int p2), .val (.int p3), .val (.long p4), .second, .val (.int p5), .val (.int p6), .val (.int k), .val (.int mm), .val (.ref a102), .val (.int dd), .val (.int md), .val (.long sp), .second, .val (.int (own_b (0 < Int64.toInt sp ∧ Int64.toInt sp < Int32.toInt k))), .val (.int (own_b (0 < Int64.toInt sp ∧ Int64.toInt sp < Int32.toInt k))), .val (.int t), .unset, .unset, .unset, .unset, .unset, .unset, .unset, .unset] [(.long ((1 : Int64) <<< (Int32.toInt64 t &&& 63)))])) (fun _ kont => XT.lshl X107.here hx rfl (hb hby at_165) rfl kont) ?_
          refine own_st (S' := T107.setTop (mkF m 167 #[.val (.int p1), .val (.int p2), .val (.int p3), .val (.long p4), .second, .val (.int p5), .val (.int p6), .val (.int k), .val (.int mm), .val (.ref a102), .val (.int dd), .val (.int md), .val (.long sp), .second, .val (.int (own_b (0 < Int64.toInt sp ∧ Int64.toInt sp < Int32.toInt k))), .val (.int (own_b (0 < Int64.toInt sp ∧ Int64.toInt sp < Int32.toInt k))), .val (.int t), .unset, .unset, .unset, .unset, .unset, .unset, .unset, .unset] [(.long (1 : Int64)), (.long ((1 : Int64) <<< (Int32.toInt64 t &&& 63)))])) (fun _ kont => XT.lconst X107.here hx rfl (hb hby at_166) kont) ?_
          refine own_st (S' := T107.setTop (mkF m 168 #[.val (.int p1), .val (.int p2), .val (.int p3), .val (.long p4), .second, .val (.int p5), .val (.int p6), .val (.int k), .val (.int mm), .val (.ref a102), .val (.int dd), .val (.int md), .val (.long sp), .second, .val (.int (own_b (0 < Int64.toInt sp ∧ Int64.toInt sp < Int32.toInt k))), .val (.int (own_b (0 < Int64.toInt sp ∧ Int64.toInt sp < Int32.toInt k))), .val (.int t), .unset, .unset, .unset, .unset, .unset, .unset, .unset, .unset] [(.long (((1 : Int64) <<< (Int32.toInt64 t &&& 63)) - (1 : Int64)))])) (fun _ kont => XT.lsub X107.here hx rfl (hb hby at_167) rfl kont) ?_
          refine own_st (S' := T107.setTop (mkF m 170 #[.val (.int p1), .val (.int p2), .val (.int p3), .val (.long p4), .second, .val (.int p5), .val (.int p6), .val (.int k), .val (.int mm), .val (.ref a102), .val (.int dd), .val (.int md), .val (.long sp), .second, .val (.int (own_b (0 < Int64.toInt sp ∧ Int64.toInt sp < Int32.toInt k))), .val (.int (own_b (0 < Int64.toInt sp ∧ Int64.toInt sp < Int32.toInt k))), .val (.int t), .val (.long (((1 : Int64) <<< (Int32.toInt64 t &&& 63)) - (1 : Int64))), .second, .unset, .unset, .unset, .unset, .unset, .unset] [])) (fun _ kont => XT.lstore X107.here hx rfl (hb hby at_168) rfl (l' := #[.val (.int p1), .val (.int p2), .val (.int p3), .val (.long p4), .second, .val (.int p5), .val (.int p6), .val (.int k), .val (.int mm), .val (.ref a102), .val (.int dd), .val (.int md), .val (.long sp), .second, .val (.int (own_b (0 < Int64.toInt sp ∧ Int64.toInt sp < Int32.toInt k))), .val (.int (own_b (0 < Int64.toInt sp ∧ Int64.toInt sp < Int32.toInt k))), .val (.int t), .val (.long (((1 : Int64) <<< (Int32.toInt64 t &&& 63)) - (1 : Int64))), .second, .unset, .unset, .unset, .unset, .unset, .unset]) rfl kont) ?_
          refine own_st (S' := T107.setTop (mkF m 171 #[.val (.int p1), .val (.int p2), .val (.int p3), .val (.long p4), .second, .val (.int p5), .val (.int p6), .val (.int k), .val (.int mm), .val (.ref a102), .val (.int dd), .val (.int md), .val (.long sp), .second, .val (.int (own_b (0 < Int64.toInt sp ∧ Int64.toInt sp < Int32.toInt k))), .val (.int (own_b (0 < Int64.toInt sp ∧ Int64.toInt sp < Int32.toInt k))), .val (.int t), .val (.long (((1 : Int64) <<< (Int32.toInt64 t &&& 63)) - (1 : Int64))), .second, .unset, .unset, .unset, .unset, .unset, .unset] [(.long (0 : Int64))])) (fun _ kont => XT.lconst X107.here hx rfl (hb hby at_170) kont) ?_
          refine own_st (S' := T107.setTop (mkF m 173 #[.val (.int p1), .val (.int p2), .val (.int p3), .val (.long p4), .second, .val (.int p5), .val (.int p6), .val (.int k), .val (.int mm), .val (.ref a102), .val (.int dd), .val (.int md), .val (.long sp), .second, .val (.int (own_b (0 < Int64.toInt sp ∧ Int64.toInt sp < Int32.toInt k))), .val (.int (own_b (0 < Int64.toInt sp ∧ Int64.toInt sp < Int32.toInt k))), .val (.int t), .val (.long (((1 : Int64) <<< (Int32.toInt64 t &&& 63)) - (1 : Int64))), .second, .val (.long (0 : Int64)), .second, .unset, .unset, .unset, .unset] [])) (fun _ kont => XT.lstore X107.here hx rfl (hb hby at_171) rfl (l' := #[.val (.int p1), .val (.int p2), .val (.int p3), .val (.long p4), .second, .val (.int p5), .val (.int p6), .val (.int k), .val (.int mm), .val (.ref a102), .val (.int dd), .val (.int md), .val (.long sp), .second, .val (.int (own_b (0 < Int64.toInt sp ∧ Int64.toInt sp < Int32.toInt k))), .val (.int (own_b (0 < Int64.toInt sp ∧ Int64.toInt sp < Int32.toInt k))), .val (.int t), .val (.long (((1 : Int64) <<< (Int32.toInt64 t &&& 63)) - (1 : Int64))), .second, .val (.long (0 : Int64)), .second, .unset, .unset, .unset, .unset]) rfl kont) ?_
          exact fin3 ⟨((((1 : Int64) <<< (Int32.toInt64 t &&& 63)) - (1 : Int64)), (0 : Int64)), own_lo' t (by omega) (by omega)⟩
        · skip
          refine own_st (S' := T107.setTop (mkF m 143 #[.val (.int p1), .val (.int p2), .val (.int p3), .val (.long p4), .second, .val (.int p5), .val (.int p6), .val (.int k), .val (.int mm), .val (.ref a102), .val (.int dd), .val (.int md), .val (.long sp), .second, .val (.int (own_b (0 < Int64.toInt sp ∧ Int64.toInt sp < Int32.toInt k))), .val (.int (own_b (0 < Int64.toInt sp ∧ Int64.toInt sp < Int32.toInt k))), .val (.int t), .unset, .unset, .unset, .unset, .unset, .unset, .unset, .unset] [])) (fun _ kont => XS.icmpNo X107.here hx rfl (hb hby at_140) rfl ((own_i_lt _ _).trans (decide_eq_false (p := Int32.toInt t < 64) (hcc140))) kont) ?_
          refine own_st (S' := T107.setTop (mkF m 146 #[.val (.int p1), .val (.int p2), .val (.int p3), .val (.long p4), .second, .val (.int p5), .val (.int p6), .val (.int k), .val (.int mm), .val (.ref a102), .val (.int dd), .val (.int md), .val (.long sp), .second, .val (.int (own_b (0 < Int64.toInt sp ∧ Int64.toInt sp < Int32.toInt k))), .val (.int (own_b (0 < Int64.toInt sp ∧ Int64.toInt sp < Int32.toInt k))), .val (.int t), .unset, .unset, .unset, .unset, .unset, .unset, .unset, .unset] [(.long (-1 : Int64))])) (fun _ kont => X107.ldc2J hx hown (mvT hZ (hw _ (List.mem_of_getElem? (i := 36) rfl))) rfl (hb hby at_143) kont) ?_
          refine own_st (S' := T107.setTop (mkF m 148 #[.val (.int p1), .val (.int p2), .val (.int p3), .val (.long p4), .second, .val (.int p5), .val (.int p6), .val (.int k), .val (.int mm), .val (.ref a102), .val (.int dd), .val (.int md), .val (.long sp), .second, .val (.int (own_b (0 < Int64.toInt sp ∧ Int64.toInt sp < Int32.toInt k))), .val (.int (own_b (0 < Int64.toInt sp ∧ Int64.toInt sp < Int32.toInt k))), .val (.int t), .val (.long (-1 : Int64)), .second, .unset, .unset, .unset, .unset, .unset, .unset] [])) (fun _ kont => XT.lstore X107.here hx rfl (hb hby at_146) rfl (l' := #[.val (.int p1), .val (.int p2), .val (.int p3), .val (.long p4), .second, .val (.int p5), .val (.int p6), .val (.int k), .val (.int mm), .val (.ref a102), .val (.int dd), .val (.int md), .val (.long sp), .second, .val (.int (own_b (0 < Int64.toInt sp ∧ Int64.toInt sp < Int32.toInt k))), .val (.int (own_b (0 < Int64.toInt sp ∧ Int64.toInt sp < Int32.toInt k))), .val (.int t), .val (.long (-1 : Int64)), .second, .unset, .unset, .unset, .unset, .unset, .unset]) rfl kont) ?_
          refine own_st (S' := T107.setTop (mkF m 149 #[.val (.int p1), .val (.int p2), .val (.int p3), .val (.long p4), .second, .val (.int p5), .val (.int p6), .val (.int k), .val (.int mm), .val (.ref a102), .val (.int dd), .val (.int md), .val (.long sp), .second, .val (.int (own_b (0 < Int64.toInt sp ∧ Int64.toInt sp < Int32.toInt k))), .val (.int (own_b (0 < Int64.toInt sp ∧ Int64.toInt sp < Int32.toInt k))), .val (.int t), .val (.long (-1 : Int64)), .second, .unset, .unset, .unset, .unset, .unset, .unset] [(.long (1 : Int64))])) (fun _ kont => XT.lconst X107.here hx rfl (hb hby at_148) kont) ?_
          refine own_st (S' := T107.setTop (mkF m 151 #[.val (.int p1), .val (.int p2), .val (.int p3), .val (.long p4), .second, .val (.int p5), .val (.int p6), .val (.int k), .val (.int mm), .val (.ref a102), .val (.int dd), .val (.int md), .val (.long sp), .second, .val (.int (own_b (0 < Int64.toInt sp ∧ Int64.toInt sp < Int32.toInt k))), .val (.int (own_b (0 < Int64.toInt sp ∧ Int64.toInt sp < Int32.toInt k))), .val (.int t), .val (.long (-1 : Int64)), .second, .unset, .unset, .unset, .unset, .unset, .unset] [(.int t), (.long (1 : Int64))])) (fun _ kont => XS.iload X107.here hx rfl (hb hby at_149) rfl kont) ?_
          refine own_st (S' := T107.setTop (mkF m 153 #[.val (.int p1), .val (.int p2), .val (.int p3), .val (.long p4), .second, .val (.int p5), .val (.int p6), .val (.int k), .val (.int mm), .val (.ref a102), .val (.int dd), .val (.int md), .val (.long sp), .second, .val (.int (own_b (0 < Int64.toInt sp ∧ Int64.toInt sp < Int32.toInt k))), .val (.int (own_b (0 < Int64.toInt sp ∧ Int64.toInt sp < Int32.toInt k))), .val (.int t), .val (.long (-1 : Int64)), .second, .unset, .unset, .unset, .unset, .unset, .unset] [(.int (64 : Int32)), (.int t), (.long (1 : Int64))])) (fun _ kont => XS.bipush X107.here hx rfl (hb hby at_151) kont) ?_
          refine own_st (S' := T107.setTop (mkF m 154 #[.val (.int p1), .val (.int p2), .val (.int p3), .val (.long p4), .second, .val (.int p5), .val (.int p6), .val (.int k), .val (.int mm), .val (.ref a102), .val (.int dd), .val (.int md), .val (.long sp), .second, .val (.int (own_b (0 < Int64.toInt sp ∧ Int64.toInt sp < Int32.toInt k))), .val (.int (own_b (0 < Int64.toInt sp ∧ Int64.toInt sp < Int32.toInt k))), .val (.int t), .val (.long (-1 : Int64)), .second, .unset, .unset, .unset, .unset, .unset, .unset] [(.int (t - (64 : Int32))), (.long (1 : Int64))])) (fun _ kont => XS.isub X107.here hx rfl (hb hby at_153) rfl kont) ?_
          refine own_st (S' := T107.setTop (mkF m 155 #[.val (.int p1), .val (.int p2), .val (.int p3), .val (.long p4), .second, .val (.int p5), .val (.int p6), .val (.int k), .val (.int mm), .val (.ref a102), .val (.int dd), .val (.int md), .val (.long sp), .second, .val (.int (own_b (0 < Int64.toInt sp ∧ Int64.toInt sp < Int32.toInt k))), .val (.int (own_b (0 < Int64.toInt sp ∧ Int64.toInt sp < Int32.toInt k))), .val (.int t), .val (.long (-1 : Int64)), .second, .unset, .unset, .unset, .unset, .unset, .unset] [(.long ((1 : Int64) <<< (Int32.toInt64 (t - (64 : Int32)) &&& 63)))])) (fun _ kont => XT.lshl X107.here hx rfl (hb hby at_154) rfl kont) ?_
          refine own_st (S' := T107.setTop (mkF m 156 #[.val (.int p1), .val (.int p2), .val (.int p3), .val (.long p4), .second, .val (.int p5), .val (.int p6), .val (.int k), .val (.int mm), .val (.ref a102), .val (.int dd), .val (.int md), .val (.long sp), .second, .val (.int (own_b (0 < Int64.toInt sp ∧ Int64.toInt sp < Int32.toInt k))), .val (.int (own_b (0 < Int64.toInt sp ∧ Int64.toInt sp < Int32.toInt k))), .val (.int t), .val (.long (-1 : Int64)), .second, .unset, .unset, .unset, .unset, .unset, .unset] [(.long (1 : Int64)), (.long ((1 : Int64) <<< (Int32.toInt64 (t - (64 : Int32)) &&& 63)))])) (fun _ kont => XT.lconst X107.here hx rfl (hb hby at_155) kont) ?_
          refine own_st (S' := T107.setTop (mkF m 157 #[.val (.int p1), .val (.int p2), .val (.int p3), .val (.long p4), .second, .val (.int p5), .val (.int p6), .val (.int k), .val (.int mm), .val (.ref a102), .val (.int dd), .val (.int md), .val (.long sp), .second, .val (.int (own_b (0 < Int64.toInt sp ∧ Int64.toInt sp < Int32.toInt k))), .val (.int (own_b (0 < Int64.toInt sp ∧ Int64.toInt sp < Int32.toInt k))), .val (.int t), .val (.long (-1 : Int64)), .second, .unset, .unset, .unset, .unset, .unset, .unset] [(.long (((1 : Int64) <<< (Int32.toInt64 (t - (64 : Int32)) &&& 63)) - (1 : Int64)))])) (fun _ kont => XT.lsub X107.here hx rfl (hb hby at_156) rfl kont) ?_
          refine own_st (S' := T107.setTop (mkF m 159 #[.val (.int p1), .val (.int p2), .val (.int p3), .val (.long p4), .second, .val (.int p5), .val (.int p6), .val (.int k), .val (.int mm), .val (.ref a102), .val (.int dd), .val (.int md), .val (.long sp), .second, .val (.int (own_b (0 < Int64.toInt sp ∧ Int64.toInt sp < Int32.toInt k))), .val (.int (own_b (0 < Int64.toInt sp ∧ Int64.toInt sp < Int32.toInt k))), .val (.int t), .val (.long (-1 : Int64)), .second, .val (.long (((1 : Int64) <<< (Int32.toInt64 (t - (64 : Int32)) &&& 63)) - (1 : Int64))), .second, .unset, .unset, .unset, .unset] [])) (fun _ kont => XT.lstore X107.here hx rfl (hb hby at_157) rfl (l' := #[.val (.int p1), .val (.int p2), .val (.int p3), .val (.long p4), .second, .val (.int p5), .val (.int p6), .val (.int k), .val (.int mm), .val (.ref a102), .val (.int dd), .val (.int md), .val (.long sp), .second, .val (.int (own_b (0 < Int64.toInt sp ∧ Int64.toInt sp < Int32.toInt k))), .val (.int (own_b (0 < Int64.toInt sp ∧ Int64.toInt sp < Int32.toInt k))), .val (.int t), .val (.long (-1 : Int64)), .second, .val (.long (((1 : Int64) <<< (Int32.toInt64 (t - (64 : Int32)) &&& 63)) - (1 : Int64))), .second, .unset, .unset, .unset, .unset]) rfl kont) ?_
          refine own_st (S' := T107.setTop (mkF m 173 #[.val (.int p1), .val (.int p2), .val (.int p3), .val (.long p4), .second, .val (.int p5), .val (.int p6), .val (.int k), .val (.int mm), .val (.ref a102), .val (.int dd), .val (.int md), .val (.long sp), .second, .val (.int (own_b (0 < Int64.toInt sp ∧ Int64.toInt sp < Int32.toInt k))), .val (.int (own_b (0 < Int64.toInt sp ∧ Int64.toInt sp < Int32.toInt k))), .val (.int t), .val (.long (-1 : Int64)), .second, .val (.long (((1 : Int64) <<< (Int32.toInt64 (t - (64 : Int32)) &&& 63)) - (1 : Int64))), .second, .unset, .unset, .unset, .unset] [])) (fun _ kont => XS.goto X107.here hx rfl (pc0 := 159) (pc' := 173) rfl (hb hby at_159) (by decide) (by decide) kont) ?_
          exact fin3 ⟨((-1 : Int64), (((1 : Int64) <<< (Int32.toInt64 (t - (64 : Int32)) &&& 63)) - (1 : Int64))), own_hi' t (by omega) (by omega)⟩
    · skip
      refine own_st (S' := T103.setTop (mkF m 54 #[.val (.int p1), .val (.int p2), .val (.int p3), .val (.long p4), .second, .val (.int p5), .val (.int p6), .val (.int k), .val (.int mm), .val (.ref a102), .val (.int dd), .val (.int md), .unset, .unset, .unset, .unset, .unset, .unset, .unset, .unset, .unset, .unset, .unset, .unset, .unset] [(.int md)])) (fun _ kont => XS.iload X103.here hx rfl (hb hby at_52) rfl kont) ?_
      refine own_st (S' := T103.setTop (mkF m 55 #[.val (.int p1), .val (.int p2), .val (.int p3), .val (.long p4), .second, .val (.int p5), .val (.int p6), .val (.int k), .val (.int mm), .val (.ref a102), .val (.int dd), .val (.int md), .unset, .unset, .unset, .unset, .unset, .unset, .unset, .unset, .unset, .unset, .unset, .unset, .unset] [(.int (1 : Int32)), (.int md)])) (fun _ kont => XS.iconst X103.here hx rfl (hb hby at_54) kont) ?_
      by_cases hcb55 : Int32.toInt md ≠ 1
      · skip
        refine own_st (S' := T103.setTop (mkF m 70 #[.val (.int p1), .val (.int p2), .val (.int p3), .val (.long p4), .second, .val (.int p5), .val (.int p6), .val (.int k), .val (.int mm), .val (.ref a102), .val (.int dd), .val (.int md), .unset, .unset, .unset, .unset, .unset, .unset, .unset, .unset, .unset, .unset, .unset, .unset, .unset] [])) (fun _ kont => XS.icmpYes X103.here hx rfl (pc0 := 55) (pc' := 70) rfl (hb hby at_55) rfl ((own_i_ne _ _).trans (decide_eq_true (p := Int32.toInt md ≠ 1) (hcb55))) (by decide) (by decide) kont) ?_
        refine own_st (S' := T103.setTop (mkF m 72 #[.val (.int p1), .val (.int p2), .val (.int p3), .val (.long p4), .second, .val (.int p5), .val (.int p6), .val (.int k), .val (.int mm), .val (.ref a102), .val (.int dd), .val (.int md), .unset, .unset, .unset, .unset, .unset, .unset, .unset, .unset, .unset, .unset, .unset, .unset, .unset] [(.int md)])) (fun _ kont => XS.iload X103.here hx rfl (hb hby at_70) rfl kont) ?_
        refine own_st (S' := T103.setTop (mkF m 73 #[.val (.int p1), .val (.int p2), .val (.int p3), .val (.long p4), .second, .val (.int p5), .val (.int p6), .val (.int k), .val (.int mm), .val (.ref a102), .val (.int dd), .val (.int md), .unset, .unset, .unset, .unset, .unset, .unset, .unset, .unset, .unset, .unset, .unset, .unset, .unset] [(.int (2 : Int32)), (.int md)])) (fun _ kont => XS.iconst X103.here hx rfl (hb hby at_72) kont) ?_
        by_cases hcb73 : Int32.toInt md ≠ 2
        · skip
          refine own_st (S' := T103.setTop (mkF m 84 #[.val (.int p1), .val (.int p2), .val (.int p3), .val (.long p4), .second, .val (.int p5), .val (.int p6), .val (.int k), .val (.int mm), .val (.ref a102), .val (.int dd), .val (.int md), .unset, .unset, .unset, .unset, .unset, .unset, .unset, .unset, .unset, .unset, .unset, .unset, .unset] [])) (fun _ kont => XS.icmpYes X103.here hx rfl (pc0 := 73) (pc' := 84) rfl (hb hby at_73) rfl ((own_i_ne _ _).trans (decide_eq_true (p := Int32.toInt md ≠ 2) (hcb73))) (by decide) (by decide) kont) ?_
          refine own_st (S' := T103.setTop (mkF m 85 #[.val (.int p1), .val (.int p2), .val (.int p3), .val (.long p4), .second, .val (.int p5), .val (.int p6), .val (.int k), .val (.int mm), .val (.ref a102), .val (.int dd), .val (.int md), .unset, .unset, .unset, .unset, .unset, .unset, .unset, .unset, .unset, .unset, .unset, .unset, .unset] [(.long p4)])) (fun _ kont => XT.lloadN X103.here hx rfl (hb hby at_84) rfl kont) ?_
          refine own_st (S' := T103.setTop (mkF m 87 #[.val (.int p1), .val (.int p2), .val (.int p3), .val (.long p4), .second, .val (.int p5), .val (.int p6), .val (.int k), .val (.int mm), .val (.ref a102), .val (.int dd), .val (.int md), .val (.long p4), .second, .unset, .unset, .unset, .unset, .unset, .unset, .unset, .unset, .unset, .unset, .unset] [])) (fun _ kont => XT.lstore X103.here hx rfl (hb hby at_85) rfl (l' := #[.val (.int p1), .val (.int p2), .val (.int p3), .val (.long p4), .second, .val (.int p5), .val (.int p6), .val (.int k), .val (.int mm), .val (.ref a102), .val (.int dd), .val (.int md), .val (.long p4), .second, .unset, .unset, .unset, .unset, .unset, .unset, .unset, .unset, .unset, .unset, .unset]) rfl kont) ?_
          exact fin p4
        · skip
          refine own_st (S' := T103.setTop (mkF m 76 #[.val (.int p1), .val (.int p2), .val (.int p3), .val (.long p4), .second, .val (.int p5), .val (.int p6), .val (.int k), .val (.int mm), .val (.ref a102), .val (.int dd), .val (.int md), .unset, .unset, .unset, .unset, .unset, .unset, .unset, .unset, .unset, .unset, .unset, .unset, .unset] [])) (fun _ kont => XS.icmpNo X103.here hx rfl (hb hby at_73) rfl ((own_i_ne _ _).trans (decide_eq_false (p := Int32.toInt md ≠ 2) (hcb73))) kont) ?_
          refine own_st (S' := T103.setTop (mkF m 78 #[.val (.int p1), .val (.int p2), .val (.int p3), .val (.long p4), .second, .val (.int p5), .val (.int p6), .val (.int k), .val (.int mm), .val (.ref a102), .val (.int dd), .val (.int md), .unset, .unset, .unset, .unset, .unset, .unset, .unset, .unset, .unset, .unset, .unset, .unset, .unset] [(.int dd)])) (fun _ kont => XS.iload X103.here hx rfl (hb hby at_76) rfl kont) ?_
          refine own_st (S' := T103.setTop (mkF m 79 #[.val (.int p1), .val (.int p2), .val (.int p3), .val (.long p4), .second, .val (.int p5), .val (.int p6), .val (.int k), .val (.int mm), .val (.ref a102), .val (.int dd), .val (.int md), .unset, .unset, .unset, .unset, .unset, .unset, .unset, .unset, .unset, .unset, .unset, .unset, .unset] [(.long (Int32.toInt64 dd))])) (fun _ kont => XT.i2l X103.here hx rfl (hb hby at_78) rfl kont) ?_
          refine own_st (S' := T103.setTop (mkF m 81 #[.val (.int p1), .val (.int p2), .val (.int p3), .val (.long p4), .second, .val (.int p5), .val (.int p6), .val (.int k), .val (.int mm), .val (.ref a102), .val (.int dd), .val (.int md), .val (.long (Int32.toInt64 dd)), .second, .unset, .unset, .unset, .unset, .unset, .unset, .unset, .unset, .unset, .unset, .unset] [])) (fun _ kont => XT.lstore X103.here hx rfl (hb hby at_79) rfl (l' := #[.val (.int p1), .val (.int p2), .val (.int p3), .val (.long p4), .second, .val (.int p5), .val (.int p6), .val (.int k), .val (.int mm), .val (.ref a102), .val (.int dd), .val (.int md), .val (.long (Int32.toInt64 dd)), .second, .unset, .unset, .unset, .unset, .unset, .unset, .unset, .unset, .unset, .unset, .unset]) rfl kont) ?_
          refine own_st (S' := T103.setTop (mkF m 87 #[.val (.int p1), .val (.int p2), .val (.int p3), .val (.long p4), .second, .val (.int p5), .val (.int p6), .val (.int k), .val (.int mm), .val (.ref a102), .val (.int dd), .val (.int md), .val (.long (Int32.toInt64 dd)), .second, .unset, .unset, .unset, .unset, .unset, .unset, .unset, .unset, .unset, .unset, .unset] [])) (fun _ kont => XS.goto X103.here hx rfl (pc0 := 81) (pc' := 87) rfl (hb hby at_81) (by decide) (by decide) kont) ?_
          exact fin (Int32.toInt64 dd)
      · skip
        refine own_st (S' := T103.setTop (mkF m 58 #[.val (.int p1), .val (.int p2), .val (.int p3), .val (.long p4), .second, .val (.int p5), .val (.int p6), .val (.int k), .val (.int mm), .val (.ref a102), .val (.int dd), .val (.int md), .unset, .unset, .unset, .unset, .unset, .unset, .unset, .unset, .unset, .unset, .unset, .unset, .unset] [])) (fun _ kont => XS.icmpNo X103.here hx rfl (hb hby at_55) rfl ((own_i_ne _ _).trans (decide_eq_false (p := Int32.toInt md ≠ 1) (hcb55))) kont) ?_
        refine own_st (S' := T103.setTop (mkF m 60 #[.val (.int p1), .val (.int p2), .val (.int p3), .val (.long p4), .second, .val (.int p5), .val (.int p6), .val (.int k), .val (.int mm), .val (.ref a102), .val (.int dd), .val (.int md), .unset, .unset, .unset, .unset, .unset, .unset, .unset, .unset, .unset, .unset, .unset, .unset, .unset] [(.int k)])) (fun _ kont => XS.iload X103.here hx rfl (hb hby at_58) rfl kont) ?_
        refine own_st (S' := T103.setTop (mkF m 61 #[.val (.int p1), .val (.int p2), .val (.int p3), .val (.long p4), .second, .val (.int p5), .val (.int p6), .val (.int k), .val (.int mm), .val (.ref a102), .val (.int dd), .val (.int md), .unset, .unset, .unset, .unset, .unset, .unset, .unset, .unset, .unset, .unset, .unset, .unset, .unset] [(.long (Int32.toInt64 k))])) (fun _ kont => XT.i2l X103.here hx rfl (hb hby at_60) rfl kont) ?_
        refine own_st (S' := T103.setTop (mkF m 63 #[.val (.int p1), .val (.int p2), .val (.int p3), .val (.long p4), .second, .val (.int p5), .val (.int p6), .val (.int k), .val (.int mm), .val (.ref a102), .val (.int dd), .val (.int md), .unset, .unset, .unset, .unset, .unset, .unset, .unset, .unset, .unset, .unset, .unset, .unset, .unset] [(.int dd), (.long (Int32.toInt64 k))])) (fun _ kont => XS.iload X103.here hx rfl (hb hby at_61) rfl kont) ?_
        refine own_st (S' := T103.setTop (mkF m 64 #[.val (.int p1), .val (.int p2), .val (.int p3), .val (.long p4), .second, .val (.int p5), .val (.int p6), .val (.int k), .val (.int mm), .val (.ref a102), .val (.int dd), .val (.int md), .unset, .unset, .unset, .unset, .unset, .unset, .unset, .unset, .unset, .unset, .unset, .unset, .unset] [(.long (Int32.toInt64 dd)), (.long (Int32.toInt64 k))])) (fun _ kont => XT.i2l X103.here hx rfl (hb hby at_63) rfl kont) ?_
        refine own_st (S' := T103.setTop (mkF m 65 #[.val (.int p1), .val (.int p2), .val (.int p3), .val (.long p4), .second, .val (.int p5), .val (.int p6), .val (.int k), .val (.int mm), .val (.ref a102), .val (.int dd), .val (.int md), .unset, .unset, .unset, .unset, .unset, .unset, .unset, .unset, .unset, .unset, .unset, .unset, .unset] [(.long ((Int32.toInt64 k) + (Int32.toInt64 dd)))])) (fun _ kont => XT.ladd X103.here hx rfl (hb hby at_64) rfl kont) ?_
        refine own_st (S' := T103.setTop (mkF m 67 #[.val (.int p1), .val (.int p2), .val (.int p3), .val (.long p4), .second, .val (.int p5), .val (.int p6), .val (.int k), .val (.int mm), .val (.ref a102), .val (.int dd), .val (.int md), .val (.long ((Int32.toInt64 k) + (Int32.toInt64 dd))), .second, .unset, .unset, .unset, .unset, .unset, .unset, .unset, .unset, .unset, .unset, .unset] [])) (fun _ kont => XT.lstore X103.here hx rfl (hb hby at_65) rfl (l' := #[.val (.int p1), .val (.int p2), .val (.int p3), .val (.long p4), .second, .val (.int p5), .val (.int p6), .val (.int k), .val (.int mm), .val (.ref a102), .val (.int dd), .val (.int md), .val (.long ((Int32.toInt64 k) + (Int32.toInt64 dd))), .second, .unset, .unset, .unset, .unset, .unset, .unset, .unset, .unset, .unset, .unset, .unset]) rfl kont) ?_
        refine own_st (S' := T103.setTop (mkF m 87 #[.val (.int p1), .val (.int p2), .val (.int p3), .val (.long p4), .second, .val (.int p5), .val (.int p6), .val (.int k), .val (.int mm), .val (.ref a102), .val (.int dd), .val (.int md), .val (.long ((Int32.toInt64 k) + (Int32.toInt64 dd))), .second, .unset, .unset, .unset, .unset, .unset, .unset, .unset, .unset, .unset, .unset, .unset] [])) (fun _ kont => XS.goto X103.here hx rfl (pc0 := 67) (pc' := 87) rfl (hb hby at_67) (by decide) (by decide) kont) ?_
        exact fin ((Int32.toInt64 k) + (Int32.toInt64 dd))
  · skip
    refine own_st (S' := s₁.setTop (mkF m 8 #[.val (.int p1), .val (.int p2), .val (.int p3), .val (.long p4), .second, .val (.int p5), .val (.int p6), .val (.int k0), .unset, .unset, .unset, .unset, .unset, .unset, .unset, .unset, .unset, .unset, .unset, .unset, .unset, .unset, .unset, .unset, .unset] [(.int k0)])) (fun _ kont => XS.iload X0.here hx rfl (hb hby at_6) rfl kont) ?_
    refine own_st (S' := s₁.setTop (mkF m 9 #[.val (.int p1), .val (.int p2), .val (.int p3), .val (.long p4), .second, .val (.int p5), .val (.int p6), .val (.int k0), .unset, .unset, .unset, .unset, .unset, .unset, .unset, .unset, .unset, .unset, .unset, .unset, .unset, .unset, .unset, .unset, .unset] [(.int (2 : Int32)), (.int k0)])) (fun _ kont => XS.iconst X0.here hx rfl (hb hby at_8) kont) ?_
    by_cases hca9 : Int32.toInt k0 ≥ 2
    · skip
      refine own_st (S' := s₁.setTop (mkF m 18 #[.val (.int p1), .val (.int p2), .val (.int p3), .val (.long p4), .second, .val (.int p5), .val (.int p6), .val (.int k0), .unset, .unset, .unset, .unset, .unset, .unset, .unset, .unset, .unset, .unset, .unset, .unset, .unset, .unset, .unset, .unset, .unset] [])) (fun _ kont => XS.icmpYes X0.here hx rfl (pc0 := 9) (pc' := 18) rfl (hb hby at_9) rfl ((own_i_ge _ _).trans (decide_eq_true (p := Int32.toInt k0 ≥ 2) (hca9))) (by decide) (by decide) kont) ?_
      exact fin ⟨k0, by first | ((try dsimp only); omega) | ((try dsimp only); have o : (2 : Int32).toInt = 2 := rfl; rw [Jvm.Kit.i32_add (by omega) (by omega)]; omega)⟩
    · skip
      refine own_st (S' := s₁.setTop (mkF m 12 #[.val (.int p1), .val (.int p2), .val (.int p3), .val (.long p4), .second, .val (.int p5), .val (.int p6), .val (.int k0), .unset, .unset, .unset, .unset, .unset, .unset, .unset, .unset, .unset, .unset, .unset, .unset, .unset, .unset, .unset, .unset, .unset] [])) (fun _ kont => XS.icmpNo X0.here hx rfl (hb hby at_9) rfl ((own_i_ge _ _).trans (decide_eq_false (p := Int32.toInt k0 ≥ 2) (hca9))) kont) ?_
      refine own_st (S' := s₁.setTop (mkF m 14 #[.val (.int p1), .val (.int p2), .val (.int p3), .val (.long p4), .second, .val (.int p5), .val (.int p6), .val (.int k0), .unset, .unset, .unset, .unset, .unset, .unset, .unset, .unset, .unset, .unset, .unset, .unset, .unset, .unset, .unset, .unset, .unset] [(.int k0)])) (fun _ kont => XS.iload X0.here hx rfl (hb hby at_12) rfl kont) ?_
      refine own_st (S' := s₁.setTop (mkF m 15 #[.val (.int p1), .val (.int p2), .val (.int p3), .val (.long p4), .second, .val (.int p5), .val (.int p6), .val (.int k0), .unset, .unset, .unset, .unset, .unset, .unset, .unset, .unset, .unset, .unset, .unset, .unset, .unset, .unset, .unset, .unset, .unset] [(.int (2 : Int32)), (.int k0)])) (fun _ kont => XS.iconst X0.here hx rfl (hb hby at_14) kont) ?_
      refine own_st (S' := s₁.setTop (mkF m 16 #[.val (.int p1), .val (.int p2), .val (.int p3), .val (.long p4), .second, .val (.int p5), .val (.int p6), .val (.int k0), .unset, .unset, .unset, .unset, .unset, .unset, .unset, .unset, .unset, .unset, .unset, .unset, .unset, .unset, .unset, .unset, .unset] [(.int (k0 + (2 : Int32)))])) (fun _ kont => XS.iadd X0.here hx rfl (hb hby at_15) rfl kont) ?_
      refine own_st (S' := s₁.setTop (mkF m 18 #[.val (.int p1), .val (.int p2), .val (.int p3), .val (.long p4), .second, .val (.int p5), .val (.int p6), .val (.int (k0 + (2 : Int32))), .unset, .unset, .unset, .unset, .unset, .unset, .unset, .unset, .unset, .unset, .unset, .unset, .unset, .unset, .unset, .unset, .unset] [])) (fun _ kont => XS.istore X0.here hx rfl (hb hby at_16) rfl (l' := #[.val (.int p1), .val (.int p2), .val (.int p3), .val (.long p4), .second, .val (.int p5), .val (.int p6), .val (.int (k0 + (2 : Int32))), .unset, .unset, .unset, .unset, .unset, .unset, .unset, .unset, .unset, .unset, .unset, .unset, .unset, .unset, .unset, .unset, .unset]) rfl kont) ?_
      exact fin ⟨(k0 + (2 : Int32)), by first | ((try dsimp only); omega) | ((try dsimp only); have o : (2 : Int32).toInt = 2 := rfl; rw [Jvm.Kit.i32_add (by omega) (by omega)]; omega)⟩
set_option maxRecDepth 65536 in
set_option maxHeartbeats 40000000 in
theorem comes_1 {Post : Tables → Env → Array Value → State → Outcome → State → Prop} (hpost : ∀ tb e args s v u, (limb_1_1.after args s (.returned v) u = true ∧ limb_1_2.after args s (.returned v) u = true ∧ True) → FrameEnd s (.returned v) u (Jvm.fieldLocs frame_1_writes args s ++ Jvm.arrayLocs frame_1_arrays args s ++ Jvm.staticLocs frame_1_statics s) 16 128 → Post tb e args s (.returned v) u) :
    ArmFor flags0 classFile x code maxLocals ret World_1 tables_1 room_1 Calls_1 rest_1 Pre_1 Post := by
  intro l hfl _ _ p e ha hc hk s m args below hf hA hF happ hP
  obtain ⟨hcalls, hrest, hpre⟩ := hP
  obtain ⟨-, -, -, hnamed, -, -, -, hat⟩ := (Spec.applies_iff hf).mp happ
  obtain ⟨hg, hn⟩ := and_e (Cond.before_iff.mp (show (Jvm.Cond.and given_1 narrow_1).before args s = true from hpre))
  obtain ⟨hg0, hr0⟩ := and_e hg
  obtain ⟨hk0, hr1⟩ := and_e hr0
  obtain ⟨hk1, hr2⟩ := and_e hr1
  obtain ⟨hk2, hr3⟩ := and_e hr2
  obtain ⟨hk3, hr4⟩ := and_e hr3
  obtain ⟨hk4, hr5⟩ := and_e hr4
  have hk5 := hr5
  obtain ⟨w0, w1, w2, w3, w4, w5, rfl⟩ : ∃ w0 w1 w2 w3 w4 w5 : Value, args = #[w0, w1, w2, w3, w4, w5] := by
    have hs : args.size = 6 := by simpa [Cond.value, given_1] using hg0
    obtain ⟨L⟩ := args
    match L, hs with
    | [w0, w1, w2, w3, w4, w5], _ => exact ⟨w0, w1, w2, w3, w4, w5, rfl⟩
  have hw := fun d (hd : d ∈ tables_1) => atoms_spec (ws := Jvm.Cond.code x code maxLocals ret :: tables_1) hat d (List.mem_cons_of_mem _ hd)
  obtain ⟨i0, ee0⟩ := is_v hk0
  obtain rfl : w0 = (.int i0) := Option.some.inj ee0
  obtain ⟨i1, ee1⟩ := is_v hk1
  obtain rfl : w1 = (.int i1) := Option.some.inj ee1
  obtain ⟨i2, ee2⟩ := is_v hk2
  obtain rfl : w2 = (.int i2) := Option.some.inj ee2
  obtain ⟨i3, ee3⟩ := isL_v hk3
  obtain rfl : w3 = (.long i3) := Option.some.inj ee3
  obtain ⟨i4, ee4⟩ := is_v hk4
  obtain rfl : w4 = (.int i4) := Option.some.inj ee4
  obtain ⟨i5, ee5⟩ := is_v hk5
  obtain rfl : w5 = (.int i5) := Option.some.inj ee5
  obtain ⟨n, o, h1, h2, h3, _, L, rfl, ⟨rfl, N⟩, hq⟩ := rm0 l s _ hw tables_1 i0 i1 i2 i3 i4 i5 s.heap s.heap.size (Nat.le_refl _) p e ha hc hk s m _ below hf ((Spec.applies_iff_loose hf).mp happ).1 ⟨rfl, State.Warmed39.refl s, rfl⟩ trivial
  refine ⟨n, _, h1, h2, h3, hpost _ _ _ _ _ _ ⟨Cond.after_iff.mpr rfl, Cond.after_iff.mpr (eq_i res_at (Term.int_eval (1)) rfl), trivial⟩ ⟨hq.1, hq.2.1, (hq.2.2.sift fun y hy => Or.inr (N y hy)).mono (by decide) (by decide)⟩⟩
theorem main_1_1 : Claimed_1_1 := comes_1 fun _ _ _ _ _ _ h hF => ⟨h.1, hF⟩
theorem main_1_2 : Claimed_1_2 := comes_1 fun _ _ _ _ _ _ h hF => ⟨h.2.1, hF⟩
end Jvm.Pilot.@@N@@
namespace Jvm.Pilot.@@N@@
open Jvm Jvm.ClassFile Sem Op Lib Jvm.Free Jvm.Stand Jvm.Pilot.@@N@@.Jvm.D
/-! MADE BY PROGRAM (witnessworld.py) out of the Statement's table words and the real class files: 18 classes; the members and pool entries that the words name. The judged class is class 1, her method 1. -/
namespace start1
open Jvm.ClassFile
def u (s : String) : CpInfo := .utf8 (stringToUtf16 s)
/-- a pool by its gaps: so many unusable entries, then the entry; so many at the end -/
def gap : Nat → List CpInfo → List CpInfo
  | 0, r => r
  | n + 1, r => .unusable :: gap n r
def poolList (es : List (Nat × CpInfo)) (last : Nat) : List CpInfo := es.foldr (fun e r => gap e.1 (e.2 :: r)) (gap last [])
def pool (es : List (Nat × CpInfo)) (last : Nat) : Array CpInfo := ⟨poolList es last⟩
def fileOf (pool : Array CpInfo) (this : Nat) (attrs : Array Attribute := #[]) (ms : Array MethodInfo := #[]) (fl : Nat := 33) (sup : Nat := 0) (ifs : Array Nat := #[]) (fds : Array FieldInfo := #[]) : ClassFile where
  minorVersion := 0
  majorVersion := 65
  constantPool := pool
  accessFlags := fl
  thisClass := this
  superClass := sup
  interfaces := ifs
  fields := fds
  methods := ms
  attributes := attrs
def plain (name : String) (sup : Option ClassId) : Class where
  name := name
  kind := .ordinary
  loader := none
  accessFlags := 33
  super := sup
  interfaces := #[]
  cf := none
  fields := #[]
  methods := #[]
  instanceTypes := #[]
  staticTypes := #[]
  resolved := #[]
  callSites := []
  init := .initialized
  statics := none
  mirror := none

def pool0 : Array CpInfo := pool [(5, u "<init>"), (0, u "()V"), (1, .class_ 10), (1, u "java/lang/Object")] 113

def k0c0 : Code := { maxStack := 0, maxLocals := 1, code := object_method_1_code, exceptionTable := #[], attributes := #[] }
def k0m0 : Method := { name := "<init>", desc := "()V", sig := { parameters := [], returnType := none }, accessFlags := 1, code := some k0c0 }
/-- java/lang/Object -/
def k0 : Class := { plain "java/lang/Object" none with
  accessFlags := 33
  interfaces := #[]
  cf := some (fileOf pool0 8 #[] #[{ accessFlags := 1, nameIndex := 5, descriptorIndex := 6, attributes := #[] }] 33 0 #[] #[])
  fields := #[]
  methods := #[k0m0]
  instanceTypes := #[]
  staticTypes := #[]
  resolved := Array.replicate 124 none
  statics := none }

def pool1 : Array CpInfo := pool [(2, .class_ 4), (1, u "java/lang/Object"), (0, u "<init>"), (0, u "()V"), (0, .integer 2147483647), (0, .methodref 9 10), (0, .class_ 11), (0, .nameAndType 12 13), (0, u "java/lang/Math"), (0, u "max"), (0, u "(II)I"), (0, .class_ 15), (0, u "com/example/mingle/mingle/KmAnonymity"), (0, .methodref 14 17), (0, .nameAndType 5 18), (0, u "(II)V"), (0, .methodref 14 20), (0, .nameAndType 21 22), (0, u "threatens"), (0, u "(J)Z"), (0, .long 18446744073709551615), (1, .methodref 14 26), (0, .nameAndType 27 28), (0, u "meets"), (0, u "([J)Z"), (0, .class_ 30), (0, u "com/example/mingle/mingle/KmAnonymityThreatensPinLaw"), (2, u "law"), (0, u "(IIIJII)Z")] 5

def k1m0 : Method := { name := "<init>", desc := "()V", sig := { parameters := [], returnType := none }, accessFlags := 2, code := none }
def k1c1 : Code := { maxStack := 6, maxLocals := 25, code := code, exceptionTable := #[], attributes := #[] }
def k1m1 : Method := { name := "law", desc := "(IIIJII)Z", sig := { parameters := [.int, .int, .int, .long, .int, .int], returnType := some .boolean }, accessFlags := 9, code := some k1c1 }
/-- com/example/mingle/mingle/KmAnonymityThreatensPinLaw -/
def k1 : Class := { plain "com/example/mingle/mingle/KmAnonymityThreatensPinLaw" (some 0) with
  accessFlags := 49
  interfaces := #[]
  cf := some (fileOf pool1 29 #[] #[{ accessFlags := 2, nameIndex := 5, descriptorIndex := 6, attributes := #[] }, { accessFlags := 9, nameIndex := 33, descriptorIndex := 34, attributes := #[] }] 49 2 #[] #[])
  fields := #[]
  methods := #[k1m0, k1m1]
  instanceTypes := #[]
  staticTypes := #[]
  resolved := Array.replicate 40 none
  statics := none }

def pool2 : Array CpInfo := pool [(1, .class_ 2), (0, u "java/lang/Math"), (1, .class_ 6), (1, u "java/lang/Object"), (0, u "<init>"), (0, u "()V"), (89, .class_ 100), (1, u "java/lang/Math$RandomNumberGeneratorHolder"), (71, u "negativeZeroFloatBits"), (0, u "J"), (2, u "negativeZeroDoubleBits"), (21, u "max"), (46, u "$assertionsDisabled"), (0, u "Z"), (88, u "(II)I"), (2, u "twoToTheDoubleScaleDown"), (0, u "D"), (4, u "twoToTheDoubleScaleUp"), (9, u "E"), (3, u "PI"), (2, u "TAU"), (2, u "DEGREES_TO_RADIANS"), (0, u "RADIANS_TO_DEGREES")] 94

def k2m0 : Method := { name := "<init>", desc := "()V", sig := { parameters := [], returnType := none }, accessFlags := 2, code := none }
def k2c1 : Code := { maxStack := 2, maxLocals := 2, code := jdk_29_method_65_code, exceptionTable := #[], attributes := #[] }
def k2m1 : Method := { name := "max", desc := "(II)I", sig := { parameters := [.int, .int], returnType := some .int }, accessFlags := 9, code := some k2c1 }
/-- java/lang/Math -/
def k2 : Class := { plain "java/lang/Math" (some 0) with
  accessFlags := 49
  interfaces := #[]
  cf := some (fileOf pool2 1 #[.nestMembers #[98]] #[{ accessFlags := 2, nameIndex := 7, descriptorIndex := 8, attributes := #[] }, { accessFlags := 9, nameIndex := 198, descriptorIndex := 335, attributes := #[] }] 49 4 #[] #[{ accessFlags := 25, nameIndex := 354, descriptorIndex := 339, attributes := #[] }, { accessFlags := 25, nameIndex := 358, descriptorIndex := 339, attributes := #[] }, { accessFlags := 25, nameIndex := 361, descriptorIndex := 339, attributes := #[] }, { accessFlags := 26, nameIndex := 364, descriptorIndex := 339, attributes := #[] }, { accessFlags := 26, nameIndex := 365, descriptorIndex := 339, attributes := #[] }, { accessFlags := 26, nameIndex := 172, descriptorIndex := 173, attributes := #[] }, { accessFlags := 26, nameIndex := 176, descriptorIndex := 173, attributes := #[] }, { accessFlags := 8, nameIndex := 344, descriptorIndex := 339, attributes := #[] }, { accessFlags := 8, nameIndex := 338, descriptorIndex := 339, attributes := #[] }, { accessFlags := 4120, nameIndex := 245, descriptorIndex := 246, attributes := #[] }])
  fields := #[{ name := "E", type := .double, accessFlags := 25, slot := 0, constantValue := 0 }, { name := "PI", type := .double, accessFlags := 25, slot := 1, constantValue := 0 }, { name := "TAU", type := .double, accessFlags := 25, slot := 2, constantValue := 0 }, { name := "DEGREES_TO_RADIANS", type := .double, accessFlags := 26, slot := 3, constantValue := 0 }, { name := "RADIANS_TO_DEGREES", type := .double, accessFlags := 26, slot := 4, constantValue := 0 }, { name := "negativeZeroFloatBits", type := .long, accessFlags := 26, slot := 5, constantValue := 0 }, { name := "negativeZeroDoubleBits", type := .long, accessFlags := 26, slot := 6, constantValue := 0 }, { name := "twoToTheDoubleScaleUp", type := .double, accessFlags := 8, slot := 7, constantValue := 0 }, { name := "twoToTheDoubleScaleDown", type := .double, accessFlags := 8, slot := 8, constantValue := 0 }, { name := "$assertionsDisabled", type := .boolean, accessFlags := 4120, slot := 9, constantValue := 0 }]
  methods := #[k2m0, k2m1]
  instanceTypes := #[]
  staticTypes := #[.double, .double, .double, .double, .double, .long, .long, .double, .double, .boolean]
  resolved := Array.replicate 460 none
  statics := none }

def pool3 : Array CpInfo := pool [(1, .class_ 2), (0, u "com/example/mingle/mingle/Guarantee"), (0, .class_ 4), (0, u "java/lang/Object")] 12

/-- com/example/mingle/mingle/Guarantee -/
def k3 : Class := { plain "com/example/mingle/mingle/Guarantee" (some 0) with
  accessFlags := 1536
  interfaces := #[]
  cf := some (fileOf pool3 1 #[] #[] 1536 3 #[] #[])
  fields := #[]
  methods := #[]
  instanceTypes := #[]
  staticTypes := #[]
  resolved := Array.replicate 17 none
  statics := none }

def pool4 : Array CpInfo := pool [(1, .methodref 2 3), (0, .class_ 4), (0, .nameAndType 5 6), (0, u "java/lang/Object"), (0, u "<init>"), (0, u "()V"), (9, .fieldref 17 18), (0, .class_ 19), (0, .nameAndType 20 21), (0, u "com/example/mingle/mingle/KmAnonymity"), (0, u "k"), (0, u "I"), (0, .fieldref 17 23), (0, .nameAndType 24 21), (0, u "m"), (20, .methodref 46 47), (0, .class_ 48), (0, .nameAndType 49 50), (0, u "java/lang/Long"), (0, u "bitCount"), (0, u "(J)I"), (50, .class_ 102), (0, u "com/example/mingle/mingle/Guarantee"), (0, u "(II)V"), (12, u "threatens"), (0, u "(J)Z"), (0, u "meets"), (0, u "([J)Z")] 55

def k4c0 : Code := { maxStack := 4, maxLocals := 3, code := prog_21_method_1_code, exceptionTable := #[], attributes := #[] }
def k4m0 : Method := { name := "<init>", desc := "(II)V", sig := { parameters := [.int, .int], returnType := none }, accessFlags := 0, code := some k4c0 }
def k4c1 : Code := { maxStack := 4, maxLocals := 3, code := prog_21_method_7_code, exceptionTable := #[], attributes := #[] }
def k4m1 : Method := { name := "threatens", desc := "(J)Z", sig := { parameters := [.long], returnType := some .boolean }, accessFlags := 0, code := some k4c1 }
def k4c2 : Code := { maxStack := 4, maxLocals := 9, code := prog_21_method_8_code, exceptionTable := #[], attributes := #[] }
def k4m2 : Method := { name := "meets", desc := "([J)Z", sig := { parameters := [(.array .long)], returnType := some .boolean }, accessFlags := 1, code := some k4c2 }
/-- com/example/mingle/mingle/KmAnonymity -/
def k4 : Class := { plain "com/example/mingle/mingle/KmAnonymity" (some 0) with
  accessFlags := 32
  interfaces := #[3]
  cf := some (fileOf pool4 17 #[] #[{ accessFlags := 0, nameIndex := 5, descriptorIndex := 103, attributes := #[] }, { accessFlags := 0, nameIndex := 116, descriptorIndex := 117, attributes := #[] }, { accessFlags := 1, nameIndex := 118, descriptorIndex := 119, attributes := #[] }] 32 2 #[101] #[{ accessFlags := 18, nameIndex := 20, descriptorIndex := 21, attributes := #[] }, { accessFlags := 18, nameIndex := 24, descriptorIndex := 21, attributes := #[] }])
  fields := #[{ name := "k", type := .int, accessFlags := 18, slot := 0, constantValue := 0 }, { name := "m", type := .int, accessFlags := 18, slot := 1, constantValue := 0 }]
  methods := #[k4m0, k4m1, k4m2]
  instanceTypes := #[.int, .int]
  staticTypes := #[]
  resolved := Array.replicate 175 none
  statics := none }

def pool5 : Array CpInfo := pool [(1, .class_ 2), (0, u "java/io/Serializable"), (0, .class_ 4), (0, u "java/lang/Object")] 2

/-- java/io/Serializable -/
def k5 : Class := { plain "java/io/Serializable" (some 0) with
  accessFlags := 1537
  interfaces := #[]
  cf := some (fileOf pool5 1 #[] #[] 1537 3 #[] #[])
  fields := #[]
  methods := #[]
  instanceTypes := #[]
  staticTypes := #[]
  resolved := Array.replicate 7 none
  statics := none }

def pool6 : Array CpInfo := pool [(2, .class_ 4), (1, u "java/lang/Object"), (0, u "<init>"), (0, u "()V"), (1, .class_ 10), (1, u "java/lang/Number"), (2, .class_ 14), (0, u "java/io/Serializable"), (0, u "serialVersionUID"), (0, u "J")] 20

def k6m0 : Method := { name := "<init>", desc := "()V", sig := { parameters := [], returnType := none }, accessFlags := 1, code := none }
/-- java/lang/Number -/
def k6 : Class := { plain "java/lang/Number" (some 0) with
  accessFlags := 1057
  interfaces := #[5]
  cf := some (fileOf pool6 8 #[] #[{ accessFlags := 1, nameIndex := 5, descriptorIndex := 6, attributes := #[] }] 1057 2 #[13] #[{ accessFlags := 26, nameIndex := 15, descriptorIndex := 16, attributes := #[] }])
  fields := #[{ name := "serialVersionUID", type := .long, accessFlags := 26, slot := 0, constantValue := 0 }]
  methods := #[k6m0]
  instanceTypes := #[]
  staticTypes := #[.long]
  resolved := Array.replicate 37 none
  statics := none }

def pool7 : Array CpInfo := pool [(1, .class_ 2), (0, u "java/lang/Comparable"), (0, .class_ 4), (0, u "java/lang/Object")] 7

/-- java/lang/Comparable -/
def k7 : Class := { plain "java/lang/Comparable" (some 0) with
  accessFlags := 1537
  interfaces := #[]
  cf := some (fileOf pool7 1 #[] #[] 1537 3 #[] #[])
  fields := #[]
  methods := #[]
  instanceTypes := #[]
  staticTypes := #[]
  resolved := Array.replicate 12 none
  statics := none }

def pool8 : Array CpInfo := pool [(1, .class_ 2), (0, u "java/lang/constant/Constable"), (0, .class_ 4), (0, u "java/lang/Object")] 6

/-- java/lang/constant/Constable -/
def k8 : Class := { plain "java/lang/constant/Constable" (some 0) with
  accessFlags := 1537
  interfaces := #[]
  cf := some (fileOf pool8 1 #[] #[] 1537 3 #[] #[])
  fields := #[]
  methods := #[]
  instanceTypes := #[]
  staticTypes := #[]
  resolved := Array.replicate 11 none
  statics := none }

def pool9 : Array CpInfo := pool [(1, .class_ 2), (0, u "java/lang/constant/ConstantDesc"), (0, .class_ 4), (0, u "java/lang/Object")] 32

/-- java/lang/constant/ConstantDesc -/
def k9 : Class := { plain "java/lang/constant/ConstantDesc" (some 0) with
  accessFlags := 1537
  interfaces := #[]
  cf := some (fileOf pool9 1 #[] #[] 1537 3 #[] #[])
  fields := #[]
  methods := #[]
  instanceTypes := #[]
  staticTypes := #[]
  resolved := Array.replicate 37 none
  statics := none }

def pool10 : Array CpInfo := pool [(1, .class_ 2), (0, u "java/lang/Long"), (98, u "(J)I"), (133, .class_ 237), (1, u "java/lang/Long$LongCache"), (33, .class_ 272), (0, u "java/lang/Number"), (2, u "value"), (0, u "J"), (37, .long 6148914691236517205), (1, .long 3689348814741910323), (1, .long 1085102592571150095), (42, u "TYPE"), (0, u "Ljava/lang/Class;"), (0, .class_ 364), (0, u "java/lang/Comparable"), (0, .class_ 366), (0, u "java/lang/constant/Constable"), (0, .class_ 368), (0, u "java/lang/constant/ConstantDesc"), (0, u "MIN_VALUE"), (1, u "MAX_VALUE"), (4, u "SIZE"), (0, u "I"), (1, u "BYTES"), (1, u "serialVersionUID"), (94, u "bitCount")] 47

def k10c0 : Code := { maxStack := 6, maxLocals := 2, code := jdk_35_method_50_code, exceptionTable := #[], attributes := #[] }
def k10m0 : Method := { name := "bitCount", desc := "(J)I", sig := { parameters := [.long], returnType := some .int }, accessFlags := 9, code := some k10c0 }
/-- java/lang/Long -/
def k10 : Class := { plain "java/lang/Long" (some 6) with
  accessFlags := 49
  interfaces := #[7, 8, 9]
  cf := some (fileOf pool10 1 #[.nestMembers #[235]] #[{ accessFlags := 9, nameIndex := 476, descriptorIndex := 101, attributes := #[] }] 49 271 #[363, 365, 367] #[{ accessFlags := 25, nameIndex := 369, descriptorIndex := 276, attributes := #[] }, { accessFlags := 25, nameIndex := 371, descriptorIndex := 276, attributes := #[] }, { accessFlags := 25, nameIndex := 361, descriptorIndex := 362, attributes := #[] }, { accessFlags := 18, nameIndex := 275, descriptorIndex := 276, attributes := #[] }, { accessFlags := 25, nameIndex := 376, descriptorIndex := 377, attributes := #[] }, { accessFlags := 25, nameIndex := 379, descriptorIndex := 377, attributes := #[] }, { accessFlags := 26, nameIndex := 381, descriptorIndex := 276, attributes := #[] }])
  fields := #[{ name := "MIN_VALUE", type := .long, accessFlags := 25, slot := 0, constantValue := 0 }, { name := "MAX_VALUE", type := .long, accessFlags := 25, slot := 1, constantValue := 0 }, { name := "TYPE", type := (.object "java/lang/Class"), accessFlags := 25, slot := 2, constantValue := 0 }, { name := "value", type := .long, accessFlags := 18, slot := 0, constantValue := 0 }, { name := "SIZE", type := .int, accessFlags := 25, slot := 3, constantValue := 0 }, { name := "BYTES", type := .int, accessFlags := 25, slot := 4, constantValue := 0 }, { name := "serialVersionUID", type := .long, accessFlags := 26, slot := 5, constantValue := 0 }]
  methods := #[k10m0]
  instanceTypes := #[.long]
  staticTypes := #[.long, .long, (.object "java/lang/Class"), .int, .int, .long]
  resolved := Array.replicate 524 none
  statics := none }

def pool11 : Array CpInfo := pool [(1, u "java/lang/Cloneable"), (0, .class_ 1), (0, u "java/lang/Object"), (0, .class_ 3)] 3

/-- java/lang/Cloneable -/
def k11 : Class := { plain "java/lang/Cloneable" (some 0) with
  accessFlags := 1537
  interfaces := #[]
  cf := some (fileOf pool11 2 #[] #[] 1537 4 #[] #[])
  fields := #[]
  methods := #[]
  instanceTypes := #[]
  staticTypes := #[]
  resolved := Array.replicate 8 none
  statics := none }

/-- the primitive byte -/
def k12 : Class := { plain "byte" none with kind := .primitive 'B', accessFlags := 0x411 }
/-- [B -/
def k13 : Class := { plain "[B" (some 0) with kind := .array 12 .byte, interfaces := #[11, 5], accessFlags := 1041 }

/-- the primitive int -/
def k14 : Class := { plain "int" none with kind := .primitive 'I', accessFlags := 0x411 }
/-- [I -/
def k15 : Class := { plain "[I" (some 0) with kind := .array 14 .int, interfaces := #[11, 5], accessFlags := 1041 }

/-- the primitive long -/
def k16 : Class := { plain "long" none with kind := .primitive 'J', accessFlags := 0x411 }
/-- [J -/
def k17 : Class := { plain "[J" (some 0) with kind := .array 16 .long, interfaces := #[11, 5], accessFlags := 1041 }

def heap : Heap := #[]
def classes : Array Class := #[k0, k1, k2, k3, k4, k5, k6, k7, k8, k9, k10, k11, k12, k13, k14, k15, k16, k17]
def interned : List (Array UInt16 × Addr) := []
def slotsUsed : Nat := 0
def theMethod : MethodId := ⟨1, 1⟩
def args0 : Array Value := #[.int 5, .int 9, .int 1, .long 6, .int 7, .int 3]
def aboutOver (below : List Frame) : State where
  vm := { classes := classes, interned := interned.toArray }
  heap := heap
  slotsUsed := slotsUsed
  threads := #[{ frames := .invoking theMethod args0 :: below }]
def below0 : List Frame := [.native { method := ⟨0, 0⟩, args := #[] }]
def about1 : State := aboutOver below0
def p0 : Program := .bare "" "" ""
def e0 : Env := launch0.env 0 0 0
theorem w_frames : about1.frames = Frame.invoking theMethod args0 :: below0 := rfl
set_option maxRecDepth 65536 in
theorem w_args : argsFit about1.vm theMethod args0 = true := by decide +kernel
set_option maxRecDepth 65536 in
theorem w_heap : heapFits about1 = true := by decide +kernel
set_option maxRecDepth 65536 in
theorem w_runnable : about1.curStatus? = some .runnable := by decide +kernel
set_option maxRecDepth 65536 in
theorem w_alone : about1.alone = true := by decide +kernel
set_option maxRecDepth 65536 in
theorem w_named : about1.methodNamed? x = some theMethod := by decide +kernel
set_option maxRecDepth 65536 in
theorem w_hears : about1.hears theMethod below0 = true := by decide +kernel
set_option maxRecDepth 65536 in
theorem w_ripe : about1.ripe theMethod args0 below0 = true := by decide +kernel
theorem w_running : about1.status = .running := rfl
set_option maxRecDepth 65536 in
theorem w_room : about1.hasRoom e0.platform room_1 = true :=
  launch0.hasRoom_least _ room_1 (by decide +kernel) (by decide +kernel) (by decide +kernel) (by decide +kernel) (by decide +kernel) (by decide +kernel)
theorem allAtoms_all (ts : List Jvm.Cond) (a : Array Jvm.Value) (st : Jvm.State) : (allAtoms ts).before a st = ts.all (fun c => c.before a st) := by
  induction ts with
  | nil => rfl
  | cons c t ih =>
    show (Jvm.Cond.and c (allAtoms t)).before a st = _
    rw [Jvm.Cond.before_and, ih, List.all_cons]
def words1 : List Jvm.Cond := Jvm.Cond.code x code maxLocals ret :: tables_1
/-- a 'code' word, met by the world's own term for the bytes: nothing is compared byte by byte -/
theorem code_word {y : MethodName} {bytes : ByteArray} {mx : Nat} {rt : Option FieldType} {a : Array Value} {s : State} {m : MethodId} {meth : Method} {c : Code} (h1 : s.methodNamed? y = some m) (h2 : s.vm.method? m = some meth) (h3 : meth.code = some c) (h4 : c.code = bytes)
    (h5 : (c.maxLocals == mx && c.exceptionTable.isEmpty && decide (c.maxStack ≤ mostOperands) && decide (meth.sig.returnType = rt) && !meth.locks && decide (parseMethodDescriptor y.desc = some meth.sig)) = true) : (Jvm.Cond.code y bytes mx rt).before a s = true := by
  simp only [Bool.and_eq_true, beq_iff_eq, Bool.not_eq_true', decide_eq_true_eq] at h5
  obtain ⟨⟨⟨⟨⟨g1, g2⟩, g3⟩, g4⟩, g5⟩, g6⟩ := h5
  simp [Cond.before, Cond.holds, Cond.value, h1, h2, h3, h4, g1, g2, g3, g4, g5, g6]
def isCode : Jvm.Cond → Bool
  | .code _ _ _ _ => true
  | _ => false
theorem all_split {L : List Jvm.Cond} {P : Jvm.Cond → Bool} (h1 : L.all (fun c => isCode c || P c) = true) (h2 : ∀ c ∈ L.filter isCode, P c = true) : L.all P = true := by
  refine List.all_eq_true.mpr fun c hc => ?_
  have h := List.all_eq_true.mp h1 c hc
  rcases Bool.eq_false_or_eq_true (isCode c) with hi | hi
  · exact h2 c (List.mem_filter.mpr ⟨hc, hi⟩)
  · simpa [hi] using h
set_option maxRecDepth 65536 in
theorem w_c0 : (Jvm.Cond.code x code maxLocals ret).before args0 about1 = true := code_word (m := ⟨1, 1⟩) (meth := k1m1) (c := k1c1) (by decide +kernel) rfl rfl rfl (by decide +kernel)
set_option maxRecDepth 65536 in
theorem w_c1 : (Jvm.Cond.code ({ cls := "java/lang/Math", name := "max", desc := "(II)I" } : Jvm.MethodName) jdk_29_method_65_code (2 : Nat) (Option.some Jvm.ClassFile.FieldType.int)).before args0 about1 = true := code_word (m := ⟨2, 1⟩) (meth := k2m1) (c := k2c1) (by decide +kernel) rfl rfl rfl (by decide +kernel)
set_option maxRecDepth 65536 in
theorem w_c2 : (Jvm.Cond.code ({ cls := "com/example/mingle/mingle/KmAnonymity", name := "<init>", desc := "(II)V" } : Jvm.MethodName) prog_21_method_1_code (3 : Nat) (Option.none : Option Jvm.ClassFile.FieldType)).before args0 about1 = true := code_word (m := ⟨4, 0⟩) (meth := k4m0) (c := k4c0) (by decide +kernel) rfl rfl rfl (by decide +kernel)
set_option maxRecDepth 65536 in
theorem w_c3 : (Jvm.Cond.code ({ cls := "java/lang/Object", name := "<init>", desc := "()V" } : Jvm.MethodName) object_method_1_code (1 : Nat) (Option.none : Option Jvm.ClassFile.FieldType)).before args0 about1 = true := code_word (m := ⟨0, 0⟩) (meth := k0m0) (c := k0c0) (by decide +kernel) rfl rfl rfl (by decide +kernel)
set_option maxRecDepth 65536 in
theorem w_c4 : (Jvm.Cond.code ({ cls := "com/example/mingle/mingle/KmAnonymity", name := "threatens", desc := "(J)Z" } : Jvm.MethodName) prog_21_method_7_code (3 : Nat) (Option.some Jvm.ClassFile.FieldType.boolean)).before args0 about1 = true := code_word (m := ⟨4, 1⟩) (meth := k4m1) (c := k4c1) (by decide +kernel) rfl rfl rfl (by decide +kernel)
set_option maxRecDepth 65536 in
theorem w_c5 : (Jvm.Cond.code ({ cls := "com/example/mingle/mingle/KmAnonymity", name := "meets", desc := "([J)Z" } : Jvm.MethodName) prog_21_method_8_code (9 : Nat) (Option.some Jvm.ClassFile.FieldType.boolean)).before args0 about1 = true := code_word (m := ⟨4, 2⟩) (meth := k4m2) (c := k4c2) (by decide +kernel) rfl rfl rfl (by decide +kernel)
set_option maxRecDepth 65536 in
theorem w_c6 : (Jvm.Cond.code ({ cls := "java/lang/Long", name := "bitCount", desc := "(J)I" } : Jvm.MethodName) jdk_35_method_50_code (2 : Nat) (Option.some Jvm.ClassFile.FieldType.int)).before args0 about1 = true := code_word (m := ⟨10, 0⟩) (meth := k10m0) (c := k10c0) (by decide +kernel) rfl rfl rfl (by decide +kernel)
def codes1 : List Jvm.Cond := [Jvm.Cond.code x code maxLocals ret, Jvm.Cond.code ({ cls := "java/lang/Math", name := "max", desc := "(II)I" } : Jvm.MethodName) jdk_29_method_65_code (2 : Nat) (Option.some Jvm.ClassFile.FieldType.int), Jvm.Cond.code ({ cls := "com/example/mingle/mingle/KmAnonymity", name := "<init>", desc := "(II)V" } : Jvm.MethodName) prog_21_method_1_code (3 : Nat) (Option.none : Option Jvm.ClassFile.FieldType), Jvm.Cond.code ({ cls := "java/lang/Object", name := "<init>", desc := "()V" } : Jvm.MethodName) object_method_1_code (1 : Nat) (Option.none : Option Jvm.ClassFile.FieldType), Jvm.Cond.code ({ cls := "com/example/mingle/mingle/KmAnonymity", name := "threatens", desc := "(J)Z" } : Jvm.MethodName) prog_21_method_7_code (3 : Nat) (Option.some Jvm.ClassFile.FieldType.boolean), Jvm.Cond.code ({ cls := "com/example/mingle/mingle/KmAnonymity", name := "meets", desc := "([J)Z" } : Jvm.MethodName) prog_21_method_8_code (9 : Nat) (Option.some Jvm.ClassFile.FieldType.boolean), Jvm.Cond.code ({ cls := "java/lang/Long", name := "bitCount", desc := "(J)I" } : Jvm.MethodName) jdk_35_method_50_code (2 : Nat) (Option.some Jvm.ClassFile.FieldType.int)]
set_option maxRecDepth 65536 in
theorem codes_eq : words1.filter isCode = codes1 := rfl
theorem w_codes : ∀ c ∈ words1.filter isCode, c.before args0 about1 = true := by
  rw [codes_eq]
  intro c hc
  simp only [codes1, List.mem_cons, List.not_mem_nil, or_false] at hc
  rcases hc with rfl | rfl | rfl | rfl | rfl | rfl | rfl
  · exact w_c0
  · exact w_c1
  · exact w_c2
  · exact w_c3
  · exact w_c4
  · exact w_c5
  · exact w_c6
set_option maxRecDepth 65536 in
theorem w_t1 : (words1.take 24).all (fun c => isCode c || c.before args0 about1) = true := by decide +kernel
set_option maxRecDepth 65536 in
theorem w_t2 : (words1.drop 24).all (fun c => isCode c || c.before args0 about1) = true := by decide +kernel
theorem w_tables : (allAtoms (Jvm.Cond.code x code maxLocals ret :: tables_1)).before args0 about1 = true := by
  rw [allAtoms_all]
  show words1.all (fun c => c.before args0 about1) = true
  refine all_split ?_ w_codes
  rw [← List.take_append_drop 24 words1, List.all_append, w_t1, w_t2]
  rfl
set_option maxRecDepth 65536 in
theorem w_case : (Jvm.Cond.and given_1 narrow_1).before args0 about1 = true := by decide +kernel
theorem w_applies : (headSpec (Jvm.Cond.code x code maxLocals ret :: tables_1) room_1).applies x e0.platform about1 = true :=
  (Spec.applies_iff w_frames).mpr ⟨w_running, w_runnable, w_alone, w_named, w_hears, w_ripe, w_room, w_tables⟩
theorem atStart : AtStart classFile x code maxLocals ret World_1 tables_1 room_1 Calls_1 rest_1 Pre_1 launch0 p0 e0 about1 theMethod args0 below0 :=
  ⟨lists_1, trivial, launch0.admits_env _ _ _, launch0.least_env, fairChoices_fair.cas, fairChoices_fair.clock, w_frames, w_args, w_heap, w_applies, trivial, trivial, w_case⟩
end start1
theorem witness_1 : WitnessClaimed_1 := ⟨start1.p0, start1.e0, start1.about1, start1.theMethod, start1.args0, start1.below0, start1.atStart⟩
end Jvm.Pilot.@@N@@
