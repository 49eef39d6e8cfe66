import JvmDerived
import JvmDerived.Pilot.@@N@@Statement
import JvmDerived.Pilot.@@N@@Code
set_option linter.unusedVariables false
set_option linter.unusedSimpArgs false
@@BLOCK:NumsL.lean.txt@@
namespace Jvm.RoadKit
open Sem ClassFile Op Lib Jvm.Stand Jvm.Free Jvm.LawKit
section New
variable {p : Program} {l : Launch} {e : Env} {R : Room} {s : State} {m : MethodId} {args : Array Value} {below : List Frame} {meth : Method} {c : Code} {T : State} {locs : List Loc} {cells slots : Nat}
/-- ireturn of an int (after example/lawnew) -/
theorem retI (X : Stand p l e R s m args below meth c T locs cells slots) (hx : p.tables.exec = Jvm.exec) {pc : Nat} {Ls : Array Slot} {z : Int32} {rest : List Value} (hret : meth.sig.returnType = some .int) (hd : decode c.code pc = .ok (.ireturn, 1)) {fs : List Frame}
    (hl : ∀ (f : JFrame) (acts : List Action), f.method = m → f.locked = none → f.entered = [] → (doReturn e (T.setTop f) acts (some (.int z))).1 = T.setFrames fs) : Steps p.tables e below (T.setTop (mkF m pc Ls (.int z :: rest))) (T.setFrames fs) := by
  have hm' : T.vm.method? m = some meth := X.method'
  have hn : narrow .int (.int z) = .int z := rfl
  show Steps p.tables e below (T.setTop { method := m, pc := pc, locals := Ls, stack := _ :: rest, locked := none }) _
  jvm_step X.here [X.here.top, hx, hd, hm', hret, hn]
  first | (intro acts; rw [hl _ acts rfl rfl rfl]) | rw [hl _ _ rfl rfl rfl]
  exact Steps.refl _
/-- the run from S comes to an end that P speaks of: a walk goes on from state to state under one goal, and may fork -/
def own_Go (tb : Tables) (e : Env) (below : List Frame) (P : State → Outcome → Prop) (S : State) : Prop := ∃ t o, Steps tb e below S t ∧ t.status = .running ∧ Ended t below o ∧ P t o
theorem own_st {tb : Tables} {e : Env} {below : List Frame} {P : State → Outcome → Prop} {S S' : State} (st : ∀ t, Steps tb e below S' t → Steps tb e below S t) (k : own_Go tb e below P S') : own_Go tb e below P S := by
  obtain ⟨t, o, h1, h2⟩ := k
  exact ⟨t, o, st t h1, h2⟩
theorem own_tr {tb : Tables} {e : Env} {below : List Frame} {P : State → Outcome → Prop} {S S' : State} (st : Steps tb e below S S') (k : own_Go tb e below P S') : own_Go tb e below P S := own_st (fun _ h => st.trans h) k
theorem own_cv {tb : Tables} {e : Env} {below : List Frame} {P : State → Outcome → Prop} {S S' : State} (q : S = S') (k : own_Go tb e below P S') : own_Go tb e below P S := q ▸ k
theorem own_join {α : Type} {tb : Tables} {e : Env} {below : List Frame} {P : State → Outcome → Prop} {S : State} (F : α → State) (k : ∀ x, own_Go tb e below P (F x)) (j : (∀ x, own_Go tb e below P (F x)) → own_Go tb e below P S) : own_Go tb e below P S := j k
/-- the end of a walk: what the return leaves -/
theorem own_end (X : Stand p l e R s m args below meth c T locs cells slots) {Q : Option Value → Heap → List Loc → Prop} {C N : Nat} {S : State} (v : Option Value) (hlocks : meth.locks = false) (hv : meth.sig.returnType = none → v = none)
    (ret : ∀ fs : List Frame, (∀ (f : JFrame) (acts : List Action), f.method = m → f.locked = none → f.entered = [] → (doReturn e (T.setTop f) acts v).1 = T.setFrames fs) → Steps p.tables e below S (T.setFrames fs))
    (q : Q v T.heap locs) (hc : cells ≤ C) (hn : slots ≤ N) : own_Go p.tables e below (fun t o => ∃ v L, o = .returned v ∧ Q v t.heap L ∧ FrameEnd s o t L C N) S := by
  obtain ⟨fs, hr, hrun, hended, hW, hsame⟩ := X.leave (v := v) hv hlocks
  exact ⟨_, _, ret fs hr, hrun, hended, v, locs, rfl, q, ⟨_, rfl⟩, hW, hsame.mono hc hn⟩
end New
theorem own_i_lt (x y : Int32) : if_icmp.holds .lt x y = decide (x.toInt < y.toInt) := by simp [if_icmp.holds, Int32.lt_iff_toInt_lt]
theorem own_i_le (x y : Int32) : if_icmp.holds .le x y = decide (x.toInt ≤ y.toInt) := by simp [if_icmp.holds, Int32.le_iff_toInt_le]
theorem own_i_gt (x y : Int32) : if_icmp.holds .gt x y = decide (x.toInt > y.toInt) := by simp [if_icmp.holds, Int32.lt_iff_toInt_lt]
theorem own_i_ge (x y : Int32) : if_icmp.holds .ge x y = decide (x.toInt ≥ y.toInt) := by simp [if_icmp.holds, Int32.le_iff_toInt_le]
theorem own_i_eq (x y : Int32) : if_icmp.holds .eq x y = decide (x.toInt = y.toInt) := by rw [Bool.eq_iff_iff]; simp [if_icmp.holds, Int32.toInt_inj]
theorem own_i_ne (x y : Int32) : if_icmp.holds .ne x y = decide (x.toInt ≠ y.toInt) := by rw [Bool.eq_iff_iff]; simp [if_icmp.holds, Int32.toInt_inj]
theorem own_z_lt (x : Int32) : ifCond.holds .lt x = decide (x.toInt < 0) := by simp [ifCond.holds, Int32.lt_iff_toInt_lt]
theorem own_z_le (x : Int32) : ifCond.holds .le x = decide (x.toInt ≤ 0) := by simp [ifCond.holds, Int32.le_iff_toInt_le]
theorem own_z_gt (x : Int32) : ifCond.holds .gt x = decide (x.toInt > 0) := by simp [ifCond.holds, Int32.lt_iff_toInt_lt]
theorem own_z_ge (x : Int32) : ifCond.holds .ge x = decide (x.toInt ≥ 0) := by simp [ifCond.holds, Int32.le_iff_toInt_le]
theorem own_z_eq (x : Int32) : ifCond.holds .eq x = decide (x.toInt = 0) := by rw [Bool.eq_iff_iff]; simp [ifCond.holds, ← Int32.toInt_inj]
theorem own_z_ne (x : Int32) : ifCond.holds .ne x = decide (x.toInt ≠ 0) := by rw [Bool.eq_iff_iff]; simp [ifCond.holds, ← Int32.toInt_inj]
theorem own_cmp (x y : Int64) : (XT.cmpL x y).toInt = if y.toInt < x.toInt then 1 else if x.toInt = y.toInt then 0 else -1 := by
  simp only [XT.cmpL, Int64.lt_iff_toInt_lt, ← Int64.toInt_inj]
  split
  · rfl
  · split <;> rfl
theorem own_l_lt (x y : Int64) : ifCond.holds .lt (XT.cmpL x y) = decide (x.toInt < y.toInt) := by
  rw [own_z_lt, own_cmp, decide_eq_decide]; split <;> (try split) <;> omega
theorem own_l_le (x y : Int64) : ifCond.holds .le (XT.cmpL x y) = decide (x.toInt ≤ y.toInt) := by
  rw [own_z_le, own_cmp, decide_eq_decide]; split <;> (try split) <;> omega
theorem own_l_gt (x y : Int64) : ifCond.holds .gt (XT.cmpL x y) = decide (x.toInt > y.toInt) := by
  rw [own_z_gt, own_cmp, decide_eq_decide]; split <;> (try split) <;> omega
theorem own_l_ge (x y : Int64) : ifCond.holds .ge (XT.cmpL x y) = decide (x.toInt ≥ y.toInt) := by
  rw [own_z_ge, own_cmp, decide_eq_decide]; split <;> (try split) <;> omega
theorem own_l_eq (x y : Int64) : ifCond.holds .eq (XT.cmpL x y) = decide (x.toInt = y.toInt) := by
  rw [own_z_eq, own_cmp, decide_eq_decide]; split <;> (try split) <;> omega
theorem own_l_ne (x y : Int64) : ifCond.holds .ne (XT.cmpL x y) = decide (x.toInt ≠ y.toInt) := by
  rw [own_z_ne, own_cmp, decide_eq_decide]; split <;> (try split) <;> omega
/-- a boolean as the int that the machine keeps -/
def own_b (P : Prop) [Decidable P] : Int32 := if P then 1 else 0
theorem own_b1 {P : Prop} [Decidable P] (h : P) : own_b P = 1 := if_pos h
theorem own_b0 {P : Prop} [Decidable P] (h : ¬ P) : own_b P = 0 := if_neg h
theorem own_bi (P : Prop) [Decidable P] : (own_b P).toInt = if P then 1 else 0 := by unfold own_b; split <;> rfl
theorem own_nb {P : Prop} [Decidable P] : nar .boolean (own_b P) = own_b P := by unfold own_b; split <;> rfl
theorem own_nB {x : Int32} : nar .byte (Int8.toInt32 (Int32.toInt8 x)) = Int8.toInt32 (Int32.toInt8 x) := by
  show Int8.toInt32 (Int32.toInt8 (Int8.toInt32 (Int32.toInt8 x))) = _
  simp
end Jvm.RoadKit
namespace Jvm.RoadKit
open Sem ClassFile Op Lib Jvm.Stand Jvm.Free Jvm.LawKit
section Arrays
variable {p : Program} {l : Launch} {e : Env} {R : Room} {s : State} {m : MethodId} {args : Array Value} {below : List Frame} {meth : Method} {c : Code} {T : State} {locs : List Loc} {cells slots : Nat} {Z : State} {h h' : Heap} {a b : Addr} {ty : FieldType} {n : Nat} {f : Nat → Int32}
/-- an array of ints or bytes by what it holds: n places, place i holds f i -/
def own_A (Z : State) (h : Heap) (a : Addr) (ty : FieldType) (n : Nat) (f : Nat → Int32) : Prop := n < 2 ^ 31 ∧ ∃ cl : Cell, Arr Z h a cl ty ∧ cl.slots.size = n ∧ (∀ i, i < n → cl.slots[i]? = some (.int (f i))) ∧ ∀ i, i < n → fits ty (.int (f i)) = true
theorem own_A.lt (V : own_A Z h a ty n f) : a < h.size := by obtain ⟨-, cl, A, -⟩ := V; exact A.lt
theorem own_A.ext (V : own_A Z h a ty n f) (E : Ext h h') : own_A Z h' a ty n f := by obtain ⟨q, cl, A, r⟩ := V; exact ⟨q, cl, A.ext E, r⟩
theorem own_A.other {sl : Nat} {v : Value} (V : own_A Z h a ty n f) (W : Wr h h' b sl v) (ne : a ≠ b) : own_A Z h' a ty n f := by obtain ⟨q, cl, A, r⟩ := V; exact ⟨q, cl, A.other W ne, r⟩
theorem own_A.keep {ws : List Addr} (V : own_A Z h a ty n f) (K : Keep h h' ws) (ne : a ∉ ws) : own_A Z h' a ty n f := by obtain ⟨q, cl, A, r⟩ := V; exact ⟨q, cl, ⟨K.2.1 a cl A.1 ne, A.2⟩, r⟩
theorem own_A.congr {f' : Nat → Int32} (V : own_A Z h a ty n f) (q : ∀ i, i < n → f' i = f i) : own_A Z h a ty n f' := by
  obtain ⟨r, cl, A, S, H, G⟩ := V
  exact ⟨r, cl, A, S, fun i hi => by rw [q i hi]; exact H i hi, fun i hi => by rw [q i hi]; exact G i hi⟩
theorem own_nat {j : Int32} (q : 0 ≤ j.toInt) : (j.toNatClampNeg : Int) = j.toInt := by simp only [Int32.toNatClampNeg]; omega
theorem own_in {j : Int32} {cl : Cell} (S : cl.slots.size = n) (q0 : 0 ≤ j.toInt) (q1 : j.toInt < n) : ¬ (j < 0 ∨ cl.slots.size ≤ j.toNatClampNeg) := by
  have := own_nat q0
  rw [Int32.lt_iff_toInt_lt, S]
  have z : (0 : Int32).toInt = 0 := rfl
  omega
theorem own_A.new {k : ClassId} {z : Int32} (A : Arr Z h a (newA k ty z) ty) (q : ¬ z < 0) (hd : defaultValue ty = .int 0) (hz : fits ty (.int 0) = true) : own_A Z h a ty z.toNatClampNeg (fun _ => 0) := by
  refine ⟨(back32 q).2, _, A, sz_new _ _ _, fun i hi => ?_, fun i hi => hz⟩
  simp [newA, hi, hd]
theorem own_A.set {j : Nat} {x : Int32} (V : own_A Z h a ty n f) (W : Wr h h' a j (.int x)) (hx : fits ty (.int x) = true) : own_A Z h' a ty n (fun i => if i = j then x else f i) := by
  obtain ⟨q, cl, A, S, H, G⟩ := V
  obtain ⟨cl', h1, h2, h3, h4⟩ := W
  cases A.1.symm.trans h1
  refine ⟨q, cl.setSlot j (.int x), A.same ⟨cl, h1, h2, h3, h4⟩, by rw [sz_set]; exact S, fun i hi => ?_, fun i hi => ?_⟩
  · simp only [Cell.setSlot, Array.getElem?_setIfInBounds]
    by_cases e : j = i
    · subst e; simp [h3]
    · rw [if_neg e, if_neg (fun u => e u.symm)]; exact H i hi
  · by_cases e : i = j
    · simp [e, hx]
    · simp [e, G i hi]
/-- a store into an int[] -/
theorem own_stI (X : Stand p l e R s m args below meth c T locs cells slots) (hx : p.tables.exec = Jvm.exec) (hZ : Z.Warmed39 s.vm) (eT : T.heap = h) (V : own_A Z h a .int n f) {j x : Int32} (q0 : 0 ≤ j.toInt) (q1 : j.toInt < n) {g : JFrame} (hg : g.method = m) {rest : List Value} (hs : g.stack = .int x :: .int j :: .ref a :: rest) (hd : decode c.code g.pc = .ok (.iastore, 1)) :
    ∃ T' h', Stand p l e R s m args below meth c T' (locs ++ [⟨a, j.toNatClampNeg⟩]) cells slots ∧ T'.heap = h' ∧ Wr h h' a j.toNatClampNeg (.int x) ∧ own_A Z h' a .int n (fun i => if i = j.toNatClampNeg then x else f i) ∧ ∀ target, Steps p.tables e below (T'.setTop { g with pc := g.pc + 1, stack := rest }) target → Steps p.tables e below (T.setTop g) target := by
  obtain ⟨r, cl, A, S, H, G⟩ := id V
  obtain ⟨T', h', X', e', W, st⟩ := stI X hx hZ eT A (own_in S q0 q1) hg hs hd
  exact ⟨T', h', X', e', W, V.set W rfl, st⟩
/-- a store into a byte[] -/
theorem own_stB (X : Stand p l e R s m args below meth c T locs cells slots) (hx : p.tables.exec = Jvm.exec) (hZ : Z.Warmed39 s.vm) (eT : T.heap = h) (V : own_A Z h a .byte n f) {j x : Int32} (q0 : 0 ≤ j.toInt) (q1 : j.toInt < n) {g : JFrame} (hg : g.method = m) {rest : List Value} (hs : g.stack = .int x :: .int j :: .ref a :: rest) (hd : decode c.code g.pc = .ok (.bastore, 1)) :
    ∃ T' h', Stand p l e R s m args below meth c T' (locs ++ [⟨a, j.toNatClampNeg⟩]) cells slots ∧ T'.heap = h' ∧ Wr h h' a j.toNatClampNeg (.int (Int8.toInt32 (Int32.toInt8 x))) ∧ own_A Z h' a .byte n (fun i => if i = j.toNatClampNeg then Int8.toInt32 (Int32.toInt8 x) else f i) ∧ ∀ target, Steps p.tables e below (T'.setTop { g with pc := g.pc + 1, stack := rest }) target → Steps p.tables e below (T.setTop g) target := by
  obtain ⟨r, cl, A, S, H, G⟩ := id V
  obtain ⟨T', h', X', e', W, st⟩ := stB X hx hZ eT A (own_in S q0 q1) hg hs hd
  exact ⟨T', h', X', e', W, V.set W (fits_nar_byte x), st⟩
/-- a read of an int[] -/
theorem own_ldI (X : Stand p l e R s m args below meth c T locs cells slots) (hx : p.tables.exec = Jvm.exec) (hZ : Z.Warmed39 s.vm) (eT : T.heap = h) (V : own_A Z h a .int n f) {j : Int32} (q0 : 0 ≤ j.toInt) (q1 : j.toInt < n) {g : JFrame} (hg : g.method = m) {rest : List Value} (hs : g.stack = .int j :: .ref a :: rest) (hd : decode c.code g.pc = .ok (.iaload, 1)) :
    ∀ target, Steps p.tables e below (T.setTop { g with pc := g.pc + 1, stack := .int (f j.toNatClampNeg) :: rest }) target → Steps p.tables e below (T.setTop g) target := fun target k => by
  obtain ⟨r, cl, A, S, H, G⟩ := V
  have u := own_nat q0
  exact X.iaload hx (by rw [eT]; exact A.1) (State.isArrayOf_alike hZ.alike A.2.1) A.2.2 (own_in S q0 q1) (H _ (by omega)) hg hs hd _ k
/-- a read of a byte[] -/
theorem own_ldB (X : Stand p l e R s m args below meth c T locs cells slots) (hx : p.tables.exec = Jvm.exec) (hZ : Z.Warmed39 s.vm) (eT : T.heap = h) (V : own_A Z h a .byte n f) {j : Int32} (q0 : 0 ≤ j.toInt) (q1 : j.toInt < n) {g : JFrame} (hg : g.method = m) {rest : List Value} (hs : g.stack = .int j :: .ref a :: rest) (hd : decode c.code g.pc = .ok (.baload, 1)) :
    ∀ target, Steps p.tables e below (T.setTop { g with pc := g.pc + 1, stack := .int (f j.toNatClampNeg) :: rest }) target → Steps p.tables e below (T.setTop g) target := fun target k => by
  obtain ⟨r, cl, A, S, H, G⟩ := V
  have u := own_nat q0
  exact X.baloadBytes hx (by rw [eT]; exact A.1) (State.isArrayOf_alike hZ.alike A.2.1) A.2.2 (own_in S q0 q1) (H _ (by omega)) hg hs hd _ k
/-- its length -/
theorem own_len (X : Stand p l e R s m args below meth c T locs cells slots) (hx : p.tables.exec = Jvm.exec) (hZ : Z.Warmed39 s.vm) (eT : T.heap = h) (V : own_A Z h a ty n f) {g : JFrame} (hg : g.method = m) {rest : List Value} (hs : g.stack = .ref a :: rest) (hd : decode c.code g.pc = .ok (.arraylength, 1)) :
    ∀ target, Steps p.tables e below (T.setTop { g with pc := g.pc + 1, stack := .int n.toInt32 :: rest }) target → Steps p.tables e below (T.setTop g) target := fun target k => by
  obtain ⟨r, cl, A, S, H, G⟩ := V
  subst S
  exact X.arraylength hx (by rw [eT]; exact A.1) (State.isArrayOf_alike hZ.alike A.2.1) hg hs hd _ k
/-- one list of its values, for the laws that speak of lists -/
theorem own_tn {n : Nat} (h : n < 2 ^ 31) : n.toInt32.toNatClampNeg = n := by
  have q := len_toInt h
  simp only [Int32.toNatClampNeg]; omega
theorem own_gd (f : Nat → Int32) (n i : Nat) (d : Value) (hi : i < n) : (((List.range n).map fun i => Value.int (f i)).getD i d) = .int (f i) := by
  simp [List.getD_eq_getElem?_getD, hi]
theorem own_A.arv (V : own_A Z h a ty n f) : ∃ k, Arv Z h a k ty n.toInt32 ((List.range n).map fun i => Value.int (f i)) (.int 0) := by
  obtain ⟨q, cl, A, S, H, G⟩ := V
  refine ⟨cl.cls, cl, A, rfl, by rw [own_tn q]; exact S, ?_, fun i hi => ?_, fun i hi => ?_⟩
  · have z := len_toInt q
    have o : (0 : Int32).toInt = 0 := rfl
    rw [Int32.lt_iff_toInt_lt]; omega
  · rw [own_gd f n i _ (S ▸ hi)]; exact H i (S ▸ hi)
  · rw [own_gd f n i _ (S ▸ hi)]; exact G i (S ▸ hi)
theorem own_A.of_arv {k : ClassId} {z : Int32} {vs : List Value} {dv : Value} (F : Arv Z h a k ty z vs dv) (g : Nat → Int32) (hg : ∀ i, i < z.toNatClampNeg → vs.getD i dv = .int (g i)) : own_A Z h a ty z.toNatClampNeg g := by
  obtain ⟨cl, A, -, S, M, H, G⟩ := F
  exact ⟨(back32 M).2, cl, A, S, fun i hi => by rw [← hg i hi]; exact H i (S ▸ hi), fun i hi => by rw [← hg i hi]; exact G i (S ▸ hi)⟩
/-- System.arraycopy from place 0 to place 0 -/
theorem own_cp (X : Stand p l e R s m args below meth c T locs cells slots) (hx : p.tables.exec = Jvm.exec) (hZ : Z.Warmed39 s.vm) {a0 : Array Value} {own : String} {index : Nat} (hown : s.vm.findClass own = some m.cls)
    (w1 : (Cond.methodLink own index Jvm.Stand.acN).before a0 Z = true) (w2 : (Cond.native Jvm.Stand.acN).before a0 Z = true) (w3 : (Cond.static Jvm.Stand.acN).before a0 Z = true) (w4 : (Cond.initialized "java/lang/System").before a0 Z = true) (eT : T.heap = h)
    {n' : Nat} {f' : Nat → Int32} (A : own_A Z h a .byte n f) (B : own_A Z h b .byte n' f') {nn : Int32} (q0 : 0 ≤ nn.toInt) (q1 : nn.toInt ≤ n) (q2 : nn.toInt ≤ n') {n0 : Nat} (N : Fr n0 locs) (ge : n0 ≤ b)
    {g : JFrame} (hg : g.method = m) (hsize : g.locals.size = c.maxLocals) {rest : List Value} (hs : g.stack = .int nn :: .int 0 :: .ref b :: .int 0 :: .ref a :: rest) (hd : decode c.code g.pc = .ok (.invokestatic index, 3))
    (hf : 1 ≤ R.frames) {W : Nat} (hW : 2 * g.monitorRoom + (rest.map fun v => v.category).sum ≤ W) (hlo : W + (nativeFrameWords "java/lang/System" "arraycopy" 5 + 11) ≤ R.locals) :
    ∃ T' h' L, Stand p l e R s m args below meth c T' L cells slots ∧ T'.heap = h' ∧ Fr n0 L ∧ Keep h h' [b] ∧ own_A Z h' b .byte n' (fun i => if i < nn.toNatClampNeg then f i else f' i) ∧
      ∀ target, Steps p.tables e below (T'.setTop { g with pc := g.pc + 3, stack := rest }) target → Steps p.tables e below (T.setTop g) target := by
  obtain ⟨k, VA⟩ := A.arv
  obtain ⟨k', VB⟩ := B.arv
  have u := own_nat q0
  have z0 : (0 : Int32).toNatClampNeg = 0 := rfl
  have nA := own_tn A.1
  have nB := own_tn B.1
  obtain ⟨T', h', L, X', e', N', K, V, st⟩ := cpA X hx hZ hown w1 w2 w3 w4 eT VA VB (Or.inl ⟨rfl, rfl⟩) (by decide) (by decide) (by rw [Int32.lt_iff_toInt_lt]; have o : (0 : Int32).toInt = 0 := rfl; omega) (by rw [z0, nA]; omega) (by rw [z0, nB]; omega) rfl (by rw [z0]; simp; omega) N ge hg hsize hs hd hf hW hlo
  refine ⟨T', h', L, X', e', N', K, ?_, st⟩
  have V2 := own_A.of_arv V (fun i => if i < nn.toNatClampNeg then f i else f' i) (fun i hi => ?_)
  · rw [nB] at V2; exact V2
  · rw [nB] at hi
    rw [z0]
    simp only [Nat.zero_add, List.take_zero, List.nil_append, List.getD_eq_getElem?_getD]
    by_cases l : i < nn.toNatClampNeg
    · rw [List.getElem?_append_left (by simp; omega)]
      have hn : i < n := by omega
      simp [l, hn]
    · rw [List.getElem?_append_right (by simp; omega)]
      have e1 : nn.toNatClampNeg + (i - nn.toNatClampNeg) = i := by omega
      simp [l, hi, e1]
/-- clone() of a byte[] -/
theorem own_cl (X : Stand p l e R s m args below meth c T locs cells slots) (hx : p.tables.exec = Jvm.exec) (hZ : Z.Warmed39 s.vm) {a0 : Array Value} {own ad : String} {index : Nat} (hown : s.vm.findClass own = some m.cls)
    (w1 : (Cond.methodLink own index ⟨ad, "clone", "()Ljava/lang/Object;"⟩).before a0 Z = true) (w2 : (Cond.sameMethod ad "java/lang/Object" "clone" "()Ljava/lang/Object;").before a0 Z = true) (w3 : (Cond.native ⟨"java/lang/Object", "clone", "()Ljava/lang/Object;"⟩).before a0 Z = true)
    (w4 : (Cond.instanceMethod ⟨"java/lang/Object", "clone", "()Ljava/lang/Object;"⟩).before a0 Z = true) (w5 : (Cond.selects ad ⟨ad, "clone", "()Ljava/lang/Object;"⟩ ⟨"java/lang/Object", "clone", "()Ljava/lang/Object;"⟩).before a0 Z = true) (w6 : (Cond.castable ad "java/lang/Cloneable").before a0 Z = true)
    (eT : T.heap = h) (V : own_A Z h a ty n f) (E : Exa Z h a ad) {g : JFrame} (hg : g.method = m) (hsize : g.locals.size = c.maxLocals) {rest : List Value} (hst : g.stack = .ref a :: rest) (hd : decode c.code g.pc = .ok (.invokevirtual index, 3))
    (hf : 1 ≤ R.frames) {W cap : Nat} (hW : 2 * g.monitorRoom + (rest.map fun v => v.category).sum ≤ W) (hl : W + 14 ≤ R.locals) (hcap : n ≤ cap) (hc : cells + 1 ≤ R.cells) (hsl : slots + cap ≤ R.slots) :
    ∃ T' h', Stand p l e R s m args below meth c T' locs (cells + 1) (slots + cap) ∧ T'.heap = h' ∧ Ext h h' ∧ own_A Z h' h.size ty n f ∧ Exa Z h' h.size ad ∧
      ∀ target, Steps p.tables e below (T'.setTop { g with pc := g.pc + 3, stack := .ref h.size :: rest }) target → Steps p.tables e below (T.setTop g) target := by
  obtain ⟨q, cl, A, S, H, G⟩ := V
  have FC : FitC Z cl := fitC_of A fun i hi v hv => by rw [H i (S ▸ hi)] at hv; cases hv; exact G i (S ▸ hi)
  obtain ⟨T', h', X', e', ex, A', E', st⟩ := cloneA X hx hZ hown w1 w2 w3 w4 w5 w6 eT A E FC hg hsize hst hd hf hW hl (by rw [S]; exact hcap) hc hsl
  exact ⟨T', h', X', e', ex, ⟨q, cloneOf cl, A', S, H, G⟩, E', st⟩
/-- a private method is selected, by what the sheet says of another method of its class -/
theorem own_selp {s : State} {args : Array Value} {y y' : MethodName} (hc : y'.cls = y.cls) (w : (Cond.selects y'.cls y' y').before args s = true) (hp : s.PrivateAt y) (hi : (Cond.instanceMethod y).before args s = true) (hy : y.cls ≠ "java/lang/invoke/MethodHandle" ∧ y.cls ≠ "java/lang/invoke/VarHandle") : (Cond.selects y.cls y y).before args s = true := by
  obtain ⟨c, r, m, h1, h2, h3, h4, mk, h5, h6⟩ := Cond.selects_spec w
  have q := findClass_of_methodNamed h3
  rw [hc] at q
  exact selects_self_of_private q h5 h6 hp hi hy
end Arrays
end Jvm.RoadKit
namespace Jvm.Pilot.@@N@@
open Jvm Jvm.ClassFile Sem Op Lib Jvm.Free Jvm.Stand Jvm.LawKit Jvm.RoadKit Bundle Jvm.Pilot.@@N@@.Jvm.D

/-! the plain law -/
def own_sh8 (x : Int64) (i : Int32) : Int32 := Int64.toInt32 (XT.ushrL x ((8 : Int32) * i))
def own_B (x : Int64) (i : Int32) : Int32 := Int8.toInt32 (Int32.toInt8 (own_sh8 x i))
/-- the bytes when k turns of number are made -/
def own_nm (x : Int64) : Nat → Nat → Int32
  | 0 => fun _ => 0
  | k + 1 => fun i => if i = k then own_B x (Int32.ofNat k) else own_nm x k i
/-- the bytes when k turns of uintAt are made -/
def own_up (o : Int32) (x : Int64) (f : Nat → Int32) : Nat → Nat → Int32
  | 0 => f
  | k + 1 => fun i => if i = (o + Int32.ofNat k).toNatClampNeg then own_B x (Int32.ofNat k) else own_up o x f k i
def own_d (x : Int64) : Int32 → Int32 := fun k => Int8.toInt32 (Int32.toInt8 (Int64.toInt32 (if k = 0 then (x &&& (4294967295 : Int64)) &&& (255 : Int64) else if k = 1 then ((x &&& (4294967295 : Int64)) / (256 : Int64)) &&& (255 : Int64) else if k = 2 then ((x &&& (4294967295 : Int64)) / (65536 : Int64)) &&& (255 : Int64) else ((x &&& (4294967295 : Int64)) / (16777216 : Int64)) &&& (255 : Int64))))
def own_exp (j o : Int32) (fill value : Int64) : Int32 := if j.toInt < o.toInt then own_B fill j else if j.toInt ≥ (o + (4 : Int32)).toInt then own_B fill j else if (j - o).toInt ≠ 0 then (if (j - o).toInt ≠ 1 then (if (j - o).toInt ≠ 2 then own_d value 3 else own_d value 2) else own_d value 1) else own_d value 0
theorem own_upS (o : Int32) (x : Int64) (f : Nat → Int32) (k i : Nat) : own_up o x f (k + 1) i = if i = (o + Int32.ofNat k).toNatClampNeg then own_B x (Int32.ofNat k) else own_up o x f k i := rfl
theorem own_up0 (o : Int32) (x : Int64) (f : Nat → Int32) (i : Nat) : own_up o x f 0 i = f i := rfl
theorem own_nmS (x : Int64) (k i : Nat) : own_nm x (k + 1) i = if i = k then own_B x (Int32.ofNat k) else own_nm x k i := rfl
theorem own_expE (j o : Int32) (fill value : Int64) : own_exp j o fill value = if j.toInt < o.toInt then own_B fill j else if j.toInt ≥ (o + (4 : Int32)).toInt then own_B fill j else if (j - o).toInt ≠ 0 then (if (j - o).toInt ≠ 1 then (if (j - o).toInt ≠ 2 then own_d value 3 else own_d value 2) else own_d value 1) else own_d value 0 := rfl
theorem own_ul (x : Int64) (y : Int32) : XT.ushrL x y = (x.toUInt64 >>> (y.toInt64.toUInt64 &&& Int64.toUInt64 63)).toInt64 := rfl
theorem own_sh (x : Int64) (y : Int32) (k : Nat) (hk : k < 64) (h : ((y.toInt64.toUInt64 &&& Int64.toUInt64 63)) = UInt64.ofNat k) : (XT.ushrL x y).toBitVec = x.toBitVec >>> k := by
  rw [own_ul, h]
  show (x.toUInt64 >>> UInt64.ofNat k).toBitVec = _
  rw [UInt64.toBitVec_shiftRight]
  show x.toBitVec >>> ((BitVec.ofNat 64 k) % 64) = _
  have e : ((BitVec.ofNat 64 k) % 64).toNat = k := by
    have z : BitVec.toNat (64 : BitVec 64) = 64 := rfl
    simp only [BitVec.toNat_umod, BitVec.toNat_ofNat, z]
    omega
  rw [BitVec.ushiftRight_eq', e]
/-- the low byte goes by the number modulo 256 -/
theorem own_by {x y : Int64} (h : x.toInt % 256 = y.toInt % 256) : Int8.toInt32 (Int32.toInt8 (Int64.toInt32 x)) = Int8.toInt32 (Int32.toInt8 (Int64.toInt32 y)) := by
  congr 1
  apply Int8.toInt_inj.mp
  rw [Int32.toInt_toInt8, Int32.toInt_toInt8, Int64.toInt_toInt32, Int64.toInt_toInt32]
  simp only [Int.bmod_def]
  omega
theorem own_shi (x : Int64) (y : Int32) (k : Nat) (hk : k < 64) (h : ((y.toInt64.toUInt64 &&& Int64.toUInt64 63)) = UInt64.ofNat k) : (XT.ushrL x y).toInt % 256 = (x.toInt % 2 ^ 64) / 2 ^ k % 256 := by
  have e := own_sh x y k hk h
  have q1 : (XT.ushrL x y).toInt = (XT.ushrL x y).toBitVec.toInt := rfl
  have q2 : x.toInt = x.toBitVec.toInt := rfl
  have hl := x.toBitVec.isLt
  have l2 : x.toBitVec.toNat / 2 ^ k ≤ x.toBitVec.toNat := Nat.div_le_self _ _
  have a1 : (XT.ushrL x y).toInt % 256 = ((x.toBitVec.toNat / 2 ^ k : Nat) : Int) % 256 := by
    rw [q1, e, BitVec.toInt_eq_toNat_cond, BitVec.toNat_ushiftRight, Nat.shiftRight_eq_div_pow]
    split <;> omega
  have a2 : x.toInt % 2 ^ 64 = (x.toBitVec.toNat : Int) := by
    rw [q2, BitVec.toInt_eq_toNat_cond]
    split <;> omega
  rw [a1, a2]
  simp
theorem own_m (x : Int64) : (x &&& (4294967295 : Int64)).toInt = x.toInt % 2 ^ 32 := Jvm.Kit.i64_mask x (4294967295 : Int64) (k := 32) (by decide) (by decide)
theorem own_m8 (x : Int64) : (x &&& (255 : Int64)).toInt = x.toInt % 2 ^ 8 := Jvm.Kit.i64_mask x (255 : Int64) (k := 8) (by decide) (by decide)
theorem own_dv (x y : Int64) (hy : 0 < y.toInt) (hx : 0 ≤ x.toInt) : (x / y).toInt = x.toInt / y.toInt := by
  rw [Jvm.Kit.i64_div (by omega), Int.tdiv_eq_ediv_of_nonneg hx]
theorem own_b0' (x : Int64) : own_B x 0 = own_d x 0 := by
  refine own_by ?_
  rw [own_shi x _ 0 (by decide) (by decide)]
  show _ = ((x &&& (4294967295 : Int64)) &&& (255 : Int64)).toInt % 256
  rw [own_m8, own_m]
  omega

theorem own_b1' (x : Int64) : own_B x 1 = own_d x 1 := by
  refine own_by ?_
  rw [own_shi x _ 8 (by decide) (by decide)]
  show _ = (((x &&& (4294967295 : Int64)) / (256 : Int64)) &&& (255 : Int64)).toInt % 256
  have z : (256 : Int64).toInt = 256 := rfl
  have m := own_m x
  rw [own_m8, own_dv _ _ (by rw [z]; decide) (by omega), z, m]
  omega
theorem own_b2' (x : Int64) : own_B x 2 = own_d x 2 := by
  refine own_by ?_
  rw [own_shi x _ 16 (by decide) (by decide)]
  show _ = (((x &&& (4294967295 : Int64)) / (65536 : Int64)) &&& (255 : Int64)).toInt % 256
  have z : (65536 : Int64).toInt = 65536 := rfl
  have m := own_m x
  rw [own_m8, own_dv _ _ (by rw [z]; decide) (by omega), z, m]
  omega
theorem own_b3' (x : Int64) : own_B x 3 = own_d x 3 := by
  refine own_by ?_
  rw [own_shi x _ 24 (by decide) (by decide)]
  show _ = (((x &&& (4294967295 : Int64)) / (16777216 : Int64)) &&& (255 : Int64)).toInt % 256
  have z : (16777216 : Int64).toInt = 16777216 := rfl
  have m := own_m x
  rw [own_m8, own_dv _ _ (by rw [z]; decide) (by omega), z, m]
  omega
theorem own_f0 (o : Int32) (h0 : 0 ≤ o.toInt) (h4 : o.toInt ≤ 4) (fill value : Int64) : own_up o value (own_nm fill 8) 4 0 = own_exp 0 o fill value := by
  have hc : o = 0 ∨ o = 1 ∨ o = 2 ∨ o = 3 ∨ o = 4 := by
    simp only [← Int32.toInt_inj, Int32.reduceToInt]
    omega
  rcases hc with rfl | rfl | rfl | rfl | rfl
  · rw [own_upS, if_neg (by decide), own_upS, if_neg (by decide), own_upS, if_neg (by decide), own_upS, if_pos (by decide), own_expE, if_neg (by decide), if_neg (by decide), if_neg (by decide)]
    exact own_b0' value
  · rw [own_upS, if_neg (by decide), own_upS, if_neg (by decide), own_upS, if_neg (by decide), own_upS, if_neg (by decide), own_up0, own_nmS, if_neg (by decide), own_nmS, if_neg (by decide), own_nmS, if_neg (by decide), own_nmS, if_neg (by decide), own_nmS, if_neg (by decide), own_nmS, if_neg (by decide), own_nmS, if_neg (by decide), own_nmS, if_pos (by decide), own_expE, if_pos (by decide)]
    try rfl
  · rw [own_upS, if_neg (by decide), own_upS, if_neg (by decide), own_upS, if_neg (by decide), own_upS, if_neg (by decide), own_up0, own_nmS, if_neg (by decide), own_nmS, if_neg (by decide), own_nmS, if_neg (by decide), own_nmS, if_neg (by decide), own_nmS, if_neg (by decide), own_nmS, if_neg (by decide), own_nmS, if_neg (by decide), own_nmS, if_pos (by decide), own_expE, if_pos (by decide)]
    try rfl
  · rw [own_upS, if_neg (by decide), own_upS, if_neg (by decide), own_upS, if_neg (by decide), own_upS, if_neg (by decide), own_up0, own_nmS, if_neg (by decide), own_nmS, if_neg (by decide), own_nmS, if_neg (by decide), own_nmS, if_neg (by decide), own_nmS, if_neg (by decide), own_nmS, if_neg (by decide), own_nmS, if_neg (by decide), own_nmS, if_pos (by decide), own_expE, if_pos (by decide)]
    try rfl
  · rw [own_upS, if_neg (by decide), own_upS, if_neg (by decide), own_upS, if_neg (by decide), own_upS, if_neg (by decide), own_up0, own_nmS, if_neg (by decide), own_nmS, if_neg (by decide), own_nmS, if_neg (by decide), own_nmS, if_neg (by decide), own_nmS, if_neg (by decide), own_nmS, if_neg (by decide), own_nmS, if_neg (by decide), own_nmS, if_pos (by decide), own_expE, if_pos (by decide)]
    try rfl
theorem own_f1 (o : Int32) (h0 : 0 ≤ o.toInt) (h4 : o.toInt ≤ 4) (fill value : Int64) : own_up o value (own_nm fill 8) 4 1 = own_exp 1 o fill value := by
  have hc : o = 0 ∨ o = 1 ∨ o = 2 ∨ o = 3 ∨ o = 4 := by
    simp only [← Int32.toInt_inj, Int32.reduceToInt]
    omega
  rcases hc with rfl | rfl | rfl | rfl | rfl
  · rw [own_upS, if_neg (by decide), own_upS, if_neg (by decide), own_upS, if_pos (by decide), own_expE, if_neg (by decide), if_neg (by decide), if_pos (by decide), if_neg (by decide)]
    exact own_b1' value
  · rw [own_upS, if_neg (by decide), own_upS, if_neg (by decide), own_upS, if_neg (by decide), own_upS, if_pos (by decide), own_expE, if_neg (by decide), if_neg (by decide), if_neg (by decide)]
    exact own_b0' value
  · rw [own_upS, if_neg (by decide), own_upS, if_neg (by decide), own_upS, if_neg (by decide), own_upS, if_neg (by decide), own_up0, own_nmS, if_neg (by decide), own_nmS, if_neg (by decide), own_nmS, if_neg (by decide), own_nmS, if_neg (by decide), own_nmS, if_neg (by decide), own_nmS, if_neg (by decide), own_nmS, if_pos (by decide), own_expE, if_pos (by decide)]
    try rfl
  · rw [own_upS, if_neg (by decide), own_upS, if_neg (by decide), own_upS, if_neg (by decide), own_upS, if_neg (by decide), own_up0, own_nmS, if_neg (by decide), own_nmS, if_neg (by decide), own_nmS, if_neg (by decide), own_nmS, if_neg (by decide), own_nmS, if_neg (by decide), own_nmS, if_neg (by decide), own_nmS, if_pos (by decide), own_expE, if_pos (by decide)]
    try rfl
  · rw [own_upS, if_neg (by decide), own_upS, if_neg (by decide), own_upS, if_neg (by decide), own_upS, if_neg (by decide), own_up0, own_nmS, if_neg (by decide), own_nmS, if_neg (by decide), own_nmS, if_neg (by decide), own_nmS, if_neg (by decide), own_nmS, if_neg (by decide), own_nmS, if_neg (by decide), own_nmS, if_pos (by decide), own_expE, if_pos (by decide)]
    try rfl
theorem own_f2 (o : Int32) (h0 : 0 ≤ o.toInt) (h4 : o.toInt ≤ 4) (fill value : Int64) : own_up o value (own_nm fill 8) 4 2 = own_exp 2 o fill value := by
  have hc : o = 0 ∨ o = 1 ∨ o = 2 ∨ o = 3 ∨ o = 4 := by
    simp only [← Int32.toInt_inj, Int32.reduceToInt]
    omega
  rcases hc with rfl | rfl | rfl | rfl | rfl
  · rw [own_upS, if_neg (by decide), own_upS, if_pos (by decide), own_expE, if_neg (by decide), if_neg (by decide), if_pos (by decide), if_pos (by decide), if_neg (by decide)]
    exact own_b2' value
  · rw [own_upS, if_neg (by decide), own_upS, if_neg (by decide), own_upS, if_pos (by decide), own_expE, if_neg (by decide), if_neg (by decide), if_pos (by decide), if_neg (by decide)]
    exact own_b1' value
  · rw [own_upS, if_neg (by decide), own_upS, if_neg (by decide), own_upS, if_neg (by decide), own_upS, if_pos (by decide), own_expE, if_neg (by decide), if_neg (by decide), if_neg (by decide)]
    exact own_b0' value
  · rw [own_upS, if_neg (by decide), own_upS, if_neg (by decide), own_upS, if_neg (by decide), own_upS, if_neg (by decide), own_up0, own_nmS, if_neg (by decide), own_nmS, if_neg (by decide), own_nmS, if_neg (by decide), own_nmS, if_neg (by decide), own_nmS, if_neg (by decide), own_nmS, if_pos (by decide), own_expE, if_pos (by decide)]
    try rfl
  · rw [own_upS, if_neg (by decide), own_upS, if_neg (by decide), own_upS, if_neg (by decide), own_upS, if_neg (by decide), own_up0, own_nmS, if_neg (by decide), own_nmS, if_neg (by decide), own_nmS, if_neg (by decide), own_nmS, if_neg (by decide), own_nmS, if_neg (by decide), own_nmS, if_pos (by decide), own_expE, if_pos (by decide)]
    try rfl
theorem own_f3 (o : Int32) (h0 : 0 ≤ o.toInt) (h4 : o.toInt ≤ 4) (fill value : Int64) : own_up o value (own_nm fill 8) 4 3 = own_exp 3 o fill value := by
  have hc : o = 0 ∨ o = 1 ∨ o = 2 ∨ o = 3 ∨ o = 4 := by
    simp only [← Int32.toInt_inj, Int32.reduceToInt]
    omega
  rcases hc with rfl | rfl | rfl | rfl | rfl
  · rw [own_upS, if_pos (by decide), own_expE, if_neg (by decide), if_neg (by decide), if_pos (by decide), if_pos (by decide), if_pos (by decide)]
    exact own_b3' value
  · rw [own_upS, if_neg (by decide), own_upS, if_pos (by decide), own_expE, if_neg (by decide), if_neg (by decide), if_pos (by decide), if_pos (by decide), if_neg (by decide)]
    exact own_b2' value
  · rw [own_upS, if_neg (by decide), own_upS, if_neg (by decide), own_upS, if_pos (by decide), own_expE, if_neg (by decide), if_neg (by decide), if_pos (by decide), if_neg (by decide)]
    exact own_b1' value
  · rw [own_upS, if_neg (by decide), own_upS, if_neg (by decide), own_upS, if_neg (by decide), own_upS, if_pos (by decide), own_expE, if_neg (by decide), if_neg (by decide), if_neg (by decide)]
    exact own_b0' value
  · rw [own_upS, if_neg (by decide), own_upS, if_neg (by decide), own_upS, if_neg (by decide), own_upS, if_neg (by decide), own_up0, own_nmS, if_neg (by decide), own_nmS, if_neg (by decide), own_nmS, if_neg (by decide), own_nmS, if_neg (by decide), own_nmS, if_pos (by decide), own_expE, if_pos (by decide)]
    try rfl
theorem own_f4 (o : Int32) (h0 : 0 ≤ o.toInt) (h4 : o.toInt ≤ 4) (fill value : Int64) : own_up o value (own_nm fill 8) 4 4 = own_exp 4 o fill value := by
  have hc : o = 0 ∨ o = 1 ∨ o = 2 ∨ o = 3 ∨ o = 4 := by
    simp only [← Int32.toInt_inj, Int32.reduceToInt]
    omega
  rcases hc with rfl | rfl | rfl | rfl | rfl
  · rw [own_upS, if_neg (by decide), own_upS, if_neg (by decide), own_upS, if_neg (by decide), own_upS, if_neg (by decide), own_up0, own_nmS, if_neg (by decide), own_nmS, if_neg (by decide), own_nmS, if_neg (by decide), own_nmS, if_pos (by decide), own_expE, if_neg (by decide), if_pos (by decide)]
    try rfl
  · rw [own_upS, if_pos (by decide), own_expE, if_neg (by decide), if_neg (by decide), if_pos (by decide), if_pos (by decide), if_pos (by decide)]
    exact own_b3' value
  · rw [own_upS, if_neg (by decide), own_upS, if_pos (by decide), own_expE, if_neg (by decide), if_neg (by decide), if_pos (by decide), if_pos (by decide), if_neg (by decide)]
    exact own_b2' value
  · rw [own_upS, if_neg (by decide), own_upS, if_neg (by decide), own_upS, if_pos (by decide), own_expE, if_neg (by decide), if_neg (by decide), if_pos (by decide), if_neg (by decide)]
    exact own_b1' value
  · rw [own_upS, if_neg (by decide), own_upS, if_neg (by decide), own_upS, if_neg (by decide), own_upS, if_pos (by decide), own_expE, if_neg (by decide), if_neg (by decide), if_neg (by decide)]
    exact own_b0' value
theorem own_f5 (o : Int32) (h0 : 0 ≤ o.toInt) (h4 : o.toInt ≤ 4) (fill value : Int64) : own_up o value (own_nm fill 8) 4 5 = own_exp 5 o fill value := by
  have hc : o = 0 ∨ o = 1 ∨ o = 2 ∨ o = 3 ∨ o = 4 := by
    simp only [← Int32.toInt_inj, Int32.reduceToInt]
    omega
  rcases hc with rfl | rfl | rfl | rfl | rfl
  · rw [own_upS, if_neg (by decide), own_upS, if_neg (by decide), own_upS, if_neg (by decide), own_upS, if_neg (by decide), own_up0, own_nmS, if_neg (by decide), own_nmS, if_neg (by decide), own_nmS, if_pos (by decide), own_expE, if_neg (by decide), if_pos (by decide)]
    try rfl
  · rw [own_upS, if_neg (by decide), own_upS, if_neg (by decide), own_upS, if_neg (by decide), own_upS, if_neg (by decide), own_up0, own_nmS, if_neg (by decide), own_nmS, if_neg (by decide), own_nmS, if_pos (by decide), own_expE, if_neg (by decide), if_pos (by decide)]
    try rfl
  · rw [own_upS, if_pos (by decide), own_expE, if_neg (by decide), if_neg (by decide), if_pos (by decide), if_pos (by decide), if_pos (by decide)]
    exact own_b3' value
  · rw [own_upS, if_neg (by decide), own_upS, if_pos (by decide), own_expE, if_neg (by decide), if_neg (by decide), if_pos (by decide), if_pos (by decide), if_neg (by decide)]
    exact own_b2' value
  · rw [own_upS, if_neg (by decide), own_upS, if_neg (by decide), own_upS, if_pos (by decide), own_expE, if_neg (by decide), if_neg (by decide), if_pos (by decide), if_neg (by decide)]
    exact own_b1' value
theorem own_f6 (o : Int32) (h0 : 0 ≤ o.toInt) (h4 : o.toInt ≤ 4) (fill value : Int64) : own_up o value (own_nm fill 8) 4 6 = own_exp 6 o fill value := by
  have hc : o = 0 ∨ o = 1 ∨ o = 2 ∨ o = 3 ∨ o = 4 := by
    simp only [← Int32.toInt_inj, Int32.reduceToInt]
    omega
  rcases hc with rfl | rfl | rfl | rfl | rfl
  · rw [own_upS, if_neg (by decide), own_upS, if_neg (by decide), own_upS, if_neg (by decide), own_upS, if_neg (by decide), own_up0, own_nmS, if_neg (by decide), own_nmS, if_pos (by decide), own_expE, if_neg (by decide), if_pos (by decide)]
    try rfl
  · rw [own_upS, if_neg (by decide), own_upS, if_neg (by decide), own_upS, if_neg (by decide), own_upS, if_neg (by decide), own_up0, own_nmS, if_neg (by decide), own_nmS, if_pos (by decide), own_expE, if_neg (by decide), if_pos (by decide)]
    try rfl
  · rw [own_upS, if_neg (by decide), own_upS, if_neg (by decide), own_upS, if_neg (by decide), own_upS, if_neg (by decide), own_up0, own_nmS, if_neg (by decide), own_nmS, if_pos (by decide), own_expE, if_neg (by decide), if_pos (by decide)]
    try rfl
  · rw [own_upS, if_pos (by decide), own_expE, if_neg (by decide), if_neg (by decide), if_pos (by decide), if_pos (by decide), if_pos (by decide)]
    exact own_b3' value
  · rw [own_upS, if_neg (by decide), own_upS, if_pos (by decide), own_expE, if_neg (by decide), if_neg (by decide), if_pos (by decide), if_pos (by decide), if_neg (by decide)]
    exact own_b2' value
theorem own_f7 (o : Int32) (h0 : 0 ≤ o.toInt) (h4 : o.toInt ≤ 4) (fill value : Int64) : own_up o value (own_nm fill 8) 4 7 = own_exp 7 o fill value := by
  have hc : o = 0 ∨ o = 1 ∨ o = 2 ∨ o = 3 ∨ o = 4 := by
    simp only [← Int32.toInt_inj, Int32.reduceToInt]
    omega
  rcases hc with rfl | rfl | rfl | rfl | rfl
  · rw [own_upS, if_neg (by decide), own_upS, if_neg (by decide), own_upS, if_neg (by decide), own_upS, if_neg (by decide), own_up0, own_nmS, if_pos (by decide), own_expE, if_neg (by decide), if_pos (by decide)]
    try rfl
  · rw [own_upS, if_neg (by decide), own_upS, if_neg (by decide), own_upS, if_neg (by decide), own_upS, if_neg (by decide), own_up0, own_nmS, if_pos (by decide), own_expE, if_neg (by decide), if_pos (by decide)]
    try rfl
  · rw [own_upS, if_neg (by decide), own_upS, if_neg (by decide), own_upS, if_neg (by decide), own_upS, if_neg (by decide), own_up0, own_nmS, if_pos (by decide), own_expE, if_neg (by decide), if_pos (by decide)]
    try rfl
  · rw [own_upS, if_neg (by decide), own_upS, if_neg (by decide), own_upS, if_neg (by decide), own_upS, if_neg (by decide), own_up0, own_nmS, if_pos (by decide), own_expE, if_neg (by decide), if_pos (by decide)]
    try rfl
  · rw [own_upS, if_pos (by decide), own_expE, if_neg (by decide), if_neg (by decide), if_pos (by decide), if_pos (by decide), if_pos (by decide)]
    exact own_b3' value
theorem dI_0 : decode prog_76_method_1_code 0 = .ok (.aload_n 0, 1) := by decide +kernel
theorem dI_1 : decode prog_76_method_1_code 1 = .ok (.invokespecial 1, 3) := by decide +kernel
theorem dI_4 : decode prog_76_method_1_code 4 = .ok (.aload_n 0, 1) := by decide +kernel
theorem dI_5 : decode prog_76_method_1_code 5 = .ok (.bipush 64, 2) := by decide +kernel
theorem dI_7 : decode prog_76_method_1_code 7 = .ok (.newarray .byte, 2) := by decide +kernel
theorem dI_9 : decode prog_76_method_1_code 9 = .ok (.putfield 9, 3) := by decide +kernel
theorem dI_12 : decode prog_76_method_1_code 12 = .ok (.return_, 1) := by decide +kernel
theorem pn_I : plainName "com/example/dexwright/dexwright/dex/DexOutput" = true := by first | (simp [plainName, overriddenIn]; done) | decide +kernel
theorem pd_I : parseMethodDescriptor "()V" = some ⟨[], none⟩ := by decide +kernel
theorem ef_I (m : MethodId) (a1 : Addr) : entryFrame m #[(.ref a1)] 1 = mkF m 0 #[.val (.ref a1)] [] := by first | (simp [entryFrame, mkF, argsToLocals, Value.category]; done) | rfl
def QI (Z : State) (a1 : Addr) (h0 : Heap) (n0 : Nat) (v : Option Value) (h : Heap) (L : List Loc) : Prop := v = none ∧ Fr n0 L ∧ Keep h0 h [a1] ∧ (Exa Z h a1 "com/example/dexwright/dexwright/dex/DexOutput") ∧ (Fld Z h a1 "com/example/dexwright/dexwright/dex/DexOutput" "size" "I" (.int 0)) ∧ ∃ b, h0.size ≤ b ∧ (Fld Z h a1 "com/example/dexwright/dexwright/dex/DexOutput" "bytes" "[B" (.ref b)) ∧ (own_A Z h b .byte 64 (fun _ => 0))
set_option maxRecDepth 65536 in
set_option maxHeartbeats 40000000 in
theorem rmI (l : Launch) (Z : State) (a0 : Array Value) (hw : ∀ d ∈ tables_1, d.before a0 Z = true) (ws : List Jvm.Cond) (a1 : Addr) (h0 : Heap) (n0 : Nat) (Z0 : n0 ≤ h0.size) (Fb : (Fld Z h0 a1 "com/example/dexwright/dexwright/dex/DexOutput" "bytes" "[B" .null)) (Fs : (Fld Z h0 a1 "com/example/dexwright/dexwright/dex/DexOutput" "size" "I" (.int 0))) (E : (Exa Z h0 a1 "com/example/dexwright/dexwright/dex/DexOutput")) (g9 : n0 ≤ a1) :
    MetFree l (⟨"com/example/dexwright/dexwright/dex/DexOutput", "<init>", "()V"⟩ : MethodName) (head1 (Jvm.Cond.code (⟨"com/example/dexwright/dexwright/dex/DexOutput", "<init>", "()V"⟩ : MethodName) prog_76_method_1_code 1 none :: ws) ({ frames := 1, cells := 1, slots := 64, locals := 12 } : Room)) (fun a U => a = #[(.ref a1)] ∧ Z.Warmed39 U.vm ∧ U.heap = h0) (fun _ _ _ _ _ => True) (fun _ U o U' => ∃ v L, o = .returned v ∧ QI Z a1 h0 n0 v U'.heap L ∧ FrameEnd U o U' L ({ frames := 1, cells := 1, slots := 64, locals := 12 } : Room).cells ({ frames := 1, cells := 1, slots := 64, locals := 12 } : Room).slots) := by
  refine MetFree.of_bodySF (plainFor_of_name pn_I) hisR ?_
  intro p e s m args below meth c s₁ Bd hml0 hP hK
  obtain ⟨rfl, hZ, hh⟩ := hP
  have hx := Bd.exec
  have hby := Bd.bytes
  have hml : c.maxLocals = 1 := hml0
  have hown : s.vm.findClass "com/example/dexwright/dexwright/dex/DexOutput" = some m.cls := findClass_of_methodNamed Bd.named
  have hnm := (name_of_methodNamed Bd.named Bd.method).1
  have X0 : Stand p l e ({ frames := 1, cells := 1, slots := 64, locals := 12 } : Room) s m #[(.ref a1)] below meth c s₁ [] 0 0 := Stand.of_body Bd
  have e0 : s₁.heap = h0 := by rw [← hh, Bd.state]; rfl
  have N0 := Fr.nil n0
  show own_Go p.tables e below (fun t o => ∃ v L, o = .returned v ∧ QI Z a1 h0 n0 v t.heap L ∧ FrameEnd s o t L ({ frames := 1, cells := 1, slots := 64, locals := 12 } : Room).cells ({ frames := 1, cells := 1, slots := 64, locals := 12 } : Room).slots) (s₁.setTop (entryFrame m #[(.ref a1)] 1))
  rw [ef_I]
  show own_Go p.tables e below _ (s₁.setTop (mkF m 0 #[.val (.ref a1)] []))
  refine own_st (S' := s₁.setTop (mkF m 1 #[.val (.ref a1)] [(.ref a1)])) (fun _ kont => XS.aloadN X0.here hx rfl (hb hby dI_0) rfl rfl kont) ?_
  obtain ⟨T101, X101, e101, st101⟩ := initO X0 hx hZ hown (hw _ (List.mem_of_getElem? (i := 7) rfl)) (hw _ (List.mem_of_getElem? (i := 8) rfl)) (hw _ (List.mem_of_getElem? (i := 9) rfl)) e0 (g := (mkF m 1 #[.val (.ref a1)] [(.ref a1)])) rfl (by rw [hml]; rfl) rfl (hb hby dI_1) (by decide) (W := 0) (by show 2 * 0 + _ ≤ _; exact Nat.le_of_eq rfl) (by decide)
  refine own_st (S' := T101.setTop (mkF m 4 #[.val (.ref a1)] [])) st101 ?_
  refine own_st (S' := T101.setTop (mkF m 5 #[.val (.ref a1)] [(.ref a1)])) (fun _ kont => XS.aloadN X101.here hx rfl (hb hby dI_4) rfl rfl kont) ?_
  refine own_st (S' := T101.setTop (mkF m 7 #[.val (.ref a1)] [(.int (64 : Int32)), (.ref a1)])) (fun _ kont => XS.bipush X101.here hx rfl (hb hby dI_5) kont) ?_
  obtain ⟨T102, h102, cA102, X102, e102, E102, A102, st102⟩ := newP X101 hx hZ (hw _ (List.mem_of_getElem? (i := 10) rfl)) e101 (g := (mkF m 7 #[.val (.ref a1)] [(.int (64 : Int32)), (.ref a1)])) rfl (hb hby dI_7) rfl (by decide) (cap := 64) (by decide) (by decide) (by decide) (by decide)
  obtain ⟨a102, ga102⟩ : ∃ z, z = h0.size := ⟨_, rfl⟩
  rw [← ga102] at A102 st102
  refine own_st (S' := T102.setTop (mkF m 9 #[.val (.ref a1)] [(.ref a102), (.ref a1)])) st102 ?_
  have V102 : (own_A Z h102 a102 .byte 64 (fun _ => 0)) := own_A.new (ty := .byte) (z := 64) A102 (by decide) rfl rfl
  have Fb102 := Fld.ext E102 Fb
  have Fs102 := Fld.ext E102 Fs
  have Ex102 := Exa.ext E102 E
  obtain ⟨T103, h103, X103, e103, W103, st103⟩ := putF X102 hx hZ hown (host := "") (Or.inl (hw _ (List.mem_of_getElem? (i := 11) rfl))) Via.refl e102 Fb102 Ex102 (Or.inl (hw _ (List.mem_of_getElem? (i := 12) rfl))) (hw _ (List.mem_of_getElem? (i := 2) rfl)) (ty := (.array .byte)) (by decide) rfl rfl (g := (mkF m 9 #[.val (.ref a1)] [(.ref a102), (.ref a1)])) rfl rfl (hb hby dI_9)
  refine own_st (S' := T103.setTop (mkF m 12 #[.val (.ref a1)] [])) st103 ?_
  have nb : a102 ≠ a1 := by rw [ga102]; exact Ne.symm (Nat.ne_of_lt E.lt)
  refine own_end X103 (Q := (QI Z a1 h0 n0)) none Bd.notSynchronized (fun _ => rfl) (fun fs hr => X103.returnOut hx Bd.returns (hb hby dI_12) hr) ?_ (by decide) (by decide)
  rw [e103]
  exact ⟨rfl, Fr.snoc X103 N0 g9, ((Keep.refl _ _).ext E102).wr W103 (Or.inl (List.mem_of_getElem? (i := 0) rfl)), Exa.wr W103 Ex102, Fld.other W103 Fs102 (Or.inr (slot_ne (t := .int) (t' := (.array .byte)) (Or.inl (hw _ (List.mem_of_getElem? (i := 28) rfl))) (Or.inl (hw _ (List.mem_of_getElem? (i := 12) rfl))) (by decide) (by decide) (by decide))), a102, Nat.le_of_eq ga102.symm, Fld.same W103 Fb102, V102.other W103 nb⟩
theorem dN_0 : decode prog_76_method_14_code 0 = .ok (.aload_n 0, 1) := by decide +kernel
theorem dN_1 : decode prog_76_method_14_code 1 = .ok (.getfield 13, 3) := by decide +kernel
theorem dN_4 : decode prog_76_method_14_code 4 = .ok (.iload_n 1, 1) := by decide +kernel
theorem dN_5 : decode prog_76_method_14_code 5 = .ok (.iadd, 1) := by decide +kernel
theorem dN_6 : decode prog_76_method_14_code 6 = .ok (.aload_n 0, 1) := by decide +kernel
theorem dN_7 : decode prog_76_method_14_code 7 = .ok (.getfield 9, 3) := by decide +kernel
theorem dN_10 : decode prog_76_method_14_code 10 = .ok (.arraylength, 1) := by decide +kernel
theorem dN_11 : decode prog_76_method_14_code 11 = .ok (.if_icmp .le 30, 3) := by decide +kernel
theorem dN_14 : decode prog_76_method_14_code 14 = .ok (.aload_n 0, 1) := by decide +kernel
theorem dN_15 : decode prog_76_method_14_code 15 = .ok (.aload_n 0, 1) := by decide +kernel
theorem dN_16 : decode prog_76_method_14_code 16 = .ok (.getfield 9, 3) := by decide +kernel
theorem dN_19 : decode prog_76_method_14_code 19 = .ok (.aload_n 0, 1) := by decide +kernel
theorem dN_20 : decode prog_76_method_14_code 20 = .ok (.getfield 9, 3) := by decide +kernel
theorem dN_23 : decode prog_76_method_14_code 23 = .ok (.arraylength, 1) := by decide +kernel
theorem dN_24 : decode prog_76_method_14_code 24 = .ok (.iconst 2, 1) := by decide +kernel
theorem dN_25 : decode prog_76_method_14_code 25 = .ok (.imul, 1) := by decide +kernel
theorem dN_26 : decode prog_76_method_14_code 26 = .ok (.aload_n 0, 1) := by decide +kernel
theorem dN_27 : decode prog_76_method_14_code 27 = .ok (.getfield 13, 3) := by decide +kernel
theorem dN_30 : decode prog_76_method_14_code 30 = .ok (.iload_n 1, 1) := by decide +kernel
theorem dN_31 : decode prog_76_method_14_code 31 = .ok (.iadd, 1) := by decide +kernel
theorem dN_32 : decode prog_76_method_14_code 32 = .ok (.invokestatic 49, 3) := by decide +kernel
theorem dN_35 : decode prog_76_method_14_code 35 = .ok (.invokestatic 43, 3) := by decide +kernel
theorem dN_38 : decode prog_76_method_14_code 38 = .ok (.putfield 9, 3) := by decide +kernel
theorem dN_41 : decode prog_76_method_14_code 41 = .ok (.return_, 1) := by decide +kernel
theorem pn_N : plainName "com/example/dexwright/dexwright/dex/DexOutput" = true := by first | (simp [plainName, overriddenIn]; done) | decide +kernel
theorem pd_N : parseMethodDescriptor "(I)V" = some ⟨[.int], none⟩ := by decide +kernel
theorem ef_N (m : MethodId) (a1 : Addr) (p1 : Int32) : entryFrame m #[(.ref a1), (.int p1)] 2 = mkF m 0 #[.val (.ref a1), .val (.int p1)] [] := by first | (simp [entryFrame, mkF, argsToLocals, Value.category]; done) | rfl
def QN (Z : State) (a1 : Addr) (p1 : Int32) (b1 : Addr) (sz : Int32) (f : Nat → Int32) (h0 : Heap) (n0 : Nat) (v : Option Value) (h : Heap) (L : List Loc) : Prop := v = none ∧ Fr n0 L ∧ h = h0
set_option maxRecDepth 65536 in
set_option maxHeartbeats 40000000 in
theorem rmN (l : Launch) (Z : State) (a0 : Array Value) (hw : ∀ d ∈ tables_1, d.before a0 Z = true) (ws : List Jvm.Cond) (a1 : Addr) (p1 : Int32) (b1 : Addr) (sz : Int32) (f : Nat → Int32) (h0 : Heap) (n0 : Nat) (Z0 : n0 ≤ h0.size) (Fb : (Fld Z h0 a1 "com/example/dexwright/dexwright/dex/DexOutput" "bytes" "[B" (.ref b1))) (Fs : (Fld Z h0 a1 "com/example/dexwright/dexwright/dex/DexOutput" "size" "I" (.int sz))) (V : (own_A Z h0 b1 .byte 64 f)) (c1 : Int32.toInt (sz + p1) ≤ 64) :
    MetFree l (⟨"com/example/dexwright/dexwright/dex/DexOutput", "ensure", "(I)V"⟩ : MethodName) (head1 (Jvm.Cond.code (⟨"com/example/dexwright/dexwright/dex/DexOutput", "ensure", "(I)V"⟩ : MethodName) prog_76_method_14_code 2 none :: ws) ({ frames := 0, cells := 0, slots := 0, locals := 0 } : Room)) (fun a U => a = #[(.ref a1), (.int p1)] ∧ Z.Warmed39 U.vm ∧ U.heap = h0) (fun _ _ _ _ _ => True) (fun _ U o U' => ∃ v L, o = .returned v ∧ QN Z a1 p1 b1 sz f h0 n0 v U'.heap L ∧ FrameEnd U o U' L ({ frames := 0, cells := 0, slots := 0, locals := 0 } : Room).cells ({ frames := 0, cells := 0, slots := 0, locals := 0 } : Room).slots) := by
  refine MetFree.of_bodySF (plainFor_of_name pn_N) hisR ?_
  intro p e s m args below meth c s₁ Bd hml0 hP hK
  obtain ⟨rfl, hZ, hh⟩ := hP
  have hx := Bd.exec
  have hby := Bd.bytes
  have hml : c.maxLocals = 2 := hml0
  have hown : s.vm.findClass "com/example/dexwright/dexwright/dex/DexOutput" = some m.cls := findClass_of_methodNamed Bd.named
  have hnm := (name_of_methodNamed Bd.named Bd.method).1
  have X0 : Stand p l e ({ frames := 0, cells := 0, slots := 0, locals := 0 } : Room) s m #[(.ref a1), (.int p1)] below meth c s₁ [] 0 0 := Stand.of_body Bd
  have e0 : s₁.heap = h0 := by rw [← hh, Bd.state]; rfl
  have N0 := Fr.nil n0
  show own_Go p.tables e below (fun t o => ∃ v L, o = .returned v ∧ QN Z a1 p1 b1 sz f h0 n0 v t.heap L ∧ FrameEnd s o t L ({ frames := 0, cells := 0, slots := 0, locals := 0 } : Room).cells ({ frames := 0, cells := 0, slots := 0, locals := 0 } : Room).slots) (s₁.setTop (entryFrame m #[(.ref a1), (.int p1)] 2))
  rw [ef_N]
  show own_Go p.tables e below _ (s₁.setTop (mkF m 0 #[.val (.ref a1), .val (.int p1)] []))
  refine own_st (S' := s₁.setTop (mkF m 1 #[.val (.ref a1), .val (.int p1)] [(.ref a1)])) (fun _ kont => XS.aloadN X0.here hx rfl (hb hby dN_0) rfl rfl kont) ?_
  obtain ⟨T101, X101, e101, st101⟩ := getF X0 hx hZ hown (host := "") (Or.inl (hw _ (List.mem_of_getElem? (i := 27) rfl))) Via.refl e0 Fs (g := (mkF m 1 #[.val (.ref a1), .val (.int p1)] [(.ref a1)])) rfl rfl (hb hby dN_1)
  refine own_st (S' := T101.setTop (mkF m 4 #[.val (.ref a1), .val (.int p1)] [(.int sz)])) st101 ?_
  refine own_st (S' := T101.setTop (mkF m 5 #[.val (.ref a1), .val (.int p1)] [(.int p1), (.int sz)])) (fun _ kont => XS.iloadN X101.here hx rfl (hb hby dN_4) rfl kont) ?_
  refine own_st (S' := T101.setTop (mkF m 6 #[.val (.ref a1), .val (.int p1)] [(.int (sz + p1))])) (fun _ kont => XS.iadd X101.here hx rfl (hb hby dN_5) rfl kont) ?_
  refine own_st (S' := T101.setTop (mkF m 7 #[.val (.ref a1), .val (.int p1)] [(.ref a1), (.int (sz + p1))])) (fun _ kont => XS.aloadN X101.here hx rfl (hb hby dN_6) rfl rfl kont) ?_
  obtain ⟨T102, X102, e102, st102⟩ := getF X101 hx hZ hown (host := "") (Or.inl (hw _ (List.mem_of_getElem? (i := 11) rfl))) Via.refl e101 Fb (g := (mkF m 7 #[.val (.ref a1), .val (.int p1)] [(.ref a1), (.int (sz + p1))])) rfl rfl (hb hby dN_7)
  refine own_st (S' := T102.setTop (mkF m 10 #[.val (.ref a1), .val (.int p1)] [(.ref b1), (.int (sz + p1))])) st102 ?_
  refine own_st (S' := T102.setTop (mkF m 11 #[.val (.ref a1), .val (.int p1)] [(.int (Nat.toInt32 64)), (.int (sz + p1))])) (own_len X102 hx hZ e102 V (g := (mkF m 10 #[.val (.ref a1), .val (.int p1)] [(.ref b1), (.int (sz + p1))])) rfl rfl (hb hby dN_10)) ?_
  have tq103 : (Nat.toInt32 64) = (64 : Int32) := rfl
  refine own_cv (congrArg (fun z => T102.setTop (mkF m 11 #[.val (.ref a1), .val (.int p1)] [(.int z), (.int (sz + p1))])) tq103) ?_
  show own_Go p.tables e below _ (T102.setTop (mkF m 11 #[.val (.ref a1), .val (.int p1)] [(.int (64 : Int32)), (.int (sz + p1))]))
  refine own_st (S' := T102.setTop (mkF m 41 #[.val (.ref a1), .val (.int p1)] [])) (fun _ kont => XS.icmpYes X102.here hx rfl (pc0 := 11) (pc' := 41) rfl (hb hby dN_11) rfl ((own_i_le _ _).trans (decide_eq_true (p := Int32.toInt (sz + p1) ≤ 64) (c1))) (by decide) (by decide) kont) ?_
  refine own_end X102 (Q := (QN Z a1 p1 b1 sz f h0 n0)) none Bd.notSynchronized (fun _ => rfl) (fun fs hr => X102.returnOut hx Bd.returns (hb hby dN_41) hr) ?_ (by decide) (by decide)
  rw [e102]
  exact ⟨rfl, N0, rfl⟩
theorem dY_0 : decode prog_76_method_3_code 0 = .ok (.aload_n 0, 1) := by decide +kernel
theorem dY_1 : decode prog_76_method_3_code 1 = .ok (.iconst 1, 1) := by decide +kernel
theorem dY_2 : decode prog_76_method_3_code 2 = .ok (.invokevirtual 17, 3) := by decide +kernel
theorem dY_5 : decode prog_76_method_3_code 5 = .ok (.aload_n 0, 1) := by decide +kernel
theorem dY_6 : decode prog_76_method_3_code 6 = .ok (.getfield 9, 3) := by decide +kernel
theorem dY_9 : decode prog_76_method_3_code 9 = .ok (.aload_n 0, 1) := by decide +kernel
theorem dY_10 : decode prog_76_method_3_code 10 = .ok (.dup, 1) := by decide +kernel
theorem dY_11 : decode prog_76_method_3_code 11 = .ok (.getfield 13, 3) := by decide +kernel
theorem dY_14 : decode prog_76_method_3_code 14 = .ok (.dup_x1, 1) := by decide +kernel
theorem dY_15 : decode prog_76_method_3_code 15 = .ok (.iconst 1, 1) := by decide +kernel
theorem dY_16 : decode prog_76_method_3_code 16 = .ok (.iadd, 1) := by decide +kernel
theorem dY_17 : decode prog_76_method_3_code 17 = .ok (.putfield 13, 3) := by decide +kernel
theorem dY_20 : decode prog_76_method_3_code 20 = .ok (.iload_n 1, 1) := by decide +kernel
theorem dY_21 : decode prog_76_method_3_code 21 = .ok (.i2b, 1) := by decide +kernel
theorem dY_22 : decode prog_76_method_3_code 22 = .ok (.bastore, 1) := by decide +kernel
theorem dY_23 : decode prog_76_method_3_code 23 = .ok (.return_, 1) := by decide +kernel
theorem pn_Y : plainName "com/example/dexwright/dexwright/dex/DexOutput" = true := by first | (simp [plainName, overriddenIn]; done) | decide +kernel
theorem pd_Y : parseMethodDescriptor "(I)V" = some ⟨[.int], none⟩ := by decide +kernel
theorem ef_Y (m : MethodId) (a1 : Addr) (p1 : Int32) : entryFrame m #[(.ref a1), (.int p1)] 2 = mkF m 0 #[.val (.ref a1), .val (.int p1)] [] := by first | (simp [entryFrame, mkF, argsToLocals, Value.category]; done) | rfl
def QY (Z : State) (a1 : Addr) (p1 : Int32) (b1 : Addr) (sz : Int32) (f : Nat → Int32) (h0 : Heap) (n0 : Nat) (v : Option Value) (h : Heap) (L : List Loc) : Prop := v = none ∧ Fr n0 L ∧ Keep h0 h [a1, b1] ∧ (Exa Z h a1 "com/example/dexwright/dexwright/dex/DexOutput") ∧ (Fld Z h a1 "com/example/dexwright/dexwright/dex/DexOutput" "bytes" "[B" (.ref b1)) ∧ (Fld Z h a1 "com/example/dexwright/dexwright/dex/DexOutput" "size" "I" (.int (sz + 1))) ∧ (own_A Z h b1 .byte 64 (fun i => if i = sz.toNatClampNeg then Int8.toInt32 (Int32.toInt8 p1) else f i))
set_option maxRecDepth 65536 in
set_option maxHeartbeats 40000000 in
theorem rmY (l : Launch) (Z : State) (a0 : Array Value) (hw : ∀ d ∈ tables_1, d.before a0 Z = true) (ws : List Jvm.Cond) (a1 : Addr) (p1 : Int32) (b1 : Addr) (sz : Int32) (f : Nat → Int32) (h0 : Heap) (n0 : Nat) (Z0 : n0 ≤ h0.size) (Fb : (Fld Z h0 a1 "com/example/dexwright/dexwright/dex/DexOutput" "bytes" "[B" (.ref b1))) (Fs : (Fld Z h0 a1 "com/example/dexwright/dexwright/dex/DexOutput" "size" "I" (.int sz))) (V : (own_A Z h0 b1 .byte 64 f)) (E : (Exa Z h0 a1 "com/example/dexwright/dexwright/dex/DexOutput")) (ne : a1 ≠ b1) (ga : n0 ≤ a1) (gb : n0 ≤ b1) (s0 : 0 ≤ Int32.toInt sz) (s1 : Int32.toInt sz < 64) :
    MetFree l (⟨"com/example/dexwright/dexwright/dex/DexOutput", "ubyte", "(I)V"⟩ : MethodName) (head1 (Jvm.Cond.code (⟨"com/example/dexwright/dexwright/dex/DexOutput", "ubyte", "(I)V"⟩ : MethodName) prog_76_method_3_code 2 none :: ws) ({ frames := 1, cells := 0, slots := 0, locals := 13 } : Room)) (fun a U => a = #[(.ref a1), (.int p1)] ∧ Z.Warmed39 U.vm ∧ U.heap = h0) (fun _ _ _ _ _ => True) (fun _ U o U' => ∃ v L, o = .returned v ∧ QY Z a1 p1 b1 sz f h0 n0 v U'.heap L ∧ FrameEnd U o U' L ({ frames := 1, cells := 0, slots := 0, locals := 13 } : Room).cells ({ frames := 1, cells := 0, slots := 0, locals := 13 } : Room).slots) := by
  refine MetFree.of_bodySF (plainFor_of_name pn_Y) hisR ?_
  intro p e s m args below meth c s₁ Bd hml0 hP hK
  obtain ⟨rfl, hZ, hh⟩ := hP
  have hx := Bd.exec
  have hby := Bd.bytes
  have hml : c.maxLocals = 2 := hml0
  have hown : s.vm.findClass "com/example/dexwright/dexwright/dex/DexOutput" = some m.cls := findClass_of_methodNamed Bd.named
  have hnm := (name_of_methodNamed Bd.named Bd.method).1
  have X0 : Stand p l e ({ frames := 1, cells := 0, slots := 0, locals := 13 } : Room) s m #[(.ref a1), (.int p1)] below meth c s₁ [] 0 0 := Stand.of_body Bd
  have e0 : s₁.heap = h0 := by rw [← hh, Bd.state]; rfl
  have N0 := Fr.nil n0
  show own_Go p.tables e below (fun t o => ∃ v L, o = .returned v ∧ QY Z a1 p1 b1 sz f h0 n0 v t.heap L ∧ FrameEnd s o t L ({ frames := 1, cells := 0, slots := 0, locals := 13 } : Room).cells ({ frames := 1, cells := 0, slots := 0, locals := 13 } : Room).slots) (s₁.setTop (entryFrame m #[(.ref a1), (.int p1)] 2))
  rw [ef_Y]
  show own_Go p.tables e below _ (s₁.setTop (mkF m 0 #[.val (.ref a1), .val (.int p1)] []))
  have c1 : Int32.toInt (sz + (1 : Int32)) ≤ 64 := by have o : (1 : Int32).toInt = 1 := rfl; rw [Jvm.Kit.i32_add (by omega) (by omega)]; omega
  refine own_st (S' := s₁.setTop (mkF m 1 #[.val (.ref a1), .val (.int p1)] [(.ref a1)])) (fun _ kont => XS.aloadN X0.here hx rfl (hb hby dY_0) rfl rfl kont) ?_
  refine own_st (S' := s₁.setTop (mkF m 2 #[.val (.ref a1), .val (.int p1)] [(.int (1 : Int32)), (.ref a1)])) (fun _ kont => XS.iconst X0.here hx rfl (hb hby dY_1) kont) ?_
  obtain ⟨cq101, q101, q101'⟩ := Exa.cell E
  obtain ⟨_, _, ⟨T101, L101, k101, n101⟩, -, X101, ⟨Lc101, hQ101, l101, y101, z101⟩, st101⟩ := X0.privateBack hx (y := (⟨"com/example/dexwright/dexwright/dex/DexOutput", "ensure", "(I)V"⟩ : MethodName)) hown (mvT hZ (hw _ (List.mem_of_getElem? (i := 23) rfl))) (mvT hZ (hw _ (List.mem_of_getElem? (i := 24) rfl))) (own_selp (y' := (⟨"com/example/dexwright/dexwright/dex/DexOutput", "number", "(JI)V"⟩ : MethodName)) rfl (mvT hZ (hw _ (List.mem_of_getElem? (i := 16) rfl))) (Cond.privateMethod_at (mvP hZ (hw _ (List.mem_of_getElem? (i := 25) rfl)) (args := #[]))) (mvT hZ (hw _ (List.mem_of_getElem? (i := 24) rfl))) (by decide)) (Cond.privateMethod_at (mvP hZ (hw _ (List.mem_of_getElem? (i := 25) rfl)) (args := #[]))) (mvT hZ (hw _ (List.mem_of_getElem? (i := 26) rfl))) (by decide) (backOf (W := 0) (rmN l Z a0 hw [] a1 (1 : Int32) b1 sz f h0 n0 Z0 Fb Fs V c1) hZ (hw _ (List.mem_of_getElem? (i := 26) rfl)) (hw _ (List.mem_of_getElem? (i := 3) rfl)) (by decide) (by decide)) (g := (mkF m 2 #[.val (.ref a1), .val (.int p1)] [(.int (1 : Int32)), (.ref a1)])) rfl (by rw [hml]; rfl) (Steps.refl _) (a := a1) (by rw [e0]; exact q101) q101' (argsL := [(.int (1 : Int32))]) (rest := []) (lenOf pd_N rfl) rfl (by show 2 * 0 + _ ≤ _; exact Nat.le_of_eq rfl) (hb hby dY_2) (fun _ _ => ⟨rfl, e0, (by dsimp only [Pt.cells]; decide), (by dsimp only [Pt.slots]; decide)⟩)
  dsimp only [Pt.U, Pt.locs, Pt.cells, Pt.slots] at X101 l101 y101 z101 st101 hQ101
  subst l101 y101 z101
  obtain ⟨rfl, N101, hh101⟩ := hQ101
  refine own_tr (S' := T101.setTop (mkF m 5 #[.val (.ref a1), .val (.int p1)] [])) st101 ?_
  have Nn := Fr.app N0 N101
  refine own_st (S' := T101.setTop (mkF m 6 #[.val (.ref a1), .val (.int p1)] [(.ref a1)])) (fun _ kont => XS.aloadN X101.here hx rfl (hb hby dY_5) rfl rfl kont) ?_
  obtain ⟨T102, X102, e102, st102⟩ := getF X101 hx hZ hown (host := "") (Or.inl (hw _ (List.mem_of_getElem? (i := 11) rfl))) Via.refl hh101 Fb (g := (mkF m 6 #[.val (.ref a1), .val (.int p1)] [(.ref a1)])) rfl rfl (hb hby dY_6)
  refine own_st (S' := T102.setTop (mkF m 9 #[.val (.ref a1), .val (.int p1)] [(.ref b1)])) st102 ?_
  refine own_st (S' := T102.setTop (mkF m 10 #[.val (.ref a1), .val (.int p1)] [(.ref a1), (.ref b1)])) (fun _ kont => XS.aloadN X102.here hx rfl (hb hby dY_9) rfl rfl kont) ?_
  refine own_st (S' := T102.setTop (mkF m 11 #[.val (.ref a1), .val (.int p1)] [(.ref a1), (.ref a1), (.ref b1)])) (fun _ kont => XS.dup X102.here hx rfl (hb hby dY_10) rfl rfl kont) ?_
  obtain ⟨T103, X103, e103, st103⟩ := getF X102 hx hZ hown (host := "") (Or.inl (hw _ (List.mem_of_getElem? (i := 27) rfl))) Via.refl e102 Fs (g := (mkF m 11 #[.val (.ref a1), .val (.int p1)] [(.ref a1), (.ref a1), (.ref b1)])) rfl rfl (hb hby dY_11)
  refine own_st (S' := T103.setTop (mkF m 14 #[.val (.ref a1), .val (.int p1)] [(.int sz), (.ref a1), (.ref b1)])) st103 ?_
  refine own_st (S' := T103.setTop (mkF m 15 #[.val (.ref a1), .val (.int p1)] [(.int sz), (.ref a1), (.int sz), (.ref b1)])) (fun _ kont => XT.dupX1 X103.here hx rfl (hb hby dY_14) rfl rfl rfl kont) ?_
  refine own_st (S' := T103.setTop (mkF m 16 #[.val (.ref a1), .val (.int p1)] [(.int (1 : Int32)), (.int sz), (.ref a1), (.int sz), (.ref b1)])) (fun _ kont => XS.iconst X103.here hx rfl (hb hby dY_15) kont) ?_
  refine own_st (S' := T103.setTop (mkF m 17 #[.val (.ref a1), .val (.int p1)] [(.int (sz + (1 : Int32))), (.ref a1), (.int sz), (.ref b1)])) (fun _ kont => XS.iadd X103.here hx rfl (hb hby dY_16) rfl kont) ?_
  obtain ⟨T104, h104, X104, e104, W104, st104⟩ := putF X103 hx hZ hown (host := "") (Or.inl (hw _ (List.mem_of_getElem? (i := 27) rfl))) Via.refl e103 Fs E (Or.inl (hw _ (List.mem_of_getElem? (i := 28) rfl))) (hw _ (List.mem_of_getElem? (i := 2) rfl)) (ty := .int) (by decide) rfl rfl (g := (mkF m 17 #[.val (.ref a1), .val (.int p1)] [(.int (sz + (1 : Int32))), (.ref a1), (.int sz), (.ref b1)])) rfl rfl (hb hby dY_17)
  refine own_st (S' := T104.setTop (mkF m 20 #[.val (.ref a1), .val (.int p1)] [(.int sz), (.ref b1)])) st104 ?_
  have N104 := Fr.snoc X104 Nn ga
  have V104 := V.other W104 ne.symm
  have Fb104 := Fld.other W104 Fb (Or.inr (slot_ne (t := (.array .byte)) (t' := .int) (Or.inl (hw _ (List.mem_of_getElem? (i := 12) rfl))) (Or.inl (hw _ (List.mem_of_getElem? (i := 28) rfl))) (by decide) (by decide) (by decide)))
  have Fs104 := Fld.same W104 Fs
  have E104 := Exa.wr W104 E
  refine own_st (S' := T104.setTop (mkF m 21 #[.val (.ref a1), .val (.int p1)] [(.int p1), (.int sz), (.ref b1)])) (fun _ kont => XS.iloadN X104.here hx rfl (hb hby dY_20) rfl kont) ?_
  refine own_st (S' := T104.setTop (mkF m 22 #[.val (.ref a1), .val (.int p1)] [(.int (Int8.toInt32 (Int32.toInt8 p1))), (.int sz), (.ref b1)])) (fun _ kont => XT.i2b X104.here hx rfl (hb hby dY_21) rfl kont) ?_
  obtain ⟨T105, h105, X105, e105, W105, V105, st105⟩ := own_stB X104 hx hZ e104 V104 s0 s1 (g := (mkF m 22 #[.val (.ref a1), .val (.int p1)] [(.int (Int8.toInt32 (Int32.toInt8 p1))), (.int sz), (.ref b1)])) rfl rfl (hb hby dY_22)
  have N105 := Fr.snoc X105 N104 gb
  refine own_st (S' := T105.setTop (mkF m 23 #[.val (.ref a1), .val (.int p1)] [])) st105 ?_
  have V2 : (own_A Z h105 b1 .byte 64 (fun i => if i = sz.toNatClampNeg then Int8.toInt32 (Int32.toInt8 p1) else f i)) := V105.congr (fun i hi => by by_cases q : i = sz.toNatClampNeg <;> simp [q])
  refine own_end X105 (Q := (QY Z a1 p1 b1 sz f h0 n0)) none Bd.notSynchronized (fun _ => rfl) (fun fs hr => X105.returnOut hx Bd.returns (hb hby dY_23) hr) ?_ (by decide) (by decide)
  rw [e105]
  exact ⟨rfl, N105, ((Keep.refl _ _).wr W104 (Or.inl (List.mem_of_getElem? (i := 0) rfl))).wr W105 (Or.inl (List.mem_of_getElem? (i := 1) rfl)), Exa.wr W105 E104, Fld.other W105 Fb104 (Or.inl ne), Fld.other W105 Fs104 (Or.inl ne), V2⟩
theorem dU_0 : decode prog_76_method_6_code 0 = .ok (.iconst 0, 1) := by decide +kernel
theorem dU_1 : decode prog_76_method_6_code 1 = .ok (.istore 4, 2) := by decide +kernel
theorem dU_3 : decode prog_76_method_6_code 3 = .ok (.iload 4, 2) := by decide +kernel
theorem dU_5 : decode prog_76_method_6_code 5 = .ok (.iload_n 3, 1) := by decide +kernel
theorem dU_6 : decode prog_76_method_6_code 6 = .ok (.if_icmp .ge 21, 3) := by decide +kernel
theorem dU_9 : decode prog_76_method_6_code 9 = .ok (.aload_n 0, 1) := by decide +kernel
theorem dU_10 : decode prog_76_method_6_code 10 = .ok (.lload_n 1, 1) := by decide +kernel
theorem dU_11 : decode prog_76_method_6_code 11 = .ok (.bipush 8, 2) := by decide +kernel
theorem dU_13 : decode prog_76_method_6_code 13 = .ok (.iload 4, 2) := by decide +kernel
theorem dU_15 : decode prog_76_method_6_code 15 = .ok (.imul, 1) := by decide +kernel
theorem dU_16 : decode prog_76_method_6_code 16 = .ok (.lushr, 1) := by decide +kernel
theorem dU_17 : decode prog_76_method_6_code 17 = .ok (.l2i, 1) := by decide +kernel
theorem dU_18 : decode prog_76_method_6_code 18 = .ok (.invokevirtual 21, 3) := by decide +kernel
theorem dU_21 : decode prog_76_method_6_code 21 = .ok (.iinc 4 1, 3) := by decide +kernel
theorem dU_24 : decode prog_76_method_6_code 24 = .ok (.goto (-21), 3) := by decide +kernel
theorem dU_27 : decode prog_76_method_6_code 27 = .ok (.return_, 1) := by decide +kernel
theorem pn_U : plainName "com/example/dexwright/dexwright/dex/DexOutput" = true := by first | (simp [plainName, overriddenIn]; done) | decide +kernel
theorem pd_U : parseMethodDescriptor "(JI)V" = some ⟨[.long, .int], none⟩ := by decide +kernel
theorem ef_U (m : MethodId) (a1 : Addr) (p1 : Int64) (p2 : Int32) : entryFrame m #[(.ref a1), (.long p1), (.int p2)] 5 = mkF m 0 #[.val (.ref a1), .val (.long p1), .second, .val (.int p2), .unset] [] := by first | (simp [entryFrame, mkF, argsToLocals, Value.category]; done) | rfl
def QU (Z : State) (a1 : Addr) (p1 : Int64) (p2 : Int32) (b1 : Addr) (h0 : Heap) (n0 : Nat) (v : Option Value) (h : Heap) (L : List Loc) : Prop := v = none ∧ Fr n0 L ∧ Keep h0 h [a1, b1] ∧ (Exa Z h a1 "com/example/dexwright/dexwright/dex/DexOutput") ∧ (Fld Z h a1 "com/example/dexwright/dexwright/dex/DexOutput" "bytes" "[B" (.ref b1)) ∧ (Fld Z h a1 "com/example/dexwright/dexwright/dex/DexOutput" "size" "I" (.int 8)) ∧ (own_A Z h b1 .byte 64 (own_nm p1 8))
set_option maxRecDepth 65536 in
set_option maxHeartbeats 40000000 in
theorem rmU (l : Launch) (Z : State) (a0 : Array Value) (hw : ∀ d ∈ tables_1, d.before a0 Z = true) (ws : List Jvm.Cond) (a1 : Addr) (p1 : Int64) (p2 : Int32) (b1 : Addr) (h0 : Heap) (n0 : Nat) (Z0 : n0 ≤ h0.size) (Fb : (Fld Z h0 a1 "com/example/dexwright/dexwright/dex/DexOutput" "bytes" "[B" (.ref b1))) (Fs : (Fld Z h0 a1 "com/example/dexwright/dexwright/dex/DexOutput" "size" "I" (.int 0))) (V : (own_A Z h0 b1 .byte 64 (fun _ => 0))) (E : (Exa Z h0 a1 "com/example/dexwright/dexwright/dex/DexOutput")) (ne : a1 ≠ b1) (ga : n0 ≤ a1) (gb : n0 ≤ b1) (q2 : p2 = (8 : Int32)) :
    MetFree l (⟨"com/example/dexwright/dexwright/dex/DexOutput", "number", "(JI)V"⟩ : MethodName) (head1 (Jvm.Cond.code (⟨"com/example/dexwright/dexwright/dex/DexOutput", "number", "(JI)V"⟩ : MethodName) prog_76_method_6_code 5 none :: ws) ({ frames := 2, cells := 0, slots := 0, locals := 26 } : Room)) (fun a U => a = #[(.ref a1), (.long p1), (.int p2)] ∧ Z.Warmed39 U.vm ∧ U.heap = h0) (fun _ _ _ _ _ => True) (fun _ U o U' => ∃ v L, o = .returned v ∧ QU Z a1 p1 p2 b1 h0 n0 v U'.heap L ∧ FrameEnd U o U' L ({ frames := 2, cells := 0, slots := 0, locals := 26 } : Room).cells ({ frames := 2, cells := 0, slots := 0, locals := 26 } : Room).slots) := by
  refine MetFree.of_bodySF (plainFor_of_name pn_U) hisR ?_
  intro p e s m args below meth c s₁ Bd hml0 hP hK
  obtain ⟨rfl, hZ, hh⟩ := hP
  have hx := Bd.exec
  have hby := Bd.bytes
  have hml : c.maxLocals = 5 := hml0
  have hown : s.vm.findClass "com/example/dexwright/dexwright/dex/DexOutput" = some m.cls := findClass_of_methodNamed Bd.named
  have hnm := (name_of_methodNamed Bd.named Bd.method).1
  have X0 : Stand p l e ({ frames := 2, cells := 0, slots := 0, locals := 26 } : Room) s m #[(.ref a1), (.long p1), (.int p2)] below meth c s₁ [] 0 0 := Stand.of_body Bd
  have e0 : s₁.heap = h0 := by rw [← hh, Bd.state]; rfl
  have N0 := Fr.nil n0
  show own_Go p.tables e below (fun t o => ∃ v L, o = .returned v ∧ QU Z a1 p1 p2 b1 h0 n0 v t.heap L ∧ FrameEnd s o t L ({ frames := 2, cells := 0, slots := 0, locals := 26 } : Room).cells ({ frames := 2, cells := 0, slots := 0, locals := 26 } : Room).slots) (s₁.setTop (entryFrame m #[(.ref a1), (.long p1), (.int p2)] 5))
  rw [ef_U]
  show own_Go p.tables e below _ (s₁.setTop (mkF m 0 #[.val (.ref a1), .val (.long p1), .second, .val (.int p2), .unset] []))
  subst q2
  have K0 := Keep.refl h0 [a1, b1]
  have V0 : (own_A Z h0 b1 .byte 64 (own_nm p1 0)) := V
  have Fb0 := Fb
  have Fs0 := Fs
  have Ex0 := E
  have Zs0 := Z0
  have Nt0 := N0
  refine own_st (S' := s₁.setTop (mkF m 1 #[.val (.ref a1), .val (.long p1), .second, .val (.int (8 : Int32)), .unset] [(.int (0 : Int32))])) (fun _ kont => XS.iconst X0.here hx rfl (hb hby dU_0) kont) ?_
  refine own_st (S' := s₁.setTop (mkF m 3 #[.val (.ref a1), .val (.long p1), .second, .val (.int (8 : Int32)), .val (.int (0 : Int32))] [])) (fun _ kont => XS.istore X0.here hx rfl (hb hby dU_1) rfl (l' := #[.val (.ref a1), .val (.long p1), .second, .val (.int (8 : Int32)), .val (.int (0 : Int32))]) rfl kont) ?_
  refine own_st (S' := s₁.setTop (mkF m 5 #[.val (.ref a1), .val (.long p1), .second, .val (.int (8 : Int32)), .val (.int (0 : Int32))] [(.int (0 : Int32))])) (fun _ kont => XS.iload X0.here hx rfl (hb hby dU_3) rfl kont) ?_
  refine own_st (S' := s₁.setTop (mkF m 6 #[.val (.ref a1), .val (.long p1), .second, .val (.int (8 : Int32)), .val (.int (0 : Int32))] [(.int (8 : Int32)), (.int (0 : Int32))])) (fun _ kont => XS.iloadN X0.here hx rfl (hb hby dU_5) rfl kont) ?_
  refine own_st (S' := s₁.setTop (mkF m 9 #[.val (.ref a1), .val (.long p1), .second, .val (.int (8 : Int32)), .val (.int (0 : Int32))] [])) (fun _ kont => XS.icmpNo X0.here hx rfl (hb hby dU_6) rfl ((own_i_ge _ _).trans (decide_eq_false (p := 0 ≥ 8) (by decide))) kont) ?_
  refine own_st (S' := s₁.setTop (mkF m 10 #[.val (.ref a1), .val (.long p1), .second, .val (.int (8 : Int32)), .val (.int (0 : Int32))] [(.ref a1)])) (fun _ kont => XS.aloadN X0.here hx rfl (hb hby dU_9) rfl rfl kont) ?_
  refine own_st (S' := s₁.setTop (mkF m 11 #[.val (.ref a1), .val (.long p1), .second, .val (.int (8 : Int32)), .val (.int (0 : Int32))] [(.long p1), (.ref a1)])) (fun _ kont => XT.lloadN X0.here hx rfl (hb hby dU_10) rfl kont) ?_
  refine own_st (S' := s₁.setTop (mkF m 13 #[.val (.ref a1), .val (.long p1), .second, .val (.int (8 : Int32)), .val (.int (0 : Int32))] [(.int (8 : Int32)), (.long p1), (.ref a1)])) (fun _ kont => XS.bipush X0.here hx rfl (hb hby dU_11) kont) ?_
  refine own_st (S' := s₁.setTop (mkF m 15 #[.val (.ref a1), .val (.long p1), .second, .val (.int (8 : Int32)), .val (.int (0 : Int32))] [(.int (0 : Int32)), (.int (8 : Int32)), (.long p1), (.ref a1)])) (fun _ kont => XS.iload X0.here hx rfl (hb hby dU_13) rfl kont) ?_
  refine own_st (S' := s₁.setTop (mkF m 16 #[.val (.ref a1), .val (.long p1), .second, .val (.int (8 : Int32)), .val (.int (0 : Int32))] [(.int ((8 : Int32) * (0 : Int32))), (.long p1), (.ref a1)])) (fun _ kont => XS.imul X0.here hx rfl (hb hby dU_15) rfl kont) ?_
  refine own_st (S' := s₁.setTop (mkF m 17 #[.val (.ref a1), .val (.long p1), .second, .val (.int (8 : Int32)), .val (.int (0 : Int32))] [(.long (XT.ushrL p1 ((8 : Int32) * (0 : Int32)))), (.ref a1)])) (fun _ kont => XT.lushr X0.here hx rfl (hb hby dU_16) rfl kont) ?_
  refine own_st (S' := s₁.setTop (mkF m 18 #[.val (.ref a1), .val (.long p1), .second, .val (.int (8 : Int32)), .val (.int (0 : Int32))] [(.int (Int64.toInt32 (XT.ushrL p1 ((8 : Int32) * (0 : Int32))))), (.ref a1)])) (fun _ kont => XT.l2i X0.here hx rfl (hb hby dU_17) rfl kont) ?_
  have tq101 : (Int64.toInt32 (XT.ushrL p1 ((8 : Int32) * (0 : Int32)))) = (own_sh8 p1 (0 : Int32)) := rfl
  refine own_cv (congrArg (fun z => s₁.setTop (mkF m 18 #[.val (.ref a1), .val (.long p1), .second, .val (.int (8 : Int32)), .val (.int (0 : Int32))] [(.int z), (.ref a1)])) tq101) ?_
  show own_Go p.tables e below _ (s₁.setTop (mkF m 18 #[.val (.ref a1), .val (.long p1), .second, .val (.int (8 : Int32)), .val (.int (0 : Int32))] [(.int (own_sh8 p1 (0 : Int32))), (.ref a1)]))
  obtain ⟨cq102, kq102, q102a, q102b, q102c⟩ := isOf hZ e0 Ex0
  obtain ⟨_, _, ⟨T102, L102, k102, n102⟩, -, X102, ⟨Lc102, hQ102, l102, y102, z102⟩, st102⟩ := X0.virtualBack hx (y := (⟨"com/example/dexwright/dexwright/dex/DexOutput", "ubyte", "(I)V"⟩ : MethodName)) (z := (⟨"com/example/dexwright/dexwright/dex/DexOutput", "ubyte", "(I)V"⟩ : MethodName)) hown (mvT hZ (hw _ (List.mem_of_getElem? (i := 18) rfl))) (mvT hZ (hw _ (List.mem_of_getElem? (i := 19) rfl))) (notFace_of_selects (args := #[]) (mvT hZ (hw _ (List.mem_of_getElem? (i := 21) rfl)))) (mvT hZ (hw _ (List.mem_of_getElem? (i := 21) rfl))) (mvT hZ (hw _ (List.mem_of_getElem? (i := 20) rfl))) (by decide) (backOf (W := 0) (rmY l Z a0 hw [] a1 (own_sh8 p1 (0 : Int32)) b1 (0 : Int32) (own_nm p1 0) h0 n0 Zs0 Fb0 Fs0 V0 Ex0 ne ga gb (by decide) (by decide)) hZ (hw _ (List.mem_of_getElem? (i := 22) rfl)) (hw _ (List.mem_of_getElem? (i := 3) rfl)) (by decide) (by decide)) q102a q102c (g := (mkF m 18 #[.val (.ref a1), .val (.long p1), .second, .val (.int (8 : Int32)), .val (.int (0 : Int32))] [(.int (own_sh8 p1 (0 : Int32))), (.ref a1)])) rfl (by rw [hml]; rfl) (Steps.refl _) (argsL := [(.int (own_sh8 p1 (0 : Int32)))]) (rest := []) (lenOf pd_Y rfl) rfl (by show 2 * 0 + _ ≤ _; exact Nat.le_of_eq rfl) (hb hby dU_18) (fun _ _ => ⟨rfl, e0, (by dsimp only [Pt.cells]; decide), (by dsimp only [Pt.slots]; decide)⟩)
  dsimp only [Pt.U, Pt.locs, Pt.cells, Pt.slots] at X102 l102 y102 z102 st102 hQ102
  subst l102 y102 z102
  obtain ⟨rfl, N102, K102, Exq102, Fbq102, Fsq102, Vq102⟩ := hQ102
  refine own_tr (S' := T102.setTop (mkF m 21 #[.val (.ref a1), .val (.long p1), .second, .val (.int (8 : Int32)), .val (.int (0 : Int32))] [])) st102 ?_
  have Nt1 := Fr.app Nt0 N102
  have K1 := K0.trans K102 (fun x hx => Or.inl hx)
  have Zs1 := Nat.le_trans Zs0 K102.1
  have Ex1 := Exq102
  have Fb1 := Fbq102
  have Fs1 : (Fld Z T102.heap a1 "com/example/dexwright/dexwright/dex/DexOutput" "size" "I" (.int (1 : Int32))) := Fsq102
  have V1 : (own_A Z T102.heap b1 .byte 64 (own_nm p1 1)) := Vq102
  refine own_st (S' := T102.setTop (mkF m 24 #[.val (.ref a1), .val (.long p1), .second, .val (.int (8 : Int32)), .val (.int ((0 : Int32) + (1 : Int32)))] [])) (fun _ kont => XS.iinc X102.here hx rfl (hb hby dU_21) rfl (l' := #[.val (.ref a1), .val (.long p1), .second, .val (.int (8 : Int32)), .val (.int ((0 : Int32) + (1 : Int32)))]) rfl kont) ?_
  have tq103 : ((0 : Int32) + (1 : Int32)) = (1 : Int32) := rfl
  refine own_cv (congrArg (fun z => T102.setTop (mkF m 24 #[.val (.ref a1), .val (.long p1), .second, .val (.int (8 : Int32)), .val (.int z)] [])) tq103) ?_
  show own_Go p.tables e below _ (T102.setTop (mkF m 24 #[.val (.ref a1), .val (.long p1), .second, .val (.int (8 : Int32)), .val (.int (1 : Int32))] []))
  refine own_st (S' := T102.setTop (mkF m 3 #[.val (.ref a1), .val (.long p1), .second, .val (.int (8 : Int32)), .val (.int (1 : Int32))] [])) (fun _ kont => XS.goto X102.here hx rfl (pc0 := 24) (pc' := 3) rfl (hb hby dU_24) (by decide) (by decide) kont) ?_
  refine own_st (S' := T102.setTop (mkF m 5 #[.val (.ref a1), .val (.long p1), .second, .val (.int (8 : Int32)), .val (.int (1 : Int32))] [(.int (1 : Int32))])) (fun _ kont => XS.iload X102.here hx rfl (hb hby dU_3) rfl kont) ?_
  refine own_st (S' := T102.setTop (mkF m 6 #[.val (.ref a1), .val (.long p1), .second, .val (.int (8 : Int32)), .val (.int (1 : Int32))] [(.int (8 : Int32)), (.int (1 : Int32))])) (fun _ kont => XS.iloadN X102.here hx rfl (hb hby dU_5) rfl kont) ?_
  refine own_st (S' := T102.setTop (mkF m 9 #[.val (.ref a1), .val (.long p1), .second, .val (.int (8 : Int32)), .val (.int (1 : Int32))] [])) (fun _ kont => XS.icmpNo X102.here hx rfl (hb hby dU_6) rfl ((own_i_ge _ _).trans (decide_eq_false (p := 1 ≥ 8) (by decide))) kont) ?_
  refine own_st (S' := T102.setTop (mkF m 10 #[.val (.ref a1), .val (.long p1), .second, .val (.int (8 : Int32)), .val (.int (1 : Int32))] [(.ref a1)])) (fun _ kont => XS.aloadN X102.here hx rfl (hb hby dU_9) rfl rfl kont) ?_
  refine own_st (S' := T102.setTop (mkF m 11 #[.val (.ref a1), .val (.long p1), .second, .val (.int (8 : Int32)), .val (.int (1 : Int32))] [(.long p1), (.ref a1)])) (fun _ kont => XT.lloadN X102.here hx rfl (hb hby dU_10) rfl kont) ?_
  refine own_st (S' := T102.setTop (mkF m 13 #[.val (.ref a1), .val (.long p1), .second, .val (.int (8 : Int32)), .val (.int (1 : Int32))] [(.int (8 : Int32)), (.long p1), (.ref a1)])) (fun _ kont => XS.bipush X102.here hx rfl (hb hby dU_11) kont) ?_
  refine own_st (S' := T102.setTop (mkF m 15 #[.val (.ref a1), .val (.long p1), .second, .val (.int (8 : Int32)), .val (.int (1 : Int32))] [(.int (1 : Int32)), (.int (8 : Int32)), (.long p1), (.ref a1)])) (fun _ kont => XS.iload X102.here hx rfl (hb hby dU_13) rfl kont) ?_
  refine own_st (S' := T102.setTop (mkF m 16 #[.val (.ref a1), .val (.long p1), .second, .val (.int (8 : Int32)), .val (.int (1 : Int32))] [(.int ((8 : Int32) * (1 : Int32))), (.long p1), (.ref a1)])) (fun _ kont => XS.imul X102.here hx rfl (hb hby dU_15) rfl kont) ?_
  refine own_st (S' := T102.setTop (mkF m 17 #[.val (.ref a1), .val (.long p1), .second, .val (.int (8 : Int32)), .val (.int (1 : Int32))] [(.long (XT.ushrL p1 ((8 : Int32) * (1 : Int32)))), (.ref a1)])) (fun _ kont => XT.lushr X102.here hx rfl (hb hby dU_16) rfl kont) ?_
  refine own_st (S' := T102.setTop (mkF m 18 #[.val (.ref a1), .val (.long p1), .second, .val (.int (8 : Int32)), .val (.int (1 : Int32))] [(.int (Int64.toInt32 (XT.ushrL p1 ((8 : Int32) * (1 : Int32))))), (.ref a1)])) (fun _ kont => XT.l2i X102.here hx rfl (hb hby dU_17) rfl kont) ?_
  have tq104 : (Int64.toInt32 (XT.ushrL p1 ((8 : Int32) * (1 : Int32)))) = (own_sh8 p1 (1 : Int32)) := rfl
  refine own_cv (congrArg (fun z => T102.setTop (mkF m 18 #[.val (.ref a1), .val (.long p1), .second, .val (.int (8 : Int32)), .val (.int (1 : Int32))] [(.int z), (.ref a1)])) tq104) ?_
  show own_Go p.tables e below _ (T102.setTop (mkF m 18 #[.val (.ref a1), .val (.long p1), .second, .val (.int (8 : Int32)), .val (.int (1 : Int32))] [(.int (own_sh8 p1 (1 : Int32))), (.ref a1)]))
  obtain ⟨cq105, kq105, q105a, q105b, q105c⟩ := isOf hZ rfl Ex1
  obtain ⟨_, _, ⟨T105, L105, k105, n105⟩, -, X105, ⟨Lc105, hQ105, l105, y105, z105⟩, st105⟩ := X102.virtualBack hx (y := (⟨"com/example/dexwright/dexwright/dex/DexOutput", "ubyte", "(I)V"⟩ : MethodName)) (z := (⟨"com/example/dexwright/dexwright/dex/DexOutput", "ubyte", "(I)V"⟩ : MethodName)) hown (mvT hZ (hw _ (List.mem_of_getElem? (i := 18) rfl))) (mvT hZ (hw _ (List.mem_of_getElem? (i := 19) rfl))) (notFace_of_selects (args := #[]) (mvT hZ (hw _ (List.mem_of_getElem? (i := 21) rfl)))) (mvT hZ (hw _ (List.mem_of_getElem? (i := 21) rfl))) (mvT hZ (hw _ (List.mem_of_getElem? (i := 20) rfl))) (by decide) (backOf (W := 0) (rmY l Z a0 hw [] a1 (own_sh8 p1 (1 : Int32)) b1 (1 : Int32) (own_nm p1 1) T102.heap n0 Zs1 Fb1 Fs1 V1 Ex1 ne ga gb (by decide) (by decide)) hZ (hw _ (List.mem_of_getElem? (i := 22) rfl)) (hw _ (List.mem_of_getElem? (i := 3) rfl)) (by decide) (by decide)) q105a q105c (g := (mkF m 18 #[.val (.ref a1), .val (.long p1), .second, .val (.int (8 : Int32)), .val (.int (1 : Int32))] [(.int (own_sh8 p1 (1 : Int32))), (.ref a1)])) rfl (by rw [hml]; rfl) (Steps.refl _) (argsL := [(.int (own_sh8 p1 (1 : Int32)))]) (rest := []) (lenOf pd_Y rfl) rfl (by show 2 * 0 + _ ≤ _; exact Nat.le_of_eq rfl) (hb hby dU_18) (fun _ _ => ⟨rfl, rfl, (by dsimp only [Pt.cells]; decide), (by dsimp only [Pt.slots]; decide)⟩)
  dsimp only [Pt.U, Pt.locs, Pt.cells, Pt.slots] at X105 l105 y105 z105 st105 hQ105
  subst l105 y105 z105
  obtain ⟨rfl, N105, K105, Exq105, Fbq105, Fsq105, Vq105⟩ := hQ105
  refine own_tr (S' := T105.setTop (mkF m 21 #[.val (.ref a1), .val (.long p1), .second, .val (.int (8 : Int32)), .val (.int (1 : Int32))] [])) st105 ?_
  have Nt2 := Fr.app Nt1 N105
  have K2 := K1.trans K105 (fun x hx => Or.inl hx)
  have Zs2 := Nat.le_trans Zs1 K105.1
  have Ex2 := Exq105
  have Fb2 := Fbq105
  have Fs2 : (Fld Z T105.heap a1 "com/example/dexwright/dexwright/dex/DexOutput" "size" "I" (.int (2 : Int32))) := Fsq105
  have V2 : (own_A Z T105.heap b1 .byte 64 (own_nm p1 2)) := Vq105
  refine own_st (S' := T105.setTop (mkF m 24 #[.val (.ref a1), .val (.long p1), .second, .val (.int (8 : Int32)), .val (.int ((1 : Int32) + (1 : Int32)))] [])) (fun _ kont => XS.iinc X105.here hx rfl (hb hby dU_21) rfl (l' := #[.val (.ref a1), .val (.long p1), .second, .val (.int (8 : Int32)), .val (.int ((1 : Int32) + (1 : Int32)))]) rfl kont) ?_
  have tq106 : ((1 : Int32) + (1 : Int32)) = (2 : Int32) := rfl
  refine own_cv (congrArg (fun z => T105.setTop (mkF m 24 #[.val (.ref a1), .val (.long p1), .second, .val (.int (8 : Int32)), .val (.int z)] [])) tq106) ?_
  show own_Go p.tables e below _ (T105.setTop (mkF m 24 #[.val (.ref a1), .val (.long p1), .second, .val (.int (8 : Int32)), .val (.int (2 : Int32))] []))
  refine own_st (S' := T105.setTop (mkF m 3 #[.val (.ref a1), .val (.long p1), .second, .val (.int (8 : Int32)), .val (.int (2 : Int32))] [])) (fun _ kont => XS.goto X105.here hx rfl (pc0 := 24) (pc' := 3) rfl (hb hby dU_24) (by decide) (by decide) kont) ?_
  refine own_st (S' := T105.setTop (mkF m 5 #[.val (.ref a1), .val (.long p1), .second, .val (.int (8 : Int32)), .val (.int (2 : Int32))] [(.int (2 : Int32))])) (fun _ kont => XS.iload X105.here hx rfl (hb hby dU_3) rfl kont) ?_
  refine own_st (S' := T105.setTop (mkF m 6 #[.val (.ref a1), .val (.long p1), .second, .val (.int (8 : Int32)), .val (.int (2 : Int32))] [(.int (8 : Int32)), (.int (2 : Int32))])) (fun _ kont => XS.iloadN X105.here hx rfl (hb hby dU_5) rfl kont) ?_
  refine own_st (S' := T105.setTop (mkF m 9 #[.val (.ref a1), .val (.long p1), .second, .val (.int (8 : Int32)), .val (.int (2 : Int32))] [])) (fun _ kont => XS.icmpNo X105.here hx rfl (hb hby dU_6) rfl ((own_i_ge _ _).trans (decide_eq_false (p := 2 ≥ 8) (by decide))) kont) ?_
  refine own_st (S' := T105.setTop (mkF m 10 #[.val (.ref a1), .val (.long p1), .second, .val (.int (8 : Int32)), .val (.int (2 : Int32))] [(.ref a1)])) (fun _ kont => XS.aloadN X105.here hx rfl (hb hby dU_9) rfl rfl kont) ?_
  refine own_st (S' := T105.setTop (mkF m 11 #[.val (.ref a1), .val (.long p1), .second, .val (.int (8 : Int32)), .val (.int (2 : Int32))] [(.long p1), (.ref a1)])) (fun _ kont => XT.lloadN X105.here hx rfl (hb hby dU_10) rfl kont) ?_
  refine own_st (S' := T105.setTop (mkF m 13 #[.val (.ref a1), .val (.long p1), .second, .val (.int (8 : Int32)), .val (.int (2 : Int32))] [(.int (8 : Int32)), (.long p1), (.ref a1)])) (fun _ kont => XS.bipush X105.here hx rfl (hb hby dU_11) kont) ?_
  refine own_st (S' := T105.setTop (mkF m 15 #[.val (.ref a1), .val (.long p1), .second, .val (.int (8 : Int32)), .val (.int (2 : Int32))] [(.int (2 : Int32)), (.int (8 : Int32)), (.long p1), (.ref a1)])) (fun _ kont => XS.iload X105.here hx rfl (hb hby dU_13) rfl kont) ?_
  refine own_st (S' := T105.setTop (mkF m 16 #[.val (.ref a1), .val (.long p1), .second, .val (.int (8 : Int32)), .val (.int (2 : Int32))] [(.int ((8 : Int32) * (2 : Int32))), (.long p1), (.ref a1)])) (fun _ kont => XS.imul X105.here hx rfl (hb hby dU_15) rfl kont) ?_
  refine own_st (S' := T105.setTop (mkF m 17 #[.val (.ref a1), .val (.long p1), .second, .val (.int (8 : Int32)), .val (.int (2 : Int32))] [(.long (XT.ushrL p1 ((8 : Int32) * (2 : Int32)))), (.ref a1)])) (fun _ kont => XT.lushr X105.here hx rfl (hb hby dU_16) rfl kont) ?_
  refine own_st (S' := T105.setTop (mkF m 18 #[.val (.ref a1), .val (.long p1), .second, .val (.int (8 : Int32)), .val (.int (2 : Int32))] [(.int (Int64.toInt32 (XT.ushrL p1 ((8 : Int32) * (2 : Int32))))), (.ref a1)])) (fun _ kont => XT.l2i X105.here hx rfl (hb hby dU_17) rfl kont) ?_
  have tq107 : (Int64.toInt32 (XT.ushrL p1 ((8 : Int32) * (2 : Int32)))) = (own_sh8 p1 (2 : Int32)) := rfl
  refine own_cv (congrArg (fun z => T105.setTop (mkF m 18 #[.val (.ref a1), .val (.long p1), .second, .val (.int (8 : Int32)), .val (.int (2 : Int32))] [(.int z), (.ref a1)])) tq107) ?_
  show own_Go p.tables e below _ (T105.setTop (mkF m 18 #[.val (.ref a1), .val (.long p1), .second, .val (.int (8 : Int32)), .val (.int (2 : Int32))] [(.int (own_sh8 p1 (2 : Int32))), (.ref a1)]))
  obtain ⟨cq108, kq108, q108a, q108b, q108c⟩ := isOf hZ rfl Ex2
  obtain ⟨_, _, ⟨T108, L108, k108, n108⟩, -, X108, ⟨Lc108, hQ108, l108, y108, z108⟩, st108⟩ := X105.virtualBack hx (y := (⟨"com/example/dexwright/dexwright/dex/DexOutput", "ubyte", "(I)V"⟩ : MethodName)) (z := (⟨"com/example/dexwright/dexwright/dex/DexOutput", "ubyte", "(I)V"⟩ : MethodName)) hown (mvT hZ (hw _ (List.mem_of_getElem? (i := 18) rfl))) (mvT hZ (hw _ (List.mem_of_getElem? (i := 19) rfl))) (notFace_of_selects (args := #[]) (mvT hZ (hw _ (List.mem_of_getElem? (i := 21) rfl)))) (mvT hZ (hw _ (List.mem_of_getElem? (i := 21) rfl))) (mvT hZ (hw _ (List.mem_of_getElem? (i := 20) rfl))) (by decide) (backOf (W := 0) (rmY l Z a0 hw [] a1 (own_sh8 p1 (2 : Int32)) b1 (2 : Int32) (own_nm p1 2) T105.heap n0 Zs2 Fb2 Fs2 V2 Ex2 ne ga gb (by decide) (by decide)) hZ (hw _ (List.mem_of_getElem? (i := 22) rfl)) (hw _ (List.mem_of_getElem? (i := 3) rfl)) (by decide) (by decide)) q108a q108c (g := (mkF m 18 #[.val (.ref a1), .val (.long p1), .second, .val (.int (8 : Int32)), .val (.int (2 : Int32))] [(.int (own_sh8 p1 (2 : Int32))), (.ref a1)])) rfl (by rw [hml]; rfl) (Steps.refl _) (argsL := [(.int (own_sh8 p1 (2 : Int32)))]) (rest := []) (lenOf pd_Y rfl) rfl (by show 2 * 0 + _ ≤ _; exact Nat.le_of_eq rfl) (hb hby dU_18) (fun _ _ => ⟨rfl, rfl, (by dsimp only [Pt.cells]; decide), (by dsimp only [Pt.slots]; decide)⟩)
  dsimp only [Pt.U, Pt.locs, Pt.cells, Pt.slots] at X108 l108 y108 z108 st108 hQ108
  subst l108 y108 z108
  obtain ⟨rfl, N108, K108, Exq108, Fbq108, Fsq108, Vq108⟩ := hQ108
  refine own_tr (S' := T108.setTop (mkF m 21 #[.val (.ref a1), .val (.long p1), .second, .val (.int (8 : Int32)), .val (.int (2 : Int32))] [])) st108 ?_
  have Nt3 := Fr.app Nt2 N108
  have K3 := K2.trans K108 (fun x hx => Or.inl hx)
  have Zs3 := Nat.le_trans Zs2 K108.1
  have Ex3 := Exq108
  have Fb3 := Fbq108
  have Fs3 : (Fld Z T108.heap a1 "com/example/dexwright/dexwright/dex/DexOutput" "size" "I" (.int (3 : Int32))) := Fsq108
  have V3 : (own_A Z T108.heap b1 .byte 64 (own_nm p1 3)) := Vq108
  refine own_st (S' := T108.setTop (mkF m 24 #[.val (.ref a1), .val (.long p1), .second, .val (.int (8 : Int32)), .val (.int ((2 : Int32) + (1 : Int32)))] [])) (fun _ kont => XS.iinc X108.here hx rfl (hb hby dU_21) rfl (l' := #[.val (.ref a1), .val (.long p1), .second, .val (.int (8 : Int32)), .val (.int ((2 : Int32) + (1 : Int32)))]) rfl kont) ?_
  have tq109 : ((2 : Int32) + (1 : Int32)) = (3 : Int32) := rfl
  refine own_cv (congrArg (fun z => T108.setTop (mkF m 24 #[.val (.ref a1), .val (.long p1), .second, .val (.int (8 : Int32)), .val (.int z)] [])) tq109) ?_
  show own_Go p.tables e below _ (T108.setTop (mkF m 24 #[.val (.ref a1), .val (.long p1), .second, .val (.int (8 : Int32)), .val (.int (3 : Int32))] []))
  refine own_st (S' := T108.setTop (mkF m 3 #[.val (.ref a1), .val (.long p1), .second, .val (.int (8 : Int32)), .val (.int (3 : Int32))] [])) (fun _ kont => XS.goto X108.here hx rfl (pc0 := 24) (pc' := 3) rfl (hb hby dU_24) (by decide) (by decide) kont) ?_
  refine own_st (S' := T108.setTop (mkF m 5 #[.val (.ref a1), .val (.long p1), .second, .val (.int (8 : Int32)), .val (.int (3 : Int32))] [(.int (3 : Int32))])) (fun _ kont => XS.iload X108.here hx rfl (hb hby dU_3) rfl kont) ?_
  refine own_st (S' := T108.setTop (mkF m 6 #[.val (.ref a1), .val (.long p1), .second, .val (.int (8 : Int32)), .val (.int (3 : Int32))] [(.int (8 : Int32)), (.int (3 : Int32))])) (fun _ kont => XS.iloadN X108.here hx rfl (hb hby dU_5) rfl kont) ?_
  refine own_st (S' := T108.setTop (mkF m 9 #[.val (.ref a1), .val (.long p1), .second, .val (.int (8 : Int32)), .val (.int (3 : Int32))] [])) (fun _ kont => XS.icmpNo X108.here hx rfl (hb hby dU_6) rfl ((own_i_ge _ _).trans (decide_eq_false (p := 3 ≥ 8) (by decide))) kont) ?_
  refine own_st (S' := T108.setTop (mkF m 10 #[.val (.ref a1), .val (.long p1), .second, .val (.int (8 : Int32)), .val (.int (3 : Int32))] [(.ref a1)])) (fun _ kont => XS.aloadN X108.here hx rfl (hb hby dU_9) rfl rfl kont) ?_
  refine own_st (S' := T108.setTop (mkF m 11 #[.val (.ref a1), .val (.long p1), .second, .val (.int (8 : Int32)), .val (.int (3 : Int32))] [(.long p1), (.ref a1)])) (fun _ kont => XT.lloadN X108.here hx rfl (hb hby dU_10) rfl kont) ?_
  refine own_st (S' := T108.setTop (mkF m 13 #[.val (.ref a1), .val (.long p1), .second, .val (.int (8 : Int32)), .val (.int (3 : Int32))] [(.int (8 : Int32)), (.long p1), (.ref a1)])) (fun _ kont => XS.bipush X108.here hx rfl (hb hby dU_11) kont) ?_
  refine own_st (S' := T108.setTop (mkF m 15 #[.val (.ref a1), .val (.long p1), .second, .val (.int (8 : Int32)), .val (.int (3 : Int32))] [(.int (3 : Int32)), (.int (8 : Int32)), (.long p1), (.ref a1)])) (fun _ kont => XS.iload X108.here hx rfl (hb hby dU_13) rfl kont) ?_
  refine own_st (S' := T108.setTop (mkF m 16 #[.val (.ref a1), .val (.long p1), .second, .val (.int (8 : Int32)), .val (.int (3 : Int32))] [(.int ((8 : Int32) * (3 : Int32))), (.long p1), (.ref a1)])) (fun _ kont => XS.imul X108.here hx rfl (hb hby dU_15) rfl kont) ?_
  refine own_st (S' := T108.setTop (mkF m 17 #[.val (.ref a1), .val (.long p1), .second, .val (.int (8 : Int32)), .val (.int (3 : Int32))] [(.long (XT.ushrL p1 ((8 : Int32) * (3 : Int32)))), (.ref a1)])) (fun _ kont => XT.lushr X108.here hx rfl (hb hby dU_16) rfl kont) ?_
  refine own_st (S' := T108.setTop (mkF m 18 #[.val (.ref a1), .val (.long p1), .second, .val (.int (8 : Int32)), .val (.int (3 : Int32))] [(.int (Int64.toInt32 (XT.ushrL p1 ((8 : Int32) * (3 : Int32))))), (.ref a1)])) (fun _ kont => XT.l2i X108.here hx rfl (hb hby dU_17) rfl kont) ?_
  have tq110 : (Int64.toInt32 (XT.ushrL p1 ((8 : Int32) * (3 : Int32)))) = (own_sh8 p1 (3 : Int32)) := rfl
  refine own_cv (congrArg (fun z => T108.setTop (mkF m 18 #[.val (.ref a1), .val (.long p1), .second, .val (.int (8 : Int32)), .val (.int (3 : Int32))] [(.int z), (.ref a1)])) tq110) ?_
  show own_Go p.tables e below _ (T108.setTop (mkF m 18 #[.val (.ref a1), .val (.long p1), .second, .val (.int (8 : Int32)), .val (.int (3 : Int32))] [(.int (own_sh8 p1 (3 : Int32))), (.ref a1)]))
  obtain ⟨cq111, kq111, q111a, q111b, q111c⟩ := isOf hZ rfl Ex3
  obtain ⟨_, _, ⟨T111, L111, k111, n111⟩, -, X111, ⟨Lc111, hQ111, l111, y111, z111⟩, st111⟩ := X108.virtualBack hx (y := (⟨"com/example/dexwright/dexwright/dex/DexOutput", "ubyte", "(I)V"⟩ : MethodName)) (z := (⟨"com/example/dexwright/dexwright/dex/DexOutput", "ubyte", "(I)V"⟩ : MethodName)) hown (mvT hZ (hw _ (List.mem_of_getElem? (i := 18) rfl))) (mvT hZ (hw _ (List.mem_of_getElem? (i := 19) rfl))) (notFace_of_selects (args := #[]) (mvT hZ (hw _ (List.mem_of_getElem? (i := 21) rfl)))) (mvT hZ (hw _ (List.mem_of_getElem? (i := 21) rfl))) (mvT hZ (hw _ (List.mem_of_getElem? (i := 20) rfl))) (by decide) (backOf (W := 0) (rmY l Z a0 hw [] a1 (own_sh8 p1 (3 : Int32)) b1 (3 : Int32) (own_nm p1 3) T108.heap n0 Zs3 Fb3 Fs3 V3 Ex3 ne ga gb (by decide) (by decide)) hZ (hw _ (List.mem_of_getElem? (i := 22) rfl)) (hw _ (List.mem_of_getElem? (i := 3) rfl)) (by decide) (by decide)) q111a q111c (g := (mkF m 18 #[.val (.ref a1), .val (.long p1), .second, .val (.int (8 : Int32)), .val (.int (3 : Int32))] [(.int (own_sh8 p1 (3 : Int32))), (.ref a1)])) rfl (by rw [hml]; rfl) (Steps.refl _) (argsL := [(.int (own_sh8 p1 (3 : Int32)))]) (rest := []) (lenOf pd_Y rfl) rfl (by show 2 * 0 + _ ≤ _; exact Nat.le_of_eq rfl) (hb hby dU_18) (fun _ _ => ⟨rfl, rfl, (by dsimp only [Pt.cells]; decide), (by dsimp only [Pt.slots]; decide)⟩)
  dsimp only [Pt.U, Pt.locs, Pt.cells, Pt.slots] at X111 l111 y111 z111 st111 hQ111
  subst l111 y111 z111
  obtain ⟨rfl, N111, K111, Exq111, Fbq111, Fsq111, Vq111⟩ := hQ111
  refine own_tr (S' := T111.setTop (mkF m 21 #[.val (.ref a1), .val (.long p1), .second, .val (.int (8 : Int32)), .val (.int (3 : Int32))] [])) st111 ?_
  have Nt4 := Fr.app Nt3 N111
  have K4 := K3.trans K111 (fun x hx => Or.inl hx)
  have Zs4 := Nat.le_trans Zs3 K111.1
  have Ex4 := Exq111
  have Fb4 := Fbq111
  have Fs4 : (Fld Z T111.heap a1 "com/example/dexwright/dexwright/dex/DexOutput" "size" "I" (.int (4 : Int32))) := Fsq111
  have V4 : (own_A Z T111.heap b1 .byte 64 (own_nm p1 4)) := Vq111
  refine own_st (S' := T111.setTop (mkF m 24 #[.val (.ref a1), .val (.long p1), .second, .val (.int (8 : Int32)), .val (.int ((3 : Int32) + (1 : Int32)))] [])) (fun _ kont => XS.iinc X111.here hx rfl (hb hby dU_21) rfl (l' := #[.val (.ref a1), .val (.long p1), .second, .val (.int (8 : Int32)), .val (.int ((3 : Int32) + (1 : Int32)))]) rfl kont) ?_
  have tq112 : ((3 : Int32) + (1 : Int32)) = (4 : Int32) := rfl
  refine own_cv (congrArg (fun z => T111.setTop (mkF m 24 #[.val (.ref a1), .val (.long p1), .second, .val (.int (8 : Int32)), .val (.int z)] [])) tq112) ?_
  show own_Go p.tables e below _ (T111.setTop (mkF m 24 #[.val (.ref a1), .val (.long p1), .second, .val (.int (8 : Int32)), .val (.int (4 : Int32))] []))
  refine own_st (S' := T111.setTop (mkF m 3 #[.val (.ref a1), .val (.long p1), .second, .val (.int (8 : Int32)), .val (.int (4 : Int32))] [])) (fun _ kont => XS.goto X111.here hx rfl (pc0 := 24) (pc' := 3) rfl (hb hby dU_24) (by decide) (by decide) kont) ?_
  refine own_st (S' := T111.setTop (mkF m 5 #[.val (.ref a1), .val (.long p1), .second, .val (.int (8 : Int32)), .val (.int (4 : Int32))] [(.int (4 : Int32))])) (fun _ kont => XS.iload X111.here hx rfl (hb hby dU_3) rfl kont) ?_
  refine own_st (S' := T111.setTop (mkF m 6 #[.val (.ref a1), .val (.long p1), .second, .val (.int (8 : Int32)), .val (.int (4 : Int32))] [(.int (8 : Int32)), (.int (4 : Int32))])) (fun _ kont => XS.iloadN X111.here hx rfl (hb hby dU_5) rfl kont) ?_
  refine own_st (S' := T111.setTop (mkF m 9 #[.val (.ref a1), .val (.long p1), .second, .val (.int (8 : Int32)), .val (.int (4 : Int32))] [])) (fun _ kont => XS.icmpNo X111.here hx rfl (hb hby dU_6) rfl ((own_i_ge _ _).trans (decide_eq_false (p := 4 ≥ 8) (by decide))) kont) ?_
  refine own_st (S' := T111.setTop (mkF m 10 #[.val (.ref a1), .val (.long p1), .second, .val (.int (8 : Int32)), .val (.int (4 : Int32))] [(.ref a1)])) (fun _ kont => XS.aloadN X111.here hx rfl (hb hby dU_9) rfl rfl kont) ?_
  refine own_st (S' := T111.setTop (mkF m 11 #[.val (.ref a1), .val (.long p1), .second, .val (.int (8 : Int32)), .val (.int (4 : Int32))] [(.long p1), (.ref a1)])) (fun _ kont => XT.lloadN X111.here hx rfl (hb hby dU_10) rfl kont) ?_
  refine own_st (S' := T111.setTop (mkF m 13 #[.val (.ref a1), .val (.long p1), .second, .val (.int (8 : Int32)), .val (.int (4 : Int32))] [(.int (8 : Int32)), (.long p1), (.ref a1)])) (fun _ kont => XS.bipush X111.here hx rfl (hb hby dU_11) kont) ?_
  refine own_st (S' := T111.setTop (mkF m 15 #[.val (.ref a1), .val (.long p1), .second, .val (.int (8 : Int32)), .val (.int (4 : Int32))] [(.int (4 : Int32)), (.int (8 : Int32)), (.long p1), (.ref a1)])) (fun _ kont => XS.iload X111.here hx rfl (hb hby dU_13) rfl kont) ?_
  refine own_st (S' := T111.setTop (mkF m 16 #[.val (.ref a1), .val (.long p1), .second, .val (.int (8 : Int32)), .val (.int (4 : Int32))] [(.int ((8 : Int32) * (4 : Int32))), (.long p1), (.ref a1)])) (fun _ kont => XS.imul X111.here hx rfl (hb hby dU_15) rfl kont) ?_
  refine own_st (S' := T111.setTop (mkF m 17 #[.val (.ref a1), .val (.long p1), .second, .val (.int (8 : Int32)), .val (.int (4 : Int32))] [(.long (XT.ushrL p1 ((8 : Int32) * (4 : Int32)))), (.ref a1)])) (fun _ kont => XT.lushr X111.here hx rfl (hb hby dU_16) rfl kont) ?_
  refine own_st (S' := T111.setTop (mkF m 18 #[.val (.ref a1), .val (.long p1), .second, .val (.int (8 : Int32)), .val (.int (4 : Int32))] [(.int (Int64.toInt32 (XT.ushrL p1 ((8 : Int32) * (4 : Int32))))), (.ref a1)])) (fun _ kont => XT.l2i X111.here hx rfl (hb hby dU_17) rfl kont) ?_
  have tq113 : (Int64.toInt32 (XT.ushrL p1 ((8 : Int32) * (4 : Int32)))) = (own_sh8 p1 (4 : Int32)) := rfl
  refine own_cv (congrArg (fun z => T111.setTop (mkF m 18 #[.val (.ref a1), .val (.long p1), .second, .val (.int (8 : Int32)), .val (.int (4 : Int32))] [(.int z), (.ref a1)])) tq113) ?_
  show own_Go p.tables e below _ (T111.setTop (mkF m 18 #[.val (.ref a1), .val (.long p1), .second, .val (.int (8 : Int32)), .val (.int (4 : Int32))] [(.int (own_sh8 p1 (4 : Int32))), (.ref a1)]))
  obtain ⟨cq114, kq114, q114a, q114b, q114c⟩ := isOf hZ rfl Ex4
  obtain ⟨_, _, ⟨T114, L114, k114, n114⟩, -, X114, ⟨Lc114, hQ114, l114, y114, z114⟩, st114⟩ := X111.virtualBack hx (y := (⟨"com/example/dexwright/dexwright/dex/DexOutput", "ubyte", "(I)V"⟩ : MethodName)) (z := (⟨"com/example/dexwright/dexwright/dex/DexOutput", "ubyte", "(I)V"⟩ : MethodName)) hown (mvT hZ (hw _ (List.mem_of_getElem? (i := 18) rfl))) (mvT hZ (hw _ (List.mem_of_getElem? (i := 19) rfl))) (notFace_of_selects (args := #[]) (mvT hZ (hw _ (List.mem_of_getElem? (i := 21) rfl)))) (mvT hZ (hw _ (List.mem_of_getElem? (i := 21) rfl))) (mvT hZ (hw _ (List.mem_of_getElem? (i := 20) rfl))) (by decide) (backOf (W := 0) (rmY l Z a0 hw [] a1 (own_sh8 p1 (4 : Int32)) b1 (4 : Int32) (own_nm p1 4) T111.heap n0 Zs4 Fb4 Fs4 V4 Ex4 ne ga gb (by decide) (by decide)) hZ (hw _ (List.mem_of_getElem? (i := 22) rfl)) (hw _ (List.mem_of_getElem? (i := 3) rfl)) (by decide) (by decide)) q114a q114c (g := (mkF m 18 #[.val (.ref a1), .val (.long p1), .second, .val (.int (8 : Int32)), .val (.int (4 : Int32))] [(.int (own_sh8 p1 (4 : Int32))), (.ref a1)])) rfl (by rw [hml]; rfl) (Steps.refl _) (argsL := [(.int (own_sh8 p1 (4 : Int32)))]) (rest := []) (lenOf pd_Y rfl) rfl (by show 2 * 0 + _ ≤ _; exact Nat.le_of_eq rfl) (hb hby dU_18) (fun _ _ => ⟨rfl, rfl, (by dsimp only [Pt.cells]; decide), (by dsimp only [Pt.slots]; decide)⟩)
  dsimp only [Pt.U, Pt.locs, Pt.cells, Pt.slots] at X114 l114 y114 z114 st114 hQ114
  subst l114 y114 z114
  obtain ⟨rfl, N114, K114, Exq114, Fbq114, Fsq114, Vq114⟩ := hQ114
  refine own_tr (S' := T114.setTop (mkF m 21 #[.val (.ref a1), .val (.long p1), .second, .val (.int (8 : Int32)), .val (.int (4 : Int32))] [])) st114 ?_
  have Nt5 := Fr.app Nt4 N114
  have K5 := K4.trans K114 (fun x hx => Or.inl hx)
  have Zs5 := Nat.le_trans Zs4 K114.1
  have Ex5 := Exq114
  have Fb5 := Fbq114
  have Fs5 : (Fld Z T114.heap a1 "com/example/dexwright/dexwright/dex/DexOutput" "size" "I" (.int (5 : Int32))) := Fsq114
  have V5 : (own_A Z T114.heap b1 .byte 64 (own_nm p1 5)) := Vq114
  refine own_st (S' := T114.setTop (mkF m 24 #[.val (.ref a1), .val (.long p1), .second, .val (.int (8 : Int32)), .val (.int ((4 : Int32) + (1 : Int32)))] [])) (fun _ kont => XS.iinc X114.here hx rfl (hb hby dU_21) rfl (l' := #[.val (.ref a1), .val (.long p1), .second, .val (.int (8 : Int32)), .val (.int ((4 : Int32) + (1 : Int32)))]) rfl kont) ?_
  have tq115 : ((4 : Int32) + (1 : Int32)) = (5 : Int32) := rfl
  refine own_cv (congrArg (fun z => T114.setTop (mkF m 24 #[.val (.ref a1), .val (.long p1), .second, .val (.int (8 : Int32)), .val (.int z)] [])) tq115) ?_
  show own_Go p.tables e below _ (T114.setTop (mkF m 24 #[.val (.ref a1), .val (.long p1), .second, .val (.int (8 : Int32)), .val (.int (5 : Int32))] []))
  refine own_st (S' := T114.setTop (mkF m 3 #[.val (.ref a1), .val (.long p1), .second, .val (.int (8 : Int32)), .val (.int (5 : Int32))] [])) (fun _ kont => XS.goto X114.here hx rfl (pc0 := 24) (pc' := 3) rfl (hb hby dU_24) (by decide) (by decide) kont) ?_
  refine own_st (S' := T114.setTop (mkF m 5 #[.val (.ref a1), .val (.long p1), .second, .val (.int (8 : Int32)), .val (.int (5 : Int32))] [(.int (5 : Int32))])) (fun _ kont => XS.iload X114.here hx rfl (hb hby dU_3) rfl kont) ?_
  refine own_st (S' := T114.setTop (mkF m 6 #[.val (.ref a1), .val (.long p1), .second, .val (.int (8 : Int32)), .val (.int (5 : Int32))] [(.int (8 : Int32)), (.int (5 : Int32))])) (fun _ kont => XS.iloadN X114.here hx rfl (hb hby dU_5) rfl kont) ?_
  refine own_st (S' := T114.setTop (mkF m 9 #[.val (.ref a1), .val (.long p1), .second, .val (.int (8 : Int32)), .val (.int (5 : Int32))] [])) (fun _ kont => XS.icmpNo X114.here hx rfl (hb hby dU_6) rfl ((own_i_ge _ _).trans (decide_eq_false (p := 5 ≥ 8) (by decide))) kont) ?_
  refine own_st (S' := T114.setTop (mkF m 10 #[.val (.ref a1), .val (.long p1), .second, .val (.int (8 : Int32)), .val (.int (5 : Int32))] [(.ref a1)])) (fun _ kont => XS.aloadN X114.here hx rfl (hb hby dU_9) rfl rfl kont) ?_
  refine own_st (S' := T114.setTop (mkF m 11 #[.val (.ref a1), .val (.long p1), .second, .val (.int (8 : Int32)), .val (.int (5 : Int32))] [(.long p1), (.ref a1)])) (fun _ kont => XT.lloadN X114.here hx rfl (hb hby dU_10) rfl kont) ?_
  refine own_st (S' := T114.setTop (mkF m 13 #[.val (.ref a1), .val (.long p1), .second, .val (.int (8 : Int32)), .val (.int (5 : Int32))] [(.int (8 : Int32)), (.long p1), (.ref a1)])) (fun _ kont => XS.bipush X114.here hx rfl (hb hby dU_11) kont) ?_
  refine own_st (S' := T114.setTop (mkF m 15 #[.val (.ref a1), .val (.long p1), .second, .val (.int (8 : Int32)), .val (.int (5 : Int32))] [(.int (5 : Int32)), (.int (8 : Int32)), (.long p1), (.ref a1)])) (fun _ kont => XS.iload X114.here hx rfl (hb hby dU_13) rfl kont) ?_
  refine own_st (S' := T114.setTop (mkF m 16 #[.val (.ref a1), .val (.long p1), .second, .val (.int (8 : Int32)), .val (.int (5 : Int32))] [(.int ((8 : Int32) * (5 : Int32))), (.long p1), (.ref a1)])) (fun _ kont => XS.imul X114.here hx rfl (hb hby dU_15) rfl kont) ?_
  refine own_st (S' := T114.setTop (mkF m 17 #[.val (.ref a1), .val (.long p1), .second, .val (.int (8 : Int32)), .val (.int (5 : Int32))] [(.long (XT.ushrL p1 ((8 : Int32) * (5 : Int32)))), (.ref a1)])) (fun _ kont => XT.lushr X114.here hx rfl (hb hby dU_16) rfl kont) ?_
  refine own_st (S' := T114.setTop (mkF m 18 #[.val (.ref a1), .val (.long p1), .second, .val (.int (8 : Int32)), .val (.int (5 : Int32))] [(.int (Int64.toInt32 (XT.ushrL p1 ((8 : Int32) * (5 : Int32))))), (.ref a1)])) (fun _ kont => XT.l2i X114.here hx rfl (hb hby dU_17) rfl kont) ?_
  have tq116 : (Int64.toInt32 (XT.ushrL p1 ((8 : Int32) * (5 : Int32)))) = (own_sh8 p1 (5 : Int32)) := rfl
  refine own_cv (congrArg (fun z => T114.setTop (mkF m 18 #[.val (.ref a1), .val (.long p1), .second, .val (.int (8 : Int32)), .val (.int (5 : Int32))] [(.int z), (.ref a1)])) tq116) ?_
  show own_Go p.tables e below _ (T114.setTop (mkF m 18 #[.val (.ref a1), .val (.long p1), .second, .val (.int (8 : Int32)), .val (.int (5 : Int32))] [(.int (own_sh8 p1 (5 : Int32))), (.ref a1)]))
  obtain ⟨cq117, kq117, q117a, q117b, q117c⟩ := isOf hZ rfl Ex5
  obtain ⟨_, _, ⟨T117, L117, k117, n117⟩, -, X117, ⟨Lc117, hQ117, l117, y117, z117⟩, st117⟩ := X114.virtualBack hx (y := (⟨"com/example/dexwright/dexwright/dex/DexOutput", "ubyte", "(I)V"⟩ : MethodName)) (z := (⟨"com/example/dexwright/dexwright/dex/DexOutput", "ubyte", "(I)V"⟩ : MethodName)) hown (mvT hZ (hw _ (List.mem_of_getElem? (i := 18) rfl))) (mvT hZ (hw _ (List.mem_of_getElem? (i := 19) rfl))) (notFace_of_selects (args := #[]) (mvT hZ (hw _ (List.mem_of_getElem? (i := 21) rfl)))) (mvT hZ (hw _ (List.mem_of_getElem? (i := 21) rfl))) (mvT hZ (hw _ (List.mem_of_getElem? (i := 20) rfl))) (by decide) (backOf (W := 0) (rmY l Z a0 hw [] a1 (own_sh8 p1 (5 : Int32)) b1 (5 : Int32) (own_nm p1 5) T114.heap n0 Zs5 Fb5 Fs5 V5 Ex5 ne ga gb (by decide) (by decide)) hZ (hw _ (List.mem_of_getElem? (i := 22) rfl)) (hw _ (List.mem_of_getElem? (i := 3) rfl)) (by decide) (by decide)) q117a q117c (g := (mkF m 18 #[.val (.ref a1), .val (.long p1), .second, .val (.int (8 : Int32)), .val (.int (5 : Int32))] [(.int (own_sh8 p1 (5 : Int32))), (.ref a1)])) rfl (by rw [hml]; rfl) (Steps.refl _) (argsL := [(.int (own_sh8 p1 (5 : Int32)))]) (rest := []) (lenOf pd_Y rfl) rfl (by show 2 * 0 + _ ≤ _; exact Nat.le_of_eq rfl) (hb hby dU_18) (fun _ _ => ⟨rfl, rfl, (by dsimp only [Pt.cells]; decide), (by dsimp only [Pt.slots]; decide)⟩)
  dsimp only [Pt.U, Pt.locs, Pt.cells, Pt.slots] at X117 l117 y117 z117 st117 hQ117
  subst l117 y117 z117
  obtain ⟨rfl, N117, K117, Exq117, Fbq117, Fsq117, Vq117⟩ := hQ117
  refine own_tr (S' := T117.setTop (mkF m 21 #[.val (.ref a1), .val (.long p1), .second, .val (.int (8 : Int32)), .val (.int (5 : Int32))] [])) st117 ?_
  have Nt6 := Fr.app Nt5 N117
  have K6 := K5.trans K117 (fun x hx => Or.inl hx)
  have Zs6 := Nat.le_trans Zs5 K117.1
  have Ex6 := Exq117
  have Fb6 := Fbq117
  have Fs6 : (Fld Z T117.heap a1 "com/example/dexwright/dexwright/dex/DexOutput" "size" "I" (.int (6 : Int32))) := Fsq117
  have V6 : (own_A Z T117.heap b1 .byte 64 (own_nm p1 6)) := Vq117
  refine own_st (S' := T117.setTop (mkF m 24 #[.val (.ref a1), .val (.long p1), .second, .val (.int (8 : Int32)), .val (.int ((5 : Int32) + (1 : Int32)))] [])) (fun _ kont => XS.iinc X117.here hx rfl (hb hby dU_21) rfl (l' := #[.val (.ref a1), .val (.long p1), .second, .val (.int (8 : Int32)), .val (.int ((5 : Int32) + (1 : Int32)))]) rfl kont) ?_
  have tq118 : ((5 : Int32) + (1 : Int32)) = (6 : Int32) := rfl
  refine own_cv (congrArg (fun z => T117.setTop (mkF m 24 #[.val (.ref a1), .val (.long p1), .second, .val (.int (8 : Int32)), .val (.int z)] [])) tq118) ?_
  show own_Go p.tables e below _ (T117.setTop (mkF m 24 #[.val (.ref a1), .val (.long p1), .second, .val (.int (8 : Int32)), .val (.int (6 : Int32))] []))
  refine own_st (S' := T117.setTop (mkF m 3 #[.val (.ref a1), .val (.long p1), .second, .val (.int (8 : Int32)), .val (.int (6 : Int32))] [])) (fun _ kont => XS.goto X117.here hx rfl (pc0 := 24) (pc' := 3) rfl (hb hby dU_24) (by decide) (by decide) kont) ?_
  refine own_st (S' := T117.setTop (mkF m 5 #[.val (.ref a1), .val (.long p1), .second, .val (.int (8 : Int32)), .val (.int (6 : Int32))] [(.int (6 : Int32))])) (fun _ kont => XS.iload X117.here hx rfl (hb hby dU_3) rfl kont) ?_
  refine own_st (S' := T117.setTop (mkF m 6 #[.val (.ref a1), .val (.long p1), .second, .val (.int (8 : Int32)), .val (.int (6 : Int32))] [(.int (8 : Int32)), (.int (6 : Int32))])) (fun _ kont => XS.iloadN X117.here hx rfl (hb hby dU_5) rfl kont) ?_
  refine own_st (S' := T117.setTop (mkF m 9 #[.val (.ref a1), .val (.long p1), .second, .val (.int (8 : Int32)), .val (.int (6 : Int32))] [])) (fun _ kont => XS.icmpNo X117.here hx rfl (hb hby dU_6) rfl ((own_i_ge _ _).trans (decide_eq_false (p := 6 ≥ 8) (by decide))) kont) ?_
  refine own_st (S' := T117.setTop (mkF m 10 #[.val (.ref a1), .val (.long p1), .second, .val (.int (8 : Int32)), .val (.int (6 : Int32))] [(.ref a1)])) (fun _ kont => XS.aloadN X117.here hx rfl (hb hby dU_9) rfl rfl kont) ?_
  refine own_st (S' := T117.setTop (mkF m 11 #[.val (.ref a1), .val (.long p1), .second, .val (.int (8 : Int32)), .val (.int (6 : Int32))] [(.long p1), (.ref a1)])) (fun _ kont => XT.lloadN X117.here hx rfl (hb hby dU_10) rfl kont) ?_
  refine own_st (S' := T117.setTop (mkF m 13 #[.val (.ref a1), .val (.long p1), .second, .val (.int (8 : Int32)), .val (.int (6 : Int32))] [(.int (8 : Int32)), (.long p1), (.ref a1)])) (fun _ kont => XS.bipush X117.here hx rfl (hb hby dU_11) kont) ?_
  refine own_st (S' := T117.setTop (mkF m 15 #[.val (.ref a1), .val (.long p1), .second, .val (.int (8 : Int32)), .val (.int (6 : Int32))] [(.int (6 : Int32)), (.int (8 : Int32)), (.long p1), (.ref a1)])) (fun _ kont => XS.iload X117.here hx rfl (hb hby dU_13) rfl kont) ?_
  refine own_st (S' := T117.setTop (mkF m 16 #[.val (.ref a1), .val (.long p1), .second, .val (.int (8 : Int32)), .val (.int (6 : Int32))] [(.int ((8 : Int32) * (6 : Int32))), (.long p1), (.ref a1)])) (fun _ kont => XS.imul X117.here hx rfl (hb hby dU_15) rfl kont) ?_
  refine own_st (S' := T117.setTop (mkF m 17 #[.val (.ref a1), .val (.long p1), .second, .val (.int (8 : Int32)), .val (.int (6 : Int32))] [(.long (XT.ushrL p1 ((8 : Int32) * (6 : Int32)))), (.ref a1)])) (fun _ kont => XT.lushr X117.here hx rfl (hb hby dU_16) rfl kont) ?_
  refine own_st (S' := T117.setTop (mkF m 18 #[.val (.ref a1), .val (.long p1), .second, .val (.int (8 : Int32)), .val (.int (6 : Int32))] [(.int (Int64.toInt32 (XT.ushrL p1 ((8 : Int32) * (6 : Int32))))), (.ref a1)])) (fun _ kont => XT.l2i X117.here hx rfl (hb hby dU_17) rfl kont) ?_
  have tq119 : (Int64.toInt32 (XT.ushrL p1 ((8 : Int32) * (6 : Int32)))) = (own_sh8 p1 (6 : Int32)) := rfl
  refine own_cv (congrArg (fun z => T117.setTop (mkF m 18 #[.val (.ref a1), .val (.long p1), .second, .val (.int (8 : Int32)), .val (.int (6 : Int32))] [(.int z), (.ref a1)])) tq119) ?_
  show own_Go p.tables e below _ (T117.setTop (mkF m 18 #[.val (.ref a1), .val (.long p1), .second, .val (.int (8 : Int32)), .val (.int (6 : Int32))] [(.int (own_sh8 p1 (6 : Int32))), (.ref a1)]))
  obtain ⟨cq120, kq120, q120a, q120b, q120c⟩ := isOf hZ rfl Ex6
  obtain ⟨_, _, ⟨T120, L120, k120, n120⟩, -, X120, ⟨Lc120, hQ120, l120, y120, z120⟩, st120⟩ := X117.virtualBack hx (y := (⟨"com/example/dexwright/dexwright/dex/DexOutput", "ubyte", "(I)V"⟩ : MethodName)) (z := (⟨"com/example/dexwright/dexwright/dex/DexOutput", "ubyte", "(I)V"⟩ : MethodName)) hown (mvT hZ (hw _ (List.mem_of_getElem? (i := 18) rfl))) (mvT hZ (hw _ (List.mem_of_getElem? (i := 19) rfl))) (notFace_of_selects (args := #[]) (mvT hZ (hw _ (List.mem_of_getElem? (i := 21) rfl)))) (mvT hZ (hw _ (List.mem_of_getElem? (i := 21) rfl))) (mvT hZ (hw _ (List.mem_of_getElem? (i := 20) rfl))) (by decide) (backOf (W := 0) (rmY l Z a0 hw [] a1 (own_sh8 p1 (6 : Int32)) b1 (6 : Int32) (own_nm p1 6) T117.heap n0 Zs6 Fb6 Fs6 V6 Ex6 ne ga gb (by decide) (by decide)) hZ (hw _ (List.mem_of_getElem? (i := 22) rfl)) (hw _ (List.mem_of_getElem? (i := 3) rfl)) (by decide) (by decide)) q120a q120c (g := (mkF m 18 #[.val (.ref a1), .val (.long p1), .second, .val (.int (8 : Int32)), .val (.int (6 : Int32))] [(.int (own_sh8 p1 (6 : Int32))), (.ref a1)])) rfl (by rw [hml]; rfl) (Steps.refl _) (argsL := [(.int (own_sh8 p1 (6 : Int32)))]) (rest := []) (lenOf pd_Y rfl) rfl (by show 2 * 0 + _ ≤ _; exact Nat.le_of_eq rfl) (hb hby dU_18) (fun _ _ => ⟨rfl, rfl, (by dsimp only [Pt.cells]; decide), (by dsimp only [Pt.slots]; decide)⟩)
  dsimp only [Pt.U, Pt.locs, Pt.cells, Pt.slots] at X120 l120 y120 z120 st120 hQ120
  subst l120 y120 z120
  obtain ⟨rfl, N120, K120, Exq120, Fbq120, Fsq120, Vq120⟩ := hQ120
  refine own_tr (S' := T120.setTop (mkF m 21 #[.val (.ref a1), .val (.long p1), .second, .val (.int (8 : Int32)), .val (.int (6 : Int32))] [])) st120 ?_
  have Nt7 := Fr.app Nt6 N120
  have K7 := K6.trans K120 (fun x hx => Or.inl hx)
  have Zs7 := Nat.le_trans Zs6 K120.1
  have Ex7 := Exq120
  have Fb7 := Fbq120
  have Fs7 : (Fld Z T120.heap a1 "com/example/dexwright/dexwright/dex/DexOutput" "size" "I" (.int (7 : Int32))) := Fsq120
  have V7 : (own_A Z T120.heap b1 .byte 64 (own_nm p1 7)) := Vq120
  refine own_st (S' := T120.setTop (mkF m 24 #[.val (.ref a1), .val (.long p1), .second, .val (.int (8 : Int32)), .val (.int ((6 : Int32) + (1 : Int32)))] [])) (fun _ kont => XS.iinc X120.here hx rfl (hb hby dU_21) rfl (l' := #[.val (.ref a1), .val (.long p1), .second, .val (.int (8 : Int32)), .val (.int ((6 : Int32) + (1 : Int32)))]) rfl kont) ?_
  have tq121 : ((6 : Int32) + (1 : Int32)) = (7 : Int32) := rfl
  refine own_cv (congrArg (fun z => T120.setTop (mkF m 24 #[.val (.ref a1), .val (.long p1), .second, .val (.int (8 : Int32)), .val (.int z)] [])) tq121) ?_
  show own_Go p.tables e below _ (T120.setTop (mkF m 24 #[.val (.ref a1), .val (.long p1), .second, .val (.int (8 : Int32)), .val (.int (7 : Int32))] []))
  refine own_st (S' := T120.setTop (mkF m 3 #[.val (.ref a1), .val (.long p1), .second, .val (.int (8 : Int32)), .val (.int (7 : Int32))] [])) (fun _ kont => XS.goto X120.here hx rfl (pc0 := 24) (pc' := 3) rfl (hb hby dU_24) (by decide) (by decide) kont) ?_
  refine own_st (S' := T120.setTop (mkF m 5 #[.val (.ref a1), .val (.long p1), .second, .val (.int (8 : Int32)), .val (.int (7 : Int32))] [(.int (7 : Int32))])) (fun _ kont => XS.iload X120.here hx rfl (hb hby dU_3) rfl kont) ?_
  refine own_st (S' := T120.setTop (mkF m 6 #[.val (.ref a1), .val (.long p1), .second, .val (.int (8 : Int32)), .val (.int (7 : Int32))] [(.int (8 : Int32)), (.int (7 : Int32))])) (fun _ kont => XS.iloadN X120.here hx rfl (hb hby dU_5) rfl kont) ?_
  refine own_st (S' := T120.setTop (mkF m 9 #[.val (.ref a1), .val (.long p1), .second, .val (.int (8 : Int32)), .val (.int (7 : Int32))] [])) (fun _ kont => XS.icmpNo X120.here hx rfl (hb hby dU_6) rfl ((own_i_ge _ _).trans (decide_eq_false (p := 7 ≥ 8) (by decide))) kont) ?_
  refine own_st (S' := T120.setTop (mkF m 10 #[.val (.ref a1), .val (.long p1), .second, .val (.int (8 : Int32)), .val (.int (7 : Int32))] [(.ref a1)])) (fun _ kont => XS.aloadN X120.here hx rfl (hb hby dU_9) rfl rfl kont) ?_
  refine own_st (S' := T120.setTop (mkF m 11 #[.val (.ref a1), .val (.long p1), .second, .val (.int (8 : Int32)), .val (.int (7 : Int32))] [(.long p1), (.ref a1)])) (fun _ kont => XT.lloadN X120.here hx rfl (hb hby dU_10) rfl kont) ?_
  refine own_st (S' := T120.setTop (mkF m 13 #[.val (.ref a1), .val (.long p1), .second, .val (.int (8 : Int32)), .val (.int (7 : Int32))] [(.int (8 : Int32)), (.long p1), (.ref a1)])) (fun _ kont => XS.bipush X120.here hx rfl (hb hby dU_11) kont) ?_
  refine own_st (S' := T120.setTop (mkF m 15 #[.val (.ref a1), .val (.long p1), .second, .val (.int (8 : Int32)), .val (.int (7 : Int32))] [(.int (7 : Int32)), (.int (8 : Int32)), (.long p1), (.ref a1)])) (fun _ kont => XS.iload X120.here hx rfl (hb hby dU_13) rfl kont) ?_
  refine own_st (S' := T120.setTop (mkF m 16 #[.val (.ref a1), .val (.long p1), .second, .val (.int (8 : Int32)), .val (.int (7 : Int32))] [(.int ((8 : Int32) * (7 : Int32))), (.long p1), (.ref a1)])) (fun _ kont => XS.imul X120.here hx rfl (hb hby dU_15) rfl kont) ?_
  refine own_st (S' := T120.setTop (mkF m 17 #[.val (.ref a1), .val (.long p1), .second, .val (.int (8 : Int32)), .val (.int (7 : Int32))] [(.long (XT.ushrL p1 ((8 : Int32) * (7 : Int32)))), (.ref a1)])) (fun _ kont => XT.lushr X120.here hx rfl (hb hby dU_16) rfl kont) ?_
  refine own_st (S' := T120.setTop (mkF m 18 #[.val (.ref a1), .val (.long p1), .second, .val (.int (8 : Int32)), .val (.int (7 : Int32))] [(.int (Int64.toInt32 (XT.ushrL p1 ((8 : Int32) * (7 : Int32))))), (.ref a1)])) (fun _ kont => XT.l2i X120.here hx rfl (hb hby dU_17) rfl kont) ?_
  have tq122 : (Int64.toInt32 (XT.ushrL p1 ((8 : Int32) * (7 : Int32)))) = (own_sh8 p1 (7 : Int32)) := rfl
  refine own_cv (congrArg (fun z => T120.setTop (mkF m 18 #[.val (.ref a1), .val (.long p1), .second, .val (.int (8 : Int32)), .val (.int (7 : Int32))] [(.int z), (.ref a1)])) tq122) ?_
  show own_Go p.tables e below _ (T120.setTop (mkF m 18 #[.val (.ref a1), .val (.long p1), .second, .val (.int (8 : Int32)), .val (.int (7 : Int32))] [(.int (own_sh8 p1 (7 : Int32))), (.ref a1)]))
  obtain ⟨cq123, kq123, q123a, q123b, q123c⟩ := isOf hZ rfl Ex7
  obtain ⟨_, _, ⟨T123, L123, k123, n123⟩, -, X123, ⟨Lc123, hQ123, l123, y123, z123⟩, st123⟩ := X120.virtualBack hx (y := (⟨"com/example/dexwright/dexwright/dex/DexOutput", "ubyte", "(I)V"⟩ : MethodName)) (z := (⟨"com/example/dexwright/dexwright/dex/DexOutput", "ubyte", "(I)V"⟩ : MethodName)) hown (mvT hZ (hw _ (List.mem_of_getElem? (i := 18) rfl))) (mvT hZ (hw _ (List.mem_of_getElem? (i := 19) rfl))) (notFace_of_selects (args := #[]) (mvT hZ (hw _ (List.mem_of_getElem? (i := 21) rfl)))) (mvT hZ (hw _ (List.mem_of_getElem? (i := 21) rfl))) (mvT hZ (hw _ (List.mem_of_getElem? (i := 20) rfl))) (by decide) (backOf (W := 0) (rmY l Z a0 hw [] a1 (own_sh8 p1 (7 : Int32)) b1 (7 : Int32) (own_nm p1 7) T120.heap n0 Zs7 Fb7 Fs7 V7 Ex7 ne ga gb (by decide) (by decide)) hZ (hw _ (List.mem_of_getElem? (i := 22) rfl)) (hw _ (List.mem_of_getElem? (i := 3) rfl)) (by decide) (by decide)) q123a q123c (g := (mkF m 18 #[.val (.ref a1), .val (.long p1), .second, .val (.int (8 : Int32)), .val (.int (7 : Int32))] [(.int (own_sh8 p1 (7 : Int32))), (.ref a1)])) rfl (by rw [hml]; rfl) (Steps.refl _) (argsL := [(.int (own_sh8 p1 (7 : Int32)))]) (rest := []) (lenOf pd_Y rfl) rfl (by show 2 * 0 + _ ≤ _; exact Nat.le_of_eq rfl) (hb hby dU_18) (fun _ _ => ⟨rfl, rfl, (by dsimp only [Pt.cells]; decide), (by dsimp only [Pt.slots]; decide)⟩)
  dsimp only [Pt.U, Pt.locs, Pt.cells, Pt.slots] at X123 l123 y123 z123 st123 hQ123
  subst l123 y123 z123
  obtain ⟨rfl, N123, K123, Exq123, Fbq123, Fsq123, Vq123⟩ := hQ123
  refine own_tr (S' := T123.setTop (mkF m 21 #[.val (.ref a1), .val (.long p1), .second, .val (.int (8 : Int32)), .val (.int (7 : Int32))] [])) st123 ?_
  have Nt8 := Fr.app Nt7 N123
  have K8 := K7.trans K123 (fun x hx => Or.inl hx)
  have Zs8 := Nat.le_trans Zs7 K123.1
  have Ex8 := Exq123
  have Fb8 := Fbq123
  have Fs8 : (Fld Z T123.heap a1 "com/example/dexwright/dexwright/dex/DexOutput" "size" "I" (.int (8 : Int32))) := Fsq123
  have V8 : (own_A Z T123.heap b1 .byte 64 (own_nm p1 8)) := Vq123
  refine own_st (S' := T123.setTop (mkF m 24 #[.val (.ref a1), .val (.long p1), .second, .val (.int (8 : Int32)), .val (.int ((7 : Int32) + (1 : Int32)))] [])) (fun _ kont => XS.iinc X123.here hx rfl (hb hby dU_21) rfl (l' := #[.val (.ref a1), .val (.long p1), .second, .val (.int (8 : Int32)), .val (.int ((7 : Int32) + (1 : Int32)))]) rfl kont) ?_
  have tq124 : ((7 : Int32) + (1 : Int32)) = (8 : Int32) := rfl
  refine own_cv (congrArg (fun z => T123.setTop (mkF m 24 #[.val (.ref a1), .val (.long p1), .second, .val (.int (8 : Int32)), .val (.int z)] [])) tq124) ?_
  show own_Go p.tables e below _ (T123.setTop (mkF m 24 #[.val (.ref a1), .val (.long p1), .second, .val (.int (8 : Int32)), .val (.int (8 : Int32))] []))
  refine own_st (S' := T123.setTop (mkF m 3 #[.val (.ref a1), .val (.long p1), .second, .val (.int (8 : Int32)), .val (.int (8 : Int32))] [])) (fun _ kont => XS.goto X123.here hx rfl (pc0 := 24) (pc' := 3) rfl (hb hby dU_24) (by decide) (by decide) kont) ?_
  refine own_st (S' := T123.setTop (mkF m 5 #[.val (.ref a1), .val (.long p1), .second, .val (.int (8 : Int32)), .val (.int (8 : Int32))] [(.int (8 : Int32))])) (fun _ kont => XS.iload X123.here hx rfl (hb hby dU_3) rfl kont) ?_
  refine own_st (S' := T123.setTop (mkF m 6 #[.val (.ref a1), .val (.long p1), .second, .val (.int (8 : Int32)), .val (.int (8 : Int32))] [(.int (8 : Int32)), (.int (8 : Int32))])) (fun _ kont => XS.iloadN X123.here hx rfl (hb hby dU_5) rfl kont) ?_
  refine own_st (S' := T123.setTop (mkF m 27 #[.val (.ref a1), .val (.long p1), .second, .val (.int (8 : Int32)), .val (.int (8 : Int32))] [])) (fun _ kont => XS.icmpYes X123.here hx rfl (pc0 := 6) (pc' := 27) rfl (hb hby dU_6) rfl ((own_i_ge _ _).trans (decide_eq_true (p := 8 ≥ 8) (by decide))) (by decide) (by decide) kont) ?_
  refine own_end X123 (Q := (QU Z a1 p1 (8 : Int32) b1 h0 n0)) none Bd.notSynchronized (fun _ => rfl) (fun fs hr => X123.returnOut hx Bd.returns (hb hby dU_27) hr) ?_ (by decide) (by decide)
  skip
  exact ⟨rfl, Nt8, K8, Ex8, Fb8, Fs8, V8⟩
theorem dA_0 : decode prog_76_method_12_code 0 = .ok (.iconst 0, 1) := by decide +kernel
theorem dA_1 : decode prog_76_method_12_code 1 = .ok (.istore 4, 2) := by decide +kernel
theorem dA_3 : decode prog_76_method_12_code 3 = .ok (.iload 4, 2) := by decide +kernel
theorem dA_5 : decode prog_76_method_12_code 5 = .ok (.iconst 4, 1) := by decide +kernel
theorem dA_6 : decode prog_76_method_12_code 6 = .ok (.if_icmp .ge 27, 3) := by decide +kernel
theorem dA_9 : decode prog_76_method_12_code 9 = .ok (.aload_n 0, 1) := by decide +kernel
theorem dA_10 : decode prog_76_method_12_code 10 = .ok (.getfield 9, 3) := by decide +kernel
theorem dA_13 : decode prog_76_method_12_code 13 = .ok (.iload_n 1, 1) := by decide +kernel
theorem dA_14 : decode prog_76_method_12_code 14 = .ok (.iload 4, 2) := by decide +kernel
theorem dA_16 : decode prog_76_method_12_code 16 = .ok (.iadd, 1) := by decide +kernel
theorem dA_17 : decode prog_76_method_12_code 17 = .ok (.lload_n 2, 1) := by decide +kernel
theorem dA_18 : decode prog_76_method_12_code 18 = .ok (.bipush 8, 2) := by decide +kernel
theorem dA_20 : decode prog_76_method_12_code 20 = .ok (.iload 4, 2) := by decide +kernel
theorem dA_22 : decode prog_76_method_12_code 22 = .ok (.imul, 1) := by decide +kernel
theorem dA_23 : decode prog_76_method_12_code 23 = .ok (.lushr, 1) := by decide +kernel
theorem dA_24 : decode prog_76_method_12_code 24 = .ok (.l2i, 1) := by decide +kernel
theorem dA_25 : decode prog_76_method_12_code 25 = .ok (.i2b, 1) := by decide +kernel
theorem dA_26 : decode prog_76_method_12_code 26 = .ok (.bastore, 1) := by decide +kernel
theorem dA_27 : decode prog_76_method_12_code 27 = .ok (.iinc 4 1, 3) := by decide +kernel
theorem dA_30 : decode prog_76_method_12_code 30 = .ok (.goto (-27), 3) := by decide +kernel
theorem dA_33 : decode prog_76_method_12_code 33 = .ok (.return_, 1) := by decide +kernel
theorem pn_A : plainName "com/example/dexwright/dexwright/dex/DexOutput" = true := by first | (simp [plainName, overriddenIn]; done) | decide +kernel
theorem pd_A : parseMethodDescriptor "(IJ)V" = some ⟨[.int, .long], none⟩ := by decide +kernel
theorem ef_A (m : MethodId) (a1 : Addr) (p1 : Int32) (p2 : Int64) : entryFrame m #[(.ref a1), (.int p1), (.long p2)] 5 = mkF m 0 #[.val (.ref a1), .val (.int p1), .val (.long p2), .second, .unset] [] := by first | (simp [entryFrame, mkF, argsToLocals, Value.category]; done) | rfl
def QA (Z : State) (a1 : Addr) (p1 : Int32) (p2 : Int64) (b1 : Addr) (f : Nat → Int32) (h0 : Heap) (n0 : Nat) (v : Option Value) (h : Heap) (L : List Loc) : Prop := v = none ∧ Fr n0 L ∧ Keep h0 h [b1] ∧ (own_A Z h b1 .byte 64 (own_up p1 p2 f 4))
set_option maxRecDepth 65536 in
set_option maxHeartbeats 40000000 in
theorem rmA (l : Launch) (Z : State) (a0 : Array Value) (hw : ∀ d ∈ tables_1, d.before a0 Z = true) (ws : List Jvm.Cond) (a1 : Addr) (p1 : Int32) (p2 : Int64) (b1 : Addr) (f : Nat → Int32) (h0 : Heap) (n0 : Nat) (Z0 : n0 ≤ h0.size) (Fb : (Fld Z h0 a1 "com/example/dexwright/dexwright/dex/DexOutput" "bytes" "[B" (.ref b1))) (V : (own_A Z h0 b1 .byte 64 f)) (ne : a1 ≠ b1) (gb : n0 ≤ b1) (o0 : 0 ≤ Int32.toInt p1) (o4 : Int32.toInt p1 ≤ 4) :
    MetFree l (⟨"com/example/dexwright/dexwright/dex/DexOutput", "uintAt", "(IJ)V"⟩ : MethodName) (head1 (Jvm.Cond.code (⟨"com/example/dexwright/dexwright/dex/DexOutput", "uintAt", "(IJ)V"⟩ : MethodName) prog_76_method_12_code 5 none :: ws) ({ frames := 0, cells := 0, slots := 0, locals := 0 } : Room)) (fun a U => a = #[(.ref a1), (.int p1), (.long p2)] ∧ Z.Warmed39 U.vm ∧ U.heap = h0) (fun _ _ _ _ _ => True) (fun _ U o U' => ∃ v L, o = .returned v ∧ QA Z a1 p1 p2 b1 f h0 n0 v U'.heap L ∧ FrameEnd U o U' L ({ frames := 0, cells := 0, slots := 0, locals := 0 } : Room).cells ({ frames := 0, cells := 0, slots := 0, locals := 0 } : Room).slots) := by
  refine MetFree.of_bodySF (plainFor_of_name pn_A) hisR ?_
  intro p e s m args below meth c s₁ Bd hml0 hP hK
  obtain ⟨rfl, hZ, hh⟩ := hP
  have hx := Bd.exec
  have hby := Bd.bytes
  have hml : c.maxLocals = 5 := hml0
  have hown : s.vm.findClass "com/example/dexwright/dexwright/dex/DexOutput" = some m.cls := findClass_of_methodNamed Bd.named
  have hnm := (name_of_methodNamed Bd.named Bd.method).1
  have X0 : Stand p l e ({ frames := 0, cells := 0, slots := 0, locals := 0 } : Room) s m #[(.ref a1), (.int p1), (.long p2)] below meth c s₁ [] 0 0 := Stand.of_body Bd
  have e0 : s₁.heap = h0 := by rw [← hh, Bd.state]; rfl
  have N0 := Fr.nil n0
  show own_Go p.tables e below (fun t o => ∃ v L, o = .returned v ∧ QA Z a1 p1 p2 b1 f h0 n0 v t.heap L ∧ FrameEnd s o t L ({ frames := 0, cells := 0, slots := 0, locals := 0 } : Room).cells ({ frames := 0, cells := 0, slots := 0, locals := 0 } : Room).slots) (s₁.setTop (entryFrame m #[(.ref a1), (.int p1), (.long p2)] 5))
  rw [ef_A]
  show own_Go p.tables e below _ (s₁.setTop (mkF m 0 #[.val (.ref a1), .val (.int p1), .val (.long p2), .second, .unset] []))
  have V0 : (own_A Z h0 b1 .byte 64 (own_up p1 p2 f 0)) := V
  have Fb0 := Fb
  have K0 := Keep.refl h0 [b1]
  have Nt0 := N0
  refine own_st (S' := s₁.setTop (mkF m 1 #[.val (.ref a1), .val (.int p1), .val (.long p2), .second, .unset] [(.int (0 : Int32))])) (fun _ kont => XS.iconst X0.here hx rfl (hb hby dA_0) kont) ?_
  refine own_st (S' := s₁.setTop (mkF m 3 #[.val (.ref a1), .val (.int p1), .val (.long p2), .second, .val (.int (0 : Int32))] [])) (fun _ kont => XS.istore X0.here hx rfl (hb hby dA_1) rfl (l' := #[.val (.ref a1), .val (.int p1), .val (.long p2), .second, .val (.int (0 : Int32))]) rfl kont) ?_
  refine own_st (S' := s₁.setTop (mkF m 5 #[.val (.ref a1), .val (.int p1), .val (.long p2), .second, .val (.int (0 : Int32))] [(.int (0 : Int32))])) (fun _ kont => XS.iload X0.here hx rfl (hb hby dA_3) rfl kont) ?_
  refine own_st (S' := s₁.setTop (mkF m 6 #[.val (.ref a1), .val (.int p1), .val (.long p2), .second, .val (.int (0 : Int32))] [(.int (4 : Int32)), (.int (0 : Int32))])) (fun _ kont => XS.iconst X0.here hx rfl (hb hby dA_5) kont) ?_
  refine own_st (S' := s₁.setTop (mkF m 9 #[.val (.ref a1), .val (.int p1), .val (.long p2), .second, .val (.int (0 : Int32))] [])) (fun _ kont => XS.icmpNo X0.here hx rfl (hb hby dA_6) rfl ((own_i_ge _ _).trans (decide_eq_false (p := 0 ≥ 4) (by decide))) kont) ?_
  refine own_st (S' := s₁.setTop (mkF m 10 #[.val (.ref a1), .val (.int p1), .val (.long p2), .second, .val (.int (0 : Int32))] [(.ref a1)])) (fun _ kont => XS.aloadN X0.here hx rfl (hb hby dA_9) rfl rfl kont) ?_
  obtain ⟨T101, X101, e101, st101⟩ := getF X0 hx hZ hown (host := "") (Or.inl (hw _ (List.mem_of_getElem? (i := 11) rfl))) Via.refl e0 Fb0 (g := (mkF m 10 #[.val (.ref a1), .val (.int p1), .val (.long p2), .second, .val (.int (0 : Int32))] [(.ref a1)])) rfl rfl (hb hby dA_10)
  refine own_st (S' := T101.setTop (mkF m 13 #[.val (.ref a1), .val (.int p1), .val (.long p2), .second, .val (.int (0 : Int32))] [(.ref b1)])) st101 ?_
  refine own_st (S' := T101.setTop (mkF m 14 #[.val (.ref a1), .val (.int p1), .val (.long p2), .second, .val (.int (0 : Int32))] [(.int p1), (.ref b1)])) (fun _ kont => XS.iloadN X101.here hx rfl (hb hby dA_13) rfl kont) ?_
  refine own_st (S' := T101.setTop (mkF m 16 #[.val (.ref a1), .val (.int p1), .val (.long p2), .second, .val (.int (0 : Int32))] [(.int (0 : Int32)), (.int p1), (.ref b1)])) (fun _ kont => XS.iload X101.here hx rfl (hb hby dA_14) rfl kont) ?_
  refine own_st (S' := T101.setTop (mkF m 17 #[.val (.ref a1), .val (.int p1), .val (.long p2), .second, .val (.int (0 : Int32))] [(.int (p1 + (0 : Int32))), (.ref b1)])) (fun _ kont => XS.iadd X101.here hx rfl (hb hby dA_16) rfl kont) ?_
  refine own_st (S' := T101.setTop (mkF m 18 #[.val (.ref a1), .val (.int p1), .val (.long p2), .second, .val (.int (0 : Int32))] [(.long p2), (.int (p1 + (0 : Int32))), (.ref b1)])) (fun _ kont => XT.lloadN X101.here hx rfl (hb hby dA_17) rfl kont) ?_
  refine own_st (S' := T101.setTop (mkF m 20 #[.val (.ref a1), .val (.int p1), .val (.long p2), .second, .val (.int (0 : Int32))] [(.int (8 : Int32)), (.long p2), (.int (p1 + (0 : Int32))), (.ref b1)])) (fun _ kont => XS.bipush X101.here hx rfl (hb hby dA_18) kont) ?_
  refine own_st (S' := T101.setTop (mkF m 22 #[.val (.ref a1), .val (.int p1), .val (.long p2), .second, .val (.int (0 : Int32))] [(.int (0 : Int32)), (.int (8 : Int32)), (.long p2), (.int (p1 + (0 : Int32))), (.ref b1)])) (fun _ kont => XS.iload X101.here hx rfl (hb hby dA_20) rfl kont) ?_
  refine own_st (S' := T101.setTop (mkF m 23 #[.val (.ref a1), .val (.int p1), .val (.long p2), .second, .val (.int (0 : Int32))] [(.int ((8 : Int32) * (0 : Int32))), (.long p2), (.int (p1 + (0 : Int32))), (.ref b1)])) (fun _ kont => XS.imul X101.here hx rfl (hb hby dA_22) rfl kont) ?_
  refine own_st (S' := T101.setTop (mkF m 24 #[.val (.ref a1), .val (.int p1), .val (.long p2), .second, .val (.int (0 : Int32))] [(.long (XT.ushrL p2 ((8 : Int32) * (0 : Int32)))), (.int (p1 + (0 : Int32))), (.ref b1)])) (fun _ kont => XT.lushr X101.here hx rfl (hb hby dA_23) rfl kont) ?_
  refine own_st (S' := T101.setTop (mkF m 25 #[.val (.ref a1), .val (.int p1), .val (.long p2), .second, .val (.int (0 : Int32))] [(.int (Int64.toInt32 (XT.ushrL p2 ((8 : Int32) * (0 : Int32))))), (.int (p1 + (0 : Int32))), (.ref b1)])) (fun _ kont => XT.l2i X101.here hx rfl (hb hby dA_24) rfl kont) ?_
  have tq102 : (Int64.toInt32 (XT.ushrL p2 ((8 : Int32) * (0 : Int32)))) = (own_sh8 p2 (0 : Int32)) := rfl
  refine own_cv (congrArg (fun z => T101.setTop (mkF m 25 #[.val (.ref a1), .val (.int p1), .val (.long p2), .second, .val (.int (0 : Int32))] [(.int z), (.int (p1 + (0 : Int32))), (.ref b1)])) tq102) ?_
  show own_Go p.tables e below _ (T101.setTop (mkF m 25 #[.val (.ref a1), .val (.int p1), .val (.long p2), .second, .val (.int (0 : Int32))] [(.int (own_sh8 p2 (0 : Int32))), (.int (p1 + (0 : Int32))), (.ref b1)]))
  refine own_st (S' := T101.setTop (mkF m 26 #[.val (.ref a1), .val (.int p1), .val (.long p2), .second, .val (.int (0 : Int32))] [(.int (Int8.toInt32 (Int32.toInt8 (own_sh8 p2 (0 : Int32))))), (.int (p1 + (0 : Int32))), (.ref b1)])) (fun _ kont => XT.i2b X101.here hx rfl (hb hby dA_25) rfl kont) ?_
  have ix0 : Int32.toInt (p1 + (0 : Int32)) = Int32.toInt p1 + 0 := by have o : (0 : Int32).toInt = 0 := rfl; rw [Jvm.Kit.i32_add (by omega) (by omega), o]
  obtain ⟨T103, h103, X103, e103, W103, V103, st103⟩ := own_stB X101 hx hZ e101 V0 (by omega) (by omega) (g := (mkF m 26 #[.val (.ref a1), .val (.int p1), .val (.long p2), .second, .val (.int (0 : Int32))] [(.int (Int8.toInt32 (Int32.toInt8 (own_sh8 p2 (0 : Int32))))), (.int (p1 + (0 : Int32))), (.ref b1)])) rfl rfl (hb hby dA_26)
  have N103 := Fr.snoc X103 Nt0 gb
  refine own_st (S' := T103.setTop (mkF m 27 #[.val (.ref a1), .val (.int p1), .val (.long p2), .second, .val (.int (0 : Int32))] [])) st103 ?_
  have Nt1 := N103
  have V1 : (own_A Z h103 b1 .byte 64 (own_up p1 p2 f 1)) := V103.congr (fun q hq => by show (if q = (p1 + (0 : Int32)).toNatClampNeg then own_B p2 (0 : Int32) else own_up p1 p2 f 0 q) = _; unfold own_B; simp)
  have Fb1 := Fld.other W103 Fb0 (Or.inl ne)
  have K1 := K0.wr W103 (Or.inl (List.mem_of_getElem? (i := 0) rfl))
  refine own_st (S' := T103.setTop (mkF m 30 #[.val (.ref a1), .val (.int p1), .val (.long p2), .second, .val (.int ((0 : Int32) + (1 : Int32)))] [])) (fun _ kont => XS.iinc X103.here hx rfl (hb hby dA_27) rfl (l' := #[.val (.ref a1), .val (.int p1), .val (.long p2), .second, .val (.int ((0 : Int32) + (1 : Int32)))]) rfl kont) ?_
  have tq104 : ((0 : Int32) + (1 : Int32)) = (1 : Int32) := rfl
  refine own_cv (congrArg (fun z => T103.setTop (mkF m 30 #[.val (.ref a1), .val (.int p1), .val (.long p2), .second, .val (.int z)] [])) tq104) ?_
  show own_Go p.tables e below _ (T103.setTop (mkF m 30 #[.val (.ref a1), .val (.int p1), .val (.long p2), .second, .val (.int (1 : Int32))] []))
  refine own_st (S' := T103.setTop (mkF m 3 #[.val (.ref a1), .val (.int p1), .val (.long p2), .second, .val (.int (1 : Int32))] [])) (fun _ kont => XS.goto X103.here hx rfl (pc0 := 30) (pc' := 3) rfl (hb hby dA_30) (by decide) (by decide) kont) ?_
  refine own_st (S' := T103.setTop (mkF m 5 #[.val (.ref a1), .val (.int p1), .val (.long p2), .second, .val (.int (1 : Int32))] [(.int (1 : Int32))])) (fun _ kont => XS.iload X103.here hx rfl (hb hby dA_3) rfl kont) ?_
  refine own_st (S' := T103.setTop (mkF m 6 #[.val (.ref a1), .val (.int p1), .val (.long p2), .second, .val (.int (1 : Int32))] [(.int (4 : Int32)), (.int (1 : Int32))])) (fun _ kont => XS.iconst X103.here hx rfl (hb hby dA_5) kont) ?_
  refine own_st (S' := T103.setTop (mkF m 9 #[.val (.ref a1), .val (.int p1), .val (.long p2), .second, .val (.int (1 : Int32))] [])) (fun _ kont => XS.icmpNo X103.here hx rfl (hb hby dA_6) rfl ((own_i_ge _ _).trans (decide_eq_false (p := 1 ≥ 4) (by decide))) kont) ?_
  refine own_st (S' := T103.setTop (mkF m 10 #[.val (.ref a1), .val (.int p1), .val (.long p2), .second, .val (.int (1 : Int32))] [(.ref a1)])) (fun _ kont => XS.aloadN X103.here hx rfl (hb hby dA_9) rfl rfl kont) ?_
  obtain ⟨T105, X105, e105, st105⟩ := getF X103 hx hZ hown (host := "") (Or.inl (hw _ (List.mem_of_getElem? (i := 11) rfl))) Via.refl e103 Fb1 (g := (mkF m 10 #[.val (.ref a1), .val (.int p1), .val (.long p2), .second, .val (.int (1 : Int32))] [(.ref a1)])) rfl rfl (hb hby dA_10)
  refine own_st (S' := T105.setTop (mkF m 13 #[.val (.ref a1), .val (.int p1), .val (.long p2), .second, .val (.int (1 : Int32))] [(.ref b1)])) st105 ?_
  refine own_st (S' := T105.setTop (mkF m 14 #[.val (.ref a1), .val (.int p1), .val (.long p2), .second, .val (.int (1 : Int32))] [(.int p1), (.ref b1)])) (fun _ kont => XS.iloadN X105.here hx rfl (hb hby dA_13) rfl kont) ?_
  refine own_st (S' := T105.setTop (mkF m 16 #[.val (.ref a1), .val (.int p1), .val (.long p2), .second, .val (.int (1 : Int32))] [(.int (1 : Int32)), (.int p1), (.ref b1)])) (fun _ kont => XS.iload X105.here hx rfl (hb hby dA_14) rfl kont) ?_
  refine own_st (S' := T105.setTop (mkF m 17 #[.val (.ref a1), .val (.int p1), .val (.long p2), .second, .val (.int (1 : Int32))] [(.int (p1 + (1 : Int32))), (.ref b1)])) (fun _ kont => XS.iadd X105.here hx rfl (hb hby dA_16) rfl kont) ?_
  refine own_st (S' := T105.setTop (mkF m 18 #[.val (.ref a1), .val (.int p1), .val (.long p2), .second, .val (.int (1 : Int32))] [(.long p2), (.int (p1 + (1 : Int32))), (.ref b1)])) (fun _ kont => XT.lloadN X105.here hx rfl (hb hby dA_17) rfl kont) ?_
  refine own_st (S' := T105.setTop (mkF m 20 #[.val (.ref a1), .val (.int p1), .val (.long p2), .second, .val (.int (1 : Int32))] [(.int (8 : Int32)), (.long p2), (.int (p1 + (1 : Int32))), (.ref b1)])) (fun _ kont => XS.bipush X105.here hx rfl (hb hby dA_18) kont) ?_
  refine own_st (S' := T105.setTop (mkF m 22 #[.val (.ref a1), .val (.int p1), .val (.long p2), .second, .val (.int (1 : Int32))] [(.int (1 : Int32)), (.int (8 : Int32)), (.long p2), (.int (p1 + (1 : Int32))), (.ref b1)])) (fun _ kont => XS.iload X105.here hx rfl (hb hby dA_20) rfl kont) ?_
  refine own_st (S' := T105.setTop (mkF m 23 #[.val (.ref a1), .val (.int p1), .val (.long p2), .second, .val (.int (1 : Int32))] [(.int ((8 : Int32) * (1 : Int32))), (.long p2), (.int (p1 + (1 : Int32))), (.ref b1)])) (fun _ kont => XS.imul X105.here hx rfl (hb hby dA_22) rfl kont) ?_
  refine own_st (S' := T105.setTop (mkF m 24 #[.val (.ref a1), .val (.int p1), .val (.long p2), .second, .val (.int (1 : Int32))] [(.long (XT.ushrL p2 ((8 : Int32) * (1 : Int32)))), (.int (p1 + (1 : Int32))), (.ref b1)])) (fun _ kont => XT.lushr X105.here hx rfl (hb hby dA_23) rfl kont) ?_
  refine own_st (S' := T105.setTop (mkF m 25 #[.val (.ref a1), .val (.int p1), .val (.long p2), .second, .val (.int (1 : Int32))] [(.int (Int64.toInt32 (XT.ushrL p2 ((8 : Int32) * (1 : Int32))))), (.int (p1 + (1 : Int32))), (.ref b1)])) (fun _ kont => XT.l2i X105.here hx rfl (hb hby dA_24) rfl kont) ?_
  have tq106 : (Int64.toInt32 (XT.ushrL p2 ((8 : Int32) * (1 : Int32)))) = (own_sh8 p2 (1 : Int32)) := rfl
  refine own_cv (congrArg (fun z => T105.setTop (mkF m 25 #[.val (.ref a1), .val (.int p1), .val (.long p2), .second, .val (.int (1 : Int32))] [(.int z), (.int (p1 + (1 : Int32))), (.ref b1)])) tq106) ?_
  show own_Go p.tables e below _ (T105.setTop (mkF m 25 #[.val (.ref a1), .val (.int p1), .val (.long p2), .second, .val (.int (1 : Int32))] [(.int (own_sh8 p2 (1 : Int32))), (.int (p1 + (1 : Int32))), (.ref b1)]))
  refine own_st (S' := T105.setTop (mkF m 26 #[.val (.ref a1), .val (.int p1), .val (.long p2), .second, .val (.int (1 : Int32))] [(.int (Int8.toInt32 (Int32.toInt8 (own_sh8 p2 (1 : Int32))))), (.int (p1 + (1 : Int32))), (.ref b1)])) (fun _ kont => XT.i2b X105.here hx rfl (hb hby dA_25) rfl kont) ?_
  have ix1 : Int32.toInt (p1 + (1 : Int32)) = Int32.toInt p1 + 1 := by have o : (1 : Int32).toInt = 1 := rfl; rw [Jvm.Kit.i32_add (by omega) (by omega), o]
  obtain ⟨T107, h107, X107, e107, W107, V107, st107⟩ := own_stB X105 hx hZ e105 V1 (by omega) (by omega) (g := (mkF m 26 #[.val (.ref a1), .val (.int p1), .val (.long p2), .second, .val (.int (1 : Int32))] [(.int (Int8.toInt32 (Int32.toInt8 (own_sh8 p2 (1 : Int32))))), (.int (p1 + (1 : Int32))), (.ref b1)])) rfl rfl (hb hby dA_26)
  have N107 := Fr.snoc X107 Nt1 gb
  refine own_st (S' := T107.setTop (mkF m 27 #[.val (.ref a1), .val (.int p1), .val (.long p2), .second, .val (.int (1 : Int32))] [])) st107 ?_
  have Nt2 := N107
  have V2 : (own_A Z h107 b1 .byte 64 (own_up p1 p2 f 2)) := V107.congr (fun q hq => by show (if q = (p1 + (1 : Int32)).toNatClampNeg then own_B p2 (1 : Int32) else own_up p1 p2 f 1 q) = _; unfold own_B; simp)
  have Fb2 := Fld.other W107 Fb1 (Or.inl ne)
  have K2 := K1.wr W107 (Or.inl (List.mem_of_getElem? (i := 0) rfl))
  refine own_st (S' := T107.setTop (mkF m 30 #[.val (.ref a1), .val (.int p1), .val (.long p2), .second, .val (.int ((1 : Int32) + (1 : Int32)))] [])) (fun _ kont => XS.iinc X107.here hx rfl (hb hby dA_27) rfl (l' := #[.val (.ref a1), .val (.int p1), .val (.long p2), .second, .val (.int ((1 : Int32) + (1 : Int32)))]) rfl kont) ?_
  have tq108 : ((1 : Int32) + (1 : Int32)) = (2 : Int32) := rfl
  refine own_cv (congrArg (fun z => T107.setTop (mkF m 30 #[.val (.ref a1), .val (.int p1), .val (.long p2), .second, .val (.int z)] [])) tq108) ?_
  show own_Go p.tables e below _ (T107.setTop (mkF m 30 #[.val (.ref a1), .val (.int p1), .val (.long p2), .second, .val (.int (2 : Int32))] []))
  refine own_st (S' := T107.setTop (mkF m 3 #[.val (.ref a1), .val (.int p1), .val (.long p2), .second, .val (.int (2 : Int32))] [])) (fun _ kont => XS.goto X107.here hx rfl (pc0 := 30) (pc' := 3) rfl (hb hby dA_30) (by decide) (by decide) kont) ?_
  refine own_st (S' := T107.setTop (mkF m 5 #[.val (.ref a1), .val (.int p1), .val (.long p2), .second, .val (.int (2 : Int32))] [(.int (2 : Int32))])) (fun _ kont => XS.iload X107.here hx rfl (hb hby dA_3) rfl kont) ?_
  refine own_st (S' := T107.setTop (mkF m 6 #[.val (.ref a1), .val (.int p1), .val (.long p2), .second, .val (.int (2 : Int32))] [(.int (4 : Int32)), (.int (2 : Int32))])) (fun _ kont => XS.iconst X107.here hx rfl (hb hby dA_5) kont) ?_
  refine own_st (S' := T107.setTop (mkF m 9 #[.val (.ref a1), .val (.int p1), .val (.long p2), .second, .val (.int (2 : Int32))] [])) (fun _ kont => XS.icmpNo X107.here hx rfl (hb hby dA_6) rfl ((own_i_ge _ _).trans (decide_eq_false (p := 2 ≥ 4) (by decide))) kont) ?_
  refine own_st (S' := T107.setTop (mkF m 10 #[.val (.ref a1), .val (.int p1), .val (.long p2), .second, .val (.int (2 : Int32))] [(.ref a1)])) (fun _ kont => XS.aloadN X107.here hx rfl (hb hby dA_9) rfl rfl kont) ?_
  obtain ⟨T109, X109, e109, st109⟩ := getF X107 hx hZ hown (host := "") (Or.inl (hw _ (List.mem_of_getElem? (i := 11) rfl))) Via.refl e107 Fb2 (g := (mkF m 10 #[.val (.ref a1), .val (.int p1), .val (.long p2), .second, .val (.int (2 : Int32))] [(.ref a1)])) rfl rfl (hb hby dA_10)
  refine own_st (S' := T109.setTop (mkF m 13 #[.val (.ref a1), .val (.int p1), .val (.long p2), .second, .val (.int (2 : Int32))] [(.ref b1)])) st109 ?_
  refine own_st (S' := T109.setTop (mkF m 14 #[.val (.ref a1), .val (.int p1), .val (.long p2), .second, .val (.int (2 : Int32))] [(.int p1), (.ref b1)])) (fun _ kont => XS.iloadN X109.here hx rfl (hb hby dA_13) rfl kont) ?_
  refine own_st (S' := T109.setTop (mkF m 16 #[.val (.ref a1), .val (.int p1), .val (.long p2), .second, .val (.int (2 : Int32))] [(.int (2 : Int32)), (.int p1), (.ref b1)])) (fun _ kont => XS.iload X109.here hx rfl (hb hby dA_14) rfl kont) ?_
  refine own_st (S' := T109.setTop (mkF m 17 #[.val (.ref a1), .val (.int p1), .val (.long p2), .second, .val (.int (2 : Int32))] [(.int (p1 + (2 : Int32))), (.ref b1)])) (fun _ kont => XS.iadd X109.here hx rfl (hb hby dA_16) rfl kont) ?_
  refine own_st (S' := T109.setTop (mkF m 18 #[.val (.ref a1), .val (.int p1), .val (.long p2), .second, .val (.int (2 : Int32))] [(.long p2), (.int (p1 + (2 : Int32))), (.ref b1)])) (fun _ kont => XT.lloadN X109.here hx rfl (hb hby dA_17) rfl kont) ?_
  refine own_st (S' := T109.setTop (mkF m 20 #[.val (.ref a1), .val (.int p1), .val (.long p2), .second, .val (.int (2 : Int32))] [(.int (8 : Int32)), (.long p2), (.int (p1 + (2 : Int32))), (.ref b1)])) (fun _ kont => XS.bipush X109.here hx rfl (hb hby dA_18) kont) ?_
  refine own_st (S' := T109.setTop (mkF m 22 #[.val (.ref a1), .val (.int p1), .val (.long p2), .second, .val (.int (2 : Int32))] [(.int (2 : Int32)), (.int (8 : Int32)), (.long p2), (.int (p1 + (2 : Int32))), (.ref b1)])) (fun _ kont => XS.iload X109.here hx rfl (hb hby dA_20) rfl kont) ?_
  refine own_st (S' := T109.setTop (mkF m 23 #[.val (.ref a1), .val (.int p1), .val (.long p2), .second, .val (.int (2 : Int32))] [(.int ((8 : Int32) * (2 : Int32))), (.long p2), (.int (p1 + (2 : Int32))), (.ref b1)])) (fun _ kont => XS.imul X109.here hx rfl (hb hby dA_22) rfl kont) ?_
  refine own_st (S' := T109.setTop (mkF m 24 #[.val (.ref a1), .val (.int p1), .val (.long p2), .second, .val (.int (2 : Int32))] [(.long (XT.ushrL p2 ((8 : Int32) * (2 : Int32)))), (.int (p1 + (2 : Int32))), (.ref b1)])) (fun _ kont => XT.lushr X109.here hx rfl (hb hby dA_23) rfl kont) ?_
  refine own_st (S' := T109.setTop (mkF m 25 #[.val (.ref a1), .val (.int p1), .val (.long p2), .second, .val (.int (2 : Int32))] [(.int (Int64.toInt32 (XT.ushrL p2 ((8 : Int32) * (2 : Int32))))), (.int (p1 + (2 : Int32))), (.ref b1)])) (fun _ kont => XT.l2i X109.here hx rfl (hb hby dA_24) rfl kont) ?_
  have tq110 : (Int64.toInt32 (XT.ushrL p2 ((8 : Int32) * (2 : Int32)))) = (own_sh8 p2 (2 : Int32)) := rfl
  refine own_cv (congrArg (fun z => T109.setTop (mkF m 25 #[.val (.ref a1), .val (.int p1), .val (.long p2), .second, .val (.int (2 : Int32))] [(.int z), (.int (p1 + (2 : Int32))), (.ref b1)])) tq110) ?_
  show own_Go p.tables e below _ (T109.setTop (mkF m 25 #[.val (.ref a1), .val (.int p1), .val (.long p2), .second, .val (.int (2 : Int32))] [(.int (own_sh8 p2 (2 : Int32))), (.int (p1 + (2 : Int32))), (.ref b1)]))
  refine own_st (S' := T109.setTop (mkF m 26 #[.val (.ref a1), .val (.int p1), .val (.long p2), .second, .val (.int (2 : Int32))] [(.int (Int8.toInt32 (Int32.toInt8 (own_sh8 p2 (2 : Int32))))), (.int (p1 + (2 : Int32))), (.ref b1)])) (fun _ kont => XT.i2b X109.here hx rfl (hb hby dA_25) rfl kont) ?_
  have ix2 : Int32.toInt (p1 + (2 : Int32)) = Int32.toInt p1 + 2 := by have o : (2 : Int32).toInt = 2 := rfl; rw [Jvm.Kit.i32_add (by omega) (by omega), o]
  obtain ⟨T111, h111, X111, e111, W111, V111, st111⟩ := own_stB X109 hx hZ e109 V2 (by omega) (by omega) (g := (mkF m 26 #[.val (.ref a1), .val (.int p1), .val (.long p2), .second, .val (.int (2 : Int32))] [(.int (Int8.toInt32 (Int32.toInt8 (own_sh8 p2 (2 : Int32))))), (.int (p1 + (2 : Int32))), (.ref b1)])) rfl rfl (hb hby dA_26)
  have N111 := Fr.snoc X111 Nt2 gb
  refine own_st (S' := T111.setTop (mkF m 27 #[.val (.ref a1), .val (.int p1), .val (.long p2), .second, .val (.int (2 : Int32))] [])) st111 ?_
  have Nt3 := N111
  have V3 : (own_A Z h111 b1 .byte 64 (own_up p1 p2 f 3)) := V111.congr (fun q hq => by show (if q = (p1 + (2 : Int32)).toNatClampNeg then own_B p2 (2 : Int32) else own_up p1 p2 f 2 q) = _; unfold own_B; simp)
  have Fb3 := Fld.other W111 Fb2 (Or.inl ne)
  have K3 := K2.wr W111 (Or.inl (List.mem_of_getElem? (i := 0) rfl))
  refine own_st (S' := T111.setTop (mkF m 30 #[.val (.ref a1), .val (.int p1), .val (.long p2), .second, .val (.int ((2 : Int32) + (1 : Int32)))] [])) (fun _ kont => XS.iinc X111.here hx rfl (hb hby dA_27) rfl (l' := #[.val (.ref a1), .val (.int p1), .val (.long p2), .second, .val (.int ((2 : Int32) + (1 : Int32)))]) rfl kont) ?_
  have tq112 : ((2 : Int32) + (1 : Int32)) = (3 : Int32) := rfl
  refine own_cv (congrArg (fun z => T111.setTop (mkF m 30 #[.val (.ref a1), .val (.int p1), .val (.long p2), .second, .val (.int z)] [])) tq112) ?_
  show own_Go p.tables e below _ (T111.setTop (mkF m 30 #[.val (.ref a1), .val (.int p1), .val (.long p2), .second, .val (.int (3 : Int32))] []))
  refine own_st (S' := T111.setTop (mkF m 3 #[.val (.ref a1), .val (.int p1), .val (.long p2), .second, .val (.int (3 : Int32))] [])) (fun _ kont => XS.goto X111.here hx rfl (pc0 := 30) (pc' := 3) rfl (hb hby dA_30) (by decide) (by decide) kont) ?_
  refine own_st (S' := T111.setTop (mkF m 5 #[.val (.ref a1), .val (.int p1), .val (.long p2), .second, .val (.int (3 : Int32))] [(.int (3 : Int32))])) (fun _ kont => XS.iload X111.here hx rfl (hb hby dA_3) rfl kont) ?_
  refine own_st (S' := T111.setTop (mkF m 6 #[.val (.ref a1), .val (.int p1), .val (.long p2), .second, .val (.int (3 : Int32))] [(.int (4 : Int32)), (.int (3 : Int32))])) (fun _ kont => XS.iconst X111.here hx rfl (hb hby dA_5) kont) ?_
  refine own_st (S' := T111.setTop (mkF m 9 #[.val (.ref a1), .val (.int p1), .val (.long p2), .second, .val (.int (3 : Int32))] [])) (fun _ kont => XS.icmpNo X111.here hx rfl (hb hby dA_6) rfl ((own_i_ge _ _).trans (decide_eq_false (p := 3 ≥ 4) (by decide))) kont) ?_
  refine own_st (S' := T111.setTop (mkF m 10 #[.val (.ref a1), .val (.int p1), .val (.long p2), .second, .val (.int (3 : Int32))] [(.ref a1)])) (fun _ kont => XS.aloadN X111.here hx rfl (hb hby dA_9) rfl rfl kont) ?_
  obtain ⟨T113, X113, e113, st113⟩ := getF X111 hx hZ hown (host := "") (Or.inl (hw _ (List.mem_of_getElem? (i := 11) rfl))) Via.refl e111 Fb3 (g := (mkF m 10 #[.val (.ref a1), .val (.int p1), .val (.long p2), .second, .val (.int (3 : Int32))] [(.ref a1)])) rfl rfl (hb hby dA_10)
  refine own_st (S' := T113.setTop (mkF m 13 #[.val (.ref a1), .val (.int p1), .val (.long p2), .second, .val (.int (3 : Int32))] [(.ref b1)])) st113 ?_
  refine own_st (S' := T113.setTop (mkF m 14 #[.val (.ref a1), .val (.int p1), .val (.long p2), .second, .val (.int (3 : Int32))] [(.int p1), (.ref b1)])) (fun _ kont => XS.iloadN X113.here hx rfl (hb hby dA_13) rfl kont) ?_
  refine own_st (S' := T113.setTop (mkF m 16 #[.val (.ref a1), .val (.int p1), .val (.long p2), .second, .val (.int (3 : Int32))] [(.int (3 : Int32)), (.int p1), (.ref b1)])) (fun _ kont => XS.iload X113.here hx rfl (hb hby dA_14) rfl kont) ?_
  refine own_st (S' := T113.setTop (mkF m 17 #[.val (.ref a1), .val (.int p1), .val (.long p2), .second, .val (.int (3 : Int32))] [(.int (p1 + (3 : Int32))), (.ref b1)])) (fun _ kont => XS.iadd X113.here hx rfl (hb hby dA_16) rfl kont) ?_
  refine own_st (S' := T113.setTop (mkF m 18 #[.val (.ref a1), .val (.int p1), .val (.long p2), .second, .val (.int (3 : Int32))] [(.long p2), (.int (p1 + (3 : Int32))), (.ref b1)])) (fun _ kont => XT.lloadN X113.here hx rfl (hb hby dA_17) rfl kont) ?_
  refine own_st (S' := T113.setTop (mkF m 20 #[.val (.ref a1), .val (.int p1), .val (.long p2), .second, .val (.int (3 : Int32))] [(.int (8 : Int32)), (.long p2), (.int (p1 + (3 : Int32))), (.ref b1)])) (fun _ kont => XS.bipush X113.here hx rfl (hb hby dA_18) kont) ?_
  refine own_st (S' := T113.setTop (mkF m 22 #[.val (.ref a1), .val (.int p1), .val (.long p2), .second, .val (.int (3 : Int32))] [(.int (3 : Int32)), (.int (8 : Int32)), (.long p2), (.int (p1 + (3 : Int32))), (.ref b1)])) (fun _ kont => XS.iload X113.here hx rfl (hb hby dA_20) rfl kont) ?_
  refine own_st (S' := T113.setTop (mkF m 23 #[.val (.ref a1), .val (.int p1), .val (.long p2), .second, .val (.int (3 : Int32))] [(.int ((8 : Int32) * (3 : Int32))), (.long p2), (.int (p1 + (3 : Int32))), (.ref b1)])) (fun _ kont => XS.imul X113.here hx rfl (hb hby dA_22) rfl kont) ?_
  refine own_st (S' := T113.setTop (mkF m 24 #[.val (.ref a1), .val (.int p1), .val (.long p2), .second, .val (.int (3 : Int32))] [(.long (XT.ushrL p2 ((8 : Int32) * (3 : Int32)))), (.int (p1 + (3 : Int32))), (.ref b1)])) (fun _ kont => XT.lushr X113.here hx rfl (hb hby dA_23) rfl kont) ?_
  refine own_st (S' := T113.setTop (mkF m 25 #[.val (.ref a1), .val (.int p1), .val (.long p2), .second, .val (.int (3 : Int32))] [(.int (Int64.toInt32 (XT.ushrL p2 ((8 : Int32) * (3 : Int32))))), (.int (p1 + (3 : Int32))), (.ref b1)])) (fun _ kont => XT.l2i X113.here hx rfl (hb hby dA_24) rfl kont) ?_
  have tq114 : (Int64.toInt32 (XT.ushrL p2 ((8 : Int32) * (3 : Int32)))) = (own_sh8 p2 (3 : Int32)) := rfl
  refine own_cv (congrArg (fun z => T113.setTop (mkF m 25 #[.val (.ref a1), .val (.int p1), .val (.long p2), .second, .val (.int (3 : Int32))] [(.int z), (.int (p1 + (3 : Int32))), (.ref b1)])) tq114) ?_
  show own_Go p.tables e below _ (T113.setTop (mkF m 25 #[.val (.ref a1), .val (.int p1), .val (.long p2), .second, .val (.int (3 : Int32))] [(.int (own_sh8 p2 (3 : Int32))), (.int (p1 + (3 : Int32))), (.ref b1)]))
  refine own_st (S' := T113.setTop (mkF m 26 #[.val (.ref a1), .val (.int p1), .val (.long p2), .second, .val (.int (3 : Int32))] [(.int (Int8.toInt32 (Int32.toInt8 (own_sh8 p2 (3 : Int32))))), (.int (p1 + (3 : Int32))), (.ref b1)])) (fun _ kont => XT.i2b X113.here hx rfl (hb hby dA_25) rfl kont) ?_
  have ix3 : Int32.toInt (p1 + (3 : Int32)) = Int32.toInt p1 + 3 := by have o : (3 : Int32).toInt = 3 := rfl; rw [Jvm.Kit.i32_add (by omega) (by omega), o]
  obtain ⟨T115, h115, X115, e115, W115, V115, st115⟩ := own_stB X113 hx hZ e113 V3 (by omega) (by omega) (g := (mkF m 26 #[.val (.ref a1), .val (.int p1), .val (.long p2), .second, .val (.int (3 : Int32))] [(.int (Int8.toInt32 (Int32.toInt8 (own_sh8 p2 (3 : Int32))))), (.int (p1 + (3 : Int32))), (.ref b1)])) rfl rfl (hb hby dA_26)
  have N115 := Fr.snoc X115 Nt3 gb
  refine own_st (S' := T115.setTop (mkF m 27 #[.val (.ref a1), .val (.int p1), .val (.long p2), .second, .val (.int (3 : Int32))] [])) st115 ?_
  have Nt4 := N115
  have V4 : (own_A Z h115 b1 .byte 64 (own_up p1 p2 f 4)) := V115.congr (fun q hq => by show (if q = (p1 + (3 : Int32)).toNatClampNeg then own_B p2 (3 : Int32) else own_up p1 p2 f 3 q) = _; unfold own_B; simp)
  have Fb4 := Fld.other W115 Fb3 (Or.inl ne)
  have K4 := K3.wr W115 (Or.inl (List.mem_of_getElem? (i := 0) rfl))
  refine own_st (S' := T115.setTop (mkF m 30 #[.val (.ref a1), .val (.int p1), .val (.long p2), .second, .val (.int ((3 : Int32) + (1 : Int32)))] [])) (fun _ kont => XS.iinc X115.here hx rfl (hb hby dA_27) rfl (l' := #[.val (.ref a1), .val (.int p1), .val (.long p2), .second, .val (.int ((3 : Int32) + (1 : Int32)))]) rfl kont) ?_
  have tq116 : ((3 : Int32) + (1 : Int32)) = (4 : Int32) := rfl
  refine own_cv (congrArg (fun z => T115.setTop (mkF m 30 #[.val (.ref a1), .val (.int p1), .val (.long p2), .second, .val (.int z)] [])) tq116) ?_
  show own_Go p.tables e below _ (T115.setTop (mkF m 30 #[.val (.ref a1), .val (.int p1), .val (.long p2), .second, .val (.int (4 : Int32))] []))
  refine own_st (S' := T115.setTop (mkF m 3 #[.val (.ref a1), .val (.int p1), .val (.long p2), .second, .val (.int (4 : Int32))] [])) (fun _ kont => XS.goto X115.here hx rfl (pc0 := 30) (pc' := 3) rfl (hb hby dA_30) (by decide) (by decide) kont) ?_
  refine own_st (S' := T115.setTop (mkF m 5 #[.val (.ref a1), .val (.int p1), .val (.long p2), .second, .val (.int (4 : Int32))] [(.int (4 : Int32))])) (fun _ kont => XS.iload X115.here hx rfl (hb hby dA_3) rfl kont) ?_
  refine own_st (S' := T115.setTop (mkF m 6 #[.val (.ref a1), .val (.int p1), .val (.long p2), .second, .val (.int (4 : Int32))] [(.int (4 : Int32)), (.int (4 : Int32))])) (fun _ kont => XS.iconst X115.here hx rfl (hb hby dA_5) kont) ?_
  refine own_st (S' := T115.setTop (mkF m 33 #[.val (.ref a1), .val (.int p1), .val (.long p2), .second, .val (.int (4 : Int32))] [])) (fun _ kont => XS.icmpYes X115.here hx rfl (pc0 := 6) (pc' := 33) rfl (hb hby dA_6) rfl ((own_i_ge _ _).trans (decide_eq_true (p := 4 ≥ 4) (by decide))) (by decide) (by decide) kont) ?_
  refine own_end X115 (Q := (QA Z a1 p1 p2 b1 f h0 n0)) none Bd.notSynchronized (fun _ => rfl) (fun fs hr => X115.returnOut hx Bd.returns (hb hby dA_33) hr) ?_ (by decide) (by decide)
  rw [e115]
  exact ⟨rfl, Nt4, K4, V4⟩
theorem dS_0 : decode prog_76_method_2_code 0 = .ok (.aload_n 0, 1) := by decide +kernel
theorem dS_1 : decode prog_76_method_2_code 1 = .ok (.getfield 13, 3) := by decide +kernel
theorem dS_4 : decode prog_76_method_2_code 4 = .ok (.ireturn, 1) := by decide +kernel
theorem pn_S : plainName "com/example/dexwright/dexwright/dex/DexOutput" = true := by first | (simp [plainName, overriddenIn]; done) | decide +kernel
theorem pd_S : parseMethodDescriptor "()I" = some ⟨[], some .int⟩ := by decide +kernel
theorem ef_S (m : MethodId) (a1 : Addr) : entryFrame m #[(.ref a1)] 1 = mkF m 0 #[.val (.ref a1)] [] := by first | (simp [entryFrame, mkF, argsToLocals, Value.category]; done) | rfl
def QS (Z : State) (a1 : Addr) (sz : Int32) (h0 : Heap) (n0 : Nat) (v : Option Value) (h : Heap) (L : List Loc) : Prop := v = some (.int sz) ∧ Fr n0 L ∧ h = h0
set_option maxRecDepth 65536 in
set_option maxHeartbeats 40000000 in
theorem rmS (l : Launch) (Z : State) (a0 : Array Value) (hw : ∀ d ∈ tables_1, d.before a0 Z = true) (ws : List Jvm.Cond) (a1 : Addr) (sz : Int32) (h0 : Heap) (n0 : Nat) (Z0 : n0 ≤ h0.size) (Fs : (Fld Z h0 a1 "com/example/dexwright/dexwright/dex/DexOutput" "size" "I" (.int sz))) :
    MetFree l (⟨"com/example/dexwright/dexwright/dex/DexOutput", "size", "()I"⟩ : MethodName) (head1 (Jvm.Cond.code (⟨"com/example/dexwright/dexwright/dex/DexOutput", "size", "()I"⟩ : MethodName) prog_76_method_2_code 1 (some .int) :: ws) ({ frames := 0, cells := 0, slots := 0, locals := 0 } : Room)) (fun a U => a = #[(.ref a1)] ∧ Z.Warmed39 U.vm ∧ U.heap = h0) (fun _ _ _ _ _ => True) (fun _ U o U' => ∃ v L, o = .returned v ∧ QS Z a1 sz h0 n0 v U'.heap L ∧ FrameEnd U o U' L ({ frames := 0, cells := 0, slots := 0, locals := 0 } : Room).cells ({ frames := 0, cells := 0, slots := 0, locals := 0 } : Room).slots) := by
  refine MetFree.of_bodySF (plainFor_of_name pn_S) hisR ?_
  intro p e s m args below meth c s₁ Bd hml0 hP hK
  obtain ⟨rfl, hZ, hh⟩ := hP
  have hx := Bd.exec
  have hby := Bd.bytes
  have hml : c.maxLocals = 1 := hml0
  have hown : s.vm.findClass "com/example/dexwright/dexwright/dex/DexOutput" = some m.cls := findClass_of_methodNamed Bd.named
  have hnm := (name_of_methodNamed Bd.named Bd.method).1
  have X0 : Stand p l e ({ frames := 0, cells := 0, slots := 0, locals := 0 } : Room) s m #[(.ref a1)] below meth c s₁ [] 0 0 := Stand.of_body Bd
  have e0 : s₁.heap = h0 := by rw [← hh, Bd.state]; rfl
  have N0 := Fr.nil n0
  show own_Go p.tables e below (fun t o => ∃ v L, o = .returned v ∧ QS Z a1 sz h0 n0 v t.heap L ∧ FrameEnd s o t L ({ frames := 0, cells := 0, slots := 0, locals := 0 } : Room).cells ({ frames := 0, cells := 0, slots := 0, locals := 0 } : Room).slots) (s₁.setTop (entryFrame m #[(.ref a1)] 1))
  rw [ef_S]
  show own_Go p.tables e below _ (s₁.setTop (mkF m 0 #[.val (.ref a1)] []))
  refine own_st (S' := s₁.setTop (mkF m 1 #[.val (.ref a1)] [(.ref a1)])) (fun _ kont => XS.aloadN X0.here hx rfl (hb hby dS_0) rfl rfl kont) ?_
  obtain ⟨T101, X101, e101, st101⟩ := getF X0 hx hZ hown (host := "") (Or.inl (hw _ (List.mem_of_getElem? (i := 27) rfl))) Via.refl e0 Fs (g := (mkF m 1 #[.val (.ref a1)] [(.ref a1)])) rfl rfl (hb hby dS_1)
  refine own_st (S' := T101.setTop (mkF m 4 #[.val (.ref a1)] [(.int sz)])) st101 ?_
  refine own_end X101 (Q := (QS Z a1 sz h0 n0)) (some (.int sz)) Bd.notSynchronized (fun h => by rw [Bd.returns] at h; cases h) (fun fs hr => retI X101 hx Bd.returns (hb hby dS_4) hr) ?_ (by decide) (by decide)
  rw [e101]
  exact ⟨rfl, N0, rfl⟩
def own_imin (x y : Int32) : Int32 := if x.toInt > y.toInt then y else x
theorem dMN_0 : decode jdk_29_method_69_code 0 = .ok (.iload_n 0, 1) := by decide +kernel
theorem dMN_1 : decode jdk_29_method_69_code 1 = .ok (.iload_n 1, 1) := by decide +kernel
theorem dMN_2 : decode jdk_29_method_69_code 2 = .ok (.if_icmp .gt 7, 3) := by decide +kernel
theorem dMN_5 : decode jdk_29_method_69_code 5 = .ok (.iload_n 0, 1) := by decide +kernel
theorem dMN_6 : decode jdk_29_method_69_code 6 = .ok (.goto 4, 3) := by decide +kernel
theorem dMN_9 : decode jdk_29_method_69_code 9 = .ok (.iload_n 1, 1) := by decide +kernel
theorem dMN_10 : decode jdk_29_method_69_code 10 = .ok (.ireturn, 1) := by decide +kernel
theorem pd_MN : parseMethodDescriptor "(II)I" = some ⟨[.int, .int], some .int⟩ := by decide +kernel
theorem ef_MN (m : MethodId) (p1 : Int32) (p2 : Int32) : entryFrame m #[(.int p1), (.int p2)] 2 = mkF m 0 #[.val (.int p1), .val (.int p2)] [] := by first | (simp [entryFrame, mkF, argsToLocals, Value.category]; done) | rfl
def QMN (Z : State) (p1 : Int32) (p2 : Int32) (h0 : Heap) (n0 : Nat) (v : Option Value) (h : Heap) (L : List Loc) : Prop := v = some (.int (own_imin p1 p2)) ∧ Fr n0 L ∧ h = h0
set_option maxRecDepth 65536 in
set_option maxHeartbeats 40000000 in
theorem rmMN (l : Launch) (Z : State) (a0 : Array Value) (hw : ∀ d ∈ tables_1, d.before a0 Z = true) (ws : List Jvm.Cond) (p1 : Int32) (p2 : Int32) (h0 : Heap) (n0 : Nat) (Z0 : n0 ≤ h0.size) :
    MetFree l (⟨"java/lang/Math", "min", "(II)I"⟩ : MethodName) (head1 (Jvm.Cond.code (⟨"java/lang/Math", "min", "(II)I"⟩ : MethodName) jdk_29_method_69_code 2 (some .int) :: ws) ({ frames := 0, cells := 0, slots := 0, locals := 0 } : Room)) (fun a U => a = #[(.int p1), (.int p2)] ∧ Z.Warmed39 U.vm ∧ U.heap = h0) (fun _ _ _ _ _ => True) (fun _ U o U' => ∃ v L, o = .returned v ∧ QMN Z p1 p2 h0 n0 v U'.heap L ∧ FrameEnd U o U' L ({ frames := 0, cells := 0, slots := 0, locals := 0 } : Room).cells ({ frames := 0, cells := 0, slots := 0, locals := 0 } : Room).slots) := by
  refine MetFree.of_bodySF (Jvm.Free.JP.mathPlain rfl (by decide +kernel)) hisR ?_
  intro p e s m args below meth c s₁ Bd hml0 hP hK
  obtain ⟨rfl, hZ, hh⟩ := hP
  have hx := Bd.exec
  have hby := Bd.bytes
  have hml : c.maxLocals = 2 := hml0
  have hown : s.vm.findClass "java/lang/Math" = some m.cls := findClass_of_methodNamed Bd.named
  have hnm := (name_of_methodNamed Bd.named Bd.method).1
  have X0 : Stand p l e ({ frames := 0, cells := 0, slots := 0, locals := 0 } : Room) s m #[(.int p1), (.int p2)] below meth c s₁ [] 0 0 := Stand.of_body Bd
  have e0 : s₁.heap = h0 := by rw [← hh, Bd.state]; rfl
  have N0 := Fr.nil n0
  show own_Go p.tables e below (fun t o => ∃ v L, o = .returned v ∧ QMN Z p1 p2 h0 n0 v t.heap L ∧ FrameEnd s o t L ({ frames := 0, cells := 0, slots := 0, locals := 0 } : Room).cells ({ frames := 0, cells := 0, slots := 0, locals := 0 } : Room).slots) (s₁.setTop (entryFrame m #[(.int p1), (.int p2)] 2))
  rw [ef_MN]
  show own_Go p.tables e below _ (s₁.setTop (mkF m 0 #[.val (.int p1), .val (.int p2)] []))
  refine own_st (S' := s₁.setTop (mkF m 1 #[.val (.int p1), .val (.int p2)] [(.int p1)])) (fun _ kont => XS.iloadN X0.here hx rfl (hb hby dMN_0) rfl kont) ?_
  refine own_st (S' := s₁.setTop (mkF m 2 #[.val (.int p1), .val (.int p2)] [(.int p2), (.int p1)])) (fun _ kont => XS.iloadN X0.here hx rfl (hb hby dMN_1) rfl kont) ?_
  by_cases hc2 : Int32.toInt p1 > Int32.toInt p2
  · skip
    refine own_st (S' := s₁.setTop (mkF m 9 #[.val (.int p1), .val (.int p2)] [])) (fun _ kont => XS.icmpYes X0.here hx rfl (pc0 := 2) (pc' := 9) rfl (hb hby dMN_2) rfl ((own_i_gt _ _).trans (decide_eq_true (p := Int32.toInt p1 > Int32.toInt p2) (hc2))) (by decide) (by decide) kont) ?_
    refine own_st (S' := s₁.setTop (mkF m 10 #[.val (.int p1), .val (.int p2)] [(.int p2)])) (fun _ kont => XS.iloadN X0.here hx rfl (hb hby dMN_9) rfl kont) ?_
    have tq101 : p2 = (own_imin p1 p2) := by unfold own_imin; first | rw [if_pos (by omega)] | rw [if_neg (by omega)]
    refine own_cv (congrArg (fun z => s₁.setTop (mkF m 10 #[.val (.int p1), .val (.int p2)] [(.int z)])) tq101) ?_
    show own_Go p.tables e below _ (s₁.setTop (mkF m 10 #[.val (.int p1), .val (.int p2)] [(.int (own_imin p1 p2))]))
    refine own_end X0 (Q := (QMN Z p1 p2 h0 n0)) (some (.int (own_imin p1 p2))) Bd.notSynchronized (fun h => by rw [Bd.returns] at h; cases h) (fun fs hr => retI X0 hx Bd.returns (hb hby dMN_10) hr) ?_ (by decide) (by decide)
    rw [e0]
    exact ⟨rfl, N0, rfl⟩
  · skip
    refine own_st (S' := s₁.setTop (mkF m 5 #[.val (.int p1), .val (.int p2)] [])) (fun _ kont => XS.icmpNo X0.here hx rfl (hb hby dMN_2) rfl ((own_i_gt _ _).trans (decide_eq_false (p := Int32.toInt p1 > Int32.toInt p2) (hc2))) kont) ?_
    refine own_st (S' := s₁.setTop (mkF m 6 #[.val (.int p1), .val (.int p2)] [(.int p1)])) (fun _ kont => XS.iloadN X0.here hx rfl (hb hby dMN_5) rfl kont) ?_
    refine own_st (S' := s₁.setTop (mkF m 10 #[.val (.int p1), .val (.int p2)] [(.int p1)])) (fun _ kont => XS.goto X0.here hx rfl (pc0 := 6) (pc' := 10) rfl (hb hby dMN_6) (by decide) (by decide) kont) ?_
    have tq102 : p1 = (own_imin p1 p2) := by unfold own_imin; first | rw [if_pos (by omega)] | rw [if_neg (by omega)]
    refine own_cv (congrArg (fun z => s₁.setTop (mkF m 10 #[.val (.int p1), .val (.int p2)] [(.int z)])) tq102) ?_
    show own_Go p.tables e below _ (s₁.setTop (mkF m 10 #[.val (.int p1), .val (.int p2)] [(.int (own_imin p1 p2))]))
    refine own_end X0 (Q := (QMN Z p1 p2 h0 n0)) (some (.int (own_imin p1 p2))) Bd.notSynchronized (fun h => by rw [Bd.returns] at h; cases h) (fun fs hr => retI X0 hx Bd.returns (hb hby dMN_10) hr) ?_ (by decide) (by decide)
    rw [e0]
    exact ⟨rfl, N0, rfl⟩
theorem dC_0 : decode jdk_65_method_121_code 0 = .ok (.iload_n 1, 1) := by decide +kernel
theorem dC_1 : decode jdk_65_method_121_code 1 = .ok (.aload_n 0, 1) := by decide +kernel
theorem dC_2 : decode jdk_65_method_121_code 2 = .ok (.arraylength, 1) := by decide +kernel
theorem dC_3 : decode jdk_65_method_121_code 3 = .ok (.if_icmp .ne 11, 3) := by decide +kernel
theorem dC_6 : decode jdk_65_method_121_code 6 = .ok (.aload_n 0, 1) := by decide +kernel
theorem dC_7 : decode jdk_65_method_121_code 7 = .ok (.invokevirtual 310, 3) := by decide +kernel
theorem dC_10 : decode jdk_65_method_121_code 10 = .ok (.checkcast 311, 3) := by decide +kernel
theorem dC_13 : decode jdk_65_method_121_code 13 = .ok (.areturn, 1) := by decide +kernel
theorem dC_14 : decode jdk_65_method_121_code 14 = .ok (.iload_n 1, 1) := by decide +kernel
theorem dC_15 : decode jdk_65_method_121_code 15 = .ok (.newarray .byte, 2) := by decide +kernel
theorem dC_17 : decode jdk_65_method_121_code 17 = .ok (.astore_n 2, 1) := by decide +kernel
theorem dC_18 : decode jdk_65_method_121_code 18 = .ok (.aload_n 0, 1) := by decide +kernel
theorem dC_19 : decode jdk_65_method_121_code 19 = .ok (.iconst 0, 1) := by decide +kernel
theorem dC_20 : decode jdk_65_method_121_code 20 = .ok (.aload_n 2, 1) := by decide +kernel
theorem dC_21 : decode jdk_65_method_121_code 21 = .ok (.iconst 0, 1) := by decide +kernel
theorem dC_22 : decode jdk_65_method_121_code 22 = .ok (.aload_n 0, 1) := by decide +kernel
theorem dC_23 : decode jdk_65_method_121_code 23 = .ok (.arraylength, 1) := by decide +kernel
theorem dC_24 : decode jdk_65_method_121_code 24 = .ok (.iload_n 1, 1) := by decide +kernel
theorem dC_25 : decode jdk_65_method_121_code 25 = .ok (.invokestatic 304, 3) := by decide +kernel
theorem dC_28 : decode jdk_65_method_121_code 28 = .ok (.invokestatic 150, 3) := by decide +kernel
theorem dC_31 : decode jdk_65_method_121_code 31 = .ok (.aload_n 2, 1) := by decide +kernel
theorem dC_32 : decode jdk_65_method_121_code 32 = .ok (.areturn, 1) := by decide +kernel
theorem pn_C : plainName "java/util/Arrays" = true := by first | (simp [plainName, overriddenIn]; done) | decide +kernel
theorem pd_C : parseMethodDescriptor "([BI)[B" = some ⟨[.array .byte, .int], some (.array .byte)⟩ := by decide +kernel
theorem ef_C (m : MethodId) (b1 : Addr) (p1 : Int32) : entryFrame m #[(.ref b1), (.int p1)] 3 = mkF m 0 #[.val (.ref b1), .val (.int p1), .unset] [] := by first | (simp [entryFrame, mkF, argsToLocals, Value.category]; done) | rfl
def QC (Z : State) (b1 : Addr) (p1 : Int32) (f : Nat → Int32) (h0 : Heap) (n0 : Nat) (v : Option Value) (h : Heap) (L : List Loc) : Prop := ∃ z, v = some (.ref z) ∧ Fr n0 L ∧ Keep h0 h [] ∧ h0.size ≤ z ∧ (own_A Z h z .byte 8 f)
set_option maxRecDepth 65536 in
set_option maxHeartbeats 40000000 in
theorem rmC (l : Launch) (Z : State) (a0 : Array Value) (hw : ∀ d ∈ tables_1, d.before a0 Z = true) (ws : List Jvm.Cond) (b1 : Addr) (p1 : Int32) (f : Nat → Int32) (h0 : Heap) (n0 : Nat) (Z0 : n0 ≤ h0.size) (V : (own_A Z h0 b1 .byte 64 f)) (q1 : p1 = (8 : Int32)) :
    MetFree l (⟨"java/util/Arrays", "copyOf", "([BI)[B"⟩ : MethodName) (head1 (Jvm.Cond.code (⟨"java/util/Arrays", "copyOf", "([BI)[B"⟩ : MethodName) jdk_65_method_121_code 3 (some (.array .byte)) :: ws) ({ frames := 1, cells := 1, slots := 8, locals := 40 } : Room)) (fun a U => a = #[(.ref b1), (.int p1)] ∧ Z.Warmed39 U.vm ∧ U.heap = h0) (fun _ _ _ _ _ => True) (fun _ U o U' => ∃ v L, o = .returned v ∧ QC Z b1 p1 f h0 n0 v U'.heap L ∧ FrameEnd U o U' L ({ frames := 1, cells := 1, slots := 8, locals := 40 } : Room).cells ({ frames := 1, cells := 1, slots := 8, locals := 40 } : Room).slots) := by
  refine MetFree.of_bodySF (plainFor_of_name pn_C) hisR ?_
  intro p e s m args below meth c s₁ Bd hml0 hP hK
  obtain ⟨rfl, hZ, hh⟩ := hP
  have hx := Bd.exec
  have hby := Bd.bytes
  have hml : c.maxLocals = 3 := hml0
  have hown : s.vm.findClass "java/util/Arrays" = some m.cls := findClass_of_methodNamed Bd.named
  have hnm := (name_of_methodNamed Bd.named Bd.method).1
  have X0 : Stand p l e ({ frames := 1, cells := 1, slots := 8, locals := 40 } : Room) s m #[(.ref b1), (.int p1)] below meth c s₁ [] 0 0 := Stand.of_body Bd
  have e0 : s₁.heap = h0 := by rw [← hh, Bd.state]; rfl
  have N0 := Fr.nil n0
  show own_Go p.tables e below (fun t o => ∃ v L, o = .returned v ∧ QC Z b1 p1 f h0 n0 v t.heap L ∧ FrameEnd s o t L ({ frames := 1, cells := 1, slots := 8, locals := 40 } : Room).cells ({ frames := 1, cells := 1, slots := 8, locals := 40 } : Room).slots) (s₁.setTop (entryFrame m #[(.ref b1), (.int p1)] 3))
  rw [ef_C]
  show own_Go p.tables e below _ (s₁.setTop (mkF m 0 #[.val (.ref b1), .val (.int p1), .unset] []))
  subst q1
  refine own_st (S' := s₁.setTop (mkF m 1 #[.val (.ref b1), .val (.int (8 : Int32)), .unset] [(.int (8 : Int32))])) (fun _ kont => XS.iloadN X0.here hx rfl (hb hby dC_0) rfl kont) ?_
  refine own_st (S' := s₁.setTop (mkF m 2 #[.val (.ref b1), .val (.int (8 : Int32)), .unset] [(.ref b1), (.int (8 : Int32))])) (fun _ kont => XS.aloadN X0.here hx rfl (hb hby dC_1) rfl rfl kont) ?_
  refine own_st (S' := s₁.setTop (mkF m 3 #[.val (.ref b1), .val (.int (8 : Int32)), .unset] [(.int (Nat.toInt32 64)), (.int (8 : Int32))])) (own_len X0 hx hZ e0 V (g := (mkF m 2 #[.val (.ref b1), .val (.int (8 : Int32)), .unset] [(.ref b1), (.int (8 : Int32))])) rfl rfl (hb hby dC_2)) ?_
  have tq101 : (Nat.toInt32 64) = (64 : Int32) := rfl
  refine own_cv (congrArg (fun z => s₁.setTop (mkF m 3 #[.val (.ref b1), .val (.int (8 : Int32)), .unset] [(.int z), (.int (8 : Int32))])) tq101) ?_
  show own_Go p.tables e below _ (s₁.setTop (mkF m 3 #[.val (.ref b1), .val (.int (8 : Int32)), .unset] [(.int (64 : Int32)), (.int (8 : Int32))]))
  refine own_st (S' := s₁.setTop (mkF m 14 #[.val (.ref b1), .val (.int (8 : Int32)), .unset] [])) (fun _ kont => XS.icmpYes X0.here hx rfl (pc0 := 3) (pc' := 14) rfl (hb hby dC_3) rfl ((own_i_ne _ _).trans (decide_eq_true (p := 8 ≠ 64) (by decide))) (by decide) (by decide) kont) ?_
  refine own_st (S' := s₁.setTop (mkF m 15 #[.val (.ref b1), .val (.int (8 : Int32)), .unset] [(.int (8 : Int32))])) (fun _ kont => XS.iloadN X0.here hx rfl (hb hby dC_14) rfl kont) ?_
  obtain ⟨T102, h102, cA102, X102, e102, E102, A102, st102⟩ := newP X0 hx hZ (hw _ (List.mem_of_getElem? (i := 10) rfl)) e0 (g := (mkF m 15 #[.val (.ref b1), .val (.int (8 : Int32)), .unset] [(.int (8 : Int32))])) rfl (hb hby dC_15) rfl (by decide) (cap := 8) (by decide) (by decide) (by decide) (by decide)
  obtain ⟨a102, ga102⟩ : ∃ z, z = h0.size := ⟨_, rfl⟩
  rw [← ga102] at A102 st102
  refine own_st (S' := T102.setTop (mkF m 17 #[.val (.ref b1), .val (.int (8 : Int32)), .unset] [(.ref a102)])) st102 ?_
  have VB : (own_A Z h102 a102 .byte 8 (fun _ => 0)) := own_A.new (ty := .byte) (z := 8) A102 (by decide) rfl rfl
  have VA := V.ext E102
  have Zb : n0 ≤ h102.size := Nat.le_trans Z0 E102.1
  have gz : n0 ≤ a102 := by rw [ga102]; exact Z0
  refine own_st (S' := T102.setTop (mkF m 18 #[.val (.ref b1), .val (.int (8 : Int32)), .val (.ref a102)] [])) (fun _ kont => XS.astoreN X102.here hx rfl (hb hby dC_17) rfl rfl (l' := #[.val (.ref b1), .val (.int (8 : Int32)), .val (.ref a102)]) rfl kont) ?_
  refine own_st (S' := T102.setTop (mkF m 19 #[.val (.ref b1), .val (.int (8 : Int32)), .val (.ref a102)] [(.ref b1)])) (fun _ kont => XS.aloadN X102.here hx rfl (hb hby dC_18) rfl rfl kont) ?_
  refine own_st (S' := T102.setTop (mkF m 20 #[.val (.ref b1), .val (.int (8 : Int32)), .val (.ref a102)] [(.int (0 : Int32)), (.ref b1)])) (fun _ kont => XS.iconst X102.here hx rfl (hb hby dC_19) kont) ?_
  refine own_st (S' := T102.setTop (mkF m 21 #[.val (.ref b1), .val (.int (8 : Int32)), .val (.ref a102)] [(.ref a102), (.int (0 : Int32)), (.ref b1)])) (fun _ kont => XS.aloadN X102.here hx rfl (hb hby dC_20) rfl rfl kont) ?_
  refine own_st (S' := T102.setTop (mkF m 22 #[.val (.ref b1), .val (.int (8 : Int32)), .val (.ref a102)] [(.int (0 : Int32)), (.ref a102), (.int (0 : Int32)), (.ref b1)])) (fun _ kont => XS.iconst X102.here hx rfl (hb hby dC_21) kont) ?_
  refine own_st (S' := T102.setTop (mkF m 23 #[.val (.ref b1), .val (.int (8 : Int32)), .val (.ref a102)] [(.ref b1), (.int (0 : Int32)), (.ref a102), (.int (0 : Int32)), (.ref b1)])) (fun _ kont => XS.aloadN X102.here hx rfl (hb hby dC_22) rfl rfl kont) ?_
  refine own_st (S' := T102.setTop (mkF m 24 #[.val (.ref b1), .val (.int (8 : Int32)), .val (.ref a102)] [(.int (Nat.toInt32 64)), (.int (0 : Int32)), (.ref a102), (.int (0 : Int32)), (.ref b1)])) (own_len X102 hx hZ e102 VA (g := (mkF m 23 #[.val (.ref b1), .val (.int (8 : Int32)), .val (.ref a102)] [(.ref b1), (.int (0 : Int32)), (.ref a102), (.int (0 : Int32)), (.ref b1)])) rfl rfl (hb hby dC_23)) ?_
  have tq103 : (Nat.toInt32 64) = (64 : Int32) := rfl
  refine own_cv (congrArg (fun z => T102.setTop (mkF m 24 #[.val (.ref b1), .val (.int (8 : Int32)), .val (.ref a102)] [(.int z), (.int (0 : Int32)), (.ref a102), (.int (0 : Int32)), (.ref b1)])) tq103) ?_
  show own_Go p.tables e below _ (T102.setTop (mkF m 24 #[.val (.ref b1), .val (.int (8 : Int32)), .val (.ref a102)] [(.int (64 : Int32)), (.int (0 : Int32)), (.ref a102), (.int (0 : Int32)), (.ref b1)]))
  refine own_st (S' := T102.setTop (mkF m 25 #[.val (.ref b1), .val (.int (8 : Int32)), .val (.ref a102)] [(.int (8 : Int32)), (.int (64 : Int32)), (.int (0 : Int32)), (.ref a102), (.int (0 : Int32)), (.ref b1)])) (fun _ kont => XS.iloadN X102.here hx rfl (hb hby dC_24) rfl kont) ?_
  obtain ⟨_, _, ⟨T104, L104, k104, n104⟩, -, X104, ⟨Lc104, hQ104, l104, y104, z104⟩, st104⟩ := Jvm.LawKit.callS X102 hx (y := (⟨"java/lang/Math", "min", "(II)I"⟩ : MethodName)) hown (mvT hZ (hw _ (List.mem_of_getElem? (i := 48) rfl))) (mvT hZ (hw _ (List.mem_of_getElem? (i := 49) rfl))) (mvT hZ (hw _ (List.mem_of_getElem? (i := 50) rfl))) (mvT hZ (hw _ (List.mem_of_getElem? (i := 51) rfl))) (by decide) (backOf (W := 4) (rmMN l Z a0 hw [] (64 : Int32) (8 : Int32) h102 n0 Zb) hZ (hw _ (List.mem_of_getElem? (i := 51) rfl)) (hw _ (List.mem_of_getElem? (i := 50) rfl)) (by decide) (by decide)) (g := (mkF m 25 #[.val (.ref b1), .val (.int (8 : Int32)), .val (.ref a102)] [(.int (8 : Int32)), (.int (64 : Int32)), (.int (0 : Int32)), (.ref a102), (.int (0 : Int32)), (.ref b1)])) rfl (by rw [hml]; rfl) (argsL := [(.int (64 : Int32)), (.int (8 : Int32))]) (rest := [(.int (0 : Int32)), (.ref a102), (.int (0 : Int32)), (.ref b1)]) (lenOf pd_MN rfl) rfl (by show 2 * 0 + _ ≤ _; exact Nat.le_of_eq rfl) (hb hby dC_25) (fun _ _ => ⟨rfl, e102, (by decide : 1 + 0 ≤ _), (by decide : 8 + 0 ≤ _)⟩)
  dsimp only [Pt.U, Pt.locs, Pt.cells, Pt.slots] at X104 l104 y104 z104 st104 hQ104
  subst l104 y104 z104
  obtain ⟨rfl, N104, hh104⟩ := hQ104
  refine own_st (S' := T104.setTop (mkF m 28 #[.val (.ref b1), .val (.int (8 : Int32)), .val (.ref a102)] [(.int (own_imin (64 : Int32) (8 : Int32))), (.int (0 : Int32)), (.ref a102), (.int (0 : Int32)), (.ref b1)])) st104 ?_
  have Nm := Fr.app N0 N104
  have tq105 : (own_imin (64 : Int32) (8 : Int32)) = (8 : Int32) := rfl
  refine own_cv (congrArg (fun z => T104.setTop (mkF m 28 #[.val (.ref b1), .val (.int (8 : Int32)), .val (.ref a102)] [(.int z), (.int (0 : Int32)), (.ref a102), (.int (0 : Int32)), (.ref b1)])) tq105) ?_
  show own_Go p.tables e below _ (T104.setTop (mkF m 28 #[.val (.ref b1), .val (.int (8 : Int32)), .val (.ref a102)] [(.int (8 : Int32)), (.int (0 : Int32)), (.ref a102), (.int (0 : Int32)), (.ref b1)]))
  obtain ⟨T106, h106, L106, X106, e106, N106, K106, V106, st106⟩ := own_cp X104 hx hZ hown (hw _ (List.mem_of_getElem? (i := 52) rfl)) (hw _ (List.mem_of_getElem? (i := 55) rfl)) (hw _ (List.mem_of_getElem? (i := 53) rfl)) (hw _ (List.mem_of_getElem? (i := 54) rfl)) hh104 VA VB (by decide) (by decide) (by decide) Nm gz (g := (mkF m 28 #[.val (.ref b1), .val (.int (8 : Int32)), .val (.ref a102)] [(.int (8 : Int32)), (.int (0 : Int32)), (.ref a102), (.int (0 : Int32)), (.ref b1)])) rfl (by rw [hml]; rfl) rfl (hb hby dC_28) (by decide) (W := 0) (by show 2 * 0 + _ ≤ _; exact Nat.le_of_eq rfl) (by decide)
  refine own_st (S' := T106.setTop (mkF m 31 #[.val (.ref b1), .val (.int (8 : Int32)), .val (.ref a102)] [])) st106 ?_
  refine own_st (S' := T106.setTop (mkF m 32 #[.val (.ref b1), .val (.int (8 : Int32)), .val (.ref a102)] [(.ref a102)])) (fun _ kont => XS.aloadN X106.here hx rfl (hb hby dC_31) rfl rfl kont) ?_
  have VC : (own_A Z h106 a102 .byte 8 f) := V106.congr (fun i hi => by show f i = if i < 8 then f i else 0; rw [if_pos hi])
  have KC : Keep h0 h106 [] := ((Keep.refl h0 []).ext E102).trans K106 (fun x hx => by rw [List.mem_singleton.mp hx]; exact Or.inr (Nat.le_of_eq ga102.symm))
  refine own_end X106 (Q := (QC Z b1 (8 : Int32) f h0 n0)) (some (.ref a102)) Bd.notSynchronized (fun h => by rw [Bd.returns] at h; cases h) (fun fs hr => retOut X106 hx Bd.returns rfl (Or.inr (Or.inr (Or.inr (Or.inr ⟨rfl, rfl, rfl⟩)))) (hb hby dC_32) hr) ?_ (by decide) (by decide)
  rw [e106]
  exact ⟨a102, rfl, N106, KC, Nat.le_of_eq ga102.symm, VC⟩
theorem dP_0 : decode prog_76_method_13_code 0 = .ok (.aload_n 0, 1) := by decide +kernel
theorem dP_1 : decode prog_76_method_13_code 1 = .ok (.getfield 9, 3) := by decide +kernel
theorem dP_4 : decode prog_76_method_13_code 4 = .ok (.aload_n 0, 1) := by decide +kernel
theorem dP_5 : decode prog_76_method_13_code 5 = .ok (.getfield 13, 3) := by decide +kernel
theorem dP_8 : decode prog_76_method_13_code 8 = .ok (.invokestatic 43, 3) := by decide +kernel
theorem dP_11 : decode prog_76_method_13_code 11 = .ok (.areturn, 1) := by decide +kernel
theorem pn_P : plainName "com/example/dexwright/dexwright/dex/DexOutput" = true := by first | (simp [plainName, overriddenIn]; done) | decide +kernel
theorem pd_P : parseMethodDescriptor "()[B" = some ⟨[], some (.array .byte)⟩ := by decide +kernel
theorem ef_P (m : MethodId) (a1 : Addr) : entryFrame m #[(.ref a1)] 1 = mkF m 0 #[.val (.ref a1)] [] := by first | (simp [entryFrame, mkF, argsToLocals, Value.category]; done) | rfl
def QP (Z : State) (a1 : Addr) (b1 : Addr) (f : Nat → Int32) (h0 : Heap) (n0 : Nat) (v : Option Value) (h : Heap) (L : List Loc) : Prop := ∃ z, v = some (.ref z) ∧ Fr n0 L ∧ Keep h0 h [] ∧ h0.size ≤ z ∧ (own_A Z h z .byte 8 f)
set_option maxRecDepth 65536 in
set_option maxHeartbeats 40000000 in
theorem rmP (l : Launch) (Z : State) (a0 : Array Value) (hw : ∀ d ∈ tables_1, d.before a0 Z = true) (ws : List Jvm.Cond) (a1 : Addr) (b1 : Addr) (f : Nat → Int32) (h0 : Heap) (n0 : Nat) (Z0 : n0 ≤ h0.size) (Fb : (Fld Z h0 a1 "com/example/dexwright/dexwright/dex/DexOutput" "bytes" "[B" (.ref b1))) (Fs : (Fld Z h0 a1 "com/example/dexwright/dexwright/dex/DexOutput" "size" "I" (.int 8))) (V : (own_A Z h0 b1 .byte 64 f)) :
    MetFree l (⟨"com/example/dexwright/dexwright/dex/DexOutput", "toByteArray", "()[B"⟩ : MethodName) (head1 (Jvm.Cond.code (⟨"com/example/dexwright/dexwright/dex/DexOutput", "toByteArray", "()[B"⟩ : MethodName) prog_76_method_13_code 1 (some (.array .byte)) :: ws) ({ frames := 2, cells := 1, slots := 8, locals := 54 } : Room)) (fun a U => a = #[(.ref a1)] ∧ Z.Warmed39 U.vm ∧ U.heap = h0) (fun _ _ _ _ _ => True) (fun _ U o U' => ∃ v L, o = .returned v ∧ QP Z a1 b1 f h0 n0 v U'.heap L ∧ FrameEnd U o U' L ({ frames := 2, cells := 1, slots := 8, locals := 54 } : Room).cells ({ frames := 2, cells := 1, slots := 8, locals := 54 } : Room).slots) := by
  refine MetFree.of_bodySF (plainFor_of_name pn_P) hisR ?_
  intro p e s m args below meth c s₁ Bd hml0 hP hK
  obtain ⟨rfl, hZ, hh⟩ := hP
  have hx := Bd.exec
  have hby := Bd.bytes
  have hml : c.maxLocals = 1 := hml0
  have hown : s.vm.findClass "com/example/dexwright/dexwright/dex/DexOutput" = some m.cls := findClass_of_methodNamed Bd.named
  have hnm := (name_of_methodNamed Bd.named Bd.method).1
  have X0 : Stand p l e ({ frames := 2, cells := 1, slots := 8, locals := 54 } : Room) s m #[(.ref a1)] below meth c s₁ [] 0 0 := Stand.of_body Bd
  have e0 : s₁.heap = h0 := by rw [← hh, Bd.state]; rfl
  have N0 := Fr.nil n0
  show own_Go p.tables e below (fun t o => ∃ v L, o = .returned v ∧ QP Z a1 b1 f h0 n0 v t.heap L ∧ FrameEnd s o t L ({ frames := 2, cells := 1, slots := 8, locals := 54 } : Room).cells ({ frames := 2, cells := 1, slots := 8, locals := 54 } : Room).slots) (s₁.setTop (entryFrame m #[(.ref a1)] 1))
  rw [ef_P]
  show own_Go p.tables e below _ (s₁.setTop (mkF m 0 #[.val (.ref a1)] []))
  refine own_st (S' := s₁.setTop (mkF m 1 #[.val (.ref a1)] [(.ref a1)])) (fun _ kont => XS.aloadN X0.here hx rfl (hb hby dP_0) rfl rfl kont) ?_
  obtain ⟨T101, X101, e101, st101⟩ := getF X0 hx hZ hown (host := "") (Or.inl (hw _ (List.mem_of_getElem? (i := 11) rfl))) Via.refl e0 Fb (g := (mkF m 1 #[.val (.ref a1)] [(.ref a1)])) rfl rfl (hb hby dP_1)
  refine own_st (S' := T101.setTop (mkF m 4 #[.val (.ref a1)] [(.ref b1)])) st101 ?_
  refine own_st (S' := T101.setTop (mkF m 5 #[.val (.ref a1)] [(.ref a1), (.ref b1)])) (fun _ kont => XS.aloadN X101.here hx rfl (hb hby dP_4) rfl rfl kont) ?_
  obtain ⟨T102, X102, e102, st102⟩ := getF X101 hx hZ hown (host := "") (Or.inl (hw _ (List.mem_of_getElem? (i := 27) rfl))) Via.refl e101 Fs (g := (mkF m 5 #[.val (.ref a1)] [(.ref a1), (.ref b1)])) rfl rfl (hb hby dP_5)
  refine own_st (S' := T102.setTop (mkF m 8 #[.val (.ref a1)] [(.int (8 : Int32)), (.ref b1)])) st102 ?_
  obtain ⟨_, _, ⟨T103, L103, k103, n103⟩, -, X103, ⟨Lc103, hQ103, l103, y103, z103⟩, st103⟩ := Jvm.LawKit.callS X102 hx (y := (⟨"java/util/Arrays", "copyOf", "([BI)[B"⟩ : MethodName)) hown (mvT hZ (hw _ (List.mem_of_getElem? (i := 44) rfl))) (mvT hZ (hw _ (List.mem_of_getElem? (i := 45) rfl))) (mvT hZ (hw _ (List.mem_of_getElem? (i := 46) rfl))) (mvT hZ (hw _ (List.mem_of_getElem? (i := 47) rfl))) (by decide) (backOf (W := 0) (rmC l Z a0 hw [] b1 (8 : Int32) f h0 n0 Z0 V rfl) hZ (hw _ (List.mem_of_getElem? (i := 47) rfl)) (hw _ (List.mem_of_getElem? (i := 46) rfl)) (by decide) (by decide)) (g := (mkF m 8 #[.val (.ref a1)] [(.int (8 : Int32)), (.ref b1)])) rfl (by rw [hml]; rfl) (argsL := [(.ref b1), (.int (8 : Int32))]) (rest := []) (lenOf pd_C rfl) rfl (by show 2 * 0 + _ ≤ _; exact Nat.le_of_eq rfl) (hb hby dP_8) (fun _ _ => ⟨rfl, e102, (by dsimp only [Pt.cells]; decide), (by dsimp only [Pt.slots]; decide)⟩)
  dsimp only [Pt.U, Pt.locs, Pt.cells, Pt.slots] at X103 l103 y103 z103 st103 hQ103
  subst l103 y103 z103
  obtain ⟨z103, rfl, N103, K103, gz103, V103⟩ := hQ103
  refine own_st (S' := T103.setTop (mkF m 11 #[.val (.ref a1)] [(.ref z103)])) st103 ?_
  refine own_end X103 (Q := (QP Z a1 b1 f h0 n0)) (some (.ref z103)) Bd.notSynchronized (fun h => by rw [Bd.returns] at h; cases h) (fun fs hr => retOut X103 hx Bd.returns rfl (Or.inr (Or.inr (Or.inr (Or.inr ⟨rfl, rfl, rfl⟩)))) (hb hby dP_11) hr) ?_ (by decide) (by decide)
  skip
  exact ⟨z103, rfl, Fr.app N0 N103, K103, gz103, V103⟩
theorem dX_0 : decode method_3_code 0 = .ok (.iload_n 0, 1) := by decide +kernel
theorem dX_1 : decode method_3_code 1 = .ok (.iload_n 1, 1) := by decide +kernel
theorem dX_2 : decode method_3_code 2 = .ok (.if_icmp .lt 88, 3) := by decide +kernel
theorem dX_5 : decode method_3_code 5 = .ok (.iload_n 0, 1) := by decide +kernel
theorem dX_6 : decode method_3_code 6 = .ok (.iload_n 1, 1) := by decide +kernel
theorem dX_7 : decode method_3_code 7 = .ok (.iconst 4, 1) := by decide +kernel
theorem dX_8 : decode method_3_code 8 = .ok (.iadd, 1) := by decide +kernel
theorem dX_9 : decode method_3_code 9 = .ok (.if_icmp .ge 81, 3) := by decide +kernel
theorem dX_12 : decode method_3_code 12 = .ok (.iload_n 0, 1) := by decide +kernel
theorem dX_13 : decode method_3_code 13 = .ok (.iload_n 1, 1) := by decide +kernel
theorem dX_14 : decode method_3_code 14 = .ok (.isub, 1) := by decide +kernel
theorem dX_15 : decode method_3_code 15 = .ok (.istore 6, 2) := by decide +kernel
theorem dX_17 : decode method_3_code 17 = .ok (.lload 4, 2) := by decide +kernel
theorem dX_19 : decode method_3_code 19 = .ok (.ldc2_w 33, 3) := by decide +kernel
theorem dX_22 : decode method_3_code 22 = .ok (.land, 1) := by decide +kernel
theorem dX_23 : decode method_3_code 23 = .ok (.lstore 7, 2) := by decide +kernel
theorem dX_25 : decode method_3_code 25 = .ok (.iload 6, 2) := by decide +kernel
theorem dX_27 : decode method_3_code 27 = .ok (.ifCond .ne 12, 3) := by decide +kernel
theorem dX_30 : decode method_3_code 30 = .ok (.lload 7, 2) := by decide +kernel
theorem dX_32 : decode method_3_code 32 = .ok (.ldc2_w 35, 3) := by decide +kernel
theorem dX_35 : decode method_3_code 35 = .ok (.land, 1) := by decide +kernel
theorem dX_36 : decode method_3_code 36 = .ok (.l2i, 1) := by decide +kernel
theorem dX_37 : decode method_3_code 37 = .ok (.i2b, 1) := by decide +kernel
theorem dX_38 : decode method_3_code 38 = .ok (.ireturn, 1) := by decide +kernel
theorem dX_39 : decode method_3_code 39 = .ok (.iload 6, 2) := by decide +kernel
theorem dX_41 : decode method_3_code 41 = .ok (.iconst 1, 1) := by decide +kernel
theorem dX_42 : decode method_3_code 42 = .ok (.if_icmp .ne 16, 3) := by decide +kernel
theorem dX_45 : decode method_3_code 45 = .ok (.lload 7, 2) := by decide +kernel
theorem dX_47 : decode method_3_code 47 = .ok (.ldc2_w 37, 3) := by decide +kernel
theorem dX_50 : decode method_3_code 50 = .ok (.ldiv, 1) := by decide +kernel
theorem dX_51 : decode method_3_code 51 = .ok (.ldc2_w 35, 3) := by decide +kernel
theorem dX_54 : decode method_3_code 54 = .ok (.land, 1) := by decide +kernel
theorem dX_55 : decode method_3_code 55 = .ok (.l2i, 1) := by decide +kernel
theorem dX_56 : decode method_3_code 56 = .ok (.i2b, 1) := by decide +kernel
theorem dX_57 : decode method_3_code 57 = .ok (.ireturn, 1) := by decide +kernel
theorem dX_58 : decode method_3_code 58 = .ok (.iload 6, 2) := by decide +kernel
theorem dX_60 : decode method_3_code 60 = .ok (.iconst 2, 1) := by decide +kernel
theorem dX_61 : decode method_3_code 61 = .ok (.if_icmp .ne 16, 3) := by decide +kernel
theorem dX_64 : decode method_3_code 64 = .ok (.lload 7, 2) := by decide +kernel
theorem dX_66 : decode method_3_code 66 = .ok (.ldc2_w 39, 3) := by decide +kernel
theorem dX_69 : decode method_3_code 69 = .ok (.ldiv, 1) := by decide +kernel
theorem dX_70 : decode method_3_code 70 = .ok (.ldc2_w 35, 3) := by decide +kernel
theorem dX_73 : decode method_3_code 73 = .ok (.land, 1) := by decide +kernel
theorem dX_74 : decode method_3_code 74 = .ok (.l2i, 1) := by decide +kernel
theorem dX_75 : decode method_3_code 75 = .ok (.i2b, 1) := by decide +kernel
theorem dX_76 : decode method_3_code 76 = .ok (.ireturn, 1) := by decide +kernel
theorem dX_77 : decode method_3_code 77 = .ok (.lload 7, 2) := by decide +kernel
theorem dX_79 : decode method_3_code 79 = .ok (.ldc2_w 41, 3) := by decide +kernel
theorem dX_82 : decode method_3_code 82 = .ok (.ldiv, 1) := by decide +kernel
theorem dX_83 : decode method_3_code 83 = .ok (.ldc2_w 35, 3) := by decide +kernel
theorem dX_86 : decode method_3_code 86 = .ok (.land, 1) := by decide +kernel
theorem dX_87 : decode method_3_code 87 = .ok (.l2i, 1) := by decide +kernel
theorem dX_88 : decode method_3_code 88 = .ok (.i2b, 1) := by decide +kernel
theorem dX_89 : decode method_3_code 89 = .ok (.ireturn, 1) := by decide +kernel
theorem dX_90 : decode method_3_code 90 = .ok (.lload_n 2, 1) := by decide +kernel
theorem dX_91 : decode method_3_code 91 = .ok (.bipush 8, 2) := by decide +kernel
theorem dX_93 : decode method_3_code 93 = .ok (.iload_n 0, 1) := by decide +kernel
theorem dX_94 : decode method_3_code 94 = .ok (.imul, 1) := by decide +kernel
theorem dX_95 : decode method_3_code 95 = .ok (.lushr, 1) := by decide +kernel
theorem dX_96 : decode method_3_code 96 = .ok (.l2i, 1) := by decide +kernel
theorem dX_97 : decode method_3_code 97 = .ok (.i2b, 1) := by decide +kernel
theorem dX_98 : decode method_3_code 98 = .ok (.ireturn, 1) := by decide +kernel
theorem pn_X : plainName "com/example/dexwright/dexwright/dex/DexOutputUintAtPinLaw" = true := by first | (simp [plainName, overriddenIn]; done) | decide +kernel
theorem pd_X : parseMethodDescriptor "(IIJJ)B" = some ⟨[.int, .int, .long, .long], some .byte⟩ := by decide +kernel
theorem ef_X (m : MethodId) (p1 : Int32) (p2 : Int32) (p3 : Int64) (p4 : Int64) : entryFrame m #[(.int p1), (.int p2), (.long p3), (.long p4)] 9 = mkF m 0 #[.val (.int p1), .val (.int p2), .val (.long p3), .second, .val (.long p4), .second, .unset, .unset, .unset] [] := by first | (simp [entryFrame, mkF, argsToLocals, Value.category]; done) | rfl
def QX (Z : State) (p1 : Int32) (p2 : Int32) (p3 : Int64) (p4 : Int64) (h0 : Heap) (n0 : Nat) (v : Option Value) (h : Heap) (L : List Loc) : Prop := v = some (.int (own_exp p1 p2 p3 p4)) ∧ Fr n0 L ∧ h = h0
set_option maxRecDepth 65536 in
set_option maxHeartbeats 40000000 in
theorem rmX (l : Launch) (Z : State) (a0 : Array Value) (hw : ∀ d ∈ tables_1, d.before a0 Z = true) (ws : List Jvm.Cond) (p1 : Int32) (p2 : Int32) (p3 : Int64) (p4 : Int64) (h0 : Heap) (n0 : Nat) (Z0 : n0 ≤ h0.size) :
    MetFree l (⟨"com/example/dexwright/dexwright/dex/DexOutputUintAtPinLaw", "expected", "(IIJJ)B"⟩ : MethodName) (head1 (Jvm.Cond.code (⟨"com/example/dexwright/dexwright/dex/DexOutputUintAtPinLaw", "expected", "(IIJJ)B"⟩ : MethodName) method_3_code 9 (some .byte) :: ws) ({ frames := 0, cells := 0, slots := 0, locals := 0 } : Room)) (fun a U => a = #[(.int p1), (.int p2), (.long p3), (.long p4)] ∧ Z.Warmed39 U.vm ∧ U.heap = h0) (fun _ _ _ _ _ => True) (fun _ U o U' => ∃ v L, o = .returned v ∧ QX Z p1 p2 p3 p4 h0 n0 v U'.heap L ∧ FrameEnd U o U' L ({ frames := 0, cells := 0, slots := 0, locals := 0 } : Room).cells ({ frames := 0, cells := 0, slots := 0, locals := 0 } : Room).slots) := by
  refine MetFree.of_bodySF (plainFor_of_name pn_X) hisR ?_
  intro p e s m args below meth c s₁ Bd hml0 hP hK
  obtain ⟨rfl, hZ, hh⟩ := hP
  have hx := Bd.exec
  have hby := Bd.bytes
  have hml : c.maxLocals = 9 := hml0
  have hown : s.vm.findClass "com/example/dexwright/dexwright/dex/DexOutputUintAtPinLaw" = some m.cls := findClass_of_methodNamed Bd.named
  have hnm := (name_of_methodNamed Bd.named Bd.method).1
  have X0 : Stand p l e ({ frames := 0, cells := 0, slots := 0, locals := 0 } : Room) s m #[(.int p1), (.int p2), (.long p3), (.long p4)] below meth c s₁ [] 0 0 := Stand.of_body Bd
  have e0 : s₁.heap = h0 := by rw [← hh, Bd.state]; rfl
  have N0 := Fr.nil n0
  show own_Go p.tables e below (fun t o => ∃ v L, o = .returned v ∧ QX Z p1 p2 p3 p4 h0 n0 v t.heap L ∧ FrameEnd s o t L ({ frames := 0, cells := 0, slots := 0, locals := 0 } : Room).cells ({ frames := 0, cells := 0, slots := 0, locals := 0 } : Room).slots) (s₁.setTop (entryFrame m #[(.int p1), (.int p2), (.long p3), (.long p4)] 9))
  rw [ef_X]
  show own_Go p.tables e below _ (s₁.setTop (mkF m 0 #[.val (.int p1), .val (.int p2), .val (.long p3), .second, .val (.long p4), .second, .unset, .unset, .unset] []))
  refine own_st (S' := s₁.setTop (mkF m 1 #[.val (.int p1), .val (.int p2), .val (.long p3), .second, .val (.long p4), .second, .unset, .unset, .unset] [(.int p1)])) (fun _ kont => XS.iloadN X0.here hx rfl (hb hby dX_0) rfl kont) ?_
  refine own_st (S' := s₁.setTop (mkF m 2 #[.val (.int p1), .val (.int p2), .val (.long p3), .second, .val (.long p4), .second, .unset, .unset, .unset] [(.int p2), (.int p1)])) (fun _ kont => XS.iloadN X0.here hx rfl (hb hby dX_1) rfl kont) ?_
  by_cases hc2 : Int32.toInt p1 < Int32.toInt p2
  · skip
    refine own_st (S' := s₁.setTop (mkF m 90 #[.val (.int p1), .val (.int p2), .val (.long p3), .second, .val (.long p4), .second, .unset, .unset, .unset] [])) (fun _ kont => XS.icmpYes X0.here hx rfl (pc0 := 2) (pc' := 90) rfl (hb hby dX_2) rfl ((own_i_lt _ _).trans (decide_eq_true (p := Int32.toInt p1 < Int32.toInt p2) (hc2))) (by decide) (by decide) kont) ?_
    refine own_st (S' := s₁.setTop (mkF m 91 #[.val (.int p1), .val (.int p2), .val (.long p3), .second, .val (.long p4), .second, .unset, .unset, .unset] [(.long p3)])) (fun _ kont => XT.lloadN X0.here hx rfl (hb hby dX_90) rfl kont) ?_
    refine own_st (S' := s₁.setTop (mkF m 93 #[.val (.int p1), .val (.int p2), .val (.long p3), .second, .val (.long p4), .second, .unset, .unset, .unset] [(.int (8 : Int32)), (.long p3)])) (fun _ kont => XS.bipush X0.here hx rfl (hb hby dX_91) kont) ?_
    refine own_st (S' := s₁.setTop (mkF m 94 #[.val (.int p1), .val (.int p2), .val (.long p3), .second, .val (.long p4), .second, .unset, .unset, .unset] [(.int p1), (.int (8 : Int32)), (.long p3)])) (fun _ kont => XS.iloadN X0.here hx rfl (hb hby dX_93) rfl kont) ?_
    refine own_st (S' := s₁.setTop (mkF m 95 #[.val (.int p1), .val (.int p2), .val (.long p3), .second, .val (.long p4), .second, .unset, .unset, .unset] [(.int ((8 : Int32) * p1)), (.long p3)])) (fun _ kont => XS.imul X0.here hx rfl (hb hby dX_94) rfl kont) ?_
    refine own_st (S' := s₁.setTop (mkF m 96 #[.val (.int p1), .val (.int p2), .val (.long p3), .second, .val (.long p4), .second, .unset, .unset, .unset] [(.long (XT.ushrL p3 ((8 : Int32) * p1)))])) (fun _ kont => XT.lushr X0.here hx rfl (hb hby dX_95) rfl kont) ?_
    refine own_st (S' := s₁.setTop (mkF m 97 #[.val (.int p1), .val (.int p2), .val (.long p3), .second, .val (.long p4), .second, .unset, .unset, .unset] [(.int (Int64.toInt32 (XT.ushrL p3 ((8 : Int32) * p1))))])) (fun _ kont => XT.l2i X0.here hx rfl (hb hby dX_96) rfl kont) ?_
    refine own_st (S' := s₁.setTop (mkF m 98 #[.val (.int p1), .val (.int p2), .val (.long p3), .second, .val (.long p4), .second, .unset, .unset, .unset] [(.int (Int8.toInt32 (Int32.toInt8 (Int64.toInt32 (XT.ushrL p3 ((8 : Int32) * p1))))))])) (fun _ kont => XT.i2b X0.here hx rfl (hb hby dX_97) rfl kont) ?_
    refine own_end X0 (Q := (QX Z p1 p2 p3 p4 h0 n0)) (some (.int (Int8.toInt32 (Int32.toInt8 (Int64.toInt32 (XT.ushrL p3 ((8 : Int32) * p1))))))) Bd.notSynchronized (fun h => by rw [Bd.returns] at h; cases h) (fun fs hr => retN X0 hx (t := .byte) Bd.returns (by simp) (hb hby dX_98) (by rw [own_nB]; exact hr)) ?_ (by decide) (by decide)
    rw [e0]
    exact ⟨congrArg (fun z => some (Value.int z)) (by unfold own_exp; (repeat' split) <;> first | rfl | (exfalso; omega)), N0, rfl⟩
  · skip
    refine own_st (S' := s₁.setTop (mkF m 5 #[.val (.int p1), .val (.int p2), .val (.long p3), .second, .val (.long p4), .second, .unset, .unset, .unset] [])) (fun _ kont => XS.icmpNo X0.here hx rfl (hb hby dX_2) rfl ((own_i_lt _ _).trans (decide_eq_false (p := Int32.toInt p1 < Int32.toInt p2) (hc2))) kont) ?_
    refine own_st (S' := s₁.setTop (mkF m 6 #[.val (.int p1), .val (.int p2), .val (.long p3), .second, .val (.long p4), .second, .unset, .unset, .unset] [(.int p1)])) (fun _ kont => XS.iloadN X0.here hx rfl (hb hby dX_5) rfl kont) ?_
    refine own_st (S' := s₁.setTop (mkF m 7 #[.val (.int p1), .val (.int p2), .val (.long p3), .second, .val (.long p4), .second, .unset, .unset, .unset] [(.int p2), (.int p1)])) (fun _ kont => XS.iloadN X0.here hx rfl (hb hby dX_6) rfl kont) ?_
    refine own_st (S' := s₁.setTop (mkF m 8 #[.val (.int p1), .val (.int p2), .val (.long p3), .second, .val (.long p4), .second, .unset, .unset, .unset] [(.int (4 : Int32)), (.int p2), (.int p1)])) (fun _ kont => XS.iconst X0.here hx rfl (hb hby dX_7) kont) ?_
    refine own_st (S' := s₁.setTop (mkF m 9 #[.val (.int p1), .val (.int p2), .val (.long p3), .second, .val (.long p4), .second, .unset, .unset, .unset] [(.int (p2 + (4 : Int32))), (.int p1)])) (fun _ kont => XS.iadd X0.here hx rfl (hb hby dX_8) rfl kont) ?_
    by_cases hc9 : Int32.toInt p1 ≥ Int32.toInt (p2 + (4 : Int32))
    · skip
      refine own_st (S' := s₁.setTop (mkF m 90 #[.val (.int p1), .val (.int p2), .val (.long p3), .second, .val (.long p4), .second, .unset, .unset, .unset] [])) (fun _ kont => XS.icmpYes X0.here hx rfl (pc0 := 9) (pc' := 90) rfl (hb hby dX_9) rfl ((own_i_ge _ _).trans (decide_eq_true (p := Int32.toInt p1 ≥ Int32.toInt (p2 + (4 : Int32))) (hc9))) (by decide) (by decide) kont) ?_
      refine own_st (S' := s₁.setTop (mkF m 91 #[.val (.int p1), .val (.int p2), .val (.long p3), .second, .val (.long p4), .second, .unset, .unset, .unset] [(.long p3)])) (fun _ kont => XT.lloadN X0.here hx rfl (hb hby dX_90) rfl kont) ?_
      refine own_st (S' := s₁.setTop (mkF m 93 #[.val (.int p1), .val (.int p2), .val (.long p3), .second, .val (.long p4), .second, .unset, .unset, .unset] [(.int (8 : Int32)), (.long p3)])) (fun _ kont => XS.bipush X0.here hx rfl (hb hby dX_91) kont) ?_
      refine own_st (S' := s₁.setTop (mkF m 94 #[.val (.int p1), .val (.int p2), .val (.long p3), .second, .val (.long p4), .second, .unset, .unset, .unset] [(.int p1), (.int (8 : Int32)), (.long p3)])) (fun _ kont => XS.iloadN X0.here hx rfl (hb hby dX_93) rfl kont) ?_
      refine own_st (S' := s₁.setTop (mkF m 95 #[.val (.int p1), .val (.int p2), .val (.long p3), .second, .val (.long p4), .second, .unset, .unset, .unset] [(.int ((8 : Int32) * p1)), (.long p3)])) (fun _ kont => XS.imul X0.here hx rfl (hb hby dX_94) rfl kont) ?_
      refine own_st (S' := s₁.setTop (mkF m 96 #[.val (.int p1), .val (.int p2), .val (.long p3), .second, .val (.long p4), .second, .unset, .unset, .unset] [(.long (XT.ushrL p3 ((8 : Int32) * p1)))])) (fun _ kont => XT.lushr X0.here hx rfl (hb hby dX_95) rfl kont) ?_
      refine own_st (S' := s₁.setTop (mkF m 97 #[.val (.int p1), .val (.int p2), .val (.long p3), .second, .val (.long p4), .second, .unset, .unset, .unset] [(.int (Int64.toInt32 (XT.ushrL p3 ((8 : Int32) * p1))))])) (fun _ kont => XT.l2i X0.here hx rfl (hb hby dX_96) rfl kont) ?_
      refine own_st (S' := s₁.setTop (mkF m 98 #[.val (.int p1), .val (.int p2), .val (.long p3), .second, .val (.long p4), .second, .unset, .unset, .unset] [(.int (Int8.toInt32 (Int32.toInt8 (Int64.toInt32 (XT.ushrL p3 ((8 : Int32) * p1))))))])) (fun _ kont => XT.i2b X0.here hx rfl (hb hby dX_97) rfl kont) ?_
      refine own_end X0 (Q := (QX Z p1 p2 p3 p4 h0 n0)) (some (.int (Int8.toInt32 (Int32.toInt8 (Int64.toInt32 (XT.ushrL p3 ((8 : Int32) * p1))))))) Bd.notSynchronized (fun h => by rw [Bd.returns] at h; cases h) (fun fs hr => retN X0 hx (t := .byte) Bd.returns (by simp) (hb hby dX_98) (by rw [own_nB]; exact hr)) ?_ (by decide) (by decide)
      rw [e0]
      exact ⟨congrArg (fun z => some (Value.int z)) (by unfold own_exp; (repeat' split) <;> first | rfl | (exfalso; omega)), N0, rfl⟩
    · skip
      refine own_st (S' := s₁.setTop (mkF m 12 #[.val (.int p1), .val (.int p2), .val (.long p3), .second, .val (.long p4), .second, .unset, .unset, .unset] [])) (fun _ kont => XS.icmpNo X0.here hx rfl (hb hby dX_9) rfl ((own_i_ge _ _).trans (decide_eq_false (p := Int32.toInt p1 ≥ Int32.toInt (p2 + (4 : Int32))) (hc9))) kont) ?_
      refine own_st (S' := s₁.setTop (mkF m 13 #[.val (.int p1), .val (.int p2), .val (.long p3), .second, .val (.long p4), .second, .unset, .unset, .unset] [(.int p1)])) (fun _ kont => XS.iloadN X0.here hx rfl (hb hby dX_12) rfl kont) ?_
      refine own_st (S' := s₁.setTop (mkF m 14 #[.val (.int p1), .val (.int p2), .val (.long p3), .second, .val (.long p4), .second, .unset, .unset, .unset] [(.int p2), (.int p1)])) (fun _ kont => XS.iloadN X0.here hx rfl (hb hby dX_13) rfl kont) ?_
      refine own_st (S' := s₁.setTop (mkF m 15 #[.val (.int p1), .val (.int p2), .val (.long p3), .second, .val (.long p4), .second, .unset, .unset, .unset] [(.int (p1 - p2))])) (fun _ kont => XS.isub X0.here hx rfl (hb hby dX_14) rfl kont) ?_
      refine own_st (S' := s₁.setTop (mkF m 17 #[.val (.int p1), .val (.int p2), .val (.long p3), .second, .val (.long p4), .second, .val (.int (p1 - p2)), .unset, .unset] [])) (fun _ kont => XS.istore X0.here hx rfl (hb hby dX_15) rfl (l' := #[.val (.int p1), .val (.int p2), .val (.long p3), .second, .val (.long p4), .second, .val (.int (p1 - p2)), .unset, .unset]) rfl kont) ?_
      refine own_st (S' := s₁.setTop (mkF m 19 #[.val (.int p1), .val (.int p2), .val (.long p3), .second, .val (.long p4), .second, .val (.int (p1 - p2)), .unset, .unset] [(.long p4)])) (fun _ kont => XT.lload X0.here hx rfl (hb hby dX_17) rfl kont) ?_
      refine own_st (S' := s₁.setTop (mkF m 22 #[.val (.int p1), .val (.int p2), .val (.long p3), .second, .val (.long p4), .second, .val (.int (p1 - p2)), .unset, .unset] [(.long (4294967295 : Int64)), (.long p4)])) (fun _ kont => X0.ldc2J hx hown (mvT hZ (hw _ (List.mem_of_getElem? (i := 60) rfl))) rfl (hb hby dX_19) kont) ?_
      refine own_st (S' := s₁.setTop (mkF m 23 #[.val (.int p1), .val (.int p2), .val (.long p3), .second, .val (.long p4), .second, .val (.int (p1 - p2)), .unset, .unset] [(.long (p4 &&& (4294967295 : Int64)))])) (fun _ kont => XT.land X0.here hx rfl (hb hby dX_22) rfl kont) ?_
      refine own_st (S' := s₁.setTop (mkF m 25 #[.val (.int p1), .val (.int p2), .val (.long p3), .second, .val (.long p4), .second, .val (.int (p1 - p2)), .val (.long (p4 &&& (4294967295 : Int64))), .second] [])) (fun _ kont => XT.lstore X0.here hx rfl (hb hby dX_23) rfl (l' := #[.val (.int p1), .val (.int p2), .val (.long p3), .second, .val (.long p4), .second, .val (.int (p1 - p2)), .val (.long (p4 &&& (4294967295 : Int64))), .second]) rfl kont) ?_
      refine own_st (S' := s₁.setTop (mkF m 27 #[.val (.int p1), .val (.int p2), .val (.long p3), .second, .val (.long p4), .second, .val (.int (p1 - p2)), .val (.long (p4 &&& (4294967295 : Int64))), .second] [(.int (p1 - p2))])) (fun _ kont => XS.iload X0.here hx rfl (hb hby dX_25) rfl kont) ?_
      by_cases hc27 : Int32.toInt (p1 - p2) ≠ 0
      · skip
        refine own_st (S' := s₁.setTop (mkF m 39 #[.val (.int p1), .val (.int p2), .val (.long p3), .second, .val (.long p4), .second, .val (.int (p1 - p2)), .val (.long (p4 &&& (4294967295 : Int64))), .second] [])) (fun _ kont => XS.ifYes X0.here hx rfl (pc0 := 27) (pc' := 39) rfl (hb hby dX_27) rfl ((own_z_ne _).trans (decide_eq_true (p := Int32.toInt (p1 - p2) ≠ 0) (hc27))) (by decide) (by decide) kont) ?_
        refine own_st (S' := s₁.setTop (mkF m 41 #[.val (.int p1), .val (.int p2), .val (.long p3), .second, .val (.long p4), .second, .val (.int (p1 - p2)), .val (.long (p4 &&& (4294967295 : Int64))), .second] [(.int (p1 - p2))])) (fun _ kont => XS.iload X0.here hx rfl (hb hby dX_39) rfl kont) ?_
        refine own_st (S' := s₁.setTop (mkF m 42 #[.val (.int p1), .val (.int p2), .val (.long p3), .second, .val (.long p4), .second, .val (.int (p1 - p2)), .val (.long (p4 &&& (4294967295 : Int64))), .second] [(.int (1 : Int32)), (.int (p1 - p2))])) (fun _ kont => XS.iconst X0.here hx rfl (hb hby dX_41) kont) ?_
        by_cases hc42 : Int32.toInt (p1 - p2) ≠ 1
        · skip
          refine own_st (S' := s₁.setTop (mkF m 58 #[.val (.int p1), .val (.int p2), .val (.long p3), .second, .val (.long p4), .second, .val (.int (p1 - p2)), .val (.long (p4 &&& (4294967295 : Int64))), .second] [])) (fun _ kont => XS.icmpYes X0.here hx rfl (pc0 := 42) (pc' := 58) rfl (hb hby dX_42) rfl ((own_i_ne _ _).trans (decide_eq_true (p := Int32.toInt (p1 - p2) ≠ 1) (hc42))) (by decide) (by decide) kont) ?_
          refine own_st (S' := s₁.setTop (mkF m 60 #[.val (.int p1), .val (.int p2), .val (.long p3), .second, .val (.long p4), .second, .val (.int (p1 - p2)), .val (.long (p4 &&& (4294967295 : Int64))), .second] [(.int (p1 - p2))])) (fun _ kont => XS.iload X0.here hx rfl (hb hby dX_58) rfl kont) ?_
          refine own_st (S' := s₁.setTop (mkF m 61 #[.val (.int p1), .val (.int p2), .val (.long p3), .second, .val (.long p4), .second, .val (.int (p1 - p2)), .val (.long (p4 &&& (4294967295 : Int64))), .second] [(.int (2 : Int32)), (.int (p1 - p2))])) (fun _ kont => XS.iconst X0.here hx rfl (hb hby dX_60) kont) ?_
          by_cases hc61 : Int32.toInt (p1 - p2) ≠ 2
          · skip
            refine own_st (S' := s₁.setTop (mkF m 77 #[.val (.int p1), .val (.int p2), .val (.long p3), .second, .val (.long p4), .second, .val (.int (p1 - p2)), .val (.long (p4 &&& (4294967295 : Int64))), .second] [])) (fun _ kont => XS.icmpYes X0.here hx rfl (pc0 := 61) (pc' := 77) rfl (hb hby dX_61) rfl ((own_i_ne _ _).trans (decide_eq_true (p := Int32.toInt (p1 - p2) ≠ 2) (hc61))) (by decide) (by decide) kont) ?_
            refine own_st (S' := s₁.setTop (mkF m 79 #[.val (.int p1), .val (.int p2), .val (.long p3), .second, .val (.long p4), .second, .val (.int (p1 - p2)), .val (.long (p4 &&& (4294967295 : Int64))), .second] [(.long (p4 &&& (4294967295 : Int64)))])) (fun _ kont => XT.lload X0.here hx rfl (hb hby dX_77) rfl kont) ?_
            refine own_st (S' := s₁.setTop (mkF m 82 #[.val (.int p1), .val (.int p2), .val (.long p3), .second, .val (.long p4), .second, .val (.int (p1 - p2)), .val (.long (p4 &&& (4294967295 : Int64))), .second] [(.long (16777216 : Int64)), (.long (p4 &&& (4294967295 : Int64)))])) (fun _ kont => X0.ldc2J hx hown (mvT hZ (hw _ (List.mem_of_getElem? (i := 64) rfl))) rfl (hb hby dX_79) kont) ?_
            refine own_st (S' := s₁.setTop (mkF m 83 #[.val (.int p1), .val (.int p2), .val (.long p3), .second, .val (.long p4), .second, .val (.int (p1 - p2)), .val (.long (p4 &&& (4294967295 : Int64))), .second] [(.long ((p4 &&& (4294967295 : Int64)) / (16777216 : Int64)))])) (fun _ kont => XT.ldiv X0.here hx rfl (hb hby dX_82) rfl (by decide) kont) ?_
            refine own_st (S' := s₁.setTop (mkF m 86 #[.val (.int p1), .val (.int p2), .val (.long p3), .second, .val (.long p4), .second, .val (.int (p1 - p2)), .val (.long (p4 &&& (4294967295 : Int64))), .second] [(.long (255 : Int64)), (.long ((p4 &&& (4294967295 : Int64)) / (16777216 : Int64)))])) (fun _ kont => X0.ldc2J hx hown (mvT hZ (hw _ (List.mem_of_getElem? (i := 61) rfl))) rfl (hb hby dX_83) kont) ?_
            refine own_st (S' := s₁.setTop (mkF m 87 #[.val (.int p1), .val (.int p2), .val (.long p3), .second, .val (.long p4), .second, .val (.int (p1 - p2)), .val (.long (p4 &&& (4294967295 : Int64))), .second] [(.long (((p4 &&& (4294967295 : Int64)) / (16777216 : Int64)) &&& (255 : Int64)))])) (fun _ kont => XT.land X0.here hx rfl (hb hby dX_86) rfl kont) ?_
            refine own_st (S' := s₁.setTop (mkF m 88 #[.val (.int p1), .val (.int p2), .val (.long p3), .second, .val (.long p4), .second, .val (.int (p1 - p2)), .val (.long (p4 &&& (4294967295 : Int64))), .second] [(.int (Int64.toInt32 (((p4 &&& (4294967295 : Int64)) / (16777216 : Int64)) &&& (255 : Int64))))])) (fun _ kont => XT.l2i X0.here hx rfl (hb hby dX_87) rfl kont) ?_
            refine own_st (S' := s₁.setTop (mkF m 89 #[.val (.int p1), .val (.int p2), .val (.long p3), .second, .val (.long p4), .second, .val (.int (p1 - p2)), .val (.long (p4 &&& (4294967295 : Int64))), .second] [(.int (Int8.toInt32 (Int32.toInt8 (Int64.toInt32 (((p4 &&& (4294967295 : Int64)) / (16777216 : Int64)) &&& (255 : Int64))))))])) (fun _ kont => XT.i2b X0.here hx rfl (hb hby dX_88) rfl kont) ?_
            refine own_end X0 (Q := (QX Z p1 p2 p3 p4 h0 n0)) (some (.int (Int8.toInt32 (Int32.toInt8 (Int64.toInt32 (((p4 &&& (4294967295 : Int64)) / (16777216 : Int64)) &&& (255 : Int64))))))) Bd.notSynchronized (fun h => by rw [Bd.returns] at h; cases h) (fun fs hr => retN X0 hx (t := .byte) Bd.returns (by simp) (hb hby dX_89) (by rw [own_nB]; exact hr)) ?_ (by decide) (by decide)
            rw [e0]
            exact ⟨congrArg (fun z => some (Value.int z)) (by unfold own_exp; (repeat' split) <;> first | rfl | (exfalso; omega)), N0, rfl⟩
          · skip
            refine own_st (S' := s₁.setTop (mkF m 64 #[.val (.int p1), .val (.int p2), .val (.long p3), .second, .val (.long p4), .second, .val (.int (p1 - p2)), .val (.long (p4 &&& (4294967295 : Int64))), .second] [])) (fun _ kont => XS.icmpNo X0.here hx rfl (hb hby dX_61) rfl ((own_i_ne _ _).trans (decide_eq_false (p := Int32.toInt (p1 - p2) ≠ 2) (hc61))) kont) ?_
            refine own_st (S' := s₁.setTop (mkF m 66 #[.val (.int p1), .val (.int p2), .val (.long p3), .second, .val (.long p4), .second, .val (.int (p1 - p2)), .val (.long (p4 &&& (4294967295 : Int64))), .second] [(.long (p4 &&& (4294967295 : Int64)))])) (fun _ kont => XT.lload X0.here hx rfl (hb hby dX_64) rfl kont) ?_
            refine own_st (S' := s₁.setTop (mkF m 69 #[.val (.int p1), .val (.int p2), .val (.long p3), .second, .val (.long p4), .second, .val (.int (p1 - p2)), .val (.long (p4 &&& (4294967295 : Int64))), .second] [(.long (65536 : Int64)), (.long (p4 &&& (4294967295 : Int64)))])) (fun _ kont => X0.ldc2J hx hown (mvT hZ (hw _ (List.mem_of_getElem? (i := 63) rfl))) rfl (hb hby dX_66) kont) ?_
            refine own_st (S' := s₁.setTop (mkF m 70 #[.val (.int p1), .val (.int p2), .val (.long p3), .second, .val (.long p4), .second, .val (.int (p1 - p2)), .val (.long (p4 &&& (4294967295 : Int64))), .second] [(.long ((p4 &&& (4294967295 : Int64)) / (65536 : Int64)))])) (fun _ kont => XT.ldiv X0.here hx rfl (hb hby dX_69) rfl (by decide) kont) ?_
            refine own_st (S' := s₁.setTop (mkF m 73 #[.val (.int p1), .val (.int p2), .val (.long p3), .second, .val (.long p4), .second, .val (.int (p1 - p2)), .val (.long (p4 &&& (4294967295 : Int64))), .second] [(.long (255 : Int64)), (.long ((p4 &&& (4294967295 : Int64)) / (65536 : Int64)))])) (fun _ kont => X0.ldc2J hx hown (mvT hZ (hw _ (List.mem_of_getElem? (i := 61) rfl))) rfl (hb hby dX_70) kont) ?_
            refine own_st (S' := s₁.setTop (mkF m 74 #[.val (.int p1), .val (.int p2), .val (.long p3), .second, .val (.long p4), .second, .val (.int (p1 - p2)), .val (.long (p4 &&& (4294967295 : Int64))), .second] [(.long (((p4 &&& (4294967295 : Int64)) / (65536 : Int64)) &&& (255 : Int64)))])) (fun _ kont => XT.land X0.here hx rfl (hb hby dX_73) rfl kont) ?_
            refine own_st (S' := s₁.setTop (mkF m 75 #[.val (.int p1), .val (.int p2), .val (.long p3), .second, .val (.long p4), .second, .val (.int (p1 - p2)), .val (.long (p4 &&& (4294967295 : Int64))), .second] [(.int (Int64.toInt32 (((p4 &&& (4294967295 : Int64)) / (65536 : Int64)) &&& (255 : Int64))))])) (fun _ kont => XT.l2i X0.here hx rfl (hb hby dX_74) rfl kont) ?_
            refine own_st (S' := s₁.setTop (mkF m 76 #[.val (.int p1), .val (.int p2), .val (.long p3), .second, .val (.long p4), .second, .val (.int (p1 - p2)), .val (.long (p4 &&& (4294967295 : Int64))), .second] [(.int (Int8.toInt32 (Int32.toInt8 (Int64.toInt32 (((p4 &&& (4294967295 : Int64)) / (65536 : Int64)) &&& (255 : Int64))))))])) (fun _ kont => XT.i2b X0.here hx rfl (hb hby dX_75) rfl kont) ?_
            refine own_end X0 (Q := (QX Z p1 p2 p3 p4 h0 n0)) (some (.int (Int8.toInt32 (Int32.toInt8 (Int64.toInt32 (((p4 &&& (4294967295 : Int64)) / (65536 : Int64)) &&& (255 : Int64))))))) Bd.notSynchronized (fun h => by rw [Bd.returns] at h; cases h) (fun fs hr => retN X0 hx (t := .byte) Bd.returns (by simp) (hb hby dX_76) (by rw [own_nB]; exact hr)) ?_ (by decide) (by decide)
            rw [e0]
            exact ⟨congrArg (fun z => some (Value.int z)) (by unfold own_exp; (repeat' split) <;> first | rfl | (exfalso; omega)), N0, rfl⟩
        · skip
          refine own_st (S' := s₁.setTop (mkF m 45 #[.val (.int p1), .val (.int p2), .val (.long p3), .second, .val (.long p4), .second, .val (.int (p1 - p2)), .val (.long (p4 &&& (4294967295 : Int64))), .second] [])) (fun _ kont => XS.icmpNo X0.here hx rfl (hb hby dX_42) rfl ((own_i_ne _ _).trans (decide_eq_false (p := Int32.toInt (p1 - p2) ≠ 1) (hc42))) kont) ?_
          refine own_st (S' := s₁.setTop (mkF m 47 #[.val (.int p1), .val (.int p2), .val (.long p3), .second, .val (.long p4), .second, .val (.int (p1 - p2)), .val (.long (p4 &&& (4294967295 : Int64))), .second] [(.long (p4 &&& (4294967295 : Int64)))])) (fun _ kont => XT.lload X0.here hx rfl (hb hby dX_45) rfl kont) ?_
          refine own_st (S' := s₁.setTop (mkF m 50 #[.val (.int p1), .val (.int p2), .val (.long p3), .second, .val (.long p4), .second, .val (.int (p1 - p2)), .val (.long (p4 &&& (4294967295 : Int64))), .second] [(.long (256 : Int64)), (.long (p4 &&& (4294967295 : Int64)))])) (fun _ kont => X0.ldc2J hx hown (mvT hZ (hw _ (List.mem_of_getElem? (i := 62) rfl))) rfl (hb hby dX_47) kont) ?_
          refine own_st (S' := s₁.setTop (mkF m 51 #[.val (.int p1), .val (.int p2), .val (.long p3), .second, .val (.long p4), .second, .val (.int (p1 - p2)), .val (.long (p4 &&& (4294967295 : Int64))), .second] [(.long ((p4 &&& (4294967295 : Int64)) / (256 : Int64)))])) (fun _ kont => XT.ldiv X0.here hx rfl (hb hby dX_50) rfl (by decide) kont) ?_
          refine own_st (S' := s₁.setTop (mkF m 54 #[.val (.int p1), .val (.int p2), .val (.long p3), .second, .val (.long p4), .second, .val (.int (p1 - p2)), .val (.long (p4 &&& (4294967295 : Int64))), .second] [(.long (255 : Int64)), (.long ((p4 &&& (4294967295 : Int64)) / (256 : Int64)))])) (fun _ kont => X0.ldc2J hx hown (mvT hZ (hw _ (List.mem_of_getElem? (i := 61) rfl))) rfl (hb hby dX_51) kont) ?_
          refine own_st (S' := s₁.setTop (mkF m 55 #[.val (.int p1), .val (.int p2), .val (.long p3), .second, .val (.long p4), .second, .val (.int (p1 - p2)), .val (.long (p4 &&& (4294967295 : Int64))), .second] [(.long (((p4 &&& (4294967295 : Int64)) / (256 : Int64)) &&& (255 : Int64)))])) (fun _ kont => XT.land X0.here hx rfl (hb hby dX_54) rfl kont) ?_
          refine own_st (S' := s₁.setTop (mkF m 56 #[.val (.int p1), .val (.int p2), .val (.long p3), .second, .val (.long p4), .second, .val (.int (p1 - p2)), .val (.long (p4 &&& (4294967295 : Int64))), .second] [(.int (Int64.toInt32 (((p4 &&& (4294967295 : Int64)) / (256 : Int64)) &&& (255 : Int64))))])) (fun _ kont => XT.l2i X0.here hx rfl (hb hby dX_55) rfl kont) ?_
          refine own_st (S' := s₁.setTop (mkF m 57 #[.val (.int p1), .val (.int p2), .val (.long p3), .second, .val (.long p4), .second, .val (.int (p1 - p2)), .val (.long (p4 &&& (4294967295 : Int64))), .second] [(.int (Int8.toInt32 (Int32.toInt8 (Int64.toInt32 (((p4 &&& (4294967295 : Int64)) / (256 : Int64)) &&& (255 : Int64))))))])) (fun _ kont => XT.i2b X0.here hx rfl (hb hby dX_56) rfl kont) ?_
          refine own_end X0 (Q := (QX Z p1 p2 p3 p4 h0 n0)) (some (.int (Int8.toInt32 (Int32.toInt8 (Int64.toInt32 (((p4 &&& (4294967295 : Int64)) / (256 : Int64)) &&& (255 : Int64))))))) Bd.notSynchronized (fun h => by rw [Bd.returns] at h; cases h) (fun fs hr => retN X0 hx (t := .byte) Bd.returns (by simp) (hb hby dX_57) (by rw [own_nB]; exact hr)) ?_ (by decide) (by decide)
          rw [e0]
          exact ⟨congrArg (fun z => some (Value.int z)) (by unfold own_exp; (repeat' split) <;> first | rfl | (exfalso; omega)), N0, rfl⟩
      · skip
        refine own_st (S' := s₁.setTop (mkF m 30 #[.val (.int p1), .val (.int p2), .val (.long p3), .second, .val (.long p4), .second, .val (.int (p1 - p2)), .val (.long (p4 &&& (4294967295 : Int64))), .second] [])) (fun _ kont => XS.ifNo X0.here hx rfl (hb hby dX_27) rfl ((own_z_ne _).trans (decide_eq_false (p := Int32.toInt (p1 - p2) ≠ 0) (hc27))) kont) ?_
        refine own_st (S' := s₁.setTop (mkF m 32 #[.val (.int p1), .val (.int p2), .val (.long p3), .second, .val (.long p4), .second, .val (.int (p1 - p2)), .val (.long (p4 &&& (4294967295 : Int64))), .second] [(.long (p4 &&& (4294967295 : Int64)))])) (fun _ kont => XT.lload X0.here hx rfl (hb hby dX_30) rfl kont) ?_
        refine own_st (S' := s₁.setTop (mkF m 35 #[.val (.int p1), .val (.int p2), .val (.long p3), .second, .val (.long p4), .second, .val (.int (p1 - p2)), .val (.long (p4 &&& (4294967295 : Int64))), .second] [(.long (255 : Int64)), (.long (p4 &&& (4294967295 : Int64)))])) (fun _ kont => X0.ldc2J hx hown (mvT hZ (hw _ (List.mem_of_getElem? (i := 61) rfl))) rfl (hb hby dX_32) kont) ?_
        refine own_st (S' := s₁.setTop (mkF m 36 #[.val (.int p1), .val (.int p2), .val (.long p3), .second, .val (.long p4), .second, .val (.int (p1 - p2)), .val (.long (p4 &&& (4294967295 : Int64))), .second] [(.long ((p4 &&& (4294967295 : Int64)) &&& (255 : Int64)))])) (fun _ kont => XT.land X0.here hx rfl (hb hby dX_35) rfl kont) ?_
        refine own_st (S' := s₁.setTop (mkF m 37 #[.val (.int p1), .val (.int p2), .val (.long p3), .second, .val (.long p4), .second, .val (.int (p1 - p2)), .val (.long (p4 &&& (4294967295 : Int64))), .second] [(.int (Int64.toInt32 ((p4 &&& (4294967295 : Int64)) &&& (255 : Int64))))])) (fun _ kont => XT.l2i X0.here hx rfl (hb hby dX_36) rfl kont) ?_
        refine own_st (S' := s₁.setTop (mkF m 38 #[.val (.int p1), .val (.int p2), .val (.long p3), .second, .val (.long p4), .second, .val (.int (p1 - p2)), .val (.long (p4 &&& (4294967295 : Int64))), .second] [(.int (Int8.toInt32 (Int32.toInt8 (Int64.toInt32 ((p4 &&& (4294967295 : Int64)) &&& (255 : Int64))))))])) (fun _ kont => XT.i2b X0.here hx rfl (hb hby dX_37) rfl kont) ?_
        refine own_end X0 (Q := (QX Z p1 p2 p3 p4 h0 n0)) (some (.int (Int8.toInt32 (Int32.toInt8 (Int64.toInt32 ((p4 &&& (4294967295 : Int64)) &&& (255 : Int64))))))) Bd.notSynchronized (fun h => by rw [Bd.returns] at h; cases h) (fun fs hr => retN X0 hx (t := .byte) Bd.returns (by simp) (hb hby dX_38) (by rw [own_nB]; exact hr)) ?_ (by decide) (by decide)
        rw [e0]
        exact ⟨congrArg (fun z => some (Value.int z)) (by unfold own_exp; (repeat' split) <;> first | rfl | (exfalso; omega)), N0, rfl⟩
theorem pn_0 : plainName "com/example/dexwright/dexwright/dex/DexOutputUintAtPinLaw" = true := by first | (simp [plainName, overriddenIn]; done) | decide +kernel
theorem ef_0 (m : MethodId) (p1 : Int64) (p2 : Int32) (p3 : Int64) : entryFrame m #[(.long p1), (.int p2), (.long p3)] maxLocals = mkF m 0 #[.val (.long p1), .second, .val (.int p2), .val (.long p3), .second, .unset, .unset, .unset] [] := by first | (simp [entryFrame, mkF, argsToLocals, Value.category, maxLocals]; done) | rfl
def Q0 (Z : State) (p1 : Int64) (p2 : Int32) (p3 : Int64) (h0 : Heap) (n0 : Nat) (v : Option Value) (h : Heap) (L : List Loc) : Prop := v = some (.int 1) ∧ Fr n0 L
set_option maxRecDepth 65536 in
set_option maxHeartbeats 40000000 in
theorem rm0 (l : Launch) (Z : State) (a0 : Array Value) (hw : ∀ d ∈ tables_1, d.before a0 Z = true) (ws : List Jvm.Cond) (p1 : Int64) (p2 : Int32) (p3 : Int64) (h0 : Heap) (n0 : Nat) (Z0 : n0 ≤ h0.size) :
    MetFree l x (head1 (Jvm.Cond.code x code maxLocals ret :: ws) room_1) (fun a U => a = #[(.long p1), (.int p2), (.long p3)] ∧ Z.Warmed39 U.vm ∧ U.heap = h0) (fun _ _ _ _ _ => True) (fun _ U o U' => ∃ v L, o = .returned v ∧ Q0 Z p1 p2 p3 h0 n0 v U'.heap L ∧ FrameEnd U o U' L room_1.cells room_1.slots) := by
  refine MetFree.of_bodySF (plainFor_of_name pn_0) hisR ?_
  intro p e s m args below meth c s₁ Bd hml0 hP hK
  obtain ⟨rfl, hZ, hh⟩ := hP
  have hx := Bd.exec
  have hby := Bd.bytes
  have hml : c.maxLocals = 8 := hml0
  have hown : s.vm.findClass "com/example/dexwright/dexwright/dex/DexOutputUintAtPinLaw" = some m.cls := findClass_of_methodNamed Bd.named
  have hnm := (name_of_methodNamed Bd.named Bd.method).1
  have X0 : Stand p l e room_1 s m #[(.long p1), (.int p2), (.long p3)] below meth c s₁ [] 0 0 := Stand.of_body Bd
  have e0 : s₁.heap = h0 := by rw [← hh, Bd.state]; rfl
  have N0 := Fr.nil n0
  show own_Go p.tables e below (fun t o => ∃ v L, o = .returned v ∧ Q0 Z p1 p2 p3 h0 n0 v t.heap L ∧ FrameEnd s o t L room_1.cells room_1.slots) (s₁.setTop (entryFrame m #[(.long p1), (.int p2), (.long p3)] maxLocals))
  rw [ef_0]
  show own_Go p.tables e below _ (s₁.setTop (mkF m 0 #[.val (.long p1), .second, .val (.int p2), .val (.long p3), .second, .unset, .unset, .unset] []))
  refine own_st (S' := s₁.setTop (mkF m 1 #[.val (.long p1), .second, .val (.int p2), .val (.long p3), .second, .unset, .unset, .unset] [(.int p2)])) (fun _ kont => XS.iloadN X0.here hx rfl (hb hby at_0) rfl kont) ?_
  refine own_st (S' := s₁.setTop (mkF m 3 #[.val (.long p1), .second, .val (.int p2), .val (.long p3), .second, .unset, .unset, .unset] [(.int (2147483647 : Int32)), (.int p2)])) (fun _ kont => X0.ldcI hx hown (mvT hZ (hw _ (List.mem_of_getElem? (i := 0) rfl))) rfl (hb hby at_1) kont) ?_
  refine own_st (S' := s₁.setTop (mkF m 4 #[.val (.long p1), .second, .val (.int p2), .val (.long p3), .second, .unset, .unset, .unset] [(.int (p2 &&& (2147483647 : Int32)))])) (fun _ kont => XS.iand X0.here hx rfl (hb hby at_3) rfl kont) ?_
  obtain ⟨q, hv_q⟩ : ∃ z : Int32, z = (p2 &&& (2147483647 : Int32)) := ⟨_, rfl⟩
  refine own_cv (congrArg (fun z => s₁.setTop (mkF m 4 #[.val (.long p1), .second, .val (.int p2), .val (.long p3), .second, .unset, .unset, .unset] [(.int z)])) hv_q.symm) ?_
  show own_Go p.tables e below _ (s₁.setTop (mkF m 4 #[.val (.long p1), .second, .val (.int p2), .val (.long p3), .second, .unset, .unset, .unset] [(.int q)]))
  have hq := Jvm.Kit.i32_mask p2 2147483647 (k := 31) (by decide) (by decide)
  rw [← hv_q] at hq
  refine own_st (S' := s₁.setTop (mkF m 5 #[.val (.long p1), .second, .val (.int p2), .val (.long p3), .second, .unset, .unset, .unset] [(.int (5 : Int32)), (.int q)])) (fun _ kont => XS.iconst X0.here hx rfl (hb hby at_4) kont) ?_
  refine own_st (S' := s₁.setTop (mkF m 6 #[.val (.long p1), .second, .val (.int p2), .val (.long p3), .second, .unset, .unset, .unset] [(.int (q % (5 : Int32)))])) (fun _ kont => iremM X0 hx rfl (hb hby at_5) rfl (by decide) kont) ?_
  obtain ⟨o, hv_o⟩ : ∃ z : Int32, z = (q % (5 : Int32)) := ⟨_, rfl⟩
  refine own_cv (congrArg (fun z => s₁.setTop (mkF m 6 #[.val (.long p1), .second, .val (.int p2), .val (.long p3), .second, .unset, .unset, .unset] [(.int z)])) hv_o.symm) ?_
  show own_Go p.tables e below _ (s₁.setTop (mkF m 6 #[.val (.long p1), .second, .val (.int p2), .val (.long p3), .second, .unset, .unset, .unset] [(.int o)]))
  have ho : Int32.toInt o = Int32.toInt q % 5 := by rw [hv_o]; exact Jvm.Kit.i32_rem_nonneg (x := q) (y := 5) (by omega)
  have ho0 : 0 ≤ Int32.toInt o := by omega
  have ho4 : Int32.toInt o ≤ 4 := by omega
  refine own_st (S' := s₁.setTop (mkF m 8 #[.val (.long p1), .second, .val (.int p2), .val (.long p3), .second, .val (.int o), .unset, .unset] [])) (fun _ kont => XS.istore X0.here hx rfl (hb hby at_6) rfl (l' := #[.val (.long p1), .second, .val (.int p2), .val (.long p3), .second, .val (.int o), .unset, .unset]) rfl kont) ?_
  obtain ⟨T101, h101, X101, e101, E101, A101, D101, -, st101⟩ := newO X0 hx hZ hown (hw _ (List.mem_of_getElem? (i := 1) rfl)) (hw _ (List.mem_of_getElem? (i := 2) rfl)) (hw _ (List.mem_of_getElem? (i := 3) rfl)) e0 (g := (mkF m 8 #[.val (.long p1), .second, .val (.int p2), .val (.long p3), .second, .val (.int o), .unset, .unset] [])) rfl (hb hby at_8) (by decide) (by decide)
  obtain ⟨a101, ga101⟩ : ∃ z, z = h0.size := ⟨_, rfl⟩
  rw [← ga101] at A101 D101 st101
  refine own_st (S' := T101.setTop (mkF m 11 #[.val (.long p1), .second, .val (.int p2), .val (.long p3), .second, .val (.int o), .unset, .unset] [(.ref a101)])) st101 ?_
  have Fb0 : (Fld Z h101 a101 "com/example/dexwright/dexwright/dex/DexOutput" "bytes" "[B" .null) := D101 (Or.inl (hw _ (List.mem_of_getElem? (i := 12) rfl))) (ty := .array .byte) (by decide)
  have Fs0 : (Fld Z h101 a101 "com/example/dexwright/dexwright/dex/DexOutput" "size" "I" (.int 0)) := D101 (Or.inl (hw _ (List.mem_of_getElem? (i := 28) rfl))) (ty := .int) (by decide)
  have Zs : n0 ≤ h101.size := Nat.le_trans Z0 E101.1
  have ge : n0 ≤ a101 := by rw [ga101]; exact Z0
  refine own_st (S' := T101.setTop (mkF m 12 #[.val (.long p1), .second, .val (.int p2), .val (.long p3), .second, .val (.int o), .unset, .unset] [(.ref a101), (.ref a101)])) (fun _ kont => XS.dup X101.here hx rfl (hb hby at_11) rfl rfl kont) ?_
  obtain ⟨_, _, ⟨T102, L102, k102, n102⟩, -, X102, ⟨Lc102, hQ102, l102, y102, z102⟩, st102⟩ := X101.specialBack hx (y := (⟨"com/example/dexwright/dexwright/dex/DexOutput", "<init>", "()V"⟩ : MethodName)) rfl hown (mvT hZ (hw _ (List.mem_of_getElem? (i := 4) rfl))) (mvT hZ (hw _ (List.mem_of_getElem? (i := 5) rfl))) (mvT hZ (hw _ (List.mem_of_getElem? (i := 6) rfl))) (by decide) (backOf (W := 1) (rmI l Z a0 hw [] a101 h101 n0 Zs Fb0 Fs0 A101 ge) hZ (hw _ (List.mem_of_getElem? (i := 6) rfl)) (hw _ (List.mem_of_getElem? (i := 3) rfl)) (by decide) (by decide)) (g := (mkF m 12 #[.val (.long p1), .second, .val (.int p2), .val (.long p3), .second, .val (.int o), .unset, .unset] [(.ref a101), (.ref a101)])) rfl (by rw [hml]; rfl) (Steps.refl _) (a := a101) (argsL := []) (rest := [(.ref a101)]) (lenOf pd_I rfl) rfl (by show 2 * 0 + _ ≤ _; exact Nat.le_of_eq rfl) (hb hby at_12) (fun _ _ => ⟨rfl, e101, (by decide : 1 + 1 ≤ _), (by decide : 2 + 64 ≤ _)⟩)
  dsimp only [Pt.U, Pt.locs, Pt.cells, Pt.slots] at X102 l102 y102 z102 st102 hQ102
  subst l102 y102 z102
  obtain ⟨rfl, N102, K102, Ex102, Fs102, b1, gb1, Fb102, V102⟩ := hQ102
  refine own_tr (S' := T102.setTop (mkF m 15 #[.val (.long p1), .second, .val (.int p2), .val (.long p3), .second, .val (.int o), .unset, .unset] [(.ref a101)])) st102 ?_
  have Na := Fr.app N0 N102
  have Za := Nat.le_trans Zs K102.1
  have gb : n0 ≤ b1 := Nat.le_trans Zs gb1
  have ne : a101 ≠ b1 := Nat.ne_of_lt (Nat.lt_of_lt_of_le A101.lt gb1)
  refine own_st (S' := T102.setTop (mkF m 17 #[.val (.long p1), .second, .val (.int p2), .val (.long p3), .second, .val (.int o), .val (.ref a101), .unset] [])) (fun _ kont => XS.astore X102.here hx rfl (hb hby at_15) rfl rfl (l' := #[.val (.long p1), .second, .val (.int p2), .val (.long p3), .second, .val (.int o), .val (.ref a101), .unset]) rfl kont) ?_
  refine own_st (S' := T102.setTop (mkF m 19 #[.val (.long p1), .second, .val (.int p2), .val (.long p3), .second, .val (.int o), .val (.ref a101), .unset] [(.ref a101)])) (fun _ kont => XS.aload X102.here hx rfl (hb hby at_17) rfl rfl kont) ?_
  refine own_st (S' := T102.setTop (mkF m 20 #[.val (.long p1), .second, .val (.int p2), .val (.long p3), .second, .val (.int o), .val (.ref a101), .unset] [(.long p1), (.ref a101)])) (fun _ kont => XT.lloadN X102.here hx rfl (hb hby at_19) rfl kont) ?_
  refine own_st (S' := T102.setTop (mkF m 22 #[.val (.long p1), .second, .val (.int p2), .val (.long p3), .second, .val (.int o), .val (.ref a101), .unset] [(.int (8 : Int32)), (.long p1), (.ref a101)])) (fun _ kont => XS.bipush X102.here hx rfl (hb hby at_20) kont) ?_
  obtain ⟨cq103, kq103, q103a, q103b, q103c⟩ := isOf hZ rfl Ex102
  obtain ⟨_, _, ⟨T103, L103, k103, n103⟩, -, X103, ⟨Lc103, hQ103, l103, y103, z103⟩, st103⟩ := X102.virtualBack hx (y := (⟨"com/example/dexwright/dexwright/dex/DexOutput", "number", "(JI)V"⟩ : MethodName)) (z := (⟨"com/example/dexwright/dexwright/dex/DexOutput", "number", "(JI)V"⟩ : MethodName)) hown (mvT hZ (hw _ (List.mem_of_getElem? (i := 13) rfl))) (mvT hZ (hw _ (List.mem_of_getElem? (i := 14) rfl))) (notFace_of_selects (args := #[]) (mvT hZ (hw _ (List.mem_of_getElem? (i := 16) rfl)))) (mvT hZ (hw _ (List.mem_of_getElem? (i := 16) rfl))) (mvT hZ (hw _ (List.mem_of_getElem? (i := 15) rfl))) (by decide) (backOf (W := 0) (rmU l Z a0 hw [] a101 p1 (8 : Int32) b1 T102.heap n0 Za Fb102 Fs102 V102 Ex102 ne ge gb rfl) hZ (hw _ (List.mem_of_getElem? (i := 17) rfl)) (hw _ (List.mem_of_getElem? (i := 3) rfl)) (by decide) (by decide)) q103a q103c (g := (mkF m 22 #[.val (.long p1), .second, .val (.int p2), .val (.long p3), .second, .val (.int o), .val (.ref a101), .unset] [(.int (8 : Int32)), (.long p1), (.ref a101)])) rfl (by rw [hml]; rfl) (Steps.refl _) (argsL := [(.long p1), (.int (8 : Int32))]) (rest := []) (lenOf pd_U rfl) rfl (by show 2 * 0 + _ ≤ _; exact Nat.le_of_eq rfl) (hb hby at_22) (fun _ _ => ⟨rfl, rfl, (by decide : 1 + 1 + 0 ≤ _), (by decide : 2 + 64 + 0 ≤ _)⟩)
  dsimp only [Pt.U, Pt.locs, Pt.cells, Pt.slots] at X103 l103 y103 z103 st103 hQ103
  subst l103 y103 z103
  obtain ⟨rfl, N103, K103, Ex103, Fb103, Fs103, V103⟩ := hQ103
  refine own_tr (S' := T103.setTop (mkF m 25 #[.val (.long p1), .second, .val (.int p2), .val (.long p3), .second, .val (.int o), .val (.ref a101), .unset] [])) st103 ?_
  have Nb := Fr.app Na N103
  have Zb := Nat.le_trans Za K103.1
  refine own_st (S' := T103.setTop (mkF m 27 #[.val (.long p1), .second, .val (.int p2), .val (.long p3), .second, .val (.int o), .val (.ref a101), .unset] [(.ref a101)])) (fun _ kont => XS.aload X103.here hx rfl (hb hby at_25) rfl rfl kont) ?_
  refine own_st (S' := T103.setTop (mkF m 29 #[.val (.long p1), .second, .val (.int p2), .val (.long p3), .second, .val (.int o), .val (.ref a101), .unset] [(.int o), (.ref a101)])) (fun _ kont => XS.iload X103.here hx rfl (hb hby at_27) rfl kont) ?_
  refine own_st (S' := T103.setTop (mkF m 30 #[.val (.long p1), .second, .val (.int p2), .val (.long p3), .second, .val (.int o), .val (.ref a101), .unset] [(.long p3), (.int o), (.ref a101)])) (fun _ kont => XT.lloadN X103.here hx rfl (hb hby at_29) rfl kont) ?_
  obtain ⟨cq104, kq104, q104a, q104b, q104c⟩ := isOf hZ rfl Ex103
  obtain ⟨_, _, ⟨T104, L104, k104, n104⟩, -, X104, ⟨Lc104, hQ104, l104, y104, z104⟩, st104⟩ := X103.virtualBack hx (y := (⟨"com/example/dexwright/dexwright/dex/DexOutput", "uintAt", "(IJ)V"⟩ : MethodName)) (z := (⟨"com/example/dexwright/dexwright/dex/DexOutput", "uintAt", "(IJ)V"⟩ : MethodName)) hown (mvT hZ (hw _ (List.mem_of_getElem? (i := 29) rfl))) (mvT hZ (hw _ (List.mem_of_getElem? (i := 30) rfl))) (notFace_of_selects (args := #[]) (mvT hZ (hw _ (List.mem_of_getElem? (i := 32) rfl)))) (mvT hZ (hw _ (List.mem_of_getElem? (i := 32) rfl))) (mvT hZ (hw _ (List.mem_of_getElem? (i := 31) rfl))) (by decide) (backOf (W := 0) (rmA l Z a0 hw [] a101 o p3 b1 (own_nm p1 8) T103.heap n0 Zb Fb103 V103 ne gb ho0 ho4) hZ (hw _ (List.mem_of_getElem? (i := 33) rfl)) (hw _ (List.mem_of_getElem? (i := 3) rfl)) (by decide) (by decide)) q104a q104c (g := (mkF m 30 #[.val (.long p1), .second, .val (.int p2), .val (.long p3), .second, .val (.int o), .val (.ref a101), .unset] [(.long p3), (.int o), (.ref a101)])) rfl (by rw [hml]; rfl) (Steps.refl _) (argsL := [(.int o), (.long p3)]) (rest := []) (lenOf pd_A rfl) rfl (by show 2 * 0 + _ ≤ _; exact Nat.le_of_eq rfl) (hb hby at_30) (fun _ _ => ⟨rfl, rfl, (by decide : 1 + 1 + 0 ≤ _), (by decide : 2 + 64 + 0 ≤ _)⟩)
  dsimp only [Pt.U, Pt.locs, Pt.cells, Pt.slots] at X104 l104 y104 z104 st104 hQ104
  subst l104 y104 z104
  obtain ⟨rfl, N104, K104, V104⟩ := hQ104
  refine own_tr (S' := T104.setTop (mkF m 33 #[.val (.long p1), .second, .val (.int p2), .val (.long p3), .second, .val (.int o), .val (.ref a101), .unset] [])) st104 ?_
  have Nc := Fr.app Nb N104
  have Zc := Nat.le_trans Zb K104.1
  have nin : a101 ∉ [b1] := ninS ne nin0
  have Exc := Ex103.keep K104
  have Fbc := Fb103.keep K104 nin
  have Fsc := Fs103.keep K104 nin
  refine own_st (S' := T104.setTop (mkF m 35 #[.val (.long p1), .second, .val (.int p2), .val (.long p3), .second, .val (.int o), .val (.ref a101), .unset] [(.ref a101)])) (fun _ kont => XS.aload X104.here hx rfl (hb hby at_33) rfl rfl kont) ?_
  obtain ⟨cq105, kq105, q105a, q105b, q105c⟩ := isOf hZ rfl Exc
  obtain ⟨_, _, ⟨T105, L105, k105, n105⟩, -, X105, ⟨Lc105, hQ105, l105, y105, z105⟩, st105⟩ := X104.virtualBack hx (y := (⟨"com/example/dexwright/dexwright/dex/DexOutput", "size", "()I"⟩ : MethodName)) (z := (⟨"com/example/dexwright/dexwright/dex/DexOutput", "size", "()I"⟩ : MethodName)) hown (mvT hZ (hw _ (List.mem_of_getElem? (i := 34) rfl))) (mvT hZ (hw _ (List.mem_of_getElem? (i := 35) rfl))) (notFace_of_selects (args := #[]) (mvT hZ (hw _ (List.mem_of_getElem? (i := 37) rfl)))) (mvT hZ (hw _ (List.mem_of_getElem? (i := 37) rfl))) (mvT hZ (hw _ (List.mem_of_getElem? (i := 36) rfl))) (by decide) (backOf (W := 0) (rmS l Z a0 hw [] a101 (8 : Int32) T104.heap n0 Zc Fsc) hZ (hw _ (List.mem_of_getElem? (i := 38) rfl)) (hw _ (List.mem_of_getElem? (i := 3) rfl)) (by decide) (by decide)) q105a q105c (g := (mkF m 35 #[.val (.long p1), .second, .val (.int p2), .val (.long p3), .second, .val (.int o), .val (.ref a101), .unset] [(.ref a101)])) rfl (by rw [hml]; rfl) (Steps.refl _) (argsL := []) (rest := []) (lenOf pd_S rfl) rfl (by show 2 * 0 + _ ≤ _; exact Nat.le_of_eq rfl) (hb hby at_35) (fun _ _ => ⟨rfl, rfl, (by decide : 1 + 1 + 0 ≤ _), (by decide : 2 + 64 + 0 ≤ _)⟩)
  dsimp only [Pt.U, Pt.locs, Pt.cells, Pt.slots] at X105 l105 y105 z105 st105 hQ105
  subst l105 y105 z105
  obtain ⟨rfl, N105, hh105⟩ := hQ105
  refine own_tr (S' := T105.setTop (mkF m 38 #[.val (.long p1), .second, .val (.int p2), .val (.long p3), .second, .val (.int o), .val (.ref a101), .unset] [(.int (8 : Int32))])) st105 ?_
  have Nd := Fr.app Nc N105
  refine own_st (S' := T105.setTop (mkF m 40 #[.val (.long p1), .second, .val (.int p2), .val (.long p3), .second, .val (.int o), .val (.ref a101), .unset] [(.int (8 : Int32)), (.int (8 : Int32))])) (fun _ kont => XS.bipush X105.here hx rfl (hb hby at_38) kont) ?_
  refine own_st (S' := T105.setTop (mkF m 45 #[.val (.long p1), .second, .val (.int p2), .val (.long p3), .second, .val (.int o), .val (.ref a101), .unset] [])) (fun _ kont => XS.icmpYes X105.here hx rfl (pc0 := 40) (pc' := 45) rfl (hb hby at_40) rfl ((own_i_eq _ _).trans (decide_eq_true (p := 8 = 8) (by decide))) (by decide) (by decide) kont) ?_
  refine own_st (S' := T105.setTop (mkF m 47 #[.val (.long p1), .second, .val (.int p2), .val (.long p3), .second, .val (.int o), .val (.ref a101), .unset] [(.ref a101)])) (fun _ kont => XS.aload X105.here hx rfl (hb hby at_45) rfl rfl kont) ?_
  obtain ⟨cq106, kq106, q106a, q106b, q106c⟩ := isOf hZ hh105 Exc
  obtain ⟨_, _, ⟨T106, L106, k106, n106⟩, -, X106, ⟨Lc106, hQ106, l106, y106, z106⟩, st106⟩ := X105.virtualBack hx (y := (⟨"com/example/dexwright/dexwright/dex/DexOutput", "toByteArray", "()[B"⟩ : MethodName)) (z := (⟨"com/example/dexwright/dexwright/dex/DexOutput", "toByteArray", "()[B"⟩ : MethodName)) hown (mvT hZ (hw _ (List.mem_of_getElem? (i := 39) rfl))) (mvT hZ (hw _ (List.mem_of_getElem? (i := 40) rfl))) (notFace_of_selects (args := #[]) (mvT hZ (hw _ (List.mem_of_getElem? (i := 42) rfl)))) (mvT hZ (hw _ (List.mem_of_getElem? (i := 42) rfl))) (mvT hZ (hw _ (List.mem_of_getElem? (i := 41) rfl))) (by decide) (backOf (W := 0) (rmP l Z a0 hw [] a101 b1 (own_up o p3 (own_nm p1 8) 4) T104.heap n0 Zc Fbc Fsc V104) hZ (hw _ (List.mem_of_getElem? (i := 43) rfl)) (hw _ (List.mem_of_getElem? (i := 3) rfl)) (by decide) (by decide)) q106a q106c (g := (mkF m 47 #[.val (.long p1), .second, .val (.int p2), .val (.long p3), .second, .val (.int o), .val (.ref a101), .unset] [(.ref a101)])) rfl (by rw [hml]; rfl) (Steps.refl _) (argsL := []) (rest := []) (lenOf pd_P rfl) rfl (by show 2 * 0 + _ ≤ _; exact Nat.le_of_eq rfl) (hb hby at_47) (fun _ _ => ⟨rfl, hh105, (by decide : 1 + 1 + 1 ≤ _), (by decide : 2 + 64 + 8 ≤ _)⟩)
  dsimp only [Pt.U, Pt.locs, Pt.cells, Pt.slots] at X106 l106 y106 z106 st106 hQ106
  subst l106 y106 z106
  obtain ⟨z106, rfl, N106, K106, gz106, V106⟩ := hQ106
  refine own_tr (S' := T106.setTop (mkF m 50 #[.val (.long p1), .second, .val (.int p2), .val (.long p3), .second, .val (.int o), .val (.ref a101), .unset] [(.ref z106)])) st106 ?_
  have Ne := Fr.app Nd N106
  have Zd := Nat.le_trans Zc K106.1
  refine own_st (S' := T106.setTop (mkF m 52 #[.val (.long p1), .second, .val (.int p2), .val (.long p3), .second, .val (.int o), .val (.ref a101), .val (.ref z106)] [])) (fun _ kont => XS.astore X106.here hx rfl (hb hby at_50) rfl rfl (l' := #[.val (.long p1), .second, .val (.int p2), .val (.long p3), .second, .val (.int o), .val (.ref a101), .val (.ref z106)]) rfl kont) ?_
  refine own_st (S' := T106.setTop (mkF m 54 #[.val (.long p1), .second, .val (.int p2), .val (.long p3), .second, .val (.int o), .val (.ref a101), .val (.ref z106)] [(.ref z106)])) (fun _ kont => XS.aload X106.here hx rfl (hb hby at_52) rfl rfl kont) ?_
  refine own_st (S' := T106.setTop (mkF m 55 #[.val (.long p1), .second, .val (.int p2), .val (.long p3), .second, .val (.int o), .val (.ref a101), .val (.ref z106)] [(.int (Nat.toInt32 8))])) (own_len X106 hx hZ rfl V106 (g := (mkF m 54 #[.val (.long p1), .second, .val (.int p2), .val (.long p3), .second, .val (.int o), .val (.ref a101), .val (.ref z106)] [(.ref z106)])) rfl rfl (hb hby at_54)) ?_
  have tq107 : (Nat.toInt32 8) = (8 : Int32) := rfl
  refine own_cv (congrArg (fun z => T106.setTop (mkF m 55 #[.val (.long p1), .second, .val (.int p2), .val (.long p3), .second, .val (.int o), .val (.ref a101), .val (.ref z106)] [(.int z)])) tq107) ?_
  show own_Go p.tables e below _ (T106.setTop (mkF m 55 #[.val (.long p1), .second, .val (.int p2), .val (.long p3), .second, .val (.int o), .val (.ref a101), .val (.ref z106)] [(.int (8 : Int32))]))
  refine own_st (S' := T106.setTop (mkF m 57 #[.val (.long p1), .second, .val (.int p2), .val (.long p3), .second, .val (.int o), .val (.ref a101), .val (.ref z106)] [(.int (8 : Int32)), (.int (8 : Int32))])) (fun _ kont => XS.bipush X106.here hx rfl (hb hby at_55) kont) ?_
  refine own_st (S' := T106.setTop (mkF m 62 #[.val (.long p1), .second, .val (.int p2), .val (.long p3), .second, .val (.int o), .val (.ref a101), .val (.ref z106)] [])) (fun _ kont => XS.icmpYes X106.here hx rfl (pc0 := 57) (pc' := 62) rfl (hb hby at_57) rfl ((own_i_eq _ _).trans (decide_eq_true (p := 8 = 8) (by decide))) (by decide) (by decide) kont) ?_
  refine own_st (S' := T106.setTop (mkF m 64 #[.val (.long p1), .second, .val (.int p2), .val (.long p3), .second, .val (.int o), .val (.ref a101), .val (.ref z106)] [(.ref z106)])) (fun _ kont => XS.aload X106.here hx rfl (hb hby at_62) rfl rfl kont) ?_
  refine own_st (S' := T106.setTop (mkF m 65 #[.val (.long p1), .second, .val (.int p2), .val (.long p3), .second, .val (.int o), .val (.ref a101), .val (.ref z106)] [(.int (0 : Int32)), (.ref z106)])) (fun _ kont => XS.iconst X106.here hx rfl (hb hby at_64) kont) ?_
  refine own_st (S' := T106.setTop (mkF m 66 #[.val (.long p1), .second, .val (.int p2), .val (.long p3), .second, .val (.int o), .val (.ref a101), .val (.ref z106)] [(.int (own_up o p3 (own_nm p1 8) 4 0))])) (own_ldB X106 hx hZ rfl V106 (by decide) (by decide) (g := (mkF m 65 #[.val (.long p1), .second, .val (.int p2), .val (.long p3), .second, .val (.int o), .val (.ref a101), .val (.ref z106)] [(.int (0 : Int32)), (.ref z106)])) rfl rfl (hb hby at_65)) ?_
  refine own_st (S' := T106.setTop (mkF m 67 #[.val (.long p1), .second, .val (.int p2), .val (.long p3), .second, .val (.int o), .val (.ref a101), .val (.ref z106)] [(.int (0 : Int32)), (.int (own_up o p3 (own_nm p1 8) 4 0))])) (fun _ kont => XS.iconst X106.here hx rfl (hb hby at_66) kont) ?_
  refine own_st (S' := T106.setTop (mkF m 69 #[.val (.long p1), .second, .val (.int p2), .val (.long p3), .second, .val (.int o), .val (.ref a101), .val (.ref z106)] [(.int o), (.int (0 : Int32)), (.int (own_up o p3 (own_nm p1 8) 4 0))])) (fun _ kont => XS.iload X106.here hx rfl (hb hby at_67) rfl kont) ?_
  refine own_st (S' := T106.setTop (mkF m 70 #[.val (.long p1), .second, .val (.int p2), .val (.long p3), .second, .val (.int o), .val (.ref a101), .val (.ref z106)] [(.long p1), (.int o), (.int (0 : Int32)), (.int (own_up o p3 (own_nm p1 8) 4 0))])) (fun _ kont => XT.lloadN X106.here hx rfl (hb hby at_69) rfl kont) ?_
  refine own_st (S' := T106.setTop (mkF m 71 #[.val (.long p1), .second, .val (.int p2), .val (.long p3), .second, .val (.int o), .val (.ref a101), .val (.ref z106)] [(.long p3), (.long p1), (.int o), (.int (0 : Int32)), (.int (own_up o p3 (own_nm p1 8) 4 0))])) (fun _ kont => XT.lloadN X106.here hx rfl (hb hby at_70) rfl kont) ?_
  obtain ⟨_, _, ⟨T108, L108, k108, n108⟩, -, X108, ⟨Lc108, hQ108, l108, y108, z108⟩, st108⟩ := Jvm.LawKit.callS X106 hx (y := (⟨"com/example/dexwright/dexwright/dex/DexOutputUintAtPinLaw", "expected", "(IIJJ)B"⟩ : MethodName)) hown (mvT hZ (hw _ (List.mem_of_getElem? (i := 56) rfl))) (mvT hZ (hw _ (List.mem_of_getElem? (i := 57) rfl))) (mvT hZ (hw _ (List.mem_of_getElem? (i := 58) rfl))) (mvT hZ (hw _ (List.mem_of_getElem? (i := 59) rfl))) (by decide) (backOf (W := 1) (rmX l Z a0 hw [] (0 : Int32) o p1 p3 T106.heap n0 Zd) hZ (hw _ (List.mem_of_getElem? (i := 59) rfl)) (hw _ (List.mem_of_getElem? (i := 58) rfl)) (by decide) (by decide)) (g := (mkF m 71 #[.val (.long p1), .second, .val (.int p2), .val (.long p3), .second, .val (.int o), .val (.ref a101), .val (.ref z106)] [(.long p3), (.long p1), (.int o), (.int (0 : Int32)), (.int (own_up o p3 (own_nm p1 8) 4 0))])) rfl (by rw [hml]; rfl) (argsL := [(.int (0 : Int32)), (.int o), (.long p1), (.long p3)]) (rest := [(.int (own_up o p3 (own_nm p1 8) 4 0))]) (lenOf pd_X rfl) rfl (by show 2 * 0 + _ ≤ _; exact Nat.le_of_eq rfl) (hb hby at_71) (fun _ _ => ⟨rfl, rfl, (by decide : 1 + 1 + 1 + 0 ≤ _), (by decide : 2 + 64 + 8 + 0 ≤ _)⟩)
  dsimp only [Pt.U, Pt.locs, Pt.cells, Pt.slots] at X108 l108 y108 z108 st108 hQ108
  subst l108 y108 z108
  obtain ⟨rfl, N108, hh108⟩ := hQ108
  refine own_st (S' := T108.setTop (mkF m 74 #[.val (.long p1), .second, .val (.int p2), .val (.long p3), .second, .val (.int o), .val (.ref a101), .val (.ref z106)] [(.int (own_exp (0 : Int32) o p1 p3)), (.int (own_up o p3 (own_nm p1 8) 4 0))])) st108 ?_
  have Nx0 := Fr.app Ne N108
  refine own_st (S' := T108.setTop (mkF m 77 #[.val (.long p1), .second, .val (.int p2), .val (.long p3), .second, .val (.int o), .val (.ref a101), .val (.ref z106)] [])) (fun _ kont => XS.icmpNo X108.here hx rfl (hb hby at_74) rfl ((own_i_ne _ _).trans (decide_eq_false (p := Int32.toInt (own_up o p3 (own_nm p1 8) 4 0) ≠ Int32.toInt (own_exp (0 : Int32) o p1 p3)) (fun h => h (congrArg Int32.toInt (own_f0 o ho0 ho4 p1 p3))))) kont) ?_
  refine own_st (S' := T108.setTop (mkF m 79 #[.val (.long p1), .second, .val (.int p2), .val (.long p3), .second, .val (.int o), .val (.ref a101), .val (.ref z106)] [(.ref z106)])) (fun _ kont => XS.aload X108.here hx rfl (hb hby at_77) rfl rfl kont) ?_
  refine own_st (S' := T108.setTop (mkF m 80 #[.val (.long p1), .second, .val (.int p2), .val (.long p3), .second, .val (.int o), .val (.ref a101), .val (.ref z106)] [(.int (1 : Int32)), (.ref z106)])) (fun _ kont => XS.iconst X108.here hx rfl (hb hby at_79) kont) ?_
  refine own_st (S' := T108.setTop (mkF m 81 #[.val (.long p1), .second, .val (.int p2), .val (.long p3), .second, .val (.int o), .val (.ref a101), .val (.ref z106)] [(.int (own_up o p3 (own_nm p1 8) 4 1))])) (own_ldB X108 hx hZ hh108 V106 (by decide) (by decide) (g := (mkF m 80 #[.val (.long p1), .second, .val (.int p2), .val (.long p3), .second, .val (.int o), .val (.ref a101), .val (.ref z106)] [(.int (1 : Int32)), (.ref z106)])) rfl rfl (hb hby at_80)) ?_
  refine own_st (S' := T108.setTop (mkF m 82 #[.val (.long p1), .second, .val (.int p2), .val (.long p3), .second, .val (.int o), .val (.ref a101), .val (.ref z106)] [(.int (1 : Int32)), (.int (own_up o p3 (own_nm p1 8) 4 1))])) (fun _ kont => XS.iconst X108.here hx rfl (hb hby at_81) kont) ?_
  refine own_st (S' := T108.setTop (mkF m 84 #[.val (.long p1), .second, .val (.int p2), .val (.long p3), .second, .val (.int o), .val (.ref a101), .val (.ref z106)] [(.int o), (.int (1 : Int32)), (.int (own_up o p3 (own_nm p1 8) 4 1))])) (fun _ kont => XS.iload X108.here hx rfl (hb hby at_82) rfl kont) ?_
  refine own_st (S' := T108.setTop (mkF m 85 #[.val (.long p1), .second, .val (.int p2), .val (.long p3), .second, .val (.int o), .val (.ref a101), .val (.ref z106)] [(.long p1), (.int o), (.int (1 : Int32)), (.int (own_up o p3 (own_nm p1 8) 4 1))])) (fun _ kont => XT.lloadN X108.here hx rfl (hb hby at_84) rfl kont) ?_
  refine own_st (S' := T108.setTop (mkF m 86 #[.val (.long p1), .second, .val (.int p2), .val (.long p3), .second, .val (.int o), .val (.ref a101), .val (.ref z106)] [(.long p3), (.long p1), (.int o), (.int (1 : Int32)), (.int (own_up o p3 (own_nm p1 8) 4 1))])) (fun _ kont => XT.lloadN X108.here hx rfl (hb hby at_85) rfl kont) ?_
  obtain ⟨_, _, ⟨T109, L109, k109, n109⟩, -, X109, ⟨Lc109, hQ109, l109, y109, z109⟩, st109⟩ := Jvm.LawKit.callS X108 hx (y := (⟨"com/example/dexwright/dexwright/dex/DexOutputUintAtPinLaw", "expected", "(IIJJ)B"⟩ : MethodName)) hown (mvT hZ (hw _ (List.mem_of_getElem? (i := 56) rfl))) (mvT hZ (hw _ (List.mem_of_getElem? (i := 57) rfl))) (mvT hZ (hw _ (List.mem_of_getElem? (i := 58) rfl))) (mvT hZ (hw _ (List.mem_of_getElem? (i := 59) rfl))) (by decide) (backOf (W := 1) (rmX l Z a0 hw [] (1 : Int32) o p1 p3 T106.heap n0 Zd) hZ (hw _ (List.mem_of_getElem? (i := 59) rfl)) (hw _ (List.mem_of_getElem? (i := 58) rfl)) (by decide) (by decide)) (g := (mkF m 86 #[.val (.long p1), .second, .val (.int p2), .val (.long p3), .second, .val (.int o), .val (.ref a101), .val (.ref z106)] [(.long p3), (.long p1), (.int o), (.int (1 : Int32)), (.int (own_up o p3 (own_nm p1 8) 4 1))])) rfl (by rw [hml]; rfl) (argsL := [(.int (1 : Int32)), (.int o), (.long p1), (.long p3)]) (rest := [(.int (own_up o p3 (own_nm p1 8) 4 1))]) (lenOf pd_X rfl) rfl (by show 2 * 0 + _ ≤ _; exact Nat.le_of_eq rfl) (hb hby at_86) (fun _ _ => ⟨rfl, hh108, (by decide : 1 + 1 + 1 + 0 ≤ _), (by decide : 2 + 64 + 8 + 0 ≤ _)⟩)
  dsimp only [Pt.U, Pt.locs, Pt.cells, Pt.slots] at X109 l109 y109 z109 st109 hQ109
  subst l109 y109 z109
  obtain ⟨rfl, N109, hh109⟩ := hQ109
  refine own_st (S' := T109.setTop (mkF m 89 #[.val (.long p1), .second, .val (.int p2), .val (.long p3), .second, .val (.int o), .val (.ref a101), .val (.ref z106)] [(.int (own_exp (1 : Int32) o p1 p3)), (.int (own_up o p3 (own_nm p1 8) 4 1))])) st109 ?_
  have Nx1 := Fr.app Nx0 N109
  refine own_st (S' := T109.setTop (mkF m 92 #[.val (.long p1), .second, .val (.int p2), .val (.long p3), .second, .val (.int o), .val (.ref a101), .val (.ref z106)] [])) (fun _ kont => XS.icmpNo X109.here hx rfl (hb hby at_89) rfl ((own_i_ne _ _).trans (decide_eq_false (p := Int32.toInt (own_up o p3 (own_nm p1 8) 4 1) ≠ Int32.toInt (own_exp (1 : Int32) o p1 p3)) (fun h => h (congrArg Int32.toInt (own_f1 o ho0 ho4 p1 p3))))) kont) ?_
  refine own_st (S' := T109.setTop (mkF m 94 #[.val (.long p1), .second, .val (.int p2), .val (.long p3), .second, .val (.int o), .val (.ref a101), .val (.ref z106)] [(.ref z106)])) (fun _ kont => XS.aload X109.here hx rfl (hb hby at_92) rfl rfl kont) ?_
  refine own_st (S' := T109.setTop (mkF m 95 #[.val (.long p1), .second, .val (.int p2), .val (.long p3), .second, .val (.int o), .val (.ref a101), .val (.ref z106)] [(.int (2 : Int32)), (.ref z106)])) (fun _ kont => XS.iconst X109.here hx rfl (hb hby at_94) kont) ?_
  refine own_st (S' := T109.setTop (mkF m 96 #[.val (.long p1), .second, .val (.int p2), .val (.long p3), .second, .val (.int o), .val (.ref a101), .val (.ref z106)] [(.int (own_up o p3 (own_nm p1 8) 4 2))])) (own_ldB X109 hx hZ hh109 V106 (by decide) (by decide) (g := (mkF m 95 #[.val (.long p1), .second, .val (.int p2), .val (.long p3), .second, .val (.int o), .val (.ref a101), .val (.ref z106)] [(.int (2 : Int32)), (.ref z106)])) rfl rfl (hb hby at_95)) ?_
  refine own_st (S' := T109.setTop (mkF m 97 #[.val (.long p1), .second, .val (.int p2), .val (.long p3), .second, .val (.int o), .val (.ref a101), .val (.ref z106)] [(.int (2 : Int32)), (.int (own_up o p3 (own_nm p1 8) 4 2))])) (fun _ kont => XS.iconst X109.here hx rfl (hb hby at_96) kont) ?_
  refine own_st (S' := T109.setTop (mkF m 99 #[.val (.long p1), .second, .val (.int p2), .val (.long p3), .second, .val (.int o), .val (.ref a101), .val (.ref z106)] [(.int o), (.int (2 : Int32)), (.int (own_up o p3 (own_nm p1 8) 4 2))])) (fun _ kont => XS.iload X109.here hx rfl (hb hby at_97) rfl kont) ?_
  refine own_st (S' := T109.setTop (mkF m 100 #[.val (.long p1), .second, .val (.int p2), .val (.long p3), .second, .val (.int o), .val (.ref a101), .val (.ref z106)] [(.long p1), (.int o), (.int (2 : Int32)), (.int (own_up o p3 (own_nm p1 8) 4 2))])) (fun _ kont => XT.lloadN X109.here hx rfl (hb hby at_99) rfl kont) ?_
  refine own_st (S' := T109.setTop (mkF m 101 #[.val (.long p1), .second, .val (.int p2), .val (.long p3), .second, .val (.int o), .val (.ref a101), .val (.ref z106)] [(.long p3), (.long p1), (.int o), (.int (2 : Int32)), (.int (own_up o p3 (own_nm p1 8) 4 2))])) (fun _ kont => XT.lloadN X109.here hx rfl (hb hby at_100) rfl kont) ?_
  obtain ⟨_, _, ⟨T110, L110, k110, n110⟩, -, X110, ⟨Lc110, hQ110, l110, y110, z110⟩, st110⟩ := Jvm.LawKit.callS X109 hx (y := (⟨"com/example/dexwright/dexwright/dex/DexOutputUintAtPinLaw", "expected", "(IIJJ)B"⟩ : MethodName)) hown (mvT hZ (hw _ (List.mem_of_getElem? (i := 56) rfl))) (mvT hZ (hw _ (List.mem_of_getElem? (i := 57) rfl))) (mvT hZ (hw _ (List.mem_of_getElem? (i := 58) rfl))) (mvT hZ (hw _ (List.mem_of_getElem? (i := 59) rfl))) (by decide) (backOf (W := 1) (rmX l Z a0 hw [] (2 : Int32) o p1 p3 T106.heap n0 Zd) hZ (hw _ (List.mem_of_getElem? (i := 59) rfl)) (hw _ (List.mem_of_getElem? (i := 58) rfl)) (by decide) (by decide)) (g := (mkF m 101 #[.val (.long p1), .second, .val (.int p2), .val (.long p3), .second, .val (.int o), .val (.ref a101), .val (.ref z106)] [(.long p3), (.long p1), (.int o), (.int (2 : Int32)), (.int (own_up o p3 (own_nm p1 8) 4 2))])) rfl (by rw [hml]; rfl) (argsL := [(.int (2 : Int32)), (.int o), (.long p1), (.long p3)]) (rest := [(.int (own_up o p3 (own_nm p1 8) 4 2))]) (lenOf pd_X rfl) rfl (by show 2 * 0 + _ ≤ _; exact Nat.le_of_eq rfl) (hb hby at_101) (fun _ _ => ⟨rfl, hh109, (by decide : 1 + 1 + 1 + 0 ≤ _), (by decide : 2 + 64 + 8 + 0 ≤ _)⟩)
  dsimp only [Pt.U, Pt.locs, Pt.cells, Pt.slots] at X110 l110 y110 z110 st110 hQ110
  subst l110 y110 z110
  obtain ⟨rfl, N110, hh110⟩ := hQ110
  refine own_st (S' := T110.setTop (mkF m 104 #[.val (.long p1), .second, .val (.int p2), .val (.long p3), .second, .val (.int o), .val (.ref a101), .val (.ref z106)] [(.int (own_exp (2 : Int32) o p1 p3)), (.int (own_up o p3 (own_nm p1 8) 4 2))])) st110 ?_
  have Nx2 := Fr.app Nx1 N110
  refine own_st (S' := T110.setTop (mkF m 107 #[.val (.long p1), .second, .val (.int p2), .val (.long p3), .second, .val (.int o), .val (.ref a101), .val (.ref z106)] [])) (fun _ kont => XS.icmpNo X110.here hx rfl (hb hby at_104) rfl ((own_i_ne _ _).trans (decide_eq_false (p := Int32.toInt (own_up o p3 (own_nm p1 8) 4 2) ≠ Int32.toInt (own_exp (2 : Int32) o p1 p3)) (fun h => h (congrArg Int32.toInt (own_f2 o ho0 ho4 p1 p3))))) kont) ?_
  refine own_st (S' := T110.setTop (mkF m 109 #[.val (.long p1), .second, .val (.int p2), .val (.long p3), .second, .val (.int o), .val (.ref a101), .val (.ref z106)] [(.ref z106)])) (fun _ kont => XS.aload X110.here hx rfl (hb hby at_107) rfl rfl kont) ?_
  refine own_st (S' := T110.setTop (mkF m 110 #[.val (.long p1), .second, .val (.int p2), .val (.long p3), .second, .val (.int o), .val (.ref a101), .val (.ref z106)] [(.int (3 : Int32)), (.ref z106)])) (fun _ kont => XS.iconst X110.here hx rfl (hb hby at_109) kont) ?_
  refine own_st (S' := T110.setTop (mkF m 111 #[.val (.long p1), .second, .val (.int p2), .val (.long p3), .second, .val (.int o), .val (.ref a101), .val (.ref z106)] [(.int (own_up o p3 (own_nm p1 8) 4 3))])) (own_ldB X110 hx hZ hh110 V106 (by decide) (by decide) (g := (mkF m 110 #[.val (.long p1), .second, .val (.int p2), .val (.long p3), .second, .val (.int o), .val (.ref a101), .val (.ref z106)] [(.int (3 : Int32)), (.ref z106)])) rfl rfl (hb hby at_110)) ?_
  refine own_st (S' := T110.setTop (mkF m 112 #[.val (.long p1), .second, .val (.int p2), .val (.long p3), .second, .val (.int o), .val (.ref a101), .val (.ref z106)] [(.int (3 : Int32)), (.int (own_up o p3 (own_nm p1 8) 4 3))])) (fun _ kont => XS.iconst X110.here hx rfl (hb hby at_111) kont) ?_
  refine own_st (S' := T110.setTop (mkF m 114 #[.val (.long p1), .second, .val (.int p2), .val (.long p3), .second, .val (.int o), .val (.ref a101), .val (.ref z106)] [(.int o), (.int (3 : Int32)), (.int (own_up o p3 (own_nm p1 8) 4 3))])) (fun _ kont => XS.iload X110.here hx rfl (hb hby at_112) rfl kont) ?_
  refine own_st (S' := T110.setTop (mkF m 115 #[.val (.long p1), .second, .val (.int p2), .val (.long p3), .second, .val (.int o), .val (.ref a101), .val (.ref z106)] [(.long p1), (.int o), (.int (3 : Int32)), (.int (own_up o p3 (own_nm p1 8) 4 3))])) (fun _ kont => XT.lloadN X110.here hx rfl (hb hby at_114) rfl kont) ?_
  refine own_st (S' := T110.setTop (mkF m 116 #[.val (.long p1), .second, .val (.int p2), .val (.long p3), .second, .val (.int o), .val (.ref a101), .val (.ref z106)] [(.long p3), (.long p1), (.int o), (.int (3 : Int32)), (.int (own_up o p3 (own_nm p1 8) 4 3))])) (fun _ kont => XT.lloadN X110.here hx rfl (hb hby at_115) rfl kont) ?_
  obtain ⟨_, _, ⟨T111, L111, k111, n111⟩, -, X111, ⟨Lc111, hQ111, l111, y111, z111⟩, st111⟩ := Jvm.LawKit.callS X110 hx (y := (⟨"com/example/dexwright/dexwright/dex/DexOutputUintAtPinLaw", "expected", "(IIJJ)B"⟩ : MethodName)) hown (mvT hZ (hw _ (List.mem_of_getElem? (i := 56) rfl))) (mvT hZ (hw _ (List.mem_of_getElem? (i := 57) rfl))) (mvT hZ (hw _ (List.mem_of_getElem? (i := 58) rfl))) (mvT hZ (hw _ (List.mem_of_getElem? (i := 59) rfl))) (by decide) (backOf (W := 1) (rmX l Z a0 hw [] (3 : Int32) o p1 p3 T106.heap n0 Zd) hZ (hw _ (List.mem_of_getElem? (i := 59) rfl)) (hw _ (List.mem_of_getElem? (i := 58) rfl)) (by decide) (by decide)) (g := (mkF m 116 #[.val (.long p1), .second, .val (.int p2), .val (.long p3), .second, .val (.int o), .val (.ref a101), .val (.ref z106)] [(.long p3), (.long p1), (.int o), (.int (3 : Int32)), (.int (own_up o p3 (own_nm p1 8) 4 3))])) rfl (by rw [hml]; rfl) (argsL := [(.int (3 : Int32)), (.int o), (.long p1), (.long p3)]) (rest := [(.int (own_up o p3 (own_nm p1 8) 4 3))]) (lenOf pd_X rfl) rfl (by show 2 * 0 + _ ≤ _; exact Nat.le_of_eq rfl) (hb hby at_116) (fun _ _ => ⟨rfl, hh110, (by decide : 1 + 1 + 1 + 0 ≤ _), (by decide : 2 + 64 + 8 + 0 ≤ _)⟩)
  dsimp only [Pt.U, Pt.locs, Pt.cells, Pt.slots] at X111 l111 y111 z111 st111 hQ111
  subst l111 y111 z111
  obtain ⟨rfl, N111, hh111⟩ := hQ111
  refine own_st (S' := T111.setTop (mkF m 119 #[.val (.long p1), .second, .val (.int p2), .val (.long p3), .second, .val (.int o), .val (.ref a101), .val (.ref z106)] [(.int (own_exp (3 : Int32) o p1 p3)), (.int (own_up o p3 (own_nm p1 8) 4 3))])) st111 ?_
  have Nx3 := Fr.app Nx2 N111
  refine own_st (S' := T111.setTop (mkF m 122 #[.val (.long p1), .second, .val (.int p2), .val (.long p3), .second, .val (.int o), .val (.ref a101), .val (.ref z106)] [])) (fun _ kont => XS.icmpNo X111.here hx rfl (hb hby at_119) rfl ((own_i_ne _ _).trans (decide_eq_false (p := Int32.toInt (own_up o p3 (own_nm p1 8) 4 3) ≠ Int32.toInt (own_exp (3 : Int32) o p1 p3)) (fun h => h (congrArg Int32.toInt (own_f3 o ho0 ho4 p1 p3))))) kont) ?_
  refine own_st (S' := T111.setTop (mkF m 124 #[.val (.long p1), .second, .val (.int p2), .val (.long p3), .second, .val (.int o), .val (.ref a101), .val (.ref z106)] [(.ref z106)])) (fun _ kont => XS.aload X111.here hx rfl (hb hby at_122) rfl rfl kont) ?_
  refine own_st (S' := T111.setTop (mkF m 125 #[.val (.long p1), .second, .val (.int p2), .val (.long p3), .second, .val (.int o), .val (.ref a101), .val (.ref z106)] [(.int (4 : Int32)), (.ref z106)])) (fun _ kont => XS.iconst X111.here hx rfl (hb hby at_124) kont) ?_
  refine own_st (S' := T111.setTop (mkF m 126 #[.val (.long p1), .second, .val (.int p2), .val (.long p3), .second, .val (.int o), .val (.ref a101), .val (.ref z106)] [(.int (own_up o p3 (own_nm p1 8) 4 4))])) (own_ldB X111 hx hZ hh111 V106 (by decide) (by decide) (g := (mkF m 125 #[.val (.long p1), .second, .val (.int p2), .val (.long p3), .second, .val (.int o), .val (.ref a101), .val (.ref z106)] [(.int (4 : Int32)), (.ref z106)])) rfl rfl (hb hby at_125)) ?_
  refine own_st (S' := T111.setTop (mkF m 127 #[.val (.long p1), .second, .val (.int p2), .val (.long p3), .second, .val (.int o), .val (.ref a101), .val (.ref z106)] [(.int (4 : Int32)), (.int (own_up o p3 (own_nm p1 8) 4 4))])) (fun _ kont => XS.iconst X111.here hx rfl (hb hby at_126) kont) ?_
  refine own_st (S' := T111.setTop (mkF m 129 #[.val (.long p1), .second, .val (.int p2), .val (.long p3), .second, .val (.int o), .val (.ref a101), .val (.ref z106)] [(.int o), (.int (4 : Int32)), (.int (own_up o p3 (own_nm p1 8) 4 4))])) (fun _ kont => XS.iload X111.here hx rfl (hb hby at_127) rfl kont) ?_
  refine own_st (S' := T111.setTop (mkF m 130 #[.val (.long p1), .second, .val (.int p2), .val (.long p3), .second, .val (.int o), .val (.ref a101), .val (.ref z106)] [(.long p1), (.int o), (.int (4 : Int32)), (.int (own_up o p3 (own_nm p1 8) 4 4))])) (fun _ kont => XT.lloadN X111.here hx rfl (hb hby at_129) rfl kont) ?_
  refine own_st (S' := T111.setTop (mkF m 131 #[.val (.long p1), .second, .val (.int p2), .val (.long p3), .second, .val (.int o), .val (.ref a101), .val (.ref z106)] [(.long p3), (.long p1), (.int o), (.int (4 : Int32)), (.int (own_up o p3 (own_nm p1 8) 4 4))])) (fun _ kont => XT.lloadN X111.here hx rfl (hb hby at_130) rfl kont) ?_
  obtain ⟨_, _, ⟨T112, L112, k112, n112⟩, -, X112, ⟨Lc112, hQ112, l112, y112, z112⟩, st112⟩ := Jvm.LawKit.callS X111 hx (y := (⟨"com/example/dexwright/dexwright/dex/DexOutputUintAtPinLaw", "expected", "(IIJJ)B"⟩ : MethodName)) hown (mvT hZ (hw _ (List.mem_of_getElem? (i := 56) rfl))) (mvT hZ (hw _ (List.mem_of_getElem? (i := 57) rfl))) (mvT hZ (hw _ (List.mem_of_getElem? (i := 58) rfl))) (mvT hZ (hw _ (List.mem_of_getElem? (i := 59) rfl))) (by decide) (backOf (W := 1) (rmX l Z a0 hw [] (4 : Int32) o p1 p3 T106.heap n0 Zd) hZ (hw _ (List.mem_of_getElem? (i := 59) rfl)) (hw _ (List.mem_of_getElem? (i := 58) rfl)) (by decide) (by decide)) (g := (mkF m 131 #[.val (.long p1), .second, .val (.int p2), .val (.long p3), .second, .val (.int o), .val (.ref a101), .val (.ref z106)] [(.long p3), (.long p1), (.int o), (.int (4 : Int32)), (.int (own_up o p3 (own_nm p1 8) 4 4))])) rfl (by rw [hml]; rfl) (argsL := [(.int (4 : Int32)), (.int o), (.long p1), (.long p3)]) (rest := [(.int (own_up o p3 (own_nm p1 8) 4 4))]) (lenOf pd_X rfl) rfl (by show 2 * 0 + _ ≤ _; exact Nat.le_of_eq rfl) (hb hby at_131) (fun _ _ => ⟨rfl, hh111, (by decide : 1 + 1 + 1 + 0 ≤ _), (by decide : 2 + 64 + 8 + 0 ≤ _)⟩)
  dsimp only [Pt.U, Pt.locs, Pt.cells, Pt.slots] at X112 l112 y112 z112 st112 hQ112
  subst l112 y112 z112
  obtain ⟨rfl, N112, hh112⟩ := hQ112
  refine own_st (S' := T112.setTop (mkF m 134 #[.val (.long p1), .second, .val (.int p2), .val (.long p3), .second, .val (.int o), .val (.ref a101), .val (.ref z106)] [(.int (own_exp (4 : Int32) o p1 p3)), (.int (own_up o p3 (own_nm p1 8) 4 4))])) st112 ?_
  have Nx4 := Fr.app Nx3 N112
  refine own_st (S' := T112.setTop (mkF m 137 #[.val (.long p1), .second, .val (.int p2), .val (.long p3), .second, .val (.int o), .val (.ref a101), .val (.ref z106)] [])) (fun _ kont => XS.icmpNo X112.here hx rfl (hb hby at_134) rfl ((own_i_ne _ _).trans (decide_eq_false (p := Int32.toInt (own_up o p3 (own_nm p1 8) 4 4) ≠ Int32.toInt (own_exp (4 : Int32) o p1 p3)) (fun h => h (congrArg Int32.toInt (own_f4 o ho0 ho4 p1 p3))))) kont) ?_
  refine own_st (S' := T112.setTop (mkF m 139 #[.val (.long p1), .second, .val (.int p2), .val (.long p3), .second, .val (.int o), .val (.ref a101), .val (.ref z106)] [(.ref z106)])) (fun _ kont => XS.aload X112.here hx rfl (hb hby at_137) rfl rfl kont) ?_
  refine own_st (S' := T112.setTop (mkF m 140 #[.val (.long p1), .second, .val (.int p2), .val (.long p3), .second, .val (.int o), .val (.ref a101), .val (.ref z106)] [(.int (5 : Int32)), (.ref z106)])) (fun _ kont => XS.iconst X112.here hx rfl (hb hby at_139) kont) ?_
  refine own_st (S' := T112.setTop (mkF m 141 #[.val (.long p1), .second, .val (.int p2), .val (.long p3), .second, .val (.int o), .val (.ref a101), .val (.ref z106)] [(.int (own_up o p3 (own_nm p1 8) 4 5))])) (own_ldB X112 hx hZ hh112 V106 (by decide) (by decide) (g := (mkF m 140 #[.val (.long p1), .second, .val (.int p2), .val (.long p3), .second, .val (.int o), .val (.ref a101), .val (.ref z106)] [(.int (5 : Int32)), (.ref z106)])) rfl rfl (hb hby at_140)) ?_
  refine own_st (S' := T112.setTop (mkF m 142 #[.val (.long p1), .second, .val (.int p2), .val (.long p3), .second, .val (.int o), .val (.ref a101), .val (.ref z106)] [(.int (5 : Int32)), (.int (own_up o p3 (own_nm p1 8) 4 5))])) (fun _ kont => XS.iconst X112.here hx rfl (hb hby at_141) kont) ?_
  refine own_st (S' := T112.setTop (mkF m 144 #[.val (.long p1), .second, .val (.int p2), .val (.long p3), .second, .val (.int o), .val (.ref a101), .val (.ref z106)] [(.int o), (.int (5 : Int32)), (.int (own_up o p3 (own_nm p1 8) 4 5))])) (fun _ kont => XS.iload X112.here hx rfl (hb hby at_142) rfl kont) ?_
  refine own_st (S' := T112.setTop (mkF m 145 #[.val (.long p1), .second, .val (.int p2), .val (.long p3), .second, .val (.int o), .val (.ref a101), .val (.ref z106)] [(.long p1), (.int o), (.int (5 : Int32)), (.int (own_up o p3 (own_nm p1 8) 4 5))])) (fun _ kont => XT.lloadN X112.here hx rfl (hb hby at_144) rfl kont) ?_
  refine own_st (S' := T112.setTop (mkF m 146 #[.val (.long p1), .second, .val (.int p2), .val (.long p3), .second, .val (.int o), .val (.ref a101), .val (.ref z106)] [(.long p3), (.long p1), (.int o), (.int (5 : Int32)), (.int (own_up o p3 (own_nm p1 8) 4 5))])) (fun _ kont => XT.lloadN X112.here hx rfl (hb hby at_145) rfl kont) ?_
  obtain ⟨_, _, ⟨T113, L113, k113, n113⟩, -, X113, ⟨Lc113, hQ113, l113, y113, z113⟩, st113⟩ := Jvm.LawKit.callS X112 hx (y := (⟨"com/example/dexwright/dexwright/dex/DexOutputUintAtPinLaw", "expected", "(IIJJ)B"⟩ : MethodName)) hown (mvT hZ (hw _ (List.mem_of_getElem? (i := 56) rfl))) (mvT hZ (hw _ (List.mem_of_getElem? (i := 57) rfl))) (mvT hZ (hw _ (List.mem_of_getElem? (i := 58) rfl))) (mvT hZ (hw _ (List.mem_of_getElem? (i := 59) rfl))) (by decide) (backOf (W := 1) (rmX l Z a0 hw [] (5 : Int32) o p1 p3 T106.heap n0 Zd) hZ (hw _ (List.mem_of_getElem? (i := 59) rfl)) (hw _ (List.mem_of_getElem? (i := 58) rfl)) (by decide) (by decide)) (g := (mkF m 146 #[.val (.long p1), .second, .val (.int p2), .val (.long p3), .second, .val (.int o), .val (.ref a101), .val (.ref z106)] [(.long p3), (.long p1), (.int o), (.int (5 : Int32)), (.int (own_up o p3 (own_nm p1 8) 4 5))])) rfl (by rw [hml]; rfl) (argsL := [(.int (5 : Int32)), (.int o), (.long p1), (.long p3)]) (rest := [(.int (own_up o p3 (own_nm p1 8) 4 5))]) (lenOf pd_X rfl) rfl (by show 2 * 0 + _ ≤ _; exact Nat.le_of_eq rfl) (hb hby at_146) (fun _ _ => ⟨rfl, hh112, (by decide : 1 + 1 + 1 + 0 ≤ _), (by decide : 2 + 64 + 8 + 0 ≤ _)⟩)
  dsimp only [Pt.U, Pt.locs, Pt.cells, Pt.slots] at X113 l113 y113 z113 st113 hQ113
  subst l113 y113 z113
  obtain ⟨rfl, N113, hh113⟩ := hQ113
  refine own_st (S' := T113.setTop (mkF m 149 #[.val (.long p1), .second, .val (.int p2), .val (.long p3), .second, .val (.int o), .val (.ref a101), .val (.ref z106)] [(.int (own_exp (5 : Int32) o p1 p3)), (.int (own_up o p3 (own_nm p1 8) 4 5))])) st113 ?_
  have Nx5 := Fr.app Nx4 N113
  refine own_st (S' := T113.setTop (mkF m 152 #[.val (.long p1), .second, .val (.int p2), .val (.long p3), .second, .val (.int o), .val (.ref a101), .val (.ref z106)] [])) (fun _ kont => XS.icmpNo X113.here hx rfl (hb hby at_149) rfl ((own_i_ne _ _).trans (decide_eq_false (p := Int32.toInt (own_up o p3 (own_nm p1 8) 4 5) ≠ Int32.toInt (own_exp (5 : Int32) o p1 p3)) (fun h => h (congrArg Int32.toInt (own_f5 o ho0 ho4 p1 p3))))) kont) ?_
  refine own_st (S' := T113.setTop (mkF m 154 #[.val (.long p1), .second, .val (.int p2), .val (.long p3), .second, .val (.int o), .val (.ref a101), .val (.ref z106)] [(.ref z106)])) (fun _ kont => XS.aload X113.here hx rfl (hb hby at_152) rfl rfl kont) ?_
  refine own_st (S' := T113.setTop (mkF m 156 #[.val (.long p1), .second, .val (.int p2), .val (.long p3), .second, .val (.int o), .val (.ref a101), .val (.ref z106)] [(.int (6 : Int32)), (.ref z106)])) (fun _ kont => XS.bipush X113.here hx rfl (hb hby at_154) kont) ?_
  refine own_st (S' := T113.setTop (mkF m 157 #[.val (.long p1), .second, .val (.int p2), .val (.long p3), .second, .val (.int o), .val (.ref a101), .val (.ref z106)] [(.int (own_up o p3 (own_nm p1 8) 4 6))])) (own_ldB X113 hx hZ hh113 V106 (by decide) (by decide) (g := (mkF m 156 #[.val (.long p1), .second, .val (.int p2), .val (.long p3), .second, .val (.int o), .val (.ref a101), .val (.ref z106)] [(.int (6 : Int32)), (.ref z106)])) rfl rfl (hb hby at_156)) ?_
  refine own_st (S' := T113.setTop (mkF m 159 #[.val (.long p1), .second, .val (.int p2), .val (.long p3), .second, .val (.int o), .val (.ref a101), .val (.ref z106)] [(.int (6 : Int32)), (.int (own_up o p3 (own_nm p1 8) 4 6))])) (fun _ kont => XS.bipush X113.here hx rfl (hb hby at_157) kont) ?_
  refine own_st (S' := T113.setTop (mkF m 161 #[.val (.long p1), .second, .val (.int p2), .val (.long p3), .second, .val (.int o), .val (.ref a101), .val (.ref z106)] [(.int o), (.int (6 : Int32)), (.int (own_up o p3 (own_nm p1 8) 4 6))])) (fun _ kont => XS.iload X113.here hx rfl (hb hby at_159) rfl kont) ?_
  refine own_st (S' := T113.setTop (mkF m 162 #[.val (.long p1), .second, .val (.int p2), .val (.long p3), .second, .val (.int o), .val (.ref a101), .val (.ref z106)] [(.long p1), (.int o), (.int (6 : Int32)), (.int (own_up o p3 (own_nm p1 8) 4 6))])) (fun _ kont => XT.lloadN X113.here hx rfl (hb hby at_161) rfl kont) ?_
  refine own_st (S' := T113.setTop (mkF m 163 #[.val (.long p1), .second, .val (.int p2), .val (.long p3), .second, .val (.int o), .val (.ref a101), .val (.ref z106)] [(.long p3), (.long p1), (.int o), (.int (6 : Int32)), (.int (own_up o p3 (own_nm p1 8) 4 6))])) (fun _ kont => XT.lloadN X113.here hx rfl (hb hby at_162) rfl kont) ?_
  obtain ⟨_, _, ⟨T114, L114, k114, n114⟩, -, X114, ⟨Lc114, hQ114, l114, y114, z114⟩, st114⟩ := Jvm.LawKit.callS X113 hx (y := (⟨"com/example/dexwright/dexwright/dex/DexOutputUintAtPinLaw", "expected", "(IIJJ)B"⟩ : MethodName)) hown (mvT hZ (hw _ (List.mem_of_getElem? (i := 56) rfl))) (mvT hZ (hw _ (List.mem_of_getElem? (i := 57) rfl))) (mvT hZ (hw _ (List.mem_of_getElem? (i := 58) rfl))) (mvT hZ (hw _ (List.mem_of_getElem? (i := 59) rfl))) (by decide) (backOf (W := 1) (rmX l Z a0 hw [] (6 : Int32) o p1 p3 T106.heap n0 Zd) hZ (hw _ (List.mem_of_getElem? (i := 59) rfl)) (hw _ (List.mem_of_getElem? (i := 58) rfl)) (by decide) (by decide)) (g := (mkF m 163 #[.val (.long p1), .second, .val (.int p2), .val (.long p3), .second, .val (.int o), .val (.ref a101), .val (.ref z106)] [(.long p3), (.long p1), (.int o), (.int (6 : Int32)), (.int (own_up o p3 (own_nm p1 8) 4 6))])) rfl (by rw [hml]; rfl) (argsL := [(.int (6 : Int32)), (.int o), (.long p1), (.long p3)]) (rest := [(.int (own_up o p3 (own_nm p1 8) 4 6))]) (lenOf pd_X rfl) rfl (by show 2 * 0 + _ ≤ _; exact Nat.le_of_eq rfl) (hb hby at_163) (fun _ _ => ⟨rfl, hh113, (by decide : 1 + 1 + 1 + 0 ≤ _), (by decide : 2 + 64 + 8 + 0 ≤ _)⟩)
  dsimp only [Pt.U, Pt.locs, Pt.cells, Pt.slots] at X114 l114 y114 z114 st114 hQ114
  subst l114 y114 z114
  obtain ⟨rfl, N114, hh114⟩ := hQ114
  refine own_st (S' := T114.setTop (mkF m 166 #[.val (.long p1), .second, .val (.int p2), .val (.long p3), .second, .val (.int o), .val (.ref a101), .val (.ref z106)] [(.int (own_exp (6 : Int32) o p1 p3)), (.int (own_up o p3 (own_nm p1 8) 4 6))])) st114 ?_
  have Nx6 := Fr.app Nx5 N114
  refine own_st (S' := T114.setTop (mkF m 169 #[.val (.long p1), .second, .val (.int p2), .val (.long p3), .second, .val (.int o), .val (.ref a101), .val (.ref z106)] [])) (fun _ kont => XS.icmpNo X114.here hx rfl (hb hby at_166) rfl ((own_i_ne _ _).trans (decide_eq_false (p := Int32.toInt (own_up o p3 (own_nm p1 8) 4 6) ≠ Int32.toInt (own_exp (6 : Int32) o p1 p3)) (fun h => h (congrArg Int32.toInt (own_f6 o ho0 ho4 p1 p3))))) kont) ?_
  refine own_st (S' := T114.setTop (mkF m 171 #[.val (.long p1), .second, .val (.int p2), .val (.long p3), .second, .val (.int o), .val (.ref a101), .val (.ref z106)] [(.ref z106)])) (fun _ kont => XS.aload X114.here hx rfl (hb hby at_169) rfl rfl kont) ?_
  refine own_st (S' := T114.setTop (mkF m 173 #[.val (.long p1), .second, .val (.int p2), .val (.long p3), .second, .val (.int o), .val (.ref a101), .val (.ref z106)] [(.int (7 : Int32)), (.ref z106)])) (fun _ kont => XS.bipush X114.here hx rfl (hb hby at_171) kont) ?_
  refine own_st (S' := T114.setTop (mkF m 174 #[.val (.long p1), .second, .val (.int p2), .val (.long p3), .second, .val (.int o), .val (.ref a101), .val (.ref z106)] [(.int (own_up o p3 (own_nm p1 8) 4 7))])) (own_ldB X114 hx hZ hh114 V106 (by decide) (by decide) (g := (mkF m 173 #[.val (.long p1), .second, .val (.int p2), .val (.long p3), .second, .val (.int o), .val (.ref a101), .val (.ref z106)] [(.int (7 : Int32)), (.ref z106)])) rfl rfl (hb hby at_173)) ?_
  refine own_st (S' := T114.setTop (mkF m 176 #[.val (.long p1), .second, .val (.int p2), .val (.long p3), .second, .val (.int o), .val (.ref a101), .val (.ref z106)] [(.int (7 : Int32)), (.int (own_up o p3 (own_nm p1 8) 4 7))])) (fun _ kont => XS.bipush X114.here hx rfl (hb hby at_174) kont) ?_
  refine own_st (S' := T114.setTop (mkF m 178 #[.val (.long p1), .second, .val (.int p2), .val (.long p3), .second, .val (.int o), .val (.ref a101), .val (.ref z106)] [(.int o), (.int (7 : Int32)), (.int (own_up o p3 (own_nm p1 8) 4 7))])) (fun _ kont => XS.iload X114.here hx rfl (hb hby at_176) rfl kont) ?_
  refine own_st (S' := T114.setTop (mkF m 179 #[.val (.long p1), .second, .val (.int p2), .val (.long p3), .second, .val (.int o), .val (.ref a101), .val (.ref z106)] [(.long p1), (.int o), (.int (7 : Int32)), (.int (own_up o p3 (own_nm p1 8) 4 7))])) (fun _ kont => XT.lloadN X114.here hx rfl (hb hby at_178) rfl kont) ?_
  refine own_st (S' := T114.setTop (mkF m 180 #[.val (.long p1), .second, .val (.int p2), .val (.long p3), .second, .val (.int o), .val (.ref a101), .val (.ref z106)] [(.long p3), (.long p1), (.int o), (.int (7 : Int32)), (.int (own_up o p3 (own_nm p1 8) 4 7))])) (fun _ kont => XT.lloadN X114.here hx rfl (hb hby at_179) rfl kont) ?_
  obtain ⟨_, _, ⟨T115, L115, k115, n115⟩, -, X115, ⟨Lc115, hQ115, l115, y115, z115⟩, st115⟩ := Jvm.LawKit.callS X114 hx (y := (⟨"com/example/dexwright/dexwright/dex/DexOutputUintAtPinLaw", "expected", "(IIJJ)B"⟩ : MethodName)) hown (mvT hZ (hw _ (List.mem_of_getElem? (i := 56) rfl))) (mvT hZ (hw _ (List.mem_of_getElem? (i := 57) rfl))) (mvT hZ (hw _ (List.mem_of_getElem? (i := 58) rfl))) (mvT hZ (hw _ (List.mem_of_getElem? (i := 59) rfl))) (by decide) (backOf (W := 1) (rmX l Z a0 hw [] (7 : Int32) o p1 p3 T106.heap n0 Zd) hZ (hw _ (List.mem_of_getElem? (i := 59) rfl)) (hw _ (List.mem_of_getElem? (i := 58) rfl)) (by decide) (by decide)) (g := (mkF m 180 #[.val (.long p1), .second, .val (.int p2), .val (.long p3), .second, .val (.int o), .val (.ref a101), .val (.ref z106)] [(.long p3), (.long p1), (.int o), (.int (7 : Int32)), (.int (own_up o p3 (own_nm p1 8) 4 7))])) rfl (by rw [hml]; rfl) (argsL := [(.int (7 : Int32)), (.int o), (.long p1), (.long p3)]) (rest := [(.int (own_up o p3 (own_nm p1 8) 4 7))]) (lenOf pd_X rfl) rfl (by show 2 * 0 + _ ≤ _; exact Nat.le_of_eq rfl) (hb hby at_180) (fun _ _ => ⟨rfl, hh114, (by decide : 1 + 1 + 1 + 0 ≤ _), (by decide : 2 + 64 + 8 + 0 ≤ _)⟩)
  dsimp only [Pt.U, Pt.locs, Pt.cells, Pt.slots] at X115 l115 y115 z115 st115 hQ115
  subst l115 y115 z115
  obtain ⟨rfl, N115, hh115⟩ := hQ115
  refine own_st (S' := T115.setTop (mkF m 183 #[.val (.long p1), .second, .val (.int p2), .val (.long p3), .second, .val (.int o), .val (.ref a101), .val (.ref z106)] [(.int (own_exp (7 : Int32) o p1 p3)), (.int (own_up o p3 (own_nm p1 8) 4 7))])) st115 ?_
  have Nx7 := Fr.app Nx6 N115
  refine own_st (S' := T115.setTop (mkF m 186 #[.val (.long p1), .second, .val (.int p2), .val (.long p3), .second, .val (.int o), .val (.ref a101), .val (.ref z106)] [])) (fun _ kont => XS.icmpNo X115.here hx rfl (hb hby at_183) rfl ((own_i_ne _ _).trans (decide_eq_false (p := Int32.toInt (own_up o p3 (own_nm p1 8) 4 7) ≠ Int32.toInt (own_exp (7 : Int32) o p1 p3)) (fun h => h (congrArg Int32.toInt (own_f7 o ho0 ho4 p1 p3))))) kont) ?_
  refine own_st (S' := T115.setTop (mkF m 187 #[.val (.long p1), .second, .val (.int p2), .val (.long p3), .second, .val (.int o), .val (.ref a101), .val (.ref z106)] [(.int (1 : Int32))])) (fun _ kont => XS.iconst X115.here hx rfl (hb hby at_186) kont) ?_
  refine own_st (S' := T115.setTop (mkF m 191 #[.val (.long p1), .second, .val (.int p2), .val (.long p3), .second, .val (.int o), .val (.ref a101), .val (.ref z106)] [(.int (1 : Int32))])) (fun _ kont => XS.goto X115.here hx rfl (pc0 := 187) (pc' := 191) rfl (hb hby at_187) (by decide) (by decide) kont) ?_
  refine own_end X115 (Q := (Q0 Z p1 p2 p3 h0 n0)) (some (.int (1 : Int32))) Bd.notSynchronized (fun h => by rw [Bd.returns] at h; cases h) (fun fs hr => retN X115 hx (t := .boolean) Bd.returns (by simp) (hb hby at_191) hr) ?_ (by decide) (by decide)
  rw [hh115]
  exact ⟨rfl, Nx7⟩
set_option maxRecDepth 65536 in
set_option maxHeartbeats 40000000 in
theorem comes_1 {Post : Tables → Env → Array Value → State → Outcome → State → Prop} (hpost : ∀ tb e args s v u, (limb_1_1.after args s (.returned v) u = true ∧ limb_1_2.after args s (.returned v) u = true ∧ True) → FrameEnd s (.returned v) u (Jvm.fieldLocs frame_1_writes args s ++ Jvm.arrayLocs frame_1_arrays args s ++ Jvm.staticLocs frame_1_statics s) 16 256 → Post tb e args s (.returned v) u) :
    ArmFor flags0 classFile x code maxLocals ret World_1 tables_1 room_1 Calls_1 rest_1 Pre_1 Post := by
  intro l hfl _ _ p e ha hc hk s m args below hf hA hF happ hP
  obtain ⟨hcalls, hrest, hpre⟩ := hP
  obtain ⟨-, -, -, hnamed, -, -, -, hat⟩ := (Spec.applies_iff hf).mp happ
  obtain ⟨hg, hn⟩ := and_e (Cond.before_iff.mp (show (Jvm.Cond.and given_1 narrow_1).before args s = true from hpre))
  obtain ⟨hg0, hr0⟩ := and_e hg
  obtain ⟨hk0, hr1⟩ := and_e hr0
  obtain ⟨hk1, hr2⟩ := and_e hr1
  have hk2 := hr2
  obtain ⟨w0, w1, w2, rfl⟩ : ∃ w0 w1 w2 : Value, args = #[w0, w1, w2] := by
    have hs : args.size = 3 := by simpa [Cond.value, given_1] using hg0
    obtain ⟨L⟩ := args
    match L, hs with
    | [w0, w1, w2], _ => exact ⟨w0, w1, w2, rfl⟩
  have hw := fun d (hd : d ∈ tables_1) => atoms_spec (ws := Jvm.Cond.code x code maxLocals ret :: tables_1) hat d (List.mem_cons_of_mem _ hd)
  obtain ⟨i0, ee0⟩ := isL_v hk0
  obtain rfl : w0 = (.long i0) := Option.some.inj ee0
  obtain ⟨i1, ee1⟩ := is_v hk1
  obtain rfl : w1 = (.int i1) := Option.some.inj ee1
  obtain ⟨i2, ee2⟩ := isL_v hk2
  obtain rfl : w2 = (.long i2) := Option.some.inj ee2
  obtain ⟨n, o, h1, h2, h3, _, L, rfl, ⟨rfl, N⟩, hq⟩ := rm0 l s _ hw tables_1 i0 i1 i2 s.heap s.heap.size (Nat.le_refl _) p e ha hc hk s m _ below hf ((Spec.applies_iff_loose hf).mp happ).1 ⟨rfl, State.Warmed39.refl s, rfl⟩ trivial
  refine ⟨n, _, h1, h2, h3, hpost _ _ _ _ _ _ ⟨Cond.after_iff.mpr rfl, Cond.after_iff.mpr (eq_i res_at (Term.int_eval (1)) rfl), trivial⟩ ⟨hq.1, hq.2.1, (hq.2.2.sift fun y hy => Or.inr (N y hy)).mono (by decide) (by decide)⟩⟩
theorem main_1_1 : Claimed_1_1 := comes_1 fun _ _ _ _ _ _ h hF => ⟨h.1, hF⟩
theorem main_1_2 : Claimed_1_2 := comes_1 fun _ _ _ _ _ _ h hF => ⟨h.2.1, hF⟩
end Jvm.Pilot.@@N@@
namespace Jvm.Pilot.@@N@@
open Jvm Jvm.ClassFile Sem Op Lib Jvm.Free Jvm.Stand Jvm.Pilot.@@N@@.Jvm.D
/-! MADE BY PROGRAM (witnessworld.py) out of the Statement's table words and the real class files: 12 classes; the members and pool entries that the words name. The judged class is class 1, her method 1. -/
namespace start1
open Jvm.ClassFile
def u (s : String) : CpInfo := .utf8 (stringToUtf16 s)
/-- a pool by its gaps: so many unusable entries, then the entry; so many at the end -/
def gap : Nat → List CpInfo → List CpInfo
  | 0, r => r
  | n + 1, r => .unusable :: gap n r
def poolList (es : List (Nat × CpInfo)) (last : Nat) : List CpInfo := es.foldr (fun e r => gap e.1 (e.2 :: r)) (gap last [])
def pool (es : List (Nat × CpInfo)) (last : Nat) : Array CpInfo := ⟨poolList es last⟩
def fileOf (pool : Array CpInfo) (this : Nat) (attrs : Array Attribute := #[]) (ms : Array MethodInfo := #[]) (fl : Nat := 33) (sup : Nat := 0) (ifs : Array Nat := #[]) (fds : Array FieldInfo := #[]) : ClassFile where
  minorVersion := 0
  majorVersion := 65
  constantPool := pool
  accessFlags := fl
  thisClass := this
  superClass := sup
  interfaces := ifs
  fields := fds
  methods := ms
  attributes := attrs
def plain (name : String) (sup : Option ClassId) : Class where
  name := name
  kind := .ordinary
  loader := none
  accessFlags := 33
  super := sup
  interfaces := #[]
  cf := none
  fields := #[]
  methods := #[]
  instanceTypes := #[]
  staticTypes := #[]
  resolved := #[]
  callSites := []
  init := .initialized
  statics := none
  mirror := none

def pool0 : Array CpInfo := pool [(5, u "<init>"), (0, u "()V"), (1, .class_ 10), (1, u "java/lang/Object")] 113

def k0c0 : Code := { maxStack := 0, maxLocals := 1, code := object_method_1_code, exceptionTable := #[], attributes := #[] }
def k0m0 : Method := { name := "<init>", desc := "()V", sig := { parameters := [], returnType := none }, accessFlags := 1, code := some k0c0 }
/-- java/lang/Object -/
def k0 : Class := { plain "java/lang/Object" none with
  accessFlags := 33
  interfaces := #[]
  cf := some (fileOf pool0 8 #[] #[{ accessFlags := 1, nameIndex := 5, descriptorIndex := 6, attributes := #[] }] 33 0 #[] #[])
  fields := #[]
  methods := #[k0m0]
  instanceTypes := #[]
  staticTypes := #[]
  resolved := Array.replicate 124 none
  statics := none }

def pool1 : Array CpInfo := pool [(2, .class_ 4), (0, .nameAndType 5 6), (0, u "java/lang/Object"), (0, u "<init>"), (0, u "()V"), (0, .integer 2147483647), (0, .class_ 9), (0, u "com/example/dexwright/dexwright/dex/DexOutput"), (0, .methodref 8 3), (0, .methodref 8 12), (0, .nameAndType 13 14), (0, u "number"), (0, u "(JI)V"), (0, .methodref 8 16), (0, .nameAndType 17 18), (0, u "uintAt"), (0, u "(IJ)V"), (0, .methodref 8 20), (0, .nameAndType 21 22), (0, u "size"), (0, u "()I"), (0, .methodref 8 24), (0, .nameAndType 25 26), (0, u "toByteArray"), (0, u "()[B"), (0, .methodref 28 29), (0, .class_ 30), (0, .nameAndType 31 32), (0, u "com/example/dexwright/dexwright/dex/DexOutputUintAtPinLaw"), (0, u "expected"), (0, u "(IIJJ)B"), (0, .long 4294967295), (1, .long 255), (1, .long 256), (1, .long 65536), (1, .long 16777216), (3, u "law"), (0, u "(JIJ)Z")] 5

def k1m0 : Method := { name := "<init>", desc := "()V", sig := { parameters := [], returnType := none }, accessFlags := 1, code := none }
def k1c1 : Code := { maxStack := 7, maxLocals := 8, code := code, exceptionTable := #[], attributes := #[] }
def k1m1 : Method := { name := "law", desc := "(JIJ)Z", sig := { parameters := [.long, .int, .long], returnType := some .boolean }, accessFlags := 9, code := some k1c1 }
def k1c2 : Code := { maxStack := 4, maxLocals := 9, code := method_3_code, exceptionTable := #[], attributes := #[] }
def k1m2 : Method := { name := "expected", desc := "(IIJJ)B", sig := { parameters := [.int, .int, .long, .long], returnType := some .byte }, accessFlags := 10, code := some k1c2 }
/-- com/example/dexwright/dexwright/dex/DexOutputUintAtPinLaw -/
def k1 : Class := { plain "com/example/dexwright/dexwright/dex/DexOutputUintAtPinLaw" (some 0) with
  accessFlags := 49
  interfaces := #[]
  cf := some (fileOf pool1 28 #[] #[{ accessFlags := 1, nameIndex := 5, descriptorIndex := 6, attributes := #[] }, { accessFlags := 9, nameIndex := 45, descriptorIndex := 46, attributes := #[] }, { accessFlags := 10, nameIndex := 31, descriptorIndex := 32, attributes := #[] }] 49 2 #[] #[])
  fields := #[]
  methods := #[k1m0, k1m1, k1m2]
  instanceTypes := #[]
  staticTypes := #[]
  resolved := Array.replicate 52 none
  statics := none }

def pool2 : Array CpInfo := pool [(1, .methodref 2 3), (0, .class_ 4), (0, .nameAndType 5 6), (0, u "java/lang/Object"), (0, u "<init>"), (0, u "()V"), (0, .class_ 8), (0, u "com/example/dexwright/dexwright/dex/DexOutput"), (0, .fieldref 7 10), (0, .nameAndType 11 12), (0, u "bytes"), (0, u "[B"), (0, .fieldref 7 14), (0, .nameAndType 15 16), (0, u "size"), (0, u "I"), (0, .methodref 7 18), (0, .nameAndType 19 20), (0, u "ensure"), (0, u "(I)V"), (0, .methodref 7 22), (0, .nameAndType 23 20), (0, u "ubyte"), (19, .methodref 44 45), (0, .class_ 46), (0, .nameAndType 47 48), (0, u "java/util/Arrays"), (0, u "copyOf"), (0, u "([BI)[B"), (6, u "INITIAL_CAPACITY"), (4, u "()I"), (1, u "number"), (0, u "(JI)V"), (5, u "uintAt"), (0, u "(IJ)V"), (0, u "toByteArray"), (0, u "()[B")] 2

def k2c0 : Code := { maxStack := 2, maxLocals := 1, code := prog_76_method_1_code, exceptionTable := #[], attributes := #[] }
def k2m0 : Method := { name := "<init>", desc := "()V", sig := { parameters := [], returnType := none }, accessFlags := 0, code := some k2c0 }
def k2c1 : Code := { maxStack := 1, maxLocals := 1, code := prog_76_method_2_code, exceptionTable := #[], attributes := #[] }
def k2m1 : Method := { name := "size", desc := "()I", sig := { parameters := [], returnType := some .int }, accessFlags := 0, code := some k2c1 }
def k2c2 : Code := { maxStack := 5, maxLocals := 2, code := prog_76_method_3_code, exceptionTable := #[], attributes := #[] }
def k2m2 : Method := { name := "ubyte", desc := "(I)V", sig := { parameters := [.int], returnType := none }, accessFlags := 0, code := some k2c2 }
def k2c3 : Code := { maxStack := 5, maxLocals := 5, code := prog_76_method_6_code, exceptionTable := #[], attributes := #[] }
def k2m3 : Method := { name := "number", desc := "(JI)V", sig := { parameters := [.long, .int], returnType := none }, accessFlags := 0, code := some k2c3 }
def k2c4 : Code := { maxStack := 6, maxLocals := 5, code := prog_76_method_12_code, exceptionTable := #[], attributes := #[] }
def k2m4 : Method := { name := "uintAt", desc := "(IJ)V", sig := { parameters := [.int, .long], returnType := none }, accessFlags := 0, code := some k2c4 }
def k2c5 : Code := { maxStack := 2, maxLocals := 1, code := prog_76_method_13_code, exceptionTable := #[], attributes := #[] }
def k2m5 : Method := { name := "toByteArray", desc := "()[B", sig := { parameters := [], returnType := some (.array .byte) }, accessFlags := 0, code := some k2c5 }
def k2c6 : Code := { maxStack := 5, maxLocals := 2, code := prog_76_method_14_code, exceptionTable := #[], attributes := #[] }
def k2m6 : Method := { name := "ensure", desc := "(I)V", sig := { parameters := [.int], returnType := none }, accessFlags := 2, code := some k2c6 }
/-- com/example/dexwright/dexwright/dex/DexOutput -/
def k2 : Class := { plain "com/example/dexwright/dexwright/dex/DexOutput" (some 0) with
  accessFlags := 48
  interfaces := #[]
  cf := some (fileOf pool2 7 #[] #[{ accessFlags := 0, nameIndex := 5, descriptorIndex := 6, attributes := #[] }, { accessFlags := 0, nameIndex := 15, descriptorIndex := 60, attributes := #[] }, { accessFlags := 0, nameIndex := 23, descriptorIndex := 20, attributes := #[] }, { accessFlags := 0, nameIndex := 62, descriptorIndex := 63, attributes := #[] }, { accessFlags := 0, nameIndex := 69, descriptorIndex := 70, attributes := #[] }, { accessFlags := 0, nameIndex := 71, descriptorIndex := 72, attributes := #[] }, { accessFlags := 2, nameIndex := 19, descriptorIndex := 20, attributes := #[] }] 48 2 #[] #[{ accessFlags := 26, nameIndex := 55, descriptorIndex := 16, attributes := #[] }, { accessFlags := 2, nameIndex := 11, descriptorIndex := 12, attributes := #[] }, { accessFlags := 2, nameIndex := 15, descriptorIndex := 16, attributes := #[] }])
  fields := #[{ name := "INITIAL_CAPACITY", type := .int, accessFlags := 26, slot := 0, constantValue := 0 }, { name := "bytes", type := (.array .byte), accessFlags := 2, slot := 0, constantValue := 0 }, { name := "size", type := .int, accessFlags := 2, slot := 1, constantValue := 0 }]
  methods := #[k2m0, k2m1, k2m2, k2m3, k2m4, k2m5, k2m6]
  instanceTypes := #[(.array .byte), .int]
  staticTypes := #[.int]
  resolved := Array.replicate 75 none
  statics := none }

def pool3 : Array CpInfo := pool [(2, .class_ 4), (1, u "java/lang/Object"), (0, u "<init>"), (0, u "()V"), (7, .class_ 16), (1, u "java/util/Arrays"), (57, .class_ 76), (1, u "java/util/Arrays$NaturalOrder"), (36, .class_ 115), (1, u "java/util/Arrays$LegacyMergeSort"), (1, u "Z"), (32, .methodref 151 152), (0, .class_ 153), (0, .nameAndType 154 155), (0, u "java/lang/System"), (0, u "arraycopy"), (0, u "(Ljava/lang/Object;ILjava/lang/Object;II)V"), (146, u "copyOf"), (1, .methodref 305 306), (0, .class_ 307), (0, .nameAndType 308 309), (0, u "java/lang/Math"), (0, u "min"), (0, u "(II)I"), (65, .class_ 376), (0, u "java/util/Arrays$ArrayList"), (68, u "$assertionsDisabled"), (269, u "MIN_ARRAY_SORT_GRAN"), (0, u "I"), (2, u "INSERTIONSORT_THRESHOLD"), (149, u "([BI)[B"), (105, .class_ 976), (0, u "java/util/Arrays$ArrayItr")] 52

def k3m0 : Method := { name := "<init>", desc := "()V", sig := { parameters := [], returnType := none }, accessFlags := 2, code := none }
def k3c1 : Code := { maxStack := 6, maxLocals := 3, code := jdk_65_method_121_code, exceptionTable := #[], attributes := #[] }
def k3m1 : Method := { name := "copyOf", desc := "([BI)[B", sig := { parameters := [(.array .byte), .int], returnType := some (.array .byte) }, accessFlags := 9, code := some k3c1 }
/-- java/util/Arrays -/
def k3 : Class := { plain "java/util/Arrays" (some 0) with
  accessFlags := 49
  interfaces := #[]
  cf := some (fileOf pool3 14 #[.nestMembers #[975, 375, 113, 74]] #[{ accessFlags := 2, nameIndex := 5, descriptorIndex := 6, attributes := #[] }, { accessFlags := 9, nameIndex := 302, descriptorIndex := 869, attributes := #[] }] 49 2 #[] #[{ accessFlags := 26, nameIndex := 715, descriptorIndex := 716, attributes := #[] }, { accessFlags := 26, nameIndex := 719, descriptorIndex := 716, attributes := #[] }, { accessFlags := 4120, nameIndex := 445, descriptorIndex := 117, attributes := #[] }])
  fields := #[{ name := "MIN_ARRAY_SORT_GRAN", type := .int, accessFlags := 26, slot := 0, constantValue := 0 }, { name := "INSERTIONSORT_THRESHOLD", type := .int, accessFlags := 26, slot := 1, constantValue := 0 }, { name := "$assertionsDisabled", type := .boolean, accessFlags := 4120, slot := 2, constantValue := 0 }]
  methods := #[k3m0, k3m1]
  instanceTypes := #[]
  staticTypes := #[.int, .int, .boolean]
  resolved := Array.replicate 1029 none
  statics := none }

def pool4 : Array CpInfo := pool [(1, .class_ 2), (0, u "java/lang/Math"), (1, .class_ 6), (1, u "java/lang/Object"), (0, u "<init>"), (0, u "()V"), (89, .class_ 100), (1, u "java/lang/Math$RandomNumberGeneratorHolder"), (71, u "negativeZeroFloatBits"), (0, u "J"), (2, u "negativeZeroDoubleBits"), (24, u "min"), (43, u "$assertionsDisabled"), (0, u "Z"), (88, u "(II)I"), (2, u "twoToTheDoubleScaleDown"), (0, u "D"), (4, u "twoToTheDoubleScaleUp"), (9, u "E"), (3, u "PI"), (2, u "TAU"), (2, u "DEGREES_TO_RADIANS"), (0, u "RADIANS_TO_DEGREES")] 94

def k4m0 : Method := { name := "<init>", desc := "()V", sig := { parameters := [], returnType := none }, accessFlags := 2, code := none }
def k4c1 : Code := { maxStack := 2, maxLocals := 2, code := jdk_29_method_69_code, exceptionTable := #[], attributes := #[] }
def k4m1 : Method := { name := "min", desc := "(II)I", sig := { parameters := [.int, .int], returnType := some .int }, accessFlags := 9, code := some k4c1 }
/-- java/lang/Math -/
def k4 : Class := { plain "java/lang/Math" (some 0) with
  accessFlags := 49
  interfaces := #[]
  cf := some (fileOf pool4 1 #[.nestMembers #[98]] #[{ accessFlags := 2, nameIndex := 7, descriptorIndex := 8, attributes := #[] }, { accessFlags := 9, nameIndex := 201, descriptorIndex := 335, attributes := #[] }] 49 4 #[] #[{ accessFlags := 25, nameIndex := 354, descriptorIndex := 339, attributes := #[] }, { accessFlags := 25, nameIndex := 358, descriptorIndex := 339, attributes := #[] }, { accessFlags := 25, nameIndex := 361, descriptorIndex := 339, attributes := #[] }, { accessFlags := 26, nameIndex := 364, descriptorIndex := 339, attributes := #[] }, { accessFlags := 26, nameIndex := 365, descriptorIndex := 339, attributes := #[] }, { accessFlags := 26, nameIndex := 172, descriptorIndex := 173, attributes := #[] }, { accessFlags := 26, nameIndex := 176, descriptorIndex := 173, attributes := #[] }, { accessFlags := 8, nameIndex := 344, descriptorIndex := 339, attributes := #[] }, { accessFlags := 8, nameIndex := 338, descriptorIndex := 339, attributes := #[] }, { accessFlags := 4120, nameIndex := 245, descriptorIndex := 246, attributes := #[] }])
  fields := #[{ name := "E", type := .double, accessFlags := 25, slot := 0, constantValue := 0 }, { name := "PI", type := .double, accessFlags := 25, slot := 1, constantValue := 0 }, { name := "TAU", type := .double, accessFlags := 25, slot := 2, constantValue := 0 }, { name := "DEGREES_TO_RADIANS", type := .double, accessFlags := 26, slot := 3, constantValue := 0 }, { name := "RADIANS_TO_DEGREES", type := .double, accessFlags := 26, slot := 4, constantValue := 0 }, { name := "negativeZeroFloatBits", type := .long, accessFlags := 26, slot := 5, constantValue := 0 }, { name := "negativeZeroDoubleBits", type := .long, accessFlags := 26, slot := 6, constantValue := 0 }, { name := "twoToTheDoubleScaleUp", type := .double, accessFlags := 8, slot := 7, constantValue := 0 }, { name := "twoToTheDoubleScaleDown", type := .double, accessFlags := 8, slot := 8, constantValue := 0 }, { name := "$assertionsDisabled", type := .boolean, accessFlags := 4120, slot := 9, constantValue := 0 }]
  methods := #[k4m0, k4m1]
  instanceTypes := #[]
  staticTypes := #[.double, .double, .double, .double, .double, .long, .long, .double, .double, .boolean]
  resolved := Array.replicate 460 none
  statics := none }

def pool5 : Array CpInfo := pool [(2, .class_ 4), (1, u "java/lang/Object"), (0, u "<init>"), (0, u "()V"), (1, .class_ 10), (1, u "java/lang/System"), (0, u "allowSecurityManager"), (0, u "I"), (16, u "cons"), (0, u "Ljava/io/Console;"), (77, .class_ 110), (1, u "java/lang/System$CallersHolder"), (43, u "initialErrStream"), (0, u "Ljava/io/PrintStream;"), (19, u "security"), (0, u "Ljava/lang/SecurityManager;"), (31, .class_ 209), (0, u "java/lang/System$1"), (7, u "props"), (0, u "Ljava/util/Properties;"), (2, u "lineSeparator"), (0, u "Ljava/lang/String;"), (96, .class_ 321), (1, u "java/lang/System$LoggerFinder"), (5, .class_ 328), (0, u "java/lang/System$Logger"), (67, u "err"), (2, u "out"), (91, u "notSupportedJnuEncoding"), (15, u "in"), (17, u "initialIn"), (0, u "Ljava/io/InputStream;"), (35, u "bootLayer"), (0, u "Ljava/lang/ModuleLayer;"), (99, .class_ 664), (0, u "java/lang/System$2"), (9, u "NEVER"), (2, u "MAYBE"), (49, u "arraycopy"), (0, u "(Ljava/lang/Object;ILjava/lang/Object;II)V"), (72, .class_ 802), (0, u "java/lang/System$Logger$Level")] 31

def k5m0 : Method := { name := "<init>", desc := "()V", sig := { parameters := [], returnType := none }, accessFlags := 2, code := none }
def k5m1 : Method := { name := "arraycopy", desc := "(Ljava/lang/Object;ILjava/lang/Object;II)V", sig := { parameters := [(.object "java/lang/Object"), .int, (.object "java/lang/Object"), .int, .int], returnType := none }, accessFlags := 265, code := none }
/-- java/lang/System -/
def k5 : Class := { plain "java/lang/System" (some 0) with
  accessFlags := 49
  interfaces := #[]
  cf := some (fileOf pool5 8 #[.nestMembers #[319, 327, 801, 108, 663, 208]] #[{ accessFlags := 2, nameIndex := 5, descriptorIndex := 6, attributes := #[] }, { accessFlags := 265, nameIndex := 727, descriptorIndex := 728, attributes := #[] }] 49 2 #[] #[{ accessFlags := 25, nameIndex := 507, descriptorIndex := 526, attributes := #[] }, { accessFlags := 25, nameIndex := 399, descriptorIndex := 155, attributes := #[] }, { accessFlags := 25, nameIndex := 396, descriptorIndex := 155, attributes := #[] }, { accessFlags := 10, nameIndex := 525, descriptorIndex := 526, attributes := #[] }, { accessFlags := 26, nameIndex := 674, descriptorIndex := 12, attributes := #[] }, { accessFlags := 26, nameIndex := 677, descriptorIndex := 12, attributes := #[] }, { accessFlags := 10, nameIndex := 11, descriptorIndex := 12, attributes := #[] }, { accessFlags := 74, nameIndex := 175, descriptorIndex := 176, attributes := #[] }, { accessFlags := 10, nameIndex := 491, descriptorIndex := 222, attributes := #[] }, { accessFlags := 74, nameIndex := 29, descriptorIndex := 30, attributes := #[] }, { accessFlags := 74, nameIndex := 154, descriptorIndex := 155, attributes := #[] }, { accessFlags := 10, nameIndex := 217, descriptorIndex := 218, attributes := #[] }, { accessFlags := 10, nameIndex := 221, descriptorIndex := 222, attributes := #[] }, { accessFlags := 8, nameIndex := 562, descriptorIndex := 563, attributes := #[] }])
  fields := #[{ name := "in", type := (.object "java/io/InputStream"), accessFlags := 25, slot := 0, constantValue := 0 }, { name := "out", type := (.object "java/io/PrintStream"), accessFlags := 25, slot := 1, constantValue := 0 }, { name := "err", type := (.object "java/io/PrintStream"), accessFlags := 25, slot := 2, constantValue := 0 }, { name := "initialIn", type := (.object "java/io/InputStream"), accessFlags := 10, slot := 3, constantValue := 0 }, { name := "NEVER", type := .int, accessFlags := 26, slot := 4, constantValue := 0 }, { name := "MAYBE", type := .int, accessFlags := 26, slot := 5, constantValue := 0 }, { name := "allowSecurityManager", type := .int, accessFlags := 10, slot := 6, constantValue := 0 }, { name := "security", type := (.object "java/lang/SecurityManager"), accessFlags := 74, slot := 7, constantValue := 0 }, { name := "notSupportedJnuEncoding", type := (.object "java/lang/String"), accessFlags := 10, slot := 8, constantValue := 0 }, { name := "cons", type := (.object "java/io/Console"), accessFlags := 74, slot := 9, constantValue := 0 }, { name := "initialErrStream", type := (.object "java/io/PrintStream"), accessFlags := 74, slot := 10, constantValue := 0 }, { name := "props", type := (.object "java/util/Properties"), accessFlags := 10, slot := 11, constantValue := 0 }, { name := "lineSeparator", type := (.object "java/lang/String"), accessFlags := 10, slot := 12, constantValue := 0 }, { name := "bootLayer", type := (.object "java/lang/ModuleLayer"), accessFlags := 8, slot := 13, constantValue := 0 }]
  methods := #[k5m0, k5m1]
  instanceTypes := #[]
  staticTypes := #[(.object "java/io/InputStream"), (.object "java/io/PrintStream"), (.object "java/io/PrintStream"), (.object "java/io/InputStream"), .int, .int, .int, (.object "java/lang/SecurityManager"), (.object "java/lang/String"), (.object "java/io/Console"), (.object "java/io/PrintStream"), (.object "java/util/Properties"), (.object "java/lang/String"), (.object "java/lang/ModuleLayer")]
  resolved := Array.replicate 834 none
  statics := none }

def pool6 : Array CpInfo := pool [(1, u "java/lang/Cloneable"), (0, .class_ 1), (0, u "java/lang/Object"), (0, .class_ 3)] 3

/-- java/lang/Cloneable -/
def k6 : Class := { plain "java/lang/Cloneable" (some 0) with
  accessFlags := 1537
  interfaces := #[]
  cf := some (fileOf pool6 2 #[] #[] 1537 4 #[] #[])
  fields := #[]
  methods := #[]
  instanceTypes := #[]
  staticTypes := #[]
  resolved := Array.replicate 8 none
  statics := none }

def pool7 : Array CpInfo := pool [(1, u "java/io/Serializable"), (0, .class_ 1), (0, u "java/lang/Object"), (0, .class_ 3)] 3

/-- java/io/Serializable -/
def k7 : Class := { plain "java/io/Serializable" (some 0) with
  accessFlags := 1537
  interfaces := #[]
  cf := some (fileOf pool7 2 #[] #[] 1537 4 #[] #[])
  fields := #[]
  methods := #[]
  instanceTypes := #[]
  staticTypes := #[]
  resolved := Array.replicate 8 none
  statics := none }

/-- the primitive byte -/
def k8 : Class := { plain "byte" none with kind := .primitive 'B', accessFlags := 0x411 }
/-- [B -/
def k9 : Class := { plain "[B" (some 0) with kind := .array 8 .byte, interfaces := #[6, 7], accessFlags := 1041 }

/-- the primitive int -/
def k10 : Class := { plain "int" none with kind := .primitive 'I', accessFlags := 0x411 }
/-- [I -/
def k11 : Class := { plain "[I" (some 0) with kind := .array 10 .int, interfaces := #[6, 7], accessFlags := 1041 }

def heap : Heap := #[]
def classes : Array Class := #[k0, k1, k2, k3, k4, k5, k6, k7, k8, k9, k10, k11]
def interned : List (Array UInt16 × Addr) := []
def slotsUsed : Nat := 0
def theMethod : MethodId := ⟨1, 1⟩
def args0 : Array Value := #[.long 5, .int 9, .long 1]
def aboutOver (below : List Frame) : State where
  vm := { classes := classes, interned := interned.toArray }
  heap := heap
  slotsUsed := slotsUsed
  threads := #[{ frames := .invoking theMethod args0 :: below }]
def below0 : List Frame := [.native { method := ⟨0, 0⟩, args := #[] }]
def about1 : State := aboutOver below0
def p0 : Program := .bare "" "" ""
def e0 : Env := launch0.env 0 0 0
theorem w_frames : about1.frames = Frame.invoking theMethod args0 :: below0 := rfl
set_option maxRecDepth 65536 in
theorem w_args : argsFit about1.vm theMethod args0 = true := by decide +kernel
set_option maxRecDepth 65536 in
theorem w_heap : heapFits about1 = true := by decide +kernel
set_option maxRecDepth 65536 in
theorem w_runnable : about1.curStatus? = some .runnable := by decide +kernel
set_option maxRecDepth 65536 in
theorem w_alone : about1.alone = true := by decide +kernel
set_option maxRecDepth 65536 in
theorem w_named : about1.methodNamed? x = some theMethod := by decide +kernel
set_option maxRecDepth 65536 in
theorem w_hears : about1.hears theMethod below0 = true := by decide +kernel
set_option maxRecDepth 65536 in
theorem w_ripe : about1.ripe theMethod args0 below0 = true := by decide +kernel
theorem w_running : about1.status = .running := rfl
set_option maxRecDepth 65536 in
theorem w_room : about1.hasRoom e0.platform room_1 = true :=
  launch0.hasRoom_least _ room_1 (by decide +kernel) (by decide +kernel) (by decide +kernel) (by decide +kernel) (by decide +kernel) (by decide +kernel)
theorem allAtoms_all (ts : List Jvm.Cond) (a : Array Jvm.Value) (st : Jvm.State) : (allAtoms ts).before a st = ts.all (fun c => c.before a st) := by
  induction ts with
  | nil => rfl
  | cons c t ih =>
    show (Jvm.Cond.and c (allAtoms t)).before a st = _
    rw [Jvm.Cond.before_and, ih, List.all_cons]
def words1 : List Jvm.Cond := Jvm.Cond.code x code maxLocals ret :: tables_1
/-- a 'code' word, met by the world's own term for the bytes: nothing is compared byte by byte -/
theorem code_word {y : MethodName} {bytes : ByteArray} {mx : Nat} {rt : Option FieldType} {a : Array Value} {s : State} {m : MethodId} {meth : Method} {c : Code} (h1 : s.methodNamed? y = some m) (h2 : s.vm.method? m = some meth) (h3 : meth.code = some c) (h4 : c.code = bytes)
    (h5 : (c.maxLocals == mx && c.exceptionTable.isEmpty && decide (c.maxStack ≤ mostOperands) && decide (meth.sig.returnType = rt) && !meth.locks && decide (parseMethodDescriptor y.desc = some meth.sig)) = true) : (Jvm.Cond.code y bytes mx rt).before a s = true := by
  simp only [Bool.and_eq_true, beq_iff_eq, Bool.not_eq_true', decide_eq_true_eq] at h5
  obtain ⟨⟨⟨⟨⟨g1, g2⟩, g3⟩, g4⟩, g5⟩, g6⟩ := h5
  simp [Cond.before, Cond.holds, Cond.value, h1, h2, h3, h4, g1, g2, g3, g4, g5, g6]
def isCode : Jvm.Cond → Bool
  | .code _ _ _ _ => true
  | _ => false
theorem all_split {L : List Jvm.Cond} {P : Jvm.Cond → Bool} (h1 : L.all (fun c => isCode c || P c) = true) (h2 : ∀ c ∈ L.filter isCode, P c = true) : L.all P = true := by
  refine List.all_eq_true.mpr fun c hc => ?_
  have h := List.all_eq_true.mp h1 c hc
  rcases Bool.eq_false_or_eq_true (isCode c) with hi | hi
  · exact h2 c (List.mem_filter.mpr ⟨hc, hi⟩)
  · simpa [hi] using h
set_option maxRecDepth 65536 in
theorem w_c0 : (Jvm.Cond.code x code maxLocals ret).before args0 about1 = true := code_word (m := ⟨1, 1⟩) (meth := k1m1) (c := k1c1) (by decide +kernel) rfl rfl rfl (by decide +kernel)
set_option maxRecDepth 65536 in
theorem w_c1 : (Jvm.Cond.code ({ cls := "com/example/dexwright/dexwright/dex/DexOutput", name := "<init>", desc := "()V" } : Jvm.MethodName) prog_76_method_1_code (1 : Nat) (Option.none : Option Jvm.ClassFile.FieldType)).before args0 about1 = true := code_word (m := ⟨2, 0⟩) (meth := k2m0) (c := k2c0) (by decide +kernel) rfl rfl rfl (by decide +kernel)
set_option maxRecDepth 65536 in
theorem w_c2 : (Jvm.Cond.code ({ cls := "java/lang/Object", name := "<init>", desc := "()V" } : Jvm.MethodName) object_method_1_code (1 : Nat) (Option.none : Option Jvm.ClassFile.FieldType)).before args0 about1 = true := code_word (m := ⟨0, 0⟩) (meth := k0m0) (c := k0c0) (by decide +kernel) rfl rfl rfl (by decide +kernel)
set_option maxRecDepth 65536 in
theorem w_c3 : (Jvm.Cond.code ({ cls := "com/example/dexwright/dexwright/dex/DexOutput", name := "number", desc := "(JI)V" } : Jvm.MethodName) prog_76_method_6_code (5 : Nat) (Option.none : Option Jvm.ClassFile.FieldType)).before args0 about1 = true := code_word (m := ⟨2, 3⟩) (meth := k2m3) (c := k2c3) (by decide +kernel) rfl rfl rfl (by decide +kernel)
set_option maxRecDepth 65536 in
theorem w_c4 : (Jvm.Cond.code ({ cls := "com/example/dexwright/dexwright/dex/DexOutput", name := "ubyte", desc := "(I)V" } : Jvm.MethodName) prog_76_method_3_code (2 : Nat) (Option.none : Option Jvm.ClassFile.FieldType)).before args0 about1 = true := code_word (m := ⟨2, 2⟩) (meth := k2m2) (c := k2c2) (by decide +kernel) rfl rfl rfl (by decide +kernel)
set_option maxRecDepth 65536 in
theorem w_c5 : (Jvm.Cond.code ({ cls := "com/example/dexwright/dexwright/dex/DexOutput", name := "ensure", desc := "(I)V" } : Jvm.MethodName) prog_76_method_14_code (2 : Nat) (Option.none : Option Jvm.ClassFile.FieldType)).before args0 about1 = true := code_word (m := ⟨2, 6⟩) (meth := k2m6) (c := k2c6) (by decide +kernel) rfl rfl rfl (by decide +kernel)
set_option maxRecDepth 65536 in
theorem w_c6 : (Jvm.Cond.code ({ cls := "com/example/dexwright/dexwright/dex/DexOutput", name := "uintAt", desc := "(IJ)V" } : Jvm.MethodName) prog_76_method_12_code (5 : Nat) (Option.none : Option Jvm.ClassFile.FieldType)).before args0 about1 = true := code_word (m := ⟨2, 4⟩) (meth := k2m4) (c := k2c4) (by decide +kernel) rfl rfl rfl (by decide +kernel)
set_option maxRecDepth 65536 in
theorem w_c7 : (Jvm.Cond.code ({ cls := "com/example/dexwright/dexwright/dex/DexOutput", name := "size", desc := "()I" } : Jvm.MethodName) prog_76_method_2_code (1 : Nat) (Option.some Jvm.ClassFile.FieldType.int)).before args0 about1 = true := code_word (m := ⟨2, 1⟩) (meth := k2m1) (c := k2c1) (by decide +kernel) rfl rfl rfl (by decide +kernel)
set_option maxRecDepth 65536 in
theorem w_c8 : (Jvm.Cond.code ({ cls := "com/example/dexwright/dexwright/dex/DexOutput", name := "toByteArray", desc := "()[B" } : Jvm.MethodName) prog_76_method_13_code (1 : Nat) (Option.some (Jvm.ClassFile.FieldType.array Jvm.ClassFile.FieldType.byte))).before args0 about1 = true := code_word (m := ⟨2, 5⟩) (meth := k2m5) (c := k2c5) (by decide +kernel) rfl rfl rfl (by decide +kernel)
set_option maxRecDepth 65536 in
theorem w_c9 : (Jvm.Cond.code ({ cls := "java/util/Arrays", name := "copyOf", desc := "([BI)[B" } : Jvm.MethodName) jdk_65_method_121_code (3 : Nat) (Option.some (Jvm.ClassFile.FieldType.array Jvm.ClassFile.FieldType.byte))).before args0 about1 = true := code_word (m := ⟨3, 1⟩) (meth := k3m1) (c := k3c1) (by decide +kernel) rfl rfl rfl (by decide +kernel)
set_option maxRecDepth 65536 in
theorem w_c10 : (Jvm.Cond.code ({ cls := "java/lang/Math", name := "min", desc := "(II)I" } : Jvm.MethodName) jdk_29_method_69_code (2 : Nat) (Option.some Jvm.ClassFile.FieldType.int)).before args0 about1 = true := code_word (m := ⟨4, 1⟩) (meth := k4m1) (c := k4c1) (by decide +kernel) rfl rfl rfl (by decide +kernel)
set_option maxRecDepth 65536 in
theorem w_c11 : (Jvm.Cond.code ({ cls := "com/example/dexwright/dexwright/dex/DexOutputUintAtPinLaw", name := "expected", desc := "(IIJJ)B" } : Jvm.MethodName) method_3_code (9 : Nat) (Option.some Jvm.ClassFile.FieldType.byte)).before args0 about1 = true := code_word (m := ⟨1, 2⟩) (meth := k1m2) (c := k1c2) (by decide +kernel) rfl rfl rfl (by decide +kernel)
def codes1 : List Jvm.Cond := [Jvm.Cond.code x code maxLocals ret, Jvm.Cond.code ({ cls := "com/example/dexwright/dexwright/dex/DexOutput", name := "<init>", desc := "()V" } : Jvm.MethodName) prog_76_method_1_code (1 : Nat) (Option.none : Option Jvm.ClassFile.FieldType), Jvm.Cond.code ({ cls := "java/lang/Object", name := "<init>", desc := "()V" } : Jvm.MethodName) object_method_1_code (1 : Nat) (Option.none : Option Jvm.ClassFile.FieldType), Jvm.Cond.code ({ cls := "com/example/dexwright/dexwright/dex/DexOutput", name := "number", desc := "(JI)V" } : Jvm.MethodName) prog_76_method_6_code (5 : Nat) (Option.none : Option Jvm.ClassFile.FieldType), Jvm.Cond.code ({ cls := "com/example/dexwright/dexwright/dex/DexOutput", name := "ubyte", desc := "(I)V" } : Jvm.MethodName) prog_76_method_3_code (2 : Nat) (Option.none : Option Jvm.ClassFile.FieldType), Jvm.Cond.code ({ cls := "com/example/dexwright/dexwright/dex/DexOutput", name := "ensure", desc := "(I)V" } : Jvm.MethodName) prog_76_method_14_code (2 : Nat) (Option.none : Option Jvm.ClassFile.FieldType), Jvm.Cond.code ({ cls := "com/example/dexwright/dexwright/dex/DexOutput", name := "uintAt", desc := "(IJ)V" } : Jvm.MethodName) prog_76_method_12_code (5 : Nat) (Option.none : Option Jvm.ClassFile.FieldType), Jvm.Cond.code ({ cls := "com/example/dexwright/dexwright/dex/DexOutput", name := "size", desc := "()I" } : Jvm.MethodName) prog_76_method_2_code (1 : Nat) (Option.some Jvm.ClassFile.FieldType.int), Jvm.Cond.code ({ cls := "com/example/dexwright/dexwright/dex/DexOutput", name := "toByteArray", desc := "()[B" } : Jvm.MethodName) prog_76_method_13_code (1 : Nat) (Option.some (Jvm.ClassFile.FieldType.array Jvm.ClassFile.FieldType.byte)), Jvm.Cond.code ({ cls := "java/util/Arrays", name := "copyOf", desc := "([BI)[B" } : Jvm.MethodName) jdk_65_method_121_code (3 : Nat) (Option.some (Jvm.ClassFile.FieldType.array Jvm.ClassFile.FieldType.byte)), Jvm.Cond.code ({ cls := "java/lang/Math", name := "min", desc := "(II)I" } : Jvm.MethodName) jdk_29_method_69_code (2 : Nat) (Option.some Jvm.ClassFile.FieldType.int), Jvm.Cond.code ({ cls := "com/example/dexwright/dexwright/dex/DexOutputUintAtPinLaw", name := "expected", desc := "(IIJJ)B" } : Jvm.MethodName) method_3_code (9 : Nat) (Option.some Jvm.ClassFile.FieldType.byte)]
set_option maxRecDepth 65536 in
theorem codes_eq : words1.filter isCode = codes1 := rfl
theorem w_codes : ∀ c ∈ words1.filter isCode, c.before args0 about1 = true := by
  rw [codes_eq]
  intro c hc
  simp only [codes1, List.mem_cons, List.not_mem_nil, or_false] at hc
  rcases hc with rfl | rfl | rfl | rfl | rfl | rfl | rfl | rfl | rfl | rfl | rfl | rfl
  · exact w_c0
  · exact w_c1
  · exact w_c2
  · exact w_c3
  · exact w_c4
  · exact w_c5
  · exact w_c6
  · exact w_c7
  · exact w_c8
  · exact w_c9
  · exact w_c10
  · exact w_c11
set_option maxRecDepth 65536 in
theorem w_t1 : (words1.take 24).all (fun c => isCode c || c.before args0 about1) = true := by decide +kernel
set_option maxRecDepth 65536 in
theorem w_t2 : ((words1.drop 24).take 24).all (fun c => isCode c || c.before args0 about1) = true := by decide +kernel
set_option maxRecDepth 65536 in
theorem w_t3 : ((words1.drop 24).drop 24).all (fun c => isCode c || c.before args0 about1) = true := by decide +kernel
theorem w_tables : (allAtoms (Jvm.Cond.code x code maxLocals ret :: tables_1)).before args0 about1 = true := by
  rw [allAtoms_all]
  show words1.all (fun c => c.before args0 about1) = true
  refine all_split ?_ w_codes
  rw [← List.take_append_drop 24 words1, List.all_append, w_t1, ← List.take_append_drop 24 (words1.drop 24), List.all_append, w_t2, w_t3]
  rfl
set_option maxRecDepth 65536 in
theorem w_case : (Jvm.Cond.and given_1 narrow_1).before args0 about1 = true := by decide +kernel
theorem w_applies : (headSpec (Jvm.Cond.code x code maxLocals ret :: tables_1) room_1).applies x e0.platform about1 = true :=
  (Spec.applies_iff w_frames).mpr ⟨w_running, w_runnable, w_alone, w_named, w_hears, w_ripe, w_room, w_tables⟩
theorem atStart : AtStart classFile x code maxLocals ret World_1 tables_1 room_1 Calls_1 rest_1 Pre_1 launch0 p0 e0 about1 theMethod args0 below0 :=
  ⟨lists_1, trivial, launch0.admits_env _ _ _, launch0.least_env, fairChoices_fair.cas, fairChoices_fair.clock, w_frames, w_args, w_heap, w_applies, trivial, trivial, w_case⟩
end start1
theorem witness_1 : WitnessClaimed_1 := ⟨start1.p0, start1.e0, start1.about1, start1.theMethod, start1.args0, start1.below0, start1.atStart⟩
end Jvm.Pilot.@@N@@
