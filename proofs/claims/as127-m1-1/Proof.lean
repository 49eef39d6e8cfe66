import JvmDerived
import JvmDerived.Pilot.@@N@@Statement
import JvmDerived.Pilot.@@N@@Code
set_option linter.unusedVariables false
set_option linter.unusedSimpArgs false
@@BLOCK:NumsL.lean.txt@@
namespace Jvm.RoadKit
open Sem ClassFile Op Lib Jvm.Stand Jvm.Free Jvm.LawKit
section New
variable {p : Program} {l : Launch} {e : Env} {R : Room} {s : State} {m : MethodId} {args : Array Value} {below : List Frame} {meth : Method} {c : Code} {T : State} {locs : List Loc} {cells slots : Nat}
/-- ireturn of an int (after example/lawnew) -/
theorem retI (X : Stand p l e R s m args below meth c T locs cells slots) (hx : p.tables.exec = Jvm.exec) {pc : Nat} {Ls : Array Slot} {z : Int32} {rest : List Value} (hret : meth.sig.returnType = some .int) (hd : decode c.code pc = .ok (.ireturn, 1)) {fs : List Frame}
    (hl : ∀ (f : JFrame) (acts : List Action), f.method = m → f.locked = none → f.entered = [] → (doReturn e (T.setTop f) acts (some (.int z))).1 = T.setFrames fs) : Steps p.tables e below (T.setTop (mkF m pc Ls (.int z :: rest))) (T.setFrames fs) := by
  have hm' : T.vm.method? m = some meth := X.method'
  have hn : narrow .int (.int z) = .int z := rfl
  show Steps p.tables e below (T.setTop { method := m, pc := pc, locals := Ls, stack := _ :: rest, locked := none }) _
  jvm_step X.here [X.here.top, hx, hd, hm', hret, hn]
  first | (intro acts; rw [hl _ acts rfl rfl rfl]) | rw [hl _ _ rfl rfl rfl]
  exact Steps.refl _
/-- the run from S comes to an end that P speaks of: a walk goes on from state to state under one goal, and may fork -/
def own_Go (tb : Tables) (e : Env) (below : List Frame) (P : State → Outcome → Prop) (S : State) : Prop := ∃ t o, Steps tb e below S t ∧ t.status = .running ∧ Ended t below o ∧ P t o
theorem own_st {tb : Tables} {e : Env} {below : List Frame} {P : State → Outcome → Prop} {S S' : State} (st : ∀ t, Steps tb e below S' t → Steps tb e below S t) (k : own_Go tb e below P S') : own_Go tb e below P S := by
  obtain ⟨t, o, h1, h2⟩ := k
  exact ⟨t, o, st t h1, h2⟩
theorem own_tr {tb : Tables} {e : Env} {below : List Frame} {P : State → Outcome → Prop} {S S' : State} (st : Steps tb e below S S') (k : own_Go tb e below P S') : own_Go tb e below P S := own_st (fun _ h => st.trans h) k
theorem own_cv {tb : Tables} {e : Env} {below : List Frame} {P : State → Outcome → Prop} {S S' : State} (q : S = S') (k : own_Go tb e below P S') : own_Go tb e below P S := q ▸ k
theorem own_join {α : Type} {tb : Tables} {e : Env} {below : List Frame} {P : State → Outcome → Prop} {S : State} (F : α → State) (k : ∀ x, own_Go tb e below P (F x)) (j : (∀ x, own_Go tb e below P (F x)) → own_Go tb e below P S) : own_Go tb e below P S := j k
/-- the end of a walk: what the return leaves -/
theorem own_end (X : Stand p l e R s m args below meth c T locs cells slots) {Q : Option Value → Heap → List Loc → Prop} {C N : Nat} {S : State} (v : Option Value) (hlocks : meth.locks = false) (hv : meth.sig.returnType = none → v = none)
    (ret : ∀ fs : List Frame, (∀ (f : JFrame) (acts : List Action), f.method = m → f.locked = none → f.entered = [] → (doReturn e (T.setTop f) acts v).1 = T.setFrames fs) → Steps p.tables e below S (T.setFrames fs))
    (q : Q v T.heap locs) (hc : cells ≤ C) (hn : slots ≤ N) : own_Go p.tables e below (fun t o => ∃ v L, o = .returned v ∧ Q v t.heap L ∧ FrameEnd s o t L C N) S := by
  obtain ⟨fs, hr, hrun, hended, hW, hsame⟩ := X.leave (v := v) hv hlocks
  exact ⟨_, _, ret fs hr, hrun, hended, v, locs, rfl, q, ⟨_, rfl⟩, hW, hsame.mono hc hn⟩
end New
theorem own_i_lt (x y : Int32) : if_icmp.holds .lt x y = decide (x.toInt < y.toInt) := by simp [if_icmp.holds, Int32.lt_iff_toInt_lt]
theorem own_i_le (x y : Int32) : if_icmp.holds .le x y = decide (x.toInt ≤ y.toInt) := by simp [if_icmp.holds, Int32.le_iff_toInt_le]
theorem own_i_gt (x y : Int32) : if_icmp.holds .gt x y = decide (x.toInt > y.toInt) := by simp [if_icmp.holds, Int32.lt_iff_toInt_lt]
theorem own_i_ge (x y : Int32) : if_icmp.holds .ge x y = decide (x.toInt ≥ y.toInt) := by simp [if_icmp.holds, Int32.le_iff_toInt_le]
theorem own_i_eq (x y : Int32) : if_icmp.holds .eq x y = decide (x.toInt = y.toInt) := by rw [Bool.eq_iff_iff]; simp [if_icmp.holds, Int32.toInt_inj]
theorem own_i_ne (x y : Int32) : if_icmp.holds .ne x y = decide (x.toInt ≠ y.toInt) := by rw [Bool.eq_iff_iff]; simp [if_icmp.holds, Int32.toInt_inj]
theorem own_z_lt (x : Int32) : ifCond.holds .lt x = decide (x.toInt < 0) := by simp [ifCond.holds, Int32.lt_iff_toInt_lt]
theorem own_z_le (x : Int32) : ifCond.holds .le x = decide (x.toInt ≤ 0) := by simp [ifCond.holds, Int32.le_iff_toInt_le]
theorem own_z_gt (x : Int32) : ifCond.holds .gt x = decide (x.toInt > 0) := by simp [ifCond.holds, Int32.lt_iff_toInt_lt]
theorem own_z_ge (x : Int32) : ifCond.holds .ge x = decide (x.toInt ≥ 0) := by simp [ifCond.holds, Int32.le_iff_toInt_le]
theorem own_z_eq (x : Int32) : ifCond.holds .eq x = decide (x.toInt = 0) := by rw [Bool.eq_iff_iff]; simp [ifCond.holds, ← Int32.toInt_inj]
theorem own_z_ne (x : Int32) : ifCond.holds .ne x = decide (x.toInt ≠ 0) := by rw [Bool.eq_iff_iff]; simp [ifCond.holds, ← Int32.toInt_inj]
theorem own_cmp (x y : Int64) : (XT.cmpL x y).toInt = if y.toInt < x.toInt then 1 else if x.toInt = y.toInt then 0 else -1 := by
  simp only [XT.cmpL, Int64.lt_iff_toInt_lt, ← Int64.toInt_inj]
  split
  · rfl
  · split <;> rfl
theorem own_l_lt (x y : Int64) : ifCond.holds .lt (XT.cmpL x y) = decide (x.toInt < y.toInt) := by
  rw [own_z_lt, own_cmp, decide_eq_decide]; split <;> (try split) <;> omega
theorem own_l_le (x y : Int64) : ifCond.holds .le (XT.cmpL x y) = decide (x.toInt ≤ y.toInt) := by
  rw [own_z_le, own_cmp, decide_eq_decide]; split <;> (try split) <;> omega
theorem own_l_gt (x y : Int64) : ifCond.holds .gt (XT.cmpL x y) = decide (x.toInt > y.toInt) := by
  rw [own_z_gt, own_cmp, decide_eq_decide]; split <;> (try split) <;> omega
theorem own_l_ge (x y : Int64) : ifCond.holds .ge (XT.cmpL x y) = decide (x.toInt ≥ y.toInt) := by
  rw [own_z_ge, own_cmp, decide_eq_decide]; split <;> (try split) <;> omega
theorem own_l_eq (x y : Int64) : ifCond.holds .eq (XT.cmpL x y) = decide (x.toInt = y.toInt) := by
  rw [own_z_eq, own_cmp, decide_eq_decide]; split <;> (try split) <;> omega
theorem own_l_ne (x y : Int64) : ifCond.holds .ne (XT.cmpL x y) = decide (x.toInt ≠ y.toInt) := by
  rw [own_z_ne, own_cmp, decide_eq_decide]; split <;> (try split) <;> omega
/-- a boolean as the int that the machine keeps -/
def own_b (P : Prop) [Decidable P] : Int32 := if P then 1 else 0
theorem own_b1 {P : Prop} [Decidable P] (h : P) : own_b P = 1 := if_pos h
theorem own_b0 {P : Prop} [Decidable P] (h : ¬ P) : own_b P = 0 := if_neg h
theorem own_bi (P : Prop) [Decidable P] : (own_b P).toInt = if P then 1 else 0 := by unfold own_b; split <;> rfl
theorem own_nb {P : Prop} [Decidable P] : nar .boolean (own_b P) = own_b P := by unfold own_b; split <;> rfl
theorem own_nB {x : Int32} : nar .byte (Int8.toInt32 (Int32.toInt8 x)) = Int8.toInt32 (Int32.toInt8 x) := by
  show Int8.toInt32 (Int32.toInt8 (Int8.toInt32 (Int32.toInt8 x))) = _
  simp
end Jvm.RoadKit
namespace Jvm.RoadKit
open Sem ClassFile Op Lib Jvm.Stand Jvm.Free Jvm.LawKit
section Arrays
variable {p : Program} {l : Launch} {e : Env} {R : Room} {s : State} {m : MethodId} {args : Array Value} {below : List Frame} {meth : Method} {c : Code} {T : State} {locs : List Loc} {cells slots : Nat} {Z : State} {h h' : Heap} {a b : Addr} {ty : FieldType} {n : Nat} {f : Nat → Int32}
/-- an array of ints or bytes by what it holds: n places, place i holds f i -/
def own_A (Z : State) (h : Heap) (a : Addr) (ty : FieldType) (n : Nat) (f : Nat → Int32) : Prop := n < 2 ^ 31 ∧ ∃ cl : Cell, Arr Z h a cl ty ∧ cl.slots.size = n ∧ (∀ i, i < n → cl.slots[i]? = some (.int (f i))) ∧ ∀ i, i < n → fits ty (.int (f i)) = true
theorem own_A.lt (V : own_A Z h a ty n f) : a < h.size := by obtain ⟨-, cl, A, -⟩ := V; exact A.lt
theorem own_A.ext (V : own_A Z h a ty n f) (E : Ext h h') : own_A Z h' a ty n f := by obtain ⟨q, cl, A, r⟩ := V; exact ⟨q, cl, A.ext E, r⟩
theorem own_A.other {sl : Nat} {v : Value} (V : own_A Z h a ty n f) (W : Wr h h' b sl v) (ne : a ≠ b) : own_A Z h' a ty n f := by obtain ⟨q, cl, A, r⟩ := V; exact ⟨q, cl, A.other W ne, r⟩
theorem own_A.keep {ws : List Addr} (V : own_A Z h a ty n f) (K : Keep h h' ws) (ne : a ∉ ws) : own_A Z h' a ty n f := by obtain ⟨q, cl, A, r⟩ := V; exact ⟨q, cl, ⟨K.2.1 a cl A.1 ne, A.2⟩, r⟩
theorem own_A.congr {f' : Nat → Int32} (V : own_A Z h a ty n f) (q : ∀ i, i < n → f' i = f i) : own_A Z h a ty n f' := by
  obtain ⟨r, cl, A, S, H, G⟩ := V
  exact ⟨r, cl, A, S, fun i hi => by rw [q i hi]; exact H i hi, fun i hi => by rw [q i hi]; exact G i hi⟩
theorem own_nat {j : Int32} (q : 0 ≤ j.toInt) : (j.toNatClampNeg : Int) = j.toInt := by simp only [Int32.toNatClampNeg]; omega
theorem own_in {j : Int32} {cl : Cell} (S : cl.slots.size = n) (q0 : 0 ≤ j.toInt) (q1 : j.toInt < n) : ¬ (j < 0 ∨ cl.slots.size ≤ j.toNatClampNeg) := by
  have := own_nat q0
  rw [Int32.lt_iff_toInt_lt, S]
  have z : (0 : Int32).toInt = 0 := rfl
  omega
theorem own_A.new {k : ClassId} {z : Int32} (A : Arr Z h a (newA k ty z) ty) (q : ¬ z < 0) (hd : defaultValue ty = .int 0) (hz : fits ty (.int 0) = true) : own_A Z h a ty z.toNatClampNeg (fun _ => 0) := by
  refine ⟨(back32 q).2, _, A, sz_new _ _ _, fun i hi => ?_, fun i hi => hz⟩
  simp [newA, hi, hd]
theorem own_A.set {j : Nat} {x : Int32} (V : own_A Z h a ty n f) (W : Wr h h' a j (.int x)) (hx : fits ty (.int x) = true) : own_A Z h' a ty n (fun i => if i = j then x else f i) := by
  obtain ⟨q, cl, A, S, H, G⟩ := V
  obtain ⟨cl', h1, h2, h3, h4⟩ := W
  cases A.1.symm.trans h1
  refine ⟨q, cl.setSlot j (.int x), A.same ⟨cl, h1, h2, h3, h4⟩, by rw [sz_set]; exact S, fun i hi => ?_, fun i hi => ?_⟩
  · simp only [Cell.setSlot, Array.getElem?_setIfInBounds]
    by_cases e : j = i
    · subst e; simp [h3]
    · rw [if_neg e, if_neg (fun u => e u.symm)]; exact H i hi
  · by_cases e : i = j
    · simp [e, hx]
    · simp [e, G i hi]
/-- a store into an int[] -/
theorem own_stI (X : Stand p l e R s m args below meth c T locs cells slots) (hx : p.tables.exec = Jvm.exec) (hZ : Z.Warmed39 s.vm) (eT : T.heap = h) (V : own_A Z h a .int n f) {j x : Int32} (q0 : 0 ≤ j.toInt) (q1 : j.toInt < n) {g : JFrame} (hg : g.method = m) {rest : List Value} (hs : g.stack = .int x :: .int j :: .ref a :: rest) (hd : decode c.code g.pc = .ok (.iastore, 1)) :
    ∃ T' h', Stand p l e R s m args below meth c T' (locs ++ [⟨a, j.toNatClampNeg⟩]) cells slots ∧ T'.heap = h' ∧ Wr h h' a j.toNatClampNeg (.int x) ∧ own_A Z h' a .int n (fun i => if i = j.toNatClampNeg then x else f i) ∧ ∀ target, Steps p.tables e below (T'.setTop { g with pc := g.pc + 1, stack := rest }) target → Steps p.tables e below (T.setTop g) target := by
  obtain ⟨r, cl, A, S, H, G⟩ := id V
  obtain ⟨T', h', X', e', W, st⟩ := stI X hx hZ eT A (own_in S q0 q1) hg hs hd
  exact ⟨T', h', X', e', W, V.set W rfl, st⟩
/-- a store into a byte[] -/
theorem own_stB (X : Stand p l e R s m args below meth c T locs cells slots) (hx : p.tables.exec = Jvm.exec) (hZ : Z.Warmed39 s.vm) (eT : T.heap = h) (V : own_A Z h a .byte n f) {j x : Int32} (q0 : 0 ≤ j.toInt) (q1 : j.toInt < n) {g : JFrame} (hg : g.method = m) {rest : List Value} (hs : g.stack = .int x :: .int j :: .ref a :: rest) (hd : decode c.code g.pc = .ok (.bastore, 1)) :
    ∃ T' h', Stand p l e R s m args below meth c T' (locs ++ [⟨a, j.toNatClampNeg⟩]) cells slots ∧ T'.heap = h' ∧ Wr h h' a j.toNatClampNeg (.int (Int8.toInt32 (Int32.toInt8 x))) ∧ own_A Z h' a .byte n (fun i => if i = j.toNatClampNeg then Int8.toInt32 (Int32.toInt8 x) else f i) ∧ ∀ target, Steps p.tables e below (T'.setTop { g with pc := g.pc + 1, stack := rest }) target → Steps p.tables e below (T.setTop g) target := by
  obtain ⟨r, cl, A, S, H, G⟩ := id V
  obtain ⟨T', h', X', e', W, st⟩ := stB X hx hZ eT A (own_in S q0 q1) hg hs hd
  exact ⟨T', h', X', e', W, V.set W (fits_nar_byte x), st⟩
/-- a read of an int[] -/
theorem own_ldI (X : Stand p l e R s m args below meth c T locs cells slots) (hx : p.tables.exec = Jvm.exec) (hZ : Z.Warmed39 s.vm) (eT : T.heap = h) (V : own_A Z h a .int n f) {j : Int32} (q0 : 0 ≤ j.toInt) (q1 : j.toInt < n) {g : JFrame} (hg : g.method = m) {rest : List Value} (hs : g.stack = .int j :: .ref a :: rest) (hd : decode c.code g.pc = .ok (.iaload, 1)) :
    ∀ target, Steps p.tables e below (T.setTop { g with pc := g.pc + 1, stack := .int (f j.toNatClampNeg) :: rest }) target → Steps p.tables e below (T.setTop g) target := fun target k => by
  obtain ⟨r, cl, A, S, H, G⟩ := V
  have u := own_nat q0
  exact X.iaload hx (by rw [eT]; exact A.1) (State.isArrayOf_alike hZ.alike A.2.1) A.2.2 (own_in S q0 q1) (H _ (by omega)) hg hs hd _ k
/-- a read of a byte[] -/
theorem own_ldB (X : Stand p l e R s m args below meth c T locs cells slots) (hx : p.tables.exec = Jvm.exec) (hZ : Z.Warmed39 s.vm) (eT : T.heap = h) (V : own_A Z h a .byte n f) {j : Int32} (q0 : 0 ≤ j.toInt) (q1 : j.toInt < n) {g : JFrame} (hg : g.method = m) {rest : List Value} (hs : g.stack = .int j :: .ref a :: rest) (hd : decode c.code g.pc = .ok (.baload, 1)) :
    ∀ target, Steps p.tables e below (T.setTop { g with pc := g.pc + 1, stack := .int (f j.toNatClampNeg) :: rest }) target → Steps p.tables e below (T.setTop g) target := fun target k => by
  obtain ⟨r, cl, A, S, H, G⟩ := V
  have u := own_nat q0
  exact X.baloadBytes hx (by rw [eT]; exact A.1) (State.isArrayOf_alike hZ.alike A.2.1) A.2.2 (own_in S q0 q1) (H _ (by omega)) hg hs hd _ k
/-- its length -/
theorem own_len (X : Stand p l e R s m args below meth c T locs cells slots) (hx : p.tables.exec = Jvm.exec) (hZ : Z.Warmed39 s.vm) (eT : T.heap = h) (V : own_A Z h a ty n f) {g : JFrame} (hg : g.method = m) {rest : List Value} (hs : g.stack = .ref a :: rest) (hd : decode c.code g.pc = .ok (.arraylength, 1)) :
    ∀ target, Steps p.tables e below (T.setTop { g with pc := g.pc + 1, stack := .int n.toInt32 :: rest }) target → Steps p.tables e below (T.setTop g) target := fun target k => by
  obtain ⟨r, cl, A, S, H, G⟩ := V
  subst S
  exact X.arraylength hx (by rw [eT]; exact A.1) (State.isArrayOf_alike hZ.alike A.2.1) hg hs hd _ k
/-- one list of its values, for the laws that speak of lists -/
theorem own_tn {n : Nat} (h : n < 2 ^ 31) : n.toInt32.toNatClampNeg = n := by
  have q := len_toInt h
  simp only [Int32.toNatClampNeg]; omega
theorem own_gd (f : Nat → Int32) (n i : Nat) (d : Value) (hi : i < n) : (((List.range n).map fun i => Value.int (f i)).getD i d) = .int (f i) := by
  simp [List.getD_eq_getElem?_getD, hi]
theorem own_A.arv (V : own_A Z h a ty n f) : ∃ k, Arv Z h a k ty n.toInt32 ((List.range n).map fun i => Value.int (f i)) (.int 0) := by
  obtain ⟨q, cl, A, S, H, G⟩ := V
  refine ⟨cl.cls, cl, A, rfl, by rw [own_tn q]; exact S, ?_, fun i hi => ?_, fun i hi => ?_⟩
  · have z := len_toInt q
    have o : (0 : Int32).toInt = 0 := rfl
    rw [Int32.lt_iff_toInt_lt]; omega
  · rw [own_gd f n i _ (S ▸ hi)]; exact H i (S ▸ hi)
  · rw [own_gd f n i _ (S ▸ hi)]; exact G i (S ▸ hi)
theorem own_A.of_arv {k : ClassId} {z : Int32} {vs : List Value} {dv : Value} (F : Arv Z h a k ty z vs dv) (g : Nat → Int32) (hg : ∀ i, i < z.toNatClampNeg → vs.getD i dv = .int (g i)) : own_A Z h a ty z.toNatClampNeg g := by
  obtain ⟨cl, A, -, S, M, H, G⟩ := F
  exact ⟨(back32 M).2, cl, A, S, fun i hi => by rw [← hg i hi]; exact H i (S ▸ hi), fun i hi => by rw [← hg i hi]; exact G i (S ▸ hi)⟩
/-- System.arraycopy from place 0 to place 0 -/
theorem own_cp (X : Stand p l e R s m args below meth c T locs cells slots) (hx : p.tables.exec = Jvm.exec) (hZ : Z.Warmed39 s.vm) {a0 : Array Value} {own : String} {index : Nat} (hown : s.vm.findClass own = some m.cls)
    (w1 : (Cond.methodLink own index Jvm.Stand.acN).before a0 Z = true) (w2 : (Cond.native Jvm.Stand.acN).before a0 Z = true) (w3 : (Cond.static Jvm.Stand.acN).before a0 Z = true) (w4 : (Cond.initialized "java/lang/System").before a0 Z = true) (eT : T.heap = h)
    {n' : Nat} {f' : Nat → Int32} (A : own_A Z h a .byte n f) (B : own_A Z h b .byte n' f') {nn : Int32} (q0 : 0 ≤ nn.toInt) (q1 : nn.toInt ≤ n) (q2 : nn.toInt ≤ n') {n0 : Nat} (N : Fr n0 locs) (ge : n0 ≤ b)
    {g : JFrame} (hg : g.method = m) (hsize : g.locals.size = c.maxLocals) {rest : List Value} (hs : g.stack = .int nn :: .int 0 :: .ref b :: .int 0 :: .ref a :: rest) (hd : decode c.code g.pc = .ok (.invokestatic index, 3))
    (hf : 1 ≤ R.frames) {W : Nat} (hW : 2 * g.monitorRoom + (rest.map fun v => v.category).sum ≤ W) (hlo : W + (nativeFrameWords "java/lang/System" "arraycopy" 5 + 11) ≤ R.locals) :
    ∃ T' h' L, Stand p l e R s m args below meth c T' L cells slots ∧ T'.heap = h' ∧ Fr n0 L ∧ Keep h h' [b] ∧ own_A Z h' b .byte n' (fun i => if i < nn.toNatClampNeg then f i else f' i) ∧
      ∀ target, Steps p.tables e below (T'.setTop { g with pc := g.pc + 3, stack := rest }) target → Steps p.tables e below (T.setTop g) target := by
  obtain ⟨k, VA⟩ := A.arv
  obtain ⟨k', VB⟩ := B.arv
  have u := own_nat q0
  have z0 : (0 : Int32).toNatClampNeg = 0 := rfl
  have nA := own_tn A.1
  have nB := own_tn B.1
  obtain ⟨T', h', L, X', e', N', K, V, st⟩ := cpA X hx hZ hown w1 w2 w3 w4 eT VA VB (Or.inl ⟨rfl, rfl⟩) (by decide) (by decide) (by rw [Int32.lt_iff_toInt_lt]; have o : (0 : Int32).toInt = 0 := rfl; omega) (by rw [z0, nA]; omega) (by rw [z0, nB]; omega) rfl (by rw [z0]; simp; omega) N ge hg hsize hs hd hf hW hlo
  refine ⟨T', h', L, X', e', N', K, ?_, st⟩
  have V2 := own_A.of_arv V (fun i => if i < nn.toNatClampNeg then f i else f' i) (fun i hi => ?_)
  · rw [nB] at V2; exact V2
  · rw [nB] at hi
    rw [z0]
    simp only [Nat.zero_add, List.take_zero, List.nil_append, List.getD_eq_getElem?_getD]
    by_cases l : i < nn.toNatClampNeg
    · rw [List.getElem?_append_left (by simp; omega)]
      have hn : i < n := by omega
      simp [l, hn]
    · rw [List.getElem?_append_right (by simp; omega)]
      have e1 : nn.toNatClampNeg + (i - nn.toNatClampNeg) = i := by omega
      simp [l, hi, e1]
/-- clone() of a byte[] -/
theorem own_cl (X : Stand p l e R s m args below meth c T locs cells slots) (hx : p.tables.exec = Jvm.exec) (hZ : Z.Warmed39 s.vm) {a0 : Array Value} {own ad : String} {index : Nat} (hown : s.vm.findClass own = some m.cls)
    (w1 : (Cond.methodLink own index ⟨ad, "clone", "()Ljava/lang/Object;"⟩).before a0 Z = true) (w2 : (Cond.sameMethod ad "java/lang/Object" "clone" "()Ljava/lang/Object;").before a0 Z = true) (w3 : (Cond.native ⟨"java/lang/Object", "clone", "()Ljava/lang/Object;"⟩).before a0 Z = true)
    (w4 : (Cond.instanceMethod ⟨"java/lang/Object", "clone", "()Ljava/lang/Object;"⟩).before a0 Z = true) (w5 : (Cond.selects ad ⟨ad, "clone", "()Ljava/lang/Object;"⟩ ⟨"java/lang/Object", "clone", "()Ljava/lang/Object;"⟩).before a0 Z = true) (w6 : (Cond.castable ad "java/lang/Cloneable").before a0 Z = true)
    (eT : T.heap = h) (V : own_A Z h a ty n f) (E : Exa Z h a ad) {g : JFrame} (hg : g.method = m) (hsize : g.locals.size = c.maxLocals) {rest : List Value} (hst : g.stack = .ref a :: rest) (hd : decode c.code g.pc = .ok (.invokevirtual index, 3))
    (hf : 1 ≤ R.frames) {W cap : Nat} (hW : 2 * g.monitorRoom + (rest.map fun v => v.category).sum ≤ W) (hl : W + 14 ≤ R.locals) (hcap : n ≤ cap) (hc : cells + 1 ≤ R.cells) (hsl : slots + cap ≤ R.slots) :
    ∃ T' h', Stand p l e R s m args below meth c T' locs (cells + 1) (slots + cap) ∧ T'.heap = h' ∧ Ext h h' ∧ own_A Z h' h.size ty n f ∧ Exa Z h' h.size ad ∧
      ∀ target, Steps p.tables e below (T'.setTop { g with pc := g.pc + 3, stack := .ref h.size :: rest }) target → Steps p.tables e below (T.setTop g) target := by
  obtain ⟨q, cl, A, S, H, G⟩ := V
  have FC : FitC Z cl := fitC_of A fun i hi v hv => by rw [H i (S ▸ hi)] at hv; cases hv; exact G i (S ▸ hi)
  obtain ⟨T', h', X', e', ex, A', E', st⟩ := cloneA X hx hZ hown w1 w2 w3 w4 w5 w6 eT A E FC hg hsize hst hd hf hW hl (by rw [S]; exact hcap) hc hsl
  exact ⟨T', h', X', e', ex, ⟨q, cloneOf cl, A', S, H, G⟩, E', st⟩
/-- a private method is selected, by what the sheet says of another method of its class -/
theorem own_selp {s : State} {args : Array Value} {y y' : MethodName} (hc : y'.cls = y.cls) (w : (Cond.selects y'.cls y' y').before args s = true) (hp : s.PrivateAt y) (hi : (Cond.instanceMethod y).before args s = true) (hy : y.cls ≠ "java/lang/invoke/MethodHandle" ∧ y.cls ≠ "java/lang/invoke/VarHandle") : (Cond.selects y.cls y y).before args s = true := by
  obtain ⟨c, r, m, h1, h2, h3, h4, mk, h5, h6⟩ := Cond.selects_spec w
  have q := findClass_of_methodNamed h3
  rw [hc] at q
  exact selects_self_of_private q h5 h6 hp hi hy
end Arrays
end Jvm.RoadKit
namespace Jvm.Pilot.@@N@@
open Jvm Jvm.ClassFile Sem Op Lib Jvm.Free Jvm.Stand Jvm.LawKit Jvm.RoadKit Bundle Jvm.Pilot.@@N@@.Jvm.D

abbrev own_D (p : Int) : Prop := p = 9 ∨ p = 10 ∨ p = 13 ∨ (32 ≤ p ∧ p ≤ 55295) ∨ (57344 ≤ p ∧ p ≤ 65533) ∨ (65536 ≤ p ∧ p ≤ 1114111)
theorem dA_0 : decode prog_74_method_2_code 0 = .ok (.iload_n 0, 1) := by decide +kernel
theorem dA_1 : decode prog_74_method_2_code 1 = .ok (.bipush 9, 2) := by decide +kernel
theorem dA_3 : decode prog_74_method_2_code 3 = .ok (.if_icmp .eq 51, 3) := by decide +kernel
theorem dA_6 : decode prog_74_method_2_code 6 = .ok (.iload_n 0, 1) := by decide +kernel
theorem dA_7 : decode prog_74_method_2_code 7 = .ok (.bipush 10, 2) := by decide +kernel
theorem dA_9 : decode prog_74_method_2_code 9 = .ok (.if_icmp .eq 45, 3) := by decide +kernel
theorem dA_12 : decode prog_74_method_2_code 12 = .ok (.iload_n 0, 1) := by decide +kernel
theorem dA_13 : decode prog_74_method_2_code 13 = .ok (.bipush 13, 2) := by decide +kernel
theorem dA_15 : decode prog_74_method_2_code 15 = .ok (.if_icmp .eq 39, 3) := by decide +kernel
theorem dA_18 : decode prog_74_method_2_code 18 = .ok (.iload_n 0, 1) := by decide +kernel
theorem dA_19 : decode prog_74_method_2_code 19 = .ok (.bipush 32, 2) := by decide +kernel
theorem dA_21 : decode prog_74_method_2_code 21 = .ok (.if_icmp .lt 9, 3) := by decide +kernel
theorem dA_24 : decode prog_74_method_2_code 24 = .ok (.iload_n 0, 1) := by decide +kernel
theorem dA_25 : decode prog_74_method_2_code 25 = .ok (.ldc 7, 2) := by decide +kernel
theorem dA_27 : decode prog_74_method_2_code 27 = .ok (.if_icmp .le 27, 3) := by decide +kernel
theorem dA_30 : decode prog_74_method_2_code 30 = .ok (.iload_n 0, 1) := by decide +kernel
theorem dA_31 : decode prog_74_method_2_code 31 = .ok (.ldc 8, 2) := by decide +kernel
theorem dA_33 : decode prog_74_method_2_code 33 = .ok (.if_icmp .lt 9, 3) := by decide +kernel
theorem dA_36 : decode prog_74_method_2_code 36 = .ok (.iload_n 0, 1) := by decide +kernel
theorem dA_37 : decode prog_74_method_2_code 37 = .ok (.ldc 9, 2) := by decide +kernel
theorem dA_39 : decode prog_74_method_2_code 39 = .ok (.if_icmp .le 15, 3) := by decide +kernel
theorem dA_42 : decode prog_74_method_2_code 42 = .ok (.iload_n 0, 1) := by decide +kernel
theorem dA_43 : decode prog_74_method_2_code 43 = .ok (.ldc 10, 2) := by decide +kernel
theorem dA_45 : decode prog_74_method_2_code 45 = .ok (.if_icmp .lt 13, 3) := by decide +kernel
theorem dA_48 : decode prog_74_method_2_code 48 = .ok (.iload_n 0, 1) := by decide +kernel
theorem dA_49 : decode prog_74_method_2_code 49 = .ok (.ldc 11, 2) := by decide +kernel
theorem dA_51 : decode prog_74_method_2_code 51 = .ok (.if_icmp .gt 7, 3) := by decide +kernel
theorem dA_54 : decode prog_74_method_2_code 54 = .ok (.iconst 1, 1) := by decide +kernel
theorem dA_55 : decode prog_74_method_2_code 55 = .ok (.goto 4, 3) := by decide +kernel
theorem dA_58 : decode prog_74_method_2_code 58 = .ok (.iconst 0, 1) := by decide +kernel
theorem dA_59 : decode prog_74_method_2_code 59 = .ok (.ireturn, 1) := by decide +kernel
theorem pn_A : plainName "com/example/infoset/infoset/XmlChars" = true := by first | (simp [plainName, overriddenIn]; done) | decide +kernel
theorem pd_A : parseMethodDescriptor "(I)Z" = some ⟨[.int], some .boolean⟩ := by decide +kernel
theorem ef_A (m : MethodId) (p1 : Int32) : entryFrame m #[(.int p1)] 1 = mkF m 0 #[.val (.int p1)] [] := by first | (simp [entryFrame, mkF, argsToLocals, Value.category]; done) | rfl
def QA (Z : State) (p1 : Int32) (h0 : Heap) (n0 : Nat) (v : Option Value) (h : Heap) (L : List Loc) : Prop := v = some (.int (own_b (own_D (Int32.toInt p1)))) ∧ Fr n0 L ∧ h = h0
set_option maxRecDepth 65536 in
set_option maxHeartbeats 40000000 in
theorem rmA (l : Launch) (Z : State) (a0 : Array Value) (hw : ∀ d ∈ tables_1, d.before a0 Z = true) (ws : List Jvm.Cond) (p1 : Int32) (h0 : Heap) (n0 : Nat) (Z0 : n0 ≤ h0.size) :
    MetFree l (⟨"com/example/infoset/infoset/XmlChars", "isChar", "(I)Z"⟩ : MethodName) (head1 (Jvm.Cond.code (⟨"com/example/infoset/infoset/XmlChars", "isChar", "(I)Z"⟩ : MethodName) prog_74_method_2_code 1 (some .boolean) :: ws) ({ frames := 0, cells := 0, slots := 0, locals := 0 } : Room)) (fun a U => a = #[(.int p1)] ∧ Z.Warmed39 U.vm ∧ U.heap = h0) (fun _ _ _ _ _ => True) (fun _ U o U' => ∃ v L, o = .returned v ∧ QA Z p1 h0 n0 v U'.heap L ∧ FrameEnd U o U' L ({ frames := 0, cells := 0, slots := 0, locals := 0 } : Room).cells ({ frames := 0, cells := 0, slots := 0, locals := 0 } : Room).slots) := by
  refine MetFree.of_bodySF (plainFor_of_name pn_A) hisR ?_
  intro p e s m args below meth c s₁ Bd hml0 hP hK
  obtain ⟨rfl, hZ, hh⟩ := hP
  have hx := Bd.exec
  have hby := Bd.bytes
  have hml : c.maxLocals = 1 := hml0
  have hown : s.vm.findClass "com/example/infoset/infoset/XmlChars" = some m.cls := findClass_of_methodNamed Bd.named
  have hnm := (name_of_methodNamed Bd.named Bd.method).1
  have X0 : Stand p l e ({ frames := 0, cells := 0, slots := 0, locals := 0 } : Room) s m #[(.int p1)] below meth c s₁ [] 0 0 := Stand.of_body Bd
  have e0 : s₁.heap = h0 := by rw [← hh, Bd.state]; rfl
  have N0 := Fr.nil n0
  show own_Go p.tables e below (fun t o => ∃ v L, o = .returned v ∧ QA Z p1 h0 n0 v t.heap L ∧ FrameEnd s o t L ({ frames := 0, cells := 0, slots := 0, locals := 0 } : Room).cells ({ frames := 0, cells := 0, slots := 0, locals := 0 } : Room).slots) (s₁.setTop (entryFrame m #[(.int p1)] 1))
  rw [ef_A]
  show own_Go p.tables e below _ (s₁.setTop (mkF m 0 #[.val (.int p1)] []))
  refine own_st (S' := s₁.setTop (mkF m 1 #[.val (.int p1)] [(.int p1)])) (fun _ k => XS.iloadN X0.here hx rfl (hb hby dA_0) rfl k) ?_
  refine own_st (S' := s₁.setTop (mkF m 3 #[.val (.int p1)] [(.int (9 : Int32)), (.int p1)])) (fun _ k => XS.bipush X0.here hx rfl (hb hby dA_1) k) ?_
  by_cases hc3 : Int32.toInt p1 = 9
  · skip
    refine own_st (S' := s₁.setTop (mkF m 54 #[.val (.int p1)] [])) (fun _ k => XS.icmpYes X0.here hx rfl (pc0 := 3) (pc' := 54) rfl (hb hby dA_3) rfl ((own_i_eq _ _).trans (decide_eq_true (p := Int32.toInt p1 = 9) (hc3))) (by decide) (by decide) k) ?_
    refine own_st (S' := s₁.setTop (mkF m 55 #[.val (.int p1)] [(.int (1 : Int32))])) (fun _ k => XS.iconst X0.here hx rfl (hb hby dA_54) k) ?_
    refine own_st (S' := s₁.setTop (mkF m 59 #[.val (.int p1)] [(.int (1 : Int32))])) (fun _ k => XS.goto X0.here hx rfl (pc0 := 55) (pc' := 59) rfl (hb hby dA_55) (by decide) (by decide) k) ?_
    have tq101 : (1 : Int32) = (own_b (own_D (Int32.toInt p1))) := (own_b1 (by unfold own_D; omega)).symm
    refine own_cv (congrArg (fun z => s₁.setTop (mkF m 59 #[.val (.int p1)] [(.int z)])) tq101) ?_
    show own_Go p.tables e below _ (s₁.setTop (mkF m 59 #[.val (.int p1)] [(.int (own_b (own_D (Int32.toInt p1))))]))
    refine own_end X0 (Q := (QA Z p1 h0 n0)) (some (.int (own_b (own_D (Int32.toInt p1))))) Bd.notSynchronized (fun h => by rw [Bd.returns] at h; cases h) (fun fs hr => retN X0 hx (t := .boolean) Bd.returns (by simp) (hb hby dA_59) (by rw [own_nb]; exact hr)) ?_ (by decide) (by decide)
    rw [e0]
    exact ⟨rfl, N0, rfl⟩
  · skip
    refine own_st (S' := s₁.setTop (mkF m 6 #[.val (.int p1)] [])) (fun _ k => XS.icmpNo X0.here hx rfl (hb hby dA_3) rfl ((own_i_eq _ _).trans (decide_eq_false (p := Int32.toInt p1 = 9) (hc3))) k) ?_
    refine own_st (S' := s₁.setTop (mkF m 7 #[.val (.int p1)] [(.int p1)])) (fun _ k => XS.iloadN X0.here hx rfl (hb hby dA_6) rfl k) ?_
    refine own_st (S' := s₁.setTop (mkF m 9 #[.val (.int p1)] [(.int (10 : Int32)), (.int p1)])) (fun _ k => XS.bipush X0.here hx rfl (hb hby dA_7) k) ?_
    by_cases hc9 : Int32.toInt p1 = 10
    · skip
      refine own_st (S' := s₁.setTop (mkF m 54 #[.val (.int p1)] [])) (fun _ k => XS.icmpYes X0.here hx rfl (pc0 := 9) (pc' := 54) rfl (hb hby dA_9) rfl ((own_i_eq _ _).trans (decide_eq_true (p := Int32.toInt p1 = 10) (hc9))) (by decide) (by decide) k) ?_
      refine own_st (S' := s₁.setTop (mkF m 55 #[.val (.int p1)] [(.int (1 : Int32))])) (fun _ k => XS.iconst X0.here hx rfl (hb hby dA_54) k) ?_
      refine own_st (S' := s₁.setTop (mkF m 59 #[.val (.int p1)] [(.int (1 : Int32))])) (fun _ k => XS.goto X0.here hx rfl (pc0 := 55) (pc' := 59) rfl (hb hby dA_55) (by decide) (by decide) k) ?_
      have tq102 : (1 : Int32) = (own_b (own_D (Int32.toInt p1))) := (own_b1 (by unfold own_D; omega)).symm
      refine own_cv (congrArg (fun z => s₁.setTop (mkF m 59 #[.val (.int p1)] [(.int z)])) tq102) ?_
      show own_Go p.tables e below _ (s₁.setTop (mkF m 59 #[.val (.int p1)] [(.int (own_b (own_D (Int32.toInt p1))))]))
      refine own_end X0 (Q := (QA Z p1 h0 n0)) (some (.int (own_b (own_D (Int32.toInt p1))))) Bd.notSynchronized (fun h => by rw [Bd.returns] at h; cases h) (fun fs hr => retN X0 hx (t := .boolean) Bd.returns (by simp) (hb hby dA_59) (by rw [own_nb]; exact hr)) ?_ (by decide) (by decide)
      rw [e0]
      exact ⟨rfl, N0, rfl⟩
    · skip
      refine own_st (S' := s₁.setTop (mkF m 12 #[.val (.int p1)] [])) (fun _ k => XS.icmpNo X0.here hx rfl (hb hby dA_9) rfl ((own_i_eq _ _).trans (decide_eq_false (p := Int32.toInt p1 = 10) (hc9))) k) ?_
      refine own_st (S' := s₁.setTop (mkF m 13 #[.val (.int p1)] [(.int p1)])) (fun _ k => XS.iloadN X0.here hx rfl (hb hby dA_12) rfl k) ?_
      refine own_st (S' := s₁.setTop (mkF m 15 #[.val (.int p1)] [(.int (13 : Int32)), (.int p1)])) (fun _ k => XS.bipush X0.here hx rfl (hb hby dA_13) k) ?_
      by_cases hc15 : Int32.toInt p1 = 13
      · skip
        refine own_st (S' := s₁.setTop (mkF m 54 #[.val (.int p1)] [])) (fun _ k => XS.icmpYes X0.here hx rfl (pc0 := 15) (pc' := 54) rfl (hb hby dA_15) rfl ((own_i_eq _ _).trans (decide_eq_true (p := Int32.toInt p1 = 13) (hc15))) (by decide) (by decide) k) ?_
        refine own_st (S' := s₁.setTop (mkF m 55 #[.val (.int p1)] [(.int (1 : Int32))])) (fun _ k => XS.iconst X0.here hx rfl (hb hby dA_54) k) ?_
        refine own_st (S' := s₁.setTop (mkF m 59 #[.val (.int p1)] [(.int (1 : Int32))])) (fun _ k => XS.goto X0.here hx rfl (pc0 := 55) (pc' := 59) rfl (hb hby dA_55) (by decide) (by decide) k) ?_
        have tq103 : (1 : Int32) = (own_b (own_D (Int32.toInt p1))) := (own_b1 (by unfold own_D; omega)).symm
        refine own_cv (congrArg (fun z => s₁.setTop (mkF m 59 #[.val (.int p1)] [(.int z)])) tq103) ?_
        show own_Go p.tables e below _ (s₁.setTop (mkF m 59 #[.val (.int p1)] [(.int (own_b (own_D (Int32.toInt p1))))]))
        refine own_end X0 (Q := (QA Z p1 h0 n0)) (some (.int (own_b (own_D (Int32.toInt p1))))) Bd.notSynchronized (fun h => by rw [Bd.returns] at h; cases h) (fun fs hr => retN X0 hx (t := .boolean) Bd.returns (by simp) (hb hby dA_59) (by rw [own_nb]; exact hr)) ?_ (by decide) (by decide)
        rw [e0]
        exact ⟨rfl, N0, rfl⟩
      · skip
        refine own_st (S' := s₁.setTop (mkF m 18 #[.val (.int p1)] [])) (fun _ k => XS.icmpNo X0.here hx rfl (hb hby dA_15) rfl ((own_i_eq _ _).trans (decide_eq_false (p := Int32.toInt p1 = 13) (hc15))) k) ?_
        refine own_st (S' := s₁.setTop (mkF m 19 #[.val (.int p1)] [(.int p1)])) (fun _ k => XS.iloadN X0.here hx rfl (hb hby dA_18) rfl k) ?_
        refine own_st (S' := s₁.setTop (mkF m 21 #[.val (.int p1)] [(.int (32 : Int32)), (.int p1)])) (fun _ k => XS.bipush X0.here hx rfl (hb hby dA_19) k) ?_
        by_cases hc21 : Int32.toInt p1 < 32
        · skip
          refine own_st (S' := s₁.setTop (mkF m 30 #[.val (.int p1)] [])) (fun _ k => XS.icmpYes X0.here hx rfl (pc0 := 21) (pc' := 30) rfl (hb hby dA_21) rfl ((own_i_lt _ _).trans (decide_eq_true (p := Int32.toInt p1 < 32) (hc21))) (by decide) (by decide) k) ?_
          refine own_st (S' := s₁.setTop (mkF m 31 #[.val (.int p1)] [(.int p1)])) (fun _ k => XS.iloadN X0.here hx rfl (hb hby dA_30) rfl k) ?_
          refine own_st (S' := s₁.setTop (mkF m 33 #[.val (.int p1)] [(.int (57344 : Int32)), (.int p1)])) (fun _ k => X0.ldcI hx hown (mvT hZ (hw _ (List.mem_of_getElem? (i := 14) rfl))) rfl (hb hby dA_31) k) ?_
          by_cases hc33 : Int32.toInt p1 < 57344
          · skip
            refine own_st (S' := s₁.setTop (mkF m 42 #[.val (.int p1)] [])) (fun _ k => XS.icmpYes X0.here hx rfl (pc0 := 33) (pc' := 42) rfl (hb hby dA_33) rfl ((own_i_lt _ _).trans (decide_eq_true (p := Int32.toInt p1 < 57344) (hc33))) (by decide) (by decide) k) ?_
            refine own_st (S' := s₁.setTop (mkF m 43 #[.val (.int p1)] [(.int p1)])) (fun _ k => XS.iloadN X0.here hx rfl (hb hby dA_42) rfl k) ?_
            refine own_st (S' := s₁.setTop (mkF m 45 #[.val (.int p1)] [(.int (65536 : Int32)), (.int p1)])) (fun _ k => X0.ldcI hx hown (mvT hZ (hw _ (List.mem_of_getElem? (i := 15) rfl))) rfl (hb hby dA_43) k) ?_
            by_cases hc45 : Int32.toInt p1 < 65536
            · skip
              refine own_st (S' := s₁.setTop (mkF m 58 #[.val (.int p1)] [])) (fun _ k => XS.icmpYes X0.here hx rfl (pc0 := 45) (pc' := 58) rfl (hb hby dA_45) rfl ((own_i_lt _ _).trans (decide_eq_true (p := Int32.toInt p1 < 65536) (hc45))) (by decide) (by decide) k) ?_
              refine own_st (S' := s₁.setTop (mkF m 59 #[.val (.int p1)] [(.int (0 : Int32))])) (fun _ k => XS.iconst X0.here hx rfl (hb hby dA_58) k) ?_
              have tq104 : (0 : Int32) = (own_b (own_D (Int32.toInt p1))) := (own_b0 (by unfold own_D; omega)).symm
              refine own_cv (congrArg (fun z => s₁.setTop (mkF m 59 #[.val (.int p1)] [(.int z)])) tq104) ?_
              show own_Go p.tables e below _ (s₁.setTop (mkF m 59 #[.val (.int p1)] [(.int (own_b (own_D (Int32.toInt p1))))]))
              refine own_end X0 (Q := (QA Z p1 h0 n0)) (some (.int (own_b (own_D (Int32.toInt p1))))) Bd.notSynchronized (fun h => by rw [Bd.returns] at h; cases h) (fun fs hr => retN X0 hx (t := .boolean) Bd.returns (by simp) (hb hby dA_59) (by rw [own_nb]; exact hr)) ?_ (by decide) (by decide)
              rw [e0]
              exact ⟨rfl, N0, rfl⟩
            · skip
              refine own_st (S' := s₁.setTop (mkF m 48 #[.val (.int p1)] [])) (fun _ k => XS.icmpNo X0.here hx rfl (hb hby dA_45) rfl ((own_i_lt _ _).trans (decide_eq_false (p := Int32.toInt p1 < 65536) (hc45))) k) ?_
              refine own_st (S' := s₁.setTop (mkF m 49 #[.val (.int p1)] [(.int p1)])) (fun _ k => XS.iloadN X0.here hx rfl (hb hby dA_48) rfl k) ?_
              refine own_st (S' := s₁.setTop (mkF m 51 #[.val (.int p1)] [(.int (1114111 : Int32)), (.int p1)])) (fun _ k => X0.ldcI hx hown (mvT hZ (hw _ (List.mem_of_getElem? (i := 25) rfl))) rfl (hb hby dA_49) k) ?_
              by_cases hc51 : Int32.toInt p1 > 1114111
              · skip
                refine own_st (S' := s₁.setTop (mkF m 58 #[.val (.int p1)] [])) (fun _ k => XS.icmpYes X0.here hx rfl (pc0 := 51) (pc' := 58) rfl (hb hby dA_51) rfl ((own_i_gt _ _).trans (decide_eq_true (p := Int32.toInt p1 > 1114111) (hc51))) (by decide) (by decide) k) ?_
                refine own_st (S' := s₁.setTop (mkF m 59 #[.val (.int p1)] [(.int (0 : Int32))])) (fun _ k => XS.iconst X0.here hx rfl (hb hby dA_58) k) ?_
                have tq105 : (0 : Int32) = (own_b (own_D (Int32.toInt p1))) := (own_b0 (by unfold own_D; omega)).symm
                refine own_cv (congrArg (fun z => s₁.setTop (mkF m 59 #[.val (.int p1)] [(.int z)])) tq105) ?_
                show own_Go p.tables e below _ (s₁.setTop (mkF m 59 #[.val (.int p1)] [(.int (own_b (own_D (Int32.toInt p1))))]))
                refine own_end X0 (Q := (QA Z p1 h0 n0)) (some (.int (own_b (own_D (Int32.toInt p1))))) Bd.notSynchronized (fun h => by rw [Bd.returns] at h; cases h) (fun fs hr => retN X0 hx (t := .boolean) Bd.returns (by simp) (hb hby dA_59) (by rw [own_nb]; exact hr)) ?_ (by decide) (by decide)
                rw [e0]
                exact ⟨rfl, N0, rfl⟩
              · skip
                refine own_st (S' := s₁.setTop (mkF m 54 #[.val (.int p1)] [])) (fun _ k => XS.icmpNo X0.here hx rfl (hb hby dA_51) rfl ((own_i_gt _ _).trans (decide_eq_false (p := Int32.toInt p1 > 1114111) (hc51))) k) ?_
                refine own_st (S' := s₁.setTop (mkF m 55 #[.val (.int p1)] [(.int (1 : Int32))])) (fun _ k => XS.iconst X0.here hx rfl (hb hby dA_54) k) ?_
                refine own_st (S' := s₁.setTop (mkF m 59 #[.val (.int p1)] [(.int (1 : Int32))])) (fun _ k => XS.goto X0.here hx rfl (pc0 := 55) (pc' := 59) rfl (hb hby dA_55) (by decide) (by decide) k) ?_
                have tq106 : (1 : Int32) = (own_b (own_D (Int32.toInt p1))) := (own_b1 (by unfold own_D; omega)).symm
                refine own_cv (congrArg (fun z => s₁.setTop (mkF m 59 #[.val (.int p1)] [(.int z)])) tq106) ?_
                show own_Go p.tables e below _ (s₁.setTop (mkF m 59 #[.val (.int p1)] [(.int (own_b (own_D (Int32.toInt p1))))]))
                refine own_end X0 (Q := (QA Z p1 h0 n0)) (some (.int (own_b (own_D (Int32.toInt p1))))) Bd.notSynchronized (fun h => by rw [Bd.returns] at h; cases h) (fun fs hr => retN X0 hx (t := .boolean) Bd.returns (by simp) (hb hby dA_59) (by rw [own_nb]; exact hr)) ?_ (by decide) (by decide)
                rw [e0]
                exact ⟨rfl, N0, rfl⟩
          · skip
            refine own_st (S' := s₁.setTop (mkF m 36 #[.val (.int p1)] [])) (fun _ k => XS.icmpNo X0.here hx rfl (hb hby dA_33) rfl ((own_i_lt _ _).trans (decide_eq_false (p := Int32.toInt p1 < 57344) (hc33))) k) ?_
            refine own_st (S' := s₁.setTop (mkF m 37 #[.val (.int p1)] [(.int p1)])) (fun _ k => XS.iloadN X0.here hx rfl (hb hby dA_36) rfl k) ?_
            refine own_st (S' := s₁.setTop (mkF m 39 #[.val (.int p1)] [(.int (65533 : Int32)), (.int p1)])) (fun _ k => X0.ldcI hx hown (mvT hZ (hw _ (List.mem_of_getElem? (i := 24) rfl))) rfl (hb hby dA_37) k) ?_
            by_cases hc39 : Int32.toInt p1 ≤ 65533
            · skip
              refine own_st (S' := s₁.setTop (mkF m 54 #[.val (.int p1)] [])) (fun _ k => XS.icmpYes X0.here hx rfl (pc0 := 39) (pc' := 54) rfl (hb hby dA_39) rfl ((own_i_le _ _).trans (decide_eq_true (p := Int32.toInt p1 ≤ 65533) (hc39))) (by decide) (by decide) k) ?_
              refine own_st (S' := s₁.setTop (mkF m 55 #[.val (.int p1)] [(.int (1 : Int32))])) (fun _ k => XS.iconst X0.here hx rfl (hb hby dA_54) k) ?_
              refine own_st (S' := s₁.setTop (mkF m 59 #[.val (.int p1)] [(.int (1 : Int32))])) (fun _ k => XS.goto X0.here hx rfl (pc0 := 55) (pc' := 59) rfl (hb hby dA_55) (by decide) (by decide) k) ?_
              have tq107 : (1 : Int32) = (own_b (own_D (Int32.toInt p1))) := (own_b1 (by unfold own_D; omega)).symm
              refine own_cv (congrArg (fun z => s₁.setTop (mkF m 59 #[.val (.int p1)] [(.int z)])) tq107) ?_
              show own_Go p.tables e below _ (s₁.setTop (mkF m 59 #[.val (.int p1)] [(.int (own_b (own_D (Int32.toInt p1))))]))
              refine own_end X0 (Q := (QA Z p1 h0 n0)) (some (.int (own_b (own_D (Int32.toInt p1))))) Bd.notSynchronized (fun h => by rw [Bd.returns] at h; cases h) (fun fs hr => retN X0 hx (t := .boolean) Bd.returns (by simp) (hb hby dA_59) (by rw [own_nb]; exact hr)) ?_ (by decide) (by decide)
              rw [e0]
              exact ⟨rfl, N0, rfl⟩
            · skip
              refine own_st (S' := s₁.setTop (mkF m 42 #[.val (.int p1)] [])) (fun _ k => XS.icmpNo X0.here hx rfl (hb hby dA_39) rfl ((own_i_le _ _).trans (decide_eq_false (p := Int32.toInt p1 ≤ 65533) (hc39))) k) ?_
              refine own_st (S' := s₁.setTop (mkF m 43 #[.val (.int p1)] [(.int p1)])) (fun _ k => XS.iloadN X0.here hx rfl (hb hby dA_42) rfl k) ?_
              refine own_st (S' := s₁.setTop (mkF m 45 #[.val (.int p1)] [(.int (65536 : Int32)), (.int p1)])) (fun _ k => X0.ldcI hx hown (mvT hZ (hw _ (List.mem_of_getElem? (i := 15) rfl))) rfl (hb hby dA_43) k) ?_
              by_cases hc45 : Int32.toInt p1 < 65536
              · skip
                refine own_st (S' := s₁.setTop (mkF m 58 #[.val (.int p1)] [])) (fun _ k => XS.icmpYes X0.here hx rfl (pc0 := 45) (pc' := 58) rfl (hb hby dA_45) rfl ((own_i_lt _ _).trans (decide_eq_true (p := Int32.toInt p1 < 65536) (hc45))) (by decide) (by decide) k) ?_
                refine own_st (S' := s₁.setTop (mkF m 59 #[.val (.int p1)] [(.int (0 : Int32))])) (fun _ k => XS.iconst X0.here hx rfl (hb hby dA_58) k) ?_
                have tq108 : (0 : Int32) = (own_b (own_D (Int32.toInt p1))) := (own_b0 (by unfold own_D; omega)).symm
                refine own_cv (congrArg (fun z => s₁.setTop (mkF m 59 #[.val (.int p1)] [(.int z)])) tq108) ?_
                show own_Go p.tables e below _ (s₁.setTop (mkF m 59 #[.val (.int p1)] [(.int (own_b (own_D (Int32.toInt p1))))]))
                refine own_end X0 (Q := (QA Z p1 h0 n0)) (some (.int (own_b (own_D (Int32.toInt p1))))) Bd.notSynchronized (fun h => by rw [Bd.returns] at h; cases h) (fun fs hr => retN X0 hx (t := .boolean) Bd.returns (by simp) (hb hby dA_59) (by rw [own_nb]; exact hr)) ?_ (by decide) (by decide)
                rw [e0]
                exact ⟨rfl, N0, rfl⟩
              · skip
                refine own_st (S' := s₁.setTop (mkF m 48 #[.val (.int p1)] [])) (fun _ k => XS.icmpNo X0.here hx rfl (hb hby dA_45) rfl ((own_i_lt _ _).trans (decide_eq_false (p := Int32.toInt p1 < 65536) (hc45))) k) ?_
                refine own_st (S' := s₁.setTop (mkF m 49 #[.val (.int p1)] [(.int p1)])) (fun _ k => XS.iloadN X0.here hx rfl (hb hby dA_48) rfl k) ?_
                refine own_st (S' := s₁.setTop (mkF m 51 #[.val (.int p1)] [(.int (1114111 : Int32)), (.int p1)])) (fun _ k => X0.ldcI hx hown (mvT hZ (hw _ (List.mem_of_getElem? (i := 25) rfl))) rfl (hb hby dA_49) k) ?_
                by_cases hc51 : Int32.toInt p1 > 1114111
                · skip
                  refine own_st (S' := s₁.setTop (mkF m 58 #[.val (.int p1)] [])) (fun _ k => XS.icmpYes X0.here hx rfl (pc0 := 51) (pc' := 58) rfl (hb hby dA_51) rfl ((own_i_gt _ _).trans (decide_eq_true (p := Int32.toInt p1 > 1114111) (hc51))) (by decide) (by decide) k) ?_
                  refine own_st (S' := s₁.setTop (mkF m 59 #[.val (.int p1)] [(.int (0 : Int32))])) (fun _ k => XS.iconst X0.here hx rfl (hb hby dA_58) k) ?_
                  have tq109 : (0 : Int32) = (own_b (own_D (Int32.toInt p1))) := (own_b0 (by unfold own_D; omega)).symm
                  refine own_cv (congrArg (fun z => s₁.setTop (mkF m 59 #[.val (.int p1)] [(.int z)])) tq109) ?_
                  show own_Go p.tables e below _ (s₁.setTop (mkF m 59 #[.val (.int p1)] [(.int (own_b (own_D (Int32.toInt p1))))]))
                  refine own_end X0 (Q := (QA Z p1 h0 n0)) (some (.int (own_b (own_D (Int32.toInt p1))))) Bd.notSynchronized (fun h => by rw [Bd.returns] at h; cases h) (fun fs hr => retN X0 hx (t := .boolean) Bd.returns (by simp) (hb hby dA_59) (by rw [own_nb]; exact hr)) ?_ (by decide) (by decide)
                  rw [e0]
                  exact ⟨rfl, N0, rfl⟩
                · skip
                  refine own_st (S' := s₁.setTop (mkF m 54 #[.val (.int p1)] [])) (fun _ k => XS.icmpNo X0.here hx rfl (hb hby dA_51) rfl ((own_i_gt _ _).trans (decide_eq_false (p := Int32.toInt p1 > 1114111) (hc51))) k) ?_
                  refine own_st (S' := s₁.setTop (mkF m 55 #[.val (.int p1)] [(.int (1 : Int32))])) (fun _ k => XS.iconst X0.here hx rfl (hb hby dA_54) k) ?_
                  refine own_st (S' := s₁.setTop (mkF m 59 #[.val (.int p1)] [(.int (1 : Int32))])) (fun _ k => XS.goto X0.here hx rfl (pc0 := 55) (pc' := 59) rfl (hb hby dA_55) (by decide) (by decide) k) ?_
                  have tq110 : (1 : Int32) = (own_b (own_D (Int32.toInt p1))) := (own_b1 (by unfold own_D; omega)).symm
                  refine own_cv (congrArg (fun z => s₁.setTop (mkF m 59 #[.val (.int p1)] [(.int z)])) tq110) ?_
                  show own_Go p.tables e below _ (s₁.setTop (mkF m 59 #[.val (.int p1)] [(.int (own_b (own_D (Int32.toInt p1))))]))
                  refine own_end X0 (Q := (QA Z p1 h0 n0)) (some (.int (own_b (own_D (Int32.toInt p1))))) Bd.notSynchronized (fun h => by rw [Bd.returns] at h; cases h) (fun fs hr => retN X0 hx (t := .boolean) Bd.returns (by simp) (hb hby dA_59) (by rw [own_nb]; exact hr)) ?_ (by decide) (by decide)
                  rw [e0]
                  exact ⟨rfl, N0, rfl⟩
        · skip
          refine own_st (S' := s₁.setTop (mkF m 24 #[.val (.int p1)] [])) (fun _ k => XS.icmpNo X0.here hx rfl (hb hby dA_21) rfl ((own_i_lt _ _).trans (decide_eq_false (p := Int32.toInt p1 < 32) (hc21))) k) ?_
          refine own_st (S' := s₁.setTop (mkF m 25 #[.val (.int p1)] [(.int p1)])) (fun _ k => XS.iloadN X0.here hx rfl (hb hby dA_24) rfl k) ?_
          refine own_st (S' := s₁.setTop (mkF m 27 #[.val (.int p1)] [(.int (55295 : Int32)), (.int p1)])) (fun _ k => X0.ldcI hx hown (mvT hZ (hw _ (List.mem_of_getElem? (i := 20) rfl))) rfl (hb hby dA_25) k) ?_
          by_cases hc27 : Int32.toInt p1 ≤ 55295
          · skip
            refine own_st (S' := s₁.setTop (mkF m 54 #[.val (.int p1)] [])) (fun _ k => XS.icmpYes X0.here hx rfl (pc0 := 27) (pc' := 54) rfl (hb hby dA_27) rfl ((own_i_le _ _).trans (decide_eq_true (p := Int32.toInt p1 ≤ 55295) (hc27))) (by decide) (by decide) k) ?_
            refine own_st (S' := s₁.setTop (mkF m 55 #[.val (.int p1)] [(.int (1 : Int32))])) (fun _ k => XS.iconst X0.here hx rfl (hb hby dA_54) k) ?_
            refine own_st (S' := s₁.setTop (mkF m 59 #[.val (.int p1)] [(.int (1 : Int32))])) (fun _ k => XS.goto X0.here hx rfl (pc0 := 55) (pc' := 59) rfl (hb hby dA_55) (by decide) (by decide) k) ?_
            have tq111 : (1 : Int32) = (own_b (own_D (Int32.toInt p1))) := (own_b1 (by unfold own_D; omega)).symm
            refine own_cv (congrArg (fun z => s₁.setTop (mkF m 59 #[.val (.int p1)] [(.int z)])) tq111) ?_
            show own_Go p.tables e below _ (s₁.setTop (mkF m 59 #[.val (.int p1)] [(.int (own_b (own_D (Int32.toInt p1))))]))
            refine own_end X0 (Q := (QA Z p1 h0 n0)) (some (.int (own_b (own_D (Int32.toInt p1))))) Bd.notSynchronized (fun h => by rw [Bd.returns] at h; cases h) (fun fs hr => retN X0 hx (t := .boolean) Bd.returns (by simp) (hb hby dA_59) (by rw [own_nb]; exact hr)) ?_ (by decide) (by decide)
            rw [e0]
            exact ⟨rfl, N0, rfl⟩
          · skip
            refine own_st (S' := s₁.setTop (mkF m 30 #[.val (.int p1)] [])) (fun _ k => XS.icmpNo X0.here hx rfl (hb hby dA_27) rfl ((own_i_le _ _).trans (decide_eq_false (p := Int32.toInt p1 ≤ 55295) (hc27))) k) ?_
            refine own_st (S' := s₁.setTop (mkF m 31 #[.val (.int p1)] [(.int p1)])) (fun _ k => XS.iloadN X0.here hx rfl (hb hby dA_30) rfl k) ?_
            refine own_st (S' := s₁.setTop (mkF m 33 #[.val (.int p1)] [(.int (57344 : Int32)), (.int p1)])) (fun _ k => X0.ldcI hx hown (mvT hZ (hw _ (List.mem_of_getElem? (i := 14) rfl))) rfl (hb hby dA_31) k) ?_
            by_cases hc33 : Int32.toInt p1 < 57344
            · skip
              refine own_st (S' := s₁.setTop (mkF m 42 #[.val (.int p1)] [])) (fun _ k => XS.icmpYes X0.here hx rfl (pc0 := 33) (pc' := 42) rfl (hb hby dA_33) rfl ((own_i_lt _ _).trans (decide_eq_true (p := Int32.toInt p1 < 57344) (hc33))) (by decide) (by decide) k) ?_
              refine own_st (S' := s₁.setTop (mkF m 43 #[.val (.int p1)] [(.int p1)])) (fun _ k => XS.iloadN X0.here hx rfl (hb hby dA_42) rfl k) ?_
              refine own_st (S' := s₁.setTop (mkF m 45 #[.val (.int p1)] [(.int (65536 : Int32)), (.int p1)])) (fun _ k => X0.ldcI hx hown (mvT hZ (hw _ (List.mem_of_getElem? (i := 15) rfl))) rfl (hb hby dA_43) k) ?_
              by_cases hc45 : Int32.toInt p1 < 65536
              · skip
                refine own_st (S' := s₁.setTop (mkF m 58 #[.val (.int p1)] [])) (fun _ k => XS.icmpYes X0.here hx rfl (pc0 := 45) (pc' := 58) rfl (hb hby dA_45) rfl ((own_i_lt _ _).trans (decide_eq_true (p := Int32.toInt p1 < 65536) (hc45))) (by decide) (by decide) k) ?_
                refine own_st (S' := s₁.setTop (mkF m 59 #[.val (.int p1)] [(.int (0 : Int32))])) (fun _ k => XS.iconst X0.here hx rfl (hb hby dA_58) k) ?_
                have tq112 : (0 : Int32) = (own_b (own_D (Int32.toInt p1))) := (own_b0 (by unfold own_D; omega)).symm
                refine own_cv (congrArg (fun z => s₁.setTop (mkF m 59 #[.val (.int p1)] [(.int z)])) tq112) ?_
                show own_Go p.tables e below _ (s₁.setTop (mkF m 59 #[.val (.int p1)] [(.int (own_b (own_D (Int32.toInt p1))))]))
                refine own_end X0 (Q := (QA Z p1 h0 n0)) (some (.int (own_b (own_D (Int32.toInt p1))))) Bd.notSynchronized (fun h => by rw [Bd.returns] at h; cases h) (fun fs hr => retN X0 hx (t := .boolean) Bd.returns (by simp) (hb hby dA_59) (by rw [own_nb]; exact hr)) ?_ (by decide) (by decide)
                rw [e0]
                exact ⟨rfl, N0, rfl⟩
              · skip
                refine own_st (S' := s₁.setTop (mkF m 48 #[.val (.int p1)] [])) (fun _ k => XS.icmpNo X0.here hx rfl (hb hby dA_45) rfl ((own_i_lt _ _).trans (decide_eq_false (p := Int32.toInt p1 < 65536) (hc45))) k) ?_
                refine own_st (S' := s₁.setTop (mkF m 49 #[.val (.int p1)] [(.int p1)])) (fun _ k => XS.iloadN X0.here hx rfl (hb hby dA_48) rfl k) ?_
                refine own_st (S' := s₁.setTop (mkF m 51 #[.val (.int p1)] [(.int (1114111 : Int32)), (.int p1)])) (fun _ k => X0.ldcI hx hown (mvT hZ (hw _ (List.mem_of_getElem? (i := 25) rfl))) rfl (hb hby dA_49) k) ?_
                by_cases hc51 : Int32.toInt p1 > 1114111
                · skip
                  refine own_st (S' := s₁.setTop (mkF m 58 #[.val (.int p1)] [])) (fun _ k => XS.icmpYes X0.here hx rfl (pc0 := 51) (pc' := 58) rfl (hb hby dA_51) rfl ((own_i_gt _ _).trans (decide_eq_true (p := Int32.toInt p1 > 1114111) (hc51))) (by decide) (by decide) k) ?_
                  refine own_st (S' := s₁.setTop (mkF m 59 #[.val (.int p1)] [(.int (0 : Int32))])) (fun _ k => XS.iconst X0.here hx rfl (hb hby dA_58) k) ?_
                  have tq113 : (0 : Int32) = (own_b (own_D (Int32.toInt p1))) := (own_b0 (by unfold own_D; omega)).symm
                  refine own_cv (congrArg (fun z => s₁.setTop (mkF m 59 #[.val (.int p1)] [(.int z)])) tq113) ?_
                  show own_Go p.tables e below _ (s₁.setTop (mkF m 59 #[.val (.int p1)] [(.int (own_b (own_D (Int32.toInt p1))))]))
                  refine own_end X0 (Q := (QA Z p1 h0 n0)) (some (.int (own_b (own_D (Int32.toInt p1))))) Bd.notSynchronized (fun h => by rw [Bd.returns] at h; cases h) (fun fs hr => retN X0 hx (t := .boolean) Bd.returns (by simp) (hb hby dA_59) (by rw [own_nb]; exact hr)) ?_ (by decide) (by decide)
                  rw [e0]
                  exact ⟨rfl, N0, rfl⟩
                · skip
                  refine own_st (S' := s₁.setTop (mkF m 54 #[.val (.int p1)] [])) (fun _ k => XS.icmpNo X0.here hx rfl (hb hby dA_51) rfl ((own_i_gt _ _).trans (decide_eq_false (p := Int32.toInt p1 > 1114111) (hc51))) k) ?_
                  refine own_st (S' := s₁.setTop (mkF m 55 #[.val (.int p1)] [(.int (1 : Int32))])) (fun _ k => XS.iconst X0.here hx rfl (hb hby dA_54) k) ?_
                  refine own_st (S' := s₁.setTop (mkF m 59 #[.val (.int p1)] [(.int (1 : Int32))])) (fun _ k => XS.goto X0.here hx rfl (pc0 := 55) (pc' := 59) rfl (hb hby dA_55) (by decide) (by decide) k) ?_
                  have tq114 : (1 : Int32) = (own_b (own_D (Int32.toInt p1))) := (own_b1 (by unfold own_D; omega)).symm
                  refine own_cv (congrArg (fun z => s₁.setTop (mkF m 59 #[.val (.int p1)] [(.int z)])) tq114) ?_
                  show own_Go p.tables e below _ (s₁.setTop (mkF m 59 #[.val (.int p1)] [(.int (own_b (own_D (Int32.toInt p1))))]))
                  refine own_end X0 (Q := (QA Z p1 h0 n0)) (some (.int (own_b (own_D (Int32.toInt p1))))) Bd.notSynchronized (fun h => by rw [Bd.returns] at h; cases h) (fun fs hr => retN X0 hx (t := .boolean) Bd.returns (by simp) (hb hby dA_59) (by rw [own_nb]; exact hr)) ?_ (by decide) (by decide)
                  rw [e0]
                  exact ⟨rfl, N0, rfl⟩
            · skip
              refine own_st (S' := s₁.setTop (mkF m 36 #[.val (.int p1)] [])) (fun _ k => XS.icmpNo X0.here hx rfl (hb hby dA_33) rfl ((own_i_lt _ _).trans (decide_eq_false (p := Int32.toInt p1 < 57344) (hc33))) k) ?_
              refine own_st (S' := s₁.setTop (mkF m 37 #[.val (.int p1)] [(.int p1)])) (fun _ k => XS.iloadN X0.here hx rfl (hb hby dA_36) rfl k) ?_
              refine own_st (S' := s₁.setTop (mkF m 39 #[.val (.int p1)] [(.int (65533 : Int32)), (.int p1)])) (fun _ k => X0.ldcI hx hown (mvT hZ (hw _ (List.mem_of_getElem? (i := 24) rfl))) rfl (hb hby dA_37) k) ?_
              by_cases hc39 : Int32.toInt p1 ≤ 65533
              · skip
                refine own_st (S' := s₁.setTop (mkF m 54 #[.val (.int p1)] [])) (fun _ k => XS.icmpYes X0.here hx rfl (pc0 := 39) (pc' := 54) rfl (hb hby dA_39) rfl ((own_i_le _ _).trans (decide_eq_true (p := Int32.toInt p1 ≤ 65533) (hc39))) (by decide) (by decide) k) ?_
                refine own_st (S' := s₁.setTop (mkF m 55 #[.val (.int p1)] [(.int (1 : Int32))])) (fun _ k => XS.iconst X0.here hx rfl (hb hby dA_54) k) ?_
                refine own_st (S' := s₁.setTop (mkF m 59 #[.val (.int p1)] [(.int (1 : Int32))])) (fun _ k => XS.goto X0.here hx rfl (pc0 := 55) (pc' := 59) rfl (hb hby dA_55) (by decide) (by decide) k) ?_
                have tq115 : (1 : Int32) = (own_b (own_D (Int32.toInt p1))) := (own_b1 (by unfold own_D; omega)).symm
                refine own_cv (congrArg (fun z => s₁.setTop (mkF m 59 #[.val (.int p1)] [(.int z)])) tq115) ?_
                show own_Go p.tables e below _ (s₁.setTop (mkF m 59 #[.val (.int p1)] [(.int (own_b (own_D (Int32.toInt p1))))]))
                refine own_end X0 (Q := (QA Z p1 h0 n0)) (some (.int (own_b (own_D (Int32.toInt p1))))) Bd.notSynchronized (fun h => by rw [Bd.returns] at h; cases h) (fun fs hr => retN X0 hx (t := .boolean) Bd.returns (by simp) (hb hby dA_59) (by rw [own_nb]; exact hr)) ?_ (by decide) (by decide)
                rw [e0]
                exact ⟨rfl, N0, rfl⟩
              · skip
                refine own_st (S' := s₁.setTop (mkF m 42 #[.val (.int p1)] [])) (fun _ k => XS.icmpNo X0.here hx rfl (hb hby dA_39) rfl ((own_i_le _ _).trans (decide_eq_false (p := Int32.toInt p1 ≤ 65533) (hc39))) k) ?_
                refine own_st (S' := s₁.setTop (mkF m 43 #[.val (.int p1)] [(.int p1)])) (fun _ k => XS.iloadN X0.here hx rfl (hb hby dA_42) rfl k) ?_
                refine own_st (S' := s₁.setTop (mkF m 45 #[.val (.int p1)] [(.int (65536 : Int32)), (.int p1)])) (fun _ k => X0.ldcI hx hown (mvT hZ (hw _ (List.mem_of_getElem? (i := 15) rfl))) rfl (hb hby dA_43) k) ?_
                by_cases hc45 : Int32.toInt p1 < 65536
                · skip
                  refine own_st (S' := s₁.setTop (mkF m 58 #[.val (.int p1)] [])) (fun _ k => XS.icmpYes X0.here hx rfl (pc0 := 45) (pc' := 58) rfl (hb hby dA_45) rfl ((own_i_lt _ _).trans (decide_eq_true (p := Int32.toInt p1 < 65536) (hc45))) (by decide) (by decide) k) ?_
                  refine own_st (S' := s₁.setTop (mkF m 59 #[.val (.int p1)] [(.int (0 : Int32))])) (fun _ k => XS.iconst X0.here hx rfl (hb hby dA_58) k) ?_
                  have tq116 : (0 : Int32) = (own_b (own_D (Int32.toInt p1))) := (own_b0 (by unfold own_D; omega)).symm
                  refine own_cv (congrArg (fun z => s₁.setTop (mkF m 59 #[.val (.int p1)] [(.int z)])) tq116) ?_
                  show own_Go p.tables e below _ (s₁.setTop (mkF m 59 #[.val (.int p1)] [(.int (own_b (own_D (Int32.toInt p1))))]))
                  refine own_end X0 (Q := (QA Z p1 h0 n0)) (some (.int (own_b (own_D (Int32.toInt p1))))) Bd.notSynchronized (fun h => by rw [Bd.returns] at h; cases h) (fun fs hr => retN X0 hx (t := .boolean) Bd.returns (by simp) (hb hby dA_59) (by rw [own_nb]; exact hr)) ?_ (by decide) (by decide)
                  rw [e0]
                  exact ⟨rfl, N0, rfl⟩
                · skip
                  refine own_st (S' := s₁.setTop (mkF m 48 #[.val (.int p1)] [])) (fun _ k => XS.icmpNo X0.here hx rfl (hb hby dA_45) rfl ((own_i_lt _ _).trans (decide_eq_false (p := Int32.toInt p1 < 65536) (hc45))) k) ?_
                  refine own_st (S' := s₁.setTop (mkF m 49 #[.val (.int p1)] [(.int p1)])) (fun _ k => XS.iloadN X0.here hx rfl (hb hby dA_48) rfl k) ?_
                  refine own_st (S' := s₁.setTop (mkF m 51 #[.val (.int p1)] [(.int (1114111 : Int32)), (.int p1)])) (fun _ k => X0.ldcI hx hown (mvT hZ (hw _ (List.mem_of_getElem? (i := 25) rfl))) rfl (hb hby dA_49) k) ?_
                  by_cases hc51 : Int32.toInt p1 > 1114111
                  · skip
                    refine own_st (S' := s₁.setTop (mkF m 58 #[.val (.int p1)] [])) (fun _ k => XS.icmpYes X0.here hx rfl (pc0 := 51) (pc' := 58) rfl (hb hby dA_51) rfl ((own_i_gt _ _).trans (decide_eq_true (p := Int32.toInt p1 > 1114111) (hc51))) (by decide) (by decide) k) ?_
                    refine own_st (S' := s₁.setTop (mkF m 59 #[.val (.int p1)] [(.int (0 : Int32))])) (fun _ k => XS.iconst X0.here hx rfl (hb hby dA_58) k) ?_
                    have tq117 : (0 : Int32) = (own_b (own_D (Int32.toInt p1))) := (own_b0 (by unfold own_D; omega)).symm
                    refine own_cv (congrArg (fun z => s₁.setTop (mkF m 59 #[.val (.int p1)] [(.int z)])) tq117) ?_
                    show own_Go p.tables e below _ (s₁.setTop (mkF m 59 #[.val (.int p1)] [(.int (own_b (own_D (Int32.toInt p1))))]))
                    refine own_end X0 (Q := (QA Z p1 h0 n0)) (some (.int (own_b (own_D (Int32.toInt p1))))) Bd.notSynchronized (fun h => by rw [Bd.returns] at h; cases h) (fun fs hr => retN X0 hx (t := .boolean) Bd.returns (by simp) (hb hby dA_59) (by rw [own_nb]; exact hr)) ?_ (by decide) (by decide)
                    rw [e0]
                    exact ⟨rfl, N0, rfl⟩
                  · skip
                    refine own_st (S' := s₁.setTop (mkF m 54 #[.val (.int p1)] [])) (fun _ k => XS.icmpNo X0.here hx rfl (hb hby dA_51) rfl ((own_i_gt _ _).trans (decide_eq_false (p := Int32.toInt p1 > 1114111) (hc51))) k) ?_
                    refine own_st (S' := s₁.setTop (mkF m 55 #[.val (.int p1)] [(.int (1 : Int32))])) (fun _ k => XS.iconst X0.here hx rfl (hb hby dA_54) k) ?_
                    refine own_st (S' := s₁.setTop (mkF m 59 #[.val (.int p1)] [(.int (1 : Int32))])) (fun _ k => XS.goto X0.here hx rfl (pc0 := 55) (pc' := 59) rfl (hb hby dA_55) (by decide) (by decide) k) ?_
                    have tq118 : (1 : Int32) = (own_b (own_D (Int32.toInt p1))) := (own_b1 (by unfold own_D; omega)).symm
                    refine own_cv (congrArg (fun z => s₁.setTop (mkF m 59 #[.val (.int p1)] [(.int z)])) tq118) ?_
                    show own_Go p.tables e below _ (s₁.setTop (mkF m 59 #[.val (.int p1)] [(.int (own_b (own_D (Int32.toInt p1))))]))
                    refine own_end X0 (Q := (QA Z p1 h0 n0)) (some (.int (own_b (own_D (Int32.toInt p1))))) Bd.notSynchronized (fun h => by rw [Bd.returns] at h; cases h) (fun fs hr => retN X0 hx (t := .boolean) Bd.returns (by simp) (hb hby dA_59) (by rw [own_nb]; exact hr)) ?_ (by decide) (by decide)
                    rw [e0]
                    exact ⟨rfl, N0, rfl⟩
theorem dB_0 : decode method_2_code 0 = .ok (.iload_n 0, 1) := by decide +kernel
theorem dB_1 : decode method_2_code 1 = .ok (.ifCond .lt 9, 3) := by decide +kernel
theorem dB_4 : decode method_2_code 4 = .ok (.iload_n 0, 1) := by decide +kernel
theorem dB_5 : decode method_2_code 5 = .ok (.ldc 7, 2) := by decide +kernel
theorem dB_7 : decode method_2_code 7 = .ok (.if_icmp .le 5, 3) := by decide +kernel
theorem dB_10 : decode method_2_code 10 = .ok (.iconst 0, 1) := by decide +kernel
theorem dB_11 : decode method_2_code 11 = .ok (.ireturn, 1) := by decide +kernel
theorem dB_12 : decode method_2_code 12 = .ok (.iload_n 0, 1) := by decide +kernel
theorem dB_13 : decode method_2_code 13 = .ok (.bipush 32, 2) := by decide +kernel
theorem dB_15 : decode method_2_code 15 = .ok (.if_icmp .ge 27, 3) := by decide +kernel
theorem dB_18 : decode method_2_code 18 = .ok (.iload_n 0, 1) := by decide +kernel
theorem dB_19 : decode method_2_code 19 = .ok (.bipush 9, 2) := by decide +kernel
theorem dB_21 : decode method_2_code 21 = .ok (.if_icmp .eq 15, 3) := by decide +kernel
theorem dB_24 : decode method_2_code 24 = .ok (.iload_n 0, 1) := by decide +kernel
theorem dB_25 : decode method_2_code 25 = .ok (.bipush 10, 2) := by decide +kernel
theorem dB_27 : decode method_2_code 27 = .ok (.if_icmp .eq 9, 3) := by decide +kernel
theorem dB_30 : decode method_2_code 30 = .ok (.iload_n 0, 1) := by decide +kernel
theorem dB_31 : decode method_2_code 31 = .ok (.bipush 13, 2) := by decide +kernel
theorem dB_33 : decode method_2_code 33 = .ok (.if_icmp .ne 7, 3) := by decide +kernel
theorem dB_36 : decode method_2_code 36 = .ok (.iconst 1, 1) := by decide +kernel
theorem dB_37 : decode method_2_code 37 = .ok (.goto 4, 3) := by decide +kernel
theorem dB_40 : decode method_2_code 40 = .ok (.iconst 0, 1) := by decide +kernel
theorem dB_41 : decode method_2_code 41 = .ok (.ireturn, 1) := by decide +kernel
theorem dB_42 : decode method_2_code 42 = .ok (.iload_n 0, 1) := by decide +kernel
theorem dB_43 : decode method_2_code 43 = .ok (.ldc 8, 2) := by decide +kernel
theorem dB_45 : decode method_2_code 45 = .ok (.if_icmp .lt 11, 3) := by decide +kernel
theorem dB_48 : decode method_2_code 48 = .ok (.iload_n 0, 1) := by decide +kernel
theorem dB_49 : decode method_2_code 49 = .ok (.ldc 9, 2) := by decide +kernel
theorem dB_51 : decode method_2_code 51 = .ok (.if_icmp .gt 5, 3) := by decide +kernel
theorem dB_54 : decode method_2_code 54 = .ok (.iconst 0, 1) := by decide +kernel
theorem dB_55 : decode method_2_code 55 = .ok (.ireturn, 1) := by decide +kernel
theorem dB_56 : decode method_2_code 56 = .ok (.iload_n 0, 1) := by decide +kernel
theorem dB_57 : decode method_2_code 57 = .ok (.ldc 10, 2) := by decide +kernel
theorem dB_59 : decode method_2_code 59 = .ok (.if_icmp .eq 9, 3) := by decide +kernel
theorem dB_62 : decode method_2_code 62 = .ok (.iload_n 0, 1) := by decide +kernel
theorem dB_63 : decode method_2_code 63 = .ok (.ldc 11, 2) := by decide +kernel
theorem dB_65 : decode method_2_code 65 = .ok (.if_icmp .ne 5, 3) := by decide +kernel
theorem dB_68 : decode method_2_code 68 = .ok (.iconst 0, 1) := by decide +kernel
theorem dB_69 : decode method_2_code 69 = .ok (.ireturn, 1) := by decide +kernel
theorem dB_70 : decode method_2_code 70 = .ok (.iconst 1, 1) := by decide +kernel
theorem dB_71 : decode method_2_code 71 = .ok (.ireturn, 1) := by decide +kernel
theorem pn_B : plainName "com/example/infoset/infoset/XmlCharsIsCharPinLaw" = true := by first | (simp [plainName, overriddenIn]; done) | decide +kernel
theorem pd_B : parseMethodDescriptor "(I)Z" = some ⟨[.int], some .boolean⟩ := by decide +kernel
theorem ef_B (m : MethodId) (p1 : Int32) : entryFrame m #[(.int p1)] 1 = mkF m 0 #[.val (.int p1)] [] := by first | (simp [entryFrame, mkF, argsToLocals, Value.category]; done) | rfl
def QB (Z : State) (p1 : Int32) (h0 : Heap) (n0 : Nat) (v : Option Value) (h : Heap) (L : List Loc) : Prop := v = some (.int (own_b (own_D (Int32.toInt p1)))) ∧ Fr n0 L ∧ h = h0
set_option maxRecDepth 65536 in
set_option maxHeartbeats 40000000 in
theorem rmB (l : Launch) (Z : State) (a0 : Array Value) (hw : ∀ d ∈ tables_1, d.before a0 Z = true) (ws : List Jvm.Cond) (p1 : Int32) (h0 : Heap) (n0 : Nat) (Z0 : n0 ≤ h0.size) :
    MetFree l (⟨"com/example/infoset/infoset/XmlCharsIsCharPinLaw", "expected", "(I)Z"⟩ : MethodName) (head1 (Jvm.Cond.code (⟨"com/example/infoset/infoset/XmlCharsIsCharPinLaw", "expected", "(I)Z"⟩ : MethodName) method_2_code 1 (some .boolean) :: ws) ({ frames := 0, cells := 0, slots := 0, locals := 0 } : Room)) (fun a U => a = #[(.int p1)] ∧ Z.Warmed39 U.vm ∧ U.heap = h0) (fun _ _ _ _ _ => True) (fun _ U o U' => ∃ v L, o = .returned v ∧ QB Z p1 h0 n0 v U'.heap L ∧ FrameEnd U o U' L ({ frames := 0, cells := 0, slots := 0, locals := 0 } : Room).cells ({ frames := 0, cells := 0, slots := 0, locals := 0 } : Room).slots) := by
  refine MetFree.of_bodySF (plainFor_of_name pn_B) hisR ?_
  intro p e s m args below meth c s₁ Bd hml0 hP hK
  obtain ⟨rfl, hZ, hh⟩ := hP
  have hx := Bd.exec
  have hby := Bd.bytes
  have hml : c.maxLocals = 1 := hml0
  have hown : s.vm.findClass "com/example/infoset/infoset/XmlCharsIsCharPinLaw" = some m.cls := findClass_of_methodNamed Bd.named
  have hnm := (name_of_methodNamed Bd.named Bd.method).1
  have X0 : Stand p l e ({ frames := 0, cells := 0, slots := 0, locals := 0 } : Room) s m #[(.int p1)] below meth c s₁ [] 0 0 := Stand.of_body Bd
  have e0 : s₁.heap = h0 := by rw [← hh, Bd.state]; rfl
  have N0 := Fr.nil n0
  show own_Go p.tables e below (fun t o => ∃ v L, o = .returned v ∧ QB Z p1 h0 n0 v t.heap L ∧ FrameEnd s o t L ({ frames := 0, cells := 0, slots := 0, locals := 0 } : Room).cells ({ frames := 0, cells := 0, slots := 0, locals := 0 } : Room).slots) (s₁.setTop (entryFrame m #[(.int p1)] 1))
  rw [ef_B]
  show own_Go p.tables e below _ (s₁.setTop (mkF m 0 #[.val (.int p1)] []))
  refine own_st (S' := s₁.setTop (mkF m 1 #[.val (.int p1)] [(.int p1)])) (fun _ k => XS.iloadN X0.here hx rfl (hb hby dB_0) rfl k) ?_
  by_cases hc1 : Int32.toInt p1 < 0
  · skip
    refine own_st (S' := s₁.setTop (mkF m 10 #[.val (.int p1)] [])) (fun _ k => XS.ifYes X0.here hx rfl (pc0 := 1) (pc' := 10) rfl (hb hby dB_1) rfl ((own_z_lt _).trans (decide_eq_true (p := Int32.toInt p1 < 0) (hc1))) (by decide) (by decide) k) ?_
    refine own_st (S' := s₁.setTop (mkF m 11 #[.val (.int p1)] [(.int (0 : Int32))])) (fun _ k => XS.iconst X0.here hx rfl (hb hby dB_10) k) ?_
    have tq101 : (0 : Int32) = (own_b (own_D (Int32.toInt p1))) := (own_b0 (by unfold own_D; omega)).symm
    refine own_cv (congrArg (fun z => s₁.setTop (mkF m 11 #[.val (.int p1)] [(.int z)])) tq101) ?_
    show own_Go p.tables e below _ (s₁.setTop (mkF m 11 #[.val (.int p1)] [(.int (own_b (own_D (Int32.toInt p1))))]))
    refine own_end X0 (Q := (QB Z p1 h0 n0)) (some (.int (own_b (own_D (Int32.toInt p1))))) Bd.notSynchronized (fun h => by rw [Bd.returns] at h; cases h) (fun fs hr => retN X0 hx (t := .boolean) Bd.returns (by simp) (hb hby dB_11) (by rw [own_nb]; exact hr)) ?_ (by decide) (by decide)
    rw [e0]
    exact ⟨rfl, N0, rfl⟩
  · skip
    refine own_st (S' := s₁.setTop (mkF m 4 #[.val (.int p1)] [])) (fun _ k => XS.ifNo X0.here hx rfl (hb hby dB_1) rfl ((own_z_lt _).trans (decide_eq_false (p := Int32.toInt p1 < 0) (hc1))) k) ?_
    refine own_st (S' := s₁.setTop (mkF m 5 #[.val (.int p1)] [(.int p1)])) (fun _ k => XS.iloadN X0.here hx rfl (hb hby dB_4) rfl k) ?_
    refine own_st (S' := s₁.setTop (mkF m 7 #[.val (.int p1)] [(.int (1114111 : Int32)), (.int p1)])) (fun _ k => X0.ldcI hx hown (mvT hZ (hw _ (List.mem_of_getElem? (i := 6) rfl))) rfl (hb hby dB_5) k) ?_
    by_cases hc7 : Int32.toInt p1 ≤ 1114111
    · skip
      refine own_st (S' := s₁.setTop (mkF m 12 #[.val (.int p1)] [])) (fun _ k => XS.icmpYes X0.here hx rfl (pc0 := 7) (pc' := 12) rfl (hb hby dB_7) rfl ((own_i_le _ _).trans (decide_eq_true (p := Int32.toInt p1 ≤ 1114111) (hc7))) (by decide) (by decide) k) ?_
      refine own_st (S' := s₁.setTop (mkF m 13 #[.val (.int p1)] [(.int p1)])) (fun _ k => XS.iloadN X0.here hx rfl (hb hby dB_12) rfl k) ?_
      refine own_st (S' := s₁.setTop (mkF m 15 #[.val (.int p1)] [(.int (32 : Int32)), (.int p1)])) (fun _ k => XS.bipush X0.here hx rfl (hb hby dB_13) k) ?_
      by_cases hc15 : Int32.toInt p1 ≥ 32
      · skip
        refine own_st (S' := s₁.setTop (mkF m 42 #[.val (.int p1)] [])) (fun _ k => XS.icmpYes X0.here hx rfl (pc0 := 15) (pc' := 42) rfl (hb hby dB_15) rfl ((own_i_ge _ _).trans (decide_eq_true (p := Int32.toInt p1 ≥ 32) (hc15))) (by decide) (by decide) k) ?_
        refine own_st (S' := s₁.setTop (mkF m 43 #[.val (.int p1)] [(.int p1)])) (fun _ k => XS.iloadN X0.here hx rfl (hb hby dB_42) rfl k) ?_
        refine own_st (S' := s₁.setTop (mkF m 45 #[.val (.int p1)] [(.int (55296 : Int32)), (.int p1)])) (fun _ k => X0.ldcI hx hown (mvT hZ (hw _ (List.mem_of_getElem? (i := 21) rfl))) rfl (hb hby dB_43) k) ?_
        by_cases hc45 : Int32.toInt p1 < 55296
        · skip
          refine own_st (S' := s₁.setTop (mkF m 56 #[.val (.int p1)] [])) (fun _ k => XS.icmpYes X0.here hx rfl (pc0 := 45) (pc' := 56) rfl (hb hby dB_45) rfl ((own_i_lt _ _).trans (decide_eq_true (p := Int32.toInt p1 < 55296) (hc45))) (by decide) (by decide) k) ?_
          refine own_st (S' := s₁.setTop (mkF m 57 #[.val (.int p1)] [(.int p1)])) (fun _ k => XS.iloadN X0.here hx rfl (hb hby dB_56) rfl k) ?_
          refine own_st (S' := s₁.setTop (mkF m 59 #[.val (.int p1)] [(.int (65534 : Int32)), (.int p1)])) (fun _ k => X0.ldcI hx hown (mvT hZ (hw _ (List.mem_of_getElem? (i := 22) rfl))) rfl (hb hby dB_57) k) ?_
          by_cases hc59 : Int32.toInt p1 = 65534
          · skip
            refine own_st (S' := s₁.setTop (mkF m 68 #[.val (.int p1)] [])) (fun _ k => XS.icmpYes X0.here hx rfl (pc0 := 59) (pc' := 68) rfl (hb hby dB_59) rfl ((own_i_eq _ _).trans (decide_eq_true (p := Int32.toInt p1 = 65534) (hc59))) (by decide) (by decide) k) ?_
            refine own_st (S' := s₁.setTop (mkF m 69 #[.val (.int p1)] [(.int (0 : Int32))])) (fun _ k => XS.iconst X0.here hx rfl (hb hby dB_68) k) ?_
            have tq102 : (0 : Int32) = (own_b (own_D (Int32.toInt p1))) := (own_b0 (by unfold own_D; omega)).symm
            refine own_cv (congrArg (fun z => s₁.setTop (mkF m 69 #[.val (.int p1)] [(.int z)])) tq102) ?_
            show own_Go p.tables e below _ (s₁.setTop (mkF m 69 #[.val (.int p1)] [(.int (own_b (own_D (Int32.toInt p1))))]))
            refine own_end X0 (Q := (QB Z p1 h0 n0)) (some (.int (own_b (own_D (Int32.toInt p1))))) Bd.notSynchronized (fun h => by rw [Bd.returns] at h; cases h) (fun fs hr => retN X0 hx (t := .boolean) Bd.returns (by simp) (hb hby dB_69) (by rw [own_nb]; exact hr)) ?_ (by decide) (by decide)
            rw [e0]
            exact ⟨rfl, N0, rfl⟩
          · skip
            refine own_st (S' := s₁.setTop (mkF m 62 #[.val (.int p1)] [])) (fun _ k => XS.icmpNo X0.here hx rfl (hb hby dB_59) rfl ((own_i_eq _ _).trans (decide_eq_false (p := Int32.toInt p1 = 65534) (hc59))) k) ?_
            refine own_st (S' := s₁.setTop (mkF m 63 #[.val (.int p1)] [(.int p1)])) (fun _ k => XS.iloadN X0.here hx rfl (hb hby dB_62) rfl k) ?_
            refine own_st (S' := s₁.setTop (mkF m 65 #[.val (.int p1)] [(.int (65535 : Int32)), (.int p1)])) (fun _ k => X0.ldcI hx hown (mvT hZ (hw _ (List.mem_of_getElem? (i := 23) rfl))) rfl (hb hby dB_63) k) ?_
            by_cases hc65 : Int32.toInt p1 ≠ 65535
            · skip
              refine own_st (S' := s₁.setTop (mkF m 70 #[.val (.int p1)] [])) (fun _ k => XS.icmpYes X0.here hx rfl (pc0 := 65) (pc' := 70) rfl (hb hby dB_65) rfl ((own_i_ne _ _).trans (decide_eq_true (p := Int32.toInt p1 ≠ 65535) (hc65))) (by decide) (by decide) k) ?_
              refine own_st (S' := s₁.setTop (mkF m 71 #[.val (.int p1)] [(.int (1 : Int32))])) (fun _ k => XS.iconst X0.here hx rfl (hb hby dB_70) k) ?_
              have tq103 : (1 : Int32) = (own_b (own_D (Int32.toInt p1))) := (own_b1 (by unfold own_D; omega)).symm
              refine own_cv (congrArg (fun z => s₁.setTop (mkF m 71 #[.val (.int p1)] [(.int z)])) tq103) ?_
              show own_Go p.tables e below _ (s₁.setTop (mkF m 71 #[.val (.int p1)] [(.int (own_b (own_D (Int32.toInt p1))))]))
              refine own_end X0 (Q := (QB Z p1 h0 n0)) (some (.int (own_b (own_D (Int32.toInt p1))))) Bd.notSynchronized (fun h => by rw [Bd.returns] at h; cases h) (fun fs hr => retN X0 hx (t := .boolean) Bd.returns (by simp) (hb hby dB_71) (by rw [own_nb]; exact hr)) ?_ (by decide) (by decide)
              rw [e0]
              exact ⟨rfl, N0, rfl⟩
            · skip
              refine own_st (S' := s₁.setTop (mkF m 68 #[.val (.int p1)] [])) (fun _ k => XS.icmpNo X0.here hx rfl (hb hby dB_65) rfl ((own_i_ne _ _).trans (decide_eq_false (p := Int32.toInt p1 ≠ 65535) (hc65))) k) ?_
              refine own_st (S' := s₁.setTop (mkF m 69 #[.val (.int p1)] [(.int (0 : Int32))])) (fun _ k => XS.iconst X0.here hx rfl (hb hby dB_68) k) ?_
              have tq104 : (0 : Int32) = (own_b (own_D (Int32.toInt p1))) := (own_b0 (by unfold own_D; omega)).symm
              refine own_cv (congrArg (fun z => s₁.setTop (mkF m 69 #[.val (.int p1)] [(.int z)])) tq104) ?_
              show own_Go p.tables e below _ (s₁.setTop (mkF m 69 #[.val (.int p1)] [(.int (own_b (own_D (Int32.toInt p1))))]))
              refine own_end X0 (Q := (QB Z p1 h0 n0)) (some (.int (own_b (own_D (Int32.toInt p1))))) Bd.notSynchronized (fun h => by rw [Bd.returns] at h; cases h) (fun fs hr => retN X0 hx (t := .boolean) Bd.returns (by simp) (hb hby dB_69) (by rw [own_nb]; exact hr)) ?_ (by decide) (by decide)
              rw [e0]
              exact ⟨rfl, N0, rfl⟩
        · skip
          refine own_st (S' := s₁.setTop (mkF m 48 #[.val (.int p1)] [])) (fun _ k => XS.icmpNo X0.here hx rfl (hb hby dB_45) rfl ((own_i_lt _ _).trans (decide_eq_false (p := Int32.toInt p1 < 55296) (hc45))) k) ?_
          refine own_st (S' := s₁.setTop (mkF m 49 #[.val (.int p1)] [(.int p1)])) (fun _ k => XS.iloadN X0.here hx rfl (hb hby dB_48) rfl k) ?_
          refine own_st (S' := s₁.setTop (mkF m 51 #[.val (.int p1)] [(.int (57343 : Int32)), (.int p1)])) (fun _ k => X0.ldcI hx hown (mvT hZ (hw _ (List.mem_of_getElem? (i := 2) rfl))) rfl (hb hby dB_49) k) ?_
          by_cases hc51 : Int32.toInt p1 > 57343
          · skip
            refine own_st (S' := s₁.setTop (mkF m 56 #[.val (.int p1)] [])) (fun _ k => XS.icmpYes X0.here hx rfl (pc0 := 51) (pc' := 56) rfl (hb hby dB_51) rfl ((own_i_gt _ _).trans (decide_eq_true (p := Int32.toInt p1 > 57343) (hc51))) (by decide) (by decide) k) ?_
            refine own_st (S' := s₁.setTop (mkF m 57 #[.val (.int p1)] [(.int p1)])) (fun _ k => XS.iloadN X0.here hx rfl (hb hby dB_56) rfl k) ?_
            refine own_st (S' := s₁.setTop (mkF m 59 #[.val (.int p1)] [(.int (65534 : Int32)), (.int p1)])) (fun _ k => X0.ldcI hx hown (mvT hZ (hw _ (List.mem_of_getElem? (i := 22) rfl))) rfl (hb hby dB_57) k) ?_
            by_cases hc59 : Int32.toInt p1 = 65534
            · skip
              refine own_st (S' := s₁.setTop (mkF m 68 #[.val (.int p1)] [])) (fun _ k => XS.icmpYes X0.here hx rfl (pc0 := 59) (pc' := 68) rfl (hb hby dB_59) rfl ((own_i_eq _ _).trans (decide_eq_true (p := Int32.toInt p1 = 65534) (hc59))) (by decide) (by decide) k) ?_
              refine own_st (S' := s₁.setTop (mkF m 69 #[.val (.int p1)] [(.int (0 : Int32))])) (fun _ k => XS.iconst X0.here hx rfl (hb hby dB_68) k) ?_
              have tq105 : (0 : Int32) = (own_b (own_D (Int32.toInt p1))) := (own_b0 (by unfold own_D; omega)).symm
              refine own_cv (congrArg (fun z => s₁.setTop (mkF m 69 #[.val (.int p1)] [(.int z)])) tq105) ?_
              show own_Go p.tables e below _ (s₁.setTop (mkF m 69 #[.val (.int p1)] [(.int (own_b (own_D (Int32.toInt p1))))]))
              refine own_end X0 (Q := (QB Z p1 h0 n0)) (some (.int (own_b (own_D (Int32.toInt p1))))) Bd.notSynchronized (fun h => by rw [Bd.returns] at h; cases h) (fun fs hr => retN X0 hx (t := .boolean) Bd.returns (by simp) (hb hby dB_69) (by rw [own_nb]; exact hr)) ?_ (by decide) (by decide)
              rw [e0]
              exact ⟨rfl, N0, rfl⟩
            · skip
              refine own_st (S' := s₁.setTop (mkF m 62 #[.val (.int p1)] [])) (fun _ k => XS.icmpNo X0.here hx rfl (hb hby dB_59) rfl ((own_i_eq _ _).trans (decide_eq_false (p := Int32.toInt p1 = 65534) (hc59))) k) ?_
              refine own_st (S' := s₁.setTop (mkF m 63 #[.val (.int p1)] [(.int p1)])) (fun _ k => XS.iloadN X0.here hx rfl (hb hby dB_62) rfl k) ?_
              refine own_st (S' := s₁.setTop (mkF m 65 #[.val (.int p1)] [(.int (65535 : Int32)), (.int p1)])) (fun _ k => X0.ldcI hx hown (mvT hZ (hw _ (List.mem_of_getElem? (i := 23) rfl))) rfl (hb hby dB_63) k) ?_
              by_cases hc65 : Int32.toInt p1 ≠ 65535
              · skip
                refine own_st (S' := s₁.setTop (mkF m 70 #[.val (.int p1)] [])) (fun _ k => XS.icmpYes X0.here hx rfl (pc0 := 65) (pc' := 70) rfl (hb hby dB_65) rfl ((own_i_ne _ _).trans (decide_eq_true (p := Int32.toInt p1 ≠ 65535) (hc65))) (by decide) (by decide) k) ?_
                refine own_st (S' := s₁.setTop (mkF m 71 #[.val (.int p1)] [(.int (1 : Int32))])) (fun _ k => XS.iconst X0.here hx rfl (hb hby dB_70) k) ?_
                have tq106 : (1 : Int32) = (own_b (own_D (Int32.toInt p1))) := (own_b1 (by unfold own_D; omega)).symm
                refine own_cv (congrArg (fun z => s₁.setTop (mkF m 71 #[.val (.int p1)] [(.int z)])) tq106) ?_
                show own_Go p.tables e below _ (s₁.setTop (mkF m 71 #[.val (.int p1)] [(.int (own_b (own_D (Int32.toInt p1))))]))
                refine own_end X0 (Q := (QB Z p1 h0 n0)) (some (.int (own_b (own_D (Int32.toInt p1))))) Bd.notSynchronized (fun h => by rw [Bd.returns] at h; cases h) (fun fs hr => retN X0 hx (t := .boolean) Bd.returns (by simp) (hb hby dB_71) (by rw [own_nb]; exact hr)) ?_ (by decide) (by decide)
                rw [e0]
                exact ⟨rfl, N0, rfl⟩
              · skip
                refine own_st (S' := s₁.setTop (mkF m 68 #[.val (.int p1)] [])) (fun _ k => XS.icmpNo X0.here hx rfl (hb hby dB_65) rfl ((own_i_ne _ _).trans (decide_eq_false (p := Int32.toInt p1 ≠ 65535) (hc65))) k) ?_
                refine own_st (S' := s₁.setTop (mkF m 69 #[.val (.int p1)] [(.int (0 : Int32))])) (fun _ k => XS.iconst X0.here hx rfl (hb hby dB_68) k) ?_
                have tq107 : (0 : Int32) = (own_b (own_D (Int32.toInt p1))) := (own_b0 (by unfold own_D; omega)).symm
                refine own_cv (congrArg (fun z => s₁.setTop (mkF m 69 #[.val (.int p1)] [(.int z)])) tq107) ?_
                show own_Go p.tables e below _ (s₁.setTop (mkF m 69 #[.val (.int p1)] [(.int (own_b (own_D (Int32.toInt p1))))]))
                refine own_end X0 (Q := (QB Z p1 h0 n0)) (some (.int (own_b (own_D (Int32.toInt p1))))) Bd.notSynchronized (fun h => by rw [Bd.returns] at h; cases h) (fun fs hr => retN X0 hx (t := .boolean) Bd.returns (by simp) (hb hby dB_69) (by rw [own_nb]; exact hr)) ?_ (by decide) (by decide)
                rw [e0]
                exact ⟨rfl, N0, rfl⟩
          · skip
            refine own_st (S' := s₁.setTop (mkF m 54 #[.val (.int p1)] [])) (fun _ k => XS.icmpNo X0.here hx rfl (hb hby dB_51) rfl ((own_i_gt _ _).trans (decide_eq_false (p := Int32.toInt p1 > 57343) (hc51))) k) ?_
            refine own_st (S' := s₁.setTop (mkF m 55 #[.val (.int p1)] [(.int (0 : Int32))])) (fun _ k => XS.iconst X0.here hx rfl (hb hby dB_54) k) ?_
            have tq108 : (0 : Int32) = (own_b (own_D (Int32.toInt p1))) := (own_b0 (by unfold own_D; omega)).symm
            refine own_cv (congrArg (fun z => s₁.setTop (mkF m 55 #[.val (.int p1)] [(.int z)])) tq108) ?_
            show own_Go p.tables e below _ (s₁.setTop (mkF m 55 #[.val (.int p1)] [(.int (own_b (own_D (Int32.toInt p1))))]))
            refine own_end X0 (Q := (QB Z p1 h0 n0)) (some (.int (own_b (own_D (Int32.toInt p1))))) Bd.notSynchronized (fun h => by rw [Bd.returns] at h; cases h) (fun fs hr => retN X0 hx (t := .boolean) Bd.returns (by simp) (hb hby dB_55) (by rw [own_nb]; exact hr)) ?_ (by decide) (by decide)
            rw [e0]
            exact ⟨rfl, N0, rfl⟩
      · skip
        refine own_st (S' := s₁.setTop (mkF m 18 #[.val (.int p1)] [])) (fun _ k => XS.icmpNo X0.here hx rfl (hb hby dB_15) rfl ((own_i_ge _ _).trans (decide_eq_false (p := Int32.toInt p1 ≥ 32) (hc15))) k) ?_
        refine own_st (S' := s₁.setTop (mkF m 19 #[.val (.int p1)] [(.int p1)])) (fun _ k => XS.iloadN X0.here hx rfl (hb hby dB_18) rfl k) ?_
        refine own_st (S' := s₁.setTop (mkF m 21 #[.val (.int p1)] [(.int (9 : Int32)), (.int p1)])) (fun _ k => XS.bipush X0.here hx rfl (hb hby dB_19) k) ?_
        by_cases hc21 : Int32.toInt p1 = 9
        · skip
          refine own_st (S' := s₁.setTop (mkF m 36 #[.val (.int p1)] [])) (fun _ k => XS.icmpYes X0.here hx rfl (pc0 := 21) (pc' := 36) rfl (hb hby dB_21) rfl ((own_i_eq _ _).trans (decide_eq_true (p := Int32.toInt p1 = 9) (hc21))) (by decide) (by decide) k) ?_
          refine own_st (S' := s₁.setTop (mkF m 37 #[.val (.int p1)] [(.int (1 : Int32))])) (fun _ k => XS.iconst X0.here hx rfl (hb hby dB_36) k) ?_
          refine own_st (S' := s₁.setTop (mkF m 41 #[.val (.int p1)] [(.int (1 : Int32))])) (fun _ k => XS.goto X0.here hx rfl (pc0 := 37) (pc' := 41) rfl (hb hby dB_37) (by decide) (by decide) k) ?_
          have tq109 : (1 : Int32) = (own_b (own_D (Int32.toInt p1))) := (own_b1 (by unfold own_D; omega)).symm
          refine own_cv (congrArg (fun z => s₁.setTop (mkF m 41 #[.val (.int p1)] [(.int z)])) tq109) ?_
          show own_Go p.tables e below _ (s₁.setTop (mkF m 41 #[.val (.int p1)] [(.int (own_b (own_D (Int32.toInt p1))))]))
          refine own_end X0 (Q := (QB Z p1 h0 n0)) (some (.int (own_b (own_D (Int32.toInt p1))))) Bd.notSynchronized (fun h => by rw [Bd.returns] at h; cases h) (fun fs hr => retN X0 hx (t := .boolean) Bd.returns (by simp) (hb hby dB_41) (by rw [own_nb]; exact hr)) ?_ (by decide) (by decide)
          rw [e0]
          exact ⟨rfl, N0, rfl⟩
        · skip
          refine own_st (S' := s₁.setTop (mkF m 24 #[.val (.int p1)] [])) (fun _ k => XS.icmpNo X0.here hx rfl (hb hby dB_21) rfl ((own_i_eq _ _).trans (decide_eq_false (p := Int32.toInt p1 = 9) (hc21))) k) ?_
          refine own_st (S' := s₁.setTop (mkF m 25 #[.val (.int p1)] [(.int p1)])) (fun _ k => XS.iloadN X0.here hx rfl (hb hby dB_24) rfl k) ?_
          refine own_st (S' := s₁.setTop (mkF m 27 #[.val (.int p1)] [(.int (10 : Int32)), (.int p1)])) (fun _ k => XS.bipush X0.here hx rfl (hb hby dB_25) k) ?_
          by_cases hc27 : Int32.toInt p1 = 10
          · skip
            refine own_st (S' := s₁.setTop (mkF m 36 #[.val (.int p1)] [])) (fun _ k => XS.icmpYes X0.here hx rfl (pc0 := 27) (pc' := 36) rfl (hb hby dB_27) rfl ((own_i_eq _ _).trans (decide_eq_true (p := Int32.toInt p1 = 10) (hc27))) (by decide) (by decide) k) ?_
            refine own_st (S' := s₁.setTop (mkF m 37 #[.val (.int p1)] [(.int (1 : Int32))])) (fun _ k => XS.iconst X0.here hx rfl (hb hby dB_36) k) ?_
            refine own_st (S' := s₁.setTop (mkF m 41 #[.val (.int p1)] [(.int (1 : Int32))])) (fun _ k => XS.goto X0.here hx rfl (pc0 := 37) (pc' := 41) rfl (hb hby dB_37) (by decide) (by decide) k) ?_
            have tq110 : (1 : Int32) = (own_b (own_D (Int32.toInt p1))) := (own_b1 (by unfold own_D; omega)).symm
            refine own_cv (congrArg (fun z => s₁.setTop (mkF m 41 #[.val (.int p1)] [(.int z)])) tq110) ?_
            show own_Go p.tables e below _ (s₁.setTop (mkF m 41 #[.val (.int p1)] [(.int (own_b (own_D (Int32.toInt p1))))]))
            refine own_end X0 (Q := (QB Z p1 h0 n0)) (some (.int (own_b (own_D (Int32.toInt p1))))) Bd.notSynchronized (fun h => by rw [Bd.returns] at h; cases h) (fun fs hr => retN X0 hx (t := .boolean) Bd.returns (by simp) (hb hby dB_41) (by rw [own_nb]; exact hr)) ?_ (by decide) (by decide)
            rw [e0]
            exact ⟨rfl, N0, rfl⟩
          · skip
            refine own_st (S' := s₁.setTop (mkF m 30 #[.val (.int p1)] [])) (fun _ k => XS.icmpNo X0.here hx rfl (hb hby dB_27) rfl ((own_i_eq _ _).trans (decide_eq_false (p := Int32.toInt p1 = 10) (hc27))) k) ?_
            refine own_st (S' := s₁.setTop (mkF m 31 #[.val (.int p1)] [(.int p1)])) (fun _ k => XS.iloadN X0.here hx rfl (hb hby dB_30) rfl k) ?_
            refine own_st (S' := s₁.setTop (mkF m 33 #[.val (.int p1)] [(.int (13 : Int32)), (.int p1)])) (fun _ k => XS.bipush X0.here hx rfl (hb hby dB_31) k) ?_
            by_cases hc33 : Int32.toInt p1 ≠ 13
            · skip
              refine own_st (S' := s₁.setTop (mkF m 40 #[.val (.int p1)] [])) (fun _ k => XS.icmpYes X0.here hx rfl (pc0 := 33) (pc' := 40) rfl (hb hby dB_33) rfl ((own_i_ne _ _).trans (decide_eq_true (p := Int32.toInt p1 ≠ 13) (hc33))) (by decide) (by decide) k) ?_
              refine own_st (S' := s₁.setTop (mkF m 41 #[.val (.int p1)] [(.int (0 : Int32))])) (fun _ k => XS.iconst X0.here hx rfl (hb hby dB_40) k) ?_
              have tq111 : (0 : Int32) = (own_b (own_D (Int32.toInt p1))) := (own_b0 (by unfold own_D; omega)).symm
              refine own_cv (congrArg (fun z => s₁.setTop (mkF m 41 #[.val (.int p1)] [(.int z)])) tq111) ?_
              show own_Go p.tables e below _ (s₁.setTop (mkF m 41 #[.val (.int p1)] [(.int (own_b (own_D (Int32.toInt p1))))]))
              refine own_end X0 (Q := (QB Z p1 h0 n0)) (some (.int (own_b (own_D (Int32.toInt p1))))) Bd.notSynchronized (fun h => by rw [Bd.returns] at h; cases h) (fun fs hr => retN X0 hx (t := .boolean) Bd.returns (by simp) (hb hby dB_41) (by rw [own_nb]; exact hr)) ?_ (by decide) (by decide)
              rw [e0]
              exact ⟨rfl, N0, rfl⟩
            · skip
              refine own_st (S' := s₁.setTop (mkF m 36 #[.val (.int p1)] [])) (fun _ k => XS.icmpNo X0.here hx rfl (hb hby dB_33) rfl ((own_i_ne _ _).trans (decide_eq_false (p := Int32.toInt p1 ≠ 13) (hc33))) k) ?_
              refine own_st (S' := s₁.setTop (mkF m 37 #[.val (.int p1)] [(.int (1 : Int32))])) (fun _ k => XS.iconst X0.here hx rfl (hb hby dB_36) k) ?_
              refine own_st (S' := s₁.setTop (mkF m 41 #[.val (.int p1)] [(.int (1 : Int32))])) (fun _ k => XS.goto X0.here hx rfl (pc0 := 37) (pc' := 41) rfl (hb hby dB_37) (by decide) (by decide) k) ?_
              have tq112 : (1 : Int32) = (own_b (own_D (Int32.toInt p1))) := (own_b1 (by unfold own_D; omega)).symm
              refine own_cv (congrArg (fun z => s₁.setTop (mkF m 41 #[.val (.int p1)] [(.int z)])) tq112) ?_
              show own_Go p.tables e below _ (s₁.setTop (mkF m 41 #[.val (.int p1)] [(.int (own_b (own_D (Int32.toInt p1))))]))
              refine own_end X0 (Q := (QB Z p1 h0 n0)) (some (.int (own_b (own_D (Int32.toInt p1))))) Bd.notSynchronized (fun h => by rw [Bd.returns] at h; cases h) (fun fs hr => retN X0 hx (t := .boolean) Bd.returns (by simp) (hb hby dB_41) (by rw [own_nb]; exact hr)) ?_ (by decide) (by decide)
              rw [e0]
              exact ⟨rfl, N0, rfl⟩
    · skip
      refine own_st (S' := s₁.setTop (mkF m 10 #[.val (.int p1)] [])) (fun _ k => XS.icmpNo X0.here hx rfl (hb hby dB_7) rfl ((own_i_le _ _).trans (decide_eq_false (p := Int32.toInt p1 ≤ 1114111) (hc7))) k) ?_
      refine own_st (S' := s₁.setTop (mkF m 11 #[.val (.int p1)] [(.int (0 : Int32))])) (fun _ k => XS.iconst X0.here hx rfl (hb hby dB_10) k) ?_
      have tq113 : (0 : Int32) = (own_b (own_D (Int32.toInt p1))) := (own_b0 (by unfold own_D; omega)).symm
      refine own_cv (congrArg (fun z => s₁.setTop (mkF m 11 #[.val (.int p1)] [(.int z)])) tq113) ?_
      show own_Go p.tables e below _ (s₁.setTop (mkF m 11 #[.val (.int p1)] [(.int (own_b (own_D (Int32.toInt p1))))]))
      refine own_end X0 (Q := (QB Z p1 h0 n0)) (some (.int (own_b (own_D (Int32.toInt p1))))) Bd.notSynchronized (fun h => by rw [Bd.returns] at h; cases h) (fun fs hr => retN X0 hx (t := .boolean) Bd.returns (by simp) (hb hby dB_11) (by rw [own_nb]; exact hr)) ?_ (by decide) (by decide)
      rw [e0]
      exact ⟨rfl, N0, rfl⟩
theorem own_15 (x : Int32) : 0 ≤ (x &&& (15 : Int32)).toInt ∧ (x &&& (15 : Int32)).toInt < (16 : Nat) := by
  have := Jvm.Kit.i32_mask x 15 (k := 4) (by decide) (by decide)
  omega
theorem pn_0 : plainName "com/example/infoset/infoset/XmlCharsIsCharPinLaw" = true := by first | (simp [plainName, overriddenIn]; done) | decide +kernel
theorem ef_0 (m : MethodId) (p1 : Int32) (p2 : Int32) : entryFrame m #[(.int p1), (.int p2)] maxLocals = mkF m 0 #[.val (.int p1), .val (.int p2), .unset, .unset] [] := by first | (simp [entryFrame, mkF, argsToLocals, Value.category, maxLocals]; done) | rfl
def Q0 (Z : State) (p1 : Int32) (p2 : Int32) (h0 : Heap) (n0 : Nat) (v : Option Value) (h : Heap) (L : List Loc) : Prop := v = some (.int 1) ∧ Fr n0 L
set_option maxRecDepth 65536 in
set_option maxHeartbeats 40000000 in
theorem rm0 (l : Launch) (Z : State) (a0 : Array Value) (hw : ∀ d ∈ tables_1, d.before a0 Z = true) (ws : List Jvm.Cond) (p1 : Int32) (p2 : Int32) (h0 : Heap) (n0 : Nat) (Z0 : n0 ≤ h0.size) :
    MetFree l x (head1 (Jvm.Cond.code x code maxLocals ret :: ws) room_1) (fun a U => a = #[(.int p1), (.int p2)] ∧ Z.Warmed39 U.vm ∧ U.heap = h0) (fun _ _ _ _ _ => True) (fun _ U o U' => ∃ v L, o = .returned v ∧ Q0 Z p1 p2 h0 n0 v U'.heap L ∧ FrameEnd U o U' L room_1.cells room_1.slots) := by
  refine MetFree.of_bodySF (plainFor_of_name pn_0) hisR ?_
  intro p e s m args below meth c s₁ Bd hml0 hP hK
  obtain ⟨rfl, hZ, hh⟩ := hP
  have hx := Bd.exec
  have hby := Bd.bytes
  have hml : c.maxLocals = 4 := hml0
  have hown : s.vm.findClass "com/example/infoset/infoset/XmlCharsIsCharPinLaw" = some m.cls := findClass_of_methodNamed Bd.named
  have hnm := (name_of_methodNamed Bd.named Bd.method).1
  have X0 : Stand p l e room_1 s m #[(.int p1), (.int p2)] below meth c s₁ [] 0 0 := Stand.of_body Bd
  have e0 : s₁.heap = h0 := by rw [← hh, Bd.state]; rfl
  have N0 := Fr.nil n0
  show own_Go p.tables e below (fun t o => ∃ v L, o = .returned v ∧ Q0 Z p1 p2 h0 n0 v t.heap L ∧ FrameEnd s o t L room_1.cells room_1.slots) (s₁.setTop (entryFrame m #[(.int p1), (.int p2)] maxLocals))
  rw [ef_0]
  show own_Go p.tables e below _ (s₁.setTop (mkF m 0 #[.val (.int p1), .val (.int p2), .unset, .unset] []))
  refine own_st (S' := s₁.setTop (mkF m 2 #[.val (.int p1), .val (.int p2), .unset, .unset] [(.int (16 : Int32))])) (fun _ k => XS.bipush X0.here hx rfl (hb hby at_0) k) ?_
  obtain ⟨T101, h101, cA101, X101, e101, E101, A101, st101⟩ := newP X0 hx hZ (hw _ (List.mem_of_getElem? (i := 0) rfl)) e0 (g := (mkF m 2 #[.val (.int p1), .val (.int p2), .unset, .unset] [(.int (16 : Int32))])) rfl (hb hby at_2) rfl (by decide) (cap := 16) (by decide) (by decide) (by decide) (by decide)
  obtain ⟨a101, ga101⟩ : ∃ z, z = h0.size := ⟨_, rfl⟩
  rw [← ga101] at A101 st101
  refine own_st (S' := T101.setTop (mkF m 4 #[.val (.int p1), .val (.int p2), .unset, .unset] [(.ref a101)])) st101 ?_
  have V101 : own_A Z h101 a101 .int 16 (fun _ => 0) := own_A.new (ty := .int) (z := 16) A101 (by decide) rfl rfl
  have ge : n0 ≤ a101 := by rw [ga101]; exact Z0
  refine own_st (S' := T101.setTop (mkF m 5 #[.val (.int p1), .val (.int p2), .unset, .unset] [(.ref a101), (.ref a101)])) (fun _ k => XS.dup X101.here hx rfl (hb hby at_4) rfl rfl k) ?_
  refine own_st (S' := T101.setTop (mkF m 6 #[.val (.int p1), .val (.int p2), .unset, .unset] [(.int (0 : Int32)), (.ref a101), (.ref a101)])) (fun _ k => XS.iconst X101.here hx rfl (hb hby at_5) k) ?_
  refine own_st (S' := T101.setTop (mkF m 7 #[.val (.int p1), .val (.int p2), .unset, .unset] [(.int (0 : Int32)), (.int (0 : Int32)), (.ref a101), (.ref a101)])) (fun _ k => XS.iconst X101.here hx rfl (hb hby at_6) k) ?_
  obtain ⟨T102, h102, X102, e102, W102, V102, st102⟩ := own_stI X101 hx hZ e101 V101 (by decide) (by decide) (g := (mkF m 7 #[.val (.int p1), .val (.int p2), .unset, .unset] [(.int (0 : Int32)), (.int (0 : Int32)), (.ref a101), (.ref a101)])) rfl rfl (hb hby at_7)
  have N102 := Fr.snoc X102 N0 ge
  refine own_st (S' := T102.setTop (mkF m 8 #[.val (.int p1), .val (.int p2), .unset, .unset] [(.ref a101)])) st102 ?_
  obtain ⟨f102, hf102⟩ : ∃ f : Nat → Int32, own_A Z h102 a101 .int 16 f := ⟨_, V102⟩
  refine own_st (S' := T102.setTop (mkF m 9 #[.val (.int p1), .val (.int p2), .unset, .unset] [(.ref a101), (.ref a101)])) (fun _ k => XS.dup X102.here hx rfl (hb hby at_8) rfl rfl k) ?_
  refine own_st (S' := T102.setTop (mkF m 10 #[.val (.int p1), .val (.int p2), .unset, .unset] [(.int (1 : Int32)), (.ref a101), (.ref a101)])) (fun _ k => XS.iconst X102.here hx rfl (hb hby at_9) k) ?_
  refine own_st (S' := T102.setTop (mkF m 12 #[.val (.int p1), .val (.int p2), .unset, .unset] [(.int (8 : Int32)), (.int (1 : Int32)), (.ref a101), (.ref a101)])) (fun _ k => XS.bipush X102.here hx rfl (hb hby at_10) k) ?_
  obtain ⟨T103, h103, X103, e103, W103, V103, st103⟩ := own_stI X102 hx hZ e102 hf102 (by decide) (by decide) (g := (mkF m 12 #[.val (.int p1), .val (.int p2), .unset, .unset] [(.int (8 : Int32)), (.int (1 : Int32)), (.ref a101), (.ref a101)])) rfl rfl (hb hby at_12)
  have N103 := Fr.snoc X103 N102 ge
  refine own_st (S' := T103.setTop (mkF m 13 #[.val (.int p1), .val (.int p2), .unset, .unset] [(.ref a101)])) st103 ?_
  obtain ⟨f103, hf103⟩ : ∃ f : Nat → Int32, own_A Z h103 a101 .int 16 f := ⟨_, V103⟩
  refine own_st (S' := T103.setTop (mkF m 14 #[.val (.int p1), .val (.int p2), .unset, .unset] [(.ref a101), (.ref a101)])) (fun _ k => XS.dup X103.here hx rfl (hb hby at_13) rfl rfl k) ?_
  refine own_st (S' := T103.setTop (mkF m 15 #[.val (.int p1), .val (.int p2), .unset, .unset] [(.int (2 : Int32)), (.ref a101), (.ref a101)])) (fun _ k => XS.iconst X103.here hx rfl (hb hby at_14) k) ?_
  refine own_st (S' := T103.setTop (mkF m 17 #[.val (.int p1), .val (.int p2), .unset, .unset] [(.int (11 : Int32)), (.int (2 : Int32)), (.ref a101), (.ref a101)])) (fun _ k => XS.bipush X103.here hx rfl (hb hby at_15) k) ?_
  obtain ⟨T104, h104, X104, e104, W104, V104, st104⟩ := own_stI X103 hx hZ e103 hf103 (by decide) (by decide) (g := (mkF m 17 #[.val (.int p1), .val (.int p2), .unset, .unset] [(.int (11 : Int32)), (.int (2 : Int32)), (.ref a101), (.ref a101)])) rfl rfl (hb hby at_17)
  have N104 := Fr.snoc X104 N103 ge
  refine own_st (S' := T104.setTop (mkF m 18 #[.val (.int p1), .val (.int p2), .unset, .unset] [(.ref a101)])) st104 ?_
  obtain ⟨f104, hf104⟩ : ∃ f : Nat → Int32, own_A Z h104 a101 .int 16 f := ⟨_, V104⟩
  refine own_st (S' := T104.setTop (mkF m 19 #[.val (.int p1), .val (.int p2), .unset, .unset] [(.ref a101), (.ref a101)])) (fun _ k => XS.dup X104.here hx rfl (hb hby at_18) rfl rfl k) ?_
  refine own_st (S' := T104.setTop (mkF m 20 #[.val (.int p1), .val (.int p2), .unset, .unset] [(.int (3 : Int32)), (.ref a101), (.ref a101)])) (fun _ k => XS.iconst X104.here hx rfl (hb hby at_19) k) ?_
  refine own_st (S' := T104.setTop (mkF m 22 #[.val (.int p1), .val (.int p2), .unset, .unset] [(.int (13 : Int32)), (.int (3 : Int32)), (.ref a101), (.ref a101)])) (fun _ k => XS.bipush X104.here hx rfl (hb hby at_20) k) ?_
  obtain ⟨T105, h105, X105, e105, W105, V105, st105⟩ := own_stI X104 hx hZ e104 hf104 (by decide) (by decide) (g := (mkF m 22 #[.val (.int p1), .val (.int p2), .unset, .unset] [(.int (13 : Int32)), (.int (3 : Int32)), (.ref a101), (.ref a101)])) rfl rfl (hb hby at_22)
  have N105 := Fr.snoc X105 N104 ge
  refine own_st (S' := T105.setTop (mkF m 23 #[.val (.int p1), .val (.int p2), .unset, .unset] [(.ref a101)])) st105 ?_
  obtain ⟨f105, hf105⟩ : ∃ f : Nat → Int32, own_A Z h105 a101 .int 16 f := ⟨_, V105⟩
  refine own_st (S' := T105.setTop (mkF m 24 #[.val (.int p1), .val (.int p2), .unset, .unset] [(.ref a101), (.ref a101)])) (fun _ k => XS.dup X105.here hx rfl (hb hby at_23) rfl rfl k) ?_
  refine own_st (S' := T105.setTop (mkF m 25 #[.val (.int p1), .val (.int p2), .unset, .unset] [(.int (4 : Int32)), (.ref a101), (.ref a101)])) (fun _ k => XS.iconst X105.here hx rfl (hb hby at_24) k) ?_
  refine own_st (S' := T105.setTop (mkF m 27 #[.val (.int p1), .val (.int p2), .unset, .unset] [(.int (31 : Int32)), (.int (4 : Int32)), (.ref a101), (.ref a101)])) (fun _ k => XS.bipush X105.here hx rfl (hb hby at_25) k) ?_
  obtain ⟨T106, h106, X106, e106, W106, V106, st106⟩ := own_stI X105 hx hZ e105 hf105 (by decide) (by decide) (g := (mkF m 27 #[.val (.int p1), .val (.int p2), .unset, .unset] [(.int (31 : Int32)), (.int (4 : Int32)), (.ref a101), (.ref a101)])) rfl rfl (hb hby at_27)
  have N106 := Fr.snoc X106 N105 ge
  refine own_st (S' := T106.setTop (mkF m 28 #[.val (.int p1), .val (.int p2), .unset, .unset] [(.ref a101)])) st106 ?_
  obtain ⟨f106, hf106⟩ : ∃ f : Nat → Int32, own_A Z h106 a101 .int 16 f := ⟨_, V106⟩
  refine own_st (S' := T106.setTop (mkF m 29 #[.val (.int p1), .val (.int p2), .unset, .unset] [(.ref a101), (.ref a101)])) (fun _ k => XS.dup X106.here hx rfl (hb hby at_28) rfl rfl k) ?_
  refine own_st (S' := T106.setTop (mkF m 30 #[.val (.int p1), .val (.int p2), .unset, .unset] [(.int (5 : Int32)), (.ref a101), (.ref a101)])) (fun _ k => XS.iconst X106.here hx rfl (hb hby at_29) k) ?_
  refine own_st (S' := T106.setTop (mkF m 32 #[.val (.int p1), .val (.int p2), .unset, .unset] [(.int (32 : Int32)), (.int (5 : Int32)), (.ref a101), (.ref a101)])) (fun _ k => XS.bipush X106.here hx rfl (hb hby at_30) k) ?_
  obtain ⟨T107, h107, X107, e107, W107, V107, st107⟩ := own_stI X106 hx hZ e106 hf106 (by decide) (by decide) (g := (mkF m 32 #[.val (.int p1), .val (.int p2), .unset, .unset] [(.int (32 : Int32)), (.int (5 : Int32)), (.ref a101), (.ref a101)])) rfl rfl (hb hby at_32)
  have N107 := Fr.snoc X107 N106 ge
  refine own_st (S' := T107.setTop (mkF m 33 #[.val (.int p1), .val (.int p2), .unset, .unset] [(.ref a101)])) st107 ?_
  obtain ⟨f107, hf107⟩ : ∃ f : Nat → Int32, own_A Z h107 a101 .int 16 f := ⟨_, V107⟩
  refine own_st (S' := T107.setTop (mkF m 34 #[.val (.int p1), .val (.int p2), .unset, .unset] [(.ref a101), (.ref a101)])) (fun _ k => XS.dup X107.here hx rfl (hb hby at_33) rfl rfl k) ?_
  refine own_st (S' := T107.setTop (mkF m 36 #[.val (.int p1), .val (.int p2), .unset, .unset] [(.int (6 : Int32)), (.ref a101), (.ref a101)])) (fun _ k => XS.bipush X107.here hx rfl (hb hby at_34) k) ?_
  refine own_st (S' := T107.setTop (mkF m 38 #[.val (.int p1), .val (.int p2), .unset, .unset] [(.int (55295 : Int32)), (.int (6 : Int32)), (.ref a101), (.ref a101)])) (fun _ k => X107.ldcI hx hown (mvT hZ (hw _ (List.mem_of_getElem? (i := 1) rfl))) rfl (hb hby at_36) k) ?_
  obtain ⟨T108, h108, X108, e108, W108, V108, st108⟩ := own_stI X107 hx hZ e107 hf107 (by decide) (by decide) (g := (mkF m 38 #[.val (.int p1), .val (.int p2), .unset, .unset] [(.int (55295 : Int32)), (.int (6 : Int32)), (.ref a101), (.ref a101)])) rfl rfl (hb hby at_38)
  have N108 := Fr.snoc X108 N107 ge
  refine own_st (S' := T108.setTop (mkF m 39 #[.val (.int p1), .val (.int p2), .unset, .unset] [(.ref a101)])) st108 ?_
  obtain ⟨f108, hf108⟩ : ∃ f : Nat → Int32, own_A Z h108 a101 .int 16 f := ⟨_, V108⟩
  refine own_st (S' := T108.setTop (mkF m 40 #[.val (.int p1), .val (.int p2), .unset, .unset] [(.ref a101), (.ref a101)])) (fun _ k => XS.dup X108.here hx rfl (hb hby at_39) rfl rfl k) ?_
  refine own_st (S' := T108.setTop (mkF m 42 #[.val (.int p1), .val (.int p2), .unset, .unset] [(.int (7 : Int32)), (.ref a101), (.ref a101)])) (fun _ k => XS.bipush X108.here hx rfl (hb hby at_40) k) ?_
  refine own_st (S' := T108.setTop (mkF m 44 #[.val (.int p1), .val (.int p2), .unset, .unset] [(.int (57343 : Int32)), (.int (7 : Int32)), (.ref a101), (.ref a101)])) (fun _ k => X108.ldcI hx hown (mvT hZ (hw _ (List.mem_of_getElem? (i := 2) rfl))) rfl (hb hby at_42) k) ?_
  obtain ⟨T109, h109, X109, e109, W109, V109, st109⟩ := own_stI X108 hx hZ e108 hf108 (by decide) (by decide) (g := (mkF m 44 #[.val (.int p1), .val (.int p2), .unset, .unset] [(.int (57343 : Int32)), (.int (7 : Int32)), (.ref a101), (.ref a101)])) rfl rfl (hb hby at_44)
  have N109 := Fr.snoc X109 N108 ge
  refine own_st (S' := T109.setTop (mkF m 45 #[.val (.int p1), .val (.int p2), .unset, .unset] [(.ref a101)])) st109 ?_
  obtain ⟨f109, hf109⟩ : ∃ f : Nat → Int32, own_A Z h109 a101 .int 16 f := ⟨_, V109⟩
  refine own_st (S' := T109.setTop (mkF m 46 #[.val (.int p1), .val (.int p2), .unset, .unset] [(.ref a101), (.ref a101)])) (fun _ k => XS.dup X109.here hx rfl (hb hby at_45) rfl rfl k) ?_
  refine own_st (S' := T109.setTop (mkF m 48 #[.val (.int p1), .val (.int p2), .unset, .unset] [(.int (8 : Int32)), (.ref a101), (.ref a101)])) (fun _ k => XS.bipush X109.here hx rfl (hb hby at_46) k) ?_
  refine own_st (S' := T109.setTop (mkF m 50 #[.val (.int p1), .val (.int p2), .unset, .unset] [(.int (57344 : Int32)), (.int (8 : Int32)), (.ref a101), (.ref a101)])) (fun _ k => X109.ldcI hx hown (mvT hZ (hw _ (List.mem_of_getElem? (i := 3) rfl))) rfl (hb hby at_48) k) ?_
  obtain ⟨T110, h110, X110, e110, W110, V110, st110⟩ := own_stI X109 hx hZ e109 hf109 (by decide) (by decide) (g := (mkF m 50 #[.val (.int p1), .val (.int p2), .unset, .unset] [(.int (57344 : Int32)), (.int (8 : Int32)), (.ref a101), (.ref a101)])) rfl rfl (hb hby at_50)
  have N110 := Fr.snoc X110 N109 ge
  refine own_st (S' := T110.setTop (mkF m 51 #[.val (.int p1), .val (.int p2), .unset, .unset] [(.ref a101)])) st110 ?_
  obtain ⟨f110, hf110⟩ : ∃ f : Nat → Int32, own_A Z h110 a101 .int 16 f := ⟨_, V110⟩
  refine own_st (S' := T110.setTop (mkF m 52 #[.val (.int p1), .val (.int p2), .unset, .unset] [(.ref a101), (.ref a101)])) (fun _ k => XS.dup X110.here hx rfl (hb hby at_51) rfl rfl k) ?_
  refine own_st (S' := T110.setTop (mkF m 54 #[.val (.int p1), .val (.int p2), .unset, .unset] [(.int (9 : Int32)), (.ref a101), (.ref a101)])) (fun _ k => XS.bipush X110.here hx rfl (hb hby at_52) k) ?_
  refine own_st (S' := T110.setTop (mkF m 56 #[.val (.int p1), .val (.int p2), .unset, .unset] [(.int (65533 : Int32)), (.int (9 : Int32)), (.ref a101), (.ref a101)])) (fun _ k => X110.ldcI hx hown (mvT hZ (hw _ (List.mem_of_getElem? (i := 4) rfl))) rfl (hb hby at_54) k) ?_
  obtain ⟨T111, h111, X111, e111, W111, V111, st111⟩ := own_stI X110 hx hZ e110 hf110 (by decide) (by decide) (g := (mkF m 56 #[.val (.int p1), .val (.int p2), .unset, .unset] [(.int (65533 : Int32)), (.int (9 : Int32)), (.ref a101), (.ref a101)])) rfl rfl (hb hby at_56)
  have N111 := Fr.snoc X111 N110 ge
  refine own_st (S' := T111.setTop (mkF m 57 #[.val (.int p1), .val (.int p2), .unset, .unset] [(.ref a101)])) st111 ?_
  obtain ⟨f111, hf111⟩ : ∃ f : Nat → Int32, own_A Z h111 a101 .int 16 f := ⟨_, V111⟩
  refine own_st (S' := T111.setTop (mkF m 58 #[.val (.int p1), .val (.int p2), .unset, .unset] [(.ref a101), (.ref a101)])) (fun _ k => XS.dup X111.here hx rfl (hb hby at_57) rfl rfl k) ?_
  refine own_st (S' := T111.setTop (mkF m 60 #[.val (.int p1), .val (.int p2), .unset, .unset] [(.int (10 : Int32)), (.ref a101), (.ref a101)])) (fun _ k => XS.bipush X111.here hx rfl (hb hby at_58) k) ?_
  refine own_st (S' := T111.setTop (mkF m 62 #[.val (.int p1), .val (.int p2), .unset, .unset] [(.int (65536 : Int32)), (.int (10 : Int32)), (.ref a101), (.ref a101)])) (fun _ k => X111.ldcI hx hown (mvT hZ (hw _ (List.mem_of_getElem? (i := 5) rfl))) rfl (hb hby at_60) k) ?_
  obtain ⟨T112, h112, X112, e112, W112, V112, st112⟩ := own_stI X111 hx hZ e111 hf111 (by decide) (by decide) (g := (mkF m 62 #[.val (.int p1), .val (.int p2), .unset, .unset] [(.int (65536 : Int32)), (.int (10 : Int32)), (.ref a101), (.ref a101)])) rfl rfl (hb hby at_62)
  have N112 := Fr.snoc X112 N111 ge
  refine own_st (S' := T112.setTop (mkF m 63 #[.val (.int p1), .val (.int p2), .unset, .unset] [(.ref a101)])) st112 ?_
  obtain ⟨f112, hf112⟩ : ∃ f : Nat → Int32, own_A Z h112 a101 .int 16 f := ⟨_, V112⟩
  refine own_st (S' := T112.setTop (mkF m 64 #[.val (.int p1), .val (.int p2), .unset, .unset] [(.ref a101), (.ref a101)])) (fun _ k => XS.dup X112.here hx rfl (hb hby at_63) rfl rfl k) ?_
  refine own_st (S' := T112.setTop (mkF m 66 #[.val (.int p1), .val (.int p2), .unset, .unset] [(.int (11 : Int32)), (.ref a101), (.ref a101)])) (fun _ k => XS.bipush X112.here hx rfl (hb hby at_64) k) ?_
  refine own_st (S' := T112.setTop (mkF m 68 #[.val (.int p1), .val (.int p2), .unset, .unset] [(.int (1114111 : Int32)), (.int (11 : Int32)), (.ref a101), (.ref a101)])) (fun _ k => X112.ldcI hx hown (mvT hZ (hw _ (List.mem_of_getElem? (i := 6) rfl))) rfl (hb hby at_66) k) ?_
  obtain ⟨T113, h113, X113, e113, W113, V113, st113⟩ := own_stI X112 hx hZ e112 hf112 (by decide) (by decide) (g := (mkF m 68 #[.val (.int p1), .val (.int p2), .unset, .unset] [(.int (1114111 : Int32)), (.int (11 : Int32)), (.ref a101), (.ref a101)])) rfl rfl (hb hby at_68)
  have N113 := Fr.snoc X113 N112 ge
  refine own_st (S' := T113.setTop (mkF m 69 #[.val (.int p1), .val (.int p2), .unset, .unset] [(.ref a101)])) st113 ?_
  obtain ⟨f113, hf113⟩ : ∃ f : Nat → Int32, own_A Z h113 a101 .int 16 f := ⟨_, V113⟩
  refine own_st (S' := T113.setTop (mkF m 70 #[.val (.int p1), .val (.int p2), .unset, .unset] [(.ref a101), (.ref a101)])) (fun _ k => XS.dup X113.here hx rfl (hb hby at_69) rfl rfl k) ?_
  refine own_st (S' := T113.setTop (mkF m 72 #[.val (.int p1), .val (.int p2), .unset, .unset] [(.int (12 : Int32)), (.ref a101), (.ref a101)])) (fun _ k => XS.bipush X113.here hx rfl (hb hby at_70) k) ?_
  refine own_st (S' := T113.setTop (mkF m 74 #[.val (.int p1), .val (.int p2), .unset, .unset] [(.int (1114112 : Int32)), (.int (12 : Int32)), (.ref a101), (.ref a101)])) (fun _ k => X113.ldcI hx hown (mvT hZ (hw _ (List.mem_of_getElem? (i := 7) rfl))) rfl (hb hby at_72) k) ?_
  obtain ⟨T114, h114, X114, e114, W114, V114, st114⟩ := own_stI X113 hx hZ e113 hf113 (by decide) (by decide) (g := (mkF m 74 #[.val (.int p1), .val (.int p2), .unset, .unset] [(.int (1114112 : Int32)), (.int (12 : Int32)), (.ref a101), (.ref a101)])) rfl rfl (hb hby at_74)
  have N114 := Fr.snoc X114 N113 ge
  refine own_st (S' := T114.setTop (mkF m 75 #[.val (.int p1), .val (.int p2), .unset, .unset] [(.ref a101)])) st114 ?_
  obtain ⟨f114, hf114⟩ : ∃ f : Nat → Int32, own_A Z h114 a101 .int 16 f := ⟨_, V114⟩
  refine own_st (S' := T114.setTop (mkF m 76 #[.val (.int p1), .val (.int p2), .unset, .unset] [(.ref a101), (.ref a101)])) (fun _ k => XS.dup X114.here hx rfl (hb hby at_75) rfl rfl k) ?_
  refine own_st (S' := T114.setTop (mkF m 78 #[.val (.int p1), .val (.int p2), .unset, .unset] [(.int (13 : Int32)), (.ref a101), (.ref a101)])) (fun _ k => XS.bipush X114.here hx rfl (hb hby at_76) k) ?_
  refine own_st (S' := T114.setTop (mkF m 80 #[.val (.int p1), .val (.int p2), .unset, .unset] [(.int (-2147483648 : Int32)), (.int (13 : Int32)), (.ref a101), (.ref a101)])) (fun _ k => X114.ldcI hx hown (mvT hZ (hw _ (List.mem_of_getElem? (i := 8) rfl))) rfl (hb hby at_78) k) ?_
  obtain ⟨T115, h115, X115, e115, W115, V115, st115⟩ := own_stI X114 hx hZ e114 hf114 (by decide) (by decide) (g := (mkF m 80 #[.val (.int p1), .val (.int p2), .unset, .unset] [(.int (-2147483648 : Int32)), (.int (13 : Int32)), (.ref a101), (.ref a101)])) rfl rfl (hb hby at_80)
  have N115 := Fr.snoc X115 N114 ge
  refine own_st (S' := T115.setTop (mkF m 81 #[.val (.int p1), .val (.int p2), .unset, .unset] [(.ref a101)])) st115 ?_
  obtain ⟨f115, hf115⟩ : ∃ f : Nat → Int32, own_A Z h115 a101 .int 16 f := ⟨_, V115⟩
  refine own_st (S' := T115.setTop (mkF m 82 #[.val (.int p1), .val (.int p2), .unset, .unset] [(.ref a101), (.ref a101)])) (fun _ k => XS.dup X115.here hx rfl (hb hby at_81) rfl rfl k) ?_
  refine own_st (S' := T115.setTop (mkF m 84 #[.val (.int p1), .val (.int p2), .unset, .unset] [(.int (14 : Int32)), (.ref a101), (.ref a101)])) (fun _ k => XS.bipush X115.here hx rfl (hb hby at_82) k) ?_
  refine own_st (S' := T115.setTop (mkF m 86 #[.val (.int p1), .val (.int p2), .unset, .unset] [(.int (2147483647 : Int32)), (.int (14 : Int32)), (.ref a101), (.ref a101)])) (fun _ k => X115.ldcI hx hown (mvT hZ (hw _ (List.mem_of_getElem? (i := 9) rfl))) rfl (hb hby at_84) k) ?_
  obtain ⟨T116, h116, X116, e116, W116, V116, st116⟩ := own_stI X115 hx hZ e115 hf115 (by decide) (by decide) (g := (mkF m 86 #[.val (.int p1), .val (.int p2), .unset, .unset] [(.int (2147483647 : Int32)), (.int (14 : Int32)), (.ref a101), (.ref a101)])) rfl rfl (hb hby at_86)
  have N116 := Fr.snoc X116 N115 ge
  refine own_st (S' := T116.setTop (mkF m 87 #[.val (.int p1), .val (.int p2), .unset, .unset] [(.ref a101)])) st116 ?_
  obtain ⟨f116, hf116⟩ : ∃ f : Nat → Int32, own_A Z h116 a101 .int 16 f := ⟨_, V116⟩
  refine own_st (S' := T116.setTop (mkF m 88 #[.val (.int p1), .val (.int p2), .unset, .unset] [(.ref a101), (.ref a101)])) (fun _ k => XS.dup X116.here hx rfl (hb hby at_87) rfl rfl k) ?_
  refine own_st (S' := T116.setTop (mkF m 90 #[.val (.int p1), .val (.int p2), .unset, .unset] [(.int (15 : Int32)), (.ref a101), (.ref a101)])) (fun _ k => XS.bipush X116.here hx rfl (hb hby at_88) k) ?_
  refine own_st (S' := T116.setTop (mkF m 91 #[.val (.int p1), .val (.int p2), .unset, .unset] [(.int (-1 : Int32)), (.int (15 : Int32)), (.ref a101), (.ref a101)])) (fun _ k => XS.iconst X116.here hx rfl (hb hby at_90) k) ?_
  obtain ⟨T117, h117, X117, e117, W117, V117, st117⟩ := own_stI X116 hx hZ e116 hf116 (by decide) (by decide) (g := (mkF m 91 #[.val (.int p1), .val (.int p2), .unset, .unset] [(.int (-1 : Int32)), (.int (15 : Int32)), (.ref a101), (.ref a101)])) rfl rfl (hb hby at_91)
  have N117 := Fr.snoc X117 N116 ge
  refine own_st (S' := T117.setTop (mkF m 92 #[.val (.int p1), .val (.int p2), .unset, .unset] [(.ref a101)])) st117 ?_
  obtain ⟨f117, hf117⟩ : ∃ f : Nat → Int32, own_A Z h117 a101 .int 16 f := ⟨_, V117⟩
  refine own_st (S' := T117.setTop (mkF m 93 #[.val (.int p1), .val (.int p2), .val (.ref a101), .unset] [])) (fun _ k => XS.astoreN X117.here hx rfl (hb hby at_92) rfl rfl (l' := #[.val (.int p1), .val (.int p2), .val (.ref a101), .unset]) rfl k) ?_
  refine own_st (S' := T117.setTop (mkF m 94 #[.val (.int p1), .val (.int p2), .val (.ref a101), .unset] [(.int p2)])) (fun _ k => XS.iloadN X117.here hx rfl (hb hby at_93) rfl k) ?_
  refine own_st (S' := T117.setTop (mkF m 95 #[.val (.int p1), .val (.int p2), .val (.ref a101), .unset] [(.int (1 : Int32)), (.int p2)])) (fun _ k => XS.iconst X117.here hx rfl (hb hby at_94) k) ?_
  refine own_st (S' := T117.setTop (mkF m 96 #[.val (.int p1), .val (.int p2), .val (.ref a101), .unset] [(.int (p2 &&& (1 : Int32)))])) (fun _ k => XS.iand X117.here hx rfl (hb hby at_95) rfl k) ?_
  refine own_join (fun v3 : Int32 => T117.setTop (mkF m 117 #[.val (.int p1), .val (.int p2), .val (.ref a101), .val (.int v3)] [])) (fun v3 => ?_) (fun fin => ?_)
  · skip
    show own_Go p.tables e below _ (T117.setTop (mkF m 117 #[.val (.int p1), .val (.int p2), .val (.ref a101), .val (.int v3)] []))
    refine own_st (S' := T117.setTop (mkF m 118 #[.val (.int p1), .val (.int p2), .val (.ref a101), .val (.int v3)] [(.int v3)])) (fun _ k => XS.iloadN X117.here hx rfl (hb hby at_117) rfl k) ?_
    obtain ⟨_, _, ⟨T118, L118, k118, n118⟩, -, X118, ⟨Lc118, hQ118, l118, y118, z118⟩, st118⟩ := Jvm.LawKit.callS X117 hx (y := (⟨"com/example/infoset/infoset/XmlChars", "isChar", "(I)Z"⟩ : MethodName)) hown (mvT hZ (hw _ (List.mem_of_getElem? (i := 10) rfl))) (mvT hZ (hw _ (List.mem_of_getElem? (i := 11) rfl))) (mvT hZ (hw _ (List.mem_of_getElem? (i := 12) rfl))) (mvT hZ (hw _ (List.mem_of_getElem? (i := 13) rfl))) (by decide) (backOf (W := 0) (rmA l Z a0 hw [] v3 h117 n0 (Nat.le_of_lt (Nat.lt_of_le_of_lt ge hf117.lt))) hZ (hw _ (List.mem_of_getElem? (i := 13) rfl)) (hw _ (List.mem_of_getElem? (i := 12) rfl)) (by decide) (by decide)) (g := (mkF m 118 #[.val (.int p1), .val (.int p2), .val (.ref a101), .val (.int v3)] [(.int v3)])) rfl (by rw [hml]; rfl) (argsL := [(.int v3)]) (rest := []) (lenOf pd_A rfl) rfl (by show 2 * 0 + _ ≤ _; exact Nat.le_of_eq rfl) (hb hby at_118) (fun _ _ => ⟨rfl, e117, (by decide : 1 + 0 ≤ _), (by decide : 16 + 0 ≤ _)⟩)
    dsimp only [Pt.U, Pt.locs, Pt.cells, Pt.slots] at X118 l118 y118 z118 st118 hQ118
    subst l118 y118 z118
    obtain ⟨rfl, N118, hh118⟩ := hQ118
    refine own_st (S' := T118.setTop (mkF m 121 #[.val (.int p1), .val (.int p2), .val (.ref a101), .val (.int v3)] [(.int (own_b (own_D (Int32.toInt v3))))])) st118 ?_
    have Na := Fr.app N117 N118
    refine own_st (S' := T118.setTop (mkF m 122 #[.val (.int p1), .val (.int p2), .val (.ref a101), .val (.int v3)] [(.int v3), (.int (own_b (own_D (Int32.toInt v3))))])) (fun _ k => XS.iloadN X118.here hx rfl (hb hby at_121) rfl k) ?_
    obtain ⟨_, _, ⟨T119, L119, k119, n119⟩, -, X119, ⟨Lc119, hQ119, l119, y119, z119⟩, st119⟩ := Jvm.LawKit.callS X118 hx (y := (⟨"com/example/infoset/infoset/XmlCharsIsCharPinLaw", "expected", "(I)Z"⟩ : MethodName)) hown (mvT hZ (hw _ (List.mem_of_getElem? (i := 16) rfl))) (mvT hZ (hw _ (List.mem_of_getElem? (i := 17) rfl))) (mvT hZ (hw _ (List.mem_of_getElem? (i := 18) rfl))) (mvT hZ (hw _ (List.mem_of_getElem? (i := 19) rfl))) (by decide) (backOf (W := 1) (rmB l Z a0 hw [] v3 h117 n0 (Nat.le_of_lt (Nat.lt_of_le_of_lt ge hf117.lt))) hZ (hw _ (List.mem_of_getElem? (i := 19) rfl)) (hw _ (List.mem_of_getElem? (i := 18) rfl)) (by decide) (by decide)) (g := (mkF m 122 #[.val (.int p1), .val (.int p2), .val (.ref a101), .val (.int v3)] [(.int v3), (.int (own_b (own_D (Int32.toInt v3))))])) rfl (by rw [hml]; rfl) (argsL := [(.int v3)]) (rest := [(.int (own_b (own_D (Int32.toInt v3))))]) (lenOf pd_B rfl) rfl (by show 2 * 0 + _ ≤ _; exact Nat.le_of_eq rfl) (hb hby at_122) (fun _ _ => ⟨rfl, hh118, (by decide : 1 + 0 ≤ _), (by decide : 16 + 0 ≤ _)⟩)
    dsimp only [Pt.U, Pt.locs, Pt.cells, Pt.slots] at X119 l119 y119 z119 st119 hQ119
    subst l119 y119 z119
    obtain ⟨rfl, N119, hh119⟩ := hQ119
    refine own_st (S' := T119.setTop (mkF m 125 #[.val (.int p1), .val (.int p2), .val (.ref a101), .val (.int v3)] [(.int (own_b (own_D (Int32.toInt v3)))), (.int (own_b (own_D (Int32.toInt v3))))])) st119 ?_
    have Nb := Fr.app Na N119
    refine own_st (S' := T119.setTop (mkF m 128 #[.val (.int p1), .val (.int p2), .val (.ref a101), .val (.int v3)] [])) (fun _ k => XS.icmpNo X119.here hx rfl (hb hby at_125) rfl ((own_i_ne _ _).trans (decide_eq_false (p := Int32.toInt (own_b (own_D (Int32.toInt v3))) ≠ Int32.toInt (own_b (own_D (Int32.toInt v3)))) (fun h => h rfl))) k) ?_
    refine own_st (S' := T119.setTop (mkF m 129 #[.val (.int p1), .val (.int p2), .val (.ref a101), .val (.int v3)] [(.int (1 : Int32))])) (fun _ k => XS.iconst X119.here hx rfl (hb hby at_128) k) ?_
    refine own_st (S' := T119.setTop (mkF m 133 #[.val (.int p1), .val (.int p2), .val (.ref a101), .val (.int v3)] [(.int (1 : Int32))])) (fun _ k => XS.goto X119.here hx rfl (pc0 := 129) (pc' := 133) rfl (hb hby at_129) (by decide) (by decide) k) ?_
    refine own_end X119 (Q := (Q0 Z p1 p2 h0 n0)) (some (.int (1 : Int32))) Bd.notSynchronized (fun h => by rw [Bd.returns] at h; cases h) (fun fs hr => retN X119 hx (t := .boolean) Bd.returns (by simp) (hb hby at_133) hr) ?_ (by decide) (by decide)
    rw [hh119]
    exact ⟨rfl, Nb⟩
  · skip
    by_cases hc96 : Int32.toInt (p2 &&& (1 : Int32)) ≠ 0
    · skip
      refine own_st (S' := T117.setTop (mkF m 104 #[.val (.int p1), .val (.int p2), .val (.ref a101), .unset] [])) (fun _ k => XS.ifYes X117.here hx rfl (pc0 := 96) (pc' := 104) rfl (hb hby at_96) rfl ((own_z_ne _).trans (decide_eq_true (p := Int32.toInt (p2 &&& (1 : Int32)) ≠ 0) (hc96))) (by decide) (by decide) k) ?_
      refine own_st (S' := T117.setTop (mkF m 105 #[.val (.int p1), .val (.int p2), .val (.ref a101), .unset] [(.ref a101)])) (fun _ k => XS.aloadN X117.here hx rfl (hb hby at_104) rfl rfl k) ?_
      refine own_st (S' := T117.setTop (mkF m 106 #[.val (.int p1), .val (.int p2), .val (.ref a101), .unset] [(.int p2), (.ref a101)])) (fun _ k => XS.iloadN X117.here hx rfl (hb hby at_105) rfl k) ?_
      refine own_st (S' := T117.setTop (mkF m 107 #[.val (.int p1), .val (.int p2), .val (.ref a101), .unset] [(.int (1 : Int32)), (.int p2), (.ref a101)])) (fun _ k => XS.iconst X117.here hx rfl (hb hby at_106) k) ?_
      refine own_st (S' := T117.setTop (mkF m 108 #[.val (.int p1), .val (.int p2), .val (.ref a101), .unset] [(.int (XT.ushr p2 (1 : Int32))), (.ref a101)])) (fun _ k => XT.iushr X117.here hx rfl (hb hby at_107) rfl k) ?_
      refine own_st (S' := T117.setTop (mkF m 110 #[.val (.int p1), .val (.int p2), .val (.ref a101), .unset] [(.int (15 : Int32)), (.int (XT.ushr p2 (1 : Int32))), (.ref a101)])) (fun _ k => XS.bipush X117.here hx rfl (hb hby at_108) k) ?_
      refine own_st (S' := T117.setTop (mkF m 111 #[.val (.int p1), .val (.int p2), .val (.ref a101), .unset] [(.int ((XT.ushr p2 (1 : Int32)) &&& (15 : Int32))), (.ref a101)])) (fun _ k => XS.iand X117.here hx rfl (hb hby at_110) rfl k) ?_
      obtain ⟨j, hv_j⟩ : ∃ z : Int32, z = ((XT.ushr p2 (1 : Int32)) &&& (15 : Int32)) := ⟨_, rfl⟩
      refine own_cv (congrArg (fun z => T117.setTop (mkF m 111 #[.val (.int p1), .val (.int p2), .val (.ref a101), .unset] [(.int z), (.ref a101)])) hv_j.symm) ?_
      show own_Go p.tables e below _ (T117.setTop (mkF m 111 #[.val (.int p1), .val (.int p2), .val (.ref a101), .unset] [(.int j), (.ref a101)]))
      have hj := own_15 (XT.ushr p2 (1 : Int32))
      rw [← hv_j] at hj
      refine own_st (S' := T117.setTop (mkF m 112 #[.val (.int p1), .val (.int p2), .val (.ref a101), .unset] [(.int (f117 j.toNatClampNeg))])) (own_ldI X117 hx hZ e117 hf117 hj.1 hj.2 (g := (mkF m 111 #[.val (.int p1), .val (.int p2), .val (.ref a101), .unset] [(.int j), (.ref a101)])) rfl rfl (hb hby at_111)) ?_
      refine own_st (S' := T117.setTop (mkF m 113 #[.val (.int p1), .val (.int p2), .val (.ref a101), .unset] [(.int p1), (.int (f117 j.toNatClampNeg))])) (fun _ k => XS.iloadN X117.here hx rfl (hb hby at_112) rfl k) ?_
      refine own_st (S' := T117.setTop (mkF m 114 #[.val (.int p1), .val (.int p2), .val (.ref a101), .unset] [(.int (3 : Int32)), (.int p1), (.int (f117 j.toNatClampNeg))])) (fun _ k => XS.iconst X117.here hx rfl (hb hby at_113) k) ?_
      refine own_st (S' := T117.setTop (mkF m 115 #[.val (.int p1), .val (.int p2), .val (.ref a101), .unset] [(.int (p1 % (3 : Int32))), (.int (f117 j.toNatClampNeg))])) (fun _ k => iremM X117 hx rfl (hb hby at_114) rfl (by decide) k) ?_
      refine own_st (S' := T117.setTop (mkF m 116 #[.val (.int p1), .val (.int p2), .val (.ref a101), .unset] [(.int ((f117 j.toNatClampNeg) + (p1 % (3 : Int32))))])) (fun _ k => XS.iadd X117.here hx rfl (hb hby at_115) rfl k) ?_
      refine own_st (S' := T117.setTop (mkF m 117 #[.val (.int p1), .val (.int p2), .val (.ref a101), .val (.int ((f117 j.toNatClampNeg) + (p1 % (3 : Int32))))] [])) (fun _ k => XS.istoreN X117.here hx rfl (hb hby at_116) rfl (l' := #[.val (.int p1), .val (.int p2), .val (.ref a101), .val (.int ((f117 j.toNatClampNeg) + (p1 % (3 : Int32))))]) rfl k) ?_
      exact fin _
    · skip
      refine own_st (S' := T117.setTop (mkF m 99 #[.val (.int p1), .val (.int p2), .val (.ref a101), .unset] [])) (fun _ k => XS.ifNo X117.here hx rfl (hb hby at_96) rfl ((own_z_ne _).trans (decide_eq_false (p := Int32.toInt (p2 &&& (1 : Int32)) ≠ 0) (hc96))) k) ?_
      refine own_st (S' := T117.setTop (mkF m 100 #[.val (.int p1), .val (.int p2), .val (.ref a101), .unset] [(.int p1)])) (fun _ k => XS.iloadN X117.here hx rfl (hb hby at_99) rfl k) ?_
      refine own_st (S' := T117.setTop (mkF m 101 #[.val (.int p1), .val (.int p2), .val (.ref a101), .val (.int p1)] [])) (fun _ k => XS.istoreN X117.here hx rfl (hb hby at_100) rfl (l' := #[.val (.int p1), .val (.int p2), .val (.ref a101), .val (.int p1)]) rfl k) ?_
      refine own_st (S' := T117.setTop (mkF m 117 #[.val (.int p1), .val (.int p2), .val (.ref a101), .val (.int p1)] [])) (fun _ k => XS.goto X117.here hx rfl (pc0 := 101) (pc' := 117) rfl (hb hby at_101) (by decide) (by decide) k) ?_
      exact fin _
set_option maxRecDepth 65536 in
set_option maxHeartbeats 40000000 in
theorem comes_1 {Post : Tables → Env → Array Value → State → Outcome → State → Prop} (hpost : ∀ tb e args s v u, (limb_1_1.after args s (.returned v) u = true ∧ limb_1_2.after args s (.returned v) u = true ∧ True) → FrameEnd s (.returned v) u (Jvm.fieldLocs frame_1_writes args s ++ Jvm.arrayLocs frame_1_arrays args s ++ Jvm.staticLocs frame_1_statics s) 16 128 → Post tb e args s (.returned v) u) :
    ArmFor flags0 classFile x code maxLocals ret World_1 tables_1 room_1 Calls_1 rest_1 Pre_1 Post := by
  intro l hfl _ _ p e ha hc hk s m args below hf hA hF happ hP
  obtain ⟨hcalls, hrest, hpre⟩ := hP
  obtain ⟨-, -, -, hnamed, -, -, -, hat⟩ := (Spec.applies_iff hf).mp happ
  obtain ⟨hg, hn⟩ := and_e (Cond.before_iff.mp (show (Jvm.Cond.and given_1 narrow_1).before args s = true from hpre))
  obtain ⟨hg0, hr0⟩ := and_e hg
  obtain ⟨hk0, hr1⟩ := and_e hr0
  have hk1 := hr1
  obtain ⟨w0, w1, rfl⟩ : ∃ w0 w1 : Value, args = #[w0, w1] := by
    have hs : args.size = 2 := by simpa [Cond.value, given_1] using hg0
    obtain ⟨L⟩ := args
    match L, hs with
    | [w0, w1], _ => exact ⟨w0, w1, rfl⟩
  have hw := fun d (hd : d ∈ tables_1) => atoms_spec (ws := Jvm.Cond.code x code maxLocals ret :: tables_1) hat d (List.mem_cons_of_mem _ hd)
  obtain ⟨i0, ee0⟩ := is_v hk0
  obtain rfl : w0 = (.int i0) := Option.some.inj ee0
  obtain ⟨i1, ee1⟩ := is_v hk1
  obtain rfl : w1 = (.int i1) := Option.some.inj ee1
  obtain ⟨n, o, h1, h2, h3, _, L, rfl, ⟨rfl, N⟩, hq⟩ := rm0 l s _ hw tables_1 i0 i1 s.heap s.heap.size (Nat.le_refl _) p e ha hc hk s m _ below hf ((Spec.applies_iff_loose hf).mp happ).1 ⟨rfl, State.Warmed39.refl s, rfl⟩ trivial
  refine ⟨n, _, h1, h2, h3, hpost _ _ _ _ _ _ ⟨Cond.after_iff.mpr rfl, Cond.after_iff.mpr (eq_i res_at (Term.int_eval (1)) rfl), trivial⟩ ⟨hq.1, hq.2.1, (hq.2.2.sift fun y hy => Or.inr (N y hy)).mono (by decide) (by decide)⟩⟩
theorem main_1_1 : Claimed_1_1 := comes_1 fun _ _ _ _ _ _ h hF => ⟨h.1, hF⟩
theorem main_1_2 : Claimed_1_2 := comes_1 fun _ _ _ _ _ _ h hF => ⟨h.2.1, hF⟩
end Jvm.Pilot.@@N@@
namespace Jvm.Pilot.@@N@@
open Jvm Jvm.ClassFile Sem Op Lib Jvm.Free Jvm.Stand Jvm.Pilot.@@N@@.Jvm.D
/-! MADE BY PROGRAM (witnessworld.py) out of the Statement's table words and the real class files: 9 classes; the members and pool entries that the words name. The judged class is class 1, her method 2. -/
namespace start1
open Jvm.ClassFile
def u (s : String) : CpInfo := .utf8 (stringToUtf16 s)
/-- a pool by its gaps: so many unusable entries, then the entry; so many at the end -/
def gap : Nat → List CpInfo → List CpInfo
  | 0, r => r
  | n + 1, r => .unusable :: gap n r
def poolList (es : List (Nat × CpInfo)) (last : Nat) : List CpInfo := es.foldr (fun e r => gap e.1 (e.2 :: r)) (gap last [])
def pool (es : List (Nat × CpInfo)) (last : Nat) : Array CpInfo := ⟨poolList es last⟩
def fileOf (pool : Array CpInfo) (this : Nat) (attrs : Array Attribute := #[]) (ms : Array MethodInfo := #[]) (fl : Nat := 33) (sup : Nat := 0) (ifs : Array Nat := #[]) (fds : Array FieldInfo := #[]) : ClassFile where
  minorVersion := 0
  majorVersion := 65
  constantPool := pool
  accessFlags := fl
  thisClass := this
  superClass := sup
  interfaces := ifs
  fields := fds
  methods := ms
  attributes := attrs
def plain (name : String) (sup : Option ClassId) : Class where
  name := name
  kind := .ordinary
  loader := none
  accessFlags := 33
  super := sup
  interfaces := #[]
  cf := none
  fields := #[]
  methods := #[]
  instanceTypes := #[]
  staticTypes := #[]
  resolved := #[]
  callSites := []
  init := .initialized
  statics := none
  mirror := none

def pool0 : Array CpInfo := pool [(5, u "<init>"), (0, u "()V"), (1, .class_ 10), (1, u "java/lang/Object")] 113

def k0m0 : Method := { name := "<init>", desc := "()V", sig := { parameters := [], returnType := none }, accessFlags := 1, code := none }
/-- java/lang/Object -/
def k0 : Class := { plain "java/lang/Object" none with
  accessFlags := 33
  interfaces := #[]
  cf := some (fileOf pool0 8 #[] #[{ accessFlags := 1, nameIndex := 5, descriptorIndex := 6, attributes := #[] }] 33 0 #[] #[])
  fields := #[]
  methods := #[k0m0]
  instanceTypes := #[]
  staticTypes := #[]
  resolved := Array.replicate 124 none
  statics := none }

def pool1 : Array CpInfo := pool [(2, .class_ 4), (1, u "java/lang/Object"), (0, u "<init>"), (0, u "()V"), (0, .integer 1114111), (0, .integer 55296), (0, .integer 57343), (0, .integer 65534), (0, .integer 65535), (0, .integer 55295), (0, .integer 57344), (0, .integer 65533), (0, .integer 65536), (0, .integer 1114112), (2, .integer 2147483648), (0, .integer 2147483647), (0, .methodref 22 23), (0, .class_ 24), (0, .nameAndType 25 26), (0, u "com/example/infoset/infoset/XmlChars"), (0, u "isChar"), (0, u "(I)Z"), (0, .methodref 28 29), (0, .class_ 30), (0, .nameAndType 31 26), (0, u "com/example/infoset/infoset/XmlCharsIsCharPinLaw"), (0, u "expected"), (3, u "law"), (0, u "(II)Z")] 4

def k1m0 : Method := { name := "<init>", desc := "()V", sig := { parameters := [], returnType := none }, accessFlags := 2, code := none }
def k1c1 : Code := { maxStack := 2, maxLocals := 1, code := method_2_code, exceptionTable := #[], attributes := #[] }
def k1m1 : Method := { name := "expected", desc := "(I)Z", sig := { parameters := [.int], returnType := some .boolean }, accessFlags := 10, code := some k1c1 }
def k1c2 : Code := { maxStack := 4, maxLocals := 4, code := code, exceptionTable := #[], attributes := #[] }
def k1m2 : Method := { name := "law", desc := "(II)Z", sig := { parameters := [.int, .int], returnType := some .boolean }, accessFlags := 9, code := some k1c2 }
/-- com/example/infoset/infoset/XmlCharsIsCharPinLaw -/
def k1 : Class := { plain "com/example/infoset/infoset/XmlCharsIsCharPinLaw" (some 0) with
  accessFlags := 49
  interfaces := #[]
  cf := some (fileOf pool1 28 #[] #[{ accessFlags := 2, nameIndex := 5, descriptorIndex := 6, attributes := #[] }, { accessFlags := 10, nameIndex := 31, descriptorIndex := 26, attributes := #[] }, { accessFlags := 9, nameIndex := 35, descriptorIndex := 36, attributes := #[] }] 49 2 #[] #[])
  fields := #[]
  methods := #[k1m0, k1m1, k1m2]
  instanceTypes := #[]
  staticTypes := #[]
  resolved := Array.replicate 41 none
  statics := none }

def pool2 : Array CpInfo := pool [(2, .class_ 4), (1, u "java/lang/Object"), (0, u "<init>"), (0, u "()V"), (0, .integer 55295), (0, .integer 57344), (0, .integer 65533), (0, .integer 65536), (0, .integer 1114111), (0, .class_ 13), (0, u "com/example/infoset/infoset/XmlChars"), (5, u "(I)Z"), (2, u "ASCII_CLASSES"), (0, u "[B"), (2, u "NAME_START_RANGES"), (0, u "[I"), (6, u "NAME_ONLY_RANGES"), (22, u "isChar"), (57, u "NAME_START"), (0, u "I"), (2, u "NAME"), (1, u "PUBID"), (1, u "WHITESPACE"), (0, u "J")] 17

def k2m0 : Method := { name := "<init>", desc := "()V", sig := { parameters := [], returnType := none }, accessFlags := 2, code := none }
def k2c1 : Code := { maxStack := 2, maxLocals := 1, code := prog_74_method_2_code, exceptionTable := #[], attributes := #[] }
def k2m1 : Method := { name := "isChar", desc := "(I)Z", sig := { parameters := [.int], returnType := some .boolean }, accessFlags := 8, code := some k2c1 }
/-- com/example/infoset/infoset/XmlChars -/
def k2 : Class := { plain "com/example/infoset/infoset/XmlChars" (some 0) with
  accessFlags := 48
  interfaces := #[]
  cf := some (fileOf pool2 12 #[] #[{ accessFlags := 2, nameIndex := 5, descriptorIndex := 6, attributes := #[] }, { accessFlags := 8, nameIndex := 57, descriptorIndex := 19, attributes := #[] }] 48 2 #[] #[{ accessFlags := 26, nameIndex := 115, descriptorIndex := 116, attributes := #[] }, { accessFlags := 26, nameIndex := 119, descriptorIndex := 116, attributes := #[] }, { accessFlags := 26, nameIndex := 121, descriptorIndex := 116, attributes := #[] }, { accessFlags := 26, nameIndex := 123, descriptorIndex := 124, attributes := #[] }, { accessFlags := 26, nameIndex := 22, descriptorIndex := 23, attributes := #[] }, { accessFlags := 26, nameIndex := 26, descriptorIndex := 27, attributes := #[] }, { accessFlags := 26, nameIndex := 34, descriptorIndex := 27, attributes := #[] }])
  fields := #[{ name := "NAME_START", type := .int, accessFlags := 26, slot := 0, constantValue := 0 }, { name := "NAME", type := .int, accessFlags := 26, slot := 1, constantValue := 0 }, { name := "PUBID", type := .int, accessFlags := 26, slot := 2, constantValue := 0 }, { name := "WHITESPACE", type := .long, accessFlags := 26, slot := 3, constantValue := 0 }, { name := "ASCII_CLASSES", type := (.array .byte), accessFlags := 26, slot := 4, constantValue := 0 }, { name := "NAME_START_RANGES", type := (.array .int), accessFlags := 26, slot := 5, constantValue := 0 }, { name := "NAME_ONLY_RANGES", type := (.array .int), accessFlags := 26, slot := 6, constantValue := 0 }]
  methods := #[k2m0, k2m1]
  instanceTypes := #[]
  staticTypes := #[.int, .int, .int, .long, (.array .byte), (.array .int), (.array .int)]
  resolved := Array.replicate 142 none
  statics := none }

def pool3 : Array CpInfo := pool [(1, u "java/lang/Cloneable"), (0, .class_ 1), (0, u "java/lang/Object"), (0, .class_ 3)] 3

/-- java/lang/Cloneable -/
def k3 : Class := { plain "java/lang/Cloneable" (some 0) with
  accessFlags := 1537
  interfaces := #[]
  cf := some (fileOf pool3 2 #[] #[] 1537 4 #[] #[])
  fields := #[]
  methods := #[]
  instanceTypes := #[]
  staticTypes := #[]
  resolved := Array.replicate 8 none
  statics := none }

def pool4 : Array CpInfo := pool [(1, u "java/io/Serializable"), (0, .class_ 1), (0, u "java/lang/Object"), (0, .class_ 3)] 3

/-- java/io/Serializable -/
def k4 : Class := { plain "java/io/Serializable" (some 0) with
  accessFlags := 1537
  interfaces := #[]
  cf := some (fileOf pool4 2 #[] #[] 1537 4 #[] #[])
  fields := #[]
  methods := #[]
  instanceTypes := #[]
  staticTypes := #[]
  resolved := Array.replicate 8 none
  statics := none }

/-- the primitive byte -/
def k5 : Class := { plain "byte" none with kind := .primitive 'B', accessFlags := 0x411 }
/-- [B -/
def k6 : Class := { plain "[B" (some 0) with kind := .array 5 .byte, interfaces := #[3, 4], accessFlags := 1041 }

/-- the primitive int -/
def k7 : Class := { plain "int" none with kind := .primitive 'I', accessFlags := 0x411 }
/-- [I -/
def k8 : Class := { plain "[I" (some 0) with kind := .array 7 .int, interfaces := #[3, 4], accessFlags := 1041 }

def heap : Heap := #[]
def classes : Array Class := #[k0, k1, k2, k3, k4, k5, k6, k7, k8]
def interned : List (Array UInt16 × Addr) := []
def slotsUsed : Nat := 0
def theMethod : MethodId := ⟨1, 2⟩
def args0 : Array Value := #[.int 5, .int 7]
def aboutOver (below : List Frame) : State where
  vm := { classes := classes, interned := interned.toArray }
  heap := heap
  slotsUsed := slotsUsed
  threads := #[{ frames := .invoking theMethod args0 :: below }]
def below0 : List Frame := [.native { method := ⟨0, 0⟩, args := #[] }]
def about1 : State := aboutOver below0
def p0 : Program := .bare "" "" ""
def e0 : Env := launch0.env 0 0 0
theorem w_frames : about1.frames = Frame.invoking theMethod args0 :: below0 := rfl
set_option maxRecDepth 65536 in
theorem w_args : argsFit about1.vm theMethod args0 = true := by decide +kernel
set_option maxRecDepth 65536 in
theorem w_heap : heapFits about1 = true := by decide +kernel
set_option maxRecDepth 65536 in
theorem w_runnable : about1.curStatus? = some .runnable := by decide +kernel
set_option maxRecDepth 65536 in
theorem w_alone : about1.alone = true := by decide +kernel
set_option maxRecDepth 65536 in
theorem w_named : about1.methodNamed? x = some theMethod := by decide +kernel
set_option maxRecDepth 65536 in
theorem w_hears : about1.hears theMethod below0 = true := by decide +kernel
set_option maxRecDepth 65536 in
theorem w_ripe : about1.ripe theMethod args0 below0 = true := by decide +kernel
theorem w_running : about1.status = .running := rfl
set_option maxRecDepth 65536 in
theorem w_room : about1.hasRoom e0.platform room_1 = true :=
  launch0.hasRoom_least _ room_1 (by decide +kernel) (by decide +kernel) (by decide +kernel) (by decide +kernel) (by decide +kernel) (by decide +kernel)
theorem allAtoms_all (ts : List Jvm.Cond) (a : Array Jvm.Value) (st : Jvm.State) : (allAtoms ts).before a st = ts.all (fun c => c.before a st) := by
  induction ts with
  | nil => rfl
  | cons c t ih =>
    show (Jvm.Cond.and c (allAtoms t)).before a st = _
    rw [Jvm.Cond.before_and, ih, List.all_cons]
def words1 : List Jvm.Cond := Jvm.Cond.code x code maxLocals ret :: tables_1
/-- a 'code' word, met by the world's own term for the bytes: nothing is compared byte by byte -/
theorem code_word {y : MethodName} {bytes : ByteArray} {mx : Nat} {rt : Option FieldType} {a : Array Value} {s : State} {m : MethodId} {meth : Method} {c : Code} (h1 : s.methodNamed? y = some m) (h2 : s.vm.method? m = some meth) (h3 : meth.code = some c) (h4 : c.code = bytes)
    (h5 : (c.maxLocals == mx && c.exceptionTable.isEmpty && decide (c.maxStack ≤ mostOperands) && decide (meth.sig.returnType = rt) && !meth.locks && decide (parseMethodDescriptor y.desc = some meth.sig)) = true) : (Jvm.Cond.code y bytes mx rt).before a s = true := by
  simp only [Bool.and_eq_true, beq_iff_eq, Bool.not_eq_true', decide_eq_true_eq] at h5
  obtain ⟨⟨⟨⟨⟨g1, g2⟩, g3⟩, g4⟩, g5⟩, g6⟩ := h5
  simp [Cond.before, Cond.holds, Cond.value, h1, h2, h3, h4, g1, g2, g3, g4, g5, g6]
def isCode : Jvm.Cond → Bool
  | .code _ _ _ _ => true
  | _ => false
theorem all_split {L : List Jvm.Cond} {P : Jvm.Cond → Bool} (h1 : L.all (fun c => isCode c || P c) = true) (h2 : ∀ c ∈ L.filter isCode, P c = true) : L.all P = true := by
  refine List.all_eq_true.mpr fun c hc => ?_
  have h := List.all_eq_true.mp h1 c hc
  rcases Bool.eq_false_or_eq_true (isCode c) with hi | hi
  · exact h2 c (List.mem_filter.mpr ⟨hc, hi⟩)
  · simpa [hi] using h
set_option maxRecDepth 65536 in
theorem w_c0 : (Jvm.Cond.code x code maxLocals ret).before args0 about1 = true := code_word (m := ⟨1, 2⟩) (meth := k1m2) (c := k1c2) (by decide +kernel) rfl rfl rfl (by decide +kernel)
set_option maxRecDepth 65536 in
theorem w_c1 : (Jvm.Cond.code ({ cls := "com/example/infoset/infoset/XmlChars", name := "isChar", desc := "(I)Z" } : Jvm.MethodName) prog_74_method_2_code (1 : Nat) (Option.some Jvm.ClassFile.FieldType.boolean)).before args0 about1 = true := code_word (m := ⟨2, 1⟩) (meth := k2m1) (c := k2c1) (by decide +kernel) rfl rfl rfl (by decide +kernel)
set_option maxRecDepth 65536 in
theorem w_c2 : (Jvm.Cond.code ({ cls := "com/example/infoset/infoset/XmlCharsIsCharPinLaw", name := "expected", desc := "(I)Z" } : Jvm.MethodName) method_2_code (1 : Nat) (Option.some Jvm.ClassFile.FieldType.boolean)).before args0 about1 = true := code_word (m := ⟨1, 1⟩) (meth := k1m1) (c := k1c1) (by decide +kernel) rfl rfl rfl (by decide +kernel)
def codes1 : List Jvm.Cond := [Jvm.Cond.code x code maxLocals ret, Jvm.Cond.code ({ cls := "com/example/infoset/infoset/XmlChars", name := "isChar", desc := "(I)Z" } : Jvm.MethodName) prog_74_method_2_code (1 : Nat) (Option.some Jvm.ClassFile.FieldType.boolean), Jvm.Cond.code ({ cls := "com/example/infoset/infoset/XmlCharsIsCharPinLaw", name := "expected", desc := "(I)Z" } : Jvm.MethodName) method_2_code (1 : Nat) (Option.some Jvm.ClassFile.FieldType.boolean)]
set_option maxRecDepth 65536 in
theorem codes_eq : words1.filter isCode = codes1 := rfl
theorem w_codes : ∀ c ∈ words1.filter isCode, c.before args0 about1 = true := by
  rw [codes_eq]
  intro c hc
  simp only [codes1, List.mem_cons, List.not_mem_nil, or_false] at hc
  rcases hc with rfl | rfl | rfl
  · exact w_c0
  · exact w_c1
  · exact w_c2
set_option maxRecDepth 65536 in
theorem w_t1 : (words1.take 24).all (fun c => isCode c || c.before args0 about1) = true := by decide +kernel
set_option maxRecDepth 65536 in
theorem w_t2 : (words1.drop 24).all (fun c => isCode c || c.before args0 about1) = true := by decide +kernel
theorem w_tables : (allAtoms (Jvm.Cond.code x code maxLocals ret :: tables_1)).before args0 about1 = true := by
  rw [allAtoms_all]
  show words1.all (fun c => c.before args0 about1) = true
  refine all_split ?_ w_codes
  rw [← List.take_append_drop 24 words1, List.all_append, w_t1, w_t2]
  rfl
set_option maxRecDepth 65536 in
theorem w_case : (Jvm.Cond.and given_1 narrow_1).before args0 about1 = true := by decide +kernel
theorem w_applies : (headSpec (Jvm.Cond.code x code maxLocals ret :: tables_1) room_1).applies x e0.platform about1 = true :=
  (Spec.applies_iff w_frames).mpr ⟨w_running, w_runnable, w_alone, w_named, w_hears, w_ripe, w_room, w_tables⟩
theorem atStart : AtStart classFile x code maxLocals ret World_1 tables_1 room_1 Calls_1 rest_1 Pre_1 launch0 p0 e0 about1 theMethod args0 below0 :=
  ⟨lists_1, trivial, launch0.admits_env _ _ _, launch0.least_env, fairChoices_fair.cas, fairChoices_fair.clock, w_frames, w_args, w_heap, w_applies, trivial, trivial, w_case⟩
end start1
theorem witness_1 : WitnessClaimed_1 := ⟨start1.p0, start1.e0, start1.about1, start1.theMethod, start1.args0, start1.below0, start1.atStart⟩
end Jvm.Pilot.@@N@@
