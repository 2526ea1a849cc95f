import JvmDerived
import JvmDerived.Pilot.@@N@@Statement
import JvmDerived.Pilot.@@N@@Code
set_option linter.unusedVariables false
set_option linter.unusedSimpArgs false
namespace Jvm.Pilot.@@N@@
open Jvm Jvm.ClassFile Sem Op Lib Jvm.Free Jvm.Free.Fl Jvm.Stand Jvm.LawKit Jvm.RoadKit Bundle Jvm.Pilot.@@N@@.Jvm.D
def own_Go (tb : Tables) (e : Env) (below : List Frame) (P : State → Outcome → Prop) (S : State) : Prop := ∃ t o, Steps tb e below S t ∧ P t o
section OwnGo
variable {tb : Tables} {e : Env} {below : List Frame} {P : State → Outcome → Prop} {S S' : State}
theorem own_up (st : ∀ t, Steps tb e below S' t → Steps tb e below S t) (h : own_Go tb e below P S') : own_Go tb e below P S := by
  obtain ⟨t, o, h1, h2⟩ := h
  exact ⟨t, o, st t h1, h2⟩
theorem own_start (st : ∀ t, Steps tb e below S' t → Steps tb e below S t) (h : own_Go tb e below P S') : ∃ t o, Steps tb e below S t ∧ P t o := own_up st h
theorem own_end (h : ∃ t o, Steps tb e below S t ∧ P t o) : own_Go tb e below P S := h
end OwnGo
theorem own_eqi {args : Array Value} {first s : State} {o : Option Outcome} {idx : List Nat} {a : Term} {n : Int32} (h : (Jvm.Cond.eq a (Term.int n)).value args first o s idx = some true) : a.eval args first o idx s = some (.int n) := by
  obtain ⟨x, y, h1, h2, k1, k2⟩ := cmp_v (Or.inl h)
  have hb : (Term.int n).eval args first o idx s = some (.int n) := Term.int_eval n
  obtain rfl : y = .int n := Option.some.inj (h2.symm.trans hb)
  cases x with
  | int x =>
    have q := gotT (Cond.eq_ints h1 hb) h
    rw [h1, q]
  | _ => simp [Kin] at k1 k2
def own_Arf (Z : State) (h : Heap) (a : Addr) (ty : FieldType) (n : Int32) (f : Nat → Value) : Prop := ∃ c : Cell, Arr Z h a c ty ∧ c.slots.size = n.toNatClampNeg ∧ ¬ n < 0 ∧ ∀ i, i < c.slots.size → c.slots[i]? = some (f i)
section OwnArf
variable {p : Program} {l : Launch} {e : Env} {R : Room} {s : State} {m : MethodId} {args : Array Value} {below : List Frame} {meth : Method} {c : Code} {T : State} {locs : List Loc} {cells slots : Nat} {Z : State} {h h' : Heap} {a b : Addr} {ty : FieldType} {n j : Int32} {f : Nat → Value} {v : Value} {sl : Nat} {ws : List Addr}
theorem own_Arf.lt (F : own_Arf Z h a ty n f) : a < h.size := by obtain ⟨c, A, -⟩ := F; exact A.lt
theorem own_Arf.nn (F : own_Arf Z h a ty n f) : ¬ n < 0 := by obtain ⟨c, A, -, q, -⟩ := F; exact q
theorem own_Arf.ext (F : own_Arf Z h a ty n f) (E : Ext h h') : own_Arf Z h' a ty n f := by obtain ⟨c, A, r⟩ := F; exact ⟨c, A.ext E, r⟩
theorem own_Arf.other (F : own_Arf Z h b ty n f) (W : Wr h h' a sl v) (q : b ≠ a) : own_Arf Z h' b ty n f := by obtain ⟨c, A, r⟩ := F; exact ⟨c, A.other W q, r⟩
theorem own_Arf.keep (F : own_Arf Z h a ty n f) (K : Keep h h' ws) (q : a ∉ ws) : own_Arf Z h' a ty n f := by obtain ⟨c, A, r⟩ := F; exact ⟨c, ⟨K.2.1 a c A.1 q, A.2⟩, r⟩
theorem own_Arf.new {k : ClassId} (A : Arr Z h a (newA k ty n) ty) (q : ¬ n < 0) : own_Arf Z h a ty n (fun _ => defaultValue ty) :=
  ⟨_, A, sz_new _ _ _, q, fun i hi => by rw [sz_new] at hi; simp [newA, hi]⟩
theorem own_Arf.ofArv {k : ClassId} {vs : List Value} {d : Value} (F : Arv Z h a k ty n vs d) : own_Arf Z h a ty n (fun i => vs.getD i d) := by
  obtain ⟨c, A, -, S, q, H, -⟩ := F
  exact ⟨c, A, S, q, fun i hi => H i hi⟩
theorem own_Arf.congr {f' : Nat → Value} (F : own_Arf Z h a ty n f) (q : ∀ i, i < n.toNatClampNeg → f i = f' i) : own_Arf Z h a ty n f' := by
  obtain ⟨c, A, S, q1, H⟩ := F
  exact ⟨c, A, S, q1, fun i hi => by rw [H i hi, q i (S ▸ hi)]⟩
theorem own_Arf.set (F : own_Arf Z h a ty n f) (W : Wr h h' a j.toNatClampNeg v) : own_Arf Z h' a ty n (fun i => if i = j.toNatClampNeg then v else f i) := by
  obtain ⟨c, A, S, q, H⟩ := F
  refine ⟨_, A.same W, by rw [sz_set]; exact S, q, fun x hx => ?_⟩
  rw [sz_set] at hx
  by_cases u : x = j.toNatClampNeg
  · subst u; simp [Cell.setSlot, hx]
  · show _ = some (if x = j.toNatClampNeg then v else f x)
    rw [if_neg u]
    have := H x hx
    simp only [Cell.setSlot]
    rw [Array.getElem?_setIfInBounds_ne (Ne.symm u)]
    exact this
def own_upd {α : Type} (u : Nat → α) (j : Int32) (x : α) : Nat → α := fun i => if i = j.toNatClampNeg then x else u i
theorem own_Arf.setD {u : Nat → UInt64} {x : UInt64} (F : own_Arf Z h a .double n (fun i => .double (u i))) (W : Wr h h' a j.toNatClampNeg (.double x)) : own_Arf Z h' a .double n (fun i => .double (own_upd u j x i)) :=
  (own_Arf.set F W).congr fun i _ => by unfold own_upd; split <;> rfl
theorem own_Arf.setI {u : Nat → Int32} {x : Int32} (F : own_Arf Z h a ty n (fun i => .int (u i))) (W : Wr h h' a j.toNatClampNeg (.int x)) : own_Arf Z h' a ty n (fun i => .int (own_upd u j x i)) :=
  (own_Arf.set F W).congr fun i _ => by unfold own_upd; split <;> rfl
theorem own_Arf.setJ {u : Nat → Int64} {x : Int64} (F : own_Arf Z h a .long n (fun i => .long (u i))) (W : Wr h h' a j.toNatClampNeg (.long x)) : own_Arf Z h' a .long n (fun i => .long (own_upd u j x i)) :=
  (own_Arf.set F W).congr fun i _ => by unfold own_upd; split <;> rfl
theorem own_Arf.daload (F : own_Arf Z h a .double n f) (X : Stand p l e R s m args below meth c T locs cells slots) (hx : p.tables.exec = Jvm.exec) (hZ : Z.Warmed39 s.vm) (eT : T.heap = h) (hj : ¬ j < 0) (hn : j < n) (hv : f j.toNatClampNeg = v) {g : JFrame} (hg : g.method = m) {rest : List Value} (hs : g.stack = .int j :: .ref a :: rest) (hd : decode c.code g.pc = .ok (.daload, 1)) (target : State) (hr : Steps p.tables e below (T.setTop { g with pc := g.pc + 1, stack := v :: rest }) target) : Steps p.tables e below (T.setTop g) target := by
  obtain ⟨cl, A, S, q, H⟩ := F
  have hin := inb_of S ⟨hj, hn⟩
  exact X.daload hx (by rw [eT]; exact A.1) (State.isArrayOf_alike hZ.alike A.2.1) A.2.2 hin (by rw [H _ (Nat.lt_of_not_le fun y => hin (Or.inr y)), hv]) hg hs hd target hr
theorem own_Arf.iaload (F : own_Arf Z h a .int n f) (X : Stand p l e R s m args below meth c T locs cells slots) (hx : p.tables.exec = Jvm.exec) (hZ : Z.Warmed39 s.vm) (eT : T.heap = h) (hj : ¬ j < 0) (hn : j < n) (hv : f j.toNatClampNeg = v) {g : JFrame} (hg : g.method = m) {rest : List Value} (hs : g.stack = .int j :: .ref a :: rest) (hd : decode c.code g.pc = .ok (.iaload, 1)) (target : State) (hr : Steps p.tables e below (T.setTop { g with pc := g.pc + 1, stack := v :: rest }) target) : Steps p.tables e below (T.setTop g) target := by
  obtain ⟨cl, A, S, q, H⟩ := F
  have hin := inb_of S ⟨hj, hn⟩
  exact X.iaload hx (by rw [eT]; exact A.1) (State.isArrayOf_alike hZ.alike A.2.1) A.2.2 hin (by rw [H _ (Nat.lt_of_not_le fun y => hin (Or.inr y)), hv]) hg hs hd target hr
theorem own_Arf.laload (F : own_Arf Z h a .long n f) (X : Stand p l e R s m args below meth c T locs cells slots) (hx : p.tables.exec = Jvm.exec) (hZ : Z.Warmed39 s.vm) (eT : T.heap = h) (hj : ¬ j < 0) (hn : j < n) (hv : f j.toNatClampNeg = v) {g : JFrame} (hg : g.method = m) {rest : List Value} (hs : g.stack = .int j :: .ref a :: rest) (hd : decode c.code g.pc = .ok (.laload, 1)) (target : State) (hr : Steps p.tables e below (T.setTop { g with pc := g.pc + 1, stack := v :: rest }) target) : Steps p.tables e below (T.setTop g) target := by
  obtain ⟨cl, A, S, q, H⟩ := F
  have hin := inb_of S ⟨hj, hn⟩
  exact X.laload hx (by rw [eT]; exact A.1) (State.isArrayOf_alike hZ.alike A.2.1) A.2.2 hin (by rw [H _ (Nat.lt_of_not_le fun y => hin (Or.inr y)), hv]) hg hs hd target hr
theorem own_Arf.aaload (F : own_Arf Z h a ty n f) (hty : ty.isReference = true) (X : Stand p l e R s m args below meth c T locs cells slots) (hx : p.tables.exec = Jvm.exec) (hZ : Z.Warmed39 s.vm) (eT : T.heap = h) (hj : ¬ j < 0) (hn : j < n) (hv : f j.toNatClampNeg = v) {g : JFrame} (hg : g.method = m) {rest : List Value} (hs : g.stack = .int j :: .ref a :: rest) (hd : decode c.code g.pc = .ok (.aaload, 1)) (target : State) (hr : Steps p.tables e below (T.setTop { g with pc := g.pc + 1, stack := v :: rest }) target) : Steps p.tables e below (T.setTop g) target := by
  obtain ⟨cl, A, S, q, H⟩ := F
  have hin := inb_of S ⟨hj, hn⟩
  exact X.aaload hx (by rw [eT]; exact A.1) (State.isArrayOf_alike hZ.alike A.2.1) hty A.2.2 hin (by rw [H _ (Nat.lt_of_not_le fun y => hin (Or.inr y)), hv]) hg hs hd target hr
theorem own_Arf.alen (F : own_Arf Z h a ty n f) (X : Stand p l e R s m args below meth c T locs cells slots) (hx : p.tables.exec = Jvm.exec) (hZ : Z.Warmed39 s.vm) (eT : T.heap = h) {g : JFrame} (hg : g.method = m) {rest : List Value} (hs : g.stack = .ref a :: rest) (hd : decode c.code g.pc = .ok (.arraylength, 1)) (target : State) (hr : Steps p.tables e below (T.setTop { g with pc := g.pc + 1, stack := .int n :: rest }) target) : Steps p.tables e below (T.setTop g) target := by
  obtain ⟨cl, A, S, q, H⟩ := F
  refine X.arraylength hx (by rw [eT]; exact A.1) (State.isArrayOf_alike hZ.alike A.2.1) hg hs hd target ?_
  rw [len_of S q]
  exact hr
end OwnArf
section OwnRows
def own_T (ur : Nat → UInt64) (al : UInt64) (ub : Nat → UInt64) (x y rs bq : Int32) : Nat → UInt64 :=
  own_upd (own_upd (own_upd (own_upd (own_upd (own_upd (own_upd (own_upd ur x (FP.dmul al (ub y.toNatClampNeg))) (x + rs) (FP.dmul al (ub (y + bq).toNatClampNeg))) (x + ((2 : Int32) * rs)) (FP.dmul al (ub (y + ((2 : Int32) * bq)).toNatClampNeg))) (x + ((3 : Int32) * rs)) (FP.dmul al (ub (y + ((3 : Int32) * bq)).toNatClampNeg))) (x + ((4 : Int32) * rs)) (FP.dmul al (ub (y + ((4 : Int32) * bq)).toNatClampNeg))) (x + ((5 : Int32) * rs)) (FP.dmul al (ub (y + ((5 : Int32) * bq)).toNatClampNeg))) (x + ((6 : Int32) * rs)) (FP.dmul al (ub (y + ((6 : Int32) * bq)).toNatClampNeg))) (x + ((7 : Int32) * rs)) (FP.dmul al (ub (y + ((7 : Int32) * bq)).toNatClampNeg))
def own_HB (cn mm ng rs ta bs bq tb pp qq : Int32) : Prop :=
  0 ≤ cn.toInt ∧ cn.toInt ≤ 3 ∧ cn.toInt ≤ mm.toInt ∧ mm.toInt ≤ cn.toInt + 3 ∧ (∃ O : Int, 0 ≤ O ∧ O ≤ 7 ∧ ((ng = 0 ∧ rs.toInt = mm.toInt ∧ ta.toInt = O) ∨ (ng ≠ 0 ∧ rs.toInt = -mm.toInt ∧ ta.toInt = O + 7 * mm.toInt))) ∧ (-4 ≤ bs.toInt ∧ bs.toInt ≤ 3) ∧ (-8 ≤ bq.toInt ∧ bq.toInt ≤ 7) ∧ (64 ≤ tb.toInt ∧ tb.toInt ≤ 71) ∧ (0 ≤ pp.toInt ∧ pp.toInt ≤ 63) ∧ (0 ≤ qq.toInt ∧ qq.toInt ≤ 127)
theorem own_bund {p0 p1 p2 p3 cn mm ng of rs ta bs bq tb pp qq : Int32}
    (hcn : (p0 &&& (3 : Int32)) = cn) (hmm : cn + (((p0.toUInt32 >>> ((2 : Int32) &&& 31).toUInt32).toInt32) &&& (3 : Int32)) = mm)
    (hof : (((p0.toUInt32 >>> ((5 : Int32) &&& 31).toUInt32).toInt32) &&& (7 : Int32)) = of)
    (hrs : rs = if ng = (0 : Int32) then mm else (-mm)) (hta : ta = if ng = (0 : Int32) then of else of + ((7 : Int32) * mm))
    (hbs : (p1 &&& (7 : Int32)) - (4 : Int32) = bs) (hbq : (((p1.toUInt32 >>> ((3 : Int32) &&& 31).toUInt32).toInt32) &&& (15 : Int32)) - (8 : Int32) = bq)
    (htb : (64 : Int32) + (((p1.toUInt32 >>> ((7 : Int32) &&& 31).toUInt32).toInt32) &&& (7 : Int32)) = tb)
    (hpp : (p2 &&& (63 : Int32)) = pp) (hqq : (p3 &&& (127 : Int32)) = qq) : own_HB cn mm ng rs ta bs bq tb pp qq := by
  have a1 := c_mask p0 3 2 (by decide) (by decide)
  have a2 := c_mask ((p0.toUInt32 >>> ((2 : Int32) &&& 31).toUInt32).toInt32) 3 2 (by decide) (by decide)
  have a3 := c_mask ((p0.toUInt32 >>> ((5 : Int32) &&& 31).toUInt32).toInt32) 7 3 (by decide) (by decide)
  have a4 := c_mask p1 7 3 (by decide) (by decide)
  have a5 := c_mask ((p1.toUInt32 >>> ((3 : Int32) &&& 31).toUInt32).toInt32) 15 4 (by decide) (by decide)
  have a6 := c_mask ((p1.toUInt32 >>> ((7 : Int32) &&& 31).toUInt32).toInt32) 7 3 (by decide) (by decide)
  have a7 := c_mask p2 63 6 (by decide) (by decide)
  have a8 := c_mask p3 127 7 (by decide) (by decide)
  have b1 := c_iadd cn (((p0.toUInt32 >>> ((2 : Int32) &&& 31).toUInt32).toInt32) &&& (3 : Int32))
  have b4 := c_isub (p1 &&& (7 : Int32)) 4
  have b5 := c_isub (((p1.toUInt32 >>> ((3 : Int32) &&& 31).toUInt32).toInt32) &&& (15 : Int32)) 8
  have b6 := c_iadd 64 (((p1.toUInt32 >>> ((7 : Int32) &&& 31).toUInt32).toInt32) &&& (7 : Int32))
  rw [hcn] at a1
  rw [hmm] at b1
  rw [hof] at a3
  rw [hbs] at b4
  rw [hbq] at b5
  rw [htb] at b6
  rw [hpp] at a7
  rw [hqq] at a8
  have l4 : (4 : Int32).toInt = 4 := by decide
  have l8 : (8 : Int32).toInt = 8 := by decide
  have l64 : (64 : Int32).toInt = 64 := by decide
  have l7 : (7 : Int32).toInt = 7 := by decide
  have r1 := rng32 mm
  have r4 := rng32 bs
  have r5 := rng32 bq
  have r6 := rng32 tb
  have hm : cn.toInt ≤ mm.toInt ∧ mm.toInt ≤ cn.toInt + 3 := by omega
  refine ⟨by omega, by omega, hm.1, hm.2, ⟨of.toInt, by omega, by omega, ?_⟩, by omega, by omega, by omega, by omega, by omega⟩
  by_cases hn : ng = (0 : Int32)
  · rw [if_pos hn] at hrs hta
    exact Or.inl ⟨hn, by rw [hrs], by rw [hta]⟩
  · rw [if_neg hn] at hrs hta
    have c1 := c_ineg mm
    have c2 := c_imul 7 mm
    rw [l7] at c2
    have c3 := c_iadd of ((7 : Int32) * mm)
    rw [← hrs] at c1
    rw [← hta] at c3
    have q1 := rng32 rs
    have q2 := rng32 ta
    have q3 := rng32 ((7 : Int32) * mm)
    exact Or.inr ⟨hn, by omega, by omega⟩
theorem own_mulr {r b : Int32} (hr : 0 ≤ r.toInt ∧ r.toInt ≤ 7) (hb : -8 ≤ b.toInt ∧ b.toInt ≤ 8) : (r * b).toInt = r.toInt * b.toInt := by
  have h1 := c_imul r b
  have b1 := mc (a := r.toInt) (b := b.toInt) (l1 := 0) (h1 := 7) (l2 := -8) (h2 := 8) (by omega) (by omega) (by omega) (by omega)
  have := rng32 (r * b)
  generalize r.toInt * b.toInt = t at *
  omega
theorem own_mulv {v b : Int32} (hv : 0 ≤ v.toInt ∧ v.toInt ≤ 2) (hb : -8 ≤ b.toInt ∧ b.toInt ≤ 8) : (v * b).toInt = v.toInt * b.toInt := own_mulr (by omega) hb
theorem own_add {a b : Int32} (h : -1000000 ≤ a.toInt + b.toInt ∧ a.toInt + b.toInt ≤ 1000000) : (a + b).toInt = a.toInt + b.toInt := by
  have h1 := c_iadd a b
  have := rng32 (a + b)
  omega
theorem own_lt {a : Int32} {N : Int32} (h : 0 ≤ a.toInt ∧ a.toInt < N.toInt) : ¬ a < 0 ∧ a < N := by
  rw [Int32.lt_iff_toInt_lt, Int32.lt_iff_toInt_lt]
  have : (0 : Int32).toInt = 0 := by decide
  omega
theorem own_ippf {cn mm ng rs ta bs bq tb pp qq : Int32} (H : own_HB cn mm ng rs ta bs bq tb pp qq) : ¬ pp < 0 ∧ pp < (64 : Int32) := by
  obtain ⟨-, -, -, -, -, -, -, -, ⟨p1, p2⟩, -⟩ := H
  have l : (64 : Int32).toInt = 64 := by decide
  exact own_lt (by omega)
theorem own_iqqf {cn mm ng rs ta bs bq tb pp qq : Int32} (H : own_HB cn mm ng rs ta bs bq tb pp qq) : ¬ qq < 0 ∧ qq < (128 : Int32) := by
  obtain ⟨-, -, -, -, -, -, -, -, -, ⟨p1, p2⟩⟩ := H
  have l : (128 : Int32).toInt = 128 := by decide
  exact own_lt (by omega)
theorem own_P {r rs : Int} (hr : 0 ≤ r ∧ r ≤ 7) (M : Int) (hM : 0 ≤ M ∧ M ≤ 6) (h : rs = M ∨ rs = -M) : (rs = M → 0 ≤ r * rs ∧ r * rs ≤ 7 * M) ∧ (rs = -M → -(7 * M) ≤ r * rs ∧ r * rs ≤ 0) := by
  constructor
  · rintro rfl
    exact ⟨Int.mul_nonneg hr.1 hM.1, Int.mul_le_mul_of_nonneg_right hr.2 hM.1⟩
  · rintro rfl
    have h1 := Int.mul_nonneg hr.1 hM.1
    have h2 := Int.mul_le_mul_of_nonneg_right hr.2 hM.1
    rw [Int.mul_neg]
    omega
/-- the place in 'result' -/
theorem own_ix {cn mm ng rs ta bs bq tb pp qq v r : Int32} (H : own_HB cn mm ng rs ta bs bq tb pp qq) (hv : 0 ≤ v.toInt ∧ v.toInt < cn.toInt) (hr : 0 ≤ r.toInt ∧ r.toInt ≤ 7) :
    ((ta + v) + r * rs).toInt = ta.toInt + v.toInt + r.toInt * rs.toInt ∧ 0 ≤ ta.toInt + v.toInt + r.toInt * rs.toInt ∧ ta.toInt + v.toInt + r.toInt * rs.toInt < 64 := by
  obtain ⟨h1, h2, h3, h4, ⟨O, o1, o2, o3⟩, -⟩ := H
  have hrs : -8 ≤ rs.toInt ∧ rs.toInt ≤ 8 := by rcases o3 with ⟨-, e, -⟩ | ⟨-, e, -⟩ <;> omega
  have hm := own_mulr hr hrs
  obtain ⟨P1, P2⟩ := own_P (r := r.toInt) (rs := rs.toInt) hr mm.toInt (by omega) (by rcases o3 with ⟨-, e, -⟩ | ⟨-, e, -⟩ <;> omega)
  have hb : 0 ≤ ta.toInt + v.toInt + r.toInt * rs.toInt ∧ ta.toInt + v.toInt + r.toInt * rs.toInt < 64 := by
    rcases o3 with ⟨-, e, f⟩ | ⟨-, e, f⟩
    · have := P1 e; omega
    · have := P2 e; omega
  have hta : 0 ≤ ta.toInt ∧ ta.toInt ≤ 49 := by rcases o3 with ⟨-, e, f⟩ | ⟨-, e, f⟩ <;> omega
  have ha : (ta + v).toInt = ta.toInt + v.toInt := own_add (by omega)
  refine ⟨?_, hb⟩
  rw [own_add (by rw [ha, hm]; omega), ha, hm]
/-- the place in 'b' -/
theorem own_jx {cn mm ng rs ta bs bq tb pp qq v r : Int32} (H : own_HB cn mm ng rs ta bs bq tb pp qq) (hv : 0 ≤ v.toInt ∧ v.toInt < cn.toInt) (hr : 0 ≤ r.toInt ∧ r.toInt ≤ 7) :
    0 ≤ ((tb + v * bs) + r * bq).toInt ∧ ((tb + v * bs) + r * bq).toInt < 128 := by
  obtain ⟨h1, h2, h3, h4, -, ⟨b1, b2⟩, ⟨c1, c2⟩, ⟨d1, d2⟩, -⟩ := H
  have m1 := own_mulv (v := v) (b := bs) (by omega) (by omega)
  have m2 := own_mulr (r := r) (b := bq) hr (by omega)
  have e1 := mc (a := v.toInt) (b := bs.toInt) (l1 := 0) (h1 := 2) (l2 := -4) (h2 := 3) (by omega) (by omega) (by omega) (by omega)
  have e2 := mc (a := r.toInt) (b := bq.toInt) (l1 := 0) (h1 := 7) (l2 := -8) (h2 := 7) (by omega) (by omega) (by omega) (by omega)
  have a1 : (tb + v * bs).toInt = tb.toInt + v.toInt * bs.toInt := by
    rw [own_add (by rw [m1]; generalize v.toInt * bs.toInt = t at *; omega), m1]
  rw [own_add (by rw [a1, m2]; generalize v.toInt * bs.toInt = t at *; generalize r.toInt * bq.toInt = u at *; omega), a1, m2]
  generalize v.toInt * bs.toInt = t at *
  generalize r.toInt * bq.toInt = u at *
  omega
theorem own_r0 (x b : Int32) : x + (0 : Int32) * b = x := by rw [Int32.zero_mul, Int32.add_zero]
theorem own_r1 (x b : Int32) : x + (1 : Int32) * b = x + b := by rw [Int32.one_mul]
theorem own_i {cn mm ng rs ta bs bq tb pp qq : Int32} (H : own_HB cn mm ng rs ta bs bq tb pp qq) (v r : Int32) (hv : 0 ≤ v.toInt ∧ v.toInt < cn.toInt) (hr : 0 ≤ r.toInt ∧ r.toInt ≤ 7) : ¬ ((ta + v) + r * rs) < 0 ∧ ((ta + v) + r * rs) < (64 : Int32) := by
  obtain ⟨e, e1, e2⟩ := own_ix H hv hr
  exact own_lt (by rw [e]; exact ⟨e1, e2⟩)
theorem own_i0 {cn mm ng rs ta bs bq tb pp qq : Int32} (H : own_HB cn mm ng rs ta bs bq tb pp qq) (v : Int32) (hv : 0 ≤ v.toInt ∧ v.toInt < cn.toInt) : ¬ (ta + v) < 0 ∧ (ta + v) < (64 : Int32) := by
  have := own_i H v 0 hv (by decide)
  rw [own_r0] at this
  exact this
theorem own_i1 {cn mm ng rs ta bs bq tb pp qq : Int32} (H : own_HB cn mm ng rs ta bs bq tb pp qq) (v : Int32) (hv : 0 ≤ v.toInt ∧ v.toInt < cn.toInt) : ¬ ((ta + v) + rs) < 0 ∧ ((ta + v) + rs) < (64 : Int32) := by
  have := own_i H v 1 hv (by decide)
  rw [own_r1] at this
  exact this
theorem own_j {cn mm ng rs ta bs bq tb pp qq : Int32} (H : own_HB cn mm ng rs ta bs bq tb pp qq) (v r : Int32) (hv : 0 ≤ v.toInt ∧ v.toInt < cn.toInt) (hr : 0 ≤ r.toInt ∧ r.toInt ≤ 7) : ¬ ((tb + v * bs) + r * bq) < 0 ∧ ((tb + v * bs) + r * bq) < (128 : Int32) := own_lt (own_jx H hv hr)
theorem own_j0 {cn mm ng rs ta bs bq tb pp qq : Int32} (H : own_HB cn mm ng rs ta bs bq tb pp qq) (v : Int32) (hv : 0 ≤ v.toInt ∧ v.toInt < cn.toInt) : ¬ (tb + v * bs) < 0 ∧ (tb + v * bs) < (128 : Int32) := by
  have := own_j H v 0 hv (by decide)
  rw [own_r0] at this
  exact this
theorem own_j1 {cn mm ng rs ta bs bq tb pp qq : Int32} (H : own_HB cn mm ng rs ta bs bq tb pp qq) (v : Int32) (hv : 0 ≤ v.toInt ∧ v.toInt < cn.toInt) : ¬ ((tb + v * bs) + bq) < 0 ∧ ((tb + v * bs) + bq) < (128 : Int32) := by
  have := own_j H v 1 hv (by decide)
  rw [own_r1] at this
  exact this
def own_dd (mm ta pp : Int32) : Int32 := (pp - ta) + ((64 : Int32) * mm)
def own_R (mm ng ta pp : Int32) : Int32 := if ng = (0 : Int32) then (own_dd mm ta pp / mm) - (64 : Int32) else (-((own_dd mm ta pp / mm) - (64 : Int32)))
def own_exp (cn mm ng ta tb bs bq pp qq : Int32) (al va : UInt64) : UInt64 :=
  if cn = (0 : Int32) then (4602678819172646912 : UInt64) else if own_R mm ng ta pp < (0 : Int32) then (4602678819172646912 : UInt64) else if (7 : Int32) < own_R mm ng ta pp then (4602678819172646912 : UInt64) else if (own_dd mm ta pp % mm) < cn then FP.dmul al (if ((tb + ((own_dd mm ta pp % mm) * bs)) + (own_R mm ng ta pp * bq)) = qq then va else (0 : UInt64)) else (4602678819172646912 : UInt64)
theorem own_ddI {cn mm ng rs ta bs bq tb pp qq : Int32} (H : own_HB cn mm ng rs ta bs bq tb pp qq) (hc : 0 < cn.toInt) : (own_dd mm ta pp).toInt = pp.toInt - ta.toInt + 64 * mm.toInt ∧ 0 < (own_dd mm ta pp).toInt := by
  obtain ⟨h1, h2, h3, h4, ⟨O, o1, o2, o3⟩, -, -, -, ⟨p1, p2⟩, -⟩ := H
  have hta : 0 ≤ ta.toInt ∧ ta.toInt ≤ 49 := by rcases o3 with ⟨-, e, f⟩ | ⟨-, e, f⟩ <;> omega
  have a1 := c_isub pp ta
  have a2 := c_imul 64 mm
  have a3 := c_iadd (pp - ta) ((64 : Int32) * mm)
  have l64 : (64 : Int32).toInt = 64 := by decide
  rw [l64] at a2
  have r1 := rng32 (pp - ta)
  have r2 := rng32 ((64 : Int32) * mm)
  have r3 := rng32 ((pp - ta) + ((64 : Int32) * mm))
  unfold own_dd
  omega
theorem own_QV {cn mm ng rs ta bs bq tb pp qq : Int32} (H : own_HB cn mm ng rs ta bs bq tb pp qq) (hc : 0 < cn.toInt) :
    (own_R mm ng ta pp).toInt * rs.toInt + (own_dd mm ta pp % mm).toInt = pp.toInt - ta.toInt ∧ 0 ≤ (own_dd mm ta pp % mm).toInt ∧ (own_dd mm ta pp % mm).toInt < mm.toInt ∧
    (∀ a b : Int, 0 ≤ a → a < mm.toInt → pp.toInt - ta.toInt = b * rs.toInt + a → -32 ≤ b → b ≤ 32 → (own_R mm ng ta pp).toInt = b ∧ (own_dd mm ta pp % mm).toInt = a) := by
  obtain ⟨d1, d2⟩ := own_ddI H hc
  obtain ⟨h1, h2, h3, h4, ⟨O, o1, o2, o3⟩, -, -, -, ⟨p1, p2⟩, -⟩ := H
  have hM : 0 < mm.toInt := by omega
  have hne : mm ≠ -1 := by
    intro e
    have := congrArg Int32.toInt e
    have : (-1 : Int32).toInt = -1 := by decide
    omega
  have q1 := (c_idiv (own_dd mm ta pp) mm mm.toInt rfl hne).1 (by omega)
  have q2 := (c_irem (own_dd mm ta pp) mm mm.toInt rfl).1 (by omega)
  have e1 := Int.mul_ediv_add_emod (own_dd mm ta pp).toInt mm.toInt
  have e2 := Int.emod_nonneg (own_dd mm ta pp).toInt (show mm.toInt ≠ 0 by omega)
  have e3 := Int.emod_lt_of_pos (own_dd mm ta pp).toInt hM
  have f1 : 0 ≤ (own_dd mm ta pp).toInt / mm.toInt := Int.ediv_nonneg (by omega) (by omega)
  have f2 : (own_dd mm ta pp).toInt / mm.toInt ≤ (own_dd mm ta pp).toInt := Int.ediv_le_self _ (by omega)
  have hta : 0 ≤ ta.toInt ∧ ta.toInt ≤ 49 := by rcases o3 with ⟨-, e, f⟩ | ⟨-, e, f⟩ <;> omega
  have g1 := c_isub (own_dd mm ta pp / mm) 64
  have l64 : (64 : Int32).toInt = 64 := by decide
  have g2 := rng32 ((own_dd mm ta pp / mm) - (64 : Int32))
  have g3 : ((own_dd mm ta pp / mm) - (64 : Int32)).toInt = (own_dd mm ta pp).toInt / mm.toInt - 64 := by omega
  have g4 := c_ineg ((own_dd mm ta pp / mm) - (64 : Int32))
  have g5 := rng32 (-((own_dd mm ta pp / mm) - (64 : Int32)))
  have hR : (ng = 0 → (own_R mm ng ta pp).toInt = (own_dd mm ta pp).toInt / mm.toInt - 64) ∧ (ng ≠ 0 → (own_R mm ng ta pp).toInt = -((own_dd mm ta pp).toInt / mm.toInt - 64)) := by
    unfold own_R
    constructor
    · intro hn; rw [if_pos hn]; exact g3
    · intro hn; rw [if_neg hn]; omega
  rw [q2]
  have huniq : ∀ a b : Int, 0 ≤ a → a < mm.toInt → (own_dd mm ta pp).toInt = b * mm.toInt + a → (own_dd mm ta pp).toInt / mm.toInt = b ∧ (own_dd mm ta pp).toInt % mm.toInt = a := by
    intro a b ha1 ha2 he
    rw [he, Int.add_comm]
    constructor
    · rw [Int.add_mul_ediv_right _ _ (by omega), Int.ediv_eq_zero_of_lt ha1 ha2]; omega
    · rw [Int.add_mul_emod_self_right, Int.emod_eq_of_lt ha1 ha2]
  rcases o3 with ⟨hn, hrs, hO⟩ | ⟨hn, hrs, hO⟩
  · refine ⟨?_, e2, e3, fun a b ha1 ha2 he hb1 hb2 => ?_⟩
    · rw [hR.1 hn, hrs, Int.sub_mul, Int.mul_comm ((own_dd mm ta pp).toInt / mm.toInt)]; omega
    · obtain ⟨u1, u2⟩ := huniq a (b + 64) ha1 ha2 (by rw [d1, he, hrs, Int.add_mul]; omega)
      rw [hR.1 hn, u1, u2]; omega
  · refine ⟨?_, e2, e3, fun a b ha1 ha2 he hb1 hb2 => ?_⟩
    · rw [hR.2 hn, hrs, Int.neg_mul_neg, Int.sub_mul, Int.mul_comm ((own_dd mm ta pp).toInt / mm.toInt)]; omega
    · obtain ⟨u1, u2⟩ := huniq a (64 - b) ha1 ha2 (by rw [d1, he, hrs, Int.sub_mul, Int.mul_neg]; omega)
      rw [hR.2 hn, u1, u2]; omega
theorem own_hit {cn mm ng rs ta bs bq tb pp qq : Int32} {al va : UInt64} (H : own_HB cn mm ng rs ta bs bq tb pp qq) (v r : Int32) (hv : 0 ≤ v.toInt ∧ v.toInt < cn.toInt) (hr : 0 ≤ r.toInt ∧ r.toInt ≤ 7) (h : pp.toNatClampNeg = ((ta + v) + r * rs).toNatClampNeg) :
    FP.dmul al (own_upd (fun _ => 0 : Nat → UInt64) qq va ((tb + v * bs) + r * bq).toNatClampNeg) = own_exp cn mm ng ta tb bs bq pp qq al va := by
  have hH := H
  obtain ⟨h1, h2, h3, h4, ⟨O, o1, o2, o3⟩, -, -, -, ⟨p1, p2⟩, ⟨q1, q2⟩⟩ := hH
  obtain ⟨e, e1, e2⟩ := own_ix H hv hr
  have hp0 : ¬ pp < 0 := by rw [Int32.lt_iff_toInt_lt]; have : (0 : Int32).toInt = 0 := by decide
                            omega
  have hq0 : ¬ qq < 0 := by rw [Int32.lt_iff_toInt_lt]; have : (0 : Int32).toInt = 0 := by decide
                            omega
  have n1 := nat_of hp0
  have n2 := nat_of (own_i H v r hv hr).1
  have hpI : pp.toInt = ta.toInt + v.toInt + r.toInt * rs.toInt := by rw [n1, h, ← n2, e]
  obtain ⟨-, -, -, hu⟩ := own_QV H (by omega)
  obtain ⟨u1, u2⟩ := hu v.toInt r.toInt hv.1 (by omega) (by omega) (by omega) (by omega)
  have eR : own_R mm ng ta pp = r := Int32.toInt_inj.mp u1
  have eV : own_dd mm ta pp % mm = v := Int32.toInt_inj.mp u2
  have l0 : (0 : Int32).toInt = 0 := by decide
  have l7 : (7 : Int32).toInt = 7 := by decide
  unfold own_exp
  rw [eR, eV, if_neg (by intro z; rw [z] at hv; omega), if_neg (by rw [Int32.lt_iff_toInt_lt]; omega), if_neg (by rw [Int32.lt_iff_toInt_lt]; omega), if_pos (by rw [Int32.lt_iff_toInt_lt]; omega)]
  congr 1
  unfold own_upd
  have n3 := nat_of (own_j H v r hv hr).1
  have n4 := nat_of hq0
  by_cases hq : ((tb + v * bs) + r * bq) = qq
  · rw [if_pos (by rw [hq]), if_pos hq]
  · rw [if_neg, if_neg hq]
    intro z
    exact hq (Int32.toInt_inj.mp (by rw [n3, n4, z]))
theorem own_hit0 {cn mm ng rs ta bs bq tb pp qq : Int32} {al va : UInt64} (H : own_HB cn mm ng rs ta bs bq tb pp qq) (v : Int32) (hv : 0 ≤ v.toInt ∧ v.toInt < cn.toInt) (h : pp.toNatClampNeg = (ta + v).toNatClampNeg) :
    FP.dmul al (own_upd (fun _ => 0 : Nat → UInt64) qq va (tb + v * bs).toNatClampNeg) = own_exp cn mm ng ta tb bs bq pp qq al va := by
  have := own_hit (al := al) (va := va) H v 0 hv (by decide) (by rw [own_r0]; exact h)
  rw [own_r0] at this
  exact this
theorem own_hit1 {cn mm ng rs ta bs bq tb pp qq : Int32} {al va : UInt64} (H : own_HB cn mm ng rs ta bs bq tb pp qq) (v : Int32) (hv : 0 ≤ v.toInt ∧ v.toInt < cn.toInt) (h : pp.toNatClampNeg = ((ta + v) + rs).toNatClampNeg) :
    FP.dmul al (own_upd (fun _ => 0 : Nat → UInt64) qq va ((tb + v * bs) + bq).toNatClampNeg) = own_exp cn mm ng ta tb bs bq pp qq al va := by
  have := own_hit (al := al) (va := va) H v 1 hv (by decide) (by rw [own_r1]; exact h)
  rw [own_r1] at this
  exact this
theorem own_miss {cn mm ng rs ta bs bq tb pp qq : Int32} {al va : UInt64} (H : own_HB cn mm ng rs ta bs bq tb pp qq) (h : ∀ v r : Int32, 0 ≤ v.toInt → v.toInt < cn.toInt → 0 ≤ r.toInt → r.toInt ≤ 7 → ¬ pp.toNatClampNeg = ((ta + v) + r * rs).toNatClampNeg) :
    (4602678819172646912 : UInt64) = own_exp cn mm ng ta tb bs bq pp qq al va := by
  unfold own_exp
  by_cases c0 : cn = (0 : Int32)
  · rw [if_pos c0]
  rw [if_neg c0]
  by_cases c1 : own_R mm ng ta pp < (0 : Int32)
  · rw [if_pos c1]
  rw [if_neg c1]
  by_cases c2 : (7 : Int32) < own_R mm ng ta pp
  · rw [if_pos c2]
  rw [if_neg c2]
  by_cases c3 : (own_dd mm ta pp % mm) < cn
  · exfalso
    have hcn : 0 < cn.toInt := by
      have : cn.toInt ≠ 0 := fun z => c0 (Int32.toInt_inj.mp (z.trans (by decide)))
      have := H.1
      omega
    obtain ⟨a1, a2, a3, -⟩ := own_QV H hcn
    rw [Int32.lt_iff_toInt_lt] at c1 c2 c3
    have l0 : (0 : Int32).toInt = 0 := by decide
    have l7 : (7 : Int32).toInt = 7 := by decide
    have hv : 0 ≤ (own_dd mm ta pp % mm).toInt ∧ (own_dd mm ta pp % mm).toInt < cn.toInt := ⟨a2, c3⟩
    have hr : 0 ≤ (own_R mm ng ta pp).toInt ∧ (own_R mm ng ta pp).toInt ≤ 7 := by omega
    refine h _ _ hv.1 hv.2 hr.1 hr.2 ?_
    obtain ⟨e, e1, e2⟩ := own_ix H hv hr
    have e' : ((ta + (own_dd mm ta pp % mm)) + own_R mm ng ta pp * rs).toInt = pp.toInt := by rw [e]; omega
    rw [Int32.toInt_inj.mp e']
  · rw [if_neg c3]
theorem own_updE {u : Nat → UInt64} {j : Int32} {x E : UInt64} {i : Nat} (h1 : i = j.toNatClampNeg → x = E) (h2 : ¬ i = j.toNatClampNeg → u i = E) : own_upd u j x i = E := by
  unfold own_upd
  by_cases h : i = j.toNatClampNeg
  · rw [if_pos h]; exact h1 h
  · rw [if_neg h]; exact h2 h
theorem own_half {pp : Int32} : own_upd (fun _ => 0 : Nat → UInt64) pp (4602678819172646912 : UInt64) pp.toNatClampNeg = (4602678819172646912 : UInt64) := if_pos rfl
theorem own_turn {cn mm ng rs ta bs bq tb pp qq : Int32} {al va : UInt64} {u : Nat → UInt64} (H : own_HB cn mm ng rs ta bs bq tb pp qq) (v : Int32) (hv : 0 ≤ v.toInt ∧ v.toInt < cn.toInt)
    (h : (∀ r : Int32, 0 ≤ r.toInt → r.toInt ≤ 7 → ¬ pp.toNatClampNeg = ((ta + v) + r * rs).toNatClampNeg) → u pp.toNatClampNeg = own_exp cn mm ng ta tb bs bq pp qq al va) :
    own_T u al (own_upd (fun _ => 0 : Nat → UInt64) qq va) (ta + v) (tb + (v * bs)) rs bq pp.toNatClampNeg = own_exp cn mm ng ta tb bs bq pp qq al va := by
  unfold own_T
  refine own_updE (fun z => own_hit H v 7 hv (by decide) z) fun z7 => ?_
  refine own_updE (fun z => own_hit H v 6 hv (by decide) z) fun z6 => ?_
  refine own_updE (fun z => own_hit H v 5 hv (by decide) z) fun z5 => ?_
  refine own_updE (fun z => own_hit H v 4 hv (by decide) z) fun z4 => ?_
  refine own_updE (fun z => own_hit H v 3 hv (by decide) z) fun z3 => ?_
  refine own_updE (fun z => own_hit H v 2 hv (by decide) z) fun z2 => ?_
  refine own_updE (fun z => own_hit1 H v hv z) fun z1 => ?_
  refine own_updE (fun z => own_hit0 H v hv z) fun z0 => ?_
  refine h fun r r0 r7 => ?_
  have hr : r = 0 ∨ r = 1 ∨ r = 2 ∨ r = 3 ∨ r = 4 ∨ r = 5 ∨ r = 6 ∨ r = 7 := by
    have k : ∀ (n : Int32) (i : Int), n.toInt = i → r.toInt = i → r = n := fun n i e1 e2 => Int32.toInt_inj.mp (e2.trans e1.symm)
    have : r.toInt = 0 ∨ r.toInt = 1 ∨ r.toInt = 2 ∨ r.toInt = 3 ∨ r.toInt = 4 ∨ r.toInt = 5 ∨ r.toInt = 6 ∨ r.toInt = 7 := by omega
    rcases this with q | q | q | q | q | q | q | q
    · exact Or.inl (k 0 0 (by decide) q)
    · exact Or.inr (Or.inl (k 1 1 (by decide) q))
    · exact Or.inr (Or.inr (Or.inl (k 2 2 (by decide) q)))
    · exact Or.inr (Or.inr (Or.inr (Or.inl (k 3 3 (by decide) q))))
    · exact Or.inr (Or.inr (Or.inr (Or.inr (Or.inl (k 4 4 (by decide) q)))))
    · exact Or.inr (Or.inr (Or.inr (Or.inr (Or.inr (Or.inl (k 5 5 (by decide) q))))))
    · exact Or.inr (Or.inr (Or.inr (Or.inr (Or.inr (Or.inr (Or.inl (k 6 6 (by decide) q)))))))
    · exact Or.inr (Or.inr (Or.inr (Or.inr (Or.inr (Or.inr (Or.inr (k 7 7 (by decide) q)))))))
  rcases hr with rfl | rfl | rfl | rfl | rfl | rfl | rfl | rfl
  · rw [own_r0]; exact z0
  · rw [own_r1]; exact z1
  · exact z2
  · exact z3
  · exact z4
  · exact z5
  · exact z6
  · exact z7
theorem own_vs {v : Int32} {N : Nat} (hN : N ≤ 3) (h0 : 0 ≤ v.toInt) (h1 : v.toInt < N) : (v = 0 ∧ 0 < N) ∨ (v = 1 ∧ 1 < N) ∨ (v = 2 ∧ 2 < N) := by
  have k : ∀ (n : Int32) (i : Int), n.toInt = i → v.toInt = i → v = n := fun n i e1 e2 => Int32.toInt_inj.mp (e2.trans e1.symm)
  have : v.toInt = 0 ∨ v.toInt = 1 ∨ v.toInt = 2 := by omega
  rcases this with q | q | q
  · exact Or.inl ⟨k 0 0 (by decide) q, by omega⟩
  · exact Or.inr (Or.inl ⟨k 1 1 (by decide) q, by omega⟩)
  · exact Or.inr (Or.inr ⟨k 2 2 (by decide) q, by omega⟩)
def own_ur0 (pp : Int32) : Nat → UInt64 := own_upd (fun _ => 0 : Nat → UInt64) pp (4602678819172646912 : UInt64)
def own_ub0 (qq : Int32) (va : UInt64) : Nat → UInt64 := own_upd (fun _ => 0 : Nat → UInt64) qq va
theorem own_f0 {mm ng rs ta bs bq tb pp qq : Int32} {al va : UInt64} (H : own_HB 0 mm ng rs ta bs bq tb pp qq) : own_ur0 pp pp.toNatClampNeg = own_exp 0 mm ng ta tb bs bq pp qq al va :=
  (own_half (pp := pp)).trans (own_miss H fun v r a b _ _ => absurd b (by have : (0 : Int32).toInt = 0 := by decide
                                                                          omega))
theorem own_f1 {mm ng rs ta bs bq tb pp qq : Int32} {al va : UInt64} (H : own_HB 1 mm ng rs ta bs bq tb pp qq) : own_T (own_ur0 pp) al (own_ub0 qq va) (ta + (0 : Int32)) (tb + ((0 : Int32) * bs)) rs bq pp.toNatClampNeg = own_exp 1 mm ng ta tb bs bq pp qq al va := by
  refine own_turn H 0 (by decide) fun z0 => (own_half (pp := pp)).trans (own_miss H fun v r a b c d => ?_)
  rcases own_vs (N := 1) (by decide) a b with ⟨rfl, -⟩ | ⟨rfl, h⟩ | ⟨rfl, h⟩
  · exact z0 r c d
  · omega
  · omega
theorem own_f2 {mm ng rs ta bs bq tb pp qq : Int32} {al va : UInt64} (H : own_HB 2 mm ng rs ta bs bq tb pp qq) : own_T (own_T (own_ur0 pp) al (own_ub0 qq va) (ta + (0 : Int32)) (tb + ((0 : Int32) * bs)) rs bq) al (own_ub0 qq va) (ta + (1 : Int32)) (tb + ((1 : Int32) * bs)) rs bq pp.toNatClampNeg = own_exp 2 mm ng ta tb bs bq pp qq al va := by
  refine own_turn H 1 (by decide) fun z1 => own_turn H 0 (by decide) fun z0 => (own_half (pp := pp)).trans (own_miss H fun v r a b c d => ?_)
  rcases own_vs (N := 2) (by decide) a b with ⟨rfl, -⟩ | ⟨rfl, h⟩ | ⟨rfl, h⟩
  · exact z0 r c d
  · exact z1 r c d
  · omega
theorem own_f3 {mm ng rs ta bs bq tb pp qq : Int32} {al va : UInt64} (H : own_HB 3 mm ng rs ta bs bq tb pp qq) : own_T (own_T (own_T (own_ur0 pp) al (own_ub0 qq va) (ta + (0 : Int32)) (tb + ((0 : Int32) * bs)) rs bq) al (own_ub0 qq va) (ta + (1 : Int32)) (tb + ((1 : Int32) * bs)) rs bq) al (own_ub0 qq va) (ta + (2 : Int32)) (tb + ((2 : Int32) * bs)) rs bq pp.toNatClampNeg = own_exp 3 mm ng ta tb bs bq pp qq al va := by
  refine own_turn H 2 (by decide) fun z2 => own_turn H 1 (by decide) fun z1 => own_turn H 0 (by decide) fun z0 => (own_half (pp := pp)).trans (own_miss H fun v r a b c d => ?_)
  rcases own_vs (N := 3) (by decide) a b with ⟨rfl, -⟩ | ⟨rfl, h⟩ | ⟨rfl, h⟩
  · exact z0 r c d
  · exact z1 r c d
  · exact z2 r c d
theorem own_n4 {p n : Int32} (h : (p &&& (3 : Int32)) = n) : n = 0 ∨ n = 1 ∨ n = 2 ∨ n = 3 := by
  have h1 := c_mask p 3 2 (by decide) (by decide)
  rw [h] at h1
  have h2 : n.toInt = 0 ∨ n.toInt = 1 ∨ n.toInt = 2 ∨ n.toInt = 3 := by omega
  rcases h2 with h2 | h2 | h2 | h2
  · exact Or.inl (Int32.toInt_inj.mp (h2.trans (by decide)))
  · exact Or.inr (Or.inl (Int32.toInt_inj.mp (h2.trans (by decide))))
  · exact Or.inr (Or.inr (Or.inl (Int32.toInt_inj.mp (h2.trans (by decide)))))
  · exact Or.inr (Or.inr (Or.inr (Int32.toInt_inj.mp (h2.trans (by decide)))))
theorem own_halffin : Fin64 (4602678819172646912 : UInt64) := by unfold Fin64; decide +kernel
theorem own_zfin : Fin64 (0 : UInt64) := by unfold Fin64; decide +kernel
theorem own_ubfin (qq : Int32) (w : Int32) (i : Nat) : Fin64 (own_ub0 qq (FP.i2d w) i) := by
  unfold own_ub0 own_upd
  split
  · exact i2d_fin w
  · exact own_zfin
theorem own_expnn (cn mm ng ta tb bs bq pp qq u w : Int32) : NoNaN64 (own_exp cn mm ng ta tb bs bq pp qq (FP.i2d u) (FP.i2d w)) := by
  unfold own_exp
  repeat' split
  all_goals first | exact own_halffin.noNaN | exact dmul_out (i2d_fin u) (i2d_fin w) | exact dmul_out (i2d_fin u) own_zfin
theorem own_mne {cn mm ng rs ta bs bq tb pp qq : Int32} (H : own_HB cn mm ng rs ta bs bq tb pp qq) (h : ¬ cn = 0) : mm ≠ 0 := by
  intro z
  have h1 := H.1
  have h3 := H.2.2.1
  rw [z] at h3
  have l0 : (0 : Int32).toInt = 0 := by decide
  have : cn.toInt ≠ 0 := fun q => h (Int32.toInt_inj.mp (q.trans (by decide)))
  omega
end OwnRows
theorem pn_0 : plainName "java/lang/Record" = true := by first | (simp [plainName, overriddenIn]; done) | decide +kernel
theorem d2_0 : decode jdk_30_method_1_code 0 = .ok (.aload_n 0, 1) := by decide +kernel
theorem d2_1 : decode jdk_30_method_1_code 1 = .ok (.invokespecial 1, 3) := by decide +kernel
theorem d2_4 : decode jdk_30_method_1_code 4 = .ok (.return_, 1) := by decide +kernel
theorem ef_rmR (m : MethodId) (x0 : Addr) : entryFrame m #[(.ref x0)] 1 = mkF m 0 #[.val (.ref x0)] [] := by first | (simp [entryFrame, mkF, argsToLocals, Value.category]; done) | rfl
def QrmR (Z : State) (a : Addr) (h0 : Heap) (n0 : Nat) (v : Option Value) (h : Heap) (L : List Loc) : Prop := v = none ∧ Fr n0 L ∧ h = h0
set_option maxRecDepth 65536 in
set_option maxHeartbeats 40000000 in
theorem rmR (l : Launch) (Z : State) (a0 : Array Value) (hw : ∀ d ∈ tables_1, d.before a0 Z = true) (ws : List Jvm.Cond) (a : Addr) (h0 : Heap) (n0 : Nat) (Z0 : n0 ≤ h0.size) :
    MetFree l (⟨"java/lang/Record", "<init>", "()V"⟩ : MethodName) (head1 (Jvm.Cond.code (⟨"java/lang/Record", "<init>", "()V"⟩ : MethodName) jdk_30_method_1_code 1 none :: ws) ({ frames := 1, cells := 0, slots := 0, locals := 12 } : Room)) (fun aq Uq => aq = #[(.ref a)] ∧ Z.Warmed39 Uq.vm ∧ Uq.heap = h0) (fun _ _ _ _ _ => True) (fun _ Uq oq Uq' => ∃ vq Lq, oq = .returned vq ∧ QrmR Z a h0 n0 vq Uq'.heap Lq ∧ FrameEnd Uq oq Uq' Lq ({ frames := 1, cells := 0, slots := 0, locals := 12 } : Room).cells ({ frames := 1, cells := 0, slots := 0, locals := 12 } : Room).slots) := by
  refine MetFree.of_bodySF (plainFor_of_name pn_0) hisR ?_
  intro p e s m args below meth c s₁ Bd hml0 hP hK
  obtain ⟨rfl, hZ, hh⟩ := hP
  have hx := Bd.exec
  have hby := Bd.bytes
  have hml : c.maxLocals = 1 := hml0
  have hown : s.vm.findClass "java/lang/Record" = some m.cls := findClass_of_methodNamed Bd.named
  have hnm := (name_of_methodNamed Bd.named Bd.method).1
  have X0 : Stand p l e ({ frames := 1, cells := 0, slots := 0, locals := 12 } : Room) s m #[(.ref a)] below meth c s₁ [] 0 0 := Stand.of_body Bd
  have e0 : s₁.heap = h0 := by rw [← hh, Bd.state]; rfl
  have N0 := Fr.nil n0
  have ZH := Z0
  have KK := Keep.refl h0 []
  refine own_start (fun t k => castTop (ef_rmR m a) k) ?_
  show own_Go p.tables e below _ (s₁.setTop (mkF m 0 #[.val (.ref a)] []))
  refine own_up (fun _ k => XS.aloadN X0.here hx rfl (hb hby d2_0) rfl rfl k) ?_
  show own_Go p.tables e below _ (s₁.setTop (mkF m 1 #[.val (.ref a)] [(.ref a)]))
  obtain ⟨T1, X1, e1, st1⟩ := initO X0 hx hZ hown (hw _ (List.mem_of_getElem? (i := 14) rfl)) (hw _ (List.mem_of_getElem? (i := 15) rfl)) (hw _ (List.mem_of_getElem? (i := 16) rfl)) e0 (g := (mkF m 1 #[.val (.ref a)] [(.ref a)])) rfl (by rw [hml]; rfl) rfl (hb hby d2_1) (by decide) (W := 0) (by show 2 * 0 + _ ≤ _; exact Nat.le_of_eq rfl) (by decide)
  refine own_up st1 ?_
  show own_Go p.tables e below _ (T1.setTop (mkF m 4 #[.val (.ref a)] []))
  obtain ⟨fs2, hr2, hrun2, hended2, hW2, hsame2⟩ := X1.leave (v := none) (fun _ => rfl)
  refine own_end ⟨_, _, ?_, hrun2, hended2, _, _, rfl, ?_, ⟨_, rfl⟩, hW2, hsame2.mono (by decide) (by decide)⟩
  · exact X1.returnOut hx Bd.returns (hb hby d2_4) hr2
  · show QrmR Z a h0 n0 _ T1.heap _
    rw [e1]
    exact ⟨rfl, N0, rfl⟩
theorem pn_1 : plainName "com/example/indexica/indexica/Scaled" = true := by first | (simp [plainName, overriddenIn]; done) | decide +kernel
theorem d1_0 : decode prog_84_method_1_code 0 = .ok (.aload_n 0, 1) := by decide +kernel
theorem d1_1 : decode prog_84_method_1_code 1 = .ok (.invokespecial 1, 3) := by decide +kernel
theorem pd_0 : parseMethodDescriptor "()V" = some ⟨[], none⟩ := by decide +kernel
theorem d1_4 : decode prog_84_method_1_code 4 = .ok (.aload_n 0, 1) := by decide +kernel
theorem d1_5 : decode prog_84_method_1_code 5 = .ok (.dload_n 1, 1) := by decide +kernel
theorem d1_6 : decode prog_84_method_1_code 6 = .ok (.putfield 7, 3) := by decide +kernel
theorem d1_9 : decode prog_84_method_1_code 9 = .ok (.return_, 1) := by decide +kernel
theorem ef_rmC (m : MethodId) (x0 : Addr) (x1 : UInt64) : entryFrame m #[(.ref x0), (.double x1)] 3 = mkF m 0 #[.val (.ref x0), .val (.double x1), .second] [] := by first | (simp [entryFrame, mkF, argsToLocals, Value.category]; done) | rfl
def QrmC (Z : State) (a : Addr) (al : UInt64) (h0 : Heap) (n0 : Nat) (v : Option Value) (h : Heap) (L : List Loc) : Prop := v = none ∧ Fr n0 L ∧ Keep h0 h [a] ∧ Fld Z h a "com/example/indexica/indexica/Scaled" "alpha" "D" (.double al)
set_option maxRecDepth 65536 in
set_option maxHeartbeats 40000000 in
theorem rmC (l : Launch) (Z : State) (a0 : Array Value) (hw : ∀ d ∈ tables_1, d.before a0 Z = true) (ws : List Jvm.Cond) (a : Addr) (al : UInt64) (h0 : Heap) (n0 : Nat) (Z0 : n0 ≤ h0.size) (E_a : Exa Z h0 a "com/example/indexica/indexica/Scaled") (F_alpha_a : Fld Z h0 a "com/example/indexica/indexica/Scaled" "alpha" "D" (.double (0 : UInt64))) (g_a : n0 ≤ a) :
    MetFree l (⟨"com/example/indexica/indexica/Scaled", "<init>", "(D)V"⟩ : MethodName) (head1 (Jvm.Cond.code (⟨"com/example/indexica/indexica/Scaled", "<init>", "(D)V"⟩ : MethodName) prog_84_method_1_code 3 none :: ws) ({ frames := 2, cells := 0, slots := 0, locals := 24 } : Room)) (fun aq Uq => aq = #[(.ref a), (.double al)] ∧ Z.Warmed39 Uq.vm ∧ Uq.heap = h0) (fun _ _ _ _ _ => True) (fun _ Uq oq Uq' => ∃ vq Lq, oq = .returned vq ∧ QrmC Z a al h0 n0 vq Uq'.heap Lq ∧ FrameEnd Uq oq Uq' Lq ({ frames := 2, cells := 0, slots := 0, locals := 24 } : Room).cells ({ frames := 2, cells := 0, slots := 0, locals := 24 } : Room).slots) := by
  refine MetFree.of_bodySF (plainFor_of_name pn_1) hisR ?_
  intro p e s m args below meth c s₁ Bd hml0 hP hK
  obtain ⟨rfl, hZ, hh⟩ := hP
  have hx := Bd.exec
  have hby := Bd.bytes
  have hml : c.maxLocals = 3 := hml0
  have hown : s.vm.findClass "com/example/indexica/indexica/Scaled" = some m.cls := findClass_of_methodNamed Bd.named
  have hnm := (name_of_methodNamed Bd.named Bd.method).1
  have X0 : Stand p l e ({ frames := 2, cells := 0, slots := 0, locals := 24 } : Room) s m #[(.ref a), (.double al)] below meth c s₁ [] 0 0 := Stand.of_body Bd
  have e0 : s₁.heap = h0 := by rw [← hh, Bd.state]; rfl
  have N0 := Fr.nil n0
  have ZH := Z0
  have KK := Keep.refl h0 [a]
  refine own_start (fun t k => castTop (ef_rmC m a al) k) ?_
  show own_Go p.tables e below _ (s₁.setTop (mkF m 0 #[.val (.ref a), .val (.double al), .second] []))
  refine own_up (fun _ k => XS.aloadN X0.here hx rfl (hb hby d1_0) rfl rfl k) ?_
  show own_Go p.tables e below _ (s₁.setTop (mkF m 1 #[.val (.ref a), .val (.double al), .second] [(.ref a)]))
  obtain ⟨_, _, ⟨T1, L1, k1, n1⟩, -, X1, ⟨Lc1, hQ1, l1, y1, z1⟩, st1⟩ := X0.specialBack hx (y := (⟨"java/lang/Record", "<init>", "()V"⟩ : MethodName)) rfl hown (mvT hZ (hw _ (List.mem_of_getElem? (i := 9) rfl))) (mvT hZ (hw _ (List.mem_of_getElem? (i := 10) rfl))) (mvT hZ (hw _ (List.mem_of_getElem? (i := 13) rfl))) (by decide) (backOf (W := 0) (rmR l Z a0 hw [] a h0 n0 Z0) hZ (hw _ (List.mem_of_getElem? (i := 13) rfl)) (hw _ (List.mem_of_getElem? (i := 12) rfl)) (by decide) (by decide)) (g := (mkF m 1 #[.val (.ref a), .val (.double al), .second] [(.ref a)])) rfl (by rw [hml]; rfl) (Steps.refl _) (a := a) (argsL := []) (rest := []) (lenOf pd_0 rfl) rfl (by show 2 * 0 + _ ≤ _; exact Nat.le_of_eq rfl) (hb hby d1_1) (fun _ _ => ⟨rfl, e0, (by decide : 0 + 0 ≤ _), (by decide : 0 + 0 ≤ _)⟩)
  dsimp only [Pt.U, Pt.locs, Pt.cells, Pt.slots] at X1 l1 y1 z1 st1 hQ1
  subst l1 y1 z1
  obtain ⟨rfl, Nq1, e1⟩ := hQ1
  have N1 := Fr.app N0 Nq1
  refine own_up (fun _ k => st1.trans k) ?_
  show own_Go p.tables e below _ (T1.setTop (mkF m 4 #[.val (.ref a), .val (.double al), .second] []))
  refine own_up (fun _ k => XS.aloadN X1.here hx rfl (hb hby d1_4) rfl rfl k) ?_
  show own_Go p.tables e below _ (T1.setTop (mkF m 5 #[.val (.ref a), .val (.double al), .second] [(.ref a)]))
  refine own_up (fun _ k => XS.dloadN X1.here hx rfl (hb hby d1_5) rfl k) ?_
  show own_Go p.tables e below _ (T1.setTop (mkF m 6 #[.val (.ref a), .val (.double al), .second] [(.double al), (.ref a)]))
  obtain ⟨T2, h2, X2, e2, W2, st2⟩ := putF X1 hx hZ hown (host := "") (Or.inl (hw _ (List.mem_of_getElem? (i := 17) rfl))) Via.refl e1 F_alpha_a E_a (Or.inr ⟨(hw _ (List.mem_of_getElem? (i := 18) rfl)), rfl, hnm⟩) (hw _ (List.mem_of_getElem? (i := 4) rfl)) (ty := .double) (by decide) rfl rfl (g := (mkF m 6 #[.val (.ref a), .val (.double al), .second] [(.double al), (.ref a)])) rfl rfl (hb hby d1_6)
  have N2 := Fr.snoc X2 N1 g_a
  have F_alpha_a := F_alpha_a.same W2
  have E_a := E_a.wr W2
  have ZH := Nat.le_trans ZH (Nat.le_of_eq W2.size.symm)
  have KK := KK.wr W2 (Or.inl (List.mem_of_getElem? (i := 0) rfl))
  refine own_up st2 ?_
  show own_Go p.tables e below _ (T2.setTop (mkF m 9 #[.val (.ref a), .val (.double al), .second] []))
  obtain ⟨fs3, hr3, hrun3, hended3, hW3, hsame3⟩ := X2.leave (v := none) (fun _ => rfl)
  refine own_end ⟨_, _, ?_, hrun3, hended3, _, _, rfl, ?_, ⟨_, rfl⟩, hW3, hsame3.mono (by decide) (by decide)⟩
  · exact X2.returnOut hx Bd.returns (hb hby d1_9) hr3
  · show QrmC Z a al h0 n0 _ T2.heap _
    rw [e2]
    exact ⟨rfl, N2, KK, F_alpha_a⟩
theorem d4_9 : decode prog_84_method_3_code 9 = .ok (.iload 12, 2) := by decide +kernel
theorem d4_11 : decode prog_84_method_3_code 11 = .ok (.iload 9, 2) := by decide +kernel
theorem d4_13 : decode prog_84_method_3_code 13 = .ok (.if_icmp .ge 184, 3) := by decide +kernel
theorem d4_16 : decode prog_84_method_3_code 16 = .ok (.iload 4, 2) := by decide +kernel
theorem d4_18 : decode prog_84_method_3_code 18 = .ok (.iload 12, 2) := by decide +kernel
theorem d4_20 : decode prog_84_method_3_code 20 = .ok (.iadd, 1) := by decide +kernel
theorem d4_21 : decode prog_84_method_3_code 21 = .ok (.istore 13, 2) := by decide +kernel
theorem d4_23 : decode prog_84_method_3_code 23 = .ok (.iload 6, 2) := by decide +kernel
theorem d4_25 : decode prog_84_method_3_code 25 = .ok (.iload 12, 2) := by decide +kernel
theorem d4_27 : decode prog_84_method_3_code 27 = .ok (.iload 7, 2) := by decide +kernel
theorem d4_29 : decode prog_84_method_3_code 29 = .ok (.imul, 1) := by decide +kernel
theorem d4_30 : decode prog_84_method_3_code 30 = .ok (.iadd, 1) := by decide +kernel
theorem d4_31 : decode prog_84_method_3_code 31 = .ok (.istore 14, 2) := by decide +kernel
theorem d4_33 : decode prog_84_method_3_code 33 = .ok (.aload_n 3, 1) := by decide +kernel
theorem d4_34 : decode prog_84_method_3_code 34 = .ok (.iload 13, 2) := by decide +kernel
theorem d4_36 : decode prog_84_method_3_code 36 = .ok (.dload 10, 2) := by decide +kernel
theorem d4_38 : decode prog_84_method_3_code 38 = .ok (.aload_n 2, 1) := by decide +kernel
theorem d4_39 : decode prog_84_method_3_code 39 = .ok (.iload 14, 2) := by decide +kernel
theorem d4_41 : decode prog_84_method_3_code 41 = .ok (.daload, 1) := by decide +kernel
theorem d4_42 : decode prog_84_method_3_code 42 = .ok (.dmul, 1) := by decide +kernel
theorem d4_43 : decode prog_84_method_3_code 43 = .ok (.dastore, 1) := by decide +kernel
theorem d4_44 : decode prog_84_method_3_code 44 = .ok (.aload_n 3, 1) := by decide +kernel
theorem d4_45 : decode prog_84_method_3_code 45 = .ok (.iload 13, 2) := by decide +kernel
theorem d4_47 : decode prog_84_method_3_code 47 = .ok (.iload 5, 2) := by decide +kernel
theorem d4_49 : decode prog_84_method_3_code 49 = .ok (.iadd, 1) := by decide +kernel
theorem d4_50 : decode prog_84_method_3_code 50 = .ok (.dload 10, 2) := by decide +kernel
theorem d4_52 : decode prog_84_method_3_code 52 = .ok (.aload_n 2, 1) := by decide +kernel
theorem d4_53 : decode prog_84_method_3_code 53 = .ok (.iload 14, 2) := by decide +kernel
theorem d4_55 : decode prog_84_method_3_code 55 = .ok (.iload 8, 2) := by decide +kernel
theorem d4_57 : decode prog_84_method_3_code 57 = .ok (.iadd, 1) := by decide +kernel
theorem d4_58 : decode prog_84_method_3_code 58 = .ok (.daload, 1) := by decide +kernel
theorem d4_59 : decode prog_84_method_3_code 59 = .ok (.dmul, 1) := by decide +kernel
theorem d4_60 : decode prog_84_method_3_code 60 = .ok (.dastore, 1) := by decide +kernel
theorem d4_61 : decode prog_84_method_3_code 61 = .ok (.aload_n 3, 1) := by decide +kernel
theorem d4_62 : decode prog_84_method_3_code 62 = .ok (.iload 13, 2) := by decide +kernel
theorem d4_64 : decode prog_84_method_3_code 64 = .ok (.iconst 2, 1) := by decide +kernel
theorem d4_65 : decode prog_84_method_3_code 65 = .ok (.iload 5, 2) := by decide +kernel
theorem d4_67 : decode prog_84_method_3_code 67 = .ok (.imul, 1) := by decide +kernel
theorem d4_68 : decode prog_84_method_3_code 68 = .ok (.iadd, 1) := by decide +kernel
theorem d4_69 : decode prog_84_method_3_code 69 = .ok (.dload 10, 2) := by decide +kernel
theorem d4_71 : decode prog_84_method_3_code 71 = .ok (.aload_n 2, 1) := by decide +kernel
theorem d4_72 : decode prog_84_method_3_code 72 = .ok (.iload 14, 2) := by decide +kernel
theorem d4_74 : decode prog_84_method_3_code 74 = .ok (.iconst 2, 1) := by decide +kernel
theorem d4_75 : decode prog_84_method_3_code 75 = .ok (.iload 8, 2) := by decide +kernel
theorem d4_77 : decode prog_84_method_3_code 77 = .ok (.imul, 1) := by decide +kernel
theorem d4_78 : decode prog_84_method_3_code 78 = .ok (.iadd, 1) := by decide +kernel
theorem d4_79 : decode prog_84_method_3_code 79 = .ok (.daload, 1) := by decide +kernel
theorem d4_80 : decode prog_84_method_3_code 80 = .ok (.dmul, 1) := by decide +kernel
theorem d4_81 : decode prog_84_method_3_code 81 = .ok (.dastore, 1) := by decide +kernel
theorem d4_82 : decode prog_84_method_3_code 82 = .ok (.aload_n 3, 1) := by decide +kernel
theorem d4_83 : decode prog_84_method_3_code 83 = .ok (.iload 13, 2) := by decide +kernel
theorem d4_85 : decode prog_84_method_3_code 85 = .ok (.iconst 3, 1) := by decide +kernel
theorem d4_86 : decode prog_84_method_3_code 86 = .ok (.iload 5, 2) := by decide +kernel
theorem d4_88 : decode prog_84_method_3_code 88 = .ok (.imul, 1) := by decide +kernel
theorem d4_89 : decode prog_84_method_3_code 89 = .ok (.iadd, 1) := by decide +kernel
theorem d4_90 : decode prog_84_method_3_code 90 = .ok (.dload 10, 2) := by decide +kernel
theorem d4_92 : decode prog_84_method_3_code 92 = .ok (.aload_n 2, 1) := by decide +kernel
theorem d4_93 : decode prog_84_method_3_code 93 = .ok (.iload 14, 2) := by decide +kernel
theorem d4_95 : decode prog_84_method_3_code 95 = .ok (.iconst 3, 1) := by decide +kernel
theorem d4_96 : decode prog_84_method_3_code 96 = .ok (.iload 8, 2) := by decide +kernel
theorem d4_98 : decode prog_84_method_3_code 98 = .ok (.imul, 1) := by decide +kernel
theorem d4_99 : decode prog_84_method_3_code 99 = .ok (.iadd, 1) := by decide +kernel
theorem d4_100 : decode prog_84_method_3_code 100 = .ok (.daload, 1) := by decide +kernel
theorem d4_101 : decode prog_84_method_3_code 101 = .ok (.dmul, 1) := by decide +kernel
theorem d4_102 : decode prog_84_method_3_code 102 = .ok (.dastore, 1) := by decide +kernel
theorem d4_103 : decode prog_84_method_3_code 103 = .ok (.aload_n 3, 1) := by decide +kernel
theorem d4_104 : decode prog_84_method_3_code 104 = .ok (.iload 13, 2) := by decide +kernel
theorem d4_106 : decode prog_84_method_3_code 106 = .ok (.iconst 4, 1) := by decide +kernel
theorem d4_107 : decode prog_84_method_3_code 107 = .ok (.iload 5, 2) := by decide +kernel
theorem d4_109 : decode prog_84_method_3_code 109 = .ok (.imul, 1) := by decide +kernel
theorem d4_110 : decode prog_84_method_3_code 110 = .ok (.iadd, 1) := by decide +kernel
theorem d4_111 : decode prog_84_method_3_code 111 = .ok (.dload 10, 2) := by decide +kernel
theorem d4_113 : decode prog_84_method_3_code 113 = .ok (.aload_n 2, 1) := by decide +kernel
theorem d4_114 : decode prog_84_method_3_code 114 = .ok (.iload 14, 2) := by decide +kernel
theorem d4_116 : decode prog_84_method_3_code 116 = .ok (.iconst 4, 1) := by decide +kernel
theorem d4_117 : decode prog_84_method_3_code 117 = .ok (.iload 8, 2) := by decide +kernel
theorem d4_119 : decode prog_84_method_3_code 119 = .ok (.imul, 1) := by decide +kernel
theorem d4_120 : decode prog_84_method_3_code 120 = .ok (.iadd, 1) := by decide +kernel
theorem d4_121 : decode prog_84_method_3_code 121 = .ok (.daload, 1) := by decide +kernel
theorem d4_122 : decode prog_84_method_3_code 122 = .ok (.dmul, 1) := by decide +kernel
theorem d4_123 : decode prog_84_method_3_code 123 = .ok (.dastore, 1) := by decide +kernel
theorem d4_124 : decode prog_84_method_3_code 124 = .ok (.aload_n 3, 1) := by decide +kernel
theorem d4_125 : decode prog_84_method_3_code 125 = .ok (.iload 13, 2) := by decide +kernel
theorem d4_127 : decode prog_84_method_3_code 127 = .ok (.iconst 5, 1) := by decide +kernel
theorem d4_128 : decode prog_84_method_3_code 128 = .ok (.iload 5, 2) := by decide +kernel
theorem d4_130 : decode prog_84_method_3_code 130 = .ok (.imul, 1) := by decide +kernel
theorem d4_131 : decode prog_84_method_3_code 131 = .ok (.iadd, 1) := by decide +kernel
theorem d4_132 : decode prog_84_method_3_code 132 = .ok (.dload 10, 2) := by decide +kernel
theorem d4_134 : decode prog_84_method_3_code 134 = .ok (.aload_n 2, 1) := by decide +kernel
theorem d4_135 : decode prog_84_method_3_code 135 = .ok (.iload 14, 2) := by decide +kernel
theorem d4_137 : decode prog_84_method_3_code 137 = .ok (.iconst 5, 1) := by decide +kernel
theorem d4_138 : decode prog_84_method_3_code 138 = .ok (.iload 8, 2) := by decide +kernel
theorem d4_140 : decode prog_84_method_3_code 140 = .ok (.imul, 1) := by decide +kernel
theorem d4_141 : decode prog_84_method_3_code 141 = .ok (.iadd, 1) := by decide +kernel
theorem d4_142 : decode prog_84_method_3_code 142 = .ok (.daload, 1) := by decide +kernel
theorem d4_143 : decode prog_84_method_3_code 143 = .ok (.dmul, 1) := by decide +kernel
theorem d4_144 : decode prog_84_method_3_code 144 = .ok (.dastore, 1) := by decide +kernel
theorem d4_145 : decode prog_84_method_3_code 145 = .ok (.aload_n 3, 1) := by decide +kernel
theorem d4_146 : decode prog_84_method_3_code 146 = .ok (.iload 13, 2) := by decide +kernel
theorem d4_148 : decode prog_84_method_3_code 148 = .ok (.bipush 6, 2) := by decide +kernel
theorem d4_150 : decode prog_84_method_3_code 150 = .ok (.iload 5, 2) := by decide +kernel
theorem d4_152 : decode prog_84_method_3_code 152 = .ok (.imul, 1) := by decide +kernel
theorem d4_153 : decode prog_84_method_3_code 153 = .ok (.iadd, 1) := by decide +kernel
theorem d4_154 : decode prog_84_method_3_code 154 = .ok (.dload 10, 2) := by decide +kernel
theorem d4_156 : decode prog_84_method_3_code 156 = .ok (.aload_n 2, 1) := by decide +kernel
theorem d4_157 : decode prog_84_method_3_code 157 = .ok (.iload 14, 2) := by decide +kernel
theorem d4_159 : decode prog_84_method_3_code 159 = .ok (.bipush 6, 2) := by decide +kernel
theorem d4_161 : decode prog_84_method_3_code 161 = .ok (.iload 8, 2) := by decide +kernel
theorem d4_163 : decode prog_84_method_3_code 163 = .ok (.imul, 1) := by decide +kernel
theorem d4_164 : decode prog_84_method_3_code 164 = .ok (.iadd, 1) := by decide +kernel
theorem d4_165 : decode prog_84_method_3_code 165 = .ok (.daload, 1) := by decide +kernel
theorem d4_166 : decode prog_84_method_3_code 166 = .ok (.dmul, 1) := by decide +kernel
theorem d4_167 : decode prog_84_method_3_code 167 = .ok (.dastore, 1) := by decide +kernel
theorem d4_168 : decode prog_84_method_3_code 168 = .ok (.aload_n 3, 1) := by decide +kernel
theorem d4_169 : decode prog_84_method_3_code 169 = .ok (.iload 13, 2) := by decide +kernel
theorem d4_171 : decode prog_84_method_3_code 171 = .ok (.bipush 7, 2) := by decide +kernel
theorem d4_173 : decode prog_84_method_3_code 173 = .ok (.iload 5, 2) := by decide +kernel
theorem d4_175 : decode prog_84_method_3_code 175 = .ok (.imul, 1) := by decide +kernel
theorem d4_176 : decode prog_84_method_3_code 176 = .ok (.iadd, 1) := by decide +kernel
theorem d4_177 : decode prog_84_method_3_code 177 = .ok (.dload 10, 2) := by decide +kernel
theorem d4_179 : decode prog_84_method_3_code 179 = .ok (.aload_n 2, 1) := by decide +kernel
theorem d4_180 : decode prog_84_method_3_code 180 = .ok (.iload 14, 2) := by decide +kernel
theorem d4_182 : decode prog_84_method_3_code 182 = .ok (.bipush 7, 2) := by decide +kernel
theorem d4_184 : decode prog_84_method_3_code 184 = .ok (.iload 8, 2) := by decide +kernel
theorem d4_186 : decode prog_84_method_3_code 186 = .ok (.imul, 1) := by decide +kernel
theorem d4_187 : decode prog_84_method_3_code 187 = .ok (.iadd, 1) := by decide +kernel
theorem d4_188 : decode prog_84_method_3_code 188 = .ok (.daload, 1) := by decide +kernel
theorem d4_189 : decode prog_84_method_3_code 189 = .ok (.dmul, 1) := by decide +kernel
theorem d4_190 : decode prog_84_method_3_code 190 = .ok (.dastore, 1) := by decide +kernel
theorem d4_191 : decode prog_84_method_3_code 191 = .ok (.iinc 12 1, 3) := by decide +kernel
theorem d4_194 : decode prog_84_method_3_code 194 = .ok (.goto (-185), 3) := by decide +kernel
set_option maxRecDepth 65536 in
set_option maxHeartbeats 40000000 in
theorem tnE {p : Program} {l : Launch} {e : Env} {R : Room} {s : State} {m : MethodId} {args : Array Value} {below : List Frame} {meth : Method} {c : Code} {T0 : State} {locs : List Loc} {cells slots : Nat} {Z : State} {a0 : Array Value} {h0 : Heap} {n0 : Nat} {P : State → Outcome → Prop} {ks : Addr} {aa : Addr} {bb : Addr} {rr : Addr} {ta : Int32} {rs : Int32} {tb : Int32} {bs : Int32} {bq : Int32} {cnt : Int32} {al : UInt64} {v : Int32} {x : Int32} {y : Int32} {s13 : Slot} {s14 : Slot} {ub : Nat → UInt64} {ur : Nat → UInt64}
    (X0 : Stand p l e R s m args below meth c T0 locs cells slots) (hx : p.tables.exec = Jvm.exec) (hZ : Z.Warmed39 s.vm) (hw : ∀ d ∈ tables_1, d.before a0 Z = true) (hby : c.code = prog_84_method_3_code) (hml : c.maxLocals = 15) (hown : s.vm.findClass "com/example/indexica/indexica/Scaled" = some m.cls) (e0 : T0.heap = h0) (N0 : Fr n0 locs) (Z0 : n0 ≤ h0.size) (G_bb : own_Arf Z h0 bb .double (128 : Int32) (fun i => .double (ub i))) (G_rr : own_Arf Z h0 rr .double (64 : Int32) (fun i => .double (ur i))) (g_rr : n0 ≤ rr) (ne_bb_rr : bb ≠ rr) (hs13 : One s13) (hs14 : One s14) (hv : v < cnt) (hxq : ta + v = x) (hyq : tb + v * bs = y) (hal : Fin64 al) (hub : ∀ i, Fin64 (ub i)) (i0 : ¬ x < 0 ∧ x < (64 : Int32)) (i1 : ¬ (x + rs) < 0 ∧ (x + rs) < (64 : Int32)) (i2 : ¬ (x + ((2 : Int32) * rs)) < 0 ∧ (x + ((2 : Int32) * rs)) < (64 : Int32)) (i3 : ¬ (x + ((3 : Int32) * rs)) < 0 ∧ (x + ((3 : Int32) * rs)) < (64 : Int32)) (i4 : ¬ (x + ((4 : Int32) * rs)) < 0 ∧ (x + ((4 : Int32) * rs)) < (64 : Int32)) (i5 : ¬ (x + ((5 : Int32) * rs)) < 0 ∧ (x + ((5 : Int32) * rs)) < (64 : Int32)) (i6 : ¬ (x + ((6 : Int32) * rs)) < 0 ∧ (x + ((6 : Int32) * rs)) < (64 : Int32)) (i7 : ¬ (x + ((7 : Int32) * rs)) < 0 ∧ (x + ((7 : Int32) * rs)) < (64 : Int32)) (j0 : ¬ y < 0 ∧ y < (128 : Int32)) (j1 : ¬ (y + bq) < 0 ∧ (y + bq) < (128 : Int32)) (j2 : ¬ (y + ((2 : Int32) * bq)) < 0 ∧ (y + ((2 : Int32) * bq)) < (128 : Int32)) (j3 : ¬ (y + ((3 : Int32) * bq)) < 0 ∧ (y + ((3 : Int32) * bq)) < (128 : Int32)) (j4 : ¬ (y + ((4 : Int32) * bq)) < 0 ∧ (y + ((4 : Int32) * bq)) < (128 : Int32)) (j5 : ¬ (y + ((5 : Int32) * bq)) < 0 ∧ (y + ((5 : Int32) * bq)) < (128 : Int32)) (j6 : ¬ (y + ((6 : Int32) * bq)) < 0 ∧ (y + ((6 : Int32) * bq)) < (128 : Int32)) (j7 : ¬ (y + ((7 : Int32) * bq)) < 0 ∧ (y + ((7 : Int32) * bq)) < (128 : Int32))
    (K : ∀ (T' : State) (h' : Heap) (locs' : List Loc), Stand p l e R s m args below meth c T' locs' cells slots → T'.heap = h' → Fr n0 locs' → (Keep h0 h' [rr]) → (own_Arf Z h' bb .double (128 : Int32) (fun i => .double (ub i))) → (own_Arf Z h' rr .double (64 : Int32) (fun i => .double (own_T ur al ub x y rs bq i))) → own_Go p.tables e below P (T'.setTop (mkF m 9 #[.val (.ref ks), .val (.ref aa), .val (.ref bb), .val (.ref rr), .val (.int ta), .val (.int rs), .val (.int tb), .val (.int bs), .val (.int bq), .val (.int cnt), .val (.double al), .second, .val (.int (v + (1 : Int32))), .val (.int x), .val (.int y)] []))) :
    own_Go p.tables e below P (T0.setTop (mkF m 9 #[.val (.ref ks), .val (.ref aa), .val (.ref bb), .val (.ref rr), .val (.int ta), .val (.int rs), .val (.int tb), .val (.int bs), .val (.int bq), .val (.int cnt), .val (.double al), .second, .val (.int v), s13, s14] [])) := by
  have ZH := Z0
  have KK := Keep.refl h0 [rr]
  refine own_up (fun _ k => XS.iload X0.here hx rfl (hb hby d4_9) rfl k) ?_
  show own_Go p.tables e below _ (T0.setTop (mkF m 11 #[.val (.ref ks), .val (.ref aa), .val (.ref bb), .val (.ref rr), .val (.int ta), .val (.int rs), .val (.int tb), .val (.int bs), .val (.int bq), .val (.int cnt), .val (.double al), .second, .val (.int v), s13, s14] [(.int v)]))
  refine own_up (fun _ k => XS.iload X0.here hx rfl (hb hby d4_11) rfl k) ?_
  show own_Go p.tables e below _ (T0.setTop (mkF m 13 #[.val (.ref ks), .val (.ref aa), .val (.ref bb), .val (.ref rr), .val (.int ta), .val (.int rs), .val (.int tb), .val (.int bs), .val (.int bq), .val (.int cnt), .val (.double al), .second, .val (.int v), s13, s14] [(.int cnt), (.int v)]))
  refine own_up (fun _ k => XS.icmpNo X0.here hx rfl (hb hby d4_13) rfl (tlt hv).2.1 k) ?_
  show own_Go p.tables e below _ (T0.setTop (mkF m 16 #[.val (.ref ks), .val (.ref aa), .val (.ref bb), .val (.ref rr), .val (.int ta), .val (.int rs), .val (.int tb), .val (.int bs), .val (.int bq), .val (.int cnt), .val (.double al), .second, .val (.int v), s13, s14] []))
  refine own_up (fun _ k => XS.iload X0.here hx rfl (hb hby d4_16) rfl k) ?_
  show own_Go p.tables e below _ (T0.setTop (mkF m 18 #[.val (.ref ks), .val (.ref aa), .val (.ref bb), .val (.ref rr), .val (.int ta), .val (.int rs), .val (.int tb), .val (.int bs), .val (.int bq), .val (.int cnt), .val (.double al), .second, .val (.int v), s13, s14] [(.int ta)]))
  refine own_up (fun _ k => XS.iload X0.here hx rfl (hb hby d4_18) rfl k) ?_
  show own_Go p.tables e below _ (T0.setTop (mkF m 20 #[.val (.ref ks), .val (.ref aa), .val (.ref bb), .val (.ref rr), .val (.int ta), .val (.int rs), .val (.int tb), .val (.int bs), .val (.int bq), .val (.int cnt), .val (.double al), .second, .val (.int v), s13, s14] [(.int v), (.int ta)]))
  refine own_up (fun _ k => XS.iadd X0.here hx rfl (hb hby d4_20) rfl k) ?_
  show own_Go p.tables e below _ (T0.setTop (mkF m 21 #[.val (.ref ks), .val (.ref aa), .val (.ref bb), .val (.ref rr), .val (.int ta), .val (.int rs), .val (.int tb), .val (.int bs), .val (.int bq), .val (.int cnt), .val (.double al), .second, .val (.int v), s13, s14] [(.int (ta + v))]))
  rw [hxq]
  show own_Go p.tables e below _ (T0.setTop (mkF m 21 #[.val (.ref ks), .val (.ref aa), .val (.ref bb), .val (.ref rr), .val (.int ta), .val (.int rs), .val (.int tb), .val (.int bs), .val (.int bq), .val (.int cnt), .val (.double al), .second, .val (.int v), s13, s14] [(.int x)]))
  refine own_up (fun _ k => XS.istoreS X0.here hx rfl (hb hby d4_21) rfl rfl hs13 k) ?_
  show own_Go p.tables e below _ (T0.setTop (mkF m 23 #[.val (.ref ks), .val (.ref aa), .val (.ref bb), .val (.ref rr), .val (.int ta), .val (.int rs), .val (.int tb), .val (.int bs), .val (.int bq), .val (.int cnt), .val (.double al), .second, .val (.int v), .val (.int x), s14] []))
  refine own_up (fun _ k => XS.iload X0.here hx rfl (hb hby d4_23) rfl k) ?_
  show own_Go p.tables e below _ (T0.setTop (mkF m 25 #[.val (.ref ks), .val (.ref aa), .val (.ref bb), .val (.ref rr), .val (.int ta), .val (.int rs), .val (.int tb), .val (.int bs), .val (.int bq), .val (.int cnt), .val (.double al), .second, .val (.int v), .val (.int x), s14] [(.int tb)]))
  refine own_up (fun _ k => XS.iload X0.here hx rfl (hb hby d4_25) rfl k) ?_
  show own_Go p.tables e below _ (T0.setTop (mkF m 27 #[.val (.ref ks), .val (.ref aa), .val (.ref bb), .val (.ref rr), .val (.int ta), .val (.int rs), .val (.int tb), .val (.int bs), .val (.int bq), .val (.int cnt), .val (.double al), .second, .val (.int v), .val (.int x), s14] [(.int v), (.int tb)]))
  refine own_up (fun _ k => XS.iload X0.here hx rfl (hb hby d4_27) rfl k) ?_
  show own_Go p.tables e below _ (T0.setTop (mkF m 29 #[.val (.ref ks), .val (.ref aa), .val (.ref bb), .val (.ref rr), .val (.int ta), .val (.int rs), .val (.int tb), .val (.int bs), .val (.int bq), .val (.int cnt), .val (.double al), .second, .val (.int v), .val (.int x), s14] [(.int bs), (.int v), (.int tb)]))
  refine own_up (fun _ k => XS.imul X0.here hx rfl (hb hby d4_29) rfl k) ?_
  show own_Go p.tables e below _ (T0.setTop (mkF m 30 #[.val (.ref ks), .val (.ref aa), .val (.ref bb), .val (.ref rr), .val (.int ta), .val (.int rs), .val (.int tb), .val (.int bs), .val (.int bq), .val (.int cnt), .val (.double al), .second, .val (.int v), .val (.int x), s14] [(.int (v * bs)), (.int tb)]))
  refine own_up (fun _ k => XS.iadd X0.here hx rfl (hb hby d4_30) rfl k) ?_
  show own_Go p.tables e below _ (T0.setTop (mkF m 31 #[.val (.ref ks), .val (.ref aa), .val (.ref bb), .val (.ref rr), .val (.int ta), .val (.int rs), .val (.int tb), .val (.int bs), .val (.int bq), .val (.int cnt), .val (.double al), .second, .val (.int v), .val (.int x), s14] [(.int (tb + (v * bs)))]))
  rw [hyq]
  show own_Go p.tables e below _ (T0.setTop (mkF m 31 #[.val (.ref ks), .val (.ref aa), .val (.ref bb), .val (.ref rr), .val (.int ta), .val (.int rs), .val (.int tb), .val (.int bs), .val (.int bq), .val (.int cnt), .val (.double al), .second, .val (.int v), .val (.int x), s14] [(.int y)]))
  refine own_up (fun _ k => XS.istoreS X0.here hx rfl (hb hby d4_31) rfl rfl hs14 k) ?_
  show own_Go p.tables e below _ (T0.setTop (mkF m 33 #[.val (.ref ks), .val (.ref aa), .val (.ref bb), .val (.ref rr), .val (.int ta), .val (.int rs), .val (.int tb), .val (.int bs), .val (.int bq), .val (.int cnt), .val (.double al), .second, .val (.int v), .val (.int x), .val (.int y)] []))
  refine own_up (fun _ k => XS.aloadN X0.here hx rfl (hb hby d4_33) rfl rfl k) ?_
  show own_Go p.tables e below _ (T0.setTop (mkF m 34 #[.val (.ref ks), .val (.ref aa), .val (.ref bb), .val (.ref rr), .val (.int ta), .val (.int rs), .val (.int tb), .val (.int bs), .val (.int bq), .val (.int cnt), .val (.double al), .second, .val (.int v), .val (.int x), .val (.int y)] [(.ref rr)]))
  refine own_up (fun _ k => XS.iload X0.here hx rfl (hb hby d4_34) rfl k) ?_
  show own_Go p.tables e below _ (T0.setTop (mkF m 36 #[.val (.ref ks), .val (.ref aa), .val (.ref bb), .val (.ref rr), .val (.int ta), .val (.int rs), .val (.int tb), .val (.int bs), .val (.int bq), .val (.int cnt), .val (.double al), .second, .val (.int v), .val (.int x), .val (.int y)] [(.int x), (.ref rr)]))
  refine own_up (fun _ k => XS.dload X0.here hx rfl (hb hby d4_36) rfl k) ?_
  show own_Go p.tables e below _ (T0.setTop (mkF m 38 #[.val (.ref ks), .val (.ref aa), .val (.ref bb), .val (.ref rr), .val (.int ta), .val (.int rs), .val (.int tb), .val (.int bs), .val (.int bq), .val (.int cnt), .val (.double al), .second, .val (.int v), .val (.int x), .val (.int y)] [(.double al), (.int x), (.ref rr)]))
  refine own_up (fun _ k => XS.aloadN X0.here hx rfl (hb hby d4_38) rfl rfl k) ?_
  show own_Go p.tables e below _ (T0.setTop (mkF m 39 #[.val (.ref ks), .val (.ref aa), .val (.ref bb), .val (.ref rr), .val (.int ta), .val (.int rs), .val (.int tb), .val (.int bs), .val (.int bq), .val (.int cnt), .val (.double al), .second, .val (.int v), .val (.int x), .val (.int y)] [(.ref bb), (.double al), (.int x), (.ref rr)]))
  refine own_up (fun _ k => XS.iload X0.here hx rfl (hb hby d4_39) rfl k) ?_
  show own_Go p.tables e below _ (T0.setTop (mkF m 41 #[.val (.ref ks), .val (.ref aa), .val (.ref bb), .val (.ref rr), .val (.int ta), .val (.int rs), .val (.int tb), .val (.int bs), .val (.int bq), .val (.int cnt), .val (.double al), .second, .val (.int v), .val (.int x), .val (.int y)] [(.int y), (.ref bb), (.double al), (.int x), (.ref rr)]))
  refine own_up (fun _ k => own_Arf.daload G_bb X0 hx hZ e0 j0.1 j0.2 (v := (.double (ub (y).toNatClampNeg))) rfl (g := (mkF m 41 #[.val (.ref ks), .val (.ref aa), .val (.ref bb), .val (.ref rr), .val (.int ta), .val (.int rs), .val (.int tb), .val (.int bs), .val (.int bq), .val (.int cnt), .val (.double al), .second, .val (.int v), .val (.int x), .val (.int y)] [(.int y), (.ref bb), (.double al), (.int x), (.ref rr)])) rfl rfl (hb hby d4_41) _ k) ?_
  show own_Go p.tables e below _ (T0.setTop (mkF m 42 #[.val (.ref ks), .val (.ref aa), .val (.ref bb), .val (.ref rr), .val (.int ta), .val (.int rs), .val (.int tb), .val (.int bs), .val (.int bq), .val (.int cnt), .val (.double al), .second, .val (.int v), .val (.int x), .val (.int y)] [(.double (ub (y).toNatClampNeg)), (.double al), (.int x), (.ref rr)]))
  refine own_up (fun _ k => XS.dmulS X0.here hx rfl (v := (FP.dmul al (ub (y).toNatClampNeg))) (hb hby d4_42) rfl (dmul_out hal (hub _)) rfl k) ?_
  show own_Go p.tables e below _ (T0.setTop (mkF m 43 #[.val (.ref ks), .val (.ref aa), .val (.ref bb), .val (.ref rr), .val (.int ta), .val (.int rs), .val (.int tb), .val (.int bs), .val (.int bq), .val (.int cnt), .val (.double al), .second, .val (.int v), .val (.int x), .val (.int y)] [(.double (FP.dmul al (ub (y).toNatClampNeg))), (.int x), (.ref rr)]))
  obtain ⟨cl1, Ar1, sz1, nz1, hc1⟩ := id G_rr
  obtain ⟨T1, h1, X1, e1, W1, st1⟩ := stD X0 hx hZ e0 Ar1 (j := x) (inb_of sz1 ⟨i0.1, i0.2⟩) (g := (mkF m 43 #[.val (.ref ks), .val (.ref aa), .val (.ref bb), .val (.ref rr), .val (.int ta), .val (.int rs), .val (.int tb), .val (.int bs), .val (.int bq), .val (.int cnt), .val (.double al), .second, .val (.int v), .val (.int x), .val (.int y)] [(.double (FP.dmul al (ub (y).toNatClampNeg))), (.int x), (.ref rr)])) rfl rfl (hb hby d4_43)
  have G_rr : own_Arf Z h1 rr .double (64 : Int32) (fun i => .double ((own_upd ur x (FP.dmul al (ub (y).toNatClampNeg))) i)) := own_Arf.setD G_rr W1
  have N1 := Fr.snoc X1 N0 g_rr
  have G_bb := G_bb.other W1 ne_bb_rr
  have ZH := Nat.le_trans ZH (Nat.le_of_eq W1.size.symm)
  have KK := KK.wr W1 (Or.inl (List.mem_of_getElem? (i := 0) rfl))
  refine own_up st1 ?_
  show own_Go p.tables e below _ (T1.setTop (mkF m 44 #[.val (.ref ks), .val (.ref aa), .val (.ref bb), .val (.ref rr), .val (.int ta), .val (.int rs), .val (.int tb), .val (.int bs), .val (.int bq), .val (.int cnt), .val (.double al), .second, .val (.int v), .val (.int x), .val (.int y)] []))
  refine own_up (fun _ k => XS.aloadN X1.here hx rfl (hb hby d4_44) rfl rfl k) ?_
  show own_Go p.tables e below _ (T1.setTop (mkF m 45 #[.val (.ref ks), .val (.ref aa), .val (.ref bb), .val (.ref rr), .val (.int ta), .val (.int rs), .val (.int tb), .val (.int bs), .val (.int bq), .val (.int cnt), .val (.double al), .second, .val (.int v), .val (.int x), .val (.int y)] [(.ref rr)]))
  refine own_up (fun _ k => XS.iload X1.here hx rfl (hb hby d4_45) rfl k) ?_
  show own_Go p.tables e below _ (T1.setTop (mkF m 47 #[.val (.ref ks), .val (.ref aa), .val (.ref bb), .val (.ref rr), .val (.int ta), .val (.int rs), .val (.int tb), .val (.int bs), .val (.int bq), .val (.int cnt), .val (.double al), .second, .val (.int v), .val (.int x), .val (.int y)] [(.int x), (.ref rr)]))
  refine own_up (fun _ k => XS.iload X1.here hx rfl (hb hby d4_47) rfl k) ?_
  show own_Go p.tables e below _ (T1.setTop (mkF m 49 #[.val (.ref ks), .val (.ref aa), .val (.ref bb), .val (.ref rr), .val (.int ta), .val (.int rs), .val (.int tb), .val (.int bs), .val (.int bq), .val (.int cnt), .val (.double al), .second, .val (.int v), .val (.int x), .val (.int y)] [(.int rs), (.int x), (.ref rr)]))
  refine own_up (fun _ k => XS.iadd X1.here hx rfl (hb hby d4_49) rfl k) ?_
  show own_Go p.tables e below _ (T1.setTop (mkF m 50 #[.val (.ref ks), .val (.ref aa), .val (.ref bb), .val (.ref rr), .val (.int ta), .val (.int rs), .val (.int tb), .val (.int bs), .val (.int bq), .val (.int cnt), .val (.double al), .second, .val (.int v), .val (.int x), .val (.int y)] [(.int (x + rs)), (.ref rr)]))
  refine own_up (fun _ k => XS.dload X1.here hx rfl (hb hby d4_50) rfl k) ?_
  show own_Go p.tables e below _ (T1.setTop (mkF m 52 #[.val (.ref ks), .val (.ref aa), .val (.ref bb), .val (.ref rr), .val (.int ta), .val (.int rs), .val (.int tb), .val (.int bs), .val (.int bq), .val (.int cnt), .val (.double al), .second, .val (.int v), .val (.int x), .val (.int y)] [(.double al), (.int (x + rs)), (.ref rr)]))
  refine own_up (fun _ k => XS.aloadN X1.here hx rfl (hb hby d4_52) rfl rfl k) ?_
  show own_Go p.tables e below _ (T1.setTop (mkF m 53 #[.val (.ref ks), .val (.ref aa), .val (.ref bb), .val (.ref rr), .val (.int ta), .val (.int rs), .val (.int tb), .val (.int bs), .val (.int bq), .val (.int cnt), .val (.double al), .second, .val (.int v), .val (.int x), .val (.int y)] [(.ref bb), (.double al), (.int (x + rs)), (.ref rr)]))
  refine own_up (fun _ k => XS.iload X1.here hx rfl (hb hby d4_53) rfl k) ?_
  show own_Go p.tables e below _ (T1.setTop (mkF m 55 #[.val (.ref ks), .val (.ref aa), .val (.ref bb), .val (.ref rr), .val (.int ta), .val (.int rs), .val (.int tb), .val (.int bs), .val (.int bq), .val (.int cnt), .val (.double al), .second, .val (.int v), .val (.int x), .val (.int y)] [(.int y), (.ref bb), (.double al), (.int (x + rs)), (.ref rr)]))
  refine own_up (fun _ k => XS.iload X1.here hx rfl (hb hby d4_55) rfl k) ?_
  show own_Go p.tables e below _ (T1.setTop (mkF m 57 #[.val (.ref ks), .val (.ref aa), .val (.ref bb), .val (.ref rr), .val (.int ta), .val (.int rs), .val (.int tb), .val (.int bs), .val (.int bq), .val (.int cnt), .val (.double al), .second, .val (.int v), .val (.int x), .val (.int y)] [(.int bq), (.int y), (.ref bb), (.double al), (.int (x + rs)), (.ref rr)]))
  refine own_up (fun _ k => XS.iadd X1.here hx rfl (hb hby d4_57) rfl k) ?_
  show own_Go p.tables e below _ (T1.setTop (mkF m 58 #[.val (.ref ks), .val (.ref aa), .val (.ref bb), .val (.ref rr), .val (.int ta), .val (.int rs), .val (.int tb), .val (.int bs), .val (.int bq), .val (.int cnt), .val (.double al), .second, .val (.int v), .val (.int x), .val (.int y)] [(.int (y + bq)), (.ref bb), (.double al), (.int (x + rs)), (.ref rr)]))
  refine own_up (fun _ k => own_Arf.daload G_bb X1 hx hZ e1 j1.1 j1.2 (v := (.double (ub ((y + bq)).toNatClampNeg))) rfl (g := (mkF m 58 #[.val (.ref ks), .val (.ref aa), .val (.ref bb), .val (.ref rr), .val (.int ta), .val (.int rs), .val (.int tb), .val (.int bs), .val (.int bq), .val (.int cnt), .val (.double al), .second, .val (.int v), .val (.int x), .val (.int y)] [(.int (y + bq)), (.ref bb), (.double al), (.int (x + rs)), (.ref rr)])) rfl rfl (hb hby d4_58) _ k) ?_
  show own_Go p.tables e below _ (T1.setTop (mkF m 59 #[.val (.ref ks), .val (.ref aa), .val (.ref bb), .val (.ref rr), .val (.int ta), .val (.int rs), .val (.int tb), .val (.int bs), .val (.int bq), .val (.int cnt), .val (.double al), .second, .val (.int v), .val (.int x), .val (.int y)] [(.double (ub ((y + bq)).toNatClampNeg)), (.double al), (.int (x + rs)), (.ref rr)]))
  refine own_up (fun _ k => XS.dmulS X1.here hx rfl (v := (FP.dmul al (ub ((y + bq)).toNatClampNeg))) (hb hby d4_59) rfl (dmul_out hal (hub _)) rfl k) ?_
  show own_Go p.tables e below _ (T1.setTop (mkF m 60 #[.val (.ref ks), .val (.ref aa), .val (.ref bb), .val (.ref rr), .val (.int ta), .val (.int rs), .val (.int tb), .val (.int bs), .val (.int bq), .val (.int cnt), .val (.double al), .second, .val (.int v), .val (.int x), .val (.int y)] [(.double (FP.dmul al (ub ((y + bq)).toNatClampNeg))), (.int (x + rs)), (.ref rr)]))
  obtain ⟨cl2, Ar2, sz2, nz2, hc2⟩ := id G_rr
  obtain ⟨T2, h2, X2, e2, W2, st2⟩ := stD X1 hx hZ e1 Ar2 (j := (x + rs)) (inb_of sz2 ⟨i1.1, i1.2⟩) (g := (mkF m 60 #[.val (.ref ks), .val (.ref aa), .val (.ref bb), .val (.ref rr), .val (.int ta), .val (.int rs), .val (.int tb), .val (.int bs), .val (.int bq), .val (.int cnt), .val (.double al), .second, .val (.int v), .val (.int x), .val (.int y)] [(.double (FP.dmul al (ub ((y + bq)).toNatClampNeg))), (.int (x + rs)), (.ref rr)])) rfl rfl (hb hby d4_60)
  have G_rr : own_Arf Z h2 rr .double (64 : Int32) (fun i => .double ((own_upd (own_upd ur x (FP.dmul al (ub (y).toNatClampNeg))) (x + rs) (FP.dmul al (ub ((y + bq)).toNatClampNeg))) i)) := own_Arf.setD G_rr W2
  have N2 := Fr.snoc X2 N1 g_rr
  have G_bb := G_bb.other W2 ne_bb_rr
  have ZH := Nat.le_trans ZH (Nat.le_of_eq W2.size.symm)
  have KK := KK.wr W2 (Or.inl (List.mem_of_getElem? (i := 0) rfl))
  refine own_up st2 ?_
  show own_Go p.tables e below _ (T2.setTop (mkF m 61 #[.val (.ref ks), .val (.ref aa), .val (.ref bb), .val (.ref rr), .val (.int ta), .val (.int rs), .val (.int tb), .val (.int bs), .val (.int bq), .val (.int cnt), .val (.double al), .second, .val (.int v), .val (.int x), .val (.int y)] []))
  refine own_up (fun _ k => XS.aloadN X2.here hx rfl (hb hby d4_61) rfl rfl k) ?_
  show own_Go p.tables e below _ (T2.setTop (mkF m 62 #[.val (.ref ks), .val (.ref aa), .val (.ref bb), .val (.ref rr), .val (.int ta), .val (.int rs), .val (.int tb), .val (.int bs), .val (.int bq), .val (.int cnt), .val (.double al), .second, .val (.int v), .val (.int x), .val (.int y)] [(.ref rr)]))
  refine own_up (fun _ k => XS.iload X2.here hx rfl (hb hby d4_62) rfl k) ?_
  show own_Go p.tables e below _ (T2.setTop (mkF m 64 #[.val (.ref ks), .val (.ref aa), .val (.ref bb), .val (.ref rr), .val (.int ta), .val (.int rs), .val (.int tb), .val (.int bs), .val (.int bq), .val (.int cnt), .val (.double al), .second, .val (.int v), .val (.int x), .val (.int y)] [(.int x), (.ref rr)]))
  refine own_up (fun _ k => XS.iconst X2.here hx rfl (hb hby d4_64) k) ?_
  show own_Go p.tables e below _ (T2.setTop (mkF m 65 #[.val (.ref ks), .val (.ref aa), .val (.ref bb), .val (.ref rr), .val (.int ta), .val (.int rs), .val (.int tb), .val (.int bs), .val (.int bq), .val (.int cnt), .val (.double al), .second, .val (.int v), .val (.int x), .val (.int y)] [(.int (2 : Int32)), (.int x), (.ref rr)]))
  refine own_up (fun _ k => XS.iload X2.here hx rfl (hb hby d4_65) rfl k) ?_
  show own_Go p.tables e below _ (T2.setTop (mkF m 67 #[.val (.ref ks), .val (.ref aa), .val (.ref bb), .val (.ref rr), .val (.int ta), .val (.int rs), .val (.int tb), .val (.int bs), .val (.int bq), .val (.int cnt), .val (.double al), .second, .val (.int v), .val (.int x), .val (.int y)] [(.int rs), (.int (2 : Int32)), (.int x), (.ref rr)]))
  refine own_up (fun _ k => XS.imul X2.here hx rfl (hb hby d4_67) rfl k) ?_
  show own_Go p.tables e below _ (T2.setTop (mkF m 68 #[.val (.ref ks), .val (.ref aa), .val (.ref bb), .val (.ref rr), .val (.int ta), .val (.int rs), .val (.int tb), .val (.int bs), .val (.int bq), .val (.int cnt), .val (.double al), .second, .val (.int v), .val (.int x), .val (.int y)] [(.int ((2 : Int32) * rs)), (.int x), (.ref rr)]))
  refine own_up (fun _ k => XS.iadd X2.here hx rfl (hb hby d4_68) rfl k) ?_
  show own_Go p.tables e below _ (T2.setTop (mkF m 69 #[.val (.ref ks), .val (.ref aa), .val (.ref bb), .val (.ref rr), .val (.int ta), .val (.int rs), .val (.int tb), .val (.int bs), .val (.int bq), .val (.int cnt), .val (.double al), .second, .val (.int v), .val (.int x), .val (.int y)] [(.int (x + ((2 : Int32) * rs))), (.ref rr)]))
  refine own_up (fun _ k => XS.dload X2.here hx rfl (hb hby d4_69) rfl k) ?_
  show own_Go p.tables e below _ (T2.setTop (mkF m 71 #[.val (.ref ks), .val (.ref aa), .val (.ref bb), .val (.ref rr), .val (.int ta), .val (.int rs), .val (.int tb), .val (.int bs), .val (.int bq), .val (.int cnt), .val (.double al), .second, .val (.int v), .val (.int x), .val (.int y)] [(.double al), (.int (x + ((2 : Int32) * rs))), (.ref rr)]))
  refine own_up (fun _ k => XS.aloadN X2.here hx rfl (hb hby d4_71) rfl rfl k) ?_
  show own_Go p.tables e below _ (T2.setTop (mkF m 72 #[.val (.ref ks), .val (.ref aa), .val (.ref bb), .val (.ref rr), .val (.int ta), .val (.int rs), .val (.int tb), .val (.int bs), .val (.int bq), .val (.int cnt), .val (.double al), .second, .val (.int v), .val (.int x), .val (.int y)] [(.ref bb), (.double al), (.int (x + ((2 : Int32) * rs))), (.ref rr)]))
  refine own_up (fun _ k => XS.iload X2.here hx rfl (hb hby d4_72) rfl k) ?_
  show own_Go p.tables e below _ (T2.setTop (mkF m 74 #[.val (.ref ks), .val (.ref aa), .val (.ref bb), .val (.ref rr), .val (.int ta), .val (.int rs), .val (.int tb), .val (.int bs), .val (.int bq), .val (.int cnt), .val (.double al), .second, .val (.int v), .val (.int x), .val (.int y)] [(.int y), (.ref bb), (.double al), (.int (x + ((2 : Int32) * rs))), (.ref rr)]))
  refine own_up (fun _ k => XS.iconst X2.here hx rfl (hb hby d4_74) k) ?_
  show own_Go p.tables e below _ (T2.setTop (mkF m 75 #[.val (.ref ks), .val (.ref aa), .val (.ref bb), .val (.ref rr), .val (.int ta), .val (.int rs), .val (.int tb), .val (.int bs), .val (.int bq), .val (.int cnt), .val (.double al), .second, .val (.int v), .val (.int x), .val (.int y)] [(.int (2 : Int32)), (.int y), (.ref bb), (.double al), (.int (x + ((2 : Int32) * rs))), (.ref rr)]))
  refine own_up (fun _ k => XS.iload X2.here hx rfl (hb hby d4_75) rfl k) ?_
  show own_Go p.tables e below _ (T2.setTop (mkF m 77 #[.val (.ref ks), .val (.ref aa), .val (.ref bb), .val (.ref rr), .val (.int ta), .val (.int rs), .val (.int tb), .val (.int bs), .val (.int bq), .val (.int cnt), .val (.double al), .second, .val (.int v), .val (.int x), .val (.int y)] [(.int bq), (.int (2 : Int32)), (.int y), (.ref bb), (.double al), (.int (x + ((2 : Int32) * rs))), (.ref rr)]))
  refine own_up (fun _ k => XS.imul X2.here hx rfl (hb hby d4_77) rfl k) ?_
  show own_Go p.tables e below _ (T2.setTop (mkF m 78 #[.val (.ref ks), .val (.ref aa), .val (.ref bb), .val (.ref rr), .val (.int ta), .val (.int rs), .val (.int tb), .val (.int bs), .val (.int bq), .val (.int cnt), .val (.double al), .second, .val (.int v), .val (.int x), .val (.int y)] [(.int ((2 : Int32) * bq)), (.int y), (.ref bb), (.double al), (.int (x + ((2 : Int32) * rs))), (.ref rr)]))
  refine own_up (fun _ k => XS.iadd X2.here hx rfl (hb hby d4_78) rfl k) ?_
  show own_Go p.tables e below _ (T2.setTop (mkF m 79 #[.val (.ref ks), .val (.ref aa), .val (.ref bb), .val (.ref rr), .val (.int ta), .val (.int rs), .val (.int tb), .val (.int bs), .val (.int bq), .val (.int cnt), .val (.double al), .second, .val (.int v), .val (.int x), .val (.int y)] [(.int (y + ((2 : Int32) * bq))), (.ref bb), (.double al), (.int (x + ((2 : Int32) * rs))), (.ref rr)]))
  refine own_up (fun _ k => own_Arf.daload G_bb X2 hx hZ e2 j2.1 j2.2 (v := (.double (ub ((y + ((2 : Int32) * bq))).toNatClampNeg))) rfl (g := (mkF m 79 #[.val (.ref ks), .val (.ref aa), .val (.ref bb), .val (.ref rr), .val (.int ta), .val (.int rs), .val (.int tb), .val (.int bs), .val (.int bq), .val (.int cnt), .val (.double al), .second, .val (.int v), .val (.int x), .val (.int y)] [(.int (y + ((2 : Int32) * bq))), (.ref bb), (.double al), (.int (x + ((2 : Int32) * rs))), (.ref rr)])) rfl rfl (hb hby d4_79) _ k) ?_
  show own_Go p.tables e below _ (T2.setTop (mkF m 80 #[.val (.ref ks), .val (.ref aa), .val (.ref bb), .val (.ref rr), .val (.int ta), .val (.int rs), .val (.int tb), .val (.int bs), .val (.int bq), .val (.int cnt), .val (.double al), .second, .val (.int v), .val (.int x), .val (.int y)] [(.double (ub ((y + ((2 : Int32) * bq))).toNatClampNeg)), (.double al), (.int (x + ((2 : Int32) * rs))), (.ref rr)]))
  refine own_up (fun _ k => XS.dmulS X2.here hx rfl (v := (FP.dmul al (ub ((y + ((2 : Int32) * bq))).toNatClampNeg))) (hb hby d4_80) rfl (dmul_out hal (hub _)) rfl k) ?_
  show own_Go p.tables e below _ (T2.setTop (mkF m 81 #[.val (.ref ks), .val (.ref aa), .val (.ref bb), .val (.ref rr), .val (.int ta), .val (.int rs), .val (.int tb), .val (.int bs), .val (.int bq), .val (.int cnt), .val (.double al), .second, .val (.int v), .val (.int x), .val (.int y)] [(.double (FP.dmul al (ub ((y + ((2 : Int32) * bq))).toNatClampNeg))), (.int (x + ((2 : Int32) * rs))), (.ref rr)]))
  obtain ⟨cl3, Ar3, sz3, nz3, hc3⟩ := id G_rr
  obtain ⟨T3, h3, X3, e3, W3, st3⟩ := stD X2 hx hZ e2 Ar3 (j := (x + ((2 : Int32) * rs))) (inb_of sz3 ⟨i2.1, i2.2⟩) (g := (mkF m 81 #[.val (.ref ks), .val (.ref aa), .val (.ref bb), .val (.ref rr), .val (.int ta), .val (.int rs), .val (.int tb), .val (.int bs), .val (.int bq), .val (.int cnt), .val (.double al), .second, .val (.int v), .val (.int x), .val (.int y)] [(.double (FP.dmul al (ub ((y + ((2 : Int32) * bq))).toNatClampNeg))), (.int (x + ((2 : Int32) * rs))), (.ref rr)])) rfl rfl (hb hby d4_81)
  have G_rr : own_Arf Z h3 rr .double (64 : Int32) (fun i => .double ((own_upd (own_upd (own_upd ur x (FP.dmul al (ub (y).toNatClampNeg))) (x + rs) (FP.dmul al (ub ((y + bq)).toNatClampNeg))) (x + ((2 : Int32) * rs)) (FP.dmul al (ub ((y + ((2 : Int32) * bq))).toNatClampNeg))) i)) := own_Arf.setD G_rr W3
  have N3 := Fr.snoc X3 N2 g_rr
  have G_bb := G_bb.other W3 ne_bb_rr
  have ZH := Nat.le_trans ZH (Nat.le_of_eq W3.size.symm)
  have KK := KK.wr W3 (Or.inl (List.mem_of_getElem? (i := 0) rfl))
  refine own_up st3 ?_
  show own_Go p.tables e below _ (T3.setTop (mkF m 82 #[.val (.ref ks), .val (.ref aa), .val (.ref bb), .val (.ref rr), .val (.int ta), .val (.int rs), .val (.int tb), .val (.int bs), .val (.int bq), .val (.int cnt), .val (.double al), .second, .val (.int v), .val (.int x), .val (.int y)] []))
  refine own_up (fun _ k => XS.aloadN X3.here hx rfl (hb hby d4_82) rfl rfl k) ?_
  show own_Go p.tables e below _ (T3.setTop (mkF m 83 #[.val (.ref ks), .val (.ref aa), .val (.ref bb), .val (.ref rr), .val (.int ta), .val (.int rs), .val (.int tb), .val (.int bs), .val (.int bq), .val (.int cnt), .val (.double al), .second, .val (.int v), .val (.int x), .val (.int y)] [(.ref rr)]))
  refine own_up (fun _ k => XS.iload X3.here hx rfl (hb hby d4_83) rfl k) ?_
  show own_Go p.tables e below _ (T3.setTop (mkF m 85 #[.val (.ref ks), .val (.ref aa), .val (.ref bb), .val (.ref rr), .val (.int ta), .val (.int rs), .val (.int tb), .val (.int bs), .val (.int bq), .val (.int cnt), .val (.double al), .second, .val (.int v), .val (.int x), .val (.int y)] [(.int x), (.ref rr)]))
  refine own_up (fun _ k => XS.iconst X3.here hx rfl (hb hby d4_85) k) ?_
  show own_Go p.tables e below _ (T3.setTop (mkF m 86 #[.val (.ref ks), .val (.ref aa), .val (.ref bb), .val (.ref rr), .val (.int ta), .val (.int rs), .val (.int tb), .val (.int bs), .val (.int bq), .val (.int cnt), .val (.double al), .second, .val (.int v), .val (.int x), .val (.int y)] [(.int (3 : Int32)), (.int x), (.ref rr)]))
  refine own_up (fun _ k => XS.iload X3.here hx rfl (hb hby d4_86) rfl k) ?_
  show own_Go p.tables e below _ (T3.setTop (mkF m 88 #[.val (.ref ks), .val (.ref aa), .val (.ref bb), .val (.ref rr), .val (.int ta), .val (.int rs), .val (.int tb), .val (.int bs), .val (.int bq), .val (.int cnt), .val (.double al), .second, .val (.int v), .val (.int x), .val (.int y)] [(.int rs), (.int (3 : Int32)), (.int x), (.ref rr)]))
  refine own_up (fun _ k => XS.imul X3.here hx rfl (hb hby d4_88) rfl k) ?_
  show own_Go p.tables e below _ (T3.setTop (mkF m 89 #[.val (.ref ks), .val (.ref aa), .val (.ref bb), .val (.ref rr), .val (.int ta), .val (.int rs), .val (.int tb), .val (.int bs), .val (.int bq), .val (.int cnt), .val (.double al), .second, .val (.int v), .val (.int x), .val (.int y)] [(.int ((3 : Int32) * rs)), (.int x), (.ref rr)]))
  refine own_up (fun _ k => XS.iadd X3.here hx rfl (hb hby d4_89) rfl k) ?_
  show own_Go p.tables e below _ (T3.setTop (mkF m 90 #[.val (.ref ks), .val (.ref aa), .val (.ref bb), .val (.ref rr), .val (.int ta), .val (.int rs), .val (.int tb), .val (.int bs), .val (.int bq), .val (.int cnt), .val (.double al), .second, .val (.int v), .val (.int x), .val (.int y)] [(.int (x + ((3 : Int32) * rs))), (.ref rr)]))
  refine own_up (fun _ k => XS.dload X3.here hx rfl (hb hby d4_90) rfl k) ?_
  show own_Go p.tables e below _ (T3.setTop (mkF m 92 #[.val (.ref ks), .val (.ref aa), .val (.ref bb), .val (.ref rr), .val (.int ta), .val (.int rs), .val (.int tb), .val (.int bs), .val (.int bq), .val (.int cnt), .val (.double al), .second, .val (.int v), .val (.int x), .val (.int y)] [(.double al), (.int (x + ((3 : Int32) * rs))), (.ref rr)]))
  refine own_up (fun _ k => XS.aloadN X3.here hx rfl (hb hby d4_92) rfl rfl k) ?_
  show own_Go p.tables e below _ (T3.setTop (mkF m 93 #[.val (.ref ks), .val (.ref aa), .val (.ref bb), .val (.ref rr), .val (.int ta), .val (.int rs), .val (.int tb), .val (.int bs), .val (.int bq), .val (.int cnt), .val (.double al), .second, .val (.int v), .val (.int x), .val (.int y)] [(.ref bb), (.double al), (.int (x + ((3 : Int32) * rs))), (.ref rr)]))
  refine own_up (fun _ k => XS.iload X3.here hx rfl (hb hby d4_93) rfl k) ?_
  show own_Go p.tables e below _ (T3.setTop (mkF m 95 #[.val (.ref ks), .val (.ref aa), .val (.ref bb), .val (.ref rr), .val (.int ta), .val (.int rs), .val (.int tb), .val (.int bs), .val (.int bq), .val (.int cnt), .val (.double al), .second, .val (.int v), .val (.int x), .val (.int y)] [(.int y), (.ref bb), (.double al), (.int (x + ((3 : Int32) * rs))), (.ref rr)]))
  refine own_up (fun _ k => XS.iconst X3.here hx rfl (hb hby d4_95) k) ?_
  show own_Go p.tables e below _ (T3.setTop (mkF m 96 #[.val (.ref ks), .val (.ref aa), .val (.ref bb), .val (.ref rr), .val (.int ta), .val (.int rs), .val (.int tb), .val (.int bs), .val (.int bq), .val (.int cnt), .val (.double al), .second, .val (.int v), .val (.int x), .val (.int y)] [(.int (3 : Int32)), (.int y), (.ref bb), (.double al), (.int (x + ((3 : Int32) * rs))), (.ref rr)]))
  refine own_up (fun _ k => XS.iload X3.here hx rfl (hb hby d4_96) rfl k) ?_
  show own_Go p.tables e below _ (T3.setTop (mkF m 98 #[.val (.ref ks), .val (.ref aa), .val (.ref bb), .val (.ref rr), .val (.int ta), .val (.int rs), .val (.int tb), .val (.int bs), .val (.int bq), .val (.int cnt), .val (.double al), .second, .val (.int v), .val (.int x), .val (.int y)] [(.int bq), (.int (3 : Int32)), (.int y), (.ref bb), (.double al), (.int (x + ((3 : Int32) * rs))), (.ref rr)]))
  refine own_up (fun _ k => XS.imul X3.here hx rfl (hb hby d4_98) rfl k) ?_
  show own_Go p.tables e below _ (T3.setTop (mkF m 99 #[.val (.ref ks), .val (.ref aa), .val (.ref bb), .val (.ref rr), .val (.int ta), .val (.int rs), .val (.int tb), .val (.int bs), .val (.int bq), .val (.int cnt), .val (.double al), .second, .val (.int v), .val (.int x), .val (.int y)] [(.int ((3 : Int32) * bq)), (.int y), (.ref bb), (.double al), (.int (x + ((3 : Int32) * rs))), (.ref rr)]))
  refine own_up (fun _ k => XS.iadd X3.here hx rfl (hb hby d4_99) rfl k) ?_
  show own_Go p.tables e below _ (T3.setTop (mkF m 100 #[.val (.ref ks), .val (.ref aa), .val (.ref bb), .val (.ref rr), .val (.int ta), .val (.int rs), .val (.int tb), .val (.int bs), .val (.int bq), .val (.int cnt), .val (.double al), .second, .val (.int v), .val (.int x), .val (.int y)] [(.int (y + ((3 : Int32) * bq))), (.ref bb), (.double al), (.int (x + ((3 : Int32) * rs))), (.ref rr)]))
  refine own_up (fun _ k => own_Arf.daload G_bb X3 hx hZ e3 j3.1 j3.2 (v := (.double (ub ((y + ((3 : Int32) * bq))).toNatClampNeg))) rfl (g := (mkF m 100 #[.val (.ref ks), .val (.ref aa), .val (.ref bb), .val (.ref rr), .val (.int ta), .val (.int rs), .val (.int tb), .val (.int bs), .val (.int bq), .val (.int cnt), .val (.double al), .second, .val (.int v), .val (.int x), .val (.int y)] [(.int (y + ((3 : Int32) * bq))), (.ref bb), (.double al), (.int (x + ((3 : Int32) * rs))), (.ref rr)])) rfl rfl (hb hby d4_100) _ k) ?_
  show own_Go p.tables e below _ (T3.setTop (mkF m 101 #[.val (.ref ks), .val (.ref aa), .val (.ref bb), .val (.ref rr), .val (.int ta), .val (.int rs), .val (.int tb), .val (.int bs), .val (.int bq), .val (.int cnt), .val (.double al), .second, .val (.int v), .val (.int x), .val (.int y)] [(.double (ub ((y + ((3 : Int32) * bq))).toNatClampNeg)), (.double al), (.int (x + ((3 : Int32) * rs))), (.ref rr)]))
  refine own_up (fun _ k => XS.dmulS X3.here hx rfl (v := (FP.dmul al (ub ((y + ((3 : Int32) * bq))).toNatClampNeg))) (hb hby d4_101) rfl (dmul_out hal (hub _)) rfl k) ?_
  show own_Go p.tables e below _ (T3.setTop (mkF m 102 #[.val (.ref ks), .val (.ref aa), .val (.ref bb), .val (.ref rr), .val (.int ta), .val (.int rs), .val (.int tb), .val (.int bs), .val (.int bq), .val (.int cnt), .val (.double al), .second, .val (.int v), .val (.int x), .val (.int y)] [(.double (FP.dmul al (ub ((y + ((3 : Int32) * bq))).toNatClampNeg))), (.int (x + ((3 : Int32) * rs))), (.ref rr)]))
  obtain ⟨cl4, Ar4, sz4, nz4, hc4⟩ := id G_rr
  obtain ⟨T4, h4, X4, e4, W4, st4⟩ := stD X3 hx hZ e3 Ar4 (j := (x + ((3 : Int32) * rs))) (inb_of sz4 ⟨i3.1, i3.2⟩) (g := (mkF m 102 #[.val (.ref ks), .val (.ref aa), .val (.ref bb), .val (.ref rr), .val (.int ta), .val (.int rs), .val (.int tb), .val (.int bs), .val (.int bq), .val (.int cnt), .val (.double al), .second, .val (.int v), .val (.int x), .val (.int y)] [(.double (FP.dmul al (ub ((y + ((3 : Int32) * bq))).toNatClampNeg))), (.int (x + ((3 : Int32) * rs))), (.ref rr)])) rfl rfl (hb hby d4_102)
  have G_rr : own_Arf Z h4 rr .double (64 : Int32) (fun i => .double ((own_upd (own_upd (own_upd (own_upd ur x (FP.dmul al (ub (y).toNatClampNeg))) (x + rs) (FP.dmul al (ub ((y + bq)).toNatClampNeg))) (x + ((2 : Int32) * rs)) (FP.dmul al (ub ((y + ((2 : Int32) * bq))).toNatClampNeg))) (x + ((3 : Int32) * rs)) (FP.dmul al (ub ((y + ((3 : Int32) * bq))).toNatClampNeg))) i)) := own_Arf.setD G_rr W4
  have N4 := Fr.snoc X4 N3 g_rr
  have G_bb := G_bb.other W4 ne_bb_rr
  have ZH := Nat.le_trans ZH (Nat.le_of_eq W4.size.symm)
  have KK := KK.wr W4 (Or.inl (List.mem_of_getElem? (i := 0) rfl))
  refine own_up st4 ?_
  show own_Go p.tables e below _ (T4.setTop (mkF m 103 #[.val (.ref ks), .val (.ref aa), .val (.ref bb), .val (.ref rr), .val (.int ta), .val (.int rs), .val (.int tb), .val (.int bs), .val (.int bq), .val (.int cnt), .val (.double al), .second, .val (.int v), .val (.int x), .val (.int y)] []))
  refine own_up (fun _ k => XS.aloadN X4.here hx rfl (hb hby d4_103) rfl rfl k) ?_
  show own_Go p.tables e below _ (T4.setTop (mkF m 104 #[.val (.ref ks), .val (.ref aa), .val (.ref bb), .val (.ref rr), .val (.int ta), .val (.int rs), .val (.int tb), .val (.int bs), .val (.int bq), .val (.int cnt), .val (.double al), .second, .val (.int v), .val (.int x), .val (.int y)] [(.ref rr)]))
  refine own_up (fun _ k => XS.iload X4.here hx rfl (hb hby d4_104) rfl k) ?_
  show own_Go p.tables e below _ (T4.setTop (mkF m 106 #[.val (.ref ks), .val (.ref aa), .val (.ref bb), .val (.ref rr), .val (.int ta), .val (.int rs), .val (.int tb), .val (.int bs), .val (.int bq), .val (.int cnt), .val (.double al), .second, .val (.int v), .val (.int x), .val (.int y)] [(.int x), (.ref rr)]))
  refine own_up (fun _ k => XS.iconst X4.here hx rfl (hb hby d4_106) k) ?_
  show own_Go p.tables e below _ (T4.setTop (mkF m 107 #[.val (.ref ks), .val (.ref aa), .val (.ref bb), .val (.ref rr), .val (.int ta), .val (.int rs), .val (.int tb), .val (.int bs), .val (.int bq), .val (.int cnt), .val (.double al), .second, .val (.int v), .val (.int x), .val (.int y)] [(.int (4 : Int32)), (.int x), (.ref rr)]))
  refine own_up (fun _ k => XS.iload X4.here hx rfl (hb hby d4_107) rfl k) ?_
  show own_Go p.tables e below _ (T4.setTop (mkF m 109 #[.val (.ref ks), .val (.ref aa), .val (.ref bb), .val (.ref rr), .val (.int ta), .val (.int rs), .val (.int tb), .val (.int bs), .val (.int bq), .val (.int cnt), .val (.double al), .second, .val (.int v), .val (.int x), .val (.int y)] [(.int rs), (.int (4 : Int32)), (.int x), (.ref rr)]))
  refine own_up (fun _ k => XS.imul X4.here hx rfl (hb hby d4_109) rfl k) ?_
  show own_Go p.tables e below _ (T4.setTop (mkF m 110 #[.val (.ref ks), .val (.ref aa), .val (.ref bb), .val (.ref rr), .val (.int ta), .val (.int rs), .val (.int tb), .val (.int bs), .val (.int bq), .val (.int cnt), .val (.double al), .second, .val (.int v), .val (.int x), .val (.int y)] [(.int ((4 : Int32) * rs)), (.int x), (.ref rr)]))
  refine own_up (fun _ k => XS.iadd X4.here hx rfl (hb hby d4_110) rfl k) ?_
  show own_Go p.tables e below _ (T4.setTop (mkF m 111 #[.val (.ref ks), .val (.ref aa), .val (.ref bb), .val (.ref rr), .val (.int ta), .val (.int rs), .val (.int tb), .val (.int bs), .val (.int bq), .val (.int cnt), .val (.double al), .second, .val (.int v), .val (.int x), .val (.int y)] [(.int (x + ((4 : Int32) * rs))), (.ref rr)]))
  refine own_up (fun _ k => XS.dload X4.here hx rfl (hb hby d4_111) rfl k) ?_
  show own_Go p.tables e below _ (T4.setTop (mkF m 113 #[.val (.ref ks), .val (.ref aa), .val (.ref bb), .val (.ref rr), .val (.int ta), .val (.int rs), .val (.int tb), .val (.int bs), .val (.int bq), .val (.int cnt), .val (.double al), .second, .val (.int v), .val (.int x), .val (.int y)] [(.double al), (.int (x + ((4 : Int32) * rs))), (.ref rr)]))
  refine own_up (fun _ k => XS.aloadN X4.here hx rfl (hb hby d4_113) rfl rfl k) ?_
  show own_Go p.tables e below _ (T4.setTop (mkF m 114 #[.val (.ref ks), .val (.ref aa), .val (.ref bb), .val (.ref rr), .val (.int ta), .val (.int rs), .val (.int tb), .val (.int bs), .val (.int bq), .val (.int cnt), .val (.double al), .second, .val (.int v), .val (.int x), .val (.int y)] [(.ref bb), (.double al), (.int (x + ((4 : Int32) * rs))), (.ref rr)]))
  refine own_up (fun _ k => XS.iload X4.here hx rfl (hb hby d4_114) rfl k) ?_
  show own_Go p.tables e below _ (T4.setTop (mkF m 116 #[.val (.ref ks), .val (.ref aa), .val (.ref bb), .val (.ref rr), .val (.int ta), .val (.int rs), .val (.int tb), .val (.int bs), .val (.int bq), .val (.int cnt), .val (.double al), .second, .val (.int v), .val (.int x), .val (.int y)] [(.int y), (.ref bb), (.double al), (.int (x + ((4 : Int32) * rs))), (.ref rr)]))
  refine own_up (fun _ k => XS.iconst X4.here hx rfl (hb hby d4_116) k) ?_
  show own_Go p.tables e below _ (T4.setTop (mkF m 117 #[.val (.ref ks), .val (.ref aa), .val (.ref bb), .val (.ref rr), .val (.int ta), .val (.int rs), .val (.int tb), .val (.int bs), .val (.int bq), .val (.int cnt), .val (.double al), .second, .val (.int v), .val (.int x), .val (.int y)] [(.int (4 : Int32)), (.int y), (.ref bb), (.double al), (.int (x + ((4 : Int32) * rs))), (.ref rr)]))
  refine own_up (fun _ k => XS.iload X4.here hx rfl (hb hby d4_117) rfl k) ?_
  show own_Go p.tables e below _ (T4.setTop (mkF m 119 #[.val (.ref ks), .val (.ref aa), .val (.ref bb), .val (.ref rr), .val (.int ta), .val (.int rs), .val (.int tb), .val (.int bs), .val (.int bq), .val (.int cnt), .val (.double al), .second, .val (.int v), .val (.int x), .val (.int y)] [(.int bq), (.int (4 : Int32)), (.int y), (.ref bb), (.double al), (.int (x + ((4 : Int32) * rs))), (.ref rr)]))
  refine own_up (fun _ k => XS.imul X4.here hx rfl (hb hby d4_119) rfl k) ?_
  show own_Go p.tables e below _ (T4.setTop (mkF m 120 #[.val (.ref ks), .val (.ref aa), .val (.ref bb), .val (.ref rr), .val (.int ta), .val (.int rs), .val (.int tb), .val (.int bs), .val (.int bq), .val (.int cnt), .val (.double al), .second, .val (.int v), .val (.int x), .val (.int y)] [(.int ((4 : Int32) * bq)), (.int y), (.ref bb), (.double al), (.int (x + ((4 : Int32) * rs))), (.ref rr)]))
  refine own_up (fun _ k => XS.iadd X4.here hx rfl (hb hby d4_120) rfl k) ?_
  show own_Go p.tables e below _ (T4.setTop (mkF m 121 #[.val (.ref ks), .val (.ref aa), .val (.ref bb), .val (.ref rr), .val (.int ta), .val (.int rs), .val (.int tb), .val (.int bs), .val (.int bq), .val (.int cnt), .val (.double al), .second, .val (.int v), .val (.int x), .val (.int y)] [(.int (y + ((4 : Int32) * bq))), (.ref bb), (.double al), (.int (x + ((4 : Int32) * rs))), (.ref rr)]))
  refine own_up (fun _ k => own_Arf.daload G_bb X4 hx hZ e4 j4.1 j4.2 (v := (.double (ub ((y + ((4 : Int32) * bq))).toNatClampNeg))) rfl (g := (mkF m 121 #[.val (.ref ks), .val (.ref aa), .val (.ref bb), .val (.ref rr), .val (.int ta), .val (.int rs), .val (.int tb), .val (.int bs), .val (.int bq), .val (.int cnt), .val (.double al), .second, .val (.int v), .val (.int x), .val (.int y)] [(.int (y + ((4 : Int32) * bq))), (.ref bb), (.double al), (.int (x + ((4 : Int32) * rs))), (.ref rr)])) rfl rfl (hb hby d4_121) _ k) ?_
  show own_Go p.tables e below _ (T4.setTop (mkF m 122 #[.val (.ref ks), .val (.ref aa), .val (.ref bb), .val (.ref rr), .val (.int ta), .val (.int rs), .val (.int tb), .val (.int bs), .val (.int bq), .val (.int cnt), .val (.double al), .second, .val (.int v), .val (.int x), .val (.int y)] [(.double (ub ((y + ((4 : Int32) * bq))).toNatClampNeg)), (.double al), (.int (x + ((4 : Int32) * rs))), (.ref rr)]))
  refine own_up (fun _ k => XS.dmulS X4.here hx rfl (v := (FP.dmul al (ub ((y + ((4 : Int32) * bq))).toNatClampNeg))) (hb hby d4_122) rfl (dmul_out hal (hub _)) rfl k) ?_
  show own_Go p.tables e below _ (T4.setTop (mkF m 123 #[.val (.ref ks), .val (.ref aa), .val (.ref bb), .val (.ref rr), .val (.int ta), .val (.int rs), .val (.int tb), .val (.int bs), .val (.int bq), .val (.int cnt), .val (.double al), .second, .val (.int v), .val (.int x), .val (.int y)] [(.double (FP.dmul al (ub ((y + ((4 : Int32) * bq))).toNatClampNeg))), (.int (x + ((4 : Int32) * rs))), (.ref rr)]))
  obtain ⟨cl5, Ar5, sz5, nz5, hc5⟩ := id G_rr
  obtain ⟨T5, h5, X5, e5, W5, st5⟩ := stD X4 hx hZ e4 Ar5 (j := (x + ((4 : Int32) * rs))) (inb_of sz5 ⟨i4.1, i4.2⟩) (g := (mkF m 123 #[.val (.ref ks), .val (.ref aa), .val (.ref bb), .val (.ref rr), .val (.int ta), .val (.int rs), .val (.int tb), .val (.int bs), .val (.int bq), .val (.int cnt), .val (.double al), .second, .val (.int v), .val (.int x), .val (.int y)] [(.double (FP.dmul al (ub ((y + ((4 : Int32) * bq))).toNatClampNeg))), (.int (x + ((4 : Int32) * rs))), (.ref rr)])) rfl rfl (hb hby d4_123)
  have G_rr : own_Arf Z h5 rr .double (64 : Int32) (fun i => .double ((own_upd (own_upd (own_upd (own_upd (own_upd ur x (FP.dmul al (ub (y).toNatClampNeg))) (x + rs) (FP.dmul al (ub ((y + bq)).toNatClampNeg))) (x + ((2 : Int32) * rs)) (FP.dmul al (ub ((y + ((2 : Int32) * bq))).toNatClampNeg))) (x + ((3 : Int32) * rs)) (FP.dmul al (ub ((y + ((3 : Int32) * bq))).toNatClampNeg))) (x + ((4 : Int32) * rs)) (FP.dmul al (ub ((y + ((4 : Int32) * bq))).toNatClampNeg))) i)) := own_Arf.setD G_rr W5
  have N5 := Fr.snoc X5 N4 g_rr
  have G_bb := G_bb.other W5 ne_bb_rr
  have ZH := Nat.le_trans ZH (Nat.le_of_eq W5.size.symm)
  have KK := KK.wr W5 (Or.inl (List.mem_of_getElem? (i := 0) rfl))
  refine own_up st5 ?_
  show own_Go p.tables e below _ (T5.setTop (mkF m 124 #[.val (.ref ks), .val (.ref aa), .val (.ref bb), .val (.ref rr), .val (.int ta), .val (.int rs), .val (.int tb), .val (.int bs), .val (.int bq), .val (.int cnt), .val (.double al), .second, .val (.int v), .val (.int x), .val (.int y)] []))
  refine own_up (fun _ k => XS.aloadN X5.here hx rfl (hb hby d4_124) rfl rfl k) ?_
  show own_Go p.tables e below _ (T5.setTop (mkF m 125 #[.val (.ref ks), .val (.ref aa), .val (.ref bb), .val (.ref rr), .val (.int ta), .val (.int rs), .val (.int tb), .val (.int bs), .val (.int bq), .val (.int cnt), .val (.double al), .second, .val (.int v), .val (.int x), .val (.int y)] [(.ref rr)]))
  refine own_up (fun _ k => XS.iload X5.here hx rfl (hb hby d4_125) rfl k) ?_
  show own_Go p.tables e below _ (T5.setTop (mkF m 127 #[.val (.ref ks), .val (.ref aa), .val (.ref bb), .val (.ref rr), .val (.int ta), .val (.int rs), .val (.int tb), .val (.int bs), .val (.int bq), .val (.int cnt), .val (.double al), .second, .val (.int v), .val (.int x), .val (.int y)] [(.int x), (.ref rr)]))
  refine own_up (fun _ k => XS.iconst X5.here hx rfl (hb hby d4_127) k) ?_
  show own_Go p.tables e below _ (T5.setTop (mkF m 128 #[.val (.ref ks), .val (.ref aa), .val (.ref bb), .val (.ref rr), .val (.int ta), .val (.int rs), .val (.int tb), .val (.int bs), .val (.int bq), .val (.int cnt), .val (.double al), .second, .val (.int v), .val (.int x), .val (.int y)] [(.int (5 : Int32)), (.int x), (.ref rr)]))
  refine own_up (fun _ k => XS.iload X5.here hx rfl (hb hby d4_128) rfl k) ?_
  show own_Go p.tables e below _ (T5.setTop (mkF m 130 #[.val (.ref ks), .val (.ref aa), .val (.ref bb), .val (.ref rr), .val (.int ta), .val (.int rs), .val (.int tb), .val (.int bs), .val (.int bq), .val (.int cnt), .val (.double al), .second, .val (.int v), .val (.int x), .val (.int y)] [(.int rs), (.int (5 : Int32)), (.int x), (.ref rr)]))
  refine own_up (fun _ k => XS.imul X5.here hx rfl (hb hby d4_130) rfl k) ?_
  show own_Go p.tables e below _ (T5.setTop (mkF m 131 #[.val (.ref ks), .val (.ref aa), .val (.ref bb), .val (.ref rr), .val (.int ta), .val (.int rs), .val (.int tb), .val (.int bs), .val (.int bq), .val (.int cnt), .val (.double al), .second, .val (.int v), .val (.int x), .val (.int y)] [(.int ((5 : Int32) * rs)), (.int x), (.ref rr)]))
  refine own_up (fun _ k => XS.iadd X5.here hx rfl (hb hby d4_131) rfl k) ?_
  show own_Go p.tables e below _ (T5.setTop (mkF m 132 #[.val (.ref ks), .val (.ref aa), .val (.ref bb), .val (.ref rr), .val (.int ta), .val (.int rs), .val (.int tb), .val (.int bs), .val (.int bq), .val (.int cnt), .val (.double al), .second, .val (.int v), .val (.int x), .val (.int y)] [(.int (x + ((5 : Int32) * rs))), (.ref rr)]))
  refine own_up (fun _ k => XS.dload X5.here hx rfl (hb hby d4_132) rfl k) ?_
  show own_Go p.tables e below _ (T5.setTop (mkF m 134 #[.val (.ref ks), .val (.ref aa), .val (.ref bb), .val (.ref rr), .val (.int ta), .val (.int rs), .val (.int tb), .val (.int bs), .val (.int bq), .val (.int cnt), .val (.double al), .second, .val (.int v), .val (.int x), .val (.int y)] [(.double al), (.int (x + ((5 : Int32) * rs))), (.ref rr)]))
  refine own_up (fun _ k => XS.aloadN X5.here hx rfl (hb hby d4_134) rfl rfl k) ?_
  show own_Go p.tables e below _ (T5.setTop (mkF m 135 #[.val (.ref ks), .val (.ref aa), .val (.ref bb), .val (.ref rr), .val (.int ta), .val (.int rs), .val (.int tb), .val (.int bs), .val (.int bq), .val (.int cnt), .val (.double al), .second, .val (.int v), .val (.int x), .val (.int y)] [(.ref bb), (.double al), (.int (x + ((5 : Int32) * rs))), (.ref rr)]))
  refine own_up (fun _ k => XS.iload X5.here hx rfl (hb hby d4_135) rfl k) ?_
  show own_Go p.tables e below _ (T5.setTop (mkF m 137 #[.val (.ref ks), .val (.ref aa), .val (.ref bb), .val (.ref rr), .val (.int ta), .val (.int rs), .val (.int tb), .val (.int bs), .val (.int bq), .val (.int cnt), .val (.double al), .second, .val (.int v), .val (.int x), .val (.int y)] [(.int y), (.ref bb), (.double al), (.int (x + ((5 : Int32) * rs))), (.ref rr)]))
  refine own_up (fun _ k => XS.iconst X5.here hx rfl (hb hby d4_137) k) ?_
  show own_Go p.tables e below _ (T5.setTop (mkF m 138 #[.val (.ref ks), .val (.ref aa), .val (.ref bb), .val (.ref rr), .val (.int ta), .val (.int rs), .val (.int tb), .val (.int bs), .val (.int bq), .val (.int cnt), .val (.double al), .second, .val (.int v), .val (.int x), .val (.int y)] [(.int (5 : Int32)), (.int y), (.ref bb), (.double al), (.int (x + ((5 : Int32) * rs))), (.ref rr)]))
  refine own_up (fun _ k => XS.iload X5.here hx rfl (hb hby d4_138) rfl k) ?_
  show own_Go p.tables e below _ (T5.setTop (mkF m 140 #[.val (.ref ks), .val (.ref aa), .val (.ref bb), .val (.ref rr), .val (.int ta), .val (.int rs), .val (.int tb), .val (.int bs), .val (.int bq), .val (.int cnt), .val (.double al), .second, .val (.int v), .val (.int x), .val (.int y)] [(.int bq), (.int (5 : Int32)), (.int y), (.ref bb), (.double al), (.int (x + ((5 : Int32) * rs))), (.ref rr)]))
  refine own_up (fun _ k => XS.imul X5.here hx rfl (hb hby d4_140) rfl k) ?_
  show own_Go p.tables e below _ (T5.setTop (mkF m 141 #[.val (.ref ks), .val (.ref aa), .val (.ref bb), .val (.ref rr), .val (.int ta), .val (.int rs), .val (.int tb), .val (.int bs), .val (.int bq), .val (.int cnt), .val (.double al), .second, .val (.int v), .val (.int x), .val (.int y)] [(.int ((5 : Int32) * bq)), (.int y), (.ref bb), (.double al), (.int (x + ((5 : Int32) * rs))), (.ref rr)]))
  refine own_up (fun _ k => XS.iadd X5.here hx rfl (hb hby d4_141) rfl k) ?_
  show own_Go p.tables e below _ (T5.setTop (mkF m 142 #[.val (.ref ks), .val (.ref aa), .val (.ref bb), .val (.ref rr), .val (.int ta), .val (.int rs), .val (.int tb), .val (.int bs), .val (.int bq), .val (.int cnt), .val (.double al), .second, .val (.int v), .val (.int x), .val (.int y)] [(.int (y + ((5 : Int32) * bq))), (.ref bb), (.double al), (.int (x + ((5 : Int32) * rs))), (.ref rr)]))
  refine own_up (fun _ k => own_Arf.daload G_bb X5 hx hZ e5 j5.1 j5.2 (v := (.double (ub ((y + ((5 : Int32) * bq))).toNatClampNeg))) rfl (g := (mkF m 142 #[.val (.ref ks), .val (.ref aa), .val (.ref bb), .val (.ref rr), .val (.int ta), .val (.int rs), .val (.int tb), .val (.int bs), .val (.int bq), .val (.int cnt), .val (.double al), .second, .val (.int v), .val (.int x), .val (.int y)] [(.int (y + ((5 : Int32) * bq))), (.ref bb), (.double al), (.int (x + ((5 : Int32) * rs))), (.ref rr)])) rfl rfl (hb hby d4_142) _ k) ?_
  show own_Go p.tables e below _ (T5.setTop (mkF m 143 #[.val (.ref ks), .val (.ref aa), .val (.ref bb), .val (.ref rr), .val (.int ta), .val (.int rs), .val (.int tb), .val (.int bs), .val (.int bq), .val (.int cnt), .val (.double al), .second, .val (.int v), .val (.int x), .val (.int y)] [(.double (ub ((y + ((5 : Int32) * bq))).toNatClampNeg)), (.double al), (.int (x + ((5 : Int32) * rs))), (.ref rr)]))
  refine own_up (fun _ k => XS.dmulS X5.here hx rfl (v := (FP.dmul al (ub ((y + ((5 : Int32) * bq))).toNatClampNeg))) (hb hby d4_143) rfl (dmul_out hal (hub _)) rfl k) ?_
  show own_Go p.tables e below _ (T5.setTop (mkF m 144 #[.val (.ref ks), .val (.ref aa), .val (.ref bb), .val (.ref rr), .val (.int ta), .val (.int rs), .val (.int tb), .val (.int bs), .val (.int bq), .val (.int cnt), .val (.double al), .second, .val (.int v), .val (.int x), .val (.int y)] [(.double (FP.dmul al (ub ((y + ((5 : Int32) * bq))).toNatClampNeg))), (.int (x + ((5 : Int32) * rs))), (.ref rr)]))
  obtain ⟨cl6, Ar6, sz6, nz6, hc6⟩ := id G_rr
  obtain ⟨T6, h6, X6, e6, W6, st6⟩ := stD X5 hx hZ e5 Ar6 (j := (x + ((5 : Int32) * rs))) (inb_of sz6 ⟨i5.1, i5.2⟩) (g := (mkF m 144 #[.val (.ref ks), .val (.ref aa), .val (.ref bb), .val (.ref rr), .val (.int ta), .val (.int rs), .val (.int tb), .val (.int bs), .val (.int bq), .val (.int cnt), .val (.double al), .second, .val (.int v), .val (.int x), .val (.int y)] [(.double (FP.dmul al (ub ((y + ((5 : Int32) * bq))).toNatClampNeg))), (.int (x + ((5 : Int32) * rs))), (.ref rr)])) rfl rfl (hb hby d4_144)
  have G_rr : own_Arf Z h6 rr .double (64 : Int32) (fun i => .double ((own_upd (own_upd (own_upd (own_upd (own_upd (own_upd ur x (FP.dmul al (ub (y).toNatClampNeg))) (x + rs) (FP.dmul al (ub ((y + bq)).toNatClampNeg))) (x + ((2 : Int32) * rs)) (FP.dmul al (ub ((y + ((2 : Int32) * bq))).toNatClampNeg))) (x + ((3 : Int32) * rs)) (FP.dmul al (ub ((y + ((3 : Int32) * bq))).toNatClampNeg))) (x + ((4 : Int32) * rs)) (FP.dmul al (ub ((y + ((4 : Int32) * bq))).toNatClampNeg))) (x + ((5 : Int32) * rs)) (FP.dmul al (ub ((y + ((5 : Int32) * bq))).toNatClampNeg))) i)) := own_Arf.setD G_rr W6
  have N6 := Fr.snoc X6 N5 g_rr
  have G_bb := G_bb.other W6 ne_bb_rr
  have ZH := Nat.le_trans ZH (Nat.le_of_eq W6.size.symm)
  have KK := KK.wr W6 (Or.inl (List.mem_of_getElem? (i := 0) rfl))
  refine own_up st6 ?_
  show own_Go p.tables e below _ (T6.setTop (mkF m 145 #[.val (.ref ks), .val (.ref aa), .val (.ref bb), .val (.ref rr), .val (.int ta), .val (.int rs), .val (.int tb), .val (.int bs), .val (.int bq), .val (.int cnt), .val (.double al), .second, .val (.int v), .val (.int x), .val (.int y)] []))
  refine own_up (fun _ k => XS.aloadN X6.here hx rfl (hb hby d4_145) rfl rfl k) ?_
  show own_Go p.tables e below _ (T6.setTop (mkF m 146 #[.val (.ref ks), .val (.ref aa), .val (.ref bb), .val (.ref rr), .val (.int ta), .val (.int rs), .val (.int tb), .val (.int bs), .val (.int bq), .val (.int cnt), .val (.double al), .second, .val (.int v), .val (.int x), .val (.int y)] [(.ref rr)]))
  refine own_up (fun _ k => XS.iload X6.here hx rfl (hb hby d4_146) rfl k) ?_
  show own_Go p.tables e below _ (T6.setTop (mkF m 148 #[.val (.ref ks), .val (.ref aa), .val (.ref bb), .val (.ref rr), .val (.int ta), .val (.int rs), .val (.int tb), .val (.int bs), .val (.int bq), .val (.int cnt), .val (.double al), .second, .val (.int v), .val (.int x), .val (.int y)] [(.int x), (.ref rr)]))
  refine own_up (fun _ k => XS.bipush X6.here hx rfl (hb hby d4_148) k) ?_
  show own_Go p.tables e below _ (T6.setTop (mkF m 150 #[.val (.ref ks), .val (.ref aa), .val (.ref bb), .val (.ref rr), .val (.int ta), .val (.int rs), .val (.int tb), .val (.int bs), .val (.int bq), .val (.int cnt), .val (.double al), .second, .val (.int v), .val (.int x), .val (.int y)] [(.int (6 : Int32)), (.int x), (.ref rr)]))
  refine own_up (fun _ k => XS.iload X6.here hx rfl (hb hby d4_150) rfl k) ?_
  show own_Go p.tables e below _ (T6.setTop (mkF m 152 #[.val (.ref ks), .val (.ref aa), .val (.ref bb), .val (.ref rr), .val (.int ta), .val (.int rs), .val (.int tb), .val (.int bs), .val (.int bq), .val (.int cnt), .val (.double al), .second, .val (.int v), .val (.int x), .val (.int y)] [(.int rs), (.int (6 : Int32)), (.int x), (.ref rr)]))
  refine own_up (fun _ k => XS.imul X6.here hx rfl (hb hby d4_152) rfl k) ?_
  show own_Go p.tables e below _ (T6.setTop (mkF m 153 #[.val (.ref ks), .val (.ref aa), .val (.ref bb), .val (.ref rr), .val (.int ta), .val (.int rs), .val (.int tb), .val (.int bs), .val (.int bq), .val (.int cnt), .val (.double al), .second, .val (.int v), .val (.int x), .val (.int y)] [(.int ((6 : Int32) * rs)), (.int x), (.ref rr)]))
  refine own_up (fun _ k => XS.iadd X6.here hx rfl (hb hby d4_153) rfl k) ?_
  show own_Go p.tables e below _ (T6.setTop (mkF m 154 #[.val (.ref ks), .val (.ref aa), .val (.ref bb), .val (.ref rr), .val (.int ta), .val (.int rs), .val (.int tb), .val (.int bs), .val (.int bq), .val (.int cnt), .val (.double al), .second, .val (.int v), .val (.int x), .val (.int y)] [(.int (x + ((6 : Int32) * rs))), (.ref rr)]))
  refine own_up (fun _ k => XS.dload X6.here hx rfl (hb hby d4_154) rfl k) ?_
  show own_Go p.tables e below _ (T6.setTop (mkF m 156 #[.val (.ref ks), .val (.ref aa), .val (.ref bb), .val (.ref rr), .val (.int ta), .val (.int rs), .val (.int tb), .val (.int bs), .val (.int bq), .val (.int cnt), .val (.double al), .second, .val (.int v), .val (.int x), .val (.int y)] [(.double al), (.int (x + ((6 : Int32) * rs))), (.ref rr)]))
  refine own_up (fun _ k => XS.aloadN X6.here hx rfl (hb hby d4_156) rfl rfl k) ?_
  show own_Go p.tables e below _ (T6.setTop (mkF m 157 #[.val (.ref ks), .val (.ref aa), .val (.ref bb), .val (.ref rr), .val (.int ta), .val (.int rs), .val (.int tb), .val (.int bs), .val (.int bq), .val (.int cnt), .val (.double al), .second, .val (.int v), .val (.int x), .val (.int y)] [(.ref bb), (.double al), (.int (x + ((6 : Int32) * rs))), (.ref rr)]))
  refine own_up (fun _ k => XS.iload X6.here hx rfl (hb hby d4_157) rfl k) ?_
  show own_Go p.tables e below _ (T6.setTop (mkF m 159 #[.val (.ref ks), .val (.ref aa), .val (.ref bb), .val (.ref rr), .val (.int ta), .val (.int rs), .val (.int tb), .val (.int bs), .val (.int bq), .val (.int cnt), .val (.double al), .second, .val (.int v), .val (.int x), .val (.int y)] [(.int y), (.ref bb), (.double al), (.int (x + ((6 : Int32) * rs))), (.ref rr)]))
  refine own_up (fun _ k => XS.bipush X6.here hx rfl (hb hby d4_159) k) ?_
  show own_Go p.tables e below _ (T6.setTop (mkF m 161 #[.val (.ref ks), .val (.ref aa), .val (.ref bb), .val (.ref rr), .val (.int ta), .val (.int rs), .val (.int tb), .val (.int bs), .val (.int bq), .val (.int cnt), .val (.double al), .second, .val (.int v), .val (.int x), .val (.int y)] [(.int (6 : Int32)), (.int y), (.ref bb), (.double al), (.int (x + ((6 : Int32) * rs))), (.ref rr)]))
  refine own_up (fun _ k => XS.iload X6.here hx rfl (hb hby d4_161) rfl k) ?_
  show own_Go p.tables e below _ (T6.setTop (mkF m 163 #[.val (.ref ks), .val (.ref aa), .val (.ref bb), .val (.ref rr), .val (.int ta), .val (.int rs), .val (.int tb), .val (.int bs), .val (.int bq), .val (.int cnt), .val (.double al), .second, .val (.int v), .val (.int x), .val (.int y)] [(.int bq), (.int (6 : Int32)), (.int y), (.ref bb), (.double al), (.int (x + ((6 : Int32) * rs))), (.ref rr)]))
  refine own_up (fun _ k => XS.imul X6.here hx rfl (hb hby d4_163) rfl k) ?_
  show own_Go p.tables e below _ (T6.setTop (mkF m 164 #[.val (.ref ks), .val (.ref aa), .val (.ref bb), .val (.ref rr), .val (.int ta), .val (.int rs), .val (.int tb), .val (.int bs), .val (.int bq), .val (.int cnt), .val (.double al), .second, .val (.int v), .val (.int x), .val (.int y)] [(.int ((6 : Int32) * bq)), (.int y), (.ref bb), (.double al), (.int (x + ((6 : Int32) * rs))), (.ref rr)]))
  refine own_up (fun _ k => XS.iadd X6.here hx rfl (hb hby d4_164) rfl k) ?_
  show own_Go p.tables e below _ (T6.setTop (mkF m 165 #[.val (.ref ks), .val (.ref aa), .val (.ref bb), .val (.ref rr), .val (.int ta), .val (.int rs), .val (.int tb), .val (.int bs), .val (.int bq), .val (.int cnt), .val (.double al), .second, .val (.int v), .val (.int x), .val (.int y)] [(.int (y + ((6 : Int32) * bq))), (.ref bb), (.double al), (.int (x + ((6 : Int32) * rs))), (.ref rr)]))
  refine own_up (fun _ k => own_Arf.daload G_bb X6 hx hZ e6 j6.1 j6.2 (v := (.double (ub ((y + ((6 : Int32) * bq))).toNatClampNeg))) rfl (g := (mkF m 165 #[.val (.ref ks), .val (.ref aa), .val (.ref bb), .val (.ref rr), .val (.int ta), .val (.int rs), .val (.int tb), .val (.int bs), .val (.int bq), .val (.int cnt), .val (.double al), .second, .val (.int v), .val (.int x), .val (.int y)] [(.int (y + ((6 : Int32) * bq))), (.ref bb), (.double al), (.int (x + ((6 : Int32) * rs))), (.ref rr)])) rfl rfl (hb hby d4_165) _ k) ?_
  show own_Go p.tables e below _ (T6.setTop (mkF m 166 #[.val (.ref ks), .val (.ref aa), .val (.ref bb), .val (.ref rr), .val (.int ta), .val (.int rs), .val (.int tb), .val (.int bs), .val (.int bq), .val (.int cnt), .val (.double al), .second, .val (.int v), .val (.int x), .val (.int y)] [(.double (ub ((y + ((6 : Int32) * bq))).toNatClampNeg)), (.double al), (.int (x + ((6 : Int32) * rs))), (.ref rr)]))
  refine own_up (fun _ k => XS.dmulS X6.here hx rfl (v := (FP.dmul al (ub ((y + ((6 : Int32) * bq))).toNatClampNeg))) (hb hby d4_166) rfl (dmul_out hal (hub _)) rfl k) ?_
  show own_Go p.tables e below _ (T6.setTop (mkF m 167 #[.val (.ref ks), .val (.ref aa), .val (.ref bb), .val (.ref rr), .val (.int ta), .val (.int rs), .val (.int tb), .val (.int bs), .val (.int bq), .val (.int cnt), .val (.double al), .second, .val (.int v), .val (.int x), .val (.int y)] [(.double (FP.dmul al (ub ((y + ((6 : Int32) * bq))).toNatClampNeg))), (.int (x + ((6 : Int32) * rs))), (.ref rr)]))
  obtain ⟨cl7, Ar7, sz7, nz7, hc7⟩ := id G_rr
  obtain ⟨T7, h7, X7, e7, W7, st7⟩ := stD X6 hx hZ e6 Ar7 (j := (x + ((6 : Int32) * rs))) (inb_of sz7 ⟨i6.1, i6.2⟩) (g := (mkF m 167 #[.val (.ref ks), .val (.ref aa), .val (.ref bb), .val (.ref rr), .val (.int ta), .val (.int rs), .val (.int tb), .val (.int bs), .val (.int bq), .val (.int cnt), .val (.double al), .second, .val (.int v), .val (.int x), .val (.int y)] [(.double (FP.dmul al (ub ((y + ((6 : Int32) * bq))).toNatClampNeg))), (.int (x + ((6 : Int32) * rs))), (.ref rr)])) rfl rfl (hb hby d4_167)
  have G_rr : own_Arf Z h7 rr .double (64 : Int32) (fun i => .double ((own_upd (own_upd (own_upd (own_upd (own_upd (own_upd (own_upd ur x (FP.dmul al (ub (y).toNatClampNeg))) (x + rs) (FP.dmul al (ub ((y + bq)).toNatClampNeg))) (x + ((2 : Int32) * rs)) (FP.dmul al (ub ((y + ((2 : Int32) * bq))).toNatClampNeg))) (x + ((3 : Int32) * rs)) (FP.dmul al (ub ((y + ((3 : Int32) * bq))).toNatClampNeg))) (x + ((4 : Int32) * rs)) (FP.dmul al (ub ((y + ((4 : Int32) * bq))).toNatClampNeg))) (x + ((5 : Int32) * rs)) (FP.dmul al (ub ((y + ((5 : Int32) * bq))).toNatClampNeg))) (x + ((6 : Int32) * rs)) (FP.dmul al (ub ((y + ((6 : Int32) * bq))).toNatClampNeg))) i)) := own_Arf.setD G_rr W7
  have N7 := Fr.snoc X7 N6 g_rr
  have G_bb := G_bb.other W7 ne_bb_rr
  have ZH := Nat.le_trans ZH (Nat.le_of_eq W7.size.symm)
  have KK := KK.wr W7 (Or.inl (List.mem_of_getElem? (i := 0) rfl))
  refine own_up st7 ?_
  show own_Go p.tables e below _ (T7.setTop (mkF m 168 #[.val (.ref ks), .val (.ref aa), .val (.ref bb), .val (.ref rr), .val (.int ta), .val (.int rs), .val (.int tb), .val (.int bs), .val (.int bq), .val (.int cnt), .val (.double al), .second, .val (.int v), .val (.int x), .val (.int y)] []))
  refine own_up (fun _ k => XS.aloadN X7.here hx rfl (hb hby d4_168) rfl rfl k) ?_
  show own_Go p.tables e below _ (T7.setTop (mkF m 169 #[.val (.ref ks), .val (.ref aa), .val (.ref bb), .val (.ref rr), .val (.int ta), .val (.int rs), .val (.int tb), .val (.int bs), .val (.int bq), .val (.int cnt), .val (.double al), .second, .val (.int v), .val (.int x), .val (.int y)] [(.ref rr)]))
  refine own_up (fun _ k => XS.iload X7.here hx rfl (hb hby d4_169) rfl k) ?_
  show own_Go p.tables e below _ (T7.setTop (mkF m 171 #[.val (.ref ks), .val (.ref aa), .val (.ref bb), .val (.ref rr), .val (.int ta), .val (.int rs), .val (.int tb), .val (.int bs), .val (.int bq), .val (.int cnt), .val (.double al), .second, .val (.int v), .val (.int x), .val (.int y)] [(.int x), (.ref rr)]))
  refine own_up (fun _ k => XS.bipush X7.here hx rfl (hb hby d4_171) k) ?_
  show own_Go p.tables e below _ (T7.setTop (mkF m 173 #[.val (.ref ks), .val (.ref aa), .val (.ref bb), .val (.ref rr), .val (.int ta), .val (.int rs), .val (.int tb), .val (.int bs), .val (.int bq), .val (.int cnt), .val (.double al), .second, .val (.int v), .val (.int x), .val (.int y)] [(.int (7 : Int32)), (.int x), (.ref rr)]))
  refine own_up (fun _ k => XS.iload X7.here hx rfl (hb hby d4_173) rfl k) ?_
  show own_Go p.tables e below _ (T7.setTop (mkF m 175 #[.val (.ref ks), .val (.ref aa), .val (.ref bb), .val (.ref rr), .val (.int ta), .val (.int rs), .val (.int tb), .val (.int bs), .val (.int bq), .val (.int cnt), .val (.double al), .second, .val (.int v), .val (.int x), .val (.int y)] [(.int rs), (.int (7 : Int32)), (.int x), (.ref rr)]))
  refine own_up (fun _ k => XS.imul X7.here hx rfl (hb hby d4_175) rfl k) ?_
  show own_Go p.tables e below _ (T7.setTop (mkF m 176 #[.val (.ref ks), .val (.ref aa), .val (.ref bb), .val (.ref rr), .val (.int ta), .val (.int rs), .val (.int tb), .val (.int bs), .val (.int bq), .val (.int cnt), .val (.double al), .second, .val (.int v), .val (.int x), .val (.int y)] [(.int ((7 : Int32) * rs)), (.int x), (.ref rr)]))
  refine own_up (fun _ k => XS.iadd X7.here hx rfl (hb hby d4_176) rfl k) ?_
  show own_Go p.tables e below _ (T7.setTop (mkF m 177 #[.val (.ref ks), .val (.ref aa), .val (.ref bb), .val (.ref rr), .val (.int ta), .val (.int rs), .val (.int tb), .val (.int bs), .val (.int bq), .val (.int cnt), .val (.double al), .second, .val (.int v), .val (.int x), .val (.int y)] [(.int (x + ((7 : Int32) * rs))), (.ref rr)]))
  refine own_up (fun _ k => XS.dload X7.here hx rfl (hb hby d4_177) rfl k) ?_
  show own_Go p.tables e below _ (T7.setTop (mkF m 179 #[.val (.ref ks), .val (.ref aa), .val (.ref bb), .val (.ref rr), .val (.int ta), .val (.int rs), .val (.int tb), .val (.int bs), .val (.int bq), .val (.int cnt), .val (.double al), .second, .val (.int v), .val (.int x), .val (.int y)] [(.double al), (.int (x + ((7 : Int32) * rs))), (.ref rr)]))
  refine own_up (fun _ k => XS.aloadN X7.here hx rfl (hb hby d4_179) rfl rfl k) ?_
  show own_Go p.tables e below _ (T7.setTop (mkF m 180 #[.val (.ref ks), .val (.ref aa), .val (.ref bb), .val (.ref rr), .val (.int ta), .val (.int rs), .val (.int tb), .val (.int bs), .val (.int bq), .val (.int cnt), .val (.double al), .second, .val (.int v), .val (.int x), .val (.int y)] [(.ref bb), (.double al), (.int (x + ((7 : Int32) * rs))), (.ref rr)]))
  refine own_up (fun _ k => XS.iload X7.here hx rfl (hb hby d4_180) rfl k) ?_
  show own_Go p.tables e below _ (T7.setTop (mkF m 182 #[.val (.ref ks), .val (.ref aa), .val (.ref bb), .val (.ref rr), .val (.int ta), .val (.int rs), .val (.int tb), .val (.int bs), .val (.int bq), .val (.int cnt), .val (.double al), .second, .val (.int v), .val (.int x), .val (.int y)] [(.int y), (.ref bb), (.double al), (.int (x + ((7 : Int32) * rs))), (.ref rr)]))
  refine own_up (fun _ k => XS.bipush X7.here hx rfl (hb hby d4_182) k) ?_
  show own_Go p.tables e below _ (T7.setTop (mkF m 184 #[.val (.ref ks), .val (.ref aa), .val (.ref bb), .val (.ref rr), .val (.int ta), .val (.int rs), .val (.int tb), .val (.int bs), .val (.int bq), .val (.int cnt), .val (.double al), .second, .val (.int v), .val (.int x), .val (.int y)] [(.int (7 : Int32)), (.int y), (.ref bb), (.double al), (.int (x + ((7 : Int32) * rs))), (.ref rr)]))
  refine own_up (fun _ k => XS.iload X7.here hx rfl (hb hby d4_184) rfl k) ?_
  show own_Go p.tables e below _ (T7.setTop (mkF m 186 #[.val (.ref ks), .val (.ref aa), .val (.ref bb), .val (.ref rr), .val (.int ta), .val (.int rs), .val (.int tb), .val (.int bs), .val (.int bq), .val (.int cnt), .val (.double al), .second, .val (.int v), .val (.int x), .val (.int y)] [(.int bq), (.int (7 : Int32)), (.int y), (.ref bb), (.double al), (.int (x + ((7 : Int32) * rs))), (.ref rr)]))
  refine own_up (fun _ k => XS.imul X7.here hx rfl (hb hby d4_186) rfl k) ?_
  show own_Go p.tables e below _ (T7.setTop (mkF m 187 #[.val (.ref ks), .val (.ref aa), .val (.ref bb), .val (.ref rr), .val (.int ta), .val (.int rs), .val (.int tb), .val (.int bs), .val (.int bq), .val (.int cnt), .val (.double al), .second, .val (.int v), .val (.int x), .val (.int y)] [(.int ((7 : Int32) * bq)), (.int y), (.ref bb), (.double al), (.int (x + ((7 : Int32) * rs))), (.ref rr)]))
  refine own_up (fun _ k => XS.iadd X7.here hx rfl (hb hby d4_187) rfl k) ?_
  show own_Go p.tables e below _ (T7.setTop (mkF m 188 #[.val (.ref ks), .val (.ref aa), .val (.ref bb), .val (.ref rr), .val (.int ta), .val (.int rs), .val (.int tb), .val (.int bs), .val (.int bq), .val (.int cnt), .val (.double al), .second, .val (.int v), .val (.int x), .val (.int y)] [(.int (y + ((7 : Int32) * bq))), (.ref bb), (.double al), (.int (x + ((7 : Int32) * rs))), (.ref rr)]))
  refine own_up (fun _ k => own_Arf.daload G_bb X7 hx hZ e7 j7.1 j7.2 (v := (.double (ub ((y + ((7 : Int32) * bq))).toNatClampNeg))) rfl (g := (mkF m 188 #[.val (.ref ks), .val (.ref aa), .val (.ref bb), .val (.ref rr), .val (.int ta), .val (.int rs), .val (.int tb), .val (.int bs), .val (.int bq), .val (.int cnt), .val (.double al), .second, .val (.int v), .val (.int x), .val (.int y)] [(.int (y + ((7 : Int32) * bq))), (.ref bb), (.double al), (.int (x + ((7 : Int32) * rs))), (.ref rr)])) rfl rfl (hb hby d4_188) _ k) ?_
  show own_Go p.tables e below _ (T7.setTop (mkF m 189 #[.val (.ref ks), .val (.ref aa), .val (.ref bb), .val (.ref rr), .val (.int ta), .val (.int rs), .val (.int tb), .val (.int bs), .val (.int bq), .val (.int cnt), .val (.double al), .second, .val (.int v), .val (.int x), .val (.int y)] [(.double (ub ((y + ((7 : Int32) * bq))).toNatClampNeg)), (.double al), (.int (x + ((7 : Int32) * rs))), (.ref rr)]))
  refine own_up (fun _ k => XS.dmulS X7.here hx rfl (v := (FP.dmul al (ub ((y + ((7 : Int32) * bq))).toNatClampNeg))) (hb hby d4_189) rfl (dmul_out hal (hub _)) rfl k) ?_
  show own_Go p.tables e below _ (T7.setTop (mkF m 190 #[.val (.ref ks), .val (.ref aa), .val (.ref bb), .val (.ref rr), .val (.int ta), .val (.int rs), .val (.int tb), .val (.int bs), .val (.int bq), .val (.int cnt), .val (.double al), .second, .val (.int v), .val (.int x), .val (.int y)] [(.double (FP.dmul al (ub ((y + ((7 : Int32) * bq))).toNatClampNeg))), (.int (x + ((7 : Int32) * rs))), (.ref rr)]))
  obtain ⟨cl8, Ar8, sz8, nz8, hc8⟩ := id G_rr
  obtain ⟨T8, h8, X8, e8, W8, st8⟩ := stD X7 hx hZ e7 Ar8 (j := (x + ((7 : Int32) * rs))) (inb_of sz8 ⟨i7.1, i7.2⟩) (g := (mkF m 190 #[.val (.ref ks), .val (.ref aa), .val (.ref bb), .val (.ref rr), .val (.int ta), .val (.int rs), .val (.int tb), .val (.int bs), .val (.int bq), .val (.int cnt), .val (.double al), .second, .val (.int v), .val (.int x), .val (.int y)] [(.double (FP.dmul al (ub ((y + ((7 : Int32) * bq))).toNatClampNeg))), (.int (x + ((7 : Int32) * rs))), (.ref rr)])) rfl rfl (hb hby d4_190)
  have G_rr : own_Arf Z h8 rr .double (64 : Int32) (fun i => .double ((own_upd (own_upd (own_upd (own_upd (own_upd (own_upd (own_upd (own_upd ur x (FP.dmul al (ub (y).toNatClampNeg))) (x + rs) (FP.dmul al (ub ((y + bq)).toNatClampNeg))) (x + ((2 : Int32) * rs)) (FP.dmul al (ub ((y + ((2 : Int32) * bq))).toNatClampNeg))) (x + ((3 : Int32) * rs)) (FP.dmul al (ub ((y + ((3 : Int32) * bq))).toNatClampNeg))) (x + ((4 : Int32) * rs)) (FP.dmul al (ub ((y + ((4 : Int32) * bq))).toNatClampNeg))) (x + ((5 : Int32) * rs)) (FP.dmul al (ub ((y + ((5 : Int32) * bq))).toNatClampNeg))) (x + ((6 : Int32) * rs)) (FP.dmul al (ub ((y + ((6 : Int32) * bq))).toNatClampNeg))) (x + ((7 : Int32) * rs)) (FP.dmul al (ub ((y + ((7 : Int32) * bq))).toNatClampNeg))) i)) := own_Arf.setD G_rr W8
  have N8 := Fr.snoc X8 N7 g_rr
  have G_bb := G_bb.other W8 ne_bb_rr
  have ZH := Nat.le_trans ZH (Nat.le_of_eq W8.size.symm)
  have KK := KK.wr W8 (Or.inl (List.mem_of_getElem? (i := 0) rfl))
  refine own_up st8 ?_
  show own_Go p.tables e below _ (T8.setTop (mkF m 191 #[.val (.ref ks), .val (.ref aa), .val (.ref bb), .val (.ref rr), .val (.int ta), .val (.int rs), .val (.int tb), .val (.int bs), .val (.int bq), .val (.int cnt), .val (.double al), .second, .val (.int v), .val (.int x), .val (.int y)] []))
  refine own_up (fun _ k => XS.iinc X8.here hx rfl (hb hby d4_191) rfl (l' := #[.val (.ref ks), .val (.ref aa), .val (.ref bb), .val (.ref rr), .val (.int ta), .val (.int rs), .val (.int tb), .val (.int bs), .val (.int bq), .val (.int cnt), .val (.double al), .second, .val (.int (v + (1 : Int32))), .val (.int x), .val (.int y)]) rfl k) ?_
  show own_Go p.tables e below _ (T8.setTop (mkF m 194 #[.val (.ref ks), .val (.ref aa), .val (.ref bb), .val (.ref rr), .val (.int ta), .val (.int rs), .val (.int tb), .val (.int bs), .val (.int bq), .val (.int cnt), .val (.double al), .second, .val (.int (v + (1 : Int32))), .val (.int x), .val (.int y)] []))
  refine own_up (fun _ k => XS.goto X8.here hx rfl (pc0 := 194) (pc' := 9) rfl (hb hby d4_194) (by decide) (by decide) k) ?_
  show own_Go p.tables e below _ (T8.setTop (mkF m 9 #[.val (.ref ks), .val (.ref aa), .val (.ref bb), .val (.ref rr), .val (.int ta), .val (.int rs), .val (.int tb), .val (.int bs), .val (.int bq), .val (.int cnt), .val (.double al), .second, .val (.int (v + (1 : Int32))), .val (.int x), .val (.int y)] []))
  exact K _ _ _ X8 e8 N8 KK G_bb G_rr
theorem d4_0 : decode prog_84_method_3_code 0 = .ok (.aload_n 0, 1) := by decide +kernel
theorem d4_1 : decode prog_84_method_3_code 1 = .ok (.getfield 7, 3) := by decide +kernel
theorem d4_4 : decode prog_84_method_3_code 4 = .ok (.dstore 10, 2) := by decide +kernel
theorem d4_6 : decode prog_84_method_3_code 6 = .ok (.iconst 0, 1) := by decide +kernel
theorem d4_7 : decode prog_84_method_3_code 7 = .ok (.istore 12, 2) := by decide +kernel
theorem d4_197 : decode prog_84_method_3_code 197 = .ok (.return_, 1) := by decide +kernel
theorem ef_rmE0 (m : MethodId) (x0 : Addr) (x1 : Addr) (x2 : Addr) (x3 : Addr) (x4 : Int32) (x5 : Int32) (x6 : Int32) (x7 : Int32) (x8 : Int32) (x9 : Int32) : entryFrame m #[(.ref x0), (.ref x1), (.ref x2), (.ref x3), (.int x4), (.int x5), (.int x6), (.int x7), (.int x8), (.int x9)] 15 = mkF m 0 #[.val (.ref x0), .val (.ref x1), .val (.ref x2), .val (.ref x3), .val (.int x4), .val (.int x5), .val (.int x6), .val (.int x7), .val (.int x8), .val (.int x9), .unset, .unset, .unset, .unset, .unset] [] := by first | (simp [entryFrame, mkF, argsToLocals, Value.category]; done) | rfl
def QrmE0 (Z : State) (ks : Addr) (aa : Addr) (bb : Addr) (rr : Addr) (ta : Int32) (rs : Int32) (tb : Int32) (bs : Int32) (bq : Int32) (al : UInt64) (ub : Nat → UInt64) (ur : Nat → UInt64) (h0 : Heap) (n0 : Nat) (v : Option Value) (h : Heap) (L : List Loc) : Prop := v = none ∧ Fr n0 L ∧ Keep h0 h [rr] ∧ own_Arf Z h rr .double (64 : Int32) (fun i => .double (ur i))
set_option maxRecDepth 65536 in
set_option maxHeartbeats 40000000 in
theorem rmE0 (l : Launch) (Z : State) (a0 : Array Value) (hw : ∀ d ∈ tables_1, d.before a0 Z = true) (ws : List Jvm.Cond) (ks : Addr) (aa : Addr) (bb : Addr) (rr : Addr) (ta : Int32) (rs : Int32) (tb : Int32) (bs : Int32) (bq : Int32) (al : UInt64) (ub : Nat → UInt64) (ur : Nat → UInt64) (h0 : Heap) (n0 : Nat) (Z0 : n0 ≤ h0.size) (Fal : Fld Z h0 ks "com/example/indexica/indexica/Scaled" "alpha" "D" (.double al)) (G_bb : own_Arf Z h0 bb .double (128 : Int32) (fun i => .double (ub i))) (G_rr : own_Arf Z h0 rr .double (64 : Int32) (fun i => .double (ur i))) (g_rr : n0 ≤ rr) (ne_bb_rr : bb ≠ rr) (hal : Fin64 al) (hub : ∀ i, Fin64 (ub i)) :
    MetFree l (⟨"com/example/indexica/indexica/Scaled", "eightRows", "([D[D[DIIIIII)V"⟩ : MethodName) (head1 (Jvm.Cond.code (⟨"com/example/indexica/indexica/Scaled", "eightRows", "([D[D[DIIIIII)V"⟩ : MethodName) prog_84_method_3_code 15 none :: ws) ({ frames := 0, cells := 0, slots := 0, locals := 0 } : Room)) (fun aq Uq => aq = #[(.ref ks), (.ref aa), (.ref bb), (.ref rr), (.int ta), (.int rs), (.int tb), (.int bs), (.int bq), (.int (0 : Int32))] ∧ Z.Warmed39 Uq.vm ∧ Uq.heap = h0) (fun _ _ _ _ _ => True) (fun _ Uq oq Uq' => ∃ vq Lq, oq = .returned vq ∧ QrmE0 Z ks aa bb rr ta rs tb bs bq al ub ur h0 n0 vq Uq'.heap Lq ∧ FrameEnd Uq oq Uq' Lq ({ frames := 0, cells := 0, slots := 0, locals := 0 } : Room).cells ({ frames := 0, cells := 0, slots := 0, locals := 0 } : Room).slots) := by
  refine MetFree.of_bodySF (plainFor_of_name pn_1) hisR ?_
  intro p e s m args below meth c s₁ Bd hml0 hP hK
  obtain ⟨rfl, hZ, hh⟩ := hP
  have hx := Bd.exec
  have hby := Bd.bytes
  have hml : c.maxLocals = 15 := hml0
  have hown : s.vm.findClass "com/example/indexica/indexica/Scaled" = some m.cls := findClass_of_methodNamed Bd.named
  have hnm := (name_of_methodNamed Bd.named Bd.method).1
  have X0 : Stand p l e ({ frames := 0, cells := 0, slots := 0, locals := 0 } : Room) s m #[(.ref ks), (.ref aa), (.ref bb), (.ref rr), (.int ta), (.int rs), (.int tb), (.int bs), (.int bq), (.int (0 : Int32))] below meth c s₁ [] 0 0 := Stand.of_body Bd
  have e0 : s₁.heap = h0 := by rw [← hh, Bd.state]; rfl
  have N0 := Fr.nil n0
  have ZH := Z0
  have KK := Keep.refl h0 [rr]
  refine own_start (fun t k => castTop (ef_rmE0 m ks aa bb rr ta rs tb bs bq (0 : Int32)) k) ?_
  show own_Go p.tables e below _ (s₁.setTop (mkF m 0 #[.val (.ref ks), .val (.ref aa), .val (.ref bb), .val (.ref rr), .val (.int ta), .val (.int rs), .val (.int tb), .val (.int bs), .val (.int bq), .val (.int (0 : Int32)), .unset, .unset, .unset, .unset, .unset] []))
  refine own_up (fun _ k => XS.aloadN X0.here hx rfl (hb hby d4_0) rfl rfl k) ?_
  show own_Go p.tables e below _ (s₁.setTop (mkF m 1 #[.val (.ref ks), .val (.ref aa), .val (.ref bb), .val (.ref rr), .val (.int ta), .val (.int rs), .val (.int tb), .val (.int bs), .val (.int bq), .val (.int (0 : Int32)), .unset, .unset, .unset, .unset, .unset] [(.ref ks)]))
  obtain ⟨T1, X1, e1, st1⟩ := getF X0 hx hZ hown (host := "") (Or.inl (hw _ (List.mem_of_getElem? (i := 17) rfl))) Via.refl e0 Fal (g := (mkF m 1 #[.val (.ref ks), .val (.ref aa), .val (.ref bb), .val (.ref rr), .val (.int ta), .val (.int rs), .val (.int tb), .val (.int bs), .val (.int bq), .val (.int (0 : Int32)), .unset, .unset, .unset, .unset, .unset] [(.ref ks)])) rfl rfl (hb hby d4_1)
  refine own_up st1 ?_
  show own_Go p.tables e below _ (T1.setTop (mkF m 4 #[.val (.ref ks), .val (.ref aa), .val (.ref bb), .val (.ref rr), .val (.int ta), .val (.int rs), .val (.int tb), .val (.int bs), .val (.int bq), .val (.int (0 : Int32)), .unset, .unset, .unset, .unset, .unset] [(.double al)]))
  refine own_up (fun _ k => XS.dstore X1.here hx rfl (hb hby d4_4) rfl (l' := #[.val (.ref ks), .val (.ref aa), .val (.ref bb), .val (.ref rr), .val (.int ta), .val (.int rs), .val (.int tb), .val (.int bs), .val (.int bq), .val (.int (0 : Int32)), .val (.double al), .second, .unset, .unset, .unset]) rfl k) ?_
  show own_Go p.tables e below _ (T1.setTop (mkF m 6 #[.val (.ref ks), .val (.ref aa), .val (.ref bb), .val (.ref rr), .val (.int ta), .val (.int rs), .val (.int tb), .val (.int bs), .val (.int bq), .val (.int (0 : Int32)), .val (.double al), .second, .unset, .unset, .unset] []))
  refine own_up (fun _ k => XS.iconst X1.here hx rfl (hb hby d4_6) k) ?_
  show own_Go p.tables e below _ (T1.setTop (mkF m 7 #[.val (.ref ks), .val (.ref aa), .val (.ref bb), .val (.ref rr), .val (.int ta), .val (.int rs), .val (.int tb), .val (.int bs), .val (.int bq), .val (.int (0 : Int32)), .val (.double al), .second, .unset, .unset, .unset] [(.int (0 : Int32))]))
  refine own_up (fun _ k => XS.istore X1.here hx rfl (hb hby d4_7) rfl (l' := #[.val (.ref ks), .val (.ref aa), .val (.ref bb), .val (.ref rr), .val (.int ta), .val (.int rs), .val (.int tb), .val (.int bs), .val (.int bq), .val (.int (0 : Int32)), .val (.double al), .second, .val (.int (0 : Int32)), .unset, .unset]) rfl k) ?_
  show own_Go p.tables e below _ (T1.setTop (mkF m 9 #[.val (.ref ks), .val (.ref aa), .val (.ref bb), .val (.ref rr), .val (.int ta), .val (.int rs), .val (.int tb), .val (.int bs), .val (.int bq), .val (.int (0 : Int32)), .val (.double al), .second, .val (.int (0 : Int32)), .unset, .unset] []))
  refine own_up (fun _ k => XS.iload X1.here hx rfl (hb hby d4_9) rfl k) ?_
  show own_Go p.tables e below _ (T1.setTop (mkF m 11 #[.val (.ref ks), .val (.ref aa), .val (.ref bb), .val (.ref rr), .val (.int ta), .val (.int rs), .val (.int tb), .val (.int bs), .val (.int bq), .val (.int (0 : Int32)), .val (.double al), .second, .val (.int (0 : Int32)), .unset, .unset] [(.int (0 : Int32))]))
  refine own_up (fun _ k => XS.iload X1.here hx rfl (hb hby d4_11) rfl k) ?_
  show own_Go p.tables e below _ (T1.setTop (mkF m 13 #[.val (.ref ks), .val (.ref aa), .val (.ref bb), .val (.ref rr), .val (.int ta), .val (.int rs), .val (.int tb), .val (.int bs), .val (.int bq), .val (.int (0 : Int32)), .val (.double al), .second, .val (.int (0 : Int32)), .unset, .unset] [(.int (0 : Int32)), (.int (0 : Int32))]))
  refine own_up (fun _ k => XS.icmpYes X1.here hx rfl (pc0 := 13) (pc' := 197) rfl (hb hby d4_13) rfl (flt (by decide : ¬ ((0 : Int32) < (0 : Int32)))).2.1 (by decide) (by decide) k) ?_
  show own_Go p.tables e below _ (T1.setTop (mkF m 197 #[.val (.ref ks), .val (.ref aa), .val (.ref bb), .val (.ref rr), .val (.int ta), .val (.int rs), .val (.int tb), .val (.int bs), .val (.int bq), .val (.int (0 : Int32)), .val (.double al), .second, .val (.int (0 : Int32)), .unset, .unset] []))
  obtain ⟨fs2, hr2, hrun2, hended2, hW2, hsame2⟩ := X1.leave (v := none) (fun _ => rfl)
  refine own_end ⟨_, _, ?_, hrun2, hended2, _, _, rfl, ?_, ⟨_, rfl⟩, hW2, hsame2.mono (by decide) (by decide)⟩
  · exact X1.returnOut hx Bd.returns (hb hby d4_197) hr2
  · show QrmE0 Z ks aa bb rr ta rs tb bs bq al ub ur h0 n0 _ T1.heap _
    rw [e1]
    exact ⟨rfl, N0, KK, G_rr⟩
theorem ef_rmE1 (m : MethodId) (x0 : Addr) (x1 : Addr) (x2 : Addr) (x3 : Addr) (x4 : Int32) (x5 : Int32) (x6 : Int32) (x7 : Int32) (x8 : Int32) (x9 : Int32) : entryFrame m #[(.ref x0), (.ref x1), (.ref x2), (.ref x3), (.int x4), (.int x5), (.int x6), (.int x7), (.int x8), (.int x9)] 15 = mkF m 0 #[.val (.ref x0), .val (.ref x1), .val (.ref x2), .val (.ref x3), .val (.int x4), .val (.int x5), .val (.int x6), .val (.int x7), .val (.int x8), .val (.int x9), .unset, .unset, .unset, .unset, .unset] [] := by first | (simp [entryFrame, mkF, argsToLocals, Value.category]; done) | rfl
def QrmE1 (Z : State) (ks : Addr) (aa : Addr) (bb : Addr) (rr : Addr) (ta : Int32) (rs : Int32) (tb : Int32) (bs : Int32) (bq : Int32) (al : UInt64) (ub : Nat → UInt64) (ur : Nat → UInt64) (h0 : Heap) (n0 : Nat) (v : Option Value) (h : Heap) (L : List Loc) : Prop := v = none ∧ Fr n0 L ∧ Keep h0 h [rr] ∧ own_Arf Z h rr .double (64 : Int32) (fun i => .double ((own_T ur al ub (ta + (0 : Int32)) (tb + ((0 : Int32) * bs)) rs bq) i))
set_option maxRecDepth 65536 in
set_option maxHeartbeats 40000000 in
theorem rmE1 (l : Launch) (Z : State) (a0 : Array Value) (hw : ∀ d ∈ tables_1, d.before a0 Z = true) (ws : List Jvm.Cond) (ks : Addr) (aa : Addr) (bb : Addr) (rr : Addr) (ta : Int32) (rs : Int32) (tb : Int32) (bs : Int32) (bq : Int32) (al : UInt64) (ub : Nat → UInt64) (ur : Nat → UInt64) (h0 : Heap) (n0 : Nat) (Z0 : n0 ≤ h0.size) (Fal : Fld Z h0 ks "com/example/indexica/indexica/Scaled" "alpha" "D" (.double al)) (G_bb : own_Arf Z h0 bb .double (128 : Int32) (fun i => .double (ub i))) (G_rr : own_Arf Z h0 rr .double (64 : Int32) (fun i => .double (ur i))) (g_rr : n0 ≤ rr) (ne_bb_rr : bb ≠ rr) (hal : Fin64 al) (hub : ∀ i, Fin64 (ub i)) (i0_0 : ¬ (ta + (0 : Int32)) < 0 ∧ (ta + (0 : Int32)) < (64 : Int32)) (i0_1 : ¬ ((ta + (0 : Int32)) + rs) < 0 ∧ ((ta + (0 : Int32)) + rs) < (64 : Int32)) (i0_2 : ¬ ((ta + (0 : Int32)) + ((2 : Int32) * rs)) < 0 ∧ ((ta + (0 : Int32)) + ((2 : Int32) * rs)) < (64 : Int32)) (i0_3 : ¬ ((ta + (0 : Int32)) + ((3 : Int32) * rs)) < 0 ∧ ((ta + (0 : Int32)) + ((3 : Int32) * rs)) < (64 : Int32)) (i0_4 : ¬ ((ta + (0 : Int32)) + ((4 : Int32) * rs)) < 0 ∧ ((ta + (0 : Int32)) + ((4 : Int32) * rs)) < (64 : Int32)) (i0_5 : ¬ ((ta + (0 : Int32)) + ((5 : Int32) * rs)) < 0 ∧ ((ta + (0 : Int32)) + ((5 : Int32) * rs)) < (64 : Int32)) (i0_6 : ¬ ((ta + (0 : Int32)) + ((6 : Int32) * rs)) < 0 ∧ ((ta + (0 : Int32)) + ((6 : Int32) * rs)) < (64 : Int32)) (i0_7 : ¬ ((ta + (0 : Int32)) + ((7 : Int32) * rs)) < 0 ∧ ((ta + (0 : Int32)) + ((7 : Int32) * rs)) < (64 : Int32)) (j0_0 : ¬ (tb + ((0 : Int32) * bs)) < 0 ∧ (tb + ((0 : Int32) * bs)) < (128 : Int32)) (j0_1 : ¬ ((tb + ((0 : Int32) * bs)) + bq) < 0 ∧ ((tb + ((0 : Int32) * bs)) + bq) < (128 : Int32)) (j0_2 : ¬ ((tb + ((0 : Int32) * bs)) + ((2 : Int32) * bq)) < 0 ∧ ((tb + ((0 : Int32) * bs)) + ((2 : Int32) * bq)) < (128 : Int32)) (j0_3 : ¬ ((tb + ((0 : Int32) * bs)) + ((3 : Int32) * bq)) < 0 ∧ ((tb + ((0 : Int32) * bs)) + ((3 : Int32) * bq)) < (128 : Int32)) (j0_4 : ¬ ((tb + ((0 : Int32) * bs)) + ((4 : Int32) * bq)) < 0 ∧ ((tb + ((0 : Int32) * bs)) + ((4 : Int32) * bq)) < (128 : Int32)) (j0_5 : ¬ ((tb + ((0 : Int32) * bs)) + ((5 : Int32) * bq)) < 0 ∧ ((tb + ((0 : Int32) * bs)) + ((5 : Int32) * bq)) < (128 : Int32)) (j0_6 : ¬ ((tb + ((0 : Int32) * bs)) + ((6 : Int32) * bq)) < 0 ∧ ((tb + ((0 : Int32) * bs)) + ((6 : Int32) * bq)) < (128 : Int32)) (j0_7 : ¬ ((tb + ((0 : Int32) * bs)) + ((7 : Int32) * bq)) < 0 ∧ ((tb + ((0 : Int32) * bs)) + ((7 : Int32) * bq)) < (128 : Int32)) :
    MetFree l (⟨"com/example/indexica/indexica/Scaled", "eightRows", "([D[D[DIIIIII)V"⟩ : MethodName) (head1 (Jvm.Cond.code (⟨"com/example/indexica/indexica/Scaled", "eightRows", "([D[D[DIIIIII)V"⟩ : MethodName) prog_84_method_3_code 15 none :: ws) ({ frames := 0, cells := 0, slots := 0, locals := 0 } : Room)) (fun aq Uq => aq = #[(.ref ks), (.ref aa), (.ref bb), (.ref rr), (.int ta), (.int rs), (.int tb), (.int bs), (.int bq), (.int (1 : Int32))] ∧ Z.Warmed39 Uq.vm ∧ Uq.heap = h0) (fun _ _ _ _ _ => True) (fun _ Uq oq Uq' => ∃ vq Lq, oq = .returned vq ∧ QrmE1 Z ks aa bb rr ta rs tb bs bq al ub ur h0 n0 vq Uq'.heap Lq ∧ FrameEnd Uq oq Uq' Lq ({ frames := 0, cells := 0, slots := 0, locals := 0 } : Room).cells ({ frames := 0, cells := 0, slots := 0, locals := 0 } : Room).slots) := by
  refine MetFree.of_bodySF (plainFor_of_name pn_1) hisR ?_
  intro p e s m args below meth c s₁ Bd hml0 hP hK
  obtain ⟨rfl, hZ, hh⟩ := hP
  have hx := Bd.exec
  have hby := Bd.bytes
  have hml : c.maxLocals = 15 := hml0
  have hown : s.vm.findClass "com/example/indexica/indexica/Scaled" = some m.cls := findClass_of_methodNamed Bd.named
  have hnm := (name_of_methodNamed Bd.named Bd.method).1
  have X0 : Stand p l e ({ frames := 0, cells := 0, slots := 0, locals := 0 } : Room) s m #[(.ref ks), (.ref aa), (.ref bb), (.ref rr), (.int ta), (.int rs), (.int tb), (.int bs), (.int bq), (.int (1 : Int32))] below meth c s₁ [] 0 0 := Stand.of_body Bd
  have e0 : s₁.heap = h0 := by rw [← hh, Bd.state]; rfl
  have N0 := Fr.nil n0
  have ZH := Z0
  have KK := Keep.refl h0 [rr]
  refine own_start (fun t k => castTop (ef_rmE1 m ks aa bb rr ta rs tb bs bq (1 : Int32)) k) ?_
  show own_Go p.tables e below _ (s₁.setTop (mkF m 0 #[.val (.ref ks), .val (.ref aa), .val (.ref bb), .val (.ref rr), .val (.int ta), .val (.int rs), .val (.int tb), .val (.int bs), .val (.int bq), .val (.int (1 : Int32)), .unset, .unset, .unset, .unset, .unset] []))
  refine own_up (fun _ k => XS.aloadN X0.here hx rfl (hb hby d4_0) rfl rfl k) ?_
  show own_Go p.tables e below _ (s₁.setTop (mkF m 1 #[.val (.ref ks), .val (.ref aa), .val (.ref bb), .val (.ref rr), .val (.int ta), .val (.int rs), .val (.int tb), .val (.int bs), .val (.int bq), .val (.int (1 : Int32)), .unset, .unset, .unset, .unset, .unset] [(.ref ks)]))
  obtain ⟨T1, X1, e1, st1⟩ := getF X0 hx hZ hown (host := "") (Or.inl (hw _ (List.mem_of_getElem? (i := 17) rfl))) Via.refl e0 Fal (g := (mkF m 1 #[.val (.ref ks), .val (.ref aa), .val (.ref bb), .val (.ref rr), .val (.int ta), .val (.int rs), .val (.int tb), .val (.int bs), .val (.int bq), .val (.int (1 : Int32)), .unset, .unset, .unset, .unset, .unset] [(.ref ks)])) rfl rfl (hb hby d4_1)
  refine own_up st1 ?_
  show own_Go p.tables e below _ (T1.setTop (mkF m 4 #[.val (.ref ks), .val (.ref aa), .val (.ref bb), .val (.ref rr), .val (.int ta), .val (.int rs), .val (.int tb), .val (.int bs), .val (.int bq), .val (.int (1 : Int32)), .unset, .unset, .unset, .unset, .unset] [(.double al)]))
  refine own_up (fun _ k => XS.dstore X1.here hx rfl (hb hby d4_4) rfl (l' := #[.val (.ref ks), .val (.ref aa), .val (.ref bb), .val (.ref rr), .val (.int ta), .val (.int rs), .val (.int tb), .val (.int bs), .val (.int bq), .val (.int (1 : Int32)), .val (.double al), .second, .unset, .unset, .unset]) rfl k) ?_
  show own_Go p.tables e below _ (T1.setTop (mkF m 6 #[.val (.ref ks), .val (.ref aa), .val (.ref bb), .val (.ref rr), .val (.int ta), .val (.int rs), .val (.int tb), .val (.int bs), .val (.int bq), .val (.int (1 : Int32)), .val (.double al), .second, .unset, .unset, .unset] []))
  refine own_up (fun _ k => XS.iconst X1.here hx rfl (hb hby d4_6) k) ?_
  show own_Go p.tables e below _ (T1.setTop (mkF m 7 #[.val (.ref ks), .val (.ref aa), .val (.ref bb), .val (.ref rr), .val (.int ta), .val (.int rs), .val (.int tb), .val (.int bs), .val (.int bq), .val (.int (1 : Int32)), .val (.double al), .second, .unset, .unset, .unset] [(.int (0 : Int32))]))
  refine own_up (fun _ k => XS.istore X1.here hx rfl (hb hby d4_7) rfl (l' := #[.val (.ref ks), .val (.ref aa), .val (.ref bb), .val (.ref rr), .val (.int ta), .val (.int rs), .val (.int tb), .val (.int bs), .val (.int bq), .val (.int (1 : Int32)), .val (.double al), .second, .val (.int (0 : Int32)), .unset, .unset]) rfl k) ?_
  show own_Go p.tables e below _ (T1.setTop (mkF m 9 #[.val (.ref ks), .val (.ref aa), .val (.ref bb), .val (.ref rr), .val (.int ta), .val (.int rs), .val (.int tb), .val (.int bs), .val (.int bq), .val (.int (1 : Int32)), .val (.double al), .second, .val (.int (0 : Int32)), .unset, .unset] []))
  refine tnE (x := (ta + (0 : Int32))) (y := (tb + ((0 : Int32) * bs))) X1 hx hZ hw hby hml hown e1 N0 ZH G_bb G_rr g_rr ne_bb_rr One.u One.u (by decide) rfl rfl hal hub i0_0 i0_1 i0_2 i0_3 i0_4 i0_5 i0_6 i0_7 j0_0 j0_1 j0_2 j0_3 j0_4 j0_5 j0_6 j0_7 (fun T2 h2 locs2 X2 e2 N2 K2 G_bb G_rr => ?_)
  have ZH := Nat.le_trans ZH K2.1
  have KK := KK.trans K2 (allS (Or.inl (List.mem_of_getElem? (i := 0) rfl)) all0)
  show own_Go p.tables e below _ (T2.setTop (mkF m 9 #[.val (.ref ks), .val (.ref aa), .val (.ref bb), .val (.ref rr), .val (.int ta), .val (.int rs), .val (.int tb), .val (.int bs), .val (.int bq), .val (.int (1 : Int32)), .val (.double al), .second, .val (.int (1 : Int32)), .val (.int (ta + (0 : Int32))), .val (.int (tb + ((0 : Int32) * bs)))] []))
  refine own_up (fun _ k => XS.iload X2.here hx rfl (hb hby d4_9) rfl k) ?_
  show own_Go p.tables e below _ (T2.setTop (mkF m 11 #[.val (.ref ks), .val (.ref aa), .val (.ref bb), .val (.ref rr), .val (.int ta), .val (.int rs), .val (.int tb), .val (.int bs), .val (.int bq), .val (.int (1 : Int32)), .val (.double al), .second, .val (.int (1 : Int32)), .val (.int (ta + (0 : Int32))), .val (.int (tb + ((0 : Int32) * bs)))] [(.int (1 : Int32))]))
  refine own_up (fun _ k => XS.iload X2.here hx rfl (hb hby d4_11) rfl k) ?_
  show own_Go p.tables e below _ (T2.setTop (mkF m 13 #[.val (.ref ks), .val (.ref aa), .val (.ref bb), .val (.ref rr), .val (.int ta), .val (.int rs), .val (.int tb), .val (.int bs), .val (.int bq), .val (.int (1 : Int32)), .val (.double al), .second, .val (.int (1 : Int32)), .val (.int (ta + (0 : Int32))), .val (.int (tb + ((0 : Int32) * bs)))] [(.int (1 : Int32)), (.int (1 : Int32))]))
  refine own_up (fun _ k => XS.icmpYes X2.here hx rfl (pc0 := 13) (pc' := 197) rfl (hb hby d4_13) rfl (flt (by decide : ¬ ((1 : Int32) < (1 : Int32)))).2.1 (by decide) (by decide) k) ?_
  show own_Go p.tables e below _ (T2.setTop (mkF m 197 #[.val (.ref ks), .val (.ref aa), .val (.ref bb), .val (.ref rr), .val (.int ta), .val (.int rs), .val (.int tb), .val (.int bs), .val (.int bq), .val (.int (1 : Int32)), .val (.double al), .second, .val (.int (1 : Int32)), .val (.int (ta + (0 : Int32))), .val (.int (tb + ((0 : Int32) * bs)))] []))
  obtain ⟨fs3, hr3, hrun3, hended3, hW3, hsame3⟩ := X2.leave (v := none) (fun _ => rfl)
  refine own_end ⟨_, _, ?_, hrun3, hended3, _, _, rfl, ?_, ⟨_, rfl⟩, hW3, hsame3.mono (by decide) (by decide)⟩
  · exact X2.returnOut hx Bd.returns (hb hby d4_197) hr3
  · show QrmE1 Z ks aa bb rr ta rs tb bs bq al ub ur h0 n0 _ T2.heap _
    rw [e2]
    exact ⟨rfl, N2, KK, G_rr⟩
theorem ef_rmE2 (m : MethodId) (x0 : Addr) (x1 : Addr) (x2 : Addr) (x3 : Addr) (x4 : Int32) (x5 : Int32) (x6 : Int32) (x7 : Int32) (x8 : Int32) (x9 : Int32) : entryFrame m #[(.ref x0), (.ref x1), (.ref x2), (.ref x3), (.int x4), (.int x5), (.int x6), (.int x7), (.int x8), (.int x9)] 15 = mkF m 0 #[.val (.ref x0), .val (.ref x1), .val (.ref x2), .val (.ref x3), .val (.int x4), .val (.int x5), .val (.int x6), .val (.int x7), .val (.int x8), .val (.int x9), .unset, .unset, .unset, .unset, .unset] [] := by first | (simp [entryFrame, mkF, argsToLocals, Value.category]; done) | rfl
def QrmE2 (Z : State) (ks : Addr) (aa : Addr) (bb : Addr) (rr : Addr) (ta : Int32) (rs : Int32) (tb : Int32) (bs : Int32) (bq : Int32) (al : UInt64) (ub : Nat → UInt64) (ur : Nat → UInt64) (h0 : Heap) (n0 : Nat) (v : Option Value) (h : Heap) (L : List Loc) : Prop := v = none ∧ Fr n0 L ∧ Keep h0 h [rr] ∧ own_Arf Z h rr .double (64 : Int32) (fun i => .double ((own_T (own_T ur al ub (ta + (0 : Int32)) (tb + ((0 : Int32) * bs)) rs bq) al ub (ta + (1 : Int32)) (tb + ((1 : Int32) * bs)) rs bq) i))
set_option maxRecDepth 65536 in
set_option maxHeartbeats 40000000 in
theorem rmE2 (l : Launch) (Z : State) (a0 : Array Value) (hw : ∀ d ∈ tables_1, d.before a0 Z = true) (ws : List Jvm.Cond) (ks : Addr) (aa : Addr) (bb : Addr) (rr : Addr) (ta : Int32) (rs : Int32) (tb : Int32) (bs : Int32) (bq : Int32) (al : UInt64) (ub : Nat → UInt64) (ur : Nat → UInt64) (h0 : Heap) (n0 : Nat) (Z0 : n0 ≤ h0.size) (Fal : Fld Z h0 ks "com/example/indexica/indexica/Scaled" "alpha" "D" (.double al)) (G_bb : own_Arf Z h0 bb .double (128 : Int32) (fun i => .double (ub i))) (G_rr : own_Arf Z h0 rr .double (64 : Int32) (fun i => .double (ur i))) (g_rr : n0 ≤ rr) (ne_bb_rr : bb ≠ rr) (hal : Fin64 al) (hub : ∀ i, Fin64 (ub i)) (i0_0 : ¬ (ta + (0 : Int32)) < 0 ∧ (ta + (0 : Int32)) < (64 : Int32)) (i0_1 : ¬ ((ta + (0 : Int32)) + rs) < 0 ∧ ((ta + (0 : Int32)) + rs) < (64 : Int32)) (i0_2 : ¬ ((ta + (0 : Int32)) + ((2 : Int32) * rs)) < 0 ∧ ((ta + (0 : Int32)) + ((2 : Int32) * rs)) < (64 : Int32)) (i0_3 : ¬ ((ta + (0 : Int32)) + ((3 : Int32) * rs)) < 0 ∧ ((ta + (0 : Int32)) + ((3 : Int32) * rs)) < (64 : Int32)) (i0_4 : ¬ ((ta + (0 : Int32)) + ((4 : Int32) * rs)) < 0 ∧ ((ta + (0 : Int32)) + ((4 : Int32) * rs)) < (64 : Int32)) (i0_5 : ¬ ((ta + (0 : Int32)) + ((5 : Int32) * rs)) < 0 ∧ ((ta + (0 : Int32)) + ((5 : Int32) * rs)) < (64 : Int32)) (i0_6 : ¬ ((ta + (0 : Int32)) + ((6 : Int32) * rs)) < 0 ∧ ((ta + (0 : Int32)) + ((6 : Int32) * rs)) < (64 : Int32)) (i0_7 : ¬ ((ta + (0 : Int32)) + ((7 : Int32) * rs)) < 0 ∧ ((ta + (0 : Int32)) + ((7 : Int32) * rs)) < (64 : Int32)) (i1_0 : ¬ (ta + (1 : Int32)) < 0 ∧ (ta + (1 : Int32)) < (64 : Int32)) (i1_1 : ¬ ((ta + (1 : Int32)) + rs) < 0 ∧ ((ta + (1 : Int32)) + rs) < (64 : Int32)) (i1_2 : ¬ ((ta + (1 : Int32)) + ((2 : Int32) * rs)) < 0 ∧ ((ta + (1 : Int32)) + ((2 : Int32) * rs)) < (64 : Int32)) (i1_3 : ¬ ((ta + (1 : Int32)) + ((3 : Int32) * rs)) < 0 ∧ ((ta + (1 : Int32)) + ((3 : Int32) * rs)) < (64 : Int32)) (i1_4 : ¬ ((ta + (1 : Int32)) + ((4 : Int32) * rs)) < 0 ∧ ((ta + (1 : Int32)) + ((4 : Int32) * rs)) < (64 : Int32)) (i1_5 : ¬ ((ta + (1 : Int32)) + ((5 : Int32) * rs)) < 0 ∧ ((ta + (1 : Int32)) + ((5 : Int32) * rs)) < (64 : Int32)) (i1_6 : ¬ ((ta + (1 : Int32)) + ((6 : Int32) * rs)) < 0 ∧ ((ta + (1 : Int32)) + ((6 : Int32) * rs)) < (64 : Int32)) (i1_7 : ¬ ((ta + (1 : Int32)) + ((7 : Int32) * rs)) < 0 ∧ ((ta + (1 : Int32)) + ((7 : Int32) * rs)) < (64 : Int32)) (j0_0 : ¬ (tb + ((0 : Int32) * bs)) < 0 ∧ (tb + ((0 : Int32) * bs)) < (128 : Int32)) (j0_1 : ¬ ((tb + ((0 : Int32) * bs)) + bq) < 0 ∧ ((tb + ((0 : Int32) * bs)) + bq) < (128 : Int32)) (j0_2 : ¬ ((tb + ((0 : Int32) * bs)) + ((2 : Int32) * bq)) < 0 ∧ ((tb + ((0 : Int32) * bs)) + ((2 : Int32) * bq)) < (128 : Int32)) (j0_3 : ¬ ((tb + ((0 : Int32) * bs)) + ((3 : Int32) * bq)) < 0 ∧ ((tb + ((0 : Int32) * bs)) + ((3 : Int32) * bq)) < (128 : Int32)) (j0_4 : ¬ ((tb + ((0 : Int32) * bs)) + ((4 : Int32) * bq)) < 0 ∧ ((tb + ((0 : Int32) * bs)) + ((4 : Int32) * bq)) < (128 : Int32)) (j0_5 : ¬ ((tb + ((0 : Int32) * bs)) + ((5 : Int32) * bq)) < 0 ∧ ((tb + ((0 : Int32) * bs)) + ((5 : Int32) * bq)) < (128 : Int32)) (j0_6 : ¬ ((tb + ((0 : Int32) * bs)) + ((6 : Int32) * bq)) < 0 ∧ ((tb + ((0 : Int32) * bs)) + ((6 : Int32) * bq)) < (128 : Int32)) (j0_7 : ¬ ((tb + ((0 : Int32) * bs)) + ((7 : Int32) * bq)) < 0 ∧ ((tb + ((0 : Int32) * bs)) + ((7 : Int32) * bq)) < (128 : Int32)) (j1_0 : ¬ (tb + ((1 : Int32) * bs)) < 0 ∧ (tb + ((1 : Int32) * bs)) < (128 : Int32)) (j1_1 : ¬ ((tb + ((1 : Int32) * bs)) + bq) < 0 ∧ ((tb + ((1 : Int32) * bs)) + bq) < (128 : Int32)) (j1_2 : ¬ ((tb + ((1 : Int32) * bs)) + ((2 : Int32) * bq)) < 0 ∧ ((tb + ((1 : Int32) * bs)) + ((2 : Int32) * bq)) < (128 : Int32)) (j1_3 : ¬ ((tb + ((1 : Int32) * bs)) + ((3 : Int32) * bq)) < 0 ∧ ((tb + ((1 : Int32) * bs)) + ((3 : Int32) * bq)) < (128 : Int32)) (j1_4 : ¬ ((tb + ((1 : Int32) * bs)) + ((4 : Int32) * bq)) < 0 ∧ ((tb + ((1 : Int32) * bs)) + ((4 : Int32) * bq)) < (128 : Int32)) (j1_5 : ¬ ((tb + ((1 : Int32) * bs)) + ((5 : Int32) * bq)) < 0 ∧ ((tb + ((1 : Int32) * bs)) + ((5 : Int32) * bq)) < (128 : Int32)) (j1_6 : ¬ ((tb + ((1 : Int32) * bs)) + ((6 : Int32) * bq)) < 0 ∧ ((tb + ((1 : Int32) * bs)) + ((6 : Int32) * bq)) < (128 : Int32)) (j1_7 : ¬ ((tb + ((1 : Int32) * bs)) + ((7 : Int32) * bq)) < 0 ∧ ((tb + ((1 : Int32) * bs)) + ((7 : Int32) * bq)) < (128 : Int32)) :
    MetFree l (⟨"com/example/indexica/indexica/Scaled", "eightRows", "([D[D[DIIIIII)V"⟩ : MethodName) (head1 (Jvm.Cond.code (⟨"com/example/indexica/indexica/Scaled", "eightRows", "([D[D[DIIIIII)V"⟩ : MethodName) prog_84_method_3_code 15 none :: ws) ({ frames := 0, cells := 0, slots := 0, locals := 0 } : Room)) (fun aq Uq => aq = #[(.ref ks), (.ref aa), (.ref bb), (.ref rr), (.int ta), (.int rs), (.int tb), (.int bs), (.int bq), (.int (2 : Int32))] ∧ Z.Warmed39 Uq.vm ∧ Uq.heap = h0) (fun _ _ _ _ _ => True) (fun _ Uq oq Uq' => ∃ vq Lq, oq = .returned vq ∧ QrmE2 Z ks aa bb rr ta rs tb bs bq al ub ur h0 n0 vq Uq'.heap Lq ∧ FrameEnd Uq oq Uq' Lq ({ frames := 0, cells := 0, slots := 0, locals := 0 } : Room).cells ({ frames := 0, cells := 0, slots := 0, locals := 0 } : Room).slots) := by
  refine MetFree.of_bodySF (plainFor_of_name pn_1) hisR ?_
  intro p e s m args below meth c s₁ Bd hml0 hP hK
  obtain ⟨rfl, hZ, hh⟩ := hP
  have hx := Bd.exec
  have hby := Bd.bytes
  have hml : c.maxLocals = 15 := hml0
  have hown : s.vm.findClass "com/example/indexica/indexica/Scaled" = some m.cls := findClass_of_methodNamed Bd.named
  have hnm := (name_of_methodNamed Bd.named Bd.method).1
  have X0 : Stand p l e ({ frames := 0, cells := 0, slots := 0, locals := 0 } : Room) s m #[(.ref ks), (.ref aa), (.ref bb), (.ref rr), (.int ta), (.int rs), (.int tb), (.int bs), (.int bq), (.int (2 : Int32))] below meth c s₁ [] 0 0 := Stand.of_body Bd
  have e0 : s₁.heap = h0 := by rw [← hh, Bd.state]; rfl
  have N0 := Fr.nil n0
  have ZH := Z0
  have KK := Keep.refl h0 [rr]
  refine own_start (fun t k => castTop (ef_rmE2 m ks aa bb rr ta rs tb bs bq (2 : Int32)) k) ?_
  show own_Go p.tables e below _ (s₁.setTop (mkF m 0 #[.val (.ref ks), .val (.ref aa), .val (.ref bb), .val (.ref rr), .val (.int ta), .val (.int rs), .val (.int tb), .val (.int bs), .val (.int bq), .val (.int (2 : Int32)), .unset, .unset, .unset, .unset, .unset] []))
  refine own_up (fun _ k => XS.aloadN X0.here hx rfl (hb hby d4_0) rfl rfl k) ?_
  show own_Go p.tables e below _ (s₁.setTop (mkF m 1 #[.val (.ref ks), .val (.ref aa), .val (.ref bb), .val (.ref rr), .val (.int ta), .val (.int rs), .val (.int tb), .val (.int bs), .val (.int bq), .val (.int (2 : Int32)), .unset, .unset, .unset, .unset, .unset] [(.ref ks)]))
  obtain ⟨T1, X1, e1, st1⟩ := getF X0 hx hZ hown (host := "") (Or.inl (hw _ (List.mem_of_getElem? (i := 17) rfl))) Via.refl e0 Fal (g := (mkF m 1 #[.val (.ref ks), .val (.ref aa), .val (.ref bb), .val (.ref rr), .val (.int ta), .val (.int rs), .val (.int tb), .val (.int bs), .val (.int bq), .val (.int (2 : Int32)), .unset, .unset, .unset, .unset, .unset] [(.ref ks)])) rfl rfl (hb hby d4_1)
  refine own_up st1 ?_
  show own_Go p.tables e below _ (T1.setTop (mkF m 4 #[.val (.ref ks), .val (.ref aa), .val (.ref bb), .val (.ref rr), .val (.int ta), .val (.int rs), .val (.int tb), .val (.int bs), .val (.int bq), .val (.int (2 : Int32)), .unset, .unset, .unset, .unset, .unset] [(.double al)]))
  refine own_up (fun _ k => XS.dstore X1.here hx rfl (hb hby d4_4) rfl (l' := #[.val (.ref ks), .val (.ref aa), .val (.ref bb), .val (.ref rr), .val (.int ta), .val (.int rs), .val (.int tb), .val (.int bs), .val (.int bq), .val (.int (2 : Int32)), .val (.double al), .second, .unset, .unset, .unset]) rfl k) ?_
  show own_Go p.tables e below _ (T1.setTop (mkF m 6 #[.val (.ref ks), .val (.ref aa), .val (.ref bb), .val (.ref rr), .val (.int ta), .val (.int rs), .val (.int tb), .val (.int bs), .val (.int bq), .val (.int (2 : Int32)), .val (.double al), .second, .unset, .unset, .unset] []))
  refine own_up (fun _ k => XS.iconst X1.here hx rfl (hb hby d4_6) k) ?_
  show own_Go p.tables e below _ (T1.setTop (mkF m 7 #[.val (.ref ks), .val (.ref aa), .val (.ref bb), .val (.ref rr), .val (.int ta), .val (.int rs), .val (.int tb), .val (.int bs), .val (.int bq), .val (.int (2 : Int32)), .val (.double al), .second, .unset, .unset, .unset] [(.int (0 : Int32))]))
  refine own_up (fun _ k => XS.istore X1.here hx rfl (hb hby d4_7) rfl (l' := #[.val (.ref ks), .val (.ref aa), .val (.ref bb), .val (.ref rr), .val (.int ta), .val (.int rs), .val (.int tb), .val (.int bs), .val (.int bq), .val (.int (2 : Int32)), .val (.double al), .second, .val (.int (0 : Int32)), .unset, .unset]) rfl k) ?_
  show own_Go p.tables e below _ (T1.setTop (mkF m 9 #[.val (.ref ks), .val (.ref aa), .val (.ref bb), .val (.ref rr), .val (.int ta), .val (.int rs), .val (.int tb), .val (.int bs), .val (.int bq), .val (.int (2 : Int32)), .val (.double al), .second, .val (.int (0 : Int32)), .unset, .unset] []))
  refine tnE (x := (ta + (0 : Int32))) (y := (tb + ((0 : Int32) * bs))) X1 hx hZ hw hby hml hown e1 N0 ZH G_bb G_rr g_rr ne_bb_rr One.u One.u (by decide) rfl rfl hal hub i0_0 i0_1 i0_2 i0_3 i0_4 i0_5 i0_6 i0_7 j0_0 j0_1 j0_2 j0_3 j0_4 j0_5 j0_6 j0_7 (fun T2 h2 locs2 X2 e2 N2 K2 G_bb G_rr => ?_)
  have ZH := Nat.le_trans ZH K2.1
  have KK := KK.trans K2 (allS (Or.inl (List.mem_of_getElem? (i := 0) rfl)) all0)
  show own_Go p.tables e below _ (T2.setTop (mkF m 9 #[.val (.ref ks), .val (.ref aa), .val (.ref bb), .val (.ref rr), .val (.int ta), .val (.int rs), .val (.int tb), .val (.int bs), .val (.int bq), .val (.int (2 : Int32)), .val (.double al), .second, .val (.int (1 : Int32)), .val (.int (ta + (0 : Int32))), .val (.int (tb + ((0 : Int32) * bs)))] []))
  refine tnE (x := (ta + (1 : Int32))) (y := (tb + ((1 : Int32) * bs))) X2 hx hZ hw hby hml hown e2 N2 ZH G_bb G_rr g_rr ne_bb_rr (One.val rfl) (One.val rfl) (by decide) rfl rfl hal hub i1_0 i1_1 i1_2 i1_3 i1_4 i1_5 i1_6 i1_7 j1_0 j1_1 j1_2 j1_3 j1_4 j1_5 j1_6 j1_7 (fun T3 h3 locs3 X3 e3 N3 K3 G_bb G_rr => ?_)
  have ZH := Nat.le_trans ZH K3.1
  have KK := KK.trans K3 (allS (Or.inl (List.mem_of_getElem? (i := 0) rfl)) all0)
  show own_Go p.tables e below _ (T3.setTop (mkF m 9 #[.val (.ref ks), .val (.ref aa), .val (.ref bb), .val (.ref rr), .val (.int ta), .val (.int rs), .val (.int tb), .val (.int bs), .val (.int bq), .val (.int (2 : Int32)), .val (.double al), .second, .val (.int (2 : Int32)), .val (.int (ta + (1 : Int32))), .val (.int (tb + ((1 : Int32) * bs)))] []))
  refine own_up (fun _ k => XS.iload X3.here hx rfl (hb hby d4_9) rfl k) ?_
  show own_Go p.tables e below _ (T3.setTop (mkF m 11 #[.val (.ref ks), .val (.ref aa), .val (.ref bb), .val (.ref rr), .val (.int ta), .val (.int rs), .val (.int tb), .val (.int bs), .val (.int bq), .val (.int (2 : Int32)), .val (.double al), .second, .val (.int (2 : Int32)), .val (.int (ta + (1 : Int32))), .val (.int (tb + ((1 : Int32) * bs)))] [(.int (2 : Int32))]))
  refine own_up (fun _ k => XS.iload X3.here hx rfl (hb hby d4_11) rfl k) ?_
  show own_Go p.tables e below _ (T3.setTop (mkF m 13 #[.val (.ref ks), .val (.ref aa), .val (.ref bb), .val (.ref rr), .val (.int ta), .val (.int rs), .val (.int tb), .val (.int bs), .val (.int bq), .val (.int (2 : Int32)), .val (.double al), .second, .val (.int (2 : Int32)), .val (.int (ta + (1 : Int32))), .val (.int (tb + ((1 : Int32) * bs)))] [(.int (2 : Int32)), (.int (2 : Int32))]))
  refine own_up (fun _ k => XS.icmpYes X3.here hx rfl (pc0 := 13) (pc' := 197) rfl (hb hby d4_13) rfl (flt (by decide : ¬ ((2 : Int32) < (2 : Int32)))).2.1 (by decide) (by decide) k) ?_
  show own_Go p.tables e below _ (T3.setTop (mkF m 197 #[.val (.ref ks), .val (.ref aa), .val (.ref bb), .val (.ref rr), .val (.int ta), .val (.int rs), .val (.int tb), .val (.int bs), .val (.int bq), .val (.int (2 : Int32)), .val (.double al), .second, .val (.int (2 : Int32)), .val (.int (ta + (1 : Int32))), .val (.int (tb + ((1 : Int32) * bs)))] []))
  obtain ⟨fs4, hr4, hrun4, hended4, hW4, hsame4⟩ := X3.leave (v := none) (fun _ => rfl)
  refine own_end ⟨_, _, ?_, hrun4, hended4, _, _, rfl, ?_, ⟨_, rfl⟩, hW4, hsame4.mono (by decide) (by decide)⟩
  · exact X3.returnOut hx Bd.returns (hb hby d4_197) hr4
  · show QrmE2 Z ks aa bb rr ta rs tb bs bq al ub ur h0 n0 _ T3.heap _
    rw [e3]
    exact ⟨rfl, N3, KK, G_rr⟩
theorem ef_rmE3 (m : MethodId) (x0 : Addr) (x1 : Addr) (x2 : Addr) (x3 : Addr) (x4 : Int32) (x5 : Int32) (x6 : Int32) (x7 : Int32) (x8 : Int32) (x9 : Int32) : entryFrame m #[(.ref x0), (.ref x1), (.ref x2), (.ref x3), (.int x4), (.int x5), (.int x6), (.int x7), (.int x8), (.int x9)] 15 = mkF m 0 #[.val (.ref x0), .val (.ref x1), .val (.ref x2), .val (.ref x3), .val (.int x4), .val (.int x5), .val (.int x6), .val (.int x7), .val (.int x8), .val (.int x9), .unset, .unset, .unset, .unset, .unset] [] := by first | (simp [entryFrame, mkF, argsToLocals, Value.category]; done) | rfl
def QrmE3 (Z : State) (ks : Addr) (aa : Addr) (bb : Addr) (rr : Addr) (ta : Int32) (rs : Int32) (tb : Int32) (bs : Int32) (bq : Int32) (al : UInt64) (ub : Nat → UInt64) (ur : Nat → UInt64) (h0 : Heap) (n0 : Nat) (v : Option Value) (h : Heap) (L : List Loc) : Prop := v = none ∧ Fr n0 L ∧ Keep h0 h [rr] ∧ own_Arf Z h rr .double (64 : Int32) (fun i => .double ((own_T (own_T (own_T ur al ub (ta + (0 : Int32)) (tb + ((0 : Int32) * bs)) rs bq) al ub (ta + (1 : Int32)) (tb + ((1 : Int32) * bs)) rs bq) al ub (ta + (2 : Int32)) (tb + ((2 : Int32) * bs)) rs bq) i))
set_option maxRecDepth 65536 in
set_option maxHeartbeats 40000000 in
theorem rmE3 (l : Launch) (Z : State) (a0 : Array Value) (hw : ∀ d ∈ tables_1, d.before a0 Z = true) (ws : List Jvm.Cond) (ks : Addr) (aa : Addr) (bb : Addr) (rr : Addr) (ta : Int32) (rs : Int32) (tb : Int32) (bs : Int32) (bq : Int32) (al : UInt64) (ub : Nat → UInt64) (ur : Nat → UInt64) (h0 : Heap) (n0 : Nat) (Z0 : n0 ≤ h0.size) (Fal : Fld Z h0 ks "com/example/indexica/indexica/Scaled" "alpha" "D" (.double al)) (G_bb : own_Arf Z h0 bb .double (128 : Int32) (fun i => .double (ub i))) (G_rr : own_Arf Z h0 rr .double (64 : Int32) (fun i => .double (ur i))) (g_rr : n0 ≤ rr) (ne_bb_rr : bb ≠ rr) (hal : Fin64 al) (hub : ∀ i, Fin64 (ub i)) (i0_0 : ¬ (ta + (0 : Int32)) < 0 ∧ (ta + (0 : Int32)) < (64 : Int32)) (i0_1 : ¬ ((ta + (0 : Int32)) + rs) < 0 ∧ ((ta + (0 : Int32)) + rs) < (64 : Int32)) (i0_2 : ¬ ((ta + (0 : Int32)) + ((2 : Int32) * rs)) < 0 ∧ ((ta + (0 : Int32)) + ((2 : Int32) * rs)) < (64 : Int32)) (i0_3 : ¬ ((ta + (0 : Int32)) + ((3 : Int32) * rs)) < 0 ∧ ((ta + (0 : Int32)) + ((3 : Int32) * rs)) < (64 : Int32)) (i0_4 : ¬ ((ta + (0 : Int32)) + ((4 : Int32) * rs)) < 0 ∧ ((ta + (0 : Int32)) + ((4 : Int32) * rs)) < (64 : Int32)) (i0_5 : ¬ ((ta + (0 : Int32)) + ((5 : Int32) * rs)) < 0 ∧ ((ta + (0 : Int32)) + ((5 : Int32) * rs)) < (64 : Int32)) (i0_6 : ¬ ((ta + (0 : Int32)) + ((6 : Int32) * rs)) < 0 ∧ ((ta + (0 : Int32)) + ((6 : Int32) * rs)) < (64 : Int32)) (i0_7 : ¬ ((ta + (0 : Int32)) + ((7 : Int32) * rs)) < 0 ∧ ((ta + (0 : Int32)) + ((7 : Int32) * rs)) < (64 : Int32)) (i1_0 : ¬ (ta + (1 : Int32)) < 0 ∧ (ta + (1 : Int32)) < (64 : Int32)) (i1_1 : ¬ ((ta + (1 : Int32)) + rs) < 0 ∧ ((ta + (1 : Int32)) + rs) < (64 : Int32)) (i1_2 : ¬ ((ta + (1 : Int32)) + ((2 : Int32) * rs)) < 0 ∧ ((ta + (1 : Int32)) + ((2 : Int32) * rs)) < (64 : Int32)) (i1_3 : ¬ ((ta + (1 : Int32)) + ((3 : Int32) * rs)) < 0 ∧ ((ta + (1 : Int32)) + ((3 : Int32) * rs)) < (64 : Int32)) (i1_4 : ¬ ((ta + (1 : Int32)) + ((4 : Int32) * rs)) < 0 ∧ ((ta + (1 : Int32)) + ((4 : Int32) * rs)) < (64 : Int32)) (i1_5 : ¬ ((ta + (1 : Int32)) + ((5 : Int32) * rs)) < 0 ∧ ((ta + (1 : Int32)) + ((5 : Int32) * rs)) < (64 : Int32)) (i1_6 : ¬ ((ta + (1 : Int32)) + ((6 : Int32) * rs)) < 0 ∧ ((ta + (1 : Int32)) + ((6 : Int32) * rs)) < (64 : Int32)) (i1_7 : ¬ ((ta + (1 : Int32)) + ((7 : Int32) * rs)) < 0 ∧ ((ta + (1 : Int32)) + ((7 : Int32) * rs)) < (64 : Int32)) (i2_0 : ¬ (ta + (2 : Int32)) < 0 ∧ (ta + (2 : Int32)) < (64 : Int32)) (i2_1 : ¬ ((ta + (2 : Int32)) + rs) < 0 ∧ ((ta + (2 : Int32)) + rs) < (64 : Int32)) (i2_2 : ¬ ((ta + (2 : Int32)) + ((2 : Int32) * rs)) < 0 ∧ ((ta + (2 : Int32)) + ((2 : Int32) * rs)) < (64 : Int32)) (i2_3 : ¬ ((ta + (2 : Int32)) + ((3 : Int32) * rs)) < 0 ∧ ((ta + (2 : Int32)) + ((3 : Int32) * rs)) < (64 : Int32)) (i2_4 : ¬ ((ta + (2 : Int32)) + ((4 : Int32) * rs)) < 0 ∧ ((ta + (2 : Int32)) + ((4 : Int32) * rs)) < (64 : Int32)) (i2_5 : ¬ ((ta + (2 : Int32)) + ((5 : Int32) * rs)) < 0 ∧ ((ta + (2 : Int32)) + ((5 : Int32) * rs)) < (64 : Int32)) (i2_6 : ¬ ((ta + (2 : Int32)) + ((6 : Int32) * rs)) < 0 ∧ ((ta + (2 : Int32)) + ((6 : Int32) * rs)) < (64 : Int32)) (i2_7 : ¬ ((ta + (2 : Int32)) + ((7 : Int32) * rs)) < 0 ∧ ((ta + (2 : Int32)) + ((7 : Int32) * rs)) < (64 : Int32)) (j0_0 : ¬ (tb + ((0 : Int32) * bs)) < 0 ∧ (tb + ((0 : Int32) * bs)) < (128 : Int32)) (j0_1 : ¬ ((tb + ((0 : Int32) * bs)) + bq) < 0 ∧ ((tb + ((0 : Int32) * bs)) + bq) < (128 : Int32)) (j0_2 : ¬ ((tb + ((0 : Int32) * bs)) + ((2 : Int32) * bq)) < 0 ∧ ((tb + ((0 : Int32) * bs)) + ((2 : Int32) * bq)) < (128 : Int32)) (j0_3 : ¬ ((tb + ((0 : Int32) * bs)) + ((3 : Int32) * bq)) < 0 ∧ ((tb + ((0 : Int32) * bs)) + ((3 : Int32) * bq)) < (128 : Int32)) (j0_4 : ¬ ((tb + ((0 : Int32) * bs)) + ((4 : Int32) * bq)) < 0 ∧ ((tb + ((0 : Int32) * bs)) + ((4 : Int32) * bq)) < (128 : Int32)) (j0_5 : ¬ ((tb + ((0 : Int32) * bs)) + ((5 : Int32) * bq)) < 0 ∧ ((tb + ((0 : Int32) * bs)) + ((5 : Int32) * bq)) < (128 : Int32)) (j0_6 : ¬ ((tb + ((0 : Int32) * bs)) + ((6 : Int32) * bq)) < 0 ∧ ((tb + ((0 : Int32) * bs)) + ((6 : Int32) * bq)) < (128 : Int32)) (j0_7 : ¬ ((tb + ((0 : Int32) * bs)) + ((7 : Int32) * bq)) < 0 ∧ ((tb + ((0 : Int32) * bs)) + ((7 : Int32) * bq)) < (128 : Int32)) (j1_0 : ¬ (tb + ((1 : Int32) * bs)) < 0 ∧ (tb + ((1 : Int32) * bs)) < (128 : Int32)) (j1_1 : ¬ ((tb + ((1 : Int32) * bs)) + bq) < 0 ∧ ((tb + ((1 : Int32) * bs)) + bq) < (128 : Int32)) (j1_2 : ¬ ((tb + ((1 : Int32) * bs)) + ((2 : Int32) * bq)) < 0 ∧ ((tb + ((1 : Int32) * bs)) + ((2 : Int32) * bq)) < (128 : Int32)) (j1_3 : ¬ ((tb + ((1 : Int32) * bs)) + ((3 : Int32) * bq)) < 0 ∧ ((tb + ((1 : Int32) * bs)) + ((3 : Int32) * bq)) < (128 : Int32)) (j1_4 : ¬ ((tb + ((1 : Int32) * bs)) + ((4 : Int32) * bq)) < 0 ∧ ((tb + ((1 : Int32) * bs)) + ((4 : Int32) * bq)) < (128 : Int32)) (j1_5 : ¬ ((tb + ((1 : Int32) * bs)) + ((5 : Int32) * bq)) < 0 ∧ ((tb + ((1 : Int32) * bs)) + ((5 : Int32) * bq)) < (128 : Int32)) (j1_6 : ¬ ((tb + ((1 : Int32) * bs)) + ((6 : Int32) * bq)) < 0 ∧ ((tb + ((1 : Int32) * bs)) + ((6 : Int32) * bq)) < (128 : Int32)) (j1_7 : ¬ ((tb + ((1 : Int32) * bs)) + ((7 : Int32) * bq)) < 0 ∧ ((tb + ((1 : Int32) * bs)) + ((7 : Int32) * bq)) < (128 : Int32)) (j2_0 : ¬ (tb + ((2 : Int32) * bs)) < 0 ∧ (tb + ((2 : Int32) * bs)) < (128 : Int32)) (j2_1 : ¬ ((tb + ((2 : Int32) * bs)) + bq) < 0 ∧ ((tb + ((2 : Int32) * bs)) + bq) < (128 : Int32)) (j2_2 : ¬ ((tb + ((2 : Int32) * bs)) + ((2 : Int32) * bq)) < 0 ∧ ((tb + ((2 : Int32) * bs)) + ((2 : Int32) * bq)) < (128 : Int32)) (j2_3 : ¬ ((tb + ((2 : Int32) * bs)) + ((3 : Int32) * bq)) < 0 ∧ ((tb + ((2 : Int32) * bs)) + ((3 : Int32) * bq)) < (128 : Int32)) (j2_4 : ¬ ((tb + ((2 : Int32) * bs)) + ((4 : Int32) * bq)) < 0 ∧ ((tb + ((2 : Int32) * bs)) + ((4 : Int32) * bq)) < (128 : Int32)) (j2_5 : ¬ ((tb + ((2 : Int32) * bs)) + ((5 : Int32) * bq)) < 0 ∧ ((tb + ((2 : Int32) * bs)) + ((5 : Int32) * bq)) < (128 : Int32)) (j2_6 : ¬ ((tb + ((2 : Int32) * bs)) + ((6 : Int32) * bq)) < 0 ∧ ((tb + ((2 : Int32) * bs)) + ((6 : Int32) * bq)) < (128 : Int32)) (j2_7 : ¬ ((tb + ((2 : Int32) * bs)) + ((7 : Int32) * bq)) < 0 ∧ ((tb + ((2 : Int32) * bs)) + ((7 : Int32) * bq)) < (128 : Int32)) :
    MetFree l (⟨"com/example/indexica/indexica/Scaled", "eightRows", "([D[D[DIIIIII)V"⟩ : MethodName) (head1 (Jvm.Cond.code (⟨"com/example/indexica/indexica/Scaled", "eightRows", "([D[D[DIIIIII)V"⟩ : MethodName) prog_84_method_3_code 15 none :: ws) ({ frames := 0, cells := 0, slots := 0, locals := 0 } : Room)) (fun aq Uq => aq = #[(.ref ks), (.ref aa), (.ref bb), (.ref rr), (.int ta), (.int rs), (.int tb), (.int bs), (.int bq), (.int (3 : Int32))] ∧ Z.Warmed39 Uq.vm ∧ Uq.heap = h0) (fun _ _ _ _ _ => True) (fun _ Uq oq Uq' => ∃ vq Lq, oq = .returned vq ∧ QrmE3 Z ks aa bb rr ta rs tb bs bq al ub ur h0 n0 vq Uq'.heap Lq ∧ FrameEnd Uq oq Uq' Lq ({ frames := 0, cells := 0, slots := 0, locals := 0 } : Room).cells ({ frames := 0, cells := 0, slots := 0, locals := 0 } : Room).slots) := by
  refine MetFree.of_bodySF (plainFor_of_name pn_1) hisR ?_
  intro p e s m args below meth c s₁ Bd hml0 hP hK
  obtain ⟨rfl, hZ, hh⟩ := hP
  have hx := Bd.exec
  have hby := Bd.bytes
  have hml : c.maxLocals = 15 := hml0
  have hown : s.vm.findClass "com/example/indexica/indexica/Scaled" = some m.cls := findClass_of_methodNamed Bd.named
  have hnm := (name_of_methodNamed Bd.named Bd.method).1
  have X0 : Stand p l e ({ frames := 0, cells := 0, slots := 0, locals := 0 } : Room) s m #[(.ref ks), (.ref aa), (.ref bb), (.ref rr), (.int ta), (.int rs), (.int tb), (.int bs), (.int bq), (.int (3 : Int32))] below meth c s₁ [] 0 0 := Stand.of_body Bd
  have e0 : s₁.heap = h0 := by rw [← hh, Bd.state]; rfl
  have N0 := Fr.nil n0
  have ZH := Z0
  have KK := Keep.refl h0 [rr]
  refine own_start (fun t k => castTop (ef_rmE3 m ks aa bb rr ta rs tb bs bq (3 : Int32)) k) ?_
  show own_Go p.tables e below _ (s₁.setTop (mkF m 0 #[.val (.ref ks), .val (.ref aa), .val (.ref bb), .val (.ref rr), .val (.int ta), .val (.int rs), .val (.int tb), .val (.int bs), .val (.int bq), .val (.int (3 : Int32)), .unset, .unset, .unset, .unset, .unset] []))
  refine own_up (fun _ k => XS.aloadN X0.here hx rfl (hb hby d4_0) rfl rfl k) ?_
  show own_Go p.tables e below _ (s₁.setTop (mkF m 1 #[.val (.ref ks), .val (.ref aa), .val (.ref bb), .val (.ref rr), .val (.int ta), .val (.int rs), .val (.int tb), .val (.int bs), .val (.int bq), .val (.int (3 : Int32)), .unset, .unset, .unset, .unset, .unset] [(.ref ks)]))
  obtain ⟨T1, X1, e1, st1⟩ := getF X0 hx hZ hown (host := "") (Or.inl (hw _ (List.mem_of_getElem? (i := 17) rfl))) Via.refl e0 Fal (g := (mkF m 1 #[.val (.ref ks), .val (.ref aa), .val (.ref bb), .val (.ref rr), .val (.int ta), .val (.int rs), .val (.int tb), .val (.int bs), .val (.int bq), .val (.int (3 : Int32)), .unset, .unset, .unset, .unset, .unset] [(.ref ks)])) rfl rfl (hb hby d4_1)
  refine own_up st1 ?_
  show own_Go p.tables e below _ (T1.setTop (mkF m 4 #[.val (.ref ks), .val (.ref aa), .val (.ref bb), .val (.ref rr), .val (.int ta), .val (.int rs), .val (.int tb), .val (.int bs), .val (.int bq), .val (.int (3 : Int32)), .unset, .unset, .unset, .unset, .unset] [(.double al)]))
  refine own_up (fun _ k => XS.dstore X1.here hx rfl (hb hby d4_4) rfl (l' := #[.val (.ref ks), .val (.ref aa), .val (.ref bb), .val (.ref rr), .val (.int ta), .val (.int rs), .val (.int tb), .val (.int bs), .val (.int bq), .val (.int (3 : Int32)), .val (.double al), .second, .unset, .unset, .unset]) rfl k) ?_
  show own_Go p.tables e below _ (T1.setTop (mkF m 6 #[.val (.ref ks), .val (.ref aa), .val (.ref bb), .val (.ref rr), .val (.int ta), .val (.int rs), .val (.int tb), .val (.int bs), .val (.int bq), .val (.int (3 : Int32)), .val (.double al), .second, .unset, .unset, .unset] []))
  refine own_up (fun _ k => XS.iconst X1.here hx rfl (hb hby d4_6) k) ?_
  show own_Go p.tables e below _ (T1.setTop (mkF m 7 #[.val (.ref ks), .val (.ref aa), .val (.ref bb), .val (.ref rr), .val (.int ta), .val (.int rs), .val (.int tb), .val (.int bs), .val (.int bq), .val (.int (3 : Int32)), .val (.double al), .second, .unset, .unset, .unset] [(.int (0 : Int32))]))
  refine own_up (fun _ k => XS.istore X1.here hx rfl (hb hby d4_7) rfl (l' := #[.val (.ref ks), .val (.ref aa), .val (.ref bb), .val (.ref rr), .val (.int ta), .val (.int rs), .val (.int tb), .val (.int bs), .val (.int bq), .val (.int (3 : Int32)), .val (.double al), .second, .val (.int (0 : Int32)), .unset, .unset]) rfl k) ?_
  show own_Go p.tables e below _ (T1.setTop (mkF m 9 #[.val (.ref ks), .val (.ref aa), .val (.ref bb), .val (.ref rr), .val (.int ta), .val (.int rs), .val (.int tb), .val (.int bs), .val (.int bq), .val (.int (3 : Int32)), .val (.double al), .second, .val (.int (0 : Int32)), .unset, .unset] []))
  refine tnE (x := (ta + (0 : Int32))) (y := (tb + ((0 : Int32) * bs))) X1 hx hZ hw hby hml hown e1 N0 ZH G_bb G_rr g_rr ne_bb_rr One.u One.u (by decide) rfl rfl hal hub i0_0 i0_1 i0_2 i0_3 i0_4 i0_5 i0_6 i0_7 j0_0 j0_1 j0_2 j0_3 j0_4 j0_5 j0_6 j0_7 (fun T2 h2 locs2 X2 e2 N2 K2 G_bb G_rr => ?_)
  have ZH := Nat.le_trans ZH K2.1
  have KK := KK.trans K2 (allS (Or.inl (List.mem_of_getElem? (i := 0) rfl)) all0)
  show own_Go p.tables e below _ (T2.setTop (mkF m 9 #[.val (.ref ks), .val (.ref aa), .val (.ref bb), .val (.ref rr), .val (.int ta), .val (.int rs), .val (.int tb), .val (.int bs), .val (.int bq), .val (.int (3 : Int32)), .val (.double al), .second, .val (.int (1 : Int32)), .val (.int (ta + (0 : Int32))), .val (.int (tb + ((0 : Int32) * bs)))] []))
  refine tnE (x := (ta + (1 : Int32))) (y := (tb + ((1 : Int32) * bs))) X2 hx hZ hw hby hml hown e2 N2 ZH G_bb G_rr g_rr ne_bb_rr (One.val rfl) (One.val rfl) (by decide) rfl rfl hal hub i1_0 i1_1 i1_2 i1_3 i1_4 i1_5 i1_6 i1_7 j1_0 j1_1 j1_2 j1_3 j1_4 j1_5 j1_6 j1_7 (fun T3 h3 locs3 X3 e3 N3 K3 G_bb G_rr => ?_)
  have ZH := Nat.le_trans ZH K3.1
  have KK := KK.trans K3 (allS (Or.inl (List.mem_of_getElem? (i := 0) rfl)) all0)
  show own_Go p.tables e below _ (T3.setTop (mkF m 9 #[.val (.ref ks), .val (.ref aa), .val (.ref bb), .val (.ref rr), .val (.int ta), .val (.int rs), .val (.int tb), .val (.int bs), .val (.int bq), .val (.int (3 : Int32)), .val (.double al), .second, .val (.int (2 : Int32)), .val (.int (ta + (1 : Int32))), .val (.int (tb + ((1 : Int32) * bs)))] []))
  refine tnE (x := (ta + (2 : Int32))) (y := (tb + ((2 : Int32) * bs))) X3 hx hZ hw hby hml hown e3 N3 ZH G_bb G_rr g_rr ne_bb_rr (One.val rfl) (One.val rfl) (by decide) rfl rfl hal hub i2_0 i2_1 i2_2 i2_3 i2_4 i2_5 i2_6 i2_7 j2_0 j2_1 j2_2 j2_3 j2_4 j2_5 j2_6 j2_7 (fun T4 h4 locs4 X4 e4 N4 K4 G_bb G_rr => ?_)
  have ZH := Nat.le_trans ZH K4.1
  have KK := KK.trans K4 (allS (Or.inl (List.mem_of_getElem? (i := 0) rfl)) all0)
  show own_Go p.tables e below _ (T4.setTop (mkF m 9 #[.val (.ref ks), .val (.ref aa), .val (.ref bb), .val (.ref rr), .val (.int ta), .val (.int rs), .val (.int tb), .val (.int bs), .val (.int bq), .val (.int (3 : Int32)), .val (.double al), .second, .val (.int (3 : Int32)), .val (.int (ta + (2 : Int32))), .val (.int (tb + ((2 : Int32) * bs)))] []))
  refine own_up (fun _ k => XS.iload X4.here hx rfl (hb hby d4_9) rfl k) ?_
  show own_Go p.tables e below _ (T4.setTop (mkF m 11 #[.val (.ref ks), .val (.ref aa), .val (.ref bb), .val (.ref rr), .val (.int ta), .val (.int rs), .val (.int tb), .val (.int bs), .val (.int bq), .val (.int (3 : Int32)), .val (.double al), .second, .val (.int (3 : Int32)), .val (.int (ta + (2 : Int32))), .val (.int (tb + ((2 : Int32) * bs)))] [(.int (3 : Int32))]))
  refine own_up (fun _ k => XS.iload X4.here hx rfl (hb hby d4_11) rfl k) ?_
  show own_Go p.tables e below _ (T4.setTop (mkF m 13 #[.val (.ref ks), .val (.ref aa), .val (.ref bb), .val (.ref rr), .val (.int ta), .val (.int rs), .val (.int tb), .val (.int bs), .val (.int bq), .val (.int (3 : Int32)), .val (.double al), .second, .val (.int (3 : Int32)), .val (.int (ta + (2 : Int32))), .val (.int (tb + ((2 : Int32) * bs)))] [(.int (3 : Int32)), (.int (3 : Int32))]))
  refine own_up (fun _ k => XS.icmpYes X4.here hx rfl (pc0 := 13) (pc' := 197) rfl (hb hby d4_13) rfl (flt (by decide : ¬ ((3 : Int32) < (3 : Int32)))).2.1 (by decide) (by decide) k) ?_
  show own_Go p.tables e below _ (T4.setTop (mkF m 197 #[.val (.ref ks), .val (.ref aa), .val (.ref bb), .val (.ref rr), .val (.int ta), .val (.int rs), .val (.int tb), .val (.int bs), .val (.int bq), .val (.int (3 : Int32)), .val (.double al), .second, .val (.int (3 : Int32)), .val (.int (ta + (2 : Int32))), .val (.int (tb + ((2 : Int32) * bs)))] []))
  obtain ⟨fs5, hr5, hrun5, hended5, hW5, hsame5⟩ := X4.leave (v := none) (fun _ => rfl)
  refine own_end ⟨_, _, ?_, hrun5, hended5, _, _, rfl, ?_, ⟨_, rfl⟩, hW5, hsame5.mono (by decide) (by decide)⟩
  · exact X4.returnOut hx Bd.returns (hb hby d4_197) hr5
  · show QrmE3 Z ks aa bb rr ta rs tb bs bq al ub ur h0 n0 _ T4.heap _
    rw [e4]
    exact ⟨rfl, N4, KK, G_rr⟩
theorem pn_2 : plainName "com/example/indexica/indexica/ScaledEightRowsPinLaw" = true := by first | (simp [plainName, overriddenIn]; done) | decide +kernel
theorem d5_0 : decode method_3_code 0 = .ok (.iload_n 0, 1) := by decide +kernel
theorem d5_1 : decode method_3_code 1 = .ok (.ifCond .ne 7, 3) := by decide +kernel
theorem d5_4 : decode method_3_code 4 = .ok (.ldc2_w 9, 3) := by decide +kernel
theorem d5_7 : decode method_3_code 7 = .ok (.dreturn, 1) := by decide +kernel
theorem d5_8 : decode method_3_code 8 = .ok (.iload 7, 2) := by decide +kernel
theorem d5_10 : decode method_3_code 10 = .ok (.iload_n 3, 1) := by decide +kernel
theorem d5_11 : decode method_3_code 11 = .ok (.isub, 1) := by decide +kernel
theorem d5_12 : decode method_3_code 12 = .ok (.istore 13, 2) := by decide +kernel
theorem d5_14 : decode method_3_code 14 = .ok (.iload 13, 2) := by decide +kernel
theorem d5_16 : decode method_3_code 16 = .ok (.bipush 64, 2) := by decide +kernel
theorem d5_18 : decode method_3_code 18 = .ok (.iload_n 1, 1) := by decide +kernel
theorem d5_19 : decode method_3_code 19 = .ok (.imul, 1) := by decide +kernel
theorem d5_20 : decode method_3_code 20 = .ok (.iadd, 1) := by decide +kernel
theorem d5_21 : decode method_3_code 21 = .ok (.istore 14, 2) := by decide +kernel
theorem d5_23 : decode method_3_code 23 = .ok (.iload 14, 2) := by decide +kernel
theorem d5_25 : decode method_3_code 25 = .ok (.iload_n 1, 1) := by decide +kernel
theorem d5_26 : decode method_3_code 26 = .ok (.idiv, 1) := by decide +kernel
theorem d5_27 : decode method_3_code 27 = .ok (.bipush 64, 2) := by decide +kernel
theorem d5_29 : decode method_3_code 29 = .ok (.isub, 1) := by decide +kernel
theorem d5_30 : decode method_3_code 30 = .ok (.istore 15, 2) := by decide +kernel
theorem d5_32 : decode method_3_code 32 = .ok (.iload 14, 2) := by decide +kernel
theorem d5_34 : decode method_3_code 34 = .ok (.iload_n 1, 1) := by decide +kernel
theorem d5_35 : decode method_3_code 35 = .ok (.irem, 1) := by decide +kernel
theorem d5_36 : decode method_3_code 36 = .ok (.istore 16, 2) := by decide +kernel
theorem d5_38 : decode method_3_code 38 = .ok (.iload_n 2, 1) := by decide +kernel
theorem d5_39 : decode method_3_code 39 = .ok (.ifCond .eq 9, 3) := by decide +kernel
theorem d5_48 : decode method_3_code 48 = .ok (.iload 15, 2) := by decide +kernel
theorem d5_42 : decode method_3_code 42 = .ok (.iload 15, 2) := by decide +kernel
theorem d5_44 : decode method_3_code 44 = .ok (.ineg, 1) := by decide +kernel
theorem d5_45 : decode method_3_code 45 = .ok (.goto 5, 3) := by decide +kernel
theorem d5_50 : decode method_3_code 50 = .ok (.istore 17, 2) := by decide +kernel
theorem d5_52 : decode method_3_code 52 = .ok (.iload 17, 2) := by decide +kernel
theorem d5_54 : decode method_3_code 54 = .ok (.ifCond .lt 16, 3) := by decide +kernel
theorem d5_70 : decode method_3_code 70 = .ok (.ldc2_w 9, 3) := by decide +kernel
theorem d5_73 : decode method_3_code 73 = .ok (.dreturn, 1) := by decide +kernel
theorem d5_57 : decode method_3_code 57 = .ok (.iload 17, 2) := by decide +kernel
theorem d5_59 : decode method_3_code 59 = .ok (.bipush 7, 2) := by decide +kernel
theorem d5_61 : decode method_3_code 61 = .ok (.if_icmp .gt 9, 3) := by decide +kernel
theorem d5_64 : decode method_3_code 64 = .ok (.iload 16, 2) := by decide +kernel
theorem d5_66 : decode method_3_code 66 = .ok (.iload_n 0, 1) := by decide +kernel
theorem d5_67 : decode method_3_code 67 = .ok (.if_icmp .lt 7, 3) := by decide +kernel
theorem d5_74 : decode method_3_code 74 = .ok (.iload 4, 2) := by decide +kernel
theorem d5_76 : decode method_3_code 76 = .ok (.iload 16, 2) := by decide +kernel
theorem d5_78 : decode method_3_code 78 = .ok (.iload 5, 2) := by decide +kernel
theorem d5_80 : decode method_3_code 80 = .ok (.imul, 1) := by decide +kernel
theorem d5_81 : decode method_3_code 81 = .ok (.iadd, 1) := by decide +kernel
theorem d5_82 : decode method_3_code 82 = .ok (.iload 17, 2) := by decide +kernel
theorem d5_84 : decode method_3_code 84 = .ok (.iload 6, 2) := by decide +kernel
theorem d5_86 : decode method_3_code 86 = .ok (.imul, 1) := by decide +kernel
theorem d5_87 : decode method_3_code 87 = .ok (.iadd, 1) := by decide +kernel
theorem d5_88 : decode method_3_code 88 = .ok (.istore 18, 2) := by decide +kernel
theorem d5_90 : decode method_3_code 90 = .ok (.iload 18, 2) := by decide +kernel
theorem d5_92 : decode method_3_code 92 = .ok (.iload 8, 2) := by decide +kernel
theorem d5_94 : decode method_3_code 94 = .ok (.if_icmp .ne 8, 3) := by decide +kernel
theorem d5_97 : decode method_3_code 97 = .ok (.dload 11, 2) := by decide +kernel
theorem d5_99 : decode method_3_code 99 = .ok (.goto 4, 3) := by decide +kernel
theorem d5_102 : decode method_3_code 102 = .ok (.dconst 0, 1) := by decide +kernel
theorem d5_103 : decode method_3_code 103 = .ok (.dstore 19, 2) := by decide +kernel
theorem d5_105 : decode method_3_code 105 = .ok (.dload 9, 2) := by decide +kernel
theorem d5_107 : decode method_3_code 107 = .ok (.dload 19, 2) := by decide +kernel
theorem d5_109 : decode method_3_code 109 = .ok (.dmul, 1) := by decide +kernel
theorem d5_110 : decode method_3_code 110 = .ok (.dreturn, 1) := by decide +kernel
theorem ef_rmX (m : MethodId) (x0 : Int32) (x1 : Int32) (x2 : Int32) (x3 : Int32) (x4 : Int32) (x5 : Int32) (x6 : Int32) (x7 : Int32) (x8 : Int32) (x9 : UInt64) (x10 : UInt64) : entryFrame m #[(.int x0), (.int x1), (.int x2), (.int x3), (.int x4), (.int x5), (.int x6), (.int x7), (.int x8), (.double x9), (.double x10)] 21 = mkF m 0 #[.val (.int x0), .val (.int x1), .val (.int x2), .val (.int x3), .val (.int x4), .val (.int x5), .val (.int x6), .val (.int x7), .val (.int x8), .val (.double x9), .second, .val (.double x10), .second, .unset, .unset, .unset, .unset, .unset, .unset, .unset, .unset] [] := by first | (simp [entryFrame, mkF, argsToLocals, Value.category]; done) | rfl
def QrmX (Z : State) (cn : Int32) (mm : Int32) (ng : Int32) (ta : Int32) (tb : Int32) (bs : Int32) (bq : Int32) (pp : Int32) (qq : Int32) (al : UInt64) (va : UInt64) (h0 : Heap) (n0 : Nat) (v : Option Value) (h : Heap) (L : List Loc) : Prop := v = some (.double (own_exp cn mm ng ta tb bs bq pp qq al va)) ∧ Fr n0 L ∧ h = h0
set_option maxRecDepth 65536 in
set_option maxHeartbeats 40000000 in
theorem rmX (l : Launch) (Z : State) (a0 : Array Value) (hw : ∀ d ∈ tables_1, d.before a0 Z = true) (ws : List Jvm.Cond) (cn : Int32) (mm : Int32) (ng : Int32) (ta : Int32) (tb : Int32) (bs : Int32) (bq : Int32) (pp : Int32) (qq : Int32) (al : UInt64) (va : UInt64) (h0 : Heap) (n0 : Nat) (Z0 : n0 ≤ h0.size) (hmm : ¬ cn = (0 : Int32) → mm ≠ 0) (hal : Fin64 al) (hva : Fin64 va) :
    MetFree l (⟨"com/example/indexica/indexica/ScaledEightRowsPinLaw", "expected", "(IIZIIIIIIDD)D"⟩ : MethodName) (head1 (Jvm.Cond.code (⟨"com/example/indexica/indexica/ScaledEightRowsPinLaw", "expected", "(IIZIIIIIIDD)D"⟩ : MethodName) method_3_code 21 (some .double) :: ws) ({ frames := 0, cells := 0, slots := 0, locals := 0 } : Room)) (fun aq Uq => aq = #[(.int cn), (.int mm), (.int ng), (.int ta), (.int tb), (.int bs), (.int bq), (.int pp), (.int qq), (.double al), (.double va)] ∧ Z.Warmed39 Uq.vm ∧ Uq.heap = h0) (fun _ _ _ _ _ => True) (fun _ Uq oq Uq' => ∃ vq Lq, oq = .returned vq ∧ QrmX Z cn mm ng ta tb bs bq pp qq al va h0 n0 vq Uq'.heap Lq ∧ FrameEnd Uq oq Uq' Lq ({ frames := 0, cells := 0, slots := 0, locals := 0 } : Room).cells ({ frames := 0, cells := 0, slots := 0, locals := 0 } : Room).slots) := by
  refine MetFree.of_bodySF (plainFor_of_name pn_2) hisR ?_
  intro p e s m args below meth c s₁ Bd hml0 hP hK
  obtain ⟨rfl, hZ, hh⟩ := hP
  have hx := Bd.exec
  have hby := Bd.bytes
  have hml : c.maxLocals = 21 := hml0
  have hown : s.vm.findClass "com/example/indexica/indexica/ScaledEightRowsPinLaw" = some m.cls := findClass_of_methodNamed Bd.named
  have hnm := (name_of_methodNamed Bd.named Bd.method).1
  have X0 : Stand p l e ({ frames := 0, cells := 0, slots := 0, locals := 0 } : Room) s m #[(.int cn), (.int mm), (.int ng), (.int ta), (.int tb), (.int bs), (.int bq), (.int pp), (.int qq), (.double al), (.double va)] below meth c s₁ [] 0 0 := Stand.of_body Bd
  have e0 : s₁.heap = h0 := by rw [← hh, Bd.state]; rfl
  have N0 := Fr.nil n0
  have ZH := Z0
  have KK := Keep.refl h0 []
  refine own_start (fun t k => castTop (ef_rmX m cn mm ng ta tb bs bq pp qq al va) k) ?_
  show own_Go p.tables e below _ (s₁.setTop (mkF m 0 #[.val (.int cn), .val (.int mm), .val (.int ng), .val (.int ta), .val (.int tb), .val (.int bs), .val (.int bq), .val (.int pp), .val (.int qq), .val (.double al), .second, .val (.double va), .second, .unset, .unset, .unset, .unset, .unset, .unset, .unset, .unset] []))
  refine own_up (fun _ k => XS.iloadN X0.here hx rfl (hb hby d5_0) rfl k) ?_
  show own_Go p.tables e below _ (s₁.setTop (mkF m 1 #[.val (.int cn), .val (.int mm), .val (.int ng), .val (.int ta), .val (.int tb), .val (.int bs), .val (.int bq), .val (.int pp), .val (.int qq), .val (.double al), .second, .val (.double va), .second, .unset, .unset, .unset, .unset, .unset, .unset, .unset, .unset] [(.int cn)]))
  by_cases hc1 : cn = (0 : Int32)
  · refine own_up (fun _ k => XS.ifNo X0.here hx rfl (hb hby d5_1) rfl ((if0 _ _).trans (teq hc1).2) k) ?_
    show own_Go p.tables e below _ (s₁.setTop (mkF m 4 #[.val (.int cn), .val (.int mm), .val (.int ng), .val (.int ta), .val (.int tb), .val (.int bs), .val (.int bq), .val (.int pp), .val (.int qq), .val (.double al), .second, .val (.double va), .second, .unset, .unset, .unset, .unset, .unset, .unset, .unset, .unset] []))
    refine own_up (fun _ k => X0.ldc2DoubleC hx hown (mvT hZ (hw _ (List.mem_of_getElem? (i := 2) rfl))) (g := (mkF m 4 #[.val (.int cn), .val (.int mm), .val (.int ng), .val (.int ta), .val (.int tb), .val (.int bs), .val (.int bq), .val (.int pp), .val (.int qq), .val (.double al), .second, .val (.double va), .second, .unset, .unset, .unset, .unset, .unset, .unset, .unset, .unset] [])) rfl (hb hby d5_4) _ k) ?_
    show own_Go p.tables e below _ (s₁.setTop (mkF m 7 #[.val (.int cn), .val (.int mm), .val (.int ng), .val (.int ta), .val (.int tb), .val (.int bs), .val (.int bq), .val (.int pp), .val (.int qq), .val (.double al), .second, .val (.double va), .second, .unset, .unset, .unset, .unset, .unset, .unset, .unset, .unset] [(.double (4602678819172646912 : UInt64))]))
    obtain ⟨fs1, hr1, hrun1, hended1, hW1, hsame1⟩ := X0.leave (v := some (.double (4602678819172646912 : UInt64))) (fun h => by rw [Bd.returns] at h; cases h)
    refine own_end ⟨_, _, ?_, hrun1, hended1, _, _, rfl, ?_, ⟨_, rfl⟩, hW1, hsame1.mono (by decide) (by decide)⟩
    · exact retOut X0 hx Bd.returns rfl (Or.inr (Or.inr (Or.inl ⟨rfl, rfl, _, rfl⟩))) (hb hby d5_7) hr1
    · show QrmX Z cn mm ng ta tb bs bq pp qq al va h0 n0 _ s₁.heap _
      rw [e0]
      exact ⟨by unfold own_exp own_R; rw [if_pos hc1] <;> rfl, N0, rfl⟩
  · refine own_up (fun _ k => XS.ifYes X0.here hx rfl (pc0 := 1) (pc' := 8) rfl (hb hby d5_1) rfl ((if0 _ _).trans (feq hc1).2) (by decide) (by decide) k) ?_
    show own_Go p.tables e below _ (s₁.setTop (mkF m 8 #[.val (.int cn), .val (.int mm), .val (.int ng), .val (.int ta), .val (.int tb), .val (.int bs), .val (.int bq), .val (.int pp), .val (.int qq), .val (.double al), .second, .val (.double va), .second, .unset, .unset, .unset, .unset, .unset, .unset, .unset, .unset] []))
    refine own_up (fun _ k => XS.iload X0.here hx rfl (hb hby d5_8) rfl k) ?_
    show own_Go p.tables e below _ (s₁.setTop (mkF m 10 #[.val (.int cn), .val (.int mm), .val (.int ng), .val (.int ta), .val (.int tb), .val (.int bs), .val (.int bq), .val (.int pp), .val (.int qq), .val (.double al), .second, .val (.double va), .second, .unset, .unset, .unset, .unset, .unset, .unset, .unset, .unset] [(.int pp)]))
    refine own_up (fun _ k => XS.iloadN X0.here hx rfl (hb hby d5_10) rfl k) ?_
    show own_Go p.tables e below _ (s₁.setTop (mkF m 11 #[.val (.int cn), .val (.int mm), .val (.int ng), .val (.int ta), .val (.int tb), .val (.int bs), .val (.int bq), .val (.int pp), .val (.int qq), .val (.double al), .second, .val (.double va), .second, .unset, .unset, .unset, .unset, .unset, .unset, .unset, .unset] [(.int ta), (.int pp)]))
    refine own_up (fun _ k => XS.isub X0.here hx rfl (hb hby d5_11) rfl k) ?_
    show own_Go p.tables e below _ (s₁.setTop (mkF m 12 #[.val (.int cn), .val (.int mm), .val (.int ng), .val (.int ta), .val (.int tb), .val (.int bs), .val (.int bq), .val (.int pp), .val (.int qq), .val (.double al), .second, .val (.double va), .second, .unset, .unset, .unset, .unset, .unset, .unset, .unset, .unset] [(.int (pp - ta))]))
    refine own_up (fun _ k => XS.istore X0.here hx rfl (hb hby d5_12) rfl (l' := #[.val (.int cn), .val (.int mm), .val (.int ng), .val (.int ta), .val (.int tb), .val (.int bs), .val (.int bq), .val (.int pp), .val (.int qq), .val (.double al), .second, .val (.double va), .second, .val (.int (pp - ta)), .unset, .unset, .unset, .unset, .unset, .unset, .unset]) rfl k) ?_
    show own_Go p.tables e below _ (s₁.setTop (mkF m 14 #[.val (.int cn), .val (.int mm), .val (.int ng), .val (.int ta), .val (.int tb), .val (.int bs), .val (.int bq), .val (.int pp), .val (.int qq), .val (.double al), .second, .val (.double va), .second, .val (.int (pp - ta)), .unset, .unset, .unset, .unset, .unset, .unset, .unset] []))
    refine own_up (fun _ k => XS.iload X0.here hx rfl (hb hby d5_14) rfl k) ?_
    show own_Go p.tables e below _ (s₁.setTop (mkF m 16 #[.val (.int cn), .val (.int mm), .val (.int ng), .val (.int ta), .val (.int tb), .val (.int bs), .val (.int bq), .val (.int pp), .val (.int qq), .val (.double al), .second, .val (.double va), .second, .val (.int (pp - ta)), .unset, .unset, .unset, .unset, .unset, .unset, .unset] [(.int (pp - ta))]))
    refine own_up (fun _ k => XS.bipush X0.here hx rfl (hb hby d5_16) k) ?_
    show own_Go p.tables e below _ (s₁.setTop (mkF m 18 #[.val (.int cn), .val (.int mm), .val (.int ng), .val (.int ta), .val (.int tb), .val (.int bs), .val (.int bq), .val (.int pp), .val (.int qq), .val (.double al), .second, .val (.double va), .second, .val (.int (pp - ta)), .unset, .unset, .unset, .unset, .unset, .unset, .unset] [(.int (64 : Int32)), (.int (pp - ta))]))
    refine own_up (fun _ k => XS.iloadN X0.here hx rfl (hb hby d5_18) rfl k) ?_
    show own_Go p.tables e below _ (s₁.setTop (mkF m 19 #[.val (.int cn), .val (.int mm), .val (.int ng), .val (.int ta), .val (.int tb), .val (.int bs), .val (.int bq), .val (.int pp), .val (.int qq), .val (.double al), .second, .val (.double va), .second, .val (.int (pp - ta)), .unset, .unset, .unset, .unset, .unset, .unset, .unset] [(.int mm), (.int (64 : Int32)), (.int (pp - ta))]))
    refine own_up (fun _ k => XS.imul X0.here hx rfl (hb hby d5_19) rfl k) ?_
    show own_Go p.tables e below _ (s₁.setTop (mkF m 20 #[.val (.int cn), .val (.int mm), .val (.int ng), .val (.int ta), .val (.int tb), .val (.int bs), .val (.int bq), .val (.int pp), .val (.int qq), .val (.double al), .second, .val (.double va), .second, .val (.int (pp - ta)), .unset, .unset, .unset, .unset, .unset, .unset, .unset] [(.int ((64 : Int32) * mm)), (.int (pp - ta))]))
    refine own_up (fun _ k => XS.iadd X0.here hx rfl (hb hby d5_20) rfl k) ?_
    show own_Go p.tables e below _ (s₁.setTop (mkF m 21 #[.val (.int cn), .val (.int mm), .val (.int ng), .val (.int ta), .val (.int tb), .val (.int bs), .val (.int bq), .val (.int pp), .val (.int qq), .val (.double al), .second, .val (.double va), .second, .val (.int (pp - ta)), .unset, .unset, .unset, .unset, .unset, .unset, .unset] [(.int ((pp - ta) + ((64 : Int32) * mm)))]))
    show own_Go p.tables e below _ (s₁.setTop (mkF m 21 #[.val (.int cn), .val (.int mm), .val (.int ng), .val (.int ta), .val (.int tb), .val (.int bs), .val (.int bq), .val (.int pp), .val (.int qq), .val (.double al), .second, .val (.double va), .second, .val (.int (pp - ta)), .unset, .unset, .unset, .unset, .unset, .unset, .unset] [(.int (own_dd mm ta pp))]))
    refine own_up (fun _ k => XS.istore X0.here hx rfl (hb hby d5_21) rfl (l' := #[.val (.int cn), .val (.int mm), .val (.int ng), .val (.int ta), .val (.int tb), .val (.int bs), .val (.int bq), .val (.int pp), .val (.int qq), .val (.double al), .second, .val (.double va), .second, .val (.int (pp - ta)), .val (.int (own_dd mm ta pp)), .unset, .unset, .unset, .unset, .unset, .unset]) rfl k) ?_
    show own_Go p.tables e below _ (s₁.setTop (mkF m 23 #[.val (.int cn), .val (.int mm), .val (.int ng), .val (.int ta), .val (.int tb), .val (.int bs), .val (.int bq), .val (.int pp), .val (.int qq), .val (.double al), .second, .val (.double va), .second, .val (.int (pp - ta)), .val (.int (own_dd mm ta pp)), .unset, .unset, .unset, .unset, .unset, .unset] []))
    refine own_up (fun _ k => XS.iload X0.here hx rfl (hb hby d5_23) rfl k) ?_
    show own_Go p.tables e below _ (s₁.setTop (mkF m 25 #[.val (.int cn), .val (.int mm), .val (.int ng), .val (.int ta), .val (.int tb), .val (.int bs), .val (.int bq), .val (.int pp), .val (.int qq), .val (.double al), .second, .val (.double va), .second, .val (.int (pp - ta)), .val (.int (own_dd mm ta pp)), .unset, .unset, .unset, .unset, .unset, .unset] [(.int (own_dd mm ta pp))]))
    refine own_up (fun _ k => XS.iloadN X0.here hx rfl (hb hby d5_25) rfl k) ?_
    show own_Go p.tables e below _ (s₁.setTop (mkF m 26 #[.val (.int cn), .val (.int mm), .val (.int ng), .val (.int ta), .val (.int tb), .val (.int bs), .val (.int bq), .val (.int pp), .val (.int qq), .val (.double al), .second, .val (.double va), .second, .val (.int (pp - ta)), .val (.int (own_dd mm ta pp)), .unset, .unset, .unset, .unset, .unset, .unset] [(.int mm), (.int (own_dd mm ta pp))]))
    refine own_up (fun _ k => XS.idiv X0.here hx rfl (hb hby d5_26) rfl (hmm hc1) k) ?_
    show own_Go p.tables e below _ (s₁.setTop (mkF m 27 #[.val (.int cn), .val (.int mm), .val (.int ng), .val (.int ta), .val (.int tb), .val (.int bs), .val (.int bq), .val (.int pp), .val (.int qq), .val (.double al), .second, .val (.double va), .second, .val (.int (pp - ta)), .val (.int (own_dd mm ta pp)), .unset, .unset, .unset, .unset, .unset, .unset] [(.int ((own_dd mm ta pp) / mm))]))
    refine own_up (fun _ k => XS.bipush X0.here hx rfl (hb hby d5_27) k) ?_
    show own_Go p.tables e below _ (s₁.setTop (mkF m 29 #[.val (.int cn), .val (.int mm), .val (.int ng), .val (.int ta), .val (.int tb), .val (.int bs), .val (.int bq), .val (.int pp), .val (.int qq), .val (.double al), .second, .val (.double va), .second, .val (.int (pp - ta)), .val (.int (own_dd mm ta pp)), .unset, .unset, .unset, .unset, .unset, .unset] [(.int (64 : Int32)), (.int ((own_dd mm ta pp) / mm))]))
    refine own_up (fun _ k => XS.isub X0.here hx rfl (hb hby d5_29) rfl k) ?_
    show own_Go p.tables e below _ (s₁.setTop (mkF m 30 #[.val (.int cn), .val (.int mm), .val (.int ng), .val (.int ta), .val (.int tb), .val (.int bs), .val (.int bq), .val (.int pp), .val (.int qq), .val (.double al), .second, .val (.double va), .second, .val (.int (pp - ta)), .val (.int (own_dd mm ta pp)), .unset, .unset, .unset, .unset, .unset, .unset] [(.int (((own_dd mm ta pp) / mm) - (64 : Int32)))]))
    refine own_up (fun _ k => XS.istore X0.here hx rfl (hb hby d5_30) rfl (l' := #[.val (.int cn), .val (.int mm), .val (.int ng), .val (.int ta), .val (.int tb), .val (.int bs), .val (.int bq), .val (.int pp), .val (.int qq), .val (.double al), .second, .val (.double va), .second, .val (.int (pp - ta)), .val (.int (own_dd mm ta pp)), .val (.int (((own_dd mm ta pp) / mm) - (64 : Int32))), .unset, .unset, .unset, .unset, .unset]) rfl k) ?_
    show own_Go p.tables e below _ (s₁.setTop (mkF m 32 #[.val (.int cn), .val (.int mm), .val (.int ng), .val (.int ta), .val (.int tb), .val (.int bs), .val (.int bq), .val (.int pp), .val (.int qq), .val (.double al), .second, .val (.double va), .second, .val (.int (pp - ta)), .val (.int (own_dd mm ta pp)), .val (.int (((own_dd mm ta pp) / mm) - (64 : Int32))), .unset, .unset, .unset, .unset, .unset] []))
    refine own_up (fun _ k => XS.iload X0.here hx rfl (hb hby d5_32) rfl k) ?_
    show own_Go p.tables e below _ (s₁.setTop (mkF m 34 #[.val (.int cn), .val (.int mm), .val (.int ng), .val (.int ta), .val (.int tb), .val (.int bs), .val (.int bq), .val (.int pp), .val (.int qq), .val (.double al), .second, .val (.double va), .second, .val (.int (pp - ta)), .val (.int (own_dd mm ta pp)), .val (.int (((own_dd mm ta pp) / mm) - (64 : Int32))), .unset, .unset, .unset, .unset, .unset] [(.int (own_dd mm ta pp))]))
    refine own_up (fun _ k => XS.iloadN X0.here hx rfl (hb hby d5_34) rfl k) ?_
    show own_Go p.tables e below _ (s₁.setTop (mkF m 35 #[.val (.int cn), .val (.int mm), .val (.int ng), .val (.int ta), .val (.int tb), .val (.int bs), .val (.int bq), .val (.int pp), .val (.int qq), .val (.double al), .second, .val (.double va), .second, .val (.int (pp - ta)), .val (.int (own_dd mm ta pp)), .val (.int (((own_dd mm ta pp) / mm) - (64 : Int32))), .unset, .unset, .unset, .unset, .unset] [(.int mm), (.int (own_dd mm ta pp))]))
    refine own_up (fun _ k => XS.irem X0.here hx rfl (hb hby d5_35) rfl (hmm hc1) k) ?_
    rw [irem_eq_mod (own_dd mm ta pp) mm]
    show own_Go p.tables e below _ (s₁.setTop (mkF m 36 #[.val (.int cn), .val (.int mm), .val (.int ng), .val (.int ta), .val (.int tb), .val (.int bs), .val (.int bq), .val (.int pp), .val (.int qq), .val (.double al), .second, .val (.double va), .second, .val (.int (pp - ta)), .val (.int (own_dd mm ta pp)), .val (.int (((own_dd mm ta pp) / mm) - (64 : Int32))), .unset, .unset, .unset, .unset, .unset] [(.int ((own_dd mm ta pp) % mm))]))
    refine own_up (fun _ k => XS.istore X0.here hx rfl (hb hby d5_36) rfl (l' := #[.val (.int cn), .val (.int mm), .val (.int ng), .val (.int ta), .val (.int tb), .val (.int bs), .val (.int bq), .val (.int pp), .val (.int qq), .val (.double al), .second, .val (.double va), .second, .val (.int (pp - ta)), .val (.int (own_dd mm ta pp)), .val (.int (((own_dd mm ta pp) / mm) - (64 : Int32))), .val (.int ((own_dd mm ta pp) % mm)), .unset, .unset, .unset, .unset]) rfl k) ?_
    show own_Go p.tables e below _ (s₁.setTop (mkF m 38 #[.val (.int cn), .val (.int mm), .val (.int ng), .val (.int ta), .val (.int tb), .val (.int bs), .val (.int bq), .val (.int pp), .val (.int qq), .val (.double al), .second, .val (.double va), .second, .val (.int (pp - ta)), .val (.int (own_dd mm ta pp)), .val (.int (((own_dd mm ta pp) / mm) - (64 : Int32))), .val (.int ((own_dd mm ta pp) % mm)), .unset, .unset, .unset, .unset] []))
    refine own_up (fun _ k => XS.iloadN X0.here hx rfl (hb hby d5_38) rfl k) ?_
    show own_Go p.tables e below _ (s₁.setTop (mkF m 39 #[.val (.int cn), .val (.int mm), .val (.int ng), .val (.int ta), .val (.int tb), .val (.int bs), .val (.int bq), .val (.int pp), .val (.int qq), .val (.double al), .second, .val (.double va), .second, .val (.int (pp - ta)), .val (.int (own_dd mm ta pp)), .val (.int (((own_dd mm ta pp) / mm) - (64 : Int32))), .val (.int ((own_dd mm ta pp) % mm)), .unset, .unset, .unset, .unset] [(.int ng)]))
    obtain ⟨v39, hv39⟩ : ∃ z : Int32, z = if ng = (0 : Int32) then (((own_dd mm ta pp) / mm) - (64 : Int32)) else (-(((own_dd mm ta pp) / mm) - (64 : Int32))) := ⟨_, rfl⟩
    have sg2 : ∀ t, Steps p.tables e below (s₁.setTop (mkF m 50 #[.val (.int cn), .val (.int mm), .val (.int ng), .val (.int ta), .val (.int tb), .val (.int bs), .val (.int bq), .val (.int pp), .val (.int qq), .val (.double al), .second, .val (.double va), .second, .val (.int (pp - ta)), .val (.int (own_dd mm ta pp)), .val (.int (((own_dd mm ta pp) / mm) - (64 : Int32))), .val (.int ((own_dd mm ta pp) % mm)), .unset, .unset, .unset, .unset] [(.int v39)])) t → Steps p.tables e below (s₁.setTop (mkF m 39 #[.val (.int cn), .val (.int mm), .val (.int ng), .val (.int ta), .val (.int tb), .val (.int bs), .val (.int bq), .val (.int pp), .val (.int qq), .val (.double al), .second, .val (.double va), .second, .val (.int (pp - ta)), .val (.int (own_dd mm ta pp)), .val (.int (((own_dd mm ta pp) / mm) - (64 : Int32))), .val (.int ((own_dd mm ta pp) % mm)), .unset, .unset, .unset, .unset] [(.int ng)])) t := by
      intro t k
      by_cases hc39 : ng = (0 : Int32)
      · rw [hv39, if_pos hc39] at k
        refine XS.ifYes X0.here hx rfl (pc0 := 39) (pc' := 48) rfl (hb hby d5_39) rfl ((if0 _ _).trans (teq hc39).1) (by decide) (by decide) ?_
        show Steps p.tables e below (s₁.setTop (mkF m 48 #[.val (.int cn), .val (.int mm), .val (.int ng), .val (.int ta), .val (.int tb), .val (.int bs), .val (.int bq), .val (.int pp), .val (.int qq), .val (.double al), .second, .val (.double va), .second, .val (.int (pp - ta)), .val (.int (own_dd mm ta pp)), .val (.int (((own_dd mm ta pp) / mm) - (64 : Int32))), .val (.int ((own_dd mm ta pp) % mm)), .unset, .unset, .unset, .unset] [])) _
        refine XS.iload X0.here hx rfl (hb hby d5_48) rfl ?_
        show Steps p.tables e below (s₁.setTop (mkF m 50 #[.val (.int cn), .val (.int mm), .val (.int ng), .val (.int ta), .val (.int tb), .val (.int bs), .val (.int bq), .val (.int pp), .val (.int qq), .val (.double al), .second, .val (.double va), .second, .val (.int (pp - ta)), .val (.int (own_dd mm ta pp)), .val (.int (((own_dd mm ta pp) / mm) - (64 : Int32))), .val (.int ((own_dd mm ta pp) % mm)), .unset, .unset, .unset, .unset] [(.int (((own_dd mm ta pp) / mm) - (64 : Int32)))])) _
        exact k
      · rw [hv39, if_neg hc39] at k
        refine XS.ifNo X0.here hx rfl (hb hby d5_39) rfl ((if0 _ _).trans (feq hc39).1) ?_
        show Steps p.tables e below (s₁.setTop (mkF m 42 #[.val (.int cn), .val (.int mm), .val (.int ng), .val (.int ta), .val (.int tb), .val (.int bs), .val (.int bq), .val (.int pp), .val (.int qq), .val (.double al), .second, .val (.double va), .second, .val (.int (pp - ta)), .val (.int (own_dd mm ta pp)), .val (.int (((own_dd mm ta pp) / mm) - (64 : Int32))), .val (.int ((own_dd mm ta pp) % mm)), .unset, .unset, .unset, .unset] [])) _
        refine XS.iload X0.here hx rfl (hb hby d5_42) rfl ?_
        show Steps p.tables e below (s₁.setTop (mkF m 44 #[.val (.int cn), .val (.int mm), .val (.int ng), .val (.int ta), .val (.int tb), .val (.int bs), .val (.int bq), .val (.int pp), .val (.int qq), .val (.double al), .second, .val (.double va), .second, .val (.int (pp - ta)), .val (.int (own_dd mm ta pp)), .val (.int (((own_dd mm ta pp) / mm) - (64 : Int32))), .val (.int ((own_dd mm ta pp) % mm)), .unset, .unset, .unset, .unset] [(.int (((own_dd mm ta pp) / mm) - (64 : Int32)))])) _
        refine XS.ineg X0.here hx rfl (hb hby d5_44) rfl ?_
        show Steps p.tables e below (s₁.setTop (mkF m 45 #[.val (.int cn), .val (.int mm), .val (.int ng), .val (.int ta), .val (.int tb), .val (.int bs), .val (.int bq), .val (.int pp), .val (.int qq), .val (.double al), .second, .val (.double va), .second, .val (.int (pp - ta)), .val (.int (own_dd mm ta pp)), .val (.int (((own_dd mm ta pp) / mm) - (64 : Int32))), .val (.int ((own_dd mm ta pp) % mm)), .unset, .unset, .unset, .unset] [(.int (-(((own_dd mm ta pp) / mm) - (64 : Int32))))])) _
        refine XS.goto X0.here hx rfl (pc0 := 45) (pc' := 50) rfl (hb hby d5_45) (by decide) (by decide) ?_
        show Steps p.tables e below (s₁.setTop (mkF m 50 #[.val (.int cn), .val (.int mm), .val (.int ng), .val (.int ta), .val (.int tb), .val (.int bs), .val (.int bq), .val (.int pp), .val (.int qq), .val (.double al), .second, .val (.double va), .second, .val (.int (pp - ta)), .val (.int (own_dd mm ta pp)), .val (.int (((own_dd mm ta pp) / mm) - (64 : Int32))), .val (.int ((own_dd mm ta pp) % mm)), .unset, .unset, .unset, .unset] [(.int (-(((own_dd mm ta pp) / mm) - (64 : Int32))))])) _
        exact k
    refine own_up sg2 ?_
    show own_Go p.tables e below _ (s₁.setTop (mkF m 50 #[.val (.int cn), .val (.int mm), .val (.int ng), .val (.int ta), .val (.int tb), .val (.int bs), .val (.int bq), .val (.int pp), .val (.int qq), .val (.double al), .second, .val (.double va), .second, .val (.int (pp - ta)), .val (.int (own_dd mm ta pp)), .val (.int (((own_dd mm ta pp) / mm) - (64 : Int32))), .val (.int ((own_dd mm ta pp) % mm)), .unset, .unset, .unset, .unset] [(.int v39)]))
    refine own_up (fun _ k => XS.istore X0.here hx rfl (hb hby d5_50) rfl (l' := #[.val (.int cn), .val (.int mm), .val (.int ng), .val (.int ta), .val (.int tb), .val (.int bs), .val (.int bq), .val (.int pp), .val (.int qq), .val (.double al), .second, .val (.double va), .second, .val (.int (pp - ta)), .val (.int (own_dd mm ta pp)), .val (.int (((own_dd mm ta pp) / mm) - (64 : Int32))), .val (.int ((own_dd mm ta pp) % mm)), .val (.int v39), .unset, .unset, .unset]) rfl k) ?_
    show own_Go p.tables e below _ (s₁.setTop (mkF m 52 #[.val (.int cn), .val (.int mm), .val (.int ng), .val (.int ta), .val (.int tb), .val (.int bs), .val (.int bq), .val (.int pp), .val (.int qq), .val (.double al), .second, .val (.double va), .second, .val (.int (pp - ta)), .val (.int (own_dd mm ta pp)), .val (.int (((own_dd mm ta pp) / mm) - (64 : Int32))), .val (.int ((own_dd mm ta pp) % mm)), .val (.int v39), .unset, .unset, .unset] []))
    refine own_up (fun _ k => XS.iload X0.here hx rfl (hb hby d5_52) rfl k) ?_
    show own_Go p.tables e below _ (s₁.setTop (mkF m 54 #[.val (.int cn), .val (.int mm), .val (.int ng), .val (.int ta), .val (.int tb), .val (.int bs), .val (.int bq), .val (.int pp), .val (.int qq), .val (.double al), .second, .val (.double va), .second, .val (.int (pp - ta)), .val (.int (own_dd mm ta pp)), .val (.int (((own_dd mm ta pp) / mm) - (64 : Int32))), .val (.int ((own_dd mm ta pp) % mm)), .val (.int v39), .unset, .unset, .unset] [(.int v39)]))
    by_cases hc54 : v39 < (0 : Int32)
    · refine own_up (fun _ k => XS.ifYes X0.here hx rfl (pc0 := 54) (pc' := 70) rfl (hb hby d5_54) rfl ((if0 _ _).trans (tlt hc54).1) (by decide) (by decide) k) ?_
      show own_Go p.tables e below _ (s₁.setTop (mkF m 70 #[.val (.int cn), .val (.int mm), .val (.int ng), .val (.int ta), .val (.int tb), .val (.int bs), .val (.int bq), .val (.int pp), .val (.int qq), .val (.double al), .second, .val (.double va), .second, .val (.int (pp - ta)), .val (.int (own_dd mm ta pp)), .val (.int (((own_dd mm ta pp) / mm) - (64 : Int32))), .val (.int ((own_dd mm ta pp) % mm)), .val (.int v39), .unset, .unset, .unset] []))
      refine own_up (fun _ k => X0.ldc2DoubleC hx hown (mvT hZ (hw _ (List.mem_of_getElem? (i := 2) rfl))) (g := (mkF m 70 #[.val (.int cn), .val (.int mm), .val (.int ng), .val (.int ta), .val (.int tb), .val (.int bs), .val (.int bq), .val (.int pp), .val (.int qq), .val (.double al), .second, .val (.double va), .second, .val (.int (pp - ta)), .val (.int (own_dd mm ta pp)), .val (.int (((own_dd mm ta pp) / mm) - (64 : Int32))), .val (.int ((own_dd mm ta pp) % mm)), .val (.int v39), .unset, .unset, .unset] [])) rfl (hb hby d5_70) _ k) ?_
      show own_Go p.tables e below _ (s₁.setTop (mkF m 73 #[.val (.int cn), .val (.int mm), .val (.int ng), .val (.int ta), .val (.int tb), .val (.int bs), .val (.int bq), .val (.int pp), .val (.int qq), .val (.double al), .second, .val (.double va), .second, .val (.int (pp - ta)), .val (.int (own_dd mm ta pp)), .val (.int (((own_dd mm ta pp) / mm) - (64 : Int32))), .val (.int ((own_dd mm ta pp) % mm)), .val (.int v39), .unset, .unset, .unset] [(.double (4602678819172646912 : UInt64))]))
      obtain ⟨fs3, hr3, hrun3, hended3, hW3, hsame3⟩ := X0.leave (v := some (.double (4602678819172646912 : UInt64))) (fun h => by rw [Bd.returns] at h; cases h)
      refine own_end ⟨_, _, ?_, hrun3, hended3, _, _, rfl, ?_, ⟨_, rfl⟩, hW3, hsame3.mono (by decide) (by decide)⟩
      · exact retOut X0 hx Bd.returns rfl (Or.inr (Or.inr (Or.inl ⟨rfl, rfl, _, rfl⟩))) (hb hby d5_73) hr3
      · show QrmX Z cn mm ng ta tb bs bq pp qq al va h0 n0 _ s₁.heap _
        rw [e0]
        exact ⟨by subst hv39; unfold own_exp own_R; rw [if_neg hc1, if_pos hc54] <;> rfl, N0, rfl⟩
    · refine own_up (fun _ k => XS.ifNo X0.here hx rfl (hb hby d5_54) rfl ((if0 _ _).trans (flt hc54).1) k) ?_
      show own_Go p.tables e below _ (s₁.setTop (mkF m 57 #[.val (.int cn), .val (.int mm), .val (.int ng), .val (.int ta), .val (.int tb), .val (.int bs), .val (.int bq), .val (.int pp), .val (.int qq), .val (.double al), .second, .val (.double va), .second, .val (.int (pp - ta)), .val (.int (own_dd mm ta pp)), .val (.int (((own_dd mm ta pp) / mm) - (64 : Int32))), .val (.int ((own_dd mm ta pp) % mm)), .val (.int v39), .unset, .unset, .unset] []))
      refine own_up (fun _ k => XS.iload X0.here hx rfl (hb hby d5_57) rfl k) ?_
      show own_Go p.tables e below _ (s₁.setTop (mkF m 59 #[.val (.int cn), .val (.int mm), .val (.int ng), .val (.int ta), .val (.int tb), .val (.int bs), .val (.int bq), .val (.int pp), .val (.int qq), .val (.double al), .second, .val (.double va), .second, .val (.int (pp - ta)), .val (.int (own_dd mm ta pp)), .val (.int (((own_dd mm ta pp) / mm) - (64 : Int32))), .val (.int ((own_dd mm ta pp) % mm)), .val (.int v39), .unset, .unset, .unset] [(.int v39)]))
      refine own_up (fun _ k => XS.bipush X0.here hx rfl (hb hby d5_59) k) ?_
      show own_Go p.tables e below _ (s₁.setTop (mkF m 61 #[.val (.int cn), .val (.int mm), .val (.int ng), .val (.int ta), .val (.int tb), .val (.int bs), .val (.int bq), .val (.int pp), .val (.int qq), .val (.double al), .second, .val (.double va), .second, .val (.int (pp - ta)), .val (.int (own_dd mm ta pp)), .val (.int (((own_dd mm ta pp) / mm) - (64 : Int32))), .val (.int ((own_dd mm ta pp) % mm)), .val (.int v39), .unset, .unset, .unset] [(.int (7 : Int32)), (.int v39)]))
      by_cases hc61 : (7 : Int32) < v39
      · refine own_up (fun _ k => XS.icmpYes X0.here hx rfl (pc0 := 61) (pc' := 70) rfl (hb hby d5_61) rfl (tlt hc61).2.2.1 (by decide) (by decide) k) ?_
        show own_Go p.tables e below _ (s₁.setTop (mkF m 70 #[.val (.int cn), .val (.int mm), .val (.int ng), .val (.int ta), .val (.int tb), .val (.int bs), .val (.int bq), .val (.int pp), .val (.int qq), .val (.double al), .second, .val (.double va), .second, .val (.int (pp - ta)), .val (.int (own_dd mm ta pp)), .val (.int (((own_dd mm ta pp) / mm) - (64 : Int32))), .val (.int ((own_dd mm ta pp) % mm)), .val (.int v39), .unset, .unset, .unset] []))
        refine own_up (fun _ k => X0.ldc2DoubleC hx hown (mvT hZ (hw _ (List.mem_of_getElem? (i := 2) rfl))) (g := (mkF m 70 #[.val (.int cn), .val (.int mm), .val (.int ng), .val (.int ta), .val (.int tb), .val (.int bs), .val (.int bq), .val (.int pp), .val (.int qq), .val (.double al), .second, .val (.double va), .second, .val (.int (pp - ta)), .val (.int (own_dd mm ta pp)), .val (.int (((own_dd mm ta pp) / mm) - (64 : Int32))), .val (.int ((own_dd mm ta pp) % mm)), .val (.int v39), .unset, .unset, .unset] [])) rfl (hb hby d5_70) _ k) ?_
        show own_Go p.tables e below _ (s₁.setTop (mkF m 73 #[.val (.int cn), .val (.int mm), .val (.int ng), .val (.int ta), .val (.int tb), .val (.int bs), .val (.int bq), .val (.int pp), .val (.int qq), .val (.double al), .second, .val (.double va), .second, .val (.int (pp - ta)), .val (.int (own_dd mm ta pp)), .val (.int (((own_dd mm ta pp) / mm) - (64 : Int32))), .val (.int ((own_dd mm ta pp) % mm)), .val (.int v39), .unset, .unset, .unset] [(.double (4602678819172646912 : UInt64))]))
        obtain ⟨fs4, hr4, hrun4, hended4, hW4, hsame4⟩ := X0.leave (v := some (.double (4602678819172646912 : UInt64))) (fun h => by rw [Bd.returns] at h; cases h)
        refine own_end ⟨_, _, ?_, hrun4, hended4, _, _, rfl, ?_, ⟨_, rfl⟩, hW4, hsame4.mono (by decide) (by decide)⟩
        · exact retOut X0 hx Bd.returns rfl (Or.inr (Or.inr (Or.inl ⟨rfl, rfl, _, rfl⟩))) (hb hby d5_73) hr4
        · show QrmX Z cn mm ng ta tb bs bq pp qq al va h0 n0 _ s₁.heap _
          rw [e0]
          exact ⟨by subst hv39; unfold own_exp own_R; rw [if_neg hc1, if_neg hc54, if_pos hc61] <;> rfl, N0, rfl⟩
      · refine own_up (fun _ k => XS.icmpNo X0.here hx rfl (hb hby d5_61) rfl (flt hc61).2.2.1 k) ?_
        show own_Go p.tables e below _ (s₁.setTop (mkF m 64 #[.val (.int cn), .val (.int mm), .val (.int ng), .val (.int ta), .val (.int tb), .val (.int bs), .val (.int bq), .val (.int pp), .val (.int qq), .val (.double al), .second, .val (.double va), .second, .val (.int (pp - ta)), .val (.int (own_dd mm ta pp)), .val (.int (((own_dd mm ta pp) / mm) - (64 : Int32))), .val (.int ((own_dd mm ta pp) % mm)), .val (.int v39), .unset, .unset, .unset] []))
        refine own_up (fun _ k => XS.iload X0.here hx rfl (hb hby d5_64) rfl k) ?_
        show own_Go p.tables e below _ (s₁.setTop (mkF m 66 #[.val (.int cn), .val (.int mm), .val (.int ng), .val (.int ta), .val (.int tb), .val (.int bs), .val (.int bq), .val (.int pp), .val (.int qq), .val (.double al), .second, .val (.double va), .second, .val (.int (pp - ta)), .val (.int (own_dd mm ta pp)), .val (.int (((own_dd mm ta pp) / mm) - (64 : Int32))), .val (.int ((own_dd mm ta pp) % mm)), .val (.int v39), .unset, .unset, .unset] [(.int ((own_dd mm ta pp) % mm))]))
        refine own_up (fun _ k => XS.iloadN X0.here hx rfl (hb hby d5_66) rfl k) ?_
        show own_Go p.tables e below _ (s₁.setTop (mkF m 67 #[.val (.int cn), .val (.int mm), .val (.int ng), .val (.int ta), .val (.int tb), .val (.int bs), .val (.int bq), .val (.int pp), .val (.int qq), .val (.double al), .second, .val (.double va), .second, .val (.int (pp - ta)), .val (.int (own_dd mm ta pp)), .val (.int (((own_dd mm ta pp) / mm) - (64 : Int32))), .val (.int ((own_dd mm ta pp) % mm)), .val (.int v39), .unset, .unset, .unset] [(.int cn), (.int ((own_dd mm ta pp) % mm))]))
        by_cases hc67 : ((own_dd mm ta pp) % mm) < cn
        · refine own_up (fun _ k => XS.icmpYes X0.here hx rfl (pc0 := 67) (pc' := 74) rfl (hb hby d5_67) rfl (tlt hc67).1 (by decide) (by decide) k) ?_
          show own_Go p.tables e below _ (s₁.setTop (mkF m 74 #[.val (.int cn), .val (.int mm), .val (.int ng), .val (.int ta), .val (.int tb), .val (.int bs), .val (.int bq), .val (.int pp), .val (.int qq), .val (.double al), .second, .val (.double va), .second, .val (.int (pp - ta)), .val (.int (own_dd mm ta pp)), .val (.int (((own_dd mm ta pp) / mm) - (64 : Int32))), .val (.int ((own_dd mm ta pp) % mm)), .val (.int v39), .unset, .unset, .unset] []))
          refine own_up (fun _ k => XS.iload X0.here hx rfl (hb hby d5_74) rfl k) ?_
          show own_Go p.tables e below _ (s₁.setTop (mkF m 76 #[.val (.int cn), .val (.int mm), .val (.int ng), .val (.int ta), .val (.int tb), .val (.int bs), .val (.int bq), .val (.int pp), .val (.int qq), .val (.double al), .second, .val (.double va), .second, .val (.int (pp - ta)), .val (.int (own_dd mm ta pp)), .val (.int (((own_dd mm ta pp) / mm) - (64 : Int32))), .val (.int ((own_dd mm ta pp) % mm)), .val (.int v39), .unset, .unset, .unset] [(.int tb)]))
          refine own_up (fun _ k => XS.iload X0.here hx rfl (hb hby d5_76) rfl k) ?_
          show own_Go p.tables e below _ (s₁.setTop (mkF m 78 #[.val (.int cn), .val (.int mm), .val (.int ng), .val (.int ta), .val (.int tb), .val (.int bs), .val (.int bq), .val (.int pp), .val (.int qq), .val (.double al), .second, .val (.double va), .second, .val (.int (pp - ta)), .val (.int (own_dd mm ta pp)), .val (.int (((own_dd mm ta pp) / mm) - (64 : Int32))), .val (.int ((own_dd mm ta pp) % mm)), .val (.int v39), .unset, .unset, .unset] [(.int ((own_dd mm ta pp) % mm)), (.int tb)]))
          refine own_up (fun _ k => XS.iload X0.here hx rfl (hb hby d5_78) rfl k) ?_
          show own_Go p.tables e below _ (s₁.setTop (mkF m 80 #[.val (.int cn), .val (.int mm), .val (.int ng), .val (.int ta), .val (.int tb), .val (.int bs), .val (.int bq), .val (.int pp), .val (.int qq), .val (.double al), .second, .val (.double va), .second, .val (.int (pp - ta)), .val (.int (own_dd mm ta pp)), .val (.int (((own_dd mm ta pp) / mm) - (64 : Int32))), .val (.int ((own_dd mm ta pp) % mm)), .val (.int v39), .unset, .unset, .unset] [(.int bs), (.int ((own_dd mm ta pp) % mm)), (.int tb)]))
          refine own_up (fun _ k => XS.imul X0.here hx rfl (hb hby d5_80) rfl k) ?_
          show own_Go p.tables e below _ (s₁.setTop (mkF m 81 #[.val (.int cn), .val (.int mm), .val (.int ng), .val (.int ta), .val (.int tb), .val (.int bs), .val (.int bq), .val (.int pp), .val (.int qq), .val (.double al), .second, .val (.double va), .second, .val (.int (pp - ta)), .val (.int (own_dd mm ta pp)), .val (.int (((own_dd mm ta pp) / mm) - (64 : Int32))), .val (.int ((own_dd mm ta pp) % mm)), .val (.int v39), .unset, .unset, .unset] [(.int (((own_dd mm ta pp) % mm) * bs)), (.int tb)]))
          refine own_up (fun _ k => XS.iadd X0.here hx rfl (hb hby d5_81) rfl k) ?_
          show own_Go p.tables e below _ (s₁.setTop (mkF m 82 #[.val (.int cn), .val (.int mm), .val (.int ng), .val (.int ta), .val (.int tb), .val (.int bs), .val (.int bq), .val (.int pp), .val (.int qq), .val (.double al), .second, .val (.double va), .second, .val (.int (pp - ta)), .val (.int (own_dd mm ta pp)), .val (.int (((own_dd mm ta pp) / mm) - (64 : Int32))), .val (.int ((own_dd mm ta pp) % mm)), .val (.int v39), .unset, .unset, .unset] [(.int (tb + (((own_dd mm ta pp) % mm) * bs)))]))
          refine own_up (fun _ k => XS.iload X0.here hx rfl (hb hby d5_82) rfl k) ?_
          show own_Go p.tables e below _ (s₁.setTop (mkF m 84 #[.val (.int cn), .val (.int mm), .val (.int ng), .val (.int ta), .val (.int tb), .val (.int bs), .val (.int bq), .val (.int pp), .val (.int qq), .val (.double al), .second, .val (.double va), .second, .val (.int (pp - ta)), .val (.int (own_dd mm ta pp)), .val (.int (((own_dd mm ta pp) / mm) - (64 : Int32))), .val (.int ((own_dd mm ta pp) % mm)), .val (.int v39), .unset, .unset, .unset] [(.int v39), (.int (tb + (((own_dd mm ta pp) % mm) * bs)))]))
          refine own_up (fun _ k => XS.iload X0.here hx rfl (hb hby d5_84) rfl k) ?_
          show own_Go p.tables e below _ (s₁.setTop (mkF m 86 #[.val (.int cn), .val (.int mm), .val (.int ng), .val (.int ta), .val (.int tb), .val (.int bs), .val (.int bq), .val (.int pp), .val (.int qq), .val (.double al), .second, .val (.double va), .second, .val (.int (pp - ta)), .val (.int (own_dd mm ta pp)), .val (.int (((own_dd mm ta pp) / mm) - (64 : Int32))), .val (.int ((own_dd mm ta pp) % mm)), .val (.int v39), .unset, .unset, .unset] [(.int bq), (.int v39), (.int (tb + (((own_dd mm ta pp) % mm) * bs)))]))
          refine own_up (fun _ k => XS.imul X0.here hx rfl (hb hby d5_86) rfl k) ?_
          show own_Go p.tables e below _ (s₁.setTop (mkF m 87 #[.val (.int cn), .val (.int mm), .val (.int ng), .val (.int ta), .val (.int tb), .val (.int bs), .val (.int bq), .val (.int pp), .val (.int qq), .val (.double al), .second, .val (.double va), .second, .val (.int (pp - ta)), .val (.int (own_dd mm ta pp)), .val (.int (((own_dd mm ta pp) / mm) - (64 : Int32))), .val (.int ((own_dd mm ta pp) % mm)), .val (.int v39), .unset, .unset, .unset] [(.int (v39 * bq)), (.int (tb + (((own_dd mm ta pp) % mm) * bs)))]))
          refine own_up (fun _ k => XS.iadd X0.here hx rfl (hb hby d5_87) rfl k) ?_
          show own_Go p.tables e below _ (s₁.setTop (mkF m 88 #[.val (.int cn), .val (.int mm), .val (.int ng), .val (.int ta), .val (.int tb), .val (.int bs), .val (.int bq), .val (.int pp), .val (.int qq), .val (.double al), .second, .val (.double va), .second, .val (.int (pp - ta)), .val (.int (own_dd mm ta pp)), .val (.int (((own_dd mm ta pp) / mm) - (64 : Int32))), .val (.int ((own_dd mm ta pp) % mm)), .val (.int v39), .unset, .unset, .unset] [(.int ((tb + (((own_dd mm ta pp) % mm) * bs)) + (v39 * bq)))]))
          refine own_up (fun _ k => XS.istore X0.here hx rfl (hb hby d5_88) rfl (l' := #[.val (.int cn), .val (.int mm), .val (.int ng), .val (.int ta), .val (.int tb), .val (.int bs), .val (.int bq), .val (.int pp), .val (.int qq), .val (.double al), .second, .val (.double va), .second, .val (.int (pp - ta)), .val (.int (own_dd mm ta pp)), .val (.int (((own_dd mm ta pp) / mm) - (64 : Int32))), .val (.int ((own_dd mm ta pp) % mm)), .val (.int v39), .val (.int ((tb + (((own_dd mm ta pp) % mm) * bs)) + (v39 * bq))), .unset, .unset]) rfl k) ?_
          show own_Go p.tables e below _ (s₁.setTop (mkF m 90 #[.val (.int cn), .val (.int mm), .val (.int ng), .val (.int ta), .val (.int tb), .val (.int bs), .val (.int bq), .val (.int pp), .val (.int qq), .val (.double al), .second, .val (.double va), .second, .val (.int (pp - ta)), .val (.int (own_dd mm ta pp)), .val (.int (((own_dd mm ta pp) / mm) - (64 : Int32))), .val (.int ((own_dd mm ta pp) % mm)), .val (.int v39), .val (.int ((tb + (((own_dd mm ta pp) % mm) * bs)) + (v39 * bq))), .unset, .unset] []))
          refine own_up (fun _ k => XS.iload X0.here hx rfl (hb hby d5_90) rfl k) ?_
          show own_Go p.tables e below _ (s₁.setTop (mkF m 92 #[.val (.int cn), .val (.int mm), .val (.int ng), .val (.int ta), .val (.int tb), .val (.int bs), .val (.int bq), .val (.int pp), .val (.int qq), .val (.double al), .second, .val (.double va), .second, .val (.int (pp - ta)), .val (.int (own_dd mm ta pp)), .val (.int (((own_dd mm ta pp) / mm) - (64 : Int32))), .val (.int ((own_dd mm ta pp) % mm)), .val (.int v39), .val (.int ((tb + (((own_dd mm ta pp) % mm) * bs)) + (v39 * bq))), .unset, .unset] [(.int ((tb + (((own_dd mm ta pp) % mm) * bs)) + (v39 * bq)))]))
          refine own_up (fun _ k => XS.iload X0.here hx rfl (hb hby d5_92) rfl k) ?_
          show own_Go p.tables e below _ (s₁.setTop (mkF m 94 #[.val (.int cn), .val (.int mm), .val (.int ng), .val (.int ta), .val (.int tb), .val (.int bs), .val (.int bq), .val (.int pp), .val (.int qq), .val (.double al), .second, .val (.double va), .second, .val (.int (pp - ta)), .val (.int (own_dd mm ta pp)), .val (.int (((own_dd mm ta pp) / mm) - (64 : Int32))), .val (.int ((own_dd mm ta pp) % mm)), .val (.int v39), .val (.int ((tb + (((own_dd mm ta pp) % mm) * bs)) + (v39 * bq))), .unset, .unset] [(.int qq), (.int ((tb + (((own_dd mm ta pp) % mm) * bs)) + (v39 * bq)))]))
          obtain ⟨v94, hv94⟩ : ∃ z : UInt64, z = if ((tb + (((own_dd mm ta pp) % mm) * bs)) + (v39 * bq)) = qq then va else (0 : UInt64) := ⟨_, rfl⟩
          have sg5 : ∀ t, Steps p.tables e below (s₁.setTop (mkF m 103 #[.val (.int cn), .val (.int mm), .val (.int ng), .val (.int ta), .val (.int tb), .val (.int bs), .val (.int bq), .val (.int pp), .val (.int qq), .val (.double al), .second, .val (.double va), .second, .val (.int (pp - ta)), .val (.int (own_dd mm ta pp)), .val (.int (((own_dd mm ta pp) / mm) - (64 : Int32))), .val (.int ((own_dd mm ta pp) % mm)), .val (.int v39), .val (.int ((tb + (((own_dd mm ta pp) % mm) * bs)) + (v39 * bq))), .unset, .unset] [(.double v94)])) t → Steps p.tables e below (s₁.setTop (mkF m 94 #[.val (.int cn), .val (.int mm), .val (.int ng), .val (.int ta), .val (.int tb), .val (.int bs), .val (.int bq), .val (.int pp), .val (.int qq), .val (.double al), .second, .val (.double va), .second, .val (.int (pp - ta)), .val (.int (own_dd mm ta pp)), .val (.int (((own_dd mm ta pp) / mm) - (64 : Int32))), .val (.int ((own_dd mm ta pp) % mm)), .val (.int v39), .val (.int ((tb + (((own_dd mm ta pp) % mm) * bs)) + (v39 * bq))), .unset, .unset] [(.int qq), (.int ((tb + (((own_dd mm ta pp) % mm) * bs)) + (v39 * bq)))])) t := by
            intro t k
            by_cases hc94 : ((tb + (((own_dd mm ta pp) % mm) * bs)) + (v39 * bq)) = qq
            · rw [hv94, if_pos hc94] at k
              refine XS.icmpNo X0.here hx rfl (hb hby d5_94) rfl (teq hc94).2 ?_
              show Steps p.tables e below (s₁.setTop (mkF m 97 #[.val (.int cn), .val (.int mm), .val (.int ng), .val (.int ta), .val (.int tb), .val (.int bs), .val (.int bq), .val (.int pp), .val (.int qq), .val (.double al), .second, .val (.double va), .second, .val (.int (pp - ta)), .val (.int (own_dd mm ta pp)), .val (.int (((own_dd mm ta pp) / mm) - (64 : Int32))), .val (.int ((own_dd mm ta pp) % mm)), .val (.int v39), .val (.int ((tb + (((own_dd mm ta pp) % mm) * bs)) + (v39 * bq))), .unset, .unset] [])) _
              refine XS.dload X0.here hx rfl (hb hby d5_97) rfl ?_
              show Steps p.tables e below (s₁.setTop (mkF m 99 #[.val (.int cn), .val (.int mm), .val (.int ng), .val (.int ta), .val (.int tb), .val (.int bs), .val (.int bq), .val (.int pp), .val (.int qq), .val (.double al), .second, .val (.double va), .second, .val (.int (pp - ta)), .val (.int (own_dd mm ta pp)), .val (.int (((own_dd mm ta pp) / mm) - (64 : Int32))), .val (.int ((own_dd mm ta pp) % mm)), .val (.int v39), .val (.int ((tb + (((own_dd mm ta pp) % mm) * bs)) + (v39 * bq))), .unset, .unset] [(.double va)])) _
              refine XS.goto X0.here hx rfl (pc0 := 99) (pc' := 103) rfl (hb hby d5_99) (by decide) (by decide) ?_
              show Steps p.tables e below (s₁.setTop (mkF m 103 #[.val (.int cn), .val (.int mm), .val (.int ng), .val (.int ta), .val (.int tb), .val (.int bs), .val (.int bq), .val (.int pp), .val (.int qq), .val (.double al), .second, .val (.double va), .second, .val (.int (pp - ta)), .val (.int (own_dd mm ta pp)), .val (.int (((own_dd mm ta pp) / mm) - (64 : Int32))), .val (.int ((own_dd mm ta pp) % mm)), .val (.int v39), .val (.int ((tb + (((own_dd mm ta pp) % mm) * bs)) + (v39 * bq))), .unset, .unset] [(.double va)])) _
              exact k
            · rw [hv94, if_neg hc94] at k
              refine XS.icmpYes X0.here hx rfl (pc0 := 94) (pc' := 102) rfl (hb hby d5_94) rfl (feq hc94).2 (by decide) (by decide) ?_
              show Steps p.tables e below (s₁.setTop (mkF m 102 #[.val (.int cn), .val (.int mm), .val (.int ng), .val (.int ta), .val (.int tb), .val (.int bs), .val (.int bq), .val (.int pp), .val (.int qq), .val (.double al), .second, .val (.double va), .second, .val (.int (pp - ta)), .val (.int (own_dd mm ta pp)), .val (.int (((own_dd mm ta pp) / mm) - (64 : Int32))), .val (.int ((own_dd mm ta pp) % mm)), .val (.int v39), .val (.int ((tb + (((own_dd mm ta pp) % mm) * bs)) + (v39 * bq))), .unset, .unset] [])) _
              refine XS.dconst0 X0.here hx rfl (v := (0 : UInt64)) (hb hby d5_102) rfl ?_
              show Steps p.tables e below (s₁.setTop (mkF m 103 #[.val (.int cn), .val (.int mm), .val (.int ng), .val (.int ta), .val (.int tb), .val (.int bs), .val (.int bq), .val (.int pp), .val (.int qq), .val (.double al), .second, .val (.double va), .second, .val (.int (pp - ta)), .val (.int (own_dd mm ta pp)), .val (.int (((own_dd mm ta pp) / mm) - (64 : Int32))), .val (.int ((own_dd mm ta pp) % mm)), .val (.int v39), .val (.int ((tb + (((own_dd mm ta pp) % mm) * bs)) + (v39 * bq))), .unset, .unset] [(.double (0 : UInt64))])) _
              exact k
          refine own_up sg5 ?_
          show own_Go p.tables e below _ (s₁.setTop (mkF m 103 #[.val (.int cn), .val (.int mm), .val (.int ng), .val (.int ta), .val (.int tb), .val (.int bs), .val (.int bq), .val (.int pp), .val (.int qq), .val (.double al), .second, .val (.double va), .second, .val (.int (pp - ta)), .val (.int (own_dd mm ta pp)), .val (.int (((own_dd mm ta pp) / mm) - (64 : Int32))), .val (.int ((own_dd mm ta pp) % mm)), .val (.int v39), .val (.int ((tb + (((own_dd mm ta pp) % mm) * bs)) + (v39 * bq))), .unset, .unset] [(.double v94)]))
          refine own_up (fun _ k => XS.dstore X0.here hx rfl (hb hby d5_103) rfl (l' := #[.val (.int cn), .val (.int mm), .val (.int ng), .val (.int ta), .val (.int tb), .val (.int bs), .val (.int bq), .val (.int pp), .val (.int qq), .val (.double al), .second, .val (.double va), .second, .val (.int (pp - ta)), .val (.int (own_dd mm ta pp)), .val (.int (((own_dd mm ta pp) / mm) - (64 : Int32))), .val (.int ((own_dd mm ta pp) % mm)), .val (.int v39), .val (.int ((tb + (((own_dd mm ta pp) % mm) * bs)) + (v39 * bq))), .val (.double v94), .second]) rfl k) ?_
          show own_Go p.tables e below _ (s₁.setTop (mkF m 105 #[.val (.int cn), .val (.int mm), .val (.int ng), .val (.int ta), .val (.int tb), .val (.int bs), .val (.int bq), .val (.int pp), .val (.int qq), .val (.double al), .second, .val (.double va), .second, .val (.int (pp - ta)), .val (.int (own_dd mm ta pp)), .val (.int (((own_dd mm ta pp) / mm) - (64 : Int32))), .val (.int ((own_dd mm ta pp) % mm)), .val (.int v39), .val (.int ((tb + (((own_dd mm ta pp) % mm) * bs)) + (v39 * bq))), .val (.double v94), .second] []))
          refine own_up (fun _ k => XS.dload X0.here hx rfl (hb hby d5_105) rfl k) ?_
          show own_Go p.tables e below _ (s₁.setTop (mkF m 107 #[.val (.int cn), .val (.int mm), .val (.int ng), .val (.int ta), .val (.int tb), .val (.int bs), .val (.int bq), .val (.int pp), .val (.int qq), .val (.double al), .second, .val (.double va), .second, .val (.int (pp - ta)), .val (.int (own_dd mm ta pp)), .val (.int (((own_dd mm ta pp) / mm) - (64 : Int32))), .val (.int ((own_dd mm ta pp) % mm)), .val (.int v39), .val (.int ((tb + (((own_dd mm ta pp) % mm) * bs)) + (v39 * bq))), .val (.double v94), .second] [(.double al)]))
          refine own_up (fun _ k => XS.dload X0.here hx rfl (hb hby d5_107) rfl k) ?_
          show own_Go p.tables e below _ (s₁.setTop (mkF m 109 #[.val (.int cn), .val (.int mm), .val (.int ng), .val (.int ta), .val (.int tb), .val (.int bs), .val (.int bq), .val (.int pp), .val (.int qq), .val (.double al), .second, .val (.double va), .second, .val (.int (pp - ta)), .val (.int (own_dd mm ta pp)), .val (.int (((own_dd mm ta pp) / mm) - (64 : Int32))), .val (.int ((own_dd mm ta pp) % mm)), .val (.int v39), .val (.int ((tb + (((own_dd mm ta pp) % mm) * bs)) + (v39 * bq))), .val (.double v94), .second] [(.double v94), (.double al)]))
          refine own_up (fun _ k => XS.dmulS X0.here hx rfl (v := (FP.dmul al v94)) (hb hby d5_109) rfl (dmul_out hal (by rw [hv94]; split; exact hva; exact own_zfin)) rfl k) ?_
          show own_Go p.tables e below _ (s₁.setTop (mkF m 110 #[.val (.int cn), .val (.int mm), .val (.int ng), .val (.int ta), .val (.int tb), .val (.int bs), .val (.int bq), .val (.int pp), .val (.int qq), .val (.double al), .second, .val (.double va), .second, .val (.int (pp - ta)), .val (.int (own_dd mm ta pp)), .val (.int (((own_dd mm ta pp) / mm) - (64 : Int32))), .val (.int ((own_dd mm ta pp) % mm)), .val (.int v39), .val (.int ((tb + (((own_dd mm ta pp) % mm) * bs)) + (v39 * bq))), .val (.double v94), .second] [(.double (FP.dmul al v94))]))
          obtain ⟨fs6, hr6, hrun6, hended6, hW6, hsame6⟩ := X0.leave (v := some (.double (FP.dmul al v94))) (fun h => by rw [Bd.returns] at h; cases h)
          refine own_end ⟨_, _, ?_, hrun6, hended6, _, _, rfl, ?_, ⟨_, rfl⟩, hW6, hsame6.mono (by decide) (by decide)⟩
          · exact retOut X0 hx Bd.returns rfl (Or.inr (Or.inr (Or.inl ⟨rfl, rfl, _, rfl⟩))) (hb hby d5_110) hr6
          · show QrmX Z cn mm ng ta tb bs bq pp qq al va h0 n0 _ s₁.heap _
            rw [e0]
            exact ⟨by subst hv94; subst hv39; unfold own_exp own_R; rw [if_neg hc1, if_neg hc54, if_neg hc61, if_pos hc67] <;> rfl, N0, rfl⟩
        · refine own_up (fun _ k => XS.icmpNo X0.here hx rfl (hb hby d5_67) rfl (flt hc67).1 k) ?_
          show own_Go p.tables e below _ (s₁.setTop (mkF m 70 #[.val (.int cn), .val (.int mm), .val (.int ng), .val (.int ta), .val (.int tb), .val (.int bs), .val (.int bq), .val (.int pp), .val (.int qq), .val (.double al), .second, .val (.double va), .second, .val (.int (pp - ta)), .val (.int (own_dd mm ta pp)), .val (.int (((own_dd mm ta pp) / mm) - (64 : Int32))), .val (.int ((own_dd mm ta pp) % mm)), .val (.int v39), .unset, .unset, .unset] []))
          refine own_up (fun _ k => X0.ldc2DoubleC hx hown (mvT hZ (hw _ (List.mem_of_getElem? (i := 2) rfl))) (g := (mkF m 70 #[.val (.int cn), .val (.int mm), .val (.int ng), .val (.int ta), .val (.int tb), .val (.int bs), .val (.int bq), .val (.int pp), .val (.int qq), .val (.double al), .second, .val (.double va), .second, .val (.int (pp - ta)), .val (.int (own_dd mm ta pp)), .val (.int (((own_dd mm ta pp) / mm) - (64 : Int32))), .val (.int ((own_dd mm ta pp) % mm)), .val (.int v39), .unset, .unset, .unset] [])) rfl (hb hby d5_70) _ k) ?_
          show own_Go p.tables e below _ (s₁.setTop (mkF m 73 #[.val (.int cn), .val (.int mm), .val (.int ng), .val (.int ta), .val (.int tb), .val (.int bs), .val (.int bq), .val (.int pp), .val (.int qq), .val (.double al), .second, .val (.double va), .second, .val (.int (pp - ta)), .val (.int (own_dd mm ta pp)), .val (.int (((own_dd mm ta pp) / mm) - (64 : Int32))), .val (.int ((own_dd mm ta pp) % mm)), .val (.int v39), .unset, .unset, .unset] [(.double (4602678819172646912 : UInt64))]))
          obtain ⟨fs7, hr7, hrun7, hended7, hW7, hsame7⟩ := X0.leave (v := some (.double (4602678819172646912 : UInt64))) (fun h => by rw [Bd.returns] at h; cases h)
          refine own_end ⟨_, _, ?_, hrun7, hended7, _, _, rfl, ?_, ⟨_, rfl⟩, hW7, hsame7.mono (by decide) (by decide)⟩
          · exact retOut X0 hx Bd.returns rfl (Or.inr (Or.inr (Or.inl ⟨rfl, rfl, _, rfl⟩))) (hb hby d5_73) hr7
          · show QrmX Z cn mm ng ta tb bs bq pp qq al va h0 n0 _ s₁.heap _
            rw [e0]
            exact ⟨by subst hv39; unfold own_exp own_R; rw [if_neg hc1, if_neg hc54, if_neg hc61, if_neg hc67] <;> rfl, N0, rfl⟩
theorem pd_1 : parseMethodDescriptor "(D)V" = some ⟨[.double], none⟩ := by decide +kernel
theorem pd_2 : parseMethodDescriptor "([D[D[DIIIIII)V" = some ⟨[(.array .double), (.array .double), (.array .double), .int, .int, .int, .int, .int, .int], none⟩ := by decide +kernel
theorem pd_3 : parseMethodDescriptor "(IIZIIIIIIDD)D" = some ⟨[.int, .int, .boolean, .int, .int, .int, .int, .int, .int, .double, .double], some .double⟩ := by decide +kernel
theorem ef_rm0 (m : MethodId) (x0 : Int32) (x1 : Int32) (x2 : Int32) (x3 : Int32) (x4 : Int32) (x5 : Int32) : entryFrame m #[(.int x0), (.int x1), (.int x2), (.int x3), (.int x4), (.int x5)] maxLocals = mkF m 0 #[.val (.int x0), .val (.int x1), .val (.int x2), .val (.int x3), .val (.int x4), .val (.int x5), .unset, .unset, .unset, .unset, .unset, .unset, .unset, .unset, .unset, .unset, .unset, .unset, .unset, .unset, .unset, .unset, .unset, .unset, .unset] [] := by first | (simp [entryFrame, mkF, argsToLocals, Value.category, maxLocals]; done) | rfl
def Qrm0 (Z : State) (p0 : Int32) (p1 : Int32) (p2 : Int32) (p3 : Int32) (p4 : Int32) (p5 : Int32) (h0 : Heap) (n0 : Nat) (v : Option Value) (h : Heap) (L : List Loc) : Prop := v = some (.int 1) ∧ Fr n0 L
set_option maxRecDepth 65536 in
set_option maxHeartbeats 40000000 in
theorem rm0 (l : Launch) (Z : State) (a0 : Array Value) (hw : ∀ d ∈ tables_1, d.before a0 Z = true) (ws : List Jvm.Cond) (p0 : Int32) (p1 : Int32) (p2 : Int32) (p3 : Int32) (p4 : Int32) (p5 : Int32) (h0 : Heap) (n0 : Nat) (Z0 : n0 ≤ h0.size) :
    MetFree l x (head1 (Jvm.Cond.code x code maxLocals ret :: ws) room_1) (fun aq Uq => aq = #[(.int p0), (.int p1), (.int p2), (.int p3), (.int p4), (.int p5)] ∧ Z.Warmed39 Uq.vm ∧ Uq.heap = h0) (fun _ _ _ _ _ => True) (fun _ Uq oq Uq' => ∃ vq Lq, oq = .returned vq ∧ Qrm0 Z p0 p1 p2 p3 p4 p5 h0 n0 vq Uq'.heap Lq ∧ FrameEnd Uq oq Uq' Lq 16 640) := by
  refine MetFree.of_bodySF (plainFor_of_name pn_2) hisR ?_
  intro p e s m args below meth c s₁ Bd hml0 hP hK
  obtain ⟨rfl, hZ, hh⟩ := hP
  have hx := Bd.exec
  have hby := Bd.bytes
  have hml : c.maxLocals = 25 := hml0
  have hown : s.vm.findClass "com/example/indexica/indexica/ScaledEightRowsPinLaw" = some m.cls := findClass_of_methodNamed Bd.named
  have hnm := (name_of_methodNamed Bd.named Bd.method).1
  have X0 : Stand p l e room_1 s m #[(.int p0), (.int p1), (.int p2), (.int p3), (.int p4), (.int p5)] below meth c s₁ [] 0 0 := Stand.of_body Bd
  have e0 : s₁.heap = h0 := by rw [← hh, Bd.state]; rfl
  have N0 := Fr.nil n0
  have ZH := Z0
  have KK := Keep.refl h0 []
  refine own_start (fun t k => castTop (ef_rm0 m p0 p1 p2 p3 p4 p5) k) ?_
  show own_Go p.tables e below _ (s₁.setTop (mkF m 0 #[.val (.int p0), .val (.int p1), .val (.int p2), .val (.int p3), .val (.int p4), .val (.int p5), .unset, .unset, .unset, .unset, .unset, .unset, .unset, .unset, .unset, .unset, .unset, .unset, .unset, .unset, .unset, .unset, .unset, .unset, .unset] []))
  refine own_up (fun _ k => XS.iloadN X0.here hx rfl (hb hby at_0) rfl k) ?_
  show own_Go p.tables e below _ (s₁.setTop (mkF m 1 #[.val (.int p0), .val (.int p1), .val (.int p2), .val (.int p3), .val (.int p4), .val (.int p5), .unset, .unset, .unset, .unset, .unset, .unset, .unset, .unset, .unset, .unset, .unset, .unset, .unset, .unset, .unset, .unset, .unset, .unset, .unset] [(.int p0)]))
  refine own_up (fun _ k => XS.iconst X0.here hx rfl (hb hby at_1) k) ?_
  show own_Go p.tables e below _ (s₁.setTop (mkF m 2 #[.val (.int p0), .val (.int p1), .val (.int p2), .val (.int p3), .val (.int p4), .val (.int p5), .unset, .unset, .unset, .unset, .unset, .unset, .unset, .unset, .unset, .unset, .unset, .unset, .unset, .unset, .unset, .unset, .unset, .unset, .unset] [(.int (3 : Int32)), (.int p0)]))
  refine own_up (fun _ k => XS.iand X0.here hx rfl (hb hby at_2) rfl k) ?_
  show own_Go p.tables e below _ (s₁.setTop (mkF m 3 #[.val (.int p0), .val (.int p1), .val (.int p2), .val (.int p3), .val (.int p4), .val (.int p5), .unset, .unset, .unset, .unset, .unset, .unset, .unset, .unset, .unset, .unset, .unset, .unset, .unset, .unset, .unset, .unset, .unset, .unset, .unset] [(.int (p0 &&& (3 : Int32)))]))
  generalize hcn : (p0 &&& (3 : Int32)) = cn
  show own_Go p.tables e below _ (s₁.setTop (mkF m 3 #[.val (.int p0), .val (.int p1), .val (.int p2), .val (.int p3), .val (.int p4), .val (.int p5), .unset, .unset, .unset, .unset, .unset, .unset, .unset, .unset, .unset, .unset, .unset, .unset, .unset, .unset, .unset, .unset, .unset, .unset, .unset] [(.int cn)]))
  refine own_up (fun _ k => XS.istore X0.here hx rfl (hb hby at_3) rfl (l' := #[.val (.int p0), .val (.int p1), .val (.int p2), .val (.int p3), .val (.int p4), .val (.int p5), .val (.int cn), .unset, .unset, .unset, .unset, .unset, .unset, .unset, .unset, .unset, .unset, .unset, .unset, .unset, .unset, .unset, .unset, .unset, .unset]) rfl k) ?_
  show own_Go p.tables e below _ (s₁.setTop (mkF m 5 #[.val (.int p0), .val (.int p1), .val (.int p2), .val (.int p3), .val (.int p4), .val (.int p5), .val (.int cn), .unset, .unset, .unset, .unset, .unset, .unset, .unset, .unset, .unset, .unset, .unset, .unset, .unset, .unset, .unset, .unset, .unset, .unset] []))
  refine own_up (fun _ k => XS.iload X0.here hx rfl (hb hby at_5) rfl k) ?_
  show own_Go p.tables e below _ (s₁.setTop (mkF m 7 #[.val (.int p0), .val (.int p1), .val (.int p2), .val (.int p3), .val (.int p4), .val (.int p5), .val (.int cn), .unset, .unset, .unset, .unset, .unset, .unset, .unset, .unset, .unset, .unset, .unset, .unset, .unset, .unset, .unset, .unset, .unset, .unset] [(.int cn)]))
  refine own_up (fun _ k => XS.iloadN X0.here hx rfl (hb hby at_7) rfl k) ?_
  show own_Go p.tables e below _ (s₁.setTop (mkF m 8 #[.val (.int p0), .val (.int p1), .val (.int p2), .val (.int p3), .val (.int p4), .val (.int p5), .val (.int cn), .unset, .unset, .unset, .unset, .unset, .unset, .unset, .unset, .unset, .unset, .unset, .unset, .unset, .unset, .unset, .unset, .unset, .unset] [(.int p0), (.int cn)]))
  refine own_up (fun _ k => XS.iconst X0.here hx rfl (hb hby at_8) k) ?_
  show own_Go p.tables e below _ (s₁.setTop (mkF m 9 #[.val (.int p0), .val (.int p1), .val (.int p2), .val (.int p3), .val (.int p4), .val (.int p5), .val (.int cn), .unset, .unset, .unset, .unset, .unset, .unset, .unset, .unset, .unset, .unset, .unset, .unset, .unset, .unset, .unset, .unset, .unset, .unset] [(.int (2 : Int32)), (.int p0), (.int cn)]))
  refine own_up (fun _ k => XS.iushr X0.here hx rfl (hb hby at_9) rfl k) ?_
  show own_Go p.tables e below _ (s₁.setTop (mkF m 10 #[.val (.int p0), .val (.int p1), .val (.int p2), .val (.int p3), .val (.int p4), .val (.int p5), .val (.int cn), .unset, .unset, .unset, .unset, .unset, .unset, .unset, .unset, .unset, .unset, .unset, .unset, .unset, .unset, .unset, .unset, .unset, .unset] [(.int ((p0.toUInt32 >>> ((2 : Int32) &&& 31).toUInt32).toInt32)), (.int cn)]))
  refine own_up (fun _ k => XS.iconst X0.here hx rfl (hb hby at_10) k) ?_
  show own_Go p.tables e below _ (s₁.setTop (mkF m 11 #[.val (.int p0), .val (.int p1), .val (.int p2), .val (.int p3), .val (.int p4), .val (.int p5), .val (.int cn), .unset, .unset, .unset, .unset, .unset, .unset, .unset, .unset, .unset, .unset, .unset, .unset, .unset, .unset, .unset, .unset, .unset, .unset] [(.int (3 : Int32)), (.int ((p0.toUInt32 >>> ((2 : Int32) &&& 31).toUInt32).toInt32)), (.int cn)]))
  refine own_up (fun _ k => XS.iand X0.here hx rfl (hb hby at_11) rfl k) ?_
  show own_Go p.tables e below _ (s₁.setTop (mkF m 12 #[.val (.int p0), .val (.int p1), .val (.int p2), .val (.int p3), .val (.int p4), .val (.int p5), .val (.int cn), .unset, .unset, .unset, .unset, .unset, .unset, .unset, .unset, .unset, .unset, .unset, .unset, .unset, .unset, .unset, .unset, .unset, .unset] [(.int (((p0.toUInt32 >>> ((2 : Int32) &&& 31).toUInt32).toInt32) &&& (3 : Int32))), (.int cn)]))
  refine own_up (fun _ k => XS.iadd X0.here hx rfl (hb hby at_12) rfl k) ?_
  show own_Go p.tables e below _ (s₁.setTop (mkF m 13 #[.val (.int p0), .val (.int p1), .val (.int p2), .val (.int p3), .val (.int p4), .val (.int p5), .val (.int cn), .unset, .unset, .unset, .unset, .unset, .unset, .unset, .unset, .unset, .unset, .unset, .unset, .unset, .unset, .unset, .unset, .unset, .unset] [(.int (cn + (((p0.toUInt32 >>> ((2 : Int32) &&& 31).toUInt32).toInt32) &&& (3 : Int32))))]))
  generalize hmm : (cn + (((p0.toUInt32 >>> ((2 : Int32) &&& 31).toUInt32).toInt32) &&& (3 : Int32))) = mm
  show own_Go p.tables e below _ (s₁.setTop (mkF m 13 #[.val (.int p0), .val (.int p1), .val (.int p2), .val (.int p3), .val (.int p4), .val (.int p5), .val (.int cn), .unset, .unset, .unset, .unset, .unset, .unset, .unset, .unset, .unset, .unset, .unset, .unset, .unset, .unset, .unset, .unset, .unset, .unset] [(.int mm)]))
  refine own_up (fun _ k => XS.istore X0.here hx rfl (hb hby at_13) rfl (l' := #[.val (.int p0), .val (.int p1), .val (.int p2), .val (.int p3), .val (.int p4), .val (.int p5), .val (.int cn), .val (.int mm), .unset, .unset, .unset, .unset, .unset, .unset, .unset, .unset, .unset, .unset, .unset, .unset, .unset, .unset, .unset, .unset, .unset]) rfl k) ?_
  show own_Go p.tables e below _ (s₁.setTop (mkF m 15 #[.val (.int p0), .val (.int p1), .val (.int p2), .val (.int p3), .val (.int p4), .val (.int p5), .val (.int cn), .val (.int mm), .unset, .unset, .unset, .unset, .unset, .unset, .unset, .unset, .unset, .unset, .unset, .unset, .unset, .unset, .unset, .unset, .unset] []))
  refine own_up (fun _ k => XS.iloadN X0.here hx rfl (hb hby at_15) rfl k) ?_
  show own_Go p.tables e below _ (s₁.setTop (mkF m 16 #[.val (.int p0), .val (.int p1), .val (.int p2), .val (.int p3), .val (.int p4), .val (.int p5), .val (.int cn), .val (.int mm), .unset, .unset, .unset, .unset, .unset, .unset, .unset, .unset, .unset, .unset, .unset, .unset, .unset, .unset, .unset, .unset, .unset] [(.int p0)]))
  refine own_up (fun _ k => XS.iconst X0.here hx rfl (hb hby at_16) k) ?_
  show own_Go p.tables e below _ (s₁.setTop (mkF m 17 #[.val (.int p0), .val (.int p1), .val (.int p2), .val (.int p3), .val (.int p4), .val (.int p5), .val (.int cn), .val (.int mm), .unset, .unset, .unset, .unset, .unset, .unset, .unset, .unset, .unset, .unset, .unset, .unset, .unset, .unset, .unset, .unset, .unset] [(.int (4 : Int32)), (.int p0)]))
  refine own_up (fun _ k => XS.iushr X0.here hx rfl (hb hby at_17) rfl k) ?_
  show own_Go p.tables e below _ (s₁.setTop (mkF m 18 #[.val (.int p0), .val (.int p1), .val (.int p2), .val (.int p3), .val (.int p4), .val (.int p5), .val (.int cn), .val (.int mm), .unset, .unset, .unset, .unset, .unset, .unset, .unset, .unset, .unset, .unset, .unset, .unset, .unset, .unset, .unset, .unset, .unset] [(.int ((p0.toUInt32 >>> ((4 : Int32) &&& 31).toUInt32).toInt32))]))
  refine own_up (fun _ k => XS.iconst X0.here hx rfl (hb hby at_18) k) ?_
  show own_Go p.tables e below _ (s₁.setTop (mkF m 19 #[.val (.int p0), .val (.int p1), .val (.int p2), .val (.int p3), .val (.int p4), .val (.int p5), .val (.int cn), .val (.int mm), .unset, .unset, .unset, .unset, .unset, .unset, .unset, .unset, .unset, .unset, .unset, .unset, .unset, .unset, .unset, .unset, .unset] [(.int (1 : Int32)), (.int ((p0.toUInt32 >>> ((4 : Int32) &&& 31).toUInt32).toInt32))]))
  refine own_up (fun _ k => XS.iand X0.here hx rfl (hb hby at_19) rfl k) ?_
  show own_Go p.tables e below _ (s₁.setTop (mkF m 20 #[.val (.int p0), .val (.int p1), .val (.int p2), .val (.int p3), .val (.int p4), .val (.int p5), .val (.int cn), .val (.int mm), .unset, .unset, .unset, .unset, .unset, .unset, .unset, .unset, .unset, .unset, .unset, .unset, .unset, .unset, .unset, .unset, .unset] [(.int (((p0.toUInt32 >>> ((4 : Int32) &&& 31).toUInt32).toInt32) &&& (1 : Int32)))]))
  obtain ⟨v20, hv20⟩ : ∃ z : Int32, z = if (((p0.toUInt32 >>> ((4 : Int32) &&& 31).toUInt32).toInt32) &&& (1 : Int32)) = (0 : Int32) then (0 : Int32) else (1 : Int32) := ⟨_, rfl⟩
  have sg1 : ∀ t, Steps p.tables e below (s₁.setTop (mkF m 28 #[.val (.int p0), .val (.int p1), .val (.int p2), .val (.int p3), .val (.int p4), .val (.int p5), .val (.int cn), .val (.int mm), .unset, .unset, .unset, .unset, .unset, .unset, .unset, .unset, .unset, .unset, .unset, .unset, .unset, .unset, .unset, .unset, .unset] [(.int v20)])) t → Steps p.tables e below (s₁.setTop (mkF m 20 #[.val (.int p0), .val (.int p1), .val (.int p2), .val (.int p3), .val (.int p4), .val (.int p5), .val (.int cn), .val (.int mm), .unset, .unset, .unset, .unset, .unset, .unset, .unset, .unset, .unset, .unset, .unset, .unset, .unset, .unset, .unset, .unset, .unset] [(.int (((p0.toUInt32 >>> ((4 : Int32) &&& 31).toUInt32).toInt32) &&& (1 : Int32)))])) t := by
    intro t k
    by_cases hc20 : (((p0.toUInt32 >>> ((4 : Int32) &&& 31).toUInt32).toInt32) &&& (1 : Int32)) = (0 : Int32)
    · rw [hv20, if_pos hc20] at k
      refine XS.ifYes X0.here hx rfl (pc0 := 20) (pc' := 27) rfl (hb hby at_20) rfl ((if0 _ _).trans (teq hc20).1) (by decide) (by decide) ?_
      show Steps p.tables e below (s₁.setTop (mkF m 27 #[.val (.int p0), .val (.int p1), .val (.int p2), .val (.int p3), .val (.int p4), .val (.int p5), .val (.int cn), .val (.int mm), .unset, .unset, .unset, .unset, .unset, .unset, .unset, .unset, .unset, .unset, .unset, .unset, .unset, .unset, .unset, .unset, .unset] [])) _
      refine XS.iconst X0.here hx rfl (hb hby at_27) ?_
      show Steps p.tables e below (s₁.setTop (mkF m 28 #[.val (.int p0), .val (.int p1), .val (.int p2), .val (.int p3), .val (.int p4), .val (.int p5), .val (.int cn), .val (.int mm), .unset, .unset, .unset, .unset, .unset, .unset, .unset, .unset, .unset, .unset, .unset, .unset, .unset, .unset, .unset, .unset, .unset] [(.int (0 : Int32))])) _
      exact k
    · rw [hv20, if_neg hc20] at k
      refine XS.ifNo X0.here hx rfl (hb hby at_20) rfl ((if0 _ _).trans (feq hc20).1) ?_
      show Steps p.tables e below (s₁.setTop (mkF m 23 #[.val (.int p0), .val (.int p1), .val (.int p2), .val (.int p3), .val (.int p4), .val (.int p5), .val (.int cn), .val (.int mm), .unset, .unset, .unset, .unset, .unset, .unset, .unset, .unset, .unset, .unset, .unset, .unset, .unset, .unset, .unset, .unset, .unset] [])) _
      refine XS.iconst X0.here hx rfl (hb hby at_23) ?_
      show Steps p.tables e below (s₁.setTop (mkF m 24 #[.val (.int p0), .val (.int p1), .val (.int p2), .val (.int p3), .val (.int p4), .val (.int p5), .val (.int cn), .val (.int mm), .unset, .unset, .unset, .unset, .unset, .unset, .unset, .unset, .unset, .unset, .unset, .unset, .unset, .unset, .unset, .unset, .unset] [(.int (1 : Int32))])) _
      refine XS.goto X0.here hx rfl (pc0 := 24) (pc' := 28) rfl (hb hby at_24) (by decide) (by decide) ?_
      show Steps p.tables e below (s₁.setTop (mkF m 28 #[.val (.int p0), .val (.int p1), .val (.int p2), .val (.int p3), .val (.int p4), .val (.int p5), .val (.int cn), .val (.int mm), .unset, .unset, .unset, .unset, .unset, .unset, .unset, .unset, .unset, .unset, .unset, .unset, .unset, .unset, .unset, .unset, .unset] [(.int (1 : Int32))])) _
      exact k
  refine own_up sg1 ?_
  show own_Go p.tables e below _ (s₁.setTop (mkF m 28 #[.val (.int p0), .val (.int p1), .val (.int p2), .val (.int p3), .val (.int p4), .val (.int p5), .val (.int cn), .val (.int mm), .unset, .unset, .unset, .unset, .unset, .unset, .unset, .unset, .unset, .unset, .unset, .unset, .unset, .unset, .unset, .unset, .unset] [(.int v20)]))
  refine own_up (fun _ k => XS.istore X0.here hx rfl (hb hby at_28) rfl (l' := #[.val (.int p0), .val (.int p1), .val (.int p2), .val (.int p3), .val (.int p4), .val (.int p5), .val (.int cn), .val (.int mm), .val (.int v20), .unset, .unset, .unset, .unset, .unset, .unset, .unset, .unset, .unset, .unset, .unset, .unset, .unset, .unset, .unset, .unset]) rfl k) ?_
  show own_Go p.tables e below _ (s₁.setTop (mkF m 30 #[.val (.int p0), .val (.int p1), .val (.int p2), .val (.int p3), .val (.int p4), .val (.int p5), .val (.int cn), .val (.int mm), .val (.int v20), .unset, .unset, .unset, .unset, .unset, .unset, .unset, .unset, .unset, .unset, .unset, .unset, .unset, .unset, .unset, .unset] []))
  refine own_up (fun _ k => XS.iloadN X0.here hx rfl (hb hby at_30) rfl k) ?_
  show own_Go p.tables e below _ (s₁.setTop (mkF m 31 #[.val (.int p0), .val (.int p1), .val (.int p2), .val (.int p3), .val (.int p4), .val (.int p5), .val (.int cn), .val (.int mm), .val (.int v20), .unset, .unset, .unset, .unset, .unset, .unset, .unset, .unset, .unset, .unset, .unset, .unset, .unset, .unset, .unset, .unset] [(.int p0)]))
  refine own_up (fun _ k => XS.iconst X0.here hx rfl (hb hby at_31) k) ?_
  show own_Go p.tables e below _ (s₁.setTop (mkF m 32 #[.val (.int p0), .val (.int p1), .val (.int p2), .val (.int p3), .val (.int p4), .val (.int p5), .val (.int cn), .val (.int mm), .val (.int v20), .unset, .unset, .unset, .unset, .unset, .unset, .unset, .unset, .unset, .unset, .unset, .unset, .unset, .unset, .unset, .unset] [(.int (5 : Int32)), (.int p0)]))
  refine own_up (fun _ k => XS.iushr X0.here hx rfl (hb hby at_32) rfl k) ?_
  show own_Go p.tables e below _ (s₁.setTop (mkF m 33 #[.val (.int p0), .val (.int p1), .val (.int p2), .val (.int p3), .val (.int p4), .val (.int p5), .val (.int cn), .val (.int mm), .val (.int v20), .unset, .unset, .unset, .unset, .unset, .unset, .unset, .unset, .unset, .unset, .unset, .unset, .unset, .unset, .unset, .unset] [(.int ((p0.toUInt32 >>> ((5 : Int32) &&& 31).toUInt32).toInt32))]))
  refine own_up (fun _ k => XS.bipush X0.here hx rfl (hb hby at_33) k) ?_
  show own_Go p.tables e below _ (s₁.setTop (mkF m 35 #[.val (.int p0), .val (.int p1), .val (.int p2), .val (.int p3), .val (.int p4), .val (.int p5), .val (.int cn), .val (.int mm), .val (.int v20), .unset, .unset, .unset, .unset, .unset, .unset, .unset, .unset, .unset, .unset, .unset, .unset, .unset, .unset, .unset, .unset] [(.int (7 : Int32)), (.int ((p0.toUInt32 >>> ((5 : Int32) &&& 31).toUInt32).toInt32))]))
  refine own_up (fun _ k => XS.iand X0.here hx rfl (hb hby at_35) rfl k) ?_
  show own_Go p.tables e below _ (s₁.setTop (mkF m 36 #[.val (.int p0), .val (.int p1), .val (.int p2), .val (.int p3), .val (.int p4), .val (.int p5), .val (.int cn), .val (.int mm), .val (.int v20), .unset, .unset, .unset, .unset, .unset, .unset, .unset, .unset, .unset, .unset, .unset, .unset, .unset, .unset, .unset, .unset] [(.int (((p0.toUInt32 >>> ((5 : Int32) &&& 31).toUInt32).toInt32) &&& (7 : Int32)))]))
  generalize hofs : (((p0.toUInt32 >>> ((5 : Int32) &&& 31).toUInt32).toInt32) &&& (7 : Int32)) = ofs
  show own_Go p.tables e below _ (s₁.setTop (mkF m 36 #[.val (.int p0), .val (.int p1), .val (.int p2), .val (.int p3), .val (.int p4), .val (.int p5), .val (.int cn), .val (.int mm), .val (.int v20), .unset, .unset, .unset, .unset, .unset, .unset, .unset, .unset, .unset, .unset, .unset, .unset, .unset, .unset, .unset, .unset] [(.int ofs)]))
  refine own_up (fun _ k => XS.istore X0.here hx rfl (hb hby at_36) rfl (l' := #[.val (.int p0), .val (.int p1), .val (.int p2), .val (.int p3), .val (.int p4), .val (.int p5), .val (.int cn), .val (.int mm), .val (.int v20), .val (.int ofs), .unset, .unset, .unset, .unset, .unset, .unset, .unset, .unset, .unset, .unset, .unset, .unset, .unset, .unset, .unset]) rfl k) ?_
  show own_Go p.tables e below _ (s₁.setTop (mkF m 38 #[.val (.int p0), .val (.int p1), .val (.int p2), .val (.int p3), .val (.int p4), .val (.int p5), .val (.int cn), .val (.int mm), .val (.int v20), .val (.int ofs), .unset, .unset, .unset, .unset, .unset, .unset, .unset, .unset, .unset, .unset, .unset, .unset, .unset, .unset, .unset] []))
  refine own_up (fun _ k => XS.iload X0.here hx rfl (hb hby at_38) rfl k) ?_
  show own_Go p.tables e below _ (s₁.setTop (mkF m 40 #[.val (.int p0), .val (.int p1), .val (.int p2), .val (.int p3), .val (.int p4), .val (.int p5), .val (.int cn), .val (.int mm), .val (.int v20), .val (.int ofs), .unset, .unset, .unset, .unset, .unset, .unset, .unset, .unset, .unset, .unset, .unset, .unset, .unset, .unset, .unset] [(.int v20)]))
  obtain ⟨v40, hv40⟩ : ∃ z : Int32, z = if v20 = (0 : Int32) then mm else (-mm) := ⟨_, rfl⟩
  have sg2 : ∀ t, Steps p.tables e below (s₁.setTop (mkF m 51 #[.val (.int p0), .val (.int p1), .val (.int p2), .val (.int p3), .val (.int p4), .val (.int p5), .val (.int cn), .val (.int mm), .val (.int v20), .val (.int ofs), .unset, .unset, .unset, .unset, .unset, .unset, .unset, .unset, .unset, .unset, .unset, .unset, .unset, .unset, .unset] [(.int v40)])) t → Steps p.tables e below (s₁.setTop (mkF m 40 #[.val (.int p0), .val (.int p1), .val (.int p2), .val (.int p3), .val (.int p4), .val (.int p5), .val (.int cn), .val (.int mm), .val (.int v20), .val (.int ofs), .unset, .unset, .unset, .unset, .unset, .unset, .unset, .unset, .unset, .unset, .unset, .unset, .unset, .unset, .unset] [(.int v20)])) t := by
    intro t k
    by_cases hc40 : v20 = (0 : Int32)
    · rw [hv40, if_pos hc40] at k
      refine XS.ifYes X0.here hx rfl (pc0 := 40) (pc' := 49) rfl (hb hby at_40) rfl ((if0 _ _).trans (teq hc40).1) (by decide) (by decide) ?_
      show Steps p.tables e below (s₁.setTop (mkF m 49 #[.val (.int p0), .val (.int p1), .val (.int p2), .val (.int p3), .val (.int p4), .val (.int p5), .val (.int cn), .val (.int mm), .val (.int v20), .val (.int ofs), .unset, .unset, .unset, .unset, .unset, .unset, .unset, .unset, .unset, .unset, .unset, .unset, .unset, .unset, .unset] [])) _
      refine XS.iload X0.here hx rfl (hb hby at_49) rfl ?_
      show Steps p.tables e below (s₁.setTop (mkF m 51 #[.val (.int p0), .val (.int p1), .val (.int p2), .val (.int p3), .val (.int p4), .val (.int p5), .val (.int cn), .val (.int mm), .val (.int v20), .val (.int ofs), .unset, .unset, .unset, .unset, .unset, .unset, .unset, .unset, .unset, .unset, .unset, .unset, .unset, .unset, .unset] [(.int mm)])) _
      exact k
    · rw [hv40, if_neg hc40] at k
      refine XS.ifNo X0.here hx rfl (hb hby at_40) rfl ((if0 _ _).trans (feq hc40).1) ?_
      show Steps p.tables e below (s₁.setTop (mkF m 43 #[.val (.int p0), .val (.int p1), .val (.int p2), .val (.int p3), .val (.int p4), .val (.int p5), .val (.int cn), .val (.int mm), .val (.int v20), .val (.int ofs), .unset, .unset, .unset, .unset, .unset, .unset, .unset, .unset, .unset, .unset, .unset, .unset, .unset, .unset, .unset] [])) _
      refine XS.iload X0.here hx rfl (hb hby at_43) rfl ?_
      show Steps p.tables e below (s₁.setTop (mkF m 45 #[.val (.int p0), .val (.int p1), .val (.int p2), .val (.int p3), .val (.int p4), .val (.int p5), .val (.int cn), .val (.int mm), .val (.int v20), .val (.int ofs), .unset, .unset, .unset, .unset, .unset, .unset, .unset, .unset, .unset, .unset, .unset, .unset, .unset, .unset, .unset] [(.int mm)])) _
      refine XS.ineg X0.here hx rfl (hb hby at_45) rfl ?_
      show Steps p.tables e below (s₁.setTop (mkF m 46 #[.val (.int p0), .val (.int p1), .val (.int p2), .val (.int p3), .val (.int p4), .val (.int p5), .val (.int cn), .val (.int mm), .val (.int v20), .val (.int ofs), .unset, .unset, .unset, .unset, .unset, .unset, .unset, .unset, .unset, .unset, .unset, .unset, .unset, .unset, .unset] [(.int (-mm))])) _
      refine XS.goto X0.here hx rfl (pc0 := 46) (pc' := 51) rfl (hb hby at_46) (by decide) (by decide) ?_
      show Steps p.tables e below (s₁.setTop (mkF m 51 #[.val (.int p0), .val (.int p1), .val (.int p2), .val (.int p3), .val (.int p4), .val (.int p5), .val (.int cn), .val (.int mm), .val (.int v20), .val (.int ofs), .unset, .unset, .unset, .unset, .unset, .unset, .unset, .unset, .unset, .unset, .unset, .unset, .unset, .unset, .unset] [(.int (-mm))])) _
      exact k
  refine own_up sg2 ?_
  show own_Go p.tables e below _ (s₁.setTop (mkF m 51 #[.val (.int p0), .val (.int p1), .val (.int p2), .val (.int p3), .val (.int p4), .val (.int p5), .val (.int cn), .val (.int mm), .val (.int v20), .val (.int ofs), .unset, .unset, .unset, .unset, .unset, .unset, .unset, .unset, .unset, .unset, .unset, .unset, .unset, .unset, .unset] [(.int v40)]))
  refine own_up (fun _ k => XS.istore X0.here hx rfl (hb hby at_51) rfl (l' := #[.val (.int p0), .val (.int p1), .val (.int p2), .val (.int p3), .val (.int p4), .val (.int p5), .val (.int cn), .val (.int mm), .val (.int v20), .val (.int ofs), .val (.int v40), .unset, .unset, .unset, .unset, .unset, .unset, .unset, .unset, .unset, .unset, .unset, .unset, .unset, .unset]) rfl k) ?_
  show own_Go p.tables e below _ (s₁.setTop (mkF m 53 #[.val (.int p0), .val (.int p1), .val (.int p2), .val (.int p3), .val (.int p4), .val (.int p5), .val (.int cn), .val (.int mm), .val (.int v20), .val (.int ofs), .val (.int v40), .unset, .unset, .unset, .unset, .unset, .unset, .unset, .unset, .unset, .unset, .unset, .unset, .unset, .unset] []))
  refine own_up (fun _ k => XS.iload X0.here hx rfl (hb hby at_53) rfl k) ?_
  show own_Go p.tables e below _ (s₁.setTop (mkF m 55 #[.val (.int p0), .val (.int p1), .val (.int p2), .val (.int p3), .val (.int p4), .val (.int p5), .val (.int cn), .val (.int mm), .val (.int v20), .val (.int ofs), .val (.int v40), .unset, .unset, .unset, .unset, .unset, .unset, .unset, .unset, .unset, .unset, .unset, .unset, .unset, .unset] [(.int v20)]))
  obtain ⟨v55, hv55⟩ : ∃ z : Int32, z = if v20 = (0 : Int32) then ofs else (ofs + ((7 : Int32) * mm)) := ⟨_, rfl⟩
  have sg3 : ∀ t, Steps p.tables e below (s₁.setTop (mkF m 71 #[.val (.int p0), .val (.int p1), .val (.int p2), .val (.int p3), .val (.int p4), .val (.int p5), .val (.int cn), .val (.int mm), .val (.int v20), .val (.int ofs), .val (.int v40), .unset, .unset, .unset, .unset, .unset, .unset, .unset, .unset, .unset, .unset, .unset, .unset, .unset, .unset] [(.int v55)])) t → Steps p.tables e below (s₁.setTop (mkF m 55 #[.val (.int p0), .val (.int p1), .val (.int p2), .val (.int p3), .val (.int p4), .val (.int p5), .val (.int cn), .val (.int mm), .val (.int v20), .val (.int ofs), .val (.int v40), .unset, .unset, .unset, .unset, .unset, .unset, .unset, .unset, .unset, .unset, .unset, .unset, .unset, .unset] [(.int v20)])) t := by
    intro t k
    by_cases hc55 : v20 = (0 : Int32)
    · rw [hv55, if_pos hc55] at k
      refine XS.ifYes X0.here hx rfl (pc0 := 55) (pc' := 69) rfl (hb hby at_55) rfl ((if0 _ _).trans (teq hc55).1) (by decide) (by decide) ?_
      show Steps p.tables e below (s₁.setTop (mkF m 69 #[.val (.int p0), .val (.int p1), .val (.int p2), .val (.int p3), .val (.int p4), .val (.int p5), .val (.int cn), .val (.int mm), .val (.int v20), .val (.int ofs), .val (.int v40), .unset, .unset, .unset, .unset, .unset, .unset, .unset, .unset, .unset, .unset, .unset, .unset, .unset, .unset] [])) _
      refine XS.iload X0.here hx rfl (hb hby at_69) rfl ?_
      show Steps p.tables e below (s₁.setTop (mkF m 71 #[.val (.int p0), .val (.int p1), .val (.int p2), .val (.int p3), .val (.int p4), .val (.int p5), .val (.int cn), .val (.int mm), .val (.int v20), .val (.int ofs), .val (.int v40), .unset, .unset, .unset, .unset, .unset, .unset, .unset, .unset, .unset, .unset, .unset, .unset, .unset, .unset] [(.int ofs)])) _
      exact k
    · rw [hv55, if_neg hc55] at k
      refine XS.ifNo X0.here hx rfl (hb hby at_55) rfl ((if0 _ _).trans (feq hc55).1) ?_
      show Steps p.tables e below (s₁.setTop (mkF m 58 #[.val (.int p0), .val (.int p1), .val (.int p2), .val (.int p3), .val (.int p4), .val (.int p5), .val (.int cn), .val (.int mm), .val (.int v20), .val (.int ofs), .val (.int v40), .unset, .unset, .unset, .unset, .unset, .unset, .unset, .unset, .unset, .unset, .unset, .unset, .unset, .unset] [])) _
      refine XS.iload X0.here hx rfl (hb hby at_58) rfl ?_
      show Steps p.tables e below (s₁.setTop (mkF m 60 #[.val (.int p0), .val (.int p1), .val (.int p2), .val (.int p3), .val (.int p4), .val (.int p5), .val (.int cn), .val (.int mm), .val (.int v20), .val (.int ofs), .val (.int v40), .unset, .unset, .unset, .unset, .unset, .unset, .unset, .unset, .unset, .unset, .unset, .unset, .unset, .unset] [(.int ofs)])) _
      refine XS.bipush X0.here hx rfl (hb hby at_60) ?_
      show Steps p.tables e below (s₁.setTop (mkF m 62 #[.val (.int p0), .val (.int p1), .val (.int p2), .val (.int p3), .val (.int p4), .val (.int p5), .val (.int cn), .val (.int mm), .val (.int v20), .val (.int ofs), .val (.int v40), .unset, .unset, .unset, .unset, .unset, .unset, .unset, .unset, .unset, .unset, .unset, .unset, .unset, .unset] [(.int (7 : Int32)), (.int ofs)])) _
      refine XS.iload X0.here hx rfl (hb hby at_62) rfl ?_
      show Steps p.tables e below (s₁.setTop (mkF m 64 #[.val (.int p0), .val (.int p1), .val (.int p2), .val (.int p3), .val (.int p4), .val (.int p5), .val (.int cn), .val (.int mm), .val (.int v20), .val (.int ofs), .val (.int v40), .unset, .unset, .unset, .unset, .unset, .unset, .unset, .unset, .unset, .unset, .unset, .unset, .unset, .unset] [(.int mm), (.int (7 : Int32)), (.int ofs)])) _
      refine XS.imul X0.here hx rfl (hb hby at_64) rfl ?_
      show Steps p.tables e below (s₁.setTop (mkF m 65 #[.val (.int p0), .val (.int p1), .val (.int p2), .val (.int p3), .val (.int p4), .val (.int p5), .val (.int cn), .val (.int mm), .val (.int v20), .val (.int ofs), .val (.int v40), .unset, .unset, .unset, .unset, .unset, .unset, .unset, .unset, .unset, .unset, .unset, .unset, .unset, .unset] [(.int ((7 : Int32) * mm)), (.int ofs)])) _
      refine XS.iadd X0.here hx rfl (hb hby at_65) rfl ?_
      show Steps p.tables e below (s₁.setTop (mkF m 66 #[.val (.int p0), .val (.int p1), .val (.int p2), .val (.int p3), .val (.int p4), .val (.int p5), .val (.int cn), .val (.int mm), .val (.int v20), .val (.int ofs), .val (.int v40), .unset, .unset, .unset, .unset, .unset, .unset, .unset, .unset, .unset, .unset, .unset, .unset, .unset, .unset] [(.int (ofs + ((7 : Int32) * mm)))])) _
      refine XS.goto X0.here hx rfl (pc0 := 66) (pc' := 71) rfl (hb hby at_66) (by decide) (by decide) ?_
      show Steps p.tables e below (s₁.setTop (mkF m 71 #[.val (.int p0), .val (.int p1), .val (.int p2), .val (.int p3), .val (.int p4), .val (.int p5), .val (.int cn), .val (.int mm), .val (.int v20), .val (.int ofs), .val (.int v40), .unset, .unset, .unset, .unset, .unset, .unset, .unset, .unset, .unset, .unset, .unset, .unset, .unset, .unset] [(.int (ofs + ((7 : Int32) * mm)))])) _
      exact k
  refine own_up sg3 ?_
  show own_Go p.tables e below _ (s₁.setTop (mkF m 71 #[.val (.int p0), .val (.int p1), .val (.int p2), .val (.int p3), .val (.int p4), .val (.int p5), .val (.int cn), .val (.int mm), .val (.int v20), .val (.int ofs), .val (.int v40), .unset, .unset, .unset, .unset, .unset, .unset, .unset, .unset, .unset, .unset, .unset, .unset, .unset, .unset] [(.int v55)]))
  refine own_up (fun _ k => XS.istore X0.here hx rfl (hb hby at_71) rfl (l' := #[.val (.int p0), .val (.int p1), .val (.int p2), .val (.int p3), .val (.int p4), .val (.int p5), .val (.int cn), .val (.int mm), .val (.int v20), .val (.int ofs), .val (.int v40), .val (.int v55), .unset, .unset, .unset, .unset, .unset, .unset, .unset, .unset, .unset, .unset, .unset, .unset, .unset]) rfl k) ?_
  show own_Go p.tables e below _ (s₁.setTop (mkF m 73 #[.val (.int p0), .val (.int p1), .val (.int p2), .val (.int p3), .val (.int p4), .val (.int p5), .val (.int cn), .val (.int mm), .val (.int v20), .val (.int ofs), .val (.int v40), .val (.int v55), .unset, .unset, .unset, .unset, .unset, .unset, .unset, .unset, .unset, .unset, .unset, .unset, .unset] []))
  refine own_up (fun _ k => XS.iloadN X0.here hx rfl (hb hby at_73) rfl k) ?_
  show own_Go p.tables e below _ (s₁.setTop (mkF m 74 #[.val (.int p0), .val (.int p1), .val (.int p2), .val (.int p3), .val (.int p4), .val (.int p5), .val (.int cn), .val (.int mm), .val (.int v20), .val (.int ofs), .val (.int v40), .val (.int v55), .unset, .unset, .unset, .unset, .unset, .unset, .unset, .unset, .unset, .unset, .unset, .unset, .unset] [(.int p1)]))
  refine own_up (fun _ k => XS.bipush X0.here hx rfl (hb hby at_74) k) ?_
  show own_Go p.tables e below _ (s₁.setTop (mkF m 76 #[.val (.int p0), .val (.int p1), .val (.int p2), .val (.int p3), .val (.int p4), .val (.int p5), .val (.int cn), .val (.int mm), .val (.int v20), .val (.int ofs), .val (.int v40), .val (.int v55), .unset, .unset, .unset, .unset, .unset, .unset, .unset, .unset, .unset, .unset, .unset, .unset, .unset] [(.int (7 : Int32)), (.int p1)]))
  refine own_up (fun _ k => XS.iand X0.here hx rfl (hb hby at_76) rfl k) ?_
  show own_Go p.tables e below _ (s₁.setTop (mkF m 77 #[.val (.int p0), .val (.int p1), .val (.int p2), .val (.int p3), .val (.int p4), .val (.int p5), .val (.int cn), .val (.int mm), .val (.int v20), .val (.int ofs), .val (.int v40), .val (.int v55), .unset, .unset, .unset, .unset, .unset, .unset, .unset, .unset, .unset, .unset, .unset, .unset, .unset] [(.int (p1 &&& (7 : Int32)))]))
  refine own_up (fun _ k => XS.iconst X0.here hx rfl (hb hby at_77) k) ?_
  show own_Go p.tables e below _ (s₁.setTop (mkF m 78 #[.val (.int p0), .val (.int p1), .val (.int p2), .val (.int p3), .val (.int p4), .val (.int p5), .val (.int cn), .val (.int mm), .val (.int v20), .val (.int ofs), .val (.int v40), .val (.int v55), .unset, .unset, .unset, .unset, .unset, .unset, .unset, .unset, .unset, .unset, .unset, .unset, .unset] [(.int (4 : Int32)), (.int (p1 &&& (7 : Int32)))]))
  refine own_up (fun _ k => XS.isub X0.here hx rfl (hb hby at_78) rfl k) ?_
  show own_Go p.tables e below _ (s₁.setTop (mkF m 79 #[.val (.int p0), .val (.int p1), .val (.int p2), .val (.int p3), .val (.int p4), .val (.int p5), .val (.int cn), .val (.int mm), .val (.int v20), .val (.int ofs), .val (.int v40), .val (.int v55), .unset, .unset, .unset, .unset, .unset, .unset, .unset, .unset, .unset, .unset, .unset, .unset, .unset] [(.int ((p1 &&& (7 : Int32)) - (4 : Int32)))]))
  generalize hbs : ((p1 &&& (7 : Int32)) - (4 : Int32)) = bs
  show own_Go p.tables e below _ (s₁.setTop (mkF m 79 #[.val (.int p0), .val (.int p1), .val (.int p2), .val (.int p3), .val (.int p4), .val (.int p5), .val (.int cn), .val (.int mm), .val (.int v20), .val (.int ofs), .val (.int v40), .val (.int v55), .unset, .unset, .unset, .unset, .unset, .unset, .unset, .unset, .unset, .unset, .unset, .unset, .unset] [(.int bs)]))
  refine own_up (fun _ k => XS.istore X0.here hx rfl (hb hby at_79) rfl (l' := #[.val (.int p0), .val (.int p1), .val (.int p2), .val (.int p3), .val (.int p4), .val (.int p5), .val (.int cn), .val (.int mm), .val (.int v20), .val (.int ofs), .val (.int v40), .val (.int v55), .val (.int bs), .unset, .unset, .unset, .unset, .unset, .unset, .unset, .unset, .unset, .unset, .unset, .unset]) rfl k) ?_
  show own_Go p.tables e below _ (s₁.setTop (mkF m 81 #[.val (.int p0), .val (.int p1), .val (.int p2), .val (.int p3), .val (.int p4), .val (.int p5), .val (.int cn), .val (.int mm), .val (.int v20), .val (.int ofs), .val (.int v40), .val (.int v55), .val (.int bs), .unset, .unset, .unset, .unset, .unset, .unset, .unset, .unset, .unset, .unset, .unset, .unset] []))
  refine own_up (fun _ k => XS.iloadN X0.here hx rfl (hb hby at_81) rfl k) ?_
  show own_Go p.tables e below _ (s₁.setTop (mkF m 82 #[.val (.int p0), .val (.int p1), .val (.int p2), .val (.int p3), .val (.int p4), .val (.int p5), .val (.int cn), .val (.int mm), .val (.int v20), .val (.int ofs), .val (.int v40), .val (.int v55), .val (.int bs), .unset, .unset, .unset, .unset, .unset, .unset, .unset, .unset, .unset, .unset, .unset, .unset] [(.int p1)]))
  refine own_up (fun _ k => XS.iconst X0.here hx rfl (hb hby at_82) k) ?_
  show own_Go p.tables e below _ (s₁.setTop (mkF m 83 #[.val (.int p0), .val (.int p1), .val (.int p2), .val (.int p3), .val (.int p4), .val (.int p5), .val (.int cn), .val (.int mm), .val (.int v20), .val (.int ofs), .val (.int v40), .val (.int v55), .val (.int bs), .unset, .unset, .unset, .unset, .unset, .unset, .unset, .unset, .unset, .unset, .unset, .unset] [(.int (3 : Int32)), (.int p1)]))
  refine own_up (fun _ k => XS.iushr X0.here hx rfl (hb hby at_83) rfl k) ?_
  show own_Go p.tables e below _ (s₁.setTop (mkF m 84 #[.val (.int p0), .val (.int p1), .val (.int p2), .val (.int p3), .val (.int p4), .val (.int p5), .val (.int cn), .val (.int mm), .val (.int v20), .val (.int ofs), .val (.int v40), .val (.int v55), .val (.int bs), .unset, .unset, .unset, .unset, .unset, .unset, .unset, .unset, .unset, .unset, .unset, .unset] [(.int ((p1.toUInt32 >>> ((3 : Int32) &&& 31).toUInt32).toInt32))]))
  refine own_up (fun _ k => XS.bipush X0.here hx rfl (hb hby at_84) k) ?_
  show own_Go p.tables e below _ (s₁.setTop (mkF m 86 #[.val (.int p0), .val (.int p1), .val (.int p2), .val (.int p3), .val (.int p4), .val (.int p5), .val (.int cn), .val (.int mm), .val (.int v20), .val (.int ofs), .val (.int v40), .val (.int v55), .val (.int bs), .unset, .unset, .unset, .unset, .unset, .unset, .unset, .unset, .unset, .unset, .unset, .unset] [(.int (15 : Int32)), (.int ((p1.toUInt32 >>> ((3 : Int32) &&& 31).toUInt32).toInt32))]))
  refine own_up (fun _ k => XS.iand X0.here hx rfl (hb hby at_86) rfl k) ?_
  show own_Go p.tables e below _ (s₁.setTop (mkF m 87 #[.val (.int p0), .val (.int p1), .val (.int p2), .val (.int p3), .val (.int p4), .val (.int p5), .val (.int cn), .val (.int mm), .val (.int v20), .val (.int ofs), .val (.int v40), .val (.int v55), .val (.int bs), .unset, .unset, .unset, .unset, .unset, .unset, .unset, .unset, .unset, .unset, .unset, .unset] [(.int (((p1.toUInt32 >>> ((3 : Int32) &&& 31).toUInt32).toInt32) &&& (15 : Int32)))]))
  refine own_up (fun _ k => XS.bipush X0.here hx rfl (hb hby at_87) k) ?_
  show own_Go p.tables e below _ (s₁.setTop (mkF m 89 #[.val (.int p0), .val (.int p1), .val (.int p2), .val (.int p3), .val (.int p4), .val (.int p5), .val (.int cn), .val (.int mm), .val (.int v20), .val (.int ofs), .val (.int v40), .val (.int v55), .val (.int bs), .unset, .unset, .unset, .unset, .unset, .unset, .unset, .unset, .unset, .unset, .unset, .unset] [(.int (8 : Int32)), (.int (((p1.toUInt32 >>> ((3 : Int32) &&& 31).toUInt32).toInt32) &&& (15 : Int32)))]))
  refine own_up (fun _ k => XS.isub X0.here hx rfl (hb hby at_89) rfl k) ?_
  show own_Go p.tables e below _ (s₁.setTop (mkF m 90 #[.val (.int p0), .val (.int p1), .val (.int p2), .val (.int p3), .val (.int p4), .val (.int p5), .val (.int cn), .val (.int mm), .val (.int v20), .val (.int ofs), .val (.int v40), .val (.int v55), .val (.int bs), .unset, .unset, .unset, .unset, .unset, .unset, .unset, .unset, .unset, .unset, .unset, .unset] [(.int ((((p1.toUInt32 >>> ((3 : Int32) &&& 31).toUInt32).toInt32) &&& (15 : Int32)) - (8 : Int32)))]))
  generalize hbq : ((((p1.toUInt32 >>> ((3 : Int32) &&& 31).toUInt32).toInt32) &&& (15 : Int32)) - (8 : Int32)) = bq
  show own_Go p.tables e below _ (s₁.setTop (mkF m 90 #[.val (.int p0), .val (.int p1), .val (.int p2), .val (.int p3), .val (.int p4), .val (.int p5), .val (.int cn), .val (.int mm), .val (.int v20), .val (.int ofs), .val (.int v40), .val (.int v55), .val (.int bs), .unset, .unset, .unset, .unset, .unset, .unset, .unset, .unset, .unset, .unset, .unset, .unset] [(.int bq)]))
  refine own_up (fun _ k => XS.istore X0.here hx rfl (hb hby at_90) rfl (l' := #[.val (.int p0), .val (.int p1), .val (.int p2), .val (.int p3), .val (.int p4), .val (.int p5), .val (.int cn), .val (.int mm), .val (.int v20), .val (.int ofs), .val (.int v40), .val (.int v55), .val (.int bs), .val (.int bq), .unset, .unset, .unset, .unset, .unset, .unset, .unset, .unset, .unset, .unset, .unset]) rfl k) ?_
  show own_Go p.tables e below _ (s₁.setTop (mkF m 92 #[.val (.int p0), .val (.int p1), .val (.int p2), .val (.int p3), .val (.int p4), .val (.int p5), .val (.int cn), .val (.int mm), .val (.int v20), .val (.int ofs), .val (.int v40), .val (.int v55), .val (.int bs), .val (.int bq), .unset, .unset, .unset, .unset, .unset, .unset, .unset, .unset, .unset, .unset, .unset] []))
  refine own_up (fun _ k => XS.bipush X0.here hx rfl (hb hby at_92) k) ?_
  show own_Go p.tables e below _ (s₁.setTop (mkF m 94 #[.val (.int p0), .val (.int p1), .val (.int p2), .val (.int p3), .val (.int p4), .val (.int p5), .val (.int cn), .val (.int mm), .val (.int v20), .val (.int ofs), .val (.int v40), .val (.int v55), .val (.int bs), .val (.int bq), .unset, .unset, .unset, .unset, .unset, .unset, .unset, .unset, .unset, .unset, .unset] [(.int (64 : Int32))]))
  refine own_up (fun _ k => XS.iloadN X0.here hx rfl (hb hby at_94) rfl k) ?_
  show own_Go p.tables e below _ (s₁.setTop (mkF m 95 #[.val (.int p0), .val (.int p1), .val (.int p2), .val (.int p3), .val (.int p4), .val (.int p5), .val (.int cn), .val (.int mm), .val (.int v20), .val (.int ofs), .val (.int v40), .val (.int v55), .val (.int bs), .val (.int bq), .unset, .unset, .unset, .unset, .unset, .unset, .unset, .unset, .unset, .unset, .unset] [(.int p1), (.int (64 : Int32))]))
  refine own_up (fun _ k => XS.bipush X0.here hx rfl (hb hby at_95) k) ?_
  show own_Go p.tables e below _ (s₁.setTop (mkF m 97 #[.val (.int p0), .val (.int p1), .val (.int p2), .val (.int p3), .val (.int p4), .val (.int p5), .val (.int cn), .val (.int mm), .val (.int v20), .val (.int ofs), .val (.int v40), .val (.int v55), .val (.int bs), .val (.int bq), .unset, .unset, .unset, .unset, .unset, .unset, .unset, .unset, .unset, .unset, .unset] [(.int (7 : Int32)), (.int p1), (.int (64 : Int32))]))
  refine own_up (fun _ k => XS.iushr X0.here hx rfl (hb hby at_97) rfl k) ?_
  show own_Go p.tables e below _ (s₁.setTop (mkF m 98 #[.val (.int p0), .val (.int p1), .val (.int p2), .val (.int p3), .val (.int p4), .val (.int p5), .val (.int cn), .val (.int mm), .val (.int v20), .val (.int ofs), .val (.int v40), .val (.int v55), .val (.int bs), .val (.int bq), .unset, .unset, .unset, .unset, .unset, .unset, .unset, .unset, .unset, .unset, .unset] [(.int ((p1.toUInt32 >>> ((7 : Int32) &&& 31).toUInt32).toInt32)), (.int (64 : Int32))]))
  refine own_up (fun _ k => XS.bipush X0.here hx rfl (hb hby at_98) k) ?_
  show own_Go p.tables e below _ (s₁.setTop (mkF m 100 #[.val (.int p0), .val (.int p1), .val (.int p2), .val (.int p3), .val (.int p4), .val (.int p5), .val (.int cn), .val (.int mm), .val (.int v20), .val (.int ofs), .val (.int v40), .val (.int v55), .val (.int bs), .val (.int bq), .unset, .unset, .unset, .unset, .unset, .unset, .unset, .unset, .unset, .unset, .unset] [(.int (7 : Int32)), (.int ((p1.toUInt32 >>> ((7 : Int32) &&& 31).toUInt32).toInt32)), (.int (64 : Int32))]))
  refine own_up (fun _ k => XS.iand X0.here hx rfl (hb hby at_100) rfl k) ?_
  show own_Go p.tables e below _ (s₁.setTop (mkF m 101 #[.val (.int p0), .val (.int p1), .val (.int p2), .val (.int p3), .val (.int p4), .val (.int p5), .val (.int cn), .val (.int mm), .val (.int v20), .val (.int ofs), .val (.int v40), .val (.int v55), .val (.int bs), .val (.int bq), .unset, .unset, .unset, .unset, .unset, .unset, .unset, .unset, .unset, .unset, .unset] [(.int (((p1.toUInt32 >>> ((7 : Int32) &&& 31).toUInt32).toInt32) &&& (7 : Int32))), (.int (64 : Int32))]))
  refine own_up (fun _ k => XS.iadd X0.here hx rfl (hb hby at_101) rfl k) ?_
  show own_Go p.tables e below _ (s₁.setTop (mkF m 102 #[.val (.int p0), .val (.int p1), .val (.int p2), .val (.int p3), .val (.int p4), .val (.int p5), .val (.int cn), .val (.int mm), .val (.int v20), .val (.int ofs), .val (.int v40), .val (.int v55), .val (.int bs), .val (.int bq), .unset, .unset, .unset, .unset, .unset, .unset, .unset, .unset, .unset, .unset, .unset] [(.int ((64 : Int32) + (((p1.toUInt32 >>> ((7 : Int32) &&& 31).toUInt32).toInt32) &&& (7 : Int32))))]))
  generalize htb : ((64 : Int32) + (((p1.toUInt32 >>> ((7 : Int32) &&& 31).toUInt32).toInt32) &&& (7 : Int32))) = tb
  show own_Go p.tables e below _ (s₁.setTop (mkF m 102 #[.val (.int p0), .val (.int p1), .val (.int p2), .val (.int p3), .val (.int p4), .val (.int p5), .val (.int cn), .val (.int mm), .val (.int v20), .val (.int ofs), .val (.int v40), .val (.int v55), .val (.int bs), .val (.int bq), .unset, .unset, .unset, .unset, .unset, .unset, .unset, .unset, .unset, .unset, .unset] [(.int tb)]))
  refine own_up (fun _ k => XS.istore X0.here hx rfl (hb hby at_102) rfl (l' := #[.val (.int p0), .val (.int p1), .val (.int p2), .val (.int p3), .val (.int p4), .val (.int p5), .val (.int cn), .val (.int mm), .val (.int v20), .val (.int ofs), .val (.int v40), .val (.int v55), .val (.int bs), .val (.int bq), .val (.int tb), .unset, .unset, .unset, .unset, .unset, .unset, .unset, .unset, .unset, .unset]) rfl k) ?_
  show own_Go p.tables e below _ (s₁.setTop (mkF m 104 #[.val (.int p0), .val (.int p1), .val (.int p2), .val (.int p3), .val (.int p4), .val (.int p5), .val (.int cn), .val (.int mm), .val (.int v20), .val (.int ofs), .val (.int v40), .val (.int v55), .val (.int bs), .val (.int bq), .val (.int tb), .unset, .unset, .unset, .unset, .unset, .unset, .unset, .unset, .unset, .unset] []))
  refine own_up (fun _ k => XS.iloadN X0.here hx rfl (hb hby at_104) rfl k) ?_
  show own_Go p.tables e below _ (s₁.setTop (mkF m 105 #[.val (.int p0), .val (.int p1), .val (.int p2), .val (.int p3), .val (.int p4), .val (.int p5), .val (.int cn), .val (.int mm), .val (.int v20), .val (.int ofs), .val (.int v40), .val (.int v55), .val (.int bs), .val (.int bq), .val (.int tb), .unset, .unset, .unset, .unset, .unset, .unset, .unset, .unset, .unset, .unset] [(.int p2)]))
  refine own_up (fun _ k => XS.bipush X0.here hx rfl (hb hby at_105) k) ?_
  show own_Go p.tables e below _ (s₁.setTop (mkF m 107 #[.val (.int p0), .val (.int p1), .val (.int p2), .val (.int p3), .val (.int p4), .val (.int p5), .val (.int cn), .val (.int mm), .val (.int v20), .val (.int ofs), .val (.int v40), .val (.int v55), .val (.int bs), .val (.int bq), .val (.int tb), .unset, .unset, .unset, .unset, .unset, .unset, .unset, .unset, .unset, .unset] [(.int (63 : Int32)), (.int p2)]))
  refine own_up (fun _ k => XS.iand X0.here hx rfl (hb hby at_107) rfl k) ?_
  show own_Go p.tables e below _ (s₁.setTop (mkF m 108 #[.val (.int p0), .val (.int p1), .val (.int p2), .val (.int p3), .val (.int p4), .val (.int p5), .val (.int cn), .val (.int mm), .val (.int v20), .val (.int ofs), .val (.int v40), .val (.int v55), .val (.int bs), .val (.int bq), .val (.int tb), .unset, .unset, .unset, .unset, .unset, .unset, .unset, .unset, .unset, .unset] [(.int (p2 &&& (63 : Int32)))]))
  generalize hpp : (p2 &&& (63 : Int32)) = pp
  show own_Go p.tables e below _ (s₁.setTop (mkF m 108 #[.val (.int p0), .val (.int p1), .val (.int p2), .val (.int p3), .val (.int p4), .val (.int p5), .val (.int cn), .val (.int mm), .val (.int v20), .val (.int ofs), .val (.int v40), .val (.int v55), .val (.int bs), .val (.int bq), .val (.int tb), .unset, .unset, .unset, .unset, .unset, .unset, .unset, .unset, .unset, .unset] [(.int pp)]))
  refine own_up (fun _ k => XS.istore X0.here hx rfl (hb hby at_108) rfl (l' := #[.val (.int p0), .val (.int p1), .val (.int p2), .val (.int p3), .val (.int p4), .val (.int p5), .val (.int cn), .val (.int mm), .val (.int v20), .val (.int ofs), .val (.int v40), .val (.int v55), .val (.int bs), .val (.int bq), .val (.int tb), .val (.int pp), .unset, .unset, .unset, .unset, .unset, .unset, .unset, .unset, .unset]) rfl k) ?_
  show own_Go p.tables e below _ (s₁.setTop (mkF m 110 #[.val (.int p0), .val (.int p1), .val (.int p2), .val (.int p3), .val (.int p4), .val (.int p5), .val (.int cn), .val (.int mm), .val (.int v20), .val (.int ofs), .val (.int v40), .val (.int v55), .val (.int bs), .val (.int bq), .val (.int tb), .val (.int pp), .unset, .unset, .unset, .unset, .unset, .unset, .unset, .unset, .unset] []))
  refine own_up (fun _ k => XS.iloadN X0.here hx rfl (hb hby at_110) rfl k) ?_
  show own_Go p.tables e below _ (s₁.setTop (mkF m 111 #[.val (.int p0), .val (.int p1), .val (.int p2), .val (.int p3), .val (.int p4), .val (.int p5), .val (.int cn), .val (.int mm), .val (.int v20), .val (.int ofs), .val (.int v40), .val (.int v55), .val (.int bs), .val (.int bq), .val (.int tb), .val (.int pp), .unset, .unset, .unset, .unset, .unset, .unset, .unset, .unset, .unset] [(.int p3)]))
  refine own_up (fun _ k => XS.bipush X0.here hx rfl (hb hby at_111) k) ?_
  show own_Go p.tables e below _ (s₁.setTop (mkF m 113 #[.val (.int p0), .val (.int p1), .val (.int p2), .val (.int p3), .val (.int p4), .val (.int p5), .val (.int cn), .val (.int mm), .val (.int v20), .val (.int ofs), .val (.int v40), .val (.int v55), .val (.int bs), .val (.int bq), .val (.int tb), .val (.int pp), .unset, .unset, .unset, .unset, .unset, .unset, .unset, .unset, .unset] [(.int (127 : Int32)), (.int p3)]))
  refine own_up (fun _ k => XS.iand X0.here hx rfl (hb hby at_113) rfl k) ?_
  show own_Go p.tables e below _ (s₁.setTop (mkF m 114 #[.val (.int p0), .val (.int p1), .val (.int p2), .val (.int p3), .val (.int p4), .val (.int p5), .val (.int cn), .val (.int mm), .val (.int v20), .val (.int ofs), .val (.int v40), .val (.int v55), .val (.int bs), .val (.int bq), .val (.int tb), .val (.int pp), .unset, .unset, .unset, .unset, .unset, .unset, .unset, .unset, .unset] [(.int (p3 &&& (127 : Int32)))]))
  generalize hqq : (p3 &&& (127 : Int32)) = qq
  show own_Go p.tables e below _ (s₁.setTop (mkF m 114 #[.val (.int p0), .val (.int p1), .val (.int p2), .val (.int p3), .val (.int p4), .val (.int p5), .val (.int cn), .val (.int mm), .val (.int v20), .val (.int ofs), .val (.int v40), .val (.int v55), .val (.int bs), .val (.int bq), .val (.int tb), .val (.int pp), .unset, .unset, .unset, .unset, .unset, .unset, .unset, .unset, .unset] [(.int qq)]))
  refine own_up (fun _ k => XS.istore X0.here hx rfl (hb hby at_114) rfl (l' := #[.val (.int p0), .val (.int p1), .val (.int p2), .val (.int p3), .val (.int p4), .val (.int p5), .val (.int cn), .val (.int mm), .val (.int v20), .val (.int ofs), .val (.int v40), .val (.int v55), .val (.int bs), .val (.int bq), .val (.int tb), .val (.int pp), .val (.int qq), .unset, .unset, .unset, .unset, .unset, .unset, .unset, .unset]) rfl k) ?_
  show own_Go p.tables e below _ (s₁.setTop (mkF m 116 #[.val (.int p0), .val (.int p1), .val (.int p2), .val (.int p3), .val (.int p4), .val (.int p5), .val (.int cn), .val (.int mm), .val (.int v20), .val (.int ofs), .val (.int v40), .val (.int v55), .val (.int bs), .val (.int bq), .val (.int tb), .val (.int pp), .val (.int qq), .unset, .unset, .unset, .unset, .unset, .unset, .unset, .unset] []))
  have HB := own_bund hcn hmm hofs hv40 hv55 hbs hbq htb hpp hqq
  have ipp := own_ippf HB
  have iqq := own_iqqf HB
  refine own_up (fun _ k => XS.iload X0.here hx rfl (hb hby at_116) rfl k) ?_
  show own_Go p.tables e below _ (s₁.setTop (mkF m 118 #[.val (.int p0), .val (.int p1), .val (.int p2), .val (.int p3), .val (.int p4), .val (.int p5), .val (.int cn), .val (.int mm), .val (.int v20), .val (.int ofs), .val (.int v40), .val (.int v55), .val (.int bs), .val (.int bq), .val (.int tb), .val (.int pp), .val (.int qq), .unset, .unset, .unset, .unset, .unset, .unset, .unset, .unset] [(.int p4)]))
  refine own_up (fun _ k => XS.i2dS X0.here hx rfl (v := (FP.i2d p4)) (hb hby at_118) rfl rfl k) ?_
  show own_Go p.tables e below _ (s₁.setTop (mkF m 119 #[.val (.int p0), .val (.int p1), .val (.int p2), .val (.int p3), .val (.int p4), .val (.int p5), .val (.int cn), .val (.int mm), .val (.int v20), .val (.int ofs), .val (.int v40), .val (.int v55), .val (.int bs), .val (.int bq), .val (.int tb), .val (.int pp), .val (.int qq), .unset, .unset, .unset, .unset, .unset, .unset, .unset, .unset] [(.double (FP.i2d p4))]))
  refine own_up (fun _ k => XS.dstore X0.here hx rfl (hb hby at_119) rfl (l' := #[.val (.int p0), .val (.int p1), .val (.int p2), .val (.int p3), .val (.int p4), .val (.int p5), .val (.int cn), .val (.int mm), .val (.int v20), .val (.int ofs), .val (.int v40), .val (.int v55), .val (.int bs), .val (.int bq), .val (.int tb), .val (.int pp), .val (.int qq), .val (.double (FP.i2d p4)), .second, .unset, .unset, .unset, .unset, .unset, .unset]) rfl k) ?_
  show own_Go p.tables e below _ (s₁.setTop (mkF m 121 #[.val (.int p0), .val (.int p1), .val (.int p2), .val (.int p3), .val (.int p4), .val (.int p5), .val (.int cn), .val (.int mm), .val (.int v20), .val (.int ofs), .val (.int v40), .val (.int v55), .val (.int bs), .val (.int bq), .val (.int tb), .val (.int pp), .val (.int qq), .val (.double (FP.i2d p4)), .second, .unset, .unset, .unset, .unset, .unset, .unset] []))
  refine own_up (fun _ k => XS.iload X0.here hx rfl (hb hby at_121) rfl k) ?_
  show own_Go p.tables e below _ (s₁.setTop (mkF m 123 #[.val (.int p0), .val (.int p1), .val (.int p2), .val (.int p3), .val (.int p4), .val (.int p5), .val (.int cn), .val (.int mm), .val (.int v20), .val (.int ofs), .val (.int v40), .val (.int v55), .val (.int bs), .val (.int bq), .val (.int tb), .val (.int pp), .val (.int qq), .val (.double (FP.i2d p4)), .second, .unset, .unset, .unset, .unset, .unset, .unset] [(.int p5)]))
  refine own_up (fun _ k => XS.i2dS X0.here hx rfl (v := (FP.i2d p5)) (hb hby at_123) rfl rfl k) ?_
  show own_Go p.tables e below _ (s₁.setTop (mkF m 124 #[.val (.int p0), .val (.int p1), .val (.int p2), .val (.int p3), .val (.int p4), .val (.int p5), .val (.int cn), .val (.int mm), .val (.int v20), .val (.int ofs), .val (.int v40), .val (.int v55), .val (.int bs), .val (.int bq), .val (.int tb), .val (.int pp), .val (.int qq), .val (.double (FP.i2d p4)), .second, .unset, .unset, .unset, .unset, .unset, .unset] [(.double (FP.i2d p5))]))
  refine own_up (fun _ k => XS.dstore X0.here hx rfl (hb hby at_124) rfl (l' := #[.val (.int p0), .val (.int p1), .val (.int p2), .val (.int p3), .val (.int p4), .val (.int p5), .val (.int cn), .val (.int mm), .val (.int v20), .val (.int ofs), .val (.int v40), .val (.int v55), .val (.int bs), .val (.int bq), .val (.int tb), .val (.int pp), .val (.int qq), .val (.double (FP.i2d p4)), .second, .val (.double (FP.i2d p5)), .second, .unset, .unset, .unset, .unset]) rfl k) ?_
  show own_Go p.tables e below _ (s₁.setTop (mkF m 126 #[.val (.int p0), .val (.int p1), .val (.int p2), .val (.int p3), .val (.int p4), .val (.int p5), .val (.int cn), .val (.int mm), .val (.int v20), .val (.int ofs), .val (.int v40), .val (.int v55), .val (.int bs), .val (.int bq), .val (.int tb), .val (.int pp), .val (.int qq), .val (.double (FP.i2d p4)), .second, .val (.double (FP.i2d p5)), .second, .unset, .unset, .unset, .unset] []))
  refine own_up (fun _ k => XS.bipush X0.here hx rfl (hb hby at_126) k) ?_
  show own_Go p.tables e below _ (s₁.setTop (mkF m 128 #[.val (.int p0), .val (.int p1), .val (.int p2), .val (.int p3), .val (.int p4), .val (.int p5), .val (.int cn), .val (.int mm), .val (.int v20), .val (.int ofs), .val (.int v40), .val (.int v55), .val (.int bs), .val (.int bq), .val (.int tb), .val (.int pp), .val (.int qq), .val (.double (FP.i2d p4)), .second, .val (.double (FP.i2d p5)), .second, .unset, .unset, .unset, .unset] [(.int (64 : Int32))]))
  obtain ⟨T4, h4, k4, X4, e4, E4, A4, st4⟩ := newP X0 hx hZ (hw _ (List.mem_of_getElem? (i := 0) rfl)) e0 (g := (mkF m 128 #[.val (.int p0), .val (.int p1), .val (.int p2), .val (.int p3), .val (.int p4), .val (.int p5), .val (.int cn), .val (.int mm), .val (.int v20), .val (.int ofs), .val (.int v40), .val (.int v55), .val (.int bs), .val (.int bq), .val (.int tb), .val (.int pp), .val (.int qq), .val (.double (FP.i2d p4)), .second, .val (.double (FP.i2d p5)), .second, .unset, .unset, .unset, .unset] [(.int (64 : Int32))])) rfl (hb hby at_128) rfl (by decide) (cap := 64) (by decide) (by decide) (by decide) (by decide)
  obtain ⟨b4, gz4⟩ : ∃ z, z = h0.size := ⟨_, rfl⟩
  rw [← gz4] at A4 st4
  have g_b4 : n0 ≤ b4 := Nat.le_trans ZH (Nat.le_of_eq gz4.symm)
  have sz_b4 : h0.size ≤ b4 := Nat.le_trans KK.1 (Nat.le_of_eq gz4.symm)
  have ZH := Nat.le_trans ZH E4.1
  have KK := KK.ext E4
  have G_b4 : own_Arf Z h4 b4 .double (64 : Int32) (fun i => .double ((fun _ => 0 : Nat → UInt64) i)) := own_Arf.new A4 (by decide)
  refine own_up st4 ?_
  show own_Go p.tables e below _ (T4.setTop (mkF m 130 #[.val (.int p0), .val (.int p1), .val (.int p2), .val (.int p3), .val (.int p4), .val (.int p5), .val (.int cn), .val (.int mm), .val (.int v20), .val (.int ofs), .val (.int v40), .val (.int v55), .val (.int bs), .val (.int bq), .val (.int tb), .val (.int pp), .val (.int qq), .val (.double (FP.i2d p4)), .second, .val (.double (FP.i2d p5)), .second, .unset, .unset, .unset, .unset] [(.ref b4)]))
  refine own_up (fun _ k => XS.astore X4.here hx rfl (hb hby at_130) rfl rfl (l' := #[.val (.int p0), .val (.int p1), .val (.int p2), .val (.int p3), .val (.int p4), .val (.int p5), .val (.int cn), .val (.int mm), .val (.int v20), .val (.int ofs), .val (.int v40), .val (.int v55), .val (.int bs), .val (.int bq), .val (.int tb), .val (.int pp), .val (.int qq), .val (.double (FP.i2d p4)), .second, .val (.double (FP.i2d p5)), .second, .val (.ref b4), .unset, .unset, .unset]) rfl k) ?_
  show own_Go p.tables e below _ (T4.setTop (mkF m 132 #[.val (.int p0), .val (.int p1), .val (.int p2), .val (.int p3), .val (.int p4), .val (.int p5), .val (.int cn), .val (.int mm), .val (.int v20), .val (.int ofs), .val (.int v40), .val (.int v55), .val (.int bs), .val (.int bq), .val (.int tb), .val (.int pp), .val (.int qq), .val (.double (FP.i2d p4)), .second, .val (.double (FP.i2d p5)), .second, .val (.ref b4), .unset, .unset, .unset] []))
  refine own_up (fun _ k => XS.sipush X4.here hx rfl (hb hby at_132) k) ?_
  show own_Go p.tables e below _ (T4.setTop (mkF m 135 #[.val (.int p0), .val (.int p1), .val (.int p2), .val (.int p3), .val (.int p4), .val (.int p5), .val (.int cn), .val (.int mm), .val (.int v20), .val (.int ofs), .val (.int v40), .val (.int v55), .val (.int bs), .val (.int bq), .val (.int tb), .val (.int pp), .val (.int qq), .val (.double (FP.i2d p4)), .second, .val (.double (FP.i2d p5)), .second, .val (.ref b4), .unset, .unset, .unset] [(.int (128 : Int32))]))
  obtain ⟨T5, h5, k5, X5, e5, E5, A5, st5⟩ := newP X4 hx hZ (hw _ (List.mem_of_getElem? (i := 0) rfl)) e4 (g := (mkF m 135 #[.val (.int p0), .val (.int p1), .val (.int p2), .val (.int p3), .val (.int p4), .val (.int p5), .val (.int cn), .val (.int mm), .val (.int v20), .val (.int ofs), .val (.int v40), .val (.int v55), .val (.int bs), .val (.int bq), .val (.int tb), .val (.int pp), .val (.int qq), .val (.double (FP.i2d p4)), .second, .val (.double (FP.i2d p5)), .second, .val (.ref b4), .unset, .unset, .unset] [(.int (128 : Int32))])) rfl (hb hby at_135) rfl (by decide) (cap := 128) (by decide) (by decide) (by decide) (by decide)
  obtain ⟨b5, gz5⟩ : ∃ z, z = h4.size := ⟨_, rfl⟩
  rw [← gz5] at A5 st5
  have ne_b4_b5 : b4 ≠ b5 := Nat.ne_of_lt (Nat.lt_of_lt_of_le G_b4.lt (Nat.le_of_eq gz5.symm))
  have g_b5 : n0 ≤ b5 := Nat.le_trans ZH (Nat.le_of_eq gz5.symm)
  have sz_b5 : h0.size ≤ b5 := Nat.le_trans KK.1 (Nat.le_of_eq gz5.symm)
  have G_b4 := G_b4.ext E5
  have ZH := Nat.le_trans ZH E5.1
  have KK := KK.ext E5
  have G_b5 : own_Arf Z h5 b5 .double (128 : Int32) (fun i => .double ((fun _ => 0 : Nat → UInt64) i)) := own_Arf.new A5 (by decide)
  refine own_up st5 ?_
  show own_Go p.tables e below _ (T5.setTop (mkF m 137 #[.val (.int p0), .val (.int p1), .val (.int p2), .val (.int p3), .val (.int p4), .val (.int p5), .val (.int cn), .val (.int mm), .val (.int v20), .val (.int ofs), .val (.int v40), .val (.int v55), .val (.int bs), .val (.int bq), .val (.int tb), .val (.int pp), .val (.int qq), .val (.double (FP.i2d p4)), .second, .val (.double (FP.i2d p5)), .second, .val (.ref b4), .unset, .unset, .unset] [(.ref b5)]))
  refine own_up (fun _ k => XS.astore X5.here hx rfl (hb hby at_137) rfl rfl (l' := #[.val (.int p0), .val (.int p1), .val (.int p2), .val (.int p3), .val (.int p4), .val (.int p5), .val (.int cn), .val (.int mm), .val (.int v20), .val (.int ofs), .val (.int v40), .val (.int v55), .val (.int bs), .val (.int bq), .val (.int tb), .val (.int pp), .val (.int qq), .val (.double (FP.i2d p4)), .second, .val (.double (FP.i2d p5)), .second, .val (.ref b4), .val (.ref b5), .unset, .unset]) rfl k) ?_
  show own_Go p.tables e below _ (T5.setTop (mkF m 139 #[.val (.int p0), .val (.int p1), .val (.int p2), .val (.int p3), .val (.int p4), .val (.int p5), .val (.int cn), .val (.int mm), .val (.int v20), .val (.int ofs), .val (.int v40), .val (.int v55), .val (.int bs), .val (.int bq), .val (.int tb), .val (.int pp), .val (.int qq), .val (.double (FP.i2d p4)), .second, .val (.double (FP.i2d p5)), .second, .val (.ref b4), .val (.ref b5), .unset, .unset] []))
  refine own_up (fun _ k => XS.bipush X5.here hx rfl (hb hby at_139) k) ?_
  show own_Go p.tables e below _ (T5.setTop (mkF m 141 #[.val (.int p0), .val (.int p1), .val (.int p2), .val (.int p3), .val (.int p4), .val (.int p5), .val (.int cn), .val (.int mm), .val (.int v20), .val (.int ofs), .val (.int v40), .val (.int v55), .val (.int bs), .val (.int bq), .val (.int tb), .val (.int pp), .val (.int qq), .val (.double (FP.i2d p4)), .second, .val (.double (FP.i2d p5)), .second, .val (.ref b4), .val (.ref b5), .unset, .unset] [(.int (64 : Int32))]))
  obtain ⟨T6, h6, k6, X6, e6, E6, A6, st6⟩ := newP X5 hx hZ (hw _ (List.mem_of_getElem? (i := 0) rfl)) e5 (g := (mkF m 141 #[.val (.int p0), .val (.int p1), .val (.int p2), .val (.int p3), .val (.int p4), .val (.int p5), .val (.int cn), .val (.int mm), .val (.int v20), .val (.int ofs), .val (.int v40), .val (.int v55), .val (.int bs), .val (.int bq), .val (.int tb), .val (.int pp), .val (.int qq), .val (.double (FP.i2d p4)), .second, .val (.double (FP.i2d p5)), .second, .val (.ref b4), .val (.ref b5), .unset, .unset] [(.int (64 : Int32))])) rfl (hb hby at_141) rfl (by decide) (cap := 64) (by decide) (by decide) (by decide) (by decide)
  obtain ⟨b6, gz6⟩ : ∃ z, z = h5.size := ⟨_, rfl⟩
  rw [← gz6] at A6 st6
  have ne_b4_b6 : b4 ≠ b6 := Nat.ne_of_lt (Nat.lt_of_lt_of_le G_b4.lt (Nat.le_of_eq gz6.symm))
  have ne_b5_b6 : b5 ≠ b6 := Nat.ne_of_lt (Nat.lt_of_lt_of_le G_b5.lt (Nat.le_of_eq gz6.symm))
  have g_b6 : n0 ≤ b6 := Nat.le_trans ZH (Nat.le_of_eq gz6.symm)
  have sz_b6 : h0.size ≤ b6 := Nat.le_trans KK.1 (Nat.le_of_eq gz6.symm)
  have G_b4 := G_b4.ext E6
  have G_b5 := G_b5.ext E6
  have ZH := Nat.le_trans ZH E6.1
  have KK := KK.ext E6
  have G_b6 : own_Arf Z h6 b6 .double (64 : Int32) (fun i => .double ((fun _ => 0 : Nat → UInt64) i)) := own_Arf.new A6 (by decide)
  refine own_up st6 ?_
  show own_Go p.tables e below _ (T6.setTop (mkF m 143 #[.val (.int p0), .val (.int p1), .val (.int p2), .val (.int p3), .val (.int p4), .val (.int p5), .val (.int cn), .val (.int mm), .val (.int v20), .val (.int ofs), .val (.int v40), .val (.int v55), .val (.int bs), .val (.int bq), .val (.int tb), .val (.int pp), .val (.int qq), .val (.double (FP.i2d p4)), .second, .val (.double (FP.i2d p5)), .second, .val (.ref b4), .val (.ref b5), .unset, .unset] [(.ref b6)]))
  refine own_up (fun _ k => XS.astore X6.here hx rfl (hb hby at_143) rfl rfl (l' := #[.val (.int p0), .val (.int p1), .val (.int p2), .val (.int p3), .val (.int p4), .val (.int p5), .val (.int cn), .val (.int mm), .val (.int v20), .val (.int ofs), .val (.int v40), .val (.int v55), .val (.int bs), .val (.int bq), .val (.int tb), .val (.int pp), .val (.int qq), .val (.double (FP.i2d p4)), .second, .val (.double (FP.i2d p5)), .second, .val (.ref b4), .val (.ref b5), .val (.ref b6), .unset]) rfl k) ?_
  show own_Go p.tables e below _ (T6.setTop (mkF m 145 #[.val (.int p0), .val (.int p1), .val (.int p2), .val (.int p3), .val (.int p4), .val (.int p5), .val (.int cn), .val (.int mm), .val (.int v20), .val (.int ofs), .val (.int v40), .val (.int v55), .val (.int bs), .val (.int bq), .val (.int tb), .val (.int pp), .val (.int qq), .val (.double (FP.i2d p4)), .second, .val (.double (FP.i2d p5)), .second, .val (.ref b4), .val (.ref b5), .val (.ref b6), .unset] []))
  refine own_up (fun _ k => XS.aload X6.here hx rfl (hb hby at_145) rfl rfl k) ?_
  show own_Go p.tables e below _ (T6.setTop (mkF m 147 #[.val (.int p0), .val (.int p1), .val (.int p2), .val (.int p3), .val (.int p4), .val (.int p5), .val (.int cn), .val (.int mm), .val (.int v20), .val (.int ofs), .val (.int v40), .val (.int v55), .val (.int bs), .val (.int bq), .val (.int tb), .val (.int pp), .val (.int qq), .val (.double (FP.i2d p4)), .second, .val (.double (FP.i2d p5)), .second, .val (.ref b4), .val (.ref b5), .val (.ref b6), .unset] [(.ref b4)]))
  refine own_up (fun _ k => XS.iload X6.here hx rfl (hb hby at_147) rfl k) ?_
  show own_Go p.tables e below _ (T6.setTop (mkF m 149 #[.val (.int p0), .val (.int p1), .val (.int p2), .val (.int p3), .val (.int p4), .val (.int p5), .val (.int cn), .val (.int mm), .val (.int v20), .val (.int ofs), .val (.int v40), .val (.int v55), .val (.int bs), .val (.int bq), .val (.int tb), .val (.int pp), .val (.int qq), .val (.double (FP.i2d p4)), .second, .val (.double (FP.i2d p5)), .second, .val (.ref b4), .val (.ref b5), .val (.ref b6), .unset] [(.int pp), (.ref b4)]))
  refine own_up (fun _ k => X6.ldc2DoubleC hx hown (mvT hZ (hw _ (List.mem_of_getElem? (i := 1) rfl))) (g := (mkF m 149 #[.val (.int p0), .val (.int p1), .val (.int p2), .val (.int p3), .val (.int p4), .val (.int p5), .val (.int cn), .val (.int mm), .val (.int v20), .val (.int ofs), .val (.int v40), .val (.int v55), .val (.int bs), .val (.int bq), .val (.int tb), .val (.int pp), .val (.int qq), .val (.double (FP.i2d p4)), .second, .val (.double (FP.i2d p5)), .second, .val (.ref b4), .val (.ref b5), .val (.ref b6), .unset] [(.int pp), (.ref b4)])) rfl (hb hby at_149) _ k) ?_
  show own_Go p.tables e below _ (T6.setTop (mkF m 152 #[.val (.int p0), .val (.int p1), .val (.int p2), .val (.int p3), .val (.int p4), .val (.int p5), .val (.int cn), .val (.int mm), .val (.int v20), .val (.int ofs), .val (.int v40), .val (.int v55), .val (.int bs), .val (.int bq), .val (.int tb), .val (.int pp), .val (.int qq), .val (.double (FP.i2d p4)), .second, .val (.double (FP.i2d p5)), .second, .val (.ref b4), .val (.ref b5), .val (.ref b6), .unset] [(.double (4598175219545276416 : UInt64)), (.int pp), (.ref b4)]))
  obtain ⟨cl7, Ar7, sz7, nz7, hc7⟩ := id G_b4
  obtain ⟨T7, h7, X7, e7, W7, st7⟩ := stD X6 hx hZ e6 Ar7 (j := pp) (inb_of sz7 ⟨ipp.1, ipp.2⟩) (g := (mkF m 152 #[.val (.int p0), .val (.int p1), .val (.int p2), .val (.int p3), .val (.int p4), .val (.int p5), .val (.int cn), .val (.int mm), .val (.int v20), .val (.int ofs), .val (.int v40), .val (.int v55), .val (.int bs), .val (.int bq), .val (.int tb), .val (.int pp), .val (.int qq), .val (.double (FP.i2d p4)), .second, .val (.double (FP.i2d p5)), .second, .val (.ref b4), .val (.ref b5), .val (.ref b6), .unset] [(.double (4598175219545276416 : UInt64)), (.int pp), (.ref b4)])) rfl rfl (hb hby at_152)
  have G_b4 : own_Arf Z h7 b4 .double (64 : Int32) (fun i => .double ((own_upd (fun _ => 0 : Nat → UInt64) pp (4598175219545276416 : UInt64)) i)) := own_Arf.setD G_b4 W7
  have N7 := Fr.snoc X7 N0 g_b4
  have G_b5 := G_b5.other W7 (Ne.symm ne_b4_b5)
  have G_b6 := G_b6.other W7 (Ne.symm ne_b4_b6)
  have ZH := Nat.le_trans ZH (Nat.le_of_eq W7.size.symm)
  have KK := KK.wr W7 (Or.inr sz_b4)
  refine own_up st7 ?_
  show own_Go p.tables e below _ (T7.setTop (mkF m 153 #[.val (.int p0), .val (.int p1), .val (.int p2), .val (.int p3), .val (.int p4), .val (.int p5), .val (.int cn), .val (.int mm), .val (.int v20), .val (.int ofs), .val (.int v40), .val (.int v55), .val (.int bs), .val (.int bq), .val (.int tb), .val (.int pp), .val (.int qq), .val (.double (FP.i2d p4)), .second, .val (.double (FP.i2d p5)), .second, .val (.ref b4), .val (.ref b5), .val (.ref b6), .unset] []))
  refine own_up (fun _ k => XS.aload X7.here hx rfl (hb hby at_153) rfl rfl k) ?_
  show own_Go p.tables e below _ (T7.setTop (mkF m 155 #[.val (.int p0), .val (.int p1), .val (.int p2), .val (.int p3), .val (.int p4), .val (.int p5), .val (.int cn), .val (.int mm), .val (.int v20), .val (.int ofs), .val (.int v40), .val (.int v55), .val (.int bs), .val (.int bq), .val (.int tb), .val (.int pp), .val (.int qq), .val (.double (FP.i2d p4)), .second, .val (.double (FP.i2d p5)), .second, .val (.ref b4), .val (.ref b5), .val (.ref b6), .unset] [(.ref b5)]))
  refine own_up (fun _ k => XS.iload X7.here hx rfl (hb hby at_155) rfl k) ?_
  show own_Go p.tables e below _ (T7.setTop (mkF m 157 #[.val (.int p0), .val (.int p1), .val (.int p2), .val (.int p3), .val (.int p4), .val (.int p5), .val (.int cn), .val (.int mm), .val (.int v20), .val (.int ofs), .val (.int v40), .val (.int v55), .val (.int bs), .val (.int bq), .val (.int tb), .val (.int pp), .val (.int qq), .val (.double (FP.i2d p4)), .second, .val (.double (FP.i2d p5)), .second, .val (.ref b4), .val (.ref b5), .val (.ref b6), .unset] [(.int qq), (.ref b5)]))
  refine own_up (fun _ k => XS.dload X7.here hx rfl (hb hby at_157) rfl k) ?_
  show own_Go p.tables e below _ (T7.setTop (mkF m 159 #[.val (.int p0), .val (.int p1), .val (.int p2), .val (.int p3), .val (.int p4), .val (.int p5), .val (.int cn), .val (.int mm), .val (.int v20), .val (.int ofs), .val (.int v40), .val (.int v55), .val (.int bs), .val (.int bq), .val (.int tb), .val (.int pp), .val (.int qq), .val (.double (FP.i2d p4)), .second, .val (.double (FP.i2d p5)), .second, .val (.ref b4), .val (.ref b5), .val (.ref b6), .unset] [(.double (FP.i2d p5)), (.int qq), (.ref b5)]))
  obtain ⟨cl8, Ar8, sz8, nz8, hc8⟩ := id G_b5
  obtain ⟨T8, h8, X8, e8, W8, st8⟩ := stD X7 hx hZ e7 Ar8 (j := qq) (inb_of sz8 ⟨iqq.1, iqq.2⟩) (g := (mkF m 159 #[.val (.int p0), .val (.int p1), .val (.int p2), .val (.int p3), .val (.int p4), .val (.int p5), .val (.int cn), .val (.int mm), .val (.int v20), .val (.int ofs), .val (.int v40), .val (.int v55), .val (.int bs), .val (.int bq), .val (.int tb), .val (.int pp), .val (.int qq), .val (.double (FP.i2d p4)), .second, .val (.double (FP.i2d p5)), .second, .val (.ref b4), .val (.ref b5), .val (.ref b6), .unset] [(.double (FP.i2d p5)), (.int qq), (.ref b5)])) rfl rfl (hb hby at_159)
  have G_b5 : own_Arf Z h8 b5 .double (128 : Int32) (fun i => .double ((own_upd (fun _ => 0 : Nat → UInt64) qq (FP.i2d p5)) i)) := own_Arf.setD G_b5 W8
  have N8 := Fr.snoc X8 N7 g_b5
  have G_b4 := G_b4.other W8 ne_b4_b5
  have G_b6 := G_b6.other W8 (Ne.symm ne_b5_b6)
  have ZH := Nat.le_trans ZH (Nat.le_of_eq W8.size.symm)
  have KK := KK.wr W8 (Or.inr sz_b5)
  refine own_up st8 ?_
  show own_Go p.tables e below _ (T8.setTop (mkF m 160 #[.val (.int p0), .val (.int p1), .val (.int p2), .val (.int p3), .val (.int p4), .val (.int p5), .val (.int cn), .val (.int mm), .val (.int v20), .val (.int ofs), .val (.int v40), .val (.int v55), .val (.int bs), .val (.int bq), .val (.int tb), .val (.int pp), .val (.int qq), .val (.double (FP.i2d p4)), .second, .val (.double (FP.i2d p5)), .second, .val (.ref b4), .val (.ref b5), .val (.ref b6), .unset] []))
  refine own_up (fun _ k => XS.aload X8.here hx rfl (hb hby at_160) rfl rfl k) ?_
  show own_Go p.tables e below _ (T8.setTop (mkF m 162 #[.val (.int p0), .val (.int p1), .val (.int p2), .val (.int p3), .val (.int p4), .val (.int p5), .val (.int cn), .val (.int mm), .val (.int v20), .val (.int ofs), .val (.int v40), .val (.int v55), .val (.int bs), .val (.int bq), .val (.int tb), .val (.int pp), .val (.int qq), .val (.double (FP.i2d p4)), .second, .val (.double (FP.i2d p5)), .second, .val (.ref b4), .val (.ref b5), .val (.ref b6), .unset] [(.ref b6)]))
  refine own_up (fun _ k => XS.iload X8.here hx rfl (hb hby at_162) rfl k) ?_
  show own_Go p.tables e below _ (T8.setTop (mkF m 164 #[.val (.int p0), .val (.int p1), .val (.int p2), .val (.int p3), .val (.int p4), .val (.int p5), .val (.int cn), .val (.int mm), .val (.int v20), .val (.int ofs), .val (.int v40), .val (.int v55), .val (.int bs), .val (.int bq), .val (.int tb), .val (.int pp), .val (.int qq), .val (.double (FP.i2d p4)), .second, .val (.double (FP.i2d p5)), .second, .val (.ref b4), .val (.ref b5), .val (.ref b6), .unset] [(.int pp), (.ref b6)]))
  refine own_up (fun _ k => X8.ldc2DoubleC hx hown (mvT hZ (hw _ (List.mem_of_getElem? (i := 2) rfl))) (g := (mkF m 164 #[.val (.int p0), .val (.int p1), .val (.int p2), .val (.int p3), .val (.int p4), .val (.int p5), .val (.int cn), .val (.int mm), .val (.int v20), .val (.int ofs), .val (.int v40), .val (.int v55), .val (.int bs), .val (.int bq), .val (.int tb), .val (.int pp), .val (.int qq), .val (.double (FP.i2d p4)), .second, .val (.double (FP.i2d p5)), .second, .val (.ref b4), .val (.ref b5), .val (.ref b6), .unset] [(.int pp), (.ref b6)])) rfl (hb hby at_164) _ k) ?_
  show own_Go p.tables e below _ (T8.setTop (mkF m 167 #[.val (.int p0), .val (.int p1), .val (.int p2), .val (.int p3), .val (.int p4), .val (.int p5), .val (.int cn), .val (.int mm), .val (.int v20), .val (.int ofs), .val (.int v40), .val (.int v55), .val (.int bs), .val (.int bq), .val (.int tb), .val (.int pp), .val (.int qq), .val (.double (FP.i2d p4)), .second, .val (.double (FP.i2d p5)), .second, .val (.ref b4), .val (.ref b5), .val (.ref b6), .unset] [(.double (4602678819172646912 : UInt64)), (.int pp), (.ref b6)]))
  obtain ⟨cl9, Ar9, sz9, nz9, hc9⟩ := id G_b6
  obtain ⟨T9, h9, X9, e9, W9, st9⟩ := stD X8 hx hZ e8 Ar9 (j := pp) (inb_of sz9 ⟨ipp.1, ipp.2⟩) (g := (mkF m 167 #[.val (.int p0), .val (.int p1), .val (.int p2), .val (.int p3), .val (.int p4), .val (.int p5), .val (.int cn), .val (.int mm), .val (.int v20), .val (.int ofs), .val (.int v40), .val (.int v55), .val (.int bs), .val (.int bq), .val (.int tb), .val (.int pp), .val (.int qq), .val (.double (FP.i2d p4)), .second, .val (.double (FP.i2d p5)), .second, .val (.ref b4), .val (.ref b5), .val (.ref b6), .unset] [(.double (4602678819172646912 : UInt64)), (.int pp), (.ref b6)])) rfl rfl (hb hby at_167)
  have G_b6 : own_Arf Z h9 b6 .double (64 : Int32) (fun i => .double ((own_upd (fun _ => 0 : Nat → UInt64) pp (4602678819172646912 : UInt64)) i)) := own_Arf.setD G_b6 W9
  have N9 := Fr.snoc X9 N8 g_b6
  have G_b4 := G_b4.other W9 ne_b4_b6
  have G_b5 := G_b5.other W9 ne_b5_b6
  have ZH := Nat.le_trans ZH (Nat.le_of_eq W9.size.symm)
  have KK := KK.wr W9 (Or.inr sz_b6)
  refine own_up st9 ?_
  show own_Go p.tables e below _ (T9.setTop (mkF m 168 #[.val (.int p0), .val (.int p1), .val (.int p2), .val (.int p3), .val (.int p4), .val (.int p5), .val (.int cn), .val (.int mm), .val (.int v20), .val (.int ofs), .val (.int v40), .val (.int v55), .val (.int bs), .val (.int bq), .val (.int tb), .val (.int pp), .val (.int qq), .val (.double (FP.i2d p4)), .second, .val (.double (FP.i2d p5)), .second, .val (.ref b4), .val (.ref b5), .val (.ref b6), .unset] []))
  obtain ⟨T10, h10, X10, e10, E10, A10, D10, -, st10⟩ := newO X9 hx hZ hown (hw _ (List.mem_of_getElem? (i := 3) rfl)) (hw _ (List.mem_of_getElem? (i := 4) rfl)) (hw _ (List.mem_of_getElem? (i := 5) rfl)) e9 (g := (mkF m 168 #[.val (.int p0), .val (.int p1), .val (.int p2), .val (.int p3), .val (.int p4), .val (.int p5), .val (.int cn), .val (.int mm), .val (.int v20), .val (.int ofs), .val (.int v40), .val (.int v55), .val (.int bs), .val (.int bq), .val (.int tb), .val (.int pp), .val (.int qq), .val (.double (FP.i2d p4)), .second, .val (.double (FP.i2d p5)), .second, .val (.ref b4), .val (.ref b5), .val (.ref b6), .unset] [])) rfl (hb hby at_168) (by decide) (by decide)
  obtain ⟨b10, gz10⟩ : ∃ z, z = h9.size := ⟨_, rfl⟩
  rw [← gz10] at A10 D10 st10
  have ne_b4_b10 : b4 ≠ b10 := Nat.ne_of_lt (Nat.lt_of_lt_of_le G_b4.lt (Nat.le_of_eq gz10.symm))
  have ne_b5_b10 : b5 ≠ b10 := Nat.ne_of_lt (Nat.lt_of_lt_of_le G_b5.lt (Nat.le_of_eq gz10.symm))
  have ne_b6_b10 : b6 ≠ b10 := Nat.ne_of_lt (Nat.lt_of_lt_of_le G_b6.lt (Nat.le_of_eq gz10.symm))
  have g_b10 : n0 ≤ b10 := Nat.le_trans ZH (Nat.le_of_eq gz10.symm)
  have sz_b10 : h0.size ≤ b10 := Nat.le_trans KK.1 (Nat.le_of_eq gz10.symm)
  have G_b4 := G_b4.ext E10
  have G_b5 := G_b5.ext E10
  have G_b6 := G_b6.ext E10
  have ZH := Nat.le_trans ZH E10.1
  have KK := KK.ext E10
  have E_b10 := A10
  have F_alpha_b10 : Fld Z h10 b10 "com/example/indexica/indexica/Scaled" "alpha" "D" (.double (0 : UInt64)) := D10 (Or.inr (hw _ (List.mem_of_getElem? (i := 18) rfl))) (ty := .double) (by decide)
  refine own_up st10 ?_
  show own_Go p.tables e below _ (T10.setTop (mkF m 171 #[.val (.int p0), .val (.int p1), .val (.int p2), .val (.int p3), .val (.int p4), .val (.int p5), .val (.int cn), .val (.int mm), .val (.int v20), .val (.int ofs), .val (.int v40), .val (.int v55), .val (.int bs), .val (.int bq), .val (.int tb), .val (.int pp), .val (.int qq), .val (.double (FP.i2d p4)), .second, .val (.double (FP.i2d p5)), .second, .val (.ref b4), .val (.ref b5), .val (.ref b6), .unset] [(.ref b10)]))
  refine own_up (fun _ k => XS.dup X10.here hx rfl (hb hby at_171) rfl rfl k) ?_
  show own_Go p.tables e below _ (T10.setTop (mkF m 172 #[.val (.int p0), .val (.int p1), .val (.int p2), .val (.int p3), .val (.int p4), .val (.int p5), .val (.int cn), .val (.int mm), .val (.int v20), .val (.int ofs), .val (.int v40), .val (.int v55), .val (.int bs), .val (.int bq), .val (.int tb), .val (.int pp), .val (.int qq), .val (.double (FP.i2d p4)), .second, .val (.double (FP.i2d p5)), .second, .val (.ref b4), .val (.ref b5), .val (.ref b6), .unset] [(.ref b10), (.ref b10)]))
  refine own_up (fun _ k => XS.dload X10.here hx rfl (hb hby at_172) rfl k) ?_
  show own_Go p.tables e below _ (T10.setTop (mkF m 174 #[.val (.int p0), .val (.int p1), .val (.int p2), .val (.int p3), .val (.int p4), .val (.int p5), .val (.int cn), .val (.int mm), .val (.int v20), .val (.int ofs), .val (.int v40), .val (.int v55), .val (.int bs), .val (.int bq), .val (.int tb), .val (.int pp), .val (.int qq), .val (.double (FP.i2d p4)), .second, .val (.double (FP.i2d p5)), .second, .val (.ref b4), .val (.ref b5), .val (.ref b6), .unset] [(.double (FP.i2d p4)), (.ref b10), (.ref b10)]))
  obtain ⟨_, _, ⟨T11, L11, k11, n11⟩, -, X11, ⟨Lc11, hQ11, l11, y11, z11⟩, st11⟩ := X10.specialBack hx (y := (⟨"com/example/indexica/indexica/Scaled", "<init>", "(D)V"⟩ : MethodName)) rfl hown (mvT hZ (hw _ (List.mem_of_getElem? (i := 6) rfl))) (mvT hZ (hw _ (List.mem_of_getElem? (i := 7) rfl))) (mvT hZ (hw _ (List.mem_of_getElem? (i := 8) rfl))) (by decide) (backOf (W := 1) (rmC l Z a0 hw [] b10 (FP.i2d p4) h10 n0 ZH E_b10 F_alpha_b10 g_b10) hZ (hw _ (List.mem_of_getElem? (i := 8) rfl)) (hw _ (List.mem_of_getElem? (i := 5) rfl)) (by decide) (by decide)) (g := (mkF m 174 #[.val (.int p0), .val (.int p1), .val (.int p2), .val (.int p3), .val (.int p4), .val (.int p5), .val (.int cn), .val (.int mm), .val (.int v20), .val (.int ofs), .val (.int v40), .val (.int v55), .val (.int bs), .val (.int bq), .val (.int tb), .val (.int pp), .val (.int qq), .val (.double (FP.i2d p4)), .second, .val (.double (FP.i2d p5)), .second, .val (.ref b4), .val (.ref b5), .val (.ref b6), .unset] [(.double (FP.i2d p4)), (.ref b10), (.ref b10)])) rfl (by rw [hml]; rfl) (Steps.refl _) (a := b10) (argsL := [(.double (FP.i2d p4))]) (rest := [(.ref b10)]) (lenOf pd_1 rfl) rfl (by show 2 * 0 + _ ≤ _; exact Nat.le_of_eq rfl) (hb hby at_174) (fun _ _ => ⟨rfl, e10, (by decide : 4 + 0 ≤ _), (by decide : 257 + 0 ≤ _)⟩)
  dsimp only [Pt.U, Pt.locs, Pt.cells, Pt.slots] at X11 l11 y11 z11 st11 hQ11
  subst l11 y11 z11
  obtain ⟨rfl, Nq11, K11, F_alpha_b10'⟩ := hQ11
  have N11 := Fr.app N9 Nq11
  have G_b4 := G_b4.keep K11 (ninS ne_b4_b10 nin0)
  have G_b5 := G_b5.keep K11 (ninS ne_b5_b10 nin0)
  have G_b6 := G_b6.keep K11 (ninS ne_b6_b10 nin0)
  have E_b10 := E_b10.keep K11
  have ZH := Nat.le_trans ZH K11.1
  have KK := KK.trans K11 (allS (Or.inr sz_b10) all0)
  have F_alpha_b10 := F_alpha_b10'
  refine own_up (fun _ k => st11.trans k) ?_
  show own_Go p.tables e below _ (T11.setTop (mkF m 177 #[.val (.int p0), .val (.int p1), .val (.int p2), .val (.int p3), .val (.int p4), .val (.int p5), .val (.int cn), .val (.int mm), .val (.int v20), .val (.int ofs), .val (.int v40), .val (.int v55), .val (.int bs), .val (.int bq), .val (.int tb), .val (.int pp), .val (.int qq), .val (.double (FP.i2d p4)), .second, .val (.double (FP.i2d p5)), .second, .val (.ref b4), .val (.ref b5), .val (.ref b6), .unset] [(.ref b10)]))
  refine own_up (fun _ k => XS.astore X11.here hx rfl (hb hby at_177) rfl rfl (l' := #[.val (.int p0), .val (.int p1), .val (.int p2), .val (.int p3), .val (.int p4), .val (.int p5), .val (.int cn), .val (.int mm), .val (.int v20), .val (.int ofs), .val (.int v40), .val (.int v55), .val (.int bs), .val (.int bq), .val (.int tb), .val (.int pp), .val (.int qq), .val (.double (FP.i2d p4)), .second, .val (.double (FP.i2d p5)), .second, .val (.ref b4), .val (.ref b5), .val (.ref b6), .val (.ref b10)]) rfl k) ?_
  show own_Go p.tables e below _ (T11.setTop (mkF m 179 #[.val (.int p0), .val (.int p1), .val (.int p2), .val (.int p3), .val (.int p4), .val (.int p5), .val (.int cn), .val (.int mm), .val (.int v20), .val (.int ofs), .val (.int v40), .val (.int v55), .val (.int bs), .val (.int bq), .val (.int tb), .val (.int pp), .val (.int qq), .val (.double (FP.i2d p4)), .second, .val (.double (FP.i2d p5)), .second, .val (.ref b4), .val (.ref b5), .val (.ref b6), .val (.ref b10)] []))
  refine own_up (fun _ k => XS.aload X11.here hx rfl (hb hby at_179) rfl rfl k) ?_
  show own_Go p.tables e below _ (T11.setTop (mkF m 181 #[.val (.int p0), .val (.int p1), .val (.int p2), .val (.int p3), .val (.int p4), .val (.int p5), .val (.int cn), .val (.int mm), .val (.int v20), .val (.int ofs), .val (.int v40), .val (.int v55), .val (.int bs), .val (.int bq), .val (.int tb), .val (.int pp), .val (.int qq), .val (.double (FP.i2d p4)), .second, .val (.double (FP.i2d p5)), .second, .val (.ref b4), .val (.ref b5), .val (.ref b6), .val (.ref b10)] [(.ref b10)]))
  refine own_up (fun _ k => XS.aload X11.here hx rfl (hb hby at_181) rfl rfl k) ?_
  show own_Go p.tables e below _ (T11.setTop (mkF m 183 #[.val (.int p0), .val (.int p1), .val (.int p2), .val (.int p3), .val (.int p4), .val (.int p5), .val (.int cn), .val (.int mm), .val (.int v20), .val (.int ofs), .val (.int v40), .val (.int v55), .val (.int bs), .val (.int bq), .val (.int tb), .val (.int pp), .val (.int qq), .val (.double (FP.i2d p4)), .second, .val (.double (FP.i2d p5)), .second, .val (.ref b4), .val (.ref b5), .val (.ref b6), .val (.ref b10)] [(.ref b4), (.ref b10)]))
  refine own_up (fun _ k => XS.aload X11.here hx rfl (hb hby at_183) rfl rfl k) ?_
  show own_Go p.tables e below _ (T11.setTop (mkF m 185 #[.val (.int p0), .val (.int p1), .val (.int p2), .val (.int p3), .val (.int p4), .val (.int p5), .val (.int cn), .val (.int mm), .val (.int v20), .val (.int ofs), .val (.int v40), .val (.int v55), .val (.int bs), .val (.int bq), .val (.int tb), .val (.int pp), .val (.int qq), .val (.double (FP.i2d p4)), .second, .val (.double (FP.i2d p5)), .second, .val (.ref b4), .val (.ref b5), .val (.ref b6), .val (.ref b10)] [(.ref b5), (.ref b4), (.ref b10)]))
  refine own_up (fun _ k => XS.aload X11.here hx rfl (hb hby at_185) rfl rfl k) ?_
  show own_Go p.tables e below _ (T11.setTop (mkF m 187 #[.val (.int p0), .val (.int p1), .val (.int p2), .val (.int p3), .val (.int p4), .val (.int p5), .val (.int cn), .val (.int mm), .val (.int v20), .val (.int ofs), .val (.int v40), .val (.int v55), .val (.int bs), .val (.int bq), .val (.int tb), .val (.int pp), .val (.int qq), .val (.double (FP.i2d p4)), .second, .val (.double (FP.i2d p5)), .second, .val (.ref b4), .val (.ref b5), .val (.ref b6), .val (.ref b10)] [(.ref b6), (.ref b5), (.ref b4), (.ref b10)]))
  refine own_up (fun _ k => XS.iload X11.here hx rfl (hb hby at_187) rfl k) ?_
  show own_Go p.tables e below _ (T11.setTop (mkF m 189 #[.val (.int p0), .val (.int p1), .val (.int p2), .val (.int p3), .val (.int p4), .val (.int p5), .val (.int cn), .val (.int mm), .val (.int v20), .val (.int ofs), .val (.int v40), .val (.int v55), .val (.int bs), .val (.int bq), .val (.int tb), .val (.int pp), .val (.int qq), .val (.double (FP.i2d p4)), .second, .val (.double (FP.i2d p5)), .second, .val (.ref b4), .val (.ref b5), .val (.ref b6), .val (.ref b10)] [(.int v55), (.ref b6), (.ref b5), (.ref b4), (.ref b10)]))
  refine own_up (fun _ k => XS.iload X11.here hx rfl (hb hby at_189) rfl k) ?_
  show own_Go p.tables e below _ (T11.setTop (mkF m 191 #[.val (.int p0), .val (.int p1), .val (.int p2), .val (.int p3), .val (.int p4), .val (.int p5), .val (.int cn), .val (.int mm), .val (.int v20), .val (.int ofs), .val (.int v40), .val (.int v55), .val (.int bs), .val (.int bq), .val (.int tb), .val (.int pp), .val (.int qq), .val (.double (FP.i2d p4)), .second, .val (.double (FP.i2d p5)), .second, .val (.ref b4), .val (.ref b5), .val (.ref b6), .val (.ref b10)] [(.int v40), (.int v55), (.ref b6), (.ref b5), (.ref b4), (.ref b10)]))
  refine own_up (fun _ k => XS.iload X11.here hx rfl (hb hby at_191) rfl k) ?_
  show own_Go p.tables e below _ (T11.setTop (mkF m 193 #[.val (.int p0), .val (.int p1), .val (.int p2), .val (.int p3), .val (.int p4), .val (.int p5), .val (.int cn), .val (.int mm), .val (.int v20), .val (.int ofs), .val (.int v40), .val (.int v55), .val (.int bs), .val (.int bq), .val (.int tb), .val (.int pp), .val (.int qq), .val (.double (FP.i2d p4)), .second, .val (.double (FP.i2d p5)), .second, .val (.ref b4), .val (.ref b5), .val (.ref b6), .val (.ref b10)] [(.int tb), (.int v40), (.int v55), (.ref b6), (.ref b5), (.ref b4), (.ref b10)]))
  refine own_up (fun _ k => XS.iload X11.here hx rfl (hb hby at_193) rfl k) ?_
  show own_Go p.tables e below _ (T11.setTop (mkF m 195 #[.val (.int p0), .val (.int p1), .val (.int p2), .val (.int p3), .val (.int p4), .val (.int p5), .val (.int cn), .val (.int mm), .val (.int v20), .val (.int ofs), .val (.int v40), .val (.int v55), .val (.int bs), .val (.int bq), .val (.int tb), .val (.int pp), .val (.int qq), .val (.double (FP.i2d p4)), .second, .val (.double (FP.i2d p5)), .second, .val (.ref b4), .val (.ref b5), .val (.ref b6), .val (.ref b10)] [(.int bs), (.int tb), (.int v40), (.int v55), (.ref b6), (.ref b5), (.ref b4), (.ref b10)]))
  refine own_up (fun _ k => XS.iload X11.here hx rfl (hb hby at_195) rfl k) ?_
  show own_Go p.tables e below _ (T11.setTop (mkF m 197 #[.val (.int p0), .val (.int p1), .val (.int p2), .val (.int p3), .val (.int p4), .val (.int p5), .val (.int cn), .val (.int mm), .val (.int v20), .val (.int ofs), .val (.int v40), .val (.int v55), .val (.int bs), .val (.int bq), .val (.int tb), .val (.int pp), .val (.int qq), .val (.double (FP.i2d p4)), .second, .val (.double (FP.i2d p5)), .second, .val (.ref b4), .val (.ref b5), .val (.ref b6), .val (.ref b10)] [(.int bq), (.int bs), (.int tb), (.int v40), (.int v55), (.ref b6), (.ref b5), (.ref b4), (.ref b10)]))
  refine own_up (fun _ k => XS.iload X11.here hx rfl (hb hby at_197) rfl k) ?_
  show own_Go p.tables e below _ (T11.setTop (mkF m 199 #[.val (.int p0), .val (.int p1), .val (.int p2), .val (.int p3), .val (.int p4), .val (.int p5), .val (.int cn), .val (.int mm), .val (.int v20), .val (.int ofs), .val (.int v40), .val (.int v55), .val (.int bs), .val (.int bq), .val (.int tb), .val (.int pp), .val (.int qq), .val (.double (FP.i2d p4)), .second, .val (.double (FP.i2d p5)), .second, .val (.ref b4), .val (.ref b5), .val (.ref b6), .val (.ref b10)] [(.int cn), (.int bq), (.int bs), (.int tb), (.int v40), (.int v55), (.ref b6), (.ref b5), (.ref b4), (.ref b10)]))
  rcases own_n4 hcn with rfl | rfl | rfl | rfl
  · show own_Go p.tables e below _ (T11.setTop (mkF m 199 #[.val (.int p0), .val (.int p1), .val (.int p2), .val (.int p3), .val (.int p4), .val (.int p5), .val (.int (0 : Int32)), .val (.int mm), .val (.int v20), .val (.int ofs), .val (.int v40), .val (.int v55), .val (.int bs), .val (.int bq), .val (.int tb), .val (.int pp), .val (.int qq), .val (.double (FP.i2d p4)), .second, .val (.double (FP.i2d p5)), .second, .val (.ref b4), .val (.ref b5), .val (.ref b6), .val (.ref b10)] [(.int (0 : Int32)), (.int bq), (.int bs), (.int tb), (.int v40), (.int v55), (.ref b6), (.ref b5), (.ref b4), (.ref b10)]))
    obtain ⟨cq12, kq12, q12a, q12b, q12c⟩ := isOf hZ rfl E_b10
    obtain ⟨_, _, ⟨T12, L12, k12, n12⟩, -, X12, ⟨Lc12, hQ12, l12, y12, z12⟩, st12⟩ := X11.virtualBack hx (y := (⟨"com/example/indexica/indexica/Scaled", "eightRows", "([D[D[DIIIIII)V"⟩ : MethodName)) (z := (⟨"com/example/indexica/indexica/Scaled", "eightRows", "([D[D[DIIIIII)V"⟩ : MethodName)) hown (mvT hZ (hw _ (List.mem_of_getElem? (i := 19) rfl))) (mvT hZ (hw _ (List.mem_of_getElem? (i := 20) rfl))) (notFace_of_selects (args := #[]) (mvT hZ (hw _ (List.mem_of_getElem? (i := 22) rfl)))) (mvT hZ (hw _ (List.mem_of_getElem? (i := 22) rfl))) (mvT hZ (hw _ (List.mem_of_getElem? (i := 21) rfl))) (by decide) (backOf (W := 0) (rmE0 l Z a0 hw [] b10 b4 b5 b6 v55 v40 tb bs bq (FP.i2d p4) (own_ub0 qq (FP.i2d p5)) (own_ur0 pp) T11.heap n0 ZH F_alpha_b10 G_b5 G_b6 g_b6 ne_b5_b6 (i2d_fin p4) (own_ubfin qq p5) ) hZ (hw _ (List.mem_of_getElem? (i := 23) rfl)) (hw _ (List.mem_of_getElem? (i := 5) rfl)) (by decide) (by decide)) q12a q12c (g := (mkF m 199 #[.val (.int p0), .val (.int p1), .val (.int p2), .val (.int p3), .val (.int p4), .val (.int p5), .val (.int (0 : Int32)), .val (.int mm), .val (.int v20), .val (.int ofs), .val (.int v40), .val (.int v55), .val (.int bs), .val (.int bq), .val (.int tb), .val (.int pp), .val (.int qq), .val (.double (FP.i2d p4)), .second, .val (.double (FP.i2d p5)), .second, .val (.ref b4), .val (.ref b5), .val (.ref b6), .val (.ref b10)] [(.int (0 : Int32)), (.int bq), (.int bs), (.int tb), (.int v40), (.int v55), (.ref b6), (.ref b5), (.ref b4), (.ref b10)])) rfl (by rw [hml]; rfl) (Steps.refl _) (argsL := [(.ref b4), (.ref b5), (.ref b6), (.int v55), (.int v40), (.int tb), (.int bs), (.int bq), (.int (0 : Int32))]) (rest := []) (lenOf pd_2 rfl) rfl (by show 2 * 0 + _ ≤ _; exact Nat.le_of_eq rfl) (hb hby at_199) (fun _ _ => ⟨rfl, rfl, (by decide : 4 + 0 ≤ _), (by decide : 257 + 0 ≤ _)⟩)
    dsimp only [Pt.U, Pt.locs, Pt.cells, Pt.slots] at X12 l12 y12 z12 st12 hQ12
    subst l12 y12 z12
    obtain ⟨rfl, Nq12, K12, Gq12⟩ := hQ12
    have N12 := Fr.app N11 Nq12
    have G_b4 := G_b4.keep K12 (ninS ne_b4_b6 nin0)
    have G_b5 := G_b5.keep K12 (ninS ne_b5_b6 nin0)
    have E_b10 := E_b10.keep K12
    have F_alpha_b10 := F_alpha_b10.keep K12 (ninS (Ne.symm ne_b6_b10) nin0)
    have ZH := Nat.le_trans ZH K12.1
    have KK := KK.trans K12 (allS (Or.inr sz_b6) all0)
    have G_b6 := Gq12
    refine own_up (fun _ k => st12.trans k) ?_
    show own_Go p.tables e below _ (T12.setTop (mkF m 202 #[.val (.int p0), .val (.int p1), .val (.int p2), .val (.int p3), .val (.int p4), .val (.int p5), .val (.int (0 : Int32)), .val (.int mm), .val (.int v20), .val (.int ofs), .val (.int v40), .val (.int v55), .val (.int bs), .val (.int bq), .val (.int tb), .val (.int pp), .val (.int qq), .val (.double (FP.i2d p4)), .second, .val (.double (FP.i2d p5)), .second, .val (.ref b4), .val (.ref b5), .val (.ref b6), .val (.ref b10)] []))
    refine own_up (fun _ k => XS.aload X12.here hx rfl (hb hby at_202) rfl rfl k) ?_
    show own_Go p.tables e below _ (T12.setTop (mkF m 204 #[.val (.int p0), .val (.int p1), .val (.int p2), .val (.int p3), .val (.int p4), .val (.int p5), .val (.int (0 : Int32)), .val (.int mm), .val (.int v20), .val (.int ofs), .val (.int v40), .val (.int v55), .val (.int bs), .val (.int bq), .val (.int tb), .val (.int pp), .val (.int qq), .val (.double (FP.i2d p4)), .second, .val (.double (FP.i2d p5)), .second, .val (.ref b4), .val (.ref b5), .val (.ref b6), .val (.ref b10)] [(.ref b6)]))
    refine own_up (fun _ k => XS.iload X12.here hx rfl (hb hby at_204) rfl k) ?_
    show own_Go p.tables e below _ (T12.setTop (mkF m 206 #[.val (.int p0), .val (.int p1), .val (.int p2), .val (.int p3), .val (.int p4), .val (.int p5), .val (.int (0 : Int32)), .val (.int mm), .val (.int v20), .val (.int ofs), .val (.int v40), .val (.int v55), .val (.int bs), .val (.int bq), .val (.int tb), .val (.int pp), .val (.int qq), .val (.double (FP.i2d p4)), .second, .val (.double (FP.i2d p5)), .second, .val (.ref b4), .val (.ref b5), .val (.ref b6), .val (.ref b10)] [(.int pp), (.ref b6)]))
    refine own_up (fun _ k => own_Arf.daload G_b6 X12 hx hZ rfl ipp.1 ipp.2 (v := (.double ((own_ur0 pp) (pp).toNatClampNeg))) rfl (g := (mkF m 206 #[.val (.int p0), .val (.int p1), .val (.int p2), .val (.int p3), .val (.int p4), .val (.int p5), .val (.int (0 : Int32)), .val (.int mm), .val (.int v20), .val (.int ofs), .val (.int v40), .val (.int v55), .val (.int bs), .val (.int bq), .val (.int tb), .val (.int pp), .val (.int qq), .val (.double (FP.i2d p4)), .second, .val (.double (FP.i2d p5)), .second, .val (.ref b4), .val (.ref b5), .val (.ref b6), .val (.ref b10)] [(.int pp), (.ref b6)])) rfl rfl (hb hby at_206) _ k) ?_
    show own_Go p.tables e below _ (T12.setTop (mkF m 207 #[.val (.int p0), .val (.int p1), .val (.int p2), .val (.int p3), .val (.int p4), .val (.int p5), .val (.int (0 : Int32)), .val (.int mm), .val (.int v20), .val (.int ofs), .val (.int v40), .val (.int v55), .val (.int bs), .val (.int bq), .val (.int tb), .val (.int pp), .val (.int qq), .val (.double (FP.i2d p4)), .second, .val (.double (FP.i2d p5)), .second, .val (.ref b4), .val (.ref b5), .val (.ref b6), .val (.ref b10)] [(.double ((own_ur0 pp) (pp).toNatClampNeg))]))
    refine own_up (fun _ k => XS.iload X12.here hx rfl (hb hby at_207) rfl k) ?_
    show own_Go p.tables e below _ (T12.setTop (mkF m 209 #[.val (.int p0), .val (.int p1), .val (.int p2), .val (.int p3), .val (.int p4), .val (.int p5), .val (.int (0 : Int32)), .val (.int mm), .val (.int v20), .val (.int ofs), .val (.int v40), .val (.int v55), .val (.int bs), .val (.int bq), .val (.int tb), .val (.int pp), .val (.int qq), .val (.double (FP.i2d p4)), .second, .val (.double (FP.i2d p5)), .second, .val (.ref b4), .val (.ref b5), .val (.ref b6), .val (.ref b10)] [(.int (0 : Int32)), (.double ((own_ur0 pp) (pp).toNatClampNeg))]))
    refine own_up (fun _ k => XS.iload X12.here hx rfl (hb hby at_209) rfl k) ?_
    show own_Go p.tables e below _ (T12.setTop (mkF m 211 #[.val (.int p0), .val (.int p1), .val (.int p2), .val (.int p3), .val (.int p4), .val (.int p5), .val (.int (0 : Int32)), .val (.int mm), .val (.int v20), .val (.int ofs), .val (.int v40), .val (.int v55), .val (.int bs), .val (.int bq), .val (.int tb), .val (.int pp), .val (.int qq), .val (.double (FP.i2d p4)), .second, .val (.double (FP.i2d p5)), .second, .val (.ref b4), .val (.ref b5), .val (.ref b6), .val (.ref b10)] [(.int mm), (.int (0 : Int32)), (.double ((own_ur0 pp) (pp).toNatClampNeg))]))
    refine own_up (fun _ k => XS.iload X12.here hx rfl (hb hby at_211) rfl k) ?_
    show own_Go p.tables e below _ (T12.setTop (mkF m 213 #[.val (.int p0), .val (.int p1), .val (.int p2), .val (.int p3), .val (.int p4), .val (.int p5), .val (.int (0 : Int32)), .val (.int mm), .val (.int v20), .val (.int ofs), .val (.int v40), .val (.int v55), .val (.int bs), .val (.int bq), .val (.int tb), .val (.int pp), .val (.int qq), .val (.double (FP.i2d p4)), .second, .val (.double (FP.i2d p5)), .second, .val (.ref b4), .val (.ref b5), .val (.ref b6), .val (.ref b10)] [(.int v20), (.int mm), (.int (0 : Int32)), (.double ((own_ur0 pp) (pp).toNatClampNeg))]))
    refine own_up (fun _ k => XS.iload X12.here hx rfl (hb hby at_213) rfl k) ?_
    show own_Go p.tables e below _ (T12.setTop (mkF m 215 #[.val (.int p0), .val (.int p1), .val (.int p2), .val (.int p3), .val (.int p4), .val (.int p5), .val (.int (0 : Int32)), .val (.int mm), .val (.int v20), .val (.int ofs), .val (.int v40), .val (.int v55), .val (.int bs), .val (.int bq), .val (.int tb), .val (.int pp), .val (.int qq), .val (.double (FP.i2d p4)), .second, .val (.double (FP.i2d p5)), .second, .val (.ref b4), .val (.ref b5), .val (.ref b6), .val (.ref b10)] [(.int v55), (.int v20), (.int mm), (.int (0 : Int32)), (.double ((own_ur0 pp) (pp).toNatClampNeg))]))
    refine own_up (fun _ k => XS.iload X12.here hx rfl (hb hby at_215) rfl k) ?_
    show own_Go p.tables e below _ (T12.setTop (mkF m 217 #[.val (.int p0), .val (.int p1), .val (.int p2), .val (.int p3), .val (.int p4), .val (.int p5), .val (.int (0 : Int32)), .val (.int mm), .val (.int v20), .val (.int ofs), .val (.int v40), .val (.int v55), .val (.int bs), .val (.int bq), .val (.int tb), .val (.int pp), .val (.int qq), .val (.double (FP.i2d p4)), .second, .val (.double (FP.i2d p5)), .second, .val (.ref b4), .val (.ref b5), .val (.ref b6), .val (.ref b10)] [(.int tb), (.int v55), (.int v20), (.int mm), (.int (0 : Int32)), (.double ((own_ur0 pp) (pp).toNatClampNeg))]))
    refine own_up (fun _ k => XS.iload X12.here hx rfl (hb hby at_217) rfl k) ?_
    show own_Go p.tables e below _ (T12.setTop (mkF m 219 #[.val (.int p0), .val (.int p1), .val (.int p2), .val (.int p3), .val (.int p4), .val (.int p5), .val (.int (0 : Int32)), .val (.int mm), .val (.int v20), .val (.int ofs), .val (.int v40), .val (.int v55), .val (.int bs), .val (.int bq), .val (.int tb), .val (.int pp), .val (.int qq), .val (.double (FP.i2d p4)), .second, .val (.double (FP.i2d p5)), .second, .val (.ref b4), .val (.ref b5), .val (.ref b6), .val (.ref b10)] [(.int bs), (.int tb), (.int v55), (.int v20), (.int mm), (.int (0 : Int32)), (.double ((own_ur0 pp) (pp).toNatClampNeg))]))
    refine own_up (fun _ k => XS.iload X12.here hx rfl (hb hby at_219) rfl k) ?_
    show own_Go p.tables e below _ (T12.setTop (mkF m 221 #[.val (.int p0), .val (.int p1), .val (.int p2), .val (.int p3), .val (.int p4), .val (.int p5), .val (.int (0 : Int32)), .val (.int mm), .val (.int v20), .val (.int ofs), .val (.int v40), .val (.int v55), .val (.int bs), .val (.int bq), .val (.int tb), .val (.int pp), .val (.int qq), .val (.double (FP.i2d p4)), .second, .val (.double (FP.i2d p5)), .second, .val (.ref b4), .val (.ref b5), .val (.ref b6), .val (.ref b10)] [(.int bq), (.int bs), (.int tb), (.int v55), (.int v20), (.int mm), (.int (0 : Int32)), (.double ((own_ur0 pp) (pp).toNatClampNeg))]))
    refine own_up (fun _ k => XS.iload X12.here hx rfl (hb hby at_221) rfl k) ?_
    show own_Go p.tables e below _ (T12.setTop (mkF m 223 #[.val (.int p0), .val (.int p1), .val (.int p2), .val (.int p3), .val (.int p4), .val (.int p5), .val (.int (0 : Int32)), .val (.int mm), .val (.int v20), .val (.int ofs), .val (.int v40), .val (.int v55), .val (.int bs), .val (.int bq), .val (.int tb), .val (.int pp), .val (.int qq), .val (.double (FP.i2d p4)), .second, .val (.double (FP.i2d p5)), .second, .val (.ref b4), .val (.ref b5), .val (.ref b6), .val (.ref b10)] [(.int pp), (.int bq), (.int bs), (.int tb), (.int v55), (.int v20), (.int mm), (.int (0 : Int32)), (.double ((own_ur0 pp) (pp).toNatClampNeg))]))
    refine own_up (fun _ k => XS.iload X12.here hx rfl (hb hby at_223) rfl k) ?_
    show own_Go p.tables e below _ (T12.setTop (mkF m 225 #[.val (.int p0), .val (.int p1), .val (.int p2), .val (.int p3), .val (.int p4), .val (.int p5), .val (.int (0 : Int32)), .val (.int mm), .val (.int v20), .val (.int ofs), .val (.int v40), .val (.int v55), .val (.int bs), .val (.int bq), .val (.int tb), .val (.int pp), .val (.int qq), .val (.double (FP.i2d p4)), .second, .val (.double (FP.i2d p5)), .second, .val (.ref b4), .val (.ref b5), .val (.ref b6), .val (.ref b10)] [(.int qq), (.int pp), (.int bq), (.int bs), (.int tb), (.int v55), (.int v20), (.int mm), (.int (0 : Int32)), (.double ((own_ur0 pp) (pp).toNatClampNeg))]))
    refine own_up (fun _ k => XS.dload X12.here hx rfl (hb hby at_225) rfl k) ?_
    show own_Go p.tables e below _ (T12.setTop (mkF m 227 #[.val (.int p0), .val (.int p1), .val (.int p2), .val (.int p3), .val (.int p4), .val (.int p5), .val (.int (0 : Int32)), .val (.int mm), .val (.int v20), .val (.int ofs), .val (.int v40), .val (.int v55), .val (.int bs), .val (.int bq), .val (.int tb), .val (.int pp), .val (.int qq), .val (.double (FP.i2d p4)), .second, .val (.double (FP.i2d p5)), .second, .val (.ref b4), .val (.ref b5), .val (.ref b6), .val (.ref b10)] [(.double (FP.i2d p4)), (.int qq), (.int pp), (.int bq), (.int bs), (.int tb), (.int v55), (.int v20), (.int mm), (.int (0 : Int32)), (.double ((own_ur0 pp) (pp).toNatClampNeg))]))
    refine own_up (fun _ k => XS.dload X12.here hx rfl (hb hby at_227) rfl k) ?_
    show own_Go p.tables e below _ (T12.setTop (mkF m 229 #[.val (.int p0), .val (.int p1), .val (.int p2), .val (.int p3), .val (.int p4), .val (.int p5), .val (.int (0 : Int32)), .val (.int mm), .val (.int v20), .val (.int ofs), .val (.int v40), .val (.int v55), .val (.int bs), .val (.int bq), .val (.int tb), .val (.int pp), .val (.int qq), .val (.double (FP.i2d p4)), .second, .val (.double (FP.i2d p5)), .second, .val (.ref b4), .val (.ref b5), .val (.ref b6), .val (.ref b10)] [(.double (FP.i2d p5)), (.double (FP.i2d p4)), (.int qq), (.int pp), (.int bq), (.int bs), (.int tb), (.int v55), (.int v20), (.int mm), (.int (0 : Int32)), (.double ((own_ur0 pp) (pp).toNatClampNeg))]))
    obtain ⟨_, _, ⟨T13, L13, k13, n13⟩, -, X13, ⟨Lc13, hQ13, l13, y13, z13⟩, st13⟩ := Jvm.LawKit.callS X12 hx (y := (⟨"com/example/indexica/indexica/ScaledEightRowsPinLaw", "expected", "(IIZIIIIIIDD)D"⟩ : MethodName)) hown (mvT hZ (hw _ (List.mem_of_getElem? (i := 24) rfl))) (mvT hZ (hw _ (List.mem_of_getElem? (i := 25) rfl))) (mvT hZ (hw _ (List.mem_of_getElem? (i := 26) rfl))) (mvT hZ (hw _ (List.mem_of_getElem? (i := 27) rfl))) (by decide) (backOf (W := 2) (rmX l Z a0 hw [] (0 : Int32) mm v20 v55 tb bs bq pp qq (FP.i2d p4) (FP.i2d p5) T12.heap n0 ZH (own_mne HB) (i2d_fin p4) (i2d_fin p5)) hZ (hw _ (List.mem_of_getElem? (i := 27) rfl)) (hw _ (List.mem_of_getElem? (i := 26) rfl)) (by decide) (by decide)) (g := (mkF m 229 #[.val (.int p0), .val (.int p1), .val (.int p2), .val (.int p3), .val (.int p4), .val (.int p5), .val (.int (0 : Int32)), .val (.int mm), .val (.int v20), .val (.int ofs), .val (.int v40), .val (.int v55), .val (.int bs), .val (.int bq), .val (.int tb), .val (.int pp), .val (.int qq), .val (.double (FP.i2d p4)), .second, .val (.double (FP.i2d p5)), .second, .val (.ref b4), .val (.ref b5), .val (.ref b6), .val (.ref b10)] [(.double (FP.i2d p5)), (.double (FP.i2d p4)), (.int qq), (.int pp), (.int bq), (.int bs), (.int tb), (.int v55), (.int v20), (.int mm), (.int (0 : Int32)), (.double ((own_ur0 pp) (pp).toNatClampNeg))])) rfl (by rw [hml]; rfl) (argsL := [(.int (0 : Int32)), (.int mm), (.int v20), (.int v55), (.int tb), (.int bs), (.int bq), (.int pp), (.int qq), (.double (FP.i2d p4)), (.double (FP.i2d p5))]) (rest := [(.double ((own_ur0 pp) (pp).toNatClampNeg))]) (lenOf pd_3 rfl) rfl (by show 2 * 0 + _ ≤ _; exact Nat.le_of_eq rfl) (hb hby at_229) (fun _ _ => ⟨rfl, rfl, (by decide : 4 + 0 ≤ _), (by decide : 257 + 0 ≤ _)⟩)
    dsimp only [Pt.U, Pt.locs, Pt.cells, Pt.slots] at X13 l13 y13 z13 st13 hQ13
    subst l13 y13 z13
    obtain ⟨rfl, Nq13, e13⟩ := hQ13
    have N13 := Fr.app N12 Nq13
    refine own_up st13 ?_
    show own_Go p.tables e below _ (T13.setTop (mkF m 232 #[.val (.int p0), .val (.int p1), .val (.int p2), .val (.int p3), .val (.int p4), .val (.int p5), .val (.int (0 : Int32)), .val (.int mm), .val (.int v20), .val (.int ofs), .val (.int v40), .val (.int v55), .val (.int bs), .val (.int bq), .val (.int tb), .val (.int pp), .val (.int qq), .val (.double (FP.i2d p4)), .second, .val (.double (FP.i2d p5)), .second, .val (.ref b4), .val (.ref b5), .val (.ref b6), .val (.ref b10)] [(.double (own_exp (0 : Int32) mm v20 v55 tb bs bq pp qq (FP.i2d p4) (FP.i2d p5))), (.double ((own_ur0 pp) (pp).toNatClampNeg))]))
    refine own_up (fun _ k => XS.dcmpS X13.here hx rfl (v := (cmpValue (FP.dcmp ((own_ur0 pp) (pp).toNatClampNeg) (own_exp (0 : Int32) mm v20 v55 tb bs bq pp qq (FP.i2d p4) (FP.i2d p5))) .l)) (hb hby at_232) rfl rfl k) ?_
    show own_Go p.tables e below _ (T13.setTop (mkF m 233 #[.val (.int p0), .val (.int p1), .val (.int p2), .val (.int p3), .val (.int p4), .val (.int p5), .val (.int (0 : Int32)), .val (.int mm), .val (.int v20), .val (.int ofs), .val (.int v40), .val (.int v55), .val (.int bs), .val (.int bq), .val (.int tb), .val (.int pp), .val (.int qq), .val (.double (FP.i2d p4)), .second, .val (.double (FP.i2d p5)), .second, .val (.ref b4), .val (.ref b5), .val (.ref b6), .val (.ref b10)] [(.int (cmpValue (FP.dcmp ((own_ur0 pp) (pp).toNatClampNeg) (own_exp (0 : Int32) mm v20 v55 tb bs bq pp qq (FP.i2d p4) (FP.i2d p5))) .l))]))
    refine own_up (fun _ k => XS.ifNo X13.here hx rfl (hb hby at_233) rfl ((if0 _ _).trans (teq (dcmpV_eq (own_f0 (al := FP.i2d p4) (va := FP.i2d p5) HB) (by rw [own_f0 (al := FP.i2d p4) (va := FP.i2d p5) HB]; exact own_expnn _ _ _ _ _ _ _ _ _ _ _) .l)).2) k) ?_
    show own_Go p.tables e below _ (T13.setTop (mkF m 236 #[.val (.int p0), .val (.int p1), .val (.int p2), .val (.int p3), .val (.int p4), .val (.int p5), .val (.int (0 : Int32)), .val (.int mm), .val (.int v20), .val (.int ofs), .val (.int v40), .val (.int v55), .val (.int bs), .val (.int bq), .val (.int tb), .val (.int pp), .val (.int qq), .val (.double (FP.i2d p4)), .second, .val (.double (FP.i2d p5)), .second, .val (.ref b4), .val (.ref b5), .val (.ref b6), .val (.ref b10)] []))
    refine own_up (fun _ k => XS.iconst X13.here hx rfl (hb hby at_236) k) ?_
    show own_Go p.tables e below _ (T13.setTop (mkF m 237 #[.val (.int p0), .val (.int p1), .val (.int p2), .val (.int p3), .val (.int p4), .val (.int p5), .val (.int (0 : Int32)), .val (.int mm), .val (.int v20), .val (.int ofs), .val (.int v40), .val (.int v55), .val (.int bs), .val (.int bq), .val (.int tb), .val (.int pp), .val (.int qq), .val (.double (FP.i2d p4)), .second, .val (.double (FP.i2d p5)), .second, .val (.ref b4), .val (.ref b5), .val (.ref b6), .val (.ref b10)] [(.int (1 : Int32))]))
    refine own_up (fun _ k => XS.goto X13.here hx rfl (pc0 := 237) (pc' := 241) rfl (hb hby at_237) (by decide) (by decide) k) ?_
    show own_Go p.tables e below _ (T13.setTop (mkF m 241 #[.val (.int p0), .val (.int p1), .val (.int p2), .val (.int p3), .val (.int p4), .val (.int p5), .val (.int (0 : Int32)), .val (.int mm), .val (.int v20), .val (.int ofs), .val (.int v40), .val (.int v55), .val (.int bs), .val (.int bq), .val (.int tb), .val (.int pp), .val (.int qq), .val (.double (FP.i2d p4)), .second, .val (.double (FP.i2d p5)), .second, .val (.ref b4), .val (.ref b5), .val (.ref b6), .val (.ref b10)] [(.int (1 : Int32))]))
    obtain ⟨fs14, hr14, hrun14, hended14, hW14, hsame14⟩ := X13.leave (v := some (.int (1 : Int32))) (fun h => by rw [Bd.returns] at h; cases h)
    refine own_end ⟨_, _, ?_, hrun14, hended14, _, _, rfl, ?_, ⟨_, rfl⟩, hW14, hsame14.mono (by decide) (by decide)⟩
    · exact retN X13 hx (t := .boolean) Bd.returns (by simp) (hb hby at_241) hr14
    · show Qrm0 Z p0 p1 p2 p3 p4 p5 h0 n0 _ T13.heap _
      rw [e13]
      exact ⟨rfl, N13⟩
  · show own_Go p.tables e below _ (T11.setTop (mkF m 199 #[.val (.int p0), .val (.int p1), .val (.int p2), .val (.int p3), .val (.int p4), .val (.int p5), .val (.int (1 : Int32)), .val (.int mm), .val (.int v20), .val (.int ofs), .val (.int v40), .val (.int v55), .val (.int bs), .val (.int bq), .val (.int tb), .val (.int pp), .val (.int qq), .val (.double (FP.i2d p4)), .second, .val (.double (FP.i2d p5)), .second, .val (.ref b4), .val (.ref b5), .val (.ref b6), .val (.ref b10)] [(.int (1 : Int32)), (.int bq), (.int bs), (.int tb), (.int v40), (.int v55), (.ref b6), (.ref b5), (.ref b4), (.ref b10)]))
    obtain ⟨cq15, kq15, q15a, q15b, q15c⟩ := isOf hZ rfl E_b10
    obtain ⟨_, _, ⟨T15, L15, k15, n15⟩, -, X15, ⟨Lc15, hQ15, l15, y15, z15⟩, st15⟩ := X11.virtualBack hx (y := (⟨"com/example/indexica/indexica/Scaled", "eightRows", "([D[D[DIIIIII)V"⟩ : MethodName)) (z := (⟨"com/example/indexica/indexica/Scaled", "eightRows", "([D[D[DIIIIII)V"⟩ : MethodName)) hown (mvT hZ (hw _ (List.mem_of_getElem? (i := 19) rfl))) (mvT hZ (hw _ (List.mem_of_getElem? (i := 20) rfl))) (notFace_of_selects (args := #[]) (mvT hZ (hw _ (List.mem_of_getElem? (i := 22) rfl)))) (mvT hZ (hw _ (List.mem_of_getElem? (i := 22) rfl))) (mvT hZ (hw _ (List.mem_of_getElem? (i := 21) rfl))) (by decide) (backOf (W := 0) (rmE1 l Z a0 hw [] b10 b4 b5 b6 v55 v40 tb bs bq (FP.i2d p4) (own_ub0 qq (FP.i2d p5)) (own_ur0 pp) T11.heap n0 ZH F_alpha_b10 G_b5 G_b6 g_b6 ne_b5_b6 (i2d_fin p4) (own_ubfin qq p5) (own_i0 HB (0 : Int32) (by decide)) (own_i1 HB (0 : Int32) (by decide)) (own_i HB (0 : Int32) (2 : Int32) (by decide) (by decide)) (own_i HB (0 : Int32) (3 : Int32) (by decide) (by decide)) (own_i HB (0 : Int32) (4 : Int32) (by decide) (by decide)) (own_i HB (0 : Int32) (5 : Int32) (by decide) (by decide)) (own_i HB (0 : Int32) (6 : Int32) (by decide) (by decide)) (own_i HB (0 : Int32) (7 : Int32) (by decide) (by decide)) (own_j0 HB (0 : Int32) (by decide)) (own_j1 HB (0 : Int32) (by decide)) (own_j HB (0 : Int32) (2 : Int32) (by decide) (by decide)) (own_j HB (0 : Int32) (3 : Int32) (by decide) (by decide)) (own_j HB (0 : Int32) (4 : Int32) (by decide) (by decide)) (own_j HB (0 : Int32) (5 : Int32) (by decide) (by decide)) (own_j HB (0 : Int32) (6 : Int32) (by decide) (by decide)) (own_j HB (0 : Int32) (7 : Int32) (by decide) (by decide))) hZ (hw _ (List.mem_of_getElem? (i := 23) rfl)) (hw _ (List.mem_of_getElem? (i := 5) rfl)) (by decide) (by decide)) q15a q15c (g := (mkF m 199 #[.val (.int p0), .val (.int p1), .val (.int p2), .val (.int p3), .val (.int p4), .val (.int p5), .val (.int (1 : Int32)), .val (.int mm), .val (.int v20), .val (.int ofs), .val (.int v40), .val (.int v55), .val (.int bs), .val (.int bq), .val (.int tb), .val (.int pp), .val (.int qq), .val (.double (FP.i2d p4)), .second, .val (.double (FP.i2d p5)), .second, .val (.ref b4), .val (.ref b5), .val (.ref b6), .val (.ref b10)] [(.int (1 : Int32)), (.int bq), (.int bs), (.int tb), (.int v40), (.int v55), (.ref b6), (.ref b5), (.ref b4), (.ref b10)])) rfl (by rw [hml]; rfl) (Steps.refl _) (argsL := [(.ref b4), (.ref b5), (.ref b6), (.int v55), (.int v40), (.int tb), (.int bs), (.int bq), (.int (1 : Int32))]) (rest := []) (lenOf pd_2 rfl) rfl (by show 2 * 0 + _ ≤ _; exact Nat.le_of_eq rfl) (hb hby at_199) (fun _ _ => ⟨rfl, rfl, (by decide : 4 + 0 ≤ _), (by decide : 257 + 0 ≤ _)⟩)
    dsimp only [Pt.U, Pt.locs, Pt.cells, Pt.slots] at X15 l15 y15 z15 st15 hQ15
    subst l15 y15 z15
    obtain ⟨rfl, Nq15, K15, Gq15⟩ := hQ15
    have N15 := Fr.app N11 Nq15
    have G_b4 := G_b4.keep K15 (ninS ne_b4_b6 nin0)
    have G_b5 := G_b5.keep K15 (ninS ne_b5_b6 nin0)
    have E_b10 := E_b10.keep K15
    have F_alpha_b10 := F_alpha_b10.keep K15 (ninS (Ne.symm ne_b6_b10) nin0)
    have ZH := Nat.le_trans ZH K15.1
    have KK := KK.trans K15 (allS (Or.inr sz_b6) all0)
    have G_b6 := Gq15
    refine own_up (fun _ k => st15.trans k) ?_
    show own_Go p.tables e below _ (T15.setTop (mkF m 202 #[.val (.int p0), .val (.int p1), .val (.int p2), .val (.int p3), .val (.int p4), .val (.int p5), .val (.int (1 : Int32)), .val (.int mm), .val (.int v20), .val (.int ofs), .val (.int v40), .val (.int v55), .val (.int bs), .val (.int bq), .val (.int tb), .val (.int pp), .val (.int qq), .val (.double (FP.i2d p4)), .second, .val (.double (FP.i2d p5)), .second, .val (.ref b4), .val (.ref b5), .val (.ref b6), .val (.ref b10)] []))
    refine own_up (fun _ k => XS.aload X15.here hx rfl (hb hby at_202) rfl rfl k) ?_
    show own_Go p.tables e below _ (T15.setTop (mkF m 204 #[.val (.int p0), .val (.int p1), .val (.int p2), .val (.int p3), .val (.int p4), .val (.int p5), .val (.int (1 : Int32)), .val (.int mm), .val (.int v20), .val (.int ofs), .val (.int v40), .val (.int v55), .val (.int bs), .val (.int bq), .val (.int tb), .val (.int pp), .val (.int qq), .val (.double (FP.i2d p4)), .second, .val (.double (FP.i2d p5)), .second, .val (.ref b4), .val (.ref b5), .val (.ref b6), .val (.ref b10)] [(.ref b6)]))
    refine own_up (fun _ k => XS.iload X15.here hx rfl (hb hby at_204) rfl k) ?_
    show own_Go p.tables e below _ (T15.setTop (mkF m 206 #[.val (.int p0), .val (.int p1), .val (.int p2), .val (.int p3), .val (.int p4), .val (.int p5), .val (.int (1 : Int32)), .val (.int mm), .val (.int v20), .val (.int ofs), .val (.int v40), .val (.int v55), .val (.int bs), .val (.int bq), .val (.int tb), .val (.int pp), .val (.int qq), .val (.double (FP.i2d p4)), .second, .val (.double (FP.i2d p5)), .second, .val (.ref b4), .val (.ref b5), .val (.ref b6), .val (.ref b10)] [(.int pp), (.ref b6)]))
    refine own_up (fun _ k => own_Arf.daload G_b6 X15 hx hZ rfl ipp.1 ipp.2 (v := (.double ((own_T (own_ur0 pp) (FP.i2d p4) (own_ub0 qq (FP.i2d p5)) (v55 + (0 : Int32)) (tb + ((0 : Int32) * bs)) v40 bq) (pp).toNatClampNeg))) rfl (g := (mkF m 206 #[.val (.int p0), .val (.int p1), .val (.int p2), .val (.int p3), .val (.int p4), .val (.int p5), .val (.int (1 : Int32)), .val (.int mm), .val (.int v20), .val (.int ofs), .val (.int v40), .val (.int v55), .val (.int bs), .val (.int bq), .val (.int tb), .val (.int pp), .val (.int qq), .val (.double (FP.i2d p4)), .second, .val (.double (FP.i2d p5)), .second, .val (.ref b4), .val (.ref b5), .val (.ref b6), .val (.ref b10)] [(.int pp), (.ref b6)])) rfl rfl (hb hby at_206) _ k) ?_
    show own_Go p.tables e below _ (T15.setTop (mkF m 207 #[.val (.int p0), .val (.int p1), .val (.int p2), .val (.int p3), .val (.int p4), .val (.int p5), .val (.int (1 : Int32)), .val (.int mm), .val (.int v20), .val (.int ofs), .val (.int v40), .val (.int v55), .val (.int bs), .val (.int bq), .val (.int tb), .val (.int pp), .val (.int qq), .val (.double (FP.i2d p4)), .second, .val (.double (FP.i2d p5)), .second, .val (.ref b4), .val (.ref b5), .val (.ref b6), .val (.ref b10)] [(.double ((own_T (own_ur0 pp) (FP.i2d p4) (own_ub0 qq (FP.i2d p5)) (v55 + (0 : Int32)) (tb + ((0 : Int32) * bs)) v40 bq) (pp).toNatClampNeg))]))
    refine own_up (fun _ k => XS.iload X15.here hx rfl (hb hby at_207) rfl k) ?_
    show own_Go p.tables e below _ (T15.setTop (mkF m 209 #[.val (.int p0), .val (.int p1), .val (.int p2), .val (.int p3), .val (.int p4), .val (.int p5), .val (.int (1 : Int32)), .val (.int mm), .val (.int v20), .val (.int ofs), .val (.int v40), .val (.int v55), .val (.int bs), .val (.int bq), .val (.int tb), .val (.int pp), .val (.int qq), .val (.double (FP.i2d p4)), .second, .val (.double (FP.i2d p5)), .second, .val (.ref b4), .val (.ref b5), .val (.ref b6), .val (.ref b10)] [(.int (1 : Int32)), (.double ((own_T (own_ur0 pp) (FP.i2d p4) (own_ub0 qq (FP.i2d p5)) (v55 + (0 : Int32)) (tb + ((0 : Int32) * bs)) v40 bq) (pp).toNatClampNeg))]))
    refine own_up (fun _ k => XS.iload X15.here hx rfl (hb hby at_209) rfl k) ?_
    show own_Go p.tables e below _ (T15.setTop (mkF m 211 #[.val (.int p0), .val (.int p1), .val (.int p2), .val (.int p3), .val (.int p4), .val (.int p5), .val (.int (1 : Int32)), .val (.int mm), .val (.int v20), .val (.int ofs), .val (.int v40), .val (.int v55), .val (.int bs), .val (.int bq), .val (.int tb), .val (.int pp), .val (.int qq), .val (.double (FP.i2d p4)), .second, .val (.double (FP.i2d p5)), .second, .val (.ref b4), .val (.ref b5), .val (.ref b6), .val (.ref b10)] [(.int mm), (.int (1 : Int32)), (.double ((own_T (own_ur0 pp) (FP.i2d p4) (own_ub0 qq (FP.i2d p5)) (v55 + (0 : Int32)) (tb + ((0 : Int32) * bs)) v40 bq) (pp).toNatClampNeg))]))
    refine own_up (fun _ k => XS.iload X15.here hx rfl (hb hby at_211) rfl k) ?_
    show own_Go p.tables e below _ (T15.setTop (mkF m 213 #[.val (.int p0), .val (.int p1), .val (.int p2), .val (.int p3), .val (.int p4), .val (.int p5), .val (.int (1 : Int32)), .val (.int mm), .val (.int v20), .val (.int ofs), .val (.int v40), .val (.int v55), .val (.int bs), .val (.int bq), .val (.int tb), .val (.int pp), .val (.int qq), .val (.double (FP.i2d p4)), .second, .val (.double (FP.i2d p5)), .second, .val (.ref b4), .val (.ref b5), .val (.ref b6), .val (.ref b10)] [(.int v20), (.int mm), (.int (1 : Int32)), (.double ((own_T (own_ur0 pp) (FP.i2d p4) (own_ub0 qq (FP.i2d p5)) (v55 + (0 : Int32)) (tb + ((0 : Int32) * bs)) v40 bq) (pp).toNatClampNeg))]))
    refine own_up (fun _ k => XS.iload X15.here hx rfl (hb hby at_213) rfl k) ?_
    show own_Go p.tables e below _ (T15.setTop (mkF m 215 #[.val (.int p0), .val (.int p1), .val (.int p2), .val (.int p3), .val (.int p4), .val (.int p5), .val (.int (1 : Int32)), .val (.int mm), .val (.int v20), .val (.int ofs), .val (.int v40), .val (.int v55), .val (.int bs), .val (.int bq), .val (.int tb), .val (.int pp), .val (.int qq), .val (.double (FP.i2d p4)), .second, .val (.double (FP.i2d p5)), .second, .val (.ref b4), .val (.ref b5), .val (.ref b6), .val (.ref b10)] [(.int v55), (.int v20), (.int mm), (.int (1 : Int32)), (.double ((own_T (own_ur0 pp) (FP.i2d p4) (own_ub0 qq (FP.i2d p5)) (v55 + (0 : Int32)) (tb + ((0 : Int32) * bs)) v40 bq) (pp).toNatClampNeg))]))
    refine own_up (fun _ k => XS.iload X15.here hx rfl (hb hby at_215) rfl k) ?_
    show own_Go p.tables e below _ (T15.setTop (mkF m 217 #[.val (.int p0), .val (.int p1), .val (.int p2), .val (.int p3), .val (.int p4), .val (.int p5), .val (.int (1 : Int32)), .val (.int mm), .val (.int v20), .val (.int ofs), .val (.int v40), .val (.int v55), .val (.int bs), .val (.int bq), .val (.int tb), .val (.int pp), .val (.int qq), .val (.double (FP.i2d p4)), .second, .val (.double (FP.i2d p5)), .second, .val (.ref b4), .val (.ref b5), .val (.ref b6), .val (.ref b10)] [(.int tb), (.int v55), (.int v20), (.int mm), (.int (1 : Int32)), (.double ((own_T (own_ur0 pp) (FP.i2d p4) (own_ub0 qq (FP.i2d p5)) (v55 + (0 : Int32)) (tb + ((0 : Int32) * bs)) v40 bq) (pp).toNatClampNeg))]))
    refine own_up (fun _ k => XS.iload X15.here hx rfl (hb hby at_217) rfl k) ?_
    show own_Go p.tables e below _ (T15.setTop (mkF m 219 #[.val (.int p0), .val (.int p1), .val (.int p2), .val (.int p3), .val (.int p4), .val (.int p5), .val (.int (1 : Int32)), .val (.int mm), .val (.int v20), .val (.int ofs), .val (.int v40), .val (.int v55), .val (.int bs), .val (.int bq), .val (.int tb), .val (.int pp), .val (.int qq), .val (.double (FP.i2d p4)), .second, .val (.double (FP.i2d p5)), .second, .val (.ref b4), .val (.ref b5), .val (.ref b6), .val (.ref b10)] [(.int bs), (.int tb), (.int v55), (.int v20), (.int mm), (.int (1 : Int32)), (.double ((own_T (own_ur0 pp) (FP.i2d p4) (own_ub0 qq (FP.i2d p5)) (v55 + (0 : Int32)) (tb + ((0 : Int32) * bs)) v40 bq) (pp).toNatClampNeg))]))
    refine own_up (fun _ k => XS.iload X15.here hx rfl (hb hby at_219) rfl k) ?_
    show own_Go p.tables e below _ (T15.setTop (mkF m 221 #[.val (.int p0), .val (.int p1), .val (.int p2), .val (.int p3), .val (.int p4), .val (.int p5), .val (.int (1 : Int32)), .val (.int mm), .val (.int v20), .val (.int ofs), .val (.int v40), .val (.int v55), .val (.int bs), .val (.int bq), .val (.int tb), .val (.int pp), .val (.int qq), .val (.double (FP.i2d p4)), .second, .val (.double (FP.i2d p5)), .second, .val (.ref b4), .val (.ref b5), .val (.ref b6), .val (.ref b10)] [(.int bq), (.int bs), (.int tb), (.int v55), (.int v20), (.int mm), (.int (1 : Int32)), (.double ((own_T (own_ur0 pp) (FP.i2d p4) (own_ub0 qq (FP.i2d p5)) (v55 + (0 : Int32)) (tb + ((0 : Int32) * bs)) v40 bq) (pp).toNatClampNeg))]))
    refine own_up (fun _ k => XS.iload X15.here hx rfl (hb hby at_221) rfl k) ?_
    show own_Go p.tables e below _ (T15.setTop (mkF m 223 #[.val (.int p0), .val (.int p1), .val (.int p2), .val (.int p3), .val (.int p4), .val (.int p5), .val (.int (1 : Int32)), .val (.int mm), .val (.int v20), .val (.int ofs), .val (.int v40), .val (.int v55), .val (.int bs), .val (.int bq), .val (.int tb), .val (.int pp), .val (.int qq), .val (.double (FP.i2d p4)), .second, .val (.double (FP.i2d p5)), .second, .val (.ref b4), .val (.ref b5), .val (.ref b6), .val (.ref b10)] [(.int pp), (.int bq), (.int bs), (.int tb), (.int v55), (.int v20), (.int mm), (.int (1 : Int32)), (.double ((own_T (own_ur0 pp) (FP.i2d p4) (own_ub0 qq (FP.i2d p5)) (v55 + (0 : Int32)) (tb + ((0 : Int32) * bs)) v40 bq) (pp).toNatClampNeg))]))
    refine own_up (fun _ k => XS.iload X15.here hx rfl (hb hby at_223) rfl k) ?_
    show own_Go p.tables e below _ (T15.setTop (mkF m 225 #[.val (.int p0), .val (.int p1), .val (.int p2), .val (.int p3), .val (.int p4), .val (.int p5), .val (.int (1 : Int32)), .val (.int mm), .val (.int v20), .val (.int ofs), .val (.int v40), .val (.int v55), .val (.int bs), .val (.int bq), .val (.int tb), .val (.int pp), .val (.int qq), .val (.double (FP.i2d p4)), .second, .val (.double (FP.i2d p5)), .second, .val (.ref b4), .val (.ref b5), .val (.ref b6), .val (.ref b10)] [(.int qq), (.int pp), (.int bq), (.int bs), (.int tb), (.int v55), (.int v20), (.int mm), (.int (1 : Int32)), (.double ((own_T (own_ur0 pp) (FP.i2d p4) (own_ub0 qq (FP.i2d p5)) (v55 + (0 : Int32)) (tb + ((0 : Int32) * bs)) v40 bq) (pp).toNatClampNeg))]))
    refine own_up (fun _ k => XS.dload X15.here hx rfl (hb hby at_225) rfl k) ?_
    show own_Go p.tables e below _ (T15.setTop (mkF m 227 #[.val (.int p0), .val (.int p1), .val (.int p2), .val (.int p3), .val (.int p4), .val (.int p5), .val (.int (1 : Int32)), .val (.int mm), .val (.int v20), .val (.int ofs), .val (.int v40), .val (.int v55), .val (.int bs), .val (.int bq), .val (.int tb), .val (.int pp), .val (.int qq), .val (.double (FP.i2d p4)), .second, .val (.double (FP.i2d p5)), .second, .val (.ref b4), .val (.ref b5), .val (.ref b6), .val (.ref b10)] [(.double (FP.i2d p4)), (.int qq), (.int pp), (.int bq), (.int bs), (.int tb), (.int v55), (.int v20), (.int mm), (.int (1 : Int32)), (.double ((own_T (own_ur0 pp) (FP.i2d p4) (own_ub0 qq (FP.i2d p5)) (v55 + (0 : Int32)) (tb + ((0 : Int32) * bs)) v40 bq) (pp).toNatClampNeg))]))
    refine own_up (fun _ k => XS.dload X15.here hx rfl (hb hby at_227) rfl k) ?_
    show own_Go p.tables e below _ (T15.setTop (mkF m 229 #[.val (.int p0), .val (.int p1), .val (.int p2), .val (.int p3), .val (.int p4), .val (.int p5), .val (.int (1 : Int32)), .val (.int mm), .val (.int v20), .val (.int ofs), .val (.int v40), .val (.int v55), .val (.int bs), .val (.int bq), .val (.int tb), .val (.int pp), .val (.int qq), .val (.double (FP.i2d p4)), .second, .val (.double (FP.i2d p5)), .second, .val (.ref b4), .val (.ref b5), .val (.ref b6), .val (.ref b10)] [(.double (FP.i2d p5)), (.double (FP.i2d p4)), (.int qq), (.int pp), (.int bq), (.int bs), (.int tb), (.int v55), (.int v20), (.int mm), (.int (1 : Int32)), (.double ((own_T (own_ur0 pp) (FP.i2d p4) (own_ub0 qq (FP.i2d p5)) (v55 + (0 : Int32)) (tb + ((0 : Int32) * bs)) v40 bq) (pp).toNatClampNeg))]))
    obtain ⟨_, _, ⟨T16, L16, k16, n16⟩, -, X16, ⟨Lc16, hQ16, l16, y16, z16⟩, st16⟩ := Jvm.LawKit.callS X15 hx (y := (⟨"com/example/indexica/indexica/ScaledEightRowsPinLaw", "expected", "(IIZIIIIIIDD)D"⟩ : MethodName)) hown (mvT hZ (hw _ (List.mem_of_getElem? (i := 24) rfl))) (mvT hZ (hw _ (List.mem_of_getElem? (i := 25) rfl))) (mvT hZ (hw _ (List.mem_of_getElem? (i := 26) rfl))) (mvT hZ (hw _ (List.mem_of_getElem? (i := 27) rfl))) (by decide) (backOf (W := 2) (rmX l Z a0 hw [] (1 : Int32) mm v20 v55 tb bs bq pp qq (FP.i2d p4) (FP.i2d p5) T15.heap n0 ZH (own_mne HB) (i2d_fin p4) (i2d_fin p5)) hZ (hw _ (List.mem_of_getElem? (i := 27) rfl)) (hw _ (List.mem_of_getElem? (i := 26) rfl)) (by decide) (by decide)) (g := (mkF m 229 #[.val (.int p0), .val (.int p1), .val (.int p2), .val (.int p3), .val (.int p4), .val (.int p5), .val (.int (1 : Int32)), .val (.int mm), .val (.int v20), .val (.int ofs), .val (.int v40), .val (.int v55), .val (.int bs), .val (.int bq), .val (.int tb), .val (.int pp), .val (.int qq), .val (.double (FP.i2d p4)), .second, .val (.double (FP.i2d p5)), .second, .val (.ref b4), .val (.ref b5), .val (.ref b6), .val (.ref b10)] [(.double (FP.i2d p5)), (.double (FP.i2d p4)), (.int qq), (.int pp), (.int bq), (.int bs), (.int tb), (.int v55), (.int v20), (.int mm), (.int (1 : Int32)), (.double ((own_T (own_ur0 pp) (FP.i2d p4) (own_ub0 qq (FP.i2d p5)) (v55 + (0 : Int32)) (tb + ((0 : Int32) * bs)) v40 bq) (pp).toNatClampNeg))])) rfl (by rw [hml]; rfl) (argsL := [(.int (1 : Int32)), (.int mm), (.int v20), (.int v55), (.int tb), (.int bs), (.int bq), (.int pp), (.int qq), (.double (FP.i2d p4)), (.double (FP.i2d p5))]) (rest := [(.double ((own_T (own_ur0 pp) (FP.i2d p4) (own_ub0 qq (FP.i2d p5)) (v55 + (0 : Int32)) (tb + ((0 : Int32) * bs)) v40 bq) (pp).toNatClampNeg))]) (lenOf pd_3 rfl) rfl (by show 2 * 0 + _ ≤ _; exact Nat.le_of_eq rfl) (hb hby at_229) (fun _ _ => ⟨rfl, rfl, (by decide : 4 + 0 ≤ _), (by decide : 257 + 0 ≤ _)⟩)
    dsimp only [Pt.U, Pt.locs, Pt.cells, Pt.slots] at X16 l16 y16 z16 st16 hQ16
    subst l16 y16 z16
    obtain ⟨rfl, Nq16, e16⟩ := hQ16
    have N16 := Fr.app N15 Nq16
    refine own_up st16 ?_
    show own_Go p.tables e below _ (T16.setTop (mkF m 232 #[.val (.int p0), .val (.int p1), .val (.int p2), .val (.int p3), .val (.int p4), .val (.int p5), .val (.int (1 : Int32)), .val (.int mm), .val (.int v20), .val (.int ofs), .val (.int v40), .val (.int v55), .val (.int bs), .val (.int bq), .val (.int tb), .val (.int pp), .val (.int qq), .val (.double (FP.i2d p4)), .second, .val (.double (FP.i2d p5)), .second, .val (.ref b4), .val (.ref b5), .val (.ref b6), .val (.ref b10)] [(.double (own_exp (1 : Int32) mm v20 v55 tb bs bq pp qq (FP.i2d p4) (FP.i2d p5))), (.double ((own_T (own_ur0 pp) (FP.i2d p4) (own_ub0 qq (FP.i2d p5)) (v55 + (0 : Int32)) (tb + ((0 : Int32) * bs)) v40 bq) (pp).toNatClampNeg))]))
    refine own_up (fun _ k => XS.dcmpS X16.here hx rfl (v := (cmpValue (FP.dcmp ((own_T (own_ur0 pp) (FP.i2d p4) (own_ub0 qq (FP.i2d p5)) (v55 + (0 : Int32)) (tb + ((0 : Int32) * bs)) v40 bq) (pp).toNatClampNeg) (own_exp (1 : Int32) mm v20 v55 tb bs bq pp qq (FP.i2d p4) (FP.i2d p5))) .l)) (hb hby at_232) rfl rfl k) ?_
    show own_Go p.tables e below _ (T16.setTop (mkF m 233 #[.val (.int p0), .val (.int p1), .val (.int p2), .val (.int p3), .val (.int p4), .val (.int p5), .val (.int (1 : Int32)), .val (.int mm), .val (.int v20), .val (.int ofs), .val (.int v40), .val (.int v55), .val (.int bs), .val (.int bq), .val (.int tb), .val (.int pp), .val (.int qq), .val (.double (FP.i2d p4)), .second, .val (.double (FP.i2d p5)), .second, .val (.ref b4), .val (.ref b5), .val (.ref b6), .val (.ref b10)] [(.int (cmpValue (FP.dcmp ((own_T (own_ur0 pp) (FP.i2d p4) (own_ub0 qq (FP.i2d p5)) (v55 + (0 : Int32)) (tb + ((0 : Int32) * bs)) v40 bq) (pp).toNatClampNeg) (own_exp (1 : Int32) mm v20 v55 tb bs bq pp qq (FP.i2d p4) (FP.i2d p5))) .l))]))
    refine own_up (fun _ k => XS.ifNo X16.here hx rfl (hb hby at_233) rfl ((if0 _ _).trans (teq (dcmpV_eq (own_f1 (al := FP.i2d p4) (va := FP.i2d p5) HB) (by rw [own_f1 (al := FP.i2d p4) (va := FP.i2d p5) HB]; exact own_expnn _ _ _ _ _ _ _ _ _ _ _) .l)).2) k) ?_
    show own_Go p.tables e below _ (T16.setTop (mkF m 236 #[.val (.int p0), .val (.int p1), .val (.int p2), .val (.int p3), .val (.int p4), .val (.int p5), .val (.int (1 : Int32)), .val (.int mm), .val (.int v20), .val (.int ofs), .val (.int v40), .val (.int v55), .val (.int bs), .val (.int bq), .val (.int tb), .val (.int pp), .val (.int qq), .val (.double (FP.i2d p4)), .second, .val (.double (FP.i2d p5)), .second, .val (.ref b4), .val (.ref b5), .val (.ref b6), .val (.ref b10)] []))
    refine own_up (fun _ k => XS.iconst X16.here hx rfl (hb hby at_236) k) ?_
    show own_Go p.tables e below _ (T16.setTop (mkF m 237 #[.val (.int p0), .val (.int p1), .val (.int p2), .val (.int p3), .val (.int p4), .val (.int p5), .val (.int (1 : Int32)), .val (.int mm), .val (.int v20), .val (.int ofs), .val (.int v40), .val (.int v55), .val (.int bs), .val (.int bq), .val (.int tb), .val (.int pp), .val (.int qq), .val (.double (FP.i2d p4)), .second, .val (.double (FP.i2d p5)), .second, .val (.ref b4), .val (.ref b5), .val (.ref b6), .val (.ref b10)] [(.int (1 : Int32))]))
    refine own_up (fun _ k => XS.goto X16.here hx rfl (pc0 := 237) (pc' := 241) rfl (hb hby at_237) (by decide) (by decide) k) ?_
    show own_Go p.tables e below _ (T16.setTop (mkF m 241 #[.val (.int p0), .val (.int p1), .val (.int p2), .val (.int p3), .val (.int p4), .val (.int p5), .val (.int (1 : Int32)), .val (.int mm), .val (.int v20), .val (.int ofs), .val (.int v40), .val (.int v55), .val (.int bs), .val (.int bq), .val (.int tb), .val (.int pp), .val (.int qq), .val (.double (FP.i2d p4)), .second, .val (.double (FP.i2d p5)), .second, .val (.ref b4), .val (.ref b5), .val (.ref b6), .val (.ref b10)] [(.int (1 : Int32))]))
    obtain ⟨fs17, hr17, hrun17, hended17, hW17, hsame17⟩ := X16.leave (v := some (.int (1 : Int32))) (fun h => by rw [Bd.returns] at h; cases h)
    refine own_end ⟨_, _, ?_, hrun17, hended17, _, _, rfl, ?_, ⟨_, rfl⟩, hW17, hsame17.mono (by decide) (by decide)⟩
    · exact retN X16 hx (t := .boolean) Bd.returns (by simp) (hb hby at_241) hr17
    · show Qrm0 Z p0 p1 p2 p3 p4 p5 h0 n0 _ T16.heap _
      rw [e16]
      exact ⟨rfl, N16⟩
  · show own_Go p.tables e below _ (T11.setTop (mkF m 199 #[.val (.int p0), .val (.int p1), .val (.int p2), .val (.int p3), .val (.int p4), .val (.int p5), .val (.int (2 : Int32)), .val (.int mm), .val (.int v20), .val (.int ofs), .val (.int v40), .val (.int v55), .val (.int bs), .val (.int bq), .val (.int tb), .val (.int pp), .val (.int qq), .val (.double (FP.i2d p4)), .second, .val (.double (FP.i2d p5)), .second, .val (.ref b4), .val (.ref b5), .val (.ref b6), .val (.ref b10)] [(.int (2 : Int32)), (.int bq), (.int bs), (.int tb), (.int v40), (.int v55), (.ref b6), (.ref b5), (.ref b4), (.ref b10)]))
    obtain ⟨cq18, kq18, q18a, q18b, q18c⟩ := isOf hZ rfl E_b10
    obtain ⟨_, _, ⟨T18, L18, k18, n18⟩, -, X18, ⟨Lc18, hQ18, l18, y18, z18⟩, st18⟩ := X11.virtualBack hx (y := (⟨"com/example/indexica/indexica/Scaled", "eightRows", "([D[D[DIIIIII)V"⟩ : MethodName)) (z := (⟨"com/example/indexica/indexica/Scaled", "eightRows", "([D[D[DIIIIII)V"⟩ : MethodName)) hown (mvT hZ (hw _ (List.mem_of_getElem? (i := 19) rfl))) (mvT hZ (hw _ (List.mem_of_getElem? (i := 20) rfl))) (notFace_of_selects (args := #[]) (mvT hZ (hw _ (List.mem_of_getElem? (i := 22) rfl)))) (mvT hZ (hw _ (List.mem_of_getElem? (i := 22) rfl))) (mvT hZ (hw _ (List.mem_of_getElem? (i := 21) rfl))) (by decide) (backOf (W := 0) (rmE2 l Z a0 hw [] b10 b4 b5 b6 v55 v40 tb bs bq (FP.i2d p4) (own_ub0 qq (FP.i2d p5)) (own_ur0 pp) T11.heap n0 ZH F_alpha_b10 G_b5 G_b6 g_b6 ne_b5_b6 (i2d_fin p4) (own_ubfin qq p5) (own_i0 HB (0 : Int32) (by decide)) (own_i1 HB (0 : Int32) (by decide)) (own_i HB (0 : Int32) (2 : Int32) (by decide) (by decide)) (own_i HB (0 : Int32) (3 : Int32) (by decide) (by decide)) (own_i HB (0 : Int32) (4 : Int32) (by decide) (by decide)) (own_i HB (0 : Int32) (5 : Int32) (by decide) (by decide)) (own_i HB (0 : Int32) (6 : Int32) (by decide) (by decide)) (own_i HB (0 : Int32) (7 : Int32) (by decide) (by decide)) (own_i0 HB (1 : Int32) (by decide)) (own_i1 HB (1 : Int32) (by decide)) (own_i HB (1 : Int32) (2 : Int32) (by decide) (by decide)) (own_i HB (1 : Int32) (3 : Int32) (by decide) (by decide)) (own_i HB (1 : Int32) (4 : Int32) (by decide) (by decide)) (own_i HB (1 : Int32) (5 : Int32) (by decide) (by decide)) (own_i HB (1 : Int32) (6 : Int32) (by decide) (by decide)) (own_i HB (1 : Int32) (7 : Int32) (by decide) (by decide)) (own_j0 HB (0 : Int32) (by decide)) (own_j1 HB (0 : Int32) (by decide)) (own_j HB (0 : Int32) (2 : Int32) (by decide) (by decide)) (own_j HB (0 : Int32) (3 : Int32) (by decide) (by decide)) (own_j HB (0 : Int32) (4 : Int32) (by decide) (by decide)) (own_j HB (0 : Int32) (5 : Int32) (by decide) (by decide)) (own_j HB (0 : Int32) (6 : Int32) (by decide) (by decide)) (own_j HB (0 : Int32) (7 : Int32) (by decide) (by decide)) (own_j0 HB (1 : Int32) (by decide)) (own_j1 HB (1 : Int32) (by decide)) (own_j HB (1 : Int32) (2 : Int32) (by decide) (by decide)) (own_j HB (1 : Int32) (3 : Int32) (by decide) (by decide)) (own_j HB (1 : Int32) (4 : Int32) (by decide) (by decide)) (own_j HB (1 : Int32) (5 : Int32) (by decide) (by decide)) (own_j HB (1 : Int32) (6 : Int32) (by decide) (by decide)) (own_j HB (1 : Int32) (7 : Int32) (by decide) (by decide))) hZ (hw _ (List.mem_of_getElem? (i := 23) rfl)) (hw _ (List.mem_of_getElem? (i := 5) rfl)) (by decide) (by decide)) q18a q18c (g := (mkF m 199 #[.val (.int p0), .val (.int p1), .val (.int p2), .val (.int p3), .val (.int p4), .val (.int p5), .val (.int (2 : Int32)), .val (.int mm), .val (.int v20), .val (.int ofs), .val (.int v40), .val (.int v55), .val (.int bs), .val (.int bq), .val (.int tb), .val (.int pp), .val (.int qq), .val (.double (FP.i2d p4)), .second, .val (.double (FP.i2d p5)), .second, .val (.ref b4), .val (.ref b5), .val (.ref b6), .val (.ref b10)] [(.int (2 : Int32)), (.int bq), (.int bs), (.int tb), (.int v40), (.int v55), (.ref b6), (.ref b5), (.ref b4), (.ref b10)])) rfl (by rw [hml]; rfl) (Steps.refl _) (argsL := [(.ref b4), (.ref b5), (.ref b6), (.int v55), (.int v40), (.int tb), (.int bs), (.int bq), (.int (2 : Int32))]) (rest := []) (lenOf pd_2 rfl) rfl (by show 2 * 0 + _ ≤ _; exact Nat.le_of_eq rfl) (hb hby at_199) (fun _ _ => ⟨rfl, rfl, (by decide : 4 + 0 ≤ _), (by decide : 257 + 0 ≤ _)⟩)
    dsimp only [Pt.U, Pt.locs, Pt.cells, Pt.slots] at X18 l18 y18 z18 st18 hQ18
    subst l18 y18 z18
    obtain ⟨rfl, Nq18, K18, Gq18⟩ := hQ18
    have N18 := Fr.app N11 Nq18
    have G_b4 := G_b4.keep K18 (ninS ne_b4_b6 nin0)
    have G_b5 := G_b5.keep K18 (ninS ne_b5_b6 nin0)
    have E_b10 := E_b10.keep K18
    have F_alpha_b10 := F_alpha_b10.keep K18 (ninS (Ne.symm ne_b6_b10) nin0)
    have ZH := Nat.le_trans ZH K18.1
    have KK := KK.trans K18 (allS (Or.inr sz_b6) all0)
    have G_b6 := Gq18
    refine own_up (fun _ k => st18.trans k) ?_
    show own_Go p.tables e below _ (T18.setTop (mkF m 202 #[.val (.int p0), .val (.int p1), .val (.int p2), .val (.int p3), .val (.int p4), .val (.int p5), .val (.int (2 : Int32)), .val (.int mm), .val (.int v20), .val (.int ofs), .val (.int v40), .val (.int v55), .val (.int bs), .val (.int bq), .val (.int tb), .val (.int pp), .val (.int qq), .val (.double (FP.i2d p4)), .second, .val (.double (FP.i2d p5)), .second, .val (.ref b4), .val (.ref b5), .val (.ref b6), .val (.ref b10)] []))
    refine own_up (fun _ k => XS.aload X18.here hx rfl (hb hby at_202) rfl rfl k) ?_
    show own_Go p.tables e below _ (T18.setTop (mkF m 204 #[.val (.int p0), .val (.int p1), .val (.int p2), .val (.int p3), .val (.int p4), .val (.int p5), .val (.int (2 : Int32)), .val (.int mm), .val (.int v20), .val (.int ofs), .val (.int v40), .val (.int v55), .val (.int bs), .val (.int bq), .val (.int tb), .val (.int pp), .val (.int qq), .val (.double (FP.i2d p4)), .second, .val (.double (FP.i2d p5)), .second, .val (.ref b4), .val (.ref b5), .val (.ref b6), .val (.ref b10)] [(.ref b6)]))
    refine own_up (fun _ k => XS.iload X18.here hx rfl (hb hby at_204) rfl k) ?_
    show own_Go p.tables e below _ (T18.setTop (mkF m 206 #[.val (.int p0), .val (.int p1), .val (.int p2), .val (.int p3), .val (.int p4), .val (.int p5), .val (.int (2 : Int32)), .val (.int mm), .val (.int v20), .val (.int ofs), .val (.int v40), .val (.int v55), .val (.int bs), .val (.int bq), .val (.int tb), .val (.int pp), .val (.int qq), .val (.double (FP.i2d p4)), .second, .val (.double (FP.i2d p5)), .second, .val (.ref b4), .val (.ref b5), .val (.ref b6), .val (.ref b10)] [(.int pp), (.ref b6)]))
    refine own_up (fun _ k => own_Arf.daload G_b6 X18 hx hZ rfl ipp.1 ipp.2 (v := (.double ((own_T (own_T (own_ur0 pp) (FP.i2d p4) (own_ub0 qq (FP.i2d p5)) (v55 + (0 : Int32)) (tb + ((0 : Int32) * bs)) v40 bq) (FP.i2d p4) (own_ub0 qq (FP.i2d p5)) (v55 + (1 : Int32)) (tb + ((1 : Int32) * bs)) v40 bq) (pp).toNatClampNeg))) rfl (g := (mkF m 206 #[.val (.int p0), .val (.int p1), .val (.int p2), .val (.int p3), .val (.int p4), .val (.int p5), .val (.int (2 : Int32)), .val (.int mm), .val (.int v20), .val (.int ofs), .val (.int v40), .val (.int v55), .val (.int bs), .val (.int bq), .val (.int tb), .val (.int pp), .val (.int qq), .val (.double (FP.i2d p4)), .second, .val (.double (FP.i2d p5)), .second, .val (.ref b4), .val (.ref b5), .val (.ref b6), .val (.ref b10)] [(.int pp), (.ref b6)])) rfl rfl (hb hby at_206) _ k) ?_
    show own_Go p.tables e below _ (T18.setTop (mkF m 207 #[.val (.int p0), .val (.int p1), .val (.int p2), .val (.int p3), .val (.int p4), .val (.int p5), .val (.int (2 : Int32)), .val (.int mm), .val (.int v20), .val (.int ofs), .val (.int v40), .val (.int v55), .val (.int bs), .val (.int bq), .val (.int tb), .val (.int pp), .val (.int qq), .val (.double (FP.i2d p4)), .second, .val (.double (FP.i2d p5)), .second, .val (.ref b4), .val (.ref b5), .val (.ref b6), .val (.ref b10)] [(.double ((own_T (own_T (own_ur0 pp) (FP.i2d p4) (own_ub0 qq (FP.i2d p5)) (v55 + (0 : Int32)) (tb + ((0 : Int32) * bs)) v40 bq) (FP.i2d p4) (own_ub0 qq (FP.i2d p5)) (v55 + (1 : Int32)) (tb + ((1 : Int32) * bs)) v40 bq) (pp).toNatClampNeg))]))
    refine own_up (fun _ k => XS.iload X18.here hx rfl (hb hby at_207) rfl k) ?_
    show own_Go p.tables e below _ (T18.setTop (mkF m 209 #[.val (.int p0), .val (.int p1), .val (.int p2), .val (.int p3), .val (.int p4), .val (.int p5), .val (.int (2 : Int32)), .val (.int mm), .val (.int v20), .val (.int ofs), .val (.int v40), .val (.int v55), .val (.int bs), .val (.int bq), .val (.int tb), .val (.int pp), .val (.int qq), .val (.double (FP.i2d p4)), .second, .val (.double (FP.i2d p5)), .second, .val (.ref b4), .val (.ref b5), .val (.ref b6), .val (.ref b10)] [(.int (2 : Int32)), (.double ((own_T (own_T (own_ur0 pp) (FP.i2d p4) (own_ub0 qq (FP.i2d p5)) (v55 + (0 : Int32)) (tb + ((0 : Int32) * bs)) v40 bq) (FP.i2d p4) (own_ub0 qq (FP.i2d p5)) (v55 + (1 : Int32)) (tb + ((1 : Int32) * bs)) v40 bq) (pp).toNatClampNeg))]))
    refine own_up (fun _ k => XS.iload X18.here hx rfl (hb hby at_209) rfl k) ?_
    show own_Go p.tables e below _ (T18.setTop (mkF m 211 #[.val (.int p0), .val (.int p1), .val (.int p2), .val (.int p3), .val (.int p4), .val (.int p5), .val (.int (2 : Int32)), .val (.int mm), .val (.int v20), .val (.int ofs), .val (.int v40), .val (.int v55), .val (.int bs), .val (.int bq), .val (.int tb), .val (.int pp), .val (.int qq), .val (.double (FP.i2d p4)), .second, .val (.double (FP.i2d p5)), .second, .val (.ref b4), .val (.ref b5), .val (.ref b6), .val (.ref b10)] [(.int mm), (.int (2 : Int32)), (.double ((own_T (own_T (own_ur0 pp) (FP.i2d p4) (own_ub0 qq (FP.i2d p5)) (v55 + (0 : Int32)) (tb + ((0 : Int32) * bs)) v40 bq) (FP.i2d p4) (own_ub0 qq (FP.i2d p5)) (v55 + (1 : Int32)) (tb + ((1 : Int32) * bs)) v40 bq) (pp).toNatClampNeg))]))
    refine own_up (fun _ k => XS.iload X18.here hx rfl (hb hby at_211) rfl k) ?_
    show own_Go p.tables e below _ (T18.setTop (mkF m 213 #[.val (.int p0), .val (.int p1), .val (.int p2), .val (.int p3), .val (.int p4), .val (.int p5), .val (.int (2 : Int32)), .val (.int mm), .val (.int v20), .val (.int ofs), .val (.int v40), .val (.int v55), .val (.int bs), .val (.int bq), .val (.int tb), .val (.int pp), .val (.int qq), .val (.double (FP.i2d p4)), .second, .val (.double (FP.i2d p5)), .second, .val (.ref b4), .val (.ref b5), .val (.ref b6), .val (.ref b10)] [(.int v20), (.int mm), (.int (2 : Int32)), (.double ((own_T (own_T (own_ur0 pp) (FP.i2d p4) (own_ub0 qq (FP.i2d p5)) (v55 + (0 : Int32)) (tb + ((0 : Int32) * bs)) v40 bq) (FP.i2d p4) (own_ub0 qq (FP.i2d p5)) (v55 + (1 : Int32)) (tb + ((1 : Int32) * bs)) v40 bq) (pp).toNatClampNeg))]))
    refine own_up (fun _ k => XS.iload X18.here hx rfl (hb hby at_213) rfl k) ?_
    show own_Go p.tables e below _ (T18.setTop (mkF m 215 #[.val (.int p0), .val (.int p1), .val (.int p2), .val (.int p3), .val (.int p4), .val (.int p5), .val (.int (2 : Int32)), .val (.int mm), .val (.int v20), .val (.int ofs), .val (.int v40), .val (.int v55), .val (.int bs), .val (.int bq), .val (.int tb), .val (.int pp), .val (.int qq), .val (.double (FP.i2d p4)), .second, .val (.double (FP.i2d p5)), .second, .val (.ref b4), .val (.ref b5), .val (.ref b6), .val (.ref b10)] [(.int v55), (.int v20), (.int mm), (.int (2 : Int32)), (.double ((own_T (own_T (own_ur0 pp) (FP.i2d p4) (own_ub0 qq (FP.i2d p5)) (v55 + (0 : Int32)) (tb + ((0 : Int32) * bs)) v40 bq) (FP.i2d p4) (own_ub0 qq (FP.i2d p5)) (v55 + (1 : Int32)) (tb + ((1 : Int32) * bs)) v40 bq) (pp).toNatClampNeg))]))
    refine own_up (fun _ k => XS.iload X18.here hx rfl (hb hby at_215) rfl k) ?_
    show own_Go p.tables e below _ (T18.setTop (mkF m 217 #[.val (.int p0), .val (.int p1), .val (.int p2), .val (.int p3), .val (.int p4), .val (.int p5), .val (.int (2 : Int32)), .val (.int mm), .val (.int v20), .val (.int ofs), .val (.int v40), .val (.int v55), .val (.int bs), .val (.int bq), .val (.int tb), .val (.int pp), .val (.int qq), .val (.double (FP.i2d p4)), .second, .val (.double (FP.i2d p5)), .second, .val (.ref b4), .val (.ref b5), .val (.ref b6), .val (.ref b10)] [(.int tb), (.int v55), (.int v20), (.int mm), (.int (2 : Int32)), (.double ((own_T (own_T (own_ur0 pp) (FP.i2d p4) (own_ub0 qq (FP.i2d p5)) (v55 + (0 : Int32)) (tb + ((0 : Int32) * bs)) v40 bq) (FP.i2d p4) (own_ub0 qq (FP.i2d p5)) (v55 + (1 : Int32)) (tb + ((1 : Int32) * bs)) v40 bq) (pp).toNatClampNeg))]))
    refine own_up (fun _ k => XS.iload X18.here hx rfl (hb hby at_217) rfl k) ?_
    show own_Go p.tables e below _ (T18.setTop (mkF m 219 #[.val (.int p0), .val (.int p1), .val (.int p2), .val (.int p3), .val (.int p4), .val (.int p5), .val (.int (2 : Int32)), .val (.int mm), .val (.int v20), .val (.int ofs), .val (.int v40), .val (.int v55), .val (.int bs), .val (.int bq), .val (.int tb), .val (.int pp), .val (.int qq), .val (.double (FP.i2d p4)), .second, .val (.double (FP.i2d p5)), .second, .val (.ref b4), .val (.ref b5), .val (.ref b6), .val (.ref b10)] [(.int bs), (.int tb), (.int v55), (.int v20), (.int mm), (.int (2 : Int32)), (.double ((own_T (own_T (own_ur0 pp) (FP.i2d p4) (own_ub0 qq (FP.i2d p5)) (v55 + (0 : Int32)) (tb + ((0 : Int32) * bs)) v40 bq) (FP.i2d p4) (own_ub0 qq (FP.i2d p5)) (v55 + (1 : Int32)) (tb + ((1 : Int32) * bs)) v40 bq) (pp).toNatClampNeg))]))
    refine own_up (fun _ k => XS.iload X18.here hx rfl (hb hby at_219) rfl k) ?_
    show own_Go p.tables e below _ (T18.setTop (mkF m 221 #[.val (.int p0), .val (.int p1), .val (.int p2), .val (.int p3), .val (.int p4), .val (.int p5), .val (.int (2 : Int32)), .val (.int mm), .val (.int v20), .val (.int ofs), .val (.int v40), .val (.int v55), .val (.int bs), .val (.int bq), .val (.int tb), .val (.int pp), .val (.int qq), .val (.double (FP.i2d p4)), .second, .val (.double (FP.i2d p5)), .second, .val (.ref b4), .val (.ref b5), .val (.ref b6), .val (.ref b10)] [(.int bq), (.int bs), (.int tb), (.int v55), (.int v20), (.int mm), (.int (2 : Int32)), (.double ((own_T (own_T (own_ur0 pp) (FP.i2d p4) (own_ub0 qq (FP.i2d p5)) (v55 + (0 : Int32)) (tb + ((0 : Int32) * bs)) v40 bq) (FP.i2d p4) (own_ub0 qq (FP.i2d p5)) (v55 + (1 : Int32)) (tb + ((1 : Int32) * bs)) v40 bq) (pp).toNatClampNeg))]))
    refine own_up (fun _ k => XS.iload X18.here hx rfl (hb hby at_221) rfl k) ?_
    show own_Go p.tables e below _ (T18.setTop (mkF m 223 #[.val (.int p0), .val (.int p1), .val (.int p2), .val (.int p3), .val (.int p4), .val (.int p5), .val (.int (2 : Int32)), .val (.int mm), .val (.int v20), .val (.int ofs), .val (.int v40), .val (.int v55), .val (.int bs), .val (.int bq), .val (.int tb), .val (.int pp), .val (.int qq), .val (.double (FP.i2d p4)), .second, .val (.double (FP.i2d p5)), .second, .val (.ref b4), .val (.ref b5), .val (.ref b6), .val (.ref b10)] [(.int pp), (.int bq), (.int bs), (.int tb), (.int v55), (.int v20), (.int mm), (.int (2 : Int32)), (.double ((own_T (own_T (own_ur0 pp) (FP.i2d p4) (own_ub0 qq (FP.i2d p5)) (v55 + (0 : Int32)) (tb + ((0 : Int32) * bs)) v40 bq) (FP.i2d p4) (own_ub0 qq (FP.i2d p5)) (v55 + (1 : Int32)) (tb + ((1 : Int32) * bs)) v40 bq) (pp).toNatClampNeg))]))
    refine own_up (fun _ k => XS.iload X18.here hx rfl (hb hby at_223) rfl k) ?_
    show own_Go p.tables e below _ (T18.setTop (mkF m 225 #[.val (.int p0), .val (.int p1), .val (.int p2), .val (.int p3), .val (.int p4), .val (.int p5), .val (.int (2 : Int32)), .val (.int mm), .val (.int v20), .val (.int ofs), .val (.int v40), .val (.int v55), .val (.int bs), .val (.int bq), .val (.int tb), .val (.int pp), .val (.int qq), .val (.double (FP.i2d p4)), .second, .val (.double (FP.i2d p5)), .second, .val (.ref b4), .val (.ref b5), .val (.ref b6), .val (.ref b10)] [(.int qq), (.int pp), (.int bq), (.int bs), (.int tb), (.int v55), (.int v20), (.int mm), (.int (2 : Int32)), (.double ((own_T (own_T (own_ur0 pp) (FP.i2d p4) (own_ub0 qq (FP.i2d p5)) (v55 + (0 : Int32)) (tb + ((0 : Int32) * bs)) v40 bq) (FP.i2d p4) (own_ub0 qq (FP.i2d p5)) (v55 + (1 : Int32)) (tb + ((1 : Int32) * bs)) v40 bq) (pp).toNatClampNeg))]))
    refine own_up (fun _ k => XS.dload X18.here hx rfl (hb hby at_225) rfl k) ?_
    show own_Go p.tables e below _ (T18.setTop (mkF m 227 #[.val (.int p0), .val (.int p1), .val (.int p2), .val (.int p3), .val (.int p4), .val (.int p5), .val (.int (2 : Int32)), .val (.int mm), .val (.int v20), .val (.int ofs), .val (.int v40), .val (.int v55), .val (.int bs), .val (.int bq), .val (.int tb), .val (.int pp), .val (.int qq), .val (.double (FP.i2d p4)), .second, .val (.double (FP.i2d p5)), .second, .val (.ref b4), .val (.ref b5), .val (.ref b6), .val (.ref b10)] [(.double (FP.i2d p4)), (.int qq), (.int pp), (.int bq), (.int bs), (.int tb), (.int v55), (.int v20), (.int mm), (.int (2 : Int32)), (.double ((own_T (own_T (own_ur0 pp) (FP.i2d p4) (own_ub0 qq (FP.i2d p5)) (v55 + (0 : Int32)) (tb + ((0 : Int32) * bs)) v40 bq) (FP.i2d p4) (own_ub0 qq (FP.i2d p5)) (v55 + (1 : Int32)) (tb + ((1 : Int32) * bs)) v40 bq) (pp).toNatClampNeg))]))
    refine own_up (fun _ k => XS.dload X18.here hx rfl (hb hby at_227) rfl k) ?_
    show own_Go p.tables e below _ (T18.setTop (mkF m 229 #[.val (.int p0), .val (.int p1), .val (.int p2), .val (.int p3), .val (.int p4), .val (.int p5), .val (.int (2 : Int32)), .val (.int mm), .val (.int v20), .val (.int ofs), .val (.int v40), .val (.int v55), .val (.int bs), .val (.int bq), .val (.int tb), .val (.int pp), .val (.int qq), .val (.double (FP.i2d p4)), .second, .val (.double (FP.i2d p5)), .second, .val (.ref b4), .val (.ref b5), .val (.ref b6), .val (.ref b10)] [(.double (FP.i2d p5)), (.double (FP.i2d p4)), (.int qq), (.int pp), (.int bq), (.int bs), (.int tb), (.int v55), (.int v20), (.int mm), (.int (2 : Int32)), (.double ((own_T (own_T (own_ur0 pp) (FP.i2d p4) (own_ub0 qq (FP.i2d p5)) (v55 + (0 : Int32)) (tb + ((0 : Int32) * bs)) v40 bq) (FP.i2d p4) (own_ub0 qq (FP.i2d p5)) (v55 + (1 : Int32)) (tb + ((1 : Int32) * bs)) v40 bq) (pp).toNatClampNeg))]))
    obtain ⟨_, _, ⟨T19, L19, k19, n19⟩, -, X19, ⟨Lc19, hQ19, l19, y19, z19⟩, st19⟩ := Jvm.LawKit.callS X18 hx (y := (⟨"com/example/indexica/indexica/ScaledEightRowsPinLaw", "expected", "(IIZIIIIIIDD)D"⟩ : MethodName)) hown (mvT hZ (hw _ (List.mem_of_getElem? (i := 24) rfl))) (mvT hZ (hw _ (List.mem_of_getElem? (i := 25) rfl))) (mvT hZ (hw _ (List.mem_of_getElem? (i := 26) rfl))) (mvT hZ (hw _ (List.mem_of_getElem? (i := 27) rfl))) (by decide) (backOf (W := 2) (rmX l Z a0 hw [] (2 : Int32) mm v20 v55 tb bs bq pp qq (FP.i2d p4) (FP.i2d p5) T18.heap n0 ZH (own_mne HB) (i2d_fin p4) (i2d_fin p5)) hZ (hw _ (List.mem_of_getElem? (i := 27) rfl)) (hw _ (List.mem_of_getElem? (i := 26) rfl)) (by decide) (by decide)) (g := (mkF m 229 #[.val (.int p0), .val (.int p1), .val (.int p2), .val (.int p3), .val (.int p4), .val (.int p5), .val (.int (2 : Int32)), .val (.int mm), .val (.int v20), .val (.int ofs), .val (.int v40), .val (.int v55), .val (.int bs), .val (.int bq), .val (.int tb), .val (.int pp), .val (.int qq), .val (.double (FP.i2d p4)), .second, .val (.double (FP.i2d p5)), .second, .val (.ref b4), .val (.ref b5), .val (.ref b6), .val (.ref b10)] [(.double (FP.i2d p5)), (.double (FP.i2d p4)), (.int qq), (.int pp), (.int bq), (.int bs), (.int tb), (.int v55), (.int v20), (.int mm), (.int (2 : Int32)), (.double ((own_T (own_T (own_ur0 pp) (FP.i2d p4) (own_ub0 qq (FP.i2d p5)) (v55 + (0 : Int32)) (tb + ((0 : Int32) * bs)) v40 bq) (FP.i2d p4) (own_ub0 qq (FP.i2d p5)) (v55 + (1 : Int32)) (tb + ((1 : Int32) * bs)) v40 bq) (pp).toNatClampNeg))])) rfl (by rw [hml]; rfl) (argsL := [(.int (2 : Int32)), (.int mm), (.int v20), (.int v55), (.int tb), (.int bs), (.int bq), (.int pp), (.int qq), (.double (FP.i2d p4)), (.double (FP.i2d p5))]) (rest := [(.double ((own_T (own_T (own_ur0 pp) (FP.i2d p4) (own_ub0 qq (FP.i2d p5)) (v55 + (0 : Int32)) (tb + ((0 : Int32) * bs)) v40 bq) (FP.i2d p4) (own_ub0 qq (FP.i2d p5)) (v55 + (1 : Int32)) (tb + ((1 : Int32) * bs)) v40 bq) (pp).toNatClampNeg))]) (lenOf pd_3 rfl) rfl (by show 2 * 0 + _ ≤ _; exact Nat.le_of_eq rfl) (hb hby at_229) (fun _ _ => ⟨rfl, rfl, (by decide : 4 + 0 ≤ _), (by decide : 257 + 0 ≤ _)⟩)
    dsimp only [Pt.U, Pt.locs, Pt.cells, Pt.slots] at X19 l19 y19 z19 st19 hQ19
    subst l19 y19 z19
    obtain ⟨rfl, Nq19, e19⟩ := hQ19
    have N19 := Fr.app N18 Nq19
    refine own_up st19 ?_
    show own_Go p.tables e below _ (T19.setTop (mkF m 232 #[.val (.int p0), .val (.int p1), .val (.int p2), .val (.int p3), .val (.int p4), .val (.int p5), .val (.int (2 : Int32)), .val (.int mm), .val (.int v20), .val (.int ofs), .val (.int v40), .val (.int v55), .val (.int bs), .val (.int bq), .val (.int tb), .val (.int pp), .val (.int qq), .val (.double (FP.i2d p4)), .second, .val (.double (FP.i2d p5)), .second, .val (.ref b4), .val (.ref b5), .val (.ref b6), .val (.ref b10)] [(.double (own_exp (2 : Int32) mm v20 v55 tb bs bq pp qq (FP.i2d p4) (FP.i2d p5))), (.double ((own_T (own_T (own_ur0 pp) (FP.i2d p4) (own_ub0 qq (FP.i2d p5)) (v55 + (0 : Int32)) (tb + ((0 : Int32) * bs)) v40 bq) (FP.i2d p4) (own_ub0 qq (FP.i2d p5)) (v55 + (1 : Int32)) (tb + ((1 : Int32) * bs)) v40 bq) (pp).toNatClampNeg))]))
    refine own_up (fun _ k => XS.dcmpS X19.here hx rfl (v := (cmpValue (FP.dcmp ((own_T (own_T (own_ur0 pp) (FP.i2d p4) (own_ub0 qq (FP.i2d p5)) (v55 + (0 : Int32)) (tb + ((0 : Int32) * bs)) v40 bq) (FP.i2d p4) (own_ub0 qq (FP.i2d p5)) (v55 + (1 : Int32)) (tb + ((1 : Int32) * bs)) v40 bq) (pp).toNatClampNeg) (own_exp (2 : Int32) mm v20 v55 tb bs bq pp qq (FP.i2d p4) (FP.i2d p5))) .l)) (hb hby at_232) rfl rfl k) ?_
    show own_Go p.tables e below _ (T19.setTop (mkF m 233 #[.val (.int p0), .val (.int p1), .val (.int p2), .val (.int p3), .val (.int p4), .val (.int p5), .val (.int (2 : Int32)), .val (.int mm), .val (.int v20), .val (.int ofs), .val (.int v40), .val (.int v55), .val (.int bs), .val (.int bq), .val (.int tb), .val (.int pp), .val (.int qq), .val (.double (FP.i2d p4)), .second, .val (.double (FP.i2d p5)), .second, .val (.ref b4), .val (.ref b5), .val (.ref b6), .val (.ref b10)] [(.int (cmpValue (FP.dcmp ((own_T (own_T (own_ur0 pp) (FP.i2d p4) (own_ub0 qq (FP.i2d p5)) (v55 + (0 : Int32)) (tb + ((0 : Int32) * bs)) v40 bq) (FP.i2d p4) (own_ub0 qq (FP.i2d p5)) (v55 + (1 : Int32)) (tb + ((1 : Int32) * bs)) v40 bq) (pp).toNatClampNeg) (own_exp (2 : Int32) mm v20 v55 tb bs bq pp qq (FP.i2d p4) (FP.i2d p5))) .l))]))
    refine own_up (fun _ k => XS.ifNo X19.here hx rfl (hb hby at_233) rfl ((if0 _ _).trans (teq (dcmpV_eq (own_f2 (al := FP.i2d p4) (va := FP.i2d p5) HB) (by rw [own_f2 (al := FP.i2d p4) (va := FP.i2d p5) HB]; exact own_expnn _ _ _ _ _ _ _ _ _ _ _) .l)).2) k) ?_
    show own_Go p.tables e below _ (T19.setTop (mkF m 236 #[.val (.int p0), .val (.int p1), .val (.int p2), .val (.int p3), .val (.int p4), .val (.int p5), .val (.int (2 : Int32)), .val (.int mm), .val (.int v20), .val (.int ofs), .val (.int v40), .val (.int v55), .val (.int bs), .val (.int bq), .val (.int tb), .val (.int pp), .val (.int qq), .val (.double (FP.i2d p4)), .second, .val (.double (FP.i2d p5)), .second, .val (.ref b4), .val (.ref b5), .val (.ref b6), .val (.ref b10)] []))
    refine own_up (fun _ k => XS.iconst X19.here hx rfl (hb hby at_236) k) ?_
    show own_Go p.tables e below _ (T19.setTop (mkF m 237 #[.val (.int p0), .val (.int p1), .val (.int p2), .val (.int p3), .val (.int p4), .val (.int p5), .val (.int (2 : Int32)), .val (.int mm), .val (.int v20), .val (.int ofs), .val (.int v40), .val (.int v55), .val (.int bs), .val (.int bq), .val (.int tb), .val (.int pp), .val (.int qq), .val (.double (FP.i2d p4)), .second, .val (.double (FP.i2d p5)), .second, .val (.ref b4), .val (.ref b5), .val (.ref b6), .val (.ref b10)] [(.int (1 : Int32))]))
    refine own_up (fun _ k => XS.goto X19.here hx rfl (pc0 := 237) (pc' := 241) rfl (hb hby at_237) (by decide) (by decide) k) ?_
    show own_Go p.tables e below _ (T19.setTop (mkF m 241 #[.val (.int p0), .val (.int p1), .val (.int p2), .val (.int p3), .val (.int p4), .val (.int p5), .val (.int (2 : Int32)), .val (.int mm), .val (.int v20), .val (.int ofs), .val (.int v40), .val (.int v55), .val (.int bs), .val (.int bq), .val (.int tb), .val (.int pp), .val (.int qq), .val (.double (FP.i2d p4)), .second, .val (.double (FP.i2d p5)), .second, .val (.ref b4), .val (.ref b5), .val (.ref b6), .val (.ref b10)] [(.int (1 : Int32))]))
    obtain ⟨fs20, hr20, hrun20, hended20, hW20, hsame20⟩ := X19.leave (v := some (.int (1 : Int32))) (fun h => by rw [Bd.returns] at h; cases h)
    refine own_end ⟨_, _, ?_, hrun20, hended20, _, _, rfl, ?_, ⟨_, rfl⟩, hW20, hsame20.mono (by decide) (by decide)⟩
    · exact retN X19 hx (t := .boolean) Bd.returns (by simp) (hb hby at_241) hr20
    · show Qrm0 Z p0 p1 p2 p3 p4 p5 h0 n0 _ T19.heap _
      rw [e19]
      exact ⟨rfl, N19⟩
  · show own_Go p.tables e below _ (T11.setTop (mkF m 199 #[.val (.int p0), .val (.int p1), .val (.int p2), .val (.int p3), .val (.int p4), .val (.int p5), .val (.int (3 : Int32)), .val (.int mm), .val (.int v20), .val (.int ofs), .val (.int v40), .val (.int v55), .val (.int bs), .val (.int bq), .val (.int tb), .val (.int pp), .val (.int qq), .val (.double (FP.i2d p4)), .second, .val (.double (FP.i2d p5)), .second, .val (.ref b4), .val (.ref b5), .val (.ref b6), .val (.ref b10)] [(.int (3 : Int32)), (.int bq), (.int bs), (.int tb), (.int v40), (.int v55), (.ref b6), (.ref b5), (.ref b4), (.ref b10)]))
    obtain ⟨cq21, kq21, q21a, q21b, q21c⟩ := isOf hZ rfl E_b10
    obtain ⟨_, _, ⟨T21, L21, k21, n21⟩, -, X21, ⟨Lc21, hQ21, l21, y21, z21⟩, st21⟩ := X11.virtualBack hx (y := (⟨"com/example/indexica/indexica/Scaled", "eightRows", "([D[D[DIIIIII)V"⟩ : MethodName)) (z := (⟨"com/example/indexica/indexica/Scaled", "eightRows", "([D[D[DIIIIII)V"⟩ : MethodName)) hown (mvT hZ (hw _ (List.mem_of_getElem? (i := 19) rfl))) (mvT hZ (hw _ (List.mem_of_getElem? (i := 20) rfl))) (notFace_of_selects (args := #[]) (mvT hZ (hw _ (List.mem_of_getElem? (i := 22) rfl)))) (mvT hZ (hw _ (List.mem_of_getElem? (i := 22) rfl))) (mvT hZ (hw _ (List.mem_of_getElem? (i := 21) rfl))) (by decide) (backOf (W := 0) (rmE3 l Z a0 hw [] b10 b4 b5 b6 v55 v40 tb bs bq (FP.i2d p4) (own_ub0 qq (FP.i2d p5)) (own_ur0 pp) T11.heap n0 ZH F_alpha_b10 G_b5 G_b6 g_b6 ne_b5_b6 (i2d_fin p4) (own_ubfin qq p5) (own_i0 HB (0 : Int32) (by decide)) (own_i1 HB (0 : Int32) (by decide)) (own_i HB (0 : Int32) (2 : Int32) (by decide) (by decide)) (own_i HB (0 : Int32) (3 : Int32) (by decide) (by decide)) (own_i HB (0 : Int32) (4 : Int32) (by decide) (by decide)) (own_i HB (0 : Int32) (5 : Int32) (by decide) (by decide)) (own_i HB (0 : Int32) (6 : Int32) (by decide) (by decide)) (own_i HB (0 : Int32) (7 : Int32) (by decide) (by decide)) (own_i0 HB (1 : Int32) (by decide)) (own_i1 HB (1 : Int32) (by decide)) (own_i HB (1 : Int32) (2 : Int32) (by decide) (by decide)) (own_i HB (1 : Int32) (3 : Int32) (by decide) (by decide)) (own_i HB (1 : Int32) (4 : Int32) (by decide) (by decide)) (own_i HB (1 : Int32) (5 : Int32) (by decide) (by decide)) (own_i HB (1 : Int32) (6 : Int32) (by decide) (by decide)) (own_i HB (1 : Int32) (7 : Int32) (by decide) (by decide)) (own_i0 HB (2 : Int32) (by decide)) (own_i1 HB (2 : Int32) (by decide)) (own_i HB (2 : Int32) (2 : Int32) (by decide) (by decide)) (own_i HB (2 : Int32) (3 : Int32) (by decide) (by decide)) (own_i HB (2 : Int32) (4 : Int32) (by decide) (by decide)) (own_i HB (2 : Int32) (5 : Int32) (by decide) (by decide)) (own_i HB (2 : Int32) (6 : Int32) (by decide) (by decide)) (own_i HB (2 : Int32) (7 : Int32) (by decide) (by decide)) (own_j0 HB (0 : Int32) (by decide)) (own_j1 HB (0 : Int32) (by decide)) (own_j HB (0 : Int32) (2 : Int32) (by decide) (by decide)) (own_j HB (0 : Int32) (3 : Int32) (by decide) (by decide)) (own_j HB (0 : Int32) (4 : Int32) (by decide) (by decide)) (own_j HB (0 : Int32) (5 : Int32) (by decide) (by decide)) (own_j HB (0 : Int32) (6 : Int32) (by decide) (by decide)) (own_j HB (0 : Int32) (7 : Int32) (by decide) (by decide)) (own_j0 HB (1 : Int32) (by decide)) (own_j1 HB (1 : Int32) (by decide)) (own_j HB (1 : Int32) (2 : Int32) (by decide) (by decide)) (own_j HB (1 : Int32) (3 : Int32) (by decide) (by decide)) (own_j HB (1 : Int32) (4 : Int32) (by decide) (by decide)) (own_j HB (1 : Int32) (5 : Int32) (by decide) (by decide)) (own_j HB (1 : Int32) (6 : Int32) (by decide) (by decide)) (own_j HB (1 : Int32) (7 : Int32) (by decide) (by decide)) (own_j0 HB (2 : Int32) (by decide)) (own_j1 HB (2 : Int32) (by decide)) (own_j HB (2 : Int32) (2 : Int32) (by decide) (by decide)) (own_j HB (2 : Int32) (3 : Int32) (by decide) (by decide)) (own_j HB (2 : Int32) (4 : Int32) (by decide) (by decide)) (own_j HB (2 : Int32) (5 : Int32) (by decide) (by decide)) (own_j HB (2 : Int32) (6 : Int32) (by decide) (by decide)) (own_j HB (2 : Int32) (7 : Int32) (by decide) (by decide))) hZ (hw _ (List.mem_of_getElem? (i := 23) rfl)) (hw _ (List.mem_of_getElem? (i := 5) rfl)) (by decide) (by decide)) q21a q21c (g := (mkF m 199 #[.val (.int p0), .val (.int p1), .val (.int p2), .val (.int p3), .val (.int p4), .val (.int p5), .val (.int (3 : Int32)), .val (.int mm), .val (.int v20), .val (.int ofs), .val (.int v40), .val (.int v55), .val (.int bs), .val (.int bq), .val (.int tb), .val (.int pp), .val (.int qq), .val (.double (FP.i2d p4)), .second, .val (.double (FP.i2d p5)), .second, .val (.ref b4), .val (.ref b5), .val (.ref b6), .val (.ref b10)] [(.int (3 : Int32)), (.int bq), (.int bs), (.int tb), (.int v40), (.int v55), (.ref b6), (.ref b5), (.ref b4), (.ref b10)])) rfl (by rw [hml]; rfl) (Steps.refl _) (argsL := [(.ref b4), (.ref b5), (.ref b6), (.int v55), (.int v40), (.int tb), (.int bs), (.int bq), (.int (3 : Int32))]) (rest := []) (lenOf pd_2 rfl) rfl (by show 2 * 0 + _ ≤ _; exact Nat.le_of_eq rfl) (hb hby at_199) (fun _ _ => ⟨rfl, rfl, (by decide : 4 + 0 ≤ _), (by decide : 257 + 0 ≤ _)⟩)
    dsimp only [Pt.U, Pt.locs, Pt.cells, Pt.slots] at X21 l21 y21 z21 st21 hQ21
    subst l21 y21 z21
    obtain ⟨rfl, Nq21, K21, Gq21⟩ := hQ21
    have N21 := Fr.app N11 Nq21
    have G_b4 := G_b4.keep K21 (ninS ne_b4_b6 nin0)
    have G_b5 := G_b5.keep K21 (ninS ne_b5_b6 nin0)
    have E_b10 := E_b10.keep K21
    have F_alpha_b10 := F_alpha_b10.keep K21 (ninS (Ne.symm ne_b6_b10) nin0)
    have ZH := Nat.le_trans ZH K21.1
    have KK := KK.trans K21 (allS (Or.inr sz_b6) all0)
    have G_b6 := Gq21
    refine own_up (fun _ k => st21.trans k) ?_
    show own_Go p.tables e below _ (T21.setTop (mkF m 202 #[.val (.int p0), .val (.int p1), .val (.int p2), .val (.int p3), .val (.int p4), .val (.int p5), .val (.int (3 : Int32)), .val (.int mm), .val (.int v20), .val (.int ofs), .val (.int v40), .val (.int v55), .val (.int bs), .val (.int bq), .val (.int tb), .val (.int pp), .val (.int qq), .val (.double (FP.i2d p4)), .second, .val (.double (FP.i2d p5)), .second, .val (.ref b4), .val (.ref b5), .val (.ref b6), .val (.ref b10)] []))
    refine own_up (fun _ k => XS.aload X21.here hx rfl (hb hby at_202) rfl rfl k) ?_
    show own_Go p.tables e below _ (T21.setTop (mkF m 204 #[.val (.int p0), .val (.int p1), .val (.int p2), .val (.int p3), .val (.int p4), .val (.int p5), .val (.int (3 : Int32)), .val (.int mm), .val (.int v20), .val (.int ofs), .val (.int v40), .val (.int v55), .val (.int bs), .val (.int bq), .val (.int tb), .val (.int pp), .val (.int qq), .val (.double (FP.i2d p4)), .second, .val (.double (FP.i2d p5)), .second, .val (.ref b4), .val (.ref b5), .val (.ref b6), .val (.ref b10)] [(.ref b6)]))
    refine own_up (fun _ k => XS.iload X21.here hx rfl (hb hby at_204) rfl k) ?_
    show own_Go p.tables e below _ (T21.setTop (mkF m 206 #[.val (.int p0), .val (.int p1), .val (.int p2), .val (.int p3), .val (.int p4), .val (.int p5), .val (.int (3 : Int32)), .val (.int mm), .val (.int v20), .val (.int ofs), .val (.int v40), .val (.int v55), .val (.int bs), .val (.int bq), .val (.int tb), .val (.int pp), .val (.int qq), .val (.double (FP.i2d p4)), .second, .val (.double (FP.i2d p5)), .second, .val (.ref b4), .val (.ref b5), .val (.ref b6), .val (.ref b10)] [(.int pp), (.ref b6)]))
    refine own_up (fun _ k => own_Arf.daload G_b6 X21 hx hZ rfl ipp.1 ipp.2 (v := (.double ((own_T (own_T (own_T (own_ur0 pp) (FP.i2d p4) (own_ub0 qq (FP.i2d p5)) (v55 + (0 : Int32)) (tb + ((0 : Int32) * bs)) v40 bq) (FP.i2d p4) (own_ub0 qq (FP.i2d p5)) (v55 + (1 : Int32)) (tb + ((1 : Int32) * bs)) v40 bq) (FP.i2d p4) (own_ub0 qq (FP.i2d p5)) (v55 + (2 : Int32)) (tb + ((2 : Int32) * bs)) v40 bq) (pp).toNatClampNeg))) rfl (g := (mkF m 206 #[.val (.int p0), .val (.int p1), .val (.int p2), .val (.int p3), .val (.int p4), .val (.int p5), .val (.int (3 : Int32)), .val (.int mm), .val (.int v20), .val (.int ofs), .val (.int v40), .val (.int v55), .val (.int bs), .val (.int bq), .val (.int tb), .val (.int pp), .val (.int qq), .val (.double (FP.i2d p4)), .second, .val (.double (FP.i2d p5)), .second, .val (.ref b4), .val (.ref b5), .val (.ref b6), .val (.ref b10)] [(.int pp), (.ref b6)])) rfl rfl (hb hby at_206) _ k) ?_
    show own_Go p.tables e below _ (T21.setTop (mkF m 207 #[.val (.int p0), .val (.int p1), .val (.int p2), .val (.int p3), .val (.int p4), .val (.int p5), .val (.int (3 : Int32)), .val (.int mm), .val (.int v20), .val (.int ofs), .val (.int v40), .val (.int v55), .val (.int bs), .val (.int bq), .val (.int tb), .val (.int pp), .val (.int qq), .val (.double (FP.i2d p4)), .second, .val (.double (FP.i2d p5)), .second, .val (.ref b4), .val (.ref b5), .val (.ref b6), .val (.ref b10)] [(.double ((own_T (own_T (own_T (own_ur0 pp) (FP.i2d p4) (own_ub0 qq (FP.i2d p5)) (v55 + (0 : Int32)) (tb + ((0 : Int32) * bs)) v40 bq) (FP.i2d p4) (own_ub0 qq (FP.i2d p5)) (v55 + (1 : Int32)) (tb + ((1 : Int32) * bs)) v40 bq) (FP.i2d p4) (own_ub0 qq (FP.i2d p5)) (v55 + (2 : Int32)) (tb + ((2 : Int32) * bs)) v40 bq) (pp).toNatClampNeg))]))
    refine own_up (fun _ k => XS.iload X21.here hx rfl (hb hby at_207) rfl k) ?_
    show own_Go p.tables e below _ (T21.setTop (mkF m 209 #[.val (.int p0), .val (.int p1), .val (.int p2), .val (.int p3), .val (.int p4), .val (.int p5), .val (.int (3 : Int32)), .val (.int mm), .val (.int v20), .val (.int ofs), .val (.int v40), .val (.int v55), .val (.int bs), .val (.int bq), .val (.int tb), .val (.int pp), .val (.int qq), .val (.double (FP.i2d p4)), .second, .val (.double (FP.i2d p5)), .second, .val (.ref b4), .val (.ref b5), .val (.ref b6), .val (.ref b10)] [(.int (3 : Int32)), (.double ((own_T (own_T (own_T (own_ur0 pp) (FP.i2d p4) (own_ub0 qq (FP.i2d p5)) (v55 + (0 : Int32)) (tb + ((0 : Int32) * bs)) v40 bq) (FP.i2d p4) (own_ub0 qq (FP.i2d p5)) (v55 + (1 : Int32)) (tb + ((1 : Int32) * bs)) v40 bq) (FP.i2d p4) (own_ub0 qq (FP.i2d p5)) (v55 + (2 : Int32)) (tb + ((2 : Int32) * bs)) v40 bq) (pp).toNatClampNeg))]))
    refine own_up (fun _ k => XS.iload X21.here hx rfl (hb hby at_209) rfl k) ?_
    show own_Go p.tables e below _ (T21.setTop (mkF m 211 #[.val (.int p0), .val (.int p1), .val (.int p2), .val (.int p3), .val (.int p4), .val (.int p5), .val (.int (3 : Int32)), .val (.int mm), .val (.int v20), .val (.int ofs), .val (.int v40), .val (.int v55), .val (.int bs), .val (.int bq), .val (.int tb), .val (.int pp), .val (.int qq), .val (.double (FP.i2d p4)), .second, .val (.double (FP.i2d p5)), .second, .val (.ref b4), .val (.ref b5), .val (.ref b6), .val (.ref b10)] [(.int mm), (.int (3 : Int32)), (.double ((own_T (own_T (own_T (own_ur0 pp) (FP.i2d p4) (own_ub0 qq (FP.i2d p5)) (v55 + (0 : Int32)) (tb + ((0 : Int32) * bs)) v40 bq) (FP.i2d p4) (own_ub0 qq (FP.i2d p5)) (v55 + (1 : Int32)) (tb + ((1 : Int32) * bs)) v40 bq) (FP.i2d p4) (own_ub0 qq (FP.i2d p5)) (v55 + (2 : Int32)) (tb + ((2 : Int32) * bs)) v40 bq) (pp).toNatClampNeg))]))
    refine own_up (fun _ k => XS.iload X21.here hx rfl (hb hby at_211) rfl k) ?_
    show own_Go p.tables e below _ (T21.setTop (mkF m 213 #[.val (.int p0), .val (.int p1), .val (.int p2), .val (.int p3), .val (.int p4), .val (.int p5), .val (.int (3 : Int32)), .val (.int mm), .val (.int v20), .val (.int ofs), .val (.int v40), .val (.int v55), .val (.int bs), .val (.int bq), .val (.int tb), .val (.int pp), .val (.int qq), .val (.double (FP.i2d p4)), .second, .val (.double (FP.i2d p5)), .second, .val (.ref b4), .val (.ref b5), .val (.ref b6), .val (.ref b10)] [(.int v20), (.int mm), (.int (3 : Int32)), (.double ((own_T (own_T (own_T (own_ur0 pp) (FP.i2d p4) (own_ub0 qq (FP.i2d p5)) (v55 + (0 : Int32)) (tb + ((0 : Int32) * bs)) v40 bq) (FP.i2d p4) (own_ub0 qq (FP.i2d p5)) (v55 + (1 : Int32)) (tb + ((1 : Int32) * bs)) v40 bq) (FP.i2d p4) (own_ub0 qq (FP.i2d p5)) (v55 + (2 : Int32)) (tb + ((2 : Int32) * bs)) v40 bq) (pp).toNatClampNeg))]))
    refine own_up (fun _ k => XS.iload X21.here hx rfl (hb hby at_213) rfl k) ?_
    show own_Go p.tables e below _ (T21.setTop (mkF m 215 #[.val (.int p0), .val (.int p1), .val (.int p2), .val (.int p3), .val (.int p4), .val (.int p5), .val (.int (3 : Int32)), .val (.int mm), .val (.int v20), .val (.int ofs), .val (.int v40), .val (.int v55), .val (.int bs), .val (.int bq), .val (.int tb), .val (.int pp), .val (.int qq), .val (.double (FP.i2d p4)), .second, .val (.double (FP.i2d p5)), .second, .val (.ref b4), .val (.ref b5), .val (.ref b6), .val (.ref b10)] [(.int v55), (.int v20), (.int mm), (.int (3 : Int32)), (.double ((own_T (own_T (own_T (own_ur0 pp) (FP.i2d p4) (own_ub0 qq (FP.i2d p5)) (v55 + (0 : Int32)) (tb + ((0 : Int32) * bs)) v40 bq) (FP.i2d p4) (own_ub0 qq (FP.i2d p5)) (v55 + (1 : Int32)) (tb + ((1 : Int32) * bs)) v40 bq) (FP.i2d p4) (own_ub0 qq (FP.i2d p5)) (v55 + (2 : Int32)) (tb + ((2 : Int32) * bs)) v40 bq) (pp).toNatClampNeg))]))
    refine own_up (fun _ k => XS.iload X21.here hx rfl (hb hby at_215) rfl k) ?_
    show own_Go p.tables e below _ (T21.setTop (mkF m 217 #[.val (.int p0), .val (.int p1), .val (.int p2), .val (.int p3), .val (.int p4), .val (.int p5), .val (.int (3 : Int32)), .val (.int mm), .val (.int v20), .val (.int ofs), .val (.int v40), .val (.int v55), .val (.int bs), .val (.int bq), .val (.int tb), .val (.int pp), .val (.int qq), .val (.double (FP.i2d p4)), .second, .val (.double (FP.i2d p5)), .second, .val (.ref b4), .val (.ref b5), .val (.ref b6), .val (.ref b10)] [(.int tb), (.int v55), (.int v20), (.int mm), (.int (3 : Int32)), (.double ((own_T (own_T (own_T (own_ur0 pp) (FP.i2d p4) (own_ub0 qq (FP.i2d p5)) (v55 + (0 : Int32)) (tb + ((0 : Int32) * bs)) v40 bq) (FP.i2d p4) (own_ub0 qq (FP.i2d p5)) (v55 + (1 : Int32)) (tb + ((1 : Int32) * bs)) v40 bq) (FP.i2d p4) (own_ub0 qq (FP.i2d p5)) (v55 + (2 : Int32)) (tb + ((2 : Int32) * bs)) v40 bq) (pp).toNatClampNeg))]))
    refine own_up (fun _ k => XS.iload X21.here hx rfl (hb hby at_217) rfl k) ?_
    show own_Go p.tables e below _ (T21.setTop (mkF m 219 #[.val (.int p0), .val (.int p1), .val (.int p2), .val (.int p3), .val (.int p4), .val (.int p5), .val (.int (3 : Int32)), .val (.int mm), .val (.int v20), .val (.int ofs), .val (.int v40), .val (.int v55), .val (.int bs), .val (.int bq), .val (.int tb), .val (.int pp), .val (.int qq), .val (.double (FP.i2d p4)), .second, .val (.double (FP.i2d p5)), .second, .val (.ref b4), .val (.ref b5), .val (.ref b6), .val (.ref b10)] [(.int bs), (.int tb), (.int v55), (.int v20), (.int mm), (.int (3 : Int32)), (.double ((own_T (own_T (own_T (own_ur0 pp) (FP.i2d p4) (own_ub0 qq (FP.i2d p5)) (v55 + (0 : Int32)) (tb + ((0 : Int32) * bs)) v40 bq) (FP.i2d p4) (own_ub0 qq (FP.i2d p5)) (v55 + (1 : Int32)) (tb + ((1 : Int32) * bs)) v40 bq) (FP.i2d p4) (own_ub0 qq (FP.i2d p5)) (v55 + (2 : Int32)) (tb + ((2 : Int32) * bs)) v40 bq) (pp).toNatClampNeg))]))
    refine own_up (fun _ k => XS.iload X21.here hx rfl (hb hby at_219) rfl k) ?_
    show own_Go p.tables e below _ (T21.setTop (mkF m 221 #[.val (.int p0), .val (.int p1), .val (.int p2), .val (.int p3), .val (.int p4), .val (.int p5), .val (.int (3 : Int32)), .val (.int mm), .val (.int v20), .val (.int ofs), .val (.int v40), .val (.int v55), .val (.int bs), .val (.int bq), .val (.int tb), .val (.int pp), .val (.int qq), .val (.double (FP.i2d p4)), .second, .val (.double (FP.i2d p5)), .second, .val (.ref b4), .val (.ref b5), .val (.ref b6), .val (.ref b10)] [(.int bq), (.int bs), (.int tb), (.int v55), (.int v20), (.int mm), (.int (3 : Int32)), (.double ((own_T (own_T (own_T (own_ur0 pp) (FP.i2d p4) (own_ub0 qq (FP.i2d p5)) (v55 + (0 : Int32)) (tb + ((0 : Int32) * bs)) v40 bq) (FP.i2d p4) (own_ub0 qq (FP.i2d p5)) (v55 + (1 : Int32)) (tb + ((1 : Int32) * bs)) v40 bq) (FP.i2d p4) (own_ub0 qq (FP.i2d p5)) (v55 + (2 : Int32)) (tb + ((2 : Int32) * bs)) v40 bq) (pp).toNatClampNeg))]))
    refine own_up (fun _ k => XS.iload X21.here hx rfl (hb hby at_221) rfl k) ?_
    show own_Go p.tables e below _ (T21.setTop (mkF m 223 #[.val (.int p0), .val (.int p1), .val (.int p2), .val (.int p3), .val (.int p4), .val (.int p5), .val (.int (3 : Int32)), .val (.int mm), .val (.int v20), .val (.int ofs), .val (.int v40), .val (.int v55), .val (.int bs), .val (.int bq), .val (.int tb), .val (.int pp), .val (.int qq), .val (.double (FP.i2d p4)), .second, .val (.double (FP.i2d p5)), .second, .val (.ref b4), .val (.ref b5), .val (.ref b6), .val (.ref b10)] [(.int pp), (.int bq), (.int bs), (.int tb), (.int v55), (.int v20), (.int mm), (.int (3 : Int32)), (.double ((own_T (own_T (own_T (own_ur0 pp) (FP.i2d p4) (own_ub0 qq (FP.i2d p5)) (v55 + (0 : Int32)) (tb + ((0 : Int32) * bs)) v40 bq) (FP.i2d p4) (own_ub0 qq (FP.i2d p5)) (v55 + (1 : Int32)) (tb + ((1 : Int32) * bs)) v40 bq) (FP.i2d p4) (own_ub0 qq (FP.i2d p5)) (v55 + (2 : Int32)) (tb + ((2 : Int32) * bs)) v40 bq) (pp).toNatClampNeg))]))
    refine own_up (fun _ k => XS.iload X21.here hx rfl (hb hby at_223) rfl k) ?_
    show own_Go p.tables e below _ (T21.setTop (mkF m 225 #[.val (.int p0), .val (.int p1), .val (.int p2), .val (.int p3), .val (.int p4), .val (.int p5), .val (.int (3 : Int32)), .val (.int mm), .val (.int v20), .val (.int ofs), .val (.int v40), .val (.int v55), .val (.int bs), .val (.int bq), .val (.int tb), .val (.int pp), .val (.int qq), .val (.double (FP.i2d p4)), .second, .val (.double (FP.i2d p5)), .second, .val (.ref b4), .val (.ref b5), .val (.ref b6), .val (.ref b10)] [(.int qq), (.int pp), (.int bq), (.int bs), (.int tb), (.int v55), (.int v20), (.int mm), (.int (3 : Int32)), (.double ((own_T (own_T (own_T (own_ur0 pp) (FP.i2d p4) (own_ub0 qq (FP.i2d p5)) (v55 + (0 : Int32)) (tb + ((0 : Int32) * bs)) v40 bq) (FP.i2d p4) (own_ub0 qq (FP.i2d p5)) (v55 + (1 : Int32)) (tb + ((1 : Int32) * bs)) v40 bq) (FP.i2d p4) (own_ub0 qq (FP.i2d p5)) (v55 + (2 : Int32)) (tb + ((2 : Int32) * bs)) v40 bq) (pp).toNatClampNeg))]))
    refine own_up (fun _ k => XS.dload X21.here hx rfl (hb hby at_225) rfl k) ?_
    show own_Go p.tables e below _ (T21.setTop (mkF m 227 #[.val (.int p0), .val (.int p1), .val (.int p2), .val (.int p3), .val (.int p4), .val (.int p5), .val (.int (3 : Int32)), .val (.int mm), .val (.int v20), .val (.int ofs), .val (.int v40), .val (.int v55), .val (.int bs), .val (.int bq), .val (.int tb), .val (.int pp), .val (.int qq), .val (.double (FP.i2d p4)), .second, .val (.double (FP.i2d p5)), .second, .val (.ref b4), .val (.ref b5), .val (.ref b6), .val (.ref b10)] [(.double (FP.i2d p4)), (.int qq), (.int pp), (.int bq), (.int bs), (.int tb), (.int v55), (.int v20), (.int mm), (.int (3 : Int32)), (.double ((own_T (own_T (own_T (own_ur0 pp) (FP.i2d p4) (own_ub0 qq (FP.i2d p5)) (v55 + (0 : Int32)) (tb + ((0 : Int32) * bs)) v40 bq) (FP.i2d p4) (own_ub0 qq (FP.i2d p5)) (v55 + (1 : Int32)) (tb + ((1 : Int32) * bs)) v40 bq) (FP.i2d p4) (own_ub0 qq (FP.i2d p5)) (v55 + (2 : Int32)) (tb + ((2 : Int32) * bs)) v40 bq) (pp).toNatClampNeg))]))
    refine own_up (fun _ k => XS.dload X21.here hx rfl (hb hby at_227) rfl k) ?_
    show own_Go p.tables e below _ (T21.setTop (mkF m 229 #[.val (.int p0), .val (.int p1), .val (.int p2), .val (.int p3), .val (.int p4), .val (.int p5), .val (.int (3 : Int32)), .val (.int mm), .val (.int v20), .val (.int ofs), .val (.int v40), .val (.int v55), .val (.int bs), .val (.int bq), .val (.int tb), .val (.int pp), .val (.int qq), .val (.double (FP.i2d p4)), .second, .val (.double (FP.i2d p5)), .second, .val (.ref b4), .val (.ref b5), .val (.ref b6), .val (.ref b10)] [(.double (FP.i2d p5)), (.double (FP.i2d p4)), (.int qq), (.int pp), (.int bq), (.int bs), (.int tb), (.int v55), (.int v20), (.int mm), (.int (3 : Int32)), (.double ((own_T (own_T (own_T (own_ur0 pp) (FP.i2d p4) (own_ub0 qq (FP.i2d p5)) (v55 + (0 : Int32)) (tb + ((0 : Int32) * bs)) v40 bq) (FP.i2d p4) (own_ub0 qq (FP.i2d p5)) (v55 + (1 : Int32)) (tb + ((1 : Int32) * bs)) v40 bq) (FP.i2d p4) (own_ub0 qq (FP.i2d p5)) (v55 + (2 : Int32)) (tb + ((2 : Int32) * bs)) v40 bq) (pp).toNatClampNeg))]))
    obtain ⟨_, _, ⟨T22, L22, k22, n22⟩, -, X22, ⟨Lc22, hQ22, l22, y22, z22⟩, st22⟩ := Jvm.LawKit.callS X21 hx (y := (⟨"com/example/indexica/indexica/ScaledEightRowsPinLaw", "expected", "(IIZIIIIIIDD)D"⟩ : MethodName)) hown (mvT hZ (hw _ (List.mem_of_getElem? (i := 24) rfl))) (mvT hZ (hw _ (List.mem_of_getElem? (i := 25) rfl))) (mvT hZ (hw _ (List.mem_of_getElem? (i := 26) rfl))) (mvT hZ (hw _ (List.mem_of_getElem? (i := 27) rfl))) (by decide) (backOf (W := 2) (rmX l Z a0 hw [] (3 : Int32) mm v20 v55 tb bs bq pp qq (FP.i2d p4) (FP.i2d p5) T21.heap n0 ZH (own_mne HB) (i2d_fin p4) (i2d_fin p5)) hZ (hw _ (List.mem_of_getElem? (i := 27) rfl)) (hw _ (List.mem_of_getElem? (i := 26) rfl)) (by decide) (by decide)) (g := (mkF m 229 #[.val (.int p0), .val (.int p1), .val (.int p2), .val (.int p3), .val (.int p4), .val (.int p5), .val (.int (3 : Int32)), .val (.int mm), .val (.int v20), .val (.int ofs), .val (.int v40), .val (.int v55), .val (.int bs), .val (.int bq), .val (.int tb), .val (.int pp), .val (.int qq), .val (.double (FP.i2d p4)), .second, .val (.double (FP.i2d p5)), .second, .val (.ref b4), .val (.ref b5), .val (.ref b6), .val (.ref b10)] [(.double (FP.i2d p5)), (.double (FP.i2d p4)), (.int qq), (.int pp), (.int bq), (.int bs), (.int tb), (.int v55), (.int v20), (.int mm), (.int (3 : Int32)), (.double ((own_T (own_T (own_T (own_ur0 pp) (FP.i2d p4) (own_ub0 qq (FP.i2d p5)) (v55 + (0 : Int32)) (tb + ((0 : Int32) * bs)) v40 bq) (FP.i2d p4) (own_ub0 qq (FP.i2d p5)) (v55 + (1 : Int32)) (tb + ((1 : Int32) * bs)) v40 bq) (FP.i2d p4) (own_ub0 qq (FP.i2d p5)) (v55 + (2 : Int32)) (tb + ((2 : Int32) * bs)) v40 bq) (pp).toNatClampNeg))])) rfl (by rw [hml]; rfl) (argsL := [(.int (3 : Int32)), (.int mm), (.int v20), (.int v55), (.int tb), (.int bs), (.int bq), (.int pp), (.int qq), (.double (FP.i2d p4)), (.double (FP.i2d p5))]) (rest := [(.double ((own_T (own_T (own_T (own_ur0 pp) (FP.i2d p4) (own_ub0 qq (FP.i2d p5)) (v55 + (0 : Int32)) (tb + ((0 : Int32) * bs)) v40 bq) (FP.i2d p4) (own_ub0 qq (FP.i2d p5)) (v55 + (1 : Int32)) (tb + ((1 : Int32) * bs)) v40 bq) (FP.i2d p4) (own_ub0 qq (FP.i2d p5)) (v55 + (2 : Int32)) (tb + ((2 : Int32) * bs)) v40 bq) (pp).toNatClampNeg))]) (lenOf pd_3 rfl) rfl (by show 2 * 0 + _ ≤ _; exact Nat.le_of_eq rfl) (hb hby at_229) (fun _ _ => ⟨rfl, rfl, (by decide : 4 + 0 ≤ _), (by decide : 257 + 0 ≤ _)⟩)
    dsimp only [Pt.U, Pt.locs, Pt.cells, Pt.slots] at X22 l22 y22 z22 st22 hQ22
    subst l22 y22 z22
    obtain ⟨rfl, Nq22, e22⟩ := hQ22
    have N22 := Fr.app N21 Nq22
    refine own_up st22 ?_
    show own_Go p.tables e below _ (T22.setTop (mkF m 232 #[.val (.int p0), .val (.int p1), .val (.int p2), .val (.int p3), .val (.int p4), .val (.int p5), .val (.int (3 : Int32)), .val (.int mm), .val (.int v20), .val (.int ofs), .val (.int v40), .val (.int v55), .val (.int bs), .val (.int bq), .val (.int tb), .val (.int pp), .val (.int qq), .val (.double (FP.i2d p4)), .second, .val (.double (FP.i2d p5)), .second, .val (.ref b4), .val (.ref b5), .val (.ref b6), .val (.ref b10)] [(.double (own_exp (3 : Int32) mm v20 v55 tb bs bq pp qq (FP.i2d p4) (FP.i2d p5))), (.double ((own_T (own_T (own_T (own_ur0 pp) (FP.i2d p4) (own_ub0 qq (FP.i2d p5)) (v55 + (0 : Int32)) (tb + ((0 : Int32) * bs)) v40 bq) (FP.i2d p4) (own_ub0 qq (FP.i2d p5)) (v55 + (1 : Int32)) (tb + ((1 : Int32) * bs)) v40 bq) (FP.i2d p4) (own_ub0 qq (FP.i2d p5)) (v55 + (2 : Int32)) (tb + ((2 : Int32) * bs)) v40 bq) (pp).toNatClampNeg))]))
    refine own_up (fun _ k => XS.dcmpS X22.here hx rfl (v := (cmpValue (FP.dcmp ((own_T (own_T (own_T (own_ur0 pp) (FP.i2d p4) (own_ub0 qq (FP.i2d p5)) (v55 + (0 : Int32)) (tb + ((0 : Int32) * bs)) v40 bq) (FP.i2d p4) (own_ub0 qq (FP.i2d p5)) (v55 + (1 : Int32)) (tb + ((1 : Int32) * bs)) v40 bq) (FP.i2d p4) (own_ub0 qq (FP.i2d p5)) (v55 + (2 : Int32)) (tb + ((2 : Int32) * bs)) v40 bq) (pp).toNatClampNeg) (own_exp (3 : Int32) mm v20 v55 tb bs bq pp qq (FP.i2d p4) (FP.i2d p5))) .l)) (hb hby at_232) rfl rfl k) ?_
    show own_Go p.tables e below _ (T22.setTop (mkF m 233 #[.val (.int p0), .val (.int p1), .val (.int p2), .val (.int p3), .val (.int p4), .val (.int p5), .val (.int (3 : Int32)), .val (.int mm), .val (.int v20), .val (.int ofs), .val (.int v40), .val (.int v55), .val (.int bs), .val (.int bq), .val (.int tb), .val (.int pp), .val (.int qq), .val (.double (FP.i2d p4)), .second, .val (.double (FP.i2d p5)), .second, .val (.ref b4), .val (.ref b5), .val (.ref b6), .val (.ref b10)] [(.int (cmpValue (FP.dcmp ((own_T (own_T (own_T (own_ur0 pp) (FP.i2d p4) (own_ub0 qq (FP.i2d p5)) (v55 + (0 : Int32)) (tb + ((0 : Int32) * bs)) v40 bq) (FP.i2d p4) (own_ub0 qq (FP.i2d p5)) (v55 + (1 : Int32)) (tb + ((1 : Int32) * bs)) v40 bq) (FP.i2d p4) (own_ub0 qq (FP.i2d p5)) (v55 + (2 : Int32)) (tb + ((2 : Int32) * bs)) v40 bq) (pp).toNatClampNeg) (own_exp (3 : Int32) mm v20 v55 tb bs bq pp qq (FP.i2d p4) (FP.i2d p5))) .l))]))
    refine own_up (fun _ k => XS.ifNo X22.here hx rfl (hb hby at_233) rfl ((if0 _ _).trans (teq (dcmpV_eq (own_f3 (al := FP.i2d p4) (va := FP.i2d p5) HB) (by rw [own_f3 (al := FP.i2d p4) (va := FP.i2d p5) HB]; exact own_expnn _ _ _ _ _ _ _ _ _ _ _) .l)).2) k) ?_
    show own_Go p.tables e below _ (T22.setTop (mkF m 236 #[.val (.int p0), .val (.int p1), .val (.int p2), .val (.int p3), .val (.int p4), .val (.int p5), .val (.int (3 : Int32)), .val (.int mm), .val (.int v20), .val (.int ofs), .val (.int v40), .val (.int v55), .val (.int bs), .val (.int bq), .val (.int tb), .val (.int pp), .val (.int qq), .val (.double (FP.i2d p4)), .second, .val (.double (FP.i2d p5)), .second, .val (.ref b4), .val (.ref b5), .val (.ref b6), .val (.ref b10)] []))
    refine own_up (fun _ k => XS.iconst X22.here hx rfl (hb hby at_236) k) ?_
    show own_Go p.tables e below _ (T22.setTop (mkF m 237 #[.val (.int p0), .val (.int p1), .val (.int p2), .val (.int p3), .val (.int p4), .val (.int p5), .val (.int (3 : Int32)), .val (.int mm), .val (.int v20), .val (.int ofs), .val (.int v40), .val (.int v55), .val (.int bs), .val (.int bq), .val (.int tb), .val (.int pp), .val (.int qq), .val (.double (FP.i2d p4)), .second, .val (.double (FP.i2d p5)), .second, .val (.ref b4), .val (.ref b5), .val (.ref b6), .val (.ref b10)] [(.int (1 : Int32))]))
    refine own_up (fun _ k => XS.goto X22.here hx rfl (pc0 := 237) (pc' := 241) rfl (hb hby at_237) (by decide) (by decide) k) ?_
    show own_Go p.tables e below _ (T22.setTop (mkF m 241 #[.val (.int p0), .val (.int p1), .val (.int p2), .val (.int p3), .val (.int p4), .val (.int p5), .val (.int (3 : Int32)), .val (.int mm), .val (.int v20), .val (.int ofs), .val (.int v40), .val (.int v55), .val (.int bs), .val (.int bq), .val (.int tb), .val (.int pp), .val (.int qq), .val (.double (FP.i2d p4)), .second, .val (.double (FP.i2d p5)), .second, .val (.ref b4), .val (.ref b5), .val (.ref b6), .val (.ref b10)] [(.int (1 : Int32))]))
    obtain ⟨fs23, hr23, hrun23, hended23, hW23, hsame23⟩ := X22.leave (v := some (.int (1 : Int32))) (fun h => by rw [Bd.returns] at h; cases h)
    refine own_end ⟨_, _, ?_, hrun23, hended23, _, _, rfl, ?_, ⟨_, rfl⟩, hW23, hsame23.mono (by decide) (by decide)⟩
    · exact retN X22 hx (t := .boolean) Bd.returns (by simp) (hb hby at_241) hr23
    · show Qrm0 Z p0 p1 p2 p3 p4 p5 h0 n0 _ T22.heap _
      rw [e22]
      exact ⟨rfl, N22⟩
set_option maxRecDepth 65536 in
set_option maxHeartbeats 40000000 in
theorem comes_1 {Post : Tables → Env → Array Value → State → Outcome → State → Prop} (hpost : ∀ tb e args s v u, (limb_1_1.after args s (.returned v) u = true ∧ limb_1_2.after args s (.returned v) u = true ∧ True) → FrameEnd s (.returned v) u (Jvm.fieldLocs frame_1_writes args s ++ Jvm.arrayLocs frame_1_arrays args s ++ Jvm.staticLocs frame_1_statics s) 16 640 → Post tb e args s (.returned v) u) :
    ArmFor flags0 classFile x code maxLocals ret World_1 tables_1 room_1 Calls_1 rest_1 Pre_1 Post := by
  intro l hfl _ _ p e ha hc hk s m args below hf hA hF happ hP
  obtain ⟨hcalls, hrest, hpre⟩ := hP
  obtain ⟨-, -, -, hnamed, -, -, -, hat⟩ := (Spec.applies_iff hf).mp happ
  obtain ⟨hg, hn⟩ := and_e (Cond.before_iff.mp (show (Jvm.Cond.and given_1 narrow_1).before args s = true from hpre))
  obtain ⟨gA0, gB0⟩ := and_e hg
  obtain ⟨gA1, gB1⟩ := and_e gB0
  obtain ⟨gA2, gB2⟩ := and_e gB1
  obtain ⟨gA3, gB3⟩ := and_e gB2
  obtain ⟨gA4, gB4⟩ := and_e gB3
  obtain ⟨gA5, gB5⟩ := and_e gB4
  obtain ⟨w0, w1, w2, w3, w4, w5, rfl⟩ : ∃ w0 w1 w2 w3 w4 w5 : Value, args = #[w0, w1, w2, w3, w4, w5] := by
    have hs : args.size = 6 := by simpa [Cond.value, given_1] using gA0
    obtain ⟨L⟩ := args
    match L, hs with
    | [w0, w1, w2, w3, w4, w5], _ => exact ⟨w0, w1, w2, w3, w4, w5, rfl⟩
  have hw := fun d (hd : d ∈ tables_1) => atoms_spec (ws := Jvm.Cond.code x code maxLocals ret :: tables_1) hat d (List.mem_cons_of_mem _ hd)
  have hfit : Fit s := fun {y c} hc i hi => by
    obtain ⟨ha, rfl⟩ := Array.getElem?_eq_some_iff.mp hc
    have q := List.all_eq_true.mp ((Array.all_eq_true_iff_forall_mem.mp hF) _ (Array.getElem_mem ha)) i (List.mem_range.mpr hi)
    simpa [Array.getElem?_eq_getElem hi] using q
  obtain ⟨i0, ei0⟩ := is_v gA1
  obtain rfl : w0 = (.int i0) := Option.some.inj ei0
  obtain ⟨i1, ei1⟩ := is_v gA2
  obtain rfl : w1 = (.int i1) := Option.some.inj ei1
  obtain ⟨i2, ei2⟩ := is_v gA3
  obtain rfl : w2 = (.int i2) := Option.some.inj ei2
  obtain ⟨i3, ei3⟩ := is_v gA4
  obtain rfl : w3 = (.int i3) := Option.some.inj ei3
  obtain ⟨i4, ei4⟩ := is_v gA5
  obtain rfl : w4 = (.int i4) := Option.some.inj ei4
  obtain ⟨i5, ei5⟩ := is_v gB5
  obtain rfl : w5 = (.int i5) := Option.some.inj ei5
  obtain ⟨n, o, h1, h2, h3, _, L, rfl, ⟨rfl, N⟩, hq⟩ := rm0 l s _ hw tables_1 i0 i1 i2 i3 i4 i5 s.heap s.heap.size (Nat.le_refl _) p e ha hc hk s m _ below hf ((Spec.applies_iff_loose hf).mp happ).1 ⟨rfl, State.Warmed39.refl s, rfl⟩ trivial
  refine ⟨n, _, h1, h2, h3, hpost _ _ _ _ _ _ ⟨Cond.after_iff.mpr rfl, Cond.after_iff.mpr (eq_i res_at (Term.int_eval (1)) rfl), trivial⟩ ⟨hq.1, hq.2.1, (hq.2.2.sift fun y hy => Or.inr (N y hy)).mono (by decide) (by decide)⟩⟩
theorem main_1_1 : Claimed_1_1 := comes_1 fun _ _ _ _ _ _ h hF => ⟨h.1, hF⟩
theorem main_1_2 : Claimed_1_2 := comes_1 fun _ _ _ _ _ _ h hF => ⟨h.2.1, hF⟩
end Jvm.Pilot.@@N@@
namespace Jvm.Pilot.@@N@@
open Jvm Jvm.ClassFile Sem Op Lib Jvm.Free Jvm.Stand Jvm.Pilot.@@N@@.Jvm.D
/-! MADE BY PROGRAM (witnessworld.py) out of the Statement's table words and the real class files: 13 classes; the members and pool entries that the words name. The judged class is class 1, her method 1. -/
namespace start1
open Jvm.ClassFile
def u (s : String) : CpInfo := .utf8 (stringToUtf16 s)
/-- a pool by its gaps: so many unusable entries, then the entry; so many at the end -/
def gap : Nat → List CpInfo → List CpInfo
  | 0, r => r
  | n + 1, r => .unusable :: gap n r
def poolList (es : List (Nat × CpInfo)) (last : Nat) : List CpInfo := es.foldr (fun e r => gap e.1 (e.2 :: r)) (gap last [])
def pool (es : List (Nat × CpInfo)) (last : Nat) : Array CpInfo := ⟨poolList es last⟩
def fileOf (pool : Array CpInfo) (this : Nat) (attrs : Array Attribute := #[]) (ms : Array MethodInfo := #[]) (fl : Nat := 33) (sup : Nat := 0) (ifs : Array Nat := #[]) (fds : Array FieldInfo := #[]) : ClassFile where
  minorVersion := 0
  majorVersion := 65
  constantPool := pool
  accessFlags := fl
  thisClass := this
  superClass := sup
  interfaces := ifs
  fields := fds
  methods := ms
  attributes := attrs
def plain (name : String) (sup : Option ClassId) : Class where
  name := name
  kind := .ordinary
  loader := none
  accessFlags := 33
  super := sup
  interfaces := #[]
  cf := none
  fields := #[]
  methods := #[]
  instanceTypes := #[]
  staticTypes := #[]
  resolved := #[]
  callSites := []
  init := .initialized
  statics := none
  mirror := none

def pool0 : Array CpInfo := pool [(5, u "<init>"), (0, u "()V"), (1, .class_ 10), (1, u "java/lang/Object")] 113

def k0c0 : Code := { maxStack := 0, maxLocals := 1, code := object_method_1_code, exceptionTable := #[], attributes := #[] }
def k0m0 : Method := { name := "<init>", desc := "()V", sig := { parameters := [], returnType := none }, accessFlags := 1, code := some k0c0 }
/-- java/lang/Object -/
def k0 : Class := { plain "java/lang/Object" none with
  accessFlags := 33
  interfaces := #[]
  cf := some (fileOf pool0 8 #[] #[{ accessFlags := 1, nameIndex := 5, descriptorIndex := 6, attributes := #[] }] 33 0 #[] #[])
  fields := #[]
  methods := #[k0m0]
  instanceTypes := #[]
  staticTypes := #[]
  resolved := Array.replicate 124 none
  statics := none }

def pool1 : Array CpInfo := pool [(2, .class_ 4), (1, u "java/lang/Object"), (0, u "<init>"), (0, u "()V"), (0, .double 4598175219545276416), (1, .double 4602678819172646912), (1, .class_ 12), (0, u "com/example/indexica/indexica/Scaled"), (0, .methodref 11 14), (0, .nameAndType 5 15), (0, u "(D)V"), (0, .methodref 11 17), (0, .nameAndType 18 19), (0, u "eightRows"), (0, u "([D[D[DIIIIII)V"), (0, .methodref 21 22), (0, .class_ 23), (0, .nameAndType 24 25), (0, u "com/example/indexica/indexica/ScaledEightRowsPinLaw"), (0, u "expected"), (0, u "(IIZIIIIIIDD)D"), (2, u "law"), (0, u "(IIIIII)Z")] 5

def k1m0 : Method := { name := "<init>", desc := "()V", sig := { parameters := [], returnType := none }, accessFlags := 1, code := none }
def k1c1 : Code := { maxStack := 15, maxLocals := 25, code := code, exceptionTable := #[], attributes := #[] }
def k1m1 : Method := { name := "law", desc := "(IIIIII)Z", sig := { parameters := [.int, .int, .int, .int, .int, .int], returnType := some .boolean }, accessFlags := 9, code := some k1c1 }
def k1c2 : Code := { maxStack := 4, maxLocals := 21, code := method_3_code, exceptionTable := #[], attributes := #[] }
def k1m2 : Method := { name := "expected", desc := "(IIZIIIIIIDD)D", sig := { parameters := [.int, .int, .boolean, .int, .int, .int, .int, .int, .int, .double, .double], returnType := some .double }, accessFlags := 10, code := some k1c2 }
/-- com/example/indexica/indexica/ScaledEightRowsPinLaw -/
def k1 : Class := { plain "com/example/indexica/indexica/ScaledEightRowsPinLaw" (some 0) with
  accessFlags := 49
  interfaces := #[]
  cf := some (fileOf pool1 21 #[] #[{ accessFlags := 1, nameIndex := 5, descriptorIndex := 6, attributes := #[] }, { accessFlags := 9, nameIndex := 28, descriptorIndex := 29, attributes := #[] }, { accessFlags := 10, nameIndex := 24, descriptorIndex := 25, attributes := #[] }] 49 2 #[] #[])
  fields := #[]
  methods := #[k1m0, k1m1, k1m2]
  instanceTypes := #[]
  staticTypes := #[]
  resolved := Array.replicate 35 none
  statics := none }

def pool2 : Array CpInfo := pool [(1, .methodref 2 3), (0, .class_ 4), (0, .nameAndType 5 6), (0, u "java/lang/Object"), (0, u "<init>"), (0, u "()V"), (0, .class_ 8), (0, u "java/lang/Record")] 13

def k2c0 : Code := { maxStack := 1, maxLocals := 1, code := jdk_30_method_1_code, exceptionTable := #[], attributes := #[] }
def k2m0 : Method := { name := "<init>", desc := "()V", sig := { parameters := [], returnType := none }, accessFlags := 4, code := some k2c0 }
/-- java/lang/Record -/
def k2 : Class := { plain "java/lang/Record" (some 0) with
  accessFlags := 1057
  interfaces := #[]
  cf := some (fileOf pool2 7 #[] #[{ accessFlags := 4, nameIndex := 5, descriptorIndex := 6, attributes := #[] }] 1057 2 #[] #[])
  fields := #[]
  methods := #[k2m0]
  instanceTypes := #[]
  staticTypes := #[]
  resolved := Array.replicate 22 none
  statics := none }

def pool3 : Array CpInfo := pool [(10, .class_ 12), (1, u "com/example/indexica/indexica/ElementKernel"), (4, .class_ 18), (0, u "com/example/indexica/indexica/ElementKernel$1Walk"), (61, .class_ 81), (0, u "java/lang/Object"), (0, u "TILE"), (0, u "I"), (2, u "TILED_PASS")] 41

/-- com/example/indexica/indexica/ElementKernel -/
def k3 : Class := { plain "com/example/indexica/indexica/ElementKernel" (some 0) with
  accessFlags := 1536
  interfaces := #[]
  cf := some (fileOf pool3 10 #[.nestMembers #[17]] #[] 1536 80 #[] #[{ accessFlags := 25, nameIndex := 82, descriptorIndex := 83, attributes := #[] }, { accessFlags := 25, nameIndex := 86, descriptorIndex := 83, attributes := #[] }])
  fields := #[{ name := "TILE", type := .int, accessFlags := 25, slot := 0, constantValue := 0 }, { name := "TILED_PASS", type := .int, accessFlags := 25, slot := 1, constantValue := 0 }]
  methods := #[]
  instanceTypes := #[]
  staticTypes := #[.int, .int]
  resolved := Array.replicate 128 none
  statics := none }

def pool4 : Array CpInfo := pool [(1, .methodref 2 3), (0, .class_ 4), (0, .nameAndType 5 6), (0, u "java/lang/Record"), (0, u "<init>"), (0, u "()V"), (0, .fieldref 8 9), (0, .class_ 10), (0, .nameAndType 11 12), (0, u "com/example/indexica/indexica/Scaled"), (0, u "alpha"), (0, u "D"), (22, .class_ 36), (0, u "com/example/indexica/indexica/ElementKernel"), (0, u "(D)V"), (4, u "eightRows"), (0, u "([D[D[DIIIIII)V")] 37

def k4c0 : Code := { maxStack := 3, maxLocals := 3, code := prog_84_method_1_code, exceptionTable := #[], attributes := #[] }
def k4m0 : Method := { name := "<init>", desc := "(D)V", sig := { parameters := [.double], returnType := none }, accessFlags := 0, code := some k4c0 }
def k4c1 : Code := { maxStack := 8, maxLocals := 15, code := prog_84_method_3_code, exceptionTable := #[], attributes := #[] }
def k4m1 : Method := { name := "eightRows", desc := "([D[D[DIIIIII)V", sig := { parameters := [(.array .double), (.array .double), (.array .double), .int, .int, .int, .int, .int, .int], returnType := none }, accessFlags := 1, code := some k4c1 }
/-- com/example/indexica/indexica/Scaled -/
def k4 : Class := { plain "com/example/indexica/indexica/Scaled" (some 2) with
  accessFlags := 48
  interfaces := #[3]
  cf := some (fileOf pool4 8 #[] #[{ accessFlags := 0, nameIndex := 5, descriptorIndex := 37, attributes := #[] }, { accessFlags := 1, nameIndex := 42, descriptorIndex := 43, attributes := #[] }] 48 2 #[35] #[{ accessFlags := 18, nameIndex := 11, descriptorIndex := 12, attributes := #[] }])
  fields := #[{ name := "alpha", type := .double, accessFlags := 18, slot := 0, constantValue := 0 }]
  methods := #[k4m0, k4m1]
  instanceTypes := #[.double]
  staticTypes := #[]
  resolved := Array.replicate 81 none
  statics := none }

def pool5 : Array CpInfo := pool [(1, u "java/lang/Cloneable"), (0, .class_ 1), (0, u "java/lang/Object"), (0, .class_ 3)] 3

/-- java/lang/Cloneable -/
def k5 : Class := { plain "java/lang/Cloneable" (some 0) with
  accessFlags := 1537
  interfaces := #[]
  cf := some (fileOf pool5 2 #[] #[] 1537 4 #[] #[])
  fields := #[]
  methods := #[]
  instanceTypes := #[]
  staticTypes := #[]
  resolved := Array.replicate 8 none
  statics := none }

def pool6 : Array CpInfo := pool [(1, u "java/io/Serializable"), (0, .class_ 1), (0, u "java/lang/Object"), (0, .class_ 3)] 3

/-- java/io/Serializable -/
def k6 : Class := { plain "java/io/Serializable" (some 0) with
  accessFlags := 1537
  interfaces := #[]
  cf := some (fileOf pool6 2 #[] #[] 1537 4 #[] #[])
  fields := #[]
  methods := #[]
  instanceTypes := #[]
  staticTypes := #[]
  resolved := Array.replicate 8 none
  statics := none }

/-- the primitive byte -/
def k7 : Class := { plain "byte" none with kind := .primitive 'B', accessFlags := 0x411 }
/-- [B -/
def k8 : Class := { plain "[B" (some 0) with kind := .array 7 .byte, interfaces := #[5, 6], accessFlags := 1041 }

/-- the primitive double -/
def k9 : Class := { plain "double" none with kind := .primitive 'D', accessFlags := 0x411 }
/-- [D -/
def k10 : Class := { plain "[D" (some 0) with kind := .array 9 .double, interfaces := #[5, 6], accessFlags := 1041 }

/-- the primitive int -/
def k11 : Class := { plain "int" none with kind := .primitive 'I', accessFlags := 0x411 }
/-- [I -/
def k12 : Class := { plain "[I" (some 0) with kind := .array 11 .int, interfaces := #[5, 6], accessFlags := 1041 }

def heap : Heap := #[]
def classes : Array Class := #[k0, k1, k2, k3, k4, k5, k6, k7, k8, k9, k10, k11, k12]
def interned : List (Array UInt16 × Addr) := []
def slotsUsed : Nat := 0
def theMethod : MethodId := ⟨1, 1⟩
def args0 : Array Value := #[.int 5, .int 7, .int 9, .int 3, .int 1, .int 2]
def aboutOver (below : List Frame) : State where
  vm := { classes := classes, interned := interned.toArray }
  heap := heap
  slotsUsed := slotsUsed
  threads := #[{ frames := .invoking theMethod args0 :: below }]
def below0 : List Frame := [.native { method := ⟨0, 0⟩, args := #[] }]
def about1 : State := aboutOver below0
def p0 : Program := .bare "" "" ""
def e0 : Env := launch0.env 0 0 0
theorem w_frames : about1.frames = Frame.invoking theMethod args0 :: below0 := rfl
set_option maxRecDepth 65536 in
theorem w_args : argsFit about1.vm theMethod args0 = true := by decide +kernel
set_option maxRecDepth 65536 in
theorem w_heap : heapFits about1 = true := by decide +kernel
set_option maxRecDepth 65536 in
theorem w_runnable : about1.curStatus? = some .runnable := by decide +kernel
set_option maxRecDepth 65536 in
theorem w_alone : about1.alone = true := by decide +kernel
set_option maxRecDepth 65536 in
theorem w_named : about1.methodNamed? x = some theMethod := by decide +kernel
set_option maxRecDepth 65536 in
theorem w_hears : about1.hears theMethod below0 = true := by decide +kernel
set_option maxRecDepth 65536 in
theorem w_ripe : about1.ripe theMethod args0 below0 = true := by decide +kernel
theorem w_running : about1.status = .running := rfl
set_option maxRecDepth 65536 in
theorem w_room : about1.hasRoom e0.platform room_1 = true :=
  launch0.hasRoom_least _ room_1 (by decide +kernel) (by decide +kernel) (by decide +kernel) (by decide +kernel) (by decide +kernel) (by decide +kernel)
theorem allAtoms_all (ts : List Jvm.Cond) (a : Array Jvm.Value) (st : Jvm.State) : (allAtoms ts).before a st = ts.all (fun c => c.before a st) := by
  induction ts with
  | nil => rfl
  | cons c t ih =>
    show (Jvm.Cond.and c (allAtoms t)).before a st = _
    rw [Jvm.Cond.before_and, ih, List.all_cons]
def words1 : List Jvm.Cond := Jvm.Cond.code x code maxLocals ret :: tables_1
/-- a 'code' word, met by the world's own term for the bytes: nothing is compared byte by byte -/
theorem code_word {y : MethodName} {bytes : ByteArray} {mx : Nat} {rt : Option FieldType} {a : Array Value} {s : State} {m : MethodId} {meth : Method} {c : Code} (h1 : s.methodNamed? y = some m) (h2 : s.vm.method? m = some meth) (h3 : meth.code = some c) (h4 : c.code = bytes)
    (h5 : (c.maxLocals == mx && c.exceptionTable.isEmpty && decide (c.maxStack ≤ mostOperands) && decide (meth.sig.returnType = rt) && !meth.locks && decide (parseMethodDescriptor y.desc = some meth.sig)) = true) : (Jvm.Cond.code y bytes mx rt).before a s = true := by
  simp only [Bool.and_eq_true, beq_iff_eq, Bool.not_eq_true', decide_eq_true_eq] at h5
  obtain ⟨⟨⟨⟨⟨g1, g2⟩, g3⟩, g4⟩, g5⟩, g6⟩ := h5
  simp [Cond.before, Cond.holds, Cond.value, h1, h2, h3, h4, g1, g2, g3, g4, g5, g6]
def isCode : Jvm.Cond → Bool
  | .code _ _ _ _ => true
  | _ => false
theorem all_split {L : List Jvm.Cond} {P : Jvm.Cond → Bool} (h1 : L.all (fun c => isCode c || P c) = true) (h2 : ∀ c ∈ L.filter isCode, P c = true) : L.all P = true := by
  refine List.all_eq_true.mpr fun c hc => ?_
  have h := List.all_eq_true.mp h1 c hc
  rcases Bool.eq_false_or_eq_true (isCode c) with hi | hi
  · exact h2 c (List.mem_filter.mpr ⟨hc, hi⟩)
  · simpa [hi] using h
set_option maxRecDepth 65536 in
theorem w_c0 : (Jvm.Cond.code x code maxLocals ret).before args0 about1 = true := code_word (m := ⟨1, 1⟩) (meth := k1m1) (c := k1c1) (by decide +kernel) rfl rfl rfl (by decide +kernel)
set_option maxRecDepth 65536 in
theorem w_c1 : (Jvm.Cond.code ({ cls := "com/example/indexica/indexica/Scaled", name := "<init>", desc := "(D)V" } : Jvm.MethodName) prog_84_method_1_code (3 : Nat) (Option.none : Option Jvm.ClassFile.FieldType)).before args0 about1 = true := code_word (m := ⟨4, 0⟩) (meth := k4m0) (c := k4c0) (by decide +kernel) rfl rfl rfl (by decide +kernel)
set_option maxRecDepth 65536 in
theorem w_c2 : (Jvm.Cond.code ({ cls := "java/lang/Record", name := "<init>", desc := "()V" } : Jvm.MethodName) jdk_30_method_1_code (1 : Nat) (Option.none : Option Jvm.ClassFile.FieldType)).before args0 about1 = true := code_word (m := ⟨2, 0⟩) (meth := k2m0) (c := k2c0) (by decide +kernel) rfl rfl rfl (by decide +kernel)
set_option maxRecDepth 65536 in
theorem w_c3 : (Jvm.Cond.code ({ cls := "java/lang/Object", name := "<init>", desc := "()V" } : Jvm.MethodName) object_method_1_code (1 : Nat) (Option.none : Option Jvm.ClassFile.FieldType)).before args0 about1 = true := code_word (m := ⟨0, 0⟩) (meth := k0m0) (c := k0c0) (by decide +kernel) rfl rfl rfl (by decide +kernel)
set_option maxRecDepth 65536 in
theorem w_c4 : (Jvm.Cond.code ({ cls := "com/example/indexica/indexica/Scaled", name := "eightRows", desc := "([D[D[DIIIIII)V" } : Jvm.MethodName) prog_84_method_3_code (15 : Nat) (Option.none : Option Jvm.ClassFile.FieldType)).before args0 about1 = true := code_word (m := ⟨4, 1⟩) (meth := k4m1) (c := k4c1) (by decide +kernel) rfl rfl rfl (by decide +kernel)
set_option maxRecDepth 65536 in
theorem w_c5 : (Jvm.Cond.code ({ cls := "com/example/indexica/indexica/ScaledEightRowsPinLaw", name := "expected", desc := "(IIZIIIIIIDD)D" } : Jvm.MethodName) method_3_code (21 : Nat) (Option.some Jvm.ClassFile.FieldType.double)).before args0 about1 = true := code_word (m := ⟨1, 2⟩) (meth := k1m2) (c := k1c2) (by decide +kernel) rfl rfl rfl (by decide +kernel)
def codes1 : List Jvm.Cond := [Jvm.Cond.code x code maxLocals ret, Jvm.Cond.code ({ cls := "com/example/indexica/indexica/Scaled", name := "<init>", desc := "(D)V" } : Jvm.MethodName) prog_84_method_1_code (3 : Nat) (Option.none : Option Jvm.ClassFile.FieldType), Jvm.Cond.code ({ cls := "java/lang/Record", name := "<init>", desc := "()V" } : Jvm.MethodName) jdk_30_method_1_code (1 : Nat) (Option.none : Option Jvm.ClassFile.FieldType), Jvm.Cond.code ({ cls := "java/lang/Object", name := "<init>", desc := "()V" } : Jvm.MethodName) object_method_1_code (1 : Nat) (Option.none : Option Jvm.ClassFile.FieldType), Jvm.Cond.code ({ cls := "com/example/indexica/indexica/Scaled", name := "eightRows", desc := "([D[D[DIIIIII)V" } : Jvm.MethodName) prog_84_method_3_code (15 : Nat) (Option.none : Option Jvm.ClassFile.FieldType), Jvm.Cond.code ({ cls := "com/example/indexica/indexica/ScaledEightRowsPinLaw", name := "expected", desc := "(IIZIIIIIIDD)D" } : Jvm.MethodName) method_3_code (21 : Nat) (Option.some Jvm.ClassFile.FieldType.double)]
set_option maxRecDepth 65536 in
theorem codes_eq : words1.filter isCode = codes1 := rfl
theorem w_codes : ∀ c ∈ words1.filter isCode, c.before args0 about1 = true := by
  rw [codes_eq]
  intro c hc
  simp only [codes1, List.mem_cons, List.not_mem_nil, or_false] at hc
  rcases hc with rfl | rfl | rfl | rfl | rfl | rfl
  · exact w_c0
  · exact w_c1
  · exact w_c2
  · exact w_c3
  · exact w_c4
  · exact w_c5
set_option maxRecDepth 65536 in
theorem w_t1 : (words1.take 24).all (fun c => isCode c || c.before args0 about1) = true := by decide +kernel
set_option maxRecDepth 65536 in
theorem w_t2 : (words1.drop 24).all (fun c => isCode c || c.before args0 about1) = true := by decide +kernel
theorem w_tables : (allAtoms (Jvm.Cond.code x code maxLocals ret :: tables_1)).before args0 about1 = true := by
  rw [allAtoms_all]
  show words1.all (fun c => c.before args0 about1) = true
  refine all_split ?_ w_codes
  rw [← List.take_append_drop 24 words1, List.all_append, w_t1, w_t2]
  rfl
set_option maxRecDepth 65536 in
theorem w_case : (Jvm.Cond.and given_1 narrow_1).before args0 about1 = true := by decide +kernel
theorem w_applies : (headSpec (Jvm.Cond.code x code maxLocals ret :: tables_1) room_1).applies x e0.platform about1 = true :=
  (Spec.applies_iff w_frames).mpr ⟨w_running, w_runnable, w_alone, w_named, w_hears, w_ripe, w_room, w_tables⟩
theorem atStart : AtStart classFile x code maxLocals ret World_1 tables_1 room_1 Calls_1 rest_1 Pre_1 launch0 p0 e0 about1 theMethod args0 below0 :=
  ⟨lists_1, trivial, launch0.admits_env _ _ _, launch0.least_env, fairChoices_fair.cas, fairChoices_fair.clock, w_frames, w_args, w_heap, w_applies, trivial, trivial, w_case⟩
end start1
theorem witness_1 : WitnessClaimed_1 := ⟨start1.p0, start1.e0, start1.about1, start1.theMethod, start1.args0, start1.below0, start1.atStart⟩
end Jvm.Pilot.@@N@@
