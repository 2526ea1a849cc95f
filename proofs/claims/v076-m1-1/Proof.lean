import JvmDerived
import JvmDerived.Pilot.@@N@@Statement
import JvmDerived.Pilot.@@N@@Code
set_option linter.unusedVariables false
set_option linter.unusedSimpArgs false
namespace Jvm.Pilot.@@N@@
open Jvm Jvm.ClassFile Sem Op Lib Jvm.Free Jvm.Free.Fl Jvm.Stand Jvm.LawKit Jvm.RoadKit Bundle Jvm.Pilot.@@N@@.Jvm.D
def own_Go (tb : Tables) (e : Env) (below : List Frame) (P : State → Outcome → Prop) (S : State) : Prop := ∃ t o, Steps tb e below S t ∧ P t o
section OwnGo
variable {tb : Tables} {e : Env} {below : List Frame} {P : State → Outcome → Prop} {S S' : State}
theorem own_up (st : ∀ t, Steps tb e below S' t → Steps tb e below S t) (h : own_Go tb e below P S') : own_Go tb e below P S := by
  obtain ⟨t, o, h1, h2⟩ := h
  exact ⟨t, o, st t h1, h2⟩
theorem own_start (st : ∀ t, Steps tb e below S' t → Steps tb e below S t) (h : own_Go tb e below P S') : ∃ t o, Steps tb e below S t ∧ P t o := own_up st h
theorem own_end (h : ∃ t o, Steps tb e below S t ∧ P t o) : own_Go tb e below P S := h
end OwnGo
theorem own_eqi {args : Array Value} {first s : State} {o : Option Outcome} {idx : List Nat} {a : Term} {n : Int32} (h : (Jvm.Cond.eq a (Term.int n)).value args first o s idx = some true) : a.eval args first o idx s = some (.int n) := by
  obtain ⟨x, y, h1, h2, k1, k2⟩ := cmp_v (Or.inl h)
  have hb : (Term.int n).eval args first o idx s = some (.int n) := Term.int_eval n
  obtain rfl : y = .int n := Option.some.inj (h2.symm.trans hb)
  cases x with
  | int x =>
    have q := gotT (Cond.eq_ints h1 hb) h
    rw [h1, q]
  | _ => simp [Kin] at k1 k2
def own_Arf (Z : State) (h : Heap) (a : Addr) (ty : FieldType) (n : Int32) (f : Nat → Value) : Prop := ∃ c : Cell, Arr Z h a c ty ∧ c.slots.size = n.toNatClampNeg ∧ ¬ n < 0 ∧ ∀ i, i < c.slots.size → c.slots[i]? = some (f i)
section OwnArf
variable {p : Program} {l : Launch} {e : Env} {R : Room} {s : State} {m : MethodId} {args : Array Value} {below : List Frame} {meth : Method} {c : Code} {T : State} {locs : List Loc} {cells slots : Nat} {Z : State} {h h' : Heap} {a b : Addr} {ty : FieldType} {n j : Int32} {f : Nat → Value} {v : Value} {sl : Nat} {ws : List Addr}
theorem own_Arf.lt (F : own_Arf Z h a ty n f) : a < h.size := by obtain ⟨c, A, -⟩ := F; exact A.lt
theorem own_Arf.nn (F : own_Arf Z h a ty n f) : ¬ n < 0 := by obtain ⟨c, A, -, q, -⟩ := F; exact q
theorem own_Arf.ext (F : own_Arf Z h a ty n f) (E : Ext h h') : own_Arf Z h' a ty n f := by obtain ⟨c, A, r⟩ := F; exact ⟨c, A.ext E, r⟩
theorem own_Arf.other (F : own_Arf Z h b ty n f) (W : Wr h h' a sl v) (q : b ≠ a) : own_Arf Z h' b ty n f := by obtain ⟨c, A, r⟩ := F; exact ⟨c, A.other W q, r⟩
theorem own_Arf.keep (F : own_Arf Z h a ty n f) (K : Keep h h' ws) (q : a ∉ ws) : own_Arf Z h' a ty n f := by obtain ⟨c, A, r⟩ := F; exact ⟨c, ⟨K.2.1 a c A.1 q, A.2⟩, r⟩
theorem own_Arf.new {k : ClassId} (A : Arr Z h a (newA k ty n) ty) (q : ¬ n < 0) : own_Arf Z h a ty n (fun _ => defaultValue ty) :=
  ⟨_, A, sz_new _ _ _, q, fun i hi => by rw [sz_new] at hi; simp [newA, hi]⟩
theorem own_Arf.ofArv {k : ClassId} {vs : List Value} {d : Value} (F : Arv Z h a k ty n vs d) : own_Arf Z h a ty n (fun i => vs.getD i d) := by
  obtain ⟨c, A, -, S, q, H, -⟩ := F
  exact ⟨c, A, S, q, fun i hi => H i hi⟩
theorem own_Arf.congr {f' : Nat → Value} (F : own_Arf Z h a ty n f) (q : ∀ i, i < n.toNatClampNeg → f i = f' i) : own_Arf Z h a ty n f' := by
  obtain ⟨c, A, S, q1, H⟩ := F
  exact ⟨c, A, S, q1, fun i hi => by rw [H i hi, q i (S ▸ hi)]⟩
theorem own_Arf.set (F : own_Arf Z h a ty n f) (W : Wr h h' a j.toNatClampNeg v) : own_Arf Z h' a ty n (fun i => if i = j.toNatClampNeg then v else f i) := by
  obtain ⟨c, A, S, q, H⟩ := F
  refine ⟨_, A.same W, by rw [sz_set]; exact S, q, fun x hx => ?_⟩
  rw [sz_set] at hx
  by_cases u : x = j.toNatClampNeg
  · subst u; simp [Cell.setSlot, hx]
  · show _ = some (if x = j.toNatClampNeg then v else f x)
    rw [if_neg u]
    have := H x hx
    simp only [Cell.setSlot]
    rw [Array.getElem?_setIfInBounds_ne (Ne.symm u)]
    exact this
def own_upd {α : Type} (u : Nat → α) (j : Int32) (x : α) : Nat → α := fun i => if i = j.toNatClampNeg then x else u i
theorem own_Arf.setD {u : Nat → UInt64} {x : UInt64} (F : own_Arf Z h a .double n (fun i => .double (u i))) (W : Wr h h' a j.toNatClampNeg (.double x)) : own_Arf Z h' a .double n (fun i => .double (own_upd u j x i)) :=
  (own_Arf.set F W).congr fun i _ => by unfold own_upd; split <;> rfl
theorem own_Arf.setI {u : Nat → Int32} {x : Int32} (F : own_Arf Z h a ty n (fun i => .int (u i))) (W : Wr h h' a j.toNatClampNeg (.int x)) : own_Arf Z h' a ty n (fun i => .int (own_upd u j x i)) :=
  (own_Arf.set F W).congr fun i _ => by unfold own_upd; split <;> rfl
theorem own_Arf.setJ {u : Nat → Int64} {x : Int64} (F : own_Arf Z h a .long n (fun i => .long (u i))) (W : Wr h h' a j.toNatClampNeg (.long x)) : own_Arf Z h' a .long n (fun i => .long (own_upd u j x i)) :=
  (own_Arf.set F W).congr fun i _ => by unfold own_upd; split <;> rfl
theorem own_Arf.daload (F : own_Arf Z h a .double n f) (X : Stand p l e R s m args below meth c T locs cells slots) (hx : p.tables.exec = Jvm.exec) (hZ : Z.Warmed39 s.vm) (eT : T.heap = h) (hj : ¬ j < 0) (hn : j < n) (hv : f j.toNatClampNeg = v) {g : JFrame} (hg : g.method = m) {rest : List Value} (hs : g.stack = .int j :: .ref a :: rest) (hd : decode c.code g.pc = .ok (.daload, 1)) (target : State) (hr : Steps p.tables e below (T.setTop { g with pc := g.pc + 1, stack := v :: rest }) target) : Steps p.tables e below (T.setTop g) target := by
  obtain ⟨cl, A, S, q, H⟩ := F
  have hin := inb_of S ⟨hj, hn⟩
  exact X.daload hx (by rw [eT]; exact A.1) (State.isArrayOf_alike hZ.alike A.2.1) A.2.2 hin (by rw [H _ (Nat.lt_of_not_le fun y => hin (Or.inr y)), hv]) hg hs hd target hr
theorem own_Arf.iaload (F : own_Arf Z h a .int n f) (X : Stand p l e R s m args below meth c T locs cells slots) (hx : p.tables.exec = Jvm.exec) (hZ : Z.Warmed39 s.vm) (eT : T.heap = h) (hj : ¬ j < 0) (hn : j < n) (hv : f j.toNatClampNeg = v) {g : JFrame} (hg : g.method = m) {rest : List Value} (hs : g.stack = .int j :: .ref a :: rest) (hd : decode c.code g.pc = .ok (.iaload, 1)) (target : State) (hr : Steps p.tables e below (T.setTop { g with pc := g.pc + 1, stack := v :: rest }) target) : Steps p.tables e below (T.setTop g) target := by
  obtain ⟨cl, A, S, q, H⟩ := F
  have hin := inb_of S ⟨hj, hn⟩
  exact X.iaload hx (by rw [eT]; exact A.1) (State.isArrayOf_alike hZ.alike A.2.1) A.2.2 hin (by rw [H _ (Nat.lt_of_not_le fun y => hin (Or.inr y)), hv]) hg hs hd target hr
theorem own_Arf.laload (F : own_Arf Z h a .long n f) (X : Stand p l e R s m args below meth c T locs cells slots) (hx : p.tables.exec = Jvm.exec) (hZ : Z.Warmed39 s.vm) (eT : T.heap = h) (hj : ¬ j < 0) (hn : j < n) (hv : f j.toNatClampNeg = v) {g : JFrame} (hg : g.method = m) {rest : List Value} (hs : g.stack = .int j :: .ref a :: rest) (hd : decode c.code g.pc = .ok (.laload, 1)) (target : State) (hr : Steps p.tables e below (T.setTop { g with pc := g.pc + 1, stack := v :: rest }) target) : Steps p.tables e below (T.setTop g) target := by
  obtain ⟨cl, A, S, q, H⟩ := F
  have hin := inb_of S ⟨hj, hn⟩
  exact X.laload hx (by rw [eT]; exact A.1) (State.isArrayOf_alike hZ.alike A.2.1) A.2.2 hin (by rw [H _ (Nat.lt_of_not_le fun y => hin (Or.inr y)), hv]) hg hs hd target hr
theorem own_Arf.aaload (F : own_Arf Z h a ty n f) (hty : ty.isReference = true) (X : Stand p l e R s m args below meth c T locs cells slots) (hx : p.tables.exec = Jvm.exec) (hZ : Z.Warmed39 s.vm) (eT : T.heap = h) (hj : ¬ j < 0) (hn : j < n) (hv : f j.toNatClampNeg = v) {g : JFrame} (hg : g.method = m) {rest : List Value} (hs : g.stack = .int j :: .ref a :: rest) (hd : decode c.code g.pc = .ok (.aaload, 1)) (target : State) (hr : Steps p.tables e below (T.setTop { g with pc := g.pc + 1, stack := v :: rest }) target) : Steps p.tables e below (T.setTop g) target := by
  obtain ⟨cl, A, S, q, H⟩ := F
  have hin := inb_of S ⟨hj, hn⟩
  exact X.aaload hx (by rw [eT]; exact A.1) (State.isArrayOf_alike hZ.alike A.2.1) hty A.2.2 hin (by rw [H _ (Nat.lt_of_not_le fun y => hin (Or.inr y)), hv]) hg hs hd target hr
theorem own_Arf.alen (F : own_Arf Z h a ty n f) (X : Stand p l e R s m args below meth c T locs cells slots) (hx : p.tables.exec = Jvm.exec) (hZ : Z.Warmed39 s.vm) (eT : T.heap = h) {g : JFrame} (hg : g.method = m) {rest : List Value} (hs : g.stack = .ref a :: rest) (hd : decode c.code g.pc = .ok (.arraylength, 1)) (target : State) (hr : Steps p.tables e below (T.setTop { g with pc := g.pc + 1, stack := .int n :: rest }) target) : Steps p.tables e below (T.setTop g) target := by
  obtain ⟨cl, A, S, q, H⟩ := F
  refine X.arraylength hx (by rw [eT]; exact A.1) (State.isArrayOf_alike hZ.alike A.2.1) hg hs hd target ?_
  rw [len_of S q]
  exact hr
end OwnArf
def own_dg (kk : Int64) (sh : Int32) : Int32 := ((kk.toUInt64 >>> (sh &&& 0x3f).toInt64.toUInt64).toInt64).toInt32 &&& (65535 : Int32)
theorem own_and16 (y : Int32) : (y &&& (65535 : Int32)).toInt = ((y.toBitVec.toNat % 65536 : Nat) : Int) := by
  have h : (y &&& (65535 : Int32)).toBitVec.toNat = y.toBitVec.toNat % 65536 := by
    rw [Int32.toBitVec_and, BitVec.toNat_and, show (65535 : Int32).toBitVec.toNat = 2 ^ 16 - 1 from by decide, Nat.and_two_pow_sub_one_eq_mod]
  have h2 : (y &&& (65535 : Int32)).toInt = (y &&& (65535 : Int32)).toBitVec.toInt := rfl
  rw [h2, BitVec.toInt_eq_toNat_of_lt (by rw [h]; omega), h]
theorem own_dgi (kk : Int64) (sh : Int32) : 0 ≤ (own_dg kk sh).toInt ∧ (own_dg kk sh).toInt < 65536 := by
  unfold own_dg; rw [own_and16]; omega
theorem own_dgn (kk : Int64) (sh : Int32) : ¬ own_dg kk sh < 0 := by
  have := own_dgi kk sh
  rw [Int32.lt_iff_toInt_lt, show (0 : Int32).toInt = 0 from by decide]; omega
theorem own_dgl (kk : Int64) (sh : Int32) : own_dg kk sh < (65536 : Int32) := by
  have := own_dgi kk sh
  rw [Int32.lt_iff_toInt_lt, show (65536 : Int32).toInt = 65536 from by decide]; omega
theorem own_dgN (kk : Int64) (sh : Int32) : (own_dg kk sh).toNatClampNeg < 65536 := by
  have := own_dgi kk sh
  have h : (own_dg kk sh).toNatClampNeg = (own_dg kk sh).toInt.toNat := rfl
  omega
def own_sh (sh : Int32) (n : Nat) : Prop := (sh = 0 ∧ n = 0) ∨ (sh = 16 ∧ n = 16) ∨ (sh = 32 ∧ n = 32) ∨ (sh = 48 ∧ n = 48)
theorem own_sh64 {sh : Int32} {n : Nat} (h : own_sh sh n) : sh < (64 : Int32) := by
  rcases h with ⟨rfl, -⟩ | ⟨rfl, -⟩ | ⟨rfl, -⟩ | ⟨rfl, -⟩ <;> decide
theorem own_sha {sh : Int32} {n : Nat} (h : own_sh sh n) : ((sh &&& 0x3f).toInt64.toUInt64).toNat % 64 = n := by
  rcases h with ⟨rfl, rfl⟩ | ⟨rfl, rfl⟩ | ⟨rfl, rfl⟩ | ⟨rfl, rfl⟩ <;> decide
theorem own_dgv {sh : Int32} {n : Nat} (h : own_sh sh n) (kk : Int64) : (own_dg kk sh).toNatClampNeg = kk.toUInt64.toNat / 2 ^ n % 65536 := by
  have h1 : (own_dg kk sh).toNatClampNeg = (own_dg kk sh).toInt.toNat := rfl
  rw [h1]; unfold own_dg; rw [own_and16]
  have h2 : ((kk.toUInt64 >>> (sh &&& 0x3f).toInt64.toUInt64).toInt64).toInt32.toBitVec.toNat = (kk.toUInt64 >>> (sh &&& 0x3f).toInt64.toUInt64).toNat % 2 ^ 32 := by
    rw [Int64.toBitVec_toInt32, BitVec.signExtend_eq_setWidth_of_le _ (by decide), BitVec.toNat_setWidth]; rfl
  rw [h2, UInt64.toNat_shiftRight, own_sha h, Nat.shiftRight_eq_div_pow]
  generalize kk.toUInt64.toNat / 2 ^ n = z
  omega
def own_inc (u : Nat → Int32) (d : Int32) : Nat → Int32 := own_upd u d (u d.toNatClampNeg + (1 : Int32))
def own_C (d0 d1 d2 : Int32) : Nat → Int32 := own_inc (own_inc (own_inc (fun _ => 0 : Nat → Int32) d0) d1) d2
def own_P (d0 d1 d2 : Int32) (i : Nat) : Int32 := (if d0.toNatClampNeg < i then 1 else 0) + (if d1.toNatClampNeg < i then 1 else 0) + (if d2.toNatClampNeg < i then 1 else 0)
def own_pf (d0 d1 d2 : Int32) (i : Nat) : Nat → Int32 := fun j => if j < i then own_P d0 d1 d2 j else own_C d0 d1 d2 j
theorem own_Cv (d0 d1 d2 : Int32) (j : Nat) : own_C d0 d1 d2 j = (if d0.toNatClampNeg = j then 1 else 0) + (if d1.toNatClampNeg = j then 1 else 0) + (if d2.toNatClampNeg = j then 1 else 0) := by
  unfold own_C own_inc own_upd
  generalize d0.toNatClampNeg = A, d1.toNatClampNeg = B, d2.toNatClampNeg = C
  by_cases h1 : A = j
  · subst h1
    by_cases h2 : B = A
    · subst h2
      by_cases h3 : C = B
      · subst h3; simp
      · simp [h3, Ne.symm h3]
    · by_cases h3 : C = A
      · subst h3; simp [h2, Ne.symm h2]
      · simp [h2, h3, Ne.symm h2, Ne.symm h3]
  · by_cases h2 : B = j
    · subst h2
      by_cases h3 : C = B
      · subst h3; simp [h1, Ne.symm h1]
      · simp [h1, h3, Ne.symm h1, Ne.symm h3]
    · by_cases h3 : C = j
      · subst h3; simp [h1, h2, Ne.symm h1, Ne.symm h2]
      · simp [h1, h2, h3, Ne.symm h1, Ne.symm h2, Ne.symm h3]
theorem own_pf0 (d0 d1 d2 : Int32) : own_pf d0 d1 d2 0 = own_C d0 d1 d2 := by funext j; simp [own_pf]
theorem own_P0 (d0 d1 d2 : Int32) : own_P d0 d1 d2 0 = 0 := by simp [own_P]
theorem own_pfS (d0 d1 d2 v : Int32) (i : Nat) (hv : v.toNatClampNeg = i) : own_upd (own_pf d0 d1 d2 i) v (own_P d0 d1 d2 i) = own_pf d0 d1 d2 (i + 1) := by
  funext j
  unfold own_upd own_pf
  rw [hv]
  by_cases h1 : j = i
  · subst h1; simp
  · by_cases h2 : j < i
    · simp [h1, h2, Nat.lt_succ_of_lt h2]
    · have h3 : ¬ j < i + 1 := by omega
      simp [h1, h2, h3]
theorem own_ind (A i : Nat) : (if A < i + 1 then (1 : Int32) else 0) = (if A < i then 1 else 0) + (if A = i then 1 else 0) := by
  by_cases h1 : A = i
  · subst h1; simp
  · by_cases h2 : A < i
    · simp [h1, h2, Nat.lt_succ_of_lt h2]
    · have h3 : ¬ A < i + 1 := by omega
      simp [h1, h2, h3]
theorem own_PS' (d0 d1 d2 : Int32) (i : Nat) : own_P d0 d1 d2 i + own_pf d0 d1 d2 i i = own_P d0 d1 d2 (i + 1) := by
  have : own_pf d0 d1 d2 i i = own_C d0 d1 d2 i := by simp [own_pf]
  rw [this, own_Cv]
  unfold own_P
  rw [own_ind, own_ind, own_ind]
  ac_rfl
theorem own_c3 {d0 d1 d2 : Int32} (h : own_C d0 d1 d2 d0.toNatClampNeg = (3 : Int32)) : d1.toNatClampNeg = d0.toNatClampNeg ∧ d2.toNatClampNeg = d0.toNatClampNeg := by
  rw [own_Cv] at h
  by_cases h1 : d1.toNatClampNeg = d0.toNatClampNeg
  · by_cases h2 : d2.toNatClampNeg = d0.toNatClampNeg
    · exact ⟨h1, h2⟩
    · simp [h1, h2] at h
  · by_cases h2 : d2.toNatClampNeg = d0.toNatClampNeg
    · simp [h1, h2] at h
    · simp [h1, h2] at h
def own_six (A B C : Nat) (p0 p1 p2 : Int32) : Prop :=
  (p0 = 0 ∧ p1 = 1 ∧ p2 = 2 ∧ A ≤ B ∧ B ≤ C) ∨ (p0 = 0 ∧ p1 = 2 ∧ p2 = 1 ∧ A ≤ C ∧ C < B) ∨ (p0 = 1 ∧ p1 = 0 ∧ p2 = 2 ∧ B < A ∧ A ≤ C) ∨
  (p0 = 2 ∧ p1 = 0 ∧ p2 = 1 ∧ B ≤ C ∧ C < A) ∨ (p0 = 1 ∧ p1 = 2 ∧ p2 = 0 ∧ C < A ∧ A ≤ B) ∨ (p0 = 2 ∧ p1 = 1 ∧ p2 = 0 ∧ C < B ∧ B < A)
theorem own_tri (A B : Nat) : (A < B ∧ (A < B) = True ∧ (B < A) = False ∧ (B = A) = False) ∨ (B = A ∧ (A < B) = False ∧ (B < A) = False ∧ (B = A) = True) ∨ (B < A ∧ (A < B) = False ∧ (B < A) = True ∧ (B = A) = False) := by
  rcases Nat.lt_trichotomy A B with h | h | h
  · exact Or.inl ⟨h, eq_true h, eq_false (by omega), eq_false (by omega)⟩
  · exact Or.inr (Or.inl ⟨h.symm, eq_false (by omega), eq_false (by omega), eq_true h.symm⟩)
  · exact Or.inr (Or.inr ⟨h, eq_false (by omega), eq_true h, eq_false (by omega)⟩)
theorem own_sixN (A B C : Nat) : own_six A B C
    ((if A < A then 1 else 0) + (if B < A then 1 else 0) + (if C < A then 1 else 0))
    (if B = A then ((if A < A then 1 else 0) + (if B < A then 1 else 0) + (if C < A then 1 else 0)) + (1 : Int32) else ((if A < B then 1 else 0) + (if B < B then 1 else 0) + (if C < B then 1 else 0)))
    (if C = B then (if B = A then ((if A < A then 1 else 0) + (if B < A then 1 else 0) + (if C < A then 1 else 0)) + (1 : Int32) else ((if A < B then 1 else 0) + (if B < B then 1 else 0) + (if C < B then 1 else 0))) + (1 : Int32) else
      (if C = A then ((if A < A then 1 else 0) + (if B < A then 1 else 0) + (if C < A then 1 else 0)) + (1 : Int32) else ((if A < C then 1 else 0) + (if B < C then 1 else 0) + (if C < C then 1 else 0)))) := by
  have i1 := Nat.lt_irrefl A
  have i2 := Nat.lt_irrefl B
  have i3 := Nat.lt_irrefl C
  rcases own_tri A B with ⟨a, a1, a2, a3⟩ | ⟨a, a1, a2, a3⟩ | ⟨a, a1, a2, a3⟩ <;> rcases own_tri A C with ⟨b, b1, b2, b3⟩ | ⟨b, b1, b2, b3⟩ | ⟨b, b1, b2, b3⟩ <;> rcases own_tri B C with ⟨c, c1, c2, c3⟩ | ⟨c, c1, c2, c3⟩ | ⟨c, c1, c2, c3⟩ <;>
    first
    | (exfalso; clear a1 a2 a3 b1 b2 b3 c1 c2 c3; omega)
    | (simp only [a1, a2, a3, b1, b2, b3, c1, c2, c3, if_true, if_false, if_neg i1, if_neg i2, if_neg i3]
       clear a1 a2 a3 b1 b2 b3 c1 c2 c3
       first
       | exact Or.inl ⟨by decide, by decide, by decide, by omega, by omega⟩
       | exact Or.inr (Or.inl ⟨by decide, by decide, by decide, by omega, by omega⟩)
       | exact Or.inr (Or.inr (Or.inl ⟨by decide, by decide, by decide, by omega, by omega⟩))
       | exact Or.inr (Or.inr (Or.inr (Or.inl ⟨by decide, by decide, by decide, by omega, by omega⟩)))
       | exact Or.inr (Or.inr (Or.inr (Or.inr (Or.inl ⟨by decide, by decide, by decide, by omega, by omega⟩))))
       | exact Or.inr (Or.inr (Or.inr (Or.inr (Or.inr ⟨by decide, by decide, by decide, by omega, by omega⟩)))))
theorem own_pfd (d0 d1 d2 : Int32) {j : Nat} (h : j < 65536) : own_pf d0 d1 d2 65536 j = own_P d0 d1 d2 j := by simp [own_pf, h]
theorem own_ps {d0 d1 d2 p0 p1 p2 : Int32} (l0 : d0.toNatClampNeg < 65536) (l1 : d1.toNatClampNeg < 65536) (l2 : d2.toNatClampNeg < 65536)
    (h0 : own_pf d0 d1 d2 65536 d0.toNatClampNeg = p0) (h1 : own_inc (own_pf d0 d1 d2 65536) d0 d1.toNatClampNeg = p1) (h2 : own_inc (own_inc (own_pf d0 d1 d2 65536) d0) d1 d2.toNatClampNeg = p2) :
    own_six d0.toNatClampNeg d1.toNatClampNeg d2.toNatClampNeg p0 p1 p2 := by
  have q := own_sixN d0.toNatClampNeg d1.toNatClampNeg d2.toNatClampNeg
  subst h0 h1 h2
  simp only [own_inc, own_upd, own_pfd d0 d1 d2 l0, own_pfd d0 d1 d2 l1, own_pfd d0 d1 d2 l2]
  exact q
theorem own_sixB {A B C : Nat} {p0 p1 p2 : Int32} (h : own_six A B C p0 p1 p2) : (¬ p0 < 0 ∧ p0 < (3 : Int32)) ∧ (¬ p1 < 0 ∧ p1 < (3 : Int32)) ∧ (¬ p2 < 0 ∧ p2 < (3 : Int32)) := by
  rcases h with ⟨rfl, rfl, rfl, -⟩ | ⟨rfl, rfl, rfl, -⟩ | ⟨rfl, rfl, rfl, -⟩ | ⟨rfl, rfl, rfl, -⟩ | ⟨rfl, rfl, rfl, -⟩ | ⟨rfl, rfl, rfl, -⟩ <;> decide
theorem own_b0 {d0 d1 d2 p : Int32} (l0 : d0.toNatClampNeg < 65536) (l1 : d1.toNatClampNeg < 65536) (l2 : d2.toNatClampNeg < 65536) (h : own_pf d0 d1 d2 65536 d0.toNatClampNeg = p) : ¬ p < 0 ∧ p < (3 : Int32) :=
  (own_sixB (own_ps l0 l1 l2 h rfl rfl)).1
theorem own_b1 {d0 d1 d2 p : Int32} (l0 : d0.toNatClampNeg < 65536) (l1 : d1.toNatClampNeg < 65536) (l2 : d2.toNatClampNeg < 65536) (h : own_inc (own_pf d0 d1 d2 65536) d0 d1.toNatClampNeg = p) : ¬ p < 0 ∧ p < (3 : Int32) :=
  (own_sixB (own_ps l0 l1 l2 rfl h rfl)).2.1
theorem own_b2 {d0 d1 d2 p : Int32} (l0 : d0.toNatClampNeg < 65536) (l1 : d1.toNatClampNeg < 65536) (l2 : d2.toNatClampNeg < 65536) (h : own_inc (own_inc (own_pf d0 d1 d2 65536) d0) d1 d2.toNatClampNeg = p) : ¬ p < 0 ∧ p < (3 : Int32) :=
  (own_sixB (own_ps l0 l1 l2 rfl rfl h)).2.2
def own_pm (r : Nat → Int32) : Prop :=
  (r 0 = 0 ∧ r 1 = 1 ∧ r 2 = 2) ∨ (r 0 = 0 ∧ r 1 = 2 ∧ r 2 = 1) ∨ (r 0 = 1 ∧ r 1 = 0 ∧ r 2 = 2) ∨ (r 0 = 2 ∧ r 1 = 0 ∧ r 2 = 1) ∨ (r 0 = 1 ∧ r 1 = 2 ∧ r 2 = 0) ∨ (r 0 = 2 ∧ r 1 = 1 ∧ r 2 = 0)
def own_I (kf : Nat → Int64) (x : Nat → Int64) (r : Nat → Int32) (n : Nat) : Prop :=
  own_pm r ∧ x 0 = kf (r 0).toNatClampNeg ∧ x 1 = kf (r 1).toNatClampNeg ∧ x 2 = kf (r 2).toNatClampNeg ∧ (x 0).toUInt64.toNat % 2 ^ n ≤ (x 1).toUInt64.toNat % 2 ^ n ∧ (x 1).toUInt64.toNat % 2 ^ n ≤ (x 2).toUInt64.toNat % 2 ^ n
theorem own_mods (X n : Nat) : X % 2 ^ (n + 16) = X % 2 ^ n + 2 ^ n * (X / 2 ^ n % 65536) := by
  rw [Nat.pow_add, show (2 : Nat) ^ 16 = 65536 from rfl, Nat.mod_mul]
theorem own_le2 {X Y n : Nat} (h : X / 2 ^ n % 65536 ≤ Y / 2 ^ n % 65536) (m : X % 2 ^ n ≤ Y % 2 ^ n) : X % 2 ^ (n + 16) ≤ Y % 2 ^ (n + 16) := by
  rw [own_mods, own_mods]
  exact Nat.add_le_add m (Nat.mul_le_mul_left _ h)
theorem own_lt2 {X Y n : Nat} (h : X / 2 ^ n % 65536 < Y / 2 ^ n % 65536) : X % 2 ^ (n + 16) ≤ Y % 2 ^ (n + 16) := by
  rw [own_mods, own_mods]
  have h1 : X % 2 ^ n < 2 ^ n := Nat.mod_lt _ (Nat.two_pow_pos n)
  have h2 : 2 ^ n * (X / 2 ^ n % 65536 + 1) ≤ 2 ^ n * (Y / 2 ^ n % 65536) := Nat.mul_le_mul_left _ h
  rw [Nat.mul_add, Nat.mul_one] at h2
  omega
theorem own_skip {kf x : Nat → Int64} {r : Nat → Int32} {n : Nat} {sh : Int32} (hs : own_sh sh n) (I : own_I kf x r n)
    (h : own_C (own_dg (x 0) sh) (own_dg (x 1) sh) (own_dg (x 2) sh) (own_dg (x 0) sh).toNatClampNeg = (3 : Int32)) : own_I kf x r (n + 16) := by
  obtain ⟨e1, e2⟩ := own_c3 h
  rw [own_dgv hs, own_dgv hs] at e1 e2
  obtain ⟨i1, i2, i3, i4, i5, i6⟩ := I
  exact ⟨i1, i2, i3, i4, own_le2 (Nat.le_of_eq e1.symm) i5, own_le2 (Nat.le_of_eq (e1.trans e2.symm)) i6⟩
theorem own_scat {kf x x2 : Nat → Int64} {r r2 : Nat → Int32} {n : Nat} {sh p0 p1 p2 : Int32} (hs : own_sh sh n) (I : own_I kf x r n)
    (h : own_six (own_dg (x 0) sh).toNatClampNeg (own_dg (x 1) sh).toNatClampNeg (own_dg (x 2) sh).toNatClampNeg p0 p1 p2) :
    own_I kf (own_upd (own_upd (own_upd x2 p0 (x 0)) p1 (x 1)) p2 (x 2)) (own_upd (own_upd (own_upd r2 p0 (r 0)) p1 (r 1)) p2 (r 2)) (n + 16) := by
  rw [own_dgv hs, own_dgv hs, own_dgv hs] at h
  obtain ⟨i1, i2, i3, i4, i5, i6⟩ := I
  have z0 : (0 : Int32).toNatClampNeg = 0 := by decide
  have z1 : (1 : Int32).toNatClampNeg = 1 := by decide
  have z2 : (2 : Int32).toNatClampNeg = 2 := by decide
  unfold own_pm at i1
  unfold own_I own_pm own_upd
  rcases h with ⟨rfl, rfl, rfl, o1, o2⟩ | ⟨rfl, rfl, rfl, o1, o2⟩ | ⟨rfl, rfl, rfl, o1, o2⟩ | ⟨rfl, rfl, rfl, o1, o2⟩ | ⟨rfl, rfl, rfl, o1, o2⟩ | ⟨rfl, rfl, rfl, o1, o2⟩ <;>
    rw [z0, z1, z2] <;> simp (decide := true) only [if_true, if_false] <;> refine ⟨by rcases i1 with i1 | i1 | i1 | i1 | i1 | i1 <;> simp [i1], by assumption, by assumption, by assumption, ?_, ?_⟩
  · exact own_le2 o1 i5
  · exact own_le2 o2 i6
  · exact own_le2 o1 (Nat.le_trans i5 i6)
  · exact own_lt2 o2
  · exact own_lt2 o1
  · exact own_le2 o2 (Nat.le_trans i5 i6)
  · exact own_le2 o1 i6
  · exact own_lt2 o2
  · exact own_lt2 o1
  · exact own_le2 o2 i5
  · exact own_lt2 o1
  · exact own_lt2 o2
def own_ob (d : UInt64) : Int64 := if lcmpW d.toInt64 (0 : Int64) < (0 : Int32) then (d.toInt64 ^^^ (-1 : Int64)) else (d.toInt64 ||| (-9223372036854775808 : Int64))
theorem own_obv (d : UInt64) : (own_ob d).toUInt64.toNat = if 2 ^ 63 ≤ d.toNat then 2 ^ 64 - 1 - d.toNat else d.toNat + 2 ^ 63 := by
  have hd := d.toNat_lt
  have hneg : d.toInt64 < 0 ↔ 2 ^ 63 ≤ d.toNat := by
    rw [Int64.lt_iff_toInt_lt, show (0 : Int64).toInt = 0 from by decide]
    have : d.toInt64.toInt = d.toBitVec.toInt := rfl
    rw [this, BitVec.toInt_eq_toNat_cond]
    have : d.toBitVec.toNat = d.toNat := rfl
    rw [this]
    split <;> omega
  have hl : lcmpW d.toInt64 (0 : Int64) < (0 : Int32) ↔ d.toInt64 < 0 := by
    unfold lcmpW
    by_cases h1 : d.toInt64 > 0
    · rw [if_pos h1]
      have : ¬ d.toInt64 < 0 := by rw [gt_iff_lt, Int64.lt_iff_toInt_lt] at h1; rw [Int64.lt_iff_toInt_lt]; omega
      simp [this]
    · rw [if_neg h1]
      by_cases h2 : d.toInt64 = 0
      · rw [if_pos h2, h2]; decide
      · rw [if_neg h2]
        have : d.toInt64 < 0 := by
          have h3 : d.toInt64.toInt ≠ (0 : Int64).toInt := fun q => h2 (Int64.toInt_inj.mp q)
          rw [gt_iff_lt, Int64.lt_iff_toInt_lt] at h1
          rw [Int64.lt_iff_toInt_lt]; omega
        simp only [this, iff_true]; decide
  unfold own_ob
  by_cases h : 2 ^ 63 ≤ d.toNat
  · rw [if_pos h, if_pos (hl.mpr (hneg.mpr h))]
    show (d.toBitVec ^^^ (BitVec.allOnes 64)).toNat = _
    rw [BitVec.xor_allOnes, BitVec.toNat_not]; rfl
  · rw [if_neg h, if_neg (fun q => h (hneg.mp (hl.mp q)))]
    show (d.toBitVec ||| (BitVec.ofNat 64 (2 ^ 63))).toNat = _
    rw [BitVec.toNat_or, show (BitVec.ofNat 64 (2 ^ 63)).toNat = 2 ^ 63 from by decide]
    show d.toNat ||| 2 ^ 63 = _
    have q := Nat.two_pow_add_eq_or_of_lt (i := 63) (b := d.toNat) (by omega) 1
    rw [Nat.mul_one] at q
    rw [Nat.or_comm, ← q, Nat.add_comm]
theorem own_obk {u v : UInt64} (hu : u.toNat = 0 ∨ u.toNat % 2 ^ 63 ≠ 0) (hv : v.toNat = 0 ∨ v.toNat % 2 ^ 63 ≠ 0) : (own_ob u).toUInt64.toNat ≤ (own_ob v).toUInt64.toNat ↔ FP.Core.dkey u ≤ FP.Core.dkey v := by
  have h1 := u.toNat_lt
  have h2 := v.toNat_lt
  rw [own_obv, own_obv]; unfold FP.Core.dkey
  split <;> split <;> omega
theorem own_i2z (a : Int32) : (FP.i2d a).toNat = 0 ∨ (FP.i2d a).toNat % 2 ^ 63 ≠ 0 := by
  by_cases h : a = 0
  · subst h; left; decide +kernel
  · right; exact FP.Core.i2d_ne_zero h
theorem own_obi (a b : Int32) : (own_ob (FP.i2d a)).toUInt64.toNat ≤ (own_ob (FP.i2d b)).toUInt64.toNat ↔ a.toInt ≤ b.toInt := by
  rw [own_obk (own_i2z a) (own_i2z b)]
  have ha : FP.Core.val64 (FP.i2d a) ≠ .nan := (FP.Core.i2d_fin a).ne_nan
  have hb : FP.Core.val64 (FP.i2d b) ≠ .nan := (FP.Core.i2d_fin b).ne_nan
  have h1 := FP.Core.dcmp_key ha hb
  have h2 := FP.Core.dcmp_int (FP.Core.i2d_int a) (FP.Core.i2d_int b)
  have h3 : compare (FP.Core.dkey (FP.i2d a)) (FP.Core.dkey (FP.i2d b)) = compare a.toInt b.toInt := Option.some.inj (h1.symm.trans h2)
  have g1 : FP.Core.dkey (FP.i2d b) < FP.Core.dkey (FP.i2d a) ↔ b.toInt < a.toInt := by
    rw [← FP.Core.compare_gt_iff, ← FP.Core.compare_gt_iff, h3]
  omega
def own_min (a b : Int32) : Int32 := if b < a then b else a
def own_max (a b : Int32) : Int32 := if a < b then b else a
def own_kf (ud : Nat → UInt64) (col : Int32) : Nat → Int64 := fun i => own_ob (ud (col * (3 : Int32) + Int32.ofNat i).toNatClampNeg)
theorem own_mn (a b : Int32) : (own_min a b).toInt = min a.toInt b.toInt := by
  unfold own_min; split <;> rename_i h <;> rw [Int32.lt_iff_toInt_lt] at h <;> omega
theorem own_mx (a b : Int32) : (own_max a b).toInt = max a.toInt b.toInt := by
  unfold own_max; split <;> rename_i h <;> rw [Int32.lt_iff_toInt_lt] at h <;> omega
theorem own_fin {ud : Nat → UInt64} {col a b c : Int32} {x : Nat → Int64} {r : Nat → Int32} (h0 : ud (col * (3 : Int32) + (0 : Int32)).toNatClampNeg = FP.i2d a) (h1 : ud (col * (3 : Int32) + (1 : Int32)).toNatClampNeg = FP.i2d b) (h2 : ud (col * (3 : Int32) + (2 : Int32)).toNatClampNeg = FP.i2d c) (I : own_I (own_kf ud col) x r 64) :
    ud (col * (3 : Int32) + r 0).toNatClampNeg = FP.i2d (own_min (own_min a b) c) ∧ ud (col * (3 : Int32) + r 1).toNatClampNeg = FP.i2d (own_max (own_min a b) (own_min (own_max a b) c)) ∧ ud (col * (3 : Int32) + r 2).toNatClampNeg = FP.i2d (own_max (own_max a b) c) := by
  obtain ⟨P, e0, e1, e2, s0, s1⟩ := I
  have k0 : own_kf ud col (0 : Int32).toNatClampNeg = own_ob (FP.i2d a) := by rw [← h0]; rfl
  have k1 : own_kf ud col (1 : Int32).toNatClampNeg = own_ob (FP.i2d b) := by rw [← h1]; rfl
  have k2 : own_kf ud col (2 : Int32).toNatClampNeg = own_ob (FP.i2d c) := by rw [← h2]; rfl
  have m : ∀ z : Int64, z.toUInt64.toNat % 2 ^ 64 = z.toUInt64.toNat := fun z => Nat.mod_eq_of_lt z.toUInt64.toNat_lt
  rw [m, m] at s0
  rw [m, m] at s1
  have key : ∀ y0 y1 y2 : Int32, y0.toInt = (own_min (own_min a b) c).toInt → y1.toInt = (own_max (own_min a b) (own_min (own_max a b) c)).toInt → y2.toInt = (own_max (own_max a b) c).toInt → FP.i2d y0 = FP.i2d (own_min (own_min a b) c) ∧ FP.i2d y1 = FP.i2d (own_max (own_min a b) (own_min (own_max a b) c)) ∧ FP.i2d y2 = FP.i2d (own_max (own_max a b) c) :=
    fun y0 y1 y2 q0 q1 q2 => ⟨congrArg _ (Int32.toInt_inj.mp q0), congrArg _ (Int32.toInt_inj.mp q1), congrArg _ (Int32.toInt_inj.mp q2)⟩
  simp only [own_mn, own_mx] at key
  rcases P with ⟨r0, r1, r2⟩ | ⟨r0, r1, r2⟩ | ⟨r0, r1, r2⟩ | ⟨r0, r1, r2⟩ | ⟨r0, r1, r2⟩ | ⟨r0, r1, r2⟩ <;> rw [r0] at e0 <;> rw [r1] at e1 <;> rw [r2] at e2 <;> rw [e0, e1] at s0 <;> rw [e1, e2] at s1 <;> simp only [k0, k1, k2, own_obi] at s0 s1 <;> rw [r0, r1, r2] <;> simp only [h0, h1, h2] <;> exact key _ _ _ (by omega) (by omega) (by omega)
theorem own_col2 {y col : Int32} (h : (y &&& (1 : Int32)) = col) : col = 0 ∨ col = 1 := by
  subst h
  have h : (y &&& (1 : Int32)).toBitVec.toNat = y.toBitVec.toNat % 2 := by
    rw [Int32.toBitVec_and, BitVec.toNat_and, show (1 : Int32).toBitVec.toNat = 2 ^ 1 - 1 from by decide, Nat.and_two_pow_sub_one_eq_mod]
  have h2 : (y &&& (1 : Int32)).toInt = (y &&& (1 : Int32)).toBitVec.toInt := rfl
  have h3 : (y &&& (1 : Int32)).toInt = ((y.toBitVec.toNat % 2 : Nat) : Int) := by rw [h2, BitVec.toInt_eq_toNat_of_lt (by rw [h]; omega), h]
  rcases Nat.mod_two_eq_zero_or_one y.toBitVec.toNat with q | q <;> rw [q] at h3
  · left; exact Int32.toInt_inj.mp (h3.trans (by decide))
  · right; exact Int32.toInt_inj.mp (h3.trans (by decide))
def own_c2 (col : Int32) : Prop := col = 0 ∨ col = 1
theorem own_cb {col j : Int32} (h : own_c2 col) (hj : j = 0 ∨ j = 1 ∨ j = 2) : ¬ (col * (3 : Int32) + j) < 0 ∧ (col * (3 : Int32) + j) < (6 : Int32) := by
  rcases h with rfl | rfl <;> rcases hj with rfl | rfl | rfl <;> decide
theorem own_pm3 {r : Nat → Int32} (h : own_pm r) : (r 0 = 0 ∨ r 0 = 1 ∨ r 0 = 2) ∧ (r 1 = 0 ∨ r 1 = 1 ∨ r 1 = 2) ∧ (r 2 = 0 ∨ r 2 = 1 ∨ r 2 = 2) := by
  unfold own_pm at h
  rcases h with h | h | h | h | h | h <;> simp [h]
def own_ff (u : Nat → Int32) (x : Int32) (i : Nat) : Nat → Int32 := fun j => if j < i then x else u j
theorem own_ff0 (u : Nat → Int32) (x : Int32) : own_ff u x 0 = u := by funext j; simp [own_ff]
theorem own_ffS (u : Nat → Int32) (x v : Int32) (i : Nat) (hv : v.toNatClampNeg = i) : own_upd (own_ff u x i) v x = own_ff u x (i + 1) := by
  funext j
  unfold own_upd own_ff
  rw [hv]
  by_cases h1 : j = i
  · subst h1; simp
  · by_cases h2 : j < i
    · simp [h1, h2, Nat.lt_succ_of_lt h2]
    · have h3 : ¬ j < i + 1 := by omega
      simp [h1, h2, h3]
theorem own_I0 (kf x : Nat → Int64) (r : Nat → Int32) (h0 : x 0 = kf 0) (h1 : x 1 = kf 1) (h2 : x 2 = kf 2) (r0 : r 0 = 0) (r1 : r 1 = 1) (r2 : r 2 = 2) : own_I kf x r 0 := by
  refine ⟨Or.inl ⟨r0, r1, r2⟩, ?_, ?_, ?_, by omega, by omega⟩
  · rw [h0, r0]; rfl
  · rw [h1, r1]; rfl
  · rw [h2, r2]; rfl
theorem own_succ {v : Int32} {i : Nat} (h : v.toInt = (i : Int)) (hi : (i : Int) < 2147483647) : (v + (1 : Int32)).toInt = ((i + 1 : Nat) : Int) := by
  rw [Int32.toInt_add, h, show (1 : Int32).toInt = 1 from by decide, Int.bmod_eq_of_le (by omega) (by omega)]
  omega
def own_L (xs : List UInt64) : Nat → UInt64 := fun i => xs.getD i 0
theorem own_Lget (xs : List UInt64) (i : Nat) : (xs.map Value.double).getD i (.double (0 : UInt64)) = .double (own_L xs i) := by
  unfold own_L
  simp only [List.getD_eq_getElem?_getD, List.getElem?_map]
  cases xs[i]? <;> rfl
theorem own_Lnn (xs : List Int32) (i : Nat) : NoNaN64 (own_L (xs.map FP.i2d) i) := by
  unfold own_L
  simp only [List.getD_eq_getElem?_getD, List.getElem?_map]
  cases xs[i]? with
  | none => show NoNaN64 0; unfold NoNaN64; decide
  | some z => exact (i2d_fin z).noNaN
theorem own_cmp {x : UInt64} {z : Int32} (h : x = FP.i2d z) : cmpValue (FP.dcmp x (FP.i2d z)) .l = 0 := by
  rw [h]; exact dcmpV_self (i2d_fin z).noNaN .l
theorem pn_0 : plainName "java/lang/Double" = true := by first | (simp [plainName, overriddenIn]; done) | decide +kernel
theorem d6_0 : decode jdk_117_method_6_code 0 = .ok (.dload_n 0, 1) := by decide +kernel
theorem d6_1 : decode jdk_117_method_6_code 1 = .ok (.dload_n 0, 1) := by decide +kernel
theorem d6_2 : decode jdk_117_method_6_code 2 = .ok (.dcmp .l, 1) := by decide +kernel
theorem d6_3 : decode jdk_117_method_6_code 3 = .ok (.ifCond .eq 7, 3) := by decide +kernel
theorem d6_10 : decode jdk_117_method_6_code 10 = .ok (.iconst 0, 1) := by decide +kernel
theorem d6_11 : decode jdk_117_method_6_code 11 = .ok (.ireturn, 1) := by decide +kernel
theorem ef_rmN (m : MethodId) (x0 : UInt64) : entryFrame m #[(.double x0)] 2 = mkF m 0 #[.val (.double x0), .second] [] := by first | (simp [entryFrame, mkF, argsToLocals, Value.category]; done) | rfl
def QrmN (Z : State) (dd : UInt64) (h0 : Heap) (n0 : Nat) (v : Option Value) (h : Heap) (L : List Loc) : Prop := v = some (.int 0) ∧ Fr n0 L ∧ h = h0
set_option maxRecDepth 65536 in
set_option maxHeartbeats 40000000 in
theorem rmN (l : Launch) (Z : State) (a0 : Array Value) (hw : ∀ d ∈ tables_1, d.before a0 Z = true) (ws : List Jvm.Cond) (dd : UInt64) (h0 : Heap) (n0 : Nat) (Z0 : n0 ≤ h0.size) (hn : NoNaN64 dd) :
    MetFree l (⟨"java/lang/Double", "isNaN", "(D)Z"⟩ : MethodName) (head1 (Jvm.Cond.code (⟨"java/lang/Double", "isNaN", "(D)Z"⟩ : MethodName) jdk_117_method_6_code 2 (some .boolean) :: ws) ({ frames := 0, cells := 0, slots := 0, locals := 0 } : Room)) (fun aq Uq => aq = #[(.double dd)] ∧ Z.Warmed39 Uq.vm ∧ Uq.heap = h0) (fun _ _ _ _ _ => True) (fun _ Uq oq Uq' => ∃ vq Lq, oq = .returned vq ∧ QrmN Z dd h0 n0 vq Uq'.heap Lq ∧ FrameEnd Uq oq Uq' Lq ({ frames := 0, cells := 0, slots := 0, locals := 0 } : Room).cells ({ frames := 0, cells := 0, slots := 0, locals := 0 } : Room).slots) := by
  refine MetFree.of_bodySF (plainFor_of_name pn_0) hisR ?_
  intro p e s m args below meth c s₁ Bd hml0 hP hK
  obtain ⟨rfl, hZ, hh⟩ := hP
  have hx := Bd.exec
  have hby := Bd.bytes
  have hml : c.maxLocals = 2 := hml0
  have hown : s.vm.findClass "java/lang/Double" = some m.cls := findClass_of_methodNamed Bd.named
  have hnm := (name_of_methodNamed Bd.named Bd.method).1
  have X0 : Stand p l e ({ frames := 0, cells := 0, slots := 0, locals := 0 } : Room) s m #[(.double dd)] below meth c s₁ [] 0 0 := Stand.of_body Bd
  have e0 : s₁.heap = h0 := by rw [← hh, Bd.state]; rfl
  have N0 := Fr.nil n0
  have ZH := Z0
  have KK := Keep.refl h0 []
  refine own_start (fun t kq => castTop (ef_rmN m dd) kq) ?_
  show own_Go p.tables e below _ (s₁.setTop (mkF m 0 #[.val (.double dd), .second] []))
  refine own_up (fun _ kq => XS.dloadN X0.here hx rfl (hb hby d6_0) rfl kq) ?_
  show own_Go p.tables e below _ (s₁.setTop (mkF m 1 #[.val (.double dd), .second] [(.double dd)]))
  refine own_up (fun _ kq => XS.dloadN X0.here hx rfl (hb hby d6_1) rfl kq) ?_
  show own_Go p.tables e below _ (s₁.setTop (mkF m 2 #[.val (.double dd), .second] [(.double dd), (.double dd)]))
  refine own_up (fun _ kq => XS.dcmpS X0.here hx rfl (v := (cmpValue (FP.dcmp dd dd) .l)) (hb hby d6_2) rfl rfl kq) ?_
  show own_Go p.tables e below _ (s₁.setTop (mkF m 3 #[.val (.double dd), .second] [(.int (cmpValue (FP.dcmp dd dd) .l))]))
  refine own_up (fun _ kq => XS.ifYes X0.here hx rfl (pc0 := 3) (pc' := 10) rfl (hb hby d6_3) rfl ((if0 _ _).trans (teq (dcmpV_self hn .l)).1) (by decide) (by decide) kq) ?_
  show own_Go p.tables e below _ (s₁.setTop (mkF m 10 #[.val (.double dd), .second] []))
  refine own_up (fun _ kq => XS.iconst X0.here hx rfl (hb hby d6_10) kq) ?_
  show own_Go p.tables e below _ (s₁.setTop (mkF m 11 #[.val (.double dd), .second] [(.int (0 : Int32))]))
  obtain ⟨fs1, hr1, hrun1, hended1, hW1, hsame1⟩ := X0.leave (v := some (.int (0 : Int32))) (fun h => by rw [Bd.returns] at h; cases h)
  refine own_end ⟨_, _, ?_, hrun1, hended1, _, _, rfl, ?_, ⟨_, rfl⟩, hW1, hsame1.mono (by decide) (by decide)⟩
  · exact retN X0 hx (t := .boolean) Bd.returns (by simp) (hb hby d6_11) hr1
  · show QrmN Z dd h0 n0 _ s₁.heap _
    rw [e0]
    exact ⟨rfl, N0, rfl⟩
theorem d5_0 : decode jdk_117_method_23_code 0 = .ok (.dload_n 0, 1) := by decide +kernel
theorem d5_1 : decode jdk_117_method_23_code 1 = .ok (.invokestatic 122, 3) := by decide +kernel
theorem pd_0 : parseMethodDescriptor "(D)Z" = some ⟨[.double], some .boolean⟩ := by decide +kernel
theorem d5_4 : decode jdk_117_method_23_code 4 = .ok (.ifCond .ne 8, 3) := by decide +kernel
theorem d5_7 : decode jdk_117_method_23_code 7 = .ok (.dload_n 0, 1) := by decide +kernel
theorem d5_8 : decode jdk_117_method_23_code 8 = .ok (.invokestatic 134, 3) := by decide +kernel
theorem d5_11 : decode jdk_117_method_23_code 11 = .ok (.lreturn, 1) := by decide +kernel
theorem ef_rmD (m : MethodId) (x0 : UInt64) : entryFrame m #[(.double x0)] 2 = mkF m 0 #[.val (.double x0), .second] [] := by first | (simp [entryFrame, mkF, argsToLocals, Value.category]; done) | rfl
def QrmD (Z : State) (dd : UInt64) (h0 : Heap) (n0 : Nat) (v : Option Value) (h : Heap) (L : List Loc) : Prop := v = some (.long dd.toInt64) ∧ Fr n0 L ∧ h = h0
set_option maxRecDepth 65536 in
set_option maxHeartbeats 40000000 in
theorem rmD (l : Launch) (Z : State) (a0 : Array Value) (hw : ∀ d ∈ tables_1, d.before a0 Z = true) (ws : List Jvm.Cond) (dd : UInt64) (h0 : Heap) (n0 : Nat) (Z0 : n0 ≤ h0.size) (hn : NoNaN64 dd) :
    MetFree l (⟨"java/lang/Double", "doubleToLongBits", "(D)J"⟩ : MethodName) (head1 (Jvm.Cond.code (⟨"java/lang/Double", "doubleToLongBits", "(D)J"⟩ : MethodName) jdk_117_method_23_code 2 (some .long) :: ws) ({ frames := 1, cells := 0, slots := 0, locals := 15 } : Room)) (fun aq Uq => aq = #[(.double dd)] ∧ Z.Warmed39 Uq.vm ∧ Uq.heap = h0) (fun _ _ _ _ _ => True) (fun _ Uq oq Uq' => ∃ vq Lq, oq = .returned vq ∧ QrmD Z dd h0 n0 vq Uq'.heap Lq ∧ FrameEnd Uq oq Uq' Lq ({ frames := 1, cells := 0, slots := 0, locals := 15 } : Room).cells ({ frames := 1, cells := 0, slots := 0, locals := 15 } : Room).slots) := by
  refine MetFree.of_bodySF (plainFor_of_name pn_0) hisR ?_
  intro p e s m args below meth c s₁ Bd hml0 hP hK
  obtain ⟨rfl, hZ, hh⟩ := hP
  have hx := Bd.exec
  have hby := Bd.bytes
  have hml : c.maxLocals = 2 := hml0
  have hown : s.vm.findClass "java/lang/Double" = some m.cls := findClass_of_methodNamed Bd.named
  have hnm := (name_of_methodNamed Bd.named Bd.method).1
  have X0 : Stand p l e ({ frames := 1, cells := 0, slots := 0, locals := 15 } : Room) s m #[(.double dd)] below meth c s₁ [] 0 0 := Stand.of_body Bd
  have e0 : s₁.heap = h0 := by rw [← hh, Bd.state]; rfl
  have N0 := Fr.nil n0
  have ZH := Z0
  have KK := Keep.refl h0 []
  refine own_start (fun t kq => castTop (ef_rmD m dd) kq) ?_
  show own_Go p.tables e below _ (s₁.setTop (mkF m 0 #[.val (.double dd), .second] []))
  refine own_up (fun _ kq => XS.dloadN X0.here hx rfl (hb hby d5_0) rfl kq) ?_
  show own_Go p.tables e below _ (s₁.setTop (mkF m 1 #[.val (.double dd), .second] [(.double dd)]))
  obtain ⟨_, _, ⟨T1, L1, k1, n1⟩, -, X1, ⟨Lc1, hQ1, l1, y1, z1⟩, st1⟩ := Jvm.LawKit.callS X0 hx (y := (⟨"java/lang/Double", "isNaN", "(D)Z"⟩ : MethodName)) hown (mvT hZ (hw _ (List.mem_of_getElem? (i := 26) rfl))) (mvT hZ (hw _ (List.mem_of_getElem? (i := 27) rfl))) (mvT hZ (hw _ (List.mem_of_getElem? (i := 24) rfl))) (mvT hZ (hw _ (List.mem_of_getElem? (i := 28) rfl))) (by decide) (backOf (W := 0) (rmN l Z a0 hw [] dd h0 n0 ZH hn) hZ (hw _ (List.mem_of_getElem? (i := 28) rfl)) (hw _ (List.mem_of_getElem? (i := 24) rfl)) (by decide) (by decide)) (g := (mkF m 1 #[.val (.double dd), .second] [(.double dd)])) rfl (by rw [hml]; rfl) (argsL := [(.double dd)]) (rest := []) (lenOf pd_0 rfl) rfl (by show 2 * 0 + _ ≤ _; exact Nat.le_of_eq rfl) (hb hby d5_1) (fun _ _ => ⟨rfl, e0, (by decide : 0 + 0 ≤ _), (by decide : 0 + 0 ≤ _)⟩)
  dsimp only [Pt.U, Pt.locs, Pt.cells, Pt.slots] at X1 l1 y1 z1 st1 hQ1
  subst l1 y1 z1
  obtain ⟨rfl, Nq1, e1⟩ := hQ1
  have N1 := Fr.app N0 Nq1
  refine own_up st1 ?_
  show own_Go p.tables e below _ (T1.setTop (mkF m 4 #[.val (.double dd), .second] [(.int (0 : Int32))]))
  refine own_up (fun _ kq => XS.ifNo X1.here hx rfl (hb hby d5_4) rfl ((if0 _ _).trans (teq (by decide : (0 : Int32) = (0 : Int32))).2) kq) ?_
  show own_Go p.tables e below _ (T1.setTop (mkF m 7 #[.val (.double dd), .second] []))
  refine own_up (fun _ kq => XS.dloadN X1.here hx rfl (hb hby d5_7) rfl kq) ?_
  show own_Go p.tables e below _ (T1.setTop (mkF m 8 #[.val (.double dd), .second] [(.double dd)]))
  obtain ⟨vq2, X2, st2⟩ := X1.doubleToRawLongBits hx hown (mvT hZ (hw _ (List.mem_of_getElem? (i := 29) rfl))) (mvT hZ (hw _ (List.mem_of_getElem? (i := 31) rfl))) (mvT hZ (hw _ (List.mem_of_getElem? (i := 30) rfl))) (mvT hZ (hw _ (List.mem_of_getElem? (i := 24) rfl))) (g := (mkF m 8 #[.val (.double dd), .second] [(.double dd)])) rfl (by rw [hml]; rfl) (rest := []) (b := dd) rfl (hb hby d5_8) (by decide) (by show 2 * 0 + 0 + (nativeFrameWords "java/lang/Double" "doubleToRawLongBits" 2 + 11) ≤ _; decide +kernel)
  have e2 : (T1.setVm vq2).heap = h0 := e1
  generalize T1.setVm vq2 = T2 at X2 st2 e2
  refine own_up st2 ?_
  show own_Go p.tables e below _ (T2.setTop (mkF m 11 #[.val (.double dd), .second] [(.long dd.toInt64)]))
  obtain ⟨fs3, hr3, hrun3, hended3, hW3, hsame3⟩ := X2.leave (v := some (.long dd.toInt64)) (fun h => by rw [Bd.returns] at h; cases h)
  refine own_end ⟨_, _, ?_, hrun3, hended3, _, _, rfl, ?_, ⟨_, rfl⟩, hW3, hsame3.mono (by decide) (by decide)⟩
  · exact retOut X2 hx Bd.returns rfl (Or.inr (Or.inl ⟨rfl, rfl, _, rfl⟩)) (hb hby d5_11) hr3
  · show QrmD Z dd h0 n0 _ T2.heap _
    rw [e2]
    exact ⟨rfl, N1, rfl⟩
theorem pn_1 : plainName "com/example/ranksieve/ranksieve/model/SortedColumn" = true := by first | (simp [plainName, overriddenIn]; done) | decide +kernel
theorem d4_0 : decode prog_69_method_10_code 0 = .ok (.dload_n 0, 1) := by decide +kernel
theorem d4_1 : decode prog_69_method_10_code 1 = .ok (.invokestatic 77, 3) := by decide +kernel
theorem pd_1 : parseMethodDescriptor "(D)J" = some ⟨[.double], some .long⟩ := by decide +kernel
theorem d4_4 : decode prog_69_method_10_code 4 = .ok (.lstore_n 2, 1) := by decide +kernel
theorem d4_5 : decode prog_69_method_10_code 5 = .ok (.lload_n 2, 1) := by decide +kernel
theorem d4_6 : decode prog_69_method_10_code 6 = .ok (.lconst 0, 1) := by decide +kernel
theorem d4_7 : decode prog_69_method_10_code 7 = .ok (.lcmp, 1) := by decide +kernel
theorem d4_8 : decode prog_69_method_10_code 8 = .ok (.ifCond .ge 11, 3) := by decide +kernel
theorem d4_11 : decode prog_69_method_10_code 11 = .ok (.lload_n 2, 1) := by decide +kernel
theorem d4_12 : decode prog_69_method_10_code 12 = .ok (.ldc2_w 82, 3) := by decide +kernel
theorem d4_15 : decode prog_69_method_10_code 15 = .ok (.lxor, 1) := by decide +kernel
theorem d4_16 : decode prog_69_method_10_code 16 = .ok (.goto 8, 3) := by decide +kernel
theorem d4_19 : decode prog_69_method_10_code 19 = .ok (.lload_n 2, 1) := by decide +kernel
theorem d4_20 : decode prog_69_method_10_code 20 = .ok (.ldc2_w 84, 3) := by decide +kernel
theorem d4_23 : decode prog_69_method_10_code 23 = .ok (.lor, 1) := by decide +kernel
theorem d4_24 : decode prog_69_method_10_code 24 = .ok (.lreturn, 1) := by decide +kernel
theorem ef_rmB (m : MethodId) (x0 : UInt64) : entryFrame m #[(.double x0)] 4 = mkF m 0 #[.val (.double x0), .second, .unset, .unset] [] := by first | (simp [entryFrame, mkF, argsToLocals, Value.category]; done) | rfl
def QrmB (Z : State) (dd : UInt64) (h0 : Heap) (n0 : Nat) (v : Option Value) (h : Heap) (L : List Loc) : Prop := v = some (.long (own_ob dd)) ∧ Fr n0 L ∧ h = h0
set_option maxRecDepth 65536 in
set_option maxHeartbeats 40000000 in
theorem rmB (l : Launch) (Z : State) (a0 : Array Value) (hw : ∀ d ∈ tables_1, d.before a0 Z = true) (ws : List Jvm.Cond) (dd : UInt64) (h0 : Heap) (n0 : Nat) (Z0 : n0 ≤ h0.size) (hn : NoNaN64 dd) :
    MetFree l (⟨"com/example/ranksieve/ranksieve/model/SortedColumn", "orderedBits", "(D)J"⟩ : MethodName) (head1 (Jvm.Cond.code (⟨"com/example/ranksieve/ranksieve/model/SortedColumn", "orderedBits", "(D)J"⟩ : MethodName) prog_69_method_10_code 4 (some .long) :: ws) ({ frames := 2, cells := 0, slots := 0, locals := 28 } : Room)) (fun aq Uq => aq = #[(.double dd)] ∧ Z.Warmed39 Uq.vm ∧ Uq.heap = h0) (fun _ _ _ _ _ => True) (fun _ Uq oq Uq' => ∃ vq Lq, oq = .returned vq ∧ QrmB Z dd h0 n0 vq Uq'.heap Lq ∧ FrameEnd Uq oq Uq' Lq ({ frames := 2, cells := 0, slots := 0, locals := 28 } : Room).cells ({ frames := 2, cells := 0, slots := 0, locals := 28 } : Room).slots) := by
  refine MetFree.of_bodySF (plainFor_of_name pn_1) hisR ?_
  intro p e s m args below meth c s₁ Bd hml0 hP hK
  obtain ⟨rfl, hZ, hh⟩ := hP
  have hx := Bd.exec
  have hby := Bd.bytes
  have hml : c.maxLocals = 4 := hml0
  have hown : s.vm.findClass "com/example/ranksieve/ranksieve/model/SortedColumn" = some m.cls := findClass_of_methodNamed Bd.named
  have hnm := (name_of_methodNamed Bd.named Bd.method).1
  have X0 : Stand p l e ({ frames := 2, cells := 0, slots := 0, locals := 28 } : Room) s m #[(.double dd)] below meth c s₁ [] 0 0 := Stand.of_body Bd
  have e0 : s₁.heap = h0 := by rw [← hh, Bd.state]; rfl
  have N0 := Fr.nil n0
  have ZH := Z0
  have KK := Keep.refl h0 []
  refine own_start (fun t kq => castTop (ef_rmB m dd) kq) ?_
  show own_Go p.tables e below _ (s₁.setTop (mkF m 0 #[.val (.double dd), .second, .unset, .unset] []))
  refine own_up (fun _ kq => XS.dloadN X0.here hx rfl (hb hby d4_0) rfl kq) ?_
  show own_Go p.tables e below _ (s₁.setTop (mkF m 1 #[.val (.double dd), .second, .unset, .unset] [(.double dd)]))
  obtain ⟨_, _, ⟨T1, L1, k1, n1⟩, -, X1, ⟨Lc1, hQ1, l1, y1, z1⟩, st1⟩ := Jvm.LawKit.callS X0 hx (y := (⟨"java/lang/Double", "doubleToLongBits", "(D)J"⟩ : MethodName)) hown (mvT hZ (hw _ (List.mem_of_getElem? (i := 22) rfl))) (mvT hZ (hw _ (List.mem_of_getElem? (i := 23) rfl))) (mvT hZ (hw _ (List.mem_of_getElem? (i := 24) rfl))) (mvT hZ (hw _ (List.mem_of_getElem? (i := 25) rfl))) (by decide) (backOf (W := 0) (rmD l Z a0 hw [] dd h0 n0 ZH hn) hZ (hw _ (List.mem_of_getElem? (i := 25) rfl)) (hw _ (List.mem_of_getElem? (i := 24) rfl)) (by decide) (by decide)) (g := (mkF m 1 #[.val (.double dd), .second, .unset, .unset] [(.double dd)])) rfl (by rw [hml]; rfl) (argsL := [(.double dd)]) (rest := []) (lenOf pd_1 rfl) rfl (by show 2 * 0 + _ ≤ _; exact Nat.le_of_eq rfl) (hb hby d4_1) (fun _ _ => ⟨rfl, e0, (by decide : 0 + 0 ≤ _), (by decide : 0 + 0 ≤ _)⟩)
  dsimp only [Pt.U, Pt.locs, Pt.cells, Pt.slots] at X1 l1 y1 z1 st1 hQ1
  subst l1 y1 z1
  obtain ⟨rfl, Nq1, e1⟩ := hQ1
  have N1 := Fr.app N0 Nq1
  refine own_up st1 ?_
  show own_Go p.tables e below _ (T1.setTop (mkF m 4 #[.val (.double dd), .second, .unset, .unset] [(.long dd.toInt64)]))
  refine own_up (fun _ kq => XS.lstoreN X1.here hx rfl (hb hby d4_4) rfl (l' := #[.val (.double dd), .second, .val (.long dd.toInt64), .second]) rfl kq) ?_
  show own_Go p.tables e below _ (T1.setTop (mkF m 5 #[.val (.double dd), .second, .val (.long dd.toInt64), .second] []))
  refine own_up (fun _ kq => XS.lloadN X1.here hx rfl (hb hby d4_5) rfl kq) ?_
  show own_Go p.tables e below _ (T1.setTop (mkF m 6 #[.val (.double dd), .second, .val (.long dd.toInt64), .second] [(.long dd.toInt64)]))
  refine own_up (fun _ kq => XS.lconst X1.here hx rfl (hb hby d4_6) kq) ?_
  show own_Go p.tables e below _ (T1.setTop (mkF m 7 #[.val (.double dd), .second, .val (.long dd.toInt64), .second] [(.long (0 : Int64)), (.long dd.toInt64)]))
  refine own_up (fun _ kq => XS.lcmp X1.here hx rfl (hb hby d4_7) rfl kq) ?_
  show own_Go p.tables e below _ (T1.setTop (mkF m 8 #[.val (.double dd), .second, .val (.long dd.toInt64), .second] [(.int (lcmpW dd.toInt64 (0 : Int64)))]))
  obtain ⟨v8, hv8⟩ : ∃ z : Int64, z = if (lcmpW dd.toInt64 (0 : Int64)) < (0 : Int32) then (dd.toInt64 ^^^ (-1 : Int64)) else (dd.toInt64 ||| (-9223372036854775808 : Int64)) := ⟨_, rfl⟩
  have sg2 : ∀ t, Steps p.tables e below (T1.setTop (mkF m 24 #[.val (.double dd), .second, .val (.long dd.toInt64), .second] [(.long v8)])) t → Steps p.tables e below (T1.setTop (mkF m 8 #[.val (.double dd), .second, .val (.long dd.toInt64), .second] [(.int (lcmpW dd.toInt64 (0 : Int64)))])) t := by
    intro t kq
    by_cases hc8 : (lcmpW dd.toInt64 (0 : Int64)) < (0 : Int32)
    · rw [hv8, if_pos hc8] at kq
      refine XS.ifNo X1.here hx rfl (hb hby d4_8) rfl ((if0 _ _).trans (tlt hc8).2.1) ?_
      show Steps p.tables e below (T1.setTop (mkF m 11 #[.val (.double dd), .second, .val (.long dd.toInt64), .second] [])) _
      refine XS.lloadN X1.here hx rfl (hb hby d4_11) rfl ?_
      show Steps p.tables e below (T1.setTop (mkF m 12 #[.val (.double dd), .second, .val (.long dd.toInt64), .second] [(.long dd.toInt64)])) _
      refine X1.ldc2Long hx hown (mvT hZ (hw _ (List.mem_of_getElem? (i := 62) rfl))) (g := (mkF m 12 #[.val (.double dd), .second, .val (.long dd.toInt64), .second] [(.long dd.toInt64)])) rfl (hb hby d4_12) _ ?_
      show Steps p.tables e below (T1.setTop (mkF m 15 #[.val (.double dd), .second, .val (.long dd.toInt64), .second] [(.long (-1 : Int64)), (.long dd.toInt64)])) _
      refine XS.lxor X1.here hx rfl (hb hby d4_15) rfl ?_
      show Steps p.tables e below (T1.setTop (mkF m 16 #[.val (.double dd), .second, .val (.long dd.toInt64), .second] [(.long (dd.toInt64 ^^^ (-1 : Int64)))])) _
      refine XS.goto X1.here hx rfl (pc0 := 16) (pc' := 24) rfl (hb hby d4_16) (by decide) (by decide) ?_
      show Steps p.tables e below (T1.setTop (mkF m 24 #[.val (.double dd), .second, .val (.long dd.toInt64), .second] [(.long (dd.toInt64 ^^^ (-1 : Int64)))])) _
      exact kq
    · rw [hv8, if_neg hc8] at kq
      refine XS.ifYes X1.here hx rfl (pc0 := 8) (pc' := 19) rfl (hb hby d4_8) rfl ((if0 _ _).trans (flt hc8).2.1) (by decide) (by decide) ?_
      show Steps p.tables e below (T1.setTop (mkF m 19 #[.val (.double dd), .second, .val (.long dd.toInt64), .second] [])) _
      refine XS.lloadN X1.here hx rfl (hb hby d4_19) rfl ?_
      show Steps p.tables e below (T1.setTop (mkF m 20 #[.val (.double dd), .second, .val (.long dd.toInt64), .second] [(.long dd.toInt64)])) _
      refine X1.ldc2Long hx hown (mvT hZ (hw _ (List.mem_of_getElem? (i := 32) rfl))) (g := (mkF m 20 #[.val (.double dd), .second, .val (.long dd.toInt64), .second] [(.long dd.toInt64)])) rfl (hb hby d4_20) _ ?_
      show Steps p.tables e below (T1.setTop (mkF m 23 #[.val (.double dd), .second, .val (.long dd.toInt64), .second] [(.long (-9223372036854775808 : Int64)), (.long dd.toInt64)])) _
      refine XS.lor X1.here hx rfl (hb hby d4_23) rfl ?_
      show Steps p.tables e below (T1.setTop (mkF m 24 #[.val (.double dd), .second, .val (.long dd.toInt64), .second] [(.long (dd.toInt64 ||| (-9223372036854775808 : Int64)))])) _
      exact kq
  refine own_up sg2 ?_
  show own_Go p.tables e below _ (T1.setTop (mkF m 24 #[.val (.double dd), .second, .val (.long dd.toInt64), .second] [(.long v8)]))
  obtain ⟨fs3, hr3, hrun3, hended3, hW3, hsame3⟩ := X1.leave (v := some (.long v8)) (fun h => by rw [Bd.returns] at h; cases h)
  refine own_end ⟨_, _, ?_, hrun3, hended3, _, _, rfl, ?_, ⟨_, rfl⟩, hW3, hsame3.mono (by decide) (by decide)⟩
  · exact retOut X1 hx Bd.returns rfl (Or.inr (Or.inl ⟨rfl, rfl, _, rfl⟩)) (hb hby d4_24) hr3
  · show QrmB Z dd h0 n0 _ T1.heap _
    rw [e1]
    subst hv8
    exact ⟨rfl, N1, rfl⟩
theorem d8_0 : decode prog_69_method_11_code 0 = .ok (.lload_n 0, 1) := by decide +kernel
theorem d8_1 : decode prog_69_method_11_code 1 = .ok (.iload_n 2, 1) := by decide +kernel
theorem d8_2 : decode prog_69_method_11_code 2 = .ok (.lushr, 1) := by decide +kernel
theorem d8_3 : decode prog_69_method_11_code 3 = .ok (.l2i, 1) := by decide +kernel
theorem d8_4 : decode prog_69_method_11_code 4 = .ok (.ldc 86, 2) := by decide +kernel
theorem d8_6 : decode prog_69_method_11_code 6 = .ok (.iand, 1) := by decide +kernel
theorem d8_7 : decode prog_69_method_11_code 7 = .ok (.ireturn, 1) := by decide +kernel
theorem ef_rmG (m : MethodId) (x0 : Int64) (x1 : Int32) : entryFrame m #[(.long x0), (.int x1)] 3 = mkF m 0 #[.val (.long x0), .second, .val (.int x1)] [] := by first | (simp [entryFrame, mkF, argsToLocals, Value.category]; done) | rfl
def QrmG (Z : State) (kk : Int64) (sh : Int32) (h0 : Heap) (n0 : Nat) (v : Option Value) (h : Heap) (L : List Loc) : Prop := v = some (.int (own_dg kk sh)) ∧ Fr n0 L ∧ h = h0
set_option maxRecDepth 65536 in
set_option maxHeartbeats 40000000 in
theorem rmG (l : Launch) (Z : State) (a0 : Array Value) (hw : ∀ d ∈ tables_1, d.before a0 Z = true) (ws : List Jvm.Cond) (kk : Int64) (sh : Int32) (h0 : Heap) (n0 : Nat) (Z0 : n0 ≤ h0.size) :
    MetFree l (⟨"com/example/ranksieve/ranksieve/model/SortedColumn", "digit", "(JI)I"⟩ : MethodName) (head1 (Jvm.Cond.code (⟨"com/example/ranksieve/ranksieve/model/SortedColumn", "digit", "(JI)I"⟩ : MethodName) prog_69_method_11_code 3 (some .int) :: ws) ({ frames := 0, cells := 0, slots := 0, locals := 0 } : Room)) (fun aq Uq => aq = #[(.long kk), (.int sh)] ∧ Z.Warmed39 Uq.vm ∧ Uq.heap = h0) (fun _ _ _ _ _ => True) (fun _ Uq oq Uq' => ∃ vq Lq, oq = .returned vq ∧ QrmG Z kk sh h0 n0 vq Uq'.heap Lq ∧ FrameEnd Uq oq Uq' Lq ({ frames := 0, cells := 0, slots := 0, locals := 0 } : Room).cells ({ frames := 0, cells := 0, slots := 0, locals := 0 } : Room).slots) := by
  refine MetFree.of_bodySF (plainFor_of_name pn_1) hisR ?_
  intro p e s m args below meth c s₁ Bd hml0 hP hK
  obtain ⟨rfl, hZ, hh⟩ := hP
  have hx := Bd.exec
  have hby := Bd.bytes
  have hml : c.maxLocals = 3 := hml0
  have hown : s.vm.findClass "com/example/ranksieve/ranksieve/model/SortedColumn" = some m.cls := findClass_of_methodNamed Bd.named
  have hnm := (name_of_methodNamed Bd.named Bd.method).1
  have X0 : Stand p l e ({ frames := 0, cells := 0, slots := 0, locals := 0 } : Room) s m #[(.long kk), (.int sh)] below meth c s₁ [] 0 0 := Stand.of_body Bd
  have e0 : s₁.heap = h0 := by rw [← hh, Bd.state]; rfl
  have N0 := Fr.nil n0
  have ZH := Z0
  have KK := Keep.refl h0 []
  refine own_start (fun t kq => castTop (ef_rmG m kk sh) kq) ?_
  show own_Go p.tables e below _ (s₁.setTop (mkF m 0 #[.val (.long kk), .second, .val (.int sh)] []))
  refine own_up (fun _ kq => XS.lloadN X0.here hx rfl (hb hby d8_0) rfl kq) ?_
  show own_Go p.tables e below _ (s₁.setTop (mkF m 1 #[.val (.long kk), .second, .val (.int sh)] [(.long kk)]))
  refine own_up (fun _ kq => XS.iloadN X0.here hx rfl (hb hby d8_1) rfl kq) ?_
  show own_Go p.tables e below _ (s₁.setTop (mkF m 2 #[.val (.long kk), .second, .val (.int sh)] [(.int sh), (.long kk)]))
  refine own_up (fun _ kq => XS.lushr X0.here hx rfl (hb hby d8_2) rfl kq) ?_
  show own_Go p.tables e below _ (s₁.setTop (mkF m 3 #[.val (.long kk), .second, .val (.int sh)] [(.long ((kk.toUInt64 >>> (sh &&& 0x3f).toInt64.toUInt64).toInt64))]))
  refine own_up (fun _ kq => XS.l2i X0.here hx rfl (hb hby d8_3) rfl kq) ?_
  show own_Go p.tables e below _ (s₁.setTop (mkF m 4 #[.val (.long kk), .second, .val (.int sh)] [(.int ((kk.toUInt64 >>> (sh &&& 0x3f).toInt64.toUInt64).toInt64).toInt32)]))
  refine own_up (fun _ kq => X0.ldcInt hx hown (mvT hZ (hw _ (List.mem_of_getElem? (i := 41) rfl))) (g := (mkF m 4 #[.val (.long kk), .second, .val (.int sh)] [(.int ((kk.toUInt64 >>> (sh &&& 0x3f).toInt64.toUInt64).toInt64).toInt32)])) rfl (hb hby d8_4) _ kq) ?_
  show own_Go p.tables e below _ (s₁.setTop (mkF m 6 #[.val (.long kk), .second, .val (.int sh)] [(.int (65535 : Int32)), (.int ((kk.toUInt64 >>> (sh &&& 0x3f).toInt64.toUInt64).toInt64).toInt32)]))
  refine own_up (fun _ kq => XS.iand X0.here hx rfl (hb hby d8_6) rfl kq) ?_
  show own_Go p.tables e below _ (s₁.setTop (mkF m 7 #[.val (.long kk), .second, .val (.int sh)] [(.int (((kk.toUInt64 >>> (sh &&& 0x3f).toInt64.toUInt64).toInt64).toInt32 &&& (65535 : Int32)))]))
  obtain ⟨fs1, hr1, hrun1, hended1, hW1, hsame1⟩ := X0.leave (v := some (.int (((kk.toUInt64 >>> (sh &&& 0x3f).toInt64.toUInt64).toInt64).toInt32 &&& (65535 : Int32)))) (fun h => by rw [Bd.returns] at h; cases h)
  refine own_end ⟨_, _, ?_, hrun1, hended1, _, _, rfl, ?_, ⟨_, rfl⟩, hW1, hsame1.mono (by decide) (by decide)⟩
  · exact retOut X0 hx Bd.returns rfl (Or.inl ⟨rfl, Or.inl rfl, _, rfl⟩) (hb hby d8_7) hr1
  · show QrmG Z kk sh h0 n0 _ s₁.heap _
    rw [e0]
    exact ⟨rfl, N0, rfl⟩
theorem d9_0 : decode jdk_29_method_69_code 0 = .ok (.iload_n 0, 1) := by decide +kernel
theorem d9_1 : decode jdk_29_method_69_code 1 = .ok (.iload_n 1, 1) := by decide +kernel
theorem d9_2 : decode jdk_29_method_69_code 2 = .ok (.if_icmp .gt 7, 3) := by decide +kernel
theorem d9_9 : decode jdk_29_method_69_code 9 = .ok (.iload_n 1, 1) := by decide +kernel
theorem d9_5 : decode jdk_29_method_69_code 5 = .ok (.iload_n 0, 1) := by decide +kernel
theorem d9_6 : decode jdk_29_method_69_code 6 = .ok (.goto 4, 3) := by decide +kernel
theorem d9_10 : decode jdk_29_method_69_code 10 = .ok (.ireturn, 1) := by decide +kernel
theorem ef_rmI (m : MethodId) (x0 : Int32) (x1 : Int32) : entryFrame m #[(.int x0), (.int x1)] 2 = mkF m 0 #[.val (.int x0), .val (.int x1)] [] := by first | (simp [entryFrame, mkF, argsToLocals, Value.category]; done) | rfl
def QrmI (Z : State) (xx : Int32) (yy : Int32) (h0 : Heap) (n0 : Nat) (v : Option Value) (h : Heap) (L : List Loc) : Prop := v = some (.int (own_min xx yy)) ∧ Fr n0 L ∧ h = h0
set_option maxRecDepth 65536 in
set_option maxHeartbeats 40000000 in
theorem rmI (l : Launch) (Z : State) (a0 : Array Value) (hw : ∀ d ∈ tables_1, d.before a0 Z = true) (ws : List Jvm.Cond) (xx : Int32) (yy : Int32) (h0 : Heap) (n0 : Nat) (Z0 : n0 ≤ h0.size) :
    MetFree l (⟨"java/lang/Math", "min", "(II)I"⟩ : MethodName) (head1 (Jvm.Cond.code (⟨"java/lang/Math", "min", "(II)I"⟩ : MethodName) jdk_29_method_69_code 2 (some .int) :: ws) ({ frames := 0, cells := 0, slots := 0, locals := 0 } : Room)) (fun aq Uq => aq = #[(.int xx), (.int yy)] ∧ Z.Warmed39 Uq.vm ∧ Uq.heap = h0) (fun _ _ _ _ _ => True) (fun _ Uq oq Uq' => ∃ vq Lq, oq = .returned vq ∧ QrmI Z xx yy h0 n0 vq Uq'.heap Lq ∧ FrameEnd Uq oq Uq' Lq ({ frames := 0, cells := 0, slots := 0, locals := 0 } : Room).cells ({ frames := 0, cells := 0, slots := 0, locals := 0 } : Room).slots) := by
  refine MetFree.of_bodySF (Jvm.Free.JP.mathPlain rfl (by decide +kernel)) hisR ?_
  intro p e s m args below meth c s₁ Bd hml0 hP hK
  obtain ⟨rfl, hZ, hh⟩ := hP
  have hx := Bd.exec
  have hby := Bd.bytes
  have hml : c.maxLocals = 2 := hml0
  have hown : s.vm.findClass "java/lang/Math" = some m.cls := findClass_of_methodNamed Bd.named
  have hnm := (name_of_methodNamed Bd.named Bd.method).1
  have X0 : Stand p l e ({ frames := 0, cells := 0, slots := 0, locals := 0 } : Room) s m #[(.int xx), (.int yy)] below meth c s₁ [] 0 0 := Stand.of_body Bd
  have e0 : s₁.heap = h0 := by rw [← hh, Bd.state]; rfl
  have N0 := Fr.nil n0
  have ZH := Z0
  have KK := Keep.refl h0 []
  refine own_start (fun t kq => castTop (ef_rmI m xx yy) kq) ?_
  show own_Go p.tables e below _ (s₁.setTop (mkF m 0 #[.val (.int xx), .val (.int yy)] []))
  refine own_up (fun _ kq => XS.iloadN X0.here hx rfl (hb hby d9_0) rfl kq) ?_
  show own_Go p.tables e below _ (s₁.setTop (mkF m 1 #[.val (.int xx), .val (.int yy)] [(.int xx)]))
  refine own_up (fun _ kq => XS.iloadN X0.here hx rfl (hb hby d9_1) rfl kq) ?_
  show own_Go p.tables e below _ (s₁.setTop (mkF m 2 #[.val (.int xx), .val (.int yy)] [(.int yy), (.int xx)]))
  obtain ⟨v2, hv2⟩ : ∃ z : Int32, z = if yy < xx then yy else xx := ⟨_, rfl⟩
  have sg1 : ∀ t, Steps p.tables e below (s₁.setTop (mkF m 10 #[.val (.int xx), .val (.int yy)] [(.int v2)])) t → Steps p.tables e below (s₁.setTop (mkF m 2 #[.val (.int xx), .val (.int yy)] [(.int yy), (.int xx)])) t := by
    intro t kq
    by_cases hc2 : yy < xx
    · rw [hv2, if_pos hc2] at kq
      refine XS.icmpYes X0.here hx rfl (pc0 := 2) (pc' := 9) rfl (hb hby d9_2) rfl (tlt hc2).2.2.1 (by decide) (by decide) ?_
      show Steps p.tables e below (s₁.setTop (mkF m 9 #[.val (.int xx), .val (.int yy)] [])) _
      refine XS.iloadN X0.here hx rfl (hb hby d9_9) rfl ?_
      show Steps p.tables e below (s₁.setTop (mkF m 10 #[.val (.int xx), .val (.int yy)] [(.int yy)])) _
      exact kq
    · rw [hv2, if_neg hc2] at kq
      refine XS.icmpNo X0.here hx rfl (hb hby d9_2) rfl (flt hc2).2.2.1 ?_
      show Steps p.tables e below (s₁.setTop (mkF m 5 #[.val (.int xx), .val (.int yy)] [])) _
      refine XS.iloadN X0.here hx rfl (hb hby d9_5) rfl ?_
      show Steps p.tables e below (s₁.setTop (mkF m 6 #[.val (.int xx), .val (.int yy)] [(.int xx)])) _
      refine XS.goto X0.here hx rfl (pc0 := 6) (pc' := 10) rfl (hb hby d9_6) (by decide) (by decide) ?_
      show Steps p.tables e below (s₁.setTop (mkF m 10 #[.val (.int xx), .val (.int yy)] [(.int xx)])) _
      exact kq
  refine own_up sg1 ?_
  show own_Go p.tables e below _ (s₁.setTop (mkF m 10 #[.val (.int xx), .val (.int yy)] [(.int v2)]))
  obtain ⟨fs2, hr2, hrun2, hended2, hW2, hsame2⟩ := X0.leave (v := some (.int v2)) (fun h => by rw [Bd.returns] at h; cases h)
  refine own_end ⟨_, _, ?_, hrun2, hended2, _, _, rfl, ?_, ⟨_, rfl⟩, hW2, hsame2.mono (by decide) (by decide)⟩
  · exact retOut X0 hx Bd.returns rfl (Or.inl ⟨rfl, Or.inl rfl, _, rfl⟩) (hb hby d9_10) hr2
  · show QrmI Z xx yy h0 n0 _ s₁.heap _
    rw [e0]
    subst hv2
    exact ⟨rfl, N0, rfl⟩
theorem d10_0 : decode jdk_29_method_65_code 0 = .ok (.iload_n 0, 1) := by decide +kernel
theorem d10_1 : decode jdk_29_method_65_code 1 = .ok (.iload_n 1, 1) := by decide +kernel
theorem d10_2 : decode jdk_29_method_65_code 2 = .ok (.if_icmp .lt 7, 3) := by decide +kernel
theorem d10_9 : decode jdk_29_method_65_code 9 = .ok (.iload_n 1, 1) := by decide +kernel
theorem d10_5 : decode jdk_29_method_65_code 5 = .ok (.iload_n 0, 1) := by decide +kernel
theorem d10_6 : decode jdk_29_method_65_code 6 = .ok (.goto 4, 3) := by decide +kernel
theorem d10_10 : decode jdk_29_method_65_code 10 = .ok (.ireturn, 1) := by decide +kernel
theorem ef_rmX (m : MethodId) (x0 : Int32) (x1 : Int32) : entryFrame m #[(.int x0), (.int x1)] 2 = mkF m 0 #[.val (.int x0), .val (.int x1)] [] := by first | (simp [entryFrame, mkF, argsToLocals, Value.category]; done) | rfl
def QrmX (Z : State) (xx : Int32) (yy : Int32) (h0 : Heap) (n0 : Nat) (v : Option Value) (h : Heap) (L : List Loc) : Prop := v = some (.int (own_max xx yy)) ∧ Fr n0 L ∧ h = h0
set_option maxRecDepth 65536 in
set_option maxHeartbeats 40000000 in
theorem rmX (l : Launch) (Z : State) (a0 : Array Value) (hw : ∀ d ∈ tables_1, d.before a0 Z = true) (ws : List Jvm.Cond) (xx : Int32) (yy : Int32) (h0 : Heap) (n0 : Nat) (Z0 : n0 ≤ h0.size) :
    MetFree l (⟨"java/lang/Math", "max", "(II)I"⟩ : MethodName) (head1 (Jvm.Cond.code (⟨"java/lang/Math", "max", "(II)I"⟩ : MethodName) jdk_29_method_65_code 2 (some .int) :: ws) ({ frames := 0, cells := 0, slots := 0, locals := 0 } : Room)) (fun aq Uq => aq = #[(.int xx), (.int yy)] ∧ Z.Warmed39 Uq.vm ∧ Uq.heap = h0) (fun _ _ _ _ _ => True) (fun _ Uq oq Uq' => ∃ vq Lq, oq = .returned vq ∧ QrmX Z xx yy h0 n0 vq Uq'.heap Lq ∧ FrameEnd Uq oq Uq' Lq ({ frames := 0, cells := 0, slots := 0, locals := 0 } : Room).cells ({ frames := 0, cells := 0, slots := 0, locals := 0 } : Room).slots) := by
  refine MetFree.of_bodySF (Jvm.Free.JP.mathPlain rfl (by decide +kernel)) hisR ?_
  intro p e s m args below meth c s₁ Bd hml0 hP hK
  obtain ⟨rfl, hZ, hh⟩ := hP
  have hx := Bd.exec
  have hby := Bd.bytes
  have hml : c.maxLocals = 2 := hml0
  have hown : s.vm.findClass "java/lang/Math" = some m.cls := findClass_of_methodNamed Bd.named
  have hnm := (name_of_methodNamed Bd.named Bd.method).1
  have X0 : Stand p l e ({ frames := 0, cells := 0, slots := 0, locals := 0 } : Room) s m #[(.int xx), (.int yy)] below meth c s₁ [] 0 0 := Stand.of_body Bd
  have e0 : s₁.heap = h0 := by rw [← hh, Bd.state]; rfl
  have N0 := Fr.nil n0
  have ZH := Z0
  have KK := Keep.refl h0 []
  refine own_start (fun t kq => castTop (ef_rmX m xx yy) kq) ?_
  show own_Go p.tables e below _ (s₁.setTop (mkF m 0 #[.val (.int xx), .val (.int yy)] []))
  refine own_up (fun _ kq => XS.iloadN X0.here hx rfl (hb hby d10_0) rfl kq) ?_
  show own_Go p.tables e below _ (s₁.setTop (mkF m 1 #[.val (.int xx), .val (.int yy)] [(.int xx)]))
  refine own_up (fun _ kq => XS.iloadN X0.here hx rfl (hb hby d10_1) rfl kq) ?_
  show own_Go p.tables e below _ (s₁.setTop (mkF m 2 #[.val (.int xx), .val (.int yy)] [(.int yy), (.int xx)]))
  obtain ⟨v2, hv2⟩ : ∃ z : Int32, z = if xx < yy then yy else xx := ⟨_, rfl⟩
  have sg1 : ∀ t, Steps p.tables e below (s₁.setTop (mkF m 10 #[.val (.int xx), .val (.int yy)] [(.int v2)])) t → Steps p.tables e below (s₁.setTop (mkF m 2 #[.val (.int xx), .val (.int yy)] [(.int yy), (.int xx)])) t := by
    intro t kq
    by_cases hc2 : xx < yy
    · rw [hv2, if_pos hc2] at kq
      refine XS.icmpYes X0.here hx rfl (pc0 := 2) (pc' := 9) rfl (hb hby d10_2) rfl (tlt hc2).1 (by decide) (by decide) ?_
      show Steps p.tables e below (s₁.setTop (mkF m 9 #[.val (.int xx), .val (.int yy)] [])) _
      refine XS.iloadN X0.here hx rfl (hb hby d10_9) rfl ?_
      show Steps p.tables e below (s₁.setTop (mkF m 10 #[.val (.int xx), .val (.int yy)] [(.int yy)])) _
      exact kq
    · rw [hv2, if_neg hc2] at kq
      refine XS.icmpNo X0.here hx rfl (hb hby d10_2) rfl (flt hc2).1 ?_
      show Steps p.tables e below (s₁.setTop (mkF m 5 #[.val (.int xx), .val (.int yy)] [])) _
      refine XS.iloadN X0.here hx rfl (hb hby d10_5) rfl ?_
      show Steps p.tables e below (s₁.setTop (mkF m 6 #[.val (.int xx), .val (.int yy)] [(.int xx)])) _
      refine XS.goto X0.here hx rfl (pc0 := 6) (pc' := 10) rfl (hb hby d10_6) (by decide) (by decide) ?_
      show Steps p.tables e below (s₁.setTop (mkF m 10 #[.val (.int xx), .val (.int yy)] [(.int xx)])) _
      exact kq
  refine own_up sg1 ?_
  show own_Go p.tables e below _ (s₁.setTop (mkF m 10 #[.val (.int xx), .val (.int yy)] [(.int v2)]))
  obtain ⟨fs2, hr2, hrun2, hended2, hW2, hsame2⟩ := X0.leave (v := some (.int v2)) (fun h => by rw [Bd.returns] at h; cases h)
  refine own_end ⟨_, _, ?_, hrun2, hended2, _, _, rfl, ?_, ⟨_, rfl⟩, hW2, hsame2.mono (by decide) (by decide)⟩
  · exact retOut X0 hx Bd.returns rfl (Or.inl ⟨rfl, Or.inl rfl, _, rfl⟩) (hb hby d10_10) hr2
  · show QrmX Z xx yy h0 n0 _ s₁.heap _
    rw [e0]
    subst hv2
    exact ⟨rfl, N0, rfl⟩
theorem d7_5 : decode jdk_65_method_103_code 5 = .ok (.iload_n 2, 1) := by decide +kernel
theorem d7_6 : decode jdk_65_method_103_code 6 = .ok (.iload_n 3, 1) := by decide +kernel
theorem d7_7 : decode jdk_65_method_103_code 7 = .ok (.if_icmp .ge 13, 3) := by decide +kernel
theorem d7_10 : decode jdk_65_method_103_code 10 = .ok (.aload_n 0, 1) := by decide +kernel
theorem d7_11 : decode jdk_65_method_103_code 11 = .ok (.iload_n 2, 1) := by decide +kernel
theorem d7_12 : decode jdk_65_method_103_code 12 = .ok (.iload_n 1, 1) := by decide +kernel
theorem d7_13 : decode jdk_65_method_103_code 13 = .ok (.iastore, 1) := by decide +kernel
theorem d7_14 : decode jdk_65_method_103_code 14 = .ok (.iinc 2 1, 3) := by decide +kernel
theorem d7_17 : decode jdk_65_method_103_code 17 = .ok (.goto (-12), 3) := by decide +kernel
set_option maxRecDepth 65536 in
set_option maxHeartbeats 40000000 in
theorem tnF {p : Program} {l : Launch} {e : Env} {R : Room} {s : State} {m : MethodId} {args : Array Value} {below : List Frame} {meth : Method} {c : Code} {T0 : State} {locs : List Loc} {cells slots : Nat} {Z : State} {a0 : Array Value} {h0 : Heap} {n0 : Nat} {P : State → Outcome → Prop} {aa : Addr} {xx : Int32} {vi : Int32} {nn : Int32} {uu : Nat → Int32}
    (X0 : Stand p l e R s m args below meth c T0 locs cells slots) (hx : p.tables.exec = Jvm.exec) (hZ : Z.Warmed39 s.vm) (hw : ∀ d ∈ tables_1, d.before a0 Z = true) (hby : c.code = jdk_65_method_103_code) (hml : c.maxLocals = 4) (hown : s.vm.findClass "java/util/Arrays" = some m.cls) (e0 : T0.heap = h0) (N0 : Fr n0 locs) (Z0 : n0 ≤ h0.size) (G_aa : own_Arf Z h0 aa .int nn (fun iq => .int (uu iq))) (g_aa : n0 ≤ aa) (hv0 : ¬ vi < 0) (hv : vi < nn)
    (K : ∀ (T' : State) (h' : Heap) (locs' : List Loc), Stand p l e R s m args below meth c T' locs' cells slots → T'.heap = h' → Fr n0 locs' → (Keep h0 h' [aa]) → (own_Arf Z h' aa .int nn (fun iq => .int (own_upd uu vi xx iq))) → own_Go p.tables e below P (T'.setTop (mkF m 5 #[.val (.ref aa), .val (.int xx), .val (.int (vi + (1 : Int32))), .val (.int nn)] []))) :
    own_Go p.tables e below P (T0.setTop (mkF m 5 #[.val (.ref aa), .val (.int xx), .val (.int vi), .val (.int nn)] [])) := by
  have ZH := Z0
  have KK := Keep.refl h0 [aa]
  refine own_up (fun _ kq => XS.iloadN X0.here hx rfl (hb hby d7_5) rfl kq) ?_
  show own_Go p.tables e below _ (T0.setTop (mkF m 6 #[.val (.ref aa), .val (.int xx), .val (.int vi), .val (.int nn)] [(.int vi)]))
  refine own_up (fun _ kq => XS.iloadN X0.here hx rfl (hb hby d7_6) rfl kq) ?_
  show own_Go p.tables e below _ (T0.setTop (mkF m 7 #[.val (.ref aa), .val (.int xx), .val (.int vi), .val (.int nn)] [(.int nn), (.int vi)]))
  refine own_up (fun _ kq => XS.icmpNo X0.here hx rfl (hb hby d7_7) rfl (tlt hv).2.1 kq) ?_
  show own_Go p.tables e below _ (T0.setTop (mkF m 10 #[.val (.ref aa), .val (.int xx), .val (.int vi), .val (.int nn)] []))
  refine own_up (fun _ kq => XS.aloadN X0.here hx rfl (hb hby d7_10) rfl rfl kq) ?_
  show own_Go p.tables e below _ (T0.setTop (mkF m 11 #[.val (.ref aa), .val (.int xx), .val (.int vi), .val (.int nn)] [(.ref aa)]))
  refine own_up (fun _ kq => XS.iloadN X0.here hx rfl (hb hby d7_11) rfl kq) ?_
  show own_Go p.tables e below _ (T0.setTop (mkF m 12 #[.val (.ref aa), .val (.int xx), .val (.int vi), .val (.int nn)] [(.int vi), (.ref aa)]))
  refine own_up (fun _ kq => XS.iloadN X0.here hx rfl (hb hby d7_12) rfl kq) ?_
  show own_Go p.tables e below _ (T0.setTop (mkF m 13 #[.val (.ref aa), .val (.int xx), .val (.int vi), .val (.int nn)] [(.int xx), (.int vi), (.ref aa)]))
  obtain ⟨cl1, Ar1, sz1, nz1, hc1⟩ := id G_aa
  obtain ⟨T1, h1, X1, e1, W1, st1⟩ := stI X0 hx hZ e0 Ar1 (j := vi) (inb_of sz1 ⟨hv0, hv⟩) (g := (mkF m 13 #[.val (.ref aa), .val (.int xx), .val (.int vi), .val (.int nn)] [(.int xx), (.int vi), (.ref aa)])) rfl rfl (hb hby d7_13)
  have G_aa : own_Arf Z h1 aa .int nn (fun i => .int ((own_upd uu vi xx) i)) := own_Arf.setI G_aa W1
  have N1 := Fr.snoc X1 N0 g_aa
  have ZH := Nat.le_trans ZH (Nat.le_of_eq W1.size.symm)
  have KK := KK.wr W1 (Or.inl (List.mem_of_getElem? (i := 0) rfl))
  refine own_up st1 ?_
  show own_Go p.tables e below _ (T1.setTop (mkF m 14 #[.val (.ref aa), .val (.int xx), .val (.int vi), .val (.int nn)] []))
  refine own_up (fun _ kq => XS.iinc X1.here hx rfl (hb hby d7_14) rfl (l' := #[.val (.ref aa), .val (.int xx), .val (.int (vi + (1 : Int32))), .val (.int nn)]) rfl kq) ?_
  show own_Go p.tables e below _ (T1.setTop (mkF m 17 #[.val (.ref aa), .val (.int xx), .val (.int (vi + (1 : Int32))), .val (.int nn)] []))
  refine own_up (fun _ kq => XS.goto X1.here hx rfl (pc0 := 17) (pc' := 5) rfl (hb hby d7_17) (by decide) (by decide) kq) ?_
  show own_Go p.tables e below _ (T1.setTop (mkF m 5 #[.val (.ref aa), .val (.int xx), .val (.int (vi + (1 : Int32))), .val (.int nn)] []))
  exact K _ _ _ X1 e1 N1 KK G_aa
set_option maxRecDepth 65536 in
set_option maxHeartbeats 40000000 in
theorem exF {p : Program} {l : Launch} {e : Env} {R : Room} {s : State} {m : MethodId} {args : Array Value} {below : List Frame} {meth : Method} {c : Code} {T0 : State} {locs : List Loc} {cells slots : Nat} {Z : State} {a0 : Array Value} {h0 : Heap} {n0 : Nat} {P : State → Outcome → Prop} {aa : Addr} {xx : Int32} {vi : Int32} {nn : Int32}
    (X0 : Stand p l e R s m args below meth c T0 locs cells slots) (hx : p.tables.exec = Jvm.exec) (hZ : Z.Warmed39 s.vm) (hw : ∀ d ∈ tables_1, d.before a0 Z = true) (hby : c.code = jdk_65_method_103_code) (hml : c.maxLocals = 4) (hown : s.vm.findClass "java/util/Arrays" = some m.cls) (e0 : T0.heap = h0) (N0 : Fr n0 locs) (Z0 : n0 ≤ h0.size) (hv : ¬ vi < nn)
    (K : ∀ (T' : State) (h' : Heap) (locs' : List Loc), Stand p l e R s m args below meth c T' locs' cells slots → T'.heap = h' → Fr n0 locs' → (h' = h0) → own_Go p.tables e below P (T'.setTop (mkF m 20 #[.val (.ref aa), .val (.int xx), .val (.int vi), .val (.int nn)] []))) :
    own_Go p.tables e below P (T0.setTop (mkF m 5 #[.val (.ref aa), .val (.int xx), .val (.int vi), .val (.int nn)] [])) := by
  have ZH := Z0
  have KK := Keep.refl h0 []
  refine own_up (fun _ kq => XS.iloadN X0.here hx rfl (hb hby d7_5) rfl kq) ?_
  show own_Go p.tables e below _ (T0.setTop (mkF m 6 #[.val (.ref aa), .val (.int xx), .val (.int vi), .val (.int nn)] [(.int vi)]))
  refine own_up (fun _ kq => XS.iloadN X0.here hx rfl (hb hby d7_6) rfl kq) ?_
  show own_Go p.tables e below _ (T0.setTop (mkF m 7 #[.val (.ref aa), .val (.int xx), .val (.int vi), .val (.int nn)] [(.int nn), (.int vi)]))
  refine own_up (fun _ kq => XS.icmpYes X0.here hx rfl (pc0 := 7) (pc' := 20) rfl (hb hby d7_7) rfl (flt hv).2.1 (by decide) (by decide) kq) ?_
  show own_Go p.tables e below _ (T0.setTop (mkF m 20 #[.val (.ref aa), .val (.int xx), .val (.int vi), .val (.int nn)] []))
  exact K _ _ _ X0 e0 N0 rfl
theorem own_fil {p : Program} {l : Launch} {e : Env} {R : Room} {s : State} {m : MethodId} {args : Array Value} {below : List Frame} {meth : Method} {c : Code} {cells slots : Nat} {Z : State} {a0 : Array Value} {n0 : Nat} {P : State → Outcome → Prop} {aa : Addr} {xx nn : Int32} {uu : Nat → Int32} (hx : p.tables.exec = Jvm.exec) (hZ : Z.Warmed39 s.vm) (hw : ∀ d ∈ tables_1, d.before a0 Z = true) (hby : c.code = jdk_65_method_103_code) (hml : c.maxLocals = 4) (hown : s.vm.findClass "java/util/Arrays" = some m.cls) (g_aa : n0 ≤ aa) :
    ∀ (k i : Nat) (vi : Int32) (T0 : State) (h0 : Heap) (locs : List Loc), i + k = nn.toNatClampNeg → vi.toInt = (i : Int) → Stand p l e R s m args below meth c T0 locs cells slots → T0.heap = h0 → Fr n0 locs → n0 ≤ h0.size → own_Arf Z h0 aa .int nn (fun iq => .int (own_ff uu xx i iq)) →
      (∀ (T' : State) (h' : Heap) (locs' : List Loc), Stand p l e R s m args below meth c T' locs' cells slots → T'.heap = h' → Fr n0 locs' → Keep h0 h' [aa] → own_Arf Z h' aa .int nn (fun iq => .int (own_ff uu xx nn.toNatClampNeg iq)) → own_Go p.tables e below P (T'.setTop (mkF m 20 #[.val (.ref aa), .val (.int xx), .val (.int nn), .val (.int nn)] []))) → own_Go p.tables e below P (T0.setTop (mkF m 5 #[.val (.ref aa), .val (.int xx), .val (.int vi), .val (.int nn)] [])) := by
  intro k
  induction k with
  | zero =>
    intro i vi T0 h0 locs hi hv X0 e0 N0 Z0 G K
    have hn : nn.toNatClampNeg = nn.toInt.toNat := rfl
    have hnn : ¬ nn.toInt < 0 := fun q => G.nn (Int32.lt_iff_toInt_lt.mpr (by rw [show (0 : Int32).toInt = 0 from by decide]; exact q))
    have hii : i = nn.toNatClampNeg := by omega
    obtain rfl : vi = nn := Int32.toInt_inj.mp (by omega)
    subst hii
    exact exF X0 hx hZ hw hby hml hown e0 N0 Z0 (fun q => absurd (Int32.lt_iff_toInt_lt.mp q) (by omega)) (fun T' h' locs' X e' N q => by subst q; exact K _ _ _ X e' N (Keep.refl _ _) G)
  | succ k ih =>
    intro i vi T0 h0 locs hi hv X0 e0 N0 Z0 G K
    have hn : nn.toNatClampNeg = nn.toInt.toNat := rfl
    have hvn : vi.toNatClampNeg = i := by show vi.toInt.toNat = i; omega
    have hb := nn.toInt_lt
    have z0 : (0 : Int32).toInt = 0 := by decide
    refine tnF X0 hx hZ hw hby hml hown e0 N0 Z0 G g_aa (fun q => by have := Int32.lt_iff_toInt_lt.mp q; omega) (Int32.lt_iff_toInt_lt.mpr (by omega)) (fun T' h' locs' X e' N K1 G' => ?_)
    exact ih (i + 1) (vi + (1 : Int32)) T' h' locs' (by omega) (own_succ hv (by omega)) X e' N (Nat.le_trans Z0 K1.1) (by rw [own_ffS uu xx vi i hvn] at G'; exact G') (fun T2 h2 l2 X2 e2 N2 K2 G2 => K T2 h2 l2 X2 e2 N2 (K1.trans K2 (allS (Or.inl (List.mem_of_getElem? (i := 0) rfl)) all0)) G2)
theorem pn_2 : plainName "java/util/Arrays" = true := by first | (simp [plainName, overriddenIn]; done) | decide +kernel
theorem d7_0 : decode jdk_65_method_103_code 0 = .ok (.iconst 0, 1) := by decide +kernel
theorem d7_1 : decode jdk_65_method_103_code 1 = .ok (.istore_n 2, 1) := by decide +kernel
theorem d7_2 : decode jdk_65_method_103_code 2 = .ok (.aload_n 0, 1) := by decide +kernel
theorem d7_3 : decode jdk_65_method_103_code 3 = .ok (.arraylength, 1) := by decide +kernel
theorem d7_4 : decode jdk_65_method_103_code 4 = .ok (.istore_n 3, 1) := by decide +kernel
theorem d7_20 : decode jdk_65_method_103_code 20 = .ok (.return_, 1) := by decide +kernel
theorem ef_rmL (m : MethodId) (x0 : Addr) (x1 : Int32) : entryFrame m #[(.ref x0), (.int x1)] 4 = mkF m 0 #[.val (.ref x0), .val (.int x1), .unset, .unset] [] := by first | (simp [entryFrame, mkF, argsToLocals, Value.category]; done) | rfl
def QrmL (Z : State) (aa : Addr) (xx : Int32) (nn : Int32) (uu : Nat → Int32) (h0 : Heap) (n0 : Nat) (v : Option Value) (h : Heap) (L : List Loc) : Prop := v = none ∧ Fr n0 L ∧ Keep h0 h [aa] ∧ own_Arf Z h aa .int nn (fun _ => .int xx)
set_option maxRecDepth 65536 in
set_option maxHeartbeats 40000000 in
theorem rmL (l : Launch) (Z : State) (a0 : Array Value) (hw : ∀ d ∈ tables_1, d.before a0 Z = true) (ws : List Jvm.Cond) (aa : Addr) (xx : Int32) (nn : Int32) (uu : Nat → Int32) (h0 : Heap) (n0 : Nat) (Z0 : n0 ≤ h0.size) (G_aa : own_Arf Z h0 aa .int nn (fun iq => .int (uu iq))) (g_aa : n0 ≤ aa) :
    MetFree l (⟨"java/util/Arrays", "fill", "([II)V"⟩ : MethodName) (head1 (Jvm.Cond.code (⟨"java/util/Arrays", "fill", "([II)V"⟩ : MethodName) jdk_65_method_103_code 4 none :: ws) ({ frames := 0, cells := 0, slots := 0, locals := 0 } : Room)) (fun aq Uq => aq = #[(.ref aa), (.int xx)] ∧ Z.Warmed39 Uq.vm ∧ Uq.heap = h0) (fun _ _ _ _ _ => True) (fun _ Uq oq Uq' => ∃ vq Lq, oq = .returned vq ∧ QrmL Z aa xx nn uu h0 n0 vq Uq'.heap Lq ∧ FrameEnd Uq oq Uq' Lq ({ frames := 0, cells := 0, slots := 0, locals := 0 } : Room).cells ({ frames := 0, cells := 0, slots := 0, locals := 0 } : Room).slots) := by
  refine MetFree.of_bodySF (plainFor_of_name pn_2) hisR ?_
  intro p e s m args below meth c s₁ Bd hml0 hP hK
  obtain ⟨rfl, hZ, hh⟩ := hP
  have hx := Bd.exec
  have hby := Bd.bytes
  have hml : c.maxLocals = 4 := hml0
  have hown : s.vm.findClass "java/util/Arrays" = some m.cls := findClass_of_methodNamed Bd.named
  have hnm := (name_of_methodNamed Bd.named Bd.method).1
  have X0 : Stand p l e ({ frames := 0, cells := 0, slots := 0, locals := 0 } : Room) s m #[(.ref aa), (.int xx)] below meth c s₁ [] 0 0 := Stand.of_body Bd
  have e0 : s₁.heap = h0 := by rw [← hh, Bd.state]; rfl
  have N0 := Fr.nil n0
  have ZH := Z0
  have KK := Keep.refl h0 [aa]
  refine own_start (fun t kq => castTop (ef_rmL m aa xx) kq) ?_
  show own_Go p.tables e below _ (s₁.setTop (mkF m 0 #[.val (.ref aa), .val (.int xx), .unset, .unset] []))
  refine own_up (fun _ kq => XS.iconst X0.here hx rfl (hb hby d7_0) kq) ?_
  show own_Go p.tables e below _ (s₁.setTop (mkF m 1 #[.val (.ref aa), .val (.int xx), .unset, .unset] [(.int (0 : Int32))]))
  refine own_up (fun _ kq => XS.istoreN X0.here hx rfl (hb hby d7_1) rfl (l' := #[.val (.ref aa), .val (.int xx), .val (.int (0 : Int32)), .unset]) rfl kq) ?_
  show own_Go p.tables e below _ (s₁.setTop (mkF m 2 #[.val (.ref aa), .val (.int xx), .val (.int (0 : Int32)), .unset] []))
  refine own_up (fun _ kq => XS.aloadN X0.here hx rfl (hb hby d7_2) rfl rfl kq) ?_
  show own_Go p.tables e below _ (s₁.setTop (mkF m 3 #[.val (.ref aa), .val (.int xx), .val (.int (0 : Int32)), .unset] [(.ref aa)]))
  refine own_up (fun _ kq => own_Arf.alen G_aa X0 hx hZ e0 (g := (mkF m 3 #[.val (.ref aa), .val (.int xx), .val (.int (0 : Int32)), .unset] [(.ref aa)])) rfl rfl (hb hby d7_3) _ kq) ?_
  show own_Go p.tables e below _ (s₁.setTop (mkF m 4 #[.val (.ref aa), .val (.int xx), .val (.int (0 : Int32)), .unset] [(.int nn)]))
  refine own_up (fun _ kq => XS.istoreN X0.here hx rfl (hb hby d7_4) rfl (l' := #[.val (.ref aa), .val (.int xx), .val (.int (0 : Int32)), .val (.int nn)]) rfl kq) ?_
  show own_Go p.tables e below _ (s₁.setTop (mkF m 5 #[.val (.ref aa), .val (.int xx), .val (.int (0 : Int32)), .val (.int nn)] []))
  refine own_fil (uu := uu) hx hZ hw hby hml hown g_aa nn.toNatClampNeg 0 (0 : Int32) _ _ _ (by omega) (by decide) X0 e0 N0 ZH (by rw [own_ff0]; exact G_aa) (fun T1 h1 l1 X1 e1 N1 K1 G_aa => ?_)
  have KK := KK.trans K1 (allS (Or.inl (List.mem_of_getElem? (i := 0) rfl)) all0)
  show own_Go p.tables e below _ (T1.setTop (mkF m 20 #[.val (.ref aa), .val (.int xx), .val (.int nn), .val (.int nn)] []))
  obtain ⟨fs2, hr2, hrun2, hended2, hW2, hsame2⟩ := X1.leave (v := none) (fun _ => rfl)
  refine own_end ⟨_, _, ?_, hrun2, hended2, _, _, rfl, ?_, ⟨_, rfl⟩, hW2, hsame2.mono (by decide) (by decide)⟩
  · exact X1.returnOut hx Bd.returns (hb hby d7_20) hr2
  · show QrmL Z aa xx nn uu h0 n0 _ T1.heap _
    rw [e1]
    exact ⟨rfl, N1, KK, G_aa.congr (fun i hi => by simp [own_ff, hi])⟩
theorem d3_146 : decode prog_69_method_9_code 146 = .ok (.iload 11, 2) := by decide +kernel
theorem d3_148 : decode prog_69_method_9_code 148 = .ok (.ldc 66, 2) := by decide +kernel
theorem d3_150 : decode prog_69_method_9_code 150 = .ok (.if_icmp .ge 30, 3) := by decide +kernel
theorem d3_153 : decode prog_69_method_9_code 153 = .ok (.aload 8, 2) := by decide +kernel
theorem d3_155 : decode prog_69_method_9_code 155 = .ok (.iload 11, 2) := by decide +kernel
theorem d3_157 : decode prog_69_method_9_code 157 = .ok (.iaload, 1) := by decide +kernel
theorem d3_158 : decode prog_69_method_9_code 158 = .ok (.istore 12, 2) := by decide +kernel
theorem d3_160 : decode prog_69_method_9_code 160 = .ok (.aload 8, 2) := by decide +kernel
theorem d3_162 : decode prog_69_method_9_code 162 = .ok (.iload 11, 2) := by decide +kernel
theorem d3_164 : decode prog_69_method_9_code 164 = .ok (.iload 10, 2) := by decide +kernel
theorem d3_166 : decode prog_69_method_9_code 166 = .ok (.iastore, 1) := by decide +kernel
theorem d3_167 : decode prog_69_method_9_code 167 = .ok (.iload 10, 2) := by decide +kernel
theorem d3_169 : decode prog_69_method_9_code 169 = .ok (.iload 12, 2) := by decide +kernel
theorem d3_171 : decode prog_69_method_9_code 171 = .ok (.iadd, 1) := by decide +kernel
theorem d3_172 : decode prog_69_method_9_code 172 = .ok (.istore 10, 2) := by decide +kernel
theorem d3_174 : decode prog_69_method_9_code 174 = .ok (.iinc 11 1, 3) := by decide +kernel
theorem d3_177 : decode prog_69_method_9_code 177 = .ok (.goto (-31), 3) := by decide +kernel
set_option maxRecDepth 65536 in
set_option maxHeartbeats 40000000 in
theorem tnP {p : Program} {l : Launch} {e : Env} {R : Room} {s : State} {m : MethodId} {args : Array Value} {below : List Frame} {meth : Method} {c : Code} {T0 : State} {locs : List Loc} {cells slots : Nat} {Z : State} {a0 : Array Value} {h0 : Heap} {n0 : Nat} {P : State → Outcome → Prop} {q0 : Slot} {q1 : Slot} {q2 : Slot} {q3 : Slot} {q4 : Slot} {q5 : Slot} {q6 : Slot} {q7 : Slot} {q9 : Slot} {ct : Addr} {tt : Int32} {vi : Int32} {s12 : Slot} {uu : Nat → Int32}
    (X0 : Stand p l e R s m args below meth c T0 locs cells slots) (hx : p.tables.exec = Jvm.exec) (hZ : Z.Warmed39 s.vm) (hw : ∀ d ∈ tables_1, d.before a0 Z = true) (hby : c.code = prog_69_method_9_code) (hml : c.maxLocals = 13) (hown : s.vm.findClass "com/example/ranksieve/ranksieve/model/SortedColumn" = some m.cls) (e0 : T0.heap = h0) (N0 : Fr n0 locs) (Z0 : n0 ≤ h0.size) (G_ct : own_Arf Z h0 ct .int (65536 : Int32) (fun iq => .int (uu iq))) (g_ct : n0 ≤ ct) (hs12 : One s12) (hv0 : ¬ vi < 0) (hv : vi < (65536 : Int32))
    (K : ∀ (T' : State) (h' : Heap) (locs' : List Loc), Stand p l e R s m args below meth c T' locs' cells slots → T'.heap = h' → Fr n0 locs' → (Keep h0 h' [ct]) → (own_Arf Z h' ct .int (65536 : Int32) (fun iq => .int (own_upd uu vi tt iq))) → own_Go p.tables e below P (T'.setTop (mkF m 146 #[q0, q1, q2, q3, q4, q5, q6, q7, .val (.ref ct), q9, .val (.int (tt + (uu (vi).toNatClampNeg))), .val (.int (vi + (1 : Int32))), .val (.int (uu (vi).toNatClampNeg))] []))) :
    own_Go p.tables e below P (T0.setTop (mkF m 146 #[q0, q1, q2, q3, q4, q5, q6, q7, .val (.ref ct), q9, .val (.int tt), .val (.int vi), s12] [])) := by
  have ZH := Z0
  have KK := Keep.refl h0 [ct]
  refine own_up (fun _ kq => XS.iload X0.here hx rfl (hb hby d3_146) rfl kq) ?_
  show own_Go p.tables e below _ (T0.setTop (mkF m 148 #[q0, q1, q2, q3, q4, q5, q6, q7, .val (.ref ct), q9, .val (.int tt), .val (.int vi), s12] [(.int vi)]))
  refine own_up (fun _ kq => X0.ldcInt hx hown (mvT hZ (hw _ (List.mem_of_getElem? (i := 33) rfl))) (g := (mkF m 148 #[q0, q1, q2, q3, q4, q5, q6, q7, .val (.ref ct), q9, .val (.int tt), .val (.int vi), s12] [(.int vi)])) rfl (hb hby d3_148) _ kq) ?_
  show own_Go p.tables e below _ (T0.setTop (mkF m 150 #[q0, q1, q2, q3, q4, q5, q6, q7, .val (.ref ct), q9, .val (.int tt), .val (.int vi), s12] [(.int (65536 : Int32)), (.int vi)]))
  refine own_up (fun _ kq => XS.icmpNo X0.here hx rfl (hb hby d3_150) rfl (tlt hv).2.1 kq) ?_
  show own_Go p.tables e below _ (T0.setTop (mkF m 153 #[q0, q1, q2, q3, q4, q5, q6, q7, .val (.ref ct), q9, .val (.int tt), .val (.int vi), s12] []))
  refine own_up (fun _ kq => XS.aload X0.here hx rfl (hb hby d3_153) rfl rfl kq) ?_
  show own_Go p.tables e below _ (T0.setTop (mkF m 155 #[q0, q1, q2, q3, q4, q5, q6, q7, .val (.ref ct), q9, .val (.int tt), .val (.int vi), s12] [(.ref ct)]))
  refine own_up (fun _ kq => XS.iload X0.here hx rfl (hb hby d3_155) rfl kq) ?_
  show own_Go p.tables e below _ (T0.setTop (mkF m 157 #[q0, q1, q2, q3, q4, q5, q6, q7, .val (.ref ct), q9, .val (.int tt), .val (.int vi), s12] [(.int vi), (.ref ct)]))
  refine own_up (fun _ kq => own_Arf.iaload G_ct X0 hx hZ e0 hv0 hv (v := (.int (uu (vi).toNatClampNeg))) rfl (g := (mkF m 157 #[q0, q1, q2, q3, q4, q5, q6, q7, .val (.ref ct), q9, .val (.int tt), .val (.int vi), s12] [(.int vi), (.ref ct)])) rfl rfl (hb hby d3_157) _ kq) ?_
  show own_Go p.tables e below _ (T0.setTop (mkF m 158 #[q0, q1, q2, q3, q4, q5, q6, q7, .val (.ref ct), q9, .val (.int tt), .val (.int vi), s12] [(.int (uu (vi).toNatClampNeg))]))
  refine own_up (fun _ kq => XS.istoreS X0.here hx rfl (hb hby d3_158) rfl rfl hs12 kq) ?_
  show own_Go p.tables e below _ (T0.setTop (mkF m 160 #[q0, q1, q2, q3, q4, q5, q6, q7, .val (.ref ct), q9, .val (.int tt), .val (.int vi), .val (.int (uu (vi).toNatClampNeg))] []))
  refine own_up (fun _ kq => XS.aload X0.here hx rfl (hb hby d3_160) rfl rfl kq) ?_
  show own_Go p.tables e below _ (T0.setTop (mkF m 162 #[q0, q1, q2, q3, q4, q5, q6, q7, .val (.ref ct), q9, .val (.int tt), .val (.int vi), .val (.int (uu (vi).toNatClampNeg))] [(.ref ct)]))
  refine own_up (fun _ kq => XS.iload X0.here hx rfl (hb hby d3_162) rfl kq) ?_
  show own_Go p.tables e below _ (T0.setTop (mkF m 164 #[q0, q1, q2, q3, q4, q5, q6, q7, .val (.ref ct), q9, .val (.int tt), .val (.int vi), .val (.int (uu (vi).toNatClampNeg))] [(.int vi), (.ref ct)]))
  refine own_up (fun _ kq => XS.iload X0.here hx rfl (hb hby d3_164) rfl kq) ?_
  show own_Go p.tables e below _ (T0.setTop (mkF m 166 #[q0, q1, q2, q3, q4, q5, q6, q7, .val (.ref ct), q9, .val (.int tt), .val (.int vi), .val (.int (uu (vi).toNatClampNeg))] [(.int tt), (.int vi), (.ref ct)]))
  obtain ⟨cl1, Ar1, sz1, nz1, hc1⟩ := id G_ct
  obtain ⟨T1, h1, X1, e1, W1, st1⟩ := stI X0 hx hZ e0 Ar1 (j := vi) (inb_of sz1 ⟨hv0, hv⟩) (g := (mkF m 166 #[q0, q1, q2, q3, q4, q5, q6, q7, .val (.ref ct), q9, .val (.int tt), .val (.int vi), .val (.int (uu (vi).toNatClampNeg))] [(.int tt), (.int vi), (.ref ct)])) rfl rfl (hb hby d3_166)
  have G_ct : own_Arf Z h1 ct .int (65536 : Int32) (fun i => .int ((own_upd uu vi tt) i)) := own_Arf.setI G_ct W1
  have N1 := Fr.snoc X1 N0 g_ct
  have ZH := Nat.le_trans ZH (Nat.le_of_eq W1.size.symm)
  have KK := KK.wr W1 (Or.inl (List.mem_of_getElem? (i := 0) rfl))
  refine own_up st1 ?_
  show own_Go p.tables e below _ (T1.setTop (mkF m 167 #[q0, q1, q2, q3, q4, q5, q6, q7, .val (.ref ct), q9, .val (.int tt), .val (.int vi), .val (.int (uu (vi).toNatClampNeg))] []))
  refine own_up (fun _ kq => XS.iload X1.here hx rfl (hb hby d3_167) rfl kq) ?_
  show own_Go p.tables e below _ (T1.setTop (mkF m 169 #[q0, q1, q2, q3, q4, q5, q6, q7, .val (.ref ct), q9, .val (.int tt), .val (.int vi), .val (.int (uu (vi).toNatClampNeg))] [(.int tt)]))
  refine own_up (fun _ kq => XS.iload X1.here hx rfl (hb hby d3_169) rfl kq) ?_
  show own_Go p.tables e below _ (T1.setTop (mkF m 171 #[q0, q1, q2, q3, q4, q5, q6, q7, .val (.ref ct), q9, .val (.int tt), .val (.int vi), .val (.int (uu (vi).toNatClampNeg))] [(.int (uu (vi).toNatClampNeg)), (.int tt)]))
  refine own_up (fun _ kq => XS.iadd X1.here hx rfl (hb hby d3_171) rfl kq) ?_
  show own_Go p.tables e below _ (T1.setTop (mkF m 172 #[q0, q1, q2, q3, q4, q5, q6, q7, .val (.ref ct), q9, .val (.int tt), .val (.int vi), .val (.int (uu (vi).toNatClampNeg))] [(.int (tt + (uu (vi).toNatClampNeg)))]))
  refine own_up (fun _ kq => XS.istore X1.here hx rfl (hb hby d3_172) rfl (l' := #[q0, q1, q2, q3, q4, q5, q6, q7, .val (.ref ct), q9, .val (.int (tt + (uu (vi).toNatClampNeg))), .val (.int vi), .val (.int (uu (vi).toNatClampNeg))]) rfl kq) ?_
  show own_Go p.tables e below _ (T1.setTop (mkF m 174 #[q0, q1, q2, q3, q4, q5, q6, q7, .val (.ref ct), q9, .val (.int (tt + (uu (vi).toNatClampNeg))), .val (.int vi), .val (.int (uu (vi).toNatClampNeg))] []))
  refine own_up (fun _ kq => XS.iinc X1.here hx rfl (hb hby d3_174) rfl (l' := #[q0, q1, q2, q3, q4, q5, q6, q7, .val (.ref ct), q9, .val (.int (tt + (uu (vi).toNatClampNeg))), .val (.int (vi + (1 : Int32))), .val (.int (uu (vi).toNatClampNeg))]) rfl kq) ?_
  show own_Go p.tables e below _ (T1.setTop (mkF m 177 #[q0, q1, q2, q3, q4, q5, q6, q7, .val (.ref ct), q9, .val (.int (tt + (uu (vi).toNatClampNeg))), .val (.int (vi + (1 : Int32))), .val (.int (uu (vi).toNatClampNeg))] []))
  refine own_up (fun _ kq => XS.goto X1.here hx rfl (pc0 := 177) (pc' := 146) rfl (hb hby d3_177) (by decide) (by decide) kq) ?_
  show own_Go p.tables e below _ (T1.setTop (mkF m 146 #[q0, q1, q2, q3, q4, q5, q6, q7, .val (.ref ct), q9, .val (.int (tt + (uu (vi).toNatClampNeg))), .val (.int (vi + (1 : Int32))), .val (.int (uu (vi).toNatClampNeg))] []))
  exact K _ _ _ X1 e1 N1 KK G_ct
set_option maxRecDepth 65536 in
set_option maxHeartbeats 40000000 in
theorem exP {p : Program} {l : Launch} {e : Env} {R : Room} {s : State} {m : MethodId} {args : Array Value} {below : List Frame} {meth : Method} {c : Code} {T0 : State} {locs : List Loc} {cells slots : Nat} {Z : State} {a0 : Array Value} {h0 : Heap} {n0 : Nat} {P : State → Outcome → Prop} {q0 : Slot} {q1 : Slot} {q2 : Slot} {q3 : Slot} {q4 : Slot} {q5 : Slot} {q6 : Slot} {q7 : Slot} {q9 : Slot} {ct : Addr} {tt : Int32} {vi : Int32} {s12 : Slot}
    (X0 : Stand p l e R s m args below meth c T0 locs cells slots) (hx : p.tables.exec = Jvm.exec) (hZ : Z.Warmed39 s.vm) (hw : ∀ d ∈ tables_1, d.before a0 Z = true) (hby : c.code = prog_69_method_9_code) (hml : c.maxLocals = 13) (hown : s.vm.findClass "com/example/ranksieve/ranksieve/model/SortedColumn" = some m.cls) (e0 : T0.heap = h0) (N0 : Fr n0 locs) (Z0 : n0 ≤ h0.size) (hv : ¬ vi < (65536 : Int32))
    (K : ∀ (T' : State) (h' : Heap) (locs' : List Loc), Stand p l e R s m args below meth c T' locs' cells slots → T'.heap = h' → Fr n0 locs' → (h' = h0) → own_Go p.tables e below P (T'.setTop (mkF m 180 #[q0, q1, q2, q3, q4, q5, q6, q7, .val (.ref ct), q9, .val (.int tt), .val (.int vi), s12] []))) :
    own_Go p.tables e below P (T0.setTop (mkF m 146 #[q0, q1, q2, q3, q4, q5, q6, q7, .val (.ref ct), q9, .val (.int tt), .val (.int vi), s12] [])) := by
  have ZH := Z0
  have KK := Keep.refl h0 []
  refine own_up (fun _ kq => XS.iload X0.here hx rfl (hb hby d3_146) rfl kq) ?_
  show own_Go p.tables e below _ (T0.setTop (mkF m 148 #[q0, q1, q2, q3, q4, q5, q6, q7, .val (.ref ct), q9, .val (.int tt), .val (.int vi), s12] [(.int vi)]))
  refine own_up (fun _ kq => X0.ldcInt hx hown (mvT hZ (hw _ (List.mem_of_getElem? (i := 33) rfl))) (g := (mkF m 148 #[q0, q1, q2, q3, q4, q5, q6, q7, .val (.ref ct), q9, .val (.int tt), .val (.int vi), s12] [(.int vi)])) rfl (hb hby d3_148) _ kq) ?_
  show own_Go p.tables e below _ (T0.setTop (mkF m 150 #[q0, q1, q2, q3, q4, q5, q6, q7, .val (.ref ct), q9, .val (.int tt), .val (.int vi), s12] [(.int (65536 : Int32)), (.int vi)]))
  refine own_up (fun _ kq => XS.icmpYes X0.here hx rfl (pc0 := 150) (pc' := 180) rfl (hb hby d3_150) rfl (flt hv).2.1 (by decide) (by decide) kq) ?_
  show own_Go p.tables e below _ (T0.setTop (mkF m 180 #[q0, q1, q2, q3, q4, q5, q6, q7, .val (.ref ct), q9, .val (.int tt), .val (.int vi), s12] []))
  exact K _ _ _ X0 e0 N0 rfl
theorem own_pre {p : Program} {l : Launch} {e : Env} {R : Room} {s : State} {m : MethodId} {args : Array Value} {below : List Frame} {meth : Method} {c : Code} {cells slots : Nat} {Z : State} {a0 : Array Value} {n0 : Nat} {P : State → Outcome → Prop} {q0 q1 q2 q3 q4 q5 q6 q7 q9 : Slot} {ct : Addr} {d0 d1 d2 : Int32} (hx : p.tables.exec = Jvm.exec) (hZ : Z.Warmed39 s.vm) (hw : ∀ d ∈ tables_1, d.before a0 Z = true) (hby : c.code = prog_69_method_9_code) (hml : c.maxLocals = 13) (hown : s.vm.findClass "com/example/ranksieve/ranksieve/model/SortedColumn" = some m.cls) (g_ct : n0 ≤ ct) :
    ∀ (k i : Nat) (vi tt : Int32) (T0 : State) (h0 : Heap) (locs : List Loc) (s12 : Slot), i + k = 65536 → vi.toInt = (i : Int) → tt = own_P d0 d1 d2 i → Stand p l e R s m args below meth c T0 locs cells slots → T0.heap = h0 → Fr n0 locs → n0 ≤ h0.size → own_Arf Z h0 ct .int (65536 : Int32) (fun iq => .int (own_pf d0 d1 d2 i iq)) → One s12 →
      (∀ (T' : State) (h' : Heap) (locs' : List Loc) (t12 : Slot), Stand p l e R s m args below meth c T' locs' cells slots → T'.heap = h' → Fr n0 locs' → Keep h0 h' [ct] → own_Arf Z h' ct .int (65536 : Int32) (fun iq => .int (own_pf d0 d1 d2 65536 iq)) → One t12 → own_Go p.tables e below P (T'.setTop (mkF m 180 #[q0, q1, q2, q3, q4, q5, q6, q7, .val (.ref ct), q9, .val (.int (own_P d0 d1 d2 65536)), .val (.int (65536 : Int32)), t12] []))) → own_Go p.tables e below P (T0.setTop (mkF m 146 #[q0, q1, q2, q3, q4, q5, q6, q7, .val (.ref ct), q9, .val (.int tt), .val (.int vi), s12] [])) := by
  intro k
  induction k with
  | zero =>
    intro i vi tt T0 h0 locs s12 hi hv ht X0 e0 N0 Z0 G O K
    obtain rfl : i = 65536 := by omega
    obtain rfl : vi = (65536 : Int32) := Int32.toInt_inj.mp (hv.trans (by decide))
    subst ht
    exact exP X0 hx hZ hw hby hml hown e0 N0 Z0 (by decide) (fun T' h' locs' X e' N q => by subst q; exact K _ _ _ _ X e' N (Keep.refl _ _) G O)
  | succ k ih =>
    intro i vi tt T0 h0 locs s12 hi hv ht X0 e0 N0 Z0 G O K
    have hvn : vi.toNatClampNeg = i := by show vi.toInt.toNat = i; omega
    have z0 : (0 : Int32).toInt = 0 := by decide
    have z1 : (65536 : Int32).toInt = 65536 := by decide
    refine tnP X0 hx hZ hw hby hml hown e0 N0 Z0 G g_ct O (fun q => by have := Int32.lt_iff_toInt_lt.mp q; omega) (Int32.lt_iff_toInt_lt.mpr (by omega)) (fun T' h' locs' X e' N K1 G' => ?_)
    exact ih (i + 1) (vi + (1 : Int32)) (tt + own_pf d0 d1 d2 i vi.toNatClampNeg) T' h' locs' _ (by omega) (own_succ hv (by omega)) (by rw [hvn, ht]; exact own_PS' d0 d1 d2 i) X e' N (Nat.le_trans Z0 K1.1) (by rw [ht, own_pfS d0 d1 d2 vi i hvn] at G'; exact G') (One.val rfl) (fun T2 h2 l2 t12 X2 e2 N2 K2 G2 O2 => K T2 h2 l2 t12 X2 e2 N2 (K1.trans K2 (allS (Or.inl (List.mem_of_getElem? (i := 0) rfl)) all0)) G2 O2)
def own_PS (Z : State) (h : Heap) (b0 : Nat) (ak ar bk br ct : Addr) (x : Nat → Int64) (r : Nat → Int32) : Prop := ∃ (x2 : Nat → Int64) (r2 cq : Nat → Int32), own_Arf Z h ak .long (3 : Int32) (fun iq => .long (x iq)) ∧ own_Arf Z h ar .int (3 : Int32) (fun iq => .int (r iq)) ∧ own_Arf Z h bk .long (3 : Int32) (fun iq => .long (x2 iq)) ∧ own_Arf Z h br .int (3 : Int32) (fun iq => .int (r2 iq)) ∧ own_Arf Z h ct .int (65536 : Int32) (fun iq => .int (cq iq)) ∧ (ak ≠ ar ∧ ak ≠ bk ∧ ak ≠ br ∧ ak ≠ ct ∧ ar ≠ bk ∧ ar ≠ br ∧ ar ≠ ct ∧ bk ≠ br ∧ bk ≠ ct ∧ br ≠ ct) ∧ (b0 ≤ ak ∧ b0 ≤ ar ∧ b0 ≤ bk ∧ b0 ≤ br ∧ b0 ≤ ct)
theorem own_PS.sz {Z : State} {h : Heap} {b0 : Nat} {ak ar bk br ct : Addr} {x : Nat → Int64} {r : Nat → Int32} (q : own_PS Z h b0 ak ar bk br ct x r) : b0 ≤ ak ∧ b0 ≤ ar ∧ b0 ≤ bk ∧ b0 ≤ br ∧ b0 ≤ ct := by obtain ⟨_, _, _, -, -, -, -, -, -, q⟩ := q; exact q
theorem own_PS.gr {Z : State} {h : Heap} {b0 : Nat} {ak ar bk br ct : Addr} {x : Nat → Int64} {r : Nat → Int32} (q : own_PS Z h b0 ak ar bk br ct x r) : own_Arf Z h ar .int (3 : Int32) (fun iq => .int (r iq)) := by obtain ⟨_, _, _, -, q, -⟩ := q; exact q
theorem d3_72 : decode prog_69_method_9_code 72 = .ok (.iload 9, 2) := by decide +kernel
theorem d3_74 : decode prog_69_method_9_code 74 = .ok (.bipush 64, 2) := by decide +kernel
theorem d3_76 : decode prog_69_method_9_code 76 = .ok (.if_icmp .ge 189, 3) := by decide +kernel
theorem d3_79 : decode prog_69_method_9_code 79 = .ok (.aload 8, 2) := by decide +kernel
theorem d3_81 : decode prog_69_method_9_code 81 = .ok (.iconst 0, 1) := by decide +kernel
theorem d3_82 : decode prog_69_method_9_code 82 = .ok (.invokestatic 69, 3) := by decide +kernel
theorem pd_2 : parseMethodDescriptor "([II)V" = some ⟨[(.array .int), .int], none⟩ := by decide +kernel
theorem d3_85 : decode prog_69_method_9_code 85 = .ok (.iconst 0, 1) := by decide +kernel
theorem d3_86 : decode prog_69_method_9_code 86 = .ok (.istore 10, 2) := by decide +kernel
theorem d3_88 : decode prog_69_method_9_code 88 = .ok (.iload 10, 2) := by decide +kernel
theorem d3_90 : decode prog_69_method_9_code 90 = .ok (.iload_n 3, 1) := by decide +kernel
theorem d3_91 : decode prog_69_method_9_code 91 = .ok (.if_icmp .ge 26, 3) := by decide +kernel
theorem d3_94 : decode prog_69_method_9_code 94 = .ok (.aload 8, 2) := by decide +kernel
theorem d3_96 : decode prog_69_method_9_code 96 = .ok (.aload 4, 2) := by decide +kernel
theorem d3_98 : decode prog_69_method_9_code 98 = .ok (.iload 10, 2) := by decide +kernel
theorem d3_100 : decode prog_69_method_9_code 100 = .ok (.laload, 1) := by decide +kernel
theorem d3_101 : decode prog_69_method_9_code 101 = .ok (.iload 9, 2) := by decide +kernel
theorem d3_103 : decode prog_69_method_9_code 103 = .ok (.invokestatic 73, 3) := by decide +kernel
theorem pd_3 : parseMethodDescriptor "(JI)I" = some ⟨[.long, .int], some .int⟩ := by decide +kernel
theorem d3_106 : decode prog_69_method_9_code 106 = .ok (.dup2, 1) := by decide +kernel
theorem d3_107 : decode prog_69_method_9_code 107 = .ok (.iaload, 1) := by decide +kernel
theorem d3_108 : decode prog_69_method_9_code 108 = .ok (.iconst 1, 1) := by decide +kernel
theorem d3_109 : decode prog_69_method_9_code 109 = .ok (.iadd, 1) := by decide +kernel
theorem d3_110 : decode prog_69_method_9_code 110 = .ok (.iastore, 1) := by decide +kernel
theorem d3_111 : decode prog_69_method_9_code 111 = .ok (.iinc 10 1, 3) := by decide +kernel
theorem d3_114 : decode prog_69_method_9_code 114 = .ok (.goto (-26), 3) := by decide +kernel
theorem d3_117 : decode prog_69_method_9_code 117 = .ok (.iload_n 3, 1) := by decide +kernel
theorem d3_118 : decode prog_69_method_9_code 118 = .ok (.ifCond .eq 141, 3) := by decide +kernel
theorem d3_121 : decode prog_69_method_9_code 121 = .ok (.aload 8, 2) := by decide +kernel
theorem d3_123 : decode prog_69_method_9_code 123 = .ok (.aload 4, 2) := by decide +kernel
theorem d3_125 : decode prog_69_method_9_code 125 = .ok (.iconst 0, 1) := by decide +kernel
theorem d3_126 : decode prog_69_method_9_code 126 = .ok (.laload, 1) := by decide +kernel
theorem d3_127 : decode prog_69_method_9_code 127 = .ok (.iload 9, 2) := by decide +kernel
theorem d3_129 : decode prog_69_method_9_code 129 = .ok (.invokestatic 73, 3) := by decide +kernel
theorem d3_132 : decode prog_69_method_9_code 132 = .ok (.iaload, 1) := by decide +kernel
theorem d3_133 : decode prog_69_method_9_code 133 = .ok (.iload_n 3, 1) := by decide +kernel
theorem d3_134 : decode prog_69_method_9_code 134 = .ok (.if_icmp .ne 6, 3) := by decide +kernel
theorem d3_137 : decode prog_69_method_9_code 137 = .ok (.goto 122, 3) := by decide +kernel
theorem d3_259 : decode prog_69_method_9_code 259 = .ok (.iinc 9 16, 3) := by decide +kernel
theorem d3_262 : decode prog_69_method_9_code 262 = .ok (.goto (-190), 3) := by decide +kernel
theorem d3_140 : decode prog_69_method_9_code 140 = .ok (.iconst 0, 1) := by decide +kernel
theorem d3_141 : decode prog_69_method_9_code 141 = .ok (.istore 10, 2) := by decide +kernel
theorem d3_143 : decode prog_69_method_9_code 143 = .ok (.iconst 0, 1) := by decide +kernel
theorem d3_144 : decode prog_69_method_9_code 144 = .ok (.istore 11, 2) := by decide +kernel
theorem d3_180 : decode prog_69_method_9_code 180 = .ok (.iconst 0, 1) := by decide +kernel
theorem d3_181 : decode prog_69_method_9_code 181 = .ok (.istore 11, 2) := by decide +kernel
theorem d3_183 : decode prog_69_method_9_code 183 = .ok (.iload 11, 2) := by decide +kernel
theorem d3_185 : decode prog_69_method_9_code 185 = .ok (.iload_n 3, 1) := by decide +kernel
theorem d3_186 : decode prog_69_method_9_code 186 = .ok (.if_icmp .ge 49, 3) := by decide +kernel
theorem d3_189 : decode prog_69_method_9_code 189 = .ok (.aload 8, 2) := by decide +kernel
theorem d3_191 : decode prog_69_method_9_code 191 = .ok (.aload 4, 2) := by decide +kernel
theorem d3_193 : decode prog_69_method_9_code 193 = .ok (.iload 11, 2) := by decide +kernel
theorem d3_195 : decode prog_69_method_9_code 195 = .ok (.laload, 1) := by decide +kernel
theorem d3_196 : decode prog_69_method_9_code 196 = .ok (.iload 9, 2) := by decide +kernel
theorem d3_198 : decode prog_69_method_9_code 198 = .ok (.invokestatic 73, 3) := by decide +kernel
theorem d3_201 : decode prog_69_method_9_code 201 = .ok (.dup2, 1) := by decide +kernel
theorem d3_202 : decode prog_69_method_9_code 202 = .ok (.iaload, 1) := by decide +kernel
theorem d3_203 : decode prog_69_method_9_code 203 = .ok (.dup_x2, 1) := by decide +kernel
theorem d3_204 : decode prog_69_method_9_code 204 = .ok (.iconst 1, 1) := by decide +kernel
theorem d3_205 : decode prog_69_method_9_code 205 = .ok (.iadd, 1) := by decide +kernel
theorem d3_206 : decode prog_69_method_9_code 206 = .ok (.iastore, 1) := by decide +kernel
theorem d3_207 : decode prog_69_method_9_code 207 = .ok (.istore 12, 2) := by decide +kernel
theorem d3_209 : decode prog_69_method_9_code 209 = .ok (.aload 6, 2) := by decide +kernel
theorem d3_211 : decode prog_69_method_9_code 211 = .ok (.iload 12, 2) := by decide +kernel
theorem d3_213 : decode prog_69_method_9_code 213 = .ok (.aload 4, 2) := by decide +kernel
theorem d3_215 : decode prog_69_method_9_code 215 = .ok (.iload 11, 2) := by decide +kernel
theorem d3_217 : decode prog_69_method_9_code 217 = .ok (.laload, 1) := by decide +kernel
theorem d3_218 : decode prog_69_method_9_code 218 = .ok (.lastore, 1) := by decide +kernel
theorem d3_219 : decode prog_69_method_9_code 219 = .ok (.aload 7, 2) := by decide +kernel
theorem d3_221 : decode prog_69_method_9_code 221 = .ok (.iload 12, 2) := by decide +kernel
theorem d3_223 : decode prog_69_method_9_code 223 = .ok (.aload 5, 2) := by decide +kernel
theorem d3_225 : decode prog_69_method_9_code 225 = .ok (.iload 11, 2) := by decide +kernel
theorem d3_227 : decode prog_69_method_9_code 227 = .ok (.iaload, 1) := by decide +kernel
theorem d3_228 : decode prog_69_method_9_code 228 = .ok (.iastore, 1) := by decide +kernel
theorem d3_229 : decode prog_69_method_9_code 229 = .ok (.iinc 11 1, 3) := by decide +kernel
theorem d3_232 : decode prog_69_method_9_code 232 = .ok (.goto (-49), 3) := by decide +kernel
theorem d3_235 : decode prog_69_method_9_code 235 = .ok (.aload 4, 2) := by decide +kernel
theorem d3_237 : decode prog_69_method_9_code 237 = .ok (.astore 11, 2) := by decide +kernel
theorem d3_239 : decode prog_69_method_9_code 239 = .ok (.aload 6, 2) := by decide +kernel
theorem d3_241 : decode prog_69_method_9_code 241 = .ok (.astore 4, 2) := by decide +kernel
theorem d3_243 : decode prog_69_method_9_code 243 = .ok (.aload 11, 2) := by decide +kernel
theorem d3_245 : decode prog_69_method_9_code 245 = .ok (.astore 6, 2) := by decide +kernel
theorem d3_247 : decode prog_69_method_9_code 247 = .ok (.aload 5, 2) := by decide +kernel
theorem d3_249 : decode prog_69_method_9_code 249 = .ok (.astore 12, 2) := by decide +kernel
theorem d3_251 : decode prog_69_method_9_code 251 = .ok (.aload 7, 2) := by decide +kernel
theorem d3_253 : decode prog_69_method_9_code 253 = .ok (.astore 5, 2) := by decide +kernel
theorem d3_255 : decode prog_69_method_9_code 255 = .ok (.aload 12, 2) := by decide +kernel
theorem d3_257 : decode prog_69_method_9_code 257 = .ok (.astore 7, 2) := by decide +kernel
set_option maxRecDepth 65536 in
set_option maxHeartbeats 40000000 in
theorem own_pass {p : Program} {l : Launch} {e : Env} {s : State} {m : MethodId} {args : Array Value} {below : List Frame} {meth : Method} {c : Code} {T0 : State} {locs : List Loc} {Z : State} {a0 : Array Value} {h0 : Heap} {n0 : Nat} {P : State → Outcome → Prop} {va : Addr} {col : Int32} {ak : Addr} {ar : Addr} {bk : Addr} {br : Addr} {ct : Addr} {sh : Int32} {nz : Nat} {b0 : Nat} {s10 : Slot} {s11 : Slot} {s12 : Slot} {x : Nat → Int64} {r : Nat → Int32} {kf : Nat → Int64}
    (X0 : Stand p l e ({ frames := 4, cells := 5, slots := 65548, locals := 48 } : Room) s m args below meth c T0 locs 5 65548) (hx : p.tables.exec = Jvm.exec) (hZ : Z.Warmed39 s.vm) (hw : ∀ d ∈ tables_1, d.before a0 Z = true) (hby : c.code = prog_69_method_9_code) (hml : c.maxLocals = 13) (hown : s.vm.findClass "com/example/ranksieve/ranksieve/model/SortedColumn" = some m.cls) (e0 : T0.heap = h0) (N0 : Fr n0 locs) (Z0 : n0 ≤ h0.size) (PS : own_PS Z h0 b0 ak ar bk br ct x r) (hI : own_I kf x r nz) (hsn : own_sh sh nz) (hs10 : One s10) (hs11 : One s11) (hs12 : One s12) (hb0 : n0 ≤ b0)
    (K : ∀ (T' : State) (h' : Heap) (locs' : List Loc) (ak' ar' bk' br' : Addr) (t10 t11 t12 : Slot) (x' : Nat → Int64) (r' : Nat → Int32), Stand p l e ({ frames := 4, cells := 5, slots := 65548, locals := 48 } : Room) s m args below meth c T' locs' 5 65548 → T'.heap = h' → Fr n0 locs' → Keep h0 h' [ak, ar, bk, br, ct] → own_PS Z h' b0 ak' ar' bk' br' ct x' r' → One t10 → One t11 → One t12 → own_I kf x' r' (nz + 16) → own_Go p.tables e below P (T'.setTop (mkF m 72 #[.val (.ref va), .val (.int (2 : Int32)), .val (.int col), .val (.int (3 : Int32)), .val (.ref ak'), .val (.ref ar'), .val (.ref bk'), .val (.ref br'), .val (.ref ct), .val (.int (sh + (16 : Int32))), t10, t11, t12] []))) :
    own_Go p.tables e below P (T0.setTop (mkF m 72 #[.val (.ref va), .val (.int (2 : Int32)), .val (.int col), .val (.int (3 : Int32)), .val (.ref ak), .val (.ref ar), .val (.ref bk), .val (.ref br), .val (.ref ct), .val (.int sh), s10, s11, s12] [])) := by
  have ZH := Z0
  have KK := Keep.refl h0 [ak, ar, bk, br, ct]
  obtain ⟨x2, r2, cq, G_ak, G_ar, G_bk, G_br, G_ct, ⟨ne_ak_ar, ne_ak_bk, ne_ak_br, ne_ak_ct, ne_ar_bk, ne_ar_br, ne_ar_ct, ne_bk_br, ne_bk_ct, ne_br_ct⟩, ⟨b_ak, b_ar, b_bk, b_br, b_ct⟩⟩ := PS
  have hsh := own_sh64 hsn
  have g_ak := Nat.le_trans hb0 b_ak
  have g_ar := Nat.le_trans hb0 b_ar
  have g_bk := Nat.le_trans hb0 b_bk
  have g_br := Nat.le_trans hb0 b_br
  have g_ct := Nat.le_trans hb0 b_ct
  refine own_up (fun _ kq => XS.iload X0.here hx rfl (hb hby d3_72) rfl kq) ?_
  show own_Go p.tables e below _ (T0.setTop (mkF m 74 #[.val (.ref va), .val (.int (2 : Int32)), .val (.int col), .val (.int (3 : Int32)), .val (.ref ak), .val (.ref ar), .val (.ref bk), .val (.ref br), .val (.ref ct), .val (.int sh), s10, s11, s12] [(.int sh)]))
  refine own_up (fun _ kq => XS.bipush X0.here hx rfl (hb hby d3_74) kq) ?_
  show own_Go p.tables e below _ (T0.setTop (mkF m 76 #[.val (.ref va), .val (.int (2 : Int32)), .val (.int col), .val (.int (3 : Int32)), .val (.ref ak), .val (.ref ar), .val (.ref bk), .val (.ref br), .val (.ref ct), .val (.int sh), s10, s11, s12] [(.int (64 : Int32)), (.int sh)]))
  refine own_up (fun _ kq => XS.icmpNo X0.here hx rfl (hb hby d3_76) rfl (tlt hsh).2.1 kq) ?_
  show own_Go p.tables e below _ (T0.setTop (mkF m 79 #[.val (.ref va), .val (.int (2 : Int32)), .val (.int col), .val (.int (3 : Int32)), .val (.ref ak), .val (.ref ar), .val (.ref bk), .val (.ref br), .val (.ref ct), .val (.int sh), s10, s11, s12] []))
  refine own_up (fun _ kq => XS.aload X0.here hx rfl (hb hby d3_79) rfl rfl kq) ?_
  show own_Go p.tables e below _ (T0.setTop (mkF m 81 #[.val (.ref va), .val (.int (2 : Int32)), .val (.int col), .val (.int (3 : Int32)), .val (.ref ak), .val (.ref ar), .val (.ref bk), .val (.ref br), .val (.ref ct), .val (.int sh), s10, s11, s12] [(.ref ct)]))
  refine own_up (fun _ kq => XS.iconst X0.here hx rfl (hb hby d3_81) kq) ?_
  show own_Go p.tables e below _ (T0.setTop (mkF m 82 #[.val (.ref va), .val (.int (2 : Int32)), .val (.int col), .val (.int (3 : Int32)), .val (.ref ak), .val (.ref ar), .val (.ref bk), .val (.ref br), .val (.ref ct), .val (.int sh), s10, s11, s12] [(.int (0 : Int32)), (.ref ct)]))
  obtain ⟨_, _, ⟨T1, L1, k1, n1⟩, -, X1, ⟨Lc1, hQ1, l1, y1, z1⟩, st1⟩ := Jvm.LawKit.callS X0 hx (y := (⟨"java/util/Arrays", "fill", "([II)V"⟩ : MethodName)) hown (mvT hZ (hw _ (List.mem_of_getElem? (i := 34) rfl))) (mvT hZ (hw _ (List.mem_of_getElem? (i := 35) rfl))) (mvT hZ (hw _ (List.mem_of_getElem? (i := 36) rfl))) (mvT hZ (hw _ (List.mem_of_getElem? (i := 37) rfl))) (by decide) (backOf (W := 0) (rmL l Z a0 hw [] ct (0 : Int32) (65536 : Int32) cq h0 n0 ZH G_ct g_ct) hZ (hw _ (List.mem_of_getElem? (i := 37) rfl)) (hw _ (List.mem_of_getElem? (i := 36) rfl)) (by decide) (by decide)) (g := (mkF m 82 #[.val (.ref va), .val (.int (2 : Int32)), .val (.int col), .val (.int (3 : Int32)), .val (.ref ak), .val (.ref ar), .val (.ref bk), .val (.ref br), .val (.ref ct), .val (.int sh), s10, s11, s12] [(.int (0 : Int32)), (.ref ct)])) rfl (by rw [hml]; rfl) (argsL := [(.ref ct), (.int (0 : Int32))]) (rest := []) (lenOf pd_2 rfl) rfl (by show 2 * 0 + _ ≤ _; exact Nat.le_of_eq rfl) (hb hby d3_82) (fun _ _ => ⟨rfl, e0, (by decide : 5 + 0 ≤ _), (by decide : 65548 + 0 ≤ _)⟩)
  dsimp only [Pt.U, Pt.locs, Pt.cells, Pt.slots] at X1 l1 y1 z1 st1 hQ1
  subst l1 y1 z1
  obtain ⟨rfl, Nq1, K1, Gq⟩ := hQ1
  have N1 := Fr.app N0 Nq1
  have G_ak := G_ak.keep K1 (ninS ne_ak_ct nin0)
  have G_ar := G_ar.keep K1 (ninS ne_ar_ct nin0)
  have G_bk := G_bk.keep K1 (ninS ne_bk_ct nin0)
  have G_br := G_br.keep K1 (ninS ne_br_ct nin0)
  have ZH := Nat.le_trans ZH K1.1
  have KK := KK.trans K1 (allS (Or.inl (List.mem_of_getElem? (i := 4) rfl)) all0)
  have G_ct : own_Arf Z T1.heap ct .int (65536 : Int32) (fun iq => .int ((fun _ => 0 : Nat → Int32) iq)) := Gq
  refine own_up st1 ?_
  show own_Go p.tables e below _ (T1.setTop (mkF m 85 #[.val (.ref va), .val (.int (2 : Int32)), .val (.int col), .val (.int (3 : Int32)), .val (.ref ak), .val (.ref ar), .val (.ref bk), .val (.ref br), .val (.ref ct), .val (.int sh), s10, s11, s12] []))
  refine own_up (fun _ kq => XS.iconst X1.here hx rfl (hb hby d3_85) kq) ?_
  show own_Go p.tables e below _ (T1.setTop (mkF m 86 #[.val (.ref va), .val (.int (2 : Int32)), .val (.int col), .val (.int (3 : Int32)), .val (.ref ak), .val (.ref ar), .val (.ref bk), .val (.ref br), .val (.ref ct), .val (.int sh), s10, s11, s12] [(.int (0 : Int32))]))
  refine own_up (fun _ kq => XS.istoreS X1.here hx rfl (hb hby d3_86) rfl rfl hs10 kq) ?_
  show own_Go p.tables e below _ (T1.setTop (mkF m 88 #[.val (.ref va), .val (.int (2 : Int32)), .val (.int col), .val (.int (3 : Int32)), .val (.ref ak), .val (.ref ar), .val (.ref bk), .val (.ref br), .val (.ref ct), .val (.int sh), .val (.int (0 : Int32)), s11, s12] []))
  refine own_up (fun _ kq => XS.iload X1.here hx rfl (hb hby d3_88) rfl kq) ?_
  show own_Go p.tables e below _ (T1.setTop (mkF m 90 #[.val (.ref va), .val (.int (2 : Int32)), .val (.int col), .val (.int (3 : Int32)), .val (.ref ak), .val (.ref ar), .val (.ref bk), .val (.ref br), .val (.ref ct), .val (.int sh), .val (.int (0 : Int32)), s11, s12] [(.int (0 : Int32))]))
  refine own_up (fun _ kq => XS.iloadN X1.here hx rfl (hb hby d3_90) rfl kq) ?_
  show own_Go p.tables e below _ (T1.setTop (mkF m 91 #[.val (.ref va), .val (.int (2 : Int32)), .val (.int col), .val (.int (3 : Int32)), .val (.ref ak), .val (.ref ar), .val (.ref bk), .val (.ref br), .val (.ref ct), .val (.int sh), .val (.int (0 : Int32)), s11, s12] [(.int (3 : Int32)), (.int (0 : Int32))]))
  refine own_up (fun _ kq => XS.icmpNo X1.here hx rfl (hb hby d3_91) rfl (tlt (by decide : (0 : Int32) < (3 : Int32))).2.1 kq) ?_
  show own_Go p.tables e below _ (T1.setTop (mkF m 94 #[.val (.ref va), .val (.int (2 : Int32)), .val (.int col), .val (.int (3 : Int32)), .val (.ref ak), .val (.ref ar), .val (.ref bk), .val (.ref br), .val (.ref ct), .val (.int sh), .val (.int (0 : Int32)), s11, s12] []))
  refine own_up (fun _ kq => XS.aload X1.here hx rfl (hb hby d3_94) rfl rfl kq) ?_
  show own_Go p.tables e below _ (T1.setTop (mkF m 96 #[.val (.ref va), .val (.int (2 : Int32)), .val (.int col), .val (.int (3 : Int32)), .val (.ref ak), .val (.ref ar), .val (.ref bk), .val (.ref br), .val (.ref ct), .val (.int sh), .val (.int (0 : Int32)), s11, s12] [(.ref ct)]))
  refine own_up (fun _ kq => XS.aload X1.here hx rfl (hb hby d3_96) rfl rfl kq) ?_
  show own_Go p.tables e below _ (T1.setTop (mkF m 98 #[.val (.ref va), .val (.int (2 : Int32)), .val (.int col), .val (.int (3 : Int32)), .val (.ref ak), .val (.ref ar), .val (.ref bk), .val (.ref br), .val (.ref ct), .val (.int sh), .val (.int (0 : Int32)), s11, s12] [(.ref ak), (.ref ct)]))
  refine own_up (fun _ kq => XS.iload X1.here hx rfl (hb hby d3_98) rfl kq) ?_
  show own_Go p.tables e below _ (T1.setTop (mkF m 100 #[.val (.ref va), .val (.int (2 : Int32)), .val (.int col), .val (.int (3 : Int32)), .val (.ref ak), .val (.ref ar), .val (.ref bk), .val (.ref br), .val (.ref ct), .val (.int sh), .val (.int (0 : Int32)), s11, s12] [(.int (0 : Int32)), (.ref ak), (.ref ct)]))
  refine own_up (fun _ kq => own_Arf.laload G_ak X1 hx hZ rfl (by decide) (by decide) (v := (.long (x 0))) rfl (g := (mkF m 100 #[.val (.ref va), .val (.int (2 : Int32)), .val (.int col), .val (.int (3 : Int32)), .val (.ref ak), .val (.ref ar), .val (.ref bk), .val (.ref br), .val (.ref ct), .val (.int sh), .val (.int (0 : Int32)), s11, s12] [(.int (0 : Int32)), (.ref ak), (.ref ct)])) rfl rfl (hb hby d3_100) _ kq) ?_
  show own_Go p.tables e below _ (T1.setTop (mkF m 101 #[.val (.ref va), .val (.int (2 : Int32)), .val (.int col), .val (.int (3 : Int32)), .val (.ref ak), .val (.ref ar), .val (.ref bk), .val (.ref br), .val (.ref ct), .val (.int sh), .val (.int (0 : Int32)), s11, s12] [(.long (x 0)), (.ref ct)]))
  refine own_up (fun _ kq => XS.iload X1.here hx rfl (hb hby d3_101) rfl kq) ?_
  show own_Go p.tables e below _ (T1.setTop (mkF m 103 #[.val (.ref va), .val (.int (2 : Int32)), .val (.int col), .val (.int (3 : Int32)), .val (.ref ak), .val (.ref ar), .val (.ref bk), .val (.ref br), .val (.ref ct), .val (.int sh), .val (.int (0 : Int32)), s11, s12] [(.int sh), (.long (x 0)), (.ref ct)]))
  obtain ⟨_, _, ⟨T2, L2, k2, n2⟩, -, X2, ⟨Lc2, hQ2, l2, y2, z2⟩, st2⟩ := Jvm.LawKit.callS X1 hx (y := (⟨"com/example/ranksieve/ranksieve/model/SortedColumn", "digit", "(JI)I"⟩ : MethodName)) hown (mvT hZ (hw _ (List.mem_of_getElem? (i := 38) rfl))) (mvT hZ (hw _ (List.mem_of_getElem? (i := 39) rfl))) (mvT hZ (hw _ (List.mem_of_getElem? (i := 3) rfl))) (mvT hZ (hw _ (List.mem_of_getElem? (i := 40) rfl))) (by decide) (backOf (W := 1) (rmG l Z a0 hw [] (x 0) sh T1.heap n0 ZH) hZ (hw _ (List.mem_of_getElem? (i := 40) rfl)) (hw _ (List.mem_of_getElem? (i := 3) rfl)) (by decide) (by decide)) (g := (mkF m 103 #[.val (.ref va), .val (.int (2 : Int32)), .val (.int col), .val (.int (3 : Int32)), .val (.ref ak), .val (.ref ar), .val (.ref bk), .val (.ref br), .val (.ref ct), .val (.int sh), .val (.int (0 : Int32)), s11, s12] [(.int sh), (.long (x 0)), (.ref ct)])) rfl (by rw [hml]; rfl) (argsL := [(.long (x 0)), (.int sh)]) (rest := [(.ref ct)]) (lenOf pd_3 rfl) rfl (by show 2 * 0 + _ ≤ _; exact Nat.le_of_eq rfl) (hb hby d3_103) (fun _ _ => ⟨rfl, rfl, (by decide : 5 + 0 ≤ _), (by decide : 65548 + 0 ≤ _)⟩)
  dsimp only [Pt.U, Pt.locs, Pt.cells, Pt.slots] at X2 l2 y2 z2 st2 hQ2
  subst l2 y2 z2
  obtain ⟨rfl, Nq2, e2⟩ := hQ2
  have N2 := Fr.app N1 Nq2
  refine own_up st2 ?_
  show own_Go p.tables e below _ (T2.setTop (mkF m 106 #[.val (.ref va), .val (.int (2 : Int32)), .val (.int col), .val (.int (3 : Int32)), .val (.ref ak), .val (.ref ar), .val (.ref bk), .val (.ref br), .val (.ref ct), .val (.int sh), .val (.int (0 : Int32)), s11, s12] [(.int (own_dg (x 0) sh)), (.ref ct)]))
  refine own_up (fun _ kq => (show Steps p.tables e below (T2.setTop (mkF m 106 #[.val (.ref va), .val (.int (2 : Int32)), .val (.int col), .val (.int (3 : Int32)), .val (.ref ak), .val (.ref ar), .val (.ref bk), .val (.ref br), .val (.ref ct), .val (.int sh), .val (.int (0 : Int32)), s11, s12] [(.int (own_dg (x 0) sh)), (.ref ct)])) _ from by jvm_step X2.here [X2.here.top, hx, (hb hby d3_106), Value.category]; exact kq)) ?_
  show own_Go p.tables e below _ (T2.setTop (mkF m 107 #[.val (.ref va), .val (.int (2 : Int32)), .val (.int col), .val (.int (3 : Int32)), .val (.ref ak), .val (.ref ar), .val (.ref bk), .val (.ref br), .val (.ref ct), .val (.int sh), .val (.int (0 : Int32)), s11, s12] [(.int (own_dg (x 0) sh)), (.ref ct), (.int (own_dg (x 0) sh)), (.ref ct)]))
  refine own_up (fun _ kq => own_Arf.iaload G_ct X2 hx hZ e2 (own_dgn _ _) (own_dgl _ _) (v := (.int ((fun _ => 0 : Nat → Int32) ((own_dg (x 0) sh)).toNatClampNeg))) rfl (g := (mkF m 107 #[.val (.ref va), .val (.int (2 : Int32)), .val (.int col), .val (.int (3 : Int32)), .val (.ref ak), .val (.ref ar), .val (.ref bk), .val (.ref br), .val (.ref ct), .val (.int sh), .val (.int (0 : Int32)), s11, s12] [(.int (own_dg (x 0) sh)), (.ref ct), (.int (own_dg (x 0) sh)), (.ref ct)])) rfl rfl (hb hby d3_107) _ kq) ?_
  show own_Go p.tables e below _ (T2.setTop (mkF m 108 #[.val (.ref va), .val (.int (2 : Int32)), .val (.int col), .val (.int (3 : Int32)), .val (.ref ak), .val (.ref ar), .val (.ref bk), .val (.ref br), .val (.ref ct), .val (.int sh), .val (.int (0 : Int32)), s11, s12] [(.int ((fun _ => 0 : Nat → Int32) ((own_dg (x 0) sh)).toNatClampNeg)), (.int (own_dg (x 0) sh)), (.ref ct)]))
  refine own_up (fun _ kq => XS.iconst X2.here hx rfl (hb hby d3_108) kq) ?_
  show own_Go p.tables e below _ (T2.setTop (mkF m 109 #[.val (.ref va), .val (.int (2 : Int32)), .val (.int col), .val (.int (3 : Int32)), .val (.ref ak), .val (.ref ar), .val (.ref bk), .val (.ref br), .val (.ref ct), .val (.int sh), .val (.int (0 : Int32)), s11, s12] [(.int (1 : Int32)), (.int ((fun _ => 0 : Nat → Int32) ((own_dg (x 0) sh)).toNatClampNeg)), (.int (own_dg (x 0) sh)), (.ref ct)]))
  refine own_up (fun _ kq => XS.iadd X2.here hx rfl (hb hby d3_109) rfl kq) ?_
  show own_Go p.tables e below _ (T2.setTop (mkF m 110 #[.val (.ref va), .val (.int (2 : Int32)), .val (.int col), .val (.int (3 : Int32)), .val (.ref ak), .val (.ref ar), .val (.ref bk), .val (.ref br), .val (.ref ct), .val (.int sh), .val (.int (0 : Int32)), s11, s12] [(.int (((fun _ => 0 : Nat → Int32) ((own_dg (x 0) sh)).toNatClampNeg) + (1 : Int32))), (.int (own_dg (x 0) sh)), (.ref ct)]))
  obtain ⟨cl3, Ar3, sz3, nz3, hc3⟩ := id G_ct
  obtain ⟨T3, h3, X3, e3, W3, st3⟩ := stI X2 hx hZ e2 Ar3 (j := (own_dg (x 0) sh)) (inb_of sz3 ⟨(own_dgn _ _), (own_dgl _ _)⟩) (g := (mkF m 110 #[.val (.ref va), .val (.int (2 : Int32)), .val (.int col), .val (.int (3 : Int32)), .val (.ref ak), .val (.ref ar), .val (.ref bk), .val (.ref br), .val (.ref ct), .val (.int sh), .val (.int (0 : Int32)), s11, s12] [(.int (((fun _ => 0 : Nat → Int32) ((own_dg (x 0) sh)).toNatClampNeg) + (1 : Int32))), (.int (own_dg (x 0) sh)), (.ref ct)])) rfl rfl (hb hby d3_110)
  have G_ct : own_Arf Z h3 ct .int (65536 : Int32) (fun i => .int ((own_upd (fun _ => 0 : Nat → Int32) (own_dg (x 0) sh) (((fun _ => 0 : Nat → Int32) ((own_dg (x 0) sh)).toNatClampNeg) + (1 : Int32))) i)) := own_Arf.setI G_ct W3
  have N3 := Fr.snoc X3 N2 g_ct
  have G_ak := G_ak.other W3 ne_ak_ct
  have G_ar := G_ar.other W3 ne_ar_ct
  have G_bk := G_bk.other W3 ne_bk_ct
  have G_br := G_br.other W3 ne_br_ct
  have ZH := Nat.le_trans ZH (Nat.le_of_eq W3.size.symm)
  have KK := KK.wr W3 (Or.inl (List.mem_of_getElem? (i := 4) rfl))
  refine own_up st3 ?_
  show own_Go p.tables e below _ (T3.setTop (mkF m 111 #[.val (.ref va), .val (.int (2 : Int32)), .val (.int col), .val (.int (3 : Int32)), .val (.ref ak), .val (.ref ar), .val (.ref bk), .val (.ref br), .val (.ref ct), .val (.int sh), .val (.int (0 : Int32)), s11, s12] []))
  have G_ct : own_Arf Z h3 ct .int (65536 : Int32) (fun iq => .int ((own_inc (fun _ => 0 : Nat → Int32) (own_dg (x 0) sh)) iq)) := G_ct
  refine own_up (fun _ kq => XS.iinc X3.here hx rfl (hb hby d3_111) rfl (l' := #[.val (.ref va), .val (.int (2 : Int32)), .val (.int col), .val (.int (3 : Int32)), .val (.ref ak), .val (.ref ar), .val (.ref bk), .val (.ref br), .val (.ref ct), .val (.int sh), .val (.int (1 : Int32)), s11, s12]) rfl kq) ?_
  show own_Go p.tables e below _ (T3.setTop (mkF m 114 #[.val (.ref va), .val (.int (2 : Int32)), .val (.int col), .val (.int (3 : Int32)), .val (.ref ak), .val (.ref ar), .val (.ref bk), .val (.ref br), .val (.ref ct), .val (.int sh), .val (.int (1 : Int32)), s11, s12] []))
  refine own_up (fun _ kq => XS.goto X3.here hx rfl (pc0 := 114) (pc' := 88) rfl (hb hby d3_114) (by decide) (by decide) kq) ?_
  show own_Go p.tables e below _ (T3.setTop (mkF m 88 #[.val (.ref va), .val (.int (2 : Int32)), .val (.int col), .val (.int (3 : Int32)), .val (.ref ak), .val (.ref ar), .val (.ref bk), .val (.ref br), .val (.ref ct), .val (.int sh), .val (.int (1 : Int32)), s11, s12] []))
  refine own_up (fun _ kq => XS.iload X3.here hx rfl (hb hby d3_88) rfl kq) ?_
  show own_Go p.tables e below _ (T3.setTop (mkF m 90 #[.val (.ref va), .val (.int (2 : Int32)), .val (.int col), .val (.int (3 : Int32)), .val (.ref ak), .val (.ref ar), .val (.ref bk), .val (.ref br), .val (.ref ct), .val (.int sh), .val (.int (1 : Int32)), s11, s12] [(.int (1 : Int32))]))
  refine own_up (fun _ kq => XS.iloadN X3.here hx rfl (hb hby d3_90) rfl kq) ?_
  show own_Go p.tables e below _ (T3.setTop (mkF m 91 #[.val (.ref va), .val (.int (2 : Int32)), .val (.int col), .val (.int (3 : Int32)), .val (.ref ak), .val (.ref ar), .val (.ref bk), .val (.ref br), .val (.ref ct), .val (.int sh), .val (.int (1 : Int32)), s11, s12] [(.int (3 : Int32)), (.int (1 : Int32))]))
  refine own_up (fun _ kq => XS.icmpNo X3.here hx rfl (hb hby d3_91) rfl (tlt (by decide : (1 : Int32) < (3 : Int32))).2.1 kq) ?_
  show own_Go p.tables e below _ (T3.setTop (mkF m 94 #[.val (.ref va), .val (.int (2 : Int32)), .val (.int col), .val (.int (3 : Int32)), .val (.ref ak), .val (.ref ar), .val (.ref bk), .val (.ref br), .val (.ref ct), .val (.int sh), .val (.int (1 : Int32)), s11, s12] []))
  refine own_up (fun _ kq => XS.aload X3.here hx rfl (hb hby d3_94) rfl rfl kq) ?_
  show own_Go p.tables e below _ (T3.setTop (mkF m 96 #[.val (.ref va), .val (.int (2 : Int32)), .val (.int col), .val (.int (3 : Int32)), .val (.ref ak), .val (.ref ar), .val (.ref bk), .val (.ref br), .val (.ref ct), .val (.int sh), .val (.int (1 : Int32)), s11, s12] [(.ref ct)]))
  refine own_up (fun _ kq => XS.aload X3.here hx rfl (hb hby d3_96) rfl rfl kq) ?_
  show own_Go p.tables e below _ (T3.setTop (mkF m 98 #[.val (.ref va), .val (.int (2 : Int32)), .val (.int col), .val (.int (3 : Int32)), .val (.ref ak), .val (.ref ar), .val (.ref bk), .val (.ref br), .val (.ref ct), .val (.int sh), .val (.int (1 : Int32)), s11, s12] [(.ref ak), (.ref ct)]))
  refine own_up (fun _ kq => XS.iload X3.here hx rfl (hb hby d3_98) rfl kq) ?_
  show own_Go p.tables e below _ (T3.setTop (mkF m 100 #[.val (.ref va), .val (.int (2 : Int32)), .val (.int col), .val (.int (3 : Int32)), .val (.ref ak), .val (.ref ar), .val (.ref bk), .val (.ref br), .val (.ref ct), .val (.int sh), .val (.int (1 : Int32)), s11, s12] [(.int (1 : Int32)), (.ref ak), (.ref ct)]))
  refine own_up (fun _ kq => own_Arf.laload G_ak X3 hx hZ e3 (by decide) (by decide) (v := (.long (x 1))) rfl (g := (mkF m 100 #[.val (.ref va), .val (.int (2 : Int32)), .val (.int col), .val (.int (3 : Int32)), .val (.ref ak), .val (.ref ar), .val (.ref bk), .val (.ref br), .val (.ref ct), .val (.int sh), .val (.int (1 : Int32)), s11, s12] [(.int (1 : Int32)), (.ref ak), (.ref ct)])) rfl rfl (hb hby d3_100) _ kq) ?_
  show own_Go p.tables e below _ (T3.setTop (mkF m 101 #[.val (.ref va), .val (.int (2 : Int32)), .val (.int col), .val (.int (3 : Int32)), .val (.ref ak), .val (.ref ar), .val (.ref bk), .val (.ref br), .val (.ref ct), .val (.int sh), .val (.int (1 : Int32)), s11, s12] [(.long (x 1)), (.ref ct)]))
  refine own_up (fun _ kq => XS.iload X3.here hx rfl (hb hby d3_101) rfl kq) ?_
  show own_Go p.tables e below _ (T3.setTop (mkF m 103 #[.val (.ref va), .val (.int (2 : Int32)), .val (.int col), .val (.int (3 : Int32)), .val (.ref ak), .val (.ref ar), .val (.ref bk), .val (.ref br), .val (.ref ct), .val (.int sh), .val (.int (1 : Int32)), s11, s12] [(.int sh), (.long (x 1)), (.ref ct)]))
  obtain ⟨_, _, ⟨T4, L4, k4, n4⟩, -, X4, ⟨Lc4, hQ4, l4, y4, z4⟩, st4⟩ := Jvm.LawKit.callS X3 hx (y := (⟨"com/example/ranksieve/ranksieve/model/SortedColumn", "digit", "(JI)I"⟩ : MethodName)) hown (mvT hZ (hw _ (List.mem_of_getElem? (i := 38) rfl))) (mvT hZ (hw _ (List.mem_of_getElem? (i := 39) rfl))) (mvT hZ (hw _ (List.mem_of_getElem? (i := 3) rfl))) (mvT hZ (hw _ (List.mem_of_getElem? (i := 40) rfl))) (by decide) (backOf (W := 1) (rmG l Z a0 hw [] (x 1) sh h3 n0 ZH) hZ (hw _ (List.mem_of_getElem? (i := 40) rfl)) (hw _ (List.mem_of_getElem? (i := 3) rfl)) (by decide) (by decide)) (g := (mkF m 103 #[.val (.ref va), .val (.int (2 : Int32)), .val (.int col), .val (.int (3 : Int32)), .val (.ref ak), .val (.ref ar), .val (.ref bk), .val (.ref br), .val (.ref ct), .val (.int sh), .val (.int (1 : Int32)), s11, s12] [(.int sh), (.long (x 1)), (.ref ct)])) rfl (by rw [hml]; rfl) (argsL := [(.long (x 1)), (.int sh)]) (rest := [(.ref ct)]) (lenOf pd_3 rfl) rfl (by show 2 * 0 + _ ≤ _; exact Nat.le_of_eq rfl) (hb hby d3_103) (fun _ _ => ⟨rfl, e3, (by decide : 5 + 0 ≤ _), (by decide : 65548 + 0 ≤ _)⟩)
  dsimp only [Pt.U, Pt.locs, Pt.cells, Pt.slots] at X4 l4 y4 z4 st4 hQ4
  subst l4 y4 z4
  obtain ⟨rfl, Nq4, e4⟩ := hQ4
  have N4 := Fr.app N3 Nq4
  refine own_up st4 ?_
  show own_Go p.tables e below _ (T4.setTop (mkF m 106 #[.val (.ref va), .val (.int (2 : Int32)), .val (.int col), .val (.int (3 : Int32)), .val (.ref ak), .val (.ref ar), .val (.ref bk), .val (.ref br), .val (.ref ct), .val (.int sh), .val (.int (1 : Int32)), s11, s12] [(.int (own_dg (x 1) sh)), (.ref ct)]))
  refine own_up (fun _ kq => (show Steps p.tables e below (T4.setTop (mkF m 106 #[.val (.ref va), .val (.int (2 : Int32)), .val (.int col), .val (.int (3 : Int32)), .val (.ref ak), .val (.ref ar), .val (.ref bk), .val (.ref br), .val (.ref ct), .val (.int sh), .val (.int (1 : Int32)), s11, s12] [(.int (own_dg (x 1) sh)), (.ref ct)])) _ from by jvm_step X4.here [X4.here.top, hx, (hb hby d3_106), Value.category]; exact kq)) ?_
  show own_Go p.tables e below _ (T4.setTop (mkF m 107 #[.val (.ref va), .val (.int (2 : Int32)), .val (.int col), .val (.int (3 : Int32)), .val (.ref ak), .val (.ref ar), .val (.ref bk), .val (.ref br), .val (.ref ct), .val (.int sh), .val (.int (1 : Int32)), s11, s12] [(.int (own_dg (x 1) sh)), (.ref ct), (.int (own_dg (x 1) sh)), (.ref ct)]))
  refine own_up (fun _ kq => own_Arf.iaload G_ct X4 hx hZ e4 (own_dgn _ _) (own_dgl _ _) (v := (.int ((own_inc (fun _ => 0 : Nat → Int32) (own_dg (x 0) sh)) ((own_dg (x 1) sh)).toNatClampNeg))) rfl (g := (mkF m 107 #[.val (.ref va), .val (.int (2 : Int32)), .val (.int col), .val (.int (3 : Int32)), .val (.ref ak), .val (.ref ar), .val (.ref bk), .val (.ref br), .val (.ref ct), .val (.int sh), .val (.int (1 : Int32)), s11, s12] [(.int (own_dg (x 1) sh)), (.ref ct), (.int (own_dg (x 1) sh)), (.ref ct)])) rfl rfl (hb hby d3_107) _ kq) ?_
  show own_Go p.tables e below _ (T4.setTop (mkF m 108 #[.val (.ref va), .val (.int (2 : Int32)), .val (.int col), .val (.int (3 : Int32)), .val (.ref ak), .val (.ref ar), .val (.ref bk), .val (.ref br), .val (.ref ct), .val (.int sh), .val (.int (1 : Int32)), s11, s12] [(.int ((own_inc (fun _ => 0 : Nat → Int32) (own_dg (x 0) sh)) ((own_dg (x 1) sh)).toNatClampNeg)), (.int (own_dg (x 1) sh)), (.ref ct)]))
  refine own_up (fun _ kq => XS.iconst X4.here hx rfl (hb hby d3_108) kq) ?_
  show own_Go p.tables e below _ (T4.setTop (mkF m 109 #[.val (.ref va), .val (.int (2 : Int32)), .val (.int col), .val (.int (3 : Int32)), .val (.ref ak), .val (.ref ar), .val (.ref bk), .val (.ref br), .val (.ref ct), .val (.int sh), .val (.int (1 : Int32)), s11, s12] [(.int (1 : Int32)), (.int ((own_inc (fun _ => 0 : Nat → Int32) (own_dg (x 0) sh)) ((own_dg (x 1) sh)).toNatClampNeg)), (.int (own_dg (x 1) sh)), (.ref ct)]))
  refine own_up (fun _ kq => XS.iadd X4.here hx rfl (hb hby d3_109) rfl kq) ?_
  show own_Go p.tables e below _ (T4.setTop (mkF m 110 #[.val (.ref va), .val (.int (2 : Int32)), .val (.int col), .val (.int (3 : Int32)), .val (.ref ak), .val (.ref ar), .val (.ref bk), .val (.ref br), .val (.ref ct), .val (.int sh), .val (.int (1 : Int32)), s11, s12] [(.int (((own_inc (fun _ => 0 : Nat → Int32) (own_dg (x 0) sh)) ((own_dg (x 1) sh)).toNatClampNeg) + (1 : Int32))), (.int (own_dg (x 1) sh)), (.ref ct)]))
  obtain ⟨cl5, Ar5, sz5, nz5, hc5⟩ := id G_ct
  obtain ⟨T5, h5, X5, e5, W5, st5⟩ := stI X4 hx hZ e4 Ar5 (j := (own_dg (x 1) sh)) (inb_of sz5 ⟨(own_dgn _ _), (own_dgl _ _)⟩) (g := (mkF m 110 #[.val (.ref va), .val (.int (2 : Int32)), .val (.int col), .val (.int (3 : Int32)), .val (.ref ak), .val (.ref ar), .val (.ref bk), .val (.ref br), .val (.ref ct), .val (.int sh), .val (.int (1 : Int32)), s11, s12] [(.int (((own_inc (fun _ => 0 : Nat → Int32) (own_dg (x 0) sh)) ((own_dg (x 1) sh)).toNatClampNeg) + (1 : Int32))), (.int (own_dg (x 1) sh)), (.ref ct)])) rfl rfl (hb hby d3_110)
  have G_ct : own_Arf Z h5 ct .int (65536 : Int32) (fun i => .int ((own_upd (own_inc (fun _ => 0 : Nat → Int32) (own_dg (x 0) sh)) (own_dg (x 1) sh) (((own_inc (fun _ => 0 : Nat → Int32) (own_dg (x 0) sh)) ((own_dg (x 1) sh)).toNatClampNeg) + (1 : Int32))) i)) := own_Arf.setI G_ct W5
  have N5 := Fr.snoc X5 N4 g_ct
  have G_ak := G_ak.other W5 ne_ak_ct
  have G_ar := G_ar.other W5 ne_ar_ct
  have G_bk := G_bk.other W5 ne_bk_ct
  have G_br := G_br.other W5 ne_br_ct
  have ZH := Nat.le_trans ZH (Nat.le_of_eq W5.size.symm)
  have KK := KK.wr W5 (Or.inl (List.mem_of_getElem? (i := 4) rfl))
  refine own_up st5 ?_
  show own_Go p.tables e below _ (T5.setTop (mkF m 111 #[.val (.ref va), .val (.int (2 : Int32)), .val (.int col), .val (.int (3 : Int32)), .val (.ref ak), .val (.ref ar), .val (.ref bk), .val (.ref br), .val (.ref ct), .val (.int sh), .val (.int (1 : Int32)), s11, s12] []))
  have G_ct : own_Arf Z h5 ct .int (65536 : Int32) (fun iq => .int ((own_inc (own_inc (fun _ => 0 : Nat → Int32) (own_dg (x 0) sh)) (own_dg (x 1) sh)) iq)) := G_ct
  refine own_up (fun _ kq => XS.iinc X5.here hx rfl (hb hby d3_111) rfl (l' := #[.val (.ref va), .val (.int (2 : Int32)), .val (.int col), .val (.int (3 : Int32)), .val (.ref ak), .val (.ref ar), .val (.ref bk), .val (.ref br), .val (.ref ct), .val (.int sh), .val (.int (2 : Int32)), s11, s12]) rfl kq) ?_
  show own_Go p.tables e below _ (T5.setTop (mkF m 114 #[.val (.ref va), .val (.int (2 : Int32)), .val (.int col), .val (.int (3 : Int32)), .val (.ref ak), .val (.ref ar), .val (.ref bk), .val (.ref br), .val (.ref ct), .val (.int sh), .val (.int (2 : Int32)), s11, s12] []))
  refine own_up (fun _ kq => XS.goto X5.here hx rfl (pc0 := 114) (pc' := 88) rfl (hb hby d3_114) (by decide) (by decide) kq) ?_
  show own_Go p.tables e below _ (T5.setTop (mkF m 88 #[.val (.ref va), .val (.int (2 : Int32)), .val (.int col), .val (.int (3 : Int32)), .val (.ref ak), .val (.ref ar), .val (.ref bk), .val (.ref br), .val (.ref ct), .val (.int sh), .val (.int (2 : Int32)), s11, s12] []))
  refine own_up (fun _ kq => XS.iload X5.here hx rfl (hb hby d3_88) rfl kq) ?_
  show own_Go p.tables e below _ (T5.setTop (mkF m 90 #[.val (.ref va), .val (.int (2 : Int32)), .val (.int col), .val (.int (3 : Int32)), .val (.ref ak), .val (.ref ar), .val (.ref bk), .val (.ref br), .val (.ref ct), .val (.int sh), .val (.int (2 : Int32)), s11, s12] [(.int (2 : Int32))]))
  refine own_up (fun _ kq => XS.iloadN X5.here hx rfl (hb hby d3_90) rfl kq) ?_
  show own_Go p.tables e below _ (T5.setTop (mkF m 91 #[.val (.ref va), .val (.int (2 : Int32)), .val (.int col), .val (.int (3 : Int32)), .val (.ref ak), .val (.ref ar), .val (.ref bk), .val (.ref br), .val (.ref ct), .val (.int sh), .val (.int (2 : Int32)), s11, s12] [(.int (3 : Int32)), (.int (2 : Int32))]))
  refine own_up (fun _ kq => XS.icmpNo X5.here hx rfl (hb hby d3_91) rfl (tlt (by decide : (2 : Int32) < (3 : Int32))).2.1 kq) ?_
  show own_Go p.tables e below _ (T5.setTop (mkF m 94 #[.val (.ref va), .val (.int (2 : Int32)), .val (.int col), .val (.int (3 : Int32)), .val (.ref ak), .val (.ref ar), .val (.ref bk), .val (.ref br), .val (.ref ct), .val (.int sh), .val (.int (2 : Int32)), s11, s12] []))
  refine own_up (fun _ kq => XS.aload X5.here hx rfl (hb hby d3_94) rfl rfl kq) ?_
  show own_Go p.tables e below _ (T5.setTop (mkF m 96 #[.val (.ref va), .val (.int (2 : Int32)), .val (.int col), .val (.int (3 : Int32)), .val (.ref ak), .val (.ref ar), .val (.ref bk), .val (.ref br), .val (.ref ct), .val (.int sh), .val (.int (2 : Int32)), s11, s12] [(.ref ct)]))
  refine own_up (fun _ kq => XS.aload X5.here hx rfl (hb hby d3_96) rfl rfl kq) ?_
  show own_Go p.tables e below _ (T5.setTop (mkF m 98 #[.val (.ref va), .val (.int (2 : Int32)), .val (.int col), .val (.int (3 : Int32)), .val (.ref ak), .val (.ref ar), .val (.ref bk), .val (.ref br), .val (.ref ct), .val (.int sh), .val (.int (2 : Int32)), s11, s12] [(.ref ak), (.ref ct)]))
  refine own_up (fun _ kq => XS.iload X5.here hx rfl (hb hby d3_98) rfl kq) ?_
  show own_Go p.tables e below _ (T5.setTop (mkF m 100 #[.val (.ref va), .val (.int (2 : Int32)), .val (.int col), .val (.int (3 : Int32)), .val (.ref ak), .val (.ref ar), .val (.ref bk), .val (.ref br), .val (.ref ct), .val (.int sh), .val (.int (2 : Int32)), s11, s12] [(.int (2 : Int32)), (.ref ak), (.ref ct)]))
  refine own_up (fun _ kq => own_Arf.laload G_ak X5 hx hZ e5 (by decide) (by decide) (v := (.long (x 2))) rfl (g := (mkF m 100 #[.val (.ref va), .val (.int (2 : Int32)), .val (.int col), .val (.int (3 : Int32)), .val (.ref ak), .val (.ref ar), .val (.ref bk), .val (.ref br), .val (.ref ct), .val (.int sh), .val (.int (2 : Int32)), s11, s12] [(.int (2 : Int32)), (.ref ak), (.ref ct)])) rfl rfl (hb hby d3_100) _ kq) ?_
  show own_Go p.tables e below _ (T5.setTop (mkF m 101 #[.val (.ref va), .val (.int (2 : Int32)), .val (.int col), .val (.int (3 : Int32)), .val (.ref ak), .val (.ref ar), .val (.ref bk), .val (.ref br), .val (.ref ct), .val (.int sh), .val (.int (2 : Int32)), s11, s12] [(.long (x 2)), (.ref ct)]))
  refine own_up (fun _ kq => XS.iload X5.here hx rfl (hb hby d3_101) rfl kq) ?_
  show own_Go p.tables e below _ (T5.setTop (mkF m 103 #[.val (.ref va), .val (.int (2 : Int32)), .val (.int col), .val (.int (3 : Int32)), .val (.ref ak), .val (.ref ar), .val (.ref bk), .val (.ref br), .val (.ref ct), .val (.int sh), .val (.int (2 : Int32)), s11, s12] [(.int sh), (.long (x 2)), (.ref ct)]))
  obtain ⟨_, _, ⟨T6, L6, k6, n6⟩, -, X6, ⟨Lc6, hQ6, l6, y6, z6⟩, st6⟩ := Jvm.LawKit.callS X5 hx (y := (⟨"com/example/ranksieve/ranksieve/model/SortedColumn", "digit", "(JI)I"⟩ : MethodName)) hown (mvT hZ (hw _ (List.mem_of_getElem? (i := 38) rfl))) (mvT hZ (hw _ (List.mem_of_getElem? (i := 39) rfl))) (mvT hZ (hw _ (List.mem_of_getElem? (i := 3) rfl))) (mvT hZ (hw _ (List.mem_of_getElem? (i := 40) rfl))) (by decide) (backOf (W := 1) (rmG l Z a0 hw [] (x 2) sh h5 n0 ZH) hZ (hw _ (List.mem_of_getElem? (i := 40) rfl)) (hw _ (List.mem_of_getElem? (i := 3) rfl)) (by decide) (by decide)) (g := (mkF m 103 #[.val (.ref va), .val (.int (2 : Int32)), .val (.int col), .val (.int (3 : Int32)), .val (.ref ak), .val (.ref ar), .val (.ref bk), .val (.ref br), .val (.ref ct), .val (.int sh), .val (.int (2 : Int32)), s11, s12] [(.int sh), (.long (x 2)), (.ref ct)])) rfl (by rw [hml]; rfl) (argsL := [(.long (x 2)), (.int sh)]) (rest := [(.ref ct)]) (lenOf pd_3 rfl) rfl (by show 2 * 0 + _ ≤ _; exact Nat.le_of_eq rfl) (hb hby d3_103) (fun _ _ => ⟨rfl, e5, (by decide : 5 + 0 ≤ _), (by decide : 65548 + 0 ≤ _)⟩)
  dsimp only [Pt.U, Pt.locs, Pt.cells, Pt.slots] at X6 l6 y6 z6 st6 hQ6
  subst l6 y6 z6
  obtain ⟨rfl, Nq6, e6⟩ := hQ6
  have N6 := Fr.app N5 Nq6
  refine own_up st6 ?_
  show own_Go p.tables e below _ (T6.setTop (mkF m 106 #[.val (.ref va), .val (.int (2 : Int32)), .val (.int col), .val (.int (3 : Int32)), .val (.ref ak), .val (.ref ar), .val (.ref bk), .val (.ref br), .val (.ref ct), .val (.int sh), .val (.int (2 : Int32)), s11, s12] [(.int (own_dg (x 2) sh)), (.ref ct)]))
  refine own_up (fun _ kq => (show Steps p.tables e below (T6.setTop (mkF m 106 #[.val (.ref va), .val (.int (2 : Int32)), .val (.int col), .val (.int (3 : Int32)), .val (.ref ak), .val (.ref ar), .val (.ref bk), .val (.ref br), .val (.ref ct), .val (.int sh), .val (.int (2 : Int32)), s11, s12] [(.int (own_dg (x 2) sh)), (.ref ct)])) _ from by jvm_step X6.here [X6.here.top, hx, (hb hby d3_106), Value.category]; exact kq)) ?_
  show own_Go p.tables e below _ (T6.setTop (mkF m 107 #[.val (.ref va), .val (.int (2 : Int32)), .val (.int col), .val (.int (3 : Int32)), .val (.ref ak), .val (.ref ar), .val (.ref bk), .val (.ref br), .val (.ref ct), .val (.int sh), .val (.int (2 : Int32)), s11, s12] [(.int (own_dg (x 2) sh)), (.ref ct), (.int (own_dg (x 2) sh)), (.ref ct)]))
  refine own_up (fun _ kq => own_Arf.iaload G_ct X6 hx hZ e6 (own_dgn _ _) (own_dgl _ _) (v := (.int ((own_inc (own_inc (fun _ => 0 : Nat → Int32) (own_dg (x 0) sh)) (own_dg (x 1) sh)) ((own_dg (x 2) sh)).toNatClampNeg))) rfl (g := (mkF m 107 #[.val (.ref va), .val (.int (2 : Int32)), .val (.int col), .val (.int (3 : Int32)), .val (.ref ak), .val (.ref ar), .val (.ref bk), .val (.ref br), .val (.ref ct), .val (.int sh), .val (.int (2 : Int32)), s11, s12] [(.int (own_dg (x 2) sh)), (.ref ct), (.int (own_dg (x 2) sh)), (.ref ct)])) rfl rfl (hb hby d3_107) _ kq) ?_
  show own_Go p.tables e below _ (T6.setTop (mkF m 108 #[.val (.ref va), .val (.int (2 : Int32)), .val (.int col), .val (.int (3 : Int32)), .val (.ref ak), .val (.ref ar), .val (.ref bk), .val (.ref br), .val (.ref ct), .val (.int sh), .val (.int (2 : Int32)), s11, s12] [(.int ((own_inc (own_inc (fun _ => 0 : Nat → Int32) (own_dg (x 0) sh)) (own_dg (x 1) sh)) ((own_dg (x 2) sh)).toNatClampNeg)), (.int (own_dg (x 2) sh)), (.ref ct)]))
  refine own_up (fun _ kq => XS.iconst X6.here hx rfl (hb hby d3_108) kq) ?_
  show own_Go p.tables e below _ (T6.setTop (mkF m 109 #[.val (.ref va), .val (.int (2 : Int32)), .val (.int col), .val (.int (3 : Int32)), .val (.ref ak), .val (.ref ar), .val (.ref bk), .val (.ref br), .val (.ref ct), .val (.int sh), .val (.int (2 : Int32)), s11, s12] [(.int (1 : Int32)), (.int ((own_inc (own_inc (fun _ => 0 : Nat → Int32) (own_dg (x 0) sh)) (own_dg (x 1) sh)) ((own_dg (x 2) sh)).toNatClampNeg)), (.int (own_dg (x 2) sh)), (.ref ct)]))
  refine own_up (fun _ kq => XS.iadd X6.here hx rfl (hb hby d3_109) rfl kq) ?_
  show own_Go p.tables e below _ (T6.setTop (mkF m 110 #[.val (.ref va), .val (.int (2 : Int32)), .val (.int col), .val (.int (3 : Int32)), .val (.ref ak), .val (.ref ar), .val (.ref bk), .val (.ref br), .val (.ref ct), .val (.int sh), .val (.int (2 : Int32)), s11, s12] [(.int (((own_inc (own_inc (fun _ => 0 : Nat → Int32) (own_dg (x 0) sh)) (own_dg (x 1) sh)) ((own_dg (x 2) sh)).toNatClampNeg) + (1 : Int32))), (.int (own_dg (x 2) sh)), (.ref ct)]))
  obtain ⟨cl7, Ar7, sz7, nz7, hc7⟩ := id G_ct
  obtain ⟨T7, h7, X7, e7, W7, st7⟩ := stI X6 hx hZ e6 Ar7 (j := (own_dg (x 2) sh)) (inb_of sz7 ⟨(own_dgn _ _), (own_dgl _ _)⟩) (g := (mkF m 110 #[.val (.ref va), .val (.int (2 : Int32)), .val (.int col), .val (.int (3 : Int32)), .val (.ref ak), .val (.ref ar), .val (.ref bk), .val (.ref br), .val (.ref ct), .val (.int sh), .val (.int (2 : Int32)), s11, s12] [(.int (((own_inc (own_inc (fun _ => 0 : Nat → Int32) (own_dg (x 0) sh)) (own_dg (x 1) sh)) ((own_dg (x 2) sh)).toNatClampNeg) + (1 : Int32))), (.int (own_dg (x 2) sh)), (.ref ct)])) rfl rfl (hb hby d3_110)
  have G_ct : own_Arf Z h7 ct .int (65536 : Int32) (fun i => .int ((own_upd (own_inc (own_inc (fun _ => 0 : Nat → Int32) (own_dg (x 0) sh)) (own_dg (x 1) sh)) (own_dg (x 2) sh) (((own_inc (own_inc (fun _ => 0 : Nat → Int32) (own_dg (x 0) sh)) (own_dg (x 1) sh)) ((own_dg (x 2) sh)).toNatClampNeg) + (1 : Int32))) i)) := own_Arf.setI G_ct W7
  have N7 := Fr.snoc X7 N6 g_ct
  have G_ak := G_ak.other W7 ne_ak_ct
  have G_ar := G_ar.other W7 ne_ar_ct
  have G_bk := G_bk.other W7 ne_bk_ct
  have G_br := G_br.other W7 ne_br_ct
  have ZH := Nat.le_trans ZH (Nat.le_of_eq W7.size.symm)
  have KK := KK.wr W7 (Or.inl (List.mem_of_getElem? (i := 4) rfl))
  refine own_up st7 ?_
  show own_Go p.tables e below _ (T7.setTop (mkF m 111 #[.val (.ref va), .val (.int (2 : Int32)), .val (.int col), .val (.int (3 : Int32)), .val (.ref ak), .val (.ref ar), .val (.ref bk), .val (.ref br), .val (.ref ct), .val (.int sh), .val (.int (2 : Int32)), s11, s12] []))
  have G_ct : own_Arf Z h7 ct .int (65536 : Int32) (fun iq => .int ((own_C (own_dg (x 0) sh) (own_dg (x 1) sh) (own_dg (x 2) sh)) iq)) := G_ct
  refine own_up (fun _ kq => XS.iinc X7.here hx rfl (hb hby d3_111) rfl (l' := #[.val (.ref va), .val (.int (2 : Int32)), .val (.int col), .val (.int (3 : Int32)), .val (.ref ak), .val (.ref ar), .val (.ref bk), .val (.ref br), .val (.ref ct), .val (.int sh), .val (.int (3 : Int32)), s11, s12]) rfl kq) ?_
  show own_Go p.tables e below _ (T7.setTop (mkF m 114 #[.val (.ref va), .val (.int (2 : Int32)), .val (.int col), .val (.int (3 : Int32)), .val (.ref ak), .val (.ref ar), .val (.ref bk), .val (.ref br), .val (.ref ct), .val (.int sh), .val (.int (3 : Int32)), s11, s12] []))
  refine own_up (fun _ kq => XS.goto X7.here hx rfl (pc0 := 114) (pc' := 88) rfl (hb hby d3_114) (by decide) (by decide) kq) ?_
  show own_Go p.tables e below _ (T7.setTop (mkF m 88 #[.val (.ref va), .val (.int (2 : Int32)), .val (.int col), .val (.int (3 : Int32)), .val (.ref ak), .val (.ref ar), .val (.ref bk), .val (.ref br), .val (.ref ct), .val (.int sh), .val (.int (3 : Int32)), s11, s12] []))
  refine own_up (fun _ kq => XS.iload X7.here hx rfl (hb hby d3_88) rfl kq) ?_
  show own_Go p.tables e below _ (T7.setTop (mkF m 90 #[.val (.ref va), .val (.int (2 : Int32)), .val (.int col), .val (.int (3 : Int32)), .val (.ref ak), .val (.ref ar), .val (.ref bk), .val (.ref br), .val (.ref ct), .val (.int sh), .val (.int (3 : Int32)), s11, s12] [(.int (3 : Int32))]))
  refine own_up (fun _ kq => XS.iloadN X7.here hx rfl (hb hby d3_90) rfl kq) ?_
  show own_Go p.tables e below _ (T7.setTop (mkF m 91 #[.val (.ref va), .val (.int (2 : Int32)), .val (.int col), .val (.int (3 : Int32)), .val (.ref ak), .val (.ref ar), .val (.ref bk), .val (.ref br), .val (.ref ct), .val (.int sh), .val (.int (3 : Int32)), s11, s12] [(.int (3 : Int32)), (.int (3 : Int32))]))
  refine own_up (fun _ kq => XS.icmpYes X7.here hx rfl (pc0 := 91) (pc' := 117) rfl (hb hby d3_91) rfl (flt (by decide : ¬ ((3 : Int32) < (3 : Int32)))).2.1 (by decide) (by decide) kq) ?_
  show own_Go p.tables e below _ (T7.setTop (mkF m 117 #[.val (.ref va), .val (.int (2 : Int32)), .val (.int col), .val (.int (3 : Int32)), .val (.ref ak), .val (.ref ar), .val (.ref bk), .val (.ref br), .val (.ref ct), .val (.int sh), .val (.int (3 : Int32)), s11, s12] []))
  refine own_up (fun _ kq => XS.iloadN X7.here hx rfl (hb hby d3_117) rfl kq) ?_
  show own_Go p.tables e below _ (T7.setTop (mkF m 118 #[.val (.ref va), .val (.int (2 : Int32)), .val (.int col), .val (.int (3 : Int32)), .val (.ref ak), .val (.ref ar), .val (.ref bk), .val (.ref br), .val (.ref ct), .val (.int sh), .val (.int (3 : Int32)), s11, s12] [(.int (3 : Int32))]))
  refine own_up (fun _ kq => XS.ifNo X7.here hx rfl (hb hby d3_118) rfl ((if0 _ _).trans (feq (by decide : ¬ ((3 : Int32) = (0 : Int32)))).1) kq) ?_
  show own_Go p.tables e below _ (T7.setTop (mkF m 121 #[.val (.ref va), .val (.int (2 : Int32)), .val (.int col), .val (.int (3 : Int32)), .val (.ref ak), .val (.ref ar), .val (.ref bk), .val (.ref br), .val (.ref ct), .val (.int sh), .val (.int (3 : Int32)), s11, s12] []))
  refine own_up (fun _ kq => XS.aload X7.here hx rfl (hb hby d3_121) rfl rfl kq) ?_
  show own_Go p.tables e below _ (T7.setTop (mkF m 123 #[.val (.ref va), .val (.int (2 : Int32)), .val (.int col), .val (.int (3 : Int32)), .val (.ref ak), .val (.ref ar), .val (.ref bk), .val (.ref br), .val (.ref ct), .val (.int sh), .val (.int (3 : Int32)), s11, s12] [(.ref ct)]))
  refine own_up (fun _ kq => XS.aload X7.here hx rfl (hb hby d3_123) rfl rfl kq) ?_
  show own_Go p.tables e below _ (T7.setTop (mkF m 125 #[.val (.ref va), .val (.int (2 : Int32)), .val (.int col), .val (.int (3 : Int32)), .val (.ref ak), .val (.ref ar), .val (.ref bk), .val (.ref br), .val (.ref ct), .val (.int sh), .val (.int (3 : Int32)), s11, s12] [(.ref ak), (.ref ct)]))
  refine own_up (fun _ kq => XS.iconst X7.here hx rfl (hb hby d3_125) kq) ?_
  show own_Go p.tables e below _ (T7.setTop (mkF m 126 #[.val (.ref va), .val (.int (2 : Int32)), .val (.int col), .val (.int (3 : Int32)), .val (.ref ak), .val (.ref ar), .val (.ref bk), .val (.ref br), .val (.ref ct), .val (.int sh), .val (.int (3 : Int32)), s11, s12] [(.int (0 : Int32)), (.ref ak), (.ref ct)]))
  refine own_up (fun _ kq => own_Arf.laload G_ak X7 hx hZ e7 (by decide) (by decide) (v := (.long (x 0))) rfl (g := (mkF m 126 #[.val (.ref va), .val (.int (2 : Int32)), .val (.int col), .val (.int (3 : Int32)), .val (.ref ak), .val (.ref ar), .val (.ref bk), .val (.ref br), .val (.ref ct), .val (.int sh), .val (.int (3 : Int32)), s11, s12] [(.int (0 : Int32)), (.ref ak), (.ref ct)])) rfl rfl (hb hby d3_126) _ kq) ?_
  show own_Go p.tables e below _ (T7.setTop (mkF m 127 #[.val (.ref va), .val (.int (2 : Int32)), .val (.int col), .val (.int (3 : Int32)), .val (.ref ak), .val (.ref ar), .val (.ref bk), .val (.ref br), .val (.ref ct), .val (.int sh), .val (.int (3 : Int32)), s11, s12] [(.long (x 0)), (.ref ct)]))
  refine own_up (fun _ kq => XS.iload X7.here hx rfl (hb hby d3_127) rfl kq) ?_
  show own_Go p.tables e below _ (T7.setTop (mkF m 129 #[.val (.ref va), .val (.int (2 : Int32)), .val (.int col), .val (.int (3 : Int32)), .val (.ref ak), .val (.ref ar), .val (.ref bk), .val (.ref br), .val (.ref ct), .val (.int sh), .val (.int (3 : Int32)), s11, s12] [(.int sh), (.long (x 0)), (.ref ct)]))
  obtain ⟨_, _, ⟨T8, L8, k8, n8⟩, -, X8, ⟨Lc8, hQ8, l8, y8, z8⟩, st8⟩ := Jvm.LawKit.callS X7 hx (y := (⟨"com/example/ranksieve/ranksieve/model/SortedColumn", "digit", "(JI)I"⟩ : MethodName)) hown (mvT hZ (hw _ (List.mem_of_getElem? (i := 38) rfl))) (mvT hZ (hw _ (List.mem_of_getElem? (i := 39) rfl))) (mvT hZ (hw _ (List.mem_of_getElem? (i := 3) rfl))) (mvT hZ (hw _ (List.mem_of_getElem? (i := 40) rfl))) (by decide) (backOf (W := 1) (rmG l Z a0 hw [] (x 0) sh h7 n0 ZH) hZ (hw _ (List.mem_of_getElem? (i := 40) rfl)) (hw _ (List.mem_of_getElem? (i := 3) rfl)) (by decide) (by decide)) (g := (mkF m 129 #[.val (.ref va), .val (.int (2 : Int32)), .val (.int col), .val (.int (3 : Int32)), .val (.ref ak), .val (.ref ar), .val (.ref bk), .val (.ref br), .val (.ref ct), .val (.int sh), .val (.int (3 : Int32)), s11, s12] [(.int sh), (.long (x 0)), (.ref ct)])) rfl (by rw [hml]; rfl) (argsL := [(.long (x 0)), (.int sh)]) (rest := [(.ref ct)]) (lenOf pd_3 rfl) rfl (by show 2 * 0 + _ ≤ _; exact Nat.le_of_eq rfl) (hb hby d3_129) (fun _ _ => ⟨rfl, e7, (by decide : 5 + 0 ≤ _), (by decide : 65548 + 0 ≤ _)⟩)
  dsimp only [Pt.U, Pt.locs, Pt.cells, Pt.slots] at X8 l8 y8 z8 st8 hQ8
  subst l8 y8 z8
  obtain ⟨rfl, Nq8, e8⟩ := hQ8
  have N8 := Fr.app N7 Nq8
  refine own_up st8 ?_
  show own_Go p.tables e below _ (T8.setTop (mkF m 132 #[.val (.ref va), .val (.int (2 : Int32)), .val (.int col), .val (.int (3 : Int32)), .val (.ref ak), .val (.ref ar), .val (.ref bk), .val (.ref br), .val (.ref ct), .val (.int sh), .val (.int (3 : Int32)), s11, s12] [(.int (own_dg (x 0) sh)), (.ref ct)]))
  refine own_up (fun _ kq => own_Arf.iaload G_ct X8 hx hZ e8 (own_dgn _ _) (own_dgl _ _) (v := (.int ((own_C (own_dg (x 0) sh) (own_dg (x 1) sh) (own_dg (x 2) sh)) ((own_dg (x 0) sh)).toNatClampNeg))) rfl (g := (mkF m 132 #[.val (.ref va), .val (.int (2 : Int32)), .val (.int col), .val (.int (3 : Int32)), .val (.ref ak), .val (.ref ar), .val (.ref bk), .val (.ref br), .val (.ref ct), .val (.int sh), .val (.int (3 : Int32)), s11, s12] [(.int (own_dg (x 0) sh)), (.ref ct)])) rfl rfl (hb hby d3_132) _ kq) ?_
  show own_Go p.tables e below _ (T8.setTop (mkF m 133 #[.val (.ref va), .val (.int (2 : Int32)), .val (.int col), .val (.int (3 : Int32)), .val (.ref ak), .val (.ref ar), .val (.ref bk), .val (.ref br), .val (.ref ct), .val (.int sh), .val (.int (3 : Int32)), s11, s12] [(.int ((own_C (own_dg (x 0) sh) (own_dg (x 1) sh) (own_dg (x 2) sh)) ((own_dg (x 0) sh)).toNatClampNeg))]))
  refine own_up (fun _ kq => XS.iloadN X8.here hx rfl (hb hby d3_133) rfl kq) ?_
  show own_Go p.tables e below _ (T8.setTop (mkF m 134 #[.val (.ref va), .val (.int (2 : Int32)), .val (.int col), .val (.int (3 : Int32)), .val (.ref ak), .val (.ref ar), .val (.ref bk), .val (.ref br), .val (.ref ct), .val (.int sh), .val (.int (3 : Int32)), s11, s12] [(.int (3 : Int32)), (.int ((own_C (own_dg (x 0) sh) (own_dg (x 1) sh) (own_dg (x 2) sh)) ((own_dg (x 0) sh)).toNatClampNeg))]))
  by_cases hc134 : ((own_C (own_dg (x 0) sh) (own_dg (x 1) sh) (own_dg (x 2) sh)) ((own_dg (x 0) sh)).toNatClampNeg) = (3 : Int32)
  · refine own_up (fun _ kq => XS.icmpNo X8.here hx rfl (hb hby d3_134) rfl (teq hc134).2 kq) ?_
    show own_Go p.tables e below _ (T8.setTop (mkF m 137 #[.val (.ref va), .val (.int (2 : Int32)), .val (.int col), .val (.int (3 : Int32)), .val (.ref ak), .val (.ref ar), .val (.ref bk), .val (.ref br), .val (.ref ct), .val (.int sh), .val (.int (3 : Int32)), s11, s12] []))
    refine own_up (fun _ kq => XS.goto X8.here hx rfl (pc0 := 137) (pc' := 259) rfl (hb hby d3_137) (by decide) (by decide) kq) ?_
    show own_Go p.tables e below _ (T8.setTop (mkF m 259 #[.val (.ref va), .val (.int (2 : Int32)), .val (.int col), .val (.int (3 : Int32)), .val (.ref ak), .val (.ref ar), .val (.ref bk), .val (.ref br), .val (.ref ct), .val (.int sh), .val (.int (3 : Int32)), s11, s12] []))
    refine own_up (fun _ kq => XS.iinc X8.here hx rfl (hb hby d3_259) rfl (l' := #[.val (.ref va), .val (.int (2 : Int32)), .val (.int col), .val (.int (3 : Int32)), .val (.ref ak), .val (.ref ar), .val (.ref bk), .val (.ref br), .val (.ref ct), .val (.int (sh + (16 : Int32))), .val (.int (3 : Int32)), s11, s12]) rfl kq) ?_
    show own_Go p.tables e below _ (T8.setTop (mkF m 262 #[.val (.ref va), .val (.int (2 : Int32)), .val (.int col), .val (.int (3 : Int32)), .val (.ref ak), .val (.ref ar), .val (.ref bk), .val (.ref br), .val (.ref ct), .val (.int (sh + (16 : Int32))), .val (.int (3 : Int32)), s11, s12] []))
    refine own_up (fun _ kq => XS.goto X8.here hx rfl (pc0 := 262) (pc' := 72) rfl (hb hby d3_262) (by decide) (by decide) kq) ?_
    show own_Go p.tables e below _ (T8.setTop (mkF m 72 #[.val (.ref va), .val (.int (2 : Int32)), .val (.int col), .val (.int (3 : Int32)), .val (.ref ak), .val (.ref ar), .val (.ref bk), .val (.ref br), .val (.ref ct), .val (.int (sh + (16 : Int32))), .val (.int (3 : Int32)), s11, s12] []))
    exact K _ _ _ ak ar bk br (.val (.int (3 : Int32))) (s11) (s12) x r X8 e8 N8  KK ⟨_, _, _, G_ak, G_ar, G_bk, G_br, G_ct, ⟨ne_ak_ar, ne_ak_bk, ne_ak_br, ne_ak_ct, ne_ar_bk, ne_ar_br, ne_ar_ct, ne_bk_br, ne_bk_ct, ne_br_ct⟩, ⟨b_ak, b_ar, b_bk, b_br, b_ct⟩⟩ (One.val rfl) hs11 hs12 (own_skip hsn hI hc134)
  · refine own_up (fun _ kq => XS.icmpYes X8.here hx rfl (pc0 := 134) (pc' := 140) rfl (hb hby d3_134) rfl (feq hc134).2 (by decide) (by decide) kq) ?_
    show own_Go p.tables e below _ (T8.setTop (mkF m 140 #[.val (.ref va), .val (.int (2 : Int32)), .val (.int col), .val (.int (3 : Int32)), .val (.ref ak), .val (.ref ar), .val (.ref bk), .val (.ref br), .val (.ref ct), .val (.int sh), .val (.int (3 : Int32)), s11, s12] []))
    refine own_up (fun _ kq => XS.iconst X8.here hx rfl (hb hby d3_140) kq) ?_
    show own_Go p.tables e below _ (T8.setTop (mkF m 141 #[.val (.ref va), .val (.int (2 : Int32)), .val (.int col), .val (.int (3 : Int32)), .val (.ref ak), .val (.ref ar), .val (.ref bk), .val (.ref br), .val (.ref ct), .val (.int sh), .val (.int (3 : Int32)), s11, s12] [(.int (0 : Int32))]))
    refine own_up (fun _ kq => XS.istore X8.here hx rfl (hb hby d3_141) rfl (l' := #[.val (.ref va), .val (.int (2 : Int32)), .val (.int col), .val (.int (3 : Int32)), .val (.ref ak), .val (.ref ar), .val (.ref bk), .val (.ref br), .val (.ref ct), .val (.int sh), .val (.int (0 : Int32)), s11, s12]) rfl kq) ?_
    show own_Go p.tables e below _ (T8.setTop (mkF m 143 #[.val (.ref va), .val (.int (2 : Int32)), .val (.int col), .val (.int (3 : Int32)), .val (.ref ak), .val (.ref ar), .val (.ref bk), .val (.ref br), .val (.ref ct), .val (.int sh), .val (.int (0 : Int32)), s11, s12] []))
    refine own_up (fun _ kq => XS.iconst X8.here hx rfl (hb hby d3_143) kq) ?_
    show own_Go p.tables e below _ (T8.setTop (mkF m 144 #[.val (.ref va), .val (.int (2 : Int32)), .val (.int col), .val (.int (3 : Int32)), .val (.ref ak), .val (.ref ar), .val (.ref bk), .val (.ref br), .val (.ref ct), .val (.int sh), .val (.int (0 : Int32)), s11, s12] [(.int (0 : Int32))]))
    refine own_up (fun _ kq => XS.istoreS X8.here hx rfl (hb hby d3_144) rfl rfl hs11 kq) ?_
    show own_Go p.tables e below _ (T8.setTop (mkF m 146 #[.val (.ref va), .val (.int (2 : Int32)), .val (.int col), .val (.int (3 : Int32)), .val (.ref ak), .val (.ref ar), .val (.ref bk), .val (.ref br), .val (.ref ct), .val (.int sh), .val (.int (0 : Int32)), .val (.int (0 : Int32)), s12] []))
    refine own_pre (d0 := (own_dg (x 0) sh)) (d1 := (own_dg (x 1) sh)) (d2 := (own_dg (x 2) sh)) hx hZ hw hby hml hown g_ct 65536 0 (0 : Int32) (0 : Int32) _ _ _ _ (by decide) (by decide) (own_P0 _ _ _).symm X8 e8 N8 ZH (by rw [own_pf0]; exact G_ct) hs12 (fun T9 h9 l9 t12 X9 e9 N9 K9 G_ct ht12 => ?_)
    have G_ak := G_ak.keep K9 (ninS ne_ak_ct nin0)
    have G_ar := G_ar.keep K9 (ninS ne_ar_ct nin0)
    have G_bk := G_bk.keep K9 (ninS ne_bk_ct nin0)
    have G_br := G_br.keep K9 (ninS ne_br_ct nin0)
    have ZH := Nat.le_trans ZH K9.1
    have KK := KK.trans K9 (allS (Or.inl (List.mem_of_getElem? (i := 4) rfl)) all0)
    show own_Go p.tables e below _ (T9.setTop (mkF m 180 #[.val (.ref va), .val (.int (2 : Int32)), .val (.int col), .val (.int (3 : Int32)), .val (.ref ak), .val (.ref ar), .val (.ref bk), .val (.ref br), .val (.ref ct), .val (.int sh), .val (.int (own_P (own_dg (x 0) sh) (own_dg (x 1) sh) (own_dg (x 2) sh) 65536)), .val (.int (65536 : Int32)), t12] []))
    refine own_up (fun _ kq => XS.iconst X9.here hx rfl (hb hby d3_180) kq) ?_
    show own_Go p.tables e below _ (T9.setTop (mkF m 181 #[.val (.ref va), .val (.int (2 : Int32)), .val (.int col), .val (.int (3 : Int32)), .val (.ref ak), .val (.ref ar), .val (.ref bk), .val (.ref br), .val (.ref ct), .val (.int sh), .val (.int (own_P (own_dg (x 0) sh) (own_dg (x 1) sh) (own_dg (x 2) sh) 65536)), .val (.int (65536 : Int32)), t12] [(.int (0 : Int32))]))
    refine own_up (fun _ kq => XS.istore X9.here hx rfl (hb hby d3_181) rfl (l' := #[.val (.ref va), .val (.int (2 : Int32)), .val (.int col), .val (.int (3 : Int32)), .val (.ref ak), .val (.ref ar), .val (.ref bk), .val (.ref br), .val (.ref ct), .val (.int sh), .val (.int (own_P (own_dg (x 0) sh) (own_dg (x 1) sh) (own_dg (x 2) sh) 65536)), .val (.int (0 : Int32)), t12]) rfl kq) ?_
    show own_Go p.tables e below _ (T9.setTop (mkF m 183 #[.val (.ref va), .val (.int (2 : Int32)), .val (.int col), .val (.int (3 : Int32)), .val (.ref ak), .val (.ref ar), .val (.ref bk), .val (.ref br), .val (.ref ct), .val (.int sh), .val (.int (own_P (own_dg (x 0) sh) (own_dg (x 1) sh) (own_dg (x 2) sh) 65536)), .val (.int (0 : Int32)), t12] []))
    refine own_up (fun _ kq => XS.iload X9.here hx rfl (hb hby d3_183) rfl kq) ?_
    show own_Go p.tables e below _ (T9.setTop (mkF m 185 #[.val (.ref va), .val (.int (2 : Int32)), .val (.int col), .val (.int (3 : Int32)), .val (.ref ak), .val (.ref ar), .val (.ref bk), .val (.ref br), .val (.ref ct), .val (.int sh), .val (.int (own_P (own_dg (x 0) sh) (own_dg (x 1) sh) (own_dg (x 2) sh) 65536)), .val (.int (0 : Int32)), t12] [(.int (0 : Int32))]))
    refine own_up (fun _ kq => XS.iloadN X9.here hx rfl (hb hby d3_185) rfl kq) ?_
    show own_Go p.tables e below _ (T9.setTop (mkF m 186 #[.val (.ref va), .val (.int (2 : Int32)), .val (.int col), .val (.int (3 : Int32)), .val (.ref ak), .val (.ref ar), .val (.ref bk), .val (.ref br), .val (.ref ct), .val (.int sh), .val (.int (own_P (own_dg (x 0) sh) (own_dg (x 1) sh) (own_dg (x 2) sh) 65536)), .val (.int (0 : Int32)), t12] [(.int (3 : Int32)), (.int (0 : Int32))]))
    refine own_up (fun _ kq => XS.icmpNo X9.here hx rfl (hb hby d3_186) rfl (tlt (by decide : (0 : Int32) < (3 : Int32))).2.1 kq) ?_
    show own_Go p.tables e below _ (T9.setTop (mkF m 189 #[.val (.ref va), .val (.int (2 : Int32)), .val (.int col), .val (.int (3 : Int32)), .val (.ref ak), .val (.ref ar), .val (.ref bk), .val (.ref br), .val (.ref ct), .val (.int sh), .val (.int (own_P (own_dg (x 0) sh) (own_dg (x 1) sh) (own_dg (x 2) sh) 65536)), .val (.int (0 : Int32)), t12] []))
    refine own_up (fun _ kq => XS.aload X9.here hx rfl (hb hby d3_189) rfl rfl kq) ?_
    show own_Go p.tables e below _ (T9.setTop (mkF m 191 #[.val (.ref va), .val (.int (2 : Int32)), .val (.int col), .val (.int (3 : Int32)), .val (.ref ak), .val (.ref ar), .val (.ref bk), .val (.ref br), .val (.ref ct), .val (.int sh), .val (.int (own_P (own_dg (x 0) sh) (own_dg (x 1) sh) (own_dg (x 2) sh) 65536)), .val (.int (0 : Int32)), t12] [(.ref ct)]))
    refine own_up (fun _ kq => XS.aload X9.here hx rfl (hb hby d3_191) rfl rfl kq) ?_
    show own_Go p.tables e below _ (T9.setTop (mkF m 193 #[.val (.ref va), .val (.int (2 : Int32)), .val (.int col), .val (.int (3 : Int32)), .val (.ref ak), .val (.ref ar), .val (.ref bk), .val (.ref br), .val (.ref ct), .val (.int sh), .val (.int (own_P (own_dg (x 0) sh) (own_dg (x 1) sh) (own_dg (x 2) sh) 65536)), .val (.int (0 : Int32)), t12] [(.ref ak), (.ref ct)]))
    refine own_up (fun _ kq => XS.iload X9.here hx rfl (hb hby d3_193) rfl kq) ?_
    show own_Go p.tables e below _ (T9.setTop (mkF m 195 #[.val (.ref va), .val (.int (2 : Int32)), .val (.int col), .val (.int (3 : Int32)), .val (.ref ak), .val (.ref ar), .val (.ref bk), .val (.ref br), .val (.ref ct), .val (.int sh), .val (.int (own_P (own_dg (x 0) sh) (own_dg (x 1) sh) (own_dg (x 2) sh) 65536)), .val (.int (0 : Int32)), t12] [(.int (0 : Int32)), (.ref ak), (.ref ct)]))
    refine own_up (fun _ kq => own_Arf.laload G_ak X9 hx hZ e9 (by decide) (by decide) (v := (.long (x 0))) rfl (g := (mkF m 195 #[.val (.ref va), .val (.int (2 : Int32)), .val (.int col), .val (.int (3 : Int32)), .val (.ref ak), .val (.ref ar), .val (.ref bk), .val (.ref br), .val (.ref ct), .val (.int sh), .val (.int (own_P (own_dg (x 0) sh) (own_dg (x 1) sh) (own_dg (x 2) sh) 65536)), .val (.int (0 : Int32)), t12] [(.int (0 : Int32)), (.ref ak), (.ref ct)])) rfl rfl (hb hby d3_195) _ kq) ?_
    show own_Go p.tables e below _ (T9.setTop (mkF m 196 #[.val (.ref va), .val (.int (2 : Int32)), .val (.int col), .val (.int (3 : Int32)), .val (.ref ak), .val (.ref ar), .val (.ref bk), .val (.ref br), .val (.ref ct), .val (.int sh), .val (.int (own_P (own_dg (x 0) sh) (own_dg (x 1) sh) (own_dg (x 2) sh) 65536)), .val (.int (0 : Int32)), t12] [(.long (x 0)), (.ref ct)]))
    refine own_up (fun _ kq => XS.iload X9.here hx rfl (hb hby d3_196) rfl kq) ?_
    show own_Go p.tables e below _ (T9.setTop (mkF m 198 #[.val (.ref va), .val (.int (2 : Int32)), .val (.int col), .val (.int (3 : Int32)), .val (.ref ak), .val (.ref ar), .val (.ref bk), .val (.ref br), .val (.ref ct), .val (.int sh), .val (.int (own_P (own_dg (x 0) sh) (own_dg (x 1) sh) (own_dg (x 2) sh) 65536)), .val (.int (0 : Int32)), t12] [(.int sh), (.long (x 0)), (.ref ct)]))
    obtain ⟨_, _, ⟨T10, L10, k10, n10⟩, -, X10, ⟨Lc10, hQ10, l10, y10, z10⟩, st10⟩ := Jvm.LawKit.callS X9 hx (y := (⟨"com/example/ranksieve/ranksieve/model/SortedColumn", "digit", "(JI)I"⟩ : MethodName)) hown (mvT hZ (hw _ (List.mem_of_getElem? (i := 38) rfl))) (mvT hZ (hw _ (List.mem_of_getElem? (i := 39) rfl))) (mvT hZ (hw _ (List.mem_of_getElem? (i := 3) rfl))) (mvT hZ (hw _ (List.mem_of_getElem? (i := 40) rfl))) (by decide) (backOf (W := 1) (rmG l Z a0 hw [] (x 0) sh h9 n0 ZH) hZ (hw _ (List.mem_of_getElem? (i := 40) rfl)) (hw _ (List.mem_of_getElem? (i := 3) rfl)) (by decide) (by decide)) (g := (mkF m 198 #[.val (.ref va), .val (.int (2 : Int32)), .val (.int col), .val (.int (3 : Int32)), .val (.ref ak), .val (.ref ar), .val (.ref bk), .val (.ref br), .val (.ref ct), .val (.int sh), .val (.int (own_P (own_dg (x 0) sh) (own_dg (x 1) sh) (own_dg (x 2) sh) 65536)), .val (.int (0 : Int32)), t12] [(.int sh), (.long (x 0)), (.ref ct)])) rfl (by rw [hml]; rfl) (argsL := [(.long (x 0)), (.int sh)]) (rest := [(.ref ct)]) (lenOf pd_3 rfl) rfl (by show 2 * 0 + _ ≤ _; exact Nat.le_of_eq rfl) (hb hby d3_198) (fun _ _ => ⟨rfl, e9, (by decide : 5 + 0 ≤ _), (by decide : 65548 + 0 ≤ _)⟩)
    dsimp only [Pt.U, Pt.locs, Pt.cells, Pt.slots] at X10 l10 y10 z10 st10 hQ10
    subst l10 y10 z10
    obtain ⟨rfl, Nq10, e10⟩ := hQ10
    have N10 := Fr.app N9 Nq10
    refine own_up st10 ?_
    show own_Go p.tables e below _ (T10.setTop (mkF m 201 #[.val (.ref va), .val (.int (2 : Int32)), .val (.int col), .val (.int (3 : Int32)), .val (.ref ak), .val (.ref ar), .val (.ref bk), .val (.ref br), .val (.ref ct), .val (.int sh), .val (.int (own_P (own_dg (x 0) sh) (own_dg (x 1) sh) (own_dg (x 2) sh) 65536)), .val (.int (0 : Int32)), t12] [(.int (own_dg (x 0) sh)), (.ref ct)]))
    refine own_up (fun _ kq => (show Steps p.tables e below (T10.setTop (mkF m 201 #[.val (.ref va), .val (.int (2 : Int32)), .val (.int col), .val (.int (3 : Int32)), .val (.ref ak), .val (.ref ar), .val (.ref bk), .val (.ref br), .val (.ref ct), .val (.int sh), .val (.int (own_P (own_dg (x 0) sh) (own_dg (x 1) sh) (own_dg (x 2) sh) 65536)), .val (.int (0 : Int32)), t12] [(.int (own_dg (x 0) sh)), (.ref ct)])) _ from by jvm_step X10.here [X10.here.top, hx, (hb hby d3_201), Value.category]; exact kq)) ?_
    show own_Go p.tables e below _ (T10.setTop (mkF m 202 #[.val (.ref va), .val (.int (2 : Int32)), .val (.int col), .val (.int (3 : Int32)), .val (.ref ak), .val (.ref ar), .val (.ref bk), .val (.ref br), .val (.ref ct), .val (.int sh), .val (.int (own_P (own_dg (x 0) sh) (own_dg (x 1) sh) (own_dg (x 2) sh) 65536)), .val (.int (0 : Int32)), t12] [(.int (own_dg (x 0) sh)), (.ref ct), (.int (own_dg (x 0) sh)), (.ref ct)]))
    refine own_up (fun _ kq => own_Arf.iaload G_ct X10 hx hZ e10 (own_dgn _ _) (own_dgl _ _) (v := (.int ((own_pf (own_dg (x 0) sh) (own_dg (x 1) sh) (own_dg (x 2) sh) 65536) ((own_dg (x 0) sh)).toNatClampNeg))) rfl (g := (mkF m 202 #[.val (.ref va), .val (.int (2 : Int32)), .val (.int col), .val (.int (3 : Int32)), .val (.ref ak), .val (.ref ar), .val (.ref bk), .val (.ref br), .val (.ref ct), .val (.int sh), .val (.int (own_P (own_dg (x 0) sh) (own_dg (x 1) sh) (own_dg (x 2) sh) 65536)), .val (.int (0 : Int32)), t12] [(.int (own_dg (x 0) sh)), (.ref ct), (.int (own_dg (x 0) sh)), (.ref ct)])) rfl rfl (hb hby d3_202) _ kq) ?_
    show own_Go p.tables e below _ (T10.setTop (mkF m 203 #[.val (.ref va), .val (.int (2 : Int32)), .val (.int col), .val (.int (3 : Int32)), .val (.ref ak), .val (.ref ar), .val (.ref bk), .val (.ref br), .val (.ref ct), .val (.int sh), .val (.int (own_P (own_dg (x 0) sh) (own_dg (x 1) sh) (own_dg (x 2) sh) 65536)), .val (.int (0 : Int32)), t12] [(.int ((own_pf (own_dg (x 0) sh) (own_dg (x 1) sh) (own_dg (x 2) sh) 65536) ((own_dg (x 0) sh)).toNatClampNeg)), (.int (own_dg (x 0) sh)), (.ref ct)]))
    refine own_up (fun _ kq => (show Steps p.tables e below (T10.setTop (mkF m 203 #[.val (.ref va), .val (.int (2 : Int32)), .val (.int col), .val (.int (3 : Int32)), .val (.ref ak), .val (.ref ar), .val (.ref bk), .val (.ref br), .val (.ref ct), .val (.int sh), .val (.int (own_P (own_dg (x 0) sh) (own_dg (x 1) sh) (own_dg (x 2) sh) 65536)), .val (.int (0 : Int32)), t12] [(.int ((own_pf (own_dg (x 0) sh) (own_dg (x 1) sh) (own_dg (x 2) sh) 65536) ((own_dg (x 0) sh)).toNatClampNeg)), (.int (own_dg (x 0) sh)), (.ref ct)])) _ from by jvm_step X10.here [X10.here.top, hx, (hb hby d3_203), Value.category]; exact kq)) ?_
    show own_Go p.tables e below _ (T10.setTop (mkF m 204 #[.val (.ref va), .val (.int (2 : Int32)), .val (.int col), .val (.int (3 : Int32)), .val (.ref ak), .val (.ref ar), .val (.ref bk), .val (.ref br), .val (.ref ct), .val (.int sh), .val (.int (own_P (own_dg (x 0) sh) (own_dg (x 1) sh) (own_dg (x 2) sh) 65536)), .val (.int (0 : Int32)), t12] [(.int ((own_pf (own_dg (x 0) sh) (own_dg (x 1) sh) (own_dg (x 2) sh) 65536) ((own_dg (x 0) sh)).toNatClampNeg)), (.int (own_dg (x 0) sh)), (.ref ct), (.int ((own_pf (own_dg (x 0) sh) (own_dg (x 1) sh) (own_dg (x 2) sh) 65536) ((own_dg (x 0) sh)).toNatClampNeg))]))
    refine own_up (fun _ kq => XS.iconst X10.here hx rfl (hb hby d3_204) kq) ?_
    show own_Go p.tables e below _ (T10.setTop (mkF m 205 #[.val (.ref va), .val (.int (2 : Int32)), .val (.int col), .val (.int (3 : Int32)), .val (.ref ak), .val (.ref ar), .val (.ref bk), .val (.ref br), .val (.ref ct), .val (.int sh), .val (.int (own_P (own_dg (x 0) sh) (own_dg (x 1) sh) (own_dg (x 2) sh) 65536)), .val (.int (0 : Int32)), t12] [(.int (1 : Int32)), (.int ((own_pf (own_dg (x 0) sh) (own_dg (x 1) sh) (own_dg (x 2) sh) 65536) ((own_dg (x 0) sh)).toNatClampNeg)), (.int (own_dg (x 0) sh)), (.ref ct), (.int ((own_pf (own_dg (x 0) sh) (own_dg (x 1) sh) (own_dg (x 2) sh) 65536) ((own_dg (x 0) sh)).toNatClampNeg))]))
    refine own_up (fun _ kq => XS.iadd X10.here hx rfl (hb hby d3_205) rfl kq) ?_
    show own_Go p.tables e below _ (T10.setTop (mkF m 206 #[.val (.ref va), .val (.int (2 : Int32)), .val (.int col), .val (.int (3 : Int32)), .val (.ref ak), .val (.ref ar), .val (.ref bk), .val (.ref br), .val (.ref ct), .val (.int sh), .val (.int (own_P (own_dg (x 0) sh) (own_dg (x 1) sh) (own_dg (x 2) sh) 65536)), .val (.int (0 : Int32)), t12] [(.int (((own_pf (own_dg (x 0) sh) (own_dg (x 1) sh) (own_dg (x 2) sh) 65536) ((own_dg (x 0) sh)).toNatClampNeg) + (1 : Int32))), (.int (own_dg (x 0) sh)), (.ref ct), (.int ((own_pf (own_dg (x 0) sh) (own_dg (x 1) sh) (own_dg (x 2) sh) 65536) ((own_dg (x 0) sh)).toNatClampNeg))]))
    obtain ⟨cl11, Ar11, sz11, nz11, hc11⟩ := id G_ct
    obtain ⟨T11, h11, X11, e11, W11, st11⟩ := stI X10 hx hZ e10 Ar11 (j := (own_dg (x 0) sh)) (inb_of sz11 ⟨(own_dgn _ _), (own_dgl _ _)⟩) (g := (mkF m 206 #[.val (.ref va), .val (.int (2 : Int32)), .val (.int col), .val (.int (3 : Int32)), .val (.ref ak), .val (.ref ar), .val (.ref bk), .val (.ref br), .val (.ref ct), .val (.int sh), .val (.int (own_P (own_dg (x 0) sh) (own_dg (x 1) sh) (own_dg (x 2) sh) 65536)), .val (.int (0 : Int32)), t12] [(.int (((own_pf (own_dg (x 0) sh) (own_dg (x 1) sh) (own_dg (x 2) sh) 65536) ((own_dg (x 0) sh)).toNatClampNeg) + (1 : Int32))), (.int (own_dg (x 0) sh)), (.ref ct), (.int ((own_pf (own_dg (x 0) sh) (own_dg (x 1) sh) (own_dg (x 2) sh) 65536) ((own_dg (x 0) sh)).toNatClampNeg))])) rfl rfl (hb hby d3_206)
    have G_ct : own_Arf Z h11 ct .int (65536 : Int32) (fun i => .int ((own_upd (own_pf (own_dg (x 0) sh) (own_dg (x 1) sh) (own_dg (x 2) sh) 65536) (own_dg (x 0) sh) (((own_pf (own_dg (x 0) sh) (own_dg (x 1) sh) (own_dg (x 2) sh) 65536) ((own_dg (x 0) sh)).toNatClampNeg) + (1 : Int32))) i)) := own_Arf.setI G_ct W11
    have N11 := Fr.snoc X11 N10 g_ct
    have G_ak := G_ak.other W11 ne_ak_ct
    have G_ar := G_ar.other W11 ne_ar_ct
    have G_bk := G_bk.other W11 ne_bk_ct
    have G_br := G_br.other W11 ne_br_ct
    have ZH := Nat.le_trans ZH (Nat.le_of_eq W11.size.symm)
    have KK := KK.wr W11 (Or.inl (List.mem_of_getElem? (i := 4) rfl))
    refine own_up st11 ?_
    show own_Go p.tables e below _ (T11.setTop (mkF m 207 #[.val (.ref va), .val (.int (2 : Int32)), .val (.int col), .val (.int (3 : Int32)), .val (.ref ak), .val (.ref ar), .val (.ref bk), .val (.ref br), .val (.ref ct), .val (.int sh), .val (.int (own_P (own_dg (x 0) sh) (own_dg (x 1) sh) (own_dg (x 2) sh) 65536)), .val (.int (0 : Int32)), t12] [(.int ((own_pf (own_dg (x 0) sh) (own_dg (x 1) sh) (own_dg (x 2) sh) 65536) ((own_dg (x 0) sh)).toNatClampNeg))]))
    have G_ct : own_Arf Z h11 ct .int (65536 : Int32) (fun iq => .int ((own_inc (own_pf (own_dg (x 0) sh) (own_dg (x 1) sh) (own_dg (x 2) sh) 65536) (own_dg (x 0) sh)) iq)) := G_ct
    generalize hp0 : ((own_pf (own_dg (x 0) sh) (own_dg (x 1) sh) (own_dg (x 2) sh) 65536) ((own_dg (x 0) sh)).toNatClampNeg) = p0
    show own_Go p.tables e below _ (T11.setTop (mkF m 207 #[.val (.ref va), .val (.int (2 : Int32)), .val (.int col), .val (.int (3 : Int32)), .val (.ref ak), .val (.ref ar), .val (.ref bk), .val (.ref br), .val (.ref ct), .val (.int sh), .val (.int (own_P (own_dg (x 0) sh) (own_dg (x 1) sh) (own_dg (x 2) sh) 65536)), .val (.int (0 : Int32)), t12] [(.int p0)]))
    refine own_up (fun _ kq => XS.istoreS X11.here hx rfl (hb hby d3_207) rfl rfl ht12 kq) ?_
    show own_Go p.tables e below _ (T11.setTop (mkF m 209 #[.val (.ref va), .val (.int (2 : Int32)), .val (.int col), .val (.int (3 : Int32)), .val (.ref ak), .val (.ref ar), .val (.ref bk), .val (.ref br), .val (.ref ct), .val (.int sh), .val (.int (own_P (own_dg (x 0) sh) (own_dg (x 1) sh) (own_dg (x 2) sh) 65536)), .val (.int (0 : Int32)), .val (.int p0)] []))
    refine own_up (fun _ kq => XS.aload X11.here hx rfl (hb hby d3_209) rfl rfl kq) ?_
    show own_Go p.tables e below _ (T11.setTop (mkF m 211 #[.val (.ref va), .val (.int (2 : Int32)), .val (.int col), .val (.int (3 : Int32)), .val (.ref ak), .val (.ref ar), .val (.ref bk), .val (.ref br), .val (.ref ct), .val (.int sh), .val (.int (own_P (own_dg (x 0) sh) (own_dg (x 1) sh) (own_dg (x 2) sh) 65536)), .val (.int (0 : Int32)), .val (.int p0)] [(.ref bk)]))
    refine own_up (fun _ kq => XS.iload X11.here hx rfl (hb hby d3_211) rfl kq) ?_
    show own_Go p.tables e below _ (T11.setTop (mkF m 213 #[.val (.ref va), .val (.int (2 : Int32)), .val (.int col), .val (.int (3 : Int32)), .val (.ref ak), .val (.ref ar), .val (.ref bk), .val (.ref br), .val (.ref ct), .val (.int sh), .val (.int (own_P (own_dg (x 0) sh) (own_dg (x 1) sh) (own_dg (x 2) sh) 65536)), .val (.int (0 : Int32)), .val (.int p0)] [(.int p0), (.ref bk)]))
    refine own_up (fun _ kq => XS.aload X11.here hx rfl (hb hby d3_213) rfl rfl kq) ?_
    show own_Go p.tables e below _ (T11.setTop (mkF m 215 #[.val (.ref va), .val (.int (2 : Int32)), .val (.int col), .val (.int (3 : Int32)), .val (.ref ak), .val (.ref ar), .val (.ref bk), .val (.ref br), .val (.ref ct), .val (.int sh), .val (.int (own_P (own_dg (x 0) sh) (own_dg (x 1) sh) (own_dg (x 2) sh) 65536)), .val (.int (0 : Int32)), .val (.int p0)] [(.ref ak), (.int p0), (.ref bk)]))
    refine own_up (fun _ kq => XS.iload X11.here hx rfl (hb hby d3_215) rfl kq) ?_
    show own_Go p.tables e below _ (T11.setTop (mkF m 217 #[.val (.ref va), .val (.int (2 : Int32)), .val (.int col), .val (.int (3 : Int32)), .val (.ref ak), .val (.ref ar), .val (.ref bk), .val (.ref br), .val (.ref ct), .val (.int sh), .val (.int (own_P (own_dg (x 0) sh) (own_dg (x 1) sh) (own_dg (x 2) sh) 65536)), .val (.int (0 : Int32)), .val (.int p0)] [(.int (0 : Int32)), (.ref ak), (.int p0), (.ref bk)]))
    refine own_up (fun _ kq => own_Arf.laload G_ak X11 hx hZ e11 (by decide) (by decide) (v := (.long (x 0))) rfl (g := (mkF m 217 #[.val (.ref va), .val (.int (2 : Int32)), .val (.int col), .val (.int (3 : Int32)), .val (.ref ak), .val (.ref ar), .val (.ref bk), .val (.ref br), .val (.ref ct), .val (.int sh), .val (.int (own_P (own_dg (x 0) sh) (own_dg (x 1) sh) (own_dg (x 2) sh) 65536)), .val (.int (0 : Int32)), .val (.int p0)] [(.int (0 : Int32)), (.ref ak), (.int p0), (.ref bk)])) rfl rfl (hb hby d3_217) _ kq) ?_
    show own_Go p.tables e below _ (T11.setTop (mkF m 218 #[.val (.ref va), .val (.int (2 : Int32)), .val (.int col), .val (.int (3 : Int32)), .val (.ref ak), .val (.ref ar), .val (.ref bk), .val (.ref br), .val (.ref ct), .val (.int sh), .val (.int (own_P (own_dg (x 0) sh) (own_dg (x 1) sh) (own_dg (x 2) sh) 65536)), .val (.int (0 : Int32)), .val (.int p0)] [(.long (x 0)), (.int p0), (.ref bk)]))
    obtain ⟨cl12, Ar12, sz12, nz12, hc12⟩ := id G_bk
    obtain ⟨T12, h12, X12, e12, W12, st12⟩ := stJ X11 hx hZ e11 Ar12 (j := p0) (inb_of sz12 ⟨(own_b0 (own_dgN _ _) (own_dgN _ _) (own_dgN _ _) hp0).1, (own_b0 (own_dgN _ _) (own_dgN _ _) (own_dgN _ _) hp0).2⟩) (g := (mkF m 218 #[.val (.ref va), .val (.int (2 : Int32)), .val (.int col), .val (.int (3 : Int32)), .val (.ref ak), .val (.ref ar), .val (.ref bk), .val (.ref br), .val (.ref ct), .val (.int sh), .val (.int (own_P (own_dg (x 0) sh) (own_dg (x 1) sh) (own_dg (x 2) sh) 65536)), .val (.int (0 : Int32)), .val (.int p0)] [(.long (x 0)), (.int p0), (.ref bk)])) rfl rfl (hb hby d3_218)
    have G_bk : own_Arf Z h12 bk .long (3 : Int32) (fun i => .long ((own_upd x2 p0 (x 0)) i)) := own_Arf.setJ G_bk W12
    have N12 := Fr.snoc X12 N11 g_bk
    have G_ak := G_ak.other W12 ne_ak_bk
    have G_ar := G_ar.other W12 ne_ar_bk
    have G_br := G_br.other W12 (Ne.symm ne_bk_br)
    have G_ct := G_ct.other W12 (Ne.symm ne_bk_ct)
    have ZH := Nat.le_trans ZH (Nat.le_of_eq W12.size.symm)
    have KK := KK.wr W12 (Or.inl (List.mem_of_getElem? (i := 2) rfl))
    refine own_up st12 ?_
    show own_Go p.tables e below _ (T12.setTop (mkF m 219 #[.val (.ref va), .val (.int (2 : Int32)), .val (.int col), .val (.int (3 : Int32)), .val (.ref ak), .val (.ref ar), .val (.ref bk), .val (.ref br), .val (.ref ct), .val (.int sh), .val (.int (own_P (own_dg (x 0) sh) (own_dg (x 1) sh) (own_dg (x 2) sh) 65536)), .val (.int (0 : Int32)), .val (.int p0)] []))
    refine own_up (fun _ kq => XS.aload X12.here hx rfl (hb hby d3_219) rfl rfl kq) ?_
    show own_Go p.tables e below _ (T12.setTop (mkF m 221 #[.val (.ref va), .val (.int (2 : Int32)), .val (.int col), .val (.int (3 : Int32)), .val (.ref ak), .val (.ref ar), .val (.ref bk), .val (.ref br), .val (.ref ct), .val (.int sh), .val (.int (own_P (own_dg (x 0) sh) (own_dg (x 1) sh) (own_dg (x 2) sh) 65536)), .val (.int (0 : Int32)), .val (.int p0)] [(.ref br)]))
    refine own_up (fun _ kq => XS.iload X12.here hx rfl (hb hby d3_221) rfl kq) ?_
    show own_Go p.tables e below _ (T12.setTop (mkF m 223 #[.val (.ref va), .val (.int (2 : Int32)), .val (.int col), .val (.int (3 : Int32)), .val (.ref ak), .val (.ref ar), .val (.ref bk), .val (.ref br), .val (.ref ct), .val (.int sh), .val (.int (own_P (own_dg (x 0) sh) (own_dg (x 1) sh) (own_dg (x 2) sh) 65536)), .val (.int (0 : Int32)), .val (.int p0)] [(.int p0), (.ref br)]))
    refine own_up (fun _ kq => XS.aload X12.here hx rfl (hb hby d3_223) rfl rfl kq) ?_
    show own_Go p.tables e below _ (T12.setTop (mkF m 225 #[.val (.ref va), .val (.int (2 : Int32)), .val (.int col), .val (.int (3 : Int32)), .val (.ref ak), .val (.ref ar), .val (.ref bk), .val (.ref br), .val (.ref ct), .val (.int sh), .val (.int (own_P (own_dg (x 0) sh) (own_dg (x 1) sh) (own_dg (x 2) sh) 65536)), .val (.int (0 : Int32)), .val (.int p0)] [(.ref ar), (.int p0), (.ref br)]))
    refine own_up (fun _ kq => XS.iload X12.here hx rfl (hb hby d3_225) rfl kq) ?_
    show own_Go p.tables e below _ (T12.setTop (mkF m 227 #[.val (.ref va), .val (.int (2 : Int32)), .val (.int col), .val (.int (3 : Int32)), .val (.ref ak), .val (.ref ar), .val (.ref bk), .val (.ref br), .val (.ref ct), .val (.int sh), .val (.int (own_P (own_dg (x 0) sh) (own_dg (x 1) sh) (own_dg (x 2) sh) 65536)), .val (.int (0 : Int32)), .val (.int p0)] [(.int (0 : Int32)), (.ref ar), (.int p0), (.ref br)]))
    refine own_up (fun _ kq => own_Arf.iaload G_ar X12 hx hZ e12 (by decide) (by decide) (v := (.int (r 0))) rfl (g := (mkF m 227 #[.val (.ref va), .val (.int (2 : Int32)), .val (.int col), .val (.int (3 : Int32)), .val (.ref ak), .val (.ref ar), .val (.ref bk), .val (.ref br), .val (.ref ct), .val (.int sh), .val (.int (own_P (own_dg (x 0) sh) (own_dg (x 1) sh) (own_dg (x 2) sh) 65536)), .val (.int (0 : Int32)), .val (.int p0)] [(.int (0 : Int32)), (.ref ar), (.int p0), (.ref br)])) rfl rfl (hb hby d3_227) _ kq) ?_
    show own_Go p.tables e below _ (T12.setTop (mkF m 228 #[.val (.ref va), .val (.int (2 : Int32)), .val (.int col), .val (.int (3 : Int32)), .val (.ref ak), .val (.ref ar), .val (.ref bk), .val (.ref br), .val (.ref ct), .val (.int sh), .val (.int (own_P (own_dg (x 0) sh) (own_dg (x 1) sh) (own_dg (x 2) sh) 65536)), .val (.int (0 : Int32)), .val (.int p0)] [(.int (r 0)), (.int p0), (.ref br)]))
    obtain ⟨cl13, Ar13, sz13, nz13, hc13⟩ := id G_br
    obtain ⟨T13, h13, X13, e13, W13, st13⟩ := stI X12 hx hZ e12 Ar13 (j := p0) (inb_of sz13 ⟨(own_b0 (own_dgN _ _) (own_dgN _ _) (own_dgN _ _) hp0).1, (own_b0 (own_dgN _ _) (own_dgN _ _) (own_dgN _ _) hp0).2⟩) (g := (mkF m 228 #[.val (.ref va), .val (.int (2 : Int32)), .val (.int col), .val (.int (3 : Int32)), .val (.ref ak), .val (.ref ar), .val (.ref bk), .val (.ref br), .val (.ref ct), .val (.int sh), .val (.int (own_P (own_dg (x 0) sh) (own_dg (x 1) sh) (own_dg (x 2) sh) 65536)), .val (.int (0 : Int32)), .val (.int p0)] [(.int (r 0)), (.int p0), (.ref br)])) rfl rfl (hb hby d3_228)
    have G_br : own_Arf Z h13 br .int (3 : Int32) (fun i => .int ((own_upd r2 p0 (r 0)) i)) := own_Arf.setI G_br W13
    have N13 := Fr.snoc X13 N12 g_br
    have G_ak := G_ak.other W13 ne_ak_br
    have G_ar := G_ar.other W13 ne_ar_br
    have G_bk := G_bk.other W13 ne_bk_br
    have G_ct := G_ct.other W13 (Ne.symm ne_br_ct)
    have ZH := Nat.le_trans ZH (Nat.le_of_eq W13.size.symm)
    have KK := KK.wr W13 (Or.inl (List.mem_of_getElem? (i := 3) rfl))
    refine own_up st13 ?_
    show own_Go p.tables e below _ (T13.setTop (mkF m 229 #[.val (.ref va), .val (.int (2 : Int32)), .val (.int col), .val (.int (3 : Int32)), .val (.ref ak), .val (.ref ar), .val (.ref bk), .val (.ref br), .val (.ref ct), .val (.int sh), .val (.int (own_P (own_dg (x 0) sh) (own_dg (x 1) sh) (own_dg (x 2) sh) 65536)), .val (.int (0 : Int32)), .val (.int p0)] []))
    refine own_up (fun _ kq => XS.iinc X13.here hx rfl (hb hby d3_229) rfl (l' := #[.val (.ref va), .val (.int (2 : Int32)), .val (.int col), .val (.int (3 : Int32)), .val (.ref ak), .val (.ref ar), .val (.ref bk), .val (.ref br), .val (.ref ct), .val (.int sh), .val (.int (own_P (own_dg (x 0) sh) (own_dg (x 1) sh) (own_dg (x 2) sh) 65536)), .val (.int (1 : Int32)), .val (.int p0)]) rfl kq) ?_
    show own_Go p.tables e below _ (T13.setTop (mkF m 232 #[.val (.ref va), .val (.int (2 : Int32)), .val (.int col), .val (.int (3 : Int32)), .val (.ref ak), .val (.ref ar), .val (.ref bk), .val (.ref br), .val (.ref ct), .val (.int sh), .val (.int (own_P (own_dg (x 0) sh) (own_dg (x 1) sh) (own_dg (x 2) sh) 65536)), .val (.int (1 : Int32)), .val (.int p0)] []))
    refine own_up (fun _ kq => XS.goto X13.here hx rfl (pc0 := 232) (pc' := 183) rfl (hb hby d3_232) (by decide) (by decide) kq) ?_
    show own_Go p.tables e below _ (T13.setTop (mkF m 183 #[.val (.ref va), .val (.int (2 : Int32)), .val (.int col), .val (.int (3 : Int32)), .val (.ref ak), .val (.ref ar), .val (.ref bk), .val (.ref br), .val (.ref ct), .val (.int sh), .val (.int (own_P (own_dg (x 0) sh) (own_dg (x 1) sh) (own_dg (x 2) sh) 65536)), .val (.int (1 : Int32)), .val (.int p0)] []))
    refine own_up (fun _ kq => XS.iload X13.here hx rfl (hb hby d3_183) rfl kq) ?_
    show own_Go p.tables e below _ (T13.setTop (mkF m 185 #[.val (.ref va), .val (.int (2 : Int32)), .val (.int col), .val (.int (3 : Int32)), .val (.ref ak), .val (.ref ar), .val (.ref bk), .val (.ref br), .val (.ref ct), .val (.int sh), .val (.int (own_P (own_dg (x 0) sh) (own_dg (x 1) sh) (own_dg (x 2) sh) 65536)), .val (.int (1 : Int32)), .val (.int p0)] [(.int (1 : Int32))]))
    refine own_up (fun _ kq => XS.iloadN X13.here hx rfl (hb hby d3_185) rfl kq) ?_
    show own_Go p.tables e below _ (T13.setTop (mkF m 186 #[.val (.ref va), .val (.int (2 : Int32)), .val (.int col), .val (.int (3 : Int32)), .val (.ref ak), .val (.ref ar), .val (.ref bk), .val (.ref br), .val (.ref ct), .val (.int sh), .val (.int (own_P (own_dg (x 0) sh) (own_dg (x 1) sh) (own_dg (x 2) sh) 65536)), .val (.int (1 : Int32)), .val (.int p0)] [(.int (3 : Int32)), (.int (1 : Int32))]))
    refine own_up (fun _ kq => XS.icmpNo X13.here hx rfl (hb hby d3_186) rfl (tlt (by decide : (1 : Int32) < (3 : Int32))).2.1 kq) ?_
    show own_Go p.tables e below _ (T13.setTop (mkF m 189 #[.val (.ref va), .val (.int (2 : Int32)), .val (.int col), .val (.int (3 : Int32)), .val (.ref ak), .val (.ref ar), .val (.ref bk), .val (.ref br), .val (.ref ct), .val (.int sh), .val (.int (own_P (own_dg (x 0) sh) (own_dg (x 1) sh) (own_dg (x 2) sh) 65536)), .val (.int (1 : Int32)), .val (.int p0)] []))
    refine own_up (fun _ kq => XS.aload X13.here hx rfl (hb hby d3_189) rfl rfl kq) ?_
    show own_Go p.tables e below _ (T13.setTop (mkF m 191 #[.val (.ref va), .val (.int (2 : Int32)), .val (.int col), .val (.int (3 : Int32)), .val (.ref ak), .val (.ref ar), .val (.ref bk), .val (.ref br), .val (.ref ct), .val (.int sh), .val (.int (own_P (own_dg (x 0) sh) (own_dg (x 1) sh) (own_dg (x 2) sh) 65536)), .val (.int (1 : Int32)), .val (.int p0)] [(.ref ct)]))
    refine own_up (fun _ kq => XS.aload X13.here hx rfl (hb hby d3_191) rfl rfl kq) ?_
    show own_Go p.tables e below _ (T13.setTop (mkF m 193 #[.val (.ref va), .val (.int (2 : Int32)), .val (.int col), .val (.int (3 : Int32)), .val (.ref ak), .val (.ref ar), .val (.ref bk), .val (.ref br), .val (.ref ct), .val (.int sh), .val (.int (own_P (own_dg (x 0) sh) (own_dg (x 1) sh) (own_dg (x 2) sh) 65536)), .val (.int (1 : Int32)), .val (.int p0)] [(.ref ak), (.ref ct)]))
    refine own_up (fun _ kq => XS.iload X13.here hx rfl (hb hby d3_193) rfl kq) ?_
    show own_Go p.tables e below _ (T13.setTop (mkF m 195 #[.val (.ref va), .val (.int (2 : Int32)), .val (.int col), .val (.int (3 : Int32)), .val (.ref ak), .val (.ref ar), .val (.ref bk), .val (.ref br), .val (.ref ct), .val (.int sh), .val (.int (own_P (own_dg (x 0) sh) (own_dg (x 1) sh) (own_dg (x 2) sh) 65536)), .val (.int (1 : Int32)), .val (.int p0)] [(.int (1 : Int32)), (.ref ak), (.ref ct)]))
    refine own_up (fun _ kq => own_Arf.laload G_ak X13 hx hZ e13 (by decide) (by decide) (v := (.long (x 1))) rfl (g := (mkF m 195 #[.val (.ref va), .val (.int (2 : Int32)), .val (.int col), .val (.int (3 : Int32)), .val (.ref ak), .val (.ref ar), .val (.ref bk), .val (.ref br), .val (.ref ct), .val (.int sh), .val (.int (own_P (own_dg (x 0) sh) (own_dg (x 1) sh) (own_dg (x 2) sh) 65536)), .val (.int (1 : Int32)), .val (.int p0)] [(.int (1 : Int32)), (.ref ak), (.ref ct)])) rfl rfl (hb hby d3_195) _ kq) ?_
    show own_Go p.tables e below _ (T13.setTop (mkF m 196 #[.val (.ref va), .val (.int (2 : Int32)), .val (.int col), .val (.int (3 : Int32)), .val (.ref ak), .val (.ref ar), .val (.ref bk), .val (.ref br), .val (.ref ct), .val (.int sh), .val (.int (own_P (own_dg (x 0) sh) (own_dg (x 1) sh) (own_dg (x 2) sh) 65536)), .val (.int (1 : Int32)), .val (.int p0)] [(.long (x 1)), (.ref ct)]))
    refine own_up (fun _ kq => XS.iload X13.here hx rfl (hb hby d3_196) rfl kq) ?_
    show own_Go p.tables e below _ (T13.setTop (mkF m 198 #[.val (.ref va), .val (.int (2 : Int32)), .val (.int col), .val (.int (3 : Int32)), .val (.ref ak), .val (.ref ar), .val (.ref bk), .val (.ref br), .val (.ref ct), .val (.int sh), .val (.int (own_P (own_dg (x 0) sh) (own_dg (x 1) sh) (own_dg (x 2) sh) 65536)), .val (.int (1 : Int32)), .val (.int p0)] [(.int sh), (.long (x 1)), (.ref ct)]))
    obtain ⟨_, _, ⟨T14, L14, k14, n14⟩, -, X14, ⟨Lc14, hQ14, l14, y14, z14⟩, st14⟩ := Jvm.LawKit.callS X13 hx (y := (⟨"com/example/ranksieve/ranksieve/model/SortedColumn", "digit", "(JI)I"⟩ : MethodName)) hown (mvT hZ (hw _ (List.mem_of_getElem? (i := 38) rfl))) (mvT hZ (hw _ (List.mem_of_getElem? (i := 39) rfl))) (mvT hZ (hw _ (List.mem_of_getElem? (i := 3) rfl))) (mvT hZ (hw _ (List.mem_of_getElem? (i := 40) rfl))) (by decide) (backOf (W := 1) (rmG l Z a0 hw [] (x 1) sh h13 n0 ZH) hZ (hw _ (List.mem_of_getElem? (i := 40) rfl)) (hw _ (List.mem_of_getElem? (i := 3) rfl)) (by decide) (by decide)) (g := (mkF m 198 #[.val (.ref va), .val (.int (2 : Int32)), .val (.int col), .val (.int (3 : Int32)), .val (.ref ak), .val (.ref ar), .val (.ref bk), .val (.ref br), .val (.ref ct), .val (.int sh), .val (.int (own_P (own_dg (x 0) sh) (own_dg (x 1) sh) (own_dg (x 2) sh) 65536)), .val (.int (1 : Int32)), .val (.int p0)] [(.int sh), (.long (x 1)), (.ref ct)])) rfl (by rw [hml]; rfl) (argsL := [(.long (x 1)), (.int sh)]) (rest := [(.ref ct)]) (lenOf pd_3 rfl) rfl (by show 2 * 0 + _ ≤ _; exact Nat.le_of_eq rfl) (hb hby d3_198) (fun _ _ => ⟨rfl, e13, (by decide : 5 + 0 ≤ _), (by decide : 65548 + 0 ≤ _)⟩)
    dsimp only [Pt.U, Pt.locs, Pt.cells, Pt.slots] at X14 l14 y14 z14 st14 hQ14
    subst l14 y14 z14
    obtain ⟨rfl, Nq14, e14⟩ := hQ14
    have N14 := Fr.app N13 Nq14
    refine own_up st14 ?_
    show own_Go p.tables e below _ (T14.setTop (mkF m 201 #[.val (.ref va), .val (.int (2 : Int32)), .val (.int col), .val (.int (3 : Int32)), .val (.ref ak), .val (.ref ar), .val (.ref bk), .val (.ref br), .val (.ref ct), .val (.int sh), .val (.int (own_P (own_dg (x 0) sh) (own_dg (x 1) sh) (own_dg (x 2) sh) 65536)), .val (.int (1 : Int32)), .val (.int p0)] [(.int (own_dg (x 1) sh)), (.ref ct)]))
    refine own_up (fun _ kq => (show Steps p.tables e below (T14.setTop (mkF m 201 #[.val (.ref va), .val (.int (2 : Int32)), .val (.int col), .val (.int (3 : Int32)), .val (.ref ak), .val (.ref ar), .val (.ref bk), .val (.ref br), .val (.ref ct), .val (.int sh), .val (.int (own_P (own_dg (x 0) sh) (own_dg (x 1) sh) (own_dg (x 2) sh) 65536)), .val (.int (1 : Int32)), .val (.int p0)] [(.int (own_dg (x 1) sh)), (.ref ct)])) _ from by jvm_step X14.here [X14.here.top, hx, (hb hby d3_201), Value.category]; exact kq)) ?_
    show own_Go p.tables e below _ (T14.setTop (mkF m 202 #[.val (.ref va), .val (.int (2 : Int32)), .val (.int col), .val (.int (3 : Int32)), .val (.ref ak), .val (.ref ar), .val (.ref bk), .val (.ref br), .val (.ref ct), .val (.int sh), .val (.int (own_P (own_dg (x 0) sh) (own_dg (x 1) sh) (own_dg (x 2) sh) 65536)), .val (.int (1 : Int32)), .val (.int p0)] [(.int (own_dg (x 1) sh)), (.ref ct), (.int (own_dg (x 1) sh)), (.ref ct)]))
    refine own_up (fun _ kq => own_Arf.iaload G_ct X14 hx hZ e14 (own_dgn _ _) (own_dgl _ _) (v := (.int ((own_inc (own_pf (own_dg (x 0) sh) (own_dg (x 1) sh) (own_dg (x 2) sh) 65536) (own_dg (x 0) sh)) ((own_dg (x 1) sh)).toNatClampNeg))) rfl (g := (mkF m 202 #[.val (.ref va), .val (.int (2 : Int32)), .val (.int col), .val (.int (3 : Int32)), .val (.ref ak), .val (.ref ar), .val (.ref bk), .val (.ref br), .val (.ref ct), .val (.int sh), .val (.int (own_P (own_dg (x 0) sh) (own_dg (x 1) sh) (own_dg (x 2) sh) 65536)), .val (.int (1 : Int32)), .val (.int p0)] [(.int (own_dg (x 1) sh)), (.ref ct), (.int (own_dg (x 1) sh)), (.ref ct)])) rfl rfl (hb hby d3_202) _ kq) ?_
    show own_Go p.tables e below _ (T14.setTop (mkF m 203 #[.val (.ref va), .val (.int (2 : Int32)), .val (.int col), .val (.int (3 : Int32)), .val (.ref ak), .val (.ref ar), .val (.ref bk), .val (.ref br), .val (.ref ct), .val (.int sh), .val (.int (own_P (own_dg (x 0) sh) (own_dg (x 1) sh) (own_dg (x 2) sh) 65536)), .val (.int (1 : Int32)), .val (.int p0)] [(.int ((own_inc (own_pf (own_dg (x 0) sh) (own_dg (x 1) sh) (own_dg (x 2) sh) 65536) (own_dg (x 0) sh)) ((own_dg (x 1) sh)).toNatClampNeg)), (.int (own_dg (x 1) sh)), (.ref ct)]))
    refine own_up (fun _ kq => (show Steps p.tables e below (T14.setTop (mkF m 203 #[.val (.ref va), .val (.int (2 : Int32)), .val (.int col), .val (.int (3 : Int32)), .val (.ref ak), .val (.ref ar), .val (.ref bk), .val (.ref br), .val (.ref ct), .val (.int sh), .val (.int (own_P (own_dg (x 0) sh) (own_dg (x 1) sh) (own_dg (x 2) sh) 65536)), .val (.int (1 : Int32)), .val (.int p0)] [(.int ((own_inc (own_pf (own_dg (x 0) sh) (own_dg (x 1) sh) (own_dg (x 2) sh) 65536) (own_dg (x 0) sh)) ((own_dg (x 1) sh)).toNatClampNeg)), (.int (own_dg (x 1) sh)), (.ref ct)])) _ from by jvm_step X14.here [X14.here.top, hx, (hb hby d3_203), Value.category]; exact kq)) ?_
    show own_Go p.tables e below _ (T14.setTop (mkF m 204 #[.val (.ref va), .val (.int (2 : Int32)), .val (.int col), .val (.int (3 : Int32)), .val (.ref ak), .val (.ref ar), .val (.ref bk), .val (.ref br), .val (.ref ct), .val (.int sh), .val (.int (own_P (own_dg (x 0) sh) (own_dg (x 1) sh) (own_dg (x 2) sh) 65536)), .val (.int (1 : Int32)), .val (.int p0)] [(.int ((own_inc (own_pf (own_dg (x 0) sh) (own_dg (x 1) sh) (own_dg (x 2) sh) 65536) (own_dg (x 0) sh)) ((own_dg (x 1) sh)).toNatClampNeg)), (.int (own_dg (x 1) sh)), (.ref ct), (.int ((own_inc (own_pf (own_dg (x 0) sh) (own_dg (x 1) sh) (own_dg (x 2) sh) 65536) (own_dg (x 0) sh)) ((own_dg (x 1) sh)).toNatClampNeg))]))
    refine own_up (fun _ kq => XS.iconst X14.here hx rfl (hb hby d3_204) kq) ?_
    show own_Go p.tables e below _ (T14.setTop (mkF m 205 #[.val (.ref va), .val (.int (2 : Int32)), .val (.int col), .val (.int (3 : Int32)), .val (.ref ak), .val (.ref ar), .val (.ref bk), .val (.ref br), .val (.ref ct), .val (.int sh), .val (.int (own_P (own_dg (x 0) sh) (own_dg (x 1) sh) (own_dg (x 2) sh) 65536)), .val (.int (1 : Int32)), .val (.int p0)] [(.int (1 : Int32)), (.int ((own_inc (own_pf (own_dg (x 0) sh) (own_dg (x 1) sh) (own_dg (x 2) sh) 65536) (own_dg (x 0) sh)) ((own_dg (x 1) sh)).toNatClampNeg)), (.int (own_dg (x 1) sh)), (.ref ct), (.int ((own_inc (own_pf (own_dg (x 0) sh) (own_dg (x 1) sh) (own_dg (x 2) sh) 65536) (own_dg (x 0) sh)) ((own_dg (x 1) sh)).toNatClampNeg))]))
    refine own_up (fun _ kq => XS.iadd X14.here hx rfl (hb hby d3_205) rfl kq) ?_
    show own_Go p.tables e below _ (T14.setTop (mkF m 206 #[.val (.ref va), .val (.int (2 : Int32)), .val (.int col), .val (.int (3 : Int32)), .val (.ref ak), .val (.ref ar), .val (.ref bk), .val (.ref br), .val (.ref ct), .val (.int sh), .val (.int (own_P (own_dg (x 0) sh) (own_dg (x 1) sh) (own_dg (x 2) sh) 65536)), .val (.int (1 : Int32)), .val (.int p0)] [(.int (((own_inc (own_pf (own_dg (x 0) sh) (own_dg (x 1) sh) (own_dg (x 2) sh) 65536) (own_dg (x 0) sh)) ((own_dg (x 1) sh)).toNatClampNeg) + (1 : Int32))), (.int (own_dg (x 1) sh)), (.ref ct), (.int ((own_inc (own_pf (own_dg (x 0) sh) (own_dg (x 1) sh) (own_dg (x 2) sh) 65536) (own_dg (x 0) sh)) ((own_dg (x 1) sh)).toNatClampNeg))]))
    obtain ⟨cl15, Ar15, sz15, nz15, hc15⟩ := id G_ct
    obtain ⟨T15, h15, X15, e15, W15, st15⟩ := stI X14 hx hZ e14 Ar15 (j := (own_dg (x 1) sh)) (inb_of sz15 ⟨(own_dgn _ _), (own_dgl _ _)⟩) (g := (mkF m 206 #[.val (.ref va), .val (.int (2 : Int32)), .val (.int col), .val (.int (3 : Int32)), .val (.ref ak), .val (.ref ar), .val (.ref bk), .val (.ref br), .val (.ref ct), .val (.int sh), .val (.int (own_P (own_dg (x 0) sh) (own_dg (x 1) sh) (own_dg (x 2) sh) 65536)), .val (.int (1 : Int32)), .val (.int p0)] [(.int (((own_inc (own_pf (own_dg (x 0) sh) (own_dg (x 1) sh) (own_dg (x 2) sh) 65536) (own_dg (x 0) sh)) ((own_dg (x 1) sh)).toNatClampNeg) + (1 : Int32))), (.int (own_dg (x 1) sh)), (.ref ct), (.int ((own_inc (own_pf (own_dg (x 0) sh) (own_dg (x 1) sh) (own_dg (x 2) sh) 65536) (own_dg (x 0) sh)) ((own_dg (x 1) sh)).toNatClampNeg))])) rfl rfl (hb hby d3_206)
    have G_ct : own_Arf Z h15 ct .int (65536 : Int32) (fun i => .int ((own_upd (own_inc (own_pf (own_dg (x 0) sh) (own_dg (x 1) sh) (own_dg (x 2) sh) 65536) (own_dg (x 0) sh)) (own_dg (x 1) sh) (((own_inc (own_pf (own_dg (x 0) sh) (own_dg (x 1) sh) (own_dg (x 2) sh) 65536) (own_dg (x 0) sh)) ((own_dg (x 1) sh)).toNatClampNeg) + (1 : Int32))) i)) := own_Arf.setI G_ct W15
    have N15 := Fr.snoc X15 N14 g_ct
    have G_ak := G_ak.other W15 ne_ak_ct
    have G_ar := G_ar.other W15 ne_ar_ct
    have G_bk := G_bk.other W15 ne_bk_ct
    have G_br := G_br.other W15 ne_br_ct
    have ZH := Nat.le_trans ZH (Nat.le_of_eq W15.size.symm)
    have KK := KK.wr W15 (Or.inl (List.mem_of_getElem? (i := 4) rfl))
    refine own_up st15 ?_
    show own_Go p.tables e below _ (T15.setTop (mkF m 207 #[.val (.ref va), .val (.int (2 : Int32)), .val (.int col), .val (.int (3 : Int32)), .val (.ref ak), .val (.ref ar), .val (.ref bk), .val (.ref br), .val (.ref ct), .val (.int sh), .val (.int (own_P (own_dg (x 0) sh) (own_dg (x 1) sh) (own_dg (x 2) sh) 65536)), .val (.int (1 : Int32)), .val (.int p0)] [(.int ((own_inc (own_pf (own_dg (x 0) sh) (own_dg (x 1) sh) (own_dg (x 2) sh) 65536) (own_dg (x 0) sh)) ((own_dg (x 1) sh)).toNatClampNeg))]))
    have G_ct : own_Arf Z h15 ct .int (65536 : Int32) (fun iq => .int ((own_inc (own_inc (own_pf (own_dg (x 0) sh) (own_dg (x 1) sh) (own_dg (x 2) sh) 65536) (own_dg (x 0) sh)) (own_dg (x 1) sh)) iq)) := G_ct
    generalize hp1 : ((own_inc (own_pf (own_dg (x 0) sh) (own_dg (x 1) sh) (own_dg (x 2) sh) 65536) (own_dg (x 0) sh)) ((own_dg (x 1) sh)).toNatClampNeg) = p1
    show own_Go p.tables e below _ (T15.setTop (mkF m 207 #[.val (.ref va), .val (.int (2 : Int32)), .val (.int col), .val (.int (3 : Int32)), .val (.ref ak), .val (.ref ar), .val (.ref bk), .val (.ref br), .val (.ref ct), .val (.int sh), .val (.int (own_P (own_dg (x 0) sh) (own_dg (x 1) sh) (own_dg (x 2) sh) 65536)), .val (.int (1 : Int32)), .val (.int p0)] [(.int p1)]))
    refine own_up (fun _ kq => XS.istore X15.here hx rfl (hb hby d3_207) rfl (l' := #[.val (.ref va), .val (.int (2 : Int32)), .val (.int col), .val (.int (3 : Int32)), .val (.ref ak), .val (.ref ar), .val (.ref bk), .val (.ref br), .val (.ref ct), .val (.int sh), .val (.int (own_P (own_dg (x 0) sh) (own_dg (x 1) sh) (own_dg (x 2) sh) 65536)), .val (.int (1 : Int32)), .val (.int p1)]) rfl kq) ?_
    show own_Go p.tables e below _ (T15.setTop (mkF m 209 #[.val (.ref va), .val (.int (2 : Int32)), .val (.int col), .val (.int (3 : Int32)), .val (.ref ak), .val (.ref ar), .val (.ref bk), .val (.ref br), .val (.ref ct), .val (.int sh), .val (.int (own_P (own_dg (x 0) sh) (own_dg (x 1) sh) (own_dg (x 2) sh) 65536)), .val (.int (1 : Int32)), .val (.int p1)] []))
    refine own_up (fun _ kq => XS.aload X15.here hx rfl (hb hby d3_209) rfl rfl kq) ?_
    show own_Go p.tables e below _ (T15.setTop (mkF m 211 #[.val (.ref va), .val (.int (2 : Int32)), .val (.int col), .val (.int (3 : Int32)), .val (.ref ak), .val (.ref ar), .val (.ref bk), .val (.ref br), .val (.ref ct), .val (.int sh), .val (.int (own_P (own_dg (x 0) sh) (own_dg (x 1) sh) (own_dg (x 2) sh) 65536)), .val (.int (1 : Int32)), .val (.int p1)] [(.ref bk)]))
    refine own_up (fun _ kq => XS.iload X15.here hx rfl (hb hby d3_211) rfl kq) ?_
    show own_Go p.tables e below _ (T15.setTop (mkF m 213 #[.val (.ref va), .val (.int (2 : Int32)), .val (.int col), .val (.int (3 : Int32)), .val (.ref ak), .val (.ref ar), .val (.ref bk), .val (.ref br), .val (.ref ct), .val (.int sh), .val (.int (own_P (own_dg (x 0) sh) (own_dg (x 1) sh) (own_dg (x 2) sh) 65536)), .val (.int (1 : Int32)), .val (.int p1)] [(.int p1), (.ref bk)]))
    refine own_up (fun _ kq => XS.aload X15.here hx rfl (hb hby d3_213) rfl rfl kq) ?_
    show own_Go p.tables e below _ (T15.setTop (mkF m 215 #[.val (.ref va), .val (.int (2 : Int32)), .val (.int col), .val (.int (3 : Int32)), .val (.ref ak), .val (.ref ar), .val (.ref bk), .val (.ref br), .val (.ref ct), .val (.int sh), .val (.int (own_P (own_dg (x 0) sh) (own_dg (x 1) sh) (own_dg (x 2) sh) 65536)), .val (.int (1 : Int32)), .val (.int p1)] [(.ref ak), (.int p1), (.ref bk)]))
    refine own_up (fun _ kq => XS.iload X15.here hx rfl (hb hby d3_215) rfl kq) ?_
    show own_Go p.tables e below _ (T15.setTop (mkF m 217 #[.val (.ref va), .val (.int (2 : Int32)), .val (.int col), .val (.int (3 : Int32)), .val (.ref ak), .val (.ref ar), .val (.ref bk), .val (.ref br), .val (.ref ct), .val (.int sh), .val (.int (own_P (own_dg (x 0) sh) (own_dg (x 1) sh) (own_dg (x 2) sh) 65536)), .val (.int (1 : Int32)), .val (.int p1)] [(.int (1 : Int32)), (.ref ak), (.int p1), (.ref bk)]))
    refine own_up (fun _ kq => own_Arf.laload G_ak X15 hx hZ e15 (by decide) (by decide) (v := (.long (x 1))) rfl (g := (mkF m 217 #[.val (.ref va), .val (.int (2 : Int32)), .val (.int col), .val (.int (3 : Int32)), .val (.ref ak), .val (.ref ar), .val (.ref bk), .val (.ref br), .val (.ref ct), .val (.int sh), .val (.int (own_P (own_dg (x 0) sh) (own_dg (x 1) sh) (own_dg (x 2) sh) 65536)), .val (.int (1 : Int32)), .val (.int p1)] [(.int (1 : Int32)), (.ref ak), (.int p1), (.ref bk)])) rfl rfl (hb hby d3_217) _ kq) ?_
    show own_Go p.tables e below _ (T15.setTop (mkF m 218 #[.val (.ref va), .val (.int (2 : Int32)), .val (.int col), .val (.int (3 : Int32)), .val (.ref ak), .val (.ref ar), .val (.ref bk), .val (.ref br), .val (.ref ct), .val (.int sh), .val (.int (own_P (own_dg (x 0) sh) (own_dg (x 1) sh) (own_dg (x 2) sh) 65536)), .val (.int (1 : Int32)), .val (.int p1)] [(.long (x 1)), (.int p1), (.ref bk)]))
    obtain ⟨cl16, Ar16, sz16, nz16, hc16⟩ := id G_bk
    obtain ⟨T16, h16, X16, e16, W16, st16⟩ := stJ X15 hx hZ e15 Ar16 (j := p1) (inb_of sz16 ⟨(own_b1 (own_dgN _ _) (own_dgN _ _) (own_dgN _ _) hp1).1, (own_b1 (own_dgN _ _) (own_dgN _ _) (own_dgN _ _) hp1).2⟩) (g := (mkF m 218 #[.val (.ref va), .val (.int (2 : Int32)), .val (.int col), .val (.int (3 : Int32)), .val (.ref ak), .val (.ref ar), .val (.ref bk), .val (.ref br), .val (.ref ct), .val (.int sh), .val (.int (own_P (own_dg (x 0) sh) (own_dg (x 1) sh) (own_dg (x 2) sh) 65536)), .val (.int (1 : Int32)), .val (.int p1)] [(.long (x 1)), (.int p1), (.ref bk)])) rfl rfl (hb hby d3_218)
    have G_bk : own_Arf Z h16 bk .long (3 : Int32) (fun i => .long ((own_upd (own_upd x2 p0 (x 0)) p1 (x 1)) i)) := own_Arf.setJ G_bk W16
    have N16 := Fr.snoc X16 N15 g_bk
    have G_ak := G_ak.other W16 ne_ak_bk
    have G_ar := G_ar.other W16 ne_ar_bk
    have G_br := G_br.other W16 (Ne.symm ne_bk_br)
    have G_ct := G_ct.other W16 (Ne.symm ne_bk_ct)
    have ZH := Nat.le_trans ZH (Nat.le_of_eq W16.size.symm)
    have KK := KK.wr W16 (Or.inl (List.mem_of_getElem? (i := 2) rfl))
    refine own_up st16 ?_
    show own_Go p.tables e below _ (T16.setTop (mkF m 219 #[.val (.ref va), .val (.int (2 : Int32)), .val (.int col), .val (.int (3 : Int32)), .val (.ref ak), .val (.ref ar), .val (.ref bk), .val (.ref br), .val (.ref ct), .val (.int sh), .val (.int (own_P (own_dg (x 0) sh) (own_dg (x 1) sh) (own_dg (x 2) sh) 65536)), .val (.int (1 : Int32)), .val (.int p1)] []))
    refine own_up (fun _ kq => XS.aload X16.here hx rfl (hb hby d3_219) rfl rfl kq) ?_
    show own_Go p.tables e below _ (T16.setTop (mkF m 221 #[.val (.ref va), .val (.int (2 : Int32)), .val (.int col), .val (.int (3 : Int32)), .val (.ref ak), .val (.ref ar), .val (.ref bk), .val (.ref br), .val (.ref ct), .val (.int sh), .val (.int (own_P (own_dg (x 0) sh) (own_dg (x 1) sh) (own_dg (x 2) sh) 65536)), .val (.int (1 : Int32)), .val (.int p1)] [(.ref br)]))
    refine own_up (fun _ kq => XS.iload X16.here hx rfl (hb hby d3_221) rfl kq) ?_
    show own_Go p.tables e below _ (T16.setTop (mkF m 223 #[.val (.ref va), .val (.int (2 : Int32)), .val (.int col), .val (.int (3 : Int32)), .val (.ref ak), .val (.ref ar), .val (.ref bk), .val (.ref br), .val (.ref ct), .val (.int sh), .val (.int (own_P (own_dg (x 0) sh) (own_dg (x 1) sh) (own_dg (x 2) sh) 65536)), .val (.int (1 : Int32)), .val (.int p1)] [(.int p1), (.ref br)]))
    refine own_up (fun _ kq => XS.aload X16.here hx rfl (hb hby d3_223) rfl rfl kq) ?_
    show own_Go p.tables e below _ (T16.setTop (mkF m 225 #[.val (.ref va), .val (.int (2 : Int32)), .val (.int col), .val (.int (3 : Int32)), .val (.ref ak), .val (.ref ar), .val (.ref bk), .val (.ref br), .val (.ref ct), .val (.int sh), .val (.int (own_P (own_dg (x 0) sh) (own_dg (x 1) sh) (own_dg (x 2) sh) 65536)), .val (.int (1 : Int32)), .val (.int p1)] [(.ref ar), (.int p1), (.ref br)]))
    refine own_up (fun _ kq => XS.iload X16.here hx rfl (hb hby d3_225) rfl kq) ?_
    show own_Go p.tables e below _ (T16.setTop (mkF m 227 #[.val (.ref va), .val (.int (2 : Int32)), .val (.int col), .val (.int (3 : Int32)), .val (.ref ak), .val (.ref ar), .val (.ref bk), .val (.ref br), .val (.ref ct), .val (.int sh), .val (.int (own_P (own_dg (x 0) sh) (own_dg (x 1) sh) (own_dg (x 2) sh) 65536)), .val (.int (1 : Int32)), .val (.int p1)] [(.int (1 : Int32)), (.ref ar), (.int p1), (.ref br)]))
    refine own_up (fun _ kq => own_Arf.iaload G_ar X16 hx hZ e16 (by decide) (by decide) (v := (.int (r 1))) rfl (g := (mkF m 227 #[.val (.ref va), .val (.int (2 : Int32)), .val (.int col), .val (.int (3 : Int32)), .val (.ref ak), .val (.ref ar), .val (.ref bk), .val (.ref br), .val (.ref ct), .val (.int sh), .val (.int (own_P (own_dg (x 0) sh) (own_dg (x 1) sh) (own_dg (x 2) sh) 65536)), .val (.int (1 : Int32)), .val (.int p1)] [(.int (1 : Int32)), (.ref ar), (.int p1), (.ref br)])) rfl rfl (hb hby d3_227) _ kq) ?_
    show own_Go p.tables e below _ (T16.setTop (mkF m 228 #[.val (.ref va), .val (.int (2 : Int32)), .val (.int col), .val (.int (3 : Int32)), .val (.ref ak), .val (.ref ar), .val (.ref bk), .val (.ref br), .val (.ref ct), .val (.int sh), .val (.int (own_P (own_dg (x 0) sh) (own_dg (x 1) sh) (own_dg (x 2) sh) 65536)), .val (.int (1 : Int32)), .val (.int p1)] [(.int (r 1)), (.int p1), (.ref br)]))
    obtain ⟨cl17, Ar17, sz17, nz17, hc17⟩ := id G_br
    obtain ⟨T17, h17, X17, e17, W17, st17⟩ := stI X16 hx hZ e16 Ar17 (j := p1) (inb_of sz17 ⟨(own_b1 (own_dgN _ _) (own_dgN _ _) (own_dgN _ _) hp1).1, (own_b1 (own_dgN _ _) (own_dgN _ _) (own_dgN _ _) hp1).2⟩) (g := (mkF m 228 #[.val (.ref va), .val (.int (2 : Int32)), .val (.int col), .val (.int (3 : Int32)), .val (.ref ak), .val (.ref ar), .val (.ref bk), .val (.ref br), .val (.ref ct), .val (.int sh), .val (.int (own_P (own_dg (x 0) sh) (own_dg (x 1) sh) (own_dg (x 2) sh) 65536)), .val (.int (1 : Int32)), .val (.int p1)] [(.int (r 1)), (.int p1), (.ref br)])) rfl rfl (hb hby d3_228)
    have G_br : own_Arf Z h17 br .int (3 : Int32) (fun i => .int ((own_upd (own_upd r2 p0 (r 0)) p1 (r 1)) i)) := own_Arf.setI G_br W17
    have N17 := Fr.snoc X17 N16 g_br
    have G_ak := G_ak.other W17 ne_ak_br
    have G_ar := G_ar.other W17 ne_ar_br
    have G_bk := G_bk.other W17 ne_bk_br
    have G_ct := G_ct.other W17 (Ne.symm ne_br_ct)
    have ZH := Nat.le_trans ZH (Nat.le_of_eq W17.size.symm)
    have KK := KK.wr W17 (Or.inl (List.mem_of_getElem? (i := 3) rfl))
    refine own_up st17 ?_
    show own_Go p.tables e below _ (T17.setTop (mkF m 229 #[.val (.ref va), .val (.int (2 : Int32)), .val (.int col), .val (.int (3 : Int32)), .val (.ref ak), .val (.ref ar), .val (.ref bk), .val (.ref br), .val (.ref ct), .val (.int sh), .val (.int (own_P (own_dg (x 0) sh) (own_dg (x 1) sh) (own_dg (x 2) sh) 65536)), .val (.int (1 : Int32)), .val (.int p1)] []))
    refine own_up (fun _ kq => XS.iinc X17.here hx rfl (hb hby d3_229) rfl (l' := #[.val (.ref va), .val (.int (2 : Int32)), .val (.int col), .val (.int (3 : Int32)), .val (.ref ak), .val (.ref ar), .val (.ref bk), .val (.ref br), .val (.ref ct), .val (.int sh), .val (.int (own_P (own_dg (x 0) sh) (own_dg (x 1) sh) (own_dg (x 2) sh) 65536)), .val (.int (2 : Int32)), .val (.int p1)]) rfl kq) ?_
    show own_Go p.tables e below _ (T17.setTop (mkF m 232 #[.val (.ref va), .val (.int (2 : Int32)), .val (.int col), .val (.int (3 : Int32)), .val (.ref ak), .val (.ref ar), .val (.ref bk), .val (.ref br), .val (.ref ct), .val (.int sh), .val (.int (own_P (own_dg (x 0) sh) (own_dg (x 1) sh) (own_dg (x 2) sh) 65536)), .val (.int (2 : Int32)), .val (.int p1)] []))
    refine own_up (fun _ kq => XS.goto X17.here hx rfl (pc0 := 232) (pc' := 183) rfl (hb hby d3_232) (by decide) (by decide) kq) ?_
    show own_Go p.tables e below _ (T17.setTop (mkF m 183 #[.val (.ref va), .val (.int (2 : Int32)), .val (.int col), .val (.int (3 : Int32)), .val (.ref ak), .val (.ref ar), .val (.ref bk), .val (.ref br), .val (.ref ct), .val (.int sh), .val (.int (own_P (own_dg (x 0) sh) (own_dg (x 1) sh) (own_dg (x 2) sh) 65536)), .val (.int (2 : Int32)), .val (.int p1)] []))
    refine own_up (fun _ kq => XS.iload X17.here hx rfl (hb hby d3_183) rfl kq) ?_
    show own_Go p.tables e below _ (T17.setTop (mkF m 185 #[.val (.ref va), .val (.int (2 : Int32)), .val (.int col), .val (.int (3 : Int32)), .val (.ref ak), .val (.ref ar), .val (.ref bk), .val (.ref br), .val (.ref ct), .val (.int sh), .val (.int (own_P (own_dg (x 0) sh) (own_dg (x 1) sh) (own_dg (x 2) sh) 65536)), .val (.int (2 : Int32)), .val (.int p1)] [(.int (2 : Int32))]))
    refine own_up (fun _ kq => XS.iloadN X17.here hx rfl (hb hby d3_185) rfl kq) ?_
    show own_Go p.tables e below _ (T17.setTop (mkF m 186 #[.val (.ref va), .val (.int (2 : Int32)), .val (.int col), .val (.int (3 : Int32)), .val (.ref ak), .val (.ref ar), .val (.ref bk), .val (.ref br), .val (.ref ct), .val (.int sh), .val (.int (own_P (own_dg (x 0) sh) (own_dg (x 1) sh) (own_dg (x 2) sh) 65536)), .val (.int (2 : Int32)), .val (.int p1)] [(.int (3 : Int32)), (.int (2 : Int32))]))
    refine own_up (fun _ kq => XS.icmpNo X17.here hx rfl (hb hby d3_186) rfl (tlt (by decide : (2 : Int32) < (3 : Int32))).2.1 kq) ?_
    show own_Go p.tables e below _ (T17.setTop (mkF m 189 #[.val (.ref va), .val (.int (2 : Int32)), .val (.int col), .val (.int (3 : Int32)), .val (.ref ak), .val (.ref ar), .val (.ref bk), .val (.ref br), .val (.ref ct), .val (.int sh), .val (.int (own_P (own_dg (x 0) sh) (own_dg (x 1) sh) (own_dg (x 2) sh) 65536)), .val (.int (2 : Int32)), .val (.int p1)] []))
    refine own_up (fun _ kq => XS.aload X17.here hx rfl (hb hby d3_189) rfl rfl kq) ?_
    show own_Go p.tables e below _ (T17.setTop (mkF m 191 #[.val (.ref va), .val (.int (2 : Int32)), .val (.int col), .val (.int (3 : Int32)), .val (.ref ak), .val (.ref ar), .val (.ref bk), .val (.ref br), .val (.ref ct), .val (.int sh), .val (.int (own_P (own_dg (x 0) sh) (own_dg (x 1) sh) (own_dg (x 2) sh) 65536)), .val (.int (2 : Int32)), .val (.int p1)] [(.ref ct)]))
    refine own_up (fun _ kq => XS.aload X17.here hx rfl (hb hby d3_191) rfl rfl kq) ?_
    show own_Go p.tables e below _ (T17.setTop (mkF m 193 #[.val (.ref va), .val (.int (2 : Int32)), .val (.int col), .val (.int (3 : Int32)), .val (.ref ak), .val (.ref ar), .val (.ref bk), .val (.ref br), .val (.ref ct), .val (.int sh), .val (.int (own_P (own_dg (x 0) sh) (own_dg (x 1) sh) (own_dg (x 2) sh) 65536)), .val (.int (2 : Int32)), .val (.int p1)] [(.ref ak), (.ref ct)]))
    refine own_up (fun _ kq => XS.iload X17.here hx rfl (hb hby d3_193) rfl kq) ?_
    show own_Go p.tables e below _ (T17.setTop (mkF m 195 #[.val (.ref va), .val (.int (2 : Int32)), .val (.int col), .val (.int (3 : Int32)), .val (.ref ak), .val (.ref ar), .val (.ref bk), .val (.ref br), .val (.ref ct), .val (.int sh), .val (.int (own_P (own_dg (x 0) sh) (own_dg (x 1) sh) (own_dg (x 2) sh) 65536)), .val (.int (2 : Int32)), .val (.int p1)] [(.int (2 : Int32)), (.ref ak), (.ref ct)]))
    refine own_up (fun _ kq => own_Arf.laload G_ak X17 hx hZ e17 (by decide) (by decide) (v := (.long (x 2))) rfl (g := (mkF m 195 #[.val (.ref va), .val (.int (2 : Int32)), .val (.int col), .val (.int (3 : Int32)), .val (.ref ak), .val (.ref ar), .val (.ref bk), .val (.ref br), .val (.ref ct), .val (.int sh), .val (.int (own_P (own_dg (x 0) sh) (own_dg (x 1) sh) (own_dg (x 2) sh) 65536)), .val (.int (2 : Int32)), .val (.int p1)] [(.int (2 : Int32)), (.ref ak), (.ref ct)])) rfl rfl (hb hby d3_195) _ kq) ?_
    show own_Go p.tables e below _ (T17.setTop (mkF m 196 #[.val (.ref va), .val (.int (2 : Int32)), .val (.int col), .val (.int (3 : Int32)), .val (.ref ak), .val (.ref ar), .val (.ref bk), .val (.ref br), .val (.ref ct), .val (.int sh), .val (.int (own_P (own_dg (x 0) sh) (own_dg (x 1) sh) (own_dg (x 2) sh) 65536)), .val (.int (2 : Int32)), .val (.int p1)] [(.long (x 2)), (.ref ct)]))
    refine own_up (fun _ kq => XS.iload X17.here hx rfl (hb hby d3_196) rfl kq) ?_
    show own_Go p.tables e below _ (T17.setTop (mkF m 198 #[.val (.ref va), .val (.int (2 : Int32)), .val (.int col), .val (.int (3 : Int32)), .val (.ref ak), .val (.ref ar), .val (.ref bk), .val (.ref br), .val (.ref ct), .val (.int sh), .val (.int (own_P (own_dg (x 0) sh) (own_dg (x 1) sh) (own_dg (x 2) sh) 65536)), .val (.int (2 : Int32)), .val (.int p1)] [(.int sh), (.long (x 2)), (.ref ct)]))
    obtain ⟨_, _, ⟨T18, L18, k18, n18⟩, -, X18, ⟨Lc18, hQ18, l18, y18, z18⟩, st18⟩ := Jvm.LawKit.callS X17 hx (y := (⟨"com/example/ranksieve/ranksieve/model/SortedColumn", "digit", "(JI)I"⟩ : MethodName)) hown (mvT hZ (hw _ (List.mem_of_getElem? (i := 38) rfl))) (mvT hZ (hw _ (List.mem_of_getElem? (i := 39) rfl))) (mvT hZ (hw _ (List.mem_of_getElem? (i := 3) rfl))) (mvT hZ (hw _ (List.mem_of_getElem? (i := 40) rfl))) (by decide) (backOf (W := 1) (rmG l Z a0 hw [] (x 2) sh h17 n0 ZH) hZ (hw _ (List.mem_of_getElem? (i := 40) rfl)) (hw _ (List.mem_of_getElem? (i := 3) rfl)) (by decide) (by decide)) (g := (mkF m 198 #[.val (.ref va), .val (.int (2 : Int32)), .val (.int col), .val (.int (3 : Int32)), .val (.ref ak), .val (.ref ar), .val (.ref bk), .val (.ref br), .val (.ref ct), .val (.int sh), .val (.int (own_P (own_dg (x 0) sh) (own_dg (x 1) sh) (own_dg (x 2) sh) 65536)), .val (.int (2 : Int32)), .val (.int p1)] [(.int sh), (.long (x 2)), (.ref ct)])) rfl (by rw [hml]; rfl) (argsL := [(.long (x 2)), (.int sh)]) (rest := [(.ref ct)]) (lenOf pd_3 rfl) rfl (by show 2 * 0 + _ ≤ _; exact Nat.le_of_eq rfl) (hb hby d3_198) (fun _ _ => ⟨rfl, e17, (by decide : 5 + 0 ≤ _), (by decide : 65548 + 0 ≤ _)⟩)
    dsimp only [Pt.U, Pt.locs, Pt.cells, Pt.slots] at X18 l18 y18 z18 st18 hQ18
    subst l18 y18 z18
    obtain ⟨rfl, Nq18, e18⟩ := hQ18
    have N18 := Fr.app N17 Nq18
    refine own_up st18 ?_
    show own_Go p.tables e below _ (T18.setTop (mkF m 201 #[.val (.ref va), .val (.int (2 : Int32)), .val (.int col), .val (.int (3 : Int32)), .val (.ref ak), .val (.ref ar), .val (.ref bk), .val (.ref br), .val (.ref ct), .val (.int sh), .val (.int (own_P (own_dg (x 0) sh) (own_dg (x 1) sh) (own_dg (x 2) sh) 65536)), .val (.int (2 : Int32)), .val (.int p1)] [(.int (own_dg (x 2) sh)), (.ref ct)]))
    refine own_up (fun _ kq => (show Steps p.tables e below (T18.setTop (mkF m 201 #[.val (.ref va), .val (.int (2 : Int32)), .val (.int col), .val (.int (3 : Int32)), .val (.ref ak), .val (.ref ar), .val (.ref bk), .val (.ref br), .val (.ref ct), .val (.int sh), .val (.int (own_P (own_dg (x 0) sh) (own_dg (x 1) sh) (own_dg (x 2) sh) 65536)), .val (.int (2 : Int32)), .val (.int p1)] [(.int (own_dg (x 2) sh)), (.ref ct)])) _ from by jvm_step X18.here [X18.here.top, hx, (hb hby d3_201), Value.category]; exact kq)) ?_
    show own_Go p.tables e below _ (T18.setTop (mkF m 202 #[.val (.ref va), .val (.int (2 : Int32)), .val (.int col), .val (.int (3 : Int32)), .val (.ref ak), .val (.ref ar), .val (.ref bk), .val (.ref br), .val (.ref ct), .val (.int sh), .val (.int (own_P (own_dg (x 0) sh) (own_dg (x 1) sh) (own_dg (x 2) sh) 65536)), .val (.int (2 : Int32)), .val (.int p1)] [(.int (own_dg (x 2) sh)), (.ref ct), (.int (own_dg (x 2) sh)), (.ref ct)]))
    refine own_up (fun _ kq => own_Arf.iaload G_ct X18 hx hZ e18 (own_dgn _ _) (own_dgl _ _) (v := (.int ((own_inc (own_inc (own_pf (own_dg (x 0) sh) (own_dg (x 1) sh) (own_dg (x 2) sh) 65536) (own_dg (x 0) sh)) (own_dg (x 1) sh)) ((own_dg (x 2) sh)).toNatClampNeg))) rfl (g := (mkF m 202 #[.val (.ref va), .val (.int (2 : Int32)), .val (.int col), .val (.int (3 : Int32)), .val (.ref ak), .val (.ref ar), .val (.ref bk), .val (.ref br), .val (.ref ct), .val (.int sh), .val (.int (own_P (own_dg (x 0) sh) (own_dg (x 1) sh) (own_dg (x 2) sh) 65536)), .val (.int (2 : Int32)), .val (.int p1)] [(.int (own_dg (x 2) sh)), (.ref ct), (.int (own_dg (x 2) sh)), (.ref ct)])) rfl rfl (hb hby d3_202) _ kq) ?_
    show own_Go p.tables e below _ (T18.setTop (mkF m 203 #[.val (.ref va), .val (.int (2 : Int32)), .val (.int col), .val (.int (3 : Int32)), .val (.ref ak), .val (.ref ar), .val (.ref bk), .val (.ref br), .val (.ref ct), .val (.int sh), .val (.int (own_P (own_dg (x 0) sh) (own_dg (x 1) sh) (own_dg (x 2) sh) 65536)), .val (.int (2 : Int32)), .val (.int p1)] [(.int ((own_inc (own_inc (own_pf (own_dg (x 0) sh) (own_dg (x 1) sh) (own_dg (x 2) sh) 65536) (own_dg (x 0) sh)) (own_dg (x 1) sh)) ((own_dg (x 2) sh)).toNatClampNeg)), (.int (own_dg (x 2) sh)), (.ref ct)]))
    refine own_up (fun _ kq => (show Steps p.tables e below (T18.setTop (mkF m 203 #[.val (.ref va), .val (.int (2 : Int32)), .val (.int col), .val (.int (3 : Int32)), .val (.ref ak), .val (.ref ar), .val (.ref bk), .val (.ref br), .val (.ref ct), .val (.int sh), .val (.int (own_P (own_dg (x 0) sh) (own_dg (x 1) sh) (own_dg (x 2) sh) 65536)), .val (.int (2 : Int32)), .val (.int p1)] [(.int ((own_inc (own_inc (own_pf (own_dg (x 0) sh) (own_dg (x 1) sh) (own_dg (x 2) sh) 65536) (own_dg (x 0) sh)) (own_dg (x 1) sh)) ((own_dg (x 2) sh)).toNatClampNeg)), (.int (own_dg (x 2) sh)), (.ref ct)])) _ from by jvm_step X18.here [X18.here.top, hx, (hb hby d3_203), Value.category]; exact kq)) ?_
    show own_Go p.tables e below _ (T18.setTop (mkF m 204 #[.val (.ref va), .val (.int (2 : Int32)), .val (.int col), .val (.int (3 : Int32)), .val (.ref ak), .val (.ref ar), .val (.ref bk), .val (.ref br), .val (.ref ct), .val (.int sh), .val (.int (own_P (own_dg (x 0) sh) (own_dg (x 1) sh) (own_dg (x 2) sh) 65536)), .val (.int (2 : Int32)), .val (.int p1)] [(.int ((own_inc (own_inc (own_pf (own_dg (x 0) sh) (own_dg (x 1) sh) (own_dg (x 2) sh) 65536) (own_dg (x 0) sh)) (own_dg (x 1) sh)) ((own_dg (x 2) sh)).toNatClampNeg)), (.int (own_dg (x 2) sh)), (.ref ct), (.int ((own_inc (own_inc (own_pf (own_dg (x 0) sh) (own_dg (x 1) sh) (own_dg (x 2) sh) 65536) (own_dg (x 0) sh)) (own_dg (x 1) sh)) ((own_dg (x 2) sh)).toNatClampNeg))]))
    refine own_up (fun _ kq => XS.iconst X18.here hx rfl (hb hby d3_204) kq) ?_
    show own_Go p.tables e below _ (T18.setTop (mkF m 205 #[.val (.ref va), .val (.int (2 : Int32)), .val (.int col), .val (.int (3 : Int32)), .val (.ref ak), .val (.ref ar), .val (.ref bk), .val (.ref br), .val (.ref ct), .val (.int sh), .val (.int (own_P (own_dg (x 0) sh) (own_dg (x 1) sh) (own_dg (x 2) sh) 65536)), .val (.int (2 : Int32)), .val (.int p1)] [(.int (1 : Int32)), (.int ((own_inc (own_inc (own_pf (own_dg (x 0) sh) (own_dg (x 1) sh) (own_dg (x 2) sh) 65536) (own_dg (x 0) sh)) (own_dg (x 1) sh)) ((own_dg (x 2) sh)).toNatClampNeg)), (.int (own_dg (x 2) sh)), (.ref ct), (.int ((own_inc (own_inc (own_pf (own_dg (x 0) sh) (own_dg (x 1) sh) (own_dg (x 2) sh) 65536) (own_dg (x 0) sh)) (own_dg (x 1) sh)) ((own_dg (x 2) sh)).toNatClampNeg))]))
    refine own_up (fun _ kq => XS.iadd X18.here hx rfl (hb hby d3_205) rfl kq) ?_
    show own_Go p.tables e below _ (T18.setTop (mkF m 206 #[.val (.ref va), .val (.int (2 : Int32)), .val (.int col), .val (.int (3 : Int32)), .val (.ref ak), .val (.ref ar), .val (.ref bk), .val (.ref br), .val (.ref ct), .val (.int sh), .val (.int (own_P (own_dg (x 0) sh) (own_dg (x 1) sh) (own_dg (x 2) sh) 65536)), .val (.int (2 : Int32)), .val (.int p1)] [(.int (((own_inc (own_inc (own_pf (own_dg (x 0) sh) (own_dg (x 1) sh) (own_dg (x 2) sh) 65536) (own_dg (x 0) sh)) (own_dg (x 1) sh)) ((own_dg (x 2) sh)).toNatClampNeg) + (1 : Int32))), (.int (own_dg (x 2) sh)), (.ref ct), (.int ((own_inc (own_inc (own_pf (own_dg (x 0) sh) (own_dg (x 1) sh) (own_dg (x 2) sh) 65536) (own_dg (x 0) sh)) (own_dg (x 1) sh)) ((own_dg (x 2) sh)).toNatClampNeg))]))
    obtain ⟨cl19, Ar19, sz19, nz19, hc19⟩ := id G_ct
    obtain ⟨T19, h19, X19, e19, W19, st19⟩ := stI X18 hx hZ e18 Ar19 (j := (own_dg (x 2) sh)) (inb_of sz19 ⟨(own_dgn _ _), (own_dgl _ _)⟩) (g := (mkF m 206 #[.val (.ref va), .val (.int (2 : Int32)), .val (.int col), .val (.int (3 : Int32)), .val (.ref ak), .val (.ref ar), .val (.ref bk), .val (.ref br), .val (.ref ct), .val (.int sh), .val (.int (own_P (own_dg (x 0) sh) (own_dg (x 1) sh) (own_dg (x 2) sh) 65536)), .val (.int (2 : Int32)), .val (.int p1)] [(.int (((own_inc (own_inc (own_pf (own_dg (x 0) sh) (own_dg (x 1) sh) (own_dg (x 2) sh) 65536) (own_dg (x 0) sh)) (own_dg (x 1) sh)) ((own_dg (x 2) sh)).toNatClampNeg) + (1 : Int32))), (.int (own_dg (x 2) sh)), (.ref ct), (.int ((own_inc (own_inc (own_pf (own_dg (x 0) sh) (own_dg (x 1) sh) (own_dg (x 2) sh) 65536) (own_dg (x 0) sh)) (own_dg (x 1) sh)) ((own_dg (x 2) sh)).toNatClampNeg))])) rfl rfl (hb hby d3_206)
    have G_ct : own_Arf Z h19 ct .int (65536 : Int32) (fun i => .int ((own_upd (own_inc (own_inc (own_pf (own_dg (x 0) sh) (own_dg (x 1) sh) (own_dg (x 2) sh) 65536) (own_dg (x 0) sh)) (own_dg (x 1) sh)) (own_dg (x 2) sh) (((own_inc (own_inc (own_pf (own_dg (x 0) sh) (own_dg (x 1) sh) (own_dg (x 2) sh) 65536) (own_dg (x 0) sh)) (own_dg (x 1) sh)) ((own_dg (x 2) sh)).toNatClampNeg) + (1 : Int32))) i)) := own_Arf.setI G_ct W19
    have N19 := Fr.snoc X19 N18 g_ct
    have G_ak := G_ak.other W19 ne_ak_ct
    have G_ar := G_ar.other W19 ne_ar_ct
    have G_bk := G_bk.other W19 ne_bk_ct
    have G_br := G_br.other W19 ne_br_ct
    have ZH := Nat.le_trans ZH (Nat.le_of_eq W19.size.symm)
    have KK := KK.wr W19 (Or.inl (List.mem_of_getElem? (i := 4) rfl))
    refine own_up st19 ?_
    show own_Go p.tables e below _ (T19.setTop (mkF m 207 #[.val (.ref va), .val (.int (2 : Int32)), .val (.int col), .val (.int (3 : Int32)), .val (.ref ak), .val (.ref ar), .val (.ref bk), .val (.ref br), .val (.ref ct), .val (.int sh), .val (.int (own_P (own_dg (x 0) sh) (own_dg (x 1) sh) (own_dg (x 2) sh) 65536)), .val (.int (2 : Int32)), .val (.int p1)] [(.int ((own_inc (own_inc (own_pf (own_dg (x 0) sh) (own_dg (x 1) sh) (own_dg (x 2) sh) 65536) (own_dg (x 0) sh)) (own_dg (x 1) sh)) ((own_dg (x 2) sh)).toNatClampNeg))]))
    have G_ct : own_Arf Z h19 ct .int (65536 : Int32) (fun iq => .int ((own_inc (own_inc (own_inc (own_pf (own_dg (x 0) sh) (own_dg (x 1) sh) (own_dg (x 2) sh) 65536) (own_dg (x 0) sh)) (own_dg (x 1) sh)) (own_dg (x 2) sh)) iq)) := G_ct
    generalize hp2 : ((own_inc (own_inc (own_pf (own_dg (x 0) sh) (own_dg (x 1) sh) (own_dg (x 2) sh) 65536) (own_dg (x 0) sh)) (own_dg (x 1) sh)) ((own_dg (x 2) sh)).toNatClampNeg) = p2
    show own_Go p.tables e below _ (T19.setTop (mkF m 207 #[.val (.ref va), .val (.int (2 : Int32)), .val (.int col), .val (.int (3 : Int32)), .val (.ref ak), .val (.ref ar), .val (.ref bk), .val (.ref br), .val (.ref ct), .val (.int sh), .val (.int (own_P (own_dg (x 0) sh) (own_dg (x 1) sh) (own_dg (x 2) sh) 65536)), .val (.int (2 : Int32)), .val (.int p1)] [(.int p2)]))
    refine own_up (fun _ kq => XS.istore X19.here hx rfl (hb hby d3_207) rfl (l' := #[.val (.ref va), .val (.int (2 : Int32)), .val (.int col), .val (.int (3 : Int32)), .val (.ref ak), .val (.ref ar), .val (.ref bk), .val (.ref br), .val (.ref ct), .val (.int sh), .val (.int (own_P (own_dg (x 0) sh) (own_dg (x 1) sh) (own_dg (x 2) sh) 65536)), .val (.int (2 : Int32)), .val (.int p2)]) rfl kq) ?_
    show own_Go p.tables e below _ (T19.setTop (mkF m 209 #[.val (.ref va), .val (.int (2 : Int32)), .val (.int col), .val (.int (3 : Int32)), .val (.ref ak), .val (.ref ar), .val (.ref bk), .val (.ref br), .val (.ref ct), .val (.int sh), .val (.int (own_P (own_dg (x 0) sh) (own_dg (x 1) sh) (own_dg (x 2) sh) 65536)), .val (.int (2 : Int32)), .val (.int p2)] []))
    refine own_up (fun _ kq => XS.aload X19.here hx rfl (hb hby d3_209) rfl rfl kq) ?_
    show own_Go p.tables e below _ (T19.setTop (mkF m 211 #[.val (.ref va), .val (.int (2 : Int32)), .val (.int col), .val (.int (3 : Int32)), .val (.ref ak), .val (.ref ar), .val (.ref bk), .val (.ref br), .val (.ref ct), .val (.int sh), .val (.int (own_P (own_dg (x 0) sh) (own_dg (x 1) sh) (own_dg (x 2) sh) 65536)), .val (.int (2 : Int32)), .val (.int p2)] [(.ref bk)]))
    refine own_up (fun _ kq => XS.iload X19.here hx rfl (hb hby d3_211) rfl kq) ?_
    show own_Go p.tables e below _ (T19.setTop (mkF m 213 #[.val (.ref va), .val (.int (2 : Int32)), .val (.int col), .val (.int (3 : Int32)), .val (.ref ak), .val (.ref ar), .val (.ref bk), .val (.ref br), .val (.ref ct), .val (.int sh), .val (.int (own_P (own_dg (x 0) sh) (own_dg (x 1) sh) (own_dg (x 2) sh) 65536)), .val (.int (2 : Int32)), .val (.int p2)] [(.int p2), (.ref bk)]))
    refine own_up (fun _ kq => XS.aload X19.here hx rfl (hb hby d3_213) rfl rfl kq) ?_
    show own_Go p.tables e below _ (T19.setTop (mkF m 215 #[.val (.ref va), .val (.int (2 : Int32)), .val (.int col), .val (.int (3 : Int32)), .val (.ref ak), .val (.ref ar), .val (.ref bk), .val (.ref br), .val (.ref ct), .val (.int sh), .val (.int (own_P (own_dg (x 0) sh) (own_dg (x 1) sh) (own_dg (x 2) sh) 65536)), .val (.int (2 : Int32)), .val (.int p2)] [(.ref ak), (.int p2), (.ref bk)]))
    refine own_up (fun _ kq => XS.iload X19.here hx rfl (hb hby d3_215) rfl kq) ?_
    show own_Go p.tables e below _ (T19.setTop (mkF m 217 #[.val (.ref va), .val (.int (2 : Int32)), .val (.int col), .val (.int (3 : Int32)), .val (.ref ak), .val (.ref ar), .val (.ref bk), .val (.ref br), .val (.ref ct), .val (.int sh), .val (.int (own_P (own_dg (x 0) sh) (own_dg (x 1) sh) (own_dg (x 2) sh) 65536)), .val (.int (2 : Int32)), .val (.int p2)] [(.int (2 : Int32)), (.ref ak), (.int p2), (.ref bk)]))
    refine own_up (fun _ kq => own_Arf.laload G_ak X19 hx hZ e19 (by decide) (by decide) (v := (.long (x 2))) rfl (g := (mkF m 217 #[.val (.ref va), .val (.int (2 : Int32)), .val (.int col), .val (.int (3 : Int32)), .val (.ref ak), .val (.ref ar), .val (.ref bk), .val (.ref br), .val (.ref ct), .val (.int sh), .val (.int (own_P (own_dg (x 0) sh) (own_dg (x 1) sh) (own_dg (x 2) sh) 65536)), .val (.int (2 : Int32)), .val (.int p2)] [(.int (2 : Int32)), (.ref ak), (.int p2), (.ref bk)])) rfl rfl (hb hby d3_217) _ kq) ?_
    show own_Go p.tables e below _ (T19.setTop (mkF m 218 #[.val (.ref va), .val (.int (2 : Int32)), .val (.int col), .val (.int (3 : Int32)), .val (.ref ak), .val (.ref ar), .val (.ref bk), .val (.ref br), .val (.ref ct), .val (.int sh), .val (.int (own_P (own_dg (x 0) sh) (own_dg (x 1) sh) (own_dg (x 2) sh) 65536)), .val (.int (2 : Int32)), .val (.int p2)] [(.long (x 2)), (.int p2), (.ref bk)]))
    obtain ⟨cl20, Ar20, sz20, nz20, hc20⟩ := id G_bk
    obtain ⟨T20, h20, X20, e20, W20, st20⟩ := stJ X19 hx hZ e19 Ar20 (j := p2) (inb_of sz20 ⟨(own_b2 (own_dgN _ _) (own_dgN _ _) (own_dgN _ _) hp2).1, (own_b2 (own_dgN _ _) (own_dgN _ _) (own_dgN _ _) hp2).2⟩) (g := (mkF m 218 #[.val (.ref va), .val (.int (2 : Int32)), .val (.int col), .val (.int (3 : Int32)), .val (.ref ak), .val (.ref ar), .val (.ref bk), .val (.ref br), .val (.ref ct), .val (.int sh), .val (.int (own_P (own_dg (x 0) sh) (own_dg (x 1) sh) (own_dg (x 2) sh) 65536)), .val (.int (2 : Int32)), .val (.int p2)] [(.long (x 2)), (.int p2), (.ref bk)])) rfl rfl (hb hby d3_218)
    have G_bk : own_Arf Z h20 bk .long (3 : Int32) (fun i => .long ((own_upd (own_upd (own_upd x2 p0 (x 0)) p1 (x 1)) p2 (x 2)) i)) := own_Arf.setJ G_bk W20
    have N20 := Fr.snoc X20 N19 g_bk
    have G_ak := G_ak.other W20 ne_ak_bk
    have G_ar := G_ar.other W20 ne_ar_bk
    have G_br := G_br.other W20 (Ne.symm ne_bk_br)
    have G_ct := G_ct.other W20 (Ne.symm ne_bk_ct)
    have ZH := Nat.le_trans ZH (Nat.le_of_eq W20.size.symm)
    have KK := KK.wr W20 (Or.inl (List.mem_of_getElem? (i := 2) rfl))
    refine own_up st20 ?_
    show own_Go p.tables e below _ (T20.setTop (mkF m 219 #[.val (.ref va), .val (.int (2 : Int32)), .val (.int col), .val (.int (3 : Int32)), .val (.ref ak), .val (.ref ar), .val (.ref bk), .val (.ref br), .val (.ref ct), .val (.int sh), .val (.int (own_P (own_dg (x 0) sh) (own_dg (x 1) sh) (own_dg (x 2) sh) 65536)), .val (.int (2 : Int32)), .val (.int p2)] []))
    refine own_up (fun _ kq => XS.aload X20.here hx rfl (hb hby d3_219) rfl rfl kq) ?_
    show own_Go p.tables e below _ (T20.setTop (mkF m 221 #[.val (.ref va), .val (.int (2 : Int32)), .val (.int col), .val (.int (3 : Int32)), .val (.ref ak), .val (.ref ar), .val (.ref bk), .val (.ref br), .val (.ref ct), .val (.int sh), .val (.int (own_P (own_dg (x 0) sh) (own_dg (x 1) sh) (own_dg (x 2) sh) 65536)), .val (.int (2 : Int32)), .val (.int p2)] [(.ref br)]))
    refine own_up (fun _ kq => XS.iload X20.here hx rfl (hb hby d3_221) rfl kq) ?_
    show own_Go p.tables e below _ (T20.setTop (mkF m 223 #[.val (.ref va), .val (.int (2 : Int32)), .val (.int col), .val (.int (3 : Int32)), .val (.ref ak), .val (.ref ar), .val (.ref bk), .val (.ref br), .val (.ref ct), .val (.int sh), .val (.int (own_P (own_dg (x 0) sh) (own_dg (x 1) sh) (own_dg (x 2) sh) 65536)), .val (.int (2 : Int32)), .val (.int p2)] [(.int p2), (.ref br)]))
    refine own_up (fun _ kq => XS.aload X20.here hx rfl (hb hby d3_223) rfl rfl kq) ?_
    show own_Go p.tables e below _ (T20.setTop (mkF m 225 #[.val (.ref va), .val (.int (2 : Int32)), .val (.int col), .val (.int (3 : Int32)), .val (.ref ak), .val (.ref ar), .val (.ref bk), .val (.ref br), .val (.ref ct), .val (.int sh), .val (.int (own_P (own_dg (x 0) sh) (own_dg (x 1) sh) (own_dg (x 2) sh) 65536)), .val (.int (2 : Int32)), .val (.int p2)] [(.ref ar), (.int p2), (.ref br)]))
    refine own_up (fun _ kq => XS.iload X20.here hx rfl (hb hby d3_225) rfl kq) ?_
    show own_Go p.tables e below _ (T20.setTop (mkF m 227 #[.val (.ref va), .val (.int (2 : Int32)), .val (.int col), .val (.int (3 : Int32)), .val (.ref ak), .val (.ref ar), .val (.ref bk), .val (.ref br), .val (.ref ct), .val (.int sh), .val (.int (own_P (own_dg (x 0) sh) (own_dg (x 1) sh) (own_dg (x 2) sh) 65536)), .val (.int (2 : Int32)), .val (.int p2)] [(.int (2 : Int32)), (.ref ar), (.int p2), (.ref br)]))
    refine own_up (fun _ kq => own_Arf.iaload G_ar X20 hx hZ e20 (by decide) (by decide) (v := (.int (r 2))) rfl (g := (mkF m 227 #[.val (.ref va), .val (.int (2 : Int32)), .val (.int col), .val (.int (3 : Int32)), .val (.ref ak), .val (.ref ar), .val (.ref bk), .val (.ref br), .val (.ref ct), .val (.int sh), .val (.int (own_P (own_dg (x 0) sh) (own_dg (x 1) sh) (own_dg (x 2) sh) 65536)), .val (.int (2 : Int32)), .val (.int p2)] [(.int (2 : Int32)), (.ref ar), (.int p2), (.ref br)])) rfl rfl (hb hby d3_227) _ kq) ?_
    show own_Go p.tables e below _ (T20.setTop (mkF m 228 #[.val (.ref va), .val (.int (2 : Int32)), .val (.int col), .val (.int (3 : Int32)), .val (.ref ak), .val (.ref ar), .val (.ref bk), .val (.ref br), .val (.ref ct), .val (.int sh), .val (.int (own_P (own_dg (x 0) sh) (own_dg (x 1) sh) (own_dg (x 2) sh) 65536)), .val (.int (2 : Int32)), .val (.int p2)] [(.int (r 2)), (.int p2), (.ref br)]))
    obtain ⟨cl21, Ar21, sz21, nz21, hc21⟩ := id G_br
    obtain ⟨T21, h21, X21, e21, W21, st21⟩ := stI X20 hx hZ e20 Ar21 (j := p2) (inb_of sz21 ⟨(own_b2 (own_dgN _ _) (own_dgN _ _) (own_dgN _ _) hp2).1, (own_b2 (own_dgN _ _) (own_dgN _ _) (own_dgN _ _) hp2).2⟩) (g := (mkF m 228 #[.val (.ref va), .val (.int (2 : Int32)), .val (.int col), .val (.int (3 : Int32)), .val (.ref ak), .val (.ref ar), .val (.ref bk), .val (.ref br), .val (.ref ct), .val (.int sh), .val (.int (own_P (own_dg (x 0) sh) (own_dg (x 1) sh) (own_dg (x 2) sh) 65536)), .val (.int (2 : Int32)), .val (.int p2)] [(.int (r 2)), (.int p2), (.ref br)])) rfl rfl (hb hby d3_228)
    have G_br : own_Arf Z h21 br .int (3 : Int32) (fun i => .int ((own_upd (own_upd (own_upd r2 p0 (r 0)) p1 (r 1)) p2 (r 2)) i)) := own_Arf.setI G_br W21
    have N21 := Fr.snoc X21 N20 g_br
    have G_ak := G_ak.other W21 ne_ak_br
    have G_ar := G_ar.other W21 ne_ar_br
    have G_bk := G_bk.other W21 ne_bk_br
    have G_ct := G_ct.other W21 (Ne.symm ne_br_ct)
    have ZH := Nat.le_trans ZH (Nat.le_of_eq W21.size.symm)
    have KK := KK.wr W21 (Or.inl (List.mem_of_getElem? (i := 3) rfl))
    refine own_up st21 ?_
    show own_Go p.tables e below _ (T21.setTop (mkF m 229 #[.val (.ref va), .val (.int (2 : Int32)), .val (.int col), .val (.int (3 : Int32)), .val (.ref ak), .val (.ref ar), .val (.ref bk), .val (.ref br), .val (.ref ct), .val (.int sh), .val (.int (own_P (own_dg (x 0) sh) (own_dg (x 1) sh) (own_dg (x 2) sh) 65536)), .val (.int (2 : Int32)), .val (.int p2)] []))
    refine own_up (fun _ kq => XS.iinc X21.here hx rfl (hb hby d3_229) rfl (l' := #[.val (.ref va), .val (.int (2 : Int32)), .val (.int col), .val (.int (3 : Int32)), .val (.ref ak), .val (.ref ar), .val (.ref bk), .val (.ref br), .val (.ref ct), .val (.int sh), .val (.int (own_P (own_dg (x 0) sh) (own_dg (x 1) sh) (own_dg (x 2) sh) 65536)), .val (.int (3 : Int32)), .val (.int p2)]) rfl kq) ?_
    show own_Go p.tables e below _ (T21.setTop (mkF m 232 #[.val (.ref va), .val (.int (2 : Int32)), .val (.int col), .val (.int (3 : Int32)), .val (.ref ak), .val (.ref ar), .val (.ref bk), .val (.ref br), .val (.ref ct), .val (.int sh), .val (.int (own_P (own_dg (x 0) sh) (own_dg (x 1) sh) (own_dg (x 2) sh) 65536)), .val (.int (3 : Int32)), .val (.int p2)] []))
    refine own_up (fun _ kq => XS.goto X21.here hx rfl (pc0 := 232) (pc' := 183) rfl (hb hby d3_232) (by decide) (by decide) kq) ?_
    show own_Go p.tables e below _ (T21.setTop (mkF m 183 #[.val (.ref va), .val (.int (2 : Int32)), .val (.int col), .val (.int (3 : Int32)), .val (.ref ak), .val (.ref ar), .val (.ref bk), .val (.ref br), .val (.ref ct), .val (.int sh), .val (.int (own_P (own_dg (x 0) sh) (own_dg (x 1) sh) (own_dg (x 2) sh) 65536)), .val (.int (3 : Int32)), .val (.int p2)] []))
    refine own_up (fun _ kq => XS.iload X21.here hx rfl (hb hby d3_183) rfl kq) ?_
    show own_Go p.tables e below _ (T21.setTop (mkF m 185 #[.val (.ref va), .val (.int (2 : Int32)), .val (.int col), .val (.int (3 : Int32)), .val (.ref ak), .val (.ref ar), .val (.ref bk), .val (.ref br), .val (.ref ct), .val (.int sh), .val (.int (own_P (own_dg (x 0) sh) (own_dg (x 1) sh) (own_dg (x 2) sh) 65536)), .val (.int (3 : Int32)), .val (.int p2)] [(.int (3 : Int32))]))
    refine own_up (fun _ kq => XS.iloadN X21.here hx rfl (hb hby d3_185) rfl kq) ?_
    show own_Go p.tables e below _ (T21.setTop (mkF m 186 #[.val (.ref va), .val (.int (2 : Int32)), .val (.int col), .val (.int (3 : Int32)), .val (.ref ak), .val (.ref ar), .val (.ref bk), .val (.ref br), .val (.ref ct), .val (.int sh), .val (.int (own_P (own_dg (x 0) sh) (own_dg (x 1) sh) (own_dg (x 2) sh) 65536)), .val (.int (3 : Int32)), .val (.int p2)] [(.int (3 : Int32)), (.int (3 : Int32))]))
    refine own_up (fun _ kq => XS.icmpYes X21.here hx rfl (pc0 := 186) (pc' := 235) rfl (hb hby d3_186) rfl (flt (by decide : ¬ ((3 : Int32) < (3 : Int32)))).2.1 (by decide) (by decide) kq) ?_
    show own_Go p.tables e below _ (T21.setTop (mkF m 235 #[.val (.ref va), .val (.int (2 : Int32)), .val (.int col), .val (.int (3 : Int32)), .val (.ref ak), .val (.ref ar), .val (.ref bk), .val (.ref br), .val (.ref ct), .val (.int sh), .val (.int (own_P (own_dg (x 0) sh) (own_dg (x 1) sh) (own_dg (x 2) sh) 65536)), .val (.int (3 : Int32)), .val (.int p2)] []))
    refine own_up (fun _ kq => XS.aload X21.here hx rfl (hb hby d3_235) rfl rfl kq) ?_
    show own_Go p.tables e below _ (T21.setTop (mkF m 237 #[.val (.ref va), .val (.int (2 : Int32)), .val (.int col), .val (.int (3 : Int32)), .val (.ref ak), .val (.ref ar), .val (.ref bk), .val (.ref br), .val (.ref ct), .val (.int sh), .val (.int (own_P (own_dg (x 0) sh) (own_dg (x 1) sh) (own_dg (x 2) sh) 65536)), .val (.int (3 : Int32)), .val (.int p2)] [(.ref ak)]))
    refine own_up (fun _ kq => XS.astore X21.here hx rfl (hb hby d3_237) rfl rfl (l' := #[.val (.ref va), .val (.int (2 : Int32)), .val (.int col), .val (.int (3 : Int32)), .val (.ref ak), .val (.ref ar), .val (.ref bk), .val (.ref br), .val (.ref ct), .val (.int sh), .val (.int (own_P (own_dg (x 0) sh) (own_dg (x 1) sh) (own_dg (x 2) sh) 65536)), .val (.ref ak), .val (.int p2)]) rfl kq) ?_
    show own_Go p.tables e below _ (T21.setTop (mkF m 239 #[.val (.ref va), .val (.int (2 : Int32)), .val (.int col), .val (.int (3 : Int32)), .val (.ref ak), .val (.ref ar), .val (.ref bk), .val (.ref br), .val (.ref ct), .val (.int sh), .val (.int (own_P (own_dg (x 0) sh) (own_dg (x 1) sh) (own_dg (x 2) sh) 65536)), .val (.ref ak), .val (.int p2)] []))
    refine own_up (fun _ kq => XS.aload X21.here hx rfl (hb hby d3_239) rfl rfl kq) ?_
    show own_Go p.tables e below _ (T21.setTop (mkF m 241 #[.val (.ref va), .val (.int (2 : Int32)), .val (.int col), .val (.int (3 : Int32)), .val (.ref ak), .val (.ref ar), .val (.ref bk), .val (.ref br), .val (.ref ct), .val (.int sh), .val (.int (own_P (own_dg (x 0) sh) (own_dg (x 1) sh) (own_dg (x 2) sh) 65536)), .val (.ref ak), .val (.int p2)] [(.ref bk)]))
    refine own_up (fun _ kq => XS.astore X21.here hx rfl (hb hby d3_241) rfl rfl (l' := #[.val (.ref va), .val (.int (2 : Int32)), .val (.int col), .val (.int (3 : Int32)), .val (.ref bk), .val (.ref ar), .val (.ref bk), .val (.ref br), .val (.ref ct), .val (.int sh), .val (.int (own_P (own_dg (x 0) sh) (own_dg (x 1) sh) (own_dg (x 2) sh) 65536)), .val (.ref ak), .val (.int p2)]) rfl kq) ?_
    show own_Go p.tables e below _ (T21.setTop (mkF m 243 #[.val (.ref va), .val (.int (2 : Int32)), .val (.int col), .val (.int (3 : Int32)), .val (.ref bk), .val (.ref ar), .val (.ref bk), .val (.ref br), .val (.ref ct), .val (.int sh), .val (.int (own_P (own_dg (x 0) sh) (own_dg (x 1) sh) (own_dg (x 2) sh) 65536)), .val (.ref ak), .val (.int p2)] []))
    refine own_up (fun _ kq => XS.aload X21.here hx rfl (hb hby d3_243) rfl rfl kq) ?_
    show own_Go p.tables e below _ (T21.setTop (mkF m 245 #[.val (.ref va), .val (.int (2 : Int32)), .val (.int col), .val (.int (3 : Int32)), .val (.ref bk), .val (.ref ar), .val (.ref bk), .val (.ref br), .val (.ref ct), .val (.int sh), .val (.int (own_P (own_dg (x 0) sh) (own_dg (x 1) sh) (own_dg (x 2) sh) 65536)), .val (.ref ak), .val (.int p2)] [(.ref ak)]))
    refine own_up (fun _ kq => XS.astore X21.here hx rfl (hb hby d3_245) rfl rfl (l' := #[.val (.ref va), .val (.int (2 : Int32)), .val (.int col), .val (.int (3 : Int32)), .val (.ref bk), .val (.ref ar), .val (.ref ak), .val (.ref br), .val (.ref ct), .val (.int sh), .val (.int (own_P (own_dg (x 0) sh) (own_dg (x 1) sh) (own_dg (x 2) sh) 65536)), .val (.ref ak), .val (.int p2)]) rfl kq) ?_
    show own_Go p.tables e below _ (T21.setTop (mkF m 247 #[.val (.ref va), .val (.int (2 : Int32)), .val (.int col), .val (.int (3 : Int32)), .val (.ref bk), .val (.ref ar), .val (.ref ak), .val (.ref br), .val (.ref ct), .val (.int sh), .val (.int (own_P (own_dg (x 0) sh) (own_dg (x 1) sh) (own_dg (x 2) sh) 65536)), .val (.ref ak), .val (.int p2)] []))
    refine own_up (fun _ kq => XS.aload X21.here hx rfl (hb hby d3_247) rfl rfl kq) ?_
    show own_Go p.tables e below _ (T21.setTop (mkF m 249 #[.val (.ref va), .val (.int (2 : Int32)), .val (.int col), .val (.int (3 : Int32)), .val (.ref bk), .val (.ref ar), .val (.ref ak), .val (.ref br), .val (.ref ct), .val (.int sh), .val (.int (own_P (own_dg (x 0) sh) (own_dg (x 1) sh) (own_dg (x 2) sh) 65536)), .val (.ref ak), .val (.int p2)] [(.ref ar)]))
    refine own_up (fun _ kq => XS.astore X21.here hx rfl (hb hby d3_249) rfl rfl (l' := #[.val (.ref va), .val (.int (2 : Int32)), .val (.int col), .val (.int (3 : Int32)), .val (.ref bk), .val (.ref ar), .val (.ref ak), .val (.ref br), .val (.ref ct), .val (.int sh), .val (.int (own_P (own_dg (x 0) sh) (own_dg (x 1) sh) (own_dg (x 2) sh) 65536)), .val (.ref ak), .val (.ref ar)]) rfl kq) ?_
    show own_Go p.tables e below _ (T21.setTop (mkF m 251 #[.val (.ref va), .val (.int (2 : Int32)), .val (.int col), .val (.int (3 : Int32)), .val (.ref bk), .val (.ref ar), .val (.ref ak), .val (.ref br), .val (.ref ct), .val (.int sh), .val (.int (own_P (own_dg (x 0) sh) (own_dg (x 1) sh) (own_dg (x 2) sh) 65536)), .val (.ref ak), .val (.ref ar)] []))
    refine own_up (fun _ kq => XS.aload X21.here hx rfl (hb hby d3_251) rfl rfl kq) ?_
    show own_Go p.tables e below _ (T21.setTop (mkF m 253 #[.val (.ref va), .val (.int (2 : Int32)), .val (.int col), .val (.int (3 : Int32)), .val (.ref bk), .val (.ref ar), .val (.ref ak), .val (.ref br), .val (.ref ct), .val (.int sh), .val (.int (own_P (own_dg (x 0) sh) (own_dg (x 1) sh) (own_dg (x 2) sh) 65536)), .val (.ref ak), .val (.ref ar)] [(.ref br)]))
    refine own_up (fun _ kq => XS.astore X21.here hx rfl (hb hby d3_253) rfl rfl (l' := #[.val (.ref va), .val (.int (2 : Int32)), .val (.int col), .val (.int (3 : Int32)), .val (.ref bk), .val (.ref br), .val (.ref ak), .val (.ref br), .val (.ref ct), .val (.int sh), .val (.int (own_P (own_dg (x 0) sh) (own_dg (x 1) sh) (own_dg (x 2) sh) 65536)), .val (.ref ak), .val (.ref ar)]) rfl kq) ?_
    show own_Go p.tables e below _ (T21.setTop (mkF m 255 #[.val (.ref va), .val (.int (2 : Int32)), .val (.int col), .val (.int (3 : Int32)), .val (.ref bk), .val (.ref br), .val (.ref ak), .val (.ref br), .val (.ref ct), .val (.int sh), .val (.int (own_P (own_dg (x 0) sh) (own_dg (x 1) sh) (own_dg (x 2) sh) 65536)), .val (.ref ak), .val (.ref ar)] []))
    refine own_up (fun _ kq => XS.aload X21.here hx rfl (hb hby d3_255) rfl rfl kq) ?_
    show own_Go p.tables e below _ (T21.setTop (mkF m 257 #[.val (.ref va), .val (.int (2 : Int32)), .val (.int col), .val (.int (3 : Int32)), .val (.ref bk), .val (.ref br), .val (.ref ak), .val (.ref br), .val (.ref ct), .val (.int sh), .val (.int (own_P (own_dg (x 0) sh) (own_dg (x 1) sh) (own_dg (x 2) sh) 65536)), .val (.ref ak), .val (.ref ar)] [(.ref ar)]))
    refine own_up (fun _ kq => XS.astore X21.here hx rfl (hb hby d3_257) rfl rfl (l' := #[.val (.ref va), .val (.int (2 : Int32)), .val (.int col), .val (.int (3 : Int32)), .val (.ref bk), .val (.ref br), .val (.ref ak), .val (.ref ar), .val (.ref ct), .val (.int sh), .val (.int (own_P (own_dg (x 0) sh) (own_dg (x 1) sh) (own_dg (x 2) sh) 65536)), .val (.ref ak), .val (.ref ar)]) rfl kq) ?_
    show own_Go p.tables e below _ (T21.setTop (mkF m 259 #[.val (.ref va), .val (.int (2 : Int32)), .val (.int col), .val (.int (3 : Int32)), .val (.ref bk), .val (.ref br), .val (.ref ak), .val (.ref ar), .val (.ref ct), .val (.int sh), .val (.int (own_P (own_dg (x 0) sh) (own_dg (x 1) sh) (own_dg (x 2) sh) 65536)), .val (.ref ak), .val (.ref ar)] []))
    refine own_up (fun _ kq => XS.iinc X21.here hx rfl (hb hby d3_259) rfl (l' := #[.val (.ref va), .val (.int (2 : Int32)), .val (.int col), .val (.int (3 : Int32)), .val (.ref bk), .val (.ref br), .val (.ref ak), .val (.ref ar), .val (.ref ct), .val (.int (sh + (16 : Int32))), .val (.int (own_P (own_dg (x 0) sh) (own_dg (x 1) sh) (own_dg (x 2) sh) 65536)), .val (.ref ak), .val (.ref ar)]) rfl kq) ?_
    show own_Go p.tables e below _ (T21.setTop (mkF m 262 #[.val (.ref va), .val (.int (2 : Int32)), .val (.int col), .val (.int (3 : Int32)), .val (.ref bk), .val (.ref br), .val (.ref ak), .val (.ref ar), .val (.ref ct), .val (.int (sh + (16 : Int32))), .val (.int (own_P (own_dg (x 0) sh) (own_dg (x 1) sh) (own_dg (x 2) sh) 65536)), .val (.ref ak), .val (.ref ar)] []))
    refine own_up (fun _ kq => XS.goto X21.here hx rfl (pc0 := 262) (pc' := 72) rfl (hb hby d3_262) (by decide) (by decide) kq) ?_
    show own_Go p.tables e below _ (T21.setTop (mkF m 72 #[.val (.ref va), .val (.int (2 : Int32)), .val (.int col), .val (.int (3 : Int32)), .val (.ref bk), .val (.ref br), .val (.ref ak), .val (.ref ar), .val (.ref ct), .val (.int (sh + (16 : Int32))), .val (.int (own_P (own_dg (x 0) sh) (own_dg (x 1) sh) (own_dg (x 2) sh) 65536)), .val (.ref ak), .val (.ref ar)] []))
    exact K _ _ _ bk br ak ar (.val (.int (own_P (own_dg (x 0) sh) (own_dg (x 1) sh) (own_dg (x 2) sh) 65536))) (.val (.ref ak)) (.val (.ref ar)) (own_upd (own_upd (own_upd x2 p0 (x 0)) p1 (x 1)) p2 (x 2)) (own_upd (own_upd (own_upd r2 p0 (r 0)) p1 (r 1)) p2 (r 2)) X21 e21 N21  KK ⟨_, _, _, G_bk, G_br, G_ak, G_ar, G_ct, ⟨ne_bk_br, (Ne.symm ne_ak_bk), (Ne.symm ne_ar_bk), ne_bk_ct, (Ne.symm ne_ak_br), (Ne.symm ne_ar_br), ne_br_ct, ne_ak_ar, ne_ak_ct, ne_ar_ct⟩, ⟨b_bk, b_br, b_ak, b_ar, b_ct⟩⟩ (One.val rfl) (One.val rfl) (One.val rfl) (own_scat hsn hI (own_ps (own_dgN _ _) (own_dgN _ _) (own_dgN _ _) hp0 hp1 hp2))
theorem d3_0 : decode prog_69_method_9_code 0 = .ok (.aload_n 0, 1) := by decide +kernel
theorem d3_1 : decode prog_69_method_9_code 1 = .ok (.arraylength, 1) := by decide +kernel
theorem d3_2 : decode prog_69_method_9_code 2 = .ok (.iload_n 1, 1) := by decide +kernel
theorem d3_3 : decode prog_69_method_9_code 3 = .ok (.idiv, 1) := by decide +kernel
theorem d3_4 : decode prog_69_method_9_code 4 = .ok (.istore_n 3, 1) := by decide +kernel
theorem d3_5 : decode prog_69_method_9_code 5 = .ok (.iload_n 3, 1) := by decide +kernel
theorem d3_6 : decode prog_69_method_9_code 6 = .ok (.newarray .long, 2) := by decide +kernel
theorem d3_8 : decode prog_69_method_9_code 8 = .ok (.astore 4, 2) := by decide +kernel
theorem d3_10 : decode prog_69_method_9_code 10 = .ok (.iload_n 3, 1) := by decide +kernel
theorem d3_11 : decode prog_69_method_9_code 11 = .ok (.newarray .int, 2) := by decide +kernel
theorem d3_13 : decode prog_69_method_9_code 13 = .ok (.astore 5, 2) := by decide +kernel
theorem d3_15 : decode prog_69_method_9_code 15 = .ok (.iconst 0, 1) := by decide +kernel
theorem d3_16 : decode prog_69_method_9_code 16 = .ok (.istore 6, 2) := by decide +kernel
theorem d3_18 : decode prog_69_method_9_code 18 = .ok (.iload 6, 2) := by decide +kernel
theorem d3_20 : decode prog_69_method_9_code 20 = .ok (.iload_n 3, 1) := by decide +kernel
theorem d3_21 : decode prog_69_method_9_code 21 = .ok (.if_icmp .ge 32, 3) := by decide +kernel
theorem d3_24 : decode prog_69_method_9_code 24 = .ok (.aload 4, 2) := by decide +kernel
theorem d3_26 : decode prog_69_method_9_code 26 = .ok (.iload 6, 2) := by decide +kernel
theorem d3_28 : decode prog_69_method_9_code 28 = .ok (.aload_n 0, 1) := by decide +kernel
theorem d3_29 : decode prog_69_method_9_code 29 = .ok (.iload_n 2, 1) := by decide +kernel
theorem d3_30 : decode prog_69_method_9_code 30 = .ok (.iload_n 3, 1) := by decide +kernel
theorem d3_31 : decode prog_69_method_9_code 31 = .ok (.imul, 1) := by decide +kernel
theorem d3_32 : decode prog_69_method_9_code 32 = .ok (.iload 6, 2) := by decide +kernel
theorem d3_34 : decode prog_69_method_9_code 34 = .ok (.iadd, 1) := by decide +kernel
theorem d3_35 : decode prog_69_method_9_code 35 = .ok (.daload, 1) := by decide +kernel
theorem d3_36 : decode prog_69_method_9_code 36 = .ok (.invokestatic 62, 3) := by decide +kernel
theorem d3_39 : decode prog_69_method_9_code 39 = .ok (.lastore, 1) := by decide +kernel
theorem d3_40 : decode prog_69_method_9_code 40 = .ok (.aload 5, 2) := by decide +kernel
theorem d3_42 : decode prog_69_method_9_code 42 = .ok (.iload 6, 2) := by decide +kernel
theorem d3_44 : decode prog_69_method_9_code 44 = .ok (.iload 6, 2) := by decide +kernel
theorem d3_46 : decode prog_69_method_9_code 46 = .ok (.iastore, 1) := by decide +kernel
theorem d3_47 : decode prog_69_method_9_code 47 = .ok (.iinc 6 1, 3) := by decide +kernel
theorem d3_50 : decode prog_69_method_9_code 50 = .ok (.goto (-32), 3) := by decide +kernel
theorem d3_53 : decode prog_69_method_9_code 53 = .ok (.iload_n 3, 1) := by decide +kernel
theorem d3_54 : decode prog_69_method_9_code 54 = .ok (.newarray .long, 2) := by decide +kernel
theorem d3_56 : decode prog_69_method_9_code 56 = .ok (.astore 6, 2) := by decide +kernel
theorem d3_58 : decode prog_69_method_9_code 58 = .ok (.iload_n 3, 1) := by decide +kernel
theorem d3_59 : decode prog_69_method_9_code 59 = .ok (.newarray .int, 2) := by decide +kernel
theorem d3_61 : decode prog_69_method_9_code 61 = .ok (.astore 7, 2) := by decide +kernel
theorem d3_63 : decode prog_69_method_9_code 63 = .ok (.ldc 66, 2) := by decide +kernel
theorem d3_65 : decode prog_69_method_9_code 65 = .ok (.newarray .int, 2) := by decide +kernel
theorem d3_67 : decode prog_69_method_9_code 67 = .ok (.astore 8, 2) := by decide +kernel
theorem d3_69 : decode prog_69_method_9_code 69 = .ok (.iconst 0, 1) := by decide +kernel
theorem d3_70 : decode prog_69_method_9_code 70 = .ok (.istore 9, 2) := by decide +kernel
theorem d3_265 : decode prog_69_method_9_code 265 = .ok (.aload 5, 2) := by decide +kernel
theorem d3_267 : decode prog_69_method_9_code 267 = .ok (.areturn, 1) := by decide +kernel
theorem ef_rmS (m : MethodId) (x0 : Addr) (x1 : Int32) (x2 : Int32) : entryFrame m #[(.ref x0), (.int x1), (.int x2)] 13 = mkF m 0 #[.val (.ref x0), .val (.int x1), .val (.int x2), .unset, .unset, .unset, .unset, .unset, .unset, .unset, .unset, .unset, .unset] [] := by first | (simp [entryFrame, mkF, argsToLocals, Value.category]; done) | rfl
def QrmS (Z : State) (va : Addr) (col : Int32) (ud : Nat → UInt64) (h0 : Heap) (n0 : Nat) (v : Option Value) (h : Heap) (L : List Loc) : Prop := ∃ (b : Addr) (x : Nat → Int64) (r : Nat → Int32), h0.size ≤ b ∧ v = some (.ref b) ∧ Fr n0 L ∧ Keep h0 h [] ∧ own_Arf Z h b .int (3 : Int32) (fun iq => .int (r iq)) ∧ own_I (own_kf ud col) x r 64
set_option maxRecDepth 65536 in
set_option maxHeartbeats 40000000 in
theorem rmS (l : Launch) (Z : State) (a0 : Array Value) (hw : ∀ d ∈ tables_1, d.before a0 Z = true) (ws : List Jvm.Cond) (va : Addr) (col : Int32) (ud : Nat → UInt64) (h0 : Heap) (n0 : Nat) (Z0 : n0 ≤ h0.size) (G_va : own_Arf Z h0 va .double (6 : Int32) (fun iq => .double (ud iq))) (hnn : ∀ i, NoNaN64 (ud i)) (hcol : own_c2 col) :
    MetFree l (⟨"com/example/ranksieve/ranksieve/model/SortedColumn", "sortRows", "([DII)[I"⟩ : MethodName) (head1 (Jvm.Cond.code (⟨"com/example/ranksieve/ranksieve/model/SortedColumn", "sortRows", "([DII)[I"⟩ : MethodName) prog_69_method_9_code 13 (some (.array .int)) :: ws) ({ frames := 4, cells := 5, slots := 65548, locals := 48 } : Room)) (fun aq Uq => aq = #[(.ref va), (.int (2 : Int32)), (.int col)] ∧ Z.Warmed39 Uq.vm ∧ Uq.heap = h0) (fun _ _ _ _ _ => True) (fun _ Uq oq Uq' => ∃ vq Lq, oq = .returned vq ∧ QrmS Z va col ud h0 n0 vq Uq'.heap Lq ∧ FrameEnd Uq oq Uq' Lq ({ frames := 4, cells := 5, slots := 65548, locals := 48 } : Room).cells ({ frames := 4, cells := 5, slots := 65548, locals := 48 } : Room).slots) := by
  refine MetFree.of_bodySF (plainFor_of_name pn_1) hisR ?_
  intro p e s m args below meth c s₁ Bd hml0 hP hK
  obtain ⟨rfl, hZ, hh⟩ := hP
  have hx := Bd.exec
  have hby := Bd.bytes
  have hml : c.maxLocals = 13 := hml0
  have hown : s.vm.findClass "com/example/ranksieve/ranksieve/model/SortedColumn" = some m.cls := findClass_of_methodNamed Bd.named
  have hnm := (name_of_methodNamed Bd.named Bd.method).1
  have X0 : Stand p l e ({ frames := 4, cells := 5, slots := 65548, locals := 48 } : Room) s m #[(.ref va), (.int (2 : Int32)), (.int col)] below meth c s₁ [] 0 0 := Stand.of_body Bd
  have e0 : s₁.heap = h0 := by rw [← hh, Bd.state]; rfl
  have N0 := Fr.nil n0
  have ZH := Z0
  have KK := Keep.refl h0 []
  refine own_start (fun t kq => castTop (ef_rmS m va (2 : Int32) col) kq) ?_
  show own_Go p.tables e below _ (s₁.setTop (mkF m 0 #[.val (.ref va), .val (.int (2 : Int32)), .val (.int col), .unset, .unset, .unset, .unset, .unset, .unset, .unset, .unset, .unset, .unset] []))
  refine own_up (fun _ kq => XS.aloadN X0.here hx rfl (hb hby d3_0) rfl rfl kq) ?_
  show own_Go p.tables e below _ (s₁.setTop (mkF m 1 #[.val (.ref va), .val (.int (2 : Int32)), .val (.int col), .unset, .unset, .unset, .unset, .unset, .unset, .unset, .unset, .unset, .unset] [(.ref va)]))
  refine own_up (fun _ kq => own_Arf.alen G_va X0 hx hZ e0 (g := (mkF m 1 #[.val (.ref va), .val (.int (2 : Int32)), .val (.int col), .unset, .unset, .unset, .unset, .unset, .unset, .unset, .unset, .unset, .unset] [(.ref va)])) rfl rfl (hb hby d3_1) _ kq) ?_
  show own_Go p.tables e below _ (s₁.setTop (mkF m 2 #[.val (.ref va), .val (.int (2 : Int32)), .val (.int col), .unset, .unset, .unset, .unset, .unset, .unset, .unset, .unset, .unset, .unset] [(.int (6 : Int32))]))
  refine own_up (fun _ kq => XS.iloadN X0.here hx rfl (hb hby d3_2) rfl kq) ?_
  show own_Go p.tables e below _ (s₁.setTop (mkF m 3 #[.val (.ref va), .val (.int (2 : Int32)), .val (.int col), .unset, .unset, .unset, .unset, .unset, .unset, .unset, .unset, .unset, .unset] [(.int (2 : Int32)), (.int (6 : Int32))]))
  refine own_up (fun _ kq => XS.idiv X0.here hx rfl (hb hby d3_3) rfl (by decide) kq) ?_
  show own_Go p.tables e below _ (s₁.setTop (mkF m 4 #[.val (.ref va), .val (.int (2 : Int32)), .val (.int col), .unset, .unset, .unset, .unset, .unset, .unset, .unset, .unset, .unset, .unset] [(.int (3 : Int32))]))
  refine own_up (fun _ kq => XS.istoreN X0.here hx rfl (hb hby d3_4) rfl (l' := #[.val (.ref va), .val (.int (2 : Int32)), .val (.int col), .val (.int (3 : Int32)), .unset, .unset, .unset, .unset, .unset, .unset, .unset, .unset, .unset]) rfl kq) ?_
  show own_Go p.tables e below _ (s₁.setTop (mkF m 5 #[.val (.ref va), .val (.int (2 : Int32)), .val (.int col), .val (.int (3 : Int32)), .unset, .unset, .unset, .unset, .unset, .unset, .unset, .unset, .unset] []))
  refine own_up (fun _ kq => XS.iloadN X0.here hx rfl (hb hby d3_5) rfl kq) ?_
  show own_Go p.tables e below _ (s₁.setTop (mkF m 6 #[.val (.ref va), .val (.int (2 : Int32)), .val (.int col), .val (.int (3 : Int32)), .unset, .unset, .unset, .unset, .unset, .unset, .unset, .unset, .unset] [(.int (3 : Int32))]))
  obtain ⟨T1, h1, k1, X1, e1, E1, A1, st1⟩ := newP X0 hx hZ (hw _ (List.mem_of_getElem? (i := 17) rfl)) e0 (g := (mkF m 6 #[.val (.ref va), .val (.int (2 : Int32)), .val (.int col), .val (.int (3 : Int32)), .unset, .unset, .unset, .unset, .unset, .unset, .unset, .unset, .unset] [(.int (3 : Int32))])) rfl (hb hby d3_6) rfl (by decide) (cap := 3) (by decide) (by decide) (by decide) (by decide)
  obtain ⟨b1, gz1⟩ : ∃ z, z = h0.size := ⟨_, rfl⟩
  rw [← gz1] at A1 st1
  have ne_va_b1 : va ≠ b1 := Nat.ne_of_lt (Nat.lt_of_lt_of_le G_va.lt (Nat.le_of_eq gz1.symm))
  have g_b1 : n0 ≤ b1 := Nat.le_trans ZH (Nat.le_of_eq gz1.symm)
  have sz_b1 : h0.size ≤ b1 := Nat.le_trans KK.1 (Nat.le_of_eq gz1.symm)
  have G_va := G_va.ext E1
  have ZH := Nat.le_trans ZH E1.1
  have KK := KK.ext E1
  have G_b1 : own_Arf Z h1 b1 .long (3 : Int32) (fun i => .long ((fun _ => 0 : Nat → Int64) i)) := own_Arf.new A1 (by decide)
  refine own_up st1 ?_
  show own_Go p.tables e below _ (T1.setTop (mkF m 8 #[.val (.ref va), .val (.int (2 : Int32)), .val (.int col), .val (.int (3 : Int32)), .unset, .unset, .unset, .unset, .unset, .unset, .unset, .unset, .unset] [(.ref b1)]))
  refine own_up (fun _ kq => XS.astore X1.here hx rfl (hb hby d3_8) rfl rfl (l' := #[.val (.ref va), .val (.int (2 : Int32)), .val (.int col), .val (.int (3 : Int32)), .val (.ref b1), .unset, .unset, .unset, .unset, .unset, .unset, .unset, .unset]) rfl kq) ?_
  show own_Go p.tables e below _ (T1.setTop (mkF m 10 #[.val (.ref va), .val (.int (2 : Int32)), .val (.int col), .val (.int (3 : Int32)), .val (.ref b1), .unset, .unset, .unset, .unset, .unset, .unset, .unset, .unset] []))
  refine own_up (fun _ kq => XS.iloadN X1.here hx rfl (hb hby d3_10) rfl kq) ?_
  show own_Go p.tables e below _ (T1.setTop (mkF m 11 #[.val (.ref va), .val (.int (2 : Int32)), .val (.int col), .val (.int (3 : Int32)), .val (.ref b1), .unset, .unset, .unset, .unset, .unset, .unset, .unset, .unset] [(.int (3 : Int32))]))
  obtain ⟨T2, h2, k2, X2, e2, E2, A2, st2⟩ := newP X1 hx hZ (hw _ (List.mem_of_getElem? (i := 18) rfl)) e1 (g := (mkF m 11 #[.val (.ref va), .val (.int (2 : Int32)), .val (.int col), .val (.int (3 : Int32)), .val (.ref b1), .unset, .unset, .unset, .unset, .unset, .unset, .unset, .unset] [(.int (3 : Int32))])) rfl (hb hby d3_11) rfl (by decide) (cap := 3) (by decide) (by decide) (by decide) (by decide)
  obtain ⟨b2, gz2⟩ : ∃ z, z = h1.size := ⟨_, rfl⟩
  rw [← gz2] at A2 st2
  have ne_va_b2 : va ≠ b2 := Nat.ne_of_lt (Nat.lt_of_lt_of_le G_va.lt (Nat.le_of_eq gz2.symm))
  have ne_b1_b2 : b1 ≠ b2 := Nat.ne_of_lt (Nat.lt_of_lt_of_le G_b1.lt (Nat.le_of_eq gz2.symm))
  have g_b2 : n0 ≤ b2 := Nat.le_trans ZH (Nat.le_of_eq gz2.symm)
  have sz_b2 : h0.size ≤ b2 := Nat.le_trans KK.1 (Nat.le_of_eq gz2.symm)
  have G_va := G_va.ext E2
  have G_b1 := G_b1.ext E2
  have ZH := Nat.le_trans ZH E2.1
  have KK := KK.ext E2
  have G_b2 : own_Arf Z h2 b2 .int (3 : Int32) (fun i => .int ((fun _ => 0 : Nat → Int32) i)) := own_Arf.new A2 (by decide)
  refine own_up st2 ?_
  show own_Go p.tables e below _ (T2.setTop (mkF m 13 #[.val (.ref va), .val (.int (2 : Int32)), .val (.int col), .val (.int (3 : Int32)), .val (.ref b1), .unset, .unset, .unset, .unset, .unset, .unset, .unset, .unset] [(.ref b2)]))
  refine own_up (fun _ kq => XS.astore X2.here hx rfl (hb hby d3_13) rfl rfl (l' := #[.val (.ref va), .val (.int (2 : Int32)), .val (.int col), .val (.int (3 : Int32)), .val (.ref b1), .val (.ref b2), .unset, .unset, .unset, .unset, .unset, .unset, .unset]) rfl kq) ?_
  show own_Go p.tables e below _ (T2.setTop (mkF m 15 #[.val (.ref va), .val (.int (2 : Int32)), .val (.int col), .val (.int (3 : Int32)), .val (.ref b1), .val (.ref b2), .unset, .unset, .unset, .unset, .unset, .unset, .unset] []))
  refine own_up (fun _ kq => XS.iconst X2.here hx rfl (hb hby d3_15) kq) ?_
  show own_Go p.tables e below _ (T2.setTop (mkF m 16 #[.val (.ref va), .val (.int (2 : Int32)), .val (.int col), .val (.int (3 : Int32)), .val (.ref b1), .val (.ref b2), .unset, .unset, .unset, .unset, .unset, .unset, .unset] [(.int (0 : Int32))]))
  refine own_up (fun _ kq => XS.istore X2.here hx rfl (hb hby d3_16) rfl (l' := #[.val (.ref va), .val (.int (2 : Int32)), .val (.int col), .val (.int (3 : Int32)), .val (.ref b1), .val (.ref b2), .val (.int (0 : Int32)), .unset, .unset, .unset, .unset, .unset, .unset]) rfl kq) ?_
  show own_Go p.tables e below _ (T2.setTop (mkF m 18 #[.val (.ref va), .val (.int (2 : Int32)), .val (.int col), .val (.int (3 : Int32)), .val (.ref b1), .val (.ref b2), .val (.int (0 : Int32)), .unset, .unset, .unset, .unset, .unset, .unset] []))
  refine own_up (fun _ kq => XS.iload X2.here hx rfl (hb hby d3_18) rfl kq) ?_
  show own_Go p.tables e below _ (T2.setTop (mkF m 20 #[.val (.ref va), .val (.int (2 : Int32)), .val (.int col), .val (.int (3 : Int32)), .val (.ref b1), .val (.ref b2), .val (.int (0 : Int32)), .unset, .unset, .unset, .unset, .unset, .unset] [(.int (0 : Int32))]))
  refine own_up (fun _ kq => XS.iloadN X2.here hx rfl (hb hby d3_20) rfl kq) ?_
  show own_Go p.tables e below _ (T2.setTop (mkF m 21 #[.val (.ref va), .val (.int (2 : Int32)), .val (.int col), .val (.int (3 : Int32)), .val (.ref b1), .val (.ref b2), .val (.int (0 : Int32)), .unset, .unset, .unset, .unset, .unset, .unset] [(.int (3 : Int32)), (.int (0 : Int32))]))
  refine own_up (fun _ kq => XS.icmpNo X2.here hx rfl (hb hby d3_21) rfl (tlt (by decide : (0 : Int32) < (3 : Int32))).2.1 kq) ?_
  show own_Go p.tables e below _ (T2.setTop (mkF m 24 #[.val (.ref va), .val (.int (2 : Int32)), .val (.int col), .val (.int (3 : Int32)), .val (.ref b1), .val (.ref b2), .val (.int (0 : Int32)), .unset, .unset, .unset, .unset, .unset, .unset] []))
  refine own_up (fun _ kq => XS.aload X2.here hx rfl (hb hby d3_24) rfl rfl kq) ?_
  show own_Go p.tables e below _ (T2.setTop (mkF m 26 #[.val (.ref va), .val (.int (2 : Int32)), .val (.int col), .val (.int (3 : Int32)), .val (.ref b1), .val (.ref b2), .val (.int (0 : Int32)), .unset, .unset, .unset, .unset, .unset, .unset] [(.ref b1)]))
  refine own_up (fun _ kq => XS.iload X2.here hx rfl (hb hby d3_26) rfl kq) ?_
  show own_Go p.tables e below _ (T2.setTop (mkF m 28 #[.val (.ref va), .val (.int (2 : Int32)), .val (.int col), .val (.int (3 : Int32)), .val (.ref b1), .val (.ref b2), .val (.int (0 : Int32)), .unset, .unset, .unset, .unset, .unset, .unset] [(.int (0 : Int32)), (.ref b1)]))
  refine own_up (fun _ kq => XS.aloadN X2.here hx rfl (hb hby d3_28) rfl rfl kq) ?_
  show own_Go p.tables e below _ (T2.setTop (mkF m 29 #[.val (.ref va), .val (.int (2 : Int32)), .val (.int col), .val (.int (3 : Int32)), .val (.ref b1), .val (.ref b2), .val (.int (0 : Int32)), .unset, .unset, .unset, .unset, .unset, .unset] [(.ref va), (.int (0 : Int32)), (.ref b1)]))
  refine own_up (fun _ kq => XS.iloadN X2.here hx rfl (hb hby d3_29) rfl kq) ?_
  show own_Go p.tables e below _ (T2.setTop (mkF m 30 #[.val (.ref va), .val (.int (2 : Int32)), .val (.int col), .val (.int (3 : Int32)), .val (.ref b1), .val (.ref b2), .val (.int (0 : Int32)), .unset, .unset, .unset, .unset, .unset, .unset] [(.int col), (.ref va), (.int (0 : Int32)), (.ref b1)]))
  refine own_up (fun _ kq => XS.iloadN X2.here hx rfl (hb hby d3_30) rfl kq) ?_
  show own_Go p.tables e below _ (T2.setTop (mkF m 31 #[.val (.ref va), .val (.int (2 : Int32)), .val (.int col), .val (.int (3 : Int32)), .val (.ref b1), .val (.ref b2), .val (.int (0 : Int32)), .unset, .unset, .unset, .unset, .unset, .unset] [(.int (3 : Int32)), (.int col), (.ref va), (.int (0 : Int32)), (.ref b1)]))
  refine own_up (fun _ kq => XS.imul X2.here hx rfl (hb hby d3_31) rfl kq) ?_
  show own_Go p.tables e below _ (T2.setTop (mkF m 32 #[.val (.ref va), .val (.int (2 : Int32)), .val (.int col), .val (.int (3 : Int32)), .val (.ref b1), .val (.ref b2), .val (.int (0 : Int32)), .unset, .unset, .unset, .unset, .unset, .unset] [(.int (col * (3 : Int32))), (.ref va), (.int (0 : Int32)), (.ref b1)]))
  refine own_up (fun _ kq => XS.iload X2.here hx rfl (hb hby d3_32) rfl kq) ?_
  show own_Go p.tables e below _ (T2.setTop (mkF m 34 #[.val (.ref va), .val (.int (2 : Int32)), .val (.int col), .val (.int (3 : Int32)), .val (.ref b1), .val (.ref b2), .val (.int (0 : Int32)), .unset, .unset, .unset, .unset, .unset, .unset] [(.int (0 : Int32)), (.int (col * (3 : Int32))), (.ref va), (.int (0 : Int32)), (.ref b1)]))
  refine own_up (fun _ kq => XS.iadd X2.here hx rfl (hb hby d3_34) rfl kq) ?_
  show own_Go p.tables e below _ (T2.setTop (mkF m 35 #[.val (.ref va), .val (.int (2 : Int32)), .val (.int col), .val (.int (3 : Int32)), .val (.ref b1), .val (.ref b2), .val (.int (0 : Int32)), .unset, .unset, .unset, .unset, .unset, .unset] [(.int ((col * (3 : Int32)) + (0 : Int32))), (.ref va), (.int (0 : Int32)), (.ref b1)]))
  refine own_up (fun _ kq => own_Arf.daload G_va X2 hx hZ e2 (own_cb hcol (by decide)).1 (own_cb hcol (by decide)).2 (v := (.double (ud (((col * (3 : Int32)) + (0 : Int32))).toNatClampNeg))) rfl (g := (mkF m 35 #[.val (.ref va), .val (.int (2 : Int32)), .val (.int col), .val (.int (3 : Int32)), .val (.ref b1), .val (.ref b2), .val (.int (0 : Int32)), .unset, .unset, .unset, .unset, .unset, .unset] [(.int ((col * (3 : Int32)) + (0 : Int32))), (.ref va), (.int (0 : Int32)), (.ref b1)])) rfl rfl (hb hby d3_35) _ kq) ?_
  show own_Go p.tables e below _ (T2.setTop (mkF m 36 #[.val (.ref va), .val (.int (2 : Int32)), .val (.int col), .val (.int (3 : Int32)), .val (.ref b1), .val (.ref b2), .val (.int (0 : Int32)), .unset, .unset, .unset, .unset, .unset, .unset] [(.double (ud (((col * (3 : Int32)) + (0 : Int32))).toNatClampNeg)), (.int (0 : Int32)), (.ref b1)]))
  obtain ⟨_, _, ⟨T3, L3, k3, n3⟩, -, X3, ⟨Lc3, hQ3, l3, y3, z3⟩, st3⟩ := Jvm.LawKit.callS X2 hx (y := (⟨"com/example/ranksieve/ranksieve/model/SortedColumn", "orderedBits", "(D)J"⟩ : MethodName)) hown (mvT hZ (hw _ (List.mem_of_getElem? (i := 19) rfl))) (mvT hZ (hw _ (List.mem_of_getElem? (i := 20) rfl))) (mvT hZ (hw _ (List.mem_of_getElem? (i := 3) rfl))) (mvT hZ (hw _ (List.mem_of_getElem? (i := 21) rfl))) (by decide) (backOf (W := 2) (rmB l Z a0 hw [] (ud (((col * (3 : Int32)) + (0 : Int32))).toNatClampNeg) h2 n0 ZH (hnn _)) hZ (hw _ (List.mem_of_getElem? (i := 21) rfl)) (hw _ (List.mem_of_getElem? (i := 3) rfl)) (by decide) (by decide)) (g := (mkF m 36 #[.val (.ref va), .val (.int (2 : Int32)), .val (.int col), .val (.int (3 : Int32)), .val (.ref b1), .val (.ref b2), .val (.int (0 : Int32)), .unset, .unset, .unset, .unset, .unset, .unset] [(.double (ud (((col * (3 : Int32)) + (0 : Int32))).toNatClampNeg)), (.int (0 : Int32)), (.ref b1)])) rfl (by rw [hml]; rfl) (argsL := [(.double (ud (((col * (3 : Int32)) + (0 : Int32))).toNatClampNeg))]) (rest := [(.int (0 : Int32)), (.ref b1)]) (lenOf pd_1 rfl) rfl (by show 2 * 0 + _ ≤ _; exact Nat.le_of_eq rfl) (hb hby d3_36) (fun _ _ => ⟨rfl, e2, (by decide : 2 + 0 ≤ _), (by decide : 6 + 0 ≤ _)⟩)
  dsimp only [Pt.U, Pt.locs, Pt.cells, Pt.slots] at X3 l3 y3 z3 st3 hQ3
  subst l3 y3 z3
  obtain ⟨rfl, Nq3, e3⟩ := hQ3
  have N3 := Fr.app N0 Nq3
  refine own_up st3 ?_
  show own_Go p.tables e below _ (T3.setTop (mkF m 39 #[.val (.ref va), .val (.int (2 : Int32)), .val (.int col), .val (.int (3 : Int32)), .val (.ref b1), .val (.ref b2), .val (.int (0 : Int32)), .unset, .unset, .unset, .unset, .unset, .unset] [(.long (own_ob (ud (((col * (3 : Int32)) + (0 : Int32))).toNatClampNeg))), (.int (0 : Int32)), (.ref b1)]))
  obtain ⟨cl4, Ar4, sz4, nz4, hc4⟩ := id G_b1
  obtain ⟨T4, h4, X4, e4, W4, st4⟩ := stJ X3 hx hZ e3 Ar4 (j := (0 : Int32)) (inb_of sz4 ⟨(by decide), (by decide)⟩) (g := (mkF m 39 #[.val (.ref va), .val (.int (2 : Int32)), .val (.int col), .val (.int (3 : Int32)), .val (.ref b1), .val (.ref b2), .val (.int (0 : Int32)), .unset, .unset, .unset, .unset, .unset, .unset] [(.long (own_ob (ud (((col * (3 : Int32)) + (0 : Int32))).toNatClampNeg))), (.int (0 : Int32)), (.ref b1)])) rfl rfl (hb hby d3_39)
  have G_b1 : own_Arf Z h4 b1 .long (3 : Int32) (fun i => .long ((own_upd (fun _ => 0 : Nat → Int64) (0 : Int32) (own_ob (ud (((col * (3 : Int32)) + (0 : Int32))).toNatClampNeg))) i)) := own_Arf.setJ G_b1 W4
  have N4 := Fr.snoc X4 N3 g_b1
  have G_va := G_va.other W4 ne_va_b1
  have G_b2 := G_b2.other W4 (Ne.symm ne_b1_b2)
  have ZH := Nat.le_trans ZH (Nat.le_of_eq W4.size.symm)
  have KK := KK.wr W4 (Or.inr sz_b1)
  refine own_up st4 ?_
  show own_Go p.tables e below _ (T4.setTop (mkF m 40 #[.val (.ref va), .val (.int (2 : Int32)), .val (.int col), .val (.int (3 : Int32)), .val (.ref b1), .val (.ref b2), .val (.int (0 : Int32)), .unset, .unset, .unset, .unset, .unset, .unset] []))
  refine own_up (fun _ kq => XS.aload X4.here hx rfl (hb hby d3_40) rfl rfl kq) ?_
  show own_Go p.tables e below _ (T4.setTop (mkF m 42 #[.val (.ref va), .val (.int (2 : Int32)), .val (.int col), .val (.int (3 : Int32)), .val (.ref b1), .val (.ref b2), .val (.int (0 : Int32)), .unset, .unset, .unset, .unset, .unset, .unset] [(.ref b2)]))
  refine own_up (fun _ kq => XS.iload X4.here hx rfl (hb hby d3_42) rfl kq) ?_
  show own_Go p.tables e below _ (T4.setTop (mkF m 44 #[.val (.ref va), .val (.int (2 : Int32)), .val (.int col), .val (.int (3 : Int32)), .val (.ref b1), .val (.ref b2), .val (.int (0 : Int32)), .unset, .unset, .unset, .unset, .unset, .unset] [(.int (0 : Int32)), (.ref b2)]))
  refine own_up (fun _ kq => XS.iload X4.here hx rfl (hb hby d3_44) rfl kq) ?_
  show own_Go p.tables e below _ (T4.setTop (mkF m 46 #[.val (.ref va), .val (.int (2 : Int32)), .val (.int col), .val (.int (3 : Int32)), .val (.ref b1), .val (.ref b2), .val (.int (0 : Int32)), .unset, .unset, .unset, .unset, .unset, .unset] [(.int (0 : Int32)), (.int (0 : Int32)), (.ref b2)]))
  obtain ⟨cl5, Ar5, sz5, nz5, hc5⟩ := id G_b2
  obtain ⟨T5, h5, X5, e5, W5, st5⟩ := stI X4 hx hZ e4 Ar5 (j := (0 : Int32)) (inb_of sz5 ⟨(by decide), (by decide)⟩) (g := (mkF m 46 #[.val (.ref va), .val (.int (2 : Int32)), .val (.int col), .val (.int (3 : Int32)), .val (.ref b1), .val (.ref b2), .val (.int (0 : Int32)), .unset, .unset, .unset, .unset, .unset, .unset] [(.int (0 : Int32)), (.int (0 : Int32)), (.ref b2)])) rfl rfl (hb hby d3_46)
  have G_b2 : own_Arf Z h5 b2 .int (3 : Int32) (fun i => .int ((own_upd (fun _ => 0 : Nat → Int32) (0 : Int32) (0 : Int32)) i)) := own_Arf.setI G_b2 W5
  have N5 := Fr.snoc X5 N4 g_b2
  have G_va := G_va.other W5 ne_va_b2
  have G_b1 := G_b1.other W5 ne_b1_b2
  have ZH := Nat.le_trans ZH (Nat.le_of_eq W5.size.symm)
  have KK := KK.wr W5 (Or.inr sz_b2)
  refine own_up st5 ?_
  show own_Go p.tables e below _ (T5.setTop (mkF m 47 #[.val (.ref va), .val (.int (2 : Int32)), .val (.int col), .val (.int (3 : Int32)), .val (.ref b1), .val (.ref b2), .val (.int (0 : Int32)), .unset, .unset, .unset, .unset, .unset, .unset] []))
  refine own_up (fun _ kq => XS.iinc X5.here hx rfl (hb hby d3_47) rfl (l' := #[.val (.ref va), .val (.int (2 : Int32)), .val (.int col), .val (.int (3 : Int32)), .val (.ref b1), .val (.ref b2), .val (.int (1 : Int32)), .unset, .unset, .unset, .unset, .unset, .unset]) rfl kq) ?_
  show own_Go p.tables e below _ (T5.setTop (mkF m 50 #[.val (.ref va), .val (.int (2 : Int32)), .val (.int col), .val (.int (3 : Int32)), .val (.ref b1), .val (.ref b2), .val (.int (1 : Int32)), .unset, .unset, .unset, .unset, .unset, .unset] []))
  refine own_up (fun _ kq => XS.goto X5.here hx rfl (pc0 := 50) (pc' := 18) rfl (hb hby d3_50) (by decide) (by decide) kq) ?_
  show own_Go p.tables e below _ (T5.setTop (mkF m 18 #[.val (.ref va), .val (.int (2 : Int32)), .val (.int col), .val (.int (3 : Int32)), .val (.ref b1), .val (.ref b2), .val (.int (1 : Int32)), .unset, .unset, .unset, .unset, .unset, .unset] []))
  refine own_up (fun _ kq => XS.iload X5.here hx rfl (hb hby d3_18) rfl kq) ?_
  show own_Go p.tables e below _ (T5.setTop (mkF m 20 #[.val (.ref va), .val (.int (2 : Int32)), .val (.int col), .val (.int (3 : Int32)), .val (.ref b1), .val (.ref b2), .val (.int (1 : Int32)), .unset, .unset, .unset, .unset, .unset, .unset] [(.int (1 : Int32))]))
  refine own_up (fun _ kq => XS.iloadN X5.here hx rfl (hb hby d3_20) rfl kq) ?_
  show own_Go p.tables e below _ (T5.setTop (mkF m 21 #[.val (.ref va), .val (.int (2 : Int32)), .val (.int col), .val (.int (3 : Int32)), .val (.ref b1), .val (.ref b2), .val (.int (1 : Int32)), .unset, .unset, .unset, .unset, .unset, .unset] [(.int (3 : Int32)), (.int (1 : Int32))]))
  refine own_up (fun _ kq => XS.icmpNo X5.here hx rfl (hb hby d3_21) rfl (tlt (by decide : (1 : Int32) < (3 : Int32))).2.1 kq) ?_
  show own_Go p.tables e below _ (T5.setTop (mkF m 24 #[.val (.ref va), .val (.int (2 : Int32)), .val (.int col), .val (.int (3 : Int32)), .val (.ref b1), .val (.ref b2), .val (.int (1 : Int32)), .unset, .unset, .unset, .unset, .unset, .unset] []))
  refine own_up (fun _ kq => XS.aload X5.here hx rfl (hb hby d3_24) rfl rfl kq) ?_
  show own_Go p.tables e below _ (T5.setTop (mkF m 26 #[.val (.ref va), .val (.int (2 : Int32)), .val (.int col), .val (.int (3 : Int32)), .val (.ref b1), .val (.ref b2), .val (.int (1 : Int32)), .unset, .unset, .unset, .unset, .unset, .unset] [(.ref b1)]))
  refine own_up (fun _ kq => XS.iload X5.here hx rfl (hb hby d3_26) rfl kq) ?_
  show own_Go p.tables e below _ (T5.setTop (mkF m 28 #[.val (.ref va), .val (.int (2 : Int32)), .val (.int col), .val (.int (3 : Int32)), .val (.ref b1), .val (.ref b2), .val (.int (1 : Int32)), .unset, .unset, .unset, .unset, .unset, .unset] [(.int (1 : Int32)), (.ref b1)]))
  refine own_up (fun _ kq => XS.aloadN X5.here hx rfl (hb hby d3_28) rfl rfl kq) ?_
  show own_Go p.tables e below _ (T5.setTop (mkF m 29 #[.val (.ref va), .val (.int (2 : Int32)), .val (.int col), .val (.int (3 : Int32)), .val (.ref b1), .val (.ref b2), .val (.int (1 : Int32)), .unset, .unset, .unset, .unset, .unset, .unset] [(.ref va), (.int (1 : Int32)), (.ref b1)]))
  refine own_up (fun _ kq => XS.iloadN X5.here hx rfl (hb hby d3_29) rfl kq) ?_
  show own_Go p.tables e below _ (T5.setTop (mkF m 30 #[.val (.ref va), .val (.int (2 : Int32)), .val (.int col), .val (.int (3 : Int32)), .val (.ref b1), .val (.ref b2), .val (.int (1 : Int32)), .unset, .unset, .unset, .unset, .unset, .unset] [(.int col), (.ref va), (.int (1 : Int32)), (.ref b1)]))
  refine own_up (fun _ kq => XS.iloadN X5.here hx rfl (hb hby d3_30) rfl kq) ?_
  show own_Go p.tables e below _ (T5.setTop (mkF m 31 #[.val (.ref va), .val (.int (2 : Int32)), .val (.int col), .val (.int (3 : Int32)), .val (.ref b1), .val (.ref b2), .val (.int (1 : Int32)), .unset, .unset, .unset, .unset, .unset, .unset] [(.int (3 : Int32)), (.int col), (.ref va), (.int (1 : Int32)), (.ref b1)]))
  refine own_up (fun _ kq => XS.imul X5.here hx rfl (hb hby d3_31) rfl kq) ?_
  show own_Go p.tables e below _ (T5.setTop (mkF m 32 #[.val (.ref va), .val (.int (2 : Int32)), .val (.int col), .val (.int (3 : Int32)), .val (.ref b1), .val (.ref b2), .val (.int (1 : Int32)), .unset, .unset, .unset, .unset, .unset, .unset] [(.int (col * (3 : Int32))), (.ref va), (.int (1 : Int32)), (.ref b1)]))
  refine own_up (fun _ kq => XS.iload X5.here hx rfl (hb hby d3_32) rfl kq) ?_
  show own_Go p.tables e below _ (T5.setTop (mkF m 34 #[.val (.ref va), .val (.int (2 : Int32)), .val (.int col), .val (.int (3 : Int32)), .val (.ref b1), .val (.ref b2), .val (.int (1 : Int32)), .unset, .unset, .unset, .unset, .unset, .unset] [(.int (1 : Int32)), (.int (col * (3 : Int32))), (.ref va), (.int (1 : Int32)), (.ref b1)]))
  refine own_up (fun _ kq => XS.iadd X5.here hx rfl (hb hby d3_34) rfl kq) ?_
  show own_Go p.tables e below _ (T5.setTop (mkF m 35 #[.val (.ref va), .val (.int (2 : Int32)), .val (.int col), .val (.int (3 : Int32)), .val (.ref b1), .val (.ref b2), .val (.int (1 : Int32)), .unset, .unset, .unset, .unset, .unset, .unset] [(.int ((col * (3 : Int32)) + (1 : Int32))), (.ref va), (.int (1 : Int32)), (.ref b1)]))
  refine own_up (fun _ kq => own_Arf.daload G_va X5 hx hZ e5 (own_cb hcol (by decide)).1 (own_cb hcol (by decide)).2 (v := (.double (ud (((col * (3 : Int32)) + (1 : Int32))).toNatClampNeg))) rfl (g := (mkF m 35 #[.val (.ref va), .val (.int (2 : Int32)), .val (.int col), .val (.int (3 : Int32)), .val (.ref b1), .val (.ref b2), .val (.int (1 : Int32)), .unset, .unset, .unset, .unset, .unset, .unset] [(.int ((col * (3 : Int32)) + (1 : Int32))), (.ref va), (.int (1 : Int32)), (.ref b1)])) rfl rfl (hb hby d3_35) _ kq) ?_
  show own_Go p.tables e below _ (T5.setTop (mkF m 36 #[.val (.ref va), .val (.int (2 : Int32)), .val (.int col), .val (.int (3 : Int32)), .val (.ref b1), .val (.ref b2), .val (.int (1 : Int32)), .unset, .unset, .unset, .unset, .unset, .unset] [(.double (ud (((col * (3 : Int32)) + (1 : Int32))).toNatClampNeg)), (.int (1 : Int32)), (.ref b1)]))
  obtain ⟨_, _, ⟨T6, L6, k6, n6⟩, -, X6, ⟨Lc6, hQ6, l6, y6, z6⟩, st6⟩ := Jvm.LawKit.callS X5 hx (y := (⟨"com/example/ranksieve/ranksieve/model/SortedColumn", "orderedBits", "(D)J"⟩ : MethodName)) hown (mvT hZ (hw _ (List.mem_of_getElem? (i := 19) rfl))) (mvT hZ (hw _ (List.mem_of_getElem? (i := 20) rfl))) (mvT hZ (hw _ (List.mem_of_getElem? (i := 3) rfl))) (mvT hZ (hw _ (List.mem_of_getElem? (i := 21) rfl))) (by decide) (backOf (W := 2) (rmB l Z a0 hw [] (ud (((col * (3 : Int32)) + (1 : Int32))).toNatClampNeg) h5 n0 ZH (hnn _)) hZ (hw _ (List.mem_of_getElem? (i := 21) rfl)) (hw _ (List.mem_of_getElem? (i := 3) rfl)) (by decide) (by decide)) (g := (mkF m 36 #[.val (.ref va), .val (.int (2 : Int32)), .val (.int col), .val (.int (3 : Int32)), .val (.ref b1), .val (.ref b2), .val (.int (1 : Int32)), .unset, .unset, .unset, .unset, .unset, .unset] [(.double (ud (((col * (3 : Int32)) + (1 : Int32))).toNatClampNeg)), (.int (1 : Int32)), (.ref b1)])) rfl (by rw [hml]; rfl) (argsL := [(.double (ud (((col * (3 : Int32)) + (1 : Int32))).toNatClampNeg))]) (rest := [(.int (1 : Int32)), (.ref b1)]) (lenOf pd_1 rfl) rfl (by show 2 * 0 + _ ≤ _; exact Nat.le_of_eq rfl) (hb hby d3_36) (fun _ _ => ⟨rfl, e5, (by decide : 2 + 0 ≤ _), (by decide : 6 + 0 ≤ _)⟩)
  dsimp only [Pt.U, Pt.locs, Pt.cells, Pt.slots] at X6 l6 y6 z6 st6 hQ6
  subst l6 y6 z6
  obtain ⟨rfl, Nq6, e6⟩ := hQ6
  have N6 := Fr.app N5 Nq6
  refine own_up st6 ?_
  show own_Go p.tables e below _ (T6.setTop (mkF m 39 #[.val (.ref va), .val (.int (2 : Int32)), .val (.int col), .val (.int (3 : Int32)), .val (.ref b1), .val (.ref b2), .val (.int (1 : Int32)), .unset, .unset, .unset, .unset, .unset, .unset] [(.long (own_ob (ud (((col * (3 : Int32)) + (1 : Int32))).toNatClampNeg))), (.int (1 : Int32)), (.ref b1)]))
  obtain ⟨cl7, Ar7, sz7, nz7, hc7⟩ := id G_b1
  obtain ⟨T7, h7, X7, e7, W7, st7⟩ := stJ X6 hx hZ e6 Ar7 (j := (1 : Int32)) (inb_of sz7 ⟨(by decide), (by decide)⟩) (g := (mkF m 39 #[.val (.ref va), .val (.int (2 : Int32)), .val (.int col), .val (.int (3 : Int32)), .val (.ref b1), .val (.ref b2), .val (.int (1 : Int32)), .unset, .unset, .unset, .unset, .unset, .unset] [(.long (own_ob (ud (((col * (3 : Int32)) + (1 : Int32))).toNatClampNeg))), (.int (1 : Int32)), (.ref b1)])) rfl rfl (hb hby d3_39)
  have G_b1 : own_Arf Z h7 b1 .long (3 : Int32) (fun i => .long ((own_upd (own_upd (fun _ => 0 : Nat → Int64) (0 : Int32) (own_ob (ud (((col * (3 : Int32)) + (0 : Int32))).toNatClampNeg))) (1 : Int32) (own_ob (ud (((col * (3 : Int32)) + (1 : Int32))).toNatClampNeg))) i)) := own_Arf.setJ G_b1 W7
  have N7 := Fr.snoc X7 N6 g_b1
  have G_va := G_va.other W7 ne_va_b1
  have G_b2 := G_b2.other W7 (Ne.symm ne_b1_b2)
  have ZH := Nat.le_trans ZH (Nat.le_of_eq W7.size.symm)
  have KK := KK.wr W7 (Or.inr sz_b1)
  refine own_up st7 ?_
  show own_Go p.tables e below _ (T7.setTop (mkF m 40 #[.val (.ref va), .val (.int (2 : Int32)), .val (.int col), .val (.int (3 : Int32)), .val (.ref b1), .val (.ref b2), .val (.int (1 : Int32)), .unset, .unset, .unset, .unset, .unset, .unset] []))
  refine own_up (fun _ kq => XS.aload X7.here hx rfl (hb hby d3_40) rfl rfl kq) ?_
  show own_Go p.tables e below _ (T7.setTop (mkF m 42 #[.val (.ref va), .val (.int (2 : Int32)), .val (.int col), .val (.int (3 : Int32)), .val (.ref b1), .val (.ref b2), .val (.int (1 : Int32)), .unset, .unset, .unset, .unset, .unset, .unset] [(.ref b2)]))
  refine own_up (fun _ kq => XS.iload X7.here hx rfl (hb hby d3_42) rfl kq) ?_
  show own_Go p.tables e below _ (T7.setTop (mkF m 44 #[.val (.ref va), .val (.int (2 : Int32)), .val (.int col), .val (.int (3 : Int32)), .val (.ref b1), .val (.ref b2), .val (.int (1 : Int32)), .unset, .unset, .unset, .unset, .unset, .unset] [(.int (1 : Int32)), (.ref b2)]))
  refine own_up (fun _ kq => XS.iload X7.here hx rfl (hb hby d3_44) rfl kq) ?_
  show own_Go p.tables e below _ (T7.setTop (mkF m 46 #[.val (.ref va), .val (.int (2 : Int32)), .val (.int col), .val (.int (3 : Int32)), .val (.ref b1), .val (.ref b2), .val (.int (1 : Int32)), .unset, .unset, .unset, .unset, .unset, .unset] [(.int (1 : Int32)), (.int (1 : Int32)), (.ref b2)]))
  obtain ⟨cl8, Ar8, sz8, nz8, hc8⟩ := id G_b2
  obtain ⟨T8, h8, X8, e8, W8, st8⟩ := stI X7 hx hZ e7 Ar8 (j := (1 : Int32)) (inb_of sz8 ⟨(by decide), (by decide)⟩) (g := (mkF m 46 #[.val (.ref va), .val (.int (2 : Int32)), .val (.int col), .val (.int (3 : Int32)), .val (.ref b1), .val (.ref b2), .val (.int (1 : Int32)), .unset, .unset, .unset, .unset, .unset, .unset] [(.int (1 : Int32)), (.int (1 : Int32)), (.ref b2)])) rfl rfl (hb hby d3_46)
  have G_b2 : own_Arf Z h8 b2 .int (3 : Int32) (fun i => .int ((own_upd (own_upd (fun _ => 0 : Nat → Int32) (0 : Int32) (0 : Int32)) (1 : Int32) (1 : Int32)) i)) := own_Arf.setI G_b2 W8
  have N8 := Fr.snoc X8 N7 g_b2
  have G_va := G_va.other W8 ne_va_b2
  have G_b1 := G_b1.other W8 ne_b1_b2
  have ZH := Nat.le_trans ZH (Nat.le_of_eq W8.size.symm)
  have KK := KK.wr W8 (Or.inr sz_b2)
  refine own_up st8 ?_
  show own_Go p.tables e below _ (T8.setTop (mkF m 47 #[.val (.ref va), .val (.int (2 : Int32)), .val (.int col), .val (.int (3 : Int32)), .val (.ref b1), .val (.ref b2), .val (.int (1 : Int32)), .unset, .unset, .unset, .unset, .unset, .unset] []))
  refine own_up (fun _ kq => XS.iinc X8.here hx rfl (hb hby d3_47) rfl (l' := #[.val (.ref va), .val (.int (2 : Int32)), .val (.int col), .val (.int (3 : Int32)), .val (.ref b1), .val (.ref b2), .val (.int (2 : Int32)), .unset, .unset, .unset, .unset, .unset, .unset]) rfl kq) ?_
  show own_Go p.tables e below _ (T8.setTop (mkF m 50 #[.val (.ref va), .val (.int (2 : Int32)), .val (.int col), .val (.int (3 : Int32)), .val (.ref b1), .val (.ref b2), .val (.int (2 : Int32)), .unset, .unset, .unset, .unset, .unset, .unset] []))
  refine own_up (fun _ kq => XS.goto X8.here hx rfl (pc0 := 50) (pc' := 18) rfl (hb hby d3_50) (by decide) (by decide) kq) ?_
  show own_Go p.tables e below _ (T8.setTop (mkF m 18 #[.val (.ref va), .val (.int (2 : Int32)), .val (.int col), .val (.int (3 : Int32)), .val (.ref b1), .val (.ref b2), .val (.int (2 : Int32)), .unset, .unset, .unset, .unset, .unset, .unset] []))
  refine own_up (fun _ kq => XS.iload X8.here hx rfl (hb hby d3_18) rfl kq) ?_
  show own_Go p.tables e below _ (T8.setTop (mkF m 20 #[.val (.ref va), .val (.int (2 : Int32)), .val (.int col), .val (.int (3 : Int32)), .val (.ref b1), .val (.ref b2), .val (.int (2 : Int32)), .unset, .unset, .unset, .unset, .unset, .unset] [(.int (2 : Int32))]))
  refine own_up (fun _ kq => XS.iloadN X8.here hx rfl (hb hby d3_20) rfl kq) ?_
  show own_Go p.tables e below _ (T8.setTop (mkF m 21 #[.val (.ref va), .val (.int (2 : Int32)), .val (.int col), .val (.int (3 : Int32)), .val (.ref b1), .val (.ref b2), .val (.int (2 : Int32)), .unset, .unset, .unset, .unset, .unset, .unset] [(.int (3 : Int32)), (.int (2 : Int32))]))
  refine own_up (fun _ kq => XS.icmpNo X8.here hx rfl (hb hby d3_21) rfl (tlt (by decide : (2 : Int32) < (3 : Int32))).2.1 kq) ?_
  show own_Go p.tables e below _ (T8.setTop (mkF m 24 #[.val (.ref va), .val (.int (2 : Int32)), .val (.int col), .val (.int (3 : Int32)), .val (.ref b1), .val (.ref b2), .val (.int (2 : Int32)), .unset, .unset, .unset, .unset, .unset, .unset] []))
  refine own_up (fun _ kq => XS.aload X8.here hx rfl (hb hby d3_24) rfl rfl kq) ?_
  show own_Go p.tables e below _ (T8.setTop (mkF m 26 #[.val (.ref va), .val (.int (2 : Int32)), .val (.int col), .val (.int (3 : Int32)), .val (.ref b1), .val (.ref b2), .val (.int (2 : Int32)), .unset, .unset, .unset, .unset, .unset, .unset] [(.ref b1)]))
  refine own_up (fun _ kq => XS.iload X8.here hx rfl (hb hby d3_26) rfl kq) ?_
  show own_Go p.tables e below _ (T8.setTop (mkF m 28 #[.val (.ref va), .val (.int (2 : Int32)), .val (.int col), .val (.int (3 : Int32)), .val (.ref b1), .val (.ref b2), .val (.int (2 : Int32)), .unset, .unset, .unset, .unset, .unset, .unset] [(.int (2 : Int32)), (.ref b1)]))
  refine own_up (fun _ kq => XS.aloadN X8.here hx rfl (hb hby d3_28) rfl rfl kq) ?_
  show own_Go p.tables e below _ (T8.setTop (mkF m 29 #[.val (.ref va), .val (.int (2 : Int32)), .val (.int col), .val (.int (3 : Int32)), .val (.ref b1), .val (.ref b2), .val (.int (2 : Int32)), .unset, .unset, .unset, .unset, .unset, .unset] [(.ref va), (.int (2 : Int32)), (.ref b1)]))
  refine own_up (fun _ kq => XS.iloadN X8.here hx rfl (hb hby d3_29) rfl kq) ?_
  show own_Go p.tables e below _ (T8.setTop (mkF m 30 #[.val (.ref va), .val (.int (2 : Int32)), .val (.int col), .val (.int (3 : Int32)), .val (.ref b1), .val (.ref b2), .val (.int (2 : Int32)), .unset, .unset, .unset, .unset, .unset, .unset] [(.int col), (.ref va), (.int (2 : Int32)), (.ref b1)]))
  refine own_up (fun _ kq => XS.iloadN X8.here hx rfl (hb hby d3_30) rfl kq) ?_
  show own_Go p.tables e below _ (T8.setTop (mkF m 31 #[.val (.ref va), .val (.int (2 : Int32)), .val (.int col), .val (.int (3 : Int32)), .val (.ref b1), .val (.ref b2), .val (.int (2 : Int32)), .unset, .unset, .unset, .unset, .unset, .unset] [(.int (3 : Int32)), (.int col), (.ref va), (.int (2 : Int32)), (.ref b1)]))
  refine own_up (fun _ kq => XS.imul X8.here hx rfl (hb hby d3_31) rfl kq) ?_
  show own_Go p.tables e below _ (T8.setTop (mkF m 32 #[.val (.ref va), .val (.int (2 : Int32)), .val (.int col), .val (.int (3 : Int32)), .val (.ref b1), .val (.ref b2), .val (.int (2 : Int32)), .unset, .unset, .unset, .unset, .unset, .unset] [(.int (col * (3 : Int32))), (.ref va), (.int (2 : Int32)), (.ref b1)]))
  refine own_up (fun _ kq => XS.iload X8.here hx rfl (hb hby d3_32) rfl kq) ?_
  show own_Go p.tables e below _ (T8.setTop (mkF m 34 #[.val (.ref va), .val (.int (2 : Int32)), .val (.int col), .val (.int (3 : Int32)), .val (.ref b1), .val (.ref b2), .val (.int (2 : Int32)), .unset, .unset, .unset, .unset, .unset, .unset] [(.int (2 : Int32)), (.int (col * (3 : Int32))), (.ref va), (.int (2 : Int32)), (.ref b1)]))
  refine own_up (fun _ kq => XS.iadd X8.here hx rfl (hb hby d3_34) rfl kq) ?_
  show own_Go p.tables e below _ (T8.setTop (mkF m 35 #[.val (.ref va), .val (.int (2 : Int32)), .val (.int col), .val (.int (3 : Int32)), .val (.ref b1), .val (.ref b2), .val (.int (2 : Int32)), .unset, .unset, .unset, .unset, .unset, .unset] [(.int ((col * (3 : Int32)) + (2 : Int32))), (.ref va), (.int (2 : Int32)), (.ref b1)]))
  refine own_up (fun _ kq => own_Arf.daload G_va X8 hx hZ e8 (own_cb hcol (by decide)).1 (own_cb hcol (by decide)).2 (v := (.double (ud (((col * (3 : Int32)) + (2 : Int32))).toNatClampNeg))) rfl (g := (mkF m 35 #[.val (.ref va), .val (.int (2 : Int32)), .val (.int col), .val (.int (3 : Int32)), .val (.ref b1), .val (.ref b2), .val (.int (2 : Int32)), .unset, .unset, .unset, .unset, .unset, .unset] [(.int ((col * (3 : Int32)) + (2 : Int32))), (.ref va), (.int (2 : Int32)), (.ref b1)])) rfl rfl (hb hby d3_35) _ kq) ?_
  show own_Go p.tables e below _ (T8.setTop (mkF m 36 #[.val (.ref va), .val (.int (2 : Int32)), .val (.int col), .val (.int (3 : Int32)), .val (.ref b1), .val (.ref b2), .val (.int (2 : Int32)), .unset, .unset, .unset, .unset, .unset, .unset] [(.double (ud (((col * (3 : Int32)) + (2 : Int32))).toNatClampNeg)), (.int (2 : Int32)), (.ref b1)]))
  obtain ⟨_, _, ⟨T9, L9, k9, n9⟩, -, X9, ⟨Lc9, hQ9, l9, y9, z9⟩, st9⟩ := Jvm.LawKit.callS X8 hx (y := (⟨"com/example/ranksieve/ranksieve/model/SortedColumn", "orderedBits", "(D)J"⟩ : MethodName)) hown (mvT hZ (hw _ (List.mem_of_getElem? (i := 19) rfl))) (mvT hZ (hw _ (List.mem_of_getElem? (i := 20) rfl))) (mvT hZ (hw _ (List.mem_of_getElem? (i := 3) rfl))) (mvT hZ (hw _ (List.mem_of_getElem? (i := 21) rfl))) (by decide) (backOf (W := 2) (rmB l Z a0 hw [] (ud (((col * (3 : Int32)) + (2 : Int32))).toNatClampNeg) h8 n0 ZH (hnn _)) hZ (hw _ (List.mem_of_getElem? (i := 21) rfl)) (hw _ (List.mem_of_getElem? (i := 3) rfl)) (by decide) (by decide)) (g := (mkF m 36 #[.val (.ref va), .val (.int (2 : Int32)), .val (.int col), .val (.int (3 : Int32)), .val (.ref b1), .val (.ref b2), .val (.int (2 : Int32)), .unset, .unset, .unset, .unset, .unset, .unset] [(.double (ud (((col * (3 : Int32)) + (2 : Int32))).toNatClampNeg)), (.int (2 : Int32)), (.ref b1)])) rfl (by rw [hml]; rfl) (argsL := [(.double (ud (((col * (3 : Int32)) + (2 : Int32))).toNatClampNeg))]) (rest := [(.int (2 : Int32)), (.ref b1)]) (lenOf pd_1 rfl) rfl (by show 2 * 0 + _ ≤ _; exact Nat.le_of_eq rfl) (hb hby d3_36) (fun _ _ => ⟨rfl, e8, (by decide : 2 + 0 ≤ _), (by decide : 6 + 0 ≤ _)⟩)
  dsimp only [Pt.U, Pt.locs, Pt.cells, Pt.slots] at X9 l9 y9 z9 st9 hQ9
  subst l9 y9 z9
  obtain ⟨rfl, Nq9, e9⟩ := hQ9
  have N9 := Fr.app N8 Nq9
  refine own_up st9 ?_
  show own_Go p.tables e below _ (T9.setTop (mkF m 39 #[.val (.ref va), .val (.int (2 : Int32)), .val (.int col), .val (.int (3 : Int32)), .val (.ref b1), .val (.ref b2), .val (.int (2 : Int32)), .unset, .unset, .unset, .unset, .unset, .unset] [(.long (own_ob (ud (((col * (3 : Int32)) + (2 : Int32))).toNatClampNeg))), (.int (2 : Int32)), (.ref b1)]))
  obtain ⟨cl10, Ar10, sz10, nz10, hc10⟩ := id G_b1
  obtain ⟨T10, h10, X10, e10, W10, st10⟩ := stJ X9 hx hZ e9 Ar10 (j := (2 : Int32)) (inb_of sz10 ⟨(by decide), (by decide)⟩) (g := (mkF m 39 #[.val (.ref va), .val (.int (2 : Int32)), .val (.int col), .val (.int (3 : Int32)), .val (.ref b1), .val (.ref b2), .val (.int (2 : Int32)), .unset, .unset, .unset, .unset, .unset, .unset] [(.long (own_ob (ud (((col * (3 : Int32)) + (2 : Int32))).toNatClampNeg))), (.int (2 : Int32)), (.ref b1)])) rfl rfl (hb hby d3_39)
  have G_b1 : own_Arf Z h10 b1 .long (3 : Int32) (fun i => .long ((own_upd (own_upd (own_upd (fun _ => 0 : Nat → Int64) (0 : Int32) (own_ob (ud (((col * (3 : Int32)) + (0 : Int32))).toNatClampNeg))) (1 : Int32) (own_ob (ud (((col * (3 : Int32)) + (1 : Int32))).toNatClampNeg))) (2 : Int32) (own_ob (ud (((col * (3 : Int32)) + (2 : Int32))).toNatClampNeg))) i)) := own_Arf.setJ G_b1 W10
  have N10 := Fr.snoc X10 N9 g_b1
  have G_va := G_va.other W10 ne_va_b1
  have G_b2 := G_b2.other W10 (Ne.symm ne_b1_b2)
  have ZH := Nat.le_trans ZH (Nat.le_of_eq W10.size.symm)
  have KK := KK.wr W10 (Or.inr sz_b1)
  refine own_up st10 ?_
  show own_Go p.tables e below _ (T10.setTop (mkF m 40 #[.val (.ref va), .val (.int (2 : Int32)), .val (.int col), .val (.int (3 : Int32)), .val (.ref b1), .val (.ref b2), .val (.int (2 : Int32)), .unset, .unset, .unset, .unset, .unset, .unset] []))
  refine own_up (fun _ kq => XS.aload X10.here hx rfl (hb hby d3_40) rfl rfl kq) ?_
  show own_Go p.tables e below _ (T10.setTop (mkF m 42 #[.val (.ref va), .val (.int (2 : Int32)), .val (.int col), .val (.int (3 : Int32)), .val (.ref b1), .val (.ref b2), .val (.int (2 : Int32)), .unset, .unset, .unset, .unset, .unset, .unset] [(.ref b2)]))
  refine own_up (fun _ kq => XS.iload X10.here hx rfl (hb hby d3_42) rfl kq) ?_
  show own_Go p.tables e below _ (T10.setTop (mkF m 44 #[.val (.ref va), .val (.int (2 : Int32)), .val (.int col), .val (.int (3 : Int32)), .val (.ref b1), .val (.ref b2), .val (.int (2 : Int32)), .unset, .unset, .unset, .unset, .unset, .unset] [(.int (2 : Int32)), (.ref b2)]))
  refine own_up (fun _ kq => XS.iload X10.here hx rfl (hb hby d3_44) rfl kq) ?_
  show own_Go p.tables e below _ (T10.setTop (mkF m 46 #[.val (.ref va), .val (.int (2 : Int32)), .val (.int col), .val (.int (3 : Int32)), .val (.ref b1), .val (.ref b2), .val (.int (2 : Int32)), .unset, .unset, .unset, .unset, .unset, .unset] [(.int (2 : Int32)), (.int (2 : Int32)), (.ref b2)]))
  obtain ⟨cl11, Ar11, sz11, nz11, hc11⟩ := id G_b2
  obtain ⟨T11, h11, X11, e11, W11, st11⟩ := stI X10 hx hZ e10 Ar11 (j := (2 : Int32)) (inb_of sz11 ⟨(by decide), (by decide)⟩) (g := (mkF m 46 #[.val (.ref va), .val (.int (2 : Int32)), .val (.int col), .val (.int (3 : Int32)), .val (.ref b1), .val (.ref b2), .val (.int (2 : Int32)), .unset, .unset, .unset, .unset, .unset, .unset] [(.int (2 : Int32)), (.int (2 : Int32)), (.ref b2)])) rfl rfl (hb hby d3_46)
  have G_b2 : own_Arf Z h11 b2 .int (3 : Int32) (fun i => .int ((own_upd (own_upd (own_upd (fun _ => 0 : Nat → Int32) (0 : Int32) (0 : Int32)) (1 : Int32) (1 : Int32)) (2 : Int32) (2 : Int32)) i)) := own_Arf.setI G_b2 W11
  have N11 := Fr.snoc X11 N10 g_b2
  have G_va := G_va.other W11 ne_va_b2
  have G_b1 := G_b1.other W11 ne_b1_b2
  have ZH := Nat.le_trans ZH (Nat.le_of_eq W11.size.symm)
  have KK := KK.wr W11 (Or.inr sz_b2)
  refine own_up st11 ?_
  show own_Go p.tables e below _ (T11.setTop (mkF m 47 #[.val (.ref va), .val (.int (2 : Int32)), .val (.int col), .val (.int (3 : Int32)), .val (.ref b1), .val (.ref b2), .val (.int (2 : Int32)), .unset, .unset, .unset, .unset, .unset, .unset] []))
  refine own_up (fun _ kq => XS.iinc X11.here hx rfl (hb hby d3_47) rfl (l' := #[.val (.ref va), .val (.int (2 : Int32)), .val (.int col), .val (.int (3 : Int32)), .val (.ref b1), .val (.ref b2), .val (.int (3 : Int32)), .unset, .unset, .unset, .unset, .unset, .unset]) rfl kq) ?_
  show own_Go p.tables e below _ (T11.setTop (mkF m 50 #[.val (.ref va), .val (.int (2 : Int32)), .val (.int col), .val (.int (3 : Int32)), .val (.ref b1), .val (.ref b2), .val (.int (3 : Int32)), .unset, .unset, .unset, .unset, .unset, .unset] []))
  refine own_up (fun _ kq => XS.goto X11.here hx rfl (pc0 := 50) (pc' := 18) rfl (hb hby d3_50) (by decide) (by decide) kq) ?_
  show own_Go p.tables e below _ (T11.setTop (mkF m 18 #[.val (.ref va), .val (.int (2 : Int32)), .val (.int col), .val (.int (3 : Int32)), .val (.ref b1), .val (.ref b2), .val (.int (3 : Int32)), .unset, .unset, .unset, .unset, .unset, .unset] []))
  refine own_up (fun _ kq => XS.iload X11.here hx rfl (hb hby d3_18) rfl kq) ?_
  show own_Go p.tables e below _ (T11.setTop (mkF m 20 #[.val (.ref va), .val (.int (2 : Int32)), .val (.int col), .val (.int (3 : Int32)), .val (.ref b1), .val (.ref b2), .val (.int (3 : Int32)), .unset, .unset, .unset, .unset, .unset, .unset] [(.int (3 : Int32))]))
  refine own_up (fun _ kq => XS.iloadN X11.here hx rfl (hb hby d3_20) rfl kq) ?_
  show own_Go p.tables e below _ (T11.setTop (mkF m 21 #[.val (.ref va), .val (.int (2 : Int32)), .val (.int col), .val (.int (3 : Int32)), .val (.ref b1), .val (.ref b2), .val (.int (3 : Int32)), .unset, .unset, .unset, .unset, .unset, .unset] [(.int (3 : Int32)), (.int (3 : Int32))]))
  refine own_up (fun _ kq => XS.icmpYes X11.here hx rfl (pc0 := 21) (pc' := 53) rfl (hb hby d3_21) rfl (flt (by decide : ¬ ((3 : Int32) < (3 : Int32)))).2.1 (by decide) (by decide) kq) ?_
  show own_Go p.tables e below _ (T11.setTop (mkF m 53 #[.val (.ref va), .val (.int (2 : Int32)), .val (.int col), .val (.int (3 : Int32)), .val (.ref b1), .val (.ref b2), .val (.int (3 : Int32)), .unset, .unset, .unset, .unset, .unset, .unset] []))
  refine own_up (fun _ kq => XS.iloadN X11.here hx rfl (hb hby d3_53) rfl kq) ?_
  show own_Go p.tables e below _ (T11.setTop (mkF m 54 #[.val (.ref va), .val (.int (2 : Int32)), .val (.int col), .val (.int (3 : Int32)), .val (.ref b1), .val (.ref b2), .val (.int (3 : Int32)), .unset, .unset, .unset, .unset, .unset, .unset] [(.int (3 : Int32))]))
  obtain ⟨T12, h12, k12, X12, e12, E12, A12, st12⟩ := newP X11 hx hZ (hw _ (List.mem_of_getElem? (i := 17) rfl)) e11 (g := (mkF m 54 #[.val (.ref va), .val (.int (2 : Int32)), .val (.int col), .val (.int (3 : Int32)), .val (.ref b1), .val (.ref b2), .val (.int (3 : Int32)), .unset, .unset, .unset, .unset, .unset, .unset] [(.int (3 : Int32))])) rfl (hb hby d3_54) rfl (by decide) (cap := 3) (by decide) (by decide) (by decide) (by decide)
  obtain ⟨b12, gz12⟩ : ∃ z, z = h11.size := ⟨_, rfl⟩
  rw [← gz12] at A12 st12
  have ne_b1_b12 : b1 ≠ b12 := Nat.ne_of_lt (Nat.lt_of_lt_of_le G_b1.lt (Nat.le_of_eq gz12.symm))
  have ne_b2_b12 : b2 ≠ b12 := Nat.ne_of_lt (Nat.lt_of_lt_of_le G_b2.lt (Nat.le_of_eq gz12.symm))
  have g_b12 : n0 ≤ b12 := Nat.le_trans ZH (Nat.le_of_eq gz12.symm)
  have sz_b12 : h0.size ≤ b12 := Nat.le_trans KK.1 (Nat.le_of_eq gz12.symm)
  have G_b1 := G_b1.ext E12
  have G_b2 := G_b2.ext E12
  have ZH := Nat.le_trans ZH E12.1
  have KK := KK.ext E12
  have G_b12 : own_Arf Z h12 b12 .long (3 : Int32) (fun i => .long ((fun _ => 0 : Nat → Int64) i)) := own_Arf.new A12 (by decide)
  refine own_up st12 ?_
  show own_Go p.tables e below _ (T12.setTop (mkF m 56 #[.val (.ref va), .val (.int (2 : Int32)), .val (.int col), .val (.int (3 : Int32)), .val (.ref b1), .val (.ref b2), .val (.int (3 : Int32)), .unset, .unset, .unset, .unset, .unset, .unset] [(.ref b12)]))
  refine own_up (fun _ kq => XS.astore X12.here hx rfl (hb hby d3_56) rfl rfl (l' := #[.val (.ref va), .val (.int (2 : Int32)), .val (.int col), .val (.int (3 : Int32)), .val (.ref b1), .val (.ref b2), .val (.ref b12), .unset, .unset, .unset, .unset, .unset, .unset]) rfl kq) ?_
  show own_Go p.tables e below _ (T12.setTop (mkF m 58 #[.val (.ref va), .val (.int (2 : Int32)), .val (.int col), .val (.int (3 : Int32)), .val (.ref b1), .val (.ref b2), .val (.ref b12), .unset, .unset, .unset, .unset, .unset, .unset] []))
  refine own_up (fun _ kq => XS.iloadN X12.here hx rfl (hb hby d3_58) rfl kq) ?_
  show own_Go p.tables e below _ (T12.setTop (mkF m 59 #[.val (.ref va), .val (.int (2 : Int32)), .val (.int col), .val (.int (3 : Int32)), .val (.ref b1), .val (.ref b2), .val (.ref b12), .unset, .unset, .unset, .unset, .unset, .unset] [(.int (3 : Int32))]))
  obtain ⟨T13, h13, k13, X13, e13, E13, A13, st13⟩ := newP X12 hx hZ (hw _ (List.mem_of_getElem? (i := 18) rfl)) e12 (g := (mkF m 59 #[.val (.ref va), .val (.int (2 : Int32)), .val (.int col), .val (.int (3 : Int32)), .val (.ref b1), .val (.ref b2), .val (.ref b12), .unset, .unset, .unset, .unset, .unset, .unset] [(.int (3 : Int32))])) rfl (hb hby d3_59) rfl (by decide) (cap := 3) (by decide) (by decide) (by decide) (by decide)
  obtain ⟨b13, gz13⟩ : ∃ z, z = h12.size := ⟨_, rfl⟩
  rw [← gz13] at A13 st13
  have ne_b1_b13 : b1 ≠ b13 := Nat.ne_of_lt (Nat.lt_of_lt_of_le G_b1.lt (Nat.le_of_eq gz13.symm))
  have ne_b2_b13 : b2 ≠ b13 := Nat.ne_of_lt (Nat.lt_of_lt_of_le G_b2.lt (Nat.le_of_eq gz13.symm))
  have ne_b12_b13 : b12 ≠ b13 := Nat.ne_of_lt (Nat.lt_of_lt_of_le G_b12.lt (Nat.le_of_eq gz13.symm))
  have g_b13 : n0 ≤ b13 := Nat.le_trans ZH (Nat.le_of_eq gz13.symm)
  have sz_b13 : h0.size ≤ b13 := Nat.le_trans KK.1 (Nat.le_of_eq gz13.symm)
  have G_b1 := G_b1.ext E13
  have G_b2 := G_b2.ext E13
  have G_b12 := G_b12.ext E13
  have ZH := Nat.le_trans ZH E13.1
  have KK := KK.ext E13
  have G_b13 : own_Arf Z h13 b13 .int (3 : Int32) (fun i => .int ((fun _ => 0 : Nat → Int32) i)) := own_Arf.new A13 (by decide)
  refine own_up st13 ?_
  show own_Go p.tables e below _ (T13.setTop (mkF m 61 #[.val (.ref va), .val (.int (2 : Int32)), .val (.int col), .val (.int (3 : Int32)), .val (.ref b1), .val (.ref b2), .val (.ref b12), .unset, .unset, .unset, .unset, .unset, .unset] [(.ref b13)]))
  refine own_up (fun _ kq => XS.astore X13.here hx rfl (hb hby d3_61) rfl rfl (l' := #[.val (.ref va), .val (.int (2 : Int32)), .val (.int col), .val (.int (3 : Int32)), .val (.ref b1), .val (.ref b2), .val (.ref b12), .val (.ref b13), .unset, .unset, .unset, .unset, .unset]) rfl kq) ?_
  show own_Go p.tables e below _ (T13.setTop (mkF m 63 #[.val (.ref va), .val (.int (2 : Int32)), .val (.int col), .val (.int (3 : Int32)), .val (.ref b1), .val (.ref b2), .val (.ref b12), .val (.ref b13), .unset, .unset, .unset, .unset, .unset] []))
  refine own_up (fun _ kq => X13.ldcInt hx hown (mvT hZ (hw _ (List.mem_of_getElem? (i := 33) rfl))) (g := (mkF m 63 #[.val (.ref va), .val (.int (2 : Int32)), .val (.int col), .val (.int (3 : Int32)), .val (.ref b1), .val (.ref b2), .val (.ref b12), .val (.ref b13), .unset, .unset, .unset, .unset, .unset] [])) rfl (hb hby d3_63) _ kq) ?_
  show own_Go p.tables e below _ (T13.setTop (mkF m 65 #[.val (.ref va), .val (.int (2 : Int32)), .val (.int col), .val (.int (3 : Int32)), .val (.ref b1), .val (.ref b2), .val (.ref b12), .val (.ref b13), .unset, .unset, .unset, .unset, .unset] [(.int (65536 : Int32))]))
  obtain ⟨T14, h14, k14, X14, e14, E14, A14, st14⟩ := newP X13 hx hZ (hw _ (List.mem_of_getElem? (i := 18) rfl)) e13 (g := (mkF m 65 #[.val (.ref va), .val (.int (2 : Int32)), .val (.int col), .val (.int (3 : Int32)), .val (.ref b1), .val (.ref b2), .val (.ref b12), .val (.ref b13), .unset, .unset, .unset, .unset, .unset] [(.int (65536 : Int32))])) rfl (hb hby d3_65) rfl (by decide) (cap := 65536) (by decide) (by decide) (by decide) (by decide)
  obtain ⟨b14, gz14⟩ : ∃ z, z = h13.size := ⟨_, rfl⟩
  rw [← gz14] at A14 st14
  have ne_b1_b14 : b1 ≠ b14 := Nat.ne_of_lt (Nat.lt_of_lt_of_le G_b1.lt (Nat.le_of_eq gz14.symm))
  have ne_b2_b14 : b2 ≠ b14 := Nat.ne_of_lt (Nat.lt_of_lt_of_le G_b2.lt (Nat.le_of_eq gz14.symm))
  have ne_b12_b14 : b12 ≠ b14 := Nat.ne_of_lt (Nat.lt_of_lt_of_le G_b12.lt (Nat.le_of_eq gz14.symm))
  have ne_b13_b14 : b13 ≠ b14 := Nat.ne_of_lt (Nat.lt_of_lt_of_le G_b13.lt (Nat.le_of_eq gz14.symm))
  have g_b14 : n0 ≤ b14 := Nat.le_trans ZH (Nat.le_of_eq gz14.symm)
  have sz_b14 : h0.size ≤ b14 := Nat.le_trans KK.1 (Nat.le_of_eq gz14.symm)
  have G_b1 := G_b1.ext E14
  have G_b2 := G_b2.ext E14
  have G_b12 := G_b12.ext E14
  have G_b13 := G_b13.ext E14
  have ZH := Nat.le_trans ZH E14.1
  have KK := KK.ext E14
  have G_b14 : own_Arf Z h14 b14 .int (65536 : Int32) (fun i => .int ((fun _ => 0 : Nat → Int32) i)) := own_Arf.new A14 (by decide)
  refine own_up st14 ?_
  show own_Go p.tables e below _ (T14.setTop (mkF m 67 #[.val (.ref va), .val (.int (2 : Int32)), .val (.int col), .val (.int (3 : Int32)), .val (.ref b1), .val (.ref b2), .val (.ref b12), .val (.ref b13), .unset, .unset, .unset, .unset, .unset] [(.ref b14)]))
  refine own_up (fun _ kq => XS.astore X14.here hx rfl (hb hby d3_67) rfl rfl (l' := #[.val (.ref va), .val (.int (2 : Int32)), .val (.int col), .val (.int (3 : Int32)), .val (.ref b1), .val (.ref b2), .val (.ref b12), .val (.ref b13), .val (.ref b14), .unset, .unset, .unset, .unset]) rfl kq) ?_
  show own_Go p.tables e below _ (T14.setTop (mkF m 69 #[.val (.ref va), .val (.int (2 : Int32)), .val (.int col), .val (.int (3 : Int32)), .val (.ref b1), .val (.ref b2), .val (.ref b12), .val (.ref b13), .val (.ref b14), .unset, .unset, .unset, .unset] []))
  refine own_up (fun _ kq => XS.iconst X14.here hx rfl (hb hby d3_69) kq) ?_
  show own_Go p.tables e below _ (T14.setTop (mkF m 70 #[.val (.ref va), .val (.int (2 : Int32)), .val (.int col), .val (.int (3 : Int32)), .val (.ref b1), .val (.ref b2), .val (.ref b12), .val (.ref b13), .val (.ref b14), .unset, .unset, .unset, .unset] [(.int (0 : Int32))]))
  refine own_up (fun _ kq => XS.istore X14.here hx rfl (hb hby d3_70) rfl (l' := #[.val (.ref va), .val (.int (2 : Int32)), .val (.int col), .val (.int (3 : Int32)), .val (.ref b1), .val (.ref b2), .val (.ref b12), .val (.ref b13), .val (.ref b14), .val (.int (0 : Int32)), .unset, .unset, .unset]) rfl kq) ?_
  show own_Go p.tables e below _ (T14.setTop (mkF m 72 #[.val (.ref va), .val (.int (2 : Int32)), .val (.int col), .val (.int (3 : Int32)), .val (.ref b1), .val (.ref b2), .val (.ref b12), .val (.ref b13), .val (.ref b14), .val (.int (0 : Int32)), .unset, .unset, .unset] []))
  have PS0 : own_PS Z h14 h0.size b1 b2 b12 b13 b14 (own_upd (own_upd (own_upd (fun _ => 0 : Nat → Int64) (0 : Int32) (own_ob (ud (((col * (3 : Int32)) + (0 : Int32))).toNatClampNeg))) (1 : Int32) (own_ob (ud (((col * (3 : Int32)) + (1 : Int32))).toNatClampNeg))) (2 : Int32) (own_ob (ud (((col * (3 : Int32)) + (2 : Int32))).toNatClampNeg))) (own_upd (own_upd (own_upd (fun _ => 0 : Nat → Int32) (0 : Int32) (0 : Int32)) (1 : Int32) (1 : Int32)) (2 : Int32) (2 : Int32)) := ⟨_, _, _, G_b1, G_b2, G_b12, G_b13, G_b14, ⟨ne_b1_b2, ne_b1_b12, ne_b1_b13, ne_b1_b14, ne_b2_b12, ne_b2_b13, ne_b2_b14, ne_b12_b13, ne_b12_b14, ne_b13_b14⟩, ⟨sz_b1, sz_b2, sz_b12, sz_b13, sz_b14⟩⟩
  have I0 : own_I (own_kf ud col) (own_upd (own_upd (own_upd (fun _ => 0 : Nat → Int64) (0 : Int32) (own_ob (ud (((col * (3 : Int32)) + (0 : Int32))).toNatClampNeg))) (1 : Int32) (own_ob (ud (((col * (3 : Int32)) + (1 : Int32))).toNatClampNeg))) (2 : Int32) (own_ob (ud (((col * (3 : Int32)) + (2 : Int32))).toNatClampNeg))) (own_upd (own_upd (own_upd (fun _ => 0 : Nat → Int32) (0 : Int32) (0 : Int32)) (1 : Int32) (1 : Int32)) (2 : Int32) (2 : Int32)) 0 := own_I0 _ _ _ rfl rfl rfl rfl rfl rfl
  refine own_pass (nz := 0) (sh := (0 : Int32)) X14 hx hZ hw hby hml hown e14 N11 ZH PS0 I0 (by unfold own_sh; decide) One.u One.u One.u Z0 (fun T15 h15 l15 ak15 ar15 bk15 br15 t10_15 t11_15 t12_15 x15 r15 X15 e15 N15 K15 PS1 O10_1 O11_1 O12_1 I1 => ?_)
  have ZH := Nat.le_trans ZH K15.1
  have KK := KK.trans K15 (allS (Or.inr PS0.sz.1) (allS (Or.inr PS0.sz.2.1) (allS (Or.inr PS0.sz.2.2.1) (allS (Or.inr PS0.sz.2.2.2.1) (allS (Or.inr PS0.sz.2.2.2.2) all0)))))
  show own_Go p.tables e below _ (T15.setTop (mkF m 72 #[.val (.ref va), .val (.int (2 : Int32)), .val (.int col), .val (.int (3 : Int32)), .val (.ref ak15), .val (.ref ar15), .val (.ref bk15), .val (.ref br15), .val (.ref b14), .val (.int (16 : Int32)), t10_15, t11_15, t12_15] []))
  refine own_pass (nz := 16) (sh := (16 : Int32)) X15 hx hZ hw hby hml hown e15 N15 ZH PS1 I1 (by unfold own_sh; decide) O10_1 O11_1 O12_1 Z0 (fun T16 h16 l16 ak16 ar16 bk16 br16 t10_16 t11_16 t12_16 x16 r16 X16 e16 N16 K16 PS2 O10_2 O11_2 O12_2 I2 => ?_)
  have ZH := Nat.le_trans ZH K16.1
  have KK := KK.trans K16 (allS (Or.inr PS1.sz.1) (allS (Or.inr PS1.sz.2.1) (allS (Or.inr PS1.sz.2.2.1) (allS (Or.inr PS1.sz.2.2.2.1) (allS (Or.inr PS1.sz.2.2.2.2) all0)))))
  show own_Go p.tables e below _ (T16.setTop (mkF m 72 #[.val (.ref va), .val (.int (2 : Int32)), .val (.int col), .val (.int (3 : Int32)), .val (.ref ak16), .val (.ref ar16), .val (.ref bk16), .val (.ref br16), .val (.ref b14), .val (.int (32 : Int32)), t10_16, t11_16, t12_16] []))
  refine own_pass (nz := 32) (sh := (32 : Int32)) X16 hx hZ hw hby hml hown e16 N16 ZH PS2 I2 (by unfold own_sh; decide) O10_2 O11_2 O12_2 Z0 (fun T17 h17 l17 ak17 ar17 bk17 br17 t10_17 t11_17 t12_17 x17 r17 X17 e17 N17 K17 PS3 O10_3 O11_3 O12_3 I3 => ?_)
  have ZH := Nat.le_trans ZH K17.1
  have KK := KK.trans K17 (allS (Or.inr PS2.sz.1) (allS (Or.inr PS2.sz.2.1) (allS (Or.inr PS2.sz.2.2.1) (allS (Or.inr PS2.sz.2.2.2.1) (allS (Or.inr PS2.sz.2.2.2.2) all0)))))
  show own_Go p.tables e below _ (T17.setTop (mkF m 72 #[.val (.ref va), .val (.int (2 : Int32)), .val (.int col), .val (.int (3 : Int32)), .val (.ref ak17), .val (.ref ar17), .val (.ref bk17), .val (.ref br17), .val (.ref b14), .val (.int (48 : Int32)), t10_17, t11_17, t12_17] []))
  refine own_pass (nz := 48) (sh := (48 : Int32)) X17 hx hZ hw hby hml hown e17 N17 ZH PS3 I3 (by unfold own_sh; decide) O10_3 O11_3 O12_3 Z0 (fun T18 h18 l18 ak18 ar18 bk18 br18 t10_18 t11_18 t12_18 x18 r18 X18 e18 N18 K18 PS4 O10_4 O11_4 O12_4 I4 => ?_)
  have ZH := Nat.le_trans ZH K18.1
  have KK := KK.trans K18 (allS (Or.inr PS3.sz.1) (allS (Or.inr PS3.sz.2.1) (allS (Or.inr PS3.sz.2.2.1) (allS (Or.inr PS3.sz.2.2.2.1) (allS (Or.inr PS3.sz.2.2.2.2) all0)))))
  show own_Go p.tables e below _ (T18.setTop (mkF m 72 #[.val (.ref va), .val (.int (2 : Int32)), .val (.int col), .val (.int (3 : Int32)), .val (.ref ak18), .val (.ref ar18), .val (.ref bk18), .val (.ref br18), .val (.ref b14), .val (.int (64 : Int32)), t10_18, t11_18, t12_18] []))
  refine own_up (fun _ kq => XS.iload X18.here hx rfl (hb hby d3_72) rfl kq) ?_
  show own_Go p.tables e below _ (T18.setTop (mkF m 74 #[.val (.ref va), .val (.int (2 : Int32)), .val (.int col), .val (.int (3 : Int32)), .val (.ref ak18), .val (.ref ar18), .val (.ref bk18), .val (.ref br18), .val (.ref b14), .val (.int (64 : Int32)), t10_18, t11_18, t12_18] [(.int (64 : Int32))]))
  refine own_up (fun _ kq => XS.bipush X18.here hx rfl (hb hby d3_74) kq) ?_
  show own_Go p.tables e below _ (T18.setTop (mkF m 76 #[.val (.ref va), .val (.int (2 : Int32)), .val (.int col), .val (.int (3 : Int32)), .val (.ref ak18), .val (.ref ar18), .val (.ref bk18), .val (.ref br18), .val (.ref b14), .val (.int (64 : Int32)), t10_18, t11_18, t12_18] [(.int (64 : Int32)), (.int (64 : Int32))]))
  refine own_up (fun _ kq => XS.icmpYes X18.here hx rfl (pc0 := 76) (pc' := 265) rfl (hb hby d3_76) rfl (flt (by decide : ¬ ((64 : Int32) < (64 : Int32)))).2.1 (by decide) (by decide) kq) ?_
  show own_Go p.tables e below _ (T18.setTop (mkF m 265 #[.val (.ref va), .val (.int (2 : Int32)), .val (.int col), .val (.int (3 : Int32)), .val (.ref ak18), .val (.ref ar18), .val (.ref bk18), .val (.ref br18), .val (.ref b14), .val (.int (64 : Int32)), t10_18, t11_18, t12_18] []))
  refine own_up (fun _ kq => XS.aload X18.here hx rfl (hb hby d3_265) rfl rfl kq) ?_
  show own_Go p.tables e below _ (T18.setTop (mkF m 267 #[.val (.ref va), .val (.int (2 : Int32)), .val (.int col), .val (.int (3 : Int32)), .val (.ref ak18), .val (.ref ar18), .val (.ref bk18), .val (.ref br18), .val (.ref b14), .val (.int (64 : Int32)), t10_18, t11_18, t12_18] [(.ref ar18)]))
  obtain ⟨fs19, hr19, hrun19, hended19, hW19, hsame19⟩ := X18.leave (v := some (.ref ar18)) (fun h => by rw [Bd.returns] at h; cases h)
  refine own_end ⟨_, _, ?_, hrun19, hended19, _, _, rfl, ?_, ⟨_, rfl⟩, hW19, hsame19.mono (by decide) (by decide)⟩
  · exact retOut X18 hx Bd.returns rfl (Or.inr (Or.inr (Or.inr (Or.inr ⟨rfl, rfl, rfl⟩)))) (hb hby d3_267) hr19
  · show QrmS Z va col ud h0 n0 _ T18.heap _
    rw [e18]
    exact ⟨_, _, _, PS4.sz.2.1, rfl, N18, KK, PS4.gr, I4⟩
theorem d1_0 : decode prog_69_method_1_code 0 = .ok (.aload_n 0, 1) := by decide +kernel
theorem d1_1 : decode prog_69_method_1_code 1 = .ok (.invokespecial 3, 3) := by decide +kernel
theorem d1_4 : decode prog_69_method_1_code 4 = .ok (.aload_n 0, 1) := by decide +kernel
theorem d1_5 : decode prog_69_method_1_code 5 = .ok (.iconst 0, 1) := by decide +kernel
theorem d1_6 : decode prog_69_method_1_code 6 = .ok (.newarray .double, 2) := by decide +kernel
theorem d1_8 : decode prog_69_method_1_code 8 = .ok (.putfield 9, 3) := by decide +kernel
theorem d1_11 : decode prog_69_method_1_code 11 = .ok (.aload_n 0, 1) := by decide +kernel
theorem d1_12 : decode prog_69_method_1_code 12 = .ok (.iconst 0, 1) := by decide +kernel
theorem d1_13 : decode prog_69_method_1_code 13 = .ok (.newarray .double, 2) := by decide +kernel
theorem d1_15 : decode prog_69_method_1_code 15 = .ok (.putfield 13, 3) := by decide +kernel
theorem d1_18 : decode prog_69_method_1_code 18 = .ok (.aload_n 0, 1) := by decide +kernel
theorem d1_19 : decode prog_69_method_1_code 19 = .ok (.aload_n 1, 1) := by decide +kernel
theorem d1_20 : decode prog_69_method_1_code 20 = .ok (.iload_n 2, 1) := by decide +kernel
theorem d1_21 : decode prog_69_method_1_code 21 = .ok (.iload_n 3, 1) := by decide +kernel
theorem d1_22 : decode prog_69_method_1_code 22 = .ok (.invokestatic 16, 3) := by decide +kernel
theorem pd_4 : parseMethodDescriptor "([DII)[I" = some ⟨[(.array .double), .int, .int], some (.array .int)⟩ := by decide +kernel
theorem d1_25 : decode prog_69_method_1_code 25 = .ok (.putfield 20, 3) := by decide +kernel
theorem d1_28 : decode prog_69_method_1_code 28 = .ok (.aload_n 0, 1) := by decide +kernel
theorem d1_29 : decode prog_69_method_1_code 29 = .ok (.aload_n 1, 1) := by decide +kernel
theorem d1_30 : decode prog_69_method_1_code 30 = .ok (.putfield 24, 3) := by decide +kernel
theorem d1_33 : decode prog_69_method_1_code 33 = .ok (.aload_n 0, 1) := by decide +kernel
theorem d1_34 : decode prog_69_method_1_code 34 = .ok (.iload_n 2, 1) := by decide +kernel
theorem d1_35 : decode prog_69_method_1_code 35 = .ok (.putfield 27, 3) := by decide +kernel
theorem d1_38 : decode prog_69_method_1_code 38 = .ok (.aload_n 0, 1) := by decide +kernel
theorem d1_39 : decode prog_69_method_1_code 39 = .ok (.iload_n 3, 1) := by decide +kernel
theorem d1_40 : decode prog_69_method_1_code 40 = .ok (.putfield 31, 3) := by decide +kernel
theorem d1_43 : decode prog_69_method_1_code 43 = .ok (.return_, 1) := by decide +kernel
theorem ef_rmC (m : MethodId) (x0 : Addr) (x1 : Addr) (x2 : Int32) (x3 : Int32) : entryFrame m #[(.ref x0), (.ref x1), (.int x2), (.int x3)] 4 = mkF m 0 #[.val (.ref x0), .val (.ref x1), .val (.int x2), .val (.int x3)] [] := by first | (simp [entryFrame, mkF, argsToLocals, Value.category]; done) | rfl
def QrmC (Z : State) (a : Addr) (va : Addr) (col : Int32) (ud : Nat → UInt64) (h0 : Heap) (n0 : Nat) (v : Option Value) (h : Heap) (L : List Loc) : Prop := v = none ∧ Fr n0 L ∧ Keep h0 h [a] ∧ ∃ (rb : Addr) (x : Nat → Int64) (r : Nat → Int32), Fld Z h a "com/example/ranksieve/ranksieve/model/SortedColumn" "_rows" "[I" (.ref rb) ∧ Fld Z h a "com/example/ranksieve/ranksieve/model/SortedColumn" "_values" "[D" (.ref va) ∧ Fld Z h a "com/example/ranksieve/ranksieve/model/SortedColumn" "_column" "I" (.int col) ∧ own_Arf Z h rb .int (3 : Int32) (fun iq => .int (r iq)) ∧ own_I (own_kf ud col) x r 64
set_option maxRecDepth 65536 in
set_option maxHeartbeats 40000000 in
theorem rmC (l : Launch) (Z : State) (a0 : Array Value) (hw : ∀ d ∈ tables_1, d.before a0 Z = true) (ws : List Jvm.Cond) (a : Addr) (va : Addr) (col : Int32) (ud : Nat → UInt64) (h0 : Heap) (n0 : Nat) (Z0 : n0 ≤ h0.size) (E_a : Exa Z h0 a "com/example/ranksieve/ranksieve/model/SortedColumn") (F__copyFromFirst_a : Fld Z h0 a "com/example/ranksieve/ranksieve/model/SortedColumn" "_copyFromFirst" "[D" .null) (F__copyFromLast_a : Fld Z h0 a "com/example/ranksieve/ranksieve/model/SortedColumn" "_copyFromLast" "[D" .null) (F__rows_a : Fld Z h0 a "com/example/ranksieve/ranksieve/model/SortedColumn" "_rows" "[I" .null) (F__values_a : Fld Z h0 a "com/example/ranksieve/ranksieve/model/SortedColumn" "_values" "[D" .null) (F__width_a : Fld Z h0 a "com/example/ranksieve/ranksieve/model/SortedColumn" "_width" "I" (.int (0 : Int32))) (F__column_a : Fld Z h0 a "com/example/ranksieve/ranksieve/model/SortedColumn" "_column" "I" (.int (0 : Int32))) (g_a : n0 ≤ a) (G_va : own_Arf Z h0 va .double (6 : Int32) (fun iq => .double (ud iq))) (ne_va_a : va ≠ a) (hnn : ∀ i, NoNaN64 (ud i)) (hcol : own_c2 col) :
    MetFree l (⟨"com/example/ranksieve/ranksieve/model/SortedColumn", "<init>", "([DII)V"⟩ : MethodName) (head1 (Jvm.Cond.code (⟨"com/example/ranksieve/ranksieve/model/SortedColumn", "<init>", "([DII)V"⟩ : MethodName) prog_69_method_1_code 4 none :: ws) ({ frames := 5, cells := 7, slots := 65548, locals := 73 } : Room)) (fun aq Uq => aq = #[(.ref a), (.ref va), (.int (2 : Int32)), (.int col)] ∧ Z.Warmed39 Uq.vm ∧ Uq.heap = h0) (fun _ _ _ _ _ => True) (fun _ Uq oq Uq' => ∃ vq Lq, oq = .returned vq ∧ QrmC Z a va col ud h0 n0 vq Uq'.heap Lq ∧ FrameEnd Uq oq Uq' Lq ({ frames := 5, cells := 7, slots := 65548, locals := 73 } : Room).cells ({ frames := 5, cells := 7, slots := 65548, locals := 73 } : Room).slots) := by
  refine MetFree.of_bodySF (plainFor_of_name pn_1) hisR ?_
  intro p e s m args below meth c s₁ Bd hml0 hP hK
  obtain ⟨rfl, hZ, hh⟩ := hP
  have hx := Bd.exec
  have hby := Bd.bytes
  have hml : c.maxLocals = 4 := hml0
  have hown : s.vm.findClass "com/example/ranksieve/ranksieve/model/SortedColumn" = some m.cls := findClass_of_methodNamed Bd.named
  have hnm := (name_of_methodNamed Bd.named Bd.method).1
  have X0 : Stand p l e ({ frames := 5, cells := 7, slots := 65548, locals := 73 } : Room) s m #[(.ref a), (.ref va), (.int (2 : Int32)), (.int col)] below meth c s₁ [] 0 0 := Stand.of_body Bd
  have e0 : s₁.heap = h0 := by rw [← hh, Bd.state]; rfl
  have N0 := Fr.nil n0
  have ZH := Z0
  have KK := Keep.refl h0 [a]
  refine own_start (fun t kq => castTop (ef_rmC m a va (2 : Int32) col) kq) ?_
  show own_Go p.tables e below _ (s₁.setTop (mkF m 0 #[.val (.ref a), .val (.ref va), .val (.int (2 : Int32)), .val (.int col)] []))
  refine own_up (fun _ kq => XS.aloadN X0.here hx rfl (hb hby d1_0) rfl rfl kq) ?_
  show own_Go p.tables e below _ (s₁.setTop (mkF m 1 #[.val (.ref a), .val (.ref va), .val (.int (2 : Int32)), .val (.int col)] [(.ref a)]))
  obtain ⟨T1, X1, e1, st1⟩ := initO X0 hx hZ hown (hw _ (List.mem_of_getElem? (i := 7) rfl)) (hw _ (List.mem_of_getElem? (i := 8) rfl)) (hw _ (List.mem_of_getElem? (i := 9) rfl)) e0 (g := (mkF m 1 #[.val (.ref a), .val (.ref va), .val (.int (2 : Int32)), .val (.int col)] [(.ref a)])) rfl (by rw [hml]; rfl) rfl (hb hby d1_1) (by decide) (W := 0) (by show 2 * 0 + _ ≤ _; exact Nat.le_of_eq rfl) (by decide)
  refine own_up st1 ?_
  show own_Go p.tables e below _ (T1.setTop (mkF m 4 #[.val (.ref a), .val (.ref va), .val (.int (2 : Int32)), .val (.int col)] []))
  refine own_up (fun _ kq => XS.aloadN X1.here hx rfl (hb hby d1_4) rfl rfl kq) ?_
  show own_Go p.tables e below _ (T1.setTop (mkF m 5 #[.val (.ref a), .val (.ref va), .val (.int (2 : Int32)), .val (.int col)] [(.ref a)]))
  refine own_up (fun _ kq => XS.iconst X1.here hx rfl (hb hby d1_5) kq) ?_
  show own_Go p.tables e below _ (T1.setTop (mkF m 6 #[.val (.ref a), .val (.ref va), .val (.int (2 : Int32)), .val (.int col)] [(.int (0 : Int32)), (.ref a)]))
  obtain ⟨T2, h2, k2, X2, e2, E2, A2, st2⟩ := newP X1 hx hZ (hw _ (List.mem_of_getElem? (i := 0) rfl)) e1 (g := (mkF m 6 #[.val (.ref a), .val (.ref va), .val (.int (2 : Int32)), .val (.int col)] [(.int (0 : Int32)), (.ref a)])) rfl (hb hby d1_6) rfl (by decide) (cap := 0) (by decide) (by decide) (by decide) (by decide)
  obtain ⟨b2, gz2⟩ : ∃ z, z = h0.size := ⟨_, rfl⟩
  rw [← gz2] at A2 st2
  have ne_a_b2 : a ≠ b2 := Nat.ne_of_lt (Nat.lt_of_lt_of_le E_a.lt (Nat.le_of_eq gz2.symm))
  have ne_va_b2 : va ≠ b2 := Nat.ne_of_lt (Nat.lt_of_lt_of_le G_va.lt (Nat.le_of_eq gz2.symm))
  have g_b2 : n0 ≤ b2 := Nat.le_trans ZH (Nat.le_of_eq gz2.symm)
  have sz_b2 : h0.size ≤ b2 := Nat.le_trans KK.1 (Nat.le_of_eq gz2.symm)
  have E_a := E_a.ext E2
  have G_va := G_va.ext E2
  have F__copyFromFirst_a := F__copyFromFirst_a.ext E2
  have F__copyFromLast_a := F__copyFromLast_a.ext E2
  have F__rows_a := F__rows_a.ext E2
  have F__values_a := F__values_a.ext E2
  have F__width_a := F__width_a.ext E2
  have F__column_a := F__column_a.ext E2
  have ZH := Nat.le_trans ZH E2.1
  have KK := KK.ext E2
  have G_b2 : own_Arf Z h2 b2 .double (0 : Int32) (fun i => .double ((fun _ => 0 : Nat → UInt64) i)) := own_Arf.new A2 (by decide)
  refine own_up st2 ?_
  show own_Go p.tables e below _ (T2.setTop (mkF m 8 #[.val (.ref a), .val (.ref va), .val (.int (2 : Int32)), .val (.int col)] [(.ref b2), (.ref a)]))
  obtain ⟨T3, h3, X3, e3, W3, st3⟩ := putF X2 hx hZ hown (host := "") (Or.inl (hw _ (List.mem_of_getElem? (i := 10) rfl))) Via.refl e2 F__copyFromFirst_a E_a (Or.inl (hw _ (List.mem_of_getElem? (i := 11) rfl))) (hw _ (List.mem_of_getElem? (i := 2) rfl)) (ty := (.array .double)) (by decide) rfl rfl (g := (mkF m 8 #[.val (.ref a), .val (.ref va), .val (.int (2 : Int32)), .val (.int col)] [(.ref b2), (.ref a)])) rfl rfl (hb hby d1_8)
  have N3 := Fr.snoc X3 N0 g_a
  have F__copyFromFirst_a := F__copyFromFirst_a.same W3
  have E_a := E_a.wr W3
  have G_va := G_va.other W3 ne_va_a
  have F__copyFromLast_a := F__copyFromLast_a.other W3 (Or.inr (slot_ne (Or.inl (hw _ (List.mem_of_getElem? (i := 13) rfl))) (Or.inl (hw _ (List.mem_of_getElem? (i := 11) rfl))) (by decide) (t := (.array .double)) (t' := (.array .double)) (by decide) (by decide)))
  have F__rows_a := F__rows_a.other W3 (Or.inr (slot_ne (Or.inr (hw _ (List.mem_of_getElem? (i := 43) rfl))) (Or.inl (hw _ (List.mem_of_getElem? (i := 11) rfl))) (by decide) (t := (.array .int)) (t' := (.array .double)) (by decide) (by decide)))
  have F__values_a := F__values_a.other W3 (Or.inr (slot_ne (Or.inr (hw _ (List.mem_of_getElem? (i := 45) rfl))) (Or.inl (hw _ (List.mem_of_getElem? (i := 11) rfl))) (by decide) (t := (.array .double)) (t' := (.array .double)) (by decide) (by decide)))
  have F__width_a := F__width_a.other W3 (Or.inr (slot_ne (Or.inr (hw _ (List.mem_of_getElem? (i := 47) rfl))) (Or.inl (hw _ (List.mem_of_getElem? (i := 11) rfl))) (by decide) (t := .int) (t' := (.array .double)) (by decide) (by decide)))
  have F__column_a := F__column_a.other W3 (Or.inr (slot_ne (Or.inr (hw _ (List.mem_of_getElem? (i := 49) rfl))) (Or.inl (hw _ (List.mem_of_getElem? (i := 11) rfl))) (by decide) (t := .int) (t' := (.array .double)) (by decide) (by decide)))
  have G_b2 := G_b2.other W3 (Ne.symm ne_a_b2)
  have ZH := Nat.le_trans ZH (Nat.le_of_eq W3.size.symm)
  have KK := KK.wr W3 (Or.inl (List.mem_of_getElem? (i := 0) rfl))
  refine own_up st3 ?_
  show own_Go p.tables e below _ (T3.setTop (mkF m 11 #[.val (.ref a), .val (.ref va), .val (.int (2 : Int32)), .val (.int col)] []))
  refine own_up (fun _ kq => XS.aloadN X3.here hx rfl (hb hby d1_11) rfl rfl kq) ?_
  show own_Go p.tables e below _ (T3.setTop (mkF m 12 #[.val (.ref a), .val (.ref va), .val (.int (2 : Int32)), .val (.int col)] [(.ref a)]))
  refine own_up (fun _ kq => XS.iconst X3.here hx rfl (hb hby d1_12) kq) ?_
  show own_Go p.tables e below _ (T3.setTop (mkF m 13 #[.val (.ref a), .val (.ref va), .val (.int (2 : Int32)), .val (.int col)] [(.int (0 : Int32)), (.ref a)]))
  obtain ⟨T4, h4, k4, X4, e4, E4, A4, st4⟩ := newP X3 hx hZ (hw _ (List.mem_of_getElem? (i := 0) rfl)) e3 (g := (mkF m 13 #[.val (.ref a), .val (.ref va), .val (.int (2 : Int32)), .val (.int col)] [(.int (0 : Int32)), (.ref a)])) rfl (hb hby d1_13) rfl (by decide) (cap := 0) (by decide) (by decide) (by decide) (by decide)
  obtain ⟨b4, gz4⟩ : ∃ z, z = h3.size := ⟨_, rfl⟩
  rw [← gz4] at A4 st4
  have ne_a_b4 : a ≠ b4 := Nat.ne_of_lt (Nat.lt_of_lt_of_le E_a.lt (Nat.le_of_eq gz4.symm))
  have ne_va_b4 : va ≠ b4 := Nat.ne_of_lt (Nat.lt_of_lt_of_le G_va.lt (Nat.le_of_eq gz4.symm))
  have g_b4 : n0 ≤ b4 := Nat.le_trans ZH (Nat.le_of_eq gz4.symm)
  have sz_b4 : h0.size ≤ b4 := Nat.le_trans KK.1 (Nat.le_of_eq gz4.symm)
  have E_a := E_a.ext E4
  have G_va := G_va.ext E4
  have F__copyFromLast_a := F__copyFromLast_a.ext E4
  have F__rows_a := F__rows_a.ext E4
  have F__values_a := F__values_a.ext E4
  have F__width_a := F__width_a.ext E4
  have F__column_a := F__column_a.ext E4
  have ZH := Nat.le_trans ZH E4.1
  have KK := KK.ext E4
  have G_b4 : own_Arf Z h4 b4 .double (0 : Int32) (fun i => .double ((fun _ => 0 : Nat → UInt64) i)) := own_Arf.new A4 (by decide)
  refine own_up st4 ?_
  show own_Go p.tables e below _ (T4.setTop (mkF m 15 #[.val (.ref a), .val (.ref va), .val (.int (2 : Int32)), .val (.int col)] [(.ref b4), (.ref a)]))
  obtain ⟨T5, h5, X5, e5, W5, st5⟩ := putF X4 hx hZ hown (host := "") (Or.inl (hw _ (List.mem_of_getElem? (i := 12) rfl))) Via.refl e4 F__copyFromLast_a E_a (Or.inl (hw _ (List.mem_of_getElem? (i := 13) rfl))) (hw _ (List.mem_of_getElem? (i := 2) rfl)) (ty := (.array .double)) (by decide) rfl rfl (g := (mkF m 15 #[.val (.ref a), .val (.ref va), .val (.int (2 : Int32)), .val (.int col)] [(.ref b4), (.ref a)])) rfl rfl (hb hby d1_15)
  have N5 := Fr.snoc X5 N3 g_a
  have F__copyFromLast_a := F__copyFromLast_a.same W5
  have E_a := E_a.wr W5
  have G_va := G_va.other W5 ne_va_a
  have F__rows_a := F__rows_a.other W5 (Or.inr (slot_ne (Or.inr (hw _ (List.mem_of_getElem? (i := 43) rfl))) (Or.inl (hw _ (List.mem_of_getElem? (i := 13) rfl))) (by decide) (t := (.array .int)) (t' := (.array .double)) (by decide) (by decide)))
  have F__values_a := F__values_a.other W5 (Or.inr (slot_ne (Or.inr (hw _ (List.mem_of_getElem? (i := 45) rfl))) (Or.inl (hw _ (List.mem_of_getElem? (i := 13) rfl))) (by decide) (t := (.array .double)) (t' := (.array .double)) (by decide) (by decide)))
  have F__width_a := F__width_a.other W5 (Or.inr (slot_ne (Or.inr (hw _ (List.mem_of_getElem? (i := 47) rfl))) (Or.inl (hw _ (List.mem_of_getElem? (i := 13) rfl))) (by decide) (t := .int) (t' := (.array .double)) (by decide) (by decide)))
  have F__column_a := F__column_a.other W5 (Or.inr (slot_ne (Or.inr (hw _ (List.mem_of_getElem? (i := 49) rfl))) (Or.inl (hw _ (List.mem_of_getElem? (i := 13) rfl))) (by decide) (t := .int) (t' := (.array .double)) (by decide) (by decide)))
  have G_b4 := G_b4.other W5 (Ne.symm ne_a_b4)
  have ZH := Nat.le_trans ZH (Nat.le_of_eq W5.size.symm)
  have KK := KK.wr W5 (Or.inl (List.mem_of_getElem? (i := 0) rfl))
  refine own_up st5 ?_
  show own_Go p.tables e below _ (T5.setTop (mkF m 18 #[.val (.ref a), .val (.ref va), .val (.int (2 : Int32)), .val (.int col)] []))
  refine own_up (fun _ kq => XS.aloadN X5.here hx rfl (hb hby d1_18) rfl rfl kq) ?_
  show own_Go p.tables e below _ (T5.setTop (mkF m 19 #[.val (.ref a), .val (.ref va), .val (.int (2 : Int32)), .val (.int col)] [(.ref a)]))
  refine own_up (fun _ kq => XS.aloadN X5.here hx rfl (hb hby d1_19) rfl rfl kq) ?_
  show own_Go p.tables e below _ (T5.setTop (mkF m 20 #[.val (.ref a), .val (.ref va), .val (.int (2 : Int32)), .val (.int col)] [(.ref va), (.ref a)]))
  refine own_up (fun _ kq => XS.iloadN X5.here hx rfl (hb hby d1_20) rfl kq) ?_
  show own_Go p.tables e below _ (T5.setTop (mkF m 21 #[.val (.ref a), .val (.ref va), .val (.int (2 : Int32)), .val (.int col)] [(.int (2 : Int32)), (.ref va), (.ref a)]))
  refine own_up (fun _ kq => XS.iloadN X5.here hx rfl (hb hby d1_21) rfl kq) ?_
  show own_Go p.tables e below _ (T5.setTop (mkF m 22 #[.val (.ref a), .val (.ref va), .val (.int (2 : Int32)), .val (.int col)] [(.int col), (.int (2 : Int32)), (.ref va), (.ref a)]))
  obtain ⟨_, _, ⟨T6, L6, k6, n6⟩, -, X6, ⟨Lc6, hQ6, l6, y6, z6⟩, st6⟩ := Jvm.LawKit.callS X5 hx (y := (⟨"com/example/ranksieve/ranksieve/model/SortedColumn", "sortRows", "([DII)[I"⟩ : MethodName)) hown (mvT hZ (hw _ (List.mem_of_getElem? (i := 14) rfl))) (mvT hZ (hw _ (List.mem_of_getElem? (i := 15) rfl))) (mvT hZ (hw _ (List.mem_of_getElem? (i := 3) rfl))) (mvT hZ (hw _ (List.mem_of_getElem? (i := 16) rfl))) (by decide) (backOf (W := 1) (rmS l Z a0 hw [] va col ud h5 n0 ZH G_va hnn hcol) hZ (hw _ (List.mem_of_getElem? (i := 16) rfl)) (hw _ (List.mem_of_getElem? (i := 3) rfl)) (by decide) (by decide)) (g := (mkF m 22 #[.val (.ref a), .val (.ref va), .val (.int (2 : Int32)), .val (.int col)] [(.int col), (.int (2 : Int32)), (.ref va), (.ref a)])) rfl (by rw [hml]; rfl) (argsL := [(.ref va), (.int (2 : Int32)), (.int col)]) (rest := [(.ref a)]) (lenOf pd_4 rfl) rfl (by show 2 * 0 + _ ≤ _; exact Nat.le_of_eq rfl) (hb hby d1_22) (fun _ _ => ⟨rfl, e5, (by decide : 2 + 5 ≤ _), (by decide : 0 + 65548 ≤ _)⟩)
  dsimp only [Pt.U, Pt.locs, Pt.cells, Pt.slots] at X6 l6 y6 z6 st6 hQ6
  subst l6 y6 z6
  obtain ⟨rb, xq, rq, sf6, rfl, Nq6, K6, G_rb, IQ⟩ := hQ6
  have ne_a_rb : a ≠ rb := Nat.ne_of_lt (Nat.lt_of_lt_of_le E_a.lt sf6)
  have ne_va_rb : va ≠ rb := Nat.ne_of_lt (Nat.lt_of_lt_of_le G_va.lt sf6)
  have g_rb : n0 ≤ rb := Nat.le_trans ZH sf6
  have sz_rb : h0.size ≤ rb := Nat.le_trans KK.1 sf6
  have N6 := Fr.app N5 Nq6
  have E_a := E_a.keep K6
  have G_va := G_va.keep K6 nin0
  have F__rows_a := F__rows_a.keep K6 nin0
  have F__values_a := F__values_a.keep K6 nin0
  have F__width_a := F__width_a.keep K6 nin0
  have F__column_a := F__column_a.keep K6 nin0
  have ZH := Nat.le_trans ZH K6.1
  have KK := KK.trans K6 all0
  refine own_up st6 ?_
  show own_Go p.tables e below _ (T6.setTop (mkF m 25 #[.val (.ref a), .val (.ref va), .val (.int (2 : Int32)), .val (.int col)] [(.ref rb), (.ref a)]))
  obtain ⟨T7, h7, X7, e7, W7, st7⟩ := putF X6 hx hZ hown (host := "") (Or.inl (hw _ (List.mem_of_getElem? (i := 42) rfl))) Via.refl rfl F__rows_a E_a (Or.inr ⟨(hw _ (List.mem_of_getElem? (i := 43) rfl)), rfl, hnm⟩) (hw _ (List.mem_of_getElem? (i := 2) rfl)) (ty := (.array .int)) (by decide) rfl rfl (g := (mkF m 25 #[.val (.ref a), .val (.ref va), .val (.int (2 : Int32)), .val (.int col)] [(.ref rb), (.ref a)])) rfl rfl (hb hby d1_25)
  have N7 := Fr.snoc X7 N6 g_a
  have F__rows_a := F__rows_a.same W7
  have E_a := E_a.wr W7
  have G_va := G_va.other W7 ne_va_a
  have F__values_a := F__values_a.other W7 (Or.inr (slot_ne (Or.inr (hw _ (List.mem_of_getElem? (i := 45) rfl))) (Or.inr (hw _ (List.mem_of_getElem? (i := 43) rfl))) (by decide) (t := (.array .double)) (t' := (.array .int)) (by decide) (by decide)))
  have F__width_a := F__width_a.other W7 (Or.inr (slot_ne (Or.inr (hw _ (List.mem_of_getElem? (i := 47) rfl))) (Or.inr (hw _ (List.mem_of_getElem? (i := 43) rfl))) (by decide) (t := .int) (t' := (.array .int)) (by decide) (by decide)))
  have F__column_a := F__column_a.other W7 (Or.inr (slot_ne (Or.inr (hw _ (List.mem_of_getElem? (i := 49) rfl))) (Or.inr (hw _ (List.mem_of_getElem? (i := 43) rfl))) (by decide) (t := .int) (t' := (.array .int)) (by decide) (by decide)))
  have G_rb := G_rb.other W7 (Ne.symm ne_a_rb)
  have ZH := Nat.le_trans ZH (Nat.le_of_eq W7.size.symm)
  have KK := KK.wr W7 (Or.inl (List.mem_of_getElem? (i := 0) rfl))
  refine own_up st7 ?_
  show own_Go p.tables e below _ (T7.setTop (mkF m 28 #[.val (.ref a), .val (.ref va), .val (.int (2 : Int32)), .val (.int col)] []))
  refine own_up (fun _ kq => XS.aloadN X7.here hx rfl (hb hby d1_28) rfl rfl kq) ?_
  show own_Go p.tables e below _ (T7.setTop (mkF m 29 #[.val (.ref a), .val (.ref va), .val (.int (2 : Int32)), .val (.int col)] [(.ref a)]))
  refine own_up (fun _ kq => XS.aloadN X7.here hx rfl (hb hby d1_29) rfl rfl kq) ?_
  show own_Go p.tables e below _ (T7.setTop (mkF m 30 #[.val (.ref a), .val (.ref va), .val (.int (2 : Int32)), .val (.int col)] [(.ref va), (.ref a)]))
  obtain ⟨T8, h8, X8, e8, W8, st8⟩ := putF X7 hx hZ hown (host := "") (Or.inl (hw _ (List.mem_of_getElem? (i := 44) rfl))) Via.refl e7 F__values_a E_a (Or.inr ⟨(hw _ (List.mem_of_getElem? (i := 45) rfl)), rfl, hnm⟩) (hw _ (List.mem_of_getElem? (i := 2) rfl)) (ty := (.array .double)) (by decide) rfl rfl (g := (mkF m 30 #[.val (.ref a), .val (.ref va), .val (.int (2 : Int32)), .val (.int col)] [(.ref va), (.ref a)])) rfl rfl (hb hby d1_30)
  have N8 := Fr.snoc X8 N7 g_a
  have F__values_a := F__values_a.same W8
  have E_a := E_a.wr W8
  have G_va := G_va.other W8 ne_va_a
  have F__rows_a := F__rows_a.other W8 (Or.inr (slot_ne (Or.inr (hw _ (List.mem_of_getElem? (i := 43) rfl))) (Or.inr (hw _ (List.mem_of_getElem? (i := 45) rfl))) (by decide) (t := (.array .int)) (t' := (.array .double)) (by decide) (by decide)))
  have F__width_a := F__width_a.other W8 (Or.inr (slot_ne (Or.inr (hw _ (List.mem_of_getElem? (i := 47) rfl))) (Or.inr (hw _ (List.mem_of_getElem? (i := 45) rfl))) (by decide) (t := .int) (t' := (.array .double)) (by decide) (by decide)))
  have F__column_a := F__column_a.other W8 (Or.inr (slot_ne (Or.inr (hw _ (List.mem_of_getElem? (i := 49) rfl))) (Or.inr (hw _ (List.mem_of_getElem? (i := 45) rfl))) (by decide) (t := .int) (t' := (.array .double)) (by decide) (by decide)))
  have G_rb := G_rb.other W8 (Ne.symm ne_a_rb)
  have ZH := Nat.le_trans ZH (Nat.le_of_eq W8.size.symm)
  have KK := KK.wr W8 (Or.inl (List.mem_of_getElem? (i := 0) rfl))
  refine own_up st8 ?_
  show own_Go p.tables e below _ (T8.setTop (mkF m 33 #[.val (.ref a), .val (.ref va), .val (.int (2 : Int32)), .val (.int col)] []))
  refine own_up (fun _ kq => XS.aloadN X8.here hx rfl (hb hby d1_33) rfl rfl kq) ?_
  show own_Go p.tables e below _ (T8.setTop (mkF m 34 #[.val (.ref a), .val (.ref va), .val (.int (2 : Int32)), .val (.int col)] [(.ref a)]))
  refine own_up (fun _ kq => XS.iloadN X8.here hx rfl (hb hby d1_34) rfl kq) ?_
  show own_Go p.tables e below _ (T8.setTop (mkF m 35 #[.val (.ref a), .val (.ref va), .val (.int (2 : Int32)), .val (.int col)] [(.int (2 : Int32)), (.ref a)]))
  obtain ⟨T9, h9, X9, e9, W9, st9⟩ := putF X8 hx hZ hown (host := "") (Or.inl (hw _ (List.mem_of_getElem? (i := 46) rfl))) Via.refl e8 F__width_a E_a (Or.inr ⟨(hw _ (List.mem_of_getElem? (i := 47) rfl)), rfl, hnm⟩) (hw _ (List.mem_of_getElem? (i := 2) rfl)) (ty := .int) (by decide) rfl rfl (g := (mkF m 35 #[.val (.ref a), .val (.ref va), .val (.int (2 : Int32)), .val (.int col)] [(.int (2 : Int32)), (.ref a)])) rfl rfl (hb hby d1_35)
  have N9 := Fr.snoc X9 N8 g_a
  have F__width_a := F__width_a.same W9
  have E_a := E_a.wr W9
  have G_va := G_va.other W9 ne_va_a
  have F__rows_a := F__rows_a.other W9 (Or.inr (slot_ne (Or.inr (hw _ (List.mem_of_getElem? (i := 43) rfl))) (Or.inr (hw _ (List.mem_of_getElem? (i := 47) rfl))) (by decide) (t := (.array .int)) (t' := .int) (by decide) (by decide)))
  have F__values_a := F__values_a.other W9 (Or.inr (slot_ne (Or.inr (hw _ (List.mem_of_getElem? (i := 45) rfl))) (Or.inr (hw _ (List.mem_of_getElem? (i := 47) rfl))) (by decide) (t := (.array .double)) (t' := .int) (by decide) (by decide)))
  have F__column_a := F__column_a.other W9 (Or.inr (slot_ne (Or.inr (hw _ (List.mem_of_getElem? (i := 49) rfl))) (Or.inr (hw _ (List.mem_of_getElem? (i := 47) rfl))) (by decide) (t := .int) (t' := .int) (by decide) (by decide)))
  have G_rb := G_rb.other W9 (Ne.symm ne_a_rb)
  have ZH := Nat.le_trans ZH (Nat.le_of_eq W9.size.symm)
  have KK := KK.wr W9 (Or.inl (List.mem_of_getElem? (i := 0) rfl))
  refine own_up st9 ?_
  show own_Go p.tables e below _ (T9.setTop (mkF m 38 #[.val (.ref a), .val (.ref va), .val (.int (2 : Int32)), .val (.int col)] []))
  refine own_up (fun _ kq => XS.aloadN X9.here hx rfl (hb hby d1_38) rfl rfl kq) ?_
  show own_Go p.tables e below _ (T9.setTop (mkF m 39 #[.val (.ref a), .val (.ref va), .val (.int (2 : Int32)), .val (.int col)] [(.ref a)]))
  refine own_up (fun _ kq => XS.iloadN X9.here hx rfl (hb hby d1_39) rfl kq) ?_
  show own_Go p.tables e below _ (T9.setTop (mkF m 40 #[.val (.ref a), .val (.ref va), .val (.int (2 : Int32)), .val (.int col)] [(.int col), (.ref a)]))
  obtain ⟨T10, h10, X10, e10, W10, st10⟩ := putF X9 hx hZ hown (host := "") (Or.inl (hw _ (List.mem_of_getElem? (i := 48) rfl))) Via.refl e9 F__column_a E_a (Or.inr ⟨(hw _ (List.mem_of_getElem? (i := 49) rfl)), rfl, hnm⟩) (hw _ (List.mem_of_getElem? (i := 2) rfl)) (ty := .int) (by decide) rfl rfl (g := (mkF m 40 #[.val (.ref a), .val (.ref va), .val (.int (2 : Int32)), .val (.int col)] [(.int col), (.ref a)])) rfl rfl (hb hby d1_40)
  have N10 := Fr.snoc X10 N9 g_a
  have F__column_a := F__column_a.same W10
  have E_a := E_a.wr W10
  have G_va := G_va.other W10 ne_va_a
  have F__rows_a := F__rows_a.other W10 (Or.inr (slot_ne (Or.inr (hw _ (List.mem_of_getElem? (i := 43) rfl))) (Or.inr (hw _ (List.mem_of_getElem? (i := 49) rfl))) (by decide) (t := (.array .int)) (t' := .int) (by decide) (by decide)))
  have F__values_a := F__values_a.other W10 (Or.inr (slot_ne (Or.inr (hw _ (List.mem_of_getElem? (i := 45) rfl))) (Or.inr (hw _ (List.mem_of_getElem? (i := 49) rfl))) (by decide) (t := (.array .double)) (t' := .int) (by decide) (by decide)))
  have G_rb := G_rb.other W10 (Ne.symm ne_a_rb)
  have ZH := Nat.le_trans ZH (Nat.le_of_eq W10.size.symm)
  have KK := KK.wr W10 (Or.inl (List.mem_of_getElem? (i := 0) rfl))
  refine own_up st10 ?_
  show own_Go p.tables e below _ (T10.setTop (mkF m 43 #[.val (.ref a), .val (.ref va), .val (.int (2 : Int32)), .val (.int col)] []))
  obtain ⟨fs11, hr11, hrun11, hended11, hW11, hsame11⟩ := X10.leave (v := none) (fun _ => rfl)
  refine own_end ⟨_, _, ?_, hrun11, hended11, _, _, rfl, ?_, ⟨_, rfl⟩, hW11, hsame11.mono (by decide) (by decide)⟩
  · exact X10.returnOut hx Bd.returns (hb hby d1_43) hr11
  · show QrmC Z a va col ud h0 n0 _ T10.heap _
    rw [e10]
    exact ⟨rfl, N10, KK, rb, xq, rq, F__rows_a, F__values_a, F__column_a, G_rb, IQ⟩
theorem d11_0 : decode prog_69_method_4_code 0 = .ok (.aload_n 0, 1) := by decide +kernel
theorem d11_1 : decode prog_69_method_4_code 1 = .ok (.getfield 24, 3) := by decide +kernel
theorem d11_4 : decode prog_69_method_4_code 4 = .ok (.aload_n 0, 1) := by decide +kernel
theorem d11_5 : decode prog_69_method_4_code 5 = .ok (.getfield 31, 3) := by decide +kernel
theorem d11_8 : decode prog_69_method_4_code 8 = .ok (.aload_n 0, 1) := by decide +kernel
theorem d11_9 : decode prog_69_method_4_code 9 = .ok (.getfield 20, 3) := by decide +kernel
theorem d11_12 : decode prog_69_method_4_code 12 = .ok (.arraylength, 1) := by decide +kernel
theorem d11_13 : decode prog_69_method_4_code 13 = .ok (.imul, 1) := by decide +kernel
theorem d11_14 : decode prog_69_method_4_code 14 = .ok (.aload_n 0, 1) := by decide +kernel
theorem d11_15 : decode prog_69_method_4_code 15 = .ok (.getfield 20, 3) := by decide +kernel
theorem d11_18 : decode prog_69_method_4_code 18 = .ok (.iload_n 1, 1) := by decide +kernel
theorem d11_19 : decode prog_69_method_4_code 19 = .ok (.iaload, 1) := by decide +kernel
theorem d11_20 : decode prog_69_method_4_code 20 = .ok (.iadd, 1) := by decide +kernel
theorem d11_21 : decode prog_69_method_4_code 21 = .ok (.daload, 1) := by decide +kernel
theorem d11_22 : decode prog_69_method_4_code 22 = .ok (.dreturn, 1) := by decide +kernel
theorem ef_rmV (m : MethodId) (x0 : Addr) (x1 : Int32) : entryFrame m #[(.ref x0), (.int x1)] 2 = mkF m 0 #[.val (.ref x0), .val (.int x1)] [] := by first | (simp [entryFrame, mkF, argsToLocals, Value.category]; done) | rfl
def QrmV (Z : State) (ks : Addr) (va : Addr) (rb : Addr) (col : Int32) (ii : Int32) (ud : Nat → UInt64) (rq : Nat → Int32) (h0 : Heap) (n0 : Nat) (v : Option Value) (h : Heap) (L : List Loc) : Prop := v = some (.double (ud (((col * (3 : Int32)) + (rq (ii).toNatClampNeg))).toNatClampNeg)) ∧ Fr n0 L ∧ h = h0
set_option maxRecDepth 65536 in
set_option maxHeartbeats 40000000 in
theorem rmV (l : Launch) (Z : State) (a0 : Array Value) (hw : ∀ d ∈ tables_1, d.before a0 Z = true) (ws : List Jvm.Cond) (ks : Addr) (va : Addr) (rb : Addr) (col : Int32) (ii : Int32) (ud : Nat → UInt64) (rq : Nat → Int32) (h0 : Heap) (n0 : Nat) (Z0 : n0 ≤ h0.size) (Frw : Fld Z h0 ks "com/example/ranksieve/ranksieve/model/SortedColumn" "_rows" "[I" (.ref rb)) (Fvl : Fld Z h0 ks "com/example/ranksieve/ranksieve/model/SortedColumn" "_values" "[D" (.ref va)) (Fcl : Fld Z h0 ks "com/example/ranksieve/ranksieve/model/SortedColumn" "_column" "I" (.int col)) (G_va : own_Arf Z h0 va .double (6 : Int32) (fun iq => .double (ud iq))) (G_rb : own_Arf Z h0 rb .int (3 : Int32) (fun iq => .int (rq iq))) (hi : ¬ ii < 0 ∧ ii < (3 : Int32)) (hj : ¬ ((col * (3 : Int32)) + (rq (ii).toNatClampNeg)) < 0 ∧ ((col * (3 : Int32)) + (rq (ii).toNatClampNeg)) < (6 : Int32)) :
    MetFree l (⟨"com/example/ranksieve/ranksieve/model/SortedColumn", "getValue", "(I)D"⟩ : MethodName) (head1 (Jvm.Cond.code (⟨"com/example/ranksieve/ranksieve/model/SortedColumn", "getValue", "(I)D"⟩ : MethodName) prog_69_method_4_code 2 (some .double) :: ws) ({ frames := 0, cells := 0, slots := 0, locals := 0 } : Room)) (fun aq Uq => aq = #[(.ref ks), (.int ii)] ∧ Z.Warmed39 Uq.vm ∧ Uq.heap = h0) (fun _ _ _ _ _ => True) (fun _ Uq oq Uq' => ∃ vq Lq, oq = .returned vq ∧ QrmV Z ks va rb col ii ud rq h0 n0 vq Uq'.heap Lq ∧ FrameEnd Uq oq Uq' Lq ({ frames := 0, cells := 0, slots := 0, locals := 0 } : Room).cells ({ frames := 0, cells := 0, slots := 0, locals := 0 } : Room).slots) := by
  refine MetFree.of_bodySF (plainFor_of_name pn_1) hisR ?_
  intro p e s m args below meth c s₁ Bd hml0 hP hK
  obtain ⟨rfl, hZ, hh⟩ := hP
  have hx := Bd.exec
  have hby := Bd.bytes
  have hml : c.maxLocals = 2 := hml0
  have hown : s.vm.findClass "com/example/ranksieve/ranksieve/model/SortedColumn" = some m.cls := findClass_of_methodNamed Bd.named
  have hnm := (name_of_methodNamed Bd.named Bd.method).1
  have X0 : Stand p l e ({ frames := 0, cells := 0, slots := 0, locals := 0 } : Room) s m #[(.ref ks), (.int ii)] below meth c s₁ [] 0 0 := Stand.of_body Bd
  have e0 : s₁.heap = h0 := by rw [← hh, Bd.state]; rfl
  have N0 := Fr.nil n0
  have ZH := Z0
  have KK := Keep.refl h0 []
  refine own_start (fun t kq => castTop (ef_rmV m ks ii) kq) ?_
  show own_Go p.tables e below _ (s₁.setTop (mkF m 0 #[.val (.ref ks), .val (.int ii)] []))
  refine own_up (fun _ kq => XS.aloadN X0.here hx rfl (hb hby d11_0) rfl rfl kq) ?_
  show own_Go p.tables e below _ (s₁.setTop (mkF m 1 #[.val (.ref ks), .val (.int ii)] [(.ref ks)]))
  obtain ⟨T1, X1, e1, st1⟩ := getF X0 hx hZ hown (host := "") (Or.inl (hw _ (List.mem_of_getElem? (i := 44) rfl))) Via.refl e0 Fvl (g := (mkF m 1 #[.val (.ref ks), .val (.int ii)] [(.ref ks)])) rfl rfl (hb hby d11_1)
  refine own_up st1 ?_
  show own_Go p.tables e below _ (T1.setTop (mkF m 4 #[.val (.ref ks), .val (.int ii)] [(.ref va)]))
  refine own_up (fun _ kq => XS.aloadN X1.here hx rfl (hb hby d11_4) rfl rfl kq) ?_
  show own_Go p.tables e below _ (T1.setTop (mkF m 5 #[.val (.ref ks), .val (.int ii)] [(.ref ks), (.ref va)]))
  obtain ⟨T2, X2, e2, st2⟩ := getF X1 hx hZ hown (host := "") (Or.inl (hw _ (List.mem_of_getElem? (i := 48) rfl))) Via.refl e1 Fcl (g := (mkF m 5 #[.val (.ref ks), .val (.int ii)] [(.ref ks), (.ref va)])) rfl rfl (hb hby d11_5)
  refine own_up st2 ?_
  show own_Go p.tables e below _ (T2.setTop (mkF m 8 #[.val (.ref ks), .val (.int ii)] [(.int col), (.ref va)]))
  refine own_up (fun _ kq => XS.aloadN X2.here hx rfl (hb hby d11_8) rfl rfl kq) ?_
  show own_Go p.tables e below _ (T2.setTop (mkF m 9 #[.val (.ref ks), .val (.int ii)] [(.ref ks), (.int col), (.ref va)]))
  obtain ⟨T3, X3, e3, st3⟩ := getF X2 hx hZ hown (host := "") (Or.inl (hw _ (List.mem_of_getElem? (i := 42) rfl))) Via.refl e2 Frw (g := (mkF m 9 #[.val (.ref ks), .val (.int ii)] [(.ref ks), (.int col), (.ref va)])) rfl rfl (hb hby d11_9)
  refine own_up st3 ?_
  show own_Go p.tables e below _ (T3.setTop (mkF m 12 #[.val (.ref ks), .val (.int ii)] [(.ref rb), (.int col), (.ref va)]))
  refine own_up (fun _ kq => own_Arf.alen G_rb X3 hx hZ e3 (g := (mkF m 12 #[.val (.ref ks), .val (.int ii)] [(.ref rb), (.int col), (.ref va)])) rfl rfl (hb hby d11_12) _ kq) ?_
  show own_Go p.tables e below _ (T3.setTop (mkF m 13 #[.val (.ref ks), .val (.int ii)] [(.int (3 : Int32)), (.int col), (.ref va)]))
  refine own_up (fun _ kq => XS.imul X3.here hx rfl (hb hby d11_13) rfl kq) ?_
  show own_Go p.tables e below _ (T3.setTop (mkF m 14 #[.val (.ref ks), .val (.int ii)] [(.int (col * (3 : Int32))), (.ref va)]))
  refine own_up (fun _ kq => XS.aloadN X3.here hx rfl (hb hby d11_14) rfl rfl kq) ?_
  show own_Go p.tables e below _ (T3.setTop (mkF m 15 #[.val (.ref ks), .val (.int ii)] [(.ref ks), (.int (col * (3 : Int32))), (.ref va)]))
  obtain ⟨T4, X4, e4, st4⟩ := getF X3 hx hZ hown (host := "") (Or.inl (hw _ (List.mem_of_getElem? (i := 42) rfl))) Via.refl e3 Frw (g := (mkF m 15 #[.val (.ref ks), .val (.int ii)] [(.ref ks), (.int (col * (3 : Int32))), (.ref va)])) rfl rfl (hb hby d11_15)
  refine own_up st4 ?_
  show own_Go p.tables e below _ (T4.setTop (mkF m 18 #[.val (.ref ks), .val (.int ii)] [(.ref rb), (.int (col * (3 : Int32))), (.ref va)]))
  refine own_up (fun _ kq => XS.iloadN X4.here hx rfl (hb hby d11_18) rfl kq) ?_
  show own_Go p.tables e below _ (T4.setTop (mkF m 19 #[.val (.ref ks), .val (.int ii)] [(.int ii), (.ref rb), (.int (col * (3 : Int32))), (.ref va)]))
  refine own_up (fun _ kq => own_Arf.iaload G_rb X4 hx hZ e4 hi.1 hi.2 (v := (.int (rq (ii).toNatClampNeg))) rfl (g := (mkF m 19 #[.val (.ref ks), .val (.int ii)] [(.int ii), (.ref rb), (.int (col * (3 : Int32))), (.ref va)])) rfl rfl (hb hby d11_19) _ kq) ?_
  show own_Go p.tables e below _ (T4.setTop (mkF m 20 #[.val (.ref ks), .val (.int ii)] [(.int (rq (ii).toNatClampNeg)), (.int (col * (3 : Int32))), (.ref va)]))
  refine own_up (fun _ kq => XS.iadd X4.here hx rfl (hb hby d11_20) rfl kq) ?_
  show own_Go p.tables e below _ (T4.setTop (mkF m 21 #[.val (.ref ks), .val (.int ii)] [(.int ((col * (3 : Int32)) + (rq (ii).toNatClampNeg))), (.ref va)]))
  refine own_up (fun _ kq => own_Arf.daload G_va X4 hx hZ e4 hj.1 hj.2 (v := (.double (ud (((col * (3 : Int32)) + (rq (ii).toNatClampNeg))).toNatClampNeg))) rfl (g := (mkF m 21 #[.val (.ref ks), .val (.int ii)] [(.int ((col * (3 : Int32)) + (rq (ii).toNatClampNeg))), (.ref va)])) rfl rfl (hb hby d11_21) _ kq) ?_
  show own_Go p.tables e below _ (T4.setTop (mkF m 22 #[.val (.ref ks), .val (.int ii)] [(.double (ud (((col * (3 : Int32)) + (rq (ii).toNatClampNeg))).toNatClampNeg))]))
  obtain ⟨fs5, hr5, hrun5, hended5, hW5, hsame5⟩ := X4.leave (v := some (.double (ud (((col * (3 : Int32)) + (rq (ii).toNatClampNeg))).toNatClampNeg))) (fun h => by rw [Bd.returns] at h; cases h)
  refine own_end ⟨_, _, ?_, hrun5, hended5, _, _, rfl, ?_, ⟨_, rfl⟩, hW5, hsame5.mono (by decide) (by decide)⟩
  · exact retOut X4 hx Bd.returns rfl (Or.inr (Or.inr (Or.inl ⟨rfl, rfl, _, rfl⟩))) (hb hby d11_22) hr5
  · show QrmV Z ks va rb col ii ud rq h0 n0 _ T4.heap _
    rw [e4]
    exact ⟨rfl, N0, rfl⟩
theorem pn_3 : plainName "com/example/ranksieve/ranksieve/model/SortedColumnGetValuePinLaw" = true := by first | (simp [plainName, overriddenIn]; done) | decide +kernel
theorem pd_5 : parseMethodDescriptor "([DII)V" = some ⟨[(.array .double), .int, .int], none⟩ := by decide +kernel
theorem pd_6 : parseMethodDescriptor "(II)I" = some ⟨[.int, .int], some .int⟩ := by decide +kernel
theorem pd_7 : parseMethodDescriptor "(I)D" = some ⟨[.int], some .double⟩ := by decide +kernel
theorem ef_rm0 (m : MethodId) (x0 : Int32) (x1 : Int32) (x2 : Int32) (x3 : Int32) (x4 : Int32) : entryFrame m #[(.int x0), (.int x1), (.int x2), (.int x3), (.int x4)] maxLocals = mkF m 0 #[.val (.int x0), .val (.int x1), .val (.int x2), .val (.int x3), .val (.int x4), .unset, .unset, .unset, .unset, .unset, .unset, .unset] [] := by first | (simp [entryFrame, mkF, argsToLocals, Value.category, maxLocals]; done) | rfl
def Qrm0 (Z : State) (p0 : Int32) (p1 : Int32) (p2 : Int32) (p3 : Int32) (p4 : Int32) (h0 : Heap) (n0 : Nat) (v : Option Value) (h : Heap) (L : List Loc) : Prop := v = some (.int 1) ∧ Fr n0 L
set_option maxRecDepth 65536 in
set_option maxHeartbeats 40000000 in
theorem rm0 (l : Launch) (Z : State) (a0 : Array Value) (hw : ∀ d ∈ tables_1, d.before a0 Z = true) (ws : List Jvm.Cond) (p0 : Int32) (p1 : Int32) (p2 : Int32) (p3 : Int32) (p4 : Int32) (h0 : Heap) (n0 : Nat) (Z0 : n0 ≤ h0.size) :
    MetFree l x (head1 (Jvm.Cond.code x code maxLocals ret :: ws) room_1) (fun aq Uq => aq = #[(.int p0), (.int p1), (.int p2), (.int p3), (.int p4)] ∧ Z.Warmed39 Uq.vm ∧ Uq.heap = h0) (fun _ _ _ _ _ => True) (fun _ Uq oq Uq' => ∃ vq Lq, oq = .returned vq ∧ Qrm0 Z p0 p1 p2 p3 p4 h0 n0 vq Uq'.heap Lq ∧ FrameEnd Uq oq Uq' Lq 32 131200) := by
  refine MetFree.of_bodySF (plainFor_of_name pn_3) hisR ?_
  intro p e s m args below meth c s₁ Bd hml0 hP hK
  obtain ⟨rfl, hZ, hh⟩ := hP
  have hx := Bd.exec
  have hby := Bd.bytes
  have hml : c.maxLocals = 12 := hml0
  have hown : s.vm.findClass "com/example/ranksieve/ranksieve/model/SortedColumnGetValuePinLaw" = some m.cls := findClass_of_methodNamed Bd.named
  have hnm := (name_of_methodNamed Bd.named Bd.method).1
  have X0 : Stand p l e room_1 s m #[(.int p0), (.int p1), (.int p2), (.int p3), (.int p4)] below meth c s₁ [] 0 0 := Stand.of_body Bd
  have e0 : s₁.heap = h0 := by rw [← hh, Bd.state]; rfl
  have N0 := Fr.nil n0
  have ZH := Z0
  have KK := Keep.refl h0 []
  refine own_start (fun t kq => castTop (ef_rm0 m p0 p1 p2 p3 p4) kq) ?_
  show own_Go p.tables e below _ (s₁.setTop (mkF m 0 #[.val (.int p0), .val (.int p1), .val (.int p2), .val (.int p3), .val (.int p4), .unset, .unset, .unset, .unset, .unset, .unset, .unset] []))
  refine own_up (fun _ kq => XS.iload X0.here hx rfl (hb hby at_0) rfl kq) ?_
  show own_Go p.tables e below _ (s₁.setTop (mkF m 2 #[.val (.int p0), .val (.int p1), .val (.int p2), .val (.int p3), .val (.int p4), .unset, .unset, .unset, .unset, .unset, .unset, .unset] [(.int p4)]))
  refine own_up (fun _ kq => XS.iconst X0.here hx rfl (hb hby at_2) kq) ?_
  show own_Go p.tables e below _ (s₁.setTop (mkF m 3 #[.val (.int p0), .val (.int p1), .val (.int p2), .val (.int p3), .val (.int p4), .unset, .unset, .unset, .unset, .unset, .unset, .unset] [(.int (1 : Int32)), (.int p4)]))
  refine own_up (fun _ kq => XS.iand X0.here hx rfl (hb hby at_3) rfl kq) ?_
  show own_Go p.tables e below _ (s₁.setTop (mkF m 4 #[.val (.int p0), .val (.int p1), .val (.int p2), .val (.int p3), .val (.int p4), .unset, .unset, .unset, .unset, .unset, .unset, .unset] [(.int (p4 &&& (1 : Int32)))]))
  generalize hcol : (p4 &&& (1 : Int32)) = col
  show own_Go p.tables e below _ (s₁.setTop (mkF m 4 #[.val (.int p0), .val (.int p1), .val (.int p2), .val (.int p3), .val (.int p4), .unset, .unset, .unset, .unset, .unset, .unset, .unset] [(.int col)]))
  refine own_up (fun _ kq => XS.istore X0.here hx rfl (hb hby at_4) rfl (l' := #[.val (.int p0), .val (.int p1), .val (.int p2), .val (.int p3), .val (.int p4), .val (.int col), .unset, .unset, .unset, .unset, .unset, .unset]) rfl kq) ?_
  show own_Go p.tables e below _ (s₁.setTop (mkF m 6 #[.val (.int p0), .val (.int p1), .val (.int p2), .val (.int p3), .val (.int p4), .val (.int col), .unset, .unset, .unset, .unset, .unset, .unset] []))
  rcases own_col2 hcol with rfl | rfl
  · show own_Go p.tables e below _ (s₁.setTop (mkF m 6 #[.val (.int p0), .val (.int p1), .val (.int p2), .val (.int p3), .val (.int p4), .val (.int (0 : Int32)), .unset, .unset, .unset, .unset, .unset, .unset] []))
    refine own_up (fun _ kq => XS.iconst X0.here hx rfl (hb hby at_6) kq) ?_
    show own_Go p.tables e below _ (s₁.setTop (mkF m 7 #[.val (.int p0), .val (.int p1), .val (.int p2), .val (.int p3), .val (.int p4), .val (.int (0 : Int32)), .unset, .unset, .unset, .unset, .unset, .unset] [(.int (3 : Int32))]))
    refine own_up (fun _ kq => XS.iload X0.here hx rfl (hb hby at_7) rfl kq) ?_
    show own_Go p.tables e below _ (s₁.setTop (mkF m 9 #[.val (.int p0), .val (.int p1), .val (.int p2), .val (.int p3), .val (.int p4), .val (.int (0 : Int32)), .unset, .unset, .unset, .unset, .unset, .unset] [(.int (0 : Int32)), (.int (3 : Int32))]))
    refine own_up (fun _ kq => XS.iconst X0.here hx rfl (hb hby at_9) kq) ?_
    show own_Go p.tables e below _ (s₁.setTop (mkF m 10 #[.val (.int p0), .val (.int p1), .val (.int p2), .val (.int p3), .val (.int p4), .val (.int (0 : Int32)), .unset, .unset, .unset, .unset, .unset, .unset] [(.int (3 : Int32)), (.int (0 : Int32)), (.int (3 : Int32))]))
    refine own_up (fun _ kq => XS.imul X0.here hx rfl (hb hby at_10) rfl kq) ?_
    show own_Go p.tables e below _ (s₁.setTop (mkF m 11 #[.val (.int p0), .val (.int p1), .val (.int p2), .val (.int p3), .val (.int p4), .val (.int (0 : Int32)), .unset, .unset, .unset, .unset, .unset, .unset] [(.int (0 : Int32)), (.int (3 : Int32))]))
    refine own_up (fun _ kq => XS.isub X0.here hx rfl (hb hby at_11) rfl kq) ?_
    show own_Go p.tables e below _ (s₁.setTop (mkF m 12 #[.val (.int p0), .val (.int p1), .val (.int p2), .val (.int p3), .val (.int p4), .val (.int (0 : Int32)), .unset, .unset, .unset, .unset, .unset, .unset] [(.int (3 : Int32))]))
    refine own_up (fun _ kq => XS.istore X0.here hx rfl (hb hby at_12) rfl (l' := #[.val (.int p0), .val (.int p1), .val (.int p2), .val (.int p3), .val (.int p4), .val (.int (0 : Int32)), .val (.int (3 : Int32)), .unset, .unset, .unset, .unset, .unset]) rfl kq) ?_
    show own_Go p.tables e below _ (s₁.setTop (mkF m 14 #[.val (.int p0), .val (.int p1), .val (.int p2), .val (.int p3), .val (.int p4), .val (.int (0 : Int32)), .val (.int (3 : Int32)), .unset, .unset, .unset, .unset, .unset] []))
    refine own_up (fun _ kq => XS.bipush X0.here hx rfl (hb hby at_14) kq) ?_
    show own_Go p.tables e below _ (s₁.setTop (mkF m 16 #[.val (.int p0), .val (.int p1), .val (.int p2), .val (.int p3), .val (.int p4), .val (.int (0 : Int32)), .val (.int (3 : Int32)), .unset, .unset, .unset, .unset, .unset] [(.int (6 : Int32))]))
    obtain ⟨T1, h1, k1, X1, e1, E1, A1, st1⟩ := newP X0 hx hZ (hw _ (List.mem_of_getElem? (i := 0) rfl)) e0 (g := (mkF m 16 #[.val (.int p0), .val (.int p1), .val (.int p2), .val (.int p3), .val (.int p4), .val (.int (0 : Int32)), .val (.int (3 : Int32)), .unset, .unset, .unset, .unset, .unset] [(.int (6 : Int32))])) rfl (hb hby at_16) rfl (by decide) (cap := 6) (by decide) (by decide) (by decide) (by decide)
    obtain ⟨b1, gz1⟩ : ∃ z, z = h0.size := ⟨_, rfl⟩
    rw [← gz1] at A1 st1
    have g_b1 : n0 ≤ b1 := Nat.le_trans ZH (Nat.le_of_eq gz1.symm)
    have sz_b1 : h0.size ≤ b1 := Nat.le_trans KK.1 (Nat.le_of_eq gz1.symm)
    have ZH := Nat.le_trans ZH E1.1
    have KK := KK.ext E1
    have V_b1 : Arv Z h1 b1 k1 .double (6 : Int32) [(.double (0 : UInt64)), (.double (0 : UInt64)), (.double (0 : UInt64)), (.double (0 : UInt64)), (.double (0 : UInt64)), (.double (0 : UInt64))] (.double (0 : UInt64)) := (Arv.new A1 (by decide)).pad (pad_rep [] (.double (0 : UInt64)) 6)
    refine own_up st1 ?_
    show own_Go p.tables e below _ (T1.setTop (mkF m 18 #[.val (.int p0), .val (.int p1), .val (.int p2), .val (.int p3), .val (.int p4), .val (.int (0 : Int32)), .val (.int (3 : Int32)), .unset, .unset, .unset, .unset, .unset] [(.ref b1)]))
    refine own_up (fun _ kq => XS.astore X1.here hx rfl (hb hby at_18) rfl rfl (l' := #[.val (.int p0), .val (.int p1), .val (.int p2), .val (.int p3), .val (.int p4), .val (.int (0 : Int32)), .val (.int (3 : Int32)), .val (.ref b1), .unset, .unset, .unset, .unset]) rfl kq) ?_
    show own_Go p.tables e below _ (T1.setTop (mkF m 20 #[.val (.int p0), .val (.int p1), .val (.int p2), .val (.int p3), .val (.int p4), .val (.int (0 : Int32)), .val (.int (3 : Int32)), .val (.ref b1), .unset, .unset, .unset, .unset] []))
    refine own_up (fun _ kq => XS.aload X1.here hx rfl (hb hby at_20) rfl rfl kq) ?_
    show own_Go p.tables e below _ (T1.setTop (mkF m 22 #[.val (.int p0), .val (.int p1), .val (.int p2), .val (.int p3), .val (.int p4), .val (.int (0 : Int32)), .val (.int (3 : Int32)), .val (.ref b1), .unset, .unset, .unset, .unset] [(.ref b1)]))
    refine own_up (fun _ kq => XS.iload X1.here hx rfl (hb hby at_22) rfl kq) ?_
    show own_Go p.tables e below _ (T1.setTop (mkF m 24 #[.val (.int p0), .val (.int p1), .val (.int p2), .val (.int p3), .val (.int p4), .val (.int (0 : Int32)), .val (.int (3 : Int32)), .val (.ref b1), .unset, .unset, .unset, .unset] [(.int (0 : Int32)), (.ref b1)]))
    refine own_up (fun _ kq => XS.iconst X1.here hx rfl (hb hby at_24) kq) ?_
    show own_Go p.tables e below _ (T1.setTop (mkF m 25 #[.val (.int p0), .val (.int p1), .val (.int p2), .val (.int p3), .val (.int p4), .val (.int (0 : Int32)), .val (.int (3 : Int32)), .val (.ref b1), .unset, .unset, .unset, .unset] [(.int (3 : Int32)), (.int (0 : Int32)), (.ref b1)]))
    refine own_up (fun _ kq => XS.imul X1.here hx rfl (hb hby at_25) rfl kq) ?_
    show own_Go p.tables e below _ (T1.setTop (mkF m 26 #[.val (.int p0), .val (.int p1), .val (.int p2), .val (.int p3), .val (.int p4), .val (.int (0 : Int32)), .val (.int (3 : Int32)), .val (.ref b1), .unset, .unset, .unset, .unset] [(.int (0 : Int32)), (.ref b1)]))
    refine own_up (fun _ kq => XS.iloadN X1.here hx rfl (hb hby at_26) rfl kq) ?_
    show own_Go p.tables e below _ (T1.setTop (mkF m 27 #[.val (.int p0), .val (.int p1), .val (.int p2), .val (.int p3), .val (.int p4), .val (.int (0 : Int32)), .val (.int (3 : Int32)), .val (.ref b1), .unset, .unset, .unset, .unset] [(.int p0), (.int (0 : Int32)), (.ref b1)]))
    refine own_up (fun _ kq => XS.i2dS X1.here hx rfl (v := (FP.i2d p0)) (hb hby at_27) rfl rfl kq) ?_
    show own_Go p.tables e below _ (T1.setTop (mkF m 28 #[.val (.int p0), .val (.int p1), .val (.int p2), .val (.int p3), .val (.int p4), .val (.int (0 : Int32)), .val (.int (3 : Int32)), .val (.ref b1), .unset, .unset, .unset, .unset] [(.double (FP.i2d p0)), (.int (0 : Int32)), (.ref b1)]))
    obtain ⟨cl2, Ar2, q2, sz2, nz2, hH2, hG2⟩ := V_b1
    obtain ⟨T2, h2, X2, e2, W2, st2⟩ := stD X1 hx hZ e1 Ar2 (j := (0 : Int32)) (inb_of sz2 ⟨by decide, by decide⟩) (g := (mkF m 28 #[.val (.int p0), .val (.int p1), .val (.int p2), .val (.int p3), .val (.int p4), .val (.int (0 : Int32)), .val (.int (3 : Int32)), .val (.ref b1), .unset, .unset, .unset, .unset] [(.double (FP.i2d p0)), (.int (0 : Int32)), (.ref b1)])) rfl rfl (hb hby at_28)
    have V_b1 : Arv Z h2 b1 k1 .double (6 : Int32) [(.double (FP.i2d p0)), (.double (0 : UInt64)), (.double (0 : UInt64)), (.double (0 : UInt64)), (.double (0 : UInt64)), (.double (0 : UInt64))] (.double (0 : UInt64)) := Arv.set Ar2 q2 sz2 nz2 hH2 hG2 rfl W2 0 rfl (Nat.le_of_ble_eq_true rfl)
    have N2 := Fr.snoc X2 N0 g_b1
    have ZH := Nat.le_trans ZH (Nat.le_of_eq W2.size.symm)
    have KK := KK.wr W2 (Or.inr sz_b1)
    refine own_up st2 ?_
    show own_Go p.tables e below _ (T2.setTop (mkF m 29 #[.val (.int p0), .val (.int p1), .val (.int p2), .val (.int p3), .val (.int p4), .val (.int (0 : Int32)), .val (.int (3 : Int32)), .val (.ref b1), .unset, .unset, .unset, .unset] []))
    refine own_up (fun _ kq => XS.aload X2.here hx rfl (hb hby at_29) rfl rfl kq) ?_
    show own_Go p.tables e below _ (T2.setTop (mkF m 31 #[.val (.int p0), .val (.int p1), .val (.int p2), .val (.int p3), .val (.int p4), .val (.int (0 : Int32)), .val (.int (3 : Int32)), .val (.ref b1), .unset, .unset, .unset, .unset] [(.ref b1)]))
    refine own_up (fun _ kq => XS.iload X2.here hx rfl (hb hby at_31) rfl kq) ?_
    show own_Go p.tables e below _ (T2.setTop (mkF m 33 #[.val (.int p0), .val (.int p1), .val (.int p2), .val (.int p3), .val (.int p4), .val (.int (0 : Int32)), .val (.int (3 : Int32)), .val (.ref b1), .unset, .unset, .unset, .unset] [(.int (0 : Int32)), (.ref b1)]))
    refine own_up (fun _ kq => XS.iconst X2.here hx rfl (hb hby at_33) kq) ?_
    show own_Go p.tables e below _ (T2.setTop (mkF m 34 #[.val (.int p0), .val (.int p1), .val (.int p2), .val (.int p3), .val (.int p4), .val (.int (0 : Int32)), .val (.int (3 : Int32)), .val (.ref b1), .unset, .unset, .unset, .unset] [(.int (3 : Int32)), (.int (0 : Int32)), (.ref b1)]))
    refine own_up (fun _ kq => XS.imul X2.here hx rfl (hb hby at_34) rfl kq) ?_
    show own_Go p.tables e below _ (T2.setTop (mkF m 35 #[.val (.int p0), .val (.int p1), .val (.int p2), .val (.int p3), .val (.int p4), .val (.int (0 : Int32)), .val (.int (3 : Int32)), .val (.ref b1), .unset, .unset, .unset, .unset] [(.int (0 : Int32)), (.ref b1)]))
    refine own_up (fun _ kq => XS.iconst X2.here hx rfl (hb hby at_35) kq) ?_
    show own_Go p.tables e below _ (T2.setTop (mkF m 36 #[.val (.int p0), .val (.int p1), .val (.int p2), .val (.int p3), .val (.int p4), .val (.int (0 : Int32)), .val (.int (3 : Int32)), .val (.ref b1), .unset, .unset, .unset, .unset] [(.int (1 : Int32)), (.int (0 : Int32)), (.ref b1)]))
    refine own_up (fun _ kq => XS.iadd X2.here hx rfl (hb hby at_36) rfl kq) ?_
    show own_Go p.tables e below _ (T2.setTop (mkF m 37 #[.val (.int p0), .val (.int p1), .val (.int p2), .val (.int p3), .val (.int p4), .val (.int (0 : Int32)), .val (.int (3 : Int32)), .val (.ref b1), .unset, .unset, .unset, .unset] [(.int (1 : Int32)), (.ref b1)]))
    refine own_up (fun _ kq => XS.iloadN X2.here hx rfl (hb hby at_37) rfl kq) ?_
    show own_Go p.tables e below _ (T2.setTop (mkF m 38 #[.val (.int p0), .val (.int p1), .val (.int p2), .val (.int p3), .val (.int p4), .val (.int (0 : Int32)), .val (.int (3 : Int32)), .val (.ref b1), .unset, .unset, .unset, .unset] [(.int p1), (.int (1 : Int32)), (.ref b1)]))
    refine own_up (fun _ kq => XS.i2dS X2.here hx rfl (v := (FP.i2d p1)) (hb hby at_38) rfl rfl kq) ?_
    show own_Go p.tables e below _ (T2.setTop (mkF m 39 #[.val (.int p0), .val (.int p1), .val (.int p2), .val (.int p3), .val (.int p4), .val (.int (0 : Int32)), .val (.int (3 : Int32)), .val (.ref b1), .unset, .unset, .unset, .unset] [(.double (FP.i2d p1)), (.int (1 : Int32)), (.ref b1)]))
    obtain ⟨cl3, Ar3, q3, sz3, nz3, hH3, hG3⟩ := V_b1
    obtain ⟨T3, h3, X3, e3, W3, st3⟩ := stD X2 hx hZ e2 Ar3 (j := (1 : Int32)) (inb_of sz3 ⟨by decide, by decide⟩) (g := (mkF m 39 #[.val (.int p0), .val (.int p1), .val (.int p2), .val (.int p3), .val (.int p4), .val (.int (0 : Int32)), .val (.int (3 : Int32)), .val (.ref b1), .unset, .unset, .unset, .unset] [(.double (FP.i2d p1)), (.int (1 : Int32)), (.ref b1)])) rfl rfl (hb hby at_39)
    have V_b1 : Arv Z h3 b1 k1 .double (6 : Int32) [(.double (FP.i2d p0)), (.double (FP.i2d p1)), (.double (0 : UInt64)), (.double (0 : UInt64)), (.double (0 : UInt64)), (.double (0 : UInt64))] (.double (0 : UInt64)) := Arv.set Ar3 q3 sz3 nz3 hH3 hG3 rfl W3 1 rfl (Nat.le_of_ble_eq_true rfl)
    have N3 := Fr.snoc X3 N2 g_b1
    have ZH := Nat.le_trans ZH (Nat.le_of_eq W3.size.symm)
    have KK := KK.wr W3 (Or.inr sz_b1)
    refine own_up st3 ?_
    show own_Go p.tables e below _ (T3.setTop (mkF m 40 #[.val (.int p0), .val (.int p1), .val (.int p2), .val (.int p3), .val (.int p4), .val (.int (0 : Int32)), .val (.int (3 : Int32)), .val (.ref b1), .unset, .unset, .unset, .unset] []))
    refine own_up (fun _ kq => XS.aload X3.here hx rfl (hb hby at_40) rfl rfl kq) ?_
    show own_Go p.tables e below _ (T3.setTop (mkF m 42 #[.val (.int p0), .val (.int p1), .val (.int p2), .val (.int p3), .val (.int p4), .val (.int (0 : Int32)), .val (.int (3 : Int32)), .val (.ref b1), .unset, .unset, .unset, .unset] [(.ref b1)]))
    refine own_up (fun _ kq => XS.iload X3.here hx rfl (hb hby at_42) rfl kq) ?_
    show own_Go p.tables e below _ (T3.setTop (mkF m 44 #[.val (.int p0), .val (.int p1), .val (.int p2), .val (.int p3), .val (.int p4), .val (.int (0 : Int32)), .val (.int (3 : Int32)), .val (.ref b1), .unset, .unset, .unset, .unset] [(.int (0 : Int32)), (.ref b1)]))
    refine own_up (fun _ kq => XS.iconst X3.here hx rfl (hb hby at_44) kq) ?_
    show own_Go p.tables e below _ (T3.setTop (mkF m 45 #[.val (.int p0), .val (.int p1), .val (.int p2), .val (.int p3), .val (.int p4), .val (.int (0 : Int32)), .val (.int (3 : Int32)), .val (.ref b1), .unset, .unset, .unset, .unset] [(.int (3 : Int32)), (.int (0 : Int32)), (.ref b1)]))
    refine own_up (fun _ kq => XS.imul X3.here hx rfl (hb hby at_45) rfl kq) ?_
    show own_Go p.tables e below _ (T3.setTop (mkF m 46 #[.val (.int p0), .val (.int p1), .val (.int p2), .val (.int p3), .val (.int p4), .val (.int (0 : Int32)), .val (.int (3 : Int32)), .val (.ref b1), .unset, .unset, .unset, .unset] [(.int (0 : Int32)), (.ref b1)]))
    refine own_up (fun _ kq => XS.iconst X3.here hx rfl (hb hby at_46) kq) ?_
    show own_Go p.tables e below _ (T3.setTop (mkF m 47 #[.val (.int p0), .val (.int p1), .val (.int p2), .val (.int p3), .val (.int p4), .val (.int (0 : Int32)), .val (.int (3 : Int32)), .val (.ref b1), .unset, .unset, .unset, .unset] [(.int (2 : Int32)), (.int (0 : Int32)), (.ref b1)]))
    refine own_up (fun _ kq => XS.iadd X3.here hx rfl (hb hby at_47) rfl kq) ?_
    show own_Go p.tables e below _ (T3.setTop (mkF m 48 #[.val (.int p0), .val (.int p1), .val (.int p2), .val (.int p3), .val (.int p4), .val (.int (0 : Int32)), .val (.int (3 : Int32)), .val (.ref b1), .unset, .unset, .unset, .unset] [(.int (2 : Int32)), (.ref b1)]))
    refine own_up (fun _ kq => XS.iloadN X3.here hx rfl (hb hby at_48) rfl kq) ?_
    show own_Go p.tables e below _ (T3.setTop (mkF m 49 #[.val (.int p0), .val (.int p1), .val (.int p2), .val (.int p3), .val (.int p4), .val (.int (0 : Int32)), .val (.int (3 : Int32)), .val (.ref b1), .unset, .unset, .unset, .unset] [(.int p2), (.int (2 : Int32)), (.ref b1)]))
    refine own_up (fun _ kq => XS.i2dS X3.here hx rfl (v := (FP.i2d p2)) (hb hby at_49) rfl rfl kq) ?_
    show own_Go p.tables e below _ (T3.setTop (mkF m 50 #[.val (.int p0), .val (.int p1), .val (.int p2), .val (.int p3), .val (.int p4), .val (.int (0 : Int32)), .val (.int (3 : Int32)), .val (.ref b1), .unset, .unset, .unset, .unset] [(.double (FP.i2d p2)), (.int (2 : Int32)), (.ref b1)]))
    obtain ⟨cl4, Ar4, q4, sz4, nz4, hH4, hG4⟩ := V_b1
    obtain ⟨T4, h4, X4, e4, W4, st4⟩ := stD X3 hx hZ e3 Ar4 (j := (2 : Int32)) (inb_of sz4 ⟨by decide, by decide⟩) (g := (mkF m 50 #[.val (.int p0), .val (.int p1), .val (.int p2), .val (.int p3), .val (.int p4), .val (.int (0 : Int32)), .val (.int (3 : Int32)), .val (.ref b1), .unset, .unset, .unset, .unset] [(.double (FP.i2d p2)), (.int (2 : Int32)), (.ref b1)])) rfl rfl (hb hby at_50)
    have V_b1 : Arv Z h4 b1 k1 .double (6 : Int32) [(.double (FP.i2d p0)), (.double (FP.i2d p1)), (.double (FP.i2d p2)), (.double (0 : UInt64)), (.double (0 : UInt64)), (.double (0 : UInt64))] (.double (0 : UInt64)) := Arv.set Ar4 q4 sz4 nz4 hH4 hG4 rfl W4 2 rfl (Nat.le_of_ble_eq_true rfl)
    have N4 := Fr.snoc X4 N3 g_b1
    have ZH := Nat.le_trans ZH (Nat.le_of_eq W4.size.symm)
    have KK := KK.wr W4 (Or.inr sz_b1)
    refine own_up st4 ?_
    show own_Go p.tables e below _ (T4.setTop (mkF m 51 #[.val (.int p0), .val (.int p1), .val (.int p2), .val (.int p3), .val (.int p4), .val (.int (0 : Int32)), .val (.int (3 : Int32)), .val (.ref b1), .unset, .unset, .unset, .unset] []))
    refine own_up (fun _ kq => XS.aload X4.here hx rfl (hb hby at_51) rfl rfl kq) ?_
    show own_Go p.tables e below _ (T4.setTop (mkF m 53 #[.val (.int p0), .val (.int p1), .val (.int p2), .val (.int p3), .val (.int p4), .val (.int (0 : Int32)), .val (.int (3 : Int32)), .val (.ref b1), .unset, .unset, .unset, .unset] [(.ref b1)]))
    refine own_up (fun _ kq => XS.iload X4.here hx rfl (hb hby at_53) rfl kq) ?_
    show own_Go p.tables e below _ (T4.setTop (mkF m 55 #[.val (.int p0), .val (.int p1), .val (.int p2), .val (.int p3), .val (.int p4), .val (.int (0 : Int32)), .val (.int (3 : Int32)), .val (.ref b1), .unset, .unset, .unset, .unset] [(.int (3 : Int32)), (.ref b1)]))
    refine own_up (fun _ kq => XS.iloadN X4.here hx rfl (hb hby at_55) rfl kq) ?_
    show own_Go p.tables e below _ (T4.setTop (mkF m 56 #[.val (.int p0), .val (.int p1), .val (.int p2), .val (.int p3), .val (.int p4), .val (.int (0 : Int32)), .val (.int (3 : Int32)), .val (.ref b1), .unset, .unset, .unset, .unset] [(.int p3), (.int (3 : Int32)), (.ref b1)]))
    refine own_up (fun _ kq => XS.i2dS X4.here hx rfl (v := (FP.i2d p3)) (hb hby at_56) rfl rfl kq) ?_
    show own_Go p.tables e below _ (T4.setTop (mkF m 57 #[.val (.int p0), .val (.int p1), .val (.int p2), .val (.int p3), .val (.int p4), .val (.int (0 : Int32)), .val (.int (3 : Int32)), .val (.ref b1), .unset, .unset, .unset, .unset] [(.double (FP.i2d p3)), (.int (3 : Int32)), (.ref b1)]))
    obtain ⟨cl5, Ar5, q5, sz5, nz5, hH5, hG5⟩ := V_b1
    obtain ⟨T5, h5, X5, e5, W5, st5⟩ := stD X4 hx hZ e4 Ar5 (j := (3 : Int32)) (inb_of sz5 ⟨by decide, by decide⟩) (g := (mkF m 57 #[.val (.int p0), .val (.int p1), .val (.int p2), .val (.int p3), .val (.int p4), .val (.int (0 : Int32)), .val (.int (3 : Int32)), .val (.ref b1), .unset, .unset, .unset, .unset] [(.double (FP.i2d p3)), (.int (3 : Int32)), (.ref b1)])) rfl rfl (hb hby at_57)
    have V_b1 : Arv Z h5 b1 k1 .double (6 : Int32) [(.double (FP.i2d p0)), (.double (FP.i2d p1)), (.double (FP.i2d p2)), (.double (FP.i2d p3)), (.double (0 : UInt64)), (.double (0 : UInt64))] (.double (0 : UInt64)) := Arv.set Ar5 q5 sz5 nz5 hH5 hG5 rfl W5 3 rfl (Nat.le_of_ble_eq_true rfl)
    have N5 := Fr.snoc X5 N4 g_b1
    have ZH := Nat.le_trans ZH (Nat.le_of_eq W5.size.symm)
    have KK := KK.wr W5 (Or.inr sz_b1)
    refine own_up st5 ?_
    show own_Go p.tables e below _ (T5.setTop (mkF m 58 #[.val (.int p0), .val (.int p1), .val (.int p2), .val (.int p3), .val (.int p4), .val (.int (0 : Int32)), .val (.int (3 : Int32)), .val (.ref b1), .unset, .unset, .unset, .unset] []))
    refine own_up (fun _ kq => XS.aload X5.here hx rfl (hb hby at_58) rfl rfl kq) ?_
    show own_Go p.tables e below _ (T5.setTop (mkF m 60 #[.val (.int p0), .val (.int p1), .val (.int p2), .val (.int p3), .val (.int p4), .val (.int (0 : Int32)), .val (.int (3 : Int32)), .val (.ref b1), .unset, .unset, .unset, .unset] [(.ref b1)]))
    refine own_up (fun _ kq => XS.iload X5.here hx rfl (hb hby at_60) rfl kq) ?_
    show own_Go p.tables e below _ (T5.setTop (mkF m 62 #[.val (.int p0), .val (.int p1), .val (.int p2), .val (.int p3), .val (.int p4), .val (.int (0 : Int32)), .val (.int (3 : Int32)), .val (.ref b1), .unset, .unset, .unset, .unset] [(.int (3 : Int32)), (.ref b1)]))
    refine own_up (fun _ kq => XS.iconst X5.here hx rfl (hb hby at_62) kq) ?_
    show own_Go p.tables e below _ (T5.setTop (mkF m 63 #[.val (.int p0), .val (.int p1), .val (.int p2), .val (.int p3), .val (.int p4), .val (.int (0 : Int32)), .val (.int (3 : Int32)), .val (.ref b1), .unset, .unset, .unset, .unset] [(.int (1 : Int32)), (.int (3 : Int32)), (.ref b1)]))
    refine own_up (fun _ kq => XS.iadd X5.here hx rfl (hb hby at_63) rfl kq) ?_
    show own_Go p.tables e below _ (T5.setTop (mkF m 64 #[.val (.int p0), .val (.int p1), .val (.int p2), .val (.int p3), .val (.int p4), .val (.int (0 : Int32)), .val (.int (3 : Int32)), .val (.ref b1), .unset, .unset, .unset, .unset] [(.int (4 : Int32)), (.ref b1)]))
    refine own_up (fun _ kq => XS.iloadN X5.here hx rfl (hb hby at_64) rfl kq) ?_
    show own_Go p.tables e below _ (T5.setTop (mkF m 65 #[.val (.int p0), .val (.int p1), .val (.int p2), .val (.int p3), .val (.int p4), .val (.int (0 : Int32)), .val (.int (3 : Int32)), .val (.ref b1), .unset, .unset, .unset, .unset] [(.int p3), (.int (4 : Int32)), (.ref b1)]))
    refine own_up (fun _ kq => XS.i2dS X5.here hx rfl (v := (FP.i2d p3)) (hb hby at_65) rfl rfl kq) ?_
    show own_Go p.tables e below _ (T5.setTop (mkF m 66 #[.val (.int p0), .val (.int p1), .val (.int p2), .val (.int p3), .val (.int p4), .val (.int (0 : Int32)), .val (.int (3 : Int32)), .val (.ref b1), .unset, .unset, .unset, .unset] [(.double (FP.i2d p3)), (.int (4 : Int32)), (.ref b1)]))
    obtain ⟨cl6, Ar6, q6, sz6, nz6, hH6, hG6⟩ := V_b1
    obtain ⟨T6, h6, X6, e6, W6, st6⟩ := stD X5 hx hZ e5 Ar6 (j := (4 : Int32)) (inb_of sz6 ⟨by decide, by decide⟩) (g := (mkF m 66 #[.val (.int p0), .val (.int p1), .val (.int p2), .val (.int p3), .val (.int p4), .val (.int (0 : Int32)), .val (.int (3 : Int32)), .val (.ref b1), .unset, .unset, .unset, .unset] [(.double (FP.i2d p3)), (.int (4 : Int32)), (.ref b1)])) rfl rfl (hb hby at_66)
    have V_b1 : Arv Z h6 b1 k1 .double (6 : Int32) [(.double (FP.i2d p0)), (.double (FP.i2d p1)), (.double (FP.i2d p2)), (.double (FP.i2d p3)), (.double (FP.i2d p3)), (.double (0 : UInt64))] (.double (0 : UInt64)) := Arv.set Ar6 q6 sz6 nz6 hH6 hG6 rfl W6 4 rfl (Nat.le_of_ble_eq_true rfl)
    have N6 := Fr.snoc X6 N5 g_b1
    have ZH := Nat.le_trans ZH (Nat.le_of_eq W6.size.symm)
    have KK := KK.wr W6 (Or.inr sz_b1)
    refine own_up st6 ?_
    show own_Go p.tables e below _ (T6.setTop (mkF m 67 #[.val (.int p0), .val (.int p1), .val (.int p2), .val (.int p3), .val (.int p4), .val (.int (0 : Int32)), .val (.int (3 : Int32)), .val (.ref b1), .unset, .unset, .unset, .unset] []))
    refine own_up (fun _ kq => XS.aload X6.here hx rfl (hb hby at_67) rfl rfl kq) ?_
    show own_Go p.tables e below _ (T6.setTop (mkF m 69 #[.val (.int p0), .val (.int p1), .val (.int p2), .val (.int p3), .val (.int p4), .val (.int (0 : Int32)), .val (.int (3 : Int32)), .val (.ref b1), .unset, .unset, .unset, .unset] [(.ref b1)]))
    refine own_up (fun _ kq => XS.iload X6.here hx rfl (hb hby at_69) rfl kq) ?_
    show own_Go p.tables e below _ (T6.setTop (mkF m 71 #[.val (.int p0), .val (.int p1), .val (.int p2), .val (.int p3), .val (.int p4), .val (.int (0 : Int32)), .val (.int (3 : Int32)), .val (.ref b1), .unset, .unset, .unset, .unset] [(.int (3 : Int32)), (.ref b1)]))
    refine own_up (fun _ kq => XS.iconst X6.here hx rfl (hb hby at_71) kq) ?_
    show own_Go p.tables e below _ (T6.setTop (mkF m 72 #[.val (.int p0), .val (.int p1), .val (.int p2), .val (.int p3), .val (.int p4), .val (.int (0 : Int32)), .val (.int (3 : Int32)), .val (.ref b1), .unset, .unset, .unset, .unset] [(.int (2 : Int32)), (.int (3 : Int32)), (.ref b1)]))
    refine own_up (fun _ kq => XS.iadd X6.here hx rfl (hb hby at_72) rfl kq) ?_
    show own_Go p.tables e below _ (T6.setTop (mkF m 73 #[.val (.int p0), .val (.int p1), .val (.int p2), .val (.int p3), .val (.int p4), .val (.int (0 : Int32)), .val (.int (3 : Int32)), .val (.ref b1), .unset, .unset, .unset, .unset] [(.int (5 : Int32)), (.ref b1)]))
    refine own_up (fun _ kq => XS.iloadN X6.here hx rfl (hb hby at_73) rfl kq) ?_
    show own_Go p.tables e below _ (T6.setTop (mkF m 74 #[.val (.int p0), .val (.int p1), .val (.int p2), .val (.int p3), .val (.int p4), .val (.int (0 : Int32)), .val (.int (3 : Int32)), .val (.ref b1), .unset, .unset, .unset, .unset] [(.int p3), (.int (5 : Int32)), (.ref b1)]))
    refine own_up (fun _ kq => XS.i2dS X6.here hx rfl (v := (FP.i2d p3)) (hb hby at_74) rfl rfl kq) ?_
    show own_Go p.tables e below _ (T6.setTop (mkF m 75 #[.val (.int p0), .val (.int p1), .val (.int p2), .val (.int p3), .val (.int p4), .val (.int (0 : Int32)), .val (.int (3 : Int32)), .val (.ref b1), .unset, .unset, .unset, .unset] [(.double (FP.i2d p3)), (.int (5 : Int32)), (.ref b1)]))
    obtain ⟨cl7, Ar7, q7, sz7, nz7, hH7, hG7⟩ := V_b1
    obtain ⟨T7, h7, X7, e7, W7, st7⟩ := stD X6 hx hZ e6 Ar7 (j := (5 : Int32)) (inb_of sz7 ⟨by decide, by decide⟩) (g := (mkF m 75 #[.val (.int p0), .val (.int p1), .val (.int p2), .val (.int p3), .val (.int p4), .val (.int (0 : Int32)), .val (.int (3 : Int32)), .val (.ref b1), .unset, .unset, .unset, .unset] [(.double (FP.i2d p3)), (.int (5 : Int32)), (.ref b1)])) rfl rfl (hb hby at_75)
    have V_b1 : Arv Z h7 b1 k1 .double (6 : Int32) [(.double (FP.i2d p0)), (.double (FP.i2d p1)), (.double (FP.i2d p2)), (.double (FP.i2d p3)), (.double (FP.i2d p3)), (.double (FP.i2d p3))] (.double (0 : UInt64)) := Arv.set Ar7 q7 sz7 nz7 hH7 hG7 rfl W7 5 rfl (Nat.le_of_ble_eq_true rfl)
    have N7 := Fr.snoc X7 N6 g_b1
    have ZH := Nat.le_trans ZH (Nat.le_of_eq W7.size.symm)
    have KK := KK.wr W7 (Or.inr sz_b1)
    refine own_up st7 ?_
    show own_Go p.tables e below _ (T7.setTop (mkF m 76 #[.val (.int p0), .val (.int p1), .val (.int p2), .val (.int p3), .val (.int p4), .val (.int (0 : Int32)), .val (.int (3 : Int32)), .val (.ref b1), .unset, .unset, .unset, .unset] []))
    obtain ⟨T8, h8, X8, e8, E8, A8, D8, -, st8⟩ := newO X7 hx hZ hown (hw _ (List.mem_of_getElem? (i := 1) rfl)) (hw _ (List.mem_of_getElem? (i := 2) rfl)) (hw _ (List.mem_of_getElem? (i := 3) rfl)) e7 (g := (mkF m 76 #[.val (.int p0), .val (.int p1), .val (.int p2), .val (.int p3), .val (.int p4), .val (.int (0 : Int32)), .val (.int (3 : Int32)), .val (.ref b1), .unset, .unset, .unset, .unset] [])) rfl (hb hby at_76) (by decide) (by decide)
    obtain ⟨b8, gz8⟩ : ∃ z, z = h7.size := ⟨_, rfl⟩
    rw [← gz8] at A8 D8 st8
    have ne_b1_b8 : b1 ≠ b8 := Nat.ne_of_lt (Nat.lt_of_lt_of_le V_b1.lt (Nat.le_of_eq gz8.symm))
    have g_b8 : n0 ≤ b8 := Nat.le_trans ZH (Nat.le_of_eq gz8.symm)
    have sz_b8 : h0.size ≤ b8 := Nat.le_trans KK.1 (Nat.le_of_eq gz8.symm)
    have V_b1 := V_b1.ext E8
    have ZH := Nat.le_trans ZH E8.1
    have KK := KK.ext E8
    have E_b8 := A8
    have F__copyFromFirst_b8 : Fld Z h8 b8 "com/example/ranksieve/ranksieve/model/SortedColumn" "_copyFromFirst" "[D" .null := D8 (Or.inl (hw _ (List.mem_of_getElem? (i := 11) rfl))) (ty := (.array .double)) (by decide)
    have F__copyFromLast_b8 : Fld Z h8 b8 "com/example/ranksieve/ranksieve/model/SortedColumn" "_copyFromLast" "[D" .null := D8 (Or.inl (hw _ (List.mem_of_getElem? (i := 13) rfl))) (ty := (.array .double)) (by decide)
    have F__rows_b8 : Fld Z h8 b8 "com/example/ranksieve/ranksieve/model/SortedColumn" "_rows" "[I" .null := D8 (Or.inr (hw _ (List.mem_of_getElem? (i := 43) rfl))) (ty := (.array .int)) (by decide)
    have F__values_b8 : Fld Z h8 b8 "com/example/ranksieve/ranksieve/model/SortedColumn" "_values" "[D" .null := D8 (Or.inr (hw _ (List.mem_of_getElem? (i := 45) rfl))) (ty := (.array .double)) (by decide)
    have F__width_b8 : Fld Z h8 b8 "com/example/ranksieve/ranksieve/model/SortedColumn" "_width" "I" (.int (0 : Int32)) := D8 (Or.inr (hw _ (List.mem_of_getElem? (i := 47) rfl))) (ty := .int) (by decide)
    have F__column_b8 : Fld Z h8 b8 "com/example/ranksieve/ranksieve/model/SortedColumn" "_column" "I" (.int (0 : Int32)) := D8 (Or.inr (hw _ (List.mem_of_getElem? (i := 49) rfl))) (ty := .int) (by decide)
    refine own_up st8 ?_
    show own_Go p.tables e below _ (T8.setTop (mkF m 79 #[.val (.int p0), .val (.int p1), .val (.int p2), .val (.int p3), .val (.int p4), .val (.int (0 : Int32)), .val (.int (3 : Int32)), .val (.ref b1), .unset, .unset, .unset, .unset] [(.ref b8)]))
    refine own_up (fun _ kq => XS.dup X8.here hx rfl (hb hby at_79) rfl rfl kq) ?_
    show own_Go p.tables e below _ (T8.setTop (mkF m 80 #[.val (.int p0), .val (.int p1), .val (.int p2), .val (.int p3), .val (.int p4), .val (.int (0 : Int32)), .val (.int (3 : Int32)), .val (.ref b1), .unset, .unset, .unset, .unset] [(.ref b8), (.ref b8)]))
    refine own_up (fun _ kq => XS.aload X8.here hx rfl (hb hby at_80) rfl rfl kq) ?_
    show own_Go p.tables e below _ (T8.setTop (mkF m 82 #[.val (.int p0), .val (.int p1), .val (.int p2), .val (.int p3), .val (.int p4), .val (.int (0 : Int32)), .val (.int (3 : Int32)), .val (.ref b1), .unset, .unset, .unset, .unset] [(.ref b1), (.ref b8), (.ref b8)]))
    refine own_up (fun _ kq => XS.iconst X8.here hx rfl (hb hby at_82) kq) ?_
    show own_Go p.tables e below _ (T8.setTop (mkF m 83 #[.val (.int p0), .val (.int p1), .val (.int p2), .val (.int p3), .val (.int p4), .val (.int (0 : Int32)), .val (.int (3 : Int32)), .val (.ref b1), .unset, .unset, .unset, .unset] [(.int (2 : Int32)), (.ref b1), (.ref b8), (.ref b8)]))
    refine own_up (fun _ kq => XS.iload X8.here hx rfl (hb hby at_83) rfl kq) ?_
    show own_Go p.tables e below _ (T8.setTop (mkF m 85 #[.val (.int p0), .val (.int p1), .val (.int p2), .val (.int p3), .val (.int p4), .val (.int (0 : Int32)), .val (.int (3 : Int32)), .val (.ref b1), .unset, .unset, .unset, .unset] [(.int (0 : Int32)), (.int (2 : Int32)), (.ref b1), (.ref b8), (.ref b8)]))
    have GV0 : own_Arf Z h8 b1 .double (6 : Int32) (fun iq => .double ((own_L [FP.i2d p0, FP.i2d p1, FP.i2d p2, FP.i2d p3, FP.i2d p3, FP.i2d p3]) iq)) := (own_Arf.ofArv V_b1).congr (fun i _ => own_Lget [FP.i2d p0, FP.i2d p1, FP.i2d p2, FP.i2d p3, FP.i2d p3, FP.i2d p3] i)
    obtain ⟨_, _, ⟨T9, L9, k9, n9⟩, -, X9, ⟨Lc9, hQ9, l9, y9, z9⟩, st9⟩ := X8.specialBack hx (y := (⟨"com/example/ranksieve/ranksieve/model/SortedColumn", "<init>", "([DII)V"⟩ : MethodName)) rfl hown (mvT hZ (hw _ (List.mem_of_getElem? (i := 4) rfl))) (mvT hZ (hw _ (List.mem_of_getElem? (i := 5) rfl))) (mvT hZ (hw _ (List.mem_of_getElem? (i := 6) rfl))) (by decide) (backOf (W := 1) (rmC l Z a0 hw [] b8 b1 (0 : Int32) (own_L [FP.i2d p0, FP.i2d p1, FP.i2d p2, FP.i2d p3, FP.i2d p3, FP.i2d p3]) h8 n0 ZH E_b8 F__copyFromFirst_b8 F__copyFromLast_b8 F__rows_b8 F__values_b8 F__width_b8 F__column_b8 g_b8 GV0 ne_b1_b8 (own_Lnn [p0, p1, p2, p3, p3, p3]) (by unfold own_c2; decide)) hZ (hw _ (List.mem_of_getElem? (i := 6) rfl)) (hw _ (List.mem_of_getElem? (i := 3) rfl)) (by decide) (by decide)) (g := (mkF m 85 #[.val (.int p0), .val (.int p1), .val (.int p2), .val (.int p3), .val (.int p4), .val (.int (0 : Int32)), .val (.int (3 : Int32)), .val (.ref b1), .unset, .unset, .unset, .unset] [(.int (0 : Int32)), (.int (2 : Int32)), (.ref b1), (.ref b8), (.ref b8)])) rfl (by rw [hml]; rfl) (Steps.refl _) (a := b8) (argsL := [(.ref b1), (.int (2 : Int32)), (.int (0 : Int32))]) (rest := [(.ref b8)]) (lenOf pd_5 rfl) rfl (by show 2 * 0 + _ ≤ _; exact Nat.le_of_eq rfl) (hb hby at_85) (fun _ _ => ⟨rfl, e8, (by decide : 2 + 7 ≤ _), (by decide : 12 + 65548 ≤ _)⟩)
    dsimp only [Pt.U, Pt.locs, Pt.cells, Pt.slots] at X9 l9 y9 z9 st9 hQ9
    subst l9 y9 z9
    obtain ⟨rfl, Nq9, K9, rb, xq, rq, Frw, Fvl, Fcl, G_rb, IQ⟩ := hQ9
    have N9 := Fr.app N7 Nq9
    have V_b1 := V_b1.keep K9 (ninS ne_b1_b8 nin0)
    have E_b8 := E_b8.keep K9
    have ZH := Nat.le_trans ZH K9.1
    have KK := KK.trans K9 (allS (Or.inr sz_b8) all0)
    have GV : own_Arf Z T9.heap b1 .double (6 : Int32) (fun iq => .double ((own_L [FP.i2d p0, FP.i2d p1, FP.i2d p2, FP.i2d p3, FP.i2d p3, FP.i2d p3]) iq)) := (own_Arf.ofArv V_b1).congr (fun i _ => own_Lget [FP.i2d p0, FP.i2d p1, FP.i2d p2, FP.i2d p3, FP.i2d p3, FP.i2d p3] i)
    have FIN := own_fin (ud := (own_L [FP.i2d p0, FP.i2d p1, FP.i2d p2, FP.i2d p3, FP.i2d p3, FP.i2d p3])) (col := (0 : Int32)) (a := p0) (b := p1) (c := p2) (x := xq) (r := rq) rfl rfl rfl IQ
    have PM := own_pm3 IQ.1
    refine own_up (fun _ kq => st9.trans kq) ?_
    show own_Go p.tables e below _ (T9.setTop (mkF m 88 #[.val (.int p0), .val (.int p1), .val (.int p2), .val (.int p3), .val (.int p4), .val (.int (0 : Int32)), .val (.int (3 : Int32)), .val (.ref b1), .unset, .unset, .unset, .unset] [(.ref b8)]))
    refine own_up (fun _ kq => XS.astore X9.here hx rfl (hb hby at_88) rfl rfl (l' := #[.val (.int p0), .val (.int p1), .val (.int p2), .val (.int p3), .val (.int p4), .val (.int (0 : Int32)), .val (.int (3 : Int32)), .val (.ref b1), .val (.ref b8), .unset, .unset, .unset]) rfl kq) ?_
    show own_Go p.tables e below _ (T9.setTop (mkF m 90 #[.val (.int p0), .val (.int p1), .val (.int p2), .val (.int p3), .val (.int p4), .val (.int (0 : Int32)), .val (.int (3 : Int32)), .val (.ref b1), .val (.ref b8), .unset, .unset, .unset] []))
    refine own_up (fun _ kq => XS.iloadN X9.here hx rfl (hb hby at_90) rfl kq) ?_
    show own_Go p.tables e below _ (T9.setTop (mkF m 91 #[.val (.int p0), .val (.int p1), .val (.int p2), .val (.int p3), .val (.int p4), .val (.int (0 : Int32)), .val (.int (3 : Int32)), .val (.ref b1), .val (.ref b8), .unset, .unset, .unset] [(.int p0)]))
    refine own_up (fun _ kq => XS.iloadN X9.here hx rfl (hb hby at_91) rfl kq) ?_
    show own_Go p.tables e below _ (T9.setTop (mkF m 92 #[.val (.int p0), .val (.int p1), .val (.int p2), .val (.int p3), .val (.int p4), .val (.int (0 : Int32)), .val (.int (3 : Int32)), .val (.ref b1), .val (.ref b8), .unset, .unset, .unset] [(.int p1), (.int p0)]))
    obtain ⟨_, _, ⟨T10, L10, k10, n10⟩, -, X10, ⟨Lc10, hQ10, l10, y10, z10⟩, st10⟩ := Jvm.LawKit.callS X9 hx (y := (⟨"java/lang/Math", "min", "(II)I"⟩ : MethodName)) hown (mvT hZ (hw _ (List.mem_of_getElem? (i := 50) rfl))) (mvT hZ (hw _ (List.mem_of_getElem? (i := 51) rfl))) (mvT hZ (hw _ (List.mem_of_getElem? (i := 52) rfl))) (mvT hZ (hw _ (List.mem_of_getElem? (i := 53) rfl))) (by decide) (backOf (W := 0) (rmI l Z a0 hw [] p0 p1 T9.heap n0 ZH) hZ (hw _ (List.mem_of_getElem? (i := 53) rfl)) (hw _ (List.mem_of_getElem? (i := 52) rfl)) (by decide) (by decide)) (g := (mkF m 92 #[.val (.int p0), .val (.int p1), .val (.int p2), .val (.int p3), .val (.int p4), .val (.int (0 : Int32)), .val (.int (3 : Int32)), .val (.ref b1), .val (.ref b8), .unset, .unset, .unset] [(.int p1), (.int p0)])) rfl (by rw [hml]; rfl) (argsL := [(.int p0), (.int p1)]) (rest := []) (lenOf pd_6 rfl) rfl (by show 2 * 0 + _ ≤ _; exact Nat.le_of_eq rfl) (hb hby at_92) (fun _ _ => ⟨rfl, rfl, (by decide : 9 + 0 ≤ _), (by decide : 65560 + 0 ≤ _)⟩)
    dsimp only [Pt.U, Pt.locs, Pt.cells, Pt.slots] at X10 l10 y10 z10 st10 hQ10
    subst l10 y10 z10
    obtain ⟨rfl, Nq10, e10⟩ := hQ10
    have N10 := Fr.app N9 Nq10
    refine own_up st10 ?_
    show own_Go p.tables e below _ (T10.setTop (mkF m 95 #[.val (.int p0), .val (.int p1), .val (.int p2), .val (.int p3), .val (.int p4), .val (.int (0 : Int32)), .val (.int (3 : Int32)), .val (.ref b1), .val (.ref b8), .unset, .unset, .unset] [(.int (own_min p0 p1))]))
    refine own_up (fun _ kq => XS.iloadN X10.here hx rfl (hb hby at_95) rfl kq) ?_
    show own_Go p.tables e below _ (T10.setTop (mkF m 96 #[.val (.int p0), .val (.int p1), .val (.int p2), .val (.int p3), .val (.int p4), .val (.int (0 : Int32)), .val (.int (3 : Int32)), .val (.ref b1), .val (.ref b8), .unset, .unset, .unset] [(.int p2), (.int (own_min p0 p1))]))
    obtain ⟨_, _, ⟨T11, L11, k11, n11⟩, -, X11, ⟨Lc11, hQ11, l11, y11, z11⟩, st11⟩ := Jvm.LawKit.callS X10 hx (y := (⟨"java/lang/Math", "min", "(II)I"⟩ : MethodName)) hown (mvT hZ (hw _ (List.mem_of_getElem? (i := 50) rfl))) (mvT hZ (hw _ (List.mem_of_getElem? (i := 51) rfl))) (mvT hZ (hw _ (List.mem_of_getElem? (i := 52) rfl))) (mvT hZ (hw _ (List.mem_of_getElem? (i := 53) rfl))) (by decide) (backOf (W := 0) (rmI l Z a0 hw [] (own_min p0 p1) p2 T9.heap n0 ZH) hZ (hw _ (List.mem_of_getElem? (i := 53) rfl)) (hw _ (List.mem_of_getElem? (i := 52) rfl)) (by decide) (by decide)) (g := (mkF m 96 #[.val (.int p0), .val (.int p1), .val (.int p2), .val (.int p3), .val (.int p4), .val (.int (0 : Int32)), .val (.int (3 : Int32)), .val (.ref b1), .val (.ref b8), .unset, .unset, .unset] [(.int p2), (.int (own_min p0 p1))])) rfl (by rw [hml]; rfl) (argsL := [(.int (own_min p0 p1)), (.int p2)]) (rest := []) (lenOf pd_6 rfl) rfl (by show 2 * 0 + _ ≤ _; exact Nat.le_of_eq rfl) (hb hby at_96) (fun _ _ => ⟨rfl, e10, (by decide : 9 + 0 ≤ _), (by decide : 65560 + 0 ≤ _)⟩)
    dsimp only [Pt.U, Pt.locs, Pt.cells, Pt.slots] at X11 l11 y11 z11 st11 hQ11
    subst l11 y11 z11
    obtain ⟨rfl, Nq11, e11⟩ := hQ11
    have N11 := Fr.app N10 Nq11
    refine own_up st11 ?_
    show own_Go p.tables e below _ (T11.setTop (mkF m 99 #[.val (.int p0), .val (.int p1), .val (.int p2), .val (.int p3), .val (.int p4), .val (.int (0 : Int32)), .val (.int (3 : Int32)), .val (.ref b1), .val (.ref b8), .unset, .unset, .unset] [(.int (own_min (own_min p0 p1) p2))]))
    refine own_up (fun _ kq => XS.istore X11.here hx rfl (hb hby at_99) rfl (l' := #[.val (.int p0), .val (.int p1), .val (.int p2), .val (.int p3), .val (.int p4), .val (.int (0 : Int32)), .val (.int (3 : Int32)), .val (.ref b1), .val (.ref b8), .val (.int (own_min (own_min p0 p1) p2)), .unset, .unset]) rfl kq) ?_
    show own_Go p.tables e below _ (T11.setTop (mkF m 101 #[.val (.int p0), .val (.int p1), .val (.int p2), .val (.int p3), .val (.int p4), .val (.int (0 : Int32)), .val (.int (3 : Int32)), .val (.ref b1), .val (.ref b8), .val (.int (own_min (own_min p0 p1) p2)), .unset, .unset] []))
    refine own_up (fun _ kq => XS.iloadN X11.here hx rfl (hb hby at_101) rfl kq) ?_
    show own_Go p.tables e below _ (T11.setTop (mkF m 102 #[.val (.int p0), .val (.int p1), .val (.int p2), .val (.int p3), .val (.int p4), .val (.int (0 : Int32)), .val (.int (3 : Int32)), .val (.ref b1), .val (.ref b8), .val (.int (own_min (own_min p0 p1) p2)), .unset, .unset] [(.int p0)]))
    refine own_up (fun _ kq => XS.iloadN X11.here hx rfl (hb hby at_102) rfl kq) ?_
    show own_Go p.tables e below _ (T11.setTop (mkF m 103 #[.val (.int p0), .val (.int p1), .val (.int p2), .val (.int p3), .val (.int p4), .val (.int (0 : Int32)), .val (.int (3 : Int32)), .val (.ref b1), .val (.ref b8), .val (.int (own_min (own_min p0 p1) p2)), .unset, .unset] [(.int p1), (.int p0)]))
    obtain ⟨_, _, ⟨T12, L12, k12, n12⟩, -, X12, ⟨Lc12, hQ12, l12, y12, z12⟩, st12⟩ := Jvm.LawKit.callS X11 hx (y := (⟨"java/lang/Math", "max", "(II)I"⟩ : MethodName)) hown (mvT hZ (hw _ (List.mem_of_getElem? (i := 54) rfl))) (mvT hZ (hw _ (List.mem_of_getElem? (i := 55) rfl))) (mvT hZ (hw _ (List.mem_of_getElem? (i := 52) rfl))) (mvT hZ (hw _ (List.mem_of_getElem? (i := 56) rfl))) (by decide) (backOf (W := 0) (rmX l Z a0 hw [] p0 p1 T9.heap n0 ZH) hZ (hw _ (List.mem_of_getElem? (i := 56) rfl)) (hw _ (List.mem_of_getElem? (i := 52) rfl)) (by decide) (by decide)) (g := (mkF m 103 #[.val (.int p0), .val (.int p1), .val (.int p2), .val (.int p3), .val (.int p4), .val (.int (0 : Int32)), .val (.int (3 : Int32)), .val (.ref b1), .val (.ref b8), .val (.int (own_min (own_min p0 p1) p2)), .unset, .unset] [(.int p1), (.int p0)])) rfl (by rw [hml]; rfl) (argsL := [(.int p0), (.int p1)]) (rest := []) (lenOf pd_6 rfl) rfl (by show 2 * 0 + _ ≤ _; exact Nat.le_of_eq rfl) (hb hby at_103) (fun _ _ => ⟨rfl, e11, (by decide : 9 + 0 ≤ _), (by decide : 65560 + 0 ≤ _)⟩)
    dsimp only [Pt.U, Pt.locs, Pt.cells, Pt.slots] at X12 l12 y12 z12 st12 hQ12
    subst l12 y12 z12
    obtain ⟨rfl, Nq12, e12⟩ := hQ12
    have N12 := Fr.app N11 Nq12
    refine own_up st12 ?_
    show own_Go p.tables e below _ (T12.setTop (mkF m 106 #[.val (.int p0), .val (.int p1), .val (.int p2), .val (.int p3), .val (.int p4), .val (.int (0 : Int32)), .val (.int (3 : Int32)), .val (.ref b1), .val (.ref b8), .val (.int (own_min (own_min p0 p1) p2)), .unset, .unset] [(.int (own_max p0 p1))]))
    refine own_up (fun _ kq => XS.iloadN X12.here hx rfl (hb hby at_106) rfl kq) ?_
    show own_Go p.tables e below _ (T12.setTop (mkF m 107 #[.val (.int p0), .val (.int p1), .val (.int p2), .val (.int p3), .val (.int p4), .val (.int (0 : Int32)), .val (.int (3 : Int32)), .val (.ref b1), .val (.ref b8), .val (.int (own_min (own_min p0 p1) p2)), .unset, .unset] [(.int p2), (.int (own_max p0 p1))]))
    obtain ⟨_, _, ⟨T13, L13, k13, n13⟩, -, X13, ⟨Lc13, hQ13, l13, y13, z13⟩, st13⟩ := Jvm.LawKit.callS X12 hx (y := (⟨"java/lang/Math", "max", "(II)I"⟩ : MethodName)) hown (mvT hZ (hw _ (List.mem_of_getElem? (i := 54) rfl))) (mvT hZ (hw _ (List.mem_of_getElem? (i := 55) rfl))) (mvT hZ (hw _ (List.mem_of_getElem? (i := 52) rfl))) (mvT hZ (hw _ (List.mem_of_getElem? (i := 56) rfl))) (by decide) (backOf (W := 0) (rmX l Z a0 hw [] (own_max p0 p1) p2 T9.heap n0 ZH) hZ (hw _ (List.mem_of_getElem? (i := 56) rfl)) (hw _ (List.mem_of_getElem? (i := 52) rfl)) (by decide) (by decide)) (g := (mkF m 107 #[.val (.int p0), .val (.int p1), .val (.int p2), .val (.int p3), .val (.int p4), .val (.int (0 : Int32)), .val (.int (3 : Int32)), .val (.ref b1), .val (.ref b8), .val (.int (own_min (own_min p0 p1) p2)), .unset, .unset] [(.int p2), (.int (own_max p0 p1))])) rfl (by rw [hml]; rfl) (argsL := [(.int (own_max p0 p1)), (.int p2)]) (rest := []) (lenOf pd_6 rfl) rfl (by show 2 * 0 + _ ≤ _; exact Nat.le_of_eq rfl) (hb hby at_107) (fun _ _ => ⟨rfl, e12, (by decide : 9 + 0 ≤ _), (by decide : 65560 + 0 ≤ _)⟩)
    dsimp only [Pt.U, Pt.locs, Pt.cells, Pt.slots] at X13 l13 y13 z13 st13 hQ13
    subst l13 y13 z13
    obtain ⟨rfl, Nq13, e13⟩ := hQ13
    have N13 := Fr.app N12 Nq13
    refine own_up st13 ?_
    show own_Go p.tables e below _ (T13.setTop (mkF m 110 #[.val (.int p0), .val (.int p1), .val (.int p2), .val (.int p3), .val (.int p4), .val (.int (0 : Int32)), .val (.int (3 : Int32)), .val (.ref b1), .val (.ref b8), .val (.int (own_min (own_min p0 p1) p2)), .unset, .unset] [(.int (own_max (own_max p0 p1) p2))]))
    refine own_up (fun _ kq => XS.istore X13.here hx rfl (hb hby at_110) rfl (l' := #[.val (.int p0), .val (.int p1), .val (.int p2), .val (.int p3), .val (.int p4), .val (.int (0 : Int32)), .val (.int (3 : Int32)), .val (.ref b1), .val (.ref b8), .val (.int (own_min (own_min p0 p1) p2)), .val (.int (own_max (own_max p0 p1) p2)), .unset]) rfl kq) ?_
    show own_Go p.tables e below _ (T13.setTop (mkF m 112 #[.val (.int p0), .val (.int p1), .val (.int p2), .val (.int p3), .val (.int p4), .val (.int (0 : Int32)), .val (.int (3 : Int32)), .val (.ref b1), .val (.ref b8), .val (.int (own_min (own_min p0 p1) p2)), .val (.int (own_max (own_max p0 p1) p2)), .unset] []))
    refine own_up (fun _ kq => XS.iloadN X13.here hx rfl (hb hby at_112) rfl kq) ?_
    show own_Go p.tables e below _ (T13.setTop (mkF m 113 #[.val (.int p0), .val (.int p1), .val (.int p2), .val (.int p3), .val (.int p4), .val (.int (0 : Int32)), .val (.int (3 : Int32)), .val (.ref b1), .val (.ref b8), .val (.int (own_min (own_min p0 p1) p2)), .val (.int (own_max (own_max p0 p1) p2)), .unset] [(.int p0)]))
    refine own_up (fun _ kq => XS.iloadN X13.here hx rfl (hb hby at_113) rfl kq) ?_
    show own_Go p.tables e below _ (T13.setTop (mkF m 114 #[.val (.int p0), .val (.int p1), .val (.int p2), .val (.int p3), .val (.int p4), .val (.int (0 : Int32)), .val (.int (3 : Int32)), .val (.ref b1), .val (.ref b8), .val (.int (own_min (own_min p0 p1) p2)), .val (.int (own_max (own_max p0 p1) p2)), .unset] [(.int p1), (.int p0)]))
    obtain ⟨_, _, ⟨T14, L14, k14, n14⟩, -, X14, ⟨Lc14, hQ14, l14, y14, z14⟩, st14⟩ := Jvm.LawKit.callS X13 hx (y := (⟨"java/lang/Math", "min", "(II)I"⟩ : MethodName)) hown (mvT hZ (hw _ (List.mem_of_getElem? (i := 50) rfl))) (mvT hZ (hw _ (List.mem_of_getElem? (i := 51) rfl))) (mvT hZ (hw _ (List.mem_of_getElem? (i := 52) rfl))) (mvT hZ (hw _ (List.mem_of_getElem? (i := 53) rfl))) (by decide) (backOf (W := 0) (rmI l Z a0 hw [] p0 p1 T9.heap n0 ZH) hZ (hw _ (List.mem_of_getElem? (i := 53) rfl)) (hw _ (List.mem_of_getElem? (i := 52) rfl)) (by decide) (by decide)) (g := (mkF m 114 #[.val (.int p0), .val (.int p1), .val (.int p2), .val (.int p3), .val (.int p4), .val (.int (0 : Int32)), .val (.int (3 : Int32)), .val (.ref b1), .val (.ref b8), .val (.int (own_min (own_min p0 p1) p2)), .val (.int (own_max (own_max p0 p1) p2)), .unset] [(.int p1), (.int p0)])) rfl (by rw [hml]; rfl) (argsL := [(.int p0), (.int p1)]) (rest := []) (lenOf pd_6 rfl) rfl (by show 2 * 0 + _ ≤ _; exact Nat.le_of_eq rfl) (hb hby at_114) (fun _ _ => ⟨rfl, e13, (by decide : 9 + 0 ≤ _), (by decide : 65560 + 0 ≤ _)⟩)
    dsimp only [Pt.U, Pt.locs, Pt.cells, Pt.slots] at X14 l14 y14 z14 st14 hQ14
    subst l14 y14 z14
    obtain ⟨rfl, Nq14, e14⟩ := hQ14
    have N14 := Fr.app N13 Nq14
    refine own_up st14 ?_
    show own_Go p.tables e below _ (T14.setTop (mkF m 117 #[.val (.int p0), .val (.int p1), .val (.int p2), .val (.int p3), .val (.int p4), .val (.int (0 : Int32)), .val (.int (3 : Int32)), .val (.ref b1), .val (.ref b8), .val (.int (own_min (own_min p0 p1) p2)), .val (.int (own_max (own_max p0 p1) p2)), .unset] [(.int (own_min p0 p1))]))
    refine own_up (fun _ kq => XS.iloadN X14.here hx rfl (hb hby at_117) rfl kq) ?_
    show own_Go p.tables e below _ (T14.setTop (mkF m 118 #[.val (.int p0), .val (.int p1), .val (.int p2), .val (.int p3), .val (.int p4), .val (.int (0 : Int32)), .val (.int (3 : Int32)), .val (.ref b1), .val (.ref b8), .val (.int (own_min (own_min p0 p1) p2)), .val (.int (own_max (own_max p0 p1) p2)), .unset] [(.int p0), (.int (own_min p0 p1))]))
    refine own_up (fun _ kq => XS.iloadN X14.here hx rfl (hb hby at_118) rfl kq) ?_
    show own_Go p.tables e below _ (T14.setTop (mkF m 119 #[.val (.int p0), .val (.int p1), .val (.int p2), .val (.int p3), .val (.int p4), .val (.int (0 : Int32)), .val (.int (3 : Int32)), .val (.ref b1), .val (.ref b8), .val (.int (own_min (own_min p0 p1) p2)), .val (.int (own_max (own_max p0 p1) p2)), .unset] [(.int p1), (.int p0), (.int (own_min p0 p1))]))
    obtain ⟨_, _, ⟨T15, L15, k15, n15⟩, -, X15, ⟨Lc15, hQ15, l15, y15, z15⟩, st15⟩ := Jvm.LawKit.callS X14 hx (y := (⟨"java/lang/Math", "max", "(II)I"⟩ : MethodName)) hown (mvT hZ (hw _ (List.mem_of_getElem? (i := 54) rfl))) (mvT hZ (hw _ (List.mem_of_getElem? (i := 55) rfl))) (mvT hZ (hw _ (List.mem_of_getElem? (i := 52) rfl))) (mvT hZ (hw _ (List.mem_of_getElem? (i := 56) rfl))) (by decide) (backOf (W := 1) (rmX l Z a0 hw [] p0 p1 T9.heap n0 ZH) hZ (hw _ (List.mem_of_getElem? (i := 56) rfl)) (hw _ (List.mem_of_getElem? (i := 52) rfl)) (by decide) (by decide)) (g := (mkF m 119 #[.val (.int p0), .val (.int p1), .val (.int p2), .val (.int p3), .val (.int p4), .val (.int (0 : Int32)), .val (.int (3 : Int32)), .val (.ref b1), .val (.ref b8), .val (.int (own_min (own_min p0 p1) p2)), .val (.int (own_max (own_max p0 p1) p2)), .unset] [(.int p1), (.int p0), (.int (own_min p0 p1))])) rfl (by rw [hml]; rfl) (argsL := [(.int p0), (.int p1)]) (rest := [(.int (own_min p0 p1))]) (lenOf pd_6 rfl) rfl (by show 2 * 0 + _ ≤ _; exact Nat.le_of_eq rfl) (hb hby at_119) (fun _ _ => ⟨rfl, e14, (by decide : 9 + 0 ≤ _), (by decide : 65560 + 0 ≤ _)⟩)
    dsimp only [Pt.U, Pt.locs, Pt.cells, Pt.slots] at X15 l15 y15 z15 st15 hQ15
    subst l15 y15 z15
    obtain ⟨rfl, Nq15, e15⟩ := hQ15
    have N15 := Fr.app N14 Nq15
    refine own_up st15 ?_
    show own_Go p.tables e below _ (T15.setTop (mkF m 122 #[.val (.int p0), .val (.int p1), .val (.int p2), .val (.int p3), .val (.int p4), .val (.int (0 : Int32)), .val (.int (3 : Int32)), .val (.ref b1), .val (.ref b8), .val (.int (own_min (own_min p0 p1) p2)), .val (.int (own_max (own_max p0 p1) p2)), .unset] [(.int (own_max p0 p1)), (.int (own_min p0 p1))]))
    refine own_up (fun _ kq => XS.iloadN X15.here hx rfl (hb hby at_122) rfl kq) ?_
    show own_Go p.tables e below _ (T15.setTop (mkF m 123 #[.val (.int p0), .val (.int p1), .val (.int p2), .val (.int p3), .val (.int p4), .val (.int (0 : Int32)), .val (.int (3 : Int32)), .val (.ref b1), .val (.ref b8), .val (.int (own_min (own_min p0 p1) p2)), .val (.int (own_max (own_max p0 p1) p2)), .unset] [(.int p2), (.int (own_max p0 p1)), (.int (own_min p0 p1))]))
    obtain ⟨_, _, ⟨T16, L16, k16, n16⟩, -, X16, ⟨Lc16, hQ16, l16, y16, z16⟩, st16⟩ := Jvm.LawKit.callS X15 hx (y := (⟨"java/lang/Math", "min", "(II)I"⟩ : MethodName)) hown (mvT hZ (hw _ (List.mem_of_getElem? (i := 50) rfl))) (mvT hZ (hw _ (List.mem_of_getElem? (i := 51) rfl))) (mvT hZ (hw _ (List.mem_of_getElem? (i := 52) rfl))) (mvT hZ (hw _ (List.mem_of_getElem? (i := 53) rfl))) (by decide) (backOf (W := 1) (rmI l Z a0 hw [] (own_max p0 p1) p2 T9.heap n0 ZH) hZ (hw _ (List.mem_of_getElem? (i := 53) rfl)) (hw _ (List.mem_of_getElem? (i := 52) rfl)) (by decide) (by decide)) (g := (mkF m 123 #[.val (.int p0), .val (.int p1), .val (.int p2), .val (.int p3), .val (.int p4), .val (.int (0 : Int32)), .val (.int (3 : Int32)), .val (.ref b1), .val (.ref b8), .val (.int (own_min (own_min p0 p1) p2)), .val (.int (own_max (own_max p0 p1) p2)), .unset] [(.int p2), (.int (own_max p0 p1)), (.int (own_min p0 p1))])) rfl (by rw [hml]; rfl) (argsL := [(.int (own_max p0 p1)), (.int p2)]) (rest := [(.int (own_min p0 p1))]) (lenOf pd_6 rfl) rfl (by show 2 * 0 + _ ≤ _; exact Nat.le_of_eq rfl) (hb hby at_123) (fun _ _ => ⟨rfl, e15, (by decide : 9 + 0 ≤ _), (by decide : 65560 + 0 ≤ _)⟩)
    dsimp only [Pt.U, Pt.locs, Pt.cells, Pt.slots] at X16 l16 y16 z16 st16 hQ16
    subst l16 y16 z16
    obtain ⟨rfl, Nq16, e16⟩ := hQ16
    have N16 := Fr.app N15 Nq16
    refine own_up st16 ?_
    show own_Go p.tables e below _ (T16.setTop (mkF m 126 #[.val (.int p0), .val (.int p1), .val (.int p2), .val (.int p3), .val (.int p4), .val (.int (0 : Int32)), .val (.int (3 : Int32)), .val (.ref b1), .val (.ref b8), .val (.int (own_min (own_min p0 p1) p2)), .val (.int (own_max (own_max p0 p1) p2)), .unset] [(.int (own_min (own_max p0 p1) p2)), (.int (own_min p0 p1))]))
    obtain ⟨_, _, ⟨T17, L17, k17, n17⟩, -, X17, ⟨Lc17, hQ17, l17, y17, z17⟩, st17⟩ := Jvm.LawKit.callS X16 hx (y := (⟨"java/lang/Math", "max", "(II)I"⟩ : MethodName)) hown (mvT hZ (hw _ (List.mem_of_getElem? (i := 54) rfl))) (mvT hZ (hw _ (List.mem_of_getElem? (i := 55) rfl))) (mvT hZ (hw _ (List.mem_of_getElem? (i := 52) rfl))) (mvT hZ (hw _ (List.mem_of_getElem? (i := 56) rfl))) (by decide) (backOf (W := 0) (rmX l Z a0 hw [] (own_min p0 p1) (own_min (own_max p0 p1) p2) T9.heap n0 ZH) hZ (hw _ (List.mem_of_getElem? (i := 56) rfl)) (hw _ (List.mem_of_getElem? (i := 52) rfl)) (by decide) (by decide)) (g := (mkF m 126 #[.val (.int p0), .val (.int p1), .val (.int p2), .val (.int p3), .val (.int p4), .val (.int (0 : Int32)), .val (.int (3 : Int32)), .val (.ref b1), .val (.ref b8), .val (.int (own_min (own_min p0 p1) p2)), .val (.int (own_max (own_max p0 p1) p2)), .unset] [(.int (own_min (own_max p0 p1) p2)), (.int (own_min p0 p1))])) rfl (by rw [hml]; rfl) (argsL := [(.int (own_min p0 p1)), (.int (own_min (own_max p0 p1) p2))]) (rest := []) (lenOf pd_6 rfl) rfl (by show 2 * 0 + _ ≤ _; exact Nat.le_of_eq rfl) (hb hby at_126) (fun _ _ => ⟨rfl, e16, (by decide : 9 + 0 ≤ _), (by decide : 65560 + 0 ≤ _)⟩)
    dsimp only [Pt.U, Pt.locs, Pt.cells, Pt.slots] at X17 l17 y17 z17 st17 hQ17
    subst l17 y17 z17
    obtain ⟨rfl, Nq17, e17⟩ := hQ17
    have N17 := Fr.app N16 Nq17
    refine own_up st17 ?_
    show own_Go p.tables e below _ (T17.setTop (mkF m 129 #[.val (.int p0), .val (.int p1), .val (.int p2), .val (.int p3), .val (.int p4), .val (.int (0 : Int32)), .val (.int (3 : Int32)), .val (.ref b1), .val (.ref b8), .val (.int (own_min (own_min p0 p1) p2)), .val (.int (own_max (own_max p0 p1) p2)), .unset] [(.int (own_max (own_min p0 p1) (own_min (own_max p0 p1) p2)))]))
    refine own_up (fun _ kq => XS.istore X17.here hx rfl (hb hby at_129) rfl (l' := #[.val (.int p0), .val (.int p1), .val (.int p2), .val (.int p3), .val (.int p4), .val (.int (0 : Int32)), .val (.int (3 : Int32)), .val (.ref b1), .val (.ref b8), .val (.int (own_min (own_min p0 p1) p2)), .val (.int (own_max (own_max p0 p1) p2)), .val (.int (own_max (own_min p0 p1) (own_min (own_max p0 p1) p2)))]) rfl kq) ?_
    show own_Go p.tables e below _ (T17.setTop (mkF m 131 #[.val (.int p0), .val (.int p1), .val (.int p2), .val (.int p3), .val (.int p4), .val (.int (0 : Int32)), .val (.int (3 : Int32)), .val (.ref b1), .val (.ref b8), .val (.int (own_min (own_min p0 p1) p2)), .val (.int (own_max (own_max p0 p1) p2)), .val (.int (own_max (own_min p0 p1) (own_min (own_max p0 p1) p2)))] []))
    refine own_up (fun _ kq => XS.aload X17.here hx rfl (hb hby at_131) rfl rfl kq) ?_
    show own_Go p.tables e below _ (T17.setTop (mkF m 133 #[.val (.int p0), .val (.int p1), .val (.int p2), .val (.int p3), .val (.int p4), .val (.int (0 : Int32)), .val (.int (3 : Int32)), .val (.ref b1), .val (.ref b8), .val (.int (own_min (own_min p0 p1) p2)), .val (.int (own_max (own_max p0 p1) p2)), .val (.int (own_max (own_min p0 p1) (own_min (own_max p0 p1) p2)))] [(.ref b8)]))
    refine own_up (fun _ kq => XS.iconst X17.here hx rfl (hb hby at_133) kq) ?_
    show own_Go p.tables e below _ (T17.setTop (mkF m 134 #[.val (.int p0), .val (.int p1), .val (.int p2), .val (.int p3), .val (.int p4), .val (.int (0 : Int32)), .val (.int (3 : Int32)), .val (.ref b1), .val (.ref b8), .val (.int (own_min (own_min p0 p1) p2)), .val (.int (own_max (own_max p0 p1) p2)), .val (.int (own_max (own_min p0 p1) (own_min (own_max p0 p1) p2)))] [(.int (0 : Int32)), (.ref b8)]))
    obtain ⟨cq18, kq18, q18a, q18b, q18c⟩ := isOf hZ e17 E_b8
    obtain ⟨_, _, ⟨T18, L18, k18, n18⟩, -, X18, ⟨Lc18, hQ18, l18, y18, z18⟩, st18⟩ := X17.virtualBack hx (y := (⟨"com/example/ranksieve/ranksieve/model/SortedColumn", "getValue", "(I)D"⟩ : MethodName)) (z := (⟨"com/example/ranksieve/ranksieve/model/SortedColumn", "getValue", "(I)D"⟩ : MethodName)) hown (mvT hZ (hw _ (List.mem_of_getElem? (i := 57) rfl))) (mvT hZ (hw _ (List.mem_of_getElem? (i := 58) rfl))) (notFace_of_selects (args := #[]) (mvT hZ (hw _ (List.mem_of_getElem? (i := 60) rfl)))) (mvT hZ (hw _ (List.mem_of_getElem? (i := 60) rfl))) (mvT hZ (hw _ (List.mem_of_getElem? (i := 59) rfl))) (by decide) (backOf (W := 0) (rmV l Z a0 hw [] b8 b1 rb (0 : Int32) (0 : Int32) (own_L [FP.i2d p0, FP.i2d p1, FP.i2d p2, FP.i2d p3, FP.i2d p3, FP.i2d p3]) rq T9.heap n0 ZH Frw Fvl Fcl GV G_rb (by decide) (own_cb (by unfold own_c2; decide) PM.1)) hZ (hw _ (List.mem_of_getElem? (i := 61) rfl)) (hw _ (List.mem_of_getElem? (i := 3) rfl)) (by decide) (by decide)) q18a q18c (g := (mkF m 134 #[.val (.int p0), .val (.int p1), .val (.int p2), .val (.int p3), .val (.int p4), .val (.int (0 : Int32)), .val (.int (3 : Int32)), .val (.ref b1), .val (.ref b8), .val (.int (own_min (own_min p0 p1) p2)), .val (.int (own_max (own_max p0 p1) p2)), .val (.int (own_max (own_min p0 p1) (own_min (own_max p0 p1) p2)))] [(.int (0 : Int32)), (.ref b8)])) rfl (by rw [hml]; rfl) (Steps.refl _) (argsL := [(.int (0 : Int32))]) (rest := []) (lenOf pd_7 rfl) rfl (by show 2 * 0 + _ ≤ _; exact Nat.le_of_eq rfl) (hb hby at_134) (fun _ _ => ⟨rfl, e17, (by decide : 9 + 0 ≤ _), (by decide : 65560 + 0 ≤ _)⟩)
    dsimp only [Pt.U, Pt.locs, Pt.cells, Pt.slots] at X18 l18 y18 z18 st18 hQ18
    subst l18 y18 z18
    obtain ⟨rfl, Nq18, e18⟩ := hQ18
    have N18 := Fr.app N17 Nq18
    refine own_up (fun _ kq => st18.trans kq) ?_
    show own_Go p.tables e below _ (T18.setTop (mkF m 137 #[.val (.int p0), .val (.int p1), .val (.int p2), .val (.int p3), .val (.int p4), .val (.int (0 : Int32)), .val (.int (3 : Int32)), .val (.ref b1), .val (.ref b8), .val (.int (own_min (own_min p0 p1) p2)), .val (.int (own_max (own_max p0 p1) p2)), .val (.int (own_max (own_min p0 p1) (own_min (own_max p0 p1) p2)))] [(.double ((own_L [FP.i2d p0, FP.i2d p1, FP.i2d p2, FP.i2d p3, FP.i2d p3, FP.i2d p3]) ((((0 : Int32) * (3 : Int32)) + (rq ((0 : Int32)).toNatClampNeg))).toNatClampNeg))]))
    refine own_up (fun _ kq => XS.iload X18.here hx rfl (hb hby at_137) rfl kq) ?_
    show own_Go p.tables e below _ (T18.setTop (mkF m 139 #[.val (.int p0), .val (.int p1), .val (.int p2), .val (.int p3), .val (.int p4), .val (.int (0 : Int32)), .val (.int (3 : Int32)), .val (.ref b1), .val (.ref b8), .val (.int (own_min (own_min p0 p1) p2)), .val (.int (own_max (own_max p0 p1) p2)), .val (.int (own_max (own_min p0 p1) (own_min (own_max p0 p1) p2)))] [(.int (own_min (own_min p0 p1) p2)), (.double ((own_L [FP.i2d p0, FP.i2d p1, FP.i2d p2, FP.i2d p3, FP.i2d p3, FP.i2d p3]) ((((0 : Int32) * (3 : Int32)) + (rq ((0 : Int32)).toNatClampNeg))).toNatClampNeg))]))
    refine own_up (fun _ kq => XS.i2dS X18.here hx rfl (v := (FP.i2d (own_min (own_min p0 p1) p2))) (hb hby at_139) rfl rfl kq) ?_
    show own_Go p.tables e below _ (T18.setTop (mkF m 140 #[.val (.int p0), .val (.int p1), .val (.int p2), .val (.int p3), .val (.int p4), .val (.int (0 : Int32)), .val (.int (3 : Int32)), .val (.ref b1), .val (.ref b8), .val (.int (own_min (own_min p0 p1) p2)), .val (.int (own_max (own_max p0 p1) p2)), .val (.int (own_max (own_min p0 p1) (own_min (own_max p0 p1) p2)))] [(.double (FP.i2d (own_min (own_min p0 p1) p2))), (.double ((own_L [FP.i2d p0, FP.i2d p1, FP.i2d p2, FP.i2d p3, FP.i2d p3, FP.i2d p3]) ((((0 : Int32) * (3 : Int32)) + (rq ((0 : Int32)).toNatClampNeg))).toNatClampNeg))]))
    refine own_up (fun _ kq => XS.dcmpS X18.here hx rfl (v := (cmpValue (FP.dcmp ((own_L [FP.i2d p0, FP.i2d p1, FP.i2d p2, FP.i2d p3, FP.i2d p3, FP.i2d p3]) ((((0 : Int32) * (3 : Int32)) + (rq ((0 : Int32)).toNatClampNeg))).toNatClampNeg) (FP.i2d (own_min (own_min p0 p1) p2))) .l)) (hb hby at_140) rfl rfl kq) ?_
    show own_Go p.tables e below _ (T18.setTop (mkF m 141 #[.val (.int p0), .val (.int p1), .val (.int p2), .val (.int p3), .val (.int p4), .val (.int (0 : Int32)), .val (.int (3 : Int32)), .val (.ref b1), .val (.ref b8), .val (.int (own_min (own_min p0 p1) p2)), .val (.int (own_max (own_max p0 p1) p2)), .val (.int (own_max (own_min p0 p1) (own_min (own_max p0 p1) p2)))] [(.int (cmpValue (FP.dcmp ((own_L [FP.i2d p0, FP.i2d p1, FP.i2d p2, FP.i2d p3, FP.i2d p3, FP.i2d p3]) ((((0 : Int32) * (3 : Int32)) + (rq ((0 : Int32)).toNatClampNeg))).toNatClampNeg) (FP.i2d (own_min (own_min p0 p1) p2))) .l))]))
    refine own_up (fun _ kq => XS.ifNo X18.here hx rfl (hb hby at_141) rfl ((if0 _ _).trans (teq (own_cmp FIN.1)).2) kq) ?_
    show own_Go p.tables e below _ (T18.setTop (mkF m 144 #[.val (.int p0), .val (.int p1), .val (.int p2), .val (.int p3), .val (.int p4), .val (.int (0 : Int32)), .val (.int (3 : Int32)), .val (.ref b1), .val (.ref b8), .val (.int (own_min (own_min p0 p1) p2)), .val (.int (own_max (own_max p0 p1) p2)), .val (.int (own_max (own_min p0 p1) (own_min (own_max p0 p1) p2)))] []))
    refine own_up (fun _ kq => XS.aload X18.here hx rfl (hb hby at_144) rfl rfl kq) ?_
    show own_Go p.tables e below _ (T18.setTop (mkF m 146 #[.val (.int p0), .val (.int p1), .val (.int p2), .val (.int p3), .val (.int p4), .val (.int (0 : Int32)), .val (.int (3 : Int32)), .val (.ref b1), .val (.ref b8), .val (.int (own_min (own_min p0 p1) p2)), .val (.int (own_max (own_max p0 p1) p2)), .val (.int (own_max (own_min p0 p1) (own_min (own_max p0 p1) p2)))] [(.ref b8)]))
    refine own_up (fun _ kq => XS.iconst X18.here hx rfl (hb hby at_146) kq) ?_
    show own_Go p.tables e below _ (T18.setTop (mkF m 147 #[.val (.int p0), .val (.int p1), .val (.int p2), .val (.int p3), .val (.int p4), .val (.int (0 : Int32)), .val (.int (3 : Int32)), .val (.ref b1), .val (.ref b8), .val (.int (own_min (own_min p0 p1) p2)), .val (.int (own_max (own_max p0 p1) p2)), .val (.int (own_max (own_min p0 p1) (own_min (own_max p0 p1) p2)))] [(.int (1 : Int32)), (.ref b8)]))
    obtain ⟨cq19, kq19, q19a, q19b, q19c⟩ := isOf hZ e18 E_b8
    obtain ⟨_, _, ⟨T19, L19, k19, n19⟩, -, X19, ⟨Lc19, hQ19, l19, y19, z19⟩, st19⟩ := X18.virtualBack hx (y := (⟨"com/example/ranksieve/ranksieve/model/SortedColumn", "getValue", "(I)D"⟩ : MethodName)) (z := (⟨"com/example/ranksieve/ranksieve/model/SortedColumn", "getValue", "(I)D"⟩ : MethodName)) hown (mvT hZ (hw _ (List.mem_of_getElem? (i := 57) rfl))) (mvT hZ (hw _ (List.mem_of_getElem? (i := 58) rfl))) (notFace_of_selects (args := #[]) (mvT hZ (hw _ (List.mem_of_getElem? (i := 60) rfl)))) (mvT hZ (hw _ (List.mem_of_getElem? (i := 60) rfl))) (mvT hZ (hw _ (List.mem_of_getElem? (i := 59) rfl))) (by decide) (backOf (W := 0) (rmV l Z a0 hw [] b8 b1 rb (0 : Int32) (1 : Int32) (own_L [FP.i2d p0, FP.i2d p1, FP.i2d p2, FP.i2d p3, FP.i2d p3, FP.i2d p3]) rq T9.heap n0 ZH Frw Fvl Fcl GV G_rb (by decide) (own_cb (by unfold own_c2; decide) PM.2.1)) hZ (hw _ (List.mem_of_getElem? (i := 61) rfl)) (hw _ (List.mem_of_getElem? (i := 3) rfl)) (by decide) (by decide)) q19a q19c (g := (mkF m 147 #[.val (.int p0), .val (.int p1), .val (.int p2), .val (.int p3), .val (.int p4), .val (.int (0 : Int32)), .val (.int (3 : Int32)), .val (.ref b1), .val (.ref b8), .val (.int (own_min (own_min p0 p1) p2)), .val (.int (own_max (own_max p0 p1) p2)), .val (.int (own_max (own_min p0 p1) (own_min (own_max p0 p1) p2)))] [(.int (1 : Int32)), (.ref b8)])) rfl (by rw [hml]; rfl) (Steps.refl _) (argsL := [(.int (1 : Int32))]) (rest := []) (lenOf pd_7 rfl) rfl (by show 2 * 0 + _ ≤ _; exact Nat.le_of_eq rfl) (hb hby at_147) (fun _ _ => ⟨rfl, e18, (by decide : 9 + 0 ≤ _), (by decide : 65560 + 0 ≤ _)⟩)
    dsimp only [Pt.U, Pt.locs, Pt.cells, Pt.slots] at X19 l19 y19 z19 st19 hQ19
    subst l19 y19 z19
    obtain ⟨rfl, Nq19, e19⟩ := hQ19
    have N19 := Fr.app N18 Nq19
    refine own_up (fun _ kq => st19.trans kq) ?_
    show own_Go p.tables e below _ (T19.setTop (mkF m 150 #[.val (.int p0), .val (.int p1), .val (.int p2), .val (.int p3), .val (.int p4), .val (.int (0 : Int32)), .val (.int (3 : Int32)), .val (.ref b1), .val (.ref b8), .val (.int (own_min (own_min p0 p1) p2)), .val (.int (own_max (own_max p0 p1) p2)), .val (.int (own_max (own_min p0 p1) (own_min (own_max p0 p1) p2)))] [(.double ((own_L [FP.i2d p0, FP.i2d p1, FP.i2d p2, FP.i2d p3, FP.i2d p3, FP.i2d p3]) ((((0 : Int32) * (3 : Int32)) + (rq ((1 : Int32)).toNatClampNeg))).toNatClampNeg))]))
    refine own_up (fun _ kq => XS.iload X19.here hx rfl (hb hby at_150) rfl kq) ?_
    show own_Go p.tables e below _ (T19.setTop (mkF m 152 #[.val (.int p0), .val (.int p1), .val (.int p2), .val (.int p3), .val (.int p4), .val (.int (0 : Int32)), .val (.int (3 : Int32)), .val (.ref b1), .val (.ref b8), .val (.int (own_min (own_min p0 p1) p2)), .val (.int (own_max (own_max p0 p1) p2)), .val (.int (own_max (own_min p0 p1) (own_min (own_max p0 p1) p2)))] [(.int (own_max (own_min p0 p1) (own_min (own_max p0 p1) p2))), (.double ((own_L [FP.i2d p0, FP.i2d p1, FP.i2d p2, FP.i2d p3, FP.i2d p3, FP.i2d p3]) ((((0 : Int32) * (3 : Int32)) + (rq ((1 : Int32)).toNatClampNeg))).toNatClampNeg))]))
    refine own_up (fun _ kq => XS.i2dS X19.here hx rfl (v := (FP.i2d (own_max (own_min p0 p1) (own_min (own_max p0 p1) p2)))) (hb hby at_152) rfl rfl kq) ?_
    show own_Go p.tables e below _ (T19.setTop (mkF m 153 #[.val (.int p0), .val (.int p1), .val (.int p2), .val (.int p3), .val (.int p4), .val (.int (0 : Int32)), .val (.int (3 : Int32)), .val (.ref b1), .val (.ref b8), .val (.int (own_min (own_min p0 p1) p2)), .val (.int (own_max (own_max p0 p1) p2)), .val (.int (own_max (own_min p0 p1) (own_min (own_max p0 p1) p2)))] [(.double (FP.i2d (own_max (own_min p0 p1) (own_min (own_max p0 p1) p2)))), (.double ((own_L [FP.i2d p0, FP.i2d p1, FP.i2d p2, FP.i2d p3, FP.i2d p3, FP.i2d p3]) ((((0 : Int32) * (3 : Int32)) + (rq ((1 : Int32)).toNatClampNeg))).toNatClampNeg))]))
    refine own_up (fun _ kq => XS.dcmpS X19.here hx rfl (v := (cmpValue (FP.dcmp ((own_L [FP.i2d p0, FP.i2d p1, FP.i2d p2, FP.i2d p3, FP.i2d p3, FP.i2d p3]) ((((0 : Int32) * (3 : Int32)) + (rq ((1 : Int32)).toNatClampNeg))).toNatClampNeg) (FP.i2d (own_max (own_min p0 p1) (own_min (own_max p0 p1) p2)))) .l)) (hb hby at_153) rfl rfl kq) ?_
    show own_Go p.tables e below _ (T19.setTop (mkF m 154 #[.val (.int p0), .val (.int p1), .val (.int p2), .val (.int p3), .val (.int p4), .val (.int (0 : Int32)), .val (.int (3 : Int32)), .val (.ref b1), .val (.ref b8), .val (.int (own_min (own_min p0 p1) p2)), .val (.int (own_max (own_max p0 p1) p2)), .val (.int (own_max (own_min p0 p1) (own_min (own_max p0 p1) p2)))] [(.int (cmpValue (FP.dcmp ((own_L [FP.i2d p0, FP.i2d p1, FP.i2d p2, FP.i2d p3, FP.i2d p3, FP.i2d p3]) ((((0 : Int32) * (3 : Int32)) + (rq ((1 : Int32)).toNatClampNeg))).toNatClampNeg) (FP.i2d (own_max (own_min p0 p1) (own_min (own_max p0 p1) p2)))) .l))]))
    refine own_up (fun _ kq => XS.ifNo X19.here hx rfl (hb hby at_154) rfl ((if0 _ _).trans (teq (own_cmp FIN.2.1)).2) kq) ?_
    show own_Go p.tables e below _ (T19.setTop (mkF m 157 #[.val (.int p0), .val (.int p1), .val (.int p2), .val (.int p3), .val (.int p4), .val (.int (0 : Int32)), .val (.int (3 : Int32)), .val (.ref b1), .val (.ref b8), .val (.int (own_min (own_min p0 p1) p2)), .val (.int (own_max (own_max p0 p1) p2)), .val (.int (own_max (own_min p0 p1) (own_min (own_max p0 p1) p2)))] []))
    refine own_up (fun _ kq => XS.aload X19.here hx rfl (hb hby at_157) rfl rfl kq) ?_
    show own_Go p.tables e below _ (T19.setTop (mkF m 159 #[.val (.int p0), .val (.int p1), .val (.int p2), .val (.int p3), .val (.int p4), .val (.int (0 : Int32)), .val (.int (3 : Int32)), .val (.ref b1), .val (.ref b8), .val (.int (own_min (own_min p0 p1) p2)), .val (.int (own_max (own_max p0 p1) p2)), .val (.int (own_max (own_min p0 p1) (own_min (own_max p0 p1) p2)))] [(.ref b8)]))
    refine own_up (fun _ kq => XS.iconst X19.here hx rfl (hb hby at_159) kq) ?_
    show own_Go p.tables e below _ (T19.setTop (mkF m 160 #[.val (.int p0), .val (.int p1), .val (.int p2), .val (.int p3), .val (.int p4), .val (.int (0 : Int32)), .val (.int (3 : Int32)), .val (.ref b1), .val (.ref b8), .val (.int (own_min (own_min p0 p1) p2)), .val (.int (own_max (own_max p0 p1) p2)), .val (.int (own_max (own_min p0 p1) (own_min (own_max p0 p1) p2)))] [(.int (2 : Int32)), (.ref b8)]))
    obtain ⟨cq20, kq20, q20a, q20b, q20c⟩ := isOf hZ e19 E_b8
    obtain ⟨_, _, ⟨T20, L20, k20, n20⟩, -, X20, ⟨Lc20, hQ20, l20, y20, z20⟩, st20⟩ := X19.virtualBack hx (y := (⟨"com/example/ranksieve/ranksieve/model/SortedColumn", "getValue", "(I)D"⟩ : MethodName)) (z := (⟨"com/example/ranksieve/ranksieve/model/SortedColumn", "getValue", "(I)D"⟩ : MethodName)) hown (mvT hZ (hw _ (List.mem_of_getElem? (i := 57) rfl))) (mvT hZ (hw _ (List.mem_of_getElem? (i := 58) rfl))) (notFace_of_selects (args := #[]) (mvT hZ (hw _ (List.mem_of_getElem? (i := 60) rfl)))) (mvT hZ (hw _ (List.mem_of_getElem? (i := 60) rfl))) (mvT hZ (hw _ (List.mem_of_getElem? (i := 59) rfl))) (by decide) (backOf (W := 0) (rmV l Z a0 hw [] b8 b1 rb (0 : Int32) (2 : Int32) (own_L [FP.i2d p0, FP.i2d p1, FP.i2d p2, FP.i2d p3, FP.i2d p3, FP.i2d p3]) rq T9.heap n0 ZH Frw Fvl Fcl GV G_rb (by decide) (own_cb (by unfold own_c2; decide) PM.2.2)) hZ (hw _ (List.mem_of_getElem? (i := 61) rfl)) (hw _ (List.mem_of_getElem? (i := 3) rfl)) (by decide) (by decide)) q20a q20c (g := (mkF m 160 #[.val (.int p0), .val (.int p1), .val (.int p2), .val (.int p3), .val (.int p4), .val (.int (0 : Int32)), .val (.int (3 : Int32)), .val (.ref b1), .val (.ref b8), .val (.int (own_min (own_min p0 p1) p2)), .val (.int (own_max (own_max p0 p1) p2)), .val (.int (own_max (own_min p0 p1) (own_min (own_max p0 p1) p2)))] [(.int (2 : Int32)), (.ref b8)])) rfl (by rw [hml]; rfl) (Steps.refl _) (argsL := [(.int (2 : Int32))]) (rest := []) (lenOf pd_7 rfl) rfl (by show 2 * 0 + _ ≤ _; exact Nat.le_of_eq rfl) (hb hby at_160) (fun _ _ => ⟨rfl, e19, (by decide : 9 + 0 ≤ _), (by decide : 65560 + 0 ≤ _)⟩)
    dsimp only [Pt.U, Pt.locs, Pt.cells, Pt.slots] at X20 l20 y20 z20 st20 hQ20
    subst l20 y20 z20
    obtain ⟨rfl, Nq20, e20⟩ := hQ20
    have N20 := Fr.app N19 Nq20
    refine own_up (fun _ kq => st20.trans kq) ?_
    show own_Go p.tables e below _ (T20.setTop (mkF m 163 #[.val (.int p0), .val (.int p1), .val (.int p2), .val (.int p3), .val (.int p4), .val (.int (0 : Int32)), .val (.int (3 : Int32)), .val (.ref b1), .val (.ref b8), .val (.int (own_min (own_min p0 p1) p2)), .val (.int (own_max (own_max p0 p1) p2)), .val (.int (own_max (own_min p0 p1) (own_min (own_max p0 p1) p2)))] [(.double ((own_L [FP.i2d p0, FP.i2d p1, FP.i2d p2, FP.i2d p3, FP.i2d p3, FP.i2d p3]) ((((0 : Int32) * (3 : Int32)) + (rq ((2 : Int32)).toNatClampNeg))).toNatClampNeg))]))
    refine own_up (fun _ kq => XS.iload X20.here hx rfl (hb hby at_163) rfl kq) ?_
    show own_Go p.tables e below _ (T20.setTop (mkF m 165 #[.val (.int p0), .val (.int p1), .val (.int p2), .val (.int p3), .val (.int p4), .val (.int (0 : Int32)), .val (.int (3 : Int32)), .val (.ref b1), .val (.ref b8), .val (.int (own_min (own_min p0 p1) p2)), .val (.int (own_max (own_max p0 p1) p2)), .val (.int (own_max (own_min p0 p1) (own_min (own_max p0 p1) p2)))] [(.int (own_max (own_max p0 p1) p2)), (.double ((own_L [FP.i2d p0, FP.i2d p1, FP.i2d p2, FP.i2d p3, FP.i2d p3, FP.i2d p3]) ((((0 : Int32) * (3 : Int32)) + (rq ((2 : Int32)).toNatClampNeg))).toNatClampNeg))]))
    refine own_up (fun _ kq => XS.i2dS X20.here hx rfl (v := (FP.i2d (own_max (own_max p0 p1) p2))) (hb hby at_165) rfl rfl kq) ?_
    show own_Go p.tables e below _ (T20.setTop (mkF m 166 #[.val (.int p0), .val (.int p1), .val (.int p2), .val (.int p3), .val (.int p4), .val (.int (0 : Int32)), .val (.int (3 : Int32)), .val (.ref b1), .val (.ref b8), .val (.int (own_min (own_min p0 p1) p2)), .val (.int (own_max (own_max p0 p1) p2)), .val (.int (own_max (own_min p0 p1) (own_min (own_max p0 p1) p2)))] [(.double (FP.i2d (own_max (own_max p0 p1) p2))), (.double ((own_L [FP.i2d p0, FP.i2d p1, FP.i2d p2, FP.i2d p3, FP.i2d p3, FP.i2d p3]) ((((0 : Int32) * (3 : Int32)) + (rq ((2 : Int32)).toNatClampNeg))).toNatClampNeg))]))
    refine own_up (fun _ kq => XS.dcmpS X20.here hx rfl (v := (cmpValue (FP.dcmp ((own_L [FP.i2d p0, FP.i2d p1, FP.i2d p2, FP.i2d p3, FP.i2d p3, FP.i2d p3]) ((((0 : Int32) * (3 : Int32)) + (rq ((2 : Int32)).toNatClampNeg))).toNatClampNeg) (FP.i2d (own_max (own_max p0 p1) p2))) .l)) (hb hby at_166) rfl rfl kq) ?_
    show own_Go p.tables e below _ (T20.setTop (mkF m 167 #[.val (.int p0), .val (.int p1), .val (.int p2), .val (.int p3), .val (.int p4), .val (.int (0 : Int32)), .val (.int (3 : Int32)), .val (.ref b1), .val (.ref b8), .val (.int (own_min (own_min p0 p1) p2)), .val (.int (own_max (own_max p0 p1) p2)), .val (.int (own_max (own_min p0 p1) (own_min (own_max p0 p1) p2)))] [(.int (cmpValue (FP.dcmp ((own_L [FP.i2d p0, FP.i2d p1, FP.i2d p2, FP.i2d p3, FP.i2d p3, FP.i2d p3]) ((((0 : Int32) * (3 : Int32)) + (rq ((2 : Int32)).toNatClampNeg))).toNatClampNeg) (FP.i2d (own_max (own_max p0 p1) p2))) .l))]))
    refine own_up (fun _ kq => XS.ifNo X20.here hx rfl (hb hby at_167) rfl ((if0 _ _).trans (teq (own_cmp FIN.2.2)).2) kq) ?_
    show own_Go p.tables e below _ (T20.setTop (mkF m 170 #[.val (.int p0), .val (.int p1), .val (.int p2), .val (.int p3), .val (.int p4), .val (.int (0 : Int32)), .val (.int (3 : Int32)), .val (.ref b1), .val (.ref b8), .val (.int (own_min (own_min p0 p1) p2)), .val (.int (own_max (own_max p0 p1) p2)), .val (.int (own_max (own_min p0 p1) (own_min (own_max p0 p1) p2)))] []))
    refine own_up (fun _ kq => XS.iconst X20.here hx rfl (hb hby at_170) kq) ?_
    show own_Go p.tables e below _ (T20.setTop (mkF m 171 #[.val (.int p0), .val (.int p1), .val (.int p2), .val (.int p3), .val (.int p4), .val (.int (0 : Int32)), .val (.int (3 : Int32)), .val (.ref b1), .val (.ref b8), .val (.int (own_min (own_min p0 p1) p2)), .val (.int (own_max (own_max p0 p1) p2)), .val (.int (own_max (own_min p0 p1) (own_min (own_max p0 p1) p2)))] [(.int (1 : Int32))]))
    refine own_up (fun _ kq => XS.goto X20.here hx rfl (pc0 := 171) (pc' := 175) rfl (hb hby at_171) (by decide) (by decide) kq) ?_
    show own_Go p.tables e below _ (T20.setTop (mkF m 175 #[.val (.int p0), .val (.int p1), .val (.int p2), .val (.int p3), .val (.int p4), .val (.int (0 : Int32)), .val (.int (3 : Int32)), .val (.ref b1), .val (.ref b8), .val (.int (own_min (own_min p0 p1) p2)), .val (.int (own_max (own_max p0 p1) p2)), .val (.int (own_max (own_min p0 p1) (own_min (own_max p0 p1) p2)))] [(.int (1 : Int32))]))
    obtain ⟨fs21, hr21, hrun21, hended21, hW21, hsame21⟩ := X20.leave (v := some (.int (1 : Int32))) (fun h => by rw [Bd.returns] at h; cases h)
    refine own_end ⟨_, _, ?_, hrun21, hended21, _, _, rfl, ?_, ⟨_, rfl⟩, hW21, hsame21.mono (by decide) (by decide)⟩
    · exact retN X20 hx (t := .boolean) Bd.returns (by simp) (hb hby at_175) hr21
    · show Qrm0 Z p0 p1 p2 p3 p4 h0 n0 _ T20.heap _
      rw [e20]
      exact ⟨rfl, N20⟩
  · show own_Go p.tables e below _ (s₁.setTop (mkF m 6 #[.val (.int p0), .val (.int p1), .val (.int p2), .val (.int p3), .val (.int p4), .val (.int (1 : Int32)), .unset, .unset, .unset, .unset, .unset, .unset] []))
    refine own_up (fun _ kq => XS.iconst X0.here hx rfl (hb hby at_6) kq) ?_
    show own_Go p.tables e below _ (s₁.setTop (mkF m 7 #[.val (.int p0), .val (.int p1), .val (.int p2), .val (.int p3), .val (.int p4), .val (.int (1 : Int32)), .unset, .unset, .unset, .unset, .unset, .unset] [(.int (3 : Int32))]))
    refine own_up (fun _ kq => XS.iload X0.here hx rfl (hb hby at_7) rfl kq) ?_
    show own_Go p.tables e below _ (s₁.setTop (mkF m 9 #[.val (.int p0), .val (.int p1), .val (.int p2), .val (.int p3), .val (.int p4), .val (.int (1 : Int32)), .unset, .unset, .unset, .unset, .unset, .unset] [(.int (1 : Int32)), (.int (3 : Int32))]))
    refine own_up (fun _ kq => XS.iconst X0.here hx rfl (hb hby at_9) kq) ?_
    show own_Go p.tables e below _ (s₁.setTop (mkF m 10 #[.val (.int p0), .val (.int p1), .val (.int p2), .val (.int p3), .val (.int p4), .val (.int (1 : Int32)), .unset, .unset, .unset, .unset, .unset, .unset] [(.int (3 : Int32)), (.int (1 : Int32)), (.int (3 : Int32))]))
    refine own_up (fun _ kq => XS.imul X0.here hx rfl (hb hby at_10) rfl kq) ?_
    show own_Go p.tables e below _ (s₁.setTop (mkF m 11 #[.val (.int p0), .val (.int p1), .val (.int p2), .val (.int p3), .val (.int p4), .val (.int (1 : Int32)), .unset, .unset, .unset, .unset, .unset, .unset] [(.int (3 : Int32)), (.int (3 : Int32))]))
    refine own_up (fun _ kq => XS.isub X0.here hx rfl (hb hby at_11) rfl kq) ?_
    show own_Go p.tables e below _ (s₁.setTop (mkF m 12 #[.val (.int p0), .val (.int p1), .val (.int p2), .val (.int p3), .val (.int p4), .val (.int (1 : Int32)), .unset, .unset, .unset, .unset, .unset, .unset] [(.int (0 : Int32))]))
    refine own_up (fun _ kq => XS.istore X0.here hx rfl (hb hby at_12) rfl (l' := #[.val (.int p0), .val (.int p1), .val (.int p2), .val (.int p3), .val (.int p4), .val (.int (1 : Int32)), .val (.int (0 : Int32)), .unset, .unset, .unset, .unset, .unset]) rfl kq) ?_
    show own_Go p.tables e below _ (s₁.setTop (mkF m 14 #[.val (.int p0), .val (.int p1), .val (.int p2), .val (.int p3), .val (.int p4), .val (.int (1 : Int32)), .val (.int (0 : Int32)), .unset, .unset, .unset, .unset, .unset] []))
    refine own_up (fun _ kq => XS.bipush X0.here hx rfl (hb hby at_14) kq) ?_
    show own_Go p.tables e below _ (s₁.setTop (mkF m 16 #[.val (.int p0), .val (.int p1), .val (.int p2), .val (.int p3), .val (.int p4), .val (.int (1 : Int32)), .val (.int (0 : Int32)), .unset, .unset, .unset, .unset, .unset] [(.int (6 : Int32))]))
    obtain ⟨T22, h22, k22, X22, e22, E22, A22, st22⟩ := newP X0 hx hZ (hw _ (List.mem_of_getElem? (i := 0) rfl)) e0 (g := (mkF m 16 #[.val (.int p0), .val (.int p1), .val (.int p2), .val (.int p3), .val (.int p4), .val (.int (1 : Int32)), .val (.int (0 : Int32)), .unset, .unset, .unset, .unset, .unset] [(.int (6 : Int32))])) rfl (hb hby at_16) rfl (by decide) (cap := 6) (by decide) (by decide) (by decide) (by decide)
    obtain ⟨b22, gz22⟩ : ∃ z, z = h0.size := ⟨_, rfl⟩
    rw [← gz22] at A22 st22
    have g_b22 : n0 ≤ b22 := Nat.le_trans ZH (Nat.le_of_eq gz22.symm)
    have sz_b22 : h0.size ≤ b22 := Nat.le_trans KK.1 (Nat.le_of_eq gz22.symm)
    have ZH := Nat.le_trans ZH E22.1
    have KK := KK.ext E22
    have V_b22 : Arv Z h22 b22 k22 .double (6 : Int32) [(.double (0 : UInt64)), (.double (0 : UInt64)), (.double (0 : UInt64)), (.double (0 : UInt64)), (.double (0 : UInt64)), (.double (0 : UInt64))] (.double (0 : UInt64)) := (Arv.new A22 (by decide)).pad (pad_rep [] (.double (0 : UInt64)) 6)
    refine own_up st22 ?_
    show own_Go p.tables e below _ (T22.setTop (mkF m 18 #[.val (.int p0), .val (.int p1), .val (.int p2), .val (.int p3), .val (.int p4), .val (.int (1 : Int32)), .val (.int (0 : Int32)), .unset, .unset, .unset, .unset, .unset] [(.ref b22)]))
    refine own_up (fun _ kq => XS.astore X22.here hx rfl (hb hby at_18) rfl rfl (l' := #[.val (.int p0), .val (.int p1), .val (.int p2), .val (.int p3), .val (.int p4), .val (.int (1 : Int32)), .val (.int (0 : Int32)), .val (.ref b22), .unset, .unset, .unset, .unset]) rfl kq) ?_
    show own_Go p.tables e below _ (T22.setTop (mkF m 20 #[.val (.int p0), .val (.int p1), .val (.int p2), .val (.int p3), .val (.int p4), .val (.int (1 : Int32)), .val (.int (0 : Int32)), .val (.ref b22), .unset, .unset, .unset, .unset] []))
    refine own_up (fun _ kq => XS.aload X22.here hx rfl (hb hby at_20) rfl rfl kq) ?_
    show own_Go p.tables e below _ (T22.setTop (mkF m 22 #[.val (.int p0), .val (.int p1), .val (.int p2), .val (.int p3), .val (.int p4), .val (.int (1 : Int32)), .val (.int (0 : Int32)), .val (.ref b22), .unset, .unset, .unset, .unset] [(.ref b22)]))
    refine own_up (fun _ kq => XS.iload X22.here hx rfl (hb hby at_22) rfl kq) ?_
    show own_Go p.tables e below _ (T22.setTop (mkF m 24 #[.val (.int p0), .val (.int p1), .val (.int p2), .val (.int p3), .val (.int p4), .val (.int (1 : Int32)), .val (.int (0 : Int32)), .val (.ref b22), .unset, .unset, .unset, .unset] [(.int (1 : Int32)), (.ref b22)]))
    refine own_up (fun _ kq => XS.iconst X22.here hx rfl (hb hby at_24) kq) ?_
    show own_Go p.tables e below _ (T22.setTop (mkF m 25 #[.val (.int p0), .val (.int p1), .val (.int p2), .val (.int p3), .val (.int p4), .val (.int (1 : Int32)), .val (.int (0 : Int32)), .val (.ref b22), .unset, .unset, .unset, .unset] [(.int (3 : Int32)), (.int (1 : Int32)), (.ref b22)]))
    refine own_up (fun _ kq => XS.imul X22.here hx rfl (hb hby at_25) rfl kq) ?_
    show own_Go p.tables e below _ (T22.setTop (mkF m 26 #[.val (.int p0), .val (.int p1), .val (.int p2), .val (.int p3), .val (.int p4), .val (.int (1 : Int32)), .val (.int (0 : Int32)), .val (.ref b22), .unset, .unset, .unset, .unset] [(.int (3 : Int32)), (.ref b22)]))
    refine own_up (fun _ kq => XS.iloadN X22.here hx rfl (hb hby at_26) rfl kq) ?_
    show own_Go p.tables e below _ (T22.setTop (mkF m 27 #[.val (.int p0), .val (.int p1), .val (.int p2), .val (.int p3), .val (.int p4), .val (.int (1 : Int32)), .val (.int (0 : Int32)), .val (.ref b22), .unset, .unset, .unset, .unset] [(.int p0), (.int (3 : Int32)), (.ref b22)]))
    refine own_up (fun _ kq => XS.i2dS X22.here hx rfl (v := (FP.i2d p0)) (hb hby at_27) rfl rfl kq) ?_
    show own_Go p.tables e below _ (T22.setTop (mkF m 28 #[.val (.int p0), .val (.int p1), .val (.int p2), .val (.int p3), .val (.int p4), .val (.int (1 : Int32)), .val (.int (0 : Int32)), .val (.ref b22), .unset, .unset, .unset, .unset] [(.double (FP.i2d p0)), (.int (3 : Int32)), (.ref b22)]))
    obtain ⟨cl23, Ar23, q23, sz23, nz23, hH23, hG23⟩ := V_b22
    obtain ⟨T23, h23, X23, e23, W23, st23⟩ := stD X22 hx hZ e22 Ar23 (j := (3 : Int32)) (inb_of sz23 ⟨by decide, by decide⟩) (g := (mkF m 28 #[.val (.int p0), .val (.int p1), .val (.int p2), .val (.int p3), .val (.int p4), .val (.int (1 : Int32)), .val (.int (0 : Int32)), .val (.ref b22), .unset, .unset, .unset, .unset] [(.double (FP.i2d p0)), (.int (3 : Int32)), (.ref b22)])) rfl rfl (hb hby at_28)
    have V_b22 : Arv Z h23 b22 k22 .double (6 : Int32) [(.double (0 : UInt64)), (.double (0 : UInt64)), (.double (0 : UInt64)), (.double (FP.i2d p0)), (.double (0 : UInt64)), (.double (0 : UInt64))] (.double (0 : UInt64)) := Arv.set Ar23 q23 sz23 nz23 hH23 hG23 rfl W23 3 rfl (Nat.le_of_ble_eq_true rfl)
    have N23 := Fr.snoc X23 N0 g_b22
    have ZH := Nat.le_trans ZH (Nat.le_of_eq W23.size.symm)
    have KK := KK.wr W23 (Or.inr sz_b22)
    refine own_up st23 ?_
    show own_Go p.tables e below _ (T23.setTop (mkF m 29 #[.val (.int p0), .val (.int p1), .val (.int p2), .val (.int p3), .val (.int p4), .val (.int (1 : Int32)), .val (.int (0 : Int32)), .val (.ref b22), .unset, .unset, .unset, .unset] []))
    refine own_up (fun _ kq => XS.aload X23.here hx rfl (hb hby at_29) rfl rfl kq) ?_
    show own_Go p.tables e below _ (T23.setTop (mkF m 31 #[.val (.int p0), .val (.int p1), .val (.int p2), .val (.int p3), .val (.int p4), .val (.int (1 : Int32)), .val (.int (0 : Int32)), .val (.ref b22), .unset, .unset, .unset, .unset] [(.ref b22)]))
    refine own_up (fun _ kq => XS.iload X23.here hx rfl (hb hby at_31) rfl kq) ?_
    show own_Go p.tables e below _ (T23.setTop (mkF m 33 #[.val (.int p0), .val (.int p1), .val (.int p2), .val (.int p3), .val (.int p4), .val (.int (1 : Int32)), .val (.int (0 : Int32)), .val (.ref b22), .unset, .unset, .unset, .unset] [(.int (1 : Int32)), (.ref b22)]))
    refine own_up (fun _ kq => XS.iconst X23.here hx rfl (hb hby at_33) kq) ?_
    show own_Go p.tables e below _ (T23.setTop (mkF m 34 #[.val (.int p0), .val (.int p1), .val (.int p2), .val (.int p3), .val (.int p4), .val (.int (1 : Int32)), .val (.int (0 : Int32)), .val (.ref b22), .unset, .unset, .unset, .unset] [(.int (3 : Int32)), (.int (1 : Int32)), (.ref b22)]))
    refine own_up (fun _ kq => XS.imul X23.here hx rfl (hb hby at_34) rfl kq) ?_
    show own_Go p.tables e below _ (T23.setTop (mkF m 35 #[.val (.int p0), .val (.int p1), .val (.int p2), .val (.int p3), .val (.int p4), .val (.int (1 : Int32)), .val (.int (0 : Int32)), .val (.ref b22), .unset, .unset, .unset, .unset] [(.int (3 : Int32)), (.ref b22)]))
    refine own_up (fun _ kq => XS.iconst X23.here hx rfl (hb hby at_35) kq) ?_
    show own_Go p.tables e below _ (T23.setTop (mkF m 36 #[.val (.int p0), .val (.int p1), .val (.int p2), .val (.int p3), .val (.int p4), .val (.int (1 : Int32)), .val (.int (0 : Int32)), .val (.ref b22), .unset, .unset, .unset, .unset] [(.int (1 : Int32)), (.int (3 : Int32)), (.ref b22)]))
    refine own_up (fun _ kq => XS.iadd X23.here hx rfl (hb hby at_36) rfl kq) ?_
    show own_Go p.tables e below _ (T23.setTop (mkF m 37 #[.val (.int p0), .val (.int p1), .val (.int p2), .val (.int p3), .val (.int p4), .val (.int (1 : Int32)), .val (.int (0 : Int32)), .val (.ref b22), .unset, .unset, .unset, .unset] [(.int (4 : Int32)), (.ref b22)]))
    refine own_up (fun _ kq => XS.iloadN X23.here hx rfl (hb hby at_37) rfl kq) ?_
    show own_Go p.tables e below _ (T23.setTop (mkF m 38 #[.val (.int p0), .val (.int p1), .val (.int p2), .val (.int p3), .val (.int p4), .val (.int (1 : Int32)), .val (.int (0 : Int32)), .val (.ref b22), .unset, .unset, .unset, .unset] [(.int p1), (.int (4 : Int32)), (.ref b22)]))
    refine own_up (fun _ kq => XS.i2dS X23.here hx rfl (v := (FP.i2d p1)) (hb hby at_38) rfl rfl kq) ?_
    show own_Go p.tables e below _ (T23.setTop (mkF m 39 #[.val (.int p0), .val (.int p1), .val (.int p2), .val (.int p3), .val (.int p4), .val (.int (1 : Int32)), .val (.int (0 : Int32)), .val (.ref b22), .unset, .unset, .unset, .unset] [(.double (FP.i2d p1)), (.int (4 : Int32)), (.ref b22)]))
    obtain ⟨cl24, Ar24, q24, sz24, nz24, hH24, hG24⟩ := V_b22
    obtain ⟨T24, h24, X24, e24, W24, st24⟩ := stD X23 hx hZ e23 Ar24 (j := (4 : Int32)) (inb_of sz24 ⟨by decide, by decide⟩) (g := (mkF m 39 #[.val (.int p0), .val (.int p1), .val (.int p2), .val (.int p3), .val (.int p4), .val (.int (1 : Int32)), .val (.int (0 : Int32)), .val (.ref b22), .unset, .unset, .unset, .unset] [(.double (FP.i2d p1)), (.int (4 : Int32)), (.ref b22)])) rfl rfl (hb hby at_39)
    have V_b22 : Arv Z h24 b22 k22 .double (6 : Int32) [(.double (0 : UInt64)), (.double (0 : UInt64)), (.double (0 : UInt64)), (.double (FP.i2d p0)), (.double (FP.i2d p1)), (.double (0 : UInt64))] (.double (0 : UInt64)) := Arv.set Ar24 q24 sz24 nz24 hH24 hG24 rfl W24 4 rfl (Nat.le_of_ble_eq_true rfl)
    have N24 := Fr.snoc X24 N23 g_b22
    have ZH := Nat.le_trans ZH (Nat.le_of_eq W24.size.symm)
    have KK := KK.wr W24 (Or.inr sz_b22)
    refine own_up st24 ?_
    show own_Go p.tables e below _ (T24.setTop (mkF m 40 #[.val (.int p0), .val (.int p1), .val (.int p2), .val (.int p3), .val (.int p4), .val (.int (1 : Int32)), .val (.int (0 : Int32)), .val (.ref b22), .unset, .unset, .unset, .unset] []))
    refine own_up (fun _ kq => XS.aload X24.here hx rfl (hb hby at_40) rfl rfl kq) ?_
    show own_Go p.tables e below _ (T24.setTop (mkF m 42 #[.val (.int p0), .val (.int p1), .val (.int p2), .val (.int p3), .val (.int p4), .val (.int (1 : Int32)), .val (.int (0 : Int32)), .val (.ref b22), .unset, .unset, .unset, .unset] [(.ref b22)]))
    refine own_up (fun _ kq => XS.iload X24.here hx rfl (hb hby at_42) rfl kq) ?_
    show own_Go p.tables e below _ (T24.setTop (mkF m 44 #[.val (.int p0), .val (.int p1), .val (.int p2), .val (.int p3), .val (.int p4), .val (.int (1 : Int32)), .val (.int (0 : Int32)), .val (.ref b22), .unset, .unset, .unset, .unset] [(.int (1 : Int32)), (.ref b22)]))
    refine own_up (fun _ kq => XS.iconst X24.here hx rfl (hb hby at_44) kq) ?_
    show own_Go p.tables e below _ (T24.setTop (mkF m 45 #[.val (.int p0), .val (.int p1), .val (.int p2), .val (.int p3), .val (.int p4), .val (.int (1 : Int32)), .val (.int (0 : Int32)), .val (.ref b22), .unset, .unset, .unset, .unset] [(.int (3 : Int32)), (.int (1 : Int32)), (.ref b22)]))
    refine own_up (fun _ kq => XS.imul X24.here hx rfl (hb hby at_45) rfl kq) ?_
    show own_Go p.tables e below _ (T24.setTop (mkF m 46 #[.val (.int p0), .val (.int p1), .val (.int p2), .val (.int p3), .val (.int p4), .val (.int (1 : Int32)), .val (.int (0 : Int32)), .val (.ref b22), .unset, .unset, .unset, .unset] [(.int (3 : Int32)), (.ref b22)]))
    refine own_up (fun _ kq => XS.iconst X24.here hx rfl (hb hby at_46) kq) ?_
    show own_Go p.tables e below _ (T24.setTop (mkF m 47 #[.val (.int p0), .val (.int p1), .val (.int p2), .val (.int p3), .val (.int p4), .val (.int (1 : Int32)), .val (.int (0 : Int32)), .val (.ref b22), .unset, .unset, .unset, .unset] [(.int (2 : Int32)), (.int (3 : Int32)), (.ref b22)]))
    refine own_up (fun _ kq => XS.iadd X24.here hx rfl (hb hby at_47) rfl kq) ?_
    show own_Go p.tables e below _ (T24.setTop (mkF m 48 #[.val (.int p0), .val (.int p1), .val (.int p2), .val (.int p3), .val (.int p4), .val (.int (1 : Int32)), .val (.int (0 : Int32)), .val (.ref b22), .unset, .unset, .unset, .unset] [(.int (5 : Int32)), (.ref b22)]))
    refine own_up (fun _ kq => XS.iloadN X24.here hx rfl (hb hby at_48) rfl kq) ?_
    show own_Go p.tables e below _ (T24.setTop (mkF m 49 #[.val (.int p0), .val (.int p1), .val (.int p2), .val (.int p3), .val (.int p4), .val (.int (1 : Int32)), .val (.int (0 : Int32)), .val (.ref b22), .unset, .unset, .unset, .unset] [(.int p2), (.int (5 : Int32)), (.ref b22)]))
    refine own_up (fun _ kq => XS.i2dS X24.here hx rfl (v := (FP.i2d p2)) (hb hby at_49) rfl rfl kq) ?_
    show own_Go p.tables e below _ (T24.setTop (mkF m 50 #[.val (.int p0), .val (.int p1), .val (.int p2), .val (.int p3), .val (.int p4), .val (.int (1 : Int32)), .val (.int (0 : Int32)), .val (.ref b22), .unset, .unset, .unset, .unset] [(.double (FP.i2d p2)), (.int (5 : Int32)), (.ref b22)]))
    obtain ⟨cl25, Ar25, q25, sz25, nz25, hH25, hG25⟩ := V_b22
    obtain ⟨T25, h25, X25, e25, W25, st25⟩ := stD X24 hx hZ e24 Ar25 (j := (5 : Int32)) (inb_of sz25 ⟨by decide, by decide⟩) (g := (mkF m 50 #[.val (.int p0), .val (.int p1), .val (.int p2), .val (.int p3), .val (.int p4), .val (.int (1 : Int32)), .val (.int (0 : Int32)), .val (.ref b22), .unset, .unset, .unset, .unset] [(.double (FP.i2d p2)), (.int (5 : Int32)), (.ref b22)])) rfl rfl (hb hby at_50)
    have V_b22 : Arv Z h25 b22 k22 .double (6 : Int32) [(.double (0 : UInt64)), (.double (0 : UInt64)), (.double (0 : UInt64)), (.double (FP.i2d p0)), (.double (FP.i2d p1)), (.double (FP.i2d p2))] (.double (0 : UInt64)) := Arv.set Ar25 q25 sz25 nz25 hH25 hG25 rfl W25 5 rfl (Nat.le_of_ble_eq_true rfl)
    have N25 := Fr.snoc X25 N24 g_b22
    have ZH := Nat.le_trans ZH (Nat.le_of_eq W25.size.symm)
    have KK := KK.wr W25 (Or.inr sz_b22)
    refine own_up st25 ?_
    show own_Go p.tables e below _ (T25.setTop (mkF m 51 #[.val (.int p0), .val (.int p1), .val (.int p2), .val (.int p3), .val (.int p4), .val (.int (1 : Int32)), .val (.int (0 : Int32)), .val (.ref b22), .unset, .unset, .unset, .unset] []))
    refine own_up (fun _ kq => XS.aload X25.here hx rfl (hb hby at_51) rfl rfl kq) ?_
    show own_Go p.tables e below _ (T25.setTop (mkF m 53 #[.val (.int p0), .val (.int p1), .val (.int p2), .val (.int p3), .val (.int p4), .val (.int (1 : Int32)), .val (.int (0 : Int32)), .val (.ref b22), .unset, .unset, .unset, .unset] [(.ref b22)]))
    refine own_up (fun _ kq => XS.iload X25.here hx rfl (hb hby at_53) rfl kq) ?_
    show own_Go p.tables e below _ (T25.setTop (mkF m 55 #[.val (.int p0), .val (.int p1), .val (.int p2), .val (.int p3), .val (.int p4), .val (.int (1 : Int32)), .val (.int (0 : Int32)), .val (.ref b22), .unset, .unset, .unset, .unset] [(.int (0 : Int32)), (.ref b22)]))
    refine own_up (fun _ kq => XS.iloadN X25.here hx rfl (hb hby at_55) rfl kq) ?_
    show own_Go p.tables e below _ (T25.setTop (mkF m 56 #[.val (.int p0), .val (.int p1), .val (.int p2), .val (.int p3), .val (.int p4), .val (.int (1 : Int32)), .val (.int (0 : Int32)), .val (.ref b22), .unset, .unset, .unset, .unset] [(.int p3), (.int (0 : Int32)), (.ref b22)]))
    refine own_up (fun _ kq => XS.i2dS X25.here hx rfl (v := (FP.i2d p3)) (hb hby at_56) rfl rfl kq) ?_
    show own_Go p.tables e below _ (T25.setTop (mkF m 57 #[.val (.int p0), .val (.int p1), .val (.int p2), .val (.int p3), .val (.int p4), .val (.int (1 : Int32)), .val (.int (0 : Int32)), .val (.ref b22), .unset, .unset, .unset, .unset] [(.double (FP.i2d p3)), (.int (0 : Int32)), (.ref b22)]))
    obtain ⟨cl26, Ar26, q26, sz26, nz26, hH26, hG26⟩ := V_b22
    obtain ⟨T26, h26, X26, e26, W26, st26⟩ := stD X25 hx hZ e25 Ar26 (j := (0 : Int32)) (inb_of sz26 ⟨by decide, by decide⟩) (g := (mkF m 57 #[.val (.int p0), .val (.int p1), .val (.int p2), .val (.int p3), .val (.int p4), .val (.int (1 : Int32)), .val (.int (0 : Int32)), .val (.ref b22), .unset, .unset, .unset, .unset] [(.double (FP.i2d p3)), (.int (0 : Int32)), (.ref b22)])) rfl rfl (hb hby at_57)
    have V_b22 : Arv Z h26 b22 k22 .double (6 : Int32) [(.double (FP.i2d p3)), (.double (0 : UInt64)), (.double (0 : UInt64)), (.double (FP.i2d p0)), (.double (FP.i2d p1)), (.double (FP.i2d p2))] (.double (0 : UInt64)) := Arv.set Ar26 q26 sz26 nz26 hH26 hG26 rfl W26 0 rfl (Nat.le_of_ble_eq_true rfl)
    have N26 := Fr.snoc X26 N25 g_b22
    have ZH := Nat.le_trans ZH (Nat.le_of_eq W26.size.symm)
    have KK := KK.wr W26 (Or.inr sz_b22)
    refine own_up st26 ?_
    show own_Go p.tables e below _ (T26.setTop (mkF m 58 #[.val (.int p0), .val (.int p1), .val (.int p2), .val (.int p3), .val (.int p4), .val (.int (1 : Int32)), .val (.int (0 : Int32)), .val (.ref b22), .unset, .unset, .unset, .unset] []))
    refine own_up (fun _ kq => XS.aload X26.here hx rfl (hb hby at_58) rfl rfl kq) ?_
    show own_Go p.tables e below _ (T26.setTop (mkF m 60 #[.val (.int p0), .val (.int p1), .val (.int p2), .val (.int p3), .val (.int p4), .val (.int (1 : Int32)), .val (.int (0 : Int32)), .val (.ref b22), .unset, .unset, .unset, .unset] [(.ref b22)]))
    refine own_up (fun _ kq => XS.iload X26.here hx rfl (hb hby at_60) rfl kq) ?_
    show own_Go p.tables e below _ (T26.setTop (mkF m 62 #[.val (.int p0), .val (.int p1), .val (.int p2), .val (.int p3), .val (.int p4), .val (.int (1 : Int32)), .val (.int (0 : Int32)), .val (.ref b22), .unset, .unset, .unset, .unset] [(.int (0 : Int32)), (.ref b22)]))
    refine own_up (fun _ kq => XS.iconst X26.here hx rfl (hb hby at_62) kq) ?_
    show own_Go p.tables e below _ (T26.setTop (mkF m 63 #[.val (.int p0), .val (.int p1), .val (.int p2), .val (.int p3), .val (.int p4), .val (.int (1 : Int32)), .val (.int (0 : Int32)), .val (.ref b22), .unset, .unset, .unset, .unset] [(.int (1 : Int32)), (.int (0 : Int32)), (.ref b22)]))
    refine own_up (fun _ kq => XS.iadd X26.here hx rfl (hb hby at_63) rfl kq) ?_
    show own_Go p.tables e below _ (T26.setTop (mkF m 64 #[.val (.int p0), .val (.int p1), .val (.int p2), .val (.int p3), .val (.int p4), .val (.int (1 : Int32)), .val (.int (0 : Int32)), .val (.ref b22), .unset, .unset, .unset, .unset] [(.int (1 : Int32)), (.ref b22)]))
    refine own_up (fun _ kq => XS.iloadN X26.here hx rfl (hb hby at_64) rfl kq) ?_
    show own_Go p.tables e below _ (T26.setTop (mkF m 65 #[.val (.int p0), .val (.int p1), .val (.int p2), .val (.int p3), .val (.int p4), .val (.int (1 : Int32)), .val (.int (0 : Int32)), .val (.ref b22), .unset, .unset, .unset, .unset] [(.int p3), (.int (1 : Int32)), (.ref b22)]))
    refine own_up (fun _ kq => XS.i2dS X26.here hx rfl (v := (FP.i2d p3)) (hb hby at_65) rfl rfl kq) ?_
    show own_Go p.tables e below _ (T26.setTop (mkF m 66 #[.val (.int p0), .val (.int p1), .val (.int p2), .val (.int p3), .val (.int p4), .val (.int (1 : Int32)), .val (.int (0 : Int32)), .val (.ref b22), .unset, .unset, .unset, .unset] [(.double (FP.i2d p3)), (.int (1 : Int32)), (.ref b22)]))
    obtain ⟨cl27, Ar27, q27, sz27, nz27, hH27, hG27⟩ := V_b22
    obtain ⟨T27, h27, X27, e27, W27, st27⟩ := stD X26 hx hZ e26 Ar27 (j := (1 : Int32)) (inb_of sz27 ⟨by decide, by decide⟩) (g := (mkF m 66 #[.val (.int p0), .val (.int p1), .val (.int p2), .val (.int p3), .val (.int p4), .val (.int (1 : Int32)), .val (.int (0 : Int32)), .val (.ref b22), .unset, .unset, .unset, .unset] [(.double (FP.i2d p3)), (.int (1 : Int32)), (.ref b22)])) rfl rfl (hb hby at_66)
    have V_b22 : Arv Z h27 b22 k22 .double (6 : Int32) [(.double (FP.i2d p3)), (.double (FP.i2d p3)), (.double (0 : UInt64)), (.double (FP.i2d p0)), (.double (FP.i2d p1)), (.double (FP.i2d p2))] (.double (0 : UInt64)) := Arv.set Ar27 q27 sz27 nz27 hH27 hG27 rfl W27 1 rfl (Nat.le_of_ble_eq_true rfl)
    have N27 := Fr.snoc X27 N26 g_b22
    have ZH := Nat.le_trans ZH (Nat.le_of_eq W27.size.symm)
    have KK := KK.wr W27 (Or.inr sz_b22)
    refine own_up st27 ?_
    show own_Go p.tables e below _ (T27.setTop (mkF m 67 #[.val (.int p0), .val (.int p1), .val (.int p2), .val (.int p3), .val (.int p4), .val (.int (1 : Int32)), .val (.int (0 : Int32)), .val (.ref b22), .unset, .unset, .unset, .unset] []))
    refine own_up (fun _ kq => XS.aload X27.here hx rfl (hb hby at_67) rfl rfl kq) ?_
    show own_Go p.tables e below _ (T27.setTop (mkF m 69 #[.val (.int p0), .val (.int p1), .val (.int p2), .val (.int p3), .val (.int p4), .val (.int (1 : Int32)), .val (.int (0 : Int32)), .val (.ref b22), .unset, .unset, .unset, .unset] [(.ref b22)]))
    refine own_up (fun _ kq => XS.iload X27.here hx rfl (hb hby at_69) rfl kq) ?_
    show own_Go p.tables e below _ (T27.setTop (mkF m 71 #[.val (.int p0), .val (.int p1), .val (.int p2), .val (.int p3), .val (.int p4), .val (.int (1 : Int32)), .val (.int (0 : Int32)), .val (.ref b22), .unset, .unset, .unset, .unset] [(.int (0 : Int32)), (.ref b22)]))
    refine own_up (fun _ kq => XS.iconst X27.here hx rfl (hb hby at_71) kq) ?_
    show own_Go p.tables e below _ (T27.setTop (mkF m 72 #[.val (.int p0), .val (.int p1), .val (.int p2), .val (.int p3), .val (.int p4), .val (.int (1 : Int32)), .val (.int (0 : Int32)), .val (.ref b22), .unset, .unset, .unset, .unset] [(.int (2 : Int32)), (.int (0 : Int32)), (.ref b22)]))
    refine own_up (fun _ kq => XS.iadd X27.here hx rfl (hb hby at_72) rfl kq) ?_
    show own_Go p.tables e below _ (T27.setTop (mkF m 73 #[.val (.int p0), .val (.int p1), .val (.int p2), .val (.int p3), .val (.int p4), .val (.int (1 : Int32)), .val (.int (0 : Int32)), .val (.ref b22), .unset, .unset, .unset, .unset] [(.int (2 : Int32)), (.ref b22)]))
    refine own_up (fun _ kq => XS.iloadN X27.here hx rfl (hb hby at_73) rfl kq) ?_
    show own_Go p.tables e below _ (T27.setTop (mkF m 74 #[.val (.int p0), .val (.int p1), .val (.int p2), .val (.int p3), .val (.int p4), .val (.int (1 : Int32)), .val (.int (0 : Int32)), .val (.ref b22), .unset, .unset, .unset, .unset] [(.int p3), (.int (2 : Int32)), (.ref b22)]))
    refine own_up (fun _ kq => XS.i2dS X27.here hx rfl (v := (FP.i2d p3)) (hb hby at_74) rfl rfl kq) ?_
    show own_Go p.tables e below _ (T27.setTop (mkF m 75 #[.val (.int p0), .val (.int p1), .val (.int p2), .val (.int p3), .val (.int p4), .val (.int (1 : Int32)), .val (.int (0 : Int32)), .val (.ref b22), .unset, .unset, .unset, .unset] [(.double (FP.i2d p3)), (.int (2 : Int32)), (.ref b22)]))
    obtain ⟨cl28, Ar28, q28, sz28, nz28, hH28, hG28⟩ := V_b22
    obtain ⟨T28, h28, X28, e28, W28, st28⟩ := stD X27 hx hZ e27 Ar28 (j := (2 : Int32)) (inb_of sz28 ⟨by decide, by decide⟩) (g := (mkF m 75 #[.val (.int p0), .val (.int p1), .val (.int p2), .val (.int p3), .val (.int p4), .val (.int (1 : Int32)), .val (.int (0 : Int32)), .val (.ref b22), .unset, .unset, .unset, .unset] [(.double (FP.i2d p3)), (.int (2 : Int32)), (.ref b22)])) rfl rfl (hb hby at_75)
    have V_b22 : Arv Z h28 b22 k22 .double (6 : Int32) [(.double (FP.i2d p3)), (.double (FP.i2d p3)), (.double (FP.i2d p3)), (.double (FP.i2d p0)), (.double (FP.i2d p1)), (.double (FP.i2d p2))] (.double (0 : UInt64)) := Arv.set Ar28 q28 sz28 nz28 hH28 hG28 rfl W28 2 rfl (Nat.le_of_ble_eq_true rfl)
    have N28 := Fr.snoc X28 N27 g_b22
    have ZH := Nat.le_trans ZH (Nat.le_of_eq W28.size.symm)
    have KK := KK.wr W28 (Or.inr sz_b22)
    refine own_up st28 ?_
    show own_Go p.tables e below _ (T28.setTop (mkF m 76 #[.val (.int p0), .val (.int p1), .val (.int p2), .val (.int p3), .val (.int p4), .val (.int (1 : Int32)), .val (.int (0 : Int32)), .val (.ref b22), .unset, .unset, .unset, .unset] []))
    obtain ⟨T29, h29, X29, e29, E29, A29, D29, -, st29⟩ := newO X28 hx hZ hown (hw _ (List.mem_of_getElem? (i := 1) rfl)) (hw _ (List.mem_of_getElem? (i := 2) rfl)) (hw _ (List.mem_of_getElem? (i := 3) rfl)) e28 (g := (mkF m 76 #[.val (.int p0), .val (.int p1), .val (.int p2), .val (.int p3), .val (.int p4), .val (.int (1 : Int32)), .val (.int (0 : Int32)), .val (.ref b22), .unset, .unset, .unset, .unset] [])) rfl (hb hby at_76) (by decide) (by decide)
    obtain ⟨b29, gz29⟩ : ∃ z, z = h28.size := ⟨_, rfl⟩
    rw [← gz29] at A29 D29 st29
    have ne_b22_b29 : b22 ≠ b29 := Nat.ne_of_lt (Nat.lt_of_lt_of_le V_b22.lt (Nat.le_of_eq gz29.symm))
    have g_b29 : n0 ≤ b29 := Nat.le_trans ZH (Nat.le_of_eq gz29.symm)
    have sz_b29 : h0.size ≤ b29 := Nat.le_trans KK.1 (Nat.le_of_eq gz29.symm)
    have V_b22 := V_b22.ext E29
    have ZH := Nat.le_trans ZH E29.1
    have KK := KK.ext E29
    have E_b29 := A29
    have F__copyFromFirst_b29 : Fld Z h29 b29 "com/example/ranksieve/ranksieve/model/SortedColumn" "_copyFromFirst" "[D" .null := D29 (Or.inl (hw _ (List.mem_of_getElem? (i := 11) rfl))) (ty := (.array .double)) (by decide)
    have F__copyFromLast_b29 : Fld Z h29 b29 "com/example/ranksieve/ranksieve/model/SortedColumn" "_copyFromLast" "[D" .null := D29 (Or.inl (hw _ (List.mem_of_getElem? (i := 13) rfl))) (ty := (.array .double)) (by decide)
    have F__rows_b29 : Fld Z h29 b29 "com/example/ranksieve/ranksieve/model/SortedColumn" "_rows" "[I" .null := D29 (Or.inr (hw _ (List.mem_of_getElem? (i := 43) rfl))) (ty := (.array .int)) (by decide)
    have F__values_b29 : Fld Z h29 b29 "com/example/ranksieve/ranksieve/model/SortedColumn" "_values" "[D" .null := D29 (Or.inr (hw _ (List.mem_of_getElem? (i := 45) rfl))) (ty := (.array .double)) (by decide)
    have F__width_b29 : Fld Z h29 b29 "com/example/ranksieve/ranksieve/model/SortedColumn" "_width" "I" (.int (0 : Int32)) := D29 (Or.inr (hw _ (List.mem_of_getElem? (i := 47) rfl))) (ty := .int) (by decide)
    have F__column_b29 : Fld Z h29 b29 "com/example/ranksieve/ranksieve/model/SortedColumn" "_column" "I" (.int (0 : Int32)) := D29 (Or.inr (hw _ (List.mem_of_getElem? (i := 49) rfl))) (ty := .int) (by decide)
    refine own_up st29 ?_
    show own_Go p.tables e below _ (T29.setTop (mkF m 79 #[.val (.int p0), .val (.int p1), .val (.int p2), .val (.int p3), .val (.int p4), .val (.int (1 : Int32)), .val (.int (0 : Int32)), .val (.ref b22), .unset, .unset, .unset, .unset] [(.ref b29)]))
    refine own_up (fun _ kq => XS.dup X29.here hx rfl (hb hby at_79) rfl rfl kq) ?_
    show own_Go p.tables e below _ (T29.setTop (mkF m 80 #[.val (.int p0), .val (.int p1), .val (.int p2), .val (.int p3), .val (.int p4), .val (.int (1 : Int32)), .val (.int (0 : Int32)), .val (.ref b22), .unset, .unset, .unset, .unset] [(.ref b29), (.ref b29)]))
    refine own_up (fun _ kq => XS.aload X29.here hx rfl (hb hby at_80) rfl rfl kq) ?_
    show own_Go p.tables e below _ (T29.setTop (mkF m 82 #[.val (.int p0), .val (.int p1), .val (.int p2), .val (.int p3), .val (.int p4), .val (.int (1 : Int32)), .val (.int (0 : Int32)), .val (.ref b22), .unset, .unset, .unset, .unset] [(.ref b22), (.ref b29), (.ref b29)]))
    refine own_up (fun _ kq => XS.iconst X29.here hx rfl (hb hby at_82) kq) ?_
    show own_Go p.tables e below _ (T29.setTop (mkF m 83 #[.val (.int p0), .val (.int p1), .val (.int p2), .val (.int p3), .val (.int p4), .val (.int (1 : Int32)), .val (.int (0 : Int32)), .val (.ref b22), .unset, .unset, .unset, .unset] [(.int (2 : Int32)), (.ref b22), (.ref b29), (.ref b29)]))
    refine own_up (fun _ kq => XS.iload X29.here hx rfl (hb hby at_83) rfl kq) ?_
    show own_Go p.tables e below _ (T29.setTop (mkF m 85 #[.val (.int p0), .val (.int p1), .val (.int p2), .val (.int p3), .val (.int p4), .val (.int (1 : Int32)), .val (.int (0 : Int32)), .val (.ref b22), .unset, .unset, .unset, .unset] [(.int (1 : Int32)), (.int (2 : Int32)), (.ref b22), (.ref b29), (.ref b29)]))
    have GV1 : own_Arf Z h29 b22 .double (6 : Int32) (fun iq => .double ((own_L [FP.i2d p3, FP.i2d p3, FP.i2d p3, FP.i2d p0, FP.i2d p1, FP.i2d p2]) iq)) := (own_Arf.ofArv V_b22).congr (fun i _ => own_Lget [FP.i2d p3, FP.i2d p3, FP.i2d p3, FP.i2d p0, FP.i2d p1, FP.i2d p2] i)
    obtain ⟨_, _, ⟨T30, L30, k30, n30⟩, -, X30, ⟨Lc30, hQ30, l30, y30, z30⟩, st30⟩ := X29.specialBack hx (y := (⟨"com/example/ranksieve/ranksieve/model/SortedColumn", "<init>", "([DII)V"⟩ : MethodName)) rfl hown (mvT hZ (hw _ (List.mem_of_getElem? (i := 4) rfl))) (mvT hZ (hw _ (List.mem_of_getElem? (i := 5) rfl))) (mvT hZ (hw _ (List.mem_of_getElem? (i := 6) rfl))) (by decide) (backOf (W := 1) (rmC l Z a0 hw [] b29 b22 (1 : Int32) (own_L [FP.i2d p3, FP.i2d p3, FP.i2d p3, FP.i2d p0, FP.i2d p1, FP.i2d p2]) h29 n0 ZH E_b29 F__copyFromFirst_b29 F__copyFromLast_b29 F__rows_b29 F__values_b29 F__width_b29 F__column_b29 g_b29 GV1 ne_b22_b29 (own_Lnn [p3, p3, p3, p0, p1, p2]) (by unfold own_c2; decide)) hZ (hw _ (List.mem_of_getElem? (i := 6) rfl)) (hw _ (List.mem_of_getElem? (i := 3) rfl)) (by decide) (by decide)) (g := (mkF m 85 #[.val (.int p0), .val (.int p1), .val (.int p2), .val (.int p3), .val (.int p4), .val (.int (1 : Int32)), .val (.int (0 : Int32)), .val (.ref b22), .unset, .unset, .unset, .unset] [(.int (1 : Int32)), (.int (2 : Int32)), (.ref b22), (.ref b29), (.ref b29)])) rfl (by rw [hml]; rfl) (Steps.refl _) (a := b29) (argsL := [(.ref b22), (.int (2 : Int32)), (.int (1 : Int32))]) (rest := [(.ref b29)]) (lenOf pd_5 rfl) rfl (by show 2 * 0 + _ ≤ _; exact Nat.le_of_eq rfl) (hb hby at_85) (fun _ _ => ⟨rfl, e29, (by decide : 2 + 7 ≤ _), (by decide : 12 + 65548 ≤ _)⟩)
    dsimp only [Pt.U, Pt.locs, Pt.cells, Pt.slots] at X30 l30 y30 z30 st30 hQ30
    subst l30 y30 z30
    obtain ⟨rfl, Nq30, K30, rb, xq, rq, Frw, Fvl, Fcl, G_rb, IQ⟩ := hQ30
    have N30 := Fr.app N28 Nq30
    have V_b22 := V_b22.keep K30 (ninS ne_b22_b29 nin0)
    have E_b29 := E_b29.keep K30
    have ZH := Nat.le_trans ZH K30.1
    have KK := KK.trans K30 (allS (Or.inr sz_b29) all0)
    have GV : own_Arf Z T30.heap b22 .double (6 : Int32) (fun iq => .double ((own_L [FP.i2d p3, FP.i2d p3, FP.i2d p3, FP.i2d p0, FP.i2d p1, FP.i2d p2]) iq)) := (own_Arf.ofArv V_b22).congr (fun i _ => own_Lget [FP.i2d p3, FP.i2d p3, FP.i2d p3, FP.i2d p0, FP.i2d p1, FP.i2d p2] i)
    have FIN := own_fin (ud := (own_L [FP.i2d p3, FP.i2d p3, FP.i2d p3, FP.i2d p0, FP.i2d p1, FP.i2d p2])) (col := (1 : Int32)) (a := p0) (b := p1) (c := p2) (x := xq) (r := rq) rfl rfl rfl IQ
    have PM := own_pm3 IQ.1
    refine own_up (fun _ kq => st30.trans kq) ?_
    show own_Go p.tables e below _ (T30.setTop (mkF m 88 #[.val (.int p0), .val (.int p1), .val (.int p2), .val (.int p3), .val (.int p4), .val (.int (1 : Int32)), .val (.int (0 : Int32)), .val (.ref b22), .unset, .unset, .unset, .unset] [(.ref b29)]))
    refine own_up (fun _ kq => XS.astore X30.here hx rfl (hb hby at_88) rfl rfl (l' := #[.val (.int p0), .val (.int p1), .val (.int p2), .val (.int p3), .val (.int p4), .val (.int (1 : Int32)), .val (.int (0 : Int32)), .val (.ref b22), .val (.ref b29), .unset, .unset, .unset]) rfl kq) ?_
    show own_Go p.tables e below _ (T30.setTop (mkF m 90 #[.val (.int p0), .val (.int p1), .val (.int p2), .val (.int p3), .val (.int p4), .val (.int (1 : Int32)), .val (.int (0 : Int32)), .val (.ref b22), .val (.ref b29), .unset, .unset, .unset] []))
    refine own_up (fun _ kq => XS.iloadN X30.here hx rfl (hb hby at_90) rfl kq) ?_
    show own_Go p.tables e below _ (T30.setTop (mkF m 91 #[.val (.int p0), .val (.int p1), .val (.int p2), .val (.int p3), .val (.int p4), .val (.int (1 : Int32)), .val (.int (0 : Int32)), .val (.ref b22), .val (.ref b29), .unset, .unset, .unset] [(.int p0)]))
    refine own_up (fun _ kq => XS.iloadN X30.here hx rfl (hb hby at_91) rfl kq) ?_
    show own_Go p.tables e below _ (T30.setTop (mkF m 92 #[.val (.int p0), .val (.int p1), .val (.int p2), .val (.int p3), .val (.int p4), .val (.int (1 : Int32)), .val (.int (0 : Int32)), .val (.ref b22), .val (.ref b29), .unset, .unset, .unset] [(.int p1), (.int p0)]))
    obtain ⟨_, _, ⟨T31, L31, k31, n31⟩, -, X31, ⟨Lc31, hQ31, l31, y31, z31⟩, st31⟩ := Jvm.LawKit.callS X30 hx (y := (⟨"java/lang/Math", "min", "(II)I"⟩ : MethodName)) hown (mvT hZ (hw _ (List.mem_of_getElem? (i := 50) rfl))) (mvT hZ (hw _ (List.mem_of_getElem? (i := 51) rfl))) (mvT hZ (hw _ (List.mem_of_getElem? (i := 52) rfl))) (mvT hZ (hw _ (List.mem_of_getElem? (i := 53) rfl))) (by decide) (backOf (W := 0) (rmI l Z a0 hw [] p0 p1 T30.heap n0 ZH) hZ (hw _ (List.mem_of_getElem? (i := 53) rfl)) (hw _ (List.mem_of_getElem? (i := 52) rfl)) (by decide) (by decide)) (g := (mkF m 92 #[.val (.int p0), .val (.int p1), .val (.int p2), .val (.int p3), .val (.int p4), .val (.int (1 : Int32)), .val (.int (0 : Int32)), .val (.ref b22), .val (.ref b29), .unset, .unset, .unset] [(.int p1), (.int p0)])) rfl (by rw [hml]; rfl) (argsL := [(.int p0), (.int p1)]) (rest := []) (lenOf pd_6 rfl) rfl (by show 2 * 0 + _ ≤ _; exact Nat.le_of_eq rfl) (hb hby at_92) (fun _ _ => ⟨rfl, rfl, (by decide : 9 + 0 ≤ _), (by decide : 65560 + 0 ≤ _)⟩)
    dsimp only [Pt.U, Pt.locs, Pt.cells, Pt.slots] at X31 l31 y31 z31 st31 hQ31
    subst l31 y31 z31
    obtain ⟨rfl, Nq31, e31⟩ := hQ31
    have N31 := Fr.app N30 Nq31
    refine own_up st31 ?_
    show own_Go p.tables e below _ (T31.setTop (mkF m 95 #[.val (.int p0), .val (.int p1), .val (.int p2), .val (.int p3), .val (.int p4), .val (.int (1 : Int32)), .val (.int (0 : Int32)), .val (.ref b22), .val (.ref b29), .unset, .unset, .unset] [(.int (own_min p0 p1))]))
    refine own_up (fun _ kq => XS.iloadN X31.here hx rfl (hb hby at_95) rfl kq) ?_
    show own_Go p.tables e below _ (T31.setTop (mkF m 96 #[.val (.int p0), .val (.int p1), .val (.int p2), .val (.int p3), .val (.int p4), .val (.int (1 : Int32)), .val (.int (0 : Int32)), .val (.ref b22), .val (.ref b29), .unset, .unset, .unset] [(.int p2), (.int (own_min p0 p1))]))
    obtain ⟨_, _, ⟨T32, L32, k32, n32⟩, -, X32, ⟨Lc32, hQ32, l32, y32, z32⟩, st32⟩ := Jvm.LawKit.callS X31 hx (y := (⟨"java/lang/Math", "min", "(II)I"⟩ : MethodName)) hown (mvT hZ (hw _ (List.mem_of_getElem? (i := 50) rfl))) (mvT hZ (hw _ (List.mem_of_getElem? (i := 51) rfl))) (mvT hZ (hw _ (List.mem_of_getElem? (i := 52) rfl))) (mvT hZ (hw _ (List.mem_of_getElem? (i := 53) rfl))) (by decide) (backOf (W := 0) (rmI l Z a0 hw [] (own_min p0 p1) p2 T30.heap n0 ZH) hZ (hw _ (List.mem_of_getElem? (i := 53) rfl)) (hw _ (List.mem_of_getElem? (i := 52) rfl)) (by decide) (by decide)) (g := (mkF m 96 #[.val (.int p0), .val (.int p1), .val (.int p2), .val (.int p3), .val (.int p4), .val (.int (1 : Int32)), .val (.int (0 : Int32)), .val (.ref b22), .val (.ref b29), .unset, .unset, .unset] [(.int p2), (.int (own_min p0 p1))])) rfl (by rw [hml]; rfl) (argsL := [(.int (own_min p0 p1)), (.int p2)]) (rest := []) (lenOf pd_6 rfl) rfl (by show 2 * 0 + _ ≤ _; exact Nat.le_of_eq rfl) (hb hby at_96) (fun _ _ => ⟨rfl, e31, (by decide : 9 + 0 ≤ _), (by decide : 65560 + 0 ≤ _)⟩)
    dsimp only [Pt.U, Pt.locs, Pt.cells, Pt.slots] at X32 l32 y32 z32 st32 hQ32
    subst l32 y32 z32
    obtain ⟨rfl, Nq32, e32⟩ := hQ32
    have N32 := Fr.app N31 Nq32
    refine own_up st32 ?_
    show own_Go p.tables e below _ (T32.setTop (mkF m 99 #[.val (.int p0), .val (.int p1), .val (.int p2), .val (.int p3), .val (.int p4), .val (.int (1 : Int32)), .val (.int (0 : Int32)), .val (.ref b22), .val (.ref b29), .unset, .unset, .unset] [(.int (own_min (own_min p0 p1) p2))]))
    refine own_up (fun _ kq => XS.istore X32.here hx rfl (hb hby at_99) rfl (l' := #[.val (.int p0), .val (.int p1), .val (.int p2), .val (.int p3), .val (.int p4), .val (.int (1 : Int32)), .val (.int (0 : Int32)), .val (.ref b22), .val (.ref b29), .val (.int (own_min (own_min p0 p1) p2)), .unset, .unset]) rfl kq) ?_
    show own_Go p.tables e below _ (T32.setTop (mkF m 101 #[.val (.int p0), .val (.int p1), .val (.int p2), .val (.int p3), .val (.int p4), .val (.int (1 : Int32)), .val (.int (0 : Int32)), .val (.ref b22), .val (.ref b29), .val (.int (own_min (own_min p0 p1) p2)), .unset, .unset] []))
    refine own_up (fun _ kq => XS.iloadN X32.here hx rfl (hb hby at_101) rfl kq) ?_
    show own_Go p.tables e below _ (T32.setTop (mkF m 102 #[.val (.int p0), .val (.int p1), .val (.int p2), .val (.int p3), .val (.int p4), .val (.int (1 : Int32)), .val (.int (0 : Int32)), .val (.ref b22), .val (.ref b29), .val (.int (own_min (own_min p0 p1) p2)), .unset, .unset] [(.int p0)]))
    refine own_up (fun _ kq => XS.iloadN X32.here hx rfl (hb hby at_102) rfl kq) ?_
    show own_Go p.tables e below _ (T32.setTop (mkF m 103 #[.val (.int p0), .val (.int p1), .val (.int p2), .val (.int p3), .val (.int p4), .val (.int (1 : Int32)), .val (.int (0 : Int32)), .val (.ref b22), .val (.ref b29), .val (.int (own_min (own_min p0 p1) p2)), .unset, .unset] [(.int p1), (.int p0)]))
    obtain ⟨_, _, ⟨T33, L33, k33, n33⟩, -, X33, ⟨Lc33, hQ33, l33, y33, z33⟩, st33⟩ := Jvm.LawKit.callS X32 hx (y := (⟨"java/lang/Math", "max", "(II)I"⟩ : MethodName)) hown (mvT hZ (hw _ (List.mem_of_getElem? (i := 54) rfl))) (mvT hZ (hw _ (List.mem_of_getElem? (i := 55) rfl))) (mvT hZ (hw _ (List.mem_of_getElem? (i := 52) rfl))) (mvT hZ (hw _ (List.mem_of_getElem? (i := 56) rfl))) (by decide) (backOf (W := 0) (rmX l Z a0 hw [] p0 p1 T30.heap n0 ZH) hZ (hw _ (List.mem_of_getElem? (i := 56) rfl)) (hw _ (List.mem_of_getElem? (i := 52) rfl)) (by decide) (by decide)) (g := (mkF m 103 #[.val (.int p0), .val (.int p1), .val (.int p2), .val (.int p3), .val (.int p4), .val (.int (1 : Int32)), .val (.int (0 : Int32)), .val (.ref b22), .val (.ref b29), .val (.int (own_min (own_min p0 p1) p2)), .unset, .unset] [(.int p1), (.int p0)])) rfl (by rw [hml]; rfl) (argsL := [(.int p0), (.int p1)]) (rest := []) (lenOf pd_6 rfl) rfl (by show 2 * 0 + _ ≤ _; exact Nat.le_of_eq rfl) (hb hby at_103) (fun _ _ => ⟨rfl, e32, (by decide : 9 + 0 ≤ _), (by decide : 65560 + 0 ≤ _)⟩)
    dsimp only [Pt.U, Pt.locs, Pt.cells, Pt.slots] at X33 l33 y33 z33 st33 hQ33
    subst l33 y33 z33
    obtain ⟨rfl, Nq33, e33⟩ := hQ33
    have N33 := Fr.app N32 Nq33
    refine own_up st33 ?_
    show own_Go p.tables e below _ (T33.setTop (mkF m 106 #[.val (.int p0), .val (.int p1), .val (.int p2), .val (.int p3), .val (.int p4), .val (.int (1 : Int32)), .val (.int (0 : Int32)), .val (.ref b22), .val (.ref b29), .val (.int (own_min (own_min p0 p1) p2)), .unset, .unset] [(.int (own_max p0 p1))]))
    refine own_up (fun _ kq => XS.iloadN X33.here hx rfl (hb hby at_106) rfl kq) ?_
    show own_Go p.tables e below _ (T33.setTop (mkF m 107 #[.val (.int p0), .val (.int p1), .val (.int p2), .val (.int p3), .val (.int p4), .val (.int (1 : Int32)), .val (.int (0 : Int32)), .val (.ref b22), .val (.ref b29), .val (.int (own_min (own_min p0 p1) p2)), .unset, .unset] [(.int p2), (.int (own_max p0 p1))]))
    obtain ⟨_, _, ⟨T34, L34, k34, n34⟩, -, X34, ⟨Lc34, hQ34, l34, y34, z34⟩, st34⟩ := Jvm.LawKit.callS X33 hx (y := (⟨"java/lang/Math", "max", "(II)I"⟩ : MethodName)) hown (mvT hZ (hw _ (List.mem_of_getElem? (i := 54) rfl))) (mvT hZ (hw _ (List.mem_of_getElem? (i := 55) rfl))) (mvT hZ (hw _ (List.mem_of_getElem? (i := 52) rfl))) (mvT hZ (hw _ (List.mem_of_getElem? (i := 56) rfl))) (by decide) (backOf (W := 0) (rmX l Z a0 hw [] (own_max p0 p1) p2 T30.heap n0 ZH) hZ (hw _ (List.mem_of_getElem? (i := 56) rfl)) (hw _ (List.mem_of_getElem? (i := 52) rfl)) (by decide) (by decide)) (g := (mkF m 107 #[.val (.int p0), .val (.int p1), .val (.int p2), .val (.int p3), .val (.int p4), .val (.int (1 : Int32)), .val (.int (0 : Int32)), .val (.ref b22), .val (.ref b29), .val (.int (own_min (own_min p0 p1) p2)), .unset, .unset] [(.int p2), (.int (own_max p0 p1))])) rfl (by rw [hml]; rfl) (argsL := [(.int (own_max p0 p1)), (.int p2)]) (rest := []) (lenOf pd_6 rfl) rfl (by show 2 * 0 + _ ≤ _; exact Nat.le_of_eq rfl) (hb hby at_107) (fun _ _ => ⟨rfl, e33, (by decide : 9 + 0 ≤ _), (by decide : 65560 + 0 ≤ _)⟩)
    dsimp only [Pt.U, Pt.locs, Pt.cells, Pt.slots] at X34 l34 y34 z34 st34 hQ34
    subst l34 y34 z34
    obtain ⟨rfl, Nq34, e34⟩ := hQ34
    have N34 := Fr.app N33 Nq34
    refine own_up st34 ?_
    show own_Go p.tables e below _ (T34.setTop (mkF m 110 #[.val (.int p0), .val (.int p1), .val (.int p2), .val (.int p3), .val (.int p4), .val (.int (1 : Int32)), .val (.int (0 : Int32)), .val (.ref b22), .val (.ref b29), .val (.int (own_min (own_min p0 p1) p2)), .unset, .unset] [(.int (own_max (own_max p0 p1) p2))]))
    refine own_up (fun _ kq => XS.istore X34.here hx rfl (hb hby at_110) rfl (l' := #[.val (.int p0), .val (.int p1), .val (.int p2), .val (.int p3), .val (.int p4), .val (.int (1 : Int32)), .val (.int (0 : Int32)), .val (.ref b22), .val (.ref b29), .val (.int (own_min (own_min p0 p1) p2)), .val (.int (own_max (own_max p0 p1) p2)), .unset]) rfl kq) ?_
    show own_Go p.tables e below _ (T34.setTop (mkF m 112 #[.val (.int p0), .val (.int p1), .val (.int p2), .val (.int p3), .val (.int p4), .val (.int (1 : Int32)), .val (.int (0 : Int32)), .val (.ref b22), .val (.ref b29), .val (.int (own_min (own_min p0 p1) p2)), .val (.int (own_max (own_max p0 p1) p2)), .unset] []))
    refine own_up (fun _ kq => XS.iloadN X34.here hx rfl (hb hby at_112) rfl kq) ?_
    show own_Go p.tables e below _ (T34.setTop (mkF m 113 #[.val (.int p0), .val (.int p1), .val (.int p2), .val (.int p3), .val (.int p4), .val (.int (1 : Int32)), .val (.int (0 : Int32)), .val (.ref b22), .val (.ref b29), .val (.int (own_min (own_min p0 p1) p2)), .val (.int (own_max (own_max p0 p1) p2)), .unset] [(.int p0)]))
    refine own_up (fun _ kq => XS.iloadN X34.here hx rfl (hb hby at_113) rfl kq) ?_
    show own_Go p.tables e below _ (T34.setTop (mkF m 114 #[.val (.int p0), .val (.int p1), .val (.int p2), .val (.int p3), .val (.int p4), .val (.int (1 : Int32)), .val (.int (0 : Int32)), .val (.ref b22), .val (.ref b29), .val (.int (own_min (own_min p0 p1) p2)), .val (.int (own_max (own_max p0 p1) p2)), .unset] [(.int p1), (.int p0)]))
    obtain ⟨_, _, ⟨T35, L35, k35, n35⟩, -, X35, ⟨Lc35, hQ35, l35, y35, z35⟩, st35⟩ := Jvm.LawKit.callS X34 hx (y := (⟨"java/lang/Math", "min", "(II)I"⟩ : MethodName)) hown (mvT hZ (hw _ (List.mem_of_getElem? (i := 50) rfl))) (mvT hZ (hw _ (List.mem_of_getElem? (i := 51) rfl))) (mvT hZ (hw _ (List.mem_of_getElem? (i := 52) rfl))) (mvT hZ (hw _ (List.mem_of_getElem? (i := 53) rfl))) (by decide) (backOf (W := 0) (rmI l Z a0 hw [] p0 p1 T30.heap n0 ZH) hZ (hw _ (List.mem_of_getElem? (i := 53) rfl)) (hw _ (List.mem_of_getElem? (i := 52) rfl)) (by decide) (by decide)) (g := (mkF m 114 #[.val (.int p0), .val (.int p1), .val (.int p2), .val (.int p3), .val (.int p4), .val (.int (1 : Int32)), .val (.int (0 : Int32)), .val (.ref b22), .val (.ref b29), .val (.int (own_min (own_min p0 p1) p2)), .val (.int (own_max (own_max p0 p1) p2)), .unset] [(.int p1), (.int p0)])) rfl (by rw [hml]; rfl) (argsL := [(.int p0), (.int p1)]) (rest := []) (lenOf pd_6 rfl) rfl (by show 2 * 0 + _ ≤ _; exact Nat.le_of_eq rfl) (hb hby at_114) (fun _ _ => ⟨rfl, e34, (by decide : 9 + 0 ≤ _), (by decide : 65560 + 0 ≤ _)⟩)
    dsimp only [Pt.U, Pt.locs, Pt.cells, Pt.slots] at X35 l35 y35 z35 st35 hQ35
    subst l35 y35 z35
    obtain ⟨rfl, Nq35, e35⟩ := hQ35
    have N35 := Fr.app N34 Nq35
    refine own_up st35 ?_
    show own_Go p.tables e below _ (T35.setTop (mkF m 117 #[.val (.int p0), .val (.int p1), .val (.int p2), .val (.int p3), .val (.int p4), .val (.int (1 : Int32)), .val (.int (0 : Int32)), .val (.ref b22), .val (.ref b29), .val (.int (own_min (own_min p0 p1) p2)), .val (.int (own_max (own_max p0 p1) p2)), .unset] [(.int (own_min p0 p1))]))
    refine own_up (fun _ kq => XS.iloadN X35.here hx rfl (hb hby at_117) rfl kq) ?_
    show own_Go p.tables e below _ (T35.setTop (mkF m 118 #[.val (.int p0), .val (.int p1), .val (.int p2), .val (.int p3), .val (.int p4), .val (.int (1 : Int32)), .val (.int (0 : Int32)), .val (.ref b22), .val (.ref b29), .val (.int (own_min (own_min p0 p1) p2)), .val (.int (own_max (own_max p0 p1) p2)), .unset] [(.int p0), (.int (own_min p0 p1))]))
    refine own_up (fun _ kq => XS.iloadN X35.here hx rfl (hb hby at_118) rfl kq) ?_
    show own_Go p.tables e below _ (T35.setTop (mkF m 119 #[.val (.int p0), .val (.int p1), .val (.int p2), .val (.int p3), .val (.int p4), .val (.int (1 : Int32)), .val (.int (0 : Int32)), .val (.ref b22), .val (.ref b29), .val (.int (own_min (own_min p0 p1) p2)), .val (.int (own_max (own_max p0 p1) p2)), .unset] [(.int p1), (.int p0), (.int (own_min p0 p1))]))
    obtain ⟨_, _, ⟨T36, L36, k36, n36⟩, -, X36, ⟨Lc36, hQ36, l36, y36, z36⟩, st36⟩ := Jvm.LawKit.callS X35 hx (y := (⟨"java/lang/Math", "max", "(II)I"⟩ : MethodName)) hown (mvT hZ (hw _ (List.mem_of_getElem? (i := 54) rfl))) (mvT hZ (hw _ (List.mem_of_getElem? (i := 55) rfl))) (mvT hZ (hw _ (List.mem_of_getElem? (i := 52) rfl))) (mvT hZ (hw _ (List.mem_of_getElem? (i := 56) rfl))) (by decide) (backOf (W := 1) (rmX l Z a0 hw [] p0 p1 T30.heap n0 ZH) hZ (hw _ (List.mem_of_getElem? (i := 56) rfl)) (hw _ (List.mem_of_getElem? (i := 52) rfl)) (by decide) (by decide)) (g := (mkF m 119 #[.val (.int p0), .val (.int p1), .val (.int p2), .val (.int p3), .val (.int p4), .val (.int (1 : Int32)), .val (.int (0 : Int32)), .val (.ref b22), .val (.ref b29), .val (.int (own_min (own_min p0 p1) p2)), .val (.int (own_max (own_max p0 p1) p2)), .unset] [(.int p1), (.int p0), (.int (own_min p0 p1))])) rfl (by rw [hml]; rfl) (argsL := [(.int p0), (.int p1)]) (rest := [(.int (own_min p0 p1))]) (lenOf pd_6 rfl) rfl (by show 2 * 0 + _ ≤ _; exact Nat.le_of_eq rfl) (hb hby at_119) (fun _ _ => ⟨rfl, e35, (by decide : 9 + 0 ≤ _), (by decide : 65560 + 0 ≤ _)⟩)
    dsimp only [Pt.U, Pt.locs, Pt.cells, Pt.slots] at X36 l36 y36 z36 st36 hQ36
    subst l36 y36 z36
    obtain ⟨rfl, Nq36, e36⟩ := hQ36
    have N36 := Fr.app N35 Nq36
    refine own_up st36 ?_
    show own_Go p.tables e below _ (T36.setTop (mkF m 122 #[.val (.int p0), .val (.int p1), .val (.int p2), .val (.int p3), .val (.int p4), .val (.int (1 : Int32)), .val (.int (0 : Int32)), .val (.ref b22), .val (.ref b29), .val (.int (own_min (own_min p0 p1) p2)), .val (.int (own_max (own_max p0 p1) p2)), .unset] [(.int (own_max p0 p1)), (.int (own_min p0 p1))]))
    refine own_up (fun _ kq => XS.iloadN X36.here hx rfl (hb hby at_122) rfl kq) ?_
    show own_Go p.tables e below _ (T36.setTop (mkF m 123 #[.val (.int p0), .val (.int p1), .val (.int p2), .val (.int p3), .val (.int p4), .val (.int (1 : Int32)), .val (.int (0 : Int32)), .val (.ref b22), .val (.ref b29), .val (.int (own_min (own_min p0 p1) p2)), .val (.int (own_max (own_max p0 p1) p2)), .unset] [(.int p2), (.int (own_max p0 p1)), (.int (own_min p0 p1))]))
    obtain ⟨_, _, ⟨T37, L37, k37, n37⟩, -, X37, ⟨Lc37, hQ37, l37, y37, z37⟩, st37⟩ := Jvm.LawKit.callS X36 hx (y := (⟨"java/lang/Math", "min", "(II)I"⟩ : MethodName)) hown (mvT hZ (hw _ (List.mem_of_getElem? (i := 50) rfl))) (mvT hZ (hw _ (List.mem_of_getElem? (i := 51) rfl))) (mvT hZ (hw _ (List.mem_of_getElem? (i := 52) rfl))) (mvT hZ (hw _ (List.mem_of_getElem? (i := 53) rfl))) (by decide) (backOf (W := 1) (rmI l Z a0 hw [] (own_max p0 p1) p2 T30.heap n0 ZH) hZ (hw _ (List.mem_of_getElem? (i := 53) rfl)) (hw _ (List.mem_of_getElem? (i := 52) rfl)) (by decide) (by decide)) (g := (mkF m 123 #[.val (.int p0), .val (.int p1), .val (.int p2), .val (.int p3), .val (.int p4), .val (.int (1 : Int32)), .val (.int (0 : Int32)), .val (.ref b22), .val (.ref b29), .val (.int (own_min (own_min p0 p1) p2)), .val (.int (own_max (own_max p0 p1) p2)), .unset] [(.int p2), (.int (own_max p0 p1)), (.int (own_min p0 p1))])) rfl (by rw [hml]; rfl) (argsL := [(.int (own_max p0 p1)), (.int p2)]) (rest := [(.int (own_min p0 p1))]) (lenOf pd_6 rfl) rfl (by show 2 * 0 + _ ≤ _; exact Nat.le_of_eq rfl) (hb hby at_123) (fun _ _ => ⟨rfl, e36, (by decide : 9 + 0 ≤ _), (by decide : 65560 + 0 ≤ _)⟩)
    dsimp only [Pt.U, Pt.locs, Pt.cells, Pt.slots] at X37 l37 y37 z37 st37 hQ37
    subst l37 y37 z37
    obtain ⟨rfl, Nq37, e37⟩ := hQ37
    have N37 := Fr.app N36 Nq37
    refine own_up st37 ?_
    show own_Go p.tables e below _ (T37.setTop (mkF m 126 #[.val (.int p0), .val (.int p1), .val (.int p2), .val (.int p3), .val (.int p4), .val (.int (1 : Int32)), .val (.int (0 : Int32)), .val (.ref b22), .val (.ref b29), .val (.int (own_min (own_min p0 p1) p2)), .val (.int (own_max (own_max p0 p1) p2)), .unset] [(.int (own_min (own_max p0 p1) p2)), (.int (own_min p0 p1))]))
    obtain ⟨_, _, ⟨T38, L38, k38, n38⟩, -, X38, ⟨Lc38, hQ38, l38, y38, z38⟩, st38⟩ := Jvm.LawKit.callS X37 hx (y := (⟨"java/lang/Math", "max", "(II)I"⟩ : MethodName)) hown (mvT hZ (hw _ (List.mem_of_getElem? (i := 54) rfl))) (mvT hZ (hw _ (List.mem_of_getElem? (i := 55) rfl))) (mvT hZ (hw _ (List.mem_of_getElem? (i := 52) rfl))) (mvT hZ (hw _ (List.mem_of_getElem? (i := 56) rfl))) (by decide) (backOf (W := 0) (rmX l Z a0 hw [] (own_min p0 p1) (own_min (own_max p0 p1) p2) T30.heap n0 ZH) hZ (hw _ (List.mem_of_getElem? (i := 56) rfl)) (hw _ (List.mem_of_getElem? (i := 52) rfl)) (by decide) (by decide)) (g := (mkF m 126 #[.val (.int p0), .val (.int p1), .val (.int p2), .val (.int p3), .val (.int p4), .val (.int (1 : Int32)), .val (.int (0 : Int32)), .val (.ref b22), .val (.ref b29), .val (.int (own_min (own_min p0 p1) p2)), .val (.int (own_max (own_max p0 p1) p2)), .unset] [(.int (own_min (own_max p0 p1) p2)), (.int (own_min p0 p1))])) rfl (by rw [hml]; rfl) (argsL := [(.int (own_min p0 p1)), (.int (own_min (own_max p0 p1) p2))]) (rest := []) (lenOf pd_6 rfl) rfl (by show 2 * 0 + _ ≤ _; exact Nat.le_of_eq rfl) (hb hby at_126) (fun _ _ => ⟨rfl, e37, (by decide : 9 + 0 ≤ _), (by decide : 65560 + 0 ≤ _)⟩)
    dsimp only [Pt.U, Pt.locs, Pt.cells, Pt.slots] at X38 l38 y38 z38 st38 hQ38
    subst l38 y38 z38
    obtain ⟨rfl, Nq38, e38⟩ := hQ38
    have N38 := Fr.app N37 Nq38
    refine own_up st38 ?_
    show own_Go p.tables e below _ (T38.setTop (mkF m 129 #[.val (.int p0), .val (.int p1), .val (.int p2), .val (.int p3), .val (.int p4), .val (.int (1 : Int32)), .val (.int (0 : Int32)), .val (.ref b22), .val (.ref b29), .val (.int (own_min (own_min p0 p1) p2)), .val (.int (own_max (own_max p0 p1) p2)), .unset] [(.int (own_max (own_min p0 p1) (own_min (own_max p0 p1) p2)))]))
    refine own_up (fun _ kq => XS.istore X38.here hx rfl (hb hby at_129) rfl (l' := #[.val (.int p0), .val (.int p1), .val (.int p2), .val (.int p3), .val (.int p4), .val (.int (1 : Int32)), .val (.int (0 : Int32)), .val (.ref b22), .val (.ref b29), .val (.int (own_min (own_min p0 p1) p2)), .val (.int (own_max (own_max p0 p1) p2)), .val (.int (own_max (own_min p0 p1) (own_min (own_max p0 p1) p2)))]) rfl kq) ?_
    show own_Go p.tables e below _ (T38.setTop (mkF m 131 #[.val (.int p0), .val (.int p1), .val (.int p2), .val (.int p3), .val (.int p4), .val (.int (1 : Int32)), .val (.int (0 : Int32)), .val (.ref b22), .val (.ref b29), .val (.int (own_min (own_min p0 p1) p2)), .val (.int (own_max (own_max p0 p1) p2)), .val (.int (own_max (own_min p0 p1) (own_min (own_max p0 p1) p2)))] []))
    refine own_up (fun _ kq => XS.aload X38.here hx rfl (hb hby at_131) rfl rfl kq) ?_
    show own_Go p.tables e below _ (T38.setTop (mkF m 133 #[.val (.int p0), .val (.int p1), .val (.int p2), .val (.int p3), .val (.int p4), .val (.int (1 : Int32)), .val (.int (0 : Int32)), .val (.ref b22), .val (.ref b29), .val (.int (own_min (own_min p0 p1) p2)), .val (.int (own_max (own_max p0 p1) p2)), .val (.int (own_max (own_min p0 p1) (own_min (own_max p0 p1) p2)))] [(.ref b29)]))
    refine own_up (fun _ kq => XS.iconst X38.here hx rfl (hb hby at_133) kq) ?_
    show own_Go p.tables e below _ (T38.setTop (mkF m 134 #[.val (.int p0), .val (.int p1), .val (.int p2), .val (.int p3), .val (.int p4), .val (.int (1 : Int32)), .val (.int (0 : Int32)), .val (.ref b22), .val (.ref b29), .val (.int (own_min (own_min p0 p1) p2)), .val (.int (own_max (own_max p0 p1) p2)), .val (.int (own_max (own_min p0 p1) (own_min (own_max p0 p1) p2)))] [(.int (0 : Int32)), (.ref b29)]))
    obtain ⟨cq39, kq39, q39a, q39b, q39c⟩ := isOf hZ e38 E_b29
    obtain ⟨_, _, ⟨T39, L39, k39, n39⟩, -, X39, ⟨Lc39, hQ39, l39, y39, z39⟩, st39⟩ := X38.virtualBack hx (y := (⟨"com/example/ranksieve/ranksieve/model/SortedColumn", "getValue", "(I)D"⟩ : MethodName)) (z := (⟨"com/example/ranksieve/ranksieve/model/SortedColumn", "getValue", "(I)D"⟩ : MethodName)) hown (mvT hZ (hw _ (List.mem_of_getElem? (i := 57) rfl))) (mvT hZ (hw _ (List.mem_of_getElem? (i := 58) rfl))) (notFace_of_selects (args := #[]) (mvT hZ (hw _ (List.mem_of_getElem? (i := 60) rfl)))) (mvT hZ (hw _ (List.mem_of_getElem? (i := 60) rfl))) (mvT hZ (hw _ (List.mem_of_getElem? (i := 59) rfl))) (by decide) (backOf (W := 0) (rmV l Z a0 hw [] b29 b22 rb (1 : Int32) (0 : Int32) (own_L [FP.i2d p3, FP.i2d p3, FP.i2d p3, FP.i2d p0, FP.i2d p1, FP.i2d p2]) rq T30.heap n0 ZH Frw Fvl Fcl GV G_rb (by decide) (own_cb (by unfold own_c2; decide) PM.1)) hZ (hw _ (List.mem_of_getElem? (i := 61) rfl)) (hw _ (List.mem_of_getElem? (i := 3) rfl)) (by decide) (by decide)) q39a q39c (g := (mkF m 134 #[.val (.int p0), .val (.int p1), .val (.int p2), .val (.int p3), .val (.int p4), .val (.int (1 : Int32)), .val (.int (0 : Int32)), .val (.ref b22), .val (.ref b29), .val (.int (own_min (own_min p0 p1) p2)), .val (.int (own_max (own_max p0 p1) p2)), .val (.int (own_max (own_min p0 p1) (own_min (own_max p0 p1) p2)))] [(.int (0 : Int32)), (.ref b29)])) rfl (by rw [hml]; rfl) (Steps.refl _) (argsL := [(.int (0 : Int32))]) (rest := []) (lenOf pd_7 rfl) rfl (by show 2 * 0 + _ ≤ _; exact Nat.le_of_eq rfl) (hb hby at_134) (fun _ _ => ⟨rfl, e38, (by decide : 9 + 0 ≤ _), (by decide : 65560 + 0 ≤ _)⟩)
    dsimp only [Pt.U, Pt.locs, Pt.cells, Pt.slots] at X39 l39 y39 z39 st39 hQ39
    subst l39 y39 z39
    obtain ⟨rfl, Nq39, e39⟩ := hQ39
    have N39 := Fr.app N38 Nq39
    refine own_up (fun _ kq => st39.trans kq) ?_
    show own_Go p.tables e below _ (T39.setTop (mkF m 137 #[.val (.int p0), .val (.int p1), .val (.int p2), .val (.int p3), .val (.int p4), .val (.int (1 : Int32)), .val (.int (0 : Int32)), .val (.ref b22), .val (.ref b29), .val (.int (own_min (own_min p0 p1) p2)), .val (.int (own_max (own_max p0 p1) p2)), .val (.int (own_max (own_min p0 p1) (own_min (own_max p0 p1) p2)))] [(.double ((own_L [FP.i2d p3, FP.i2d p3, FP.i2d p3, FP.i2d p0, FP.i2d p1, FP.i2d p2]) ((((1 : Int32) * (3 : Int32)) + (rq ((0 : Int32)).toNatClampNeg))).toNatClampNeg))]))
    refine own_up (fun _ kq => XS.iload X39.here hx rfl (hb hby at_137) rfl kq) ?_
    show own_Go p.tables e below _ (T39.setTop (mkF m 139 #[.val (.int p0), .val (.int p1), .val (.int p2), .val (.int p3), .val (.int p4), .val (.int (1 : Int32)), .val (.int (0 : Int32)), .val (.ref b22), .val (.ref b29), .val (.int (own_min (own_min p0 p1) p2)), .val (.int (own_max (own_max p0 p1) p2)), .val (.int (own_max (own_min p0 p1) (own_min (own_max p0 p1) p2)))] [(.int (own_min (own_min p0 p1) p2)), (.double ((own_L [FP.i2d p3, FP.i2d p3, FP.i2d p3, FP.i2d p0, FP.i2d p1, FP.i2d p2]) ((((1 : Int32) * (3 : Int32)) + (rq ((0 : Int32)).toNatClampNeg))).toNatClampNeg))]))
    refine own_up (fun _ kq => XS.i2dS X39.here hx rfl (v := (FP.i2d (own_min (own_min p0 p1) p2))) (hb hby at_139) rfl rfl kq) ?_
    show own_Go p.tables e below _ (T39.setTop (mkF m 140 #[.val (.int p0), .val (.int p1), .val (.int p2), .val (.int p3), .val (.int p4), .val (.int (1 : Int32)), .val (.int (0 : Int32)), .val (.ref b22), .val (.ref b29), .val (.int (own_min (own_min p0 p1) p2)), .val (.int (own_max (own_max p0 p1) p2)), .val (.int (own_max (own_min p0 p1) (own_min (own_max p0 p1) p2)))] [(.double (FP.i2d (own_min (own_min p0 p1) p2))), (.double ((own_L [FP.i2d p3, FP.i2d p3, FP.i2d p3, FP.i2d p0, FP.i2d p1, FP.i2d p2]) ((((1 : Int32) * (3 : Int32)) + (rq ((0 : Int32)).toNatClampNeg))).toNatClampNeg))]))
    refine own_up (fun _ kq => XS.dcmpS X39.here hx rfl (v := (cmpValue (FP.dcmp ((own_L [FP.i2d p3, FP.i2d p3, FP.i2d p3, FP.i2d p0, FP.i2d p1, FP.i2d p2]) ((((1 : Int32) * (3 : Int32)) + (rq ((0 : Int32)).toNatClampNeg))).toNatClampNeg) (FP.i2d (own_min (own_min p0 p1) p2))) .l)) (hb hby at_140) rfl rfl kq) ?_
    show own_Go p.tables e below _ (T39.setTop (mkF m 141 #[.val (.int p0), .val (.int p1), .val (.int p2), .val (.int p3), .val (.int p4), .val (.int (1 : Int32)), .val (.int (0 : Int32)), .val (.ref b22), .val (.ref b29), .val (.int (own_min (own_min p0 p1) p2)), .val (.int (own_max (own_max p0 p1) p2)), .val (.int (own_max (own_min p0 p1) (own_min (own_max p0 p1) p2)))] [(.int (cmpValue (FP.dcmp ((own_L [FP.i2d p3, FP.i2d p3, FP.i2d p3, FP.i2d p0, FP.i2d p1, FP.i2d p2]) ((((1 : Int32) * (3 : Int32)) + (rq ((0 : Int32)).toNatClampNeg))).toNatClampNeg) (FP.i2d (own_min (own_min p0 p1) p2))) .l))]))
    refine own_up (fun _ kq => XS.ifNo X39.here hx rfl (hb hby at_141) rfl ((if0 _ _).trans (teq (own_cmp FIN.1)).2) kq) ?_
    show own_Go p.tables e below _ (T39.setTop (mkF m 144 #[.val (.int p0), .val (.int p1), .val (.int p2), .val (.int p3), .val (.int p4), .val (.int (1 : Int32)), .val (.int (0 : Int32)), .val (.ref b22), .val (.ref b29), .val (.int (own_min (own_min p0 p1) p2)), .val (.int (own_max (own_max p0 p1) p2)), .val (.int (own_max (own_min p0 p1) (own_min (own_max p0 p1) p2)))] []))
    refine own_up (fun _ kq => XS.aload X39.here hx rfl (hb hby at_144) rfl rfl kq) ?_
    show own_Go p.tables e below _ (T39.setTop (mkF m 146 #[.val (.int p0), .val (.int p1), .val (.int p2), .val (.int p3), .val (.int p4), .val (.int (1 : Int32)), .val (.int (0 : Int32)), .val (.ref b22), .val (.ref b29), .val (.int (own_min (own_min p0 p1) p2)), .val (.int (own_max (own_max p0 p1) p2)), .val (.int (own_max (own_min p0 p1) (own_min (own_max p0 p1) p2)))] [(.ref b29)]))
    refine own_up (fun _ kq => XS.iconst X39.here hx rfl (hb hby at_146) kq) ?_
    show own_Go p.tables e below _ (T39.setTop (mkF m 147 #[.val (.int p0), .val (.int p1), .val (.int p2), .val (.int p3), .val (.int p4), .val (.int (1 : Int32)), .val (.int (0 : Int32)), .val (.ref b22), .val (.ref b29), .val (.int (own_min (own_min p0 p1) p2)), .val (.int (own_max (own_max p0 p1) p2)), .val (.int (own_max (own_min p0 p1) (own_min (own_max p0 p1) p2)))] [(.int (1 : Int32)), (.ref b29)]))
    obtain ⟨cq40, kq40, q40a, q40b, q40c⟩ := isOf hZ e39 E_b29
    obtain ⟨_, _, ⟨T40, L40, k40, n40⟩, -, X40, ⟨Lc40, hQ40, l40, y40, z40⟩, st40⟩ := X39.virtualBack hx (y := (⟨"com/example/ranksieve/ranksieve/model/SortedColumn", "getValue", "(I)D"⟩ : MethodName)) (z := (⟨"com/example/ranksieve/ranksieve/model/SortedColumn", "getValue", "(I)D"⟩ : MethodName)) hown (mvT hZ (hw _ (List.mem_of_getElem? (i := 57) rfl))) (mvT hZ (hw _ (List.mem_of_getElem? (i := 58) rfl))) (notFace_of_selects (args := #[]) (mvT hZ (hw _ (List.mem_of_getElem? (i := 60) rfl)))) (mvT hZ (hw _ (List.mem_of_getElem? (i := 60) rfl))) (mvT hZ (hw _ (List.mem_of_getElem? (i := 59) rfl))) (by decide) (backOf (W := 0) (rmV l Z a0 hw [] b29 b22 rb (1 : Int32) (1 : Int32) (own_L [FP.i2d p3, FP.i2d p3, FP.i2d p3, FP.i2d p0, FP.i2d p1, FP.i2d p2]) rq T30.heap n0 ZH Frw Fvl Fcl GV G_rb (by decide) (own_cb (by unfold own_c2; decide) PM.2.1)) hZ (hw _ (List.mem_of_getElem? (i := 61) rfl)) (hw _ (List.mem_of_getElem? (i := 3) rfl)) (by decide) (by decide)) q40a q40c (g := (mkF m 147 #[.val (.int p0), .val (.int p1), .val (.int p2), .val (.int p3), .val (.int p4), .val (.int (1 : Int32)), .val (.int (0 : Int32)), .val (.ref b22), .val (.ref b29), .val (.int (own_min (own_min p0 p1) p2)), .val (.int (own_max (own_max p0 p1) p2)), .val (.int (own_max (own_min p0 p1) (own_min (own_max p0 p1) p2)))] [(.int (1 : Int32)), (.ref b29)])) rfl (by rw [hml]; rfl) (Steps.refl _) (argsL := [(.int (1 : Int32))]) (rest := []) (lenOf pd_7 rfl) rfl (by show 2 * 0 + _ ≤ _; exact Nat.le_of_eq rfl) (hb hby at_147) (fun _ _ => ⟨rfl, e39, (by decide : 9 + 0 ≤ _), (by decide : 65560 + 0 ≤ _)⟩)
    dsimp only [Pt.U, Pt.locs, Pt.cells, Pt.slots] at X40 l40 y40 z40 st40 hQ40
    subst l40 y40 z40
    obtain ⟨rfl, Nq40, e40⟩ := hQ40
    have N40 := Fr.app N39 Nq40
    refine own_up (fun _ kq => st40.trans kq) ?_
    show own_Go p.tables e below _ (T40.setTop (mkF m 150 #[.val (.int p0), .val (.int p1), .val (.int p2), .val (.int p3), .val (.int p4), .val (.int (1 : Int32)), .val (.int (0 : Int32)), .val (.ref b22), .val (.ref b29), .val (.int (own_min (own_min p0 p1) p2)), .val (.int (own_max (own_max p0 p1) p2)), .val (.int (own_max (own_min p0 p1) (own_min (own_max p0 p1) p2)))] [(.double ((own_L [FP.i2d p3, FP.i2d p3, FP.i2d p3, FP.i2d p0, FP.i2d p1, FP.i2d p2]) ((((1 : Int32) * (3 : Int32)) + (rq ((1 : Int32)).toNatClampNeg))).toNatClampNeg))]))
    refine own_up (fun _ kq => XS.iload X40.here hx rfl (hb hby at_150) rfl kq) ?_
    show own_Go p.tables e below _ (T40.setTop (mkF m 152 #[.val (.int p0), .val (.int p1), .val (.int p2), .val (.int p3), .val (.int p4), .val (.int (1 : Int32)), .val (.int (0 : Int32)), .val (.ref b22), .val (.ref b29), .val (.int (own_min (own_min p0 p1) p2)), .val (.int (own_max (own_max p0 p1) p2)), .val (.int (own_max (own_min p0 p1) (own_min (own_max p0 p1) p2)))] [(.int (own_max (own_min p0 p1) (own_min (own_max p0 p1) p2))), (.double ((own_L [FP.i2d p3, FP.i2d p3, FP.i2d p3, FP.i2d p0, FP.i2d p1, FP.i2d p2]) ((((1 : Int32) * (3 : Int32)) + (rq ((1 : Int32)).toNatClampNeg))).toNatClampNeg))]))
    refine own_up (fun _ kq => XS.i2dS X40.here hx rfl (v := (FP.i2d (own_max (own_min p0 p1) (own_min (own_max p0 p1) p2)))) (hb hby at_152) rfl rfl kq) ?_
    show own_Go p.tables e below _ (T40.setTop (mkF m 153 #[.val (.int p0), .val (.int p1), .val (.int p2), .val (.int p3), .val (.int p4), .val (.int (1 : Int32)), .val (.int (0 : Int32)), .val (.ref b22), .val (.ref b29), .val (.int (own_min (own_min p0 p1) p2)), .val (.int (own_max (own_max p0 p1) p2)), .val (.int (own_max (own_min p0 p1) (own_min (own_max p0 p1) p2)))] [(.double (FP.i2d (own_max (own_min p0 p1) (own_min (own_max p0 p1) p2)))), (.double ((own_L [FP.i2d p3, FP.i2d p3, FP.i2d p3, FP.i2d p0, FP.i2d p1, FP.i2d p2]) ((((1 : Int32) * (3 : Int32)) + (rq ((1 : Int32)).toNatClampNeg))).toNatClampNeg))]))
    refine own_up (fun _ kq => XS.dcmpS X40.here hx rfl (v := (cmpValue (FP.dcmp ((own_L [FP.i2d p3, FP.i2d p3, FP.i2d p3, FP.i2d p0, FP.i2d p1, FP.i2d p2]) ((((1 : Int32) * (3 : Int32)) + (rq ((1 : Int32)).toNatClampNeg))).toNatClampNeg) (FP.i2d (own_max (own_min p0 p1) (own_min (own_max p0 p1) p2)))) .l)) (hb hby at_153) rfl rfl kq) ?_
    show own_Go p.tables e below _ (T40.setTop (mkF m 154 #[.val (.int p0), .val (.int p1), .val (.int p2), .val (.int p3), .val (.int p4), .val (.int (1 : Int32)), .val (.int (0 : Int32)), .val (.ref b22), .val (.ref b29), .val (.int (own_min (own_min p0 p1) p2)), .val (.int (own_max (own_max p0 p1) p2)), .val (.int (own_max (own_min p0 p1) (own_min (own_max p0 p1) p2)))] [(.int (cmpValue (FP.dcmp ((own_L [FP.i2d p3, FP.i2d p3, FP.i2d p3, FP.i2d p0, FP.i2d p1, FP.i2d p2]) ((((1 : Int32) * (3 : Int32)) + (rq ((1 : Int32)).toNatClampNeg))).toNatClampNeg) (FP.i2d (own_max (own_min p0 p1) (own_min (own_max p0 p1) p2)))) .l))]))
    refine own_up (fun _ kq => XS.ifNo X40.here hx rfl (hb hby at_154) rfl ((if0 _ _).trans (teq (own_cmp FIN.2.1)).2) kq) ?_
    show own_Go p.tables e below _ (T40.setTop (mkF m 157 #[.val (.int p0), .val (.int p1), .val (.int p2), .val (.int p3), .val (.int p4), .val (.int (1 : Int32)), .val (.int (0 : Int32)), .val (.ref b22), .val (.ref b29), .val (.int (own_min (own_min p0 p1) p2)), .val (.int (own_max (own_max p0 p1) p2)), .val (.int (own_max (own_min p0 p1) (own_min (own_max p0 p1) p2)))] []))
    refine own_up (fun _ kq => XS.aload X40.here hx rfl (hb hby at_157) rfl rfl kq) ?_
    show own_Go p.tables e below _ (T40.setTop (mkF m 159 #[.val (.int p0), .val (.int p1), .val (.int p2), .val (.int p3), .val (.int p4), .val (.int (1 : Int32)), .val (.int (0 : Int32)), .val (.ref b22), .val (.ref b29), .val (.int (own_min (own_min p0 p1) p2)), .val (.int (own_max (own_max p0 p1) p2)), .val (.int (own_max (own_min p0 p1) (own_min (own_max p0 p1) p2)))] [(.ref b29)]))
    refine own_up (fun _ kq => XS.iconst X40.here hx rfl (hb hby at_159) kq) ?_
    show own_Go p.tables e below _ (T40.setTop (mkF m 160 #[.val (.int p0), .val (.int p1), .val (.int p2), .val (.int p3), .val (.int p4), .val (.int (1 : Int32)), .val (.int (0 : Int32)), .val (.ref b22), .val (.ref b29), .val (.int (own_min (own_min p0 p1) p2)), .val (.int (own_max (own_max p0 p1) p2)), .val (.int (own_max (own_min p0 p1) (own_min (own_max p0 p1) p2)))] [(.int (2 : Int32)), (.ref b29)]))
    obtain ⟨cq41, kq41, q41a, q41b, q41c⟩ := isOf hZ e40 E_b29
    obtain ⟨_, _, ⟨T41, L41, k41, n41⟩, -, X41, ⟨Lc41, hQ41, l41, y41, z41⟩, st41⟩ := X40.virtualBack hx (y := (⟨"com/example/ranksieve/ranksieve/model/SortedColumn", "getValue", "(I)D"⟩ : MethodName)) (z := (⟨"com/example/ranksieve/ranksieve/model/SortedColumn", "getValue", "(I)D"⟩ : MethodName)) hown (mvT hZ (hw _ (List.mem_of_getElem? (i := 57) rfl))) (mvT hZ (hw _ (List.mem_of_getElem? (i := 58) rfl))) (notFace_of_selects (args := #[]) (mvT hZ (hw _ (List.mem_of_getElem? (i := 60) rfl)))) (mvT hZ (hw _ (List.mem_of_getElem? (i := 60) rfl))) (mvT hZ (hw _ (List.mem_of_getElem? (i := 59) rfl))) (by decide) (backOf (W := 0) (rmV l Z a0 hw [] b29 b22 rb (1 : Int32) (2 : Int32) (own_L [FP.i2d p3, FP.i2d p3, FP.i2d p3, FP.i2d p0, FP.i2d p1, FP.i2d p2]) rq T30.heap n0 ZH Frw Fvl Fcl GV G_rb (by decide) (own_cb (by unfold own_c2; decide) PM.2.2)) hZ (hw _ (List.mem_of_getElem? (i := 61) rfl)) (hw _ (List.mem_of_getElem? (i := 3) rfl)) (by decide) (by decide)) q41a q41c (g := (mkF m 160 #[.val (.int p0), .val (.int p1), .val (.int p2), .val (.int p3), .val (.int p4), .val (.int (1 : Int32)), .val (.int (0 : Int32)), .val (.ref b22), .val (.ref b29), .val (.int (own_min (own_min p0 p1) p2)), .val (.int (own_max (own_max p0 p1) p2)), .val (.int (own_max (own_min p0 p1) (own_min (own_max p0 p1) p2)))] [(.int (2 : Int32)), (.ref b29)])) rfl (by rw [hml]; rfl) (Steps.refl _) (argsL := [(.int (2 : Int32))]) (rest := []) (lenOf pd_7 rfl) rfl (by show 2 * 0 + _ ≤ _; exact Nat.le_of_eq rfl) (hb hby at_160) (fun _ _ => ⟨rfl, e40, (by decide : 9 + 0 ≤ _), (by decide : 65560 + 0 ≤ _)⟩)
    dsimp only [Pt.U, Pt.locs, Pt.cells, Pt.slots] at X41 l41 y41 z41 st41 hQ41
    subst l41 y41 z41
    obtain ⟨rfl, Nq41, e41⟩ := hQ41
    have N41 := Fr.app N40 Nq41
    refine own_up (fun _ kq => st41.trans kq) ?_
    show own_Go p.tables e below _ (T41.setTop (mkF m 163 #[.val (.int p0), .val (.int p1), .val (.int p2), .val (.int p3), .val (.int p4), .val (.int (1 : Int32)), .val (.int (0 : Int32)), .val (.ref b22), .val (.ref b29), .val (.int (own_min (own_min p0 p1) p2)), .val (.int (own_max (own_max p0 p1) p2)), .val (.int (own_max (own_min p0 p1) (own_min (own_max p0 p1) p2)))] [(.double ((own_L [FP.i2d p3, FP.i2d p3, FP.i2d p3, FP.i2d p0, FP.i2d p1, FP.i2d p2]) ((((1 : Int32) * (3 : Int32)) + (rq ((2 : Int32)).toNatClampNeg))).toNatClampNeg))]))
    refine own_up (fun _ kq => XS.iload X41.here hx rfl (hb hby at_163) rfl kq) ?_
    show own_Go p.tables e below _ (T41.setTop (mkF m 165 #[.val (.int p0), .val (.int p1), .val (.int p2), .val (.int p3), .val (.int p4), .val (.int (1 : Int32)), .val (.int (0 : Int32)), .val (.ref b22), .val (.ref b29), .val (.int (own_min (own_min p0 p1) p2)), .val (.int (own_max (own_max p0 p1) p2)), .val (.int (own_max (own_min p0 p1) (own_min (own_max p0 p1) p2)))] [(.int (own_max (own_max p0 p1) p2)), (.double ((own_L [FP.i2d p3, FP.i2d p3, FP.i2d p3, FP.i2d p0, FP.i2d p1, FP.i2d p2]) ((((1 : Int32) * (3 : Int32)) + (rq ((2 : Int32)).toNatClampNeg))).toNatClampNeg))]))
    refine own_up (fun _ kq => XS.i2dS X41.here hx rfl (v := (FP.i2d (own_max (own_max p0 p1) p2))) (hb hby at_165) rfl rfl kq) ?_
    show own_Go p.tables e below _ (T41.setTop (mkF m 166 #[.val (.int p0), .val (.int p1), .val (.int p2), .val (.int p3), .val (.int p4), .val (.int (1 : Int32)), .val (.int (0 : Int32)), .val (.ref b22), .val (.ref b29), .val (.int (own_min (own_min p0 p1) p2)), .val (.int (own_max (own_max p0 p1) p2)), .val (.int (own_max (own_min p0 p1) (own_min (own_max p0 p1) p2)))] [(.double (FP.i2d (own_max (own_max p0 p1) p2))), (.double ((own_L [FP.i2d p3, FP.i2d p3, FP.i2d p3, FP.i2d p0, FP.i2d p1, FP.i2d p2]) ((((1 : Int32) * (3 : Int32)) + (rq ((2 : Int32)).toNatClampNeg))).toNatClampNeg))]))
    refine own_up (fun _ kq => XS.dcmpS X41.here hx rfl (v := (cmpValue (FP.dcmp ((own_L [FP.i2d p3, FP.i2d p3, FP.i2d p3, FP.i2d p0, FP.i2d p1, FP.i2d p2]) ((((1 : Int32) * (3 : Int32)) + (rq ((2 : Int32)).toNatClampNeg))).toNatClampNeg) (FP.i2d (own_max (own_max p0 p1) p2))) .l)) (hb hby at_166) rfl rfl kq) ?_
    show own_Go p.tables e below _ (T41.setTop (mkF m 167 #[.val (.int p0), .val (.int p1), .val (.int p2), .val (.int p3), .val (.int p4), .val (.int (1 : Int32)), .val (.int (0 : Int32)), .val (.ref b22), .val (.ref b29), .val (.int (own_min (own_min p0 p1) p2)), .val (.int (own_max (own_max p0 p1) p2)), .val (.int (own_max (own_min p0 p1) (own_min (own_max p0 p1) p2)))] [(.int (cmpValue (FP.dcmp ((own_L [FP.i2d p3, FP.i2d p3, FP.i2d p3, FP.i2d p0, FP.i2d p1, FP.i2d p2]) ((((1 : Int32) * (3 : Int32)) + (rq ((2 : Int32)).toNatClampNeg))).toNatClampNeg) (FP.i2d (own_max (own_max p0 p1) p2))) .l))]))
    refine own_up (fun _ kq => XS.ifNo X41.here hx rfl (hb hby at_167) rfl ((if0 _ _).trans (teq (own_cmp FIN.2.2)).2) kq) ?_
    show own_Go p.tables e below _ (T41.setTop (mkF m 170 #[.val (.int p0), .val (.int p1), .val (.int p2), .val (.int p3), .val (.int p4), .val (.int (1 : Int32)), .val (.int (0 : Int32)), .val (.ref b22), .val (.ref b29), .val (.int (own_min (own_min p0 p1) p2)), .val (.int (own_max (own_max p0 p1) p2)), .val (.int (own_max (own_min p0 p1) (own_min (own_max p0 p1) p2)))] []))
    refine own_up (fun _ kq => XS.iconst X41.here hx rfl (hb hby at_170) kq) ?_
    show own_Go p.tables e below _ (T41.setTop (mkF m 171 #[.val (.int p0), .val (.int p1), .val (.int p2), .val (.int p3), .val (.int p4), .val (.int (1 : Int32)), .val (.int (0 : Int32)), .val (.ref b22), .val (.ref b29), .val (.int (own_min (own_min p0 p1) p2)), .val (.int (own_max (own_max p0 p1) p2)), .val (.int (own_max (own_min p0 p1) (own_min (own_max p0 p1) p2)))] [(.int (1 : Int32))]))
    refine own_up (fun _ kq => XS.goto X41.here hx rfl (pc0 := 171) (pc' := 175) rfl (hb hby at_171) (by decide) (by decide) kq) ?_
    show own_Go p.tables e below _ (T41.setTop (mkF m 175 #[.val (.int p0), .val (.int p1), .val (.int p2), .val (.int p3), .val (.int p4), .val (.int (1 : Int32)), .val (.int (0 : Int32)), .val (.ref b22), .val (.ref b29), .val (.int (own_min (own_min p0 p1) p2)), .val (.int (own_max (own_max p0 p1) p2)), .val (.int (own_max (own_min p0 p1) (own_min (own_max p0 p1) p2)))] [(.int (1 : Int32))]))
    obtain ⟨fs42, hr42, hrun42, hended42, hW42, hsame42⟩ := X41.leave (v := some (.int (1 : Int32))) (fun h => by rw [Bd.returns] at h; cases h)
    refine own_end ⟨_, _, ?_, hrun42, hended42, _, _, rfl, ?_, ⟨_, rfl⟩, hW42, hsame42.mono (by decide) (by decide)⟩
    · exact retN X41 hx (t := .boolean) Bd.returns (by simp) (hb hby at_175) hr42
    · show Qrm0 Z p0 p1 p2 p3 p4 h0 n0 _ T41.heap _
      rw [e41]
      exact ⟨rfl, N41⟩
set_option maxRecDepth 65536 in
set_option maxHeartbeats 40000000 in
theorem comes_1 {Post : Tables → Env → Array Value → State → Outcome → State → Prop} (hpost : ∀ tb e args s v u, (limb_1_1.after args s (.returned v) u = true ∧ limb_1_2.after args s (.returned v) u = true ∧ True) → FrameEnd s (.returned v) u (Jvm.fieldLocs frame_1_writes args s ++ Jvm.arrayLocs frame_1_arrays args s ++ Jvm.staticLocs frame_1_statics s) 32 131200 → Post tb e args s (.returned v) u) :
    ArmFor flags0 classFile x code maxLocals ret World_1 tables_1 room_1 Calls_1 rest_1 Pre_1 Post := by
  intro l hfl _ _ p e ha hc hk s m args below hf hA hF happ hP
  obtain ⟨hcalls, hrest, hpre⟩ := hP
  obtain ⟨-, -, -, hnamed, -, -, -, hat⟩ := (Spec.applies_iff hf).mp happ
  obtain ⟨hg, hn⟩ := and_e (Cond.before_iff.mp (show (Jvm.Cond.and given_1 narrow_1).before args s = true from hpre))
  obtain ⟨gA0, gB0⟩ := and_e hg
  obtain ⟨gA1, gB1⟩ := and_e gB0
  obtain ⟨gA2, gB2⟩ := and_e gB1
  obtain ⟨gA3, gB3⟩ := and_e gB2
  obtain ⟨gA4, gB4⟩ := and_e gB3
  obtain ⟨w0, w1, w2, w3, w4, rfl⟩ : ∃ w0 w1 w2 w3 w4 : Value, args = #[w0, w1, w2, w3, w4] := by
    have hs : args.size = 5 := by simpa [Cond.value, given_1] using gA0
    obtain ⟨L⟩ := args
    match L, hs with
    | [w0, w1, w2, w3, w4], _ => exact ⟨w0, w1, w2, w3, w4, rfl⟩
  have hw := fun d (hd : d ∈ tables_1) => atoms_spec (ws := Jvm.Cond.code x code maxLocals ret :: tables_1) hat d (List.mem_cons_of_mem _ hd)
  have hfit : Fit s := fun {y c} hc i hi => by
    obtain ⟨ha, rfl⟩ := Array.getElem?_eq_some_iff.mp hc
    have q := List.all_eq_true.mp ((Array.all_eq_true_iff_forall_mem.mp hF) _ (Array.getElem_mem ha)) i (List.mem_range.mpr hi)
    simpa [Array.getElem?_eq_getElem hi] using q
  obtain ⟨i0, ei0⟩ := is_v gA1
  obtain rfl : w0 = (.int i0) := Option.some.inj ei0
  obtain ⟨i1, ei1⟩ := is_v gA2
  obtain rfl : w1 = (.int i1) := Option.some.inj ei1
  obtain ⟨i2, ei2⟩ := is_v gA3
  obtain rfl : w2 = (.int i2) := Option.some.inj ei2
  obtain ⟨i3, ei3⟩ := is_v gA4
  obtain rfl : w3 = (.int i3) := Option.some.inj ei3
  obtain ⟨i4, ei4⟩ := is_v gB4
  obtain rfl : w4 = (.int i4) := Option.some.inj ei4
  obtain ⟨n, o, h1, h2, h3, _, L, rfl, ⟨rfl, N⟩, hq⟩ := rm0 l s _ hw tables_1 i0 i1 i2 i3 i4 s.heap s.heap.size (Nat.le_refl _) p e ha hc hk s m _ below hf ((Spec.applies_iff_loose hf).mp happ).1 ⟨rfl, State.Warmed39.refl s, rfl⟩ trivial
  refine ⟨n, _, h1, h2, h3, hpost _ _ _ _ _ _ ⟨Cond.after_iff.mpr rfl, Cond.after_iff.mpr (eq_i res_at (Term.int_eval (1)) rfl), trivial⟩ ⟨hq.1, hq.2.1, (hq.2.2.sift fun y hy => Or.inr (N y hy)).mono (by decide) (by decide)⟩⟩
theorem main_1_1 : Claimed_1_1 := comes_1 fun _ _ _ _ _ _ h hF => ⟨h.1, hF⟩
theorem main_1_2 : Claimed_1_2 := comes_1 fun _ _ _ _ _ _ h hF => ⟨h.2.1, hF⟩
end Jvm.Pilot.@@N@@
namespace Jvm.Pilot.@@N@@
open Jvm Jvm.ClassFile Sem Op Lib Jvm.Free Jvm.Stand Jvm.Pilot.@@N@@.Jvm.D
/-! MADE BY PROGRAM (witnessworld.py) out of the Statement's table words and the real class files: 20 classes; the members and pool entries that the words name. The judged class is class 1, her method 1. -/
namespace start1
open Jvm.ClassFile
def u (s : String) : CpInfo := .utf8 (stringToUtf16 s)
/-- a pool by its gaps: so many unusable entries, then the entry; so many at the end -/
def gap : Nat → List CpInfo → List CpInfo
  | 0, r => r
  | n + 1, r => .unusable :: gap n r
def poolList (es : List (Nat × CpInfo)) (last : Nat) : List CpInfo := es.foldr (fun e r => gap e.1 (e.2 :: r)) (gap last [])
def pool (es : List (Nat × CpInfo)) (last : Nat) : Array CpInfo := ⟨poolList es last⟩
def fileOf (pool : Array CpInfo) (this : Nat) (attrs : Array Attribute := #[]) (ms : Array MethodInfo := #[]) (fl : Nat := 33) (sup : Nat := 0) (ifs : Array Nat := #[]) (fds : Array FieldInfo := #[]) : ClassFile where
  minorVersion := 0
  majorVersion := 65
  constantPool := pool
  accessFlags := fl
  thisClass := this
  superClass := sup
  interfaces := ifs
  fields := fds
  methods := ms
  attributes := attrs
def plain (name : String) (sup : Option ClassId) : Class where
  name := name
  kind := .ordinary
  loader := none
  accessFlags := 33
  super := sup
  interfaces := #[]
  cf := none
  fields := #[]
  methods := #[]
  instanceTypes := #[]
  staticTypes := #[]
  resolved := #[]
  callSites := []
  init := .initialized
  statics := none
  mirror := none

def pool0 : Array CpInfo := pool [(5, u "<init>"), (0, u "()V"), (1, .class_ 10), (1, u "java/lang/Object")] 113

def k0c0 : Code := { maxStack := 0, maxLocals := 1, code := object_method_1_code, exceptionTable := #[], attributes := #[] }
def k0m0 : Method := { name := "<init>", desc := "()V", sig := { parameters := [], returnType := none }, accessFlags := 1, code := some k0c0 }
/-- java/lang/Object -/
def k0 : Class := { plain "java/lang/Object" none with
  accessFlags := 33
  interfaces := #[]
  cf := some (fileOf pool0 8 #[] #[{ accessFlags := 1, nameIndex := 5, descriptorIndex := 6, attributes := #[] }] 33 0 #[] #[])
  fields := #[]
  methods := #[k0m0]
  instanceTypes := #[]
  staticTypes := #[]
  resolved := Array.replicate 124 none
  statics := none }

def pool1 : Array CpInfo := pool [(2, .class_ 4), (1, u "java/lang/Object"), (0, u "<init>"), (0, u "()V"), (0, .class_ 8), (0, u "com/example/ranksieve/ranksieve/model/SortedColumn"), (0, .methodref 7 10), (0, .nameAndType 5 11), (0, u "([DII)V"), (0, .methodref 13 14), (0, .class_ 15), (0, .nameAndType 16 17), (0, u "java/lang/Math"), (0, u "min"), (0, u "(II)I"), (0, .methodref 13 19), (0, .nameAndType 20 17), (0, u "max"), (0, .methodref 7 22), (0, .nameAndType 23 24), (0, u "getValue"), (0, u "(I)D"), (0, .class_ 26), (0, u "com/example/ranksieve/ranksieve/model/SortedColumnGetValuePinLaw"), (2, u "law"), (0, u "(IIIII)Z")] 5

def k1m0 : Method := { name := "<init>", desc := "()V", sig := { parameters := [], returnType := none }, accessFlags := 1, code := none }
def k1c1 : Code := { maxStack := 5, maxLocals := 12, code := code, exceptionTable := #[], attributes := #[] }
def k1m1 : Method := { name := "law", desc := "(IIIII)Z", sig := { parameters := [.int, .int, .int, .int, .int], returnType := some .boolean }, accessFlags := 9, code := some k1c1 }
/-- com/example/ranksieve/ranksieve/model/SortedColumnGetValuePinLaw -/
def k1 : Class := { plain "com/example/ranksieve/ranksieve/model/SortedColumnGetValuePinLaw" (some 0) with
  accessFlags := 49
  interfaces := #[]
  cf := some (fileOf pool1 25 #[] #[{ accessFlags := 1, nameIndex := 5, descriptorIndex := 6, attributes := #[] }, { accessFlags := 9, nameIndex := 29, descriptorIndex := 30, attributes := #[] }] 49 2 #[] #[])
  fields := #[]
  methods := #[k1m0, k1m1]
  instanceTypes := #[]
  staticTypes := #[]
  resolved := Array.replicate 36 none
  statics := none }

def pool2 : Array CpInfo := pool [(1, .class_ 2), (0, u "com/example/ranksieve/ranksieve/model/SortedColumn"), (0, .methodref 4 5), (0, .class_ 6), (0, .nameAndType 7 8), (0, u "java/lang/Object"), (0, u "<init>"), (0, u "()V"), (0, .fieldref 1 10), (0, .nameAndType 11 12), (0, u "_copyFromFirst"), (0, u "[D"), (0, .fieldref 1 14), (0, .nameAndType 15 12), (0, u "_copyFromLast"), (0, .methodref 1 17), (0, .nameAndType 18 19), (0, u "sortRows"), (0, u "([DII)[I"), (0, .fieldref 1 21), (0, .nameAndType 22 23), (0, u "_rows"), (0, u "[I"), (0, .fieldref 1 25), (0, .nameAndType 26 12), (0, u "_values"), (0, .fieldref 1 28), (0, .nameAndType 29 30), (0, u "_width"), (0, u "I"), (0, .fieldref 1 32), (0, .nameAndType 33 30), (0, u "_column"), (0, .class_ 35), (0, u "com/example/ranksieve/ranksieve/model/SortedColumn$Cursor"), (17, .class_ 55), (1, u "java/util/Arrays"), (6, .methodref 1 63), (0, .nameAndType 64 65), (0, u "orderedBits"), (0, u "(D)J"), (0, .integer 65536), (2, .methodref 53 70), (0, .nameAndType 71 72), (0, u "fill"), (0, u "([II)V"), (0, .methodref 1 74), (0, .nameAndType 75 76), (0, u "digit"), (0, u "(JI)I"), (0, .methodref 78 79), (0, .class_ 80), (0, .nameAndType 81 65), (0, u "java/lang/Double"), (0, u "doubleToLongBits"), (0, .long 18446744073709551615), (1, .long 9223372036854775808), (1, .integer 65535), (0, u "DIGIT_BITS"), (2, u "RADIX"), (0, u "FIRST_COPY_DEPTH"), (1, u "([DII)V"), (6, u "getValue"), (0, u "(I)D")] 15

def k2c0 : Code := { maxStack := 4, maxLocals := 4, code := prog_69_method_1_code, exceptionTable := #[], attributes := #[] }
def k2m0 : Method := { name := "<init>", desc := "([DII)V", sig := { parameters := [(.array .double), .int, .int], returnType := none }, accessFlags := 0, code := some k2c0 }
def k2c1 : Code := { maxStack := 4, maxLocals := 2, code := prog_69_method_4_code, exceptionTable := #[], attributes := #[] }
def k2m1 : Method := { name := "getValue", desc := "(I)D", sig := { parameters := [.int], returnType := some .double }, accessFlags := 1, code := some k2c1 }
def k2c2 : Code := { maxStack := 5, maxLocals := 13, code := prog_69_method_9_code, exceptionTable := #[], attributes := #[] }
def k2m2 : Method := { name := "sortRows", desc := "([DII)[I", sig := { parameters := [(.array .double), .int, .int], returnType := some (.array .int) }, accessFlags := 10, code := some k2c2 }
def k2c3 : Code := { maxStack := 4, maxLocals := 4, code := prog_69_method_10_code, exceptionTable := #[], attributes := #[] }
def k2m3 : Method := { name := "orderedBits", desc := "(D)J", sig := { parameters := [.double], returnType := some .long }, accessFlags := 10, code := some k2c3 }
def k2c4 : Code := { maxStack := 3, maxLocals := 3, code := prog_69_method_11_code, exceptionTable := #[], attributes := #[] }
def k2m4 : Method := { name := "digit", desc := "(JI)I", sig := { parameters := [.long, .int], returnType := some .int }, accessFlags := 10, code := some k2c4 }
/-- com/example/ranksieve/ranksieve/model/SortedColumn -/
def k2 : Class := { plain "com/example/ranksieve/ranksieve/model/SortedColumn" (some 0) with
  accessFlags := 49
  interfaces := #[]
  cf := some (fileOf pool2 1 #[.nestMembers #[34]] #[{ accessFlags := 0, nameIndex := 7, descriptorIndex := 93, attributes := #[] }, { accessFlags := 1, nameIndex := 100, descriptorIndex := 101, attributes := #[] }, { accessFlags := 10, nameIndex := 18, descriptorIndex := 19, attributes := #[] }, { accessFlags := 10, nameIndex := 64, descriptorIndex := 65, attributes := #[] }, { accessFlags := 10, nameIndex := 75, descriptorIndex := 76, attributes := #[] }] 49 4 #[] #[{ accessFlags := 26, nameIndex := 87, descriptorIndex := 30, attributes := #[] }, { accessFlags := 26, nameIndex := 90, descriptorIndex := 30, attributes := #[] }, { accessFlags := 26, nameIndex := 91, descriptorIndex := 30, attributes := #[] }, { accessFlags := 18, nameIndex := 22, descriptorIndex := 23, attributes := #[] }, { accessFlags := 18, nameIndex := 26, descriptorIndex := 12, attributes := #[] }, { accessFlags := 18, nameIndex := 29, descriptorIndex := 30, attributes := #[] }, { accessFlags := 18, nameIndex := 33, descriptorIndex := 30, attributes := #[] }, { accessFlags := 66, nameIndex := 11, descriptorIndex := 12, attributes := #[] }, { accessFlags := 66, nameIndex := 15, descriptorIndex := 12, attributes := #[] }])
  fields := #[{ name := "DIGIT_BITS", type := .int, accessFlags := 26, slot := 0, constantValue := 0 }, { name := "RADIX", type := .int, accessFlags := 26, slot := 1, constantValue := 0 }, { name := "FIRST_COPY_DEPTH", type := .int, accessFlags := 26, slot := 2, constantValue := 0 }, { name := "_rows", type := (.array .int), accessFlags := 18, slot := 0, constantValue := 0 }, { name := "_values", type := (.array .double), accessFlags := 18, slot := 1, constantValue := 0 }, { name := "_width", type := .int, accessFlags := 18, slot := 2, constantValue := 0 }, { name := "_column", type := .int, accessFlags := 18, slot := 3, constantValue := 0 }, { name := "_copyFromFirst", type := (.array .double), accessFlags := 66, slot := 4, constantValue := 0 }, { name := "_copyFromLast", type := (.array .double), accessFlags := 66, slot := 5, constantValue := 0 }]
  methods := #[k2m0, k2m1, k2m2, k2m3, k2m4]
  instanceTypes := #[(.array .int), (.array .double), .int, .int, (.array .double), (.array .double)]
  staticTypes := #[.int, .int, .int]
  resolved := Array.replicate 117 none
  statics := none }

def pool3 : Array CpInfo := pool [(1, .class_ 2), (0, u "java/io/Serializable"), (0, .class_ 4), (0, u "java/lang/Object")] 2

/-- java/io/Serializable -/
def k3 : Class := { plain "java/io/Serializable" (some 0) with
  accessFlags := 1537
  interfaces := #[]
  cf := some (fileOf pool3 1 #[] #[] 1537 3 #[] #[])
  fields := #[]
  methods := #[]
  instanceTypes := #[]
  staticTypes := #[]
  resolved := Array.replicate 7 none
  statics := none }

def pool4 : Array CpInfo := pool [(2, .class_ 4), (1, u "java/lang/Object"), (0, u "<init>"), (0, u "()V"), (1, .class_ 10), (1, u "java/lang/Number"), (2, .class_ 14), (0, u "java/io/Serializable"), (0, u "serialVersionUID"), (0, u "J")] 20

def k4m0 : Method := { name := "<init>", desc := "()V", sig := { parameters := [], returnType := none }, accessFlags := 1, code := none }
/-- java/lang/Number -/
def k4 : Class := { plain "java/lang/Number" (some 0) with
  accessFlags := 1057
  interfaces := #[3]
  cf := some (fileOf pool4 8 #[] #[{ accessFlags := 1, nameIndex := 5, descriptorIndex := 6, attributes := #[] }] 1057 2 #[13] #[{ accessFlags := 26, nameIndex := 15, descriptorIndex := 16, attributes := #[] }])
  fields := #[{ name := "serialVersionUID", type := .long, accessFlags := 26, slot := 0, constantValue := 0 }]
  methods := #[k4m0]
  instanceTypes := #[]
  staticTypes := #[.long]
  resolved := Array.replicate 37 none
  statics := none }

def pool5 : Array CpInfo := pool [(1, .class_ 2), (0, u "java/lang/Comparable"), (0, .class_ 4), (0, u "java/lang/Object")] 7

/-- java/lang/Comparable -/
def k5 : Class := { plain "java/lang/Comparable" (some 0) with
  accessFlags := 1537
  interfaces := #[]
  cf := some (fileOf pool5 1 #[] #[] 1537 3 #[] #[])
  fields := #[]
  methods := #[]
  instanceTypes := #[]
  staticTypes := #[]
  resolved := Array.replicate 12 none
  statics := none }

def pool6 : Array CpInfo := pool [(1, .class_ 2), (0, u "java/lang/constant/Constable"), (0, .class_ 4), (0, u "java/lang/Object")] 6

/-- java/lang/constant/Constable -/
def k6 : Class := { plain "java/lang/constant/Constable" (some 0) with
  accessFlags := 1537
  interfaces := #[]
  cf := some (fileOf pool6 1 #[] #[] 1537 3 #[] #[])
  fields := #[]
  methods := #[]
  instanceTypes := #[]
  staticTypes := #[]
  resolved := Array.replicate 11 none
  statics := none }

def pool7 : Array CpInfo := pool [(1, .class_ 2), (0, u "java/lang/constant/ConstantDesc"), (0, .class_ 4), (0, u "java/lang/Object")] 32

/-- java/lang/constant/ConstantDesc -/
def k7 : Class := { plain "java/lang/constant/ConstantDesc" (some 0) with
  accessFlags := 1537
  interfaces := #[]
  cf := some (fileOf pool7 1 #[] #[] 1537 3 #[] #[])
  fields := #[]
  methods := #[]
  instanceTypes := #[]
  staticTypes := #[]
  resolved := Array.replicate 37 none
  statics := none }

def pool8 : Array CpInfo := pool [(1, .class_ 2), (0, u "java/lang/Double"), (11, u "(D)Z"), (33, u "doubleToLongBits"), (0, u "(D)J"), (64, .class_ 116), (1, u "java/lang/Number"), (3, u "value"), (0, u "D"), (0, .methodref 1 123), (0, .nameAndType 124 14), (0, u "isNaN"), (9, .methodref 1 135), (0, .nameAndType 136 49), (0, u "doubleToRawLongBits"), (36, u "TYPE"), (0, u "Ljava/lang/Class;"), (0, .class_ 176), (0, u "java/lang/Comparable"), (0, .class_ 178), (0, u "java/lang/constant/Constable"), (0, .class_ 180), (0, u "java/lang/constant/ConstantDesc"), (0, u "POSITIVE_INFINITY"), (3, u "NEGATIVE_INFINITY"), (2, u "NaN"), (2, u "MAX_VALUE"), (0, u "MIN_NORMAL"), (0, u "MIN_VALUE"), (2, u "SIZE"), (0, u "I"), (1, u "PRECISION"), (1, u "MAX_EXPONENT"), (1, u "MIN_EXPONENT"), (1, u "BYTES"), (3, u "serialVersionUID"), (0, u "J")] 79

def k8c0 : Code := { maxStack := 4, maxLocals := 2, code := jdk_117_method_6_code, exceptionTable := #[], attributes := #[] }
def k8m0 : Method := { name := "isNaN", desc := "(D)Z", sig := { parameters := [.double], returnType := some .boolean }, accessFlags := 9, code := some k8c0 }
def k8c1 : Code := { maxStack := 2, maxLocals := 2, code := jdk_117_method_23_code, exceptionTable := #[], attributes := #[] }
def k8m1 : Method := { name := "doubleToLongBits", desc := "(D)J", sig := { parameters := [.double], returnType := some .long }, accessFlags := 9, code := some k8c1 }
def k8m2 : Method := { name := "doubleToRawLongBits", desc := "(D)J", sig := { parameters := [.double], returnType := some .long }, accessFlags := 265, code := none }
/-- java/lang/Double -/
def k8 : Class := { plain "java/lang/Double" (some 4) with
  accessFlags := 49
  interfaces := #[5, 6, 7]
  cf := some (fileOf pool8 1 #[] #[{ accessFlags := 9, nameIndex := 124, descriptorIndex := 14, attributes := #[] }, { accessFlags := 9, nameIndex := 48, descriptorIndex := 49, attributes := #[] }, { accessFlags := 265, nameIndex := 136, descriptorIndex := 49, attributes := #[] }] 49 114 #[175, 177, 179] #[{ accessFlags := 25, nameIndex := 181, descriptorIndex := 121, attributes := #[] }, { accessFlags := 25, nameIndex := 185, descriptorIndex := 121, attributes := #[] }, { accessFlags := 25, nameIndex := 188, descriptorIndex := 121, attributes := #[] }, { accessFlags := 25, nameIndex := 191, descriptorIndex := 121, attributes := #[] }, { accessFlags := 25, nameIndex := 192, descriptorIndex := 121, attributes := #[] }, { accessFlags := 25, nameIndex := 193, descriptorIndex := 121, attributes := #[] }, { accessFlags := 25, nameIndex := 196, descriptorIndex := 197, attributes := #[] }, { accessFlags := 25, nameIndex := 199, descriptorIndex := 197, attributes := #[] }, { accessFlags := 25, nameIndex := 201, descriptorIndex := 197, attributes := #[] }, { accessFlags := 25, nameIndex := 203, descriptorIndex := 197, attributes := #[] }, { accessFlags := 25, nameIndex := 205, descriptorIndex := 197, attributes := #[] }, { accessFlags := 25, nameIndex := 173, descriptorIndex := 174, attributes := #[] }, { accessFlags := 18, nameIndex := 120, descriptorIndex := 121, attributes := #[] }, { accessFlags := 26, nameIndex := 209, descriptorIndex := 210, attributes := #[] }])
  fields := #[{ name := "POSITIVE_INFINITY", type := .double, accessFlags := 25, slot := 0, constantValue := 0 }, { name := "NEGATIVE_INFINITY", type := .double, accessFlags := 25, slot := 1, constantValue := 0 }, { name := "NaN", type := .double, accessFlags := 25, slot := 2, constantValue := 0 }, { name := "MAX_VALUE", type := .double, accessFlags := 25, slot := 3, constantValue := 0 }, { name := "MIN_NORMAL", type := .double, accessFlags := 25, slot := 4, constantValue := 0 }, { name := "MIN_VALUE", type := .double, accessFlags := 25, slot := 5, constantValue := 0 }, { name := "SIZE", type := .int, accessFlags := 25, slot := 6, constantValue := 0 }, { name := "PRECISION", type := .int, accessFlags := 25, slot := 7, constantValue := 0 }, { name := "MAX_EXPONENT", type := .int, accessFlags := 25, slot := 8, constantValue := 0 }, { name := "MIN_EXPONENT", type := .int, accessFlags := 25, slot := 9, constantValue := 0 }, { name := "BYTES", type := .int, accessFlags := 25, slot := 10, constantValue := 0 }, { name := "TYPE", type := (.object "java/lang/Class"), accessFlags := 25, slot := 11, constantValue := 0 }, { name := "value", type := .double, accessFlags := 18, slot := 0, constantValue := 0 }, { name := "serialVersionUID", type := .long, accessFlags := 26, slot := 12, constantValue := 0 }]
  methods := #[k8m0, k8m1, k8m2]
  instanceTypes := #[.double]
  staticTypes := #[.double, .double, .double, .double, .double, .double, .int, .int, .int, .int, .int, (.object "java/lang/Class"), .long]
  resolved := Array.replicate 290 none
  statics := none }

def pool9 : Array CpInfo := pool [(2, .class_ 4), (1, u "java/lang/Object"), (0, u "<init>"), (0, u "()V"), (7, .class_ 16), (1, u "java/util/Arrays"), (57, .class_ 76), (1, u "java/util/Arrays$NaturalOrder"), (36, .class_ 115), (1, u "java/util/Arrays$LegacyMergeSort"), (1, u "Z"), (257, .class_ 376), (0, u "java/util/Arrays$ArrayList"), (68, u "$assertionsDisabled"), (269, u "MIN_ARRAY_SORT_GRAN"), (0, u "I"), (2, u "INSERTIONSORT_THRESHOLD"), (120, u "fill"), (4, u "([II)V"), (129, .class_ 976), (0, u "java/util/Arrays$ArrayItr")] 52

def k9m0 : Method := { name := "<init>", desc := "()V", sig := { parameters := [], returnType := none }, accessFlags := 2, code := none }
def k9c1 : Code := { maxStack := 3, maxLocals := 4, code := jdk_65_method_103_code, exceptionTable := #[], attributes := #[] }
def k9m1 : Method := { name := "fill", desc := "([II)V", sig := { parameters := [(.array .int), .int], returnType := none }, accessFlags := 9, code := some k9c1 }
/-- java/util/Arrays -/
def k9 : Class := { plain "java/util/Arrays" (some 0) with
  accessFlags := 49
  interfaces := #[]
  cf := some (fileOf pool9 14 #[.nestMembers #[975, 375, 113, 74]] #[{ accessFlags := 2, nameIndex := 5, descriptorIndex := 6, attributes := #[] }, { accessFlags := 9, nameIndex := 840, descriptorIndex := 845, attributes := #[] }] 49 2 #[] #[{ accessFlags := 26, nameIndex := 715, descriptorIndex := 716, attributes := #[] }, { accessFlags := 26, nameIndex := 719, descriptorIndex := 716, attributes := #[] }, { accessFlags := 4120, nameIndex := 445, descriptorIndex := 117, attributes := #[] }])
  fields := #[{ name := "MIN_ARRAY_SORT_GRAN", type := .int, accessFlags := 26, slot := 0, constantValue := 0 }, { name := "INSERTIONSORT_THRESHOLD", type := .int, accessFlags := 26, slot := 1, constantValue := 0 }, { name := "$assertionsDisabled", type := .boolean, accessFlags := 4120, slot := 2, constantValue := 0 }]
  methods := #[k9m0, k9m1]
  instanceTypes := #[]
  staticTypes := #[.int, .int, .boolean]
  resolved := Array.replicate 1029 none
  statics := none }

def pool10 : Array CpInfo := pool [(1, .class_ 2), (0, u "java/lang/Math"), (1, .class_ 6), (1, u "java/lang/Object"), (0, u "<init>"), (0, u "()V"), (89, .class_ 100), (1, u "java/lang/Math$RandomNumberGeneratorHolder"), (71, u "negativeZeroFloatBits"), (0, u "J"), (2, u "negativeZeroDoubleBits"), (21, u "max"), (2, u "min"), (43, u "$assertionsDisabled"), (0, u "Z"), (88, u "(II)I"), (2, u "twoToTheDoubleScaleDown"), (0, u "D"), (4, u "twoToTheDoubleScaleUp"), (9, u "E"), (3, u "PI"), (2, u "TAU"), (2, u "DEGREES_TO_RADIANS"), (0, u "RADIANS_TO_DEGREES")] 94

def k10m0 : Method := { name := "<init>", desc := "()V", sig := { parameters := [], returnType := none }, accessFlags := 2, code := none }
def k10c1 : Code := { maxStack := 2, maxLocals := 2, code := jdk_29_method_65_code, exceptionTable := #[], attributes := #[] }
def k10m1 : Method := { name := "max", desc := "(II)I", sig := { parameters := [.int, .int], returnType := some .int }, accessFlags := 9, code := some k10c1 }
def k10c2 : Code := { maxStack := 2, maxLocals := 2, code := jdk_29_method_69_code, exceptionTable := #[], attributes := #[] }
def k10m2 : Method := { name := "min", desc := "(II)I", sig := { parameters := [.int, .int], returnType := some .int }, accessFlags := 9, code := some k10c2 }
/-- java/lang/Math -/
def k10 : Class := { plain "java/lang/Math" (some 0) with
  accessFlags := 49
  interfaces := #[]
  cf := some (fileOf pool10 1 #[.nestMembers #[98]] #[{ accessFlags := 2, nameIndex := 7, descriptorIndex := 8, attributes := #[] }, { accessFlags := 9, nameIndex := 198, descriptorIndex := 335, attributes := #[] }, { accessFlags := 9, nameIndex := 201, descriptorIndex := 335, attributes := #[] }] 49 4 #[] #[{ accessFlags := 25, nameIndex := 354, descriptorIndex := 339, attributes := #[] }, { accessFlags := 25, nameIndex := 358, descriptorIndex := 339, attributes := #[] }, { accessFlags := 25, nameIndex := 361, descriptorIndex := 339, attributes := #[] }, { accessFlags := 26, nameIndex := 364, descriptorIndex := 339, attributes := #[] }, { accessFlags := 26, nameIndex := 365, descriptorIndex := 339, attributes := #[] }, { accessFlags := 26, nameIndex := 172, descriptorIndex := 173, attributes := #[] }, { accessFlags := 26, nameIndex := 176, descriptorIndex := 173, attributes := #[] }, { accessFlags := 8, nameIndex := 344, descriptorIndex := 339, attributes := #[] }, { accessFlags := 8, nameIndex := 338, descriptorIndex := 339, attributes := #[] }, { accessFlags := 4120, nameIndex := 245, descriptorIndex := 246, attributes := #[] }])
  fields := #[{ name := "E", type := .double, accessFlags := 25, slot := 0, constantValue := 0 }, { name := "PI", type := .double, accessFlags := 25, slot := 1, constantValue := 0 }, { name := "TAU", type := .double, accessFlags := 25, slot := 2, constantValue := 0 }, { name := "DEGREES_TO_RADIANS", type := .double, accessFlags := 26, slot := 3, constantValue := 0 }, { name := "RADIANS_TO_DEGREES", type := .double, accessFlags := 26, slot := 4, constantValue := 0 }, { name := "negativeZeroFloatBits", type := .long, accessFlags := 26, slot := 5, constantValue := 0 }, { name := "negativeZeroDoubleBits", type := .long, accessFlags := 26, slot := 6, constantValue := 0 }, { name := "twoToTheDoubleScaleUp", type := .double, accessFlags := 8, slot := 7, constantValue := 0 }, { name := "twoToTheDoubleScaleDown", type := .double, accessFlags := 8, slot := 8, constantValue := 0 }, { name := "$assertionsDisabled", type := .boolean, accessFlags := 4120, slot := 9, constantValue := 0 }]
  methods := #[k10m0, k10m1, k10m2]
  instanceTypes := #[]
  staticTypes := #[.double, .double, .double, .double, .double, .long, .long, .double, .double, .boolean]
  resolved := Array.replicate 460 none
  statics := none }

def pool11 : Array CpInfo := pool [(1, u "java/lang/Cloneable"), (0, .class_ 1), (0, u "java/lang/Object"), (0, .class_ 3)] 3

/-- java/lang/Cloneable -/
def k11 : Class := { plain "java/lang/Cloneable" (some 0) with
  accessFlags := 1537
  interfaces := #[]
  cf := some (fileOf pool11 2 #[] #[] 1537 4 #[] #[])
  fields := #[]
  methods := #[]
  instanceTypes := #[]
  staticTypes := #[]
  resolved := Array.replicate 8 none
  statics := none }

/-- the primitive byte -/
def k12 : Class := { plain "byte" none with kind := .primitive 'B', accessFlags := 0x411 }
/-- [B -/
def k13 : Class := { plain "[B" (some 0) with kind := .array 12 .byte, interfaces := #[11, 3], accessFlags := 1041 }

/-- the primitive double -/
def k14 : Class := { plain "double" none with kind := .primitive 'D', accessFlags := 0x411 }
/-- [D -/
def k15 : Class := { plain "[D" (some 0) with kind := .array 14 .double, interfaces := #[11, 3], accessFlags := 1041 }

/-- the primitive int -/
def k16 : Class := { plain "int" none with kind := .primitive 'I', accessFlags := 0x411 }
/-- [I -/
def k17 : Class := { plain "[I" (some 0) with kind := .array 16 .int, interfaces := #[11, 3], accessFlags := 1041 }

/-- the primitive long -/
def k18 : Class := { plain "long" none with kind := .primitive 'J', accessFlags := 0x411 }
/-- [J -/
def k19 : Class := { plain "[J" (some 0) with kind := .array 18 .long, interfaces := #[11, 3], accessFlags := 1041 }

def heap : Heap := #[]
def classes : Array Class := #[k0, k1, k2, k3, k4, k5, k6, k7, k8, k9, k10, k11, k12, k13, k14, k15, k16, k17, k18, k19]
def interned : List (Array UInt16 × Addr) := []
def slotsUsed : Nat := 0
def theMethod : MethodId := ⟨1, 1⟩
def args0 : Array Value := #[.int 5, .int 7, .int 3, .int 9, .int 1]
def aboutOver (below : List Frame) : State where
  vm := { classes := classes, interned := interned.toArray }
  heap := heap
  slotsUsed := slotsUsed
  threads := #[{ frames := .invoking theMethod args0 :: below }]
def below0 : List Frame := [.native { method := ⟨0, 0⟩, args := #[] }]
def about1 : State := aboutOver below0
def p0 : Program := .bare "" "" ""
def e0 : Env := launch0.env 0 0 0
theorem w_frames : about1.frames = Frame.invoking theMethod args0 :: below0 := rfl
set_option maxRecDepth 65536 in
theorem w_args : argsFit about1.vm theMethod args0 = true := by decide +kernel
set_option maxRecDepth 65536 in
theorem w_heap : heapFits about1 = true := by decide +kernel
set_option maxRecDepth 65536 in
theorem w_runnable : about1.curStatus? = some .runnable := by decide +kernel
set_option maxRecDepth 65536 in
theorem w_alone : about1.alone = true := by decide +kernel
set_option maxRecDepth 65536 in
theorem w_named : about1.methodNamed? x = some theMethod := by decide +kernel
set_option maxRecDepth 65536 in
theorem w_hears : about1.hears theMethod below0 = true := by decide +kernel
set_option maxRecDepth 65536 in
theorem w_ripe : about1.ripe theMethod args0 below0 = true := by decide +kernel
theorem w_running : about1.status = .running := rfl
set_option maxRecDepth 65536 in
theorem w_room : about1.hasRoom e0.platform room_1 = true :=
  launch0.hasRoom_least _ room_1 (by decide +kernel) (by decide +kernel) (by decide +kernel) (by decide +kernel) (by decide +kernel) (by decide +kernel)
theorem allAtoms_all (ts : List Jvm.Cond) (a : Array Jvm.Value) (st : Jvm.State) : (allAtoms ts).before a st = ts.all (fun c => c.before a st) := by
  induction ts with
  | nil => rfl
  | cons c t ih =>
    show (Jvm.Cond.and c (allAtoms t)).before a st = _
    rw [Jvm.Cond.before_and, ih, List.all_cons]
def words1 : List Jvm.Cond := Jvm.Cond.code x code maxLocals ret :: tables_1
/-- a 'code' word, met by the world's own term for the bytes: nothing is compared byte by byte -/
theorem code_word {y : MethodName} {bytes : ByteArray} {mx : Nat} {rt : Option FieldType} {a : Array Value} {s : State} {m : MethodId} {meth : Method} {c : Code} (h1 : s.methodNamed? y = some m) (h2 : s.vm.method? m = some meth) (h3 : meth.code = some c) (h4 : c.code = bytes)
    (h5 : (c.maxLocals == mx && c.exceptionTable.isEmpty && decide (c.maxStack ≤ mostOperands) && decide (meth.sig.returnType = rt) && !meth.locks && decide (parseMethodDescriptor y.desc = some meth.sig)) = true) : (Jvm.Cond.code y bytes mx rt).before a s = true := by
  simp only [Bool.and_eq_true, beq_iff_eq, Bool.not_eq_true', decide_eq_true_eq] at h5
  obtain ⟨⟨⟨⟨⟨g1, g2⟩, g3⟩, g4⟩, g5⟩, g6⟩ := h5
  simp [Cond.before, Cond.holds, Cond.value, h1, h2, h3, h4, g1, g2, g3, g4, g5, g6]
def isCode : Jvm.Cond → Bool
  | .code _ _ _ _ => true
  | _ => false
theorem all_split {L : List Jvm.Cond} {P : Jvm.Cond → Bool} (h1 : L.all (fun c => isCode c || P c) = true) (h2 : ∀ c ∈ L.filter isCode, P c = true) : L.all P = true := by
  refine List.all_eq_true.mpr fun c hc => ?_
  have h := List.all_eq_true.mp h1 c hc
  rcases Bool.eq_false_or_eq_true (isCode c) with hi | hi
  · exact h2 c (List.mem_filter.mpr ⟨hc, hi⟩)
  · simpa [hi] using h
set_option maxRecDepth 65536 in
theorem w_c0 : (Jvm.Cond.code x code maxLocals ret).before args0 about1 = true := code_word (m := ⟨1, 1⟩) (meth := k1m1) (c := k1c1) (by decide +kernel) rfl rfl rfl (by decide +kernel)
set_option maxRecDepth 65536 in
theorem w_c1 : (Jvm.Cond.code ({ cls := "com/example/ranksieve/ranksieve/model/SortedColumn", name := "<init>", desc := "([DII)V" } : Jvm.MethodName) prog_69_method_1_code (4 : Nat) (Option.none : Option Jvm.ClassFile.FieldType)).before args0 about1 = true := code_word (m := ⟨2, 0⟩) (meth := k2m0) (c := k2c0) (by decide +kernel) rfl rfl rfl (by decide +kernel)
set_option maxRecDepth 65536 in
theorem w_c2 : (Jvm.Cond.code ({ cls := "java/lang/Object", name := "<init>", desc := "()V" } : Jvm.MethodName) object_method_1_code (1 : Nat) (Option.none : Option Jvm.ClassFile.FieldType)).before args0 about1 = true := code_word (m := ⟨0, 0⟩) (meth := k0m0) (c := k0c0) (by decide +kernel) rfl rfl rfl (by decide +kernel)
set_option maxRecDepth 65536 in
theorem w_c3 : (Jvm.Cond.code ({ cls := "com/example/ranksieve/ranksieve/model/SortedColumn", name := "sortRows", desc := "([DII)[I" } : Jvm.MethodName) prog_69_method_9_code (13 : Nat) (Option.some (Jvm.ClassFile.FieldType.array Jvm.ClassFile.FieldType.int))).before args0 about1 = true := code_word (m := ⟨2, 2⟩) (meth := k2m2) (c := k2c2) (by decide +kernel) rfl rfl rfl (by decide +kernel)
set_option maxRecDepth 65536 in
theorem w_c4 : (Jvm.Cond.code ({ cls := "com/example/ranksieve/ranksieve/model/SortedColumn", name := "orderedBits", desc := "(D)J" } : Jvm.MethodName) prog_69_method_10_code (4 : Nat) (Option.some Jvm.ClassFile.FieldType.long)).before args0 about1 = true := code_word (m := ⟨2, 3⟩) (meth := k2m3) (c := k2c3) (by decide +kernel) rfl rfl rfl (by decide +kernel)
set_option maxRecDepth 65536 in
theorem w_c5 : (Jvm.Cond.code ({ cls := "java/lang/Double", name := "doubleToLongBits", desc := "(D)J" } : Jvm.MethodName) jdk_117_method_23_code (2 : Nat) (Option.some Jvm.ClassFile.FieldType.long)).before args0 about1 = true := code_word (m := ⟨8, 1⟩) (meth := k8m1) (c := k8c1) (by decide +kernel) rfl rfl rfl (by decide +kernel)
set_option maxRecDepth 65536 in
theorem w_c6 : (Jvm.Cond.code ({ cls := "java/lang/Double", name := "isNaN", desc := "(D)Z" } : Jvm.MethodName) jdk_117_method_6_code (2 : Nat) (Option.some Jvm.ClassFile.FieldType.boolean)).before args0 about1 = true := code_word (m := ⟨8, 0⟩) (meth := k8m0) (c := k8c0) (by decide +kernel) rfl rfl rfl (by decide +kernel)
set_option maxRecDepth 65536 in
theorem w_c7 : (Jvm.Cond.code ({ cls := "java/util/Arrays", name := "fill", desc := "([II)V" } : Jvm.MethodName) jdk_65_method_103_code (4 : Nat) (Option.none : Option Jvm.ClassFile.FieldType)).before args0 about1 = true := code_word (m := ⟨9, 1⟩) (meth := k9m1) (c := k9c1) (by decide +kernel) rfl rfl rfl (by decide +kernel)
set_option maxRecDepth 65536 in
theorem w_c8 : (Jvm.Cond.code ({ cls := "com/example/ranksieve/ranksieve/model/SortedColumn", name := "digit", desc := "(JI)I" } : Jvm.MethodName) prog_69_method_11_code (3 : Nat) (Option.some Jvm.ClassFile.FieldType.int)).before args0 about1 = true := code_word (m := ⟨2, 4⟩) (meth := k2m4) (c := k2c4) (by decide +kernel) rfl rfl rfl (by decide +kernel)
set_option maxRecDepth 65536 in
theorem w_c9 : (Jvm.Cond.code ({ cls := "java/lang/Math", name := "min", desc := "(II)I" } : Jvm.MethodName) jdk_29_method_69_code (2 : Nat) (Option.some Jvm.ClassFile.FieldType.int)).before args0 about1 = true := code_word (m := ⟨10, 2⟩) (meth := k10m2) (c := k10c2) (by decide +kernel) rfl rfl rfl (by decide +kernel)
set_option maxRecDepth 65536 in
theorem w_c10 : (Jvm.Cond.code ({ cls := "java/lang/Math", name := "max", desc := "(II)I" } : Jvm.MethodName) jdk_29_method_65_code (2 : Nat) (Option.some Jvm.ClassFile.FieldType.int)).before args0 about1 = true := code_word (m := ⟨10, 1⟩) (meth := k10m1) (c := k10c1) (by decide +kernel) rfl rfl rfl (by decide +kernel)
set_option maxRecDepth 65536 in
theorem w_c11 : (Jvm.Cond.code ({ cls := "com/example/ranksieve/ranksieve/model/SortedColumn", name := "getValue", desc := "(I)D" } : Jvm.MethodName) prog_69_method_4_code (2 : Nat) (Option.some Jvm.ClassFile.FieldType.double)).before args0 about1 = true := code_word (m := ⟨2, 1⟩) (meth := k2m1) (c := k2c1) (by decide +kernel) rfl rfl rfl (by decide +kernel)
def codes1 : List Jvm.Cond := [Jvm.Cond.code x code maxLocals ret, Jvm.Cond.code ({ cls := "com/example/ranksieve/ranksieve/model/SortedColumn", name := "<init>", desc := "([DII)V" } : Jvm.MethodName) prog_69_method_1_code (4 : Nat) (Option.none : Option Jvm.ClassFile.FieldType), Jvm.Cond.code ({ cls := "java/lang/Object", name := "<init>", desc := "()V" } : Jvm.MethodName) object_method_1_code (1 : Nat) (Option.none : Option Jvm.ClassFile.FieldType), Jvm.Cond.code ({ cls := "com/example/ranksieve/ranksieve/model/SortedColumn", name := "sortRows", desc := "([DII)[I" } : Jvm.MethodName) prog_69_method_9_code (13 : Nat) (Option.some (Jvm.ClassFile.FieldType.array Jvm.ClassFile.FieldType.int)), Jvm.Cond.code ({ cls := "com/example/ranksieve/ranksieve/model/SortedColumn", name := "orderedBits", desc := "(D)J" } : Jvm.MethodName) prog_69_method_10_code (4 : Nat) (Option.some Jvm.ClassFile.FieldType.long), Jvm.Cond.code ({ cls := "java/lang/Double", name := "doubleToLongBits", desc := "(D)J" } : Jvm.MethodName) jdk_117_method_23_code (2 : Nat) (Option.some Jvm.ClassFile.FieldType.long), Jvm.Cond.code ({ cls := "java/lang/Double", name := "isNaN", desc := "(D)Z" } : Jvm.MethodName) jdk_117_method_6_code (2 : Nat) (Option.some Jvm.ClassFile.FieldType.boolean), Jvm.Cond.code ({ cls := "java/util/Arrays", name := "fill", desc := "([II)V" } : Jvm.MethodName) jdk_65_method_103_code (4 : Nat) (Option.none : Option Jvm.ClassFile.FieldType), Jvm.Cond.code ({ cls := "com/example/ranksieve/ranksieve/model/SortedColumn", name := "digit", desc := "(JI)I" } : Jvm.MethodName) prog_69_method_11_code (3 : Nat) (Option.some Jvm.ClassFile.FieldType.int), Jvm.Cond.code ({ cls := "java/lang/Math", name := "min", desc := "(II)I" } : Jvm.MethodName) jdk_29_method_69_code (2 : Nat) (Option.some Jvm.ClassFile.FieldType.int), Jvm.Cond.code ({ cls := "java/lang/Math", name := "max", desc := "(II)I" } : Jvm.MethodName) jdk_29_method_65_code (2 : Nat) (Option.some Jvm.ClassFile.FieldType.int), Jvm.Cond.code ({ cls := "com/example/ranksieve/ranksieve/model/SortedColumn", name := "getValue", desc := "(I)D" } : Jvm.MethodName) prog_69_method_4_code (2 : Nat) (Option.some Jvm.ClassFile.FieldType.double)]
set_option maxRecDepth 65536 in
theorem codes_eq : words1.filter isCode = codes1 := rfl
theorem w_codes : ∀ c ∈ words1.filter isCode, c.before args0 about1 = true := by
  rw [codes_eq]
  intro c hc
  simp only [codes1, List.mem_cons, List.not_mem_nil, or_false] at hc
  rcases hc with rfl | rfl | rfl | rfl | rfl | rfl | rfl | rfl | rfl | rfl | rfl | rfl
  · exact w_c0
  · exact w_c1
  · exact w_c2
  · exact w_c3
  · exact w_c4
  · exact w_c5
  · exact w_c6
  · exact w_c7
  · exact w_c8
  · exact w_c9
  · exact w_c10
  · exact w_c11
set_option maxRecDepth 65536 in
theorem w_t1 : (words1.take 24).all (fun c => isCode c || c.before args0 about1) = true := by decide +kernel
set_option maxRecDepth 65536 in
theorem w_t2 : ((words1.drop 24).take 24).all (fun c => isCode c || c.before args0 about1) = true := by decide +kernel
set_option maxRecDepth 65536 in
theorem w_t3 : ((words1.drop 24).drop 24).all (fun c => isCode c || c.before args0 about1) = true := by decide +kernel
theorem w_tables : (allAtoms (Jvm.Cond.code x code maxLocals ret :: tables_1)).before args0 about1 = true := by
  rw [allAtoms_all]
  show words1.all (fun c => c.before args0 about1) = true
  refine all_split ?_ w_codes
  rw [← List.take_append_drop 24 words1, List.all_append, w_t1, ← List.take_append_drop 24 (words1.drop 24), List.all_append, w_t2, w_t3]
  rfl
set_option maxRecDepth 65536 in
theorem w_case : (Jvm.Cond.and given_1 narrow_1).before args0 about1 = true := by decide +kernel
theorem w_applies : (headSpec (Jvm.Cond.code x code maxLocals ret :: tables_1) room_1).applies x e0.platform about1 = true :=
  (Spec.applies_iff w_frames).mpr ⟨w_running, w_runnable, w_alone, w_named, w_hears, w_ripe, w_room, w_tables⟩
theorem atStart : AtStart classFile x code maxLocals ret World_1 tables_1 room_1 Calls_1 rest_1 Pre_1 launch0 p0 e0 about1 theMethod args0 below0 :=
  ⟨lists_1, trivial, launch0.admits_env _ _ _, launch0.least_env, fairChoices_fair.cas, fairChoices_fair.clock, w_frames, w_args, w_heap, w_applies, trivial, trivial, w_case⟩
end start1
theorem witness_1 : WitnessClaimed_1 := ⟨start1.p0, start1.e0, start1.about1, start1.theMethod, start1.args0, start1.below0, start1.atStart⟩
end Jvm.Pilot.@@N@@
