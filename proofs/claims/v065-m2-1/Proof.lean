import JvmDerived
import JvmDerived.Pilot.@@N@@Statement
import JvmDerived.Pilot.@@N@@Code
set_option linter.unusedVariables false
set_option linter.unusedSimpArgs false
namespace Jvm.Pilot.@@N@@
open Jvm Jvm.ClassFile Sem Op Lib Jvm.Free Jvm.Free.Fl Jvm.Stand Jvm.LawKit Jvm.RoadKit Bundle Jvm.Pilot.@@N@@.Jvm.D
def own_Go (tb : Tables) (e : Env) (below : List Frame) (P : State → Outcome → Prop) (S : State) : Prop := ∃ t o, Steps tb e below S t ∧ P t o
section OwnGo
variable {tb : Tables} {e : Env} {below : List Frame} {P : State → Outcome → Prop} {S S' : State}
theorem own_up (st : ∀ t, Steps tb e below S' t → Steps tb e below S t) (h : own_Go tb e below P S') : own_Go tb e below P S := by
  obtain ⟨t, o, h1, h2⟩ := h
  exact ⟨t, o, st t h1, h2⟩
theorem own_start (st : ∀ t, Steps tb e below S' t → Steps tb e below S t) (h : own_Go tb e below P S') : ∃ t o, Steps tb e below S t ∧ P t o := own_up st h
theorem own_end (h : ∃ t o, Steps tb e below S t ∧ P t o) : own_Go tb e below P S := h
end OwnGo
theorem own_eqi {args : Array Value} {first s : State} {o : Option Outcome} {idx : List Nat} {a : Term} {n : Int32} (h : (Jvm.Cond.eq a (Term.int n)).value args first o s idx = some true) : a.eval args first o idx s = some (.int n) := by
  obtain ⟨x, y, h1, h2, k1, k2⟩ := cmp_v (Or.inl h)
  have hb : (Term.int n).eval args first o idx s = some (.int n) := Term.int_eval n
  obtain rfl : y = .int n := Option.some.inj (h2.symm.trans hb)
  cases x with
  | int x =>
    have q := gotT (Cond.eq_ints h1 hb) h
    rw [h1, q]
  | _ => simp [Kin] at k1 k2
def own_Arf (Z : State) (h : Heap) (a : Addr) (ty : FieldType) (n : Int32) (f : Nat → Value) : Prop := ∃ c : Cell, Arr Z h a c ty ∧ c.slots.size = n.toNatClampNeg ∧ ¬ n < 0 ∧ ∀ i, i < c.slots.size → c.slots[i]? = some (f i)
section OwnArf
variable {p : Program} {l : Launch} {e : Env} {R : Room} {s : State} {m : MethodId} {args : Array Value} {below : List Frame} {meth : Method} {c : Code} {T : State} {locs : List Loc} {cells slots : Nat} {Z : State} {h h' : Heap} {a b : Addr} {ty : FieldType} {n j : Int32} {f : Nat → Value} {v : Value} {sl : Nat} {ws : List Addr}
theorem own_Arf.lt (F : own_Arf Z h a ty n f) : a < h.size := by obtain ⟨c, A, -⟩ := F; exact A.lt
theorem own_Arf.nn (F : own_Arf Z h a ty n f) : ¬ n < 0 := by obtain ⟨c, A, -, q, -⟩ := F; exact q
theorem own_Arf.ext (F : own_Arf Z h a ty n f) (E : Ext h h') : own_Arf Z h' a ty n f := by obtain ⟨c, A, r⟩ := F; exact ⟨c, A.ext E, r⟩
theorem own_Arf.other (F : own_Arf Z h b ty n f) (W : Wr h h' a sl v) (q : b ≠ a) : own_Arf Z h' b ty n f := by obtain ⟨c, A, r⟩ := F; exact ⟨c, A.other W q, r⟩
theorem own_Arf.keep (F : own_Arf Z h a ty n f) (K : Keep h h' ws) (q : a ∉ ws) : own_Arf Z h' a ty n f := by obtain ⟨c, A, r⟩ := F; exact ⟨c, ⟨K.2.1 a c A.1 q, A.2⟩, r⟩
theorem own_Arf.new {k : ClassId} (A : Arr Z h a (newA k ty n) ty) (q : ¬ n < 0) : own_Arf Z h a ty n (fun _ => defaultValue ty) :=
  ⟨_, A, sz_new _ _ _, q, fun i hi => by rw [sz_new] at hi; simp [newA, hi]⟩
theorem own_Arf.ofArv {k : ClassId} {vs : List Value} {d : Value} (F : Arv Z h a k ty n vs d) : own_Arf Z h a ty n (fun i => vs.getD i d) := by
  obtain ⟨c, A, -, S, q, H, -⟩ := F
  exact ⟨c, A, S, q, fun i hi => H i hi⟩
theorem own_Arf.congr {f' : Nat → Value} (F : own_Arf Z h a ty n f) (q : ∀ i, i < n.toNatClampNeg → f i = f' i) : own_Arf Z h a ty n f' := by
  obtain ⟨c, A, S, q1, H⟩ := F
  exact ⟨c, A, S, q1, fun i hi => by rw [H i hi, q i (S ▸ hi)]⟩
theorem own_Arf.set (F : own_Arf Z h a ty n f) (W : Wr h h' a j.toNatClampNeg v) : own_Arf Z h' a ty n (fun i => if i = j.toNatClampNeg then v else f i) := by
  obtain ⟨c, A, S, q, H⟩ := F
  refine ⟨_, A.same W, by rw [sz_set]; exact S, q, fun x hx => ?_⟩
  rw [sz_set] at hx
  by_cases u : x = j.toNatClampNeg
  · subst u; simp [Cell.setSlot, hx]
  · show _ = some (if x = j.toNatClampNeg then v else f x)
    rw [if_neg u]
    have := H x hx
    simp only [Cell.setSlot]
    rw [Array.getElem?_setIfInBounds_ne (Ne.symm u)]
    exact this
def own_upd {α : Type} (u : Nat → α) (j : Int32) (x : α) : Nat → α := fun i => if i = j.toNatClampNeg then x else u i
theorem own_Arf.setD {u : Nat → UInt64} {x : UInt64} (F : own_Arf Z h a .double n (fun i => .double (u i))) (W : Wr h h' a j.toNatClampNeg (.double x)) : own_Arf Z h' a .double n (fun i => .double (own_upd u j x i)) :=
  (own_Arf.set F W).congr fun i _ => by unfold own_upd; split <;> rfl
theorem own_Arf.setI {u : Nat → Int32} {x : Int32} (F : own_Arf Z h a ty n (fun i => .int (u i))) (W : Wr h h' a j.toNatClampNeg (.int x)) : own_Arf Z h' a ty n (fun i => .int (own_upd u j x i)) :=
  (own_Arf.set F W).congr fun i _ => by unfold own_upd; split <;> rfl
theorem own_Arf.setJ {u : Nat → Int64} {x : Int64} (F : own_Arf Z h a .long n (fun i => .long (u i))) (W : Wr h h' a j.toNatClampNeg (.long x)) : own_Arf Z h' a .long n (fun i => .long (own_upd u j x i)) :=
  (own_Arf.set F W).congr fun i _ => by unfold own_upd; split <;> rfl
theorem own_Arf.daload (F : own_Arf Z h a .double n f) (X : Stand p l e R s m args below meth c T locs cells slots) (hx : p.tables.exec = Jvm.exec) (hZ : Z.Warmed39 s.vm) (eT : T.heap = h) (hj : ¬ j < 0) (hn : j < n) (hv : f j.toNatClampNeg = v) {g : JFrame} (hg : g.method = m) {rest : List Value} (hs : g.stack = .int j :: .ref a :: rest) (hd : decode c.code g.pc = .ok (.daload, 1)) (target : State) (hr : Steps p.tables e below (T.setTop { g with pc := g.pc + 1, stack := v :: rest }) target) : Steps p.tables e below (T.setTop g) target := by
  obtain ⟨cl, A, S, q, H⟩ := F
  have hin := inb_of S ⟨hj, hn⟩
  exact X.daload hx (by rw [eT]; exact A.1) (State.isArrayOf_alike hZ.alike A.2.1) A.2.2 hin (by rw [H _ (Nat.lt_of_not_le fun y => hin (Or.inr y)), hv]) hg hs hd target hr
theorem own_Arf.iaload (F : own_Arf Z h a .int n f) (X : Stand p l e R s m args below meth c T locs cells slots) (hx : p.tables.exec = Jvm.exec) (hZ : Z.Warmed39 s.vm) (eT : T.heap = h) (hj : ¬ j < 0) (hn : j < n) (hv : f j.toNatClampNeg = v) {g : JFrame} (hg : g.method = m) {rest : List Value} (hs : g.stack = .int j :: .ref a :: rest) (hd : decode c.code g.pc = .ok (.iaload, 1)) (target : State) (hr : Steps p.tables e below (T.setTop { g with pc := g.pc + 1, stack := v :: rest }) target) : Steps p.tables e below (T.setTop g) target := by
  obtain ⟨cl, A, S, q, H⟩ := F
  have hin := inb_of S ⟨hj, hn⟩
  exact X.iaload hx (by rw [eT]; exact A.1) (State.isArrayOf_alike hZ.alike A.2.1) A.2.2 hin (by rw [H _ (Nat.lt_of_not_le fun y => hin (Or.inr y)), hv]) hg hs hd target hr
theorem own_Arf.laload (F : own_Arf Z h a .long n f) (X : Stand p l e R s m args below meth c T locs cells slots) (hx : p.tables.exec = Jvm.exec) (hZ : Z.Warmed39 s.vm) (eT : T.heap = h) (hj : ¬ j < 0) (hn : j < n) (hv : f j.toNatClampNeg = v) {g : JFrame} (hg : g.method = m) {rest : List Value} (hs : g.stack = .int j :: .ref a :: rest) (hd : decode c.code g.pc = .ok (.laload, 1)) (target : State) (hr : Steps p.tables e below (T.setTop { g with pc := g.pc + 1, stack := v :: rest }) target) : Steps p.tables e below (T.setTop g) target := by
  obtain ⟨cl, A, S, q, H⟩ := F
  have hin := inb_of S ⟨hj, hn⟩
  exact X.laload hx (by rw [eT]; exact A.1) (State.isArrayOf_alike hZ.alike A.2.1) A.2.2 hin (by rw [H _ (Nat.lt_of_not_le fun y => hin (Or.inr y)), hv]) hg hs hd target hr
theorem own_Arf.aaload (F : own_Arf Z h a ty n f) (hty : ty.isReference = true) (X : Stand p l e R s m args below meth c T locs cells slots) (hx : p.tables.exec = Jvm.exec) (hZ : Z.Warmed39 s.vm) (eT : T.heap = h) (hj : ¬ j < 0) (hn : j < n) (hv : f j.toNatClampNeg = v) {g : JFrame} (hg : g.method = m) {rest : List Value} (hs : g.stack = .int j :: .ref a :: rest) (hd : decode c.code g.pc = .ok (.aaload, 1)) (target : State) (hr : Steps p.tables e below (T.setTop { g with pc := g.pc + 1, stack := v :: rest }) target) : Steps p.tables e below (T.setTop g) target := by
  obtain ⟨cl, A, S, q, H⟩ := F
  have hin := inb_of S ⟨hj, hn⟩
  exact X.aaload hx (by rw [eT]; exact A.1) (State.isArrayOf_alike hZ.alike A.2.1) hty A.2.2 hin (by rw [H _ (Nat.lt_of_not_le fun y => hin (Or.inr y)), hv]) hg hs hd target hr
theorem own_Arf.alen (F : own_Arf Z h a ty n f) (X : Stand p l e R s m args below meth c T locs cells slots) (hx : p.tables.exec = Jvm.exec) (hZ : Z.Warmed39 s.vm) (eT : T.heap = h) {g : JFrame} (hg : g.method = m) {rest : List Value} (hs : g.stack = .ref a :: rest) (hd : decode c.code g.pc = .ok (.arraylength, 1)) (target : State) (hr : Steps p.tables e below (T.setTop { g with pc := g.pc + 1, stack := .int n :: rest }) target) : Steps p.tables e below (T.setTop g) target := by
  obtain ⟨cl, A, S, q, H⟩ := F
  refine X.arraylength hx (by rw [eT]; exact A.1) (State.isArrayOf_alike hZ.alike A.2.1) hg hs hd target ?_
  rw [len_of S q]
  exact hr
end OwnArf
section OwnDiv
open Jvm.FP.Core
theorem own_qmin : b64.qmin = -1074 := by decide +kernel
theorem own_qmax : b64.qmax = 971 := by decide +kernel
/-- a whole double's digits, in units -/
theorem own_zm {N : Int} {x : UInt64} (h : DInt N x) : ∃ s c q, val64 x = .fin s c q ∧ c * 2 ^ (q - b64.qmin).toNat = N.natAbs * one64 ∧ b64.qmin ≤ q ∧ (N ≠ 0 → s = decide (N < 0)) ∧ (N = 0 → c = 0) := by
  have hf := val64_fits x
  unfold DInt at h
  cases hv : val64 x with
  | nan => rw [hv] at h; exact h.elim
  | inf s => rw [hv] at h; exact h.elim
  | fin s c q =>
    rw [hv] at h hf
    have hq : b64.qmin ≤ q := hf.2.1
    have hz := whole_zval good_b64 hf h
    have hz' : signed s (inUnits c q b64.qmin) = N * ((2 ^ (-b64.qmin).toNat : Nat) : Int) := hz
    rw [pow_qmin64] at hz'
    refine ⟨s, c, q, rfl, ?_, hq, fun h0 => whole_sign h h0, fun h0 => (whole_zero h).mpr h0⟩
    have := congrArg Int.natAbs hz'
    rw [natAbs_signed, Int.natAbs_mul, Int.natAbs_natCast] at this
    exact this
/-- a number of the format: n / 2^k -/
theorem own_V (n k : Nat) (h0 : 0 < n) (hn : n ≤ 2 ^ 53) (hk : k ≤ 900) : ∃ V, FP.Core.fits b64 V ∧ V ≠ .nan ∧ zmag b64 V * 2 ^ k = n * one64 := by
  obtain ⟨c, q, hfit, hv⟩ := natFit good_b64 wide_b64 false (n := n) (show n ≤ 2 ^ b64.p from hn)
  obtain ⟨f1, f2, f3, f4⟩ := hfit
  rw [own_qmin] at f2 f4
  rw [own_qmax] at f3
  have hp : b64.p = 53 := rfl
  rw [hp] at f1
  have hq : -53 < q := by
    refine Int.lt_of_not_ge fun hle => ?_
    have e1 : (q - 0).toNat = 0 := by omega
    rw [e1, Nat.pow_zero, Nat.mul_one, Nat.mul_one] at hv
    have e2 : 2 ^ 53 ≤ 2 ^ (0 - q).toNat := Nat.pow_le_pow_right (by decide) (by omega)
    have e3 : 1 * 2 ^ (0 - q).toNat ≤ n * 2 ^ (0 - q).toNat := Nat.mul_le_mul_right _ h0
    omega
  have hc : b64.tails ≤ c := by
    rcases f4 with f4 | f4
    · omega
    · exact f4
  refine ⟨.fin false c (q - (k : Int)), ⟨by rw [hp]; exact f1, by rw [own_qmin]; omega, by rw [own_qmax]; omega, Or.inr hc⟩, Datum.noConfusion, ?_⟩
  show c * 2 ^ (q - (k : Int) - b64.qmin).toNat * 2 ^ k = n * one64
  rw [Nat.mul_assoc, ← Nat.pow_add, ← pow_qmin64, own_qmin]
  have hv' : n * 2 ^ (-q).toNat = c * 2 ^ q.toNat := by
    rw [show (0 - q).toNat = (-q).toNat by omega, show (q - 0).toNat = q.toNat by omega, Nat.mul_one] at hv
    exact hv
  have e1 : (q - (k : Int) - -1074).toNat + k = q.toNat + ((-(-1074 : Int)).toNat - (-q).toNat) := by omega
  have e2 : (-(-1074 : Int)).toNat = (-q).toNat + ((-(-1074 : Int)).toNat - (-q).toNat) := by omega
  rw [e1, Nat.pow_add, ← Nat.mul_assoc, ← hv']
  generalize hm : (-(-1074 : Int)).toNat - (-q).toNat = d at e2
  rw [e2, Nat.pow_add, Nat.mul_assoc]
theorem own_quot {N B : Int} {x y : UInt64} (hx : DInt N x) (hy : DInt B y) (hB : 0 < B) : ∃ (c d : Nat) (q r : Int) (s : Bool), val64 (ddiv x y) = roundRatio b64 s c d (q - r) ∧ 0 < d ∧ b64.qmin ≤ q ∧ b64.qmin ≤ r ∧ c * 2 ^ (q - b64.qmin).toNat = N.natAbs * one64 ∧ d * 2 ^ (r - b64.qmin).toNat = B.natAbs * one64 ∧ (N ≠ 0 → s = decide (N < 0)) ∧ (N = 0 → c = 0) := by
  obtain ⟨s, c, q, e1, e2, e3, e4, e5⟩ := own_zm hx
  obtain ⟨t, d, r, f1, f2, f3, f4, f5⟩ := own_zm hy
  have ht : t = false := by rw [f4 (by omega)]; exact decide_eq_false (by omega)
  have hd : 0 < d := by
    refine Nat.pos_of_ne_zero fun h => ?_
    rw [h, Nat.zero_mul] at f2
    have := Nat.mul_pos (show 0 < B.natAbs by omega) one64_pos
    omega
  refine ⟨c, d, q, r, s, ?_, hd, e3, f3, e2, f2, e4, e5⟩
  rw [val64_ddiv, e1, f1, ht]
  show (if d = 0 then _ else roundRatio b64 (s != false) c d (q - r)) = _
  rw [if_neg (by omega), show (s != false) = s by cases s <;> rfl]
theorem own_sc1 (z E d k2 r2 n U B : Nat) (hz : z * k2 = n * U) (hd : d * r2 = B * U) : (z * E * d) * (k2 * r2) = n * B * (U * U * E) := by
  calc (z * E * d) * (k2 * r2) = (z * k2) * (d * r2) * E := by ac_rfl
    _ = n * B * (U * U * E) := by rw [hz, hd]; ac_rfl
theorem own_sc2 (c Q Rr q2 U E A k2 : Nat) (hQ : Q * Rr = q2 * (U * E)) (hc : c * q2 = A * U) : c * Q * (k2 * Rr) = A * k2 * (U * U * E) := by
  calc c * Q * (k2 * Rr) = c * (Q * Rr) * k2 := by ac_rfl
    _ = (c * q2) * (U * E) * k2 := by rw [hQ]; ac_rfl
    _ = A * k2 * (U * U * E) := by rw [hc]; ac_rfl
/-- the two ends of the step from rationals to units -/
theorem own_scale (c d n A B k : Nat) (q r e0 : Int) (z : Nat) (hr : b64.qmin ≤ r) (hq : b64.qmin ≤ q) (h0 : e0 ≤ b64.qmin) (h0e : e0 ≤ q - r)
    (hc : c * 2 ^ (q - b64.qmin).toNat = A * one64) (hd : d * 2 ^ (r - b64.qmin).toNat = B * one64) (hz : z * 2 ^ k = n * one64) :
    (z * 2 ^ (b64.qmin - e0).toNat * d) * (2 ^ k * 2 ^ (r - b64.qmin).toNat) = n * B * (one64 * one64 * 2 ^ (b64.qmin - e0).toNat) ∧
    (inUnits c (q - r) e0) * (2 ^ k * 2 ^ (r - b64.qmin).toNat) = A * 2 ^ k * (one64 * one64 * 2 ^ (b64.qmin - e0).toNat) := by
  refine ⟨own_sc1 _ _ _ _ _ _ _ _ hz hd, ?_⟩
  unfold inUnits
  refine own_sc2 _ _ _ _ _ _ _ _ ?_ hc
  have e1 : (q - r - e0).toNat + (r - b64.qmin).toNat = (q - b64.qmin).toNat + ((-b64.qmin).toNat + (b64.qmin - e0).toNat) := by
    rw [own_qmin] at *; omega
  rw [← pow_qmin64, ← Nat.pow_add, ← Nat.pow_add, ← Nat.pow_add, e1]
theorem own_M1 {N B : Int} {x y : UInt64} (hx : DInt N x) (hy : DInt B y) (hB : 0 < B) (n k : Nat) (hn : n ≤ 2 ^ 53) (hk : k ≤ 900) (h : n * B.natAbs ≤ N.natAbs * 2 ^ k) : n * one64 ≤ zmag b64 (val64 (ddiv x y)) * 2 ^ k := by
  by_cases h0 : n = 0
  · rw [h0, Nat.zero_mul]; exact Nat.zero_le _
  obtain ⟨V, hV, hVn, hz⟩ := own_V n k (by omega) hn hk
  obtain ⟨c, d, q, r, s, e1, e2, e3, e4, e5, e6, -, -⟩ := own_quot hx hy hB
  obtain ⟨e0, g1, g2⟩ : ∃ e0 : Int, e0 ≤ b64.qmin ∧ e0 ≤ q - r := ⟨min b64.qmin (q - r), by omega, by omega⟩
  obtain ⟨s1, s2⟩ := own_scale c d n N.natAbs B.natAbs k q r e0 (zmag b64 V) e4 e3 g1 g2 e5 e6 hz
  rw [e1, ← hz]
  refine Nat.mul_le_mul_right _ (zmag_roundRatio_ge good_b64 e2 hV g1 g2 ?_)
  refine Nat.le_of_mul_le_mul_right ?_ (Nat.mul_pos (Nat.two_pow_pos k) (Nat.two_pow_pos (r - b64.qmin).toNat))
  rw [s1, s2]
  exact Nat.mul_le_mul_right _ h
theorem own_M2 {N B : Int} {x y : UInt64} (hx : DInt N x) (hy : DInt B y) (hB : 0 < B) (n k : Nat) (hn : n ≤ 2 ^ 53) (hn0 : 0 < n) (hk : k ≤ 900) (h : N.natAbs * 2 ^ k ≤ n * B.natAbs) : zmag b64 (val64 (ddiv x y)) * 2 ^ k ≤ n * one64 := by
  obtain ⟨V, hV, hVn, hz⟩ := own_V n k hn0 hn hk
  obtain ⟨c, d, q, r, s, e1, e2, e3, e4, e5, e6, -, -⟩ := own_quot hx hy hB
  obtain ⟨e0, g1, g2⟩ : ∃ e0 : Int, e0 ≤ b64.qmin ∧ e0 ≤ q - r := ⟨min b64.qmin (q - r), by omega, by omega⟩
  obtain ⟨s1, s2⟩ := own_scale c d n N.natAbs B.natAbs k q r e0 (zmag b64 V) e4 e3 g1 g2 e5 e6 hz
  rw [e1, ← hz]
  refine Nat.mul_le_mul_right _ (zmag_roundRatio_le good_b64 e2 hV hVn g1 g2 ?_)
  refine Nat.le_of_mul_le_mul_right ?_ (Nat.mul_pos (Nat.two_pow_pos k) (Nat.two_pow_pos (r - b64.qmin).toNat))
  rw [s1, s2]
  exact Nat.mul_le_mul_right _ h
/-- the quotient's value: its sign is the dividend's; nought where that is nought -/
theorem own_sg {N B : Int} {x y : UInt64} (hx : DInt N x) (hy : DInt B y) (hB : 0 < B) : (0 ≤ N → zval b64 (val64 (ddiv x y)) = (zmag b64 (val64 (ddiv x y)) : Int)) ∧ (N ≤ 0 → zval b64 (val64 (ddiv x y)) = -(zmag b64 (val64 (ddiv x y)) : Int)) := by
  obtain ⟨c, d, q, r, s, e1, e2, e3, e4, e5, e6, e7, e8⟩ := own_quot hx hy hB
  by_cases hN : N = 0
  · have hc := e8 hN
    have hz : zmag b64 (val64 (ddiv x y)) = 0 := by
      rw [e1, hc]
      show zmag b64 (if 0 = 0 then .fin s 0 b64.qmin else _) = 0
      rw [if_pos rfl]
      show 0 * _ = 0
      rw [Nat.zero_mul]
    have hv : zval b64 (val64 (ddiv x y)) = 0 := by
      show signed _ (zmag b64 (val64 (ddiv x y))) = 0
      rw [hz, signed_zero]
    rw [hv, hz]
    exact ⟨fun _ => rfl, fun _ => rfl⟩
  · have hs := e7 hN
    have hv : zval b64 (val64 (ddiv x y)) = signed s (zmag b64 (val64 (ddiv x y))) := by
      show signed (sgn (val64 (ddiv x y))) _ = _
      rw [e1, sgn_roundRatio]
    rw [hv, hs]
    constructor
    · intro h
      rw [decide_eq_false (by omega)]; rfl
    · intro h
      rw [decide_eq_true (by omega)]; rfl
theorem own_lt {N B M : Int} {x y w : UInt64} (k : Nat) (hx : DInt N x) (hy : DInt B y) (hw : DInt M w) (hB : 0 < B) (hBk : B.natAbs ≤ 2 ^ k) (hk : k ≤ 900) (hM : M.natAbs * 2 ^ k + 1 ≤ 2 ^ 53) (h : M * B < N) : M * (one64 : Int) < zval b64 (val64 (ddiv x y)) := by
  have hone := one64_pos
  have hp := Nat.two_pow_pos k
  obtain ⟨s1, s2⟩ := own_sg hx hy hB
  have m1 := own_M1 hx hy hB (M.natAbs * 2 ^ k + 1) k hM hk
  have m2 := own_M2 hx hy hB (M.natAbs * 2 ^ k - 1) k (by omega)
  generalize zmag b64 (val64 (ddiv x y)) = z at *
  generalize 2 ^ k = P at *
  generalize one64 = U at *
  obtain ⟨Bn, hBn⟩ : ∃ b : Nat, B = (b : Int) := ⟨B.toNat, by omega⟩
  subst hBn
  rw [Int.natAbs_natCast] at *
  by_cases hN : 0 ≤ N
  · rw [s1 hN]
    by_cases hM0 : 0 ≤ M
    · obtain ⟨Mn, rfl⟩ : ∃ b : Nat, M = (b : Int) := ⟨M.toNat, by omega⟩
      obtain ⟨Nn, rfl⟩ : ∃ b : Nat, N = (b : Int) := ⟨N.toNat, by omega⟩
      simp only [Int.natAbs_natCast] at *
      have h1 : Mn * Bn + 1 ≤ Nn := by have := h; rw [← Int.natCast_mul] at this; omega
      have q := m1 (by
        calc (Mn * P + 1) * Bn = (Mn * Bn) * P + Bn := by rw [Nat.add_mul, Nat.one_mul]; ac_rfl
          _ ≤ (Mn * Bn) * P + P := by omega
          _ = (Mn * Bn + 1) * P := by rw [Nat.add_mul, Nat.one_mul]
          _ ≤ Nn * P := Nat.mul_le_mul_right _ h1)
      have q2 : Mn * U < z := by
        refine Nat.lt_of_mul_lt_mul_right (a := P) ?_
        calc Mn * U * P < Mn * U * P + U := by omega
          _ = (Mn * P + 1) * U := by rw [Nat.add_mul, Nat.one_mul]; ac_rfl
          _ ≤ z * P := q
      rw [← Int.natCast_mul]; omega
    · have : M * (U : Int) < 0 := Int.mul_neg_of_neg_of_pos (by omega) (by omega)
      omega
  · rw [s2 (by omega)]
    have hM0 : M < 0 := by
      refine Int.lt_of_not_ge fun hge => ?_
      have := Int.mul_nonneg hge (Int.natCast_nonneg Bn)
      omega
    obtain ⟨Mn, hMn⟩ : ∃ b : Nat, M = -(b : Int) := ⟨(-M).toNat, by omega⟩
    obtain ⟨Nn, hNn⟩ : ∃ b : Nat, N = -(b : Int) := ⟨(-N).toNat, by omega⟩
    subst hMn hNn
    simp only [Int.natAbs_neg, Int.natAbs_natCast] at *
    have h1 : Nn + 1 ≤ Mn * Bn := by rw [Int.neg_mul, ← Int.natCast_mul] at h; omega
    have hMp : 1 ≤ Mn := by omega
    have hMP : 1 * P ≤ Mn * P := Nat.mul_le_mul_right _ hMp
    have hn1 : Mn * P - 1 + 1 = Mn * P := by omega
    by_cases hz0 : Mn * P - 1 = 0
    · have hMU : U ≤ Mn * U := Nat.le_mul_of_pos_left _ hMp
      have hP1 : P = 1 := by
        have : P ≤ Mn * P := Nat.le_mul_of_pos_left _ hMp
        omega
      have hM1 : Mn = 1 := by rw [hP1, Nat.mul_one] at hz0; omega
      have hB1 : Bn ≤ 1 := by omega
      have hN0 : Nn = 0 := by rw [hM1, Nat.one_mul] at h1; omega
      omega
    · have q := m2 (by omega) hk (by
        refine Nat.le_of_add_le_add_right (b := Bn) ?_
        calc Nn * P + Bn ≤ Nn * P + P := by omega
          _ = (Nn + 1) * P := by rw [Nat.add_mul, Nat.one_mul]
          _ ≤ (Mn * Bn) * P := Nat.mul_le_mul_right _ h1
          _ = (Mn * P - 1 + 1) * Bn := by rw [hn1]; ac_rfl
          _ = (Mn * P - 1) * Bn + Bn := by rw [Nat.add_mul, Nat.one_mul])
      have q2 : z < Mn * U := by
        refine Nat.lt_of_mul_lt_mul_right (a := P) ?_
        calc z * P ≤ (Mn * P - 1) * U := q
          _ < (Mn * P - 1) * U + U := by omega
          _ = (Mn * P - 1 + 1) * U := by rw [Nat.add_mul, Nat.one_mul]
          _ = Mn * U * P := by rw [hn1]; ac_rfl
      rw [Int.neg_mul, ← Int.natCast_mul]; omega
theorem own_gt {N B M : Int} {x y w : UInt64} (k : Nat) (hx : DInt N x) (hy : DInt B y) (hw : DInt M w) (hB : 0 < B) (hBk : B.natAbs ≤ 2 ^ k) (hk : k ≤ 900) (hM : M.natAbs * 2 ^ k + 1 ≤ 2 ^ 53) (h : N < M * B) : zval b64 (val64 (ddiv x y)) < M * (one64 : Int) := by
  have q := own_lt k (dneg_int hx) hy (dneg_int hw) hB hBk hk (by rw [Int.natAbs_neg]; exact hM) (by rw [Int.neg_mul]; omega)
  rw [ddiv_dneg, val64_dneg, zval_negate, Int.neg_mul] at q
  omega
theorem own_eqq {N B M : Int} {x y : UInt64} (hx : DInt N x) (hy : DInt B y) (hB : 0 < B) (hM : M.natAbs ≤ 2 ^ 53) (h : N = M * B) : zval b64 (val64 (ddiv x y)) = M * (one64 : Int) := by
  obtain ⟨s1, s2⟩ := own_sg hx hy hB
  have hN : N.natAbs = M.natAbs * B.natAbs := by rw [h, Int.natAbs_mul]
  have m1 := own_M1 hx hy hB M.natAbs 0 hM (by omega) (by rw [hN, Nat.pow_zero, Nat.mul_one]; exact Nat.le_refl _)
  rw [Nat.pow_zero, Nat.mul_one] at m1
  have m2 : zmag b64 (val64 (ddiv x y)) ≤ M.natAbs * one64 := by
    by_cases h0 : M = 0
    · have hN0 : N = 0 := by rw [h, h0, Int.zero_mul]
      have a1 := s1 (by omega)
      have a2 := s2 (by omega)
      omega
    · have m2 := own_M2 hx hy hB M.natAbs 0 hM (by omega) (by omega) (by rw [hN, Nat.pow_zero, Nat.mul_one]; exact Nat.le_refl _)
      rw [Nat.pow_zero, Nat.mul_one] at m2
      exact m2
  have e : zmag b64 (val64 (ddiv x y)) = M.natAbs * one64 := Nat.le_antisymm m2 m1
  by_cases h0 : 0 ≤ M
  · rw [s1 (by rw [h]; exact Int.mul_nonneg h0 (by omega)), e, Int.natCast_mul]
    congr 1
    omega
  · have hneg : M * B < 0 := Int.mul_neg_of_neg_of_pos (by omega) hB
    rw [s2 (by omega), e, Int.natCast_mul, ← Int.neg_mul]
    congr 1
    omega
theorem own_ddivfin {N B : Int} {x y : UInt64} (hx : DInt N x) (hy : DInt B y) (hB : 0 < B) : val64 (ddiv x y) ≠ .nan := by
  obtain ⟨c, d, q, r, s, e1, -⟩ := own_quot hx hy hB
  rw [e1]
  rcases roundRatio_cases b64 s c d (q - r) with ⟨c', q', h⟩ | h <;> rw [h] <;> exact Datum.noConfusion
theorem own_dnn {M : Int} {w : UInt64} (hw : DInt M w) : val64 w ≠ .nan := by
  obtain ⟨s, c, q, h, -⟩ := own_zm hw
  rw [h]; exact Datum.noConfusion
theorem own_cv_lt {a b : UInt64} (o : CmpOp) (h : dcmp a b = some .lt) : cmpValue (FP.dcmp a b) o < 0 := by
  rw [show FP.dcmp a b = some .lt from h]; cases o <;> decide
theorem own_cv_eq {a b : UInt64} (o : CmpOp) (h : dcmp a b = some .eq) : cmpValue (FP.dcmp a b) o = 0 := by
  rw [show FP.dcmp a b = some .eq from h]; cases o <;> rfl
theorem own_c_lt {N B M : Int} {x y w : UInt64} (o : CmpOp) (k : Nat) (hx : DInt N x) (hy : DInt B y) (hw : DInt M w) (hB : 0 < B) (hBk : B.natAbs ≤ 2 ^ k) (hk : k ≤ 900) (hM : M.natAbs * 2 ^ k + 1 ≤ 2 ^ 53) (h : M * B < N) : cmpValue (FP.dcmp w (FP.ddiv x y)) o < 0 :=
  own_cv_lt o (dcmp_lt.mpr ⟨own_dnn hw, own_ddivfin hx hy hB, by rw [DInt_zval hw]; exact own_lt k hx hy hw hB hBk hk hM h⟩)
theorem own_c_gt {N B M : Int} {x y w : UInt64} (o : CmpOp) (k : Nat) (hx : DInt N x) (hy : DInt B y) (hw : DInt M w) (hB : 0 < B) (hBk : B.natAbs ≤ 2 ^ k) (hk : k ≤ 900) (hM : M.natAbs * 2 ^ k + 1 ≤ 2 ^ 53) (h : N < M * B) : cmpValue (FP.dcmp (FP.ddiv x y) w) o < 0 :=
  own_cv_lt o (dcmp_lt.mpr ⟨own_ddivfin hx hy hB, own_dnn hw, by rw [DInt_zval hw]; exact own_gt k hx hy hw hB hBk hk hM h⟩)
theorem own_c_eq {N B M : Int} {x y w : UInt64} (o : CmpOp) (hx : DInt N x) (hy : DInt B y) (hw : DInt M w) (hB : 0 < B) (hM : M.natAbs ≤ 2 ^ 53) (h : N = M * B) : cmpValue (FP.dcmp (FP.ddiv x y) w) o = 0 :=
  own_cv_eq o (dcmp_eq.mpr ⟨own_ddivfin hx hy hB, own_dnn hw, by rw [DInt_zval hw]; exact own_eqq hx hy hB hM h⟩)
end OwnDiv
section OwnShrink
open Jvm.FP.Core
theorem own_n {p n : Int32} (h : (p &&& (3 : Int32)) = n) : n = 0 ∨ n = 1 ∨ n = 2 ∨ n = 3 := by
  have h1 := c_mask p 3 2 (by decide) (by decide)
  rw [h] at h1
  have h2 : n.toInt = 0 ∨ n.toInt = 1 ∨ n.toInt = 2 ∨ n.toInt = 3 := by omega
  rcases h2 with h2 | h2 | h2 | h2
  · exact Or.inl (Int32.toInt_inj.mp (h2.trans (by decide)))
  · exact Or.inr (Or.inl (Int32.toInt_inj.mp (h2.trans (by decide))))
  · exact Or.inr (Or.inr (Or.inl (Int32.toInt_inj.mp (h2.trans (by decide)))))
  · exact Or.inr (Or.inr (Or.inr (Int32.toInt_inj.mp (h2.trans (by decide)))))
theorem own_k {d k : Int32} (h : (d &&& (15 : Int32)) + (1 : Int32) = k) : ∃ i : Fin 16, k = Int32.ofNat (i.1 + 1) := by
  have h1 := c_mask d 15 4 (by decide) (by decide)
  have h2 := c_iadd (d &&& 15) 1
  have h3 : (1 : Int32).toInt = 1 := by decide
  rw [h, h3, h1] at h2
  have := rng32 k
  have hk : 1 ≤ k.toInt ∧ k.toInt ≤ 16 := by omega
  refine ⟨⟨(k.toInt - 1).toNat, by omega⟩, Int32.toInt_inj.mp ?_⟩
  show k.toInt = (Int32.ofNat ((k.toInt - 1).toNat + 1)).toInt
  rw [Int32.toInt_ofNat_small (by omega)]
  omega
def own_isFin : Datum → Bool
  | .fin false _ _ => true
  | _ => false
theorem own_dec : ∀ i : Fin 16, zmag b64 (val64 (ddiv (i2d (Int32.ofNat (i.1 + 1))) 4625196817309499392)) * 16 = (i.1 + 1) * one64 ∧ own_isFin (val64 (ddiv (i2d (Int32.ofNat (i.1 + 1))) 4625196817309499392)) = true := by decide +kernel
theorem own_16 : DInt 16 (4625196817309499392 : UInt64) := by
  have h : FP.Core.i2d 16 = 4625196817309499392 := by decide +kernel
  have := FP.Core.i2d_int 16
  rw [h] at this
  exact this
theorem own_exp {n : Int} {x : UInt64} (hx : DInt n x) (hn : n.natAbs ≤ 2 ^ 53) : zmag b64 (val64 (ddiv x 4625196817309499392)) * 16 = n.natAbs * one64 := by
  have m1 := own_M1 hx own_16 (by decide) n.natAbs 4 hn (by decide) (Nat.le_refl _)
  have m2 : zmag b64 (val64 (ddiv x 4625196817309499392)) * 2 ^ 4 ≤ n.natAbs * one64 := by
    by_cases h0 : n = 0
    · obtain ⟨s1, s2⟩ := own_sg hx own_16 (by decide)
      have a1 := s1 (by omega)
      have a2 := s2 (by omega)
      have : zmag b64 (val64 (ddiv x 4625196817309499392)) = 0 := by omega
      rw [this, Nat.zero_mul]; exact Nat.zero_le _
    · exact own_M2 hx own_16 (by decide) n.natAbs 4 hn (by omega) (by decide) (Nat.le_refl _)
  exact Nat.le_antisymm m2 m1
theorem own_sc3 (c d Qe E2 q2 r2 A K U z P1 : Nat) (x1 : Qe * E2 = q2 * r2) (x2 : P1 * E2 = U) (e2 : c * q2 = A * U) (hy : d * r2 * 16 = K * U) (he : z * 16 = A * K * U) : c * d * Qe * (E2 * 16) = z * P1 * (E2 * 16) := by
  calc c * d * Qe * (E2 * 16) = c * d * (Qe * E2) * 16 := by ac_rfl
    _ = (c * q2) * (d * r2 * 16) := by rw [x1]; ac_rfl
    _ = (A * K * U) * U := by rw [e2, hy]; ac_rfl
    _ = (z * 16) * (P1 * E2) := by rw [he, x2]
    _ = z * P1 * (E2 * 16) := by ac_rfl
theorem own_prod {A : Int} {K : Nat} {x y e : UInt64} (hx : DInt A x) (hy : zmag b64 (val64 y) * 16 = K * one64) (hyf : own_isFin (val64 y) = true) (he : zmag b64 (val64 e) * 16 = A.natAbs * K * one64) (hes : (0 ≤ A → zval b64 (val64 e) = (zmag b64 (val64 e) : Int)) ∧ (A ≤ 0 → zval b64 (val64 e) = -(zmag b64 (val64 e) : Int))) (hen : val64 e ≠ .nan) :
    zval b64 (val64 (dmul x y)) = zval b64 (val64 e) := by
  obtain ⟨s, c, q, e1, e2, e3, e4, e5⟩ := own_zm hx
  have hfy := val64_fits y
  cases hv : val64 y with
  | nan => rw [hv] at hyf; exact Bool.noConfusion hyf
  | inf t => rw [hv] at hyf; exact Bool.noConfusion hyf
  | fin t d r =>
    rw [hv] at hy hyf hfy
    have ht : t = false := by cases t with | false => rfl | true => exact Bool.noConfusion hyf
    subst ht
    have hr : b64.qmin ≤ r := hfy.2.1
    have hy' : d * 2 ^ (r - b64.qmin).toNat * 16 = K * one64 := hy
    have hval : val64 (dmul x y) = round b64 (.fin s (c * d) (q + r)) := by
      rw [val64_dmul, e1, hv]
      show round b64 (.fin (s != false) (c * d) (q + r)) = _
      rw [show (s != false) = s by cases s <;> rfl]
    obtain ⟨e0, g1, g2, g3⟩ : ∃ e0 : Int, e0 ≤ b64.qmin ∧ e0 ≤ q + r ∧ -2148 ≤ e0 := ⟨min b64.qmin (q + r), by omega, by omega, by rw [own_qmin] at *; omega⟩
    have hu : inUnits (c * d) (q + r) e0 = zmag b64 (val64 e) * 2 ^ (b64.qmin - e0).toNat := by
      refine Nat.eq_of_mul_eq_mul_right (show 0 < 2 ^ (e0 + 2148).toNat * 16 from Nat.mul_pos (Nat.two_pow_pos _) (by decide)) ?_
      unfold inUnits
      have x1 : (q + r - e0).toNat + (e0 + 2148).toNat = (q - b64.qmin).toNat + (r - b64.qmin).toNat := by rw [own_qmin] at *; omega
      have x2 : (b64.qmin - e0).toNat + (e0 + 2148).toNat = (-b64.qmin).toNat := by rw [own_qmin] at *; omega
      exact own_sc3 _ _ _ _ _ _ _ _ _ _ _ (by rw [← Nat.pow_add, ← Nat.pow_add, x1]) (by rw [← Nat.pow_add, x2, pow_qmin64]) e2 hy' he
    have hs : signed s (inUnits (c * d) (q + r) e0) = zval b64 (val64 e) * ((2 ^ (b64.qmin - e0).toNat : Nat) : Int) := by
      by_cases h0 : A = 0
      · have hz : zmag b64 (val64 e) = 0 := by
          rw [h0] at he
          have : zmag b64 (val64 e) * 16 = 0 := by rw [he]; simp
          omega
        rw [hu, hz, Nat.zero_mul, signed_zero, hes.1 (by omega), hz]
        exact (Int.zero_mul _).symm
      · rw [hu, e4 h0]
        by_cases hn : A < 0
        · rw [decide_eq_true hn, hes.2 (by omega), Int.neg_mul, ← Int.natCast_mul]; rfl
        · rw [decide_eq_false hn, hes.1 (by omega), ← Int.natCast_mul]; rfl
    rw [hval]
    exact Int.le_antisymm (zval_round_le good_b64 (val64_fits e) hen g1 g2 (Int.le_of_eq hs)) (zval_round_ge good_b64 (val64_fits e) hen g1 g2 (Int.le_of_eq hs.symm))
theorem own_fk (f : Int32) (i : Fin 16) : (f.toInt64 * (Int32.ofNat (i.1 + 1)).toInt64).toInt = f.toInt * ((i.1 + 1 : Nat) : Int) ∧ (f.toInt * ((i.1 + 1 : Nat) : Int)).natAbs ≤ 2 ^ 53 := by
  have h1 := c_lmul f.toInt64 (Int32.ofNat (i.1 + 1)).toInt64
  rw [c_i2l, c_i2l, Int32.toInt_ofNat_small (by omega)] at h1
  have hf := rng32 f
  have hi := i.2
  have b := mc (a := f.toInt) (b := ((i.1 + 1 : Nat) : Int)) (l1 := -2147483648) (h1 := 2147483648) (l2 := 0) (h2 := 16) (by omega) (by omega) (by omega) (by omega)
  have := rng64 (f.toInt64 * (Int32.ofNat (i.1 + 1)).toInt64)
  generalize f.toInt * ((i.1 + 1 : Nat) : Int) = t at *
  omega
theorem own_decfin (i : Fin 16) : DFin (ddiv (i2d (Int32.ofNat (i.1 + 1))) 4625196817309499392) := by
  have h := (own_dec i).2
  unfold DFin
  cases hv : val64 (ddiv (i2d (Int32.ofNat (i.1 + 1))) 4625196817309499392) with
  | nan => rw [hv] at h; exact Bool.noConfusion h
  | inf t => rw [hv] at h; exact Bool.noConfusion h
  | fin t d r => exact ⟨t, d, r, rfl⟩
end OwnShrink
theorem own_decnn {k : Int32} (hk : ∃ i : Fin 16, k = Int32.ofNat (i.1 + 1)) : NoNaN64 (FP.ddiv (FP.i2d k) (4625196817309499392 : UInt64)) := by
  obtain ⟨i, rfl⟩ := hk
  exact (fin64_core.mpr (own_decfin i)).noNaN
theorem own_mulnn {k : Int32} (f : Int32) (hk : ∃ i : Fin 16, k = Int32.ofNat (i.1 + 1)) : NoNaN64 (FP.dmul (FP.i2d f) (FP.ddiv (FP.i2d k) (4625196817309499392 : UInt64))) := by
  obtain ⟨i, rfl⟩ := hk
  exact dmul_out (i2d_fin f) (fin64_core.mpr (own_decfin i))
theorem own_expnn {k : Int32} (f : Int32) (hk : ∃ i : Fin 16, k = Int32.ofNat (i.1 + 1)) : NoNaN64 (FP.ddiv (FP.l2d (f.toInt64 * k.toInt64)) (4625196817309499392 : UInt64)) := by
  obtain ⟨i, rfl⟩ := hk
  obtain ⟨a1, a2⟩ := own_fk f i
  exact val64_no.mpr (own_ddivfin (FP.Core.l2d_int (a1 ▸ a2)) own_16 (by decide))
theorem own_key {k : Int32} (f : Int32) (hk : ∃ i : Fin 16, k = Int32.ofNat (i.1 + 1)) : cmpValue (FP.dcmp (FP.dmul (FP.i2d f) (FP.ddiv (FP.i2d k) (4625196817309499392 : UInt64))) (FP.ddiv (FP.l2d (f.toInt64 * k.toInt64)) (4625196817309499392 : UInt64))) .l = 0 := by
  have n1 := own_mulnn f hk
  have n2 := own_expnn f hk
  obtain ⟨i, rfl⟩ := hk
  obtain ⟨a1, a2⟩ := own_fk f i
  have hl : FP.Core.DInt (f.toInt * ((i.1 + 1 : Nat) : Int)) (FP.l2d (f.toInt64 * (Int32.ofNat (i.1 + 1)).toInt64)) := by
    have := FP.Core.l2d_int (a := f.toInt64 * (Int32.ofNat (i.1 + 1)).toInt64) (a1 ▸ a2)
    rw [a1] at this
    exact this
  have hz := own_exp hl a2
  obtain ⟨s1, s2⟩ := own_sg hl own_16 (by decide)
  obtain ⟨d1, d2⟩ := own_dec i
  refine own_cv_eq .l (FP.Core.dcmp_eq.mpr ⟨val64_no.mp n1, val64_no.mp n2, ?_⟩)
  refine own_prod (FP.Core.i2d_int f) d1 d2 ?_ ⟨fun h => s1 (Int.mul_nonneg h (by omega)), fun h => s2 ?_⟩ (val64_no.mp n2)
  · rw [Int.natAbs_mul, Int.natAbs_natCast] at hz; exact hz
  · have := Int.mul_nonneg (show 0 ≤ -f.toInt by omega) (show (0 : Int) ≤ ((i.1 + 1 : Nat) : Int) by omega)
    rw [Int.neg_mul] at this
    omega
theorem own_z0 : cmpValue (FP.dcmp (0 : UInt64) (0 : UInt64)) .l = 0 := by decide +kernel
theorem pn_0 : plainName "com/example/parley/parley/algorithms/Dgls$Modifiers" = true := by first | (simp [plainName, overriddenIn]; done) | decide +kernel
theorem d1_0 : decode prog_8_method_1_code 0 = .ok (.aload_n 0, 1) := by decide +kernel
theorem d1_1 : decode prog_8_method_1_code 1 = .ok (.invokespecial 1, 3) := by decide +kernel
theorem d1_4 : decode prog_8_method_1_code 4 = .ok (.aload_n 0, 1) := by decide +kernel
theorem d1_5 : decode prog_8_method_1_code 5 = .ok (.iload_n 1, 1) := by decide +kernel
theorem d1_6 : decode prog_8_method_1_code 6 = .ok (.anewarray 7, 3) := by decide +kernel
theorem d1_9 : decode prog_8_method_1_code 9 = .ok (.putfield 9, 3) := by decide +kernel
theorem d1_12 : decode prog_8_method_1_code 12 = .ok (.aload_n 0, 1) := by decide +kernel
theorem d1_13 : decode prog_8_method_1_code 13 = .ok (.iload_n 1, 1) := by decide +kernel
theorem d1_14 : decode prog_8_method_1_code 14 = .ok (.newarray .double, 2) := by decide +kernel
theorem d1_16 : decode prog_8_method_1_code 16 = .ok (.putfield 15, 3) := by decide +kernel
theorem d1_19 : decode prog_8_method_1_code 19 = .ok (.aload_n 0, 1) := by decide +kernel
theorem d1_20 : decode prog_8_method_1_code 20 = .ok (.iload_n 1, 1) := by decide +kernel
theorem d1_21 : decode prog_8_method_1_code 21 = .ok (.newarray .double, 2) := by decide +kernel
theorem d1_23 : decode prog_8_method_1_code 23 = .ok (.putfield 18, 3) := by decide +kernel
theorem d1_26 : decode prog_8_method_1_code 26 = .ok (.aload_n 0, 1) := by decide +kernel
theorem d1_27 : decode prog_8_method_1_code 27 = .ok (.iload_n 1, 1) := by decide +kernel
theorem d1_28 : decode prog_8_method_1_code 28 = .ok (.newarray .double, 2) := by decide +kernel
theorem d1_30 : decode prog_8_method_1_code 30 = .ok (.putfield 21, 3) := by decide +kernel
theorem d1_33 : decode prog_8_method_1_code 33 = .ok (.aload_n 0, 1) := by decide +kernel
theorem d1_34 : decode prog_8_method_1_code 34 = .ok (.iload_n 1, 1) := by decide +kernel
theorem d1_35 : decode prog_8_method_1_code 35 = .ok (.newarray .double, 2) := by decide +kernel
theorem d1_37 : decode prog_8_method_1_code 37 = .ok (.putfield 24, 3) := by decide +kernel
theorem d1_40 : decode prog_8_method_1_code 40 = .ok (.aload_n 0, 1) := by decide +kernel
theorem d1_41 : decode prog_8_method_1_code 41 = .ok (.iload_n 1, 1) := by decide +kernel
theorem d1_42 : decode prog_8_method_1_code 42 = .ok (.newarray .double, 2) := by decide +kernel
theorem d1_44 : decode prog_8_method_1_code 44 = .ok (.putfield 27, 3) := by decide +kernel
theorem d1_47 : decode prog_8_method_1_code 47 = .ok (.aload_n 0, 1) := by decide +kernel
theorem d1_48 : decode prog_8_method_1_code 48 = .ok (.iload_n 1, 1) := by decide +kernel
theorem d1_49 : decode prog_8_method_1_code 49 = .ok (.newarray .long, 2) := by decide +kernel
theorem d1_51 : decode prog_8_method_1_code 51 = .ok (.putfield 30, 3) := by decide +kernel
theorem d1_54 : decode prog_8_method_1_code 54 = .ok (.return_, 1) := by decide +kernel
theorem ef_rmC0 (m : MethodId) (x0 : Addr) (x1 : Int32) : entryFrame m #[(.ref x0), (.int x1)] 2 = mkF m 0 #[.val (.ref x0), .val (.int x1)] [] := by first | (simp [entryFrame, mkF, argsToLocals, Value.category]; done) | rfl
def QrmC0 (Z : State) (a : Addr) (h0 : Heap) (n0 : Nat) (v : Option Value) (h : Heap) (L : List Loc) : Prop := v = none ∧ Fr n0 L ∧ Keep h0 h [a] ∧ ∃ (bn bf bl bg : Addr) (kn kf kl kg : ClassId), h0.size ≤ bf ∧ bn ≠ bf ∧ bl ≠ bf ∧ bg ≠ bf ∧ Fld Z h a "com/example/parley/parley/algorithms/Dgls$Modifiers" "numbers" "[[D" (.ref bn) ∧ Fld Z h a "com/example/parley/parley/algorithms/Dgls$Modifiers" "factors" "[D" (.ref bf) ∧ Fld Z h a "com/example/parley/parley/algorithms/Dgls$Modifiers" "least" "[D" (.ref bl) ∧ Fld Z h a "com/example/parley/parley/algorithms/Dgls$Modifiers" "greatest" "[D" (.ref bg) ∧ Arv Z h bn kn (.array .double) (0 : Int32) [] .null ∧ Arv Z h bf kf .double (0 : Int32) [] (.double (0 : UInt64)) ∧ Arv Z h bl kl .double (0 : Int32) [] (.double (0 : UInt64)) ∧ Arv Z h bg kg .double (0 : Int32) [] (.double (0 : UInt64))
set_option maxRecDepth 65536 in
set_option maxHeartbeats 40000000 in
theorem rmC0 (l : Launch) (Z : State) (a0 : Array Value) (hw : ∀ d ∈ tables_1, d.before a0 Z = true) (ws : List Jvm.Cond) (a : Addr) (h0 : Heap) (n0 : Nat) (Z0 : n0 ≤ h0.size) (E_a : Exa Z h0 a "com/example/parley/parley/algorithms/Dgls$Modifiers") (F_numbers_a : Fld Z h0 a "com/example/parley/parley/algorithms/Dgls$Modifiers" "numbers" "[[D" .null) (F_factors_a : Fld Z h0 a "com/example/parley/parley/algorithms/Dgls$Modifiers" "factors" "[D" .null) (F_least_a : Fld Z h0 a "com/example/parley/parley/algorithms/Dgls$Modifiers" "least" "[D" .null) (F_greatest_a : Fld Z h0 a "com/example/parley/parley/algorithms/Dgls$Modifiers" "greatest" "[D" .null) (F_sums_a : Fld Z h0 a "com/example/parley/parley/algorithms/Dgls$Modifiers" "sums" "[D" .null) (F_maxima_a : Fld Z h0 a "com/example/parley/parley/algorithms/Dgls$Modifiers" "maxima" "[D" .null) (F_entries_a : Fld Z h0 a "com/example/parley/parley/algorithms/Dgls$Modifiers" "entries" "[J" .null) (g_a : n0 ≤ a) :
    MetFree l (⟨"com/example/parley/parley/algorithms/Dgls$Modifiers", "<init>", "(I)V"⟩ : MethodName) (head1 (Jvm.Cond.code (⟨"com/example/parley/parley/algorithms/Dgls$Modifiers", "<init>", "(I)V"⟩ : MethodName) prog_8_method_1_code 2 none :: ws) ({ frames := 1, cells := 7, slots := 0, locals := 12 } : Room)) (fun aq Uq => aq = #[(.ref a), (.int (0 : Int32))] ∧ Z.Warmed39 Uq.vm ∧ Uq.heap = h0) (fun _ _ _ _ _ => True) (fun _ Uq oq Uq' => ∃ vq Lq, oq = .returned vq ∧ QrmC0 Z a h0 n0 vq Uq'.heap Lq ∧ FrameEnd Uq oq Uq' Lq ({ frames := 1, cells := 7, slots := 0, locals := 12 } : Room).cells ({ frames := 1, cells := 7, slots := 0, locals := 12 } : Room).slots) := by
  refine MetFree.of_bodySF (plainFor_of_name pn_0) hisR ?_
  intro p e s m args below meth c s₁ Bd hml0 hP hK
  obtain ⟨rfl, hZ, hh⟩ := hP
  have hx := Bd.exec
  have hby := Bd.bytes
  have hml : c.maxLocals = 2 := hml0
  have hown : s.vm.findClass "com/example/parley/parley/algorithms/Dgls$Modifiers" = some m.cls := findClass_of_methodNamed Bd.named
  have hnm := (name_of_methodNamed Bd.named Bd.method).1
  have X0 : Stand p l e ({ frames := 1, cells := 7, slots := 0, locals := 12 } : Room) s m #[(.ref a), (.int (0 : Int32))] below meth c s₁ [] 0 0 := Stand.of_body Bd
  have e0 : s₁.heap = h0 := by rw [← hh, Bd.state]; rfl
  have N0 := Fr.nil n0
  have ZH := Z0
  have KK := Keep.refl h0 [a]
  refine own_start (fun t kq => castTop (ef_rmC0 m a (0 : Int32)) kq) ?_
  show own_Go p.tables e below _ (s₁.setTop (mkF m 0 #[.val (.ref a), .val (.int (0 : Int32))] []))
  refine own_up (fun _ kq => XS.aloadN X0.here hx rfl (hb hby d1_0) rfl rfl kq) ?_
  show own_Go p.tables e below _ (s₁.setTop (mkF m 1 #[.val (.ref a), .val (.int (0 : Int32))] [(.ref a)]))
  obtain ⟨T1, X1, e1, st1⟩ := initO X0 hx hZ hown (hw _ (List.mem_of_getElem? (i := 7) rfl)) (hw _ (List.mem_of_getElem? (i := 8) rfl)) (hw _ (List.mem_of_getElem? (i := 9) rfl)) e0 (g := (mkF m 1 #[.val (.ref a), .val (.int (0 : Int32))] [(.ref a)])) rfl (by rw [hml]; rfl) rfl (hb hby d1_1) (by decide) (W := 0) (by show 2 * 0 + _ ≤ _; exact Nat.le_of_eq rfl) (by decide)
  refine own_up st1 ?_
  show own_Go p.tables e below _ (T1.setTop (mkF m 4 #[.val (.ref a), .val (.int (0 : Int32))] []))
  refine own_up (fun _ kq => XS.aloadN X1.here hx rfl (hb hby d1_4) rfl rfl kq) ?_
  show own_Go p.tables e below _ (T1.setTop (mkF m 5 #[.val (.ref a), .val (.int (0 : Int32))] [(.ref a)]))
  refine own_up (fun _ kq => XS.iloadN X1.here hx rfl (hb hby d1_5) rfl kq) ?_
  show own_Go p.tables e below _ (T1.setTop (mkF m 6 #[.val (.ref a), .val (.int (0 : Int32))] [(.int (0 : Int32)), (.ref a)]))
  obtain ⟨T2, h2, k2, X2, e2, E2, A2, B2, O2, st2⟩ := newRA X1 hx hZ hown (ty := .double) rfl (hw _ (List.mem_of_getElem? (i := 10) rfl)) (hw _ (List.mem_of_getElem? (i := 11) rfl)) e1 (g := (mkF m 6 #[.val (.ref a), .val (.int (0 : Int32))] [(.int (0 : Int32)), (.ref a)])) rfl (hb hby d1_6) rfl (by decide) (cap := 0) (by decide) (by decide) (by decide) (by decide) (ad := "[[D") rfl
  obtain ⟨b2, gz2⟩ : ∃ z, z = h0.size := ⟨_, rfl⟩
  rw [← gz2] at A2 st2
  have ne_a_b2 : a ≠ b2 := Nat.ne_of_lt (Nat.lt_of_lt_of_le E_a.lt (Nat.le_of_eq gz2.symm))
  have g_b2 : n0 ≤ b2 := Nat.le_trans ZH (Nat.le_of_eq gz2.symm)
  have sz_b2 : h0.size ≤ b2 := Nat.le_trans KK.1 (Nat.le_of_eq gz2.symm)
  have E_a := E_a.ext E2
  have F_numbers_a := F_numbers_a.ext E2
  have F_factors_a := F_factors_a.ext E2
  have F_least_a := F_least_a.ext E2
  have F_greatest_a := F_greatest_a.ext E2
  have F_sums_a := F_sums_a.ext E2
  have F_maxima_a := F_maxima_a.ext E2
  have F_entries_a := F_entries_a.ext E2
  have ZH := Nat.le_trans ZH E2.1
  have KK := KK.ext E2
  have V_b2 : Arv Z h2 b2 k2 (.array .double) (0 : Int32) [] .null := (Arv.new A2 (by decide)).pad (pad_rep [] .null 0)
  refine own_up st2 ?_
  show own_Go p.tables e below _ (T2.setTop (mkF m 9 #[.val (.ref a), .val (.int (0 : Int32))] [(.ref b2), (.ref a)]))
  obtain ⟨T3, h3, X3, e3, W3, st3⟩ := putF X2 hx hZ hown (host := "") (Or.inl (hw _ (List.mem_of_getElem? (i := 12) rfl))) Via.refl e2 F_numbers_a E_a (Or.inr ⟨(hw _ (List.mem_of_getElem? (i := 13) rfl)), rfl, hnm⟩) (hw _ (List.mem_of_getElem? (i := 2) rfl)) (ty := (.array (.array .double))) (by decide) rfl rfl (g := (mkF m 9 #[.val (.ref a), .val (.int (0 : Int32))] [(.ref b2), (.ref a)])) rfl rfl (hb hby d1_9)
  have N3 := Fr.snoc X3 N0 g_a
  have F_numbers_a := F_numbers_a.same W3
  have E_a := E_a.wr W3
  have F_factors_a := F_factors_a.other W3 (Or.inr (slot_ne (Or.inr (hw _ (List.mem_of_getElem? (i := 16) rfl))) (Or.inr (hw _ (List.mem_of_getElem? (i := 13) rfl))) (by decide) (t := (.array .double)) (t' := (.array (.array .double))) (by decide) (by decide)))
  have F_least_a := F_least_a.other W3 (Or.inr (slot_ne (Or.inr (hw _ (List.mem_of_getElem? (i := 18) rfl))) (Or.inr (hw _ (List.mem_of_getElem? (i := 13) rfl))) (by decide) (t := (.array .double)) (t' := (.array (.array .double))) (by decide) (by decide)))
  have F_greatest_a := F_greatest_a.other W3 (Or.inr (slot_ne (Or.inr (hw _ (List.mem_of_getElem? (i := 20) rfl))) (Or.inr (hw _ (List.mem_of_getElem? (i := 13) rfl))) (by decide) (t := (.array .double)) (t' := (.array (.array .double))) (by decide) (by decide)))
  have F_sums_a := F_sums_a.other W3 (Or.inr (slot_ne (Or.inr (hw _ (List.mem_of_getElem? (i := 22) rfl))) (Or.inr (hw _ (List.mem_of_getElem? (i := 13) rfl))) (by decide) (t := (.array .double)) (t' := (.array (.array .double))) (by decide) (by decide)))
  have F_maxima_a := F_maxima_a.other W3 (Or.inr (slot_ne (Or.inr (hw _ (List.mem_of_getElem? (i := 24) rfl))) (Or.inr (hw _ (List.mem_of_getElem? (i := 13) rfl))) (by decide) (t := (.array .double)) (t' := (.array (.array .double))) (by decide) (by decide)))
  have F_entries_a := F_entries_a.other W3 (Or.inr (slot_ne (Or.inr (hw _ (List.mem_of_getElem? (i := 27) rfl))) (Or.inr (hw _ (List.mem_of_getElem? (i := 13) rfl))) (by decide) (t := (.array .long)) (t' := (.array (.array .double))) (by decide) (by decide)))
  have V_b2 := V_b2.other W3 (Ne.symm ne_a_b2)
  have ZH := Nat.le_trans ZH (Nat.le_of_eq W3.size.symm)
  have KK := KK.wr W3 (Or.inl (List.mem_of_getElem? (i := 0) rfl))
  refine own_up st3 ?_
  show own_Go p.tables e below _ (T3.setTop (mkF m 12 #[.val (.ref a), .val (.int (0 : Int32))] []))
  refine own_up (fun _ kq => XS.aloadN X3.here hx rfl (hb hby d1_12) rfl rfl kq) ?_
  show own_Go p.tables e below _ (T3.setTop (mkF m 13 #[.val (.ref a), .val (.int (0 : Int32))] [(.ref a)]))
  refine own_up (fun _ kq => XS.iloadN X3.here hx rfl (hb hby d1_13) rfl kq) ?_
  show own_Go p.tables e below _ (T3.setTop (mkF m 14 #[.val (.ref a), .val (.int (0 : Int32))] [(.int (0 : Int32)), (.ref a)]))
  obtain ⟨T4, h4, k4, X4, e4, E4, A4, st4⟩ := newP X3 hx hZ (hw _ (List.mem_of_getElem? (i := 14) rfl)) e3 (g := (mkF m 14 #[.val (.ref a), .val (.int (0 : Int32))] [(.int (0 : Int32)), (.ref a)])) rfl (hb hby d1_14) rfl (by decide) (cap := 0) (by decide) (by decide) (by decide) (by decide)
  obtain ⟨b4, gz4⟩ : ∃ z, z = h3.size := ⟨_, rfl⟩
  rw [← gz4] at A4 st4
  have ne_a_b4 : a ≠ b4 := Nat.ne_of_lt (Nat.lt_of_lt_of_le E_a.lt (Nat.le_of_eq gz4.symm))
  have ne_b2_b4 : b2 ≠ b4 := Nat.ne_of_lt (Nat.lt_of_lt_of_le V_b2.lt (Nat.le_of_eq gz4.symm))
  have g_b4 : n0 ≤ b4 := Nat.le_trans ZH (Nat.le_of_eq gz4.symm)
  have sz_b4 : h0.size ≤ b4 := Nat.le_trans KK.1 (Nat.le_of_eq gz4.symm)
  have E_a := E_a.ext E4
  have F_numbers_a := F_numbers_a.ext E4
  have F_factors_a := F_factors_a.ext E4
  have F_least_a := F_least_a.ext E4
  have F_greatest_a := F_greatest_a.ext E4
  have F_sums_a := F_sums_a.ext E4
  have F_maxima_a := F_maxima_a.ext E4
  have F_entries_a := F_entries_a.ext E4
  have V_b2 := V_b2.ext E4
  have ZH := Nat.le_trans ZH E4.1
  have KK := KK.ext E4
  have V_b4 : Arv Z h4 b4 k4 .double (0 : Int32) [] (.double (0 : UInt64)) := (Arv.new A4 (by decide)).pad (pad_rep [] (.double (0 : UInt64)) 0)
  refine own_up st4 ?_
  show own_Go p.tables e below _ (T4.setTop (mkF m 16 #[.val (.ref a), .val (.int (0 : Int32))] [(.ref b4), (.ref a)]))
  obtain ⟨T5, h5, X5, e5, W5, st5⟩ := putF X4 hx hZ hown (host := "") (Or.inl (hw _ (List.mem_of_getElem? (i := 15) rfl))) Via.refl e4 F_factors_a E_a (Or.inr ⟨(hw _ (List.mem_of_getElem? (i := 16) rfl)), rfl, hnm⟩) (hw _ (List.mem_of_getElem? (i := 2) rfl)) (ty := (.array .double)) (by decide) rfl rfl (g := (mkF m 16 #[.val (.ref a), .val (.int (0 : Int32))] [(.ref b4), (.ref a)])) rfl rfl (hb hby d1_16)
  have N5 := Fr.snoc X5 N3 g_a
  have F_factors_a := F_factors_a.same W5
  have E_a := E_a.wr W5
  have F_numbers_a := F_numbers_a.other W5 (Or.inr (slot_ne (Or.inr (hw _ (List.mem_of_getElem? (i := 13) rfl))) (Or.inr (hw _ (List.mem_of_getElem? (i := 16) rfl))) (by decide) (t := (.array (.array .double))) (t' := (.array .double)) (by decide) (by decide)))
  have F_least_a := F_least_a.other W5 (Or.inr (slot_ne (Or.inr (hw _ (List.mem_of_getElem? (i := 18) rfl))) (Or.inr (hw _ (List.mem_of_getElem? (i := 16) rfl))) (by decide) (t := (.array .double)) (t' := (.array .double)) (by decide) (by decide)))
  have F_greatest_a := F_greatest_a.other W5 (Or.inr (slot_ne (Or.inr (hw _ (List.mem_of_getElem? (i := 20) rfl))) (Or.inr (hw _ (List.mem_of_getElem? (i := 16) rfl))) (by decide) (t := (.array .double)) (t' := (.array .double)) (by decide) (by decide)))
  have F_sums_a := F_sums_a.other W5 (Or.inr (slot_ne (Or.inr (hw _ (List.mem_of_getElem? (i := 22) rfl))) (Or.inr (hw _ (List.mem_of_getElem? (i := 16) rfl))) (by decide) (t := (.array .double)) (t' := (.array .double)) (by decide) (by decide)))
  have F_maxima_a := F_maxima_a.other W5 (Or.inr (slot_ne (Or.inr (hw _ (List.mem_of_getElem? (i := 24) rfl))) (Or.inr (hw _ (List.mem_of_getElem? (i := 16) rfl))) (by decide) (t := (.array .double)) (t' := (.array .double)) (by decide) (by decide)))
  have F_entries_a := F_entries_a.other W5 (Or.inr (slot_ne (Or.inr (hw _ (List.mem_of_getElem? (i := 27) rfl))) (Or.inr (hw _ (List.mem_of_getElem? (i := 16) rfl))) (by decide) (t := (.array .long)) (t' := (.array .double)) (by decide) (by decide)))
  have V_b2 := V_b2.other W5 (Ne.symm ne_a_b2)
  have V_b4 := V_b4.other W5 (Ne.symm ne_a_b4)
  have ZH := Nat.le_trans ZH (Nat.le_of_eq W5.size.symm)
  have KK := KK.wr W5 (Or.inl (List.mem_of_getElem? (i := 0) rfl))
  refine own_up st5 ?_
  show own_Go p.tables e below _ (T5.setTop (mkF m 19 #[.val (.ref a), .val (.int (0 : Int32))] []))
  refine own_up (fun _ kq => XS.aloadN X5.here hx rfl (hb hby d1_19) rfl rfl kq) ?_
  show own_Go p.tables e below _ (T5.setTop (mkF m 20 #[.val (.ref a), .val (.int (0 : Int32))] [(.ref a)]))
  refine own_up (fun _ kq => XS.iloadN X5.here hx rfl (hb hby d1_20) rfl kq) ?_
  show own_Go p.tables e below _ (T5.setTop (mkF m 21 #[.val (.ref a), .val (.int (0 : Int32))] [(.int (0 : Int32)), (.ref a)]))
  obtain ⟨T6, h6, k6, X6, e6, E6, A6, st6⟩ := newP X5 hx hZ (hw _ (List.mem_of_getElem? (i := 14) rfl)) e5 (g := (mkF m 21 #[.val (.ref a), .val (.int (0 : Int32))] [(.int (0 : Int32)), (.ref a)])) rfl (hb hby d1_21) rfl (by decide) (cap := 0) (by decide) (by decide) (by decide) (by decide)
  obtain ⟨b6, gz6⟩ : ∃ z, z = h5.size := ⟨_, rfl⟩
  rw [← gz6] at A6 st6
  have ne_a_b6 : a ≠ b6 := Nat.ne_of_lt (Nat.lt_of_lt_of_le E_a.lt (Nat.le_of_eq gz6.symm))
  have ne_b2_b6 : b2 ≠ b6 := Nat.ne_of_lt (Nat.lt_of_lt_of_le V_b2.lt (Nat.le_of_eq gz6.symm))
  have ne_b4_b6 : b4 ≠ b6 := Nat.ne_of_lt (Nat.lt_of_lt_of_le V_b4.lt (Nat.le_of_eq gz6.symm))
  have g_b6 : n0 ≤ b6 := Nat.le_trans ZH (Nat.le_of_eq gz6.symm)
  have sz_b6 : h0.size ≤ b6 := Nat.le_trans KK.1 (Nat.le_of_eq gz6.symm)
  have E_a := E_a.ext E6
  have F_numbers_a := F_numbers_a.ext E6
  have F_factors_a := F_factors_a.ext E6
  have F_least_a := F_least_a.ext E6
  have F_greatest_a := F_greatest_a.ext E6
  have F_sums_a := F_sums_a.ext E6
  have F_maxima_a := F_maxima_a.ext E6
  have F_entries_a := F_entries_a.ext E6
  have V_b2 := V_b2.ext E6
  have V_b4 := V_b4.ext E6
  have ZH := Nat.le_trans ZH E6.1
  have KK := KK.ext E6
  have V_b6 : Arv Z h6 b6 k6 .double (0 : Int32) [] (.double (0 : UInt64)) := (Arv.new A6 (by decide)).pad (pad_rep [] (.double (0 : UInt64)) 0)
  refine own_up st6 ?_
  show own_Go p.tables e below _ (T6.setTop (mkF m 23 #[.val (.ref a), .val (.int (0 : Int32))] [(.ref b6), (.ref a)]))
  obtain ⟨T7, h7, X7, e7, W7, st7⟩ := putF X6 hx hZ hown (host := "") (Or.inl (hw _ (List.mem_of_getElem? (i := 17) rfl))) Via.refl e6 F_least_a E_a (Or.inr ⟨(hw _ (List.mem_of_getElem? (i := 18) rfl)), rfl, hnm⟩) (hw _ (List.mem_of_getElem? (i := 2) rfl)) (ty := (.array .double)) (by decide) rfl rfl (g := (mkF m 23 #[.val (.ref a), .val (.int (0 : Int32))] [(.ref b6), (.ref a)])) rfl rfl (hb hby d1_23)
  have N7 := Fr.snoc X7 N5 g_a
  have F_least_a := F_least_a.same W7
  have E_a := E_a.wr W7
  have F_numbers_a := F_numbers_a.other W7 (Or.inr (slot_ne (Or.inr (hw _ (List.mem_of_getElem? (i := 13) rfl))) (Or.inr (hw _ (List.mem_of_getElem? (i := 18) rfl))) (by decide) (t := (.array (.array .double))) (t' := (.array .double)) (by decide) (by decide)))
  have F_factors_a := F_factors_a.other W7 (Or.inr (slot_ne (Or.inr (hw _ (List.mem_of_getElem? (i := 16) rfl))) (Or.inr (hw _ (List.mem_of_getElem? (i := 18) rfl))) (by decide) (t := (.array .double)) (t' := (.array .double)) (by decide) (by decide)))
  have F_greatest_a := F_greatest_a.other W7 (Or.inr (slot_ne (Or.inr (hw _ (List.mem_of_getElem? (i := 20) rfl))) (Or.inr (hw _ (List.mem_of_getElem? (i := 18) rfl))) (by decide) (t := (.array .double)) (t' := (.array .double)) (by decide) (by decide)))
  have F_sums_a := F_sums_a.other W7 (Or.inr (slot_ne (Or.inr (hw _ (List.mem_of_getElem? (i := 22) rfl))) (Or.inr (hw _ (List.mem_of_getElem? (i := 18) rfl))) (by decide) (t := (.array .double)) (t' := (.array .double)) (by decide) (by decide)))
  have F_maxima_a := F_maxima_a.other W7 (Or.inr (slot_ne (Or.inr (hw _ (List.mem_of_getElem? (i := 24) rfl))) (Or.inr (hw _ (List.mem_of_getElem? (i := 18) rfl))) (by decide) (t := (.array .double)) (t' := (.array .double)) (by decide) (by decide)))
  have F_entries_a := F_entries_a.other W7 (Or.inr (slot_ne (Or.inr (hw _ (List.mem_of_getElem? (i := 27) rfl))) (Or.inr (hw _ (List.mem_of_getElem? (i := 18) rfl))) (by decide) (t := (.array .long)) (t' := (.array .double)) (by decide) (by decide)))
  have V_b2 := V_b2.other W7 (Ne.symm ne_a_b2)
  have V_b4 := V_b4.other W7 (Ne.symm ne_a_b4)
  have V_b6 := V_b6.other W7 (Ne.symm ne_a_b6)
  have ZH := Nat.le_trans ZH (Nat.le_of_eq W7.size.symm)
  have KK := KK.wr W7 (Or.inl (List.mem_of_getElem? (i := 0) rfl))
  refine own_up st7 ?_
  show own_Go p.tables e below _ (T7.setTop (mkF m 26 #[.val (.ref a), .val (.int (0 : Int32))] []))
  refine own_up (fun _ kq => XS.aloadN X7.here hx rfl (hb hby d1_26) rfl rfl kq) ?_
  show own_Go p.tables e below _ (T7.setTop (mkF m 27 #[.val (.ref a), .val (.int (0 : Int32))] [(.ref a)]))
  refine own_up (fun _ kq => XS.iloadN X7.here hx rfl (hb hby d1_27) rfl kq) ?_
  show own_Go p.tables e below _ (T7.setTop (mkF m 28 #[.val (.ref a), .val (.int (0 : Int32))] [(.int (0 : Int32)), (.ref a)]))
  obtain ⟨T8, h8, k8, X8, e8, E8, A8, st8⟩ := newP X7 hx hZ (hw _ (List.mem_of_getElem? (i := 14) rfl)) e7 (g := (mkF m 28 #[.val (.ref a), .val (.int (0 : Int32))] [(.int (0 : Int32)), (.ref a)])) rfl (hb hby d1_28) rfl (by decide) (cap := 0) (by decide) (by decide) (by decide) (by decide)
  obtain ⟨b8, gz8⟩ : ∃ z, z = h7.size := ⟨_, rfl⟩
  rw [← gz8] at A8 st8
  have ne_a_b8 : a ≠ b8 := Nat.ne_of_lt (Nat.lt_of_lt_of_le E_a.lt (Nat.le_of_eq gz8.symm))
  have ne_b2_b8 : b2 ≠ b8 := Nat.ne_of_lt (Nat.lt_of_lt_of_le V_b2.lt (Nat.le_of_eq gz8.symm))
  have ne_b4_b8 : b4 ≠ b8 := Nat.ne_of_lt (Nat.lt_of_lt_of_le V_b4.lt (Nat.le_of_eq gz8.symm))
  have ne_b6_b8 : b6 ≠ b8 := Nat.ne_of_lt (Nat.lt_of_lt_of_le V_b6.lt (Nat.le_of_eq gz8.symm))
  have g_b8 : n0 ≤ b8 := Nat.le_trans ZH (Nat.le_of_eq gz8.symm)
  have sz_b8 : h0.size ≤ b8 := Nat.le_trans KK.1 (Nat.le_of_eq gz8.symm)
  have E_a := E_a.ext E8
  have F_numbers_a := F_numbers_a.ext E8
  have F_factors_a := F_factors_a.ext E8
  have F_least_a := F_least_a.ext E8
  have F_greatest_a := F_greatest_a.ext E8
  have F_sums_a := F_sums_a.ext E8
  have F_maxima_a := F_maxima_a.ext E8
  have F_entries_a := F_entries_a.ext E8
  have V_b2 := V_b2.ext E8
  have V_b4 := V_b4.ext E8
  have V_b6 := V_b6.ext E8
  have ZH := Nat.le_trans ZH E8.1
  have KK := KK.ext E8
  have V_b8 : Arv Z h8 b8 k8 .double (0 : Int32) [] (.double (0 : UInt64)) := (Arv.new A8 (by decide)).pad (pad_rep [] (.double (0 : UInt64)) 0)
  refine own_up st8 ?_
  show own_Go p.tables e below _ (T8.setTop (mkF m 30 #[.val (.ref a), .val (.int (0 : Int32))] [(.ref b8), (.ref a)]))
  obtain ⟨T9, h9, X9, e9, W9, st9⟩ := putF X8 hx hZ hown (host := "") (Or.inl (hw _ (List.mem_of_getElem? (i := 19) rfl))) Via.refl e8 F_greatest_a E_a (Or.inr ⟨(hw _ (List.mem_of_getElem? (i := 20) rfl)), rfl, hnm⟩) (hw _ (List.mem_of_getElem? (i := 2) rfl)) (ty := (.array .double)) (by decide) rfl rfl (g := (mkF m 30 #[.val (.ref a), .val (.int (0 : Int32))] [(.ref b8), (.ref a)])) rfl rfl (hb hby d1_30)
  have N9 := Fr.snoc X9 N7 g_a
  have F_greatest_a := F_greatest_a.same W9
  have E_a := E_a.wr W9
  have F_numbers_a := F_numbers_a.other W9 (Or.inr (slot_ne (Or.inr (hw _ (List.mem_of_getElem? (i := 13) rfl))) (Or.inr (hw _ (List.mem_of_getElem? (i := 20) rfl))) (by decide) (t := (.array (.array .double))) (t' := (.array .double)) (by decide) (by decide)))
  have F_factors_a := F_factors_a.other W9 (Or.inr (slot_ne (Or.inr (hw _ (List.mem_of_getElem? (i := 16) rfl))) (Or.inr (hw _ (List.mem_of_getElem? (i := 20) rfl))) (by decide) (t := (.array .double)) (t' := (.array .double)) (by decide) (by decide)))
  have F_least_a := F_least_a.other W9 (Or.inr (slot_ne (Or.inr (hw _ (List.mem_of_getElem? (i := 18) rfl))) (Or.inr (hw _ (List.mem_of_getElem? (i := 20) rfl))) (by decide) (t := (.array .double)) (t' := (.array .double)) (by decide) (by decide)))
  have F_sums_a := F_sums_a.other W9 (Or.inr (slot_ne (Or.inr (hw _ (List.mem_of_getElem? (i := 22) rfl))) (Or.inr (hw _ (List.mem_of_getElem? (i := 20) rfl))) (by decide) (t := (.array .double)) (t' := (.array .double)) (by decide) (by decide)))
  have F_maxima_a := F_maxima_a.other W9 (Or.inr (slot_ne (Or.inr (hw _ (List.mem_of_getElem? (i := 24) rfl))) (Or.inr (hw _ (List.mem_of_getElem? (i := 20) rfl))) (by decide) (t := (.array .double)) (t' := (.array .double)) (by decide) (by decide)))
  have F_entries_a := F_entries_a.other W9 (Or.inr (slot_ne (Or.inr (hw _ (List.mem_of_getElem? (i := 27) rfl))) (Or.inr (hw _ (List.mem_of_getElem? (i := 20) rfl))) (by decide) (t := (.array .long)) (t' := (.array .double)) (by decide) (by decide)))
  have V_b2 := V_b2.other W9 (Ne.symm ne_a_b2)
  have V_b4 := V_b4.other W9 (Ne.symm ne_a_b4)
  have V_b6 := V_b6.other W9 (Ne.symm ne_a_b6)
  have V_b8 := V_b8.other W9 (Ne.symm ne_a_b8)
  have ZH := Nat.le_trans ZH (Nat.le_of_eq W9.size.symm)
  have KK := KK.wr W9 (Or.inl (List.mem_of_getElem? (i := 0) rfl))
  refine own_up st9 ?_
  show own_Go p.tables e below _ (T9.setTop (mkF m 33 #[.val (.ref a), .val (.int (0 : Int32))] []))
  refine own_up (fun _ kq => XS.aloadN X9.here hx rfl (hb hby d1_33) rfl rfl kq) ?_
  show own_Go p.tables e below _ (T9.setTop (mkF m 34 #[.val (.ref a), .val (.int (0 : Int32))] [(.ref a)]))
  refine own_up (fun _ kq => XS.iloadN X9.here hx rfl (hb hby d1_34) rfl kq) ?_
  show own_Go p.tables e below _ (T9.setTop (mkF m 35 #[.val (.ref a), .val (.int (0 : Int32))] [(.int (0 : Int32)), (.ref a)]))
  obtain ⟨T10, h10, k10, X10, e10, E10, A10, st10⟩ := newP X9 hx hZ (hw _ (List.mem_of_getElem? (i := 14) rfl)) e9 (g := (mkF m 35 #[.val (.ref a), .val (.int (0 : Int32))] [(.int (0 : Int32)), (.ref a)])) rfl (hb hby d1_35) rfl (by decide) (cap := 0) (by decide) (by decide) (by decide) (by decide)
  obtain ⟨b10, gz10⟩ : ∃ z, z = h9.size := ⟨_, rfl⟩
  rw [← gz10] at A10 st10
  have ne_a_b10 : a ≠ b10 := Nat.ne_of_lt (Nat.lt_of_lt_of_le E_a.lt (Nat.le_of_eq gz10.symm))
  have ne_b2_b10 : b2 ≠ b10 := Nat.ne_of_lt (Nat.lt_of_lt_of_le V_b2.lt (Nat.le_of_eq gz10.symm))
  have ne_b4_b10 : b4 ≠ b10 := Nat.ne_of_lt (Nat.lt_of_lt_of_le V_b4.lt (Nat.le_of_eq gz10.symm))
  have ne_b6_b10 : b6 ≠ b10 := Nat.ne_of_lt (Nat.lt_of_lt_of_le V_b6.lt (Nat.le_of_eq gz10.symm))
  have ne_b8_b10 : b8 ≠ b10 := Nat.ne_of_lt (Nat.lt_of_lt_of_le V_b8.lt (Nat.le_of_eq gz10.symm))
  have g_b10 : n0 ≤ b10 := Nat.le_trans ZH (Nat.le_of_eq gz10.symm)
  have sz_b10 : h0.size ≤ b10 := Nat.le_trans KK.1 (Nat.le_of_eq gz10.symm)
  have E_a := E_a.ext E10
  have F_numbers_a := F_numbers_a.ext E10
  have F_factors_a := F_factors_a.ext E10
  have F_least_a := F_least_a.ext E10
  have F_greatest_a := F_greatest_a.ext E10
  have F_sums_a := F_sums_a.ext E10
  have F_maxima_a := F_maxima_a.ext E10
  have F_entries_a := F_entries_a.ext E10
  have V_b2 := V_b2.ext E10
  have V_b4 := V_b4.ext E10
  have V_b6 := V_b6.ext E10
  have V_b8 := V_b8.ext E10
  have ZH := Nat.le_trans ZH E10.1
  have KK := KK.ext E10
  have V_b10 : Arv Z h10 b10 k10 .double (0 : Int32) [] (.double (0 : UInt64)) := (Arv.new A10 (by decide)).pad (pad_rep [] (.double (0 : UInt64)) 0)
  refine own_up st10 ?_
  show own_Go p.tables e below _ (T10.setTop (mkF m 37 #[.val (.ref a), .val (.int (0 : Int32))] [(.ref b10), (.ref a)]))
  obtain ⟨T11, h11, X11, e11, W11, st11⟩ := putF X10 hx hZ hown (host := "") (Or.inl (hw _ (List.mem_of_getElem? (i := 21) rfl))) Via.refl e10 F_sums_a E_a (Or.inr ⟨(hw _ (List.mem_of_getElem? (i := 22) rfl)), rfl, hnm⟩) (hw _ (List.mem_of_getElem? (i := 2) rfl)) (ty := (.array .double)) (by decide) rfl rfl (g := (mkF m 37 #[.val (.ref a), .val (.int (0 : Int32))] [(.ref b10), (.ref a)])) rfl rfl (hb hby d1_37)
  have N11 := Fr.snoc X11 N9 g_a
  have F_sums_a := F_sums_a.same W11
  have E_a := E_a.wr W11
  have F_numbers_a := F_numbers_a.other W11 (Or.inr (slot_ne (Or.inr (hw _ (List.mem_of_getElem? (i := 13) rfl))) (Or.inr (hw _ (List.mem_of_getElem? (i := 22) rfl))) (by decide) (t := (.array (.array .double))) (t' := (.array .double)) (by decide) (by decide)))
  have F_factors_a := F_factors_a.other W11 (Or.inr (slot_ne (Or.inr (hw _ (List.mem_of_getElem? (i := 16) rfl))) (Or.inr (hw _ (List.mem_of_getElem? (i := 22) rfl))) (by decide) (t := (.array .double)) (t' := (.array .double)) (by decide) (by decide)))
  have F_least_a := F_least_a.other W11 (Or.inr (slot_ne (Or.inr (hw _ (List.mem_of_getElem? (i := 18) rfl))) (Or.inr (hw _ (List.mem_of_getElem? (i := 22) rfl))) (by decide) (t := (.array .double)) (t' := (.array .double)) (by decide) (by decide)))
  have F_greatest_a := F_greatest_a.other W11 (Or.inr (slot_ne (Or.inr (hw _ (List.mem_of_getElem? (i := 20) rfl))) (Or.inr (hw _ (List.mem_of_getElem? (i := 22) rfl))) (by decide) (t := (.array .double)) (t' := (.array .double)) (by decide) (by decide)))
  have F_maxima_a := F_maxima_a.other W11 (Or.inr (slot_ne (Or.inr (hw _ (List.mem_of_getElem? (i := 24) rfl))) (Or.inr (hw _ (List.mem_of_getElem? (i := 22) rfl))) (by decide) (t := (.array .double)) (t' := (.array .double)) (by decide) (by decide)))
  have F_entries_a := F_entries_a.other W11 (Or.inr (slot_ne (Or.inr (hw _ (List.mem_of_getElem? (i := 27) rfl))) (Or.inr (hw _ (List.mem_of_getElem? (i := 22) rfl))) (by decide) (t := (.array .long)) (t' := (.array .double)) (by decide) (by decide)))
  have V_b2 := V_b2.other W11 (Ne.symm ne_a_b2)
  have V_b4 := V_b4.other W11 (Ne.symm ne_a_b4)
  have V_b6 := V_b6.other W11 (Ne.symm ne_a_b6)
  have V_b8 := V_b8.other W11 (Ne.symm ne_a_b8)
  have V_b10 := V_b10.other W11 (Ne.symm ne_a_b10)
  have ZH := Nat.le_trans ZH (Nat.le_of_eq W11.size.symm)
  have KK := KK.wr W11 (Or.inl (List.mem_of_getElem? (i := 0) rfl))
  refine own_up st11 ?_
  show own_Go p.tables e below _ (T11.setTop (mkF m 40 #[.val (.ref a), .val (.int (0 : Int32))] []))
  refine own_up (fun _ kq => XS.aloadN X11.here hx rfl (hb hby d1_40) rfl rfl kq) ?_
  show own_Go p.tables e below _ (T11.setTop (mkF m 41 #[.val (.ref a), .val (.int (0 : Int32))] [(.ref a)]))
  refine own_up (fun _ kq => XS.iloadN X11.here hx rfl (hb hby d1_41) rfl kq) ?_
  show own_Go p.tables e below _ (T11.setTop (mkF m 42 #[.val (.ref a), .val (.int (0 : Int32))] [(.int (0 : Int32)), (.ref a)]))
  obtain ⟨T12, h12, k12, X12, e12, E12, A12, st12⟩ := newP X11 hx hZ (hw _ (List.mem_of_getElem? (i := 14) rfl)) e11 (g := (mkF m 42 #[.val (.ref a), .val (.int (0 : Int32))] [(.int (0 : Int32)), (.ref a)])) rfl (hb hby d1_42) rfl (by decide) (cap := 0) (by decide) (by decide) (by decide) (by decide)
  obtain ⟨b12, gz12⟩ : ∃ z, z = h11.size := ⟨_, rfl⟩
  rw [← gz12] at A12 st12
  have ne_a_b12 : a ≠ b12 := Nat.ne_of_lt (Nat.lt_of_lt_of_le E_a.lt (Nat.le_of_eq gz12.symm))
  have ne_b2_b12 : b2 ≠ b12 := Nat.ne_of_lt (Nat.lt_of_lt_of_le V_b2.lt (Nat.le_of_eq gz12.symm))
  have ne_b4_b12 : b4 ≠ b12 := Nat.ne_of_lt (Nat.lt_of_lt_of_le V_b4.lt (Nat.le_of_eq gz12.symm))
  have ne_b6_b12 : b6 ≠ b12 := Nat.ne_of_lt (Nat.lt_of_lt_of_le V_b6.lt (Nat.le_of_eq gz12.symm))
  have ne_b8_b12 : b8 ≠ b12 := Nat.ne_of_lt (Nat.lt_of_lt_of_le V_b8.lt (Nat.le_of_eq gz12.symm))
  have g_b12 : n0 ≤ b12 := Nat.le_trans ZH (Nat.le_of_eq gz12.symm)
  have sz_b12 : h0.size ≤ b12 := Nat.le_trans KK.1 (Nat.le_of_eq gz12.symm)
  have E_a := E_a.ext E12
  have F_numbers_a := F_numbers_a.ext E12
  have F_factors_a := F_factors_a.ext E12
  have F_least_a := F_least_a.ext E12
  have F_greatest_a := F_greatest_a.ext E12
  have F_maxima_a := F_maxima_a.ext E12
  have F_entries_a := F_entries_a.ext E12
  have V_b2 := V_b2.ext E12
  have V_b4 := V_b4.ext E12
  have V_b6 := V_b6.ext E12
  have V_b8 := V_b8.ext E12
  have ZH := Nat.le_trans ZH E12.1
  have KK := KK.ext E12
  have V_b12 : Arv Z h12 b12 k12 .double (0 : Int32) [] (.double (0 : UInt64)) := (Arv.new A12 (by decide)).pad (pad_rep [] (.double (0 : UInt64)) 0)
  refine own_up st12 ?_
  show own_Go p.tables e below _ (T12.setTop (mkF m 44 #[.val (.ref a), .val (.int (0 : Int32))] [(.ref b12), (.ref a)]))
  obtain ⟨T13, h13, X13, e13, W13, st13⟩ := putF X12 hx hZ hown (host := "") (Or.inl (hw _ (List.mem_of_getElem? (i := 23) rfl))) Via.refl e12 F_maxima_a E_a (Or.inr ⟨(hw _ (List.mem_of_getElem? (i := 24) rfl)), rfl, hnm⟩) (hw _ (List.mem_of_getElem? (i := 2) rfl)) (ty := (.array .double)) (by decide) rfl rfl (g := (mkF m 44 #[.val (.ref a), .val (.int (0 : Int32))] [(.ref b12), (.ref a)])) rfl rfl (hb hby d1_44)
  have N13 := Fr.snoc X13 N11 g_a
  have F_maxima_a := F_maxima_a.same W13
  have E_a := E_a.wr W13
  have F_numbers_a := F_numbers_a.other W13 (Or.inr (slot_ne (Or.inr (hw _ (List.mem_of_getElem? (i := 13) rfl))) (Or.inr (hw _ (List.mem_of_getElem? (i := 24) rfl))) (by decide) (t := (.array (.array .double))) (t' := (.array .double)) (by decide) (by decide)))
  have F_factors_a := F_factors_a.other W13 (Or.inr (slot_ne (Or.inr (hw _ (List.mem_of_getElem? (i := 16) rfl))) (Or.inr (hw _ (List.mem_of_getElem? (i := 24) rfl))) (by decide) (t := (.array .double)) (t' := (.array .double)) (by decide) (by decide)))
  have F_least_a := F_least_a.other W13 (Or.inr (slot_ne (Or.inr (hw _ (List.mem_of_getElem? (i := 18) rfl))) (Or.inr (hw _ (List.mem_of_getElem? (i := 24) rfl))) (by decide) (t := (.array .double)) (t' := (.array .double)) (by decide) (by decide)))
  have F_greatest_a := F_greatest_a.other W13 (Or.inr (slot_ne (Or.inr (hw _ (List.mem_of_getElem? (i := 20) rfl))) (Or.inr (hw _ (List.mem_of_getElem? (i := 24) rfl))) (by decide) (t := (.array .double)) (t' := (.array .double)) (by decide) (by decide)))
  have F_entries_a := F_entries_a.other W13 (Or.inr (slot_ne (Or.inr (hw _ (List.mem_of_getElem? (i := 27) rfl))) (Or.inr (hw _ (List.mem_of_getElem? (i := 24) rfl))) (by decide) (t := (.array .long)) (t' := (.array .double)) (by decide) (by decide)))
  have V_b2 := V_b2.other W13 (Ne.symm ne_a_b2)
  have V_b4 := V_b4.other W13 (Ne.symm ne_a_b4)
  have V_b6 := V_b6.other W13 (Ne.symm ne_a_b6)
  have V_b8 := V_b8.other W13 (Ne.symm ne_a_b8)
  have V_b12 := V_b12.other W13 (Ne.symm ne_a_b12)
  have ZH := Nat.le_trans ZH (Nat.le_of_eq W13.size.symm)
  have KK := KK.wr W13 (Or.inl (List.mem_of_getElem? (i := 0) rfl))
  refine own_up st13 ?_
  show own_Go p.tables e below _ (T13.setTop (mkF m 47 #[.val (.ref a), .val (.int (0 : Int32))] []))
  refine own_up (fun _ kq => XS.aloadN X13.here hx rfl (hb hby d1_47) rfl rfl kq) ?_
  show own_Go p.tables e below _ (T13.setTop (mkF m 48 #[.val (.ref a), .val (.int (0 : Int32))] [(.ref a)]))
  refine own_up (fun _ kq => XS.iloadN X13.here hx rfl (hb hby d1_48) rfl kq) ?_
  show own_Go p.tables e below _ (T13.setTop (mkF m 49 #[.val (.ref a), .val (.int (0 : Int32))] [(.int (0 : Int32)), (.ref a)]))
  obtain ⟨T14, h14, k14, X14, e14, E14, A14, st14⟩ := newP X13 hx hZ (hw _ (List.mem_of_getElem? (i := 25) rfl)) e13 (g := (mkF m 49 #[.val (.ref a), .val (.int (0 : Int32))] [(.int (0 : Int32)), (.ref a)])) rfl (hb hby d1_49) rfl (by decide) (cap := 0) (by decide) (by decide) (by decide) (by decide)
  obtain ⟨b14, gz14⟩ : ∃ z, z = h13.size := ⟨_, rfl⟩
  rw [← gz14] at A14 st14
  have ne_a_b14 : a ≠ b14 := Nat.ne_of_lt (Nat.lt_of_lt_of_le E_a.lt (Nat.le_of_eq gz14.symm))
  have ne_b2_b14 : b2 ≠ b14 := Nat.ne_of_lt (Nat.lt_of_lt_of_le V_b2.lt (Nat.le_of_eq gz14.symm))
  have ne_b4_b14 : b4 ≠ b14 := Nat.ne_of_lt (Nat.lt_of_lt_of_le V_b4.lt (Nat.le_of_eq gz14.symm))
  have ne_b6_b14 : b6 ≠ b14 := Nat.ne_of_lt (Nat.lt_of_lt_of_le V_b6.lt (Nat.le_of_eq gz14.symm))
  have ne_b8_b14 : b8 ≠ b14 := Nat.ne_of_lt (Nat.lt_of_lt_of_le V_b8.lt (Nat.le_of_eq gz14.symm))
  have g_b14 : n0 ≤ b14 := Nat.le_trans ZH (Nat.le_of_eq gz14.symm)
  have sz_b14 : h0.size ≤ b14 := Nat.le_trans KK.1 (Nat.le_of_eq gz14.symm)
  have E_a := E_a.ext E14
  have F_numbers_a := F_numbers_a.ext E14
  have F_factors_a := F_factors_a.ext E14
  have F_least_a := F_least_a.ext E14
  have F_greatest_a := F_greatest_a.ext E14
  have F_entries_a := F_entries_a.ext E14
  have V_b2 := V_b2.ext E14
  have V_b4 := V_b4.ext E14
  have V_b6 := V_b6.ext E14
  have V_b8 := V_b8.ext E14
  have ZH := Nat.le_trans ZH E14.1
  have KK := KK.ext E14
  have V_b14 : Arv Z h14 b14 k14 .long (0 : Int32) [] (.long (0 : Int64)) := (Arv.new A14 (by decide)).pad (pad_rep [] (.long (0 : Int64)) 0)
  refine own_up st14 ?_
  show own_Go p.tables e below _ (T14.setTop (mkF m 51 #[.val (.ref a), .val (.int (0 : Int32))] [(.ref b14), (.ref a)]))
  obtain ⟨T15, h15, X15, e15, W15, st15⟩ := putF X14 hx hZ hown (host := "") (Or.inl (hw _ (List.mem_of_getElem? (i := 26) rfl))) Via.refl e14 F_entries_a E_a (Or.inr ⟨(hw _ (List.mem_of_getElem? (i := 27) rfl)), rfl, hnm⟩) (hw _ (List.mem_of_getElem? (i := 2) rfl)) (ty := (.array .long)) (by decide) rfl rfl (g := (mkF m 51 #[.val (.ref a), .val (.int (0 : Int32))] [(.ref b14), (.ref a)])) rfl rfl (hb hby d1_51)
  have N15 := Fr.snoc X15 N13 g_a
  have F_entries_a := F_entries_a.same W15
  have E_a := E_a.wr W15
  have F_numbers_a := F_numbers_a.other W15 (Or.inr (slot_ne (Or.inr (hw _ (List.mem_of_getElem? (i := 13) rfl))) (Or.inr (hw _ (List.mem_of_getElem? (i := 27) rfl))) (by decide) (t := (.array (.array .double))) (t' := (.array .long)) (by decide) (by decide)))
  have F_factors_a := F_factors_a.other W15 (Or.inr (slot_ne (Or.inr (hw _ (List.mem_of_getElem? (i := 16) rfl))) (Or.inr (hw _ (List.mem_of_getElem? (i := 27) rfl))) (by decide) (t := (.array .double)) (t' := (.array .long)) (by decide) (by decide)))
  have F_least_a := F_least_a.other W15 (Or.inr (slot_ne (Or.inr (hw _ (List.mem_of_getElem? (i := 18) rfl))) (Or.inr (hw _ (List.mem_of_getElem? (i := 27) rfl))) (by decide) (t := (.array .double)) (t' := (.array .long)) (by decide) (by decide)))
  have F_greatest_a := F_greatest_a.other W15 (Or.inr (slot_ne (Or.inr (hw _ (List.mem_of_getElem? (i := 20) rfl))) (Or.inr (hw _ (List.mem_of_getElem? (i := 27) rfl))) (by decide) (t := (.array .double)) (t' := (.array .long)) (by decide) (by decide)))
  have V_b2 := V_b2.other W15 (Ne.symm ne_a_b2)
  have V_b4 := V_b4.other W15 (Ne.symm ne_a_b4)
  have V_b6 := V_b6.other W15 (Ne.symm ne_a_b6)
  have V_b8 := V_b8.other W15 (Ne.symm ne_a_b8)
  have V_b14 := V_b14.other W15 (Ne.symm ne_a_b14)
  have ZH := Nat.le_trans ZH (Nat.le_of_eq W15.size.symm)
  have KK := KK.wr W15 (Or.inl (List.mem_of_getElem? (i := 0) rfl))
  refine own_up st15 ?_
  show own_Go p.tables e below _ (T15.setTop (mkF m 54 #[.val (.ref a), .val (.int (0 : Int32))] []))
  obtain ⟨fs16, hr16, hrun16, hended16, hW16, hsame16⟩ := X15.leave (v := none) (fun _ => rfl)
  refine own_end ⟨_, _, ?_, hrun16, hended16, _, _, rfl, ?_, ⟨_, rfl⟩, hW16, hsame16.mono (by decide) (by decide)⟩
  · exact X15.returnOut hx Bd.returns (hb hby d1_54) hr16
  · show QrmC0 Z a h0 n0 _ T15.heap _
    rw [e15]
    exact ⟨rfl, N15, KK, b2, b4, b6, b8, k2, k4, k6, k8, sz_b4, ne_b2_b4, (Ne.symm ne_b4_b6), (Ne.symm ne_b4_b8), F_numbers_a, F_factors_a, F_least_a, F_greatest_a, V_b2, V_b4, V_b6, V_b8⟩
theorem ef_rmC1 (m : MethodId) (x0 : Addr) (x1 : Int32) : entryFrame m #[(.ref x0), (.int x1)] 2 = mkF m 0 #[.val (.ref x0), .val (.int x1)] [] := by first | (simp [entryFrame, mkF, argsToLocals, Value.category]; done) | rfl
def QrmC1 (Z : State) (a : Addr) (h0 : Heap) (n0 : Nat) (v : Option Value) (h : Heap) (L : List Loc) : Prop := v = none ∧ Fr n0 L ∧ Keep h0 h [a] ∧ ∃ (bn bf bl bg : Addr) (kn kf kl kg : ClassId), h0.size ≤ bf ∧ bn ≠ bf ∧ bl ≠ bf ∧ bg ≠ bf ∧ Fld Z h a "com/example/parley/parley/algorithms/Dgls$Modifiers" "numbers" "[[D" (.ref bn) ∧ Fld Z h a "com/example/parley/parley/algorithms/Dgls$Modifiers" "factors" "[D" (.ref bf) ∧ Fld Z h a "com/example/parley/parley/algorithms/Dgls$Modifiers" "least" "[D" (.ref bl) ∧ Fld Z h a "com/example/parley/parley/algorithms/Dgls$Modifiers" "greatest" "[D" (.ref bg) ∧ Arv Z h bn kn (.array .double) (1 : Int32) [.null] .null ∧ Arv Z h bf kf .double (1 : Int32) [(.double (0 : UInt64))] (.double (0 : UInt64)) ∧ Arv Z h bl kl .double (1 : Int32) [(.double (0 : UInt64))] (.double (0 : UInt64)) ∧ Arv Z h bg kg .double (1 : Int32) [(.double (0 : UInt64))] (.double (0 : UInt64))
set_option maxRecDepth 65536 in
set_option maxHeartbeats 40000000 in
theorem rmC1 (l : Launch) (Z : State) (a0 : Array Value) (hw : ∀ d ∈ tables_1, d.before a0 Z = true) (ws : List Jvm.Cond) (a : Addr) (h0 : Heap) (n0 : Nat) (Z0 : n0 ≤ h0.size) (E_a : Exa Z h0 a "com/example/parley/parley/algorithms/Dgls$Modifiers") (F_numbers_a : Fld Z h0 a "com/example/parley/parley/algorithms/Dgls$Modifiers" "numbers" "[[D" .null) (F_factors_a : Fld Z h0 a "com/example/parley/parley/algorithms/Dgls$Modifiers" "factors" "[D" .null) (F_least_a : Fld Z h0 a "com/example/parley/parley/algorithms/Dgls$Modifiers" "least" "[D" .null) (F_greatest_a : Fld Z h0 a "com/example/parley/parley/algorithms/Dgls$Modifiers" "greatest" "[D" .null) (F_sums_a : Fld Z h0 a "com/example/parley/parley/algorithms/Dgls$Modifiers" "sums" "[D" .null) (F_maxima_a : Fld Z h0 a "com/example/parley/parley/algorithms/Dgls$Modifiers" "maxima" "[D" .null) (F_entries_a : Fld Z h0 a "com/example/parley/parley/algorithms/Dgls$Modifiers" "entries" "[J" .null) (g_a : n0 ≤ a) :
    MetFree l (⟨"com/example/parley/parley/algorithms/Dgls$Modifiers", "<init>", "(I)V"⟩ : MethodName) (head1 (Jvm.Cond.code (⟨"com/example/parley/parley/algorithms/Dgls$Modifiers", "<init>", "(I)V"⟩ : MethodName) prog_8_method_1_code 2 none :: ws) ({ frames := 1, cells := 7, slots := 7, locals := 12 } : Room)) (fun aq Uq => aq = #[(.ref a), (.int (1 : Int32))] ∧ Z.Warmed39 Uq.vm ∧ Uq.heap = h0) (fun _ _ _ _ _ => True) (fun _ Uq oq Uq' => ∃ vq Lq, oq = .returned vq ∧ QrmC1 Z a h0 n0 vq Uq'.heap Lq ∧ FrameEnd Uq oq Uq' Lq ({ frames := 1, cells := 7, slots := 7, locals := 12 } : Room).cells ({ frames := 1, cells := 7, slots := 7, locals := 12 } : Room).slots) := by
  refine MetFree.of_bodySF (plainFor_of_name pn_0) hisR ?_
  intro p e s m args below meth c s₁ Bd hml0 hP hK
  obtain ⟨rfl, hZ, hh⟩ := hP
  have hx := Bd.exec
  have hby := Bd.bytes
  have hml : c.maxLocals = 2 := hml0
  have hown : s.vm.findClass "com/example/parley/parley/algorithms/Dgls$Modifiers" = some m.cls := findClass_of_methodNamed Bd.named
  have hnm := (name_of_methodNamed Bd.named Bd.method).1
  have X0 : Stand p l e ({ frames := 1, cells := 7, slots := 7, locals := 12 } : Room) s m #[(.ref a), (.int (1 : Int32))] below meth c s₁ [] 0 0 := Stand.of_body Bd
  have e0 : s₁.heap = h0 := by rw [← hh, Bd.state]; rfl
  have N0 := Fr.nil n0
  have ZH := Z0
  have KK := Keep.refl h0 [a]
  refine own_start (fun t kq => castTop (ef_rmC1 m a (1 : Int32)) kq) ?_
  show own_Go p.tables e below _ (s₁.setTop (mkF m 0 #[.val (.ref a), .val (.int (1 : Int32))] []))
  refine own_up (fun _ kq => XS.aloadN X0.here hx rfl (hb hby d1_0) rfl rfl kq) ?_
  show own_Go p.tables e below _ (s₁.setTop (mkF m 1 #[.val (.ref a), .val (.int (1 : Int32))] [(.ref a)]))
  obtain ⟨T1, X1, e1, st1⟩ := initO X0 hx hZ hown (hw _ (List.mem_of_getElem? (i := 7) rfl)) (hw _ (List.mem_of_getElem? (i := 8) rfl)) (hw _ (List.mem_of_getElem? (i := 9) rfl)) e0 (g := (mkF m 1 #[.val (.ref a), .val (.int (1 : Int32))] [(.ref a)])) rfl (by rw [hml]; rfl) rfl (hb hby d1_1) (by decide) (W := 0) (by show 2 * 0 + _ ≤ _; exact Nat.le_of_eq rfl) (by decide)
  refine own_up st1 ?_
  show own_Go p.tables e below _ (T1.setTop (mkF m 4 #[.val (.ref a), .val (.int (1 : Int32))] []))
  refine own_up (fun _ kq => XS.aloadN X1.here hx rfl (hb hby d1_4) rfl rfl kq) ?_
  show own_Go p.tables e below _ (T1.setTop (mkF m 5 #[.val (.ref a), .val (.int (1 : Int32))] [(.ref a)]))
  refine own_up (fun _ kq => XS.iloadN X1.here hx rfl (hb hby d1_5) rfl kq) ?_
  show own_Go p.tables e below _ (T1.setTop (mkF m 6 #[.val (.ref a), .val (.int (1 : Int32))] [(.int (1 : Int32)), (.ref a)]))
  obtain ⟨T2, h2, k2, X2, e2, E2, A2, B2, O2, st2⟩ := newRA X1 hx hZ hown (ty := .double) rfl (hw _ (List.mem_of_getElem? (i := 10) rfl)) (hw _ (List.mem_of_getElem? (i := 11) rfl)) e1 (g := (mkF m 6 #[.val (.ref a), .val (.int (1 : Int32))] [(.int (1 : Int32)), (.ref a)])) rfl (hb hby d1_6) rfl (by decide) (cap := 1) (by decide) (by decide) (by decide) (by decide) (ad := "[[D") rfl
  obtain ⟨b2, gz2⟩ : ∃ z, z = h0.size := ⟨_, rfl⟩
  rw [← gz2] at A2 st2
  have ne_a_b2 : a ≠ b2 := Nat.ne_of_lt (Nat.lt_of_lt_of_le E_a.lt (Nat.le_of_eq gz2.symm))
  have g_b2 : n0 ≤ b2 := Nat.le_trans ZH (Nat.le_of_eq gz2.symm)
  have sz_b2 : h0.size ≤ b2 := Nat.le_trans KK.1 (Nat.le_of_eq gz2.symm)
  have E_a := E_a.ext E2
  have F_numbers_a := F_numbers_a.ext E2
  have F_factors_a := F_factors_a.ext E2
  have F_least_a := F_least_a.ext E2
  have F_greatest_a := F_greatest_a.ext E2
  have F_sums_a := F_sums_a.ext E2
  have F_maxima_a := F_maxima_a.ext E2
  have F_entries_a := F_entries_a.ext E2
  have ZH := Nat.le_trans ZH E2.1
  have KK := KK.ext E2
  have V_b2 : Arv Z h2 b2 k2 (.array .double) (1 : Int32) [.null] .null := (Arv.new A2 (by decide)).pad (pad_rep [] .null 1)
  refine own_up st2 ?_
  show own_Go p.tables e below _ (T2.setTop (mkF m 9 #[.val (.ref a), .val (.int (1 : Int32))] [(.ref b2), (.ref a)]))
  obtain ⟨T3, h3, X3, e3, W3, st3⟩ := putF X2 hx hZ hown (host := "") (Or.inl (hw _ (List.mem_of_getElem? (i := 12) rfl))) Via.refl e2 F_numbers_a E_a (Or.inr ⟨(hw _ (List.mem_of_getElem? (i := 13) rfl)), rfl, hnm⟩) (hw _ (List.mem_of_getElem? (i := 2) rfl)) (ty := (.array (.array .double))) (by decide) rfl rfl (g := (mkF m 9 #[.val (.ref a), .val (.int (1 : Int32))] [(.ref b2), (.ref a)])) rfl rfl (hb hby d1_9)
  have N3 := Fr.snoc X3 N0 g_a
  have F_numbers_a := F_numbers_a.same W3
  have E_a := E_a.wr W3
  have F_factors_a := F_factors_a.other W3 (Or.inr (slot_ne (Or.inr (hw _ (List.mem_of_getElem? (i := 16) rfl))) (Or.inr (hw _ (List.mem_of_getElem? (i := 13) rfl))) (by decide) (t := (.array .double)) (t' := (.array (.array .double))) (by decide) (by decide)))
  have F_least_a := F_least_a.other W3 (Or.inr (slot_ne (Or.inr (hw _ (List.mem_of_getElem? (i := 18) rfl))) (Or.inr (hw _ (List.mem_of_getElem? (i := 13) rfl))) (by decide) (t := (.array .double)) (t' := (.array (.array .double))) (by decide) (by decide)))
  have F_greatest_a := F_greatest_a.other W3 (Or.inr (slot_ne (Or.inr (hw _ (List.mem_of_getElem? (i := 20) rfl))) (Or.inr (hw _ (List.mem_of_getElem? (i := 13) rfl))) (by decide) (t := (.array .double)) (t' := (.array (.array .double))) (by decide) (by decide)))
  have F_sums_a := F_sums_a.other W3 (Or.inr (slot_ne (Or.inr (hw _ (List.mem_of_getElem? (i := 22) rfl))) (Or.inr (hw _ (List.mem_of_getElem? (i := 13) rfl))) (by decide) (t := (.array .double)) (t' := (.array (.array .double))) (by decide) (by decide)))
  have F_maxima_a := F_maxima_a.other W3 (Or.inr (slot_ne (Or.inr (hw _ (List.mem_of_getElem? (i := 24) rfl))) (Or.inr (hw _ (List.mem_of_getElem? (i := 13) rfl))) (by decide) (t := (.array .double)) (t' := (.array (.array .double))) (by decide) (by decide)))
  have F_entries_a := F_entries_a.other W3 (Or.inr (slot_ne (Or.inr (hw _ (List.mem_of_getElem? (i := 27) rfl))) (Or.inr (hw _ (List.mem_of_getElem? (i := 13) rfl))) (by decide) (t := (.array .long)) (t' := (.array (.array .double))) (by decide) (by decide)))
  have V_b2 := V_b2.other W3 (Ne.symm ne_a_b2)
  have ZH := Nat.le_trans ZH (Nat.le_of_eq W3.size.symm)
  have KK := KK.wr W3 (Or.inl (List.mem_of_getElem? (i := 0) rfl))
  refine own_up st3 ?_
  show own_Go p.tables e below _ (T3.setTop (mkF m 12 #[.val (.ref a), .val (.int (1 : Int32))] []))
  refine own_up (fun _ kq => XS.aloadN X3.here hx rfl (hb hby d1_12) rfl rfl kq) ?_
  show own_Go p.tables e below _ (T3.setTop (mkF m 13 #[.val (.ref a), .val (.int (1 : Int32))] [(.ref a)]))
  refine own_up (fun _ kq => XS.iloadN X3.here hx rfl (hb hby d1_13) rfl kq) ?_
  show own_Go p.tables e below _ (T3.setTop (mkF m 14 #[.val (.ref a), .val (.int (1 : Int32))] [(.int (1 : Int32)), (.ref a)]))
  obtain ⟨T4, h4, k4, X4, e4, E4, A4, st4⟩ := newP X3 hx hZ (hw _ (List.mem_of_getElem? (i := 14) rfl)) e3 (g := (mkF m 14 #[.val (.ref a), .val (.int (1 : Int32))] [(.int (1 : Int32)), (.ref a)])) rfl (hb hby d1_14) rfl (by decide) (cap := 1) (by decide) (by decide) (by decide) (by decide)
  obtain ⟨b4, gz4⟩ : ∃ z, z = h3.size := ⟨_, rfl⟩
  rw [← gz4] at A4 st4
  have ne_a_b4 : a ≠ b4 := Nat.ne_of_lt (Nat.lt_of_lt_of_le E_a.lt (Nat.le_of_eq gz4.symm))
  have ne_b2_b4 : b2 ≠ b4 := Nat.ne_of_lt (Nat.lt_of_lt_of_le V_b2.lt (Nat.le_of_eq gz4.symm))
  have g_b4 : n0 ≤ b4 := Nat.le_trans ZH (Nat.le_of_eq gz4.symm)
  have sz_b4 : h0.size ≤ b4 := Nat.le_trans KK.1 (Nat.le_of_eq gz4.symm)
  have E_a := E_a.ext E4
  have F_numbers_a := F_numbers_a.ext E4
  have F_factors_a := F_factors_a.ext E4
  have F_least_a := F_least_a.ext E4
  have F_greatest_a := F_greatest_a.ext E4
  have F_sums_a := F_sums_a.ext E4
  have F_maxima_a := F_maxima_a.ext E4
  have F_entries_a := F_entries_a.ext E4
  have V_b2 := V_b2.ext E4
  have ZH := Nat.le_trans ZH E4.1
  have KK := KK.ext E4
  have V_b4 : Arv Z h4 b4 k4 .double (1 : Int32) [(.double (0 : UInt64))] (.double (0 : UInt64)) := (Arv.new A4 (by decide)).pad (pad_rep [] (.double (0 : UInt64)) 1)
  refine own_up st4 ?_
  show own_Go p.tables e below _ (T4.setTop (mkF m 16 #[.val (.ref a), .val (.int (1 : Int32))] [(.ref b4), (.ref a)]))
  obtain ⟨T5, h5, X5, e5, W5, st5⟩ := putF X4 hx hZ hown (host := "") (Or.inl (hw _ (List.mem_of_getElem? (i := 15) rfl))) Via.refl e4 F_factors_a E_a (Or.inr ⟨(hw _ (List.mem_of_getElem? (i := 16) rfl)), rfl, hnm⟩) (hw _ (List.mem_of_getElem? (i := 2) rfl)) (ty := (.array .double)) (by decide) rfl rfl (g := (mkF m 16 #[.val (.ref a), .val (.int (1 : Int32))] [(.ref b4), (.ref a)])) rfl rfl (hb hby d1_16)
  have N5 := Fr.snoc X5 N3 g_a
  have F_factors_a := F_factors_a.same W5
  have E_a := E_a.wr W5
  have F_numbers_a := F_numbers_a.other W5 (Or.inr (slot_ne (Or.inr (hw _ (List.mem_of_getElem? (i := 13) rfl))) (Or.inr (hw _ (List.mem_of_getElem? (i := 16) rfl))) (by decide) (t := (.array (.array .double))) (t' := (.array .double)) (by decide) (by decide)))
  have F_least_a := F_least_a.other W5 (Or.inr (slot_ne (Or.inr (hw _ (List.mem_of_getElem? (i := 18) rfl))) (Or.inr (hw _ (List.mem_of_getElem? (i := 16) rfl))) (by decide) (t := (.array .double)) (t' := (.array .double)) (by decide) (by decide)))
  have F_greatest_a := F_greatest_a.other W5 (Or.inr (slot_ne (Or.inr (hw _ (List.mem_of_getElem? (i := 20) rfl))) (Or.inr (hw _ (List.mem_of_getElem? (i := 16) rfl))) (by decide) (t := (.array .double)) (t' := (.array .double)) (by decide) (by decide)))
  have F_sums_a := F_sums_a.other W5 (Or.inr (slot_ne (Or.inr (hw _ (List.mem_of_getElem? (i := 22) rfl))) (Or.inr (hw _ (List.mem_of_getElem? (i := 16) rfl))) (by decide) (t := (.array .double)) (t' := (.array .double)) (by decide) (by decide)))
  have F_maxima_a := F_maxima_a.other W5 (Or.inr (slot_ne (Or.inr (hw _ (List.mem_of_getElem? (i := 24) rfl))) (Or.inr (hw _ (List.mem_of_getElem? (i := 16) rfl))) (by decide) (t := (.array .double)) (t' := (.array .double)) (by decide) (by decide)))
  have F_entries_a := F_entries_a.other W5 (Or.inr (slot_ne (Or.inr (hw _ (List.mem_of_getElem? (i := 27) rfl))) (Or.inr (hw _ (List.mem_of_getElem? (i := 16) rfl))) (by decide) (t := (.array .long)) (t' := (.array .double)) (by decide) (by decide)))
  have V_b2 := V_b2.other W5 (Ne.symm ne_a_b2)
  have V_b4 := V_b4.other W5 (Ne.symm ne_a_b4)
  have ZH := Nat.le_trans ZH (Nat.le_of_eq W5.size.symm)
  have KK := KK.wr W5 (Or.inl (List.mem_of_getElem? (i := 0) rfl))
  refine own_up st5 ?_
  show own_Go p.tables e below _ (T5.setTop (mkF m 19 #[.val (.ref a), .val (.int (1 : Int32))] []))
  refine own_up (fun _ kq => XS.aloadN X5.here hx rfl (hb hby d1_19) rfl rfl kq) ?_
  show own_Go p.tables e below _ (T5.setTop (mkF m 20 #[.val (.ref a), .val (.int (1 : Int32))] [(.ref a)]))
  refine own_up (fun _ kq => XS.iloadN X5.here hx rfl (hb hby d1_20) rfl kq) ?_
  show own_Go p.tables e below _ (T5.setTop (mkF m 21 #[.val (.ref a), .val (.int (1 : Int32))] [(.int (1 : Int32)), (.ref a)]))
  obtain ⟨T6, h6, k6, X6, e6, E6, A6, st6⟩ := newP X5 hx hZ (hw _ (List.mem_of_getElem? (i := 14) rfl)) e5 (g := (mkF m 21 #[.val (.ref a), .val (.int (1 : Int32))] [(.int (1 : Int32)), (.ref a)])) rfl (hb hby d1_21) rfl (by decide) (cap := 1) (by decide) (by decide) (by decide) (by decide)
  obtain ⟨b6, gz6⟩ : ∃ z, z = h5.size := ⟨_, rfl⟩
  rw [← gz6] at A6 st6
  have ne_a_b6 : a ≠ b6 := Nat.ne_of_lt (Nat.lt_of_lt_of_le E_a.lt (Nat.le_of_eq gz6.symm))
  have ne_b2_b6 : b2 ≠ b6 := Nat.ne_of_lt (Nat.lt_of_lt_of_le V_b2.lt (Nat.le_of_eq gz6.symm))
  have ne_b4_b6 : b4 ≠ b6 := Nat.ne_of_lt (Nat.lt_of_lt_of_le V_b4.lt (Nat.le_of_eq gz6.symm))
  have g_b6 : n0 ≤ b6 := Nat.le_trans ZH (Nat.le_of_eq gz6.symm)
  have sz_b6 : h0.size ≤ b6 := Nat.le_trans KK.1 (Nat.le_of_eq gz6.symm)
  have E_a := E_a.ext E6
  have F_numbers_a := F_numbers_a.ext E6
  have F_factors_a := F_factors_a.ext E6
  have F_least_a := F_least_a.ext E6
  have F_greatest_a := F_greatest_a.ext E6
  have F_sums_a := F_sums_a.ext E6
  have F_maxima_a := F_maxima_a.ext E6
  have F_entries_a := F_entries_a.ext E6
  have V_b2 := V_b2.ext E6
  have V_b4 := V_b4.ext E6
  have ZH := Nat.le_trans ZH E6.1
  have KK := KK.ext E6
  have V_b6 : Arv Z h6 b6 k6 .double (1 : Int32) [(.double (0 : UInt64))] (.double (0 : UInt64)) := (Arv.new A6 (by decide)).pad (pad_rep [] (.double (0 : UInt64)) 1)
  refine own_up st6 ?_
  show own_Go p.tables e below _ (T6.setTop (mkF m 23 #[.val (.ref a), .val (.int (1 : Int32))] [(.ref b6), (.ref a)]))
  obtain ⟨T7, h7, X7, e7, W7, st7⟩ := putF X6 hx hZ hown (host := "") (Or.inl (hw _ (List.mem_of_getElem? (i := 17) rfl))) Via.refl e6 F_least_a E_a (Or.inr ⟨(hw _ (List.mem_of_getElem? (i := 18) rfl)), rfl, hnm⟩) (hw _ (List.mem_of_getElem? (i := 2) rfl)) (ty := (.array .double)) (by decide) rfl rfl (g := (mkF m 23 #[.val (.ref a), .val (.int (1 : Int32))] [(.ref b6), (.ref a)])) rfl rfl (hb hby d1_23)
  have N7 := Fr.snoc X7 N5 g_a
  have F_least_a := F_least_a.same W7
  have E_a := E_a.wr W7
  have F_numbers_a := F_numbers_a.other W7 (Or.inr (slot_ne (Or.inr (hw _ (List.mem_of_getElem? (i := 13) rfl))) (Or.inr (hw _ (List.mem_of_getElem? (i := 18) rfl))) (by decide) (t := (.array (.array .double))) (t' := (.array .double)) (by decide) (by decide)))
  have F_factors_a := F_factors_a.other W7 (Or.inr (slot_ne (Or.inr (hw _ (List.mem_of_getElem? (i := 16) rfl))) (Or.inr (hw _ (List.mem_of_getElem? (i := 18) rfl))) (by decide) (t := (.array .double)) (t' := (.array .double)) (by decide) (by decide)))
  have F_greatest_a := F_greatest_a.other W7 (Or.inr (slot_ne (Or.inr (hw _ (List.mem_of_getElem? (i := 20) rfl))) (Or.inr (hw _ (List.mem_of_getElem? (i := 18) rfl))) (by decide) (t := (.array .double)) (t' := (.array .double)) (by decide) (by decide)))
  have F_sums_a := F_sums_a.other W7 (Or.inr (slot_ne (Or.inr (hw _ (List.mem_of_getElem? (i := 22) rfl))) (Or.inr (hw _ (List.mem_of_getElem? (i := 18) rfl))) (by decide) (t := (.array .double)) (t' := (.array .double)) (by decide) (by decide)))
  have F_maxima_a := F_maxima_a.other W7 (Or.inr (slot_ne (Or.inr (hw _ (List.mem_of_getElem? (i := 24) rfl))) (Or.inr (hw _ (List.mem_of_getElem? (i := 18) rfl))) (by decide) (t := (.array .double)) (t' := (.array .double)) (by decide) (by decide)))
  have F_entries_a := F_entries_a.other W7 (Or.inr (slot_ne (Or.inr (hw _ (List.mem_of_getElem? (i := 27) rfl))) (Or.inr (hw _ (List.mem_of_getElem? (i := 18) rfl))) (by decide) (t := (.array .long)) (t' := (.array .double)) (by decide) (by decide)))
  have V_b2 := V_b2.other W7 (Ne.symm ne_a_b2)
  have V_b4 := V_b4.other W7 (Ne.symm ne_a_b4)
  have V_b6 := V_b6.other W7 (Ne.symm ne_a_b6)
  have ZH := Nat.le_trans ZH (Nat.le_of_eq W7.size.symm)
  have KK := KK.wr W7 (Or.inl (List.mem_of_getElem? (i := 0) rfl))
  refine own_up st7 ?_
  show own_Go p.tables e below _ (T7.setTop (mkF m 26 #[.val (.ref a), .val (.int (1 : Int32))] []))
  refine own_up (fun _ kq => XS.aloadN X7.here hx rfl (hb hby d1_26) rfl rfl kq) ?_
  show own_Go p.tables e below _ (T7.setTop (mkF m 27 #[.val (.ref a), .val (.int (1 : Int32))] [(.ref a)]))
  refine own_up (fun _ kq => XS.iloadN X7.here hx rfl (hb hby d1_27) rfl kq) ?_
  show own_Go p.tables e below _ (T7.setTop (mkF m 28 #[.val (.ref a), .val (.int (1 : Int32))] [(.int (1 : Int32)), (.ref a)]))
  obtain ⟨T8, h8, k8, X8, e8, E8, A8, st8⟩ := newP X7 hx hZ (hw _ (List.mem_of_getElem? (i := 14) rfl)) e7 (g := (mkF m 28 #[.val (.ref a), .val (.int (1 : Int32))] [(.int (1 : Int32)), (.ref a)])) rfl (hb hby d1_28) rfl (by decide) (cap := 1) (by decide) (by decide) (by decide) (by decide)
  obtain ⟨b8, gz8⟩ : ∃ z, z = h7.size := ⟨_, rfl⟩
  rw [← gz8] at A8 st8
  have ne_a_b8 : a ≠ b8 := Nat.ne_of_lt (Nat.lt_of_lt_of_le E_a.lt (Nat.le_of_eq gz8.symm))
  have ne_b2_b8 : b2 ≠ b8 := Nat.ne_of_lt (Nat.lt_of_lt_of_le V_b2.lt (Nat.le_of_eq gz8.symm))
  have ne_b4_b8 : b4 ≠ b8 := Nat.ne_of_lt (Nat.lt_of_lt_of_le V_b4.lt (Nat.le_of_eq gz8.symm))
  have ne_b6_b8 : b6 ≠ b8 := Nat.ne_of_lt (Nat.lt_of_lt_of_le V_b6.lt (Nat.le_of_eq gz8.symm))
  have g_b8 : n0 ≤ b8 := Nat.le_trans ZH (Nat.le_of_eq gz8.symm)
  have sz_b8 : h0.size ≤ b8 := Nat.le_trans KK.1 (Nat.le_of_eq gz8.symm)
  have E_a := E_a.ext E8
  have F_numbers_a := F_numbers_a.ext E8
  have F_factors_a := F_factors_a.ext E8
  have F_least_a := F_least_a.ext E8
  have F_greatest_a := F_greatest_a.ext E8
  have F_sums_a := F_sums_a.ext E8
  have F_maxima_a := F_maxima_a.ext E8
  have F_entries_a := F_entries_a.ext E8
  have V_b2 := V_b2.ext E8
  have V_b4 := V_b4.ext E8
  have V_b6 := V_b6.ext E8
  have ZH := Nat.le_trans ZH E8.1
  have KK := KK.ext E8
  have V_b8 : Arv Z h8 b8 k8 .double (1 : Int32) [(.double (0 : UInt64))] (.double (0 : UInt64)) := (Arv.new A8 (by decide)).pad (pad_rep [] (.double (0 : UInt64)) 1)
  refine own_up st8 ?_
  show own_Go p.tables e below _ (T8.setTop (mkF m 30 #[.val (.ref a), .val (.int (1 : Int32))] [(.ref b8), (.ref a)]))
  obtain ⟨T9, h9, X9, e9, W9, st9⟩ := putF X8 hx hZ hown (host := "") (Or.inl (hw _ (List.mem_of_getElem? (i := 19) rfl))) Via.refl e8 F_greatest_a E_a (Or.inr ⟨(hw _ (List.mem_of_getElem? (i := 20) rfl)), rfl, hnm⟩) (hw _ (List.mem_of_getElem? (i := 2) rfl)) (ty := (.array .double)) (by decide) rfl rfl (g := (mkF m 30 #[.val (.ref a), .val (.int (1 : Int32))] [(.ref b8), (.ref a)])) rfl rfl (hb hby d1_30)
  have N9 := Fr.snoc X9 N7 g_a
  have F_greatest_a := F_greatest_a.same W9
  have E_a := E_a.wr W9
  have F_numbers_a := F_numbers_a.other W9 (Or.inr (slot_ne (Or.inr (hw _ (List.mem_of_getElem? (i := 13) rfl))) (Or.inr (hw _ (List.mem_of_getElem? (i := 20) rfl))) (by decide) (t := (.array (.array .double))) (t' := (.array .double)) (by decide) (by decide)))
  have F_factors_a := F_factors_a.other W9 (Or.inr (slot_ne (Or.inr (hw _ (List.mem_of_getElem? (i := 16) rfl))) (Or.inr (hw _ (List.mem_of_getElem? (i := 20) rfl))) (by decide) (t := (.array .double)) (t' := (.array .double)) (by decide) (by decide)))
  have F_least_a := F_least_a.other W9 (Or.inr (slot_ne (Or.inr (hw _ (List.mem_of_getElem? (i := 18) rfl))) (Or.inr (hw _ (List.mem_of_getElem? (i := 20) rfl))) (by decide) (t := (.array .double)) (t' := (.array .double)) (by decide) (by decide)))
  have F_sums_a := F_sums_a.other W9 (Or.inr (slot_ne (Or.inr (hw _ (List.mem_of_getElem? (i := 22) rfl))) (Or.inr (hw _ (List.mem_of_getElem? (i := 20) rfl))) (by decide) (t := (.array .double)) (t' := (.array .double)) (by decide) (by decide)))
  have F_maxima_a := F_maxima_a.other W9 (Or.inr (slot_ne (Or.inr (hw _ (List.mem_of_getElem? (i := 24) rfl))) (Or.inr (hw _ (List.mem_of_getElem? (i := 20) rfl))) (by decide) (t := (.array .double)) (t' := (.array .double)) (by decide) (by decide)))
  have F_entries_a := F_entries_a.other W9 (Or.inr (slot_ne (Or.inr (hw _ (List.mem_of_getElem? (i := 27) rfl))) (Or.inr (hw _ (List.mem_of_getElem? (i := 20) rfl))) (by decide) (t := (.array .long)) (t' := (.array .double)) (by decide) (by decide)))
  have V_b2 := V_b2.other W9 (Ne.symm ne_a_b2)
  have V_b4 := V_b4.other W9 (Ne.symm ne_a_b4)
  have V_b6 := V_b6.other W9 (Ne.symm ne_a_b6)
  have V_b8 := V_b8.other W9 (Ne.symm ne_a_b8)
  have ZH := Nat.le_trans ZH (Nat.le_of_eq W9.size.symm)
  have KK := KK.wr W9 (Or.inl (List.mem_of_getElem? (i := 0) rfl))
  refine own_up st9 ?_
  show own_Go p.tables e below _ (T9.setTop (mkF m 33 #[.val (.ref a), .val (.int (1 : Int32))] []))
  refine own_up (fun _ kq => XS.aloadN X9.here hx rfl (hb hby d1_33) rfl rfl kq) ?_
  show own_Go p.tables e below _ (T9.setTop (mkF m 34 #[.val (.ref a), .val (.int (1 : Int32))] [(.ref a)]))
  refine own_up (fun _ kq => XS.iloadN X9.here hx rfl (hb hby d1_34) rfl kq) ?_
  show own_Go p.tables e below _ (T9.setTop (mkF m 35 #[.val (.ref a), .val (.int (1 : Int32))] [(.int (1 : Int32)), (.ref a)]))
  obtain ⟨T10, h10, k10, X10, e10, E10, A10, st10⟩ := newP X9 hx hZ (hw _ (List.mem_of_getElem? (i := 14) rfl)) e9 (g := (mkF m 35 #[.val (.ref a), .val (.int (1 : Int32))] [(.int (1 : Int32)), (.ref a)])) rfl (hb hby d1_35) rfl (by decide) (cap := 1) (by decide) (by decide) (by decide) (by decide)
  obtain ⟨b10, gz10⟩ : ∃ z, z = h9.size := ⟨_, rfl⟩
  rw [← gz10] at A10 st10
  have ne_a_b10 : a ≠ b10 := Nat.ne_of_lt (Nat.lt_of_lt_of_le E_a.lt (Nat.le_of_eq gz10.symm))
  have ne_b2_b10 : b2 ≠ b10 := Nat.ne_of_lt (Nat.lt_of_lt_of_le V_b2.lt (Nat.le_of_eq gz10.symm))
  have ne_b4_b10 : b4 ≠ b10 := Nat.ne_of_lt (Nat.lt_of_lt_of_le V_b4.lt (Nat.le_of_eq gz10.symm))
  have ne_b6_b10 : b6 ≠ b10 := Nat.ne_of_lt (Nat.lt_of_lt_of_le V_b6.lt (Nat.le_of_eq gz10.symm))
  have ne_b8_b10 : b8 ≠ b10 := Nat.ne_of_lt (Nat.lt_of_lt_of_le V_b8.lt (Nat.le_of_eq gz10.symm))
  have g_b10 : n0 ≤ b10 := Nat.le_trans ZH (Nat.le_of_eq gz10.symm)
  have sz_b10 : h0.size ≤ b10 := Nat.le_trans KK.1 (Nat.le_of_eq gz10.symm)
  have E_a := E_a.ext E10
  have F_numbers_a := F_numbers_a.ext E10
  have F_factors_a := F_factors_a.ext E10
  have F_least_a := F_least_a.ext E10
  have F_greatest_a := F_greatest_a.ext E10
  have F_sums_a := F_sums_a.ext E10
  have F_maxima_a := F_maxima_a.ext E10
  have F_entries_a := F_entries_a.ext E10
  have V_b2 := V_b2.ext E10
  have V_b4 := V_b4.ext E10
  have V_b6 := V_b6.ext E10
  have V_b8 := V_b8.ext E10
  have ZH := Nat.le_trans ZH E10.1
  have KK := KK.ext E10
  have V_b10 : Arv Z h10 b10 k10 .double (1 : Int32) [(.double (0 : UInt64))] (.double (0 : UInt64)) := (Arv.new A10 (by decide)).pad (pad_rep [] (.double (0 : UInt64)) 1)
  refine own_up st10 ?_
  show own_Go p.tables e below _ (T10.setTop (mkF m 37 #[.val (.ref a), .val (.int (1 : Int32))] [(.ref b10), (.ref a)]))
  obtain ⟨T11, h11, X11, e11, W11, st11⟩ := putF X10 hx hZ hown (host := "") (Or.inl (hw _ (List.mem_of_getElem? (i := 21) rfl))) Via.refl e10 F_sums_a E_a (Or.inr ⟨(hw _ (List.mem_of_getElem? (i := 22) rfl)), rfl, hnm⟩) (hw _ (List.mem_of_getElem? (i := 2) rfl)) (ty := (.array .double)) (by decide) rfl rfl (g := (mkF m 37 #[.val (.ref a), .val (.int (1 : Int32))] [(.ref b10), (.ref a)])) rfl rfl (hb hby d1_37)
  have N11 := Fr.snoc X11 N9 g_a
  have F_sums_a := F_sums_a.same W11
  have E_a := E_a.wr W11
  have F_numbers_a := F_numbers_a.other W11 (Or.inr (slot_ne (Or.inr (hw _ (List.mem_of_getElem? (i := 13) rfl))) (Or.inr (hw _ (List.mem_of_getElem? (i := 22) rfl))) (by decide) (t := (.array (.array .double))) (t' := (.array .double)) (by decide) (by decide)))
  have F_factors_a := F_factors_a.other W11 (Or.inr (slot_ne (Or.inr (hw _ (List.mem_of_getElem? (i := 16) rfl))) (Or.inr (hw _ (List.mem_of_getElem? (i := 22) rfl))) (by decide) (t := (.array .double)) (t' := (.array .double)) (by decide) (by decide)))
  have F_least_a := F_least_a.other W11 (Or.inr (slot_ne (Or.inr (hw _ (List.mem_of_getElem? (i := 18) rfl))) (Or.inr (hw _ (List.mem_of_getElem? (i := 22) rfl))) (by decide) (t := (.array .double)) (t' := (.array .double)) (by decide) (by decide)))
  have F_greatest_a := F_greatest_a.other W11 (Or.inr (slot_ne (Or.inr (hw _ (List.mem_of_getElem? (i := 20) rfl))) (Or.inr (hw _ (List.mem_of_getElem? (i := 22) rfl))) (by decide) (t := (.array .double)) (t' := (.array .double)) (by decide) (by decide)))
  have F_maxima_a := F_maxima_a.other W11 (Or.inr (slot_ne (Or.inr (hw _ (List.mem_of_getElem? (i := 24) rfl))) (Or.inr (hw _ (List.mem_of_getElem? (i := 22) rfl))) (by decide) (t := (.array .double)) (t' := (.array .double)) (by decide) (by decide)))
  have F_entries_a := F_entries_a.other W11 (Or.inr (slot_ne (Or.inr (hw _ (List.mem_of_getElem? (i := 27) rfl))) (Or.inr (hw _ (List.mem_of_getElem? (i := 22) rfl))) (by decide) (t := (.array .long)) (t' := (.array .double)) (by decide) (by decide)))
  have V_b2 := V_b2.other W11 (Ne.symm ne_a_b2)
  have V_b4 := V_b4.other W11 (Ne.symm ne_a_b4)
  have V_b6 := V_b6.other W11 (Ne.symm ne_a_b6)
  have V_b8 := V_b8.other W11 (Ne.symm ne_a_b8)
  have V_b10 := V_b10.other W11 (Ne.symm ne_a_b10)
  have ZH := Nat.le_trans ZH (Nat.le_of_eq W11.size.symm)
  have KK := KK.wr W11 (Or.inl (List.mem_of_getElem? (i := 0) rfl))
  refine own_up st11 ?_
  show own_Go p.tables e below _ (T11.setTop (mkF m 40 #[.val (.ref a), .val (.int (1 : Int32))] []))
  refine own_up (fun _ kq => XS.aloadN X11.here hx rfl (hb hby d1_40) rfl rfl kq) ?_
  show own_Go p.tables e below _ (T11.setTop (mkF m 41 #[.val (.ref a), .val (.int (1 : Int32))] [(.ref a)]))
  refine own_up (fun _ kq => XS.iloadN X11.here hx rfl (hb hby d1_41) rfl kq) ?_
  show own_Go p.tables e below _ (T11.setTop (mkF m 42 #[.val (.ref a), .val (.int (1 : Int32))] [(.int (1 : Int32)), (.ref a)]))
  obtain ⟨T12, h12, k12, X12, e12, E12, A12, st12⟩ := newP X11 hx hZ (hw _ (List.mem_of_getElem? (i := 14) rfl)) e11 (g := (mkF m 42 #[.val (.ref a), .val (.int (1 : Int32))] [(.int (1 : Int32)), (.ref a)])) rfl (hb hby d1_42) rfl (by decide) (cap := 1) (by decide) (by decide) (by decide) (by decide)
  obtain ⟨b12, gz12⟩ : ∃ z, z = h11.size := ⟨_, rfl⟩
  rw [← gz12] at A12 st12
  have ne_a_b12 : a ≠ b12 := Nat.ne_of_lt (Nat.lt_of_lt_of_le E_a.lt (Nat.le_of_eq gz12.symm))
  have ne_b2_b12 : b2 ≠ b12 := Nat.ne_of_lt (Nat.lt_of_lt_of_le V_b2.lt (Nat.le_of_eq gz12.symm))
  have ne_b4_b12 : b4 ≠ b12 := Nat.ne_of_lt (Nat.lt_of_lt_of_le V_b4.lt (Nat.le_of_eq gz12.symm))
  have ne_b6_b12 : b6 ≠ b12 := Nat.ne_of_lt (Nat.lt_of_lt_of_le V_b6.lt (Nat.le_of_eq gz12.symm))
  have ne_b8_b12 : b8 ≠ b12 := Nat.ne_of_lt (Nat.lt_of_lt_of_le V_b8.lt (Nat.le_of_eq gz12.symm))
  have g_b12 : n0 ≤ b12 := Nat.le_trans ZH (Nat.le_of_eq gz12.symm)
  have sz_b12 : h0.size ≤ b12 := Nat.le_trans KK.1 (Nat.le_of_eq gz12.symm)
  have E_a := E_a.ext E12
  have F_numbers_a := F_numbers_a.ext E12
  have F_factors_a := F_factors_a.ext E12
  have F_least_a := F_least_a.ext E12
  have F_greatest_a := F_greatest_a.ext E12
  have F_maxima_a := F_maxima_a.ext E12
  have F_entries_a := F_entries_a.ext E12
  have V_b2 := V_b2.ext E12
  have V_b4 := V_b4.ext E12
  have V_b6 := V_b6.ext E12
  have V_b8 := V_b8.ext E12
  have ZH := Nat.le_trans ZH E12.1
  have KK := KK.ext E12
  have V_b12 : Arv Z h12 b12 k12 .double (1 : Int32) [(.double (0 : UInt64))] (.double (0 : UInt64)) := (Arv.new A12 (by decide)).pad (pad_rep [] (.double (0 : UInt64)) 1)
  refine own_up st12 ?_
  show own_Go p.tables e below _ (T12.setTop (mkF m 44 #[.val (.ref a), .val (.int (1 : Int32))] [(.ref b12), (.ref a)]))
  obtain ⟨T13, h13, X13, e13, W13, st13⟩ := putF X12 hx hZ hown (host := "") (Or.inl (hw _ (List.mem_of_getElem? (i := 23) rfl))) Via.refl e12 F_maxima_a E_a (Or.inr ⟨(hw _ (List.mem_of_getElem? (i := 24) rfl)), rfl, hnm⟩) (hw _ (List.mem_of_getElem? (i := 2) rfl)) (ty := (.array .double)) (by decide) rfl rfl (g := (mkF m 44 #[.val (.ref a), .val (.int (1 : Int32))] [(.ref b12), (.ref a)])) rfl rfl (hb hby d1_44)
  have N13 := Fr.snoc X13 N11 g_a
  have F_maxima_a := F_maxima_a.same W13
  have E_a := E_a.wr W13
  have F_numbers_a := F_numbers_a.other W13 (Or.inr (slot_ne (Or.inr (hw _ (List.mem_of_getElem? (i := 13) rfl))) (Or.inr (hw _ (List.mem_of_getElem? (i := 24) rfl))) (by decide) (t := (.array (.array .double))) (t' := (.array .double)) (by decide) (by decide)))
  have F_factors_a := F_factors_a.other W13 (Or.inr (slot_ne (Or.inr (hw _ (List.mem_of_getElem? (i := 16) rfl))) (Or.inr (hw _ (List.mem_of_getElem? (i := 24) rfl))) (by decide) (t := (.array .double)) (t' := (.array .double)) (by decide) (by decide)))
  have F_least_a := F_least_a.other W13 (Or.inr (slot_ne (Or.inr (hw _ (List.mem_of_getElem? (i := 18) rfl))) (Or.inr (hw _ (List.mem_of_getElem? (i := 24) rfl))) (by decide) (t := (.array .double)) (t' := (.array .double)) (by decide) (by decide)))
  have F_greatest_a := F_greatest_a.other W13 (Or.inr (slot_ne (Or.inr (hw _ (List.mem_of_getElem? (i := 20) rfl))) (Or.inr (hw _ (List.mem_of_getElem? (i := 24) rfl))) (by decide) (t := (.array .double)) (t' := (.array .double)) (by decide) (by decide)))
  have F_entries_a := F_entries_a.other W13 (Or.inr (slot_ne (Or.inr (hw _ (List.mem_of_getElem? (i := 27) rfl))) (Or.inr (hw _ (List.mem_of_getElem? (i := 24) rfl))) (by decide) (t := (.array .long)) (t' := (.array .double)) (by decide) (by decide)))
  have V_b2 := V_b2.other W13 (Ne.symm ne_a_b2)
  have V_b4 := V_b4.other W13 (Ne.symm ne_a_b4)
  have V_b6 := V_b6.other W13 (Ne.symm ne_a_b6)
  have V_b8 := V_b8.other W13 (Ne.symm ne_a_b8)
  have V_b12 := V_b12.other W13 (Ne.symm ne_a_b12)
  have ZH := Nat.le_trans ZH (Nat.le_of_eq W13.size.symm)
  have KK := KK.wr W13 (Or.inl (List.mem_of_getElem? (i := 0) rfl))
  refine own_up st13 ?_
  show own_Go p.tables e below _ (T13.setTop (mkF m 47 #[.val (.ref a), .val (.int (1 : Int32))] []))
  refine own_up (fun _ kq => XS.aloadN X13.here hx rfl (hb hby d1_47) rfl rfl kq) ?_
  show own_Go p.tables e below _ (T13.setTop (mkF m 48 #[.val (.ref a), .val (.int (1 : Int32))] [(.ref a)]))
  refine own_up (fun _ kq => XS.iloadN X13.here hx rfl (hb hby d1_48) rfl kq) ?_
  show own_Go p.tables e below _ (T13.setTop (mkF m 49 #[.val (.ref a), .val (.int (1 : Int32))] [(.int (1 : Int32)), (.ref a)]))
  obtain ⟨T14, h14, k14, X14, e14, E14, A14, st14⟩ := newP X13 hx hZ (hw _ (List.mem_of_getElem? (i := 25) rfl)) e13 (g := (mkF m 49 #[.val (.ref a), .val (.int (1 : Int32))] [(.int (1 : Int32)), (.ref a)])) rfl (hb hby d1_49) rfl (by decide) (cap := 1) (by decide) (by decide) (by decide) (by decide)
  obtain ⟨b14, gz14⟩ : ∃ z, z = h13.size := ⟨_, rfl⟩
  rw [← gz14] at A14 st14
  have ne_a_b14 : a ≠ b14 := Nat.ne_of_lt (Nat.lt_of_lt_of_le E_a.lt (Nat.le_of_eq gz14.symm))
  have ne_b2_b14 : b2 ≠ b14 := Nat.ne_of_lt (Nat.lt_of_lt_of_le V_b2.lt (Nat.le_of_eq gz14.symm))
  have ne_b4_b14 : b4 ≠ b14 := Nat.ne_of_lt (Nat.lt_of_lt_of_le V_b4.lt (Nat.le_of_eq gz14.symm))
  have ne_b6_b14 : b6 ≠ b14 := Nat.ne_of_lt (Nat.lt_of_lt_of_le V_b6.lt (Nat.le_of_eq gz14.symm))
  have ne_b8_b14 : b8 ≠ b14 := Nat.ne_of_lt (Nat.lt_of_lt_of_le V_b8.lt (Nat.le_of_eq gz14.symm))
  have g_b14 : n0 ≤ b14 := Nat.le_trans ZH (Nat.le_of_eq gz14.symm)
  have sz_b14 : h0.size ≤ b14 := Nat.le_trans KK.1 (Nat.le_of_eq gz14.symm)
  have E_a := E_a.ext E14
  have F_numbers_a := F_numbers_a.ext E14
  have F_factors_a := F_factors_a.ext E14
  have F_least_a := F_least_a.ext E14
  have F_greatest_a := F_greatest_a.ext E14
  have F_entries_a := F_entries_a.ext E14
  have V_b2 := V_b2.ext E14
  have V_b4 := V_b4.ext E14
  have V_b6 := V_b6.ext E14
  have V_b8 := V_b8.ext E14
  have ZH := Nat.le_trans ZH E14.1
  have KK := KK.ext E14
  have V_b14 : Arv Z h14 b14 k14 .long (1 : Int32) [(.long (0 : Int64))] (.long (0 : Int64)) := (Arv.new A14 (by decide)).pad (pad_rep [] (.long (0 : Int64)) 1)
  refine own_up st14 ?_
  show own_Go p.tables e below _ (T14.setTop (mkF m 51 #[.val (.ref a), .val (.int (1 : Int32))] [(.ref b14), (.ref a)]))
  obtain ⟨T15, h15, X15, e15, W15, st15⟩ := putF X14 hx hZ hown (host := "") (Or.inl (hw _ (List.mem_of_getElem? (i := 26) rfl))) Via.refl e14 F_entries_a E_a (Or.inr ⟨(hw _ (List.mem_of_getElem? (i := 27) rfl)), rfl, hnm⟩) (hw _ (List.mem_of_getElem? (i := 2) rfl)) (ty := (.array .long)) (by decide) rfl rfl (g := (mkF m 51 #[.val (.ref a), .val (.int (1 : Int32))] [(.ref b14), (.ref a)])) rfl rfl (hb hby d1_51)
  have N15 := Fr.snoc X15 N13 g_a
  have F_entries_a := F_entries_a.same W15
  have E_a := E_a.wr W15
  have F_numbers_a := F_numbers_a.other W15 (Or.inr (slot_ne (Or.inr (hw _ (List.mem_of_getElem? (i := 13) rfl))) (Or.inr (hw _ (List.mem_of_getElem? (i := 27) rfl))) (by decide) (t := (.array (.array .double))) (t' := (.array .long)) (by decide) (by decide)))
  have F_factors_a := F_factors_a.other W15 (Or.inr (slot_ne (Or.inr (hw _ (List.mem_of_getElem? (i := 16) rfl))) (Or.inr (hw _ (List.mem_of_getElem? (i := 27) rfl))) (by decide) (t := (.array .double)) (t' := (.array .long)) (by decide) (by decide)))
  have F_least_a := F_least_a.other W15 (Or.inr (slot_ne (Or.inr (hw _ (List.mem_of_getElem? (i := 18) rfl))) (Or.inr (hw _ (List.mem_of_getElem? (i := 27) rfl))) (by decide) (t := (.array .double)) (t' := (.array .long)) (by decide) (by decide)))
  have F_greatest_a := F_greatest_a.other W15 (Or.inr (slot_ne (Or.inr (hw _ (List.mem_of_getElem? (i := 20) rfl))) (Or.inr (hw _ (List.mem_of_getElem? (i := 27) rfl))) (by decide) (t := (.array .double)) (t' := (.array .long)) (by decide) (by decide)))
  have V_b2 := V_b2.other W15 (Ne.symm ne_a_b2)
  have V_b4 := V_b4.other W15 (Ne.symm ne_a_b4)
  have V_b6 := V_b6.other W15 (Ne.symm ne_a_b6)
  have V_b8 := V_b8.other W15 (Ne.symm ne_a_b8)
  have V_b14 := V_b14.other W15 (Ne.symm ne_a_b14)
  have ZH := Nat.le_trans ZH (Nat.le_of_eq W15.size.symm)
  have KK := KK.wr W15 (Or.inl (List.mem_of_getElem? (i := 0) rfl))
  refine own_up st15 ?_
  show own_Go p.tables e below _ (T15.setTop (mkF m 54 #[.val (.ref a), .val (.int (1 : Int32))] []))
  obtain ⟨fs16, hr16, hrun16, hended16, hW16, hsame16⟩ := X15.leave (v := none) (fun _ => rfl)
  refine own_end ⟨_, _, ?_, hrun16, hended16, _, _, rfl, ?_, ⟨_, rfl⟩, hW16, hsame16.mono (by decide) (by decide)⟩
  · exact X15.returnOut hx Bd.returns (hb hby d1_54) hr16
  · show QrmC1 Z a h0 n0 _ T15.heap _
    rw [e15]
    exact ⟨rfl, N15, KK, b2, b4, b6, b8, k2, k4, k6, k8, sz_b4, ne_b2_b4, (Ne.symm ne_b4_b6), (Ne.symm ne_b4_b8), F_numbers_a, F_factors_a, F_least_a, F_greatest_a, V_b2, V_b4, V_b6, V_b8⟩
theorem ef_rmC2 (m : MethodId) (x0 : Addr) (x1 : Int32) : entryFrame m #[(.ref x0), (.int x1)] 2 = mkF m 0 #[.val (.ref x0), .val (.int x1)] [] := by first | (simp [entryFrame, mkF, argsToLocals, Value.category]; done) | rfl
def QrmC2 (Z : State) (a : Addr) (h0 : Heap) (n0 : Nat) (v : Option Value) (h : Heap) (L : List Loc) : Prop := v = none ∧ Fr n0 L ∧ Keep h0 h [a] ∧ ∃ (bn bf bl bg : Addr) (kn kf kl kg : ClassId), h0.size ≤ bf ∧ bn ≠ bf ∧ bl ≠ bf ∧ bg ≠ bf ∧ Fld Z h a "com/example/parley/parley/algorithms/Dgls$Modifiers" "numbers" "[[D" (.ref bn) ∧ Fld Z h a "com/example/parley/parley/algorithms/Dgls$Modifiers" "factors" "[D" (.ref bf) ∧ Fld Z h a "com/example/parley/parley/algorithms/Dgls$Modifiers" "least" "[D" (.ref bl) ∧ Fld Z h a "com/example/parley/parley/algorithms/Dgls$Modifiers" "greatest" "[D" (.ref bg) ∧ Arv Z h bn kn (.array .double) (2 : Int32) [.null, .null] .null ∧ Arv Z h bf kf .double (2 : Int32) [(.double (0 : UInt64)), (.double (0 : UInt64))] (.double (0 : UInt64)) ∧ Arv Z h bl kl .double (2 : Int32) [(.double (0 : UInt64)), (.double (0 : UInt64))] (.double (0 : UInt64)) ∧ Arv Z h bg kg .double (2 : Int32) [(.double (0 : UInt64)), (.double (0 : UInt64))] (.double (0 : UInt64))
set_option maxRecDepth 65536 in
set_option maxHeartbeats 40000000 in
theorem rmC2 (l : Launch) (Z : State) (a0 : Array Value) (hw : ∀ d ∈ tables_1, d.before a0 Z = true) (ws : List Jvm.Cond) (a : Addr) (h0 : Heap) (n0 : Nat) (Z0 : n0 ≤ h0.size) (E_a : Exa Z h0 a "com/example/parley/parley/algorithms/Dgls$Modifiers") (F_numbers_a : Fld Z h0 a "com/example/parley/parley/algorithms/Dgls$Modifiers" "numbers" "[[D" .null) (F_factors_a : Fld Z h0 a "com/example/parley/parley/algorithms/Dgls$Modifiers" "factors" "[D" .null) (F_least_a : Fld Z h0 a "com/example/parley/parley/algorithms/Dgls$Modifiers" "least" "[D" .null) (F_greatest_a : Fld Z h0 a "com/example/parley/parley/algorithms/Dgls$Modifiers" "greatest" "[D" .null) (F_sums_a : Fld Z h0 a "com/example/parley/parley/algorithms/Dgls$Modifiers" "sums" "[D" .null) (F_maxima_a : Fld Z h0 a "com/example/parley/parley/algorithms/Dgls$Modifiers" "maxima" "[D" .null) (F_entries_a : Fld Z h0 a "com/example/parley/parley/algorithms/Dgls$Modifiers" "entries" "[J" .null) (g_a : n0 ≤ a) :
    MetFree l (⟨"com/example/parley/parley/algorithms/Dgls$Modifiers", "<init>", "(I)V"⟩ : MethodName) (head1 (Jvm.Cond.code (⟨"com/example/parley/parley/algorithms/Dgls$Modifiers", "<init>", "(I)V"⟩ : MethodName) prog_8_method_1_code 2 none :: ws) ({ frames := 1, cells := 7, slots := 14, locals := 12 } : Room)) (fun aq Uq => aq = #[(.ref a), (.int (2 : Int32))] ∧ Z.Warmed39 Uq.vm ∧ Uq.heap = h0) (fun _ _ _ _ _ => True) (fun _ Uq oq Uq' => ∃ vq Lq, oq = .returned vq ∧ QrmC2 Z a h0 n0 vq Uq'.heap Lq ∧ FrameEnd Uq oq Uq' Lq ({ frames := 1, cells := 7, slots := 14, locals := 12 } : Room).cells ({ frames := 1, cells := 7, slots := 14, locals := 12 } : Room).slots) := by
  refine MetFree.of_bodySF (plainFor_of_name pn_0) hisR ?_
  intro p e s m args below meth c s₁ Bd hml0 hP hK
  obtain ⟨rfl, hZ, hh⟩ := hP
  have hx := Bd.exec
  have hby := Bd.bytes
  have hml : c.maxLocals = 2 := hml0
  have hown : s.vm.findClass "com/example/parley/parley/algorithms/Dgls$Modifiers" = some m.cls := findClass_of_methodNamed Bd.named
  have hnm := (name_of_methodNamed Bd.named Bd.method).1
  have X0 : Stand p l e ({ frames := 1, cells := 7, slots := 14, locals := 12 } : Room) s m #[(.ref a), (.int (2 : Int32))] below meth c s₁ [] 0 0 := Stand.of_body Bd
  have e0 : s₁.heap = h0 := by rw [← hh, Bd.state]; rfl
  have N0 := Fr.nil n0
  have ZH := Z0
  have KK := Keep.refl h0 [a]
  refine own_start (fun t kq => castTop (ef_rmC2 m a (2 : Int32)) kq) ?_
  show own_Go p.tables e below _ (s₁.setTop (mkF m 0 #[.val (.ref a), .val (.int (2 : Int32))] []))
  refine own_up (fun _ kq => XS.aloadN X0.here hx rfl (hb hby d1_0) rfl rfl kq) ?_
  show own_Go p.tables e below _ (s₁.setTop (mkF m 1 #[.val (.ref a), .val (.int (2 : Int32))] [(.ref a)]))
  obtain ⟨T1, X1, e1, st1⟩ := initO X0 hx hZ hown (hw _ (List.mem_of_getElem? (i := 7) rfl)) (hw _ (List.mem_of_getElem? (i := 8) rfl)) (hw _ (List.mem_of_getElem? (i := 9) rfl)) e0 (g := (mkF m 1 #[.val (.ref a), .val (.int (2 : Int32))] [(.ref a)])) rfl (by rw [hml]; rfl) rfl (hb hby d1_1) (by decide) (W := 0) (by show 2 * 0 + _ ≤ _; exact Nat.le_of_eq rfl) (by decide)
  refine own_up st1 ?_
  show own_Go p.tables e below _ (T1.setTop (mkF m 4 #[.val (.ref a), .val (.int (2 : Int32))] []))
  refine own_up (fun _ kq => XS.aloadN X1.here hx rfl (hb hby d1_4) rfl rfl kq) ?_
  show own_Go p.tables e below _ (T1.setTop (mkF m 5 #[.val (.ref a), .val (.int (2 : Int32))] [(.ref a)]))
  refine own_up (fun _ kq => XS.iloadN X1.here hx rfl (hb hby d1_5) rfl kq) ?_
  show own_Go p.tables e below _ (T1.setTop (mkF m 6 #[.val (.ref a), .val (.int (2 : Int32))] [(.int (2 : Int32)), (.ref a)]))
  obtain ⟨T2, h2, k2, X2, e2, E2, A2, B2, O2, st2⟩ := newRA X1 hx hZ hown (ty := .double) rfl (hw _ (List.mem_of_getElem? (i := 10) rfl)) (hw _ (List.mem_of_getElem? (i := 11) rfl)) e1 (g := (mkF m 6 #[.val (.ref a), .val (.int (2 : Int32))] [(.int (2 : Int32)), (.ref a)])) rfl (hb hby d1_6) rfl (by decide) (cap := 2) (by decide) (by decide) (by decide) (by decide) (ad := "[[D") rfl
  obtain ⟨b2, gz2⟩ : ∃ z, z = h0.size := ⟨_, rfl⟩
  rw [← gz2] at A2 st2
  have ne_a_b2 : a ≠ b2 := Nat.ne_of_lt (Nat.lt_of_lt_of_le E_a.lt (Nat.le_of_eq gz2.symm))
  have g_b2 : n0 ≤ b2 := Nat.le_trans ZH (Nat.le_of_eq gz2.symm)
  have sz_b2 : h0.size ≤ b2 := Nat.le_trans KK.1 (Nat.le_of_eq gz2.symm)
  have E_a := E_a.ext E2
  have F_numbers_a := F_numbers_a.ext E2
  have F_factors_a := F_factors_a.ext E2
  have F_least_a := F_least_a.ext E2
  have F_greatest_a := F_greatest_a.ext E2
  have F_sums_a := F_sums_a.ext E2
  have F_maxima_a := F_maxima_a.ext E2
  have F_entries_a := F_entries_a.ext E2
  have ZH := Nat.le_trans ZH E2.1
  have KK := KK.ext E2
  have V_b2 : Arv Z h2 b2 k2 (.array .double) (2 : Int32) [.null, .null] .null := (Arv.new A2 (by decide)).pad (pad_rep [] .null 2)
  refine own_up st2 ?_
  show own_Go p.tables e below _ (T2.setTop (mkF m 9 #[.val (.ref a), .val (.int (2 : Int32))] [(.ref b2), (.ref a)]))
  obtain ⟨T3, h3, X3, e3, W3, st3⟩ := putF X2 hx hZ hown (host := "") (Or.inl (hw _ (List.mem_of_getElem? (i := 12) rfl))) Via.refl e2 F_numbers_a E_a (Or.inr ⟨(hw _ (List.mem_of_getElem? (i := 13) rfl)), rfl, hnm⟩) (hw _ (List.mem_of_getElem? (i := 2) rfl)) (ty := (.array (.array .double))) (by decide) rfl rfl (g := (mkF m 9 #[.val (.ref a), .val (.int (2 : Int32))] [(.ref b2), (.ref a)])) rfl rfl (hb hby d1_9)
  have N3 := Fr.snoc X3 N0 g_a
  have F_numbers_a := F_numbers_a.same W3
  have E_a := E_a.wr W3
  have F_factors_a := F_factors_a.other W3 (Or.inr (slot_ne (Or.inr (hw _ (List.mem_of_getElem? (i := 16) rfl))) (Or.inr (hw _ (List.mem_of_getElem? (i := 13) rfl))) (by decide) (t := (.array .double)) (t' := (.array (.array .double))) (by decide) (by decide)))
  have F_least_a := F_least_a.other W3 (Or.inr (slot_ne (Or.inr (hw _ (List.mem_of_getElem? (i := 18) rfl))) (Or.inr (hw _ (List.mem_of_getElem? (i := 13) rfl))) (by decide) (t := (.array .double)) (t' := (.array (.array .double))) (by decide) (by decide)))
  have F_greatest_a := F_greatest_a.other W3 (Or.inr (slot_ne (Or.inr (hw _ (List.mem_of_getElem? (i := 20) rfl))) (Or.inr (hw _ (List.mem_of_getElem? (i := 13) rfl))) (by decide) (t := (.array .double)) (t' := (.array (.array .double))) (by decide) (by decide)))
  have F_sums_a := F_sums_a.other W3 (Or.inr (slot_ne (Or.inr (hw _ (List.mem_of_getElem? (i := 22) rfl))) (Or.inr (hw _ (List.mem_of_getElem? (i := 13) rfl))) (by decide) (t := (.array .double)) (t' := (.array (.array .double))) (by decide) (by decide)))
  have F_maxima_a := F_maxima_a.other W3 (Or.inr (slot_ne (Or.inr (hw _ (List.mem_of_getElem? (i := 24) rfl))) (Or.inr (hw _ (List.mem_of_getElem? (i := 13) rfl))) (by decide) (t := (.array .double)) (t' := (.array (.array .double))) (by decide) (by decide)))
  have F_entries_a := F_entries_a.other W3 (Or.inr (slot_ne (Or.inr (hw _ (List.mem_of_getElem? (i := 27) rfl))) (Or.inr (hw _ (List.mem_of_getElem? (i := 13) rfl))) (by decide) (t := (.array .long)) (t' := (.array (.array .double))) (by decide) (by decide)))
  have V_b2 := V_b2.other W3 (Ne.symm ne_a_b2)
  have ZH := Nat.le_trans ZH (Nat.le_of_eq W3.size.symm)
  have KK := KK.wr W3 (Or.inl (List.mem_of_getElem? (i := 0) rfl))
  refine own_up st3 ?_
  show own_Go p.tables e below _ (T3.setTop (mkF m 12 #[.val (.ref a), .val (.int (2 : Int32))] []))
  refine own_up (fun _ kq => XS.aloadN X3.here hx rfl (hb hby d1_12) rfl rfl kq) ?_
  show own_Go p.tables e below _ (T3.setTop (mkF m 13 #[.val (.ref a), .val (.int (2 : Int32))] [(.ref a)]))
  refine own_up (fun _ kq => XS.iloadN X3.here hx rfl (hb hby d1_13) rfl kq) ?_
  show own_Go p.tables e below _ (T3.setTop (mkF m 14 #[.val (.ref a), .val (.int (2 : Int32))] [(.int (2 : Int32)), (.ref a)]))
  obtain ⟨T4, h4, k4, X4, e4, E4, A4, st4⟩ := newP X3 hx hZ (hw _ (List.mem_of_getElem? (i := 14) rfl)) e3 (g := (mkF m 14 #[.val (.ref a), .val (.int (2 : Int32))] [(.int (2 : Int32)), (.ref a)])) rfl (hb hby d1_14) rfl (by decide) (cap := 2) (by decide) (by decide) (by decide) (by decide)
  obtain ⟨b4, gz4⟩ : ∃ z, z = h3.size := ⟨_, rfl⟩
  rw [← gz4] at A4 st4
  have ne_a_b4 : a ≠ b4 := Nat.ne_of_lt (Nat.lt_of_lt_of_le E_a.lt (Nat.le_of_eq gz4.symm))
  have ne_b2_b4 : b2 ≠ b4 := Nat.ne_of_lt (Nat.lt_of_lt_of_le V_b2.lt (Nat.le_of_eq gz4.symm))
  have g_b4 : n0 ≤ b4 := Nat.le_trans ZH (Nat.le_of_eq gz4.symm)
  have sz_b4 : h0.size ≤ b4 := Nat.le_trans KK.1 (Nat.le_of_eq gz4.symm)
  have E_a := E_a.ext E4
  have F_numbers_a := F_numbers_a.ext E4
  have F_factors_a := F_factors_a.ext E4
  have F_least_a := F_least_a.ext E4
  have F_greatest_a := F_greatest_a.ext E4
  have F_sums_a := F_sums_a.ext E4
  have F_maxima_a := F_maxima_a.ext E4
  have F_entries_a := F_entries_a.ext E4
  have V_b2 := V_b2.ext E4
  have ZH := Nat.le_trans ZH E4.1
  have KK := KK.ext E4
  have V_b4 : Arv Z h4 b4 k4 .double (2 : Int32) [(.double (0 : UInt64)), (.double (0 : UInt64))] (.double (0 : UInt64)) := (Arv.new A4 (by decide)).pad (pad_rep [] (.double (0 : UInt64)) 2)
  refine own_up st4 ?_
  show own_Go p.tables e below _ (T4.setTop (mkF m 16 #[.val (.ref a), .val (.int (2 : Int32))] [(.ref b4), (.ref a)]))
  obtain ⟨T5, h5, X5, e5, W5, st5⟩ := putF X4 hx hZ hown (host := "") (Or.inl (hw _ (List.mem_of_getElem? (i := 15) rfl))) Via.refl e4 F_factors_a E_a (Or.inr ⟨(hw _ (List.mem_of_getElem? (i := 16) rfl)), rfl, hnm⟩) (hw _ (List.mem_of_getElem? (i := 2) rfl)) (ty := (.array .double)) (by decide) rfl rfl (g := (mkF m 16 #[.val (.ref a), .val (.int (2 : Int32))] [(.ref b4), (.ref a)])) rfl rfl (hb hby d1_16)
  have N5 := Fr.snoc X5 N3 g_a
  have F_factors_a := F_factors_a.same W5
  have E_a := E_a.wr W5
  have F_numbers_a := F_numbers_a.other W5 (Or.inr (slot_ne (Or.inr (hw _ (List.mem_of_getElem? (i := 13) rfl))) (Or.inr (hw _ (List.mem_of_getElem? (i := 16) rfl))) (by decide) (t := (.array (.array .double))) (t' := (.array .double)) (by decide) (by decide)))
  have F_least_a := F_least_a.other W5 (Or.inr (slot_ne (Or.inr (hw _ (List.mem_of_getElem? (i := 18) rfl))) (Or.inr (hw _ (List.mem_of_getElem? (i := 16) rfl))) (by decide) (t := (.array .double)) (t' := (.array .double)) (by decide) (by decide)))
  have F_greatest_a := F_greatest_a.other W5 (Or.inr (slot_ne (Or.inr (hw _ (List.mem_of_getElem? (i := 20) rfl))) (Or.inr (hw _ (List.mem_of_getElem? (i := 16) rfl))) (by decide) (t := (.array .double)) (t' := (.array .double)) (by decide) (by decide)))
  have F_sums_a := F_sums_a.other W5 (Or.inr (slot_ne (Or.inr (hw _ (List.mem_of_getElem? (i := 22) rfl))) (Or.inr (hw _ (List.mem_of_getElem? (i := 16) rfl))) (by decide) (t := (.array .double)) (t' := (.array .double)) (by decide) (by decide)))
  have F_maxima_a := F_maxima_a.other W5 (Or.inr (slot_ne (Or.inr (hw _ (List.mem_of_getElem? (i := 24) rfl))) (Or.inr (hw _ (List.mem_of_getElem? (i := 16) rfl))) (by decide) (t := (.array .double)) (t' := (.array .double)) (by decide) (by decide)))
  have F_entries_a := F_entries_a.other W5 (Or.inr (slot_ne (Or.inr (hw _ (List.mem_of_getElem? (i := 27) rfl))) (Or.inr (hw _ (List.mem_of_getElem? (i := 16) rfl))) (by decide) (t := (.array .long)) (t' := (.array .double)) (by decide) (by decide)))
  have V_b2 := V_b2.other W5 (Ne.symm ne_a_b2)
  have V_b4 := V_b4.other W5 (Ne.symm ne_a_b4)
  have ZH := Nat.le_trans ZH (Nat.le_of_eq W5.size.symm)
  have KK := KK.wr W5 (Or.inl (List.mem_of_getElem? (i := 0) rfl))
  refine own_up st5 ?_
  show own_Go p.tables e below _ (T5.setTop (mkF m 19 #[.val (.ref a), .val (.int (2 : Int32))] []))
  refine own_up (fun _ kq => XS.aloadN X5.here hx rfl (hb hby d1_19) rfl rfl kq) ?_
  show own_Go p.tables e below _ (T5.setTop (mkF m 20 #[.val (.ref a), .val (.int (2 : Int32))] [(.ref a)]))
  refine own_up (fun _ kq => XS.iloadN X5.here hx rfl (hb hby d1_20) rfl kq) ?_
  show own_Go p.tables e below _ (T5.setTop (mkF m 21 #[.val (.ref a), .val (.int (2 : Int32))] [(.int (2 : Int32)), (.ref a)]))
  obtain ⟨T6, h6, k6, X6, e6, E6, A6, st6⟩ := newP X5 hx hZ (hw _ (List.mem_of_getElem? (i := 14) rfl)) e5 (g := (mkF m 21 #[.val (.ref a), .val (.int (2 : Int32))] [(.int (2 : Int32)), (.ref a)])) rfl (hb hby d1_21) rfl (by decide) (cap := 2) (by decide) (by decide) (by decide) (by decide)
  obtain ⟨b6, gz6⟩ : ∃ z, z = h5.size := ⟨_, rfl⟩
  rw [← gz6] at A6 st6
  have ne_a_b6 : a ≠ b6 := Nat.ne_of_lt (Nat.lt_of_lt_of_le E_a.lt (Nat.le_of_eq gz6.symm))
  have ne_b2_b6 : b2 ≠ b6 := Nat.ne_of_lt (Nat.lt_of_lt_of_le V_b2.lt (Nat.le_of_eq gz6.symm))
  have ne_b4_b6 : b4 ≠ b6 := Nat.ne_of_lt (Nat.lt_of_lt_of_le V_b4.lt (Nat.le_of_eq gz6.symm))
  have g_b6 : n0 ≤ b6 := Nat.le_trans ZH (Nat.le_of_eq gz6.symm)
  have sz_b6 : h0.size ≤ b6 := Nat.le_trans KK.1 (Nat.le_of_eq gz6.symm)
  have E_a := E_a.ext E6
  have F_numbers_a := F_numbers_a.ext E6
  have F_factors_a := F_factors_a.ext E6
  have F_least_a := F_least_a.ext E6
  have F_greatest_a := F_greatest_a.ext E6
  have F_sums_a := F_sums_a.ext E6
  have F_maxima_a := F_maxima_a.ext E6
  have F_entries_a := F_entries_a.ext E6
  have V_b2 := V_b2.ext E6
  have V_b4 := V_b4.ext E6
  have ZH := Nat.le_trans ZH E6.1
  have KK := KK.ext E6
  have V_b6 : Arv Z h6 b6 k6 .double (2 : Int32) [(.double (0 : UInt64)), (.double (0 : UInt64))] (.double (0 : UInt64)) := (Arv.new A6 (by decide)).pad (pad_rep [] (.double (0 : UInt64)) 2)
  refine own_up st6 ?_
  show own_Go p.tables e below _ (T6.setTop (mkF m 23 #[.val (.ref a), .val (.int (2 : Int32))] [(.ref b6), (.ref a)]))
  obtain ⟨T7, h7, X7, e7, W7, st7⟩ := putF X6 hx hZ hown (host := "") (Or.inl (hw _ (List.mem_of_getElem? (i := 17) rfl))) Via.refl e6 F_least_a E_a (Or.inr ⟨(hw _ (List.mem_of_getElem? (i := 18) rfl)), rfl, hnm⟩) (hw _ (List.mem_of_getElem? (i := 2) rfl)) (ty := (.array .double)) (by decide) rfl rfl (g := (mkF m 23 #[.val (.ref a), .val (.int (2 : Int32))] [(.ref b6), (.ref a)])) rfl rfl (hb hby d1_23)
  have N7 := Fr.snoc X7 N5 g_a
  have F_least_a := F_least_a.same W7
  have E_a := E_a.wr W7
  have F_numbers_a := F_numbers_a.other W7 (Or.inr (slot_ne (Or.inr (hw _ (List.mem_of_getElem? (i := 13) rfl))) (Or.inr (hw _ (List.mem_of_getElem? (i := 18) rfl))) (by decide) (t := (.array (.array .double))) (t' := (.array .double)) (by decide) (by decide)))
  have F_factors_a := F_factors_a.other W7 (Or.inr (slot_ne (Or.inr (hw _ (List.mem_of_getElem? (i := 16) rfl))) (Or.inr (hw _ (List.mem_of_getElem? (i := 18) rfl))) (by decide) (t := (.array .double)) (t' := (.array .double)) (by decide) (by decide)))
  have F_greatest_a := F_greatest_a.other W7 (Or.inr (slot_ne (Or.inr (hw _ (List.mem_of_getElem? (i := 20) rfl))) (Or.inr (hw _ (List.mem_of_getElem? (i := 18) rfl))) (by decide) (t := (.array .double)) (t' := (.array .double)) (by decide) (by decide)))
  have F_sums_a := F_sums_a.other W7 (Or.inr (slot_ne (Or.inr (hw _ (List.mem_of_getElem? (i := 22) rfl))) (Or.inr (hw _ (List.mem_of_getElem? (i := 18) rfl))) (by decide) (t := (.array .double)) (t' := (.array .double)) (by decide) (by decide)))
  have F_maxima_a := F_maxima_a.other W7 (Or.inr (slot_ne (Or.inr (hw _ (List.mem_of_getElem? (i := 24) rfl))) (Or.inr (hw _ (List.mem_of_getElem? (i := 18) rfl))) (by decide) (t := (.array .double)) (t' := (.array .double)) (by decide) (by decide)))
  have F_entries_a := F_entries_a.other W7 (Or.inr (slot_ne (Or.inr (hw _ (List.mem_of_getElem? (i := 27) rfl))) (Or.inr (hw _ (List.mem_of_getElem? (i := 18) rfl))) (by decide) (t := (.array .long)) (t' := (.array .double)) (by decide) (by decide)))
  have V_b2 := V_b2.other W7 (Ne.symm ne_a_b2)
  have V_b4 := V_b4.other W7 (Ne.symm ne_a_b4)
  have V_b6 := V_b6.other W7 (Ne.symm ne_a_b6)
  have ZH := Nat.le_trans ZH (Nat.le_of_eq W7.size.symm)
  have KK := KK.wr W7 (Or.inl (List.mem_of_getElem? (i := 0) rfl))
  refine own_up st7 ?_
  show own_Go p.tables e below _ (T7.setTop (mkF m 26 #[.val (.ref a), .val (.int (2 : Int32))] []))
  refine own_up (fun _ kq => XS.aloadN X7.here hx rfl (hb hby d1_26) rfl rfl kq) ?_
  show own_Go p.tables e below _ (T7.setTop (mkF m 27 #[.val (.ref a), .val (.int (2 : Int32))] [(.ref a)]))
  refine own_up (fun _ kq => XS.iloadN X7.here hx rfl (hb hby d1_27) rfl kq) ?_
  show own_Go p.tables e below _ (T7.setTop (mkF m 28 #[.val (.ref a), .val (.int (2 : Int32))] [(.int (2 : Int32)), (.ref a)]))
  obtain ⟨T8, h8, k8, X8, e8, E8, A8, st8⟩ := newP X7 hx hZ (hw _ (List.mem_of_getElem? (i := 14) rfl)) e7 (g := (mkF m 28 #[.val (.ref a), .val (.int (2 : Int32))] [(.int (2 : Int32)), (.ref a)])) rfl (hb hby d1_28) rfl (by decide) (cap := 2) (by decide) (by decide) (by decide) (by decide)
  obtain ⟨b8, gz8⟩ : ∃ z, z = h7.size := ⟨_, rfl⟩
  rw [← gz8] at A8 st8
  have ne_a_b8 : a ≠ b8 := Nat.ne_of_lt (Nat.lt_of_lt_of_le E_a.lt (Nat.le_of_eq gz8.symm))
  have ne_b2_b8 : b2 ≠ b8 := Nat.ne_of_lt (Nat.lt_of_lt_of_le V_b2.lt (Nat.le_of_eq gz8.symm))
  have ne_b4_b8 : b4 ≠ b8 := Nat.ne_of_lt (Nat.lt_of_lt_of_le V_b4.lt (Nat.le_of_eq gz8.symm))
  have ne_b6_b8 : b6 ≠ b8 := Nat.ne_of_lt (Nat.lt_of_lt_of_le V_b6.lt (Nat.le_of_eq gz8.symm))
  have g_b8 : n0 ≤ b8 := Nat.le_trans ZH (Nat.le_of_eq gz8.symm)
  have sz_b8 : h0.size ≤ b8 := Nat.le_trans KK.1 (Nat.le_of_eq gz8.symm)
  have E_a := E_a.ext E8
  have F_numbers_a := F_numbers_a.ext E8
  have F_factors_a := F_factors_a.ext E8
  have F_least_a := F_least_a.ext E8
  have F_greatest_a := F_greatest_a.ext E8
  have F_sums_a := F_sums_a.ext E8
  have F_maxima_a := F_maxima_a.ext E8
  have F_entries_a := F_entries_a.ext E8
  have V_b2 := V_b2.ext E8
  have V_b4 := V_b4.ext E8
  have V_b6 := V_b6.ext E8
  have ZH := Nat.le_trans ZH E8.1
  have KK := KK.ext E8
  have V_b8 : Arv Z h8 b8 k8 .double (2 : Int32) [(.double (0 : UInt64)), (.double (0 : UInt64))] (.double (0 : UInt64)) := (Arv.new A8 (by decide)).pad (pad_rep [] (.double (0 : UInt64)) 2)
  refine own_up st8 ?_
  show own_Go p.tables e below _ (T8.setTop (mkF m 30 #[.val (.ref a), .val (.int (2 : Int32))] [(.ref b8), (.ref a)]))
  obtain ⟨T9, h9, X9, e9, W9, st9⟩ := putF X8 hx hZ hown (host := "") (Or.inl (hw _ (List.mem_of_getElem? (i := 19) rfl))) Via.refl e8 F_greatest_a E_a (Or.inr ⟨(hw _ (List.mem_of_getElem? (i := 20) rfl)), rfl, hnm⟩) (hw _ (List.mem_of_getElem? (i := 2) rfl)) (ty := (.array .double)) (by decide) rfl rfl (g := (mkF m 30 #[.val (.ref a), .val (.int (2 : Int32))] [(.ref b8), (.ref a)])) rfl rfl (hb hby d1_30)
  have N9 := Fr.snoc X9 N7 g_a
  have F_greatest_a := F_greatest_a.same W9
  have E_a := E_a.wr W9
  have F_numbers_a := F_numbers_a.other W9 (Or.inr (slot_ne (Or.inr (hw _ (List.mem_of_getElem? (i := 13) rfl))) (Or.inr (hw _ (List.mem_of_getElem? (i := 20) rfl))) (by decide) (t := (.array (.array .double))) (t' := (.array .double)) (by decide) (by decide)))
  have F_factors_a := F_factors_a.other W9 (Or.inr (slot_ne (Or.inr (hw _ (List.mem_of_getElem? (i := 16) rfl))) (Or.inr (hw _ (List.mem_of_getElem? (i := 20) rfl))) (by decide) (t := (.array .double)) (t' := (.array .double)) (by decide) (by decide)))
  have F_least_a := F_least_a.other W9 (Or.inr (slot_ne (Or.inr (hw _ (List.mem_of_getElem? (i := 18) rfl))) (Or.inr (hw _ (List.mem_of_getElem? (i := 20) rfl))) (by decide) (t := (.array .double)) (t' := (.array .double)) (by decide) (by decide)))
  have F_sums_a := F_sums_a.other W9 (Or.inr (slot_ne (Or.inr (hw _ (List.mem_of_getElem? (i := 22) rfl))) (Or.inr (hw _ (List.mem_of_getElem? (i := 20) rfl))) (by decide) (t := (.array .double)) (t' := (.array .double)) (by decide) (by decide)))
  have F_maxima_a := F_maxima_a.other W9 (Or.inr (slot_ne (Or.inr (hw _ (List.mem_of_getElem? (i := 24) rfl))) (Or.inr (hw _ (List.mem_of_getElem? (i := 20) rfl))) (by decide) (t := (.array .double)) (t' := (.array .double)) (by decide) (by decide)))
  have F_entries_a := F_entries_a.other W9 (Or.inr (slot_ne (Or.inr (hw _ (List.mem_of_getElem? (i := 27) rfl))) (Or.inr (hw _ (List.mem_of_getElem? (i := 20) rfl))) (by decide) (t := (.array .long)) (t' := (.array .double)) (by decide) (by decide)))
  have V_b2 := V_b2.other W9 (Ne.symm ne_a_b2)
  have V_b4 := V_b4.other W9 (Ne.symm ne_a_b4)
  have V_b6 := V_b6.other W9 (Ne.symm ne_a_b6)
  have V_b8 := V_b8.other W9 (Ne.symm ne_a_b8)
  have ZH := Nat.le_trans ZH (Nat.le_of_eq W9.size.symm)
  have KK := KK.wr W9 (Or.inl (List.mem_of_getElem? (i := 0) rfl))
  refine own_up st9 ?_
  show own_Go p.tables e below _ (T9.setTop (mkF m 33 #[.val (.ref a), .val (.int (2 : Int32))] []))
  refine own_up (fun _ kq => XS.aloadN X9.here hx rfl (hb hby d1_33) rfl rfl kq) ?_
  show own_Go p.tables e below _ (T9.setTop (mkF m 34 #[.val (.ref a), .val (.int (2 : Int32))] [(.ref a)]))
  refine own_up (fun _ kq => XS.iloadN X9.here hx rfl (hb hby d1_34) rfl kq) ?_
  show own_Go p.tables e below _ (T9.setTop (mkF m 35 #[.val (.ref a), .val (.int (2 : Int32))] [(.int (2 : Int32)), (.ref a)]))
  obtain ⟨T10, h10, k10, X10, e10, E10, A10, st10⟩ := newP X9 hx hZ (hw _ (List.mem_of_getElem? (i := 14) rfl)) e9 (g := (mkF m 35 #[.val (.ref a), .val (.int (2 : Int32))] [(.int (2 : Int32)), (.ref a)])) rfl (hb hby d1_35) rfl (by decide) (cap := 2) (by decide) (by decide) (by decide) (by decide)
  obtain ⟨b10, gz10⟩ : ∃ z, z = h9.size := ⟨_, rfl⟩
  rw [← gz10] at A10 st10
  have ne_a_b10 : a ≠ b10 := Nat.ne_of_lt (Nat.lt_of_lt_of_le E_a.lt (Nat.le_of_eq gz10.symm))
  have ne_b2_b10 : b2 ≠ b10 := Nat.ne_of_lt (Nat.lt_of_lt_of_le V_b2.lt (Nat.le_of_eq gz10.symm))
  have ne_b4_b10 : b4 ≠ b10 := Nat.ne_of_lt (Nat.lt_of_lt_of_le V_b4.lt (Nat.le_of_eq gz10.symm))
  have ne_b6_b10 : b6 ≠ b10 := Nat.ne_of_lt (Nat.lt_of_lt_of_le V_b6.lt (Nat.le_of_eq gz10.symm))
  have ne_b8_b10 : b8 ≠ b10 := Nat.ne_of_lt (Nat.lt_of_lt_of_le V_b8.lt (Nat.le_of_eq gz10.symm))
  have g_b10 : n0 ≤ b10 := Nat.le_trans ZH (Nat.le_of_eq gz10.symm)
  have sz_b10 : h0.size ≤ b10 := Nat.le_trans KK.1 (Nat.le_of_eq gz10.symm)
  have E_a := E_a.ext E10
  have F_numbers_a := F_numbers_a.ext E10
  have F_factors_a := F_factors_a.ext E10
  have F_least_a := F_least_a.ext E10
  have F_greatest_a := F_greatest_a.ext E10
  have F_sums_a := F_sums_a.ext E10
  have F_maxima_a := F_maxima_a.ext E10
  have F_entries_a := F_entries_a.ext E10
  have V_b2 := V_b2.ext E10
  have V_b4 := V_b4.ext E10
  have V_b6 := V_b6.ext E10
  have V_b8 := V_b8.ext E10
  have ZH := Nat.le_trans ZH E10.1
  have KK := KK.ext E10
  have V_b10 : Arv Z h10 b10 k10 .double (2 : Int32) [(.double (0 : UInt64)), (.double (0 : UInt64))] (.double (0 : UInt64)) := (Arv.new A10 (by decide)).pad (pad_rep [] (.double (0 : UInt64)) 2)
  refine own_up st10 ?_
  show own_Go p.tables e below _ (T10.setTop (mkF m 37 #[.val (.ref a), .val (.int (2 : Int32))] [(.ref b10), (.ref a)]))
  obtain ⟨T11, h11, X11, e11, W11, st11⟩ := putF X10 hx hZ hown (host := "") (Or.inl (hw _ (List.mem_of_getElem? (i := 21) rfl))) Via.refl e10 F_sums_a E_a (Or.inr ⟨(hw _ (List.mem_of_getElem? (i := 22) rfl)), rfl, hnm⟩) (hw _ (List.mem_of_getElem? (i := 2) rfl)) (ty := (.array .double)) (by decide) rfl rfl (g := (mkF m 37 #[.val (.ref a), .val (.int (2 : Int32))] [(.ref b10), (.ref a)])) rfl rfl (hb hby d1_37)
  have N11 := Fr.snoc X11 N9 g_a
  have F_sums_a := F_sums_a.same W11
  have E_a := E_a.wr W11
  have F_numbers_a := F_numbers_a.other W11 (Or.inr (slot_ne (Or.inr (hw _ (List.mem_of_getElem? (i := 13) rfl))) (Or.inr (hw _ (List.mem_of_getElem? (i := 22) rfl))) (by decide) (t := (.array (.array .double))) (t' := (.array .double)) (by decide) (by decide)))
  have F_factors_a := F_factors_a.other W11 (Or.inr (slot_ne (Or.inr (hw _ (List.mem_of_getElem? (i := 16) rfl))) (Or.inr (hw _ (List.mem_of_getElem? (i := 22) rfl))) (by decide) (t := (.array .double)) (t' := (.array .double)) (by decide) (by decide)))
  have F_least_a := F_least_a.other W11 (Or.inr (slot_ne (Or.inr (hw _ (List.mem_of_getElem? (i := 18) rfl))) (Or.inr (hw _ (List.mem_of_getElem? (i := 22) rfl))) (by decide) (t := (.array .double)) (t' := (.array .double)) (by decide) (by decide)))
  have F_greatest_a := F_greatest_a.other W11 (Or.inr (slot_ne (Or.inr (hw _ (List.mem_of_getElem? (i := 20) rfl))) (Or.inr (hw _ (List.mem_of_getElem? (i := 22) rfl))) (by decide) (t := (.array .double)) (t' := (.array .double)) (by decide) (by decide)))
  have F_maxima_a := F_maxima_a.other W11 (Or.inr (slot_ne (Or.inr (hw _ (List.mem_of_getElem? (i := 24) rfl))) (Or.inr (hw _ (List.mem_of_getElem? (i := 22) rfl))) (by decide) (t := (.array .double)) (t' := (.array .double)) (by decide) (by decide)))
  have F_entries_a := F_entries_a.other W11 (Or.inr (slot_ne (Or.inr (hw _ (List.mem_of_getElem? (i := 27) rfl))) (Or.inr (hw _ (List.mem_of_getElem? (i := 22) rfl))) (by decide) (t := (.array .long)) (t' := (.array .double)) (by decide) (by decide)))
  have V_b2 := V_b2.other W11 (Ne.symm ne_a_b2)
  have V_b4 := V_b4.other W11 (Ne.symm ne_a_b4)
  have V_b6 := V_b6.other W11 (Ne.symm ne_a_b6)
  have V_b8 := V_b8.other W11 (Ne.symm ne_a_b8)
  have V_b10 := V_b10.other W11 (Ne.symm ne_a_b10)
  have ZH := Nat.le_trans ZH (Nat.le_of_eq W11.size.symm)
  have KK := KK.wr W11 (Or.inl (List.mem_of_getElem? (i := 0) rfl))
  refine own_up st11 ?_
  show own_Go p.tables e below _ (T11.setTop (mkF m 40 #[.val (.ref a), .val (.int (2 : Int32))] []))
  refine own_up (fun _ kq => XS.aloadN X11.here hx rfl (hb hby d1_40) rfl rfl kq) ?_
  show own_Go p.tables e below _ (T11.setTop (mkF m 41 #[.val (.ref a), .val (.int (2 : Int32))] [(.ref a)]))
  refine own_up (fun _ kq => XS.iloadN X11.here hx rfl (hb hby d1_41) rfl kq) ?_
  show own_Go p.tables e below _ (T11.setTop (mkF m 42 #[.val (.ref a), .val (.int (2 : Int32))] [(.int (2 : Int32)), (.ref a)]))
  obtain ⟨T12, h12, k12, X12, e12, E12, A12, st12⟩ := newP X11 hx hZ (hw _ (List.mem_of_getElem? (i := 14) rfl)) e11 (g := (mkF m 42 #[.val (.ref a), .val (.int (2 : Int32))] [(.int (2 : Int32)), (.ref a)])) rfl (hb hby d1_42) rfl (by decide) (cap := 2) (by decide) (by decide) (by decide) (by decide)
  obtain ⟨b12, gz12⟩ : ∃ z, z = h11.size := ⟨_, rfl⟩
  rw [← gz12] at A12 st12
  have ne_a_b12 : a ≠ b12 := Nat.ne_of_lt (Nat.lt_of_lt_of_le E_a.lt (Nat.le_of_eq gz12.symm))
  have ne_b2_b12 : b2 ≠ b12 := Nat.ne_of_lt (Nat.lt_of_lt_of_le V_b2.lt (Nat.le_of_eq gz12.symm))
  have ne_b4_b12 : b4 ≠ b12 := Nat.ne_of_lt (Nat.lt_of_lt_of_le V_b4.lt (Nat.le_of_eq gz12.symm))
  have ne_b6_b12 : b6 ≠ b12 := Nat.ne_of_lt (Nat.lt_of_lt_of_le V_b6.lt (Nat.le_of_eq gz12.symm))
  have ne_b8_b12 : b8 ≠ b12 := Nat.ne_of_lt (Nat.lt_of_lt_of_le V_b8.lt (Nat.le_of_eq gz12.symm))
  have g_b12 : n0 ≤ b12 := Nat.le_trans ZH (Nat.le_of_eq gz12.symm)
  have sz_b12 : h0.size ≤ b12 := Nat.le_trans KK.1 (Nat.le_of_eq gz12.symm)
  have E_a := E_a.ext E12
  have F_numbers_a := F_numbers_a.ext E12
  have F_factors_a := F_factors_a.ext E12
  have F_least_a := F_least_a.ext E12
  have F_greatest_a := F_greatest_a.ext E12
  have F_maxima_a := F_maxima_a.ext E12
  have F_entries_a := F_entries_a.ext E12
  have V_b2 := V_b2.ext E12
  have V_b4 := V_b4.ext E12
  have V_b6 := V_b6.ext E12
  have V_b8 := V_b8.ext E12
  have ZH := Nat.le_trans ZH E12.1
  have KK := KK.ext E12
  have V_b12 : Arv Z h12 b12 k12 .double (2 : Int32) [(.double (0 : UInt64)), (.double (0 : UInt64))] (.double (0 : UInt64)) := (Arv.new A12 (by decide)).pad (pad_rep [] (.double (0 : UInt64)) 2)
  refine own_up st12 ?_
  show own_Go p.tables e below _ (T12.setTop (mkF m 44 #[.val (.ref a), .val (.int (2 : Int32))] [(.ref b12), (.ref a)]))
  obtain ⟨T13, h13, X13, e13, W13, st13⟩ := putF X12 hx hZ hown (host := "") (Or.inl (hw _ (List.mem_of_getElem? (i := 23) rfl))) Via.refl e12 F_maxima_a E_a (Or.inr ⟨(hw _ (List.mem_of_getElem? (i := 24) rfl)), rfl, hnm⟩) (hw _ (List.mem_of_getElem? (i := 2) rfl)) (ty := (.array .double)) (by decide) rfl rfl (g := (mkF m 44 #[.val (.ref a), .val (.int (2 : Int32))] [(.ref b12), (.ref a)])) rfl rfl (hb hby d1_44)
  have N13 := Fr.snoc X13 N11 g_a
  have F_maxima_a := F_maxima_a.same W13
  have E_a := E_a.wr W13
  have F_numbers_a := F_numbers_a.other W13 (Or.inr (slot_ne (Or.inr (hw _ (List.mem_of_getElem? (i := 13) rfl))) (Or.inr (hw _ (List.mem_of_getElem? (i := 24) rfl))) (by decide) (t := (.array (.array .double))) (t' := (.array .double)) (by decide) (by decide)))
  have F_factors_a := F_factors_a.other W13 (Or.inr (slot_ne (Or.inr (hw _ (List.mem_of_getElem? (i := 16) rfl))) (Or.inr (hw _ (List.mem_of_getElem? (i := 24) rfl))) (by decide) (t := (.array .double)) (t' := (.array .double)) (by decide) (by decide)))
  have F_least_a := F_least_a.other W13 (Or.inr (slot_ne (Or.inr (hw _ (List.mem_of_getElem? (i := 18) rfl))) (Or.inr (hw _ (List.mem_of_getElem? (i := 24) rfl))) (by decide) (t := (.array .double)) (t' := (.array .double)) (by decide) (by decide)))
  have F_greatest_a := F_greatest_a.other W13 (Or.inr (slot_ne (Or.inr (hw _ (List.mem_of_getElem? (i := 20) rfl))) (Or.inr (hw _ (List.mem_of_getElem? (i := 24) rfl))) (by decide) (t := (.array .double)) (t' := (.array .double)) (by decide) (by decide)))
  have F_entries_a := F_entries_a.other W13 (Or.inr (slot_ne (Or.inr (hw _ (List.mem_of_getElem? (i := 27) rfl))) (Or.inr (hw _ (List.mem_of_getElem? (i := 24) rfl))) (by decide) (t := (.array .long)) (t' := (.array .double)) (by decide) (by decide)))
  have V_b2 := V_b2.other W13 (Ne.symm ne_a_b2)
  have V_b4 := V_b4.other W13 (Ne.symm ne_a_b4)
  have V_b6 := V_b6.other W13 (Ne.symm ne_a_b6)
  have V_b8 := V_b8.other W13 (Ne.symm ne_a_b8)
  have V_b12 := V_b12.other W13 (Ne.symm ne_a_b12)
  have ZH := Nat.le_trans ZH (Nat.le_of_eq W13.size.symm)
  have KK := KK.wr W13 (Or.inl (List.mem_of_getElem? (i := 0) rfl))
  refine own_up st13 ?_
  show own_Go p.tables e below _ (T13.setTop (mkF m 47 #[.val (.ref a), .val (.int (2 : Int32))] []))
  refine own_up (fun _ kq => XS.aloadN X13.here hx rfl (hb hby d1_47) rfl rfl kq) ?_
  show own_Go p.tables e below _ (T13.setTop (mkF m 48 #[.val (.ref a), .val (.int (2 : Int32))] [(.ref a)]))
  refine own_up (fun _ kq => XS.iloadN X13.here hx rfl (hb hby d1_48) rfl kq) ?_
  show own_Go p.tables e below _ (T13.setTop (mkF m 49 #[.val (.ref a), .val (.int (2 : Int32))] [(.int (2 : Int32)), (.ref a)]))
  obtain ⟨T14, h14, k14, X14, e14, E14, A14, st14⟩ := newP X13 hx hZ (hw _ (List.mem_of_getElem? (i := 25) rfl)) e13 (g := (mkF m 49 #[.val (.ref a), .val (.int (2 : Int32))] [(.int (2 : Int32)), (.ref a)])) rfl (hb hby d1_49) rfl (by decide) (cap := 2) (by decide) (by decide) (by decide) (by decide)
  obtain ⟨b14, gz14⟩ : ∃ z, z = h13.size := ⟨_, rfl⟩
  rw [← gz14] at A14 st14
  have ne_a_b14 : a ≠ b14 := Nat.ne_of_lt (Nat.lt_of_lt_of_le E_a.lt (Nat.le_of_eq gz14.symm))
  have ne_b2_b14 : b2 ≠ b14 := Nat.ne_of_lt (Nat.lt_of_lt_of_le V_b2.lt (Nat.le_of_eq gz14.symm))
  have ne_b4_b14 : b4 ≠ b14 := Nat.ne_of_lt (Nat.lt_of_lt_of_le V_b4.lt (Nat.le_of_eq gz14.symm))
  have ne_b6_b14 : b6 ≠ b14 := Nat.ne_of_lt (Nat.lt_of_lt_of_le V_b6.lt (Nat.le_of_eq gz14.symm))
  have ne_b8_b14 : b8 ≠ b14 := Nat.ne_of_lt (Nat.lt_of_lt_of_le V_b8.lt (Nat.le_of_eq gz14.symm))
  have g_b14 : n0 ≤ b14 := Nat.le_trans ZH (Nat.le_of_eq gz14.symm)
  have sz_b14 : h0.size ≤ b14 := Nat.le_trans KK.1 (Nat.le_of_eq gz14.symm)
  have E_a := E_a.ext E14
  have F_numbers_a := F_numbers_a.ext E14
  have F_factors_a := F_factors_a.ext E14
  have F_least_a := F_least_a.ext E14
  have F_greatest_a := F_greatest_a.ext E14
  have F_entries_a := F_entries_a.ext E14
  have V_b2 := V_b2.ext E14
  have V_b4 := V_b4.ext E14
  have V_b6 := V_b6.ext E14
  have V_b8 := V_b8.ext E14
  have ZH := Nat.le_trans ZH E14.1
  have KK := KK.ext E14
  have V_b14 : Arv Z h14 b14 k14 .long (2 : Int32) [(.long (0 : Int64)), (.long (0 : Int64))] (.long (0 : Int64)) := (Arv.new A14 (by decide)).pad (pad_rep [] (.long (0 : Int64)) 2)
  refine own_up st14 ?_
  show own_Go p.tables e below _ (T14.setTop (mkF m 51 #[.val (.ref a), .val (.int (2 : Int32))] [(.ref b14), (.ref a)]))
  obtain ⟨T15, h15, X15, e15, W15, st15⟩ := putF X14 hx hZ hown (host := "") (Or.inl (hw _ (List.mem_of_getElem? (i := 26) rfl))) Via.refl e14 F_entries_a E_a (Or.inr ⟨(hw _ (List.mem_of_getElem? (i := 27) rfl)), rfl, hnm⟩) (hw _ (List.mem_of_getElem? (i := 2) rfl)) (ty := (.array .long)) (by decide) rfl rfl (g := (mkF m 51 #[.val (.ref a), .val (.int (2 : Int32))] [(.ref b14), (.ref a)])) rfl rfl (hb hby d1_51)
  have N15 := Fr.snoc X15 N13 g_a
  have F_entries_a := F_entries_a.same W15
  have E_a := E_a.wr W15
  have F_numbers_a := F_numbers_a.other W15 (Or.inr (slot_ne (Or.inr (hw _ (List.mem_of_getElem? (i := 13) rfl))) (Or.inr (hw _ (List.mem_of_getElem? (i := 27) rfl))) (by decide) (t := (.array (.array .double))) (t' := (.array .long)) (by decide) (by decide)))
  have F_factors_a := F_factors_a.other W15 (Or.inr (slot_ne (Or.inr (hw _ (List.mem_of_getElem? (i := 16) rfl))) (Or.inr (hw _ (List.mem_of_getElem? (i := 27) rfl))) (by decide) (t := (.array .double)) (t' := (.array .long)) (by decide) (by decide)))
  have F_least_a := F_least_a.other W15 (Or.inr (slot_ne (Or.inr (hw _ (List.mem_of_getElem? (i := 18) rfl))) (Or.inr (hw _ (List.mem_of_getElem? (i := 27) rfl))) (by decide) (t := (.array .double)) (t' := (.array .long)) (by decide) (by decide)))
  have F_greatest_a := F_greatest_a.other W15 (Or.inr (slot_ne (Or.inr (hw _ (List.mem_of_getElem? (i := 20) rfl))) (Or.inr (hw _ (List.mem_of_getElem? (i := 27) rfl))) (by decide) (t := (.array .double)) (t' := (.array .long)) (by decide) (by decide)))
  have V_b2 := V_b2.other W15 (Ne.symm ne_a_b2)
  have V_b4 := V_b4.other W15 (Ne.symm ne_a_b4)
  have V_b6 := V_b6.other W15 (Ne.symm ne_a_b6)
  have V_b8 := V_b8.other W15 (Ne.symm ne_a_b8)
  have V_b14 := V_b14.other W15 (Ne.symm ne_a_b14)
  have ZH := Nat.le_trans ZH (Nat.le_of_eq W15.size.symm)
  have KK := KK.wr W15 (Or.inl (List.mem_of_getElem? (i := 0) rfl))
  refine own_up st15 ?_
  show own_Go p.tables e below _ (T15.setTop (mkF m 54 #[.val (.ref a), .val (.int (2 : Int32))] []))
  obtain ⟨fs16, hr16, hrun16, hended16, hW16, hsame16⟩ := X15.leave (v := none) (fun _ => rfl)
  refine own_end ⟨_, _, ?_, hrun16, hended16, _, _, rfl, ?_, ⟨_, rfl⟩, hW16, hsame16.mono (by decide) (by decide)⟩
  · exact X15.returnOut hx Bd.returns (hb hby d1_54) hr16
  · show QrmC2 Z a h0 n0 _ T15.heap _
    rw [e15]
    exact ⟨rfl, N15, KK, b2, b4, b6, b8, k2, k4, k6, k8, sz_b4, ne_b2_b4, (Ne.symm ne_b4_b6), (Ne.symm ne_b4_b8), F_numbers_a, F_factors_a, F_least_a, F_greatest_a, V_b2, V_b4, V_b6, V_b8⟩
theorem ef_rmC3 (m : MethodId) (x0 : Addr) (x1 : Int32) : entryFrame m #[(.ref x0), (.int x1)] 2 = mkF m 0 #[.val (.ref x0), .val (.int x1)] [] := by first | (simp [entryFrame, mkF, argsToLocals, Value.category]; done) | rfl
def QrmC3 (Z : State) (a : Addr) (h0 : Heap) (n0 : Nat) (v : Option Value) (h : Heap) (L : List Loc) : Prop := v = none ∧ Fr n0 L ∧ Keep h0 h [a] ∧ ∃ (bn bf bl bg : Addr) (kn kf kl kg : ClassId), h0.size ≤ bf ∧ bn ≠ bf ∧ bl ≠ bf ∧ bg ≠ bf ∧ Fld Z h a "com/example/parley/parley/algorithms/Dgls$Modifiers" "numbers" "[[D" (.ref bn) ∧ Fld Z h a "com/example/parley/parley/algorithms/Dgls$Modifiers" "factors" "[D" (.ref bf) ∧ Fld Z h a "com/example/parley/parley/algorithms/Dgls$Modifiers" "least" "[D" (.ref bl) ∧ Fld Z h a "com/example/parley/parley/algorithms/Dgls$Modifiers" "greatest" "[D" (.ref bg) ∧ Arv Z h bn kn (.array .double) (3 : Int32) [.null, .null, .null] .null ∧ Arv Z h bf kf .double (3 : Int32) [(.double (0 : UInt64)), (.double (0 : UInt64)), (.double (0 : UInt64))] (.double (0 : UInt64)) ∧ Arv Z h bl kl .double (3 : Int32) [(.double (0 : UInt64)), (.double (0 : UInt64)), (.double (0 : UInt64))] (.double (0 : UInt64)) ∧ Arv Z h bg kg .double (3 : Int32) [(.double (0 : UInt64)), (.double (0 : UInt64)), (.double (0 : UInt64))] (.double (0 : UInt64))
set_option maxRecDepth 65536 in
set_option maxHeartbeats 40000000 in
theorem rmC3 (l : Launch) (Z : State) (a0 : Array Value) (hw : ∀ d ∈ tables_1, d.before a0 Z = true) (ws : List Jvm.Cond) (a : Addr) (h0 : Heap) (n0 : Nat) (Z0 : n0 ≤ h0.size) (E_a : Exa Z h0 a "com/example/parley/parley/algorithms/Dgls$Modifiers") (F_numbers_a : Fld Z h0 a "com/example/parley/parley/algorithms/Dgls$Modifiers" "numbers" "[[D" .null) (F_factors_a : Fld Z h0 a "com/example/parley/parley/algorithms/Dgls$Modifiers" "factors" "[D" .null) (F_least_a : Fld Z h0 a "com/example/parley/parley/algorithms/Dgls$Modifiers" "least" "[D" .null) (F_greatest_a : Fld Z h0 a "com/example/parley/parley/algorithms/Dgls$Modifiers" "greatest" "[D" .null) (F_sums_a : Fld Z h0 a "com/example/parley/parley/algorithms/Dgls$Modifiers" "sums" "[D" .null) (F_maxima_a : Fld Z h0 a "com/example/parley/parley/algorithms/Dgls$Modifiers" "maxima" "[D" .null) (F_entries_a : Fld Z h0 a "com/example/parley/parley/algorithms/Dgls$Modifiers" "entries" "[J" .null) (g_a : n0 ≤ a) :
    MetFree l (⟨"com/example/parley/parley/algorithms/Dgls$Modifiers", "<init>", "(I)V"⟩ : MethodName) (head1 (Jvm.Cond.code (⟨"com/example/parley/parley/algorithms/Dgls$Modifiers", "<init>", "(I)V"⟩ : MethodName) prog_8_method_1_code 2 none :: ws) ({ frames := 1, cells := 7, slots := 21, locals := 12 } : Room)) (fun aq Uq => aq = #[(.ref a), (.int (3 : Int32))] ∧ Z.Warmed39 Uq.vm ∧ Uq.heap = h0) (fun _ _ _ _ _ => True) (fun _ Uq oq Uq' => ∃ vq Lq, oq = .returned vq ∧ QrmC3 Z a h0 n0 vq Uq'.heap Lq ∧ FrameEnd Uq oq Uq' Lq ({ frames := 1, cells := 7, slots := 21, locals := 12 } : Room).cells ({ frames := 1, cells := 7, slots := 21, locals := 12 } : Room).slots) := by
  refine MetFree.of_bodySF (plainFor_of_name pn_0) hisR ?_
  intro p e s m args below meth c s₁ Bd hml0 hP hK
  obtain ⟨rfl, hZ, hh⟩ := hP
  have hx := Bd.exec
  have hby := Bd.bytes
  have hml : c.maxLocals = 2 := hml0
  have hown : s.vm.findClass "com/example/parley/parley/algorithms/Dgls$Modifiers" = some m.cls := findClass_of_methodNamed Bd.named
  have hnm := (name_of_methodNamed Bd.named Bd.method).1
  have X0 : Stand p l e ({ frames := 1, cells := 7, slots := 21, locals := 12 } : Room) s m #[(.ref a), (.int (3 : Int32))] below meth c s₁ [] 0 0 := Stand.of_body Bd
  have e0 : s₁.heap = h0 := by rw [← hh, Bd.state]; rfl
  have N0 := Fr.nil n0
  have ZH := Z0
  have KK := Keep.refl h0 [a]
  refine own_start (fun t kq => castTop (ef_rmC3 m a (3 : Int32)) kq) ?_
  show own_Go p.tables e below _ (s₁.setTop (mkF m 0 #[.val (.ref a), .val (.int (3 : Int32))] []))
  refine own_up (fun _ kq => XS.aloadN X0.here hx rfl (hb hby d1_0) rfl rfl kq) ?_
  show own_Go p.tables e below _ (s₁.setTop (mkF m 1 #[.val (.ref a), .val (.int (3 : Int32))] [(.ref a)]))
  obtain ⟨T1, X1, e1, st1⟩ := initO X0 hx hZ hown (hw _ (List.mem_of_getElem? (i := 7) rfl)) (hw _ (List.mem_of_getElem? (i := 8) rfl)) (hw _ (List.mem_of_getElem? (i := 9) rfl)) e0 (g := (mkF m 1 #[.val (.ref a), .val (.int (3 : Int32))] [(.ref a)])) rfl (by rw [hml]; rfl) rfl (hb hby d1_1) (by decide) (W := 0) (by show 2 * 0 + _ ≤ _; exact Nat.le_of_eq rfl) (by decide)
  refine own_up st1 ?_
  show own_Go p.tables e below _ (T1.setTop (mkF m 4 #[.val (.ref a), .val (.int (3 : Int32))] []))
  refine own_up (fun _ kq => XS.aloadN X1.here hx rfl (hb hby d1_4) rfl rfl kq) ?_
  show own_Go p.tables e below _ (T1.setTop (mkF m 5 #[.val (.ref a), .val (.int (3 : Int32))] [(.ref a)]))
  refine own_up (fun _ kq => XS.iloadN X1.here hx rfl (hb hby d1_5) rfl kq) ?_
  show own_Go p.tables e below _ (T1.setTop (mkF m 6 #[.val (.ref a), .val (.int (3 : Int32))] [(.int (3 : Int32)), (.ref a)]))
  obtain ⟨T2, h2, k2, X2, e2, E2, A2, B2, O2, st2⟩ := newRA X1 hx hZ hown (ty := .double) rfl (hw _ (List.mem_of_getElem? (i := 10) rfl)) (hw _ (List.mem_of_getElem? (i := 11) rfl)) e1 (g := (mkF m 6 #[.val (.ref a), .val (.int (3 : Int32))] [(.int (3 : Int32)), (.ref a)])) rfl (hb hby d1_6) rfl (by decide) (cap := 3) (by decide) (by decide) (by decide) (by decide) (ad := "[[D") rfl
  obtain ⟨b2, gz2⟩ : ∃ z, z = h0.size := ⟨_, rfl⟩
  rw [← gz2] at A2 st2
  have ne_a_b2 : a ≠ b2 := Nat.ne_of_lt (Nat.lt_of_lt_of_le E_a.lt (Nat.le_of_eq gz2.symm))
  have g_b2 : n0 ≤ b2 := Nat.le_trans ZH (Nat.le_of_eq gz2.symm)
  have sz_b2 : h0.size ≤ b2 := Nat.le_trans KK.1 (Nat.le_of_eq gz2.symm)
  have E_a := E_a.ext E2
  have F_numbers_a := F_numbers_a.ext E2
  have F_factors_a := F_factors_a.ext E2
  have F_least_a := F_least_a.ext E2
  have F_greatest_a := F_greatest_a.ext E2
  have F_sums_a := F_sums_a.ext E2
  have F_maxima_a := F_maxima_a.ext E2
  have F_entries_a := F_entries_a.ext E2
  have ZH := Nat.le_trans ZH E2.1
  have KK := KK.ext E2
  have V_b2 : Arv Z h2 b2 k2 (.array .double) (3 : Int32) [.null, .null, .null] .null := (Arv.new A2 (by decide)).pad (pad_rep [] .null 3)
  refine own_up st2 ?_
  show own_Go p.tables e below _ (T2.setTop (mkF m 9 #[.val (.ref a), .val (.int (3 : Int32))] [(.ref b2), (.ref a)]))
  obtain ⟨T3, h3, X3, e3, W3, st3⟩ := putF X2 hx hZ hown (host := "") (Or.inl (hw _ (List.mem_of_getElem? (i := 12) rfl))) Via.refl e2 F_numbers_a E_a (Or.inr ⟨(hw _ (List.mem_of_getElem? (i := 13) rfl)), rfl, hnm⟩) (hw _ (List.mem_of_getElem? (i := 2) rfl)) (ty := (.array (.array .double))) (by decide) rfl rfl (g := (mkF m 9 #[.val (.ref a), .val (.int (3 : Int32))] [(.ref b2), (.ref a)])) rfl rfl (hb hby d1_9)
  have N3 := Fr.snoc X3 N0 g_a
  have F_numbers_a := F_numbers_a.same W3
  have E_a := E_a.wr W3
  have F_factors_a := F_factors_a.other W3 (Or.inr (slot_ne (Or.inr (hw _ (List.mem_of_getElem? (i := 16) rfl))) (Or.inr (hw _ (List.mem_of_getElem? (i := 13) rfl))) (by decide) (t := (.array .double)) (t' := (.array (.array .double))) (by decide) (by decide)))
  have F_least_a := F_least_a.other W3 (Or.inr (slot_ne (Or.inr (hw _ (List.mem_of_getElem? (i := 18) rfl))) (Or.inr (hw _ (List.mem_of_getElem? (i := 13) rfl))) (by decide) (t := (.array .double)) (t' := (.array (.array .double))) (by decide) (by decide)))
  have F_greatest_a := F_greatest_a.other W3 (Or.inr (slot_ne (Or.inr (hw _ (List.mem_of_getElem? (i := 20) rfl))) (Or.inr (hw _ (List.mem_of_getElem? (i := 13) rfl))) (by decide) (t := (.array .double)) (t' := (.array (.array .double))) (by decide) (by decide)))
  have F_sums_a := F_sums_a.other W3 (Or.inr (slot_ne (Or.inr (hw _ (List.mem_of_getElem? (i := 22) rfl))) (Or.inr (hw _ (List.mem_of_getElem? (i := 13) rfl))) (by decide) (t := (.array .double)) (t' := (.array (.array .double))) (by decide) (by decide)))
  have F_maxima_a := F_maxima_a.other W3 (Or.inr (slot_ne (Or.inr (hw _ (List.mem_of_getElem? (i := 24) rfl))) (Or.inr (hw _ (List.mem_of_getElem? (i := 13) rfl))) (by decide) (t := (.array .double)) (t' := (.array (.array .double))) (by decide) (by decide)))
  have F_entries_a := F_entries_a.other W3 (Or.inr (slot_ne (Or.inr (hw _ (List.mem_of_getElem? (i := 27) rfl))) (Or.inr (hw _ (List.mem_of_getElem? (i := 13) rfl))) (by decide) (t := (.array .long)) (t' := (.array (.array .double))) (by decide) (by decide)))
  have V_b2 := V_b2.other W3 (Ne.symm ne_a_b2)
  have ZH := Nat.le_trans ZH (Nat.le_of_eq W3.size.symm)
  have KK := KK.wr W3 (Or.inl (List.mem_of_getElem? (i := 0) rfl))
  refine own_up st3 ?_
  show own_Go p.tables e below _ (T3.setTop (mkF m 12 #[.val (.ref a), .val (.int (3 : Int32))] []))
  refine own_up (fun _ kq => XS.aloadN X3.here hx rfl (hb hby d1_12) rfl rfl kq) ?_
  show own_Go p.tables e below _ (T3.setTop (mkF m 13 #[.val (.ref a), .val (.int (3 : Int32))] [(.ref a)]))
  refine own_up (fun _ kq => XS.iloadN X3.here hx rfl (hb hby d1_13) rfl kq) ?_
  show own_Go p.tables e below _ (T3.setTop (mkF m 14 #[.val (.ref a), .val (.int (3 : Int32))] [(.int (3 : Int32)), (.ref a)]))
  obtain ⟨T4, h4, k4, X4, e4, E4, A4, st4⟩ := newP X3 hx hZ (hw _ (List.mem_of_getElem? (i := 14) rfl)) e3 (g := (mkF m 14 #[.val (.ref a), .val (.int (3 : Int32))] [(.int (3 : Int32)), (.ref a)])) rfl (hb hby d1_14) rfl (by decide) (cap := 3) (by decide) (by decide) (by decide) (by decide)
  obtain ⟨b4, gz4⟩ : ∃ z, z = h3.size := ⟨_, rfl⟩
  rw [← gz4] at A4 st4
  have ne_a_b4 : a ≠ b4 := Nat.ne_of_lt (Nat.lt_of_lt_of_le E_a.lt (Nat.le_of_eq gz4.symm))
  have ne_b2_b4 : b2 ≠ b4 := Nat.ne_of_lt (Nat.lt_of_lt_of_le V_b2.lt (Nat.le_of_eq gz4.symm))
  have g_b4 : n0 ≤ b4 := Nat.le_trans ZH (Nat.le_of_eq gz4.symm)
  have sz_b4 : h0.size ≤ b4 := Nat.le_trans KK.1 (Nat.le_of_eq gz4.symm)
  have E_a := E_a.ext E4
  have F_numbers_a := F_numbers_a.ext E4
  have F_factors_a := F_factors_a.ext E4
  have F_least_a := F_least_a.ext E4
  have F_greatest_a := F_greatest_a.ext E4
  have F_sums_a := F_sums_a.ext E4
  have F_maxima_a := F_maxima_a.ext E4
  have F_entries_a := F_entries_a.ext E4
  have V_b2 := V_b2.ext E4
  have ZH := Nat.le_trans ZH E4.1
  have KK := KK.ext E4
  have V_b4 : Arv Z h4 b4 k4 .double (3 : Int32) [(.double (0 : UInt64)), (.double (0 : UInt64)), (.double (0 : UInt64))] (.double (0 : UInt64)) := (Arv.new A4 (by decide)).pad (pad_rep [] (.double (0 : UInt64)) 3)
  refine own_up st4 ?_
  show own_Go p.tables e below _ (T4.setTop (mkF m 16 #[.val (.ref a), .val (.int (3 : Int32))] [(.ref b4), (.ref a)]))
  obtain ⟨T5, h5, X5, e5, W5, st5⟩ := putF X4 hx hZ hown (host := "") (Or.inl (hw _ (List.mem_of_getElem? (i := 15) rfl))) Via.refl e4 F_factors_a E_a (Or.inr ⟨(hw _ (List.mem_of_getElem? (i := 16) rfl)), rfl, hnm⟩) (hw _ (List.mem_of_getElem? (i := 2) rfl)) (ty := (.array .double)) (by decide) rfl rfl (g := (mkF m 16 #[.val (.ref a), .val (.int (3 : Int32))] [(.ref b4), (.ref a)])) rfl rfl (hb hby d1_16)
  have N5 := Fr.snoc X5 N3 g_a
  have F_factors_a := F_factors_a.same W5
  have E_a := E_a.wr W5
  have F_numbers_a := F_numbers_a.other W5 (Or.inr (slot_ne (Or.inr (hw _ (List.mem_of_getElem? (i := 13) rfl))) (Or.inr (hw _ (List.mem_of_getElem? (i := 16) rfl))) (by decide) (t := (.array (.array .double))) (t' := (.array .double)) (by decide) (by decide)))
  have F_least_a := F_least_a.other W5 (Or.inr (slot_ne (Or.inr (hw _ (List.mem_of_getElem? (i := 18) rfl))) (Or.inr (hw _ (List.mem_of_getElem? (i := 16) rfl))) (by decide) (t := (.array .double)) (t' := (.array .double)) (by decide) (by decide)))
  have F_greatest_a := F_greatest_a.other W5 (Or.inr (slot_ne (Or.inr (hw _ (List.mem_of_getElem? (i := 20) rfl))) (Or.inr (hw _ (List.mem_of_getElem? (i := 16) rfl))) (by decide) (t := (.array .double)) (t' := (.array .double)) (by decide) (by decide)))
  have F_sums_a := F_sums_a.other W5 (Or.inr (slot_ne (Or.inr (hw _ (List.mem_of_getElem? (i := 22) rfl))) (Or.inr (hw _ (List.mem_of_getElem? (i := 16) rfl))) (by decide) (t := (.array .double)) (t' := (.array .double)) (by decide) (by decide)))
  have F_maxima_a := F_maxima_a.other W5 (Or.inr (slot_ne (Or.inr (hw _ (List.mem_of_getElem? (i := 24) rfl))) (Or.inr (hw _ (List.mem_of_getElem? (i := 16) rfl))) (by decide) (t := (.array .double)) (t' := (.array .double)) (by decide) (by decide)))
  have F_entries_a := F_entries_a.other W5 (Or.inr (slot_ne (Or.inr (hw _ (List.mem_of_getElem? (i := 27) rfl))) (Or.inr (hw _ (List.mem_of_getElem? (i := 16) rfl))) (by decide) (t := (.array .long)) (t' := (.array .double)) (by decide) (by decide)))
  have V_b2 := V_b2.other W5 (Ne.symm ne_a_b2)
  have V_b4 := V_b4.other W5 (Ne.symm ne_a_b4)
  have ZH := Nat.le_trans ZH (Nat.le_of_eq W5.size.symm)
  have KK := KK.wr W5 (Or.inl (List.mem_of_getElem? (i := 0) rfl))
  refine own_up st5 ?_
  show own_Go p.tables e below _ (T5.setTop (mkF m 19 #[.val (.ref a), .val (.int (3 : Int32))] []))
  refine own_up (fun _ kq => XS.aloadN X5.here hx rfl (hb hby d1_19) rfl rfl kq) ?_
  show own_Go p.tables e below _ (T5.setTop (mkF m 20 #[.val (.ref a), .val (.int (3 : Int32))] [(.ref a)]))
  refine own_up (fun _ kq => XS.iloadN X5.here hx rfl (hb hby d1_20) rfl kq) ?_
  show own_Go p.tables e below _ (T5.setTop (mkF m 21 #[.val (.ref a), .val (.int (3 : Int32))] [(.int (3 : Int32)), (.ref a)]))
  obtain ⟨T6, h6, k6, X6, e6, E6, A6, st6⟩ := newP X5 hx hZ (hw _ (List.mem_of_getElem? (i := 14) rfl)) e5 (g := (mkF m 21 #[.val (.ref a), .val (.int (3 : Int32))] [(.int (3 : Int32)), (.ref a)])) rfl (hb hby d1_21) rfl (by decide) (cap := 3) (by decide) (by decide) (by decide) (by decide)
  obtain ⟨b6, gz6⟩ : ∃ z, z = h5.size := ⟨_, rfl⟩
  rw [← gz6] at A6 st6
  have ne_a_b6 : a ≠ b6 := Nat.ne_of_lt (Nat.lt_of_lt_of_le E_a.lt (Nat.le_of_eq gz6.symm))
  have ne_b2_b6 : b2 ≠ b6 := Nat.ne_of_lt (Nat.lt_of_lt_of_le V_b2.lt (Nat.le_of_eq gz6.symm))
  have ne_b4_b6 : b4 ≠ b6 := Nat.ne_of_lt (Nat.lt_of_lt_of_le V_b4.lt (Nat.le_of_eq gz6.symm))
  have g_b6 : n0 ≤ b6 := Nat.le_trans ZH (Nat.le_of_eq gz6.symm)
  have sz_b6 : h0.size ≤ b6 := Nat.le_trans KK.1 (Nat.le_of_eq gz6.symm)
  have E_a := E_a.ext E6
  have F_numbers_a := F_numbers_a.ext E6
  have F_factors_a := F_factors_a.ext E6
  have F_least_a := F_least_a.ext E6
  have F_greatest_a := F_greatest_a.ext E6
  have F_sums_a := F_sums_a.ext E6
  have F_maxima_a := F_maxima_a.ext E6
  have F_entries_a := F_entries_a.ext E6
  have V_b2 := V_b2.ext E6
  have V_b4 := V_b4.ext E6
  have ZH := Nat.le_trans ZH E6.1
  have KK := KK.ext E6
  have V_b6 : Arv Z h6 b6 k6 .double (3 : Int32) [(.double (0 : UInt64)), (.double (0 : UInt64)), (.double (0 : UInt64))] (.double (0 : UInt64)) := (Arv.new A6 (by decide)).pad (pad_rep [] (.double (0 : UInt64)) 3)
  refine own_up st6 ?_
  show own_Go p.tables e below _ (T6.setTop (mkF m 23 #[.val (.ref a), .val (.int (3 : Int32))] [(.ref b6), (.ref a)]))
  obtain ⟨T7, h7, X7, e7, W7, st7⟩ := putF X6 hx hZ hown (host := "") (Or.inl (hw _ (List.mem_of_getElem? (i := 17) rfl))) Via.refl e6 F_least_a E_a (Or.inr ⟨(hw _ (List.mem_of_getElem? (i := 18) rfl)), rfl, hnm⟩) (hw _ (List.mem_of_getElem? (i := 2) rfl)) (ty := (.array .double)) (by decide) rfl rfl (g := (mkF m 23 #[.val (.ref a), .val (.int (3 : Int32))] [(.ref b6), (.ref a)])) rfl rfl (hb hby d1_23)
  have N7 := Fr.snoc X7 N5 g_a
  have F_least_a := F_least_a.same W7
  have E_a := E_a.wr W7
  have F_numbers_a := F_numbers_a.other W7 (Or.inr (slot_ne (Or.inr (hw _ (List.mem_of_getElem? (i := 13) rfl))) (Or.inr (hw _ (List.mem_of_getElem? (i := 18) rfl))) (by decide) (t := (.array (.array .double))) (t' := (.array .double)) (by decide) (by decide)))
  have F_factors_a := F_factors_a.other W7 (Or.inr (slot_ne (Or.inr (hw _ (List.mem_of_getElem? (i := 16) rfl))) (Or.inr (hw _ (List.mem_of_getElem? (i := 18) rfl))) (by decide) (t := (.array .double)) (t' := (.array .double)) (by decide) (by decide)))
  have F_greatest_a := F_greatest_a.other W7 (Or.inr (slot_ne (Or.inr (hw _ (List.mem_of_getElem? (i := 20) rfl))) (Or.inr (hw _ (List.mem_of_getElem? (i := 18) rfl))) (by decide) (t := (.array .double)) (t' := (.array .double)) (by decide) (by decide)))
  have F_sums_a := F_sums_a.other W7 (Or.inr (slot_ne (Or.inr (hw _ (List.mem_of_getElem? (i := 22) rfl))) (Or.inr (hw _ (List.mem_of_getElem? (i := 18) rfl))) (by decide) (t := (.array .double)) (t' := (.array .double)) (by decide) (by decide)))
  have F_maxima_a := F_maxima_a.other W7 (Or.inr (slot_ne (Or.inr (hw _ (List.mem_of_getElem? (i := 24) rfl))) (Or.inr (hw _ (List.mem_of_getElem? (i := 18) rfl))) (by decide) (t := (.array .double)) (t' := (.array .double)) (by decide) (by decide)))
  have F_entries_a := F_entries_a.other W7 (Or.inr (slot_ne (Or.inr (hw _ (List.mem_of_getElem? (i := 27) rfl))) (Or.inr (hw _ (List.mem_of_getElem? (i := 18) rfl))) (by decide) (t := (.array .long)) (t' := (.array .double)) (by decide) (by decide)))
  have V_b2 := V_b2.other W7 (Ne.symm ne_a_b2)
  have V_b4 := V_b4.other W7 (Ne.symm ne_a_b4)
  have V_b6 := V_b6.other W7 (Ne.symm ne_a_b6)
  have ZH := Nat.le_trans ZH (Nat.le_of_eq W7.size.symm)
  have KK := KK.wr W7 (Or.inl (List.mem_of_getElem? (i := 0) rfl))
  refine own_up st7 ?_
  show own_Go p.tables e below _ (T7.setTop (mkF m 26 #[.val (.ref a), .val (.int (3 : Int32))] []))
  refine own_up (fun _ kq => XS.aloadN X7.here hx rfl (hb hby d1_26) rfl rfl kq) ?_
  show own_Go p.tables e below _ (T7.setTop (mkF m 27 #[.val (.ref a), .val (.int (3 : Int32))] [(.ref a)]))
  refine own_up (fun _ kq => XS.iloadN X7.here hx rfl (hb hby d1_27) rfl kq) ?_
  show own_Go p.tables e below _ (T7.setTop (mkF m 28 #[.val (.ref a), .val (.int (3 : Int32))] [(.int (3 : Int32)), (.ref a)]))
  obtain ⟨T8, h8, k8, X8, e8, E8, A8, st8⟩ := newP X7 hx hZ (hw _ (List.mem_of_getElem? (i := 14) rfl)) e7 (g := (mkF m 28 #[.val (.ref a), .val (.int (3 : Int32))] [(.int (3 : Int32)), (.ref a)])) rfl (hb hby d1_28) rfl (by decide) (cap := 3) (by decide) (by decide) (by decide) (by decide)
  obtain ⟨b8, gz8⟩ : ∃ z, z = h7.size := ⟨_, rfl⟩
  rw [← gz8] at A8 st8
  have ne_a_b8 : a ≠ b8 := Nat.ne_of_lt (Nat.lt_of_lt_of_le E_a.lt (Nat.le_of_eq gz8.symm))
  have ne_b2_b8 : b2 ≠ b8 := Nat.ne_of_lt (Nat.lt_of_lt_of_le V_b2.lt (Nat.le_of_eq gz8.symm))
  have ne_b4_b8 : b4 ≠ b8 := Nat.ne_of_lt (Nat.lt_of_lt_of_le V_b4.lt (Nat.le_of_eq gz8.symm))
  have ne_b6_b8 : b6 ≠ b8 := Nat.ne_of_lt (Nat.lt_of_lt_of_le V_b6.lt (Nat.le_of_eq gz8.symm))
  have g_b8 : n0 ≤ b8 := Nat.le_trans ZH (Nat.le_of_eq gz8.symm)
  have sz_b8 : h0.size ≤ b8 := Nat.le_trans KK.1 (Nat.le_of_eq gz8.symm)
  have E_a := E_a.ext E8
  have F_numbers_a := F_numbers_a.ext E8
  have F_factors_a := F_factors_a.ext E8
  have F_least_a := F_least_a.ext E8
  have F_greatest_a := F_greatest_a.ext E8
  have F_sums_a := F_sums_a.ext E8
  have F_maxima_a := F_maxima_a.ext E8
  have F_entries_a := F_entries_a.ext E8
  have V_b2 := V_b2.ext E8
  have V_b4 := V_b4.ext E8
  have V_b6 := V_b6.ext E8
  have ZH := Nat.le_trans ZH E8.1
  have KK := KK.ext E8
  have V_b8 : Arv Z h8 b8 k8 .double (3 : Int32) [(.double (0 : UInt64)), (.double (0 : UInt64)), (.double (0 : UInt64))] (.double (0 : UInt64)) := (Arv.new A8 (by decide)).pad (pad_rep [] (.double (0 : UInt64)) 3)
  refine own_up st8 ?_
  show own_Go p.tables e below _ (T8.setTop (mkF m 30 #[.val (.ref a), .val (.int (3 : Int32))] [(.ref b8), (.ref a)]))
  obtain ⟨T9, h9, X9, e9, W9, st9⟩ := putF X8 hx hZ hown (host := "") (Or.inl (hw _ (List.mem_of_getElem? (i := 19) rfl))) Via.refl e8 F_greatest_a E_a (Or.inr ⟨(hw _ (List.mem_of_getElem? (i := 20) rfl)), rfl, hnm⟩) (hw _ (List.mem_of_getElem? (i := 2) rfl)) (ty := (.array .double)) (by decide) rfl rfl (g := (mkF m 30 #[.val (.ref a), .val (.int (3 : Int32))] [(.ref b8), (.ref a)])) rfl rfl (hb hby d1_30)
  have N9 := Fr.snoc X9 N7 g_a
  have F_greatest_a := F_greatest_a.same W9
  have E_a := E_a.wr W9
  have F_numbers_a := F_numbers_a.other W9 (Or.inr (slot_ne (Or.inr (hw _ (List.mem_of_getElem? (i := 13) rfl))) (Or.inr (hw _ (List.mem_of_getElem? (i := 20) rfl))) (by decide) (t := (.array (.array .double))) (t' := (.array .double)) (by decide) (by decide)))
  have F_factors_a := F_factors_a.other W9 (Or.inr (slot_ne (Or.inr (hw _ (List.mem_of_getElem? (i := 16) rfl))) (Or.inr (hw _ (List.mem_of_getElem? (i := 20) rfl))) (by decide) (t := (.array .double)) (t' := (.array .double)) (by decide) (by decide)))
  have F_least_a := F_least_a.other W9 (Or.inr (slot_ne (Or.inr (hw _ (List.mem_of_getElem? (i := 18) rfl))) (Or.inr (hw _ (List.mem_of_getElem? (i := 20) rfl))) (by decide) (t := (.array .double)) (t' := (.array .double)) (by decide) (by decide)))
  have F_sums_a := F_sums_a.other W9 (Or.inr (slot_ne (Or.inr (hw _ (List.mem_of_getElem? (i := 22) rfl))) (Or.inr (hw _ (List.mem_of_getElem? (i := 20) rfl))) (by decide) (t := (.array .double)) (t' := (.array .double)) (by decide) (by decide)))
  have F_maxima_a := F_maxima_a.other W9 (Or.inr (slot_ne (Or.inr (hw _ (List.mem_of_getElem? (i := 24) rfl))) (Or.inr (hw _ (List.mem_of_getElem? (i := 20) rfl))) (by decide) (t := (.array .double)) (t' := (.array .double)) (by decide) (by decide)))
  have F_entries_a := F_entries_a.other W9 (Or.inr (slot_ne (Or.inr (hw _ (List.mem_of_getElem? (i := 27) rfl))) (Or.inr (hw _ (List.mem_of_getElem? (i := 20) rfl))) (by decide) (t := (.array .long)) (t' := (.array .double)) (by decide) (by decide)))
  have V_b2 := V_b2.other W9 (Ne.symm ne_a_b2)
  have V_b4 := V_b4.other W9 (Ne.symm ne_a_b4)
  have V_b6 := V_b6.other W9 (Ne.symm ne_a_b6)
  have V_b8 := V_b8.other W9 (Ne.symm ne_a_b8)
  have ZH := Nat.le_trans ZH (Nat.le_of_eq W9.size.symm)
  have KK := KK.wr W9 (Or.inl (List.mem_of_getElem? (i := 0) rfl))
  refine own_up st9 ?_
  show own_Go p.tables e below _ (T9.setTop (mkF m 33 #[.val (.ref a), .val (.int (3 : Int32))] []))
  refine own_up (fun _ kq => XS.aloadN X9.here hx rfl (hb hby d1_33) rfl rfl kq) ?_
  show own_Go p.tables e below _ (T9.setTop (mkF m 34 #[.val (.ref a), .val (.int (3 : Int32))] [(.ref a)]))
  refine own_up (fun _ kq => XS.iloadN X9.here hx rfl (hb hby d1_34) rfl kq) ?_
  show own_Go p.tables e below _ (T9.setTop (mkF m 35 #[.val (.ref a), .val (.int (3 : Int32))] [(.int (3 : Int32)), (.ref a)]))
  obtain ⟨T10, h10, k10, X10, e10, E10, A10, st10⟩ := newP X9 hx hZ (hw _ (List.mem_of_getElem? (i := 14) rfl)) e9 (g := (mkF m 35 #[.val (.ref a), .val (.int (3 : Int32))] [(.int (3 : Int32)), (.ref a)])) rfl (hb hby d1_35) rfl (by decide) (cap := 3) (by decide) (by decide) (by decide) (by decide)
  obtain ⟨b10, gz10⟩ : ∃ z, z = h9.size := ⟨_, rfl⟩
  rw [← gz10] at A10 st10
  have ne_a_b10 : a ≠ b10 := Nat.ne_of_lt (Nat.lt_of_lt_of_le E_a.lt (Nat.le_of_eq gz10.symm))
  have ne_b2_b10 : b2 ≠ b10 := Nat.ne_of_lt (Nat.lt_of_lt_of_le V_b2.lt (Nat.le_of_eq gz10.symm))
  have ne_b4_b10 : b4 ≠ b10 := Nat.ne_of_lt (Nat.lt_of_lt_of_le V_b4.lt (Nat.le_of_eq gz10.symm))
  have ne_b6_b10 : b6 ≠ b10 := Nat.ne_of_lt (Nat.lt_of_lt_of_le V_b6.lt (Nat.le_of_eq gz10.symm))
  have ne_b8_b10 : b8 ≠ b10 := Nat.ne_of_lt (Nat.lt_of_lt_of_le V_b8.lt (Nat.le_of_eq gz10.symm))
  have g_b10 : n0 ≤ b10 := Nat.le_trans ZH (Nat.le_of_eq gz10.symm)
  have sz_b10 : h0.size ≤ b10 := Nat.le_trans KK.1 (Nat.le_of_eq gz10.symm)
  have E_a := E_a.ext E10
  have F_numbers_a := F_numbers_a.ext E10
  have F_factors_a := F_factors_a.ext E10
  have F_least_a := F_least_a.ext E10
  have F_greatest_a := F_greatest_a.ext E10
  have F_sums_a := F_sums_a.ext E10
  have F_maxima_a := F_maxima_a.ext E10
  have F_entries_a := F_entries_a.ext E10
  have V_b2 := V_b2.ext E10
  have V_b4 := V_b4.ext E10
  have V_b6 := V_b6.ext E10
  have V_b8 := V_b8.ext E10
  have ZH := Nat.le_trans ZH E10.1
  have KK := KK.ext E10
  have V_b10 : Arv Z h10 b10 k10 .double (3 : Int32) [(.double (0 : UInt64)), (.double (0 : UInt64)), (.double (0 : UInt64))] (.double (0 : UInt64)) := (Arv.new A10 (by decide)).pad (pad_rep [] (.double (0 : UInt64)) 3)
  refine own_up st10 ?_
  show own_Go p.tables e below _ (T10.setTop (mkF m 37 #[.val (.ref a), .val (.int (3 : Int32))] [(.ref b10), (.ref a)]))
  obtain ⟨T11, h11, X11, e11, W11, st11⟩ := putF X10 hx hZ hown (host := "") (Or.inl (hw _ (List.mem_of_getElem? (i := 21) rfl))) Via.refl e10 F_sums_a E_a (Or.inr ⟨(hw _ (List.mem_of_getElem? (i := 22) rfl)), rfl, hnm⟩) (hw _ (List.mem_of_getElem? (i := 2) rfl)) (ty := (.array .double)) (by decide) rfl rfl (g := (mkF m 37 #[.val (.ref a), .val (.int (3 : Int32))] [(.ref b10), (.ref a)])) rfl rfl (hb hby d1_37)
  have N11 := Fr.snoc X11 N9 g_a
  have F_sums_a := F_sums_a.same W11
  have E_a := E_a.wr W11
  have F_numbers_a := F_numbers_a.other W11 (Or.inr (slot_ne (Or.inr (hw _ (List.mem_of_getElem? (i := 13) rfl))) (Or.inr (hw _ (List.mem_of_getElem? (i := 22) rfl))) (by decide) (t := (.array (.array .double))) (t' := (.array .double)) (by decide) (by decide)))
  have F_factors_a := F_factors_a.other W11 (Or.inr (slot_ne (Or.inr (hw _ (List.mem_of_getElem? (i := 16) rfl))) (Or.inr (hw _ (List.mem_of_getElem? (i := 22) rfl))) (by decide) (t := (.array .double)) (t' := (.array .double)) (by decide) (by decide)))
  have F_least_a := F_least_a.other W11 (Or.inr (slot_ne (Or.inr (hw _ (List.mem_of_getElem? (i := 18) rfl))) (Or.inr (hw _ (List.mem_of_getElem? (i := 22) rfl))) (by decide) (t := (.array .double)) (t' := (.array .double)) (by decide) (by decide)))
  have F_greatest_a := F_greatest_a.other W11 (Or.inr (slot_ne (Or.inr (hw _ (List.mem_of_getElem? (i := 20) rfl))) (Or.inr (hw _ (List.mem_of_getElem? (i := 22) rfl))) (by decide) (t := (.array .double)) (t' := (.array .double)) (by decide) (by decide)))
  have F_maxima_a := F_maxima_a.other W11 (Or.inr (slot_ne (Or.inr (hw _ (List.mem_of_getElem? (i := 24) rfl))) (Or.inr (hw _ (List.mem_of_getElem? (i := 22) rfl))) (by decide) (t := (.array .double)) (t' := (.array .double)) (by decide) (by decide)))
  have F_entries_a := F_entries_a.other W11 (Or.inr (slot_ne (Or.inr (hw _ (List.mem_of_getElem? (i := 27) rfl))) (Or.inr (hw _ (List.mem_of_getElem? (i := 22) rfl))) (by decide) (t := (.array .long)) (t' := (.array .double)) (by decide) (by decide)))
  have V_b2 := V_b2.other W11 (Ne.symm ne_a_b2)
  have V_b4 := V_b4.other W11 (Ne.symm ne_a_b4)
  have V_b6 := V_b6.other W11 (Ne.symm ne_a_b6)
  have V_b8 := V_b8.other W11 (Ne.symm ne_a_b8)
  have V_b10 := V_b10.other W11 (Ne.symm ne_a_b10)
  have ZH := Nat.le_trans ZH (Nat.le_of_eq W11.size.symm)
  have KK := KK.wr W11 (Or.inl (List.mem_of_getElem? (i := 0) rfl))
  refine own_up st11 ?_
  show own_Go p.tables e below _ (T11.setTop (mkF m 40 #[.val (.ref a), .val (.int (3 : Int32))] []))
  refine own_up (fun _ kq => XS.aloadN X11.here hx rfl (hb hby d1_40) rfl rfl kq) ?_
  show own_Go p.tables e below _ (T11.setTop (mkF m 41 #[.val (.ref a), .val (.int (3 : Int32))] [(.ref a)]))
  refine own_up (fun _ kq => XS.iloadN X11.here hx rfl (hb hby d1_41) rfl kq) ?_
  show own_Go p.tables e below _ (T11.setTop (mkF m 42 #[.val (.ref a), .val (.int (3 : Int32))] [(.int (3 : Int32)), (.ref a)]))
  obtain ⟨T12, h12, k12, X12, e12, E12, A12, st12⟩ := newP X11 hx hZ (hw _ (List.mem_of_getElem? (i := 14) rfl)) e11 (g := (mkF m 42 #[.val (.ref a), .val (.int (3 : Int32))] [(.int (3 : Int32)), (.ref a)])) rfl (hb hby d1_42) rfl (by decide) (cap := 3) (by decide) (by decide) (by decide) (by decide)
  obtain ⟨b12, gz12⟩ : ∃ z, z = h11.size := ⟨_, rfl⟩
  rw [← gz12] at A12 st12
  have ne_a_b12 : a ≠ b12 := Nat.ne_of_lt (Nat.lt_of_lt_of_le E_a.lt (Nat.le_of_eq gz12.symm))
  have ne_b2_b12 : b2 ≠ b12 := Nat.ne_of_lt (Nat.lt_of_lt_of_le V_b2.lt (Nat.le_of_eq gz12.symm))
  have ne_b4_b12 : b4 ≠ b12 := Nat.ne_of_lt (Nat.lt_of_lt_of_le V_b4.lt (Nat.le_of_eq gz12.symm))
  have ne_b6_b12 : b6 ≠ b12 := Nat.ne_of_lt (Nat.lt_of_lt_of_le V_b6.lt (Nat.le_of_eq gz12.symm))
  have ne_b8_b12 : b8 ≠ b12 := Nat.ne_of_lt (Nat.lt_of_lt_of_le V_b8.lt (Nat.le_of_eq gz12.symm))
  have g_b12 : n0 ≤ b12 := Nat.le_trans ZH (Nat.le_of_eq gz12.symm)
  have sz_b12 : h0.size ≤ b12 := Nat.le_trans KK.1 (Nat.le_of_eq gz12.symm)
  have E_a := E_a.ext E12
  have F_numbers_a := F_numbers_a.ext E12
  have F_factors_a := F_factors_a.ext E12
  have F_least_a := F_least_a.ext E12
  have F_greatest_a := F_greatest_a.ext E12
  have F_maxima_a := F_maxima_a.ext E12
  have F_entries_a := F_entries_a.ext E12
  have V_b2 := V_b2.ext E12
  have V_b4 := V_b4.ext E12
  have V_b6 := V_b6.ext E12
  have V_b8 := V_b8.ext E12
  have ZH := Nat.le_trans ZH E12.1
  have KK := KK.ext E12
  have V_b12 : Arv Z h12 b12 k12 .double (3 : Int32) [(.double (0 : UInt64)), (.double (0 : UInt64)), (.double (0 : UInt64))] (.double (0 : UInt64)) := (Arv.new A12 (by decide)).pad (pad_rep [] (.double (0 : UInt64)) 3)
  refine own_up st12 ?_
  show own_Go p.tables e below _ (T12.setTop (mkF m 44 #[.val (.ref a), .val (.int (3 : Int32))] [(.ref b12), (.ref a)]))
  obtain ⟨T13, h13, X13, e13, W13, st13⟩ := putF X12 hx hZ hown (host := "") (Or.inl (hw _ (List.mem_of_getElem? (i := 23) rfl))) Via.refl e12 F_maxima_a E_a (Or.inr ⟨(hw _ (List.mem_of_getElem? (i := 24) rfl)), rfl, hnm⟩) (hw _ (List.mem_of_getElem? (i := 2) rfl)) (ty := (.array .double)) (by decide) rfl rfl (g := (mkF m 44 #[.val (.ref a), .val (.int (3 : Int32))] [(.ref b12), (.ref a)])) rfl rfl (hb hby d1_44)
  have N13 := Fr.snoc X13 N11 g_a
  have F_maxima_a := F_maxima_a.same W13
  have E_a := E_a.wr W13
  have F_numbers_a := F_numbers_a.other W13 (Or.inr (slot_ne (Or.inr (hw _ (List.mem_of_getElem? (i := 13) rfl))) (Or.inr (hw _ (List.mem_of_getElem? (i := 24) rfl))) (by decide) (t := (.array (.array .double))) (t' := (.array .double)) (by decide) (by decide)))
  have F_factors_a := F_factors_a.other W13 (Or.inr (slot_ne (Or.inr (hw _ (List.mem_of_getElem? (i := 16) rfl))) (Or.inr (hw _ (List.mem_of_getElem? (i := 24) rfl))) (by decide) (t := (.array .double)) (t' := (.array .double)) (by decide) (by decide)))
  have F_least_a := F_least_a.other W13 (Or.inr (slot_ne (Or.inr (hw _ (List.mem_of_getElem? (i := 18) rfl))) (Or.inr (hw _ (List.mem_of_getElem? (i := 24) rfl))) (by decide) (t := (.array .double)) (t' := (.array .double)) (by decide) (by decide)))
  have F_greatest_a := F_greatest_a.other W13 (Or.inr (slot_ne (Or.inr (hw _ (List.mem_of_getElem? (i := 20) rfl))) (Or.inr (hw _ (List.mem_of_getElem? (i := 24) rfl))) (by decide) (t := (.array .double)) (t' := (.array .double)) (by decide) (by decide)))
  have F_entries_a := F_entries_a.other W13 (Or.inr (slot_ne (Or.inr (hw _ (List.mem_of_getElem? (i := 27) rfl))) (Or.inr (hw _ (List.mem_of_getElem? (i := 24) rfl))) (by decide) (t := (.array .long)) (t' := (.array .double)) (by decide) (by decide)))
  have V_b2 := V_b2.other W13 (Ne.symm ne_a_b2)
  have V_b4 := V_b4.other W13 (Ne.symm ne_a_b4)
  have V_b6 := V_b6.other W13 (Ne.symm ne_a_b6)
  have V_b8 := V_b8.other W13 (Ne.symm ne_a_b8)
  have V_b12 := V_b12.other W13 (Ne.symm ne_a_b12)
  have ZH := Nat.le_trans ZH (Nat.le_of_eq W13.size.symm)
  have KK := KK.wr W13 (Or.inl (List.mem_of_getElem? (i := 0) rfl))
  refine own_up st13 ?_
  show own_Go p.tables e below _ (T13.setTop (mkF m 47 #[.val (.ref a), .val (.int (3 : Int32))] []))
  refine own_up (fun _ kq => XS.aloadN X13.here hx rfl (hb hby d1_47) rfl rfl kq) ?_
  show own_Go p.tables e below _ (T13.setTop (mkF m 48 #[.val (.ref a), .val (.int (3 : Int32))] [(.ref a)]))
  refine own_up (fun _ kq => XS.iloadN X13.here hx rfl (hb hby d1_48) rfl kq) ?_
  show own_Go p.tables e below _ (T13.setTop (mkF m 49 #[.val (.ref a), .val (.int (3 : Int32))] [(.int (3 : Int32)), (.ref a)]))
  obtain ⟨T14, h14, k14, X14, e14, E14, A14, st14⟩ := newP X13 hx hZ (hw _ (List.mem_of_getElem? (i := 25) rfl)) e13 (g := (mkF m 49 #[.val (.ref a), .val (.int (3 : Int32))] [(.int (3 : Int32)), (.ref a)])) rfl (hb hby d1_49) rfl (by decide) (cap := 3) (by decide) (by decide) (by decide) (by decide)
  obtain ⟨b14, gz14⟩ : ∃ z, z = h13.size := ⟨_, rfl⟩
  rw [← gz14] at A14 st14
  have ne_a_b14 : a ≠ b14 := Nat.ne_of_lt (Nat.lt_of_lt_of_le E_a.lt (Nat.le_of_eq gz14.symm))
  have ne_b2_b14 : b2 ≠ b14 := Nat.ne_of_lt (Nat.lt_of_lt_of_le V_b2.lt (Nat.le_of_eq gz14.symm))
  have ne_b4_b14 : b4 ≠ b14 := Nat.ne_of_lt (Nat.lt_of_lt_of_le V_b4.lt (Nat.le_of_eq gz14.symm))
  have ne_b6_b14 : b6 ≠ b14 := Nat.ne_of_lt (Nat.lt_of_lt_of_le V_b6.lt (Nat.le_of_eq gz14.symm))
  have ne_b8_b14 : b8 ≠ b14 := Nat.ne_of_lt (Nat.lt_of_lt_of_le V_b8.lt (Nat.le_of_eq gz14.symm))
  have g_b14 : n0 ≤ b14 := Nat.le_trans ZH (Nat.le_of_eq gz14.symm)
  have sz_b14 : h0.size ≤ b14 := Nat.le_trans KK.1 (Nat.le_of_eq gz14.symm)
  have E_a := E_a.ext E14
  have F_numbers_a := F_numbers_a.ext E14
  have F_factors_a := F_factors_a.ext E14
  have F_least_a := F_least_a.ext E14
  have F_greatest_a := F_greatest_a.ext E14
  have F_entries_a := F_entries_a.ext E14
  have V_b2 := V_b2.ext E14
  have V_b4 := V_b4.ext E14
  have V_b6 := V_b6.ext E14
  have V_b8 := V_b8.ext E14
  have ZH := Nat.le_trans ZH E14.1
  have KK := KK.ext E14
  have V_b14 : Arv Z h14 b14 k14 .long (3 : Int32) [(.long (0 : Int64)), (.long (0 : Int64)), (.long (0 : Int64))] (.long (0 : Int64)) := (Arv.new A14 (by decide)).pad (pad_rep [] (.long (0 : Int64)) 3)
  refine own_up st14 ?_
  show own_Go p.tables e below _ (T14.setTop (mkF m 51 #[.val (.ref a), .val (.int (3 : Int32))] [(.ref b14), (.ref a)]))
  obtain ⟨T15, h15, X15, e15, W15, st15⟩ := putF X14 hx hZ hown (host := "") (Or.inl (hw _ (List.mem_of_getElem? (i := 26) rfl))) Via.refl e14 F_entries_a E_a (Or.inr ⟨(hw _ (List.mem_of_getElem? (i := 27) rfl)), rfl, hnm⟩) (hw _ (List.mem_of_getElem? (i := 2) rfl)) (ty := (.array .long)) (by decide) rfl rfl (g := (mkF m 51 #[.val (.ref a), .val (.int (3 : Int32))] [(.ref b14), (.ref a)])) rfl rfl (hb hby d1_51)
  have N15 := Fr.snoc X15 N13 g_a
  have F_entries_a := F_entries_a.same W15
  have E_a := E_a.wr W15
  have F_numbers_a := F_numbers_a.other W15 (Or.inr (slot_ne (Or.inr (hw _ (List.mem_of_getElem? (i := 13) rfl))) (Or.inr (hw _ (List.mem_of_getElem? (i := 27) rfl))) (by decide) (t := (.array (.array .double))) (t' := (.array .long)) (by decide) (by decide)))
  have F_factors_a := F_factors_a.other W15 (Or.inr (slot_ne (Or.inr (hw _ (List.mem_of_getElem? (i := 16) rfl))) (Or.inr (hw _ (List.mem_of_getElem? (i := 27) rfl))) (by decide) (t := (.array .double)) (t' := (.array .long)) (by decide) (by decide)))
  have F_least_a := F_least_a.other W15 (Or.inr (slot_ne (Or.inr (hw _ (List.mem_of_getElem? (i := 18) rfl))) (Or.inr (hw _ (List.mem_of_getElem? (i := 27) rfl))) (by decide) (t := (.array .double)) (t' := (.array .long)) (by decide) (by decide)))
  have F_greatest_a := F_greatest_a.other W15 (Or.inr (slot_ne (Or.inr (hw _ (List.mem_of_getElem? (i := 20) rfl))) (Or.inr (hw _ (List.mem_of_getElem? (i := 27) rfl))) (by decide) (t := (.array .double)) (t' := (.array .long)) (by decide) (by decide)))
  have V_b2 := V_b2.other W15 (Ne.symm ne_a_b2)
  have V_b4 := V_b4.other W15 (Ne.symm ne_a_b4)
  have V_b6 := V_b6.other W15 (Ne.symm ne_a_b6)
  have V_b8 := V_b8.other W15 (Ne.symm ne_a_b8)
  have V_b14 := V_b14.other W15 (Ne.symm ne_a_b14)
  have ZH := Nat.le_trans ZH (Nat.le_of_eq W15.size.symm)
  have KK := KK.wr W15 (Or.inl (List.mem_of_getElem? (i := 0) rfl))
  refine own_up st15 ?_
  show own_Go p.tables e below _ (T15.setTop (mkF m 54 #[.val (.ref a), .val (.int (3 : Int32))] []))
  obtain ⟨fs16, hr16, hrun16, hended16, hW16, hsame16⟩ := X15.leave (v := none) (fun _ => rfl)
  refine own_end ⟨_, _, ?_, hrun16, hended16, _, _, rfl, ?_, ⟨_, rfl⟩, hW16, hsame16.mono (by decide) (by decide)⟩
  · exact X15.returnOut hx Bd.returns (hb hby d1_54) hr16
  · show QrmC3 Z a h0 n0 _ T15.heap _
    rw [e15]
    exact ⟨rfl, N15, KK, b2, b4, b6, b8, k2, k4, k6, k8, sz_b4, ne_b2_b4, (Ne.symm ne_b4_b6), (Ne.symm ne_b4_b8), F_numbers_a, F_factors_a, F_least_a, F_greatest_a, V_b2, V_b4, V_b6, V_b8⟩
theorem d3_0 : decode prog_8_method_2_code 0 = .ok (.iconst 0, 1) := by decide +kernel
theorem d3_1 : decode prog_8_method_2_code 1 = .ok (.istore_n 3, 1) := by decide +kernel
theorem d3_2 : decode prog_8_method_2_code 2 = .ok (.iload_n 3, 1) := by decide +kernel
theorem d3_3 : decode prog_8_method_2_code 3 = .ok (.aload_n 0, 1) := by decide +kernel
theorem d3_4 : decode prog_8_method_2_code 4 = .ok (.getfield 15, 3) := by decide +kernel
theorem d3_7 : decode prog_8_method_2_code 7 = .ok (.arraylength, 1) := by decide +kernel
theorem d3_8 : decode prog_8_method_2_code 8 = .ok (.if_icmp .ge 19, 3) := by decide +kernel
theorem d3_27 : decode prog_8_method_2_code 27 = .ok (.return_, 1) := by decide +kernel
theorem ef_rmS0 (m : MethodId) (x0 : Addr) (x1 : UInt64) : entryFrame m #[(.ref x0), (.double x1)] 4 = mkF m 0 #[.val (.ref x0), .val (.double x1), .second, .unset] [] := by first | (simp [entryFrame, mkF, argsToLocals, Value.category]; done) | rfl
def QrmS0 (Z : State) (a : Addr) (d : UInt64) (bf : Addr) (kf : ClassId) (h0 : Heap) (n0 : Nat) (v : Option Value) (h : Heap) (L : List Loc) : Prop := v = none ∧ Fr n0 L ∧ Keep h0 h [bf] ∧ Arv Z h bf kf .double (0 : Int32) [] (.double (0 : UInt64))
set_option maxRecDepth 65536 in
set_option maxHeartbeats 40000000 in
theorem rmS0 (l : Launch) (Z : State) (a0 : Array Value) (hw : ∀ d ∈ tables_1, d.before a0 Z = true) (ws : List Jvm.Cond) (a : Addr) (d : UInt64) (bf : Addr) (kf : ClassId) (h0 : Heap) (n0 : Nat) (Z0 : n0 ≤ h0.size) (Ff : Fld Z h0 a "com/example/parley/parley/algorithms/Dgls$Modifiers" "factors" "[D" (.ref bf)) (V_bf : Arv Z h0 bf kf .double (0 : Int32) [] (.double (0 : UInt64))) (g_bf : n0 ≤ bf) (ne_a_bf : a ≠ bf) :
    MetFree l (⟨"com/example/parley/parley/algorithms/Dgls$Modifiers", "shrink", "(D)V"⟩ : MethodName) (head1 (Jvm.Cond.code (⟨"com/example/parley/parley/algorithms/Dgls$Modifiers", "shrink", "(D)V"⟩ : MethodName) prog_8_method_2_code 4 none :: ws) ({ frames := 0, cells := 0, slots := 0, locals := 0 } : Room)) (fun aq Uq => aq = #[(.ref a), (.double d)] ∧ Z.Warmed39 Uq.vm ∧ Uq.heap = h0) (fun _ _ _ _ _ => True) (fun _ Uq oq Uq' => ∃ vq Lq, oq = .returned vq ∧ QrmS0 Z a d bf kf h0 n0 vq Uq'.heap Lq ∧ FrameEnd Uq oq Uq' Lq ({ frames := 0, cells := 0, slots := 0, locals := 0 } : Room).cells ({ frames := 0, cells := 0, slots := 0, locals := 0 } : Room).slots) := by
  refine MetFree.of_bodySF (plainFor_of_name pn_0) hisR ?_
  intro p e s m args below meth c s₁ Bd hml0 hP hK
  obtain ⟨rfl, hZ, hh⟩ := hP
  have hx := Bd.exec
  have hby := Bd.bytes
  have hml : c.maxLocals = 4 := hml0
  have hown : s.vm.findClass "com/example/parley/parley/algorithms/Dgls$Modifiers" = some m.cls := findClass_of_methodNamed Bd.named
  have hnm := (name_of_methodNamed Bd.named Bd.method).1
  have X0 : Stand p l e ({ frames := 0, cells := 0, slots := 0, locals := 0 } : Room) s m #[(.ref a), (.double d)] below meth c s₁ [] 0 0 := Stand.of_body Bd
  have e0 : s₁.heap = h0 := by rw [← hh, Bd.state]; rfl
  have N0 := Fr.nil n0
  have ZH := Z0
  have KK := Keep.refl h0 [bf]
  refine own_start (fun t kq => castTop (ef_rmS0 m a d) kq) ?_
  show own_Go p.tables e below _ (s₁.setTop (mkF m 0 #[.val (.ref a), .val (.double d), .second, .unset] []))
  refine own_up (fun _ kq => XS.iconst X0.here hx rfl (hb hby d3_0) kq) ?_
  show own_Go p.tables e below _ (s₁.setTop (mkF m 1 #[.val (.ref a), .val (.double d), .second, .unset] [(.int (0 : Int32))]))
  refine own_up (fun _ kq => XS.istoreN X0.here hx rfl (hb hby d3_1) rfl (l' := #[.val (.ref a), .val (.double d), .second, .val (.int (0 : Int32))]) rfl kq) ?_
  show own_Go p.tables e below _ (s₁.setTop (mkF m 2 #[.val (.ref a), .val (.double d), .second, .val (.int (0 : Int32))] []))
  refine own_up (fun _ kq => XS.iloadN X0.here hx rfl (hb hby d3_2) rfl kq) ?_
  show own_Go p.tables e below _ (s₁.setTop (mkF m 3 #[.val (.ref a), .val (.double d), .second, .val (.int (0 : Int32))] [(.int (0 : Int32))]))
  refine own_up (fun _ kq => XS.aloadN X0.here hx rfl (hb hby d3_3) rfl rfl kq) ?_
  show own_Go p.tables e below _ (s₁.setTop (mkF m 4 #[.val (.ref a), .val (.double d), .second, .val (.int (0 : Int32))] [(.ref a), (.int (0 : Int32))]))
  obtain ⟨T1, X1, e1, st1⟩ := getF X0 hx hZ hown (host := "") (Or.inl (hw _ (List.mem_of_getElem? (i := 15) rfl))) Via.refl e0 Ff (g := (mkF m 4 #[.val (.ref a), .val (.double d), .second, .val (.int (0 : Int32))] [(.ref a), (.int (0 : Int32))])) rfl rfl (hb hby d3_4)
  refine own_up st1 ?_
  show own_Go p.tables e below _ (T1.setTop (mkF m 7 #[.val (.ref a), .val (.double d), .second, .val (.int (0 : Int32))] [(.ref bf), (.int (0 : Int32))]))
  refine own_up (fun _ kq => own_Arf.alen (own_Arf.ofArv V_bf) X1 hx hZ e1 (g := (mkF m 7 #[.val (.ref a), .val (.double d), .second, .val (.int (0 : Int32))] [(.ref bf), (.int (0 : Int32))])) rfl rfl (hb hby d3_7) _ kq) ?_
  show own_Go p.tables e below _ (T1.setTop (mkF m 8 #[.val (.ref a), .val (.double d), .second, .val (.int (0 : Int32))] [(.int (0 : Int32)), (.int (0 : Int32))]))
  refine own_up (fun _ kq => XS.icmpYes X1.here hx rfl (pc0 := 8) (pc' := 27) rfl (hb hby d3_8) rfl (flt (by decide : ¬ ((0 : Int32) < (0 : Int32)))).2.1 (by decide) (by decide) kq) ?_
  show own_Go p.tables e below _ (T1.setTop (mkF m 27 #[.val (.ref a), .val (.double d), .second, .val (.int (0 : Int32))] []))
  obtain ⟨fs2, hr2, hrun2, hended2, hW2, hsame2⟩ := X1.leave (v := none) (fun _ => rfl)
  refine own_end ⟨_, _, ?_, hrun2, hended2, _, _, rfl, ?_, ⟨_, rfl⟩, hW2, hsame2.mono (by decide) (by decide)⟩
  · exact X1.returnOut hx Bd.returns (hb hby d3_27) hr2
  · show QrmS0 Z a d bf kf h0 n0 _ T1.heap _
    rw [e1]
    exact ⟨rfl, N0, KK, V_bf⟩
theorem d3_11 : decode prog_8_method_2_code 11 = .ok (.aload_n 0, 1) := by decide +kernel
theorem d3_12 : decode prog_8_method_2_code 12 = .ok (.getfield 15, 3) := by decide +kernel
theorem d3_15 : decode prog_8_method_2_code 15 = .ok (.iload_n 3, 1) := by decide +kernel
theorem d3_16 : decode prog_8_method_2_code 16 = .ok (.dup2, 1) := by decide +kernel
theorem d3_17 : decode prog_8_method_2_code 17 = .ok (.daload, 1) := by decide +kernel
theorem d3_18 : decode prog_8_method_2_code 18 = .ok (.dload_n 1, 1) := by decide +kernel
theorem d3_19 : decode prog_8_method_2_code 19 = .ok (.dmul, 1) := by decide +kernel
theorem d3_20 : decode prog_8_method_2_code 20 = .ok (.dastore, 1) := by decide +kernel
theorem d3_21 : decode prog_8_method_2_code 21 = .ok (.iinc 3 1, 3) := by decide +kernel
theorem d3_24 : decode prog_8_method_2_code 24 = .ok (.goto (-22), 3) := by decide +kernel
theorem ef_rmS1 (m : MethodId) (x0 : Addr) (x1 : UInt64) : entryFrame m #[(.ref x0), (.double x1)] 4 = mkF m 0 #[.val (.ref x0), .val (.double x1), .second, .unset] [] := by first | (simp [entryFrame, mkF, argsToLocals, Value.category]; done) | rfl
def QrmS1 (Z : State) (a : Addr) (d : UInt64) (bf : Addr) (kf : ClassId) (x0 : UInt64) (h0 : Heap) (n0 : Nat) (v : Option Value) (h : Heap) (L : List Loc) : Prop := v = none ∧ Fr n0 L ∧ Keep h0 h [bf] ∧ Arv Z h bf kf .double (1 : Int32) [(.double (FP.dmul x0 d))] (.double (0 : UInt64))
set_option maxRecDepth 65536 in
set_option maxHeartbeats 40000000 in
theorem rmS1 (l : Launch) (Z : State) (a0 : Array Value) (hw : ∀ d ∈ tables_1, d.before a0 Z = true) (ws : List Jvm.Cond) (a : Addr) (d : UInt64) (bf : Addr) (kf : ClassId) (x0 : UInt64) (h0 : Heap) (n0 : Nat) (Z0 : n0 ≤ h0.size) (Ff : Fld Z h0 a "com/example/parley/parley/algorithms/Dgls$Modifiers" "factors" "[D" (.ref bf)) (V_bf : Arv Z h0 bf kf .double (1 : Int32) [(.double x0)] (.double (0 : UInt64))) (g_bf : n0 ≤ bf) (ne_a_bf : a ≠ bf) (nn_x0 : NoNaN64 (FP.dmul x0 d)) :
    MetFree l (⟨"com/example/parley/parley/algorithms/Dgls$Modifiers", "shrink", "(D)V"⟩ : MethodName) (head1 (Jvm.Cond.code (⟨"com/example/parley/parley/algorithms/Dgls$Modifiers", "shrink", "(D)V"⟩ : MethodName) prog_8_method_2_code 4 none :: ws) ({ frames := 0, cells := 0, slots := 0, locals := 0 } : Room)) (fun aq Uq => aq = #[(.ref a), (.double d)] ∧ Z.Warmed39 Uq.vm ∧ Uq.heap = h0) (fun _ _ _ _ _ => True) (fun _ Uq oq Uq' => ∃ vq Lq, oq = .returned vq ∧ QrmS1 Z a d bf kf x0 h0 n0 vq Uq'.heap Lq ∧ FrameEnd Uq oq Uq' Lq ({ frames := 0, cells := 0, slots := 0, locals := 0 } : Room).cells ({ frames := 0, cells := 0, slots := 0, locals := 0 } : Room).slots) := by
  refine MetFree.of_bodySF (plainFor_of_name pn_0) hisR ?_
  intro p e s m args below meth c s₁ Bd hml0 hP hK
  obtain ⟨rfl, hZ, hh⟩ := hP
  have hx := Bd.exec
  have hby := Bd.bytes
  have hml : c.maxLocals = 4 := hml0
  have hown : s.vm.findClass "com/example/parley/parley/algorithms/Dgls$Modifiers" = some m.cls := findClass_of_methodNamed Bd.named
  have hnm := (name_of_methodNamed Bd.named Bd.method).1
  have X0 : Stand p l e ({ frames := 0, cells := 0, slots := 0, locals := 0 } : Room) s m #[(.ref a), (.double d)] below meth c s₁ [] 0 0 := Stand.of_body Bd
  have e0 : s₁.heap = h0 := by rw [← hh, Bd.state]; rfl
  have N0 := Fr.nil n0
  have ZH := Z0
  have KK := Keep.refl h0 [bf]
  refine own_start (fun t kq => castTop (ef_rmS1 m a d) kq) ?_
  show own_Go p.tables e below _ (s₁.setTop (mkF m 0 #[.val (.ref a), .val (.double d), .second, .unset] []))
  refine own_up (fun _ kq => XS.iconst X0.here hx rfl (hb hby d3_0) kq) ?_
  show own_Go p.tables e below _ (s₁.setTop (mkF m 1 #[.val (.ref a), .val (.double d), .second, .unset] [(.int (0 : Int32))]))
  refine own_up (fun _ kq => XS.istoreN X0.here hx rfl (hb hby d3_1) rfl (l' := #[.val (.ref a), .val (.double d), .second, .val (.int (0 : Int32))]) rfl kq) ?_
  show own_Go p.tables e below _ (s₁.setTop (mkF m 2 #[.val (.ref a), .val (.double d), .second, .val (.int (0 : Int32))] []))
  refine own_up (fun _ kq => XS.iloadN X0.here hx rfl (hb hby d3_2) rfl kq) ?_
  show own_Go p.tables e below _ (s₁.setTop (mkF m 3 #[.val (.ref a), .val (.double d), .second, .val (.int (0 : Int32))] [(.int (0 : Int32))]))
  refine own_up (fun _ kq => XS.aloadN X0.here hx rfl (hb hby d3_3) rfl rfl kq) ?_
  show own_Go p.tables e below _ (s₁.setTop (mkF m 4 #[.val (.ref a), .val (.double d), .second, .val (.int (0 : Int32))] [(.ref a), (.int (0 : Int32))]))
  obtain ⟨T1, X1, e1, st1⟩ := getF X0 hx hZ hown (host := "") (Or.inl (hw _ (List.mem_of_getElem? (i := 15) rfl))) Via.refl e0 Ff (g := (mkF m 4 #[.val (.ref a), .val (.double d), .second, .val (.int (0 : Int32))] [(.ref a), (.int (0 : Int32))])) rfl rfl (hb hby d3_4)
  refine own_up st1 ?_
  show own_Go p.tables e below _ (T1.setTop (mkF m 7 #[.val (.ref a), .val (.double d), .second, .val (.int (0 : Int32))] [(.ref bf), (.int (0 : Int32))]))
  refine own_up (fun _ kq => own_Arf.alen (own_Arf.ofArv V_bf) X1 hx hZ e1 (g := (mkF m 7 #[.val (.ref a), .val (.double d), .second, .val (.int (0 : Int32))] [(.ref bf), (.int (0 : Int32))])) rfl rfl (hb hby d3_7) _ kq) ?_
  show own_Go p.tables e below _ (T1.setTop (mkF m 8 #[.val (.ref a), .val (.double d), .second, .val (.int (0 : Int32))] [(.int (1 : Int32)), (.int (0 : Int32))]))
  refine own_up (fun _ kq => XS.icmpNo X1.here hx rfl (hb hby d3_8) rfl (tlt (by decide : (0 : Int32) < (1 : Int32))).2.1 kq) ?_
  show own_Go p.tables e below _ (T1.setTop (mkF m 11 #[.val (.ref a), .val (.double d), .second, .val (.int (0 : Int32))] []))
  refine own_up (fun _ kq => XS.aloadN X1.here hx rfl (hb hby d3_11) rfl rfl kq) ?_
  show own_Go p.tables e below _ (T1.setTop (mkF m 12 #[.val (.ref a), .val (.double d), .second, .val (.int (0 : Int32))] [(.ref a)]))
  obtain ⟨T2, X2, e2, st2⟩ := getF X1 hx hZ hown (host := "") (Or.inl (hw _ (List.mem_of_getElem? (i := 15) rfl))) Via.refl e1 Ff (g := (mkF m 12 #[.val (.ref a), .val (.double d), .second, .val (.int (0 : Int32))] [(.ref a)])) rfl rfl (hb hby d3_12)
  refine own_up st2 ?_
  show own_Go p.tables e below _ (T2.setTop (mkF m 15 #[.val (.ref a), .val (.double d), .second, .val (.int (0 : Int32))] [(.ref bf)]))
  refine own_up (fun _ kq => XS.iloadN X2.here hx rfl (hb hby d3_15) rfl kq) ?_
  show own_Go p.tables e below _ (T2.setTop (mkF m 16 #[.val (.ref a), .val (.double d), .second, .val (.int (0 : Int32))] [(.int (0 : Int32)), (.ref bf)]))
  refine own_up (fun _ kq => (show Steps p.tables e below (T2.setTop (mkF m 16 #[.val (.ref a), .val (.double d), .second, .val (.int (0 : Int32))] [(.int (0 : Int32)), (.ref bf)])) _ from by jvm_step X2.here [X2.here.top, hx, (hb hby d3_16), Value.category]; exact kq)) ?_
  show own_Go p.tables e below _ (T2.setTop (mkF m 17 #[.val (.ref a), .val (.double d), .second, .val (.int (0 : Int32))] [(.int (0 : Int32)), (.ref bf), (.int (0 : Int32)), (.ref bf)]))
  refine own_up (fun _ kq => own_Arf.daload (own_Arf.ofArv V_bf) X2 hx hZ e2 (by decide) (by decide) (v := (.double x0)) rfl (g := (mkF m 17 #[.val (.ref a), .val (.double d), .second, .val (.int (0 : Int32))] [(.int (0 : Int32)), (.ref bf), (.int (0 : Int32)), (.ref bf)])) rfl rfl (hb hby d3_17) _ kq) ?_
  show own_Go p.tables e below _ (T2.setTop (mkF m 18 #[.val (.ref a), .val (.double d), .second, .val (.int (0 : Int32))] [(.double x0), (.int (0 : Int32)), (.ref bf)]))
  refine own_up (fun _ kq => XS.dloadN X2.here hx rfl (hb hby d3_18) rfl kq) ?_
  show own_Go p.tables e below _ (T2.setTop (mkF m 19 #[.val (.ref a), .val (.double d), .second, .val (.int (0 : Int32))] [(.double d), (.double x0), (.int (0 : Int32)), (.ref bf)]))
  refine own_up (fun _ kq => XS.dmulS X2.here hx rfl (v := (FP.dmul x0 d)) (hb hby d3_19) rfl nn_x0 rfl kq) ?_
  show own_Go p.tables e below _ (T2.setTop (mkF m 20 #[.val (.ref a), .val (.double d), .second, .val (.int (0 : Int32))] [(.double (FP.dmul x0 d)), (.int (0 : Int32)), (.ref bf)]))
  obtain ⟨cl3, Ar3, q3, sz3, nz3, hH3, hG3⟩ := V_bf
  obtain ⟨T3, h3, X3, e3, W3, st3⟩ := stD X2 hx hZ e2 Ar3 (j := (0 : Int32)) (inb_of sz3 ⟨by decide, by decide⟩) (g := (mkF m 20 #[.val (.ref a), .val (.double d), .second, .val (.int (0 : Int32))] [(.double (FP.dmul x0 d)), (.int (0 : Int32)), (.ref bf)])) rfl rfl (hb hby d3_20)
  have V_bf : Arv Z h3 bf kf .double (1 : Int32) [(.double (FP.dmul x0 d))] (.double (0 : UInt64)) := Arv.set Ar3 q3 sz3 nz3 hH3 hG3 rfl W3 0 rfl (Nat.le_of_ble_eq_true rfl)
  have N3 := Fr.snoc X3 N0 g_bf
  have Ff := Ff.other W3 (Or.inl ne_a_bf)
  have ZH := Nat.le_trans ZH (Nat.le_of_eq W3.size.symm)
  have KK := KK.wr W3 (Or.inl (List.mem_of_getElem? (i := 0) rfl))
  refine own_up st3 ?_
  show own_Go p.tables e below _ (T3.setTop (mkF m 21 #[.val (.ref a), .val (.double d), .second, .val (.int (0 : Int32))] []))
  refine own_up (fun _ kq => XS.iinc X3.here hx rfl (hb hby d3_21) rfl (l' := #[.val (.ref a), .val (.double d), .second, .val (.int (1 : Int32))]) rfl kq) ?_
  show own_Go p.tables e below _ (T3.setTop (mkF m 24 #[.val (.ref a), .val (.double d), .second, .val (.int (1 : Int32))] []))
  refine own_up (fun _ kq => XS.goto X3.here hx rfl (pc0 := 24) (pc' := 2) rfl (hb hby d3_24) (by decide) (by decide) kq) ?_
  show own_Go p.tables e below _ (T3.setTop (mkF m 2 #[.val (.ref a), .val (.double d), .second, .val (.int (1 : Int32))] []))
  refine own_up (fun _ kq => XS.iloadN X3.here hx rfl (hb hby d3_2) rfl kq) ?_
  show own_Go p.tables e below _ (T3.setTop (mkF m 3 #[.val (.ref a), .val (.double d), .second, .val (.int (1 : Int32))] [(.int (1 : Int32))]))
  refine own_up (fun _ kq => XS.aloadN X3.here hx rfl (hb hby d3_3) rfl rfl kq) ?_
  show own_Go p.tables e below _ (T3.setTop (mkF m 4 #[.val (.ref a), .val (.double d), .second, .val (.int (1 : Int32))] [(.ref a), (.int (1 : Int32))]))
  obtain ⟨T4, X4, e4, st4⟩ := getF X3 hx hZ hown (host := "") (Or.inl (hw _ (List.mem_of_getElem? (i := 15) rfl))) Via.refl e3 Ff (g := (mkF m 4 #[.val (.ref a), .val (.double d), .second, .val (.int (1 : Int32))] [(.ref a), (.int (1 : Int32))])) rfl rfl (hb hby d3_4)
  refine own_up st4 ?_
  show own_Go p.tables e below _ (T4.setTop (mkF m 7 #[.val (.ref a), .val (.double d), .second, .val (.int (1 : Int32))] [(.ref bf), (.int (1 : Int32))]))
  refine own_up (fun _ kq => own_Arf.alen (own_Arf.ofArv V_bf) X4 hx hZ e4 (g := (mkF m 7 #[.val (.ref a), .val (.double d), .second, .val (.int (1 : Int32))] [(.ref bf), (.int (1 : Int32))])) rfl rfl (hb hby d3_7) _ kq) ?_
  show own_Go p.tables e below _ (T4.setTop (mkF m 8 #[.val (.ref a), .val (.double d), .second, .val (.int (1 : Int32))] [(.int (1 : Int32)), (.int (1 : Int32))]))
  refine own_up (fun _ kq => XS.icmpYes X4.here hx rfl (pc0 := 8) (pc' := 27) rfl (hb hby d3_8) rfl (flt (by decide : ¬ ((1 : Int32) < (1 : Int32)))).2.1 (by decide) (by decide) kq) ?_
  show own_Go p.tables e below _ (T4.setTop (mkF m 27 #[.val (.ref a), .val (.double d), .second, .val (.int (1 : Int32))] []))
  obtain ⟨fs5, hr5, hrun5, hended5, hW5, hsame5⟩ := X4.leave (v := none) (fun _ => rfl)
  refine own_end ⟨_, _, ?_, hrun5, hended5, _, _, rfl, ?_, ⟨_, rfl⟩, hW5, hsame5.mono (by decide) (by decide)⟩
  · exact X4.returnOut hx Bd.returns (hb hby d3_27) hr5
  · show QrmS1 Z a d bf kf x0 h0 n0 _ T4.heap _
    rw [e4]
    exact ⟨rfl, N3, KK, V_bf⟩
theorem ef_rmS2 (m : MethodId) (x0 : Addr) (x1 : UInt64) : entryFrame m #[(.ref x0), (.double x1)] 4 = mkF m 0 #[.val (.ref x0), .val (.double x1), .second, .unset] [] := by first | (simp [entryFrame, mkF, argsToLocals, Value.category]; done) | rfl
def QrmS2 (Z : State) (a : Addr) (d : UInt64) (bf : Addr) (kf : ClassId) (x0 : UInt64) (x1 : UInt64) (h0 : Heap) (n0 : Nat) (v : Option Value) (h : Heap) (L : List Loc) : Prop := v = none ∧ Fr n0 L ∧ Keep h0 h [bf] ∧ Arv Z h bf kf .double (2 : Int32) [(.double (FP.dmul x0 d)), (.double (FP.dmul x1 d))] (.double (0 : UInt64))
set_option maxRecDepth 65536 in
set_option maxHeartbeats 40000000 in
theorem rmS2 (l : Launch) (Z : State) (a0 : Array Value) (hw : ∀ d ∈ tables_1, d.before a0 Z = true) (ws : List Jvm.Cond) (a : Addr) (d : UInt64) (bf : Addr) (kf : ClassId) (x0 : UInt64) (x1 : UInt64) (h0 : Heap) (n0 : Nat) (Z0 : n0 ≤ h0.size) (Ff : Fld Z h0 a "com/example/parley/parley/algorithms/Dgls$Modifiers" "factors" "[D" (.ref bf)) (V_bf : Arv Z h0 bf kf .double (2 : Int32) [(.double x0), (.double x1)] (.double (0 : UInt64))) (g_bf : n0 ≤ bf) (ne_a_bf : a ≠ bf) (nn_x0 : NoNaN64 (FP.dmul x0 d)) (nn_x1 : NoNaN64 (FP.dmul x1 d)) :
    MetFree l (⟨"com/example/parley/parley/algorithms/Dgls$Modifiers", "shrink", "(D)V"⟩ : MethodName) (head1 (Jvm.Cond.code (⟨"com/example/parley/parley/algorithms/Dgls$Modifiers", "shrink", "(D)V"⟩ : MethodName) prog_8_method_2_code 4 none :: ws) ({ frames := 0, cells := 0, slots := 0, locals := 0 } : Room)) (fun aq Uq => aq = #[(.ref a), (.double d)] ∧ Z.Warmed39 Uq.vm ∧ Uq.heap = h0) (fun _ _ _ _ _ => True) (fun _ Uq oq Uq' => ∃ vq Lq, oq = .returned vq ∧ QrmS2 Z a d bf kf x0 x1 h0 n0 vq Uq'.heap Lq ∧ FrameEnd Uq oq Uq' Lq ({ frames := 0, cells := 0, slots := 0, locals := 0 } : Room).cells ({ frames := 0, cells := 0, slots := 0, locals := 0 } : Room).slots) := by
  refine MetFree.of_bodySF (plainFor_of_name pn_0) hisR ?_
  intro p e s m args below meth c s₁ Bd hml0 hP hK
  obtain ⟨rfl, hZ, hh⟩ := hP
  have hx := Bd.exec
  have hby := Bd.bytes
  have hml : c.maxLocals = 4 := hml0
  have hown : s.vm.findClass "com/example/parley/parley/algorithms/Dgls$Modifiers" = some m.cls := findClass_of_methodNamed Bd.named
  have hnm := (name_of_methodNamed Bd.named Bd.method).1
  have X0 : Stand p l e ({ frames := 0, cells := 0, slots := 0, locals := 0 } : Room) s m #[(.ref a), (.double d)] below meth c s₁ [] 0 0 := Stand.of_body Bd
  have e0 : s₁.heap = h0 := by rw [← hh, Bd.state]; rfl
  have N0 := Fr.nil n0
  have ZH := Z0
  have KK := Keep.refl h0 [bf]
  refine own_start (fun t kq => castTop (ef_rmS2 m a d) kq) ?_
  show own_Go p.tables e below _ (s₁.setTop (mkF m 0 #[.val (.ref a), .val (.double d), .second, .unset] []))
  refine own_up (fun _ kq => XS.iconst X0.here hx rfl (hb hby d3_0) kq) ?_
  show own_Go p.tables e below _ (s₁.setTop (mkF m 1 #[.val (.ref a), .val (.double d), .second, .unset] [(.int (0 : Int32))]))
  refine own_up (fun _ kq => XS.istoreN X0.here hx rfl (hb hby d3_1) rfl (l' := #[.val (.ref a), .val (.double d), .second, .val (.int (0 : Int32))]) rfl kq) ?_
  show own_Go p.tables e below _ (s₁.setTop (mkF m 2 #[.val (.ref a), .val (.double d), .second, .val (.int (0 : Int32))] []))
  refine own_up (fun _ kq => XS.iloadN X0.here hx rfl (hb hby d3_2) rfl kq) ?_
  show own_Go p.tables e below _ (s₁.setTop (mkF m 3 #[.val (.ref a), .val (.double d), .second, .val (.int (0 : Int32))] [(.int (0 : Int32))]))
  refine own_up (fun _ kq => XS.aloadN X0.here hx rfl (hb hby d3_3) rfl rfl kq) ?_
  show own_Go p.tables e below _ (s₁.setTop (mkF m 4 #[.val (.ref a), .val (.double d), .second, .val (.int (0 : Int32))] [(.ref a), (.int (0 : Int32))]))
  obtain ⟨T1, X1, e1, st1⟩ := getF X0 hx hZ hown (host := "") (Or.inl (hw _ (List.mem_of_getElem? (i := 15) rfl))) Via.refl e0 Ff (g := (mkF m 4 #[.val (.ref a), .val (.double d), .second, .val (.int (0 : Int32))] [(.ref a), (.int (0 : Int32))])) rfl rfl (hb hby d3_4)
  refine own_up st1 ?_
  show own_Go p.tables e below _ (T1.setTop (mkF m 7 #[.val (.ref a), .val (.double d), .second, .val (.int (0 : Int32))] [(.ref bf), (.int (0 : Int32))]))
  refine own_up (fun _ kq => own_Arf.alen (own_Arf.ofArv V_bf) X1 hx hZ e1 (g := (mkF m 7 #[.val (.ref a), .val (.double d), .second, .val (.int (0 : Int32))] [(.ref bf), (.int (0 : Int32))])) rfl rfl (hb hby d3_7) _ kq) ?_
  show own_Go p.tables e below _ (T1.setTop (mkF m 8 #[.val (.ref a), .val (.double d), .second, .val (.int (0 : Int32))] [(.int (2 : Int32)), (.int (0 : Int32))]))
  refine own_up (fun _ kq => XS.icmpNo X1.here hx rfl (hb hby d3_8) rfl (tlt (by decide : (0 : Int32) < (2 : Int32))).2.1 kq) ?_
  show own_Go p.tables e below _ (T1.setTop (mkF m 11 #[.val (.ref a), .val (.double d), .second, .val (.int (0 : Int32))] []))
  refine own_up (fun _ kq => XS.aloadN X1.here hx rfl (hb hby d3_11) rfl rfl kq) ?_
  show own_Go p.tables e below _ (T1.setTop (mkF m 12 #[.val (.ref a), .val (.double d), .second, .val (.int (0 : Int32))] [(.ref a)]))
  obtain ⟨T2, X2, e2, st2⟩ := getF X1 hx hZ hown (host := "") (Or.inl (hw _ (List.mem_of_getElem? (i := 15) rfl))) Via.refl e1 Ff (g := (mkF m 12 #[.val (.ref a), .val (.double d), .second, .val (.int (0 : Int32))] [(.ref a)])) rfl rfl (hb hby d3_12)
  refine own_up st2 ?_
  show own_Go p.tables e below _ (T2.setTop (mkF m 15 #[.val (.ref a), .val (.double d), .second, .val (.int (0 : Int32))] [(.ref bf)]))
  refine own_up (fun _ kq => XS.iloadN X2.here hx rfl (hb hby d3_15) rfl kq) ?_
  show own_Go p.tables e below _ (T2.setTop (mkF m 16 #[.val (.ref a), .val (.double d), .second, .val (.int (0 : Int32))] [(.int (0 : Int32)), (.ref bf)]))
  refine own_up (fun _ kq => (show Steps p.tables e below (T2.setTop (mkF m 16 #[.val (.ref a), .val (.double d), .second, .val (.int (0 : Int32))] [(.int (0 : Int32)), (.ref bf)])) _ from by jvm_step X2.here [X2.here.top, hx, (hb hby d3_16), Value.category]; exact kq)) ?_
  show own_Go p.tables e below _ (T2.setTop (mkF m 17 #[.val (.ref a), .val (.double d), .second, .val (.int (0 : Int32))] [(.int (0 : Int32)), (.ref bf), (.int (0 : Int32)), (.ref bf)]))
  refine own_up (fun _ kq => own_Arf.daload (own_Arf.ofArv V_bf) X2 hx hZ e2 (by decide) (by decide) (v := (.double x0)) rfl (g := (mkF m 17 #[.val (.ref a), .val (.double d), .second, .val (.int (0 : Int32))] [(.int (0 : Int32)), (.ref bf), (.int (0 : Int32)), (.ref bf)])) rfl rfl (hb hby d3_17) _ kq) ?_
  show own_Go p.tables e below _ (T2.setTop (mkF m 18 #[.val (.ref a), .val (.double d), .second, .val (.int (0 : Int32))] [(.double x0), (.int (0 : Int32)), (.ref bf)]))
  refine own_up (fun _ kq => XS.dloadN X2.here hx rfl (hb hby d3_18) rfl kq) ?_
  show own_Go p.tables e below _ (T2.setTop (mkF m 19 #[.val (.ref a), .val (.double d), .second, .val (.int (0 : Int32))] [(.double d), (.double x0), (.int (0 : Int32)), (.ref bf)]))
  refine own_up (fun _ kq => XS.dmulS X2.here hx rfl (v := (FP.dmul x0 d)) (hb hby d3_19) rfl nn_x0 rfl kq) ?_
  show own_Go p.tables e below _ (T2.setTop (mkF m 20 #[.val (.ref a), .val (.double d), .second, .val (.int (0 : Int32))] [(.double (FP.dmul x0 d)), (.int (0 : Int32)), (.ref bf)]))
  obtain ⟨cl3, Ar3, q3, sz3, nz3, hH3, hG3⟩ := V_bf
  obtain ⟨T3, h3, X3, e3, W3, st3⟩ := stD X2 hx hZ e2 Ar3 (j := (0 : Int32)) (inb_of sz3 ⟨by decide, by decide⟩) (g := (mkF m 20 #[.val (.ref a), .val (.double d), .second, .val (.int (0 : Int32))] [(.double (FP.dmul x0 d)), (.int (0 : Int32)), (.ref bf)])) rfl rfl (hb hby d3_20)
  have V_bf : Arv Z h3 bf kf .double (2 : Int32) [(.double (FP.dmul x0 d)), (.double x1)] (.double (0 : UInt64)) := Arv.set Ar3 q3 sz3 nz3 hH3 hG3 rfl W3 0 rfl (Nat.le_of_ble_eq_true rfl)
  have N3 := Fr.snoc X3 N0 g_bf
  have Ff := Ff.other W3 (Or.inl ne_a_bf)
  have ZH := Nat.le_trans ZH (Nat.le_of_eq W3.size.symm)
  have KK := KK.wr W3 (Or.inl (List.mem_of_getElem? (i := 0) rfl))
  refine own_up st3 ?_
  show own_Go p.tables e below _ (T3.setTop (mkF m 21 #[.val (.ref a), .val (.double d), .second, .val (.int (0 : Int32))] []))
  refine own_up (fun _ kq => XS.iinc X3.here hx rfl (hb hby d3_21) rfl (l' := #[.val (.ref a), .val (.double d), .second, .val (.int (1 : Int32))]) rfl kq) ?_
  show own_Go p.tables e below _ (T3.setTop (mkF m 24 #[.val (.ref a), .val (.double d), .second, .val (.int (1 : Int32))] []))
  refine own_up (fun _ kq => XS.goto X3.here hx rfl (pc0 := 24) (pc' := 2) rfl (hb hby d3_24) (by decide) (by decide) kq) ?_
  show own_Go p.tables e below _ (T3.setTop (mkF m 2 #[.val (.ref a), .val (.double d), .second, .val (.int (1 : Int32))] []))
  refine own_up (fun _ kq => XS.iloadN X3.here hx rfl (hb hby d3_2) rfl kq) ?_
  show own_Go p.tables e below _ (T3.setTop (mkF m 3 #[.val (.ref a), .val (.double d), .second, .val (.int (1 : Int32))] [(.int (1 : Int32))]))
  refine own_up (fun _ kq => XS.aloadN X3.here hx rfl (hb hby d3_3) rfl rfl kq) ?_
  show own_Go p.tables e below _ (T3.setTop (mkF m 4 #[.val (.ref a), .val (.double d), .second, .val (.int (1 : Int32))] [(.ref a), (.int (1 : Int32))]))
  obtain ⟨T4, X4, e4, st4⟩ := getF X3 hx hZ hown (host := "") (Or.inl (hw _ (List.mem_of_getElem? (i := 15) rfl))) Via.refl e3 Ff (g := (mkF m 4 #[.val (.ref a), .val (.double d), .second, .val (.int (1 : Int32))] [(.ref a), (.int (1 : Int32))])) rfl rfl (hb hby d3_4)
  refine own_up st4 ?_
  show own_Go p.tables e below _ (T4.setTop (mkF m 7 #[.val (.ref a), .val (.double d), .second, .val (.int (1 : Int32))] [(.ref bf), (.int (1 : Int32))]))
  refine own_up (fun _ kq => own_Arf.alen (own_Arf.ofArv V_bf) X4 hx hZ e4 (g := (mkF m 7 #[.val (.ref a), .val (.double d), .second, .val (.int (1 : Int32))] [(.ref bf), (.int (1 : Int32))])) rfl rfl (hb hby d3_7) _ kq) ?_
  show own_Go p.tables e below _ (T4.setTop (mkF m 8 #[.val (.ref a), .val (.double d), .second, .val (.int (1 : Int32))] [(.int (2 : Int32)), (.int (1 : Int32))]))
  refine own_up (fun _ kq => XS.icmpNo X4.here hx rfl (hb hby d3_8) rfl (tlt (by decide : (1 : Int32) < (2 : Int32))).2.1 kq) ?_
  show own_Go p.tables e below _ (T4.setTop (mkF m 11 #[.val (.ref a), .val (.double d), .second, .val (.int (1 : Int32))] []))
  refine own_up (fun _ kq => XS.aloadN X4.here hx rfl (hb hby d3_11) rfl rfl kq) ?_
  show own_Go p.tables e below _ (T4.setTop (mkF m 12 #[.val (.ref a), .val (.double d), .second, .val (.int (1 : Int32))] [(.ref a)]))
  obtain ⟨T5, X5, e5, st5⟩ := getF X4 hx hZ hown (host := "") (Or.inl (hw _ (List.mem_of_getElem? (i := 15) rfl))) Via.refl e4 Ff (g := (mkF m 12 #[.val (.ref a), .val (.double d), .second, .val (.int (1 : Int32))] [(.ref a)])) rfl rfl (hb hby d3_12)
  refine own_up st5 ?_
  show own_Go p.tables e below _ (T5.setTop (mkF m 15 #[.val (.ref a), .val (.double d), .second, .val (.int (1 : Int32))] [(.ref bf)]))
  refine own_up (fun _ kq => XS.iloadN X5.here hx rfl (hb hby d3_15) rfl kq) ?_
  show own_Go p.tables e below _ (T5.setTop (mkF m 16 #[.val (.ref a), .val (.double d), .second, .val (.int (1 : Int32))] [(.int (1 : Int32)), (.ref bf)]))
  refine own_up (fun _ kq => (show Steps p.tables e below (T5.setTop (mkF m 16 #[.val (.ref a), .val (.double d), .second, .val (.int (1 : Int32))] [(.int (1 : Int32)), (.ref bf)])) _ from by jvm_step X5.here [X5.here.top, hx, (hb hby d3_16), Value.category]; exact kq)) ?_
  show own_Go p.tables e below _ (T5.setTop (mkF m 17 #[.val (.ref a), .val (.double d), .second, .val (.int (1 : Int32))] [(.int (1 : Int32)), (.ref bf), (.int (1 : Int32)), (.ref bf)]))
  refine own_up (fun _ kq => own_Arf.daload (own_Arf.ofArv V_bf) X5 hx hZ e5 (by decide) (by decide) (v := (.double x1)) rfl (g := (mkF m 17 #[.val (.ref a), .val (.double d), .second, .val (.int (1 : Int32))] [(.int (1 : Int32)), (.ref bf), (.int (1 : Int32)), (.ref bf)])) rfl rfl (hb hby d3_17) _ kq) ?_
  show own_Go p.tables e below _ (T5.setTop (mkF m 18 #[.val (.ref a), .val (.double d), .second, .val (.int (1 : Int32))] [(.double x1), (.int (1 : Int32)), (.ref bf)]))
  refine own_up (fun _ kq => XS.dloadN X5.here hx rfl (hb hby d3_18) rfl kq) ?_
  show own_Go p.tables e below _ (T5.setTop (mkF m 19 #[.val (.ref a), .val (.double d), .second, .val (.int (1 : Int32))] [(.double d), (.double x1), (.int (1 : Int32)), (.ref bf)]))
  refine own_up (fun _ kq => XS.dmulS X5.here hx rfl (v := (FP.dmul x1 d)) (hb hby d3_19) rfl nn_x1 rfl kq) ?_
  show own_Go p.tables e below _ (T5.setTop (mkF m 20 #[.val (.ref a), .val (.double d), .second, .val (.int (1 : Int32))] [(.double (FP.dmul x1 d)), (.int (1 : Int32)), (.ref bf)]))
  obtain ⟨cl6, Ar6, q6, sz6, nz6, hH6, hG6⟩ := V_bf
  obtain ⟨T6, h6, X6, e6, W6, st6⟩ := stD X5 hx hZ e5 Ar6 (j := (1 : Int32)) (inb_of sz6 ⟨by decide, by decide⟩) (g := (mkF m 20 #[.val (.ref a), .val (.double d), .second, .val (.int (1 : Int32))] [(.double (FP.dmul x1 d)), (.int (1 : Int32)), (.ref bf)])) rfl rfl (hb hby d3_20)
  have V_bf : Arv Z h6 bf kf .double (2 : Int32) [(.double (FP.dmul x0 d)), (.double (FP.dmul x1 d))] (.double (0 : UInt64)) := Arv.set Ar6 q6 sz6 nz6 hH6 hG6 rfl W6 1 rfl (Nat.le_of_ble_eq_true rfl)
  have N6 := Fr.snoc X6 N3 g_bf
  have Ff := Ff.other W6 (Or.inl ne_a_bf)
  have ZH := Nat.le_trans ZH (Nat.le_of_eq W6.size.symm)
  have KK := KK.wr W6 (Or.inl (List.mem_of_getElem? (i := 0) rfl))
  refine own_up st6 ?_
  show own_Go p.tables e below _ (T6.setTop (mkF m 21 #[.val (.ref a), .val (.double d), .second, .val (.int (1 : Int32))] []))
  refine own_up (fun _ kq => XS.iinc X6.here hx rfl (hb hby d3_21) rfl (l' := #[.val (.ref a), .val (.double d), .second, .val (.int (2 : Int32))]) rfl kq) ?_
  show own_Go p.tables e below _ (T6.setTop (mkF m 24 #[.val (.ref a), .val (.double d), .second, .val (.int (2 : Int32))] []))
  refine own_up (fun _ kq => XS.goto X6.here hx rfl (pc0 := 24) (pc' := 2) rfl (hb hby d3_24) (by decide) (by decide) kq) ?_
  show own_Go p.tables e below _ (T6.setTop (mkF m 2 #[.val (.ref a), .val (.double d), .second, .val (.int (2 : Int32))] []))
  refine own_up (fun _ kq => XS.iloadN X6.here hx rfl (hb hby d3_2) rfl kq) ?_
  show own_Go p.tables e below _ (T6.setTop (mkF m 3 #[.val (.ref a), .val (.double d), .second, .val (.int (2 : Int32))] [(.int (2 : Int32))]))
  refine own_up (fun _ kq => XS.aloadN X6.here hx rfl (hb hby d3_3) rfl rfl kq) ?_
  show own_Go p.tables e below _ (T6.setTop (mkF m 4 #[.val (.ref a), .val (.double d), .second, .val (.int (2 : Int32))] [(.ref a), (.int (2 : Int32))]))
  obtain ⟨T7, X7, e7, st7⟩ := getF X6 hx hZ hown (host := "") (Or.inl (hw _ (List.mem_of_getElem? (i := 15) rfl))) Via.refl e6 Ff (g := (mkF m 4 #[.val (.ref a), .val (.double d), .second, .val (.int (2 : Int32))] [(.ref a), (.int (2 : Int32))])) rfl rfl (hb hby d3_4)
  refine own_up st7 ?_
  show own_Go p.tables e below _ (T7.setTop (mkF m 7 #[.val (.ref a), .val (.double d), .second, .val (.int (2 : Int32))] [(.ref bf), (.int (2 : Int32))]))
  refine own_up (fun _ kq => own_Arf.alen (own_Arf.ofArv V_bf) X7 hx hZ e7 (g := (mkF m 7 #[.val (.ref a), .val (.double d), .second, .val (.int (2 : Int32))] [(.ref bf), (.int (2 : Int32))])) rfl rfl (hb hby d3_7) _ kq) ?_
  show own_Go p.tables e below _ (T7.setTop (mkF m 8 #[.val (.ref a), .val (.double d), .second, .val (.int (2 : Int32))] [(.int (2 : Int32)), (.int (2 : Int32))]))
  refine own_up (fun _ kq => XS.icmpYes X7.here hx rfl (pc0 := 8) (pc' := 27) rfl (hb hby d3_8) rfl (flt (by decide : ¬ ((2 : Int32) < (2 : Int32)))).2.1 (by decide) (by decide) kq) ?_
  show own_Go p.tables e below _ (T7.setTop (mkF m 27 #[.val (.ref a), .val (.double d), .second, .val (.int (2 : Int32))] []))
  obtain ⟨fs8, hr8, hrun8, hended8, hW8, hsame8⟩ := X7.leave (v := none) (fun _ => rfl)
  refine own_end ⟨_, _, ?_, hrun8, hended8, _, _, rfl, ?_, ⟨_, rfl⟩, hW8, hsame8.mono (by decide) (by decide)⟩
  · exact X7.returnOut hx Bd.returns (hb hby d3_27) hr8
  · show QrmS2 Z a d bf kf x0 x1 h0 n0 _ T7.heap _
    rw [e7]
    exact ⟨rfl, N6, KK, V_bf⟩
theorem ef_rmS3 (m : MethodId) (x0 : Addr) (x1 : UInt64) : entryFrame m #[(.ref x0), (.double x1)] 4 = mkF m 0 #[.val (.ref x0), .val (.double x1), .second, .unset] [] := by first | (simp [entryFrame, mkF, argsToLocals, Value.category]; done) | rfl
def QrmS3 (Z : State) (a : Addr) (d : UInt64) (bf : Addr) (kf : ClassId) (x0 : UInt64) (x1 : UInt64) (x2 : UInt64) (h0 : Heap) (n0 : Nat) (v : Option Value) (h : Heap) (L : List Loc) : Prop := v = none ∧ Fr n0 L ∧ Keep h0 h [bf] ∧ Arv Z h bf kf .double (3 : Int32) [(.double (FP.dmul x0 d)), (.double (FP.dmul x1 d)), (.double (FP.dmul x2 d))] (.double (0 : UInt64))
set_option maxRecDepth 65536 in
set_option maxHeartbeats 40000000 in
theorem rmS3 (l : Launch) (Z : State) (a0 : Array Value) (hw : ∀ d ∈ tables_1, d.before a0 Z = true) (ws : List Jvm.Cond) (a : Addr) (d : UInt64) (bf : Addr) (kf : ClassId) (x0 : UInt64) (x1 : UInt64) (x2 : UInt64) (h0 : Heap) (n0 : Nat) (Z0 : n0 ≤ h0.size) (Ff : Fld Z h0 a "com/example/parley/parley/algorithms/Dgls$Modifiers" "factors" "[D" (.ref bf)) (V_bf : Arv Z h0 bf kf .double (3 : Int32) [(.double x0), (.double x1), (.double x2)] (.double (0 : UInt64))) (g_bf : n0 ≤ bf) (ne_a_bf : a ≠ bf) (nn_x0 : NoNaN64 (FP.dmul x0 d)) (nn_x1 : NoNaN64 (FP.dmul x1 d)) (nn_x2 : NoNaN64 (FP.dmul x2 d)) :
    MetFree l (⟨"com/example/parley/parley/algorithms/Dgls$Modifiers", "shrink", "(D)V"⟩ : MethodName) (head1 (Jvm.Cond.code (⟨"com/example/parley/parley/algorithms/Dgls$Modifiers", "shrink", "(D)V"⟩ : MethodName) prog_8_method_2_code 4 none :: ws) ({ frames := 0, cells := 0, slots := 0, locals := 0 } : Room)) (fun aq Uq => aq = #[(.ref a), (.double d)] ∧ Z.Warmed39 Uq.vm ∧ Uq.heap = h0) (fun _ _ _ _ _ => True) (fun _ Uq oq Uq' => ∃ vq Lq, oq = .returned vq ∧ QrmS3 Z a d bf kf x0 x1 x2 h0 n0 vq Uq'.heap Lq ∧ FrameEnd Uq oq Uq' Lq ({ frames := 0, cells := 0, slots := 0, locals := 0 } : Room).cells ({ frames := 0, cells := 0, slots := 0, locals := 0 } : Room).slots) := by
  refine MetFree.of_bodySF (plainFor_of_name pn_0) hisR ?_
  intro p e s m args below meth c s₁ Bd hml0 hP hK
  obtain ⟨rfl, hZ, hh⟩ := hP
  have hx := Bd.exec
  have hby := Bd.bytes
  have hml : c.maxLocals = 4 := hml0
  have hown : s.vm.findClass "com/example/parley/parley/algorithms/Dgls$Modifiers" = some m.cls := findClass_of_methodNamed Bd.named
  have hnm := (name_of_methodNamed Bd.named Bd.method).1
  have X0 : Stand p l e ({ frames := 0, cells := 0, slots := 0, locals := 0 } : Room) s m #[(.ref a), (.double d)] below meth c s₁ [] 0 0 := Stand.of_body Bd
  have e0 : s₁.heap = h0 := by rw [← hh, Bd.state]; rfl
  have N0 := Fr.nil n0
  have ZH := Z0
  have KK := Keep.refl h0 [bf]
  refine own_start (fun t kq => castTop (ef_rmS3 m a d) kq) ?_
  show own_Go p.tables e below _ (s₁.setTop (mkF m 0 #[.val (.ref a), .val (.double d), .second, .unset] []))
  refine own_up (fun _ kq => XS.iconst X0.here hx rfl (hb hby d3_0) kq) ?_
  show own_Go p.tables e below _ (s₁.setTop (mkF m 1 #[.val (.ref a), .val (.double d), .second, .unset] [(.int (0 : Int32))]))
  refine own_up (fun _ kq => XS.istoreN X0.here hx rfl (hb hby d3_1) rfl (l' := #[.val (.ref a), .val (.double d), .second, .val (.int (0 : Int32))]) rfl kq) ?_
  show own_Go p.tables e below _ (s₁.setTop (mkF m 2 #[.val (.ref a), .val (.double d), .second, .val (.int (0 : Int32))] []))
  refine own_up (fun _ kq => XS.iloadN X0.here hx rfl (hb hby d3_2) rfl kq) ?_
  show own_Go p.tables e below _ (s₁.setTop (mkF m 3 #[.val (.ref a), .val (.double d), .second, .val (.int (0 : Int32))] [(.int (0 : Int32))]))
  refine own_up (fun _ kq => XS.aloadN X0.here hx rfl (hb hby d3_3) rfl rfl kq) ?_
  show own_Go p.tables e below _ (s₁.setTop (mkF m 4 #[.val (.ref a), .val (.double d), .second, .val (.int (0 : Int32))] [(.ref a), (.int (0 : Int32))]))
  obtain ⟨T1, X1, e1, st1⟩ := getF X0 hx hZ hown (host := "") (Or.inl (hw _ (List.mem_of_getElem? (i := 15) rfl))) Via.refl e0 Ff (g := (mkF m 4 #[.val (.ref a), .val (.double d), .second, .val (.int (0 : Int32))] [(.ref a), (.int (0 : Int32))])) rfl rfl (hb hby d3_4)
  refine own_up st1 ?_
  show own_Go p.tables e below _ (T1.setTop (mkF m 7 #[.val (.ref a), .val (.double d), .second, .val (.int (0 : Int32))] [(.ref bf), (.int (0 : Int32))]))
  refine own_up (fun _ kq => own_Arf.alen (own_Arf.ofArv V_bf) X1 hx hZ e1 (g := (mkF m 7 #[.val (.ref a), .val (.double d), .second, .val (.int (0 : Int32))] [(.ref bf), (.int (0 : Int32))])) rfl rfl (hb hby d3_7) _ kq) ?_
  show own_Go p.tables e below _ (T1.setTop (mkF m 8 #[.val (.ref a), .val (.double d), .second, .val (.int (0 : Int32))] [(.int (3 : Int32)), (.int (0 : Int32))]))
  refine own_up (fun _ kq => XS.icmpNo X1.here hx rfl (hb hby d3_8) rfl (tlt (by decide : (0 : Int32) < (3 : Int32))).2.1 kq) ?_
  show own_Go p.tables e below _ (T1.setTop (mkF m 11 #[.val (.ref a), .val (.double d), .second, .val (.int (0 : Int32))] []))
  refine own_up (fun _ kq => XS.aloadN X1.here hx rfl (hb hby d3_11) rfl rfl kq) ?_
  show own_Go p.tables e below _ (T1.setTop (mkF m 12 #[.val (.ref a), .val (.double d), .second, .val (.int (0 : Int32))] [(.ref a)]))
  obtain ⟨T2, X2, e2, st2⟩ := getF X1 hx hZ hown (host := "") (Or.inl (hw _ (List.mem_of_getElem? (i := 15) rfl))) Via.refl e1 Ff (g := (mkF m 12 #[.val (.ref a), .val (.double d), .second, .val (.int (0 : Int32))] [(.ref a)])) rfl rfl (hb hby d3_12)
  refine own_up st2 ?_
  show own_Go p.tables e below _ (T2.setTop (mkF m 15 #[.val (.ref a), .val (.double d), .second, .val (.int (0 : Int32))] [(.ref bf)]))
  refine own_up (fun _ kq => XS.iloadN X2.here hx rfl (hb hby d3_15) rfl kq) ?_
  show own_Go p.tables e below _ (T2.setTop (mkF m 16 #[.val (.ref a), .val (.double d), .second, .val (.int (0 : Int32))] [(.int (0 : Int32)), (.ref bf)]))
  refine own_up (fun _ kq => (show Steps p.tables e below (T2.setTop (mkF m 16 #[.val (.ref a), .val (.double d), .second, .val (.int (0 : Int32))] [(.int (0 : Int32)), (.ref bf)])) _ from by jvm_step X2.here [X2.here.top, hx, (hb hby d3_16), Value.category]; exact kq)) ?_
  show own_Go p.tables e below _ (T2.setTop (mkF m 17 #[.val (.ref a), .val (.double d), .second, .val (.int (0 : Int32))] [(.int (0 : Int32)), (.ref bf), (.int (0 : Int32)), (.ref bf)]))
  refine own_up (fun _ kq => own_Arf.daload (own_Arf.ofArv V_bf) X2 hx hZ e2 (by decide) (by decide) (v := (.double x0)) rfl (g := (mkF m 17 #[.val (.ref a), .val (.double d), .second, .val (.int (0 : Int32))] [(.int (0 : Int32)), (.ref bf), (.int (0 : Int32)), (.ref bf)])) rfl rfl (hb hby d3_17) _ kq) ?_
  show own_Go p.tables e below _ (T2.setTop (mkF m 18 #[.val (.ref a), .val (.double d), .second, .val (.int (0 : Int32))] [(.double x0), (.int (0 : Int32)), (.ref bf)]))
  refine own_up (fun _ kq => XS.dloadN X2.here hx rfl (hb hby d3_18) rfl kq) ?_
  show own_Go p.tables e below _ (T2.setTop (mkF m 19 #[.val (.ref a), .val (.double d), .second, .val (.int (0 : Int32))] [(.double d), (.double x0), (.int (0 : Int32)), (.ref bf)]))
  refine own_up (fun _ kq => XS.dmulS X2.here hx rfl (v := (FP.dmul x0 d)) (hb hby d3_19) rfl nn_x0 rfl kq) ?_
  show own_Go p.tables e below _ (T2.setTop (mkF m 20 #[.val (.ref a), .val (.double d), .second, .val (.int (0 : Int32))] [(.double (FP.dmul x0 d)), (.int (0 : Int32)), (.ref bf)]))
  obtain ⟨cl3, Ar3, q3, sz3, nz3, hH3, hG3⟩ := V_bf
  obtain ⟨T3, h3, X3, e3, W3, st3⟩ := stD X2 hx hZ e2 Ar3 (j := (0 : Int32)) (inb_of sz3 ⟨by decide, by decide⟩) (g := (mkF m 20 #[.val (.ref a), .val (.double d), .second, .val (.int (0 : Int32))] [(.double (FP.dmul x0 d)), (.int (0 : Int32)), (.ref bf)])) rfl rfl (hb hby d3_20)
  have V_bf : Arv Z h3 bf kf .double (3 : Int32) [(.double (FP.dmul x0 d)), (.double x1), (.double x2)] (.double (0 : UInt64)) := Arv.set Ar3 q3 sz3 nz3 hH3 hG3 rfl W3 0 rfl (Nat.le_of_ble_eq_true rfl)
  have N3 := Fr.snoc X3 N0 g_bf
  have Ff := Ff.other W3 (Or.inl ne_a_bf)
  have ZH := Nat.le_trans ZH (Nat.le_of_eq W3.size.symm)
  have KK := KK.wr W3 (Or.inl (List.mem_of_getElem? (i := 0) rfl))
  refine own_up st3 ?_
  show own_Go p.tables e below _ (T3.setTop (mkF m 21 #[.val (.ref a), .val (.double d), .second, .val (.int (0 : Int32))] []))
  refine own_up (fun _ kq => XS.iinc X3.here hx rfl (hb hby d3_21) rfl (l' := #[.val (.ref a), .val (.double d), .second, .val (.int (1 : Int32))]) rfl kq) ?_
  show own_Go p.tables e below _ (T3.setTop (mkF m 24 #[.val (.ref a), .val (.double d), .second, .val (.int (1 : Int32))] []))
  refine own_up (fun _ kq => XS.goto X3.here hx rfl (pc0 := 24) (pc' := 2) rfl (hb hby d3_24) (by decide) (by decide) kq) ?_
  show own_Go p.tables e below _ (T3.setTop (mkF m 2 #[.val (.ref a), .val (.double d), .second, .val (.int (1 : Int32))] []))
  refine own_up (fun _ kq => XS.iloadN X3.here hx rfl (hb hby d3_2) rfl kq) ?_
  show own_Go p.tables e below _ (T3.setTop (mkF m 3 #[.val (.ref a), .val (.double d), .second, .val (.int (1 : Int32))] [(.int (1 : Int32))]))
  refine own_up (fun _ kq => XS.aloadN X3.here hx rfl (hb hby d3_3) rfl rfl kq) ?_
  show own_Go p.tables e below _ (T3.setTop (mkF m 4 #[.val (.ref a), .val (.double d), .second, .val (.int (1 : Int32))] [(.ref a), (.int (1 : Int32))]))
  obtain ⟨T4, X4, e4, st4⟩ := getF X3 hx hZ hown (host := "") (Or.inl (hw _ (List.mem_of_getElem? (i := 15) rfl))) Via.refl e3 Ff (g := (mkF m 4 #[.val (.ref a), .val (.double d), .second, .val (.int (1 : Int32))] [(.ref a), (.int (1 : Int32))])) rfl rfl (hb hby d3_4)
  refine own_up st4 ?_
  show own_Go p.tables e below _ (T4.setTop (mkF m 7 #[.val (.ref a), .val (.double d), .second, .val (.int (1 : Int32))] [(.ref bf), (.int (1 : Int32))]))
  refine own_up (fun _ kq => own_Arf.alen (own_Arf.ofArv V_bf) X4 hx hZ e4 (g := (mkF m 7 #[.val (.ref a), .val (.double d), .second, .val (.int (1 : Int32))] [(.ref bf), (.int (1 : Int32))])) rfl rfl (hb hby d3_7) _ kq) ?_
  show own_Go p.tables e below _ (T4.setTop (mkF m 8 #[.val (.ref a), .val (.double d), .second, .val (.int (1 : Int32))] [(.int (3 : Int32)), (.int (1 : Int32))]))
  refine own_up (fun _ kq => XS.icmpNo X4.here hx rfl (hb hby d3_8) rfl (tlt (by decide : (1 : Int32) < (3 : Int32))).2.1 kq) ?_
  show own_Go p.tables e below _ (T4.setTop (mkF m 11 #[.val (.ref a), .val (.double d), .second, .val (.int (1 : Int32))] []))
  refine own_up (fun _ kq => XS.aloadN X4.here hx rfl (hb hby d3_11) rfl rfl kq) ?_
  show own_Go p.tables e below _ (T4.setTop (mkF m 12 #[.val (.ref a), .val (.double d), .second, .val (.int (1 : Int32))] [(.ref a)]))
  obtain ⟨T5, X5, e5, st5⟩ := getF X4 hx hZ hown (host := "") (Or.inl (hw _ (List.mem_of_getElem? (i := 15) rfl))) Via.refl e4 Ff (g := (mkF m 12 #[.val (.ref a), .val (.double d), .second, .val (.int (1 : Int32))] [(.ref a)])) rfl rfl (hb hby d3_12)
  refine own_up st5 ?_
  show own_Go p.tables e below _ (T5.setTop (mkF m 15 #[.val (.ref a), .val (.double d), .second, .val (.int (1 : Int32))] [(.ref bf)]))
  refine own_up (fun _ kq => XS.iloadN X5.here hx rfl (hb hby d3_15) rfl kq) ?_
  show own_Go p.tables e below _ (T5.setTop (mkF m 16 #[.val (.ref a), .val (.double d), .second, .val (.int (1 : Int32))] [(.int (1 : Int32)), (.ref bf)]))
  refine own_up (fun _ kq => (show Steps p.tables e below (T5.setTop (mkF m 16 #[.val (.ref a), .val (.double d), .second, .val (.int (1 : Int32))] [(.int (1 : Int32)), (.ref bf)])) _ from by jvm_step X5.here [X5.here.top, hx, (hb hby d3_16), Value.category]; exact kq)) ?_
  show own_Go p.tables e below _ (T5.setTop (mkF m 17 #[.val (.ref a), .val (.double d), .second, .val (.int (1 : Int32))] [(.int (1 : Int32)), (.ref bf), (.int (1 : Int32)), (.ref bf)]))
  refine own_up (fun _ kq => own_Arf.daload (own_Arf.ofArv V_bf) X5 hx hZ e5 (by decide) (by decide) (v := (.double x1)) rfl (g := (mkF m 17 #[.val (.ref a), .val (.double d), .second, .val (.int (1 : Int32))] [(.int (1 : Int32)), (.ref bf), (.int (1 : Int32)), (.ref bf)])) rfl rfl (hb hby d3_17) _ kq) ?_
  show own_Go p.tables e below _ (T5.setTop (mkF m 18 #[.val (.ref a), .val (.double d), .second, .val (.int (1 : Int32))] [(.double x1), (.int (1 : Int32)), (.ref bf)]))
  refine own_up (fun _ kq => XS.dloadN X5.here hx rfl (hb hby d3_18) rfl kq) ?_
  show own_Go p.tables e below _ (T5.setTop (mkF m 19 #[.val (.ref a), .val (.double d), .second, .val (.int (1 : Int32))] [(.double d), (.double x1), (.int (1 : Int32)), (.ref bf)]))
  refine own_up (fun _ kq => XS.dmulS X5.here hx rfl (v := (FP.dmul x1 d)) (hb hby d3_19) rfl nn_x1 rfl kq) ?_
  show own_Go p.tables e below _ (T5.setTop (mkF m 20 #[.val (.ref a), .val (.double d), .second, .val (.int (1 : Int32))] [(.double (FP.dmul x1 d)), (.int (1 : Int32)), (.ref bf)]))
  obtain ⟨cl6, Ar6, q6, sz6, nz6, hH6, hG6⟩ := V_bf
  obtain ⟨T6, h6, X6, e6, W6, st6⟩ := stD X5 hx hZ e5 Ar6 (j := (1 : Int32)) (inb_of sz6 ⟨by decide, by decide⟩) (g := (mkF m 20 #[.val (.ref a), .val (.double d), .second, .val (.int (1 : Int32))] [(.double (FP.dmul x1 d)), (.int (1 : Int32)), (.ref bf)])) rfl rfl (hb hby d3_20)
  have V_bf : Arv Z h6 bf kf .double (3 : Int32) [(.double (FP.dmul x0 d)), (.double (FP.dmul x1 d)), (.double x2)] (.double (0 : UInt64)) := Arv.set Ar6 q6 sz6 nz6 hH6 hG6 rfl W6 1 rfl (Nat.le_of_ble_eq_true rfl)
  have N6 := Fr.snoc X6 N3 g_bf
  have Ff := Ff.other W6 (Or.inl ne_a_bf)
  have ZH := Nat.le_trans ZH (Nat.le_of_eq W6.size.symm)
  have KK := KK.wr W6 (Or.inl (List.mem_of_getElem? (i := 0) rfl))
  refine own_up st6 ?_
  show own_Go p.tables e below _ (T6.setTop (mkF m 21 #[.val (.ref a), .val (.double d), .second, .val (.int (1 : Int32))] []))
  refine own_up (fun _ kq => XS.iinc X6.here hx rfl (hb hby d3_21) rfl (l' := #[.val (.ref a), .val (.double d), .second, .val (.int (2 : Int32))]) rfl kq) ?_
  show own_Go p.tables e below _ (T6.setTop (mkF m 24 #[.val (.ref a), .val (.double d), .second, .val (.int (2 : Int32))] []))
  refine own_up (fun _ kq => XS.goto X6.here hx rfl (pc0 := 24) (pc' := 2) rfl (hb hby d3_24) (by decide) (by decide) kq) ?_
  show own_Go p.tables e below _ (T6.setTop (mkF m 2 #[.val (.ref a), .val (.double d), .second, .val (.int (2 : Int32))] []))
  refine own_up (fun _ kq => XS.iloadN X6.here hx rfl (hb hby d3_2) rfl kq) ?_
  show own_Go p.tables e below _ (T6.setTop (mkF m 3 #[.val (.ref a), .val (.double d), .second, .val (.int (2 : Int32))] [(.int (2 : Int32))]))
  refine own_up (fun _ kq => XS.aloadN X6.here hx rfl (hb hby d3_3) rfl rfl kq) ?_
  show own_Go p.tables e below _ (T6.setTop (mkF m 4 #[.val (.ref a), .val (.double d), .second, .val (.int (2 : Int32))] [(.ref a), (.int (2 : Int32))]))
  obtain ⟨T7, X7, e7, st7⟩ := getF X6 hx hZ hown (host := "") (Or.inl (hw _ (List.mem_of_getElem? (i := 15) rfl))) Via.refl e6 Ff (g := (mkF m 4 #[.val (.ref a), .val (.double d), .second, .val (.int (2 : Int32))] [(.ref a), (.int (2 : Int32))])) rfl rfl (hb hby d3_4)
  refine own_up st7 ?_
  show own_Go p.tables e below _ (T7.setTop (mkF m 7 #[.val (.ref a), .val (.double d), .second, .val (.int (2 : Int32))] [(.ref bf), (.int (2 : Int32))]))
  refine own_up (fun _ kq => own_Arf.alen (own_Arf.ofArv V_bf) X7 hx hZ e7 (g := (mkF m 7 #[.val (.ref a), .val (.double d), .second, .val (.int (2 : Int32))] [(.ref bf), (.int (2 : Int32))])) rfl rfl (hb hby d3_7) _ kq) ?_
  show own_Go p.tables e below _ (T7.setTop (mkF m 8 #[.val (.ref a), .val (.double d), .second, .val (.int (2 : Int32))] [(.int (3 : Int32)), (.int (2 : Int32))]))
  refine own_up (fun _ kq => XS.icmpNo X7.here hx rfl (hb hby d3_8) rfl (tlt (by decide : (2 : Int32) < (3 : Int32))).2.1 kq) ?_
  show own_Go p.tables e below _ (T7.setTop (mkF m 11 #[.val (.ref a), .val (.double d), .second, .val (.int (2 : Int32))] []))
  refine own_up (fun _ kq => XS.aloadN X7.here hx rfl (hb hby d3_11) rfl rfl kq) ?_
  show own_Go p.tables e below _ (T7.setTop (mkF m 12 #[.val (.ref a), .val (.double d), .second, .val (.int (2 : Int32))] [(.ref a)]))
  obtain ⟨T8, X8, e8, st8⟩ := getF X7 hx hZ hown (host := "") (Or.inl (hw _ (List.mem_of_getElem? (i := 15) rfl))) Via.refl e7 Ff (g := (mkF m 12 #[.val (.ref a), .val (.double d), .second, .val (.int (2 : Int32))] [(.ref a)])) rfl rfl (hb hby d3_12)
  refine own_up st8 ?_
  show own_Go p.tables e below _ (T8.setTop (mkF m 15 #[.val (.ref a), .val (.double d), .second, .val (.int (2 : Int32))] [(.ref bf)]))
  refine own_up (fun _ kq => XS.iloadN X8.here hx rfl (hb hby d3_15) rfl kq) ?_
  show own_Go p.tables e below _ (T8.setTop (mkF m 16 #[.val (.ref a), .val (.double d), .second, .val (.int (2 : Int32))] [(.int (2 : Int32)), (.ref bf)]))
  refine own_up (fun _ kq => (show Steps p.tables e below (T8.setTop (mkF m 16 #[.val (.ref a), .val (.double d), .second, .val (.int (2 : Int32))] [(.int (2 : Int32)), (.ref bf)])) _ from by jvm_step X8.here [X8.here.top, hx, (hb hby d3_16), Value.category]; exact kq)) ?_
  show own_Go p.tables e below _ (T8.setTop (mkF m 17 #[.val (.ref a), .val (.double d), .second, .val (.int (2 : Int32))] [(.int (2 : Int32)), (.ref bf), (.int (2 : Int32)), (.ref bf)]))
  refine own_up (fun _ kq => own_Arf.daload (own_Arf.ofArv V_bf) X8 hx hZ e8 (by decide) (by decide) (v := (.double x2)) rfl (g := (mkF m 17 #[.val (.ref a), .val (.double d), .second, .val (.int (2 : Int32))] [(.int (2 : Int32)), (.ref bf), (.int (2 : Int32)), (.ref bf)])) rfl rfl (hb hby d3_17) _ kq) ?_
  show own_Go p.tables e below _ (T8.setTop (mkF m 18 #[.val (.ref a), .val (.double d), .second, .val (.int (2 : Int32))] [(.double x2), (.int (2 : Int32)), (.ref bf)]))
  refine own_up (fun _ kq => XS.dloadN X8.here hx rfl (hb hby d3_18) rfl kq) ?_
  show own_Go p.tables e below _ (T8.setTop (mkF m 19 #[.val (.ref a), .val (.double d), .second, .val (.int (2 : Int32))] [(.double d), (.double x2), (.int (2 : Int32)), (.ref bf)]))
  refine own_up (fun _ kq => XS.dmulS X8.here hx rfl (v := (FP.dmul x2 d)) (hb hby d3_19) rfl nn_x2 rfl kq) ?_
  show own_Go p.tables e below _ (T8.setTop (mkF m 20 #[.val (.ref a), .val (.double d), .second, .val (.int (2 : Int32))] [(.double (FP.dmul x2 d)), (.int (2 : Int32)), (.ref bf)]))
  obtain ⟨cl9, Ar9, q9, sz9, nz9, hH9, hG9⟩ := V_bf
  obtain ⟨T9, h9, X9, e9, W9, st9⟩ := stD X8 hx hZ e8 Ar9 (j := (2 : Int32)) (inb_of sz9 ⟨by decide, by decide⟩) (g := (mkF m 20 #[.val (.ref a), .val (.double d), .second, .val (.int (2 : Int32))] [(.double (FP.dmul x2 d)), (.int (2 : Int32)), (.ref bf)])) rfl rfl (hb hby d3_20)
  have V_bf : Arv Z h9 bf kf .double (3 : Int32) [(.double (FP.dmul x0 d)), (.double (FP.dmul x1 d)), (.double (FP.dmul x2 d))] (.double (0 : UInt64)) := Arv.set Ar9 q9 sz9 nz9 hH9 hG9 rfl W9 2 rfl (Nat.le_of_ble_eq_true rfl)
  have N9 := Fr.snoc X9 N6 g_bf
  have Ff := Ff.other W9 (Or.inl ne_a_bf)
  have ZH := Nat.le_trans ZH (Nat.le_of_eq W9.size.symm)
  have KK := KK.wr W9 (Or.inl (List.mem_of_getElem? (i := 0) rfl))
  refine own_up st9 ?_
  show own_Go p.tables e below _ (T9.setTop (mkF m 21 #[.val (.ref a), .val (.double d), .second, .val (.int (2 : Int32))] []))
  refine own_up (fun _ kq => XS.iinc X9.here hx rfl (hb hby d3_21) rfl (l' := #[.val (.ref a), .val (.double d), .second, .val (.int (3 : Int32))]) rfl kq) ?_
  show own_Go p.tables e below _ (T9.setTop (mkF m 24 #[.val (.ref a), .val (.double d), .second, .val (.int (3 : Int32))] []))
  refine own_up (fun _ kq => XS.goto X9.here hx rfl (pc0 := 24) (pc' := 2) rfl (hb hby d3_24) (by decide) (by decide) kq) ?_
  show own_Go p.tables e below _ (T9.setTop (mkF m 2 #[.val (.ref a), .val (.double d), .second, .val (.int (3 : Int32))] []))
  refine own_up (fun _ kq => XS.iloadN X9.here hx rfl (hb hby d3_2) rfl kq) ?_
  show own_Go p.tables e below _ (T9.setTop (mkF m 3 #[.val (.ref a), .val (.double d), .second, .val (.int (3 : Int32))] [(.int (3 : Int32))]))
  refine own_up (fun _ kq => XS.aloadN X9.here hx rfl (hb hby d3_3) rfl rfl kq) ?_
  show own_Go p.tables e below _ (T9.setTop (mkF m 4 #[.val (.ref a), .val (.double d), .second, .val (.int (3 : Int32))] [(.ref a), (.int (3 : Int32))]))
  obtain ⟨T10, X10, e10, st10⟩ := getF X9 hx hZ hown (host := "") (Or.inl (hw _ (List.mem_of_getElem? (i := 15) rfl))) Via.refl e9 Ff (g := (mkF m 4 #[.val (.ref a), .val (.double d), .second, .val (.int (3 : Int32))] [(.ref a), (.int (3 : Int32))])) rfl rfl (hb hby d3_4)
  refine own_up st10 ?_
  show own_Go p.tables e below _ (T10.setTop (mkF m 7 #[.val (.ref a), .val (.double d), .second, .val (.int (3 : Int32))] [(.ref bf), (.int (3 : Int32))]))
  refine own_up (fun _ kq => own_Arf.alen (own_Arf.ofArv V_bf) X10 hx hZ e10 (g := (mkF m 7 #[.val (.ref a), .val (.double d), .second, .val (.int (3 : Int32))] [(.ref bf), (.int (3 : Int32))])) rfl rfl (hb hby d3_7) _ kq) ?_
  show own_Go p.tables e below _ (T10.setTop (mkF m 8 #[.val (.ref a), .val (.double d), .second, .val (.int (3 : Int32))] [(.int (3 : Int32)), (.int (3 : Int32))]))
  refine own_up (fun _ kq => XS.icmpYes X10.here hx rfl (pc0 := 8) (pc' := 27) rfl (hb hby d3_8) rfl (flt (by decide : ¬ ((3 : Int32) < (3 : Int32)))).2.1 (by decide) (by decide) kq) ?_
  show own_Go p.tables e below _ (T10.setTop (mkF m 27 #[.val (.ref a), .val (.double d), .second, .val (.int (3 : Int32))] []))
  obtain ⟨fs11, hr11, hrun11, hended11, hW11, hsame11⟩ := X10.leave (v := none) (fun _ => rfl)
  refine own_end ⟨_, _, ?_, hrun11, hended11, _, _, rfl, ?_, ⟨_, rfl⟩, hW11, hsame11.mono (by decide) (by decide)⟩
  · exact X10.returnOut hx Bd.returns (hb hby d3_27) hr11
  · show QrmS3 Z a d bf kf x0 x1 x2 h0 n0 _ T10.heap _
    rw [e10]
    exact ⟨rfl, N9, KK, V_bf⟩
theorem pn_1 : plainName "com/example/parley/parley/algorithms/ModifiersShrinkPinLaw" = true := by first | (simp [plainName, overriddenIn]; done) | decide +kernel
theorem d4_0 : decode method_3_code 0 = .ok (.iload_n 1, 1) := by decide +kernel
theorem d4_1 : decode method_3_code 1 = .ok (.iload_n 2, 1) := by decide +kernel
theorem d4_2 : decode method_3_code 2 = .ok (.if_icmp .lt 5, 3) := by decide +kernel
theorem d4_5 : decode method_3_code 5 = .ok (.iconst 1, 1) := by decide +kernel
theorem d4_6 : decode method_3_code 6 = .ok (.ireturn, 1) := by decide +kernel
theorem ef_rmO (m : MethodId) (x0 : Addr) (x1 : Int32) (x2 : Int32) (x3 : Int32) (x4 : Int32) : entryFrame m #[(.ref x0), (.int x1), (.int x2), (.int x3), (.int x4)] 7 = mkF m 0 #[.val (.ref x0), .val (.int x1), .val (.int x2), .val (.int x3), .val (.int x4), .unset, .unset] [] := by first | (simp [entryFrame, mkF, argsToLocals, Value.category]; done) | rfl
def QrmO (Z : State) (mo : Addr) (i : Int32) (n : Int32) (f : Int32) (k : Int32) (h0 : Heap) (n0 : Nat) (v : Option Value) (h : Heap) (L : List Loc) : Prop := v = some (.int 1) ∧ Fr n0 L ∧ h = h0
set_option maxRecDepth 65536 in
set_option maxHeartbeats 40000000 in
theorem rmO (l : Launch) (Z : State) (a0 : Array Value) (hw : ∀ d ∈ tables_1, d.before a0 Z = true) (ws : List Jvm.Cond) (mo : Addr) (i : Int32) (n : Int32) (f : Int32) (k : Int32) (h0 : Heap) (n0 : Nat) (Z0 : n0 ≤ h0.size) (hi : ¬ i < n) :
    MetFree l (⟨"com/example/parley/parley/algorithms/ModifiersShrinkPinLaw", "ok", "(Lcom/example/parley/parley/algorithms/Dgls$Modifiers;IIII)Z"⟩ : MethodName) (head1 (Jvm.Cond.code (⟨"com/example/parley/parley/algorithms/ModifiersShrinkPinLaw", "ok", "(Lcom/example/parley/parley/algorithms/Dgls$Modifiers;IIII)Z"⟩ : MethodName) method_3_code 7 (some .boolean) :: ws) ({ frames := 0, cells := 0, slots := 0, locals := 0 } : Room)) (fun aq Uq => aq = #[(.ref mo), (.int i), (.int n), (.int f), (.int k)] ∧ Z.Warmed39 Uq.vm ∧ Uq.heap = h0) (fun _ _ _ _ _ => True) (fun _ Uq oq Uq' => ∃ vq Lq, oq = .returned vq ∧ QrmO Z mo i n f k h0 n0 vq Uq'.heap Lq ∧ FrameEnd Uq oq Uq' Lq ({ frames := 0, cells := 0, slots := 0, locals := 0 } : Room).cells ({ frames := 0, cells := 0, slots := 0, locals := 0 } : Room).slots) := by
  refine MetFree.of_bodySF (plainFor_of_name pn_1) hisR ?_
  intro p e s m args below meth c s₁ Bd hml0 hP hK
  obtain ⟨rfl, hZ, hh⟩ := hP
  have hx := Bd.exec
  have hby := Bd.bytes
  have hml : c.maxLocals = 7 := hml0
  have hown : s.vm.findClass "com/example/parley/parley/algorithms/ModifiersShrinkPinLaw" = some m.cls := findClass_of_methodNamed Bd.named
  have hnm := (name_of_methodNamed Bd.named Bd.method).1
  have X0 : Stand p l e ({ frames := 0, cells := 0, slots := 0, locals := 0 } : Room) s m #[(.ref mo), (.int i), (.int n), (.int f), (.int k)] below meth c s₁ [] 0 0 := Stand.of_body Bd
  have e0 : s₁.heap = h0 := by rw [← hh, Bd.state]; rfl
  have N0 := Fr.nil n0
  have ZH := Z0
  have KK := Keep.refl h0 []
  refine own_start (fun t kq => castTop (ef_rmO m mo i n f k) kq) ?_
  show own_Go p.tables e below _ (s₁.setTop (mkF m 0 #[.val (.ref mo), .val (.int i), .val (.int n), .val (.int f), .val (.int k), .unset, .unset] []))
  refine own_up (fun _ kq => XS.iloadN X0.here hx rfl (hb hby d4_0) rfl kq) ?_
  show own_Go p.tables e below _ (s₁.setTop (mkF m 1 #[.val (.ref mo), .val (.int i), .val (.int n), .val (.int f), .val (.int k), .unset, .unset] [(.int i)]))
  refine own_up (fun _ kq => XS.iloadN X0.here hx rfl (hb hby d4_1) rfl kq) ?_
  show own_Go p.tables e below _ (s₁.setTop (mkF m 2 #[.val (.ref mo), .val (.int i), .val (.int n), .val (.int f), .val (.int k), .unset, .unset] [(.int n), (.int i)]))
  refine own_up (fun _ kq => XS.icmpNo X0.here hx rfl (hb hby d4_2) rfl (flt hi).1 kq) ?_
  show own_Go p.tables e below _ (s₁.setTop (mkF m 5 #[.val (.ref mo), .val (.int i), .val (.int n), .val (.int f), .val (.int k), .unset, .unset] []))
  refine own_up (fun _ kq => XS.iconst X0.here hx rfl (hb hby d4_5) kq) ?_
  show own_Go p.tables e below _ (s₁.setTop (mkF m 6 #[.val (.ref mo), .val (.int i), .val (.int n), .val (.int f), .val (.int k), .unset, .unset] [(.int (1 : Int32))]))
  obtain ⟨fs1, hr1, hrun1, hended1, hW1, hsame1⟩ := X0.leave (v := some (.int (1 : Int32))) (fun h => by rw [Bd.returns] at h; cases h)
  refine own_end ⟨_, _, ?_, hrun1, hended1, _, _, rfl, ?_, ⟨_, rfl⟩, hW1, hsame1.mono (by decide) (by decide)⟩
  · exact retN X0 hx (t := .boolean) Bd.returns (by simp) (hb hby d4_6) hr1
  · show QrmO Z mo i n f k h0 n0 _ s₁.heap _
    rw [e0]
    exact ⟨rfl, N0, rfl⟩
theorem d4_7 : decode method_3_code 7 = .ok (.iload_n 3, 1) := by decide +kernel
theorem d4_8 : decode method_3_code 8 = .ok (.i2l, 1) := by decide +kernel
theorem d4_9 : decode method_3_code 9 = .ok (.iload 4, 2) := by decide +kernel
theorem d4_11 : decode method_3_code 11 = .ok (.i2l, 1) := by decide +kernel
theorem d4_12 : decode method_3_code 12 = .ok (.lmul, 1) := by decide +kernel
theorem d4_13 : decode method_3_code 13 = .ok (.l2d, 1) := by decide +kernel
theorem d4_14 : decode method_3_code 14 = .ok (.ldc2_w 7, 3) := by decide +kernel
theorem d4_17 : decode method_3_code 17 = .ok (.ddiv, 1) := by decide +kernel
theorem d4_18 : decode method_3_code 18 = .ok (.dstore 5, 2) := by decide +kernel
theorem d4_20 : decode method_3_code 20 = .ok (.aload_n 0, 1) := by decide +kernel
theorem d4_21 : decode method_3_code 21 = .ok (.getfield 14, 3) := by decide +kernel
theorem d4_24 : decode method_3_code 24 = .ok (.iload_n 1, 1) := by decide +kernel
theorem d4_25 : decode method_3_code 25 = .ok (.daload, 1) := by decide +kernel
theorem d4_26 : decode method_3_code 26 = .ok (.dload 5, 2) := by decide +kernel
theorem d4_28 : decode method_3_code 28 = .ok (.dcmp .l, 1) := by decide +kernel
theorem d4_29 : decode method_3_code 29 = .ok (.ifCond .ne 38, 3) := by decide +kernel
theorem d4_32 : decode method_3_code 32 = .ok (.aload_n 0, 1) := by decide +kernel
theorem d4_33 : decode method_3_code 33 = .ok (.getfield 28, 3) := by decide +kernel
theorem d4_36 : decode method_3_code 36 = .ok (.iload_n 1, 1) := by decide +kernel
theorem d4_37 : decode method_3_code 37 = .ok (.daload, 1) := by decide +kernel
theorem d4_38 : decode method_3_code 38 = .ok (.dconst 0, 1) := by decide +kernel
theorem d4_39 : decode method_3_code 39 = .ok (.dcmp .l, 1) := by decide +kernel
theorem d4_40 : decode method_3_code 40 = .ok (.ifCond .ne 27, 3) := by decide +kernel
theorem d4_43 : decode method_3_code 43 = .ok (.aload_n 0, 1) := by decide +kernel
theorem d4_44 : decode method_3_code 44 = .ok (.getfield 31, 3) := by decide +kernel
theorem d4_47 : decode method_3_code 47 = .ok (.iload_n 1, 1) := by decide +kernel
theorem d4_48 : decode method_3_code 48 = .ok (.daload, 1) := by decide +kernel
theorem d4_49 : decode method_3_code 49 = .ok (.dconst 0, 1) := by decide +kernel
theorem d4_50 : decode method_3_code 50 = .ok (.dcmp .l, 1) := by decide +kernel
theorem d4_51 : decode method_3_code 51 = .ok (.ifCond .ne 16, 3) := by decide +kernel
theorem d4_54 : decode method_3_code 54 = .ok (.aload_n 0, 1) := by decide +kernel
theorem d4_55 : decode method_3_code 55 = .ok (.getfield 34, 3) := by decide +kernel
theorem d4_58 : decode method_3_code 58 = .ok (.iload_n 1, 1) := by decide +kernel
theorem d4_59 : decode method_3_code 59 = .ok (.aaload, 1) := by decide +kernel
theorem d4_60 : decode method_3_code 60 = .ok (.ifnonnull 7, 3) := by decide +kernel
theorem d4_63 : decode method_3_code 63 = .ok (.iconst 1, 1) := by decide +kernel
theorem d4_64 : decode method_3_code 64 = .ok (.goto 4, 3) := by decide +kernel
theorem d4_68 : decode method_3_code 68 = .ok (.ireturn, 1) := by decide +kernel
theorem ef_rmI (m : MethodId) (x0 : Addr) (x1 : Int32) (x2 : Int32) (x3 : Int32) (x4 : Int32) : entryFrame m #[(.ref x0), (.int x1), (.int x2), (.int x3), (.int x4)] 7 = mkF m 0 #[.val (.ref x0), .val (.int x1), .val (.int x2), .val (.int x3), .val (.int x4), .unset, .unset] [] := by first | (simp [entryFrame, mkF, argsToLocals, Value.category]; done) | rfl
def QrmI (Z : State) (mo : Addr) (i : Int32) (n : Int32) (f : Int32) (k : Int32) (bn : Addr) (bf : Addr) (bl : Addr) (bg : Addr) (x : UInt64) (un : Nat → Value) (uf : Nat → Value) (ul : Nat → Value) (ug : Nat → Value) (h0 : Heap) (n0 : Nat) (v : Option Value) (h : Heap) (L : List Loc) : Prop := v = some (.int 1) ∧ Fr n0 L ∧ h = h0
set_option maxRecDepth 65536 in
set_option maxHeartbeats 40000000 in
theorem rmI (l : Launch) (Z : State) (a0 : Array Value) (hw : ∀ d ∈ tables_1, d.before a0 Z = true) (ws : List Jvm.Cond) (mo : Addr) (i : Int32) (n : Int32) (f : Int32) (k : Int32) (bn : Addr) (bf : Addr) (bl : Addr) (bg : Addr) (x : UInt64) (un : Nat → Value) (uf : Nat → Value) (ul : Nat → Value) (ug : Nat → Value) (h0 : Heap) (n0 : Nat) (Z0 : n0 ≤ h0.size) (hi0 : ¬ i < 0) (hi : i < n) (Fbn : Fld Z h0 mo "com/example/parley/parley/algorithms/Dgls$Modifiers" "numbers" "[[D" (.ref bn)) (Fbf : Fld Z h0 mo "com/example/parley/parley/algorithms/Dgls$Modifiers" "factors" "[D" (.ref bf)) (Fbl : Fld Z h0 mo "com/example/parley/parley/algorithms/Dgls$Modifiers" "least" "[D" (.ref bl)) (Fbg : Fld Z h0 mo "com/example/parley/parley/algorithms/Dgls$Modifiers" "greatest" "[D" (.ref bg)) (G_bn : own_Arf Z h0 bn (.array .double) n un) (G_bf : own_Arf Z h0 bf .double n uf) (G_bl : own_Arf Z h0 bl .double n ul) (G_bg : own_Arf Z h0 bg .double n ug) (hnx : un i.toNatClampNeg = .null) (hfx : uf i.toNatClampNeg = .double x) (hlx : ul i.toNatClampNeg = .double 0) (hgx : ug i.toNatClampNeg = .double 0) (hcmp : cmpValue (FP.dcmp x (FP.ddiv (FP.l2d (f.toInt64 * k.toInt64)) (4625196817309499392 : UInt64))) .l = 0) (nn : NoNaN64 (FP.ddiv (FP.l2d (f.toInt64 * k.toInt64)) (4625196817309499392 : UInt64))) :
    MetFree l (⟨"com/example/parley/parley/algorithms/ModifiersShrinkPinLaw", "ok", "(Lcom/example/parley/parley/algorithms/Dgls$Modifiers;IIII)Z"⟩ : MethodName) (head1 (Jvm.Cond.code (⟨"com/example/parley/parley/algorithms/ModifiersShrinkPinLaw", "ok", "(Lcom/example/parley/parley/algorithms/Dgls$Modifiers;IIII)Z"⟩ : MethodName) method_3_code 7 (some .boolean) :: ws) ({ frames := 0, cells := 0, slots := 0, locals := 0 } : Room)) (fun aq Uq => aq = #[(.ref mo), (.int i), (.int n), (.int f), (.int k)] ∧ Z.Warmed39 Uq.vm ∧ Uq.heap = h0) (fun _ _ _ _ _ => True) (fun _ Uq oq Uq' => ∃ vq Lq, oq = .returned vq ∧ QrmI Z mo i n f k bn bf bl bg x un uf ul ug h0 n0 vq Uq'.heap Lq ∧ FrameEnd Uq oq Uq' Lq ({ frames := 0, cells := 0, slots := 0, locals := 0 } : Room).cells ({ frames := 0, cells := 0, slots := 0, locals := 0 } : Room).slots) := by
  refine MetFree.of_bodySF (plainFor_of_name pn_1) hisR ?_
  intro p e s m args below meth c s₁ Bd hml0 hP hK
  obtain ⟨rfl, hZ, hh⟩ := hP
  have hx := Bd.exec
  have hby := Bd.bytes
  have hml : c.maxLocals = 7 := hml0
  have hown : s.vm.findClass "com/example/parley/parley/algorithms/ModifiersShrinkPinLaw" = some m.cls := findClass_of_methodNamed Bd.named
  have hnm := (name_of_methodNamed Bd.named Bd.method).1
  have X0 : Stand p l e ({ frames := 0, cells := 0, slots := 0, locals := 0 } : Room) s m #[(.ref mo), (.int i), (.int n), (.int f), (.int k)] below meth c s₁ [] 0 0 := Stand.of_body Bd
  have e0 : s₁.heap = h0 := by rw [← hh, Bd.state]; rfl
  have N0 := Fr.nil n0
  have ZH := Z0
  have KK := Keep.refl h0 []
  refine own_start (fun t kq => castTop (ef_rmI m mo i n f k) kq) ?_
  show own_Go p.tables e below _ (s₁.setTop (mkF m 0 #[.val (.ref mo), .val (.int i), .val (.int n), .val (.int f), .val (.int k), .unset, .unset] []))
  refine own_up (fun _ kq => XS.iloadN X0.here hx rfl (hb hby d4_0) rfl kq) ?_
  show own_Go p.tables e below _ (s₁.setTop (mkF m 1 #[.val (.ref mo), .val (.int i), .val (.int n), .val (.int f), .val (.int k), .unset, .unset] [(.int i)]))
  refine own_up (fun _ kq => XS.iloadN X0.here hx rfl (hb hby d4_1) rfl kq) ?_
  show own_Go p.tables e below _ (s₁.setTop (mkF m 2 #[.val (.ref mo), .val (.int i), .val (.int n), .val (.int f), .val (.int k), .unset, .unset] [(.int n), (.int i)]))
  refine own_up (fun _ kq => XS.icmpYes X0.here hx rfl (pc0 := 2) (pc' := 7) rfl (hb hby d4_2) rfl (tlt hi).1 (by decide) (by decide) kq) ?_
  show own_Go p.tables e below _ (s₁.setTop (mkF m 7 #[.val (.ref mo), .val (.int i), .val (.int n), .val (.int f), .val (.int k), .unset, .unset] []))
  refine own_up (fun _ kq => XS.iloadN X0.here hx rfl (hb hby d4_7) rfl kq) ?_
  show own_Go p.tables e below _ (s₁.setTop (mkF m 8 #[.val (.ref mo), .val (.int i), .val (.int n), .val (.int f), .val (.int k), .unset, .unset] [(.int f)]))
  refine own_up (fun _ kq => XS.i2l X0.here hx rfl (hb hby d4_8) rfl kq) ?_
  show own_Go p.tables e below _ (s₁.setTop (mkF m 9 #[.val (.ref mo), .val (.int i), .val (.int n), .val (.int f), .val (.int k), .unset, .unset] [(.long f.toInt64)]))
  refine own_up (fun _ kq => XS.iload X0.here hx rfl (hb hby d4_9) rfl kq) ?_
  show own_Go p.tables e below _ (s₁.setTop (mkF m 11 #[.val (.ref mo), .val (.int i), .val (.int n), .val (.int f), .val (.int k), .unset, .unset] [(.int k), (.long f.toInt64)]))
  refine own_up (fun _ kq => XS.i2l X0.here hx rfl (hb hby d4_11) rfl kq) ?_
  show own_Go p.tables e below _ (s₁.setTop (mkF m 12 #[.val (.ref mo), .val (.int i), .val (.int n), .val (.int f), .val (.int k), .unset, .unset] [(.long k.toInt64), (.long f.toInt64)]))
  refine own_up (fun _ kq => XS.lmul X0.here hx rfl (hb hby d4_12) rfl kq) ?_
  show own_Go p.tables e below _ (s₁.setTop (mkF m 13 #[.val (.ref mo), .val (.int i), .val (.int n), .val (.int f), .val (.int k), .unset, .unset] [(.long (f.toInt64 * k.toInt64))]))
  refine own_up (fun _ kq => XS.l2dS X0.here hx rfl (v := (FP.l2d (f.toInt64 * k.toInt64))) (hb hby d4_13) rfl rfl kq) ?_
  show own_Go p.tables e below _ (s₁.setTop (mkF m 14 #[.val (.ref mo), .val (.int i), .val (.int n), .val (.int f), .val (.int k), .unset, .unset] [(.double (FP.l2d (f.toInt64 * k.toInt64)))]))
  refine own_up (fun _ kq => X0.ldc2DoubleC hx hown (mvT hZ (hw _ (List.mem_of_getElem? (i := 0) rfl))) (g := (mkF m 14 #[.val (.ref mo), .val (.int i), .val (.int n), .val (.int f), .val (.int k), .unset, .unset] [(.double (FP.l2d (f.toInt64 * k.toInt64)))])) rfl (hb hby d4_14) _ kq) ?_
  show own_Go p.tables e below _ (s₁.setTop (mkF m 17 #[.val (.ref mo), .val (.int i), .val (.int n), .val (.int f), .val (.int k), .unset, .unset] [(.double (4625196817309499392 : UInt64)), (.double (FP.l2d (f.toInt64 * k.toInt64)))]))
  refine own_up (fun _ kq => XS.ddivS X0.here hx rfl (v := (FP.ddiv (FP.l2d (f.toInt64 * k.toInt64)) (4625196817309499392 : UInt64))) (hb hby d4_17) rfl nn rfl kq) ?_
  show own_Go p.tables e below _ (s₁.setTop (mkF m 18 #[.val (.ref mo), .val (.int i), .val (.int n), .val (.int f), .val (.int k), .unset, .unset] [(.double (FP.ddiv (FP.l2d (f.toInt64 * k.toInt64)) (4625196817309499392 : UInt64)))]))
  refine own_up (fun _ kq => XS.dstore X0.here hx rfl (hb hby d4_18) rfl (l' := #[.val (.ref mo), .val (.int i), .val (.int n), .val (.int f), .val (.int k), .val (.double (FP.ddiv (FP.l2d (f.toInt64 * k.toInt64)) (4625196817309499392 : UInt64))), .second]) rfl kq) ?_
  show own_Go p.tables e below _ (s₁.setTop (mkF m 20 #[.val (.ref mo), .val (.int i), .val (.int n), .val (.int f), .val (.int k), .val (.double (FP.ddiv (FP.l2d (f.toInt64 * k.toInt64)) (4625196817309499392 : UInt64))), .second] []))
  refine own_up (fun _ kq => XS.aloadN X0.here hx rfl (hb hby d4_20) rfl rfl kq) ?_
  show own_Go p.tables e below _ (s₁.setTop (mkF m 21 #[.val (.ref mo), .val (.int i), .val (.int n), .val (.int f), .val (.int k), .val (.double (FP.ddiv (FP.l2d (f.toInt64 * k.toInt64)) (4625196817309499392 : UInt64))), .second] [(.ref mo)]))
  obtain ⟨T1, X1, e1, st1⟩ := getF X0 hx hZ hown (host := "") (Or.inl (hw _ (List.mem_of_getElem? (i := 33) rfl))) Via.refl e0 Fbf (g := (mkF m 21 #[.val (.ref mo), .val (.int i), .val (.int n), .val (.int f), .val (.int k), .val (.double (FP.ddiv (FP.l2d (f.toInt64 * k.toInt64)) (4625196817309499392 : UInt64))), .second] [(.ref mo)])) rfl rfl (hb hby d4_21)
  refine own_up st1 ?_
  show own_Go p.tables e below _ (T1.setTop (mkF m 24 #[.val (.ref mo), .val (.int i), .val (.int n), .val (.int f), .val (.int k), .val (.double (FP.ddiv (FP.l2d (f.toInt64 * k.toInt64)) (4625196817309499392 : UInt64))), .second] [(.ref bf)]))
  refine own_up (fun _ kq => XS.iloadN X1.here hx rfl (hb hby d4_24) rfl kq) ?_
  show own_Go p.tables e below _ (T1.setTop (mkF m 25 #[.val (.ref mo), .val (.int i), .val (.int n), .val (.int f), .val (.int k), .val (.double (FP.ddiv (FP.l2d (f.toInt64 * k.toInt64)) (4625196817309499392 : UInt64))), .second] [(.int i), (.ref bf)]))
  refine own_up (fun _ kq => own_Arf.daload G_bf X1 hx hZ e1 hi0 hi (v := (.double x)) hfx (g := (mkF m 25 #[.val (.ref mo), .val (.int i), .val (.int n), .val (.int f), .val (.int k), .val (.double (FP.ddiv (FP.l2d (f.toInt64 * k.toInt64)) (4625196817309499392 : UInt64))), .second] [(.int i), (.ref bf)])) rfl rfl (hb hby d4_25) _ kq) ?_
  show own_Go p.tables e below _ (T1.setTop (mkF m 26 #[.val (.ref mo), .val (.int i), .val (.int n), .val (.int f), .val (.int k), .val (.double (FP.ddiv (FP.l2d (f.toInt64 * k.toInt64)) (4625196817309499392 : UInt64))), .second] [(.double x)]))
  refine own_up (fun _ kq => XS.dload X1.here hx rfl (hb hby d4_26) rfl kq) ?_
  show own_Go p.tables e below _ (T1.setTop (mkF m 28 #[.val (.ref mo), .val (.int i), .val (.int n), .val (.int f), .val (.int k), .val (.double (FP.ddiv (FP.l2d (f.toInt64 * k.toInt64)) (4625196817309499392 : UInt64))), .second] [(.double (FP.ddiv (FP.l2d (f.toInt64 * k.toInt64)) (4625196817309499392 : UInt64))), (.double x)]))
  refine own_up (fun _ kq => XS.dcmpS X1.here hx rfl (v := (cmpValue (FP.dcmp x (FP.ddiv (FP.l2d (f.toInt64 * k.toInt64)) (4625196817309499392 : UInt64))) .l)) (hb hby d4_28) rfl rfl kq) ?_
  show own_Go p.tables e below _ (T1.setTop (mkF m 29 #[.val (.ref mo), .val (.int i), .val (.int n), .val (.int f), .val (.int k), .val (.double (FP.ddiv (FP.l2d (f.toInt64 * k.toInt64)) (4625196817309499392 : UInt64))), .second] [(.int (cmpValue (FP.dcmp x (FP.ddiv (FP.l2d (f.toInt64 * k.toInt64)) (4625196817309499392 : UInt64))) .l))]))
  refine own_up (fun _ kq => XS.ifNo X1.here hx rfl (hb hby d4_29) rfl ((if0 _ _).trans (teq hcmp).2) kq) ?_
  show own_Go p.tables e below _ (T1.setTop (mkF m 32 #[.val (.ref mo), .val (.int i), .val (.int n), .val (.int f), .val (.int k), .val (.double (FP.ddiv (FP.l2d (f.toInt64 * k.toInt64)) (4625196817309499392 : UInt64))), .second] []))
  refine own_up (fun _ kq => XS.aloadN X1.here hx rfl (hb hby d4_32) rfl rfl kq) ?_
  show own_Go p.tables e below _ (T1.setTop (mkF m 33 #[.val (.ref mo), .val (.int i), .val (.int n), .val (.int f), .val (.int k), .val (.double (FP.ddiv (FP.l2d (f.toInt64 * k.toInt64)) (4625196817309499392 : UInt64))), .second] [(.ref mo)]))
  obtain ⟨T2, X2, e2, st2⟩ := getF X1 hx hZ hown (host := "") (Or.inl (hw _ (List.mem_of_getElem? (i := 38) rfl))) Via.refl e1 Fbl (g := (mkF m 33 #[.val (.ref mo), .val (.int i), .val (.int n), .val (.int f), .val (.int k), .val (.double (FP.ddiv (FP.l2d (f.toInt64 * k.toInt64)) (4625196817309499392 : UInt64))), .second] [(.ref mo)])) rfl rfl (hb hby d4_33)
  refine own_up st2 ?_
  show own_Go p.tables e below _ (T2.setTop (mkF m 36 #[.val (.ref mo), .val (.int i), .val (.int n), .val (.int f), .val (.int k), .val (.double (FP.ddiv (FP.l2d (f.toInt64 * k.toInt64)) (4625196817309499392 : UInt64))), .second] [(.ref bl)]))
  refine own_up (fun _ kq => XS.iloadN X2.here hx rfl (hb hby d4_36) rfl kq) ?_
  show own_Go p.tables e below _ (T2.setTop (mkF m 37 #[.val (.ref mo), .val (.int i), .val (.int n), .val (.int f), .val (.int k), .val (.double (FP.ddiv (FP.l2d (f.toInt64 * k.toInt64)) (4625196817309499392 : UInt64))), .second] [(.int i), (.ref bl)]))
  refine own_up (fun _ kq => own_Arf.daload G_bl X2 hx hZ e2 hi0 hi (v := (.double (0 : UInt64))) hlx (g := (mkF m 37 #[.val (.ref mo), .val (.int i), .val (.int n), .val (.int f), .val (.int k), .val (.double (FP.ddiv (FP.l2d (f.toInt64 * k.toInt64)) (4625196817309499392 : UInt64))), .second] [(.int i), (.ref bl)])) rfl rfl (hb hby d4_37) _ kq) ?_
  show own_Go p.tables e below _ (T2.setTop (mkF m 38 #[.val (.ref mo), .val (.int i), .val (.int n), .val (.int f), .val (.int k), .val (.double (FP.ddiv (FP.l2d (f.toInt64 * k.toInt64)) (4625196817309499392 : UInt64))), .second] [(.double (0 : UInt64))]))
  refine own_up (fun _ kq => XS.dconst0 X2.here hx rfl (v := (0 : UInt64)) (hb hby d4_38) rfl kq) ?_
  show own_Go p.tables e below _ (T2.setTop (mkF m 39 #[.val (.ref mo), .val (.int i), .val (.int n), .val (.int f), .val (.int k), .val (.double (FP.ddiv (FP.l2d (f.toInt64 * k.toInt64)) (4625196817309499392 : UInt64))), .second] [(.double (0 : UInt64)), (.double (0 : UInt64))]))
  refine own_up (fun _ kq => XS.dcmpS X2.here hx rfl (v := (cmpValue (FP.dcmp (0 : UInt64) (0 : UInt64)) .l)) (hb hby d4_39) rfl rfl kq) ?_
  show own_Go p.tables e below _ (T2.setTop (mkF m 40 #[.val (.ref mo), .val (.int i), .val (.int n), .val (.int f), .val (.int k), .val (.double (FP.ddiv (FP.l2d (f.toInt64 * k.toInt64)) (4625196817309499392 : UInt64))), .second] [(.int (cmpValue (FP.dcmp (0 : UInt64) (0 : UInt64)) .l))]))
  refine own_up (fun _ kq => XS.ifNo X2.here hx rfl (hb hby d4_40) rfl ((if0 _ _).trans (teq own_z0).2) kq) ?_
  show own_Go p.tables e below _ (T2.setTop (mkF m 43 #[.val (.ref mo), .val (.int i), .val (.int n), .val (.int f), .val (.int k), .val (.double (FP.ddiv (FP.l2d (f.toInt64 * k.toInt64)) (4625196817309499392 : UInt64))), .second] []))
  refine own_up (fun _ kq => XS.aloadN X2.here hx rfl (hb hby d4_43) rfl rfl kq) ?_
  show own_Go p.tables e below _ (T2.setTop (mkF m 44 #[.val (.ref mo), .val (.int i), .val (.int n), .val (.int f), .val (.int k), .val (.double (FP.ddiv (FP.l2d (f.toInt64 * k.toInt64)) (4625196817309499392 : UInt64))), .second] [(.ref mo)]))
  obtain ⟨T3, X3, e3, st3⟩ := getF X2 hx hZ hown (host := "") (Or.inl (hw _ (List.mem_of_getElem? (i := 39) rfl))) Via.refl e2 Fbg (g := (mkF m 44 #[.val (.ref mo), .val (.int i), .val (.int n), .val (.int f), .val (.int k), .val (.double (FP.ddiv (FP.l2d (f.toInt64 * k.toInt64)) (4625196817309499392 : UInt64))), .second] [(.ref mo)])) rfl rfl (hb hby d4_44)
  refine own_up st3 ?_
  show own_Go p.tables e below _ (T3.setTop (mkF m 47 #[.val (.ref mo), .val (.int i), .val (.int n), .val (.int f), .val (.int k), .val (.double (FP.ddiv (FP.l2d (f.toInt64 * k.toInt64)) (4625196817309499392 : UInt64))), .second] [(.ref bg)]))
  refine own_up (fun _ kq => XS.iloadN X3.here hx rfl (hb hby d4_47) rfl kq) ?_
  show own_Go p.tables e below _ (T3.setTop (mkF m 48 #[.val (.ref mo), .val (.int i), .val (.int n), .val (.int f), .val (.int k), .val (.double (FP.ddiv (FP.l2d (f.toInt64 * k.toInt64)) (4625196817309499392 : UInt64))), .second] [(.int i), (.ref bg)]))
  refine own_up (fun _ kq => own_Arf.daload G_bg X3 hx hZ e3 hi0 hi (v := (.double (0 : UInt64))) hgx (g := (mkF m 48 #[.val (.ref mo), .val (.int i), .val (.int n), .val (.int f), .val (.int k), .val (.double (FP.ddiv (FP.l2d (f.toInt64 * k.toInt64)) (4625196817309499392 : UInt64))), .second] [(.int i), (.ref bg)])) rfl rfl (hb hby d4_48) _ kq) ?_
  show own_Go p.tables e below _ (T3.setTop (mkF m 49 #[.val (.ref mo), .val (.int i), .val (.int n), .val (.int f), .val (.int k), .val (.double (FP.ddiv (FP.l2d (f.toInt64 * k.toInt64)) (4625196817309499392 : UInt64))), .second] [(.double (0 : UInt64))]))
  refine own_up (fun _ kq => XS.dconst0 X3.here hx rfl (v := (0 : UInt64)) (hb hby d4_49) rfl kq) ?_
  show own_Go p.tables e below _ (T3.setTop (mkF m 50 #[.val (.ref mo), .val (.int i), .val (.int n), .val (.int f), .val (.int k), .val (.double (FP.ddiv (FP.l2d (f.toInt64 * k.toInt64)) (4625196817309499392 : UInt64))), .second] [(.double (0 : UInt64)), (.double (0 : UInt64))]))
  refine own_up (fun _ kq => XS.dcmpS X3.here hx rfl (v := (cmpValue (FP.dcmp (0 : UInt64) (0 : UInt64)) .l)) (hb hby d4_50) rfl rfl kq) ?_
  show own_Go p.tables e below _ (T3.setTop (mkF m 51 #[.val (.ref mo), .val (.int i), .val (.int n), .val (.int f), .val (.int k), .val (.double (FP.ddiv (FP.l2d (f.toInt64 * k.toInt64)) (4625196817309499392 : UInt64))), .second] [(.int (cmpValue (FP.dcmp (0 : UInt64) (0 : UInt64)) .l))]))
  refine own_up (fun _ kq => XS.ifNo X3.here hx rfl (hb hby d4_51) rfl ((if0 _ _).trans (teq own_z0).2) kq) ?_
  show own_Go p.tables e below _ (T3.setTop (mkF m 54 #[.val (.ref mo), .val (.int i), .val (.int n), .val (.int f), .val (.int k), .val (.double (FP.ddiv (FP.l2d (f.toInt64 * k.toInt64)) (4625196817309499392 : UInt64))), .second] []))
  refine own_up (fun _ kq => XS.aloadN X3.here hx rfl (hb hby d4_54) rfl rfl kq) ?_
  show own_Go p.tables e below _ (T3.setTop (mkF m 55 #[.val (.ref mo), .val (.int i), .val (.int n), .val (.int f), .val (.int k), .val (.double (FP.ddiv (FP.l2d (f.toInt64 * k.toInt64)) (4625196817309499392 : UInt64))), .second] [(.ref mo)]))
  obtain ⟨T4, X4, e4, st4⟩ := getF X3 hx hZ hown (host := "") (Or.inl (hw _ (List.mem_of_getElem? (i := 40) rfl))) Via.refl e3 Fbn (g := (mkF m 55 #[.val (.ref mo), .val (.int i), .val (.int n), .val (.int f), .val (.int k), .val (.double (FP.ddiv (FP.l2d (f.toInt64 * k.toInt64)) (4625196817309499392 : UInt64))), .second] [(.ref mo)])) rfl rfl (hb hby d4_55)
  refine own_up st4 ?_
  show own_Go p.tables e below _ (T4.setTop (mkF m 58 #[.val (.ref mo), .val (.int i), .val (.int n), .val (.int f), .val (.int k), .val (.double (FP.ddiv (FP.l2d (f.toInt64 * k.toInt64)) (4625196817309499392 : UInt64))), .second] [(.ref bn)]))
  refine own_up (fun _ kq => XS.iloadN X4.here hx rfl (hb hby d4_58) rfl kq) ?_
  show own_Go p.tables e below _ (T4.setTop (mkF m 59 #[.val (.ref mo), .val (.int i), .val (.int n), .val (.int f), .val (.int k), .val (.double (FP.ddiv (FP.l2d (f.toInt64 * k.toInt64)) (4625196817309499392 : UInt64))), .second] [(.int i), (.ref bn)]))
  refine own_up (fun _ kq => own_Arf.aaload G_bn rfl X4 hx hZ e4 hi0 hi (v := .null) hnx (g := (mkF m 59 #[.val (.ref mo), .val (.int i), .val (.int n), .val (.int f), .val (.int k), .val (.double (FP.ddiv (FP.l2d (f.toInt64 * k.toInt64)) (4625196817309499392 : UInt64))), .second] [(.int i), (.ref bn)])) rfl rfl (hb hby d4_59) _ kq) ?_
  show own_Go p.tables e below _ (T4.setTop (mkF m 60 #[.val (.ref mo), .val (.int i), .val (.int n), .val (.int f), .val (.int k), .val (.double (FP.ddiv (FP.l2d (f.toInt64 * k.toInt64)) (4625196817309499392 : UInt64))), .second] [.null]))
  refine own_up (fun _ kq => XS.ifnonnullNo X4.here hx rfl (hb hby d4_60) rfl kq) ?_
  show own_Go p.tables e below _ (T4.setTop (mkF m 63 #[.val (.ref mo), .val (.int i), .val (.int n), .val (.int f), .val (.int k), .val (.double (FP.ddiv (FP.l2d (f.toInt64 * k.toInt64)) (4625196817309499392 : UInt64))), .second] []))
  refine own_up (fun _ kq => XS.iconst X4.here hx rfl (hb hby d4_63) kq) ?_
  show own_Go p.tables e below _ (T4.setTop (mkF m 64 #[.val (.ref mo), .val (.int i), .val (.int n), .val (.int f), .val (.int k), .val (.double (FP.ddiv (FP.l2d (f.toInt64 * k.toInt64)) (4625196817309499392 : UInt64))), .second] [(.int (1 : Int32))]))
  refine own_up (fun _ kq => XS.goto X4.here hx rfl (pc0 := 64) (pc' := 68) rfl (hb hby d4_64) (by decide) (by decide) kq) ?_
  show own_Go p.tables e below _ (T4.setTop (mkF m 68 #[.val (.ref mo), .val (.int i), .val (.int n), .val (.int f), .val (.int k), .val (.double (FP.ddiv (FP.l2d (f.toInt64 * k.toInt64)) (4625196817309499392 : UInt64))), .second] [(.int (1 : Int32))]))
  obtain ⟨fs5, hr5, hrun5, hended5, hW5, hsame5⟩ := X4.leave (v := some (.int (1 : Int32))) (fun h => by rw [Bd.returns] at h; cases h)
  refine own_end ⟨_, _, ?_, hrun5, hended5, _, _, rfl, ?_, ⟨_, rfl⟩, hW5, hsame5.mono (by decide) (by decide)⟩
  · exact retN X4 hx (t := .boolean) Bd.returns (by simp) (hb hby d4_68) hr5
  · show QrmI Z mo i n f k bn bf bl bg x un uf ul ug h0 n0 _ T4.heap _
    rw [e4]
    exact ⟨rfl, N0, rfl⟩
theorem pd_0 : parseMethodDescriptor "(I)V" = some ⟨[.int], none⟩ := by decide +kernel
theorem pd_1 : parseMethodDescriptor "(D)V" = some ⟨[.double], none⟩ := by decide +kernel
theorem pd_2 : parseMethodDescriptor "(Lcom/example/parley/parley/algorithms/Dgls$Modifiers;IIII)Z" = some ⟨[(.object "com/example/parley/parley/algorithms/Dgls$Modifiers"), .int, .int, .int, .int], some .boolean⟩ := by decide +kernel
theorem ef_rm0 (m : MethodId) (x0 : Int32) (x1 : Int32) (x2 : Int32) (x3 : Int32) (x4 : Int32) : entryFrame m #[(.int x0), (.int x1), (.int x2), (.int x3), (.int x4)] maxLocals = mkF m 0 #[.val (.int x0), .val (.int x1), .val (.int x2), .val (.int x3), .val (.int x4), .unset, .unset, .unset, .unset, .unset] [] := by first | (simp [entryFrame, mkF, argsToLocals, Value.category, maxLocals]; done) | rfl
def Qrm0 (Z : State) (p0 : Int32) (p1 : Int32) (p2 : Int32) (p3 : Int32) (p4 : Int32) (h0 : Heap) (n0 : Nat) (v : Option Value) (h : Heap) (L : List Loc) : Prop := v = some (.int 1) ∧ Fr n0 L
set_option maxRecDepth 65536 in
set_option maxHeartbeats 40000000 in
theorem rm0 (l : Launch) (Z : State) (a0 : Array Value) (hw : ∀ d ∈ tables_1, d.before a0 Z = true) (ws : List Jvm.Cond) (p0 : Int32) (p1 : Int32) (p2 : Int32) (p3 : Int32) (p4 : Int32) (h0 : Heap) (n0 : Nat) (Z0 : n0 ≤ h0.size) :
    MetFree l x (head1 (Jvm.Cond.code x code maxLocals ret :: ws) room_1) (fun aq Uq => aq = #[(.int p0), (.int p1), (.int p2), (.int p3), (.int p4)] ∧ Z.Warmed39 Uq.vm ∧ Uq.heap = h0) (fun _ _ _ _ _ => True) (fun _ Uq oq Uq' => ∃ vq Lq, oq = .returned vq ∧ Qrm0 Z p0 p1 p2 p3 p4 h0 n0 vq Uq'.heap Lq ∧ FrameEnd Uq oq Uq' Lq 24 128) := by
  refine MetFree.of_bodySF (plainFor_of_name pn_1) hisR ?_
  intro p e s m args below meth c s₁ Bd hml0 hP hK
  obtain ⟨rfl, hZ, hh⟩ := hP
  have hx := Bd.exec
  have hby := Bd.bytes
  have hml : c.maxLocals = 10 := hml0
  have hown : s.vm.findClass "com/example/parley/parley/algorithms/ModifiersShrinkPinLaw" = some m.cls := findClass_of_methodNamed Bd.named
  have hnm := (name_of_methodNamed Bd.named Bd.method).1
  have X0 : Stand p l e room_1 s m #[(.int p0), (.int p1), (.int p2), (.int p3), (.int p4)] below meth c s₁ [] 0 0 := Stand.of_body Bd
  have e0 : s₁.heap = h0 := by rw [← hh, Bd.state]; rfl
  have N0 := Fr.nil n0
  have ZH := Z0
  have KK := Keep.refl h0 []
  refine own_start (fun t kq => castTop (ef_rm0 m p0 p1 p2 p3 p4) kq) ?_
  show own_Go p.tables e below _ (s₁.setTop (mkF m 0 #[.val (.int p0), .val (.int p1), .val (.int p2), .val (.int p3), .val (.int p4), .unset, .unset, .unset, .unset, .unset] []))
  refine own_up (fun _ kq => XS.iloadN X0.here hx rfl (hb hby at_0) rfl kq) ?_
  show own_Go p.tables e below _ (s₁.setTop (mkF m 1 #[.val (.int p0), .val (.int p1), .val (.int p2), .val (.int p3), .val (.int p4), .unset, .unset, .unset, .unset, .unset] [(.int p0)]))
  refine own_up (fun _ kq => XS.iconst X0.here hx rfl (hb hby at_1) kq) ?_
  show own_Go p.tables e below _ (s₁.setTop (mkF m 2 #[.val (.int p0), .val (.int p1), .val (.int p2), .val (.int p3), .val (.int p4), .unset, .unset, .unset, .unset, .unset] [(.int (3 : Int32)), (.int p0)]))
  refine own_up (fun _ kq => XS.iand X0.here hx rfl (hb hby at_2) rfl kq) ?_
  show own_Go p.tables e below _ (s₁.setTop (mkF m 3 #[.val (.int p0), .val (.int p1), .val (.int p2), .val (.int p3), .val (.int p4), .unset, .unset, .unset, .unset, .unset] [(.int (p0 &&& (3 : Int32)))]))
  generalize hn : (p0 &&& (3 : Int32)) = n
  show own_Go p.tables e below _ (s₁.setTop (mkF m 3 #[.val (.int p0), .val (.int p1), .val (.int p2), .val (.int p3), .val (.int p4), .unset, .unset, .unset, .unset, .unset] [(.int n)]))
  refine own_up (fun _ kq => XS.istore X0.here hx rfl (hb hby at_3) rfl (l' := #[.val (.int p0), .val (.int p1), .val (.int p2), .val (.int p3), .val (.int p4), .val (.int n), .unset, .unset, .unset, .unset]) rfl kq) ?_
  show own_Go p.tables e below _ (s₁.setTop (mkF m 5 #[.val (.int p0), .val (.int p1), .val (.int p2), .val (.int p3), .val (.int p4), .val (.int n), .unset, .unset, .unset, .unset] []))
  refine own_up (fun _ kq => XS.iload X0.here hx rfl (hb hby at_5) rfl kq) ?_
  show own_Go p.tables e below _ (s₁.setTop (mkF m 7 #[.val (.int p0), .val (.int p1), .val (.int p2), .val (.int p3), .val (.int p4), .val (.int n), .unset, .unset, .unset, .unset] [(.int p4)]))
  refine own_up (fun _ kq => XS.bipush X0.here hx rfl (hb hby at_7) kq) ?_
  show own_Go p.tables e below _ (s₁.setTop (mkF m 9 #[.val (.int p0), .val (.int p1), .val (.int p2), .val (.int p3), .val (.int p4), .val (.int n), .unset, .unset, .unset, .unset] [(.int (15 : Int32)), (.int p4)]))
  refine own_up (fun _ kq => XS.iand X0.here hx rfl (hb hby at_9) rfl kq) ?_
  show own_Go p.tables e below _ (s₁.setTop (mkF m 10 #[.val (.int p0), .val (.int p1), .val (.int p2), .val (.int p3), .val (.int p4), .val (.int n), .unset, .unset, .unset, .unset] [(.int (p4 &&& (15 : Int32)))]))
  refine own_up (fun _ kq => XS.iconst X0.here hx rfl (hb hby at_10) kq) ?_
  show own_Go p.tables e below _ (s₁.setTop (mkF m 11 #[.val (.int p0), .val (.int p1), .val (.int p2), .val (.int p3), .val (.int p4), .val (.int n), .unset, .unset, .unset, .unset] [(.int (1 : Int32)), (.int (p4 &&& (15 : Int32)))]))
  refine own_up (fun _ kq => XS.iadd X0.here hx rfl (hb hby at_11) rfl kq) ?_
  show own_Go p.tables e below _ (s₁.setTop (mkF m 12 #[.val (.int p0), .val (.int p1), .val (.int p2), .val (.int p3), .val (.int p4), .val (.int n), .unset, .unset, .unset, .unset] [(.int ((p4 &&& (15 : Int32)) + (1 : Int32)))]))
  generalize hk : ((p4 &&& (15 : Int32)) + (1 : Int32)) = k
  show own_Go p.tables e below _ (s₁.setTop (mkF m 12 #[.val (.int p0), .val (.int p1), .val (.int p2), .val (.int p3), .val (.int p4), .val (.int n), .unset, .unset, .unset, .unset] [(.int k)]))
  refine own_up (fun _ kq => XS.istore X0.here hx rfl (hb hby at_12) rfl (l' := #[.val (.int p0), .val (.int p1), .val (.int p2), .val (.int p3), .val (.int p4), .val (.int n), .val (.int k), .unset, .unset, .unset]) rfl kq) ?_
  show own_Go p.tables e below _ (s₁.setTop (mkF m 14 #[.val (.int p0), .val (.int p1), .val (.int p2), .val (.int p3), .val (.int p4), .val (.int n), .val (.int k), .unset, .unset, .unset] []))
  have hk' := own_k hk
  refine own_up (fun _ kq => XS.iload X0.here hx rfl (hb hby at_14) rfl kq) ?_
  show own_Go p.tables e below _ (s₁.setTop (mkF m 16 #[.val (.int p0), .val (.int p1), .val (.int p2), .val (.int p3), .val (.int p4), .val (.int n), .val (.int k), .unset, .unset, .unset] [(.int k)]))
  refine own_up (fun _ kq => XS.i2dS X0.here hx rfl (v := (FP.i2d k)) (hb hby at_16) rfl rfl kq) ?_
  show own_Go p.tables e below _ (s₁.setTop (mkF m 17 #[.val (.int p0), .val (.int p1), .val (.int p2), .val (.int p3), .val (.int p4), .val (.int n), .val (.int k), .unset, .unset, .unset] [(.double (FP.i2d k))]))
  refine own_up (fun _ kq => X0.ldc2DoubleC hx hown (mvT hZ (hw _ (List.mem_of_getElem? (i := 0) rfl))) (g := (mkF m 17 #[.val (.int p0), .val (.int p1), .val (.int p2), .val (.int p3), .val (.int p4), .val (.int n), .val (.int k), .unset, .unset, .unset] [(.double (FP.i2d k))])) rfl (hb hby at_17) _ kq) ?_
  show own_Go p.tables e below _ (s₁.setTop (mkF m 20 #[.val (.int p0), .val (.int p1), .val (.int p2), .val (.int p3), .val (.int p4), .val (.int n), .val (.int k), .unset, .unset, .unset] [(.double (4625196817309499392 : UInt64)), (.double (FP.i2d k))]))
  refine own_up (fun _ kq => XS.ddivS X0.here hx rfl (v := (FP.ddiv (FP.i2d k) (4625196817309499392 : UInt64))) (hb hby at_20) rfl (own_decnn hk') rfl kq) ?_
  show own_Go p.tables e below _ (s₁.setTop (mkF m 21 #[.val (.int p0), .val (.int p1), .val (.int p2), .val (.int p3), .val (.int p4), .val (.int n), .val (.int k), .unset, .unset, .unset] [(.double (FP.ddiv (FP.i2d k) (4625196817309499392 : UInt64)))]))
  refine own_up (fun _ kq => XS.dstore X0.here hx rfl (hb hby at_21) rfl (l' := #[.val (.int p0), .val (.int p1), .val (.int p2), .val (.int p3), .val (.int p4), .val (.int n), .val (.int k), .val (.double (FP.ddiv (FP.i2d k) (4625196817309499392 : UInt64))), .second, .unset]) rfl kq) ?_
  show own_Go p.tables e below _ (s₁.setTop (mkF m 23 #[.val (.int p0), .val (.int p1), .val (.int p2), .val (.int p3), .val (.int p4), .val (.int n), .val (.int k), .val (.double (FP.ddiv (FP.i2d k) (4625196817309499392 : UInt64))), .second, .unset] []))
  rcases own_n hn with rfl | rfl | rfl | rfl
  · show own_Go p.tables e below _ (s₁.setTop (mkF m 23 #[.val (.int p0), .val (.int p1), .val (.int p2), .val (.int p3), .val (.int p4), .val (.int (0 : Int32)), .val (.int k), .val (.double (FP.ddiv (FP.i2d k) (4625196817309499392 : UInt64))), .second, .unset] []))
    obtain ⟨T1, h1, X1, e1, E1, A1, D1, -, st1⟩ := newO X0 hx hZ hown (hw _ (List.mem_of_getElem? (i := 1) rfl)) (hw _ (List.mem_of_getElem? (i := 2) rfl)) (hw _ (List.mem_of_getElem? (i := 3) rfl)) e0 (g := (mkF m 23 #[.val (.int p0), .val (.int p1), .val (.int p2), .val (.int p3), .val (.int p4), .val (.int (0 : Int32)), .val (.int k), .val (.double (FP.ddiv (FP.i2d k) (4625196817309499392 : UInt64))), .second, .unset] [])) rfl (hb hby at_23) (by decide) (by decide)
    obtain ⟨b1, gz1⟩ : ∃ z, z = h0.size := ⟨_, rfl⟩
    rw [← gz1] at A1 D1 st1
    have g_b1 : n0 ≤ b1 := Nat.le_trans ZH (Nat.le_of_eq gz1.symm)
    have sz_b1 : h0.size ≤ b1 := Nat.le_trans KK.1 (Nat.le_of_eq gz1.symm)
    have ZH := Nat.le_trans ZH E1.1
    have KK := KK.ext E1
    have E_b1 := A1
    have F_numbers_b1 : Fld Z h1 b1 "com/example/parley/parley/algorithms/Dgls$Modifiers" "numbers" "[[D" .null := D1 (Or.inr (hw _ (List.mem_of_getElem? (i := 13) rfl))) (ty := (.array (.array .double))) (by decide)
    have F_factors_b1 : Fld Z h1 b1 "com/example/parley/parley/algorithms/Dgls$Modifiers" "factors" "[D" .null := D1 (Or.inr (hw _ (List.mem_of_getElem? (i := 16) rfl))) (ty := (.array .double)) (by decide)
    have F_least_b1 : Fld Z h1 b1 "com/example/parley/parley/algorithms/Dgls$Modifiers" "least" "[D" .null := D1 (Or.inr (hw _ (List.mem_of_getElem? (i := 18) rfl))) (ty := (.array .double)) (by decide)
    have F_greatest_b1 : Fld Z h1 b1 "com/example/parley/parley/algorithms/Dgls$Modifiers" "greatest" "[D" .null := D1 (Or.inr (hw _ (List.mem_of_getElem? (i := 20) rfl))) (ty := (.array .double)) (by decide)
    have F_sums_b1 : Fld Z h1 b1 "com/example/parley/parley/algorithms/Dgls$Modifiers" "sums" "[D" .null := D1 (Or.inr (hw _ (List.mem_of_getElem? (i := 22) rfl))) (ty := (.array .double)) (by decide)
    have F_maxima_b1 : Fld Z h1 b1 "com/example/parley/parley/algorithms/Dgls$Modifiers" "maxima" "[D" .null := D1 (Or.inr (hw _ (List.mem_of_getElem? (i := 24) rfl))) (ty := (.array .double)) (by decide)
    have F_entries_b1 : Fld Z h1 b1 "com/example/parley/parley/algorithms/Dgls$Modifiers" "entries" "[J" .null := D1 (Or.inr (hw _ (List.mem_of_getElem? (i := 27) rfl))) (ty := (.array .long)) (by decide)
    refine own_up st1 ?_
    show own_Go p.tables e below _ (T1.setTop (mkF m 26 #[.val (.int p0), .val (.int p1), .val (.int p2), .val (.int p3), .val (.int p4), .val (.int (0 : Int32)), .val (.int k), .val (.double (FP.ddiv (FP.i2d k) (4625196817309499392 : UInt64))), .second, .unset] [(.ref b1)]))
    refine own_up (fun _ kq => XS.dup X1.here hx rfl (hb hby at_26) rfl rfl kq) ?_
    show own_Go p.tables e below _ (T1.setTop (mkF m 27 #[.val (.int p0), .val (.int p1), .val (.int p2), .val (.int p3), .val (.int p4), .val (.int (0 : Int32)), .val (.int k), .val (.double (FP.ddiv (FP.i2d k) (4625196817309499392 : UInt64))), .second, .unset] [(.ref b1), (.ref b1)]))
    refine own_up (fun _ kq => XS.iload X1.here hx rfl (hb hby at_27) rfl kq) ?_
    show own_Go p.tables e below _ (T1.setTop (mkF m 29 #[.val (.int p0), .val (.int p1), .val (.int p2), .val (.int p3), .val (.int p4), .val (.int (0 : Int32)), .val (.int k), .val (.double (FP.ddiv (FP.i2d k) (4625196817309499392 : UInt64))), .second, .unset] [(.int (0 : Int32)), (.ref b1), (.ref b1)]))
    obtain ⟨_, _, ⟨T2, L2, k2, n2⟩, -, X2, ⟨Lc2, hQ2, l2, y2, z2⟩, st2⟩ := X1.specialBack hx (y := (⟨"com/example/parley/parley/algorithms/Dgls$Modifiers", "<init>", "(I)V"⟩ : MethodName)) rfl hown (mvT hZ (hw _ (List.mem_of_getElem? (i := 4) rfl))) (mvT hZ (hw _ (List.mem_of_getElem? (i := 5) rfl))) (mvT hZ (hw _ (List.mem_of_getElem? (i := 6) rfl))) (by decide) (backOf (W := 1) (rmC0 l Z a0 hw [] b1 h1 n0 ZH E_b1 F_numbers_b1 F_factors_b1 F_least_b1 F_greatest_b1 F_sums_b1 F_maxima_b1 F_entries_b1 g_b1) hZ (hw _ (List.mem_of_getElem? (i := 6) rfl)) (hw _ (List.mem_of_getElem? (i := 3) rfl)) (by decide) (by decide)) (g := (mkF m 29 #[.val (.int p0), .val (.int p1), .val (.int p2), .val (.int p3), .val (.int p4), .val (.int (0 : Int32)), .val (.int k), .val (.double (FP.ddiv (FP.i2d k) (4625196817309499392 : UInt64))), .second, .unset] [(.int (0 : Int32)), (.ref b1), (.ref b1)])) rfl (by rw [hml]; rfl) (Steps.refl _) (a := b1) (argsL := [(.int (0 : Int32))]) (rest := [(.ref b1)]) (lenOf pd_0 rfl) rfl (by show 2 * 0 + _ ≤ _; exact Nat.le_of_eq rfl) (hb hby at_29) (fun _ _ => ⟨rfl, e1, (by decide : 1 + 7 ≤ _), (by decide : 7 + 0 ≤ _)⟩)
    dsimp only [Pt.U, Pt.locs, Pt.cells, Pt.slots] at X2 l2 y2 z2 st2 hQ2
    subst l2 y2 z2
    obtain ⟨rfl, Nq2, K2, bn, bf, bl, bg, kn, kf, kl, kg, szf, ne_bn_bf, ne_bl_bf, ne_bg_bf, Fbn, Fbf, Fbl, Fbg, V_bn, V_bf, V_bl, V_bg⟩ := hQ2
    have N2 := Fr.app N0 Nq2
    have E_b1 := E_b1.keep K2
    have ZH := Nat.le_trans ZH K2.1
    have KK := KK.trans K2 (allS (Or.inr sz_b1) all0)
    have g_bf : n0 ≤ bf := Nat.le_trans g_b1 (Nat.le_of_lt (Nat.lt_of_lt_of_le A1.lt szf))
    have sz_bf : h0.size ≤ bf := Nat.le_trans sz_b1 (Nat.le_of_lt (Nat.lt_of_lt_of_le A1.lt szf))
    have ne_b1_bf : b1 ≠ bf := Nat.ne_of_lt (Nat.lt_of_lt_of_le A1.lt szf)
    refine own_up (fun _ kq => st2.trans kq) ?_
    show own_Go p.tables e below _ (T2.setTop (mkF m 32 #[.val (.int p0), .val (.int p1), .val (.int p2), .val (.int p3), .val (.int p4), .val (.int (0 : Int32)), .val (.int k), .val (.double (FP.ddiv (FP.i2d k) (4625196817309499392 : UInt64))), .second, .unset] [(.ref b1)]))
    refine own_up (fun _ kq => XS.astore X2.here hx rfl (hb hby at_32) rfl rfl (l' := #[.val (.int p0), .val (.int p1), .val (.int p2), .val (.int p3), .val (.int p4), .val (.int (0 : Int32)), .val (.int k), .val (.double (FP.ddiv (FP.i2d k) (4625196817309499392 : UInt64))), .second, .val (.ref b1)]) rfl kq) ?_
    show own_Go p.tables e below _ (T2.setTop (mkF m 34 #[.val (.int p0), .val (.int p1), .val (.int p2), .val (.int p3), .val (.int p4), .val (.int (0 : Int32)), .val (.int k), .val (.double (FP.ddiv (FP.i2d k) (4625196817309499392 : UInt64))), .second, .val (.ref b1)] []))
    refine own_up (fun _ kq => XS.iload X2.here hx rfl (hb hby at_34) rfl kq) ?_
    show own_Go p.tables e below _ (T2.setTop (mkF m 36 #[.val (.int p0), .val (.int p1), .val (.int p2), .val (.int p3), .val (.int p4), .val (.int (0 : Int32)), .val (.int k), .val (.double (FP.ddiv (FP.i2d k) (4625196817309499392 : UInt64))), .second, .val (.ref b1)] [(.int (0 : Int32))]))
    refine own_up (fun _ kq => XS.ifYes X2.here hx rfl (pc0 := 36) (pc' := 48) rfl (hb hby at_36) rfl ((if0 _ _).trans (flt (by decide : ¬ ((0 : Int32) < (0 : Int32)))).2.2.2) (by decide) (by decide) kq) ?_
    show own_Go p.tables e below _ (T2.setTop (mkF m 48 #[.val (.int p0), .val (.int p1), .val (.int p2), .val (.int p3), .val (.int p4), .val (.int (0 : Int32)), .val (.int k), .val (.double (FP.ddiv (FP.i2d k) (4625196817309499392 : UInt64))), .second, .val (.ref b1)] []))
    refine own_up (fun _ kq => XS.iload X2.here hx rfl (hb hby at_48) rfl kq) ?_
    show own_Go p.tables e below _ (T2.setTop (mkF m 50 #[.val (.int p0), .val (.int p1), .val (.int p2), .val (.int p3), .val (.int p4), .val (.int (0 : Int32)), .val (.int k), .val (.double (FP.ddiv (FP.i2d k) (4625196817309499392 : UInt64))), .second, .val (.ref b1)] [(.int (0 : Int32))]))
    refine own_up (fun _ kq => XS.iconst X2.here hx rfl (hb hby at_50) kq) ?_
    show own_Go p.tables e below _ (T2.setTop (mkF m 51 #[.val (.int p0), .val (.int p1), .val (.int p2), .val (.int p3), .val (.int p4), .val (.int (0 : Int32)), .val (.int k), .val (.double (FP.ddiv (FP.i2d k) (4625196817309499392 : UInt64))), .second, .val (.ref b1)] [(.int (1 : Int32)), (.int (0 : Int32))]))
    refine own_up (fun _ kq => XS.icmpYes X2.here hx rfl (pc0 := 51) (pc' := 63) rfl (hb hby at_51) rfl (flt (by decide : ¬ ((1 : Int32) < (0 : Int32)))).2.2.2 (by decide) (by decide) kq) ?_
    show own_Go p.tables e below _ (T2.setTop (mkF m 63 #[.val (.int p0), .val (.int p1), .val (.int p2), .val (.int p3), .val (.int p4), .val (.int (0 : Int32)), .val (.int k), .val (.double (FP.ddiv (FP.i2d k) (4625196817309499392 : UInt64))), .second, .val (.ref b1)] []))
    refine own_up (fun _ kq => XS.iload X2.here hx rfl (hb hby at_63) rfl kq) ?_
    show own_Go p.tables e below _ (T2.setTop (mkF m 65 #[.val (.int p0), .val (.int p1), .val (.int p2), .val (.int p3), .val (.int p4), .val (.int (0 : Int32)), .val (.int k), .val (.double (FP.ddiv (FP.i2d k) (4625196817309499392 : UInt64))), .second, .val (.ref b1)] [(.int (0 : Int32))]))
    refine own_up (fun _ kq => XS.iconst X2.here hx rfl (hb hby at_65) kq) ?_
    show own_Go p.tables e below _ (T2.setTop (mkF m 66 #[.val (.int p0), .val (.int p1), .val (.int p2), .val (.int p3), .val (.int p4), .val (.int (0 : Int32)), .val (.int k), .val (.double (FP.ddiv (FP.i2d k) (4625196817309499392 : UInt64))), .second, .val (.ref b1)] [(.int (2 : Int32)), (.int (0 : Int32))]))
    refine own_up (fun _ kq => XS.icmpYes X2.here hx rfl (pc0 := 66) (pc' := 78) rfl (hb hby at_66) rfl (flt (by decide : ¬ ((2 : Int32) < (0 : Int32)))).2.2.2 (by decide) (by decide) kq) ?_
    show own_Go p.tables e below _ (T2.setTop (mkF m 78 #[.val (.int p0), .val (.int p1), .val (.int p2), .val (.int p3), .val (.int p4), .val (.int (0 : Int32)), .val (.int k), .val (.double (FP.ddiv (FP.i2d k) (4625196817309499392 : UInt64))), .second, .val (.ref b1)] []))
    refine own_up (fun _ kq => XS.aload X2.here hx rfl (hb hby at_78) rfl rfl kq) ?_
    show own_Go p.tables e below _ (T2.setTop (mkF m 80 #[.val (.int p0), .val (.int p1), .val (.int p2), .val (.int p3), .val (.int p4), .val (.int (0 : Int32)), .val (.int k), .val (.double (FP.ddiv (FP.i2d k) (4625196817309499392 : UInt64))), .second, .val (.ref b1)] [(.ref b1)]))
    refine own_up (fun _ kq => XS.dload X2.here hx rfl (hb hby at_80) rfl kq) ?_
    show own_Go p.tables e below _ (T2.setTop (mkF m 82 #[.val (.int p0), .val (.int p1), .val (.int p2), .val (.int p3), .val (.int p4), .val (.int (0 : Int32)), .val (.int k), .val (.double (FP.ddiv (FP.i2d k) (4625196817309499392 : UInt64))), .second, .val (.ref b1)] [(.double (FP.ddiv (FP.i2d k) (4625196817309499392 : UInt64))), (.ref b1)]))
    obtain ⟨cq3, kq3, q3a, q3b, q3c⟩ := isOf hZ rfl E_b1
    obtain ⟨_, _, ⟨T3, L3, k3, n3⟩, -, X3, ⟨Lc3, hQ3, l3, y3, z3⟩, st3⟩ := X2.virtualBack hx (y := (⟨"com/example/parley/parley/algorithms/Dgls$Modifiers", "shrink", "(D)V"⟩ : MethodName)) (z := (⟨"com/example/parley/parley/algorithms/Dgls$Modifiers", "shrink", "(D)V"⟩ : MethodName)) hown (mvT hZ (hw _ (List.mem_of_getElem? (i := 28) rfl))) (mvT hZ (hw _ (List.mem_of_getElem? (i := 29) rfl))) (notFace_of_selects (args := #[]) (mvT hZ (hw _ (List.mem_of_getElem? (i := 31) rfl)))) (mvT hZ (hw _ (List.mem_of_getElem? (i := 31) rfl))) (mvT hZ (hw _ (List.mem_of_getElem? (i := 30) rfl))) (by decide) (backOf (W := 0) (rmS0 l Z a0 hw [] b1 (FP.ddiv (FP.i2d k) (4625196817309499392 : UInt64)) bf kf  T2.heap n0 ZH Fbf V_bf g_bf ne_b1_bf ) hZ (hw _ (List.mem_of_getElem? (i := 32) rfl)) (hw _ (List.mem_of_getElem? (i := 3) rfl)) (by decide) (by decide)) q3a q3c (g := (mkF m 82 #[.val (.int p0), .val (.int p1), .val (.int p2), .val (.int p3), .val (.int p4), .val (.int (0 : Int32)), .val (.int k), .val (.double (FP.ddiv (FP.i2d k) (4625196817309499392 : UInt64))), .second, .val (.ref b1)] [(.double (FP.ddiv (FP.i2d k) (4625196817309499392 : UInt64))), (.ref b1)])) rfl (by rw [hml]; rfl) (Steps.refl _) (argsL := [(.double (FP.ddiv (FP.i2d k) (4625196817309499392 : UInt64)))]) (rest := []) (lenOf pd_1 rfl) rfl (by show 2 * 0 + _ ≤ _; exact Nat.le_of_eq rfl) (hb hby at_82) (fun _ _ => ⟨rfl, rfl, (by decide : 8 + 0 ≤ _), (by decide : 7 + 0 ≤ _)⟩)
    dsimp only [Pt.U, Pt.locs, Pt.cells, Pt.slots] at X3 l3 y3 z3 st3 hQ3
    subst l3 y3 z3
    obtain ⟨rfl, Nq3, K3, V_bf'⟩ := hQ3
    have N3 := Fr.app N2 Nq3
    have E_b1 := E_b1.keep K3
    have Fbn := Fbn.keep K3 (ninS ne_b1_bf nin0)
    have V_bn := V_bn.keep K3 (ninS ne_bn_bf nin0)
    have Fbf := Fbf.keep K3 (ninS ne_b1_bf nin0)
    have Fbl := Fbl.keep K3 (ninS ne_b1_bf nin0)
    have V_bl := V_bl.keep K3 (ninS ne_bl_bf nin0)
    have Fbg := Fbg.keep K3 (ninS ne_b1_bf nin0)
    have V_bg := V_bg.keep K3 (ninS ne_bg_bf nin0)
    have ZH := Nat.le_trans ZH K3.1
    have KK := KK.trans K3 (allS (Or.inr sz_bf) all0)
    have V_bf := V_bf'
    refine own_up (fun _ kq => st3.trans kq) ?_
    show own_Go p.tables e below _ (T3.setTop (mkF m 85 #[.val (.int p0), .val (.int p1), .val (.int p2), .val (.int p3), .val (.int p4), .val (.int (0 : Int32)), .val (.int k), .val (.double (FP.ddiv (FP.i2d k) (4625196817309499392 : UInt64))), .second, .val (.ref b1)] []))
    refine own_up (fun _ kq => XS.aload X3.here hx rfl (hb hby at_85) rfl rfl kq) ?_
    show own_Go p.tables e below _ (T3.setTop (mkF m 87 #[.val (.int p0), .val (.int p1), .val (.int p2), .val (.int p3), .val (.int p4), .val (.int (0 : Int32)), .val (.int k), .val (.double (FP.ddiv (FP.i2d k) (4625196817309499392 : UInt64))), .second, .val (.ref b1)] [(.ref b1)]))
    obtain ⟨T4, X4, e4, st4⟩ := getF X3 hx hZ hown (host := "") (Or.inl (hw _ (List.mem_of_getElem? (i := 33) rfl))) Via.refl rfl Fbf (g := (mkF m 87 #[.val (.int p0), .val (.int p1), .val (.int p2), .val (.int p3), .val (.int p4), .val (.int (0 : Int32)), .val (.int k), .val (.double (FP.ddiv (FP.i2d k) (4625196817309499392 : UInt64))), .second, .val (.ref b1)] [(.ref b1)])) rfl rfl (hb hby at_87)
    refine own_up st4 ?_
    show own_Go p.tables e below _ (T4.setTop (mkF m 90 #[.val (.int p0), .val (.int p1), .val (.int p2), .val (.int p3), .val (.int p4), .val (.int (0 : Int32)), .val (.int k), .val (.double (FP.ddiv (FP.i2d k) (4625196817309499392 : UInt64))), .second, .val (.ref b1)] [(.ref bf)]))
    refine own_up (fun _ kq => own_Arf.alen (own_Arf.ofArv V_bf) X4 hx hZ e4 (g := (mkF m 90 #[.val (.int p0), .val (.int p1), .val (.int p2), .val (.int p3), .val (.int p4), .val (.int (0 : Int32)), .val (.int k), .val (.double (FP.ddiv (FP.i2d k) (4625196817309499392 : UInt64))), .second, .val (.ref b1)] [(.ref bf)])) rfl rfl (hb hby at_90) _ kq) ?_
    show own_Go p.tables e below _ (T4.setTop (mkF m 91 #[.val (.int p0), .val (.int p1), .val (.int p2), .val (.int p3), .val (.int p4), .val (.int (0 : Int32)), .val (.int k), .val (.double (FP.ddiv (FP.i2d k) (4625196817309499392 : UInt64))), .second, .val (.ref b1)] [(.int (0 : Int32))]))
    refine own_up (fun _ kq => XS.iload X4.here hx rfl (hb hby at_91) rfl kq) ?_
    show own_Go p.tables e below _ (T4.setTop (mkF m 93 #[.val (.int p0), .val (.int p1), .val (.int p2), .val (.int p3), .val (.int p4), .val (.int (0 : Int32)), .val (.int k), .val (.double (FP.ddiv (FP.i2d k) (4625196817309499392 : UInt64))), .second, .val (.ref b1)] [(.int (0 : Int32)), (.int (0 : Int32))]))
    refine own_up (fun _ kq => XS.icmpNo X4.here hx rfl (hb hby at_93) rfl (teq (by decide : (0 : Int32) = (0 : Int32))).2 kq) ?_
    show own_Go p.tables e below _ (T4.setTop (mkF m 96 #[.val (.int p0), .val (.int p1), .val (.int p2), .val (.int p3), .val (.int p4), .val (.int (0 : Int32)), .val (.int k), .val (.double (FP.ddiv (FP.i2d k) (4625196817309499392 : UInt64))), .second, .val (.ref b1)] []))
    refine own_up (fun _ kq => XS.aload X4.here hx rfl (hb hby at_96) rfl rfl kq) ?_
    show own_Go p.tables e below _ (T4.setTop (mkF m 98 #[.val (.int p0), .val (.int p1), .val (.int p2), .val (.int p3), .val (.int p4), .val (.int (0 : Int32)), .val (.int k), .val (.double (FP.ddiv (FP.i2d k) (4625196817309499392 : UInt64))), .second, .val (.ref b1)] [(.ref b1)]))
    refine own_up (fun _ kq => XS.iconst X4.here hx rfl (hb hby at_98) kq) ?_
    show own_Go p.tables e below _ (T4.setTop (mkF m 99 #[.val (.int p0), .val (.int p1), .val (.int p2), .val (.int p3), .val (.int p4), .val (.int (0 : Int32)), .val (.int k), .val (.double (FP.ddiv (FP.i2d k) (4625196817309499392 : UInt64))), .second, .val (.ref b1)] [(.int (0 : Int32)), (.ref b1)]))
    refine own_up (fun _ kq => XS.iload X4.here hx rfl (hb hby at_99) rfl kq) ?_
    show own_Go p.tables e below _ (T4.setTop (mkF m 101 #[.val (.int p0), .val (.int p1), .val (.int p2), .val (.int p3), .val (.int p4), .val (.int (0 : Int32)), .val (.int k), .val (.double (FP.ddiv (FP.i2d k) (4625196817309499392 : UInt64))), .second, .val (.ref b1)] [(.int (0 : Int32)), (.int (0 : Int32)), (.ref b1)]))
    refine own_up (fun _ kq => XS.iloadN X4.here hx rfl (hb hby at_101) rfl kq) ?_
    show own_Go p.tables e below _ (T4.setTop (mkF m 102 #[.val (.int p0), .val (.int p1), .val (.int p2), .val (.int p3), .val (.int p4), .val (.int (0 : Int32)), .val (.int k), .val (.double (FP.ddiv (FP.i2d k) (4625196817309499392 : UInt64))), .second, .val (.ref b1)] [(.int p1), (.int (0 : Int32)), (.int (0 : Int32)), (.ref b1)]))
    refine own_up (fun _ kq => XS.iload X4.here hx rfl (hb hby at_102) rfl kq) ?_
    show own_Go p.tables e below _ (T4.setTop (mkF m 104 #[.val (.int p0), .val (.int p1), .val (.int p2), .val (.int p3), .val (.int p4), .val (.int (0 : Int32)), .val (.int k), .val (.double (FP.ddiv (FP.i2d k) (4625196817309499392 : UInt64))), .second, .val (.ref b1)] [(.int k), (.int p1), (.int (0 : Int32)), (.int (0 : Int32)), (.ref b1)]))
    obtain ⟨_, _, ⟨T5, L5, k5, n5⟩, -, X5, ⟨Lc5, hQ5, l5, y5, z5⟩, st5⟩ := Jvm.LawKit.callS X4 hx (y := (⟨"com/example/parley/parley/algorithms/ModifiersShrinkPinLaw", "ok", "(Lcom/example/parley/parley/algorithms/Dgls$Modifiers;IIII)Z"⟩ : MethodName)) hown (mvT hZ (hw _ (List.mem_of_getElem? (i := 34) rfl))) (mvT hZ (hw _ (List.mem_of_getElem? (i := 35) rfl))) (mvT hZ (hw _ (List.mem_of_getElem? (i := 36) rfl))) (mvT hZ (hw _ (List.mem_of_getElem? (i := 37) rfl))) (by decide) (backOf (W := 0) (rmO l Z a0 hw [] b1 (0 : Int32) (0 : Int32) p1 k T3.heap n0 ZH (by decide)) hZ (hw _ (List.mem_of_getElem? (i := 37) rfl)) (hw _ (List.mem_of_getElem? (i := 36) rfl)) (by decide) (by decide)) (g := (mkF m 104 #[.val (.int p0), .val (.int p1), .val (.int p2), .val (.int p3), .val (.int p4), .val (.int (0 : Int32)), .val (.int k), .val (.double (FP.ddiv (FP.i2d k) (4625196817309499392 : UInt64))), .second, .val (.ref b1)] [(.int k), (.int p1), (.int (0 : Int32)), (.int (0 : Int32)), (.ref b1)])) rfl (by rw [hml]; rfl) (argsL := [(.ref b1), (.int (0 : Int32)), (.int (0 : Int32)), (.int p1), (.int k)]) (rest := []) (lenOf pd_2 rfl) rfl (by show 2 * 0 + _ ≤ _; exact Nat.le_of_eq rfl) (hb hby at_104) (fun _ _ => ⟨rfl, e4, (by decide : 8 + 0 ≤ _), (by decide : 7 + 0 ≤ _)⟩)
    dsimp only [Pt.U, Pt.locs, Pt.cells, Pt.slots] at X5 l5 y5 z5 st5 hQ5
    subst l5 y5 z5
    obtain ⟨rfl, Nq5, e5⟩ := hQ5
    have N5 := Fr.app N3 Nq5
    refine own_up st5 ?_
    show own_Go p.tables e below _ (T5.setTop (mkF m 107 #[.val (.int p0), .val (.int p1), .val (.int p2), .val (.int p3), .val (.int p4), .val (.int (0 : Int32)), .val (.int k), .val (.double (FP.ddiv (FP.i2d k) (4625196817309499392 : UInt64))), .second, .val (.ref b1)] [(.int (1 : Int32))]))
    refine own_up (fun _ kq => XS.ifNo X5.here hx rfl (hb hby at_107) rfl ((if0 _ _).trans (feq (by decide : ¬ ((1 : Int32) = (0 : Int32)))).1) kq) ?_
    show own_Go p.tables e below _ (T5.setTop (mkF m 110 #[.val (.int p0), .val (.int p1), .val (.int p2), .val (.int p3), .val (.int p4), .val (.int (0 : Int32)), .val (.int k), .val (.double (FP.ddiv (FP.i2d k) (4625196817309499392 : UInt64))), .second, .val (.ref b1)] []))
    refine own_up (fun _ kq => XS.aload X5.here hx rfl (hb hby at_110) rfl rfl kq) ?_
    show own_Go p.tables e below _ (T5.setTop (mkF m 112 #[.val (.int p0), .val (.int p1), .val (.int p2), .val (.int p3), .val (.int p4), .val (.int (0 : Int32)), .val (.int k), .val (.double (FP.ddiv (FP.i2d k) (4625196817309499392 : UInt64))), .second, .val (.ref b1)] [(.ref b1)]))
    refine own_up (fun _ kq => XS.iconst X5.here hx rfl (hb hby at_112) kq) ?_
    show own_Go p.tables e below _ (T5.setTop (mkF m 113 #[.val (.int p0), .val (.int p1), .val (.int p2), .val (.int p3), .val (.int p4), .val (.int (0 : Int32)), .val (.int k), .val (.double (FP.ddiv (FP.i2d k) (4625196817309499392 : UInt64))), .second, .val (.ref b1)] [(.int (1 : Int32)), (.ref b1)]))
    refine own_up (fun _ kq => XS.iload X5.here hx rfl (hb hby at_113) rfl kq) ?_
    show own_Go p.tables e below _ (T5.setTop (mkF m 115 #[.val (.int p0), .val (.int p1), .val (.int p2), .val (.int p3), .val (.int p4), .val (.int (0 : Int32)), .val (.int k), .val (.double (FP.ddiv (FP.i2d k) (4625196817309499392 : UInt64))), .second, .val (.ref b1)] [(.int (0 : Int32)), (.int (1 : Int32)), (.ref b1)]))
    refine own_up (fun _ kq => XS.iloadN X5.here hx rfl (hb hby at_115) rfl kq) ?_
    show own_Go p.tables e below _ (T5.setTop (mkF m 116 #[.val (.int p0), .val (.int p1), .val (.int p2), .val (.int p3), .val (.int p4), .val (.int (0 : Int32)), .val (.int k), .val (.double (FP.ddiv (FP.i2d k) (4625196817309499392 : UInt64))), .second, .val (.ref b1)] [(.int p2), (.int (0 : Int32)), (.int (1 : Int32)), (.ref b1)]))
    refine own_up (fun _ kq => XS.iload X5.here hx rfl (hb hby at_116) rfl kq) ?_
    show own_Go p.tables e below _ (T5.setTop (mkF m 118 #[.val (.int p0), .val (.int p1), .val (.int p2), .val (.int p3), .val (.int p4), .val (.int (0 : Int32)), .val (.int k), .val (.double (FP.ddiv (FP.i2d k) (4625196817309499392 : UInt64))), .second, .val (.ref b1)] [(.int k), (.int p2), (.int (0 : Int32)), (.int (1 : Int32)), (.ref b1)]))
    obtain ⟨_, _, ⟨T6, L6, k6, n6⟩, -, X6, ⟨Lc6, hQ6, l6, y6, z6⟩, st6⟩ := Jvm.LawKit.callS X5 hx (y := (⟨"com/example/parley/parley/algorithms/ModifiersShrinkPinLaw", "ok", "(Lcom/example/parley/parley/algorithms/Dgls$Modifiers;IIII)Z"⟩ : MethodName)) hown (mvT hZ (hw _ (List.mem_of_getElem? (i := 34) rfl))) (mvT hZ (hw _ (List.mem_of_getElem? (i := 35) rfl))) (mvT hZ (hw _ (List.mem_of_getElem? (i := 36) rfl))) (mvT hZ (hw _ (List.mem_of_getElem? (i := 37) rfl))) (by decide) (backOf (W := 0) (rmO l Z a0 hw [] b1 (1 : Int32) (0 : Int32) p2 k T3.heap n0 ZH (by decide)) hZ (hw _ (List.mem_of_getElem? (i := 37) rfl)) (hw _ (List.mem_of_getElem? (i := 36) rfl)) (by decide) (by decide)) (g := (mkF m 118 #[.val (.int p0), .val (.int p1), .val (.int p2), .val (.int p3), .val (.int p4), .val (.int (0 : Int32)), .val (.int k), .val (.double (FP.ddiv (FP.i2d k) (4625196817309499392 : UInt64))), .second, .val (.ref b1)] [(.int k), (.int p2), (.int (0 : Int32)), (.int (1 : Int32)), (.ref b1)])) rfl (by rw [hml]; rfl) (argsL := [(.ref b1), (.int (1 : Int32)), (.int (0 : Int32)), (.int p2), (.int k)]) (rest := []) (lenOf pd_2 rfl) rfl (by show 2 * 0 + _ ≤ _; exact Nat.le_of_eq rfl) (hb hby at_118) (fun _ _ => ⟨rfl, e5, (by decide : 8 + 0 ≤ _), (by decide : 7 + 0 ≤ _)⟩)
    dsimp only [Pt.U, Pt.locs, Pt.cells, Pt.slots] at X6 l6 y6 z6 st6 hQ6
    subst l6 y6 z6
    obtain ⟨rfl, Nq6, e6⟩ := hQ6
    have N6 := Fr.app N5 Nq6
    refine own_up st6 ?_
    show own_Go p.tables e below _ (T6.setTop (mkF m 121 #[.val (.int p0), .val (.int p1), .val (.int p2), .val (.int p3), .val (.int p4), .val (.int (0 : Int32)), .val (.int k), .val (.double (FP.ddiv (FP.i2d k) (4625196817309499392 : UInt64))), .second, .val (.ref b1)] [(.int (1 : Int32))]))
    refine own_up (fun _ kq => XS.ifNo X6.here hx rfl (hb hby at_121) rfl ((if0 _ _).trans (feq (by decide : ¬ ((1 : Int32) = (0 : Int32)))).1) kq) ?_
    show own_Go p.tables e below _ (T6.setTop (mkF m 124 #[.val (.int p0), .val (.int p1), .val (.int p2), .val (.int p3), .val (.int p4), .val (.int (0 : Int32)), .val (.int k), .val (.double (FP.ddiv (FP.i2d k) (4625196817309499392 : UInt64))), .second, .val (.ref b1)] []))
    refine own_up (fun _ kq => XS.aload X6.here hx rfl (hb hby at_124) rfl rfl kq) ?_
    show own_Go p.tables e below _ (T6.setTop (mkF m 126 #[.val (.int p0), .val (.int p1), .val (.int p2), .val (.int p3), .val (.int p4), .val (.int (0 : Int32)), .val (.int k), .val (.double (FP.ddiv (FP.i2d k) (4625196817309499392 : UInt64))), .second, .val (.ref b1)] [(.ref b1)]))
    refine own_up (fun _ kq => XS.iconst X6.here hx rfl (hb hby at_126) kq) ?_
    show own_Go p.tables e below _ (T6.setTop (mkF m 127 #[.val (.int p0), .val (.int p1), .val (.int p2), .val (.int p3), .val (.int p4), .val (.int (0 : Int32)), .val (.int k), .val (.double (FP.ddiv (FP.i2d k) (4625196817309499392 : UInt64))), .second, .val (.ref b1)] [(.int (2 : Int32)), (.ref b1)]))
    refine own_up (fun _ kq => XS.iload X6.here hx rfl (hb hby at_127) rfl kq) ?_
    show own_Go p.tables e below _ (T6.setTop (mkF m 129 #[.val (.int p0), .val (.int p1), .val (.int p2), .val (.int p3), .val (.int p4), .val (.int (0 : Int32)), .val (.int k), .val (.double (FP.ddiv (FP.i2d k) (4625196817309499392 : UInt64))), .second, .val (.ref b1)] [(.int (0 : Int32)), (.int (2 : Int32)), (.ref b1)]))
    refine own_up (fun _ kq => XS.iloadN X6.here hx rfl (hb hby at_129) rfl kq) ?_
    show own_Go p.tables e below _ (T6.setTop (mkF m 130 #[.val (.int p0), .val (.int p1), .val (.int p2), .val (.int p3), .val (.int p4), .val (.int (0 : Int32)), .val (.int k), .val (.double (FP.ddiv (FP.i2d k) (4625196817309499392 : UInt64))), .second, .val (.ref b1)] [(.int p3), (.int (0 : Int32)), (.int (2 : Int32)), (.ref b1)]))
    refine own_up (fun _ kq => XS.iload X6.here hx rfl (hb hby at_130) rfl kq) ?_
    show own_Go p.tables e below _ (T6.setTop (mkF m 132 #[.val (.int p0), .val (.int p1), .val (.int p2), .val (.int p3), .val (.int p4), .val (.int (0 : Int32)), .val (.int k), .val (.double (FP.ddiv (FP.i2d k) (4625196817309499392 : UInt64))), .second, .val (.ref b1)] [(.int k), (.int p3), (.int (0 : Int32)), (.int (2 : Int32)), (.ref b1)]))
    obtain ⟨_, _, ⟨T7, L7, k7, n7⟩, -, X7, ⟨Lc7, hQ7, l7, y7, z7⟩, st7⟩ := Jvm.LawKit.callS X6 hx (y := (⟨"com/example/parley/parley/algorithms/ModifiersShrinkPinLaw", "ok", "(Lcom/example/parley/parley/algorithms/Dgls$Modifiers;IIII)Z"⟩ : MethodName)) hown (mvT hZ (hw _ (List.mem_of_getElem? (i := 34) rfl))) (mvT hZ (hw _ (List.mem_of_getElem? (i := 35) rfl))) (mvT hZ (hw _ (List.mem_of_getElem? (i := 36) rfl))) (mvT hZ (hw _ (List.mem_of_getElem? (i := 37) rfl))) (by decide) (backOf (W := 0) (rmO l Z a0 hw [] b1 (2 : Int32) (0 : Int32) p3 k T3.heap n0 ZH (by decide)) hZ (hw _ (List.mem_of_getElem? (i := 37) rfl)) (hw _ (List.mem_of_getElem? (i := 36) rfl)) (by decide) (by decide)) (g := (mkF m 132 #[.val (.int p0), .val (.int p1), .val (.int p2), .val (.int p3), .val (.int p4), .val (.int (0 : Int32)), .val (.int k), .val (.double (FP.ddiv (FP.i2d k) (4625196817309499392 : UInt64))), .second, .val (.ref b1)] [(.int k), (.int p3), (.int (0 : Int32)), (.int (2 : Int32)), (.ref b1)])) rfl (by rw [hml]; rfl) (argsL := [(.ref b1), (.int (2 : Int32)), (.int (0 : Int32)), (.int p3), (.int k)]) (rest := []) (lenOf pd_2 rfl) rfl (by show 2 * 0 + _ ≤ _; exact Nat.le_of_eq rfl) (hb hby at_132) (fun _ _ => ⟨rfl, e6, (by decide : 8 + 0 ≤ _), (by decide : 7 + 0 ≤ _)⟩)
    dsimp only [Pt.U, Pt.locs, Pt.cells, Pt.slots] at X7 l7 y7 z7 st7 hQ7
    subst l7 y7 z7
    obtain ⟨rfl, Nq7, e7⟩ := hQ7
    have N7 := Fr.app N6 Nq7
    refine own_up st7 ?_
    show own_Go p.tables e below _ (T7.setTop (mkF m 135 #[.val (.int p0), .val (.int p1), .val (.int p2), .val (.int p3), .val (.int p4), .val (.int (0 : Int32)), .val (.int k), .val (.double (FP.ddiv (FP.i2d k) (4625196817309499392 : UInt64))), .second, .val (.ref b1)] [(.int (1 : Int32))]))
    refine own_up (fun _ kq => XS.ifNo X7.here hx rfl (hb hby at_135) rfl ((if0 _ _).trans (feq (by decide : ¬ ((1 : Int32) = (0 : Int32)))).1) kq) ?_
    show own_Go p.tables e below _ (T7.setTop (mkF m 138 #[.val (.int p0), .val (.int p1), .val (.int p2), .val (.int p3), .val (.int p4), .val (.int (0 : Int32)), .val (.int k), .val (.double (FP.ddiv (FP.i2d k) (4625196817309499392 : UInt64))), .second, .val (.ref b1)] []))
    refine own_up (fun _ kq => XS.iconst X7.here hx rfl (hb hby at_138) kq) ?_
    show own_Go p.tables e below _ (T7.setTop (mkF m 139 #[.val (.int p0), .val (.int p1), .val (.int p2), .val (.int p3), .val (.int p4), .val (.int (0 : Int32)), .val (.int k), .val (.double (FP.ddiv (FP.i2d k) (4625196817309499392 : UInt64))), .second, .val (.ref b1)] [(.int (1 : Int32))]))
    refine own_up (fun _ kq => XS.goto X7.here hx rfl (pc0 := 139) (pc' := 143) rfl (hb hby at_139) (by decide) (by decide) kq) ?_
    show own_Go p.tables e below _ (T7.setTop (mkF m 143 #[.val (.int p0), .val (.int p1), .val (.int p2), .val (.int p3), .val (.int p4), .val (.int (0 : Int32)), .val (.int k), .val (.double (FP.ddiv (FP.i2d k) (4625196817309499392 : UInt64))), .second, .val (.ref b1)] [(.int (1 : Int32))]))
    obtain ⟨fs8, hr8, hrun8, hended8, hW8, hsame8⟩ := X7.leave (v := some (.int (1 : Int32))) (fun h => by rw [Bd.returns] at h; cases h)
    refine own_end ⟨_, _, ?_, hrun8, hended8, _, _, rfl, ?_, ⟨_, rfl⟩, hW8, hsame8.mono (by decide) (by decide)⟩
    · exact retN X7 hx (t := .boolean) Bd.returns (by simp) (hb hby at_143) hr8
    · show Qrm0 Z p0 p1 p2 p3 p4 h0 n0 _ T7.heap _
      rw [e7]
      exact ⟨rfl, N7⟩
  · show own_Go p.tables e below _ (s₁.setTop (mkF m 23 #[.val (.int p0), .val (.int p1), .val (.int p2), .val (.int p3), .val (.int p4), .val (.int (1 : Int32)), .val (.int k), .val (.double (FP.ddiv (FP.i2d k) (4625196817309499392 : UInt64))), .second, .unset] []))
    obtain ⟨T9, h9, X9, e9, E9, A9, D9, -, st9⟩ := newO X0 hx hZ hown (hw _ (List.mem_of_getElem? (i := 1) rfl)) (hw _ (List.mem_of_getElem? (i := 2) rfl)) (hw _ (List.mem_of_getElem? (i := 3) rfl)) e0 (g := (mkF m 23 #[.val (.int p0), .val (.int p1), .val (.int p2), .val (.int p3), .val (.int p4), .val (.int (1 : Int32)), .val (.int k), .val (.double (FP.ddiv (FP.i2d k) (4625196817309499392 : UInt64))), .second, .unset] [])) rfl (hb hby at_23) (by decide) (by decide)
    obtain ⟨b9, gz9⟩ : ∃ z, z = h0.size := ⟨_, rfl⟩
    rw [← gz9] at A9 D9 st9
    have g_b9 : n0 ≤ b9 := Nat.le_trans ZH (Nat.le_of_eq gz9.symm)
    have sz_b9 : h0.size ≤ b9 := Nat.le_trans KK.1 (Nat.le_of_eq gz9.symm)
    have ZH := Nat.le_trans ZH E9.1
    have KK := KK.ext E9
    have E_b9 := A9
    have F_numbers_b9 : Fld Z h9 b9 "com/example/parley/parley/algorithms/Dgls$Modifiers" "numbers" "[[D" .null := D9 (Or.inr (hw _ (List.mem_of_getElem? (i := 13) rfl))) (ty := (.array (.array .double))) (by decide)
    have F_factors_b9 : Fld Z h9 b9 "com/example/parley/parley/algorithms/Dgls$Modifiers" "factors" "[D" .null := D9 (Or.inr (hw _ (List.mem_of_getElem? (i := 16) rfl))) (ty := (.array .double)) (by decide)
    have F_least_b9 : Fld Z h9 b9 "com/example/parley/parley/algorithms/Dgls$Modifiers" "least" "[D" .null := D9 (Or.inr (hw _ (List.mem_of_getElem? (i := 18) rfl))) (ty := (.array .double)) (by decide)
    have F_greatest_b9 : Fld Z h9 b9 "com/example/parley/parley/algorithms/Dgls$Modifiers" "greatest" "[D" .null := D9 (Or.inr (hw _ (List.mem_of_getElem? (i := 20) rfl))) (ty := (.array .double)) (by decide)
    have F_sums_b9 : Fld Z h9 b9 "com/example/parley/parley/algorithms/Dgls$Modifiers" "sums" "[D" .null := D9 (Or.inr (hw _ (List.mem_of_getElem? (i := 22) rfl))) (ty := (.array .double)) (by decide)
    have F_maxima_b9 : Fld Z h9 b9 "com/example/parley/parley/algorithms/Dgls$Modifiers" "maxima" "[D" .null := D9 (Or.inr (hw _ (List.mem_of_getElem? (i := 24) rfl))) (ty := (.array .double)) (by decide)
    have F_entries_b9 : Fld Z h9 b9 "com/example/parley/parley/algorithms/Dgls$Modifiers" "entries" "[J" .null := D9 (Or.inr (hw _ (List.mem_of_getElem? (i := 27) rfl))) (ty := (.array .long)) (by decide)
    refine own_up st9 ?_
    show own_Go p.tables e below _ (T9.setTop (mkF m 26 #[.val (.int p0), .val (.int p1), .val (.int p2), .val (.int p3), .val (.int p4), .val (.int (1 : Int32)), .val (.int k), .val (.double (FP.ddiv (FP.i2d k) (4625196817309499392 : UInt64))), .second, .unset] [(.ref b9)]))
    refine own_up (fun _ kq => XS.dup X9.here hx rfl (hb hby at_26) rfl rfl kq) ?_
    show own_Go p.tables e below _ (T9.setTop (mkF m 27 #[.val (.int p0), .val (.int p1), .val (.int p2), .val (.int p3), .val (.int p4), .val (.int (1 : Int32)), .val (.int k), .val (.double (FP.ddiv (FP.i2d k) (4625196817309499392 : UInt64))), .second, .unset] [(.ref b9), (.ref b9)]))
    refine own_up (fun _ kq => XS.iload X9.here hx rfl (hb hby at_27) rfl kq) ?_
    show own_Go p.tables e below _ (T9.setTop (mkF m 29 #[.val (.int p0), .val (.int p1), .val (.int p2), .val (.int p3), .val (.int p4), .val (.int (1 : Int32)), .val (.int k), .val (.double (FP.ddiv (FP.i2d k) (4625196817309499392 : UInt64))), .second, .unset] [(.int (1 : Int32)), (.ref b9), (.ref b9)]))
    obtain ⟨_, _, ⟨T10, L10, k10, n10⟩, -, X10, ⟨Lc10, hQ10, l10, y10, z10⟩, st10⟩ := X9.specialBack hx (y := (⟨"com/example/parley/parley/algorithms/Dgls$Modifiers", "<init>", "(I)V"⟩ : MethodName)) rfl hown (mvT hZ (hw _ (List.mem_of_getElem? (i := 4) rfl))) (mvT hZ (hw _ (List.mem_of_getElem? (i := 5) rfl))) (mvT hZ (hw _ (List.mem_of_getElem? (i := 6) rfl))) (by decide) (backOf (W := 1) (rmC1 l Z a0 hw [] b9 h9 n0 ZH E_b9 F_numbers_b9 F_factors_b9 F_least_b9 F_greatest_b9 F_sums_b9 F_maxima_b9 F_entries_b9 g_b9) hZ (hw _ (List.mem_of_getElem? (i := 6) rfl)) (hw _ (List.mem_of_getElem? (i := 3) rfl)) (by decide) (by decide)) (g := (mkF m 29 #[.val (.int p0), .val (.int p1), .val (.int p2), .val (.int p3), .val (.int p4), .val (.int (1 : Int32)), .val (.int k), .val (.double (FP.ddiv (FP.i2d k) (4625196817309499392 : UInt64))), .second, .unset] [(.int (1 : Int32)), (.ref b9), (.ref b9)])) rfl (by rw [hml]; rfl) (Steps.refl _) (a := b9) (argsL := [(.int (1 : Int32))]) (rest := [(.ref b9)]) (lenOf pd_0 rfl) rfl (by show 2 * 0 + _ ≤ _; exact Nat.le_of_eq rfl) (hb hby at_29) (fun _ _ => ⟨rfl, e9, (by decide : 1 + 7 ≤ _), (by decide : 7 + 7 ≤ _)⟩)
    dsimp only [Pt.U, Pt.locs, Pt.cells, Pt.slots] at X10 l10 y10 z10 st10 hQ10
    subst l10 y10 z10
    obtain ⟨rfl, Nq10, K10, bn, bf, bl, bg, kn, kf, kl, kg, szf, ne_bn_bf, ne_bl_bf, ne_bg_bf, Fbn, Fbf, Fbl, Fbg, V_bn, V_bf, V_bl, V_bg⟩ := hQ10
    have N10 := Fr.app N0 Nq10
    have E_b9 := E_b9.keep K10
    have ZH := Nat.le_trans ZH K10.1
    have KK := KK.trans K10 (allS (Or.inr sz_b9) all0)
    have g_bf : n0 ≤ bf := Nat.le_trans g_b9 (Nat.le_of_lt (Nat.lt_of_lt_of_le A9.lt szf))
    have sz_bf : h0.size ≤ bf := Nat.le_trans sz_b9 (Nat.le_of_lt (Nat.lt_of_lt_of_le A9.lt szf))
    have ne_b9_bf : b9 ≠ bf := Nat.ne_of_lt (Nat.lt_of_lt_of_le A9.lt szf)
    refine own_up (fun _ kq => st10.trans kq) ?_
    show own_Go p.tables e below _ (T10.setTop (mkF m 32 #[.val (.int p0), .val (.int p1), .val (.int p2), .val (.int p3), .val (.int p4), .val (.int (1 : Int32)), .val (.int k), .val (.double (FP.ddiv (FP.i2d k) (4625196817309499392 : UInt64))), .second, .unset] [(.ref b9)]))
    refine own_up (fun _ kq => XS.astore X10.here hx rfl (hb hby at_32) rfl rfl (l' := #[.val (.int p0), .val (.int p1), .val (.int p2), .val (.int p3), .val (.int p4), .val (.int (1 : Int32)), .val (.int k), .val (.double (FP.ddiv (FP.i2d k) (4625196817309499392 : UInt64))), .second, .val (.ref b9)]) rfl kq) ?_
    show own_Go p.tables e below _ (T10.setTop (mkF m 34 #[.val (.int p0), .val (.int p1), .val (.int p2), .val (.int p3), .val (.int p4), .val (.int (1 : Int32)), .val (.int k), .val (.double (FP.ddiv (FP.i2d k) (4625196817309499392 : UInt64))), .second, .val (.ref b9)] []))
    refine own_up (fun _ kq => XS.iload X10.here hx rfl (hb hby at_34) rfl kq) ?_
    show own_Go p.tables e below _ (T10.setTop (mkF m 36 #[.val (.int p0), .val (.int p1), .val (.int p2), .val (.int p3), .val (.int p4), .val (.int (1 : Int32)), .val (.int k), .val (.double (FP.ddiv (FP.i2d k) (4625196817309499392 : UInt64))), .second, .val (.ref b9)] [(.int (1 : Int32))]))
    refine own_up (fun _ kq => XS.ifNo X10.here hx rfl (hb hby at_36) rfl ((if0 _ _).trans (tlt (by decide : (0 : Int32) < (1 : Int32))).2.2.2) kq) ?_
    show own_Go p.tables e below _ (T10.setTop (mkF m 39 #[.val (.int p0), .val (.int p1), .val (.int p2), .val (.int p3), .val (.int p4), .val (.int (1 : Int32)), .val (.int k), .val (.double (FP.ddiv (FP.i2d k) (4625196817309499392 : UInt64))), .second, .val (.ref b9)] []))
    refine own_up (fun _ kq => XS.aload X10.here hx rfl (hb hby at_39) rfl rfl kq) ?_
    show own_Go p.tables e below _ (T10.setTop (mkF m 41 #[.val (.int p0), .val (.int p1), .val (.int p2), .val (.int p3), .val (.int p4), .val (.int (1 : Int32)), .val (.int k), .val (.double (FP.ddiv (FP.i2d k) (4625196817309499392 : UInt64))), .second, .val (.ref b9)] [(.ref b9)]))
    obtain ⟨T11, X11, e11, st11⟩ := getF X10 hx hZ hown (host := "") (Or.inl (hw _ (List.mem_of_getElem? (i := 33) rfl))) Via.refl rfl Fbf (g := (mkF m 41 #[.val (.int p0), .val (.int p1), .val (.int p2), .val (.int p3), .val (.int p4), .val (.int (1 : Int32)), .val (.int k), .val (.double (FP.ddiv (FP.i2d k) (4625196817309499392 : UInt64))), .second, .val (.ref b9)] [(.ref b9)])) rfl rfl (hb hby at_41)
    refine own_up st11 ?_
    show own_Go p.tables e below _ (T11.setTop (mkF m 44 #[.val (.int p0), .val (.int p1), .val (.int p2), .val (.int p3), .val (.int p4), .val (.int (1 : Int32)), .val (.int k), .val (.double (FP.ddiv (FP.i2d k) (4625196817309499392 : UInt64))), .second, .val (.ref b9)] [(.ref bf)]))
    refine own_up (fun _ kq => XS.iconst X11.here hx rfl (hb hby at_44) kq) ?_
    show own_Go p.tables e below _ (T11.setTop (mkF m 45 #[.val (.int p0), .val (.int p1), .val (.int p2), .val (.int p3), .val (.int p4), .val (.int (1 : Int32)), .val (.int k), .val (.double (FP.ddiv (FP.i2d k) (4625196817309499392 : UInt64))), .second, .val (.ref b9)] [(.int (0 : Int32)), (.ref bf)]))
    refine own_up (fun _ kq => XS.iloadN X11.here hx rfl (hb hby at_45) rfl kq) ?_
    show own_Go p.tables e below _ (T11.setTop (mkF m 46 #[.val (.int p0), .val (.int p1), .val (.int p2), .val (.int p3), .val (.int p4), .val (.int (1 : Int32)), .val (.int k), .val (.double (FP.ddiv (FP.i2d k) (4625196817309499392 : UInt64))), .second, .val (.ref b9)] [(.int p1), (.int (0 : Int32)), (.ref bf)]))
    refine own_up (fun _ kq => XS.i2dS X11.here hx rfl (v := (FP.i2d p1)) (hb hby at_46) rfl rfl kq) ?_
    show own_Go p.tables e below _ (T11.setTop (mkF m 47 #[.val (.int p0), .val (.int p1), .val (.int p2), .val (.int p3), .val (.int p4), .val (.int (1 : Int32)), .val (.int k), .val (.double (FP.ddiv (FP.i2d k) (4625196817309499392 : UInt64))), .second, .val (.ref b9)] [(.double (FP.i2d p1)), (.int (0 : Int32)), (.ref bf)]))
    obtain ⟨cl12, Ar12, q12, sz12, nz12, hH12, hG12⟩ := V_bf
    obtain ⟨T12, h12, X12, e12, W12, st12⟩ := stD X11 hx hZ e11 Ar12 (j := (0 : Int32)) (inb_of sz12 ⟨by decide, by decide⟩) (g := (mkF m 47 #[.val (.int p0), .val (.int p1), .val (.int p2), .val (.int p3), .val (.int p4), .val (.int (1 : Int32)), .val (.int k), .val (.double (FP.ddiv (FP.i2d k) (4625196817309499392 : UInt64))), .second, .val (.ref b9)] [(.double (FP.i2d p1)), (.int (0 : Int32)), (.ref bf)])) rfl rfl (hb hby at_47)
    have V_bf : Arv Z h12 bf kf .double (1 : Int32) [(.double (FP.i2d p1))] (.double (0 : UInt64)) := Arv.set Ar12 q12 sz12 nz12 hH12 hG12 rfl W12 0 rfl (Nat.le_of_ble_eq_true rfl)
    have N12 := Fr.snoc X12 N10 g_bf
    have E_b9 := E_b9.wr W12
    have Fbn := Fbn.other W12 (Or.inl ne_b9_bf)
    have V_bn := V_bn.other W12 ne_bn_bf
    have Fbf := Fbf.other W12 (Or.inl ne_b9_bf)
    have Fbl := Fbl.other W12 (Or.inl ne_b9_bf)
    have V_bl := V_bl.other W12 ne_bl_bf
    have Fbg := Fbg.other W12 (Or.inl ne_b9_bf)
    have V_bg := V_bg.other W12 ne_bg_bf
    have ZH := Nat.le_trans ZH (Nat.le_of_eq W12.size.symm)
    have KK := KK.wr W12 (Or.inr sz_bf)
    refine own_up st12 ?_
    show own_Go p.tables e below _ (T12.setTop (mkF m 48 #[.val (.int p0), .val (.int p1), .val (.int p2), .val (.int p3), .val (.int p4), .val (.int (1 : Int32)), .val (.int k), .val (.double (FP.ddiv (FP.i2d k) (4625196817309499392 : UInt64))), .second, .val (.ref b9)] []))
    refine own_up (fun _ kq => XS.iload X12.here hx rfl (hb hby at_48) rfl kq) ?_
    show own_Go p.tables e below _ (T12.setTop (mkF m 50 #[.val (.int p0), .val (.int p1), .val (.int p2), .val (.int p3), .val (.int p4), .val (.int (1 : Int32)), .val (.int k), .val (.double (FP.ddiv (FP.i2d k) (4625196817309499392 : UInt64))), .second, .val (.ref b9)] [(.int (1 : Int32))]))
    refine own_up (fun _ kq => XS.iconst X12.here hx rfl (hb hby at_50) kq) ?_
    show own_Go p.tables e below _ (T12.setTop (mkF m 51 #[.val (.int p0), .val (.int p1), .val (.int p2), .val (.int p3), .val (.int p4), .val (.int (1 : Int32)), .val (.int k), .val (.double (FP.ddiv (FP.i2d k) (4625196817309499392 : UInt64))), .second, .val (.ref b9)] [(.int (1 : Int32)), (.int (1 : Int32))]))
    refine own_up (fun _ kq => XS.icmpYes X12.here hx rfl (pc0 := 51) (pc' := 63) rfl (hb hby at_51) rfl (flt (by decide : ¬ ((1 : Int32) < (1 : Int32)))).2.2.2 (by decide) (by decide) kq) ?_
    show own_Go p.tables e below _ (T12.setTop (mkF m 63 #[.val (.int p0), .val (.int p1), .val (.int p2), .val (.int p3), .val (.int p4), .val (.int (1 : Int32)), .val (.int k), .val (.double (FP.ddiv (FP.i2d k) (4625196817309499392 : UInt64))), .second, .val (.ref b9)] []))
    refine own_up (fun _ kq => XS.iload X12.here hx rfl (hb hby at_63) rfl kq) ?_
    show own_Go p.tables e below _ (T12.setTop (mkF m 65 #[.val (.int p0), .val (.int p1), .val (.int p2), .val (.int p3), .val (.int p4), .val (.int (1 : Int32)), .val (.int k), .val (.double (FP.ddiv (FP.i2d k) (4625196817309499392 : UInt64))), .second, .val (.ref b9)] [(.int (1 : Int32))]))
    refine own_up (fun _ kq => XS.iconst X12.here hx rfl (hb hby at_65) kq) ?_
    show own_Go p.tables e below _ (T12.setTop (mkF m 66 #[.val (.int p0), .val (.int p1), .val (.int p2), .val (.int p3), .val (.int p4), .val (.int (1 : Int32)), .val (.int k), .val (.double (FP.ddiv (FP.i2d k) (4625196817309499392 : UInt64))), .second, .val (.ref b9)] [(.int (2 : Int32)), (.int (1 : Int32))]))
    refine own_up (fun _ kq => XS.icmpYes X12.here hx rfl (pc0 := 66) (pc' := 78) rfl (hb hby at_66) rfl (flt (by decide : ¬ ((2 : Int32) < (1 : Int32)))).2.2.2 (by decide) (by decide) kq) ?_
    show own_Go p.tables e below _ (T12.setTop (mkF m 78 #[.val (.int p0), .val (.int p1), .val (.int p2), .val (.int p3), .val (.int p4), .val (.int (1 : Int32)), .val (.int k), .val (.double (FP.ddiv (FP.i2d k) (4625196817309499392 : UInt64))), .second, .val (.ref b9)] []))
    refine own_up (fun _ kq => XS.aload X12.here hx rfl (hb hby at_78) rfl rfl kq) ?_
    show own_Go p.tables e below _ (T12.setTop (mkF m 80 #[.val (.int p0), .val (.int p1), .val (.int p2), .val (.int p3), .val (.int p4), .val (.int (1 : Int32)), .val (.int k), .val (.double (FP.ddiv (FP.i2d k) (4625196817309499392 : UInt64))), .second, .val (.ref b9)] [(.ref b9)]))
    refine own_up (fun _ kq => XS.dload X12.here hx rfl (hb hby at_80) rfl kq) ?_
    show own_Go p.tables e below _ (T12.setTop (mkF m 82 #[.val (.int p0), .val (.int p1), .val (.int p2), .val (.int p3), .val (.int p4), .val (.int (1 : Int32)), .val (.int k), .val (.double (FP.ddiv (FP.i2d k) (4625196817309499392 : UInt64))), .second, .val (.ref b9)] [(.double (FP.ddiv (FP.i2d k) (4625196817309499392 : UInt64))), (.ref b9)]))
    obtain ⟨cq13, kq13, q13a, q13b, q13c⟩ := isOf hZ e12 E_b9
    obtain ⟨_, _, ⟨T13, L13, k13, n13⟩, -, X13, ⟨Lc13, hQ13, l13, y13, z13⟩, st13⟩ := X12.virtualBack hx (y := (⟨"com/example/parley/parley/algorithms/Dgls$Modifiers", "shrink", "(D)V"⟩ : MethodName)) (z := (⟨"com/example/parley/parley/algorithms/Dgls$Modifiers", "shrink", "(D)V"⟩ : MethodName)) hown (mvT hZ (hw _ (List.mem_of_getElem? (i := 28) rfl))) (mvT hZ (hw _ (List.mem_of_getElem? (i := 29) rfl))) (notFace_of_selects (args := #[]) (mvT hZ (hw _ (List.mem_of_getElem? (i := 31) rfl)))) (mvT hZ (hw _ (List.mem_of_getElem? (i := 31) rfl))) (mvT hZ (hw _ (List.mem_of_getElem? (i := 30) rfl))) (by decide) (backOf (W := 0) (rmS1 l Z a0 hw [] b9 (FP.ddiv (FP.i2d k) (4625196817309499392 : UInt64)) bf kf (FP.i2d p1) h12 n0 ZH Fbf V_bf g_bf ne_b9_bf (own_mulnn p1 hk')) hZ (hw _ (List.mem_of_getElem? (i := 32) rfl)) (hw _ (List.mem_of_getElem? (i := 3) rfl)) (by decide) (by decide)) q13a q13c (g := (mkF m 82 #[.val (.int p0), .val (.int p1), .val (.int p2), .val (.int p3), .val (.int p4), .val (.int (1 : Int32)), .val (.int k), .val (.double (FP.ddiv (FP.i2d k) (4625196817309499392 : UInt64))), .second, .val (.ref b9)] [(.double (FP.ddiv (FP.i2d k) (4625196817309499392 : UInt64))), (.ref b9)])) rfl (by rw [hml]; rfl) (Steps.refl _) (argsL := [(.double (FP.ddiv (FP.i2d k) (4625196817309499392 : UInt64)))]) (rest := []) (lenOf pd_1 rfl) rfl (by show 2 * 0 + _ ≤ _; exact Nat.le_of_eq rfl) (hb hby at_82) (fun _ _ => ⟨rfl, e12, (by decide : 8 + 0 ≤ _), (by decide : 14 + 0 ≤ _)⟩)
    dsimp only [Pt.U, Pt.locs, Pt.cells, Pt.slots] at X13 l13 y13 z13 st13 hQ13
    subst l13 y13 z13
    obtain ⟨rfl, Nq13, K13, V_bf'⟩ := hQ13
    have N13 := Fr.app N12 Nq13
    have E_b9 := E_b9.keep K13
    have Fbn := Fbn.keep K13 (ninS ne_b9_bf nin0)
    have V_bn := V_bn.keep K13 (ninS ne_bn_bf nin0)
    have Fbf := Fbf.keep K13 (ninS ne_b9_bf nin0)
    have Fbl := Fbl.keep K13 (ninS ne_b9_bf nin0)
    have V_bl := V_bl.keep K13 (ninS ne_bl_bf nin0)
    have Fbg := Fbg.keep K13 (ninS ne_b9_bf nin0)
    have V_bg := V_bg.keep K13 (ninS ne_bg_bf nin0)
    have ZH := Nat.le_trans ZH K13.1
    have KK := KK.trans K13 (allS (Or.inr sz_bf) all0)
    have V_bf := V_bf'
    refine own_up (fun _ kq => st13.trans kq) ?_
    show own_Go p.tables e below _ (T13.setTop (mkF m 85 #[.val (.int p0), .val (.int p1), .val (.int p2), .val (.int p3), .val (.int p4), .val (.int (1 : Int32)), .val (.int k), .val (.double (FP.ddiv (FP.i2d k) (4625196817309499392 : UInt64))), .second, .val (.ref b9)] []))
    refine own_up (fun _ kq => XS.aload X13.here hx rfl (hb hby at_85) rfl rfl kq) ?_
    show own_Go p.tables e below _ (T13.setTop (mkF m 87 #[.val (.int p0), .val (.int p1), .val (.int p2), .val (.int p3), .val (.int p4), .val (.int (1 : Int32)), .val (.int k), .val (.double (FP.ddiv (FP.i2d k) (4625196817309499392 : UInt64))), .second, .val (.ref b9)] [(.ref b9)]))
    obtain ⟨T14, X14, e14, st14⟩ := getF X13 hx hZ hown (host := "") (Or.inl (hw _ (List.mem_of_getElem? (i := 33) rfl))) Via.refl rfl Fbf (g := (mkF m 87 #[.val (.int p0), .val (.int p1), .val (.int p2), .val (.int p3), .val (.int p4), .val (.int (1 : Int32)), .val (.int k), .val (.double (FP.ddiv (FP.i2d k) (4625196817309499392 : UInt64))), .second, .val (.ref b9)] [(.ref b9)])) rfl rfl (hb hby at_87)
    refine own_up st14 ?_
    show own_Go p.tables e below _ (T14.setTop (mkF m 90 #[.val (.int p0), .val (.int p1), .val (.int p2), .val (.int p3), .val (.int p4), .val (.int (1 : Int32)), .val (.int k), .val (.double (FP.ddiv (FP.i2d k) (4625196817309499392 : UInt64))), .second, .val (.ref b9)] [(.ref bf)]))
    refine own_up (fun _ kq => own_Arf.alen (own_Arf.ofArv V_bf) X14 hx hZ e14 (g := (mkF m 90 #[.val (.int p0), .val (.int p1), .val (.int p2), .val (.int p3), .val (.int p4), .val (.int (1 : Int32)), .val (.int k), .val (.double (FP.ddiv (FP.i2d k) (4625196817309499392 : UInt64))), .second, .val (.ref b9)] [(.ref bf)])) rfl rfl (hb hby at_90) _ kq) ?_
    show own_Go p.tables e below _ (T14.setTop (mkF m 91 #[.val (.int p0), .val (.int p1), .val (.int p2), .val (.int p3), .val (.int p4), .val (.int (1 : Int32)), .val (.int k), .val (.double (FP.ddiv (FP.i2d k) (4625196817309499392 : UInt64))), .second, .val (.ref b9)] [(.int (1 : Int32))]))
    refine own_up (fun _ kq => XS.iload X14.here hx rfl (hb hby at_91) rfl kq) ?_
    show own_Go p.tables e below _ (T14.setTop (mkF m 93 #[.val (.int p0), .val (.int p1), .val (.int p2), .val (.int p3), .val (.int p4), .val (.int (1 : Int32)), .val (.int k), .val (.double (FP.ddiv (FP.i2d k) (4625196817309499392 : UInt64))), .second, .val (.ref b9)] [(.int (1 : Int32)), (.int (1 : Int32))]))
    refine own_up (fun _ kq => XS.icmpNo X14.here hx rfl (hb hby at_93) rfl (teq (by decide : (1 : Int32) = (1 : Int32))).2 kq) ?_
    show own_Go p.tables e below _ (T14.setTop (mkF m 96 #[.val (.int p0), .val (.int p1), .val (.int p2), .val (.int p3), .val (.int p4), .val (.int (1 : Int32)), .val (.int k), .val (.double (FP.ddiv (FP.i2d k) (4625196817309499392 : UInt64))), .second, .val (.ref b9)] []))
    refine own_up (fun _ kq => XS.aload X14.here hx rfl (hb hby at_96) rfl rfl kq) ?_
    show own_Go p.tables e below _ (T14.setTop (mkF m 98 #[.val (.int p0), .val (.int p1), .val (.int p2), .val (.int p3), .val (.int p4), .val (.int (1 : Int32)), .val (.int k), .val (.double (FP.ddiv (FP.i2d k) (4625196817309499392 : UInt64))), .second, .val (.ref b9)] [(.ref b9)]))
    refine own_up (fun _ kq => XS.iconst X14.here hx rfl (hb hby at_98) kq) ?_
    show own_Go p.tables e below _ (T14.setTop (mkF m 99 #[.val (.int p0), .val (.int p1), .val (.int p2), .val (.int p3), .val (.int p4), .val (.int (1 : Int32)), .val (.int k), .val (.double (FP.ddiv (FP.i2d k) (4625196817309499392 : UInt64))), .second, .val (.ref b9)] [(.int (0 : Int32)), (.ref b9)]))
    refine own_up (fun _ kq => XS.iload X14.here hx rfl (hb hby at_99) rfl kq) ?_
    show own_Go p.tables e below _ (T14.setTop (mkF m 101 #[.val (.int p0), .val (.int p1), .val (.int p2), .val (.int p3), .val (.int p4), .val (.int (1 : Int32)), .val (.int k), .val (.double (FP.ddiv (FP.i2d k) (4625196817309499392 : UInt64))), .second, .val (.ref b9)] [(.int (1 : Int32)), (.int (0 : Int32)), (.ref b9)]))
    refine own_up (fun _ kq => XS.iloadN X14.here hx rfl (hb hby at_101) rfl kq) ?_
    show own_Go p.tables e below _ (T14.setTop (mkF m 102 #[.val (.int p0), .val (.int p1), .val (.int p2), .val (.int p3), .val (.int p4), .val (.int (1 : Int32)), .val (.int k), .val (.double (FP.ddiv (FP.i2d k) (4625196817309499392 : UInt64))), .second, .val (.ref b9)] [(.int p1), (.int (1 : Int32)), (.int (0 : Int32)), (.ref b9)]))
    refine own_up (fun _ kq => XS.iload X14.here hx rfl (hb hby at_102) rfl kq) ?_
    show own_Go p.tables e below _ (T14.setTop (mkF m 104 #[.val (.int p0), .val (.int p1), .val (.int p2), .val (.int p3), .val (.int p4), .val (.int (1 : Int32)), .val (.int k), .val (.double (FP.ddiv (FP.i2d k) (4625196817309499392 : UInt64))), .second, .val (.ref b9)] [(.int k), (.int p1), (.int (1 : Int32)), (.int (0 : Int32)), (.ref b9)]))
    obtain ⟨_, _, ⟨T15, L15, k15, n15⟩, -, X15, ⟨Lc15, hQ15, l15, y15, z15⟩, st15⟩ := Jvm.LawKit.callS X14 hx (y := (⟨"com/example/parley/parley/algorithms/ModifiersShrinkPinLaw", "ok", "(Lcom/example/parley/parley/algorithms/Dgls$Modifiers;IIII)Z"⟩ : MethodName)) hown (mvT hZ (hw _ (List.mem_of_getElem? (i := 34) rfl))) (mvT hZ (hw _ (List.mem_of_getElem? (i := 35) rfl))) (mvT hZ (hw _ (List.mem_of_getElem? (i := 36) rfl))) (mvT hZ (hw _ (List.mem_of_getElem? (i := 37) rfl))) (by decide) (backOf (W := 0) (rmI l Z a0 hw [] b9 (0 : Int32) (1 : Int32) p1 k bn bf bl bg (FP.dmul (FP.i2d p1) (FP.ddiv (FP.i2d k) (4625196817309499392 : UInt64))) _ _ _ _ T13.heap n0 ZH (by decide) (by decide) Fbn Fbf Fbl Fbg (own_Arf.ofArv V_bn) (own_Arf.ofArv V_bf) (own_Arf.ofArv V_bl) (own_Arf.ofArv V_bg) rfl rfl rfl rfl (own_key p1 hk') (own_expnn p1 hk')) hZ (hw _ (List.mem_of_getElem? (i := 37) rfl)) (hw _ (List.mem_of_getElem? (i := 36) rfl)) (by decide) (by decide)) (g := (mkF m 104 #[.val (.int p0), .val (.int p1), .val (.int p2), .val (.int p3), .val (.int p4), .val (.int (1 : Int32)), .val (.int k), .val (.double (FP.ddiv (FP.i2d k) (4625196817309499392 : UInt64))), .second, .val (.ref b9)] [(.int k), (.int p1), (.int (1 : Int32)), (.int (0 : Int32)), (.ref b9)])) rfl (by rw [hml]; rfl) (argsL := [(.ref b9), (.int (0 : Int32)), (.int (1 : Int32)), (.int p1), (.int k)]) (rest := []) (lenOf pd_2 rfl) rfl (by show 2 * 0 + _ ≤ _; exact Nat.le_of_eq rfl) (hb hby at_104) (fun _ _ => ⟨rfl, e14, (by decide : 8 + 0 ≤ _), (by decide : 14 + 0 ≤ _)⟩)
    dsimp only [Pt.U, Pt.locs, Pt.cells, Pt.slots] at X15 l15 y15 z15 st15 hQ15
    subst l15 y15 z15
    obtain ⟨rfl, Nq15, e15⟩ := hQ15
    have N15 := Fr.app N13 Nq15
    refine own_up st15 ?_
    show own_Go p.tables e below _ (T15.setTop (mkF m 107 #[.val (.int p0), .val (.int p1), .val (.int p2), .val (.int p3), .val (.int p4), .val (.int (1 : Int32)), .val (.int k), .val (.double (FP.ddiv (FP.i2d k) (4625196817309499392 : UInt64))), .second, .val (.ref b9)] [(.int (1 : Int32))]))
    refine own_up (fun _ kq => XS.ifNo X15.here hx rfl (hb hby at_107) rfl ((if0 _ _).trans (feq (by decide : ¬ ((1 : Int32) = (0 : Int32)))).1) kq) ?_
    show own_Go p.tables e below _ (T15.setTop (mkF m 110 #[.val (.int p0), .val (.int p1), .val (.int p2), .val (.int p3), .val (.int p4), .val (.int (1 : Int32)), .val (.int k), .val (.double (FP.ddiv (FP.i2d k) (4625196817309499392 : UInt64))), .second, .val (.ref b9)] []))
    refine own_up (fun _ kq => XS.aload X15.here hx rfl (hb hby at_110) rfl rfl kq) ?_
    show own_Go p.tables e below _ (T15.setTop (mkF m 112 #[.val (.int p0), .val (.int p1), .val (.int p2), .val (.int p3), .val (.int p4), .val (.int (1 : Int32)), .val (.int k), .val (.double (FP.ddiv (FP.i2d k) (4625196817309499392 : UInt64))), .second, .val (.ref b9)] [(.ref b9)]))
    refine own_up (fun _ kq => XS.iconst X15.here hx rfl (hb hby at_112) kq) ?_
    show own_Go p.tables e below _ (T15.setTop (mkF m 113 #[.val (.int p0), .val (.int p1), .val (.int p2), .val (.int p3), .val (.int p4), .val (.int (1 : Int32)), .val (.int k), .val (.double (FP.ddiv (FP.i2d k) (4625196817309499392 : UInt64))), .second, .val (.ref b9)] [(.int (1 : Int32)), (.ref b9)]))
    refine own_up (fun _ kq => XS.iload X15.here hx rfl (hb hby at_113) rfl kq) ?_
    show own_Go p.tables e below _ (T15.setTop (mkF m 115 #[.val (.int p0), .val (.int p1), .val (.int p2), .val (.int p3), .val (.int p4), .val (.int (1 : Int32)), .val (.int k), .val (.double (FP.ddiv (FP.i2d k) (4625196817309499392 : UInt64))), .second, .val (.ref b9)] [(.int (1 : Int32)), (.int (1 : Int32)), (.ref b9)]))
    refine own_up (fun _ kq => XS.iloadN X15.here hx rfl (hb hby at_115) rfl kq) ?_
    show own_Go p.tables e below _ (T15.setTop (mkF m 116 #[.val (.int p0), .val (.int p1), .val (.int p2), .val (.int p3), .val (.int p4), .val (.int (1 : Int32)), .val (.int k), .val (.double (FP.ddiv (FP.i2d k) (4625196817309499392 : UInt64))), .second, .val (.ref b9)] [(.int p2), (.int (1 : Int32)), (.int (1 : Int32)), (.ref b9)]))
    refine own_up (fun _ kq => XS.iload X15.here hx rfl (hb hby at_116) rfl kq) ?_
    show own_Go p.tables e below _ (T15.setTop (mkF m 118 #[.val (.int p0), .val (.int p1), .val (.int p2), .val (.int p3), .val (.int p4), .val (.int (1 : Int32)), .val (.int k), .val (.double (FP.ddiv (FP.i2d k) (4625196817309499392 : UInt64))), .second, .val (.ref b9)] [(.int k), (.int p2), (.int (1 : Int32)), (.int (1 : Int32)), (.ref b9)]))
    obtain ⟨_, _, ⟨T16, L16, k16, n16⟩, -, X16, ⟨Lc16, hQ16, l16, y16, z16⟩, st16⟩ := Jvm.LawKit.callS X15 hx (y := (⟨"com/example/parley/parley/algorithms/ModifiersShrinkPinLaw", "ok", "(Lcom/example/parley/parley/algorithms/Dgls$Modifiers;IIII)Z"⟩ : MethodName)) hown (mvT hZ (hw _ (List.mem_of_getElem? (i := 34) rfl))) (mvT hZ (hw _ (List.mem_of_getElem? (i := 35) rfl))) (mvT hZ (hw _ (List.mem_of_getElem? (i := 36) rfl))) (mvT hZ (hw _ (List.mem_of_getElem? (i := 37) rfl))) (by decide) (backOf (W := 0) (rmO l Z a0 hw [] b9 (1 : Int32) (1 : Int32) p2 k T13.heap n0 ZH (by decide)) hZ (hw _ (List.mem_of_getElem? (i := 37) rfl)) (hw _ (List.mem_of_getElem? (i := 36) rfl)) (by decide) (by decide)) (g := (mkF m 118 #[.val (.int p0), .val (.int p1), .val (.int p2), .val (.int p3), .val (.int p4), .val (.int (1 : Int32)), .val (.int k), .val (.double (FP.ddiv (FP.i2d k) (4625196817309499392 : UInt64))), .second, .val (.ref b9)] [(.int k), (.int p2), (.int (1 : Int32)), (.int (1 : Int32)), (.ref b9)])) rfl (by rw [hml]; rfl) (argsL := [(.ref b9), (.int (1 : Int32)), (.int (1 : Int32)), (.int p2), (.int k)]) (rest := []) (lenOf pd_2 rfl) rfl (by show 2 * 0 + _ ≤ _; exact Nat.le_of_eq rfl) (hb hby at_118) (fun _ _ => ⟨rfl, e15, (by decide : 8 + 0 ≤ _), (by decide : 14 + 0 ≤ _)⟩)
    dsimp only [Pt.U, Pt.locs, Pt.cells, Pt.slots] at X16 l16 y16 z16 st16 hQ16
    subst l16 y16 z16
    obtain ⟨rfl, Nq16, e16⟩ := hQ16
    have N16 := Fr.app N15 Nq16
    refine own_up st16 ?_
    show own_Go p.tables e below _ (T16.setTop (mkF m 121 #[.val (.int p0), .val (.int p1), .val (.int p2), .val (.int p3), .val (.int p4), .val (.int (1 : Int32)), .val (.int k), .val (.double (FP.ddiv (FP.i2d k) (4625196817309499392 : UInt64))), .second, .val (.ref b9)] [(.int (1 : Int32))]))
    refine own_up (fun _ kq => XS.ifNo X16.here hx rfl (hb hby at_121) rfl ((if0 _ _).trans (feq (by decide : ¬ ((1 : Int32) = (0 : Int32)))).1) kq) ?_
    show own_Go p.tables e below _ (T16.setTop (mkF m 124 #[.val (.int p0), .val (.int p1), .val (.int p2), .val (.int p3), .val (.int p4), .val (.int (1 : Int32)), .val (.int k), .val (.double (FP.ddiv (FP.i2d k) (4625196817309499392 : UInt64))), .second, .val (.ref b9)] []))
    refine own_up (fun _ kq => XS.aload X16.here hx rfl (hb hby at_124) rfl rfl kq) ?_
    show own_Go p.tables e below _ (T16.setTop (mkF m 126 #[.val (.int p0), .val (.int p1), .val (.int p2), .val (.int p3), .val (.int p4), .val (.int (1 : Int32)), .val (.int k), .val (.double (FP.ddiv (FP.i2d k) (4625196817309499392 : UInt64))), .second, .val (.ref b9)] [(.ref b9)]))
    refine own_up (fun _ kq => XS.iconst X16.here hx rfl (hb hby at_126) kq) ?_
    show own_Go p.tables e below _ (T16.setTop (mkF m 127 #[.val (.int p0), .val (.int p1), .val (.int p2), .val (.int p3), .val (.int p4), .val (.int (1 : Int32)), .val (.int k), .val (.double (FP.ddiv (FP.i2d k) (4625196817309499392 : UInt64))), .second, .val (.ref b9)] [(.int (2 : Int32)), (.ref b9)]))
    refine own_up (fun _ kq => XS.iload X16.here hx rfl (hb hby at_127) rfl kq) ?_
    show own_Go p.tables e below _ (T16.setTop (mkF m 129 #[.val (.int p0), .val (.int p1), .val (.int p2), .val (.int p3), .val (.int p4), .val (.int (1 : Int32)), .val (.int k), .val (.double (FP.ddiv (FP.i2d k) (4625196817309499392 : UInt64))), .second, .val (.ref b9)] [(.int (1 : Int32)), (.int (2 : Int32)), (.ref b9)]))
    refine own_up (fun _ kq => XS.iloadN X16.here hx rfl (hb hby at_129) rfl kq) ?_
    show own_Go p.tables e below _ (T16.setTop (mkF m 130 #[.val (.int p0), .val (.int p1), .val (.int p2), .val (.int p3), .val (.int p4), .val (.int (1 : Int32)), .val (.int k), .val (.double (FP.ddiv (FP.i2d k) (4625196817309499392 : UInt64))), .second, .val (.ref b9)] [(.int p3), (.int (1 : Int32)), (.int (2 : Int32)), (.ref b9)]))
    refine own_up (fun _ kq => XS.iload X16.here hx rfl (hb hby at_130) rfl kq) ?_
    show own_Go p.tables e below _ (T16.setTop (mkF m 132 #[.val (.int p0), .val (.int p1), .val (.int p2), .val (.int p3), .val (.int p4), .val (.int (1 : Int32)), .val (.int k), .val (.double (FP.ddiv (FP.i2d k) (4625196817309499392 : UInt64))), .second, .val (.ref b9)] [(.int k), (.int p3), (.int (1 : Int32)), (.int (2 : Int32)), (.ref b9)]))
    obtain ⟨_, _, ⟨T17, L17, k17, n17⟩, -, X17, ⟨Lc17, hQ17, l17, y17, z17⟩, st17⟩ := Jvm.LawKit.callS X16 hx (y := (⟨"com/example/parley/parley/algorithms/ModifiersShrinkPinLaw", "ok", "(Lcom/example/parley/parley/algorithms/Dgls$Modifiers;IIII)Z"⟩ : MethodName)) hown (mvT hZ (hw _ (List.mem_of_getElem? (i := 34) rfl))) (mvT hZ (hw _ (List.mem_of_getElem? (i := 35) rfl))) (mvT hZ (hw _ (List.mem_of_getElem? (i := 36) rfl))) (mvT hZ (hw _ (List.mem_of_getElem? (i := 37) rfl))) (by decide) (backOf (W := 0) (rmO l Z a0 hw [] b9 (2 : Int32) (1 : Int32) p3 k T13.heap n0 ZH (by decide)) hZ (hw _ (List.mem_of_getElem? (i := 37) rfl)) (hw _ (List.mem_of_getElem? (i := 36) rfl)) (by decide) (by decide)) (g := (mkF m 132 #[.val (.int p0), .val (.int p1), .val (.int p2), .val (.int p3), .val (.int p4), .val (.int (1 : Int32)), .val (.int k), .val (.double (FP.ddiv (FP.i2d k) (4625196817309499392 : UInt64))), .second, .val (.ref b9)] [(.int k), (.int p3), (.int (1 : Int32)), (.int (2 : Int32)), (.ref b9)])) rfl (by rw [hml]; rfl) (argsL := [(.ref b9), (.int (2 : Int32)), (.int (1 : Int32)), (.int p3), (.int k)]) (rest := []) (lenOf pd_2 rfl) rfl (by show 2 * 0 + _ ≤ _; exact Nat.le_of_eq rfl) (hb hby at_132) (fun _ _ => ⟨rfl, e16, (by decide : 8 + 0 ≤ _), (by decide : 14 + 0 ≤ _)⟩)
    dsimp only [Pt.U, Pt.locs, Pt.cells, Pt.slots] at X17 l17 y17 z17 st17 hQ17
    subst l17 y17 z17
    obtain ⟨rfl, Nq17, e17⟩ := hQ17
    have N17 := Fr.app N16 Nq17
    refine own_up st17 ?_
    show own_Go p.tables e below _ (T17.setTop (mkF m 135 #[.val (.int p0), .val (.int p1), .val (.int p2), .val (.int p3), .val (.int p4), .val (.int (1 : Int32)), .val (.int k), .val (.double (FP.ddiv (FP.i2d k) (4625196817309499392 : UInt64))), .second, .val (.ref b9)] [(.int (1 : Int32))]))
    refine own_up (fun _ kq => XS.ifNo X17.here hx rfl (hb hby at_135) rfl ((if0 _ _).trans (feq (by decide : ¬ ((1 : Int32) = (0 : Int32)))).1) kq) ?_
    show own_Go p.tables e below _ (T17.setTop (mkF m 138 #[.val (.int p0), .val (.int p1), .val (.int p2), .val (.int p3), .val (.int p4), .val (.int (1 : Int32)), .val (.int k), .val (.double (FP.ddiv (FP.i2d k) (4625196817309499392 : UInt64))), .second, .val (.ref b9)] []))
    refine own_up (fun _ kq => XS.iconst X17.here hx rfl (hb hby at_138) kq) ?_
    show own_Go p.tables e below _ (T17.setTop (mkF m 139 #[.val (.int p0), .val (.int p1), .val (.int p2), .val (.int p3), .val (.int p4), .val (.int (1 : Int32)), .val (.int k), .val (.double (FP.ddiv (FP.i2d k) (4625196817309499392 : UInt64))), .second, .val (.ref b9)] [(.int (1 : Int32))]))
    refine own_up (fun _ kq => XS.goto X17.here hx rfl (pc0 := 139) (pc' := 143) rfl (hb hby at_139) (by decide) (by decide) kq) ?_
    show own_Go p.tables e below _ (T17.setTop (mkF m 143 #[.val (.int p0), .val (.int p1), .val (.int p2), .val (.int p3), .val (.int p4), .val (.int (1 : Int32)), .val (.int k), .val (.double (FP.ddiv (FP.i2d k) (4625196817309499392 : UInt64))), .second, .val (.ref b9)] [(.int (1 : Int32))]))
    obtain ⟨fs18, hr18, hrun18, hended18, hW18, hsame18⟩ := X17.leave (v := some (.int (1 : Int32))) (fun h => by rw [Bd.returns] at h; cases h)
    refine own_end ⟨_, _, ?_, hrun18, hended18, _, _, rfl, ?_, ⟨_, rfl⟩, hW18, hsame18.mono (by decide) (by decide)⟩
    · exact retN X17 hx (t := .boolean) Bd.returns (by simp) (hb hby at_143) hr18
    · show Qrm0 Z p0 p1 p2 p3 p4 h0 n0 _ T17.heap _
      rw [e17]
      exact ⟨rfl, N17⟩
  · show own_Go p.tables e below _ (s₁.setTop (mkF m 23 #[.val (.int p0), .val (.int p1), .val (.int p2), .val (.int p3), .val (.int p4), .val (.int (2 : Int32)), .val (.int k), .val (.double (FP.ddiv (FP.i2d k) (4625196817309499392 : UInt64))), .second, .unset] []))
    obtain ⟨T19, h19, X19, e19, E19, A19, D19, -, st19⟩ := newO X0 hx hZ hown (hw _ (List.mem_of_getElem? (i := 1) rfl)) (hw _ (List.mem_of_getElem? (i := 2) rfl)) (hw _ (List.mem_of_getElem? (i := 3) rfl)) e0 (g := (mkF m 23 #[.val (.int p0), .val (.int p1), .val (.int p2), .val (.int p3), .val (.int p4), .val (.int (2 : Int32)), .val (.int k), .val (.double (FP.ddiv (FP.i2d k) (4625196817309499392 : UInt64))), .second, .unset] [])) rfl (hb hby at_23) (by decide) (by decide)
    obtain ⟨b19, gz19⟩ : ∃ z, z = h0.size := ⟨_, rfl⟩
    rw [← gz19] at A19 D19 st19
    have g_b19 : n0 ≤ b19 := Nat.le_trans ZH (Nat.le_of_eq gz19.symm)
    have sz_b19 : h0.size ≤ b19 := Nat.le_trans KK.1 (Nat.le_of_eq gz19.symm)
    have ZH := Nat.le_trans ZH E19.1
    have KK := KK.ext E19
    have E_b19 := A19
    have F_numbers_b19 : Fld Z h19 b19 "com/example/parley/parley/algorithms/Dgls$Modifiers" "numbers" "[[D" .null := D19 (Or.inr (hw _ (List.mem_of_getElem? (i := 13) rfl))) (ty := (.array (.array .double))) (by decide)
    have F_factors_b19 : Fld Z h19 b19 "com/example/parley/parley/algorithms/Dgls$Modifiers" "factors" "[D" .null := D19 (Or.inr (hw _ (List.mem_of_getElem? (i := 16) rfl))) (ty := (.array .double)) (by decide)
    have F_least_b19 : Fld Z h19 b19 "com/example/parley/parley/algorithms/Dgls$Modifiers" "least" "[D" .null := D19 (Or.inr (hw _ (List.mem_of_getElem? (i := 18) rfl))) (ty := (.array .double)) (by decide)
    have F_greatest_b19 : Fld Z h19 b19 "com/example/parley/parley/algorithms/Dgls$Modifiers" "greatest" "[D" .null := D19 (Or.inr (hw _ (List.mem_of_getElem? (i := 20) rfl))) (ty := (.array .double)) (by decide)
    have F_sums_b19 : Fld Z h19 b19 "com/example/parley/parley/algorithms/Dgls$Modifiers" "sums" "[D" .null := D19 (Or.inr (hw _ (List.mem_of_getElem? (i := 22) rfl))) (ty := (.array .double)) (by decide)
    have F_maxima_b19 : Fld Z h19 b19 "com/example/parley/parley/algorithms/Dgls$Modifiers" "maxima" "[D" .null := D19 (Or.inr (hw _ (List.mem_of_getElem? (i := 24) rfl))) (ty := (.array .double)) (by decide)
    have F_entries_b19 : Fld Z h19 b19 "com/example/parley/parley/algorithms/Dgls$Modifiers" "entries" "[J" .null := D19 (Or.inr (hw _ (List.mem_of_getElem? (i := 27) rfl))) (ty := (.array .long)) (by decide)
    refine own_up st19 ?_
    show own_Go p.tables e below _ (T19.setTop (mkF m 26 #[.val (.int p0), .val (.int p1), .val (.int p2), .val (.int p3), .val (.int p4), .val (.int (2 : Int32)), .val (.int k), .val (.double (FP.ddiv (FP.i2d k) (4625196817309499392 : UInt64))), .second, .unset] [(.ref b19)]))
    refine own_up (fun _ kq => XS.dup X19.here hx rfl (hb hby at_26) rfl rfl kq) ?_
    show own_Go p.tables e below _ (T19.setTop (mkF m 27 #[.val (.int p0), .val (.int p1), .val (.int p2), .val (.int p3), .val (.int p4), .val (.int (2 : Int32)), .val (.int k), .val (.double (FP.ddiv (FP.i2d k) (4625196817309499392 : UInt64))), .second, .unset] [(.ref b19), (.ref b19)]))
    refine own_up (fun _ kq => XS.iload X19.here hx rfl (hb hby at_27) rfl kq) ?_
    show own_Go p.tables e below _ (T19.setTop (mkF m 29 #[.val (.int p0), .val (.int p1), .val (.int p2), .val (.int p3), .val (.int p4), .val (.int (2 : Int32)), .val (.int k), .val (.double (FP.ddiv (FP.i2d k) (4625196817309499392 : UInt64))), .second, .unset] [(.int (2 : Int32)), (.ref b19), (.ref b19)]))
    obtain ⟨_, _, ⟨T20, L20, k20, n20⟩, -, X20, ⟨Lc20, hQ20, l20, y20, z20⟩, st20⟩ := X19.specialBack hx (y := (⟨"com/example/parley/parley/algorithms/Dgls$Modifiers", "<init>", "(I)V"⟩ : MethodName)) rfl hown (mvT hZ (hw _ (List.mem_of_getElem? (i := 4) rfl))) (mvT hZ (hw _ (List.mem_of_getElem? (i := 5) rfl))) (mvT hZ (hw _ (List.mem_of_getElem? (i := 6) rfl))) (by decide) (backOf (W := 1) (rmC2 l Z a0 hw [] b19 h19 n0 ZH E_b19 F_numbers_b19 F_factors_b19 F_least_b19 F_greatest_b19 F_sums_b19 F_maxima_b19 F_entries_b19 g_b19) hZ (hw _ (List.mem_of_getElem? (i := 6) rfl)) (hw _ (List.mem_of_getElem? (i := 3) rfl)) (by decide) (by decide)) (g := (mkF m 29 #[.val (.int p0), .val (.int p1), .val (.int p2), .val (.int p3), .val (.int p4), .val (.int (2 : Int32)), .val (.int k), .val (.double (FP.ddiv (FP.i2d k) (4625196817309499392 : UInt64))), .second, .unset] [(.int (2 : Int32)), (.ref b19), (.ref b19)])) rfl (by rw [hml]; rfl) (Steps.refl _) (a := b19) (argsL := [(.int (2 : Int32))]) (rest := [(.ref b19)]) (lenOf pd_0 rfl) rfl (by show 2 * 0 + _ ≤ _; exact Nat.le_of_eq rfl) (hb hby at_29) (fun _ _ => ⟨rfl, e19, (by decide : 1 + 7 ≤ _), (by decide : 7 + 14 ≤ _)⟩)
    dsimp only [Pt.U, Pt.locs, Pt.cells, Pt.slots] at X20 l20 y20 z20 st20 hQ20
    subst l20 y20 z20
    obtain ⟨rfl, Nq20, K20, bn, bf, bl, bg, kn, kf, kl, kg, szf, ne_bn_bf, ne_bl_bf, ne_bg_bf, Fbn, Fbf, Fbl, Fbg, V_bn, V_bf, V_bl, V_bg⟩ := hQ20
    have N20 := Fr.app N0 Nq20
    have E_b19 := E_b19.keep K20
    have ZH := Nat.le_trans ZH K20.1
    have KK := KK.trans K20 (allS (Or.inr sz_b19) all0)
    have g_bf : n0 ≤ bf := Nat.le_trans g_b19 (Nat.le_of_lt (Nat.lt_of_lt_of_le A19.lt szf))
    have sz_bf : h0.size ≤ bf := Nat.le_trans sz_b19 (Nat.le_of_lt (Nat.lt_of_lt_of_le A19.lt szf))
    have ne_b19_bf : b19 ≠ bf := Nat.ne_of_lt (Nat.lt_of_lt_of_le A19.lt szf)
    refine own_up (fun _ kq => st20.trans kq) ?_
    show own_Go p.tables e below _ (T20.setTop (mkF m 32 #[.val (.int p0), .val (.int p1), .val (.int p2), .val (.int p3), .val (.int p4), .val (.int (2 : Int32)), .val (.int k), .val (.double (FP.ddiv (FP.i2d k) (4625196817309499392 : UInt64))), .second, .unset] [(.ref b19)]))
    refine own_up (fun _ kq => XS.astore X20.here hx rfl (hb hby at_32) rfl rfl (l' := #[.val (.int p0), .val (.int p1), .val (.int p2), .val (.int p3), .val (.int p4), .val (.int (2 : Int32)), .val (.int k), .val (.double (FP.ddiv (FP.i2d k) (4625196817309499392 : UInt64))), .second, .val (.ref b19)]) rfl kq) ?_
    show own_Go p.tables e below _ (T20.setTop (mkF m 34 #[.val (.int p0), .val (.int p1), .val (.int p2), .val (.int p3), .val (.int p4), .val (.int (2 : Int32)), .val (.int k), .val (.double (FP.ddiv (FP.i2d k) (4625196817309499392 : UInt64))), .second, .val (.ref b19)] []))
    refine own_up (fun _ kq => XS.iload X20.here hx rfl (hb hby at_34) rfl kq) ?_
    show own_Go p.tables e below _ (T20.setTop (mkF m 36 #[.val (.int p0), .val (.int p1), .val (.int p2), .val (.int p3), .val (.int p4), .val (.int (2 : Int32)), .val (.int k), .val (.double (FP.ddiv (FP.i2d k) (4625196817309499392 : UInt64))), .second, .val (.ref b19)] [(.int (2 : Int32))]))
    refine own_up (fun _ kq => XS.ifNo X20.here hx rfl (hb hby at_36) rfl ((if0 _ _).trans (tlt (by decide : (0 : Int32) < (2 : Int32))).2.2.2) kq) ?_
    show own_Go p.tables e below _ (T20.setTop (mkF m 39 #[.val (.int p0), .val (.int p1), .val (.int p2), .val (.int p3), .val (.int p4), .val (.int (2 : Int32)), .val (.int k), .val (.double (FP.ddiv (FP.i2d k) (4625196817309499392 : UInt64))), .second, .val (.ref b19)] []))
    refine own_up (fun _ kq => XS.aload X20.here hx rfl (hb hby at_39) rfl rfl kq) ?_
    show own_Go p.tables e below _ (T20.setTop (mkF m 41 #[.val (.int p0), .val (.int p1), .val (.int p2), .val (.int p3), .val (.int p4), .val (.int (2 : Int32)), .val (.int k), .val (.double (FP.ddiv (FP.i2d k) (4625196817309499392 : UInt64))), .second, .val (.ref b19)] [(.ref b19)]))
    obtain ⟨T21, X21, e21, st21⟩ := getF X20 hx hZ hown (host := "") (Or.inl (hw _ (List.mem_of_getElem? (i := 33) rfl))) Via.refl rfl Fbf (g := (mkF m 41 #[.val (.int p0), .val (.int p1), .val (.int p2), .val (.int p3), .val (.int p4), .val (.int (2 : Int32)), .val (.int k), .val (.double (FP.ddiv (FP.i2d k) (4625196817309499392 : UInt64))), .second, .val (.ref b19)] [(.ref b19)])) rfl rfl (hb hby at_41)
    refine own_up st21 ?_
    show own_Go p.tables e below _ (T21.setTop (mkF m 44 #[.val (.int p0), .val (.int p1), .val (.int p2), .val (.int p3), .val (.int p4), .val (.int (2 : Int32)), .val (.int k), .val (.double (FP.ddiv (FP.i2d k) (4625196817309499392 : UInt64))), .second, .val (.ref b19)] [(.ref bf)]))
    refine own_up (fun _ kq => XS.iconst X21.here hx rfl (hb hby at_44) kq) ?_
    show own_Go p.tables e below _ (T21.setTop (mkF m 45 #[.val (.int p0), .val (.int p1), .val (.int p2), .val (.int p3), .val (.int p4), .val (.int (2 : Int32)), .val (.int k), .val (.double (FP.ddiv (FP.i2d k) (4625196817309499392 : UInt64))), .second, .val (.ref b19)] [(.int (0 : Int32)), (.ref bf)]))
    refine own_up (fun _ kq => XS.iloadN X21.here hx rfl (hb hby at_45) rfl kq) ?_
    show own_Go p.tables e below _ (T21.setTop (mkF m 46 #[.val (.int p0), .val (.int p1), .val (.int p2), .val (.int p3), .val (.int p4), .val (.int (2 : Int32)), .val (.int k), .val (.double (FP.ddiv (FP.i2d k) (4625196817309499392 : UInt64))), .second, .val (.ref b19)] [(.int p1), (.int (0 : Int32)), (.ref bf)]))
    refine own_up (fun _ kq => XS.i2dS X21.here hx rfl (v := (FP.i2d p1)) (hb hby at_46) rfl rfl kq) ?_
    show own_Go p.tables e below _ (T21.setTop (mkF m 47 #[.val (.int p0), .val (.int p1), .val (.int p2), .val (.int p3), .val (.int p4), .val (.int (2 : Int32)), .val (.int k), .val (.double (FP.ddiv (FP.i2d k) (4625196817309499392 : UInt64))), .second, .val (.ref b19)] [(.double (FP.i2d p1)), (.int (0 : Int32)), (.ref bf)]))
    obtain ⟨cl22, Ar22, q22, sz22, nz22, hH22, hG22⟩ := V_bf
    obtain ⟨T22, h22, X22, e22, W22, st22⟩ := stD X21 hx hZ e21 Ar22 (j := (0 : Int32)) (inb_of sz22 ⟨by decide, by decide⟩) (g := (mkF m 47 #[.val (.int p0), .val (.int p1), .val (.int p2), .val (.int p3), .val (.int p4), .val (.int (2 : Int32)), .val (.int k), .val (.double (FP.ddiv (FP.i2d k) (4625196817309499392 : UInt64))), .second, .val (.ref b19)] [(.double (FP.i2d p1)), (.int (0 : Int32)), (.ref bf)])) rfl rfl (hb hby at_47)
    have V_bf : Arv Z h22 bf kf .double (2 : Int32) [(.double (FP.i2d p1)), (.double (0 : UInt64))] (.double (0 : UInt64)) := Arv.set Ar22 q22 sz22 nz22 hH22 hG22 rfl W22 0 rfl (Nat.le_of_ble_eq_true rfl)
    have N22 := Fr.snoc X22 N20 g_bf
    have E_b19 := E_b19.wr W22
    have Fbn := Fbn.other W22 (Or.inl ne_b19_bf)
    have V_bn := V_bn.other W22 ne_bn_bf
    have Fbf := Fbf.other W22 (Or.inl ne_b19_bf)
    have Fbl := Fbl.other W22 (Or.inl ne_b19_bf)
    have V_bl := V_bl.other W22 ne_bl_bf
    have Fbg := Fbg.other W22 (Or.inl ne_b19_bf)
    have V_bg := V_bg.other W22 ne_bg_bf
    have ZH := Nat.le_trans ZH (Nat.le_of_eq W22.size.symm)
    have KK := KK.wr W22 (Or.inr sz_bf)
    refine own_up st22 ?_
    show own_Go p.tables e below _ (T22.setTop (mkF m 48 #[.val (.int p0), .val (.int p1), .val (.int p2), .val (.int p3), .val (.int p4), .val (.int (2 : Int32)), .val (.int k), .val (.double (FP.ddiv (FP.i2d k) (4625196817309499392 : UInt64))), .second, .val (.ref b19)] []))
    refine own_up (fun _ kq => XS.iload X22.here hx rfl (hb hby at_48) rfl kq) ?_
    show own_Go p.tables e below _ (T22.setTop (mkF m 50 #[.val (.int p0), .val (.int p1), .val (.int p2), .val (.int p3), .val (.int p4), .val (.int (2 : Int32)), .val (.int k), .val (.double (FP.ddiv (FP.i2d k) (4625196817309499392 : UInt64))), .second, .val (.ref b19)] [(.int (2 : Int32))]))
    refine own_up (fun _ kq => XS.iconst X22.here hx rfl (hb hby at_50) kq) ?_
    show own_Go p.tables e below _ (T22.setTop (mkF m 51 #[.val (.int p0), .val (.int p1), .val (.int p2), .val (.int p3), .val (.int p4), .val (.int (2 : Int32)), .val (.int k), .val (.double (FP.ddiv (FP.i2d k) (4625196817309499392 : UInt64))), .second, .val (.ref b19)] [(.int (1 : Int32)), (.int (2 : Int32))]))
    refine own_up (fun _ kq => XS.icmpNo X22.here hx rfl (hb hby at_51) rfl (tlt (by decide : (1 : Int32) < (2 : Int32))).2.2.2 kq) ?_
    show own_Go p.tables e below _ (T22.setTop (mkF m 54 #[.val (.int p0), .val (.int p1), .val (.int p2), .val (.int p3), .val (.int p4), .val (.int (2 : Int32)), .val (.int k), .val (.double (FP.ddiv (FP.i2d k) (4625196817309499392 : UInt64))), .second, .val (.ref b19)] []))
    refine own_up (fun _ kq => XS.aload X22.here hx rfl (hb hby at_54) rfl rfl kq) ?_
    show own_Go p.tables e below _ (T22.setTop (mkF m 56 #[.val (.int p0), .val (.int p1), .val (.int p2), .val (.int p3), .val (.int p4), .val (.int (2 : Int32)), .val (.int k), .val (.double (FP.ddiv (FP.i2d k) (4625196817309499392 : UInt64))), .second, .val (.ref b19)] [(.ref b19)]))
    obtain ⟨T23, X23, e23, st23⟩ := getF X22 hx hZ hown (host := "") (Or.inl (hw _ (List.mem_of_getElem? (i := 33) rfl))) Via.refl e22 Fbf (g := (mkF m 56 #[.val (.int p0), .val (.int p1), .val (.int p2), .val (.int p3), .val (.int p4), .val (.int (2 : Int32)), .val (.int k), .val (.double (FP.ddiv (FP.i2d k) (4625196817309499392 : UInt64))), .second, .val (.ref b19)] [(.ref b19)])) rfl rfl (hb hby at_56)
    refine own_up st23 ?_
    show own_Go p.tables e below _ (T23.setTop (mkF m 59 #[.val (.int p0), .val (.int p1), .val (.int p2), .val (.int p3), .val (.int p4), .val (.int (2 : Int32)), .val (.int k), .val (.double (FP.ddiv (FP.i2d k) (4625196817309499392 : UInt64))), .second, .val (.ref b19)] [(.ref bf)]))
    refine own_up (fun _ kq => XS.iconst X23.here hx rfl (hb hby at_59) kq) ?_
    show own_Go p.tables e below _ (T23.setTop (mkF m 60 #[.val (.int p0), .val (.int p1), .val (.int p2), .val (.int p3), .val (.int p4), .val (.int (2 : Int32)), .val (.int k), .val (.double (FP.ddiv (FP.i2d k) (4625196817309499392 : UInt64))), .second, .val (.ref b19)] [(.int (1 : Int32)), (.ref bf)]))
    refine own_up (fun _ kq => XS.iloadN X23.here hx rfl (hb hby at_60) rfl kq) ?_
    show own_Go p.tables e below _ (T23.setTop (mkF m 61 #[.val (.int p0), .val (.int p1), .val (.int p2), .val (.int p3), .val (.int p4), .val (.int (2 : Int32)), .val (.int k), .val (.double (FP.ddiv (FP.i2d k) (4625196817309499392 : UInt64))), .second, .val (.ref b19)] [(.int p2), (.int (1 : Int32)), (.ref bf)]))
    refine own_up (fun _ kq => XS.i2dS X23.here hx rfl (v := (FP.i2d p2)) (hb hby at_61) rfl rfl kq) ?_
    show own_Go p.tables e below _ (T23.setTop (mkF m 62 #[.val (.int p0), .val (.int p1), .val (.int p2), .val (.int p3), .val (.int p4), .val (.int (2 : Int32)), .val (.int k), .val (.double (FP.ddiv (FP.i2d k) (4625196817309499392 : UInt64))), .second, .val (.ref b19)] [(.double (FP.i2d p2)), (.int (1 : Int32)), (.ref bf)]))
    obtain ⟨cl24, Ar24, q24, sz24, nz24, hH24, hG24⟩ := V_bf
    obtain ⟨T24, h24, X24, e24, W24, st24⟩ := stD X23 hx hZ e23 Ar24 (j := (1 : Int32)) (inb_of sz24 ⟨by decide, by decide⟩) (g := (mkF m 62 #[.val (.int p0), .val (.int p1), .val (.int p2), .val (.int p3), .val (.int p4), .val (.int (2 : Int32)), .val (.int k), .val (.double (FP.ddiv (FP.i2d k) (4625196817309499392 : UInt64))), .second, .val (.ref b19)] [(.double (FP.i2d p2)), (.int (1 : Int32)), (.ref bf)])) rfl rfl (hb hby at_62)
    have V_bf : Arv Z h24 bf kf .double (2 : Int32) [(.double (FP.i2d p1)), (.double (FP.i2d p2))] (.double (0 : UInt64)) := Arv.set Ar24 q24 sz24 nz24 hH24 hG24 rfl W24 1 rfl (Nat.le_of_ble_eq_true rfl)
    have N24 := Fr.snoc X24 N22 g_bf
    have E_b19 := E_b19.wr W24
    have Fbn := Fbn.other W24 (Or.inl ne_b19_bf)
    have V_bn := V_bn.other W24 ne_bn_bf
    have Fbf := Fbf.other W24 (Or.inl ne_b19_bf)
    have Fbl := Fbl.other W24 (Or.inl ne_b19_bf)
    have V_bl := V_bl.other W24 ne_bl_bf
    have Fbg := Fbg.other W24 (Or.inl ne_b19_bf)
    have V_bg := V_bg.other W24 ne_bg_bf
    have ZH := Nat.le_trans ZH (Nat.le_of_eq W24.size.symm)
    have KK := KK.wr W24 (Or.inr sz_bf)
    refine own_up st24 ?_
    show own_Go p.tables e below _ (T24.setTop (mkF m 63 #[.val (.int p0), .val (.int p1), .val (.int p2), .val (.int p3), .val (.int p4), .val (.int (2 : Int32)), .val (.int k), .val (.double (FP.ddiv (FP.i2d k) (4625196817309499392 : UInt64))), .second, .val (.ref b19)] []))
    refine own_up (fun _ kq => XS.iload X24.here hx rfl (hb hby at_63) rfl kq) ?_
    show own_Go p.tables e below _ (T24.setTop (mkF m 65 #[.val (.int p0), .val (.int p1), .val (.int p2), .val (.int p3), .val (.int p4), .val (.int (2 : Int32)), .val (.int k), .val (.double (FP.ddiv (FP.i2d k) (4625196817309499392 : UInt64))), .second, .val (.ref b19)] [(.int (2 : Int32))]))
    refine own_up (fun _ kq => XS.iconst X24.here hx rfl (hb hby at_65) kq) ?_
    show own_Go p.tables e below _ (T24.setTop (mkF m 66 #[.val (.int p0), .val (.int p1), .val (.int p2), .val (.int p3), .val (.int p4), .val (.int (2 : Int32)), .val (.int k), .val (.double (FP.ddiv (FP.i2d k) (4625196817309499392 : UInt64))), .second, .val (.ref b19)] [(.int (2 : Int32)), (.int (2 : Int32))]))
    refine own_up (fun _ kq => XS.icmpYes X24.here hx rfl (pc0 := 66) (pc' := 78) rfl (hb hby at_66) rfl (flt (by decide : ¬ ((2 : Int32) < (2 : Int32)))).2.2.2 (by decide) (by decide) kq) ?_
    show own_Go p.tables e below _ (T24.setTop (mkF m 78 #[.val (.int p0), .val (.int p1), .val (.int p2), .val (.int p3), .val (.int p4), .val (.int (2 : Int32)), .val (.int k), .val (.double (FP.ddiv (FP.i2d k) (4625196817309499392 : UInt64))), .second, .val (.ref b19)] []))
    refine own_up (fun _ kq => XS.aload X24.here hx rfl (hb hby at_78) rfl rfl kq) ?_
    show own_Go p.tables e below _ (T24.setTop (mkF m 80 #[.val (.int p0), .val (.int p1), .val (.int p2), .val (.int p3), .val (.int p4), .val (.int (2 : Int32)), .val (.int k), .val (.double (FP.ddiv (FP.i2d k) (4625196817309499392 : UInt64))), .second, .val (.ref b19)] [(.ref b19)]))
    refine own_up (fun _ kq => XS.dload X24.here hx rfl (hb hby at_80) rfl kq) ?_
    show own_Go p.tables e below _ (T24.setTop (mkF m 82 #[.val (.int p0), .val (.int p1), .val (.int p2), .val (.int p3), .val (.int p4), .val (.int (2 : Int32)), .val (.int k), .val (.double (FP.ddiv (FP.i2d k) (4625196817309499392 : UInt64))), .second, .val (.ref b19)] [(.double (FP.ddiv (FP.i2d k) (4625196817309499392 : UInt64))), (.ref b19)]))
    obtain ⟨cq25, kq25, q25a, q25b, q25c⟩ := isOf hZ e24 E_b19
    obtain ⟨_, _, ⟨T25, L25, k25, n25⟩, -, X25, ⟨Lc25, hQ25, l25, y25, z25⟩, st25⟩ := X24.virtualBack hx (y := (⟨"com/example/parley/parley/algorithms/Dgls$Modifiers", "shrink", "(D)V"⟩ : MethodName)) (z := (⟨"com/example/parley/parley/algorithms/Dgls$Modifiers", "shrink", "(D)V"⟩ : MethodName)) hown (mvT hZ (hw _ (List.mem_of_getElem? (i := 28) rfl))) (mvT hZ (hw _ (List.mem_of_getElem? (i := 29) rfl))) (notFace_of_selects (args := #[]) (mvT hZ (hw _ (List.mem_of_getElem? (i := 31) rfl)))) (mvT hZ (hw _ (List.mem_of_getElem? (i := 31) rfl))) (mvT hZ (hw _ (List.mem_of_getElem? (i := 30) rfl))) (by decide) (backOf (W := 0) (rmS2 l Z a0 hw [] b19 (FP.ddiv (FP.i2d k) (4625196817309499392 : UInt64)) bf kf (FP.i2d p1) (FP.i2d p2) h24 n0 ZH Fbf V_bf g_bf ne_b19_bf (own_mulnn p1 hk') (own_mulnn p2 hk')) hZ (hw _ (List.mem_of_getElem? (i := 32) rfl)) (hw _ (List.mem_of_getElem? (i := 3) rfl)) (by decide) (by decide)) q25a q25c (g := (mkF m 82 #[.val (.int p0), .val (.int p1), .val (.int p2), .val (.int p3), .val (.int p4), .val (.int (2 : Int32)), .val (.int k), .val (.double (FP.ddiv (FP.i2d k) (4625196817309499392 : UInt64))), .second, .val (.ref b19)] [(.double (FP.ddiv (FP.i2d k) (4625196817309499392 : UInt64))), (.ref b19)])) rfl (by rw [hml]; rfl) (Steps.refl _) (argsL := [(.double (FP.ddiv (FP.i2d k) (4625196817309499392 : UInt64)))]) (rest := []) (lenOf pd_1 rfl) rfl (by show 2 * 0 + _ ≤ _; exact Nat.le_of_eq rfl) (hb hby at_82) (fun _ _ => ⟨rfl, e24, (by decide : 8 + 0 ≤ _), (by decide : 21 + 0 ≤ _)⟩)
    dsimp only [Pt.U, Pt.locs, Pt.cells, Pt.slots] at X25 l25 y25 z25 st25 hQ25
    subst l25 y25 z25
    obtain ⟨rfl, Nq25, K25, V_bf'⟩ := hQ25
    have N25 := Fr.app N24 Nq25
    have E_b19 := E_b19.keep K25
    have Fbn := Fbn.keep K25 (ninS ne_b19_bf nin0)
    have V_bn := V_bn.keep K25 (ninS ne_bn_bf nin0)
    have Fbf := Fbf.keep K25 (ninS ne_b19_bf nin0)
    have Fbl := Fbl.keep K25 (ninS ne_b19_bf nin0)
    have V_bl := V_bl.keep K25 (ninS ne_bl_bf nin0)
    have Fbg := Fbg.keep K25 (ninS ne_b19_bf nin0)
    have V_bg := V_bg.keep K25 (ninS ne_bg_bf nin0)
    have ZH := Nat.le_trans ZH K25.1
    have KK := KK.trans K25 (allS (Or.inr sz_bf) all0)
    have V_bf := V_bf'
    refine own_up (fun _ kq => st25.trans kq) ?_
    show own_Go p.tables e below _ (T25.setTop (mkF m 85 #[.val (.int p0), .val (.int p1), .val (.int p2), .val (.int p3), .val (.int p4), .val (.int (2 : Int32)), .val (.int k), .val (.double (FP.ddiv (FP.i2d k) (4625196817309499392 : UInt64))), .second, .val (.ref b19)] []))
    refine own_up (fun _ kq => XS.aload X25.here hx rfl (hb hby at_85) rfl rfl kq) ?_
    show own_Go p.tables e below _ (T25.setTop (mkF m 87 #[.val (.int p0), .val (.int p1), .val (.int p2), .val (.int p3), .val (.int p4), .val (.int (2 : Int32)), .val (.int k), .val (.double (FP.ddiv (FP.i2d k) (4625196817309499392 : UInt64))), .second, .val (.ref b19)] [(.ref b19)]))
    obtain ⟨T26, X26, e26, st26⟩ := getF X25 hx hZ hown (host := "") (Or.inl (hw _ (List.mem_of_getElem? (i := 33) rfl))) Via.refl rfl Fbf (g := (mkF m 87 #[.val (.int p0), .val (.int p1), .val (.int p2), .val (.int p3), .val (.int p4), .val (.int (2 : Int32)), .val (.int k), .val (.double (FP.ddiv (FP.i2d k) (4625196817309499392 : UInt64))), .second, .val (.ref b19)] [(.ref b19)])) rfl rfl (hb hby at_87)
    refine own_up st26 ?_
    show own_Go p.tables e below _ (T26.setTop (mkF m 90 #[.val (.int p0), .val (.int p1), .val (.int p2), .val (.int p3), .val (.int p4), .val (.int (2 : Int32)), .val (.int k), .val (.double (FP.ddiv (FP.i2d k) (4625196817309499392 : UInt64))), .second, .val (.ref b19)] [(.ref bf)]))
    refine own_up (fun _ kq => own_Arf.alen (own_Arf.ofArv V_bf) X26 hx hZ e26 (g := (mkF m 90 #[.val (.int p0), .val (.int p1), .val (.int p2), .val (.int p3), .val (.int p4), .val (.int (2 : Int32)), .val (.int k), .val (.double (FP.ddiv (FP.i2d k) (4625196817309499392 : UInt64))), .second, .val (.ref b19)] [(.ref bf)])) rfl rfl (hb hby at_90) _ kq) ?_
    show own_Go p.tables e below _ (T26.setTop (mkF m 91 #[.val (.int p0), .val (.int p1), .val (.int p2), .val (.int p3), .val (.int p4), .val (.int (2 : Int32)), .val (.int k), .val (.double (FP.ddiv (FP.i2d k) (4625196817309499392 : UInt64))), .second, .val (.ref b19)] [(.int (2 : Int32))]))
    refine own_up (fun _ kq => XS.iload X26.here hx rfl (hb hby at_91) rfl kq) ?_
    show own_Go p.tables e below _ (T26.setTop (mkF m 93 #[.val (.int p0), .val (.int p1), .val (.int p2), .val (.int p3), .val (.int p4), .val (.int (2 : Int32)), .val (.int k), .val (.double (FP.ddiv (FP.i2d k) (4625196817309499392 : UInt64))), .second, .val (.ref b19)] [(.int (2 : Int32)), (.int (2 : Int32))]))
    refine own_up (fun _ kq => XS.icmpNo X26.here hx rfl (hb hby at_93) rfl (teq (by decide : (2 : Int32) = (2 : Int32))).2 kq) ?_
    show own_Go p.tables e below _ (T26.setTop (mkF m 96 #[.val (.int p0), .val (.int p1), .val (.int p2), .val (.int p3), .val (.int p4), .val (.int (2 : Int32)), .val (.int k), .val (.double (FP.ddiv (FP.i2d k) (4625196817309499392 : UInt64))), .second, .val (.ref b19)] []))
    refine own_up (fun _ kq => XS.aload X26.here hx rfl (hb hby at_96) rfl rfl kq) ?_
    show own_Go p.tables e below _ (T26.setTop (mkF m 98 #[.val (.int p0), .val (.int p1), .val (.int p2), .val (.int p3), .val (.int p4), .val (.int (2 : Int32)), .val (.int k), .val (.double (FP.ddiv (FP.i2d k) (4625196817309499392 : UInt64))), .second, .val (.ref b19)] [(.ref b19)]))
    refine own_up (fun _ kq => XS.iconst X26.here hx rfl (hb hby at_98) kq) ?_
    show own_Go p.tables e below _ (T26.setTop (mkF m 99 #[.val (.int p0), .val (.int p1), .val (.int p2), .val (.int p3), .val (.int p4), .val (.int (2 : Int32)), .val (.int k), .val (.double (FP.ddiv (FP.i2d k) (4625196817309499392 : UInt64))), .second, .val (.ref b19)] [(.int (0 : Int32)), (.ref b19)]))
    refine own_up (fun _ kq => XS.iload X26.here hx rfl (hb hby at_99) rfl kq) ?_
    show own_Go p.tables e below _ (T26.setTop (mkF m 101 #[.val (.int p0), .val (.int p1), .val (.int p2), .val (.int p3), .val (.int p4), .val (.int (2 : Int32)), .val (.int k), .val (.double (FP.ddiv (FP.i2d k) (4625196817309499392 : UInt64))), .second, .val (.ref b19)] [(.int (2 : Int32)), (.int (0 : Int32)), (.ref b19)]))
    refine own_up (fun _ kq => XS.iloadN X26.here hx rfl (hb hby at_101) rfl kq) ?_
    show own_Go p.tables e below _ (T26.setTop (mkF m 102 #[.val (.int p0), .val (.int p1), .val (.int p2), .val (.int p3), .val (.int p4), .val (.int (2 : Int32)), .val (.int k), .val (.double (FP.ddiv (FP.i2d k) (4625196817309499392 : UInt64))), .second, .val (.ref b19)] [(.int p1), (.int (2 : Int32)), (.int (0 : Int32)), (.ref b19)]))
    refine own_up (fun _ kq => XS.iload X26.here hx rfl (hb hby at_102) rfl kq) ?_
    show own_Go p.tables e below _ (T26.setTop (mkF m 104 #[.val (.int p0), .val (.int p1), .val (.int p2), .val (.int p3), .val (.int p4), .val (.int (2 : Int32)), .val (.int k), .val (.double (FP.ddiv (FP.i2d k) (4625196817309499392 : UInt64))), .second, .val (.ref b19)] [(.int k), (.int p1), (.int (2 : Int32)), (.int (0 : Int32)), (.ref b19)]))
    obtain ⟨_, _, ⟨T27, L27, k27, n27⟩, -, X27, ⟨Lc27, hQ27, l27, y27, z27⟩, st27⟩ := Jvm.LawKit.callS X26 hx (y := (⟨"com/example/parley/parley/algorithms/ModifiersShrinkPinLaw", "ok", "(Lcom/example/parley/parley/algorithms/Dgls$Modifiers;IIII)Z"⟩ : MethodName)) hown (mvT hZ (hw _ (List.mem_of_getElem? (i := 34) rfl))) (mvT hZ (hw _ (List.mem_of_getElem? (i := 35) rfl))) (mvT hZ (hw _ (List.mem_of_getElem? (i := 36) rfl))) (mvT hZ (hw _ (List.mem_of_getElem? (i := 37) rfl))) (by decide) (backOf (W := 0) (rmI l Z a0 hw [] b19 (0 : Int32) (2 : Int32) p1 k bn bf bl bg (FP.dmul (FP.i2d p1) (FP.ddiv (FP.i2d k) (4625196817309499392 : UInt64))) _ _ _ _ T25.heap n0 ZH (by decide) (by decide) Fbn Fbf Fbl Fbg (own_Arf.ofArv V_bn) (own_Arf.ofArv V_bf) (own_Arf.ofArv V_bl) (own_Arf.ofArv V_bg) rfl rfl rfl rfl (own_key p1 hk') (own_expnn p1 hk')) hZ (hw _ (List.mem_of_getElem? (i := 37) rfl)) (hw _ (List.mem_of_getElem? (i := 36) rfl)) (by decide) (by decide)) (g := (mkF m 104 #[.val (.int p0), .val (.int p1), .val (.int p2), .val (.int p3), .val (.int p4), .val (.int (2 : Int32)), .val (.int k), .val (.double (FP.ddiv (FP.i2d k) (4625196817309499392 : UInt64))), .second, .val (.ref b19)] [(.int k), (.int p1), (.int (2 : Int32)), (.int (0 : Int32)), (.ref b19)])) rfl (by rw [hml]; rfl) (argsL := [(.ref b19), (.int (0 : Int32)), (.int (2 : Int32)), (.int p1), (.int k)]) (rest := []) (lenOf pd_2 rfl) rfl (by show 2 * 0 + _ ≤ _; exact Nat.le_of_eq rfl) (hb hby at_104) (fun _ _ => ⟨rfl, e26, (by decide : 8 + 0 ≤ _), (by decide : 21 + 0 ≤ _)⟩)
    dsimp only [Pt.U, Pt.locs, Pt.cells, Pt.slots] at X27 l27 y27 z27 st27 hQ27
    subst l27 y27 z27
    obtain ⟨rfl, Nq27, e27⟩ := hQ27
    have N27 := Fr.app N25 Nq27
    refine own_up st27 ?_
    show own_Go p.tables e below _ (T27.setTop (mkF m 107 #[.val (.int p0), .val (.int p1), .val (.int p2), .val (.int p3), .val (.int p4), .val (.int (2 : Int32)), .val (.int k), .val (.double (FP.ddiv (FP.i2d k) (4625196817309499392 : UInt64))), .second, .val (.ref b19)] [(.int (1 : Int32))]))
    refine own_up (fun _ kq => XS.ifNo X27.here hx rfl (hb hby at_107) rfl ((if0 _ _).trans (feq (by decide : ¬ ((1 : Int32) = (0 : Int32)))).1) kq) ?_
    show own_Go p.tables e below _ (T27.setTop (mkF m 110 #[.val (.int p0), .val (.int p1), .val (.int p2), .val (.int p3), .val (.int p4), .val (.int (2 : Int32)), .val (.int k), .val (.double (FP.ddiv (FP.i2d k) (4625196817309499392 : UInt64))), .second, .val (.ref b19)] []))
    refine own_up (fun _ kq => XS.aload X27.here hx rfl (hb hby at_110) rfl rfl kq) ?_
    show own_Go p.tables e below _ (T27.setTop (mkF m 112 #[.val (.int p0), .val (.int p1), .val (.int p2), .val (.int p3), .val (.int p4), .val (.int (2 : Int32)), .val (.int k), .val (.double (FP.ddiv (FP.i2d k) (4625196817309499392 : UInt64))), .second, .val (.ref b19)] [(.ref b19)]))
    refine own_up (fun _ kq => XS.iconst X27.here hx rfl (hb hby at_112) kq) ?_
    show own_Go p.tables e below _ (T27.setTop (mkF m 113 #[.val (.int p0), .val (.int p1), .val (.int p2), .val (.int p3), .val (.int p4), .val (.int (2 : Int32)), .val (.int k), .val (.double (FP.ddiv (FP.i2d k) (4625196817309499392 : UInt64))), .second, .val (.ref b19)] [(.int (1 : Int32)), (.ref b19)]))
    refine own_up (fun _ kq => XS.iload X27.here hx rfl (hb hby at_113) rfl kq) ?_
    show own_Go p.tables e below _ (T27.setTop (mkF m 115 #[.val (.int p0), .val (.int p1), .val (.int p2), .val (.int p3), .val (.int p4), .val (.int (2 : Int32)), .val (.int k), .val (.double (FP.ddiv (FP.i2d k) (4625196817309499392 : UInt64))), .second, .val (.ref b19)] [(.int (2 : Int32)), (.int (1 : Int32)), (.ref b19)]))
    refine own_up (fun _ kq => XS.iloadN X27.here hx rfl (hb hby at_115) rfl kq) ?_
    show own_Go p.tables e below _ (T27.setTop (mkF m 116 #[.val (.int p0), .val (.int p1), .val (.int p2), .val (.int p3), .val (.int p4), .val (.int (2 : Int32)), .val (.int k), .val (.double (FP.ddiv (FP.i2d k) (4625196817309499392 : UInt64))), .second, .val (.ref b19)] [(.int p2), (.int (2 : Int32)), (.int (1 : Int32)), (.ref b19)]))
    refine own_up (fun _ kq => XS.iload X27.here hx rfl (hb hby at_116) rfl kq) ?_
    show own_Go p.tables e below _ (T27.setTop (mkF m 118 #[.val (.int p0), .val (.int p1), .val (.int p2), .val (.int p3), .val (.int p4), .val (.int (2 : Int32)), .val (.int k), .val (.double (FP.ddiv (FP.i2d k) (4625196817309499392 : UInt64))), .second, .val (.ref b19)] [(.int k), (.int p2), (.int (2 : Int32)), (.int (1 : Int32)), (.ref b19)]))
    obtain ⟨_, _, ⟨T28, L28, k28, n28⟩, -, X28, ⟨Lc28, hQ28, l28, y28, z28⟩, st28⟩ := Jvm.LawKit.callS X27 hx (y := (⟨"com/example/parley/parley/algorithms/ModifiersShrinkPinLaw", "ok", "(Lcom/example/parley/parley/algorithms/Dgls$Modifiers;IIII)Z"⟩ : MethodName)) hown (mvT hZ (hw _ (List.mem_of_getElem? (i := 34) rfl))) (mvT hZ (hw _ (List.mem_of_getElem? (i := 35) rfl))) (mvT hZ (hw _ (List.mem_of_getElem? (i := 36) rfl))) (mvT hZ (hw _ (List.mem_of_getElem? (i := 37) rfl))) (by decide) (backOf (W := 0) (rmI l Z a0 hw [] b19 (1 : Int32) (2 : Int32) p2 k bn bf bl bg (FP.dmul (FP.i2d p2) (FP.ddiv (FP.i2d k) (4625196817309499392 : UInt64))) _ _ _ _ T25.heap n0 ZH (by decide) (by decide) Fbn Fbf Fbl Fbg (own_Arf.ofArv V_bn) (own_Arf.ofArv V_bf) (own_Arf.ofArv V_bl) (own_Arf.ofArv V_bg) rfl rfl rfl rfl (own_key p2 hk') (own_expnn p2 hk')) hZ (hw _ (List.mem_of_getElem? (i := 37) rfl)) (hw _ (List.mem_of_getElem? (i := 36) rfl)) (by decide) (by decide)) (g := (mkF m 118 #[.val (.int p0), .val (.int p1), .val (.int p2), .val (.int p3), .val (.int p4), .val (.int (2 : Int32)), .val (.int k), .val (.double (FP.ddiv (FP.i2d k) (4625196817309499392 : UInt64))), .second, .val (.ref b19)] [(.int k), (.int p2), (.int (2 : Int32)), (.int (1 : Int32)), (.ref b19)])) rfl (by rw [hml]; rfl) (argsL := [(.ref b19), (.int (1 : Int32)), (.int (2 : Int32)), (.int p2), (.int k)]) (rest := []) (lenOf pd_2 rfl) rfl (by show 2 * 0 + _ ≤ _; exact Nat.le_of_eq rfl) (hb hby at_118) (fun _ _ => ⟨rfl, e27, (by decide : 8 + 0 ≤ _), (by decide : 21 + 0 ≤ _)⟩)
    dsimp only [Pt.U, Pt.locs, Pt.cells, Pt.slots] at X28 l28 y28 z28 st28 hQ28
    subst l28 y28 z28
    obtain ⟨rfl, Nq28, e28⟩ := hQ28
    have N28 := Fr.app N27 Nq28
    refine own_up st28 ?_
    show own_Go p.tables e below _ (T28.setTop (mkF m 121 #[.val (.int p0), .val (.int p1), .val (.int p2), .val (.int p3), .val (.int p4), .val (.int (2 : Int32)), .val (.int k), .val (.double (FP.ddiv (FP.i2d k) (4625196817309499392 : UInt64))), .second, .val (.ref b19)] [(.int (1 : Int32))]))
    refine own_up (fun _ kq => XS.ifNo X28.here hx rfl (hb hby at_121) rfl ((if0 _ _).trans (feq (by decide : ¬ ((1 : Int32) = (0 : Int32)))).1) kq) ?_
    show own_Go p.tables e below _ (T28.setTop (mkF m 124 #[.val (.int p0), .val (.int p1), .val (.int p2), .val (.int p3), .val (.int p4), .val (.int (2 : Int32)), .val (.int k), .val (.double (FP.ddiv (FP.i2d k) (4625196817309499392 : UInt64))), .second, .val (.ref b19)] []))
    refine own_up (fun _ kq => XS.aload X28.here hx rfl (hb hby at_124) rfl rfl kq) ?_
    show own_Go p.tables e below _ (T28.setTop (mkF m 126 #[.val (.int p0), .val (.int p1), .val (.int p2), .val (.int p3), .val (.int p4), .val (.int (2 : Int32)), .val (.int k), .val (.double (FP.ddiv (FP.i2d k) (4625196817309499392 : UInt64))), .second, .val (.ref b19)] [(.ref b19)]))
    refine own_up (fun _ kq => XS.iconst X28.here hx rfl (hb hby at_126) kq) ?_
    show own_Go p.tables e below _ (T28.setTop (mkF m 127 #[.val (.int p0), .val (.int p1), .val (.int p2), .val (.int p3), .val (.int p4), .val (.int (2 : Int32)), .val (.int k), .val (.double (FP.ddiv (FP.i2d k) (4625196817309499392 : UInt64))), .second, .val (.ref b19)] [(.int (2 : Int32)), (.ref b19)]))
    refine own_up (fun _ kq => XS.iload X28.here hx rfl (hb hby at_127) rfl kq) ?_
    show own_Go p.tables e below _ (T28.setTop (mkF m 129 #[.val (.int p0), .val (.int p1), .val (.int p2), .val (.int p3), .val (.int p4), .val (.int (2 : Int32)), .val (.int k), .val (.double (FP.ddiv (FP.i2d k) (4625196817309499392 : UInt64))), .second, .val (.ref b19)] [(.int (2 : Int32)), (.int (2 : Int32)), (.ref b19)]))
    refine own_up (fun _ kq => XS.iloadN X28.here hx rfl (hb hby at_129) rfl kq) ?_
    show own_Go p.tables e below _ (T28.setTop (mkF m 130 #[.val (.int p0), .val (.int p1), .val (.int p2), .val (.int p3), .val (.int p4), .val (.int (2 : Int32)), .val (.int k), .val (.double (FP.ddiv (FP.i2d k) (4625196817309499392 : UInt64))), .second, .val (.ref b19)] [(.int p3), (.int (2 : Int32)), (.int (2 : Int32)), (.ref b19)]))
    refine own_up (fun _ kq => XS.iload X28.here hx rfl (hb hby at_130) rfl kq) ?_
    show own_Go p.tables e below _ (T28.setTop (mkF m 132 #[.val (.int p0), .val (.int p1), .val (.int p2), .val (.int p3), .val (.int p4), .val (.int (2 : Int32)), .val (.int k), .val (.double (FP.ddiv (FP.i2d k) (4625196817309499392 : UInt64))), .second, .val (.ref b19)] [(.int k), (.int p3), (.int (2 : Int32)), (.int (2 : Int32)), (.ref b19)]))
    obtain ⟨_, _, ⟨T29, L29, k29, n29⟩, -, X29, ⟨Lc29, hQ29, l29, y29, z29⟩, st29⟩ := Jvm.LawKit.callS X28 hx (y := (⟨"com/example/parley/parley/algorithms/ModifiersShrinkPinLaw", "ok", "(Lcom/example/parley/parley/algorithms/Dgls$Modifiers;IIII)Z"⟩ : MethodName)) hown (mvT hZ (hw _ (List.mem_of_getElem? (i := 34) rfl))) (mvT hZ (hw _ (List.mem_of_getElem? (i := 35) rfl))) (mvT hZ (hw _ (List.mem_of_getElem? (i := 36) rfl))) (mvT hZ (hw _ (List.mem_of_getElem? (i := 37) rfl))) (by decide) (backOf (W := 0) (rmO l Z a0 hw [] b19 (2 : Int32) (2 : Int32) p3 k T25.heap n0 ZH (by decide)) hZ (hw _ (List.mem_of_getElem? (i := 37) rfl)) (hw _ (List.mem_of_getElem? (i := 36) rfl)) (by decide) (by decide)) (g := (mkF m 132 #[.val (.int p0), .val (.int p1), .val (.int p2), .val (.int p3), .val (.int p4), .val (.int (2 : Int32)), .val (.int k), .val (.double (FP.ddiv (FP.i2d k) (4625196817309499392 : UInt64))), .second, .val (.ref b19)] [(.int k), (.int p3), (.int (2 : Int32)), (.int (2 : Int32)), (.ref b19)])) rfl (by rw [hml]; rfl) (argsL := [(.ref b19), (.int (2 : Int32)), (.int (2 : Int32)), (.int p3), (.int k)]) (rest := []) (lenOf pd_2 rfl) rfl (by show 2 * 0 + _ ≤ _; exact Nat.le_of_eq rfl) (hb hby at_132) (fun _ _ => ⟨rfl, e28, (by decide : 8 + 0 ≤ _), (by decide : 21 + 0 ≤ _)⟩)
    dsimp only [Pt.U, Pt.locs, Pt.cells, Pt.slots] at X29 l29 y29 z29 st29 hQ29
    subst l29 y29 z29
    obtain ⟨rfl, Nq29, e29⟩ := hQ29
    have N29 := Fr.app N28 Nq29
    refine own_up st29 ?_
    show own_Go p.tables e below _ (T29.setTop (mkF m 135 #[.val (.int p0), .val (.int p1), .val (.int p2), .val (.int p3), .val (.int p4), .val (.int (2 : Int32)), .val (.int k), .val (.double (FP.ddiv (FP.i2d k) (4625196817309499392 : UInt64))), .second, .val (.ref b19)] [(.int (1 : Int32))]))
    refine own_up (fun _ kq => XS.ifNo X29.here hx rfl (hb hby at_135) rfl ((if0 _ _).trans (feq (by decide : ¬ ((1 : Int32) = (0 : Int32)))).1) kq) ?_
    show own_Go p.tables e below _ (T29.setTop (mkF m 138 #[.val (.int p0), .val (.int p1), .val (.int p2), .val (.int p3), .val (.int p4), .val (.int (2 : Int32)), .val (.int k), .val (.double (FP.ddiv (FP.i2d k) (4625196817309499392 : UInt64))), .second, .val (.ref b19)] []))
    refine own_up (fun _ kq => XS.iconst X29.here hx rfl (hb hby at_138) kq) ?_
    show own_Go p.tables e below _ (T29.setTop (mkF m 139 #[.val (.int p0), .val (.int p1), .val (.int p2), .val (.int p3), .val (.int p4), .val (.int (2 : Int32)), .val (.int k), .val (.double (FP.ddiv (FP.i2d k) (4625196817309499392 : UInt64))), .second, .val (.ref b19)] [(.int (1 : Int32))]))
    refine own_up (fun _ kq => XS.goto X29.here hx rfl (pc0 := 139) (pc' := 143) rfl (hb hby at_139) (by decide) (by decide) kq) ?_
    show own_Go p.tables e below _ (T29.setTop (mkF m 143 #[.val (.int p0), .val (.int p1), .val (.int p2), .val (.int p3), .val (.int p4), .val (.int (2 : Int32)), .val (.int k), .val (.double (FP.ddiv (FP.i2d k) (4625196817309499392 : UInt64))), .second, .val (.ref b19)] [(.int (1 : Int32))]))
    obtain ⟨fs30, hr30, hrun30, hended30, hW30, hsame30⟩ := X29.leave (v := some (.int (1 : Int32))) (fun h => by rw [Bd.returns] at h; cases h)
    refine own_end ⟨_, _, ?_, hrun30, hended30, _, _, rfl, ?_, ⟨_, rfl⟩, hW30, hsame30.mono (by decide) (by decide)⟩
    · exact retN X29 hx (t := .boolean) Bd.returns (by simp) (hb hby at_143) hr30
    · show Qrm0 Z p0 p1 p2 p3 p4 h0 n0 _ T29.heap _
      rw [e29]
      exact ⟨rfl, N29⟩
  · show own_Go p.tables e below _ (s₁.setTop (mkF m 23 #[.val (.int p0), .val (.int p1), .val (.int p2), .val (.int p3), .val (.int p4), .val (.int (3 : Int32)), .val (.int k), .val (.double (FP.ddiv (FP.i2d k) (4625196817309499392 : UInt64))), .second, .unset] []))
    obtain ⟨T31, h31, X31, e31, E31, A31, D31, -, st31⟩ := newO X0 hx hZ hown (hw _ (List.mem_of_getElem? (i := 1) rfl)) (hw _ (List.mem_of_getElem? (i := 2) rfl)) (hw _ (List.mem_of_getElem? (i := 3) rfl)) e0 (g := (mkF m 23 #[.val (.int p0), .val (.int p1), .val (.int p2), .val (.int p3), .val (.int p4), .val (.int (3 : Int32)), .val (.int k), .val (.double (FP.ddiv (FP.i2d k) (4625196817309499392 : UInt64))), .second, .unset] [])) rfl (hb hby at_23) (by decide) (by decide)
    obtain ⟨b31, gz31⟩ : ∃ z, z = h0.size := ⟨_, rfl⟩
    rw [← gz31] at A31 D31 st31
    have g_b31 : n0 ≤ b31 := Nat.le_trans ZH (Nat.le_of_eq gz31.symm)
    have sz_b31 : h0.size ≤ b31 := Nat.le_trans KK.1 (Nat.le_of_eq gz31.symm)
    have ZH := Nat.le_trans ZH E31.1
    have KK := KK.ext E31
    have E_b31 := A31
    have F_numbers_b31 : Fld Z h31 b31 "com/example/parley/parley/algorithms/Dgls$Modifiers" "numbers" "[[D" .null := D31 (Or.inr (hw _ (List.mem_of_getElem? (i := 13) rfl))) (ty := (.array (.array .double))) (by decide)
    have F_factors_b31 : Fld Z h31 b31 "com/example/parley/parley/algorithms/Dgls$Modifiers" "factors" "[D" .null := D31 (Or.inr (hw _ (List.mem_of_getElem? (i := 16) rfl))) (ty := (.array .double)) (by decide)
    have F_least_b31 : Fld Z h31 b31 "com/example/parley/parley/algorithms/Dgls$Modifiers" "least" "[D" .null := D31 (Or.inr (hw _ (List.mem_of_getElem? (i := 18) rfl))) (ty := (.array .double)) (by decide)
    have F_greatest_b31 : Fld Z h31 b31 "com/example/parley/parley/algorithms/Dgls$Modifiers" "greatest" "[D" .null := D31 (Or.inr (hw _ (List.mem_of_getElem? (i := 20) rfl))) (ty := (.array .double)) (by decide)
    have F_sums_b31 : Fld Z h31 b31 "com/example/parley/parley/algorithms/Dgls$Modifiers" "sums" "[D" .null := D31 (Or.inr (hw _ (List.mem_of_getElem? (i := 22) rfl))) (ty := (.array .double)) (by decide)
    have F_maxima_b31 : Fld Z h31 b31 "com/example/parley/parley/algorithms/Dgls$Modifiers" "maxima" "[D" .null := D31 (Or.inr (hw _ (List.mem_of_getElem? (i := 24) rfl))) (ty := (.array .double)) (by decide)
    have F_entries_b31 : Fld Z h31 b31 "com/example/parley/parley/algorithms/Dgls$Modifiers" "entries" "[J" .null := D31 (Or.inr (hw _ (List.mem_of_getElem? (i := 27) rfl))) (ty := (.array .long)) (by decide)
    refine own_up st31 ?_
    show own_Go p.tables e below _ (T31.setTop (mkF m 26 #[.val (.int p0), .val (.int p1), .val (.int p2), .val (.int p3), .val (.int p4), .val (.int (3 : Int32)), .val (.int k), .val (.double (FP.ddiv (FP.i2d k) (4625196817309499392 : UInt64))), .second, .unset] [(.ref b31)]))
    refine own_up (fun _ kq => XS.dup X31.here hx rfl (hb hby at_26) rfl rfl kq) ?_
    show own_Go p.tables e below _ (T31.setTop (mkF m 27 #[.val (.int p0), .val (.int p1), .val (.int p2), .val (.int p3), .val (.int p4), .val (.int (3 : Int32)), .val (.int k), .val (.double (FP.ddiv (FP.i2d k) (4625196817309499392 : UInt64))), .second, .unset] [(.ref b31), (.ref b31)]))
    refine own_up (fun _ kq => XS.iload X31.here hx rfl (hb hby at_27) rfl kq) ?_
    show own_Go p.tables e below _ (T31.setTop (mkF m 29 #[.val (.int p0), .val (.int p1), .val (.int p2), .val (.int p3), .val (.int p4), .val (.int (3 : Int32)), .val (.int k), .val (.double (FP.ddiv (FP.i2d k) (4625196817309499392 : UInt64))), .second, .unset] [(.int (3 : Int32)), (.ref b31), (.ref b31)]))
    obtain ⟨_, _, ⟨T32, L32, k32, n32⟩, -, X32, ⟨Lc32, hQ32, l32, y32, z32⟩, st32⟩ := X31.specialBack hx (y := (⟨"com/example/parley/parley/algorithms/Dgls$Modifiers", "<init>", "(I)V"⟩ : MethodName)) rfl hown (mvT hZ (hw _ (List.mem_of_getElem? (i := 4) rfl))) (mvT hZ (hw _ (List.mem_of_getElem? (i := 5) rfl))) (mvT hZ (hw _ (List.mem_of_getElem? (i := 6) rfl))) (by decide) (backOf (W := 1) (rmC3 l Z a0 hw [] b31 h31 n0 ZH E_b31 F_numbers_b31 F_factors_b31 F_least_b31 F_greatest_b31 F_sums_b31 F_maxima_b31 F_entries_b31 g_b31) hZ (hw _ (List.mem_of_getElem? (i := 6) rfl)) (hw _ (List.mem_of_getElem? (i := 3) rfl)) (by decide) (by decide)) (g := (mkF m 29 #[.val (.int p0), .val (.int p1), .val (.int p2), .val (.int p3), .val (.int p4), .val (.int (3 : Int32)), .val (.int k), .val (.double (FP.ddiv (FP.i2d k) (4625196817309499392 : UInt64))), .second, .unset] [(.int (3 : Int32)), (.ref b31), (.ref b31)])) rfl (by rw [hml]; rfl) (Steps.refl _) (a := b31) (argsL := [(.int (3 : Int32))]) (rest := [(.ref b31)]) (lenOf pd_0 rfl) rfl (by show 2 * 0 + _ ≤ _; exact Nat.le_of_eq rfl) (hb hby at_29) (fun _ _ => ⟨rfl, e31, (by decide : 1 + 7 ≤ _), (by decide : 7 + 21 ≤ _)⟩)
    dsimp only [Pt.U, Pt.locs, Pt.cells, Pt.slots] at X32 l32 y32 z32 st32 hQ32
    subst l32 y32 z32
    obtain ⟨rfl, Nq32, K32, bn, bf, bl, bg, kn, kf, kl, kg, szf, ne_bn_bf, ne_bl_bf, ne_bg_bf, Fbn, Fbf, Fbl, Fbg, V_bn, V_bf, V_bl, V_bg⟩ := hQ32
    have N32 := Fr.app N0 Nq32
    have E_b31 := E_b31.keep K32
    have ZH := Nat.le_trans ZH K32.1
    have KK := KK.trans K32 (allS (Or.inr sz_b31) all0)
    have g_bf : n0 ≤ bf := Nat.le_trans g_b31 (Nat.le_of_lt (Nat.lt_of_lt_of_le A31.lt szf))
    have sz_bf : h0.size ≤ bf := Nat.le_trans sz_b31 (Nat.le_of_lt (Nat.lt_of_lt_of_le A31.lt szf))
    have ne_b31_bf : b31 ≠ bf := Nat.ne_of_lt (Nat.lt_of_lt_of_le A31.lt szf)
    refine own_up (fun _ kq => st32.trans kq) ?_
    show own_Go p.tables e below _ (T32.setTop (mkF m 32 #[.val (.int p0), .val (.int p1), .val (.int p2), .val (.int p3), .val (.int p4), .val (.int (3 : Int32)), .val (.int k), .val (.double (FP.ddiv (FP.i2d k) (4625196817309499392 : UInt64))), .second, .unset] [(.ref b31)]))
    refine own_up (fun _ kq => XS.astore X32.here hx rfl (hb hby at_32) rfl rfl (l' := #[.val (.int p0), .val (.int p1), .val (.int p2), .val (.int p3), .val (.int p4), .val (.int (3 : Int32)), .val (.int k), .val (.double (FP.ddiv (FP.i2d k) (4625196817309499392 : UInt64))), .second, .val (.ref b31)]) rfl kq) ?_
    show own_Go p.tables e below _ (T32.setTop (mkF m 34 #[.val (.int p0), .val (.int p1), .val (.int p2), .val (.int p3), .val (.int p4), .val (.int (3 : Int32)), .val (.int k), .val (.double (FP.ddiv (FP.i2d k) (4625196817309499392 : UInt64))), .second, .val (.ref b31)] []))
    refine own_up (fun _ kq => XS.iload X32.here hx rfl (hb hby at_34) rfl kq) ?_
    show own_Go p.tables e below _ (T32.setTop (mkF m 36 #[.val (.int p0), .val (.int p1), .val (.int p2), .val (.int p3), .val (.int p4), .val (.int (3 : Int32)), .val (.int k), .val (.double (FP.ddiv (FP.i2d k) (4625196817309499392 : UInt64))), .second, .val (.ref b31)] [(.int (3 : Int32))]))
    refine own_up (fun _ kq => XS.ifNo X32.here hx rfl (hb hby at_36) rfl ((if0 _ _).trans (tlt (by decide : (0 : Int32) < (3 : Int32))).2.2.2) kq) ?_
    show own_Go p.tables e below _ (T32.setTop (mkF m 39 #[.val (.int p0), .val (.int p1), .val (.int p2), .val (.int p3), .val (.int p4), .val (.int (3 : Int32)), .val (.int k), .val (.double (FP.ddiv (FP.i2d k) (4625196817309499392 : UInt64))), .second, .val (.ref b31)] []))
    refine own_up (fun _ kq => XS.aload X32.here hx rfl (hb hby at_39) rfl rfl kq) ?_
    show own_Go p.tables e below _ (T32.setTop (mkF m 41 #[.val (.int p0), .val (.int p1), .val (.int p2), .val (.int p3), .val (.int p4), .val (.int (3 : Int32)), .val (.int k), .val (.double (FP.ddiv (FP.i2d k) (4625196817309499392 : UInt64))), .second, .val (.ref b31)] [(.ref b31)]))
    obtain ⟨T33, X33, e33, st33⟩ := getF X32 hx hZ hown (host := "") (Or.inl (hw _ (List.mem_of_getElem? (i := 33) rfl))) Via.refl rfl Fbf (g := (mkF m 41 #[.val (.int p0), .val (.int p1), .val (.int p2), .val (.int p3), .val (.int p4), .val (.int (3 : Int32)), .val (.int k), .val (.double (FP.ddiv (FP.i2d k) (4625196817309499392 : UInt64))), .second, .val (.ref b31)] [(.ref b31)])) rfl rfl (hb hby at_41)
    refine own_up st33 ?_
    show own_Go p.tables e below _ (T33.setTop (mkF m 44 #[.val (.int p0), .val (.int p1), .val (.int p2), .val (.int p3), .val (.int p4), .val (.int (3 : Int32)), .val (.int k), .val (.double (FP.ddiv (FP.i2d k) (4625196817309499392 : UInt64))), .second, .val (.ref b31)] [(.ref bf)]))
    refine own_up (fun _ kq => XS.iconst X33.here hx rfl (hb hby at_44) kq) ?_
    show own_Go p.tables e below _ (T33.setTop (mkF m 45 #[.val (.int p0), .val (.int p1), .val (.int p2), .val (.int p3), .val (.int p4), .val (.int (3 : Int32)), .val (.int k), .val (.double (FP.ddiv (FP.i2d k) (4625196817309499392 : UInt64))), .second, .val (.ref b31)] [(.int (0 : Int32)), (.ref bf)]))
    refine own_up (fun _ kq => XS.iloadN X33.here hx rfl (hb hby at_45) rfl kq) ?_
    show own_Go p.tables e below _ (T33.setTop (mkF m 46 #[.val (.int p0), .val (.int p1), .val (.int p2), .val (.int p3), .val (.int p4), .val (.int (3 : Int32)), .val (.int k), .val (.double (FP.ddiv (FP.i2d k) (4625196817309499392 : UInt64))), .second, .val (.ref b31)] [(.int p1), (.int (0 : Int32)), (.ref bf)]))
    refine own_up (fun _ kq => XS.i2dS X33.here hx rfl (v := (FP.i2d p1)) (hb hby at_46) rfl rfl kq) ?_
    show own_Go p.tables e below _ (T33.setTop (mkF m 47 #[.val (.int p0), .val (.int p1), .val (.int p2), .val (.int p3), .val (.int p4), .val (.int (3 : Int32)), .val (.int k), .val (.double (FP.ddiv (FP.i2d k) (4625196817309499392 : UInt64))), .second, .val (.ref b31)] [(.double (FP.i2d p1)), (.int (0 : Int32)), (.ref bf)]))
    obtain ⟨cl34, Ar34, q34, sz34, nz34, hH34, hG34⟩ := V_bf
    obtain ⟨T34, h34, X34, e34, W34, st34⟩ := stD X33 hx hZ e33 Ar34 (j := (0 : Int32)) (inb_of sz34 ⟨by decide, by decide⟩) (g := (mkF m 47 #[.val (.int p0), .val (.int p1), .val (.int p2), .val (.int p3), .val (.int p4), .val (.int (3 : Int32)), .val (.int k), .val (.double (FP.ddiv (FP.i2d k) (4625196817309499392 : UInt64))), .second, .val (.ref b31)] [(.double (FP.i2d p1)), (.int (0 : Int32)), (.ref bf)])) rfl rfl (hb hby at_47)
    have V_bf : Arv Z h34 bf kf .double (3 : Int32) [(.double (FP.i2d p1)), (.double (0 : UInt64)), (.double (0 : UInt64))] (.double (0 : UInt64)) := Arv.set Ar34 q34 sz34 nz34 hH34 hG34 rfl W34 0 rfl (Nat.le_of_ble_eq_true rfl)
    have N34 := Fr.snoc X34 N32 g_bf
    have E_b31 := E_b31.wr W34
    have Fbn := Fbn.other W34 (Or.inl ne_b31_bf)
    have V_bn := V_bn.other W34 ne_bn_bf
    have Fbf := Fbf.other W34 (Or.inl ne_b31_bf)
    have Fbl := Fbl.other W34 (Or.inl ne_b31_bf)
    have V_bl := V_bl.other W34 ne_bl_bf
    have Fbg := Fbg.other W34 (Or.inl ne_b31_bf)
    have V_bg := V_bg.other W34 ne_bg_bf
    have ZH := Nat.le_trans ZH (Nat.le_of_eq W34.size.symm)
    have KK := KK.wr W34 (Or.inr sz_bf)
    refine own_up st34 ?_
    show own_Go p.tables e below _ (T34.setTop (mkF m 48 #[.val (.int p0), .val (.int p1), .val (.int p2), .val (.int p3), .val (.int p4), .val (.int (3 : Int32)), .val (.int k), .val (.double (FP.ddiv (FP.i2d k) (4625196817309499392 : UInt64))), .second, .val (.ref b31)] []))
    refine own_up (fun _ kq => XS.iload X34.here hx rfl (hb hby at_48) rfl kq) ?_
    show own_Go p.tables e below _ (T34.setTop (mkF m 50 #[.val (.int p0), .val (.int p1), .val (.int p2), .val (.int p3), .val (.int p4), .val (.int (3 : Int32)), .val (.int k), .val (.double (FP.ddiv (FP.i2d k) (4625196817309499392 : UInt64))), .second, .val (.ref b31)] [(.int (3 : Int32))]))
    refine own_up (fun _ kq => XS.iconst X34.here hx rfl (hb hby at_50) kq) ?_
    show own_Go p.tables e below _ (T34.setTop (mkF m 51 #[.val (.int p0), .val (.int p1), .val (.int p2), .val (.int p3), .val (.int p4), .val (.int (3 : Int32)), .val (.int k), .val (.double (FP.ddiv (FP.i2d k) (4625196817309499392 : UInt64))), .second, .val (.ref b31)] [(.int (1 : Int32)), (.int (3 : Int32))]))
    refine own_up (fun _ kq => XS.icmpNo X34.here hx rfl (hb hby at_51) rfl (tlt (by decide : (1 : Int32) < (3 : Int32))).2.2.2 kq) ?_
    show own_Go p.tables e below _ (T34.setTop (mkF m 54 #[.val (.int p0), .val (.int p1), .val (.int p2), .val (.int p3), .val (.int p4), .val (.int (3 : Int32)), .val (.int k), .val (.double (FP.ddiv (FP.i2d k) (4625196817309499392 : UInt64))), .second, .val (.ref b31)] []))
    refine own_up (fun _ kq => XS.aload X34.here hx rfl (hb hby at_54) rfl rfl kq) ?_
    show own_Go p.tables e below _ (T34.setTop (mkF m 56 #[.val (.int p0), .val (.int p1), .val (.int p2), .val (.int p3), .val (.int p4), .val (.int (3 : Int32)), .val (.int k), .val (.double (FP.ddiv (FP.i2d k) (4625196817309499392 : UInt64))), .second, .val (.ref b31)] [(.ref b31)]))
    obtain ⟨T35, X35, e35, st35⟩ := getF X34 hx hZ hown (host := "") (Or.inl (hw _ (List.mem_of_getElem? (i := 33) rfl))) Via.refl e34 Fbf (g := (mkF m 56 #[.val (.int p0), .val (.int p1), .val (.int p2), .val (.int p3), .val (.int p4), .val (.int (3 : Int32)), .val (.int k), .val (.double (FP.ddiv (FP.i2d k) (4625196817309499392 : UInt64))), .second, .val (.ref b31)] [(.ref b31)])) rfl rfl (hb hby at_56)
    refine own_up st35 ?_
    show own_Go p.tables e below _ (T35.setTop (mkF m 59 #[.val (.int p0), .val (.int p1), .val (.int p2), .val (.int p3), .val (.int p4), .val (.int (3 : Int32)), .val (.int k), .val (.double (FP.ddiv (FP.i2d k) (4625196817309499392 : UInt64))), .second, .val (.ref b31)] [(.ref bf)]))
    refine own_up (fun _ kq => XS.iconst X35.here hx rfl (hb hby at_59) kq) ?_
    show own_Go p.tables e below _ (T35.setTop (mkF m 60 #[.val (.int p0), .val (.int p1), .val (.int p2), .val (.int p3), .val (.int p4), .val (.int (3 : Int32)), .val (.int k), .val (.double (FP.ddiv (FP.i2d k) (4625196817309499392 : UInt64))), .second, .val (.ref b31)] [(.int (1 : Int32)), (.ref bf)]))
    refine own_up (fun _ kq => XS.iloadN X35.here hx rfl (hb hby at_60) rfl kq) ?_
    show own_Go p.tables e below _ (T35.setTop (mkF m 61 #[.val (.int p0), .val (.int p1), .val (.int p2), .val (.int p3), .val (.int p4), .val (.int (3 : Int32)), .val (.int k), .val (.double (FP.ddiv (FP.i2d k) (4625196817309499392 : UInt64))), .second, .val (.ref b31)] [(.int p2), (.int (1 : Int32)), (.ref bf)]))
    refine own_up (fun _ kq => XS.i2dS X35.here hx rfl (v := (FP.i2d p2)) (hb hby at_61) rfl rfl kq) ?_
    show own_Go p.tables e below _ (T35.setTop (mkF m 62 #[.val (.int p0), .val (.int p1), .val (.int p2), .val (.int p3), .val (.int p4), .val (.int (3 : Int32)), .val (.int k), .val (.double (FP.ddiv (FP.i2d k) (4625196817309499392 : UInt64))), .second, .val (.ref b31)] [(.double (FP.i2d p2)), (.int (1 : Int32)), (.ref bf)]))
    obtain ⟨cl36, Ar36, q36, sz36, nz36, hH36, hG36⟩ := V_bf
    obtain ⟨T36, h36, X36, e36, W36, st36⟩ := stD X35 hx hZ e35 Ar36 (j := (1 : Int32)) (inb_of sz36 ⟨by decide, by decide⟩) (g := (mkF m 62 #[.val (.int p0), .val (.int p1), .val (.int p2), .val (.int p3), .val (.int p4), .val (.int (3 : Int32)), .val (.int k), .val (.double (FP.ddiv (FP.i2d k) (4625196817309499392 : UInt64))), .second, .val (.ref b31)] [(.double (FP.i2d p2)), (.int (1 : Int32)), (.ref bf)])) rfl rfl (hb hby at_62)
    have V_bf : Arv Z h36 bf kf .double (3 : Int32) [(.double (FP.i2d p1)), (.double (FP.i2d p2)), (.double (0 : UInt64))] (.double (0 : UInt64)) := Arv.set Ar36 q36 sz36 nz36 hH36 hG36 rfl W36 1 rfl (Nat.le_of_ble_eq_true rfl)
    have N36 := Fr.snoc X36 N34 g_bf
    have E_b31 := E_b31.wr W36
    have Fbn := Fbn.other W36 (Or.inl ne_b31_bf)
    have V_bn := V_bn.other W36 ne_bn_bf
    have Fbf := Fbf.other W36 (Or.inl ne_b31_bf)
    have Fbl := Fbl.other W36 (Or.inl ne_b31_bf)
    have V_bl := V_bl.other W36 ne_bl_bf
    have Fbg := Fbg.other W36 (Or.inl ne_b31_bf)
    have V_bg := V_bg.other W36 ne_bg_bf
    have ZH := Nat.le_trans ZH (Nat.le_of_eq W36.size.symm)
    have KK := KK.wr W36 (Or.inr sz_bf)
    refine own_up st36 ?_
    show own_Go p.tables e below _ (T36.setTop (mkF m 63 #[.val (.int p0), .val (.int p1), .val (.int p2), .val (.int p3), .val (.int p4), .val (.int (3 : Int32)), .val (.int k), .val (.double (FP.ddiv (FP.i2d k) (4625196817309499392 : UInt64))), .second, .val (.ref b31)] []))
    refine own_up (fun _ kq => XS.iload X36.here hx rfl (hb hby at_63) rfl kq) ?_
    show own_Go p.tables e below _ (T36.setTop (mkF m 65 #[.val (.int p0), .val (.int p1), .val (.int p2), .val (.int p3), .val (.int p4), .val (.int (3 : Int32)), .val (.int k), .val (.double (FP.ddiv (FP.i2d k) (4625196817309499392 : UInt64))), .second, .val (.ref b31)] [(.int (3 : Int32))]))
    refine own_up (fun _ kq => XS.iconst X36.here hx rfl (hb hby at_65) kq) ?_
    show own_Go p.tables e below _ (T36.setTop (mkF m 66 #[.val (.int p0), .val (.int p1), .val (.int p2), .val (.int p3), .val (.int p4), .val (.int (3 : Int32)), .val (.int k), .val (.double (FP.ddiv (FP.i2d k) (4625196817309499392 : UInt64))), .second, .val (.ref b31)] [(.int (2 : Int32)), (.int (3 : Int32))]))
    refine own_up (fun _ kq => XS.icmpNo X36.here hx rfl (hb hby at_66) rfl (tlt (by decide : (2 : Int32) < (3 : Int32))).2.2.2 kq) ?_
    show own_Go p.tables e below _ (T36.setTop (mkF m 69 #[.val (.int p0), .val (.int p1), .val (.int p2), .val (.int p3), .val (.int p4), .val (.int (3 : Int32)), .val (.int k), .val (.double (FP.ddiv (FP.i2d k) (4625196817309499392 : UInt64))), .second, .val (.ref b31)] []))
    refine own_up (fun _ kq => XS.aload X36.here hx rfl (hb hby at_69) rfl rfl kq) ?_
    show own_Go p.tables e below _ (T36.setTop (mkF m 71 #[.val (.int p0), .val (.int p1), .val (.int p2), .val (.int p3), .val (.int p4), .val (.int (3 : Int32)), .val (.int k), .val (.double (FP.ddiv (FP.i2d k) (4625196817309499392 : UInt64))), .second, .val (.ref b31)] [(.ref b31)]))
    obtain ⟨T37, X37, e37, st37⟩ := getF X36 hx hZ hown (host := "") (Or.inl (hw _ (List.mem_of_getElem? (i := 33) rfl))) Via.refl e36 Fbf (g := (mkF m 71 #[.val (.int p0), .val (.int p1), .val (.int p2), .val (.int p3), .val (.int p4), .val (.int (3 : Int32)), .val (.int k), .val (.double (FP.ddiv (FP.i2d k) (4625196817309499392 : UInt64))), .second, .val (.ref b31)] [(.ref b31)])) rfl rfl (hb hby at_71)
    refine own_up st37 ?_
    show own_Go p.tables e below _ (T37.setTop (mkF m 74 #[.val (.int p0), .val (.int p1), .val (.int p2), .val (.int p3), .val (.int p4), .val (.int (3 : Int32)), .val (.int k), .val (.double (FP.ddiv (FP.i2d k) (4625196817309499392 : UInt64))), .second, .val (.ref b31)] [(.ref bf)]))
    refine own_up (fun _ kq => XS.iconst X37.here hx rfl (hb hby at_74) kq) ?_
    show own_Go p.tables e below _ (T37.setTop (mkF m 75 #[.val (.int p0), .val (.int p1), .val (.int p2), .val (.int p3), .val (.int p4), .val (.int (3 : Int32)), .val (.int k), .val (.double (FP.ddiv (FP.i2d k) (4625196817309499392 : UInt64))), .second, .val (.ref b31)] [(.int (2 : Int32)), (.ref bf)]))
    refine own_up (fun _ kq => XS.iloadN X37.here hx rfl (hb hby at_75) rfl kq) ?_
    show own_Go p.tables e below _ (T37.setTop (mkF m 76 #[.val (.int p0), .val (.int p1), .val (.int p2), .val (.int p3), .val (.int p4), .val (.int (3 : Int32)), .val (.int k), .val (.double (FP.ddiv (FP.i2d k) (4625196817309499392 : UInt64))), .second, .val (.ref b31)] [(.int p3), (.int (2 : Int32)), (.ref bf)]))
    refine own_up (fun _ kq => XS.i2dS X37.here hx rfl (v := (FP.i2d p3)) (hb hby at_76) rfl rfl kq) ?_
    show own_Go p.tables e below _ (T37.setTop (mkF m 77 #[.val (.int p0), .val (.int p1), .val (.int p2), .val (.int p3), .val (.int p4), .val (.int (3 : Int32)), .val (.int k), .val (.double (FP.ddiv (FP.i2d k) (4625196817309499392 : UInt64))), .second, .val (.ref b31)] [(.double (FP.i2d p3)), (.int (2 : Int32)), (.ref bf)]))
    obtain ⟨cl38, Ar38, q38, sz38, nz38, hH38, hG38⟩ := V_bf
    obtain ⟨T38, h38, X38, e38, W38, st38⟩ := stD X37 hx hZ e37 Ar38 (j := (2 : Int32)) (inb_of sz38 ⟨by decide, by decide⟩) (g := (mkF m 77 #[.val (.int p0), .val (.int p1), .val (.int p2), .val (.int p3), .val (.int p4), .val (.int (3 : Int32)), .val (.int k), .val (.double (FP.ddiv (FP.i2d k) (4625196817309499392 : UInt64))), .second, .val (.ref b31)] [(.double (FP.i2d p3)), (.int (2 : Int32)), (.ref bf)])) rfl rfl (hb hby at_77)
    have V_bf : Arv Z h38 bf kf .double (3 : Int32) [(.double (FP.i2d p1)), (.double (FP.i2d p2)), (.double (FP.i2d p3))] (.double (0 : UInt64)) := Arv.set Ar38 q38 sz38 nz38 hH38 hG38 rfl W38 2 rfl (Nat.le_of_ble_eq_true rfl)
    have N38 := Fr.snoc X38 N36 g_bf
    have E_b31 := E_b31.wr W38
    have Fbn := Fbn.other W38 (Or.inl ne_b31_bf)
    have V_bn := V_bn.other W38 ne_bn_bf
    have Fbf := Fbf.other W38 (Or.inl ne_b31_bf)
    have Fbl := Fbl.other W38 (Or.inl ne_b31_bf)
    have V_bl := V_bl.other W38 ne_bl_bf
    have Fbg := Fbg.other W38 (Or.inl ne_b31_bf)
    have V_bg := V_bg.other W38 ne_bg_bf
    have ZH := Nat.le_trans ZH (Nat.le_of_eq W38.size.symm)
    have KK := KK.wr W38 (Or.inr sz_bf)
    refine own_up st38 ?_
    show own_Go p.tables e below _ (T38.setTop (mkF m 78 #[.val (.int p0), .val (.int p1), .val (.int p2), .val (.int p3), .val (.int p4), .val (.int (3 : Int32)), .val (.int k), .val (.double (FP.ddiv (FP.i2d k) (4625196817309499392 : UInt64))), .second, .val (.ref b31)] []))
    refine own_up (fun _ kq => XS.aload X38.here hx rfl (hb hby at_78) rfl rfl kq) ?_
    show own_Go p.tables e below _ (T38.setTop (mkF m 80 #[.val (.int p0), .val (.int p1), .val (.int p2), .val (.int p3), .val (.int p4), .val (.int (3 : Int32)), .val (.int k), .val (.double (FP.ddiv (FP.i2d k) (4625196817309499392 : UInt64))), .second, .val (.ref b31)] [(.ref b31)]))
    refine own_up (fun _ kq => XS.dload X38.here hx rfl (hb hby at_80) rfl kq) ?_
    show own_Go p.tables e below _ (T38.setTop (mkF m 82 #[.val (.int p0), .val (.int p1), .val (.int p2), .val (.int p3), .val (.int p4), .val (.int (3 : Int32)), .val (.int k), .val (.double (FP.ddiv (FP.i2d k) (4625196817309499392 : UInt64))), .second, .val (.ref b31)] [(.double (FP.ddiv (FP.i2d k) (4625196817309499392 : UInt64))), (.ref b31)]))
    obtain ⟨cq39, kq39, q39a, q39b, q39c⟩ := isOf hZ e38 E_b31
    obtain ⟨_, _, ⟨T39, L39, k39, n39⟩, -, X39, ⟨Lc39, hQ39, l39, y39, z39⟩, st39⟩ := X38.virtualBack hx (y := (⟨"com/example/parley/parley/algorithms/Dgls$Modifiers", "shrink", "(D)V"⟩ : MethodName)) (z := (⟨"com/example/parley/parley/algorithms/Dgls$Modifiers", "shrink", "(D)V"⟩ : MethodName)) hown (mvT hZ (hw _ (List.mem_of_getElem? (i := 28) rfl))) (mvT hZ (hw _ (List.mem_of_getElem? (i := 29) rfl))) (notFace_of_selects (args := #[]) (mvT hZ (hw _ (List.mem_of_getElem? (i := 31) rfl)))) (mvT hZ (hw _ (List.mem_of_getElem? (i := 31) rfl))) (mvT hZ (hw _ (List.mem_of_getElem? (i := 30) rfl))) (by decide) (backOf (W := 0) (rmS3 l Z a0 hw [] b31 (FP.ddiv (FP.i2d k) (4625196817309499392 : UInt64)) bf kf (FP.i2d p1) (FP.i2d p2) (FP.i2d p3) h38 n0 ZH Fbf V_bf g_bf ne_b31_bf (own_mulnn p1 hk') (own_mulnn p2 hk') (own_mulnn p3 hk')) hZ (hw _ (List.mem_of_getElem? (i := 32) rfl)) (hw _ (List.mem_of_getElem? (i := 3) rfl)) (by decide) (by decide)) q39a q39c (g := (mkF m 82 #[.val (.int p0), .val (.int p1), .val (.int p2), .val (.int p3), .val (.int p4), .val (.int (3 : Int32)), .val (.int k), .val (.double (FP.ddiv (FP.i2d k) (4625196817309499392 : UInt64))), .second, .val (.ref b31)] [(.double (FP.ddiv (FP.i2d k) (4625196817309499392 : UInt64))), (.ref b31)])) rfl (by rw [hml]; rfl) (Steps.refl _) (argsL := [(.double (FP.ddiv (FP.i2d k) (4625196817309499392 : UInt64)))]) (rest := []) (lenOf pd_1 rfl) rfl (by show 2 * 0 + _ ≤ _; exact Nat.le_of_eq rfl) (hb hby at_82) (fun _ _ => ⟨rfl, e38, (by decide : 8 + 0 ≤ _), (by decide : 28 + 0 ≤ _)⟩)
    dsimp only [Pt.U, Pt.locs, Pt.cells, Pt.slots] at X39 l39 y39 z39 st39 hQ39
    subst l39 y39 z39
    obtain ⟨rfl, Nq39, K39, V_bf'⟩ := hQ39
    have N39 := Fr.app N38 Nq39
    have E_b31 := E_b31.keep K39
    have Fbn := Fbn.keep K39 (ninS ne_b31_bf nin0)
    have V_bn := V_bn.keep K39 (ninS ne_bn_bf nin0)
    have Fbf := Fbf.keep K39 (ninS ne_b31_bf nin0)
    have Fbl := Fbl.keep K39 (ninS ne_b31_bf nin0)
    have V_bl := V_bl.keep K39 (ninS ne_bl_bf nin0)
    have Fbg := Fbg.keep K39 (ninS ne_b31_bf nin0)
    have V_bg := V_bg.keep K39 (ninS ne_bg_bf nin0)
    have ZH := Nat.le_trans ZH K39.1
    have KK := KK.trans K39 (allS (Or.inr sz_bf) all0)
    have V_bf := V_bf'
    refine own_up (fun _ kq => st39.trans kq) ?_
    show own_Go p.tables e below _ (T39.setTop (mkF m 85 #[.val (.int p0), .val (.int p1), .val (.int p2), .val (.int p3), .val (.int p4), .val (.int (3 : Int32)), .val (.int k), .val (.double (FP.ddiv (FP.i2d k) (4625196817309499392 : UInt64))), .second, .val (.ref b31)] []))
    refine own_up (fun _ kq => XS.aload X39.here hx rfl (hb hby at_85) rfl rfl kq) ?_
    show own_Go p.tables e below _ (T39.setTop (mkF m 87 #[.val (.int p0), .val (.int p1), .val (.int p2), .val (.int p3), .val (.int p4), .val (.int (3 : Int32)), .val (.int k), .val (.double (FP.ddiv (FP.i2d k) (4625196817309499392 : UInt64))), .second, .val (.ref b31)] [(.ref b31)]))
    obtain ⟨T40, X40, e40, st40⟩ := getF X39 hx hZ hown (host := "") (Or.inl (hw _ (List.mem_of_getElem? (i := 33) rfl))) Via.refl rfl Fbf (g := (mkF m 87 #[.val (.int p0), .val (.int p1), .val (.int p2), .val (.int p3), .val (.int p4), .val (.int (3 : Int32)), .val (.int k), .val (.double (FP.ddiv (FP.i2d k) (4625196817309499392 : UInt64))), .second, .val (.ref b31)] [(.ref b31)])) rfl rfl (hb hby at_87)
    refine own_up st40 ?_
    show own_Go p.tables e below _ (T40.setTop (mkF m 90 #[.val (.int p0), .val (.int p1), .val (.int p2), .val (.int p3), .val (.int p4), .val (.int (3 : Int32)), .val (.int k), .val (.double (FP.ddiv (FP.i2d k) (4625196817309499392 : UInt64))), .second, .val (.ref b31)] [(.ref bf)]))
    refine own_up (fun _ kq => own_Arf.alen (own_Arf.ofArv V_bf) X40 hx hZ e40 (g := (mkF m 90 #[.val (.int p0), .val (.int p1), .val (.int p2), .val (.int p3), .val (.int p4), .val (.int (3 : Int32)), .val (.int k), .val (.double (FP.ddiv (FP.i2d k) (4625196817309499392 : UInt64))), .second, .val (.ref b31)] [(.ref bf)])) rfl rfl (hb hby at_90) _ kq) ?_
    show own_Go p.tables e below _ (T40.setTop (mkF m 91 #[.val (.int p0), .val (.int p1), .val (.int p2), .val (.int p3), .val (.int p4), .val (.int (3 : Int32)), .val (.int k), .val (.double (FP.ddiv (FP.i2d k) (4625196817309499392 : UInt64))), .second, .val (.ref b31)] [(.int (3 : Int32))]))
    refine own_up (fun _ kq => XS.iload X40.here hx rfl (hb hby at_91) rfl kq) ?_
    show own_Go p.tables e below _ (T40.setTop (mkF m 93 #[.val (.int p0), .val (.int p1), .val (.int p2), .val (.int p3), .val (.int p4), .val (.int (3 : Int32)), .val (.int k), .val (.double (FP.ddiv (FP.i2d k) (4625196817309499392 : UInt64))), .second, .val (.ref b31)] [(.int (3 : Int32)), (.int (3 : Int32))]))
    refine own_up (fun _ kq => XS.icmpNo X40.here hx rfl (hb hby at_93) rfl (teq (by decide : (3 : Int32) = (3 : Int32))).2 kq) ?_
    show own_Go p.tables e below _ (T40.setTop (mkF m 96 #[.val (.int p0), .val (.int p1), .val (.int p2), .val (.int p3), .val (.int p4), .val (.int (3 : Int32)), .val (.int k), .val (.double (FP.ddiv (FP.i2d k) (4625196817309499392 : UInt64))), .second, .val (.ref b31)] []))
    refine own_up (fun _ kq => XS.aload X40.here hx rfl (hb hby at_96) rfl rfl kq) ?_
    show own_Go p.tables e below _ (T40.setTop (mkF m 98 #[.val (.int p0), .val (.int p1), .val (.int p2), .val (.int p3), .val (.int p4), .val (.int (3 : Int32)), .val (.int k), .val (.double (FP.ddiv (FP.i2d k) (4625196817309499392 : UInt64))), .second, .val (.ref b31)] [(.ref b31)]))
    refine own_up (fun _ kq => XS.iconst X40.here hx rfl (hb hby at_98) kq) ?_
    show own_Go p.tables e below _ (T40.setTop (mkF m 99 #[.val (.int p0), .val (.int p1), .val (.int p2), .val (.int p3), .val (.int p4), .val (.int (3 : Int32)), .val (.int k), .val (.double (FP.ddiv (FP.i2d k) (4625196817309499392 : UInt64))), .second, .val (.ref b31)] [(.int (0 : Int32)), (.ref b31)]))
    refine own_up (fun _ kq => XS.iload X40.here hx rfl (hb hby at_99) rfl kq) ?_
    show own_Go p.tables e below _ (T40.setTop (mkF m 101 #[.val (.int p0), .val (.int p1), .val (.int p2), .val (.int p3), .val (.int p4), .val (.int (3 : Int32)), .val (.int k), .val (.double (FP.ddiv (FP.i2d k) (4625196817309499392 : UInt64))), .second, .val (.ref b31)] [(.int (3 : Int32)), (.int (0 : Int32)), (.ref b31)]))
    refine own_up (fun _ kq => XS.iloadN X40.here hx rfl (hb hby at_101) rfl kq) ?_
    show own_Go p.tables e below _ (T40.setTop (mkF m 102 #[.val (.int p0), .val (.int p1), .val (.int p2), .val (.int p3), .val (.int p4), .val (.int (3 : Int32)), .val (.int k), .val (.double (FP.ddiv (FP.i2d k) (4625196817309499392 : UInt64))), .second, .val (.ref b31)] [(.int p1), (.int (3 : Int32)), (.int (0 : Int32)), (.ref b31)]))
    refine own_up (fun _ kq => XS.iload X40.here hx rfl (hb hby at_102) rfl kq) ?_
    show own_Go p.tables e below _ (T40.setTop (mkF m 104 #[.val (.int p0), .val (.int p1), .val (.int p2), .val (.int p3), .val (.int p4), .val (.int (3 : Int32)), .val (.int k), .val (.double (FP.ddiv (FP.i2d k) (4625196817309499392 : UInt64))), .second, .val (.ref b31)] [(.int k), (.int p1), (.int (3 : Int32)), (.int (0 : Int32)), (.ref b31)]))
    obtain ⟨_, _, ⟨T41, L41, k41, n41⟩, -, X41, ⟨Lc41, hQ41, l41, y41, z41⟩, st41⟩ := Jvm.LawKit.callS X40 hx (y := (⟨"com/example/parley/parley/algorithms/ModifiersShrinkPinLaw", "ok", "(Lcom/example/parley/parley/algorithms/Dgls$Modifiers;IIII)Z"⟩ : MethodName)) hown (mvT hZ (hw _ (List.mem_of_getElem? (i := 34) rfl))) (mvT hZ (hw _ (List.mem_of_getElem? (i := 35) rfl))) (mvT hZ (hw _ (List.mem_of_getElem? (i := 36) rfl))) (mvT hZ (hw _ (List.mem_of_getElem? (i := 37) rfl))) (by decide) (backOf (W := 0) (rmI l Z a0 hw [] b31 (0 : Int32) (3 : Int32) p1 k bn bf bl bg (FP.dmul (FP.i2d p1) (FP.ddiv (FP.i2d k) (4625196817309499392 : UInt64))) _ _ _ _ T39.heap n0 ZH (by decide) (by decide) Fbn Fbf Fbl Fbg (own_Arf.ofArv V_bn) (own_Arf.ofArv V_bf) (own_Arf.ofArv V_bl) (own_Arf.ofArv V_bg) rfl rfl rfl rfl (own_key p1 hk') (own_expnn p1 hk')) hZ (hw _ (List.mem_of_getElem? (i := 37) rfl)) (hw _ (List.mem_of_getElem? (i := 36) rfl)) (by decide) (by decide)) (g := (mkF m 104 #[.val (.int p0), .val (.int p1), .val (.int p2), .val (.int p3), .val (.int p4), .val (.int (3 : Int32)), .val (.int k), .val (.double (FP.ddiv (FP.i2d k) (4625196817309499392 : UInt64))), .second, .val (.ref b31)] [(.int k), (.int p1), (.int (3 : Int32)), (.int (0 : Int32)), (.ref b31)])) rfl (by rw [hml]; rfl) (argsL := [(.ref b31), (.int (0 : Int32)), (.int (3 : Int32)), (.int p1), (.int k)]) (rest := []) (lenOf pd_2 rfl) rfl (by show 2 * 0 + _ ≤ _; exact Nat.le_of_eq rfl) (hb hby at_104) (fun _ _ => ⟨rfl, e40, (by decide : 8 + 0 ≤ _), (by decide : 28 + 0 ≤ _)⟩)
    dsimp only [Pt.U, Pt.locs, Pt.cells, Pt.slots] at X41 l41 y41 z41 st41 hQ41
    subst l41 y41 z41
    obtain ⟨rfl, Nq41, e41⟩ := hQ41
    have N41 := Fr.app N39 Nq41
    refine own_up st41 ?_
    show own_Go p.tables e below _ (T41.setTop (mkF m 107 #[.val (.int p0), .val (.int p1), .val (.int p2), .val (.int p3), .val (.int p4), .val (.int (3 : Int32)), .val (.int k), .val (.double (FP.ddiv (FP.i2d k) (4625196817309499392 : UInt64))), .second, .val (.ref b31)] [(.int (1 : Int32))]))
    refine own_up (fun _ kq => XS.ifNo X41.here hx rfl (hb hby at_107) rfl ((if0 _ _).trans (feq (by decide : ¬ ((1 : Int32) = (0 : Int32)))).1) kq) ?_
    show own_Go p.tables e below _ (T41.setTop (mkF m 110 #[.val (.int p0), .val (.int p1), .val (.int p2), .val (.int p3), .val (.int p4), .val (.int (3 : Int32)), .val (.int k), .val (.double (FP.ddiv (FP.i2d k) (4625196817309499392 : UInt64))), .second, .val (.ref b31)] []))
    refine own_up (fun _ kq => XS.aload X41.here hx rfl (hb hby at_110) rfl rfl kq) ?_
    show own_Go p.tables e below _ (T41.setTop (mkF m 112 #[.val (.int p0), .val (.int p1), .val (.int p2), .val (.int p3), .val (.int p4), .val (.int (3 : Int32)), .val (.int k), .val (.double (FP.ddiv (FP.i2d k) (4625196817309499392 : UInt64))), .second, .val (.ref b31)] [(.ref b31)]))
    refine own_up (fun _ kq => XS.iconst X41.here hx rfl (hb hby at_112) kq) ?_
    show own_Go p.tables e below _ (T41.setTop (mkF m 113 #[.val (.int p0), .val (.int p1), .val (.int p2), .val (.int p3), .val (.int p4), .val (.int (3 : Int32)), .val (.int k), .val (.double (FP.ddiv (FP.i2d k) (4625196817309499392 : UInt64))), .second, .val (.ref b31)] [(.int (1 : Int32)), (.ref b31)]))
    refine own_up (fun _ kq => XS.iload X41.here hx rfl (hb hby at_113) rfl kq) ?_
    show own_Go p.tables e below _ (T41.setTop (mkF m 115 #[.val (.int p0), .val (.int p1), .val (.int p2), .val (.int p3), .val (.int p4), .val (.int (3 : Int32)), .val (.int k), .val (.double (FP.ddiv (FP.i2d k) (4625196817309499392 : UInt64))), .second, .val (.ref b31)] [(.int (3 : Int32)), (.int (1 : Int32)), (.ref b31)]))
    refine own_up (fun _ kq => XS.iloadN X41.here hx rfl (hb hby at_115) rfl kq) ?_
    show own_Go p.tables e below _ (T41.setTop (mkF m 116 #[.val (.int p0), .val (.int p1), .val (.int p2), .val (.int p3), .val (.int p4), .val (.int (3 : Int32)), .val (.int k), .val (.double (FP.ddiv (FP.i2d k) (4625196817309499392 : UInt64))), .second, .val (.ref b31)] [(.int p2), (.int (3 : Int32)), (.int (1 : Int32)), (.ref b31)]))
    refine own_up (fun _ kq => XS.iload X41.here hx rfl (hb hby at_116) rfl kq) ?_
    show own_Go p.tables e below _ (T41.setTop (mkF m 118 #[.val (.int p0), .val (.int p1), .val (.int p2), .val (.int p3), .val (.int p4), .val (.int (3 : Int32)), .val (.int k), .val (.double (FP.ddiv (FP.i2d k) (4625196817309499392 : UInt64))), .second, .val (.ref b31)] [(.int k), (.int p2), (.int (3 : Int32)), (.int (1 : Int32)), (.ref b31)]))
    obtain ⟨_, _, ⟨T42, L42, k42, n42⟩, -, X42, ⟨Lc42, hQ42, l42, y42, z42⟩, st42⟩ := Jvm.LawKit.callS X41 hx (y := (⟨"com/example/parley/parley/algorithms/ModifiersShrinkPinLaw", "ok", "(Lcom/example/parley/parley/algorithms/Dgls$Modifiers;IIII)Z"⟩ : MethodName)) hown (mvT hZ (hw _ (List.mem_of_getElem? (i := 34) rfl))) (mvT hZ (hw _ (List.mem_of_getElem? (i := 35) rfl))) (mvT hZ (hw _ (List.mem_of_getElem? (i := 36) rfl))) (mvT hZ (hw _ (List.mem_of_getElem? (i := 37) rfl))) (by decide) (backOf (W := 0) (rmI l Z a0 hw [] b31 (1 : Int32) (3 : Int32) p2 k bn bf bl bg (FP.dmul (FP.i2d p2) (FP.ddiv (FP.i2d k) (4625196817309499392 : UInt64))) _ _ _ _ T39.heap n0 ZH (by decide) (by decide) Fbn Fbf Fbl Fbg (own_Arf.ofArv V_bn) (own_Arf.ofArv V_bf) (own_Arf.ofArv V_bl) (own_Arf.ofArv V_bg) rfl rfl rfl rfl (own_key p2 hk') (own_expnn p2 hk')) hZ (hw _ (List.mem_of_getElem? (i := 37) rfl)) (hw _ (List.mem_of_getElem? (i := 36) rfl)) (by decide) (by decide)) (g := (mkF m 118 #[.val (.int p0), .val (.int p1), .val (.int p2), .val (.int p3), .val (.int p4), .val (.int (3 : Int32)), .val (.int k), .val (.double (FP.ddiv (FP.i2d k) (4625196817309499392 : UInt64))), .second, .val (.ref b31)] [(.int k), (.int p2), (.int (3 : Int32)), (.int (1 : Int32)), (.ref b31)])) rfl (by rw [hml]; rfl) (argsL := [(.ref b31), (.int (1 : Int32)), (.int (3 : Int32)), (.int p2), (.int k)]) (rest := []) (lenOf pd_2 rfl) rfl (by show 2 * 0 + _ ≤ _; exact Nat.le_of_eq rfl) (hb hby at_118) (fun _ _ => ⟨rfl, e41, (by decide : 8 + 0 ≤ _), (by decide : 28 + 0 ≤ _)⟩)
    dsimp only [Pt.U, Pt.locs, Pt.cells, Pt.slots] at X42 l42 y42 z42 st42 hQ42
    subst l42 y42 z42
    obtain ⟨rfl, Nq42, e42⟩ := hQ42
    have N42 := Fr.app N41 Nq42
    refine own_up st42 ?_
    show own_Go p.tables e below _ (T42.setTop (mkF m 121 #[.val (.int p0), .val (.int p1), .val (.int p2), .val (.int p3), .val (.int p4), .val (.int (3 : Int32)), .val (.int k), .val (.double (FP.ddiv (FP.i2d k) (4625196817309499392 : UInt64))), .second, .val (.ref b31)] [(.int (1 : Int32))]))
    refine own_up (fun _ kq => XS.ifNo X42.here hx rfl (hb hby at_121) rfl ((if0 _ _).trans (feq (by decide : ¬ ((1 : Int32) = (0 : Int32)))).1) kq) ?_
    show own_Go p.tables e below _ (T42.setTop (mkF m 124 #[.val (.int p0), .val (.int p1), .val (.int p2), .val (.int p3), .val (.int p4), .val (.int (3 : Int32)), .val (.int k), .val (.double (FP.ddiv (FP.i2d k) (4625196817309499392 : UInt64))), .second, .val (.ref b31)] []))
    refine own_up (fun _ kq => XS.aload X42.here hx rfl (hb hby at_124) rfl rfl kq) ?_
    show own_Go p.tables e below _ (T42.setTop (mkF m 126 #[.val (.int p0), .val (.int p1), .val (.int p2), .val (.int p3), .val (.int p4), .val (.int (3 : Int32)), .val (.int k), .val (.double (FP.ddiv (FP.i2d k) (4625196817309499392 : UInt64))), .second, .val (.ref b31)] [(.ref b31)]))
    refine own_up (fun _ kq => XS.iconst X42.here hx rfl (hb hby at_126) kq) ?_
    show own_Go p.tables e below _ (T42.setTop (mkF m 127 #[.val (.int p0), .val (.int p1), .val (.int p2), .val (.int p3), .val (.int p4), .val (.int (3 : Int32)), .val (.int k), .val (.double (FP.ddiv (FP.i2d k) (4625196817309499392 : UInt64))), .second, .val (.ref b31)] [(.int (2 : Int32)), (.ref b31)]))
    refine own_up (fun _ kq => XS.iload X42.here hx rfl (hb hby at_127) rfl kq) ?_
    show own_Go p.tables e below _ (T42.setTop (mkF m 129 #[.val (.int p0), .val (.int p1), .val (.int p2), .val (.int p3), .val (.int p4), .val (.int (3 : Int32)), .val (.int k), .val (.double (FP.ddiv (FP.i2d k) (4625196817309499392 : UInt64))), .second, .val (.ref b31)] [(.int (3 : Int32)), (.int (2 : Int32)), (.ref b31)]))
    refine own_up (fun _ kq => XS.iloadN X42.here hx rfl (hb hby at_129) rfl kq) ?_
    show own_Go p.tables e below _ (T42.setTop (mkF m 130 #[.val (.int p0), .val (.int p1), .val (.int p2), .val (.int p3), .val (.int p4), .val (.int (3 : Int32)), .val (.int k), .val (.double (FP.ddiv (FP.i2d k) (4625196817309499392 : UInt64))), .second, .val (.ref b31)] [(.int p3), (.int (3 : Int32)), (.int (2 : Int32)), (.ref b31)]))
    refine own_up (fun _ kq => XS.iload X42.here hx rfl (hb hby at_130) rfl kq) ?_
    show own_Go p.tables e below _ (T42.setTop (mkF m 132 #[.val (.int p0), .val (.int p1), .val (.int p2), .val (.int p3), .val (.int p4), .val (.int (3 : Int32)), .val (.int k), .val (.double (FP.ddiv (FP.i2d k) (4625196817309499392 : UInt64))), .second, .val (.ref b31)] [(.int k), (.int p3), (.int (3 : Int32)), (.int (2 : Int32)), (.ref b31)]))
    obtain ⟨_, _, ⟨T43, L43, k43, n43⟩, -, X43, ⟨Lc43, hQ43, l43, y43, z43⟩, st43⟩ := Jvm.LawKit.callS X42 hx (y := (⟨"com/example/parley/parley/algorithms/ModifiersShrinkPinLaw", "ok", "(Lcom/example/parley/parley/algorithms/Dgls$Modifiers;IIII)Z"⟩ : MethodName)) hown (mvT hZ (hw _ (List.mem_of_getElem? (i := 34) rfl))) (mvT hZ (hw _ (List.mem_of_getElem? (i := 35) rfl))) (mvT hZ (hw _ (List.mem_of_getElem? (i := 36) rfl))) (mvT hZ (hw _ (List.mem_of_getElem? (i := 37) rfl))) (by decide) (backOf (W := 0) (rmI l Z a0 hw [] b31 (2 : Int32) (3 : Int32) p3 k bn bf bl bg (FP.dmul (FP.i2d p3) (FP.ddiv (FP.i2d k) (4625196817309499392 : UInt64))) _ _ _ _ T39.heap n0 ZH (by decide) (by decide) Fbn Fbf Fbl Fbg (own_Arf.ofArv V_bn) (own_Arf.ofArv V_bf) (own_Arf.ofArv V_bl) (own_Arf.ofArv V_bg) rfl rfl rfl rfl (own_key p3 hk') (own_expnn p3 hk')) hZ (hw _ (List.mem_of_getElem? (i := 37) rfl)) (hw _ (List.mem_of_getElem? (i := 36) rfl)) (by decide) (by decide)) (g := (mkF m 132 #[.val (.int p0), .val (.int p1), .val (.int p2), .val (.int p3), .val (.int p4), .val (.int (3 : Int32)), .val (.int k), .val (.double (FP.ddiv (FP.i2d k) (4625196817309499392 : UInt64))), .second, .val (.ref b31)] [(.int k), (.int p3), (.int (3 : Int32)), (.int (2 : Int32)), (.ref b31)])) rfl (by rw [hml]; rfl) (argsL := [(.ref b31), (.int (2 : Int32)), (.int (3 : Int32)), (.int p3), (.int k)]) (rest := []) (lenOf pd_2 rfl) rfl (by show 2 * 0 + _ ≤ _; exact Nat.le_of_eq rfl) (hb hby at_132) (fun _ _ => ⟨rfl, e42, (by decide : 8 + 0 ≤ _), (by decide : 28 + 0 ≤ _)⟩)
    dsimp only [Pt.U, Pt.locs, Pt.cells, Pt.slots] at X43 l43 y43 z43 st43 hQ43
    subst l43 y43 z43
    obtain ⟨rfl, Nq43, e43⟩ := hQ43
    have N43 := Fr.app N42 Nq43
    refine own_up st43 ?_
    show own_Go p.tables e below _ (T43.setTop (mkF m 135 #[.val (.int p0), .val (.int p1), .val (.int p2), .val (.int p3), .val (.int p4), .val (.int (3 : Int32)), .val (.int k), .val (.double (FP.ddiv (FP.i2d k) (4625196817309499392 : UInt64))), .second, .val (.ref b31)] [(.int (1 : Int32))]))
    refine own_up (fun _ kq => XS.ifNo X43.here hx rfl (hb hby at_135) rfl ((if0 _ _).trans (feq (by decide : ¬ ((1 : Int32) = (0 : Int32)))).1) kq) ?_
    show own_Go p.tables e below _ (T43.setTop (mkF m 138 #[.val (.int p0), .val (.int p1), .val (.int p2), .val (.int p3), .val (.int p4), .val (.int (3 : Int32)), .val (.int k), .val (.double (FP.ddiv (FP.i2d k) (4625196817309499392 : UInt64))), .second, .val (.ref b31)] []))
    refine own_up (fun _ kq => XS.iconst X43.here hx rfl (hb hby at_138) kq) ?_
    show own_Go p.tables e below _ (T43.setTop (mkF m 139 #[.val (.int p0), .val (.int p1), .val (.int p2), .val (.int p3), .val (.int p4), .val (.int (3 : Int32)), .val (.int k), .val (.double (FP.ddiv (FP.i2d k) (4625196817309499392 : UInt64))), .second, .val (.ref b31)] [(.int (1 : Int32))]))
    refine own_up (fun _ kq => XS.goto X43.here hx rfl (pc0 := 139) (pc' := 143) rfl (hb hby at_139) (by decide) (by decide) kq) ?_
    show own_Go p.tables e below _ (T43.setTop (mkF m 143 #[.val (.int p0), .val (.int p1), .val (.int p2), .val (.int p3), .val (.int p4), .val (.int (3 : Int32)), .val (.int k), .val (.double (FP.ddiv (FP.i2d k) (4625196817309499392 : UInt64))), .second, .val (.ref b31)] [(.int (1 : Int32))]))
    obtain ⟨fs44, hr44, hrun44, hended44, hW44, hsame44⟩ := X43.leave (v := some (.int (1 : Int32))) (fun h => by rw [Bd.returns] at h; cases h)
    refine own_end ⟨_, _, ?_, hrun44, hended44, _, _, rfl, ?_, ⟨_, rfl⟩, hW44, hsame44.mono (by decide) (by decide)⟩
    · exact retN X43 hx (t := .boolean) Bd.returns (by simp) (hb hby at_143) hr44
    · show Qrm0 Z p0 p1 p2 p3 p4 h0 n0 _ T43.heap _
      rw [e43]
      exact ⟨rfl, N43⟩
set_option maxRecDepth 65536 in
set_option maxHeartbeats 40000000 in
theorem comes_1 {Post : Tables → Env → Array Value → State → Outcome → State → Prop} (hpost : ∀ tb e args s v u, (limb_1_1.after args s (.returned v) u = true ∧ limb_1_2.after args s (.returned v) u = true ∧ True) → FrameEnd s (.returned v) u (Jvm.fieldLocs frame_1_writes args s ++ Jvm.arrayLocs frame_1_arrays args s ++ Jvm.staticLocs frame_1_statics s) 24 128 → Post tb e args s (.returned v) u) :
    ArmFor flags0 classFile x code maxLocals ret World_1 tables_1 room_1 Calls_1 rest_1 Pre_1 Post := by
  intro l hfl _ _ p e ha hc hk s m args below hf hA hF happ hP
  obtain ⟨hcalls, hrest, hpre⟩ := hP
  obtain ⟨-, -, -, hnamed, -, -, -, hat⟩ := (Spec.applies_iff hf).mp happ
  obtain ⟨hg, hn⟩ := and_e (Cond.before_iff.mp (show (Jvm.Cond.and given_1 narrow_1).before args s = true from hpre))
  obtain ⟨gA0, gB0⟩ := and_e hg
  obtain ⟨gA1, gB1⟩ := and_e gB0
  obtain ⟨gA2, gB2⟩ := and_e gB1
  obtain ⟨gA3, gB3⟩ := and_e gB2
  obtain ⟨gA4, gB4⟩ := and_e gB3
  obtain ⟨w0, w1, w2, w3, w4, rfl⟩ : ∃ w0 w1 w2 w3 w4 : Value, args = #[w0, w1, w2, w3, w4] := by
    have hs : args.size = 5 := by simpa [Cond.value, given_1] using gA0
    obtain ⟨L⟩ := args
    match L, hs with
    | [w0, w1, w2, w3, w4], _ => exact ⟨w0, w1, w2, w3, w4, rfl⟩
  have hw := fun d (hd : d ∈ tables_1) => atoms_spec (ws := Jvm.Cond.code x code maxLocals ret :: tables_1) hat d (List.mem_cons_of_mem _ hd)
  have hfit : Fit s := fun {y c} hc i hi => by
    obtain ⟨ha, rfl⟩ := Array.getElem?_eq_some_iff.mp hc
    have q := List.all_eq_true.mp ((Array.all_eq_true_iff_forall_mem.mp hF) _ (Array.getElem_mem ha)) i (List.mem_range.mpr hi)
    simpa [Array.getElem?_eq_getElem hi] using q
  obtain ⟨i0, ei0⟩ := is_v gA1
  obtain rfl : w0 = (.int i0) := Option.some.inj ei0
  obtain ⟨i1, ei1⟩ := is_v gA2
  obtain rfl : w1 = (.int i1) := Option.some.inj ei1
  obtain ⟨i2, ei2⟩ := is_v gA3
  obtain rfl : w2 = (.int i2) := Option.some.inj ei2
  obtain ⟨i3, ei3⟩ := is_v gA4
  obtain rfl : w3 = (.int i3) := Option.some.inj ei3
  obtain ⟨i4, ei4⟩ := is_v gB4
  obtain rfl : w4 = (.int i4) := Option.some.inj ei4
  obtain ⟨n, o, h1, h2, h3, _, L, rfl, ⟨rfl, N⟩, hq⟩ := rm0 l s _ hw tables_1 i0 i1 i2 i3 i4 s.heap s.heap.size (Nat.le_refl _) p e ha hc hk s m _ below hf ((Spec.applies_iff_loose hf).mp happ).1 ⟨rfl, State.Warmed39.refl s, rfl⟩ trivial
  refine ⟨n, _, h1, h2, h3, hpost _ _ _ _ _ _ ⟨Cond.after_iff.mpr rfl, Cond.after_iff.mpr (eq_i res_at (Term.int_eval (1)) rfl), trivial⟩ ⟨hq.1, hq.2.1, (hq.2.2.sift fun y hy => Or.inr (N y hy)).mono (by decide) (by decide)⟩⟩
theorem main_1_1 : Claimed_1_1 := comes_1 fun _ _ _ _ _ _ h hF => ⟨h.1, hF⟩
theorem main_1_2 : Claimed_1_2 := comes_1 fun _ _ _ _ _ _ h hF => ⟨h.2.1, hF⟩
end Jvm.Pilot.@@N@@
namespace Jvm.Pilot.@@N@@
open Jvm Jvm.ClassFile Sem Op Lib Jvm.Free Jvm.Stand Jvm.Pilot.@@N@@.Jvm.D
/-! MADE BY PROGRAM (witnessworld.py) out of the Statement's table words and the real class files: 14 classes; the members and pool entries that the words name. The judged class is class 1, her method 1. -/
namespace start1
open Jvm.ClassFile
def u (s : String) : CpInfo := .utf8 (stringToUtf16 s)
/-- a pool by its gaps: so many unusable entries, then the entry; so many at the end -/
def gap : Nat → List CpInfo → List CpInfo
  | 0, r => r
  | n + 1, r => .unusable :: gap n r
def poolList (es : List (Nat × CpInfo)) (last : Nat) : List CpInfo := es.foldr (fun e r => gap e.1 (e.2 :: r)) (gap last [])
def pool (es : List (Nat × CpInfo)) (last : Nat) : Array CpInfo := ⟨poolList es last⟩
def fileOf (pool : Array CpInfo) (this : Nat) (attrs : Array Attribute := #[]) (ms : Array MethodInfo := #[]) (fl : Nat := 33) (sup : Nat := 0) (ifs : Array Nat := #[]) (fds : Array FieldInfo := #[]) : ClassFile where
  minorVersion := 0
  majorVersion := 65
  constantPool := pool
  accessFlags := fl
  thisClass := this
  superClass := sup
  interfaces := ifs
  fields := fds
  methods := ms
  attributes := attrs
def plain (name : String) (sup : Option ClassId) : Class where
  name := name
  kind := .ordinary
  loader := none
  accessFlags := 33
  super := sup
  interfaces := #[]
  cf := none
  fields := #[]
  methods := #[]
  instanceTypes := #[]
  staticTypes := #[]
  resolved := #[]
  callSites := []
  init := .initialized
  statics := none
  mirror := none

def pool0 : Array CpInfo := pool [(5, u "<init>"), (0, u "()V"), (1, .class_ 10), (1, u "java/lang/Object")] 113

def k0c0 : Code := { maxStack := 0, maxLocals := 1, code := object_method_1_code, exceptionTable := #[], attributes := #[] }
def k0m0 : Method := { name := "<init>", desc := "()V", sig := { parameters := [], returnType := none }, accessFlags := 1, code := some k0c0 }
/-- java/lang/Object -/
def k0 : Class := { plain "java/lang/Object" none with
  accessFlags := 33
  interfaces := #[]
  cf := some (fileOf pool0 8 #[] #[{ accessFlags := 1, nameIndex := 5, descriptorIndex := 6, attributes := #[] }] 33 0 #[] #[])
  fields := #[]
  methods := #[k0m0]
  instanceTypes := #[]
  staticTypes := #[]
  resolved := Array.replicate 124 none
  statics := none }

def pool1 : Array CpInfo := pool [(2, .class_ 4), (1, u "java/lang/Object"), (0, u "<init>"), (0, u "()V"), (0, .double 4625196817309499392), (1, .class_ 10), (0, u "com/example/parley/parley/algorithms/Dgls$Modifiers"), (0, .methodref 9 12), (0, .nameAndType 5 13), (0, u "(I)V"), (0, .fieldref 9 15), (0, .nameAndType 16 17), (0, u "factors"), (0, u "[D"), (0, .methodref 9 19), (0, .nameAndType 20 21), (0, u "shrink"), (0, u "(D)V"), (0, .methodref 23 24), (0, .class_ 25), (0, .nameAndType 26 27), (0, u "com/example/parley/parley/algorithms/ModifiersShrinkPinLaw"), (0, u "ok"), (0, u "(Lcom/example/parley/parley/algorithms/Dgls$Modifiers;IIII)Z"), (0, .fieldref 9 29), (0, .nameAndType 30 17), (0, u "least"), (0, .fieldref 9 32), (0, .nameAndType 33 17), (0, u "greatest"), (0, .fieldref 9 35), (0, .nameAndType 36 37), (0, u "numbers"), (0, u "[[D"), (2, u "law"), (0, u "(IIIII)Z")] 7

def k1m0 : Method := { name := "<init>", desc := "()V", sig := { parameters := [], returnType := none }, accessFlags := 1, code := none }
def k1c1 : Code := { maxStack := 5, maxLocals := 10, code := code, exceptionTable := #[], attributes := #[] }
def k1m1 : Method := { name := "law", desc := "(IIIII)Z", sig := { parameters := [.int, .int, .int, .int, .int], returnType := some .boolean }, accessFlags := 9, code := some k1c1 }
def k1c2 : Code := { maxStack := 4, maxLocals := 7, code := method_3_code, exceptionTable := #[], attributes := #[] }
def k1m2 : Method := { name := "ok", desc := "(Lcom/example/parley/parley/algorithms/Dgls$Modifiers;IIII)Z", sig := { parameters := [(.object "com/example/parley/parley/algorithms/Dgls$Modifiers"), .int, .int, .int, .int], returnType := some .boolean }, accessFlags := 10, code := some k1c2 }
/-- com/example/parley/parley/algorithms/ModifiersShrinkPinLaw -/
def k1 : Class := { plain "com/example/parley/parley/algorithms/ModifiersShrinkPinLaw" (some 0) with
  accessFlags := 49
  interfaces := #[]
  cf := some (fileOf pool1 23 #[] #[{ accessFlags := 1, nameIndex := 5, descriptorIndex := 6, attributes := #[] }, { accessFlags := 9, nameIndex := 40, descriptorIndex := 41, attributes := #[] }, { accessFlags := 10, nameIndex := 26, descriptorIndex := 27, attributes := #[] }] 49 2 #[] #[])
  fields := #[]
  methods := #[k1m0, k1m1, k1m2]
  instanceTypes := #[]
  staticTypes := #[]
  resolved := Array.replicate 49 none
  statics := none }

def pool2 : Array CpInfo := pool [(1, .methodref 2 3), (0, .class_ 4), (0, .nameAndType 5 6), (0, u "java/lang/Object"), (0, u "<init>"), (0, u "()V"), (0, .class_ 8), (0, u "[D"), (0, .fieldref 10 11), (0, .class_ 12), (0, .nameAndType 13 14), (0, u "com/example/parley/parley/algorithms/Dgls$Modifiers"), (0, u "numbers"), (0, u "[[D"), (0, .fieldref 10 16), (0, .nameAndType 17 8), (0, u "factors"), (0, .fieldref 10 19), (0, .nameAndType 20 8), (0, u "least"), (0, .fieldref 10 22), (0, .nameAndType 23 8), (0, u "greatest"), (0, .fieldref 10 25), (0, .nameAndType 26 8), (0, u "sums"), (0, .fieldref 10 28), (0, .nameAndType 29 8), (0, u "maxima"), (0, .fieldref 10 31), (0, .nameAndType 32 33), (0, u "entries"), (0, u "[J"), (6, u "(I)V"), (2, u "shrink"), (0, u "(D)V"), (6, .class_ 52), (0, u "com/example/parley/parley/algorithms/Dgls")] 2

def k2c0 : Code := { maxStack := 2, maxLocals := 2, code := prog_8_method_1_code, exceptionTable := #[], attributes := #[] }
def k2m0 : Method := { name := "<init>", desc := "(I)V", sig := { parameters := [.int], returnType := none }, accessFlags := 0, code := some k2c0 }
def k2c1 : Code := { maxStack := 6, maxLocals := 4, code := prog_8_method_2_code, exceptionTable := #[], attributes := #[] }
def k2m1 : Method := { name := "shrink", desc := "(D)V", sig := { parameters := [.double], returnType := none }, accessFlags := 0, code := some k2c1 }
/-- com/example/parley/parley/algorithms/Dgls$Modifiers -/
def k2 : Class := { plain "com/example/parley/parley/algorithms/Dgls$Modifiers" (some 0) with
  accessFlags := 48
  interfaces := #[]
  cf := some (fileOf pool2 10 #[.nestHost 51] #[{ accessFlags := 0, nameIndex := 5, descriptorIndex := 40, attributes := #[] }, { accessFlags := 0, nameIndex := 43, descriptorIndex := 44, attributes := #[] }] 48 2 #[] #[{ accessFlags := 16, nameIndex := 13, descriptorIndex := 14, attributes := #[] }, { accessFlags := 16, nameIndex := 17, descriptorIndex := 8, attributes := #[] }, { accessFlags := 16, nameIndex := 20, descriptorIndex := 8, attributes := #[] }, { accessFlags := 16, nameIndex := 23, descriptorIndex := 8, attributes := #[] }, { accessFlags := 18, nameIndex := 26, descriptorIndex := 8, attributes := #[] }, { accessFlags := 18, nameIndex := 29, descriptorIndex := 8, attributes := #[] }, { accessFlags := 18, nameIndex := 32, descriptorIndex := 33, attributes := #[] }])
  fields := #[{ name := "numbers", type := (.array (.array .double)), accessFlags := 16, slot := 0, constantValue := 0 }, { name := "factors", type := (.array .double), accessFlags := 16, slot := 1, constantValue := 0 }, { name := "least", type := (.array .double), accessFlags := 16, slot := 2, constantValue := 0 }, { name := "greatest", type := (.array .double), accessFlags := 16, slot := 3, constantValue := 0 }, { name := "sums", type := (.array .double), accessFlags := 18, slot := 4, constantValue := 0 }, { name := "maxima", type := (.array .double), accessFlags := 18, slot := 5, constantValue := 0 }, { name := "entries", type := (.array .long), accessFlags := 18, slot := 6, constantValue := 0 }]
  methods := #[k2m0, k2m1]
  instanceTypes := #[(.array (.array .double)), (.array .double), (.array .double), (.array .double), (.array .double), (.array .double), (.array .long)]
  staticTypes := #[]
  resolved := Array.replicate 55 none
  statics := none }

def pool3 : Array CpInfo := pool [(1, u "java/lang/Cloneable"), (0, .class_ 1), (0, u "java/lang/Object"), (0, .class_ 3)] 3

/-- java/lang/Cloneable -/
def k3 : Class := { plain "java/lang/Cloneable" (some 0) with
  accessFlags := 1537
  interfaces := #[]
  cf := some (fileOf pool3 2 #[] #[] 1537 4 #[] #[])
  fields := #[]
  methods := #[]
  instanceTypes := #[]
  staticTypes := #[]
  resolved := Array.replicate 8 none
  statics := none }

def pool4 : Array CpInfo := pool [(1, u "java/io/Serializable"), (0, .class_ 1), (0, u "java/lang/Object"), (0, .class_ 3)] 3

/-- java/io/Serializable -/
def k4 : Class := { plain "java/io/Serializable" (some 0) with
  accessFlags := 1537
  interfaces := #[]
  cf := some (fileOf pool4 2 #[] #[] 1537 4 #[] #[])
  fields := #[]
  methods := #[]
  instanceTypes := #[]
  staticTypes := #[]
  resolved := Array.replicate 8 none
  statics := none }

/-- the primitive byte -/
def k5 : Class := { plain "byte" none with kind := .primitive 'B', accessFlags := 0x411 }
/-- [B -/
def k6 : Class := { plain "[B" (some 0) with kind := .array 5 .byte, interfaces := #[3, 4], accessFlags := 1041 }

/-- the primitive double -/
def k7 : Class := { plain "double" none with kind := .primitive 'D', accessFlags := 0x411 }
/-- [D -/
def k8 : Class := { plain "[D" (some 0) with kind := .array 7 .double, interfaces := #[3, 4], accessFlags := 1041 }

/-- the primitive int -/
def k9 : Class := { plain "int" none with kind := .primitive 'I', accessFlags := 0x411 }
/-- [I -/
def k10 : Class := { plain "[I" (some 0) with kind := .array 9 .int, interfaces := #[3, 4], accessFlags := 1041 }

/-- the primitive long -/
def k11 : Class := { plain "long" none with kind := .primitive 'J', accessFlags := 0x411 }
/-- [J -/
def k12 : Class := { plain "[J" (some 0) with kind := .array 11 .long, interfaces := #[3, 4], accessFlags := 1041 }

/-- [[D -/
def k13 : Class := { plain "[[D" (some 0) with kind := .array 8 (.array .double), interfaces := #[3, 4], accessFlags := 1041 }

def heap : Heap := #[]
def classes : Array Class := #[k0, k1, k2, k3, k4, k5, k6, k7, k8, k9, k10, k11, k12, k13]
def interned : List (Array UInt16 × Addr) := []
def slotsUsed : Nat := 0
def theMethod : MethodId := ⟨1, 1⟩
def args0 : Array Value := #[.int 5, .int 7, .int 9, .int 3, .int 1]
def aboutOver (below : List Frame) : State where
  vm := { classes := classes, interned := interned.toArray }
  heap := heap
  slotsUsed := slotsUsed
  threads := #[{ frames := .invoking theMethod args0 :: below }]
def below0 : List Frame := [.native { method := ⟨0, 0⟩, args := #[] }]
def about1 : State := aboutOver below0
def p0 : Program := .bare "" "" ""
def e0 : Env := launch0.env 0 0 0
theorem w_frames : about1.frames = Frame.invoking theMethod args0 :: below0 := rfl
set_option maxRecDepth 65536 in
theorem w_args : argsFit about1.vm theMethod args0 = true := by decide +kernel
set_option maxRecDepth 65536 in
theorem w_heap : heapFits about1 = true := by decide +kernel
set_option maxRecDepth 65536 in
theorem w_runnable : about1.curStatus? = some .runnable := by decide +kernel
set_option maxRecDepth 65536 in
theorem w_alone : about1.alone = true := by decide +kernel
set_option maxRecDepth 65536 in
theorem w_named : about1.methodNamed? x = some theMethod := by decide +kernel
set_option maxRecDepth 65536 in
theorem w_hears : about1.hears theMethod below0 = true := by decide +kernel
set_option maxRecDepth 65536 in
theorem w_ripe : about1.ripe theMethod args0 below0 = true := by decide +kernel
theorem w_running : about1.status = .running := rfl
set_option maxRecDepth 65536 in
theorem w_room : about1.hasRoom e0.platform room_1 = true :=
  launch0.hasRoom_least _ room_1 (by decide +kernel) (by decide +kernel) (by decide +kernel) (by decide +kernel) (by decide +kernel) (by decide +kernel)
theorem allAtoms_all (ts : List Jvm.Cond) (a : Array Jvm.Value) (st : Jvm.State) : (allAtoms ts).before a st = ts.all (fun c => c.before a st) := by
  induction ts with
  | nil => rfl
  | cons c t ih =>
    show (Jvm.Cond.and c (allAtoms t)).before a st = _
    rw [Jvm.Cond.before_and, ih, List.all_cons]
def words1 : List Jvm.Cond := Jvm.Cond.code x code maxLocals ret :: tables_1
/-- a 'code' word, met by the world's own term for the bytes: nothing is compared byte by byte -/
theorem code_word {y : MethodName} {bytes : ByteArray} {mx : Nat} {rt : Option FieldType} {a : Array Value} {s : State} {m : MethodId} {meth : Method} {c : Code} (h1 : s.methodNamed? y = some m) (h2 : s.vm.method? m = some meth) (h3 : meth.code = some c) (h4 : c.code = bytes)
    (h5 : (c.maxLocals == mx && c.exceptionTable.isEmpty && decide (c.maxStack ≤ mostOperands) && decide (meth.sig.returnType = rt) && !meth.locks && decide (parseMethodDescriptor y.desc = some meth.sig)) = true) : (Jvm.Cond.code y bytes mx rt).before a s = true := by
  simp only [Bool.and_eq_true, beq_iff_eq, Bool.not_eq_true', decide_eq_true_eq] at h5
  obtain ⟨⟨⟨⟨⟨g1, g2⟩, g3⟩, g4⟩, g5⟩, g6⟩ := h5
  simp [Cond.before, Cond.holds, Cond.value, h1, h2, h3, h4, g1, g2, g3, g4, g5, g6]
def isCode : Jvm.Cond → Bool
  | .code _ _ _ _ => true
  | _ => false
theorem all_split {L : List Jvm.Cond} {P : Jvm.Cond → Bool} (h1 : L.all (fun c => isCode c || P c) = true) (h2 : ∀ c ∈ L.filter isCode, P c = true) : L.all P = true := by
  refine List.all_eq_true.mpr fun c hc => ?_
  have h := List.all_eq_true.mp h1 c hc
  rcases Bool.eq_false_or_eq_true (isCode c) with hi | hi
  · exact h2 c (List.mem_filter.mpr ⟨hc, hi⟩)
  · simpa [hi] using h
set_option maxRecDepth 65536 in
theorem w_c0 : (Jvm.Cond.code x code maxLocals ret).before args0 about1 = true := code_word (m := ⟨1, 1⟩) (meth := k1m1) (c := k1c1) (by decide +kernel) rfl rfl rfl (by decide +kernel)
set_option maxRecDepth 65536 in
theorem w_c1 : (Jvm.Cond.code ({ cls := "com/example/parley/parley/algorithms/Dgls$Modifiers", name := "<init>", desc := "(I)V" } : Jvm.MethodName) prog_8_method_1_code (2 : Nat) (Option.none : Option Jvm.ClassFile.FieldType)).before args0 about1 = true := code_word (m := ⟨2, 0⟩) (meth := k2m0) (c := k2c0) (by decide +kernel) rfl rfl rfl (by decide +kernel)
set_option maxRecDepth 65536 in
theorem w_c2 : (Jvm.Cond.code ({ cls := "java/lang/Object", name := "<init>", desc := "()V" } : Jvm.MethodName) object_method_1_code (1 : Nat) (Option.none : Option Jvm.ClassFile.FieldType)).before args0 about1 = true := code_word (m := ⟨0, 0⟩) (meth := k0m0) (c := k0c0) (by decide +kernel) rfl rfl rfl (by decide +kernel)
set_option maxRecDepth 65536 in
theorem w_c3 : (Jvm.Cond.code ({ cls := "com/example/parley/parley/algorithms/Dgls$Modifiers", name := "shrink", desc := "(D)V" } : Jvm.MethodName) prog_8_method_2_code (4 : Nat) (Option.none : Option Jvm.ClassFile.FieldType)).before args0 about1 = true := code_word (m := ⟨2, 1⟩) (meth := k2m1) (c := k2c1) (by decide +kernel) rfl rfl rfl (by decide +kernel)
set_option maxRecDepth 65536 in
theorem w_c4 : (Jvm.Cond.code ({ cls := "com/example/parley/parley/algorithms/ModifiersShrinkPinLaw", name := "ok", desc := "(Lcom/example/parley/parley/algorithms/Dgls$Modifiers;IIII)Z" } : Jvm.MethodName) method_3_code (7 : Nat) (Option.some Jvm.ClassFile.FieldType.boolean)).before args0 about1 = true := code_word (m := ⟨1, 2⟩) (meth := k1m2) (c := k1c2) (by decide +kernel) rfl rfl rfl (by decide +kernel)
def codes1 : List Jvm.Cond := [Jvm.Cond.code x code maxLocals ret, Jvm.Cond.code ({ cls := "com/example/parley/parley/algorithms/Dgls$Modifiers", name := "<init>", desc := "(I)V" } : Jvm.MethodName) prog_8_method_1_code (2 : Nat) (Option.none : Option Jvm.ClassFile.FieldType), Jvm.Cond.code ({ cls := "java/lang/Object", name := "<init>", desc := "()V" } : Jvm.MethodName) object_method_1_code (1 : Nat) (Option.none : Option Jvm.ClassFile.FieldType), Jvm.Cond.code ({ cls := "com/example/parley/parley/algorithms/Dgls$Modifiers", name := "shrink", desc := "(D)V" } : Jvm.MethodName) prog_8_method_2_code (4 : Nat) (Option.none : Option Jvm.ClassFile.FieldType), Jvm.Cond.code ({ cls := "com/example/parley/parley/algorithms/ModifiersShrinkPinLaw", name := "ok", desc := "(Lcom/example/parley/parley/algorithms/Dgls$Modifiers;IIII)Z" } : Jvm.MethodName) method_3_code (7 : Nat) (Option.some Jvm.ClassFile.FieldType.boolean)]
set_option maxRecDepth 65536 in
theorem codes_eq : words1.filter isCode = codes1 := rfl
theorem w_codes : ∀ c ∈ words1.filter isCode, c.before args0 about1 = true := by
  rw [codes_eq]
  intro c hc
  simp only [codes1, List.mem_cons, List.not_mem_nil, or_false] at hc
  rcases hc with rfl | rfl | rfl | rfl | rfl
  · exact w_c0
  · exact w_c1
  · exact w_c2
  · exact w_c3
  · exact w_c4
set_option maxRecDepth 65536 in
theorem w_t1 : (words1.take 24).all (fun c => isCode c || c.before args0 about1) = true := by decide +kernel
set_option maxRecDepth 65536 in
theorem w_t2 : (words1.drop 24).all (fun c => isCode c || c.before args0 about1) = true := by decide +kernel
theorem w_tables : (allAtoms (Jvm.Cond.code x code maxLocals ret :: tables_1)).before args0 about1 = true := by
  rw [allAtoms_all]
  show words1.all (fun c => c.before args0 about1) = true
  refine all_split ?_ w_codes
  rw [← List.take_append_drop 24 words1, List.all_append, w_t1, w_t2]
  rfl
set_option maxRecDepth 65536 in
theorem w_case : (Jvm.Cond.and given_1 narrow_1).before args0 about1 = true := by decide +kernel
theorem w_applies : (headSpec (Jvm.Cond.code x code maxLocals ret :: tables_1) room_1).applies x e0.platform about1 = true :=
  (Spec.applies_iff w_frames).mpr ⟨w_running, w_runnable, w_alone, w_named, w_hears, w_ripe, w_room, w_tables⟩
theorem atStart : AtStart classFile x code maxLocals ret World_1 tables_1 room_1 Calls_1 rest_1 Pre_1 launch0 p0 e0 about1 theMethod args0 below0 :=
  ⟨lists_1, trivial, launch0.admits_env _ _ _, launch0.least_env, fairChoices_fair.cas, fairChoices_fair.clock, w_frames, w_args, w_heap, w_applies, trivial, trivial, w_case⟩
end start1
theorem witness_1 : WitnessClaimed_1 := ⟨start1.p0, start1.e0, start1.about1, start1.theMethod, start1.args0, start1.below0, start1.atStart⟩
end Jvm.Pilot.@@N@@
