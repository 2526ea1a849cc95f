import JvmDerived
import JvmDerived.Pilot.@@N@@Statement
import JvmDerived.Pilot.@@N@@Code
set_option linter.unusedVariables false
set_option linter.unusedSimpArgs false
namespace Jvm.Pilot.@@N@@
open Jvm Jvm.ClassFile Sem Op Lib Jvm.Free Jvm.Free.Fl Jvm.Stand Jvm.LawKit Jvm.RoadKit Bundle Jvm.Pilot.@@N@@.Jvm.D
def own_Go (tb : Tables) (e : Env) (below : List Frame) (P : State → Outcome → Prop) (S : State) : Prop := ∃ t o, Steps tb e below S t ∧ P t o
section OwnGo
variable {tb : Tables} {e : Env} {below : List Frame} {P : State → Outcome → Prop} {S S' : State}
theorem own_up (st : ∀ t, Steps tb e below S' t → Steps tb e below S t) (h : own_Go tb e below P S') : own_Go tb e below P S := by
  obtain ⟨t, o, h1, h2⟩ := h
  exact ⟨t, o, st t h1, h2⟩
theorem own_start (st : ∀ t, Steps tb e below S' t → Steps tb e below S t) (h : own_Go tb e below P S') : ∃ t o, Steps tb e below S t ∧ P t o := own_up st h
theorem own_end (h : ∃ t o, Steps tb e below S t ∧ P t o) : own_Go tb e below P S := h
end OwnGo
theorem own_eqi {args : Array Value} {first s : State} {o : Option Outcome} {idx : List Nat} {a : Term} {n : Int32} (h : (Jvm.Cond.eq a (Term.int n)).value args first o s idx = some true) : a.eval args first o idx s = some (.int n) := by
  obtain ⟨x, y, h1, h2, k1, k2⟩ := cmp_v (Or.inl h)
  have hb : (Term.int n).eval args first o idx s = some (.int n) := Term.int_eval n
  obtain rfl : y = .int n := Option.some.inj (h2.symm.trans hb)
  cases x with
  | int x =>
    have q := gotT (Cond.eq_ints h1 hb) h
    rw [h1, q]
  | _ => simp [Kin] at k1 k2
section OwnDiv
open Jvm.FP.Core
theorem own_qmin : b64.qmin = -1074 := by decide +kernel
theorem own_qmax : b64.qmax = 971 := by decide +kernel
/-- a whole double's digits, in units -/
theorem own_zm {N : Int} {x : UInt64} (h : DInt N x) : ∃ s c q, val64 x = .fin s c q ∧ c * 2 ^ (q - b64.qmin).toNat = N.natAbs * one64 ∧ b64.qmin ≤ q ∧ (N ≠ 0 → s = decide (N < 0)) ∧ (N = 0 → c = 0) := by
  have hf := val64_fits x
  unfold DInt at h
  cases hv : val64 x with
  | nan => rw [hv] at h; exact h.elim
  | inf s => rw [hv] at h; exact h.elim
  | fin s c q =>
    rw [hv] at h hf
    have hq : b64.qmin ≤ q := hf.2.1
    have hz := whole_zval good_b64 hf h
    have hz' : signed s (inUnits c q b64.qmin) = N * ((2 ^ (-b64.qmin).toNat : Nat) : Int) := hz
    rw [pow_qmin64] at hz'
    refine ⟨s, c, q, rfl, ?_, hq, fun h0 => whole_sign h h0, fun h0 => (whole_zero h).mpr h0⟩
    have := congrArg Int.natAbs hz'
    rw [natAbs_signed, Int.natAbs_mul, Int.natAbs_natCast] at this
    exact this
/-- a number of the format: n / 2^k -/
theorem own_V (n k : Nat) (h0 : 0 < n) (hn : n ≤ 2 ^ 53) (hk : k ≤ 900) : ∃ V, FP.Core.fits b64 V ∧ V ≠ .nan ∧ zmag b64 V * 2 ^ k = n * one64 := by
  obtain ⟨c, q, hfit, hv⟩ := natFit good_b64 wide_b64 false (n := n) (show n ≤ 2 ^ b64.p from hn)
  obtain ⟨f1, f2, f3, f4⟩ := hfit
  rw [own_qmin] at f2 f4
  rw [own_qmax] at f3
  have hp : b64.p = 53 := rfl
  rw [hp] at f1
  have hq : -53 < q := by
    refine Int.lt_of_not_ge fun hle => ?_
    have e1 : (q - 0).toNat = 0 := by omega
    rw [e1, Nat.pow_zero, Nat.mul_one, Nat.mul_one] at hv
    have e2 : 2 ^ 53 ≤ 2 ^ (0 - q).toNat := Nat.pow_le_pow_right (by decide) (by omega)
    have e3 : 1 * 2 ^ (0 - q).toNat ≤ n * 2 ^ (0 - q).toNat := Nat.mul_le_mul_right _ h0
    omega
  have hc : b64.tails ≤ c := by
    rcases f4 with f4 | f4
    · omega
    · exact f4
  refine ⟨.fin false c (q - (k : Int)), ⟨by rw [hp]; exact f1, by rw [own_qmin]; omega, by rw [own_qmax]; omega, Or.inr hc⟩, Datum.noConfusion, ?_⟩
  show c * 2 ^ (q - (k : Int) - b64.qmin).toNat * 2 ^ k = n * one64
  rw [Nat.mul_assoc, ← Nat.pow_add, ← pow_qmin64, own_qmin]
  have hv' : n * 2 ^ (-q).toNat = c * 2 ^ q.toNat := by
    rw [show (0 - q).toNat = (-q).toNat by omega, show (q - 0).toNat = q.toNat by omega, Nat.mul_one] at hv
    exact hv
  have e1 : (q - (k : Int) - -1074).toNat + k = q.toNat + ((-(-1074 : Int)).toNat - (-q).toNat) := by omega
  have e2 : (-(-1074 : Int)).toNat = (-q).toNat + ((-(-1074 : Int)).toNat - (-q).toNat) := by omega
  rw [e1, Nat.pow_add, ← Nat.mul_assoc, ← hv']
  generalize hm : (-(-1074 : Int)).toNat - (-q).toNat = d at e2
  rw [e2, Nat.pow_add, Nat.mul_assoc]
theorem own_quot {N B : Int} {x y : UInt64} (hx : DInt N x) (hy : DInt B y) (hB : 0 < B) : ∃ (c d : Nat) (q r : Int) (s : Bool), val64 (ddiv x y) = roundRatio b64 s c d (q - r) ∧ 0 < d ∧ b64.qmin ≤ q ∧ b64.qmin ≤ r ∧ c * 2 ^ (q - b64.qmin).toNat = N.natAbs * one64 ∧ d * 2 ^ (r - b64.qmin).toNat = B.natAbs * one64 ∧ (N ≠ 0 → s = decide (N < 0)) ∧ (N = 0 → c = 0) := by
  obtain ⟨s, c, q, e1, e2, e3, e4, e5⟩ := own_zm hx
  obtain ⟨t, d, r, f1, f2, f3, f4, f5⟩ := own_zm hy
  have ht : t = false := by rw [f4 (by omega)]; exact decide_eq_false (by omega)
  have hd : 0 < d := by
    refine Nat.pos_of_ne_zero fun h => ?_
    rw [h, Nat.zero_mul] at f2
    have := Nat.mul_pos (show 0 < B.natAbs by omega) one64_pos
    omega
  refine ⟨c, d, q, r, s, ?_, hd, e3, f3, e2, f2, e4, e5⟩
  rw [val64_ddiv, e1, f1, ht]
  show (if d = 0 then _ else roundRatio b64 (s != false) c d (q - r)) = _
  rw [if_neg (by omega), show (s != false) = s by cases s <;> rfl]
theorem own_sc1 (z E d k2 r2 n U B : Nat) (hz : z * k2 = n * U) (hd : d * r2 = B * U) : (z * E * d) * (k2 * r2) = n * B * (U * U * E) := by
  calc (z * E * d) * (k2 * r2) = (z * k2) * (d * r2) * E := by ac_rfl
    _ = n * B * (U * U * E) := by rw [hz, hd]; ac_rfl
theorem own_sc2 (c Q Rr q2 U E A k2 : Nat) (hQ : Q * Rr = q2 * (U * E)) (hc : c * q2 = A * U) : c * Q * (k2 * Rr) = A * k2 * (U * U * E) := by
  calc c * Q * (k2 * Rr) = c * (Q * Rr) * k2 := by ac_rfl
    _ = (c * q2) * (U * E) * k2 := by rw [hQ]; ac_rfl
    _ = A * k2 * (U * U * E) := by rw [hc]; ac_rfl
/-- the two ends of the step from rationals to units -/
theorem own_scale (c d n A B k : Nat) (q r e0 : Int) (z : Nat) (hr : b64.qmin ≤ r) (hq : b64.qmin ≤ q) (h0 : e0 ≤ b64.qmin) (h0e : e0 ≤ q - r)
    (hc : c * 2 ^ (q - b64.qmin).toNat = A * one64) (hd : d * 2 ^ (r - b64.qmin).toNat = B * one64) (hz : z * 2 ^ k = n * one64) :
    (z * 2 ^ (b64.qmin - e0).toNat * d) * (2 ^ k * 2 ^ (r - b64.qmin).toNat) = n * B * (one64 * one64 * 2 ^ (b64.qmin - e0).toNat) ∧
    (inUnits c (q - r) e0) * (2 ^ k * 2 ^ (r - b64.qmin).toNat) = A * 2 ^ k * (one64 * one64 * 2 ^ (b64.qmin - e0).toNat) := by
  refine ⟨own_sc1 _ _ _ _ _ _ _ _ hz hd, ?_⟩
  unfold inUnits
  refine own_sc2 _ _ _ _ _ _ _ _ ?_ hc
  have e1 : (q - r - e0).toNat + (r - b64.qmin).toNat = (q - b64.qmin).toNat + ((-b64.qmin).toNat + (b64.qmin - e0).toNat) := by
    rw [own_qmin] at *; omega
  rw [← pow_qmin64, ← Nat.pow_add, ← Nat.pow_add, ← Nat.pow_add, e1]
theorem own_M1 {N B : Int} {x y : UInt64} (hx : DInt N x) (hy : DInt B y) (hB : 0 < B) (n k : Nat) (hn : n ≤ 2 ^ 53) (hk : k ≤ 900) (h : n * B.natAbs ≤ N.natAbs * 2 ^ k) : n * one64 ≤ zmag b64 (val64 (ddiv x y)) * 2 ^ k := by
  by_cases h0 : n = 0
  · rw [h0, Nat.zero_mul]; exact Nat.zero_le _
  obtain ⟨V, hV, hVn, hz⟩ := own_V n k (by omega) hn hk
  obtain ⟨c, d, q, r, s, e1, e2, e3, e4, e5, e6, -, -⟩ := own_quot hx hy hB
  obtain ⟨e0, g1, g2⟩ : ∃ e0 : Int, e0 ≤ b64.qmin ∧ e0 ≤ q - r := ⟨min b64.qmin (q - r), by omega, by omega⟩
  obtain ⟨s1, s2⟩ := own_scale c d n N.natAbs B.natAbs k q r e0 (zmag b64 V) e4 e3 g1 g2 e5 e6 hz
  rw [e1, ← hz]
  refine Nat.mul_le_mul_right _ (zmag_roundRatio_ge good_b64 e2 hV g1 g2 ?_)
  refine Nat.le_of_mul_le_mul_right ?_ (Nat.mul_pos (Nat.two_pow_pos k) (Nat.two_pow_pos (r - b64.qmin).toNat))
  rw [s1, s2]
  exact Nat.mul_le_mul_right _ h
theorem own_M2 {N B : Int} {x y : UInt64} (hx : DInt N x) (hy : DInt B y) (hB : 0 < B) (n k : Nat) (hn : n ≤ 2 ^ 53) (hn0 : 0 < n) (hk : k ≤ 900) (h : N.natAbs * 2 ^ k ≤ n * B.natAbs) : zmag b64 (val64 (ddiv x y)) * 2 ^ k ≤ n * one64 := by
  obtain ⟨V, hV, hVn, hz⟩ := own_V n k hn0 hn hk
  obtain ⟨c, d, q, r, s, e1, e2, e3, e4, e5, e6, -, -⟩ := own_quot hx hy hB
  obtain ⟨e0, g1, g2⟩ : ∃ e0 : Int, e0 ≤ b64.qmin ∧ e0 ≤ q - r := ⟨min b64.qmin (q - r), by omega, by omega⟩
  obtain ⟨s1, s2⟩ := own_scale c d n N.natAbs B.natAbs k q r e0 (zmag b64 V) e4 e3 g1 g2 e5 e6 hz
  rw [e1, ← hz]
  refine Nat.mul_le_mul_right _ (zmag_roundRatio_le good_b64 e2 hV hVn g1 g2 ?_)
  refine Nat.le_of_mul_le_mul_right ?_ (Nat.mul_pos (Nat.two_pow_pos k) (Nat.two_pow_pos (r - b64.qmin).toNat))
  rw [s1, s2]
  exact Nat.mul_le_mul_right _ h
/-- the quotient's value: its sign is the dividend's; nought where that is nought -/
theorem own_sg {N B : Int} {x y : UInt64} (hx : DInt N x) (hy : DInt B y) (hB : 0 < B) : (0 ≤ N → zval b64 (val64 (ddiv x y)) = (zmag b64 (val64 (ddiv x y)) : Int)) ∧ (N ≤ 0 → zval b64 (val64 (ddiv x y)) = -(zmag b64 (val64 (ddiv x y)) : Int)) := by
  obtain ⟨c, d, q, r, s, e1, e2, e3, e4, e5, e6, e7, e8⟩ := own_quot hx hy hB
  by_cases hN : N = 0
  · have hc := e8 hN
    have hz : zmag b64 (val64 (ddiv x y)) = 0 := by
      rw [e1, hc]
      show zmag b64 (if 0 = 0 then .fin s 0 b64.qmin else _) = 0
      rw [if_pos rfl]
      show 0 * _ = 0
      rw [Nat.zero_mul]
    have hv : zval b64 (val64 (ddiv x y)) = 0 := by
      show signed _ (zmag b64 (val64 (ddiv x y))) = 0
      rw [hz, signed_zero]
    rw [hv, hz]
    exact ⟨fun _ => rfl, fun _ => rfl⟩
  · have hs := e7 hN
    have hv : zval b64 (val64 (ddiv x y)) = signed s (zmag b64 (val64 (ddiv x y))) := by
      show signed (sgn (val64 (ddiv x y))) _ = _
      rw [e1, sgn_roundRatio]
    rw [hv, hs]
    constructor
    · intro h
      rw [decide_eq_false (by omega)]; rfl
    · intro h
      rw [decide_eq_true (by omega)]; rfl
theorem own_lt {N B M : Int} {x y w : UInt64} (k : Nat) (hx : DInt N x) (hy : DInt B y) (hw : DInt M w) (hB : 0 < B) (hBk : B.natAbs ≤ 2 ^ k) (hk : k ≤ 900) (hM : M.natAbs * 2 ^ k + 1 ≤ 2 ^ 53) (h : M * B < N) : M * (one64 : Int) < zval b64 (val64 (ddiv x y)) := by
  have hone := one64_pos
  have hp := Nat.two_pow_pos k
  obtain ⟨s1, s2⟩ := own_sg hx hy hB
  have m1 := own_M1 hx hy hB (M.natAbs * 2 ^ k + 1) k hM hk
  have m2 := own_M2 hx hy hB (M.natAbs * 2 ^ k - 1) k (by omega)
  generalize zmag b64 (val64 (ddiv x y)) = z at *
  generalize 2 ^ k = P at *
  generalize one64 = U at *
  obtain ⟨Bn, hBn⟩ : ∃ b : Nat, B = (b : Int) := ⟨B.toNat, by omega⟩
  subst hBn
  rw [Int.natAbs_natCast] at *
  by_cases hN : 0 ≤ N
  · rw [s1 hN]
    by_cases hM0 : 0 ≤ M
    · obtain ⟨Mn, rfl⟩ : ∃ b : Nat, M = (b : Int) := ⟨M.toNat, by omega⟩
      obtain ⟨Nn, rfl⟩ : ∃ b : Nat, N = (b : Int) := ⟨N.toNat, by omega⟩
      simp only [Int.natAbs_natCast] at *
      have h1 : Mn * Bn + 1 ≤ Nn := by have := h; rw [← Int.natCast_mul] at this; omega
      have q := m1 (by
        calc (Mn * P + 1) * Bn = (Mn * Bn) * P + Bn := by rw [Nat.add_mul, Nat.one_mul]; ac_rfl
          _ ≤ (Mn * Bn) * P + P := by omega
          _ = (Mn * Bn + 1) * P := by rw [Nat.add_mul, Nat.one_mul]
          _ ≤ Nn * P := Nat.mul_le_mul_right _ h1)
      have q2 : Mn * U < z := by
        refine Nat.lt_of_mul_lt_mul_right (a := P) ?_
        calc Mn * U * P < Mn * U * P + U := by omega
          _ = (Mn * P + 1) * U := by rw [Nat.add_mul, Nat.one_mul]; ac_rfl
          _ ≤ z * P := q
      rw [← Int.natCast_mul]; omega
    · have : M * (U : Int) < 0 := Int.mul_neg_of_neg_of_pos (by omega) (by omega)
      omega
  · rw [s2 (by omega)]
    have hM0 : M < 0 := by
      refine Int.lt_of_not_ge fun hge => ?_
      have := Int.mul_nonneg hge (Int.natCast_nonneg Bn)
      omega
    obtain ⟨Mn, hMn⟩ : ∃ b : Nat, M = -(b : Int) := ⟨(-M).toNat, by omega⟩
    obtain ⟨Nn, hNn⟩ : ∃ b : Nat, N = -(b : Int) := ⟨(-N).toNat, by omega⟩
    subst hMn hNn
    simp only [Int.natAbs_neg, Int.natAbs_natCast] at *
    have h1 : Nn + 1 ≤ Mn * Bn := by rw [Int.neg_mul, ← Int.natCast_mul] at h; omega
    have hMp : 1 ≤ Mn := by omega
    have hMP : 1 * P ≤ Mn * P := Nat.mul_le_mul_right _ hMp
    have hn1 : Mn * P - 1 + 1 = Mn * P := by omega
    by_cases hz0 : Mn * P - 1 = 0
    · have hMU : U ≤ Mn * U := Nat.le_mul_of_pos_left _ hMp
      have hP1 : P = 1 := by
        have : P ≤ Mn * P := Nat.le_mul_of_pos_left _ hMp
        omega
      have hM1 : Mn = 1 := by rw [hP1, Nat.mul_one] at hz0; omega
      have hB1 : Bn ≤ 1 := by omega
      have hN0 : Nn = 0 := by rw [hM1, Nat.one_mul] at h1; omega
      omega
    · have q := m2 (by omega) hk (by
        refine Nat.le_of_add_le_add_right (b := Bn) ?_
        calc Nn * P + Bn ≤ Nn * P + P := by omega
          _ = (Nn + 1) * P := by rw [Nat.add_mul, Nat.one_mul]
          _ ≤ (Mn * Bn) * P := Nat.mul_le_mul_right _ h1
          _ = (Mn * P - 1 + 1) * Bn := by rw [hn1]; ac_rfl
          _ = (Mn * P - 1) * Bn + Bn := by rw [Nat.add_mul, Nat.one_mul])
      have q2 : z < Mn * U := by
        refine Nat.lt_of_mul_lt_mul_right (a := P) ?_
        calc z * P ≤ (Mn * P - 1) * U := q
          _ < (Mn * P - 1) * U + U := by omega
          _ = (Mn * P - 1 + 1) * U := by rw [Nat.add_mul, Nat.one_mul]
          _ = Mn * U * P := by rw [hn1]; ac_rfl
      rw [Int.neg_mul, ← Int.natCast_mul]; omega
theorem own_gt {N B M : Int} {x y w : UInt64} (k : Nat) (hx : DInt N x) (hy : DInt B y) (hw : DInt M w) (hB : 0 < B) (hBk : B.natAbs ≤ 2 ^ k) (hk : k ≤ 900) (hM : M.natAbs * 2 ^ k + 1 ≤ 2 ^ 53) (h : N < M * B) : zval b64 (val64 (ddiv x y)) < M * (one64 : Int) := by
  have q := own_lt k (dneg_int hx) hy (dneg_int hw) hB hBk hk (by rw [Int.natAbs_neg]; exact hM) (by rw [Int.neg_mul]; omega)
  rw [ddiv_dneg, val64_dneg, zval_negate, Int.neg_mul] at q
  omega
theorem own_eqq {N B M : Int} {x y : UInt64} (hx : DInt N x) (hy : DInt B y) (hB : 0 < B) (hM : M.natAbs ≤ 2 ^ 53) (h : N = M * B) : zval b64 (val64 (ddiv x y)) = M * (one64 : Int) := by
  obtain ⟨s1, s2⟩ := own_sg hx hy hB
  have hN : N.natAbs = M.natAbs * B.natAbs := by rw [h, Int.natAbs_mul]
  have m1 := own_M1 hx hy hB M.natAbs 0 hM (by omega) (by rw [hN, Nat.pow_zero, Nat.mul_one]; exact Nat.le_refl _)
  rw [Nat.pow_zero, Nat.mul_one] at m1
  have m2 : zmag b64 (val64 (ddiv x y)) ≤ M.natAbs * one64 := by
    by_cases h0 : M = 0
    · have hN0 : N = 0 := by rw [h, h0, Int.zero_mul]
      have a1 := s1 (by omega)
      have a2 := s2 (by omega)
      omega
    · have m2 := own_M2 hx hy hB M.natAbs 0 hM (by omega) (by omega) (by rw [hN, Nat.pow_zero, Nat.mul_one]; exact Nat.le_refl _)
      rw [Nat.pow_zero, Nat.mul_one] at m2
      exact m2
  have e : zmag b64 (val64 (ddiv x y)) = M.natAbs * one64 := Nat.le_antisymm m2 m1
  by_cases h0 : 0 ≤ M
  · rw [s1 (by rw [h]; exact Int.mul_nonneg h0 (by omega)), e, Int.natCast_mul]
    congr 1
    omega
  · have hneg : M * B < 0 := Int.mul_neg_of_neg_of_pos (by omega) hB
    rw [s2 (by omega), e, Int.natCast_mul, ← Int.neg_mul]
    congr 1
    omega
theorem own_ddivfin {N B : Int} {x y : UInt64} (hx : DInt N x) (hy : DInt B y) (hB : 0 < B) : val64 (ddiv x y) ≠ .nan := by
  obtain ⟨c, d, q, r, s, e1, -⟩ := own_quot hx hy hB
  rw [e1]
  rcases roundRatio_cases b64 s c d (q - r) with ⟨c', q', h⟩ | h <;> rw [h] <;> exact Datum.noConfusion
theorem own_dnn {M : Int} {w : UInt64} (hw : DInt M w) : val64 w ≠ .nan := by
  obtain ⟨s, c, q, h, -⟩ := own_zm hw
  rw [h]; exact Datum.noConfusion
theorem own_cv_lt {a b : UInt64} (o : CmpOp) (h : dcmp a b = some .lt) : cmpValue (FP.dcmp a b) o < 0 := by
  rw [show FP.dcmp a b = some .lt from h]; cases o <;> decide
theorem own_cv_eq {a b : UInt64} (o : CmpOp) (h : dcmp a b = some .eq) : cmpValue (FP.dcmp a b) o = 0 := by
  rw [show FP.dcmp a b = some .eq from h]; cases o <;> rfl
theorem own_c_lt {N B M : Int} {x y w : UInt64} (o : CmpOp) (k : Nat) (hx : DInt N x) (hy : DInt B y) (hw : DInt M w) (hB : 0 < B) (hBk : B.natAbs ≤ 2 ^ k) (hk : k ≤ 900) (hM : M.natAbs * 2 ^ k + 1 ≤ 2 ^ 53) (h : M * B < N) : cmpValue (FP.dcmp w (FP.ddiv x y)) o < 0 :=
  own_cv_lt o (dcmp_lt.mpr ⟨own_dnn hw, own_ddivfin hx hy hB, by rw [DInt_zval hw]; exact own_lt k hx hy hw hB hBk hk hM h⟩)
theorem own_c_gt {N B M : Int} {x y w : UInt64} (o : CmpOp) (k : Nat) (hx : DInt N x) (hy : DInt B y) (hw : DInt M w) (hB : 0 < B) (hBk : B.natAbs ≤ 2 ^ k) (hk : k ≤ 900) (hM : M.natAbs * 2 ^ k + 1 ≤ 2 ^ 53) (h : N < M * B) : cmpValue (FP.dcmp (FP.ddiv x y) w) o < 0 :=
  own_cv_lt o (dcmp_lt.mpr ⟨own_ddivfin hx hy hB, own_dnn hw, by rw [DInt_zval hw]; exact own_gt k hx hy hw hB hBk hk hM h⟩)
theorem own_c_eq {N B M : Int} {x y w : UInt64} (o : CmpOp) (hx : DInt N x) (hy : DInt B y) (hw : DInt M w) (hB : 0 < B) (hM : M.natAbs ≤ 2 ^ 53) (h : N = M * B) : cmpValue (FP.dcmp (FP.ddiv x y) w) o = 0 :=
  own_cv_eq o (dcmp_eq.mpr ⟨own_ddivfin hx hy hB, own_dnn hw, by rw [DInt_zval hw]; exact own_eqq hx hy hB hM h⟩)
end OwnDiv
theorem own_q {p0 q : Int32} (h : (p0 &&& (65535 : Int32)) + (1 : Int32) = q) : 1 ≤ q.toInt ∧ q.toInt ≤ 65536 := by
  have h1 := c_mask p0 65535 16 (by decide) (by decide)
  have h2 := c_iadd (p0 &&& 65535) 1
  have h3 : (1 : Int32).toInt = 1 := by decide
  rw [h, h3, h1] at h2
  have := rng32 q
  omega
theorem own_q0 {q : Int32} (h : 1 ≤ q.toInt ∧ q.toInt ≤ 65536) : q ≠ 0 := by
  rintro rfl
  have : (0 : Int32).toInt = 0 := by decide
  omega
theorem own_r {p2 q r : Int32} (hq : 1 ≤ q.toInt ∧ q.toInt ≤ 65536) (h : (p2 &&& (2147483647 : Int32)) % q = r) : 0 ≤ r.toInt ∧ r.toInt < q.toInt := by
  have h1 := c_mask p2 2147483647 31 (by decide) (by decide)
  have h2 := (c_iremV (p2 &&& 2147483647) q).1 (by omega) (by omega)
  rw [h] at h2
  exact ⟨h2.1, h2.2.1⟩
theorem own_so {q p1 r : Int32} {so : Int64} (hq : 1 ≤ q.toInt ∧ q.toInt ≤ 65536) (hr : 0 ≤ r.toInt ∧ r.toInt < q.toInt) (h : q.toInt64 * p1.toInt64 + r.toInt64 = so) : so.toInt = p1.toInt * q.toInt + r.toInt ∧ so.toInt.natAbs ≤ 2 ^ 53 := by
  have h1 := c_lmul q.toInt64 p1.toInt64
  have h2 := c_ladd (q.toInt64 * p1.toInt64) r.toInt64
  rw [h] at h2
  rw [c_i2l, c_i2l] at h1
  rw [c_i2l] at h2
  have hp := rng32 p1
  have b := mc (a := q.toInt) (b := p1.toInt) (l1 := 0) (h1 := 65536) (l2 := -2147483648) (h2 := 2147483648) (by omega) (by omega) (by omega) (by omega)
  have := rng64 so
  have := rng64 (q.toInt64 * p1.toInt64)
  rw [Int.mul_comm p1.toInt]
  generalize q.toInt * p1.toInt = t at *
  have k1 : (q.toInt64 * p1.toInt64).toInt = t := by omega
  have k2 : so.toInt = t + r.toInt := by omega
  omega
theorem own_qd (q : Int32) : FP.Core.DInt q.toInt (FP.i2d q) := FP.Core.i2d_int q
theorem own_one : FP.Core.DInt 1 (4607182418800017408 : UInt64) := FP.Core.dint_one
theorem own_hi (p1 : Int32) : FP.Core.DInt (p1.toInt + 1) (FP.dadd (FP.i2d p1) (4607182418800017408 : UInt64)) := by
  have := rng32 p1
  exact FP.Core.dadd_int (own_qd p1) own_one (by omega)
theorem own_nz {q : Int32} (h : 1 ≤ q.toInt ∧ q.toInt ≤ 65536) : NoNaN64 (FP.ddiv (FP.l2d (0 : Int64)) (FP.i2d q)) ∨ True := Or.inr trivial
theorem own_avgnn {q p1 r : Int32} {so : Int64} (hq : 1 ≤ q.toInt ∧ q.toInt ≤ 65536) (hs : so.toInt = p1.toInt * q.toInt + r.toInt ∧ so.toInt.natAbs ≤ 2 ^ 53) : NoNaN64 (FP.ddiv (FP.l2d so) (FP.i2d q)) :=
  val64_no.mpr (own_ddivfin (FP.Core.l2d_int hs.2) (own_qd q) (by omega))
theorem own_F_eq {q p1 r : Int32} {so : Int64} (hq : 1 ≤ q.toInt ∧ q.toInt ≤ 65536) (hs : so.toInt = p1.toInt * q.toInt + r.toInt ∧ so.toInt.natAbs ≤ 2 ^ 53) (h : r = 0) : cmpValue (FP.dcmp (FP.ddiv (FP.l2d so) (FP.i2d q)) (FP.i2d p1)) .l = 0 := by
  subst h
  have : (0 : Int32).toInt = 0 := by decide
  have := rng32 p1
  exact own_c_eq .l (FP.Core.l2d_int hs.2) (own_qd q) (own_qd p1) (by omega) (by omega) (by omega)
theorem own_rpos {q r : Int32} (hr : 0 ≤ r.toInt ∧ r.toInt < q.toInt) (h : ¬ r = 0) : 0 < r.toInt := by
  have : r.toInt ≠ 0 := fun e => h (Int32.toInt_inj.mp (e.trans (by decide)))
  omega
theorem own_F_lo {q p1 r : Int32} {so : Int64} (hq : 1 ≤ q.toInt ∧ q.toInt ≤ 65536) (hr : 0 ≤ r.toInt ∧ r.toInt < q.toInt) (hs : so.toInt = p1.toInt * q.toInt + r.toInt ∧ so.toInt.natAbs ≤ 2 ^ 53) (h : ¬ r = 0) : cmpValue (FP.dcmp (FP.i2d p1) (FP.ddiv (FP.l2d so) (FP.i2d q))) .g < 0 := by
  have := own_rpos hr h
  have := rng32 p1
  exact own_c_lt .g 16 (FP.Core.l2d_int hs.2) (own_qd q) (own_qd p1) (by omega) (by omega) (by omega) (by omega) (by omega)
theorem own_F_hi {q p1 r : Int32} {so : Int64} (hq : 1 ≤ q.toInt ∧ q.toInt ≤ 65536) (hr : 0 ≤ r.toInt ∧ r.toInt < q.toInt) (hs : so.toInt = p1.toInt * q.toInt + r.toInt ∧ so.toInt.natAbs ≤ 2 ^ 53) : cmpValue (FP.dcmp (FP.ddiv (FP.l2d so) (FP.i2d q)) (FP.dadd (FP.i2d p1) (4607182418800017408 : UInt64))) .g < 0 := by
  have := rng32 p1
  exact own_c_gt .g 16 (FP.Core.l2d_int hs.2) (own_qd q) (own_hi p1) (by omega) (by omega) (by omega) (by omega) (by rw [Int.add_mul, Int.one_mul]; omega)
theorem own_onefin : Fin64 (4607182418800017408 : UInt64) := by unfold Fin64; decide +kernel
theorem pn_0 : plainName "com/example/ranksieve/ranksieve/workload/BenchmarkResult" = true := by first | (simp [plainName, overriddenIn]; done) | decide +kernel
theorem d2_0 : decode prog_77_method_2_code 0 = .ok (.aload_n 0, 1) := by decide +kernel
theorem d2_1 : decode prog_77_method_2_code 1 = .ok (.invokespecial 11, 3) := by decide +kernel
theorem d2_4 : decode prog_77_method_2_code 4 = .ok (.aload_n 0, 1) := by decide +kernel
theorem d2_5 : decode prog_77_method_2_code 5 = .ok (.iload_n 1, 1) := by decide +kernel
theorem d2_6 : decode prog_77_method_2_code 6 = .ok (.putfield 16, 3) := by decide +kernel
theorem d2_9 : decode prog_77_method_2_code 9 = .ok (.aload_n 0, 1) := by decide +kernel
theorem d2_10 : decode prog_77_method_2_code 10 = .ok (.iload_n 2, 1) := by decide +kernel
theorem d2_11 : decode prog_77_method_2_code 11 = .ok (.putfield 20, 3) := by decide +kernel
theorem d2_14 : decode prog_77_method_2_code 14 = .ok (.aload_n 0, 1) := by decide +kernel
theorem d2_15 : decode prog_77_method_2_code 15 = .ok (.lload_n 3, 1) := by decide +kernel
theorem d2_16 : decode prog_77_method_2_code 16 = .ok (.putfield 23, 3) := by decide +kernel
theorem d2_19 : decode prog_77_method_2_code 19 = .ok (.aload_n 0, 1) := by decide +kernel
theorem d2_20 : decode prog_77_method_2_code 20 = .ok (.lload 5, 2) := by decide +kernel
theorem d2_22 : decode prog_77_method_2_code 22 = .ok (.putfield 27, 3) := by decide +kernel
theorem d2_25 : decode prog_77_method_2_code 25 = .ok (.aload_n 0, 1) := by decide +kernel
theorem d2_26 : decode prog_77_method_2_code 26 = .ok (.dload 7, 2) := by decide +kernel
theorem d2_28 : decode prog_77_method_2_code 28 = .ok (.putfield 30, 3) := by decide +kernel
theorem d2_31 : decode prog_77_method_2_code 31 = .ok (.aload_n 0, 1) := by decide +kernel
theorem d2_32 : decode prog_77_method_2_code 32 = .ok (.iload 9, 2) := by decide +kernel
theorem d2_34 : decode prog_77_method_2_code 34 = .ok (.putfield 34, 3) := by decide +kernel
theorem d2_37 : decode prog_77_method_2_code 37 = .ok (.aload_n 0, 1) := by decide +kernel
theorem d2_38 : decode prog_77_method_2_code 38 = .ok (.iload 10, 2) := by decide +kernel
theorem d2_40 : decode prog_77_method_2_code 40 = .ok (.putfield 37, 3) := by decide +kernel
theorem d2_43 : decode prog_77_method_2_code 43 = .ok (.aload_n 0, 1) := by decide +kernel
theorem d2_44 : decode prog_77_method_2_code 44 = .ok (.dload 11, 2) := by decide +kernel
theorem d2_46 : decode prog_77_method_2_code 46 = .ok (.putfield 40, 3) := by decide +kernel
theorem d2_49 : decode prog_77_method_2_code 49 = .ok (.aload_n 0, 1) := by decide +kernel
theorem d2_50 : decode prog_77_method_2_code 50 = .ok (.lload 13, 2) := by decide +kernel
theorem d2_52 : decode prog_77_method_2_code 52 = .ok (.putfield 43, 3) := by decide +kernel
theorem d2_55 : decode prog_77_method_2_code 55 = .ok (.return_, 1) := by decide +kernel
theorem ef_rm2 (m : MethodId) (x0 : Addr) (x1 : Int32) (x2 : Int32) (x3 : Int64) (x4 : Int64) (x5 : UInt64) (x6 : Int32) (x7 : Int32) (x8 : UInt64) (x9 : Int64) : entryFrame m #[(.ref x0), (.int x1), (.int x2), (.long x3), (.long x4), (.double x5), (.int x6), (.int x7), (.double x8), (.long x9)] 15 = mkF m 0 #[.val (.ref x0), .val (.int x1), .val (.int x2), .val (.long x3), .second, .val (.long x4), .second, .val (.double x5), .second, .val (.int x6), .val (.int x7), .val (.double x8), .second, .val (.long x9), .second] [] := by first | (simp [entryFrame, mkF, argsToLocals, Value.category]; done) | rfl
def Qrm2 (Z : State) (a : Addr) (q : Int32) (ex : Int32) (so : Int64) (ra : Int64) (pt : UInt64) (ms : Int32) (mr : Int32) (sp : UInt64) (mc : Int64) (h0 : Heap) (n0 : Nat) (v : Option Value) (h : Heap) (L : List Loc) : Prop := v = none ∧ Fr n0 L ∧ Keep h0 h [a] ∧ Fld Z h a "com/example/ranksieve/ranksieve/workload/BenchmarkResult" "_queries" "I" (.int q) ∧ Fld Z h a "com/example/ranksieve/ranksieve/workload/BenchmarkResult" "_sortedAccesses" "J" (.long so)
set_option maxRecDepth 65536 in
set_option maxHeartbeats 40000000 in
theorem rm2 (l : Launch) (Z : State) (a0 : Array Value) (hw : ∀ d ∈ tables_1, d.before a0 Z = true) (ws : List Jvm.Cond) (a : Addr) (q : Int32) (ex : Int32) (so : Int64) (ra : Int64) (pt : UInt64) (ms : Int32) (mr : Int32) (sp : UInt64) (mc : Int64) (h0 : Heap) (n0 : Nat) (Z0 : n0 ≤ h0.size) (E_a : Exa Z h0 a "com/example/ranksieve/ranksieve/workload/BenchmarkResult") (F__queries_a : Fld Z h0 a "com/example/ranksieve/ranksieve/workload/BenchmarkResult" "_queries" "I" (.int (0 : Int32))) (F__exact_a : Fld Z h0 a "com/example/ranksieve/ranksieve/workload/BenchmarkResult" "_exact" "I" (.int (0 : Int32))) (F__sortedAccesses_a : Fld Z h0 a "com/example/ranksieve/ranksieve/workload/BenchmarkResult" "_sortedAccesses" "J" (.long (0 : Int64))) (F__randomAccesses_a : Fld Z h0 a "com/example/ranksieve/ranksieve/workload/BenchmarkResult" "_randomAccesses" "J" (.long (0 : Int64))) (F__probeTime_a : Fld Z h0 a "com/example/ranksieve/ranksieve/workload/BenchmarkResult" "_probeTime" "D" (.double (0 : UInt64))) (F__maxOutstandingSorted_a : Fld Z h0 a "com/example/ranksieve/ranksieve/workload/BenchmarkResult" "_maxOutstandingSorted" "I" (.int (0 : Int32))) (F__maxOutstandingRandom_a : Fld Z h0 a "com/example/ranksieve/ranksieve/workload/BenchmarkResult" "_maxOutstandingRandom" "I" (.int (0 : Int32))) (F__sequentialProbeTime_a : Fld Z h0 a "com/example/ranksieve/ranksieve/workload/BenchmarkResult" "_sequentialProbeTime" "D" (.double (0 : UInt64))) (F__maxConcurrentAccesses_a : Fld Z h0 a "com/example/ranksieve/ranksieve/workload/BenchmarkResult" "_maxConcurrentAccesses" "J" (.long (0 : Int64))) (g_a : n0 ≤ a) :
    MetFree l (⟨"com/example/ranksieve/ranksieve/workload/BenchmarkResult", "<init>", "(IIJJDIIDJ)V"⟩ : MethodName) (head1 (Jvm.Cond.code (⟨"com/example/ranksieve/ranksieve/workload/BenchmarkResult", "<init>", "(IIJJDIIDJ)V"⟩ : MethodName) prog_77_method_2_code 15 none :: ws) ({ frames := 1, cells := 0, slots := 0, locals := 12 } : Room)) (fun aq Uq => aq = #[(.ref a), (.int q), (.int ex), (.long so), (.long ra), (.double pt), (.int ms), (.int mr), (.double sp), (.long mc)] ∧ Z.Warmed39 Uq.vm ∧ Uq.heap = h0) (fun _ _ _ _ _ => True) (fun _ Uq oq Uq' => ∃ vq Lq, oq = .returned vq ∧ Qrm2 Z a q ex so ra pt ms mr sp mc h0 n0 vq Uq'.heap Lq ∧ FrameEnd Uq oq Uq' Lq ({ frames := 1, cells := 0, slots := 0, locals := 12 } : Room).cells ({ frames := 1, cells := 0, slots := 0, locals := 12 } : Room).slots) := by
  refine MetFree.of_bodySF (plainFor_of_name pn_0) hisR ?_
  intro p e s m args below meth c s₁ Bd hml0 hP hK
  obtain ⟨rfl, hZ, hh⟩ := hP
  have hx := Bd.exec
  have hby := Bd.bytes
  have hml : c.maxLocals = 15 := hml0
  have hown : s.vm.findClass "com/example/ranksieve/ranksieve/workload/BenchmarkResult" = some m.cls := findClass_of_methodNamed Bd.named
  have hnm := (name_of_methodNamed Bd.named Bd.method).1
  have X0 : Stand p l e ({ frames := 1, cells := 0, slots := 0, locals := 12 } : Room) s m #[(.ref a), (.int q), (.int ex), (.long so), (.long ra), (.double pt), (.int ms), (.int mr), (.double sp), (.long mc)] below meth c s₁ [] 0 0 := Stand.of_body Bd
  have e0 : s₁.heap = h0 := by rw [← hh, Bd.state]; rfl
  have N0 := Fr.nil n0
  have ZH := Z0
  have KK := Keep.refl h0 [a]
  refine own_start (fun t k => castTop (ef_rm2 m a q ex so ra pt ms mr sp mc) k) ?_
  show own_Go p.tables e below _ (s₁.setTop (mkF m 0 #[.val (.ref a), .val (.int q), .val (.int ex), .val (.long so), .second, .val (.long ra), .second, .val (.double pt), .second, .val (.int ms), .val (.int mr), .val (.double sp), .second, .val (.long mc), .second] []))
  refine own_up (fun _ k => XS.aloadN X0.here hx rfl (hb hby d2_0) rfl rfl k) ?_
  show own_Go p.tables e below _ (s₁.setTop (mkF m 1 #[.val (.ref a), .val (.int q), .val (.int ex), .val (.long so), .second, .val (.long ra), .second, .val (.double pt), .second, .val (.int ms), .val (.int mr), .val (.double sp), .second, .val (.long mc), .second] [(.ref a)]))
  obtain ⟨T1, X1, e1, st1⟩ := initO X0 hx hZ hown (hw _ (List.mem_of_getElem? (i := 12) rfl)) (hw _ (List.mem_of_getElem? (i := 13) rfl)) (hw _ (List.mem_of_getElem? (i := 14) rfl)) e0 (g := (mkF m 1 #[.val (.ref a), .val (.int q), .val (.int ex), .val (.long so), .second, .val (.long ra), .second, .val (.double pt), .second, .val (.int ms), .val (.int mr), .val (.double sp), .second, .val (.long mc), .second] [(.ref a)])) rfl (by rw [hml]; rfl) rfl (hb hby d2_1) (by decide) (W := 0) (by show 2 * 0 + _ ≤ _; exact Nat.le_of_eq rfl) (by decide)
  refine own_up st1 ?_
  show own_Go p.tables e below _ (T1.setTop (mkF m 4 #[.val (.ref a), .val (.int q), .val (.int ex), .val (.long so), .second, .val (.long ra), .second, .val (.double pt), .second, .val (.int ms), .val (.int mr), .val (.double sp), .second, .val (.long mc), .second] []))
  refine own_up (fun _ k => XS.aloadN X1.here hx rfl (hb hby d2_4) rfl rfl k) ?_
  show own_Go p.tables e below _ (T1.setTop (mkF m 5 #[.val (.ref a), .val (.int q), .val (.int ex), .val (.long so), .second, .val (.long ra), .second, .val (.double pt), .second, .val (.int ms), .val (.int mr), .val (.double sp), .second, .val (.long mc), .second] [(.ref a)]))
  refine own_up (fun _ k => XS.iloadN X1.here hx rfl (hb hby d2_5) rfl k) ?_
  show own_Go p.tables e below _ (T1.setTop (mkF m 6 #[.val (.ref a), .val (.int q), .val (.int ex), .val (.long so), .second, .val (.long ra), .second, .val (.double pt), .second, .val (.int ms), .val (.int mr), .val (.double sp), .second, .val (.long mc), .second] [(.int q), (.ref a)]))
  obtain ⟨T2, h2, X2, e2, W2, st2⟩ := putF X1 hx hZ hown (host := "") (Or.inl (hw _ (List.mem_of_getElem? (i := 15) rfl))) Via.refl e1 F__queries_a E_a (Or.inr ⟨(hw _ (List.mem_of_getElem? (i := 16) rfl)), rfl, hnm⟩) (hw _ (List.mem_of_getElem? (i := 3) rfl)) (ty := .int) (by decide) rfl rfl (g := (mkF m 6 #[.val (.ref a), .val (.int q), .val (.int ex), .val (.long so), .second, .val (.long ra), .second, .val (.double pt), .second, .val (.int ms), .val (.int mr), .val (.double sp), .second, .val (.long mc), .second] [(.int q), (.ref a)])) rfl rfl (hb hby d2_6)
  have N2 := Fr.snoc X2 N0 g_a
  have F__queries_a := F__queries_a.same W2
  have E_a := E_a.wr W2
  have F__exact_a := F__exact_a.other W2 (Or.inr (slot_ne (Or.inr (hw _ (List.mem_of_getElem? (i := 18) rfl))) (Or.inr (hw _ (List.mem_of_getElem? (i := 16) rfl))) (by decide) (t := .int) (t' := .int) (by decide) (by decide)))
  have F__sortedAccesses_a := F__sortedAccesses_a.other W2 (Or.inr (slot_ne (Or.inr (hw _ (List.mem_of_getElem? (i := 20) rfl))) (Or.inr (hw _ (List.mem_of_getElem? (i := 16) rfl))) (by decide) (t := .long) (t' := .int) (by decide) (by decide)))
  have F__randomAccesses_a := F__randomAccesses_a.other W2 (Or.inr (slot_ne (Or.inr (hw _ (List.mem_of_getElem? (i := 22) rfl))) (Or.inr (hw _ (List.mem_of_getElem? (i := 16) rfl))) (by decide) (t := .long) (t' := .int) (by decide) (by decide)))
  have F__probeTime_a := F__probeTime_a.other W2 (Or.inr (slot_ne (Or.inr (hw _ (List.mem_of_getElem? (i := 24) rfl))) (Or.inr (hw _ (List.mem_of_getElem? (i := 16) rfl))) (by decide) (t := .double) (t' := .int) (by decide) (by decide)))
  have F__maxOutstandingSorted_a := F__maxOutstandingSorted_a.other W2 (Or.inr (slot_ne (Or.inr (hw _ (List.mem_of_getElem? (i := 26) rfl))) (Or.inr (hw _ (List.mem_of_getElem? (i := 16) rfl))) (by decide) (t := .int) (t' := .int) (by decide) (by decide)))
  have F__maxOutstandingRandom_a := F__maxOutstandingRandom_a.other W2 (Or.inr (slot_ne (Or.inr (hw _ (List.mem_of_getElem? (i := 28) rfl))) (Or.inr (hw _ (List.mem_of_getElem? (i := 16) rfl))) (by decide) (t := .int) (t' := .int) (by decide) (by decide)))
  have F__sequentialProbeTime_a := F__sequentialProbeTime_a.other W2 (Or.inr (slot_ne (Or.inr (hw _ (List.mem_of_getElem? (i := 30) rfl))) (Or.inr (hw _ (List.mem_of_getElem? (i := 16) rfl))) (by decide) (t := .double) (t' := .int) (by decide) (by decide)))
  have F__maxConcurrentAccesses_a := F__maxConcurrentAccesses_a.other W2 (Or.inr (slot_ne (Or.inr (hw _ (List.mem_of_getElem? (i := 32) rfl))) (Or.inr (hw _ (List.mem_of_getElem? (i := 16) rfl))) (by decide) (t := .long) (t' := .int) (by decide) (by decide)))
  have ZH := Nat.le_trans ZH (Nat.le_of_eq W2.size.symm)
  have KK := KK.wr W2 (Or.inl (List.mem_of_getElem? (i := 0) rfl))
  refine own_up st2 ?_
  show own_Go p.tables e below _ (T2.setTop (mkF m 9 #[.val (.ref a), .val (.int q), .val (.int ex), .val (.long so), .second, .val (.long ra), .second, .val (.double pt), .second, .val (.int ms), .val (.int mr), .val (.double sp), .second, .val (.long mc), .second] []))
  refine own_up (fun _ k => XS.aloadN X2.here hx rfl (hb hby d2_9) rfl rfl k) ?_
  show own_Go p.tables e below _ (T2.setTop (mkF m 10 #[.val (.ref a), .val (.int q), .val (.int ex), .val (.long so), .second, .val (.long ra), .second, .val (.double pt), .second, .val (.int ms), .val (.int mr), .val (.double sp), .second, .val (.long mc), .second] [(.ref a)]))
  refine own_up (fun _ k => XS.iloadN X2.here hx rfl (hb hby d2_10) rfl k) ?_
  show own_Go p.tables e below _ (T2.setTop (mkF m 11 #[.val (.ref a), .val (.int q), .val (.int ex), .val (.long so), .second, .val (.long ra), .second, .val (.double pt), .second, .val (.int ms), .val (.int mr), .val (.double sp), .second, .val (.long mc), .second] [(.int ex), (.ref a)]))
  obtain ⟨T3, h3, X3, e3, W3, st3⟩ := putF X2 hx hZ hown (host := "") (Or.inl (hw _ (List.mem_of_getElem? (i := 17) rfl))) Via.refl e2 F__exact_a E_a (Or.inr ⟨(hw _ (List.mem_of_getElem? (i := 18) rfl)), rfl, hnm⟩) (hw _ (List.mem_of_getElem? (i := 3) rfl)) (ty := .int) (by decide) rfl rfl (g := (mkF m 11 #[.val (.ref a), .val (.int q), .val (.int ex), .val (.long so), .second, .val (.long ra), .second, .val (.double pt), .second, .val (.int ms), .val (.int mr), .val (.double sp), .second, .val (.long mc), .second] [(.int ex), (.ref a)])) rfl rfl (hb hby d2_11)
  have N3 := Fr.snoc X3 N2 g_a
  have F__exact_a := F__exact_a.same W3
  have E_a := E_a.wr W3
  have F__queries_a := F__queries_a.other W3 (Or.inr (slot_ne (Or.inr (hw _ (List.mem_of_getElem? (i := 16) rfl))) (Or.inr (hw _ (List.mem_of_getElem? (i := 18) rfl))) (by decide) (t := .int) (t' := .int) (by decide) (by decide)))
  have F__sortedAccesses_a := F__sortedAccesses_a.other W3 (Or.inr (slot_ne (Or.inr (hw _ (List.mem_of_getElem? (i := 20) rfl))) (Or.inr (hw _ (List.mem_of_getElem? (i := 18) rfl))) (by decide) (t := .long) (t' := .int) (by decide) (by decide)))
  have F__randomAccesses_a := F__randomAccesses_a.other W3 (Or.inr (slot_ne (Or.inr (hw _ (List.mem_of_getElem? (i := 22) rfl))) (Or.inr (hw _ (List.mem_of_getElem? (i := 18) rfl))) (by decide) (t := .long) (t' := .int) (by decide) (by decide)))
  have F__probeTime_a := F__probeTime_a.other W3 (Or.inr (slot_ne (Or.inr (hw _ (List.mem_of_getElem? (i := 24) rfl))) (Or.inr (hw _ (List.mem_of_getElem? (i := 18) rfl))) (by decide) (t := .double) (t' := .int) (by decide) (by decide)))
  have F__maxOutstandingSorted_a := F__maxOutstandingSorted_a.other W3 (Or.inr (slot_ne (Or.inr (hw _ (List.mem_of_getElem? (i := 26) rfl))) (Or.inr (hw _ (List.mem_of_getElem? (i := 18) rfl))) (by decide) (t := .int) (t' := .int) (by decide) (by decide)))
  have F__maxOutstandingRandom_a := F__maxOutstandingRandom_a.other W3 (Or.inr (slot_ne (Or.inr (hw _ (List.mem_of_getElem? (i := 28) rfl))) (Or.inr (hw _ (List.mem_of_getElem? (i := 18) rfl))) (by decide) (t := .int) (t' := .int) (by decide) (by decide)))
  have F__sequentialProbeTime_a := F__sequentialProbeTime_a.other W3 (Or.inr (slot_ne (Or.inr (hw _ (List.mem_of_getElem? (i := 30) rfl))) (Or.inr (hw _ (List.mem_of_getElem? (i := 18) rfl))) (by decide) (t := .double) (t' := .int) (by decide) (by decide)))
  have F__maxConcurrentAccesses_a := F__maxConcurrentAccesses_a.other W3 (Or.inr (slot_ne (Or.inr (hw _ (List.mem_of_getElem? (i := 32) rfl))) (Or.inr (hw _ (List.mem_of_getElem? (i := 18) rfl))) (by decide) (t := .long) (t' := .int) (by decide) (by decide)))
  have ZH := Nat.le_trans ZH (Nat.le_of_eq W3.size.symm)
  have KK := KK.wr W3 (Or.inl (List.mem_of_getElem? (i := 0) rfl))
  refine own_up st3 ?_
  show own_Go p.tables e below _ (T3.setTop (mkF m 14 #[.val (.ref a), .val (.int q), .val (.int ex), .val (.long so), .second, .val (.long ra), .second, .val (.double pt), .second, .val (.int ms), .val (.int mr), .val (.double sp), .second, .val (.long mc), .second] []))
  refine own_up (fun _ k => XS.aloadN X3.here hx rfl (hb hby d2_14) rfl rfl k) ?_
  show own_Go p.tables e below _ (T3.setTop (mkF m 15 #[.val (.ref a), .val (.int q), .val (.int ex), .val (.long so), .second, .val (.long ra), .second, .val (.double pt), .second, .val (.int ms), .val (.int mr), .val (.double sp), .second, .val (.long mc), .second] [(.ref a)]))
  refine own_up (fun _ k => XS.lloadN X3.here hx rfl (hb hby d2_15) rfl k) ?_
  show own_Go p.tables e below _ (T3.setTop (mkF m 16 #[.val (.ref a), .val (.int q), .val (.int ex), .val (.long so), .second, .val (.long ra), .second, .val (.double pt), .second, .val (.int ms), .val (.int mr), .val (.double sp), .second, .val (.long mc), .second] [(.long so), (.ref a)]))
  obtain ⟨T4, h4, X4, e4, W4, st4⟩ := putF X3 hx hZ hown (host := "") (Or.inl (hw _ (List.mem_of_getElem? (i := 19) rfl))) Via.refl e3 F__sortedAccesses_a E_a (Or.inr ⟨(hw _ (List.mem_of_getElem? (i := 20) rfl)), rfl, hnm⟩) (hw _ (List.mem_of_getElem? (i := 3) rfl)) (ty := .long) (by decide) rfl rfl (g := (mkF m 16 #[.val (.ref a), .val (.int q), .val (.int ex), .val (.long so), .second, .val (.long ra), .second, .val (.double pt), .second, .val (.int ms), .val (.int mr), .val (.double sp), .second, .val (.long mc), .second] [(.long so), (.ref a)])) rfl rfl (hb hby d2_16)
  have N4 := Fr.snoc X4 N3 g_a
  have F__sortedAccesses_a := F__sortedAccesses_a.same W4
  have E_a := E_a.wr W4
  have F__queries_a := F__queries_a.other W4 (Or.inr (slot_ne (Or.inr (hw _ (List.mem_of_getElem? (i := 16) rfl))) (Or.inr (hw _ (List.mem_of_getElem? (i := 20) rfl))) (by decide) (t := .int) (t' := .long) (by decide) (by decide)))
  have F__randomAccesses_a := F__randomAccesses_a.other W4 (Or.inr (slot_ne (Or.inr (hw _ (List.mem_of_getElem? (i := 22) rfl))) (Or.inr (hw _ (List.mem_of_getElem? (i := 20) rfl))) (by decide) (t := .long) (t' := .long) (by decide) (by decide)))
  have F__probeTime_a := F__probeTime_a.other W4 (Or.inr (slot_ne (Or.inr (hw _ (List.mem_of_getElem? (i := 24) rfl))) (Or.inr (hw _ (List.mem_of_getElem? (i := 20) rfl))) (by decide) (t := .double) (t' := .long) (by decide) (by decide)))
  have F__maxOutstandingSorted_a := F__maxOutstandingSorted_a.other W4 (Or.inr (slot_ne (Or.inr (hw _ (List.mem_of_getElem? (i := 26) rfl))) (Or.inr (hw _ (List.mem_of_getElem? (i := 20) rfl))) (by decide) (t := .int) (t' := .long) (by decide) (by decide)))
  have F__maxOutstandingRandom_a := F__maxOutstandingRandom_a.other W4 (Or.inr (slot_ne (Or.inr (hw _ (List.mem_of_getElem? (i := 28) rfl))) (Or.inr (hw _ (List.mem_of_getElem? (i := 20) rfl))) (by decide) (t := .int) (t' := .long) (by decide) (by decide)))
  have F__sequentialProbeTime_a := F__sequentialProbeTime_a.other W4 (Or.inr (slot_ne (Or.inr (hw _ (List.mem_of_getElem? (i := 30) rfl))) (Or.inr (hw _ (List.mem_of_getElem? (i := 20) rfl))) (by decide) (t := .double) (t' := .long) (by decide) (by decide)))
  have F__maxConcurrentAccesses_a := F__maxConcurrentAccesses_a.other W4 (Or.inr (slot_ne (Or.inr (hw _ (List.mem_of_getElem? (i := 32) rfl))) (Or.inr (hw _ (List.mem_of_getElem? (i := 20) rfl))) (by decide) (t := .long) (t' := .long) (by decide) (by decide)))
  have ZH := Nat.le_trans ZH (Nat.le_of_eq W4.size.symm)
  have KK := KK.wr W4 (Or.inl (List.mem_of_getElem? (i := 0) rfl))
  refine own_up st4 ?_
  show own_Go p.tables e below _ (T4.setTop (mkF m 19 #[.val (.ref a), .val (.int q), .val (.int ex), .val (.long so), .second, .val (.long ra), .second, .val (.double pt), .second, .val (.int ms), .val (.int mr), .val (.double sp), .second, .val (.long mc), .second] []))
  refine own_up (fun _ k => XS.aloadN X4.here hx rfl (hb hby d2_19) rfl rfl k) ?_
  show own_Go p.tables e below _ (T4.setTop (mkF m 20 #[.val (.ref a), .val (.int q), .val (.int ex), .val (.long so), .second, .val (.long ra), .second, .val (.double pt), .second, .val (.int ms), .val (.int mr), .val (.double sp), .second, .val (.long mc), .second] [(.ref a)]))
  refine own_up (fun _ k => XS.lload X4.here hx rfl (hb hby d2_20) rfl k) ?_
  show own_Go p.tables e below _ (T4.setTop (mkF m 22 #[.val (.ref a), .val (.int q), .val (.int ex), .val (.long so), .second, .val (.long ra), .second, .val (.double pt), .second, .val (.int ms), .val (.int mr), .val (.double sp), .second, .val (.long mc), .second] [(.long ra), (.ref a)]))
  obtain ⟨T5, h5, X5, e5, W5, st5⟩ := putF X4 hx hZ hown (host := "") (Or.inl (hw _ (List.mem_of_getElem? (i := 21) rfl))) Via.refl e4 F__randomAccesses_a E_a (Or.inr ⟨(hw _ (List.mem_of_getElem? (i := 22) rfl)), rfl, hnm⟩) (hw _ (List.mem_of_getElem? (i := 3) rfl)) (ty := .long) (by decide) rfl rfl (g := (mkF m 22 #[.val (.ref a), .val (.int q), .val (.int ex), .val (.long so), .second, .val (.long ra), .second, .val (.double pt), .second, .val (.int ms), .val (.int mr), .val (.double sp), .second, .val (.long mc), .second] [(.long ra), (.ref a)])) rfl rfl (hb hby d2_22)
  have N5 := Fr.snoc X5 N4 g_a
  have F__randomAccesses_a := F__randomAccesses_a.same W5
  have E_a := E_a.wr W5
  have F__queries_a := F__queries_a.other W5 (Or.inr (slot_ne (Or.inr (hw _ (List.mem_of_getElem? (i := 16) rfl))) (Or.inr (hw _ (List.mem_of_getElem? (i := 22) rfl))) (by decide) (t := .int) (t' := .long) (by decide) (by decide)))
  have F__sortedAccesses_a := F__sortedAccesses_a.other W5 (Or.inr (slot_ne (Or.inr (hw _ (List.mem_of_getElem? (i := 20) rfl))) (Or.inr (hw _ (List.mem_of_getElem? (i := 22) rfl))) (by decide) (t := .long) (t' := .long) (by decide) (by decide)))
  have F__probeTime_a := F__probeTime_a.other W5 (Or.inr (slot_ne (Or.inr (hw _ (List.mem_of_getElem? (i := 24) rfl))) (Or.inr (hw _ (List.mem_of_getElem? (i := 22) rfl))) (by decide) (t := .double) (t' := .long) (by decide) (by decide)))
  have F__maxOutstandingSorted_a := F__maxOutstandingSorted_a.other W5 (Or.inr (slot_ne (Or.inr (hw _ (List.mem_of_getElem? (i := 26) rfl))) (Or.inr (hw _ (List.mem_of_getElem? (i := 22) rfl))) (by decide) (t := .int) (t' := .long) (by decide) (by decide)))
  have F__maxOutstandingRandom_a := F__maxOutstandingRandom_a.other W5 (Or.inr (slot_ne (Or.inr (hw _ (List.mem_of_getElem? (i := 28) rfl))) (Or.inr (hw _ (List.mem_of_getElem? (i := 22) rfl))) (by decide) (t := .int) (t' := .long) (by decide) (by decide)))
  have F__sequentialProbeTime_a := F__sequentialProbeTime_a.other W5 (Or.inr (slot_ne (Or.inr (hw _ (List.mem_of_getElem? (i := 30) rfl))) (Or.inr (hw _ (List.mem_of_getElem? (i := 22) rfl))) (by decide) (t := .double) (t' := .long) (by decide) (by decide)))
  have F__maxConcurrentAccesses_a := F__maxConcurrentAccesses_a.other W5 (Or.inr (slot_ne (Or.inr (hw _ (List.mem_of_getElem? (i := 32) rfl))) (Or.inr (hw _ (List.mem_of_getElem? (i := 22) rfl))) (by decide) (t := .long) (t' := .long) (by decide) (by decide)))
  have ZH := Nat.le_trans ZH (Nat.le_of_eq W5.size.symm)
  have KK := KK.wr W5 (Or.inl (List.mem_of_getElem? (i := 0) rfl))
  refine own_up st5 ?_
  show own_Go p.tables e below _ (T5.setTop (mkF m 25 #[.val (.ref a), .val (.int q), .val (.int ex), .val (.long so), .second, .val (.long ra), .second, .val (.double pt), .second, .val (.int ms), .val (.int mr), .val (.double sp), .second, .val (.long mc), .second] []))
  refine own_up (fun _ k => XS.aloadN X5.here hx rfl (hb hby d2_25) rfl rfl k) ?_
  show own_Go p.tables e below _ (T5.setTop (mkF m 26 #[.val (.ref a), .val (.int q), .val (.int ex), .val (.long so), .second, .val (.long ra), .second, .val (.double pt), .second, .val (.int ms), .val (.int mr), .val (.double sp), .second, .val (.long mc), .second] [(.ref a)]))
  refine own_up (fun _ k => XS.dload X5.here hx rfl (hb hby d2_26) rfl k) ?_
  show own_Go p.tables e below _ (T5.setTop (mkF m 28 #[.val (.ref a), .val (.int q), .val (.int ex), .val (.long so), .second, .val (.long ra), .second, .val (.double pt), .second, .val (.int ms), .val (.int mr), .val (.double sp), .second, .val (.long mc), .second] [(.double pt), (.ref a)]))
  obtain ⟨T6, h6, X6, e6, W6, st6⟩ := putF X5 hx hZ hown (host := "") (Or.inl (hw _ (List.mem_of_getElem? (i := 23) rfl))) Via.refl e5 F__probeTime_a E_a (Or.inr ⟨(hw _ (List.mem_of_getElem? (i := 24) rfl)), rfl, hnm⟩) (hw _ (List.mem_of_getElem? (i := 3) rfl)) (ty := .double) (by decide) rfl rfl (g := (mkF m 28 #[.val (.ref a), .val (.int q), .val (.int ex), .val (.long so), .second, .val (.long ra), .second, .val (.double pt), .second, .val (.int ms), .val (.int mr), .val (.double sp), .second, .val (.long mc), .second] [(.double pt), (.ref a)])) rfl rfl (hb hby d2_28)
  have N6 := Fr.snoc X6 N5 g_a
  have F__probeTime_a := F__probeTime_a.same W6
  have E_a := E_a.wr W6
  have F__queries_a := F__queries_a.other W6 (Or.inr (slot_ne (Or.inr (hw _ (List.mem_of_getElem? (i := 16) rfl))) (Or.inr (hw _ (List.mem_of_getElem? (i := 24) rfl))) (by decide) (t := .int) (t' := .double) (by decide) (by decide)))
  have F__sortedAccesses_a := F__sortedAccesses_a.other W6 (Or.inr (slot_ne (Or.inr (hw _ (List.mem_of_getElem? (i := 20) rfl))) (Or.inr (hw _ (List.mem_of_getElem? (i := 24) rfl))) (by decide) (t := .long) (t' := .double) (by decide) (by decide)))
  have F__maxOutstandingSorted_a := F__maxOutstandingSorted_a.other W6 (Or.inr (slot_ne (Or.inr (hw _ (List.mem_of_getElem? (i := 26) rfl))) (Or.inr (hw _ (List.mem_of_getElem? (i := 24) rfl))) (by decide) (t := .int) (t' := .double) (by decide) (by decide)))
  have F__maxOutstandingRandom_a := F__maxOutstandingRandom_a.other W6 (Or.inr (slot_ne (Or.inr (hw _ (List.mem_of_getElem? (i := 28) rfl))) (Or.inr (hw _ (List.mem_of_getElem? (i := 24) rfl))) (by decide) (t := .int) (t' := .double) (by decide) (by decide)))
  have F__sequentialProbeTime_a := F__sequentialProbeTime_a.other W6 (Or.inr (slot_ne (Or.inr (hw _ (List.mem_of_getElem? (i := 30) rfl))) (Or.inr (hw _ (List.mem_of_getElem? (i := 24) rfl))) (by decide) (t := .double) (t' := .double) (by decide) (by decide)))
  have F__maxConcurrentAccesses_a := F__maxConcurrentAccesses_a.other W6 (Or.inr (slot_ne (Or.inr (hw _ (List.mem_of_getElem? (i := 32) rfl))) (Or.inr (hw _ (List.mem_of_getElem? (i := 24) rfl))) (by decide) (t := .long) (t' := .double) (by decide) (by decide)))
  have ZH := Nat.le_trans ZH (Nat.le_of_eq W6.size.symm)
  have KK := KK.wr W6 (Or.inl (List.mem_of_getElem? (i := 0) rfl))
  refine own_up st6 ?_
  show own_Go p.tables e below _ (T6.setTop (mkF m 31 #[.val (.ref a), .val (.int q), .val (.int ex), .val (.long so), .second, .val (.long ra), .second, .val (.double pt), .second, .val (.int ms), .val (.int mr), .val (.double sp), .second, .val (.long mc), .second] []))
  refine own_up (fun _ k => XS.aloadN X6.here hx rfl (hb hby d2_31) rfl rfl k) ?_
  show own_Go p.tables e below _ (T6.setTop (mkF m 32 #[.val (.ref a), .val (.int q), .val (.int ex), .val (.long so), .second, .val (.long ra), .second, .val (.double pt), .second, .val (.int ms), .val (.int mr), .val (.double sp), .second, .val (.long mc), .second] [(.ref a)]))
  refine own_up (fun _ k => XS.iload X6.here hx rfl (hb hby d2_32) rfl k) ?_
  show own_Go p.tables e below _ (T6.setTop (mkF m 34 #[.val (.ref a), .val (.int q), .val (.int ex), .val (.long so), .second, .val (.long ra), .second, .val (.double pt), .second, .val (.int ms), .val (.int mr), .val (.double sp), .second, .val (.long mc), .second] [(.int ms), (.ref a)]))
  obtain ⟨T7, h7, X7, e7, W7, st7⟩ := putF X6 hx hZ hown (host := "") (Or.inl (hw _ (List.mem_of_getElem? (i := 25) rfl))) Via.refl e6 F__maxOutstandingSorted_a E_a (Or.inr ⟨(hw _ (List.mem_of_getElem? (i := 26) rfl)), rfl, hnm⟩) (hw _ (List.mem_of_getElem? (i := 3) rfl)) (ty := .int) (by decide) rfl rfl (g := (mkF m 34 #[.val (.ref a), .val (.int q), .val (.int ex), .val (.long so), .second, .val (.long ra), .second, .val (.double pt), .second, .val (.int ms), .val (.int mr), .val (.double sp), .second, .val (.long mc), .second] [(.int ms), (.ref a)])) rfl rfl (hb hby d2_34)
  have N7 := Fr.snoc X7 N6 g_a
  have F__maxOutstandingSorted_a := F__maxOutstandingSorted_a.same W7
  have E_a := E_a.wr W7
  have F__queries_a := F__queries_a.other W7 (Or.inr (slot_ne (Or.inr (hw _ (List.mem_of_getElem? (i := 16) rfl))) (Or.inr (hw _ (List.mem_of_getElem? (i := 26) rfl))) (by decide) (t := .int) (t' := .int) (by decide) (by decide)))
  have F__sortedAccesses_a := F__sortedAccesses_a.other W7 (Or.inr (slot_ne (Or.inr (hw _ (List.mem_of_getElem? (i := 20) rfl))) (Or.inr (hw _ (List.mem_of_getElem? (i := 26) rfl))) (by decide) (t := .long) (t' := .int) (by decide) (by decide)))
  have F__maxOutstandingRandom_a := F__maxOutstandingRandom_a.other W7 (Or.inr (slot_ne (Or.inr (hw _ (List.mem_of_getElem? (i := 28) rfl))) (Or.inr (hw _ (List.mem_of_getElem? (i := 26) rfl))) (by decide) (t := .int) (t' := .int) (by decide) (by decide)))
  have F__sequentialProbeTime_a := F__sequentialProbeTime_a.other W7 (Or.inr (slot_ne (Or.inr (hw _ (List.mem_of_getElem? (i := 30) rfl))) (Or.inr (hw _ (List.mem_of_getElem? (i := 26) rfl))) (by decide) (t := .double) (t' := .int) (by decide) (by decide)))
  have F__maxConcurrentAccesses_a := F__maxConcurrentAccesses_a.other W7 (Or.inr (slot_ne (Or.inr (hw _ (List.mem_of_getElem? (i := 32) rfl))) (Or.inr (hw _ (List.mem_of_getElem? (i := 26) rfl))) (by decide) (t := .long) (t' := .int) (by decide) (by decide)))
  have ZH := Nat.le_trans ZH (Nat.le_of_eq W7.size.symm)
  have KK := KK.wr W7 (Or.inl (List.mem_of_getElem? (i := 0) rfl))
  refine own_up st7 ?_
  show own_Go p.tables e below _ (T7.setTop (mkF m 37 #[.val (.ref a), .val (.int q), .val (.int ex), .val (.long so), .second, .val (.long ra), .second, .val (.double pt), .second, .val (.int ms), .val (.int mr), .val (.double sp), .second, .val (.long mc), .second] []))
  refine own_up (fun _ k => XS.aloadN X7.here hx rfl (hb hby d2_37) rfl rfl k) ?_
  show own_Go p.tables e below _ (T7.setTop (mkF m 38 #[.val (.ref a), .val (.int q), .val (.int ex), .val (.long so), .second, .val (.long ra), .second, .val (.double pt), .second, .val (.int ms), .val (.int mr), .val (.double sp), .second, .val (.long mc), .second] [(.ref a)]))
  refine own_up (fun _ k => XS.iload X7.here hx rfl (hb hby d2_38) rfl k) ?_
  show own_Go p.tables e below _ (T7.setTop (mkF m 40 #[.val (.ref a), .val (.int q), .val (.int ex), .val (.long so), .second, .val (.long ra), .second, .val (.double pt), .second, .val (.int ms), .val (.int mr), .val (.double sp), .second, .val (.long mc), .second] [(.int mr), (.ref a)]))
  obtain ⟨T8, h8, X8, e8, W8, st8⟩ := putF X7 hx hZ hown (host := "") (Or.inl (hw _ (List.mem_of_getElem? (i := 27) rfl))) Via.refl e7 F__maxOutstandingRandom_a E_a (Or.inr ⟨(hw _ (List.mem_of_getElem? (i := 28) rfl)), rfl, hnm⟩) (hw _ (List.mem_of_getElem? (i := 3) rfl)) (ty := .int) (by decide) rfl rfl (g := (mkF m 40 #[.val (.ref a), .val (.int q), .val (.int ex), .val (.long so), .second, .val (.long ra), .second, .val (.double pt), .second, .val (.int ms), .val (.int mr), .val (.double sp), .second, .val (.long mc), .second] [(.int mr), (.ref a)])) rfl rfl (hb hby d2_40)
  have N8 := Fr.snoc X8 N7 g_a
  have F__maxOutstandingRandom_a := F__maxOutstandingRandom_a.same W8
  have E_a := E_a.wr W8
  have F__queries_a := F__queries_a.other W8 (Or.inr (slot_ne (Or.inr (hw _ (List.mem_of_getElem? (i := 16) rfl))) (Or.inr (hw _ (List.mem_of_getElem? (i := 28) rfl))) (by decide) (t := .int) (t' := .int) (by decide) (by decide)))
  have F__sortedAccesses_a := F__sortedAccesses_a.other W8 (Or.inr (slot_ne (Or.inr (hw _ (List.mem_of_getElem? (i := 20) rfl))) (Or.inr (hw _ (List.mem_of_getElem? (i := 28) rfl))) (by decide) (t := .long) (t' := .int) (by decide) (by decide)))
  have F__sequentialProbeTime_a := F__sequentialProbeTime_a.other W8 (Or.inr (slot_ne (Or.inr (hw _ (List.mem_of_getElem? (i := 30) rfl))) (Or.inr (hw _ (List.mem_of_getElem? (i := 28) rfl))) (by decide) (t := .double) (t' := .int) (by decide) (by decide)))
  have F__maxConcurrentAccesses_a := F__maxConcurrentAccesses_a.other W8 (Or.inr (slot_ne (Or.inr (hw _ (List.mem_of_getElem? (i := 32) rfl))) (Or.inr (hw _ (List.mem_of_getElem? (i := 28) rfl))) (by decide) (t := .long) (t' := .int) (by decide) (by decide)))
  have ZH := Nat.le_trans ZH (Nat.le_of_eq W8.size.symm)
  have KK := KK.wr W8 (Or.inl (List.mem_of_getElem? (i := 0) rfl))
  refine own_up st8 ?_
  show own_Go p.tables e below _ (T8.setTop (mkF m 43 #[.val (.ref a), .val (.int q), .val (.int ex), .val (.long so), .second, .val (.long ra), .second, .val (.double pt), .second, .val (.int ms), .val (.int mr), .val (.double sp), .second, .val (.long mc), .second] []))
  refine own_up (fun _ k => XS.aloadN X8.here hx rfl (hb hby d2_43) rfl rfl k) ?_
  show own_Go p.tables e below _ (T8.setTop (mkF m 44 #[.val (.ref a), .val (.int q), .val (.int ex), .val (.long so), .second, .val (.long ra), .second, .val (.double pt), .second, .val (.int ms), .val (.int mr), .val (.double sp), .second, .val (.long mc), .second] [(.ref a)]))
  refine own_up (fun _ k => XS.dload X8.here hx rfl (hb hby d2_44) rfl k) ?_
  show own_Go p.tables e below _ (T8.setTop (mkF m 46 #[.val (.ref a), .val (.int q), .val (.int ex), .val (.long so), .second, .val (.long ra), .second, .val (.double pt), .second, .val (.int ms), .val (.int mr), .val (.double sp), .second, .val (.long mc), .second] [(.double sp), (.ref a)]))
  obtain ⟨T9, h9, X9, e9, W9, st9⟩ := putF X8 hx hZ hown (host := "") (Or.inl (hw _ (List.mem_of_getElem? (i := 29) rfl))) Via.refl e8 F__sequentialProbeTime_a E_a (Or.inr ⟨(hw _ (List.mem_of_getElem? (i := 30) rfl)), rfl, hnm⟩) (hw _ (List.mem_of_getElem? (i := 3) rfl)) (ty := .double) (by decide) rfl rfl (g := (mkF m 46 #[.val (.ref a), .val (.int q), .val (.int ex), .val (.long so), .second, .val (.long ra), .second, .val (.double pt), .second, .val (.int ms), .val (.int mr), .val (.double sp), .second, .val (.long mc), .second] [(.double sp), (.ref a)])) rfl rfl (hb hby d2_46)
  have N9 := Fr.snoc X9 N8 g_a
  have F__sequentialProbeTime_a := F__sequentialProbeTime_a.same W9
  have E_a := E_a.wr W9
  have F__queries_a := F__queries_a.other W9 (Or.inr (slot_ne (Or.inr (hw _ (List.mem_of_getElem? (i := 16) rfl))) (Or.inr (hw _ (List.mem_of_getElem? (i := 30) rfl))) (by decide) (t := .int) (t' := .double) (by decide) (by decide)))
  have F__sortedAccesses_a := F__sortedAccesses_a.other W9 (Or.inr (slot_ne (Or.inr (hw _ (List.mem_of_getElem? (i := 20) rfl))) (Or.inr (hw _ (List.mem_of_getElem? (i := 30) rfl))) (by decide) (t := .long) (t' := .double) (by decide) (by decide)))
  have F__maxConcurrentAccesses_a := F__maxConcurrentAccesses_a.other W9 (Or.inr (slot_ne (Or.inr (hw _ (List.mem_of_getElem? (i := 32) rfl))) (Or.inr (hw _ (List.mem_of_getElem? (i := 30) rfl))) (by decide) (t := .long) (t' := .double) (by decide) (by decide)))
  have ZH := Nat.le_trans ZH (Nat.le_of_eq W9.size.symm)
  have KK := KK.wr W9 (Or.inl (List.mem_of_getElem? (i := 0) rfl))
  refine own_up st9 ?_
  show own_Go p.tables e below _ (T9.setTop (mkF m 49 #[.val (.ref a), .val (.int q), .val (.int ex), .val (.long so), .second, .val (.long ra), .second, .val (.double pt), .second, .val (.int ms), .val (.int mr), .val (.double sp), .second, .val (.long mc), .second] []))
  refine own_up (fun _ k => XS.aloadN X9.here hx rfl (hb hby d2_49) rfl rfl k) ?_
  show own_Go p.tables e below _ (T9.setTop (mkF m 50 #[.val (.ref a), .val (.int q), .val (.int ex), .val (.long so), .second, .val (.long ra), .second, .val (.double pt), .second, .val (.int ms), .val (.int mr), .val (.double sp), .second, .val (.long mc), .second] [(.ref a)]))
  refine own_up (fun _ k => XS.lload X9.here hx rfl (hb hby d2_50) rfl k) ?_
  show own_Go p.tables e below _ (T9.setTop (mkF m 52 #[.val (.ref a), .val (.int q), .val (.int ex), .val (.long so), .second, .val (.long ra), .second, .val (.double pt), .second, .val (.int ms), .val (.int mr), .val (.double sp), .second, .val (.long mc), .second] [(.long mc), (.ref a)]))
  obtain ⟨T10, h10, X10, e10, W10, st10⟩ := putF X9 hx hZ hown (host := "") (Or.inl (hw _ (List.mem_of_getElem? (i := 31) rfl))) Via.refl e9 F__maxConcurrentAccesses_a E_a (Or.inr ⟨(hw _ (List.mem_of_getElem? (i := 32) rfl)), rfl, hnm⟩) (hw _ (List.mem_of_getElem? (i := 3) rfl)) (ty := .long) (by decide) rfl rfl (g := (mkF m 52 #[.val (.ref a), .val (.int q), .val (.int ex), .val (.long so), .second, .val (.long ra), .second, .val (.double pt), .second, .val (.int ms), .val (.int mr), .val (.double sp), .second, .val (.long mc), .second] [(.long mc), (.ref a)])) rfl rfl (hb hby d2_52)
  have N10 := Fr.snoc X10 N9 g_a
  have F__maxConcurrentAccesses_a := F__maxConcurrentAccesses_a.same W10
  have E_a := E_a.wr W10
  have F__queries_a := F__queries_a.other W10 (Or.inr (slot_ne (Or.inr (hw _ (List.mem_of_getElem? (i := 16) rfl))) (Or.inr (hw _ (List.mem_of_getElem? (i := 32) rfl))) (by decide) (t := .int) (t' := .long) (by decide) (by decide)))
  have F__sortedAccesses_a := F__sortedAccesses_a.other W10 (Or.inr (slot_ne (Or.inr (hw _ (List.mem_of_getElem? (i := 20) rfl))) (Or.inr (hw _ (List.mem_of_getElem? (i := 32) rfl))) (by decide) (t := .long) (t' := .long) (by decide) (by decide)))
  have ZH := Nat.le_trans ZH (Nat.le_of_eq W10.size.symm)
  have KK := KK.wr W10 (Or.inl (List.mem_of_getElem? (i := 0) rfl))
  refine own_up st10 ?_
  show own_Go p.tables e below _ (T10.setTop (mkF m 55 #[.val (.ref a), .val (.int q), .val (.int ex), .val (.long so), .second, .val (.long ra), .second, .val (.double pt), .second, .val (.int ms), .val (.int mr), .val (.double sp), .second, .val (.long mc), .second] []))
  obtain ⟨fs11, hr11, hrun11, hended11, hW11, hsame11⟩ := X10.leave (v := none) (fun _ => rfl)
  refine own_end ⟨_, _, ?_, hrun11, hended11, _, _, rfl, ?_, ⟨_, rfl⟩, hW11, hsame11.mono (by decide) (by decide)⟩
  · exact X10.returnOut hx Bd.returns (hb hby d2_55) hr11
  · show Qrm2 Z a q ex so ra pt ms mr sp mc h0 n0 _ T10.heap _
    rw [e10]
    exact ⟨rfl, N10, KK, F__queries_a, F__sortedAccesses_a⟩
theorem d1_0 : decode prog_77_method_1_code 0 = .ok (.aload_n 0, 1) := by decide +kernel
theorem d1_1 : decode prog_77_method_1_code 1 = .ok (.iload_n 1, 1) := by decide +kernel
theorem d1_2 : decode prog_77_method_1_code 2 = .ok (.iload_n 2, 1) := by decide +kernel
theorem d1_3 : decode prog_77_method_1_code 3 = .ok (.lload_n 3, 1) := by decide +kernel
theorem d1_4 : decode prog_77_method_1_code 4 = .ok (.lload 5, 2) := by decide +kernel
theorem d1_6 : decode prog_77_method_1_code 6 = .ok (.dload 7, 2) := by decide +kernel
theorem d1_8 : decode prog_77_method_1_code 8 = .ok (.iload 9, 2) := by decide +kernel
theorem d1_10 : decode prog_77_method_1_code 10 = .ok (.iload 10, 2) := by decide +kernel
theorem d1_12 : decode prog_77_method_1_code 12 = .ok (.ldc2_w 3, 3) := by decide +kernel
theorem d1_15 : decode prog_77_method_1_code 15 = .ok (.lconst 0, 1) := by decide +kernel
theorem d1_16 : decode prog_77_method_1_code 16 = .ok (.invokespecial 5, 3) := by decide +kernel
theorem pd_0 : parseMethodDescriptor "(IIJJDIIDJ)V" = some ⟨[.int, .int, .long, .long, .double, .int, .int, .double, .long], none⟩ := by decide +kernel
theorem d1_19 : decode prog_77_method_1_code 19 = .ok (.return_, 1) := by decide +kernel
theorem ef_rm1 (m : MethodId) (x0 : Addr) (x1 : Int32) (x2 : Int32) (x3 : Int64) (x4 : Int64) (x5 : UInt64) (x6 : Int32) (x7 : Int32) : entryFrame m #[(.ref x0), (.int x1), (.int x2), (.long x3), (.long x4), (.double x5), (.int x6), (.int x7)] 11 = mkF m 0 #[.val (.ref x0), .val (.int x1), .val (.int x2), .val (.long x3), .second, .val (.long x4), .second, .val (.double x5), .second, .val (.int x6), .val (.int x7)] [] := by first | (simp [entryFrame, mkF, argsToLocals, Value.category]; done) | rfl
def Qrm1 (Z : State) (a : Addr) (q : Int32) (ex : Int32) (so : Int64) (ra : Int64) (pt : UInt64) (ms : Int32) (mr : Int32) (h0 : Heap) (n0 : Nat) (v : Option Value) (h : Heap) (L : List Loc) : Prop := v = none ∧ Fr n0 L ∧ Keep h0 h [a] ∧ Fld Z h a "com/example/ranksieve/ranksieve/workload/BenchmarkResult" "_queries" "I" (.int q) ∧ Fld Z h a "com/example/ranksieve/ranksieve/workload/BenchmarkResult" "_sortedAccesses" "J" (.long so)
set_option maxRecDepth 65536 in
set_option maxHeartbeats 40000000 in
theorem rm1 (l : Launch) (Z : State) (a0 : Array Value) (hw : ∀ d ∈ tables_1, d.before a0 Z = true) (ws : List Jvm.Cond) (a : Addr) (q : Int32) (ex : Int32) (so : Int64) (ra : Int64) (pt : UInt64) (ms : Int32) (mr : Int32) (h0 : Heap) (n0 : Nat) (Z0 : n0 ≤ h0.size) (E_a : Exa Z h0 a "com/example/ranksieve/ranksieve/workload/BenchmarkResult") (F__queries_a : Fld Z h0 a "com/example/ranksieve/ranksieve/workload/BenchmarkResult" "_queries" "I" (.int (0 : Int32))) (F__exact_a : Fld Z h0 a "com/example/ranksieve/ranksieve/workload/BenchmarkResult" "_exact" "I" (.int (0 : Int32))) (F__sortedAccesses_a : Fld Z h0 a "com/example/ranksieve/ranksieve/workload/BenchmarkResult" "_sortedAccesses" "J" (.long (0 : Int64))) (F__randomAccesses_a : Fld Z h0 a "com/example/ranksieve/ranksieve/workload/BenchmarkResult" "_randomAccesses" "J" (.long (0 : Int64))) (F__probeTime_a : Fld Z h0 a "com/example/ranksieve/ranksieve/workload/BenchmarkResult" "_probeTime" "D" (.double (0 : UInt64))) (F__maxOutstandingSorted_a : Fld Z h0 a "com/example/ranksieve/ranksieve/workload/BenchmarkResult" "_maxOutstandingSorted" "I" (.int (0 : Int32))) (F__maxOutstandingRandom_a : Fld Z h0 a "com/example/ranksieve/ranksieve/workload/BenchmarkResult" "_maxOutstandingRandom" "I" (.int (0 : Int32))) (F__sequentialProbeTime_a : Fld Z h0 a "com/example/ranksieve/ranksieve/workload/BenchmarkResult" "_sequentialProbeTime" "D" (.double (0 : UInt64))) (F__maxConcurrentAccesses_a : Fld Z h0 a "com/example/ranksieve/ranksieve/workload/BenchmarkResult" "_maxConcurrentAccesses" "J" (.long (0 : Int64))) (g_a : n0 ≤ a) :
    MetFree l (⟨"com/example/ranksieve/ranksieve/workload/BenchmarkResult", "<init>", "(IIJJDII)V"⟩ : MethodName) (head1 (Jvm.Cond.code (⟨"com/example/ranksieve/ranksieve/workload/BenchmarkResult", "<init>", "(IIJJDII)V"⟩ : MethodName) prog_77_method_1_code 11 none :: ws) ({ frames := 2, cells := 0, slots := 0, locals := 38 } : Room)) (fun aq Uq => aq = #[(.ref a), (.int q), (.int ex), (.long so), (.long ra), (.double pt), (.int ms), (.int mr)] ∧ Z.Warmed39 Uq.vm ∧ Uq.heap = h0) (fun _ _ _ _ _ => True) (fun _ Uq oq Uq' => ∃ vq Lq, oq = .returned vq ∧ Qrm1 Z a q ex so ra pt ms mr h0 n0 vq Uq'.heap Lq ∧ FrameEnd Uq oq Uq' Lq ({ frames := 2, cells := 0, slots := 0, locals := 38 } : Room).cells ({ frames := 2, cells := 0, slots := 0, locals := 38 } : Room).slots) := by
  refine MetFree.of_bodySF (plainFor_of_name pn_0) hisR ?_
  intro p e s m args below meth c s₁ Bd hml0 hP hK
  obtain ⟨rfl, hZ, hh⟩ := hP
  have hx := Bd.exec
  have hby := Bd.bytes
  have hml : c.maxLocals = 11 := hml0
  have hown : s.vm.findClass "com/example/ranksieve/ranksieve/workload/BenchmarkResult" = some m.cls := findClass_of_methodNamed Bd.named
  have hnm := (name_of_methodNamed Bd.named Bd.method).1
  have X0 : Stand p l e ({ frames := 2, cells := 0, slots := 0, locals := 38 } : Room) s m #[(.ref a), (.int q), (.int ex), (.long so), (.long ra), (.double pt), (.int ms), (.int mr)] below meth c s₁ [] 0 0 := Stand.of_body Bd
  have e0 : s₁.heap = h0 := by rw [← hh, Bd.state]; rfl
  have N0 := Fr.nil n0
  have ZH := Z0
  have KK := Keep.refl h0 [a]
  refine own_start (fun t k => castTop (ef_rm1 m a q ex so ra pt ms mr) k) ?_
  show own_Go p.tables e below _ (s₁.setTop (mkF m 0 #[.val (.ref a), .val (.int q), .val (.int ex), .val (.long so), .second, .val (.long ra), .second, .val (.double pt), .second, .val (.int ms), .val (.int mr)] []))
  refine own_up (fun _ k => XS.aloadN X0.here hx rfl (hb hby d1_0) rfl rfl k) ?_
  show own_Go p.tables e below _ (s₁.setTop (mkF m 1 #[.val (.ref a), .val (.int q), .val (.int ex), .val (.long so), .second, .val (.long ra), .second, .val (.double pt), .second, .val (.int ms), .val (.int mr)] [(.ref a)]))
  refine own_up (fun _ k => XS.iloadN X0.here hx rfl (hb hby d1_1) rfl k) ?_
  show own_Go p.tables e below _ (s₁.setTop (mkF m 2 #[.val (.ref a), .val (.int q), .val (.int ex), .val (.long so), .second, .val (.long ra), .second, .val (.double pt), .second, .val (.int ms), .val (.int mr)] [(.int q), (.ref a)]))
  refine own_up (fun _ k => XS.iloadN X0.here hx rfl (hb hby d1_2) rfl k) ?_
  show own_Go p.tables e below _ (s₁.setTop (mkF m 3 #[.val (.ref a), .val (.int q), .val (.int ex), .val (.long so), .second, .val (.long ra), .second, .val (.double pt), .second, .val (.int ms), .val (.int mr)] [(.int ex), (.int q), (.ref a)]))
  refine own_up (fun _ k => XS.lloadN X0.here hx rfl (hb hby d1_3) rfl k) ?_
  show own_Go p.tables e below _ (s₁.setTop (mkF m 4 #[.val (.ref a), .val (.int q), .val (.int ex), .val (.long so), .second, .val (.long ra), .second, .val (.double pt), .second, .val (.int ms), .val (.int mr)] [(.long so), (.int ex), (.int q), (.ref a)]))
  refine own_up (fun _ k => XS.lload X0.here hx rfl (hb hby d1_4) rfl k) ?_
  show own_Go p.tables e below _ (s₁.setTop (mkF m 6 #[.val (.ref a), .val (.int q), .val (.int ex), .val (.long so), .second, .val (.long ra), .second, .val (.double pt), .second, .val (.int ms), .val (.int mr)] [(.long ra), (.long so), (.int ex), (.int q), (.ref a)]))
  refine own_up (fun _ k => XS.dload X0.here hx rfl (hb hby d1_6) rfl k) ?_
  show own_Go p.tables e below _ (s₁.setTop (mkF m 8 #[.val (.ref a), .val (.int q), .val (.int ex), .val (.long so), .second, .val (.long ra), .second, .val (.double pt), .second, .val (.int ms), .val (.int mr)] [(.double pt), (.long ra), (.long so), (.int ex), (.int q), (.ref a)]))
  refine own_up (fun _ k => XS.iload X0.here hx rfl (hb hby d1_8) rfl k) ?_
  show own_Go p.tables e below _ (s₁.setTop (mkF m 10 #[.val (.ref a), .val (.int q), .val (.int ex), .val (.long so), .second, .val (.long ra), .second, .val (.double pt), .second, .val (.int ms), .val (.int mr)] [(.int ms), (.double pt), (.long ra), (.long so), (.int ex), (.int q), (.ref a)]))
  refine own_up (fun _ k => XS.iload X0.here hx rfl (hb hby d1_10) rfl k) ?_
  show own_Go p.tables e below _ (s₁.setTop (mkF m 12 #[.val (.ref a), .val (.int q), .val (.int ex), .val (.long so), .second, .val (.long ra), .second, .val (.double pt), .second, .val (.int ms), .val (.int mr)] [(.int mr), (.int ms), (.double pt), (.long ra), (.long so), (.int ex), (.int q), (.ref a)]))
  refine own_up (fun _ k => X0.ldc2DoubleC hx hown (mvT hZ (hw _ (List.mem_of_getElem? (i := 8) rfl))) (g := (mkF m 12 #[.val (.ref a), .val (.int q), .val (.int ex), .val (.long so), .second, .val (.long ra), .second, .val (.double pt), .second, .val (.int ms), .val (.int mr)] [(.int mr), (.int ms), (.double pt), (.long ra), (.long so), (.int ex), (.int q), (.ref a)])) rfl (hb hby d1_12) _ k) ?_
  show own_Go p.tables e below _ (s₁.setTop (mkF m 15 #[.val (.ref a), .val (.int q), .val (.int ex), .val (.long so), .second, .val (.long ra), .second, .val (.double pt), .second, .val (.int ms), .val (.int mr)] [(.double (9221120237041090560 : UInt64)), (.int mr), (.int ms), (.double pt), (.long ra), (.long so), (.int ex), (.int q), (.ref a)]))
  refine own_up (fun _ k => XS.lconst X0.here hx rfl (hb hby d1_15) k) ?_
  show own_Go p.tables e below _ (s₁.setTop (mkF m 16 #[.val (.ref a), .val (.int q), .val (.int ex), .val (.long so), .second, .val (.long ra), .second, .val (.double pt), .second, .val (.int ms), .val (.int mr)] [(.long (0 : Int64)), (.double (9221120237041090560 : UInt64)), (.int mr), (.int ms), (.double pt), (.long ra), (.long so), (.int ex), (.int q), (.ref a)]))
  obtain ⟨_, _, ⟨T1, L1, k1, n1⟩, -, X1, ⟨Lc1, hQ1, l1, y1, z1⟩, st1⟩ := X0.specialBack hx (y := (⟨"com/example/ranksieve/ranksieve/workload/BenchmarkResult", "<init>", "(IIJJDIIDJ)V"⟩ : MethodName)) rfl hown (mvT hZ (hw _ (List.mem_of_getElem? (i := 9) rfl))) (mvT hZ (hw _ (List.mem_of_getElem? (i := 10) rfl))) (mvT hZ (hw _ (List.mem_of_getElem? (i := 11) rfl))) (by decide) (backOf (W := 0) (rm2 l Z a0 hw [] a q ex so ra pt ms mr (9221120237041090560 : UInt64) (0 : Int64) h0 n0 Z0 E_a F__queries_a F__exact_a F__sortedAccesses_a F__randomAccesses_a F__probeTime_a F__maxOutstandingSorted_a F__maxOutstandingRandom_a F__sequentialProbeTime_a F__maxConcurrentAccesses_a g_a) hZ (hw _ (List.mem_of_getElem? (i := 11) rfl)) (hw _ (List.mem_of_getElem? (i := 4) rfl)) (by decide) (by decide)) (g := (mkF m 16 #[.val (.ref a), .val (.int q), .val (.int ex), .val (.long so), .second, .val (.long ra), .second, .val (.double pt), .second, .val (.int ms), .val (.int mr)] [(.long (0 : Int64)), (.double (9221120237041090560 : UInt64)), (.int mr), (.int ms), (.double pt), (.long ra), (.long so), (.int ex), (.int q), (.ref a)])) rfl (by rw [hml]; rfl) (Steps.refl _) (a := a) (argsL := [(.int q), (.int ex), (.long so), (.long ra), (.double pt), (.int ms), (.int mr), (.double (9221120237041090560 : UInt64)), (.long (0 : Int64))]) (rest := []) (lenOf pd_0 rfl) rfl (by show 2 * 0 + _ ≤ _; exact Nat.le_of_eq rfl) (hb hby d1_16) (fun _ _ => ⟨rfl, e0, (by decide : 0 + 0 ≤ _), (by decide : 0 + 0 ≤ _)⟩)
  dsimp only [Pt.U, Pt.locs, Pt.cells, Pt.slots] at X1 l1 y1 z1 st1 hQ1
  subst l1 y1 z1
  obtain ⟨rfl, Nq1, K1, Fq, Fs⟩ := hQ1
  have N1 := Fr.app N0 Nq1
  have E_a := E_a.keep K1
  have ZH := Nat.le_trans ZH K1.1
  have KK := KK.trans K1 (allS (Or.inl (List.mem_of_getElem? (i := 0) rfl)) all0)
  refine own_up (fun _ k => st1.trans k) ?_
  show own_Go p.tables e below _ (T1.setTop (mkF m 19 #[.val (.ref a), .val (.int q), .val (.int ex), .val (.long so), .second, .val (.long ra), .second, .val (.double pt), .second, .val (.int ms), .val (.int mr)] []))
  obtain ⟨fs2, hr2, hrun2, hended2, hW2, hsame2⟩ := X1.leave (v := none) (fun _ => rfl)
  refine own_end ⟨_, _, ?_, hrun2, hended2, _, _, rfl, ?_, ⟨_, rfl⟩, hW2, hsame2.mono (by decide) (by decide)⟩
  · exact X1.returnOut hx Bd.returns (hb hby d1_19) hr2
  · show Qrm1 Z a q ex so ra pt ms mr h0 n0 _ T1.heap _
    skip
    exact ⟨rfl, N1, KK, Fq, Fs⟩
theorem d4_0 : decode prog_77_method_6_code 0 = .ok (.aload_n 0, 1) := by decide +kernel
theorem d4_1 : decode prog_77_method_6_code 1 = .ok (.getfield 23, 3) := by decide +kernel
theorem d4_4 : decode prog_77_method_6_code 4 = .ok (.l2d, 1) := by decide +kernel
theorem d4_5 : decode prog_77_method_6_code 5 = .ok (.aload_n 0, 1) := by decide +kernel
theorem d4_6 : decode prog_77_method_6_code 6 = .ok (.getfield 16, 3) := by decide +kernel
theorem d4_9 : decode prog_77_method_6_code 9 = .ok (.i2d, 1) := by decide +kernel
theorem d4_10 : decode prog_77_method_6_code 10 = .ok (.ddiv, 1) := by decide +kernel
theorem d4_11 : decode prog_77_method_6_code 11 = .ok (.dreturn, 1) := by decide +kernel
theorem ef_rm4 (m : MethodId) (x0 : Addr) : entryFrame m #[(.ref x0)] 1 = mkF m 0 #[.val (.ref x0)] [] := by first | (simp [entryFrame, mkF, argsToLocals, Value.category]; done) | rfl
def Qrm4 (Z : State) (a : Addr) (q : Int32) (so : Int64) (h0 : Heap) (n0 : Nat) (v : Option Value) (h : Heap) (L : List Loc) : Prop := v = some (.double (FP.ddiv (FP.l2d so) (FP.i2d q))) ∧ Fr n0 L ∧ h = h0
set_option maxRecDepth 65536 in
set_option maxHeartbeats 40000000 in
theorem rm4 (l : Launch) (Z : State) (a0 : Array Value) (hw : ∀ d ∈ tables_1, d.before a0 Z = true) (ws : List Jvm.Cond) (a : Addr) (q : Int32) (so : Int64) (h0 : Heap) (n0 : Nat) (Z0 : n0 ≤ h0.size) (Fq : Fld Z h0 a "com/example/ranksieve/ranksieve/workload/BenchmarkResult" "_queries" "I" (.int q)) (Fs : Fld Z h0 a "com/example/ranksieve/ranksieve/workload/BenchmarkResult" "_sortedAccesses" "J" (.long so)) (nn : NoNaN64 (FP.ddiv (FP.l2d so) (FP.i2d q))) :
    MetFree l (⟨"com/example/ranksieve/ranksieve/workload/BenchmarkResult", "getSortedAccessesAverage", "()D"⟩ : MethodName) (head1 (Jvm.Cond.code (⟨"com/example/ranksieve/ranksieve/workload/BenchmarkResult", "getSortedAccessesAverage", "()D"⟩ : MethodName) prog_77_method_6_code 1 (some .double) :: ws) ({ frames := 0, cells := 0, slots := 0, locals := 0 } : Room)) (fun aq Uq => aq = #[(.ref a)] ∧ Z.Warmed39 Uq.vm ∧ Uq.heap = h0) (fun _ _ _ _ _ => True) (fun _ Uq oq Uq' => ∃ vq Lq, oq = .returned vq ∧ Qrm4 Z a q so h0 n0 vq Uq'.heap Lq ∧ FrameEnd Uq oq Uq' Lq ({ frames := 0, cells := 0, slots := 0, locals := 0 } : Room).cells ({ frames := 0, cells := 0, slots := 0, locals := 0 } : Room).slots) := by
  refine MetFree.of_bodySF (plainFor_of_name pn_0) hisR ?_
  intro p e s m args below meth c s₁ Bd hml0 hP hK
  obtain ⟨rfl, hZ, hh⟩ := hP
  have hx := Bd.exec
  have hby := Bd.bytes
  have hml : c.maxLocals = 1 := hml0
  have hown : s.vm.findClass "com/example/ranksieve/ranksieve/workload/BenchmarkResult" = some m.cls := findClass_of_methodNamed Bd.named
  have hnm := (name_of_methodNamed Bd.named Bd.method).1
  have X0 : Stand p l e ({ frames := 0, cells := 0, slots := 0, locals := 0 } : Room) s m #[(.ref a)] below meth c s₁ [] 0 0 := Stand.of_body Bd
  have e0 : s₁.heap = h0 := by rw [← hh, Bd.state]; rfl
  have N0 := Fr.nil n0
  have ZH := Z0
  have KK := Keep.refl h0 []
  refine own_start (fun t k => castTop (ef_rm4 m a) k) ?_
  show own_Go p.tables e below _ (s₁.setTop (mkF m 0 #[.val (.ref a)] []))
  refine own_up (fun _ k => XS.aloadN X0.here hx rfl (hb hby d4_0) rfl rfl k) ?_
  show own_Go p.tables e below _ (s₁.setTop (mkF m 1 #[.val (.ref a)] [(.ref a)]))
  obtain ⟨T1, X1, e1, st1⟩ := getF X0 hx hZ hown (host := "") (Or.inl (hw _ (List.mem_of_getElem? (i := 19) rfl))) Via.refl e0 Fs (g := (mkF m 1 #[.val (.ref a)] [(.ref a)])) rfl rfl (hb hby d4_1)
  refine own_up st1 ?_
  show own_Go p.tables e below _ (T1.setTop (mkF m 4 #[.val (.ref a)] [(.long so)]))
  refine own_up (fun _ k => XS.l2dS X1.here hx rfl (v := (FP.l2d so)) (hb hby d4_4) rfl rfl k) ?_
  show own_Go p.tables e below _ (T1.setTop (mkF m 5 #[.val (.ref a)] [(.double (FP.l2d so))]))
  refine own_up (fun _ k => XS.aloadN X1.here hx rfl (hb hby d4_5) rfl rfl k) ?_
  show own_Go p.tables e below _ (T1.setTop (mkF m 6 #[.val (.ref a)] [(.ref a), (.double (FP.l2d so))]))
  obtain ⟨T2, X2, e2, st2⟩ := getF X1 hx hZ hown (host := "") (Or.inl (hw _ (List.mem_of_getElem? (i := 15) rfl))) Via.refl e1 Fq (g := (mkF m 6 #[.val (.ref a)] [(.ref a), (.double (FP.l2d so))])) rfl rfl (hb hby d4_6)
  refine own_up st2 ?_
  show own_Go p.tables e below _ (T2.setTop (mkF m 9 #[.val (.ref a)] [(.int q), (.double (FP.l2d so))]))
  refine own_up (fun _ k => XS.i2dS X2.here hx rfl (v := (FP.i2d q)) (hb hby d4_9) rfl rfl k) ?_
  show own_Go p.tables e below _ (T2.setTop (mkF m 10 #[.val (.ref a)] [(.double (FP.i2d q)), (.double (FP.l2d so))]))
  refine own_up (fun _ k => XS.ddivS X2.here hx rfl (v := (FP.ddiv (FP.l2d so) (FP.i2d q))) (hb hby d4_10) rfl nn rfl k) ?_
  show own_Go p.tables e below _ (T2.setTop (mkF m 11 #[.val (.ref a)] [(.double (FP.ddiv (FP.l2d so) (FP.i2d q)))]))
  obtain ⟨fs3, hr3, hrun3, hended3, hW3, hsame3⟩ := X2.leave (v := some (.double (FP.ddiv (FP.l2d so) (FP.i2d q)))) (fun h => by rw [Bd.returns] at h; cases h)
  refine own_end ⟨_, _, ?_, hrun3, hended3, _, _, rfl, ?_, ⟨_, rfl⟩, hW3, hsame3.mono (by decide) (by decide)⟩
  · exact retOut X2 hx Bd.returns rfl (Or.inr (Or.inr (Or.inl ⟨rfl, rfl, _, rfl⟩))) (hb hby d4_11) hr3
  · show Qrm4 Z a q so h0 n0 _ T2.heap _
    rw [e2]
    exact ⟨rfl, N0, rfl⟩
theorem pn_1 : plainName "com/example/ranksieve/ranksieve/workload/BenchmarkResultGetSortedAccessesAveragePinLaw" = true := by first | (simp [plainName, overriddenIn]; done) | decide +kernel
theorem pd_1 : parseMethodDescriptor "(IIJJDII)V" = some ⟨[.int, .int, .long, .long, .double, .int, .int], none⟩ := by decide +kernel
theorem pd_2 : parseMethodDescriptor "()D" = some ⟨[], some .double⟩ := by decide +kernel
theorem ef_rm0 (m : MethodId) (x0 : Int32) (x1 : Int32) (x2 : Int32) (x3 : Int64) (x4 : Int32) (x5 : Int32) : entryFrame m #[(.int x0), (.int x1), (.int x2), (.long x3), (.int x4), (.int x5)] maxLocals = mkF m 0 #[.val (.int x0), .val (.int x1), .val (.int x2), .val (.long x3), .second, .val (.int x4), .val (.int x5), .unset, .unset, .unset, .unset, .unset, .unset, .unset, .unset, .unset, .unset, .unset, .unset] [] := by first | (simp [entryFrame, mkF, argsToLocals, Value.category, maxLocals]; done) | rfl
def Qrm0 (Z : State) (p0 : Int32) (p1 : Int32) (p2 : Int32) (p3 : Int64) (p4 : Int32) (p5 : Int32) (h0 : Heap) (n0 : Nat) (v : Option Value) (h : Heap) (L : List Loc) : Prop := v = some (.int 1) ∧ Fr n0 L
set_option maxRecDepth 65536 in
set_option maxHeartbeats 40000000 in
theorem rm0 (l : Launch) (Z : State) (a0 : Array Value) (hw : ∀ d ∈ tables_1, d.before a0 Z = true) (ws : List Jvm.Cond) (p0 : Int32) (p1 : Int32) (p2 : Int32) (p3 : Int64) (p4 : Int32) (p5 : Int32) (h0 : Heap) (n0 : Nat) (Z0 : n0 ≤ h0.size) :
    MetFree l x (head1 (Jvm.Cond.code x code maxLocals ret :: ws) room_1) (fun aq Uq => aq = #[(.int p0), (.int p1), (.int p2), (.long p3), (.int p4), (.int p5)] ∧ Z.Warmed39 Uq.vm ∧ Uq.heap = h0) (fun _ _ _ _ _ => True) (fun _ Uq oq Uq' => ∃ vq Lq, oq = .returned vq ∧ Qrm0 Z p0 p1 p2 p3 p4 p5 h0 n0 vq Uq'.heap Lq ∧ FrameEnd Uq oq Uq' Lq 16 128) := by
  refine MetFree.of_bodySF (plainFor_of_name pn_1) hisR ?_
  intro p e s m args below meth c s₁ Bd hml0 hP hK
  obtain ⟨rfl, hZ, hh⟩ := hP
  have hx := Bd.exec
  have hby := Bd.bytes
  have hml : c.maxLocals = 19 := hml0
  have hown : s.vm.findClass "com/example/ranksieve/ranksieve/workload/BenchmarkResultGetSortedAccessesAveragePinLaw" = some m.cls := findClass_of_methodNamed Bd.named
  have hnm := (name_of_methodNamed Bd.named Bd.method).1
  have X0 : Stand p l e room_1 s m #[(.int p0), (.int p1), (.int p2), (.long p3), (.int p4), (.int p5)] below meth c s₁ [] 0 0 := Stand.of_body Bd
  have e0 : s₁.heap = h0 := by rw [← hh, Bd.state]; rfl
  have N0 := Fr.nil n0
  have ZH := Z0
  have KK := Keep.refl h0 []
  refine own_start (fun t k => castTop (ef_rm0 m p0 p1 p2 p3 p4 p5) k) ?_
  show own_Go p.tables e below _ (s₁.setTop (mkF m 0 #[.val (.int p0), .val (.int p1), .val (.int p2), .val (.long p3), .second, .val (.int p4), .val (.int p5), .unset, .unset, .unset, .unset, .unset, .unset, .unset, .unset, .unset, .unset, .unset, .unset] []))
  refine own_up (fun _ k => XS.iloadN X0.here hx rfl (hb hby at_0) rfl k) ?_
  show own_Go p.tables e below _ (s₁.setTop (mkF m 1 #[.val (.int p0), .val (.int p1), .val (.int p2), .val (.long p3), .second, .val (.int p4), .val (.int p5), .unset, .unset, .unset, .unset, .unset, .unset, .unset, .unset, .unset, .unset, .unset, .unset] [(.int p0)]))
  refine own_up (fun _ k => X0.ldcInt hx hown (mvT hZ (hw _ (List.mem_of_getElem? (i := 0) rfl))) (g := (mkF m 1 #[.val (.int p0), .val (.int p1), .val (.int p2), .val (.long p3), .second, .val (.int p4), .val (.int p5), .unset, .unset, .unset, .unset, .unset, .unset, .unset, .unset, .unset, .unset, .unset, .unset] [(.int p0)])) rfl (hb hby at_1) _ k) ?_
  show own_Go p.tables e below _ (s₁.setTop (mkF m 3 #[.val (.int p0), .val (.int p1), .val (.int p2), .val (.long p3), .second, .val (.int p4), .val (.int p5), .unset, .unset, .unset, .unset, .unset, .unset, .unset, .unset, .unset, .unset, .unset, .unset] [(.int (65535 : Int32)), (.int p0)]))
  refine own_up (fun _ k => XS.iand X0.here hx rfl (hb hby at_3) rfl k) ?_
  show own_Go p.tables e below _ (s₁.setTop (mkF m 4 #[.val (.int p0), .val (.int p1), .val (.int p2), .val (.long p3), .second, .val (.int p4), .val (.int p5), .unset, .unset, .unset, .unset, .unset, .unset, .unset, .unset, .unset, .unset, .unset, .unset] [(.int (p0 &&& (65535 : Int32)))]))
  refine own_up (fun _ k => XS.iconst X0.here hx rfl (hb hby at_4) k) ?_
  show own_Go p.tables e below _ (s₁.setTop (mkF m 5 #[.val (.int p0), .val (.int p1), .val (.int p2), .val (.long p3), .second, .val (.int p4), .val (.int p5), .unset, .unset, .unset, .unset, .unset, .unset, .unset, .unset, .unset, .unset, .unset, .unset] [(.int (1 : Int32)), (.int (p0 &&& (65535 : Int32)))]))
  refine own_up (fun _ k => XS.iadd X0.here hx rfl (hb hby at_5) rfl k) ?_
  show own_Go p.tables e below _ (s₁.setTop (mkF m 6 #[.val (.int p0), .val (.int p1), .val (.int p2), .val (.long p3), .second, .val (.int p4), .val (.int p5), .unset, .unset, .unset, .unset, .unset, .unset, .unset, .unset, .unset, .unset, .unset, .unset] [(.int ((p0 &&& (65535 : Int32)) + (1 : Int32)))]))
  generalize hq : ((p0 &&& (65535 : Int32)) + (1 : Int32)) = q
  show own_Go p.tables e below _ (s₁.setTop (mkF m 6 #[.val (.int p0), .val (.int p1), .val (.int p2), .val (.long p3), .second, .val (.int p4), .val (.int p5), .unset, .unset, .unset, .unset, .unset, .unset, .unset, .unset, .unset, .unset, .unset, .unset] [(.int q)]))
  refine own_up (fun _ k => XS.istore X0.here hx rfl (hb hby at_6) rfl (l' := #[.val (.int p0), .val (.int p1), .val (.int p2), .val (.long p3), .second, .val (.int p4), .val (.int p5), .val (.int q), .unset, .unset, .unset, .unset, .unset, .unset, .unset, .unset, .unset, .unset, .unset]) rfl k) ?_
  show own_Go p.tables e below _ (s₁.setTop (mkF m 8 #[.val (.int p0), .val (.int p1), .val (.int p2), .val (.long p3), .second, .val (.int p4), .val (.int p5), .val (.int q), .unset, .unset, .unset, .unset, .unset, .unset, .unset, .unset, .unset, .unset, .unset] []))
  have hq' := own_q hq
  refine own_up (fun _ k => XS.iloadN X0.here hx rfl (hb hby at_8) rfl k) ?_
  show own_Go p.tables e below _ (s₁.setTop (mkF m 9 #[.val (.int p0), .val (.int p1), .val (.int p2), .val (.long p3), .second, .val (.int p4), .val (.int p5), .val (.int q), .unset, .unset, .unset, .unset, .unset, .unset, .unset, .unset, .unset, .unset, .unset] [(.int p1)]))
  refine own_up (fun _ k => XS.istore X0.here hx rfl (hb hby at_9) rfl (l' := #[.val (.int p0), .val (.int p1), .val (.int p2), .val (.long p3), .second, .val (.int p4), .val (.int p5), .val (.int q), .val (.int p1), .unset, .unset, .unset, .unset, .unset, .unset, .unset, .unset, .unset, .unset]) rfl k) ?_
  show own_Go p.tables e below _ (s₁.setTop (mkF m 11 #[.val (.int p0), .val (.int p1), .val (.int p2), .val (.long p3), .second, .val (.int p4), .val (.int p5), .val (.int q), .val (.int p1), .unset, .unset, .unset, .unset, .unset, .unset, .unset, .unset, .unset, .unset] []))
  refine own_up (fun _ k => XS.iloadN X0.here hx rfl (hb hby at_11) rfl k) ?_
  show own_Go p.tables e below _ (s₁.setTop (mkF m 12 #[.val (.int p0), .val (.int p1), .val (.int p2), .val (.long p3), .second, .val (.int p4), .val (.int p5), .val (.int q), .val (.int p1), .unset, .unset, .unset, .unset, .unset, .unset, .unset, .unset, .unset, .unset] [(.int p2)]))
  refine own_up (fun _ k => X0.ldcInt hx hown (mvT hZ (hw _ (List.mem_of_getElem? (i := 1) rfl))) (g := (mkF m 12 #[.val (.int p0), .val (.int p1), .val (.int p2), .val (.long p3), .second, .val (.int p4), .val (.int p5), .val (.int q), .val (.int p1), .unset, .unset, .unset, .unset, .unset, .unset, .unset, .unset, .unset, .unset] [(.int p2)])) rfl (hb hby at_12) _ k) ?_
  show own_Go p.tables e below _ (s₁.setTop (mkF m 14 #[.val (.int p0), .val (.int p1), .val (.int p2), .val (.long p3), .second, .val (.int p4), .val (.int p5), .val (.int q), .val (.int p1), .unset, .unset, .unset, .unset, .unset, .unset, .unset, .unset, .unset, .unset] [(.int (2147483647 : Int32)), (.int p2)]))
  refine own_up (fun _ k => XS.iand X0.here hx rfl (hb hby at_14) rfl k) ?_
  show own_Go p.tables e below _ (s₁.setTop (mkF m 15 #[.val (.int p0), .val (.int p1), .val (.int p2), .val (.long p3), .second, .val (.int p4), .val (.int p5), .val (.int q), .val (.int p1), .unset, .unset, .unset, .unset, .unset, .unset, .unset, .unset, .unset, .unset] [(.int (p2 &&& (2147483647 : Int32)))]))
  refine own_up (fun _ k => XS.iload X0.here hx rfl (hb hby at_15) rfl k) ?_
  show own_Go p.tables e below _ (s₁.setTop (mkF m 17 #[.val (.int p0), .val (.int p1), .val (.int p2), .val (.long p3), .second, .val (.int p4), .val (.int p5), .val (.int q), .val (.int p1), .unset, .unset, .unset, .unset, .unset, .unset, .unset, .unset, .unset, .unset] [(.int q), (.int (p2 &&& (2147483647 : Int32)))]))
  refine own_up (fun _ k => XS.irem X0.here hx rfl (hb hby at_17) rfl (own_q0 hq') k) ?_
  rw [irem_eq_mod (p2 &&& (2147483647 : Int32)) q]
  show own_Go p.tables e below _ (s₁.setTop (mkF m 18 #[.val (.int p0), .val (.int p1), .val (.int p2), .val (.long p3), .second, .val (.int p4), .val (.int p5), .val (.int q), .val (.int p1), .unset, .unset, .unset, .unset, .unset, .unset, .unset, .unset, .unset, .unset] [(.int ((p2 &&& (2147483647 : Int32)) % q))]))
  generalize hr : ((p2 &&& (2147483647 : Int32)) % q) = r
  show own_Go p.tables e below _ (s₁.setTop (mkF m 18 #[.val (.int p0), .val (.int p1), .val (.int p2), .val (.long p3), .second, .val (.int p4), .val (.int p5), .val (.int q), .val (.int p1), .unset, .unset, .unset, .unset, .unset, .unset, .unset, .unset, .unset, .unset] [(.int r)]))
  refine own_up (fun _ k => XS.istore X0.here hx rfl (hb hby at_18) rfl (l' := #[.val (.int p0), .val (.int p1), .val (.int p2), .val (.long p3), .second, .val (.int p4), .val (.int p5), .val (.int q), .val (.int p1), .val (.int r), .unset, .unset, .unset, .unset, .unset, .unset, .unset, .unset, .unset]) rfl k) ?_
  show own_Go p.tables e below _ (s₁.setTop (mkF m 20 #[.val (.int p0), .val (.int p1), .val (.int p2), .val (.long p3), .second, .val (.int p4), .val (.int p5), .val (.int q), .val (.int p1), .val (.int r), .unset, .unset, .unset, .unset, .unset, .unset, .unset, .unset, .unset] []))
  have hr' := own_r hq' hr
  refine own_up (fun _ k => XS.iload X0.here hx rfl (hb hby at_20) rfl k) ?_
  show own_Go p.tables e below _ (s₁.setTop (mkF m 22 #[.val (.int p0), .val (.int p1), .val (.int p2), .val (.long p3), .second, .val (.int p4), .val (.int p5), .val (.int q), .val (.int p1), .val (.int r), .unset, .unset, .unset, .unset, .unset, .unset, .unset, .unset, .unset] [(.int q)]))
  refine own_up (fun _ k => XS.i2l X0.here hx rfl (hb hby at_22) rfl k) ?_
  show own_Go p.tables e below _ (s₁.setTop (mkF m 23 #[.val (.int p0), .val (.int p1), .val (.int p2), .val (.long p3), .second, .val (.int p4), .val (.int p5), .val (.int q), .val (.int p1), .val (.int r), .unset, .unset, .unset, .unset, .unset, .unset, .unset, .unset, .unset] [(.long q.toInt64)]))
  refine own_up (fun _ k => XS.iload X0.here hx rfl (hb hby at_23) rfl k) ?_
  show own_Go p.tables e below _ (s₁.setTop (mkF m 25 #[.val (.int p0), .val (.int p1), .val (.int p2), .val (.long p3), .second, .val (.int p4), .val (.int p5), .val (.int q), .val (.int p1), .val (.int r), .unset, .unset, .unset, .unset, .unset, .unset, .unset, .unset, .unset] [(.int p1), (.long q.toInt64)]))
  refine own_up (fun _ k => XS.i2l X0.here hx rfl (hb hby at_25) rfl k) ?_
  show own_Go p.tables e below _ (s₁.setTop (mkF m 26 #[.val (.int p0), .val (.int p1), .val (.int p2), .val (.long p3), .second, .val (.int p4), .val (.int p5), .val (.int q), .val (.int p1), .val (.int r), .unset, .unset, .unset, .unset, .unset, .unset, .unset, .unset, .unset] [(.long p1.toInt64), (.long q.toInt64)]))
  refine own_up (fun _ k => XS.lmul X0.here hx rfl (hb hby at_26) rfl k) ?_
  show own_Go p.tables e below _ (s₁.setTop (mkF m 27 #[.val (.int p0), .val (.int p1), .val (.int p2), .val (.long p3), .second, .val (.int p4), .val (.int p5), .val (.int q), .val (.int p1), .val (.int r), .unset, .unset, .unset, .unset, .unset, .unset, .unset, .unset, .unset] [(.long (q.toInt64 * p1.toInt64))]))
  refine own_up (fun _ k => XS.iload X0.here hx rfl (hb hby at_27) rfl k) ?_
  show own_Go p.tables e below _ (s₁.setTop (mkF m 29 #[.val (.int p0), .val (.int p1), .val (.int p2), .val (.long p3), .second, .val (.int p4), .val (.int p5), .val (.int q), .val (.int p1), .val (.int r), .unset, .unset, .unset, .unset, .unset, .unset, .unset, .unset, .unset] [(.int r), (.long (q.toInt64 * p1.toInt64))]))
  refine own_up (fun _ k => XS.i2l X0.here hx rfl (hb hby at_29) rfl k) ?_
  show own_Go p.tables e below _ (s₁.setTop (mkF m 30 #[.val (.int p0), .val (.int p1), .val (.int p2), .val (.long p3), .second, .val (.int p4), .val (.int p5), .val (.int q), .val (.int p1), .val (.int r), .unset, .unset, .unset, .unset, .unset, .unset, .unset, .unset, .unset] [(.long r.toInt64), (.long (q.toInt64 * p1.toInt64))]))
  refine own_up (fun _ k => XS.ladd X0.here hx rfl (hb hby at_30) rfl k) ?_
  show own_Go p.tables e below _ (s₁.setTop (mkF m 31 #[.val (.int p0), .val (.int p1), .val (.int p2), .val (.long p3), .second, .val (.int p4), .val (.int p5), .val (.int q), .val (.int p1), .val (.int r), .unset, .unset, .unset, .unset, .unset, .unset, .unset, .unset, .unset] [(.long ((q.toInt64 * p1.toInt64) + r.toInt64))]))
  generalize hso : ((q.toInt64 * p1.toInt64) + r.toInt64) = so
  show own_Go p.tables e below _ (s₁.setTop (mkF m 31 #[.val (.int p0), .val (.int p1), .val (.int p2), .val (.long p3), .second, .val (.int p4), .val (.int p5), .val (.int q), .val (.int p1), .val (.int r), .unset, .unset, .unset, .unset, .unset, .unset, .unset, .unset, .unset] [(.long so)]))
  refine own_up (fun _ k => XS.lstore X0.here hx rfl (hb hby at_31) rfl (l' := #[.val (.int p0), .val (.int p1), .val (.int p2), .val (.long p3), .second, .val (.int p4), .val (.int p5), .val (.int q), .val (.int p1), .val (.int r), .val (.long so), .second, .unset, .unset, .unset, .unset, .unset, .unset, .unset]) rfl k) ?_
  show own_Go p.tables e below _ (s₁.setTop (mkF m 33 #[.val (.int p0), .val (.int p1), .val (.int p2), .val (.long p3), .second, .val (.int p4), .val (.int p5), .val (.int q), .val (.int p1), .val (.int r), .val (.long so), .second, .unset, .unset, .unset, .unset, .unset, .unset, .unset] []))
  have hs' := own_so hq' hr' hso
  obtain ⟨T1, h1, X1, e1, E1, A1, D1, -, st1⟩ := newO X0 hx hZ hown (hw _ (List.mem_of_getElem? (i := 2) rfl)) (hw _ (List.mem_of_getElem? (i := 3) rfl)) (hw _ (List.mem_of_getElem? (i := 4) rfl)) e0 (g := (mkF m 33 #[.val (.int p0), .val (.int p1), .val (.int p2), .val (.long p3), .second, .val (.int p4), .val (.int p5), .val (.int q), .val (.int p1), .val (.int r), .val (.long so), .second, .unset, .unset, .unset, .unset, .unset, .unset, .unset] [])) rfl (hb hby at_33) (by decide) (by decide)
  obtain ⟨b1, gz1⟩ : ∃ z, z = h0.size := ⟨_, rfl⟩
  rw [← gz1] at A1 D1 st1
  have g_b1 : n0 ≤ b1 := Nat.le_trans ZH (Nat.le_of_eq gz1.symm)
  have sz_b1 : h0.size ≤ b1 := Nat.le_trans KK.1 (Nat.le_of_eq gz1.symm)
  have ZH := Nat.le_trans ZH E1.1
  have KK := KK.ext E1
  have E_b1 := A1
  have F__queries_b1 : Fld Z h1 b1 "com/example/ranksieve/ranksieve/workload/BenchmarkResult" "_queries" "I" (.int (0 : Int32)) := D1 (Or.inr (hw _ (List.mem_of_getElem? (i := 16) rfl))) (ty := .int) (by decide)
  have F__exact_b1 : Fld Z h1 b1 "com/example/ranksieve/ranksieve/workload/BenchmarkResult" "_exact" "I" (.int (0 : Int32)) := D1 (Or.inr (hw _ (List.mem_of_getElem? (i := 18) rfl))) (ty := .int) (by decide)
  have F__sortedAccesses_b1 : Fld Z h1 b1 "com/example/ranksieve/ranksieve/workload/BenchmarkResult" "_sortedAccesses" "J" (.long (0 : Int64)) := D1 (Or.inr (hw _ (List.mem_of_getElem? (i := 20) rfl))) (ty := .long) (by decide)
  have F__randomAccesses_b1 : Fld Z h1 b1 "com/example/ranksieve/ranksieve/workload/BenchmarkResult" "_randomAccesses" "J" (.long (0 : Int64)) := D1 (Or.inr (hw _ (List.mem_of_getElem? (i := 22) rfl))) (ty := .long) (by decide)
  have F__probeTime_b1 : Fld Z h1 b1 "com/example/ranksieve/ranksieve/workload/BenchmarkResult" "_probeTime" "D" (.double (0 : UInt64)) := D1 (Or.inr (hw _ (List.mem_of_getElem? (i := 24) rfl))) (ty := .double) (by decide)
  have F__maxOutstandingSorted_b1 : Fld Z h1 b1 "com/example/ranksieve/ranksieve/workload/BenchmarkResult" "_maxOutstandingSorted" "I" (.int (0 : Int32)) := D1 (Or.inr (hw _ (List.mem_of_getElem? (i := 26) rfl))) (ty := .int) (by decide)
  have F__maxOutstandingRandom_b1 : Fld Z h1 b1 "com/example/ranksieve/ranksieve/workload/BenchmarkResult" "_maxOutstandingRandom" "I" (.int (0 : Int32)) := D1 (Or.inr (hw _ (List.mem_of_getElem? (i := 28) rfl))) (ty := .int) (by decide)
  have F__sequentialProbeTime_b1 : Fld Z h1 b1 "com/example/ranksieve/ranksieve/workload/BenchmarkResult" "_sequentialProbeTime" "D" (.double (0 : UInt64)) := D1 (Or.inr (hw _ (List.mem_of_getElem? (i := 30) rfl))) (ty := .double) (by decide)
  have F__maxConcurrentAccesses_b1 : Fld Z h1 b1 "com/example/ranksieve/ranksieve/workload/BenchmarkResult" "_maxConcurrentAccesses" "J" (.long (0 : Int64)) := D1 (Or.inr (hw _ (List.mem_of_getElem? (i := 32) rfl))) (ty := .long) (by decide)
  refine own_up st1 ?_
  show own_Go p.tables e below _ (T1.setTop (mkF m 36 #[.val (.int p0), .val (.int p1), .val (.int p2), .val (.long p3), .second, .val (.int p4), .val (.int p5), .val (.int q), .val (.int p1), .val (.int r), .val (.long so), .second, .unset, .unset, .unset, .unset, .unset, .unset, .unset] [(.ref b1)]))
  refine own_up (fun _ k => XS.dup X1.here hx rfl (hb hby at_36) rfl rfl k) ?_
  show own_Go p.tables e below _ (T1.setTop (mkF m 37 #[.val (.int p0), .val (.int p1), .val (.int p2), .val (.long p3), .second, .val (.int p4), .val (.int p5), .val (.int q), .val (.int p1), .val (.int r), .val (.long so), .second, .unset, .unset, .unset, .unset, .unset, .unset, .unset] [(.ref b1), (.ref b1)]))
  refine own_up (fun _ k => XS.iload X1.here hx rfl (hb hby at_37) rfl k) ?_
  show own_Go p.tables e below _ (T1.setTop (mkF m 39 #[.val (.int p0), .val (.int p1), .val (.int p2), .val (.long p3), .second, .val (.int p4), .val (.int p5), .val (.int q), .val (.int p1), .val (.int r), .val (.long so), .second, .unset, .unset, .unset, .unset, .unset, .unset, .unset] [(.int q), (.ref b1), (.ref b1)]))
  refine own_up (fun _ k => XS.iload X1.here hx rfl (hb hby at_39) rfl k) ?_
  show own_Go p.tables e below _ (T1.setTop (mkF m 41 #[.val (.int p0), .val (.int p1), .val (.int p2), .val (.long p3), .second, .val (.int p4), .val (.int p5), .val (.int q), .val (.int p1), .val (.int r), .val (.long so), .second, .unset, .unset, .unset, .unset, .unset, .unset, .unset] [(.int p4), (.int q), (.ref b1), (.ref b1)]))
  refine own_up (fun _ k => XS.lload X1.here hx rfl (hb hby at_41) rfl k) ?_
  show own_Go p.tables e below _ (T1.setTop (mkF m 43 #[.val (.int p0), .val (.int p1), .val (.int p2), .val (.long p3), .second, .val (.int p4), .val (.int p5), .val (.int q), .val (.int p1), .val (.int r), .val (.long so), .second, .unset, .unset, .unset, .unset, .unset, .unset, .unset] [(.long so), (.int p4), (.int q), (.ref b1), (.ref b1)]))
  refine own_up (fun _ k => XS.lloadN X1.here hx rfl (hb hby at_43) rfl k) ?_
  show own_Go p.tables e below _ (T1.setTop (mkF m 44 #[.val (.int p0), .val (.int p1), .val (.int p2), .val (.long p3), .second, .val (.int p4), .val (.int p5), .val (.int q), .val (.int p1), .val (.int r), .val (.long so), .second, .unset, .unset, .unset, .unset, .unset, .unset, .unset] [(.long p3), (.long so), (.int p4), (.int q), (.ref b1), (.ref b1)]))
  refine own_up (fun _ k => XS.iload X1.here hx rfl (hb hby at_44) rfl k) ?_
  show own_Go p.tables e below _ (T1.setTop (mkF m 46 #[.val (.int p0), .val (.int p1), .val (.int p2), .val (.long p3), .second, .val (.int p4), .val (.int p5), .val (.int q), .val (.int p1), .val (.int r), .val (.long so), .second, .unset, .unset, .unset, .unset, .unset, .unset, .unset] [(.int p5), (.long p3), (.long so), (.int p4), (.int q), (.ref b1), (.ref b1)]))
  refine own_up (fun _ k => XS.i2dS X1.here hx rfl (v := (FP.i2d p5)) (hb hby at_46) rfl rfl k) ?_
  show own_Go p.tables e below _ (T1.setTop (mkF m 47 #[.val (.int p0), .val (.int p1), .val (.int p2), .val (.long p3), .second, .val (.int p4), .val (.int p5), .val (.int q), .val (.int p1), .val (.int r), .val (.long so), .second, .unset, .unset, .unset, .unset, .unset, .unset, .unset] [(.double (FP.i2d p5)), (.long p3), (.long so), (.int p4), (.int q), (.ref b1), (.ref b1)]))
  refine own_up (fun _ k => XS.iload X1.here hx rfl (hb hby at_47) rfl k) ?_
  show own_Go p.tables e below _ (T1.setTop (mkF m 49 #[.val (.int p0), .val (.int p1), .val (.int p2), .val (.long p3), .second, .val (.int p4), .val (.int p5), .val (.int q), .val (.int p1), .val (.int r), .val (.long so), .second, .unset, .unset, .unset, .unset, .unset, .unset, .unset] [(.int p4), (.double (FP.i2d p5)), (.long p3), (.long so), (.int p4), (.int q), (.ref b1), (.ref b1)]))
  refine own_up (fun _ k => XS.iload X1.here hx rfl (hb hby at_49) rfl k) ?_
  show own_Go p.tables e below _ (T1.setTop (mkF m 51 #[.val (.int p0), .val (.int p1), .val (.int p2), .val (.long p3), .second, .val (.int p4), .val (.int p5), .val (.int q), .val (.int p1), .val (.int r), .val (.long so), .second, .unset, .unset, .unset, .unset, .unset, .unset, .unset] [(.int p5), (.int p4), (.double (FP.i2d p5)), (.long p3), (.long so), (.int p4), (.int q), (.ref b1), (.ref b1)]))
  obtain ⟨_, _, ⟨T2, L2, k2, n2⟩, -, X2, ⟨Lc2, hQ2, l2, y2, z2⟩, st2⟩ := X1.specialBack hx (y := (⟨"com/example/ranksieve/ranksieve/workload/BenchmarkResult", "<init>", "(IIJJDII)V"⟩ : MethodName)) rfl hown (mvT hZ (hw _ (List.mem_of_getElem? (i := 5) rfl))) (mvT hZ (hw _ (List.mem_of_getElem? (i := 6) rfl))) (mvT hZ (hw _ (List.mem_of_getElem? (i := 7) rfl))) (by decide) (backOf (W := 1) (rm1 l Z a0 hw [] b1 q p4 so p3 (FP.i2d p5) p4 p5 h1 n0 ZH E_b1 F__queries_b1 F__exact_b1 F__sortedAccesses_b1 F__randomAccesses_b1 F__probeTime_b1 F__maxOutstandingSorted_b1 F__maxOutstandingRandom_b1 F__sequentialProbeTime_b1 F__maxConcurrentAccesses_b1 g_b1) hZ (hw _ (List.mem_of_getElem? (i := 7) rfl)) (hw _ (List.mem_of_getElem? (i := 4) rfl)) (by decide) (by decide)) (g := (mkF m 51 #[.val (.int p0), .val (.int p1), .val (.int p2), .val (.long p3), .second, .val (.int p4), .val (.int p5), .val (.int q), .val (.int p1), .val (.int r), .val (.long so), .second, .unset, .unset, .unset, .unset, .unset, .unset, .unset] [(.int p5), (.int p4), (.double (FP.i2d p5)), (.long p3), (.long so), (.int p4), (.int q), (.ref b1), (.ref b1)])) rfl (by rw [hml]; rfl) (Steps.refl _) (a := b1) (argsL := [(.int q), (.int p4), (.long so), (.long p3), (.double (FP.i2d p5)), (.int p4), (.int p5)]) (rest := [(.ref b1)]) (lenOf pd_1 rfl) rfl (by show 2 * 0 + _ ≤ _; exact Nat.le_of_eq rfl) (hb hby at_51) (fun _ _ => ⟨rfl, e1, (by decide : 1 + 0 ≤ _), (by decide : 9 + 0 ≤ _)⟩)
  dsimp only [Pt.U, Pt.locs, Pt.cells, Pt.slots] at X2 l2 y2 z2 st2 hQ2
  subst l2 y2 z2
  obtain ⟨rfl, Nq2, K2, Fq, Fs⟩ := hQ2
  have N2 := Fr.app N0 Nq2
  have E_b1 := E_b1.keep K2
  have ZH := Nat.le_trans ZH K2.1
  have KK := KK.trans K2 (allS (Or.inr sz_b1) all0)
  refine own_up (fun _ k => st2.trans k) ?_
  show own_Go p.tables e below _ (T2.setTop (mkF m 54 #[.val (.int p0), .val (.int p1), .val (.int p2), .val (.long p3), .second, .val (.int p4), .val (.int p5), .val (.int q), .val (.int p1), .val (.int r), .val (.long so), .second, .unset, .unset, .unset, .unset, .unset, .unset, .unset] [(.ref b1)]))
  refine own_up (fun _ k => XS.astore X2.here hx rfl (hb hby at_54) rfl rfl (l' := #[.val (.int p0), .val (.int p1), .val (.int p2), .val (.long p3), .second, .val (.int p4), .val (.int p5), .val (.int q), .val (.int p1), .val (.int r), .val (.long so), .second, .val (.ref b1), .unset, .unset, .unset, .unset, .unset, .unset]) rfl k) ?_
  show own_Go p.tables e below _ (T2.setTop (mkF m 56 #[.val (.int p0), .val (.int p1), .val (.int p2), .val (.long p3), .second, .val (.int p4), .val (.int p5), .val (.int q), .val (.int p1), .val (.int r), .val (.long so), .second, .val (.ref b1), .unset, .unset, .unset, .unset, .unset, .unset] []))
  refine own_up (fun _ k => XS.aload X2.here hx rfl (hb hby at_56) rfl rfl k) ?_
  show own_Go p.tables e below _ (T2.setTop (mkF m 58 #[.val (.int p0), .val (.int p1), .val (.int p2), .val (.long p3), .second, .val (.int p4), .val (.int p5), .val (.int q), .val (.int p1), .val (.int r), .val (.long so), .second, .val (.ref b1), .unset, .unset, .unset, .unset, .unset, .unset] [(.ref b1)]))
  obtain ⟨cq3, kq3, q3a, q3b, q3c⟩ := isOf hZ rfl E_b1
  obtain ⟨_, _, ⟨T3, L3, k3, n3⟩, -, X3, ⟨Lc3, hQ3, l3, y3, z3⟩, st3⟩ := X2.virtualBack hx (y := (⟨"com/example/ranksieve/ranksieve/workload/BenchmarkResult", "getSortedAccessesAverage", "()D"⟩ : MethodName)) (z := (⟨"com/example/ranksieve/ranksieve/workload/BenchmarkResult", "getSortedAccessesAverage", "()D"⟩ : MethodName)) hown (mvT hZ (hw _ (List.mem_of_getElem? (i := 33) rfl))) (mvT hZ (hw _ (List.mem_of_getElem? (i := 34) rfl))) (notFace_of_selects (args := #[]) (mvT hZ (hw _ (List.mem_of_getElem? (i := 36) rfl)))) (mvT hZ (hw _ (List.mem_of_getElem? (i := 36) rfl))) (mvT hZ (hw _ (List.mem_of_getElem? (i := 35) rfl))) (by decide) (backOf (W := 0) (rm4 l Z a0 hw [] b1 q so T2.heap n0 ZH Fq Fs (own_avgnn hq' hs')) hZ (hw _ (List.mem_of_getElem? (i := 37) rfl)) (hw _ (List.mem_of_getElem? (i := 4) rfl)) (by decide) (by decide)) q3a q3c (g := (mkF m 58 #[.val (.int p0), .val (.int p1), .val (.int p2), .val (.long p3), .second, .val (.int p4), .val (.int p5), .val (.int q), .val (.int p1), .val (.int r), .val (.long so), .second, .val (.ref b1), .unset, .unset, .unset, .unset, .unset, .unset] [(.ref b1)])) rfl (by rw [hml]; rfl) (Steps.refl _) (argsL := []) (rest := []) (lenOf pd_2 rfl) rfl (by show 2 * 0 + _ ≤ _; exact Nat.le_of_eq rfl) (hb hby at_58) (fun _ _ => ⟨rfl, rfl, (by decide : 1 + 0 ≤ _), (by decide : 9 + 0 ≤ _)⟩)
  dsimp only [Pt.U, Pt.locs, Pt.cells, Pt.slots] at X3 l3 y3 z3 st3 hQ3
  subst l3 y3 z3
  obtain ⟨rfl, Nq3, e3⟩ := hQ3
  have N3 := Fr.app N2 Nq3
  refine own_up (fun _ k => st3.trans k) ?_
  show own_Go p.tables e below _ (T3.setTop (mkF m 61 #[.val (.int p0), .val (.int p1), .val (.int p2), .val (.long p3), .second, .val (.int p4), .val (.int p5), .val (.int q), .val (.int p1), .val (.int r), .val (.long so), .second, .val (.ref b1), .unset, .unset, .unset, .unset, .unset, .unset] [(.double (FP.ddiv (FP.l2d so) (FP.i2d q)))]))
  refine own_up (fun _ k => XS.dstore X3.here hx rfl (hb hby at_61) rfl (l' := #[.val (.int p0), .val (.int p1), .val (.int p2), .val (.long p3), .second, .val (.int p4), .val (.int p5), .val (.int q), .val (.int p1), .val (.int r), .val (.long so), .second, .val (.ref b1), .val (.double (FP.ddiv (FP.l2d so) (FP.i2d q))), .second, .unset, .unset, .unset, .unset]) rfl k) ?_
  show own_Go p.tables e below _ (T3.setTop (mkF m 63 #[.val (.int p0), .val (.int p1), .val (.int p2), .val (.long p3), .second, .val (.int p4), .val (.int p5), .val (.int q), .val (.int p1), .val (.int r), .val (.long so), .second, .val (.ref b1), .val (.double (FP.ddiv (FP.l2d so) (FP.i2d q))), .second, .unset, .unset, .unset, .unset] []))
  refine own_up (fun _ k => XS.iload X3.here hx rfl (hb hby at_63) rfl k) ?_
  show own_Go p.tables e below _ (T3.setTop (mkF m 65 #[.val (.int p0), .val (.int p1), .val (.int p2), .val (.long p3), .second, .val (.int p4), .val (.int p5), .val (.int q), .val (.int p1), .val (.int r), .val (.long so), .second, .val (.ref b1), .val (.double (FP.ddiv (FP.l2d so) (FP.i2d q))), .second, .unset, .unset, .unset, .unset] [(.int p1)]))
  refine own_up (fun _ k => XS.i2dS X3.here hx rfl (v := (FP.i2d p1)) (hb hby at_65) rfl rfl k) ?_
  show own_Go p.tables e below _ (T3.setTop (mkF m 66 #[.val (.int p0), .val (.int p1), .val (.int p2), .val (.long p3), .second, .val (.int p4), .val (.int p5), .val (.int q), .val (.int p1), .val (.int r), .val (.long so), .second, .val (.ref b1), .val (.double (FP.ddiv (FP.l2d so) (FP.i2d q))), .second, .unset, .unset, .unset, .unset] [(.double (FP.i2d p1))]))
  refine own_up (fun _ k => XS.dstore X3.here hx rfl (hb hby at_66) rfl (l' := #[.val (.int p0), .val (.int p1), .val (.int p2), .val (.long p3), .second, .val (.int p4), .val (.int p5), .val (.int q), .val (.int p1), .val (.int r), .val (.long so), .second, .val (.ref b1), .val (.double (FP.ddiv (FP.l2d so) (FP.i2d q))), .second, .val (.double (FP.i2d p1)), .second, .unset, .unset]) rfl k) ?_
  show own_Go p.tables e below _ (T3.setTop (mkF m 68 #[.val (.int p0), .val (.int p1), .val (.int p2), .val (.long p3), .second, .val (.int p4), .val (.int p5), .val (.int q), .val (.int p1), .val (.int r), .val (.long so), .second, .val (.ref b1), .val (.double (FP.ddiv (FP.l2d so) (FP.i2d q))), .second, .val (.double (FP.i2d p1)), .second, .unset, .unset] []))
  refine own_up (fun _ k => XS.iload X3.here hx rfl (hb hby at_68) rfl k) ?_
  show own_Go p.tables e below _ (T3.setTop (mkF m 70 #[.val (.int p0), .val (.int p1), .val (.int p2), .val (.long p3), .second, .val (.int p4), .val (.int p5), .val (.int q), .val (.int p1), .val (.int r), .val (.long so), .second, .val (.ref b1), .val (.double (FP.ddiv (FP.l2d so) (FP.i2d q))), .second, .val (.double (FP.i2d p1)), .second, .unset, .unset] [(.int p1)]))
  refine own_up (fun _ k => XS.i2dS X3.here hx rfl (v := (FP.i2d p1)) (hb hby at_70) rfl rfl k) ?_
  show own_Go p.tables e below _ (T3.setTop (mkF m 71 #[.val (.int p0), .val (.int p1), .val (.int p2), .val (.long p3), .second, .val (.int p4), .val (.int p5), .val (.int q), .val (.int p1), .val (.int r), .val (.long so), .second, .val (.ref b1), .val (.double (FP.ddiv (FP.l2d so) (FP.i2d q))), .second, .val (.double (FP.i2d p1)), .second, .unset, .unset] [(.double (FP.i2d p1))]))
  refine own_up (fun _ k => XS.dconst1 X3.here hx rfl (v := (4607182418800017408 : UInt64)) (hb hby at_71) rfl k) ?_
  show own_Go p.tables e below _ (T3.setTop (mkF m 72 #[.val (.int p0), .val (.int p1), .val (.int p2), .val (.long p3), .second, .val (.int p4), .val (.int p5), .val (.int q), .val (.int p1), .val (.int r), .val (.long so), .second, .val (.ref b1), .val (.double (FP.ddiv (FP.l2d so) (FP.i2d q))), .second, .val (.double (FP.i2d p1)), .second, .unset, .unset] [(.double (4607182418800017408 : UInt64)), (.double (FP.i2d p1))]))
  refine own_up (fun _ k => XS.daddS X3.here hx rfl (v := (FP.dadd (FP.i2d p1) (4607182418800017408 : UInt64))) (hb hby at_72) rfl (dadd_out (i2d_fin p1).noNaN own_onefin) rfl k) ?_
  show own_Go p.tables e below _ (T3.setTop (mkF m 73 #[.val (.int p0), .val (.int p1), .val (.int p2), .val (.long p3), .second, .val (.int p4), .val (.int p5), .val (.int q), .val (.int p1), .val (.int r), .val (.long so), .second, .val (.ref b1), .val (.double (FP.ddiv (FP.l2d so) (FP.i2d q))), .second, .val (.double (FP.i2d p1)), .second, .unset, .unset] [(.double (FP.dadd (FP.i2d p1) (4607182418800017408 : UInt64)))]))
  refine own_up (fun _ k => XS.dstore X3.here hx rfl (hb hby at_73) rfl (l' := #[.val (.int p0), .val (.int p1), .val (.int p2), .val (.long p3), .second, .val (.int p4), .val (.int p5), .val (.int q), .val (.int p1), .val (.int r), .val (.long so), .second, .val (.ref b1), .val (.double (FP.ddiv (FP.l2d so) (FP.i2d q))), .second, .val (.double (FP.i2d p1)), .second, .val (.double (FP.dadd (FP.i2d p1) (4607182418800017408 : UInt64))), .second]) rfl k) ?_
  show own_Go p.tables e below _ (T3.setTop (mkF m 75 #[.val (.int p0), .val (.int p1), .val (.int p2), .val (.long p3), .second, .val (.int p4), .val (.int p5), .val (.int q), .val (.int p1), .val (.int r), .val (.long so), .second, .val (.ref b1), .val (.double (FP.ddiv (FP.l2d so) (FP.i2d q))), .second, .val (.double (FP.i2d p1)), .second, .val (.double (FP.dadd (FP.i2d p1) (4607182418800017408 : UInt64))), .second] []))
  refine own_up (fun _ k => XS.iload X3.here hx rfl (hb hby at_75) rfl k) ?_
  show own_Go p.tables e below _ (T3.setTop (mkF m 77 #[.val (.int p0), .val (.int p1), .val (.int p2), .val (.long p3), .second, .val (.int p4), .val (.int p5), .val (.int q), .val (.int p1), .val (.int r), .val (.long so), .second, .val (.ref b1), .val (.double (FP.ddiv (FP.l2d so) (FP.i2d q))), .second, .val (.double (FP.i2d p1)), .second, .val (.double (FP.dadd (FP.i2d p1) (4607182418800017408 : UInt64))), .second] [(.int r)]))
  by_cases hc77 : r = (0 : Int32)
  · refine own_up (fun _ k => XS.ifNo X3.here hx rfl (hb hby at_77) rfl ((if0 _ _).trans (teq hc77).2) k) ?_
    show own_Go p.tables e below _ (T3.setTop (mkF m 80 #[.val (.int p0), .val (.int p1), .val (.int p2), .val (.long p3), .second, .val (.int p4), .val (.int p5), .val (.int q), .val (.int p1), .val (.int r), .val (.long so), .second, .val (.ref b1), .val (.double (FP.ddiv (FP.l2d so) (FP.i2d q))), .second, .val (.double (FP.i2d p1)), .second, .val (.double (FP.dadd (FP.i2d p1) (4607182418800017408 : UInt64))), .second] []))
    refine own_up (fun _ k => XS.dload X3.here hx rfl (hb hby at_80) rfl k) ?_
    show own_Go p.tables e below _ (T3.setTop (mkF m 82 #[.val (.int p0), .val (.int p1), .val (.int p2), .val (.long p3), .second, .val (.int p4), .val (.int p5), .val (.int q), .val (.int p1), .val (.int r), .val (.long so), .second, .val (.ref b1), .val (.double (FP.ddiv (FP.l2d so) (FP.i2d q))), .second, .val (.double (FP.i2d p1)), .second, .val (.double (FP.dadd (FP.i2d p1) (4607182418800017408 : UInt64))), .second] [(.double (FP.ddiv (FP.l2d so) (FP.i2d q)))]))
    refine own_up (fun _ k => XS.dload X3.here hx rfl (hb hby at_82) rfl k) ?_
    show own_Go p.tables e below _ (T3.setTop (mkF m 84 #[.val (.int p0), .val (.int p1), .val (.int p2), .val (.long p3), .second, .val (.int p4), .val (.int p5), .val (.int q), .val (.int p1), .val (.int r), .val (.long so), .second, .val (.ref b1), .val (.double (FP.ddiv (FP.l2d so) (FP.i2d q))), .second, .val (.double (FP.i2d p1)), .second, .val (.double (FP.dadd (FP.i2d p1) (4607182418800017408 : UInt64))), .second] [(.double (FP.i2d p1)), (.double (FP.ddiv (FP.l2d so) (FP.i2d q)))]))
    refine own_up (fun _ k => XS.dcmpS X3.here hx rfl (v := (cmpValue (FP.dcmp (FP.ddiv (FP.l2d so) (FP.i2d q)) (FP.i2d p1)) .l)) (hb hby at_84) rfl rfl k) ?_
    show own_Go p.tables e below _ (T3.setTop (mkF m 85 #[.val (.int p0), .val (.int p1), .val (.int p2), .val (.long p3), .second, .val (.int p4), .val (.int p5), .val (.int q), .val (.int p1), .val (.int r), .val (.long so), .second, .val (.ref b1), .val (.double (FP.ddiv (FP.l2d so) (FP.i2d q))), .second, .val (.double (FP.i2d p1)), .second, .val (.double (FP.dadd (FP.i2d p1) (4607182418800017408 : UInt64))), .second] [(.int (cmpValue (FP.dcmp (FP.ddiv (FP.l2d so) (FP.i2d q)) (FP.i2d p1)) .l))]))
    refine own_up (fun _ k => XS.ifNo X3.here hx rfl (hb hby at_85) rfl ((if0 _ _).trans (teq (own_F_eq hq' hs' hc77)).2) k) ?_
    show own_Go p.tables e below _ (T3.setTop (mkF m 88 #[.val (.int p0), .val (.int p1), .val (.int p2), .val (.long p3), .second, .val (.int p4), .val (.int p5), .val (.int q), .val (.int p1), .val (.int r), .val (.long so), .second, .val (.ref b1), .val (.double (FP.ddiv (FP.l2d so) (FP.i2d q))), .second, .val (.double (FP.i2d p1)), .second, .val (.double (FP.dadd (FP.i2d p1) (4607182418800017408 : UInt64))), .second] []))
    refine own_up (fun _ k => XS.iconst X3.here hx rfl (hb hby at_88) k) ?_
    show own_Go p.tables e below _ (T3.setTop (mkF m 89 #[.val (.int p0), .val (.int p1), .val (.int p2), .val (.long p3), .second, .val (.int p4), .val (.int p5), .val (.int q), .val (.int p1), .val (.int r), .val (.long so), .second, .val (.ref b1), .val (.double (FP.ddiv (FP.l2d so) (FP.i2d q))), .second, .val (.double (FP.i2d p1)), .second, .val (.double (FP.dadd (FP.i2d p1) (4607182418800017408 : UInt64))), .second] [(.int (1 : Int32))]))
    refine own_up (fun _ k => XS.goto X3.here hx rfl (pc0 := 89) (pc' := 93) rfl (hb hby at_89) (by decide) (by decide) k) ?_
    show own_Go p.tables e below _ (T3.setTop (mkF m 93 #[.val (.int p0), .val (.int p1), .val (.int p2), .val (.long p3), .second, .val (.int p4), .val (.int p5), .val (.int q), .val (.int p1), .val (.int r), .val (.long so), .second, .val (.ref b1), .val (.double (FP.ddiv (FP.l2d so) (FP.i2d q))), .second, .val (.double (FP.i2d p1)), .second, .val (.double (FP.dadd (FP.i2d p1) (4607182418800017408 : UInt64))), .second] [(.int (1 : Int32))]))
    obtain ⟨fs4, hr4, hrun4, hended4, hW4, hsame4⟩ := X3.leave (v := some (.int (1 : Int32))) (fun h => by rw [Bd.returns] at h; cases h)
    refine own_end ⟨_, _, ?_, hrun4, hended4, _, _, rfl, ?_, ⟨_, rfl⟩, hW4, hsame4.mono (by decide) (by decide)⟩
    · exact retN X3 hx (t := .boolean) Bd.returns (by simp) (hb hby at_93) hr4
    · show Qrm0 Z p0 p1 p2 p3 p4 p5 h0 n0 _ T3.heap _
      rw [e3]
      exact ⟨rfl, N3⟩
  · refine own_up (fun _ k => XS.ifYes X3.here hx rfl (pc0 := 77) (pc' := 94) rfl (hb hby at_77) rfl ((if0 _ _).trans (feq hc77).2) (by decide) (by decide) k) ?_
    show own_Go p.tables e below _ (T3.setTop (mkF m 94 #[.val (.int p0), .val (.int p1), .val (.int p2), .val (.long p3), .second, .val (.int p4), .val (.int p5), .val (.int q), .val (.int p1), .val (.int r), .val (.long so), .second, .val (.ref b1), .val (.double (FP.ddiv (FP.l2d so) (FP.i2d q))), .second, .val (.double (FP.i2d p1)), .second, .val (.double (FP.dadd (FP.i2d p1) (4607182418800017408 : UInt64))), .second] []))
    refine own_up (fun _ k => XS.dload X3.here hx rfl (hb hby at_94) rfl k) ?_
    show own_Go p.tables e below _ (T3.setTop (mkF m 96 #[.val (.int p0), .val (.int p1), .val (.int p2), .val (.long p3), .second, .val (.int p4), .val (.int p5), .val (.int q), .val (.int p1), .val (.int r), .val (.long so), .second, .val (.ref b1), .val (.double (FP.ddiv (FP.l2d so) (FP.i2d q))), .second, .val (.double (FP.i2d p1)), .second, .val (.double (FP.dadd (FP.i2d p1) (4607182418800017408 : UInt64))), .second] [(.double (FP.i2d p1))]))
    refine own_up (fun _ k => XS.dload X3.here hx rfl (hb hby at_96) rfl k) ?_
    show own_Go p.tables e below _ (T3.setTop (mkF m 98 #[.val (.int p0), .val (.int p1), .val (.int p2), .val (.long p3), .second, .val (.int p4), .val (.int p5), .val (.int q), .val (.int p1), .val (.int r), .val (.long so), .second, .val (.ref b1), .val (.double (FP.ddiv (FP.l2d so) (FP.i2d q))), .second, .val (.double (FP.i2d p1)), .second, .val (.double (FP.dadd (FP.i2d p1) (4607182418800017408 : UInt64))), .second] [(.double (FP.ddiv (FP.l2d so) (FP.i2d q))), (.double (FP.i2d p1))]))
    refine own_up (fun _ k => XS.dcmpS X3.here hx rfl (v := (cmpValue (FP.dcmp (FP.i2d p1) (FP.ddiv (FP.l2d so) (FP.i2d q))) .g)) (hb hby at_98) rfl rfl k) ?_
    show own_Go p.tables e below _ (T3.setTop (mkF m 99 #[.val (.int p0), .val (.int p1), .val (.int p2), .val (.long p3), .second, .val (.int p4), .val (.int p5), .val (.int q), .val (.int p1), .val (.int r), .val (.long so), .second, .val (.ref b1), .val (.double (FP.ddiv (FP.l2d so) (FP.i2d q))), .second, .val (.double (FP.i2d p1)), .second, .val (.double (FP.dadd (FP.i2d p1) (4607182418800017408 : UInt64))), .second] [(.int (cmpValue (FP.dcmp (FP.i2d p1) (FP.ddiv (FP.l2d so) (FP.i2d q))) .g))]))
    refine own_up (fun _ k => XS.ifNo X3.here hx rfl (hb hby at_99) rfl ((if0 _ _).trans (tlt (own_F_lo hq' hr' hs' hc77)).2.1) k) ?_
    show own_Go p.tables e below _ (T3.setTop (mkF m 102 #[.val (.int p0), .val (.int p1), .val (.int p2), .val (.long p3), .second, .val (.int p4), .val (.int p5), .val (.int q), .val (.int p1), .val (.int r), .val (.long so), .second, .val (.ref b1), .val (.double (FP.ddiv (FP.l2d so) (FP.i2d q))), .second, .val (.double (FP.i2d p1)), .second, .val (.double (FP.dadd (FP.i2d p1) (4607182418800017408 : UInt64))), .second] []))
    refine own_up (fun _ k => XS.dload X3.here hx rfl (hb hby at_102) rfl k) ?_
    show own_Go p.tables e below _ (T3.setTop (mkF m 104 #[.val (.int p0), .val (.int p1), .val (.int p2), .val (.long p3), .second, .val (.int p4), .val (.int p5), .val (.int q), .val (.int p1), .val (.int r), .val (.long so), .second, .val (.ref b1), .val (.double (FP.ddiv (FP.l2d so) (FP.i2d q))), .second, .val (.double (FP.i2d p1)), .second, .val (.double (FP.dadd (FP.i2d p1) (4607182418800017408 : UInt64))), .second] [(.double (FP.ddiv (FP.l2d so) (FP.i2d q)))]))
    refine own_up (fun _ k => XS.dload X3.here hx rfl (hb hby at_104) rfl k) ?_
    show own_Go p.tables e below _ (T3.setTop (mkF m 106 #[.val (.int p0), .val (.int p1), .val (.int p2), .val (.long p3), .second, .val (.int p4), .val (.int p5), .val (.int q), .val (.int p1), .val (.int r), .val (.long so), .second, .val (.ref b1), .val (.double (FP.ddiv (FP.l2d so) (FP.i2d q))), .second, .val (.double (FP.i2d p1)), .second, .val (.double (FP.dadd (FP.i2d p1) (4607182418800017408 : UInt64))), .second] [(.double (FP.dadd (FP.i2d p1) (4607182418800017408 : UInt64))), (.double (FP.ddiv (FP.l2d so) (FP.i2d q)))]))
    refine own_up (fun _ k => XS.dcmpS X3.here hx rfl (v := (cmpValue (FP.dcmp (FP.ddiv (FP.l2d so) (FP.i2d q)) (FP.dadd (FP.i2d p1) (4607182418800017408 : UInt64))) .g)) (hb hby at_106) rfl rfl k) ?_
    show own_Go p.tables e below _ (T3.setTop (mkF m 107 #[.val (.int p0), .val (.int p1), .val (.int p2), .val (.long p3), .second, .val (.int p4), .val (.int p5), .val (.int q), .val (.int p1), .val (.int r), .val (.long so), .second, .val (.ref b1), .val (.double (FP.ddiv (FP.l2d so) (FP.i2d q))), .second, .val (.double (FP.i2d p1)), .second, .val (.double (FP.dadd (FP.i2d p1) (4607182418800017408 : UInt64))), .second] [(.int (cmpValue (FP.dcmp (FP.ddiv (FP.l2d so) (FP.i2d q)) (FP.dadd (FP.i2d p1) (4607182418800017408 : UInt64))) .g))]))
    refine own_up (fun _ k => XS.ifNo X3.here hx rfl (hb hby at_107) rfl ((if0 _ _).trans (tlt (own_F_hi hq' hr' hs')).2.1) k) ?_
    show own_Go p.tables e below _ (T3.setTop (mkF m 110 #[.val (.int p0), .val (.int p1), .val (.int p2), .val (.long p3), .second, .val (.int p4), .val (.int p5), .val (.int q), .val (.int p1), .val (.int r), .val (.long so), .second, .val (.ref b1), .val (.double (FP.ddiv (FP.l2d so) (FP.i2d q))), .second, .val (.double (FP.i2d p1)), .second, .val (.double (FP.dadd (FP.i2d p1) (4607182418800017408 : UInt64))), .second] []))
    refine own_up (fun _ k => XS.iconst X3.here hx rfl (hb hby at_110) k) ?_
    show own_Go p.tables e below _ (T3.setTop (mkF m 111 #[.val (.int p0), .val (.int p1), .val (.int p2), .val (.long p3), .second, .val (.int p4), .val (.int p5), .val (.int q), .val (.int p1), .val (.int r), .val (.long so), .second, .val (.ref b1), .val (.double (FP.ddiv (FP.l2d so) (FP.i2d q))), .second, .val (.double (FP.i2d p1)), .second, .val (.double (FP.dadd (FP.i2d p1) (4607182418800017408 : UInt64))), .second] [(.int (1 : Int32))]))
    refine own_up (fun _ k => XS.goto X3.here hx rfl (pc0 := 111) (pc' := 115) rfl (hb hby at_111) (by decide) (by decide) k) ?_
    show own_Go p.tables e below _ (T3.setTop (mkF m 115 #[.val (.int p0), .val (.int p1), .val (.int p2), .val (.long p3), .second, .val (.int p4), .val (.int p5), .val (.int q), .val (.int p1), .val (.int r), .val (.long so), .second, .val (.ref b1), .val (.double (FP.ddiv (FP.l2d so) (FP.i2d q))), .second, .val (.double (FP.i2d p1)), .second, .val (.double (FP.dadd (FP.i2d p1) (4607182418800017408 : UInt64))), .second] [(.int (1 : Int32))]))
    obtain ⟨fs5, hr5, hrun5, hended5, hW5, hsame5⟩ := X3.leave (v := some (.int (1 : Int32))) (fun h => by rw [Bd.returns] at h; cases h)
    refine own_end ⟨_, _, ?_, hrun5, hended5, _, _, rfl, ?_, ⟨_, rfl⟩, hW5, hsame5.mono (by decide) (by decide)⟩
    · exact retN X3 hx (t := .boolean) Bd.returns (by simp) (hb hby at_115) hr5
    · show Qrm0 Z p0 p1 p2 p3 p4 p5 h0 n0 _ T3.heap _
      rw [e3]
      exact ⟨rfl, N3⟩
set_option maxRecDepth 65536 in
set_option maxHeartbeats 40000000 in
theorem comes_1 {Post : Tables → Env → Array Value → State → Outcome → State → Prop} (hpost : ∀ tb e args s v u, (limb_1_1.after args s (.returned v) u = true ∧ limb_1_2.after args s (.returned v) u = true ∧ True) → FrameEnd s (.returned v) u (Jvm.fieldLocs frame_1_writes args s ++ Jvm.arrayLocs frame_1_arrays args s ++ Jvm.staticLocs frame_1_statics s) 16 128 → Post tb e args s (.returned v) u) :
    ArmFor flags0 classFile x code maxLocals ret World_1 tables_1 room_1 Calls_1 rest_1 Pre_1 Post := by
  intro l hfl _ _ p e ha hc hk s m args below hf hA hF happ hP
  obtain ⟨hcalls, hrest, hpre⟩ := hP
  obtain ⟨-, -, -, hnamed, -, -, -, hat⟩ := (Spec.applies_iff hf).mp happ
  obtain ⟨hg, hn⟩ := and_e (Cond.before_iff.mp (show (Jvm.Cond.and given_1 narrow_1).before args s = true from hpre))
  obtain ⟨gA0, gB0⟩ := and_e hg
  obtain ⟨gA1, gB1⟩ := and_e gB0
  obtain ⟨gA2, gB2⟩ := and_e gB1
  obtain ⟨gA3, gB3⟩ := and_e gB2
  obtain ⟨gA4, gB4⟩ := and_e gB3
  obtain ⟨gA5, gB5⟩ := and_e gB4
  obtain ⟨w0, w1, w2, w3, w4, w5, rfl⟩ : ∃ w0 w1 w2 w3 w4 w5 : Value, args = #[w0, w1, w2, w3, w4, w5] := by
    have hs : args.size = 6 := by simpa [Cond.value, given_1] using gA0
    obtain ⟨L⟩ := args
    match L, hs with
    | [w0, w1, w2, w3, w4, w5], _ => exact ⟨w0, w1, w2, w3, w4, w5, rfl⟩
  have hw := fun d (hd : d ∈ tables_1) => atoms_spec (ws := Jvm.Cond.code x code maxLocals ret :: tables_1) hat d (List.mem_cons_of_mem _ hd)
  have hfit : Fit s := fun {y c} hc i hi => by
    obtain ⟨ha, rfl⟩ := Array.getElem?_eq_some_iff.mp hc
    have q := List.all_eq_true.mp ((Array.all_eq_true_iff_forall_mem.mp hF) _ (Array.getElem_mem ha)) i (List.mem_range.mpr hi)
    simpa [Array.getElem?_eq_getElem hi] using q
  obtain ⟨i0, ei0⟩ := is_v gA1
  obtain rfl : w0 = (.int i0) := Option.some.inj ei0
  obtain ⟨i1, ei1⟩ := is_v gA2
  obtain rfl : w1 = (.int i1) := Option.some.inj ei1
  obtain ⟨i2, ei2⟩ := is_v gA3
  obtain rfl : w2 = (.int i2) := Option.some.inj ei2
  obtain ⟨i3, ei3⟩ := isL_v gA4
  obtain rfl : w3 = (.long i3) := Option.some.inj ei3
  obtain ⟨i4, ei4⟩ := is_v gA5
  obtain rfl : w4 = (.int i4) := Option.some.inj ei4
  obtain ⟨i5, ei5⟩ := is_v gB5
  obtain rfl : w5 = (.int i5) := Option.some.inj ei5
  obtain ⟨n, o, h1, h2, h3, _, L, rfl, ⟨rfl, N⟩, hq⟩ := rm0 l s _ hw tables_1 i0 i1 i2 i3 i4 i5 s.heap s.heap.size (Nat.le_refl _) p e ha hc hk s m _ below hf ((Spec.applies_iff_loose hf).mp happ).1 ⟨rfl, State.Warmed39.refl s, rfl⟩ trivial
  refine ⟨n, _, h1, h2, h3, hpost _ _ _ _ _ _ ⟨Cond.after_iff.mpr rfl, Cond.after_iff.mpr (eq_i res_at (Term.int_eval (1)) rfl), trivial⟩ ⟨hq.1, hq.2.1, (hq.2.2.sift fun y hy => Or.inr (N y hy)).mono (by decide) (by decide)⟩⟩
theorem main_1_1 : Claimed_1_1 := comes_1 fun _ _ _ _ _ _ h hF => ⟨h.1, hF⟩
theorem main_1_2 : Claimed_1_2 := comes_1 fun _ _ _ _ _ _ h hF => ⟨h.2.1, hF⟩
end Jvm.Pilot.@@N@@
namespace Jvm.Pilot.@@N@@
open Jvm Jvm.ClassFile Sem Op Lib Jvm.Free Jvm.Stand Jvm.Pilot.@@N@@.Jvm.D
/-! MADE BY PROGRAM (witnessworld.py) out of the Statement's table words and the real class files: 9 classes; the members and pool entries that the words name. The judged class is class 1, her method 1. -/
namespace start1
open Jvm.ClassFile
def u (s : String) : CpInfo := .utf8 (stringToUtf16 s)
/-- a pool by its gaps: so many unusable entries, then the entry; so many at the end -/
def gap : Nat → List CpInfo → List CpInfo
  | 0, r => r
  | n + 1, r => .unusable :: gap n r
def poolList (es : List (Nat × CpInfo)) (last : Nat) : List CpInfo := es.foldr (fun e r => gap e.1 (e.2 :: r)) (gap last [])
def pool (es : List (Nat × CpInfo)) (last : Nat) : Array CpInfo := ⟨poolList es last⟩
def fileOf (pool : Array CpInfo) (this : Nat) (attrs : Array Attribute := #[]) (ms : Array MethodInfo := #[]) (fl : Nat := 33) (sup : Nat := 0) (ifs : Array Nat := #[]) (fds : Array FieldInfo := #[]) : ClassFile where
  minorVersion := 0
  majorVersion := 65
  constantPool := pool
  accessFlags := fl
  thisClass := this
  superClass := sup
  interfaces := ifs
  fields := fds
  methods := ms
  attributes := attrs
def plain (name : String) (sup : Option ClassId) : Class where
  name := name
  kind := .ordinary
  loader := none
  accessFlags := 33
  super := sup
  interfaces := #[]
  cf := none
  fields := #[]
  methods := #[]
  instanceTypes := #[]
  staticTypes := #[]
  resolved := #[]
  callSites := []
  init := .initialized
  statics := none
  mirror := none

def pool0 : Array CpInfo := pool [(5, u "<init>"), (0, u "()V"), (1, .class_ 10), (1, u "java/lang/Object")] 113

def k0c0 : Code := { maxStack := 0, maxLocals := 1, code := object_method_1_code, exceptionTable := #[], attributes := #[] }
def k0m0 : Method := { name := "<init>", desc := "()V", sig := { parameters := [], returnType := none }, accessFlags := 1, code := some k0c0 }
/-- java/lang/Object -/
def k0 : Class := { plain "java/lang/Object" none with
  accessFlags := 33
  interfaces := #[]
  cf := some (fileOf pool0 8 #[] #[{ accessFlags := 1, nameIndex := 5, descriptorIndex := 6, attributes := #[] }] 33 0 #[] #[])
  fields := #[]
  methods := #[k0m0]
  instanceTypes := #[]
  staticTypes := #[]
  resolved := Array.replicate 124 none
  statics := none }

def pool1 : Array CpInfo := pool [(2, .class_ 4), (1, u "java/lang/Object"), (0, u "<init>"), (0, u "()V"), (0, .integer 65535), (0, .integer 2147483647), (0, .class_ 10), (0, u "com/example/ranksieve/ranksieve/workload/BenchmarkResult"), (0, .methodref 9 12), (0, .nameAndType 5 13), (0, u "(IIJJDII)V"), (0, .methodref 9 15), (0, .nameAndType 16 17), (0, u "getSortedAccessesAverage"), (0, u "()D"), (0, .class_ 19), (0, u "com/example/ranksieve/ranksieve/workload/BenchmarkResultGetSortedAccessesAveragePinLaw"), (2, u "law"), (0, u "(IIIJII)Z")] 3

def k1m0 : Method := { name := "<init>", desc := "()V", sig := { parameters := [], returnType := none }, accessFlags := 1, code := none }
def k1c1 : Code := { maxStack := 12, maxLocals := 19, code := code, exceptionTable := #[], attributes := #[] }
def k1m1 : Method := { name := "law", desc := "(IIIJII)Z", sig := { parameters := [.int, .int, .int, .long, .int, .int], returnType := some .boolean }, accessFlags := 9, code := some k1c1 }
/-- com/example/ranksieve/ranksieve/workload/BenchmarkResultGetSortedAccessesAveragePinLaw -/
def k1 : Class := { plain "com/example/ranksieve/ranksieve/workload/BenchmarkResultGetSortedAccessesAveragePinLaw" (some 0) with
  accessFlags := 49
  interfaces := #[]
  cf := some (fileOf pool1 18 #[] #[{ accessFlags := 1, nameIndex := 5, descriptorIndex := 6, attributes := #[] }, { accessFlags := 9, nameIndex := 22, descriptorIndex := 23, attributes := #[] }] 49 2 #[] #[])
  fields := #[]
  methods := #[k1m0, k1m1]
  instanceTypes := #[]
  staticTypes := #[]
  resolved := Array.replicate 27 none
  statics := none }

def pool2 : Array CpInfo := pool [(3, .double 9221120237041090560), (1, .methodref 6 7), (0, .class_ 8), (0, .nameAndType 9 10), (0, u "com/example/ranksieve/ranksieve/workload/BenchmarkResult"), (0, u "<init>"), (0, u "(IIJJDIIDJ)V"), (0, .methodref 12 13), (0, .class_ 14), (0, .nameAndType 9 15), (0, u "java/lang/Object"), (0, u "()V"), (0, .fieldref 6 17), (0, .nameAndType 18 19), (0, u "_queries"), (0, u "I"), (0, .fieldref 6 21), (0, .nameAndType 22 19), (0, u "_exact"), (0, .fieldref 6 24), (0, .nameAndType 25 26), (0, u "_sortedAccesses"), (0, u "J"), (0, .fieldref 6 28), (0, .nameAndType 29 26), (0, u "_randomAccesses"), (0, .fieldref 6 31), (0, .nameAndType 32 33), (0, u "_probeTime"), (0, u "D"), (0, .fieldref 6 35), (0, .nameAndType 36 19), (0, u "_maxOutstandingSorted"), (0, .fieldref 6 38), (0, .nameAndType 39 19), (0, u "_maxOutstandingRandom"), (0, .fieldref 6 41), (0, .nameAndType 42 33), (0, u "_sequentialProbeTime"), (0, .fieldref 6 44), (0, .nameAndType 45 26), (0, u "_maxConcurrentAccesses"), (22, u "()D"), (0, u "(IIJJDII)V"), (8, u "getSortedAccessesAverage")] 22

def k2c0 : Code := { maxStack := 15, maxLocals := 11, code := prog_77_method_1_code, exceptionTable := #[], attributes := #[] }
def k2m0 : Method := { name := "<init>", desc := "(IIJJDII)V", sig := { parameters := [.int, .int, .long, .long, .double, .int, .int], returnType := none }, accessFlags := 1, code := some k2c0 }
def k2c1 : Code := { maxStack := 3, maxLocals := 15, code := prog_77_method_2_code, exceptionTable := #[], attributes := #[] }
def k2m1 : Method := { name := "<init>", desc := "(IIJJDIIDJ)V", sig := { parameters := [.int, .int, .long, .long, .double, .int, .int, .double, .long], returnType := none }, accessFlags := 2, code := some k2c1 }
def k2c2 : Code := { maxStack := 4, maxLocals := 1, code := prog_77_method_6_code, exceptionTable := #[], attributes := #[] }
def k2m2 : Method := { name := "getSortedAccessesAverage", desc := "()D", sig := { parameters := [], returnType := some .double }, accessFlags := 1, code := some k2c2 }
/-- com/example/ranksieve/ranksieve/workload/BenchmarkResult -/
def k2 : Class := { plain "com/example/ranksieve/ranksieve/workload/BenchmarkResult" (some 0) with
  accessFlags := 49
  interfaces := #[]
  cf := some (fileOf pool2 6 #[] #[{ accessFlags := 1, nameIndex := 9, descriptorIndex := 69, attributes := #[] }, { accessFlags := 2, nameIndex := 9, descriptorIndex := 10, attributes := #[] }, { accessFlags := 1, nameIndex := 78, descriptorIndex := 68, attributes := #[] }] 49 12 #[] #[{ accessFlags := 18, nameIndex := 18, descriptorIndex := 19, attributes := #[] }, { accessFlags := 18, nameIndex := 22, descriptorIndex := 19, attributes := #[] }, { accessFlags := 18, nameIndex := 25, descriptorIndex := 26, attributes := #[] }, { accessFlags := 18, nameIndex := 29, descriptorIndex := 26, attributes := #[] }, { accessFlags := 18, nameIndex := 32, descriptorIndex := 33, attributes := #[] }, { accessFlags := 18, nameIndex := 36, descriptorIndex := 19, attributes := #[] }, { accessFlags := 18, nameIndex := 39, descriptorIndex := 19, attributes := #[] }, { accessFlags := 18, nameIndex := 42, descriptorIndex := 33, attributes := #[] }, { accessFlags := 18, nameIndex := 45, descriptorIndex := 26, attributes := #[] }])
  fields := #[{ name := "_queries", type := .int, accessFlags := 18, slot := 0, constantValue := 0 }, { name := "_exact", type := .int, accessFlags := 18, slot := 1, constantValue := 0 }, { name := "_sortedAccesses", type := .long, accessFlags := 18, slot := 2, constantValue := 0 }, { name := "_randomAccesses", type := .long, accessFlags := 18, slot := 3, constantValue := 0 }, { name := "_probeTime", type := .double, accessFlags := 18, slot := 4, constantValue := 0 }, { name := "_maxOutstandingSorted", type := .int, accessFlags := 18, slot := 5, constantValue := 0 }, { name := "_maxOutstandingRandom", type := .int, accessFlags := 18, slot := 6, constantValue := 0 }, { name := "_sequentialProbeTime", type := .double, accessFlags := 18, slot := 7, constantValue := 0 }, { name := "_maxConcurrentAccesses", type := .long, accessFlags := 18, slot := 8, constantValue := 0 }]
  methods := #[k2m0, k2m1, k2m2]
  instanceTypes := #[.int, .int, .long, .long, .double, .int, .int, .double, .long]
  staticTypes := #[]
  resolved := Array.replicate 101 none
  statics := none }

def pool3 : Array CpInfo := pool [(1, u "java/lang/Cloneable"), (0, .class_ 1), (0, u "java/lang/Object"), (0, .class_ 3)] 3

/-- java/lang/Cloneable -/
def k3 : Class := { plain "java/lang/Cloneable" (some 0) with
  accessFlags := 1537
  interfaces := #[]
  cf := some (fileOf pool3 2 #[] #[] 1537 4 #[] #[])
  fields := #[]
  methods := #[]
  instanceTypes := #[]
  staticTypes := #[]
  resolved := Array.replicate 8 none
  statics := none }

def pool4 : Array CpInfo := pool [(1, u "java/io/Serializable"), (0, .class_ 1), (0, u "java/lang/Object"), (0, .class_ 3)] 3

/-- java/io/Serializable -/
def k4 : Class := { plain "java/io/Serializable" (some 0) with
  accessFlags := 1537
  interfaces := #[]
  cf := some (fileOf pool4 2 #[] #[] 1537 4 #[] #[])
  fields := #[]
  methods := #[]
  instanceTypes := #[]
  staticTypes := #[]
  resolved := Array.replicate 8 none
  statics := none }

/-- the primitive byte -/
def k5 : Class := { plain "byte" none with kind := .primitive 'B', accessFlags := 0x411 }
/-- [B -/
def k6 : Class := { plain "[B" (some 0) with kind := .array 5 .byte, interfaces := #[3, 4], accessFlags := 1041 }

/-- the primitive int -/
def k7 : Class := { plain "int" none with kind := .primitive 'I', accessFlags := 0x411 }
/-- [I -/
def k8 : Class := { plain "[I" (some 0) with kind := .array 7 .int, interfaces := #[3, 4], accessFlags := 1041 }

def heap : Heap := #[]
def classes : Array Class := #[k0, k1, k2, k3, k4, k5, k6, k7, k8]
def interned : List (Array UInt16 × Addr) := []
def slotsUsed : Nat := 0
def theMethod : MethodId := ⟨1, 1⟩
def args0 : Array Value := #[.int 5, .int 7, .int 9, .long 3, .int 1, .int 2]
def aboutOver (below : List Frame) : State where
  vm := { classes := classes, interned := interned.toArray }
  heap := heap
  slotsUsed := slotsUsed
  threads := #[{ frames := .invoking theMethod args0 :: below }]
def below0 : List Frame := [.native { method := ⟨0, 0⟩, args := #[] }]
def about1 : State := aboutOver below0
def p0 : Program := .bare "" "" ""
def e0 : Env := launch0.env 0 0 0
theorem w_frames : about1.frames = Frame.invoking theMethod args0 :: below0 := rfl
set_option maxRecDepth 65536 in
theorem w_args : argsFit about1.vm theMethod args0 = true := by decide +kernel
set_option maxRecDepth 65536 in
theorem w_heap : heapFits about1 = true := by decide +kernel
set_option maxRecDepth 65536 in
theorem w_runnable : about1.curStatus? = some .runnable := by decide +kernel
set_option maxRecDepth 65536 in
theorem w_alone : about1.alone = true := by decide +kernel
set_option maxRecDepth 65536 in
theorem w_named : about1.methodNamed? x = some theMethod := by decide +kernel
set_option maxRecDepth 65536 in
theorem w_hears : about1.hears theMethod below0 = true := by decide +kernel
set_option maxRecDepth 65536 in
theorem w_ripe : about1.ripe theMethod args0 below0 = true := by decide +kernel
theorem w_running : about1.status = .running := rfl
set_option maxRecDepth 65536 in
theorem w_room : about1.hasRoom e0.platform room_1 = true :=
  launch0.hasRoom_least _ room_1 (by decide +kernel) (by decide +kernel) (by decide +kernel) (by decide +kernel) (by decide +kernel) (by decide +kernel)
theorem allAtoms_all (ts : List Jvm.Cond) (a : Array Jvm.Value) (st : Jvm.State) : (allAtoms ts).before a st = ts.all (fun c => c.before a st) := by
  induction ts with
  | nil => rfl
  | cons c t ih =>
    show (Jvm.Cond.and c (allAtoms t)).before a st = _
    rw [Jvm.Cond.before_and, ih, List.all_cons]
def words1 : List Jvm.Cond := Jvm.Cond.code x code maxLocals ret :: tables_1
/-- a 'code' word, met by the world's own term for the bytes: nothing is compared byte by byte -/
theorem code_word {y : MethodName} {bytes : ByteArray} {mx : Nat} {rt : Option FieldType} {a : Array Value} {s : State} {m : MethodId} {meth : Method} {c : Code} (h1 : s.methodNamed? y = some m) (h2 : s.vm.method? m = some meth) (h3 : meth.code = some c) (h4 : c.code = bytes)
    (h5 : (c.maxLocals == mx && c.exceptionTable.isEmpty && decide (c.maxStack ≤ mostOperands) && decide (meth.sig.returnType = rt) && !meth.locks && decide (parseMethodDescriptor y.desc = some meth.sig)) = true) : (Jvm.Cond.code y bytes mx rt).before a s = true := by
  simp only [Bool.and_eq_true, beq_iff_eq, Bool.not_eq_true', decide_eq_true_eq] at h5
  obtain ⟨⟨⟨⟨⟨g1, g2⟩, g3⟩, g4⟩, g5⟩, g6⟩ := h5
  simp [Cond.before, Cond.holds, Cond.value, h1, h2, h3, h4, g1, g2, g3, g4, g5, g6]
def isCode : Jvm.Cond → Bool
  | .code _ _ _ _ => true
  | _ => false
theorem all_split {L : List Jvm.Cond} {P : Jvm.Cond → Bool} (h1 : L.all (fun c => isCode c || P c) = true) (h2 : ∀ c ∈ L.filter isCode, P c = true) : L.all P = true := by
  refine List.all_eq_true.mpr fun c hc => ?_
  have h := List.all_eq_true.mp h1 c hc
  rcases Bool.eq_false_or_eq_true (isCode c) with hi | hi
  · exact h2 c (List.mem_filter.mpr ⟨hc, hi⟩)
  · simpa [hi] using h
set_option maxRecDepth 65536 in
theorem w_c0 : (Jvm.Cond.code x code maxLocals ret).before args0 about1 = true := code_word (m := ⟨1, 1⟩) (meth := k1m1) (c := k1c1) (by decide +kernel) rfl rfl rfl (by decide +kernel)
set_option maxRecDepth 65536 in
theorem w_c1 : (Jvm.Cond.code ({ cls := "com/example/ranksieve/ranksieve/workload/BenchmarkResult", name := "<init>", desc := "(IIJJDII)V" } : Jvm.MethodName) prog_77_method_1_code (11 : Nat) (Option.none : Option Jvm.ClassFile.FieldType)).before args0 about1 = true := code_word (m := ⟨2, 0⟩) (meth := k2m0) (c := k2c0) (by decide +kernel) rfl rfl rfl (by decide +kernel)
set_option maxRecDepth 65536 in
theorem w_c2 : (Jvm.Cond.code ({ cls := "com/example/ranksieve/ranksieve/workload/BenchmarkResult", name := "<init>", desc := "(IIJJDIIDJ)V" } : Jvm.MethodName) prog_77_method_2_code (15 : Nat) (Option.none : Option Jvm.ClassFile.FieldType)).before args0 about1 = true := code_word (m := ⟨2, 1⟩) (meth := k2m1) (c := k2c1) (by decide +kernel) rfl rfl rfl (by decide +kernel)
set_option maxRecDepth 65536 in
theorem w_c3 : (Jvm.Cond.code ({ cls := "java/lang/Object", name := "<init>", desc := "()V" } : Jvm.MethodName) object_method_1_code (1 : Nat) (Option.none : Option Jvm.ClassFile.FieldType)).before args0 about1 = true := code_word (m := ⟨0, 0⟩) (meth := k0m0) (c := k0c0) (by decide +kernel) rfl rfl rfl (by decide +kernel)
set_option maxRecDepth 65536 in
theorem w_c4 : (Jvm.Cond.code ({ cls := "com/example/ranksieve/ranksieve/workload/BenchmarkResult", name := "getSortedAccessesAverage", desc := "()D" } : Jvm.MethodName) prog_77_method_6_code (1 : Nat) (Option.some Jvm.ClassFile.FieldType.double)).before args0 about1 = true := code_word (m := ⟨2, 2⟩) (meth := k2m2) (c := k2c2) (by decide +kernel) rfl rfl rfl (by decide +kernel)
def codes1 : List Jvm.Cond := [Jvm.Cond.code x code maxLocals ret, Jvm.Cond.code ({ cls := "com/example/ranksieve/ranksieve/workload/BenchmarkResult", name := "<init>", desc := "(IIJJDII)V" } : Jvm.MethodName) prog_77_method_1_code (11 : Nat) (Option.none : Option Jvm.ClassFile.FieldType), Jvm.Cond.code ({ cls := "com/example/ranksieve/ranksieve/workload/BenchmarkResult", name := "<init>", desc := "(IIJJDIIDJ)V" } : Jvm.MethodName) prog_77_method_2_code (15 : Nat) (Option.none : Option Jvm.ClassFile.FieldType), Jvm.Cond.code ({ cls := "java/lang/Object", name := "<init>", desc := "()V" } : Jvm.MethodName) object_method_1_code (1 : Nat) (Option.none : Option Jvm.ClassFile.FieldType), Jvm.Cond.code ({ cls := "com/example/ranksieve/ranksieve/workload/BenchmarkResult", name := "getSortedAccessesAverage", desc := "()D" } : Jvm.MethodName) prog_77_method_6_code (1 : Nat) (Option.some Jvm.ClassFile.FieldType.double)]
set_option maxRecDepth 65536 in
theorem codes_eq : words1.filter isCode = codes1 := rfl
theorem w_codes : ∀ c ∈ words1.filter isCode, c.before args0 about1 = true := by
  rw [codes_eq]
  intro c hc
  simp only [codes1, List.mem_cons, List.not_mem_nil, or_false] at hc
  rcases hc with rfl | rfl | rfl | rfl | rfl
  · exact w_c0
  · exact w_c1
  · exact w_c2
  · exact w_c3
  · exact w_c4
set_option maxRecDepth 65536 in
theorem w_t1 : (words1.take 24).all (fun c => isCode c || c.before args0 about1) = true := by decide +kernel
set_option maxRecDepth 65536 in
theorem w_t2 : (words1.drop 24).all (fun c => isCode c || c.before args0 about1) = true := by decide +kernel
theorem w_tables : (allAtoms (Jvm.Cond.code x code maxLocals ret :: tables_1)).before args0 about1 = true := by
  rw [allAtoms_all]
  show words1.all (fun c => c.before args0 about1) = true
  refine all_split ?_ w_codes
  rw [← List.take_append_drop 24 words1, List.all_append, w_t1, w_t2]
  rfl
set_option maxRecDepth 65536 in
theorem w_case : (Jvm.Cond.and given_1 narrow_1).before args0 about1 = true := by decide +kernel
theorem w_applies : (headSpec (Jvm.Cond.code x code maxLocals ret :: tables_1) room_1).applies x e0.platform about1 = true :=
  (Spec.applies_iff w_frames).mpr ⟨w_running, w_runnable, w_alone, w_named, w_hears, w_ripe, w_room, w_tables⟩
theorem atStart : AtStart classFile x code maxLocals ret World_1 tables_1 room_1 Calls_1 rest_1 Pre_1 launch0 p0 e0 about1 theMethod args0 below0 :=
  ⟨lists_1, trivial, launch0.admits_env _ _ _, launch0.least_env, fairChoices_fair.cas, fairChoices_fair.clock, w_frames, w_args, w_heap, w_applies, trivial, trivial, w_case⟩
end start1
theorem witness_1 : WitnessClaimed_1 := ⟨start1.p0, start1.e0, start1.about1, start1.theMethod, start1.args0, start1.below0, start1.atStart⟩
end Jvm.Pilot.@@N@@
