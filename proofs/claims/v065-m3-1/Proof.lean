import JvmDerived
import JvmDerived.Pilot.@@N@@Statement
import JvmDerived.Pilot.@@N@@Code
set_option linter.unusedVariables false
set_option linter.unusedSimpArgs false
namespace Jvm.Pilot.@@N@@
open Jvm Jvm.ClassFile Sem Op Lib Jvm.Free Jvm.Free.Fl Jvm.Stand Jvm.LawKit Jvm.RoadKit Bundle Jvm.Pilot.@@N@@.Jvm.D
def own_Go (tb : Tables) (e : Env) (below : List Frame) (P : State → Outcome → Prop) (S : State) : Prop := ∃ t o, Steps tb e below S t ∧ P t o
section OwnGo
variable {tb : Tables} {e : Env} {below : List Frame} {P : State → Outcome → Prop} {S S' : State}
theorem own_up (st : ∀ t, Steps tb e below S' t → Steps tb e below S t) (h : own_Go tb e below P S') : own_Go tb e below P S := by
  obtain ⟨t, o, h1, h2⟩ := h
  exact ⟨t, o, st t h1, h2⟩
theorem own_start (st : ∀ t, Steps tb e below S' t → Steps tb e below S t) (h : own_Go tb e below P S') : ∃ t o, Steps tb e below S t ∧ P t o := own_up st h
theorem own_end (h : ∃ t o, Steps tb e below S t ∧ P t o) : own_Go tb e below P S := h
end OwnGo
theorem own_eqi {args : Array Value} {first s : State} {o : Option Outcome} {idx : List Nat} {a : Term} {n : Int32} (h : (Jvm.Cond.eq a (Term.int n)).value args first o s idx = some true) : a.eval args first o idx s = some (.int n) := by
  obtain ⟨x, y, h1, h2, k1, k2⟩ := cmp_v (Or.inl h)
  have hb : (Term.int n).eval args first o idx s = some (.int n) := Term.int_eval n
  obtain rfl : y = .int n := Option.some.inj (h2.symm.trans hb)
  cases x with
  | int x =>
    have q := gotT (Cond.eq_ints h1 hb) h
    rw [h1, q]
  | _ => simp [Kin] at k1 k2
theorem own_infmul : FP.dmul (9214871658872686752 : UInt64) (4621819117588971520 : UInt64) = 9218868437227405312 := by decide +kernel
theorem own_infnn : NoNaN64 (FP.dmul (9214871658872686752 : UInt64) (4621819117588971520 : UInt64)) := by rw [own_infmul]; unfold NoNaN64; decide +kernel
theorem own_neginf : FP.dneg (9218868437227405312 : UInt64) = 18442240474082181120 := by decide +kernel
def own_K (x : UInt64) : Prop := Fin64 x ∨ x = 9218868437227405312 ∨ x = 18442240474082181120
theorem own_pickK {s v : Int32} {x : UInt64} (h : (if s = 2 then (9218868437227405312 : UInt64) else if s = 3 then FP.dneg (9218868437227405312 : UInt64) else FP.i2d v) = x) : own_K x := by
  subst h
  by_cases h2 : s = 2
  · rw [if_pos h2]; exact Or.inr (Or.inl rfl)
  · rw [if_neg h2]
    by_cases h3 : s = 3
    · rw [if_pos h3, own_neginf]; exact Or.inr (Or.inr rfl)
    · rw [if_neg h3]; exact Or.inl (i2d_fin v)
theorem own_infNN : NoNaN64 (9218868437227405312 : UInt64) := by unfold NoNaN64; decide +kernel
theorem own_ninfNN : NoNaN64 (18442240474082181120 : UInt64) := by unfold NoNaN64; decide +kernel
theorem own_K.nn {x : UInt64} (h : own_K x) : NoNaN64 x := by
  rcases h with h | rfl | rfl
  · exact h.noNaN
  · exact own_infNN
  · exact own_ninfNN
theorem own_ii : FP.dsub (9218868437227405312 : UInt64) 18442240474082181120 = 9218868437227405312 := by decide +kernel
theorem own_nii : FP.dsub (18442240474082181120 : UInt64) 9218868437227405312 = 18442240474082181120 := by decide +kernel
theorem own_nnx {x y : UInt64} (hx : own_K x) (hy : own_K y) (h : x = y → Fin64 y) : NoNaN64 (FP.dsub x y) := by
  rcases hy with hy | hy | hy
  · exact dsub_out hx.nn hy
  · rcases hx with hx | hx | hx
    · exact dsub_out' hx (hy ▸ own_infNN)
    · have := h (hx.trans hy.symm); subst hy; exact absurd this (by unfold Fin64; decide +kernel)
    · subst hx hy; rw [own_nii]; exact own_ninfNN
  · rcases hx with hx | hx | hx
    · exact dsub_out' hx (hy ▸ own_ninfNN)
    · subst hx hy; rw [own_ii]; exact own_infNN
    · have := h (hx.trans hy.symm); subst hy; exact absurd this (by unfold Fin64; decide +kernel)
theorem own_nn {x y : UInt64} (hx : own_K x) (hy : own_K y) (h : ¬ cmpValue (FP.dcmp y x) .l = 0) : NoNaN64 (FP.dsub x y) :=
  own_nnx hx hy fun e => absurd (by subst e; exact dcmpV_self hx.nn .l) h
theorem own_nn' {x y : UInt64} (hx : own_K x) (hy : own_K y) (h : ¬ cmpValue (FP.dcmp y x) .l = 0) : NoNaN64 (FP.dsub y x) :=
  own_nnx hy hx fun e => absurd (by subst e; exact dcmpV_self hx.nn .l) h
theorem own_val_inf : FP.Core.val64 (9218868437227405312 : UInt64) = .inf false := by decide +kernel
theorem own_val_ninf : FP.Core.val64 (18442240474082181120 : UInt64) = .inf true := by decide +kernel
theorem own_inf_sub {x : UInt64} (h : Fin64 x) : FP.dsub (9218868437227405312 : UInt64) x = 9218868437227405312 := by
  obtain ⟨s, c, q, e⟩ := fin64_core.mp h
  refine (FP.Core.val64_inj (by rw [own_val_inf]; exact FP.Core.Datum.noConfusion) ?_).symm
  rw [FP.Core.val64_dsub, own_val_inf, e]; rfl
theorem own_ninf_sub {x : UInt64} (h : Fin64 x) : FP.dsub (18442240474082181120 : UInt64) x = 18442240474082181120 := by
  obtain ⟨s, c, q, e⟩ := fin64_core.mp h
  refine (FP.Core.val64_inj (by rw [own_val_ninf]; exact FP.Core.Datum.noConfusion) ?_).symm
  rw [FP.Core.val64_dsub, own_val_ninf, e]; rfl
theorem own_sub_inf {x : UInt64} (h : Fin64 x) : FP.dsub x (9218868437227405312 : UInt64) = 18442240474082181120 := by
  obtain ⟨s, c, q, e⟩ := fin64_core.mp h
  refine (FP.Core.val64_inj (by rw [own_val_ninf]; exact FP.Core.Datum.noConfusion) ?_).symm
  rw [FP.Core.val64_dsub, own_val_inf, own_val_ninf, e]; rfl
theorem own_sub_ninf {x : UInt64} (h : Fin64 x) : FP.dsub x (18442240474082181120 : UInt64) = 9218868437227405312 := by
  obtain ⟨s, c, q, e⟩ := fin64_core.mp h
  refine (FP.Core.val64_inj (by rw [own_val_inf]; exact FP.Core.Datum.noConfusion) ?_).symm
  rw [FP.Core.val64_dsub, own_val_inf, own_val_ninf, e]; rfl
theorem own_cmp0 {x y : UInt64} (h : cmpValue (FP.dcmp x y) .l = 0) : FP.dcmp x y = some .eq := by
  rcases hh : FP.dcmp x y with _ | (_ | _ | _) <;> rw [hh] at h <;> first | rfl | exact absurd h (by decide)
theorem own_cmpsym {x y : UInt64} (hx : own_K x) (hy : own_K y) (h : cmpValue (FP.dcmp x y) .l = 0) : cmpValue (FP.dcmp y x) .l = 0 := by
  have e := own_cmp0 h
  have nx := val64_no.mp hx.nn
  have ny := val64_no.mp hy.nn
  have e1 : FP.dcmp x y = _ := FP.Core.dcmp_zval nx ny
  have e2 : FP.dcmp y x = _ := FP.Core.dcmp_zval ny nx
  rw [e1] at e
  have q := (FP.Core.compare_eq_iff _ _).mp (Option.some.inj e)
  rw [e2, q, (FP.Core.compare_eq_iff _ _).mpr rfl]
  rfl
theorem own_zero {mn a : Addr} {inc cand r : UInt64} (hi : own_K inc) (hc : own_K cand) (h : cmpValue (FP.dcmp inc cand) .l = 0)
    (hr : (if cmpValue (FP.dcmp cand inc) .l = 0 then (0 : UInt64) else if a = mn then FP.dsub inc cand else FP.dsub cand inc) = r) : cmpValue (FP.dcmp r (0 : UInt64)) .l = 0 := by
  rw [if_pos (own_cmpsym hi hc h)] at hr
  subst hr
  decide +kernel
theorem own_b53 (x : Int32) : Jvm.RoadKit.B53 x.toInt64 := by
  unfold Jvm.RoadKit.B53
  rw [Int32.toInt_toInt64]
  have := rng32 x
  omega
theorem own_cmp (x y : Int32) (o : CmpOp) : cmpValue (FP.dcmp (FP.i2d x) (FP.i2d y)) o = lcmpW x.toInt64 y.toInt64 := by
  rw [i2d_w, i2d_w]
  exact dcmpV_w (own_b53 x) (own_b53 y) o
theorem own_dsub (x y : Int32) : FP.dsub (FP.i2d x) (FP.i2d y) = FP.l2d (x.toInt64 - y.toInt64) := by
  rw [i2d_w, i2d_w]
  exact dsub_w (own_b53 x) (own_b53 y)
theorem own_self (x : Int64) : cmpValue (FP.dcmp (FP.l2d x) (FP.l2d x)) .l = 0 := dcmpV_self (l2d_fin x).noNaN .l
theorem own_pick {s v : Int32} {t p k : Int32} {x : UInt64} (hs : s = t) (ht : t < 2) (h : (if s = 2 then (9218868437227405312 : UInt64) else if s = 3 then FP.dneg (9218868437227405312 : UInt64) else FP.i2d v) = x) : x = FP.i2d v := by
  subst hs
  rw [if_neg (by rintro rfl; exact absurd ht (by decide)), if_neg (by rintro rfl; exact absurd ht (by decide))] at h
  exact h.symm
theorem own_fin_max {mn mx : Addr} (hmm : ¬ mx = mn) (x y : Int32) {t0 u0 sa sb : Int32} {inc cand r : UInt64} (hsa : t0 = sa) (hsb : u0 = sb)
    (hinc : (if sa = 2 then (9218868437227405312 : UInt64) else if sa = 3 then FP.dneg (9218868437227405312 : UInt64) else FP.i2d x) = inc)
    (hcand : (if sb = 2 then (9218868437227405312 : UInt64) else if sb = 3 then FP.dneg (9218868437227405312 : UInt64) else FP.i2d y) = cand) (h1 : sa < 2) (h2 : sb < 2)
    (hr : (if cmpValue (FP.dcmp cand inc) .l = 0 then (0 : UInt64) else if mx = mn then FP.dsub inc cand else FP.dsub cand inc) = r) : cmpValue (FP.dcmp r (FP.l2d (y.toInt64 - x.toInt64))) .l = 0 := by
  have e1 := own_pick (p := 0) (k := 0) rfl h1 hinc
  have e2 := own_pick (p := 0) (k := 0) rfl h2 hcand
  subst e1 e2 hr
  by_cases q : cmpValue (FP.dcmp (FP.i2d y) (FP.i2d x)) .l = 0
  · rw [if_pos q]
    rw [own_cmp] at q
    have e := (lw_eq _ _).mp q
    rw [e, show x.toInt64 - x.toInt64 = 0 from Int64.sub_self _]
    decide +kernel
  · rw [if_neg q, if_neg hmm, own_dsub]
    exact own_self _
theorem own_fin_min {mn : Addr} (_h : mn = mn) (x y : Int32) {t0 u0 sa sb : Int32} {inc cand r : UInt64} (hsa : t0 = sa) (hsb : u0 = sb)
    (hinc : (if sa = 2 then (9218868437227405312 : UInt64) else if sa = 3 then FP.dneg (9218868437227405312 : UInt64) else FP.i2d x) = inc)
    (hcand : (if sb = 2 then (9218868437227405312 : UInt64) else if sb = 3 then FP.dneg (9218868437227405312 : UInt64) else FP.i2d y) = cand) (h1 : sa < 2) (h2 : sb < 2)
    (hr : (if cmpValue (FP.dcmp cand inc) .l = 0 then (0 : UInt64) else if mn = mn then FP.dsub inc cand else FP.dsub cand inc) = r) : cmpValue (FP.dcmp r (FP.l2d (x.toInt64 - y.toInt64))) .l = 0 := by
  have e1 := own_pick (p := 0) (k := 0) rfl h1 hinc
  have e2 := own_pick (p := 0) (k := 0) rfl h2 hcand
  subst e1 e2 hr
  by_cases q : cmpValue (FP.dcmp (FP.i2d y) (FP.i2d x)) .l = 0
  · rw [if_pos q]
    rw [own_cmp] at q
    have e := (lw_eq _ _).mp q
    rw [e, show x.toInt64 - x.toInt64 = 0 from Int64.sub_self _]
    decide +kernel
  · rw [if_neg q, if_pos rfl, own_dsub]
    exact own_self _
def own_I (x : UInt64) : Prop := x = 9218868437227405312 ∨ x = 18442240474082181120
theorem own_and3 (s : Int32) : ¬ (s &&& 3) < 2 → (s &&& 3) = 2 ∨ (s &&& 3) = 3 := by
  intro h
  have h1 := c_mask s 3 2 (by decide) (by decide)
  rw [Int32.lt_iff_toInt_lt] at h
  have h2 : (2 : Int32).toInt = 2 := by decide
  have h3 : (3 : Int32).toInt = 3 := by decide
  rw [h2] at h
  have h4 : (s &&& 3).toInt = 2 ∨ (s &&& 3).toInt = 3 := by omega
  rcases h4 with h4 | h4
  · exact Or.inl (Int32.toInt_inj.mp (h4.trans h2.symm))
  · exact Or.inr (Int32.toInt_inj.mp (h4.trans h3.symm))
theorem own_pickI {s t v : Int32} {x : UInt64} (hs : (s &&& 3) = t) (ht : ¬ t < 2) (h : (if t = 2 then (9218868437227405312 : UInt64) else if t = 3 then FP.dneg (9218868437227405312 : UInt64) else FP.i2d v) = x) : own_I x := by
  subst hs
  rcases own_and3 s ht with e | e
  · rw [if_pos e] at h; exact Or.inl h.symm
  · rw [if_neg (by rw [e]; decide), if_pos e, own_neginf] at h; exact Or.inr h.symm
theorem own_someinf {s1 s2 sa sb x y : Int32} {inc cand : UInt64} (hsa : (s1 &&& 3) = sa) (hsb : (s2 &&& 3) = sb)
    (hinc : (if sa = 2 then (9218868437227405312 : UInt64) else if sa = 3 then FP.dneg (9218868437227405312 : UInt64) else FP.i2d x) = inc)
    (hcand : (if sb = 2 then (9218868437227405312 : UInt64) else if sb = 3 then FP.dneg (9218868437227405312 : UInt64) else FP.i2d y) = cand) (h : ¬ sa < 2 ∨ ¬ sb < 2) : own_I inc ∨ own_I cand := by
  rcases h with h | h
  · exact Or.inl (own_pickI hsa h hinc)
  · exact Or.inr (own_pickI hsb h hcand)
/-- the whole table of the infinite cases: 'hi - lo' and 'lo - hi', by the comparison -/
theorem own_tab {x y : UInt64} (hx : own_K x) (hy : own_K y) (hI : own_I x ∨ own_I y) (hne : ¬ cmpValue (FP.dcmp x y) .l = 0) :
    (0 < cmpValue (FP.dcmp y x) .l ∧ ¬ cmpValue (FP.dcmp y x) .g < 0 ∧ FP.dsub y x = 9218868437227405312 ∧ FP.dsub x y = 18442240474082181120) ∨
    (¬ 0 < cmpValue (FP.dcmp y x) .l ∧ cmpValue (FP.dcmp y x) .g < 0 ∧ FP.dsub y x = 18442240474082181120 ∧ FP.dsub x y = 9218868437227405312) := by
  rcases hx with hx | rfl | rfl
  · rcases hI with hI | rfl | rfl
    · rcases hI with rfl | rfl <;> exact absurd hx (by unfold Fin64; decide +kernel)
    · left
      rw [dcmp_pinf' hx, dcmp_pinf' hx, own_inf_sub hx, own_sub_inf hx]
      decide
    · right
      rw [dcmp_ninf' hx, dcmp_ninf' hx, own_ninf_sub hx, own_sub_ninf hx]
      decide
  · rcases hy with hy | rfl | rfl
    · right
      rw [dcmp_pinf hy, dcmp_pinf hy, own_inf_sub hy, own_sub_inf hy]
      decide
    · exact absurd (dcmpV_self own_infNN .l) hne
    · right
      rw [own_ii, own_nii]
      decide +kernel
  · rcases hy with hy | rfl | rfl
    · left
      rw [dcmp_ninf hy, dcmp_ninf hy, own_ninf_sub hy, own_sub_ninf hy]
      decide
    · left
      rw [own_ii, own_nii]
      decide +kernel
    · exact absurd (dcmpV_self own_ninfNN .l) hne
theorem own_res {mn a : Addr} {inc cand r : UInt64} (hi : own_K inc) (hc : own_K cand) (hne : ¬ cmpValue (FP.dcmp inc cand) .l = 0)
    (hr : (if cmpValue (FP.dcmp cand inc) .l = 0 then (0 : UInt64) else if a = mn then FP.dsub inc cand else FP.dsub cand inc) = r) : r = if a = mn then FP.dsub inc cand else FP.dsub cand inc := by
  rw [if_neg (fun q => hne (own_cmpsym hc hi q))] at hr
  exact hr.symm
theorem own_infself : cmpValue (FP.dcmp (9218868437227405312 : UInt64) (9218868437227405312 : UInt64)) .l = 0 := by decide +kernel
theorem own_ninfself : cmpValue (FP.dcmp (18442240474082181120 : UInt64) (FP.dneg (9218868437227405312 : UInt64))) .l = 0 := by decide +kernel
theorem own_max_hi {mn mx : Addr} {inc cand r : UInt64} {v : Int32} (hi : own_K inc) (hc : own_K cand) (hI : own_I inc ∨ own_I cand) (hne : ¬ cmpValue (FP.dcmp inc cand) .l = 0) (hv : v = if (0 : Int32) < cmpValue (FP.dcmp cand inc) .l then (1 : Int32) else (0 : Int32)) (h : ¬ v = 0) (hmm : ¬ mx = mn)
    (hr : (if cmpValue (FP.dcmp cand inc) .l = 0 then (0 : UInt64) else if mx = mn then FP.dsub inc cand else FP.dsub cand inc) = r) : cmpValue (FP.dcmp r (9218868437227405312 : UInt64)) .l = 0 := by
  have e := own_res hi hc hne hr
  rw [if_neg hmm] at e
  rcases own_tab hi hc hI hne with ⟨t1, t2, t3, t4⟩ | ⟨t1, t2, t3, t4⟩
  · rw [e, t3]; exact own_infself
  · rw [if_neg t1] at hv; exact absurd hv h
theorem own_max_lo {mn mx : Addr} {inc cand r : UInt64} {v : Int32} (hi : own_K inc) (hc : own_K cand) (hI : own_I inc ∨ own_I cand) (hne : ¬ cmpValue (FP.dcmp inc cand) .l = 0) (hv : v = if (0 : Int32) < cmpValue (FP.dcmp cand inc) .l then (1 : Int32) else (0 : Int32)) (h : v = 0) (hmm : ¬ mx = mn)
    (hr : (if cmpValue (FP.dcmp cand inc) .l = 0 then (0 : UInt64) else if mx = mn then FP.dsub inc cand else FP.dsub cand inc) = r) : cmpValue (FP.dcmp r (FP.dneg (9218868437227405312 : UInt64))) .l = 0 := by
  have e := own_res hi hc hne hr
  rw [if_neg hmm] at e
  rcases own_tab hi hc hI hne with ⟨t1, t2, t3, t4⟩ | ⟨t1, t2, t3, t4⟩
  · rw [if_pos t1] at hv; rw [hv] at h; exact absurd h (by decide)
  · rw [e, t3]; exact own_ninfself
theorem own_min_hi {mn : Addr} {inc cand r : UInt64} {v : Int32} (hi : own_K inc) (hc : own_K cand) (hI : own_I inc ∨ own_I cand) (hne : ¬ cmpValue (FP.dcmp inc cand) .l = 0) (hv : v = if cmpValue (FP.dcmp cand inc) .g < (0 : Int32) then (1 : Int32) else (0 : Int32)) (h : ¬ v = 0) (hmm : mn = mn)
    (hr : (if cmpValue (FP.dcmp cand inc) .l = 0 then (0 : UInt64) else if mn = mn then FP.dsub inc cand else FP.dsub cand inc) = r) : cmpValue (FP.dcmp r (9218868437227405312 : UInt64)) .l = 0 := by
  have e := own_res hi hc hne hr
  rw [if_pos rfl] at e
  rcases own_tab hi hc hI hne with ⟨t1, t2, t3, t4⟩ | ⟨t1, t2, t3, t4⟩
  · rw [if_neg t2] at hv; exact absurd hv h
  · rw [e, t4]; exact own_infself
theorem own_min_lo {mn : Addr} {inc cand r : UInt64} {v : Int32} (hi : own_K inc) (hc : own_K cand) (hI : own_I inc ∨ own_I cand) (hne : ¬ cmpValue (FP.dcmp inc cand) .l = 0) (hv : v = if cmpValue (FP.dcmp cand inc) .g < (0 : Int32) then (1 : Int32) else (0 : Int32)) (h : v = 0) (hmm : mn = mn)
    (hr : (if cmpValue (FP.dcmp cand inc) .l = 0 then (0 : UInt64) else if mn = mn then FP.dsub inc cand else FP.dsub cand inc) = r) : cmpValue (FP.dcmp r (FP.dneg (9218868437227405312 : UInt64))) .l = 0 := by
  have e := own_res hi hc hne hr
  rw [if_pos rfl] at e
  rcases own_tab hi hc hI hne with ⟨t1, t2, t3, t4⟩ | ⟨t1, t2, t3, t4⟩
  · rw [e, t4]; exact own_ninfself
  · rw [if_pos t2] at hv; rw [hv] at h; exact absurd h (by decide)
theorem pn_0 : plainName "com/example/parley/parley/model/ObjectiveImprovementPinLaw" = true := by first | (simp [plainName, overriddenIn]; done) | decide +kernel
theorem d1_0 : decode method_2_code 0 = .ok (.ldc2_w 7, 3) := by decide +kernel
theorem d1_3 : decode method_2_code 3 = .ok (.dstore_n 0, 1) := by decide +kernel
theorem d1_4 : decode method_2_code 4 = .ok (.dload_n 0, 1) := by decide +kernel
theorem d1_5 : decode method_2_code 5 = .ok (.ldc2_w 9, 3) := by decide +kernel
theorem d1_8 : decode method_2_code 8 = .ok (.dmul, 1) := by decide +kernel
theorem d1_9 : decode method_2_code 9 = .ok (.dreturn, 1) := by decide +kernel
theorem ef_rm1 (m : MethodId)  : entryFrame m #[] 2 = mkF m 0 #[.unset, .unset] [] := by first | (simp [entryFrame, mkF, argsToLocals, Value.category]; done) | rfl
def Qrm1 (Z : State)  (h0 : Heap) (n0 : Nat) (v : Option Value) (h : Heap) (L : List Loc) : Prop := v = some (.double (9218868437227405312 : UInt64)) ∧ Fr n0 L ∧ h = h0
set_option maxRecDepth 65536 in
set_option maxHeartbeats 40000000 in
theorem rm1 (l : Launch) (Z : State) (a0 : Array Value) (hw : ∀ d ∈ tables_1, d.before a0 Z = true) (ws : List Jvm.Cond)  (h0 : Heap) (n0 : Nat) (Z0 : n0 ≤ h0.size) :
    MetFree l (⟨"com/example/parley/parley/model/ObjectiveImprovementPinLaw", "inf", "()D"⟩ : MethodName) (head1 (Jvm.Cond.code (⟨"com/example/parley/parley/model/ObjectiveImprovementPinLaw", "inf", "()D"⟩ : MethodName) method_2_code 2 (some .double) :: ws) ({ frames := 0, cells := 0, slots := 0, locals := 0 } : Room)) (fun aq Uq => aq = #[] ∧ Z.Warmed39 Uq.vm ∧ Uq.heap = h0) (fun _ _ _ _ _ => True) (fun _ Uq oq Uq' => ∃ vq Lq, oq = .returned vq ∧ Qrm1 Z  h0 n0 vq Uq'.heap Lq ∧ FrameEnd Uq oq Uq' Lq ({ frames := 0, cells := 0, slots := 0, locals := 0 } : Room).cells ({ frames := 0, cells := 0, slots := 0, locals := 0 } : Room).slots) := by
  refine MetFree.of_bodySF (plainFor_of_name pn_0) hisR ?_
  intro p e s m args below meth c s₁ Bd hml0 hP hK
  obtain ⟨rfl, hZ, hh⟩ := hP
  have hx := Bd.exec
  have hby := Bd.bytes
  have hml : c.maxLocals = 2 := hml0
  have hown : s.vm.findClass "com/example/parley/parley/model/ObjectiveImprovementPinLaw" = some m.cls := findClass_of_methodNamed Bd.named
  have hnm := (name_of_methodNamed Bd.named Bd.method).1
  have X0 : Stand p l e ({ frames := 0, cells := 0, slots := 0, locals := 0 } : Room) s m #[] below meth c s₁ [] 0 0 := Stand.of_body Bd
  have e0 : s₁.heap = h0 := by rw [← hh, Bd.state]; rfl
  have N0 := Fr.nil n0
  have ZH := Z0
  have KK := Keep.refl h0 []
  refine own_start (fun t k => castTop (ef_rm1 m ) k) ?_
  show own_Go p.tables e below _ (s₁.setTop (mkF m 0 #[.unset, .unset] []))
  refine own_up (fun _ k => X0.ldc2DoubleC hx hown (mvT hZ (hw _ (List.mem_of_getElem? (i := 7) rfl))) (g := (mkF m 0 #[.unset, .unset] [])) rfl (hb hby d1_0) _ k) ?_
  show own_Go p.tables e below _ (s₁.setTop (mkF m 3 #[.unset, .unset] [(.double (9214871658872686752 : UInt64))]))
  refine own_up (fun _ k => XS.dstoreN X0.here hx rfl (hb hby d1_3) rfl (l' := #[.val (.double (9214871658872686752 : UInt64)), .second]) rfl k) ?_
  show own_Go p.tables e below _ (s₁.setTop (mkF m 4 #[.val (.double (9214871658872686752 : UInt64)), .second] []))
  refine own_up (fun _ k => XS.dloadN X0.here hx rfl (hb hby d1_4) rfl k) ?_
  show own_Go p.tables e below _ (s₁.setTop (mkF m 5 #[.val (.double (9214871658872686752 : UInt64)), .second] [(.double (9214871658872686752 : UInt64))]))
  refine own_up (fun _ k => X0.ldc2DoubleC hx hown (mvT hZ (hw _ (List.mem_of_getElem? (i := 8) rfl))) (g := (mkF m 5 #[.val (.double (9214871658872686752 : UInt64)), .second] [(.double (9214871658872686752 : UInt64))])) rfl (hb hby d1_5) _ k) ?_
  show own_Go p.tables e below _ (s₁.setTop (mkF m 8 #[.val (.double (9214871658872686752 : UInt64)), .second] [(.double (4621819117588971520 : UInt64)), (.double (9214871658872686752 : UInt64))]))
  refine own_up (fun _ k => XS.dmulS X0.here hx rfl (v := (FP.dmul (9214871658872686752 : UInt64) (4621819117588971520 : UInt64))) (hb hby d1_8) rfl own_infnn rfl k) ?_
  show own_Go p.tables e below _ (s₁.setTop (mkF m 9 #[.val (.double (9214871658872686752 : UInt64)), .second] [(.double (FP.dmul (9214871658872686752 : UInt64) (4621819117588971520 : UInt64)))]))
  obtain ⟨fs1, hr1, hrun1, hended1, hW1, hsame1⟩ := X0.leave (v := some (.double (FP.dmul (9214871658872686752 : UInt64) (4621819117588971520 : UInt64)))) (fun h => by rw [Bd.returns] at h; cases h)
  refine own_end ⟨_, _, ?_, hrun1, hended1, _, _, rfl, ?_, ⟨_, rfl⟩, hW1, hsame1.mono (by decide) (by decide)⟩
  · exact retOut X0 hx Bd.returns rfl (Or.inr (Or.inr (Or.inl ⟨rfl, rfl, _, rfl⟩))) (hb hby d1_9) hr1
  · show Qrm1 Z  h0 n0 _ s₁.heap _
    rw [e0]
    exact ⟨by rw [own_infmul], N0, rfl⟩
theorem d2_0 : decode method_3_code 0 = .ok (.iload_n 0, 1) := by decide +kernel
theorem d2_1 : decode method_3_code 1 = .ok (.iconst 2, 1) := by decide +kernel
theorem d2_2 : decode method_3_code 2 = .ok (.if_icmp .ne 5, 3) := by decide +kernel
theorem d2_5 : decode method_3_code 5 = .ok (.dload_n 2, 1) := by decide +kernel
theorem d2_6 : decode method_3_code 6 = .ok (.dreturn, 1) := by decide +kernel
theorem d2_7 : decode method_3_code 7 = .ok (.iload_n 0, 1) := by decide +kernel
theorem d2_8 : decode method_3_code 8 = .ok (.iconst 3, 1) := by decide +kernel
theorem d2_9 : decode method_3_code 9 = .ok (.if_icmp .ne 6, 3) := by decide +kernel
theorem d2_12 : decode method_3_code 12 = .ok (.dload_n 2, 1) := by decide +kernel
theorem d2_13 : decode method_3_code 13 = .ok (.dneg, 1) := by decide +kernel
theorem d2_14 : decode method_3_code 14 = .ok (.dreturn, 1) := by decide +kernel
theorem d2_15 : decode method_3_code 15 = .ok (.iload_n 1, 1) := by decide +kernel
theorem d2_16 : decode method_3_code 16 = .ok (.i2d, 1) := by decide +kernel
theorem d2_17 : decode method_3_code 17 = .ok (.dreturn, 1) := by decide +kernel
theorem ef_rm2 (m : MethodId) (x0 : Int32) (x1 : Int32) (x2 : UInt64) : entryFrame m #[(.int x0), (.int x1), (.double x2)] 4 = mkF m 0 #[.val (.int x0), .val (.int x1), .val (.double x2), .second] [] := by first | (simp [entryFrame, mkF, argsToLocals, Value.category]; done) | rfl
def Qrm2 (Z : State) (sl : Int32) (v0 : Int32) (f : UInt64) (h0 : Heap) (n0 : Nat) (v : Option Value) (h : Heap) (L : List Loc) : Prop := v = some (.double (if sl = 2 then f else if sl = 3 then FP.dneg f else FP.i2d v0)) ∧ Fr n0 L ∧ h = h0
set_option maxRecDepth 65536 in
set_option maxHeartbeats 40000000 in
theorem rm2 (l : Launch) (Z : State) (a0 : Array Value) (hw : ∀ d ∈ tables_1, d.before a0 Z = true) (ws : List Jvm.Cond) (sl : Int32) (v0 : Int32) (f : UInt64) (h0 : Heap) (n0 : Nat) (Z0 : n0 ≤ h0.size) :
    MetFree l (⟨"com/example/parley/parley/model/ObjectiveImprovementPinLaw", "pick", "(IID)D"⟩ : MethodName) (head1 (Jvm.Cond.code (⟨"com/example/parley/parley/model/ObjectiveImprovementPinLaw", "pick", "(IID)D"⟩ : MethodName) method_3_code 4 (some .double) :: ws) ({ frames := 0, cells := 0, slots := 0, locals := 0 } : Room)) (fun aq Uq => aq = #[(.int sl), (.int v0), (.double f)] ∧ Z.Warmed39 Uq.vm ∧ Uq.heap = h0) (fun _ _ _ _ _ => True) (fun _ Uq oq Uq' => ∃ vq Lq, oq = .returned vq ∧ Qrm2 Z sl v0 f h0 n0 vq Uq'.heap Lq ∧ FrameEnd Uq oq Uq' Lq ({ frames := 0, cells := 0, slots := 0, locals := 0 } : Room).cells ({ frames := 0, cells := 0, slots := 0, locals := 0 } : Room).slots) := by
  refine MetFree.of_bodySF (plainFor_of_name pn_0) hisR ?_
  intro p e s m args below meth c s₁ Bd hml0 hP hK
  obtain ⟨rfl, hZ, hh⟩ := hP
  have hx := Bd.exec
  have hby := Bd.bytes
  have hml : c.maxLocals = 4 := hml0
  have hown : s.vm.findClass "com/example/parley/parley/model/ObjectiveImprovementPinLaw" = some m.cls := findClass_of_methodNamed Bd.named
  have hnm := (name_of_methodNamed Bd.named Bd.method).1
  have X0 : Stand p l e ({ frames := 0, cells := 0, slots := 0, locals := 0 } : Room) s m #[(.int sl), (.int v0), (.double f)] below meth c s₁ [] 0 0 := Stand.of_body Bd
  have e0 : s₁.heap = h0 := by rw [← hh, Bd.state]; rfl
  have N0 := Fr.nil n0
  have ZH := Z0
  have KK := Keep.refl h0 []
  refine own_start (fun t k => castTop (ef_rm2 m sl v0 f) k) ?_
  show own_Go p.tables e below _ (s₁.setTop (mkF m 0 #[.val (.int sl), .val (.int v0), .val (.double f), .second] []))
  refine own_up (fun _ k => XS.iloadN X0.here hx rfl (hb hby d2_0) rfl k) ?_
  show own_Go p.tables e below _ (s₁.setTop (mkF m 1 #[.val (.int sl), .val (.int v0), .val (.double f), .second] [(.int sl)]))
  refine own_up (fun _ k => XS.iconst X0.here hx rfl (hb hby d2_1) k) ?_
  show own_Go p.tables e below _ (s₁.setTop (mkF m 2 #[.val (.int sl), .val (.int v0), .val (.double f), .second] [(.int (2 : Int32)), (.int sl)]))
  by_cases hc2 : sl = (2 : Int32)
  · refine own_up (fun _ k => XS.icmpNo X0.here hx rfl (hb hby d2_2) rfl (teq hc2).2 k) ?_
    show own_Go p.tables e below _ (s₁.setTop (mkF m 5 #[.val (.int sl), .val (.int v0), .val (.double f), .second] []))
    refine own_up (fun _ k => XS.dloadN X0.here hx rfl (hb hby d2_5) rfl k) ?_
    show own_Go p.tables e below _ (s₁.setTop (mkF m 6 #[.val (.int sl), .val (.int v0), .val (.double f), .second] [(.double f)]))
    obtain ⟨fs1, hr1, hrun1, hended1, hW1, hsame1⟩ := X0.leave (v := some (.double f)) (fun h => by rw [Bd.returns] at h; cases h)
    refine own_end ⟨_, _, ?_, hrun1, hended1, _, _, rfl, ?_, ⟨_, rfl⟩, hW1, hsame1.mono (by decide) (by decide)⟩
    · exact retOut X0 hx Bd.returns rfl (Or.inr (Or.inr (Or.inl ⟨rfl, rfl, _, rfl⟩))) (hb hby d2_6) hr1
    · show Qrm2 Z sl v0 f h0 n0 _ s₁.heap _
      rw [e0]
      exact ⟨by rw [if_pos hc2], N0, rfl⟩
  · refine own_up (fun _ k => XS.icmpYes X0.here hx rfl (pc0 := 2) (pc' := 7) rfl (hb hby d2_2) rfl (feq hc2).2 (by decide) (by decide) k) ?_
    show own_Go p.tables e below _ (s₁.setTop (mkF m 7 #[.val (.int sl), .val (.int v0), .val (.double f), .second] []))
    refine own_up (fun _ k => XS.iloadN X0.here hx rfl (hb hby d2_7) rfl k) ?_
    show own_Go p.tables e below _ (s₁.setTop (mkF m 8 #[.val (.int sl), .val (.int v0), .val (.double f), .second] [(.int sl)]))
    refine own_up (fun _ k => XS.iconst X0.here hx rfl (hb hby d2_8) k) ?_
    show own_Go p.tables e below _ (s₁.setTop (mkF m 9 #[.val (.int sl), .val (.int v0), .val (.double f), .second] [(.int (3 : Int32)), (.int sl)]))
    by_cases hc9 : sl = (3 : Int32)
    · refine own_up (fun _ k => XS.icmpNo X0.here hx rfl (hb hby d2_9) rfl (teq hc9).2 k) ?_
      show own_Go p.tables e below _ (s₁.setTop (mkF m 12 #[.val (.int sl), .val (.int v0), .val (.double f), .second] []))
      refine own_up (fun _ k => XS.dloadN X0.here hx rfl (hb hby d2_12) rfl k) ?_
      show own_Go p.tables e below _ (s₁.setTop (mkF m 13 #[.val (.int sl), .val (.int v0), .val (.double f), .second] [(.double f)]))
      refine own_up (fun _ k => XS.dnegS X0.here hx rfl (v := (FP.dneg f)) (hb hby d2_13) rfl rfl k) ?_
      show own_Go p.tables e below _ (s₁.setTop (mkF m 14 #[.val (.int sl), .val (.int v0), .val (.double f), .second] [(.double (FP.dneg f))]))
      obtain ⟨fs2, hr2, hrun2, hended2, hW2, hsame2⟩ := X0.leave (v := some (.double (FP.dneg f))) (fun h => by rw [Bd.returns] at h; cases h)
      refine own_end ⟨_, _, ?_, hrun2, hended2, _, _, rfl, ?_, ⟨_, rfl⟩, hW2, hsame2.mono (by decide) (by decide)⟩
      · exact retOut X0 hx Bd.returns rfl (Or.inr (Or.inr (Or.inl ⟨rfl, rfl, _, rfl⟩))) (hb hby d2_14) hr2
      · show Qrm2 Z sl v0 f h0 n0 _ s₁.heap _
        rw [e0]
        exact ⟨by rw [if_neg hc2, if_pos hc9], N0, rfl⟩
    · refine own_up (fun _ k => XS.icmpYes X0.here hx rfl (pc0 := 9) (pc' := 15) rfl (hb hby d2_9) rfl (feq hc9).2 (by decide) (by decide) k) ?_
      show own_Go p.tables e below _ (s₁.setTop (mkF m 15 #[.val (.int sl), .val (.int v0), .val (.double f), .second] []))
      refine own_up (fun _ k => XS.iloadN X0.here hx rfl (hb hby d2_15) rfl k) ?_
      show own_Go p.tables e below _ (s₁.setTop (mkF m 16 #[.val (.int sl), .val (.int v0), .val (.double f), .second] [(.int v0)]))
      refine own_up (fun _ k => XS.i2dS X0.here hx rfl (v := (FP.i2d v0)) (hb hby d2_16) rfl rfl k) ?_
      show own_Go p.tables e below _ (s₁.setTop (mkF m 17 #[.val (.int sl), .val (.int v0), .val (.double f), .second] [(.double (FP.i2d v0))]))
      obtain ⟨fs3, hr3, hrun3, hended3, hW3, hsame3⟩ := X0.leave (v := some (.double (FP.i2d v0))) (fun h => by rw [Bd.returns] at h; cases h)
      refine own_end ⟨_, _, ?_, hrun3, hended3, _, _, rfl, ?_, ⟨_, rfl⟩, hW3, hsame3.mono (by decide) (by decide)⟩
      · exact retOut X0 hx Bd.returns rfl (Or.inr (Or.inr (Or.inl ⟨rfl, rfl, _, rfl⟩))) (hb hby d2_17) hr3
      · show Qrm2 Z sl v0 f h0 n0 _ s₁.heap _
        rw [e0]
        exact ⟨by rw [if_neg hc2, if_neg hc9], N0, rfl⟩
theorem pn_1 : plainName "com/example/parley/parley/model/Objective" = true := by first | (simp [plainName, overriddenIn]; done) | decide +kernel
theorem d3_0 : decode prog_104_method_7_code 0 = .ok (.dload_n 3, 1) := by decide +kernel
theorem d3_1 : decode prog_104_method_7_code 1 = .ok (.dload_n 1, 1) := by decide +kernel
theorem d3_2 : decode prog_104_method_7_code 2 = .ok (.dcmp .l, 1) := by decide +kernel
theorem d3_3 : decode prog_104_method_7_code 3 = .ok (.ifCond .ne 5, 3) := by decide +kernel
theorem d3_6 : decode prog_104_method_7_code 6 = .ok (.dconst 0, 1) := by decide +kernel
theorem d3_7 : decode prog_104_method_7_code 7 = .ok (.dreturn, 1) := by decide +kernel
theorem d3_8 : decode prog_104_method_7_code 8 = .ok (.aload_n 0, 1) := by decide +kernel
theorem d3_9 : decode prog_104_method_7_code 9 = .ok (.getstatic 3, 3) := by decide +kernel
theorem d3_12 : decode prog_104_method_7_code 12 = .ok (.if_acmp .ne 9, 3) := by decide +kernel
theorem d3_15 : decode prog_104_method_7_code 15 = .ok (.dload_n 1, 1) := by decide +kernel
theorem d3_16 : decode prog_104_method_7_code 16 = .ok (.dload_n 3, 1) := by decide +kernel
theorem d3_17 : decode prog_104_method_7_code 17 = .ok (.dsub, 1) := by decide +kernel
theorem d3_18 : decode prog_104_method_7_code 18 = .ok (.goto 6, 3) := by decide +kernel
theorem d3_24 : decode prog_104_method_7_code 24 = .ok (.dreturn, 1) := by decide +kernel
theorem d3_21 : decode prog_104_method_7_code 21 = .ok (.dload_n 3, 1) := by decide +kernel
theorem d3_22 : decode prog_104_method_7_code 22 = .ok (.dload_n 1, 1) := by decide +kernel
theorem d3_23 : decode prog_104_method_7_code 23 = .ok (.dsub, 1) := by decide +kernel
theorem ef_rm3 (m : MethodId) (x0 : Addr) (x1 : UInt64) (x2 : UInt64) : entryFrame m #[(.ref x0), (.double x1), (.double x2)] 5 = mkF m 0 #[.val (.ref x0), .val (.double x1), .second, .val (.double x2), .second] [] := by first | (simp [entryFrame, mkF, argsToLocals, Value.category]; done) | rfl
def Qrm3 (Z : State) (a : Addr) (x : UInt64) (y : UInt64) (mn : Addr) (h0 : Heap) (n0 : Nat) (v : Option Value) (h : Heap) (L : List Loc) : Prop := v = some (.double (if cmpValue (FP.dcmp y x) .l = 0 then (0 : UInt64) else if a = mn then FP.dsub x y else FP.dsub y x)) ∧ Fr n0 L ∧ h = h0
set_option maxRecDepth 65536 in
set_option maxHeartbeats 40000000 in
theorem rm3 (l : Launch) (Z : State) (a0 : Array Value) (hw : ∀ d ∈ tables_1, d.before a0 Z = true) (ws : List Jvm.Cond) (a : Addr) (x : UInt64) (y : UInt64) (mn : Addr) (h0 : Heap) (n0 : Nat) (Z0 : n0 ≤ h0.size) (S_MIN : Sta Z h0 "com/example/parley/parley/model/Objective" "MIN" "Lcom/example/parley/parley/model/Objective;" (.ref mn)) (nn1 : ¬ cmpValue (FP.dcmp y x) .l = 0 → a = mn → NoNaN64 (FP.dsub x y)) (nn2 : ¬ cmpValue (FP.dcmp y x) .l = 0 → ¬ a = mn → NoNaN64 (FP.dsub y x)) :
    MetFree l (⟨"com/example/parley/parley/model/Objective", "improvement", "(DD)D"⟩ : MethodName) (head1 (Jvm.Cond.code (⟨"com/example/parley/parley/model/Objective", "improvement", "(DD)D"⟩ : MethodName) prog_104_method_7_code 5 (some .double) :: ws) ({ frames := 0, cells := 0, slots := 0, locals := 0 } : Room)) (fun aq Uq => aq = #[(.ref a), (.double x), (.double y)] ∧ Z.Warmed39 Uq.vm ∧ Uq.heap = h0) (fun _ _ _ _ _ => True) (fun _ Uq oq Uq' => ∃ vq Lq, oq = .returned vq ∧ Qrm3 Z a x y mn h0 n0 vq Uq'.heap Lq ∧ FrameEnd Uq oq Uq' Lq ({ frames := 0, cells := 0, slots := 0, locals := 0 } : Room).cells ({ frames := 0, cells := 0, slots := 0, locals := 0 } : Room).slots) := by
  refine MetFree.of_bodySF (plainFor_of_name pn_1) hisR ?_
  intro p e s m args below meth c s₁ Bd hml0 hP hK
  obtain ⟨rfl, hZ, hh⟩ := hP
  have hx := Bd.exec
  have hby := Bd.bytes
  have hml : c.maxLocals = 5 := hml0
  have hown : s.vm.findClass "com/example/parley/parley/model/Objective" = some m.cls := findClass_of_methodNamed Bd.named
  have hnm := (name_of_methodNamed Bd.named Bd.method).1
  have X0 : Stand p l e ({ frames := 0, cells := 0, slots := 0, locals := 0 } : Room) s m #[(.ref a), (.double x), (.double y)] below meth c s₁ [] 0 0 := Stand.of_body Bd
  have e0 : s₁.heap = h0 := by rw [← hh, Bd.state]; rfl
  have N0 := Fr.nil n0
  have ZH := Z0
  have KK := Keep.refl h0 []
  refine own_start (fun t k => castTop (ef_rm3 m a x y) k) ?_
  show own_Go p.tables e below _ (s₁.setTop (mkF m 0 #[.val (.ref a), .val (.double x), .second, .val (.double y), .second] []))
  refine own_up (fun _ k => XS.dloadN X0.here hx rfl (hb hby d3_0) rfl k) ?_
  show own_Go p.tables e below _ (s₁.setTop (mkF m 1 #[.val (.ref a), .val (.double x), .second, .val (.double y), .second] [(.double y)]))
  refine own_up (fun _ k => XS.dloadN X0.here hx rfl (hb hby d3_1) rfl k) ?_
  show own_Go p.tables e below _ (s₁.setTop (mkF m 2 #[.val (.ref a), .val (.double x), .second, .val (.double y), .second] [(.double x), (.double y)]))
  refine own_up (fun _ k => XS.dcmpS X0.here hx rfl (v := (cmpValue (FP.dcmp y x) .l)) (hb hby d3_2) rfl rfl k) ?_
  show own_Go p.tables e below _ (s₁.setTop (mkF m 3 #[.val (.ref a), .val (.double x), .second, .val (.double y), .second] [(.int (cmpValue (FP.dcmp y x) .l))]))
  by_cases hc3 : (cmpValue (FP.dcmp y x) .l) = (0 : Int32)
  · refine own_up (fun _ k => XS.ifNo X0.here hx rfl (hb hby d3_3) rfl ((if0 _ _).trans (teq hc3).2) k) ?_
    show own_Go p.tables e below _ (s₁.setTop (mkF m 6 #[.val (.ref a), .val (.double x), .second, .val (.double y), .second] []))
    refine own_up (fun _ k => XS.dconst0 X0.here hx rfl (v := (0 : UInt64)) (hb hby d3_6) rfl k) ?_
    show own_Go p.tables e below _ (s₁.setTop (mkF m 7 #[.val (.ref a), .val (.double x), .second, .val (.double y), .second] [(.double (0 : UInt64))]))
    obtain ⟨fs1, hr1, hrun1, hended1, hW1, hsame1⟩ := X0.leave (v := some (.double (0 : UInt64))) (fun h => by rw [Bd.returns] at h; cases h)
    refine own_end ⟨_, _, ?_, hrun1, hended1, _, _, rfl, ?_, ⟨_, rfl⟩, hW1, hsame1.mono (by decide) (by decide)⟩
    · exact retOut X0 hx Bd.returns rfl (Or.inr (Or.inr (Or.inl ⟨rfl, rfl, _, rfl⟩))) (hb hby d3_7) hr1
    · show Qrm3 Z a x y mn h0 n0 _ s₁.heap _
      rw [e0]
      exact ⟨by rw [if_pos hc3], N0, rfl⟩
  · refine own_up (fun _ k => XS.ifYes X0.here hx rfl (pc0 := 3) (pc' := 8) rfl (hb hby d3_3) rfl ((if0 _ _).trans (feq hc3).2) (by decide) (by decide) k) ?_
    show own_Go p.tables e below _ (s₁.setTop (mkF m 8 #[.val (.ref a), .val (.double x), .second, .val (.double y), .second] []))
    refine own_up (fun _ k => XS.aloadN X0.here hx rfl (hb hby d3_8) rfl rfl k) ?_
    show own_Go p.tables e below _ (s₁.setTop (mkF m 9 #[.val (.ref a), .val (.double x), .second, .val (.double y), .second] [(.ref a)]))
    obtain ⟨T2, X2, e2, st2⟩ := getS2 X0 hx hZ hown (host := "") (Or.inl (hw _ (List.mem_of_getElem? (i := 17) rfl))) Via.refl e0 S_MIN (g := (mkF m 9 #[.val (.ref a), .val (.double x), .second, .val (.double y), .second] [(.ref a)])) rfl (hb hby d3_9)
    refine own_up st2 ?_
    show own_Go p.tables e below _ (T2.setTop (mkF m 12 #[.val (.ref a), .val (.double x), .second, .val (.double y), .second] [(.ref mn), (.ref a)]))
    by_cases hc12 : a = mn
    · refine own_up (fun _ k => Jvm.RoadKit.acmp (g := (mkF m 12 #[.val (.ref a), .val (.double x), .second, .val (.double y), .second] [(.ref mn), (.ref a)])) X2 hx rfl rfl rfl (pc0 := 12) (pc' := 15) (same := true) rfl (hb hby d3_12) rfl (decide_eq_true (congrArg Value.ref hc12)) (by decide) (by decide) k) ?_
      show own_Go p.tables e below _ (T2.setTop (mkF m 15 #[.val (.ref a), .val (.double x), .second, .val (.double y), .second] []))
      refine own_up (fun _ k => XS.dloadN X2.here hx rfl (hb hby d3_15) rfl k) ?_
      show own_Go p.tables e below _ (T2.setTop (mkF m 16 #[.val (.ref a), .val (.double x), .second, .val (.double y), .second] [(.double x)]))
      refine own_up (fun _ k => XS.dloadN X2.here hx rfl (hb hby d3_16) rfl k) ?_
      show own_Go p.tables e below _ (T2.setTop (mkF m 17 #[.val (.ref a), .val (.double x), .second, .val (.double y), .second] [(.double y), (.double x)]))
      refine own_up (fun _ k => XS.dsubS X2.here hx rfl (v := (FP.dsub x y)) (hb hby d3_17) rfl (nn1 hc3 hc12) rfl k) ?_
      show own_Go p.tables e below _ (T2.setTop (mkF m 18 #[.val (.ref a), .val (.double x), .second, .val (.double y), .second] [(.double (FP.dsub x y))]))
      refine own_up (fun _ k => XS.goto X2.here hx rfl (pc0 := 18) (pc' := 24) rfl (hb hby d3_18) (by decide) (by decide) k) ?_
      show own_Go p.tables e below _ (T2.setTop (mkF m 24 #[.val (.ref a), .val (.double x), .second, .val (.double y), .second] [(.double (FP.dsub x y))]))
      obtain ⟨fs3, hr3, hrun3, hended3, hW3, hsame3⟩ := X2.leave (v := some (.double (FP.dsub x y))) (fun h => by rw [Bd.returns] at h; cases h)
      refine own_end ⟨_, _, ?_, hrun3, hended3, _, _, rfl, ?_, ⟨_, rfl⟩, hW3, hsame3.mono (by decide) (by decide)⟩
      · exact retOut X2 hx Bd.returns rfl (Or.inr (Or.inr (Or.inl ⟨rfl, rfl, _, rfl⟩))) (hb hby d3_24) hr3
      · show Qrm3 Z a x y mn h0 n0 _ T2.heap _
        rw [e2]
        exact ⟨by rw [if_neg hc3, if_pos hc12], N0, rfl⟩
    · refine own_up (fun _ k => Jvm.RoadKit.acmp (g := (mkF m 12 #[.val (.ref a), .val (.double x), .second, .val (.double y), .second] [(.ref mn), (.ref a)])) X2 hx rfl rfl rfl (pc0 := 12) (pc' := 21) (same := false) rfl (hb hby d3_12) rfl (decide_eq_false fun q => hc12 (Value.ref.inj q)) (by decide) (by decide) k) ?_
      show own_Go p.tables e below _ (T2.setTop (mkF m 21 #[.val (.ref a), .val (.double x), .second, .val (.double y), .second] []))
      refine own_up (fun _ k => XS.dloadN X2.here hx rfl (hb hby d3_21) rfl k) ?_
      show own_Go p.tables e below _ (T2.setTop (mkF m 22 #[.val (.ref a), .val (.double x), .second, .val (.double y), .second] [(.double y)]))
      refine own_up (fun _ k => XS.dloadN X2.here hx rfl (hb hby d3_22) rfl k) ?_
      show own_Go p.tables e below _ (T2.setTop (mkF m 23 #[.val (.ref a), .val (.double x), .second, .val (.double y), .second] [(.double x), (.double y)]))
      refine own_up (fun _ k => XS.dsubS X2.here hx rfl (v := (FP.dsub y x)) (hb hby d3_23) rfl (nn2 hc3 hc12) rfl k) ?_
      show own_Go p.tables e below _ (T2.setTop (mkF m 24 #[.val (.ref a), .val (.double x), .second, .val (.double y), .second] [(.double (FP.dsub y x))]))
      obtain ⟨fs4, hr4, hrun4, hended4, hW4, hsame4⟩ := X2.leave (v := some (.double (FP.dsub y x))) (fun h => by rw [Bd.returns] at h; cases h)
      refine own_end ⟨_, _, ?_, hrun4, hended4, _, _, rfl, ?_, ⟨_, rfl⟩, hW4, hsame4.mono (by decide) (by decide)⟩
      · exact retOut X2 hx Bd.returns rfl (Or.inr (Or.inr (Or.inl ⟨rfl, rfl, _, rfl⟩))) (hb hby d3_24) hr4
      · show Qrm3 Z a x y mn h0 n0 _ T2.heap _
        rw [e2]
        exact ⟨by rw [if_neg hc3, if_neg hc12], N0, rfl⟩
theorem pd_0 : parseMethodDescriptor "()D" = some ⟨[], some .double⟩ := by decide +kernel
theorem pd_1 : parseMethodDescriptor "(IID)D" = some ⟨[.int, .int, .double], some .double⟩ := by decide +kernel
theorem pd_2 : parseMethodDescriptor "(DD)D" = some ⟨[.double, .double], some .double⟩ := by decide +kernel
theorem ef_rm0 (m : MethodId) (x0 : Int32) (x1 : Int32) (x2 : Int32) (x3 : Int32) : entryFrame m #[(.int x0), (.int x1), (.int x2), (.int x3)] maxLocals = mkF m 0 #[.val (.int x0), .val (.int x1), .val (.int x2), .val (.int x3), .unset, .unset, .unset, .unset, .unset, .unset, .unset, .unset, .unset, .unset, .unset, .unset, .unset, .unset, .unset] [] := by first | (simp [entryFrame, mkF, argsToLocals, Value.category, maxLocals]; done) | rfl
def Qrm0 (Z : State) (p0 : Int32) (p1 : Int32) (p2 : Int32) (p3 : Int32) (mn : Addr) (mx : Addr) (h0 : Heap) (n0 : Nat) (v : Option Value) (h : Heap) (L : List Loc) : Prop := v = some (.int 1) ∧ Fr n0 L
set_option maxRecDepth 65536 in
set_option maxHeartbeats 40000000 in
theorem rm0 (l : Launch) (Z : State) (a0 : Array Value) (hw : ∀ d ∈ tables_1, d.before a0 Z = true) (ws : List Jvm.Cond) (p0 : Int32) (p1 : Int32) (p2 : Int32) (p3 : Int32) (mn : Addr) (mx : Addr) (h0 : Heap) (n0 : Nat) (Z0 : n0 ≤ h0.size) (S_MIN : Sta Z h0 "com/example/parley/parley/model/Objective" "MIN" "Lcom/example/parley/parley/model/Objective;" (.ref mn)) (S_MAX : Sta Z h0 "com/example/parley/parley/model/Objective" "MAX" "Lcom/example/parley/parley/model/Objective;" (.ref mx)) (E_mn : Exa Z h0 mn "com/example/parley/parley/model/Objective") (E_mx : Exa Z h0 mx "com/example/parley/parley/model/Objective") (hmm : ¬ mx = mn) :
    MetFree l x (head1 (Jvm.Cond.code x code maxLocals ret :: ws) room_1) (fun aq Uq => aq = #[(.int p0), (.int p1), (.int p2), (.int p3)] ∧ Z.Warmed39 Uq.vm ∧ Uq.heap = h0) (fun _ _ _ _ _ => True) (fun _ Uq oq Uq' => ∃ vq Lq, oq = .returned vq ∧ Qrm0 Z p0 p1 p2 p3 mn mx h0 n0 vq Uq'.heap Lq ∧ FrameEnd Uq oq Uq' Lq 0 0) := by
  refine MetFree.of_bodySF (plainFor_of_name pn_0) hisR ?_
  intro p e s m args below meth c s₁ Bd hml0 hP hK
  obtain ⟨rfl, hZ, hh⟩ := hP
  have hx := Bd.exec
  have hby := Bd.bytes
  have hml : c.maxLocals = 19 := hml0
  have hown : s.vm.findClass "com/example/parley/parley/model/ObjectiveImprovementPinLaw" = some m.cls := findClass_of_methodNamed Bd.named
  have hnm := (name_of_methodNamed Bd.named Bd.method).1
  have X0 : Stand p l e room_1 s m #[(.int p0), (.int p1), (.int p2), (.int p3)] below meth c s₁ [] 0 0 := Stand.of_body Bd
  have e0 : s₁.heap = h0 := by rw [← hh, Bd.state]; rfl
  have N0 := Fr.nil n0
  have ZH := Z0
  have KK := Keep.refl h0 []
  refine own_start (fun t k => castTop (ef_rm0 m p0 p1 p2 p3) k) ?_
  show own_Go p.tables e below _ (s₁.setTop (mkF m 0 #[.val (.int p0), .val (.int p1), .val (.int p2), .val (.int p3), .unset, .unset, .unset, .unset, .unset, .unset, .unset, .unset, .unset, .unset, .unset, .unset, .unset, .unset, .unset] []))
  refine own_up (fun _ k => XS.iloadN X0.here hx rfl (hb hby at_0) rfl k) ?_
  show own_Go p.tables e below _ (s₁.setTop (mkF m 1 #[.val (.int p0), .val (.int p1), .val (.int p2), .val (.int p3), .unset, .unset, .unset, .unset, .unset, .unset, .unset, .unset, .unset, .unset, .unset, .unset, .unset, .unset, .unset] [(.int p0)]))
  refine own_up (fun _ k => XS.iconst X0.here hx rfl (hb hby at_1) k) ?_
  show own_Go p.tables e below _ (s₁.setTop (mkF m 2 #[.val (.int p0), .val (.int p1), .val (.int p2), .val (.int p3), .unset, .unset, .unset, .unset, .unset, .unset, .unset, .unset, .unset, .unset, .unset, .unset, .unset, .unset, .unset] [(.int (1 : Int32)), (.int p0)]))
  refine own_up (fun _ k => XS.iand X0.here hx rfl (hb hby at_2) rfl k) ?_
  show own_Go p.tables e below _ (s₁.setTop (mkF m 3 #[.val (.int p0), .val (.int p1), .val (.int p2), .val (.int p3), .unset, .unset, .unset, .unset, .unset, .unset, .unset, .unset, .unset, .unset, .unset, .unset, .unset, .unset, .unset] [(.int (p0 &&& (1 : Int32)))]))
  obtain ⟨v3, hv3⟩ : ∃ z : Int32, z = if (p0 &&& (1 : Int32)) = (0 : Int32) then (0 : Int32) else (1 : Int32) := ⟨_, rfl⟩
  have sg1 : ∀ t, Steps p.tables e below (s₁.setTop (mkF m 11 #[.val (.int p0), .val (.int p1), .val (.int p2), .val (.int p3), .unset, .unset, .unset, .unset, .unset, .unset, .unset, .unset, .unset, .unset, .unset, .unset, .unset, .unset, .unset] [(.int v3)])) t → Steps p.tables e below (s₁.setTop (mkF m 3 #[.val (.int p0), .val (.int p1), .val (.int p2), .val (.int p3), .unset, .unset, .unset, .unset, .unset, .unset, .unset, .unset, .unset, .unset, .unset, .unset, .unset, .unset, .unset] [(.int (p0 &&& (1 : Int32)))])) t := by
    intro t k
    by_cases hc3 : (p0 &&& (1 : Int32)) = (0 : Int32)
    · rw [hv3, if_pos hc3] at k
      refine XS.ifYes X0.here hx rfl (pc0 := 3) (pc' := 10) rfl (hb hby at_3) rfl ((if0 _ _).trans (teq hc3).1) (by decide) (by decide) ?_
      show Steps p.tables e below (s₁.setTop (mkF m 10 #[.val (.int p0), .val (.int p1), .val (.int p2), .val (.int p3), .unset, .unset, .unset, .unset, .unset, .unset, .unset, .unset, .unset, .unset, .unset, .unset, .unset, .unset, .unset] [])) _
      refine XS.iconst X0.here hx rfl (hb hby at_10) ?_
      show Steps p.tables e below (s₁.setTop (mkF m 11 #[.val (.int p0), .val (.int p1), .val (.int p2), .val (.int p3), .unset, .unset, .unset, .unset, .unset, .unset, .unset, .unset, .unset, .unset, .unset, .unset, .unset, .unset, .unset] [(.int (0 : Int32))])) _
      exact k
    · rw [hv3, if_neg hc3] at k
      refine XS.ifNo X0.here hx rfl (hb hby at_3) rfl ((if0 _ _).trans (feq hc3).1) ?_
      show Steps p.tables e below (s₁.setTop (mkF m 6 #[.val (.int p0), .val (.int p1), .val (.int p2), .val (.int p3), .unset, .unset, .unset, .unset, .unset, .unset, .unset, .unset, .unset, .unset, .unset, .unset, .unset, .unset, .unset] [])) _
      refine XS.iconst X0.here hx rfl (hb hby at_6) ?_
      show Steps p.tables e below (s₁.setTop (mkF m 7 #[.val (.int p0), .val (.int p1), .val (.int p2), .val (.int p3), .unset, .unset, .unset, .unset, .unset, .unset, .unset, .unset, .unset, .unset, .unset, .unset, .unset, .unset, .unset] [(.int (1 : Int32))])) _
      refine XS.goto X0.here hx rfl (pc0 := 7) (pc' := 11) rfl (hb hby at_7) (by decide) (by decide) ?_
      show Steps p.tables e below (s₁.setTop (mkF m 11 #[.val (.int p0), .val (.int p1), .val (.int p2), .val (.int p3), .unset, .unset, .unset, .unset, .unset, .unset, .unset, .unset, .unset, .unset, .unset, .unset, .unset, .unset, .unset] [(.int (1 : Int32))])) _
      exact k
  refine own_up sg1 ?_
  show own_Go p.tables e below _ (s₁.setTop (mkF m 11 #[.val (.int p0), .val (.int p1), .val (.int p2), .val (.int p3), .unset, .unset, .unset, .unset, .unset, .unset, .unset, .unset, .unset, .unset, .unset, .unset, .unset, .unset, .unset] [(.int v3)]))
  refine own_up (fun _ k => XS.istore X0.here hx rfl (hb hby at_11) rfl (l' := #[.val (.int p0), .val (.int p1), .val (.int p2), .val (.int p3), .val (.int v3), .unset, .unset, .unset, .unset, .unset, .unset, .unset, .unset, .unset, .unset, .unset, .unset, .unset, .unset]) rfl k) ?_
  show own_Go p.tables e below _ (s₁.setTop (mkF m 13 #[.val (.int p0), .val (.int p1), .val (.int p2), .val (.int p3), .val (.int v3), .unset, .unset, .unset, .unset, .unset, .unset, .unset, .unset, .unset, .unset, .unset, .unset, .unset, .unset] []))
  refine own_up (fun _ k => XS.iload X0.here hx rfl (hb hby at_13) rfl k) ?_
  show own_Go p.tables e below _ (s₁.setTop (mkF m 15 #[.val (.int p0), .val (.int p1), .val (.int p2), .val (.int p3), .val (.int v3), .unset, .unset, .unset, .unset, .unset, .unset, .unset, .unset, .unset, .unset, .unset, .unset, .unset, .unset] [(.int v3)]))
  by_cases hc15 : v3 = (0 : Int32)
  · refine own_up (fun _ k => XS.ifYes X0.here hx rfl (pc0 := 15) (pc' := 24) rfl (hb hby at_15) rfl ((if0 _ _).trans (teq hc15).1) (by decide) (by decide) k) ?_
    show own_Go p.tables e below _ (s₁.setTop (mkF m 24 #[.val (.int p0), .val (.int p1), .val (.int p2), .val (.int p3), .val (.int v3), .unset, .unset, .unset, .unset, .unset, .unset, .unset, .unset, .unset, .unset, .unset, .unset, .unset, .unset] []))
    obtain ⟨T2, X2, e2, st2⟩ := getS2 X0 hx hZ hown (host := "") (Or.inl (hw _ (List.mem_of_getElem? (i := 0) rfl))) Via.refl e0 S_MIN (g := (mkF m 24 #[.val (.int p0), .val (.int p1), .val (.int p2), .val (.int p3), .val (.int v3), .unset, .unset, .unset, .unset, .unset, .unset, .unset, .unset, .unset, .unset, .unset, .unset, .unset, .unset] [])) rfl (hb hby at_24)
    refine own_up st2 ?_
    show own_Go p.tables e below _ (T2.setTop (mkF m 27 #[.val (.int p0), .val (.int p1), .val (.int p2), .val (.int p3), .val (.int v3), .unset, .unset, .unset, .unset, .unset, .unset, .unset, .unset, .unset, .unset, .unset, .unset, .unset, .unset] [(.ref mn)]))
    refine own_up (fun _ k => XS.astore X2.here hx rfl (hb hby at_27) rfl rfl (l' := #[.val (.int p0), .val (.int p1), .val (.int p2), .val (.int p3), .val (.int v3), .val (.ref mn), .unset, .unset, .unset, .unset, .unset, .unset, .unset, .unset, .unset, .unset, .unset, .unset, .unset]) rfl k) ?_
    show own_Go p.tables e below _ (T2.setTop (mkF m 29 #[.val (.int p0), .val (.int p1), .val (.int p2), .val (.int p3), .val (.int v3), .val (.ref mn), .unset, .unset, .unset, .unset, .unset, .unset, .unset, .unset, .unset, .unset, .unset, .unset, .unset] []))
    refine own_up (fun _ k => XS.iloadN X2.here hx rfl (hb hby at_29) rfl k) ?_
    show own_Go p.tables e below _ (T2.setTop (mkF m 30 #[.val (.int p0), .val (.int p1), .val (.int p2), .val (.int p3), .val (.int v3), .val (.ref mn), .unset, .unset, .unset, .unset, .unset, .unset, .unset, .unset, .unset, .unset, .unset, .unset, .unset] [(.int p3)]))
    refine own_up (fun _ k => XS.iconst X2.here hx rfl (hb hby at_30) k) ?_
    show own_Go p.tables e below _ (T2.setTop (mkF m 31 #[.val (.int p0), .val (.int p1), .val (.int p2), .val (.int p3), .val (.int v3), .val (.ref mn), .unset, .unset, .unset, .unset, .unset, .unset, .unset, .unset, .unset, .unset, .unset, .unset, .unset] [(.int (3 : Int32)), (.int p3)]))
    refine own_up (fun _ k => XS.iand X2.here hx rfl (hb hby at_31) rfl k) ?_
    show own_Go p.tables e below _ (T2.setTop (mkF m 32 #[.val (.int p0), .val (.int p1), .val (.int p2), .val (.int p3), .val (.int v3), .val (.ref mn), .unset, .unset, .unset, .unset, .unset, .unset, .unset, .unset, .unset, .unset, .unset, .unset, .unset] [(.int (p3 &&& (3 : Int32)))]))
    generalize hsa : (p3 &&& (3 : Int32)) = sa
    show own_Go p.tables e below _ (T2.setTop (mkF m 32 #[.val (.int p0), .val (.int p1), .val (.int p2), .val (.int p3), .val (.int v3), .val (.ref mn), .unset, .unset, .unset, .unset, .unset, .unset, .unset, .unset, .unset, .unset, .unset, .unset, .unset] [(.int sa)]))
    refine own_up (fun _ k => XS.istore X2.here hx rfl (hb hby at_32) rfl (l' := #[.val (.int p0), .val (.int p1), .val (.int p2), .val (.int p3), .val (.int v3), .val (.ref mn), .val (.int sa), .unset, .unset, .unset, .unset, .unset, .unset, .unset, .unset, .unset, .unset, .unset, .unset]) rfl k) ?_
    show own_Go p.tables e below _ (T2.setTop (mkF m 34 #[.val (.int p0), .val (.int p1), .val (.int p2), .val (.int p3), .val (.int v3), .val (.ref mn), .val (.int sa), .unset, .unset, .unset, .unset, .unset, .unset, .unset, .unset, .unset, .unset, .unset, .unset] []))
    refine own_up (fun _ k => XS.iloadN X2.here hx rfl (hb hby at_34) rfl k) ?_
    show own_Go p.tables e below _ (T2.setTop (mkF m 35 #[.val (.int p0), .val (.int p1), .val (.int p2), .val (.int p3), .val (.int v3), .val (.ref mn), .val (.int sa), .unset, .unset, .unset, .unset, .unset, .unset, .unset, .unset, .unset, .unset, .unset, .unset] [(.int p3)]))
    refine own_up (fun _ k => XS.iconst X2.here hx rfl (hb hby at_35) k) ?_
    show own_Go p.tables e below _ (T2.setTop (mkF m 36 #[.val (.int p0), .val (.int p1), .val (.int p2), .val (.int p3), .val (.int v3), .val (.ref mn), .val (.int sa), .unset, .unset, .unset, .unset, .unset, .unset, .unset, .unset, .unset, .unset, .unset, .unset] [(.int (2 : Int32)), (.int p3)]))
    refine own_up (fun _ k => XS.iushr X2.here hx rfl (hb hby at_36) rfl k) ?_
    show own_Go p.tables e below _ (T2.setTop (mkF m 37 #[.val (.int p0), .val (.int p1), .val (.int p2), .val (.int p3), .val (.int v3), .val (.ref mn), .val (.int sa), .unset, .unset, .unset, .unset, .unset, .unset, .unset, .unset, .unset, .unset, .unset, .unset] [(.int ((p3.toUInt32 >>> ((2 : Int32) &&& 31).toUInt32).toInt32))]))
    refine own_up (fun _ k => XS.iconst X2.here hx rfl (hb hby at_37) k) ?_
    show own_Go p.tables e below _ (T2.setTop (mkF m 38 #[.val (.int p0), .val (.int p1), .val (.int p2), .val (.int p3), .val (.int v3), .val (.ref mn), .val (.int sa), .unset, .unset, .unset, .unset, .unset, .unset, .unset, .unset, .unset, .unset, .unset, .unset] [(.int (3 : Int32)), (.int ((p3.toUInt32 >>> ((2 : Int32) &&& 31).toUInt32).toInt32))]))
    refine own_up (fun _ k => XS.iand X2.here hx rfl (hb hby at_38) rfl k) ?_
    show own_Go p.tables e below _ (T2.setTop (mkF m 39 #[.val (.int p0), .val (.int p1), .val (.int p2), .val (.int p3), .val (.int v3), .val (.ref mn), .val (.int sa), .unset, .unset, .unset, .unset, .unset, .unset, .unset, .unset, .unset, .unset, .unset, .unset] [(.int (((p3.toUInt32 >>> ((2 : Int32) &&& 31).toUInt32).toInt32) &&& (3 : Int32)))]))
    generalize hsb : (((p3.toUInt32 >>> ((2 : Int32) &&& 31).toUInt32).toInt32) &&& (3 : Int32)) = sb
    show own_Go p.tables e below _ (T2.setTop (mkF m 39 #[.val (.int p0), .val (.int p1), .val (.int p2), .val (.int p3), .val (.int v3), .val (.ref mn), .val (.int sa), .unset, .unset, .unset, .unset, .unset, .unset, .unset, .unset, .unset, .unset, .unset, .unset] [(.int sb)]))
    refine own_up (fun _ k => XS.istore X2.here hx rfl (hb hby at_39) rfl (l' := #[.val (.int p0), .val (.int p1), .val (.int p2), .val (.int p3), .val (.int v3), .val (.ref mn), .val (.int sa), .val (.int sb), .unset, .unset, .unset, .unset, .unset, .unset, .unset, .unset, .unset, .unset, .unset]) rfl k) ?_
    show own_Go p.tables e below _ (T2.setTop (mkF m 41 #[.val (.int p0), .val (.int p1), .val (.int p2), .val (.int p3), .val (.int v3), .val (.ref mn), .val (.int sa), .val (.int sb), .unset, .unset, .unset, .unset, .unset, .unset, .unset, .unset, .unset, .unset, .unset] []))
    refine own_up (fun _ k => XS.iloadN X2.here hx rfl (hb hby at_41) rfl k) ?_
    show own_Go p.tables e below _ (T2.setTop (mkF m 42 #[.val (.int p0), .val (.int p1), .val (.int p2), .val (.int p3), .val (.int v3), .val (.ref mn), .val (.int sa), .val (.int sb), .unset, .unset, .unset, .unset, .unset, .unset, .unset, .unset, .unset, .unset, .unset] [(.int p3)]))
    refine own_up (fun _ k => XS.iconst X2.here hx rfl (hb hby at_42) k) ?_
    show own_Go p.tables e below _ (T2.setTop (mkF m 43 #[.val (.int p0), .val (.int p1), .val (.int p2), .val (.int p3), .val (.int v3), .val (.ref mn), .val (.int sa), .val (.int sb), .unset, .unset, .unset, .unset, .unset, .unset, .unset, .unset, .unset, .unset, .unset] [(.int (4 : Int32)), (.int p3)]))
    refine own_up (fun _ k => XS.iushr X2.here hx rfl (hb hby at_43) rfl k) ?_
    show own_Go p.tables e below _ (T2.setTop (mkF m 44 #[.val (.int p0), .val (.int p1), .val (.int p2), .val (.int p3), .val (.int v3), .val (.ref mn), .val (.int sa), .val (.int sb), .unset, .unset, .unset, .unset, .unset, .unset, .unset, .unset, .unset, .unset, .unset] [(.int ((p3.toUInt32 >>> ((4 : Int32) &&& 31).toUInt32).toInt32))]))
    refine own_up (fun _ k => XS.iconst X2.here hx rfl (hb hby at_44) k) ?_
    show own_Go p.tables e below _ (T2.setTop (mkF m 45 #[.val (.int p0), .val (.int p1), .val (.int p2), .val (.int p3), .val (.int v3), .val (.ref mn), .val (.int sa), .val (.int sb), .unset, .unset, .unset, .unset, .unset, .unset, .unset, .unset, .unset, .unset, .unset] [(.int (1 : Int32)), (.int ((p3.toUInt32 >>> ((4 : Int32) &&& 31).toUInt32).toInt32))]))
    refine own_up (fun _ k => XS.iand X2.here hx rfl (hb hby at_45) rfl k) ?_
    show own_Go p.tables e below _ (T2.setTop (mkF m 46 #[.val (.int p0), .val (.int p1), .val (.int p2), .val (.int p3), .val (.int v3), .val (.ref mn), .val (.int sa), .val (.int sb), .unset, .unset, .unset, .unset, .unset, .unset, .unset, .unset, .unset, .unset, .unset] [(.int (((p3.toUInt32 >>> ((4 : Int32) &&& 31).toUInt32).toInt32) &&& (1 : Int32)))]))
    obtain ⟨v46, hv46⟩ : ∃ z : Int32, z = if (((p3.toUInt32 >>> ((4 : Int32) &&& 31).toUInt32).toInt32) &&& (1 : Int32)) = (0 : Int32) then p2 else p1 := ⟨_, rfl⟩
    have sg3 : ∀ t, Steps p.tables e below (T2.setTop (mkF m 54 #[.val (.int p0), .val (.int p1), .val (.int p2), .val (.int p3), .val (.int v3), .val (.ref mn), .val (.int sa), .val (.int sb), .unset, .unset, .unset, .unset, .unset, .unset, .unset, .unset, .unset, .unset, .unset] [(.int v46)])) t → Steps p.tables e below (T2.setTop (mkF m 46 #[.val (.int p0), .val (.int p1), .val (.int p2), .val (.int p3), .val (.int v3), .val (.ref mn), .val (.int sa), .val (.int sb), .unset, .unset, .unset, .unset, .unset, .unset, .unset, .unset, .unset, .unset, .unset] [(.int (((p3.toUInt32 >>> ((4 : Int32) &&& 31).toUInt32).toInt32) &&& (1 : Int32)))])) t := by
      intro t k
      by_cases hc46 : (((p3.toUInt32 >>> ((4 : Int32) &&& 31).toUInt32).toInt32) &&& (1 : Int32)) = (0 : Int32)
      · rw [hv46, if_pos hc46] at k
        refine XS.ifYes X2.here hx rfl (pc0 := 46) (pc' := 53) rfl (hb hby at_46) rfl ((if0 _ _).trans (teq hc46).1) (by decide) (by decide) ?_
        show Steps p.tables e below (T2.setTop (mkF m 53 #[.val (.int p0), .val (.int p1), .val (.int p2), .val (.int p3), .val (.int v3), .val (.ref mn), .val (.int sa), .val (.int sb), .unset, .unset, .unset, .unset, .unset, .unset, .unset, .unset, .unset, .unset, .unset] [])) _
        refine XS.iloadN X2.here hx rfl (hb hby at_53) rfl ?_
        show Steps p.tables e below (T2.setTop (mkF m 54 #[.val (.int p0), .val (.int p1), .val (.int p2), .val (.int p3), .val (.int v3), .val (.ref mn), .val (.int sa), .val (.int sb), .unset, .unset, .unset, .unset, .unset, .unset, .unset, .unset, .unset, .unset, .unset] [(.int p2)])) _
        exact k
      · rw [hv46, if_neg hc46] at k
        refine XS.ifNo X2.here hx rfl (hb hby at_46) rfl ((if0 _ _).trans (feq hc46).1) ?_
        show Steps p.tables e below (T2.setTop (mkF m 49 #[.val (.int p0), .val (.int p1), .val (.int p2), .val (.int p3), .val (.int v3), .val (.ref mn), .val (.int sa), .val (.int sb), .unset, .unset, .unset, .unset, .unset, .unset, .unset, .unset, .unset, .unset, .unset] [])) _
        refine XS.iloadN X2.here hx rfl (hb hby at_49) rfl ?_
        show Steps p.tables e below (T2.setTop (mkF m 50 #[.val (.int p0), .val (.int p1), .val (.int p2), .val (.int p3), .val (.int v3), .val (.ref mn), .val (.int sa), .val (.int sb), .unset, .unset, .unset, .unset, .unset, .unset, .unset, .unset, .unset, .unset, .unset] [(.int p1)])) _
        refine XS.goto X2.here hx rfl (pc0 := 50) (pc' := 54) rfl (hb hby at_50) (by decide) (by decide) ?_
        show Steps p.tables e below (T2.setTop (mkF m 54 #[.val (.int p0), .val (.int p1), .val (.int p2), .val (.int p3), .val (.int v3), .val (.ref mn), .val (.int sa), .val (.int sb), .unset, .unset, .unset, .unset, .unset, .unset, .unset, .unset, .unset, .unset, .unset] [(.int p1)])) _
        exact k
    refine own_up sg3 ?_
    show own_Go p.tables e below _ (T2.setTop (mkF m 54 #[.val (.int p0), .val (.int p1), .val (.int p2), .val (.int p3), .val (.int v3), .val (.ref mn), .val (.int sa), .val (.int sb), .unset, .unset, .unset, .unset, .unset, .unset, .unset, .unset, .unset, .unset, .unset] [(.int v46)]))
    refine own_up (fun _ k => XS.istore X2.here hx rfl (hb hby at_54) rfl (l' := #[.val (.int p0), .val (.int p1), .val (.int p2), .val (.int p3), .val (.int v3), .val (.ref mn), .val (.int sa), .val (.int sb), .val (.int v46), .unset, .unset, .unset, .unset, .unset, .unset, .unset, .unset, .unset, .unset]) rfl k) ?_
    show own_Go p.tables e below _ (T2.setTop (mkF m 56 #[.val (.int p0), .val (.int p1), .val (.int p2), .val (.int p3), .val (.int v3), .val (.ref mn), .val (.int sa), .val (.int sb), .val (.int v46), .unset, .unset, .unset, .unset, .unset, .unset, .unset, .unset, .unset, .unset] []))
    obtain ⟨_, _, ⟨T4, L4, k4, n4⟩, -, X4, ⟨Lc4, hQ4, l4, y4, z4⟩, st4⟩ := Jvm.LawKit.callS X2 hx (y := (⟨"com/example/parley/parley/model/ObjectiveImprovementPinLaw", "inf", "()D"⟩ : MethodName)) hown (mvT hZ (hw _ (List.mem_of_getElem? (i := 3) rfl))) (mvT hZ (hw _ (List.mem_of_getElem? (i := 4) rfl))) (mvT hZ (hw _ (List.mem_of_getElem? (i := 5) rfl))) (mvT hZ (hw _ (List.mem_of_getElem? (i := 6) rfl))) (by decide) (backOf (W := 0) (rm1 l Z a0 hw [] h0 n0 Z0) hZ (hw _ (List.mem_of_getElem? (i := 6) rfl)) (hw _ (List.mem_of_getElem? (i := 5) rfl)) (by decide) (by decide)) (g := (mkF m 56 #[.val (.int p0), .val (.int p1), .val (.int p2), .val (.int p3), .val (.int v3), .val (.ref mn), .val (.int sa), .val (.int sb), .val (.int v46), .unset, .unset, .unset, .unset, .unset, .unset, .unset, .unset, .unset, .unset] [])) rfl (by rw [hml]; rfl) (argsL := []) (rest := []) (lenOf pd_0 rfl) rfl (by show 2 * 0 + _ ≤ _; exact Nat.le_of_eq rfl) (hb hby at_56) (fun _ _ => ⟨rfl, e2, (by decide : 0 + 0 ≤ _), (by decide : 0 + 0 ≤ _)⟩)
    dsimp only [Pt.U, Pt.locs, Pt.cells, Pt.slots] at X4 l4 y4 z4 st4 hQ4
    subst l4 y4 z4
    obtain ⟨rfl, Nq4, e4⟩ := hQ4
    have N4 := Fr.app N0 Nq4
    refine own_up st4 ?_
    show own_Go p.tables e below _ (T4.setTop (mkF m 59 #[.val (.int p0), .val (.int p1), .val (.int p2), .val (.int p3), .val (.int v3), .val (.ref mn), .val (.int sa), .val (.int sb), .val (.int v46), .unset, .unset, .unset, .unset, .unset, .unset, .unset, .unset, .unset, .unset] [(.double (9218868437227405312 : UInt64))]))
    refine own_up (fun _ k => XS.dstore X4.here hx rfl (hb hby at_59) rfl (l' := #[.val (.int p0), .val (.int p1), .val (.int p2), .val (.int p3), .val (.int v3), .val (.ref mn), .val (.int sa), .val (.int sb), .val (.int v46), .val (.double (9218868437227405312 : UInt64)), .second, .unset, .unset, .unset, .unset, .unset, .unset, .unset, .unset]) rfl k) ?_
    show own_Go p.tables e below _ (T4.setTop (mkF m 61 #[.val (.int p0), .val (.int p1), .val (.int p2), .val (.int p3), .val (.int v3), .val (.ref mn), .val (.int sa), .val (.int sb), .val (.int v46), .val (.double (9218868437227405312 : UInt64)), .second, .unset, .unset, .unset, .unset, .unset, .unset, .unset, .unset] []))
    refine own_up (fun _ k => XS.iload X4.here hx rfl (hb hby at_61) rfl k) ?_
    show own_Go p.tables e below _ (T4.setTop (mkF m 63 #[.val (.int p0), .val (.int p1), .val (.int p2), .val (.int p3), .val (.int v3), .val (.ref mn), .val (.int sa), .val (.int sb), .val (.int v46), .val (.double (9218868437227405312 : UInt64)), .second, .unset, .unset, .unset, .unset, .unset, .unset, .unset, .unset] [(.int sa)]))
    refine own_up (fun _ k => XS.iloadN X4.here hx rfl (hb hby at_63) rfl k) ?_
    show own_Go p.tables e below _ (T4.setTop (mkF m 64 #[.val (.int p0), .val (.int p1), .val (.int p2), .val (.int p3), .val (.int v3), .val (.ref mn), .val (.int sa), .val (.int sb), .val (.int v46), .val (.double (9218868437227405312 : UInt64)), .second, .unset, .unset, .unset, .unset, .unset, .unset, .unset, .unset] [(.int p1), (.int sa)]))
    refine own_up (fun _ k => XS.dload X4.here hx rfl (hb hby at_64) rfl k) ?_
    show own_Go p.tables e below _ (T4.setTop (mkF m 66 #[.val (.int p0), .val (.int p1), .val (.int p2), .val (.int p3), .val (.int v3), .val (.ref mn), .val (.int sa), .val (.int sb), .val (.int v46), .val (.double (9218868437227405312 : UInt64)), .second, .unset, .unset, .unset, .unset, .unset, .unset, .unset, .unset] [(.double (9218868437227405312 : UInt64)), (.int p1), (.int sa)]))
    obtain ⟨_, _, ⟨T5, L5, k5, n5⟩, -, X5, ⟨Lc5, hQ5, l5, y5, z5⟩, st5⟩ := Jvm.LawKit.callS X4 hx (y := (⟨"com/example/parley/parley/model/ObjectiveImprovementPinLaw", "pick", "(IID)D"⟩ : MethodName)) hown (mvT hZ (hw _ (List.mem_of_getElem? (i := 9) rfl))) (mvT hZ (hw _ (List.mem_of_getElem? (i := 10) rfl))) (mvT hZ (hw _ (List.mem_of_getElem? (i := 5) rfl))) (mvT hZ (hw _ (List.mem_of_getElem? (i := 11) rfl))) (by decide) (backOf (W := 0) (rm2 l Z a0 hw [] sa p1 (9218868437227405312 : UInt64) h0 n0 Z0) hZ (hw _ (List.mem_of_getElem? (i := 11) rfl)) (hw _ (List.mem_of_getElem? (i := 5) rfl)) (by decide) (by decide)) (g := (mkF m 66 #[.val (.int p0), .val (.int p1), .val (.int p2), .val (.int p3), .val (.int v3), .val (.ref mn), .val (.int sa), .val (.int sb), .val (.int v46), .val (.double (9218868437227405312 : UInt64)), .second, .unset, .unset, .unset, .unset, .unset, .unset, .unset, .unset] [(.double (9218868437227405312 : UInt64)), (.int p1), (.int sa)])) rfl (by rw [hml]; rfl) (argsL := [(.int sa), (.int p1), (.double (9218868437227405312 : UInt64))]) (rest := []) (lenOf pd_1 rfl) rfl (by show 2 * 0 + _ ≤ _; exact Nat.le_of_eq rfl) (hb hby at_66) (fun _ _ => ⟨rfl, e4, (by decide : 0 + 0 ≤ _), (by decide : 0 + 0 ≤ _)⟩)
    dsimp only [Pt.U, Pt.locs, Pt.cells, Pt.slots] at X5 l5 y5 z5 st5 hQ5
    subst l5 y5 z5
    obtain ⟨rfl, Nq5, e5⟩ := hQ5
    have N5 := Fr.app N4 Nq5
    refine own_up st5 ?_
    show own_Go p.tables e below _ (T5.setTop (mkF m 69 #[.val (.int p0), .val (.int p1), .val (.int p2), .val (.int p3), .val (.int v3), .val (.ref mn), .val (.int sa), .val (.int sb), .val (.int v46), .val (.double (9218868437227405312 : UInt64)), .second, .unset, .unset, .unset, .unset, .unset, .unset, .unset, .unset] [(.double (if sa = 2 then (9218868437227405312 : UInt64) else if sa = 3 then FP.dneg (9218868437227405312 : UInt64) else FP.i2d p1))]))
    generalize hinc : (if sa = 2 then (9218868437227405312 : UInt64) else if sa = 3 then FP.dneg (9218868437227405312 : UInt64) else FP.i2d p1) = inc
    show own_Go p.tables e below _ (T5.setTop (mkF m 69 #[.val (.int p0), .val (.int p1), .val (.int p2), .val (.int p3), .val (.int v3), .val (.ref mn), .val (.int sa), .val (.int sb), .val (.int v46), .val (.double (9218868437227405312 : UInt64)), .second, .unset, .unset, .unset, .unset, .unset, .unset, .unset, .unset] [(.double inc)]))
    have hKi : own_K inc := own_pickK hinc
    refine own_up (fun _ k => XS.dstore X5.here hx rfl (hb hby at_69) rfl (l' := #[.val (.int p0), .val (.int p1), .val (.int p2), .val (.int p3), .val (.int v3), .val (.ref mn), .val (.int sa), .val (.int sb), .val (.int v46), .val (.double (9218868437227405312 : UInt64)), .second, .val (.double inc), .second, .unset, .unset, .unset, .unset, .unset, .unset]) rfl k) ?_
    show own_Go p.tables e below _ (T5.setTop (mkF m 71 #[.val (.int p0), .val (.int p1), .val (.int p2), .val (.int p3), .val (.int v3), .val (.ref mn), .val (.int sa), .val (.int sb), .val (.int v46), .val (.double (9218868437227405312 : UInt64)), .second, .val (.double inc), .second, .unset, .unset, .unset, .unset, .unset, .unset] []))
    refine own_up (fun _ k => XS.iload X5.here hx rfl (hb hby at_71) rfl k) ?_
    show own_Go p.tables e below _ (T5.setTop (mkF m 73 #[.val (.int p0), .val (.int p1), .val (.int p2), .val (.int p3), .val (.int v3), .val (.ref mn), .val (.int sa), .val (.int sb), .val (.int v46), .val (.double (9218868437227405312 : UInt64)), .second, .val (.double inc), .second, .unset, .unset, .unset, .unset, .unset, .unset] [(.int sb)]))
    refine own_up (fun _ k => XS.iload X5.here hx rfl (hb hby at_73) rfl k) ?_
    show own_Go p.tables e below _ (T5.setTop (mkF m 75 #[.val (.int p0), .val (.int p1), .val (.int p2), .val (.int p3), .val (.int v3), .val (.ref mn), .val (.int sa), .val (.int sb), .val (.int v46), .val (.double (9218868437227405312 : UInt64)), .second, .val (.double inc), .second, .unset, .unset, .unset, .unset, .unset, .unset] [(.int v46), (.int sb)]))
    refine own_up (fun _ k => XS.dload X5.here hx rfl (hb hby at_75) rfl k) ?_
    show own_Go p.tables e below _ (T5.setTop (mkF m 77 #[.val (.int p0), .val (.int p1), .val (.int p2), .val (.int p3), .val (.int v3), .val (.ref mn), .val (.int sa), .val (.int sb), .val (.int v46), .val (.double (9218868437227405312 : UInt64)), .second, .val (.double inc), .second, .unset, .unset, .unset, .unset, .unset, .unset] [(.double (9218868437227405312 : UInt64)), (.int v46), (.int sb)]))
    obtain ⟨_, _, ⟨T6, L6, k6, n6⟩, -, X6, ⟨Lc6, hQ6, l6, y6, z6⟩, st6⟩ := Jvm.LawKit.callS X5 hx (y := (⟨"com/example/parley/parley/model/ObjectiveImprovementPinLaw", "pick", "(IID)D"⟩ : MethodName)) hown (mvT hZ (hw _ (List.mem_of_getElem? (i := 9) rfl))) (mvT hZ (hw _ (List.mem_of_getElem? (i := 10) rfl))) (mvT hZ (hw _ (List.mem_of_getElem? (i := 5) rfl))) (mvT hZ (hw _ (List.mem_of_getElem? (i := 11) rfl))) (by decide) (backOf (W := 0) (rm2 l Z a0 hw [] sb v46 (9218868437227405312 : UInt64) h0 n0 Z0) hZ (hw _ (List.mem_of_getElem? (i := 11) rfl)) (hw _ (List.mem_of_getElem? (i := 5) rfl)) (by decide) (by decide)) (g := (mkF m 77 #[.val (.int p0), .val (.int p1), .val (.int p2), .val (.int p3), .val (.int v3), .val (.ref mn), .val (.int sa), .val (.int sb), .val (.int v46), .val (.double (9218868437227405312 : UInt64)), .second, .val (.double inc), .second, .unset, .unset, .unset, .unset, .unset, .unset] [(.double (9218868437227405312 : UInt64)), (.int v46), (.int sb)])) rfl (by rw [hml]; rfl) (argsL := [(.int sb), (.int v46), (.double (9218868437227405312 : UInt64))]) (rest := []) (lenOf pd_1 rfl) rfl (by show 2 * 0 + _ ≤ _; exact Nat.le_of_eq rfl) (hb hby at_77) (fun _ _ => ⟨rfl, e5, (by decide : 0 + 0 ≤ _), (by decide : 0 + 0 ≤ _)⟩)
    dsimp only [Pt.U, Pt.locs, Pt.cells, Pt.slots] at X6 l6 y6 z6 st6 hQ6
    subst l6 y6 z6
    obtain ⟨rfl, Nq6, e6⟩ := hQ6
    have N6 := Fr.app N5 Nq6
    refine own_up st6 ?_
    show own_Go p.tables e below _ (T6.setTop (mkF m 80 #[.val (.int p0), .val (.int p1), .val (.int p2), .val (.int p3), .val (.int v3), .val (.ref mn), .val (.int sa), .val (.int sb), .val (.int v46), .val (.double (9218868437227405312 : UInt64)), .second, .val (.double inc), .second, .unset, .unset, .unset, .unset, .unset, .unset] [(.double (if sb = 2 then (9218868437227405312 : UInt64) else if sb = 3 then FP.dneg (9218868437227405312 : UInt64) else FP.i2d v46))]))
    generalize hcand : (if sb = 2 then (9218868437227405312 : UInt64) else if sb = 3 then FP.dneg (9218868437227405312 : UInt64) else FP.i2d v46) = cand
    show own_Go p.tables e below _ (T6.setTop (mkF m 80 #[.val (.int p0), .val (.int p1), .val (.int p2), .val (.int p3), .val (.int v3), .val (.ref mn), .val (.int sa), .val (.int sb), .val (.int v46), .val (.double (9218868437227405312 : UInt64)), .second, .val (.double inc), .second, .unset, .unset, .unset, .unset, .unset, .unset] [(.double cand)]))
    have hKc : own_K cand := own_pickK hcand
    refine own_up (fun _ k => XS.dstore X6.here hx rfl (hb hby at_80) rfl (l' := #[.val (.int p0), .val (.int p1), .val (.int p2), .val (.int p3), .val (.int v3), .val (.ref mn), .val (.int sa), .val (.int sb), .val (.int v46), .val (.double (9218868437227405312 : UInt64)), .second, .val (.double inc), .second, .val (.double cand), .second, .unset, .unset, .unset, .unset]) rfl k) ?_
    show own_Go p.tables e below _ (T6.setTop (mkF m 82 #[.val (.int p0), .val (.int p1), .val (.int p2), .val (.int p3), .val (.int v3), .val (.ref mn), .val (.int sa), .val (.int sb), .val (.int v46), .val (.double (9218868437227405312 : UInt64)), .second, .val (.double inc), .second, .val (.double cand), .second, .unset, .unset, .unset, .unset] []))
    refine own_up (fun _ k => XS.aload X6.here hx rfl (hb hby at_82) rfl rfl k) ?_
    show own_Go p.tables e below _ (T6.setTop (mkF m 84 #[.val (.int p0), .val (.int p1), .val (.int p2), .val (.int p3), .val (.int v3), .val (.ref mn), .val (.int sa), .val (.int sb), .val (.int v46), .val (.double (9218868437227405312 : UInt64)), .second, .val (.double inc), .second, .val (.double cand), .second, .unset, .unset, .unset, .unset] [(.ref mn)]))
    refine own_up (fun _ k => XS.dload X6.here hx rfl (hb hby at_84) rfl k) ?_
    show own_Go p.tables e below _ (T6.setTop (mkF m 86 #[.val (.int p0), .val (.int p1), .val (.int p2), .val (.int p3), .val (.int v3), .val (.ref mn), .val (.int sa), .val (.int sb), .val (.int v46), .val (.double (9218868437227405312 : UInt64)), .second, .val (.double inc), .second, .val (.double cand), .second, .unset, .unset, .unset, .unset] [(.double inc), (.ref mn)]))
    refine own_up (fun _ k => XS.dload X6.here hx rfl (hb hby at_86) rfl k) ?_
    show own_Go p.tables e below _ (T6.setTop (mkF m 88 #[.val (.int p0), .val (.int p1), .val (.int p2), .val (.int p3), .val (.int v3), .val (.ref mn), .val (.int sa), .val (.int sb), .val (.int v46), .val (.double (9218868437227405312 : UInt64)), .second, .val (.double inc), .second, .val (.double cand), .second, .unset, .unset, .unset, .unset] [(.double cand), (.double inc), (.ref mn)]))
    obtain ⟨cq7, kq7, q7a, q7b, q7c⟩ := isOf hZ e6 E_mn
    obtain ⟨_, _, ⟨T7, L7, k7, n7⟩, -, X7, ⟨Lc7, hQ7, l7, y7, z7⟩, st7⟩ := X6.virtualBack hx (y := (⟨"com/example/parley/parley/model/Objective", "improvement", "(DD)D"⟩ : MethodName)) (z := (⟨"com/example/parley/parley/model/Objective", "improvement", "(DD)D"⟩ : MethodName)) hown (mvT hZ (hw _ (List.mem_of_getElem? (i := 12) rfl))) (mvT hZ (hw _ (List.mem_of_getElem? (i := 13) rfl))) (notFace_of_selects (args := #[]) (mvT hZ (hw _ (List.mem_of_getElem? (i := 15) rfl)))) (mvT hZ (hw _ (List.mem_of_getElem? (i := 15) rfl))) (mvT hZ (hw _ (List.mem_of_getElem? (i := 14) rfl))) (by decide) (backOf (W := 0) (rm3 l Z a0 hw [] mn inc cand mn h0 n0 Z0 S_MIN (fun q _ => own_nn hKi hKc q) (fun q _ => own_nn' hKi hKc q)) hZ (hw _ (List.mem_of_getElem? (i := 16) rfl)) (hw _ (List.mem_of_getElem? (i := 1) rfl)) (by decide) (by decide)) q7a q7c (g := (mkF m 88 #[.val (.int p0), .val (.int p1), .val (.int p2), .val (.int p3), .val (.int v3), .val (.ref mn), .val (.int sa), .val (.int sb), .val (.int v46), .val (.double (9218868437227405312 : UInt64)), .second, .val (.double inc), .second, .val (.double cand), .second, .unset, .unset, .unset, .unset] [(.double cand), (.double inc), (.ref mn)])) rfl (by rw [hml]; rfl) (Steps.refl _) (argsL := [(.double inc), (.double cand)]) (rest := []) (lenOf pd_2 rfl) rfl (by show 2 * 0 + _ ≤ _; exact Nat.le_of_eq rfl) (hb hby at_88) (fun _ _ => ⟨rfl, e6, (by decide : 0 + 0 ≤ _), (by decide : 0 + 0 ≤ _)⟩)
    dsimp only [Pt.U, Pt.locs, Pt.cells, Pt.slots] at X7 l7 y7 z7 st7 hQ7
    subst l7 y7 z7
    obtain ⟨rfl, Nq7, e7⟩ := hQ7
    have N7 := Fr.app N6 Nq7
    refine own_up (fun _ k => st7.trans k) ?_
    show own_Go p.tables e below _ (T7.setTop (mkF m 91 #[.val (.int p0), .val (.int p1), .val (.int p2), .val (.int p3), .val (.int v3), .val (.ref mn), .val (.int sa), .val (.int sb), .val (.int v46), .val (.double (9218868437227405312 : UInt64)), .second, .val (.double inc), .second, .val (.double cand), .second, .unset, .unset, .unset, .unset] [(.double (if cmpValue (FP.dcmp cand inc) .l = 0 then (0 : UInt64) else if mn = mn then FP.dsub inc cand else FP.dsub cand inc))]))
    generalize hr : (if cmpValue (FP.dcmp cand inc) .l = 0 then (0 : UInt64) else if mn = mn then FP.dsub inc cand else FP.dsub cand inc) = r
    show own_Go p.tables e below _ (T7.setTop (mkF m 91 #[.val (.int p0), .val (.int p1), .val (.int p2), .val (.int p3), .val (.int v3), .val (.ref mn), .val (.int sa), .val (.int sb), .val (.int v46), .val (.double (9218868437227405312 : UInt64)), .second, .val (.double inc), .second, .val (.double cand), .second, .unset, .unset, .unset, .unset] [(.double r)]))
    refine own_up (fun _ k => XS.dstore X7.here hx rfl (hb hby at_91) rfl (l' := #[.val (.int p0), .val (.int p1), .val (.int p2), .val (.int p3), .val (.int v3), .val (.ref mn), .val (.int sa), .val (.int sb), .val (.int v46), .val (.double (9218868437227405312 : UInt64)), .second, .val (.double inc), .second, .val (.double cand), .second, .val (.double r), .second, .unset, .unset]) rfl k) ?_
    show own_Go p.tables e below _ (T7.setTop (mkF m 93 #[.val (.int p0), .val (.int p1), .val (.int p2), .val (.int p3), .val (.int v3), .val (.ref mn), .val (.int sa), .val (.int sb), .val (.int v46), .val (.double (9218868437227405312 : UInt64)), .second, .val (.double inc), .second, .val (.double cand), .second, .val (.double r), .second, .unset, .unset] []))
    refine own_up (fun _ k => XS.iload X7.here hx rfl (hb hby at_93) rfl k) ?_
    show own_Go p.tables e below _ (T7.setTop (mkF m 95 #[.val (.int p0), .val (.int p1), .val (.int p2), .val (.int p3), .val (.int v3), .val (.ref mn), .val (.int sa), .val (.int sb), .val (.int v46), .val (.double (9218868437227405312 : UInt64)), .second, .val (.double inc), .second, .val (.double cand), .second, .val (.double r), .second, .unset, .unset] [(.int sa)]))
    refine own_up (fun _ k => XS.iconst X7.here hx rfl (hb hby at_95) k) ?_
    show own_Go p.tables e below _ (T7.setTop (mkF m 96 #[.val (.int p0), .val (.int p1), .val (.int p2), .val (.int p3), .val (.int v3), .val (.ref mn), .val (.int sa), .val (.int sb), .val (.int v46), .val (.double (9218868437227405312 : UInt64)), .second, .val (.double inc), .second, .val (.double cand), .second, .val (.double r), .second, .unset, .unset] [(.int (2 : Int32)), (.int sa)]))
    by_cases hc96 : sa < (2 : Int32)
    · refine own_up (fun _ k => XS.icmpNo X7.here hx rfl (hb hby at_96) rfl (tlt hc96).2.1 k) ?_
      show own_Go p.tables e below _ (T7.setTop (mkF m 99 #[.val (.int p0), .val (.int p1), .val (.int p2), .val (.int p3), .val (.int v3), .val (.ref mn), .val (.int sa), .val (.int sb), .val (.int v46), .val (.double (9218868437227405312 : UInt64)), .second, .val (.double inc), .second, .val (.double cand), .second, .val (.double r), .second, .unset, .unset] []))
      refine own_up (fun _ k => XS.iload X7.here hx rfl (hb hby at_99) rfl k) ?_
      show own_Go p.tables e below _ (T7.setTop (mkF m 101 #[.val (.int p0), .val (.int p1), .val (.int p2), .val (.int p3), .val (.int v3), .val (.ref mn), .val (.int sa), .val (.int sb), .val (.int v46), .val (.double (9218868437227405312 : UInt64)), .second, .val (.double inc), .second, .val (.double cand), .second, .val (.double r), .second, .unset, .unset] [(.int sb)]))
      refine own_up (fun _ k => XS.iconst X7.here hx rfl (hb hby at_101) k) ?_
      show own_Go p.tables e below _ (T7.setTop (mkF m 102 #[.val (.int p0), .val (.int p1), .val (.int p2), .val (.int p3), .val (.int v3), .val (.ref mn), .val (.int sa), .val (.int sb), .val (.int v46), .val (.double (9218868437227405312 : UInt64)), .second, .val (.double inc), .second, .val (.double cand), .second, .val (.double r), .second, .unset, .unset] [(.int (2 : Int32)), (.int sb)]))
      by_cases hc102 : sb < (2 : Int32)
      · refine own_up (fun _ k => XS.icmpNo X7.here hx rfl (hb hby at_102) rfl (tlt hc102).2.1 k) ?_
        show own_Go p.tables e below _ (T7.setTop (mkF m 105 #[.val (.int p0), .val (.int p1), .val (.int p2), .val (.int p3), .val (.int v3), .val (.ref mn), .val (.int sa), .val (.int sb), .val (.int v46), .val (.double (9218868437227405312 : UInt64)), .second, .val (.double inc), .second, .val (.double cand), .second, .val (.double r), .second, .unset, .unset] []))
        refine own_up (fun _ k => XS.iload X7.here hx rfl (hb hby at_105) rfl k) ?_
        show own_Go p.tables e below _ (T7.setTop (mkF m 107 #[.val (.int p0), .val (.int p1), .val (.int p2), .val (.int p3), .val (.int v3), .val (.ref mn), .val (.int sa), .val (.int sb), .val (.int v46), .val (.double (9218868437227405312 : UInt64)), .second, .val (.double inc), .second, .val (.double cand), .second, .val (.double r), .second, .unset, .unset] [(.int v3)]))
        refine own_up (fun _ k => XS.ifYes X7.here hx rfl (pc0 := 107) (pc' := 119) rfl (hb hby at_107) rfl ((if0 _ _).trans (teq hc15).1) (by decide) (by decide) k) ?_
        show own_Go p.tables e below _ (T7.setTop (mkF m 119 #[.val (.int p0), .val (.int p1), .val (.int p2), .val (.int p3), .val (.int v3), .val (.ref mn), .val (.int sa), .val (.int sb), .val (.int v46), .val (.double (9218868437227405312 : UInt64)), .second, .val (.double inc), .second, .val (.double cand), .second, .val (.double r), .second, .unset, .unset] []))
        refine own_up (fun _ k => XS.iloadN X7.here hx rfl (hb hby at_119) rfl k) ?_
        show own_Go p.tables e below _ (T7.setTop (mkF m 120 #[.val (.int p0), .val (.int p1), .val (.int p2), .val (.int p3), .val (.int v3), .val (.ref mn), .val (.int sa), .val (.int sb), .val (.int v46), .val (.double (9218868437227405312 : UInt64)), .second, .val (.double inc), .second, .val (.double cand), .second, .val (.double r), .second, .unset, .unset] [(.int p1)]))
        refine own_up (fun _ k => XS.i2l X7.here hx rfl (hb hby at_120) rfl k) ?_
        show own_Go p.tables e below _ (T7.setTop (mkF m 121 #[.val (.int p0), .val (.int p1), .val (.int p2), .val (.int p3), .val (.int v3), .val (.ref mn), .val (.int sa), .val (.int sb), .val (.int v46), .val (.double (9218868437227405312 : UInt64)), .second, .val (.double inc), .second, .val (.double cand), .second, .val (.double r), .second, .unset, .unset] [(.long p1.toInt64)]))
        refine own_up (fun _ k => XS.iload X7.here hx rfl (hb hby at_121) rfl k) ?_
        show own_Go p.tables e below _ (T7.setTop (mkF m 123 #[.val (.int p0), .val (.int p1), .val (.int p2), .val (.int p3), .val (.int v3), .val (.ref mn), .val (.int sa), .val (.int sb), .val (.int v46), .val (.double (9218868437227405312 : UInt64)), .second, .val (.double inc), .second, .val (.double cand), .second, .val (.double r), .second, .unset, .unset] [(.int v46), (.long p1.toInt64)]))
        refine own_up (fun _ k => XS.i2l X7.here hx rfl (hb hby at_123) rfl k) ?_
        show own_Go p.tables e below _ (T7.setTop (mkF m 124 #[.val (.int p0), .val (.int p1), .val (.int p2), .val (.int p3), .val (.int v3), .val (.ref mn), .val (.int sa), .val (.int sb), .val (.int v46), .val (.double (9218868437227405312 : UInt64)), .second, .val (.double inc), .second, .val (.double cand), .second, .val (.double r), .second, .unset, .unset] [(.long v46.toInt64), (.long p1.toInt64)]))
        refine own_up (fun _ k => XS.lsub X7.here hx rfl (hb hby at_124) rfl k) ?_
        show own_Go p.tables e below _ (T7.setTop (mkF m 125 #[.val (.int p0), .val (.int p1), .val (.int p2), .val (.int p3), .val (.int v3), .val (.ref mn), .val (.int sa), .val (.int sb), .val (.int v46), .val (.double (9218868437227405312 : UInt64)), .second, .val (.double inc), .second, .val (.double cand), .second, .val (.double r), .second, .unset, .unset] [(.long (p1.toInt64 - v46.toInt64))]))
        refine own_up (fun _ k => XS.lstore X7.here hx rfl (hb hby at_125) rfl (l' := #[.val (.int p0), .val (.int p1), .val (.int p2), .val (.int p3), .val (.int v3), .val (.ref mn), .val (.int sa), .val (.int sb), .val (.int v46), .val (.double (9218868437227405312 : UInt64)), .second, .val (.double inc), .second, .val (.double cand), .second, .val (.double r), .second, .val (.long (p1.toInt64 - v46.toInt64)), .second]) rfl k) ?_
        show own_Go p.tables e below _ (T7.setTop (mkF m 127 #[.val (.int p0), .val (.int p1), .val (.int p2), .val (.int p3), .val (.int v3), .val (.ref mn), .val (.int sa), .val (.int sb), .val (.int v46), .val (.double (9218868437227405312 : UInt64)), .second, .val (.double inc), .second, .val (.double cand), .second, .val (.double r), .second, .val (.long (p1.toInt64 - v46.toInt64)), .second] []))
        refine own_up (fun _ k => XS.dload X7.here hx rfl (hb hby at_127) rfl k) ?_
        show own_Go p.tables e below _ (T7.setTop (mkF m 129 #[.val (.int p0), .val (.int p1), .val (.int p2), .val (.int p3), .val (.int v3), .val (.ref mn), .val (.int sa), .val (.int sb), .val (.int v46), .val (.double (9218868437227405312 : UInt64)), .second, .val (.double inc), .second, .val (.double cand), .second, .val (.double r), .second, .val (.long (p1.toInt64 - v46.toInt64)), .second] [(.double r)]))
        refine own_up (fun _ k => XS.lload X7.here hx rfl (hb hby at_129) rfl k) ?_
        show own_Go p.tables e below _ (T7.setTop (mkF m 131 #[.val (.int p0), .val (.int p1), .val (.int p2), .val (.int p3), .val (.int v3), .val (.ref mn), .val (.int sa), .val (.int sb), .val (.int v46), .val (.double (9218868437227405312 : UInt64)), .second, .val (.double inc), .second, .val (.double cand), .second, .val (.double r), .second, .val (.long (p1.toInt64 - v46.toInt64)), .second] [(.long (p1.toInt64 - v46.toInt64)), (.double r)]))
        refine own_up (fun _ k => XS.l2dS X7.here hx rfl (v := (FP.l2d (p1.toInt64 - v46.toInt64))) (hb hby at_131) rfl rfl k) ?_
        show own_Go p.tables e below _ (T7.setTop (mkF m 132 #[.val (.int p0), .val (.int p1), .val (.int p2), .val (.int p3), .val (.int v3), .val (.ref mn), .val (.int sa), .val (.int sb), .val (.int v46), .val (.double (9218868437227405312 : UInt64)), .second, .val (.double inc), .second, .val (.double cand), .second, .val (.double r), .second, .val (.long (p1.toInt64 - v46.toInt64)), .second] [(.double (FP.l2d (p1.toInt64 - v46.toInt64))), (.double r)]))
        refine own_up (fun _ k => XS.dcmpS X7.here hx rfl (v := (cmpValue (FP.dcmp r (FP.l2d (p1.toInt64 - v46.toInt64))) .l)) (hb hby at_132) rfl rfl k) ?_
        show own_Go p.tables e below _ (T7.setTop (mkF m 133 #[.val (.int p0), .val (.int p1), .val (.int p2), .val (.int p3), .val (.int v3), .val (.ref mn), .val (.int sa), .val (.int sb), .val (.int v46), .val (.double (9218868437227405312 : UInt64)), .second, .val (.double inc), .second, .val (.double cand), .second, .val (.double r), .second, .val (.long (p1.toInt64 - v46.toInt64)), .second] [(.int (cmpValue (FP.dcmp r (FP.l2d (p1.toInt64 - v46.toInt64))) .l))]))
        refine own_up (fun _ k => XS.ifNo X7.here hx rfl (hb hby at_133) rfl ((if0 _ _).trans (teq (own_fin_min (by first | exact hmm | exact rfl) p1 v46 hsa hsb hinc hcand hc96 hc102 hr)).2) k) ?_
        show own_Go p.tables e below _ (T7.setTop (mkF m 136 #[.val (.int p0), .val (.int p1), .val (.int p2), .val (.int p3), .val (.int v3), .val (.ref mn), .val (.int sa), .val (.int sb), .val (.int v46), .val (.double (9218868437227405312 : UInt64)), .second, .val (.double inc), .second, .val (.double cand), .second, .val (.double r), .second, .val (.long (p1.toInt64 - v46.toInt64)), .second] []))
        refine own_up (fun _ k => XS.iconst X7.here hx rfl (hb hby at_136) k) ?_
        show own_Go p.tables e below _ (T7.setTop (mkF m 137 #[.val (.int p0), .val (.int p1), .val (.int p2), .val (.int p3), .val (.int v3), .val (.ref mn), .val (.int sa), .val (.int sb), .val (.int v46), .val (.double (9218868437227405312 : UInt64)), .second, .val (.double inc), .second, .val (.double cand), .second, .val (.double r), .second, .val (.long (p1.toInt64 - v46.toInt64)), .second] [(.int (1 : Int32))]))
        refine own_up (fun _ k => XS.goto X7.here hx rfl (pc0 := 137) (pc' := 141) rfl (hb hby at_137) (by decide) (by decide) k) ?_
        show own_Go p.tables e below _ (T7.setTop (mkF m 141 #[.val (.int p0), .val (.int p1), .val (.int p2), .val (.int p3), .val (.int v3), .val (.ref mn), .val (.int sa), .val (.int sb), .val (.int v46), .val (.double (9218868437227405312 : UInt64)), .second, .val (.double inc), .second, .val (.double cand), .second, .val (.double r), .second, .val (.long (p1.toInt64 - v46.toInt64)), .second] [(.int (1 : Int32))]))
        obtain ⟨fs8, hr8, hrun8, hended8, hW8, hsame8⟩ := X7.leave (v := some (.int (1 : Int32))) (fun h => by rw [Bd.returns] at h; cases h)
        refine own_end ⟨_, _, ?_, hrun8, hended8, _, _, rfl, ?_, ⟨_, rfl⟩, hW8, hsame8.mono (by decide) (by decide)⟩
        · exact retN X7 hx (t := .boolean) Bd.returns (by simp) (hb hby at_141) hr8
        · show Qrm0 Z p0 p1 p2 p3 mn mx h0 n0 _ T7.heap _
          rw [e7]
          exact ⟨rfl, N7⟩
      · refine own_up (fun _ k => XS.icmpYes X7.here hx rfl (pc0 := 102) (pc' := 142) rfl (hb hby at_102) rfl (flt hc102).2.1 (by decide) (by decide) k) ?_
        show own_Go p.tables e below _ (T7.setTop (mkF m 142 #[.val (.int p0), .val (.int p1), .val (.int p2), .val (.int p3), .val (.int v3), .val (.ref mn), .val (.int sa), .val (.int sb), .val (.int v46), .val (.double (9218868437227405312 : UInt64)), .second, .val (.double inc), .second, .val (.double cand), .second, .val (.double r), .second, .unset, .unset] []))
        refine own_up (fun _ k => XS.dload X7.here hx rfl (hb hby at_142) rfl k) ?_
        show own_Go p.tables e below _ (T7.setTop (mkF m 144 #[.val (.int p0), .val (.int p1), .val (.int p2), .val (.int p3), .val (.int v3), .val (.ref mn), .val (.int sa), .val (.int sb), .val (.int v46), .val (.double (9218868437227405312 : UInt64)), .second, .val (.double inc), .second, .val (.double cand), .second, .val (.double r), .second, .unset, .unset] [(.double inc)]))
        refine own_up (fun _ k => XS.dload X7.here hx rfl (hb hby at_144) rfl k) ?_
        show own_Go p.tables e below _ (T7.setTop (mkF m 146 #[.val (.int p0), .val (.int p1), .val (.int p2), .val (.int p3), .val (.int v3), .val (.ref mn), .val (.int sa), .val (.int sb), .val (.int v46), .val (.double (9218868437227405312 : UInt64)), .second, .val (.double inc), .second, .val (.double cand), .second, .val (.double r), .second, .unset, .unset] [(.double cand), (.double inc)]))
        refine own_up (fun _ k => XS.dcmpS X7.here hx rfl (v := (cmpValue (FP.dcmp inc cand) .l)) (hb hby at_146) rfl rfl k) ?_
        show own_Go p.tables e below _ (T7.setTop (mkF m 147 #[.val (.int p0), .val (.int p1), .val (.int p2), .val (.int p3), .val (.int v3), .val (.ref mn), .val (.int sa), .val (.int sb), .val (.int v46), .val (.double (9218868437227405312 : UInt64)), .second, .val (.double inc), .second, .val (.double cand), .second, .val (.double r), .second, .unset, .unset] [(.int (cmpValue (FP.dcmp inc cand) .l))]))
        by_cases hc147 : (cmpValue (FP.dcmp inc cand) .l) = (0 : Int32)
        · refine own_up (fun _ k => XS.ifNo X7.here hx rfl (hb hby at_147) rfl ((if0 _ _).trans (teq hc147).2) k) ?_
          show own_Go p.tables e below _ (T7.setTop (mkF m 150 #[.val (.int p0), .val (.int p1), .val (.int p2), .val (.int p3), .val (.int v3), .val (.ref mn), .val (.int sa), .val (.int sb), .val (.int v46), .val (.double (9218868437227405312 : UInt64)), .second, .val (.double inc), .second, .val (.double cand), .second, .val (.double r), .second, .unset, .unset] []))
          refine own_up (fun _ k => XS.dload X7.here hx rfl (hb hby at_150) rfl k) ?_
          show own_Go p.tables e below _ (T7.setTop (mkF m 152 #[.val (.int p0), .val (.int p1), .val (.int p2), .val (.int p3), .val (.int v3), .val (.ref mn), .val (.int sa), .val (.int sb), .val (.int v46), .val (.double (9218868437227405312 : UInt64)), .second, .val (.double inc), .second, .val (.double cand), .second, .val (.double r), .second, .unset, .unset] [(.double r)]))
          refine own_up (fun _ k => XS.dconst0 X7.here hx rfl (v := (0 : UInt64)) (hb hby at_152) rfl k) ?_
          show own_Go p.tables e below _ (T7.setTop (mkF m 153 #[.val (.int p0), .val (.int p1), .val (.int p2), .val (.int p3), .val (.int v3), .val (.ref mn), .val (.int sa), .val (.int sb), .val (.int v46), .val (.double (9218868437227405312 : UInt64)), .second, .val (.double inc), .second, .val (.double cand), .second, .val (.double r), .second, .unset, .unset] [(.double (0 : UInt64)), (.double r)]))
          refine own_up (fun _ k => XS.dcmpS X7.here hx rfl (v := (cmpValue (FP.dcmp r (0 : UInt64)) .l)) (hb hby at_153) rfl rfl k) ?_
          show own_Go p.tables e below _ (T7.setTop (mkF m 154 #[.val (.int p0), .val (.int p1), .val (.int p2), .val (.int p3), .val (.int v3), .val (.ref mn), .val (.int sa), .val (.int sb), .val (.int v46), .val (.double (9218868437227405312 : UInt64)), .second, .val (.double inc), .second, .val (.double cand), .second, .val (.double r), .second, .unset, .unset] [(.int (cmpValue (FP.dcmp r (0 : UInt64)) .l))]))
          refine own_up (fun _ k => XS.ifNo X7.here hx rfl (hb hby at_154) rfl ((if0 _ _).trans (teq (own_zero hKi hKc hc147 hr)).2) k) ?_
          show own_Go p.tables e below _ (T7.setTop (mkF m 157 #[.val (.int p0), .val (.int p1), .val (.int p2), .val (.int p3), .val (.int v3), .val (.ref mn), .val (.int sa), .val (.int sb), .val (.int v46), .val (.double (9218868437227405312 : UInt64)), .second, .val (.double inc), .second, .val (.double cand), .second, .val (.double r), .second, .unset, .unset] []))
          refine own_up (fun _ k => XS.iconst X7.here hx rfl (hb hby at_157) k) ?_
          show own_Go p.tables e below _ (T7.setTop (mkF m 158 #[.val (.int p0), .val (.int p1), .val (.int p2), .val (.int p3), .val (.int v3), .val (.ref mn), .val (.int sa), .val (.int sb), .val (.int v46), .val (.double (9218868437227405312 : UInt64)), .second, .val (.double inc), .second, .val (.double cand), .second, .val (.double r), .second, .unset, .unset] [(.int (1 : Int32))]))
          refine own_up (fun _ k => XS.goto X7.here hx rfl (pc0 := 158) (pc' := 162) rfl (hb hby at_158) (by decide) (by decide) k) ?_
          show own_Go p.tables e below _ (T7.setTop (mkF m 162 #[.val (.int p0), .val (.int p1), .val (.int p2), .val (.int p3), .val (.int v3), .val (.ref mn), .val (.int sa), .val (.int sb), .val (.int v46), .val (.double (9218868437227405312 : UInt64)), .second, .val (.double inc), .second, .val (.double cand), .second, .val (.double r), .second, .unset, .unset] [(.int (1 : Int32))]))
          obtain ⟨fs9, hr9, hrun9, hended9, hW9, hsame9⟩ := X7.leave (v := some (.int (1 : Int32))) (fun h => by rw [Bd.returns] at h; cases h)
          refine own_end ⟨_, _, ?_, hrun9, hended9, _, _, rfl, ?_, ⟨_, rfl⟩, hW9, hsame9.mono (by decide) (by decide)⟩
          · exact retN X7 hx (t := .boolean) Bd.returns (by simp) (hb hby at_162) hr9
          · show Qrm0 Z p0 p1 p2 p3 mn mx h0 n0 _ T7.heap _
            rw [e7]
            exact ⟨rfl, N7⟩
        · refine own_up (fun _ k => XS.ifYes X7.here hx rfl (pc0 := 147) (pc' := 163) rfl (hb hby at_147) rfl ((if0 _ _).trans (feq hc147).2) (by decide) (by decide) k) ?_
          show own_Go p.tables e below _ (T7.setTop (mkF m 163 #[.val (.int p0), .val (.int p1), .val (.int p2), .val (.int p3), .val (.int v3), .val (.ref mn), .val (.int sa), .val (.int sb), .val (.int v46), .val (.double (9218868437227405312 : UInt64)), .second, .val (.double inc), .second, .val (.double cand), .second, .val (.double r), .second, .unset, .unset] []))
          refine own_up (fun _ k => XS.iload X7.here hx rfl (hb hby at_163) rfl k) ?_
          show own_Go p.tables e below _ (T7.setTop (mkF m 165 #[.val (.int p0), .val (.int p1), .val (.int p2), .val (.int p3), .val (.int v3), .val (.ref mn), .val (.int sa), .val (.int sb), .val (.int v46), .val (.double (9218868437227405312 : UInt64)), .second, .val (.double inc), .second, .val (.double cand), .second, .val (.double r), .second, .unset, .unset] [(.int v3)]))
          refine own_up (fun _ k => XS.ifYes X7.here hx rfl (pc0 := 165) (pc' := 184) rfl (hb hby at_165) rfl ((if0 _ _).trans (teq hc15).1) (by decide) (by decide) k) ?_
          show own_Go p.tables e below _ (T7.setTop (mkF m 184 #[.val (.int p0), .val (.int p1), .val (.int p2), .val (.int p3), .val (.int v3), .val (.ref mn), .val (.int sa), .val (.int sb), .val (.int v46), .val (.double (9218868437227405312 : UInt64)), .second, .val (.double inc), .second, .val (.double cand), .second, .val (.double r), .second, .unset, .unset] []))
          refine own_up (fun _ k => XS.dload X7.here hx rfl (hb hby at_184) rfl k) ?_
          show own_Go p.tables e below _ (T7.setTop (mkF m 186 #[.val (.int p0), .val (.int p1), .val (.int p2), .val (.int p3), .val (.int v3), .val (.ref mn), .val (.int sa), .val (.int sb), .val (.int v46), .val (.double (9218868437227405312 : UInt64)), .second, .val (.double inc), .second, .val (.double cand), .second, .val (.double r), .second, .unset, .unset] [(.double cand)]))
          refine own_up (fun _ k => XS.dload X7.here hx rfl (hb hby at_186) rfl k) ?_
          show own_Go p.tables e below _ (T7.setTop (mkF m 188 #[.val (.int p0), .val (.int p1), .val (.int p2), .val (.int p3), .val (.int v3), .val (.ref mn), .val (.int sa), .val (.int sb), .val (.int v46), .val (.double (9218868437227405312 : UInt64)), .second, .val (.double inc), .second, .val (.double cand), .second, .val (.double r), .second, .unset, .unset] [(.double inc), (.double cand)]))
          refine own_up (fun _ k => XS.dcmpS X7.here hx rfl (v := (cmpValue (FP.dcmp cand inc) .g)) (hb hby at_188) rfl rfl k) ?_
          show own_Go p.tables e below _ (T7.setTop (mkF m 189 #[.val (.int p0), .val (.int p1), .val (.int p2), .val (.int p3), .val (.int v3), .val (.ref mn), .val (.int sa), .val (.int sb), .val (.int v46), .val (.double (9218868437227405312 : UInt64)), .second, .val (.double inc), .second, .val (.double cand), .second, .val (.double r), .second, .unset, .unset] [(.int (cmpValue (FP.dcmp cand inc) .g))]))
          obtain ⟨v189, hv189⟩ : ∃ z : Int32, z = if (cmpValue (FP.dcmp cand inc) .g) < (0 : Int32) then (1 : Int32) else (0 : Int32) := ⟨_, rfl⟩
          have sg10 : ∀ t, Steps p.tables e below (T7.setTop (mkF m 197 #[.val (.int p0), .val (.int p1), .val (.int p2), .val (.int p3), .val (.int v3), .val (.ref mn), .val (.int sa), .val (.int sb), .val (.int v46), .val (.double (9218868437227405312 : UInt64)), .second, .val (.double inc), .second, .val (.double cand), .second, .val (.double r), .second, .unset, .unset] [(.int v189)])) t → Steps p.tables e below (T7.setTop (mkF m 189 #[.val (.int p0), .val (.int p1), .val (.int p2), .val (.int p3), .val (.int v3), .val (.ref mn), .val (.int sa), .val (.int sb), .val (.int v46), .val (.double (9218868437227405312 : UInt64)), .second, .val (.double inc), .second, .val (.double cand), .second, .val (.double r), .second, .unset, .unset] [(.int (cmpValue (FP.dcmp cand inc) .g))])) t := by
            intro t k
            by_cases hc189 : (cmpValue (FP.dcmp cand inc) .g) < (0 : Int32)
            · rw [hv189, if_pos hc189] at k
              refine XS.ifNo X7.here hx rfl (hb hby at_189) rfl ((if0 _ _).trans (tlt hc189).2.1) ?_
              show Steps p.tables e below (T7.setTop (mkF m 192 #[.val (.int p0), .val (.int p1), .val (.int p2), .val (.int p3), .val (.int v3), .val (.ref mn), .val (.int sa), .val (.int sb), .val (.int v46), .val (.double (9218868437227405312 : UInt64)), .second, .val (.double inc), .second, .val (.double cand), .second, .val (.double r), .second, .unset, .unset] [])) _
              refine XS.iconst X7.here hx rfl (hb hby at_192) ?_
              show Steps p.tables e below (T7.setTop (mkF m 193 #[.val (.int p0), .val (.int p1), .val (.int p2), .val (.int p3), .val (.int v3), .val (.ref mn), .val (.int sa), .val (.int sb), .val (.int v46), .val (.double (9218868437227405312 : UInt64)), .second, .val (.double inc), .second, .val (.double cand), .second, .val (.double r), .second, .unset, .unset] [(.int (1 : Int32))])) _
              refine XS.goto X7.here hx rfl (pc0 := 193) (pc' := 197) rfl (hb hby at_193) (by decide) (by decide) ?_
              show Steps p.tables e below (T7.setTop (mkF m 197 #[.val (.int p0), .val (.int p1), .val (.int p2), .val (.int p3), .val (.int v3), .val (.ref mn), .val (.int sa), .val (.int sb), .val (.int v46), .val (.double (9218868437227405312 : UInt64)), .second, .val (.double inc), .second, .val (.double cand), .second, .val (.double r), .second, .unset, .unset] [(.int (1 : Int32))])) _
              exact k
            · rw [hv189, if_neg hc189] at k
              refine XS.ifYes X7.here hx rfl (pc0 := 189) (pc' := 196) rfl (hb hby at_189) rfl ((if0 _ _).trans (flt hc189).2.1) (by decide) (by decide) ?_
              show Steps p.tables e below (T7.setTop (mkF m 196 #[.val (.int p0), .val (.int p1), .val (.int p2), .val (.int p3), .val (.int v3), .val (.ref mn), .val (.int sa), .val (.int sb), .val (.int v46), .val (.double (9218868437227405312 : UInt64)), .second, .val (.double inc), .second, .val (.double cand), .second, .val (.double r), .second, .unset, .unset] [])) _
              refine XS.iconst X7.here hx rfl (hb hby at_196) ?_
              show Steps p.tables e below (T7.setTop (mkF m 197 #[.val (.int p0), .val (.int p1), .val (.int p2), .val (.int p3), .val (.int v3), .val (.ref mn), .val (.int sa), .val (.int sb), .val (.int v46), .val (.double (9218868437227405312 : UInt64)), .second, .val (.double inc), .second, .val (.double cand), .second, .val (.double r), .second, .unset, .unset] [(.int (0 : Int32))])) _
              exact k
          refine own_up sg10 ?_
          show own_Go p.tables e below _ (T7.setTop (mkF m 197 #[.val (.int p0), .val (.int p1), .val (.int p2), .val (.int p3), .val (.int v3), .val (.ref mn), .val (.int sa), .val (.int sb), .val (.int v46), .val (.double (9218868437227405312 : UInt64)), .second, .val (.double inc), .second, .val (.double cand), .second, .val (.double r), .second, .unset, .unset] [(.int v189)]))
          refine own_up (fun _ k => XS.istore X7.here hx rfl (hb hby at_197) rfl (l' := #[.val (.int p0), .val (.int p1), .val (.int p2), .val (.int p3), .val (.int v3), .val (.ref mn), .val (.int sa), .val (.int sb), .val (.int v46), .val (.double (9218868437227405312 : UInt64)), .second, .val (.double inc), .second, .val (.double cand), .second, .val (.double r), .second, .val (.int v189), .unset]) rfl k) ?_
          show own_Go p.tables e below _ (T7.setTop (mkF m 199 #[.val (.int p0), .val (.int p1), .val (.int p2), .val (.int p3), .val (.int v3), .val (.ref mn), .val (.int sa), .val (.int sb), .val (.int v46), .val (.double (9218868437227405312 : UInt64)), .second, .val (.double inc), .second, .val (.double cand), .second, .val (.double r), .second, .val (.int v189), .unset] []))
          refine own_up (fun _ k => XS.iload X7.here hx rfl (hb hby at_199) rfl k) ?_
          show own_Go p.tables e below _ (T7.setTop (mkF m 201 #[.val (.int p0), .val (.int p1), .val (.int p2), .val (.int p3), .val (.int v3), .val (.ref mn), .val (.int sa), .val (.int sb), .val (.int v46), .val (.double (9218868437227405312 : UInt64)), .second, .val (.double inc), .second, .val (.double cand), .second, .val (.double r), .second, .val (.int v189), .unset] [(.int v189)]))
          by_cases hc201 : v189 = (0 : Int32)
          · refine own_up (fun _ k => XS.ifYes X7.here hx rfl (pc0 := 201) (pc' := 220) rfl (hb hby at_201) rfl ((if0 _ _).trans (teq hc201).1) (by decide) (by decide) k) ?_
            show own_Go p.tables e below _ (T7.setTop (mkF m 220 #[.val (.int p0), .val (.int p1), .val (.int p2), .val (.int p3), .val (.int v3), .val (.ref mn), .val (.int sa), .val (.int sb), .val (.int v46), .val (.double (9218868437227405312 : UInt64)), .second, .val (.double inc), .second, .val (.double cand), .second, .val (.double r), .second, .val (.int v189), .unset] []))
            refine own_up (fun _ k => XS.dload X7.here hx rfl (hb hby at_220) rfl k) ?_
            show own_Go p.tables e below _ (T7.setTop (mkF m 222 #[.val (.int p0), .val (.int p1), .val (.int p2), .val (.int p3), .val (.int v3), .val (.ref mn), .val (.int sa), .val (.int sb), .val (.int v46), .val (.double (9218868437227405312 : UInt64)), .second, .val (.double inc), .second, .val (.double cand), .second, .val (.double r), .second, .val (.int v189), .unset] [(.double r)]))
            refine own_up (fun _ k => XS.dload X7.here hx rfl (hb hby at_222) rfl k) ?_
            show own_Go p.tables e below _ (T7.setTop (mkF m 224 #[.val (.int p0), .val (.int p1), .val (.int p2), .val (.int p3), .val (.int v3), .val (.ref mn), .val (.int sa), .val (.int sb), .val (.int v46), .val (.double (9218868437227405312 : UInt64)), .second, .val (.double inc), .second, .val (.double cand), .second, .val (.double r), .second, .val (.int v189), .unset] [(.double (9218868437227405312 : UInt64)), (.double r)]))
            refine own_up (fun _ k => XS.dnegS X7.here hx rfl (v := (FP.dneg (9218868437227405312 : UInt64))) (hb hby at_224) rfl rfl k) ?_
            show own_Go p.tables e below _ (T7.setTop (mkF m 225 #[.val (.int p0), .val (.int p1), .val (.int p2), .val (.int p3), .val (.int v3), .val (.ref mn), .val (.int sa), .val (.int sb), .val (.int v46), .val (.double (9218868437227405312 : UInt64)), .second, .val (.double inc), .second, .val (.double cand), .second, .val (.double r), .second, .val (.int v189), .unset] [(.double (FP.dneg (9218868437227405312 : UInt64))), (.double r)]))
            refine own_up (fun _ k => XS.dcmpS X7.here hx rfl (v := (cmpValue (FP.dcmp r (FP.dneg (9218868437227405312 : UInt64))) .l)) (hb hby at_225) rfl rfl k) ?_
            show own_Go p.tables e below _ (T7.setTop (mkF m 226 #[.val (.int p0), .val (.int p1), .val (.int p2), .val (.int p3), .val (.int v3), .val (.ref mn), .val (.int sa), .val (.int sb), .val (.int v46), .val (.double (9218868437227405312 : UInt64)), .second, .val (.double inc), .second, .val (.double cand), .second, .val (.double r), .second, .val (.int v189), .unset] [(.int (cmpValue (FP.dcmp r (FP.dneg (9218868437227405312 : UInt64))) .l))]))
            refine own_up (fun _ k => XS.ifNo X7.here hx rfl (hb hby at_226) rfl ((if0 _ _).trans (teq (own_min_lo hKi hKc (own_someinf hsa hsb hinc hcand (Or.inr hc102)) hc147 hv189 hc201 (rfl : mn = mn) hr)).2) k) ?_
            show own_Go p.tables e below _ (T7.setTop (mkF m 229 #[.val (.int p0), .val (.int p1), .val (.int p2), .val (.int p3), .val (.int v3), .val (.ref mn), .val (.int sa), .val (.int sb), .val (.int v46), .val (.double (9218868437227405312 : UInt64)), .second, .val (.double inc), .second, .val (.double cand), .second, .val (.double r), .second, .val (.int v189), .unset] []))
            refine own_up (fun _ k => XS.iconst X7.here hx rfl (hb hby at_229) k) ?_
            show own_Go p.tables e below _ (T7.setTop (mkF m 230 #[.val (.int p0), .val (.int p1), .val (.int p2), .val (.int p3), .val (.int v3), .val (.ref mn), .val (.int sa), .val (.int sb), .val (.int v46), .val (.double (9218868437227405312 : UInt64)), .second, .val (.double inc), .second, .val (.double cand), .second, .val (.double r), .second, .val (.int v189), .unset] [(.int (1 : Int32))]))
            refine own_up (fun _ k => XS.goto X7.here hx rfl (pc0 := 230) (pc' := 234) rfl (hb hby at_230) (by decide) (by decide) k) ?_
            show own_Go p.tables e below _ (T7.setTop (mkF m 234 #[.val (.int p0), .val (.int p1), .val (.int p2), .val (.int p3), .val (.int v3), .val (.ref mn), .val (.int sa), .val (.int sb), .val (.int v46), .val (.double (9218868437227405312 : UInt64)), .second, .val (.double inc), .second, .val (.double cand), .second, .val (.double r), .second, .val (.int v189), .unset] [(.int (1 : Int32))]))
            obtain ⟨fs11, hr11, hrun11, hended11, hW11, hsame11⟩ := X7.leave (v := some (.int (1 : Int32))) (fun h => by rw [Bd.returns] at h; cases h)
            refine own_end ⟨_, _, ?_, hrun11, hended11, _, _, rfl, ?_, ⟨_, rfl⟩, hW11, hsame11.mono (by decide) (by decide)⟩
            · exact retN X7 hx (t := .boolean) Bd.returns (by simp) (hb hby at_234) hr11
            · show Qrm0 Z p0 p1 p2 p3 mn mx h0 n0 _ T7.heap _
              rw [e7]
              exact ⟨rfl, N7⟩
          · refine own_up (fun _ k => XS.ifNo X7.here hx rfl (hb hby at_201) rfl ((if0 _ _).trans (feq hc201).1) k) ?_
            show own_Go p.tables e below _ (T7.setTop (mkF m 204 #[.val (.int p0), .val (.int p1), .val (.int p2), .val (.int p3), .val (.int v3), .val (.ref mn), .val (.int sa), .val (.int sb), .val (.int v46), .val (.double (9218868437227405312 : UInt64)), .second, .val (.double inc), .second, .val (.double cand), .second, .val (.double r), .second, .val (.int v189), .unset] []))
            refine own_up (fun _ k => XS.dload X7.here hx rfl (hb hby at_204) rfl k) ?_
            show own_Go p.tables e below _ (T7.setTop (mkF m 206 #[.val (.int p0), .val (.int p1), .val (.int p2), .val (.int p3), .val (.int v3), .val (.ref mn), .val (.int sa), .val (.int sb), .val (.int v46), .val (.double (9218868437227405312 : UInt64)), .second, .val (.double inc), .second, .val (.double cand), .second, .val (.double r), .second, .val (.int v189), .unset] [(.double r)]))
            refine own_up (fun _ k => XS.dload X7.here hx rfl (hb hby at_206) rfl k) ?_
            show own_Go p.tables e below _ (T7.setTop (mkF m 208 #[.val (.int p0), .val (.int p1), .val (.int p2), .val (.int p3), .val (.int v3), .val (.ref mn), .val (.int sa), .val (.int sb), .val (.int v46), .val (.double (9218868437227405312 : UInt64)), .second, .val (.double inc), .second, .val (.double cand), .second, .val (.double r), .second, .val (.int v189), .unset] [(.double (9218868437227405312 : UInt64)), (.double r)]))
            refine own_up (fun _ k => XS.dcmpS X7.here hx rfl (v := (cmpValue (FP.dcmp r (9218868437227405312 : UInt64)) .l)) (hb hby at_208) rfl rfl k) ?_
            show own_Go p.tables e below _ (T7.setTop (mkF m 209 #[.val (.int p0), .val (.int p1), .val (.int p2), .val (.int p3), .val (.int v3), .val (.ref mn), .val (.int sa), .val (.int sb), .val (.int v46), .val (.double (9218868437227405312 : UInt64)), .second, .val (.double inc), .second, .val (.double cand), .second, .val (.double r), .second, .val (.int v189), .unset] [(.int (cmpValue (FP.dcmp r (9218868437227405312 : UInt64)) .l))]))
            refine own_up (fun _ k => XS.ifNo X7.here hx rfl (hb hby at_209) rfl ((if0 _ _).trans (teq (own_min_hi hKi hKc (own_someinf hsa hsb hinc hcand (Or.inr hc102)) hc147 hv189 hc201 (rfl : mn = mn) hr)).2) k) ?_
            show own_Go p.tables e below _ (T7.setTop (mkF m 212 #[.val (.int p0), .val (.int p1), .val (.int p2), .val (.int p3), .val (.int v3), .val (.ref mn), .val (.int sa), .val (.int sb), .val (.int v46), .val (.double (9218868437227405312 : UInt64)), .second, .val (.double inc), .second, .val (.double cand), .second, .val (.double r), .second, .val (.int v189), .unset] []))
            refine own_up (fun _ k => XS.iconst X7.here hx rfl (hb hby at_212) k) ?_
            show own_Go p.tables e below _ (T7.setTop (mkF m 213 #[.val (.int p0), .val (.int p1), .val (.int p2), .val (.int p3), .val (.int v3), .val (.ref mn), .val (.int sa), .val (.int sb), .val (.int v46), .val (.double (9218868437227405312 : UInt64)), .second, .val (.double inc), .second, .val (.double cand), .second, .val (.double r), .second, .val (.int v189), .unset] [(.int (1 : Int32))]))
            refine own_up (fun _ k => XS.goto X7.here hx rfl (pc0 := 213) (pc' := 234) rfl (hb hby at_213) (by decide) (by decide) k) ?_
            show own_Go p.tables e below _ (T7.setTop (mkF m 234 #[.val (.int p0), .val (.int p1), .val (.int p2), .val (.int p3), .val (.int v3), .val (.ref mn), .val (.int sa), .val (.int sb), .val (.int v46), .val (.double (9218868437227405312 : UInt64)), .second, .val (.double inc), .second, .val (.double cand), .second, .val (.double r), .second, .val (.int v189), .unset] [(.int (1 : Int32))]))
            obtain ⟨fs12, hr12, hrun12, hended12, hW12, hsame12⟩ := X7.leave (v := some (.int (1 : Int32))) (fun h => by rw [Bd.returns] at h; cases h)
            refine own_end ⟨_, _, ?_, hrun12, hended12, _, _, rfl, ?_, ⟨_, rfl⟩, hW12, hsame12.mono (by decide) (by decide)⟩
            · exact retN X7 hx (t := .boolean) Bd.returns (by simp) (hb hby at_234) hr12
            · show Qrm0 Z p0 p1 p2 p3 mn mx h0 n0 _ T7.heap _
              rw [e7]
              exact ⟨rfl, N7⟩
    · refine own_up (fun _ k => XS.icmpYes X7.here hx rfl (pc0 := 96) (pc' := 142) rfl (hb hby at_96) rfl (flt hc96).2.1 (by decide) (by decide) k) ?_
      show own_Go p.tables e below _ (T7.setTop (mkF m 142 #[.val (.int p0), .val (.int p1), .val (.int p2), .val (.int p3), .val (.int v3), .val (.ref mn), .val (.int sa), .val (.int sb), .val (.int v46), .val (.double (9218868437227405312 : UInt64)), .second, .val (.double inc), .second, .val (.double cand), .second, .val (.double r), .second, .unset, .unset] []))
      refine own_up (fun _ k => XS.dload X7.here hx rfl (hb hby at_142) rfl k) ?_
      show own_Go p.tables e below _ (T7.setTop (mkF m 144 #[.val (.int p0), .val (.int p1), .val (.int p2), .val (.int p3), .val (.int v3), .val (.ref mn), .val (.int sa), .val (.int sb), .val (.int v46), .val (.double (9218868437227405312 : UInt64)), .second, .val (.double inc), .second, .val (.double cand), .second, .val (.double r), .second, .unset, .unset] [(.double inc)]))
      refine own_up (fun _ k => XS.dload X7.here hx rfl (hb hby at_144) rfl k) ?_
      show own_Go p.tables e below _ (T7.setTop (mkF m 146 #[.val (.int p0), .val (.int p1), .val (.int p2), .val (.int p3), .val (.int v3), .val (.ref mn), .val (.int sa), .val (.int sb), .val (.int v46), .val (.double (9218868437227405312 : UInt64)), .second, .val (.double inc), .second, .val (.double cand), .second, .val (.double r), .second, .unset, .unset] [(.double cand), (.double inc)]))
      refine own_up (fun _ k => XS.dcmpS X7.here hx rfl (v := (cmpValue (FP.dcmp inc cand) .l)) (hb hby at_146) rfl rfl k) ?_
      show own_Go p.tables e below _ (T7.setTop (mkF m 147 #[.val (.int p0), .val (.int p1), .val (.int p2), .val (.int p3), .val (.int v3), .val (.ref mn), .val (.int sa), .val (.int sb), .val (.int v46), .val (.double (9218868437227405312 : UInt64)), .second, .val (.double inc), .second, .val (.double cand), .second, .val (.double r), .second, .unset, .unset] [(.int (cmpValue (FP.dcmp inc cand) .l))]))
      by_cases hc147 : (cmpValue (FP.dcmp inc cand) .l) = (0 : Int32)
      · refine own_up (fun _ k => XS.ifNo X7.here hx rfl (hb hby at_147) rfl ((if0 _ _).trans (teq hc147).2) k) ?_
        show own_Go p.tables e below _ (T7.setTop (mkF m 150 #[.val (.int p0), .val (.int p1), .val (.int p2), .val (.int p3), .val (.int v3), .val (.ref mn), .val (.int sa), .val (.int sb), .val (.int v46), .val (.double (9218868437227405312 : UInt64)), .second, .val (.double inc), .second, .val (.double cand), .second, .val (.double r), .second, .unset, .unset] []))
        refine own_up (fun _ k => XS.dload X7.here hx rfl (hb hby at_150) rfl k) ?_
        show own_Go p.tables e below _ (T7.setTop (mkF m 152 #[.val (.int p0), .val (.int p1), .val (.int p2), .val (.int p3), .val (.int v3), .val (.ref mn), .val (.int sa), .val (.int sb), .val (.int v46), .val (.double (9218868437227405312 : UInt64)), .second, .val (.double inc), .second, .val (.double cand), .second, .val (.double r), .second, .unset, .unset] [(.double r)]))
        refine own_up (fun _ k => XS.dconst0 X7.here hx rfl (v := (0 : UInt64)) (hb hby at_152) rfl k) ?_
        show own_Go p.tables e below _ (T7.setTop (mkF m 153 #[.val (.int p0), .val (.int p1), .val (.int p2), .val (.int p3), .val (.int v3), .val (.ref mn), .val (.int sa), .val (.int sb), .val (.int v46), .val (.double (9218868437227405312 : UInt64)), .second, .val (.double inc), .second, .val (.double cand), .second, .val (.double r), .second, .unset, .unset] [(.double (0 : UInt64)), (.double r)]))
        refine own_up (fun _ k => XS.dcmpS X7.here hx rfl (v := (cmpValue (FP.dcmp r (0 : UInt64)) .l)) (hb hby at_153) rfl rfl k) ?_
        show own_Go p.tables e below _ (T7.setTop (mkF m 154 #[.val (.int p0), .val (.int p1), .val (.int p2), .val (.int p3), .val (.int v3), .val (.ref mn), .val (.int sa), .val (.int sb), .val (.int v46), .val (.double (9218868437227405312 : UInt64)), .second, .val (.double inc), .second, .val (.double cand), .second, .val (.double r), .second, .unset, .unset] [(.int (cmpValue (FP.dcmp r (0 : UInt64)) .l))]))
        refine own_up (fun _ k => XS.ifNo X7.here hx rfl (hb hby at_154) rfl ((if0 _ _).trans (teq (own_zero hKi hKc hc147 hr)).2) k) ?_
        show own_Go p.tables e below _ (T7.setTop (mkF m 157 #[.val (.int p0), .val (.int p1), .val (.int p2), .val (.int p3), .val (.int v3), .val (.ref mn), .val (.int sa), .val (.int sb), .val (.int v46), .val (.double (9218868437227405312 : UInt64)), .second, .val (.double inc), .second, .val (.double cand), .second, .val (.double r), .second, .unset, .unset] []))
        refine own_up (fun _ k => XS.iconst X7.here hx rfl (hb hby at_157) k) ?_
        show own_Go p.tables e below _ (T7.setTop (mkF m 158 #[.val (.int p0), .val (.int p1), .val (.int p2), .val (.int p3), .val (.int v3), .val (.ref mn), .val (.int sa), .val (.int sb), .val (.int v46), .val (.double (9218868437227405312 : UInt64)), .second, .val (.double inc), .second, .val (.double cand), .second, .val (.double r), .second, .unset, .unset] [(.int (1 : Int32))]))
        refine own_up (fun _ k => XS.goto X7.here hx rfl (pc0 := 158) (pc' := 162) rfl (hb hby at_158) (by decide) (by decide) k) ?_
        show own_Go p.tables e below _ (T7.setTop (mkF m 162 #[.val (.int p0), .val (.int p1), .val (.int p2), .val (.int p3), .val (.int v3), .val (.ref mn), .val (.int sa), .val (.int sb), .val (.int v46), .val (.double (9218868437227405312 : UInt64)), .second, .val (.double inc), .second, .val (.double cand), .second, .val (.double r), .second, .unset, .unset] [(.int (1 : Int32))]))
        obtain ⟨fs13, hr13, hrun13, hended13, hW13, hsame13⟩ := X7.leave (v := some (.int (1 : Int32))) (fun h => by rw [Bd.returns] at h; cases h)
        refine own_end ⟨_, _, ?_, hrun13, hended13, _, _, rfl, ?_, ⟨_, rfl⟩, hW13, hsame13.mono (by decide) (by decide)⟩
        · exact retN X7 hx (t := .boolean) Bd.returns (by simp) (hb hby at_162) hr13
        · show Qrm0 Z p0 p1 p2 p3 mn mx h0 n0 _ T7.heap _
          rw [e7]
          exact ⟨rfl, N7⟩
      · refine own_up (fun _ k => XS.ifYes X7.here hx rfl (pc0 := 147) (pc' := 163) rfl (hb hby at_147) rfl ((if0 _ _).trans (feq hc147).2) (by decide) (by decide) k) ?_
        show own_Go p.tables e below _ (T7.setTop (mkF m 163 #[.val (.int p0), .val (.int p1), .val (.int p2), .val (.int p3), .val (.int v3), .val (.ref mn), .val (.int sa), .val (.int sb), .val (.int v46), .val (.double (9218868437227405312 : UInt64)), .second, .val (.double inc), .second, .val (.double cand), .second, .val (.double r), .second, .unset, .unset] []))
        refine own_up (fun _ k => XS.iload X7.here hx rfl (hb hby at_163) rfl k) ?_
        show own_Go p.tables e below _ (T7.setTop (mkF m 165 #[.val (.int p0), .val (.int p1), .val (.int p2), .val (.int p3), .val (.int v3), .val (.ref mn), .val (.int sa), .val (.int sb), .val (.int v46), .val (.double (9218868437227405312 : UInt64)), .second, .val (.double inc), .second, .val (.double cand), .second, .val (.double r), .second, .unset, .unset] [(.int v3)]))
        refine own_up (fun _ k => XS.ifYes X7.here hx rfl (pc0 := 165) (pc' := 184) rfl (hb hby at_165) rfl ((if0 _ _).trans (teq hc15).1) (by decide) (by decide) k) ?_
        show own_Go p.tables e below _ (T7.setTop (mkF m 184 #[.val (.int p0), .val (.int p1), .val (.int p2), .val (.int p3), .val (.int v3), .val (.ref mn), .val (.int sa), .val (.int sb), .val (.int v46), .val (.double (9218868437227405312 : UInt64)), .second, .val (.double inc), .second, .val (.double cand), .second, .val (.double r), .second, .unset, .unset] []))
        refine own_up (fun _ k => XS.dload X7.here hx rfl (hb hby at_184) rfl k) ?_
        show own_Go p.tables e below _ (T7.setTop (mkF m 186 #[.val (.int p0), .val (.int p1), .val (.int p2), .val (.int p3), .val (.int v3), .val (.ref mn), .val (.int sa), .val (.int sb), .val (.int v46), .val (.double (9218868437227405312 : UInt64)), .second, .val (.double inc), .second, .val (.double cand), .second, .val (.double r), .second, .unset, .unset] [(.double cand)]))
        refine own_up (fun _ k => XS.dload X7.here hx rfl (hb hby at_186) rfl k) ?_
        show own_Go p.tables e below _ (T7.setTop (mkF m 188 #[.val (.int p0), .val (.int p1), .val (.int p2), .val (.int p3), .val (.int v3), .val (.ref mn), .val (.int sa), .val (.int sb), .val (.int v46), .val (.double (9218868437227405312 : UInt64)), .second, .val (.double inc), .second, .val (.double cand), .second, .val (.double r), .second, .unset, .unset] [(.double inc), (.double cand)]))
        refine own_up (fun _ k => XS.dcmpS X7.here hx rfl (v := (cmpValue (FP.dcmp cand inc) .g)) (hb hby at_188) rfl rfl k) ?_
        show own_Go p.tables e below _ (T7.setTop (mkF m 189 #[.val (.int p0), .val (.int p1), .val (.int p2), .val (.int p3), .val (.int v3), .val (.ref mn), .val (.int sa), .val (.int sb), .val (.int v46), .val (.double (9218868437227405312 : UInt64)), .second, .val (.double inc), .second, .val (.double cand), .second, .val (.double r), .second, .unset, .unset] [(.int (cmpValue (FP.dcmp cand inc) .g))]))
        obtain ⟨v189, hv189⟩ : ∃ z : Int32, z = if (cmpValue (FP.dcmp cand inc) .g) < (0 : Int32) then (1 : Int32) else (0 : Int32) := ⟨_, rfl⟩
        have sg14 : ∀ t, Steps p.tables e below (T7.setTop (mkF m 197 #[.val (.int p0), .val (.int p1), .val (.int p2), .val (.int p3), .val (.int v3), .val (.ref mn), .val (.int sa), .val (.int sb), .val (.int v46), .val (.double (9218868437227405312 : UInt64)), .second, .val (.double inc), .second, .val (.double cand), .second, .val (.double r), .second, .unset, .unset] [(.int v189)])) t → Steps p.tables e below (T7.setTop (mkF m 189 #[.val (.int p0), .val (.int p1), .val (.int p2), .val (.int p3), .val (.int v3), .val (.ref mn), .val (.int sa), .val (.int sb), .val (.int v46), .val (.double (9218868437227405312 : UInt64)), .second, .val (.double inc), .second, .val (.double cand), .second, .val (.double r), .second, .unset, .unset] [(.int (cmpValue (FP.dcmp cand inc) .g))])) t := by
          intro t k
          by_cases hc189 : (cmpValue (FP.dcmp cand inc) .g) < (0 : Int32)
          · rw [hv189, if_pos hc189] at k
            refine XS.ifNo X7.here hx rfl (hb hby at_189) rfl ((if0 _ _).trans (tlt hc189).2.1) ?_
            show Steps p.tables e below (T7.setTop (mkF m 192 #[.val (.int p0), .val (.int p1), .val (.int p2), .val (.int p3), .val (.int v3), .val (.ref mn), .val (.int sa), .val (.int sb), .val (.int v46), .val (.double (9218868437227405312 : UInt64)), .second, .val (.double inc), .second, .val (.double cand), .second, .val (.double r), .second, .unset, .unset] [])) _
            refine XS.iconst X7.here hx rfl (hb hby at_192) ?_
            show Steps p.tables e below (T7.setTop (mkF m 193 #[.val (.int p0), .val (.int p1), .val (.int p2), .val (.int p3), .val (.int v3), .val (.ref mn), .val (.int sa), .val (.int sb), .val (.int v46), .val (.double (9218868437227405312 : UInt64)), .second, .val (.double inc), .second, .val (.double cand), .second, .val (.double r), .second, .unset, .unset] [(.int (1 : Int32))])) _
            refine XS.goto X7.here hx rfl (pc0 := 193) (pc' := 197) rfl (hb hby at_193) (by decide) (by decide) ?_
            show Steps p.tables e below (T7.setTop (mkF m 197 #[.val (.int p0), .val (.int p1), .val (.int p2), .val (.int p3), .val (.int v3), .val (.ref mn), .val (.int sa), .val (.int sb), .val (.int v46), .val (.double (9218868437227405312 : UInt64)), .second, .val (.double inc), .second, .val (.double cand), .second, .val (.double r), .second, .unset, .unset] [(.int (1 : Int32))])) _
            exact k
          · rw [hv189, if_neg hc189] at k
            refine XS.ifYes X7.here hx rfl (pc0 := 189) (pc' := 196) rfl (hb hby at_189) rfl ((if0 _ _).trans (flt hc189).2.1) (by decide) (by decide) ?_
            show Steps p.tables e below (T7.setTop (mkF m 196 #[.val (.int p0), .val (.int p1), .val (.int p2), .val (.int p3), .val (.int v3), .val (.ref mn), .val (.int sa), .val (.int sb), .val (.int v46), .val (.double (9218868437227405312 : UInt64)), .second, .val (.double inc), .second, .val (.double cand), .second, .val (.double r), .second, .unset, .unset] [])) _
            refine XS.iconst X7.here hx rfl (hb hby at_196) ?_
            show Steps p.tables e below (T7.setTop (mkF m 197 #[.val (.int p0), .val (.int p1), .val (.int p2), .val (.int p3), .val (.int v3), .val (.ref mn), .val (.int sa), .val (.int sb), .val (.int v46), .val (.double (9218868437227405312 : UInt64)), .second, .val (.double inc), .second, .val (.double cand), .second, .val (.double r), .second, .unset, .unset] [(.int (0 : Int32))])) _
            exact k
        refine own_up sg14 ?_
        show own_Go p.tables e below _ (T7.setTop (mkF m 197 #[.val (.int p0), .val (.int p1), .val (.int p2), .val (.int p3), .val (.int v3), .val (.ref mn), .val (.int sa), .val (.int sb), .val (.int v46), .val (.double (9218868437227405312 : UInt64)), .second, .val (.double inc), .second, .val (.double cand), .second, .val (.double r), .second, .unset, .unset] [(.int v189)]))
        refine own_up (fun _ k => XS.istore X7.here hx rfl (hb hby at_197) rfl (l' := #[.val (.int p0), .val (.int p1), .val (.int p2), .val (.int p3), .val (.int v3), .val (.ref mn), .val (.int sa), .val (.int sb), .val (.int v46), .val (.double (9218868437227405312 : UInt64)), .second, .val (.double inc), .second, .val (.double cand), .second, .val (.double r), .second, .val (.int v189), .unset]) rfl k) ?_
        show own_Go p.tables e below _ (T7.setTop (mkF m 199 #[.val (.int p0), .val (.int p1), .val (.int p2), .val (.int p3), .val (.int v3), .val (.ref mn), .val (.int sa), .val (.int sb), .val (.int v46), .val (.double (9218868437227405312 : UInt64)), .second, .val (.double inc), .second, .val (.double cand), .second, .val (.double r), .second, .val (.int v189), .unset] []))
        refine own_up (fun _ k => XS.iload X7.here hx rfl (hb hby at_199) rfl k) ?_
        show own_Go p.tables e below _ (T7.setTop (mkF m 201 #[.val (.int p0), .val (.int p1), .val (.int p2), .val (.int p3), .val (.int v3), .val (.ref mn), .val (.int sa), .val (.int sb), .val (.int v46), .val (.double (9218868437227405312 : UInt64)), .second, .val (.double inc), .second, .val (.double cand), .second, .val (.double r), .second, .val (.int v189), .unset] [(.int v189)]))
        by_cases hc201 : v189 = (0 : Int32)
        · refine own_up (fun _ k => XS.ifYes X7.here hx rfl (pc0 := 201) (pc' := 220) rfl (hb hby at_201) rfl ((if0 _ _).trans (teq hc201).1) (by decide) (by decide) k) ?_
          show own_Go p.tables e below _ (T7.setTop (mkF m 220 #[.val (.int p0), .val (.int p1), .val (.int p2), .val (.int p3), .val (.int v3), .val (.ref mn), .val (.int sa), .val (.int sb), .val (.int v46), .val (.double (9218868437227405312 : UInt64)), .second, .val (.double inc), .second, .val (.double cand), .second, .val (.double r), .second, .val (.int v189), .unset] []))
          refine own_up (fun _ k => XS.dload X7.here hx rfl (hb hby at_220) rfl k) ?_
          show own_Go p.tables e below _ (T7.setTop (mkF m 222 #[.val (.int p0), .val (.int p1), .val (.int p2), .val (.int p3), .val (.int v3), .val (.ref mn), .val (.int sa), .val (.int sb), .val (.int v46), .val (.double (9218868437227405312 : UInt64)), .second, .val (.double inc), .second, .val (.double cand), .second, .val (.double r), .second, .val (.int v189), .unset] [(.double r)]))
          refine own_up (fun _ k => XS.dload X7.here hx rfl (hb hby at_222) rfl k) ?_
          show own_Go p.tables e below _ (T7.setTop (mkF m 224 #[.val (.int p0), .val (.int p1), .val (.int p2), .val (.int p3), .val (.int v3), .val (.ref mn), .val (.int sa), .val (.int sb), .val (.int v46), .val (.double (9218868437227405312 : UInt64)), .second, .val (.double inc), .second, .val (.double cand), .second, .val (.double r), .second, .val (.int v189), .unset] [(.double (9218868437227405312 : UInt64)), (.double r)]))
          refine own_up (fun _ k => XS.dnegS X7.here hx rfl (v := (FP.dneg (9218868437227405312 : UInt64))) (hb hby at_224) rfl rfl k) ?_
          show own_Go p.tables e below _ (T7.setTop (mkF m 225 #[.val (.int p0), .val (.int p1), .val (.int p2), .val (.int p3), .val (.int v3), .val (.ref mn), .val (.int sa), .val (.int sb), .val (.int v46), .val (.double (9218868437227405312 : UInt64)), .second, .val (.double inc), .second, .val (.double cand), .second, .val (.double r), .second, .val (.int v189), .unset] [(.double (FP.dneg (9218868437227405312 : UInt64))), (.double r)]))
          refine own_up (fun _ k => XS.dcmpS X7.here hx rfl (v := (cmpValue (FP.dcmp r (FP.dneg (9218868437227405312 : UInt64))) .l)) (hb hby at_225) rfl rfl k) ?_
          show own_Go p.tables e below _ (T7.setTop (mkF m 226 #[.val (.int p0), .val (.int p1), .val (.int p2), .val (.int p3), .val (.int v3), .val (.ref mn), .val (.int sa), .val (.int sb), .val (.int v46), .val (.double (9218868437227405312 : UInt64)), .second, .val (.double inc), .second, .val (.double cand), .second, .val (.double r), .second, .val (.int v189), .unset] [(.int (cmpValue (FP.dcmp r (FP.dneg (9218868437227405312 : UInt64))) .l))]))
          refine own_up (fun _ k => XS.ifNo X7.here hx rfl (hb hby at_226) rfl ((if0 _ _).trans (teq (own_min_lo hKi hKc (own_someinf hsa hsb hinc hcand (Or.inl hc96)) hc147 hv189 hc201 (rfl : mn = mn) hr)).2) k) ?_
          show own_Go p.tables e below _ (T7.setTop (mkF m 229 #[.val (.int p0), .val (.int p1), .val (.int p2), .val (.int p3), .val (.int v3), .val (.ref mn), .val (.int sa), .val (.int sb), .val (.int v46), .val (.double (9218868437227405312 : UInt64)), .second, .val (.double inc), .second, .val (.double cand), .second, .val (.double r), .second, .val (.int v189), .unset] []))
          refine own_up (fun _ k => XS.iconst X7.here hx rfl (hb hby at_229) k) ?_
          show own_Go p.tables e below _ (T7.setTop (mkF m 230 #[.val (.int p0), .val (.int p1), .val (.int p2), .val (.int p3), .val (.int v3), .val (.ref mn), .val (.int sa), .val (.int sb), .val (.int v46), .val (.double (9218868437227405312 : UInt64)), .second, .val (.double inc), .second, .val (.double cand), .second, .val (.double r), .second, .val (.int v189), .unset] [(.int (1 : Int32))]))
          refine own_up (fun _ k => XS.goto X7.here hx rfl (pc0 := 230) (pc' := 234) rfl (hb hby at_230) (by decide) (by decide) k) ?_
          show own_Go p.tables e below _ (T7.setTop (mkF m 234 #[.val (.int p0), .val (.int p1), .val (.int p2), .val (.int p3), .val (.int v3), .val (.ref mn), .val (.int sa), .val (.int sb), .val (.int v46), .val (.double (9218868437227405312 : UInt64)), .second, .val (.double inc), .second, .val (.double cand), .second, .val (.double r), .second, .val (.int v189), .unset] [(.int (1 : Int32))]))
          obtain ⟨fs15, hr15, hrun15, hended15, hW15, hsame15⟩ := X7.leave (v := some (.int (1 : Int32))) (fun h => by rw [Bd.returns] at h; cases h)
          refine own_end ⟨_, _, ?_, hrun15, hended15, _, _, rfl, ?_, ⟨_, rfl⟩, hW15, hsame15.mono (by decide) (by decide)⟩
          · exact retN X7 hx (t := .boolean) Bd.returns (by simp) (hb hby at_234) hr15
          · show Qrm0 Z p0 p1 p2 p3 mn mx h0 n0 _ T7.heap _
            rw [e7]
            exact ⟨rfl, N7⟩
        · refine own_up (fun _ k => XS.ifNo X7.here hx rfl (hb hby at_201) rfl ((if0 _ _).trans (feq hc201).1) k) ?_
          show own_Go p.tables e below _ (T7.setTop (mkF m 204 #[.val (.int p0), .val (.int p1), .val (.int p2), .val (.int p3), .val (.int v3), .val (.ref mn), .val (.int sa), .val (.int sb), .val (.int v46), .val (.double (9218868437227405312 : UInt64)), .second, .val (.double inc), .second, .val (.double cand), .second, .val (.double r), .second, .val (.int v189), .unset] []))
          refine own_up (fun _ k => XS.dload X7.here hx rfl (hb hby at_204) rfl k) ?_
          show own_Go p.tables e below _ (T7.setTop (mkF m 206 #[.val (.int p0), .val (.int p1), .val (.int p2), .val (.int p3), .val (.int v3), .val (.ref mn), .val (.int sa), .val (.int sb), .val (.int v46), .val (.double (9218868437227405312 : UInt64)), .second, .val (.double inc), .second, .val (.double cand), .second, .val (.double r), .second, .val (.int v189), .unset] [(.double r)]))
          refine own_up (fun _ k => XS.dload X7.here hx rfl (hb hby at_206) rfl k) ?_
          show own_Go p.tables e below _ (T7.setTop (mkF m 208 #[.val (.int p0), .val (.int p1), .val (.int p2), .val (.int p3), .val (.int v3), .val (.ref mn), .val (.int sa), .val (.int sb), .val (.int v46), .val (.double (9218868437227405312 : UInt64)), .second, .val (.double inc), .second, .val (.double cand), .second, .val (.double r), .second, .val (.int v189), .unset] [(.double (9218868437227405312 : UInt64)), (.double r)]))
          refine own_up (fun _ k => XS.dcmpS X7.here hx rfl (v := (cmpValue (FP.dcmp r (9218868437227405312 : UInt64)) .l)) (hb hby at_208) rfl rfl k) ?_
          show own_Go p.tables e below _ (T7.setTop (mkF m 209 #[.val (.int p0), .val (.int p1), .val (.int p2), .val (.int p3), .val (.int v3), .val (.ref mn), .val (.int sa), .val (.int sb), .val (.int v46), .val (.double (9218868437227405312 : UInt64)), .second, .val (.double inc), .second, .val (.double cand), .second, .val (.double r), .second, .val (.int v189), .unset] [(.int (cmpValue (FP.dcmp r (9218868437227405312 : UInt64)) .l))]))
          refine own_up (fun _ k => XS.ifNo X7.here hx rfl (hb hby at_209) rfl ((if0 _ _).trans (teq (own_min_hi hKi hKc (own_someinf hsa hsb hinc hcand (Or.inl hc96)) hc147 hv189 hc201 (rfl : mn = mn) hr)).2) k) ?_
          show own_Go p.tables e below _ (T7.setTop (mkF m 212 #[.val (.int p0), .val (.int p1), .val (.int p2), .val (.int p3), .val (.int v3), .val (.ref mn), .val (.int sa), .val (.int sb), .val (.int v46), .val (.double (9218868437227405312 : UInt64)), .second, .val (.double inc), .second, .val (.double cand), .second, .val (.double r), .second, .val (.int v189), .unset] []))
          refine own_up (fun _ k => XS.iconst X7.here hx rfl (hb hby at_212) k) ?_
          show own_Go p.tables e below _ (T7.setTop (mkF m 213 #[.val (.int p0), .val (.int p1), .val (.int p2), .val (.int p3), .val (.int v3), .val (.ref mn), .val (.int sa), .val (.int sb), .val (.int v46), .val (.double (9218868437227405312 : UInt64)), .second, .val (.double inc), .second, .val (.double cand), .second, .val (.double r), .second, .val (.int v189), .unset] [(.int (1 : Int32))]))
          refine own_up (fun _ k => XS.goto X7.here hx rfl (pc0 := 213) (pc' := 234) rfl (hb hby at_213) (by decide) (by decide) k) ?_
          show own_Go p.tables e below _ (T7.setTop (mkF m 234 #[.val (.int p0), .val (.int p1), .val (.int p2), .val (.int p3), .val (.int v3), .val (.ref mn), .val (.int sa), .val (.int sb), .val (.int v46), .val (.double (9218868437227405312 : UInt64)), .second, .val (.double inc), .second, .val (.double cand), .second, .val (.double r), .second, .val (.int v189), .unset] [(.int (1 : Int32))]))
          obtain ⟨fs16, hr16, hrun16, hended16, hW16, hsame16⟩ := X7.leave (v := some (.int (1 : Int32))) (fun h => by rw [Bd.returns] at h; cases h)
          refine own_end ⟨_, _, ?_, hrun16, hended16, _, _, rfl, ?_, ⟨_, rfl⟩, hW16, hsame16.mono (by decide) (by decide)⟩
          · exact retN X7 hx (t := .boolean) Bd.returns (by simp) (hb hby at_234) hr16
          · show Qrm0 Z p0 p1 p2 p3 mn mx h0 n0 _ T7.heap _
            rw [e7]
            exact ⟨rfl, N7⟩
  · refine own_up (fun _ k => XS.ifNo X0.here hx rfl (hb hby at_15) rfl ((if0 _ _).trans (feq hc15).1) k) ?_
    show own_Go p.tables e below _ (s₁.setTop (mkF m 18 #[.val (.int p0), .val (.int p1), .val (.int p2), .val (.int p3), .val (.int v3), .unset, .unset, .unset, .unset, .unset, .unset, .unset, .unset, .unset, .unset, .unset, .unset, .unset, .unset] []))
    obtain ⟨T17, X17, e17, st17⟩ := getS2 X0 hx hZ hown (host := "") (Or.inl (hw _ (List.mem_of_getElem? (i := 18) rfl))) Via.refl e0 S_MAX (g := (mkF m 18 #[.val (.int p0), .val (.int p1), .val (.int p2), .val (.int p3), .val (.int v3), .unset, .unset, .unset, .unset, .unset, .unset, .unset, .unset, .unset, .unset, .unset, .unset, .unset, .unset] [])) rfl (hb hby at_18)
    refine own_up st17 ?_
    show own_Go p.tables e below _ (T17.setTop (mkF m 21 #[.val (.int p0), .val (.int p1), .val (.int p2), .val (.int p3), .val (.int v3), .unset, .unset, .unset, .unset, .unset, .unset, .unset, .unset, .unset, .unset, .unset, .unset, .unset, .unset] [(.ref mx)]))
    refine own_up (fun _ k => XS.goto X17.here hx rfl (pc0 := 21) (pc' := 27) rfl (hb hby at_21) (by decide) (by decide) k) ?_
    show own_Go p.tables e below _ (T17.setTop (mkF m 27 #[.val (.int p0), .val (.int p1), .val (.int p2), .val (.int p3), .val (.int v3), .unset, .unset, .unset, .unset, .unset, .unset, .unset, .unset, .unset, .unset, .unset, .unset, .unset, .unset] [(.ref mx)]))
    refine own_up (fun _ k => XS.astore X17.here hx rfl (hb hby at_27) rfl rfl (l' := #[.val (.int p0), .val (.int p1), .val (.int p2), .val (.int p3), .val (.int v3), .val (.ref mx), .unset, .unset, .unset, .unset, .unset, .unset, .unset, .unset, .unset, .unset, .unset, .unset, .unset]) rfl k) ?_
    show own_Go p.tables e below _ (T17.setTop (mkF m 29 #[.val (.int p0), .val (.int p1), .val (.int p2), .val (.int p3), .val (.int v3), .val (.ref mx), .unset, .unset, .unset, .unset, .unset, .unset, .unset, .unset, .unset, .unset, .unset, .unset, .unset] []))
    refine own_up (fun _ k => XS.iloadN X17.here hx rfl (hb hby at_29) rfl k) ?_
    show own_Go p.tables e below _ (T17.setTop (mkF m 30 #[.val (.int p0), .val (.int p1), .val (.int p2), .val (.int p3), .val (.int v3), .val (.ref mx), .unset, .unset, .unset, .unset, .unset, .unset, .unset, .unset, .unset, .unset, .unset, .unset, .unset] [(.int p3)]))
    refine own_up (fun _ k => XS.iconst X17.here hx rfl (hb hby at_30) k) ?_
    show own_Go p.tables e below _ (T17.setTop (mkF m 31 #[.val (.int p0), .val (.int p1), .val (.int p2), .val (.int p3), .val (.int v3), .val (.ref mx), .unset, .unset, .unset, .unset, .unset, .unset, .unset, .unset, .unset, .unset, .unset, .unset, .unset] [(.int (3 : Int32)), (.int p3)]))
    refine own_up (fun _ k => XS.iand X17.here hx rfl (hb hby at_31) rfl k) ?_
    show own_Go p.tables e below _ (T17.setTop (mkF m 32 #[.val (.int p0), .val (.int p1), .val (.int p2), .val (.int p3), .val (.int v3), .val (.ref mx), .unset, .unset, .unset, .unset, .unset, .unset, .unset, .unset, .unset, .unset, .unset, .unset, .unset] [(.int (p3 &&& (3 : Int32)))]))
    generalize hsa : (p3 &&& (3 : Int32)) = sa
    show own_Go p.tables e below _ (T17.setTop (mkF m 32 #[.val (.int p0), .val (.int p1), .val (.int p2), .val (.int p3), .val (.int v3), .val (.ref mx), .unset, .unset, .unset, .unset, .unset, .unset, .unset, .unset, .unset, .unset, .unset, .unset, .unset] [(.int sa)]))
    refine own_up (fun _ k => XS.istore X17.here hx rfl (hb hby at_32) rfl (l' := #[.val (.int p0), .val (.int p1), .val (.int p2), .val (.int p3), .val (.int v3), .val (.ref mx), .val (.int sa), .unset, .unset, .unset, .unset, .unset, .unset, .unset, .unset, .unset, .unset, .unset, .unset]) rfl k) ?_
    show own_Go p.tables e below _ (T17.setTop (mkF m 34 #[.val (.int p0), .val (.int p1), .val (.int p2), .val (.int p3), .val (.int v3), .val (.ref mx), .val (.int sa), .unset, .unset, .unset, .unset, .unset, .unset, .unset, .unset, .unset, .unset, .unset, .unset] []))
    refine own_up (fun _ k => XS.iloadN X17.here hx rfl (hb hby at_34) rfl k) ?_
    show own_Go p.tables e below _ (T17.setTop (mkF m 35 #[.val (.int p0), .val (.int p1), .val (.int p2), .val (.int p3), .val (.int v3), .val (.ref mx), .val (.int sa), .unset, .unset, .unset, .unset, .unset, .unset, .unset, .unset, .unset, .unset, .unset, .unset] [(.int p3)]))
    refine own_up (fun _ k => XS.iconst X17.here hx rfl (hb hby at_35) k) ?_
    show own_Go p.tables e below _ (T17.setTop (mkF m 36 #[.val (.int p0), .val (.int p1), .val (.int p2), .val (.int p3), .val (.int v3), .val (.ref mx), .val (.int sa), .unset, .unset, .unset, .unset, .unset, .unset, .unset, .unset, .unset, .unset, .unset, .unset] [(.int (2 : Int32)), (.int p3)]))
    refine own_up (fun _ k => XS.iushr X17.here hx rfl (hb hby at_36) rfl k) ?_
    show own_Go p.tables e below _ (T17.setTop (mkF m 37 #[.val (.int p0), .val (.int p1), .val (.int p2), .val (.int p3), .val (.int v3), .val (.ref mx), .val (.int sa), .unset, .unset, .unset, .unset, .unset, .unset, .unset, .unset, .unset, .unset, .unset, .unset] [(.int ((p3.toUInt32 >>> ((2 : Int32) &&& 31).toUInt32).toInt32))]))
    refine own_up (fun _ k => XS.iconst X17.here hx rfl (hb hby at_37) k) ?_
    show own_Go p.tables e below _ (T17.setTop (mkF m 38 #[.val (.int p0), .val (.int p1), .val (.int p2), .val (.int p3), .val (.int v3), .val (.ref mx), .val (.int sa), .unset, .unset, .unset, .unset, .unset, .unset, .unset, .unset, .unset, .unset, .unset, .unset] [(.int (3 : Int32)), (.int ((p3.toUInt32 >>> ((2 : Int32) &&& 31).toUInt32).toInt32))]))
    refine own_up (fun _ k => XS.iand X17.here hx rfl (hb hby at_38) rfl k) ?_
    show own_Go p.tables e below _ (T17.setTop (mkF m 39 #[.val (.int p0), .val (.int p1), .val (.int p2), .val (.int p3), .val (.int v3), .val (.ref mx), .val (.int sa), .unset, .unset, .unset, .unset, .unset, .unset, .unset, .unset, .unset, .unset, .unset, .unset] [(.int (((p3.toUInt32 >>> ((2 : Int32) &&& 31).toUInt32).toInt32) &&& (3 : Int32)))]))
    generalize hsb : (((p3.toUInt32 >>> ((2 : Int32) &&& 31).toUInt32).toInt32) &&& (3 : Int32)) = sb
    show own_Go p.tables e below _ (T17.setTop (mkF m 39 #[.val (.int p0), .val (.int p1), .val (.int p2), .val (.int p3), .val (.int v3), .val (.ref mx), .val (.int sa), .unset, .unset, .unset, .unset, .unset, .unset, .unset, .unset, .unset, .unset, .unset, .unset] [(.int sb)]))
    refine own_up (fun _ k => XS.istore X17.here hx rfl (hb hby at_39) rfl (l' := #[.val (.int p0), .val (.int p1), .val (.int p2), .val (.int p3), .val (.int v3), .val (.ref mx), .val (.int sa), .val (.int sb), .unset, .unset, .unset, .unset, .unset, .unset, .unset, .unset, .unset, .unset, .unset]) rfl k) ?_
    show own_Go p.tables e below _ (T17.setTop (mkF m 41 #[.val (.int p0), .val (.int p1), .val (.int p2), .val (.int p3), .val (.int v3), .val (.ref mx), .val (.int sa), .val (.int sb), .unset, .unset, .unset, .unset, .unset, .unset, .unset, .unset, .unset, .unset, .unset] []))
    refine own_up (fun _ k => XS.iloadN X17.here hx rfl (hb hby at_41) rfl k) ?_
    show own_Go p.tables e below _ (T17.setTop (mkF m 42 #[.val (.int p0), .val (.int p1), .val (.int p2), .val (.int p3), .val (.int v3), .val (.ref mx), .val (.int sa), .val (.int sb), .unset, .unset, .unset, .unset, .unset, .unset, .unset, .unset, .unset, .unset, .unset] [(.int p3)]))
    refine own_up (fun _ k => XS.iconst X17.here hx rfl (hb hby at_42) k) ?_
    show own_Go p.tables e below _ (T17.setTop (mkF m 43 #[.val (.int p0), .val (.int p1), .val (.int p2), .val (.int p3), .val (.int v3), .val (.ref mx), .val (.int sa), .val (.int sb), .unset, .unset, .unset, .unset, .unset, .unset, .unset, .unset, .unset, .unset, .unset] [(.int (4 : Int32)), (.int p3)]))
    refine own_up (fun _ k => XS.iushr X17.here hx rfl (hb hby at_43) rfl k) ?_
    show own_Go p.tables e below _ (T17.setTop (mkF m 44 #[.val (.int p0), .val (.int p1), .val (.int p2), .val (.int p3), .val (.int v3), .val (.ref mx), .val (.int sa), .val (.int sb), .unset, .unset, .unset, .unset, .unset, .unset, .unset, .unset, .unset, .unset, .unset] [(.int ((p3.toUInt32 >>> ((4 : Int32) &&& 31).toUInt32).toInt32))]))
    refine own_up (fun _ k => XS.iconst X17.here hx rfl (hb hby at_44) k) ?_
    show own_Go p.tables e below _ (T17.setTop (mkF m 45 #[.val (.int p0), .val (.int p1), .val (.int p2), .val (.int p3), .val (.int v3), .val (.ref mx), .val (.int sa), .val (.int sb), .unset, .unset, .unset, .unset, .unset, .unset, .unset, .unset, .unset, .unset, .unset] [(.int (1 : Int32)), (.int ((p3.toUInt32 >>> ((4 : Int32) &&& 31).toUInt32).toInt32))]))
    refine own_up (fun _ k => XS.iand X17.here hx rfl (hb hby at_45) rfl k) ?_
    show own_Go p.tables e below _ (T17.setTop (mkF m 46 #[.val (.int p0), .val (.int p1), .val (.int p2), .val (.int p3), .val (.int v3), .val (.ref mx), .val (.int sa), .val (.int sb), .unset, .unset, .unset, .unset, .unset, .unset, .unset, .unset, .unset, .unset, .unset] [(.int (((p3.toUInt32 >>> ((4 : Int32) &&& 31).toUInt32).toInt32) &&& (1 : Int32)))]))
    obtain ⟨v46, hv46⟩ : ∃ z : Int32, z = if (((p3.toUInt32 >>> ((4 : Int32) &&& 31).toUInt32).toInt32) &&& (1 : Int32)) = (0 : Int32) then p2 else p1 := ⟨_, rfl⟩
    have sg18 : ∀ t, Steps p.tables e below (T17.setTop (mkF m 54 #[.val (.int p0), .val (.int p1), .val (.int p2), .val (.int p3), .val (.int v3), .val (.ref mx), .val (.int sa), .val (.int sb), .unset, .unset, .unset, .unset, .unset, .unset, .unset, .unset, .unset, .unset, .unset] [(.int v46)])) t → Steps p.tables e below (T17.setTop (mkF m 46 #[.val (.int p0), .val (.int p1), .val (.int p2), .val (.int p3), .val (.int v3), .val (.ref mx), .val (.int sa), .val (.int sb), .unset, .unset, .unset, .unset, .unset, .unset, .unset, .unset, .unset, .unset, .unset] [(.int (((p3.toUInt32 >>> ((4 : Int32) &&& 31).toUInt32).toInt32) &&& (1 : Int32)))])) t := by
      intro t k
      by_cases hc46 : (((p3.toUInt32 >>> ((4 : Int32) &&& 31).toUInt32).toInt32) &&& (1 : Int32)) = (0 : Int32)
      · rw [hv46, if_pos hc46] at k
        refine XS.ifYes X17.here hx rfl (pc0 := 46) (pc' := 53) rfl (hb hby at_46) rfl ((if0 _ _).trans (teq hc46).1) (by decide) (by decide) ?_
        show Steps p.tables e below (T17.setTop (mkF m 53 #[.val (.int p0), .val (.int p1), .val (.int p2), .val (.int p3), .val (.int v3), .val (.ref mx), .val (.int sa), .val (.int sb), .unset, .unset, .unset, .unset, .unset, .unset, .unset, .unset, .unset, .unset, .unset] [])) _
        refine XS.iloadN X17.here hx rfl (hb hby at_53) rfl ?_
        show Steps p.tables e below (T17.setTop (mkF m 54 #[.val (.int p0), .val (.int p1), .val (.int p2), .val (.int p3), .val (.int v3), .val (.ref mx), .val (.int sa), .val (.int sb), .unset, .unset, .unset, .unset, .unset, .unset, .unset, .unset, .unset, .unset, .unset] [(.int p2)])) _
        exact k
      · rw [hv46, if_neg hc46] at k
        refine XS.ifNo X17.here hx rfl (hb hby at_46) rfl ((if0 _ _).trans (feq hc46).1) ?_
        show Steps p.tables e below (T17.setTop (mkF m 49 #[.val (.int p0), .val (.int p1), .val (.int p2), .val (.int p3), .val (.int v3), .val (.ref mx), .val (.int sa), .val (.int sb), .unset, .unset, .unset, .unset, .unset, .unset, .unset, .unset, .unset, .unset, .unset] [])) _
        refine XS.iloadN X17.here hx rfl (hb hby at_49) rfl ?_
        show Steps p.tables e below (T17.setTop (mkF m 50 #[.val (.int p0), .val (.int p1), .val (.int p2), .val (.int p3), .val (.int v3), .val (.ref mx), .val (.int sa), .val (.int sb), .unset, .unset, .unset, .unset, .unset, .unset, .unset, .unset, .unset, .unset, .unset] [(.int p1)])) _
        refine XS.goto X17.here hx rfl (pc0 := 50) (pc' := 54) rfl (hb hby at_50) (by decide) (by decide) ?_
        show Steps p.tables e below (T17.setTop (mkF m 54 #[.val (.int p0), .val (.int p1), .val (.int p2), .val (.int p3), .val (.int v3), .val (.ref mx), .val (.int sa), .val (.int sb), .unset, .unset, .unset, .unset, .unset, .unset, .unset, .unset, .unset, .unset, .unset] [(.int p1)])) _
        exact k
    refine own_up sg18 ?_
    show own_Go p.tables e below _ (T17.setTop (mkF m 54 #[.val (.int p0), .val (.int p1), .val (.int p2), .val (.int p3), .val (.int v3), .val (.ref mx), .val (.int sa), .val (.int sb), .unset, .unset, .unset, .unset, .unset, .unset, .unset, .unset, .unset, .unset, .unset] [(.int v46)]))
    refine own_up (fun _ k => XS.istore X17.here hx rfl (hb hby at_54) rfl (l' := #[.val (.int p0), .val (.int p1), .val (.int p2), .val (.int p3), .val (.int v3), .val (.ref mx), .val (.int sa), .val (.int sb), .val (.int v46), .unset, .unset, .unset, .unset, .unset, .unset, .unset, .unset, .unset, .unset]) rfl k) ?_
    show own_Go p.tables e below _ (T17.setTop (mkF m 56 #[.val (.int p0), .val (.int p1), .val (.int p2), .val (.int p3), .val (.int v3), .val (.ref mx), .val (.int sa), .val (.int sb), .val (.int v46), .unset, .unset, .unset, .unset, .unset, .unset, .unset, .unset, .unset, .unset] []))
    obtain ⟨_, _, ⟨T19, L19, k19, n19⟩, -, X19, ⟨Lc19, hQ19, l19, y19, z19⟩, st19⟩ := Jvm.LawKit.callS X17 hx (y := (⟨"com/example/parley/parley/model/ObjectiveImprovementPinLaw", "inf", "()D"⟩ : MethodName)) hown (mvT hZ (hw _ (List.mem_of_getElem? (i := 3) rfl))) (mvT hZ (hw _ (List.mem_of_getElem? (i := 4) rfl))) (mvT hZ (hw _ (List.mem_of_getElem? (i := 5) rfl))) (mvT hZ (hw _ (List.mem_of_getElem? (i := 6) rfl))) (by decide) (backOf (W := 0) (rm1 l Z a0 hw [] h0 n0 Z0) hZ (hw _ (List.mem_of_getElem? (i := 6) rfl)) (hw _ (List.mem_of_getElem? (i := 5) rfl)) (by decide) (by decide)) (g := (mkF m 56 #[.val (.int p0), .val (.int p1), .val (.int p2), .val (.int p3), .val (.int v3), .val (.ref mx), .val (.int sa), .val (.int sb), .val (.int v46), .unset, .unset, .unset, .unset, .unset, .unset, .unset, .unset, .unset, .unset] [])) rfl (by rw [hml]; rfl) (argsL := []) (rest := []) (lenOf pd_0 rfl) rfl (by show 2 * 0 + _ ≤ _; exact Nat.le_of_eq rfl) (hb hby at_56) (fun _ _ => ⟨rfl, e17, (by decide : 0 + 0 ≤ _), (by decide : 0 + 0 ≤ _)⟩)
    dsimp only [Pt.U, Pt.locs, Pt.cells, Pt.slots] at X19 l19 y19 z19 st19 hQ19
    subst l19 y19 z19
    obtain ⟨rfl, Nq19, e19⟩ := hQ19
    have N19 := Fr.app N0 Nq19
    refine own_up st19 ?_
    show own_Go p.tables e below _ (T19.setTop (mkF m 59 #[.val (.int p0), .val (.int p1), .val (.int p2), .val (.int p3), .val (.int v3), .val (.ref mx), .val (.int sa), .val (.int sb), .val (.int v46), .unset, .unset, .unset, .unset, .unset, .unset, .unset, .unset, .unset, .unset] [(.double (9218868437227405312 : UInt64))]))
    refine own_up (fun _ k => XS.dstore X19.here hx rfl (hb hby at_59) rfl (l' := #[.val (.int p0), .val (.int p1), .val (.int p2), .val (.int p3), .val (.int v3), .val (.ref mx), .val (.int sa), .val (.int sb), .val (.int v46), .val (.double (9218868437227405312 : UInt64)), .second, .unset, .unset, .unset, .unset, .unset, .unset, .unset, .unset]) rfl k) ?_
    show own_Go p.tables e below _ (T19.setTop (mkF m 61 #[.val (.int p0), .val (.int p1), .val (.int p2), .val (.int p3), .val (.int v3), .val (.ref mx), .val (.int sa), .val (.int sb), .val (.int v46), .val (.double (9218868437227405312 : UInt64)), .second, .unset, .unset, .unset, .unset, .unset, .unset, .unset, .unset] []))
    refine own_up (fun _ k => XS.iload X19.here hx rfl (hb hby at_61) rfl k) ?_
    show own_Go p.tables e below _ (T19.setTop (mkF m 63 #[.val (.int p0), .val (.int p1), .val (.int p2), .val (.int p3), .val (.int v3), .val (.ref mx), .val (.int sa), .val (.int sb), .val (.int v46), .val (.double (9218868437227405312 : UInt64)), .second, .unset, .unset, .unset, .unset, .unset, .unset, .unset, .unset] [(.int sa)]))
    refine own_up (fun _ k => XS.iloadN X19.here hx rfl (hb hby at_63) rfl k) ?_
    show own_Go p.tables e below _ (T19.setTop (mkF m 64 #[.val (.int p0), .val (.int p1), .val (.int p2), .val (.int p3), .val (.int v3), .val (.ref mx), .val (.int sa), .val (.int sb), .val (.int v46), .val (.double (9218868437227405312 : UInt64)), .second, .unset, .unset, .unset, .unset, .unset, .unset, .unset, .unset] [(.int p1), (.int sa)]))
    refine own_up (fun _ k => XS.dload X19.here hx rfl (hb hby at_64) rfl k) ?_
    show own_Go p.tables e below _ (T19.setTop (mkF m 66 #[.val (.int p0), .val (.int p1), .val (.int p2), .val (.int p3), .val (.int v3), .val (.ref mx), .val (.int sa), .val (.int sb), .val (.int v46), .val (.double (9218868437227405312 : UInt64)), .second, .unset, .unset, .unset, .unset, .unset, .unset, .unset, .unset] [(.double (9218868437227405312 : UInt64)), (.int p1), (.int sa)]))
    obtain ⟨_, _, ⟨T20, L20, k20, n20⟩, -, X20, ⟨Lc20, hQ20, l20, y20, z20⟩, st20⟩ := Jvm.LawKit.callS X19 hx (y := (⟨"com/example/parley/parley/model/ObjectiveImprovementPinLaw", "pick", "(IID)D"⟩ : MethodName)) hown (mvT hZ (hw _ (List.mem_of_getElem? (i := 9) rfl))) (mvT hZ (hw _ (List.mem_of_getElem? (i := 10) rfl))) (mvT hZ (hw _ (List.mem_of_getElem? (i := 5) rfl))) (mvT hZ (hw _ (List.mem_of_getElem? (i := 11) rfl))) (by decide) (backOf (W := 0) (rm2 l Z a0 hw [] sa p1 (9218868437227405312 : UInt64) h0 n0 Z0) hZ (hw _ (List.mem_of_getElem? (i := 11) rfl)) (hw _ (List.mem_of_getElem? (i := 5) rfl)) (by decide) (by decide)) (g := (mkF m 66 #[.val (.int p0), .val (.int p1), .val (.int p2), .val (.int p3), .val (.int v3), .val (.ref mx), .val (.int sa), .val (.int sb), .val (.int v46), .val (.double (9218868437227405312 : UInt64)), .second, .unset, .unset, .unset, .unset, .unset, .unset, .unset, .unset] [(.double (9218868437227405312 : UInt64)), (.int p1), (.int sa)])) rfl (by rw [hml]; rfl) (argsL := [(.int sa), (.int p1), (.double (9218868437227405312 : UInt64))]) (rest := []) (lenOf pd_1 rfl) rfl (by show 2 * 0 + _ ≤ _; exact Nat.le_of_eq rfl) (hb hby at_66) (fun _ _ => ⟨rfl, e19, (by decide : 0 + 0 ≤ _), (by decide : 0 + 0 ≤ _)⟩)
    dsimp only [Pt.U, Pt.locs, Pt.cells, Pt.slots] at X20 l20 y20 z20 st20 hQ20
    subst l20 y20 z20
    obtain ⟨rfl, Nq20, e20⟩ := hQ20
    have N20 := Fr.app N19 Nq20
    refine own_up st20 ?_
    show own_Go p.tables e below _ (T20.setTop (mkF m 69 #[.val (.int p0), .val (.int p1), .val (.int p2), .val (.int p3), .val (.int v3), .val (.ref mx), .val (.int sa), .val (.int sb), .val (.int v46), .val (.double (9218868437227405312 : UInt64)), .second, .unset, .unset, .unset, .unset, .unset, .unset, .unset, .unset] [(.double (if sa = 2 then (9218868437227405312 : UInt64) else if sa = 3 then FP.dneg (9218868437227405312 : UInt64) else FP.i2d p1))]))
    generalize hinc : (if sa = 2 then (9218868437227405312 : UInt64) else if sa = 3 then FP.dneg (9218868437227405312 : UInt64) else FP.i2d p1) = inc
    show own_Go p.tables e below _ (T20.setTop (mkF m 69 #[.val (.int p0), .val (.int p1), .val (.int p2), .val (.int p3), .val (.int v3), .val (.ref mx), .val (.int sa), .val (.int sb), .val (.int v46), .val (.double (9218868437227405312 : UInt64)), .second, .unset, .unset, .unset, .unset, .unset, .unset, .unset, .unset] [(.double inc)]))
    have hKi : own_K inc := own_pickK hinc
    refine own_up (fun _ k => XS.dstore X20.here hx rfl (hb hby at_69) rfl (l' := #[.val (.int p0), .val (.int p1), .val (.int p2), .val (.int p3), .val (.int v3), .val (.ref mx), .val (.int sa), .val (.int sb), .val (.int v46), .val (.double (9218868437227405312 : UInt64)), .second, .val (.double inc), .second, .unset, .unset, .unset, .unset, .unset, .unset]) rfl k) ?_
    show own_Go p.tables e below _ (T20.setTop (mkF m 71 #[.val (.int p0), .val (.int p1), .val (.int p2), .val (.int p3), .val (.int v3), .val (.ref mx), .val (.int sa), .val (.int sb), .val (.int v46), .val (.double (9218868437227405312 : UInt64)), .second, .val (.double inc), .second, .unset, .unset, .unset, .unset, .unset, .unset] []))
    refine own_up (fun _ k => XS.iload X20.here hx rfl (hb hby at_71) rfl k) ?_
    show own_Go p.tables e below _ (T20.setTop (mkF m 73 #[.val (.int p0), .val (.int p1), .val (.int p2), .val (.int p3), .val (.int v3), .val (.ref mx), .val (.int sa), .val (.int sb), .val (.int v46), .val (.double (9218868437227405312 : UInt64)), .second, .val (.double inc), .second, .unset, .unset, .unset, .unset, .unset, .unset] [(.int sb)]))
    refine own_up (fun _ k => XS.iload X20.here hx rfl (hb hby at_73) rfl k) ?_
    show own_Go p.tables e below _ (T20.setTop (mkF m 75 #[.val (.int p0), .val (.int p1), .val (.int p2), .val (.int p3), .val (.int v3), .val (.ref mx), .val (.int sa), .val (.int sb), .val (.int v46), .val (.double (9218868437227405312 : UInt64)), .second, .val (.double inc), .second, .unset, .unset, .unset, .unset, .unset, .unset] [(.int v46), (.int sb)]))
    refine own_up (fun _ k => XS.dload X20.here hx rfl (hb hby at_75) rfl k) ?_
    show own_Go p.tables e below _ (T20.setTop (mkF m 77 #[.val (.int p0), .val (.int p1), .val (.int p2), .val (.int p3), .val (.int v3), .val (.ref mx), .val (.int sa), .val (.int sb), .val (.int v46), .val (.double (9218868437227405312 : UInt64)), .second, .val (.double inc), .second, .unset, .unset, .unset, .unset, .unset, .unset] [(.double (9218868437227405312 : UInt64)), (.int v46), (.int sb)]))
    obtain ⟨_, _, ⟨T21, L21, k21, n21⟩, -, X21, ⟨Lc21, hQ21, l21, y21, z21⟩, st21⟩ := Jvm.LawKit.callS X20 hx (y := (⟨"com/example/parley/parley/model/ObjectiveImprovementPinLaw", "pick", "(IID)D"⟩ : MethodName)) hown (mvT hZ (hw _ (List.mem_of_getElem? (i := 9) rfl))) (mvT hZ (hw _ (List.mem_of_getElem? (i := 10) rfl))) (mvT hZ (hw _ (List.mem_of_getElem? (i := 5) rfl))) (mvT hZ (hw _ (List.mem_of_getElem? (i := 11) rfl))) (by decide) (backOf (W := 0) (rm2 l Z a0 hw [] sb v46 (9218868437227405312 : UInt64) h0 n0 Z0) hZ (hw _ (List.mem_of_getElem? (i := 11) rfl)) (hw _ (List.mem_of_getElem? (i := 5) rfl)) (by decide) (by decide)) (g := (mkF m 77 #[.val (.int p0), .val (.int p1), .val (.int p2), .val (.int p3), .val (.int v3), .val (.ref mx), .val (.int sa), .val (.int sb), .val (.int v46), .val (.double (9218868437227405312 : UInt64)), .second, .val (.double inc), .second, .unset, .unset, .unset, .unset, .unset, .unset] [(.double (9218868437227405312 : UInt64)), (.int v46), (.int sb)])) rfl (by rw [hml]; rfl) (argsL := [(.int sb), (.int v46), (.double (9218868437227405312 : UInt64))]) (rest := []) (lenOf pd_1 rfl) rfl (by show 2 * 0 + _ ≤ _; exact Nat.le_of_eq rfl) (hb hby at_77) (fun _ _ => ⟨rfl, e20, (by decide : 0 + 0 ≤ _), (by decide : 0 + 0 ≤ _)⟩)
    dsimp only [Pt.U, Pt.locs, Pt.cells, Pt.slots] at X21 l21 y21 z21 st21 hQ21
    subst l21 y21 z21
    obtain ⟨rfl, Nq21, e21⟩ := hQ21
    have N21 := Fr.app N20 Nq21
    refine own_up st21 ?_
    show own_Go p.tables e below _ (T21.setTop (mkF m 80 #[.val (.int p0), .val (.int p1), .val (.int p2), .val (.int p3), .val (.int v3), .val (.ref mx), .val (.int sa), .val (.int sb), .val (.int v46), .val (.double (9218868437227405312 : UInt64)), .second, .val (.double inc), .second, .unset, .unset, .unset, .unset, .unset, .unset] [(.double (if sb = 2 then (9218868437227405312 : UInt64) else if sb = 3 then FP.dneg (9218868437227405312 : UInt64) else FP.i2d v46))]))
    generalize hcand : (if sb = 2 then (9218868437227405312 : UInt64) else if sb = 3 then FP.dneg (9218868437227405312 : UInt64) else FP.i2d v46) = cand
    show own_Go p.tables e below _ (T21.setTop (mkF m 80 #[.val (.int p0), .val (.int p1), .val (.int p2), .val (.int p3), .val (.int v3), .val (.ref mx), .val (.int sa), .val (.int sb), .val (.int v46), .val (.double (9218868437227405312 : UInt64)), .second, .val (.double inc), .second, .unset, .unset, .unset, .unset, .unset, .unset] [(.double cand)]))
    have hKc : own_K cand := own_pickK hcand
    refine own_up (fun _ k => XS.dstore X21.here hx rfl (hb hby at_80) rfl (l' := #[.val (.int p0), .val (.int p1), .val (.int p2), .val (.int p3), .val (.int v3), .val (.ref mx), .val (.int sa), .val (.int sb), .val (.int v46), .val (.double (9218868437227405312 : UInt64)), .second, .val (.double inc), .second, .val (.double cand), .second, .unset, .unset, .unset, .unset]) rfl k) ?_
    show own_Go p.tables e below _ (T21.setTop (mkF m 82 #[.val (.int p0), .val (.int p1), .val (.int p2), .val (.int p3), .val (.int v3), .val (.ref mx), .val (.int sa), .val (.int sb), .val (.int v46), .val (.double (9218868437227405312 : UInt64)), .second, .val (.double inc), .second, .val (.double cand), .second, .unset, .unset, .unset, .unset] []))
    refine own_up (fun _ k => XS.aload X21.here hx rfl (hb hby at_82) rfl rfl k) ?_
    show own_Go p.tables e below _ (T21.setTop (mkF m 84 #[.val (.int p0), .val (.int p1), .val (.int p2), .val (.int p3), .val (.int v3), .val (.ref mx), .val (.int sa), .val (.int sb), .val (.int v46), .val (.double (9218868437227405312 : UInt64)), .second, .val (.double inc), .second, .val (.double cand), .second, .unset, .unset, .unset, .unset] [(.ref mx)]))
    refine own_up (fun _ k => XS.dload X21.here hx rfl (hb hby at_84) rfl k) ?_
    show own_Go p.tables e below _ (T21.setTop (mkF m 86 #[.val (.int p0), .val (.int p1), .val (.int p2), .val (.int p3), .val (.int v3), .val (.ref mx), .val (.int sa), .val (.int sb), .val (.int v46), .val (.double (9218868437227405312 : UInt64)), .second, .val (.double inc), .second, .val (.double cand), .second, .unset, .unset, .unset, .unset] [(.double inc), (.ref mx)]))
    refine own_up (fun _ k => XS.dload X21.here hx rfl (hb hby at_86) rfl k) ?_
    show own_Go p.tables e below _ (T21.setTop (mkF m 88 #[.val (.int p0), .val (.int p1), .val (.int p2), .val (.int p3), .val (.int v3), .val (.ref mx), .val (.int sa), .val (.int sb), .val (.int v46), .val (.double (9218868437227405312 : UInt64)), .second, .val (.double inc), .second, .val (.double cand), .second, .unset, .unset, .unset, .unset] [(.double cand), (.double inc), (.ref mx)]))
    obtain ⟨cq22, kq22, q22a, q22b, q22c⟩ := isOf hZ e21 E_mx
    obtain ⟨_, _, ⟨T22, L22, k22, n22⟩, -, X22, ⟨Lc22, hQ22, l22, y22, z22⟩, st22⟩ := X21.virtualBack hx (y := (⟨"com/example/parley/parley/model/Objective", "improvement", "(DD)D"⟩ : MethodName)) (z := (⟨"com/example/parley/parley/model/Objective", "improvement", "(DD)D"⟩ : MethodName)) hown (mvT hZ (hw _ (List.mem_of_getElem? (i := 12) rfl))) (mvT hZ (hw _ (List.mem_of_getElem? (i := 13) rfl))) (notFace_of_selects (args := #[]) (mvT hZ (hw _ (List.mem_of_getElem? (i := 15) rfl)))) (mvT hZ (hw _ (List.mem_of_getElem? (i := 15) rfl))) (mvT hZ (hw _ (List.mem_of_getElem? (i := 14) rfl))) (by decide) (backOf (W := 0) (rm3 l Z a0 hw [] mx inc cand mn h0 n0 Z0 S_MIN (fun q _ => own_nn hKi hKc q) (fun q _ => own_nn' hKi hKc q)) hZ (hw _ (List.mem_of_getElem? (i := 16) rfl)) (hw _ (List.mem_of_getElem? (i := 1) rfl)) (by decide) (by decide)) q22a q22c (g := (mkF m 88 #[.val (.int p0), .val (.int p1), .val (.int p2), .val (.int p3), .val (.int v3), .val (.ref mx), .val (.int sa), .val (.int sb), .val (.int v46), .val (.double (9218868437227405312 : UInt64)), .second, .val (.double inc), .second, .val (.double cand), .second, .unset, .unset, .unset, .unset] [(.double cand), (.double inc), (.ref mx)])) rfl (by rw [hml]; rfl) (Steps.refl _) (argsL := [(.double inc), (.double cand)]) (rest := []) (lenOf pd_2 rfl) rfl (by show 2 * 0 + _ ≤ _; exact Nat.le_of_eq rfl) (hb hby at_88) (fun _ _ => ⟨rfl, e21, (by decide : 0 + 0 ≤ _), (by decide : 0 + 0 ≤ _)⟩)
    dsimp only [Pt.U, Pt.locs, Pt.cells, Pt.slots] at X22 l22 y22 z22 st22 hQ22
    subst l22 y22 z22
    obtain ⟨rfl, Nq22, e22⟩ := hQ22
    have N22 := Fr.app N21 Nq22
    refine own_up (fun _ k => st22.trans k) ?_
    show own_Go p.tables e below _ (T22.setTop (mkF m 91 #[.val (.int p0), .val (.int p1), .val (.int p2), .val (.int p3), .val (.int v3), .val (.ref mx), .val (.int sa), .val (.int sb), .val (.int v46), .val (.double (9218868437227405312 : UInt64)), .second, .val (.double inc), .second, .val (.double cand), .second, .unset, .unset, .unset, .unset] [(.double (if cmpValue (FP.dcmp cand inc) .l = 0 then (0 : UInt64) else if mx = mn then FP.dsub inc cand else FP.dsub cand inc))]))
    generalize hr : (if cmpValue (FP.dcmp cand inc) .l = 0 then (0 : UInt64) else if mx = mn then FP.dsub inc cand else FP.dsub cand inc) = r
    show own_Go p.tables e below _ (T22.setTop (mkF m 91 #[.val (.int p0), .val (.int p1), .val (.int p2), .val (.int p3), .val (.int v3), .val (.ref mx), .val (.int sa), .val (.int sb), .val (.int v46), .val (.double (9218868437227405312 : UInt64)), .second, .val (.double inc), .second, .val (.double cand), .second, .unset, .unset, .unset, .unset] [(.double r)]))
    refine own_up (fun _ k => XS.dstore X22.here hx rfl (hb hby at_91) rfl (l' := #[.val (.int p0), .val (.int p1), .val (.int p2), .val (.int p3), .val (.int v3), .val (.ref mx), .val (.int sa), .val (.int sb), .val (.int v46), .val (.double (9218868437227405312 : UInt64)), .second, .val (.double inc), .second, .val (.double cand), .second, .val (.double r), .second, .unset, .unset]) rfl k) ?_
    show own_Go p.tables e below _ (T22.setTop (mkF m 93 #[.val (.int p0), .val (.int p1), .val (.int p2), .val (.int p3), .val (.int v3), .val (.ref mx), .val (.int sa), .val (.int sb), .val (.int v46), .val (.double (9218868437227405312 : UInt64)), .second, .val (.double inc), .second, .val (.double cand), .second, .val (.double r), .second, .unset, .unset] []))
    refine own_up (fun _ k => XS.iload X22.here hx rfl (hb hby at_93) rfl k) ?_
    show own_Go p.tables e below _ (T22.setTop (mkF m 95 #[.val (.int p0), .val (.int p1), .val (.int p2), .val (.int p3), .val (.int v3), .val (.ref mx), .val (.int sa), .val (.int sb), .val (.int v46), .val (.double (9218868437227405312 : UInt64)), .second, .val (.double inc), .second, .val (.double cand), .second, .val (.double r), .second, .unset, .unset] [(.int sa)]))
    refine own_up (fun _ k => XS.iconst X22.here hx rfl (hb hby at_95) k) ?_
    show own_Go p.tables e below _ (T22.setTop (mkF m 96 #[.val (.int p0), .val (.int p1), .val (.int p2), .val (.int p3), .val (.int v3), .val (.ref mx), .val (.int sa), .val (.int sb), .val (.int v46), .val (.double (9218868437227405312 : UInt64)), .second, .val (.double inc), .second, .val (.double cand), .second, .val (.double r), .second, .unset, .unset] [(.int (2 : Int32)), (.int sa)]))
    by_cases hc96 : sa < (2 : Int32)
    · refine own_up (fun _ k => XS.icmpNo X22.here hx rfl (hb hby at_96) rfl (tlt hc96).2.1 k) ?_
      show own_Go p.tables e below _ (T22.setTop (mkF m 99 #[.val (.int p0), .val (.int p1), .val (.int p2), .val (.int p3), .val (.int v3), .val (.ref mx), .val (.int sa), .val (.int sb), .val (.int v46), .val (.double (9218868437227405312 : UInt64)), .second, .val (.double inc), .second, .val (.double cand), .second, .val (.double r), .second, .unset, .unset] []))
      refine own_up (fun _ k => XS.iload X22.here hx rfl (hb hby at_99) rfl k) ?_
      show own_Go p.tables e below _ (T22.setTop (mkF m 101 #[.val (.int p0), .val (.int p1), .val (.int p2), .val (.int p3), .val (.int v3), .val (.ref mx), .val (.int sa), .val (.int sb), .val (.int v46), .val (.double (9218868437227405312 : UInt64)), .second, .val (.double inc), .second, .val (.double cand), .second, .val (.double r), .second, .unset, .unset] [(.int sb)]))
      refine own_up (fun _ k => XS.iconst X22.here hx rfl (hb hby at_101) k) ?_
      show own_Go p.tables e below _ (T22.setTop (mkF m 102 #[.val (.int p0), .val (.int p1), .val (.int p2), .val (.int p3), .val (.int v3), .val (.ref mx), .val (.int sa), .val (.int sb), .val (.int v46), .val (.double (9218868437227405312 : UInt64)), .second, .val (.double inc), .second, .val (.double cand), .second, .val (.double r), .second, .unset, .unset] [(.int (2 : Int32)), (.int sb)]))
      by_cases hc102 : sb < (2 : Int32)
      · refine own_up (fun _ k => XS.icmpNo X22.here hx rfl (hb hby at_102) rfl (tlt hc102).2.1 k) ?_
        show own_Go p.tables e below _ (T22.setTop (mkF m 105 #[.val (.int p0), .val (.int p1), .val (.int p2), .val (.int p3), .val (.int v3), .val (.ref mx), .val (.int sa), .val (.int sb), .val (.int v46), .val (.double (9218868437227405312 : UInt64)), .second, .val (.double inc), .second, .val (.double cand), .second, .val (.double r), .second, .unset, .unset] []))
        refine own_up (fun _ k => XS.iload X22.here hx rfl (hb hby at_105) rfl k) ?_
        show own_Go p.tables e below _ (T22.setTop (mkF m 107 #[.val (.int p0), .val (.int p1), .val (.int p2), .val (.int p3), .val (.int v3), .val (.ref mx), .val (.int sa), .val (.int sb), .val (.int v46), .val (.double (9218868437227405312 : UInt64)), .second, .val (.double inc), .second, .val (.double cand), .second, .val (.double r), .second, .unset, .unset] [(.int v3)]))
        refine own_up (fun _ k => XS.ifNo X22.here hx rfl (hb hby at_107) rfl ((if0 _ _).trans (feq hc15).1) k) ?_
        show own_Go p.tables e below _ (T22.setTop (mkF m 110 #[.val (.int p0), .val (.int p1), .val (.int p2), .val (.int p3), .val (.int v3), .val (.ref mx), .val (.int sa), .val (.int sb), .val (.int v46), .val (.double (9218868437227405312 : UInt64)), .second, .val (.double inc), .second, .val (.double cand), .second, .val (.double r), .second, .unset, .unset] []))
        refine own_up (fun _ k => XS.iload X22.here hx rfl (hb hby at_110) rfl k) ?_
        show own_Go p.tables e below _ (T22.setTop (mkF m 112 #[.val (.int p0), .val (.int p1), .val (.int p2), .val (.int p3), .val (.int v3), .val (.ref mx), .val (.int sa), .val (.int sb), .val (.int v46), .val (.double (9218868437227405312 : UInt64)), .second, .val (.double inc), .second, .val (.double cand), .second, .val (.double r), .second, .unset, .unset] [(.int v46)]))
        refine own_up (fun _ k => XS.i2l X22.here hx rfl (hb hby at_112) rfl k) ?_
        show own_Go p.tables e below _ (T22.setTop (mkF m 113 #[.val (.int p0), .val (.int p1), .val (.int p2), .val (.int p3), .val (.int v3), .val (.ref mx), .val (.int sa), .val (.int sb), .val (.int v46), .val (.double (9218868437227405312 : UInt64)), .second, .val (.double inc), .second, .val (.double cand), .second, .val (.double r), .second, .unset, .unset] [(.long v46.toInt64)]))
        refine own_up (fun _ k => XS.iloadN X22.here hx rfl (hb hby at_113) rfl k) ?_
        show own_Go p.tables e below _ (T22.setTop (mkF m 114 #[.val (.int p0), .val (.int p1), .val (.int p2), .val (.int p3), .val (.int v3), .val (.ref mx), .val (.int sa), .val (.int sb), .val (.int v46), .val (.double (9218868437227405312 : UInt64)), .second, .val (.double inc), .second, .val (.double cand), .second, .val (.double r), .second, .unset, .unset] [(.int p1), (.long v46.toInt64)]))
        refine own_up (fun _ k => XS.i2l X22.here hx rfl (hb hby at_114) rfl k) ?_
        show own_Go p.tables e below _ (T22.setTop (mkF m 115 #[.val (.int p0), .val (.int p1), .val (.int p2), .val (.int p3), .val (.int v3), .val (.ref mx), .val (.int sa), .val (.int sb), .val (.int v46), .val (.double (9218868437227405312 : UInt64)), .second, .val (.double inc), .second, .val (.double cand), .second, .val (.double r), .second, .unset, .unset] [(.long p1.toInt64), (.long v46.toInt64)]))
        refine own_up (fun _ k => XS.lsub X22.here hx rfl (hb hby at_115) rfl k) ?_
        show own_Go p.tables e below _ (T22.setTop (mkF m 116 #[.val (.int p0), .val (.int p1), .val (.int p2), .val (.int p3), .val (.int v3), .val (.ref mx), .val (.int sa), .val (.int sb), .val (.int v46), .val (.double (9218868437227405312 : UInt64)), .second, .val (.double inc), .second, .val (.double cand), .second, .val (.double r), .second, .unset, .unset] [(.long (v46.toInt64 - p1.toInt64))]))
        refine own_up (fun _ k => XS.goto X22.here hx rfl (pc0 := 116) (pc' := 125) rfl (hb hby at_116) (by decide) (by decide) k) ?_
        show own_Go p.tables e below _ (T22.setTop (mkF m 125 #[.val (.int p0), .val (.int p1), .val (.int p2), .val (.int p3), .val (.int v3), .val (.ref mx), .val (.int sa), .val (.int sb), .val (.int v46), .val (.double (9218868437227405312 : UInt64)), .second, .val (.double inc), .second, .val (.double cand), .second, .val (.double r), .second, .unset, .unset] [(.long (v46.toInt64 - p1.toInt64))]))
        refine own_up (fun _ k => XS.lstore X22.here hx rfl (hb hby at_125) rfl (l' := #[.val (.int p0), .val (.int p1), .val (.int p2), .val (.int p3), .val (.int v3), .val (.ref mx), .val (.int sa), .val (.int sb), .val (.int v46), .val (.double (9218868437227405312 : UInt64)), .second, .val (.double inc), .second, .val (.double cand), .second, .val (.double r), .second, .val (.long (v46.toInt64 - p1.toInt64)), .second]) rfl k) ?_
        show own_Go p.tables e below _ (T22.setTop (mkF m 127 #[.val (.int p0), .val (.int p1), .val (.int p2), .val (.int p3), .val (.int v3), .val (.ref mx), .val (.int sa), .val (.int sb), .val (.int v46), .val (.double (9218868437227405312 : UInt64)), .second, .val (.double inc), .second, .val (.double cand), .second, .val (.double r), .second, .val (.long (v46.toInt64 - p1.toInt64)), .second] []))
        refine own_up (fun _ k => XS.dload X22.here hx rfl (hb hby at_127) rfl k) ?_
        show own_Go p.tables e below _ (T22.setTop (mkF m 129 #[.val (.int p0), .val (.int p1), .val (.int p2), .val (.int p3), .val (.int v3), .val (.ref mx), .val (.int sa), .val (.int sb), .val (.int v46), .val (.double (9218868437227405312 : UInt64)), .second, .val (.double inc), .second, .val (.double cand), .second, .val (.double r), .second, .val (.long (v46.toInt64 - p1.toInt64)), .second] [(.double r)]))
        refine own_up (fun _ k => XS.lload X22.here hx rfl (hb hby at_129) rfl k) ?_
        show own_Go p.tables e below _ (T22.setTop (mkF m 131 #[.val (.int p0), .val (.int p1), .val (.int p2), .val (.int p3), .val (.int v3), .val (.ref mx), .val (.int sa), .val (.int sb), .val (.int v46), .val (.double (9218868437227405312 : UInt64)), .second, .val (.double inc), .second, .val (.double cand), .second, .val (.double r), .second, .val (.long (v46.toInt64 - p1.toInt64)), .second] [(.long (v46.toInt64 - p1.toInt64)), (.double r)]))
        refine own_up (fun _ k => XS.l2dS X22.here hx rfl (v := (FP.l2d (v46.toInt64 - p1.toInt64))) (hb hby at_131) rfl rfl k) ?_
        show own_Go p.tables e below _ (T22.setTop (mkF m 132 #[.val (.int p0), .val (.int p1), .val (.int p2), .val (.int p3), .val (.int v3), .val (.ref mx), .val (.int sa), .val (.int sb), .val (.int v46), .val (.double (9218868437227405312 : UInt64)), .second, .val (.double inc), .second, .val (.double cand), .second, .val (.double r), .second, .val (.long (v46.toInt64 - p1.toInt64)), .second] [(.double (FP.l2d (v46.toInt64 - p1.toInt64))), (.double r)]))
        refine own_up (fun _ k => XS.dcmpS X22.here hx rfl (v := (cmpValue (FP.dcmp r (FP.l2d (v46.toInt64 - p1.toInt64))) .l)) (hb hby at_132) rfl rfl k) ?_
        show own_Go p.tables e below _ (T22.setTop (mkF m 133 #[.val (.int p0), .val (.int p1), .val (.int p2), .val (.int p3), .val (.int v3), .val (.ref mx), .val (.int sa), .val (.int sb), .val (.int v46), .val (.double (9218868437227405312 : UInt64)), .second, .val (.double inc), .second, .val (.double cand), .second, .val (.double r), .second, .val (.long (v46.toInt64 - p1.toInt64)), .second] [(.int (cmpValue (FP.dcmp r (FP.l2d (v46.toInt64 - p1.toInt64))) .l))]))
        refine own_up (fun _ k => XS.ifNo X22.here hx rfl (hb hby at_133) rfl ((if0 _ _).trans (teq (own_fin_max (by first | exact hmm | exact rfl) p1 v46 hsa hsb hinc hcand hc96 hc102 hr)).2) k) ?_
        show own_Go p.tables e below _ (T22.setTop (mkF m 136 #[.val (.int p0), .val (.int p1), .val (.int p2), .val (.int p3), .val (.int v3), .val (.ref mx), .val (.int sa), .val (.int sb), .val (.int v46), .val (.double (9218868437227405312 : UInt64)), .second, .val (.double inc), .second, .val (.double cand), .second, .val (.double r), .second, .val (.long (v46.toInt64 - p1.toInt64)), .second] []))
        refine own_up (fun _ k => XS.iconst X22.here hx rfl (hb hby at_136) k) ?_
        show own_Go p.tables e below _ (T22.setTop (mkF m 137 #[.val (.int p0), .val (.int p1), .val (.int p2), .val (.int p3), .val (.int v3), .val (.ref mx), .val (.int sa), .val (.int sb), .val (.int v46), .val (.double (9218868437227405312 : UInt64)), .second, .val (.double inc), .second, .val (.double cand), .second, .val (.double r), .second, .val (.long (v46.toInt64 - p1.toInt64)), .second] [(.int (1 : Int32))]))
        refine own_up (fun _ k => XS.goto X22.here hx rfl (pc0 := 137) (pc' := 141) rfl (hb hby at_137) (by decide) (by decide) k) ?_
        show own_Go p.tables e below _ (T22.setTop (mkF m 141 #[.val (.int p0), .val (.int p1), .val (.int p2), .val (.int p3), .val (.int v3), .val (.ref mx), .val (.int sa), .val (.int sb), .val (.int v46), .val (.double (9218868437227405312 : UInt64)), .second, .val (.double inc), .second, .val (.double cand), .second, .val (.double r), .second, .val (.long (v46.toInt64 - p1.toInt64)), .second] [(.int (1 : Int32))]))
        obtain ⟨fs23, hr23, hrun23, hended23, hW23, hsame23⟩ := X22.leave (v := some (.int (1 : Int32))) (fun h => by rw [Bd.returns] at h; cases h)
        refine own_end ⟨_, _, ?_, hrun23, hended23, _, _, rfl, ?_, ⟨_, rfl⟩, hW23, hsame23.mono (by decide) (by decide)⟩
        · exact retN X22 hx (t := .boolean) Bd.returns (by simp) (hb hby at_141) hr23
        · show Qrm0 Z p0 p1 p2 p3 mn mx h0 n0 _ T22.heap _
          rw [e22]
          exact ⟨rfl, N22⟩
      · refine own_up (fun _ k => XS.icmpYes X22.here hx rfl (pc0 := 102) (pc' := 142) rfl (hb hby at_102) rfl (flt hc102).2.1 (by decide) (by decide) k) ?_
        show own_Go p.tables e below _ (T22.setTop (mkF m 142 #[.val (.int p0), .val (.int p1), .val (.int p2), .val (.int p3), .val (.int v3), .val (.ref mx), .val (.int sa), .val (.int sb), .val (.int v46), .val (.double (9218868437227405312 : UInt64)), .second, .val (.double inc), .second, .val (.double cand), .second, .val (.double r), .second, .unset, .unset] []))
        refine own_up (fun _ k => XS.dload X22.here hx rfl (hb hby at_142) rfl k) ?_
        show own_Go p.tables e below _ (T22.setTop (mkF m 144 #[.val (.int p0), .val (.int p1), .val (.int p2), .val (.int p3), .val (.int v3), .val (.ref mx), .val (.int sa), .val (.int sb), .val (.int v46), .val (.double (9218868437227405312 : UInt64)), .second, .val (.double inc), .second, .val (.double cand), .second, .val (.double r), .second, .unset, .unset] [(.double inc)]))
        refine own_up (fun _ k => XS.dload X22.here hx rfl (hb hby at_144) rfl k) ?_
        show own_Go p.tables e below _ (T22.setTop (mkF m 146 #[.val (.int p0), .val (.int p1), .val (.int p2), .val (.int p3), .val (.int v3), .val (.ref mx), .val (.int sa), .val (.int sb), .val (.int v46), .val (.double (9218868437227405312 : UInt64)), .second, .val (.double inc), .second, .val (.double cand), .second, .val (.double r), .second, .unset, .unset] [(.double cand), (.double inc)]))
        refine own_up (fun _ k => XS.dcmpS X22.here hx rfl (v := (cmpValue (FP.dcmp inc cand) .l)) (hb hby at_146) rfl rfl k) ?_
        show own_Go p.tables e below _ (T22.setTop (mkF m 147 #[.val (.int p0), .val (.int p1), .val (.int p2), .val (.int p3), .val (.int v3), .val (.ref mx), .val (.int sa), .val (.int sb), .val (.int v46), .val (.double (9218868437227405312 : UInt64)), .second, .val (.double inc), .second, .val (.double cand), .second, .val (.double r), .second, .unset, .unset] [(.int (cmpValue (FP.dcmp inc cand) .l))]))
        by_cases hc147 : (cmpValue (FP.dcmp inc cand) .l) = (0 : Int32)
        · refine own_up (fun _ k => XS.ifNo X22.here hx rfl (hb hby at_147) rfl ((if0 _ _).trans (teq hc147).2) k) ?_
          show own_Go p.tables e below _ (T22.setTop (mkF m 150 #[.val (.int p0), .val (.int p1), .val (.int p2), .val (.int p3), .val (.int v3), .val (.ref mx), .val (.int sa), .val (.int sb), .val (.int v46), .val (.double (9218868437227405312 : UInt64)), .second, .val (.double inc), .second, .val (.double cand), .second, .val (.double r), .second, .unset, .unset] []))
          refine own_up (fun _ k => XS.dload X22.here hx rfl (hb hby at_150) rfl k) ?_
          show own_Go p.tables e below _ (T22.setTop (mkF m 152 #[.val (.int p0), .val (.int p1), .val (.int p2), .val (.int p3), .val (.int v3), .val (.ref mx), .val (.int sa), .val (.int sb), .val (.int v46), .val (.double (9218868437227405312 : UInt64)), .second, .val (.double inc), .second, .val (.double cand), .second, .val (.double r), .second, .unset, .unset] [(.double r)]))
          refine own_up (fun _ k => XS.dconst0 X22.here hx rfl (v := (0 : UInt64)) (hb hby at_152) rfl k) ?_
          show own_Go p.tables e below _ (T22.setTop (mkF m 153 #[.val (.int p0), .val (.int p1), .val (.int p2), .val (.int p3), .val (.int v3), .val (.ref mx), .val (.int sa), .val (.int sb), .val (.int v46), .val (.double (9218868437227405312 : UInt64)), .second, .val (.double inc), .second, .val (.double cand), .second, .val (.double r), .second, .unset, .unset] [(.double (0 : UInt64)), (.double r)]))
          refine own_up (fun _ k => XS.dcmpS X22.here hx rfl (v := (cmpValue (FP.dcmp r (0 : UInt64)) .l)) (hb hby at_153) rfl rfl k) ?_
          show own_Go p.tables e below _ (T22.setTop (mkF m 154 #[.val (.int p0), .val (.int p1), .val (.int p2), .val (.int p3), .val (.int v3), .val (.ref mx), .val (.int sa), .val (.int sb), .val (.int v46), .val (.double (9218868437227405312 : UInt64)), .second, .val (.double inc), .second, .val (.double cand), .second, .val (.double r), .second, .unset, .unset] [(.int (cmpValue (FP.dcmp r (0 : UInt64)) .l))]))
          refine own_up (fun _ k => XS.ifNo X22.here hx rfl (hb hby at_154) rfl ((if0 _ _).trans (teq (own_zero hKi hKc hc147 hr)).2) k) ?_
          show own_Go p.tables e below _ (T22.setTop (mkF m 157 #[.val (.int p0), .val (.int p1), .val (.int p2), .val (.int p3), .val (.int v3), .val (.ref mx), .val (.int sa), .val (.int sb), .val (.int v46), .val (.double (9218868437227405312 : UInt64)), .second, .val (.double inc), .second, .val (.double cand), .second, .val (.double r), .second, .unset, .unset] []))
          refine own_up (fun _ k => XS.iconst X22.here hx rfl (hb hby at_157) k) ?_
          show own_Go p.tables e below _ (T22.setTop (mkF m 158 #[.val (.int p0), .val (.int p1), .val (.int p2), .val (.int p3), .val (.int v3), .val (.ref mx), .val (.int sa), .val (.int sb), .val (.int v46), .val (.double (9218868437227405312 : UInt64)), .second, .val (.double inc), .second, .val (.double cand), .second, .val (.double r), .second, .unset, .unset] [(.int (1 : Int32))]))
          refine own_up (fun _ k => XS.goto X22.here hx rfl (pc0 := 158) (pc' := 162) rfl (hb hby at_158) (by decide) (by decide) k) ?_
          show own_Go p.tables e below _ (T22.setTop (mkF m 162 #[.val (.int p0), .val (.int p1), .val (.int p2), .val (.int p3), .val (.int v3), .val (.ref mx), .val (.int sa), .val (.int sb), .val (.int v46), .val (.double (9218868437227405312 : UInt64)), .second, .val (.double inc), .second, .val (.double cand), .second, .val (.double r), .second, .unset, .unset] [(.int (1 : Int32))]))
          obtain ⟨fs24, hr24, hrun24, hended24, hW24, hsame24⟩ := X22.leave (v := some (.int (1 : Int32))) (fun h => by rw [Bd.returns] at h; cases h)
          refine own_end ⟨_, _, ?_, hrun24, hended24, _, _, rfl, ?_, ⟨_, rfl⟩, hW24, hsame24.mono (by decide) (by decide)⟩
          · exact retN X22 hx (t := .boolean) Bd.returns (by simp) (hb hby at_162) hr24
          · show Qrm0 Z p0 p1 p2 p3 mn mx h0 n0 _ T22.heap _
            rw [e22]
            exact ⟨rfl, N22⟩
        · refine own_up (fun _ k => XS.ifYes X22.here hx rfl (pc0 := 147) (pc' := 163) rfl (hb hby at_147) rfl ((if0 _ _).trans (feq hc147).2) (by decide) (by decide) k) ?_
          show own_Go p.tables e below _ (T22.setTop (mkF m 163 #[.val (.int p0), .val (.int p1), .val (.int p2), .val (.int p3), .val (.int v3), .val (.ref mx), .val (.int sa), .val (.int sb), .val (.int v46), .val (.double (9218868437227405312 : UInt64)), .second, .val (.double inc), .second, .val (.double cand), .second, .val (.double r), .second, .unset, .unset] []))
          refine own_up (fun _ k => XS.iload X22.here hx rfl (hb hby at_163) rfl k) ?_
          show own_Go p.tables e below _ (T22.setTop (mkF m 165 #[.val (.int p0), .val (.int p1), .val (.int p2), .val (.int p3), .val (.int v3), .val (.ref mx), .val (.int sa), .val (.int sb), .val (.int v46), .val (.double (9218868437227405312 : UInt64)), .second, .val (.double inc), .second, .val (.double cand), .second, .val (.double r), .second, .unset, .unset] [(.int v3)]))
          refine own_up (fun _ k => XS.ifNo X22.here hx rfl (hb hby at_165) rfl ((if0 _ _).trans (feq hc15).1) k) ?_
          show own_Go p.tables e below _ (T22.setTop (mkF m 168 #[.val (.int p0), .val (.int p1), .val (.int p2), .val (.int p3), .val (.int v3), .val (.ref mx), .val (.int sa), .val (.int sb), .val (.int v46), .val (.double (9218868437227405312 : UInt64)), .second, .val (.double inc), .second, .val (.double cand), .second, .val (.double r), .second, .unset, .unset] []))
          refine own_up (fun _ k => XS.dload X22.here hx rfl (hb hby at_168) rfl k) ?_
          show own_Go p.tables e below _ (T22.setTop (mkF m 170 #[.val (.int p0), .val (.int p1), .val (.int p2), .val (.int p3), .val (.int v3), .val (.ref mx), .val (.int sa), .val (.int sb), .val (.int v46), .val (.double (9218868437227405312 : UInt64)), .second, .val (.double inc), .second, .val (.double cand), .second, .val (.double r), .second, .unset, .unset] [(.double cand)]))
          refine own_up (fun _ k => XS.dload X22.here hx rfl (hb hby at_170) rfl k) ?_
          show own_Go p.tables e below _ (T22.setTop (mkF m 172 #[.val (.int p0), .val (.int p1), .val (.int p2), .val (.int p3), .val (.int v3), .val (.ref mx), .val (.int sa), .val (.int sb), .val (.int v46), .val (.double (9218868437227405312 : UInt64)), .second, .val (.double inc), .second, .val (.double cand), .second, .val (.double r), .second, .unset, .unset] [(.double inc), (.double cand)]))
          refine own_up (fun _ k => XS.dcmpS X22.here hx rfl (v := (cmpValue (FP.dcmp cand inc) .l)) (hb hby at_172) rfl rfl k) ?_
          show own_Go p.tables e below _ (T22.setTop (mkF m 173 #[.val (.int p0), .val (.int p1), .val (.int p2), .val (.int p3), .val (.int v3), .val (.ref mx), .val (.int sa), .val (.int sb), .val (.int v46), .val (.double (9218868437227405312 : UInt64)), .second, .val (.double inc), .second, .val (.double cand), .second, .val (.double r), .second, .unset, .unset] [(.int (cmpValue (FP.dcmp cand inc) .l))]))
          obtain ⟨v173, hv173⟩ : ∃ z : Int32, z = if (0 : Int32) < (cmpValue (FP.dcmp cand inc) .l) then (1 : Int32) else (0 : Int32) := ⟨_, rfl⟩
          have sg25 : ∀ t, Steps p.tables e below (T22.setTop (mkF m 197 #[.val (.int p0), .val (.int p1), .val (.int p2), .val (.int p3), .val (.int v3), .val (.ref mx), .val (.int sa), .val (.int sb), .val (.int v46), .val (.double (9218868437227405312 : UInt64)), .second, .val (.double inc), .second, .val (.double cand), .second, .val (.double r), .second, .unset, .unset] [(.int v173)])) t → Steps p.tables e below (T22.setTop (mkF m 173 #[.val (.int p0), .val (.int p1), .val (.int p2), .val (.int p3), .val (.int v3), .val (.ref mx), .val (.int sa), .val (.int sb), .val (.int v46), .val (.double (9218868437227405312 : UInt64)), .second, .val (.double inc), .second, .val (.double cand), .second, .val (.double r), .second, .unset, .unset] [(.int (cmpValue (FP.dcmp cand inc) .l))])) t := by
            intro t k
            by_cases hc173 : (0 : Int32) < (cmpValue (FP.dcmp cand inc) .l)
            · rw [hv173, if_pos hc173] at k
              refine XS.ifNo X22.here hx rfl (hb hby at_173) rfl ((if0 _ _).trans (tlt hc173).2.2.2) ?_
              show Steps p.tables e below (T22.setTop (mkF m 176 #[.val (.int p0), .val (.int p1), .val (.int p2), .val (.int p3), .val (.int v3), .val (.ref mx), .val (.int sa), .val (.int sb), .val (.int v46), .val (.double (9218868437227405312 : UInt64)), .second, .val (.double inc), .second, .val (.double cand), .second, .val (.double r), .second, .unset, .unset] [])) _
              refine XS.iconst X22.here hx rfl (hb hby at_176) ?_
              show Steps p.tables e below (T22.setTop (mkF m 177 #[.val (.int p0), .val (.int p1), .val (.int p2), .val (.int p3), .val (.int v3), .val (.ref mx), .val (.int sa), .val (.int sb), .val (.int v46), .val (.double (9218868437227405312 : UInt64)), .second, .val (.double inc), .second, .val (.double cand), .second, .val (.double r), .second, .unset, .unset] [(.int (1 : Int32))])) _
              refine XS.goto X22.here hx rfl (pc0 := 177) (pc' := 197) rfl (hb hby at_177) (by decide) (by decide) ?_
              show Steps p.tables e below (T22.setTop (mkF m 197 #[.val (.int p0), .val (.int p1), .val (.int p2), .val (.int p3), .val (.int v3), .val (.ref mx), .val (.int sa), .val (.int sb), .val (.int v46), .val (.double (9218868437227405312 : UInt64)), .second, .val (.double inc), .second, .val (.double cand), .second, .val (.double r), .second, .unset, .unset] [(.int (1 : Int32))])) _
              exact k
            · rw [hv173, if_neg hc173] at k
              refine XS.ifYes X22.here hx rfl (pc0 := 173) (pc' := 180) rfl (hb hby at_173) rfl ((if0 _ _).trans (flt hc173).2.2.2) (by decide) (by decide) ?_
              show Steps p.tables e below (T22.setTop (mkF m 180 #[.val (.int p0), .val (.int p1), .val (.int p2), .val (.int p3), .val (.int v3), .val (.ref mx), .val (.int sa), .val (.int sb), .val (.int v46), .val (.double (9218868437227405312 : UInt64)), .second, .val (.double inc), .second, .val (.double cand), .second, .val (.double r), .second, .unset, .unset] [])) _
              refine XS.iconst X22.here hx rfl (hb hby at_180) ?_
              show Steps p.tables e below (T22.setTop (mkF m 181 #[.val (.int p0), .val (.int p1), .val (.int p2), .val (.int p3), .val (.int v3), .val (.ref mx), .val (.int sa), .val (.int sb), .val (.int v46), .val (.double (9218868437227405312 : UInt64)), .second, .val (.double inc), .second, .val (.double cand), .second, .val (.double r), .second, .unset, .unset] [(.int (0 : Int32))])) _
              refine XS.goto X22.here hx rfl (pc0 := 181) (pc' := 197) rfl (hb hby at_181) (by decide) (by decide) ?_
              show Steps p.tables e below (T22.setTop (mkF m 197 #[.val (.int p0), .val (.int p1), .val (.int p2), .val (.int p3), .val (.int v3), .val (.ref mx), .val (.int sa), .val (.int sb), .val (.int v46), .val (.double (9218868437227405312 : UInt64)), .second, .val (.double inc), .second, .val (.double cand), .second, .val (.double r), .second, .unset, .unset] [(.int (0 : Int32))])) _
              exact k
          refine own_up sg25 ?_
          show own_Go p.tables e below _ (T22.setTop (mkF m 197 #[.val (.int p0), .val (.int p1), .val (.int p2), .val (.int p3), .val (.int v3), .val (.ref mx), .val (.int sa), .val (.int sb), .val (.int v46), .val (.double (9218868437227405312 : UInt64)), .second, .val (.double inc), .second, .val (.double cand), .second, .val (.double r), .second, .unset, .unset] [(.int v173)]))
          refine own_up (fun _ k => XS.istore X22.here hx rfl (hb hby at_197) rfl (l' := #[.val (.int p0), .val (.int p1), .val (.int p2), .val (.int p3), .val (.int v3), .val (.ref mx), .val (.int sa), .val (.int sb), .val (.int v46), .val (.double (9218868437227405312 : UInt64)), .second, .val (.double inc), .second, .val (.double cand), .second, .val (.double r), .second, .val (.int v173), .unset]) rfl k) ?_
          show own_Go p.tables e below _ (T22.setTop (mkF m 199 #[.val (.int p0), .val (.int p1), .val (.int p2), .val (.int p3), .val (.int v3), .val (.ref mx), .val (.int sa), .val (.int sb), .val (.int v46), .val (.double (9218868437227405312 : UInt64)), .second, .val (.double inc), .second, .val (.double cand), .second, .val (.double r), .second, .val (.int v173), .unset] []))
          refine own_up (fun _ k => XS.iload X22.here hx rfl (hb hby at_199) rfl k) ?_
          show own_Go p.tables e below _ (T22.setTop (mkF m 201 #[.val (.int p0), .val (.int p1), .val (.int p2), .val (.int p3), .val (.int v3), .val (.ref mx), .val (.int sa), .val (.int sb), .val (.int v46), .val (.double (9218868437227405312 : UInt64)), .second, .val (.double inc), .second, .val (.double cand), .second, .val (.double r), .second, .val (.int v173), .unset] [(.int v173)]))
          by_cases hc201 : v173 = (0 : Int32)
          · refine own_up (fun _ k => XS.ifYes X22.here hx rfl (pc0 := 201) (pc' := 220) rfl (hb hby at_201) rfl ((if0 _ _).trans (teq hc201).1) (by decide) (by decide) k) ?_
            show own_Go p.tables e below _ (T22.setTop (mkF m 220 #[.val (.int p0), .val (.int p1), .val (.int p2), .val (.int p3), .val (.int v3), .val (.ref mx), .val (.int sa), .val (.int sb), .val (.int v46), .val (.double (9218868437227405312 : UInt64)), .second, .val (.double inc), .second, .val (.double cand), .second, .val (.double r), .second, .val (.int v173), .unset] []))
            refine own_up (fun _ k => XS.dload X22.here hx rfl (hb hby at_220) rfl k) ?_
            show own_Go p.tables e below _ (T22.setTop (mkF m 222 #[.val (.int p0), .val (.int p1), .val (.int p2), .val (.int p3), .val (.int v3), .val (.ref mx), .val (.int sa), .val (.int sb), .val (.int v46), .val (.double (9218868437227405312 : UInt64)), .second, .val (.double inc), .second, .val (.double cand), .second, .val (.double r), .second, .val (.int v173), .unset] [(.double r)]))
            refine own_up (fun _ k => XS.dload X22.here hx rfl (hb hby at_222) rfl k) ?_
            show own_Go p.tables e below _ (T22.setTop (mkF m 224 #[.val (.int p0), .val (.int p1), .val (.int p2), .val (.int p3), .val (.int v3), .val (.ref mx), .val (.int sa), .val (.int sb), .val (.int v46), .val (.double (9218868437227405312 : UInt64)), .second, .val (.double inc), .second, .val (.double cand), .second, .val (.double r), .second, .val (.int v173), .unset] [(.double (9218868437227405312 : UInt64)), (.double r)]))
            refine own_up (fun _ k => XS.dnegS X22.here hx rfl (v := (FP.dneg (9218868437227405312 : UInt64))) (hb hby at_224) rfl rfl k) ?_
            show own_Go p.tables e below _ (T22.setTop (mkF m 225 #[.val (.int p0), .val (.int p1), .val (.int p2), .val (.int p3), .val (.int v3), .val (.ref mx), .val (.int sa), .val (.int sb), .val (.int v46), .val (.double (9218868437227405312 : UInt64)), .second, .val (.double inc), .second, .val (.double cand), .second, .val (.double r), .second, .val (.int v173), .unset] [(.double (FP.dneg (9218868437227405312 : UInt64))), (.double r)]))
            refine own_up (fun _ k => XS.dcmpS X22.here hx rfl (v := (cmpValue (FP.dcmp r (FP.dneg (9218868437227405312 : UInt64))) .l)) (hb hby at_225) rfl rfl k) ?_
            show own_Go p.tables e below _ (T22.setTop (mkF m 226 #[.val (.int p0), .val (.int p1), .val (.int p2), .val (.int p3), .val (.int v3), .val (.ref mx), .val (.int sa), .val (.int sb), .val (.int v46), .val (.double (9218868437227405312 : UInt64)), .second, .val (.double inc), .second, .val (.double cand), .second, .val (.double r), .second, .val (.int v173), .unset] [(.int (cmpValue (FP.dcmp r (FP.dneg (9218868437227405312 : UInt64))) .l))]))
            refine own_up (fun _ k => XS.ifNo X22.here hx rfl (hb hby at_226) rfl ((if0 _ _).trans (teq (own_max_lo hKi hKc (own_someinf hsa hsb hinc hcand (Or.inr hc102)) hc147 hv173 hc201 hmm hr)).2) k) ?_
            show own_Go p.tables e below _ (T22.setTop (mkF m 229 #[.val (.int p0), .val (.int p1), .val (.int p2), .val (.int p3), .val (.int v3), .val (.ref mx), .val (.int sa), .val (.int sb), .val (.int v46), .val (.double (9218868437227405312 : UInt64)), .second, .val (.double inc), .second, .val (.double cand), .second, .val (.double r), .second, .val (.int v173), .unset] []))
            refine own_up (fun _ k => XS.iconst X22.here hx rfl (hb hby at_229) k) ?_
            show own_Go p.tables e below _ (T22.setTop (mkF m 230 #[.val (.int p0), .val (.int p1), .val (.int p2), .val (.int p3), .val (.int v3), .val (.ref mx), .val (.int sa), .val (.int sb), .val (.int v46), .val (.double (9218868437227405312 : UInt64)), .second, .val (.double inc), .second, .val (.double cand), .second, .val (.double r), .second, .val (.int v173), .unset] [(.int (1 : Int32))]))
            refine own_up (fun _ k => XS.goto X22.here hx rfl (pc0 := 230) (pc' := 234) rfl (hb hby at_230) (by decide) (by decide) k) ?_
            show own_Go p.tables e below _ (T22.setTop (mkF m 234 #[.val (.int p0), .val (.int p1), .val (.int p2), .val (.int p3), .val (.int v3), .val (.ref mx), .val (.int sa), .val (.int sb), .val (.int v46), .val (.double (9218868437227405312 : UInt64)), .second, .val (.double inc), .second, .val (.double cand), .second, .val (.double r), .second, .val (.int v173), .unset] [(.int (1 : Int32))]))
            obtain ⟨fs26, hr26, hrun26, hended26, hW26, hsame26⟩ := X22.leave (v := some (.int (1 : Int32))) (fun h => by rw [Bd.returns] at h; cases h)
            refine own_end ⟨_, _, ?_, hrun26, hended26, _, _, rfl, ?_, ⟨_, rfl⟩, hW26, hsame26.mono (by decide) (by decide)⟩
            · exact retN X22 hx (t := .boolean) Bd.returns (by simp) (hb hby at_234) hr26
            · show Qrm0 Z p0 p1 p2 p3 mn mx h0 n0 _ T22.heap _
              rw [e22]
              exact ⟨rfl, N22⟩
          · refine own_up (fun _ k => XS.ifNo X22.here hx rfl (hb hby at_201) rfl ((if0 _ _).trans (feq hc201).1) k) ?_
            show own_Go p.tables e below _ (T22.setTop (mkF m 204 #[.val (.int p0), .val (.int p1), .val (.int p2), .val (.int p3), .val (.int v3), .val (.ref mx), .val (.int sa), .val (.int sb), .val (.int v46), .val (.double (9218868437227405312 : UInt64)), .second, .val (.double inc), .second, .val (.double cand), .second, .val (.double r), .second, .val (.int v173), .unset] []))
            refine own_up (fun _ k => XS.dload X22.here hx rfl (hb hby at_204) rfl k) ?_
            show own_Go p.tables e below _ (T22.setTop (mkF m 206 #[.val (.int p0), .val (.int p1), .val (.int p2), .val (.int p3), .val (.int v3), .val (.ref mx), .val (.int sa), .val (.int sb), .val (.int v46), .val (.double (9218868437227405312 : UInt64)), .second, .val (.double inc), .second, .val (.double cand), .second, .val (.double r), .second, .val (.int v173), .unset] [(.double r)]))
            refine own_up (fun _ k => XS.dload X22.here hx rfl (hb hby at_206) rfl k) ?_
            show own_Go p.tables e below _ (T22.setTop (mkF m 208 #[.val (.int p0), .val (.int p1), .val (.int p2), .val (.int p3), .val (.int v3), .val (.ref mx), .val (.int sa), .val (.int sb), .val (.int v46), .val (.double (9218868437227405312 : UInt64)), .second, .val (.double inc), .second, .val (.double cand), .second, .val (.double r), .second, .val (.int v173), .unset] [(.double (9218868437227405312 : UInt64)), (.double r)]))
            refine own_up (fun _ k => XS.dcmpS X22.here hx rfl (v := (cmpValue (FP.dcmp r (9218868437227405312 : UInt64)) .l)) (hb hby at_208) rfl rfl k) ?_
            show own_Go p.tables e below _ (T22.setTop (mkF m 209 #[.val (.int p0), .val (.int p1), .val (.int p2), .val (.int p3), .val (.int v3), .val (.ref mx), .val (.int sa), .val (.int sb), .val (.int v46), .val (.double (9218868437227405312 : UInt64)), .second, .val (.double inc), .second, .val (.double cand), .second, .val (.double r), .second, .val (.int v173), .unset] [(.int (cmpValue (FP.dcmp r (9218868437227405312 : UInt64)) .l))]))
            refine own_up (fun _ k => XS.ifNo X22.here hx rfl (hb hby at_209) rfl ((if0 _ _).trans (teq (own_max_hi hKi hKc (own_someinf hsa hsb hinc hcand (Or.inr hc102)) hc147 hv173 hc201 hmm hr)).2) k) ?_
            show own_Go p.tables e below _ (T22.setTop (mkF m 212 #[.val (.int p0), .val (.int p1), .val (.int p2), .val (.int p3), .val (.int v3), .val (.ref mx), .val (.int sa), .val (.int sb), .val (.int v46), .val (.double (9218868437227405312 : UInt64)), .second, .val (.double inc), .second, .val (.double cand), .second, .val (.double r), .second, .val (.int v173), .unset] []))
            refine own_up (fun _ k => XS.iconst X22.here hx rfl (hb hby at_212) k) ?_
            show own_Go p.tables e below _ (T22.setTop (mkF m 213 #[.val (.int p0), .val (.int p1), .val (.int p2), .val (.int p3), .val (.int v3), .val (.ref mx), .val (.int sa), .val (.int sb), .val (.int v46), .val (.double (9218868437227405312 : UInt64)), .second, .val (.double inc), .second, .val (.double cand), .second, .val (.double r), .second, .val (.int v173), .unset] [(.int (1 : Int32))]))
            refine own_up (fun _ k => XS.goto X22.here hx rfl (pc0 := 213) (pc' := 234) rfl (hb hby at_213) (by decide) (by decide) k) ?_
            show own_Go p.tables e below _ (T22.setTop (mkF m 234 #[.val (.int p0), .val (.int p1), .val (.int p2), .val (.int p3), .val (.int v3), .val (.ref mx), .val (.int sa), .val (.int sb), .val (.int v46), .val (.double (9218868437227405312 : UInt64)), .second, .val (.double inc), .second, .val (.double cand), .second, .val (.double r), .second, .val (.int v173), .unset] [(.int (1 : Int32))]))
            obtain ⟨fs27, hr27, hrun27, hended27, hW27, hsame27⟩ := X22.leave (v := some (.int (1 : Int32))) (fun h => by rw [Bd.returns] at h; cases h)
            refine own_end ⟨_, _, ?_, hrun27, hended27, _, _, rfl, ?_, ⟨_, rfl⟩, hW27, hsame27.mono (by decide) (by decide)⟩
            · exact retN X22 hx (t := .boolean) Bd.returns (by simp) (hb hby at_234) hr27
            · show Qrm0 Z p0 p1 p2 p3 mn mx h0 n0 _ T22.heap _
              rw [e22]
              exact ⟨rfl, N22⟩
    · refine own_up (fun _ k => XS.icmpYes X22.here hx rfl (pc0 := 96) (pc' := 142) rfl (hb hby at_96) rfl (flt hc96).2.1 (by decide) (by decide) k) ?_
      show own_Go p.tables e below _ (T22.setTop (mkF m 142 #[.val (.int p0), .val (.int p1), .val (.int p2), .val (.int p3), .val (.int v3), .val (.ref mx), .val (.int sa), .val (.int sb), .val (.int v46), .val (.double (9218868437227405312 : UInt64)), .second, .val (.double inc), .second, .val (.double cand), .second, .val (.double r), .second, .unset, .unset] []))
      refine own_up (fun _ k => XS.dload X22.here hx rfl (hb hby at_142) rfl k) ?_
      show own_Go p.tables e below _ (T22.setTop (mkF m 144 #[.val (.int p0), .val (.int p1), .val (.int p2), .val (.int p3), .val (.int v3), .val (.ref mx), .val (.int sa), .val (.int sb), .val (.int v46), .val (.double (9218868437227405312 : UInt64)), .second, .val (.double inc), .second, .val (.double cand), .second, .val (.double r), .second, .unset, .unset] [(.double inc)]))
      refine own_up (fun _ k => XS.dload X22.here hx rfl (hb hby at_144) rfl k) ?_
      show own_Go p.tables e below _ (T22.setTop (mkF m 146 #[.val (.int p0), .val (.int p1), .val (.int p2), .val (.int p3), .val (.int v3), .val (.ref mx), .val (.int sa), .val (.int sb), .val (.int v46), .val (.double (9218868437227405312 : UInt64)), .second, .val (.double inc), .second, .val (.double cand), .second, .val (.double r), .second, .unset, .unset] [(.double cand), (.double inc)]))
      refine own_up (fun _ k => XS.dcmpS X22.here hx rfl (v := (cmpValue (FP.dcmp inc cand) .l)) (hb hby at_146) rfl rfl k) ?_
      show own_Go p.tables e below _ (T22.setTop (mkF m 147 #[.val (.int p0), .val (.int p1), .val (.int p2), .val (.int p3), .val (.int v3), .val (.ref mx), .val (.int sa), .val (.int sb), .val (.int v46), .val (.double (9218868437227405312 : UInt64)), .second, .val (.double inc), .second, .val (.double cand), .second, .val (.double r), .second, .unset, .unset] [(.int (cmpValue (FP.dcmp inc cand) .l))]))
      by_cases hc147 : (cmpValue (FP.dcmp inc cand) .l) = (0 : Int32)
      · refine own_up (fun _ k => XS.ifNo X22.here hx rfl (hb hby at_147) rfl ((if0 _ _).trans (teq hc147).2) k) ?_
        show own_Go p.tables e below _ (T22.setTop (mkF m 150 #[.val (.int p0), .val (.int p1), .val (.int p2), .val (.int p3), .val (.int v3), .val (.ref mx), .val (.int sa), .val (.int sb), .val (.int v46), .val (.double (9218868437227405312 : UInt64)), .second, .val (.double inc), .second, .val (.double cand), .second, .val (.double r), .second, .unset, .unset] []))
        refine own_up (fun _ k => XS.dload X22.here hx rfl (hb hby at_150) rfl k) ?_
        show own_Go p.tables e below _ (T22.setTop (mkF m 152 #[.val (.int p0), .val (.int p1), .val (.int p2), .val (.int p3), .val (.int v3), .val (.ref mx), .val (.int sa), .val (.int sb), .val (.int v46), .val (.double (9218868437227405312 : UInt64)), .second, .val (.double inc), .second, .val (.double cand), .second, .val (.double r), .second, .unset, .unset] [(.double r)]))
        refine own_up (fun _ k => XS.dconst0 X22.here hx rfl (v := (0 : UInt64)) (hb hby at_152) rfl k) ?_
        show own_Go p.tables e below _ (T22.setTop (mkF m 153 #[.val (.int p0), .val (.int p1), .val (.int p2), .val (.int p3), .val (.int v3), .val (.ref mx), .val (.int sa), .val (.int sb), .val (.int v46), .val (.double (9218868437227405312 : UInt64)), .second, .val (.double inc), .second, .val (.double cand), .second, .val (.double r), .second, .unset, .unset] [(.double (0 : UInt64)), (.double r)]))
        refine own_up (fun _ k => XS.dcmpS X22.here hx rfl (v := (cmpValue (FP.dcmp r (0 : UInt64)) .l)) (hb hby at_153) rfl rfl k) ?_
        show own_Go p.tables e below _ (T22.setTop (mkF m 154 #[.val (.int p0), .val (.int p1), .val (.int p2), .val (.int p3), .val (.int v3), .val (.ref mx), .val (.int sa), .val (.int sb), .val (.int v46), .val (.double (9218868437227405312 : UInt64)), .second, .val (.double inc), .second, .val (.double cand), .second, .val (.double r), .second, .unset, .unset] [(.int (cmpValue (FP.dcmp r (0 : UInt64)) .l))]))
        refine own_up (fun _ k => XS.ifNo X22.here hx rfl (hb hby at_154) rfl ((if0 _ _).trans (teq (own_zero hKi hKc hc147 hr)).2) k) ?_
        show own_Go p.tables e below _ (T22.setTop (mkF m 157 #[.val (.int p0), .val (.int p1), .val (.int p2), .val (.int p3), .val (.int v3), .val (.ref mx), .val (.int sa), .val (.int sb), .val (.int v46), .val (.double (9218868437227405312 : UInt64)), .second, .val (.double inc), .second, .val (.double cand), .second, .val (.double r), .second, .unset, .unset] []))
        refine own_up (fun _ k => XS.iconst X22.here hx rfl (hb hby at_157) k) ?_
        show own_Go p.tables e below _ (T22.setTop (mkF m 158 #[.val (.int p0), .val (.int p1), .val (.int p2), .val (.int p3), .val (.int v3), .val (.ref mx), .val (.int sa), .val (.int sb), .val (.int v46), .val (.double (9218868437227405312 : UInt64)), .second, .val (.double inc), .second, .val (.double cand), .second, .val (.double r), .second, .unset, .unset] [(.int (1 : Int32))]))
        refine own_up (fun _ k => XS.goto X22.here hx rfl (pc0 := 158) (pc' := 162) rfl (hb hby at_158) (by decide) (by decide) k) ?_
        show own_Go p.tables e below _ (T22.setTop (mkF m 162 #[.val (.int p0), .val (.int p1), .val (.int p2), .val (.int p3), .val (.int v3), .val (.ref mx), .val (.int sa), .val (.int sb), .val (.int v46), .val (.double (9218868437227405312 : UInt64)), .second, .val (.double inc), .second, .val (.double cand), .second, .val (.double r), .second, .unset, .unset] [(.int (1 : Int32))]))
        obtain ⟨fs28, hr28, hrun28, hended28, hW28, hsame28⟩ := X22.leave (v := some (.int (1 : Int32))) (fun h => by rw [Bd.returns] at h; cases h)
        refine own_end ⟨_, _, ?_, hrun28, hended28, _, _, rfl, ?_, ⟨_, rfl⟩, hW28, hsame28.mono (by decide) (by decide)⟩
        · exact retN X22 hx (t := .boolean) Bd.returns (by simp) (hb hby at_162) hr28
        · show Qrm0 Z p0 p1 p2 p3 mn mx h0 n0 _ T22.heap _
          rw [e22]
          exact ⟨rfl, N22⟩
      · refine own_up (fun _ k => XS.ifYes X22.here hx rfl (pc0 := 147) (pc' := 163) rfl (hb hby at_147) rfl ((if0 _ _).trans (feq hc147).2) (by decide) (by decide) k) ?_
        show own_Go p.tables e below _ (T22.setTop (mkF m 163 #[.val (.int p0), .val (.int p1), .val (.int p2), .val (.int p3), .val (.int v3), .val (.ref mx), .val (.int sa), .val (.int sb), .val (.int v46), .val (.double (9218868437227405312 : UInt64)), .second, .val (.double inc), .second, .val (.double cand), .second, .val (.double r), .second, .unset, .unset] []))
        refine own_up (fun _ k => XS.iload X22.here hx rfl (hb hby at_163) rfl k) ?_
        show own_Go p.tables e below _ (T22.setTop (mkF m 165 #[.val (.int p0), .val (.int p1), .val (.int p2), .val (.int p3), .val (.int v3), .val (.ref mx), .val (.int sa), .val (.int sb), .val (.int v46), .val (.double (9218868437227405312 : UInt64)), .second, .val (.double inc), .second, .val (.double cand), .second, .val (.double r), .second, .unset, .unset] [(.int v3)]))
        refine own_up (fun _ k => XS.ifNo X22.here hx rfl (hb hby at_165) rfl ((if0 _ _).trans (feq hc15).1) k) ?_
        show own_Go p.tables e below _ (T22.setTop (mkF m 168 #[.val (.int p0), .val (.int p1), .val (.int p2), .val (.int p3), .val (.int v3), .val (.ref mx), .val (.int sa), .val (.int sb), .val (.int v46), .val (.double (9218868437227405312 : UInt64)), .second, .val (.double inc), .second, .val (.double cand), .second, .val (.double r), .second, .unset, .unset] []))
        refine own_up (fun _ k => XS.dload X22.here hx rfl (hb hby at_168) rfl k) ?_
        show own_Go p.tables e below _ (T22.setTop (mkF m 170 #[.val (.int p0), .val (.int p1), .val (.int p2), .val (.int p3), .val (.int v3), .val (.ref mx), .val (.int sa), .val (.int sb), .val (.int v46), .val (.double (9218868437227405312 : UInt64)), .second, .val (.double inc), .second, .val (.double cand), .second, .val (.double r), .second, .unset, .unset] [(.double cand)]))
        refine own_up (fun _ k => XS.dload X22.here hx rfl (hb hby at_170) rfl k) ?_
        show own_Go p.tables e below _ (T22.setTop (mkF m 172 #[.val (.int p0), .val (.int p1), .val (.int p2), .val (.int p3), .val (.int v3), .val (.ref mx), .val (.int sa), .val (.int sb), .val (.int v46), .val (.double (9218868437227405312 : UInt64)), .second, .val (.double inc), .second, .val (.double cand), .second, .val (.double r), .second, .unset, .unset] [(.double inc), (.double cand)]))
        refine own_up (fun _ k => XS.dcmpS X22.here hx rfl (v := (cmpValue (FP.dcmp cand inc) .l)) (hb hby at_172) rfl rfl k) ?_
        show own_Go p.tables e below _ (T22.setTop (mkF m 173 #[.val (.int p0), .val (.int p1), .val (.int p2), .val (.int p3), .val (.int v3), .val (.ref mx), .val (.int sa), .val (.int sb), .val (.int v46), .val (.double (9218868437227405312 : UInt64)), .second, .val (.double inc), .second, .val (.double cand), .second, .val (.double r), .second, .unset, .unset] [(.int (cmpValue (FP.dcmp cand inc) .l))]))
        obtain ⟨v173, hv173⟩ : ∃ z : Int32, z = if (0 : Int32) < (cmpValue (FP.dcmp cand inc) .l) then (1 : Int32) else (0 : Int32) := ⟨_, rfl⟩
        have sg29 : ∀ t, Steps p.tables e below (T22.setTop (mkF m 197 #[.val (.int p0), .val (.int p1), .val (.int p2), .val (.int p3), .val (.int v3), .val (.ref mx), .val (.int sa), .val (.int sb), .val (.int v46), .val (.double (9218868437227405312 : UInt64)), .second, .val (.double inc), .second, .val (.double cand), .second, .val (.double r), .second, .unset, .unset] [(.int v173)])) t → Steps p.tables e below (T22.setTop (mkF m 173 #[.val (.int p0), .val (.int p1), .val (.int p2), .val (.int p3), .val (.int v3), .val (.ref mx), .val (.int sa), .val (.int sb), .val (.int v46), .val (.double (9218868437227405312 : UInt64)), .second, .val (.double inc), .second, .val (.double cand), .second, .val (.double r), .second, .unset, .unset] [(.int (cmpValue (FP.dcmp cand inc) .l))])) t := by
          intro t k
          by_cases hc173 : (0 : Int32) < (cmpValue (FP.dcmp cand inc) .l)
          · rw [hv173, if_pos hc173] at k
            refine XS.ifNo X22.here hx rfl (hb hby at_173) rfl ((if0 _ _).trans (tlt hc173).2.2.2) ?_
            show Steps p.tables e below (T22.setTop (mkF m 176 #[.val (.int p0), .val (.int p1), .val (.int p2), .val (.int p3), .val (.int v3), .val (.ref mx), .val (.int sa), .val (.int sb), .val (.int v46), .val (.double (9218868437227405312 : UInt64)), .second, .val (.double inc), .second, .val (.double cand), .second, .val (.double r), .second, .unset, .unset] [])) _
            refine XS.iconst X22.here hx rfl (hb hby at_176) ?_
            show Steps p.tables e below (T22.setTop (mkF m 177 #[.val (.int p0), .val (.int p1), .val (.int p2), .val (.int p3), .val (.int v3), .val (.ref mx), .val (.int sa), .val (.int sb), .val (.int v46), .val (.double (9218868437227405312 : UInt64)), .second, .val (.double inc), .second, .val (.double cand), .second, .val (.double r), .second, .unset, .unset] [(.int (1 : Int32))])) _
            refine XS.goto X22.here hx rfl (pc0 := 177) (pc' := 197) rfl (hb hby at_177) (by decide) (by decide) ?_
            show Steps p.tables e below (T22.setTop (mkF m 197 #[.val (.int p0), .val (.int p1), .val (.int p2), .val (.int p3), .val (.int v3), .val (.ref mx), .val (.int sa), .val (.int sb), .val (.int v46), .val (.double (9218868437227405312 : UInt64)), .second, .val (.double inc), .second, .val (.double cand), .second, .val (.double r), .second, .unset, .unset] [(.int (1 : Int32))])) _
            exact k
          · rw [hv173, if_neg hc173] at k
            refine XS.ifYes X22.here hx rfl (pc0 := 173) (pc' := 180) rfl (hb hby at_173) rfl ((if0 _ _).trans (flt hc173).2.2.2) (by decide) (by decide) ?_
            show Steps p.tables e below (T22.setTop (mkF m 180 #[.val (.int p0), .val (.int p1), .val (.int p2), .val (.int p3), .val (.int v3), .val (.ref mx), .val (.int sa), .val (.int sb), .val (.int v46), .val (.double (9218868437227405312 : UInt64)), .second, .val (.double inc), .second, .val (.double cand), .second, .val (.double r), .second, .unset, .unset] [])) _
            refine XS.iconst X22.here hx rfl (hb hby at_180) ?_
            show Steps p.tables e below (T22.setTop (mkF m 181 #[.val (.int p0), .val (.int p1), .val (.int p2), .val (.int p3), .val (.int v3), .val (.ref mx), .val (.int sa), .val (.int sb), .val (.int v46), .val (.double (9218868437227405312 : UInt64)), .second, .val (.double inc), .second, .val (.double cand), .second, .val (.double r), .second, .unset, .unset] [(.int (0 : Int32))])) _
            refine XS.goto X22.here hx rfl (pc0 := 181) (pc' := 197) rfl (hb hby at_181) (by decide) (by decide) ?_
            show Steps p.tables e below (T22.setTop (mkF m 197 #[.val (.int p0), .val (.int p1), .val (.int p2), .val (.int p3), .val (.int v3), .val (.ref mx), .val (.int sa), .val (.int sb), .val (.int v46), .val (.double (9218868437227405312 : UInt64)), .second, .val (.double inc), .second, .val (.double cand), .second, .val (.double r), .second, .unset, .unset] [(.int (0 : Int32))])) _
            exact k
        refine own_up sg29 ?_
        show own_Go p.tables e below _ (T22.setTop (mkF m 197 #[.val (.int p0), .val (.int p1), .val (.int p2), .val (.int p3), .val (.int v3), .val (.ref mx), .val (.int sa), .val (.int sb), .val (.int v46), .val (.double (9218868437227405312 : UInt64)), .second, .val (.double inc), .second, .val (.double cand), .second, .val (.double r), .second, .unset, .unset] [(.int v173)]))
        refine own_up (fun _ k => XS.istore X22.here hx rfl (hb hby at_197) rfl (l' := #[.val (.int p0), .val (.int p1), .val (.int p2), .val (.int p3), .val (.int v3), .val (.ref mx), .val (.int sa), .val (.int sb), .val (.int v46), .val (.double (9218868437227405312 : UInt64)), .second, .val (.double inc), .second, .val (.double cand), .second, .val (.double r), .second, .val (.int v173), .unset]) rfl k) ?_
        show own_Go p.tables e below _ (T22.setTop (mkF m 199 #[.val (.int p0), .val (.int p1), .val (.int p2), .val (.int p3), .val (.int v3), .val (.ref mx), .val (.int sa), .val (.int sb), .val (.int v46), .val (.double (9218868437227405312 : UInt64)), .second, .val (.double inc), .second, .val (.double cand), .second, .val (.double r), .second, .val (.int v173), .unset] []))
        refine own_up (fun _ k => XS.iload X22.here hx rfl (hb hby at_199) rfl k) ?_
        show own_Go p.tables e below _ (T22.setTop (mkF m 201 #[.val (.int p0), .val (.int p1), .val (.int p2), .val (.int p3), .val (.int v3), .val (.ref mx), .val (.int sa), .val (.int sb), .val (.int v46), .val (.double (9218868437227405312 : UInt64)), .second, .val (.double inc), .second, .val (.double cand), .second, .val (.double r), .second, .val (.int v173), .unset] [(.int v173)]))
        by_cases hc201 : v173 = (0 : Int32)
        · refine own_up (fun _ k => XS.ifYes X22.here hx rfl (pc0 := 201) (pc' := 220) rfl (hb hby at_201) rfl ((if0 _ _).trans (teq hc201).1) (by decide) (by decide) k) ?_
          show own_Go p.tables e below _ (T22.setTop (mkF m 220 #[.val (.int p0), .val (.int p1), .val (.int p2), .val (.int p3), .val (.int v3), .val (.ref mx), .val (.int sa), .val (.int sb), .val (.int v46), .val (.double (9218868437227405312 : UInt64)), .second, .val (.double inc), .second, .val (.double cand), .second, .val (.double r), .second, .val (.int v173), .unset] []))
          refine own_up (fun _ k => XS.dload X22.here hx rfl (hb hby at_220) rfl k) ?_
          show own_Go p.tables e below _ (T22.setTop (mkF m 222 #[.val (.int p0), .val (.int p1), .val (.int p2), .val (.int p3), .val (.int v3), .val (.ref mx), .val (.int sa), .val (.int sb), .val (.int v46), .val (.double (9218868437227405312 : UInt64)), .second, .val (.double inc), .second, .val (.double cand), .second, .val (.double r), .second, .val (.int v173), .unset] [(.double r)]))
          refine own_up (fun _ k => XS.dload X22.here hx rfl (hb hby at_222) rfl k) ?_
          show own_Go p.tables e below _ (T22.setTop (mkF m 224 #[.val (.int p0), .val (.int p1), .val (.int p2), .val (.int p3), .val (.int v3), .val (.ref mx), .val (.int sa), .val (.int sb), .val (.int v46), .val (.double (9218868437227405312 : UInt64)), .second, .val (.double inc), .second, .val (.double cand), .second, .val (.double r), .second, .val (.int v173), .unset] [(.double (9218868437227405312 : UInt64)), (.double r)]))
          refine own_up (fun _ k => XS.dnegS X22.here hx rfl (v := (FP.dneg (9218868437227405312 : UInt64))) (hb hby at_224) rfl rfl k) ?_
          show own_Go p.tables e below _ (T22.setTop (mkF m 225 #[.val (.int p0), .val (.int p1), .val (.int p2), .val (.int p3), .val (.int v3), .val (.ref mx), .val (.int sa), .val (.int sb), .val (.int v46), .val (.double (9218868437227405312 : UInt64)), .second, .val (.double inc), .second, .val (.double cand), .second, .val (.double r), .second, .val (.int v173), .unset] [(.double (FP.dneg (9218868437227405312 : UInt64))), (.double r)]))
          refine own_up (fun _ k => XS.dcmpS X22.here hx rfl (v := (cmpValue (FP.dcmp r (FP.dneg (9218868437227405312 : UInt64))) .l)) (hb hby at_225) rfl rfl k) ?_
          show own_Go p.tables e below _ (T22.setTop (mkF m 226 #[.val (.int p0), .val (.int p1), .val (.int p2), .val (.int p3), .val (.int v3), .val (.ref mx), .val (.int sa), .val (.int sb), .val (.int v46), .val (.double (9218868437227405312 : UInt64)), .second, .val (.double inc), .second, .val (.double cand), .second, .val (.double r), .second, .val (.int v173), .unset] [(.int (cmpValue (FP.dcmp r (FP.dneg (9218868437227405312 : UInt64))) .l))]))
          refine own_up (fun _ k => XS.ifNo X22.here hx rfl (hb hby at_226) rfl ((if0 _ _).trans (teq (own_max_lo hKi hKc (own_someinf hsa hsb hinc hcand (Or.inl hc96)) hc147 hv173 hc201 hmm hr)).2) k) ?_
          show own_Go p.tables e below _ (T22.setTop (mkF m 229 #[.val (.int p0), .val (.int p1), .val (.int p2), .val (.int p3), .val (.int v3), .val (.ref mx), .val (.int sa), .val (.int sb), .val (.int v46), .val (.double (9218868437227405312 : UInt64)), .second, .val (.double inc), .second, .val (.double cand), .second, .val (.double r), .second, .val (.int v173), .unset] []))
          refine own_up (fun _ k => XS.iconst X22.here hx rfl (hb hby at_229) k) ?_
          show own_Go p.tables e below _ (T22.setTop (mkF m 230 #[.val (.int p0), .val (.int p1), .val (.int p2), .val (.int p3), .val (.int v3), .val (.ref mx), .val (.int sa), .val (.int sb), .val (.int v46), .val (.double (9218868437227405312 : UInt64)), .second, .val (.double inc), .second, .val (.double cand), .second, .val (.double r), .second, .val (.int v173), .unset] [(.int (1 : Int32))]))
          refine own_up (fun _ k => XS.goto X22.here hx rfl (pc0 := 230) (pc' := 234) rfl (hb hby at_230) (by decide) (by decide) k) ?_
          show own_Go p.tables e below _ (T22.setTop (mkF m 234 #[.val (.int p0), .val (.int p1), .val (.int p2), .val (.int p3), .val (.int v3), .val (.ref mx), .val (.int sa), .val (.int sb), .val (.int v46), .val (.double (9218868437227405312 : UInt64)), .second, .val (.double inc), .second, .val (.double cand), .second, .val (.double r), .second, .val (.int v173), .unset] [(.int (1 : Int32))]))
          obtain ⟨fs30, hr30, hrun30, hended30, hW30, hsame30⟩ := X22.leave (v := some (.int (1 : Int32))) (fun h => by rw [Bd.returns] at h; cases h)
          refine own_end ⟨_, _, ?_, hrun30, hended30, _, _, rfl, ?_, ⟨_, rfl⟩, hW30, hsame30.mono (by decide) (by decide)⟩
          · exact retN X22 hx (t := .boolean) Bd.returns (by simp) (hb hby at_234) hr30
          · show Qrm0 Z p0 p1 p2 p3 mn mx h0 n0 _ T22.heap _
            rw [e22]
            exact ⟨rfl, N22⟩
        · refine own_up (fun _ k => XS.ifNo X22.here hx rfl (hb hby at_201) rfl ((if0 _ _).trans (feq hc201).1) k) ?_
          show own_Go p.tables e below _ (T22.setTop (mkF m 204 #[.val (.int p0), .val (.int p1), .val (.int p2), .val (.int p3), .val (.int v3), .val (.ref mx), .val (.int sa), .val (.int sb), .val (.int v46), .val (.double (9218868437227405312 : UInt64)), .second, .val (.double inc), .second, .val (.double cand), .second, .val (.double r), .second, .val (.int v173), .unset] []))
          refine own_up (fun _ k => XS.dload X22.here hx rfl (hb hby at_204) rfl k) ?_
          show own_Go p.tables e below _ (T22.setTop (mkF m 206 #[.val (.int p0), .val (.int p1), .val (.int p2), .val (.int p3), .val (.int v3), .val (.ref mx), .val (.int sa), .val (.int sb), .val (.int v46), .val (.double (9218868437227405312 : UInt64)), .second, .val (.double inc), .second, .val (.double cand), .second, .val (.double r), .second, .val (.int v173), .unset] [(.double r)]))
          refine own_up (fun _ k => XS.dload X22.here hx rfl (hb hby at_206) rfl k) ?_
          show own_Go p.tables e below _ (T22.setTop (mkF m 208 #[.val (.int p0), .val (.int p1), .val (.int p2), .val (.int p3), .val (.int v3), .val (.ref mx), .val (.int sa), .val (.int sb), .val (.int v46), .val (.double (9218868437227405312 : UInt64)), .second, .val (.double inc), .second, .val (.double cand), .second, .val (.double r), .second, .val (.int v173), .unset] [(.double (9218868437227405312 : UInt64)), (.double r)]))
          refine own_up (fun _ k => XS.dcmpS X22.here hx rfl (v := (cmpValue (FP.dcmp r (9218868437227405312 : UInt64)) .l)) (hb hby at_208) rfl rfl k) ?_
          show own_Go p.tables e below _ (T22.setTop (mkF m 209 #[.val (.int p0), .val (.int p1), .val (.int p2), .val (.int p3), .val (.int v3), .val (.ref mx), .val (.int sa), .val (.int sb), .val (.int v46), .val (.double (9218868437227405312 : UInt64)), .second, .val (.double inc), .second, .val (.double cand), .second, .val (.double r), .second, .val (.int v173), .unset] [(.int (cmpValue (FP.dcmp r (9218868437227405312 : UInt64)) .l))]))
          refine own_up (fun _ k => XS.ifNo X22.here hx rfl (hb hby at_209) rfl ((if0 _ _).trans (teq (own_max_hi hKi hKc (own_someinf hsa hsb hinc hcand (Or.inl hc96)) hc147 hv173 hc201 hmm hr)).2) k) ?_
          show own_Go p.tables e below _ (T22.setTop (mkF m 212 #[.val (.int p0), .val (.int p1), .val (.int p2), .val (.int p3), .val (.int v3), .val (.ref mx), .val (.int sa), .val (.int sb), .val (.int v46), .val (.double (9218868437227405312 : UInt64)), .second, .val (.double inc), .second, .val (.double cand), .second, .val (.double r), .second, .val (.int v173), .unset] []))
          refine own_up (fun _ k => XS.iconst X22.here hx rfl (hb hby at_212) k) ?_
          show own_Go p.tables e below _ (T22.setTop (mkF m 213 #[.val (.int p0), .val (.int p1), .val (.int p2), .val (.int p3), .val (.int v3), .val (.ref mx), .val (.int sa), .val (.int sb), .val (.int v46), .val (.double (9218868437227405312 : UInt64)), .second, .val (.double inc), .second, .val (.double cand), .second, .val (.double r), .second, .val (.int v173), .unset] [(.int (1 : Int32))]))
          refine own_up (fun _ k => XS.goto X22.here hx rfl (pc0 := 213) (pc' := 234) rfl (hb hby at_213) (by decide) (by decide) k) ?_
          show own_Go p.tables e below _ (T22.setTop (mkF m 234 #[.val (.int p0), .val (.int p1), .val (.int p2), .val (.int p3), .val (.int v3), .val (.ref mx), .val (.int sa), .val (.int sb), .val (.int v46), .val (.double (9218868437227405312 : UInt64)), .second, .val (.double inc), .second, .val (.double cand), .second, .val (.double r), .second, .val (.int v173), .unset] [(.int (1 : Int32))]))
          obtain ⟨fs31, hr31, hrun31, hended31, hW31, hsame31⟩ := X22.leave (v := some (.int (1 : Int32))) (fun h => by rw [Bd.returns] at h; cases h)
          refine own_end ⟨_, _, ?_, hrun31, hended31, _, _, rfl, ?_, ⟨_, rfl⟩, hW31, hsame31.mono (by decide) (by decide)⟩
          · exact retN X22 hx (t := .boolean) Bd.returns (by simp) (hb hby at_234) hr31
          · show Qrm0 Z p0 p1 p2 p3 mn mx h0 n0 _ T22.heap _
            rw [e22]
            exact ⟨rfl, N22⟩
set_option maxRecDepth 65536 in
set_option maxHeartbeats 40000000 in
theorem comes_1 {Post : Tables → Env → Array Value → State → Outcome → State → Prop} (hpost : ∀ tb e args s v u, (limb_1_1.after args s (.returned v) u = true ∧ limb_1_2.after args s (.returned v) u = true ∧ True) → FrameEnd s (.returned v) u (Jvm.fieldLocs frame_1_writes args s ++ Jvm.arrayLocs frame_1_arrays args s ++ Jvm.staticLocs frame_1_statics s) 0 0 → Post tb e args s (.returned v) u) :
    ArmFor flags0 classFile x code maxLocals ret World_1 tables_1 room_1 Calls_1 rest_1 Pre_1 Post := by
  intro l hfl _ _ p e ha hc hk s m args below hf hA hF happ hP
  obtain ⟨hcalls, hrest, hpre⟩ := hP
  obtain ⟨-, -, -, hnamed, -, -, -, hat⟩ := (Spec.applies_iff hf).mp happ
  obtain ⟨hg, hn⟩ := and_e (Cond.before_iff.mp (show (Jvm.Cond.and given_1 narrow_1).before args s = true from hpre))
  obtain ⟨gA0, gB0⟩ := and_e hg
  obtain ⟨gA1, gB1⟩ := and_e gB0
  obtain ⟨gA2, gB2⟩ := and_e gB1
  obtain ⟨gA3, gB3⟩ := and_e gB2
  obtain ⟨w0, w1, w2, w3, rfl⟩ : ∃ w0 w1 w2 w3 : Value, args = #[w0, w1, w2, w3] := by
    have hs : args.size = 4 := by simpa [Cond.value, given_1] using gA0
    obtain ⟨L⟩ := args
    match L, hs with
    | [w0, w1, w2, w3], _ => exact ⟨w0, w1, w2, w3, rfl⟩
  have hw := fun d (hd : d ∈ tables_1) => atoms_spec (ws := Jvm.Cond.code x code maxLocals ret :: tables_1) hat d (List.mem_cons_of_mem _ hd)
  have hfit : Fit s := fun {y c} hc i hi => by
    obtain ⟨ha, rfl⟩ := Array.getElem?_eq_some_iff.mp hc
    have q := List.all_eq_true.mp ((Array.all_eq_true_iff_forall_mem.mp hF) _ (Array.getElem_mem ha)) i (List.mem_range.mpr hi)
    simpa [Array.getElem?_eq_getElem hi] using q
  obtain ⟨i0, ei0⟩ := is_v gA1
  obtain rfl : w0 = (.int i0) := Option.some.inj ei0
  obtain ⟨i1, ei1⟩ := is_v gA2
  obtain rfl : w1 = (.int i1) := Option.some.inj ei1
  obtain ⟨i2, ei2⟩ := is_v gA3
  obtain rfl : w2 = (.int i2) := Option.some.inj ei2
  obtain ⟨i3, ei3⟩ := is_v gB3
  obtain rfl : w3 = (.int i3) := Option.some.inj ei3
  obtain ⟨n1, nB1⟩ := and_e hn
  obtain ⟨n2, nB2⟩ := and_e nB1
  obtain ⟨n3, n4⟩ := and_e nB2
  obtain ⟨mn, evmn⟩ := exa_v n1
  obtain ⟨mx, evmx⟩ := exa_v n2
  have hmm : ¬ mx = mn := by
    intro h
    subst h
    have q3 := own_eqi n3
    have q4 := own_eqi n4
    rw [fld_at evmx] at q3
    rw [fld_at evmn] at q4
    rw [q3] at q4
    exact absurd q4 (by decide)
  obtain ⟨n, o, h1, h2, h3, _, L, rfl, ⟨rfl, N⟩, hq⟩ := rm0 l s _ hw tables_1 i0 i1 i2 i3 mn mx s.heap s.heap.size (Nat.le_refl _) (Sta.start evmn (Or.inr ⟨(hw _ (List.mem_of_getElem? (i := 1) rfl)), (hw _ (List.mem_of_getElem? (i := 2) rfl))⟩)) (Sta.start evmx (Or.inr ⟨(hw _ (List.mem_of_getElem? (i := 1) rfl)), (hw _ (List.mem_of_getElem? (i := 19) rfl))⟩)) (Exa.start evmn n1) (Exa.start evmx n2) hmm p e ha hc hk s m _ below hf ((Spec.applies_iff_loose hf).mp happ).1 ⟨rfl, State.Warmed39.refl s, rfl⟩ trivial
  refine ⟨n, _, h1, h2, h3, hpost _ _ _ _ _ _ ⟨Cond.after_iff.mpr rfl, Cond.after_iff.mpr (eq_i res_at (Term.int_eval (1)) rfl), trivial⟩ ⟨hq.1, hq.2.1, (hq.2.2.sift fun y hy => Or.inr (N y hy)).mono (by decide) (by decide)⟩⟩
theorem main_1_1 : Claimed_1_1 := comes_1 fun _ _ _ _ _ _ h hF => ⟨h.1, hF⟩
theorem main_1_2 : Claimed_1_2 := comes_1 fun _ _ _ _ _ _ h hF => ⟨h.2.1, hF⟩
end Jvm.Pilot.@@N@@
namespace Jvm.Pilot.@@N@@
open Jvm Jvm.ClassFile Sem Op Lib Jvm.Free Jvm.Stand Jvm.Pilot.@@N@@.Jvm.D
/-! MADE BY PROGRAM (witnessworld.py) out of the Statement's table words and the real class files: 12 classes; the members and pool entries that the words name. The judged class is class 1, her method 3. -/
namespace start1
open Jvm.ClassFile
def u (s : String) : CpInfo := .utf8 (stringToUtf16 s)
/-- a pool by its gaps: so many unusable entries, then the entry; so many at the end -/
def gap : Nat → List CpInfo → List CpInfo
  | 0, r => r
  | n + 1, r => .unusable :: gap n r
def poolList (es : List (Nat × CpInfo)) (last : Nat) : List CpInfo := es.foldr (fun e r => gap e.1 (e.2 :: r)) (gap last [])
def pool (es : List (Nat × CpInfo)) (last : Nat) : Array CpInfo := ⟨poolList es last⟩
def fileOf (pool : Array CpInfo) (this : Nat) (attrs : Array Attribute := #[]) (ms : Array MethodInfo := #[]) (fl : Nat := 33) (sup : Nat := 0) (ifs : Array Nat := #[]) (fds : Array FieldInfo := #[]) : ClassFile where
  minorVersion := 0
  majorVersion := 65
  constantPool := pool
  accessFlags := fl
  thisClass := this
  superClass := sup
  interfaces := ifs
  fields := fds
  methods := ms
  attributes := attrs
def plain (name : String) (sup : Option ClassId) : Class where
  name := name
  kind := .ordinary
  loader := none
  accessFlags := 33
  super := sup
  interfaces := #[]
  cf := none
  fields := #[]
  methods := #[]
  instanceTypes := #[]
  staticTypes := #[]
  resolved := #[]
  callSites := []
  init := .initialized
  statics := none
  mirror := none

def pool0 : Array CpInfo := pool [(5, u "<init>"), (0, u "()V"), (1, .class_ 10), (1, u "java/lang/Object")] 113

def k0m0 : Method := { name := "<init>", desc := "()V", sig := { parameters := [], returnType := none }, accessFlags := 1, code := none }
/-- java/lang/Object -/
def k0 : Class := { plain "java/lang/Object" none with
  accessFlags := 33
  interfaces := #[]
  cf := some (fileOf pool0 8 #[] #[{ accessFlags := 1, nameIndex := 5, descriptorIndex := 6, attributes := #[] }] 33 0 #[] #[])
  fields := #[]
  methods := #[k0m0]
  instanceTypes := #[]
  staticTypes := #[]
  resolved := Array.replicate 124 none
  statics := none }

def pool1 : Array CpInfo := pool [(2, .class_ 4), (1, u "java/lang/Object"), (0, u "<init>"), (0, u "()V"), (0, .double 9214871658872686752), (1, .double 4621819117588971520), (1, .fieldref 12 13), (0, .class_ 14), (0, .nameAndType 15 16), (0, u "com/example/parley/parley/model/Objective"), (0, u "MAX"), (0, u "Lcom/example/parley/parley/model/Objective;"), (0, .fieldref 12 18), (0, .nameAndType 19 16), (0, u "MIN"), (0, .methodref 21 22), (0, .class_ 23), (0, .nameAndType 24 25), (0, u "com/example/parley/parley/model/ObjectiveImprovementPinLaw"), (0, u "inf"), (0, u "()D"), (0, .methodref 21 27), (0, .nameAndType 28 29), (0, u "pick"), (0, u "(IID)D"), (0, .methodref 12 31), (0, .nameAndType 32 33), (0, u "improvement"), (0, u "(DD)D"), (3, u "law"), (0, u "(IIII)Z")] 2

def k1m0 : Method := { name := "<init>", desc := "()V", sig := { parameters := [], returnType := none }, accessFlags := 1, code := none }
def k1c1 : Code := { maxStack := 4, maxLocals := 2, code := method_2_code, exceptionTable := #[], attributes := #[] }
def k1m1 : Method := { name := "inf", desc := "()D", sig := { parameters := [], returnType := some .double }, accessFlags := 10, code := some k1c1 }
def k1c2 : Code := { maxStack := 2, maxLocals := 4, code := method_3_code, exceptionTable := #[], attributes := #[] }
def k1m2 : Method := { name := "pick", desc := "(IID)D", sig := { parameters := [.int, .int, .double], returnType := some .double }, accessFlags := 10, code := some k1c2 }
def k1c3 : Code := { maxStack := 5, maxLocals := 19, code := code, exceptionTable := #[], attributes := #[] }
def k1m3 : Method := { name := "law", desc := "(IIII)Z", sig := { parameters := [.int, .int, .int, .int], returnType := some .boolean }, accessFlags := 9, code := some k1c3 }
/-- com/example/parley/parley/model/ObjectiveImprovementPinLaw -/
def k1 : Class := { plain "com/example/parley/parley/model/ObjectiveImprovementPinLaw" (some 0) with
  accessFlags := 49
  interfaces := #[]
  cf := some (fileOf pool1 21 #[] #[{ accessFlags := 1, nameIndex := 5, descriptorIndex := 6, attributes := #[] }, { accessFlags := 10, nameIndex := 24, descriptorIndex := 25, attributes := #[] }, { accessFlags := 10, nameIndex := 28, descriptorIndex := 29, attributes := #[] }, { accessFlags := 9, nameIndex := 37, descriptorIndex := 38, attributes := #[] }] 49 2 #[] #[])
  fields := #[]
  methods := #[k1m0, k1m1, k1m2, k1m3]
  instanceTypes := #[]
  staticTypes := #[]
  resolved := Array.replicate 41 none
  statics := none }

def pool2 : Array CpInfo := pool [(1, .class_ 2), (0, u "java/lang/constant/Constable"), (0, .class_ 4), (0, u "java/lang/Object")] 6

/-- java/lang/constant/Constable -/
def k2 : Class := { plain "java/lang/constant/Constable" (some 0) with
  accessFlags := 1537
  interfaces := #[]
  cf := some (fileOf pool2 1 #[] #[] 1537 3 #[] #[])
  fields := #[]
  methods := #[]
  instanceTypes := #[]
  staticTypes := #[]
  resolved := Array.replicate 11 none
  statics := none }

def pool3 : Array CpInfo := pool [(1, .class_ 2), (0, u "java/lang/Comparable"), (0, .class_ 4), (0, u "java/lang/Object")] 7

/-- java/lang/Comparable -/
def k3 : Class := { plain "java/lang/Comparable" (some 0) with
  accessFlags := 1537
  interfaces := #[]
  cf := some (fileOf pool3 1 #[] #[] 1537 3 #[] #[])
  fields := #[]
  methods := #[]
  instanceTypes := #[]
  staticTypes := #[]
  resolved := Array.replicate 12 none
  statics := none }

def pool4 : Array CpInfo := pool [(1, .class_ 2), (0, u "java/io/Serializable"), (0, .class_ 4), (0, u "java/lang/Object")] 2

/-- java/io/Serializable -/
def k4 : Class := { plain "java/io/Serializable" (some 0) with
  accessFlags := 1537
  interfaces := #[]
  cf := some (fileOf pool4 1 #[] #[] 1537 3 #[] #[])
  fields := #[]
  methods := #[]
  instanceTypes := #[]
  staticTypes := #[]
  resolved := Array.replicate 7 none
  statics := none }

def pool5 : Array CpInfo := pool [(2, .class_ 4), (1, u "java/lang/Enum"), (0, u "name"), (0, u "Ljava/lang/String;"), (2, u "ordinal"), (0, u "I"), (1, .class_ 14), (1, u "java/lang/Object"), (4, u "hash"), (86, .class_ 108), (1, u "java/lang/Enum$EnumDesc"), (2, .class_ 112), (0, u "java/lang/constant/Constable"), (0, .class_ 114), (0, u "java/lang/Comparable"), (0, .class_ 116), (0, u "java/io/Serializable")] 87

/-- java/lang/Enum -/
def k5 : Class := { plain "java/lang/Enum" (some 0) with
  accessFlags := 1057
  interfaces := #[2, 3, 4]
  cf := some (fileOf pool5 2 #[.nestMembers #[106]] #[] 1057 12 #[111, 113, 115] #[{ accessFlags := 18, nameIndex := 5, descriptorIndex := 6, attributes := #[] }, { accessFlags := 18, nameIndex := 9, descriptorIndex := 10, attributes := #[] }, { accessFlags := 2, nameIndex := 19, descriptorIndex := 10, attributes := #[] }])
  fields := #[{ name := "name", type := (.object "java/lang/String"), accessFlags := 18, slot := 0, constantValue := 0 }, { name := "ordinal", type := .int, accessFlags := 18, slot := 1, constantValue := 0 }, { name := "hash", type := .int, accessFlags := 2, slot := 2, constantValue := 0 }]
  methods := #[]
  instanceTypes := #[(.object "java/lang/String"), .int, .int]
  staticTypes := #[]
  resolved := Array.replicate 204 none
  statics := none }

def pool6 : Array CpInfo := pool [(1, .class_ 2), (0, u "com/example/parley/parley/model/Objective"), (0, .fieldref 1 4), (0, .nameAndType 5 6), (0, u "MIN"), (0, u "Lcom/example/parley/parley/model/Objective;"), (2, u "MAX"), (2, u "$VALUES"), (0, u "[Lcom/example/parley/parley/model/Objective;"), (6, .class_ 22), (1, u "java/lang/Enum"), (53, u "improvement"), (0, u "(DD)D")] 4

def k6c0 : Code := { maxStack := 4, maxLocals := 5, code := prog_104_method_7_code, exceptionTable := #[], attributes := #[] }
def k6m0 : Method := { name := "improvement", desc := "(DD)D", sig := { parameters := [.double, .double], returnType := some .double }, accessFlags := 1, code := some k6c0 }
/-- com/example/parley/parley/model/Objective -/
def k6 : Class := { plain "com/example/parley/parley/model/Objective" (some 5) with
  accessFlags := 16433
  interfaces := #[]
  cf := some (fileOf pool6 1 #[] #[{ accessFlags := 1, nameIndex := 76, descriptorIndex := 77, attributes := #[] }] 16433 20 #[] #[{ accessFlags := 16409, nameIndex := 5, descriptorIndex := 6, attributes := #[] }, { accessFlags := 16409, nameIndex := 9, descriptorIndex := 6, attributes := #[] }, { accessFlags := 4122, nameIndex := 12, descriptorIndex := 13, attributes := #[] }])
  fields := #[{ name := "MIN", type := (.object "com/example/parley/parley/model/Objective"), accessFlags := 16409, slot := 0, constantValue := 0 }, { name := "MAX", type := (.object "com/example/parley/parley/model/Objective"), accessFlags := 16409, slot := 1, constantValue := 0 }, { name := "$VALUES", type := (.array (.object "com/example/parley/parley/model/Objective")), accessFlags := 4122, slot := 2, constantValue := 0 }]
  methods := #[k6m0]
  instanceTypes := #[(.object "java/lang/String"), .int, .int]
  staticTypes := #[(.object "com/example/parley/parley/model/Objective"), (.object "com/example/parley/parley/model/Objective"), (.array (.object "com/example/parley/parley/model/Objective"))]
  resolved := Array.replicate 82 none
  statics := some 0 }

def pool7 : Array CpInfo := pool [(1, u "java/lang/Cloneable"), (0, .class_ 1), (0, u "java/lang/Object"), (0, .class_ 3)] 3

/-- java/lang/Cloneable -/
def k7 : Class := { plain "java/lang/Cloneable" (some 0) with
  accessFlags := 1537
  interfaces := #[]
  cf := some (fileOf pool7 2 #[] #[] 1537 4 #[] #[])
  fields := #[]
  methods := #[]
  instanceTypes := #[]
  staticTypes := #[]
  resolved := Array.replicate 8 none
  statics := none }

/-- the primitive byte -/
def k8 : Class := { plain "byte" none with kind := .primitive 'B', accessFlags := 0x411 }
/-- [B -/
def k9 : Class := { plain "[B" (some 0) with kind := .array 8 .byte, interfaces := #[7, 4], accessFlags := 1041 }

/-- the primitive int -/
def k10 : Class := { plain "int" none with kind := .primitive 'I', accessFlags := 0x411 }
/-- [I -/
def k11 : Class := { plain "[I" (some 0) with kind := .array 10 .int, interfaces := #[7, 4], accessFlags := 1041 }

def heap : Heap := #[{ cls := 6, slots := #[.ref 1, .ref 2, .null], vm := .statics 6 },
  { cls := 6, slots := #[.null, .int 0, .int 0], vm := .none },
  { cls := 6, slots := #[.null, .int 1, .int 0], vm := .none }]
def classes : Array Class := #[k0, k1, k2, k3, k4, k5, k6, k7, k8, k9, k10, k11]
def interned : List (Array UInt16 × Addr) := []
def slotsUsed : Nat := 9
def theMethod : MethodId := ⟨1, 3⟩
def args0 : Array Value := #[.int 5, .int 7, .int 9, .int 3]
def aboutOver (below : List Frame) : State where
  vm := { classes := classes, interned := interned.toArray }
  heap := heap
  slotsUsed := slotsUsed
  threads := #[{ frames := .invoking theMethod args0 :: below }]
def below0 : List Frame := [.native { method := ⟨0, 0⟩, args := #[] }]
def about1 : State := aboutOver below0
def p0 : Program := .bare "" "" ""
def e0 : Env := launch0.env 0 0 0
theorem w_frames : about1.frames = Frame.invoking theMethod args0 :: below0 := rfl
set_option maxRecDepth 65536 in
theorem w_args : argsFit about1.vm theMethod args0 = true := by decide +kernel
set_option maxRecDepth 65536 in
theorem w_heap : heapFits about1 = true := by decide +kernel
set_option maxRecDepth 65536 in
theorem w_runnable : about1.curStatus? = some .runnable := by decide +kernel
set_option maxRecDepth 65536 in
theorem w_alone : about1.alone = true := by decide +kernel
set_option maxRecDepth 65536 in
theorem w_named : about1.methodNamed? x = some theMethod := by decide +kernel
set_option maxRecDepth 65536 in
theorem w_hears : about1.hears theMethod below0 = true := by decide +kernel
set_option maxRecDepth 65536 in
theorem w_ripe : about1.ripe theMethod args0 below0 = true := by decide +kernel
theorem w_running : about1.status = .running := rfl
set_option maxRecDepth 65536 in
theorem w_room : about1.hasRoom e0.platform room_1 = true :=
  launch0.hasRoom_least _ room_1 (by decide +kernel) (by decide +kernel) (by decide +kernel) (by decide +kernel) (by decide +kernel) (by decide +kernel)
theorem allAtoms_all (ts : List Jvm.Cond) (a : Array Jvm.Value) (st : Jvm.State) : (allAtoms ts).before a st = ts.all (fun c => c.before a st) := by
  induction ts with
  | nil => rfl
  | cons c t ih =>
    show (Jvm.Cond.and c (allAtoms t)).before a st = _
    rw [Jvm.Cond.before_and, ih, List.all_cons]
def words1 : List Jvm.Cond := Jvm.Cond.code x code maxLocals ret :: tables_1
/-- a 'code' word, met by the world's own term for the bytes: nothing is compared byte by byte -/
theorem code_word {y : MethodName} {bytes : ByteArray} {mx : Nat} {rt : Option FieldType} {a : Array Value} {s : State} {m : MethodId} {meth : Method} {c : Code} (h1 : s.methodNamed? y = some m) (h2 : s.vm.method? m = some meth) (h3 : meth.code = some c) (h4 : c.code = bytes)
    (h5 : (c.maxLocals == mx && c.exceptionTable.isEmpty && decide (c.maxStack ≤ mostOperands) && decide (meth.sig.returnType = rt) && !meth.locks && decide (parseMethodDescriptor y.desc = some meth.sig)) = true) : (Jvm.Cond.code y bytes mx rt).before a s = true := by
  simp only [Bool.and_eq_true, beq_iff_eq, Bool.not_eq_true', decide_eq_true_eq] at h5
  obtain ⟨⟨⟨⟨⟨g1, g2⟩, g3⟩, g4⟩, g5⟩, g6⟩ := h5
  simp [Cond.before, Cond.holds, Cond.value, h1, h2, h3, h4, g1, g2, g3, g4, g5, g6]
def isCode : Jvm.Cond → Bool
  | .code _ _ _ _ => true
  | _ => false
theorem all_split {L : List Jvm.Cond} {P : Jvm.Cond → Bool} (h1 : L.all (fun c => isCode c || P c) = true) (h2 : ∀ c ∈ L.filter isCode, P c = true) : L.all P = true := by
  refine List.all_eq_true.mpr fun c hc => ?_
  have h := List.all_eq_true.mp h1 c hc
  rcases Bool.eq_false_or_eq_true (isCode c) with hi | hi
  · exact h2 c (List.mem_filter.mpr ⟨hc, hi⟩)
  · simpa [hi] using h
set_option maxRecDepth 65536 in
theorem w_c0 : (Jvm.Cond.code x code maxLocals ret).before args0 about1 = true := code_word (m := ⟨1, 3⟩) (meth := k1m3) (c := k1c3) (by decide +kernel) rfl rfl rfl (by decide +kernel)
set_option maxRecDepth 65536 in
theorem w_c1 : (Jvm.Cond.code ({ cls := "com/example/parley/parley/model/ObjectiveImprovementPinLaw", name := "inf", desc := "()D" } : Jvm.MethodName) method_2_code (2 : Nat) (Option.some Jvm.ClassFile.FieldType.double)).before args0 about1 = true := code_word (m := ⟨1, 1⟩) (meth := k1m1) (c := k1c1) (by decide +kernel) rfl rfl rfl (by decide +kernel)
set_option maxRecDepth 65536 in
theorem w_c2 : (Jvm.Cond.code ({ cls := "com/example/parley/parley/model/ObjectiveImprovementPinLaw", name := "pick", desc := "(IID)D" } : Jvm.MethodName) method_3_code (4 : Nat) (Option.some Jvm.ClassFile.FieldType.double)).before args0 about1 = true := code_word (m := ⟨1, 2⟩) (meth := k1m2) (c := k1c2) (by decide +kernel) rfl rfl rfl (by decide +kernel)
set_option maxRecDepth 65536 in
theorem w_c3 : (Jvm.Cond.code ({ cls := "com/example/parley/parley/model/Objective", name := "improvement", desc := "(DD)D" } : Jvm.MethodName) prog_104_method_7_code (5 : Nat) (Option.some Jvm.ClassFile.FieldType.double)).before args0 about1 = true := code_word (m := ⟨6, 0⟩) (meth := k6m0) (c := k6c0) (by decide +kernel) rfl rfl rfl (by decide +kernel)
def codes1 : List Jvm.Cond := [Jvm.Cond.code x code maxLocals ret, Jvm.Cond.code ({ cls := "com/example/parley/parley/model/ObjectiveImprovementPinLaw", name := "inf", desc := "()D" } : Jvm.MethodName) method_2_code (2 : Nat) (Option.some Jvm.ClassFile.FieldType.double), Jvm.Cond.code ({ cls := "com/example/parley/parley/model/ObjectiveImprovementPinLaw", name := "pick", desc := "(IID)D" } : Jvm.MethodName) method_3_code (4 : Nat) (Option.some Jvm.ClassFile.FieldType.double), Jvm.Cond.code ({ cls := "com/example/parley/parley/model/Objective", name := "improvement", desc := "(DD)D" } : Jvm.MethodName) prog_104_method_7_code (5 : Nat) (Option.some Jvm.ClassFile.FieldType.double)]
set_option maxRecDepth 65536 in
theorem codes_eq : words1.filter isCode = codes1 := rfl
theorem w_codes : ∀ c ∈ words1.filter isCode, c.before args0 about1 = true := by
  rw [codes_eq]
  intro c hc
  simp only [codes1, List.mem_cons, List.not_mem_nil, or_false] at hc
  rcases hc with rfl | rfl | rfl | rfl
  · exact w_c0
  · exact w_c1
  · exact w_c2
  · exact w_c3
set_option maxRecDepth 65536 in
theorem w_t1 : words1.all (fun c => isCode c || c.before args0 about1) = true := by decide +kernel
theorem w_tables : (allAtoms (Jvm.Cond.code x code maxLocals ret :: tables_1)).before args0 about1 = true := by
  rw [allAtoms_all]
  show words1.all (fun c => c.before args0 about1) = true
  refine all_split ?_ w_codes
  rw [w_t1]
set_option maxRecDepth 65536 in
theorem w_case : (Jvm.Cond.and given_1 narrow_1).before args0 about1 = true := by decide +kernel
theorem w_applies : (headSpec (Jvm.Cond.code x code maxLocals ret :: tables_1) room_1).applies x e0.platform about1 = true :=
  (Spec.applies_iff w_frames).mpr ⟨w_running, w_runnable, w_alone, w_named, w_hears, w_ripe, w_room, w_tables⟩
theorem atStart : AtStart classFile x code maxLocals ret World_1 tables_1 room_1 Calls_1 rest_1 Pre_1 launch0 p0 e0 about1 theMethod args0 below0 :=
  ⟨lists_1, trivial, launch0.admits_env _ _ _, launch0.least_env, fairChoices_fair.cas, fairChoices_fair.clock, w_frames, w_args, w_heap, w_applies, trivial, trivial, w_case⟩
end start1
theorem witness_1 : WitnessClaimed_1 := ⟨start1.p0, start1.e0, start1.about1, start1.theMethod, start1.args0, start1.below0, start1.atStart⟩
end Jvm.Pilot.@@N@@
