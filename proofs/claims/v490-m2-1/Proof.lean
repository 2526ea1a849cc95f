import JvmDerived
import JvmDerived.Pilot.@@N@@Statement
import JvmDerived.Pilot.@@N@@Code
set_option linter.unusedVariables false
set_option linter.unusedSimpArgs false
/- laws to paste: StrChars.pair_says, StrChars.chr8_lo8, StrChars.narrow_ch, StrChars.shr0 (cut by pick.py; bodies as the Statement names them) -/
namespace Jvm.Pilot.@@N@@
namespace StrChars
open Jvm Sem ClassFile Op Lib Jvm.Stand Jvm.Free.XT Jvm.Free.ALB Jvm.Free.JM Jvm.Free
open Jvm.Lib.Cold (StaticIs)
/-- the byte that i2b leaves of a char -/
def lo8 (x : Int32) : Int32 := x.toInt8.toInt32
/-- the byte, read back as charAt reads it, is the char -/
theorem lo8_mask {x : Int32} (h0 : ¬ x < 0) (h1 : ¬ 255 < x) : lo8 x &&& 255 = x := by
  have t : ∀ k : Fin 256, lo8 (Int32.ofNat k.val) &&& 255 = Int32.ofNat k.val := by decide +kernel
  rw [Int32.lt_iff_toInt_lt] at h0 h1
  have e0 : (0 : Int32).toInt = 0 := rfl
  have e1 : (255 : Int32).toInt = 255 := rfl
  obtain ⟨k, hk⟩ : ∃ k : Nat, x.toInt = k := ⟨x.toInt.toNat, by omega⟩
  have hx : x = Int32.ofNat k := Int32.toInt_inj.mp (by rw [hk, Int32.toInt_ofNat_small (by omega)])
  rw [hx]
  exact t ⟨k, by omega⟩
end StrChars
namespace StrChars
open Jvm Sem ClassFile Op Lib Jvm.Stand Jvm.Free.XT Jvm.Free.ALB Jvm.Free.JM Jvm.Free
open Jvm.Lib.Cold (StaticIs)
def hi8 (x : Int32) : Int32 := lo8 (x >>> ((8 : Int32) &&& 31))
/-- what StringUTF16.getChar makes of two bytes -/
def pairCh (u v : Int32) : Int32 := (((u &&& 255) <<< ((0 : Int32) &&& 31)) ||| ((v &&& 255) <<< ((8 : Int32) &&& 31))).toUInt32.toUInt16.toUInt32.toInt32
theorem shr0 (c : Int32) : c >>> ((0 : Int32) &&& 31) = c := by
  have e : ((0 : Int32) &&& 31) = 0 := by decide
  rw [e]
  apply Int32.toBitVec_inj.mp
  rw [Int32.toBitVec_shiftRight]
  have e1 : ((0 : Int32).toBitVec.smod 32) = 0#32 := by decide
  rw [e1, BitVec.sshiftRight_eq']
  exact BitVec.sshiftRight_zero
theorem lo8_and (x : Int32) : (lo8 x &&& 255).toBitVec.toNat = x.toBitVec.toNat % 256 := by
  have h : (lo8 x).toBitVec = (x.toBitVec.signExtend 8).signExtend 32 := by rw [lo8, Int8.toBitVec_toInt32, Int32.toBitVec_toInt8]
  rw [Int32.toBitVec_and, BitVec.toNat_and, h]
  have e : ((x.toBitVec.signExtend 8).signExtend 32).toNat % 256 = x.toBitVec.toNat % 256 := by
    rw [BitVec.toNat_signExtend]
    have hlt := x.toBitVec.isLt
    simp only [BitVec.toNat_setWidth, BitVec.toNat_signExtend]
    split <;> split <;> omega
  rw [← e]
  exact Nat.and_two_pow_sub_one_eq_mod _ 8
theorem pair_says {c : Int32} (h0 : ¬ c < 0) (h1 : ¬ 65535 < c) : pairCh (lo8 c) (hi8 c) = c := by
  rw [Int32.lt_iff_toInt_lt] at h0 h1
  have e0 : (0 : Int32).toInt = 0 := rfl
  have e1 : (65535 : Int32).toInt = 65535 := rfl
  have hc : c.toInt = c.toBitVec.toNat := by
    have := c.toBitVec.isLt
    have e : c.toInt = c.toBitVec.toInt := rfl
    rw [e] at h0 h1
    rw [e]
    rw [BitVec.toInt_eq_toNat_cond] at h0 h1 ⊢
    split at h0 <;> split <;> omega
  have hn : c.toBitVec.toNat < 65536 := by omega
  have a1 := lo8_and c
  have a2 : (hi8 c &&& 255).toBitVec.toNat = c.toBitVec.toNat / 256 := by
    rw [hi8, lo8_and]
    have e : ((8 : Int32) &&& 31) = 8 := by decide
    rw [e, Int32.toBitVec_shiftRight]
    have e2 : ((8 : Int32).toBitVec.smod 32) = 8#32 := by decide
    rw [e2, BitVec.sshiftRight_eq', BitVec.toNat_sshiftRight_of_msb_false (by rw [BitVec.msb_eq_false_iff_two_mul_lt]; omega)]
    show c.toBitVec.toNat >>> 8 % 256 = _
    rw [Nat.shiftRight_eq_div_pow]
    omega
  unfold pairCh
  apply Int32.toBitVec_inj.mp
  apply BitVec.eq_of_toNat_eq
  have f0 : ((0 : Int32) &&& 31) = 0 := by decide
  have f8 : ((8 : Int32) &&& 31) = 8 := by decide
  rw [f0, f8]
  have g : (((lo8 c &&& 255) <<< (0 : Int32)) ||| ((hi8 c &&& 255) <<< (8 : Int32))).toBitVec.toNat = c.toBitVec.toNat := by
    rw [Int32.toBitVec_or, Int32.toBitVec_shiftLeft, Int32.toBitVec_shiftLeft]
    have s0 : ((0 : Int32).toBitVec.smod 32) = 0#32 := by decide
    have s8 : ((8 : Int32).toBitVec.smod 32) = 8#32 := by decide
    rw [s0, s8, BitVec.toNat_or]
    simp only [BitVec.shiftLeft_eq', BitVec.toNat_shiftLeft, a1, a2]
    show (c.toBitVec.toNat % 256) <<< 0 % 2 ^ 32 ||| (c.toBitVec.toNat / 256) <<< 8 % 2 ^ 32 = _
    rw [Nat.shiftLeft_zero, Nat.mod_eq_of_lt (show c.toBitVec.toNat % 256 < 2 ^ 32 by omega), Nat.mod_eq_of_lt (show (c.toBitVec.toNat / 256) <<< 8 < 2 ^ 32 by rw [Nat.shiftLeft_eq]; omega), Nat.or_comm, ← Nat.shiftLeft_add_eq_or_of_lt (by omega), Nat.shiftLeft_eq]
    omega
  show BitVec.toNat (((((lo8 c &&& 255) <<< (0 : Int32)) ||| ((hi8 c &&& 255) <<< (8 : Int32))).toBitVec.setWidth 16).setWidth 32) = _
  rw [BitVec.toNat_setWidth, BitVec.toNat_setWidth, g]
  omega
end StrChars
namespace StrChars
open Jvm Sem ClassFile Op Lib Jvm.Stand Jvm.Free.XT Jvm.Free.ALB Jvm.Free.JM Jvm.Free
open Jvm.Lib.Cold (StaticIs)
/-- charAt's cast of a byte read back -/
def chr8 (u : Int32) : Int32 := (u &&& 255).toUInt32.toUInt16.toUInt32.toInt32
theorem chr8_lo8 {c : Int32} (h0 : ¬ c < 0) (h1 : ¬ 255 < c) : chr8 (lo8 c) = c := by
  have t : ∀ k : Fin 256, (Int32.ofNat k.val).toUInt32.toUInt16.toUInt32.toInt32 = Int32.ofNat k.val := by decide +kernel
  unfold chr8
  rw [lo8_mask h0 h1]
  rw [Int32.lt_iff_toInt_lt] at h0 h1
  have e0 : (0 : Int32).toInt = 0 := rfl
  have e1 : (255 : Int32).toInt = 255 := rfl
  obtain ⟨k, hk⟩ : ∃ k : Nat, c.toInt = k := ⟨c.toInt.toNat, by omega⟩
  have hx : c = Int32.ofNat k := Int32.toInt_inj.mp (by rw [hk, Int32.toInt_ofNat_small (by omega)])
  rw [hx]
  exact t ⟨k, by omega⟩
theorem narrow_ch {c : Int32} (h0 : ¬ c < 0) (h1 : ¬ 65535 < c) : narrow .char (.int c) = .int c := by
  have q : narrow .char (.int (pairCh (lo8 c) (hi8 c))) = .int (pairCh (lo8 c) (hi8 c)) := narrow_c _
  rwa [pair_says h0 h1] at q
end StrChars
end Jvm.Pilot.@@N@@

namespace Jvm.Pilot.@@N@@
open Jvm Jvm.ClassFile Sem Op Lib Jvm.Free Jvm.Free.Fl Jvm.Stand Jvm.LawKit Jvm.RoadKit Bundle Jvm.Pilot.@@N@@.Jvm.D
def own_Go (tb : Tables) (e : Env) (below : List Frame) (P : State → Outcome → Prop) (S : State) : Prop := ∃ t o, Steps tb e below S t ∧ P t o
section OwnGo
variable {tb : Tables} {e : Env} {below : List Frame} {P : State → Outcome → Prop} {S S' : State}
theorem own_up (st : ∀ t, Steps tb e below S' t → Steps tb e below S t) (h : own_Go tb e below P S') : own_Go tb e below P S := by
  obtain ⟨t, o, h1, h2⟩ := h
  exact ⟨t, o, st t h1, h2⟩
theorem own_start (st : ∀ t, Steps tb e below S' t → Steps tb e below S t) (h : own_Go tb e below P S') : ∃ t o, Steps tb e below S t ∧ P t o := own_up st h
theorem own_end (h : ∃ t o, Steps tb e below S t ∧ P t o) : own_Go tb e below P S := h
end OwnGo
theorem own_eqi {args : Array Value} {first s : State} {o : Option Outcome} {idx : List Nat} {a : Term} {n : Int32} (h : (Jvm.Cond.eq a (Term.int n)).value args first o s idx = some true) : a.eval args first o idx s = some (.int n) := by
  obtain ⟨x, y, h1, h2, k1, k2⟩ := cmp_v (Or.inl h)
  have hb : (Term.int n).eval args first o idx s = some (.int n) := Term.int_eval n
  obtain rfl : y = .int n := Option.some.inj (h2.symm.trans hb)
  cases x with
  | int x =>
    have q := gotT (Cond.eq_ints h1 hb) h
    rw [h1, q]
  | _ => simp [Kin] at k1 k2
def own_Arf (Z : State) (h : Heap) (a : Addr) (ty : FieldType) (n : Int32) (f : Nat → Value) : Prop := ∃ c : Cell, Arr Z h a c ty ∧ c.slots.size = n.toNatClampNeg ∧ ¬ n < 0 ∧ ∀ i, i < c.slots.size → c.slots[i]? = some (f i)
section OwnArf
variable {p : Program} {l : Launch} {e : Env} {R : Room} {s : State} {m : MethodId} {args : Array Value} {below : List Frame} {meth : Method} {c : Code} {T : State} {locs : List Loc} {cells slots : Nat} {Z : State} {h h' : Heap} {a b : Addr} {ty : FieldType} {n j : Int32} {f : Nat → Value} {v : Value} {sl : Nat} {ws : List Addr}
theorem own_Arf.lt (F : own_Arf Z h a ty n f) : a < h.size := by obtain ⟨c, A, -⟩ := F; exact A.lt
theorem own_Arf.nn (F : own_Arf Z h a ty n f) : ¬ n < 0 := by obtain ⟨c, A, -, q, -⟩ := F; exact q
theorem own_Arf.ext (F : own_Arf Z h a ty n f) (E : Ext h h') : own_Arf Z h' a ty n f := by obtain ⟨c, A, r⟩ := F; exact ⟨c, A.ext E, r⟩
theorem own_Arf.other (F : own_Arf Z h b ty n f) (W : Wr h h' a sl v) (q : b ≠ a) : own_Arf Z h' b ty n f := by obtain ⟨c, A, r⟩ := F; exact ⟨c, A.other W q, r⟩
theorem own_Arf.keep (F : own_Arf Z h a ty n f) (K : Keep h h' ws) (q : a ∉ ws) : own_Arf Z h' a ty n f := by obtain ⟨c, A, r⟩ := F; exact ⟨c, ⟨K.2.1 a c A.1 q, A.2⟩, r⟩
theorem own_Arf.new {k : ClassId} (A : Arr Z h a (newA k ty n) ty) (q : ¬ n < 0) : own_Arf Z h a ty n (fun _ => defaultValue ty) :=
  ⟨_, A, sz_new _ _ _, q, fun i hi => by rw [sz_new] at hi; simp [newA, hi]⟩
theorem own_Arf.ofArv {k : ClassId} {vs : List Value} {d : Value} (F : Arv Z h a k ty n vs d) : own_Arf Z h a ty n (fun i => vs.getD i d) := by
  obtain ⟨c, A, -, S, q, H, -⟩ := F
  exact ⟨c, A, S, q, fun i hi => H i hi⟩
theorem own_Arf.congr {f' : Nat → Value} (F : own_Arf Z h a ty n f) (q : ∀ i, i < n.toNatClampNeg → f i = f' i) : own_Arf Z h a ty n f' := by
  obtain ⟨c, A, S, q1, H⟩ := F
  exact ⟨c, A, S, q1, fun i hi => by rw [H i hi, q i (S ▸ hi)]⟩
theorem own_Arf.set (F : own_Arf Z h a ty n f) (W : Wr h h' a j.toNatClampNeg v) : own_Arf Z h' a ty n (fun i => if i = j.toNatClampNeg then v else f i) := by
  obtain ⟨c, A, S, q, H⟩ := F
  refine ⟨_, A.same W, by rw [sz_set]; exact S, q, fun x hx => ?_⟩
  rw [sz_set] at hx
  by_cases u : x = j.toNatClampNeg
  · subst u; simp [Cell.setSlot, hx]
  · show _ = some (if x = j.toNatClampNeg then v else f x)
    rw [if_neg u]
    have := H x hx
    simp only [Cell.setSlot]
    rw [Array.getElem?_setIfInBounds_ne (Ne.symm u)]
    exact this
def own_upd {α : Type} (u : Nat → α) (j : Int32) (x : α) : Nat → α := fun i => if i = j.toNatClampNeg then x else u i
theorem own_Arf.setD {u : Nat → UInt64} {x : UInt64} (F : own_Arf Z h a .double n (fun i => .double (u i))) (W : Wr h h' a j.toNatClampNeg (.double x)) : own_Arf Z h' a .double n (fun i => .double (own_upd u j x i)) :=
  (own_Arf.set F W).congr fun i _ => by unfold own_upd; split <;> rfl
theorem own_Arf.setI {u : Nat → Int32} {x : Int32} (F : own_Arf Z h a ty n (fun i => .int (u i))) (W : Wr h h' a j.toNatClampNeg (.int x)) : own_Arf Z h' a ty n (fun i => .int (own_upd u j x i)) :=
  (own_Arf.set F W).congr fun i _ => by unfold own_upd; split <;> rfl
theorem own_Arf.setJ {u : Nat → Int64} {x : Int64} (F : own_Arf Z h a .long n (fun i => .long (u i))) (W : Wr h h' a j.toNatClampNeg (.long x)) : own_Arf Z h' a .long n (fun i => .long (own_upd u j x i)) :=
  (own_Arf.set F W).congr fun i _ => by unfold own_upd; split <;> rfl
theorem own_Arf.daload (F : own_Arf Z h a .double n f) (X : Stand p l e R s m args below meth c T locs cells slots) (hx : p.tables.exec = Jvm.exec) (hZ : Z.Warmed39 s.vm) (eT : T.heap = h) (hj : ¬ j < 0) (hn : j < n) (hv : f j.toNatClampNeg = v) {g : JFrame} (hg : g.method = m) {rest : List Value} (hs : g.stack = .int j :: .ref a :: rest) (hd : decode c.code g.pc = .ok (.daload, 1)) (target : State) (hr : Steps p.tables e below (T.setTop { g with pc := g.pc + 1, stack := v :: rest }) target) : Steps p.tables e below (T.setTop g) target := by
  obtain ⟨cl, A, S, q, H⟩ := F
  have hin := inb_of S ⟨hj, hn⟩
  exact X.daload hx (by rw [eT]; exact A.1) (State.isArrayOf_alike hZ.alike A.2.1) A.2.2 hin (by rw [H _ (Nat.lt_of_not_le fun y => hin (Or.inr y)), hv]) hg hs hd target hr
theorem own_Arf.iaload (F : own_Arf Z h a .int n f) (X : Stand p l e R s m args below meth c T locs cells slots) (hx : p.tables.exec = Jvm.exec) (hZ : Z.Warmed39 s.vm) (eT : T.heap = h) (hj : ¬ j < 0) (hn : j < n) (hv : f j.toNatClampNeg = v) {g : JFrame} (hg : g.method = m) {rest : List Value} (hs : g.stack = .int j :: .ref a :: rest) (hd : decode c.code g.pc = .ok (.iaload, 1)) (target : State) (hr : Steps p.tables e below (T.setTop { g with pc := g.pc + 1, stack := v :: rest }) target) : Steps p.tables e below (T.setTop g) target := by
  obtain ⟨cl, A, S, q, H⟩ := F
  have hin := inb_of S ⟨hj, hn⟩
  exact X.iaload hx (by rw [eT]; exact A.1) (State.isArrayOf_alike hZ.alike A.2.1) A.2.2 hin (by rw [H _ (Nat.lt_of_not_le fun y => hin (Or.inr y)), hv]) hg hs hd target hr
theorem own_Arf.laload (F : own_Arf Z h a .long n f) (X : Stand p l e R s m args below meth c T locs cells slots) (hx : p.tables.exec = Jvm.exec) (hZ : Z.Warmed39 s.vm) (eT : T.heap = h) (hj : ¬ j < 0) (hn : j < n) (hv : f j.toNatClampNeg = v) {g : JFrame} (hg : g.method = m) {rest : List Value} (hs : g.stack = .int j :: .ref a :: rest) (hd : decode c.code g.pc = .ok (.laload, 1)) (target : State) (hr : Steps p.tables e below (T.setTop { g with pc := g.pc + 1, stack := v :: rest }) target) : Steps p.tables e below (T.setTop g) target := by
  obtain ⟨cl, A, S, q, H⟩ := F
  have hin := inb_of S ⟨hj, hn⟩
  exact X.laload hx (by rw [eT]; exact A.1) (State.isArrayOf_alike hZ.alike A.2.1) A.2.2 hin (by rw [H _ (Nat.lt_of_not_le fun y => hin (Or.inr y)), hv]) hg hs hd target hr
theorem own_Arf.aaload (F : own_Arf Z h a ty n f) (hty : ty.isReference = true) (X : Stand p l e R s m args below meth c T locs cells slots) (hx : p.tables.exec = Jvm.exec) (hZ : Z.Warmed39 s.vm) (eT : T.heap = h) (hj : ¬ j < 0) (hn : j < n) (hv : f j.toNatClampNeg = v) {g : JFrame} (hg : g.method = m) {rest : List Value} (hs : g.stack = .int j :: .ref a :: rest) (hd : decode c.code g.pc = .ok (.aaload, 1)) (target : State) (hr : Steps p.tables e below (T.setTop { g with pc := g.pc + 1, stack := v :: rest }) target) : Steps p.tables e below (T.setTop g) target := by
  obtain ⟨cl, A, S, q, H⟩ := F
  have hin := inb_of S ⟨hj, hn⟩
  exact X.aaload hx (by rw [eT]; exact A.1) (State.isArrayOf_alike hZ.alike A.2.1) hty A.2.2 hin (by rw [H _ (Nat.lt_of_not_le fun y => hin (Or.inr y)), hv]) hg hs hd target hr
theorem own_Arf.alen (F : own_Arf Z h a ty n f) (X : Stand p l e R s m args below meth c T locs cells slots) (hx : p.tables.exec = Jvm.exec) (hZ : Z.Warmed39 s.vm) (eT : T.heap = h) {g : JFrame} (hg : g.method = m) {rest : List Value} (hs : g.stack = .ref a :: rest) (hd : decode c.code g.pc = .ok (.arraylength, 1)) (target : State) (hr : Steps p.tables e below (T.setTop { g with pc := g.pc + 1, stack := .int n :: rest }) target) : Steps p.tables e below (T.setTop g) target := by
  obtain ⟨cl, A, S, q, H⟩ := F
  refine X.arraylength hx (by rw [eT]; exact A.1) (State.isArrayOf_alike hZ.alike A.2.1) hg hs hd target ?_
  rw [len_of S q]
  exact hr
end OwnArf
section OwnArfB
variable {p : Program} {l : Launch} {e : Env} {R : Room} {s : State} {m : MethodId} {args : Array Value} {below : List Frame} {meth : Method} {c : Code} {T : State} {locs : List Loc} {cells slots : Nat} {Z : State} {h h' : Heap} {a b : Addr} {ty : FieldType} {n j : Int32} {f : Nat → Value} {v : Value} {sl : Nat} {ws : List Addr}
theorem own_Arf.caload (F : own_Arf Z h a .char n f) (X : Stand p l e R s m args below meth c T locs cells slots) (hx : p.tables.exec = Jvm.exec) (hZ : Z.Warmed39 s.vm) (eT : T.heap = h) (hj : ¬ j < 0) (hn : j < n) (hv : f j.toNatClampNeg = v) {g : JFrame} (hg : g.method = m) {rest : List Value} (hs : g.stack = .int j :: .ref a :: rest) (hd : decode c.code g.pc = .ok (.caload, 1)) (target : State) (hr : Steps p.tables e below (T.setTop { g with pc := g.pc + 1, stack := v :: rest }) target) : Steps p.tables e below (T.setTop g) target := by
  obtain ⟨cl, A, S, q, H⟩ := F
  have hin := inb_of S ⟨hj, hn⟩
  exact X.caload hx (by rw [eT]; exact A.1) (State.isArrayOf_alike hZ.alike A.2.1) A.2.2 hin (by rw [H _ (Nat.lt_of_not_le fun y => hin (Or.inr y)), hv]) hg hs hd target hr
theorem own_Arf.baload (F : own_Arf Z h a .byte n f) (X : Stand p l e R s m args below meth c T locs cells slots) (hx : p.tables.exec = Jvm.exec) (hZ : Z.Warmed39 s.vm) (eT : T.heap = h) (hj : ¬ j < 0) (hn : j < n) (hv : f j.toNatClampNeg = v) {g : JFrame} (hg : g.method = m) {rest : List Value} (hs : g.stack = .int j :: .ref a :: rest) (hd : decode c.code g.pc = .ok (.baload, 1)) (target : State) (hr : Steps p.tables e below (T.setTop { g with pc := g.pc + 1, stack := v :: rest }) target) : Steps p.tables e below (T.setTop g) target := by
  obtain ⟨cl, A, S, q, H⟩ := F
  have hin := inb_of S ⟨hj, hn⟩
  exact X.baloadBytes hx (by rw [eT]; exact A.1) (State.isArrayOf_alike hZ.alike A.2.1) A.2.2 hin (by rw [H _ (Nat.lt_of_not_le fun y => hin (Or.inr y)), hv]) hg hs hd target hr
end OwnArfB
def own_W (Z : State) (cz : Int32) (fv : Value) : Prop :=
  Sta Z Z.heap "java/lang/String" "COMPACT_STRINGS" "Z" (.int cz) ∧ ¬ cz = 0 ∧ Sta Z Z.heap "jdk/internal/util/Preconditions" "SIOOBE_FORMATTER" "Ljava/util/function/BiFunction;" fv ∧ (fv = .null ∨ ∃ a, fv = .ref a) ∧ Sta Z Z.heap "java/lang/StringUTF16" "$assertionsDisabled" "Z" (.int 1) ∧ Sta Z Z.heap "java/lang/StringUTF16" "HI_BYTE_SHIFT" "I" (.int 0) ∧ Sta Z Z.heap "java/lang/StringUTF16" "LO_BYTE_SHIFT" "I" (.int 8)
def own_dg (ch : Int32) : Int32 := if ch < 48 then 0 else if 57 < ch then 0 else 1
def own_TL (Z : State) (h : Heap) (tb : Addr) (N : Int32) (cs : Nat → Int32) : Prop := ∃ f, own_Arf Z h tb .byte N f ∧ ∀ i, i < N.toNatClampNeg → f i = .int (StrChars.lo8 (cs i)) ∧ ¬ (255 : Int32) < cs i
def own_TU (Z : State) (h : Heap) (tb : Addr) (N N2 : Int32) (cs : Nat → Int32) : Prop := ∃ f, own_Arf Z h tb .byte N2 f ∧ ∀ i, i < N.toNatClampNeg → f (2 * i) = .int (StrChars.lo8 (cs i)) ∧ f (2 * i + 1) = .int (StrChars.hi8 (cs i))
def own_SX (Z : State) (h : Heap) (sx tb : Addr) (N N2 : Int32) (cs : Nat → Int32) : Prop := (Fld Z h sx "java/lang/String" "coder" "B" (.int 0) ∧ own_TL Z h tb N cs) ∨ (Fld Z h sx "java/lang/String" "coder" "B" (.int 1) ∧ own_TU Z h tb N N2 cs)
theorem own_Iget (xs : List Int32) (i : Nat) : (xs.map Value.int).getD i (.int (0 : Int32)) = .int (xs.getD i 0) := by
  simp only [List.getD_eq_getElem?_getD, List.getElem?_map]
  cases xs[i]? <;> rfl
theorem own_255 {c : Int32} (h : ¬ (255 : Int32) < c) : ¬ (65535 : Int32) < c := fun q => h (by rw [Int32.lt_iff_toInt_lt] at q ⊢; have e1 : (65535 : Int32).toInt = 65535 := rfl; have e2 : (255 : Int32).toInt = 255 := rfl; omega)
theorem own_narc {c : Int32} (h0 : ¬ c < 0) (h1 : ¬ (65535 : Int32) < c) : nar .char c = c := Value.int.inj (StrChars.narrow_ch h0 h1)
theorem own_cl8 {c : Int32} (h0 : ¬ c < 0) (h1 : ¬ (255 : Int32) < c) : nar .char (((StrChars.lo8 c) &&& (255 : Int32)).toUInt32.toUInt16.toUInt32.toInt32) = c := by
  have q : ((StrChars.lo8 c) &&& (255 : Int32)).toUInt32.toUInt16.toUInt32.toInt32 = c := StrChars.chr8_lo8 h0 h1
  rw [q]; exact own_narc h0 (own_255 h1)
theorem own_cl16 {c : Int32} (h0 : ¬ c < 0) (h1 : ¬ (65535 : Int32) < c) : nar .char (((((StrChars.lo8 c) &&& (255 : Int32)) <<< ((0 : Int32) &&& 31)) ||| (((StrChars.hi8 c) &&& (255 : Int32)) <<< ((8 : Int32) &&& 31))).toUInt32.toUInt16.toUInt32.toInt32) = c := by
  have q := StrChars.pair_says h0 h1
  unfold StrChars.pairCh at q
  rw [q]; exact own_narc h0 h1
theorem own_nb (x : Int32) : nar .byte (x.toInt8.toInt32) = x.toInt8.toInt32 := by simp [nar]
theorem own_pa (x : Int32) : nar .byte ((x >>> ((0 : Int32) &&& 31)).toInt8.toInt32) = StrChars.lo8 x := by
  rw [own_nb, StrChars.shr0]; rfl
theorem own_pb (x : Int32) : nar .byte ((x >>> ((8 : Int32) &&& 31)).toInt8.toInt32) = StrChars.hi8 x := by
  rw [own_nb]; rfl
theorem own_chv (x : Int32) : (x.toUInt32.toUInt16.toUInt32.toInt32).toInt = (x.toUInt32.toUInt16.toNat : Int) := by
  have h := x.toUInt32.toUInt16.toNat_lt
  have e : (x.toUInt32.toUInt16.toUInt32.toInt32).toBitVec.toNat = x.toUInt32.toUInt16.toNat := by
    show (x.toUInt32.toUInt16.toUInt32).toNat = _
    simp
  show (x.toUInt32.toUInt16.toUInt32.toInt32).toBitVec.toInt = _
  rw [BitVec.toInt_eq_toNat_cond, e, if_pos (by omega)]
theorem own_chl (x : Int32) : ¬ (x.toUInt32.toUInt16.toUInt32.toInt32) < 0 := by
  rw [Int32.lt_iff_toInt_lt, own_chv]; have e1 : (0 : Int32).toInt = 0 := rfl; omega
theorem own_chu (x : Int32) : ¬ (65535 : Int32) < (x.toUInt32.toUInt16.toUInt32.toInt32) := by
  have h := x.toUInt32.toUInt16.toNat_lt
  rw [Int32.lt_iff_toInt_lt, own_chv]; have e1 : (65535 : Int32).toInt = 65535 := rfl; omega
theorem own_n6 {p0 qn : Int32} (h : (p0 &&& (2147483647 : Int32)) % (6 : Int32) = qn) (hn : ¬ (p0 &&& (2147483647 : Int32)) % (6 : Int32) = 0) : qn = 1 ∨ qn = 2 ∨ qn = 3 ∨ qn = 4 ∨ qn = 5 := by
  have h1 := c_mask p0 2147483647 31 (by decide) (by decide)
  have e6 : (6 : Int32).toInt = 6 := by decide
  have h2 := (c_iremV (p0 &&& 2147483647) 6).1 (by omega) (by omega)
  rw [h] at h2 hn
  have h0 : ¬ qn.toInt = 0 := fun q => hn (Int32.toInt_inj.mp (q.trans (by decide)))
  have h3 : qn.toInt = 1 ∨ qn.toInt = 2 ∨ qn.toInt = 3 ∨ qn.toInt = 4 ∨ qn.toInt = 5 := by omega
  rcases h3 with h3 | h3 | h3 | h3 | h3
  · exact Or.inl (Int32.toInt_inj.mp (h3.trans (by decide)))
  · exact Or.inr (Or.inl (Int32.toInt_inj.mp (h3.trans (by decide))))
  · exact Or.inr (Or.inr (Or.inl (Int32.toInt_inj.mp (h3.trans (by decide)))))
  · exact Or.inr (Or.inr (Or.inr (Or.inl (Int32.toInt_inj.mp (h3.trans (by decide))))))
  · exact Or.inr (Or.inr (Or.inr (Or.inr (Int32.toInt_inj.mp (h3.trans (by decide))))))
def own_add (acc c : Int32) : Int32 := if own_dg c = (0 : Int32) then acc else (acc + (1 : Int32))
def own_cf (cs : Nat → Int32) : Nat → Int32
  | 0 => 0
  | i + 1 => own_add (own_cf cs i) (cs i)
def own_cs (xs : List Int32) : Nat → Int32 := fun i => xs.getD i 0
def own_ch (cs : Nat → Int32) : Prop := ∀ i, ¬ cs i < 0 ∧ ¬ (65535 : Int32) < cs i
theorem own_chL (xs : List Int32) (h : ∀ c ∈ xs, ¬ c < 0 ∧ ¬ (65535 : Int32) < c) : own_ch (own_cs xs) := fun i => by
  unfold own_cs
  rw [List.getD_eq_getElem?_getD]
  cases e : xs[i]? with
  | none => exact ⟨by decide, by decide⟩
  | some c => exact h c (List.mem_of_getElem? e)
def own_sm (n : Int32) : Prop := 0 ≤ n.toInt ∧ n.toInt ≤ 5
theorem own_sm6 {n : Int32} (h : own_sm n) : n = 0 ∨ n = 1 ∨ n = 2 ∨ n = 3 ∨ n = 4 ∨ n = 5 := by
  obtain ⟨h1, h2⟩ := h
  have h3 : n.toInt = 0 ∨ n.toInt = 1 ∨ n.toInt = 2 ∨ n.toInt = 3 ∨ n.toInt = 4 ∨ n.toInt = 5 := by omega
  rcases h3 with h3 | h3 | h3 | h3 | h3 | h3
  · exact Or.inl (Int32.toInt_inj.mp (h3.trans (by decide)))
  · exact Or.inr (Or.inl (Int32.toInt_inj.mp (h3.trans (by decide))))
  · exact Or.inr (Or.inr (Or.inl (Int32.toInt_inj.mp (h3.trans (by decide)))))
  · exact Or.inr (Or.inr (Or.inr (Or.inl (Int32.toInt_inj.mp (h3.trans (by decide))))))
  · exact Or.inr (Or.inr (Or.inr (Or.inr (Or.inl (Int32.toInt_inj.mp (h3.trans (by decide)))))))
  · exact Or.inr (Or.inr (Or.inr (Or.inr (Or.inr (Int32.toInt_inj.mp (h3.trans (by decide)))))))
theorem own_smj {n j : Int32} (h : own_sm n) (h0 : ¬ j < 0) (hj : j < n) : own_sm j := by
  obtain ⟨h1, h2⟩ := h
  rw [Int32.lt_iff_toInt_lt, show (0 : Int32).toInt = 0 from by decide] at h0
  rw [Int32.lt_iff_toInt_lt] at hj
  exact ⟨by omega, by omega⟩
theorem own_ix {n n2 j jj : Int32} (h : own_sm n) (e2 : (n <<< ((1 : Int32) &&& 31)) = n2) (h0 : ¬ j < 0) (hj : j < n) (ej : (j <<< ((1 : Int32) &&& 31)) = jj) :
    (¬ jj < 0 ∧ jj < n2) ∧ (¬ (jj + (1 : Int32)) < 0 ∧ (jj + (1 : Int32)) < n2) ∧ jj.toNatClampNeg = 2 * j.toNatClampNeg ∧ (jj + (1 : Int32)).toNatClampNeg = 2 * j.toNatClampNeg + 1 ∧ j < (n2 >>> ((1 : Int32) &&& 31)) ∧ j.toNatClampNeg < n.toNatClampNeg := by
  subst e2 ej
  rcases own_sm6 h with rfl | rfl | rfl | rfl | rfl | rfl <;> rcases own_sm6 (own_smj h h0 hj) with rfl | rfl | rfl | rfl | rfl | rfl <;> first | (exfalso; revert hj; decide) | decide
theorem own_smN {n n2 : Int32} (h : own_sm n) (e2 : (n <<< ((1 : Int32) &&& 31)) = n2) : ¬ n < 0 ∧ n < (1073741823 : Int32) ∧ n.toNatClampNeg ≤ 5 ∧ ¬ n2 < 0 ∧ n2.toNatClampNeg ≤ 10 ∧ (n2 >>> ((1 : Int32) &&& 31)) = n ∧ (n >>> ((0 : Int32) &&& 31)) = n ∧ (((n - n).toUInt32 >>> ((31 : Int32) &&& 31).toUInt32).toInt32).toInt8.toInt32 = 0 := by
  subst e2
  rcases own_sm6 h with rfl | rfl | rfl | rfl | rfl | rfl <;> decide
theorem own_smc {n n2 : Int32} (h : own_sm n) (h0 : ¬ n = 0) (e2 : (n <<< ((1 : Int32) &&& 31)) = n2) : (((n - n2).toUInt32 >>> ((31 : Int32) &&& 31).toUInt32).toInt32).toInt8.toInt32 = 1 := by
  subst e2
  rcases own_sm6 h with rfl | rfl | rfl | rfl | rfl | rfl <;> first | exact absurd rfl h0 | decide
theorem own_irr (n : Int32) : ¬ n < n := by rw [Int32.lt_iff_toInt_lt]; omega
theorem own_nek {k n : Int32} (h : k < n) : ¬ k = n := fun e => own_irr n (e ▸ h)
theorem own_eqn {v n : Int32} (hn : ¬ n < 0) (h : v.toInt = ((0 + n.toNatClampNeg : Nat) : Int)) : v = n := by
  have e : n.toNatClampNeg = n.toInt.toNat := rfl
  rw [Int32.lt_iff_toInt_lt, show (0 : Int32).toInt = 0 from by decide] at hn
  exact Int32.toInt_inj.mp (by omega)
theorem own_ltn {v n : Int32} {j : Nat} (h : v.toInt = (j : Int)) (hj : j < n.toNatClampNeg) : ¬ v < 0 ∧ v < n ∧ v.toNatClampNeg = j := by
  have e : n.toNatClampNeg = n.toInt.toNat := rfl
  refine ⟨?_, ?_, ?_⟩
  · rw [Int32.lt_iff_toInt_lt, show (0 : Int32).toInt = 0 from by decide]; omega
  · rw [Int32.lt_iff_toInt_lt]; omega
  · show v.toInt.toNat = j; omega
theorem own_succ {v n : Int32} {i : Nat} (h : v.toInt = (i : Int)) (hi : i < n.toNatClampNeg) : (v + (1 : Int32)).toInt = ((i + 1 : Nat) : Int) := by
  have e : n.toNatClampNeg = n.toInt.toNat := rfl
  have := n.toInt_lt
  rw [Int32.toInt_add, h, show (1 : Int32).toInt = 1 from by decide, Int.bmod_eq_of_le (by omega) (by omega)]
  omega
theorem own_first (cs : Nat → Int32) (n : Nat) : (∀ j, j < n → ¬ (255 : Int32) < cs j) ∨ ∃ jf, jf < n ∧ (∀ j, j < jf → ¬ (255 : Int32) < cs j) ∧ (255 : Int32) < cs jf := by
  induction n with
  | zero => exact Or.inl fun j hj => absurd hj (Nat.not_lt_zero _)
  | succ n ih =>
    rcases ih with ih | ⟨jf, h1, h2, h3⟩
    · by_cases h : (255 : Int32) < cs n
      · exact Or.inr ⟨n, Nat.lt_succ_self n, ih, h⟩
      · refine Or.inl fun j hj => ?_
        by_cases e : j = n
        · rw [e]; exact h
        · exact ih j (by omega)
    · exact Or.inr ⟨jf, Nat.lt_succ_of_lt h1, h2, h3⟩
def own_lf (cs u : Nat → Int32) (i : Nat) : Nat → Int32 := fun j => if j < i then StrChars.lo8 (cs j) else u j
theorem own_lf0 (cs u : Nat → Int32) : own_lf cs u 0 = u := by funext j; simp [own_lf]
theorem own_lfS (cs u : Nat → Int32) (v : Int32) (i : Nat) (hv : v.toNatClampNeg = i) : own_upd (own_lf cs u i) v (StrChars.lo8 (cs v.toNatClampNeg)) = own_lf cs u (i + 1) := by
  funext j
  unfold own_upd own_lf
  rw [hv]
  by_cases h1 : j = i
  · subst h1; simp
  · by_cases h2 : j < i
    · simp [h1, h2, Nat.lt_succ_of_lt h2]
    · have h3 : ¬ j < i + 1 := by omega
      simp [h1, h2, h3]
def own_uf (cs : Nat → Int32) (i : Nat) : Nat → Int32 := fun j => if j < 2 * i then (if j % 2 = 0 then StrChars.lo8 (cs (j / 2)) else StrChars.hi8 (cs (j / 2))) else 0
theorem own_uf0 (cs : Nat → Int32) : own_uf cs 0 = (fun _ => 0 : Nat → Int32) := by funext j; simp [own_uf]
theorem own_ufS (cs : Nat → Int32) (jj : Int32) (i : Nat) (h1 : jj.toNatClampNeg = 2 * i) (h2 : (jj + (1 : Int32)).toNatClampNeg = 2 * i + 1) : own_upd (own_upd (own_uf cs i) jj (StrChars.lo8 (cs i))) (jj + (1 : Int32)) (StrChars.hi8 (cs i)) = own_uf cs (i + 1) := by
  funext j
  unfold own_upd own_uf
  rw [h1, h2]
  by_cases a : j = 2 * i + 1
  · rw [if_pos a, if_pos (by omega), if_neg (by omega), show j / 2 = i by omega]
  · rw [if_neg a]
    by_cases b : j = 2 * i
    · rw [if_pos b, if_pos (by omega), if_pos (by omega), show j / 2 = i by omega]
    · rw [if_neg b]
      by_cases c : j < 2 * i
      · rw [if_pos c, if_pos (by omega : j < 2 * (i + 1))]
      · rw [if_neg c, if_neg (by omega)]
theorem own_ufv (cs : Nat → Int32) {n i : Nat} (h : i < n) : own_uf cs n (2 * i) = StrChars.lo8 (cs i) ∧ own_uf cs n (2 * i + 1) = StrChars.hi8 (cs i) := by
  unfold own_uf
  constructor
  · rw [if_pos (by omega), if_pos (by omega), show 2 * i / 2 = i by omega]
  · rw [if_pos (by omega), if_neg (by omega), show (2 * i + 1) / 2 = i by omega]
def own_EL : List (String × Nat) := [("java/lang/String", 7)]
theorem own_since (s : State) : s.Since s.vm 0 := (State.WarmedH.refl s).since 0
theorem own_rew {s t : State} {o : Outcome} {L : List Loc} {k n k' n' : Nat} (h : ReturnedEndW s o t L k n) (hk : k ≤ k') (hn : n ≤ n') : ReturnedEndW s o t L k' n' := by
  unfold ReturnedEndW at h ⊢
  exact ⟨h.1, h.2.1, h.2.2.1, h.2.2.2.mono hk hn⟩
section OwnWide
variable {p : Program} {l : Launch} {e : Env} {R : Room} {s : State} {m : MethodId} {args : Array Value} {below : List Frame} {Z : State} {a0 : Array Value} {h : Heap} {vm0 : Vm}
theorem own_backSH {EL : List (String × Nat)} {y : MethodName} {bytes : ByteArray} {maxL : Nat} {ret : Option FieldType} {rm : Room} {len W : Nat} {as' : Array Value} {Q : Option Value → Heap → List Loc → Prop}
    (hM : MetFree l y (head1 [Cond.code y bytes maxL ret] rm) (fun a U => a = as' ∧ Z.Warmed39 U.vm ∧ U.heap = h ∧ CHv Z EL U.vm h) (fun _ _ _ _ _ => True) (fun _ U o U' => ∃ v L, o = .returned v ∧ Q v U'.heap L ∧ ReturnedEndW U o U' L rm.cells rm.slots))
    (hZ : Z.Warmed39 vm0) (wc : (Cond.code y bytes maxL ret).before a0 Z = true) (wz : (Cond.initialized y.cls).before a0 Z = true) (hf : rm.frames + 1 ≤ R.frames) (hl : W + (maxL + 11) + rm.locals ≤ R.locals) (hEL : EW Z a0 EL) (H : CHv Z EL vm0 h) :
    BackS l R p e below (s.setVm vm0) args y len W (fun A a => a = as' ∧ A.U.heap = h ∧ A.cells + rm.cells ≤ R.cells ∧ A.slots + rm.slots ≤ R.slots)
      (fun A _ v B => ∃ L, Q v B.U.heap L ∧ B.locs = A.locs ++ L ∧ B.cells = A.cells + rm.cells ∧ B.slots = A.slots + rm.slots) :=
  BackS.of_freeW (bytes := bytes) (maxL := maxL) (ret := ret) (E := fun _ _ o t L k n => k = rm.cells ∧ n = rm.slots ∧ ∃ v, o = .returned v ∧ Q v t.heap L) hM hf hl
    (fun m meth c A a Y hp => have hU : Z.Warmed39 A.U.vm := wtrans (s := s.setVm vm0) hZ Y.warmed
      ⟨by show (Cond.and _ .tt).before a A.U = true; rw [Cond.before_and, mv hU wc]; rfl, mv hU wc, mv hU wz, hp.2.2.1, hp.2.2.2⟩)
    (fun m meth c A a g mk Y hp => ⟨hp.1, wtrans (s := s.setVm vm0) hZ Y.warmed, hp.2.1, (CHv.at Y hZ hEL H).1⟩) (fun _ _ _ _ _ _ _ _ _ => trivial)
    (fun _ _ _ _ ⟨v, L, h1, h2, h3⟩ => ⟨L, _, _, h3, rfl, rfl, v, h1, h2⟩)
    (fun m meth c A a g mk v t L k n Y hp _ _ ⟨e1, e2, v', e3, e4⟩ => by cases e3; subst e1 e2; exact ⟨L, e4, rfl, rfl, rfl⟩)
end OwnWide
theorem own_EW {Z : State} {a0 : Array Value} (hw : ∀ d ∈ tables_1, d.before a0 Z = true) : EW Z a0 own_EL := EW.cons (text := "") (hw _ (List.mem_of_getElem? (i := 20) rfl)) (by simp) EW.nil
theorem own_WS {Z : State} {a0 : Array Value} (hw : ∀ d ∈ tables_1, d.before a0 Z = true) : ∀ a ∈ Bundle.stringAtoms, a.before a0 Z = true := by
  intro d hd
  simp only [Bundle.stringAtoms, List.mem_cons, List.not_mem_nil, or_false] at hd
  rcases hd with rfl | rfl | rfl | rfl | rfl | rfl | rfl
  · exact (hw _ (List.mem_of_getElem? (i := 8) rfl))
  · exact (hw _ (List.mem_of_getElem? (i := 7) rfl))
  · exact (hw _ (List.mem_of_getElem? (i := 21) rfl))
  · exact (hw _ (List.mem_of_getElem? (i := 22) rfl))
  · exact (hw _ (List.mem_of_getElem? (i := 23) rfl))
  · exact (hw _ (List.mem_of_getElem? (i := 24) rfl))
  · exact (hw _ (List.mem_of_getElem? (i := 25) rfl))
theorem pn_0 : plainName "com/example/checkoff_codex/checkoffcodex/io/ValueText" = true := by first | (simp [plainName, overriddenIn]; done) | decide +kernel
theorem d17_0 : decode prog_35_method_10_code 0 = .ok (.iload_n 0, 1) := by decide +kernel
theorem d17_1 : decode prog_35_method_10_code 1 = .ok (.bipush 48, 2) := by decide +kernel
theorem d17_3 : decode prog_35_method_10_code 3 = .ok (.if_icmp .lt 13, 3) := by decide +kernel
theorem d17_16 : decode prog_35_method_10_code 16 = .ok (.iconst 0, 1) := by decide +kernel
theorem d17_17 : decode prog_35_method_10_code 17 = .ok (.ireturn, 1) := by decide +kernel
theorem d17_6 : decode prog_35_method_10_code 6 = .ok (.iload_n 0, 1) := by decide +kernel
theorem d17_7 : decode prog_35_method_10_code 7 = .ok (.bipush 57, 2) := by decide +kernel
theorem d17_9 : decode prog_35_method_10_code 9 = .ok (.if_icmp .gt 7, 3) := by decide +kernel
theorem d17_12 : decode prog_35_method_10_code 12 = .ok (.iconst 1, 1) := by decide +kernel
theorem d17_13 : decode prog_35_method_10_code 13 = .ok (.goto 4, 3) := by decide +kernel
theorem ef_rmDg (m : MethodId) (x0 : Int32) : entryFrame m #[(.int x0)] 1 = mkF m 0 #[.val (.int x0)] [] := by first | (simp [entryFrame, mkF, argsToLocals, Value.category]; done) | rfl
def QrmDg (Z : State) (ch : Int32) (h0 : Heap) (n0 : Nat) (v : Option Value) (h : Heap) (L : List Loc) : Prop := v = some (.int (own_dg ch)) ∧ Fr n0 L ∧ h = h0
set_option maxRecDepth 65536 in
set_option maxHeartbeats 40000000 in
theorem rmDg (l : Launch) (Z : State) (a0 : Array Value) (hw : ∀ d ∈ tables_1, d.before a0 Z = true) (ws : List Jvm.Cond) (ch : Int32) (h0 : Heap) (n0 : Nat) (Z0 : n0 ≤ h0.size) :
    MetFree l (⟨"com/example/checkoff_codex/checkoffcodex/io/ValueText", "isDigit", "(C)Z"⟩ : MethodName) (head1 (Jvm.Cond.code (⟨"com/example/checkoff_codex/checkoffcodex/io/ValueText", "isDigit", "(C)Z"⟩ : MethodName) prog_35_method_10_code 1 (some .boolean) :: ws) ({ frames := 0, cells := 0, slots := 0, locals := 0 } : Room)) (fun aq Uq => aq = #[(.int ch)] ∧ Z.Warmed39 Uq.vm ∧ Uq.heap = h0) (fun _ _ _ _ _ => True) (fun _ Uq oq Uq' => ∃ vq Lq, oq = .returned vq ∧ QrmDg Z ch h0 n0 vq Uq'.heap Lq ∧ FrameEnd Uq oq Uq' Lq ({ frames := 0, cells := 0, slots := 0, locals := 0 } : Room).cells ({ frames := 0, cells := 0, slots := 0, locals := 0 } : Room).slots) := by
  refine MetFree.of_bodySF (plainFor_of_name pn_0) hisR ?_
  intro p e s m args below meth c s₁ Bd hml0 hP hK
  obtain ⟨rfl, hZ, hh⟩ := hP
  have hx := Bd.exec
  have hby := Bd.bytes
  have hml : c.maxLocals = 1 := hml0
  have hown : s.vm.findClass "com/example/checkoff_codex/checkoffcodex/io/ValueText" = some m.cls := findClass_of_methodNamed Bd.named
  have hnm := (name_of_methodNamed Bd.named Bd.method).1
  have X0 : Stand p l e ({ frames := 0, cells := 0, slots := 0, locals := 0 } : Room) s m #[(.int ch)] below meth c s₁ [] 0 0 := Stand.of_body Bd
  have e0 : s₁.heap = h0 := by rw [← hh, Bd.state]; rfl
  have N0 := Fr.nil n0
  have ZH := Z0
  have KK := Keep.refl h0 []
  refine own_start (fun t kq => castTop (ef_rmDg m ch) kq) ?_
  show own_Go p.tables e below _ (s₁.setTop (mkF m 0 #[.val (.int ch)] []))
  refine own_up (fun _ kq => XS.iloadN X0.here hx rfl (hb hby d17_0) rfl kq) ?_
  show own_Go p.tables e below _ (s₁.setTop (mkF m 1 #[.val (.int ch)] [(.int ch)]))
  refine own_up (fun _ kq => XS.bipush X0.here hx rfl (hb hby d17_1) kq) ?_
  show own_Go p.tables e below _ (s₁.setTop (mkF m 3 #[.val (.int ch)] [(.int (48 : Int32)), (.int ch)]))
  by_cases hc3 : ch < (48 : Int32)
  · refine own_up (fun _ kq => XS.icmpYes X0.here hx rfl (pc0 := 3) (pc' := 16) rfl (hb hby d17_3) rfl (tlt hc3).1 (by decide) (by decide) kq) ?_
    show own_Go p.tables e below _ (s₁.setTop (mkF m 16 #[.val (.int ch)] []))
    refine own_up (fun _ kq => XS.iconst X0.here hx rfl (hb hby d17_16) kq) ?_
    show own_Go p.tables e below _ (s₁.setTop (mkF m 17 #[.val (.int ch)] [(.int (0 : Int32))]))
    obtain ⟨fs1, hr1, hrun1, hended1, hW1, hsame1⟩ := X0.leave (v := some (.int (0 : Int32))) (fun h => by rw [Bd.returns] at h; cases h)
    refine own_end ⟨_, _, ?_, hrun1, hended1, _, _, rfl, ?_, ⟨_, rfl⟩, hW1, hsame1.mono (by decide) (by decide)⟩
    · exact retN X0 hx (t := .boolean) Bd.returns (by simp) (hb hby d17_17) hr1
    · show QrmDg Z ch h0 n0 _ s₁.heap _
      rw [e0]
      exact ⟨by simp [own_dg, *], N0, rfl⟩
  · refine own_up (fun _ kq => XS.icmpNo X0.here hx rfl (hb hby d17_3) rfl (flt hc3).1 kq) ?_
    show own_Go p.tables e below _ (s₁.setTop (mkF m 6 #[.val (.int ch)] []))
    refine own_up (fun _ kq => XS.iloadN X0.here hx rfl (hb hby d17_6) rfl kq) ?_
    show own_Go p.tables e below _ (s₁.setTop (mkF m 7 #[.val (.int ch)] [(.int ch)]))
    refine own_up (fun _ kq => XS.bipush X0.here hx rfl (hb hby d17_7) kq) ?_
    show own_Go p.tables e below _ (s₁.setTop (mkF m 9 #[.val (.int ch)] [(.int (57 : Int32)), (.int ch)]))
    by_cases hc9 : (57 : Int32) < ch
    · refine own_up (fun _ kq => XS.icmpYes X0.here hx rfl (pc0 := 9) (pc' := 16) rfl (hb hby d17_9) rfl (tlt hc9).2.2.1 (by decide) (by decide) kq) ?_
      show own_Go p.tables e below _ (s₁.setTop (mkF m 16 #[.val (.int ch)] []))
      refine own_up (fun _ kq => XS.iconst X0.here hx rfl (hb hby d17_16) kq) ?_
      show own_Go p.tables e below _ (s₁.setTop (mkF m 17 #[.val (.int ch)] [(.int (0 : Int32))]))
      obtain ⟨fs2, hr2, hrun2, hended2, hW2, hsame2⟩ := X0.leave (v := some (.int (0 : Int32))) (fun h => by rw [Bd.returns] at h; cases h)
      refine own_end ⟨_, _, ?_, hrun2, hended2, _, _, rfl, ?_, ⟨_, rfl⟩, hW2, hsame2.mono (by decide) (by decide)⟩
      · exact retN X0 hx (t := .boolean) Bd.returns (by simp) (hb hby d17_17) hr2
      · show QrmDg Z ch h0 n0 _ s₁.heap _
        rw [e0]
        exact ⟨by simp [own_dg, *], N0, rfl⟩
    · refine own_up (fun _ kq => XS.icmpNo X0.here hx rfl (hb hby d17_9) rfl (flt hc9).2.2.1 kq) ?_
      show own_Go p.tables e below _ (s₁.setTop (mkF m 12 #[.val (.int ch)] []))
      refine own_up (fun _ kq => XS.iconst X0.here hx rfl (hb hby d17_12) kq) ?_
      show own_Go p.tables e below _ (s₁.setTop (mkF m 13 #[.val (.int ch)] [(.int (1 : Int32))]))
      refine own_up (fun _ kq => XS.goto X0.here hx rfl (pc0 := 13) (pc' := 17) rfl (hb hby d17_13) (by decide) (by decide) kq) ?_
      show own_Go p.tables e below _ (s₁.setTop (mkF m 17 #[.val (.int ch)] [(.int (1 : Int32))]))
      obtain ⟨fs3, hr3, hrun3, hended3, hW3, hsame3⟩ := X0.leave (v := some (.int (1 : Int32))) (fun h => by rw [Bd.returns] at h; cases h)
      refine own_end ⟨_, _, ?_, hrun3, hended3, _, _, rfl, ?_, ⟨_, rfl⟩, hW3, hsame3.mono (by decide) (by decide)⟩
      · exact retN X0 hx (t := .boolean) Bd.returns (by simp) (hb hby d17_17) hr3
      · show QrmDg Z ch h0 n0 _ s₁.heap _
        rw [e0]
        exact ⟨by simp [own_dg, *], N0, rfl⟩
theorem pn_1 : plainName "com/example/checkoff_codex/checkoffcodex/io/ValueTextDigitsPinLaw" = true := by first | (simp [plainName, overriddenIn]; done) | decide +kernel
theorem d11_0 : decode method_3_code 0 = .ok (.iload_n 0, 1) := by decide +kernel
theorem d11_1 : decode method_3_code 1 = .ok (.bipush 48, 2) := by decide +kernel
theorem d11_3 : decode method_3_code 3 = .ok (.if_icmp .lt 13, 3) := by decide +kernel
theorem d11_16 : decode method_3_code 16 = .ok (.iconst 0, 1) := by decide +kernel
theorem d11_17 : decode method_3_code 17 = .ok (.ireturn, 1) := by decide +kernel
theorem d11_6 : decode method_3_code 6 = .ok (.iload_n 0, 1) := by decide +kernel
theorem d11_7 : decode method_3_code 7 = .ok (.bipush 57, 2) := by decide +kernel
theorem d11_9 : decode method_3_code 9 = .ok (.if_icmp .gt 7, 3) := by decide +kernel
theorem d11_12 : decode method_3_code 12 = .ok (.iconst 1, 1) := by decide +kernel
theorem d11_13 : decode method_3_code 13 = .ok (.goto 4, 3) := by decide +kernel
theorem ef_rmAs (m : MethodId) (x0 : Int32) : entryFrame m #[(.int x0)] 1 = mkF m 0 #[.val (.int x0)] [] := by first | (simp [entryFrame, mkF, argsToLocals, Value.category]; done) | rfl
def QrmAs (Z : State) (ch : Int32) (h0 : Heap) (n0 : Nat) (v : Option Value) (h : Heap) (L : List Loc) : Prop := v = some (.int (own_dg ch)) ∧ Fr n0 L ∧ h = h0
set_option maxRecDepth 65536 in
set_option maxHeartbeats 40000000 in
theorem rmAs (l : Launch) (Z : State) (a0 : Array Value) (hw : ∀ d ∈ tables_1, d.before a0 Z = true) (ws : List Jvm.Cond) (ch : Int32) (h0 : Heap) (n0 : Nat) (Z0 : n0 ≤ h0.size) :
    MetFree l (⟨"com/example/checkoff_codex/checkoffcodex/io/ValueTextDigitsPinLaw", "ascii", "(C)Z"⟩ : MethodName) (head1 (Jvm.Cond.code (⟨"com/example/checkoff_codex/checkoffcodex/io/ValueTextDigitsPinLaw", "ascii", "(C)Z"⟩ : MethodName) method_3_code 1 (some .boolean) :: ws) ({ frames := 0, cells := 0, slots := 0, locals := 0 } : Room)) (fun aq Uq => aq = #[(.int ch)] ∧ Z.Warmed39 Uq.vm ∧ Uq.heap = h0) (fun _ _ _ _ _ => True) (fun _ Uq oq Uq' => ∃ vq Lq, oq = .returned vq ∧ QrmAs Z ch h0 n0 vq Uq'.heap Lq ∧ FrameEnd Uq oq Uq' Lq ({ frames := 0, cells := 0, slots := 0, locals := 0 } : Room).cells ({ frames := 0, cells := 0, slots := 0, locals := 0 } : Room).slots) := by
  refine MetFree.of_bodySF (plainFor_of_name pn_1) hisR ?_
  intro p e s m args below meth c s₁ Bd hml0 hP hK
  obtain ⟨rfl, hZ, hh⟩ := hP
  have hx := Bd.exec
  have hby := Bd.bytes
  have hml : c.maxLocals = 1 := hml0
  have hown : s.vm.findClass "com/example/checkoff_codex/checkoffcodex/io/ValueTextDigitsPinLaw" = some m.cls := findClass_of_methodNamed Bd.named
  have hnm := (name_of_methodNamed Bd.named Bd.method).1
  have X0 : Stand p l e ({ frames := 0, cells := 0, slots := 0, locals := 0 } : Room) s m #[(.int ch)] below meth c s₁ [] 0 0 := Stand.of_body Bd
  have e0 : s₁.heap = h0 := by rw [← hh, Bd.state]; rfl
  have N0 := Fr.nil n0
  have ZH := Z0
  have KK := Keep.refl h0 []
  refine own_start (fun t kq => castTop (ef_rmAs m ch) kq) ?_
  show own_Go p.tables e below _ (s₁.setTop (mkF m 0 #[.val (.int ch)] []))
  refine own_up (fun _ kq => XS.iloadN X0.here hx rfl (hb hby d11_0) rfl kq) ?_
  show own_Go p.tables e below _ (s₁.setTop (mkF m 1 #[.val (.int ch)] [(.int ch)]))
  refine own_up (fun _ kq => XS.bipush X0.here hx rfl (hb hby d11_1) kq) ?_
  show own_Go p.tables e below _ (s₁.setTop (mkF m 3 #[.val (.int ch)] [(.int (48 : Int32)), (.int ch)]))
  by_cases hc3 : ch < (48 : Int32)
  · refine own_up (fun _ kq => XS.icmpYes X0.here hx rfl (pc0 := 3) (pc' := 16) rfl (hb hby d11_3) rfl (tlt hc3).1 (by decide) (by decide) kq) ?_
    show own_Go p.tables e below _ (s₁.setTop (mkF m 16 #[.val (.int ch)] []))
    refine own_up (fun _ kq => XS.iconst X0.here hx rfl (hb hby d11_16) kq) ?_
    show own_Go p.tables e below _ (s₁.setTop (mkF m 17 #[.val (.int ch)] [(.int (0 : Int32))]))
    obtain ⟨fs1, hr1, hrun1, hended1, hW1, hsame1⟩ := X0.leave (v := some (.int (0 : Int32))) (fun h => by rw [Bd.returns] at h; cases h)
    refine own_end ⟨_, _, ?_, hrun1, hended1, _, _, rfl, ?_, ⟨_, rfl⟩, hW1, hsame1.mono (by decide) (by decide)⟩
    · exact retN X0 hx (t := .boolean) Bd.returns (by simp) (hb hby d11_17) hr1
    · show QrmAs Z ch h0 n0 _ s₁.heap _
      rw [e0]
      exact ⟨by simp [own_dg, *], N0, rfl⟩
  · refine own_up (fun _ kq => XS.icmpNo X0.here hx rfl (hb hby d11_3) rfl (flt hc3).1 kq) ?_
    show own_Go p.tables e below _ (s₁.setTop (mkF m 6 #[.val (.int ch)] []))
    refine own_up (fun _ kq => XS.iloadN X0.here hx rfl (hb hby d11_6) rfl kq) ?_
    show own_Go p.tables e below _ (s₁.setTop (mkF m 7 #[.val (.int ch)] [(.int ch)]))
    refine own_up (fun _ kq => XS.bipush X0.here hx rfl (hb hby d11_7) kq) ?_
    show own_Go p.tables e below _ (s₁.setTop (mkF m 9 #[.val (.int ch)] [(.int (57 : Int32)), (.int ch)]))
    by_cases hc9 : (57 : Int32) < ch
    · refine own_up (fun _ kq => XS.icmpYes X0.here hx rfl (pc0 := 9) (pc' := 16) rfl (hb hby d11_9) rfl (tlt hc9).2.2.1 (by decide) (by decide) kq) ?_
      show own_Go p.tables e below _ (s₁.setTop (mkF m 16 #[.val (.int ch)] []))
      refine own_up (fun _ kq => XS.iconst X0.here hx rfl (hb hby d11_16) kq) ?_
      show own_Go p.tables e below _ (s₁.setTop (mkF m 17 #[.val (.int ch)] [(.int (0 : Int32))]))
      obtain ⟨fs2, hr2, hrun2, hended2, hW2, hsame2⟩ := X0.leave (v := some (.int (0 : Int32))) (fun h => by rw [Bd.returns] at h; cases h)
      refine own_end ⟨_, _, ?_, hrun2, hended2, _, _, rfl, ?_, ⟨_, rfl⟩, hW2, hsame2.mono (by decide) (by decide)⟩
      · exact retN X0 hx (t := .boolean) Bd.returns (by simp) (hb hby d11_17) hr2
      · show QrmAs Z ch h0 n0 _ s₁.heap _
        rw [e0]
        exact ⟨by simp [own_dg, *], N0, rfl⟩
    · refine own_up (fun _ kq => XS.icmpNo X0.here hx rfl (hb hby d11_9) rfl (flt hc9).2.2.1 kq) ?_
      show own_Go p.tables e below _ (s₁.setTop (mkF m 12 #[.val (.int ch)] []))
      refine own_up (fun _ kq => XS.iconst X0.here hx rfl (hb hby d11_12) kq) ?_
      show own_Go p.tables e below _ (s₁.setTop (mkF m 13 #[.val (.int ch)] [(.int (1 : Int32))]))
      refine own_up (fun _ kq => XS.goto X0.here hx rfl (pc0 := 13) (pc' := 17) rfl (hb hby d11_13) (by decide) (by decide) kq) ?_
      show own_Go p.tables e below _ (s₁.setTop (mkF m 17 #[.val (.int ch)] [(.int (1 : Int32))]))
      obtain ⟨fs3, hr3, hrun3, hended3, hW3, hsame3⟩ := X0.leave (v := some (.int (1 : Int32))) (fun h => by rw [Bd.returns] at h; cases h)
      refine own_end ⟨_, _, ?_, hrun3, hended3, _, _, rfl, ?_, ⟨_, rfl⟩, hW3, hsame3.mono (by decide) (by decide)⟩
      · exact retN X0 hx (t := .boolean) Bd.returns (by simp) (hb hby d11_17) hr3
      · show QrmAs Z ch h0 n0 _ s₁.heap _
        rw [e0]
        exact ⟨by simp [own_dg, *], N0, rfl⟩
theorem pn_2 : plainName "jdk/internal/util/Preconditions" = true := by first | (simp [plainName, overriddenIn]; done) | decide +kernel
theorem d16_0 : decode jdk_41_method_11_code 0 = .ok (.iload_n 0, 1) := by decide +kernel
theorem d16_1 : decode jdk_41_method_11_code 1 = .ok (.ifCond .lt 8, 3) := by decide +kernel
theorem d16_4 : decode jdk_41_method_11_code 4 = .ok (.iload_n 0, 1) := by decide +kernel
theorem d16_5 : decode jdk_41_method_11_code 5 = .ok (.iload_n 1, 1) := by decide +kernel
theorem d16_6 : decode jdk_41_method_11_code 6 = .ok (.if_icmp .lt 10, 3) := by decide +kernel
theorem d16_16 : decode jdk_41_method_11_code 16 = .ok (.iload_n 0, 1) := by decide +kernel
theorem d16_17 : decode jdk_41_method_11_code 17 = .ok (.ireturn, 1) := by decide +kernel
theorem ef_rmCIR (m : MethodId) (x0 : Int32) (x1 : Int32) (x2 : Addr) : entryFrame m #[(.int x0), (.int x1), (.ref x2)] 3 = mkF m 0 #[.val (.int x0), .val (.int x1), .val (.ref x2)] [] := by first | (simp [entryFrame, mkF, argsToLocals, Value.category]; done) | rfl
def QrmCIR (Z : State) (j : Int32) (nn : Int32) (fa : Addr) (h0 : Heap) (n0 : Nat) (v : Option Value) (h : Heap) (L : List Loc) : Prop := v = some (.int j) ∧ Fr n0 L ∧ h = h0
set_option maxRecDepth 65536 in
set_option maxHeartbeats 40000000 in
theorem rmCIR (l : Launch) (Z : State) (a0 : Array Value) (hw : ∀ d ∈ tables_1, d.before a0 Z = true) (ws : List Jvm.Cond) (j : Int32) (nn : Int32) (fa : Addr) (h0 : Heap) (n0 : Nat) (Z0 : n0 ≤ h0.size) (hj0 : ¬ j < 0) (hjl : j < nn) :
    MetFree l (⟨"jdk/internal/util/Preconditions", "checkIndex", "(IILjava/util/function/BiFunction;)I"⟩ : MethodName) (head1 (Jvm.Cond.code (⟨"jdk/internal/util/Preconditions", "checkIndex", "(IILjava/util/function/BiFunction;)I"⟩ : MethodName) jdk_41_method_11_code 3 (some .int) :: ws) ({ frames := 0, cells := 0, slots := 0, locals := 0 } : Room)) (fun aq Uq => aq = #[(.int j), (.int nn), (.ref fa)] ∧ Z.Warmed39 Uq.vm ∧ Uq.heap = h0) (fun _ _ _ _ _ => True) (fun _ Uq oq Uq' => ∃ vq Lq, oq = .returned vq ∧ QrmCIR Z j nn fa h0 n0 vq Uq'.heap Lq ∧ FrameEnd Uq oq Uq' Lq ({ frames := 0, cells := 0, slots := 0, locals := 0 } : Room).cells ({ frames := 0, cells := 0, slots := 0, locals := 0 } : Room).slots) := by
  refine MetFree.of_bodySF (plainFor_of_name pn_2) hisR ?_
  intro p e s m args below meth c s₁ Bd hml0 hP hK
  obtain ⟨rfl, hZ, hh⟩ := hP
  have hx := Bd.exec
  have hby := Bd.bytes
  have hml : c.maxLocals = 3 := hml0
  have hown : s.vm.findClass "jdk/internal/util/Preconditions" = some m.cls := findClass_of_methodNamed Bd.named
  have hnm := (name_of_methodNamed Bd.named Bd.method).1
  have X0 : Stand p l e ({ frames := 0, cells := 0, slots := 0, locals := 0 } : Room) s m #[(.int j), (.int nn), (.ref fa)] below meth c s₁ [] 0 0 := Stand.of_body Bd
  have e0 : s₁.heap = h0 := by rw [← hh, Bd.state]; rfl
  have N0 := Fr.nil n0
  have ZH := Z0
  have KK := Keep.refl h0 []
  refine own_start (fun t kq => castTop (ef_rmCIR m j nn fa) kq) ?_
  show own_Go p.tables e below _ (s₁.setTop (mkF m 0 #[.val (.int j), .val (.int nn), .val (.ref fa)] []))
  refine own_up (fun _ kq => XS.iloadN X0.here hx rfl (hb hby d16_0) rfl kq) ?_
  show own_Go p.tables e below _ (s₁.setTop (mkF m 1 #[.val (.int j), .val (.int nn), .val (.ref fa)] [(.int j)]))
  refine own_up (fun _ kq => XS.ifNo X0.here hx rfl (hb hby d16_1) rfl ((if0 _ _).trans (flt hj0).1) kq) ?_
  show own_Go p.tables e below _ (s₁.setTop (mkF m 4 #[.val (.int j), .val (.int nn), .val (.ref fa)] []))
  refine own_up (fun _ kq => XS.iloadN X0.here hx rfl (hb hby d16_4) rfl kq) ?_
  show own_Go p.tables e below _ (s₁.setTop (mkF m 5 #[.val (.int j), .val (.int nn), .val (.ref fa)] [(.int j)]))
  refine own_up (fun _ kq => XS.iloadN X0.here hx rfl (hb hby d16_5) rfl kq) ?_
  show own_Go p.tables e below _ (s₁.setTop (mkF m 6 #[.val (.int j), .val (.int nn), .val (.ref fa)] [(.int nn), (.int j)]))
  refine own_up (fun _ kq => XS.icmpYes X0.here hx rfl (pc0 := 6) (pc' := 16) rfl (hb hby d16_6) rfl (tlt hjl).1 (by decide) (by decide) kq) ?_
  show own_Go p.tables e below _ (s₁.setTop (mkF m 16 #[.val (.int j), .val (.int nn), .val (.ref fa)] []))
  refine own_up (fun _ kq => XS.iloadN X0.here hx rfl (hb hby d16_16) rfl kq) ?_
  show own_Go p.tables e below _ (s₁.setTop (mkF m 17 #[.val (.int j), .val (.int nn), .val (.ref fa)] [(.int j)]))
  obtain ⟨fs1, hr1, hrun1, hended1, hW1, hsame1⟩ := X0.leave (v := some (.int j)) (fun h => by rw [Bd.returns] at h; cases h)
  refine own_end ⟨_, _, ?_, hrun1, hended1, _, _, rfl, ?_, ⟨_, rfl⟩, hW1, hsame1.mono (by decide) (by decide)⟩
  · exact retOut X0 hx Bd.returns rfl (Or.inl ⟨rfl, Or.inl rfl, _, rfl⟩) (hb hby d16_17) hr1
  · show QrmCIR Z j nn fa h0 n0 _ s₁.heap _
    rw [e0]
    exact ⟨rfl, N0, rfl⟩
theorem ef_rmCIN (m : MethodId) (x0 : Int32) (x1 : Int32) : entryFrame m #[(.int x0), (.int x1), .null] 3 = mkF m 0 #[.val (.int x0), .val (.int x1), .val .null] [] := by first | (simp [entryFrame, mkF, argsToLocals, Value.category]; done) | rfl
def QrmCIN (Z : State) (j : Int32) (nn : Int32) (h0 : Heap) (n0 : Nat) (v : Option Value) (h : Heap) (L : List Loc) : Prop := v = some (.int j) ∧ Fr n0 L ∧ h = h0
set_option maxRecDepth 65536 in
set_option maxHeartbeats 40000000 in
theorem rmCIN (l : Launch) (Z : State) (a0 : Array Value) (hw : ∀ d ∈ tables_1, d.before a0 Z = true) (ws : List Jvm.Cond) (j : Int32) (nn : Int32) (h0 : Heap) (n0 : Nat) (Z0 : n0 ≤ h0.size) (hj0 : ¬ j < 0) (hjl : j < nn) :
    MetFree l (⟨"jdk/internal/util/Preconditions", "checkIndex", "(IILjava/util/function/BiFunction;)I"⟩ : MethodName) (head1 (Jvm.Cond.code (⟨"jdk/internal/util/Preconditions", "checkIndex", "(IILjava/util/function/BiFunction;)I"⟩ : MethodName) jdk_41_method_11_code 3 (some .int) :: ws) ({ frames := 0, cells := 0, slots := 0, locals := 0 } : Room)) (fun aq Uq => aq = #[(.int j), (.int nn), .null] ∧ Z.Warmed39 Uq.vm ∧ Uq.heap = h0) (fun _ _ _ _ _ => True) (fun _ Uq oq Uq' => ∃ vq Lq, oq = .returned vq ∧ QrmCIN Z j nn h0 n0 vq Uq'.heap Lq ∧ FrameEnd Uq oq Uq' Lq ({ frames := 0, cells := 0, slots := 0, locals := 0 } : Room).cells ({ frames := 0, cells := 0, slots := 0, locals := 0 } : Room).slots) := by
  refine MetFree.of_bodySF (plainFor_of_name pn_2) hisR ?_
  intro p e s m args below meth c s₁ Bd hml0 hP hK
  obtain ⟨rfl, hZ, hh⟩ := hP
  have hx := Bd.exec
  have hby := Bd.bytes
  have hml : c.maxLocals = 3 := hml0
  have hown : s.vm.findClass "jdk/internal/util/Preconditions" = some m.cls := findClass_of_methodNamed Bd.named
  have hnm := (name_of_methodNamed Bd.named Bd.method).1
  have X0 : Stand p l e ({ frames := 0, cells := 0, slots := 0, locals := 0 } : Room) s m #[(.int j), (.int nn), .null] below meth c s₁ [] 0 0 := Stand.of_body Bd
  have e0 : s₁.heap = h0 := by rw [← hh, Bd.state]; rfl
  have N0 := Fr.nil n0
  have ZH := Z0
  have KK := Keep.refl h0 []
  refine own_start (fun t kq => castTop (ef_rmCIN m j nn) kq) ?_
  show own_Go p.tables e below _ (s₁.setTop (mkF m 0 #[.val (.int j), .val (.int nn), .val .null] []))
  refine own_up (fun _ kq => XS.iloadN X0.here hx rfl (hb hby d16_0) rfl kq) ?_
  show own_Go p.tables e below _ (s₁.setTop (mkF m 1 #[.val (.int j), .val (.int nn), .val .null] [(.int j)]))
  refine own_up (fun _ kq => XS.ifNo X0.here hx rfl (hb hby d16_1) rfl ((if0 _ _).trans (flt hj0).1) kq) ?_
  show own_Go p.tables e below _ (s₁.setTop (mkF m 4 #[.val (.int j), .val (.int nn), .val .null] []))
  refine own_up (fun _ kq => XS.iloadN X0.here hx rfl (hb hby d16_4) rfl kq) ?_
  show own_Go p.tables e below _ (s₁.setTop (mkF m 5 #[.val (.int j), .val (.int nn), .val .null] [(.int j)]))
  refine own_up (fun _ kq => XS.iloadN X0.here hx rfl (hb hby d16_5) rfl kq) ?_
  show own_Go p.tables e below _ (s₁.setTop (mkF m 6 #[.val (.int j), .val (.int nn), .val .null] [(.int nn), (.int j)]))
  refine own_up (fun _ kq => XS.icmpYes X0.here hx rfl (pc0 := 6) (pc' := 16) rfl (hb hby d16_6) rfl (tlt hjl).1 (by decide) (by decide) kq) ?_
  show own_Go p.tables e below _ (s₁.setTop (mkF m 16 #[.val (.int j), .val (.int nn), .val .null] []))
  refine own_up (fun _ kq => XS.iloadN X0.here hx rfl (hb hby d16_16) rfl kq) ?_
  show own_Go p.tables e below _ (s₁.setTop (mkF m 17 #[.val (.int j), .val (.int nn), .val .null] [(.int j)]))
  obtain ⟨fs1, hr1, hrun1, hended1, hW1, hsame1⟩ := X0.leave (v := some (.int j)) (fun h => by rw [Bd.returns] at h; cases h)
  refine own_end ⟨_, _, ?_, hrun1, hended1, _, _, rfl, ?_, ⟨_, rfl⟩, hW1, hsame1.mono (by decide) (by decide)⟩
  · exact retOut X0 hx Bd.returns rfl (Or.inl ⟨rfl, Or.inl rfl, _, rfl⟩) (hb hby d16_17) hr1
  · show QrmCIN Z j nn h0 n0 _ s₁.heap _
    rw [e0]
    exact ⟨rfl, N0, rfl⟩
theorem pn_3 : plainName "java/lang/String" = true := by first | (simp [plainName, overriddenIn]; done) | decide +kernel
theorem d15_0 : decode jdk_42_method_155_code 0 = .ok (.iload_n 0, 1) := by decide +kernel
theorem d15_1 : decode jdk_42_method_155_code 1 = .ok (.iload_n 1, 1) := by decide +kernel
theorem d15_2 : decode jdk_42_method_155_code 2 = .ok (.getstatic 1053, 3) := by decide +kernel
theorem d15_5 : decode jdk_42_method_155_code 5 = .ok (.invokestatic 1059, 3) := by decide +kernel
theorem pd_0 : parseMethodDescriptor "(IILjava/util/function/BiFunction;)I" = some ⟨[.int, .int, (.object "java/util/function/BiFunction")], some .int⟩ := by decide +kernel
theorem d15_8 : decode jdk_42_method_155_code 8 = .ok (.pop, 1) := by decide +kernel
theorem d15_9 : decode jdk_42_method_155_code 9 = .ok (.return_, 1) := by decide +kernel
theorem ef_rmCK (m : MethodId) (x0 : Int32) (x1 : Int32) : entryFrame m #[(.int x0), (.int x1)] 2 = mkF m 0 #[.val (.int x0), .val (.int x1)] [] := by first | (simp [entryFrame, mkF, argsToLocals, Value.category]; done) | rfl
def QrmCK (Z : State) (cz : Int32) (fv : Value) (j : Int32) (nn : Int32) (h0 : Heap) (n0 : Nat) (v : Option Value) (h : Heap) (L : List Loc) : Prop := v = none ∧ Fr n0 L ∧ h = h0
set_option maxRecDepth 65536 in
set_option maxHeartbeats 40000000 in
theorem rmCK (l : Launch) (Z : State) (a0 : Array Value) (hw : ∀ d ∈ tables_1, d.before a0 Z = true) (ws : List Jvm.Cond) (cz : Int32) (fv : Value) (j : Int32) (nn : Int32) (h0 : Heap) (n0 : Nat) (Z0 : n0 ≤ h0.size) (OO : Old Z n0 h0) (HW : own_W Z cz fv) (hj0 : ¬ j < 0) (hjl : j < nn) :
    MetFree l (⟨"java/lang/String", "checkIndex", "(II)V"⟩ : MethodName) (head1 (Jvm.Cond.code (⟨"java/lang/String", "checkIndex", "(II)V"⟩ : MethodName) jdk_42_method_155_code 2 none :: ws) ({ frames := 1, cells := 0, slots := 0, locals := 14 } : Room)) (fun aq Uq => aq = #[(.int j), (.int nn)] ∧ Z.Warmed39 Uq.vm ∧ Uq.heap = h0) (fun _ _ _ _ _ => True) (fun _ Uq oq Uq' => ∃ vq Lq, oq = .returned vq ∧ QrmCK Z cz fv j nn h0 n0 vq Uq'.heap Lq ∧ FrameEnd Uq oq Uq' Lq ({ frames := 1, cells := 0, slots := 0, locals := 14 } : Room).cells ({ frames := 1, cells := 0, slots := 0, locals := 14 } : Room).slots) := by
  refine MetFree.of_bodySF (plainFor_of_name pn_3) hisR ?_
  intro p e s m args below meth c s₁ Bd hml0 hP hK
  obtain ⟨rfl, hZ, hh⟩ := hP
  have hx := Bd.exec
  have hby := Bd.bytes
  have hml : c.maxLocals = 2 := hml0
  have hown : s.vm.findClass "java/lang/String" = some m.cls := findClass_of_methodNamed Bd.named
  have hnm := (name_of_methodNamed Bd.named Bd.method).1
  have X0 : Stand p l e ({ frames := 1, cells := 0, slots := 0, locals := 14 } : Room) s m #[(.int j), (.int nn)] below meth c s₁ [] 0 0 := Stand.of_body Bd
  have e0 : s₁.heap = h0 := by rw [← hh, Bd.state]; rfl
  have N0 := Fr.nil n0
  have ZH := Z0
  have KK := Keep.refl h0 []
  refine own_start (fun t kq => castTop (ef_rmCK m j nn) kq) ?_
  show own_Go p.tables e below _ (s₁.setTop (mkF m 0 #[.val (.int j), .val (.int nn)] []))
  have HW0 := HW
  obtain ⟨SC, hcz, SF, hfv, SA, SH, SL⟩ := HW
  refine own_up (fun _ kq => XS.iloadN X0.here hx rfl (hb hby d15_0) rfl kq) ?_
  show own_Go p.tables e below _ (s₁.setTop (mkF m 1 #[.val (.int j), .val (.int nn)] [(.int j)]))
  refine own_up (fun _ kq => XS.iloadN X0.here hx rfl (hb hby d15_1) rfl kq) ?_
  show own_Go p.tables e below _ (s₁.setTop (mkF m 2 #[.val (.int j), .val (.int nn)] [(.int nn), (.int j)]))
  obtain ⟨T1, X1, e1, st1⟩ := getS2 X0 hx hZ hown (host := "") (Or.inl (hw _ (List.mem_of_getElem? (i := 73) rfl))) Via.refl e0 (SF.ext OO.2) (g := (mkF m 2 #[.val (.int j), .val (.int nn)] [(.int nn), (.int j)])) rfl (hb hby d15_2)
  refine own_up st1 ?_
  show own_Go p.tables e below _ (T1.setTop (mkF m 5 #[.val (.int j), .val (.int nn)] [fv, (.int nn), (.int j)]))
  rcases hfv with rfl | ⟨fa, rfl⟩
  · show own_Go p.tables e below _ (T1.setTop (mkF m 5 #[.val (.int j), .val (.int nn)] [.null, (.int nn), (.int j)]))
    obtain ⟨_, _, ⟨T2, L2, k2, n2⟩, -, X2, ⟨Lc2, hQ2, l2, y2, z2⟩, st2⟩ := Jvm.LawKit.callS X1 hx (y := (⟨"jdk/internal/util/Preconditions", "checkIndex", "(IILjava/util/function/BiFunction;)I"⟩ : MethodName)) hown (mvT hZ (hw _ (List.mem_of_getElem? (i := 75) rfl))) (mvT hZ (hw _ (List.mem_of_getElem? (i := 76) rfl))) (mvT hZ (hw _ (List.mem_of_getElem? (i := 74) rfl))) (mvT hZ (hw _ (List.mem_of_getElem? (i := 77) rfl))) (by decide) (backOf (W := 0) (rmCIN l Z a0 hw [] j nn h0 n0 ZH hj0 hjl) hZ (hw _ (List.mem_of_getElem? (i := 77) rfl)) (hw _ (List.mem_of_getElem? (i := 74) rfl)) (by decide) (by decide)) (g := (mkF m 5 #[.val (.int j), .val (.int nn)] [.null, (.int nn), (.int j)])) rfl (by rw [hml]; rfl) (argsL := [(.int j), (.int nn), .null]) (rest := []) (lenOf pd_0 rfl) rfl (by show 2 * 0 + _ ≤ _; exact Nat.le_of_eq rfl) (hb hby d15_5) (fun _ _ => ⟨rfl, e1, (by decide : 0 + 0 ≤ _), (by decide : 0 + 0 ≤ _)⟩)
    dsimp only [Pt.U, Pt.locs, Pt.cells, Pt.slots] at X2 l2 y2 z2 st2 hQ2
    subst l2 y2 z2
    obtain ⟨rfl, Nq2, e2⟩ := hQ2
    have N2 := Fr.app N0 Nq2
    refine own_up st2 ?_
    show own_Go p.tables e below _ (T2.setTop (mkF m 8 #[.val (.int j), .val (.int nn)] [(.int j)]))
    refine own_up (fun _ kq => XS.pop X2.here hx rfl (hb hby d15_8) rfl rfl kq) ?_
    show own_Go p.tables e below _ (T2.setTop (mkF m 9 #[.val (.int j), .val (.int nn)] []))
    obtain ⟨fs3, hr3, hrun3, hended3, hW3, hsame3⟩ := X2.leave (v := none) (fun _ => rfl)
    refine own_end ⟨_, _, ?_, hrun3, hended3, _, _, rfl, ?_, ⟨_, rfl⟩, hW3, hsame3.mono (by decide) (by decide)⟩
    · exact X2.returnOut hx Bd.returns (hb hby d15_9) hr3
    · show QrmCK Z cz .null j nn h0 n0 _ T2.heap _
      rw [e2]
      exact ⟨rfl, N2, rfl⟩
  · show own_Go p.tables e below _ (T1.setTop (mkF m 5 #[.val (.int j), .val (.int nn)] [(.ref fa), (.int nn), (.int j)]))
    obtain ⟨_, _, ⟨T4, L4, k4, n4⟩, -, X4, ⟨Lc4, hQ4, l4, y4, z4⟩, st4⟩ := Jvm.LawKit.callS X1 hx (y := (⟨"jdk/internal/util/Preconditions", "checkIndex", "(IILjava/util/function/BiFunction;)I"⟩ : MethodName)) hown (mvT hZ (hw _ (List.mem_of_getElem? (i := 75) rfl))) (mvT hZ (hw _ (List.mem_of_getElem? (i := 76) rfl))) (mvT hZ (hw _ (List.mem_of_getElem? (i := 74) rfl))) (mvT hZ (hw _ (List.mem_of_getElem? (i := 77) rfl))) (by decide) (backOf (W := 0) (rmCIR l Z a0 hw [] j nn fa h0 n0 ZH hj0 hjl) hZ (hw _ (List.mem_of_getElem? (i := 77) rfl)) (hw _ (List.mem_of_getElem? (i := 74) rfl)) (by decide) (by decide)) (g := (mkF m 5 #[.val (.int j), .val (.int nn)] [(.ref fa), (.int nn), (.int j)])) rfl (by rw [hml]; rfl) (argsL := [(.int j), (.int nn), (.ref fa)]) (rest := []) (lenOf pd_0 rfl) rfl (by show 2 * 0 + _ ≤ _; exact Nat.le_of_eq rfl) (hb hby d15_5) (fun _ _ => ⟨rfl, e1, (by decide : 0 + 0 ≤ _), (by decide : 0 + 0 ≤ _)⟩)
    dsimp only [Pt.U, Pt.locs, Pt.cells, Pt.slots] at X4 l4 y4 z4 st4 hQ4
    subst l4 y4 z4
    obtain ⟨rfl, Nq4, e4⟩ := hQ4
    have N4 := Fr.app N0 Nq4
    refine own_up st4 ?_
    show own_Go p.tables e below _ (T4.setTop (mkF m 8 #[.val (.int j), .val (.int nn)] [(.int j)]))
    refine own_up (fun _ kq => XS.pop X4.here hx rfl (hb hby d15_8) rfl rfl kq) ?_
    show own_Go p.tables e below _ (T4.setTop (mkF m 9 #[.val (.int j), .val (.int nn)] []))
    obtain ⟨fs5, hr5, hrun5, hended5, hW5, hsame5⟩ := X4.leave (v := none) (fun _ => rfl)
    refine own_end ⟨_, _, ?_, hrun5, hended5, _, _, rfl, ?_, ⟨_, rfl⟩, hW5, hsame5.mono (by decide) (by decide)⟩
    · exact X4.returnOut hx Bd.returns (hb hby d15_9) hr5
    · show QrmCK Z cz (.ref fa) j nn h0 n0 _ T4.heap _
      rw [e4]
      exact ⟨rfl, N4, rfl⟩
theorem pn_4 : plainName "java/lang/StringLatin1" = true := by first | (simp [plainName, overriddenIn]; done) | decide +kernel
theorem d14_0 : decode jdk_43_method_2_code 0 = .ok (.iload_n 1, 1) := by decide +kernel
theorem d14_1 : decode jdk_43_method_2_code 1 = .ok (.aload_n 0, 1) := by decide +kernel
theorem d14_2 : decode jdk_43_method_2_code 2 = .ok (.arraylength, 1) := by decide +kernel
theorem d14_3 : decode jdk_43_method_2_code 3 = .ok (.invokestatic 9, 3) := by decide +kernel
theorem pd_1 : parseMethodDescriptor "(II)V" = some ⟨[.int, .int], none⟩ := by decide +kernel
theorem d14_6 : decode jdk_43_method_2_code 6 = .ok (.aload_n 0, 1) := by decide +kernel
theorem d14_7 : decode jdk_43_method_2_code 7 = .ok (.iload_n 1, 1) := by decide +kernel
theorem d14_8 : decode jdk_43_method_2_code 8 = .ok (.baload, 1) := by decide +kernel
theorem d14_9 : decode jdk_43_method_2_code 9 = .ok (.sipush 255, 3) := by decide +kernel
theorem d14_12 : decode jdk_43_method_2_code 12 = .ok (.iand, 1) := by decide +kernel
theorem d14_13 : decode jdk_43_method_2_code 13 = .ok (.i2c, 1) := by decide +kernel
theorem d14_14 : decode jdk_43_method_2_code 14 = .ok (.ireturn, 1) := by decide +kernel
theorem ef_rmLC (m : MethodId) (x0 : Addr) (x1 : Int32) : entryFrame m #[(.ref x0), (.int x1)] 2 = mkF m 0 #[.val (.ref x0), .val (.int x1)] [] := by first | (simp [entryFrame, mkF, argsToLocals, Value.category]; done) | rfl
def QrmLC (Z : State) (cz : Int32) (fv : Value) (tb : Addr) (nn : Int32) (f : Nat → Value) (j : Int32) (ch : Int32) (h0 : Heap) (n0 : Nat) (v : Option Value) (h : Heap) (L : List Loc) : Prop := v = some (.int ch) ∧ Fr n0 L ∧ h = h0
set_option maxRecDepth 65536 in
set_option maxHeartbeats 40000000 in
theorem rmLC (l : Launch) (Z : State) (a0 : Array Value) (hw : ∀ d ∈ tables_1, d.before a0 Z = true) (ws : List Jvm.Cond) (cz : Int32) (fv : Value) (tb : Addr) (nn : Int32) (f : Nat → Value) (j : Int32) (ch : Int32) (h0 : Heap) (n0 : Nat) (Z0 : n0 ≤ h0.size) (OO : Old Z n0 h0) (HW : own_W Z cz fv) (G_tb : own_Arf Z h0 tb .byte nn f) (hj0 : ¬ j < 0) (hjl : j < nn) (hf : f j.toNatClampNeg = .int (StrChars.lo8 ch)) (hl : ¬ ch < 0) (hu : ¬ (255 : Int32) < ch) :
    MetFree l (⟨"java/lang/StringLatin1", "charAt", "([BI)C"⟩ : MethodName) (head1 (Jvm.Cond.code (⟨"java/lang/StringLatin1", "charAt", "([BI)C"⟩ : MethodName) jdk_43_method_2_code 2 (some .char) :: ws) ({ frames := 2, cells := 0, slots := 0, locals := 27 } : Room)) (fun aq Uq => aq = #[(.ref tb), (.int j)] ∧ Z.Warmed39 Uq.vm ∧ Uq.heap = h0) (fun _ _ _ _ _ => True) (fun _ Uq oq Uq' => ∃ vq Lq, oq = .returned vq ∧ QrmLC Z cz fv tb nn f j ch h0 n0 vq Uq'.heap Lq ∧ FrameEnd Uq oq Uq' Lq ({ frames := 2, cells := 0, slots := 0, locals := 27 } : Room).cells ({ frames := 2, cells := 0, slots := 0, locals := 27 } : Room).slots) := by
  refine MetFree.of_bodySF (plainFor_of_name pn_4) hisR ?_
  intro p e s m args below meth c s₁ Bd hml0 hP hK
  obtain ⟨rfl, hZ, hh⟩ := hP
  have hx := Bd.exec
  have hby := Bd.bytes
  have hml : c.maxLocals = 2 := hml0
  have hown : s.vm.findClass "java/lang/StringLatin1" = some m.cls := findClass_of_methodNamed Bd.named
  have hnm := (name_of_methodNamed Bd.named Bd.method).1
  have X0 : Stand p l e ({ frames := 2, cells := 0, slots := 0, locals := 27 } : Room) s m #[(.ref tb), (.int j)] below meth c s₁ [] 0 0 := Stand.of_body Bd
  have e0 : s₁.heap = h0 := by rw [← hh, Bd.state]; rfl
  have N0 := Fr.nil n0
  have ZH := Z0
  have KK := Keep.refl h0 []
  refine own_start (fun t kq => castTop (ef_rmLC m tb j) kq) ?_
  show own_Go p.tables e below _ (s₁.setTop (mkF m 0 #[.val (.ref tb), .val (.int j)] []))
  have HW0 := HW
  obtain ⟨SC, hcz, SF, hfv, SA, SH, SL⟩ := HW
  refine own_up (fun _ kq => XS.iloadN X0.here hx rfl (hb hby d14_0) rfl kq) ?_
  show own_Go p.tables e below _ (s₁.setTop (mkF m 1 #[.val (.ref tb), .val (.int j)] [(.int j)]))
  refine own_up (fun _ kq => XS.aloadN X0.here hx rfl (hb hby d14_1) rfl rfl kq) ?_
  show own_Go p.tables e below _ (s₁.setTop (mkF m 2 #[.val (.ref tb), .val (.int j)] [(.ref tb), (.int j)]))
  refine own_up (fun _ kq => own_Arf.alen G_tb X0 hx hZ e0 (g := (mkF m 2 #[.val (.ref tb), .val (.int j)] [(.ref tb), (.int j)])) rfl rfl (hb hby d14_2) _ kq) ?_
  show own_Go p.tables e below _ (s₁.setTop (mkF m 3 #[.val (.ref tb), .val (.int j)] [(.int nn), (.int j)]))
  obtain ⟨_, _, ⟨T1, L1, k1, n1⟩, -, X1, ⟨Lc1, hQ1, l1, y1, z1⟩, st1⟩ := Jvm.LawKit.callS X0 hx (y := (⟨"java/lang/String", "checkIndex", "(II)V"⟩ : MethodName)) hown (mvT hZ (hw _ (List.mem_of_getElem? (i := 70) rfl))) (mvT hZ (hw _ (List.mem_of_getElem? (i := 71) rfl))) (mvT hZ (hw _ (List.mem_of_getElem? (i := 8) rfl))) (mvT hZ (hw _ (List.mem_of_getElem? (i := 72) rfl))) (by decide) (backOf (W := 0) (rmCK l Z a0 hw [] cz fv j nn h0 n0 ZH OO HW0 hj0 hjl) hZ (hw _ (List.mem_of_getElem? (i := 72) rfl)) (hw _ (List.mem_of_getElem? (i := 8) rfl)) (by decide) (by decide)) (g := (mkF m 3 #[.val (.ref tb), .val (.int j)] [(.int nn), (.int j)])) rfl (by rw [hml]; rfl) (argsL := [(.int j), (.int nn)]) (rest := []) (lenOf pd_1 rfl) rfl (by show 2 * 0 + _ ≤ _; exact Nat.le_of_eq rfl) (hb hby d14_3) (fun _ _ => ⟨rfl, e0, (by decide : 0 + 0 ≤ _), (by decide : 0 + 0 ≤ _)⟩)
  dsimp only [Pt.U, Pt.locs, Pt.cells, Pt.slots] at X1 l1 y1 z1 st1 hQ1
  subst l1 y1 z1
  obtain ⟨rfl, Nq1, e1⟩ := hQ1
  have N1 := Fr.app N0 Nq1
  refine own_up st1 ?_
  show own_Go p.tables e below _ (T1.setTop (mkF m 6 #[.val (.ref tb), .val (.int j)] []))
  refine own_up (fun _ kq => XS.aloadN X1.here hx rfl (hb hby d14_6) rfl rfl kq) ?_
  show own_Go p.tables e below _ (T1.setTop (mkF m 7 #[.val (.ref tb), .val (.int j)] [(.ref tb)]))
  refine own_up (fun _ kq => XS.iloadN X1.here hx rfl (hb hby d14_7) rfl kq) ?_
  show own_Go p.tables e below _ (T1.setTop (mkF m 8 #[.val (.ref tb), .val (.int j)] [(.int j), (.ref tb)]))
  refine own_up (fun _ kq => own_Arf.baload G_tb X1 hx hZ e1 hj0 hjl (v := (.int (StrChars.lo8 ch))) hf (g := (mkF m 8 #[.val (.ref tb), .val (.int j)] [(.int j), (.ref tb)])) rfl rfl (hb hby d14_8) _ kq) ?_
  show own_Go p.tables e below _ (T1.setTop (mkF m 9 #[.val (.ref tb), .val (.int j)] [(.int (StrChars.lo8 ch))]))
  refine own_up (fun _ kq => XS.sipush X1.here hx rfl (hb hby d14_9) kq) ?_
  show own_Go p.tables e below _ (T1.setTop (mkF m 12 #[.val (.ref tb), .val (.int j)] [(.int (255 : Int32)), (.int (StrChars.lo8 ch))]))
  refine own_up (fun _ kq => XS.iand X1.here hx rfl (hb hby d14_12) rfl kq) ?_
  show own_Go p.tables e below _ (T1.setTop (mkF m 13 #[.val (.ref tb), .val (.int j)] [(.int ((StrChars.lo8 ch) &&& (255 : Int32)))]))
  refine own_up (fun _ kq => XS.i2c X1.here hx rfl (hb hby d14_13) rfl kq) ?_
  show own_Go p.tables e below _ (T1.setTop (mkF m 14 #[.val (.ref tb), .val (.int j)] [(.int ((StrChars.lo8 ch) &&& (255 : Int32)).toUInt32.toUInt16.toUInt32.toInt32)]))
  obtain ⟨fs2, hr2, hrun2, hended2, hW2, hsame2⟩ := X1.leave (v := some (.int (nar .char ((StrChars.lo8 ch) &&& (255 : Int32)).toUInt32.toUInt16.toUInt32.toInt32))) (fun h => by rw [Bd.returns] at h; cases h)
  refine own_end ⟨_, _, ?_, hrun2, hended2, _, _, rfl, ?_, ⟨_, rfl⟩, hW2, hsame2.mono (by decide) (by decide)⟩
  · exact retN X1 hx (t := .char) Bd.returns (by simp) (hb hby d14_14) hr2
  · show QrmLC Z cz fv tb nn f j ch h0 n0 _ T1.heap _
    rw [e1]
    exact ⟨congrArg (fun z => some (Value.int z)) (own_cl8 hl hu), N1, rfl⟩
theorem pn_5 : plainName "java/lang/StringUTF16" = true := by first | (simp [plainName, overriddenIn]; done) | decide +kernel
theorem d25_0 : decode jdk_52_method_6_code 0 = .ok (.aload_n 0, 1) := by decide +kernel
theorem d25_1 : decode jdk_52_method_6_code 1 = .ok (.arraylength, 1) := by decide +kernel
theorem d25_2 : decode jdk_52_method_6_code 2 = .ok (.iconst 1, 1) := by decide +kernel
theorem d25_3 : decode jdk_52_method_6_code 3 = .ok (.ishr, 1) := by decide +kernel
theorem d25_4 : decode jdk_52_method_6_code 4 = .ok (.ireturn, 1) := by decide +kernel
theorem ef_rmUL (m : MethodId) (x0 : Addr) : entryFrame m #[(.ref x0)] 1 = mkF m 0 #[.val (.ref x0)] [] := by first | (simp [entryFrame, mkF, argsToLocals, Value.category]; done) | rfl
def QrmUL (Z : State) (tb : Addr) (nn : Int32) (f : Nat → Value) (h0 : Heap) (n0 : Nat) (v : Option Value) (h : Heap) (L : List Loc) : Prop := v = some (.int (nn >>> ((1 : Int32) &&& 31))) ∧ Fr n0 L ∧ h = h0
set_option maxRecDepth 65536 in
set_option maxHeartbeats 40000000 in
theorem rmUL (l : Launch) (Z : State) (a0 : Array Value) (hw : ∀ d ∈ tables_1, d.before a0 Z = true) (ws : List Jvm.Cond) (tb : Addr) (nn : Int32) (f : Nat → Value) (h0 : Heap) (n0 : Nat) (Z0 : n0 ≤ h0.size) (G_tb : own_Arf Z h0 tb .byte nn f) :
    MetFree l (⟨"java/lang/StringUTF16", "length", "([B)I"⟩ : MethodName) (head1 (Jvm.Cond.code (⟨"java/lang/StringUTF16", "length", "([B)I"⟩ : MethodName) jdk_52_method_6_code 1 (some .int) :: ws) ({ frames := 0, cells := 0, slots := 0, locals := 0 } : Room)) (fun aq Uq => aq = #[(.ref tb)] ∧ Z.Warmed39 Uq.vm ∧ Uq.heap = h0) (fun _ _ _ _ _ => True) (fun _ Uq oq Uq' => ∃ vq Lq, oq = .returned vq ∧ QrmUL Z tb nn f h0 n0 vq Uq'.heap Lq ∧ FrameEnd Uq oq Uq' Lq ({ frames := 0, cells := 0, slots := 0, locals := 0 } : Room).cells ({ frames := 0, cells := 0, slots := 0, locals := 0 } : Room).slots) := by
  refine MetFree.of_bodySF (plainFor_of_name pn_5) hisR ?_
  intro p e s m args below meth c s₁ Bd hml0 hP hK
  obtain ⟨rfl, hZ, hh⟩ := hP
  have hx := Bd.exec
  have hby := Bd.bytes
  have hml : c.maxLocals = 1 := hml0
  have hown : s.vm.findClass "java/lang/StringUTF16" = some m.cls := findClass_of_methodNamed Bd.named
  have hnm := (name_of_methodNamed Bd.named Bd.method).1
  have X0 : Stand p l e ({ frames := 0, cells := 0, slots := 0, locals := 0 } : Room) s m #[(.ref tb)] below meth c s₁ [] 0 0 := Stand.of_body Bd
  have e0 : s₁.heap = h0 := by rw [← hh, Bd.state]; rfl
  have N0 := Fr.nil n0
  have ZH := Z0
  have KK := Keep.refl h0 []
  refine own_start (fun t kq => castTop (ef_rmUL m tb) kq) ?_
  show own_Go p.tables e below _ (s₁.setTop (mkF m 0 #[.val (.ref tb)] []))
  refine own_up (fun _ kq => XS.aloadN X0.here hx rfl (hb hby d25_0) rfl rfl kq) ?_
  show own_Go p.tables e below _ (s₁.setTop (mkF m 1 #[.val (.ref tb)] [(.ref tb)]))
  refine own_up (fun _ kq => own_Arf.alen G_tb X0 hx hZ e0 (g := (mkF m 1 #[.val (.ref tb)] [(.ref tb)])) rfl rfl (hb hby d25_1) _ kq) ?_
  show own_Go p.tables e below _ (s₁.setTop (mkF m 2 #[.val (.ref tb)] [(.int nn)]))
  refine own_up (fun _ kq => XS.iconst X0.here hx rfl (hb hby d25_2) kq) ?_
  show own_Go p.tables e below _ (s₁.setTop (mkF m 3 #[.val (.ref tb)] [(.int (1 : Int32)), (.int nn)]))
  refine own_up (fun _ kq => XS.ishr X0.here hx rfl (hb hby d25_3) rfl kq) ?_
  show own_Go p.tables e below _ (s₁.setTop (mkF m 4 #[.val (.ref tb)] [(.int (nn >>> ((1 : Int32) &&& 31)))]))
  obtain ⟨fs1, hr1, hrun1, hended1, hW1, hsame1⟩ := X0.leave (v := some (.int (nn >>> ((1 : Int32) &&& 31)))) (fun h => by rw [Bd.returns] at h; cases h)
  refine own_end ⟨_, _, ?_, hrun1, hended1, _, _, rfl, ?_, ⟨_, rfl⟩, hW1, hsame1.mono (by decide) (by decide)⟩
  · exact retOut X0 hx Bd.returns rfl (Or.inl ⟨rfl, Or.inl rfl, _, rfl⟩) (hb hby d25_4) hr1
  · show QrmUL Z tb nn f h0 n0 _ s₁.heap _
    rw [e0]
    exact ⟨rfl, N0, rfl⟩
theorem d24_0 : decode jdk_52_method_91_code 0 = .ok (.iload_n 0, 1) := by decide +kernel
theorem d24_1 : decode jdk_52_method_91_code 1 = .ok (.aload_n 1, 1) := by decide +kernel
theorem d24_2 : decode jdk_52_method_91_code 2 = .ok (.invokestatic 48, 3) := by decide +kernel
theorem pd_2 : parseMethodDescriptor "([B)I" = some ⟨[(.array .byte)], some .int⟩ := by decide +kernel
theorem d24_5 : decode jdk_52_method_91_code 5 = .ok (.invokestatic 414, 3) := by decide +kernel
theorem d24_8 : decode jdk_52_method_91_code 8 = .ok (.return_, 1) := by decide +kernel
theorem ef_rmUK (m : MethodId) (x0 : Int32) (x1 : Addr) : entryFrame m #[(.int x0), (.ref x1)] 2 = mkF m 0 #[.val (.int x0), .val (.ref x1)] [] := by first | (simp [entryFrame, mkF, argsToLocals, Value.category]; done) | rfl
def QrmUK (Z : State) (cz : Int32) (fv : Value) (tb : Addr) (nn : Int32) (f : Nat → Value) (j : Int32) (h0 : Heap) (n0 : Nat) (v : Option Value) (h : Heap) (L : List Loc) : Prop := v = none ∧ Fr n0 L ∧ h = h0
set_option maxRecDepth 65536 in
set_option maxHeartbeats 40000000 in
theorem rmUK (l : Launch) (Z : State) (a0 : Array Value) (hw : ∀ d ∈ tables_1, d.before a0 Z = true) (ws : List Jvm.Cond) (cz : Int32) (fv : Value) (tb : Addr) (nn : Int32) (f : Nat → Value) (j : Int32) (h0 : Heap) (n0 : Nat) (Z0 : n0 ≤ h0.size) (OO : Old Z n0 h0) (HW : own_W Z cz fv) (G_tb : own_Arf Z h0 tb .byte nn f) (hj0 : ¬ j < 0) (hjl : j < (nn >>> ((1 : Int32) &&& 31))) :
    MetFree l (⟨"java/lang/StringUTF16", "checkIndex", "(I[B)V"⟩ : MethodName) (head1 (Jvm.Cond.code (⟨"java/lang/StringUTF16", "checkIndex", "(I[B)V"⟩ : MethodName) jdk_52_method_91_code 2 none :: ws) ({ frames := 2, cells := 0, slots := 0, locals := 27 } : Room)) (fun aq Uq => aq = #[(.int j), (.ref tb)] ∧ Z.Warmed39 Uq.vm ∧ Uq.heap = h0) (fun _ _ _ _ _ => True) (fun _ Uq oq Uq' => ∃ vq Lq, oq = .returned vq ∧ QrmUK Z cz fv tb nn f j h0 n0 vq Uq'.heap Lq ∧ FrameEnd Uq oq Uq' Lq ({ frames := 2, cells := 0, slots := 0, locals := 27 } : Room).cells ({ frames := 2, cells := 0, slots := 0, locals := 27 } : Room).slots) := by
  refine MetFree.of_bodySF (plainFor_of_name pn_5) hisR ?_
  intro p e s m args below meth c s₁ Bd hml0 hP hK
  obtain ⟨rfl, hZ, hh⟩ := hP
  have hx := Bd.exec
  have hby := Bd.bytes
  have hml : c.maxLocals = 2 := hml0
  have hown : s.vm.findClass "java/lang/StringUTF16" = some m.cls := findClass_of_methodNamed Bd.named
  have hnm := (name_of_methodNamed Bd.named Bd.method).1
  have X0 : Stand p l e ({ frames := 2, cells := 0, slots := 0, locals := 27 } : Room) s m #[(.int j), (.ref tb)] below meth c s₁ [] 0 0 := Stand.of_body Bd
  have e0 : s₁.heap = h0 := by rw [← hh, Bd.state]; rfl
  have N0 := Fr.nil n0
  have ZH := Z0
  have KK := Keep.refl h0 []
  refine own_start (fun t kq => castTop (ef_rmUK m j tb) kq) ?_
  show own_Go p.tables e below _ (s₁.setTop (mkF m 0 #[.val (.int j), .val (.ref tb)] []))
  have HW0 := HW
  obtain ⟨SC, hcz, SF, hfv, SA, SH, SL⟩ := HW
  refine own_up (fun _ kq => XS.iloadN X0.here hx rfl (hb hby d24_0) rfl kq) ?_
  show own_Go p.tables e below _ (s₁.setTop (mkF m 1 #[.val (.int j), .val (.ref tb)] [(.int j)]))
  refine own_up (fun _ kq => XS.aloadN X0.here hx rfl (hb hby d24_1) rfl rfl kq) ?_
  show own_Go p.tables e below _ (s₁.setTop (mkF m 2 #[.val (.int j), .val (.ref tb)] [(.ref tb), (.int j)]))
  obtain ⟨_, _, ⟨T1, L1, k1, n1⟩, -, X1, ⟨Lc1, hQ1, l1, y1, z1⟩, st1⟩ := Jvm.LawKit.callS X0 hx (y := (⟨"java/lang/StringUTF16", "length", "([B)I"⟩ : MethodName)) hown (mvT hZ (hw _ (List.mem_of_getElem? (i := 106) rfl))) (mvT hZ (hw _ (List.mem_of_getElem? (i := 107) rfl))) (mvT hZ (hw _ (List.mem_of_getElem? (i := 45) rfl))) (mvT hZ (hw _ (List.mem_of_getElem? (i := 108) rfl))) (by decide) (backOf (W := 1) (rmUL l Z a0 hw [] tb nn f h0 n0 ZH G_tb) hZ (hw _ (List.mem_of_getElem? (i := 108) rfl)) (hw _ (List.mem_of_getElem? (i := 45) rfl)) (by decide) (by decide)) (g := (mkF m 2 #[.val (.int j), .val (.ref tb)] [(.ref tb), (.int j)])) rfl (by rw [hml]; rfl) (argsL := [(.ref tb)]) (rest := [(.int j)]) (lenOf pd_2 rfl) rfl (by show 2 * 0 + _ ≤ _; exact Nat.le_of_eq rfl) (hb hby d24_2) (fun _ _ => ⟨rfl, e0, (by decide : 0 + 0 ≤ _), (by decide : 0 + 0 ≤ _)⟩)
  dsimp only [Pt.U, Pt.locs, Pt.cells, Pt.slots] at X1 l1 y1 z1 st1 hQ1
  subst l1 y1 z1
  obtain ⟨rfl, Nq1, e1⟩ := hQ1
  have N1 := Fr.app N0 Nq1
  refine own_up st1 ?_
  show own_Go p.tables e below _ (T1.setTop (mkF m 5 #[.val (.int j), .val (.ref tb)] [(.int (nn >>> ((1 : Int32) &&& 31))), (.int j)]))
  obtain ⟨_, _, ⟨T2, L2, k2, n2⟩, -, X2, ⟨Lc2, hQ2, l2, y2, z2⟩, st2⟩ := Jvm.LawKit.callS X1 hx (y := (⟨"java/lang/String", "checkIndex", "(II)V"⟩ : MethodName)) hown (mvT hZ (hw _ (List.mem_of_getElem? (i := 109) rfl))) (mvT hZ (hw _ (List.mem_of_getElem? (i := 71) rfl))) (mvT hZ (hw _ (List.mem_of_getElem? (i := 8) rfl))) (mvT hZ (hw _ (List.mem_of_getElem? (i := 72) rfl))) (by decide) (backOf (W := 0) (rmCK l Z a0 hw [] cz fv j (nn >>> ((1 : Int32) &&& 31)) h0 n0 ZH OO HW0 hj0 hjl) hZ (hw _ (List.mem_of_getElem? (i := 72) rfl)) (hw _ (List.mem_of_getElem? (i := 8) rfl)) (by decide) (by decide)) (g := (mkF m 5 #[.val (.int j), .val (.ref tb)] [(.int (nn >>> ((1 : Int32) &&& 31))), (.int j)])) rfl (by rw [hml]; rfl) (argsL := [(.int j), (.int (nn >>> ((1 : Int32) &&& 31)))]) (rest := []) (lenOf pd_1 rfl) rfl (by show 2 * 0 + _ ≤ _; exact Nat.le_of_eq rfl) (hb hby d24_5) (fun _ _ => ⟨rfl, e1, (by decide : 0 + 0 ≤ _), (by decide : 0 + 0 ≤ _)⟩)
  dsimp only [Pt.U, Pt.locs, Pt.cells, Pt.slots] at X2 l2 y2 z2 st2 hQ2
  subst l2 y2 z2
  obtain ⟨rfl, Nq2, e2⟩ := hQ2
  have N2 := Fr.app N1 Nq2
  refine own_up st2 ?_
  show own_Go p.tables e below _ (T2.setTop (mkF m 8 #[.val (.int j), .val (.ref tb)] []))
  obtain ⟨fs3, hr3, hrun3, hended3, hW3, hsame3⟩ := X2.leave (v := none) (fun _ => rfl)
  refine own_end ⟨_, _, ?_, hrun3, hended3, _, _, rfl, ?_, ⟨_, rfl⟩, hW3, hsame3.mono (by decide) (by decide)⟩
  · exact X2.returnOut hx Bd.returns (hb hby d24_8) hr3
  · show QrmUK Z cz fv tb nn f j h0 n0 _ T2.heap _
    rw [e2]
    exact ⟨rfl, N2, rfl⟩
theorem d22_0 : decode jdk_52_method_5_code 0 = .ok (.getstatic 44, 3) := by decide +kernel
theorem d22_3 : decode jdk_52_method_5_code 3 = .ok (.ifCond .ne 25, 3) := by decide +kernel
theorem d22_28 : decode jdk_52_method_5_code 28 = .ok (.iload_n 1, 1) := by decide +kernel
theorem d22_29 : decode jdk_52_method_5_code 29 = .ok (.iconst 1, 1) := by decide +kernel
theorem d22_30 : decode jdk_52_method_5_code 30 = .ok (.ishl, 1) := by decide +kernel
theorem d22_31 : decode jdk_52_method_5_code 31 = .ok (.istore_n 1, 1) := by decide +kernel
theorem d22_32 : decode jdk_52_method_5_code 32 = .ok (.aload_n 0, 1) := by decide +kernel
theorem d22_33 : decode jdk_52_method_5_code 33 = .ok (.iload_n 1, 1) := by decide +kernel
theorem d22_34 : decode jdk_52_method_5_code 34 = .ok (.iinc 1 1, 3) := by decide +kernel
theorem d22_37 : decode jdk_52_method_5_code 37 = .ok (.baload, 1) := by decide +kernel
theorem d22_38 : decode jdk_52_method_5_code 38 = .ok (.sipush 255, 3) := by decide +kernel
theorem d22_41 : decode jdk_52_method_5_code 41 = .ok (.iand, 1) := by decide +kernel
theorem d22_42 : decode jdk_52_method_5_code 42 = .ok (.getstatic 59, 3) := by decide +kernel
theorem d22_45 : decode jdk_52_method_5_code 45 = .ok (.ishl, 1) := by decide +kernel
theorem d22_46 : decode jdk_52_method_5_code 46 = .ok (.aload_n 0, 1) := by decide +kernel
theorem d22_47 : decode jdk_52_method_5_code 47 = .ok (.iload_n 1, 1) := by decide +kernel
theorem d22_48 : decode jdk_52_method_5_code 48 = .ok (.baload, 1) := by decide +kernel
theorem d22_49 : decode jdk_52_method_5_code 49 = .ok (.sipush 255, 3) := by decide +kernel
theorem d22_52 : decode jdk_52_method_5_code 52 = .ok (.iand, 1) := by decide +kernel
theorem d22_53 : decode jdk_52_method_5_code 53 = .ok (.getstatic 63, 3) := by decide +kernel
theorem d22_56 : decode jdk_52_method_5_code 56 = .ok (.ishl, 1) := by decide +kernel
theorem d22_57 : decode jdk_52_method_5_code 57 = .ok (.ior, 1) := by decide +kernel
theorem d22_58 : decode jdk_52_method_5_code 58 = .ok (.i2c, 1) := by decide +kernel
theorem d22_59 : decode jdk_52_method_5_code 59 = .ok (.ireturn, 1) := by decide +kernel
theorem ef_rmG (m : MethodId) (x0 : Addr) (x1 : Int32) : entryFrame m #[(.ref x0), (.int x1)] 2 = mkF m 0 #[.val (.ref x0), .val (.int x1)] [] := by first | (simp [entryFrame, mkF, argsToLocals, Value.category]; done) | rfl
def QrmG (Z : State) (cz : Int32) (fv : Value) (tb : Addr) (nn : Int32) (f : Nat → Value) (j : Int32) (jj : Int32) (ch : Int32) (h0 : Heap) (n0 : Nat) (v : Option Value) (h : Heap) (L : List Loc) : Prop := v = some (.int ch) ∧ Fr n0 L ∧ h = h0
set_option maxRecDepth 65536 in
set_option maxHeartbeats 40000000 in
theorem rmG (l : Launch) (Z : State) (a0 : Array Value) (hw : ∀ d ∈ tables_1, d.before a0 Z = true) (ws : List Jvm.Cond) (cz : Int32) (fv : Value) (tb : Addr) (nn : Int32) (f : Nat → Value) (j : Int32) (jj : Int32) (ch : Int32) (h0 : Heap) (n0 : Nat) (Z0 : n0 ≤ h0.size) (OO : Old Z n0 h0) (HW : own_W Z cz fv) (G_tb : own_Arf Z h0 tb .byte nn f) (hjj : (j <<< ((1 : Int32) &&& 31)) = jj) (hA : ¬ jj < 0 ∧ jj < nn) (hB : ¬ (jj + (1 : Int32)) < 0 ∧ (jj + (1 : Int32)) < nn) (hf1 : f jj.toNatClampNeg = .int (StrChars.lo8 ch)) (hf2 : f (jj + (1 : Int32)).toNatClampNeg = .int (StrChars.hi8 ch)) (hl : ¬ ch < 0) (hu : ¬ (65535 : Int32) < ch) :
    MetFree l (⟨"java/lang/StringUTF16", "getChar", "([BI)C"⟩ : MethodName) (head1 (Jvm.Cond.code (⟨"java/lang/StringUTF16", "getChar", "([BI)C"⟩ : MethodName) jdk_52_method_5_code 2 (some .char) :: ws) ({ frames := 0, cells := 0, slots := 0, locals := 0 } : Room)) (fun aq Uq => aq = #[(.ref tb), (.int j)] ∧ Z.Warmed39 Uq.vm ∧ Uq.heap = h0) (fun _ _ _ _ _ => True) (fun _ Uq oq Uq' => ∃ vq Lq, oq = .returned vq ∧ QrmG Z cz fv tb nn f j jj ch h0 n0 vq Uq'.heap Lq ∧ FrameEnd Uq oq Uq' Lq ({ frames := 0, cells := 0, slots := 0, locals := 0 } : Room).cells ({ frames := 0, cells := 0, slots := 0, locals := 0 } : Room).slots) := by
  refine MetFree.of_bodySF (plainFor_of_name pn_5) hisR ?_
  intro p e s m args below meth c s₁ Bd hml0 hP hK
  obtain ⟨rfl, hZ, hh⟩ := hP
  have hx := Bd.exec
  have hby := Bd.bytes
  have hml : c.maxLocals = 2 := hml0
  have hown : s.vm.findClass "java/lang/StringUTF16" = some m.cls := findClass_of_methodNamed Bd.named
  have hnm := (name_of_methodNamed Bd.named Bd.method).1
  have X0 : Stand p l e ({ frames := 0, cells := 0, slots := 0, locals := 0 } : Room) s m #[(.ref tb), (.int j)] below meth c s₁ [] 0 0 := Stand.of_body Bd
  have e0 : s₁.heap = h0 := by rw [← hh, Bd.state]; rfl
  have N0 := Fr.nil n0
  have ZH := Z0
  have KK := Keep.refl h0 []
  refine own_start (fun t kq => castTop (ef_rmG m tb j) kq) ?_
  show own_Go p.tables e below _ (s₁.setTop (mkF m 0 #[.val (.ref tb), .val (.int j)] []))
  have HW0 := HW
  obtain ⟨SC, hcz, SF, hfv, SA, SH, SL⟩ := HW
  obtain ⟨T1, X1, e1, st1⟩ := getS2 X0 hx hZ hown (host := "") (Or.inl (hw _ (List.mem_of_getElem? (i := 94) rfl))) Via.refl e0 (SA.ext OO.2) (g := (mkF m 0 #[.val (.ref tb), .val (.int j)] [])) rfl (hb hby d22_0)
  refine own_up st1 ?_
  show own_Go p.tables e below _ (T1.setTop (mkF m 3 #[.val (.ref tb), .val (.int j)] [(.int (1 : Int32))]))
  refine own_up (fun _ kq => XS.ifYes X1.here hx rfl (pc0 := 3) (pc' := 28) rfl (hb hby d22_3) rfl ((if0 _ _).trans (feq (by decide : ¬ ((1 : Int32) = (0 : Int32)))).2) (by decide) (by decide) kq) ?_
  show own_Go p.tables e below _ (T1.setTop (mkF m 28 #[.val (.ref tb), .val (.int j)] []))
  refine own_up (fun _ kq => XS.iloadN X1.here hx rfl (hb hby d22_28) rfl kq) ?_
  show own_Go p.tables e below _ (T1.setTop (mkF m 29 #[.val (.ref tb), .val (.int j)] [(.int j)]))
  refine own_up (fun _ kq => XS.iconst X1.here hx rfl (hb hby d22_29) kq) ?_
  show own_Go p.tables e below _ (T1.setTop (mkF m 30 #[.val (.ref tb), .val (.int j)] [(.int (1 : Int32)), (.int j)]))
  refine own_up (fun _ kq => XS.ishl X1.here hx rfl (hb hby d22_30) rfl kq) ?_
  show own_Go p.tables e below _ (T1.setTop (mkF m 31 #[.val (.ref tb), .val (.int j)] [(.int (j <<< ((1 : Int32) &&& 31)))]))
  rw [hjj]
  show own_Go p.tables e below _ (T1.setTop (mkF m 31 #[.val (.ref tb), .val (.int j)] [(.int jj)]))
  refine own_up (fun _ kq => XS.istoreN X1.here hx rfl (hb hby d22_31) rfl (l' := #[.val (.ref tb), .val (.int jj)]) rfl kq) ?_
  show own_Go p.tables e below _ (T1.setTop (mkF m 32 #[.val (.ref tb), .val (.int jj)] []))
  refine own_up (fun _ kq => XS.aloadN X1.here hx rfl (hb hby d22_32) rfl rfl kq) ?_
  show own_Go p.tables e below _ (T1.setTop (mkF m 33 #[.val (.ref tb), .val (.int jj)] [(.ref tb)]))
  refine own_up (fun _ kq => XS.iloadN X1.here hx rfl (hb hby d22_33) rfl kq) ?_
  show own_Go p.tables e below _ (T1.setTop (mkF m 34 #[.val (.ref tb), .val (.int jj)] [(.int jj), (.ref tb)]))
  refine own_up (fun _ kq => XS.iinc X1.here hx rfl (hb hby d22_34) rfl (l' := #[.val (.ref tb), .val (.int (jj + (1 : Int32)))]) rfl kq) ?_
  show own_Go p.tables e below _ (T1.setTop (mkF m 37 #[.val (.ref tb), .val (.int (jj + (1 : Int32)))] [(.int jj), (.ref tb)]))
  refine own_up (fun _ kq => own_Arf.baload G_tb X1 hx hZ e1 hA.1 hA.2 (v := (.int (StrChars.lo8 ch))) hf1 (g := (mkF m 37 #[.val (.ref tb), .val (.int (jj + (1 : Int32)))] [(.int jj), (.ref tb)])) rfl rfl (hb hby d22_37) _ kq) ?_
  show own_Go p.tables e below _ (T1.setTop (mkF m 38 #[.val (.ref tb), .val (.int (jj + (1 : Int32)))] [(.int (StrChars.lo8 ch))]))
  refine own_up (fun _ kq => XS.sipush X1.here hx rfl (hb hby d22_38) kq) ?_
  show own_Go p.tables e below _ (T1.setTop (mkF m 41 #[.val (.ref tb), .val (.int (jj + (1 : Int32)))] [(.int (255 : Int32)), (.int (StrChars.lo8 ch))]))
  refine own_up (fun _ kq => XS.iand X1.here hx rfl (hb hby d22_41) rfl kq) ?_
  show own_Go p.tables e below _ (T1.setTop (mkF m 42 #[.val (.ref tb), .val (.int (jj + (1 : Int32)))] [(.int ((StrChars.lo8 ch) &&& (255 : Int32)))]))
  obtain ⟨T2, X2, e2, st2⟩ := getS2 X1 hx hZ hown (host := "") (Or.inl (hw _ (List.mem_of_getElem? (i := 95) rfl))) Via.refl e1 (SH.ext OO.2) (g := (mkF m 42 #[.val (.ref tb), .val (.int (jj + (1 : Int32)))] [(.int ((StrChars.lo8 ch) &&& (255 : Int32)))])) rfl (hb hby d22_42)
  refine own_up st2 ?_
  show own_Go p.tables e below _ (T2.setTop (mkF m 45 #[.val (.ref tb), .val (.int (jj + (1 : Int32)))] [(.int (0 : Int32)), (.int ((StrChars.lo8 ch) &&& (255 : Int32)))]))
  refine own_up (fun _ kq => XS.ishl X2.here hx rfl (hb hby d22_45) rfl kq) ?_
  show own_Go p.tables e below _ (T2.setTop (mkF m 46 #[.val (.ref tb), .val (.int (jj + (1 : Int32)))] [(.int (((StrChars.lo8 ch) &&& (255 : Int32)) <<< ((0 : Int32) &&& 31)))]))
  refine own_up (fun _ kq => XS.aloadN X2.here hx rfl (hb hby d22_46) rfl rfl kq) ?_
  show own_Go p.tables e below _ (T2.setTop (mkF m 47 #[.val (.ref tb), .val (.int (jj + (1 : Int32)))] [(.ref tb), (.int (((StrChars.lo8 ch) &&& (255 : Int32)) <<< ((0 : Int32) &&& 31)))]))
  refine own_up (fun _ kq => XS.iloadN X2.here hx rfl (hb hby d22_47) rfl kq) ?_
  show own_Go p.tables e below _ (T2.setTop (mkF m 48 #[.val (.ref tb), .val (.int (jj + (1 : Int32)))] [(.int (jj + (1 : Int32))), (.ref tb), (.int (((StrChars.lo8 ch) &&& (255 : Int32)) <<< ((0 : Int32) &&& 31)))]))
  refine own_up (fun _ kq => own_Arf.baload G_tb X2 hx hZ e2 hB.1 hB.2 (v := (.int (StrChars.hi8 ch))) hf2 (g := (mkF m 48 #[.val (.ref tb), .val (.int (jj + (1 : Int32)))] [(.int (jj + (1 : Int32))), (.ref tb), (.int (((StrChars.lo8 ch) &&& (255 : Int32)) <<< ((0 : Int32) &&& 31)))])) rfl rfl (hb hby d22_48) _ kq) ?_
  show own_Go p.tables e below _ (T2.setTop (mkF m 49 #[.val (.ref tb), .val (.int (jj + (1 : Int32)))] [(.int (StrChars.hi8 ch)), (.int (((StrChars.lo8 ch) &&& (255 : Int32)) <<< ((0 : Int32) &&& 31)))]))
  refine own_up (fun _ kq => XS.sipush X2.here hx rfl (hb hby d22_49) kq) ?_
  show own_Go p.tables e below _ (T2.setTop (mkF m 52 #[.val (.ref tb), .val (.int (jj + (1 : Int32)))] [(.int (255 : Int32)), (.int (StrChars.hi8 ch)), (.int (((StrChars.lo8 ch) &&& (255 : Int32)) <<< ((0 : Int32) &&& 31)))]))
  refine own_up (fun _ kq => XS.iand X2.here hx rfl (hb hby d22_52) rfl kq) ?_
  show own_Go p.tables e below _ (T2.setTop (mkF m 53 #[.val (.ref tb), .val (.int (jj + (1 : Int32)))] [(.int ((StrChars.hi8 ch) &&& (255 : Int32))), (.int (((StrChars.lo8 ch) &&& (255 : Int32)) <<< ((0 : Int32) &&& 31)))]))
  obtain ⟨T3, X3, e3, st3⟩ := getS2 X2 hx hZ hown (host := "") (Or.inl (hw _ (List.mem_of_getElem? (i := 96) rfl))) Via.refl e2 (SL.ext OO.2) (g := (mkF m 53 #[.val (.ref tb), .val (.int (jj + (1 : Int32)))] [(.int ((StrChars.hi8 ch) &&& (255 : Int32))), (.int (((StrChars.lo8 ch) &&& (255 : Int32)) <<< ((0 : Int32) &&& 31)))])) rfl (hb hby d22_53)
  refine own_up st3 ?_
  show own_Go p.tables e below _ (T3.setTop (mkF m 56 #[.val (.ref tb), .val (.int (jj + (1 : Int32)))] [(.int (8 : Int32)), (.int ((StrChars.hi8 ch) &&& (255 : Int32))), (.int (((StrChars.lo8 ch) &&& (255 : Int32)) <<< ((0 : Int32) &&& 31)))]))
  refine own_up (fun _ kq => XS.ishl X3.here hx rfl (hb hby d22_56) rfl kq) ?_
  show own_Go p.tables e below _ (T3.setTop (mkF m 57 #[.val (.ref tb), .val (.int (jj + (1 : Int32)))] [(.int (((StrChars.hi8 ch) &&& (255 : Int32)) <<< ((8 : Int32) &&& 31))), (.int (((StrChars.lo8 ch) &&& (255 : Int32)) <<< ((0 : Int32) &&& 31)))]))
  refine own_up (fun _ kq => XS.ior X3.here hx rfl (hb hby d22_57) rfl kq) ?_
  show own_Go p.tables e below _ (T3.setTop (mkF m 58 #[.val (.ref tb), .val (.int (jj + (1 : Int32)))] [(.int ((((StrChars.lo8 ch) &&& (255 : Int32)) <<< ((0 : Int32) &&& 31)) ||| (((StrChars.hi8 ch) &&& (255 : Int32)) <<< ((8 : Int32) &&& 31))))]))
  refine own_up (fun _ kq => XS.i2c X3.here hx rfl (hb hby d22_58) rfl kq) ?_
  show own_Go p.tables e below _ (T3.setTop (mkF m 59 #[.val (.ref tb), .val (.int (jj + (1 : Int32)))] [(.int ((((StrChars.lo8 ch) &&& (255 : Int32)) <<< ((0 : Int32) &&& 31)) ||| (((StrChars.hi8 ch) &&& (255 : Int32)) <<< ((8 : Int32) &&& 31))).toUInt32.toUInt16.toUInt32.toInt32)]))
  obtain ⟨fs4, hr4, hrun4, hended4, hW4, hsame4⟩ := X3.leave (v := some (.int (nar .char ((((StrChars.lo8 ch) &&& (255 : Int32)) <<< ((0 : Int32) &&& 31)) ||| (((StrChars.hi8 ch) &&& (255 : Int32)) <<< ((8 : Int32) &&& 31))).toUInt32.toUInt16.toUInt32.toInt32))) (fun h => by rw [Bd.returns] at h; cases h)
  refine own_end ⟨_, _, ?_, hrun4, hended4, _, _, rfl, ?_, ⟨_, rfl⟩, hW4, hsame4.mono (by decide) (by decide)⟩
  · exact retN X3 hx (t := .char) Bd.returns (by simp) (hb hby d22_59) hr4
  · show QrmG Z cz fv tb nn f j jj ch h0 n0 _ T3.heap _
    rw [e3]
    exact ⟨congrArg (fun z => some (Value.int z)) (own_cl16 hl hu), N0, rfl⟩
theorem d23_0 : decode jdk_52_method_83_code 0 = .ok (.iload_n 1, 1) := by decide +kernel
theorem d23_1 : decode jdk_52_method_83_code 1 = .ok (.aload_n 0, 1) := by decide +kernel
theorem d23_2 : decode jdk_52_method_83_code 2 = .ok (.invokestatic 67, 3) := by decide +kernel
theorem pd_3 : parseMethodDescriptor "(I[B)V" = some ⟨[.int, (.array .byte)], none⟩ := by decide +kernel
theorem d23_5 : decode jdk_52_method_83_code 5 = .ok (.aload_n 0, 1) := by decide +kernel
theorem d23_6 : decode jdk_52_method_83_code 6 = .ok (.iload_n 1, 1) := by decide +kernel
theorem d23_7 : decode jdk_52_method_83_code 7 = .ok (.invokestatic 71, 3) := by decide +kernel
theorem pd_4 : parseMethodDescriptor "([BI)C" = some ⟨[(.array .byte), .int], some .char⟩ := by decide +kernel
theorem d23_10 : decode jdk_52_method_83_code 10 = .ok (.ireturn, 1) := by decide +kernel
theorem ef_rmUC (m : MethodId) (x0 : Addr) (x1 : Int32) : entryFrame m #[(.ref x0), (.int x1)] 2 = mkF m 0 #[.val (.ref x0), .val (.int x1)] [] := by first | (simp [entryFrame, mkF, argsToLocals, Value.category]; done) | rfl
def QrmUC (Z : State) (cz : Int32) (fv : Value) (tb : Addr) (nn : Int32) (f : Nat → Value) (j : Int32) (jj : Int32) (ch : Int32) (h0 : Heap) (n0 : Nat) (v : Option Value) (h : Heap) (L : List Loc) : Prop := v = some (.int ch) ∧ Fr n0 L ∧ h = h0
set_option maxRecDepth 65536 in
set_option maxHeartbeats 40000000 in
theorem rmUC (l : Launch) (Z : State) (a0 : Array Value) (hw : ∀ d ∈ tables_1, d.before a0 Z = true) (ws : List Jvm.Cond) (cz : Int32) (fv : Value) (tb : Addr) (nn : Int32) (f : Nat → Value) (j : Int32) (jj : Int32) (ch : Int32) (h0 : Heap) (n0 : Nat) (Z0 : n0 ≤ h0.size) (OO : Old Z n0 h0) (HW : own_W Z cz fv) (G_tb : own_Arf Z h0 tb .byte nn f) (hj0 : ¬ j < 0) (hjl : j < (nn >>> ((1 : Int32) &&& 31))) (hjj : (j <<< ((1 : Int32) &&& 31)) = jj) (hA : ¬ jj < 0 ∧ jj < nn) (hB : ¬ (jj + (1 : Int32)) < 0 ∧ (jj + (1 : Int32)) < nn) (hf1 : f jj.toNatClampNeg = .int (StrChars.lo8 ch)) (hf2 : f (jj + (1 : Int32)).toNatClampNeg = .int (StrChars.hi8 ch)) (hl : ¬ ch < 0) (hu : ¬ (65535 : Int32) < ch) :
    MetFree l (⟨"java/lang/StringUTF16", "charAt", "([BI)C"⟩ : MethodName) (head1 (Jvm.Cond.code (⟨"java/lang/StringUTF16", "charAt", "([BI)C"⟩ : MethodName) jdk_52_method_83_code 2 (some .char) :: ws) ({ frames := 3, cells := 0, slots := 0, locals := 40 } : Room)) (fun aq Uq => aq = #[(.ref tb), (.int j)] ∧ Z.Warmed39 Uq.vm ∧ Uq.heap = h0) (fun _ _ _ _ _ => True) (fun _ Uq oq Uq' => ∃ vq Lq, oq = .returned vq ∧ QrmUC Z cz fv tb nn f j jj ch h0 n0 vq Uq'.heap Lq ∧ FrameEnd Uq oq Uq' Lq ({ frames := 3, cells := 0, slots := 0, locals := 40 } : Room).cells ({ frames := 3, cells := 0, slots := 0, locals := 40 } : Room).slots) := by
  refine MetFree.of_bodySF (plainFor_of_name pn_5) hisR ?_
  intro p e s m args below meth c s₁ Bd hml0 hP hK
  obtain ⟨rfl, hZ, hh⟩ := hP
  have hx := Bd.exec
  have hby := Bd.bytes
  have hml : c.maxLocals = 2 := hml0
  have hown : s.vm.findClass "java/lang/StringUTF16" = some m.cls := findClass_of_methodNamed Bd.named
  have hnm := (name_of_methodNamed Bd.named Bd.method).1
  have X0 : Stand p l e ({ frames := 3, cells := 0, slots := 0, locals := 40 } : Room) s m #[(.ref tb), (.int j)] below meth c s₁ [] 0 0 := Stand.of_body Bd
  have e0 : s₁.heap = h0 := by rw [← hh, Bd.state]; rfl
  have N0 := Fr.nil n0
  have ZH := Z0
  have KK := Keep.refl h0 []
  refine own_start (fun t kq => castTop (ef_rmUC m tb j) kq) ?_
  show own_Go p.tables e below _ (s₁.setTop (mkF m 0 #[.val (.ref tb), .val (.int j)] []))
  have HW0 := HW
  obtain ⟨SC, hcz, SF, hfv, SA, SH, SL⟩ := HW
  refine own_up (fun _ kq => XS.iloadN X0.here hx rfl (hb hby d23_0) rfl kq) ?_
  show own_Go p.tables e below _ (s₁.setTop (mkF m 1 #[.val (.ref tb), .val (.int j)] [(.int j)]))
  refine own_up (fun _ kq => XS.aloadN X0.here hx rfl (hb hby d23_1) rfl rfl kq) ?_
  show own_Go p.tables e below _ (s₁.setTop (mkF m 2 #[.val (.ref tb), .val (.int j)] [(.ref tb), (.int j)]))
  obtain ⟨_, _, ⟨T1, L1, k1, n1⟩, -, X1, ⟨Lc1, hQ1, l1, y1, z1⟩, st1⟩ := Jvm.LawKit.callS X0 hx (y := (⟨"java/lang/StringUTF16", "checkIndex", "(I[B)V"⟩ : MethodName)) hown (mvT hZ (hw _ (List.mem_of_getElem? (i := 103) rfl))) (mvT hZ (hw _ (List.mem_of_getElem? (i := 104) rfl))) (mvT hZ (hw _ (List.mem_of_getElem? (i := 45) rfl))) (mvT hZ (hw _ (List.mem_of_getElem? (i := 105) rfl))) (by decide) (backOf (W := 0) (rmUK l Z a0 hw [] cz fv tb nn f j h0 n0 ZH OO HW0 G_tb hj0 hjl) hZ (hw _ (List.mem_of_getElem? (i := 105) rfl)) (hw _ (List.mem_of_getElem? (i := 45) rfl)) (by decide) (by decide)) (g := (mkF m 2 #[.val (.ref tb), .val (.int j)] [(.ref tb), (.int j)])) rfl (by rw [hml]; rfl) (argsL := [(.int j), (.ref tb)]) (rest := []) (lenOf pd_3 rfl) rfl (by show 2 * 0 + _ ≤ _; exact Nat.le_of_eq rfl) (hb hby d23_2) (fun _ _ => ⟨rfl, e0, (by decide : 0 + 0 ≤ _), (by decide : 0 + 0 ≤ _)⟩)
  dsimp only [Pt.U, Pt.locs, Pt.cells, Pt.slots] at X1 l1 y1 z1 st1 hQ1
  subst l1 y1 z1
  obtain ⟨rfl, Nq1, e1⟩ := hQ1
  have N1 := Fr.app N0 Nq1
  refine own_up st1 ?_
  show own_Go p.tables e below _ (T1.setTop (mkF m 5 #[.val (.ref tb), .val (.int j)] []))
  refine own_up (fun _ kq => XS.aloadN X1.here hx rfl (hb hby d23_5) rfl rfl kq) ?_
  show own_Go p.tables e below _ (T1.setTop (mkF m 6 #[.val (.ref tb), .val (.int j)] [(.ref tb)]))
  refine own_up (fun _ kq => XS.iloadN X1.here hx rfl (hb hby d23_6) rfl kq) ?_
  show own_Go p.tables e below _ (T1.setTop (mkF m 7 #[.val (.ref tb), .val (.int j)] [(.int j), (.ref tb)]))
  obtain ⟨_, _, ⟨T2, L2, k2, n2⟩, -, X2, ⟨Lc2, hQ2, l2, y2, z2⟩, st2⟩ := Jvm.LawKit.callS X1 hx (y := (⟨"java/lang/StringUTF16", "getChar", "([BI)C"⟩ : MethodName)) hown (mvT hZ (hw _ (List.mem_of_getElem? (i := 97) rfl))) (mvT hZ (hw _ (List.mem_of_getElem? (i := 98) rfl))) (mvT hZ (hw _ (List.mem_of_getElem? (i := 45) rfl))) (mvT hZ (hw _ (List.mem_of_getElem? (i := 99) rfl))) (by decide) (backOf (W := 0) (rmG l Z a0 hw [] cz fv tb nn f j jj ch h0 n0 ZH OO HW0 G_tb hjj hA hB hf1 hf2 hl hu) hZ (hw _ (List.mem_of_getElem? (i := 99) rfl)) (hw _ (List.mem_of_getElem? (i := 45) rfl)) (by decide) (by decide)) (g := (mkF m 7 #[.val (.ref tb), .val (.int j)] [(.int j), (.ref tb)])) rfl (by rw [hml]; rfl) (argsL := [(.ref tb), (.int j)]) (rest := []) (lenOf pd_4 rfl) rfl (by show 2 * 0 + _ ≤ _; exact Nat.le_of_eq rfl) (hb hby d23_7) (fun _ _ => ⟨rfl, e1, (by decide : 0 + 0 ≤ _), (by decide : 0 + 0 ≤ _)⟩)
  dsimp only [Pt.U, Pt.locs, Pt.cells, Pt.slots] at X2 l2 y2 z2 st2 hQ2
  subst l2 y2 z2
  obtain ⟨rfl, Nq2, e2⟩ := hQ2
  have N2 := Fr.app N1 Nq2
  refine own_up st2 ?_
  show own_Go p.tables e below _ (T2.setTop (mkF m 10 #[.val (.ref tb), .val (.int j)] [(.int ch)]))
  obtain ⟨fs3, hr3, hrun3, hended3, hW3, hsame3⟩ := X2.leave (v := some (.int (nar .char ch))) (fun h => by rw [Bd.returns] at h; cases h)
  refine own_end ⟨_, _, ?_, hrun3, hended3, _, _, rfl, ?_, ⟨_, rfl⟩, hW3, hsame3.mono (by decide) (by decide)⟩
  · exact retN X2 hx (t := .char) Bd.returns (by simp) (hb hby d23_10) hr3
  · show QrmUC Z cz fv tb nn f j jj ch h0 n0 _ T2.heap _
    rw [e2]
    exact ⟨congrArg (fun z => some (Value.int z)) (own_narc hl hu), N2, rfl⟩
theorem d21_0 : decode jdk_52_method_4_code 0 = .ok (.getstatic 44, 3) := by decide +kernel
theorem d21_3 : decode jdk_52_method_4_code 3 = .ok (.ifCond .ne 25, 3) := by decide +kernel
theorem d21_28 : decode jdk_52_method_4_code 28 = .ok (.iload_n 1, 1) := by decide +kernel
theorem d21_29 : decode jdk_52_method_4_code 29 = .ok (.iconst 1, 1) := by decide +kernel
theorem d21_30 : decode jdk_52_method_4_code 30 = .ok (.ishl, 1) := by decide +kernel
theorem d21_31 : decode jdk_52_method_4_code 31 = .ok (.istore_n 1, 1) := by decide +kernel
theorem d21_32 : decode jdk_52_method_4_code 32 = .ok (.aload_n 0, 1) := by decide +kernel
theorem d21_33 : decode jdk_52_method_4_code 33 = .ok (.iload_n 1, 1) := by decide +kernel
theorem d21_34 : decode jdk_52_method_4_code 34 = .ok (.iinc 1 1, 3) := by decide +kernel
theorem d21_37 : decode jdk_52_method_4_code 37 = .ok (.iload_n 2, 1) := by decide +kernel
theorem d21_38 : decode jdk_52_method_4_code 38 = .ok (.getstatic 59, 3) := by decide +kernel
theorem d21_41 : decode jdk_52_method_4_code 41 = .ok (.ishr, 1) := by decide +kernel
theorem d21_42 : decode jdk_52_method_4_code 42 = .ok (.i2b, 1) := by decide +kernel
theorem d21_43 : decode jdk_52_method_4_code 43 = .ok (.bastore, 1) := by decide +kernel
theorem d21_44 : decode jdk_52_method_4_code 44 = .ok (.aload_n 0, 1) := by decide +kernel
theorem d21_45 : decode jdk_52_method_4_code 45 = .ok (.iload_n 1, 1) := by decide +kernel
theorem d21_46 : decode jdk_52_method_4_code 46 = .ok (.iload_n 2, 1) := by decide +kernel
theorem d21_47 : decode jdk_52_method_4_code 47 = .ok (.getstatic 63, 3) := by decide +kernel
theorem d21_50 : decode jdk_52_method_4_code 50 = .ok (.ishr, 1) := by decide +kernel
theorem d21_51 : decode jdk_52_method_4_code 51 = .ok (.i2b, 1) := by decide +kernel
theorem d21_52 : decode jdk_52_method_4_code 52 = .ok (.bastore, 1) := by decide +kernel
theorem d21_53 : decode jdk_52_method_4_code 53 = .ok (.return_, 1) := by decide +kernel
theorem ef_rmP (m : MethodId) (x0 : Addr) (x1 : Int32) (x2 : Int32) : entryFrame m #[(.ref x0), (.int x1), (.int x2)] 3 = mkF m 0 #[.val (.ref x0), .val (.int x1), .val (.int x2)] [] := by first | (simp [entryFrame, mkF, argsToLocals, Value.category]; done) | rfl
def QrmP (Z : State) (cz : Int32) (fv : Value) (tb : Addr) (nn : Int32) (u : Nat → Int32) (j : Int32) (jj : Int32) (ch : Int32) (h0 : Heap) (n0 : Nat) (v : Option Value) (h : Heap) (L : List Loc) : Prop := v = none ∧ Fr n0 L ∧ Keep h0 h [tb] ∧ own_Arf Z h tb .byte nn (fun i => .int ((own_upd (own_upd u jj (StrChars.lo8 ch)) (jj + (1 : Int32)) (StrChars.hi8 ch)) i))
set_option maxRecDepth 65536 in
set_option maxHeartbeats 40000000 in
theorem rmP (l : Launch) (Z : State) (a0 : Array Value) (hw : ∀ d ∈ tables_1, d.before a0 Z = true) (ws : List Jvm.Cond) (cz : Int32) (fv : Value) (tb : Addr) (nn : Int32) (u : Nat → Int32) (j : Int32) (jj : Int32) (ch : Int32) (h0 : Heap) (n0 : Nat) (Z0 : n0 ≤ h0.size) (OO : Old Z n0 h0) (HW : own_W Z cz fv) (G_tb : own_Arf Z h0 tb .byte nn (fun i => .int (u i))) (g_tb : n0 ≤ tb) (hjj : (j <<< ((1 : Int32) &&& 31)) = jj) (hA : ¬ jj < 0 ∧ jj < nn) (hB : ¬ (jj + (1 : Int32)) < 0 ∧ (jj + (1 : Int32)) < nn) :
    MetFree l (⟨"java/lang/StringUTF16", "putChar", "([BII)V"⟩ : MethodName) (head1 (Jvm.Cond.code (⟨"java/lang/StringUTF16", "putChar", "([BII)V"⟩ : MethodName) jdk_52_method_4_code 3 none :: ws) ({ frames := 0, cells := 0, slots := 0, locals := 0 } : Room)) (fun aq Uq => aq = #[(.ref tb), (.int j), (.int ch)] ∧ Z.Warmed39 Uq.vm ∧ Uq.heap = h0) (fun _ _ _ _ _ => True) (fun _ Uq oq Uq' => ∃ vq Lq, oq = .returned vq ∧ QrmP Z cz fv tb nn u j jj ch h0 n0 vq Uq'.heap Lq ∧ FrameEnd Uq oq Uq' Lq ({ frames := 0, cells := 0, slots := 0, locals := 0 } : Room).cells ({ frames := 0, cells := 0, slots := 0, locals := 0 } : Room).slots) := by
  refine MetFree.of_bodySF (plainFor_of_name pn_5) hisR ?_
  intro p e s m args below meth c s₁ Bd hml0 hP hK
  obtain ⟨rfl, hZ, hh⟩ := hP
  have hx := Bd.exec
  have hby := Bd.bytes
  have hml : c.maxLocals = 3 := hml0
  have hown : s.vm.findClass "java/lang/StringUTF16" = some m.cls := findClass_of_methodNamed Bd.named
  have hnm := (name_of_methodNamed Bd.named Bd.method).1
  have X0 : Stand p l e ({ frames := 0, cells := 0, slots := 0, locals := 0 } : Room) s m #[(.ref tb), (.int j), (.int ch)] below meth c s₁ [] 0 0 := Stand.of_body Bd
  have e0 : s₁.heap = h0 := by rw [← hh, Bd.state]; rfl
  have N0 := Fr.nil n0
  have ZH := Z0
  have KK := Keep.refl h0 [tb]
  refine own_start (fun t kq => castTop (ef_rmP m tb j ch) kq) ?_
  show own_Go p.tables e below _ (s₁.setTop (mkF m 0 #[.val (.ref tb), .val (.int j), .val (.int ch)] []))
  have HW0 := HW
  obtain ⟨SC, hcz, SF, hfv, SA, SH, SL⟩ := HW
  obtain ⟨T1, X1, e1, st1⟩ := getS2 X0 hx hZ hown (host := "") (Or.inl (hw _ (List.mem_of_getElem? (i := 94) rfl))) Via.refl e0 (SA.ext OO.2) (g := (mkF m 0 #[.val (.ref tb), .val (.int j), .val (.int ch)] [])) rfl (hb hby d21_0)
  refine own_up st1 ?_
  show own_Go p.tables e below _ (T1.setTop (mkF m 3 #[.val (.ref tb), .val (.int j), .val (.int ch)] [(.int (1 : Int32))]))
  refine own_up (fun _ kq => XS.ifYes X1.here hx rfl (pc0 := 3) (pc' := 28) rfl (hb hby d21_3) rfl ((if0 _ _).trans (feq (by decide : ¬ ((1 : Int32) = (0 : Int32)))).2) (by decide) (by decide) kq) ?_
  show own_Go p.tables e below _ (T1.setTop (mkF m 28 #[.val (.ref tb), .val (.int j), .val (.int ch)] []))
  refine own_up (fun _ kq => XS.iloadN X1.here hx rfl (hb hby d21_28) rfl kq) ?_
  show own_Go p.tables e below _ (T1.setTop (mkF m 29 #[.val (.ref tb), .val (.int j), .val (.int ch)] [(.int j)]))
  refine own_up (fun _ kq => XS.iconst X1.here hx rfl (hb hby d21_29) kq) ?_
  show own_Go p.tables e below _ (T1.setTop (mkF m 30 #[.val (.ref tb), .val (.int j), .val (.int ch)] [(.int (1 : Int32)), (.int j)]))
  refine own_up (fun _ kq => XS.ishl X1.here hx rfl (hb hby d21_30) rfl kq) ?_
  show own_Go p.tables e below _ (T1.setTop (mkF m 31 #[.val (.ref tb), .val (.int j), .val (.int ch)] [(.int (j <<< ((1 : Int32) &&& 31)))]))
  rw [hjj]
  show own_Go p.tables e below _ (T1.setTop (mkF m 31 #[.val (.ref tb), .val (.int j), .val (.int ch)] [(.int jj)]))
  refine own_up (fun _ kq => XS.istoreN X1.here hx rfl (hb hby d21_31) rfl (l' := #[.val (.ref tb), .val (.int jj), .val (.int ch)]) rfl kq) ?_
  show own_Go p.tables e below _ (T1.setTop (mkF m 32 #[.val (.ref tb), .val (.int jj), .val (.int ch)] []))
  refine own_up (fun _ kq => XS.aloadN X1.here hx rfl (hb hby d21_32) rfl rfl kq) ?_
  show own_Go p.tables e below _ (T1.setTop (mkF m 33 #[.val (.ref tb), .val (.int jj), .val (.int ch)] [(.ref tb)]))
  refine own_up (fun _ kq => XS.iloadN X1.here hx rfl (hb hby d21_33) rfl kq) ?_
  show own_Go p.tables e below _ (T1.setTop (mkF m 34 #[.val (.ref tb), .val (.int jj), .val (.int ch)] [(.int jj), (.ref tb)]))
  refine own_up (fun _ kq => XS.iinc X1.here hx rfl (hb hby d21_34) rfl (l' := #[.val (.ref tb), .val (.int (jj + (1 : Int32))), .val (.int ch)]) rfl kq) ?_
  show own_Go p.tables e below _ (T1.setTop (mkF m 37 #[.val (.ref tb), .val (.int (jj + (1 : Int32))), .val (.int ch)] [(.int jj), (.ref tb)]))
  refine own_up (fun _ kq => XS.iloadN X1.here hx rfl (hb hby d21_37) rfl kq) ?_
  show own_Go p.tables e below _ (T1.setTop (mkF m 38 #[.val (.ref tb), .val (.int (jj + (1 : Int32))), .val (.int ch)] [(.int ch), (.int jj), (.ref tb)]))
  obtain ⟨T2, X2, e2, st2⟩ := getS2 X1 hx hZ hown (host := "") (Or.inl (hw _ (List.mem_of_getElem? (i := 95) rfl))) Via.refl e1 (SH.ext OO.2) (g := (mkF m 38 #[.val (.ref tb), .val (.int (jj + (1 : Int32))), .val (.int ch)] [(.int ch), (.int jj), (.ref tb)])) rfl (hb hby d21_38)
  refine own_up st2 ?_
  show own_Go p.tables e below _ (T2.setTop (mkF m 41 #[.val (.ref tb), .val (.int (jj + (1 : Int32))), .val (.int ch)] [(.int (0 : Int32)), (.int ch), (.int jj), (.ref tb)]))
  refine own_up (fun _ kq => XS.ishr X2.here hx rfl (hb hby d21_41) rfl kq) ?_
  show own_Go p.tables e below _ (T2.setTop (mkF m 42 #[.val (.ref tb), .val (.int (jj + (1 : Int32))), .val (.int ch)] [(.int (ch >>> ((0 : Int32) &&& 31))), (.int jj), (.ref tb)]))
  refine own_up (fun _ kq => XS.i2b X2.here hx rfl (hb hby d21_42) rfl kq) ?_
  show own_Go p.tables e below _ (T2.setTop (mkF m 43 #[.val (.ref tb), .val (.int (jj + (1 : Int32))), .val (.int ch)] [(.int (ch >>> ((0 : Int32) &&& 31)).toInt8.toInt32), (.int jj), (.ref tb)]))
  obtain ⟨cl3, Ar3, sz3, nz3, hc3⟩ := id G_tb
  obtain ⟨T3, h3, X3, e3, W3, st3⟩ := stB X2 hx hZ e2 Ar3 (j := jj) (inb_of sz3 ⟨hA.1, hA.2⟩) (g := (mkF m 43 #[.val (.ref tb), .val (.int (jj + (1 : Int32))), .val (.int ch)] [(.int (ch >>> ((0 : Int32) &&& 31)).toInt8.toInt32), (.int jj), (.ref tb)])) rfl rfl (hb hby d21_43)
  have G_tb : own_Arf Z h3 tb .byte nn (fun i => .int ((own_upd u jj (nar .byte (ch >>> ((0 : Int32) &&& 31)).toInt8.toInt32)) i)) := own_Arf.setI G_tb W3
  have N3 := Fr.snoc X3 N0 g_tb
  have ZH := Nat.le_trans ZH (Nat.le_of_eq W3.size.symm)
  have KK := KK.wr W3 (Or.inl (List.mem_of_getElem? (i := 0) rfl))
  have OO := OO.wr W3 g_tb
  refine own_up st3 ?_
  show own_Go p.tables e below _ (T3.setTop (mkF m 44 #[.val (.ref tb), .val (.int (jj + (1 : Int32))), .val (.int ch)] []))
  refine own_up (fun _ kq => XS.aloadN X3.here hx rfl (hb hby d21_44) rfl rfl kq) ?_
  show own_Go p.tables e below _ (T3.setTop (mkF m 45 #[.val (.ref tb), .val (.int (jj + (1 : Int32))), .val (.int ch)] [(.ref tb)]))
  refine own_up (fun _ kq => XS.iloadN X3.here hx rfl (hb hby d21_45) rfl kq) ?_
  show own_Go p.tables e below _ (T3.setTop (mkF m 46 #[.val (.ref tb), .val (.int (jj + (1 : Int32))), .val (.int ch)] [(.int (jj + (1 : Int32))), (.ref tb)]))
  refine own_up (fun _ kq => XS.iloadN X3.here hx rfl (hb hby d21_46) rfl kq) ?_
  show own_Go p.tables e below _ (T3.setTop (mkF m 47 #[.val (.ref tb), .val (.int (jj + (1 : Int32))), .val (.int ch)] [(.int ch), (.int (jj + (1 : Int32))), (.ref tb)]))
  obtain ⟨T4, X4, e4, st4⟩ := getS2 X3 hx hZ hown (host := "") (Or.inl (hw _ (List.mem_of_getElem? (i := 96) rfl))) Via.refl e3 (SL.ext OO.2) (g := (mkF m 47 #[.val (.ref tb), .val (.int (jj + (1 : Int32))), .val (.int ch)] [(.int ch), (.int (jj + (1 : Int32))), (.ref tb)])) rfl (hb hby d21_47)
  refine own_up st4 ?_
  show own_Go p.tables e below _ (T4.setTop (mkF m 50 #[.val (.ref tb), .val (.int (jj + (1 : Int32))), .val (.int ch)] [(.int (8 : Int32)), (.int ch), (.int (jj + (1 : Int32))), (.ref tb)]))
  refine own_up (fun _ kq => XS.ishr X4.here hx rfl (hb hby d21_50) rfl kq) ?_
  show own_Go p.tables e below _ (T4.setTop (mkF m 51 #[.val (.ref tb), .val (.int (jj + (1 : Int32))), .val (.int ch)] [(.int (ch >>> ((8 : Int32) &&& 31))), (.int (jj + (1 : Int32))), (.ref tb)]))
  refine own_up (fun _ kq => XS.i2b X4.here hx rfl (hb hby d21_51) rfl kq) ?_
  show own_Go p.tables e below _ (T4.setTop (mkF m 52 #[.val (.ref tb), .val (.int (jj + (1 : Int32))), .val (.int ch)] [(.int (ch >>> ((8 : Int32) &&& 31)).toInt8.toInt32), (.int (jj + (1 : Int32))), (.ref tb)]))
  obtain ⟨cl5, Ar5, sz5, nz5, hc5⟩ := id G_tb
  obtain ⟨T5, h5, X5, e5, W5, st5⟩ := stB X4 hx hZ e4 Ar5 (j := (jj + (1 : Int32))) (inb_of sz5 ⟨hB.1, hB.2⟩) (g := (mkF m 52 #[.val (.ref tb), .val (.int (jj + (1 : Int32))), .val (.int ch)] [(.int (ch >>> ((8 : Int32) &&& 31)).toInt8.toInt32), (.int (jj + (1 : Int32))), (.ref tb)])) rfl rfl (hb hby d21_52)
  have G_tb : own_Arf Z h5 tb .byte nn (fun i => .int ((own_upd (own_upd u jj (nar .byte (ch >>> ((0 : Int32) &&& 31)).toInt8.toInt32)) (jj + (1 : Int32)) (nar .byte (ch >>> ((8 : Int32) &&& 31)).toInt8.toInt32)) i)) := own_Arf.setI G_tb W5
  have N5 := Fr.snoc X5 N3 g_tb
  have ZH := Nat.le_trans ZH (Nat.le_of_eq W5.size.symm)
  have KK := KK.wr W5 (Or.inl (List.mem_of_getElem? (i := 0) rfl))
  have OO := OO.wr W5 g_tb
  refine own_up st5 ?_
  show own_Go p.tables e below _ (T5.setTop (mkF m 53 #[.val (.ref tb), .val (.int (jj + (1 : Int32))), .val (.int ch)] []))
  obtain ⟨fs6, hr6, hrun6, hended6, hW6, hsame6⟩ := X5.leave (v := none) (fun _ => rfl)
  refine own_end ⟨_, _, ?_, hrun6, hended6, _, _, rfl, ?_, ⟨_, rfl⟩, hW6, hsame6.mono (by decide) (by decide)⟩
  · exact X5.returnOut hx Bd.returns (hb hby d21_53) hr6
  · show QrmP Z cz fv tb nn u j jj ch h0 n0 _ T5.heap _
    rw [e5]
    rw [own_pa, own_pb] at G_tb
    exact ⟨rfl, N5, KK, G_tb⟩
theorem d13_0 : decode jdk_42_method_154_code 0 = .ok (.getstatic 38, 3) := by decide +kernel
theorem d13_3 : decode jdk_42_method_154_code 3 = .ok (.ifCond .eq 14, 3) := by decide +kernel
theorem d13_6 : decode jdk_42_method_154_code 6 = .ok (.aload_n 0, 1) := by decide +kernel
theorem d13_7 : decode jdk_42_method_154_code 7 = .ok (.getfield 15, 3) := by decide +kernel
theorem d13_10 : decode jdk_42_method_154_code 10 = .ok (.ifCond .ne 7, 3) := by decide +kernel
theorem d13_13 : decode jdk_42_method_154_code 13 = .ok (.iconst 1, 1) := by decide +kernel
theorem d13_14 : decode jdk_42_method_154_code 14 = .ok (.goto 4, 3) := by decide +kernel
theorem d13_18 : decode jdk_42_method_154_code 18 = .ok (.ireturn, 1) := by decide +kernel
theorem ef_rmIL0 (m : MethodId) (x0 : Addr) : entryFrame m #[(.ref x0)] 1 = mkF m 0 #[.val (.ref x0)] [] := by first | (simp [entryFrame, mkF, argsToLocals, Value.category]; done) | rfl
def QrmIL0 (Z : State) (cz : Int32) (fv : Value) (sx : Addr) (h0 : Heap) (n0 : Nat) (v : Option Value) (h : Heap) (L : List Loc) : Prop := v = some (.int 1) ∧ Fr n0 L ∧ h = h0
set_option maxRecDepth 65536 in
set_option maxHeartbeats 40000000 in
theorem rmIL0 (l : Launch) (Z : State) (a0 : Array Value) (hw : ∀ d ∈ tables_1, d.before a0 Z = true) (ws : List Jvm.Cond) (cz : Int32) (fv : Value) (sx : Addr) (h0 : Heap) (n0 : Nat) (Z0 : n0 ≤ h0.size) (OO : Old Z n0 h0) (HW : own_W Z cz fv) (C_sx : Fld Z h0 sx "java/lang/String" "coder" "B" (.int 0)) :
    MetFree l (⟨"java/lang/String", "isLatin1", "()Z"⟩ : MethodName) (head1 (Jvm.Cond.code (⟨"java/lang/String", "isLatin1", "()Z"⟩ : MethodName) jdk_42_method_154_code 1 (some .boolean) :: ws) ({ frames := 0, cells := 0, slots := 0, locals := 0 } : Room)) (fun aq Uq => aq = #[(.ref sx)] ∧ Z.Warmed39 Uq.vm ∧ Uq.heap = h0) (fun _ _ _ _ _ => True) (fun _ Uq oq Uq' => ∃ vq Lq, oq = .returned vq ∧ QrmIL0 Z cz fv sx h0 n0 vq Uq'.heap Lq ∧ FrameEnd Uq oq Uq' Lq ({ frames := 0, cells := 0, slots := 0, locals := 0 } : Room).cells ({ frames := 0, cells := 0, slots := 0, locals := 0 } : Room).slots) := by
  refine MetFree.of_bodySF (plainFor_of_name pn_3) hisR ?_
  intro p e s m args below meth c s₁ Bd hml0 hP hK
  obtain ⟨rfl, hZ, hh⟩ := hP
  have hx := Bd.exec
  have hby := Bd.bytes
  have hml : c.maxLocals = 1 := hml0
  have hown : s.vm.findClass "java/lang/String" = some m.cls := findClass_of_methodNamed Bd.named
  have hnm := (name_of_methodNamed Bd.named Bd.method).1
  have X0 : Stand p l e ({ frames := 0, cells := 0, slots := 0, locals := 0 } : Room) s m #[(.ref sx)] below meth c s₁ [] 0 0 := Stand.of_body Bd
  have e0 : s₁.heap = h0 := by rw [← hh, Bd.state]; rfl
  have N0 := Fr.nil n0
  have ZH := Z0
  have KK := Keep.refl h0 []
  refine own_start (fun t kq => castTop (ef_rmIL0 m sx) kq) ?_
  show own_Go p.tables e below _ (s₁.setTop (mkF m 0 #[.val (.ref sx)] []))
  have HW0 := HW
  obtain ⟨SC, hcz, SF, hfv, SA, SH, SL⟩ := HW
  obtain ⟨T1, X1, e1, st1⟩ := getS2 X0 hx hZ hown (host := "") (Or.inl (hw _ (List.mem_of_getElem? (i := 42) rfl))) Via.refl e0 (SC.ext OO.2) (g := (mkF m 0 #[.val (.ref sx)] [])) rfl (hb hby d13_0)
  refine own_up st1 ?_
  show own_Go p.tables e below _ (T1.setTop (mkF m 3 #[.val (.ref sx)] [(.int cz)]))
  refine own_up (fun _ kq => XS.ifNo X1.here hx rfl (hb hby d13_3) rfl ((if0 _ _).trans (feq hcz).1) kq) ?_
  show own_Go p.tables e below _ (T1.setTop (mkF m 6 #[.val (.ref sx)] []))
  refine own_up (fun _ kq => XS.aloadN X1.here hx rfl (hb hby d13_6) rfl rfl kq) ?_
  show own_Go p.tables e below _ (T1.setTop (mkF m 7 #[.val (.ref sx)] [(.ref sx)]))
  obtain ⟨T2, X2, e2, st2⟩ := getF X1 hx hZ hown (host := "") (Or.inl (hw _ (List.mem_of_getElem? (i := 27) rfl))) Via.refl e1 C_sx (g := (mkF m 7 #[.val (.ref sx)] [(.ref sx)])) rfl rfl (hb hby d13_7)
  refine own_up st2 ?_
  show own_Go p.tables e below _ (T2.setTop (mkF m 10 #[.val (.ref sx)] [(.int (0 : Int32))]))
  refine own_up (fun _ kq => XS.ifNo X2.here hx rfl (hb hby d13_10) rfl ((if0 _ _).trans (teq (by decide : (0 : Int32) = (0 : Int32))).2) kq) ?_
  show own_Go p.tables e below _ (T2.setTop (mkF m 13 #[.val (.ref sx)] []))
  refine own_up (fun _ kq => XS.iconst X2.here hx rfl (hb hby d13_13) kq) ?_
  show own_Go p.tables e below _ (T2.setTop (mkF m 14 #[.val (.ref sx)] [(.int (1 : Int32))]))
  refine own_up (fun _ kq => XS.goto X2.here hx rfl (pc0 := 14) (pc' := 18) rfl (hb hby d13_14) (by decide) (by decide) kq) ?_
  show own_Go p.tables e below _ (T2.setTop (mkF m 18 #[.val (.ref sx)] [(.int (1 : Int32))]))
  obtain ⟨fs3, hr3, hrun3, hended3, hW3, hsame3⟩ := X2.leave (v := some (.int (1 : Int32))) (fun h => by rw [Bd.returns] at h; cases h)
  refine own_end ⟨_, _, ?_, hrun3, hended3, _, _, rfl, ?_, ⟨_, rfl⟩, hW3, hsame3.mono (by decide) (by decide)⟩
  · exact retN X2 hx (t := .boolean) Bd.returns (by simp) (hb hby d13_18) hr3
  · show QrmIL0 Z cz fv sx h0 n0 _ T2.heap _
    rw [e2]
    exact ⟨rfl, N0, rfl⟩
theorem d7_0 : decode jdk_42_method_152_code 0 = .ok (.getstatic 38, 3) := by decide +kernel
theorem d7_3 : decode jdk_42_method_152_code 3 = .ok (.ifCond .eq 10, 3) := by decide +kernel
theorem d7_6 : decode jdk_42_method_152_code 6 = .ok (.aload_n 0, 1) := by decide +kernel
theorem d7_7 : decode jdk_42_method_152_code 7 = .ok (.getfield 15, 3) := by decide +kernel
theorem d7_10 : decode jdk_42_method_152_code 10 = .ok (.goto 4, 3) := by decide +kernel
theorem d7_14 : decode jdk_42_method_152_code 14 = .ok (.ireturn, 1) := by decide +kernel
theorem ef_rmCo0 (m : MethodId) (x0 : Addr) : entryFrame m #[(.ref x0)] 1 = mkF m 0 #[.val (.ref x0)] [] := by first | (simp [entryFrame, mkF, argsToLocals, Value.category]; done) | rfl
def QrmCo0 (Z : State) (cz : Int32) (fv : Value) (sx : Addr) (h0 : Heap) (n0 : Nat) (v : Option Value) (h : Heap) (L : List Loc) : Prop := v = some (.int 0) ∧ Fr n0 L ∧ h = h0
set_option maxRecDepth 65536 in
set_option maxHeartbeats 40000000 in
theorem rmCo0 (l : Launch) (Z : State) (a0 : Array Value) (hw : ∀ d ∈ tables_1, d.before a0 Z = true) (ws : List Jvm.Cond) (cz : Int32) (fv : Value) (sx : Addr) (h0 : Heap) (n0 : Nat) (Z0 : n0 ≤ h0.size) (OO : Old Z n0 h0) (HW : own_W Z cz fv) (C_sx : Fld Z h0 sx "java/lang/String" "coder" "B" (.int 0)) :
    MetFree l (⟨"java/lang/String", "coder", "()B"⟩ : MethodName) (head1 (Jvm.Cond.code (⟨"java/lang/String", "coder", "()B"⟩ : MethodName) jdk_42_method_152_code 1 (some .byte) :: ws) ({ frames := 0, cells := 0, slots := 0, locals := 0 } : Room)) (fun aq Uq => aq = #[(.ref sx)] ∧ Z.Warmed39 Uq.vm ∧ Uq.heap = h0) (fun _ _ _ _ _ => True) (fun _ Uq oq Uq' => ∃ vq Lq, oq = .returned vq ∧ QrmCo0 Z cz fv sx h0 n0 vq Uq'.heap Lq ∧ FrameEnd Uq oq Uq' Lq ({ frames := 0, cells := 0, slots := 0, locals := 0 } : Room).cells ({ frames := 0, cells := 0, slots := 0, locals := 0 } : Room).slots) := by
  refine MetFree.of_bodySF (plainFor_of_name pn_3) hisR ?_
  intro p e s m args below meth c s₁ Bd hml0 hP hK
  obtain ⟨rfl, hZ, hh⟩ := hP
  have hx := Bd.exec
  have hby := Bd.bytes
  have hml : c.maxLocals = 1 := hml0
  have hown : s.vm.findClass "java/lang/String" = some m.cls := findClass_of_methodNamed Bd.named
  have hnm := (name_of_methodNamed Bd.named Bd.method).1
  have X0 : Stand p l e ({ frames := 0, cells := 0, slots := 0, locals := 0 } : Room) s m #[(.ref sx)] below meth c s₁ [] 0 0 := Stand.of_body Bd
  have e0 : s₁.heap = h0 := by rw [← hh, Bd.state]; rfl
  have N0 := Fr.nil n0
  have ZH := Z0
  have KK := Keep.refl h0 []
  refine own_start (fun t kq => castTop (ef_rmCo0 m sx) kq) ?_
  show own_Go p.tables e below _ (s₁.setTop (mkF m 0 #[.val (.ref sx)] []))
  have HW0 := HW
  obtain ⟨SC, hcz, SF, hfv, SA, SH, SL⟩ := HW
  obtain ⟨T1, X1, e1, st1⟩ := getS2 X0 hx hZ hown (host := "") (Or.inl (hw _ (List.mem_of_getElem? (i := 42) rfl))) Via.refl e0 (SC.ext OO.2) (g := (mkF m 0 #[.val (.ref sx)] [])) rfl (hb hby d7_0)
  refine own_up st1 ?_
  show own_Go p.tables e below _ (T1.setTop (mkF m 3 #[.val (.ref sx)] [(.int cz)]))
  refine own_up (fun _ kq => XS.ifNo X1.here hx rfl (hb hby d7_3) rfl ((if0 _ _).trans (feq hcz).1) kq) ?_
  show own_Go p.tables e below _ (T1.setTop (mkF m 6 #[.val (.ref sx)] []))
  refine own_up (fun _ kq => XS.aloadN X1.here hx rfl (hb hby d7_6) rfl rfl kq) ?_
  show own_Go p.tables e below _ (T1.setTop (mkF m 7 #[.val (.ref sx)] [(.ref sx)]))
  obtain ⟨T2, X2, e2, st2⟩ := getF X1 hx hZ hown (host := "") (Or.inl (hw _ (List.mem_of_getElem? (i := 27) rfl))) Via.refl e1 C_sx (g := (mkF m 7 #[.val (.ref sx)] [(.ref sx)])) rfl rfl (hb hby d7_7)
  refine own_up st2 ?_
  show own_Go p.tables e below _ (T2.setTop (mkF m 10 #[.val (.ref sx)] [(.int (0 : Int32))]))
  refine own_up (fun _ kq => XS.goto X2.here hx rfl (pc0 := 10) (pc' := 14) rfl (hb hby d7_10) (by decide) (by decide) kq) ?_
  show own_Go p.tables e below _ (T2.setTop (mkF m 14 #[.val (.ref sx)] [(.int (0 : Int32))]))
  obtain ⟨fs3, hr3, hrun3, hended3, hW3, hsame3⟩ := X2.leave (v := some (.int (0 : Int32))) (fun h => by rw [Bd.returns] at h; cases h)
  refine own_end ⟨_, _, ?_, hrun3, hended3, _, _, rfl, ?_, ⟨_, rfl⟩, hW3, hsame3.mono (by decide) (by decide)⟩
  · exact retN X2 hx (t := .byte) Bd.returns (by simp) (hb hby d7_14) hr3
  · show QrmCo0 Z cz fv sx h0 n0 _ T2.heap _
    rw [e2]
    exact ⟨rfl, N0, rfl⟩
theorem d13_17 : decode jdk_42_method_154_code 17 = .ok (.iconst 0, 1) := by decide +kernel
theorem ef_rmIL1 (m : MethodId) (x0 : Addr) : entryFrame m #[(.ref x0)] 1 = mkF m 0 #[.val (.ref x0)] [] := by first | (simp [entryFrame, mkF, argsToLocals, Value.category]; done) | rfl
def QrmIL1 (Z : State) (cz : Int32) (fv : Value) (sx : Addr) (h0 : Heap) (n0 : Nat) (v : Option Value) (h : Heap) (L : List Loc) : Prop := v = some (.int 0) ∧ Fr n0 L ∧ h = h0
set_option maxRecDepth 65536 in
set_option maxHeartbeats 40000000 in
theorem rmIL1 (l : Launch) (Z : State) (a0 : Array Value) (hw : ∀ d ∈ tables_1, d.before a0 Z = true) (ws : List Jvm.Cond) (cz : Int32) (fv : Value) (sx : Addr) (h0 : Heap) (n0 : Nat) (Z0 : n0 ≤ h0.size) (OO : Old Z n0 h0) (HW : own_W Z cz fv) (C_sx : Fld Z h0 sx "java/lang/String" "coder" "B" (.int 1)) :
    MetFree l (⟨"java/lang/String", "isLatin1", "()Z"⟩ : MethodName) (head1 (Jvm.Cond.code (⟨"java/lang/String", "isLatin1", "()Z"⟩ : MethodName) jdk_42_method_154_code 1 (some .boolean) :: ws) ({ frames := 0, cells := 0, slots := 0, locals := 0 } : Room)) (fun aq Uq => aq = #[(.ref sx)] ∧ Z.Warmed39 Uq.vm ∧ Uq.heap = h0) (fun _ _ _ _ _ => True) (fun _ Uq oq Uq' => ∃ vq Lq, oq = .returned vq ∧ QrmIL1 Z cz fv sx h0 n0 vq Uq'.heap Lq ∧ FrameEnd Uq oq Uq' Lq ({ frames := 0, cells := 0, slots := 0, locals := 0 } : Room).cells ({ frames := 0, cells := 0, slots := 0, locals := 0 } : Room).slots) := by
  refine MetFree.of_bodySF (plainFor_of_name pn_3) hisR ?_
  intro p e s m args below meth c s₁ Bd hml0 hP hK
  obtain ⟨rfl, hZ, hh⟩ := hP
  have hx := Bd.exec
  have hby := Bd.bytes
  have hml : c.maxLocals = 1 := hml0
  have hown : s.vm.findClass "java/lang/String" = some m.cls := findClass_of_methodNamed Bd.named
  have hnm := (name_of_methodNamed Bd.named Bd.method).1
  have X0 : Stand p l e ({ frames := 0, cells := 0, slots := 0, locals := 0 } : Room) s m #[(.ref sx)] below meth c s₁ [] 0 0 := Stand.of_body Bd
  have e0 : s₁.heap = h0 := by rw [← hh, Bd.state]; rfl
  have N0 := Fr.nil n0
  have ZH := Z0
  have KK := Keep.refl h0 []
  refine own_start (fun t kq => castTop (ef_rmIL1 m sx) kq) ?_
  show own_Go p.tables e below _ (s₁.setTop (mkF m 0 #[.val (.ref sx)] []))
  have HW0 := HW
  obtain ⟨SC, hcz, SF, hfv, SA, SH, SL⟩ := HW
  obtain ⟨T1, X1, e1, st1⟩ := getS2 X0 hx hZ hown (host := "") (Or.inl (hw _ (List.mem_of_getElem? (i := 42) rfl))) Via.refl e0 (SC.ext OO.2) (g := (mkF m 0 #[.val (.ref sx)] [])) rfl (hb hby d13_0)
  refine own_up st1 ?_
  show own_Go p.tables e below _ (T1.setTop (mkF m 3 #[.val (.ref sx)] [(.int cz)]))
  refine own_up (fun _ kq => XS.ifNo X1.here hx rfl (hb hby d13_3) rfl ((if0 _ _).trans (feq hcz).1) kq) ?_
  show own_Go p.tables e below _ (T1.setTop (mkF m 6 #[.val (.ref sx)] []))
  refine own_up (fun _ kq => XS.aloadN X1.here hx rfl (hb hby d13_6) rfl rfl kq) ?_
  show own_Go p.tables e below _ (T1.setTop (mkF m 7 #[.val (.ref sx)] [(.ref sx)]))
  obtain ⟨T2, X2, e2, st2⟩ := getF X1 hx hZ hown (host := "") (Or.inl (hw _ (List.mem_of_getElem? (i := 27) rfl))) Via.refl e1 C_sx (g := (mkF m 7 #[.val (.ref sx)] [(.ref sx)])) rfl rfl (hb hby d13_7)
  refine own_up st2 ?_
  show own_Go p.tables e below _ (T2.setTop (mkF m 10 #[.val (.ref sx)] [(.int (1 : Int32))]))
  refine own_up (fun _ kq => XS.ifYes X2.here hx rfl (pc0 := 10) (pc' := 17) rfl (hb hby d13_10) rfl ((if0 _ _).trans (feq (by decide : ¬ ((1 : Int32) = (0 : Int32)))).2) (by decide) (by decide) kq) ?_
  show own_Go p.tables e below _ (T2.setTop (mkF m 17 #[.val (.ref sx)] []))
  refine own_up (fun _ kq => XS.iconst X2.here hx rfl (hb hby d13_17) kq) ?_
  show own_Go p.tables e below _ (T2.setTop (mkF m 18 #[.val (.ref sx)] [(.int (0 : Int32))]))
  obtain ⟨fs3, hr3, hrun3, hended3, hW3, hsame3⟩ := X2.leave (v := some (.int (0 : Int32))) (fun h => by rw [Bd.returns] at h; cases h)
  refine own_end ⟨_, _, ?_, hrun3, hended3, _, _, rfl, ?_, ⟨_, rfl⟩, hW3, hsame3.mono (by decide) (by decide)⟩
  · exact retN X2 hx (t := .boolean) Bd.returns (by simp) (hb hby d13_18) hr3
  · show QrmIL1 Z cz fv sx h0 n0 _ T2.heap _
    rw [e2]
    exact ⟨rfl, N0, rfl⟩
theorem ef_rmCo1 (m : MethodId) (x0 : Addr) : entryFrame m #[(.ref x0)] 1 = mkF m 0 #[.val (.ref x0)] [] := by first | (simp [entryFrame, mkF, argsToLocals, Value.category]; done) | rfl
def QrmCo1 (Z : State) (cz : Int32) (fv : Value) (sx : Addr) (h0 : Heap) (n0 : Nat) (v : Option Value) (h : Heap) (L : List Loc) : Prop := v = some (.int 1) ∧ Fr n0 L ∧ h = h0
set_option maxRecDepth 65536 in
set_option maxHeartbeats 40000000 in
theorem rmCo1 (l : Launch) (Z : State) (a0 : Array Value) (hw : ∀ d ∈ tables_1, d.before a0 Z = true) (ws : List Jvm.Cond) (cz : Int32) (fv : Value) (sx : Addr) (h0 : Heap) (n0 : Nat) (Z0 : n0 ≤ h0.size) (OO : Old Z n0 h0) (HW : own_W Z cz fv) (C_sx : Fld Z h0 sx "java/lang/String" "coder" "B" (.int 1)) :
    MetFree l (⟨"java/lang/String", "coder", "()B"⟩ : MethodName) (head1 (Jvm.Cond.code (⟨"java/lang/String", "coder", "()B"⟩ : MethodName) jdk_42_method_152_code 1 (some .byte) :: ws) ({ frames := 0, cells := 0, slots := 0, locals := 0 } : Room)) (fun aq Uq => aq = #[(.ref sx)] ∧ Z.Warmed39 Uq.vm ∧ Uq.heap = h0) (fun _ _ _ _ _ => True) (fun _ Uq oq Uq' => ∃ vq Lq, oq = .returned vq ∧ QrmCo1 Z cz fv sx h0 n0 vq Uq'.heap Lq ∧ FrameEnd Uq oq Uq' Lq ({ frames := 0, cells := 0, slots := 0, locals := 0 } : Room).cells ({ frames := 0, cells := 0, slots := 0, locals := 0 } : Room).slots) := by
  refine MetFree.of_bodySF (plainFor_of_name pn_3) hisR ?_
  intro p e s m args below meth c s₁ Bd hml0 hP hK
  obtain ⟨rfl, hZ, hh⟩ := hP
  have hx := Bd.exec
  have hby := Bd.bytes
  have hml : c.maxLocals = 1 := hml0
  have hown : s.vm.findClass "java/lang/String" = some m.cls := findClass_of_methodNamed Bd.named
  have hnm := (name_of_methodNamed Bd.named Bd.method).1
  have X0 : Stand p l e ({ frames := 0, cells := 0, slots := 0, locals := 0 } : Room) s m #[(.ref sx)] below meth c s₁ [] 0 0 := Stand.of_body Bd
  have e0 : s₁.heap = h0 := by rw [← hh, Bd.state]; rfl
  have N0 := Fr.nil n0
  have ZH := Z0
  have KK := Keep.refl h0 []
  refine own_start (fun t kq => castTop (ef_rmCo1 m sx) kq) ?_
  show own_Go p.tables e below _ (s₁.setTop (mkF m 0 #[.val (.ref sx)] []))
  have HW0 := HW
  obtain ⟨SC, hcz, SF, hfv, SA, SH, SL⟩ := HW
  obtain ⟨T1, X1, e1, st1⟩ := getS2 X0 hx hZ hown (host := "") (Or.inl (hw _ (List.mem_of_getElem? (i := 42) rfl))) Via.refl e0 (SC.ext OO.2) (g := (mkF m 0 #[.val (.ref sx)] [])) rfl (hb hby d7_0)
  refine own_up st1 ?_
  show own_Go p.tables e below _ (T1.setTop (mkF m 3 #[.val (.ref sx)] [(.int cz)]))
  refine own_up (fun _ kq => XS.ifNo X1.here hx rfl (hb hby d7_3) rfl ((if0 _ _).trans (feq hcz).1) kq) ?_
  show own_Go p.tables e below _ (T1.setTop (mkF m 6 #[.val (.ref sx)] []))
  refine own_up (fun _ kq => XS.aloadN X1.here hx rfl (hb hby d7_6) rfl rfl kq) ?_
  show own_Go p.tables e below _ (T1.setTop (mkF m 7 #[.val (.ref sx)] [(.ref sx)]))
  obtain ⟨T2, X2, e2, st2⟩ := getF X1 hx hZ hown (host := "") (Or.inl (hw _ (List.mem_of_getElem? (i := 27) rfl))) Via.refl e1 C_sx (g := (mkF m 7 #[.val (.ref sx)] [(.ref sx)])) rfl rfl (hb hby d7_7)
  refine own_up st2 ?_
  show own_Go p.tables e below _ (T2.setTop (mkF m 10 #[.val (.ref sx)] [(.int (1 : Int32))]))
  refine own_up (fun _ kq => XS.goto X2.here hx rfl (pc0 := 10) (pc' := 14) rfl (hb hby d7_10) (by decide) (by decide) kq) ?_
  show own_Go p.tables e below _ (T2.setTop (mkF m 14 #[.val (.ref sx)] [(.int (1 : Int32))]))
  obtain ⟨fs3, hr3, hrun3, hended3, hW3, hsame3⟩ := X2.leave (v := some (.int (1 : Int32))) (fun h => by rw [Bd.returns] at h; cases h)
  refine own_end ⟨_, _, ?_, hrun3, hended3, _, _, rfl, ?_, ⟨_, rfl⟩, hW3, hsame3.mono (by decide) (by decide)⟩
  · exact retN X2 hx (t := .byte) Bd.returns (by simp) (hb hby d7_14) hr3
  · show QrmCo1 Z cz fv sx h0 n0 _ T2.heap _
    rw [e2]
    exact ⟨rfl, N0, rfl⟩
theorem d6_0 : decode jdk_42_method_54_code 0 = .ok (.aload_n 0, 1) := by decide +kernel
theorem d6_1 : decode jdk_42_method_54_code 1 = .ok (.getfield 9, 3) := by decide +kernel
theorem d6_4 : decode jdk_42_method_54_code 4 = .ok (.arraylength, 1) := by decide +kernel
theorem d6_5 : decode jdk_42_method_54_code 5 = .ok (.aload_n 0, 1) := by decide +kernel
theorem d6_6 : decode jdk_42_method_54_code 6 = .ok (.invokevirtual 335, 3) := by decide +kernel
theorem pd_5 : parseMethodDescriptor "()B" = some ⟨[], some .byte⟩ := by decide +kernel
theorem d6_9 : decode jdk_42_method_54_code 9 = .ok (.ishr, 1) := by decide +kernel
theorem d6_10 : decode jdk_42_method_54_code 10 = .ok (.ireturn, 1) := by decide +kernel
theorem ef_rmLn (m : MethodId) (x0 : Addr) : entryFrame m #[(.ref x0)] 1 = mkF m 0 #[.val (.ref x0)] [] := by first | (simp [entryFrame, mkF, argsToLocals, Value.category]; done) | rfl
def QrmLn (Z : State) (cz : Int32) (fv : Value) (sx : Addr) (tb : Addr) (n : Int32) (n2 : Int32) (cs : Nat → Int32) (h0 : Heap) (n0 : Nat) (v : Option Value) (h : Heap) (L : List Loc) : Prop := v = some (.int n) ∧ Fr n0 L ∧ h = h0
set_option maxRecDepth 65536 in
set_option maxHeartbeats 40000000 in
theorem rmLn (l : Launch) (Z : State) (a0 : Array Value) (hw : ∀ d ∈ tables_1, d.before a0 Z = true) (ws : List Jvm.Cond) (cz : Int32) (fv : Value) (sx : Addr) (tb : Addr) (n : Int32) (n2 : Int32) (cs : Nat → Int32) (h0 : Heap) (n0 : Nat) (Z0 : n0 ≤ h0.size) (OO : Old Z n0 h0) (HW : own_W Z cz fv) (E_sx : Exa Z h0 sx "java/lang/String") (F_sx : Fld Z h0 sx "java/lang/String" "value" "[B" (.ref tb)) (hSX : own_SX Z h0 sx tb n n2 cs) (hch : own_ch cs) (hsm : own_sm n) (hn2 : (n <<< ((1 : Int32) &&& 31)) = n2) :
    MetFree l (⟨"java/lang/String", "length", "()I"⟩ : MethodName) (head1 (Jvm.Cond.code (⟨"java/lang/String", "length", "()I"⟩ : MethodName) jdk_42_method_54_code 1 (some .int) :: ws) ({ frames := 1, cells := 0, slots := 0, locals := 13 } : Room)) (fun aq Uq => aq = #[(.ref sx)] ∧ Z.Warmed39 Uq.vm ∧ Uq.heap = h0) (fun _ _ _ _ _ => True) (fun _ Uq oq Uq' => ∃ vq Lq, oq = .returned vq ∧ QrmLn Z cz fv sx tb n n2 cs h0 n0 vq Uq'.heap Lq ∧ FrameEnd Uq oq Uq' Lq ({ frames := 1, cells := 0, slots := 0, locals := 13 } : Room).cells ({ frames := 1, cells := 0, slots := 0, locals := 13 } : Room).slots) := by
  refine MetFree.of_bodySF (plainFor_of_name pn_3) hisR ?_
  intro p e s m args below meth c s₁ Bd hml0 hP hK
  obtain ⟨rfl, hZ, hh⟩ := hP
  have hx := Bd.exec
  have hby := Bd.bytes
  have hml : c.maxLocals = 1 := hml0
  have hown : s.vm.findClass "java/lang/String" = some m.cls := findClass_of_methodNamed Bd.named
  have hnm := (name_of_methodNamed Bd.named Bd.method).1
  have X0 : Stand p l e ({ frames := 1, cells := 0, slots := 0, locals := 13 } : Room) s m #[(.ref sx)] below meth c s₁ [] 0 0 := Stand.of_body Bd
  have e0 : s₁.heap = h0 := by rw [← hh, Bd.state]; rfl
  have N0 := Fr.nil n0
  have ZH := Z0
  have KK := Keep.refl h0 []
  refine own_start (fun t kq => castTop (ef_rmLn m sx) kq) ?_
  show own_Go p.tables e below _ (s₁.setTop (mkF m 0 #[.val (.ref sx)] []))
  have HW0 := HW
  obtain ⟨SC, hcz, SF, hfv, SA, SH, SL⟩ := HW
  rcases hSX with ⟨C_sx, f, G_tb, hf⟩ | ⟨C_sx, f, G_tb, hf⟩
  · show own_Go p.tables e below _ (s₁.setTop (mkF m 0 #[.val (.ref sx)] []))
    refine own_up (fun _ kq => XS.aloadN X0.here hx rfl (hb hby d6_0) rfl rfl kq) ?_
    show own_Go p.tables e below _ (s₁.setTop (mkF m 1 #[.val (.ref sx)] [(.ref sx)]))
    obtain ⟨T1, X1, e1, st1⟩ := getF X0 hx hZ hown (host := "") (Or.inl (hw _ (List.mem_of_getElem? (i := 26) rfl))) Via.refl e0 F_sx (g := (mkF m 1 #[.val (.ref sx)] [(.ref sx)])) rfl rfl (hb hby d6_1)
    refine own_up st1 ?_
    show own_Go p.tables e below _ (T1.setTop (mkF m 4 #[.val (.ref sx)] [(.ref tb)]))
    refine own_up (fun _ kq => own_Arf.alen G_tb X1 hx hZ e1 (g := (mkF m 4 #[.val (.ref sx)] [(.ref tb)])) rfl rfl (hb hby d6_4) _ kq) ?_
    show own_Go p.tables e below _ (T1.setTop (mkF m 5 #[.val (.ref sx)] [(.int n)]))
    refine own_up (fun _ kq => XS.aloadN X1.here hx rfl (hb hby d6_5) rfl rfl kq) ?_
    show own_Go p.tables e below _ (T1.setTop (mkF m 6 #[.val (.ref sx)] [(.ref sx), (.int n)]))
    obtain ⟨cq2, kq2, q2a, q2b, q2c⟩ := isOf hZ e1 E_sx
    obtain ⟨_, _, ⟨T2, L2, k2, n2⟩, -, X2, ⟨Lc2, hQ2, l2, y2, z2⟩, st2⟩ := X1.virtualBack hx (y := (⟨"java/lang/String", "coder", "()B"⟩ : MethodName)) (z := (⟨"java/lang/String", "coder", "()B"⟩ : MethodName)) hown (mvT hZ (hw _ (List.mem_of_getElem? (i := 37) rfl))) (mvT hZ (hw _ (List.mem_of_getElem? (i := 38) rfl))) (notFace_of_selects (args := #[]) (mvT hZ (hw _ (List.mem_of_getElem? (i := 40) rfl)))) (mvT hZ (hw _ (List.mem_of_getElem? (i := 40) rfl))) (mvT hZ (hw _ (List.mem_of_getElem? (i := 39) rfl))) (by decide) (backOf (W := 1) (rmCo0 l Z a0 hw [] cz fv sx h0 n0 ZH OO HW0 C_sx) hZ (hw _ (List.mem_of_getElem? (i := 41) rfl)) (hw _ (List.mem_of_getElem? (i := 8) rfl)) (by decide) (by decide)) q2a q2c (g := (mkF m 6 #[.val (.ref sx)] [(.ref sx), (.int n)])) rfl (by rw [hml]; rfl) (Steps.refl _) (argsL := []) (rest := [(.int n)]) (lenOf pd_5 rfl) rfl (by show 2 * 0 + _ ≤ _; exact Nat.le_of_eq rfl) (hb hby d6_6) (fun _ _ => ⟨rfl, e1, (by decide : 0 + 0 ≤ _), (by decide : 0 + 0 ≤ _)⟩)
    dsimp only [Pt.U, Pt.locs, Pt.cells, Pt.slots] at X2 l2 y2 z2 st2 hQ2
    subst l2 y2 z2
    obtain ⟨rfl, Nq2, e2⟩ := hQ2
    have N2 := Fr.app N0 Nq2
    refine own_up (fun _ kq => st2.trans kq) ?_
    show own_Go p.tables e below _ (T2.setTop (mkF m 9 #[.val (.ref sx)] [(.int (0 : Int32)), (.int n)]))
    refine own_up (fun _ kq => XS.ishr X2.here hx rfl (hb hby d6_9) rfl kq) ?_
    show own_Go p.tables e below _ (T2.setTop (mkF m 10 #[.val (.ref sx)] [(.int (n >>> ((0 : Int32) &&& 31)))]))
    obtain ⟨fs3, hr3, hrun3, hended3, hW3, hsame3⟩ := X2.leave (v := some (.int (n >>> ((0 : Int32) &&& 31)))) (fun h => by rw [Bd.returns] at h; cases h)
    refine own_end ⟨_, _, ?_, hrun3, hended3, _, _, rfl, ?_, ⟨_, rfl⟩, hW3, hsame3.mono (by decide) (by decide)⟩
    · exact retOut X2 hx Bd.returns rfl (Or.inl ⟨rfl, Or.inl rfl, _, rfl⟩) (hb hby d6_10) hr3
    · show QrmLn Z cz fv sx tb n n2 cs h0 n0 _ T2.heap _
      rw [e2]
      exact ⟨congrArg (fun z => some (Value.int z)) (own_smN hsm hn2).2.2.2.2.2.2.1, N2, rfl⟩
  · show own_Go p.tables e below _ (s₁.setTop (mkF m 0 #[.val (.ref sx)] []))
    refine own_up (fun _ kq => XS.aloadN X0.here hx rfl (hb hby d6_0) rfl rfl kq) ?_
    show own_Go p.tables e below _ (s₁.setTop (mkF m 1 #[.val (.ref sx)] [(.ref sx)]))
    obtain ⟨T4, X4, e4, st4⟩ := getF X0 hx hZ hown (host := "") (Or.inl (hw _ (List.mem_of_getElem? (i := 26) rfl))) Via.refl e0 F_sx (g := (mkF m 1 #[.val (.ref sx)] [(.ref sx)])) rfl rfl (hb hby d6_1)
    refine own_up st4 ?_
    show own_Go p.tables e below _ (T4.setTop (mkF m 4 #[.val (.ref sx)] [(.ref tb)]))
    refine own_up (fun _ kq => own_Arf.alen G_tb X4 hx hZ e4 (g := (mkF m 4 #[.val (.ref sx)] [(.ref tb)])) rfl rfl (hb hby d6_4) _ kq) ?_
    show own_Go p.tables e below _ (T4.setTop (mkF m 5 #[.val (.ref sx)] [(.int n2)]))
    refine own_up (fun _ kq => XS.aloadN X4.here hx rfl (hb hby d6_5) rfl rfl kq) ?_
    show own_Go p.tables e below _ (T4.setTop (mkF m 6 #[.val (.ref sx)] [(.ref sx), (.int n2)]))
    obtain ⟨cq5, kq5, q5a, q5b, q5c⟩ := isOf hZ e4 E_sx
    obtain ⟨_, _, ⟨T5, L5, k5, n5⟩, -, X5, ⟨Lc5, hQ5, l5, y5, z5⟩, st5⟩ := X4.virtualBack hx (y := (⟨"java/lang/String", "coder", "()B"⟩ : MethodName)) (z := (⟨"java/lang/String", "coder", "()B"⟩ : MethodName)) hown (mvT hZ (hw _ (List.mem_of_getElem? (i := 37) rfl))) (mvT hZ (hw _ (List.mem_of_getElem? (i := 38) rfl))) (notFace_of_selects (args := #[]) (mvT hZ (hw _ (List.mem_of_getElem? (i := 40) rfl)))) (mvT hZ (hw _ (List.mem_of_getElem? (i := 40) rfl))) (mvT hZ (hw _ (List.mem_of_getElem? (i := 39) rfl))) (by decide) (backOf (W := 1) (rmCo1 l Z a0 hw [] cz fv sx h0 n0 ZH OO HW0 C_sx) hZ (hw _ (List.mem_of_getElem? (i := 41) rfl)) (hw _ (List.mem_of_getElem? (i := 8) rfl)) (by decide) (by decide)) q5a q5c (g := (mkF m 6 #[.val (.ref sx)] [(.ref sx), (.int n2)])) rfl (by rw [hml]; rfl) (Steps.refl _) (argsL := []) (rest := [(.int n2)]) (lenOf pd_5 rfl) rfl (by show 2 * 0 + _ ≤ _; exact Nat.le_of_eq rfl) (hb hby d6_6) (fun _ _ => ⟨rfl, e4, (by decide : 0 + 0 ≤ _), (by decide : 0 + 0 ≤ _)⟩)
    dsimp only [Pt.U, Pt.locs, Pt.cells, Pt.slots] at X5 l5 y5 z5 st5 hQ5
    subst l5 y5 z5
    obtain ⟨rfl, Nq5, e5⟩ := hQ5
    have N5 := Fr.app N0 Nq5
    refine own_up (fun _ kq => st5.trans kq) ?_
    show own_Go p.tables e below _ (T5.setTop (mkF m 9 #[.val (.ref sx)] [(.int (1 : Int32)), (.int n2)]))
    refine own_up (fun _ kq => XS.ishr X5.here hx rfl (hb hby d6_9) rfl kq) ?_
    show own_Go p.tables e below _ (T5.setTop (mkF m 10 #[.val (.ref sx)] [(.int (n2 >>> ((1 : Int32) &&& 31)))]))
    obtain ⟨fs6, hr6, hrun6, hended6, hW6, hsame6⟩ := X5.leave (v := some (.int (n2 >>> ((1 : Int32) &&& 31)))) (fun h => by rw [Bd.returns] at h; cases h)
    refine own_end ⟨_, _, ?_, hrun6, hended6, _, _, rfl, ?_, ⟨_, rfl⟩, hW6, hsame6.mono (by decide) (by decide)⟩
    · exact retOut X5 hx Bd.returns rfl (Or.inl ⟨rfl, Or.inl rfl, _, rfl⟩) (hb hby d6_10) hr6
    · show QrmLn Z cz fv sx tb n n2 cs h0 n0 _ T5.heap _
      rw [e5]
      exact ⟨congrArg (fun z => some (Value.int z)) (own_smN hsm hn2).2.2.2.2.2.1, N5, rfl⟩
theorem d12_0 : decode jdk_42_method_56_code 0 = .ok (.aload_n 0, 1) := by decide +kernel
theorem d12_1 : decode jdk_42_method_56_code 1 = .ok (.invokevirtual 492, 3) := by decide +kernel
theorem pd_6 : parseMethodDescriptor "()Z" = some ⟨[], some .boolean⟩ := by decide +kernel
theorem d12_4 : decode jdk_42_method_56_code 4 = .ok (.ifCond .eq 12, 3) := by decide +kernel
theorem d12_7 : decode jdk_42_method_56_code 7 = .ok (.aload_n 0, 1) := by decide +kernel
theorem d12_8 : decode jdk_42_method_56_code 8 = .ok (.getfield 9, 3) := by decide +kernel
theorem d12_11 : decode jdk_42_method_56_code 11 = .ok (.iload_n 1, 1) := by decide +kernel
theorem d12_12 : decode jdk_42_method_56_code 12 = .ok (.invokestatic 495, 3) := by decide +kernel
theorem d12_15 : decode jdk_42_method_56_code 15 = .ok (.ireturn, 1) := by decide +kernel
theorem d12_16 : decode jdk_42_method_56_code 16 = .ok (.aload_n 0, 1) := by decide +kernel
theorem d12_17 : decode jdk_42_method_56_code 17 = .ok (.getfield 9, 3) := by decide +kernel
theorem d12_20 : decode jdk_42_method_56_code 20 = .ok (.iload_n 1, 1) := by decide +kernel
theorem d12_21 : decode jdk_42_method_56_code 21 = .ok (.invokestatic 498, 3) := by decide +kernel
theorem d12_24 : decode jdk_42_method_56_code 24 = .ok (.ireturn, 1) := by decide +kernel
theorem ef_rmA (m : MethodId) (x0 : Addr) (x1 : Int32) : entryFrame m #[(.ref x0), (.int x1)] 2 = mkF m 0 #[.val (.ref x0), .val (.int x1)] [] := by first | (simp [entryFrame, mkF, argsToLocals, Value.category]; done) | rfl
def QrmA (Z : State) (cz : Int32) (fv : Value) (sx : Addr) (tb : Addr) (n : Int32) (n2 : Int32) (cs : Nat → Int32) (j : Int32) (h0 : Heap) (n0 : Nat) (v : Option Value) (h : Heap) (L : List Loc) : Prop := v = some (.int (cs j.toNatClampNeg)) ∧ Fr n0 L ∧ h = h0
set_option maxRecDepth 65536 in
set_option maxHeartbeats 40000000 in
theorem rmA (l : Launch) (Z : State) (a0 : Array Value) (hw : ∀ d ∈ tables_1, d.before a0 Z = true) (ws : List Jvm.Cond) (cz : Int32) (fv : Value) (sx : Addr) (tb : Addr) (n : Int32) (n2 : Int32) (cs : Nat → Int32) (j : Int32) (h0 : Heap) (n0 : Nat) (Z0 : n0 ≤ h0.size) (OO : Old Z n0 h0) (HW : own_W Z cz fv) (E_sx : Exa Z h0 sx "java/lang/String") (F_sx : Fld Z h0 sx "java/lang/String" "value" "[B" (.ref tb)) (hSX : own_SX Z h0 sx tb n n2 cs) (hch : own_ch cs) (hsm : own_sm n) (hn2 : (n <<< ((1 : Int32) &&& 31)) = n2) (hj0 : ¬ j < 0) (hjl : j < n) :
    MetFree l (⟨"java/lang/String", "charAt", "(I)C"⟩ : MethodName) (head1 (Jvm.Cond.code (⟨"java/lang/String", "charAt", "(I)C"⟩ : MethodName) jdk_42_method_56_code 2 (some .char) :: ws) ({ frames := 4, cells := 0, slots := 0, locals := 53 } : Room)) (fun aq Uq => aq = #[(.ref sx), (.int j)] ∧ Z.Warmed39 Uq.vm ∧ Uq.heap = h0) (fun _ _ _ _ _ => True) (fun _ Uq oq Uq' => ∃ vq Lq, oq = .returned vq ∧ QrmA Z cz fv sx tb n n2 cs j h0 n0 vq Uq'.heap Lq ∧ FrameEnd Uq oq Uq' Lq ({ frames := 4, cells := 0, slots := 0, locals := 53 } : Room).cells ({ frames := 4, cells := 0, slots := 0, locals := 53 } : Room).slots) := by
  refine MetFree.of_bodySF (plainFor_of_name pn_3) hisR ?_
  intro p e s m args below meth c s₁ Bd hml0 hP hK
  obtain ⟨rfl, hZ, hh⟩ := hP
  have hx := Bd.exec
  have hby := Bd.bytes
  have hml : c.maxLocals = 2 := hml0
  have hown : s.vm.findClass "java/lang/String" = some m.cls := findClass_of_methodNamed Bd.named
  have hnm := (name_of_methodNamed Bd.named Bd.method).1
  have X0 : Stand p l e ({ frames := 4, cells := 0, slots := 0, locals := 53 } : Room) s m #[(.ref sx), (.int j)] below meth c s₁ [] 0 0 := Stand.of_body Bd
  have e0 : s₁.heap = h0 := by rw [← hh, Bd.state]; rfl
  have N0 := Fr.nil n0
  have ZH := Z0
  have KK := Keep.refl h0 []
  refine own_start (fun t kq => castTop (ef_rmA m sx j) kq) ?_
  show own_Go p.tables e below _ (s₁.setTop (mkF m 0 #[.val (.ref sx), .val (.int j)] []))
  have HW0 := HW
  obtain ⟨SC, hcz, SF, hfv, SA, SH, SL⟩ := HW
  have IX := own_ix hsm hn2 hj0 hjl rfl
  rcases hSX with ⟨C_sx, f, G_tb, hf⟩ | ⟨C_sx, f, G_tb, hf⟩
  · show own_Go p.tables e below _ (s₁.setTop (mkF m 0 #[.val (.ref sx), .val (.int j)] []))
    refine own_up (fun _ kq => XS.aloadN X0.here hx rfl (hb hby d12_0) rfl rfl kq) ?_
    show own_Go p.tables e below _ (s₁.setTop (mkF m 1 #[.val (.ref sx), .val (.int j)] [(.ref sx)]))
    obtain ⟨cq1, kq1, q1a, q1b, q1c⟩ := isOf hZ e0 E_sx
    obtain ⟨_, _, ⟨T1, L1, k1, n1⟩, -, X1, ⟨Lc1, hQ1, l1, y1, z1⟩, st1⟩ := X0.virtualBack hx (y := (⟨"java/lang/String", "isLatin1", "()Z"⟩ : MethodName)) (z := (⟨"java/lang/String", "isLatin1", "()Z"⟩ : MethodName)) hown (mvT hZ (hw _ (List.mem_of_getElem? (i := 61) rfl))) (mvT hZ (hw _ (List.mem_of_getElem? (i := 62) rfl))) (notFace_of_selects (args := #[]) (mvT hZ (hw _ (List.mem_of_getElem? (i := 64) rfl)))) (mvT hZ (hw _ (List.mem_of_getElem? (i := 64) rfl))) (mvT hZ (hw _ (List.mem_of_getElem? (i := 63) rfl))) (by decide) (backOf (W := 0) (rmIL0 l Z a0 hw [] cz fv sx h0 n0 ZH OO HW0 C_sx) hZ (hw _ (List.mem_of_getElem? (i := 65) rfl)) (hw _ (List.mem_of_getElem? (i := 8) rfl)) (by decide) (by decide)) q1a q1c (g := (mkF m 1 #[.val (.ref sx), .val (.int j)] [(.ref sx)])) rfl (by rw [hml]; rfl) (Steps.refl _) (argsL := []) (rest := []) (lenOf pd_6 rfl) rfl (by show 2 * 0 + _ ≤ _; exact Nat.le_of_eq rfl) (hb hby d12_1) (fun _ _ => ⟨rfl, e0, (by decide : 0 + 0 ≤ _), (by decide : 0 + 0 ≤ _)⟩)
    dsimp only [Pt.U, Pt.locs, Pt.cells, Pt.slots] at X1 l1 y1 z1 st1 hQ1
    subst l1 y1 z1
    obtain ⟨rfl, Nq1, e1⟩ := hQ1
    have N1 := Fr.app N0 Nq1
    refine own_up (fun _ kq => st1.trans kq) ?_
    show own_Go p.tables e below _ (T1.setTop (mkF m 4 #[.val (.ref sx), .val (.int j)] [(.int (1 : Int32))]))
    refine own_up (fun _ kq => XS.ifNo X1.here hx rfl (hb hby d12_4) rfl ((if0 _ _).trans (feq (by decide : ¬ ((1 : Int32) = (0 : Int32)))).1) kq) ?_
    show own_Go p.tables e below _ (T1.setTop (mkF m 7 #[.val (.ref sx), .val (.int j)] []))
    refine own_up (fun _ kq => XS.aloadN X1.here hx rfl (hb hby d12_7) rfl rfl kq) ?_
    show own_Go p.tables e below _ (T1.setTop (mkF m 8 #[.val (.ref sx), .val (.int j)] [(.ref sx)]))
    obtain ⟨T2, X2, e2, st2⟩ := getF X1 hx hZ hown (host := "") (Or.inl (hw _ (List.mem_of_getElem? (i := 26) rfl))) Via.refl e1 F_sx (g := (mkF m 8 #[.val (.ref sx), .val (.int j)] [(.ref sx)])) rfl rfl (hb hby d12_8)
    refine own_up st2 ?_
    show own_Go p.tables e below _ (T2.setTop (mkF m 11 #[.val (.ref sx), .val (.int j)] [(.ref tb)]))
    refine own_up (fun _ kq => XS.iloadN X2.here hx rfl (hb hby d12_11) rfl kq) ?_
    show own_Go p.tables e below _ (T2.setTop (mkF m 12 #[.val (.ref sx), .val (.int j)] [(.int j), (.ref tb)]))
    obtain ⟨_, _, ⟨T3, L3, k3, n3⟩, -, X3, ⟨Lc3, hQ3, l3, y3, z3⟩, st3⟩ := Jvm.LawKit.callS X2 hx (y := (⟨"java/lang/StringLatin1", "charAt", "([BI)C"⟩ : MethodName)) hown (mvT hZ (hw _ (List.mem_of_getElem? (i := 66) rfl))) (mvT hZ (hw _ (List.mem_of_getElem? (i := 67) rfl))) (mvT hZ (hw _ (List.mem_of_getElem? (i := 68) rfl))) (mvT hZ (hw _ (List.mem_of_getElem? (i := 69) rfl))) (by decide) (backOf (W := 0) (rmLC l Z a0 hw [] cz fv tb n f j (cs j.toNatClampNeg) h0 n0 ZH OO HW0 G_tb hj0 hjl (hf _ IX.2.2.2.2.2).1 (hch _).1 (hf _ IX.2.2.2.2.2).2) hZ (hw _ (List.mem_of_getElem? (i := 69) rfl)) (hw _ (List.mem_of_getElem? (i := 68) rfl)) (by decide) (by decide)) (g := (mkF m 12 #[.val (.ref sx), .val (.int j)] [(.int j), (.ref tb)])) rfl (by rw [hml]; rfl) (argsL := [(.ref tb), (.int j)]) (rest := []) (lenOf pd_4 rfl) rfl (by show 2 * 0 + _ ≤ _; exact Nat.le_of_eq rfl) (hb hby d12_12) (fun _ _ => ⟨rfl, e2, (by decide : 0 + 0 ≤ _), (by decide : 0 + 0 ≤ _)⟩)
    dsimp only [Pt.U, Pt.locs, Pt.cells, Pt.slots] at X3 l3 y3 z3 st3 hQ3
    subst l3 y3 z3
    obtain ⟨rfl, Nq3, e3⟩ := hQ3
    have N3 := Fr.app N1 Nq3
    refine own_up st3 ?_
    show own_Go p.tables e below _ (T3.setTop (mkF m 15 #[.val (.ref sx), .val (.int j)] [(.int (cs j.toNatClampNeg))]))
    obtain ⟨fs4, hr4, hrun4, hended4, hW4, hsame4⟩ := X3.leave (v := some (.int (nar .char (cs j.toNatClampNeg)))) (fun h => by rw [Bd.returns] at h; cases h)
    refine own_end ⟨_, _, ?_, hrun4, hended4, _, _, rfl, ?_, ⟨_, rfl⟩, hW4, hsame4.mono (by decide) (by decide)⟩
    · exact retN X3 hx (t := .char) Bd.returns (by simp) (hb hby d12_15) hr4
    · show QrmA Z cz fv sx tb n n2 cs j h0 n0 _ T3.heap _
      rw [e3]
      exact ⟨congrArg (fun z => some (Value.int z)) (own_narc (hch _).1 (hch _).2), N3, rfl⟩
  · show own_Go p.tables e below _ (s₁.setTop (mkF m 0 #[.val (.ref sx), .val (.int j)] []))
    refine own_up (fun _ kq => XS.aloadN X0.here hx rfl (hb hby d12_0) rfl rfl kq) ?_
    show own_Go p.tables e below _ (s₁.setTop (mkF m 1 #[.val (.ref sx), .val (.int j)] [(.ref sx)]))
    obtain ⟨cq5, kq5, q5a, q5b, q5c⟩ := isOf hZ e0 E_sx
    obtain ⟨_, _, ⟨T5, L5, k5, n5⟩, -, X5, ⟨Lc5, hQ5, l5, y5, z5⟩, st5⟩ := X0.virtualBack hx (y := (⟨"java/lang/String", "isLatin1", "()Z"⟩ : MethodName)) (z := (⟨"java/lang/String", "isLatin1", "()Z"⟩ : MethodName)) hown (mvT hZ (hw _ (List.mem_of_getElem? (i := 61) rfl))) (mvT hZ (hw _ (List.mem_of_getElem? (i := 62) rfl))) (notFace_of_selects (args := #[]) (mvT hZ (hw _ (List.mem_of_getElem? (i := 64) rfl)))) (mvT hZ (hw _ (List.mem_of_getElem? (i := 64) rfl))) (mvT hZ (hw _ (List.mem_of_getElem? (i := 63) rfl))) (by decide) (backOf (W := 0) (rmIL1 l Z a0 hw [] cz fv sx h0 n0 ZH OO HW0 C_sx) hZ (hw _ (List.mem_of_getElem? (i := 65) rfl)) (hw _ (List.mem_of_getElem? (i := 8) rfl)) (by decide) (by decide)) q5a q5c (g := (mkF m 1 #[.val (.ref sx), .val (.int j)] [(.ref sx)])) rfl (by rw [hml]; rfl) (Steps.refl _) (argsL := []) (rest := []) (lenOf pd_6 rfl) rfl (by show 2 * 0 + _ ≤ _; exact Nat.le_of_eq rfl) (hb hby d12_1) (fun _ _ => ⟨rfl, e0, (by decide : 0 + 0 ≤ _), (by decide : 0 + 0 ≤ _)⟩)
    dsimp only [Pt.U, Pt.locs, Pt.cells, Pt.slots] at X5 l5 y5 z5 st5 hQ5
    subst l5 y5 z5
    obtain ⟨rfl, Nq5, e5⟩ := hQ5
    have N5 := Fr.app N0 Nq5
    refine own_up (fun _ kq => st5.trans kq) ?_
    show own_Go p.tables e below _ (T5.setTop (mkF m 4 #[.val (.ref sx), .val (.int j)] [(.int (0 : Int32))]))
    refine own_up (fun _ kq => XS.ifYes X5.here hx rfl (pc0 := 4) (pc' := 16) rfl (hb hby d12_4) rfl ((if0 _ _).trans (teq (by decide : (0 : Int32) = (0 : Int32))).1) (by decide) (by decide) kq) ?_
    show own_Go p.tables e below _ (T5.setTop (mkF m 16 #[.val (.ref sx), .val (.int j)] []))
    refine own_up (fun _ kq => XS.aloadN X5.here hx rfl (hb hby d12_16) rfl rfl kq) ?_
    show own_Go p.tables e below _ (T5.setTop (mkF m 17 #[.val (.ref sx), .val (.int j)] [(.ref sx)]))
    obtain ⟨T6, X6, e6, st6⟩ := getF X5 hx hZ hown (host := "") (Or.inl (hw _ (List.mem_of_getElem? (i := 26) rfl))) Via.refl e5 F_sx (g := (mkF m 17 #[.val (.ref sx), .val (.int j)] [(.ref sx)])) rfl rfl (hb hby d12_17)
    refine own_up st6 ?_
    show own_Go p.tables e below _ (T6.setTop (mkF m 20 #[.val (.ref sx), .val (.int j)] [(.ref tb)]))
    refine own_up (fun _ kq => XS.iloadN X6.here hx rfl (hb hby d12_20) rfl kq) ?_
    show own_Go p.tables e below _ (T6.setTop (mkF m 21 #[.val (.ref sx), .val (.int j)] [(.int j), (.ref tb)]))
    obtain ⟨_, _, ⟨T7, L7, k7, n7⟩, -, X7, ⟨Lc7, hQ7, l7, y7, z7⟩, st7⟩ := Jvm.LawKit.callS X6 hx (y := (⟨"java/lang/StringUTF16", "charAt", "([BI)C"⟩ : MethodName)) hown (mvT hZ (hw _ (List.mem_of_getElem? (i := 100) rfl))) (mvT hZ (hw _ (List.mem_of_getElem? (i := 101) rfl))) (mvT hZ (hw _ (List.mem_of_getElem? (i := 45) rfl))) (mvT hZ (hw _ (List.mem_of_getElem? (i := 102) rfl))) (by decide) (backOf (W := 0) (rmUC l Z a0 hw [] cz fv tb n2 f j (j <<< ((1 : Int32) &&& 31)) (cs j.toNatClampNeg) h0 n0 ZH OO HW0 G_tb hj0 IX.2.2.2.2.1 rfl IX.1 IX.2.1 (by rw [IX.2.2.1]; exact (hf _ IX.2.2.2.2.2).1) (by rw [IX.2.2.2.1]; exact (hf _ IX.2.2.2.2.2).2) (hch _).1 (hch _).2) hZ (hw _ (List.mem_of_getElem? (i := 102) rfl)) (hw _ (List.mem_of_getElem? (i := 45) rfl)) (by decide) (by decide)) (g := (mkF m 21 #[.val (.ref sx), .val (.int j)] [(.int j), (.ref tb)])) rfl (by rw [hml]; rfl) (argsL := [(.ref tb), (.int j)]) (rest := []) (lenOf pd_4 rfl) rfl (by show 2 * 0 + _ ≤ _; exact Nat.le_of_eq rfl) (hb hby d12_21) (fun _ _ => ⟨rfl, e6, (by decide : 0 + 0 ≤ _), (by decide : 0 + 0 ≤ _)⟩)
    dsimp only [Pt.U, Pt.locs, Pt.cells, Pt.slots] at X7 l7 y7 z7 st7 hQ7
    subst l7 y7 z7
    obtain ⟨rfl, Nq7, e7⟩ := hQ7
    have N7 := Fr.app N5 Nq7
    refine own_up st7 ?_
    show own_Go p.tables e below _ (T7.setTop (mkF m 24 #[.val (.ref sx), .val (.int j)] [(.int (cs j.toNatClampNeg))]))
    obtain ⟨fs8, hr8, hrun8, hended8, hW8, hsame8⟩ := X7.leave (v := some (.int (nar .char (cs j.toNatClampNeg)))) (fun h => by rw [Bd.returns] at h; cases h)
    refine own_end ⟨_, _, ?_, hrun8, hended8, _, _, rfl, ?_, ⟨_, rfl⟩, hW8, hsame8.mono (by decide) (by decide)⟩
    · exact retN X7 hx (t := .char) Bd.returns (by simp) (hb hby d12_24) hr8
    · show QrmA Z cz fv sx tb n n2 cs j h0 n0 _ T7.heap _
      rw [e7]
      exact ⟨congrArg (fun z => some (Value.int z)) (own_narc (hch _).1 (hch _).2), N7, rfl⟩
theorem d5_4 : decode prog_35_method_6_code 4 = .ok (.iload_n 2, 1) := by decide +kernel
theorem d5_5 : decode prog_35_method_6_code 5 = .ok (.aload_n 0, 1) := by decide +kernel
theorem d5_6 : decode prog_35_method_6_code 6 = .ok (.invokevirtual 19, 3) := by decide +kernel
theorem pd_7 : parseMethodDescriptor "()I" = some ⟨[], some .int⟩ := by decide +kernel
theorem d5_9 : decode prog_35_method_6_code 9 = .ok (.if_icmp .ge 23, 3) := by decide +kernel
theorem d5_12 : decode prog_35_method_6_code 12 = .ok (.aload_n 0, 1) := by decide +kernel
theorem d5_13 : decode prog_35_method_6_code 13 = .ok (.iload_n 2, 1) := by decide +kernel
theorem d5_14 : decode prog_35_method_6_code 14 = .ok (.invokevirtual 31, 3) := by decide +kernel
theorem pd_8 : parseMethodDescriptor "(I)C" = some ⟨[.int], some .char⟩ := by decide +kernel
theorem d5_17 : decode prog_35_method_6_code 17 = .ok (.invokestatic 77, 3) := by decide +kernel
theorem pd_9 : parseMethodDescriptor "(C)Z" = some ⟨[.char], some .boolean⟩ := by decide +kernel
theorem d5_20 : decode prog_35_method_6_code 20 = .ok (.ifCond .eq 6, 3) := by decide +kernel
theorem d5_23 : decode prog_35_method_6_code 23 = .ok (.iinc 1 1, 3) := by decide +kernel
theorem d5_26 : decode prog_35_method_6_code 26 = .ok (.iinc 2 1, 3) := by decide +kernel
theorem d5_29 : decode prog_35_method_6_code 29 = .ok (.goto (-25), 3) := by decide +kernel
set_option maxRecDepth 65536 in
set_option maxHeartbeats 40000000 in
theorem tnD {p : Program} {l : Launch} {e : Env} {s : State} {m : MethodId} {args : Array Value} {below : List Frame} {meth : Method} {c : Code} {T0 : State} {locs : List Loc} {Z : State} {a0 : Array Value} {h0 : Heap} {n0 : Nat} {P : State → Outcome → Prop} {cz : Int32} {fv : Value} {sx : Addr} {tb : Addr} {n : Int32} {n2 : Int32} {cs : Nat → Int32} {acc : Int32} {vi : Int32}
    (X0 : Stand p l e ({ frames := 5, cells := 0, slots := 0, locals := 86 } : Room) s m args below meth c T0 locs 0 0) (hx : p.tables.exec = Jvm.exec) (hZ : Z.Warmed39 s.vm) (hw : ∀ d ∈ tables_1, d.before a0 Z = true) (hby : c.code = prog_35_method_6_code) (hml : c.maxLocals = 3) (hown : s.vm.findClass "com/example/checkoff_codex/checkoffcodex/io/ValueText" = some m.cls) (e0 : T0.heap = h0) (N0 : Fr n0 locs) (Z0 : n0 ≤ h0.size) (OO : Old Z n0 h0) (HW : own_W Z cz fv) (E_sx : Exa Z h0 sx "java/lang/String") (F_sx : Fld Z h0 sx "java/lang/String" "value" "[B" (.ref tb)) (hSX : own_SX Z h0 sx tb n n2 cs) (hch : own_ch cs) (hsm : own_sm n) (hn2 : (n <<< ((1 : Int32) &&& 31)) = n2) (hv0 : ¬ vi < 0) (hv : vi < n)
    (K : ∀ (T' : State) (locs' : List Loc), Stand p l e ({ frames := 5, cells := 0, slots := 0, locals := 86 } : Room) s m args below meth c T' locs' 0 0 → T'.heap = h0 → Fr n0 locs' → own_Go p.tables e below P (T'.setTop (mkF m 4 #[.val (.ref sx), .val (.int (own_add acc (cs vi.toNatClampNeg))), .val (.int (vi + (1 : Int32)))] []))) :
    own_Go p.tables e below P (T0.setTop (mkF m 4 #[.val (.ref sx), .val (.int acc), .val (.int vi)] [])) := by
  have ZH := Z0
  have KK := Keep.refl h0 []
  have HW0 := HW
  obtain ⟨SC, hcz, SF, hfv, SA, SH, SL⟩ := HW
  refine own_up (fun _ kq => XS.iloadN X0.here hx rfl (hb hby d5_4) rfl kq) ?_
  show own_Go p.tables e below _ (T0.setTop (mkF m 5 #[.val (.ref sx), .val (.int acc), .val (.int vi)] [(.int vi)]))
  refine own_up (fun _ kq => XS.aloadN X0.here hx rfl (hb hby d5_5) rfl rfl kq) ?_
  show own_Go p.tables e below _ (T0.setTop (mkF m 6 #[.val (.ref sx), .val (.int acc), .val (.int vi)] [(.ref sx), (.int vi)]))
  obtain ⟨cq1, kq1, q1a, q1b, q1c⟩ := isOf hZ e0 E_sx
  obtain ⟨_, _, ⟨T1, L1, k1, n1⟩, -, X1, ⟨Lc1, hQ1, l1, y1, z1⟩, st1⟩ := X0.virtualBack hx (y := (⟨"java/lang/String", "length", "()I"⟩ : MethodName)) (z := (⟨"java/lang/String", "length", "()I"⟩ : MethodName)) hown (mvT hZ (hw _ (List.mem_of_getElem? (i := 32) rfl))) (mvT hZ (hw _ (List.mem_of_getElem? (i := 33) rfl))) (notFace_of_selects (args := #[]) (mvT hZ (hw _ (List.mem_of_getElem? (i := 35) rfl)))) (mvT hZ (hw _ (List.mem_of_getElem? (i := 35) rfl))) (mvT hZ (hw _ (List.mem_of_getElem? (i := 34) rfl))) (by decide) (backOf (W := 1) (rmLn l Z a0 hw [] cz fv sx tb n n2 cs h0 n0 ZH OO HW0 E_sx F_sx hSX hch hsm hn2) hZ (hw _ (List.mem_of_getElem? (i := 36) rfl)) (hw _ (List.mem_of_getElem? (i := 8) rfl)) (by decide) (by decide)) q1a q1c (g := (mkF m 6 #[.val (.ref sx), .val (.int acc), .val (.int vi)] [(.ref sx), (.int vi)])) rfl (by rw [hml]; rfl) (Steps.refl _) (argsL := []) (rest := [(.int vi)]) (lenOf pd_7 rfl) rfl (by show 2 * 0 + _ ≤ _; exact Nat.le_of_eq rfl) (hb hby d5_6) (fun _ _ => ⟨rfl, e0, (by decide : 0 + 0 ≤ _), (by decide : 0 + 0 ≤ _)⟩)
  dsimp only [Pt.U, Pt.locs, Pt.cells, Pt.slots] at X1 l1 y1 z1 st1 hQ1
  subst l1 y1 z1
  obtain ⟨rfl, Nq1, e1⟩ := hQ1
  have N1 := Fr.app N0 Nq1
  refine own_up (fun _ kq => st1.trans kq) ?_
  show own_Go p.tables e below _ (T1.setTop (mkF m 9 #[.val (.ref sx), .val (.int acc), .val (.int vi)] [(.int n), (.int vi)]))
  refine own_up (fun _ kq => XS.icmpNo X1.here hx rfl (hb hby d5_9) rfl (tlt hv).2.1 kq) ?_
  show own_Go p.tables e below _ (T1.setTop (mkF m 12 #[.val (.ref sx), .val (.int acc), .val (.int vi)] []))
  refine own_up (fun _ kq => XS.aloadN X1.here hx rfl (hb hby d5_12) rfl rfl kq) ?_
  show own_Go p.tables e below _ (T1.setTop (mkF m 13 #[.val (.ref sx), .val (.int acc), .val (.int vi)] [(.ref sx)]))
  refine own_up (fun _ kq => XS.iloadN X1.here hx rfl (hb hby d5_13) rfl kq) ?_
  show own_Go p.tables e below _ (T1.setTop (mkF m 14 #[.val (.ref sx), .val (.int acc), .val (.int vi)] [(.int vi), (.ref sx)]))
  obtain ⟨cq2, kq2, q2a, q2b, q2c⟩ := isOf hZ e1 E_sx
  obtain ⟨_, _, ⟨T2, L2, k2, n2⟩, -, X2, ⟨Lc2, hQ2, l2, y2, z2⟩, st2⟩ := X1.virtualBack hx (y := (⟨"java/lang/String", "charAt", "(I)C"⟩ : MethodName)) (z := (⟨"java/lang/String", "charAt", "(I)C"⟩ : MethodName)) hown (mvT hZ (hw _ (List.mem_of_getElem? (i := 56) rfl))) (mvT hZ (hw _ (List.mem_of_getElem? (i := 57) rfl))) (notFace_of_selects (args := #[]) (mvT hZ (hw _ (List.mem_of_getElem? (i := 59) rfl)))) (mvT hZ (hw _ (List.mem_of_getElem? (i := 59) rfl))) (mvT hZ (hw _ (List.mem_of_getElem? (i := 58) rfl))) (by decide) (backOf (W := 0) (rmA l Z a0 hw [] cz fv sx tb n n2 cs vi h0 n0 ZH OO HW0 E_sx F_sx hSX hch hsm hn2 hv0 hv) hZ (hw _ (List.mem_of_getElem? (i := 60) rfl)) (hw _ (List.mem_of_getElem? (i := 8) rfl)) (by decide) (by decide)) q2a q2c (g := (mkF m 14 #[.val (.ref sx), .val (.int acc), .val (.int vi)] [(.int vi), (.ref sx)])) rfl (by rw [hml]; rfl) (Steps.refl _) (argsL := [(.int vi)]) (rest := []) (lenOf pd_8 rfl) rfl (by show 2 * 0 + _ ≤ _; exact Nat.le_of_eq rfl) (hb hby d5_14) (fun _ _ => ⟨rfl, e1, (by decide : 0 + 0 ≤ _), (by decide : 0 + 0 ≤ _)⟩)
  dsimp only [Pt.U, Pt.locs, Pt.cells, Pt.slots] at X2 l2 y2 z2 st2 hQ2
  subst l2 y2 z2
  obtain ⟨rfl, Nq2, e2⟩ := hQ2
  have N2 := Fr.app N1 Nq2
  refine own_up (fun _ kq => st2.trans kq) ?_
  show own_Go p.tables e below _ (T2.setTop (mkF m 17 #[.val (.ref sx), .val (.int acc), .val (.int vi)] [(.int (cs vi.toNatClampNeg))]))
  obtain ⟨_, _, ⟨T3, L3, k3, n3⟩, -, X3, ⟨Lc3, hQ3, l3, y3, z3⟩, st3⟩ := Jvm.LawKit.callS X2 hx (y := (⟨"com/example/checkoff_codex/checkoffcodex/io/ValueText", "isDigit", "(C)Z"⟩ : MethodName)) hown (mvT hZ (hw _ (List.mem_of_getElem? (i := 78) rfl))) (mvT hZ (hw _ (List.mem_of_getElem? (i := 79) rfl))) (mvT hZ (hw _ (List.mem_of_getElem? (i := 30) rfl))) (mvT hZ (hw _ (List.mem_of_getElem? (i := 80) rfl))) (by decide) (backOf (W := 0) (rmDg l Z a0 hw [] (cs vi.toNatClampNeg) h0 n0 ZH) hZ (hw _ (List.mem_of_getElem? (i := 80) rfl)) (hw _ (List.mem_of_getElem? (i := 30) rfl)) (by decide) (by decide)) (g := (mkF m 17 #[.val (.ref sx), .val (.int acc), .val (.int vi)] [(.int (cs vi.toNatClampNeg))])) rfl (by rw [hml]; rfl) (argsL := [(.int (cs vi.toNatClampNeg))]) (rest := []) (lenOf pd_9 rfl) rfl (by show 2 * 0 + _ ≤ _; exact Nat.le_of_eq rfl) (hb hby d5_17) (fun _ _ => ⟨rfl, e2, (by decide : 0 + 0 ≤ _), (by decide : 0 + 0 ≤ _)⟩)
  dsimp only [Pt.U, Pt.locs, Pt.cells, Pt.slots] at X3 l3 y3 z3 st3 hQ3
  subst l3 y3 z3
  obtain ⟨rfl, Nq3, e3⟩ := hQ3
  have N3 := Fr.app N2 Nq3
  refine own_up st3 ?_
  show own_Go p.tables e below _ (T3.setTop (mkF m 20 #[.val (.ref sx), .val (.int acc), .val (.int vi)] [(.int (own_dg (cs vi.toNatClampNeg)))]))
  obtain ⟨v20, hv20⟩ : ∃ z : Int32, z = if (own_dg (cs vi.toNatClampNeg)) = (0 : Int32) then acc else (acc + (1 : Int32)) := ⟨_, rfl⟩
  have sg4 : ∀ t, Steps p.tables e below (T3.setTop (mkF m 26 #[.val (.ref sx), .val (.int v20), .val (.int vi)] [])) t → Steps p.tables e below (T3.setTop (mkF m 20 #[.val (.ref sx), .val (.int acc), .val (.int vi)] [(.int (own_dg (cs vi.toNatClampNeg)))])) t := by
    intro t kq
    by_cases hc20 : (own_dg (cs vi.toNatClampNeg)) = (0 : Int32)
    · rw [hv20, if_pos hc20] at kq
      refine XS.ifYes X3.here hx rfl (pc0 := 20) (pc' := 26) rfl (hb hby d5_20) rfl ((if0 _ _).trans (teq hc20).1) (by decide) (by decide) ?_
      show Steps p.tables e below (T3.setTop (mkF m 26 #[.val (.ref sx), .val (.int acc), .val (.int vi)] [])) _
      exact kq
    · rw [hv20, if_neg hc20] at kq
      refine XS.ifNo X3.here hx rfl (hb hby d5_20) rfl ((if0 _ _).trans (feq hc20).1) ?_
      show Steps p.tables e below (T3.setTop (mkF m 23 #[.val (.ref sx), .val (.int acc), .val (.int vi)] [])) _
      refine XS.iinc X3.here hx rfl (hb hby d5_23) rfl (l' := #[.val (.ref sx), .val (.int (acc + (1 : Int32))), .val (.int vi)]) rfl ?_
      show Steps p.tables e below (T3.setTop (mkF m 26 #[.val (.ref sx), .val (.int (acc + (1 : Int32))), .val (.int vi)] [])) _
      exact kq
  refine own_up sg4 ?_
  show own_Go p.tables e below _ (T3.setTop (mkF m 26 #[.val (.ref sx), .val (.int v20), .val (.int vi)] []))
  rw [show v20 = own_add acc (cs vi.toNatClampNeg) from hv20]
  show own_Go p.tables e below _ (T3.setTop (mkF m 26 #[.val (.ref sx), .val (.int (own_add acc (cs vi.toNatClampNeg))), .val (.int vi)] []))
  refine own_up (fun _ kq => XS.iinc X3.here hx rfl (hb hby d5_26) rfl (l' := #[.val (.ref sx), .val (.int (own_add acc (cs vi.toNatClampNeg))), .val (.int (vi + (1 : Int32)))]) rfl kq) ?_
  show own_Go p.tables e below _ (T3.setTop (mkF m 29 #[.val (.ref sx), .val (.int (own_add acc (cs vi.toNatClampNeg))), .val (.int (vi + (1 : Int32)))] []))
  refine own_up (fun _ kq => XS.goto X3.here hx rfl (pc0 := 29) (pc' := 4) rfl (hb hby d5_29) (by decide) (by decide) kq) ?_
  show own_Go p.tables e below _ (T3.setTop (mkF m 4 #[.val (.ref sx), .val (.int (own_add acc (cs vi.toNatClampNeg))), .val (.int (vi + (1 : Int32)))] []))
  exact K _ _ X3 e3 N3
theorem d5_32 : decode prog_35_method_6_code 32 = .ok (.iload_n 1, 1) := by decide +kernel
set_option maxRecDepth 65536 in
set_option maxHeartbeats 40000000 in
theorem exD {p : Program} {l : Launch} {e : Env} {s : State} {m : MethodId} {args : Array Value} {below : List Frame} {meth : Method} {c : Code} {T0 : State} {locs : List Loc} {Z : State} {a0 : Array Value} {h0 : Heap} {n0 : Nat} {P : State → Outcome → Prop} {cz : Int32} {fv : Value} {sx : Addr} {tb : Addr} {n : Int32} {n2 : Int32} {cs : Nat → Int32} {acc : Int32} {vi : Int32}
    (X0 : Stand p l e ({ frames := 5, cells := 0, slots := 0, locals := 86 } : Room) s m args below meth c T0 locs 0 0) (hx : p.tables.exec = Jvm.exec) (hZ : Z.Warmed39 s.vm) (hw : ∀ d ∈ tables_1, d.before a0 Z = true) (hby : c.code = prog_35_method_6_code) (hml : c.maxLocals = 3) (hown : s.vm.findClass "com/example/checkoff_codex/checkoffcodex/io/ValueText" = some m.cls) (e0 : T0.heap = h0) (N0 : Fr n0 locs) (Z0 : n0 ≤ h0.size) (OO : Old Z n0 h0) (HW : own_W Z cz fv) (E_sx : Exa Z h0 sx "java/lang/String") (F_sx : Fld Z h0 sx "java/lang/String" "value" "[B" (.ref tb)) (hSX : own_SX Z h0 sx tb n n2 cs) (hch : own_ch cs) (hsm : own_sm n) (hn2 : (n <<< ((1 : Int32) &&& 31)) = n2) (hv : ¬ vi < n)
    (K : ∀ (T' : State) (locs' : List Loc), Stand p l e ({ frames := 5, cells := 0, slots := 0, locals := 86 } : Room) s m args below meth c T' locs' 0 0 → T'.heap = h0 → Fr n0 locs' → own_Go p.tables e below P (T'.setTop (mkF m 32 #[.val (.ref sx), .val (.int acc), .val (.int vi)] []))) :
    own_Go p.tables e below P (T0.setTop (mkF m 4 #[.val (.ref sx), .val (.int acc), .val (.int vi)] [])) := by
  have ZH := Z0
  have KK := Keep.refl h0 []
  have HW0 := HW
  obtain ⟨SC, hcz, SF, hfv, SA, SH, SL⟩ := HW
  refine own_up (fun _ kq => XS.iloadN X0.here hx rfl (hb hby d5_4) rfl kq) ?_
  show own_Go p.tables e below _ (T0.setTop (mkF m 5 #[.val (.ref sx), .val (.int acc), .val (.int vi)] [(.int vi)]))
  refine own_up (fun _ kq => XS.aloadN X0.here hx rfl (hb hby d5_5) rfl rfl kq) ?_
  show own_Go p.tables e below _ (T0.setTop (mkF m 6 #[.val (.ref sx), .val (.int acc), .val (.int vi)] [(.ref sx), (.int vi)]))
  obtain ⟨cq1, kq1, q1a, q1b, q1c⟩ := isOf hZ e0 E_sx
  obtain ⟨_, _, ⟨T1, L1, k1, n1⟩, -, X1, ⟨Lc1, hQ1, l1, y1, z1⟩, st1⟩ := X0.virtualBack hx (y := (⟨"java/lang/String", "length", "()I"⟩ : MethodName)) (z := (⟨"java/lang/String", "length", "()I"⟩ : MethodName)) hown (mvT hZ (hw _ (List.mem_of_getElem? (i := 32) rfl))) (mvT hZ (hw _ (List.mem_of_getElem? (i := 33) rfl))) (notFace_of_selects (args := #[]) (mvT hZ (hw _ (List.mem_of_getElem? (i := 35) rfl)))) (mvT hZ (hw _ (List.mem_of_getElem? (i := 35) rfl))) (mvT hZ (hw _ (List.mem_of_getElem? (i := 34) rfl))) (by decide) (backOf (W := 1) (rmLn l Z a0 hw [] cz fv sx tb n n2 cs h0 n0 ZH OO HW0 E_sx F_sx hSX hch hsm hn2) hZ (hw _ (List.mem_of_getElem? (i := 36) rfl)) (hw _ (List.mem_of_getElem? (i := 8) rfl)) (by decide) (by decide)) q1a q1c (g := (mkF m 6 #[.val (.ref sx), .val (.int acc), .val (.int vi)] [(.ref sx), (.int vi)])) rfl (by rw [hml]; rfl) (Steps.refl _) (argsL := []) (rest := [(.int vi)]) (lenOf pd_7 rfl) rfl (by show 2 * 0 + _ ≤ _; exact Nat.le_of_eq rfl) (hb hby d5_6) (fun _ _ => ⟨rfl, e0, (by decide : 0 + 0 ≤ _), (by decide : 0 + 0 ≤ _)⟩)
  dsimp only [Pt.U, Pt.locs, Pt.cells, Pt.slots] at X1 l1 y1 z1 st1 hQ1
  subst l1 y1 z1
  obtain ⟨rfl, Nq1, e1⟩ := hQ1
  have N1 := Fr.app N0 Nq1
  refine own_up (fun _ kq => st1.trans kq) ?_
  show own_Go p.tables e below _ (T1.setTop (mkF m 9 #[.val (.ref sx), .val (.int acc), .val (.int vi)] [(.int n), (.int vi)]))
  refine own_up (fun _ kq => XS.icmpYes X1.here hx rfl (pc0 := 9) (pc' := 32) rfl (hb hby d5_9) rfl (flt hv).2.1 (by decide) (by decide) kq) ?_
  show own_Go p.tables e below _ (T1.setTop (mkF m 32 #[.val (.ref sx), .val (.int acc), .val (.int vi)] []))
  exact K _ _ X1 e1 N1
theorem own_dgs {p : Program} {l : Launch} {e : Env} {s : State} {m : MethodId} {args : Array Value} {below : List Frame} {meth : Method} {c : Code} {Z : State} {a0 : Array Value} {n0 : Nat} {P : State → Outcome → Prop} {cz : Int32} {fv : Value} {sx : Addr} {tb : Addr} {n : Int32} {n2 : Int32} {cs : Nat → Int32} (hx : p.tables.exec = Jvm.exec) (hZ : Z.Warmed39 s.vm) (hw : ∀ d ∈ tables_1, d.before a0 Z = true) (hby : c.code = prog_35_method_6_code) (hml : c.maxLocals = 3) (hown : s.vm.findClass "com/example/checkoff_codex/checkoffcodex/io/ValueText" = some m.cls) {h0 : Heap} (Z0 : n0 ≤ h0.size) (OO : Old Z n0 h0) (HW : own_W Z cz fv) (E_sx : Exa Z h0 sx "java/lang/String") (F_sx : Fld Z h0 sx "java/lang/String" "value" "[B" (.ref tb)) (hSX : own_SX Z h0 sx tb n n2 cs) (hch : own_ch cs) (hsm : own_sm n) (hn2 : (n <<< ((1 : Int32) &&& 31)) = n2) :
    ∀ (k i : Nat) (vi acc : Int32) (T0 : State) (locs : List Loc), i + k = n.toNatClampNeg → vi.toInt = (i : Int) → acc = own_cf cs i → Stand p l e ({ frames := 5, cells := 0, slots := 0, locals := 86 } : Room) s m args below meth c T0 locs 0 0 → T0.heap = h0 → Fr n0 locs →
      (∀ (T' : State) (locs' : List Loc), Stand p l e ({ frames := 5, cells := 0, slots := 0, locals := 86 } : Room) s m args below meth c T' locs' 0 0 → T'.heap = h0 → Fr n0 locs' → own_Go p.tables e below P (T'.setTop (mkF m 32 #[.val (.ref sx), .val (.int (own_cf cs n.toNatClampNeg)), .val (.int n)] []))) → own_Go p.tables e below P (T0.setTop (mkF m 4 #[.val (.ref sx), .val (.int acc), .val (.int vi)] [])) := by
  intro k
  induction k with
  | zero =>
    intro i vi acc T0 locs hi hv ha X0 e0 N0 K
    have hvn : vi = n := own_eqn (own_smN hsm hn2).1 (by rw [hv]; omega)
    have hii : i = n.toNatClampNeg := by omega
    subst hvn
    subst hii
    subst ha
    exact exD X0 hx hZ hw hby hml hown e0 N0 Z0 OO HW E_sx F_sx hSX hch hsm hn2 (own_irr _) (fun T' locs' X e' N => K _ _ X e' N)
  | succ k ih =>
    intro i vi acc T0 locs hi hv ha X0 e0 N0 K
    have q := own_ltn (n := n) hv (by omega)
    refine tnD X0 hx hZ hw hby hml hown e0 N0 Z0 OO HW E_sx F_sx hSX hch hsm hn2 q.1 q.2.1 (fun T' locs' X e' N => ?_)
    exact ih (i + 1) (vi + (1 : Int32)) (own_add acc (cs vi.toNatClampNeg)) T' locs' (by omega) (own_succ (n := n) hv (by omega)) (by rw [q.2.2, ha]; rfl) X e' N K
theorem d5_0 : decode prog_35_method_6_code 0 = .ok (.iconst 0, 1) := by decide +kernel
theorem d5_1 : decode prog_35_method_6_code 1 = .ok (.istore_n 1, 1) := by decide +kernel
theorem d5_2 : decode prog_35_method_6_code 2 = .ok (.iconst 0, 1) := by decide +kernel
theorem d5_3 : decode prog_35_method_6_code 3 = .ok (.istore_n 2, 1) := by decide +kernel
theorem d5_33 : decode prog_35_method_6_code 33 = .ok (.ireturn, 1) := by decide +kernel
theorem ef_rmD (m : MethodId) (x0 : Addr) : entryFrame m #[(.ref x0)] 3 = mkF m 0 #[.val (.ref x0), .unset, .unset] [] := by first | (simp [entryFrame, mkF, argsToLocals, Value.category]; done) | rfl
def QrmD (Z : State) (cz : Int32) (fv : Value) (sx : Addr) (tb : Addr) (n : Int32) (n2 : Int32) (cs : Nat → Int32) (h0 : Heap) (n0 : Nat) (v : Option Value) (h : Heap) (L : List Loc) : Prop := v = some (.int (own_cf cs n.toNatClampNeg)) ∧ Fr n0 L ∧ h = h0
set_option maxRecDepth 65536 in
set_option maxHeartbeats 40000000 in
theorem rmD (l : Launch) (Z : State) (a0 : Array Value) (hw : ∀ d ∈ tables_1, d.before a0 Z = true) (ws : List Jvm.Cond) (cz : Int32) (fv : Value) (sx : Addr) (tb : Addr) (n : Int32) (n2 : Int32) (cs : Nat → Int32) (h0 : Heap) (n0 : Nat) (Z0 : n0 ≤ h0.size) (OO : Old Z n0 h0) (HW : own_W Z cz fv) (E_sx : Exa Z h0 sx "java/lang/String") (F_sx : Fld Z h0 sx "java/lang/String" "value" "[B" (.ref tb)) (hSX : own_SX Z h0 sx tb n n2 cs) (hch : own_ch cs) (hsm : own_sm n) (hn2 : (n <<< ((1 : Int32) &&& 31)) = n2) :
    MetFree l (⟨"com/example/checkoff_codex/checkoffcodex/io/ValueText", "digits", "(Ljava/lang/String;)I"⟩ : MethodName) (head1 (Jvm.Cond.code (⟨"com/example/checkoff_codex/checkoffcodex/io/ValueText", "digits", "(Ljava/lang/String;)I"⟩ : MethodName) prog_35_method_6_code 3 (some .int) :: ws) ({ frames := 5, cells := 0, slots := 0, locals := 86 } : Room)) (fun aq Uq => aq = #[(.ref sx)] ∧ Z.Warmed39 Uq.vm ∧ Uq.heap = h0) (fun _ _ _ _ _ => True) (fun _ Uq oq Uq' => ∃ vq Lq, oq = .returned vq ∧ QrmD Z cz fv sx tb n n2 cs h0 n0 vq Uq'.heap Lq ∧ FrameEnd Uq oq Uq' Lq ({ frames := 5, cells := 0, slots := 0, locals := 86 } : Room).cells ({ frames := 5, cells := 0, slots := 0, locals := 86 } : Room).slots) := by
  refine MetFree.of_bodySF (plainFor_of_name pn_0) hisR ?_
  intro p e s m args below meth c s₁ Bd hml0 hP hK
  obtain ⟨rfl, hZ, hh⟩ := hP
  have hx := Bd.exec
  have hby := Bd.bytes
  have hml : c.maxLocals = 3 := hml0
  have hown : s.vm.findClass "com/example/checkoff_codex/checkoffcodex/io/ValueText" = some m.cls := findClass_of_methodNamed Bd.named
  have hnm := (name_of_methodNamed Bd.named Bd.method).1
  have X0 : Stand p l e ({ frames := 5, cells := 0, slots := 0, locals := 86 } : Room) s m #[(.ref sx)] below meth c s₁ [] 0 0 := Stand.of_body Bd
  have e0 : s₁.heap = h0 := by rw [← hh, Bd.state]; rfl
  have N0 := Fr.nil n0
  have ZH := Z0
  have KK := Keep.refl h0 []
  refine own_start (fun t kq => castTop (ef_rmD m sx) kq) ?_
  show own_Go p.tables e below _ (s₁.setTop (mkF m 0 #[.val (.ref sx), .unset, .unset] []))
  have HW0 := HW
  obtain ⟨SC, hcz, SF, hfv, SA, SH, SL⟩ := HW
  refine own_up (fun _ kq => XS.iconst X0.here hx rfl (hb hby d5_0) kq) ?_
  show own_Go p.tables e below _ (s₁.setTop (mkF m 1 #[.val (.ref sx), .unset, .unset] [(.int (0 : Int32))]))
  refine own_up (fun _ kq => XS.istoreN X0.here hx rfl (hb hby d5_1) rfl (l' := #[.val (.ref sx), .val (.int (0 : Int32)), .unset]) rfl kq) ?_
  show own_Go p.tables e below _ (s₁.setTop (mkF m 2 #[.val (.ref sx), .val (.int (0 : Int32)), .unset] []))
  refine own_up (fun _ kq => XS.iconst X0.here hx rfl (hb hby d5_2) kq) ?_
  show own_Go p.tables e below _ (s₁.setTop (mkF m 3 #[.val (.ref sx), .val (.int (0 : Int32)), .unset] [(.int (0 : Int32))]))
  refine own_up (fun _ kq => XS.istoreN X0.here hx rfl (hb hby d5_3) rfl (l' := #[.val (.ref sx), .val (.int (0 : Int32)), .val (.int (0 : Int32))]) rfl kq) ?_
  show own_Go p.tables e below _ (s₁.setTop (mkF m 4 #[.val (.ref sx), .val (.int (0 : Int32)), .val (.int (0 : Int32))] []))
  refine own_dgs hx hZ hw hby hml hown ZH OO HW0 E_sx F_sx hSX hch hsm hn2 n.toNatClampNeg 0 (0 : Int32) (0 : Int32) _ _ (by omega) (by decide) rfl X0 e0 N0 (fun T1 l1 X1 e1 N1 => ?_)
  show own_Go p.tables e below _ (T1.setTop (mkF m 32 #[.val (.ref sx), .val (.int (own_cf cs n.toNatClampNeg)), .val (.int n)] []))
  refine own_up (fun _ kq => XS.iloadN X1.here hx rfl (hb hby d5_32) rfl kq) ?_
  show own_Go p.tables e below _ (T1.setTop (mkF m 33 #[.val (.ref sx), .val (.int (own_cf cs n.toNatClampNeg)), .val (.int n)] [(.int (own_cf cs n.toNatClampNeg))]))
  obtain ⟨fs2, hr2, hrun2, hended2, hW2, hsame2⟩ := X1.leave (v := some (.int (own_cf cs n.toNatClampNeg))) (fun h => by rw [Bd.returns] at h; cases h)
  refine own_end ⟨_, _, ?_, hrun2, hended2, _, _, rfl, ?_, ⟨_, rfl⟩, hW2, hsame2.mono (by decide) (by decide)⟩
  · exact retOut X1 hx Bd.returns rfl (Or.inl ⟨rfl, Or.inl rfl, _, rfl⟩) (hb hby d5_33) hr2
  · show QrmD Z cz fv sx tb n n2 cs h0 n0 _ T1.heap _
    rw [e1]
    exact ⟨rfl, N1, rfl⟩
theorem d10_0 : decode jdk_52_method_15_code 0 = .ok (.iload_n 1, 1) := by decide +kernel
theorem d10_1 : decode jdk_52_method_15_code 1 = .ok (.aload_n 0, 1) := by decide +kernel
theorem d10_2 : decode jdk_52_method_15_code 2 = .ok (.arraylength, 1) := by decide +kernel
theorem d10_3 : decode jdk_52_method_15_code 3 = .ok (.isub, 1) := by decide +kernel
theorem d10_4 : decode jdk_52_method_15_code 4 = .ok (.bipush 31, 2) := by decide +kernel
theorem d10_6 : decode jdk_52_method_15_code 6 = .ok (.iushr, 1) := by decide +kernel
theorem d10_7 : decode jdk_52_method_15_code 7 = .ok (.i2b, 1) := by decide +kernel
theorem d10_8 : decode jdk_52_method_15_code 8 = .ok (.ireturn, 1) := by decide +kernel
theorem ef_rmCF0 (m : MethodId) (x0 : Addr) (x1 : Int32) : entryFrame m #[(.ref x0), (.int x1)] 2 = mkF m 0 #[.val (.ref x0), .val (.int x1)] [] := by first | (simp [entryFrame, mkF, argsToLocals, Value.category]; done) | rfl
def QrmCF0 (Z : State) (tb : Addr) (nn : Int32) (f : Nat → Value) (k0 : Int32) (h0 : Heap) (n0 : Nat) (v : Option Value) (h : Heap) (L : List Loc) : Prop := v = some (.int 0) ∧ Fr n0 L ∧ h = h0
set_option maxRecDepth 65536 in
set_option maxHeartbeats 40000000 in
theorem rmCF0 (l : Launch) (Z : State) (a0 : Array Value) (hw : ∀ d ∈ tables_1, d.before a0 Z = true) (ws : List Jvm.Cond) (tb : Addr) (nn : Int32) (f : Nat → Value) (k0 : Int32) (h0 : Heap) (n0 : Nat) (Z0 : n0 ≤ h0.size) (G_tb : own_Arf Z h0 tb .byte nn f) (hM : (((k0 - nn).toUInt32 >>> ((31 : Int32) &&& 31).toUInt32).toInt32).toInt8.toInt32 = (0 : Int32)) :
    MetFree l (⟨"java/lang/StringUTF16", "coderFromArrayLen", "([BI)B"⟩ : MethodName) (head1 (Jvm.Cond.code (⟨"java/lang/StringUTF16", "coderFromArrayLen", "([BI)B"⟩ : MethodName) jdk_52_method_15_code 2 (some .byte) :: ws) ({ frames := 0, cells := 0, slots := 0, locals := 0 } : Room)) (fun aq Uq => aq = #[(.ref tb), (.int k0)] ∧ Z.Warmed39 Uq.vm ∧ Uq.heap = h0) (fun _ _ _ _ _ => True) (fun _ Uq oq Uq' => ∃ vq Lq, oq = .returned vq ∧ QrmCF0 Z tb nn f k0 h0 n0 vq Uq'.heap Lq ∧ FrameEnd Uq oq Uq' Lq ({ frames := 0, cells := 0, slots := 0, locals := 0 } : Room).cells ({ frames := 0, cells := 0, slots := 0, locals := 0 } : Room).slots) := by
  refine MetFree.of_bodySF (plainFor_of_name pn_5) hisR ?_
  intro p e s m args below meth c s₁ Bd hml0 hP hK
  obtain ⟨rfl, hZ, hh⟩ := hP
  have hx := Bd.exec
  have hby := Bd.bytes
  have hml : c.maxLocals = 2 := hml0
  have hown : s.vm.findClass "java/lang/StringUTF16" = some m.cls := findClass_of_methodNamed Bd.named
  have hnm := (name_of_methodNamed Bd.named Bd.method).1
  have X0 : Stand p l e ({ frames := 0, cells := 0, slots := 0, locals := 0 } : Room) s m #[(.ref tb), (.int k0)] below meth c s₁ [] 0 0 := Stand.of_body Bd
  have e0 : s₁.heap = h0 := by rw [← hh, Bd.state]; rfl
  have N0 := Fr.nil n0
  have ZH := Z0
  have KK := Keep.refl h0 []
  refine own_start (fun t kq => castTop (ef_rmCF0 m tb k0) kq) ?_
  show own_Go p.tables e below _ (s₁.setTop (mkF m 0 #[.val (.ref tb), .val (.int k0)] []))
  refine own_up (fun _ kq => XS.iloadN X0.here hx rfl (hb hby d10_0) rfl kq) ?_
  show own_Go p.tables e below _ (s₁.setTop (mkF m 1 #[.val (.ref tb), .val (.int k0)] [(.int k0)]))
  refine own_up (fun _ kq => XS.aloadN X0.here hx rfl (hb hby d10_1) rfl rfl kq) ?_
  show own_Go p.tables e below _ (s₁.setTop (mkF m 2 #[.val (.ref tb), .val (.int k0)] [(.ref tb), (.int k0)]))
  refine own_up (fun _ kq => own_Arf.alen G_tb X0 hx hZ e0 (g := (mkF m 2 #[.val (.ref tb), .val (.int k0)] [(.ref tb), (.int k0)])) rfl rfl (hb hby d10_2) _ kq) ?_
  show own_Go p.tables e below _ (s₁.setTop (mkF m 3 #[.val (.ref tb), .val (.int k0)] [(.int nn), (.int k0)]))
  refine own_up (fun _ kq => XS.isub X0.here hx rfl (hb hby d10_3) rfl kq) ?_
  show own_Go p.tables e below _ (s₁.setTop (mkF m 4 #[.val (.ref tb), .val (.int k0)] [(.int (k0 - nn))]))
  refine own_up (fun _ kq => XS.bipush X0.here hx rfl (hb hby d10_4) kq) ?_
  show own_Go p.tables e below _ (s₁.setTop (mkF m 6 #[.val (.ref tb), .val (.int k0)] [(.int (31 : Int32)), (.int (k0 - nn))]))
  refine own_up (fun _ kq => XS.iushr X0.here hx rfl (hb hby d10_6) rfl kq) ?_
  show own_Go p.tables e below _ (s₁.setTop (mkF m 7 #[.val (.ref tb), .val (.int k0)] [(.int (((k0 - nn).toUInt32 >>> ((31 : Int32) &&& 31).toUInt32).toInt32))]))
  refine own_up (fun _ kq => XS.i2b X0.here hx rfl (hb hby d10_7) rfl kq) ?_
  show own_Go p.tables e below _ (s₁.setTop (mkF m 8 #[.val (.ref tb), .val (.int k0)] [(.int (((k0 - nn).toUInt32 >>> ((31 : Int32) &&& 31).toUInt32).toInt32).toInt8.toInt32)]))
  obtain ⟨fs1, hr1, hrun1, hended1, hW1, hsame1⟩ := X0.leave (v := some (.int (nar .byte (((k0 - nn).toUInt32 >>> ((31 : Int32) &&& 31).toUInt32).toInt32).toInt8.toInt32))) (fun h => by rw [Bd.returns] at h; cases h)
  refine own_end ⟨_, _, ?_, hrun1, hended1, _, _, rfl, ?_, ⟨_, rfl⟩, hW1, hsame1.mono (by decide) (by decide)⟩
  · exact retN X0 hx (t := .byte) Bd.returns (by simp) (hb hby d10_8) hr1
  · show QrmCF0 Z tb nn f k0 h0 n0 _ s₁.heap _
    rw [e0]
    exact ⟨by rw [hM]; rfl, N0, rfl⟩
theorem ef_rmCF1 (m : MethodId) (x0 : Addr) (x1 : Int32) : entryFrame m #[(.ref x0), (.int x1)] 2 = mkF m 0 #[.val (.ref x0), .val (.int x1)] [] := by first | (simp [entryFrame, mkF, argsToLocals, Value.category]; done) | rfl
def QrmCF1 (Z : State) (tb : Addr) (nn : Int32) (f : Nat → Value) (k0 : Int32) (h0 : Heap) (n0 : Nat) (v : Option Value) (h : Heap) (L : List Loc) : Prop := v = some (.int 1) ∧ Fr n0 L ∧ h = h0
set_option maxRecDepth 65536 in
set_option maxHeartbeats 40000000 in
theorem rmCF1 (l : Launch) (Z : State) (a0 : Array Value) (hw : ∀ d ∈ tables_1, d.before a0 Z = true) (ws : List Jvm.Cond) (tb : Addr) (nn : Int32) (f : Nat → Value) (k0 : Int32) (h0 : Heap) (n0 : Nat) (Z0 : n0 ≤ h0.size) (G_tb : own_Arf Z h0 tb .byte nn f) (hM : (((k0 - nn).toUInt32 >>> ((31 : Int32) &&& 31).toUInt32).toInt32).toInt8.toInt32 = (1 : Int32)) :
    MetFree l (⟨"java/lang/StringUTF16", "coderFromArrayLen", "([BI)B"⟩ : MethodName) (head1 (Jvm.Cond.code (⟨"java/lang/StringUTF16", "coderFromArrayLen", "([BI)B"⟩ : MethodName) jdk_52_method_15_code 2 (some .byte) :: ws) ({ frames := 0, cells := 0, slots := 0, locals := 0 } : Room)) (fun aq Uq => aq = #[(.ref tb), (.int k0)] ∧ Z.Warmed39 Uq.vm ∧ Uq.heap = h0) (fun _ _ _ _ _ => True) (fun _ Uq oq Uq' => ∃ vq Lq, oq = .returned vq ∧ QrmCF1 Z tb nn f k0 h0 n0 vq Uq'.heap Lq ∧ FrameEnd Uq oq Uq' Lq ({ frames := 0, cells := 0, slots := 0, locals := 0 } : Room).cells ({ frames := 0, cells := 0, slots := 0, locals := 0 } : Room).slots) := by
  refine MetFree.of_bodySF (plainFor_of_name pn_5) hisR ?_
  intro p e s m args below meth c s₁ Bd hml0 hP hK
  obtain ⟨rfl, hZ, hh⟩ := hP
  have hx := Bd.exec
  have hby := Bd.bytes
  have hml : c.maxLocals = 2 := hml0
  have hown : s.vm.findClass "java/lang/StringUTF16" = some m.cls := findClass_of_methodNamed Bd.named
  have hnm := (name_of_methodNamed Bd.named Bd.method).1
  have X0 : Stand p l e ({ frames := 0, cells := 0, slots := 0, locals := 0 } : Room) s m #[(.ref tb), (.int k0)] below meth c s₁ [] 0 0 := Stand.of_body Bd
  have e0 : s₁.heap = h0 := by rw [← hh, Bd.state]; rfl
  have N0 := Fr.nil n0
  have ZH := Z0
  have KK := Keep.refl h0 []
  refine own_start (fun t kq => castTop (ef_rmCF1 m tb k0) kq) ?_
  show own_Go p.tables e below _ (s₁.setTop (mkF m 0 #[.val (.ref tb), .val (.int k0)] []))
  refine own_up (fun _ kq => XS.iloadN X0.here hx rfl (hb hby d10_0) rfl kq) ?_
  show own_Go p.tables e below _ (s₁.setTop (mkF m 1 #[.val (.ref tb), .val (.int k0)] [(.int k0)]))
  refine own_up (fun _ kq => XS.aloadN X0.here hx rfl (hb hby d10_1) rfl rfl kq) ?_
  show own_Go p.tables e below _ (s₁.setTop (mkF m 2 #[.val (.ref tb), .val (.int k0)] [(.ref tb), (.int k0)]))
  refine own_up (fun _ kq => own_Arf.alen G_tb X0 hx hZ e0 (g := (mkF m 2 #[.val (.ref tb), .val (.int k0)] [(.ref tb), (.int k0)])) rfl rfl (hb hby d10_2) _ kq) ?_
  show own_Go p.tables e below _ (s₁.setTop (mkF m 3 #[.val (.ref tb), .val (.int k0)] [(.int nn), (.int k0)]))
  refine own_up (fun _ kq => XS.isub X0.here hx rfl (hb hby d10_3) rfl kq) ?_
  show own_Go p.tables e below _ (s₁.setTop (mkF m 4 #[.val (.ref tb), .val (.int k0)] [(.int (k0 - nn))]))
  refine own_up (fun _ kq => XS.bipush X0.here hx rfl (hb hby d10_4) kq) ?_
  show own_Go p.tables e below _ (s₁.setTop (mkF m 6 #[.val (.ref tb), .val (.int k0)] [(.int (31 : Int32)), (.int (k0 - nn))]))
  refine own_up (fun _ kq => XS.iushr X0.here hx rfl (hb hby d10_6) rfl kq) ?_
  show own_Go p.tables e below _ (s₁.setTop (mkF m 7 #[.val (.ref tb), .val (.int k0)] [(.int (((k0 - nn).toUInt32 >>> ((31 : Int32) &&& 31).toUInt32).toInt32))]))
  refine own_up (fun _ kq => XS.i2b X0.here hx rfl (hb hby d10_7) rfl kq) ?_
  show own_Go p.tables e below _ (s₁.setTop (mkF m 8 #[.val (.ref tb), .val (.int k0)] [(.int (((k0 - nn).toUInt32 >>> ((31 : Int32) &&& 31).toUInt32).toInt32).toInt8.toInt32)]))
  obtain ⟨fs1, hr1, hrun1, hended1, hW1, hsame1⟩ := X0.leave (v := some (.int (nar .byte (((k0 - nn).toUInt32 >>> ((31 : Int32) &&& 31).toUInt32).toInt32).toInt8.toInt32))) (fun h => by rw [Bd.returns] at h; cases h)
  refine own_end ⟨_, _, ?_, hrun1, hended1, _, _, rfl, ?_, ⟨_, rfl⟩, hW1, hsame1.mono (by decide) (by decide)⟩
  · exact retN X0 hx (t := .byte) Bd.returns (by simp) (hb hby d10_8) hr1
  · show QrmCF1 Z tb nn f k0 h0 n0 _ s₁.heap _
    rw [e0]
    exact ⟨by rw [hM]; rfl, N0, rfl⟩
theorem d9_3 : decode jdk_52_method_21_code 3 = .ok (.iload 5, 2) := by decide +kernel
theorem d9_5 : decode jdk_52_method_21_code 5 = .ok (.iload 4, 2) := by decide +kernel
theorem d9_7 : decode jdk_52_method_21_code 7 = .ok (.if_icmp .ge 37, 3) := by decide +kernel
theorem d9_10 : decode jdk_52_method_21_code 10 = .ok (.aload_n 0, 1) := by decide +kernel
theorem d9_11 : decode jdk_52_method_21_code 11 = .ok (.iload_n 1, 1) := by decide +kernel
theorem d9_12 : decode jdk_52_method_21_code 12 = .ok (.caload, 1) := by decide +kernel
theorem d9_13 : decode jdk_52_method_21_code 13 = .ok (.istore 6, 2) := by decide +kernel
theorem d9_15 : decode jdk_52_method_21_code 15 = .ok (.iload 6, 2) := by decide +kernel
theorem d9_17 : decode jdk_52_method_21_code 17 = .ok (.sipush 255, 3) := by decide +kernel
theorem d9_20 : decode jdk_52_method_21_code 20 = .ok (.if_icmp .le 6, 3) := by decide +kernel
theorem d9_26 : decode jdk_52_method_21_code 26 = .ok (.aload_n 2, 1) := by decide +kernel
theorem d9_27 : decode jdk_52_method_21_code 27 = .ok (.iload_n 3, 1) := by decide +kernel
theorem d9_28 : decode jdk_52_method_21_code 28 = .ok (.iload 6, 2) := by decide +kernel
theorem d9_30 : decode jdk_52_method_21_code 30 = .ok (.i2b, 1) := by decide +kernel
theorem d9_31 : decode jdk_52_method_21_code 31 = .ok (.bastore, 1) := by decide +kernel
theorem d9_32 : decode jdk_52_method_21_code 32 = .ok (.iinc 1 1, 3) := by decide +kernel
theorem d9_35 : decode jdk_52_method_21_code 35 = .ok (.iinc 3 1, 3) := by decide +kernel
theorem d9_38 : decode jdk_52_method_21_code 38 = .ok (.iinc 5 1, 3) := by decide +kernel
theorem d9_41 : decode jdk_52_method_21_code 41 = .ok (.goto (-38), 3) := by decide +kernel
set_option maxRecDepth 65536 in
set_option maxHeartbeats 40000000 in
theorem tnX {p : Program} {l : Launch} {e : Env} {R : Room} {s : State} {m : MethodId} {args : Array Value} {below : List Frame} {meth : Method} {c : Code} {T0 : State} {locs : List Loc} {cells slots : Nat} {Z : State} {a0 : Array Value} {h0 : Heap} {n0 : Nat} {P : State → Outcome → Prop} {sa : Addr} {db : Addr} {nn : Int32} {cs : Nat → Int32} {u : Nat → Int32} {vi : Int32} {s6 : Slot}
    (X0 : Stand p l e R s m args below meth c T0 locs cells slots) (hx : p.tables.exec = Jvm.exec) (hZ : Z.Warmed39 s.vm) (hw : ∀ d ∈ tables_1, d.before a0 Z = true) (hby : c.code = jdk_52_method_21_code) (hml : c.maxLocals = 7) (hown : s.vm.findClass "java/lang/StringUTF16" = some m.cls) (e0 : T0.heap = h0) (N0 : Fr n0 locs) (Z0 : n0 ≤ h0.size) (G_sa : own_Arf Z h0 sa .char nn (fun iq => .int (cs iq))) (G_db : own_Arf Z h0 db .byte nn (fun iq => .int (u iq))) (g_db : n0 ≤ db) (ne_sa_db : sa ≠ db) (hs6 : One s6) (hv0 : ¬ vi < 0) (hv : vi < nn) (h255 : ¬ (255 : Int32) < (cs vi.toNatClampNeg))
    (K : ∀ (T' : State) (h' : Heap) (locs' : List Loc), Stand p l e R s m args below meth c T' locs' cells slots → T'.heap = h' → Fr n0 locs' → (Keep h0 h' [db]) → (own_Arf Z h' sa .char nn (fun iq => .int (cs iq))) → (own_Arf Z h' db .byte nn (fun iq => .int (own_upd u vi (StrChars.lo8 (cs vi.toNatClampNeg)) iq))) → own_Go p.tables e below P (T'.setTop (mkF m 3 #[.val (.ref sa), .val (.int (vi + (1 : Int32))), .val (.ref db), .val (.int (vi + (1 : Int32))), .val (.int nn), .val (.int (vi + (1 : Int32))), .val (.int (cs (vi).toNatClampNeg))] []))) :
    own_Go p.tables e below P (T0.setTop (mkF m 3 #[.val (.ref sa), .val (.int vi), .val (.ref db), .val (.int vi), .val (.int nn), .val (.int vi), s6] [])) := by
  have ZH := Z0
  have KK := Keep.refl h0 [db]
  refine own_up (fun _ kq => XS.iload X0.here hx rfl (hb hby d9_3) rfl kq) ?_
  show own_Go p.tables e below _ (T0.setTop (mkF m 5 #[.val (.ref sa), .val (.int vi), .val (.ref db), .val (.int vi), .val (.int nn), .val (.int vi), s6] [(.int vi)]))
  refine own_up (fun _ kq => XS.iload X0.here hx rfl (hb hby d9_5) rfl kq) ?_
  show own_Go p.tables e below _ (T0.setTop (mkF m 7 #[.val (.ref sa), .val (.int vi), .val (.ref db), .val (.int vi), .val (.int nn), .val (.int vi), s6] [(.int nn), (.int vi)]))
  refine own_up (fun _ kq => XS.icmpNo X0.here hx rfl (hb hby d9_7) rfl (tlt hv).2.1 kq) ?_
  show own_Go p.tables e below _ (T0.setTop (mkF m 10 #[.val (.ref sa), .val (.int vi), .val (.ref db), .val (.int vi), .val (.int nn), .val (.int vi), s6] []))
  refine own_up (fun _ kq => XS.aloadN X0.here hx rfl (hb hby d9_10) rfl rfl kq) ?_
  show own_Go p.tables e below _ (T0.setTop (mkF m 11 #[.val (.ref sa), .val (.int vi), .val (.ref db), .val (.int vi), .val (.int nn), .val (.int vi), s6] [(.ref sa)]))
  refine own_up (fun _ kq => XS.iloadN X0.here hx rfl (hb hby d9_11) rfl kq) ?_
  show own_Go p.tables e below _ (T0.setTop (mkF m 12 #[.val (.ref sa), .val (.int vi), .val (.ref db), .val (.int vi), .val (.int nn), .val (.int vi), s6] [(.int vi), (.ref sa)]))
  refine own_up (fun _ kq => own_Arf.caload G_sa X0 hx hZ e0 hv0 hv (v := (.int (cs (vi).toNatClampNeg))) rfl (g := (mkF m 12 #[.val (.ref sa), .val (.int vi), .val (.ref db), .val (.int vi), .val (.int nn), .val (.int vi), s6] [(.int vi), (.ref sa)])) rfl rfl (hb hby d9_12) _ kq) ?_
  show own_Go p.tables e below _ (T0.setTop (mkF m 13 #[.val (.ref sa), .val (.int vi), .val (.ref db), .val (.int vi), .val (.int nn), .val (.int vi), s6] [(.int (cs (vi).toNatClampNeg))]))
  refine own_up (fun _ kq => XS.istoreS X0.here hx rfl (hb hby d9_13) rfl rfl hs6 kq) ?_
  show own_Go p.tables e below _ (T0.setTop (mkF m 15 #[.val (.ref sa), .val (.int vi), .val (.ref db), .val (.int vi), .val (.int nn), .val (.int vi), .val (.int (cs (vi).toNatClampNeg))] []))
  refine own_up (fun _ kq => XS.iload X0.here hx rfl (hb hby d9_15) rfl kq) ?_
  show own_Go p.tables e below _ (T0.setTop (mkF m 17 #[.val (.ref sa), .val (.int vi), .val (.ref db), .val (.int vi), .val (.int nn), .val (.int vi), .val (.int (cs (vi).toNatClampNeg))] [(.int (cs (vi).toNatClampNeg))]))
  refine own_up (fun _ kq => XS.sipush X0.here hx rfl (hb hby d9_17) kq) ?_
  show own_Go p.tables e below _ (T0.setTop (mkF m 20 #[.val (.ref sa), .val (.int vi), .val (.ref db), .val (.int vi), .val (.int nn), .val (.int vi), .val (.int (cs (vi).toNatClampNeg))] [(.int (255 : Int32)), (.int (cs (vi).toNatClampNeg))]))
  refine own_up (fun _ kq => XS.icmpYes X0.here hx rfl (pc0 := 20) (pc' := 26) rfl (hb hby d9_20) rfl (flt h255).2.2.2 (by decide) (by decide) kq) ?_
  show own_Go p.tables e below _ (T0.setTop (mkF m 26 #[.val (.ref sa), .val (.int vi), .val (.ref db), .val (.int vi), .val (.int nn), .val (.int vi), .val (.int (cs (vi).toNatClampNeg))] []))
  refine own_up (fun _ kq => XS.aloadN X0.here hx rfl (hb hby d9_26) rfl rfl kq) ?_
  show own_Go p.tables e below _ (T0.setTop (mkF m 27 #[.val (.ref sa), .val (.int vi), .val (.ref db), .val (.int vi), .val (.int nn), .val (.int vi), .val (.int (cs (vi).toNatClampNeg))] [(.ref db)]))
  refine own_up (fun _ kq => XS.iloadN X0.here hx rfl (hb hby d9_27) rfl kq) ?_
  show own_Go p.tables e below _ (T0.setTop (mkF m 28 #[.val (.ref sa), .val (.int vi), .val (.ref db), .val (.int vi), .val (.int nn), .val (.int vi), .val (.int (cs (vi).toNatClampNeg))] [(.int vi), (.ref db)]))
  refine own_up (fun _ kq => XS.iload X0.here hx rfl (hb hby d9_28) rfl kq) ?_
  show own_Go p.tables e below _ (T0.setTop (mkF m 30 #[.val (.ref sa), .val (.int vi), .val (.ref db), .val (.int vi), .val (.int nn), .val (.int vi), .val (.int (cs (vi).toNatClampNeg))] [(.int (cs (vi).toNatClampNeg)), (.int vi), (.ref db)]))
  refine own_up (fun _ kq => XS.i2b X0.here hx rfl (hb hby d9_30) rfl kq) ?_
  show own_Go p.tables e below _ (T0.setTop (mkF m 31 #[.val (.ref sa), .val (.int vi), .val (.ref db), .val (.int vi), .val (.int nn), .val (.int vi), .val (.int (cs (vi).toNatClampNeg))] [(.int (cs (vi).toNatClampNeg).toInt8.toInt32), (.int vi), (.ref db)]))
  obtain ⟨cl1, Ar1, sz1, nz1, hc1⟩ := id G_db
  obtain ⟨T1, h1, X1, e1, W1, st1⟩ := stB X0 hx hZ e0 Ar1 (j := vi) (inb_of sz1 ⟨hv0, hv⟩) (g := (mkF m 31 #[.val (.ref sa), .val (.int vi), .val (.ref db), .val (.int vi), .val (.int nn), .val (.int vi), .val (.int (cs (vi).toNatClampNeg))] [(.int (cs (vi).toNatClampNeg).toInt8.toInt32), (.int vi), (.ref db)])) rfl rfl (hb hby d9_31)
  have G_db : own_Arf Z h1 db .byte nn (fun i => .int ((own_upd u vi (nar .byte (cs (vi).toNatClampNeg).toInt8.toInt32)) i)) := own_Arf.setI G_db W1
  have N1 := Fr.snoc X1 N0 g_db
  have G_sa := G_sa.other W1 ne_sa_db
  have ZH := Nat.le_trans ZH (Nat.le_of_eq W1.size.symm)
  have KK := KK.wr W1 (Or.inl (List.mem_of_getElem? (i := 0) rfl))
  refine own_up st1 ?_
  show own_Go p.tables e below _ (T1.setTop (mkF m 32 #[.val (.ref sa), .val (.int vi), .val (.ref db), .val (.int vi), .val (.int nn), .val (.int vi), .val (.int (cs (vi).toNatClampNeg))] []))
  refine own_up (fun _ kq => XS.iinc X1.here hx rfl (hb hby d9_32) rfl (l' := #[.val (.ref sa), .val (.int (vi + (1 : Int32))), .val (.ref db), .val (.int vi), .val (.int nn), .val (.int vi), .val (.int (cs (vi).toNatClampNeg))]) rfl kq) ?_
  show own_Go p.tables e below _ (T1.setTop (mkF m 35 #[.val (.ref sa), .val (.int (vi + (1 : Int32))), .val (.ref db), .val (.int vi), .val (.int nn), .val (.int vi), .val (.int (cs (vi).toNatClampNeg))] []))
  refine own_up (fun _ kq => XS.iinc X1.here hx rfl (hb hby d9_35) rfl (l' := #[.val (.ref sa), .val (.int (vi + (1 : Int32))), .val (.ref db), .val (.int (vi + (1 : Int32))), .val (.int nn), .val (.int vi), .val (.int (cs (vi).toNatClampNeg))]) rfl kq) ?_
  show own_Go p.tables e below _ (T1.setTop (mkF m 38 #[.val (.ref sa), .val (.int (vi + (1 : Int32))), .val (.ref db), .val (.int (vi + (1 : Int32))), .val (.int nn), .val (.int vi), .val (.int (cs (vi).toNatClampNeg))] []))
  refine own_up (fun _ kq => XS.iinc X1.here hx rfl (hb hby d9_38) rfl (l' := #[.val (.ref sa), .val (.int (vi + (1 : Int32))), .val (.ref db), .val (.int (vi + (1 : Int32))), .val (.int nn), .val (.int (vi + (1 : Int32))), .val (.int (cs (vi).toNatClampNeg))]) rfl kq) ?_
  show own_Go p.tables e below _ (T1.setTop (mkF m 41 #[.val (.ref sa), .val (.int (vi + (1 : Int32))), .val (.ref db), .val (.int (vi + (1 : Int32))), .val (.int nn), .val (.int (vi + (1 : Int32))), .val (.int (cs (vi).toNatClampNeg))] []))
  refine own_up (fun _ kq => XS.goto X1.here hx rfl (pc0 := 41) (pc' := 3) rfl (hb hby d9_41) (by decide) (by decide) kq) ?_
  show own_Go p.tables e below _ (T1.setTop (mkF m 3 #[.val (.ref sa), .val (.int (vi + (1 : Int32))), .val (.ref db), .val (.int (vi + (1 : Int32))), .val (.int nn), .val (.int (vi + (1 : Int32))), .val (.int (cs (vi).toNatClampNeg))] []))
  exact K _ _ _ X1 e1 N1 KK G_sa (by rw [own_nb] at G_db; exact G_db)
theorem own_run {p : Program} {l : Launch} {e : Env} {s : State} {m : MethodId} {args : Array Value} {below : List Frame} {meth : Method} {c : Code} {Z : State} {a0 : Array Value} {n0 : Nat} {P : State → Outcome → Prop} {R : Room} {cells slots : Nat} {sa : Addr} {db : Addr} {nn : Int32} {cs : Nat → Int32} {u : Nat → Int32} (hx : p.tables.exec = Jvm.exec) (hZ : Z.Warmed39 s.vm) (hw : ∀ d ∈ tables_1, d.before a0 Z = true) (hby : c.code = jdk_52_method_21_code) (hml : c.maxLocals = 7) (hown : s.vm.findClass "java/lang/StringUTF16" = some m.cls) (g_db : n0 ≤ db) (ne_sa_db : sa ≠ db) :
    ∀ (k i : Nat) (vi : Int32) (T0 : State) (h0 : Heap) (locs : List Loc) (s6 : Slot), i + k ≤ nn.toNatClampNeg → (∀ j, i ≤ j → j < i + k → ¬ (255 : Int32) < cs j) → vi.toInt = (i : Int) → Stand p l e R s m args below meth c T0 locs cells slots → T0.heap = h0 → Fr n0 locs → n0 ≤ h0.size → own_Arf Z h0 sa .char nn (fun iq => .int (cs iq)) → own_Arf Z h0 db .byte nn (fun iq => .int (own_lf cs u i iq)) → One s6 →
      (∀ (T' : State) (h' : Heap) (locs' : List Loc) (vj : Int32) (t6 : Slot), vj.toInt = ((i + k : Nat) : Int) → Stand p l e R s m args below meth c T' locs' cells slots → T'.heap = h' → Fr n0 locs' → Keep h0 h' [db] → own_Arf Z h' sa .char nn (fun iq => .int (cs iq)) → own_Arf Z h' db .byte nn (fun iq => .int (own_lf cs u (i + k) iq)) → One t6 → own_Go p.tables e below P (T'.setTop (mkF m 3 #[.val (.ref sa), .val (.int vj), .val (.ref db), .val (.int vj), .val (.int nn), .val (.int vj), t6] []))) → own_Go p.tables e below P (T0.setTop (mkF m 3 #[.val (.ref sa), .val (.int vi), .val (.ref db), .val (.int vi), .val (.int nn), .val (.int vi), s6] [])) := by
  intro k
  induction k with
  | zero =>
    intro i vi T0 h0 locs s6 hi hg hv X0 e0 N0 Z0 A B O K
    exact K T0 h0 locs vi s6 hv X0 e0 N0 (Keep.refl _ _) A B O
  | succ k ih =>
    intro i vi T0 h0 locs s6 hi hg hv X0 e0 N0 Z0 A B O K
    have q := own_ltn (n := nn) hv (by omega)
    have e1 : i + 1 + k = i + (k + 1) := by omega
    refine tnX X0 hx hZ hw hby hml hown e0 N0 Z0 A B g_db ne_sa_db O q.1 q.2.1 (by rw [q.2.2]; exact hg i (Nat.le_refl _) (by omega)) (fun T' h' locs' X e' N K1 A1 B1 => ?_)
    refine ih (i + 1) (vi + (1 : Int32)) T' h' locs' _ (by omega) (fun j h1 h2 => hg j (by omega) (by omega)) (own_succ (n := nn) hv (by omega)) X e' N (Nat.le_trans Z0 K1.1) A1 (by rw [own_lfS cs u vi i q.2.2] at B1; exact B1) (One.val rfl) (fun T2 h2 l2 v2 t6 q2 X2 e2 N2 K2 A2 B2 O2 => ?_)
    exact K T2 h2 l2 v2 t6 (by rw [← e1]; exact q2) X2 e2 N2 (K1.trans K2 (allS (Or.inl (List.mem_of_getElem? (i := 0) rfl)) all0)) A2 (by rw [← e1]; exact B2) O2
theorem d9_0 : decode jdk_52_method_21_code 0 = .ok (.iconst 0, 1) := by decide +kernel
theorem d9_1 : decode jdk_52_method_21_code 1 = .ok (.istore 5, 2) := by decide +kernel
theorem d9_44 : decode jdk_52_method_21_code 44 = .ok (.iload 4, 2) := by decide +kernel
theorem d9_46 : decode jdk_52_method_21_code 46 = .ok (.ireturn, 1) := by decide +kernel
theorem d9_23 : decode jdk_52_method_21_code 23 = .ok (.iload 5, 2) := by decide +kernel
theorem d9_25 : decode jdk_52_method_21_code 25 = .ok (.ireturn, 1) := by decide +kernel
theorem ef_rmX (m : MethodId) (x0 : Addr) (x1 : Int32) (x2 : Addr) (x3 : Int32) (x4 : Int32) : entryFrame m #[(.ref x0), (.int x1), (.ref x2), (.int x3), (.int x4)] 7 = mkF m 0 #[.val (.ref x0), .val (.int x1), .val (.ref x2), .val (.int x3), .val (.int x4), .unset, .unset] [] := by first | (simp [entryFrame, mkF, argsToLocals, Value.category]; done) | rfl
def QrmX (Z : State) (sa : Addr) (db : Addr) (nn : Int32) (cs : Nat → Int32) (u : Nat → Int32) (h0 : Heap) (n0 : Nat) (v : Option Value) (h : Heap) (L : List Loc) : Prop := ∃ kr : Int32, v = some (.int kr) ∧ Fr n0 L ∧ Keep h0 h [db] ∧ ((kr = nn ∧ own_TL Z h db nn cs) ∨ (¬ kr < 0 ∧ kr < nn ∧ (255 : Int32) < cs kr.toNatClampNeg))
set_option maxRecDepth 65536 in
set_option maxHeartbeats 40000000 in
theorem rmX (l : Launch) (Z : State) (a0 : Array Value) (hw : ∀ d ∈ tables_1, d.before a0 Z = true) (ws : List Jvm.Cond) (sa : Addr) (db : Addr) (nn : Int32) (cs : Nat → Int32) (u : Nat → Int32) (h0 : Heap) (n0 : Nat) (Z0 : n0 ≤ h0.size) (G_sa : own_Arf Z h0 sa .char nn (fun iq => .int (cs iq))) (G_db : own_Arf Z h0 db .byte nn (fun iq => .int (u iq))) (g_db : n0 ≤ db) (ne_sa_db : sa ≠ db) :
    MetFree l (⟨"java/lang/StringUTF16", "compress", "([CI[BII)I"⟩ : MethodName) (head1 (Jvm.Cond.code (⟨"java/lang/StringUTF16", "compress", "([CI[BII)I"⟩ : MethodName) jdk_52_method_21_code 7 (some .int) :: ws) ({ frames := 0, cells := 0, slots := 0, locals := 0 } : Room)) (fun aq Uq => aq = #[(.ref sa), (.int (0 : Int32)), (.ref db), (.int (0 : Int32)), (.int nn)] ∧ Z.Warmed39 Uq.vm ∧ Uq.heap = h0) (fun _ _ _ _ _ => True) (fun _ Uq oq Uq' => ∃ vq Lq, oq = .returned vq ∧ QrmX Z sa db nn cs u h0 n0 vq Uq'.heap Lq ∧ FrameEnd Uq oq Uq' Lq ({ frames := 0, cells := 0, slots := 0, locals := 0 } : Room).cells ({ frames := 0, cells := 0, slots := 0, locals := 0 } : Room).slots) := by
  refine MetFree.of_bodySF (plainFor_of_name pn_5) hisR ?_
  intro p e s m args below meth c s₁ Bd hml0 hP hK
  obtain ⟨rfl, hZ, hh⟩ := hP
  have hx := Bd.exec
  have hby := Bd.bytes
  have hml : c.maxLocals = 7 := hml0
  have hown : s.vm.findClass "java/lang/StringUTF16" = some m.cls := findClass_of_methodNamed Bd.named
  have hnm := (name_of_methodNamed Bd.named Bd.method).1
  have X0 : Stand p l e ({ frames := 0, cells := 0, slots := 0, locals := 0 } : Room) s m #[(.ref sa), (.int (0 : Int32)), (.ref db), (.int (0 : Int32)), (.int nn)] below meth c s₁ [] 0 0 := Stand.of_body Bd
  have e0 : s₁.heap = h0 := by rw [← hh, Bd.state]; rfl
  have N0 := Fr.nil n0
  have ZH := Z0
  have KK := Keep.refl h0 [db]
  refine own_start (fun t kq => castTop (ef_rmX m sa (0 : Int32) db (0 : Int32) nn) kq) ?_
  show own_Go p.tables e below _ (s₁.setTop (mkF m 0 #[.val (.ref sa), .val (.int (0 : Int32)), .val (.ref db), .val (.int (0 : Int32)), .val (.int nn), .unset, .unset] []))
  refine own_up (fun _ kq => XS.iconst X0.here hx rfl (hb hby d9_0) kq) ?_
  show own_Go p.tables e below _ (s₁.setTop (mkF m 1 #[.val (.ref sa), .val (.int (0 : Int32)), .val (.ref db), .val (.int (0 : Int32)), .val (.int nn), .unset, .unset] [(.int (0 : Int32))]))
  refine own_up (fun _ kq => XS.istore X0.here hx rfl (hb hby d9_1) rfl (l' := #[.val (.ref sa), .val (.int (0 : Int32)), .val (.ref db), .val (.int (0 : Int32)), .val (.int nn), .val (.int (0 : Int32)), .unset]) rfl kq) ?_
  show own_Go p.tables e below _ (s₁.setTop (mkF m 3 #[.val (.ref sa), .val (.int (0 : Int32)), .val (.ref db), .val (.int (0 : Int32)), .val (.int nn), .val (.int (0 : Int32)), .unset] []))
  rcases own_first cs nn.toNatClampNeg with hall | ⟨jf, hjf, hgood, hbad⟩
  · refine own_run (u := u) hx hZ hw hby hml hown g_db ne_sa_db nn.toNatClampNeg 0 (0 : Int32) _ _ _ _ (by omega) (fun j _ hj => hall j (by omega)) (by decide) X0 e0 N0 ZH G_sa (by rw [own_lf0]; exact G_db) One.u (fun T1 h1 l1 vj t6 hvj X1 e1 N1 K1 G_sa G_db ht6 => ?_)
    have KK := KK.trans K1 (allS (Or.inl (List.mem_of_getElem? (i := 0) rfl)) all0)
    have ZH := Nat.le_trans ZH K1.1
    rw [own_eqn G_sa.nn hvj]
    show own_Go p.tables e below _ (T1.setTop (mkF m 3 #[.val (.ref sa), .val (.int nn), .val (.ref db), .val (.int nn), .val (.int nn), .val (.int nn), t6] []))
    refine own_up (fun _ kq => XS.iload X1.here hx rfl (hb hby d9_3) rfl kq) ?_
    show own_Go p.tables e below _ (T1.setTop (mkF m 5 #[.val (.ref sa), .val (.int nn), .val (.ref db), .val (.int nn), .val (.int nn), .val (.int nn), t6] [(.int nn)]))
    refine own_up (fun _ kq => XS.iload X1.here hx rfl (hb hby d9_5) rfl kq) ?_
    show own_Go p.tables e below _ (T1.setTop (mkF m 7 #[.val (.ref sa), .val (.int nn), .val (.ref db), .val (.int nn), .val (.int nn), .val (.int nn), t6] [(.int nn), (.int nn)]))
    refine own_up (fun _ kq => XS.icmpYes X1.here hx rfl (pc0 := 7) (pc' := 44) rfl (hb hby d9_7) rfl (flt (own_irr nn)).2.1 (by decide) (by decide) kq) ?_
    show own_Go p.tables e below _ (T1.setTop (mkF m 44 #[.val (.ref sa), .val (.int nn), .val (.ref db), .val (.int nn), .val (.int nn), .val (.int nn), t6] []))
    refine own_up (fun _ kq => XS.iload X1.here hx rfl (hb hby d9_44) rfl kq) ?_
    show own_Go p.tables e below _ (T1.setTop (mkF m 46 #[.val (.ref sa), .val (.int nn), .val (.ref db), .val (.int nn), .val (.int nn), .val (.int nn), t6] [(.int nn)]))
    obtain ⟨fs2, hr2, hrun2, hended2, hW2, hsame2⟩ := X1.leave (v := some (.int nn)) (fun h => by rw [Bd.returns] at h; cases h)
    refine own_end ⟨_, _, ?_, hrun2, hended2, _, _, rfl, ?_, ⟨_, rfl⟩, hW2, hsame2.mono (by decide) (by decide)⟩
    · exact retOut X1 hx Bd.returns rfl (Or.inl ⟨rfl, Or.inl rfl, _, rfl⟩) (hb hby d9_46) hr2
    · show QrmX Z sa db nn cs u h0 n0 _ T1.heap _
      rw [e1]
      exact ⟨_, rfl, N1, KK, Or.inl ⟨rfl, _, G_db, fun i hi => ⟨congrArg Value.int (if_pos (by omega)), hall i hi⟩⟩⟩
  · refine own_run (u := u) hx hZ hw hby hml hown g_db ne_sa_db jf 0 (0 : Int32) _ _ _ _ (by omega) (fun j _ hj => hgood j (by omega)) (by decide) X0 e0 N0 ZH G_sa (by rw [own_lf0]; exact G_db) One.u (fun T3 h3 l3 vj t6 hvj X3 e3 N3 K3 G_sa G_db ht6 => ?_)
    have KK := KK.trans K3 (allS (Or.inl (List.mem_of_getElem? (i := 0) rfl)) all0)
    have ZH := Nat.le_trans ZH K3.1
    have QL := own_ltn (n := nn) (j := jf) (by rw [hvj]; omega) hjf
    show own_Go p.tables e below _ (T3.setTop (mkF m 3 #[.val (.ref sa), .val (.int vj), .val (.ref db), .val (.int vj), .val (.int nn), .val (.int vj), t6] []))
    refine own_up (fun _ kq => XS.iload X3.here hx rfl (hb hby d9_3) rfl kq) ?_
    show own_Go p.tables e below _ (T3.setTop (mkF m 5 #[.val (.ref sa), .val (.int vj), .val (.ref db), .val (.int vj), .val (.int nn), .val (.int vj), t6] [(.int vj)]))
    refine own_up (fun _ kq => XS.iload X3.here hx rfl (hb hby d9_5) rfl kq) ?_
    show own_Go p.tables e below _ (T3.setTop (mkF m 7 #[.val (.ref sa), .val (.int vj), .val (.ref db), .val (.int vj), .val (.int nn), .val (.int vj), t6] [(.int nn), (.int vj)]))
    refine own_up (fun _ kq => XS.icmpNo X3.here hx rfl (hb hby d9_7) rfl (tlt QL.2.1).2.1 kq) ?_
    show own_Go p.tables e below _ (T3.setTop (mkF m 10 #[.val (.ref sa), .val (.int vj), .val (.ref db), .val (.int vj), .val (.int nn), .val (.int vj), t6] []))
    refine own_up (fun _ kq => XS.aloadN X3.here hx rfl (hb hby d9_10) rfl rfl kq) ?_
    show own_Go p.tables e below _ (T3.setTop (mkF m 11 #[.val (.ref sa), .val (.int vj), .val (.ref db), .val (.int vj), .val (.int nn), .val (.int vj), t6] [(.ref sa)]))
    refine own_up (fun _ kq => XS.iloadN X3.here hx rfl (hb hby d9_11) rfl kq) ?_
    show own_Go p.tables e below _ (T3.setTop (mkF m 12 #[.val (.ref sa), .val (.int vj), .val (.ref db), .val (.int vj), .val (.int nn), .val (.int vj), t6] [(.int vj), (.ref sa)]))
    refine own_up (fun _ kq => own_Arf.caload G_sa X3 hx hZ e3 QL.1 QL.2.1 (v := (.int (cs (vj).toNatClampNeg))) rfl (g := (mkF m 12 #[.val (.ref sa), .val (.int vj), .val (.ref db), .val (.int vj), .val (.int nn), .val (.int vj), t6] [(.int vj), (.ref sa)])) rfl rfl (hb hby d9_12) _ kq) ?_
    show own_Go p.tables e below _ (T3.setTop (mkF m 13 #[.val (.ref sa), .val (.int vj), .val (.ref db), .val (.int vj), .val (.int nn), .val (.int vj), t6] [(.int (cs (vj).toNatClampNeg))]))
    refine own_up (fun _ kq => XS.istoreS X3.here hx rfl (hb hby d9_13) rfl rfl ht6 kq) ?_
    show own_Go p.tables e below _ (T3.setTop (mkF m 15 #[.val (.ref sa), .val (.int vj), .val (.ref db), .val (.int vj), .val (.int nn), .val (.int vj), .val (.int (cs (vj).toNatClampNeg))] []))
    refine own_up (fun _ kq => XS.iload X3.here hx rfl (hb hby d9_15) rfl kq) ?_
    show own_Go p.tables e below _ (T3.setTop (mkF m 17 #[.val (.ref sa), .val (.int vj), .val (.ref db), .val (.int vj), .val (.int nn), .val (.int vj), .val (.int (cs (vj).toNatClampNeg))] [(.int (cs (vj).toNatClampNeg))]))
    refine own_up (fun _ kq => XS.sipush X3.here hx rfl (hb hby d9_17) kq) ?_
    show own_Go p.tables e below _ (T3.setTop (mkF m 20 #[.val (.ref sa), .val (.int vj), .val (.ref db), .val (.int vj), .val (.int nn), .val (.int vj), .val (.int (cs (vj).toNatClampNeg))] [(.int (255 : Int32)), (.int (cs (vj).toNatClampNeg))]))
    refine own_up (fun _ kq => XS.icmpNo X3.here hx rfl (hb hby d9_20) rfl (tlt (QL.2.2.symm ▸ hbad)).2.2.2 kq) ?_
    show own_Go p.tables e below _ (T3.setTop (mkF m 23 #[.val (.ref sa), .val (.int vj), .val (.ref db), .val (.int vj), .val (.int nn), .val (.int vj), .val (.int (cs (vj).toNatClampNeg))] []))
    refine own_up (fun _ kq => XS.iload X3.here hx rfl (hb hby d9_23) rfl kq) ?_
    show own_Go p.tables e below _ (T3.setTop (mkF m 25 #[.val (.ref sa), .val (.int vj), .val (.ref db), .val (.int vj), .val (.int nn), .val (.int vj), .val (.int (cs (vj).toNatClampNeg))] [(.int vj)]))
    obtain ⟨fs4, hr4, hrun4, hended4, hW4, hsame4⟩ := X3.leave (v := some (.int vj)) (fun h => by rw [Bd.returns] at h; cases h)
    refine own_end ⟨_, _, ?_, hrun4, hended4, _, _, rfl, ?_, ⟨_, rfl⟩, hW4, hsame4.mono (by decide) (by decide)⟩
    · exact retOut X3 hx Bd.returns rfl (Or.inl ⟨rfl, Or.inl rfl, _, rfl⟩) (hb hby d9_25) hr4
    · show QrmX Z sa db nn cs u h0 n0 _ T3.heap _
      rw [e3]
      exact ⟨_, rfl, N3, KK, Or.inr ⟨QL.1, QL.2.1, QL.2.2.symm ▸ hbad⟩⟩
theorem d20_0 : decode jdk_52_method_3_code 0 = .ok (.iload_n 0, 1) := by decide +kernel
theorem d20_1 : decode jdk_52_method_3_code 1 = .ok (.ifCond .ge 11, 3) := by decide +kernel
theorem d20_12 : decode jdk_52_method_3_code 12 = .ok (.iload_n 0, 1) := by decide +kernel
theorem d20_13 : decode jdk_52_method_3_code 13 = .ok (.ldc 20, 2) := by decide +kernel
theorem d20_15 : decode jdk_52_method_3_code 15 = .ok (.if_icmp .lt 40, 3) := by decide +kernel
theorem d20_55 : decode jdk_52_method_3_code 55 = .ok (.iload_n 0, 1) := by decide +kernel
theorem d20_56 : decode jdk_52_method_3_code 56 = .ok (.iconst 1, 1) := by decide +kernel
theorem d20_57 : decode jdk_52_method_3_code 57 = .ok (.ishl, 1) := by decide +kernel
theorem d20_58 : decode jdk_52_method_3_code 58 = .ok (.ireturn, 1) := by decide +kernel
theorem ef_rmNL (m : MethodId) (x0 : Int32) : entryFrame m #[(.int x0)] 1 = mkF m 0 #[.val (.int x0)] [] := by first | (simp [entryFrame, mkF, argsToLocals, Value.category]; done) | rfl
def QrmNL (Z : State) (n : Int32) (n2 : Int32) (h0 : Heap) (n0 : Nat) (v : Option Value) (h : Heap) (L : List Loc) : Prop := v = some (.int n2) ∧ Fr n0 L ∧ h = h0
set_option maxRecDepth 65536 in
set_option maxHeartbeats 40000000 in
theorem rmNL (l : Launch) (Z : State) (a0 : Array Value) (hw : ∀ d ∈ tables_1, d.before a0 Z = true) (ws : List Jvm.Cond) (n : Int32) (n2 : Int32) (h0 : Heap) (n0 : Nat) (Z0 : n0 ≤ h0.size) (hsm : own_sm n) (hn2 : (n <<< ((1 : Int32) &&& 31)) = n2) :
    MetFree l (⟨"java/lang/StringUTF16", "newBytesLength", "(I)I"⟩ : MethodName) (head1 (Jvm.Cond.code (⟨"java/lang/StringUTF16", "newBytesLength", "(I)I"⟩ : MethodName) jdk_52_method_3_code 1 (some .int) :: ws) ({ frames := 0, cells := 0, slots := 0, locals := 0 } : Room)) (fun aq Uq => aq = #[(.int n)] ∧ Z.Warmed39 Uq.vm ∧ Uq.heap = h0) (fun _ _ _ _ _ => True) (fun _ Uq oq Uq' => ∃ vq Lq, oq = .returned vq ∧ QrmNL Z n n2 h0 n0 vq Uq'.heap Lq ∧ FrameEnd Uq oq Uq' Lq ({ frames := 0, cells := 0, slots := 0, locals := 0 } : Room).cells ({ frames := 0, cells := 0, slots := 0, locals := 0 } : Room).slots) := by
  refine MetFree.of_bodySF (plainFor_of_name pn_5) hisR ?_
  intro p e s m args below meth c s₁ Bd hml0 hP hK
  obtain ⟨rfl, hZ, hh⟩ := hP
  have hx := Bd.exec
  have hby := Bd.bytes
  have hml : c.maxLocals = 1 := hml0
  have hown : s.vm.findClass "java/lang/StringUTF16" = some m.cls := findClass_of_methodNamed Bd.named
  have hnm := (name_of_methodNamed Bd.named Bd.method).1
  have X0 : Stand p l e ({ frames := 0, cells := 0, slots := 0, locals := 0 } : Room) s m #[(.int n)] below meth c s₁ [] 0 0 := Stand.of_body Bd
  have e0 : s₁.heap = h0 := by rw [← hh, Bd.state]; rfl
  have N0 := Fr.nil n0
  have ZH := Z0
  have KK := Keep.refl h0 []
  refine own_start (fun t kq => castTop (ef_rmNL m n) kq) ?_
  show own_Go p.tables e below _ (s₁.setTop (mkF m 0 #[.val (.int n)] []))
  refine own_up (fun _ kq => XS.iloadN X0.here hx rfl (hb hby d20_0) rfl kq) ?_
  show own_Go p.tables e below _ (s₁.setTop (mkF m 1 #[.val (.int n)] [(.int n)]))
  refine own_up (fun _ kq => XS.ifYes X0.here hx rfl (pc0 := 1) (pc' := 12) rfl (hb hby d20_1) rfl ((if0 _ _).trans (flt (own_smN hsm hn2).1).2.1) (by decide) (by decide) kq) ?_
  show own_Go p.tables e below _ (s₁.setTop (mkF m 12 #[.val (.int n)] []))
  refine own_up (fun _ kq => XS.iloadN X0.here hx rfl (hb hby d20_12) rfl kq) ?_
  show own_Go p.tables e below _ (s₁.setTop (mkF m 13 #[.val (.int n)] [(.int n)]))
  refine own_up (fun _ kq => X0.ldcInt hx hown (mvT hZ (hw _ (List.mem_of_getElem? (i := 90) rfl))) (g := (mkF m 13 #[.val (.int n)] [(.int n)])) rfl (hb hby d20_13) _ kq) ?_
  show own_Go p.tables e below _ (s₁.setTop (mkF m 15 #[.val (.int n)] [(.int (1073741823 : Int32)), (.int n)]))
  refine own_up (fun _ kq => XS.icmpYes X0.here hx rfl (pc0 := 15) (pc' := 55) rfl (hb hby d20_15) rfl (tlt (own_smN hsm hn2).2.1).1 (by decide) (by decide) kq) ?_
  show own_Go p.tables e below _ (s₁.setTop (mkF m 55 #[.val (.int n)] []))
  refine own_up (fun _ kq => XS.iloadN X0.here hx rfl (hb hby d20_55) rfl kq) ?_
  show own_Go p.tables e below _ (s₁.setTop (mkF m 56 #[.val (.int n)] [(.int n)]))
  refine own_up (fun _ kq => XS.iconst X0.here hx rfl (hb hby d20_56) kq) ?_
  show own_Go p.tables e below _ (s₁.setTop (mkF m 57 #[.val (.int n)] [(.int (1 : Int32)), (.int n)]))
  refine own_up (fun _ kq => XS.ishl X0.here hx rfl (hb hby d20_57) rfl kq) ?_
  show own_Go p.tables e below _ (s₁.setTop (mkF m 58 #[.val (.int n)] [(.int (n <<< ((1 : Int32) &&& 31)))]))
  rw [hn2]
  show own_Go p.tables e below _ (s₁.setTop (mkF m 58 #[.val (.int n)] [(.int n2)]))
  obtain ⟨fs1, hr1, hrun1, hended1, hW1, hsame1⟩ := X0.leave (v := some (.int n2)) (fun h => by rw [Bd.returns] at h; cases h)
  refine own_end ⟨_, _, ?_, hrun1, hended1, _, _, rfl, ?_, ⟨_, rfl⟩, hW1, hsame1.mono (by decide) (by decide)⟩
  · exact retOut X0 hx Bd.returns rfl (Or.inl ⟨rfl, Or.inl rfl, _, rfl⟩) (hb hby d20_58) hr1
  · show QrmNL Z n n2 h0 n0 _ s₁.heap _
    rw [e0]
    exact ⟨rfl, N0, rfl⟩
theorem d19_0 : decode jdk_52_method_2_code 0 = .ok (.iload_n 0, 1) := by decide +kernel
theorem d19_1 : decode jdk_52_method_2_code 1 = .ok (.invokestatic 11, 3) := by decide +kernel
theorem pd_10 : parseMethodDescriptor "(I)I" = some ⟨[.int], some .int⟩ := by decide +kernel
theorem d19_4 : decode jdk_52_method_2_code 4 = .ok (.newarray .byte, 2) := by decide +kernel
theorem d19_6 : decode jdk_52_method_2_code 6 = .ok (.areturn, 1) := by decide +kernel
theorem ef_rmNF (m : MethodId) (x0 : Int32) : entryFrame m #[(.int x0)] 1 = mkF m 0 #[.val (.int x0)] [] := by first | (simp [entryFrame, mkF, argsToLocals, Value.category]; done) | rfl
def QrmNF (Z : State) (n : Int32) (n2 : Int32) (h0 : Heap) (n0 : Nat) (v : Option Value) (h : Heap) (L : List Loc) : Prop := ∃ b : Addr, h0.size ≤ b ∧ v = some (.ref b) ∧ Fr n0 L ∧ Keep h0 h [] ∧ own_Arf Z h b .byte n2 (fun iq => .int ((fun _ => 0 : Nat → Int32) iq))
set_option maxRecDepth 65536 in
set_option maxHeartbeats 40000000 in
theorem rmNF (l : Launch) (Z : State) (a0 : Array Value) (hw : ∀ d ∈ tables_1, d.before a0 Z = true) (ws : List Jvm.Cond) (n : Int32) (n2 : Int32) (h0 : Heap) (n0 : Nat) (Z0 : n0 ≤ h0.size) (hsm : own_sm n) (hn2 : (n <<< ((1 : Int32) &&& 31)) = n2) :
    MetFree l (⟨"java/lang/StringUTF16", "newBytesFor", "(I)[B"⟩ : MethodName) (head1 (Jvm.Cond.code (⟨"java/lang/StringUTF16", "newBytesFor", "(I)[B"⟩ : MethodName) jdk_52_method_2_code 1 (some (.array .byte)) :: ws) ({ frames := 1, cells := 1, slots := 10, locals := 12 } : Room)) (fun aq Uq => aq = #[(.int n)] ∧ Z.Warmed39 Uq.vm ∧ Uq.heap = h0) (fun _ _ _ _ _ => True) (fun _ Uq oq Uq' => ∃ vq Lq, oq = .returned vq ∧ QrmNF Z n n2 h0 n0 vq Uq'.heap Lq ∧ FrameEnd Uq oq Uq' Lq ({ frames := 1, cells := 1, slots := 10, locals := 12 } : Room).cells ({ frames := 1, cells := 1, slots := 10, locals := 12 } : Room).slots) := by
  refine MetFree.of_bodySF (plainFor_of_name pn_5) hisR ?_
  intro p e s m args below meth c s₁ Bd hml0 hP hK
  obtain ⟨rfl, hZ, hh⟩ := hP
  have hx := Bd.exec
  have hby := Bd.bytes
  have hml : c.maxLocals = 1 := hml0
  have hown : s.vm.findClass "java/lang/StringUTF16" = some m.cls := findClass_of_methodNamed Bd.named
  have hnm := (name_of_methodNamed Bd.named Bd.method).1
  have X0 : Stand p l e ({ frames := 1, cells := 1, slots := 10, locals := 12 } : Room) s m #[(.int n)] below meth c s₁ [] 0 0 := Stand.of_body Bd
  have e0 : s₁.heap = h0 := by rw [← hh, Bd.state]; rfl
  have N0 := Fr.nil n0
  have ZH := Z0
  have KK := Keep.refl h0 []
  refine own_start (fun t kq => castTop (ef_rmNF m n) kq) ?_
  show own_Go p.tables e below _ (s₁.setTop (mkF m 0 #[.val (.int n)] []))
  refine own_up (fun _ kq => XS.iloadN X0.here hx rfl (hb hby d19_0) rfl kq) ?_
  show own_Go p.tables e below _ (s₁.setTop (mkF m 1 #[.val (.int n)] [(.int n)]))
  obtain ⟨_, _, ⟨T1, L1, k1, n1⟩, -, X1, ⟨Lc1, hQ1, l1, y1, z1⟩, st1⟩ := Jvm.LawKit.callS X0 hx (y := (⟨"java/lang/StringUTF16", "newBytesLength", "(I)I"⟩ : MethodName)) hown (mvT hZ (hw _ (List.mem_of_getElem? (i := 87) rfl))) (mvT hZ (hw _ (List.mem_of_getElem? (i := 88) rfl))) (mvT hZ (hw _ (List.mem_of_getElem? (i := 45) rfl))) (mvT hZ (hw _ (List.mem_of_getElem? (i := 89) rfl))) (by decide) (backOf (W := 0) (rmNL l Z a0 hw [] n n2 h0 n0 ZH hsm hn2) hZ (hw _ (List.mem_of_getElem? (i := 89) rfl)) (hw _ (List.mem_of_getElem? (i := 45) rfl)) (by decide) (by decide)) (g := (mkF m 1 #[.val (.int n)] [(.int n)])) rfl (by rw [hml]; rfl) (argsL := [(.int n)]) (rest := []) (lenOf pd_10 rfl) rfl (by show 2 * 0 + _ ≤ _; exact Nat.le_of_eq rfl) (hb hby d19_1) (fun _ _ => ⟨rfl, e0, (by decide : 0 + 0 ≤ _), (by decide : 0 + 0 ≤ _)⟩)
  dsimp only [Pt.U, Pt.locs, Pt.cells, Pt.slots] at X1 l1 y1 z1 st1 hQ1
  subst l1 y1 z1
  obtain ⟨rfl, Nq1, e1⟩ := hQ1
  have N1 := Fr.app N0 Nq1
  refine own_up st1 ?_
  show own_Go p.tables e below _ (T1.setTop (mkF m 4 #[.val (.int n)] [(.int n2)]))
  obtain ⟨T2, h2, k2, X2, e2, E2, A2, st2⟩ := newP X1 hx hZ (hw _ (List.mem_of_getElem? (i := 21) rfl)) e1 (g := (mkF m 4 #[.val (.int n)] [(.int n2)])) rfl (hb hby d19_4) rfl (own_smN hsm hn2).2.2.2.1 (cap := 10) (own_smN hsm hn2).2.2.2.2.1 (by decide) (by decide) (by decide)
  obtain ⟨b2, gz2⟩ : ∃ z, z = h0.size := ⟨_, rfl⟩
  rw [← gz2] at A2 st2
  have g_b2 : n0 ≤ b2 := Nat.le_trans ZH (Nat.le_of_eq gz2.symm)
  have sz_b2 : h0.size ≤ b2 := Nat.le_trans KK.1 (Nat.le_of_eq gz2.symm)
  have ZH := Nat.le_trans ZH E2.1
  have KK := KK.ext E2
  have G_b2 : own_Arf Z h2 b2 .byte n2 (fun i => .int ((fun _ => 0 : Nat → Int32) i)) := own_Arf.new A2 (own_smN hsm hn2).2.2.2.1
  refine own_up st2 ?_
  show own_Go p.tables e below _ (T2.setTop (mkF m 6 #[.val (.int n)] [(.ref b2)]))
  obtain ⟨fs3, hr3, hrun3, hended3, hW3, hsame3⟩ := X2.leave (v := some (.ref b2)) (fun h => by rw [Bd.returns] at h; cases h)
  refine own_end ⟨_, _, ?_, hrun3, hended3, _, _, rfl, ?_, ⟨_, rfl⟩, hW3, hsame3.mono (by decide) (by decide)⟩
  · exact retOut X2 hx Bd.returns rfl (Or.inr (Or.inr (Or.inr (Or.inr ⟨rfl, rfl, rfl⟩)))) (hb hby d19_6) hr3
  · show QrmNF Z n n2 h0 n0 _ T2.heap _
    rw [e2]
    exact ⟨b2, sz_b2, rfl, N1, KK, G_b2⟩
theorem d18_8 : decode jdk_52_method_14_code 8 = .ok (.iload 4, 2) := by decide +kernel
theorem d18_10 : decode jdk_52_method_14_code 10 = .ok (.iload_n 2, 1) := by decide +kernel
theorem d18_11 : decode jdk_52_method_14_code 11 = .ok (.if_icmp .ge 21, 3) := by decide +kernel
theorem d18_14 : decode jdk_52_method_14_code 14 = .ok (.aload_n 3, 1) := by decide +kernel
theorem d18_15 : decode jdk_52_method_14_code 15 = .ok (.iload 4, 2) := by decide +kernel
theorem d18_17 : decode jdk_52_method_14_code 17 = .ok (.aload_n 0, 1) := by decide +kernel
theorem d18_18 : decode jdk_52_method_14_code 18 = .ok (.iload_n 1, 1) := by decide +kernel
theorem d18_19 : decode jdk_52_method_14_code 19 = .ok (.caload, 1) := by decide +kernel
theorem d18_20 : decode jdk_52_method_14_code 20 = .ok (.invokestatic 111, 3) := by decide +kernel
theorem pd_11 : parseMethodDescriptor "([BII)V" = some ⟨[(.array .byte), .int, .int], none⟩ := by decide +kernel
theorem d18_23 : decode jdk_52_method_14_code 23 = .ok (.iinc 1 1, 3) := by decide +kernel
theorem d18_26 : decode jdk_52_method_14_code 26 = .ok (.iinc 4 1, 3) := by decide +kernel
theorem d18_29 : decode jdk_52_method_14_code 29 = .ok (.goto (-21), 3) := by decide +kernel
set_option maxRecDepth 65536 in
set_option maxHeartbeats 40000000 in
theorem tnB {p : Program} {l : Launch} {e : Env} {s : State} {m : MethodId} {args : Array Value} {below : List Frame} {meth : Method} {c : Code} {T0 : State} {locs : List Loc} {Z : State} {a0 : Array Value} {h0 : Heap} {n0 : Nat} {P : State → Outcome → Prop} {cz : Int32} {fv : Value} {sa : Addr} {tb : Addr} {n : Int32} {n2 : Int32} {cs : Nat → Int32} {u : Nat → Int32} {vi : Int32}
    (X0 : Stand p l e ({ frames := 2, cells := 1, slots := 10, locals := 38 } : Room) s m args below meth c T0 locs 1 10) (hx : p.tables.exec = Jvm.exec) (hZ : Z.Warmed39 s.vm) (hw : ∀ d ∈ tables_1, d.before a0 Z = true) (hby : c.code = jdk_52_method_14_code) (hml : c.maxLocals = 5) (hown : s.vm.findClass "java/lang/StringUTF16" = some m.cls) (e0 : T0.heap = h0) (N0 : Fr n0 locs) (Z0 : n0 ≤ h0.size) (OO : Old Z n0 h0) (HW : own_W Z cz fv) (G_sa : own_Arf Z h0 sa .char n (fun iq => .int (cs iq))) (G_tb : own_Arf Z h0 tb .byte n2 (fun iq => .int (u iq))) (g_tb : n0 ≤ tb) (ne_sa_tb : sa ≠ tb) (hsm : own_sm n) (hn2 : (n <<< ((1 : Int32) &&& 31)) = n2) (hv0 : ¬ vi < 0) (hv : vi < n)
    (K : ∀ (T' : State) (h' : Heap) (locs' : List Loc), Stand p l e ({ frames := 2, cells := 1, slots := 10, locals := 38 } : Room) s m args below meth c T' locs' 1 10 → T'.heap = h' → Fr n0 locs' → Keep h0 h' [tb] → Old Z n0 h' → own_Arf Z h' sa .char n (fun iq => .int (cs iq)) → own_Arf Z h' tb .byte n2 (fun iq => .int ((own_upd (own_upd u (vi <<< ((1 : Int32) &&& 31)) (StrChars.lo8 (cs vi.toNatClampNeg))) ((vi <<< ((1 : Int32) &&& 31)) + (1 : Int32)) (StrChars.hi8 (cs vi.toNatClampNeg))) iq)) → own_Go p.tables e below P (T'.setTop (mkF m 8 #[.val (.ref sa), .val (.int (vi + (1 : Int32))), .val (.int n), .val (.ref tb), .val (.int (vi + (1 : Int32)))] []))) :
    own_Go p.tables e below P (T0.setTop (mkF m 8 #[.val (.ref sa), .val (.int vi), .val (.int n), .val (.ref tb), .val (.int vi)] [])) := by
  have ZH := Z0
  have KK := Keep.refl h0 [tb]
  have HW0 := HW
  obtain ⟨SC, hcz, SF, hfv, SA, SH, SL⟩ := HW
  have IX := own_ix hsm hn2 hv0 hv rfl
  refine own_up (fun _ kq => XS.iload X0.here hx rfl (hb hby d18_8) rfl kq) ?_
  show own_Go p.tables e below _ (T0.setTop (mkF m 10 #[.val (.ref sa), .val (.int vi), .val (.int n), .val (.ref tb), .val (.int vi)] [(.int vi)]))
  refine own_up (fun _ kq => XS.iloadN X0.here hx rfl (hb hby d18_10) rfl kq) ?_
  show own_Go p.tables e below _ (T0.setTop (mkF m 11 #[.val (.ref sa), .val (.int vi), .val (.int n), .val (.ref tb), .val (.int vi)] [(.int n), (.int vi)]))
  refine own_up (fun _ kq => XS.icmpNo X0.here hx rfl (hb hby d18_11) rfl (tlt hv).2.1 kq) ?_
  show own_Go p.tables e below _ (T0.setTop (mkF m 14 #[.val (.ref sa), .val (.int vi), .val (.int n), .val (.ref tb), .val (.int vi)] []))
  refine own_up (fun _ kq => XS.aloadN X0.here hx rfl (hb hby d18_14) rfl rfl kq) ?_
  show own_Go p.tables e below _ (T0.setTop (mkF m 15 #[.val (.ref sa), .val (.int vi), .val (.int n), .val (.ref tb), .val (.int vi)] [(.ref tb)]))
  refine own_up (fun _ kq => XS.iload X0.here hx rfl (hb hby d18_15) rfl kq) ?_
  show own_Go p.tables e below _ (T0.setTop (mkF m 17 #[.val (.ref sa), .val (.int vi), .val (.int n), .val (.ref tb), .val (.int vi)] [(.int vi), (.ref tb)]))
  refine own_up (fun _ kq => XS.aloadN X0.here hx rfl (hb hby d18_17) rfl rfl kq) ?_
  show own_Go p.tables e below _ (T0.setTop (mkF m 18 #[.val (.ref sa), .val (.int vi), .val (.int n), .val (.ref tb), .val (.int vi)] [(.ref sa), (.int vi), (.ref tb)]))
  refine own_up (fun _ kq => XS.iloadN X0.here hx rfl (hb hby d18_18) rfl kq) ?_
  show own_Go p.tables e below _ (T0.setTop (mkF m 19 #[.val (.ref sa), .val (.int vi), .val (.int n), .val (.ref tb), .val (.int vi)] [(.int vi), (.ref sa), (.int vi), (.ref tb)]))
  refine own_up (fun _ kq => own_Arf.caload G_sa X0 hx hZ e0 hv0 hv (v := (.int (cs (vi).toNatClampNeg))) rfl (g := (mkF m 19 #[.val (.ref sa), .val (.int vi), .val (.int n), .val (.ref tb), .val (.int vi)] [(.int vi), (.ref sa), (.int vi), (.ref tb)])) rfl rfl (hb hby d18_19) _ kq) ?_
  show own_Go p.tables e below _ (T0.setTop (mkF m 20 #[.val (.ref sa), .val (.int vi), .val (.int n), .val (.ref tb), .val (.int vi)] [(.int (cs (vi).toNatClampNeg)), (.int vi), (.ref tb)]))
  obtain ⟨_, _, ⟨T1, L1, k1, n1⟩, -, X1, ⟨Lc1, hQ1, l1, y1, z1⟩, st1⟩ := Jvm.LawKit.callS X0 hx (y := (⟨"java/lang/StringUTF16", "putChar", "([BII)V"⟩ : MethodName)) hown (mvT hZ (hw _ (List.mem_of_getElem? (i := 91) rfl))) (mvT hZ (hw _ (List.mem_of_getElem? (i := 92) rfl))) (mvT hZ (hw _ (List.mem_of_getElem? (i := 45) rfl))) (mvT hZ (hw _ (List.mem_of_getElem? (i := 93) rfl))) (by decide) (backOf (W := 0) (rmP l Z a0 hw [] cz fv tb n2 u vi (vi <<< ((1 : Int32) &&& 31)) (cs vi.toNatClampNeg) h0 n0 ZH OO HW0 G_tb g_tb rfl IX.1 IX.2.1) hZ (hw _ (List.mem_of_getElem? (i := 93) rfl)) (hw _ (List.mem_of_getElem? (i := 45) rfl)) (by decide) (by decide)) (g := (mkF m 20 #[.val (.ref sa), .val (.int vi), .val (.int n), .val (.ref tb), .val (.int vi)] [(.int (cs (vi).toNatClampNeg)), (.int vi), (.ref tb)])) rfl (by rw [hml]; rfl) (argsL := [(.ref tb), (.int vi), (.int (cs (vi).toNatClampNeg))]) (rest := []) (lenOf pd_11 rfl) rfl (by show 2 * 0 + _ ≤ _; exact Nat.le_of_eq rfl) (hb hby d18_20) (fun _ _ => ⟨rfl, e0, (by decide : 1 + 0 ≤ _), (by decide : 10 + 0 ≤ _)⟩)
  dsimp only [Pt.U, Pt.locs, Pt.cells, Pt.slots] at X1 l1 y1 z1 st1 hQ1
  subst l1 y1 z1
  obtain ⟨rfl, Nq1, K1, Gq⟩ := hQ1
  have N1 := Fr.app N0 Nq1
  have G_sa := G_sa.keep K1 (ninS ne_sa_tb nin0)
  have ZH := Nat.le_trans ZH K1.1
  have KK := KK.trans K1 (allS (Or.inl (List.mem_of_getElem? (i := 0) rfl)) all0)
  have OO := OO.keep K1 (allS g_tb all0)
  have G_tb : own_Arf Z T1.heap tb .byte n2 (fun iq => .int ((own_upd (own_upd u (vi <<< ((1 : Int32) &&& 31)) (StrChars.lo8 (cs vi.toNatClampNeg))) ((vi <<< ((1 : Int32) &&& 31)) + (1 : Int32)) (StrChars.hi8 (cs vi.toNatClampNeg))) iq)) := Gq
  refine own_up st1 ?_
  show own_Go p.tables e below _ (T1.setTop (mkF m 23 #[.val (.ref sa), .val (.int vi), .val (.int n), .val (.ref tb), .val (.int vi)] []))
  refine own_up (fun _ kq => XS.iinc X1.here hx rfl (hb hby d18_23) rfl (l' := #[.val (.ref sa), .val (.int (vi + (1 : Int32))), .val (.int n), .val (.ref tb), .val (.int vi)]) rfl kq) ?_
  show own_Go p.tables e below _ (T1.setTop (mkF m 26 #[.val (.ref sa), .val (.int (vi + (1 : Int32))), .val (.int n), .val (.ref tb), .val (.int vi)] []))
  refine own_up (fun _ kq => XS.iinc X1.here hx rfl (hb hby d18_26) rfl (l' := #[.val (.ref sa), .val (.int (vi + (1 : Int32))), .val (.int n), .val (.ref tb), .val (.int (vi + (1 : Int32)))]) rfl kq) ?_
  show own_Go p.tables e below _ (T1.setTop (mkF m 29 #[.val (.ref sa), .val (.int (vi + (1 : Int32))), .val (.int n), .val (.ref tb), .val (.int (vi + (1 : Int32)))] []))
  refine own_up (fun _ kq => XS.goto X1.here hx rfl (pc0 := 29) (pc' := 8) rfl (hb hby d18_29) (by decide) (by decide) kq) ?_
  show own_Go p.tables e below _ (T1.setTop (mkF m 8 #[.val (.ref sa), .val (.int (vi + (1 : Int32))), .val (.int n), .val (.ref tb), .val (.int (vi + (1 : Int32)))] []))
  exact K _ _ _ X1 rfl N1 KK OO G_sa G_tb
theorem own_tbs {p : Program} {l : Launch} {e : Env} {s : State} {m : MethodId} {args : Array Value} {below : List Frame} {meth : Method} {c : Code} {Z : State} {a0 : Array Value} {n0 : Nat} {P : State → Outcome → Prop} {cz : Int32} {fv : Value} {sa : Addr} {tb : Addr} {n : Int32} {n2 : Int32} {cs : Nat → Int32} (hx : p.tables.exec = Jvm.exec) (hZ : Z.Warmed39 s.vm) (hw : ∀ d ∈ tables_1, d.before a0 Z = true) (hby : c.code = jdk_52_method_14_code) (hml : c.maxLocals = 5) (hown : s.vm.findClass "java/lang/StringUTF16" = some m.cls) (HW : own_W Z cz fv) (g_tb : n0 ≤ tb) (ne_sa_tb : sa ≠ tb) (hsm : own_sm n) (hn2 : (n <<< ((1 : Int32) &&& 31)) = n2) :
    ∀ (k i : Nat) (vi : Int32) (T0 : State) (h0 : Heap) (locs : List Loc), i + k = n.toNatClampNeg → vi.toInt = (i : Int) → Stand p l e ({ frames := 2, cells := 1, slots := 10, locals := 38 } : Room) s m args below meth c T0 locs 1 10 → T0.heap = h0 → Fr n0 locs → n0 ≤ h0.size → Old Z n0 h0 → own_Arf Z h0 sa .char n (fun iq => .int (cs iq)) → own_Arf Z h0 tb .byte n2 (fun iq => .int (own_uf cs i iq)) →
      (∀ (T' : State) (h' : Heap) (locs' : List Loc), Stand p l e ({ frames := 2, cells := 1, slots := 10, locals := 38 } : Room) s m args below meth c T' locs' 1 10 → T'.heap = h' → Fr n0 locs' → Keep h0 h' [tb] → Old Z n0 h' → own_Arf Z h' sa .char n (fun iq => .int (cs iq)) → own_Arf Z h' tb .byte n2 (fun iq => .int (own_uf cs n.toNatClampNeg iq)) → own_Go p.tables e below P (T'.setTop (mkF m 8 #[.val (.ref sa), .val (.int n), .val (.int n), .val (.ref tb), .val (.int n)] []))) → own_Go p.tables e below P (T0.setTop (mkF m 8 #[.val (.ref sa), .val (.int vi), .val (.int n), .val (.ref tb), .val (.int vi)] [])) := by
  intro k
  induction k with
  | zero =>
    intro i vi T0 h0 locs hi hv X0 e0 N0 Z0 OO A B K
    have hvn : vi = n := own_eqn (own_smN hsm hn2).1 (by rw [hv]; omega)
    have hii : i = n.toNatClampNeg := by omega
    subst hvn
    subst hii
    exact K T0 h0 locs X0 e0 N0 (Keep.refl _ _) OO A B
  | succ k ih =>
    intro i vi T0 h0 locs hi hv X0 e0 N0 Z0 OO A B K
    have q := own_ltn (n := n) hv (by omega)
    have IX := own_ix hsm hn2 q.1 q.2.1 rfl
    refine tnB X0 hx hZ hw hby hml hown e0 N0 Z0 OO HW A B g_tb ne_sa_tb hsm hn2 q.1 q.2.1 (fun T' h' locs' X e' N K1 O1 A1 B1 => ?_)
    rw [q.2.2, own_ufS cs _ i (by rw [IX.2.2.1, q.2.2]) (by rw [IX.2.2.2.1, q.2.2])] at B1
    exact ih (i + 1) (vi + (1 : Int32)) T' h' locs' (by omega) (own_succ (n := n) hv (by omega)) X e' N (Nat.le_trans Z0 K1.1) O1 A1 B1 (fun T2 h2 l2 X2 e2 N2 K2 O2 A2 B2 => K T2 h2 l2 X2 e2 N2 (K1.trans K2 (allS (Or.inl (List.mem_of_getElem? (i := 0) rfl)) all0)) O2 A2 B2)
theorem d18_0 : decode jdk_52_method_14_code 0 = .ok (.iload_n 2, 1) := by decide +kernel
theorem d18_1 : decode jdk_52_method_14_code 1 = .ok (.invokestatic 107, 3) := by decide +kernel
theorem pd_12 : parseMethodDescriptor "(I)[B" = some ⟨[.int], some (.array .byte)⟩ := by decide +kernel
theorem d18_4 : decode jdk_52_method_14_code 4 = .ok (.astore_n 3, 1) := by decide +kernel
theorem d18_5 : decode jdk_52_method_14_code 5 = .ok (.iconst 0, 1) := by decide +kernel
theorem d18_6 : decode jdk_52_method_14_code 6 = .ok (.istore 4, 2) := by decide +kernel
theorem d18_32 : decode jdk_52_method_14_code 32 = .ok (.aload_n 3, 1) := by decide +kernel
theorem d18_33 : decode jdk_52_method_14_code 33 = .ok (.areturn, 1) := by decide +kernel
theorem ef_rmTB (m : MethodId) (x0 : Addr) (x1 : Int32) (x2 : Int32) : entryFrame m #[(.ref x0), (.int x1), (.int x2)] 5 = mkF m 0 #[.val (.ref x0), .val (.int x1), .val (.int x2), .unset, .unset] [] := by first | (simp [entryFrame, mkF, argsToLocals, Value.category]; done) | rfl
def QrmTB (Z : State) (cz : Int32) (fv : Value) (sa : Addr) (n : Int32) (n2 : Int32) (cs : Nat → Int32) (h0 : Heap) (n0 : Nat) (v : Option Value) (h : Heap) (L : List Loc) : Prop := ∃ b : Addr, h0.size ≤ b ∧ v = some (.ref b) ∧ Fr n0 L ∧ Keep h0 h [] ∧ own_TU Z h b n n2 cs
set_option maxRecDepth 65536 in
set_option maxHeartbeats 40000000 in
theorem rmTB (l : Launch) (Z : State) (a0 : Array Value) (hw : ∀ d ∈ tables_1, d.before a0 Z = true) (ws : List Jvm.Cond) (cz : Int32) (fv : Value) (sa : Addr) (n : Int32) (n2 : Int32) (cs : Nat → Int32) (h0 : Heap) (n0 : Nat) (Z0 : n0 ≤ h0.size) (OO : Old Z n0 h0) (HW : own_W Z cz fv) (G_sa : own_Arf Z h0 sa .char n (fun iq => .int (cs iq))) (hsm : own_sm n) (hn2 : (n <<< ((1 : Int32) &&& 31)) = n2) :
    MetFree l (⟨"java/lang/StringUTF16", "toBytes", "([CII)[B"⟩ : MethodName) (head1 (Jvm.Cond.code (⟨"java/lang/StringUTF16", "toBytes", "([CII)[B"⟩ : MethodName) jdk_52_method_14_code 5 (some (.array .byte)) :: ws) ({ frames := 2, cells := 1, slots := 10, locals := 38 } : Room)) (fun aq Uq => aq = #[(.ref sa), (.int (0 : Int32)), (.int n)] ∧ Z.Warmed39 Uq.vm ∧ Uq.heap = h0) (fun _ _ _ _ _ => True) (fun _ Uq oq Uq' => ∃ vq Lq, oq = .returned vq ∧ QrmTB Z cz fv sa n n2 cs h0 n0 vq Uq'.heap Lq ∧ FrameEnd Uq oq Uq' Lq ({ frames := 2, cells := 1, slots := 10, locals := 38 } : Room).cells ({ frames := 2, cells := 1, slots := 10, locals := 38 } : Room).slots) := by
  refine MetFree.of_bodySF (plainFor_of_name pn_5) hisR ?_
  intro p e s m args below meth c s₁ Bd hml0 hP hK
  obtain ⟨rfl, hZ, hh⟩ := hP
  have hx := Bd.exec
  have hby := Bd.bytes
  have hml : c.maxLocals = 5 := hml0
  have hown : s.vm.findClass "java/lang/StringUTF16" = some m.cls := findClass_of_methodNamed Bd.named
  have hnm := (name_of_methodNamed Bd.named Bd.method).1
  have X0 : Stand p l e ({ frames := 2, cells := 1, slots := 10, locals := 38 } : Room) s m #[(.ref sa), (.int (0 : Int32)), (.int n)] below meth c s₁ [] 0 0 := Stand.of_body Bd
  have e0 : s₁.heap = h0 := by rw [← hh, Bd.state]; rfl
  have N0 := Fr.nil n0
  have ZH := Z0
  have KK := Keep.refl h0 []
  refine own_start (fun t kq => castTop (ef_rmTB m sa (0 : Int32) n) kq) ?_
  show own_Go p.tables e below _ (s₁.setTop (mkF m 0 #[.val (.ref sa), .val (.int (0 : Int32)), .val (.int n), .unset, .unset] []))
  have HW0 := HW
  obtain ⟨SC, hcz, SF, hfv, SA, SH, SL⟩ := HW
  refine own_up (fun _ kq => XS.iloadN X0.here hx rfl (hb hby d18_0) rfl kq) ?_
  show own_Go p.tables e below _ (s₁.setTop (mkF m 1 #[.val (.ref sa), .val (.int (0 : Int32)), .val (.int n), .unset, .unset] [(.int n)]))
  obtain ⟨_, _, ⟨T1, L1, k1, n1⟩, -, X1, ⟨Lc1, hQ1, l1, y1, z1⟩, st1⟩ := Jvm.LawKit.callS X0 hx (y := (⟨"java/lang/StringUTF16", "newBytesFor", "(I)[B"⟩ : MethodName)) hown (mvT hZ (hw _ (List.mem_of_getElem? (i := 84) rfl))) (mvT hZ (hw _ (List.mem_of_getElem? (i := 85) rfl))) (mvT hZ (hw _ (List.mem_of_getElem? (i := 45) rfl))) (mvT hZ (hw _ (List.mem_of_getElem? (i := 86) rfl))) (by decide) (backOf (W := 0) (rmNF l Z a0 hw [] n n2 h0 n0 ZH hsm hn2) hZ (hw _ (List.mem_of_getElem? (i := 86) rfl)) (hw _ (List.mem_of_getElem? (i := 45) rfl)) (by decide) (by decide)) (g := (mkF m 1 #[.val (.ref sa), .val (.int (0 : Int32)), .val (.int n), .unset, .unset] [(.int n)])) rfl (by rw [hml]; rfl) (argsL := [(.int n)]) (rest := []) (lenOf pd_12 rfl) rfl (by show 2 * 0 + _ ≤ _; exact Nat.le_of_eq rfl) (hb hby d18_1) (fun _ _ => ⟨rfl, e0, (by decide : 0 + 1 ≤ _), (by decide : 0 + 10 ≤ _)⟩)
  dsimp only [Pt.U, Pt.locs, Pt.cells, Pt.slots] at X1 l1 y1 z1 st1 hQ1
  subst l1 y1 z1
  obtain ⟨tb, sf1, rfl, Nq1, K1, G_tb⟩ := hQ1
  have g_tb : n0 ≤ tb := Nat.le_trans ZH sf1
  have sz_tb : h0.size ≤ tb := Nat.le_trans KK.1 sf1
  have ne_sa_tb : sa ≠ tb := Nat.ne_of_lt (Nat.lt_of_lt_of_le G_sa.lt sf1)
  have N1 := Fr.app N0 Nq1
  have G_sa := G_sa.keep K1 nin0
  have ZH := Nat.le_trans ZH K1.1
  have KK := KK.trans K1 all0
  have OO := OO.keep K1 all0
  refine own_up st1 ?_
  show own_Go p.tables e below _ (T1.setTop (mkF m 4 #[.val (.ref sa), .val (.int (0 : Int32)), .val (.int n), .unset, .unset] [(.ref tb)]))
  refine own_up (fun _ kq => XS.astoreN X1.here hx rfl (hb hby d18_4) rfl rfl (l' := #[.val (.ref sa), .val (.int (0 : Int32)), .val (.int n), .val (.ref tb), .unset]) rfl kq) ?_
  show own_Go p.tables e below _ (T1.setTop (mkF m 5 #[.val (.ref sa), .val (.int (0 : Int32)), .val (.int n), .val (.ref tb), .unset] []))
  refine own_up (fun _ kq => XS.iconst X1.here hx rfl (hb hby d18_5) kq) ?_
  show own_Go p.tables e below _ (T1.setTop (mkF m 6 #[.val (.ref sa), .val (.int (0 : Int32)), .val (.int n), .val (.ref tb), .unset] [(.int (0 : Int32))]))
  refine own_up (fun _ kq => XS.istore X1.here hx rfl (hb hby d18_6) rfl (l' := #[.val (.ref sa), .val (.int (0 : Int32)), .val (.int n), .val (.ref tb), .val (.int (0 : Int32))]) rfl kq) ?_
  show own_Go p.tables e below _ (T1.setTop (mkF m 8 #[.val (.ref sa), .val (.int (0 : Int32)), .val (.int n), .val (.ref tb), .val (.int (0 : Int32))] []))
  refine own_tbs hx hZ hw hby hml hown HW0 g_tb ne_sa_tb hsm hn2 n.toNatClampNeg 0 (0 : Int32) _ _ _ (by omega) (by decide) X1 rfl N1 ZH OO G_sa (by rw [own_uf0]; exact G_tb) (fun T2 h2 l2 X2 e2 N2 K2 OO G_sa G_tb => ?_)
  have KK := KK.trans K2 (allS (Or.inr sz_tb) all0)
  have ZH := Nat.le_trans ZH K2.1
  show own_Go p.tables e below _ (T2.setTop (mkF m 8 #[.val (.ref sa), .val (.int n), .val (.int n), .val (.ref tb), .val (.int n)] []))
  refine own_up (fun _ kq => XS.iload X2.here hx rfl (hb hby d18_8) rfl kq) ?_
  show own_Go p.tables e below _ (T2.setTop (mkF m 10 #[.val (.ref sa), .val (.int n), .val (.int n), .val (.ref tb), .val (.int n)] [(.int n)]))
  refine own_up (fun _ kq => XS.iloadN X2.here hx rfl (hb hby d18_10) rfl kq) ?_
  show own_Go p.tables e below _ (T2.setTop (mkF m 11 #[.val (.ref sa), .val (.int n), .val (.int n), .val (.ref tb), .val (.int n)] [(.int n), (.int n)]))
  refine own_up (fun _ kq => XS.icmpYes X2.here hx rfl (pc0 := 11) (pc' := 32) rfl (hb hby d18_11) rfl (flt (own_irr n)).2.1 (by decide) (by decide) kq) ?_
  show own_Go p.tables e below _ (T2.setTop (mkF m 32 #[.val (.ref sa), .val (.int n), .val (.int n), .val (.ref tb), .val (.int n)] []))
  refine own_up (fun _ kq => XS.aloadN X2.here hx rfl (hb hby d18_32) rfl rfl kq) ?_
  show own_Go p.tables e below _ (T2.setTop (mkF m 33 #[.val (.ref sa), .val (.int n), .val (.int n), .val (.ref tb), .val (.int n)] [(.ref tb)]))
  obtain ⟨fs3, hr3, hrun3, hended3, hW3, hsame3⟩ := X2.leave (v := some (.ref tb)) (fun h => by rw [Bd.returns] at h; cases h)
  refine own_end ⟨_, _, ?_, hrun3, hended3, _, _, rfl, ?_, ⟨_, rfl⟩, hW3, hsame3.mono (by decide) (by decide)⟩
  · exact retOut X2 hx Bd.returns rfl (Or.inr (Or.inr (Or.inr (Or.inr ⟨rfl, rfl, rfl⟩)))) (hb hby d18_33) hr3
  · show QrmTB Z cz fv sa n n2 cs h0 n0 _ T2.heap _
    rw [e2]
    exact ⟨tb, sz_tb, rfl, N2, KK, _, G_tb, fun i hi => ⟨congrArg Value.int (own_ufv cs hi).1, congrArg Value.int (own_ufv cs hi).2⟩⟩
theorem d8_0 : decode jdk_52_method_16_code 0 = .ok (.iload_n 2, 1) := by decide +kernel
theorem d8_1 : decode jdk_52_method_16_code 1 = .ok (.newarray .byte, 2) := by decide +kernel
theorem d8_3 : decode jdk_52_method_16_code 3 = .ok (.astore_n 3, 1) := by decide +kernel
theorem d8_4 : decode jdk_52_method_16_code 4 = .ok (.aload_n 0, 1) := by decide +kernel
theorem d8_5 : decode jdk_52_method_16_code 5 = .ok (.iload_n 1, 1) := by decide +kernel
theorem d8_6 : decode jdk_52_method_16_code 6 = .ok (.aload_n 3, 1) := by decide +kernel
theorem d8_7 : decode jdk_52_method_16_code 7 = .ok (.iconst 0, 1) := by decide +kernel
theorem d8_8 : decode jdk_52_method_16_code 8 = .ok (.iload_n 2, 1) := by decide +kernel
theorem d8_9 : decode jdk_52_method_16_code 9 = .ok (.invokestatic 115, 3) := by decide +kernel
theorem pd_13 : parseMethodDescriptor "([CI[BII)I" = some ⟨[(.array .char), .int, (.array .byte), .int, .int], some .int⟩ := by decide +kernel
theorem d8_12 : decode jdk_52_method_16_code 12 = .ok (.istore 4, 2) := by decide +kernel
theorem d8_14 : decode jdk_52_method_16_code 14 = .ok (.iload 4, 2) := by decide +kernel
theorem d8_16 : decode jdk_52_method_16_code 16 = .ok (.iload_n 2, 1) := by decide +kernel
theorem d8_17 : decode jdk_52_method_16_code 17 = .ok (.if_icmp .eq 40, 3) := by decide +kernel
theorem d8_57 : decode jdk_52_method_16_code 57 = .ok (.aload_n 3, 1) := by decide +kernel
theorem d8_58 : decode jdk_52_method_16_code 58 = .ok (.areturn, 1) := by decide +kernel
theorem d8_20 : decode jdk_52_method_16_code 20 = .ok (.aload_n 0, 1) := by decide +kernel
theorem d8_21 : decode jdk_52_method_16_code 21 = .ok (.iload_n 1, 1) := by decide +kernel
theorem d8_22 : decode jdk_52_method_16_code 22 = .ok (.iload_n 2, 1) := by decide +kernel
theorem d8_23 : decode jdk_52_method_16_code 23 = .ok (.invokestatic 119, 3) := by decide +kernel
theorem pd_14 : parseMethodDescriptor "([CII)[B" = some ⟨[(.array .char), .int, .int], some (.array .byte)⟩ := by decide +kernel
theorem d8_26 : decode jdk_52_method_16_code 26 = .ok (.astore 5, 2) := by decide +kernel
theorem d8_28 : decode jdk_52_method_16_code 28 = .ok (.aload 5, 2) := by decide +kernel
theorem d8_30 : decode jdk_52_method_16_code 30 = .ok (.iload 4, 2) := by decide +kernel
theorem d8_32 : decode jdk_52_method_16_code 32 = .ok (.invokestatic 71, 3) := by decide +kernel
theorem d8_35 : decode jdk_52_method_16_code 35 = .ok (.sipush 255, 3) := by decide +kernel
theorem d8_38 : decode jdk_52_method_16_code 38 = .ok (.if_icmp .gt 16, 3) := by decide +kernel
theorem d8_54 : decode jdk_52_method_16_code 54 = .ok (.aload 5, 2) := by decide +kernel
theorem d8_56 : decode jdk_52_method_16_code 56 = .ok (.areturn, 1) := by decide +kernel
theorem ef_rmK (m : MethodId) (x0 : Addr) (x1 : Int32) (x2 : Int32) : entryFrame m #[(.ref x0), (.int x1), (.int x2)] 6 = mkF m 0 #[.val (.ref x0), .val (.int x1), .val (.int x2), .unset, .unset, .unset] [] := by first | (simp [entryFrame, mkF, argsToLocals, Value.category]; done) | rfl
def QrmK (Z : State) (cz : Int32) (fv : Value) (sa : Addr) (n : Int32) (n2 : Int32) (cs : Nat → Int32) (h0 : Heap) (n0 : Nat) (v : Option Value) (h : Heap) (L : List Loc) : Prop := ∃ tb : Addr, h0.size ≤ tb ∧ v = some (.ref tb) ∧ Fr n0 L ∧ Keep h0 h [] ∧ (own_TL Z h tb n cs ∨ own_TU Z h tb n n2 cs)
set_option maxRecDepth 65536 in
set_option maxHeartbeats 40000000 in
theorem rmK (l : Launch) (Z : State) (a0 : Array Value) (hw : ∀ d ∈ tables_1, d.before a0 Z = true) (ws : List Jvm.Cond) (cz : Int32) (fv : Value) (sa : Addr) (n : Int32) (n2 : Int32) (cs : Nat → Int32) (h0 : Heap) (n0 : Nat) (Z0 : n0 ≤ h0.size) (OO : Old Z n0 h0) (HW : own_W Z cz fv) (G_sa : own_Arf Z h0 sa .char n (fun iq => .int (cs iq))) (hch : own_ch cs) (hsm : own_sm n) (hn2 : (n <<< ((1 : Int32) &&& 31)) = n2) :
    MetFree l (⟨"java/lang/StringUTF16", "compress", "([CII)[B"⟩ : MethodName) (head1 (Jvm.Cond.code (⟨"java/lang/StringUTF16", "compress", "([CII)[B"⟩ : MethodName) jdk_52_method_16_code 6 (some (.array .byte)) :: ws) ({ frames := 3, cells := 2, slots := 15, locals := 54 } : Room)) (fun aq Uq => aq = #[(.ref sa), (.int (0 : Int32)), (.int n)] ∧ Z.Warmed39 Uq.vm ∧ Uq.heap = h0) (fun _ _ _ _ _ => True) (fun _ Uq oq Uq' => ∃ vq Lq, oq = .returned vq ∧ QrmK Z cz fv sa n n2 cs h0 n0 vq Uq'.heap Lq ∧ FrameEnd Uq oq Uq' Lq ({ frames := 3, cells := 2, slots := 15, locals := 54 } : Room).cells ({ frames := 3, cells := 2, slots := 15, locals := 54 } : Room).slots) := by
  refine MetFree.of_bodySF (plainFor_of_name pn_5) hisR ?_
  intro p e s m args below meth c s₁ Bd hml0 hP hK
  obtain ⟨rfl, hZ, hh⟩ := hP
  have hx := Bd.exec
  have hby := Bd.bytes
  have hml : c.maxLocals = 6 := hml0
  have hown : s.vm.findClass "java/lang/StringUTF16" = some m.cls := findClass_of_methodNamed Bd.named
  have hnm := (name_of_methodNamed Bd.named Bd.method).1
  have X0 : Stand p l e ({ frames := 3, cells := 2, slots := 15, locals := 54 } : Room) s m #[(.ref sa), (.int (0 : Int32)), (.int n)] below meth c s₁ [] 0 0 := Stand.of_body Bd
  have e0 : s₁.heap = h0 := by rw [← hh, Bd.state]; rfl
  have N0 := Fr.nil n0
  have ZH := Z0
  have KK := Keep.refl h0 []
  refine own_start (fun t kq => castTop (ef_rmK m sa (0 : Int32) n) kq) ?_
  show own_Go p.tables e below _ (s₁.setTop (mkF m 0 #[.val (.ref sa), .val (.int (0 : Int32)), .val (.int n), .unset, .unset, .unset] []))
  have HW0 := HW
  obtain ⟨SC, hcz, SF, hfv, SA, SH, SL⟩ := HW
  refine own_up (fun _ kq => XS.iloadN X0.here hx rfl (hb hby d8_0) rfl kq) ?_
  show own_Go p.tables e below _ (s₁.setTop (mkF m 1 #[.val (.ref sa), .val (.int (0 : Int32)), .val (.int n), .unset, .unset, .unset] [(.int n)]))
  obtain ⟨T1, h1, k1, X1, e1, E1, A1, st1⟩ := newP X0 hx hZ (hw _ (List.mem_of_getElem? (i := 21) rfl)) e0 (g := (mkF m 1 #[.val (.ref sa), .val (.int (0 : Int32)), .val (.int n), .unset, .unset, .unset] [(.int n)])) rfl (hb hby d8_1) rfl (own_smN hsm hn2).1 (cap := 5) (own_smN hsm hn2).2.2.1 (by decide) (by decide) (by decide)
  obtain ⟨b1, gz1⟩ : ∃ z, z = h0.size := ⟨_, rfl⟩
  rw [← gz1] at A1 st1
  have ne_sa_b1 : sa ≠ b1 := Nat.ne_of_lt (Nat.lt_of_lt_of_le G_sa.lt (Nat.le_of_eq gz1.symm))
  have g_b1 : n0 ≤ b1 := Nat.le_trans ZH (Nat.le_of_eq gz1.symm)
  have sz_b1 : h0.size ≤ b1 := Nat.le_trans KK.1 (Nat.le_of_eq gz1.symm)
  have G_sa := G_sa.ext E1
  have ZH := Nat.le_trans ZH E1.1
  have KK := KK.ext E1
  have OO := OO.ext E1
  have G_b1 : own_Arf Z h1 b1 .byte n (fun i => .int ((fun _ => 0 : Nat → Int32) i)) := own_Arf.new A1 (own_smN hsm hn2).1
  refine own_up st1 ?_
  show own_Go p.tables e below _ (T1.setTop (mkF m 3 #[.val (.ref sa), .val (.int (0 : Int32)), .val (.int n), .unset, .unset, .unset] [(.ref b1)]))
  refine own_up (fun _ kq => XS.astoreN X1.here hx rfl (hb hby d8_3) rfl rfl (l' := #[.val (.ref sa), .val (.int (0 : Int32)), .val (.int n), .val (.ref b1), .unset, .unset]) rfl kq) ?_
  show own_Go p.tables e below _ (T1.setTop (mkF m 4 #[.val (.ref sa), .val (.int (0 : Int32)), .val (.int n), .val (.ref b1), .unset, .unset] []))
  refine own_up (fun _ kq => XS.aloadN X1.here hx rfl (hb hby d8_4) rfl rfl kq) ?_
  show own_Go p.tables e below _ (T1.setTop (mkF m 5 #[.val (.ref sa), .val (.int (0 : Int32)), .val (.int n), .val (.ref b1), .unset, .unset] [(.ref sa)]))
  refine own_up (fun _ kq => XS.iloadN X1.here hx rfl (hb hby d8_5) rfl kq) ?_
  show own_Go p.tables e below _ (T1.setTop (mkF m 6 #[.val (.ref sa), .val (.int (0 : Int32)), .val (.int n), .val (.ref b1), .unset, .unset] [(.int (0 : Int32)), (.ref sa)]))
  refine own_up (fun _ kq => XS.aloadN X1.here hx rfl (hb hby d8_6) rfl rfl kq) ?_
  show own_Go p.tables e below _ (T1.setTop (mkF m 7 #[.val (.ref sa), .val (.int (0 : Int32)), .val (.int n), .val (.ref b1), .unset, .unset] [(.ref b1), (.int (0 : Int32)), (.ref sa)]))
  refine own_up (fun _ kq => XS.iconst X1.here hx rfl (hb hby d8_7) kq) ?_
  show own_Go p.tables e below _ (T1.setTop (mkF m 8 #[.val (.ref sa), .val (.int (0 : Int32)), .val (.int n), .val (.ref b1), .unset, .unset] [(.int (0 : Int32)), (.ref b1), (.int (0 : Int32)), (.ref sa)]))
  refine own_up (fun _ kq => XS.iloadN X1.here hx rfl (hb hby d8_8) rfl kq) ?_
  show own_Go p.tables e below _ (T1.setTop (mkF m 9 #[.val (.ref sa), .val (.int (0 : Int32)), .val (.int n), .val (.ref b1), .unset, .unset] [(.int n), (.int (0 : Int32)), (.ref b1), (.int (0 : Int32)), (.ref sa)]))
  obtain ⟨_, _, ⟨T2, L2, k2, n2⟩, -, X2, ⟨Lc2, hQ2, l2, y2, z2⟩, st2⟩ := Jvm.LawKit.callS X1 hx (y := (⟨"java/lang/StringUTF16", "compress", "([CI[BII)I"⟩ : MethodName)) hown (mvT hZ (hw _ (List.mem_of_getElem? (i := 47) rfl))) (mvT hZ (hw _ (List.mem_of_getElem? (i := 48) rfl))) (mvT hZ (hw _ (List.mem_of_getElem? (i := 45) rfl))) (mvT hZ (hw _ (List.mem_of_getElem? (i := 49) rfl))) (by decide) (backOf (W := 0) (rmX l Z a0 hw [] sa b1 n cs (fun _ => 0 : Nat → Int32) h1 n0 ZH G_sa G_b1 g_b1 ne_sa_b1) hZ (hw _ (List.mem_of_getElem? (i := 49) rfl)) (hw _ (List.mem_of_getElem? (i := 45) rfl)) (by decide) (by decide)) (g := (mkF m 9 #[.val (.ref sa), .val (.int (0 : Int32)), .val (.int n), .val (.ref b1), .unset, .unset] [(.int n), (.int (0 : Int32)), (.ref b1), (.int (0 : Int32)), (.ref sa)])) rfl (by rw [hml]; rfl) (argsL := [(.ref sa), (.int (0 : Int32)), (.ref b1), (.int (0 : Int32)), (.int n)]) (rest := []) (lenOf pd_13 rfl) rfl (by show 2 * 0 + _ ≤ _; exact Nat.le_of_eq rfl) (hb hby d8_9) (fun _ _ => ⟨rfl, e1, (by decide : 1 + 0 ≤ _), (by decide : 5 + 0 ≤ _)⟩)
  dsimp only [Pt.U, Pt.locs, Pt.cells, Pt.slots] at X2 l2 y2 z2 st2 hQ2
  subst l2 y2 z2
  obtain ⟨kr, rfl, Nq2, K2, hcase⟩ := hQ2
  have N2 := Fr.app N0 Nq2
  have G_sa := G_sa.keep K2 (ninS ne_sa_b1 nin0)
  have ZH := Nat.le_trans ZH K2.1
  have KK := KK.trans K2 (allS (Or.inr sz_b1) all0)
  have OO := OO.keep K2 (allS g_b1 all0)
  refine own_up st2 ?_
  show own_Go p.tables e below _ (T2.setTop (mkF m 12 #[.val (.ref sa), .val (.int (0 : Int32)), .val (.int n), .val (.ref b1), .unset, .unset] [(.int kr)]))
  rcases hcase with ⟨hkr, hTL⟩ | ⟨hk0, hkl, hkb⟩
  · rw [hkr]
    show own_Go p.tables e below _ (T2.setTop (mkF m 12 #[.val (.ref sa), .val (.int (0 : Int32)), .val (.int n), .val (.ref b1), .unset, .unset] [(.int n)]))
    refine own_up (fun _ kq => XS.istore X2.here hx rfl (hb hby d8_12) rfl (l' := #[.val (.ref sa), .val (.int (0 : Int32)), .val (.int n), .val (.ref b1), .val (.int n), .unset]) rfl kq) ?_
    show own_Go p.tables e below _ (T2.setTop (mkF m 14 #[.val (.ref sa), .val (.int (0 : Int32)), .val (.int n), .val (.ref b1), .val (.int n), .unset] []))
    refine own_up (fun _ kq => XS.iload X2.here hx rfl (hb hby d8_14) rfl kq) ?_
    show own_Go p.tables e below _ (T2.setTop (mkF m 16 #[.val (.ref sa), .val (.int (0 : Int32)), .val (.int n), .val (.ref b1), .val (.int n), .unset] [(.int n)]))
    refine own_up (fun _ kq => XS.iloadN X2.here hx rfl (hb hby d8_16) rfl kq) ?_
    show own_Go p.tables e below _ (T2.setTop (mkF m 17 #[.val (.ref sa), .val (.int (0 : Int32)), .val (.int n), .val (.ref b1), .val (.int n), .unset] [(.int n), (.int n)]))
    refine own_up (fun _ kq => XS.icmpYes X2.here hx rfl (pc0 := 17) (pc' := 57) rfl (hb hby d8_17) rfl (teq rfl).1 (by decide) (by decide) kq) ?_
    show own_Go p.tables e below _ (T2.setTop (mkF m 57 #[.val (.ref sa), .val (.int (0 : Int32)), .val (.int n), .val (.ref b1), .val (.int n), .unset] []))
    refine own_up (fun _ kq => XS.aloadN X2.here hx rfl (hb hby d8_57) rfl rfl kq) ?_
    show own_Go p.tables e below _ (T2.setTop (mkF m 58 #[.val (.ref sa), .val (.int (0 : Int32)), .val (.int n), .val (.ref b1), .val (.int n), .unset] [(.ref b1)]))
    obtain ⟨fs3, hr3, hrun3, hended3, hW3, hsame3⟩ := X2.leave (v := some (.ref b1)) (fun h => by rw [Bd.returns] at h; cases h)
    refine own_end ⟨_, _, ?_, hrun3, hended3, _, _, rfl, ?_, ⟨_, rfl⟩, hW3, hsame3.mono (by decide) (by decide)⟩
    · exact retOut X2 hx Bd.returns rfl (Or.inr (Or.inr (Or.inr (Or.inr ⟨rfl, rfl, rfl⟩)))) (hb hby d8_58) hr3
    · show QrmK Z cz fv sa n n2 cs h0 n0 _ T2.heap _
      skip
      exact ⟨b1, sz_b1, rfl, N2, KK, Or.inl hTL⟩
  · have IX := own_ix hsm hn2 hk0 hkl rfl
    show own_Go p.tables e below _ (T2.setTop (mkF m 12 #[.val (.ref sa), .val (.int (0 : Int32)), .val (.int n), .val (.ref b1), .unset, .unset] [(.int kr)]))
    refine own_up (fun _ kq => XS.istore X2.here hx rfl (hb hby d8_12) rfl (l' := #[.val (.ref sa), .val (.int (0 : Int32)), .val (.int n), .val (.ref b1), .val (.int kr), .unset]) rfl kq) ?_
    show own_Go p.tables e below _ (T2.setTop (mkF m 14 #[.val (.ref sa), .val (.int (0 : Int32)), .val (.int n), .val (.ref b1), .val (.int kr), .unset] []))
    refine own_up (fun _ kq => XS.iload X2.here hx rfl (hb hby d8_14) rfl kq) ?_
    show own_Go p.tables e below _ (T2.setTop (mkF m 16 #[.val (.ref sa), .val (.int (0 : Int32)), .val (.int n), .val (.ref b1), .val (.int kr), .unset] [(.int kr)]))
    refine own_up (fun _ kq => XS.iloadN X2.here hx rfl (hb hby d8_16) rfl kq) ?_
    show own_Go p.tables e below _ (T2.setTop (mkF m 17 #[.val (.ref sa), .val (.int (0 : Int32)), .val (.int n), .val (.ref b1), .val (.int kr), .unset] [(.int n), (.int kr)]))
    refine own_up (fun _ kq => XS.icmpNo X2.here hx rfl (hb hby d8_17) rfl (feq (own_nek hkl)).1 kq) ?_
    show own_Go p.tables e below _ (T2.setTop (mkF m 20 #[.val (.ref sa), .val (.int (0 : Int32)), .val (.int n), .val (.ref b1), .val (.int kr), .unset] []))
    refine own_up (fun _ kq => XS.aloadN X2.here hx rfl (hb hby d8_20) rfl rfl kq) ?_
    show own_Go p.tables e below _ (T2.setTop (mkF m 21 #[.val (.ref sa), .val (.int (0 : Int32)), .val (.int n), .val (.ref b1), .val (.int kr), .unset] [(.ref sa)]))
    refine own_up (fun _ kq => XS.iloadN X2.here hx rfl (hb hby d8_21) rfl kq) ?_
    show own_Go p.tables e below _ (T2.setTop (mkF m 22 #[.val (.ref sa), .val (.int (0 : Int32)), .val (.int n), .val (.ref b1), .val (.int kr), .unset] [(.int (0 : Int32)), (.ref sa)]))
    refine own_up (fun _ kq => XS.iloadN X2.here hx rfl (hb hby d8_22) rfl kq) ?_
    show own_Go p.tables e below _ (T2.setTop (mkF m 23 #[.val (.ref sa), .val (.int (0 : Int32)), .val (.int n), .val (.ref b1), .val (.int kr), .unset] [(.int n), (.int (0 : Int32)), (.ref sa)]))
    obtain ⟨_, _, ⟨T4, L4, k4, n4⟩, -, X4, ⟨Lc4, hQ4, l4, y4, z4⟩, st4⟩ := Jvm.LawKit.callS X2 hx (y := (⟨"java/lang/StringUTF16", "toBytes", "([CII)[B"⟩ : MethodName)) hown (mvT hZ (hw _ (List.mem_of_getElem? (i := 81) rfl))) (mvT hZ (hw _ (List.mem_of_getElem? (i := 82) rfl))) (mvT hZ (hw _ (List.mem_of_getElem? (i := 45) rfl))) (mvT hZ (hw _ (List.mem_of_getElem? (i := 83) rfl))) (by decide) (backOf (W := 0) (rmTB l Z a0 hw [] cz fv sa n n2 cs T2.heap n0 ZH OO HW0 G_sa hsm hn2) hZ (hw _ (List.mem_of_getElem? (i := 83) rfl)) (hw _ (List.mem_of_getElem? (i := 45) rfl)) (by decide) (by decide)) (g := (mkF m 23 #[.val (.ref sa), .val (.int (0 : Int32)), .val (.int n), .val (.ref b1), .val (.int kr), .unset] [(.int n), (.int (0 : Int32)), (.ref sa)])) rfl (by rw [hml]; rfl) (argsL := [(.ref sa), (.int (0 : Int32)), (.int n)]) (rest := []) (lenOf pd_14 rfl) rfl (by show 2 * 0 + _ ≤ _; exact Nat.le_of_eq rfl) (hb hby d8_23) (fun _ _ => ⟨rfl, rfl, (by decide : 1 + 1 ≤ _), (by decide : 5 + 10 ≤ _)⟩)
    dsimp only [Pt.U, Pt.locs, Pt.cells, Pt.slots] at X4 l4 y4 z4 st4 hQ4
    subst l4 y4 z4
    obtain ⟨bb, sf4, rfl, Nq4, K4, hT⟩ := hQ4
    have g_bb : n0 ≤ bb := Nat.le_trans ZH sf4
    have sz_bb : h0.size ≤ bb := Nat.le_trans KK.1 sf4
    have ne_sa_bb : sa ≠ bb := Nat.ne_of_lt (Nat.lt_of_lt_of_le G_sa.lt sf4)
    have N4 := Fr.app N2 Nq4
    have G_sa := G_sa.keep K4 nin0
    have ZH := Nat.le_trans ZH K4.1
    have KK := KK.trans K4 all0
    have OO := OO.keep K4 all0
    refine own_up st4 ?_
    show own_Go p.tables e below _ (T4.setTop (mkF m 26 #[.val (.ref sa), .val (.int (0 : Int32)), .val (.int n), .val (.ref b1), .val (.int kr), .unset] [(.ref bb)]))
    have hTU := hT
    obtain ⟨fb, G_bb, hfb⟩ := hT
    refine own_up (fun _ kq => XS.astore X4.here hx rfl (hb hby d8_26) rfl rfl (l' := #[.val (.ref sa), .val (.int (0 : Int32)), .val (.int n), .val (.ref b1), .val (.int kr), .val (.ref bb)]) rfl kq) ?_
    show own_Go p.tables e below _ (T4.setTop (mkF m 28 #[.val (.ref sa), .val (.int (0 : Int32)), .val (.int n), .val (.ref b1), .val (.int kr), .val (.ref bb)] []))
    refine own_up (fun _ kq => XS.aload X4.here hx rfl (hb hby d8_28) rfl rfl kq) ?_
    show own_Go p.tables e below _ (T4.setTop (mkF m 30 #[.val (.ref sa), .val (.int (0 : Int32)), .val (.int n), .val (.ref b1), .val (.int kr), .val (.ref bb)] [(.ref bb)]))
    refine own_up (fun _ kq => XS.iload X4.here hx rfl (hb hby d8_30) rfl kq) ?_
    show own_Go p.tables e below _ (T4.setTop (mkF m 32 #[.val (.ref sa), .val (.int (0 : Int32)), .val (.int n), .val (.ref b1), .val (.int kr), .val (.ref bb)] [(.int kr), (.ref bb)]))
    obtain ⟨_, _, ⟨T5, L5, k5, n5⟩, -, X5, ⟨Lc5, hQ5, l5, y5, z5⟩, st5⟩ := Jvm.LawKit.callS X4 hx (y := (⟨"java/lang/StringUTF16", "getChar", "([BI)C"⟩ : MethodName)) hown (mvT hZ (hw _ (List.mem_of_getElem? (i := 97) rfl))) (mvT hZ (hw _ (List.mem_of_getElem? (i := 98) rfl))) (mvT hZ (hw _ (List.mem_of_getElem? (i := 45) rfl))) (mvT hZ (hw _ (List.mem_of_getElem? (i := 99) rfl))) (by decide) (backOf (W := 0) (rmG l Z a0 hw [] cz fv bb n2 fb kr (kr <<< ((1 : Int32) &&& 31)) (cs kr.toNatClampNeg) T4.heap n0 ZH OO HW0 G_bb rfl IX.1 IX.2.1 (by rw [IX.2.2.1]; exact (hfb _ IX.2.2.2.2.2).1) (by rw [IX.2.2.2.1]; exact (hfb _ IX.2.2.2.2.2).2) (hch _).1 (hch _).2) hZ (hw _ (List.mem_of_getElem? (i := 99) rfl)) (hw _ (List.mem_of_getElem? (i := 45) rfl)) (by decide) (by decide)) (g := (mkF m 32 #[.val (.ref sa), .val (.int (0 : Int32)), .val (.int n), .val (.ref b1), .val (.int kr), .val (.ref bb)] [(.int kr), (.ref bb)])) rfl (by rw [hml]; rfl) (argsL := [(.ref bb), (.int kr)]) (rest := []) (lenOf pd_4 rfl) rfl (by show 2 * 0 + _ ≤ _; exact Nat.le_of_eq rfl) (hb hby d8_32) (fun _ _ => ⟨rfl, rfl, (by decide : 2 + 0 ≤ _), (by decide : 15 + 0 ≤ _)⟩)
    dsimp only [Pt.U, Pt.locs, Pt.cells, Pt.slots] at X5 l5 y5 z5 st5 hQ5
    subst l5 y5 z5
    obtain ⟨rfl, Nq5, e5⟩ := hQ5
    have N5 := Fr.app N4 Nq5
    refine own_up st5 ?_
    show own_Go p.tables e below _ (T5.setTop (mkF m 35 #[.val (.ref sa), .val (.int (0 : Int32)), .val (.int n), .val (.ref b1), .val (.int kr), .val (.ref bb)] [(.int (cs kr.toNatClampNeg))]))
    refine own_up (fun _ kq => XS.sipush X5.here hx rfl (hb hby d8_35) kq) ?_
    show own_Go p.tables e below _ (T5.setTop (mkF m 38 #[.val (.ref sa), .val (.int (0 : Int32)), .val (.int n), .val (.ref b1), .val (.int kr), .val (.ref bb)] [(.int (255 : Int32)), (.int (cs kr.toNatClampNeg))]))
    refine own_up (fun _ kq => XS.icmpYes X5.here hx rfl (pc0 := 38) (pc' := 54) rfl (hb hby d8_38) rfl (tlt hkb).2.2.1 (by decide) (by decide) kq) ?_
    show own_Go p.tables e below _ (T5.setTop (mkF m 54 #[.val (.ref sa), .val (.int (0 : Int32)), .val (.int n), .val (.ref b1), .val (.int kr), .val (.ref bb)] []))
    refine own_up (fun _ kq => XS.aload X5.here hx rfl (hb hby d8_54) rfl rfl kq) ?_
    show own_Go p.tables e below _ (T5.setTop (mkF m 56 #[.val (.ref sa), .val (.int (0 : Int32)), .val (.int n), .val (.ref b1), .val (.int kr), .val (.ref bb)] [(.ref bb)]))
    obtain ⟨fs6, hr6, hrun6, hended6, hW6, hsame6⟩ := X5.leave (v := some (.ref bb)) (fun h => by rw [Bd.returns] at h; cases h)
    refine own_end ⟨_, _, ?_, hrun6, hended6, _, _, rfl, ?_, ⟨_, rfl⟩, hW6, hsame6.mono (by decide) (by decide)⟩
    · exact retOut X5 hx Bd.returns rfl (Or.inr (Or.inr (Or.inr (Or.inr ⟨rfl, rfl, rfl⟩)))) (hb hby d8_56) hr6
    · show QrmK Z cz fv sa n n2 cs h0 n0 _ T5.heap _
      rw [e5]
      exact ⟨bb, sz_bb, rfl, N5, KK, Or.inr ⟨fb, G_bb, hfb⟩⟩
theorem d3_0 : decode jdk_42_method_149_code 0 = .ok (.aload_n 0, 1) := by decide +kernel
theorem d3_1 : decode jdk_42_method_149_code 1 = .ok (.invokespecial 1, 3) := by decide +kernel
theorem d3_4 : decode jdk_42_method_149_code 4 = .ok (.iload_n 3, 1) := by decide +kernel
theorem d3_5 : decode jdk_42_method_149_code 5 = .ok (.ifCond .ne 22, 3) := by decide +kernel
theorem d3_27 : decode jdk_42_method_149_code 27 = .ok (.getstatic 38, 3) := by decide +kernel
theorem d3_30 : decode jdk_42_method_149_code 30 = .ok (.ifCond .eq 28, 3) := by decide +kernel
theorem d3_33 : decode jdk_42_method_149_code 33 = .ok (.aload_n 1, 1) := by decide +kernel
theorem d3_34 : decode jdk_42_method_149_code 34 = .ok (.iload_n 2, 1) := by decide +kernel
theorem d3_35 : decode jdk_42_method_149_code 35 = .ok (.iload_n 3, 1) := by decide +kernel
theorem d3_36 : decode jdk_42_method_149_code 36 = .ok (.invokestatic 177, 3) := by decide +kernel
theorem d3_39 : decode jdk_42_method_149_code 39 = .ok (.astore 5, 2) := by decide +kernel
theorem d3_41 : decode jdk_42_method_149_code 41 = .ok (.aload_n 0, 1) := by decide +kernel
theorem d3_42 : decode jdk_42_method_149_code 42 = .ok (.aload 5, 2) := by decide +kernel
theorem d3_44 : decode jdk_42_method_149_code 44 = .ok (.iload_n 3, 1) := by decide +kernel
theorem d3_45 : decode jdk_42_method_149_code 45 = .ok (.invokestatic 47, 3) := by decide +kernel
theorem pd_15 : parseMethodDescriptor "([BI)B" = some ⟨[(.array .byte), .int], some .byte⟩ := by decide +kernel
theorem d3_48 : decode jdk_42_method_149_code 48 = .ok (.putfield 15, 3) := by decide +kernel
theorem d3_51 : decode jdk_42_method_149_code 51 = .ok (.aload_n 0, 1) := by decide +kernel
theorem d3_52 : decode jdk_42_method_149_code 52 = .ok (.aload 5, 2) := by decide +kernel
theorem d3_54 : decode jdk_42_method_149_code 54 = .ok (.putfield 9, 3) := by decide +kernel
theorem d3_57 : decode jdk_42_method_149_code 57 = .ok (.return_, 1) := by decide +kernel
theorem ef_rmI4 (m : MethodId) (x0 : Addr) (x1 : Addr) (x2 : Int32) (x3 : Int32) : entryFrame m #[(.ref x0), (.ref x1), (.int x2), (.int x3), .null] 6 = mkF m 0 #[.val (.ref x0), .val (.ref x1), .val (.int x2), .val (.int x3), .val .null, .unset] [] := by first | (simp [entryFrame, mkF, argsToLocals, Value.category]; done) | rfl
def QrmI4 (Z : State) (cz : Int32) (fv : Value) (sx : Addr) (sa : Addr) (n : Int32) (n2 : Int32) (cs : Nat → Int32) (h0 : Heap) (n0 : Nat) (v : Option Value) (h : Heap) (L : List Loc) : Prop := v = none ∧ Fr n0 L ∧ Keep h0 h [sx] ∧ ∃ tb : Addr, Fld Z h sx "java/lang/String" "value" "[B" (.ref tb) ∧ own_SX Z h sx tb n n2 cs
set_option maxRecDepth 65536 in
set_option maxHeartbeats 40000000 in
theorem rmI4 (l : Launch) (Z : State) (a0 : Array Value) (hw : ∀ d ∈ tables_1, d.before a0 Z = true) (ws : List Jvm.Cond) (cz : Int32) (fv : Value) (sx : Addr) (sa : Addr) (n : Int32) (n2 : Int32) (cs : Nat → Int32) (h0 : Heap) (n0 : Nat) (Z0 : n0 ≤ h0.size) (OO : Old Z n0 h0) (HW : own_W Z cz fv) (E_sx : Exa Z h0 sx "java/lang/String") (F_value_sx : Fld Z h0 sx "java/lang/String" "value" "[B" .null) (F_coder_sx : Fld Z h0 sx "java/lang/String" "coder" "B" (.int (0 : Int32))) (g_sx : n0 ≤ sx) (G_sa : own_Arf Z h0 sa .char n (fun iq => .int (cs iq))) (hch : own_ch cs) (hsm : own_sm n) (hn2 : (n <<< ((1 : Int32) &&& 31)) = n2) (hn1 : ¬ n = 0) :
    MetFree l (⟨"java/lang/String", "<init>", "([CIILjava/lang/Void;)V"⟩ : MethodName) (head1 (Jvm.Cond.code (⟨"java/lang/String", "<init>", "([CIILjava/lang/Void;)V"⟩ : MethodName) jdk_42_method_149_code 6 none :: ws) ({ frames := 4, cells := 2, slots := 15, locals := 71 } : Room)) (fun aq Uq => aq = #[(.ref sx), (.ref sa), (.int (0 : Int32)), (.int n), .null] ∧ Z.Warmed39 Uq.vm ∧ Uq.heap = h0) (fun _ _ _ _ _ => True) (fun _ Uq oq Uq' => ∃ vq Lq, oq = .returned vq ∧ QrmI4 Z cz fv sx sa n n2 cs h0 n0 vq Uq'.heap Lq ∧ FrameEnd Uq oq Uq' Lq ({ frames := 4, cells := 2, slots := 15, locals := 71 } : Room).cells ({ frames := 4, cells := 2, slots := 15, locals := 71 } : Room).slots) := by
  refine MetFree.of_bodySF (plainFor_of_name pn_3) hisR ?_
  intro p e s m args below meth c s₁ Bd hml0 hP hK
  obtain ⟨rfl, hZ, hh⟩ := hP
  have hx := Bd.exec
  have hby := Bd.bytes
  have hml : c.maxLocals = 6 := hml0
  have hown : s.vm.findClass "java/lang/String" = some m.cls := findClass_of_methodNamed Bd.named
  have hnm := (name_of_methodNamed Bd.named Bd.method).1
  have X0 : Stand p l e ({ frames := 4, cells := 2, slots := 15, locals := 71 } : Room) s m #[(.ref sx), (.ref sa), (.int (0 : Int32)), (.int n), .null] below meth c s₁ [] 0 0 := Stand.of_body Bd
  have e0 : s₁.heap = h0 := by rw [← hh, Bd.state]; rfl
  have N0 := Fr.nil n0
  have ZH := Z0
  have KK := Keep.refl h0 [sx]
  refine own_start (fun t kq => castTop (ef_rmI4 m sx sa (0 : Int32) n) kq) ?_
  show own_Go p.tables e below _ (s₁.setTop (mkF m 0 #[.val (.ref sx), .val (.ref sa), .val (.int (0 : Int32)), .val (.int n), .val .null, .unset] []))
  have HW0 := HW
  obtain ⟨SC, hcz, SF, hfv, SA, SH, SL⟩ := HW
  refine own_up (fun _ kq => XS.aloadN X0.here hx rfl (hb hby d3_0) rfl rfl kq) ?_
  show own_Go p.tables e below _ (s₁.setTop (mkF m 1 #[.val (.ref sx), .val (.ref sa), .val (.int (0 : Int32)), .val (.int n), .val .null, .unset] [(.ref sx)]))
  obtain ⟨T1, X1, e1, st1⟩ := initO X0 hx hZ hown (hw _ (List.mem_of_getElem? (i := 17) rfl)) (hw _ (List.mem_of_getElem? (i := 18) rfl)) (hw _ (List.mem_of_getElem? (i := 19) rfl)) e0 (g := (mkF m 1 #[.val (.ref sx), .val (.ref sa), .val (.int (0 : Int32)), .val (.int n), .val .null, .unset] [(.ref sx)])) rfl (by rw [hml]; rfl) rfl (hb hby d3_1) (by decide) (W := 0) (by show 2 * 0 + _ ≤ _; exact Nat.le_of_eq rfl) (by decide)
  refine own_up st1 ?_
  show own_Go p.tables e below _ (T1.setTop (mkF m 4 #[.val (.ref sx), .val (.ref sa), .val (.int (0 : Int32)), .val (.int n), .val .null, .unset] []))
  refine own_up (fun _ kq => XS.iloadN X1.here hx rfl (hb hby d3_4) rfl kq) ?_
  show own_Go p.tables e below _ (T1.setTop (mkF m 5 #[.val (.ref sx), .val (.ref sa), .val (.int (0 : Int32)), .val (.int n), .val .null, .unset] [(.int n)]))
  refine own_up (fun _ kq => XS.ifYes X1.here hx rfl (pc0 := 5) (pc' := 27) rfl (hb hby d3_5) rfl ((if0 _ _).trans (feq hn1).2) (by decide) (by decide) kq) ?_
  show own_Go p.tables e below _ (T1.setTop (mkF m 27 #[.val (.ref sx), .val (.ref sa), .val (.int (0 : Int32)), .val (.int n), .val .null, .unset] []))
  obtain ⟨T2, X2, e2, st2⟩ := getS2 X1 hx hZ hown (host := "") (Or.inl (hw _ (List.mem_of_getElem? (i := 42) rfl))) Via.refl e1 (SC.ext OO.2) (g := (mkF m 27 #[.val (.ref sx), .val (.ref sa), .val (.int (0 : Int32)), .val (.int n), .val .null, .unset] [])) rfl (hb hby d3_27)
  refine own_up st2 ?_
  show own_Go p.tables e below _ (T2.setTop (mkF m 30 #[.val (.ref sx), .val (.ref sa), .val (.int (0 : Int32)), .val (.int n), .val .null, .unset] [(.int cz)]))
  refine own_up (fun _ kq => XS.ifNo X2.here hx rfl (hb hby d3_30) rfl ((if0 _ _).trans (feq hcz).1) kq) ?_
  show own_Go p.tables e below _ (T2.setTop (mkF m 33 #[.val (.ref sx), .val (.ref sa), .val (.int (0 : Int32)), .val (.int n), .val .null, .unset] []))
  refine own_up (fun _ kq => XS.aloadN X2.here hx rfl (hb hby d3_33) rfl rfl kq) ?_
  show own_Go p.tables e below _ (T2.setTop (mkF m 34 #[.val (.ref sx), .val (.ref sa), .val (.int (0 : Int32)), .val (.int n), .val .null, .unset] [(.ref sa)]))
  refine own_up (fun _ kq => XS.iloadN X2.here hx rfl (hb hby d3_34) rfl kq) ?_
  show own_Go p.tables e below _ (T2.setTop (mkF m 35 #[.val (.ref sx), .val (.ref sa), .val (.int (0 : Int32)), .val (.int n), .val .null, .unset] [(.int (0 : Int32)), (.ref sa)]))
  refine own_up (fun _ kq => XS.iloadN X2.here hx rfl (hb hby d3_35) rfl kq) ?_
  show own_Go p.tables e below _ (T2.setTop (mkF m 36 #[.val (.ref sx), .val (.ref sa), .val (.int (0 : Int32)), .val (.int n), .val .null, .unset] [(.int n), (.int (0 : Int32)), (.ref sa)]))
  obtain ⟨_, _, ⟨T3, L3, k3, n3⟩, -, X3, ⟨Lc3, hQ3, l3, y3, z3⟩, st3⟩ := Jvm.LawKit.callS X2 hx (y := (⟨"java/lang/StringUTF16", "compress", "([CII)[B"⟩ : MethodName)) hown (mvT hZ (hw _ (List.mem_of_getElem? (i := 43) rfl))) (mvT hZ (hw _ (List.mem_of_getElem? (i := 44) rfl))) (mvT hZ (hw _ (List.mem_of_getElem? (i := 45) rfl))) (mvT hZ (hw _ (List.mem_of_getElem? (i := 46) rfl))) (by decide) (backOf (W := 0) (rmK l Z a0 hw [] cz fv sa n n2 cs h0 n0 ZH OO HW0 G_sa hch hsm hn2) hZ (hw _ (List.mem_of_getElem? (i := 46) rfl)) (hw _ (List.mem_of_getElem? (i := 45) rfl)) (by decide) (by decide)) (g := (mkF m 36 #[.val (.ref sx), .val (.ref sa), .val (.int (0 : Int32)), .val (.int n), .val .null, .unset] [(.int n), (.int (0 : Int32)), (.ref sa)])) rfl (by rw [hml]; rfl) (argsL := [(.ref sa), (.int (0 : Int32)), (.int n)]) (rest := []) (lenOf pd_14 rfl) rfl (by show 2 * 0 + _ ≤ _; exact Nat.le_of_eq rfl) (hb hby d3_36) (fun _ _ => ⟨rfl, e2, (by decide : 0 + 2 ≤ _), (by decide : 0 + 15 ≤ _)⟩)
  dsimp only [Pt.U, Pt.locs, Pt.cells, Pt.slots] at X3 l3 y3 z3 st3 hQ3
  subst l3 y3 z3
  obtain ⟨tb, sf3, rfl, Nq3, K3, hT⟩ := hQ3
  have g_tb : n0 ≤ tb := Nat.le_trans ZH sf3
  have sz_tb : h0.size ≤ tb := Nat.le_trans KK.1 sf3
  have ne_sa_tb : sa ≠ tb := Nat.ne_of_lt (Nat.lt_of_lt_of_le G_sa.lt sf3)
  have ne_sx_tb : sx ≠ tb := Nat.ne_of_lt (Nat.lt_of_lt_of_le E_sx.lt sf3)
  have N3 := Fr.app N0 Nq3
  have G_sa := G_sa.keep K3 nin0
  have E_sx := E_sx.keep K3
  have F_value_sx := F_value_sx.keep K3 nin0
  have F_coder_sx := F_coder_sx.keep K3 nin0
  have ZH := Nat.le_trans ZH K3.1
  have KK := KK.trans K3 all0
  have OO := OO.keep K3 all0
  refine own_up st3 ?_
  show own_Go p.tables e below _ (T3.setTop (mkF m 39 #[.val (.ref sx), .val (.ref sa), .val (.int (0 : Int32)), .val (.int n), .val .null, .unset] [(.ref tb)]))
  rcases hT with ⟨f, G_tb, hf⟩ | ⟨f, G_tb, hf⟩
  · show own_Go p.tables e below _ (T3.setTop (mkF m 39 #[.val (.ref sx), .val (.ref sa), .val (.int (0 : Int32)), .val (.int n), .val .null, .unset] [(.ref tb)]))
    refine own_up (fun _ kq => XS.astore X3.here hx rfl (hb hby d3_39) rfl rfl (l' := #[.val (.ref sx), .val (.ref sa), .val (.int (0 : Int32)), .val (.int n), .val .null, .val (.ref tb)]) rfl kq) ?_
    show own_Go p.tables e below _ (T3.setTop (mkF m 41 #[.val (.ref sx), .val (.ref sa), .val (.int (0 : Int32)), .val (.int n), .val .null, .val (.ref tb)] []))
    refine own_up (fun _ kq => XS.aloadN X3.here hx rfl (hb hby d3_41) rfl rfl kq) ?_
    show own_Go p.tables e below _ (T3.setTop (mkF m 42 #[.val (.ref sx), .val (.ref sa), .val (.int (0 : Int32)), .val (.int n), .val .null, .val (.ref tb)] [(.ref sx)]))
    refine own_up (fun _ kq => XS.aload X3.here hx rfl (hb hby d3_42) rfl rfl kq) ?_
    show own_Go p.tables e below _ (T3.setTop (mkF m 44 #[.val (.ref sx), .val (.ref sa), .val (.int (0 : Int32)), .val (.int n), .val .null, .val (.ref tb)] [(.ref tb), (.ref sx)]))
    refine own_up (fun _ kq => XS.iloadN X3.here hx rfl (hb hby d3_44) rfl kq) ?_
    show own_Go p.tables e below _ (T3.setTop (mkF m 45 #[.val (.ref sx), .val (.ref sa), .val (.int (0 : Int32)), .val (.int n), .val .null, .val (.ref tb)] [(.int n), (.ref tb), (.ref sx)]))
    obtain ⟨_, _, ⟨T4, L4, k4, n4⟩, -, X4, ⟨Lc4, hQ4, l4, y4, z4⟩, st4⟩ := Jvm.LawKit.callS X3 hx (y := (⟨"java/lang/StringUTF16", "coderFromArrayLen", "([BI)B"⟩ : MethodName)) hown (mvT hZ (hw _ (List.mem_of_getElem? (i := 50) rfl))) (mvT hZ (hw _ (List.mem_of_getElem? (i := 51) rfl))) (mvT hZ (hw _ (List.mem_of_getElem? (i := 45) rfl))) (mvT hZ (hw _ (List.mem_of_getElem? (i := 52) rfl))) (by decide) (backOf (W := 1) (rmCF0 l Z a0 hw [] tb n f n T3.heap n0 ZH G_tb (own_smN hsm hn2).2.2.2.2.2.2.2) hZ (hw _ (List.mem_of_getElem? (i := 52) rfl)) (hw _ (List.mem_of_getElem? (i := 45) rfl)) (by decide) (by decide)) (g := (mkF m 45 #[.val (.ref sx), .val (.ref sa), .val (.int (0 : Int32)), .val (.int n), .val .null, .val (.ref tb)] [(.int n), (.ref tb), (.ref sx)])) rfl (by rw [hml]; rfl) (argsL := [(.ref tb), (.int n)]) (rest := [(.ref sx)]) (lenOf pd_15 rfl) rfl (by show 2 * 0 + _ ≤ _; exact Nat.le_of_eq rfl) (hb hby d3_45) (fun _ _ => ⟨rfl, rfl, (by decide : 2 + 0 ≤ _), (by decide : 15 + 0 ≤ _)⟩)
    dsimp only [Pt.U, Pt.locs, Pt.cells, Pt.slots] at X4 l4 y4 z4 st4 hQ4
    subst l4 y4 z4
    obtain ⟨rfl, Nq4, e4⟩ := hQ4
    have N4 := Fr.app N3 Nq4
    refine own_up st4 ?_
    show own_Go p.tables e below _ (T4.setTop (mkF m 48 #[.val (.ref sx), .val (.ref sa), .val (.int (0 : Int32)), .val (.int n), .val .null, .val (.ref tb)] [(.int (0 : Int32)), (.ref sx)]))
    obtain ⟨T5, h5, X5, e5, W5, st5⟩ := putF X4 hx hZ hown (host := "") (Or.inl (hw _ (List.mem_of_getElem? (i := 27) rfl))) Via.refl e4 F_coder_sx E_sx (Or.inr ⟨(hw _ (List.mem_of_getElem? (i := 23) rfl)), rfl, hnm⟩) (hw _ (List.mem_of_getElem? (i := 7) rfl)) (ty := .byte) (by decide) rfl rfl (g := (mkF m 48 #[.val (.ref sx), .val (.ref sa), .val (.int (0 : Int32)), .val (.int n), .val .null, .val (.ref tb)] [(.int (0 : Int32)), (.ref sx)])) rfl rfl (hb hby d3_48)
    have N5 := Fr.snoc X5 N4 g_sx
    have F_coder_sx := F_coder_sx.same W5
    have E_sx := E_sx.wr W5
    have F_value_sx := F_value_sx.other W5 (Or.inr (slot_ne (Or.inr (hw _ (List.mem_of_getElem? (i := 22) rfl))) (Or.inr (hw _ (List.mem_of_getElem? (i := 23) rfl))) (by decide) (t := (.array .byte)) (t' := .byte) (by decide) (by decide)))
    have G_tb := G_tb.other W5 (Ne.symm ne_sx_tb)
    have ZH := Nat.le_trans ZH (Nat.le_of_eq W5.size.symm)
    have KK := KK.wr W5 (Or.inl (List.mem_of_getElem? (i := 0) rfl))
    have OO := OO.wr W5 g_sx
    refine own_up st5 ?_
    show own_Go p.tables e below _ (T5.setTop (mkF m 51 #[.val (.ref sx), .val (.ref sa), .val (.int (0 : Int32)), .val (.int n), .val .null, .val (.ref tb)] []))
    refine own_up (fun _ kq => XS.aloadN X5.here hx rfl (hb hby d3_51) rfl rfl kq) ?_
    show own_Go p.tables e below _ (T5.setTop (mkF m 52 #[.val (.ref sx), .val (.ref sa), .val (.int (0 : Int32)), .val (.int n), .val .null, .val (.ref tb)] [(.ref sx)]))
    refine own_up (fun _ kq => XS.aload X5.here hx rfl (hb hby d3_52) rfl rfl kq) ?_
    show own_Go p.tables e below _ (T5.setTop (mkF m 54 #[.val (.ref sx), .val (.ref sa), .val (.int (0 : Int32)), .val (.int n), .val .null, .val (.ref tb)] [(.ref tb), (.ref sx)]))
    obtain ⟨T6, h6, X6, e6, W6, st6⟩ := putF X5 hx hZ hown (host := "") (Or.inl (hw _ (List.mem_of_getElem? (i := 26) rfl))) Via.refl e5 F_value_sx E_sx (Or.inr ⟨(hw _ (List.mem_of_getElem? (i := 22) rfl)), rfl, hnm⟩) (hw _ (List.mem_of_getElem? (i := 7) rfl)) (ty := (.array .byte)) (by decide) rfl rfl (g := (mkF m 54 #[.val (.ref sx), .val (.ref sa), .val (.int (0 : Int32)), .val (.int n), .val .null, .val (.ref tb)] [(.ref tb), (.ref sx)])) rfl rfl (hb hby d3_54)
    have N6 := Fr.snoc X6 N5 g_sx
    have F_value_sx := F_value_sx.same W6
    have E_sx := E_sx.wr W6
    have F_coder_sx := F_coder_sx.other W6 (Or.inr (slot_ne (Or.inr (hw _ (List.mem_of_getElem? (i := 23) rfl))) (Or.inr (hw _ (List.mem_of_getElem? (i := 22) rfl))) (by decide) (t := .byte) (t' := (.array .byte)) (by decide) (by decide)))
    have G_tb := G_tb.other W6 (Ne.symm ne_sx_tb)
    have ZH := Nat.le_trans ZH (Nat.le_of_eq W6.size.symm)
    have KK := KK.wr W6 (Or.inl (List.mem_of_getElem? (i := 0) rfl))
    have OO := OO.wr W6 g_sx
    refine own_up st6 ?_
    show own_Go p.tables e below _ (T6.setTop (mkF m 57 #[.val (.ref sx), .val (.ref sa), .val (.int (0 : Int32)), .val (.int n), .val .null, .val (.ref tb)] []))
    obtain ⟨fs7, hr7, hrun7, hended7, hW7, hsame7⟩ := X6.leave (v := none) (fun _ => rfl)
    refine own_end ⟨_, _, ?_, hrun7, hended7, _, _, rfl, ?_, ⟨_, rfl⟩, hW7, hsame7.mono (by decide) (by decide)⟩
    · exact X6.returnOut hx Bd.returns (hb hby d3_57) hr7
    · show QrmI4 Z cz fv sx sa n n2 cs h0 n0 _ T6.heap _
      rw [e6]
      exact ⟨rfl, N6, KK, tb, F_value_sx, Or.inl ⟨F_coder_sx, f, G_tb, hf⟩⟩
  · show own_Go p.tables e below _ (T3.setTop (mkF m 39 #[.val (.ref sx), .val (.ref sa), .val (.int (0 : Int32)), .val (.int n), .val .null, .unset] [(.ref tb)]))
    refine own_up (fun _ kq => XS.astore X3.here hx rfl (hb hby d3_39) rfl rfl (l' := #[.val (.ref sx), .val (.ref sa), .val (.int (0 : Int32)), .val (.int n), .val .null, .val (.ref tb)]) rfl kq) ?_
    show own_Go p.tables e below _ (T3.setTop (mkF m 41 #[.val (.ref sx), .val (.ref sa), .val (.int (0 : Int32)), .val (.int n), .val .null, .val (.ref tb)] []))
    refine own_up (fun _ kq => XS.aloadN X3.here hx rfl (hb hby d3_41) rfl rfl kq) ?_
    show own_Go p.tables e below _ (T3.setTop (mkF m 42 #[.val (.ref sx), .val (.ref sa), .val (.int (0 : Int32)), .val (.int n), .val .null, .val (.ref tb)] [(.ref sx)]))
    refine own_up (fun _ kq => XS.aload X3.here hx rfl (hb hby d3_42) rfl rfl kq) ?_
    show own_Go p.tables e below _ (T3.setTop (mkF m 44 #[.val (.ref sx), .val (.ref sa), .val (.int (0 : Int32)), .val (.int n), .val .null, .val (.ref tb)] [(.ref tb), (.ref sx)]))
    refine own_up (fun _ kq => XS.iloadN X3.here hx rfl (hb hby d3_44) rfl kq) ?_
    show own_Go p.tables e below _ (T3.setTop (mkF m 45 #[.val (.ref sx), .val (.ref sa), .val (.int (0 : Int32)), .val (.int n), .val .null, .val (.ref tb)] [(.int n), (.ref tb), (.ref sx)]))
    obtain ⟨_, _, ⟨T8, L8, k8, n8⟩, -, X8, ⟨Lc8, hQ8, l8, y8, z8⟩, st8⟩ := Jvm.LawKit.callS X3 hx (y := (⟨"java/lang/StringUTF16", "coderFromArrayLen", "([BI)B"⟩ : MethodName)) hown (mvT hZ (hw _ (List.mem_of_getElem? (i := 50) rfl))) (mvT hZ (hw _ (List.mem_of_getElem? (i := 51) rfl))) (mvT hZ (hw _ (List.mem_of_getElem? (i := 45) rfl))) (mvT hZ (hw _ (List.mem_of_getElem? (i := 52) rfl))) (by decide) (backOf (W := 1) (rmCF1 l Z a0 hw [] tb n2 f n T3.heap n0 ZH G_tb (own_smc hsm hn1 hn2)) hZ (hw _ (List.mem_of_getElem? (i := 52) rfl)) (hw _ (List.mem_of_getElem? (i := 45) rfl)) (by decide) (by decide)) (g := (mkF m 45 #[.val (.ref sx), .val (.ref sa), .val (.int (0 : Int32)), .val (.int n), .val .null, .val (.ref tb)] [(.int n), (.ref tb), (.ref sx)])) rfl (by rw [hml]; rfl) (argsL := [(.ref tb), (.int n)]) (rest := [(.ref sx)]) (lenOf pd_15 rfl) rfl (by show 2 * 0 + _ ≤ _; exact Nat.le_of_eq rfl) (hb hby d3_45) (fun _ _ => ⟨rfl, rfl, (by decide : 2 + 0 ≤ _), (by decide : 15 + 0 ≤ _)⟩)
    dsimp only [Pt.U, Pt.locs, Pt.cells, Pt.slots] at X8 l8 y8 z8 st8 hQ8
    subst l8 y8 z8
    obtain ⟨rfl, Nq8, e8⟩ := hQ8
    have N8 := Fr.app N3 Nq8
    refine own_up st8 ?_
    show own_Go p.tables e below _ (T8.setTop (mkF m 48 #[.val (.ref sx), .val (.ref sa), .val (.int (0 : Int32)), .val (.int n), .val .null, .val (.ref tb)] [(.int (1 : Int32)), (.ref sx)]))
    obtain ⟨T9, h9, X9, e9, W9, st9⟩ := putF X8 hx hZ hown (host := "") (Or.inl (hw _ (List.mem_of_getElem? (i := 27) rfl))) Via.refl e8 F_coder_sx E_sx (Or.inr ⟨(hw _ (List.mem_of_getElem? (i := 23) rfl)), rfl, hnm⟩) (hw _ (List.mem_of_getElem? (i := 7) rfl)) (ty := .byte) (by decide) rfl rfl (g := (mkF m 48 #[.val (.ref sx), .val (.ref sa), .val (.int (0 : Int32)), .val (.int n), .val .null, .val (.ref tb)] [(.int (1 : Int32)), (.ref sx)])) rfl rfl (hb hby d3_48)
    have N9 := Fr.snoc X9 N8 g_sx
    have F_coder_sx := F_coder_sx.same W9
    have E_sx := E_sx.wr W9
    have F_value_sx := F_value_sx.other W9 (Or.inr (slot_ne (Or.inr (hw _ (List.mem_of_getElem? (i := 22) rfl))) (Or.inr (hw _ (List.mem_of_getElem? (i := 23) rfl))) (by decide) (t := (.array .byte)) (t' := .byte) (by decide) (by decide)))
    have G_tb := G_tb.other W9 (Ne.symm ne_sx_tb)
    have ZH := Nat.le_trans ZH (Nat.le_of_eq W9.size.symm)
    have KK := KK.wr W9 (Or.inl (List.mem_of_getElem? (i := 0) rfl))
    have OO := OO.wr W9 g_sx
    refine own_up st9 ?_
    show own_Go p.tables e below _ (T9.setTop (mkF m 51 #[.val (.ref sx), .val (.ref sa), .val (.int (0 : Int32)), .val (.int n), .val .null, .val (.ref tb)] []))
    refine own_up (fun _ kq => XS.aloadN X9.here hx rfl (hb hby d3_51) rfl rfl kq) ?_
    show own_Go p.tables e below _ (T9.setTop (mkF m 52 #[.val (.ref sx), .val (.ref sa), .val (.int (0 : Int32)), .val (.int n), .val .null, .val (.ref tb)] [(.ref sx)]))
    refine own_up (fun _ kq => XS.aload X9.here hx rfl (hb hby d3_52) rfl rfl kq) ?_
    show own_Go p.tables e below _ (T9.setTop (mkF m 54 #[.val (.ref sx), .val (.ref sa), .val (.int (0 : Int32)), .val (.int n), .val .null, .val (.ref tb)] [(.ref tb), (.ref sx)]))
    obtain ⟨T10, h10, X10, e10, W10, st10⟩ := putF X9 hx hZ hown (host := "") (Or.inl (hw _ (List.mem_of_getElem? (i := 26) rfl))) Via.refl e9 F_value_sx E_sx (Or.inr ⟨(hw _ (List.mem_of_getElem? (i := 22) rfl)), rfl, hnm⟩) (hw _ (List.mem_of_getElem? (i := 7) rfl)) (ty := (.array .byte)) (by decide) rfl rfl (g := (mkF m 54 #[.val (.ref sx), .val (.ref sa), .val (.int (0 : Int32)), .val (.int n), .val .null, .val (.ref tb)] [(.ref tb), (.ref sx)])) rfl rfl (hb hby d3_54)
    have N10 := Fr.snoc X10 N9 g_sx
    have F_value_sx := F_value_sx.same W10
    have E_sx := E_sx.wr W10
    have F_coder_sx := F_coder_sx.other W10 (Or.inr (slot_ne (Or.inr (hw _ (List.mem_of_getElem? (i := 23) rfl))) (Or.inr (hw _ (List.mem_of_getElem? (i := 22) rfl))) (by decide) (t := .byte) (t' := (.array .byte)) (by decide) (by decide)))
    have G_tb := G_tb.other W10 (Ne.symm ne_sx_tb)
    have ZH := Nat.le_trans ZH (Nat.le_of_eq W10.size.symm)
    have KK := KK.wr W10 (Or.inl (List.mem_of_getElem? (i := 0) rfl))
    have OO := OO.wr W10 g_sx
    refine own_up st10 ?_
    show own_Go p.tables e below _ (T10.setTop (mkF m 57 #[.val (.ref sx), .val (.ref sa), .val (.int (0 : Int32)), .val (.int n), .val .null, .val (.ref tb)] []))
    obtain ⟨fs11, hr11, hrun11, hended11, hW11, hsame11⟩ := X10.leave (v := none) (fun _ => rfl)
    refine own_end ⟨_, _, ?_, hrun11, hended11, _, _, rfl, ?_, ⟨_, rfl⟩, hW11, hsame11.mono (by decide) (by decide)⟩
    · exact X10.returnOut hx Bd.returns (hb hby d3_57) hr11
    · show QrmI4 Z cz fv sx sa n n2 cs h0 n0 _ T10.heap _
      rw [e10]
      exact ⟨rfl, N10, KK, tb, F_value_sx, Or.inr ⟨F_coder_sx, f, G_tb, hf⟩⟩
theorem d2_0 : decode jdk_42_method_3_code 0 = .ok (.aload_n 0, 1) := by decide +kernel
theorem d2_1 : decode jdk_42_method_3_code 1 = .ok (.aload_n 1, 1) := by decide +kernel
theorem d2_2 : decode jdk_42_method_3_code 2 = .ok (.iconst 0, 1) := by decide +kernel
theorem d2_3 : decode jdk_42_method_3_code 3 = .ok (.aload_n 1, 1) := by decide +kernel
theorem d2_4 : decode jdk_42_method_3_code 4 = .ok (.arraylength, 1) := by decide +kernel
theorem d2_5 : decode jdk_42_method_3_code 5 = .ok (.aconst_null, 1) := by decide +kernel
theorem d2_6 : decode jdk_42_method_3_code 6 = .ok (.invokespecial 27, 3) := by decide +kernel
theorem pd_16 : parseMethodDescriptor "([CIILjava/lang/Void;)V" = some ⟨[(.array .char), .int, .int, (.object "java/lang/Void")], none⟩ := by decide +kernel
theorem d2_9 : decode jdk_42_method_3_code 9 = .ok (.return_, 1) := by decide +kernel
theorem ef_rmI1 (m : MethodId) (x0 : Addr) (x1 : Addr) : entryFrame m #[(.ref x0), (.ref x1)] 2 = mkF m 0 #[.val (.ref x0), .val (.ref x1)] [] := by first | (simp [entryFrame, mkF, argsToLocals, Value.category]; done) | rfl
def QrmI1 (Z : State) (cz : Int32) (fv : Value) (sx : Addr) (sa : Addr) (n : Int32) (n2 : Int32) (cs : Nat → Int32) (h0 : Heap) (n0 : Nat) (v : Option Value) (h : Heap) (L : List Loc) : Prop := v = none ∧ Fr n0 L ∧ Keep h0 h [sx] ∧ ∃ tb : Addr, Fld Z h sx "java/lang/String" "value" "[B" (.ref tb) ∧ own_SX Z h sx tb n n2 cs
set_option maxRecDepth 65536 in
set_option maxHeartbeats 40000000 in
theorem rmI1 (l : Launch) (Z : State) (a0 : Array Value) (hw : ∀ d ∈ tables_1, d.before a0 Z = true) (ws : List Jvm.Cond) (cz : Int32) (fv : Value) (sx : Addr) (sa : Addr) (n : Int32) (n2 : Int32) (cs : Nat → Int32) (h0 : Heap) (n0 : Nat) (Z0 : n0 ≤ h0.size) (OO : Old Z n0 h0) (HW : own_W Z cz fv) (E_sx : Exa Z h0 sx "java/lang/String") (F_value_sx : Fld Z h0 sx "java/lang/String" "value" "[B" .null) (F_coder_sx : Fld Z h0 sx "java/lang/String" "coder" "B" (.int (0 : Int32))) (g_sx : n0 ≤ sx) (G_sa : own_Arf Z h0 sa .char n (fun iq => .int (cs iq))) (hch : own_ch cs) (hsm : own_sm n) (hn2 : (n <<< ((1 : Int32) &&& 31)) = n2) (hn1 : ¬ n = 0) :
    MetFree l (⟨"java/lang/String", "<init>", "([C)V"⟩ : MethodName) (head1 (Jvm.Cond.code (⟨"java/lang/String", "<init>", "([C)V"⟩ : MethodName) jdk_42_method_3_code 2 none :: ws) ({ frames := 5, cells := 2, slots := 15, locals := 88 } : Room)) (fun aq Uq => aq = #[(.ref sx), (.ref sa)] ∧ Z.Warmed39 Uq.vm ∧ Uq.heap = h0) (fun _ _ _ _ _ => True) (fun _ Uq oq Uq' => ∃ vq Lq, oq = .returned vq ∧ QrmI1 Z cz fv sx sa n n2 cs h0 n0 vq Uq'.heap Lq ∧ FrameEnd Uq oq Uq' Lq ({ frames := 5, cells := 2, slots := 15, locals := 88 } : Room).cells ({ frames := 5, cells := 2, slots := 15, locals := 88 } : Room).slots) := by
  refine MetFree.of_bodySF (plainFor_of_name pn_3) hisR ?_
  intro p e s m args below meth c s₁ Bd hml0 hP hK
  obtain ⟨rfl, hZ, hh⟩ := hP
  have hx := Bd.exec
  have hby := Bd.bytes
  have hml : c.maxLocals = 2 := hml0
  have hown : s.vm.findClass "java/lang/String" = some m.cls := findClass_of_methodNamed Bd.named
  have hnm := (name_of_methodNamed Bd.named Bd.method).1
  have X0 : Stand p l e ({ frames := 5, cells := 2, slots := 15, locals := 88 } : Room) s m #[(.ref sx), (.ref sa)] below meth c s₁ [] 0 0 := Stand.of_body Bd
  have e0 : s₁.heap = h0 := by rw [← hh, Bd.state]; rfl
  have N0 := Fr.nil n0
  have ZH := Z0
  have KK := Keep.refl h0 [sx]
  refine own_start (fun t kq => castTop (ef_rmI1 m sx sa) kq) ?_
  show own_Go p.tables e below _ (s₁.setTop (mkF m 0 #[.val (.ref sx), .val (.ref sa)] []))
  have HW0 := HW
  obtain ⟨SC, hcz, SF, hfv, SA, SH, SL⟩ := HW
  refine own_up (fun _ kq => XS.aloadN X0.here hx rfl (hb hby d2_0) rfl rfl kq) ?_
  show own_Go p.tables e below _ (s₁.setTop (mkF m 1 #[.val (.ref sx), .val (.ref sa)] [(.ref sx)]))
  refine own_up (fun _ kq => XS.aloadN X0.here hx rfl (hb hby d2_1) rfl rfl kq) ?_
  show own_Go p.tables e below _ (s₁.setTop (mkF m 2 #[.val (.ref sx), .val (.ref sa)] [(.ref sa), (.ref sx)]))
  refine own_up (fun _ kq => XS.iconst X0.here hx rfl (hb hby d2_2) kq) ?_
  show own_Go p.tables e below _ (s₁.setTop (mkF m 3 #[.val (.ref sx), .val (.ref sa)] [(.int (0 : Int32)), (.ref sa), (.ref sx)]))
  refine own_up (fun _ kq => XS.aloadN X0.here hx rfl (hb hby d2_3) rfl rfl kq) ?_
  show own_Go p.tables e below _ (s₁.setTop (mkF m 4 #[.val (.ref sx), .val (.ref sa)] [(.ref sa), (.int (0 : Int32)), (.ref sa), (.ref sx)]))
  refine own_up (fun _ kq => own_Arf.alen G_sa X0 hx hZ e0 (g := (mkF m 4 #[.val (.ref sx), .val (.ref sa)] [(.ref sa), (.int (0 : Int32)), (.ref sa), (.ref sx)])) rfl rfl (hb hby d2_4) _ kq) ?_
  show own_Go p.tables e below _ (s₁.setTop (mkF m 5 #[.val (.ref sx), .val (.ref sa)] [(.int n), (.int (0 : Int32)), (.ref sa), (.ref sx)]))
  refine own_up (fun _ kq => XS.aconstNull X0.here hx rfl (hb hby d2_5) kq) ?_
  show own_Go p.tables e below _ (s₁.setTop (mkF m 6 #[.val (.ref sx), .val (.ref sa)] [.null, (.int n), (.int (0 : Int32)), (.ref sa), (.ref sx)]))
  obtain ⟨_, _, ⟨T1, L1, k1, n1⟩, -, X1, ⟨Lc1, hQ1, l1, y1, z1⟩, st1⟩ := X0.specialBack hx (y := (⟨"java/lang/String", "<init>", "([CIILjava/lang/Void;)V"⟩ : MethodName)) rfl hown (mvT hZ (hw _ (List.mem_of_getElem? (i := 13) rfl))) (mvT hZ (hw _ (List.mem_of_getElem? (i := 14) rfl))) (mvT hZ (hw _ (List.mem_of_getElem? (i := 16) rfl))) (by decide) (backOf (W := 0) (rmI4 l Z a0 hw [] cz fv sx sa n n2 cs h0 n0 ZH OO HW0 E_sx F_value_sx F_coder_sx g_sx G_sa hch hsm hn2 hn1) hZ (hw _ (List.mem_of_getElem? (i := 16) rfl)) (hw _ (List.mem_of_getElem? (i := 8) rfl)) (by decide) (by decide)) (g := (mkF m 6 #[.val (.ref sx), .val (.ref sa)] [.null, (.int n), (.int (0 : Int32)), (.ref sa), (.ref sx)])) rfl (by rw [hml]; rfl) (Steps.refl _) (a := sx) (argsL := [(.ref sa), (.int (0 : Int32)), (.int n), .null]) (rest := []) (lenOf pd_16 rfl) rfl (by show 2 * 0 + _ ≤ _; exact Nat.le_of_eq rfl) (hb hby d2_6) (fun _ _ => ⟨rfl, e0, (by decide : 0 + 2 ≤ _), (by decide : 0 + 15 ≤ _)⟩)
  dsimp only [Pt.U, Pt.locs, Pt.cells, Pt.slots] at X1 l1 y1 z1 st1 hQ1
  subst l1 y1 z1
  obtain ⟨rfl, Nq1, K1, tb, F_value_sx, hSX⟩ := hQ1
  have N1 := Fr.app N0 Nq1
  have E_sx := E_sx.keep K1
  have ZH := Nat.le_trans ZH K1.1
  have KK := KK.trans K1 (allS (Or.inl (List.mem_of_getElem? (i := 0) rfl)) all0)
  have OO := OO.keep K1 (allS g_sx all0)
  refine own_up (fun _ kq => st1.trans kq) ?_
  show own_Go p.tables e below _ (T1.setTop (mkF m 9 #[.val (.ref sx), .val (.ref sa)] []))
  obtain ⟨fs2, hr2, hrun2, hended2, hW2, hsame2⟩ := X1.leave (v := none) (fun _ => rfl)
  refine own_end ⟨_, _, ?_, hrun2, hended2, _, _, rfl, ?_, ⟨_, rfl⟩, hW2, hsame2.mono (by decide) (by decide)⟩
  · exact X1.returnOut hx Bd.returns (hb hby d2_9) hr2
  · show QrmI1 Z cz fv sx sa n n2 cs h0 n0 _ T1.heap _
    skip
    exact ⟨rfl, N1, KK, tb, F_value_sx, hSX⟩
theorem d1_0 : decode method_4_code 0 = .ok (.iload_n 0, 1) := by decide +kernel
theorem d1_1 : decode method_4_code 1 = .ok (.ifCond .ne 14, 3) := by decide +kernel
theorem d1_15 : decode method_4_code 15 = .ok (.iload_n 0, 1) := by decide +kernel
theorem d1_16 : decode method_4_code 16 = .ok (.iconst 1, 1) := by decide +kernel
theorem d1_17 : decode method_4_code 17 = .ok (.if_icmp .ne 18, 3) := by decide +kernel
theorem d1_20 : decode method_4_code 20 = .ok (.new 25, 3) := by decide +kernel
theorem d1_23 : decode method_4_code 23 = .ok (.dup, 1) := by decide +kernel
theorem d1_24 : decode method_4_code 24 = .ok (.iconst 1, 1) := by decide +kernel
theorem d1_25 : decode method_4_code 25 = .ok (.newarray .char, 2) := by decide +kernel
theorem d1_27 : decode method_4_code 27 = .ok (.dup, 1) := by decide +kernel
theorem d1_28 : decode method_4_code 28 = .ok (.iconst 0, 1) := by decide +kernel
theorem d1_29 : decode method_4_code 29 = .ok (.iload_n 1, 1) := by decide +kernel
theorem d1_30 : decode method_4_code 30 = .ok (.castore, 1) := by decide +kernel
theorem d1_31 : decode method_4_code 31 = .ok (.invokespecial 27, 3) := by decide +kernel
theorem pd_17 : parseMethodDescriptor "([C)V" = some ⟨[(.array .char)], none⟩ := by decide +kernel
theorem d1_34 : decode method_4_code 34 = .ok (.areturn, 1) := by decide +kernel
theorem ef_rmT1 (m : MethodId) (x0 : Int32) (x1 : Int32) (x2 : Int32) (x3 : Int32) (x4 : Int32) (x5 : Int32) : entryFrame m #[(.int x0), (.int x1), (.int x2), (.int x3), (.int x4), (.int x5)] 6 = mkF m 0 #[.val (.int x0), .val (.int x1), .val (.int x2), .val (.int x3), .val (.int x4), .val (.int x5)] [] := by first | (simp [entryFrame, mkF, argsToLocals, Value.category]; done) | rfl
def QrmT1 (Z : State) (cz : Int32) (fv : Value) (c0 : Int32) (c1 : Int32) (c2 : Int32) (c3 : Int32) (c4 : Int32) (h0 : Heap) (n0 : Nat) (v : Option Value) (h : Heap) (L : List Loc) : Prop := ∃ sx : Addr, h0.size ≤ sx ∧ v = some (.ref sx) ∧ Fr n0 L ∧ Keep h0 h [] ∧ Exa Z h sx "java/lang/String" ∧ ∃ tb : Addr, Fld Z h sx "java/lang/String" "value" "[B" (.ref tb) ∧ own_SX Z h sx tb (1 : Int32) (2 : Int32) (own_cs [c0])
set_option maxRecDepth 65536 in
set_option maxHeartbeats 40000000 in
theorem rmT1 (l : Launch) (Z : State) (a0 : Array Value) (hw : ∀ d ∈ tables_1, d.before a0 Z = true) (ws : List Jvm.Cond) (cz : Int32) (fv : Value) (c0 : Int32) (c1 : Int32) (c2 : Int32) (c3 : Int32) (c4 : Int32) (h0 : Heap) (n0 : Nat) (Z0 : n0 ≤ h0.size) (OO : Old Z n0 h0) (HW : own_W Z cz fv) (hl0 : ¬ c0 < 0) (hu0 : ¬ (65535 : Int32) < c0) :
    MetFree l (⟨"com/example/checkoff_codex/checkoffcodex/io/ValueTextDigitsPinLaw", "text", "(ICCCCC)Ljava/lang/String;"⟩ : MethodName) (head1 (Jvm.Cond.code (⟨"com/example/checkoff_codex/checkoffcodex/io/ValueTextDigitsPinLaw", "text", "(ICCCCC)Ljava/lang/String;"⟩ : MethodName) method_4_code 6 (some (.object "java/lang/String")) :: ws) ({ frames := 6, cells := 4, slots := 20, locals := 102 } : Room)) (fun aq Uq => aq = #[(.int (1 : Int32)), (.int c0), (.int c1), (.int c2), (.int c3), (.int c4)] ∧ Z.Warmed39 Uq.vm ∧ Uq.heap = h0) (fun _ _ _ _ _ => True) (fun _ Uq oq Uq' => ∃ vq Lq, oq = .returned vq ∧ QrmT1 Z cz fv c0 c1 c2 c3 c4 h0 n0 vq Uq'.heap Lq ∧ FrameEnd Uq oq Uq' Lq ({ frames := 6, cells := 4, slots := 20, locals := 102 } : Room).cells ({ frames := 6, cells := 4, slots := 20, locals := 102 } : Room).slots) := by
  refine MetFree.of_bodySF (plainFor_of_name pn_1) hisR ?_
  intro p e s m args below meth c s₁ Bd hml0 hP hK
  obtain ⟨rfl, hZ, hh⟩ := hP
  have hx := Bd.exec
  have hby := Bd.bytes
  have hml : c.maxLocals = 6 := hml0
  have hown : s.vm.findClass "com/example/checkoff_codex/checkoffcodex/io/ValueTextDigitsPinLaw" = some m.cls := findClass_of_methodNamed Bd.named
  have hnm := (name_of_methodNamed Bd.named Bd.method).1
  have X0 : Stand p l e ({ frames := 6, cells := 4, slots := 20, locals := 102 } : Room) s m #[(.int (1 : Int32)), (.int c0), (.int c1), (.int c2), (.int c3), (.int c4)] below meth c s₁ [] 0 0 := Stand.of_body Bd
  have e0 : s₁.heap = h0 := by rw [← hh, Bd.state]; rfl
  have N0 := Fr.nil n0
  have ZH := Z0
  have KK := Keep.refl h0 []
  refine own_start (fun t kq => castTop (ef_rmT1 m (1 : Int32) c0 c1 c2 c3 c4) kq) ?_
  show own_Go p.tables e below _ (s₁.setTop (mkF m 0 #[.val (.int (1 : Int32)), .val (.int c0), .val (.int c1), .val (.int c2), .val (.int c3), .val (.int c4)] []))
  have HW0 := HW
  obtain ⟨SC, hcz, SF, hfv, SA, SH, SL⟩ := HW
  refine own_up (fun _ kq => XS.iloadN X0.here hx rfl (hb hby d1_0) rfl kq) ?_
  show own_Go p.tables e below _ (s₁.setTop (mkF m 1 #[.val (.int (1 : Int32)), .val (.int c0), .val (.int c1), .val (.int c2), .val (.int c3), .val (.int c4)] [(.int (1 : Int32))]))
  refine own_up (fun _ kq => XS.ifYes X0.here hx rfl (pc0 := 1) (pc' := 15) rfl (hb hby d1_1) rfl ((if0 _ _).trans (feq (by decide : ¬ ((1 : Int32) = (0 : Int32)))).2) (by decide) (by decide) kq) ?_
  show own_Go p.tables e below _ (s₁.setTop (mkF m 15 #[.val (.int (1 : Int32)), .val (.int c0), .val (.int c1), .val (.int c2), .val (.int c3), .val (.int c4)] []))
  refine own_up (fun _ kq => XS.iloadN X0.here hx rfl (hb hby d1_15) rfl kq) ?_
  show own_Go p.tables e below _ (s₁.setTop (mkF m 16 #[.val (.int (1 : Int32)), .val (.int c0), .val (.int c1), .val (.int c2), .val (.int c3), .val (.int c4)] [(.int (1 : Int32))]))
  refine own_up (fun _ kq => XS.iconst X0.here hx rfl (hb hby d1_16) kq) ?_
  show own_Go p.tables e below _ (s₁.setTop (mkF m 17 #[.val (.int (1 : Int32)), .val (.int c0), .val (.int c1), .val (.int c2), .val (.int c3), .val (.int c4)] [(.int (1 : Int32)), (.int (1 : Int32))]))
  refine own_up (fun _ kq => XS.icmpNo X0.here hx rfl (hb hby d1_17) rfl (teq (by decide : (1 : Int32) = (1 : Int32))).2 kq) ?_
  show own_Go p.tables e below _ (s₁.setTop (mkF m 20 #[.val (.int (1 : Int32)), .val (.int c0), .val (.int c1), .val (.int c2), .val (.int c3), .val (.int c4)] []))
  obtain ⟨T1, h1, X1, e1, E1, A1, D1, -, st1⟩ := newO X0 hx hZ hown (hw _ (List.mem_of_getElem? (i := 6) rfl)) (hw _ (List.mem_of_getElem? (i := 7) rfl)) (hw _ (List.mem_of_getElem? (i := 8) rfl)) e0 (g := (mkF m 20 #[.val (.int (1 : Int32)), .val (.int c0), .val (.int c1), .val (.int c2), .val (.int c3), .val (.int c4)] [])) rfl (hb hby d1_20) (by decide) (by decide)
  obtain ⟨b1, gz1⟩ : ∃ z, z = h0.size := ⟨_, rfl⟩
  rw [← gz1] at A1 D1 st1
  have g_b1 : n0 ≤ b1 := Nat.le_trans ZH (Nat.le_of_eq gz1.symm)
  have sz_b1 : h0.size ≤ b1 := Nat.le_trans KK.1 (Nat.le_of_eq gz1.symm)
  have ZH := Nat.le_trans ZH E1.1
  have KK := KK.ext E1
  have OO := OO.ext E1
  have E_b1 := A1
  have F_value_b1 : Fld Z h1 b1 "java/lang/String" "value" "[B" .null := D1 (Or.inr (hw _ (List.mem_of_getElem? (i := 22) rfl))) (ty := (.array .byte)) (by decide)
  have F_coder_b1 : Fld Z h1 b1 "java/lang/String" "coder" "B" (.int (0 : Int32)) := D1 (Or.inr (hw _ (List.mem_of_getElem? (i := 23) rfl))) (ty := .byte) (by decide)
  refine own_up st1 ?_
  show own_Go p.tables e below _ (T1.setTop (mkF m 23 #[.val (.int (1 : Int32)), .val (.int c0), .val (.int c1), .val (.int c2), .val (.int c3), .val (.int c4)] [(.ref b1)]))
  refine own_up (fun _ kq => XS.dup X1.here hx rfl (hb hby d1_23) rfl rfl kq) ?_
  show own_Go p.tables e below _ (T1.setTop (mkF m 24 #[.val (.int (1 : Int32)), .val (.int c0), .val (.int c1), .val (.int c2), .val (.int c3), .val (.int c4)] [(.ref b1), (.ref b1)]))
  refine own_up (fun _ kq => XS.iconst X1.here hx rfl (hb hby d1_24) kq) ?_
  show own_Go p.tables e below _ (T1.setTop (mkF m 25 #[.val (.int (1 : Int32)), .val (.int c0), .val (.int c1), .val (.int c2), .val (.int c3), .val (.int c4)] [(.int (1 : Int32)), (.ref b1), (.ref b1)]))
  obtain ⟨T2, h2, k2, X2, e2, E2, A2, st2⟩ := newP X1 hx hZ (hw _ (List.mem_of_getElem? (i := 9) rfl)) e1 (g := (mkF m 25 #[.val (.int (1 : Int32)), .val (.int c0), .val (.int c1), .val (.int c2), .val (.int c3), .val (.int c4)] [(.int (1 : Int32)), (.ref b1), (.ref b1)])) rfl (hb hby d1_25) rfl (by decide) (cap := 1) (by decide) (by decide) (by decide) (by decide)
  obtain ⟨b2, gz2⟩ : ∃ z, z = h1.size := ⟨_, rfl⟩
  rw [← gz2] at A2 st2
  have ne_b1_b2 : b1 ≠ b2 := Nat.ne_of_lt (Nat.lt_of_lt_of_le E_b1.lt (Nat.le_of_eq gz2.symm))
  have g_b2 : n0 ≤ b2 := Nat.le_trans ZH (Nat.le_of_eq gz2.symm)
  have sz_b2 : h0.size ≤ b2 := Nat.le_trans KK.1 (Nat.le_of_eq gz2.symm)
  have E_b1 := E_b1.ext E2
  have F_value_b1 := F_value_b1.ext E2
  have F_coder_b1 := F_coder_b1.ext E2
  have ZH := Nat.le_trans ZH E2.1
  have KK := KK.ext E2
  have OO := OO.ext E2
  have V_b2 : Arv Z h2 b2 k2 .char (1 : Int32) [(.int (0 : Int32))] (.int (0 : Int32)) := (Arv.new A2 (by decide)).pad (pad_rep [] (.int (0 : Int32)) 1)
  refine own_up st2 ?_
  show own_Go p.tables e below _ (T2.setTop (mkF m 27 #[.val (.int (1 : Int32)), .val (.int c0), .val (.int c1), .val (.int c2), .val (.int c3), .val (.int c4)] [(.ref b2), (.ref b1), (.ref b1)]))
  refine own_up (fun _ kq => XS.dup X2.here hx rfl (hb hby d1_27) rfl rfl kq) ?_
  show own_Go p.tables e below _ (T2.setTop (mkF m 28 #[.val (.int (1 : Int32)), .val (.int c0), .val (.int c1), .val (.int c2), .val (.int c3), .val (.int c4)] [(.ref b2), (.ref b2), (.ref b1), (.ref b1)]))
  refine own_up (fun _ kq => XS.iconst X2.here hx rfl (hb hby d1_28) kq) ?_
  show own_Go p.tables e below _ (T2.setTop (mkF m 29 #[.val (.int (1 : Int32)), .val (.int c0), .val (.int c1), .val (.int c2), .val (.int c3), .val (.int c4)] [(.int (0 : Int32)), (.ref b2), (.ref b2), (.ref b1), (.ref b1)]))
  refine own_up (fun _ kq => XS.iloadN X2.here hx rfl (hb hby d1_29) rfl kq) ?_
  show own_Go p.tables e below _ (T2.setTop (mkF m 30 #[.val (.int (1 : Int32)), .val (.int c0), .val (.int c1), .val (.int c2), .val (.int c3), .val (.int c4)] [(.int c0), (.int (0 : Int32)), (.ref b2), (.ref b2), (.ref b1), (.ref b1)]))
  obtain ⟨cl3, Ar3, q3, sz3, nz3, hH3, hG3⟩ := V_b2
  obtain ⟨T3, h3, X3, e3, W3, st3⟩ := stC X2 hx hZ e2 Ar3 (j := (0 : Int32)) (inb_of sz3 ⟨by decide, by decide⟩) (g := (mkF m 30 #[.val (.int (1 : Int32)), .val (.int c0), .val (.int c1), .val (.int c2), .val (.int c3), .val (.int c4)] [(.int c0), (.int (0 : Int32)), (.ref b2), (.ref b2), (.ref b1), (.ref b1)])) rfl rfl (hb hby d1_30)
  have V_b2 : Arv Z h3 b2 k2 .char (1 : Int32) [(.int (nar .char c0))] (.int (0 : Int32)) := Arv.set Ar3 q3 sz3 nz3 hH3 hG3 (fits_nar_char _) W3 0 rfl (Nat.le_of_ble_eq_true rfl)
  have N3 := Fr.snoc X3 N0 g_b2
  have E_b1 := E_b1.wr W3
  have F_value_b1 := F_value_b1.other W3 (Or.inl ne_b1_b2)
  have F_coder_b1 := F_coder_b1.other W3 (Or.inl ne_b1_b2)
  have ZH := Nat.le_trans ZH (Nat.le_of_eq W3.size.symm)
  have KK := KK.wr W3 (Or.inr sz_b2)
  have OO := OO.wr W3 g_b2
  refine own_up st3 ?_
  show own_Go p.tables e below _ (T3.setTop (mkF m 31 #[.val (.int (1 : Int32)), .val (.int c0), .val (.int c1), .val (.int c2), .val (.int c3), .val (.int c4)] [(.ref b2), (.ref b1), (.ref b1)]))
  rw [own_narc hl0 hu0] at V_b2
  have GC : own_Arf Z h3 b2 .char (1 : Int32) (fun i => .int ((own_cs [c0]) i)) := (own_Arf.ofArv V_b2).congr (fun i _ => own_Iget [c0] i)
  obtain ⟨_, _, ⟨T4, L4, k4, n4⟩, -, X4, ⟨Lc4, hQ4, l4, y4, z4⟩, st4⟩ := X3.specialBack hx (y := (⟨"java/lang/String", "<init>", "([C)V"⟩ : MethodName)) rfl hown (mvT hZ (hw _ (List.mem_of_getElem? (i := 10) rfl))) (mvT hZ (hw _ (List.mem_of_getElem? (i := 11) rfl))) (mvT hZ (hw _ (List.mem_of_getElem? (i := 12) rfl))) (by decide) (backOf (W := 1) (rmI1 l Z a0 hw [] cz fv b1 b2 (1 : Int32) (2 : Int32) (own_cs [c0]) h3 n0 ZH OO HW0 E_b1 F_value_b1 F_coder_b1 g_b1 GC (own_chL [c0] (List.forall_mem_cons.mpr ⟨⟨hl0, hu0⟩, (fun _ h => nomatch h)⟩)) (by unfold own_sm; decide) (by decide) (by decide)) hZ (hw _ (List.mem_of_getElem? (i := 12) rfl)) (hw _ (List.mem_of_getElem? (i := 8) rfl)) (by decide) (by decide)) (g := (mkF m 31 #[.val (.int (1 : Int32)), .val (.int c0), .val (.int c1), .val (.int c2), .val (.int c3), .val (.int c4)] [(.ref b2), (.ref b1), (.ref b1)])) rfl (by rw [hml]; rfl) (Steps.refl _) (a := b1) (argsL := [(.ref b2)]) (rest := [(.ref b1)]) (lenOf pd_17 rfl) rfl (by show 2 * 0 + _ ≤ _; exact Nat.le_of_eq rfl) (hb hby d1_31) (fun _ _ => ⟨rfl, e3, (by decide : 2 + 2 ≤ _), (by decide : 5 + 15 ≤ _)⟩)
  dsimp only [Pt.U, Pt.locs, Pt.cells, Pt.slots] at X4 l4 y4 z4 st4 hQ4
  subst l4 y4 z4
  obtain ⟨rfl, Nq4, K4, tb, F_sx, hSX⟩ := hQ4
  have N4 := Fr.app N3 Nq4
  have E_b1 := E_b1.keep K4
  have V_b2 := V_b2.keep K4 (ninS (Ne.symm ne_b1_b2) nin0)
  have ZH := Nat.le_trans ZH K4.1
  have KK := KK.trans K4 (allS (Or.inr sz_b1) all0)
  have OO := OO.keep K4 (allS g_b1 all0)
  refine own_up (fun _ kq => st4.trans kq) ?_
  show own_Go p.tables e below _ (T4.setTop (mkF m 34 #[.val (.int (1 : Int32)), .val (.int c0), .val (.int c1), .val (.int c2), .val (.int c3), .val (.int c4)] [(.ref b1)]))
  obtain ⟨fs5, hr5, hrun5, hended5, hW5, hsame5⟩ := X4.leave (v := some (.ref b1)) (fun h => by rw [Bd.returns] at h; cases h)
  refine own_end ⟨_, _, ?_, hrun5, hended5, _, _, rfl, ?_, ⟨_, rfl⟩, hW5, hsame5.mono (by decide) (by decide)⟩
  · exact retOut X4 hx Bd.returns rfl (Or.inr (Or.inr (Or.inr (Or.inr ⟨rfl, rfl, rfl⟩)))) (hb hby d1_34) hr5
  · show QrmT1 Z cz fv c0 c1 c2 c3 c4 h0 n0 _ T4.heap _
    skip
    exact ⟨b1, sz_b1, rfl, N4, KK, E_b1, tb, F_sx, hSX⟩
theorem d1_35 : decode method_4_code 35 = .ok (.iload_n 0, 1) := by decide +kernel
theorem d1_36 : decode method_4_code 36 = .ok (.iconst 2, 1) := by decide +kernel
theorem d1_37 : decode method_4_code 37 = .ok (.if_icmp .ne 22, 3) := by decide +kernel
theorem d1_40 : decode method_4_code 40 = .ok (.new 25, 3) := by decide +kernel
theorem d1_43 : decode method_4_code 43 = .ok (.dup, 1) := by decide +kernel
theorem d1_44 : decode method_4_code 44 = .ok (.iconst 2, 1) := by decide +kernel
theorem d1_45 : decode method_4_code 45 = .ok (.newarray .char, 2) := by decide +kernel
theorem d1_47 : decode method_4_code 47 = .ok (.dup, 1) := by decide +kernel
theorem d1_48 : decode method_4_code 48 = .ok (.iconst 0, 1) := by decide +kernel
theorem d1_49 : decode method_4_code 49 = .ok (.iload_n 1, 1) := by decide +kernel
theorem d1_50 : decode method_4_code 50 = .ok (.castore, 1) := by decide +kernel
theorem d1_51 : decode method_4_code 51 = .ok (.dup, 1) := by decide +kernel
theorem d1_52 : decode method_4_code 52 = .ok (.iconst 1, 1) := by decide +kernel
theorem d1_53 : decode method_4_code 53 = .ok (.iload_n 2, 1) := by decide +kernel
theorem d1_54 : decode method_4_code 54 = .ok (.castore, 1) := by decide +kernel
theorem d1_55 : decode method_4_code 55 = .ok (.invokespecial 27, 3) := by decide +kernel
theorem d1_58 : decode method_4_code 58 = .ok (.areturn, 1) := by decide +kernel
theorem ef_rmT2 (m : MethodId) (x0 : Int32) (x1 : Int32) (x2 : Int32) (x3 : Int32) (x4 : Int32) (x5 : Int32) : entryFrame m #[(.int x0), (.int x1), (.int x2), (.int x3), (.int x4), (.int x5)] 6 = mkF m 0 #[.val (.int x0), .val (.int x1), .val (.int x2), .val (.int x3), .val (.int x4), .val (.int x5)] [] := by first | (simp [entryFrame, mkF, argsToLocals, Value.category]; done) | rfl
def QrmT2 (Z : State) (cz : Int32) (fv : Value) (c0 : Int32) (c1 : Int32) (c2 : Int32) (c3 : Int32) (c4 : Int32) (h0 : Heap) (n0 : Nat) (v : Option Value) (h : Heap) (L : List Loc) : Prop := ∃ sx : Addr, h0.size ≤ sx ∧ v = some (.ref sx) ∧ Fr n0 L ∧ Keep h0 h [] ∧ Exa Z h sx "java/lang/String" ∧ ∃ tb : Addr, Fld Z h sx "java/lang/String" "value" "[B" (.ref tb) ∧ own_SX Z h sx tb (2 : Int32) (4 : Int32) (own_cs [c0, c1])
set_option maxRecDepth 65536 in
set_option maxHeartbeats 40000000 in
theorem rmT2 (l : Launch) (Z : State) (a0 : Array Value) (hw : ∀ d ∈ tables_1, d.before a0 Z = true) (ws : List Jvm.Cond) (cz : Int32) (fv : Value) (c0 : Int32) (c1 : Int32) (c2 : Int32) (c3 : Int32) (c4 : Int32) (h0 : Heap) (n0 : Nat) (Z0 : n0 ≤ h0.size) (OO : Old Z n0 h0) (HW : own_W Z cz fv) (hl0 : ¬ c0 < 0) (hl1 : ¬ c1 < 0) (hu0 : ¬ (65535 : Int32) < c0) (hu1 : ¬ (65535 : Int32) < c1) :
    MetFree l (⟨"com/example/checkoff_codex/checkoffcodex/io/ValueTextDigitsPinLaw", "text", "(ICCCCC)Ljava/lang/String;"⟩ : MethodName) (head1 (Jvm.Cond.code (⟨"com/example/checkoff_codex/checkoffcodex/io/ValueTextDigitsPinLaw", "text", "(ICCCCC)Ljava/lang/String;"⟩ : MethodName) method_4_code 6 (some (.object "java/lang/String")) :: ws) ({ frames := 6, cells := 4, slots := 21, locals := 102 } : Room)) (fun aq Uq => aq = #[(.int (2 : Int32)), (.int c0), (.int c1), (.int c2), (.int c3), (.int c4)] ∧ Z.Warmed39 Uq.vm ∧ Uq.heap = h0) (fun _ _ _ _ _ => True) (fun _ Uq oq Uq' => ∃ vq Lq, oq = .returned vq ∧ QrmT2 Z cz fv c0 c1 c2 c3 c4 h0 n0 vq Uq'.heap Lq ∧ FrameEnd Uq oq Uq' Lq ({ frames := 6, cells := 4, slots := 21, locals := 102 } : Room).cells ({ frames := 6, cells := 4, slots := 21, locals := 102 } : Room).slots) := by
  refine MetFree.of_bodySF (plainFor_of_name pn_1) hisR ?_
  intro p e s m args below meth c s₁ Bd hml0 hP hK
  obtain ⟨rfl, hZ, hh⟩ := hP
  have hx := Bd.exec
  have hby := Bd.bytes
  have hml : c.maxLocals = 6 := hml0
  have hown : s.vm.findClass "com/example/checkoff_codex/checkoffcodex/io/ValueTextDigitsPinLaw" = some m.cls := findClass_of_methodNamed Bd.named
  have hnm := (name_of_methodNamed Bd.named Bd.method).1
  have X0 : Stand p l e ({ frames := 6, cells := 4, slots := 21, locals := 102 } : Room) s m #[(.int (2 : Int32)), (.int c0), (.int c1), (.int c2), (.int c3), (.int c4)] below meth c s₁ [] 0 0 := Stand.of_body Bd
  have e0 : s₁.heap = h0 := by rw [← hh, Bd.state]; rfl
  have N0 := Fr.nil n0
  have ZH := Z0
  have KK := Keep.refl h0 []
  refine own_start (fun t kq => castTop (ef_rmT2 m (2 : Int32) c0 c1 c2 c3 c4) kq) ?_
  show own_Go p.tables e below _ (s₁.setTop (mkF m 0 #[.val (.int (2 : Int32)), .val (.int c0), .val (.int c1), .val (.int c2), .val (.int c3), .val (.int c4)] []))
  have HW0 := HW
  obtain ⟨SC, hcz, SF, hfv, SA, SH, SL⟩ := HW
  refine own_up (fun _ kq => XS.iloadN X0.here hx rfl (hb hby d1_0) rfl kq) ?_
  show own_Go p.tables e below _ (s₁.setTop (mkF m 1 #[.val (.int (2 : Int32)), .val (.int c0), .val (.int c1), .val (.int c2), .val (.int c3), .val (.int c4)] [(.int (2 : Int32))]))
  refine own_up (fun _ kq => XS.ifYes X0.here hx rfl (pc0 := 1) (pc' := 15) rfl (hb hby d1_1) rfl ((if0 _ _).trans (feq (by decide : ¬ ((2 : Int32) = (0 : Int32)))).2) (by decide) (by decide) kq) ?_
  show own_Go p.tables e below _ (s₁.setTop (mkF m 15 #[.val (.int (2 : Int32)), .val (.int c0), .val (.int c1), .val (.int c2), .val (.int c3), .val (.int c4)] []))
  refine own_up (fun _ kq => XS.iloadN X0.here hx rfl (hb hby d1_15) rfl kq) ?_
  show own_Go p.tables e below _ (s₁.setTop (mkF m 16 #[.val (.int (2 : Int32)), .val (.int c0), .val (.int c1), .val (.int c2), .val (.int c3), .val (.int c4)] [(.int (2 : Int32))]))
  refine own_up (fun _ kq => XS.iconst X0.here hx rfl (hb hby d1_16) kq) ?_
  show own_Go p.tables e below _ (s₁.setTop (mkF m 17 #[.val (.int (2 : Int32)), .val (.int c0), .val (.int c1), .val (.int c2), .val (.int c3), .val (.int c4)] [(.int (1 : Int32)), (.int (2 : Int32))]))
  refine own_up (fun _ kq => XS.icmpYes X0.here hx rfl (pc0 := 17) (pc' := 35) rfl (hb hby d1_17) rfl (feq (by decide : ¬ ((2 : Int32) = (1 : Int32)))).2 (by decide) (by decide) kq) ?_
  show own_Go p.tables e below _ (s₁.setTop (mkF m 35 #[.val (.int (2 : Int32)), .val (.int c0), .val (.int c1), .val (.int c2), .val (.int c3), .val (.int c4)] []))
  refine own_up (fun _ kq => XS.iloadN X0.here hx rfl (hb hby d1_35) rfl kq) ?_
  show own_Go p.tables e below _ (s₁.setTop (mkF m 36 #[.val (.int (2 : Int32)), .val (.int c0), .val (.int c1), .val (.int c2), .val (.int c3), .val (.int c4)] [(.int (2 : Int32))]))
  refine own_up (fun _ kq => XS.iconst X0.here hx rfl (hb hby d1_36) kq) ?_
  show own_Go p.tables e below _ (s₁.setTop (mkF m 37 #[.val (.int (2 : Int32)), .val (.int c0), .val (.int c1), .val (.int c2), .val (.int c3), .val (.int c4)] [(.int (2 : Int32)), (.int (2 : Int32))]))
  refine own_up (fun _ kq => XS.icmpNo X0.here hx rfl (hb hby d1_37) rfl (teq (by decide : (2 : Int32) = (2 : Int32))).2 kq) ?_
  show own_Go p.tables e below _ (s₁.setTop (mkF m 40 #[.val (.int (2 : Int32)), .val (.int c0), .val (.int c1), .val (.int c2), .val (.int c3), .val (.int c4)] []))
  obtain ⟨T1, h1, X1, e1, E1, A1, D1, -, st1⟩ := newO X0 hx hZ hown (hw _ (List.mem_of_getElem? (i := 6) rfl)) (hw _ (List.mem_of_getElem? (i := 7) rfl)) (hw _ (List.mem_of_getElem? (i := 8) rfl)) e0 (g := (mkF m 40 #[.val (.int (2 : Int32)), .val (.int c0), .val (.int c1), .val (.int c2), .val (.int c3), .val (.int c4)] [])) rfl (hb hby d1_40) (by decide) (by decide)
  obtain ⟨b1, gz1⟩ : ∃ z, z = h0.size := ⟨_, rfl⟩
  rw [← gz1] at A1 D1 st1
  have g_b1 : n0 ≤ b1 := Nat.le_trans ZH (Nat.le_of_eq gz1.symm)
  have sz_b1 : h0.size ≤ b1 := Nat.le_trans KK.1 (Nat.le_of_eq gz1.symm)
  have ZH := Nat.le_trans ZH E1.1
  have KK := KK.ext E1
  have OO := OO.ext E1
  have E_b1 := A1
  have F_value_b1 : Fld Z h1 b1 "java/lang/String" "value" "[B" .null := D1 (Or.inr (hw _ (List.mem_of_getElem? (i := 22) rfl))) (ty := (.array .byte)) (by decide)
  have F_coder_b1 : Fld Z h1 b1 "java/lang/String" "coder" "B" (.int (0 : Int32)) := D1 (Or.inr (hw _ (List.mem_of_getElem? (i := 23) rfl))) (ty := .byte) (by decide)
  refine own_up st1 ?_
  show own_Go p.tables e below _ (T1.setTop (mkF m 43 #[.val (.int (2 : Int32)), .val (.int c0), .val (.int c1), .val (.int c2), .val (.int c3), .val (.int c4)] [(.ref b1)]))
  refine own_up (fun _ kq => XS.dup X1.here hx rfl (hb hby d1_43) rfl rfl kq) ?_
  show own_Go p.tables e below _ (T1.setTop (mkF m 44 #[.val (.int (2 : Int32)), .val (.int c0), .val (.int c1), .val (.int c2), .val (.int c3), .val (.int c4)] [(.ref b1), (.ref b1)]))
  refine own_up (fun _ kq => XS.iconst X1.here hx rfl (hb hby d1_44) kq) ?_
  show own_Go p.tables e below _ (T1.setTop (mkF m 45 #[.val (.int (2 : Int32)), .val (.int c0), .val (.int c1), .val (.int c2), .val (.int c3), .val (.int c4)] [(.int (2 : Int32)), (.ref b1), (.ref b1)]))
  obtain ⟨T2, h2, k2, X2, e2, E2, A2, st2⟩ := newP X1 hx hZ (hw _ (List.mem_of_getElem? (i := 9) rfl)) e1 (g := (mkF m 45 #[.val (.int (2 : Int32)), .val (.int c0), .val (.int c1), .val (.int c2), .val (.int c3), .val (.int c4)] [(.int (2 : Int32)), (.ref b1), (.ref b1)])) rfl (hb hby d1_45) rfl (by decide) (cap := 2) (by decide) (by decide) (by decide) (by decide)
  obtain ⟨b2, gz2⟩ : ∃ z, z = h1.size := ⟨_, rfl⟩
  rw [← gz2] at A2 st2
  have ne_b1_b2 : b1 ≠ b2 := Nat.ne_of_lt (Nat.lt_of_lt_of_le E_b1.lt (Nat.le_of_eq gz2.symm))
  have g_b2 : n0 ≤ b2 := Nat.le_trans ZH (Nat.le_of_eq gz2.symm)
  have sz_b2 : h0.size ≤ b2 := Nat.le_trans KK.1 (Nat.le_of_eq gz2.symm)
  have E_b1 := E_b1.ext E2
  have F_value_b1 := F_value_b1.ext E2
  have F_coder_b1 := F_coder_b1.ext E2
  have ZH := Nat.le_trans ZH E2.1
  have KK := KK.ext E2
  have OO := OO.ext E2
  have V_b2 : Arv Z h2 b2 k2 .char (2 : Int32) [(.int (0 : Int32)), (.int (0 : Int32))] (.int (0 : Int32)) := (Arv.new A2 (by decide)).pad (pad_rep [] (.int (0 : Int32)) 2)
  refine own_up st2 ?_
  show own_Go p.tables e below _ (T2.setTop (mkF m 47 #[.val (.int (2 : Int32)), .val (.int c0), .val (.int c1), .val (.int c2), .val (.int c3), .val (.int c4)] [(.ref b2), (.ref b1), (.ref b1)]))
  refine own_up (fun _ kq => XS.dup X2.here hx rfl (hb hby d1_47) rfl rfl kq) ?_
  show own_Go p.tables e below _ (T2.setTop (mkF m 48 #[.val (.int (2 : Int32)), .val (.int c0), .val (.int c1), .val (.int c2), .val (.int c3), .val (.int c4)] [(.ref b2), (.ref b2), (.ref b1), (.ref b1)]))
  refine own_up (fun _ kq => XS.iconst X2.here hx rfl (hb hby d1_48) kq) ?_
  show own_Go p.tables e below _ (T2.setTop (mkF m 49 #[.val (.int (2 : Int32)), .val (.int c0), .val (.int c1), .val (.int c2), .val (.int c3), .val (.int c4)] [(.int (0 : Int32)), (.ref b2), (.ref b2), (.ref b1), (.ref b1)]))
  refine own_up (fun _ kq => XS.iloadN X2.here hx rfl (hb hby d1_49) rfl kq) ?_
  show own_Go p.tables e below _ (T2.setTop (mkF m 50 #[.val (.int (2 : Int32)), .val (.int c0), .val (.int c1), .val (.int c2), .val (.int c3), .val (.int c4)] [(.int c0), (.int (0 : Int32)), (.ref b2), (.ref b2), (.ref b1), (.ref b1)]))
  obtain ⟨cl3, Ar3, q3, sz3, nz3, hH3, hG3⟩ := V_b2
  obtain ⟨T3, h3, X3, e3, W3, st3⟩ := stC X2 hx hZ e2 Ar3 (j := (0 : Int32)) (inb_of sz3 ⟨by decide, by decide⟩) (g := (mkF m 50 #[.val (.int (2 : Int32)), .val (.int c0), .val (.int c1), .val (.int c2), .val (.int c3), .val (.int c4)] [(.int c0), (.int (0 : Int32)), (.ref b2), (.ref b2), (.ref b1), (.ref b1)])) rfl rfl (hb hby d1_50)
  have V_b2 : Arv Z h3 b2 k2 .char (2 : Int32) [(.int (nar .char c0)), (.int (0 : Int32))] (.int (0 : Int32)) := Arv.set Ar3 q3 sz3 nz3 hH3 hG3 (fits_nar_char _) W3 0 rfl (Nat.le_of_ble_eq_true rfl)
  have N3 := Fr.snoc X3 N0 g_b2
  have E_b1 := E_b1.wr W3
  have F_value_b1 := F_value_b1.other W3 (Or.inl ne_b1_b2)
  have F_coder_b1 := F_coder_b1.other W3 (Or.inl ne_b1_b2)
  have ZH := Nat.le_trans ZH (Nat.le_of_eq W3.size.symm)
  have KK := KK.wr W3 (Or.inr sz_b2)
  have OO := OO.wr W3 g_b2
  refine own_up st3 ?_
  show own_Go p.tables e below _ (T3.setTop (mkF m 51 #[.val (.int (2 : Int32)), .val (.int c0), .val (.int c1), .val (.int c2), .val (.int c3), .val (.int c4)] [(.ref b2), (.ref b1), (.ref b1)]))
  refine own_up (fun _ kq => XS.dup X3.here hx rfl (hb hby d1_51) rfl rfl kq) ?_
  show own_Go p.tables e below _ (T3.setTop (mkF m 52 #[.val (.int (2 : Int32)), .val (.int c0), .val (.int c1), .val (.int c2), .val (.int c3), .val (.int c4)] [(.ref b2), (.ref b2), (.ref b1), (.ref b1)]))
  refine own_up (fun _ kq => XS.iconst X3.here hx rfl (hb hby d1_52) kq) ?_
  show own_Go p.tables e below _ (T3.setTop (mkF m 53 #[.val (.int (2 : Int32)), .val (.int c0), .val (.int c1), .val (.int c2), .val (.int c3), .val (.int c4)] [(.int (1 : Int32)), (.ref b2), (.ref b2), (.ref b1), (.ref b1)]))
  refine own_up (fun _ kq => XS.iloadN X3.here hx rfl (hb hby d1_53) rfl kq) ?_
  show own_Go p.tables e below _ (T3.setTop (mkF m 54 #[.val (.int (2 : Int32)), .val (.int c0), .val (.int c1), .val (.int c2), .val (.int c3), .val (.int c4)] [(.int c1), (.int (1 : Int32)), (.ref b2), (.ref b2), (.ref b1), (.ref b1)]))
  obtain ⟨cl4, Ar4, q4, sz4, nz4, hH4, hG4⟩ := V_b2
  obtain ⟨T4, h4, X4, e4, W4, st4⟩ := stC X3 hx hZ e3 Ar4 (j := (1 : Int32)) (inb_of sz4 ⟨by decide, by decide⟩) (g := (mkF m 54 #[.val (.int (2 : Int32)), .val (.int c0), .val (.int c1), .val (.int c2), .val (.int c3), .val (.int c4)] [(.int c1), (.int (1 : Int32)), (.ref b2), (.ref b2), (.ref b1), (.ref b1)])) rfl rfl (hb hby d1_54)
  have V_b2 : Arv Z h4 b2 k2 .char (2 : Int32) [(.int (nar .char c0)), (.int (nar .char c1))] (.int (0 : Int32)) := Arv.set Ar4 q4 sz4 nz4 hH4 hG4 (fits_nar_char _) W4 1 rfl (Nat.le_of_ble_eq_true rfl)
  have N4 := Fr.snoc X4 N3 g_b2
  have E_b1 := E_b1.wr W4
  have F_value_b1 := F_value_b1.other W4 (Or.inl ne_b1_b2)
  have F_coder_b1 := F_coder_b1.other W4 (Or.inl ne_b1_b2)
  have ZH := Nat.le_trans ZH (Nat.le_of_eq W4.size.symm)
  have KK := KK.wr W4 (Or.inr sz_b2)
  have OO := OO.wr W4 g_b2
  refine own_up st4 ?_
  show own_Go p.tables e below _ (T4.setTop (mkF m 55 #[.val (.int (2 : Int32)), .val (.int c0), .val (.int c1), .val (.int c2), .val (.int c3), .val (.int c4)] [(.ref b2), (.ref b1), (.ref b1)]))
  rw [own_narc hl0 hu0, own_narc hl1 hu1] at V_b2
  have GC : own_Arf Z h4 b2 .char (2 : Int32) (fun i => .int ((own_cs [c0, c1]) i)) := (own_Arf.ofArv V_b2).congr (fun i _ => own_Iget [c0, c1] i)
  obtain ⟨_, _, ⟨T5, L5, k5, n5⟩, -, X5, ⟨Lc5, hQ5, l5, y5, z5⟩, st5⟩ := X4.specialBack hx (y := (⟨"java/lang/String", "<init>", "([C)V"⟩ : MethodName)) rfl hown (mvT hZ (hw _ (List.mem_of_getElem? (i := 10) rfl))) (mvT hZ (hw _ (List.mem_of_getElem? (i := 11) rfl))) (mvT hZ (hw _ (List.mem_of_getElem? (i := 12) rfl))) (by decide) (backOf (W := 1) (rmI1 l Z a0 hw [] cz fv b1 b2 (2 : Int32) (4 : Int32) (own_cs [c0, c1]) h4 n0 ZH OO HW0 E_b1 F_value_b1 F_coder_b1 g_b1 GC (own_chL [c0, c1] (List.forall_mem_cons.mpr ⟨⟨hl0, hu0⟩, (List.forall_mem_cons.mpr ⟨⟨hl1, hu1⟩, (fun _ h => nomatch h)⟩)⟩)) (by unfold own_sm; decide) (by decide) (by decide)) hZ (hw _ (List.mem_of_getElem? (i := 12) rfl)) (hw _ (List.mem_of_getElem? (i := 8) rfl)) (by decide) (by decide)) (g := (mkF m 55 #[.val (.int (2 : Int32)), .val (.int c0), .val (.int c1), .val (.int c2), .val (.int c3), .val (.int c4)] [(.ref b2), (.ref b1), (.ref b1)])) rfl (by rw [hml]; rfl) (Steps.refl _) (a := b1) (argsL := [(.ref b2)]) (rest := [(.ref b1)]) (lenOf pd_17 rfl) rfl (by show 2 * 0 + _ ≤ _; exact Nat.le_of_eq rfl) (hb hby d1_55) (fun _ _ => ⟨rfl, e4, (by decide : 2 + 2 ≤ _), (by decide : 6 + 15 ≤ _)⟩)
  dsimp only [Pt.U, Pt.locs, Pt.cells, Pt.slots] at X5 l5 y5 z5 st5 hQ5
  subst l5 y5 z5
  obtain ⟨rfl, Nq5, K5, tb, F_sx, hSX⟩ := hQ5
  have N5 := Fr.app N4 Nq5
  have E_b1 := E_b1.keep K5
  have V_b2 := V_b2.keep K5 (ninS (Ne.symm ne_b1_b2) nin0)
  have ZH := Nat.le_trans ZH K5.1
  have KK := KK.trans K5 (allS (Or.inr sz_b1) all0)
  have OO := OO.keep K5 (allS g_b1 all0)
  refine own_up (fun _ kq => st5.trans kq) ?_
  show own_Go p.tables e below _ (T5.setTop (mkF m 58 #[.val (.int (2 : Int32)), .val (.int c0), .val (.int c1), .val (.int c2), .val (.int c3), .val (.int c4)] [(.ref b1)]))
  obtain ⟨fs6, hr6, hrun6, hended6, hW6, hsame6⟩ := X5.leave (v := some (.ref b1)) (fun h => by rw [Bd.returns] at h; cases h)
  refine own_end ⟨_, _, ?_, hrun6, hended6, _, _, rfl, ?_, ⟨_, rfl⟩, hW6, hsame6.mono (by decide) (by decide)⟩
  · exact retOut X5 hx Bd.returns rfl (Or.inr (Or.inr (Or.inr (Or.inr ⟨rfl, rfl, rfl⟩)))) (hb hby d1_58) hr6
  · show QrmT2 Z cz fv c0 c1 c2 c3 c4 h0 n0 _ T5.heap _
    skip
    exact ⟨b1, sz_b1, rfl, N5, KK, E_b1, tb, F_sx, hSX⟩
theorem d1_59 : decode method_4_code 59 = .ok (.iload_n 0, 1) := by decide +kernel
theorem d1_60 : decode method_4_code 60 = .ok (.iconst 3, 1) := by decide +kernel
theorem d1_61 : decode method_4_code 61 = .ok (.if_icmp .ne 26, 3) := by decide +kernel
theorem d1_64 : decode method_4_code 64 = .ok (.new 25, 3) := by decide +kernel
theorem d1_67 : decode method_4_code 67 = .ok (.dup, 1) := by decide +kernel
theorem d1_68 : decode method_4_code 68 = .ok (.iconst 3, 1) := by decide +kernel
theorem d1_69 : decode method_4_code 69 = .ok (.newarray .char, 2) := by decide +kernel
theorem d1_71 : decode method_4_code 71 = .ok (.dup, 1) := by decide +kernel
theorem d1_72 : decode method_4_code 72 = .ok (.iconst 0, 1) := by decide +kernel
theorem d1_73 : decode method_4_code 73 = .ok (.iload_n 1, 1) := by decide +kernel
theorem d1_74 : decode method_4_code 74 = .ok (.castore, 1) := by decide +kernel
theorem d1_75 : decode method_4_code 75 = .ok (.dup, 1) := by decide +kernel
theorem d1_76 : decode method_4_code 76 = .ok (.iconst 1, 1) := by decide +kernel
theorem d1_77 : decode method_4_code 77 = .ok (.iload_n 2, 1) := by decide +kernel
theorem d1_78 : decode method_4_code 78 = .ok (.castore, 1) := by decide +kernel
theorem d1_79 : decode method_4_code 79 = .ok (.dup, 1) := by decide +kernel
theorem d1_80 : decode method_4_code 80 = .ok (.iconst 2, 1) := by decide +kernel
theorem d1_81 : decode method_4_code 81 = .ok (.iload_n 3, 1) := by decide +kernel
theorem d1_82 : decode method_4_code 82 = .ok (.castore, 1) := by decide +kernel
theorem d1_83 : decode method_4_code 83 = .ok (.invokespecial 27, 3) := by decide +kernel
theorem d1_86 : decode method_4_code 86 = .ok (.areturn, 1) := by decide +kernel
theorem ef_rmT3 (m : MethodId) (x0 : Int32) (x1 : Int32) (x2 : Int32) (x3 : Int32) (x4 : Int32) (x5 : Int32) : entryFrame m #[(.int x0), (.int x1), (.int x2), (.int x3), (.int x4), (.int x5)] 6 = mkF m 0 #[.val (.int x0), .val (.int x1), .val (.int x2), .val (.int x3), .val (.int x4), .val (.int x5)] [] := by first | (simp [entryFrame, mkF, argsToLocals, Value.category]; done) | rfl
def QrmT3 (Z : State) (cz : Int32) (fv : Value) (c0 : Int32) (c1 : Int32) (c2 : Int32) (c3 : Int32) (c4 : Int32) (h0 : Heap) (n0 : Nat) (v : Option Value) (h : Heap) (L : List Loc) : Prop := ∃ sx : Addr, h0.size ≤ sx ∧ v = some (.ref sx) ∧ Fr n0 L ∧ Keep h0 h [] ∧ Exa Z h sx "java/lang/String" ∧ ∃ tb : Addr, Fld Z h sx "java/lang/String" "value" "[B" (.ref tb) ∧ own_SX Z h sx tb (3 : Int32) (6 : Int32) (own_cs [c0, c1, c2])
set_option maxRecDepth 65536 in
set_option maxHeartbeats 40000000 in
theorem rmT3 (l : Launch) (Z : State) (a0 : Array Value) (hw : ∀ d ∈ tables_1, d.before a0 Z = true) (ws : List Jvm.Cond) (cz : Int32) (fv : Value) (c0 : Int32) (c1 : Int32) (c2 : Int32) (c3 : Int32) (c4 : Int32) (h0 : Heap) (n0 : Nat) (Z0 : n0 ≤ h0.size) (OO : Old Z n0 h0) (HW : own_W Z cz fv) (hl0 : ¬ c0 < 0) (hl1 : ¬ c1 < 0) (hl2 : ¬ c2 < 0) (hu0 : ¬ (65535 : Int32) < c0) (hu1 : ¬ (65535 : Int32) < c1) (hu2 : ¬ (65535 : Int32) < c2) :
    MetFree l (⟨"com/example/checkoff_codex/checkoffcodex/io/ValueTextDigitsPinLaw", "text", "(ICCCCC)Ljava/lang/String;"⟩ : MethodName) (head1 (Jvm.Cond.code (⟨"com/example/checkoff_codex/checkoffcodex/io/ValueTextDigitsPinLaw", "text", "(ICCCCC)Ljava/lang/String;"⟩ : MethodName) method_4_code 6 (some (.object "java/lang/String")) :: ws) ({ frames := 6, cells := 4, slots := 22, locals := 102 } : Room)) (fun aq Uq => aq = #[(.int (3 : Int32)), (.int c0), (.int c1), (.int c2), (.int c3), (.int c4)] ∧ Z.Warmed39 Uq.vm ∧ Uq.heap = h0) (fun _ _ _ _ _ => True) (fun _ Uq oq Uq' => ∃ vq Lq, oq = .returned vq ∧ QrmT3 Z cz fv c0 c1 c2 c3 c4 h0 n0 vq Uq'.heap Lq ∧ FrameEnd Uq oq Uq' Lq ({ frames := 6, cells := 4, slots := 22, locals := 102 } : Room).cells ({ frames := 6, cells := 4, slots := 22, locals := 102 } : Room).slots) := by
  refine MetFree.of_bodySF (plainFor_of_name pn_1) hisR ?_
  intro p e s m args below meth c s₁ Bd hml0 hP hK
  obtain ⟨rfl, hZ, hh⟩ := hP
  have hx := Bd.exec
  have hby := Bd.bytes
  have hml : c.maxLocals = 6 := hml0
  have hown : s.vm.findClass "com/example/checkoff_codex/checkoffcodex/io/ValueTextDigitsPinLaw" = some m.cls := findClass_of_methodNamed Bd.named
  have hnm := (name_of_methodNamed Bd.named Bd.method).1
  have X0 : Stand p l e ({ frames := 6, cells := 4, slots := 22, locals := 102 } : Room) s m #[(.int (3 : Int32)), (.int c0), (.int c1), (.int c2), (.int c3), (.int c4)] below meth c s₁ [] 0 0 := Stand.of_body Bd
  have e0 : s₁.heap = h0 := by rw [← hh, Bd.state]; rfl
  have N0 := Fr.nil n0
  have ZH := Z0
  have KK := Keep.refl h0 []
  refine own_start (fun t kq => castTop (ef_rmT3 m (3 : Int32) c0 c1 c2 c3 c4) kq) ?_
  show own_Go p.tables e below _ (s₁.setTop (mkF m 0 #[.val (.int (3 : Int32)), .val (.int c0), .val (.int c1), .val (.int c2), .val (.int c3), .val (.int c4)] []))
  have HW0 := HW
  obtain ⟨SC, hcz, SF, hfv, SA, SH, SL⟩ := HW
  refine own_up (fun _ kq => XS.iloadN X0.here hx rfl (hb hby d1_0) rfl kq) ?_
  show own_Go p.tables e below _ (s₁.setTop (mkF m 1 #[.val (.int (3 : Int32)), .val (.int c0), .val (.int c1), .val (.int c2), .val (.int c3), .val (.int c4)] [(.int (3 : Int32))]))
  refine own_up (fun _ kq => XS.ifYes X0.here hx rfl (pc0 := 1) (pc' := 15) rfl (hb hby d1_1) rfl ((if0 _ _).trans (feq (by decide : ¬ ((3 : Int32) = (0 : Int32)))).2) (by decide) (by decide) kq) ?_
  show own_Go p.tables e below _ (s₁.setTop (mkF m 15 #[.val (.int (3 : Int32)), .val (.int c0), .val (.int c1), .val (.int c2), .val (.int c3), .val (.int c4)] []))
  refine own_up (fun _ kq => XS.iloadN X0.here hx rfl (hb hby d1_15) rfl kq) ?_
  show own_Go p.tables e below _ (s₁.setTop (mkF m 16 #[.val (.int (3 : Int32)), .val (.int c0), .val (.int c1), .val (.int c2), .val (.int c3), .val (.int c4)] [(.int (3 : Int32))]))
  refine own_up (fun _ kq => XS.iconst X0.here hx rfl (hb hby d1_16) kq) ?_
  show own_Go p.tables e below _ (s₁.setTop (mkF m 17 #[.val (.int (3 : Int32)), .val (.int c0), .val (.int c1), .val (.int c2), .val (.int c3), .val (.int c4)] [(.int (1 : Int32)), (.int (3 : Int32))]))
  refine own_up (fun _ kq => XS.icmpYes X0.here hx rfl (pc0 := 17) (pc' := 35) rfl (hb hby d1_17) rfl (feq (by decide : ¬ ((3 : Int32) = (1 : Int32)))).2 (by decide) (by decide) kq) ?_
  show own_Go p.tables e below _ (s₁.setTop (mkF m 35 #[.val (.int (3 : Int32)), .val (.int c0), .val (.int c1), .val (.int c2), .val (.int c3), .val (.int c4)] []))
  refine own_up (fun _ kq => XS.iloadN X0.here hx rfl (hb hby d1_35) rfl kq) ?_
  show own_Go p.tables e below _ (s₁.setTop (mkF m 36 #[.val (.int (3 : Int32)), .val (.int c0), .val (.int c1), .val (.int c2), .val (.int c3), .val (.int c4)] [(.int (3 : Int32))]))
  refine own_up (fun _ kq => XS.iconst X0.here hx rfl (hb hby d1_36) kq) ?_
  show own_Go p.tables e below _ (s₁.setTop (mkF m 37 #[.val (.int (3 : Int32)), .val (.int c0), .val (.int c1), .val (.int c2), .val (.int c3), .val (.int c4)] [(.int (2 : Int32)), (.int (3 : Int32))]))
  refine own_up (fun _ kq => XS.icmpYes X0.here hx rfl (pc0 := 37) (pc' := 59) rfl (hb hby d1_37) rfl (feq (by decide : ¬ ((3 : Int32) = (2 : Int32)))).2 (by decide) (by decide) kq) ?_
  show own_Go p.tables e below _ (s₁.setTop (mkF m 59 #[.val (.int (3 : Int32)), .val (.int c0), .val (.int c1), .val (.int c2), .val (.int c3), .val (.int c4)] []))
  refine own_up (fun _ kq => XS.iloadN X0.here hx rfl (hb hby d1_59) rfl kq) ?_
  show own_Go p.tables e below _ (s₁.setTop (mkF m 60 #[.val (.int (3 : Int32)), .val (.int c0), .val (.int c1), .val (.int c2), .val (.int c3), .val (.int c4)] [(.int (3 : Int32))]))
  refine own_up (fun _ kq => XS.iconst X0.here hx rfl (hb hby d1_60) kq) ?_
  show own_Go p.tables e below _ (s₁.setTop (mkF m 61 #[.val (.int (3 : Int32)), .val (.int c0), .val (.int c1), .val (.int c2), .val (.int c3), .val (.int c4)] [(.int (3 : Int32)), (.int (3 : Int32))]))
  refine own_up (fun _ kq => XS.icmpNo X0.here hx rfl (hb hby d1_61) rfl (teq (by decide : (3 : Int32) = (3 : Int32))).2 kq) ?_
  show own_Go p.tables e below _ (s₁.setTop (mkF m 64 #[.val (.int (3 : Int32)), .val (.int c0), .val (.int c1), .val (.int c2), .val (.int c3), .val (.int c4)] []))
  obtain ⟨T1, h1, X1, e1, E1, A1, D1, -, st1⟩ := newO X0 hx hZ hown (hw _ (List.mem_of_getElem? (i := 6) rfl)) (hw _ (List.mem_of_getElem? (i := 7) rfl)) (hw _ (List.mem_of_getElem? (i := 8) rfl)) e0 (g := (mkF m 64 #[.val (.int (3 : Int32)), .val (.int c0), .val (.int c1), .val (.int c2), .val (.int c3), .val (.int c4)] [])) rfl (hb hby d1_64) (by decide) (by decide)
  obtain ⟨b1, gz1⟩ : ∃ z, z = h0.size := ⟨_, rfl⟩
  rw [← gz1] at A1 D1 st1
  have g_b1 : n0 ≤ b1 := Nat.le_trans ZH (Nat.le_of_eq gz1.symm)
  have sz_b1 : h0.size ≤ b1 := Nat.le_trans KK.1 (Nat.le_of_eq gz1.symm)
  have ZH := Nat.le_trans ZH E1.1
  have KK := KK.ext E1
  have OO := OO.ext E1
  have E_b1 := A1
  have F_value_b1 : Fld Z h1 b1 "java/lang/String" "value" "[B" .null := D1 (Or.inr (hw _ (List.mem_of_getElem? (i := 22) rfl))) (ty := (.array .byte)) (by decide)
  have F_coder_b1 : Fld Z h1 b1 "java/lang/String" "coder" "B" (.int (0 : Int32)) := D1 (Or.inr (hw _ (List.mem_of_getElem? (i := 23) rfl))) (ty := .byte) (by decide)
  refine own_up st1 ?_
  show own_Go p.tables e below _ (T1.setTop (mkF m 67 #[.val (.int (3 : Int32)), .val (.int c0), .val (.int c1), .val (.int c2), .val (.int c3), .val (.int c4)] [(.ref b1)]))
  refine own_up (fun _ kq => XS.dup X1.here hx rfl (hb hby d1_67) rfl rfl kq) ?_
  show own_Go p.tables e below _ (T1.setTop (mkF m 68 #[.val (.int (3 : Int32)), .val (.int c0), .val (.int c1), .val (.int c2), .val (.int c3), .val (.int c4)] [(.ref b1), (.ref b1)]))
  refine own_up (fun _ kq => XS.iconst X1.here hx rfl (hb hby d1_68) kq) ?_
  show own_Go p.tables e below _ (T1.setTop (mkF m 69 #[.val (.int (3 : Int32)), .val (.int c0), .val (.int c1), .val (.int c2), .val (.int c3), .val (.int c4)] [(.int (3 : Int32)), (.ref b1), (.ref b1)]))
  obtain ⟨T2, h2, k2, X2, e2, E2, A2, st2⟩ := newP X1 hx hZ (hw _ (List.mem_of_getElem? (i := 9) rfl)) e1 (g := (mkF m 69 #[.val (.int (3 : Int32)), .val (.int c0), .val (.int c1), .val (.int c2), .val (.int c3), .val (.int c4)] [(.int (3 : Int32)), (.ref b1), (.ref b1)])) rfl (hb hby d1_69) rfl (by decide) (cap := 3) (by decide) (by decide) (by decide) (by decide)
  obtain ⟨b2, gz2⟩ : ∃ z, z = h1.size := ⟨_, rfl⟩
  rw [← gz2] at A2 st2
  have ne_b1_b2 : b1 ≠ b2 := Nat.ne_of_lt (Nat.lt_of_lt_of_le E_b1.lt (Nat.le_of_eq gz2.symm))
  have g_b2 : n0 ≤ b2 := Nat.le_trans ZH (Nat.le_of_eq gz2.symm)
  have sz_b2 : h0.size ≤ b2 := Nat.le_trans KK.1 (Nat.le_of_eq gz2.symm)
  have E_b1 := E_b1.ext E2
  have F_value_b1 := F_value_b1.ext E2
  have F_coder_b1 := F_coder_b1.ext E2
  have ZH := Nat.le_trans ZH E2.1
  have KK := KK.ext E2
  have OO := OO.ext E2
  have V_b2 : Arv Z h2 b2 k2 .char (3 : Int32) [(.int (0 : Int32)), (.int (0 : Int32)), (.int (0 : Int32))] (.int (0 : Int32)) := (Arv.new A2 (by decide)).pad (pad_rep [] (.int (0 : Int32)) 3)
  refine own_up st2 ?_
  show own_Go p.tables e below _ (T2.setTop (mkF m 71 #[.val (.int (3 : Int32)), .val (.int c0), .val (.int c1), .val (.int c2), .val (.int c3), .val (.int c4)] [(.ref b2), (.ref b1), (.ref b1)]))
  refine own_up (fun _ kq => XS.dup X2.here hx rfl (hb hby d1_71) rfl rfl kq) ?_
  show own_Go p.tables e below _ (T2.setTop (mkF m 72 #[.val (.int (3 : Int32)), .val (.int c0), .val (.int c1), .val (.int c2), .val (.int c3), .val (.int c4)] [(.ref b2), (.ref b2), (.ref b1), (.ref b1)]))
  refine own_up (fun _ kq => XS.iconst X2.here hx rfl (hb hby d1_72) kq) ?_
  show own_Go p.tables e below _ (T2.setTop (mkF m 73 #[.val (.int (3 : Int32)), .val (.int c0), .val (.int c1), .val (.int c2), .val (.int c3), .val (.int c4)] [(.int (0 : Int32)), (.ref b2), (.ref b2), (.ref b1), (.ref b1)]))
  refine own_up (fun _ kq => XS.iloadN X2.here hx rfl (hb hby d1_73) rfl kq) ?_
  show own_Go p.tables e below _ (T2.setTop (mkF m 74 #[.val (.int (3 : Int32)), .val (.int c0), .val (.int c1), .val (.int c2), .val (.int c3), .val (.int c4)] [(.int c0), (.int (0 : Int32)), (.ref b2), (.ref b2), (.ref b1), (.ref b1)]))
  obtain ⟨cl3, Ar3, q3, sz3, nz3, hH3, hG3⟩ := V_b2
  obtain ⟨T3, h3, X3, e3, W3, st3⟩ := stC X2 hx hZ e2 Ar3 (j := (0 : Int32)) (inb_of sz3 ⟨by decide, by decide⟩) (g := (mkF m 74 #[.val (.int (3 : Int32)), .val (.int c0), .val (.int c1), .val (.int c2), .val (.int c3), .val (.int c4)] [(.int c0), (.int (0 : Int32)), (.ref b2), (.ref b2), (.ref b1), (.ref b1)])) rfl rfl (hb hby d1_74)
  have V_b2 : Arv Z h3 b2 k2 .char (3 : Int32) [(.int (nar .char c0)), (.int (0 : Int32)), (.int (0 : Int32))] (.int (0 : Int32)) := Arv.set Ar3 q3 sz3 nz3 hH3 hG3 (fits_nar_char _) W3 0 rfl (Nat.le_of_ble_eq_true rfl)
  have N3 := Fr.snoc X3 N0 g_b2
  have E_b1 := E_b1.wr W3
  have F_value_b1 := F_value_b1.other W3 (Or.inl ne_b1_b2)
  have F_coder_b1 := F_coder_b1.other W3 (Or.inl ne_b1_b2)
  have ZH := Nat.le_trans ZH (Nat.le_of_eq W3.size.symm)
  have KK := KK.wr W3 (Or.inr sz_b2)
  have OO := OO.wr W3 g_b2
  refine own_up st3 ?_
  show own_Go p.tables e below _ (T3.setTop (mkF m 75 #[.val (.int (3 : Int32)), .val (.int c0), .val (.int c1), .val (.int c2), .val (.int c3), .val (.int c4)] [(.ref b2), (.ref b1), (.ref b1)]))
  refine own_up (fun _ kq => XS.dup X3.here hx rfl (hb hby d1_75) rfl rfl kq) ?_
  show own_Go p.tables e below _ (T3.setTop (mkF m 76 #[.val (.int (3 : Int32)), .val (.int c0), .val (.int c1), .val (.int c2), .val (.int c3), .val (.int c4)] [(.ref b2), (.ref b2), (.ref b1), (.ref b1)]))
  refine own_up (fun _ kq => XS.iconst X3.here hx rfl (hb hby d1_76) kq) ?_
  show own_Go p.tables e below _ (T3.setTop (mkF m 77 #[.val (.int (3 : Int32)), .val (.int c0), .val (.int c1), .val (.int c2), .val (.int c3), .val (.int c4)] [(.int (1 : Int32)), (.ref b2), (.ref b2), (.ref b1), (.ref b1)]))
  refine own_up (fun _ kq => XS.iloadN X3.here hx rfl (hb hby d1_77) rfl kq) ?_
  show own_Go p.tables e below _ (T3.setTop (mkF m 78 #[.val (.int (3 : Int32)), .val (.int c0), .val (.int c1), .val (.int c2), .val (.int c3), .val (.int c4)] [(.int c1), (.int (1 : Int32)), (.ref b2), (.ref b2), (.ref b1), (.ref b1)]))
  obtain ⟨cl4, Ar4, q4, sz4, nz4, hH4, hG4⟩ := V_b2
  obtain ⟨T4, h4, X4, e4, W4, st4⟩ := stC X3 hx hZ e3 Ar4 (j := (1 : Int32)) (inb_of sz4 ⟨by decide, by decide⟩) (g := (mkF m 78 #[.val (.int (3 : Int32)), .val (.int c0), .val (.int c1), .val (.int c2), .val (.int c3), .val (.int c4)] [(.int c1), (.int (1 : Int32)), (.ref b2), (.ref b2), (.ref b1), (.ref b1)])) rfl rfl (hb hby d1_78)
  have V_b2 : Arv Z h4 b2 k2 .char (3 : Int32) [(.int (nar .char c0)), (.int (nar .char c1)), (.int (0 : Int32))] (.int (0 : Int32)) := Arv.set Ar4 q4 sz4 nz4 hH4 hG4 (fits_nar_char _) W4 1 rfl (Nat.le_of_ble_eq_true rfl)
  have N4 := Fr.snoc X4 N3 g_b2
  have E_b1 := E_b1.wr W4
  have F_value_b1 := F_value_b1.other W4 (Or.inl ne_b1_b2)
  have F_coder_b1 := F_coder_b1.other W4 (Or.inl ne_b1_b2)
  have ZH := Nat.le_trans ZH (Nat.le_of_eq W4.size.symm)
  have KK := KK.wr W4 (Or.inr sz_b2)
  have OO := OO.wr W4 g_b2
  refine own_up st4 ?_
  show own_Go p.tables e below _ (T4.setTop (mkF m 79 #[.val (.int (3 : Int32)), .val (.int c0), .val (.int c1), .val (.int c2), .val (.int c3), .val (.int c4)] [(.ref b2), (.ref b1), (.ref b1)]))
  refine own_up (fun _ kq => XS.dup X4.here hx rfl (hb hby d1_79) rfl rfl kq) ?_
  show own_Go p.tables e below _ (T4.setTop (mkF m 80 #[.val (.int (3 : Int32)), .val (.int c0), .val (.int c1), .val (.int c2), .val (.int c3), .val (.int c4)] [(.ref b2), (.ref b2), (.ref b1), (.ref b1)]))
  refine own_up (fun _ kq => XS.iconst X4.here hx rfl (hb hby d1_80) kq) ?_
  show own_Go p.tables e below _ (T4.setTop (mkF m 81 #[.val (.int (3 : Int32)), .val (.int c0), .val (.int c1), .val (.int c2), .val (.int c3), .val (.int c4)] [(.int (2 : Int32)), (.ref b2), (.ref b2), (.ref b1), (.ref b1)]))
  refine own_up (fun _ kq => XS.iloadN X4.here hx rfl (hb hby d1_81) rfl kq) ?_
  show own_Go p.tables e below _ (T4.setTop (mkF m 82 #[.val (.int (3 : Int32)), .val (.int c0), .val (.int c1), .val (.int c2), .val (.int c3), .val (.int c4)] [(.int c2), (.int (2 : Int32)), (.ref b2), (.ref b2), (.ref b1), (.ref b1)]))
  obtain ⟨cl5, Ar5, q5, sz5, nz5, hH5, hG5⟩ := V_b2
  obtain ⟨T5, h5, X5, e5, W5, st5⟩ := stC X4 hx hZ e4 Ar5 (j := (2 : Int32)) (inb_of sz5 ⟨by decide, by decide⟩) (g := (mkF m 82 #[.val (.int (3 : Int32)), .val (.int c0), .val (.int c1), .val (.int c2), .val (.int c3), .val (.int c4)] [(.int c2), (.int (2 : Int32)), (.ref b2), (.ref b2), (.ref b1), (.ref b1)])) rfl rfl (hb hby d1_82)
  have V_b2 : Arv Z h5 b2 k2 .char (3 : Int32) [(.int (nar .char c0)), (.int (nar .char c1)), (.int (nar .char c2))] (.int (0 : Int32)) := Arv.set Ar5 q5 sz5 nz5 hH5 hG5 (fits_nar_char _) W5 2 rfl (Nat.le_of_ble_eq_true rfl)
  have N5 := Fr.snoc X5 N4 g_b2
  have E_b1 := E_b1.wr W5
  have F_value_b1 := F_value_b1.other W5 (Or.inl ne_b1_b2)
  have F_coder_b1 := F_coder_b1.other W5 (Or.inl ne_b1_b2)
  have ZH := Nat.le_trans ZH (Nat.le_of_eq W5.size.symm)
  have KK := KK.wr W5 (Or.inr sz_b2)
  have OO := OO.wr W5 g_b2
  refine own_up st5 ?_
  show own_Go p.tables e below _ (T5.setTop (mkF m 83 #[.val (.int (3 : Int32)), .val (.int c0), .val (.int c1), .val (.int c2), .val (.int c3), .val (.int c4)] [(.ref b2), (.ref b1), (.ref b1)]))
  rw [own_narc hl0 hu0, own_narc hl1 hu1, own_narc hl2 hu2] at V_b2
  have GC : own_Arf Z h5 b2 .char (3 : Int32) (fun i => .int ((own_cs [c0, c1, c2]) i)) := (own_Arf.ofArv V_b2).congr (fun i _ => own_Iget [c0, c1, c2] i)
  obtain ⟨_, _, ⟨T6, L6, k6, n6⟩, -, X6, ⟨Lc6, hQ6, l6, y6, z6⟩, st6⟩ := X5.specialBack hx (y := (⟨"java/lang/String", "<init>", "([C)V"⟩ : MethodName)) rfl hown (mvT hZ (hw _ (List.mem_of_getElem? (i := 10) rfl))) (mvT hZ (hw _ (List.mem_of_getElem? (i := 11) rfl))) (mvT hZ (hw _ (List.mem_of_getElem? (i := 12) rfl))) (by decide) (backOf (W := 1) (rmI1 l Z a0 hw [] cz fv b1 b2 (3 : Int32) (6 : Int32) (own_cs [c0, c1, c2]) h5 n0 ZH OO HW0 E_b1 F_value_b1 F_coder_b1 g_b1 GC (own_chL [c0, c1, c2] (List.forall_mem_cons.mpr ⟨⟨hl0, hu0⟩, (List.forall_mem_cons.mpr ⟨⟨hl1, hu1⟩, (List.forall_mem_cons.mpr ⟨⟨hl2, hu2⟩, (fun _ h => nomatch h)⟩)⟩)⟩)) (by unfold own_sm; decide) (by decide) (by decide)) hZ (hw _ (List.mem_of_getElem? (i := 12) rfl)) (hw _ (List.mem_of_getElem? (i := 8) rfl)) (by decide) (by decide)) (g := (mkF m 83 #[.val (.int (3 : Int32)), .val (.int c0), .val (.int c1), .val (.int c2), .val (.int c3), .val (.int c4)] [(.ref b2), (.ref b1), (.ref b1)])) rfl (by rw [hml]; rfl) (Steps.refl _) (a := b1) (argsL := [(.ref b2)]) (rest := [(.ref b1)]) (lenOf pd_17 rfl) rfl (by show 2 * 0 + _ ≤ _; exact Nat.le_of_eq rfl) (hb hby d1_83) (fun _ _ => ⟨rfl, e5, (by decide : 2 + 2 ≤ _), (by decide : 7 + 15 ≤ _)⟩)
  dsimp only [Pt.U, Pt.locs, Pt.cells, Pt.slots] at X6 l6 y6 z6 st6 hQ6
  subst l6 y6 z6
  obtain ⟨rfl, Nq6, K6, tb, F_sx, hSX⟩ := hQ6
  have N6 := Fr.app N5 Nq6
  have E_b1 := E_b1.keep K6
  have V_b2 := V_b2.keep K6 (ninS (Ne.symm ne_b1_b2) nin0)
  have ZH := Nat.le_trans ZH K6.1
  have KK := KK.trans K6 (allS (Or.inr sz_b1) all0)
  have OO := OO.keep K6 (allS g_b1 all0)
  refine own_up (fun _ kq => st6.trans kq) ?_
  show own_Go p.tables e below _ (T6.setTop (mkF m 86 #[.val (.int (3 : Int32)), .val (.int c0), .val (.int c1), .val (.int c2), .val (.int c3), .val (.int c4)] [(.ref b1)]))
  obtain ⟨fs7, hr7, hrun7, hended7, hW7, hsame7⟩ := X6.leave (v := some (.ref b1)) (fun h => by rw [Bd.returns] at h; cases h)
  refine own_end ⟨_, _, ?_, hrun7, hended7, _, _, rfl, ?_, ⟨_, rfl⟩, hW7, hsame7.mono (by decide) (by decide)⟩
  · exact retOut X6 hx Bd.returns rfl (Or.inr (Or.inr (Or.inr (Or.inr ⟨rfl, rfl, rfl⟩)))) (hb hby d1_86) hr7
  · show QrmT3 Z cz fv c0 c1 c2 c3 c4 h0 n0 _ T6.heap _
    skip
    exact ⟨b1, sz_b1, rfl, N6, KK, E_b1, tb, F_sx, hSX⟩
theorem d1_87 : decode method_4_code 87 = .ok (.iload_n 0, 1) := by decide +kernel
theorem d1_88 : decode method_4_code 88 = .ok (.iconst 4, 1) := by decide +kernel
theorem d1_89 : decode method_4_code 89 = .ok (.if_icmp .ne 31, 3) := by decide +kernel
theorem d1_92 : decode method_4_code 92 = .ok (.new 25, 3) := by decide +kernel
theorem d1_95 : decode method_4_code 95 = .ok (.dup, 1) := by decide +kernel
theorem d1_96 : decode method_4_code 96 = .ok (.iconst 4, 1) := by decide +kernel
theorem d1_97 : decode method_4_code 97 = .ok (.newarray .char, 2) := by decide +kernel
theorem d1_99 : decode method_4_code 99 = .ok (.dup, 1) := by decide +kernel
theorem d1_100 : decode method_4_code 100 = .ok (.iconst 0, 1) := by decide +kernel
theorem d1_101 : decode method_4_code 101 = .ok (.iload_n 1, 1) := by decide +kernel
theorem d1_102 : decode method_4_code 102 = .ok (.castore, 1) := by decide +kernel
theorem d1_103 : decode method_4_code 103 = .ok (.dup, 1) := by decide +kernel
theorem d1_104 : decode method_4_code 104 = .ok (.iconst 1, 1) := by decide +kernel
theorem d1_105 : decode method_4_code 105 = .ok (.iload_n 2, 1) := by decide +kernel
theorem d1_106 : decode method_4_code 106 = .ok (.castore, 1) := by decide +kernel
theorem d1_107 : decode method_4_code 107 = .ok (.dup, 1) := by decide +kernel
theorem d1_108 : decode method_4_code 108 = .ok (.iconst 2, 1) := by decide +kernel
theorem d1_109 : decode method_4_code 109 = .ok (.iload_n 3, 1) := by decide +kernel
theorem d1_110 : decode method_4_code 110 = .ok (.castore, 1) := by decide +kernel
theorem d1_111 : decode method_4_code 111 = .ok (.dup, 1) := by decide +kernel
theorem d1_112 : decode method_4_code 112 = .ok (.iconst 3, 1) := by decide +kernel
theorem d1_113 : decode method_4_code 113 = .ok (.iload 4, 2) := by decide +kernel
theorem d1_115 : decode method_4_code 115 = .ok (.castore, 1) := by decide +kernel
theorem d1_116 : decode method_4_code 116 = .ok (.invokespecial 27, 3) := by decide +kernel
theorem d1_119 : decode method_4_code 119 = .ok (.areturn, 1) := by decide +kernel
theorem ef_rmT4 (m : MethodId) (x0 : Int32) (x1 : Int32) (x2 : Int32) (x3 : Int32) (x4 : Int32) (x5 : Int32) : entryFrame m #[(.int x0), (.int x1), (.int x2), (.int x3), (.int x4), (.int x5)] 6 = mkF m 0 #[.val (.int x0), .val (.int x1), .val (.int x2), .val (.int x3), .val (.int x4), .val (.int x5)] [] := by first | (simp [entryFrame, mkF, argsToLocals, Value.category]; done) | rfl
def QrmT4 (Z : State) (cz : Int32) (fv : Value) (c0 : Int32) (c1 : Int32) (c2 : Int32) (c3 : Int32) (c4 : Int32) (h0 : Heap) (n0 : Nat) (v : Option Value) (h : Heap) (L : List Loc) : Prop := ∃ sx : Addr, h0.size ≤ sx ∧ v = some (.ref sx) ∧ Fr n0 L ∧ Keep h0 h [] ∧ Exa Z h sx "java/lang/String" ∧ ∃ tb : Addr, Fld Z h sx "java/lang/String" "value" "[B" (.ref tb) ∧ own_SX Z h sx tb (4 : Int32) (8 : Int32) (own_cs [c0, c1, c2, c3])
set_option maxRecDepth 65536 in
set_option maxHeartbeats 40000000 in
theorem rmT4 (l : Launch) (Z : State) (a0 : Array Value) (hw : ∀ d ∈ tables_1, d.before a0 Z = true) (ws : List Jvm.Cond) (cz : Int32) (fv : Value) (c0 : Int32) (c1 : Int32) (c2 : Int32) (c3 : Int32) (c4 : Int32) (h0 : Heap) (n0 : Nat) (Z0 : n0 ≤ h0.size) (OO : Old Z n0 h0) (HW : own_W Z cz fv) (hl0 : ¬ c0 < 0) (hl1 : ¬ c1 < 0) (hl2 : ¬ c2 < 0) (hl3 : ¬ c3 < 0) (hu0 : ¬ (65535 : Int32) < c0) (hu1 : ¬ (65535 : Int32) < c1) (hu2 : ¬ (65535 : Int32) < c2) (hu3 : ¬ (65535 : Int32) < c3) :
    MetFree l (⟨"com/example/checkoff_codex/checkoffcodex/io/ValueTextDigitsPinLaw", "text", "(ICCCCC)Ljava/lang/String;"⟩ : MethodName) (head1 (Jvm.Cond.code (⟨"com/example/checkoff_codex/checkoffcodex/io/ValueTextDigitsPinLaw", "text", "(ICCCCC)Ljava/lang/String;"⟩ : MethodName) method_4_code 6 (some (.object "java/lang/String")) :: ws) ({ frames := 6, cells := 4, slots := 23, locals := 102 } : Room)) (fun aq Uq => aq = #[(.int (4 : Int32)), (.int c0), (.int c1), (.int c2), (.int c3), (.int c4)] ∧ Z.Warmed39 Uq.vm ∧ Uq.heap = h0) (fun _ _ _ _ _ => True) (fun _ Uq oq Uq' => ∃ vq Lq, oq = .returned vq ∧ QrmT4 Z cz fv c0 c1 c2 c3 c4 h0 n0 vq Uq'.heap Lq ∧ FrameEnd Uq oq Uq' Lq ({ frames := 6, cells := 4, slots := 23, locals := 102 } : Room).cells ({ frames := 6, cells := 4, slots := 23, locals := 102 } : Room).slots) := by
  refine MetFree.of_bodySF (plainFor_of_name pn_1) hisR ?_
  intro p e s m args below meth c s₁ Bd hml0 hP hK
  obtain ⟨rfl, hZ, hh⟩ := hP
  have hx := Bd.exec
  have hby := Bd.bytes
  have hml : c.maxLocals = 6 := hml0
  have hown : s.vm.findClass "com/example/checkoff_codex/checkoffcodex/io/ValueTextDigitsPinLaw" = some m.cls := findClass_of_methodNamed Bd.named
  have hnm := (name_of_methodNamed Bd.named Bd.method).1
  have X0 : Stand p l e ({ frames := 6, cells := 4, slots := 23, locals := 102 } : Room) s m #[(.int (4 : Int32)), (.int c0), (.int c1), (.int c2), (.int c3), (.int c4)] below meth c s₁ [] 0 0 := Stand.of_body Bd
  have e0 : s₁.heap = h0 := by rw [← hh, Bd.state]; rfl
  have N0 := Fr.nil n0
  have ZH := Z0
  have KK := Keep.refl h0 []
  refine own_start (fun t kq => castTop (ef_rmT4 m (4 : Int32) c0 c1 c2 c3 c4) kq) ?_
  show own_Go p.tables e below _ (s₁.setTop (mkF m 0 #[.val (.int (4 : Int32)), .val (.int c0), .val (.int c1), .val (.int c2), .val (.int c3), .val (.int c4)] []))
  have HW0 := HW
  obtain ⟨SC, hcz, SF, hfv, SA, SH, SL⟩ := HW
  refine own_up (fun _ kq => XS.iloadN X0.here hx rfl (hb hby d1_0) rfl kq) ?_
  show own_Go p.tables e below _ (s₁.setTop (mkF m 1 #[.val (.int (4 : Int32)), .val (.int c0), .val (.int c1), .val (.int c2), .val (.int c3), .val (.int c4)] [(.int (4 : Int32))]))
  refine own_up (fun _ kq => XS.ifYes X0.here hx rfl (pc0 := 1) (pc' := 15) rfl (hb hby d1_1) rfl ((if0 _ _).trans (feq (by decide : ¬ ((4 : Int32) = (0 : Int32)))).2) (by decide) (by decide) kq) ?_
  show own_Go p.tables e below _ (s₁.setTop (mkF m 15 #[.val (.int (4 : Int32)), .val (.int c0), .val (.int c1), .val (.int c2), .val (.int c3), .val (.int c4)] []))
  refine own_up (fun _ kq => XS.iloadN X0.here hx rfl (hb hby d1_15) rfl kq) ?_
  show own_Go p.tables e below _ (s₁.setTop (mkF m 16 #[.val (.int (4 : Int32)), .val (.int c0), .val (.int c1), .val (.int c2), .val (.int c3), .val (.int c4)] [(.int (4 : Int32))]))
  refine own_up (fun _ kq => XS.iconst X0.here hx rfl (hb hby d1_16) kq) ?_
  show own_Go p.tables e below _ (s₁.setTop (mkF m 17 #[.val (.int (4 : Int32)), .val (.int c0), .val (.int c1), .val (.int c2), .val (.int c3), .val (.int c4)] [(.int (1 : Int32)), (.int (4 : Int32))]))
  refine own_up (fun _ kq => XS.icmpYes X0.here hx rfl (pc0 := 17) (pc' := 35) rfl (hb hby d1_17) rfl (feq (by decide : ¬ ((4 : Int32) = (1 : Int32)))).2 (by decide) (by decide) kq) ?_
  show own_Go p.tables e below _ (s₁.setTop (mkF m 35 #[.val (.int (4 : Int32)), .val (.int c0), .val (.int c1), .val (.int c2), .val (.int c3), .val (.int c4)] []))
  refine own_up (fun _ kq => XS.iloadN X0.here hx rfl (hb hby d1_35) rfl kq) ?_
  show own_Go p.tables e below _ (s₁.setTop (mkF m 36 #[.val (.int (4 : Int32)), .val (.int c0), .val (.int c1), .val (.int c2), .val (.int c3), .val (.int c4)] [(.int (4 : Int32))]))
  refine own_up (fun _ kq => XS.iconst X0.here hx rfl (hb hby d1_36) kq) ?_
  show own_Go p.tables e below _ (s₁.setTop (mkF m 37 #[.val (.int (4 : Int32)), .val (.int c0), .val (.int c1), .val (.int c2), .val (.int c3), .val (.int c4)] [(.int (2 : Int32)), (.int (4 : Int32))]))
  refine own_up (fun _ kq => XS.icmpYes X0.here hx rfl (pc0 := 37) (pc' := 59) rfl (hb hby d1_37) rfl (feq (by decide : ¬ ((4 : Int32) = (2 : Int32)))).2 (by decide) (by decide) kq) ?_
  show own_Go p.tables e below _ (s₁.setTop (mkF m 59 #[.val (.int (4 : Int32)), .val (.int c0), .val (.int c1), .val (.int c2), .val (.int c3), .val (.int c4)] []))
  refine own_up (fun _ kq => XS.iloadN X0.here hx rfl (hb hby d1_59) rfl kq) ?_
  show own_Go p.tables e below _ (s₁.setTop (mkF m 60 #[.val (.int (4 : Int32)), .val (.int c0), .val (.int c1), .val (.int c2), .val (.int c3), .val (.int c4)] [(.int (4 : Int32))]))
  refine own_up (fun _ kq => XS.iconst X0.here hx rfl (hb hby d1_60) kq) ?_
  show own_Go p.tables e below _ (s₁.setTop (mkF m 61 #[.val (.int (4 : Int32)), .val (.int c0), .val (.int c1), .val (.int c2), .val (.int c3), .val (.int c4)] [(.int (3 : Int32)), (.int (4 : Int32))]))
  refine own_up (fun _ kq => XS.icmpYes X0.here hx rfl (pc0 := 61) (pc' := 87) rfl (hb hby d1_61) rfl (feq (by decide : ¬ ((4 : Int32) = (3 : Int32)))).2 (by decide) (by decide) kq) ?_
  show own_Go p.tables e below _ (s₁.setTop (mkF m 87 #[.val (.int (4 : Int32)), .val (.int c0), .val (.int c1), .val (.int c2), .val (.int c3), .val (.int c4)] []))
  refine own_up (fun _ kq => XS.iloadN X0.here hx rfl (hb hby d1_87) rfl kq) ?_
  show own_Go p.tables e below _ (s₁.setTop (mkF m 88 #[.val (.int (4 : Int32)), .val (.int c0), .val (.int c1), .val (.int c2), .val (.int c3), .val (.int c4)] [(.int (4 : Int32))]))
  refine own_up (fun _ kq => XS.iconst X0.here hx rfl (hb hby d1_88) kq) ?_
  show own_Go p.tables e below _ (s₁.setTop (mkF m 89 #[.val (.int (4 : Int32)), .val (.int c0), .val (.int c1), .val (.int c2), .val (.int c3), .val (.int c4)] [(.int (4 : Int32)), (.int (4 : Int32))]))
  refine own_up (fun _ kq => XS.icmpNo X0.here hx rfl (hb hby d1_89) rfl (teq (by decide : (4 : Int32) = (4 : Int32))).2 kq) ?_
  show own_Go p.tables e below _ (s₁.setTop (mkF m 92 #[.val (.int (4 : Int32)), .val (.int c0), .val (.int c1), .val (.int c2), .val (.int c3), .val (.int c4)] []))
  obtain ⟨T1, h1, X1, e1, E1, A1, D1, -, st1⟩ := newO X0 hx hZ hown (hw _ (List.mem_of_getElem? (i := 6) rfl)) (hw _ (List.mem_of_getElem? (i := 7) rfl)) (hw _ (List.mem_of_getElem? (i := 8) rfl)) e0 (g := (mkF m 92 #[.val (.int (4 : Int32)), .val (.int c0), .val (.int c1), .val (.int c2), .val (.int c3), .val (.int c4)] [])) rfl (hb hby d1_92) (by decide) (by decide)
  obtain ⟨b1, gz1⟩ : ∃ z, z = h0.size := ⟨_, rfl⟩
  rw [← gz1] at A1 D1 st1
  have g_b1 : n0 ≤ b1 := Nat.le_trans ZH (Nat.le_of_eq gz1.symm)
  have sz_b1 : h0.size ≤ b1 := Nat.le_trans KK.1 (Nat.le_of_eq gz1.symm)
  have ZH := Nat.le_trans ZH E1.1
  have KK := KK.ext E1
  have OO := OO.ext E1
  have E_b1 := A1
  have F_value_b1 : Fld Z h1 b1 "java/lang/String" "value" "[B" .null := D1 (Or.inr (hw _ (List.mem_of_getElem? (i := 22) rfl))) (ty := (.array .byte)) (by decide)
  have F_coder_b1 : Fld Z h1 b1 "java/lang/String" "coder" "B" (.int (0 : Int32)) := D1 (Or.inr (hw _ (List.mem_of_getElem? (i := 23) rfl))) (ty := .byte) (by decide)
  refine own_up st1 ?_
  show own_Go p.tables e below _ (T1.setTop (mkF m 95 #[.val (.int (4 : Int32)), .val (.int c0), .val (.int c1), .val (.int c2), .val (.int c3), .val (.int c4)] [(.ref b1)]))
  refine own_up (fun _ kq => XS.dup X1.here hx rfl (hb hby d1_95) rfl rfl kq) ?_
  show own_Go p.tables e below _ (T1.setTop (mkF m 96 #[.val (.int (4 : Int32)), .val (.int c0), .val (.int c1), .val (.int c2), .val (.int c3), .val (.int c4)] [(.ref b1), (.ref b1)]))
  refine own_up (fun _ kq => XS.iconst X1.here hx rfl (hb hby d1_96) kq) ?_
  show own_Go p.tables e below _ (T1.setTop (mkF m 97 #[.val (.int (4 : Int32)), .val (.int c0), .val (.int c1), .val (.int c2), .val (.int c3), .val (.int c4)] [(.int (4 : Int32)), (.ref b1), (.ref b1)]))
  obtain ⟨T2, h2, k2, X2, e2, E2, A2, st2⟩ := newP X1 hx hZ (hw _ (List.mem_of_getElem? (i := 9) rfl)) e1 (g := (mkF m 97 #[.val (.int (4 : Int32)), .val (.int c0), .val (.int c1), .val (.int c2), .val (.int c3), .val (.int c4)] [(.int (4 : Int32)), (.ref b1), (.ref b1)])) rfl (hb hby d1_97) rfl (by decide) (cap := 4) (by decide) (by decide) (by decide) (by decide)
  obtain ⟨b2, gz2⟩ : ∃ z, z = h1.size := ⟨_, rfl⟩
  rw [← gz2] at A2 st2
  have ne_b1_b2 : b1 ≠ b2 := Nat.ne_of_lt (Nat.lt_of_lt_of_le E_b1.lt (Nat.le_of_eq gz2.symm))
  have g_b2 : n0 ≤ b2 := Nat.le_trans ZH (Nat.le_of_eq gz2.symm)
  have sz_b2 : h0.size ≤ b2 := Nat.le_trans KK.1 (Nat.le_of_eq gz2.symm)
  have E_b1 := E_b1.ext E2
  have F_value_b1 := F_value_b1.ext E2
  have F_coder_b1 := F_coder_b1.ext E2
  have ZH := Nat.le_trans ZH E2.1
  have KK := KK.ext E2
  have OO := OO.ext E2
  have V_b2 : Arv Z h2 b2 k2 .char (4 : Int32) [(.int (0 : Int32)), (.int (0 : Int32)), (.int (0 : Int32)), (.int (0 : Int32))] (.int (0 : Int32)) := (Arv.new A2 (by decide)).pad (pad_rep [] (.int (0 : Int32)) 4)
  refine own_up st2 ?_
  show own_Go p.tables e below _ (T2.setTop (mkF m 99 #[.val (.int (4 : Int32)), .val (.int c0), .val (.int c1), .val (.int c2), .val (.int c3), .val (.int c4)] [(.ref b2), (.ref b1), (.ref b1)]))
  refine own_up (fun _ kq => XS.dup X2.here hx rfl (hb hby d1_99) rfl rfl kq) ?_
  show own_Go p.tables e below _ (T2.setTop (mkF m 100 #[.val (.int (4 : Int32)), .val (.int c0), .val (.int c1), .val (.int c2), .val (.int c3), .val (.int c4)] [(.ref b2), (.ref b2), (.ref b1), (.ref b1)]))
  refine own_up (fun _ kq => XS.iconst X2.here hx rfl (hb hby d1_100) kq) ?_
  show own_Go p.tables e below _ (T2.setTop (mkF m 101 #[.val (.int (4 : Int32)), .val (.int c0), .val (.int c1), .val (.int c2), .val (.int c3), .val (.int c4)] [(.int (0 : Int32)), (.ref b2), (.ref b2), (.ref b1), (.ref b1)]))
  refine own_up (fun _ kq => XS.iloadN X2.here hx rfl (hb hby d1_101) rfl kq) ?_
  show own_Go p.tables e below _ (T2.setTop (mkF m 102 #[.val (.int (4 : Int32)), .val (.int c0), .val (.int c1), .val (.int c2), .val (.int c3), .val (.int c4)] [(.int c0), (.int (0 : Int32)), (.ref b2), (.ref b2), (.ref b1), (.ref b1)]))
  obtain ⟨cl3, Ar3, q3, sz3, nz3, hH3, hG3⟩ := V_b2
  obtain ⟨T3, h3, X3, e3, W3, st3⟩ := stC X2 hx hZ e2 Ar3 (j := (0 : Int32)) (inb_of sz3 ⟨by decide, by decide⟩) (g := (mkF m 102 #[.val (.int (4 : Int32)), .val (.int c0), .val (.int c1), .val (.int c2), .val (.int c3), .val (.int c4)] [(.int c0), (.int (0 : Int32)), (.ref b2), (.ref b2), (.ref b1), (.ref b1)])) rfl rfl (hb hby d1_102)
  have V_b2 : Arv Z h3 b2 k2 .char (4 : Int32) [(.int (nar .char c0)), (.int (0 : Int32)), (.int (0 : Int32)), (.int (0 : Int32))] (.int (0 : Int32)) := Arv.set Ar3 q3 sz3 nz3 hH3 hG3 (fits_nar_char _) W3 0 rfl (Nat.le_of_ble_eq_true rfl)
  have N3 := Fr.snoc X3 N0 g_b2
  have E_b1 := E_b1.wr W3
  have F_value_b1 := F_value_b1.other W3 (Or.inl ne_b1_b2)
  have F_coder_b1 := F_coder_b1.other W3 (Or.inl ne_b1_b2)
  have ZH := Nat.le_trans ZH (Nat.le_of_eq W3.size.symm)
  have KK := KK.wr W3 (Or.inr sz_b2)
  have OO := OO.wr W3 g_b2
  refine own_up st3 ?_
  show own_Go p.tables e below _ (T3.setTop (mkF m 103 #[.val (.int (4 : Int32)), .val (.int c0), .val (.int c1), .val (.int c2), .val (.int c3), .val (.int c4)] [(.ref b2), (.ref b1), (.ref b1)]))
  refine own_up (fun _ kq => XS.dup X3.here hx rfl (hb hby d1_103) rfl rfl kq) ?_
  show own_Go p.tables e below _ (T3.setTop (mkF m 104 #[.val (.int (4 : Int32)), .val (.int c0), .val (.int c1), .val (.int c2), .val (.int c3), .val (.int c4)] [(.ref b2), (.ref b2), (.ref b1), (.ref b1)]))
  refine own_up (fun _ kq => XS.iconst X3.here hx rfl (hb hby d1_104) kq) ?_
  show own_Go p.tables e below _ (T3.setTop (mkF m 105 #[.val (.int (4 : Int32)), .val (.int c0), .val (.int c1), .val (.int c2), .val (.int c3), .val (.int c4)] [(.int (1 : Int32)), (.ref b2), (.ref b2), (.ref b1), (.ref b1)]))
  refine own_up (fun _ kq => XS.iloadN X3.here hx rfl (hb hby d1_105) rfl kq) ?_
  show own_Go p.tables e below _ (T3.setTop (mkF m 106 #[.val (.int (4 : Int32)), .val (.int c0), .val (.int c1), .val (.int c2), .val (.int c3), .val (.int c4)] [(.int c1), (.int (1 : Int32)), (.ref b2), (.ref b2), (.ref b1), (.ref b1)]))
  obtain ⟨cl4, Ar4, q4, sz4, nz4, hH4, hG4⟩ := V_b2
  obtain ⟨T4, h4, X4, e4, W4, st4⟩ := stC X3 hx hZ e3 Ar4 (j := (1 : Int32)) (inb_of sz4 ⟨by decide, by decide⟩) (g := (mkF m 106 #[.val (.int (4 : Int32)), .val (.int c0), .val (.int c1), .val (.int c2), .val (.int c3), .val (.int c4)] [(.int c1), (.int (1 : Int32)), (.ref b2), (.ref b2), (.ref b1), (.ref b1)])) rfl rfl (hb hby d1_106)
  have V_b2 : Arv Z h4 b2 k2 .char (4 : Int32) [(.int (nar .char c0)), (.int (nar .char c1)), (.int (0 : Int32)), (.int (0 : Int32))] (.int (0 : Int32)) := Arv.set Ar4 q4 sz4 nz4 hH4 hG4 (fits_nar_char _) W4 1 rfl (Nat.le_of_ble_eq_true rfl)
  have N4 := Fr.snoc X4 N3 g_b2
  have E_b1 := E_b1.wr W4
  have F_value_b1 := F_value_b1.other W4 (Or.inl ne_b1_b2)
  have F_coder_b1 := F_coder_b1.other W4 (Or.inl ne_b1_b2)
  have ZH := Nat.le_trans ZH (Nat.le_of_eq W4.size.symm)
  have KK := KK.wr W4 (Or.inr sz_b2)
  have OO := OO.wr W4 g_b2
  refine own_up st4 ?_
  show own_Go p.tables e below _ (T4.setTop (mkF m 107 #[.val (.int (4 : Int32)), .val (.int c0), .val (.int c1), .val (.int c2), .val (.int c3), .val (.int c4)] [(.ref b2), (.ref b1), (.ref b1)]))
  refine own_up (fun _ kq => XS.dup X4.here hx rfl (hb hby d1_107) rfl rfl kq) ?_
  show own_Go p.tables e below _ (T4.setTop (mkF m 108 #[.val (.int (4 : Int32)), .val (.int c0), .val (.int c1), .val (.int c2), .val (.int c3), .val (.int c4)] [(.ref b2), (.ref b2), (.ref b1), (.ref b1)]))
  refine own_up (fun _ kq => XS.iconst X4.here hx rfl (hb hby d1_108) kq) ?_
  show own_Go p.tables e below _ (T4.setTop (mkF m 109 #[.val (.int (4 : Int32)), .val (.int c0), .val (.int c1), .val (.int c2), .val (.int c3), .val (.int c4)] [(.int (2 : Int32)), (.ref b2), (.ref b2), (.ref b1), (.ref b1)]))
  refine own_up (fun _ kq => XS.iloadN X4.here hx rfl (hb hby d1_109) rfl kq) ?_
  show own_Go p.tables e below _ (T4.setTop (mkF m 110 #[.val (.int (4 : Int32)), .val (.int c0), .val (.int c1), .val (.int c2), .val (.int c3), .val (.int c4)] [(.int c2), (.int (2 : Int32)), (.ref b2), (.ref b2), (.ref b1), (.ref b1)]))
  obtain ⟨cl5, Ar5, q5, sz5, nz5, hH5, hG5⟩ := V_b2
  obtain ⟨T5, h5, X5, e5, W5, st5⟩ := stC X4 hx hZ e4 Ar5 (j := (2 : Int32)) (inb_of sz5 ⟨by decide, by decide⟩) (g := (mkF m 110 #[.val (.int (4 : Int32)), .val (.int c0), .val (.int c1), .val (.int c2), .val (.int c3), .val (.int c4)] [(.int c2), (.int (2 : Int32)), (.ref b2), (.ref b2), (.ref b1), (.ref b1)])) rfl rfl (hb hby d1_110)
  have V_b2 : Arv Z h5 b2 k2 .char (4 : Int32) [(.int (nar .char c0)), (.int (nar .char c1)), (.int (nar .char c2)), (.int (0 : Int32))] (.int (0 : Int32)) := Arv.set Ar5 q5 sz5 nz5 hH5 hG5 (fits_nar_char _) W5 2 rfl (Nat.le_of_ble_eq_true rfl)
  have N5 := Fr.snoc X5 N4 g_b2
  have E_b1 := E_b1.wr W5
  have F_value_b1 := F_value_b1.other W5 (Or.inl ne_b1_b2)
  have F_coder_b1 := F_coder_b1.other W5 (Or.inl ne_b1_b2)
  have ZH := Nat.le_trans ZH (Nat.le_of_eq W5.size.symm)
  have KK := KK.wr W5 (Or.inr sz_b2)
  have OO := OO.wr W5 g_b2
  refine own_up st5 ?_
  show own_Go p.tables e below _ (T5.setTop (mkF m 111 #[.val (.int (4 : Int32)), .val (.int c0), .val (.int c1), .val (.int c2), .val (.int c3), .val (.int c4)] [(.ref b2), (.ref b1), (.ref b1)]))
  refine own_up (fun _ kq => XS.dup X5.here hx rfl (hb hby d1_111) rfl rfl kq) ?_
  show own_Go p.tables e below _ (T5.setTop (mkF m 112 #[.val (.int (4 : Int32)), .val (.int c0), .val (.int c1), .val (.int c2), .val (.int c3), .val (.int c4)] [(.ref b2), (.ref b2), (.ref b1), (.ref b1)]))
  refine own_up (fun _ kq => XS.iconst X5.here hx rfl (hb hby d1_112) kq) ?_
  show own_Go p.tables e below _ (T5.setTop (mkF m 113 #[.val (.int (4 : Int32)), .val (.int c0), .val (.int c1), .val (.int c2), .val (.int c3), .val (.int c4)] [(.int (3 : Int32)), (.ref b2), (.ref b2), (.ref b1), (.ref b1)]))
  refine own_up (fun _ kq => XS.iload X5.here hx rfl (hb hby d1_113) rfl kq) ?_
  show own_Go p.tables e below _ (T5.setTop (mkF m 115 #[.val (.int (4 : Int32)), .val (.int c0), .val (.int c1), .val (.int c2), .val (.int c3), .val (.int c4)] [(.int c3), (.int (3 : Int32)), (.ref b2), (.ref b2), (.ref b1), (.ref b1)]))
  obtain ⟨cl6, Ar6, q6, sz6, nz6, hH6, hG6⟩ := V_b2
  obtain ⟨T6, h6, X6, e6, W6, st6⟩ := stC X5 hx hZ e5 Ar6 (j := (3 : Int32)) (inb_of sz6 ⟨by decide, by decide⟩) (g := (mkF m 115 #[.val (.int (4 : Int32)), .val (.int c0), .val (.int c1), .val (.int c2), .val (.int c3), .val (.int c4)] [(.int c3), (.int (3 : Int32)), (.ref b2), (.ref b2), (.ref b1), (.ref b1)])) rfl rfl (hb hby d1_115)
  have V_b2 : Arv Z h6 b2 k2 .char (4 : Int32) [(.int (nar .char c0)), (.int (nar .char c1)), (.int (nar .char c2)), (.int (nar .char c3))] (.int (0 : Int32)) := Arv.set Ar6 q6 sz6 nz6 hH6 hG6 (fits_nar_char _) W6 3 rfl (Nat.le_of_ble_eq_true rfl)
  have N6 := Fr.snoc X6 N5 g_b2
  have E_b1 := E_b1.wr W6
  have F_value_b1 := F_value_b1.other W6 (Or.inl ne_b1_b2)
  have F_coder_b1 := F_coder_b1.other W6 (Or.inl ne_b1_b2)
  have ZH := Nat.le_trans ZH (Nat.le_of_eq W6.size.symm)
  have KK := KK.wr W6 (Or.inr sz_b2)
  have OO := OO.wr W6 g_b2
  refine own_up st6 ?_
  show own_Go p.tables e below _ (T6.setTop (mkF m 116 #[.val (.int (4 : Int32)), .val (.int c0), .val (.int c1), .val (.int c2), .val (.int c3), .val (.int c4)] [(.ref b2), (.ref b1), (.ref b1)]))
  rw [own_narc hl0 hu0, own_narc hl1 hu1, own_narc hl2 hu2, own_narc hl3 hu3] at V_b2
  have GC : own_Arf Z h6 b2 .char (4 : Int32) (fun i => .int ((own_cs [c0, c1, c2, c3]) i)) := (own_Arf.ofArv V_b2).congr (fun i _ => own_Iget [c0, c1, c2, c3] i)
  obtain ⟨_, _, ⟨T7, L7, k7, n7⟩, -, X7, ⟨Lc7, hQ7, l7, y7, z7⟩, st7⟩ := X6.specialBack hx (y := (⟨"java/lang/String", "<init>", "([C)V"⟩ : MethodName)) rfl hown (mvT hZ (hw _ (List.mem_of_getElem? (i := 10) rfl))) (mvT hZ (hw _ (List.mem_of_getElem? (i := 11) rfl))) (mvT hZ (hw _ (List.mem_of_getElem? (i := 12) rfl))) (by decide) (backOf (W := 1) (rmI1 l Z a0 hw [] cz fv b1 b2 (4 : Int32) (8 : Int32) (own_cs [c0, c1, c2, c3]) h6 n0 ZH OO HW0 E_b1 F_value_b1 F_coder_b1 g_b1 GC (own_chL [c0, c1, c2, c3] (List.forall_mem_cons.mpr ⟨⟨hl0, hu0⟩, (List.forall_mem_cons.mpr ⟨⟨hl1, hu1⟩, (List.forall_mem_cons.mpr ⟨⟨hl2, hu2⟩, (List.forall_mem_cons.mpr ⟨⟨hl3, hu3⟩, (fun _ h => nomatch h)⟩)⟩)⟩)⟩)) (by unfold own_sm; decide) (by decide) (by decide)) hZ (hw _ (List.mem_of_getElem? (i := 12) rfl)) (hw _ (List.mem_of_getElem? (i := 8) rfl)) (by decide) (by decide)) (g := (mkF m 116 #[.val (.int (4 : Int32)), .val (.int c0), .val (.int c1), .val (.int c2), .val (.int c3), .val (.int c4)] [(.ref b2), (.ref b1), (.ref b1)])) rfl (by rw [hml]; rfl) (Steps.refl _) (a := b1) (argsL := [(.ref b2)]) (rest := [(.ref b1)]) (lenOf pd_17 rfl) rfl (by show 2 * 0 + _ ≤ _; exact Nat.le_of_eq rfl) (hb hby d1_116) (fun _ _ => ⟨rfl, e6, (by decide : 2 + 2 ≤ _), (by decide : 8 + 15 ≤ _)⟩)
  dsimp only [Pt.U, Pt.locs, Pt.cells, Pt.slots] at X7 l7 y7 z7 st7 hQ7
  subst l7 y7 z7
  obtain ⟨rfl, Nq7, K7, tb, F_sx, hSX⟩ := hQ7
  have N7 := Fr.app N6 Nq7
  have E_b1 := E_b1.keep K7
  have V_b2 := V_b2.keep K7 (ninS (Ne.symm ne_b1_b2) nin0)
  have ZH := Nat.le_trans ZH K7.1
  have KK := KK.trans K7 (allS (Or.inr sz_b1) all0)
  have OO := OO.keep K7 (allS g_b1 all0)
  refine own_up (fun _ kq => st7.trans kq) ?_
  show own_Go p.tables e below _ (T7.setTop (mkF m 119 #[.val (.int (4 : Int32)), .val (.int c0), .val (.int c1), .val (.int c2), .val (.int c3), .val (.int c4)] [(.ref b1)]))
  obtain ⟨fs8, hr8, hrun8, hended8, hW8, hsame8⟩ := X7.leave (v := some (.ref b1)) (fun h => by rw [Bd.returns] at h; cases h)
  refine own_end ⟨_, _, ?_, hrun8, hended8, _, _, rfl, ?_, ⟨_, rfl⟩, hW8, hsame8.mono (by decide) (by decide)⟩
  · exact retOut X7 hx Bd.returns rfl (Or.inr (Or.inr (Or.inr (Or.inr ⟨rfl, rfl, rfl⟩)))) (hb hby d1_119) hr8
  · show QrmT4 Z cz fv c0 c1 c2 c3 c4 h0 n0 _ T7.heap _
    skip
    exact ⟨b1, sz_b1, rfl, N7, KK, E_b1, tb, F_sx, hSX⟩
theorem d1_120 : decode method_4_code 120 = .ok (.new 25, 3) := by decide +kernel
theorem d1_123 : decode method_4_code 123 = .ok (.dup, 1) := by decide +kernel
theorem d1_124 : decode method_4_code 124 = .ok (.iconst 5, 1) := by decide +kernel
theorem d1_125 : decode method_4_code 125 = .ok (.newarray .char, 2) := by decide +kernel
theorem d1_127 : decode method_4_code 127 = .ok (.dup, 1) := by decide +kernel
theorem d1_128 : decode method_4_code 128 = .ok (.iconst 0, 1) := by decide +kernel
theorem d1_129 : decode method_4_code 129 = .ok (.iload_n 1, 1) := by decide +kernel
theorem d1_130 : decode method_4_code 130 = .ok (.castore, 1) := by decide +kernel
theorem d1_131 : decode method_4_code 131 = .ok (.dup, 1) := by decide +kernel
theorem d1_132 : decode method_4_code 132 = .ok (.iconst 1, 1) := by decide +kernel
theorem d1_133 : decode method_4_code 133 = .ok (.iload_n 2, 1) := by decide +kernel
theorem d1_134 : decode method_4_code 134 = .ok (.castore, 1) := by decide +kernel
theorem d1_135 : decode method_4_code 135 = .ok (.dup, 1) := by decide +kernel
theorem d1_136 : decode method_4_code 136 = .ok (.iconst 2, 1) := by decide +kernel
theorem d1_137 : decode method_4_code 137 = .ok (.iload_n 3, 1) := by decide +kernel
theorem d1_138 : decode method_4_code 138 = .ok (.castore, 1) := by decide +kernel
theorem d1_139 : decode method_4_code 139 = .ok (.dup, 1) := by decide +kernel
theorem d1_140 : decode method_4_code 140 = .ok (.iconst 3, 1) := by decide +kernel
theorem d1_141 : decode method_4_code 141 = .ok (.iload 4, 2) := by decide +kernel
theorem d1_143 : decode method_4_code 143 = .ok (.castore, 1) := by decide +kernel
theorem d1_144 : decode method_4_code 144 = .ok (.dup, 1) := by decide +kernel
theorem d1_145 : decode method_4_code 145 = .ok (.iconst 4, 1) := by decide +kernel
theorem d1_146 : decode method_4_code 146 = .ok (.iload 5, 2) := by decide +kernel
theorem d1_148 : decode method_4_code 148 = .ok (.castore, 1) := by decide +kernel
theorem d1_149 : decode method_4_code 149 = .ok (.invokespecial 27, 3) := by decide +kernel
theorem d1_152 : decode method_4_code 152 = .ok (.areturn, 1) := by decide +kernel
theorem ef_rmT5 (m : MethodId) (x0 : Int32) (x1 : Int32) (x2 : Int32) (x3 : Int32) (x4 : Int32) (x5 : Int32) : entryFrame m #[(.int x0), (.int x1), (.int x2), (.int x3), (.int x4), (.int x5)] 6 = mkF m 0 #[.val (.int x0), .val (.int x1), .val (.int x2), .val (.int x3), .val (.int x4), .val (.int x5)] [] := by first | (simp [entryFrame, mkF, argsToLocals, Value.category]; done) | rfl
def QrmT5 (Z : State) (cz : Int32) (fv : Value) (c0 : Int32) (c1 : Int32) (c2 : Int32) (c3 : Int32) (c4 : Int32) (h0 : Heap) (n0 : Nat) (v : Option Value) (h : Heap) (L : List Loc) : Prop := ∃ sx : Addr, h0.size ≤ sx ∧ v = some (.ref sx) ∧ Fr n0 L ∧ Keep h0 h [] ∧ Exa Z h sx "java/lang/String" ∧ ∃ tb : Addr, Fld Z h sx "java/lang/String" "value" "[B" (.ref tb) ∧ own_SX Z h sx tb (5 : Int32) (10 : Int32) (own_cs [c0, c1, c2, c3, c4])
set_option maxRecDepth 65536 in
set_option maxHeartbeats 40000000 in
theorem rmT5 (l : Launch) (Z : State) (a0 : Array Value) (hw : ∀ d ∈ tables_1, d.before a0 Z = true) (ws : List Jvm.Cond) (cz : Int32) (fv : Value) (c0 : Int32) (c1 : Int32) (c2 : Int32) (c3 : Int32) (c4 : Int32) (h0 : Heap) (n0 : Nat) (Z0 : n0 ≤ h0.size) (OO : Old Z n0 h0) (HW : own_W Z cz fv) (hl0 : ¬ c0 < 0) (hl1 : ¬ c1 < 0) (hl2 : ¬ c2 < 0) (hl3 : ¬ c3 < 0) (hl4 : ¬ c4 < 0) (hu0 : ¬ (65535 : Int32) < c0) (hu1 : ¬ (65535 : Int32) < c1) (hu2 : ¬ (65535 : Int32) < c2) (hu3 : ¬ (65535 : Int32) < c3) (hu4 : ¬ (65535 : Int32) < c4) :
    MetFree l (⟨"com/example/checkoff_codex/checkoffcodex/io/ValueTextDigitsPinLaw", "text", "(ICCCCC)Ljava/lang/String;"⟩ : MethodName) (head1 (Jvm.Cond.code (⟨"com/example/checkoff_codex/checkoffcodex/io/ValueTextDigitsPinLaw", "text", "(ICCCCC)Ljava/lang/String;"⟩ : MethodName) method_4_code 6 (some (.object "java/lang/String")) :: ws) ({ frames := 6, cells := 4, slots := 24, locals := 102 } : Room)) (fun aq Uq => aq = #[(.int (5 : Int32)), (.int c0), (.int c1), (.int c2), (.int c3), (.int c4)] ∧ Z.Warmed39 Uq.vm ∧ Uq.heap = h0) (fun _ _ _ _ _ => True) (fun _ Uq oq Uq' => ∃ vq Lq, oq = .returned vq ∧ QrmT5 Z cz fv c0 c1 c2 c3 c4 h0 n0 vq Uq'.heap Lq ∧ FrameEnd Uq oq Uq' Lq ({ frames := 6, cells := 4, slots := 24, locals := 102 } : Room).cells ({ frames := 6, cells := 4, slots := 24, locals := 102 } : Room).slots) := by
  refine MetFree.of_bodySF (plainFor_of_name pn_1) hisR ?_
  intro p e s m args below meth c s₁ Bd hml0 hP hK
  obtain ⟨rfl, hZ, hh⟩ := hP
  have hx := Bd.exec
  have hby := Bd.bytes
  have hml : c.maxLocals = 6 := hml0
  have hown : s.vm.findClass "com/example/checkoff_codex/checkoffcodex/io/ValueTextDigitsPinLaw" = some m.cls := findClass_of_methodNamed Bd.named
  have hnm := (name_of_methodNamed Bd.named Bd.method).1
  have X0 : Stand p l e ({ frames := 6, cells := 4, slots := 24, locals := 102 } : Room) s m #[(.int (5 : Int32)), (.int c0), (.int c1), (.int c2), (.int c3), (.int c4)] below meth c s₁ [] 0 0 := Stand.of_body Bd
  have e0 : s₁.heap = h0 := by rw [← hh, Bd.state]; rfl
  have N0 := Fr.nil n0
  have ZH := Z0
  have KK := Keep.refl h0 []
  refine own_start (fun t kq => castTop (ef_rmT5 m (5 : Int32) c0 c1 c2 c3 c4) kq) ?_
  show own_Go p.tables e below _ (s₁.setTop (mkF m 0 #[.val (.int (5 : Int32)), .val (.int c0), .val (.int c1), .val (.int c2), .val (.int c3), .val (.int c4)] []))
  have HW0 := HW
  obtain ⟨SC, hcz, SF, hfv, SA, SH, SL⟩ := HW
  refine own_up (fun _ kq => XS.iloadN X0.here hx rfl (hb hby d1_0) rfl kq) ?_
  show own_Go p.tables e below _ (s₁.setTop (mkF m 1 #[.val (.int (5 : Int32)), .val (.int c0), .val (.int c1), .val (.int c2), .val (.int c3), .val (.int c4)] [(.int (5 : Int32))]))
  refine own_up (fun _ kq => XS.ifYes X0.here hx rfl (pc0 := 1) (pc' := 15) rfl (hb hby d1_1) rfl ((if0 _ _).trans (feq (by decide : ¬ ((5 : Int32) = (0 : Int32)))).2) (by decide) (by decide) kq) ?_
  show own_Go p.tables e below _ (s₁.setTop (mkF m 15 #[.val (.int (5 : Int32)), .val (.int c0), .val (.int c1), .val (.int c2), .val (.int c3), .val (.int c4)] []))
  refine own_up (fun _ kq => XS.iloadN X0.here hx rfl (hb hby d1_15) rfl kq) ?_
  show own_Go p.tables e below _ (s₁.setTop (mkF m 16 #[.val (.int (5 : Int32)), .val (.int c0), .val (.int c1), .val (.int c2), .val (.int c3), .val (.int c4)] [(.int (5 : Int32))]))
  refine own_up (fun _ kq => XS.iconst X0.here hx rfl (hb hby d1_16) kq) ?_
  show own_Go p.tables e below _ (s₁.setTop (mkF m 17 #[.val (.int (5 : Int32)), .val (.int c0), .val (.int c1), .val (.int c2), .val (.int c3), .val (.int c4)] [(.int (1 : Int32)), (.int (5 : Int32))]))
  refine own_up (fun _ kq => XS.icmpYes X0.here hx rfl (pc0 := 17) (pc' := 35) rfl (hb hby d1_17) rfl (feq (by decide : ¬ ((5 : Int32) = (1 : Int32)))).2 (by decide) (by decide) kq) ?_
  show own_Go p.tables e below _ (s₁.setTop (mkF m 35 #[.val (.int (5 : Int32)), .val (.int c0), .val (.int c1), .val (.int c2), .val (.int c3), .val (.int c4)] []))
  refine own_up (fun _ kq => XS.iloadN X0.here hx rfl (hb hby d1_35) rfl kq) ?_
  show own_Go p.tables e below _ (s₁.setTop (mkF m 36 #[.val (.int (5 : Int32)), .val (.int c0), .val (.int c1), .val (.int c2), .val (.int c3), .val (.int c4)] [(.int (5 : Int32))]))
  refine own_up (fun _ kq => XS.iconst X0.here hx rfl (hb hby d1_36) kq) ?_
  show own_Go p.tables e below _ (s₁.setTop (mkF m 37 #[.val (.int (5 : Int32)), .val (.int c0), .val (.int c1), .val (.int c2), .val (.int c3), .val (.int c4)] [(.int (2 : Int32)), (.int (5 : Int32))]))
  refine own_up (fun _ kq => XS.icmpYes X0.here hx rfl (pc0 := 37) (pc' := 59) rfl (hb hby d1_37) rfl (feq (by decide : ¬ ((5 : Int32) = (2 : Int32)))).2 (by decide) (by decide) kq) ?_
  show own_Go p.tables e below _ (s₁.setTop (mkF m 59 #[.val (.int (5 : Int32)), .val (.int c0), .val (.int c1), .val (.int c2), .val (.int c3), .val (.int c4)] []))
  refine own_up (fun _ kq => XS.iloadN X0.here hx rfl (hb hby d1_59) rfl kq) ?_
  show own_Go p.tables e below _ (s₁.setTop (mkF m 60 #[.val (.int (5 : Int32)), .val (.int c0), .val (.int c1), .val (.int c2), .val (.int c3), .val (.int c4)] [(.int (5 : Int32))]))
  refine own_up (fun _ kq => XS.iconst X0.here hx rfl (hb hby d1_60) kq) ?_
  show own_Go p.tables e below _ (s₁.setTop (mkF m 61 #[.val (.int (5 : Int32)), .val (.int c0), .val (.int c1), .val (.int c2), .val (.int c3), .val (.int c4)] [(.int (3 : Int32)), (.int (5 : Int32))]))
  refine own_up (fun _ kq => XS.icmpYes X0.here hx rfl (pc0 := 61) (pc' := 87) rfl (hb hby d1_61) rfl (feq (by decide : ¬ ((5 : Int32) = (3 : Int32)))).2 (by decide) (by decide) kq) ?_
  show own_Go p.tables e below _ (s₁.setTop (mkF m 87 #[.val (.int (5 : Int32)), .val (.int c0), .val (.int c1), .val (.int c2), .val (.int c3), .val (.int c4)] []))
  refine own_up (fun _ kq => XS.iloadN X0.here hx rfl (hb hby d1_87) rfl kq) ?_
  show own_Go p.tables e below _ (s₁.setTop (mkF m 88 #[.val (.int (5 : Int32)), .val (.int c0), .val (.int c1), .val (.int c2), .val (.int c3), .val (.int c4)] [(.int (5 : Int32))]))
  refine own_up (fun _ kq => XS.iconst X0.here hx rfl (hb hby d1_88) kq) ?_
  show own_Go p.tables e below _ (s₁.setTop (mkF m 89 #[.val (.int (5 : Int32)), .val (.int c0), .val (.int c1), .val (.int c2), .val (.int c3), .val (.int c4)] [(.int (4 : Int32)), (.int (5 : Int32))]))
  refine own_up (fun _ kq => XS.icmpYes X0.here hx rfl (pc0 := 89) (pc' := 120) rfl (hb hby d1_89) rfl (feq (by decide : ¬ ((5 : Int32) = (4 : Int32)))).2 (by decide) (by decide) kq) ?_
  show own_Go p.tables e below _ (s₁.setTop (mkF m 120 #[.val (.int (5 : Int32)), .val (.int c0), .val (.int c1), .val (.int c2), .val (.int c3), .val (.int c4)] []))
  obtain ⟨T1, h1, X1, e1, E1, A1, D1, -, st1⟩ := newO X0 hx hZ hown (hw _ (List.mem_of_getElem? (i := 6) rfl)) (hw _ (List.mem_of_getElem? (i := 7) rfl)) (hw _ (List.mem_of_getElem? (i := 8) rfl)) e0 (g := (mkF m 120 #[.val (.int (5 : Int32)), .val (.int c0), .val (.int c1), .val (.int c2), .val (.int c3), .val (.int c4)] [])) rfl (hb hby d1_120) (by decide) (by decide)
  obtain ⟨b1, gz1⟩ : ∃ z, z = h0.size := ⟨_, rfl⟩
  rw [← gz1] at A1 D1 st1
  have g_b1 : n0 ≤ b1 := Nat.le_trans ZH (Nat.le_of_eq gz1.symm)
  have sz_b1 : h0.size ≤ b1 := Nat.le_trans KK.1 (Nat.le_of_eq gz1.symm)
  have ZH := Nat.le_trans ZH E1.1
  have KK := KK.ext E1
  have OO := OO.ext E1
  have E_b1 := A1
  have F_value_b1 : Fld Z h1 b1 "java/lang/String" "value" "[B" .null := D1 (Or.inr (hw _ (List.mem_of_getElem? (i := 22) rfl))) (ty := (.array .byte)) (by decide)
  have F_coder_b1 : Fld Z h1 b1 "java/lang/String" "coder" "B" (.int (0 : Int32)) := D1 (Or.inr (hw _ (List.mem_of_getElem? (i := 23) rfl))) (ty := .byte) (by decide)
  refine own_up st1 ?_
  show own_Go p.tables e below _ (T1.setTop (mkF m 123 #[.val (.int (5 : Int32)), .val (.int c0), .val (.int c1), .val (.int c2), .val (.int c3), .val (.int c4)] [(.ref b1)]))
  refine own_up (fun _ kq => XS.dup X1.here hx rfl (hb hby d1_123) rfl rfl kq) ?_
  show own_Go p.tables e below _ (T1.setTop (mkF m 124 #[.val (.int (5 : Int32)), .val (.int c0), .val (.int c1), .val (.int c2), .val (.int c3), .val (.int c4)] [(.ref b1), (.ref b1)]))
  refine own_up (fun _ kq => XS.iconst X1.here hx rfl (hb hby d1_124) kq) ?_
  show own_Go p.tables e below _ (T1.setTop (mkF m 125 #[.val (.int (5 : Int32)), .val (.int c0), .val (.int c1), .val (.int c2), .val (.int c3), .val (.int c4)] [(.int (5 : Int32)), (.ref b1), (.ref b1)]))
  obtain ⟨T2, h2, k2, X2, e2, E2, A2, st2⟩ := newP X1 hx hZ (hw _ (List.mem_of_getElem? (i := 9) rfl)) e1 (g := (mkF m 125 #[.val (.int (5 : Int32)), .val (.int c0), .val (.int c1), .val (.int c2), .val (.int c3), .val (.int c4)] [(.int (5 : Int32)), (.ref b1), (.ref b1)])) rfl (hb hby d1_125) rfl (by decide) (cap := 5) (by decide) (by decide) (by decide) (by decide)
  obtain ⟨b2, gz2⟩ : ∃ z, z = h1.size := ⟨_, rfl⟩
  rw [← gz2] at A2 st2
  have ne_b1_b2 : b1 ≠ b2 := Nat.ne_of_lt (Nat.lt_of_lt_of_le E_b1.lt (Nat.le_of_eq gz2.symm))
  have g_b2 : n0 ≤ b2 := Nat.le_trans ZH (Nat.le_of_eq gz2.symm)
  have sz_b2 : h0.size ≤ b2 := Nat.le_trans KK.1 (Nat.le_of_eq gz2.symm)
  have E_b1 := E_b1.ext E2
  have F_value_b1 := F_value_b1.ext E2
  have F_coder_b1 := F_coder_b1.ext E2
  have ZH := Nat.le_trans ZH E2.1
  have KK := KK.ext E2
  have OO := OO.ext E2
  have V_b2 : Arv Z h2 b2 k2 .char (5 : Int32) [(.int (0 : Int32)), (.int (0 : Int32)), (.int (0 : Int32)), (.int (0 : Int32)), (.int (0 : Int32))] (.int (0 : Int32)) := (Arv.new A2 (by decide)).pad (pad_rep [] (.int (0 : Int32)) 5)
  refine own_up st2 ?_
  show own_Go p.tables e below _ (T2.setTop (mkF m 127 #[.val (.int (5 : Int32)), .val (.int c0), .val (.int c1), .val (.int c2), .val (.int c3), .val (.int c4)] [(.ref b2), (.ref b1), (.ref b1)]))
  refine own_up (fun _ kq => XS.dup X2.here hx rfl (hb hby d1_127) rfl rfl kq) ?_
  show own_Go p.tables e below _ (T2.setTop (mkF m 128 #[.val (.int (5 : Int32)), .val (.int c0), .val (.int c1), .val (.int c2), .val (.int c3), .val (.int c4)] [(.ref b2), (.ref b2), (.ref b1), (.ref b1)]))
  refine own_up (fun _ kq => XS.iconst X2.here hx rfl (hb hby d1_128) kq) ?_
  show own_Go p.tables e below _ (T2.setTop (mkF m 129 #[.val (.int (5 : Int32)), .val (.int c0), .val (.int c1), .val (.int c2), .val (.int c3), .val (.int c4)] [(.int (0 : Int32)), (.ref b2), (.ref b2), (.ref b1), (.ref b1)]))
  refine own_up (fun _ kq => XS.iloadN X2.here hx rfl (hb hby d1_129) rfl kq) ?_
  show own_Go p.tables e below _ (T2.setTop (mkF m 130 #[.val (.int (5 : Int32)), .val (.int c0), .val (.int c1), .val (.int c2), .val (.int c3), .val (.int c4)] [(.int c0), (.int (0 : Int32)), (.ref b2), (.ref b2), (.ref b1), (.ref b1)]))
  obtain ⟨cl3, Ar3, q3, sz3, nz3, hH3, hG3⟩ := V_b2
  obtain ⟨T3, h3, X3, e3, W3, st3⟩ := stC X2 hx hZ e2 Ar3 (j := (0 : Int32)) (inb_of sz3 ⟨by decide, by decide⟩) (g := (mkF m 130 #[.val (.int (5 : Int32)), .val (.int c0), .val (.int c1), .val (.int c2), .val (.int c3), .val (.int c4)] [(.int c0), (.int (0 : Int32)), (.ref b2), (.ref b2), (.ref b1), (.ref b1)])) rfl rfl (hb hby d1_130)
  have V_b2 : Arv Z h3 b2 k2 .char (5 : Int32) [(.int (nar .char c0)), (.int (0 : Int32)), (.int (0 : Int32)), (.int (0 : Int32)), (.int (0 : Int32))] (.int (0 : Int32)) := Arv.set Ar3 q3 sz3 nz3 hH3 hG3 (fits_nar_char _) W3 0 rfl (Nat.le_of_ble_eq_true rfl)
  have N3 := Fr.snoc X3 N0 g_b2
  have E_b1 := E_b1.wr W3
  have F_value_b1 := F_value_b1.other W3 (Or.inl ne_b1_b2)
  have F_coder_b1 := F_coder_b1.other W3 (Or.inl ne_b1_b2)
  have ZH := Nat.le_trans ZH (Nat.le_of_eq W3.size.symm)
  have KK := KK.wr W3 (Or.inr sz_b2)
  have OO := OO.wr W3 g_b2
  refine own_up st3 ?_
  show own_Go p.tables e below _ (T3.setTop (mkF m 131 #[.val (.int (5 : Int32)), .val (.int c0), .val (.int c1), .val (.int c2), .val (.int c3), .val (.int c4)] [(.ref b2), (.ref b1), (.ref b1)]))
  refine own_up (fun _ kq => XS.dup X3.here hx rfl (hb hby d1_131) rfl rfl kq) ?_
  show own_Go p.tables e below _ (T3.setTop (mkF m 132 #[.val (.int (5 : Int32)), .val (.int c0), .val (.int c1), .val (.int c2), .val (.int c3), .val (.int c4)] [(.ref b2), (.ref b2), (.ref b1), (.ref b1)]))
  refine own_up (fun _ kq => XS.iconst X3.here hx rfl (hb hby d1_132) kq) ?_
  show own_Go p.tables e below _ (T3.setTop (mkF m 133 #[.val (.int (5 : Int32)), .val (.int c0), .val (.int c1), .val (.int c2), .val (.int c3), .val (.int c4)] [(.int (1 : Int32)), (.ref b2), (.ref b2), (.ref b1), (.ref b1)]))
  refine own_up (fun _ kq => XS.iloadN X3.here hx rfl (hb hby d1_133) rfl kq) ?_
  show own_Go p.tables e below _ (T3.setTop (mkF m 134 #[.val (.int (5 : Int32)), .val (.int c0), .val (.int c1), .val (.int c2), .val (.int c3), .val (.int c4)] [(.int c1), (.int (1 : Int32)), (.ref b2), (.ref b2), (.ref b1), (.ref b1)]))
  obtain ⟨cl4, Ar4, q4, sz4, nz4, hH4, hG4⟩ := V_b2
  obtain ⟨T4, h4, X4, e4, W4, st4⟩ := stC X3 hx hZ e3 Ar4 (j := (1 : Int32)) (inb_of sz4 ⟨by decide, by decide⟩) (g := (mkF m 134 #[.val (.int (5 : Int32)), .val (.int c0), .val (.int c1), .val (.int c2), .val (.int c3), .val (.int c4)] [(.int c1), (.int (1 : Int32)), (.ref b2), (.ref b2), (.ref b1), (.ref b1)])) rfl rfl (hb hby d1_134)
  have V_b2 : Arv Z h4 b2 k2 .char (5 : Int32) [(.int (nar .char c0)), (.int (nar .char c1)), (.int (0 : Int32)), (.int (0 : Int32)), (.int (0 : Int32))] (.int (0 : Int32)) := Arv.set Ar4 q4 sz4 nz4 hH4 hG4 (fits_nar_char _) W4 1 rfl (Nat.le_of_ble_eq_true rfl)
  have N4 := Fr.snoc X4 N3 g_b2
  have E_b1 := E_b1.wr W4
  have F_value_b1 := F_value_b1.other W4 (Or.inl ne_b1_b2)
  have F_coder_b1 := F_coder_b1.other W4 (Or.inl ne_b1_b2)
  have ZH := Nat.le_trans ZH (Nat.le_of_eq W4.size.symm)
  have KK := KK.wr W4 (Or.inr sz_b2)
  have OO := OO.wr W4 g_b2
  refine own_up st4 ?_
  show own_Go p.tables e below _ (T4.setTop (mkF m 135 #[.val (.int (5 : Int32)), .val (.int c0), .val (.int c1), .val (.int c2), .val (.int c3), .val (.int c4)] [(.ref b2), (.ref b1), (.ref b1)]))
  refine own_up (fun _ kq => XS.dup X4.here hx rfl (hb hby d1_135) rfl rfl kq) ?_
  show own_Go p.tables e below _ (T4.setTop (mkF m 136 #[.val (.int (5 : Int32)), .val (.int c0), .val (.int c1), .val (.int c2), .val (.int c3), .val (.int c4)] [(.ref b2), (.ref b2), (.ref b1), (.ref b1)]))
  refine own_up (fun _ kq => XS.iconst X4.here hx rfl (hb hby d1_136) kq) ?_
  show own_Go p.tables e below _ (T4.setTop (mkF m 137 #[.val (.int (5 : Int32)), .val (.int c0), .val (.int c1), .val (.int c2), .val (.int c3), .val (.int c4)] [(.int (2 : Int32)), (.ref b2), (.ref b2), (.ref b1), (.ref b1)]))
  refine own_up (fun _ kq => XS.iloadN X4.here hx rfl (hb hby d1_137) rfl kq) ?_
  show own_Go p.tables e below _ (T4.setTop (mkF m 138 #[.val (.int (5 : Int32)), .val (.int c0), .val (.int c1), .val (.int c2), .val (.int c3), .val (.int c4)] [(.int c2), (.int (2 : Int32)), (.ref b2), (.ref b2), (.ref b1), (.ref b1)]))
  obtain ⟨cl5, Ar5, q5, sz5, nz5, hH5, hG5⟩ := V_b2
  obtain ⟨T5, h5, X5, e5, W5, st5⟩ := stC X4 hx hZ e4 Ar5 (j := (2 : Int32)) (inb_of sz5 ⟨by decide, by decide⟩) (g := (mkF m 138 #[.val (.int (5 : Int32)), .val (.int c0), .val (.int c1), .val (.int c2), .val (.int c3), .val (.int c4)] [(.int c2), (.int (2 : Int32)), (.ref b2), (.ref b2), (.ref b1), (.ref b1)])) rfl rfl (hb hby d1_138)
  have V_b2 : Arv Z h5 b2 k2 .char (5 : Int32) [(.int (nar .char c0)), (.int (nar .char c1)), (.int (nar .char c2)), (.int (0 : Int32)), (.int (0 : Int32))] (.int (0 : Int32)) := Arv.set Ar5 q5 sz5 nz5 hH5 hG5 (fits_nar_char _) W5 2 rfl (Nat.le_of_ble_eq_true rfl)
  have N5 := Fr.snoc X5 N4 g_b2
  have E_b1 := E_b1.wr W5
  have F_value_b1 := F_value_b1.other W5 (Or.inl ne_b1_b2)
  have F_coder_b1 := F_coder_b1.other W5 (Or.inl ne_b1_b2)
  have ZH := Nat.le_trans ZH (Nat.le_of_eq W5.size.symm)
  have KK := KK.wr W5 (Or.inr sz_b2)
  have OO := OO.wr W5 g_b2
  refine own_up st5 ?_
  show own_Go p.tables e below _ (T5.setTop (mkF m 139 #[.val (.int (5 : Int32)), .val (.int c0), .val (.int c1), .val (.int c2), .val (.int c3), .val (.int c4)] [(.ref b2), (.ref b1), (.ref b1)]))
  refine own_up (fun _ kq => XS.dup X5.here hx rfl (hb hby d1_139) rfl rfl kq) ?_
  show own_Go p.tables e below _ (T5.setTop (mkF m 140 #[.val (.int (5 : Int32)), .val (.int c0), .val (.int c1), .val (.int c2), .val (.int c3), .val (.int c4)] [(.ref b2), (.ref b2), (.ref b1), (.ref b1)]))
  refine own_up (fun _ kq => XS.iconst X5.here hx rfl (hb hby d1_140) kq) ?_
  show own_Go p.tables e below _ (T5.setTop (mkF m 141 #[.val (.int (5 : Int32)), .val (.int c0), .val (.int c1), .val (.int c2), .val (.int c3), .val (.int c4)] [(.int (3 : Int32)), (.ref b2), (.ref b2), (.ref b1), (.ref b1)]))
  refine own_up (fun _ kq => XS.iload X5.here hx rfl (hb hby d1_141) rfl kq) ?_
  show own_Go p.tables e below _ (T5.setTop (mkF m 143 #[.val (.int (5 : Int32)), .val (.int c0), .val (.int c1), .val (.int c2), .val (.int c3), .val (.int c4)] [(.int c3), (.int (3 : Int32)), (.ref b2), (.ref b2), (.ref b1), (.ref b1)]))
  obtain ⟨cl6, Ar6, q6, sz6, nz6, hH6, hG6⟩ := V_b2
  obtain ⟨T6, h6, X6, e6, W6, st6⟩ := stC X5 hx hZ e5 Ar6 (j := (3 : Int32)) (inb_of sz6 ⟨by decide, by decide⟩) (g := (mkF m 143 #[.val (.int (5 : Int32)), .val (.int c0), .val (.int c1), .val (.int c2), .val (.int c3), .val (.int c4)] [(.int c3), (.int (3 : Int32)), (.ref b2), (.ref b2), (.ref b1), (.ref b1)])) rfl rfl (hb hby d1_143)
  have V_b2 : Arv Z h6 b2 k2 .char (5 : Int32) [(.int (nar .char c0)), (.int (nar .char c1)), (.int (nar .char c2)), (.int (nar .char c3)), (.int (0 : Int32))] (.int (0 : Int32)) := Arv.set Ar6 q6 sz6 nz6 hH6 hG6 (fits_nar_char _) W6 3 rfl (Nat.le_of_ble_eq_true rfl)
  have N6 := Fr.snoc X6 N5 g_b2
  have E_b1 := E_b1.wr W6
  have F_value_b1 := F_value_b1.other W6 (Or.inl ne_b1_b2)
  have F_coder_b1 := F_coder_b1.other W6 (Or.inl ne_b1_b2)
  have ZH := Nat.le_trans ZH (Nat.le_of_eq W6.size.symm)
  have KK := KK.wr W6 (Or.inr sz_b2)
  have OO := OO.wr W6 g_b2
  refine own_up st6 ?_
  show own_Go p.tables e below _ (T6.setTop (mkF m 144 #[.val (.int (5 : Int32)), .val (.int c0), .val (.int c1), .val (.int c2), .val (.int c3), .val (.int c4)] [(.ref b2), (.ref b1), (.ref b1)]))
  refine own_up (fun _ kq => XS.dup X6.here hx rfl (hb hby d1_144) rfl rfl kq) ?_
  show own_Go p.tables e below _ (T6.setTop (mkF m 145 #[.val (.int (5 : Int32)), .val (.int c0), .val (.int c1), .val (.int c2), .val (.int c3), .val (.int c4)] [(.ref b2), (.ref b2), (.ref b1), (.ref b1)]))
  refine own_up (fun _ kq => XS.iconst X6.here hx rfl (hb hby d1_145) kq) ?_
  show own_Go p.tables e below _ (T6.setTop (mkF m 146 #[.val (.int (5 : Int32)), .val (.int c0), .val (.int c1), .val (.int c2), .val (.int c3), .val (.int c4)] [(.int (4 : Int32)), (.ref b2), (.ref b2), (.ref b1), (.ref b1)]))
  refine own_up (fun _ kq => XS.iload X6.here hx rfl (hb hby d1_146) rfl kq) ?_
  show own_Go p.tables e below _ (T6.setTop (mkF m 148 #[.val (.int (5 : Int32)), .val (.int c0), .val (.int c1), .val (.int c2), .val (.int c3), .val (.int c4)] [(.int c4), (.int (4 : Int32)), (.ref b2), (.ref b2), (.ref b1), (.ref b1)]))
  obtain ⟨cl7, Ar7, q7, sz7, nz7, hH7, hG7⟩ := V_b2
  obtain ⟨T7, h7, X7, e7, W7, st7⟩ := stC X6 hx hZ e6 Ar7 (j := (4 : Int32)) (inb_of sz7 ⟨by decide, by decide⟩) (g := (mkF m 148 #[.val (.int (5 : Int32)), .val (.int c0), .val (.int c1), .val (.int c2), .val (.int c3), .val (.int c4)] [(.int c4), (.int (4 : Int32)), (.ref b2), (.ref b2), (.ref b1), (.ref b1)])) rfl rfl (hb hby d1_148)
  have V_b2 : Arv Z h7 b2 k2 .char (5 : Int32) [(.int (nar .char c0)), (.int (nar .char c1)), (.int (nar .char c2)), (.int (nar .char c3)), (.int (nar .char c4))] (.int (0 : Int32)) := Arv.set Ar7 q7 sz7 nz7 hH7 hG7 (fits_nar_char _) W7 4 rfl (Nat.le_of_ble_eq_true rfl)
  have N7 := Fr.snoc X7 N6 g_b2
  have E_b1 := E_b1.wr W7
  have F_value_b1 := F_value_b1.other W7 (Or.inl ne_b1_b2)
  have F_coder_b1 := F_coder_b1.other W7 (Or.inl ne_b1_b2)
  have ZH := Nat.le_trans ZH (Nat.le_of_eq W7.size.symm)
  have KK := KK.wr W7 (Or.inr sz_b2)
  have OO := OO.wr W7 g_b2
  refine own_up st7 ?_
  show own_Go p.tables e below _ (T7.setTop (mkF m 149 #[.val (.int (5 : Int32)), .val (.int c0), .val (.int c1), .val (.int c2), .val (.int c3), .val (.int c4)] [(.ref b2), (.ref b1), (.ref b1)]))
  rw [own_narc hl0 hu0, own_narc hl1 hu1, own_narc hl2 hu2, own_narc hl3 hu3, own_narc hl4 hu4] at V_b2
  have GC : own_Arf Z h7 b2 .char (5 : Int32) (fun i => .int ((own_cs [c0, c1, c2, c3, c4]) i)) := (own_Arf.ofArv V_b2).congr (fun i _ => own_Iget [c0, c1, c2, c3, c4] i)
  obtain ⟨_, _, ⟨T8, L8, k8, n8⟩, -, X8, ⟨Lc8, hQ8, l8, y8, z8⟩, st8⟩ := X7.specialBack hx (y := (⟨"java/lang/String", "<init>", "([C)V"⟩ : MethodName)) rfl hown (mvT hZ (hw _ (List.mem_of_getElem? (i := 10) rfl))) (mvT hZ (hw _ (List.mem_of_getElem? (i := 11) rfl))) (mvT hZ (hw _ (List.mem_of_getElem? (i := 12) rfl))) (by decide) (backOf (W := 1) (rmI1 l Z a0 hw [] cz fv b1 b2 (5 : Int32) (10 : Int32) (own_cs [c0, c1, c2, c3, c4]) h7 n0 ZH OO HW0 E_b1 F_value_b1 F_coder_b1 g_b1 GC (own_chL [c0, c1, c2, c3, c4] (List.forall_mem_cons.mpr ⟨⟨hl0, hu0⟩, (List.forall_mem_cons.mpr ⟨⟨hl1, hu1⟩, (List.forall_mem_cons.mpr ⟨⟨hl2, hu2⟩, (List.forall_mem_cons.mpr ⟨⟨hl3, hu3⟩, (List.forall_mem_cons.mpr ⟨⟨hl4, hu4⟩, (fun _ h => nomatch h)⟩)⟩)⟩)⟩)⟩)) (by unfold own_sm; decide) (by decide) (by decide)) hZ (hw _ (List.mem_of_getElem? (i := 12) rfl)) (hw _ (List.mem_of_getElem? (i := 8) rfl)) (by decide) (by decide)) (g := (mkF m 149 #[.val (.int (5 : Int32)), .val (.int c0), .val (.int c1), .val (.int c2), .val (.int c3), .val (.int c4)] [(.ref b2), (.ref b1), (.ref b1)])) rfl (by rw [hml]; rfl) (Steps.refl _) (a := b1) (argsL := [(.ref b2)]) (rest := [(.ref b1)]) (lenOf pd_17 rfl) rfl (by show 2 * 0 + _ ≤ _; exact Nat.le_of_eq rfl) (hb hby d1_149) (fun _ _ => ⟨rfl, e7, (by decide : 2 + 2 ≤ _), (by decide : 9 + 15 ≤ _)⟩)
  dsimp only [Pt.U, Pt.locs, Pt.cells, Pt.slots] at X8 l8 y8 z8 st8 hQ8
  subst l8 y8 z8
  obtain ⟨rfl, Nq8, K8, tb, F_sx, hSX⟩ := hQ8
  have N8 := Fr.app N7 Nq8
  have E_b1 := E_b1.keep K8
  have V_b2 := V_b2.keep K8 (ninS (Ne.symm ne_b1_b2) nin0)
  have ZH := Nat.le_trans ZH K8.1
  have KK := KK.trans K8 (allS (Or.inr sz_b1) all0)
  have OO := OO.keep K8 (allS g_b1 all0)
  refine own_up (fun _ kq => st8.trans kq) ?_
  show own_Go p.tables e below _ (T8.setTop (mkF m 152 #[.val (.int (5 : Int32)), .val (.int c0), .val (.int c1), .val (.int c2), .val (.int c3), .val (.int c4)] [(.ref b1)]))
  obtain ⟨fs9, hr9, hrun9, hended9, hW9, hsame9⟩ := X8.leave (v := some (.ref b1)) (fun h => by rw [Bd.returns] at h; cases h)
  refine own_end ⟨_, _, ?_, hrun9, hended9, _, _, rfl, ?_, ⟨_, rfl⟩, hW9, hsame9.mono (by decide) (by decide)⟩
  · exact retOut X8 hx Bd.returns rfl (Or.inr (Or.inr (Or.inr (Or.inr ⟨rfl, rfl, rfl⟩)))) (hb hby d1_152) hr9
  · show QrmT5 Z cz fv c0 c1 c2 c3 c4 h0 n0 _ T8.heap _
    skip
    exact ⟨b1, sz_b1, rfl, N8, KK, E_b1, tb, F_sx, hSX⟩
theorem d3_8 : decode jdk_42_method_149_code 8 = .ok (.aload_n 0, 1) := by decide +kernel
theorem d3_9 : decode jdk_42_method_149_code 9 = .ok (.ldc 7, 2) := by decide +kernel
theorem d3_11 : decode jdk_42_method_149_code 11 = .ok (.getfield 9, 3) := by decide +kernel
theorem d3_14 : decode jdk_42_method_149_code 14 = .ok (.putfield 9, 3) := by decide +kernel
theorem d3_17 : decode jdk_42_method_149_code 17 = .ok (.aload_n 0, 1) := by decide +kernel
theorem d3_18 : decode jdk_42_method_149_code 18 = .ok (.ldc 7, 2) := by decide +kernel
theorem d3_20 : decode jdk_42_method_149_code 20 = .ok (.getfield 15, 3) := by decide +kernel
theorem d3_23 : decode jdk_42_method_149_code 23 = .ok (.putfield 15, 3) := by decide +kernel
theorem d3_26 : decode jdk_42_method_149_code 26 = .ok (.return_, 1) := by decide +kernel
theorem ef_rmI4w (m : MethodId) (x0 : Addr) (x1 : Addr) (x2 : Int32) (x3 : Int32) : entryFrame m #[(.ref x0), (.ref x1), (.int x2), (.int x3), .null] 6 = mkF m 0 #[.val (.ref x0), .val (.ref x1), .val (.int x2), .val (.int x3), .val .null, .unset] [] := by first | (simp [entryFrame, mkF, argsToLocals, Value.category]; done) | rfl
def QrmI4w (Z : State) (cz : Int32) (fv : Value) (sx : Addr) (sa : Addr) (h0 : Heap) (n0 : Nat) (v : Option Value) (h : Heap) (L : List Loc) : Prop := v = none ∧ Fr n0 L ∧ Keep h0 h [sx] ∧ ∃ tb : Addr, Fld Z h sx "java/lang/String" "value" "[B" (.ref tb) ∧ own_SX Z h sx tb (0 : Int32) (0 : Int32) (own_cs [])
set_option maxRecDepth 65536 in
set_option maxHeartbeats 40000000 in
theorem rmI4w (l : Launch) (Z : State) (a0 : Array Value) (hw : ∀ d ∈ tables_1, d.before a0 Z = true) (ws : List Jvm.Cond) (cz : Int32) (fv : Value) (sx : Addr) (sa : Addr) (h0 : Heap) (n0 : Nat) (Z0 : n0 ≤ h0.size) (OO : Old Z n0 h0) (HW : own_W Z cz fv) (E_sx : Exa Z h0 sx "java/lang/String") (F_value_sx : Fld Z h0 sx "java/lang/String" "value" "[B" .null) (F_coder_sx : Fld Z h0 sx "java/lang/String" "coder" "B" (.int (0 : Int32))) (g_sx : n0 ≤ sx) :
    MetFree l (⟨"java/lang/String", "<init>", "([CIILjava/lang/Void;)V"⟩ : MethodName) (head1 (Jvm.Cond.code (⟨"java/lang/String", "<init>", "([CIILjava/lang/Void;)V"⟩ : MethodName) jdk_42_method_149_code 6 none :: ws) ({ frames := 1, cells := 2, slots := 4, locals := 12 } : Room)) (fun aq Uq => aq = #[(.ref sx), (.ref sa), (.int (0 : Int32)), (.int (0 : Int32)), .null] ∧ Z.Warmed39 Uq.vm ∧ Uq.heap = h0 ∧ CHv Z own_EL Uq.vm h0) (fun _ _ _ _ _ => True) (fun _ Uq oq Uq' => ∃ vq Lq, oq = .returned vq ∧ QrmI4w Z cz fv sx sa h0 n0 vq Uq'.heap Lq ∧ ReturnedEndW Uq oq Uq' Lq ({ frames := 1, cells := 2, slots := 4, locals := 12 } : Room).cells ({ frames := 1, cells := 2, slots := 4, locals := 12 } : Room).slots) := by
  refine MetFree.of_bodySF (plainFor_of_name pn_3) hisR ?_
  intro p e s m args below meth c s₁ Bd hml0 hP hK
  obtain ⟨rfl, hZ, hh, hCH⟩ := hP
  have hx := Bd.exec
  have hby := Bd.bytes
  have hml : c.maxLocals = 6 := hml0
  have hown : s.vm.findClass "java/lang/String" = some m.cls := findClass_of_methodNamed Bd.named
  have hnm := (name_of_methodNamed Bd.named Bd.method).1
  have X0 : Stand p l e ({ frames := 1, cells := 2, slots := 4, locals := 12 } : Room) s m #[(.ref sx), (.ref sa), (.int (0 : Int32)), (.int (0 : Int32)), .null] below meth c s₁ [] 0 0 := Stand.of_body Bd
  have e0 : s₁.heap = h0 := by rw [← hh, Bd.state]; rfl
  have N0 := Fr.nil n0
  have ZH := Z0
  have KK := Keep.refl h0 [sx]
  refine own_start (fun t kq => castTop (ef_rmI4w m sx sa (0 : Int32) (0 : Int32)) kq) ?_
  show own_Go p.tables e below _ (s₁.setTop (mkF m 0 #[.val (.ref sx), .val (.ref sa), .val (.int (0 : Int32)), .val (.int (0 : Int32)), .val .null, .unset] []))
  have HW0 := HW
  obtain ⟨SC, hcz, SF, hfv, SA, SH, SL⟩ := HW
  refine own_up (fun _ kq => XS.aloadN X0.here hx rfl (hb hby d3_0) rfl rfl kq) ?_
  show own_Go p.tables e below _ (s₁.setTop (mkF m 1 #[.val (.ref sx), .val (.ref sa), .val (.int (0 : Int32)), .val (.int (0 : Int32)), .val .null, .unset] [(.ref sx)]))
  obtain ⟨T1, X1, e1, st1⟩ := initO X0 hx hZ hown (hw _ (List.mem_of_getElem? (i := 17) rfl)) (hw _ (List.mem_of_getElem? (i := 18) rfl)) (hw _ (List.mem_of_getElem? (i := 19) rfl)) e0 (g := (mkF m 1 #[.val (.ref sx), .val (.ref sa), .val (.int (0 : Int32)), .val (.int (0 : Int32)), .val .null, .unset] [(.ref sx)])) rfl (by rw [hml]; rfl) rfl (hb hby d3_1) (by decide) (W := 0) (by show 2 * 0 + _ ≤ _; exact Nat.le_of_eq rfl) (by decide)
  refine own_up st1 ?_
  show own_Go p.tables e below _ (T1.setTop (mkF m 4 #[.val (.ref sx), .val (.ref sa), .val (.int (0 : Int32)), .val (.int (0 : Int32)), .val .null, .unset] []))
  refine own_up (fun _ kq => XS.iloadN X1.here hx rfl (hb hby d3_4) rfl kq) ?_
  show own_Go p.tables e below _ (T1.setTop (mkF m 5 #[.val (.ref sx), .val (.ref sa), .val (.int (0 : Int32)), .val (.int (0 : Int32)), .val .null, .unset] [(.int (0 : Int32))]))
  refine own_up (fun _ kq => XS.ifNo X1.here hx rfl (hb hby d3_5) rfl ((if0 _ _).trans (teq (by decide : (0 : Int32) = (0 : Int32))).2) kq) ?_
  show own_Go p.tables e below _ (T1.setTop (mkF m 8 #[.val (.ref sx), .val (.ref sa), .val (.int (0 : Int32)), .val (.int (0 : Int32)), .val .null, .unset] []))
  refine own_up (fun _ kq => XS.aloadN X1.here hx rfl (hb hby d3_8) rfl rfl kq) ?_
  show own_Go p.tables e below _ (T1.setTop (mkF m 9 #[.val (.ref sx), .val (.ref sa), .val (.int (0 : Int32)), .val (.int (0 : Int32)), .val .null, .unset] [(.ref sx)]))
  obtain ⟨la, T2, h2, k2, lb, lk, X2, e2, E2, hS2, SK, hZ, hown, E_la, C_la, F_la, V_lb, -, -, -, hL, -, st2⟩ := Jvm.RoadKit.ldcCH (s := s) (vm0 := s.vm) (own := "java/lang/String") (text := "") (index := 7) (EL := own_EL) X1 hx hZ hown (hw _ (List.mem_of_getElem? (i := 20) rfl)) (own_WS hw) e1 (own_since s) (Nat.zero_le _) (own_EW hw) (List.mem_of_getElem? (i := 0) rfl) hCH (vs := []) (z := 0) ⟨by simp, by simp⟩ (by decide) rfl (g := (mkF m 9 #[.val (.ref sx), .val (.ref sa), .val (.int (0 : Int32)), .val (.int (0 : Int32)), .val .null, .unset] [(.ref sx)])) rfl (hb hby d3_9) (n := 0) (by simp) (by decide) (by decide) (by decide)
  have E_sx := E_sx.ext E2
  have F_value_sx := F_value_sx.ext E2
  have F_coder_sx := F_coder_sx.ext E2
  have ZH := Nat.le_trans ZH E2.1
  have KK := KK.ext E2
  have OO := OO.ext E2
  have ne_la_sx : la ≠ sx := F_la.ne F_value_sx (fun q => nomatch q)
  have ne_lb_sx : lb ≠ sx := Ne.symm (Jvm.RoadKit.Exa.neArv E_sx V_lb (hw _ (List.mem_of_getElem? (i := 7) rfl)))
  refine own_up st2 ?_
  show own_Go p.tables e below _ (T2.setTop (mkF m 11 #[.val (.ref sx), .val (.ref sa), .val (.int (0 : Int32)), .val (.int (0 : Int32)), .val .null, .unset] [(.ref la), (.ref sx)]))
  obtain ⟨T3, X3, e3, st3⟩ := getF X2 hx hZ hown (host := "") (Or.inl (hw _ (List.mem_of_getElem? (i := 26) rfl))) Via.refl e2 F_la (g := (mkF m 11 #[.val (.ref sx), .val (.ref sa), .val (.int (0 : Int32)), .val (.int (0 : Int32)), .val .null, .unset] [(.ref la), (.ref sx)])) rfl rfl (hb hby d3_11)
  refine own_up st3 ?_
  show own_Go p.tables e below _ (T3.setTop (mkF m 14 #[.val (.ref sx), .val (.ref sa), .val (.int (0 : Int32)), .val (.int (0 : Int32)), .val .null, .unset] [(.ref lb), (.ref sx)]))
  obtain ⟨T4, h4, X4, e4, W4, st4⟩ := putF X3 hx hZ hown (host := "") (Or.inl (hw _ (List.mem_of_getElem? (i := 26) rfl))) Via.refl e3 F_value_sx E_sx (Or.inr ⟨(hw _ (List.mem_of_getElem? (i := 22) rfl)), rfl, hnm⟩) (hw _ (List.mem_of_getElem? (i := 7) rfl)) (ty := (.array .byte)) (by decide) rfl rfl (g := (mkF m 14 #[.val (.ref sx), .val (.ref sa), .val (.int (0 : Int32)), .val (.int (0 : Int32)), .val .null, .unset] [(.ref lb), (.ref sx)])) rfl rfl (hb hby d3_14)
  have N4 := Fr.snoc X4 N0 g_sx
  have F_value_sx := F_value_sx.same W4
  have E_sx := E_sx.wr W4
  have F_coder_sx := F_coder_sx.other W4 (Or.inr (slot_ne (Or.inr (hw _ (List.mem_of_getElem? (i := 23) rfl))) (Or.inr (hw _ (List.mem_of_getElem? (i := 22) rfl))) (by decide) (t := .byte) (t' := (.array .byte)) (by decide) (by decide)))
  have C_la := C_la.other W4 (Or.inl ne_la_sx)
  have F_la := F_la.other W4 (Or.inl ne_la_sx)
  have V_lb := V_lb.other W4 ne_lb_sx
  have ZH := Nat.le_trans ZH (Nat.le_of_eq W4.size.symm)
  have KK := KK.wr W4 (Or.inl (List.mem_of_getElem? (i := 0) rfl))
  have OO := OO.wr W4 g_sx
  have SK := Nat.le_trans SK (Nat.le_of_eq W4.size.symm)
  refine own_up st4 ?_
  show own_Go p.tables e below _ (T4.setTop (mkF m 17 #[.val (.ref sx), .val (.ref sa), .val (.int (0 : Int32)), .val (.int (0 : Int32)), .val .null, .unset] []))
  refine own_up (fun _ kq => XS.aloadN X4.here hx rfl (hb hby d3_17) rfl rfl kq) ?_
  show own_Go p.tables e below _ (T4.setTop (mkF m 18 #[.val (.ref sx), .val (.ref sa), .val (.int (0 : Int32)), .val (.int (0 : Int32)), .val .null, .unset] [(.ref sx)]))
  refine own_up (Jvm.RoadKit.ldcAgain (s := s) (vm0 := T2.vm) X4 hx hZ hown (hw _ (List.mem_of_getElem? (i := 20) rfl)) hL (g := (mkF m 18 #[.val (.ref sx), .val (.ref sa), .val (.int (0 : Int32)), .val (.int (0 : Int32)), .val .null, .unset] [(.ref sx)])) rfl (hb hby d3_18)) ?_
  show own_Go p.tables e below _ (T4.setTop (mkF m 20 #[.val (.ref sx), .val (.ref sa), .val (.int (0 : Int32)), .val (.int (0 : Int32)), .val .null, .unset] [(.ref la), (.ref sx)]))
  obtain ⟨T5, X5, e5, st5⟩ := getF X4 hx hZ hown (host := "") (Or.inl (hw _ (List.mem_of_getElem? (i := 27) rfl))) Via.refl e4 C_la (g := (mkF m 20 #[.val (.ref sx), .val (.ref sa), .val (.int (0 : Int32)), .val (.int (0 : Int32)), .val .null, .unset] [(.ref la), (.ref sx)])) rfl rfl (hb hby d3_20)
  refine own_up st5 ?_
  show own_Go p.tables e below _ (T5.setTop (mkF m 23 #[.val (.ref sx), .val (.ref sa), .val (.int (0 : Int32)), .val (.int (0 : Int32)), .val .null, .unset] [(.int (0 : Int32)), (.ref sx)]))
  obtain ⟨T6, h6, X6, e6, W6, st6⟩ := putF X5 hx hZ hown (host := "") (Or.inl (hw _ (List.mem_of_getElem? (i := 27) rfl))) Via.refl e5 F_coder_sx E_sx (Or.inr ⟨(hw _ (List.mem_of_getElem? (i := 23) rfl)), rfl, hnm⟩) (hw _ (List.mem_of_getElem? (i := 7) rfl)) (ty := .byte) (by decide) rfl rfl (g := (mkF m 23 #[.val (.ref sx), .val (.ref sa), .val (.int (0 : Int32)), .val (.int (0 : Int32)), .val .null, .unset] [(.int (0 : Int32)), (.ref sx)])) rfl rfl (hb hby d3_23)
  have N6 := Fr.snoc X6 N4 g_sx
  have F_coder_sx := F_coder_sx.same W6
  have E_sx := E_sx.wr W6
  have F_value_sx := F_value_sx.other W6 (Or.inr (slot_ne (Or.inr (hw _ (List.mem_of_getElem? (i := 22) rfl))) (Or.inr (hw _ (List.mem_of_getElem? (i := 23) rfl))) (by decide) (t := (.array .byte)) (t' := .byte) (by decide) (by decide)))
  have C_la := C_la.other W6 (Or.inl ne_la_sx)
  have F_la := F_la.other W6 (Or.inl ne_la_sx)
  have V_lb := V_lb.other W6 ne_lb_sx
  have ZH := Nat.le_trans ZH (Nat.le_of_eq W6.size.symm)
  have KK := KK.wr W6 (Or.inl (List.mem_of_getElem? (i := 0) rfl))
  have OO := OO.wr W6 g_sx
  have SK := Nat.le_trans SK (Nat.le_of_eq W6.size.symm)
  refine own_up st6 ?_
  show own_Go p.tables e below _ (T6.setTop (mkF m 26 #[.val (.ref sx), .val (.ref sa), .val (.int (0 : Int32)), .val (.int (0 : Int32)), .val .null, .unset] []))
  obtain ⟨fs7, hr7, hrun7, hended7, hW7⟩ := X6.leaveW hS2 (by rw [e6]; exact SK) (v := none) (fun _ => rfl)
  refine own_end ⟨_, _, ?_, hrun7, hended7, _, _, rfl, ?_, own_rew hW7 (by decide) (by decide)⟩
  · exact X6.returnOut hx Bd.returns (hb hby d3_26) hr7
  · show QrmI4w Z cz fv sx sa h0 n0 _ T6.heap _
    rw [e6]
    exact ⟨rfl, N6, KK, lb, F_value_sx, Or.inl ⟨F_coder_sx, _, own_Arf.ofArv V_lb, fun i hi => absurd hi (Nat.not_lt_zero _)⟩⟩
theorem ef_rmI1w (m : MethodId) (x0 : Addr) (x1 : Addr) : entryFrame m #[(.ref x0), (.ref x1)] 2 = mkF m 0 #[.val (.ref x0), .val (.ref x1)] [] := by first | (simp [entryFrame, mkF, argsToLocals, Value.category]; done) | rfl
def QrmI1w (Z : State) (cz : Int32) (fv : Value) (sx : Addr) (sa : Addr) (fz : Nat → Value) (h0 : Heap) (n0 : Nat) (v : Option Value) (h : Heap) (L : List Loc) : Prop := v = none ∧ Fr n0 L ∧ Keep h0 h [sx] ∧ ∃ tb : Addr, Fld Z h sx "java/lang/String" "value" "[B" (.ref tb) ∧ own_SX Z h sx tb (0 : Int32) (0 : Int32) (own_cs [])
set_option maxRecDepth 65536 in
set_option maxHeartbeats 40000000 in
theorem rmI1w (l : Launch) (Z : State) (a0 : Array Value) (hw : ∀ d ∈ tables_1, d.before a0 Z = true) (ws : List Jvm.Cond) (cz : Int32) (fv : Value) (sx : Addr) (sa : Addr) (fz : Nat → Value) (h0 : Heap) (n0 : Nat) (Z0 : n0 ≤ h0.size) (OO : Old Z n0 h0) (HW : own_W Z cz fv) (E_sx : Exa Z h0 sx "java/lang/String") (F_value_sx : Fld Z h0 sx "java/lang/String" "value" "[B" .null) (F_coder_sx : Fld Z h0 sx "java/lang/String" "coder" "B" (.int (0 : Int32))) (g_sx : n0 ≤ sx) (G_sa : own_Arf Z h0 sa .char (0 : Int32) fz) :
    MetFree l (⟨"java/lang/String", "<init>", "([C)V"⟩ : MethodName) (head1 (Jvm.Cond.code (⟨"java/lang/String", "<init>", "([C)V"⟩ : MethodName) jdk_42_method_3_code 2 none :: ws) ({ frames := 2, cells := 2, slots := 4, locals := 29 } : Room)) (fun aq Uq => aq = #[(.ref sx), (.ref sa)] ∧ Z.Warmed39 Uq.vm ∧ Uq.heap = h0 ∧ CHv Z own_EL Uq.vm h0) (fun _ _ _ _ _ => True) (fun _ Uq oq Uq' => ∃ vq Lq, oq = .returned vq ∧ QrmI1w Z cz fv sx sa fz h0 n0 vq Uq'.heap Lq ∧ ReturnedEndW Uq oq Uq' Lq ({ frames := 2, cells := 2, slots := 4, locals := 29 } : Room).cells ({ frames := 2, cells := 2, slots := 4, locals := 29 } : Room).slots) := by
  refine MetFree.of_bodySF (plainFor_of_name pn_3) hisR ?_
  intro p e s m args below meth c s₁ Bd hml0 hP hK
  obtain ⟨rfl, hZ, hh, hCH⟩ := hP
  have hx := Bd.exec
  have hby := Bd.bytes
  have hml : c.maxLocals = 2 := hml0
  have hown : s.vm.findClass "java/lang/String" = some m.cls := findClass_of_methodNamed Bd.named
  have hnm := (name_of_methodNamed Bd.named Bd.method).1
  have X0 : Stand p l e ({ frames := 2, cells := 2, slots := 4, locals := 29 } : Room) s m #[(.ref sx), (.ref sa)] below meth c s₁ [] 0 0 := Stand.of_body Bd
  have e0 : s₁.heap = h0 := by rw [← hh, Bd.state]; rfl
  have N0 := Fr.nil n0
  have ZH := Z0
  have KK := Keep.refl h0 [sx]
  refine own_start (fun t kq => castTop (ef_rmI1w m sx sa) kq) ?_
  show own_Go p.tables e below _ (s₁.setTop (mkF m 0 #[.val (.ref sx), .val (.ref sa)] []))
  have HW0 := HW
  obtain ⟨SC, hcz, SF, hfv, SA, SH, SL⟩ := HW
  refine own_up (fun _ kq => XS.aloadN X0.here hx rfl (hb hby d2_0) rfl rfl kq) ?_
  show own_Go p.tables e below _ (s₁.setTop (mkF m 1 #[.val (.ref sx), .val (.ref sa)] [(.ref sx)]))
  refine own_up (fun _ kq => XS.aloadN X0.here hx rfl (hb hby d2_1) rfl rfl kq) ?_
  show own_Go p.tables e below _ (s₁.setTop (mkF m 2 #[.val (.ref sx), .val (.ref sa)] [(.ref sa), (.ref sx)]))
  refine own_up (fun _ kq => XS.iconst X0.here hx rfl (hb hby d2_2) kq) ?_
  show own_Go p.tables e below _ (s₁.setTop (mkF m 3 #[.val (.ref sx), .val (.ref sa)] [(.int (0 : Int32)), (.ref sa), (.ref sx)]))
  refine own_up (fun _ kq => XS.aloadN X0.here hx rfl (hb hby d2_3) rfl rfl kq) ?_
  show own_Go p.tables e below _ (s₁.setTop (mkF m 4 #[.val (.ref sx), .val (.ref sa)] [(.ref sa), (.int (0 : Int32)), (.ref sa), (.ref sx)]))
  refine own_up (fun _ kq => own_Arf.alen G_sa X0 hx hZ e0 (g := (mkF m 4 #[.val (.ref sx), .val (.ref sa)] [(.ref sa), (.int (0 : Int32)), (.ref sa), (.ref sx)])) rfl rfl (hb hby d2_4) _ kq) ?_
  show own_Go p.tables e below _ (s₁.setTop (mkF m 5 #[.val (.ref sx), .val (.ref sa)] [(.int (0 : Int32)), (.int (0 : Int32)), (.ref sa), (.ref sx)]))
  refine own_up (fun _ kq => XS.aconstNull X0.here hx rfl (hb hby d2_5) kq) ?_
  show own_Go p.tables e below _ (s₁.setTop (mkF m 6 #[.val (.ref sx), .val (.ref sa)] [.null, (.int (0 : Int32)), (.int (0 : Int32)), (.ref sa), (.ref sx)]))
  obtain ⟨_, _, ⟨T1, L1, k1, n1⟩, -, X1, hS1, hg1, ⟨Lc1, hQ1, l1, y1, z1⟩, st1⟩ := X0.specialBackS hx (y := (⟨"java/lang/String", "<init>", "([CIILjava/lang/Void;)V"⟩ : MethodName)) rfl hown (mvT hZ (hw _ (List.mem_of_getElem? (i := 13) rfl))) (mvT hZ (hw _ (List.mem_of_getElem? (i := 14) rfl))) (mvT hZ (hw _ (List.mem_of_getElem? (i := 16) rfl))) (by decide) (own_backSH (s := s) (vm0 := s.vm) (W := 0) (rmI4w l Z a0 hw [] cz fv sx sa h0 n0 ZH OO HW0 E_sx F_value_sx F_coder_sx g_sx) hZ (hw _ (List.mem_of_getElem? (i := 16) rfl)) (hw _ (List.mem_of_getElem? (i := 8) rfl)) (by decide) (by decide) (own_EW hw) hCH) (g := (mkF m 6 #[.val (.ref sx), .val (.ref sa)] [.null, (.int (0 : Int32)), (.int (0 : Int32)), (.ref sa), (.ref sx)])) rfl (by rw [hml]; rfl) (Steps.refl _) (a := sx) (argsL := [(.ref sa), (.int (0 : Int32)), (.int (0 : Int32)), .null]) (rest := []) (lenOf pd_16 rfl) rfl (by show 2 * 0 + _ ≤ _; exact Nat.le_of_eq rfl) (hb hby d2_6) (fun _ _ => ⟨rfl, e0, (by decide : 0 + 2 ≤ _), (by decide : 0 + 4 ≤ _)⟩)
  dsimp only [Pt.U, Pt.locs, Pt.cells, Pt.slots] at X1 l1 y1 z1 st1 hQ1 hS1 hg1
  subst l1 y1 z1
  obtain ⟨rfl, Nq1, K1, tb, F_value_sx, hSX⟩ := hQ1
  have N1 := Fr.app N0 Nq1
  have E_sx := E_sx.keep K1
  have ZH := Nat.le_trans ZH K1.1
  have KK := KK.trans K1 (allS (Or.inl (List.mem_of_getElem? (i := 0) rfl)) all0)
  have OO := OO.keep K1 (allS g_sx all0)
  have hZ : Z.Warmed39 (s.setVm T1.vm).vm := State.Warmed39.trans hZ hS1.1
  have hown : (s.setVm T1.vm).vm.findClass "java/lang/String" = some m.cls := (hS1.1.alike.findClass _ _).trans hown
  have SK : T1.heap.size ≤ T1.heap.size := Nat.le_refl _
  refine own_up (fun _ kq => st1.trans kq) ?_
  show own_Go p.tables e below _ (T1.setTop (mkF m 9 #[.val (.ref sx), .val (.ref sa)] []))
  obtain ⟨fs2, hr2, hrun2, hended2, hW2⟩ := X1.leaveW hS1 SK (v := none) (fun _ => rfl)
  refine own_end ⟨_, _, ?_, hrun2, hended2, _, _, rfl, ?_, own_rew hW2 (by decide) (by decide)⟩
  · exact X1.returnOut hx Bd.returns (hb hby d2_9) hr2
  · show QrmI1w Z cz fv sx sa fz h0 n0 _ T1.heap _
    skip
    exact ⟨rfl, N1, KK, tb, F_value_sx, hSX⟩
theorem d1_4 : decode method_4_code 4 = .ok (.new 25, 3) := by decide +kernel
theorem d1_7 : decode method_4_code 7 = .ok (.dup, 1) := by decide +kernel
theorem d1_8 : decode method_4_code 8 = .ok (.iconst 0, 1) := by decide +kernel
theorem d1_9 : decode method_4_code 9 = .ok (.newarray .char, 2) := by decide +kernel
theorem d1_11 : decode method_4_code 11 = .ok (.invokespecial 27, 3) := by decide +kernel
theorem d1_14 : decode method_4_code 14 = .ok (.areturn, 1) := by decide +kernel
theorem ef_rmT0 (m : MethodId) (x0 : Int32) (x1 : Int32) (x2 : Int32) (x3 : Int32) (x4 : Int32) (x5 : Int32) : entryFrame m #[(.int x0), (.int x1), (.int x2), (.int x3), (.int x4), (.int x5)] 6 = mkF m 0 #[.val (.int x0), .val (.int x1), .val (.int x2), .val (.int x3), .val (.int x4), .val (.int x5)] [] := by first | (simp [entryFrame, mkF, argsToLocals, Value.category]; done) | rfl
def QrmT0 (Z : State) (cz : Int32) (fv : Value) (c0 : Int32) (c1 : Int32) (c2 : Int32) (c3 : Int32) (c4 : Int32) (h0 : Heap) (n0 : Nat) (v : Option Value) (h : Heap) (L : List Loc) : Prop := ∃ sx : Addr, h0.size ≤ sx ∧ v = some (.ref sx) ∧ Fr n0 L ∧ Keep h0 h [] ∧ Exa Z h sx "java/lang/String" ∧ ∃ tb : Addr, Fld Z h sx "java/lang/String" "value" "[B" (.ref tb) ∧ own_SX Z h sx tb (0 : Int32) (0 : Int32) (own_cs [])
set_option maxRecDepth 65536 in
set_option maxHeartbeats 40000000 in
theorem rmT0 (l : Launch) (Z : State) (a0 : Array Value) (hw : ∀ d ∈ tables_1, d.before a0 Z = true) (ws : List Jvm.Cond) (cz : Int32) (fv : Value) (c0 : Int32) (c1 : Int32) (c2 : Int32) (c3 : Int32) (c4 : Int32) (h0 : Heap) (n0 : Nat) (Z0 : n0 ≤ h0.size) (OO : Old Z n0 h0) (HW : own_W Z cz fv) :
    MetFree l (⟨"com/example/checkoff_codex/checkoffcodex/io/ValueTextDigitsPinLaw", "text", "(ICCCCC)Ljava/lang/String;"⟩ : MethodName) (head1 (Jvm.Cond.code (⟨"com/example/checkoff_codex/checkoffcodex/io/ValueTextDigitsPinLaw", "text", "(ICCCCC)Ljava/lang/String;"⟩ : MethodName) method_4_code 6 (some (.object "java/lang/String")) :: ws) ({ frames := 3, cells := 4, slots := 8, locals := 43 } : Room)) (fun aq Uq => aq = #[(.int (0 : Int32)), (.int c0), (.int c1), (.int c2), (.int c3), (.int c4)] ∧ Z.Warmed39 Uq.vm ∧ Uq.heap = h0 ∧ CHv Z own_EL Uq.vm h0) (fun _ _ _ _ _ => True) (fun _ Uq oq Uq' => ∃ vq Lq, oq = .returned vq ∧ QrmT0 Z cz fv c0 c1 c2 c3 c4 h0 n0 vq Uq'.heap Lq ∧ ReturnedEndW Uq oq Uq' Lq ({ frames := 3, cells := 4, slots := 8, locals := 43 } : Room).cells ({ frames := 3, cells := 4, slots := 8, locals := 43 } : Room).slots) := by
  refine MetFree.of_bodySF (plainFor_of_name pn_1) hisR ?_
  intro p e s m args below meth c s₁ Bd hml0 hP hK
  obtain ⟨rfl, hZ, hh, hCH⟩ := hP
  have hx := Bd.exec
  have hby := Bd.bytes
  have hml : c.maxLocals = 6 := hml0
  have hown : s.vm.findClass "com/example/checkoff_codex/checkoffcodex/io/ValueTextDigitsPinLaw" = some m.cls := findClass_of_methodNamed Bd.named
  have hnm := (name_of_methodNamed Bd.named Bd.method).1
  have X0 : Stand p l e ({ frames := 3, cells := 4, slots := 8, locals := 43 } : Room) s m #[(.int (0 : Int32)), (.int c0), (.int c1), (.int c2), (.int c3), (.int c4)] below meth c s₁ [] 0 0 := Stand.of_body Bd
  have e0 : s₁.heap = h0 := by rw [← hh, Bd.state]; rfl
  have N0 := Fr.nil n0
  have ZH := Z0
  have KK := Keep.refl h0 []
  refine own_start (fun t kq => castTop (ef_rmT0 m (0 : Int32) c0 c1 c2 c3 c4) kq) ?_
  show own_Go p.tables e below _ (s₁.setTop (mkF m 0 #[.val (.int (0 : Int32)), .val (.int c0), .val (.int c1), .val (.int c2), .val (.int c3), .val (.int c4)] []))
  have HW0 := HW
  obtain ⟨SC, hcz, SF, hfv, SA, SH, SL⟩ := HW
  refine own_up (fun _ kq => XS.iloadN X0.here hx rfl (hb hby d1_0) rfl kq) ?_
  show own_Go p.tables e below _ (s₁.setTop (mkF m 1 #[.val (.int (0 : Int32)), .val (.int c0), .val (.int c1), .val (.int c2), .val (.int c3), .val (.int c4)] [(.int (0 : Int32))]))
  refine own_up (fun _ kq => XS.ifNo X0.here hx rfl (hb hby d1_1) rfl ((if0 _ _).trans (teq (by decide : (0 : Int32) = (0 : Int32))).2) kq) ?_
  show own_Go p.tables e below _ (s₁.setTop (mkF m 4 #[.val (.int (0 : Int32)), .val (.int c0), .val (.int c1), .val (.int c2), .val (.int c3), .val (.int c4)] []))
  obtain ⟨T1, h1, X1, e1, E1, A1, D1, -, st1⟩ := newO X0 hx hZ hown (hw _ (List.mem_of_getElem? (i := 6) rfl)) (hw _ (List.mem_of_getElem? (i := 7) rfl)) (hw _ (List.mem_of_getElem? (i := 8) rfl)) e0 (g := (mkF m 4 #[.val (.int (0 : Int32)), .val (.int c0), .val (.int c1), .val (.int c2), .val (.int c3), .val (.int c4)] [])) rfl (hb hby d1_4) (by decide) (by decide)
  obtain ⟨b1, gz1⟩ : ∃ z, z = h0.size := ⟨_, rfl⟩
  rw [← gz1] at A1 D1 st1
  have g_b1 : n0 ≤ b1 := Nat.le_trans ZH (Nat.le_of_eq gz1.symm)
  have sz_b1 : h0.size ≤ b1 := Nat.le_trans KK.1 (Nat.le_of_eq gz1.symm)
  have ZH := Nat.le_trans ZH E1.1
  have KK := KK.ext E1
  have OO := OO.ext E1
  have hCH := hCH.ext E1
  have E_b1 := A1
  have F_value_b1 : Fld Z h1 b1 "java/lang/String" "value" "[B" .null := D1 (Or.inr (hw _ (List.mem_of_getElem? (i := 22) rfl))) (ty := (.array .byte)) (by decide)
  have F_coder_b1 : Fld Z h1 b1 "java/lang/String" "coder" "B" (.int (0 : Int32)) := D1 (Or.inr (hw _ (List.mem_of_getElem? (i := 23) rfl))) (ty := .byte) (by decide)
  refine own_up st1 ?_
  show own_Go p.tables e below _ (T1.setTop (mkF m 7 #[.val (.int (0 : Int32)), .val (.int c0), .val (.int c1), .val (.int c2), .val (.int c3), .val (.int c4)] [(.ref b1)]))
  refine own_up (fun _ kq => XS.dup X1.here hx rfl (hb hby d1_7) rfl rfl kq) ?_
  show own_Go p.tables e below _ (T1.setTop (mkF m 8 #[.val (.int (0 : Int32)), .val (.int c0), .val (.int c1), .val (.int c2), .val (.int c3), .val (.int c4)] [(.ref b1), (.ref b1)]))
  refine own_up (fun _ kq => XS.iconst X1.here hx rfl (hb hby d1_8) kq) ?_
  show own_Go p.tables e below _ (T1.setTop (mkF m 9 #[.val (.int (0 : Int32)), .val (.int c0), .val (.int c1), .val (.int c2), .val (.int c3), .val (.int c4)] [(.int (0 : Int32)), (.ref b1), (.ref b1)]))
  obtain ⟨T2, h2, k2, X2, e2, E2, A2, st2⟩ := newP X1 hx hZ (hw _ (List.mem_of_getElem? (i := 9) rfl)) e1 (g := (mkF m 9 #[.val (.int (0 : Int32)), .val (.int c0), .val (.int c1), .val (.int c2), .val (.int c3), .val (.int c4)] [(.int (0 : Int32)), (.ref b1), (.ref b1)])) rfl (hb hby d1_9) rfl (by decide) (cap := 0) (by decide) (by decide) (by decide) (by decide)
  obtain ⟨b2, gz2⟩ : ∃ z, z = h1.size := ⟨_, rfl⟩
  rw [← gz2] at A2 st2
  have ne_b1_b2 : b1 ≠ b2 := Nat.ne_of_lt (Nat.lt_of_lt_of_le E_b1.lt (Nat.le_of_eq gz2.symm))
  have g_b2 : n0 ≤ b2 := Nat.le_trans ZH (Nat.le_of_eq gz2.symm)
  have sz_b2 : h0.size ≤ b2 := Nat.le_trans KK.1 (Nat.le_of_eq gz2.symm)
  have E_b1 := E_b1.ext E2
  have F_value_b1 := F_value_b1.ext E2
  have F_coder_b1 := F_coder_b1.ext E2
  have ZH := Nat.le_trans ZH E2.1
  have KK := KK.ext E2
  have OO := OO.ext E2
  have hCH := hCH.ext E2
  have V_b2 : Arv Z h2 b2 k2 .char (0 : Int32) [] (.int (0 : Int32)) := (Arv.new A2 (by decide)).pad (pad_rep [] (.int (0 : Int32)) 0)
  refine own_up st2 ?_
  show own_Go p.tables e below _ (T2.setTop (mkF m 11 #[.val (.int (0 : Int32)), .val (.int c0), .val (.int c1), .val (.int c2), .val (.int c3), .val (.int c4)] [(.ref b2), (.ref b1), (.ref b1)]))
  obtain ⟨_, _, ⟨T3, L3, k3, n3⟩, -, X3, hS3, hg3, ⟨Lc3, hQ3, l3, y3, z3⟩, st3⟩ := X2.specialBackS hx (y := (⟨"java/lang/String", "<init>", "([C)V"⟩ : MethodName)) rfl hown (mvT hZ (hw _ (List.mem_of_getElem? (i := 10) rfl))) (mvT hZ (hw _ (List.mem_of_getElem? (i := 11) rfl))) (mvT hZ (hw _ (List.mem_of_getElem? (i := 12) rfl))) (by decide) (own_backSH (s := s) (vm0 := s.vm) (W := 1) (rmI1w l Z a0 hw [] cz fv b1 b2 _ h2 n0 ZH OO HW0 E_b1 F_value_b1 F_coder_b1 g_b1 (own_Arf.ofArv V_b2)) hZ (hw _ (List.mem_of_getElem? (i := 12) rfl)) (hw _ (List.mem_of_getElem? (i := 8) rfl)) (by decide) (by decide) (own_EW hw) hCH) (g := (mkF m 11 #[.val (.int (0 : Int32)), .val (.int c0), .val (.int c1), .val (.int c2), .val (.int c3), .val (.int c4)] [(.ref b2), (.ref b1), (.ref b1)])) rfl (by rw [hml]; rfl) (Steps.refl _) (a := b1) (argsL := [(.ref b2)]) (rest := [(.ref b1)]) (lenOf pd_17 rfl) rfl (by show 2 * 0 + _ ≤ _; exact Nat.le_of_eq rfl) (hb hby d1_11) (fun _ _ => ⟨rfl, e2, (by decide : 2 + 2 ≤ _), (by decide : 4 + 4 ≤ _)⟩)
  dsimp only [Pt.U, Pt.locs, Pt.cells, Pt.slots] at X3 l3 y3 z3 st3 hQ3 hS3 hg3
  subst l3 y3 z3
  obtain ⟨rfl, Nq3, K3, tb, F_sx, hSX⟩ := hQ3
  have N3 := Fr.app N0 Nq3
  have E_b1 := E_b1.keep K3
  have V_b2 := V_b2.keep K3 (ninS (Ne.symm ne_b1_b2) nin0)
  have ZH := Nat.le_trans ZH K3.1
  have KK := KK.trans K3 (allS (Or.inr sz_b1) all0)
  have OO := OO.keep K3 (allS g_b1 all0)
  have hZ : Z.Warmed39 (s.setVm T3.vm).vm := State.Warmed39.trans hZ hS3.1
  have hown : (s.setVm T3.vm).vm.findClass "com/example/checkoff_codex/checkoffcodex/io/ValueTextDigitsPinLaw" = some m.cls := (hS3.1.alike.findClass _ _).trans hown
  have SK : T3.heap.size ≤ T3.heap.size := Nat.le_refl _
  refine own_up (fun _ kq => st3.trans kq) ?_
  show own_Go p.tables e below _ (T3.setTop (mkF m 14 #[.val (.int (0 : Int32)), .val (.int c0), .val (.int c1), .val (.int c2), .val (.int c3), .val (.int c4)] [(.ref b1)]))
  obtain ⟨fs4, hr4, hrun4, hended4, hW4⟩ := X3.leaveW hS3 SK (v := some (.ref b1)) (fun h => by rw [Bd.returns] at h; cases h)
  refine own_end ⟨_, _, ?_, hrun4, hended4, _, _, rfl, ?_, own_rew hW4 (by decide) (by decide)⟩
  · exact retOut X3 hx Bd.returns rfl (Or.inr (Or.inr (Or.inr (Or.inr ⟨rfl, rfl, rfl⟩)))) (hb hby d1_14) hr4
  · show QrmT0 Z cz fv c0 c1 c2 c3 c4 h0 n0 _ T3.heap _
    skip
    exact ⟨b1, sz_b1, rfl, N3, KK, E_b1, tb, F_sx, hSX⟩
theorem pd_18 : parseMethodDescriptor "(ICCCCC)Ljava/lang/String;" = some ⟨[.int, .char, .char, .char, .char, .char], some (.object "java/lang/String")⟩ := by decide +kernel
theorem pd_19 : parseMethodDescriptor "(Ljava/lang/String;)I" = some ⟨[(.object "java/lang/String")], some .int⟩ := by decide +kernel
theorem ef_rm0 (m : MethodId) (x0 : Int32) (x1 : Int32) (x2 : Int32) (x3 : Int32) (x4 : Int32) (x5 : Int32) : entryFrame m #[(.int x0), (.int x1), (.int x2), (.int x3), (.int x4), (.int x5)] maxLocals = mkF m 0 #[.val (.int x0), .val (.int x1), .val (.int x2), .val (.int x3), .val (.int x4), .val (.int x5), .unset, .unset, .unset, .unset, .unset, .unset, .unset, .unset] [] := by first | (simp [entryFrame, mkF, argsToLocals, Value.category, maxLocals]; done) | rfl
def Qrm0 (Z : State) (p0 : Int32) (p1 : Int32) (p2 : Int32) (p3 : Int32) (p4 : Int32) (p5 : Int32) (cz : Int32) (fv : Value) (h0 : Heap) (n0 : Nat) (v : Option Value) (h : Heap) (L : List Loc) : Prop := v = some (.int 1) ∧ Fr n0 L
set_option maxRecDepth 65536 in
set_option maxHeartbeats 40000000 in
theorem rm0 (l : Launch) (Z : State) (a0 : Array Value) (hw : ∀ d ∈ tables_1, d.before a0 Z = true) (ws : List Jvm.Cond) (p0 : Int32) (p1 : Int32) (p2 : Int32) (p3 : Int32) (p4 : Int32) (p5 : Int32) (cz : Int32) (fv : Value) (h0 : Heap) (n0 : Nat) (Z0 : n0 ≤ h0.size) (OO : Old Z n0 h0) (HW : own_W Z cz fv) (hn0 : ¬ ((p0 &&& (2147483647 : Int32)) % (6 : Int32)) = 0) :
    MetFree l x (head1 (Jvm.Cond.code x code maxLocals ret :: ws) room_1) (fun aq Uq => aq = #[(.int p0), (.int p1), (.int p2), (.int p3), (.int p4), (.int p5)] ∧ Z.Warmed39 Uq.vm ∧ Uq.heap = h0) (fun _ _ _ _ _ => True) (fun _ Uq oq Uq' => ∃ vq Lq, oq = .returned vq ∧ Qrm0 Z p0 p1 p2 p3 p4 p5 cz fv h0 n0 vq Uq'.heap Lq ∧ FrameEnd Uq oq Uq' Lq 24 1152) := by
  refine MetFree.of_bodySF (plainFor_of_name pn_1) hisR ?_
  intro p e s m args below meth c s₁ Bd hml0 hP hK
  obtain ⟨rfl, hZ, hh⟩ := hP
  have hx := Bd.exec
  have hby := Bd.bytes
  have hml : c.maxLocals = 14 := hml0
  have hown : s.vm.findClass "com/example/checkoff_codex/checkoffcodex/io/ValueTextDigitsPinLaw" = some m.cls := findClass_of_methodNamed Bd.named
  have hnm := (name_of_methodNamed Bd.named Bd.method).1
  have X0 : Stand p l e room_1 s m #[(.int p0), (.int p1), (.int p2), (.int p3), (.int p4), (.int p5)] below meth c s₁ [] 0 0 := Stand.of_body Bd
  have e0 : s₁.heap = h0 := by rw [← hh, Bd.state]; rfl
  have N0 := Fr.nil n0
  have ZH := Z0
  have KK := Keep.refl h0 []
  refine own_start (fun t kq => castTop (ef_rm0 m p0 p1 p2 p3 p4 p5) kq) ?_
  show own_Go p.tables e below _ (s₁.setTop (mkF m 0 #[.val (.int p0), .val (.int p1), .val (.int p2), .val (.int p3), .val (.int p4), .val (.int p5), .unset, .unset, .unset, .unset, .unset, .unset, .unset, .unset] []))
  have HW0 := HW
  obtain ⟨SC, hcz, SF, hfv, SA, SH, SL⟩ := HW
  refine own_up (fun _ kq => XS.iloadN X0.here hx rfl (hb hby at_0) rfl kq) ?_
  show own_Go p.tables e below _ (s₁.setTop (mkF m 1 #[.val (.int p0), .val (.int p1), .val (.int p2), .val (.int p3), .val (.int p4), .val (.int p5), .unset, .unset, .unset, .unset, .unset, .unset, .unset, .unset] [(.int p0)]))
  refine own_up (fun _ kq => X0.ldcInt hx hown (mvT hZ (hw _ (List.mem_of_getElem? (i := 0) rfl))) (g := (mkF m 1 #[.val (.int p0), .val (.int p1), .val (.int p2), .val (.int p3), .val (.int p4), .val (.int p5), .unset, .unset, .unset, .unset, .unset, .unset, .unset, .unset] [(.int p0)])) rfl (hb hby at_1) _ kq) ?_
  show own_Go p.tables e below _ (s₁.setTop (mkF m 3 #[.val (.int p0), .val (.int p1), .val (.int p2), .val (.int p3), .val (.int p4), .val (.int p5), .unset, .unset, .unset, .unset, .unset, .unset, .unset, .unset] [(.int (2147483647 : Int32)), (.int p0)]))
  refine own_up (fun _ kq => XS.iand X0.here hx rfl (hb hby at_3) rfl kq) ?_
  show own_Go p.tables e below _ (s₁.setTop (mkF m 4 #[.val (.int p0), .val (.int p1), .val (.int p2), .val (.int p3), .val (.int p4), .val (.int p5), .unset, .unset, .unset, .unset, .unset, .unset, .unset, .unset] [(.int (p0 &&& (2147483647 : Int32)))]))
  refine own_up (fun _ kq => XS.bipush X0.here hx rfl (hb hby at_4) kq) ?_
  show own_Go p.tables e below _ (s₁.setTop (mkF m 6 #[.val (.int p0), .val (.int p1), .val (.int p2), .val (.int p3), .val (.int p4), .val (.int p5), .unset, .unset, .unset, .unset, .unset, .unset, .unset, .unset] [(.int (6 : Int32)), (.int (p0 &&& (2147483647 : Int32)))]))
  refine own_up (fun _ kq => XS.irem X0.here hx rfl (hb hby at_6) rfl (by decide) kq) ?_
  rw [irem_eq_mod (p0 &&& (2147483647 : Int32)) (6 : Int32)]
  show own_Go p.tables e below _ (s₁.setTop (mkF m 7 #[.val (.int p0), .val (.int p1), .val (.int p2), .val (.int p3), .val (.int p4), .val (.int p5), .unset, .unset, .unset, .unset, .unset, .unset, .unset, .unset] [(.int ((p0 &&& (2147483647 : Int32)) % (6 : Int32)))]))
  generalize hqn : ((p0 &&& (2147483647 : Int32)) % (6 : Int32)) = qn
  show own_Go p.tables e below _ (s₁.setTop (mkF m 7 #[.val (.int p0), .val (.int p1), .val (.int p2), .val (.int p3), .val (.int p4), .val (.int p5), .unset, .unset, .unset, .unset, .unset, .unset, .unset, .unset] [(.int qn)]))
  refine own_up (fun _ kq => XS.istore X0.here hx rfl (hb hby at_7) rfl (l' := #[.val (.int p0), .val (.int p1), .val (.int p2), .val (.int p3), .val (.int p4), .val (.int p5), .val (.int qn), .unset, .unset, .unset, .unset, .unset, .unset, .unset]) rfl kq) ?_
  show own_Go p.tables e below _ (s₁.setTop (mkF m 9 #[.val (.int p0), .val (.int p1), .val (.int p2), .val (.int p3), .val (.int p4), .val (.int p5), .val (.int qn), .unset, .unset, .unset, .unset, .unset, .unset, .unset] []))
  refine own_up (fun _ kq => XS.iloadN X0.here hx rfl (hb hby at_9) rfl kq) ?_
  show own_Go p.tables e below _ (s₁.setTop (mkF m 10 #[.val (.int p0), .val (.int p1), .val (.int p2), .val (.int p3), .val (.int p4), .val (.int p5), .val (.int qn), .unset, .unset, .unset, .unset, .unset, .unset, .unset] [(.int p1)]))
  refine own_up (fun _ kq => X0.ldcInt hx hown (mvT hZ (hw _ (List.mem_of_getElem? (i := 1) rfl))) (g := (mkF m 10 #[.val (.int p0), .val (.int p1), .val (.int p2), .val (.int p3), .val (.int p4), .val (.int p5), .val (.int qn), .unset, .unset, .unset, .unset, .unset, .unset, .unset] [(.int p1)])) rfl (hb hby at_10) _ kq) ?_
  show own_Go p.tables e below _ (s₁.setTop (mkF m 12 #[.val (.int p0), .val (.int p1), .val (.int p2), .val (.int p3), .val (.int p4), .val (.int p5), .val (.int qn), .unset, .unset, .unset, .unset, .unset, .unset, .unset] [(.int (65535 : Int32)), (.int p1)]))
  refine own_up (fun _ kq => XS.iand X0.here hx rfl (hb hby at_12) rfl kq) ?_
  show own_Go p.tables e below _ (s₁.setTop (mkF m 13 #[.val (.int p0), .val (.int p1), .val (.int p2), .val (.int p3), .val (.int p4), .val (.int p5), .val (.int qn), .unset, .unset, .unset, .unset, .unset, .unset, .unset] [(.int (p1 &&& (65535 : Int32)))]))
  refine own_up (fun _ kq => XS.i2c X0.here hx rfl (hb hby at_13) rfl kq) ?_
  show own_Go p.tables e below _ (s₁.setTop (mkF m 14 #[.val (.int p0), .val (.int p1), .val (.int p2), .val (.int p3), .val (.int p4), .val (.int p5), .val (.int qn), .unset, .unset, .unset, .unset, .unset, .unset, .unset] [(.int (p1 &&& (65535 : Int32)).toUInt32.toUInt16.toUInt32.toInt32)]))
  generalize hc0 : (p1 &&& (65535 : Int32)).toUInt32.toUInt16.toUInt32.toInt32 = c0
  show own_Go p.tables e below _ (s₁.setTop (mkF m 14 #[.val (.int p0), .val (.int p1), .val (.int p2), .val (.int p3), .val (.int p4), .val (.int p5), .val (.int qn), .unset, .unset, .unset, .unset, .unset, .unset, .unset] [(.int c0)]))
  have hl0 : ¬ c0 < 0 := hc0 ▸ own_chl _
  have hu0 : ¬ (65535 : Int32) < c0 := hc0 ▸ own_chu _
  refine own_up (fun _ kq => XS.istore X0.here hx rfl (hb hby at_14) rfl (l' := #[.val (.int p0), .val (.int p1), .val (.int p2), .val (.int p3), .val (.int p4), .val (.int p5), .val (.int qn), .val (.int c0), .unset, .unset, .unset, .unset, .unset, .unset]) rfl kq) ?_
  show own_Go p.tables e below _ (s₁.setTop (mkF m 16 #[.val (.int p0), .val (.int p1), .val (.int p2), .val (.int p3), .val (.int p4), .val (.int p5), .val (.int qn), .val (.int c0), .unset, .unset, .unset, .unset, .unset, .unset] []))
  refine own_up (fun _ kq => XS.iloadN X0.here hx rfl (hb hby at_16) rfl kq) ?_
  show own_Go p.tables e below _ (s₁.setTop (mkF m 17 #[.val (.int p0), .val (.int p1), .val (.int p2), .val (.int p3), .val (.int p4), .val (.int p5), .val (.int qn), .val (.int c0), .unset, .unset, .unset, .unset, .unset, .unset] [(.int p2)]))
  refine own_up (fun _ kq => X0.ldcInt hx hown (mvT hZ (hw _ (List.mem_of_getElem? (i := 1) rfl))) (g := (mkF m 17 #[.val (.int p0), .val (.int p1), .val (.int p2), .val (.int p3), .val (.int p4), .val (.int p5), .val (.int qn), .val (.int c0), .unset, .unset, .unset, .unset, .unset, .unset] [(.int p2)])) rfl (hb hby at_17) _ kq) ?_
  show own_Go p.tables e below _ (s₁.setTop (mkF m 19 #[.val (.int p0), .val (.int p1), .val (.int p2), .val (.int p3), .val (.int p4), .val (.int p5), .val (.int qn), .val (.int c0), .unset, .unset, .unset, .unset, .unset, .unset] [(.int (65535 : Int32)), (.int p2)]))
  refine own_up (fun _ kq => XS.iand X0.here hx rfl (hb hby at_19) rfl kq) ?_
  show own_Go p.tables e below _ (s₁.setTop (mkF m 20 #[.val (.int p0), .val (.int p1), .val (.int p2), .val (.int p3), .val (.int p4), .val (.int p5), .val (.int qn), .val (.int c0), .unset, .unset, .unset, .unset, .unset, .unset] [(.int (p2 &&& (65535 : Int32)))]))
  refine own_up (fun _ kq => XS.i2c X0.here hx rfl (hb hby at_20) rfl kq) ?_
  show own_Go p.tables e below _ (s₁.setTop (mkF m 21 #[.val (.int p0), .val (.int p1), .val (.int p2), .val (.int p3), .val (.int p4), .val (.int p5), .val (.int qn), .val (.int c0), .unset, .unset, .unset, .unset, .unset, .unset] [(.int (p2 &&& (65535 : Int32)).toUInt32.toUInt16.toUInt32.toInt32)]))
  generalize hc1 : (p2 &&& (65535 : Int32)).toUInt32.toUInt16.toUInt32.toInt32 = c1
  show own_Go p.tables e below _ (s₁.setTop (mkF m 21 #[.val (.int p0), .val (.int p1), .val (.int p2), .val (.int p3), .val (.int p4), .val (.int p5), .val (.int qn), .val (.int c0), .unset, .unset, .unset, .unset, .unset, .unset] [(.int c1)]))
  have hl1 : ¬ c1 < 0 := hc1 ▸ own_chl _
  have hu1 : ¬ (65535 : Int32) < c1 := hc1 ▸ own_chu _
  refine own_up (fun _ kq => XS.istore X0.here hx rfl (hb hby at_21) rfl (l' := #[.val (.int p0), .val (.int p1), .val (.int p2), .val (.int p3), .val (.int p4), .val (.int p5), .val (.int qn), .val (.int c0), .val (.int c1), .unset, .unset, .unset, .unset, .unset]) rfl kq) ?_
  show own_Go p.tables e below _ (s₁.setTop (mkF m 23 #[.val (.int p0), .val (.int p1), .val (.int p2), .val (.int p3), .val (.int p4), .val (.int p5), .val (.int qn), .val (.int c0), .val (.int c1), .unset, .unset, .unset, .unset, .unset] []))
  refine own_up (fun _ kq => XS.iloadN X0.here hx rfl (hb hby at_23) rfl kq) ?_
  show own_Go p.tables e below _ (s₁.setTop (mkF m 24 #[.val (.int p0), .val (.int p1), .val (.int p2), .val (.int p3), .val (.int p4), .val (.int p5), .val (.int qn), .val (.int c0), .val (.int c1), .unset, .unset, .unset, .unset, .unset] [(.int p3)]))
  refine own_up (fun _ kq => X0.ldcInt hx hown (mvT hZ (hw _ (List.mem_of_getElem? (i := 1) rfl))) (g := (mkF m 24 #[.val (.int p0), .val (.int p1), .val (.int p2), .val (.int p3), .val (.int p4), .val (.int p5), .val (.int qn), .val (.int c0), .val (.int c1), .unset, .unset, .unset, .unset, .unset] [(.int p3)])) rfl (hb hby at_24) _ kq) ?_
  show own_Go p.tables e below _ (s₁.setTop (mkF m 26 #[.val (.int p0), .val (.int p1), .val (.int p2), .val (.int p3), .val (.int p4), .val (.int p5), .val (.int qn), .val (.int c0), .val (.int c1), .unset, .unset, .unset, .unset, .unset] [(.int (65535 : Int32)), (.int p3)]))
  refine own_up (fun _ kq => XS.iand X0.here hx rfl (hb hby at_26) rfl kq) ?_
  show own_Go p.tables e below _ (s₁.setTop (mkF m 27 #[.val (.int p0), .val (.int p1), .val (.int p2), .val (.int p3), .val (.int p4), .val (.int p5), .val (.int qn), .val (.int c0), .val (.int c1), .unset, .unset, .unset, .unset, .unset] [(.int (p3 &&& (65535 : Int32)))]))
  refine own_up (fun _ kq => XS.i2c X0.here hx rfl (hb hby at_27) rfl kq) ?_
  show own_Go p.tables e below _ (s₁.setTop (mkF m 28 #[.val (.int p0), .val (.int p1), .val (.int p2), .val (.int p3), .val (.int p4), .val (.int p5), .val (.int qn), .val (.int c0), .val (.int c1), .unset, .unset, .unset, .unset, .unset] [(.int (p3 &&& (65535 : Int32)).toUInt32.toUInt16.toUInt32.toInt32)]))
  generalize hc2 : (p3 &&& (65535 : Int32)).toUInt32.toUInt16.toUInt32.toInt32 = c2
  show own_Go p.tables e below _ (s₁.setTop (mkF m 28 #[.val (.int p0), .val (.int p1), .val (.int p2), .val (.int p3), .val (.int p4), .val (.int p5), .val (.int qn), .val (.int c0), .val (.int c1), .unset, .unset, .unset, .unset, .unset] [(.int c2)]))
  have hl2 : ¬ c2 < 0 := hc2 ▸ own_chl _
  have hu2 : ¬ (65535 : Int32) < c2 := hc2 ▸ own_chu _
  refine own_up (fun _ kq => XS.istore X0.here hx rfl (hb hby at_28) rfl (l' := #[.val (.int p0), .val (.int p1), .val (.int p2), .val (.int p3), .val (.int p4), .val (.int p5), .val (.int qn), .val (.int c0), .val (.int c1), .val (.int c2), .unset, .unset, .unset, .unset]) rfl kq) ?_
  show own_Go p.tables e below _ (s₁.setTop (mkF m 30 #[.val (.int p0), .val (.int p1), .val (.int p2), .val (.int p3), .val (.int p4), .val (.int p5), .val (.int qn), .val (.int c0), .val (.int c1), .val (.int c2), .unset, .unset, .unset, .unset] []))
  refine own_up (fun _ kq => XS.iload X0.here hx rfl (hb hby at_30) rfl kq) ?_
  show own_Go p.tables e below _ (s₁.setTop (mkF m 32 #[.val (.int p0), .val (.int p1), .val (.int p2), .val (.int p3), .val (.int p4), .val (.int p5), .val (.int qn), .val (.int c0), .val (.int c1), .val (.int c2), .unset, .unset, .unset, .unset] [(.int p4)]))
  refine own_up (fun _ kq => X0.ldcInt hx hown (mvT hZ (hw _ (List.mem_of_getElem? (i := 1) rfl))) (g := (mkF m 32 #[.val (.int p0), .val (.int p1), .val (.int p2), .val (.int p3), .val (.int p4), .val (.int p5), .val (.int qn), .val (.int c0), .val (.int c1), .val (.int c2), .unset, .unset, .unset, .unset] [(.int p4)])) rfl (hb hby at_32) _ kq) ?_
  show own_Go p.tables e below _ (s₁.setTop (mkF m 34 #[.val (.int p0), .val (.int p1), .val (.int p2), .val (.int p3), .val (.int p4), .val (.int p5), .val (.int qn), .val (.int c0), .val (.int c1), .val (.int c2), .unset, .unset, .unset, .unset] [(.int (65535 : Int32)), (.int p4)]))
  refine own_up (fun _ kq => XS.iand X0.here hx rfl (hb hby at_34) rfl kq) ?_
  show own_Go p.tables e below _ (s₁.setTop (mkF m 35 #[.val (.int p0), .val (.int p1), .val (.int p2), .val (.int p3), .val (.int p4), .val (.int p5), .val (.int qn), .val (.int c0), .val (.int c1), .val (.int c2), .unset, .unset, .unset, .unset] [(.int (p4 &&& (65535 : Int32)))]))
  refine own_up (fun _ kq => XS.i2c X0.here hx rfl (hb hby at_35) rfl kq) ?_
  show own_Go p.tables e below _ (s₁.setTop (mkF m 36 #[.val (.int p0), .val (.int p1), .val (.int p2), .val (.int p3), .val (.int p4), .val (.int p5), .val (.int qn), .val (.int c0), .val (.int c1), .val (.int c2), .unset, .unset, .unset, .unset] [(.int (p4 &&& (65535 : Int32)).toUInt32.toUInt16.toUInt32.toInt32)]))
  generalize hc3 : (p4 &&& (65535 : Int32)).toUInt32.toUInt16.toUInt32.toInt32 = c3
  show own_Go p.tables e below _ (s₁.setTop (mkF m 36 #[.val (.int p0), .val (.int p1), .val (.int p2), .val (.int p3), .val (.int p4), .val (.int p5), .val (.int qn), .val (.int c0), .val (.int c1), .val (.int c2), .unset, .unset, .unset, .unset] [(.int c3)]))
  have hl3 : ¬ c3 < 0 := hc3 ▸ own_chl _
  have hu3 : ¬ (65535 : Int32) < c3 := hc3 ▸ own_chu _
  refine own_up (fun _ kq => XS.istore X0.here hx rfl (hb hby at_36) rfl (l' := #[.val (.int p0), .val (.int p1), .val (.int p2), .val (.int p3), .val (.int p4), .val (.int p5), .val (.int qn), .val (.int c0), .val (.int c1), .val (.int c2), .val (.int c3), .unset, .unset, .unset]) rfl kq) ?_
  show own_Go p.tables e below _ (s₁.setTop (mkF m 38 #[.val (.int p0), .val (.int p1), .val (.int p2), .val (.int p3), .val (.int p4), .val (.int p5), .val (.int qn), .val (.int c0), .val (.int c1), .val (.int c2), .val (.int c3), .unset, .unset, .unset] []))
  refine own_up (fun _ kq => XS.iload X0.here hx rfl (hb hby at_38) rfl kq) ?_
  show own_Go p.tables e below _ (s₁.setTop (mkF m 40 #[.val (.int p0), .val (.int p1), .val (.int p2), .val (.int p3), .val (.int p4), .val (.int p5), .val (.int qn), .val (.int c0), .val (.int c1), .val (.int c2), .val (.int c3), .unset, .unset, .unset] [(.int p5)]))
  refine own_up (fun _ kq => X0.ldcInt hx hown (mvT hZ (hw _ (List.mem_of_getElem? (i := 1) rfl))) (g := (mkF m 40 #[.val (.int p0), .val (.int p1), .val (.int p2), .val (.int p3), .val (.int p4), .val (.int p5), .val (.int qn), .val (.int c0), .val (.int c1), .val (.int c2), .val (.int c3), .unset, .unset, .unset] [(.int p5)])) rfl (hb hby at_40) _ kq) ?_
  show own_Go p.tables e below _ (s₁.setTop (mkF m 42 #[.val (.int p0), .val (.int p1), .val (.int p2), .val (.int p3), .val (.int p4), .val (.int p5), .val (.int qn), .val (.int c0), .val (.int c1), .val (.int c2), .val (.int c3), .unset, .unset, .unset] [(.int (65535 : Int32)), (.int p5)]))
  refine own_up (fun _ kq => XS.iand X0.here hx rfl (hb hby at_42) rfl kq) ?_
  show own_Go p.tables e below _ (s₁.setTop (mkF m 43 #[.val (.int p0), .val (.int p1), .val (.int p2), .val (.int p3), .val (.int p4), .val (.int p5), .val (.int qn), .val (.int c0), .val (.int c1), .val (.int c2), .val (.int c3), .unset, .unset, .unset] [(.int (p5 &&& (65535 : Int32)))]))
  refine own_up (fun _ kq => XS.i2c X0.here hx rfl (hb hby at_43) rfl kq) ?_
  show own_Go p.tables e below _ (s₁.setTop (mkF m 44 #[.val (.int p0), .val (.int p1), .val (.int p2), .val (.int p3), .val (.int p4), .val (.int p5), .val (.int qn), .val (.int c0), .val (.int c1), .val (.int c2), .val (.int c3), .unset, .unset, .unset] [(.int (p5 &&& (65535 : Int32)).toUInt32.toUInt16.toUInt32.toInt32)]))
  generalize hc4 : (p5 &&& (65535 : Int32)).toUInt32.toUInt16.toUInt32.toInt32 = c4
  show own_Go p.tables e below _ (s₁.setTop (mkF m 44 #[.val (.int p0), .val (.int p1), .val (.int p2), .val (.int p3), .val (.int p4), .val (.int p5), .val (.int qn), .val (.int c0), .val (.int c1), .val (.int c2), .val (.int c3), .unset, .unset, .unset] [(.int c4)]))
  have hl4 : ¬ c4 < 0 := hc4 ▸ own_chl _
  have hu4 : ¬ (65535 : Int32) < c4 := hc4 ▸ own_chu _
  refine own_up (fun _ kq => XS.istore X0.here hx rfl (hb hby at_44) rfl (l' := #[.val (.int p0), .val (.int p1), .val (.int p2), .val (.int p3), .val (.int p4), .val (.int p5), .val (.int qn), .val (.int c0), .val (.int c1), .val (.int c2), .val (.int c3), .val (.int c4), .unset, .unset]) rfl kq) ?_
  show own_Go p.tables e below _ (s₁.setTop (mkF m 46 #[.val (.int p0), .val (.int p1), .val (.int p2), .val (.int p3), .val (.int p4), .val (.int p5), .val (.int qn), .val (.int c0), .val (.int c1), .val (.int c2), .val (.int c3), .val (.int c4), .unset, .unset] []))
  rcases own_n6 hqn hn0 with rfl | rfl | rfl | rfl | rfl
  · show own_Go p.tables e below _ (s₁.setTop (mkF m 46 #[.val (.int p0), .val (.int p1), .val (.int p2), .val (.int p3), .val (.int p4), .val (.int p5), .val (.int (1 : Int32)), .val (.int c0), .val (.int c1), .val (.int c2), .val (.int c3), .val (.int c4), .unset, .unset] []))
    refine own_up (fun _ kq => XS.iload X0.here hx rfl (hb hby at_46) rfl kq) ?_
    show own_Go p.tables e below _ (s₁.setTop (mkF m 48 #[.val (.int p0), .val (.int p1), .val (.int p2), .val (.int p3), .val (.int p4), .val (.int p5), .val (.int (1 : Int32)), .val (.int c0), .val (.int c1), .val (.int c2), .val (.int c3), .val (.int c4), .unset, .unset] [(.int (1 : Int32))]))
    refine own_up (fun _ kq => XS.iload X0.here hx rfl (hb hby at_48) rfl kq) ?_
    show own_Go p.tables e below _ (s₁.setTop (mkF m 50 #[.val (.int p0), .val (.int p1), .val (.int p2), .val (.int p3), .val (.int p4), .val (.int p5), .val (.int (1 : Int32)), .val (.int c0), .val (.int c1), .val (.int c2), .val (.int c3), .val (.int c4), .unset, .unset] [(.int c0), (.int (1 : Int32))]))
    refine own_up (fun _ kq => XS.iload X0.here hx rfl (hb hby at_50) rfl kq) ?_
    show own_Go p.tables e below _ (s₁.setTop (mkF m 52 #[.val (.int p0), .val (.int p1), .val (.int p2), .val (.int p3), .val (.int p4), .val (.int p5), .val (.int (1 : Int32)), .val (.int c0), .val (.int c1), .val (.int c2), .val (.int c3), .val (.int c4), .unset, .unset] [(.int c1), (.int c0), (.int (1 : Int32))]))
    refine own_up (fun _ kq => XS.iload X0.here hx rfl (hb hby at_52) rfl kq) ?_
    show own_Go p.tables e below _ (s₁.setTop (mkF m 54 #[.val (.int p0), .val (.int p1), .val (.int p2), .val (.int p3), .val (.int p4), .val (.int p5), .val (.int (1 : Int32)), .val (.int c0), .val (.int c1), .val (.int c2), .val (.int c3), .val (.int c4), .unset, .unset] [(.int c2), (.int c1), (.int c0), (.int (1 : Int32))]))
    refine own_up (fun _ kq => XS.iload X0.here hx rfl (hb hby at_54) rfl kq) ?_
    show own_Go p.tables e below _ (s₁.setTop (mkF m 56 #[.val (.int p0), .val (.int p1), .val (.int p2), .val (.int p3), .val (.int p4), .val (.int p5), .val (.int (1 : Int32)), .val (.int c0), .val (.int c1), .val (.int c2), .val (.int c3), .val (.int c4), .unset, .unset] [(.int c3), (.int c2), (.int c1), (.int c0), (.int (1 : Int32))]))
    refine own_up (fun _ kq => XS.iload X0.here hx rfl (hb hby at_56) rfl kq) ?_
    show own_Go p.tables e below _ (s₁.setTop (mkF m 58 #[.val (.int p0), .val (.int p1), .val (.int p2), .val (.int p3), .val (.int p4), .val (.int p5), .val (.int (1 : Int32)), .val (.int c0), .val (.int c1), .val (.int c2), .val (.int c3), .val (.int c4), .unset, .unset] [(.int c4), (.int c3), (.int c2), (.int c1), (.int c0), (.int (1 : Int32))]))
    obtain ⟨_, _, ⟨T1, L1, k1, n1⟩, -, X1, ⟨Lc1, hQ1, l1, y1, z1⟩, st1⟩ := Jvm.LawKit.callS X0 hx (y := (⟨"com/example/checkoff_codex/checkoffcodex/io/ValueTextDigitsPinLaw", "text", "(ICCCCC)Ljava/lang/String;"⟩ : MethodName)) hown (mvT hZ (hw _ (List.mem_of_getElem? (i := 2) rfl))) (mvT hZ (hw _ (List.mem_of_getElem? (i := 3) rfl))) (mvT hZ (hw _ (List.mem_of_getElem? (i := 4) rfl))) (mvT hZ (hw _ (List.mem_of_getElem? (i := 5) rfl))) (by decide) (backOf (W := 0) (rmT1 l Z a0 hw [] cz fv c0 c1 c2 c3 c4 h0 n0 ZH OO HW0 hl0 hu0) hZ (hw _ (List.mem_of_getElem? (i := 5) rfl)) (hw _ (List.mem_of_getElem? (i := 4) rfl)) (by decide) (by decide)) (g := (mkF m 58 #[.val (.int p0), .val (.int p1), .val (.int p2), .val (.int p3), .val (.int p4), .val (.int p5), .val (.int (1 : Int32)), .val (.int c0), .val (.int c1), .val (.int c2), .val (.int c3), .val (.int c4), .unset, .unset] [(.int c4), (.int c3), (.int c2), (.int c1), (.int c0), (.int (1 : Int32))])) rfl (by rw [hml]; rfl) (argsL := [(.int (1 : Int32)), (.int c0), (.int c1), (.int c2), (.int c3), (.int c4)]) (rest := []) (lenOf pd_18 rfl) rfl (by show 2 * 0 + _ ≤ _; exact Nat.le_of_eq rfl) (hb hby at_58) (fun _ _ => ⟨rfl, e0, (by decide : 0 + 4 ≤ _), (by decide : 0 + 20 ≤ _)⟩)
    dsimp only [Pt.U, Pt.locs, Pt.cells, Pt.slots] at X1 l1 y1 z1 st1 hQ1
    subst l1 y1 z1
    obtain ⟨sx, sf1, rfl, Nq1, K1, E_sx, tb, F_sx, hSX⟩ := hQ1
    have g_sx : n0 ≤ sx := Nat.le_trans ZH sf1
    have sz_sx : h0.size ≤ sx := Nat.le_trans KK.1 sf1
    have N1 := Fr.app N0 Nq1
    have ZH := Nat.le_trans ZH K1.1
    have KK := KK.trans K1 all0
    have OO := OO.keep K1 all0
    refine own_up st1 ?_
    show own_Go p.tables e below _ (T1.setTop (mkF m 61 #[.val (.int p0), .val (.int p1), .val (.int p2), .val (.int p3), .val (.int p4), .val (.int p5), .val (.int (1 : Int32)), .val (.int c0), .val (.int c1), .val (.int c2), .val (.int c3), .val (.int c4), .unset, .unset] [(.ref sx)]))
    refine own_up (fun _ kq => XS.astore X1.here hx rfl (hb hby at_61) rfl rfl (l' := #[.val (.int p0), .val (.int p1), .val (.int p2), .val (.int p3), .val (.int p4), .val (.int p5), .val (.int (1 : Int32)), .val (.int c0), .val (.int c1), .val (.int c2), .val (.int c3), .val (.int c4), .val (.ref sx), .unset]) rfl kq) ?_
    show own_Go p.tables e below _ (T1.setTop (mkF m 63 #[.val (.int p0), .val (.int p1), .val (.int p2), .val (.int p3), .val (.int p4), .val (.int p5), .val (.int (1 : Int32)), .val (.int c0), .val (.int c1), .val (.int c2), .val (.int c3), .val (.int c4), .val (.ref sx), .unset] []))
    refine own_up (fun _ kq => XS.iconst X1.here hx rfl (hb hby at_63) kq) ?_
    show own_Go p.tables e below _ (T1.setTop (mkF m 64 #[.val (.int p0), .val (.int p1), .val (.int p2), .val (.int p3), .val (.int p4), .val (.int p5), .val (.int (1 : Int32)), .val (.int c0), .val (.int c1), .val (.int c2), .val (.int c3), .val (.int c4), .val (.ref sx), .unset] [(.int (0 : Int32))]))
    refine own_up (fun _ kq => XS.istore X1.here hx rfl (hb hby at_64) rfl (l' := #[.val (.int p0), .val (.int p1), .val (.int p2), .val (.int p3), .val (.int p4), .val (.int p5), .val (.int (1 : Int32)), .val (.int c0), .val (.int c1), .val (.int c2), .val (.int c3), .val (.int c4), .val (.ref sx), .val (.int (0 : Int32))]) rfl kq) ?_
    show own_Go p.tables e below _ (T1.setTop (mkF m 66 #[.val (.int p0), .val (.int p1), .val (.int p2), .val (.int p3), .val (.int p4), .val (.int p5), .val (.int (1 : Int32)), .val (.int c0), .val (.int c1), .val (.int c2), .val (.int c3), .val (.int c4), .val (.ref sx), .val (.int (0 : Int32))] []))
    refine own_up (fun _ kq => XS.iload X1.here hx rfl (hb hby at_66) rfl kq) ?_
    show own_Go p.tables e below _ (T1.setTop (mkF m 68 #[.val (.int p0), .val (.int p1), .val (.int p2), .val (.int p3), .val (.int p4), .val (.int p5), .val (.int (1 : Int32)), .val (.int c0), .val (.int c1), .val (.int c2), .val (.int c3), .val (.int c4), .val (.ref sx), .val (.int (0 : Int32))] [(.int (1 : Int32))]))
    refine own_up (fun _ kq => XS.ifNo X1.here hx rfl (hb hby at_68) rfl ((if0 _ _).trans (tlt (by decide : (0 : Int32) < (1 : Int32))).2.2.2) kq) ?_
    show own_Go p.tables e below _ (T1.setTop (mkF m 71 #[.val (.int p0), .val (.int p1), .val (.int p2), .val (.int p3), .val (.int p4), .val (.int p5), .val (.int (1 : Int32)), .val (.int c0), .val (.int c1), .val (.int c2), .val (.int c3), .val (.int c4), .val (.ref sx), .val (.int (0 : Int32))] []))
    refine own_up (fun _ kq => XS.iload X1.here hx rfl (hb hby at_71) rfl kq) ?_
    show own_Go p.tables e below _ (T1.setTop (mkF m 73 #[.val (.int p0), .val (.int p1), .val (.int p2), .val (.int p3), .val (.int p4), .val (.int p5), .val (.int (1 : Int32)), .val (.int c0), .val (.int c1), .val (.int c2), .val (.int c3), .val (.int c4), .val (.ref sx), .val (.int (0 : Int32))] [(.int c0)]))
    obtain ⟨_, _, ⟨T2, L2, k2, n2⟩, -, X2, ⟨Lc2, hQ2, l2, y2, z2⟩, st2⟩ := Jvm.LawKit.callS X1 hx (y := (⟨"com/example/checkoff_codex/checkoffcodex/io/ValueTextDigitsPinLaw", "ascii", "(C)Z"⟩ : MethodName)) hown (mvT hZ (hw _ (List.mem_of_getElem? (i := 53) rfl))) (mvT hZ (hw _ (List.mem_of_getElem? (i := 54) rfl))) (mvT hZ (hw _ (List.mem_of_getElem? (i := 4) rfl))) (mvT hZ (hw _ (List.mem_of_getElem? (i := 55) rfl))) (by decide) (backOf (W := 0) (rmAs l Z a0 hw [] c0 T1.heap n0 ZH) hZ (hw _ (List.mem_of_getElem? (i := 55) rfl)) (hw _ (List.mem_of_getElem? (i := 4) rfl)) (by decide) (by decide)) (g := (mkF m 73 #[.val (.int p0), .val (.int p1), .val (.int p2), .val (.int p3), .val (.int p4), .val (.int p5), .val (.int (1 : Int32)), .val (.int c0), .val (.int c1), .val (.int c2), .val (.int c3), .val (.int c4), .val (.ref sx), .val (.int (0 : Int32))] [(.int c0)])) rfl (by rw [hml]; rfl) (argsL := [(.int c0)]) (rest := []) (lenOf pd_9 rfl) rfl (by show 2 * 0 + _ ≤ _; exact Nat.le_of_eq rfl) (hb hby at_73) (fun _ _ => ⟨rfl, rfl, (by decide : 4 + 0 ≤ _), (by decide : 20 + 0 ≤ _)⟩)
    dsimp only [Pt.U, Pt.locs, Pt.cells, Pt.slots] at X2 l2 y2 z2 st2 hQ2
    subst l2 y2 z2
    obtain ⟨rfl, Nq2, e2⟩ := hQ2
    have N2 := Fr.app N1 Nq2
    refine own_up st2 ?_
    show own_Go p.tables e below _ (T2.setTop (mkF m 76 #[.val (.int p0), .val (.int p1), .val (.int p2), .val (.int p3), .val (.int p4), .val (.int p5), .val (.int (1 : Int32)), .val (.int c0), .val (.int c1), .val (.int c2), .val (.int c3), .val (.int c4), .val (.ref sx), .val (.int (0 : Int32))] [(.int (own_dg c0))]))
    obtain ⟨v76_0, hv76_0⟩ : ∃ z : Int32, z = if (own_dg c0) = (0 : Int32) then (0 : Int32) else (1 : Int32) := ⟨_, rfl⟩
    have sg3 : ∀ t, Steps p.tables e below (T2.setTop (mkF m 82 #[.val (.int p0), .val (.int p1), .val (.int p2), .val (.int p3), .val (.int p4), .val (.int p5), .val (.int (1 : Int32)), .val (.int c0), .val (.int c1), .val (.int c2), .val (.int c3), .val (.int c4), .val (.ref sx), .val (.int v76_0)] [])) t → Steps p.tables e below (T2.setTop (mkF m 76 #[.val (.int p0), .val (.int p1), .val (.int p2), .val (.int p3), .val (.int p4), .val (.int p5), .val (.int (1 : Int32)), .val (.int c0), .val (.int c1), .val (.int c2), .val (.int c3), .val (.int c4), .val (.ref sx), .val (.int (0 : Int32))] [(.int (own_dg c0))])) t := by
      intro t kq
      by_cases hc76 : (own_dg c0) = (0 : Int32)
      · rw [hv76_0, if_pos hc76] at kq
        refine XS.ifYes X2.here hx rfl (pc0 := 76) (pc' := 82) rfl (hb hby at_76) rfl ((if0 _ _).trans (teq hc76).1) (by decide) (by decide) ?_
        show Steps p.tables e below (T2.setTop (mkF m 82 #[.val (.int p0), .val (.int p1), .val (.int p2), .val (.int p3), .val (.int p4), .val (.int p5), .val (.int (1 : Int32)), .val (.int c0), .val (.int c1), .val (.int c2), .val (.int c3), .val (.int c4), .val (.ref sx), .val (.int (0 : Int32))] [])) _
        exact kq
      · rw [hv76_0, if_neg hc76] at kq
        refine XS.ifNo X2.here hx rfl (hb hby at_76) rfl ((if0 _ _).trans (feq hc76).1) ?_
        show Steps p.tables e below (T2.setTop (mkF m 79 #[.val (.int p0), .val (.int p1), .val (.int p2), .val (.int p3), .val (.int p4), .val (.int p5), .val (.int (1 : Int32)), .val (.int c0), .val (.int c1), .val (.int c2), .val (.int c3), .val (.int c4), .val (.ref sx), .val (.int (0 : Int32))] [])) _
        refine XS.iinc X2.here hx rfl (hb hby at_79) rfl (l' := #[.val (.int p0), .val (.int p1), .val (.int p2), .val (.int p3), .val (.int p4), .val (.int p5), .val (.int (1 : Int32)), .val (.int c0), .val (.int c1), .val (.int c2), .val (.int c3), .val (.int c4), .val (.ref sx), .val (.int (1 : Int32))]) rfl ?_
        show Steps p.tables e below (T2.setTop (mkF m 82 #[.val (.int p0), .val (.int p1), .val (.int p2), .val (.int p3), .val (.int p4), .val (.int p5), .val (.int (1 : Int32)), .val (.int c0), .val (.int c1), .val (.int c2), .val (.int c3), .val (.int c4), .val (.ref sx), .val (.int (1 : Int32))] [])) _
        exact kq
    refine own_up sg3 ?_
    show own_Go p.tables e below _ (T2.setTop (mkF m 82 #[.val (.int p0), .val (.int p1), .val (.int p2), .val (.int p3), .val (.int p4), .val (.int p5), .val (.int (1 : Int32)), .val (.int c0), .val (.int c1), .val (.int c2), .val (.int c3), .val (.int c4), .val (.ref sx), .val (.int v76_0)] []))
    refine own_up (fun _ kq => XS.iload X2.here hx rfl (hb hby at_82) rfl kq) ?_
    show own_Go p.tables e below _ (T2.setTop (mkF m 84 #[.val (.int p0), .val (.int p1), .val (.int p2), .val (.int p3), .val (.int p4), .val (.int p5), .val (.int (1 : Int32)), .val (.int c0), .val (.int c1), .val (.int c2), .val (.int c3), .val (.int c4), .val (.ref sx), .val (.int v76_0)] [(.int (1 : Int32))]))
    refine own_up (fun _ kq => XS.iconst X2.here hx rfl (hb hby at_84) kq) ?_
    show own_Go p.tables e below _ (T2.setTop (mkF m 85 #[.val (.int p0), .val (.int p1), .val (.int p2), .val (.int p3), .val (.int p4), .val (.int p5), .val (.int (1 : Int32)), .val (.int c0), .val (.int c1), .val (.int c2), .val (.int c3), .val (.int c4), .val (.ref sx), .val (.int v76_0)] [(.int (1 : Int32)), (.int (1 : Int32))]))
    refine own_up (fun _ kq => XS.icmpYes X2.here hx rfl (pc0 := 85) (pc' := 99) rfl (hb hby at_85) rfl (flt (by decide : ¬ ((1 : Int32) < (1 : Int32)))).2.2.2 (by decide) (by decide) kq) ?_
    show own_Go p.tables e below _ (T2.setTop (mkF m 99 #[.val (.int p0), .val (.int p1), .val (.int p2), .val (.int p3), .val (.int p4), .val (.int p5), .val (.int (1 : Int32)), .val (.int c0), .val (.int c1), .val (.int c2), .val (.int c3), .val (.int c4), .val (.ref sx), .val (.int v76_0)] []))
    refine own_up (fun _ kq => XS.iload X2.here hx rfl (hb hby at_99) rfl kq) ?_
    show own_Go p.tables e below _ (T2.setTop (mkF m 101 #[.val (.int p0), .val (.int p1), .val (.int p2), .val (.int p3), .val (.int p4), .val (.int p5), .val (.int (1 : Int32)), .val (.int c0), .val (.int c1), .val (.int c2), .val (.int c3), .val (.int c4), .val (.ref sx), .val (.int v76_0)] [(.int (1 : Int32))]))
    refine own_up (fun _ kq => XS.iconst X2.here hx rfl (hb hby at_101) kq) ?_
    show own_Go p.tables e below _ (T2.setTop (mkF m 102 #[.val (.int p0), .val (.int p1), .val (.int p2), .val (.int p3), .val (.int p4), .val (.int p5), .val (.int (1 : Int32)), .val (.int c0), .val (.int c1), .val (.int c2), .val (.int c3), .val (.int c4), .val (.ref sx), .val (.int v76_0)] [(.int (2 : Int32)), (.int (1 : Int32))]))
    refine own_up (fun _ kq => XS.icmpYes X2.here hx rfl (pc0 := 102) (pc' := 116) rfl (hb hby at_102) rfl (flt (by decide : ¬ ((2 : Int32) < (1 : Int32)))).2.2.2 (by decide) (by decide) kq) ?_
    show own_Go p.tables e below _ (T2.setTop (mkF m 116 #[.val (.int p0), .val (.int p1), .val (.int p2), .val (.int p3), .val (.int p4), .val (.int p5), .val (.int (1 : Int32)), .val (.int c0), .val (.int c1), .val (.int c2), .val (.int c3), .val (.int c4), .val (.ref sx), .val (.int v76_0)] []))
    refine own_up (fun _ kq => XS.iload X2.here hx rfl (hb hby at_116) rfl kq) ?_
    show own_Go p.tables e below _ (T2.setTop (mkF m 118 #[.val (.int p0), .val (.int p1), .val (.int p2), .val (.int p3), .val (.int p4), .val (.int p5), .val (.int (1 : Int32)), .val (.int c0), .val (.int c1), .val (.int c2), .val (.int c3), .val (.int c4), .val (.ref sx), .val (.int v76_0)] [(.int (1 : Int32))]))
    refine own_up (fun _ kq => XS.iconst X2.here hx rfl (hb hby at_118) kq) ?_
    show own_Go p.tables e below _ (T2.setTop (mkF m 119 #[.val (.int p0), .val (.int p1), .val (.int p2), .val (.int p3), .val (.int p4), .val (.int p5), .val (.int (1 : Int32)), .val (.int c0), .val (.int c1), .val (.int c2), .val (.int c3), .val (.int c4), .val (.ref sx), .val (.int v76_0)] [(.int (3 : Int32)), (.int (1 : Int32))]))
    refine own_up (fun _ kq => XS.icmpYes X2.here hx rfl (pc0 := 119) (pc' := 133) rfl (hb hby at_119) rfl (flt (by decide : ¬ ((3 : Int32) < (1 : Int32)))).2.2.2 (by decide) (by decide) kq) ?_
    show own_Go p.tables e below _ (T2.setTop (mkF m 133 #[.val (.int p0), .val (.int p1), .val (.int p2), .val (.int p3), .val (.int p4), .val (.int p5), .val (.int (1 : Int32)), .val (.int c0), .val (.int c1), .val (.int c2), .val (.int c3), .val (.int c4), .val (.ref sx), .val (.int v76_0)] []))
    refine own_up (fun _ kq => XS.iload X2.here hx rfl (hb hby at_133) rfl kq) ?_
    show own_Go p.tables e below _ (T2.setTop (mkF m 135 #[.val (.int p0), .val (.int p1), .val (.int p2), .val (.int p3), .val (.int p4), .val (.int p5), .val (.int (1 : Int32)), .val (.int c0), .val (.int c1), .val (.int c2), .val (.int c3), .val (.int c4), .val (.ref sx), .val (.int v76_0)] [(.int (1 : Int32))]))
    refine own_up (fun _ kq => XS.iconst X2.here hx rfl (hb hby at_135) kq) ?_
    show own_Go p.tables e below _ (T2.setTop (mkF m 136 #[.val (.int p0), .val (.int p1), .val (.int p2), .val (.int p3), .val (.int p4), .val (.int p5), .val (.int (1 : Int32)), .val (.int c0), .val (.int c1), .val (.int c2), .val (.int c3), .val (.int c4), .val (.ref sx), .val (.int v76_0)] [(.int (4 : Int32)), (.int (1 : Int32))]))
    refine own_up (fun _ kq => XS.icmpYes X2.here hx rfl (pc0 := 136) (pc' := 150) rfl (hb hby at_136) rfl (flt (by decide : ¬ ((4 : Int32) < (1 : Int32)))).2.2.2 (by decide) (by decide) kq) ?_
    show own_Go p.tables e below _ (T2.setTop (mkF m 150 #[.val (.int p0), .val (.int p1), .val (.int p2), .val (.int p3), .val (.int p4), .val (.int p5), .val (.int (1 : Int32)), .val (.int c0), .val (.int c1), .val (.int c2), .val (.int c3), .val (.int c4), .val (.ref sx), .val (.int v76_0)] []))
    refine own_up (fun _ kq => XS.aload X2.here hx rfl (hb hby at_150) rfl rfl kq) ?_
    show own_Go p.tables e below _ (T2.setTop (mkF m 152 #[.val (.int p0), .val (.int p1), .val (.int p2), .val (.int p3), .val (.int p4), .val (.int p5), .val (.int (1 : Int32)), .val (.int c0), .val (.int c1), .val (.int c2), .val (.int c3), .val (.int c4), .val (.ref sx), .val (.int v76_0)] [(.ref sx)]))
    obtain ⟨_, _, ⟨T4, L4, k4, n4⟩, -, X4, ⟨Lc4, hQ4, l4, y4, z4⟩, st4⟩ := Jvm.LawKit.callS X2 hx (y := (⟨"com/example/checkoff_codex/checkoffcodex/io/ValueText", "digits", "(Ljava/lang/String;)I"⟩ : MethodName)) hown (mvT hZ (hw _ (List.mem_of_getElem? (i := 28) rfl))) (mvT hZ (hw _ (List.mem_of_getElem? (i := 29) rfl))) (mvT hZ (hw _ (List.mem_of_getElem? (i := 30) rfl))) (mvT hZ (hw _ (List.mem_of_getElem? (i := 31) rfl))) (by decide) (backOf (W := 0) (rmD l Z a0 hw [] cz fv sx tb (1 : Int32) (2 : Int32) (own_cs [c0]) T1.heap n0 ZH OO HW0 E_sx F_sx hSX (own_chL [c0] (List.forall_mem_cons.mpr ⟨⟨hl0, hu0⟩, (fun _ h => nomatch h)⟩)) (by unfold own_sm; decide) (by decide)) hZ (hw _ (List.mem_of_getElem? (i := 31) rfl)) (hw _ (List.mem_of_getElem? (i := 30) rfl)) (by decide) (by decide)) (g := (mkF m 152 #[.val (.int p0), .val (.int p1), .val (.int p2), .val (.int p3), .val (.int p4), .val (.int p5), .val (.int (1 : Int32)), .val (.int c0), .val (.int c1), .val (.int c2), .val (.int c3), .val (.int c4), .val (.ref sx), .val (.int v76_0)] [(.ref sx)])) rfl (by rw [hml]; rfl) (argsL := [(.ref sx)]) (rest := []) (lenOf pd_19 rfl) rfl (by show 2 * 0 + _ ≤ _; exact Nat.le_of_eq rfl) (hb hby at_152) (fun _ _ => ⟨rfl, e2, (by decide : 4 + 0 ≤ _), (by decide : 20 + 0 ≤ _)⟩)
    dsimp only [Pt.U, Pt.locs, Pt.cells, Pt.slots] at X4 l4 y4 z4 st4 hQ4
    subst l4 y4 z4
    obtain ⟨rfl, Nq4, e4⟩ := hQ4
    have N4 := Fr.app N2 Nq4
    refine own_up st4 ?_
    show own_Go p.tables e below _ (T4.setTop (mkF m 155 #[.val (.int p0), .val (.int p1), .val (.int p2), .val (.int p3), .val (.int p4), .val (.int p5), .val (.int (1 : Int32)), .val (.int c0), .val (.int c1), .val (.int c2), .val (.int c3), .val (.int c4), .val (.ref sx), .val (.int v76_0)] [(.int (own_cf (own_cs [c0]) ((1 : Int32)).toNatClampNeg))]))
    refine own_up (fun _ kq => XS.iload X4.here hx rfl (hb hby at_155) rfl kq) ?_
    show own_Go p.tables e below _ (T4.setTop (mkF m 157 #[.val (.int p0), .val (.int p1), .val (.int p2), .val (.int p3), .val (.int p4), .val (.int p5), .val (.int (1 : Int32)), .val (.int c0), .val (.int c1), .val (.int c2), .val (.int c3), .val (.int c4), .val (.ref sx), .val (.int v76_0)] [(.int v76_0), (.int (own_cf (own_cs [c0]) ((1 : Int32)).toNatClampNeg))]))
    refine own_up (fun _ kq => XS.icmpNo X4.here hx rfl (hb hby at_157) rfl (teq (by rw [hv76_0]; rfl)).2 kq) ?_
    show own_Go p.tables e below _ (T4.setTop (mkF m 160 #[.val (.int p0), .val (.int p1), .val (.int p2), .val (.int p3), .val (.int p4), .val (.int p5), .val (.int (1 : Int32)), .val (.int c0), .val (.int c1), .val (.int c2), .val (.int c3), .val (.int c4), .val (.ref sx), .val (.int v76_0)] []))
    refine own_up (fun _ kq => XS.iconst X4.here hx rfl (hb hby at_160) kq) ?_
    show own_Go p.tables e below _ (T4.setTop (mkF m 161 #[.val (.int p0), .val (.int p1), .val (.int p2), .val (.int p3), .val (.int p4), .val (.int p5), .val (.int (1 : Int32)), .val (.int c0), .val (.int c1), .val (.int c2), .val (.int c3), .val (.int c4), .val (.ref sx), .val (.int v76_0)] [(.int (1 : Int32))]))
    refine own_up (fun _ kq => XS.goto X4.here hx rfl (pc0 := 161) (pc' := 165) rfl (hb hby at_161) (by decide) (by decide) kq) ?_
    show own_Go p.tables e below _ (T4.setTop (mkF m 165 #[.val (.int p0), .val (.int p1), .val (.int p2), .val (.int p3), .val (.int p4), .val (.int p5), .val (.int (1 : Int32)), .val (.int c0), .val (.int c1), .val (.int c2), .val (.int c3), .val (.int c4), .val (.ref sx), .val (.int v76_0)] [(.int (1 : Int32))]))
    obtain ⟨fs5, hr5, hrun5, hended5, hW5, hsame5⟩ := X4.leave (v := some (.int (1 : Int32))) (fun h => by rw [Bd.returns] at h; cases h)
    refine own_end ⟨_, _, ?_, hrun5, hended5, _, _, rfl, ?_, ⟨_, rfl⟩, hW5, hsame5.mono (by decide) (by decide)⟩
    · exact retN X4 hx (t := .boolean) Bd.returns (by simp) (hb hby at_165) hr5
    · show Qrm0 Z p0 p1 p2 p3 p4 p5 cz fv h0 n0 _ T4.heap _
      rw [e4]
      exact ⟨rfl, N4⟩
  · show own_Go p.tables e below _ (s₁.setTop (mkF m 46 #[.val (.int p0), .val (.int p1), .val (.int p2), .val (.int p3), .val (.int p4), .val (.int p5), .val (.int (2 : Int32)), .val (.int c0), .val (.int c1), .val (.int c2), .val (.int c3), .val (.int c4), .unset, .unset] []))
    refine own_up (fun _ kq => XS.iload X0.here hx rfl (hb hby at_46) rfl kq) ?_
    show own_Go p.tables e below _ (s₁.setTop (mkF m 48 #[.val (.int p0), .val (.int p1), .val (.int p2), .val (.int p3), .val (.int p4), .val (.int p5), .val (.int (2 : Int32)), .val (.int c0), .val (.int c1), .val (.int c2), .val (.int c3), .val (.int c4), .unset, .unset] [(.int (2 : Int32))]))
    refine own_up (fun _ kq => XS.iload X0.here hx rfl (hb hby at_48) rfl kq) ?_
    show own_Go p.tables e below _ (s₁.setTop (mkF m 50 #[.val (.int p0), .val (.int p1), .val (.int p2), .val (.int p3), .val (.int p4), .val (.int p5), .val (.int (2 : Int32)), .val (.int c0), .val (.int c1), .val (.int c2), .val (.int c3), .val (.int c4), .unset, .unset] [(.int c0), (.int (2 : Int32))]))
    refine own_up (fun _ kq => XS.iload X0.here hx rfl (hb hby at_50) rfl kq) ?_
    show own_Go p.tables e below _ (s₁.setTop (mkF m 52 #[.val (.int p0), .val (.int p1), .val (.int p2), .val (.int p3), .val (.int p4), .val (.int p5), .val (.int (2 : Int32)), .val (.int c0), .val (.int c1), .val (.int c2), .val (.int c3), .val (.int c4), .unset, .unset] [(.int c1), (.int c0), (.int (2 : Int32))]))
    refine own_up (fun _ kq => XS.iload X0.here hx rfl (hb hby at_52) rfl kq) ?_
    show own_Go p.tables e below _ (s₁.setTop (mkF m 54 #[.val (.int p0), .val (.int p1), .val (.int p2), .val (.int p3), .val (.int p4), .val (.int p5), .val (.int (2 : Int32)), .val (.int c0), .val (.int c1), .val (.int c2), .val (.int c3), .val (.int c4), .unset, .unset] [(.int c2), (.int c1), (.int c0), (.int (2 : Int32))]))
    refine own_up (fun _ kq => XS.iload X0.here hx rfl (hb hby at_54) rfl kq) ?_
    show own_Go p.tables e below _ (s₁.setTop (mkF m 56 #[.val (.int p0), .val (.int p1), .val (.int p2), .val (.int p3), .val (.int p4), .val (.int p5), .val (.int (2 : Int32)), .val (.int c0), .val (.int c1), .val (.int c2), .val (.int c3), .val (.int c4), .unset, .unset] [(.int c3), (.int c2), (.int c1), (.int c0), (.int (2 : Int32))]))
    refine own_up (fun _ kq => XS.iload X0.here hx rfl (hb hby at_56) rfl kq) ?_
    show own_Go p.tables e below _ (s₁.setTop (mkF m 58 #[.val (.int p0), .val (.int p1), .val (.int p2), .val (.int p3), .val (.int p4), .val (.int p5), .val (.int (2 : Int32)), .val (.int c0), .val (.int c1), .val (.int c2), .val (.int c3), .val (.int c4), .unset, .unset] [(.int c4), (.int c3), (.int c2), (.int c1), (.int c0), (.int (2 : Int32))]))
    obtain ⟨_, _, ⟨T6, L6, k6, n6⟩, -, X6, ⟨Lc6, hQ6, l6, y6, z6⟩, st6⟩ := Jvm.LawKit.callS X0 hx (y := (⟨"com/example/checkoff_codex/checkoffcodex/io/ValueTextDigitsPinLaw", "text", "(ICCCCC)Ljava/lang/String;"⟩ : MethodName)) hown (mvT hZ (hw _ (List.mem_of_getElem? (i := 2) rfl))) (mvT hZ (hw _ (List.mem_of_getElem? (i := 3) rfl))) (mvT hZ (hw _ (List.mem_of_getElem? (i := 4) rfl))) (mvT hZ (hw _ (List.mem_of_getElem? (i := 5) rfl))) (by decide) (backOf (W := 0) (rmT2 l Z a0 hw [] cz fv c0 c1 c2 c3 c4 h0 n0 ZH OO HW0 hl0 hl1 hu0 hu1) hZ (hw _ (List.mem_of_getElem? (i := 5) rfl)) (hw _ (List.mem_of_getElem? (i := 4) rfl)) (by decide) (by decide)) (g := (mkF m 58 #[.val (.int p0), .val (.int p1), .val (.int p2), .val (.int p3), .val (.int p4), .val (.int p5), .val (.int (2 : Int32)), .val (.int c0), .val (.int c1), .val (.int c2), .val (.int c3), .val (.int c4), .unset, .unset] [(.int c4), (.int c3), (.int c2), (.int c1), (.int c0), (.int (2 : Int32))])) rfl (by rw [hml]; rfl) (argsL := [(.int (2 : Int32)), (.int c0), (.int c1), (.int c2), (.int c3), (.int c4)]) (rest := []) (lenOf pd_18 rfl) rfl (by show 2 * 0 + _ ≤ _; exact Nat.le_of_eq rfl) (hb hby at_58) (fun _ _ => ⟨rfl, e0, (by decide : 0 + 4 ≤ _), (by decide : 0 + 21 ≤ _)⟩)
    dsimp only [Pt.U, Pt.locs, Pt.cells, Pt.slots] at X6 l6 y6 z6 st6 hQ6
    subst l6 y6 z6
    obtain ⟨sx, sf6, rfl, Nq6, K6, E_sx, tb, F_sx, hSX⟩ := hQ6
    have g_sx : n0 ≤ sx := Nat.le_trans ZH sf6
    have sz_sx : h0.size ≤ sx := Nat.le_trans KK.1 sf6
    have N6 := Fr.app N0 Nq6
    have ZH := Nat.le_trans ZH K6.1
    have KK := KK.trans K6 all0
    have OO := OO.keep K6 all0
    refine own_up st6 ?_
    show own_Go p.tables e below _ (T6.setTop (mkF m 61 #[.val (.int p0), .val (.int p1), .val (.int p2), .val (.int p3), .val (.int p4), .val (.int p5), .val (.int (2 : Int32)), .val (.int c0), .val (.int c1), .val (.int c2), .val (.int c3), .val (.int c4), .unset, .unset] [(.ref sx)]))
    refine own_up (fun _ kq => XS.astore X6.here hx rfl (hb hby at_61) rfl rfl (l' := #[.val (.int p0), .val (.int p1), .val (.int p2), .val (.int p3), .val (.int p4), .val (.int p5), .val (.int (2 : Int32)), .val (.int c0), .val (.int c1), .val (.int c2), .val (.int c3), .val (.int c4), .val (.ref sx), .unset]) rfl kq) ?_
    show own_Go p.tables e below _ (T6.setTop (mkF m 63 #[.val (.int p0), .val (.int p1), .val (.int p2), .val (.int p3), .val (.int p4), .val (.int p5), .val (.int (2 : Int32)), .val (.int c0), .val (.int c1), .val (.int c2), .val (.int c3), .val (.int c4), .val (.ref sx), .unset] []))
    refine own_up (fun _ kq => XS.iconst X6.here hx rfl (hb hby at_63) kq) ?_
    show own_Go p.tables e below _ (T6.setTop (mkF m 64 #[.val (.int p0), .val (.int p1), .val (.int p2), .val (.int p3), .val (.int p4), .val (.int p5), .val (.int (2 : Int32)), .val (.int c0), .val (.int c1), .val (.int c2), .val (.int c3), .val (.int c4), .val (.ref sx), .unset] [(.int (0 : Int32))]))
    refine own_up (fun _ kq => XS.istore X6.here hx rfl (hb hby at_64) rfl (l' := #[.val (.int p0), .val (.int p1), .val (.int p2), .val (.int p3), .val (.int p4), .val (.int p5), .val (.int (2 : Int32)), .val (.int c0), .val (.int c1), .val (.int c2), .val (.int c3), .val (.int c4), .val (.ref sx), .val (.int (0 : Int32))]) rfl kq) ?_
    show own_Go p.tables e below _ (T6.setTop (mkF m 66 #[.val (.int p0), .val (.int p1), .val (.int p2), .val (.int p3), .val (.int p4), .val (.int p5), .val (.int (2 : Int32)), .val (.int c0), .val (.int c1), .val (.int c2), .val (.int c3), .val (.int c4), .val (.ref sx), .val (.int (0 : Int32))] []))
    refine own_up (fun _ kq => XS.iload X6.here hx rfl (hb hby at_66) rfl kq) ?_
    show own_Go p.tables e below _ (T6.setTop (mkF m 68 #[.val (.int p0), .val (.int p1), .val (.int p2), .val (.int p3), .val (.int p4), .val (.int p5), .val (.int (2 : Int32)), .val (.int c0), .val (.int c1), .val (.int c2), .val (.int c3), .val (.int c4), .val (.ref sx), .val (.int (0 : Int32))] [(.int (2 : Int32))]))
    refine own_up (fun _ kq => XS.ifNo X6.here hx rfl (hb hby at_68) rfl ((if0 _ _).trans (tlt (by decide : (0 : Int32) < (2 : Int32))).2.2.2) kq) ?_
    show own_Go p.tables e below _ (T6.setTop (mkF m 71 #[.val (.int p0), .val (.int p1), .val (.int p2), .val (.int p3), .val (.int p4), .val (.int p5), .val (.int (2 : Int32)), .val (.int c0), .val (.int c1), .val (.int c2), .val (.int c3), .val (.int c4), .val (.ref sx), .val (.int (0 : Int32))] []))
    refine own_up (fun _ kq => XS.iload X6.here hx rfl (hb hby at_71) rfl kq) ?_
    show own_Go p.tables e below _ (T6.setTop (mkF m 73 #[.val (.int p0), .val (.int p1), .val (.int p2), .val (.int p3), .val (.int p4), .val (.int p5), .val (.int (2 : Int32)), .val (.int c0), .val (.int c1), .val (.int c2), .val (.int c3), .val (.int c4), .val (.ref sx), .val (.int (0 : Int32))] [(.int c0)]))
    obtain ⟨_, _, ⟨T7, L7, k7, n7⟩, -, X7, ⟨Lc7, hQ7, l7, y7, z7⟩, st7⟩ := Jvm.LawKit.callS X6 hx (y := (⟨"com/example/checkoff_codex/checkoffcodex/io/ValueTextDigitsPinLaw", "ascii", "(C)Z"⟩ : MethodName)) hown (mvT hZ (hw _ (List.mem_of_getElem? (i := 53) rfl))) (mvT hZ (hw _ (List.mem_of_getElem? (i := 54) rfl))) (mvT hZ (hw _ (List.mem_of_getElem? (i := 4) rfl))) (mvT hZ (hw _ (List.mem_of_getElem? (i := 55) rfl))) (by decide) (backOf (W := 0) (rmAs l Z a0 hw [] c0 T6.heap n0 ZH) hZ (hw _ (List.mem_of_getElem? (i := 55) rfl)) (hw _ (List.mem_of_getElem? (i := 4) rfl)) (by decide) (by decide)) (g := (mkF m 73 #[.val (.int p0), .val (.int p1), .val (.int p2), .val (.int p3), .val (.int p4), .val (.int p5), .val (.int (2 : Int32)), .val (.int c0), .val (.int c1), .val (.int c2), .val (.int c3), .val (.int c4), .val (.ref sx), .val (.int (0 : Int32))] [(.int c0)])) rfl (by rw [hml]; rfl) (argsL := [(.int c0)]) (rest := []) (lenOf pd_9 rfl) rfl (by show 2 * 0 + _ ≤ _; exact Nat.le_of_eq rfl) (hb hby at_73) (fun _ _ => ⟨rfl, rfl, (by decide : 4 + 0 ≤ _), (by decide : 21 + 0 ≤ _)⟩)
    dsimp only [Pt.U, Pt.locs, Pt.cells, Pt.slots] at X7 l7 y7 z7 st7 hQ7
    subst l7 y7 z7
    obtain ⟨rfl, Nq7, e7⟩ := hQ7
    have N7 := Fr.app N6 Nq7
    refine own_up st7 ?_
    show own_Go p.tables e below _ (T7.setTop (mkF m 76 #[.val (.int p0), .val (.int p1), .val (.int p2), .val (.int p3), .val (.int p4), .val (.int p5), .val (.int (2 : Int32)), .val (.int c0), .val (.int c1), .val (.int c2), .val (.int c3), .val (.int c4), .val (.ref sx), .val (.int (0 : Int32))] [(.int (own_dg c0))]))
    obtain ⟨v76_1, hv76_1⟩ : ∃ z : Int32, z = if (own_dg c0) = (0 : Int32) then (0 : Int32) else (1 : Int32) := ⟨_, rfl⟩
    have sg8 : ∀ t, Steps p.tables e below (T7.setTop (mkF m 82 #[.val (.int p0), .val (.int p1), .val (.int p2), .val (.int p3), .val (.int p4), .val (.int p5), .val (.int (2 : Int32)), .val (.int c0), .val (.int c1), .val (.int c2), .val (.int c3), .val (.int c4), .val (.ref sx), .val (.int v76_1)] [])) t → Steps p.tables e below (T7.setTop (mkF m 76 #[.val (.int p0), .val (.int p1), .val (.int p2), .val (.int p3), .val (.int p4), .val (.int p5), .val (.int (2 : Int32)), .val (.int c0), .val (.int c1), .val (.int c2), .val (.int c3), .val (.int c4), .val (.ref sx), .val (.int (0 : Int32))] [(.int (own_dg c0))])) t := by
      intro t kq
      by_cases hc76 : (own_dg c0) = (0 : Int32)
      · rw [hv76_1, if_pos hc76] at kq
        refine XS.ifYes X7.here hx rfl (pc0 := 76) (pc' := 82) rfl (hb hby at_76) rfl ((if0 _ _).trans (teq hc76).1) (by decide) (by decide) ?_
        show Steps p.tables e below (T7.setTop (mkF m 82 #[.val (.int p0), .val (.int p1), .val (.int p2), .val (.int p3), .val (.int p4), .val (.int p5), .val (.int (2 : Int32)), .val (.int c0), .val (.int c1), .val (.int c2), .val (.int c3), .val (.int c4), .val (.ref sx), .val (.int (0 : Int32))] [])) _
        exact kq
      · rw [hv76_1, if_neg hc76] at kq
        refine XS.ifNo X7.here hx rfl (hb hby at_76) rfl ((if0 _ _).trans (feq hc76).1) ?_
        show Steps p.tables e below (T7.setTop (mkF m 79 #[.val (.int p0), .val (.int p1), .val (.int p2), .val (.int p3), .val (.int p4), .val (.int p5), .val (.int (2 : Int32)), .val (.int c0), .val (.int c1), .val (.int c2), .val (.int c3), .val (.int c4), .val (.ref sx), .val (.int (0 : Int32))] [])) _
        refine XS.iinc X7.here hx rfl (hb hby at_79) rfl (l' := #[.val (.int p0), .val (.int p1), .val (.int p2), .val (.int p3), .val (.int p4), .val (.int p5), .val (.int (2 : Int32)), .val (.int c0), .val (.int c1), .val (.int c2), .val (.int c3), .val (.int c4), .val (.ref sx), .val (.int (1 : Int32))]) rfl ?_
        show Steps p.tables e below (T7.setTop (mkF m 82 #[.val (.int p0), .val (.int p1), .val (.int p2), .val (.int p3), .val (.int p4), .val (.int p5), .val (.int (2 : Int32)), .val (.int c0), .val (.int c1), .val (.int c2), .val (.int c3), .val (.int c4), .val (.ref sx), .val (.int (1 : Int32))] [])) _
        exact kq
    refine own_up sg8 ?_
    show own_Go p.tables e below _ (T7.setTop (mkF m 82 #[.val (.int p0), .val (.int p1), .val (.int p2), .val (.int p3), .val (.int p4), .val (.int p5), .val (.int (2 : Int32)), .val (.int c0), .val (.int c1), .val (.int c2), .val (.int c3), .val (.int c4), .val (.ref sx), .val (.int v76_1)] []))
    refine own_up (fun _ kq => XS.iload X7.here hx rfl (hb hby at_82) rfl kq) ?_
    show own_Go p.tables e below _ (T7.setTop (mkF m 84 #[.val (.int p0), .val (.int p1), .val (.int p2), .val (.int p3), .val (.int p4), .val (.int p5), .val (.int (2 : Int32)), .val (.int c0), .val (.int c1), .val (.int c2), .val (.int c3), .val (.int c4), .val (.ref sx), .val (.int v76_1)] [(.int (2 : Int32))]))
    refine own_up (fun _ kq => XS.iconst X7.here hx rfl (hb hby at_84) kq) ?_
    show own_Go p.tables e below _ (T7.setTop (mkF m 85 #[.val (.int p0), .val (.int p1), .val (.int p2), .val (.int p3), .val (.int p4), .val (.int p5), .val (.int (2 : Int32)), .val (.int c0), .val (.int c1), .val (.int c2), .val (.int c3), .val (.int c4), .val (.ref sx), .val (.int v76_1)] [(.int (1 : Int32)), (.int (2 : Int32))]))
    refine own_up (fun _ kq => XS.icmpNo X7.here hx rfl (hb hby at_85) rfl (tlt (by decide : (1 : Int32) < (2 : Int32))).2.2.2 kq) ?_
    show own_Go p.tables e below _ (T7.setTop (mkF m 88 #[.val (.int p0), .val (.int p1), .val (.int p2), .val (.int p3), .val (.int p4), .val (.int p5), .val (.int (2 : Int32)), .val (.int c0), .val (.int c1), .val (.int c2), .val (.int c3), .val (.int c4), .val (.ref sx), .val (.int v76_1)] []))
    refine own_up (fun _ kq => XS.iload X7.here hx rfl (hb hby at_88) rfl kq) ?_
    show own_Go p.tables e below _ (T7.setTop (mkF m 90 #[.val (.int p0), .val (.int p1), .val (.int p2), .val (.int p3), .val (.int p4), .val (.int p5), .val (.int (2 : Int32)), .val (.int c0), .val (.int c1), .val (.int c2), .val (.int c3), .val (.int c4), .val (.ref sx), .val (.int v76_1)] [(.int c1)]))
    obtain ⟨_, _, ⟨T9, L9, k9, n9⟩, -, X9, ⟨Lc9, hQ9, l9, y9, z9⟩, st9⟩ := Jvm.LawKit.callS X7 hx (y := (⟨"com/example/checkoff_codex/checkoffcodex/io/ValueTextDigitsPinLaw", "ascii", "(C)Z"⟩ : MethodName)) hown (mvT hZ (hw _ (List.mem_of_getElem? (i := 53) rfl))) (mvT hZ (hw _ (List.mem_of_getElem? (i := 54) rfl))) (mvT hZ (hw _ (List.mem_of_getElem? (i := 4) rfl))) (mvT hZ (hw _ (List.mem_of_getElem? (i := 55) rfl))) (by decide) (backOf (W := 0) (rmAs l Z a0 hw [] c1 T6.heap n0 ZH) hZ (hw _ (List.mem_of_getElem? (i := 55) rfl)) (hw _ (List.mem_of_getElem? (i := 4) rfl)) (by decide) (by decide)) (g := (mkF m 90 #[.val (.int p0), .val (.int p1), .val (.int p2), .val (.int p3), .val (.int p4), .val (.int p5), .val (.int (2 : Int32)), .val (.int c0), .val (.int c1), .val (.int c2), .val (.int c3), .val (.int c4), .val (.ref sx), .val (.int v76_1)] [(.int c1)])) rfl (by rw [hml]; rfl) (argsL := [(.int c1)]) (rest := []) (lenOf pd_9 rfl) rfl (by show 2 * 0 + _ ≤ _; exact Nat.le_of_eq rfl) (hb hby at_90) (fun _ _ => ⟨rfl, e7, (by decide : 4 + 0 ≤ _), (by decide : 21 + 0 ≤ _)⟩)
    dsimp only [Pt.U, Pt.locs, Pt.cells, Pt.slots] at X9 l9 y9 z9 st9 hQ9
    subst l9 y9 z9
    obtain ⟨rfl, Nq9, e9⟩ := hQ9
    have N9 := Fr.app N7 Nq9
    refine own_up st9 ?_
    show own_Go p.tables e below _ (T9.setTop (mkF m 93 #[.val (.int p0), .val (.int p1), .val (.int p2), .val (.int p3), .val (.int p4), .val (.int p5), .val (.int (2 : Int32)), .val (.int c0), .val (.int c1), .val (.int c2), .val (.int c3), .val (.int c4), .val (.ref sx), .val (.int v76_1)] [(.int (own_dg c1))]))
    obtain ⟨v93_2, hv93_2⟩ : ∃ z : Int32, z = if (own_dg c1) = (0 : Int32) then v76_1 else (v76_1 + (1 : Int32)) := ⟨_, rfl⟩
    have sg10 : ∀ t, Steps p.tables e below (T9.setTop (mkF m 99 #[.val (.int p0), .val (.int p1), .val (.int p2), .val (.int p3), .val (.int p4), .val (.int p5), .val (.int (2 : Int32)), .val (.int c0), .val (.int c1), .val (.int c2), .val (.int c3), .val (.int c4), .val (.ref sx), .val (.int v93_2)] [])) t → Steps p.tables e below (T9.setTop (mkF m 93 #[.val (.int p0), .val (.int p1), .val (.int p2), .val (.int p3), .val (.int p4), .val (.int p5), .val (.int (2 : Int32)), .val (.int c0), .val (.int c1), .val (.int c2), .val (.int c3), .val (.int c4), .val (.ref sx), .val (.int v76_1)] [(.int (own_dg c1))])) t := by
      intro t kq
      by_cases hc93 : (own_dg c1) = (0 : Int32)
      · rw [hv93_2, if_pos hc93] at kq
        refine XS.ifYes X9.here hx rfl (pc0 := 93) (pc' := 99) rfl (hb hby at_93) rfl ((if0 _ _).trans (teq hc93).1) (by decide) (by decide) ?_
        show Steps p.tables e below (T9.setTop (mkF m 99 #[.val (.int p0), .val (.int p1), .val (.int p2), .val (.int p3), .val (.int p4), .val (.int p5), .val (.int (2 : Int32)), .val (.int c0), .val (.int c1), .val (.int c2), .val (.int c3), .val (.int c4), .val (.ref sx), .val (.int v76_1)] [])) _
        exact kq
      · rw [hv93_2, if_neg hc93] at kq
        refine XS.ifNo X9.here hx rfl (hb hby at_93) rfl ((if0 _ _).trans (feq hc93).1) ?_
        show Steps p.tables e below (T9.setTop (mkF m 96 #[.val (.int p0), .val (.int p1), .val (.int p2), .val (.int p3), .val (.int p4), .val (.int p5), .val (.int (2 : Int32)), .val (.int c0), .val (.int c1), .val (.int c2), .val (.int c3), .val (.int c4), .val (.ref sx), .val (.int v76_1)] [])) _
        refine XS.iinc X9.here hx rfl (hb hby at_96) rfl (l' := #[.val (.int p0), .val (.int p1), .val (.int p2), .val (.int p3), .val (.int p4), .val (.int p5), .val (.int (2 : Int32)), .val (.int c0), .val (.int c1), .val (.int c2), .val (.int c3), .val (.int c4), .val (.ref sx), .val (.int (v76_1 + (1 : Int32)))]) rfl ?_
        show Steps p.tables e below (T9.setTop (mkF m 99 #[.val (.int p0), .val (.int p1), .val (.int p2), .val (.int p3), .val (.int p4), .val (.int p5), .val (.int (2 : Int32)), .val (.int c0), .val (.int c1), .val (.int c2), .val (.int c3), .val (.int c4), .val (.ref sx), .val (.int (v76_1 + (1 : Int32)))] [])) _
        exact kq
    refine own_up sg10 ?_
    show own_Go p.tables e below _ (T9.setTop (mkF m 99 #[.val (.int p0), .val (.int p1), .val (.int p2), .val (.int p3), .val (.int p4), .val (.int p5), .val (.int (2 : Int32)), .val (.int c0), .val (.int c1), .val (.int c2), .val (.int c3), .val (.int c4), .val (.ref sx), .val (.int v93_2)] []))
    refine own_up (fun _ kq => XS.iload X9.here hx rfl (hb hby at_99) rfl kq) ?_
    show own_Go p.tables e below _ (T9.setTop (mkF m 101 #[.val (.int p0), .val (.int p1), .val (.int p2), .val (.int p3), .val (.int p4), .val (.int p5), .val (.int (2 : Int32)), .val (.int c0), .val (.int c1), .val (.int c2), .val (.int c3), .val (.int c4), .val (.ref sx), .val (.int v93_2)] [(.int (2 : Int32))]))
    refine own_up (fun _ kq => XS.iconst X9.here hx rfl (hb hby at_101) kq) ?_
    show own_Go p.tables e below _ (T9.setTop (mkF m 102 #[.val (.int p0), .val (.int p1), .val (.int p2), .val (.int p3), .val (.int p4), .val (.int p5), .val (.int (2 : Int32)), .val (.int c0), .val (.int c1), .val (.int c2), .val (.int c3), .val (.int c4), .val (.ref sx), .val (.int v93_2)] [(.int (2 : Int32)), (.int (2 : Int32))]))
    refine own_up (fun _ kq => XS.icmpYes X9.here hx rfl (pc0 := 102) (pc' := 116) rfl (hb hby at_102) rfl (flt (by decide : ¬ ((2 : Int32) < (2 : Int32)))).2.2.2 (by decide) (by decide) kq) ?_
    show own_Go p.tables e below _ (T9.setTop (mkF m 116 #[.val (.int p0), .val (.int p1), .val (.int p2), .val (.int p3), .val (.int p4), .val (.int p5), .val (.int (2 : Int32)), .val (.int c0), .val (.int c1), .val (.int c2), .val (.int c3), .val (.int c4), .val (.ref sx), .val (.int v93_2)] []))
    refine own_up (fun _ kq => XS.iload X9.here hx rfl (hb hby at_116) rfl kq) ?_
    show own_Go p.tables e below _ (T9.setTop (mkF m 118 #[.val (.int p0), .val (.int p1), .val (.int p2), .val (.int p3), .val (.int p4), .val (.int p5), .val (.int (2 : Int32)), .val (.int c0), .val (.int c1), .val (.int c2), .val (.int c3), .val (.int c4), .val (.ref sx), .val (.int v93_2)] [(.int (2 : Int32))]))
    refine own_up (fun _ kq => XS.iconst X9.here hx rfl (hb hby at_118) kq) ?_
    show own_Go p.tables e below _ (T9.setTop (mkF m 119 #[.val (.int p0), .val (.int p1), .val (.int p2), .val (.int p3), .val (.int p4), .val (.int p5), .val (.int (2 : Int32)), .val (.int c0), .val (.int c1), .val (.int c2), .val (.int c3), .val (.int c4), .val (.ref sx), .val (.int v93_2)] [(.int (3 : Int32)), (.int (2 : Int32))]))
    refine own_up (fun _ kq => XS.icmpYes X9.here hx rfl (pc0 := 119) (pc' := 133) rfl (hb hby at_119) rfl (flt (by decide : ¬ ((3 : Int32) < (2 : Int32)))).2.2.2 (by decide) (by decide) kq) ?_
    show own_Go p.tables e below _ (T9.setTop (mkF m 133 #[.val (.int p0), .val (.int p1), .val (.int p2), .val (.int p3), .val (.int p4), .val (.int p5), .val (.int (2 : Int32)), .val (.int c0), .val (.int c1), .val (.int c2), .val (.int c3), .val (.int c4), .val (.ref sx), .val (.int v93_2)] []))
    refine own_up (fun _ kq => XS.iload X9.here hx rfl (hb hby at_133) rfl kq) ?_
    show own_Go p.tables e below _ (T9.setTop (mkF m 135 #[.val (.int p0), .val (.int p1), .val (.int p2), .val (.int p3), .val (.int p4), .val (.int p5), .val (.int (2 : Int32)), .val (.int c0), .val (.int c1), .val (.int c2), .val (.int c3), .val (.int c4), .val (.ref sx), .val (.int v93_2)] [(.int (2 : Int32))]))
    refine own_up (fun _ kq => XS.iconst X9.here hx rfl (hb hby at_135) kq) ?_
    show own_Go p.tables e below _ (T9.setTop (mkF m 136 #[.val (.int p0), .val (.int p1), .val (.int p2), .val (.int p3), .val (.int p4), .val (.int p5), .val (.int (2 : Int32)), .val (.int c0), .val (.int c1), .val (.int c2), .val (.int c3), .val (.int c4), .val (.ref sx), .val (.int v93_2)] [(.int (4 : Int32)), (.int (2 : Int32))]))
    refine own_up (fun _ kq => XS.icmpYes X9.here hx rfl (pc0 := 136) (pc' := 150) rfl (hb hby at_136) rfl (flt (by decide : ¬ ((4 : Int32) < (2 : Int32)))).2.2.2 (by decide) (by decide) kq) ?_
    show own_Go p.tables e below _ (T9.setTop (mkF m 150 #[.val (.int p0), .val (.int p1), .val (.int p2), .val (.int p3), .val (.int p4), .val (.int p5), .val (.int (2 : Int32)), .val (.int c0), .val (.int c1), .val (.int c2), .val (.int c3), .val (.int c4), .val (.ref sx), .val (.int v93_2)] []))
    refine own_up (fun _ kq => XS.aload X9.here hx rfl (hb hby at_150) rfl rfl kq) ?_
    show own_Go p.tables e below _ (T9.setTop (mkF m 152 #[.val (.int p0), .val (.int p1), .val (.int p2), .val (.int p3), .val (.int p4), .val (.int p5), .val (.int (2 : Int32)), .val (.int c0), .val (.int c1), .val (.int c2), .val (.int c3), .val (.int c4), .val (.ref sx), .val (.int v93_2)] [(.ref sx)]))
    obtain ⟨_, _, ⟨T11, L11, k11, n11⟩, -, X11, ⟨Lc11, hQ11, l11, y11, z11⟩, st11⟩ := Jvm.LawKit.callS X9 hx (y := (⟨"com/example/checkoff_codex/checkoffcodex/io/ValueText", "digits", "(Ljava/lang/String;)I"⟩ : MethodName)) hown (mvT hZ (hw _ (List.mem_of_getElem? (i := 28) rfl))) (mvT hZ (hw _ (List.mem_of_getElem? (i := 29) rfl))) (mvT hZ (hw _ (List.mem_of_getElem? (i := 30) rfl))) (mvT hZ (hw _ (List.mem_of_getElem? (i := 31) rfl))) (by decide) (backOf (W := 0) (rmD l Z a0 hw [] cz fv sx tb (2 : Int32) (4 : Int32) (own_cs [c0, c1]) T6.heap n0 ZH OO HW0 E_sx F_sx hSX (own_chL [c0, c1] (List.forall_mem_cons.mpr ⟨⟨hl0, hu0⟩, (List.forall_mem_cons.mpr ⟨⟨hl1, hu1⟩, (fun _ h => nomatch h)⟩)⟩)) (by unfold own_sm; decide) (by decide)) hZ (hw _ (List.mem_of_getElem? (i := 31) rfl)) (hw _ (List.mem_of_getElem? (i := 30) rfl)) (by decide) (by decide)) (g := (mkF m 152 #[.val (.int p0), .val (.int p1), .val (.int p2), .val (.int p3), .val (.int p4), .val (.int p5), .val (.int (2 : Int32)), .val (.int c0), .val (.int c1), .val (.int c2), .val (.int c3), .val (.int c4), .val (.ref sx), .val (.int v93_2)] [(.ref sx)])) rfl (by rw [hml]; rfl) (argsL := [(.ref sx)]) (rest := []) (lenOf pd_19 rfl) rfl (by show 2 * 0 + _ ≤ _; exact Nat.le_of_eq rfl) (hb hby at_152) (fun _ _ => ⟨rfl, e9, (by decide : 4 + 0 ≤ _), (by decide : 21 + 0 ≤ _)⟩)
    dsimp only [Pt.U, Pt.locs, Pt.cells, Pt.slots] at X11 l11 y11 z11 st11 hQ11
    subst l11 y11 z11
    obtain ⟨rfl, Nq11, e11⟩ := hQ11
    have N11 := Fr.app N9 Nq11
    refine own_up st11 ?_
    show own_Go p.tables e below _ (T11.setTop (mkF m 155 #[.val (.int p0), .val (.int p1), .val (.int p2), .val (.int p3), .val (.int p4), .val (.int p5), .val (.int (2 : Int32)), .val (.int c0), .val (.int c1), .val (.int c2), .val (.int c3), .val (.int c4), .val (.ref sx), .val (.int v93_2)] [(.int (own_cf (own_cs [c0, c1]) ((2 : Int32)).toNatClampNeg))]))
    refine own_up (fun _ kq => XS.iload X11.here hx rfl (hb hby at_155) rfl kq) ?_
    show own_Go p.tables e below _ (T11.setTop (mkF m 157 #[.val (.int p0), .val (.int p1), .val (.int p2), .val (.int p3), .val (.int p4), .val (.int p5), .val (.int (2 : Int32)), .val (.int c0), .val (.int c1), .val (.int c2), .val (.int c3), .val (.int c4), .val (.ref sx), .val (.int v93_2)] [(.int v93_2), (.int (own_cf (own_cs [c0, c1]) ((2 : Int32)).toNatClampNeg))]))
    refine own_up (fun _ kq => XS.icmpNo X11.here hx rfl (hb hby at_157) rfl (teq (by rw [hv93_2, hv76_1]; rfl)).2 kq) ?_
    show own_Go p.tables e below _ (T11.setTop (mkF m 160 #[.val (.int p0), .val (.int p1), .val (.int p2), .val (.int p3), .val (.int p4), .val (.int p5), .val (.int (2 : Int32)), .val (.int c0), .val (.int c1), .val (.int c2), .val (.int c3), .val (.int c4), .val (.ref sx), .val (.int v93_2)] []))
    refine own_up (fun _ kq => XS.iconst X11.here hx rfl (hb hby at_160) kq) ?_
    show own_Go p.tables e below _ (T11.setTop (mkF m 161 #[.val (.int p0), .val (.int p1), .val (.int p2), .val (.int p3), .val (.int p4), .val (.int p5), .val (.int (2 : Int32)), .val (.int c0), .val (.int c1), .val (.int c2), .val (.int c3), .val (.int c4), .val (.ref sx), .val (.int v93_2)] [(.int (1 : Int32))]))
    refine own_up (fun _ kq => XS.goto X11.here hx rfl (pc0 := 161) (pc' := 165) rfl (hb hby at_161) (by decide) (by decide) kq) ?_
    show own_Go p.tables e below _ (T11.setTop (mkF m 165 #[.val (.int p0), .val (.int p1), .val (.int p2), .val (.int p3), .val (.int p4), .val (.int p5), .val (.int (2 : Int32)), .val (.int c0), .val (.int c1), .val (.int c2), .val (.int c3), .val (.int c4), .val (.ref sx), .val (.int v93_2)] [(.int (1 : Int32))]))
    obtain ⟨fs12, hr12, hrun12, hended12, hW12, hsame12⟩ := X11.leave (v := some (.int (1 : Int32))) (fun h => by rw [Bd.returns] at h; cases h)
    refine own_end ⟨_, _, ?_, hrun12, hended12, _, _, rfl, ?_, ⟨_, rfl⟩, hW12, hsame12.mono (by decide) (by decide)⟩
    · exact retN X11 hx (t := .boolean) Bd.returns (by simp) (hb hby at_165) hr12
    · show Qrm0 Z p0 p1 p2 p3 p4 p5 cz fv h0 n0 _ T11.heap _
      rw [e11]
      exact ⟨rfl, N11⟩
  · show own_Go p.tables e below _ (s₁.setTop (mkF m 46 #[.val (.int p0), .val (.int p1), .val (.int p2), .val (.int p3), .val (.int p4), .val (.int p5), .val (.int (3 : Int32)), .val (.int c0), .val (.int c1), .val (.int c2), .val (.int c3), .val (.int c4), .unset, .unset] []))
    refine own_up (fun _ kq => XS.iload X0.here hx rfl (hb hby at_46) rfl kq) ?_
    show own_Go p.tables e below _ (s₁.setTop (mkF m 48 #[.val (.int p0), .val (.int p1), .val (.int p2), .val (.int p3), .val (.int p4), .val (.int p5), .val (.int (3 : Int32)), .val (.int c0), .val (.int c1), .val (.int c2), .val (.int c3), .val (.int c4), .unset, .unset] [(.int (3 : Int32))]))
    refine own_up (fun _ kq => XS.iload X0.here hx rfl (hb hby at_48) rfl kq) ?_
    show own_Go p.tables e below _ (s₁.setTop (mkF m 50 #[.val (.int p0), .val (.int p1), .val (.int p2), .val (.int p3), .val (.int p4), .val (.int p5), .val (.int (3 : Int32)), .val (.int c0), .val (.int c1), .val (.int c2), .val (.int c3), .val (.int c4), .unset, .unset] [(.int c0), (.int (3 : Int32))]))
    refine own_up (fun _ kq => XS.iload X0.here hx rfl (hb hby at_50) rfl kq) ?_
    show own_Go p.tables e below _ (s₁.setTop (mkF m 52 #[.val (.int p0), .val (.int p1), .val (.int p2), .val (.int p3), .val (.int p4), .val (.int p5), .val (.int (3 : Int32)), .val (.int c0), .val (.int c1), .val (.int c2), .val (.int c3), .val (.int c4), .unset, .unset] [(.int c1), (.int c0), (.int (3 : Int32))]))
    refine own_up (fun _ kq => XS.iload X0.here hx rfl (hb hby at_52) rfl kq) ?_
    show own_Go p.tables e below _ (s₁.setTop (mkF m 54 #[.val (.int p0), .val (.int p1), .val (.int p2), .val (.int p3), .val (.int p4), .val (.int p5), .val (.int (3 : Int32)), .val (.int c0), .val (.int c1), .val (.int c2), .val (.int c3), .val (.int c4), .unset, .unset] [(.int c2), (.int c1), (.int c0), (.int (3 : Int32))]))
    refine own_up (fun _ kq => XS.iload X0.here hx rfl (hb hby at_54) rfl kq) ?_
    show own_Go p.tables e below _ (s₁.setTop (mkF m 56 #[.val (.int p0), .val (.int p1), .val (.int p2), .val (.int p3), .val (.int p4), .val (.int p5), .val (.int (3 : Int32)), .val (.int c0), .val (.int c1), .val (.int c2), .val (.int c3), .val (.int c4), .unset, .unset] [(.int c3), (.int c2), (.int c1), (.int c0), (.int (3 : Int32))]))
    refine own_up (fun _ kq => XS.iload X0.here hx rfl (hb hby at_56) rfl kq) ?_
    show own_Go p.tables e below _ (s₁.setTop (mkF m 58 #[.val (.int p0), .val (.int p1), .val (.int p2), .val (.int p3), .val (.int p4), .val (.int p5), .val (.int (3 : Int32)), .val (.int c0), .val (.int c1), .val (.int c2), .val (.int c3), .val (.int c4), .unset, .unset] [(.int c4), (.int c3), (.int c2), (.int c1), (.int c0), (.int (3 : Int32))]))
    obtain ⟨_, _, ⟨T13, L13, k13, n13⟩, -, X13, ⟨Lc13, hQ13, l13, y13, z13⟩, st13⟩ := Jvm.LawKit.callS X0 hx (y := (⟨"com/example/checkoff_codex/checkoffcodex/io/ValueTextDigitsPinLaw", "text", "(ICCCCC)Ljava/lang/String;"⟩ : MethodName)) hown (mvT hZ (hw _ (List.mem_of_getElem? (i := 2) rfl))) (mvT hZ (hw _ (List.mem_of_getElem? (i := 3) rfl))) (mvT hZ (hw _ (List.mem_of_getElem? (i := 4) rfl))) (mvT hZ (hw _ (List.mem_of_getElem? (i := 5) rfl))) (by decide) (backOf (W := 0) (rmT3 l Z a0 hw [] cz fv c0 c1 c2 c3 c4 h0 n0 ZH OO HW0 hl0 hl1 hl2 hu0 hu1 hu2) hZ (hw _ (List.mem_of_getElem? (i := 5) rfl)) (hw _ (List.mem_of_getElem? (i := 4) rfl)) (by decide) (by decide)) (g := (mkF m 58 #[.val (.int p0), .val (.int p1), .val (.int p2), .val (.int p3), .val (.int p4), .val (.int p5), .val (.int (3 : Int32)), .val (.int c0), .val (.int c1), .val (.int c2), .val (.int c3), .val (.int c4), .unset, .unset] [(.int c4), (.int c3), (.int c2), (.int c1), (.int c0), (.int (3 : Int32))])) rfl (by rw [hml]; rfl) (argsL := [(.int (3 : Int32)), (.int c0), (.int c1), (.int c2), (.int c3), (.int c4)]) (rest := []) (lenOf pd_18 rfl) rfl (by show 2 * 0 + _ ≤ _; exact Nat.le_of_eq rfl) (hb hby at_58) (fun _ _ => ⟨rfl, e0, (by decide : 0 + 4 ≤ _), (by decide : 0 + 22 ≤ _)⟩)
    dsimp only [Pt.U, Pt.locs, Pt.cells, Pt.slots] at X13 l13 y13 z13 st13 hQ13
    subst l13 y13 z13
    obtain ⟨sx, sf13, rfl, Nq13, K13, E_sx, tb, F_sx, hSX⟩ := hQ13
    have g_sx : n0 ≤ sx := Nat.le_trans ZH sf13
    have sz_sx : h0.size ≤ sx := Nat.le_trans KK.1 sf13
    have N13 := Fr.app N0 Nq13
    have ZH := Nat.le_trans ZH K13.1
    have KK := KK.trans K13 all0
    have OO := OO.keep K13 all0
    refine own_up st13 ?_
    show own_Go p.tables e below _ (T13.setTop (mkF m 61 #[.val (.int p0), .val (.int p1), .val (.int p2), .val (.int p3), .val (.int p4), .val (.int p5), .val (.int (3 : Int32)), .val (.int c0), .val (.int c1), .val (.int c2), .val (.int c3), .val (.int c4), .unset, .unset] [(.ref sx)]))
    refine own_up (fun _ kq => XS.astore X13.here hx rfl (hb hby at_61) rfl rfl (l' := #[.val (.int p0), .val (.int p1), .val (.int p2), .val (.int p3), .val (.int p4), .val (.int p5), .val (.int (3 : Int32)), .val (.int c0), .val (.int c1), .val (.int c2), .val (.int c3), .val (.int c4), .val (.ref sx), .unset]) rfl kq) ?_
    show own_Go p.tables e below _ (T13.setTop (mkF m 63 #[.val (.int p0), .val (.int p1), .val (.int p2), .val (.int p3), .val (.int p4), .val (.int p5), .val (.int (3 : Int32)), .val (.int c0), .val (.int c1), .val (.int c2), .val (.int c3), .val (.int c4), .val (.ref sx), .unset] []))
    refine own_up (fun _ kq => XS.iconst X13.here hx rfl (hb hby at_63) kq) ?_
    show own_Go p.tables e below _ (T13.setTop (mkF m 64 #[.val (.int p0), .val (.int p1), .val (.int p2), .val (.int p3), .val (.int p4), .val (.int p5), .val (.int (3 : Int32)), .val (.int c0), .val (.int c1), .val (.int c2), .val (.int c3), .val (.int c4), .val (.ref sx), .unset] [(.int (0 : Int32))]))
    refine own_up (fun _ kq => XS.istore X13.here hx rfl (hb hby at_64) rfl (l' := #[.val (.int p0), .val (.int p1), .val (.int p2), .val (.int p3), .val (.int p4), .val (.int p5), .val (.int (3 : Int32)), .val (.int c0), .val (.int c1), .val (.int c2), .val (.int c3), .val (.int c4), .val (.ref sx), .val (.int (0 : Int32))]) rfl kq) ?_
    show own_Go p.tables e below _ (T13.setTop (mkF m 66 #[.val (.int p0), .val (.int p1), .val (.int p2), .val (.int p3), .val (.int p4), .val (.int p5), .val (.int (3 : Int32)), .val (.int c0), .val (.int c1), .val (.int c2), .val (.int c3), .val (.int c4), .val (.ref sx), .val (.int (0 : Int32))] []))
    refine own_up (fun _ kq => XS.iload X13.here hx rfl (hb hby at_66) rfl kq) ?_
    show own_Go p.tables e below _ (T13.setTop (mkF m 68 #[.val (.int p0), .val (.int p1), .val (.int p2), .val (.int p3), .val (.int p4), .val (.int p5), .val (.int (3 : Int32)), .val (.int c0), .val (.int c1), .val (.int c2), .val (.int c3), .val (.int c4), .val (.ref sx), .val (.int (0 : Int32))] [(.int (3 : Int32))]))
    refine own_up (fun _ kq => XS.ifNo X13.here hx rfl (hb hby at_68) rfl ((if0 _ _).trans (tlt (by decide : (0 : Int32) < (3 : Int32))).2.2.2) kq) ?_
    show own_Go p.tables e below _ (T13.setTop (mkF m 71 #[.val (.int p0), .val (.int p1), .val (.int p2), .val (.int p3), .val (.int p4), .val (.int p5), .val (.int (3 : Int32)), .val (.int c0), .val (.int c1), .val (.int c2), .val (.int c3), .val (.int c4), .val (.ref sx), .val (.int (0 : Int32))] []))
    refine own_up (fun _ kq => XS.iload X13.here hx rfl (hb hby at_71) rfl kq) ?_
    show own_Go p.tables e below _ (T13.setTop (mkF m 73 #[.val (.int p0), .val (.int p1), .val (.int p2), .val (.int p3), .val (.int p4), .val (.int p5), .val (.int (3 : Int32)), .val (.int c0), .val (.int c1), .val (.int c2), .val (.int c3), .val (.int c4), .val (.ref sx), .val (.int (0 : Int32))] [(.int c0)]))
    obtain ⟨_, _, ⟨T14, L14, k14, n14⟩, -, X14, ⟨Lc14, hQ14, l14, y14, z14⟩, st14⟩ := Jvm.LawKit.callS X13 hx (y := (⟨"com/example/checkoff_codex/checkoffcodex/io/ValueTextDigitsPinLaw", "ascii", "(C)Z"⟩ : MethodName)) hown (mvT hZ (hw _ (List.mem_of_getElem? (i := 53) rfl))) (mvT hZ (hw _ (List.mem_of_getElem? (i := 54) rfl))) (mvT hZ (hw _ (List.mem_of_getElem? (i := 4) rfl))) (mvT hZ (hw _ (List.mem_of_getElem? (i := 55) rfl))) (by decide) (backOf (W := 0) (rmAs l Z a0 hw [] c0 T13.heap n0 ZH) hZ (hw _ (List.mem_of_getElem? (i := 55) rfl)) (hw _ (List.mem_of_getElem? (i := 4) rfl)) (by decide) (by decide)) (g := (mkF m 73 #[.val (.int p0), .val (.int p1), .val (.int p2), .val (.int p3), .val (.int p4), .val (.int p5), .val (.int (3 : Int32)), .val (.int c0), .val (.int c1), .val (.int c2), .val (.int c3), .val (.int c4), .val (.ref sx), .val (.int (0 : Int32))] [(.int c0)])) rfl (by rw [hml]; rfl) (argsL := [(.int c0)]) (rest := []) (lenOf pd_9 rfl) rfl (by show 2 * 0 + _ ≤ _; exact Nat.le_of_eq rfl) (hb hby at_73) (fun _ _ => ⟨rfl, rfl, (by decide : 4 + 0 ≤ _), (by decide : 22 + 0 ≤ _)⟩)
    dsimp only [Pt.U, Pt.locs, Pt.cells, Pt.slots] at X14 l14 y14 z14 st14 hQ14
    subst l14 y14 z14
    obtain ⟨rfl, Nq14, e14⟩ := hQ14
    have N14 := Fr.app N13 Nq14
    refine own_up st14 ?_
    show own_Go p.tables e below _ (T14.setTop (mkF m 76 #[.val (.int p0), .val (.int p1), .val (.int p2), .val (.int p3), .val (.int p4), .val (.int p5), .val (.int (3 : Int32)), .val (.int c0), .val (.int c1), .val (.int c2), .val (.int c3), .val (.int c4), .val (.ref sx), .val (.int (0 : Int32))] [(.int (own_dg c0))]))
    obtain ⟨v76_3, hv76_3⟩ : ∃ z : Int32, z = if (own_dg c0) = (0 : Int32) then (0 : Int32) else (1 : Int32) := ⟨_, rfl⟩
    have sg15 : ∀ t, Steps p.tables e below (T14.setTop (mkF m 82 #[.val (.int p0), .val (.int p1), .val (.int p2), .val (.int p3), .val (.int p4), .val (.int p5), .val (.int (3 : Int32)), .val (.int c0), .val (.int c1), .val (.int c2), .val (.int c3), .val (.int c4), .val (.ref sx), .val (.int v76_3)] [])) t → Steps p.tables e below (T14.setTop (mkF m 76 #[.val (.int p0), .val (.int p1), .val (.int p2), .val (.int p3), .val (.int p4), .val (.int p5), .val (.int (3 : Int32)), .val (.int c0), .val (.int c1), .val (.int c2), .val (.int c3), .val (.int c4), .val (.ref sx), .val (.int (0 : Int32))] [(.int (own_dg c0))])) t := by
      intro t kq
      by_cases hc76 : (own_dg c0) = (0 : Int32)
      · rw [hv76_3, if_pos hc76] at kq
        refine XS.ifYes X14.here hx rfl (pc0 := 76) (pc' := 82) rfl (hb hby at_76) rfl ((if0 _ _).trans (teq hc76).1) (by decide) (by decide) ?_
        show Steps p.tables e below (T14.setTop (mkF m 82 #[.val (.int p0), .val (.int p1), .val (.int p2), .val (.int p3), .val (.int p4), .val (.int p5), .val (.int (3 : Int32)), .val (.int c0), .val (.int c1), .val (.int c2), .val (.int c3), .val (.int c4), .val (.ref sx), .val (.int (0 : Int32))] [])) _
        exact kq
      · rw [hv76_3, if_neg hc76] at kq
        refine XS.ifNo X14.here hx rfl (hb hby at_76) rfl ((if0 _ _).trans (feq hc76).1) ?_
        show Steps p.tables e below (T14.setTop (mkF m 79 #[.val (.int p0), .val (.int p1), .val (.int p2), .val (.int p3), .val (.int p4), .val (.int p5), .val (.int (3 : Int32)), .val (.int c0), .val (.int c1), .val (.int c2), .val (.int c3), .val (.int c4), .val (.ref sx), .val (.int (0 : Int32))] [])) _
        refine XS.iinc X14.here hx rfl (hb hby at_79) rfl (l' := #[.val (.int p0), .val (.int p1), .val (.int p2), .val (.int p3), .val (.int p4), .val (.int p5), .val (.int (3 : Int32)), .val (.int c0), .val (.int c1), .val (.int c2), .val (.int c3), .val (.int c4), .val (.ref sx), .val (.int (1 : Int32))]) rfl ?_
        show Steps p.tables e below (T14.setTop (mkF m 82 #[.val (.int p0), .val (.int p1), .val (.int p2), .val (.int p3), .val (.int p4), .val (.int p5), .val (.int (3 : Int32)), .val (.int c0), .val (.int c1), .val (.int c2), .val (.int c3), .val (.int c4), .val (.ref sx), .val (.int (1 : Int32))] [])) _
        exact kq
    refine own_up sg15 ?_
    show own_Go p.tables e below _ (T14.setTop (mkF m 82 #[.val (.int p0), .val (.int p1), .val (.int p2), .val (.int p3), .val (.int p4), .val (.int p5), .val (.int (3 : Int32)), .val (.int c0), .val (.int c1), .val (.int c2), .val (.int c3), .val (.int c4), .val (.ref sx), .val (.int v76_3)] []))
    refine own_up (fun _ kq => XS.iload X14.here hx rfl (hb hby at_82) rfl kq) ?_
    show own_Go p.tables e below _ (T14.setTop (mkF m 84 #[.val (.int p0), .val (.int p1), .val (.int p2), .val (.int p3), .val (.int p4), .val (.int p5), .val (.int (3 : Int32)), .val (.int c0), .val (.int c1), .val (.int c2), .val (.int c3), .val (.int c4), .val (.ref sx), .val (.int v76_3)] [(.int (3 : Int32))]))
    refine own_up (fun _ kq => XS.iconst X14.here hx rfl (hb hby at_84) kq) ?_
    show own_Go p.tables e below _ (T14.setTop (mkF m 85 #[.val (.int p0), .val (.int p1), .val (.int p2), .val (.int p3), .val (.int p4), .val (.int p5), .val (.int (3 : Int32)), .val (.int c0), .val (.int c1), .val (.int c2), .val (.int c3), .val (.int c4), .val (.ref sx), .val (.int v76_3)] [(.int (1 : Int32)), (.int (3 : Int32))]))
    refine own_up (fun _ kq => XS.icmpNo X14.here hx rfl (hb hby at_85) rfl (tlt (by decide : (1 : Int32) < (3 : Int32))).2.2.2 kq) ?_
    show own_Go p.tables e below _ (T14.setTop (mkF m 88 #[.val (.int p0), .val (.int p1), .val (.int p2), .val (.int p3), .val (.int p4), .val (.int p5), .val (.int (3 : Int32)), .val (.int c0), .val (.int c1), .val (.int c2), .val (.int c3), .val (.int c4), .val (.ref sx), .val (.int v76_3)] []))
    refine own_up (fun _ kq => XS.iload X14.here hx rfl (hb hby at_88) rfl kq) ?_
    show own_Go p.tables e below _ (T14.setTop (mkF m 90 #[.val (.int p0), .val (.int p1), .val (.int p2), .val (.int p3), .val (.int p4), .val (.int p5), .val (.int (3 : Int32)), .val (.int c0), .val (.int c1), .val (.int c2), .val (.int c3), .val (.int c4), .val (.ref sx), .val (.int v76_3)] [(.int c1)]))
    obtain ⟨_, _, ⟨T16, L16, k16, n16⟩, -, X16, ⟨Lc16, hQ16, l16, y16, z16⟩, st16⟩ := Jvm.LawKit.callS X14 hx (y := (⟨"com/example/checkoff_codex/checkoffcodex/io/ValueTextDigitsPinLaw", "ascii", "(C)Z"⟩ : MethodName)) hown (mvT hZ (hw _ (List.mem_of_getElem? (i := 53) rfl))) (mvT hZ (hw _ (List.mem_of_getElem? (i := 54) rfl))) (mvT hZ (hw _ (List.mem_of_getElem? (i := 4) rfl))) (mvT hZ (hw _ (List.mem_of_getElem? (i := 55) rfl))) (by decide) (backOf (W := 0) (rmAs l Z a0 hw [] c1 T13.heap n0 ZH) hZ (hw _ (List.mem_of_getElem? (i := 55) rfl)) (hw _ (List.mem_of_getElem? (i := 4) rfl)) (by decide) (by decide)) (g := (mkF m 90 #[.val (.int p0), .val (.int p1), .val (.int p2), .val (.int p3), .val (.int p4), .val (.int p5), .val (.int (3 : Int32)), .val (.int c0), .val (.int c1), .val (.int c2), .val (.int c3), .val (.int c4), .val (.ref sx), .val (.int v76_3)] [(.int c1)])) rfl (by rw [hml]; rfl) (argsL := [(.int c1)]) (rest := []) (lenOf pd_9 rfl) rfl (by show 2 * 0 + _ ≤ _; exact Nat.le_of_eq rfl) (hb hby at_90) (fun _ _ => ⟨rfl, e14, (by decide : 4 + 0 ≤ _), (by decide : 22 + 0 ≤ _)⟩)
    dsimp only [Pt.U, Pt.locs, Pt.cells, Pt.slots] at X16 l16 y16 z16 st16 hQ16
    subst l16 y16 z16
    obtain ⟨rfl, Nq16, e16⟩ := hQ16
    have N16 := Fr.app N14 Nq16
    refine own_up st16 ?_
    show own_Go p.tables e below _ (T16.setTop (mkF m 93 #[.val (.int p0), .val (.int p1), .val (.int p2), .val (.int p3), .val (.int p4), .val (.int p5), .val (.int (3 : Int32)), .val (.int c0), .val (.int c1), .val (.int c2), .val (.int c3), .val (.int c4), .val (.ref sx), .val (.int v76_3)] [(.int (own_dg c1))]))
    obtain ⟨v93_4, hv93_4⟩ : ∃ z : Int32, z = if (own_dg c1) = (0 : Int32) then v76_3 else (v76_3 + (1 : Int32)) := ⟨_, rfl⟩
    have sg17 : ∀ t, Steps p.tables e below (T16.setTop (mkF m 99 #[.val (.int p0), .val (.int p1), .val (.int p2), .val (.int p3), .val (.int p4), .val (.int p5), .val (.int (3 : Int32)), .val (.int c0), .val (.int c1), .val (.int c2), .val (.int c3), .val (.int c4), .val (.ref sx), .val (.int v93_4)] [])) t → Steps p.tables e below (T16.setTop (mkF m 93 #[.val (.int p0), .val (.int p1), .val (.int p2), .val (.int p3), .val (.int p4), .val (.int p5), .val (.int (3 : Int32)), .val (.int c0), .val (.int c1), .val (.int c2), .val (.int c3), .val (.int c4), .val (.ref sx), .val (.int v76_3)] [(.int (own_dg c1))])) t := by
      intro t kq
      by_cases hc93 : (own_dg c1) = (0 : Int32)
      · rw [hv93_4, if_pos hc93] at kq
        refine XS.ifYes X16.here hx rfl (pc0 := 93) (pc' := 99) rfl (hb hby at_93) rfl ((if0 _ _).trans (teq hc93).1) (by decide) (by decide) ?_
        show Steps p.tables e below (T16.setTop (mkF m 99 #[.val (.int p0), .val (.int p1), .val (.int p2), .val (.int p3), .val (.int p4), .val (.int p5), .val (.int (3 : Int32)), .val (.int c0), .val (.int c1), .val (.int c2), .val (.int c3), .val (.int c4), .val (.ref sx), .val (.int v76_3)] [])) _
        exact kq
      · rw [hv93_4, if_neg hc93] at kq
        refine XS.ifNo X16.here hx rfl (hb hby at_93) rfl ((if0 _ _).trans (feq hc93).1) ?_
        show Steps p.tables e below (T16.setTop (mkF m 96 #[.val (.int p0), .val (.int p1), .val (.int p2), .val (.int p3), .val (.int p4), .val (.int p5), .val (.int (3 : Int32)), .val (.int c0), .val (.int c1), .val (.int c2), .val (.int c3), .val (.int c4), .val (.ref sx), .val (.int v76_3)] [])) _
        refine XS.iinc X16.here hx rfl (hb hby at_96) rfl (l' := #[.val (.int p0), .val (.int p1), .val (.int p2), .val (.int p3), .val (.int p4), .val (.int p5), .val (.int (3 : Int32)), .val (.int c0), .val (.int c1), .val (.int c2), .val (.int c3), .val (.int c4), .val (.ref sx), .val (.int (v76_3 + (1 : Int32)))]) rfl ?_
        show Steps p.tables e below (T16.setTop (mkF m 99 #[.val (.int p0), .val (.int p1), .val (.int p2), .val (.int p3), .val (.int p4), .val (.int p5), .val (.int (3 : Int32)), .val (.int c0), .val (.int c1), .val (.int c2), .val (.int c3), .val (.int c4), .val (.ref sx), .val (.int (v76_3 + (1 : Int32)))] [])) _
        exact kq
    refine own_up sg17 ?_
    show own_Go p.tables e below _ (T16.setTop (mkF m 99 #[.val (.int p0), .val (.int p1), .val (.int p2), .val (.int p3), .val (.int p4), .val (.int p5), .val (.int (3 : Int32)), .val (.int c0), .val (.int c1), .val (.int c2), .val (.int c3), .val (.int c4), .val (.ref sx), .val (.int v93_4)] []))
    refine own_up (fun _ kq => XS.iload X16.here hx rfl (hb hby at_99) rfl kq) ?_
    show own_Go p.tables e below _ (T16.setTop (mkF m 101 #[.val (.int p0), .val (.int p1), .val (.int p2), .val (.int p3), .val (.int p4), .val (.int p5), .val (.int (3 : Int32)), .val (.int c0), .val (.int c1), .val (.int c2), .val (.int c3), .val (.int c4), .val (.ref sx), .val (.int v93_4)] [(.int (3 : Int32))]))
    refine own_up (fun _ kq => XS.iconst X16.here hx rfl (hb hby at_101) kq) ?_
    show own_Go p.tables e below _ (T16.setTop (mkF m 102 #[.val (.int p0), .val (.int p1), .val (.int p2), .val (.int p3), .val (.int p4), .val (.int p5), .val (.int (3 : Int32)), .val (.int c0), .val (.int c1), .val (.int c2), .val (.int c3), .val (.int c4), .val (.ref sx), .val (.int v93_4)] [(.int (2 : Int32)), (.int (3 : Int32))]))
    refine own_up (fun _ kq => XS.icmpNo X16.here hx rfl (hb hby at_102) rfl (tlt (by decide : (2 : Int32) < (3 : Int32))).2.2.2 kq) ?_
    show own_Go p.tables e below _ (T16.setTop (mkF m 105 #[.val (.int p0), .val (.int p1), .val (.int p2), .val (.int p3), .val (.int p4), .val (.int p5), .val (.int (3 : Int32)), .val (.int c0), .val (.int c1), .val (.int c2), .val (.int c3), .val (.int c4), .val (.ref sx), .val (.int v93_4)] []))
    refine own_up (fun _ kq => XS.iload X16.here hx rfl (hb hby at_105) rfl kq) ?_
    show own_Go p.tables e below _ (T16.setTop (mkF m 107 #[.val (.int p0), .val (.int p1), .val (.int p2), .val (.int p3), .val (.int p4), .val (.int p5), .val (.int (3 : Int32)), .val (.int c0), .val (.int c1), .val (.int c2), .val (.int c3), .val (.int c4), .val (.ref sx), .val (.int v93_4)] [(.int c2)]))
    obtain ⟨_, _, ⟨T18, L18, k18, n18⟩, -, X18, ⟨Lc18, hQ18, l18, y18, z18⟩, st18⟩ := Jvm.LawKit.callS X16 hx (y := (⟨"com/example/checkoff_codex/checkoffcodex/io/ValueTextDigitsPinLaw", "ascii", "(C)Z"⟩ : MethodName)) hown (mvT hZ (hw _ (List.mem_of_getElem? (i := 53) rfl))) (mvT hZ (hw _ (List.mem_of_getElem? (i := 54) rfl))) (mvT hZ (hw _ (List.mem_of_getElem? (i := 4) rfl))) (mvT hZ (hw _ (List.mem_of_getElem? (i := 55) rfl))) (by decide) (backOf (W := 0) (rmAs l Z a0 hw [] c2 T13.heap n0 ZH) hZ (hw _ (List.mem_of_getElem? (i := 55) rfl)) (hw _ (List.mem_of_getElem? (i := 4) rfl)) (by decide) (by decide)) (g := (mkF m 107 #[.val (.int p0), .val (.int p1), .val (.int p2), .val (.int p3), .val (.int p4), .val (.int p5), .val (.int (3 : Int32)), .val (.int c0), .val (.int c1), .val (.int c2), .val (.int c3), .val (.int c4), .val (.ref sx), .val (.int v93_4)] [(.int c2)])) rfl (by rw [hml]; rfl) (argsL := [(.int c2)]) (rest := []) (lenOf pd_9 rfl) rfl (by show 2 * 0 + _ ≤ _; exact Nat.le_of_eq rfl) (hb hby at_107) (fun _ _ => ⟨rfl, e16, (by decide : 4 + 0 ≤ _), (by decide : 22 + 0 ≤ _)⟩)
    dsimp only [Pt.U, Pt.locs, Pt.cells, Pt.slots] at X18 l18 y18 z18 st18 hQ18
    subst l18 y18 z18
    obtain ⟨rfl, Nq18, e18⟩ := hQ18
    have N18 := Fr.app N16 Nq18
    refine own_up st18 ?_
    show own_Go p.tables e below _ (T18.setTop (mkF m 110 #[.val (.int p0), .val (.int p1), .val (.int p2), .val (.int p3), .val (.int p4), .val (.int p5), .val (.int (3 : Int32)), .val (.int c0), .val (.int c1), .val (.int c2), .val (.int c3), .val (.int c4), .val (.ref sx), .val (.int v93_4)] [(.int (own_dg c2))]))
    obtain ⟨v110_5, hv110_5⟩ : ∃ z : Int32, z = if (own_dg c2) = (0 : Int32) then v93_4 else (v93_4 + (1 : Int32)) := ⟨_, rfl⟩
    have sg19 : ∀ t, Steps p.tables e below (T18.setTop (mkF m 116 #[.val (.int p0), .val (.int p1), .val (.int p2), .val (.int p3), .val (.int p4), .val (.int p5), .val (.int (3 : Int32)), .val (.int c0), .val (.int c1), .val (.int c2), .val (.int c3), .val (.int c4), .val (.ref sx), .val (.int v110_5)] [])) t → Steps p.tables e below (T18.setTop (mkF m 110 #[.val (.int p0), .val (.int p1), .val (.int p2), .val (.int p3), .val (.int p4), .val (.int p5), .val (.int (3 : Int32)), .val (.int c0), .val (.int c1), .val (.int c2), .val (.int c3), .val (.int c4), .val (.ref sx), .val (.int v93_4)] [(.int (own_dg c2))])) t := by
      intro t kq
      by_cases hc110 : (own_dg c2) = (0 : Int32)
      · rw [hv110_5, if_pos hc110] at kq
        refine XS.ifYes X18.here hx rfl (pc0 := 110) (pc' := 116) rfl (hb hby at_110) rfl ((if0 _ _).trans (teq hc110).1) (by decide) (by decide) ?_
        show Steps p.tables e below (T18.setTop (mkF m 116 #[.val (.int p0), .val (.int p1), .val (.int p2), .val (.int p3), .val (.int p4), .val (.int p5), .val (.int (3 : Int32)), .val (.int c0), .val (.int c1), .val (.int c2), .val (.int c3), .val (.int c4), .val (.ref sx), .val (.int v93_4)] [])) _
        exact kq
      · rw [hv110_5, if_neg hc110] at kq
        refine XS.ifNo X18.here hx rfl (hb hby at_110) rfl ((if0 _ _).trans (feq hc110).1) ?_
        show Steps p.tables e below (T18.setTop (mkF m 113 #[.val (.int p0), .val (.int p1), .val (.int p2), .val (.int p3), .val (.int p4), .val (.int p5), .val (.int (3 : Int32)), .val (.int c0), .val (.int c1), .val (.int c2), .val (.int c3), .val (.int c4), .val (.ref sx), .val (.int v93_4)] [])) _
        refine XS.iinc X18.here hx rfl (hb hby at_113) rfl (l' := #[.val (.int p0), .val (.int p1), .val (.int p2), .val (.int p3), .val (.int p4), .val (.int p5), .val (.int (3 : Int32)), .val (.int c0), .val (.int c1), .val (.int c2), .val (.int c3), .val (.int c4), .val (.ref sx), .val (.int (v93_4 + (1 : Int32)))]) rfl ?_
        show Steps p.tables e below (T18.setTop (mkF m 116 #[.val (.int p0), .val (.int p1), .val (.int p2), .val (.int p3), .val (.int p4), .val (.int p5), .val (.int (3 : Int32)), .val (.int c0), .val (.int c1), .val (.int c2), .val (.int c3), .val (.int c4), .val (.ref sx), .val (.int (v93_4 + (1 : Int32)))] [])) _
        exact kq
    refine own_up sg19 ?_
    show own_Go p.tables e below _ (T18.setTop (mkF m 116 #[.val (.int p0), .val (.int p1), .val (.int p2), .val (.int p3), .val (.int p4), .val (.int p5), .val (.int (3 : Int32)), .val (.int c0), .val (.int c1), .val (.int c2), .val (.int c3), .val (.int c4), .val (.ref sx), .val (.int v110_5)] []))
    refine own_up (fun _ kq => XS.iload X18.here hx rfl (hb hby at_116) rfl kq) ?_
    show own_Go p.tables e below _ (T18.setTop (mkF m 118 #[.val (.int p0), .val (.int p1), .val (.int p2), .val (.int p3), .val (.int p4), .val (.int p5), .val (.int (3 : Int32)), .val (.int c0), .val (.int c1), .val (.int c2), .val (.int c3), .val (.int c4), .val (.ref sx), .val (.int v110_5)] [(.int (3 : Int32))]))
    refine own_up (fun _ kq => XS.iconst X18.here hx rfl (hb hby at_118) kq) ?_
    show own_Go p.tables e below _ (T18.setTop (mkF m 119 #[.val (.int p0), .val (.int p1), .val (.int p2), .val (.int p3), .val (.int p4), .val (.int p5), .val (.int (3 : Int32)), .val (.int c0), .val (.int c1), .val (.int c2), .val (.int c3), .val (.int c4), .val (.ref sx), .val (.int v110_5)] [(.int (3 : Int32)), (.int (3 : Int32))]))
    refine own_up (fun _ kq => XS.icmpYes X18.here hx rfl (pc0 := 119) (pc' := 133) rfl (hb hby at_119) rfl (flt (by decide : ¬ ((3 : Int32) < (3 : Int32)))).2.2.2 (by decide) (by decide) kq) ?_
    show own_Go p.tables e below _ (T18.setTop (mkF m 133 #[.val (.int p0), .val (.int p1), .val (.int p2), .val (.int p3), .val (.int p4), .val (.int p5), .val (.int (3 : Int32)), .val (.int c0), .val (.int c1), .val (.int c2), .val (.int c3), .val (.int c4), .val (.ref sx), .val (.int v110_5)] []))
    refine own_up (fun _ kq => XS.iload X18.here hx rfl (hb hby at_133) rfl kq) ?_
    show own_Go p.tables e below _ (T18.setTop (mkF m 135 #[.val (.int p0), .val (.int p1), .val (.int p2), .val (.int p3), .val (.int p4), .val (.int p5), .val (.int (3 : Int32)), .val (.int c0), .val (.int c1), .val (.int c2), .val (.int c3), .val (.int c4), .val (.ref sx), .val (.int v110_5)] [(.int (3 : Int32))]))
    refine own_up (fun _ kq => XS.iconst X18.here hx rfl (hb hby at_135) kq) ?_
    show own_Go p.tables e below _ (T18.setTop (mkF m 136 #[.val (.int p0), .val (.int p1), .val (.int p2), .val (.int p3), .val (.int p4), .val (.int p5), .val (.int (3 : Int32)), .val (.int c0), .val (.int c1), .val (.int c2), .val (.int c3), .val (.int c4), .val (.ref sx), .val (.int v110_5)] [(.int (4 : Int32)), (.int (3 : Int32))]))
    refine own_up (fun _ kq => XS.icmpYes X18.here hx rfl (pc0 := 136) (pc' := 150) rfl (hb hby at_136) rfl (flt (by decide : ¬ ((4 : Int32) < (3 : Int32)))).2.2.2 (by decide) (by decide) kq) ?_
    show own_Go p.tables e below _ (T18.setTop (mkF m 150 #[.val (.int p0), .val (.int p1), .val (.int p2), .val (.int p3), .val (.int p4), .val (.int p5), .val (.int (3 : Int32)), .val (.int c0), .val (.int c1), .val (.int c2), .val (.int c3), .val (.int c4), .val (.ref sx), .val (.int v110_5)] []))
    refine own_up (fun _ kq => XS.aload X18.here hx rfl (hb hby at_150) rfl rfl kq) ?_
    show own_Go p.tables e below _ (T18.setTop (mkF m 152 #[.val (.int p0), .val (.int p1), .val (.int p2), .val (.int p3), .val (.int p4), .val (.int p5), .val (.int (3 : Int32)), .val (.int c0), .val (.int c1), .val (.int c2), .val (.int c3), .val (.int c4), .val (.ref sx), .val (.int v110_5)] [(.ref sx)]))
    obtain ⟨_, _, ⟨T20, L20, k20, n20⟩, -, X20, ⟨Lc20, hQ20, l20, y20, z20⟩, st20⟩ := Jvm.LawKit.callS X18 hx (y := (⟨"com/example/checkoff_codex/checkoffcodex/io/ValueText", "digits", "(Ljava/lang/String;)I"⟩ : MethodName)) hown (mvT hZ (hw _ (List.mem_of_getElem? (i := 28) rfl))) (mvT hZ (hw _ (List.mem_of_getElem? (i := 29) rfl))) (mvT hZ (hw _ (List.mem_of_getElem? (i := 30) rfl))) (mvT hZ (hw _ (List.mem_of_getElem? (i := 31) rfl))) (by decide) (backOf (W := 0) (rmD l Z a0 hw [] cz fv sx tb (3 : Int32) (6 : Int32) (own_cs [c0, c1, c2]) T13.heap n0 ZH OO HW0 E_sx F_sx hSX (own_chL [c0, c1, c2] (List.forall_mem_cons.mpr ⟨⟨hl0, hu0⟩, (List.forall_mem_cons.mpr ⟨⟨hl1, hu1⟩, (List.forall_mem_cons.mpr ⟨⟨hl2, hu2⟩, (fun _ h => nomatch h)⟩)⟩)⟩)) (by unfold own_sm; decide) (by decide)) hZ (hw _ (List.mem_of_getElem? (i := 31) rfl)) (hw _ (List.mem_of_getElem? (i := 30) rfl)) (by decide) (by decide)) (g := (mkF m 152 #[.val (.int p0), .val (.int p1), .val (.int p2), .val (.int p3), .val (.int p4), .val (.int p5), .val (.int (3 : Int32)), .val (.int c0), .val (.int c1), .val (.int c2), .val (.int c3), .val (.int c4), .val (.ref sx), .val (.int v110_5)] [(.ref sx)])) rfl (by rw [hml]; rfl) (argsL := [(.ref sx)]) (rest := []) (lenOf pd_19 rfl) rfl (by show 2 * 0 + _ ≤ _; exact Nat.le_of_eq rfl) (hb hby at_152) (fun _ _ => ⟨rfl, e18, (by decide : 4 + 0 ≤ _), (by decide : 22 + 0 ≤ _)⟩)
    dsimp only [Pt.U, Pt.locs, Pt.cells, Pt.slots] at X20 l20 y20 z20 st20 hQ20
    subst l20 y20 z20
    obtain ⟨rfl, Nq20, e20⟩ := hQ20
    have N20 := Fr.app N18 Nq20
    refine own_up st20 ?_
    show own_Go p.tables e below _ (T20.setTop (mkF m 155 #[.val (.int p0), .val (.int p1), .val (.int p2), .val (.int p3), .val (.int p4), .val (.int p5), .val (.int (3 : Int32)), .val (.int c0), .val (.int c1), .val (.int c2), .val (.int c3), .val (.int c4), .val (.ref sx), .val (.int v110_5)] [(.int (own_cf (own_cs [c0, c1, c2]) ((3 : Int32)).toNatClampNeg))]))
    refine own_up (fun _ kq => XS.iload X20.here hx rfl (hb hby at_155) rfl kq) ?_
    show own_Go p.tables e below _ (T20.setTop (mkF m 157 #[.val (.int p0), .val (.int p1), .val (.int p2), .val (.int p3), .val (.int p4), .val (.int p5), .val (.int (3 : Int32)), .val (.int c0), .val (.int c1), .val (.int c2), .val (.int c3), .val (.int c4), .val (.ref sx), .val (.int v110_5)] [(.int v110_5), (.int (own_cf (own_cs [c0, c1, c2]) ((3 : Int32)).toNatClampNeg))]))
    refine own_up (fun _ kq => XS.icmpNo X20.here hx rfl (hb hby at_157) rfl (teq (by rw [hv110_5, hv93_4, hv76_3]; rfl)).2 kq) ?_
    show own_Go p.tables e below _ (T20.setTop (mkF m 160 #[.val (.int p0), .val (.int p1), .val (.int p2), .val (.int p3), .val (.int p4), .val (.int p5), .val (.int (3 : Int32)), .val (.int c0), .val (.int c1), .val (.int c2), .val (.int c3), .val (.int c4), .val (.ref sx), .val (.int v110_5)] []))
    refine own_up (fun _ kq => XS.iconst X20.here hx rfl (hb hby at_160) kq) ?_
    show own_Go p.tables e below _ (T20.setTop (mkF m 161 #[.val (.int p0), .val (.int p1), .val (.int p2), .val (.int p3), .val (.int p4), .val (.int p5), .val (.int (3 : Int32)), .val (.int c0), .val (.int c1), .val (.int c2), .val (.int c3), .val (.int c4), .val (.ref sx), .val (.int v110_5)] [(.int (1 : Int32))]))
    refine own_up (fun _ kq => XS.goto X20.here hx rfl (pc0 := 161) (pc' := 165) rfl (hb hby at_161) (by decide) (by decide) kq) ?_
    show own_Go p.tables e below _ (T20.setTop (mkF m 165 #[.val (.int p0), .val (.int p1), .val (.int p2), .val (.int p3), .val (.int p4), .val (.int p5), .val (.int (3 : Int32)), .val (.int c0), .val (.int c1), .val (.int c2), .val (.int c3), .val (.int c4), .val (.ref sx), .val (.int v110_5)] [(.int (1 : Int32))]))
    obtain ⟨fs21, hr21, hrun21, hended21, hW21, hsame21⟩ := X20.leave (v := some (.int (1 : Int32))) (fun h => by rw [Bd.returns] at h; cases h)
    refine own_end ⟨_, _, ?_, hrun21, hended21, _, _, rfl, ?_, ⟨_, rfl⟩, hW21, hsame21.mono (by decide) (by decide)⟩
    · exact retN X20 hx (t := .boolean) Bd.returns (by simp) (hb hby at_165) hr21
    · show Qrm0 Z p0 p1 p2 p3 p4 p5 cz fv h0 n0 _ T20.heap _
      rw [e20]
      exact ⟨rfl, N20⟩
  · show own_Go p.tables e below _ (s₁.setTop (mkF m 46 #[.val (.int p0), .val (.int p1), .val (.int p2), .val (.int p3), .val (.int p4), .val (.int p5), .val (.int (4 : Int32)), .val (.int c0), .val (.int c1), .val (.int c2), .val (.int c3), .val (.int c4), .unset, .unset] []))
    refine own_up (fun _ kq => XS.iload X0.here hx rfl (hb hby at_46) rfl kq) ?_
    show own_Go p.tables e below _ (s₁.setTop (mkF m 48 #[.val (.int p0), .val (.int p1), .val (.int p2), .val (.int p3), .val (.int p4), .val (.int p5), .val (.int (4 : Int32)), .val (.int c0), .val (.int c1), .val (.int c2), .val (.int c3), .val (.int c4), .unset, .unset] [(.int (4 : Int32))]))
    refine own_up (fun _ kq => XS.iload X0.here hx rfl (hb hby at_48) rfl kq) ?_
    show own_Go p.tables e below _ (s₁.setTop (mkF m 50 #[.val (.int p0), .val (.int p1), .val (.int p2), .val (.int p3), .val (.int p4), .val (.int p5), .val (.int (4 : Int32)), .val (.int c0), .val (.int c1), .val (.int c2), .val (.int c3), .val (.int c4), .unset, .unset] [(.int c0), (.int (4 : Int32))]))
    refine own_up (fun _ kq => XS.iload X0.here hx rfl (hb hby at_50) rfl kq) ?_
    show own_Go p.tables e below _ (s₁.setTop (mkF m 52 #[.val (.int p0), .val (.int p1), .val (.int p2), .val (.int p3), .val (.int p4), .val (.int p5), .val (.int (4 : Int32)), .val (.int c0), .val (.int c1), .val (.int c2), .val (.int c3), .val (.int c4), .unset, .unset] [(.int c1), (.int c0), (.int (4 : Int32))]))
    refine own_up (fun _ kq => XS.iload X0.here hx rfl (hb hby at_52) rfl kq) ?_
    show own_Go p.tables e below _ (s₁.setTop (mkF m 54 #[.val (.int p0), .val (.int p1), .val (.int p2), .val (.int p3), .val (.int p4), .val (.int p5), .val (.int (4 : Int32)), .val (.int c0), .val (.int c1), .val (.int c2), .val (.int c3), .val (.int c4), .unset, .unset] [(.int c2), (.int c1), (.int c0), (.int (4 : Int32))]))
    refine own_up (fun _ kq => XS.iload X0.here hx rfl (hb hby at_54) rfl kq) ?_
    show own_Go p.tables e below _ (s₁.setTop (mkF m 56 #[.val (.int p0), .val (.int p1), .val (.int p2), .val (.int p3), .val (.int p4), .val (.int p5), .val (.int (4 : Int32)), .val (.int c0), .val (.int c1), .val (.int c2), .val (.int c3), .val (.int c4), .unset, .unset] [(.int c3), (.int c2), (.int c1), (.int c0), (.int (4 : Int32))]))
    refine own_up (fun _ kq => XS.iload X0.here hx rfl (hb hby at_56) rfl kq) ?_
    show own_Go p.tables e below _ (s₁.setTop (mkF m 58 #[.val (.int p0), .val (.int p1), .val (.int p2), .val (.int p3), .val (.int p4), .val (.int p5), .val (.int (4 : Int32)), .val (.int c0), .val (.int c1), .val (.int c2), .val (.int c3), .val (.int c4), .unset, .unset] [(.int c4), (.int c3), (.int c2), (.int c1), (.int c0), (.int (4 : Int32))]))
    obtain ⟨_, _, ⟨T22, L22, k22, n22⟩, -, X22, ⟨Lc22, hQ22, l22, y22, z22⟩, st22⟩ := Jvm.LawKit.callS X0 hx (y := (⟨"com/example/checkoff_codex/checkoffcodex/io/ValueTextDigitsPinLaw", "text", "(ICCCCC)Ljava/lang/String;"⟩ : MethodName)) hown (mvT hZ (hw _ (List.mem_of_getElem? (i := 2) rfl))) (mvT hZ (hw _ (List.mem_of_getElem? (i := 3) rfl))) (mvT hZ (hw _ (List.mem_of_getElem? (i := 4) rfl))) (mvT hZ (hw _ (List.mem_of_getElem? (i := 5) rfl))) (by decide) (backOf (W := 0) (rmT4 l Z a0 hw [] cz fv c0 c1 c2 c3 c4 h0 n0 ZH OO HW0 hl0 hl1 hl2 hl3 hu0 hu1 hu2 hu3) hZ (hw _ (List.mem_of_getElem? (i := 5) rfl)) (hw _ (List.mem_of_getElem? (i := 4) rfl)) (by decide) (by decide)) (g := (mkF m 58 #[.val (.int p0), .val (.int p1), .val (.int p2), .val (.int p3), .val (.int p4), .val (.int p5), .val (.int (4 : Int32)), .val (.int c0), .val (.int c1), .val (.int c2), .val (.int c3), .val (.int c4), .unset, .unset] [(.int c4), (.int c3), (.int c2), (.int c1), (.int c0), (.int (4 : Int32))])) rfl (by rw [hml]; rfl) (argsL := [(.int (4 : Int32)), (.int c0), (.int c1), (.int c2), (.int c3), (.int c4)]) (rest := []) (lenOf pd_18 rfl) rfl (by show 2 * 0 + _ ≤ _; exact Nat.le_of_eq rfl) (hb hby at_58) (fun _ _ => ⟨rfl, e0, (by decide : 0 + 4 ≤ _), (by decide : 0 + 23 ≤ _)⟩)
    dsimp only [Pt.U, Pt.locs, Pt.cells, Pt.slots] at X22 l22 y22 z22 st22 hQ22
    subst l22 y22 z22
    obtain ⟨sx, sf22, rfl, Nq22, K22, E_sx, tb, F_sx, hSX⟩ := hQ22
    have g_sx : n0 ≤ sx := Nat.le_trans ZH sf22
    have sz_sx : h0.size ≤ sx := Nat.le_trans KK.1 sf22
    have N22 := Fr.app N0 Nq22
    have ZH := Nat.le_trans ZH K22.1
    have KK := KK.trans K22 all0
    have OO := OO.keep K22 all0
    refine own_up st22 ?_
    show own_Go p.tables e below _ (T22.setTop (mkF m 61 #[.val (.int p0), .val (.int p1), .val (.int p2), .val (.int p3), .val (.int p4), .val (.int p5), .val (.int (4 : Int32)), .val (.int c0), .val (.int c1), .val (.int c2), .val (.int c3), .val (.int c4), .unset, .unset] [(.ref sx)]))
    refine own_up (fun _ kq => XS.astore X22.here hx rfl (hb hby at_61) rfl rfl (l' := #[.val (.int p0), .val (.int p1), .val (.int p2), .val (.int p3), .val (.int p4), .val (.int p5), .val (.int (4 : Int32)), .val (.int c0), .val (.int c1), .val (.int c2), .val (.int c3), .val (.int c4), .val (.ref sx), .unset]) rfl kq) ?_
    show own_Go p.tables e below _ (T22.setTop (mkF m 63 #[.val (.int p0), .val (.int p1), .val (.int p2), .val (.int p3), .val (.int p4), .val (.int p5), .val (.int (4 : Int32)), .val (.int c0), .val (.int c1), .val (.int c2), .val (.int c3), .val (.int c4), .val (.ref sx), .unset] []))
    refine own_up (fun _ kq => XS.iconst X22.here hx rfl (hb hby at_63) kq) ?_
    show own_Go p.tables e below _ (T22.setTop (mkF m 64 #[.val (.int p0), .val (.int p1), .val (.int p2), .val (.int p3), .val (.int p4), .val (.int p5), .val (.int (4 : Int32)), .val (.int c0), .val (.int c1), .val (.int c2), .val (.int c3), .val (.int c4), .val (.ref sx), .unset] [(.int (0 : Int32))]))
    refine own_up (fun _ kq => XS.istore X22.here hx rfl (hb hby at_64) rfl (l' := #[.val (.int p0), .val (.int p1), .val (.int p2), .val (.int p3), .val (.int p4), .val (.int p5), .val (.int (4 : Int32)), .val (.int c0), .val (.int c1), .val (.int c2), .val (.int c3), .val (.int c4), .val (.ref sx), .val (.int (0 : Int32))]) rfl kq) ?_
    show own_Go p.tables e below _ (T22.setTop (mkF m 66 #[.val (.int p0), .val (.int p1), .val (.int p2), .val (.int p3), .val (.int p4), .val (.int p5), .val (.int (4 : Int32)), .val (.int c0), .val (.int c1), .val (.int c2), .val (.int c3), .val (.int c4), .val (.ref sx), .val (.int (0 : Int32))] []))
    refine own_up (fun _ kq => XS.iload X22.here hx rfl (hb hby at_66) rfl kq) ?_
    show own_Go p.tables e below _ (T22.setTop (mkF m 68 #[.val (.int p0), .val (.int p1), .val (.int p2), .val (.int p3), .val (.int p4), .val (.int p5), .val (.int (4 : Int32)), .val (.int c0), .val (.int c1), .val (.int c2), .val (.int c3), .val (.int c4), .val (.ref sx), .val (.int (0 : Int32))] [(.int (4 : Int32))]))
    refine own_up (fun _ kq => XS.ifNo X22.here hx rfl (hb hby at_68) rfl ((if0 _ _).trans (tlt (by decide : (0 : Int32) < (4 : Int32))).2.2.2) kq) ?_
    show own_Go p.tables e below _ (T22.setTop (mkF m 71 #[.val (.int p0), .val (.int p1), .val (.int p2), .val (.int p3), .val (.int p4), .val (.int p5), .val (.int (4 : Int32)), .val (.int c0), .val (.int c1), .val (.int c2), .val (.int c3), .val (.int c4), .val (.ref sx), .val (.int (0 : Int32))] []))
    refine own_up (fun _ kq => XS.iload X22.here hx rfl (hb hby at_71) rfl kq) ?_
    show own_Go p.tables e below _ (T22.setTop (mkF m 73 #[.val (.int p0), .val (.int p1), .val (.int p2), .val (.int p3), .val (.int p4), .val (.int p5), .val (.int (4 : Int32)), .val (.int c0), .val (.int c1), .val (.int c2), .val (.int c3), .val (.int c4), .val (.ref sx), .val (.int (0 : Int32))] [(.int c0)]))
    obtain ⟨_, _, ⟨T23, L23, k23, n23⟩, -, X23, ⟨Lc23, hQ23, l23, y23, z23⟩, st23⟩ := Jvm.LawKit.callS X22 hx (y := (⟨"com/example/checkoff_codex/checkoffcodex/io/ValueTextDigitsPinLaw", "ascii", "(C)Z"⟩ : MethodName)) hown (mvT hZ (hw _ (List.mem_of_getElem? (i := 53) rfl))) (mvT hZ (hw _ (List.mem_of_getElem? (i := 54) rfl))) (mvT hZ (hw _ (List.mem_of_getElem? (i := 4) rfl))) (mvT hZ (hw _ (List.mem_of_getElem? (i := 55) rfl))) (by decide) (backOf (W := 0) (rmAs l Z a0 hw [] c0 T22.heap n0 ZH) hZ (hw _ (List.mem_of_getElem? (i := 55) rfl)) (hw _ (List.mem_of_getElem? (i := 4) rfl)) (by decide) (by decide)) (g := (mkF m 73 #[.val (.int p0), .val (.int p1), .val (.int p2), .val (.int p3), .val (.int p4), .val (.int p5), .val (.int (4 : Int32)), .val (.int c0), .val (.int c1), .val (.int c2), .val (.int c3), .val (.int c4), .val (.ref sx), .val (.int (0 : Int32))] [(.int c0)])) rfl (by rw [hml]; rfl) (argsL := [(.int c0)]) (rest := []) (lenOf pd_9 rfl) rfl (by show 2 * 0 + _ ≤ _; exact Nat.le_of_eq rfl) (hb hby at_73) (fun _ _ => ⟨rfl, rfl, (by decide : 4 + 0 ≤ _), (by decide : 23 + 0 ≤ _)⟩)
    dsimp only [Pt.U, Pt.locs, Pt.cells, Pt.slots] at X23 l23 y23 z23 st23 hQ23
    subst l23 y23 z23
    obtain ⟨rfl, Nq23, e23⟩ := hQ23
    have N23 := Fr.app N22 Nq23
    refine own_up st23 ?_
    show own_Go p.tables e below _ (T23.setTop (mkF m 76 #[.val (.int p0), .val (.int p1), .val (.int p2), .val (.int p3), .val (.int p4), .val (.int p5), .val (.int (4 : Int32)), .val (.int c0), .val (.int c1), .val (.int c2), .val (.int c3), .val (.int c4), .val (.ref sx), .val (.int (0 : Int32))] [(.int (own_dg c0))]))
    obtain ⟨v76_6, hv76_6⟩ : ∃ z : Int32, z = if (own_dg c0) = (0 : Int32) then (0 : Int32) else (1 : Int32) := ⟨_, rfl⟩
    have sg24 : ∀ t, Steps p.tables e below (T23.setTop (mkF m 82 #[.val (.int p0), .val (.int p1), .val (.int p2), .val (.int p3), .val (.int p4), .val (.int p5), .val (.int (4 : Int32)), .val (.int c0), .val (.int c1), .val (.int c2), .val (.int c3), .val (.int c4), .val (.ref sx), .val (.int v76_6)] [])) t → Steps p.tables e below (T23.setTop (mkF m 76 #[.val (.int p0), .val (.int p1), .val (.int p2), .val (.int p3), .val (.int p4), .val (.int p5), .val (.int (4 : Int32)), .val (.int c0), .val (.int c1), .val (.int c2), .val (.int c3), .val (.int c4), .val (.ref sx), .val (.int (0 : Int32))] [(.int (own_dg c0))])) t := by
      intro t kq
      by_cases hc76 : (own_dg c0) = (0 : Int32)
      · rw [hv76_6, if_pos hc76] at kq
        refine XS.ifYes X23.here hx rfl (pc0 := 76) (pc' := 82) rfl (hb hby at_76) rfl ((if0 _ _).trans (teq hc76).1) (by decide) (by decide) ?_
        show Steps p.tables e below (T23.setTop (mkF m 82 #[.val (.int p0), .val (.int p1), .val (.int p2), .val (.int p3), .val (.int p4), .val (.int p5), .val (.int (4 : Int32)), .val (.int c0), .val (.int c1), .val (.int c2), .val (.int c3), .val (.int c4), .val (.ref sx), .val (.int (0 : Int32))] [])) _
        exact kq
      · rw [hv76_6, if_neg hc76] at kq
        refine XS.ifNo X23.here hx rfl (hb hby at_76) rfl ((if0 _ _).trans (feq hc76).1) ?_
        show Steps p.tables e below (T23.setTop (mkF m 79 #[.val (.int p0), .val (.int p1), .val (.int p2), .val (.int p3), .val (.int p4), .val (.int p5), .val (.int (4 : Int32)), .val (.int c0), .val (.int c1), .val (.int c2), .val (.int c3), .val (.int c4), .val (.ref sx), .val (.int (0 : Int32))] [])) _
        refine XS.iinc X23.here hx rfl (hb hby at_79) rfl (l' := #[.val (.int p0), .val (.int p1), .val (.int p2), .val (.int p3), .val (.int p4), .val (.int p5), .val (.int (4 : Int32)), .val (.int c0), .val (.int c1), .val (.int c2), .val (.int c3), .val (.int c4), .val (.ref sx), .val (.int (1 : Int32))]) rfl ?_
        show Steps p.tables e below (T23.setTop (mkF m 82 #[.val (.int p0), .val (.int p1), .val (.int p2), .val (.int p3), .val (.int p4), .val (.int p5), .val (.int (4 : Int32)), .val (.int c0), .val (.int c1), .val (.int c2), .val (.int c3), .val (.int c4), .val (.ref sx), .val (.int (1 : Int32))] [])) _
        exact kq
    refine own_up sg24 ?_
    show own_Go p.tables e below _ (T23.setTop (mkF m 82 #[.val (.int p0), .val (.int p1), .val (.int p2), .val (.int p3), .val (.int p4), .val (.int p5), .val (.int (4 : Int32)), .val (.int c0), .val (.int c1), .val (.int c2), .val (.int c3), .val (.int c4), .val (.ref sx), .val (.int v76_6)] []))
    refine own_up (fun _ kq => XS.iload X23.here hx rfl (hb hby at_82) rfl kq) ?_
    show own_Go p.tables e below _ (T23.setTop (mkF m 84 #[.val (.int p0), .val (.int p1), .val (.int p2), .val (.int p3), .val (.int p4), .val (.int p5), .val (.int (4 : Int32)), .val (.int c0), .val (.int c1), .val (.int c2), .val (.int c3), .val (.int c4), .val (.ref sx), .val (.int v76_6)] [(.int (4 : Int32))]))
    refine own_up (fun _ kq => XS.iconst X23.here hx rfl (hb hby at_84) kq) ?_
    show own_Go p.tables e below _ (T23.setTop (mkF m 85 #[.val (.int p0), .val (.int p1), .val (.int p2), .val (.int p3), .val (.int p4), .val (.int p5), .val (.int (4 : Int32)), .val (.int c0), .val (.int c1), .val (.int c2), .val (.int c3), .val (.int c4), .val (.ref sx), .val (.int v76_6)] [(.int (1 : Int32)), (.int (4 : Int32))]))
    refine own_up (fun _ kq => XS.icmpNo X23.here hx rfl (hb hby at_85) rfl (tlt (by decide : (1 : Int32) < (4 : Int32))).2.2.2 kq) ?_
    show own_Go p.tables e below _ (T23.setTop (mkF m 88 #[.val (.int p0), .val (.int p1), .val (.int p2), .val (.int p3), .val (.int p4), .val (.int p5), .val (.int (4 : Int32)), .val (.int c0), .val (.int c1), .val (.int c2), .val (.int c3), .val (.int c4), .val (.ref sx), .val (.int v76_6)] []))
    refine own_up (fun _ kq => XS.iload X23.here hx rfl (hb hby at_88) rfl kq) ?_
    show own_Go p.tables e below _ (T23.setTop (mkF m 90 #[.val (.int p0), .val (.int p1), .val (.int p2), .val (.int p3), .val (.int p4), .val (.int p5), .val (.int (4 : Int32)), .val (.int c0), .val (.int c1), .val (.int c2), .val (.int c3), .val (.int c4), .val (.ref sx), .val (.int v76_6)] [(.int c1)]))
    obtain ⟨_, _, ⟨T25, L25, k25, n25⟩, -, X25, ⟨Lc25, hQ25, l25, y25, z25⟩, st25⟩ := Jvm.LawKit.callS X23 hx (y := (⟨"com/example/checkoff_codex/checkoffcodex/io/ValueTextDigitsPinLaw", "ascii", "(C)Z"⟩ : MethodName)) hown (mvT hZ (hw _ (List.mem_of_getElem? (i := 53) rfl))) (mvT hZ (hw _ (List.mem_of_getElem? (i := 54) rfl))) (mvT hZ (hw _ (List.mem_of_getElem? (i := 4) rfl))) (mvT hZ (hw _ (List.mem_of_getElem? (i := 55) rfl))) (by decide) (backOf (W := 0) (rmAs l Z a0 hw [] c1 T22.heap n0 ZH) hZ (hw _ (List.mem_of_getElem? (i := 55) rfl)) (hw _ (List.mem_of_getElem? (i := 4) rfl)) (by decide) (by decide)) (g := (mkF m 90 #[.val (.int p0), .val (.int p1), .val (.int p2), .val (.int p3), .val (.int p4), .val (.int p5), .val (.int (4 : Int32)), .val (.int c0), .val (.int c1), .val (.int c2), .val (.int c3), .val (.int c4), .val (.ref sx), .val (.int v76_6)] [(.int c1)])) rfl (by rw [hml]; rfl) (argsL := [(.int c1)]) (rest := []) (lenOf pd_9 rfl) rfl (by show 2 * 0 + _ ≤ _; exact Nat.le_of_eq rfl) (hb hby at_90) (fun _ _ => ⟨rfl, e23, (by decide : 4 + 0 ≤ _), (by decide : 23 + 0 ≤ _)⟩)
    dsimp only [Pt.U, Pt.locs, Pt.cells, Pt.slots] at X25 l25 y25 z25 st25 hQ25
    subst l25 y25 z25
    obtain ⟨rfl, Nq25, e25⟩ := hQ25
    have N25 := Fr.app N23 Nq25
    refine own_up st25 ?_
    show own_Go p.tables e below _ (T25.setTop (mkF m 93 #[.val (.int p0), .val (.int p1), .val (.int p2), .val (.int p3), .val (.int p4), .val (.int p5), .val (.int (4 : Int32)), .val (.int c0), .val (.int c1), .val (.int c2), .val (.int c3), .val (.int c4), .val (.ref sx), .val (.int v76_6)] [(.int (own_dg c1))]))
    obtain ⟨v93_7, hv93_7⟩ : ∃ z : Int32, z = if (own_dg c1) = (0 : Int32) then v76_6 else (v76_6 + (1 : Int32)) := ⟨_, rfl⟩
    have sg26 : ∀ t, Steps p.tables e below (T25.setTop (mkF m 99 #[.val (.int p0), .val (.int p1), .val (.int p2), .val (.int p3), .val (.int p4), .val (.int p5), .val (.int (4 : Int32)), .val (.int c0), .val (.int c1), .val (.int c2), .val (.int c3), .val (.int c4), .val (.ref sx), .val (.int v93_7)] [])) t → Steps p.tables e below (T25.setTop (mkF m 93 #[.val (.int p0), .val (.int p1), .val (.int p2), .val (.int p3), .val (.int p4), .val (.int p5), .val (.int (4 : Int32)), .val (.int c0), .val (.int c1), .val (.int c2), .val (.int c3), .val (.int c4), .val (.ref sx), .val (.int v76_6)] [(.int (own_dg c1))])) t := by
      intro t kq
      by_cases hc93 : (own_dg c1) = (0 : Int32)
      · rw [hv93_7, if_pos hc93] at kq
        refine XS.ifYes X25.here hx rfl (pc0 := 93) (pc' := 99) rfl (hb hby at_93) rfl ((if0 _ _).trans (teq hc93).1) (by decide) (by decide) ?_
        show Steps p.tables e below (T25.setTop (mkF m 99 #[.val (.int p0), .val (.int p1), .val (.int p2), .val (.int p3), .val (.int p4), .val (.int p5), .val (.int (4 : Int32)), .val (.int c0), .val (.int c1), .val (.int c2), .val (.int c3), .val (.int c4), .val (.ref sx), .val (.int v76_6)] [])) _
        exact kq
      · rw [hv93_7, if_neg hc93] at kq
        refine XS.ifNo X25.here hx rfl (hb hby at_93) rfl ((if0 _ _).trans (feq hc93).1) ?_
        show Steps p.tables e below (T25.setTop (mkF m 96 #[.val (.int p0), .val (.int p1), .val (.int p2), .val (.int p3), .val (.int p4), .val (.int p5), .val (.int (4 : Int32)), .val (.int c0), .val (.int c1), .val (.int c2), .val (.int c3), .val (.int c4), .val (.ref sx), .val (.int v76_6)] [])) _
        refine XS.iinc X25.here hx rfl (hb hby at_96) rfl (l' := #[.val (.int p0), .val (.int p1), .val (.int p2), .val (.int p3), .val (.int p4), .val (.int p5), .val (.int (4 : Int32)), .val (.int c0), .val (.int c1), .val (.int c2), .val (.int c3), .val (.int c4), .val (.ref sx), .val (.int (v76_6 + (1 : Int32)))]) rfl ?_
        show Steps p.tables e below (T25.setTop (mkF m 99 #[.val (.int p0), .val (.int p1), .val (.int p2), .val (.int p3), .val (.int p4), .val (.int p5), .val (.int (4 : Int32)), .val (.int c0), .val (.int c1), .val (.int c2), .val (.int c3), .val (.int c4), .val (.ref sx), .val (.int (v76_6 + (1 : Int32)))] [])) _
        exact kq
    refine own_up sg26 ?_
    show own_Go p.tables e below _ (T25.setTop (mkF m 99 #[.val (.int p0), .val (.int p1), .val (.int p2), .val (.int p3), .val (.int p4), .val (.int p5), .val (.int (4 : Int32)), .val (.int c0), .val (.int c1), .val (.int c2), .val (.int c3), .val (.int c4), .val (.ref sx), .val (.int v93_7)] []))
    refine own_up (fun _ kq => XS.iload X25.here hx rfl (hb hby at_99) rfl kq) ?_
    show own_Go p.tables e below _ (T25.setTop (mkF m 101 #[.val (.int p0), .val (.int p1), .val (.int p2), .val (.int p3), .val (.int p4), .val (.int p5), .val (.int (4 : Int32)), .val (.int c0), .val (.int c1), .val (.int c2), .val (.int c3), .val (.int c4), .val (.ref sx), .val (.int v93_7)] [(.int (4 : Int32))]))
    refine own_up (fun _ kq => XS.iconst X25.here hx rfl (hb hby at_101) kq) ?_
    show own_Go p.tables e below _ (T25.setTop (mkF m 102 #[.val (.int p0), .val (.int p1), .val (.int p2), .val (.int p3), .val (.int p4), .val (.int p5), .val (.int (4 : Int32)), .val (.int c0), .val (.int c1), .val (.int c2), .val (.int c3), .val (.int c4), .val (.ref sx), .val (.int v93_7)] [(.int (2 : Int32)), (.int (4 : Int32))]))
    refine own_up (fun _ kq => XS.icmpNo X25.here hx rfl (hb hby at_102) rfl (tlt (by decide : (2 : Int32) < (4 : Int32))).2.2.2 kq) ?_
    show own_Go p.tables e below _ (T25.setTop (mkF m 105 #[.val (.int p0), .val (.int p1), .val (.int p2), .val (.int p3), .val (.int p4), .val (.int p5), .val (.int (4 : Int32)), .val (.int c0), .val (.int c1), .val (.int c2), .val (.int c3), .val (.int c4), .val (.ref sx), .val (.int v93_7)] []))
    refine own_up (fun _ kq => XS.iload X25.here hx rfl (hb hby at_105) rfl kq) ?_
    show own_Go p.tables e below _ (T25.setTop (mkF m 107 #[.val (.int p0), .val (.int p1), .val (.int p2), .val (.int p3), .val (.int p4), .val (.int p5), .val (.int (4 : Int32)), .val (.int c0), .val (.int c1), .val (.int c2), .val (.int c3), .val (.int c4), .val (.ref sx), .val (.int v93_7)] [(.int c2)]))
    obtain ⟨_, _, ⟨T27, L27, k27, n27⟩, -, X27, ⟨Lc27, hQ27, l27, y27, z27⟩, st27⟩ := Jvm.LawKit.callS X25 hx (y := (⟨"com/example/checkoff_codex/checkoffcodex/io/ValueTextDigitsPinLaw", "ascii", "(C)Z"⟩ : MethodName)) hown (mvT hZ (hw _ (List.mem_of_getElem? (i := 53) rfl))) (mvT hZ (hw _ (List.mem_of_getElem? (i := 54) rfl))) (mvT hZ (hw _ (List.mem_of_getElem? (i := 4) rfl))) (mvT hZ (hw _ (List.mem_of_getElem? (i := 55) rfl))) (by decide) (backOf (W := 0) (rmAs l Z a0 hw [] c2 T22.heap n0 ZH) hZ (hw _ (List.mem_of_getElem? (i := 55) rfl)) (hw _ (List.mem_of_getElem? (i := 4) rfl)) (by decide) (by decide)) (g := (mkF m 107 #[.val (.int p0), .val (.int p1), .val (.int p2), .val (.int p3), .val (.int p4), .val (.int p5), .val (.int (4 : Int32)), .val (.int c0), .val (.int c1), .val (.int c2), .val (.int c3), .val (.int c4), .val (.ref sx), .val (.int v93_7)] [(.int c2)])) rfl (by rw [hml]; rfl) (argsL := [(.int c2)]) (rest := []) (lenOf pd_9 rfl) rfl (by show 2 * 0 + _ ≤ _; exact Nat.le_of_eq rfl) (hb hby at_107) (fun _ _ => ⟨rfl, e25, (by decide : 4 + 0 ≤ _), (by decide : 23 + 0 ≤ _)⟩)
    dsimp only [Pt.U, Pt.locs, Pt.cells, Pt.slots] at X27 l27 y27 z27 st27 hQ27
    subst l27 y27 z27
    obtain ⟨rfl, Nq27, e27⟩ := hQ27
    have N27 := Fr.app N25 Nq27
    refine own_up st27 ?_
    show own_Go p.tables e below _ (T27.setTop (mkF m 110 #[.val (.int p0), .val (.int p1), .val (.int p2), .val (.int p3), .val (.int p4), .val (.int p5), .val (.int (4 : Int32)), .val (.int c0), .val (.int c1), .val (.int c2), .val (.int c3), .val (.int c4), .val (.ref sx), .val (.int v93_7)] [(.int (own_dg c2))]))
    obtain ⟨v110_8, hv110_8⟩ : ∃ z : Int32, z = if (own_dg c2) = (0 : Int32) then v93_7 else (v93_7 + (1 : Int32)) := ⟨_, rfl⟩
    have sg28 : ∀ t, Steps p.tables e below (T27.setTop (mkF m 116 #[.val (.int p0), .val (.int p1), .val (.int p2), .val (.int p3), .val (.int p4), .val (.int p5), .val (.int (4 : Int32)), .val (.int c0), .val (.int c1), .val (.int c2), .val (.int c3), .val (.int c4), .val (.ref sx), .val (.int v110_8)] [])) t → Steps p.tables e below (T27.setTop (mkF m 110 #[.val (.int p0), .val (.int p1), .val (.int p2), .val (.int p3), .val (.int p4), .val (.int p5), .val (.int (4 : Int32)), .val (.int c0), .val (.int c1), .val (.int c2), .val (.int c3), .val (.int c4), .val (.ref sx), .val (.int v93_7)] [(.int (own_dg c2))])) t := by
      intro t kq
      by_cases hc110 : (own_dg c2) = (0 : Int32)
      · rw [hv110_8, if_pos hc110] at kq
        refine XS.ifYes X27.here hx rfl (pc0 := 110) (pc' := 116) rfl (hb hby at_110) rfl ((if0 _ _).trans (teq hc110).1) (by decide) (by decide) ?_
        show Steps p.tables e below (T27.setTop (mkF m 116 #[.val (.int p0), .val (.int p1), .val (.int p2), .val (.int p3), .val (.int p4), .val (.int p5), .val (.int (4 : Int32)), .val (.int c0), .val (.int c1), .val (.int c2), .val (.int c3), .val (.int c4), .val (.ref sx), .val (.int v93_7)] [])) _
        exact kq
      · rw [hv110_8, if_neg hc110] at kq
        refine XS.ifNo X27.here hx rfl (hb hby at_110) rfl ((if0 _ _).trans (feq hc110).1) ?_
        show Steps p.tables e below (T27.setTop (mkF m 113 #[.val (.int p0), .val (.int p1), .val (.int p2), .val (.int p3), .val (.int p4), .val (.int p5), .val (.int (4 : Int32)), .val (.int c0), .val (.int c1), .val (.int c2), .val (.int c3), .val (.int c4), .val (.ref sx), .val (.int v93_7)] [])) _
        refine XS.iinc X27.here hx rfl (hb hby at_113) rfl (l' := #[.val (.int p0), .val (.int p1), .val (.int p2), .val (.int p3), .val (.int p4), .val (.int p5), .val (.int (4 : Int32)), .val (.int c0), .val (.int c1), .val (.int c2), .val (.int c3), .val (.int c4), .val (.ref sx), .val (.int (v93_7 + (1 : Int32)))]) rfl ?_
        show Steps p.tables e below (T27.setTop (mkF m 116 #[.val (.int p0), .val (.int p1), .val (.int p2), .val (.int p3), .val (.int p4), .val (.int p5), .val (.int (4 : Int32)), .val (.int c0), .val (.int c1), .val (.int c2), .val (.int c3), .val (.int c4), .val (.ref sx), .val (.int (v93_7 + (1 : Int32)))] [])) _
        exact kq
    refine own_up sg28 ?_
    show own_Go p.tables e below _ (T27.setTop (mkF m 116 #[.val (.int p0), .val (.int p1), .val (.int p2), .val (.int p3), .val (.int p4), .val (.int p5), .val (.int (4 : Int32)), .val (.int c0), .val (.int c1), .val (.int c2), .val (.int c3), .val (.int c4), .val (.ref sx), .val (.int v110_8)] []))
    refine own_up (fun _ kq => XS.iload X27.here hx rfl (hb hby at_116) rfl kq) ?_
    show own_Go p.tables e below _ (T27.setTop (mkF m 118 #[.val (.int p0), .val (.int p1), .val (.int p2), .val (.int p3), .val (.int p4), .val (.int p5), .val (.int (4 : Int32)), .val (.int c0), .val (.int c1), .val (.int c2), .val (.int c3), .val (.int c4), .val (.ref sx), .val (.int v110_8)] [(.int (4 : Int32))]))
    refine own_up (fun _ kq => XS.iconst X27.here hx rfl (hb hby at_118) kq) ?_
    show own_Go p.tables e below _ (T27.setTop (mkF m 119 #[.val (.int p0), .val (.int p1), .val (.int p2), .val (.int p3), .val (.int p4), .val (.int p5), .val (.int (4 : Int32)), .val (.int c0), .val (.int c1), .val (.int c2), .val (.int c3), .val (.int c4), .val (.ref sx), .val (.int v110_8)] [(.int (3 : Int32)), (.int (4 : Int32))]))
    refine own_up (fun _ kq => XS.icmpNo X27.here hx rfl (hb hby at_119) rfl (tlt (by decide : (3 : Int32) < (4 : Int32))).2.2.2 kq) ?_
    show own_Go p.tables e below _ (T27.setTop (mkF m 122 #[.val (.int p0), .val (.int p1), .val (.int p2), .val (.int p3), .val (.int p4), .val (.int p5), .val (.int (4 : Int32)), .val (.int c0), .val (.int c1), .val (.int c2), .val (.int c3), .val (.int c4), .val (.ref sx), .val (.int v110_8)] []))
    refine own_up (fun _ kq => XS.iload X27.here hx rfl (hb hby at_122) rfl kq) ?_
    show own_Go p.tables e below _ (T27.setTop (mkF m 124 #[.val (.int p0), .val (.int p1), .val (.int p2), .val (.int p3), .val (.int p4), .val (.int p5), .val (.int (4 : Int32)), .val (.int c0), .val (.int c1), .val (.int c2), .val (.int c3), .val (.int c4), .val (.ref sx), .val (.int v110_8)] [(.int c3)]))
    obtain ⟨_, _, ⟨T29, L29, k29, n29⟩, -, X29, ⟨Lc29, hQ29, l29, y29, z29⟩, st29⟩ := Jvm.LawKit.callS X27 hx (y := (⟨"com/example/checkoff_codex/checkoffcodex/io/ValueTextDigitsPinLaw", "ascii", "(C)Z"⟩ : MethodName)) hown (mvT hZ (hw _ (List.mem_of_getElem? (i := 53) rfl))) (mvT hZ (hw _ (List.mem_of_getElem? (i := 54) rfl))) (mvT hZ (hw _ (List.mem_of_getElem? (i := 4) rfl))) (mvT hZ (hw _ (List.mem_of_getElem? (i := 55) rfl))) (by decide) (backOf (W := 0) (rmAs l Z a0 hw [] c3 T22.heap n0 ZH) hZ (hw _ (List.mem_of_getElem? (i := 55) rfl)) (hw _ (List.mem_of_getElem? (i := 4) rfl)) (by decide) (by decide)) (g := (mkF m 124 #[.val (.int p0), .val (.int p1), .val (.int p2), .val (.int p3), .val (.int p4), .val (.int p5), .val (.int (4 : Int32)), .val (.int c0), .val (.int c1), .val (.int c2), .val (.int c3), .val (.int c4), .val (.ref sx), .val (.int v110_8)] [(.int c3)])) rfl (by rw [hml]; rfl) (argsL := [(.int c3)]) (rest := []) (lenOf pd_9 rfl) rfl (by show 2 * 0 + _ ≤ _; exact Nat.le_of_eq rfl) (hb hby at_124) (fun _ _ => ⟨rfl, e27, (by decide : 4 + 0 ≤ _), (by decide : 23 + 0 ≤ _)⟩)
    dsimp only [Pt.U, Pt.locs, Pt.cells, Pt.slots] at X29 l29 y29 z29 st29 hQ29
    subst l29 y29 z29
    obtain ⟨rfl, Nq29, e29⟩ := hQ29
    have N29 := Fr.app N27 Nq29
    refine own_up st29 ?_
    show own_Go p.tables e below _ (T29.setTop (mkF m 127 #[.val (.int p0), .val (.int p1), .val (.int p2), .val (.int p3), .val (.int p4), .val (.int p5), .val (.int (4 : Int32)), .val (.int c0), .val (.int c1), .val (.int c2), .val (.int c3), .val (.int c4), .val (.ref sx), .val (.int v110_8)] [(.int (own_dg c3))]))
    obtain ⟨v127_9, hv127_9⟩ : ∃ z : Int32, z = if (own_dg c3) = (0 : Int32) then v110_8 else (v110_8 + (1 : Int32)) := ⟨_, rfl⟩
    have sg30 : ∀ t, Steps p.tables e below (T29.setTop (mkF m 133 #[.val (.int p0), .val (.int p1), .val (.int p2), .val (.int p3), .val (.int p4), .val (.int p5), .val (.int (4 : Int32)), .val (.int c0), .val (.int c1), .val (.int c2), .val (.int c3), .val (.int c4), .val (.ref sx), .val (.int v127_9)] [])) t → Steps p.tables e below (T29.setTop (mkF m 127 #[.val (.int p0), .val (.int p1), .val (.int p2), .val (.int p3), .val (.int p4), .val (.int p5), .val (.int (4 : Int32)), .val (.int c0), .val (.int c1), .val (.int c2), .val (.int c3), .val (.int c4), .val (.ref sx), .val (.int v110_8)] [(.int (own_dg c3))])) t := by
      intro t kq
      by_cases hc127 : (own_dg c3) = (0 : Int32)
      · rw [hv127_9, if_pos hc127] at kq
        refine XS.ifYes X29.here hx rfl (pc0 := 127) (pc' := 133) rfl (hb hby at_127) rfl ((if0 _ _).trans (teq hc127).1) (by decide) (by decide) ?_
        show Steps p.tables e below (T29.setTop (mkF m 133 #[.val (.int p0), .val (.int p1), .val (.int p2), .val (.int p3), .val (.int p4), .val (.int p5), .val (.int (4 : Int32)), .val (.int c0), .val (.int c1), .val (.int c2), .val (.int c3), .val (.int c4), .val (.ref sx), .val (.int v110_8)] [])) _
        exact kq
      · rw [hv127_9, if_neg hc127] at kq
        refine XS.ifNo X29.here hx rfl (hb hby at_127) rfl ((if0 _ _).trans (feq hc127).1) ?_
        show Steps p.tables e below (T29.setTop (mkF m 130 #[.val (.int p0), .val (.int p1), .val (.int p2), .val (.int p3), .val (.int p4), .val (.int p5), .val (.int (4 : Int32)), .val (.int c0), .val (.int c1), .val (.int c2), .val (.int c3), .val (.int c4), .val (.ref sx), .val (.int v110_8)] [])) _
        refine XS.iinc X29.here hx rfl (hb hby at_130) rfl (l' := #[.val (.int p0), .val (.int p1), .val (.int p2), .val (.int p3), .val (.int p4), .val (.int p5), .val (.int (4 : Int32)), .val (.int c0), .val (.int c1), .val (.int c2), .val (.int c3), .val (.int c4), .val (.ref sx), .val (.int (v110_8 + (1 : Int32)))]) rfl ?_
        show Steps p.tables e below (T29.setTop (mkF m 133 #[.val (.int p0), .val (.int p1), .val (.int p2), .val (.int p3), .val (.int p4), .val (.int p5), .val (.int (4 : Int32)), .val (.int c0), .val (.int c1), .val (.int c2), .val (.int c3), .val (.int c4), .val (.ref sx), .val (.int (v110_8 + (1 : Int32)))] [])) _
        exact kq
    refine own_up sg30 ?_
    show own_Go p.tables e below _ (T29.setTop (mkF m 133 #[.val (.int p0), .val (.int p1), .val (.int p2), .val (.int p3), .val (.int p4), .val (.int p5), .val (.int (4 : Int32)), .val (.int c0), .val (.int c1), .val (.int c2), .val (.int c3), .val (.int c4), .val (.ref sx), .val (.int v127_9)] []))
    refine own_up (fun _ kq => XS.iload X29.here hx rfl (hb hby at_133) rfl kq) ?_
    show own_Go p.tables e below _ (T29.setTop (mkF m 135 #[.val (.int p0), .val (.int p1), .val (.int p2), .val (.int p3), .val (.int p4), .val (.int p5), .val (.int (4 : Int32)), .val (.int c0), .val (.int c1), .val (.int c2), .val (.int c3), .val (.int c4), .val (.ref sx), .val (.int v127_9)] [(.int (4 : Int32))]))
    refine own_up (fun _ kq => XS.iconst X29.here hx rfl (hb hby at_135) kq) ?_
    show own_Go p.tables e below _ (T29.setTop (mkF m 136 #[.val (.int p0), .val (.int p1), .val (.int p2), .val (.int p3), .val (.int p4), .val (.int p5), .val (.int (4 : Int32)), .val (.int c0), .val (.int c1), .val (.int c2), .val (.int c3), .val (.int c4), .val (.ref sx), .val (.int v127_9)] [(.int (4 : Int32)), (.int (4 : Int32))]))
    refine own_up (fun _ kq => XS.icmpYes X29.here hx rfl (pc0 := 136) (pc' := 150) rfl (hb hby at_136) rfl (flt (by decide : ¬ ((4 : Int32) < (4 : Int32)))).2.2.2 (by decide) (by decide) kq) ?_
    show own_Go p.tables e below _ (T29.setTop (mkF m 150 #[.val (.int p0), .val (.int p1), .val (.int p2), .val (.int p3), .val (.int p4), .val (.int p5), .val (.int (4 : Int32)), .val (.int c0), .val (.int c1), .val (.int c2), .val (.int c3), .val (.int c4), .val (.ref sx), .val (.int v127_9)] []))
    refine own_up (fun _ kq => XS.aload X29.here hx rfl (hb hby at_150) rfl rfl kq) ?_
    show own_Go p.tables e below _ (T29.setTop (mkF m 152 #[.val (.int p0), .val (.int p1), .val (.int p2), .val (.int p3), .val (.int p4), .val (.int p5), .val (.int (4 : Int32)), .val (.int c0), .val (.int c1), .val (.int c2), .val (.int c3), .val (.int c4), .val (.ref sx), .val (.int v127_9)] [(.ref sx)]))
    obtain ⟨_, _, ⟨T31, L31, k31, n31⟩, -, X31, ⟨Lc31, hQ31, l31, y31, z31⟩, st31⟩ := Jvm.LawKit.callS X29 hx (y := (⟨"com/example/checkoff_codex/checkoffcodex/io/ValueText", "digits", "(Ljava/lang/String;)I"⟩ : MethodName)) hown (mvT hZ (hw _ (List.mem_of_getElem? (i := 28) rfl))) (mvT hZ (hw _ (List.mem_of_getElem? (i := 29) rfl))) (mvT hZ (hw _ (List.mem_of_getElem? (i := 30) rfl))) (mvT hZ (hw _ (List.mem_of_getElem? (i := 31) rfl))) (by decide) (backOf (W := 0) (rmD l Z a0 hw [] cz fv sx tb (4 : Int32) (8 : Int32) (own_cs [c0, c1, c2, c3]) T22.heap n0 ZH OO HW0 E_sx F_sx hSX (own_chL [c0, c1, c2, c3] (List.forall_mem_cons.mpr ⟨⟨hl0, hu0⟩, (List.forall_mem_cons.mpr ⟨⟨hl1, hu1⟩, (List.forall_mem_cons.mpr ⟨⟨hl2, hu2⟩, (List.forall_mem_cons.mpr ⟨⟨hl3, hu3⟩, (fun _ h => nomatch h)⟩)⟩)⟩)⟩)) (by unfold own_sm; decide) (by decide)) hZ (hw _ (List.mem_of_getElem? (i := 31) rfl)) (hw _ (List.mem_of_getElem? (i := 30) rfl)) (by decide) (by decide)) (g := (mkF m 152 #[.val (.int p0), .val (.int p1), .val (.int p2), .val (.int p3), .val (.int p4), .val (.int p5), .val (.int (4 : Int32)), .val (.int c0), .val (.int c1), .val (.int c2), .val (.int c3), .val (.int c4), .val (.ref sx), .val (.int v127_9)] [(.ref sx)])) rfl (by rw [hml]; rfl) (argsL := [(.ref sx)]) (rest := []) (lenOf pd_19 rfl) rfl (by show 2 * 0 + _ ≤ _; exact Nat.le_of_eq rfl) (hb hby at_152) (fun _ _ => ⟨rfl, e29, (by decide : 4 + 0 ≤ _), (by decide : 23 + 0 ≤ _)⟩)
    dsimp only [Pt.U, Pt.locs, Pt.cells, Pt.slots] at X31 l31 y31 z31 st31 hQ31
    subst l31 y31 z31
    obtain ⟨rfl, Nq31, e31⟩ := hQ31
    have N31 := Fr.app N29 Nq31
    refine own_up st31 ?_
    show own_Go p.tables e below _ (T31.setTop (mkF m 155 #[.val (.int p0), .val (.int p1), .val (.int p2), .val (.int p3), .val (.int p4), .val (.int p5), .val (.int (4 : Int32)), .val (.int c0), .val (.int c1), .val (.int c2), .val (.int c3), .val (.int c4), .val (.ref sx), .val (.int v127_9)] [(.int (own_cf (own_cs [c0, c1, c2, c3]) ((4 : Int32)).toNatClampNeg))]))
    refine own_up (fun _ kq => XS.iload X31.here hx rfl (hb hby at_155) rfl kq) ?_
    show own_Go p.tables e below _ (T31.setTop (mkF m 157 #[.val (.int p0), .val (.int p1), .val (.int p2), .val (.int p3), .val (.int p4), .val (.int p5), .val (.int (4 : Int32)), .val (.int c0), .val (.int c1), .val (.int c2), .val (.int c3), .val (.int c4), .val (.ref sx), .val (.int v127_9)] [(.int v127_9), (.int (own_cf (own_cs [c0, c1, c2, c3]) ((4 : Int32)).toNatClampNeg))]))
    refine own_up (fun _ kq => XS.icmpNo X31.here hx rfl (hb hby at_157) rfl (teq (by rw [hv127_9, hv110_8, hv93_7, hv76_6]; rfl)).2 kq) ?_
    show own_Go p.tables e below _ (T31.setTop (mkF m 160 #[.val (.int p0), .val (.int p1), .val (.int p2), .val (.int p3), .val (.int p4), .val (.int p5), .val (.int (4 : Int32)), .val (.int c0), .val (.int c1), .val (.int c2), .val (.int c3), .val (.int c4), .val (.ref sx), .val (.int v127_9)] []))
    refine own_up (fun _ kq => XS.iconst X31.here hx rfl (hb hby at_160) kq) ?_
    show own_Go p.tables e below _ (T31.setTop (mkF m 161 #[.val (.int p0), .val (.int p1), .val (.int p2), .val (.int p3), .val (.int p4), .val (.int p5), .val (.int (4 : Int32)), .val (.int c0), .val (.int c1), .val (.int c2), .val (.int c3), .val (.int c4), .val (.ref sx), .val (.int v127_9)] [(.int (1 : Int32))]))
    refine own_up (fun _ kq => XS.goto X31.here hx rfl (pc0 := 161) (pc' := 165) rfl (hb hby at_161) (by decide) (by decide) kq) ?_
    show own_Go p.tables e below _ (T31.setTop (mkF m 165 #[.val (.int p0), .val (.int p1), .val (.int p2), .val (.int p3), .val (.int p4), .val (.int p5), .val (.int (4 : Int32)), .val (.int c0), .val (.int c1), .val (.int c2), .val (.int c3), .val (.int c4), .val (.ref sx), .val (.int v127_9)] [(.int (1 : Int32))]))
    obtain ⟨fs32, hr32, hrun32, hended32, hW32, hsame32⟩ := X31.leave (v := some (.int (1 : Int32))) (fun h => by rw [Bd.returns] at h; cases h)
    refine own_end ⟨_, _, ?_, hrun32, hended32, _, _, rfl, ?_, ⟨_, rfl⟩, hW32, hsame32.mono (by decide) (by decide)⟩
    · exact retN X31 hx (t := .boolean) Bd.returns (by simp) (hb hby at_165) hr32
    · show Qrm0 Z p0 p1 p2 p3 p4 p5 cz fv h0 n0 _ T31.heap _
      rw [e31]
      exact ⟨rfl, N31⟩
  · show own_Go p.tables e below _ (s₁.setTop (mkF m 46 #[.val (.int p0), .val (.int p1), .val (.int p2), .val (.int p3), .val (.int p4), .val (.int p5), .val (.int (5 : Int32)), .val (.int c0), .val (.int c1), .val (.int c2), .val (.int c3), .val (.int c4), .unset, .unset] []))
    refine own_up (fun _ kq => XS.iload X0.here hx rfl (hb hby at_46) rfl kq) ?_
    show own_Go p.tables e below _ (s₁.setTop (mkF m 48 #[.val (.int p0), .val (.int p1), .val (.int p2), .val (.int p3), .val (.int p4), .val (.int p5), .val (.int (5 : Int32)), .val (.int c0), .val (.int c1), .val (.int c2), .val (.int c3), .val (.int c4), .unset, .unset] [(.int (5 : Int32))]))
    refine own_up (fun _ kq => XS.iload X0.here hx rfl (hb hby at_48) rfl kq) ?_
    show own_Go p.tables e below _ (s₁.setTop (mkF m 50 #[.val (.int p0), .val (.int p1), .val (.int p2), .val (.int p3), .val (.int p4), .val (.int p5), .val (.int (5 : Int32)), .val (.int c0), .val (.int c1), .val (.int c2), .val (.int c3), .val (.int c4), .unset, .unset] [(.int c0), (.int (5 : Int32))]))
    refine own_up (fun _ kq => XS.iload X0.here hx rfl (hb hby at_50) rfl kq) ?_
    show own_Go p.tables e below _ (s₁.setTop (mkF m 52 #[.val (.int p0), .val (.int p1), .val (.int p2), .val (.int p3), .val (.int p4), .val (.int p5), .val (.int (5 : Int32)), .val (.int c0), .val (.int c1), .val (.int c2), .val (.int c3), .val (.int c4), .unset, .unset] [(.int c1), (.int c0), (.int (5 : Int32))]))
    refine own_up (fun _ kq => XS.iload X0.here hx rfl (hb hby at_52) rfl kq) ?_
    show own_Go p.tables e below _ (s₁.setTop (mkF m 54 #[.val (.int p0), .val (.int p1), .val (.int p2), .val (.int p3), .val (.int p4), .val (.int p5), .val (.int (5 : Int32)), .val (.int c0), .val (.int c1), .val (.int c2), .val (.int c3), .val (.int c4), .unset, .unset] [(.int c2), (.int c1), (.int c0), (.int (5 : Int32))]))
    refine own_up (fun _ kq => XS.iload X0.here hx rfl (hb hby at_54) rfl kq) ?_
    show own_Go p.tables e below _ (s₁.setTop (mkF m 56 #[.val (.int p0), .val (.int p1), .val (.int p2), .val (.int p3), .val (.int p4), .val (.int p5), .val (.int (5 : Int32)), .val (.int c0), .val (.int c1), .val (.int c2), .val (.int c3), .val (.int c4), .unset, .unset] [(.int c3), (.int c2), (.int c1), (.int c0), (.int (5 : Int32))]))
    refine own_up (fun _ kq => XS.iload X0.here hx rfl (hb hby at_56) rfl kq) ?_
    show own_Go p.tables e below _ (s₁.setTop (mkF m 58 #[.val (.int p0), .val (.int p1), .val (.int p2), .val (.int p3), .val (.int p4), .val (.int p5), .val (.int (5 : Int32)), .val (.int c0), .val (.int c1), .val (.int c2), .val (.int c3), .val (.int c4), .unset, .unset] [(.int c4), (.int c3), (.int c2), (.int c1), (.int c0), (.int (5 : Int32))]))
    obtain ⟨_, _, ⟨T33, L33, k33, n33⟩, -, X33, ⟨Lc33, hQ33, l33, y33, z33⟩, st33⟩ := Jvm.LawKit.callS X0 hx (y := (⟨"com/example/checkoff_codex/checkoffcodex/io/ValueTextDigitsPinLaw", "text", "(ICCCCC)Ljava/lang/String;"⟩ : MethodName)) hown (mvT hZ (hw _ (List.mem_of_getElem? (i := 2) rfl))) (mvT hZ (hw _ (List.mem_of_getElem? (i := 3) rfl))) (mvT hZ (hw _ (List.mem_of_getElem? (i := 4) rfl))) (mvT hZ (hw _ (List.mem_of_getElem? (i := 5) rfl))) (by decide) (backOf (W := 0) (rmT5 l Z a0 hw [] cz fv c0 c1 c2 c3 c4 h0 n0 ZH OO HW0 hl0 hl1 hl2 hl3 hl4 hu0 hu1 hu2 hu3 hu4) hZ (hw _ (List.mem_of_getElem? (i := 5) rfl)) (hw _ (List.mem_of_getElem? (i := 4) rfl)) (by decide) (by decide)) (g := (mkF m 58 #[.val (.int p0), .val (.int p1), .val (.int p2), .val (.int p3), .val (.int p4), .val (.int p5), .val (.int (5 : Int32)), .val (.int c0), .val (.int c1), .val (.int c2), .val (.int c3), .val (.int c4), .unset, .unset] [(.int c4), (.int c3), (.int c2), (.int c1), (.int c0), (.int (5 : Int32))])) rfl (by rw [hml]; rfl) (argsL := [(.int (5 : Int32)), (.int c0), (.int c1), (.int c2), (.int c3), (.int c4)]) (rest := []) (lenOf pd_18 rfl) rfl (by show 2 * 0 + _ ≤ _; exact Nat.le_of_eq rfl) (hb hby at_58) (fun _ _ => ⟨rfl, e0, (by decide : 0 + 4 ≤ _), (by decide : 0 + 24 ≤ _)⟩)
    dsimp only [Pt.U, Pt.locs, Pt.cells, Pt.slots] at X33 l33 y33 z33 st33 hQ33
    subst l33 y33 z33
    obtain ⟨sx, sf33, rfl, Nq33, K33, E_sx, tb, F_sx, hSX⟩ := hQ33
    have g_sx : n0 ≤ sx := Nat.le_trans ZH sf33
    have sz_sx : h0.size ≤ sx := Nat.le_trans KK.1 sf33
    have N33 := Fr.app N0 Nq33
    have ZH := Nat.le_trans ZH K33.1
    have KK := KK.trans K33 all0
    have OO := OO.keep K33 all0
    refine own_up st33 ?_
    show own_Go p.tables e below _ (T33.setTop (mkF m 61 #[.val (.int p0), .val (.int p1), .val (.int p2), .val (.int p3), .val (.int p4), .val (.int p5), .val (.int (5 : Int32)), .val (.int c0), .val (.int c1), .val (.int c2), .val (.int c3), .val (.int c4), .unset, .unset] [(.ref sx)]))
    refine own_up (fun _ kq => XS.astore X33.here hx rfl (hb hby at_61) rfl rfl (l' := #[.val (.int p0), .val (.int p1), .val (.int p2), .val (.int p3), .val (.int p4), .val (.int p5), .val (.int (5 : Int32)), .val (.int c0), .val (.int c1), .val (.int c2), .val (.int c3), .val (.int c4), .val (.ref sx), .unset]) rfl kq) ?_
    show own_Go p.tables e below _ (T33.setTop (mkF m 63 #[.val (.int p0), .val (.int p1), .val (.int p2), .val (.int p3), .val (.int p4), .val (.int p5), .val (.int (5 : Int32)), .val (.int c0), .val (.int c1), .val (.int c2), .val (.int c3), .val (.int c4), .val (.ref sx), .unset] []))
    refine own_up (fun _ kq => XS.iconst X33.here hx rfl (hb hby at_63) kq) ?_
    show own_Go p.tables e below _ (T33.setTop (mkF m 64 #[.val (.int p0), .val (.int p1), .val (.int p2), .val (.int p3), .val (.int p4), .val (.int p5), .val (.int (5 : Int32)), .val (.int c0), .val (.int c1), .val (.int c2), .val (.int c3), .val (.int c4), .val (.ref sx), .unset] [(.int (0 : Int32))]))
    refine own_up (fun _ kq => XS.istore X33.here hx rfl (hb hby at_64) rfl (l' := #[.val (.int p0), .val (.int p1), .val (.int p2), .val (.int p3), .val (.int p4), .val (.int p5), .val (.int (5 : Int32)), .val (.int c0), .val (.int c1), .val (.int c2), .val (.int c3), .val (.int c4), .val (.ref sx), .val (.int (0 : Int32))]) rfl kq) ?_
    show own_Go p.tables e below _ (T33.setTop (mkF m 66 #[.val (.int p0), .val (.int p1), .val (.int p2), .val (.int p3), .val (.int p4), .val (.int p5), .val (.int (5 : Int32)), .val (.int c0), .val (.int c1), .val (.int c2), .val (.int c3), .val (.int c4), .val (.ref sx), .val (.int (0 : Int32))] []))
    refine own_up (fun _ kq => XS.iload X33.here hx rfl (hb hby at_66) rfl kq) ?_
    show own_Go p.tables e below _ (T33.setTop (mkF m 68 #[.val (.int p0), .val (.int p1), .val (.int p2), .val (.int p3), .val (.int p4), .val (.int p5), .val (.int (5 : Int32)), .val (.int c0), .val (.int c1), .val (.int c2), .val (.int c3), .val (.int c4), .val (.ref sx), .val (.int (0 : Int32))] [(.int (5 : Int32))]))
    refine own_up (fun _ kq => XS.ifNo X33.here hx rfl (hb hby at_68) rfl ((if0 _ _).trans (tlt (by decide : (0 : Int32) < (5 : Int32))).2.2.2) kq) ?_
    show own_Go p.tables e below _ (T33.setTop (mkF m 71 #[.val (.int p0), .val (.int p1), .val (.int p2), .val (.int p3), .val (.int p4), .val (.int p5), .val (.int (5 : Int32)), .val (.int c0), .val (.int c1), .val (.int c2), .val (.int c3), .val (.int c4), .val (.ref sx), .val (.int (0 : Int32))] []))
    refine own_up (fun _ kq => XS.iload X33.here hx rfl (hb hby at_71) rfl kq) ?_
    show own_Go p.tables e below _ (T33.setTop (mkF m 73 #[.val (.int p0), .val (.int p1), .val (.int p2), .val (.int p3), .val (.int p4), .val (.int p5), .val (.int (5 : Int32)), .val (.int c0), .val (.int c1), .val (.int c2), .val (.int c3), .val (.int c4), .val (.ref sx), .val (.int (0 : Int32))] [(.int c0)]))
    obtain ⟨_, _, ⟨T34, L34, k34, n34⟩, -, X34, ⟨Lc34, hQ34, l34, y34, z34⟩, st34⟩ := Jvm.LawKit.callS X33 hx (y := (⟨"com/example/checkoff_codex/checkoffcodex/io/ValueTextDigitsPinLaw", "ascii", "(C)Z"⟩ : MethodName)) hown (mvT hZ (hw _ (List.mem_of_getElem? (i := 53) rfl))) (mvT hZ (hw _ (List.mem_of_getElem? (i := 54) rfl))) (mvT hZ (hw _ (List.mem_of_getElem? (i := 4) rfl))) (mvT hZ (hw _ (List.mem_of_getElem? (i := 55) rfl))) (by decide) (backOf (W := 0) (rmAs l Z a0 hw [] c0 T33.heap n0 ZH) hZ (hw _ (List.mem_of_getElem? (i := 55) rfl)) (hw _ (List.mem_of_getElem? (i := 4) rfl)) (by decide) (by decide)) (g := (mkF m 73 #[.val (.int p0), .val (.int p1), .val (.int p2), .val (.int p3), .val (.int p4), .val (.int p5), .val (.int (5 : Int32)), .val (.int c0), .val (.int c1), .val (.int c2), .val (.int c3), .val (.int c4), .val (.ref sx), .val (.int (0 : Int32))] [(.int c0)])) rfl (by rw [hml]; rfl) (argsL := [(.int c0)]) (rest := []) (lenOf pd_9 rfl) rfl (by show 2 * 0 + _ ≤ _; exact Nat.le_of_eq rfl) (hb hby at_73) (fun _ _ => ⟨rfl, rfl, (by decide : 4 + 0 ≤ _), (by decide : 24 + 0 ≤ _)⟩)
    dsimp only [Pt.U, Pt.locs, Pt.cells, Pt.slots] at X34 l34 y34 z34 st34 hQ34
    subst l34 y34 z34
    obtain ⟨rfl, Nq34, e34⟩ := hQ34
    have N34 := Fr.app N33 Nq34
    refine own_up st34 ?_
    show own_Go p.tables e below _ (T34.setTop (mkF m 76 #[.val (.int p0), .val (.int p1), .val (.int p2), .val (.int p3), .val (.int p4), .val (.int p5), .val (.int (5 : Int32)), .val (.int c0), .val (.int c1), .val (.int c2), .val (.int c3), .val (.int c4), .val (.ref sx), .val (.int (0 : Int32))] [(.int (own_dg c0))]))
    obtain ⟨v76_10, hv76_10⟩ : ∃ z : Int32, z = if (own_dg c0) = (0 : Int32) then (0 : Int32) else (1 : Int32) := ⟨_, rfl⟩
    have sg35 : ∀ t, Steps p.tables e below (T34.setTop (mkF m 82 #[.val (.int p0), .val (.int p1), .val (.int p2), .val (.int p3), .val (.int p4), .val (.int p5), .val (.int (5 : Int32)), .val (.int c0), .val (.int c1), .val (.int c2), .val (.int c3), .val (.int c4), .val (.ref sx), .val (.int v76_10)] [])) t → Steps p.tables e below (T34.setTop (mkF m 76 #[.val (.int p0), .val (.int p1), .val (.int p2), .val (.int p3), .val (.int p4), .val (.int p5), .val (.int (5 : Int32)), .val (.int c0), .val (.int c1), .val (.int c2), .val (.int c3), .val (.int c4), .val (.ref sx), .val (.int (0 : Int32))] [(.int (own_dg c0))])) t := by
      intro t kq
      by_cases hc76 : (own_dg c0) = (0 : Int32)
      · rw [hv76_10, if_pos hc76] at kq
        refine XS.ifYes X34.here hx rfl (pc0 := 76) (pc' := 82) rfl (hb hby at_76) rfl ((if0 _ _).trans (teq hc76).1) (by decide) (by decide) ?_
        show Steps p.tables e below (T34.setTop (mkF m 82 #[.val (.int p0), .val (.int p1), .val (.int p2), .val (.int p3), .val (.int p4), .val (.int p5), .val (.int (5 : Int32)), .val (.int c0), .val (.int c1), .val (.int c2), .val (.int c3), .val (.int c4), .val (.ref sx), .val (.int (0 : Int32))] [])) _
        exact kq
      · rw [hv76_10, if_neg hc76] at kq
        refine XS.ifNo X34.here hx rfl (hb hby at_76) rfl ((if0 _ _).trans (feq hc76).1) ?_
        show Steps p.tables e below (T34.setTop (mkF m 79 #[.val (.int p0), .val (.int p1), .val (.int p2), .val (.int p3), .val (.int p4), .val (.int p5), .val (.int (5 : Int32)), .val (.int c0), .val (.int c1), .val (.int c2), .val (.int c3), .val (.int c4), .val (.ref sx), .val (.int (0 : Int32))] [])) _
        refine XS.iinc X34.here hx rfl (hb hby at_79) rfl (l' := #[.val (.int p0), .val (.int p1), .val (.int p2), .val (.int p3), .val (.int p4), .val (.int p5), .val (.int (5 : Int32)), .val (.int c0), .val (.int c1), .val (.int c2), .val (.int c3), .val (.int c4), .val (.ref sx), .val (.int (1 : Int32))]) rfl ?_
        show Steps p.tables e below (T34.setTop (mkF m 82 #[.val (.int p0), .val (.int p1), .val (.int p2), .val (.int p3), .val (.int p4), .val (.int p5), .val (.int (5 : Int32)), .val (.int c0), .val (.int c1), .val (.int c2), .val (.int c3), .val (.int c4), .val (.ref sx), .val (.int (1 : Int32))] [])) _
        exact kq
    refine own_up sg35 ?_
    show own_Go p.tables e below _ (T34.setTop (mkF m 82 #[.val (.int p0), .val (.int p1), .val (.int p2), .val (.int p3), .val (.int p4), .val (.int p5), .val (.int (5 : Int32)), .val (.int c0), .val (.int c1), .val (.int c2), .val (.int c3), .val (.int c4), .val (.ref sx), .val (.int v76_10)] []))
    refine own_up (fun _ kq => XS.iload X34.here hx rfl (hb hby at_82) rfl kq) ?_
    show own_Go p.tables e below _ (T34.setTop (mkF m 84 #[.val (.int p0), .val (.int p1), .val (.int p2), .val (.int p3), .val (.int p4), .val (.int p5), .val (.int (5 : Int32)), .val (.int c0), .val (.int c1), .val (.int c2), .val (.int c3), .val (.int c4), .val (.ref sx), .val (.int v76_10)] [(.int (5 : Int32))]))
    refine own_up (fun _ kq => XS.iconst X34.here hx rfl (hb hby at_84) kq) ?_
    show own_Go p.tables e below _ (T34.setTop (mkF m 85 #[.val (.int p0), .val (.int p1), .val (.int p2), .val (.int p3), .val (.int p4), .val (.int p5), .val (.int (5 : Int32)), .val (.int c0), .val (.int c1), .val (.int c2), .val (.int c3), .val (.int c4), .val (.ref sx), .val (.int v76_10)] [(.int (1 : Int32)), (.int (5 : Int32))]))
    refine own_up (fun _ kq => XS.icmpNo X34.here hx rfl (hb hby at_85) rfl (tlt (by decide : (1 : Int32) < (5 : Int32))).2.2.2 kq) ?_
    show own_Go p.tables e below _ (T34.setTop (mkF m 88 #[.val (.int p0), .val (.int p1), .val (.int p2), .val (.int p3), .val (.int p4), .val (.int p5), .val (.int (5 : Int32)), .val (.int c0), .val (.int c1), .val (.int c2), .val (.int c3), .val (.int c4), .val (.ref sx), .val (.int v76_10)] []))
    refine own_up (fun _ kq => XS.iload X34.here hx rfl (hb hby at_88) rfl kq) ?_
    show own_Go p.tables e below _ (T34.setTop (mkF m 90 #[.val (.int p0), .val (.int p1), .val (.int p2), .val (.int p3), .val (.int p4), .val (.int p5), .val (.int (5 : Int32)), .val (.int c0), .val (.int c1), .val (.int c2), .val (.int c3), .val (.int c4), .val (.ref sx), .val (.int v76_10)] [(.int c1)]))
    obtain ⟨_, _, ⟨T36, L36, k36, n36⟩, -, X36, ⟨Lc36, hQ36, l36, y36, z36⟩, st36⟩ := Jvm.LawKit.callS X34 hx (y := (⟨"com/example/checkoff_codex/checkoffcodex/io/ValueTextDigitsPinLaw", "ascii", "(C)Z"⟩ : MethodName)) hown (mvT hZ (hw _ (List.mem_of_getElem? (i := 53) rfl))) (mvT hZ (hw _ (List.mem_of_getElem? (i := 54) rfl))) (mvT hZ (hw _ (List.mem_of_getElem? (i := 4) rfl))) (mvT hZ (hw _ (List.mem_of_getElem? (i := 55) rfl))) (by decide) (backOf (W := 0) (rmAs l Z a0 hw [] c1 T33.heap n0 ZH) hZ (hw _ (List.mem_of_getElem? (i := 55) rfl)) (hw _ (List.mem_of_getElem? (i := 4) rfl)) (by decide) (by decide)) (g := (mkF m 90 #[.val (.int p0), .val (.int p1), .val (.int p2), .val (.int p3), .val (.int p4), .val (.int p5), .val (.int (5 : Int32)), .val (.int c0), .val (.int c1), .val (.int c2), .val (.int c3), .val (.int c4), .val (.ref sx), .val (.int v76_10)] [(.int c1)])) rfl (by rw [hml]; rfl) (argsL := [(.int c1)]) (rest := []) (lenOf pd_9 rfl) rfl (by show 2 * 0 + _ ≤ _; exact Nat.le_of_eq rfl) (hb hby at_90) (fun _ _ => ⟨rfl, e34, (by decide : 4 + 0 ≤ _), (by decide : 24 + 0 ≤ _)⟩)
    dsimp only [Pt.U, Pt.locs, Pt.cells, Pt.slots] at X36 l36 y36 z36 st36 hQ36
    subst l36 y36 z36
    obtain ⟨rfl, Nq36, e36⟩ := hQ36
    have N36 := Fr.app N34 Nq36
    refine own_up st36 ?_
    show own_Go p.tables e below _ (T36.setTop (mkF m 93 #[.val (.int p0), .val (.int p1), .val (.int p2), .val (.int p3), .val (.int p4), .val (.int p5), .val (.int (5 : Int32)), .val (.int c0), .val (.int c1), .val (.int c2), .val (.int c3), .val (.int c4), .val (.ref sx), .val (.int v76_10)] [(.int (own_dg c1))]))
    obtain ⟨v93_11, hv93_11⟩ : ∃ z : Int32, z = if (own_dg c1) = (0 : Int32) then v76_10 else (v76_10 + (1 : Int32)) := ⟨_, rfl⟩
    have sg37 : ∀ t, Steps p.tables e below (T36.setTop (mkF m 99 #[.val (.int p0), .val (.int p1), .val (.int p2), .val (.int p3), .val (.int p4), .val (.int p5), .val (.int (5 : Int32)), .val (.int c0), .val (.int c1), .val (.int c2), .val (.int c3), .val (.int c4), .val (.ref sx), .val (.int v93_11)] [])) t → Steps p.tables e below (T36.setTop (mkF m 93 #[.val (.int p0), .val (.int p1), .val (.int p2), .val (.int p3), .val (.int p4), .val (.int p5), .val (.int (5 : Int32)), .val (.int c0), .val (.int c1), .val (.int c2), .val (.int c3), .val (.int c4), .val (.ref sx), .val (.int v76_10)] [(.int (own_dg c1))])) t := by
      intro t kq
      by_cases hc93 : (own_dg c1) = (0 : Int32)
      · rw [hv93_11, if_pos hc93] at kq
        refine XS.ifYes X36.here hx rfl (pc0 := 93) (pc' := 99) rfl (hb hby at_93) rfl ((if0 _ _).trans (teq hc93).1) (by decide) (by decide) ?_
        show Steps p.tables e below (T36.setTop (mkF m 99 #[.val (.int p0), .val (.int p1), .val (.int p2), .val (.int p3), .val (.int p4), .val (.int p5), .val (.int (5 : Int32)), .val (.int c0), .val (.int c1), .val (.int c2), .val (.int c3), .val (.int c4), .val (.ref sx), .val (.int v76_10)] [])) _
        exact kq
      · rw [hv93_11, if_neg hc93] at kq
        refine XS.ifNo X36.here hx rfl (hb hby at_93) rfl ((if0 _ _).trans (feq hc93).1) ?_
        show Steps p.tables e below (T36.setTop (mkF m 96 #[.val (.int p0), .val (.int p1), .val (.int p2), .val (.int p3), .val (.int p4), .val (.int p5), .val (.int (5 : Int32)), .val (.int c0), .val (.int c1), .val (.int c2), .val (.int c3), .val (.int c4), .val (.ref sx), .val (.int v76_10)] [])) _
        refine XS.iinc X36.here hx rfl (hb hby at_96) rfl (l' := #[.val (.int p0), .val (.int p1), .val (.int p2), .val (.int p3), .val (.int p4), .val (.int p5), .val (.int (5 : Int32)), .val (.int c0), .val (.int c1), .val (.int c2), .val (.int c3), .val (.int c4), .val (.ref sx), .val (.int (v76_10 + (1 : Int32)))]) rfl ?_
        show Steps p.tables e below (T36.setTop (mkF m 99 #[.val (.int p0), .val (.int p1), .val (.int p2), .val (.int p3), .val (.int p4), .val (.int p5), .val (.int (5 : Int32)), .val (.int c0), .val (.int c1), .val (.int c2), .val (.int c3), .val (.int c4), .val (.ref sx), .val (.int (v76_10 + (1 : Int32)))] [])) _
        exact kq
    refine own_up sg37 ?_
    show own_Go p.tables e below _ (T36.setTop (mkF m 99 #[.val (.int p0), .val (.int p1), .val (.int p2), .val (.int p3), .val (.int p4), .val (.int p5), .val (.int (5 : Int32)), .val (.int c0), .val (.int c1), .val (.int c2), .val (.int c3), .val (.int c4), .val (.ref sx), .val (.int v93_11)] []))
    refine own_up (fun _ kq => XS.iload X36.here hx rfl (hb hby at_99) rfl kq) ?_
    show own_Go p.tables e below _ (T36.setTop (mkF m 101 #[.val (.int p0), .val (.int p1), .val (.int p2), .val (.int p3), .val (.int p4), .val (.int p5), .val (.int (5 : Int32)), .val (.int c0), .val (.int c1), .val (.int c2), .val (.int c3), .val (.int c4), .val (.ref sx), .val (.int v93_11)] [(.int (5 : Int32))]))
    refine own_up (fun _ kq => XS.iconst X36.here hx rfl (hb hby at_101) kq) ?_
    show own_Go p.tables e below _ (T36.setTop (mkF m 102 #[.val (.int p0), .val (.int p1), .val (.int p2), .val (.int p3), .val (.int p4), .val (.int p5), .val (.int (5 : Int32)), .val (.int c0), .val (.int c1), .val (.int c2), .val (.int c3), .val (.int c4), .val (.ref sx), .val (.int v93_11)] [(.int (2 : Int32)), (.int (5 : Int32))]))
    refine own_up (fun _ kq => XS.icmpNo X36.here hx rfl (hb hby at_102) rfl (tlt (by decide : (2 : Int32) < (5 : Int32))).2.2.2 kq) ?_
    show own_Go p.tables e below _ (T36.setTop (mkF m 105 #[.val (.int p0), .val (.int p1), .val (.int p2), .val (.int p3), .val (.int p4), .val (.int p5), .val (.int (5 : Int32)), .val (.int c0), .val (.int c1), .val (.int c2), .val (.int c3), .val (.int c4), .val (.ref sx), .val (.int v93_11)] []))
    refine own_up (fun _ kq => XS.iload X36.here hx rfl (hb hby at_105) rfl kq) ?_
    show own_Go p.tables e below _ (T36.setTop (mkF m 107 #[.val (.int p0), .val (.int p1), .val (.int p2), .val (.int p3), .val (.int p4), .val (.int p5), .val (.int (5 : Int32)), .val (.int c0), .val (.int c1), .val (.int c2), .val (.int c3), .val (.int c4), .val (.ref sx), .val (.int v93_11)] [(.int c2)]))
    obtain ⟨_, _, ⟨T38, L38, k38, n38⟩, -, X38, ⟨Lc38, hQ38, l38, y38, z38⟩, st38⟩ := Jvm.LawKit.callS X36 hx (y := (⟨"com/example/checkoff_codex/checkoffcodex/io/ValueTextDigitsPinLaw", "ascii", "(C)Z"⟩ : MethodName)) hown (mvT hZ (hw _ (List.mem_of_getElem? (i := 53) rfl))) (mvT hZ (hw _ (List.mem_of_getElem? (i := 54) rfl))) (mvT hZ (hw _ (List.mem_of_getElem? (i := 4) rfl))) (mvT hZ (hw _ (List.mem_of_getElem? (i := 55) rfl))) (by decide) (backOf (W := 0) (rmAs l Z a0 hw [] c2 T33.heap n0 ZH) hZ (hw _ (List.mem_of_getElem? (i := 55) rfl)) (hw _ (List.mem_of_getElem? (i := 4) rfl)) (by decide) (by decide)) (g := (mkF m 107 #[.val (.int p0), .val (.int p1), .val (.int p2), .val (.int p3), .val (.int p4), .val (.int p5), .val (.int (5 : Int32)), .val (.int c0), .val (.int c1), .val (.int c2), .val (.int c3), .val (.int c4), .val (.ref sx), .val (.int v93_11)] [(.int c2)])) rfl (by rw [hml]; rfl) (argsL := [(.int c2)]) (rest := []) (lenOf pd_9 rfl) rfl (by show 2 * 0 + _ ≤ _; exact Nat.le_of_eq rfl) (hb hby at_107) (fun _ _ => ⟨rfl, e36, (by decide : 4 + 0 ≤ _), (by decide : 24 + 0 ≤ _)⟩)
    dsimp only [Pt.U, Pt.locs, Pt.cells, Pt.slots] at X38 l38 y38 z38 st38 hQ38
    subst l38 y38 z38
    obtain ⟨rfl, Nq38, e38⟩ := hQ38
    have N38 := Fr.app N36 Nq38
    refine own_up st38 ?_
    show own_Go p.tables e below _ (T38.setTop (mkF m 110 #[.val (.int p0), .val (.int p1), .val (.int p2), .val (.int p3), .val (.int p4), .val (.int p5), .val (.int (5 : Int32)), .val (.int c0), .val (.int c1), .val (.int c2), .val (.int c3), .val (.int c4), .val (.ref sx), .val (.int v93_11)] [(.int (own_dg c2))]))
    obtain ⟨v110_12, hv110_12⟩ : ∃ z : Int32, z = if (own_dg c2) = (0 : Int32) then v93_11 else (v93_11 + (1 : Int32)) := ⟨_, rfl⟩
    have sg39 : ∀ t, Steps p.tables e below (T38.setTop (mkF m 116 #[.val (.int p0), .val (.int p1), .val (.int p2), .val (.int p3), .val (.int p4), .val (.int p5), .val (.int (5 : Int32)), .val (.int c0), .val (.int c1), .val (.int c2), .val (.int c3), .val (.int c4), .val (.ref sx), .val (.int v110_12)] [])) t → Steps p.tables e below (T38.setTop (mkF m 110 #[.val (.int p0), .val (.int p1), .val (.int p2), .val (.int p3), .val (.int p4), .val (.int p5), .val (.int (5 : Int32)), .val (.int c0), .val (.int c1), .val (.int c2), .val (.int c3), .val (.int c4), .val (.ref sx), .val (.int v93_11)] [(.int (own_dg c2))])) t := by
      intro t kq
      by_cases hc110 : (own_dg c2) = (0 : Int32)
      · rw [hv110_12, if_pos hc110] at kq
        refine XS.ifYes X38.here hx rfl (pc0 := 110) (pc' := 116) rfl (hb hby at_110) rfl ((if0 _ _).trans (teq hc110).1) (by decide) (by decide) ?_
        show Steps p.tables e below (T38.setTop (mkF m 116 #[.val (.int p0), .val (.int p1), .val (.int p2), .val (.int p3), .val (.int p4), .val (.int p5), .val (.int (5 : Int32)), .val (.int c0), .val (.int c1), .val (.int c2), .val (.int c3), .val (.int c4), .val (.ref sx), .val (.int v93_11)] [])) _
        exact kq
      · rw [hv110_12, if_neg hc110] at kq
        refine XS.ifNo X38.here hx rfl (hb hby at_110) rfl ((if0 _ _).trans (feq hc110).1) ?_
        show Steps p.tables e below (T38.setTop (mkF m 113 #[.val (.int p0), .val (.int p1), .val (.int p2), .val (.int p3), .val (.int p4), .val (.int p5), .val (.int (5 : Int32)), .val (.int c0), .val (.int c1), .val (.int c2), .val (.int c3), .val (.int c4), .val (.ref sx), .val (.int v93_11)] [])) _
        refine XS.iinc X38.here hx rfl (hb hby at_113) rfl (l' := #[.val (.int p0), .val (.int p1), .val (.int p2), .val (.int p3), .val (.int p4), .val (.int p5), .val (.int (5 : Int32)), .val (.int c0), .val (.int c1), .val (.int c2), .val (.int c3), .val (.int c4), .val (.ref sx), .val (.int (v93_11 + (1 : Int32)))]) rfl ?_
        show Steps p.tables e below (T38.setTop (mkF m 116 #[.val (.int p0), .val (.int p1), .val (.int p2), .val (.int p3), .val (.int p4), .val (.int p5), .val (.int (5 : Int32)), .val (.int c0), .val (.int c1), .val (.int c2), .val (.int c3), .val (.int c4), .val (.ref sx), .val (.int (v93_11 + (1 : Int32)))] [])) _
        exact kq
    refine own_up sg39 ?_
    show own_Go p.tables e below _ (T38.setTop (mkF m 116 #[.val (.int p0), .val (.int p1), .val (.int p2), .val (.int p3), .val (.int p4), .val (.int p5), .val (.int (5 : Int32)), .val (.int c0), .val (.int c1), .val (.int c2), .val (.int c3), .val (.int c4), .val (.ref sx), .val (.int v110_12)] []))
    refine own_up (fun _ kq => XS.iload X38.here hx rfl (hb hby at_116) rfl kq) ?_
    show own_Go p.tables e below _ (T38.setTop (mkF m 118 #[.val (.int p0), .val (.int p1), .val (.int p2), .val (.int p3), .val (.int p4), .val (.int p5), .val (.int (5 : Int32)), .val (.int c0), .val (.int c1), .val (.int c2), .val (.int c3), .val (.int c4), .val (.ref sx), .val (.int v110_12)] [(.int (5 : Int32))]))
    refine own_up (fun _ kq => XS.iconst X38.here hx rfl (hb hby at_118) kq) ?_
    show own_Go p.tables e below _ (T38.setTop (mkF m 119 #[.val (.int p0), .val (.int p1), .val (.int p2), .val (.int p3), .val (.int p4), .val (.int p5), .val (.int (5 : Int32)), .val (.int c0), .val (.int c1), .val (.int c2), .val (.int c3), .val (.int c4), .val (.ref sx), .val (.int v110_12)] [(.int (3 : Int32)), (.int (5 : Int32))]))
    refine own_up (fun _ kq => XS.icmpNo X38.here hx rfl (hb hby at_119) rfl (tlt (by decide : (3 : Int32) < (5 : Int32))).2.2.2 kq) ?_
    show own_Go p.tables e below _ (T38.setTop (mkF m 122 #[.val (.int p0), .val (.int p1), .val (.int p2), .val (.int p3), .val (.int p4), .val (.int p5), .val (.int (5 : Int32)), .val (.int c0), .val (.int c1), .val (.int c2), .val (.int c3), .val (.int c4), .val (.ref sx), .val (.int v110_12)] []))
    refine own_up (fun _ kq => XS.iload X38.here hx rfl (hb hby at_122) rfl kq) ?_
    show own_Go p.tables e below _ (T38.setTop (mkF m 124 #[.val (.int p0), .val (.int p1), .val (.int p2), .val (.int p3), .val (.int p4), .val (.int p5), .val (.int (5 : Int32)), .val (.int c0), .val (.int c1), .val (.int c2), .val (.int c3), .val (.int c4), .val (.ref sx), .val (.int v110_12)] [(.int c3)]))
    obtain ⟨_, _, ⟨T40, L40, k40, n40⟩, -, X40, ⟨Lc40, hQ40, l40, y40, z40⟩, st40⟩ := Jvm.LawKit.callS X38 hx (y := (⟨"com/example/checkoff_codex/checkoffcodex/io/ValueTextDigitsPinLaw", "ascii", "(C)Z"⟩ : MethodName)) hown (mvT hZ (hw _ (List.mem_of_getElem? (i := 53) rfl))) (mvT hZ (hw _ (List.mem_of_getElem? (i := 54) rfl))) (mvT hZ (hw _ (List.mem_of_getElem? (i := 4) rfl))) (mvT hZ (hw _ (List.mem_of_getElem? (i := 55) rfl))) (by decide) (backOf (W := 0) (rmAs l Z a0 hw [] c3 T33.heap n0 ZH) hZ (hw _ (List.mem_of_getElem? (i := 55) rfl)) (hw _ (List.mem_of_getElem? (i := 4) rfl)) (by decide) (by decide)) (g := (mkF m 124 #[.val (.int p0), .val (.int p1), .val (.int p2), .val (.int p3), .val (.int p4), .val (.int p5), .val (.int (5 : Int32)), .val (.int c0), .val (.int c1), .val (.int c2), .val (.int c3), .val (.int c4), .val (.ref sx), .val (.int v110_12)] [(.int c3)])) rfl (by rw [hml]; rfl) (argsL := [(.int c3)]) (rest := []) (lenOf pd_9 rfl) rfl (by show 2 * 0 + _ ≤ _; exact Nat.le_of_eq rfl) (hb hby at_124) (fun _ _ => ⟨rfl, e38, (by decide : 4 + 0 ≤ _), (by decide : 24 + 0 ≤ _)⟩)
    dsimp only [Pt.U, Pt.locs, Pt.cells, Pt.slots] at X40 l40 y40 z40 st40 hQ40
    subst l40 y40 z40
    obtain ⟨rfl, Nq40, e40⟩ := hQ40
    have N40 := Fr.app N38 Nq40
    refine own_up st40 ?_
    show own_Go p.tables e below _ (T40.setTop (mkF m 127 #[.val (.int p0), .val (.int p1), .val (.int p2), .val (.int p3), .val (.int p4), .val (.int p5), .val (.int (5 : Int32)), .val (.int c0), .val (.int c1), .val (.int c2), .val (.int c3), .val (.int c4), .val (.ref sx), .val (.int v110_12)] [(.int (own_dg c3))]))
    obtain ⟨v127_13, hv127_13⟩ : ∃ z : Int32, z = if (own_dg c3) = (0 : Int32) then v110_12 else (v110_12 + (1 : Int32)) := ⟨_, rfl⟩
    have sg41 : ∀ t, Steps p.tables e below (T40.setTop (mkF m 133 #[.val (.int p0), .val (.int p1), .val (.int p2), .val (.int p3), .val (.int p4), .val (.int p5), .val (.int (5 : Int32)), .val (.int c0), .val (.int c1), .val (.int c2), .val (.int c3), .val (.int c4), .val (.ref sx), .val (.int v127_13)] [])) t → Steps p.tables e below (T40.setTop (mkF m 127 #[.val (.int p0), .val (.int p1), .val (.int p2), .val (.int p3), .val (.int p4), .val (.int p5), .val (.int (5 : Int32)), .val (.int c0), .val (.int c1), .val (.int c2), .val (.int c3), .val (.int c4), .val (.ref sx), .val (.int v110_12)] [(.int (own_dg c3))])) t := by
      intro t kq
      by_cases hc127 : (own_dg c3) = (0 : Int32)
      · rw [hv127_13, if_pos hc127] at kq
        refine XS.ifYes X40.here hx rfl (pc0 := 127) (pc' := 133) rfl (hb hby at_127) rfl ((if0 _ _).trans (teq hc127).1) (by decide) (by decide) ?_
        show Steps p.tables e below (T40.setTop (mkF m 133 #[.val (.int p0), .val (.int p1), .val (.int p2), .val (.int p3), .val (.int p4), .val (.int p5), .val (.int (5 : Int32)), .val (.int c0), .val (.int c1), .val (.int c2), .val (.int c3), .val (.int c4), .val (.ref sx), .val (.int v110_12)] [])) _
        exact kq
      · rw [hv127_13, if_neg hc127] at kq
        refine XS.ifNo X40.here hx rfl (hb hby at_127) rfl ((if0 _ _).trans (feq hc127).1) ?_
        show Steps p.tables e below (T40.setTop (mkF m 130 #[.val (.int p0), .val (.int p1), .val (.int p2), .val (.int p3), .val (.int p4), .val (.int p5), .val (.int (5 : Int32)), .val (.int c0), .val (.int c1), .val (.int c2), .val (.int c3), .val (.int c4), .val (.ref sx), .val (.int v110_12)] [])) _
        refine XS.iinc X40.here hx rfl (hb hby at_130) rfl (l' := #[.val (.int p0), .val (.int p1), .val (.int p2), .val (.int p3), .val (.int p4), .val (.int p5), .val (.int (5 : Int32)), .val (.int c0), .val (.int c1), .val (.int c2), .val (.int c3), .val (.int c4), .val (.ref sx), .val (.int (v110_12 + (1 : Int32)))]) rfl ?_
        show Steps p.tables e below (T40.setTop (mkF m 133 #[.val (.int p0), .val (.int p1), .val (.int p2), .val (.int p3), .val (.int p4), .val (.int p5), .val (.int (5 : Int32)), .val (.int c0), .val (.int c1), .val (.int c2), .val (.int c3), .val (.int c4), .val (.ref sx), .val (.int (v110_12 + (1 : Int32)))] [])) _
        exact kq
    refine own_up sg41 ?_
    show own_Go p.tables e below _ (T40.setTop (mkF m 133 #[.val (.int p0), .val (.int p1), .val (.int p2), .val (.int p3), .val (.int p4), .val (.int p5), .val (.int (5 : Int32)), .val (.int c0), .val (.int c1), .val (.int c2), .val (.int c3), .val (.int c4), .val (.ref sx), .val (.int v127_13)] []))
    refine own_up (fun _ kq => XS.iload X40.here hx rfl (hb hby at_133) rfl kq) ?_
    show own_Go p.tables e below _ (T40.setTop (mkF m 135 #[.val (.int p0), .val (.int p1), .val (.int p2), .val (.int p3), .val (.int p4), .val (.int p5), .val (.int (5 : Int32)), .val (.int c0), .val (.int c1), .val (.int c2), .val (.int c3), .val (.int c4), .val (.ref sx), .val (.int v127_13)] [(.int (5 : Int32))]))
    refine own_up (fun _ kq => XS.iconst X40.here hx rfl (hb hby at_135) kq) ?_
    show own_Go p.tables e below _ (T40.setTop (mkF m 136 #[.val (.int p0), .val (.int p1), .val (.int p2), .val (.int p3), .val (.int p4), .val (.int p5), .val (.int (5 : Int32)), .val (.int c0), .val (.int c1), .val (.int c2), .val (.int c3), .val (.int c4), .val (.ref sx), .val (.int v127_13)] [(.int (4 : Int32)), (.int (5 : Int32))]))
    refine own_up (fun _ kq => XS.icmpNo X40.here hx rfl (hb hby at_136) rfl (tlt (by decide : (4 : Int32) < (5 : Int32))).2.2.2 kq) ?_
    show own_Go p.tables e below _ (T40.setTop (mkF m 139 #[.val (.int p0), .val (.int p1), .val (.int p2), .val (.int p3), .val (.int p4), .val (.int p5), .val (.int (5 : Int32)), .val (.int c0), .val (.int c1), .val (.int c2), .val (.int c3), .val (.int c4), .val (.ref sx), .val (.int v127_13)] []))
    refine own_up (fun _ kq => XS.iload X40.here hx rfl (hb hby at_139) rfl kq) ?_
    show own_Go p.tables e below _ (T40.setTop (mkF m 141 #[.val (.int p0), .val (.int p1), .val (.int p2), .val (.int p3), .val (.int p4), .val (.int p5), .val (.int (5 : Int32)), .val (.int c0), .val (.int c1), .val (.int c2), .val (.int c3), .val (.int c4), .val (.ref sx), .val (.int v127_13)] [(.int c4)]))
    obtain ⟨_, _, ⟨T42, L42, k42, n42⟩, -, X42, ⟨Lc42, hQ42, l42, y42, z42⟩, st42⟩ := Jvm.LawKit.callS X40 hx (y := (⟨"com/example/checkoff_codex/checkoffcodex/io/ValueTextDigitsPinLaw", "ascii", "(C)Z"⟩ : MethodName)) hown (mvT hZ (hw _ (List.mem_of_getElem? (i := 53) rfl))) (mvT hZ (hw _ (List.mem_of_getElem? (i := 54) rfl))) (mvT hZ (hw _ (List.mem_of_getElem? (i := 4) rfl))) (mvT hZ (hw _ (List.mem_of_getElem? (i := 55) rfl))) (by decide) (backOf (W := 0) (rmAs l Z a0 hw [] c4 T33.heap n0 ZH) hZ (hw _ (List.mem_of_getElem? (i := 55) rfl)) (hw _ (List.mem_of_getElem? (i := 4) rfl)) (by decide) (by decide)) (g := (mkF m 141 #[.val (.int p0), .val (.int p1), .val (.int p2), .val (.int p3), .val (.int p4), .val (.int p5), .val (.int (5 : Int32)), .val (.int c0), .val (.int c1), .val (.int c2), .val (.int c3), .val (.int c4), .val (.ref sx), .val (.int v127_13)] [(.int c4)])) rfl (by rw [hml]; rfl) (argsL := [(.int c4)]) (rest := []) (lenOf pd_9 rfl) rfl (by show 2 * 0 + _ ≤ _; exact Nat.le_of_eq rfl) (hb hby at_141) (fun _ _ => ⟨rfl, e40, (by decide : 4 + 0 ≤ _), (by decide : 24 + 0 ≤ _)⟩)
    dsimp only [Pt.U, Pt.locs, Pt.cells, Pt.slots] at X42 l42 y42 z42 st42 hQ42
    subst l42 y42 z42
    obtain ⟨rfl, Nq42, e42⟩ := hQ42
    have N42 := Fr.app N40 Nq42
    refine own_up st42 ?_
    show own_Go p.tables e below _ (T42.setTop (mkF m 144 #[.val (.int p0), .val (.int p1), .val (.int p2), .val (.int p3), .val (.int p4), .val (.int p5), .val (.int (5 : Int32)), .val (.int c0), .val (.int c1), .val (.int c2), .val (.int c3), .val (.int c4), .val (.ref sx), .val (.int v127_13)] [(.int (own_dg c4))]))
    obtain ⟨v144_14, hv144_14⟩ : ∃ z : Int32, z = if (own_dg c4) = (0 : Int32) then v127_13 else (v127_13 + (1 : Int32)) := ⟨_, rfl⟩
    have sg43 : ∀ t, Steps p.tables e below (T42.setTop (mkF m 150 #[.val (.int p0), .val (.int p1), .val (.int p2), .val (.int p3), .val (.int p4), .val (.int p5), .val (.int (5 : Int32)), .val (.int c0), .val (.int c1), .val (.int c2), .val (.int c3), .val (.int c4), .val (.ref sx), .val (.int v144_14)] [])) t → Steps p.tables e below (T42.setTop (mkF m 144 #[.val (.int p0), .val (.int p1), .val (.int p2), .val (.int p3), .val (.int p4), .val (.int p5), .val (.int (5 : Int32)), .val (.int c0), .val (.int c1), .val (.int c2), .val (.int c3), .val (.int c4), .val (.ref sx), .val (.int v127_13)] [(.int (own_dg c4))])) t := by
      intro t kq
      by_cases hc144 : (own_dg c4) = (0 : Int32)
      · rw [hv144_14, if_pos hc144] at kq
        refine XS.ifYes X42.here hx rfl (pc0 := 144) (pc' := 150) rfl (hb hby at_144) rfl ((if0 _ _).trans (teq hc144).1) (by decide) (by decide) ?_
        show Steps p.tables e below (T42.setTop (mkF m 150 #[.val (.int p0), .val (.int p1), .val (.int p2), .val (.int p3), .val (.int p4), .val (.int p5), .val (.int (5 : Int32)), .val (.int c0), .val (.int c1), .val (.int c2), .val (.int c3), .val (.int c4), .val (.ref sx), .val (.int v127_13)] [])) _
        exact kq
      · rw [hv144_14, if_neg hc144] at kq
        refine XS.ifNo X42.here hx rfl (hb hby at_144) rfl ((if0 _ _).trans (feq hc144).1) ?_
        show Steps p.tables e below (T42.setTop (mkF m 147 #[.val (.int p0), .val (.int p1), .val (.int p2), .val (.int p3), .val (.int p4), .val (.int p5), .val (.int (5 : Int32)), .val (.int c0), .val (.int c1), .val (.int c2), .val (.int c3), .val (.int c4), .val (.ref sx), .val (.int v127_13)] [])) _
        refine XS.iinc X42.here hx rfl (hb hby at_147) rfl (l' := #[.val (.int p0), .val (.int p1), .val (.int p2), .val (.int p3), .val (.int p4), .val (.int p5), .val (.int (5 : Int32)), .val (.int c0), .val (.int c1), .val (.int c2), .val (.int c3), .val (.int c4), .val (.ref sx), .val (.int (v127_13 + (1 : Int32)))]) rfl ?_
        show Steps p.tables e below (T42.setTop (mkF m 150 #[.val (.int p0), .val (.int p1), .val (.int p2), .val (.int p3), .val (.int p4), .val (.int p5), .val (.int (5 : Int32)), .val (.int c0), .val (.int c1), .val (.int c2), .val (.int c3), .val (.int c4), .val (.ref sx), .val (.int (v127_13 + (1 : Int32)))] [])) _
        exact kq
    refine own_up sg43 ?_
    show own_Go p.tables e below _ (T42.setTop (mkF m 150 #[.val (.int p0), .val (.int p1), .val (.int p2), .val (.int p3), .val (.int p4), .val (.int p5), .val (.int (5 : Int32)), .val (.int c0), .val (.int c1), .val (.int c2), .val (.int c3), .val (.int c4), .val (.ref sx), .val (.int v144_14)] []))
    refine own_up (fun _ kq => XS.aload X42.here hx rfl (hb hby at_150) rfl rfl kq) ?_
    show own_Go p.tables e below _ (T42.setTop (mkF m 152 #[.val (.int p0), .val (.int p1), .val (.int p2), .val (.int p3), .val (.int p4), .val (.int p5), .val (.int (5 : Int32)), .val (.int c0), .val (.int c1), .val (.int c2), .val (.int c3), .val (.int c4), .val (.ref sx), .val (.int v144_14)] [(.ref sx)]))
    obtain ⟨_, _, ⟨T44, L44, k44, n44⟩, -, X44, ⟨Lc44, hQ44, l44, y44, z44⟩, st44⟩ := Jvm.LawKit.callS X42 hx (y := (⟨"com/example/checkoff_codex/checkoffcodex/io/ValueText", "digits", "(Ljava/lang/String;)I"⟩ : MethodName)) hown (mvT hZ (hw _ (List.mem_of_getElem? (i := 28) rfl))) (mvT hZ (hw _ (List.mem_of_getElem? (i := 29) rfl))) (mvT hZ (hw _ (List.mem_of_getElem? (i := 30) rfl))) (mvT hZ (hw _ (List.mem_of_getElem? (i := 31) rfl))) (by decide) (backOf (W := 0) (rmD l Z a0 hw [] cz fv sx tb (5 : Int32) (10 : Int32) (own_cs [c0, c1, c2, c3, c4]) T33.heap n0 ZH OO HW0 E_sx F_sx hSX (own_chL [c0, c1, c2, c3, c4] (List.forall_mem_cons.mpr ⟨⟨hl0, hu0⟩, (List.forall_mem_cons.mpr ⟨⟨hl1, hu1⟩, (List.forall_mem_cons.mpr ⟨⟨hl2, hu2⟩, (List.forall_mem_cons.mpr ⟨⟨hl3, hu3⟩, (List.forall_mem_cons.mpr ⟨⟨hl4, hu4⟩, (fun _ h => nomatch h)⟩)⟩)⟩)⟩)⟩)) (by unfold own_sm; decide) (by decide)) hZ (hw _ (List.mem_of_getElem? (i := 31) rfl)) (hw _ (List.mem_of_getElem? (i := 30) rfl)) (by decide) (by decide)) (g := (mkF m 152 #[.val (.int p0), .val (.int p1), .val (.int p2), .val (.int p3), .val (.int p4), .val (.int p5), .val (.int (5 : Int32)), .val (.int c0), .val (.int c1), .val (.int c2), .val (.int c3), .val (.int c4), .val (.ref sx), .val (.int v144_14)] [(.ref sx)])) rfl (by rw [hml]; rfl) (argsL := [(.ref sx)]) (rest := []) (lenOf pd_19 rfl) rfl (by show 2 * 0 + _ ≤ _; exact Nat.le_of_eq rfl) (hb hby at_152) (fun _ _ => ⟨rfl, e42, (by decide : 4 + 0 ≤ _), (by decide : 24 + 0 ≤ _)⟩)
    dsimp only [Pt.U, Pt.locs, Pt.cells, Pt.slots] at X44 l44 y44 z44 st44 hQ44
    subst l44 y44 z44
    obtain ⟨rfl, Nq44, e44⟩ := hQ44
    have N44 := Fr.app N42 Nq44
    refine own_up st44 ?_
    show own_Go p.tables e below _ (T44.setTop (mkF m 155 #[.val (.int p0), .val (.int p1), .val (.int p2), .val (.int p3), .val (.int p4), .val (.int p5), .val (.int (5 : Int32)), .val (.int c0), .val (.int c1), .val (.int c2), .val (.int c3), .val (.int c4), .val (.ref sx), .val (.int v144_14)] [(.int (own_cf (own_cs [c0, c1, c2, c3, c4]) ((5 : Int32)).toNatClampNeg))]))
    refine own_up (fun _ kq => XS.iload X44.here hx rfl (hb hby at_155) rfl kq) ?_
    show own_Go p.tables e below _ (T44.setTop (mkF m 157 #[.val (.int p0), .val (.int p1), .val (.int p2), .val (.int p3), .val (.int p4), .val (.int p5), .val (.int (5 : Int32)), .val (.int c0), .val (.int c1), .val (.int c2), .val (.int c3), .val (.int c4), .val (.ref sx), .val (.int v144_14)] [(.int v144_14), (.int (own_cf (own_cs [c0, c1, c2, c3, c4]) ((5 : Int32)).toNatClampNeg))]))
    refine own_up (fun _ kq => XS.icmpNo X44.here hx rfl (hb hby at_157) rfl (teq (by rw [hv144_14, hv127_13, hv110_12, hv93_11, hv76_10]; rfl)).2 kq) ?_
    show own_Go p.tables e below _ (T44.setTop (mkF m 160 #[.val (.int p0), .val (.int p1), .val (.int p2), .val (.int p3), .val (.int p4), .val (.int p5), .val (.int (5 : Int32)), .val (.int c0), .val (.int c1), .val (.int c2), .val (.int c3), .val (.int c4), .val (.ref sx), .val (.int v144_14)] []))
    refine own_up (fun _ kq => XS.iconst X44.here hx rfl (hb hby at_160) kq) ?_
    show own_Go p.tables e below _ (T44.setTop (mkF m 161 #[.val (.int p0), .val (.int p1), .val (.int p2), .val (.int p3), .val (.int p4), .val (.int p5), .val (.int (5 : Int32)), .val (.int c0), .val (.int c1), .val (.int c2), .val (.int c3), .val (.int c4), .val (.ref sx), .val (.int v144_14)] [(.int (1 : Int32))]))
    refine own_up (fun _ kq => XS.goto X44.here hx rfl (pc0 := 161) (pc' := 165) rfl (hb hby at_161) (by decide) (by decide) kq) ?_
    show own_Go p.tables e below _ (T44.setTop (mkF m 165 #[.val (.int p0), .val (.int p1), .val (.int p2), .val (.int p3), .val (.int p4), .val (.int p5), .val (.int (5 : Int32)), .val (.int c0), .val (.int c1), .val (.int c2), .val (.int c3), .val (.int c4), .val (.ref sx), .val (.int v144_14)] [(.int (1 : Int32))]))
    obtain ⟨fs45, hr45, hrun45, hended45, hW45, hsame45⟩ := X44.leave (v := some (.int (1 : Int32))) (fun h => by rw [Bd.returns] at h; cases h)
    refine own_end ⟨_, _, ?_, hrun45, hended45, _, _, rfl, ?_, ⟨_, rfl⟩, hW45, hsame45.mono (by decide) (by decide)⟩
    · exact retN X44 hx (t := .boolean) Bd.returns (by simp) (hb hby at_165) hr45
    · show Qrm0 Z p0 p1 p2 p3 p4 p5 cz fv h0 n0 _ T44.heap _
      rw [e44]
      exact ⟨rfl, N44⟩
theorem ef_rm0w (m : MethodId) (x0 : Int32) (x1 : Int32) (x2 : Int32) (x3 : Int32) (x4 : Int32) (x5 : Int32) : entryFrame m #[(.int x0), (.int x1), (.int x2), (.int x3), (.int x4), (.int x5)] maxLocals = mkF m 0 #[.val (.int x0), .val (.int x1), .val (.int x2), .val (.int x3), .val (.int x4), .val (.int x5), .unset, .unset, .unset, .unset, .unset, .unset, .unset, .unset] [] := by first | (simp [entryFrame, mkF, argsToLocals, Value.category, maxLocals]; done) | rfl
def Qrm0w (Z : State) (p0 : Int32) (p1 : Int32) (p2 : Int32) (p3 : Int32) (p4 : Int32) (p5 : Int32) (cz : Int32) (fv : Value) (h0 : Heap) (n0 : Nat) (v : Option Value) (h : Heap) (L : List Loc) : Prop := v = some (.int 1) ∧ Fr n0 L
set_option maxRecDepth 65536 in
set_option maxHeartbeats 40000000 in
theorem rm0w (l : Launch) (Z : State) (a0 : Array Value) (hw : ∀ d ∈ tables_1, d.before a0 Z = true) (ws : List Jvm.Cond) (p0 : Int32) (p1 : Int32) (p2 : Int32) (p3 : Int32) (p4 : Int32) (p5 : Int32) (cz : Int32) (fv : Value) (h0 : Heap) (n0 : Nat) (Z0 : n0 ≤ h0.size) (OO : Old Z n0 h0) (HW : own_W Z cz fv) (hn0 : ((p0 &&& (2147483647 : Int32)) % (6 : Int32)) = 0) :
    MetFree l x (head1 (Jvm.Cond.code x code maxLocals ret :: ws) room_1) (fun aq Uq => aq = #[(.int p0), (.int p1), (.int p2), (.int p3), (.int p4), (.int p5)] ∧ Z.Warmed39 Uq.vm ∧ Uq.heap = h0 ∧ CHv Z own_EL Uq.vm h0) (fun _ _ _ _ _ => True) (fun _ Uq oq Uq' => ∃ vq Lq, oq = .returned vq ∧ Qrm0w Z p0 p1 p2 p3 p4 p5 cz fv h0 n0 vq Uq'.heap Lq ∧ ReturnedEndW Uq oq Uq' Lq 24 1152) := by
  refine MetFree.of_bodySF (plainFor_of_name pn_1) hisR ?_
  intro p e s m args below meth c s₁ Bd hml0 hP hK
  obtain ⟨rfl, hZ, hh, hCH⟩ := hP
  have hx := Bd.exec
  have hby := Bd.bytes
  have hml : c.maxLocals = 14 := hml0
  have hown : s.vm.findClass "com/example/checkoff_codex/checkoffcodex/io/ValueTextDigitsPinLaw" = some m.cls := findClass_of_methodNamed Bd.named
  have hnm := (name_of_methodNamed Bd.named Bd.method).1
  have X0 : Stand p l e room_1 s m #[(.int p0), (.int p1), (.int p2), (.int p3), (.int p4), (.int p5)] below meth c s₁ [] 0 0 := Stand.of_body Bd
  have e0 : s₁.heap = h0 := by rw [← hh, Bd.state]; rfl
  have N0 := Fr.nil n0
  have ZH := Z0
  have KK := Keep.refl h0 []
  refine own_start (fun t kq => castTop (ef_rm0w m p0 p1 p2 p3 p4 p5) kq) ?_
  show own_Go p.tables e below _ (s₁.setTop (mkF m 0 #[.val (.int p0), .val (.int p1), .val (.int p2), .val (.int p3), .val (.int p4), .val (.int p5), .unset, .unset, .unset, .unset, .unset, .unset, .unset, .unset] []))
  have HW0 := HW
  obtain ⟨SC, hcz, SF, hfv, SA, SH, SL⟩ := HW
  refine own_up (fun _ kq => XS.iloadN X0.here hx rfl (hb hby at_0) rfl kq) ?_
  show own_Go p.tables e below _ (s₁.setTop (mkF m 1 #[.val (.int p0), .val (.int p1), .val (.int p2), .val (.int p3), .val (.int p4), .val (.int p5), .unset, .unset, .unset, .unset, .unset, .unset, .unset, .unset] [(.int p0)]))
  refine own_up (fun _ kq => X0.ldcInt hx hown (mvT hZ (hw _ (List.mem_of_getElem? (i := 0) rfl))) (g := (mkF m 1 #[.val (.int p0), .val (.int p1), .val (.int p2), .val (.int p3), .val (.int p4), .val (.int p5), .unset, .unset, .unset, .unset, .unset, .unset, .unset, .unset] [(.int p0)])) rfl (hb hby at_1) _ kq) ?_
  show own_Go p.tables e below _ (s₁.setTop (mkF m 3 #[.val (.int p0), .val (.int p1), .val (.int p2), .val (.int p3), .val (.int p4), .val (.int p5), .unset, .unset, .unset, .unset, .unset, .unset, .unset, .unset] [(.int (2147483647 : Int32)), (.int p0)]))
  refine own_up (fun _ kq => XS.iand X0.here hx rfl (hb hby at_3) rfl kq) ?_
  show own_Go p.tables e below _ (s₁.setTop (mkF m 4 #[.val (.int p0), .val (.int p1), .val (.int p2), .val (.int p3), .val (.int p4), .val (.int p5), .unset, .unset, .unset, .unset, .unset, .unset, .unset, .unset] [(.int (p0 &&& (2147483647 : Int32)))]))
  refine own_up (fun _ kq => XS.bipush X0.here hx rfl (hb hby at_4) kq) ?_
  show own_Go p.tables e below _ (s₁.setTop (mkF m 6 #[.val (.int p0), .val (.int p1), .val (.int p2), .val (.int p3), .val (.int p4), .val (.int p5), .unset, .unset, .unset, .unset, .unset, .unset, .unset, .unset] [(.int (6 : Int32)), (.int (p0 &&& (2147483647 : Int32)))]))
  refine own_up (fun _ kq => XS.irem X0.here hx rfl (hb hby at_6) rfl (by decide) kq) ?_
  rw [irem_eq_mod (p0 &&& (2147483647 : Int32)) (6 : Int32)]
  show own_Go p.tables e below _ (s₁.setTop (mkF m 7 #[.val (.int p0), .val (.int p1), .val (.int p2), .val (.int p3), .val (.int p4), .val (.int p5), .unset, .unset, .unset, .unset, .unset, .unset, .unset, .unset] [(.int ((p0 &&& (2147483647 : Int32)) % (6 : Int32)))]))
  generalize hqn : ((p0 &&& (2147483647 : Int32)) % (6 : Int32)) = qn
  show own_Go p.tables e below _ (s₁.setTop (mkF m 7 #[.val (.int p0), .val (.int p1), .val (.int p2), .val (.int p3), .val (.int p4), .val (.int p5), .unset, .unset, .unset, .unset, .unset, .unset, .unset, .unset] [(.int qn)]))
  refine own_up (fun _ kq => XS.istore X0.here hx rfl (hb hby at_7) rfl (l' := #[.val (.int p0), .val (.int p1), .val (.int p2), .val (.int p3), .val (.int p4), .val (.int p5), .val (.int qn), .unset, .unset, .unset, .unset, .unset, .unset, .unset]) rfl kq) ?_
  show own_Go p.tables e below _ (s₁.setTop (mkF m 9 #[.val (.int p0), .val (.int p1), .val (.int p2), .val (.int p3), .val (.int p4), .val (.int p5), .val (.int qn), .unset, .unset, .unset, .unset, .unset, .unset, .unset] []))
  refine own_up (fun _ kq => XS.iloadN X0.here hx rfl (hb hby at_9) rfl kq) ?_
  show own_Go p.tables e below _ (s₁.setTop (mkF m 10 #[.val (.int p0), .val (.int p1), .val (.int p2), .val (.int p3), .val (.int p4), .val (.int p5), .val (.int qn), .unset, .unset, .unset, .unset, .unset, .unset, .unset] [(.int p1)]))
  refine own_up (fun _ kq => X0.ldcInt hx hown (mvT hZ (hw _ (List.mem_of_getElem? (i := 1) rfl))) (g := (mkF m 10 #[.val (.int p0), .val (.int p1), .val (.int p2), .val (.int p3), .val (.int p4), .val (.int p5), .val (.int qn), .unset, .unset, .unset, .unset, .unset, .unset, .unset] [(.int p1)])) rfl (hb hby at_10) _ kq) ?_
  show own_Go p.tables e below _ (s₁.setTop (mkF m 12 #[.val (.int p0), .val (.int p1), .val (.int p2), .val (.int p3), .val (.int p4), .val (.int p5), .val (.int qn), .unset, .unset, .unset, .unset, .unset, .unset, .unset] [(.int (65535 : Int32)), (.int p1)]))
  refine own_up (fun _ kq => XS.iand X0.here hx rfl (hb hby at_12) rfl kq) ?_
  show own_Go p.tables e below _ (s₁.setTop (mkF m 13 #[.val (.int p0), .val (.int p1), .val (.int p2), .val (.int p3), .val (.int p4), .val (.int p5), .val (.int qn), .unset, .unset, .unset, .unset, .unset, .unset, .unset] [(.int (p1 &&& (65535 : Int32)))]))
  refine own_up (fun _ kq => XS.i2c X0.here hx rfl (hb hby at_13) rfl kq) ?_
  show own_Go p.tables e below _ (s₁.setTop (mkF m 14 #[.val (.int p0), .val (.int p1), .val (.int p2), .val (.int p3), .val (.int p4), .val (.int p5), .val (.int qn), .unset, .unset, .unset, .unset, .unset, .unset, .unset] [(.int (p1 &&& (65535 : Int32)).toUInt32.toUInt16.toUInt32.toInt32)]))
  generalize hc0 : (p1 &&& (65535 : Int32)).toUInt32.toUInt16.toUInt32.toInt32 = c0
  show own_Go p.tables e below _ (s₁.setTop (mkF m 14 #[.val (.int p0), .val (.int p1), .val (.int p2), .val (.int p3), .val (.int p4), .val (.int p5), .val (.int qn), .unset, .unset, .unset, .unset, .unset, .unset, .unset] [(.int c0)]))
  have hl0 : ¬ c0 < 0 := hc0 ▸ own_chl _
  have hu0 : ¬ (65535 : Int32) < c0 := hc0 ▸ own_chu _
  refine own_up (fun _ kq => XS.istore X0.here hx rfl (hb hby at_14) rfl (l' := #[.val (.int p0), .val (.int p1), .val (.int p2), .val (.int p3), .val (.int p4), .val (.int p5), .val (.int qn), .val (.int c0), .unset, .unset, .unset, .unset, .unset, .unset]) rfl kq) ?_
  show own_Go p.tables e below _ (s₁.setTop (mkF m 16 #[.val (.int p0), .val (.int p1), .val (.int p2), .val (.int p3), .val (.int p4), .val (.int p5), .val (.int qn), .val (.int c0), .unset, .unset, .unset, .unset, .unset, .unset] []))
  refine own_up (fun _ kq => XS.iloadN X0.here hx rfl (hb hby at_16) rfl kq) ?_
  show own_Go p.tables e below _ (s₁.setTop (mkF m 17 #[.val (.int p0), .val (.int p1), .val (.int p2), .val (.int p3), .val (.int p4), .val (.int p5), .val (.int qn), .val (.int c0), .unset, .unset, .unset, .unset, .unset, .unset] [(.int p2)]))
  refine own_up (fun _ kq => X0.ldcInt hx hown (mvT hZ (hw _ (List.mem_of_getElem? (i := 1) rfl))) (g := (mkF m 17 #[.val (.int p0), .val (.int p1), .val (.int p2), .val (.int p3), .val (.int p4), .val (.int p5), .val (.int qn), .val (.int c0), .unset, .unset, .unset, .unset, .unset, .unset] [(.int p2)])) rfl (hb hby at_17) _ kq) ?_
  show own_Go p.tables e below _ (s₁.setTop (mkF m 19 #[.val (.int p0), .val (.int p1), .val (.int p2), .val (.int p3), .val (.int p4), .val (.int p5), .val (.int qn), .val (.int c0), .unset, .unset, .unset, .unset, .unset, .unset] [(.int (65535 : Int32)), (.int p2)]))
  refine own_up (fun _ kq => XS.iand X0.here hx rfl (hb hby at_19) rfl kq) ?_
  show own_Go p.tables e below _ (s₁.setTop (mkF m 20 #[.val (.int p0), .val (.int p1), .val (.int p2), .val (.int p3), .val (.int p4), .val (.int p5), .val (.int qn), .val (.int c0), .unset, .unset, .unset, .unset, .unset, .unset] [(.int (p2 &&& (65535 : Int32)))]))
  refine own_up (fun _ kq => XS.i2c X0.here hx rfl (hb hby at_20) rfl kq) ?_
  show own_Go p.tables e below _ (s₁.setTop (mkF m 21 #[.val (.int p0), .val (.int p1), .val (.int p2), .val (.int p3), .val (.int p4), .val (.int p5), .val (.int qn), .val (.int c0), .unset, .unset, .unset, .unset, .unset, .unset] [(.int (p2 &&& (65535 : Int32)).toUInt32.toUInt16.toUInt32.toInt32)]))
  generalize hc1 : (p2 &&& (65535 : Int32)).toUInt32.toUInt16.toUInt32.toInt32 = c1
  show own_Go p.tables e below _ (s₁.setTop (mkF m 21 #[.val (.int p0), .val (.int p1), .val (.int p2), .val (.int p3), .val (.int p4), .val (.int p5), .val (.int qn), .val (.int c0), .unset, .unset, .unset, .unset, .unset, .unset] [(.int c1)]))
  have hl1 : ¬ c1 < 0 := hc1 ▸ own_chl _
  have hu1 : ¬ (65535 : Int32) < c1 := hc1 ▸ own_chu _
  refine own_up (fun _ kq => XS.istore X0.here hx rfl (hb hby at_21) rfl (l' := #[.val (.int p0), .val (.int p1), .val (.int p2), .val (.int p3), .val (.int p4), .val (.int p5), .val (.int qn), .val (.int c0), .val (.int c1), .unset, .unset, .unset, .unset, .unset]) rfl kq) ?_
  show own_Go p.tables e below _ (s₁.setTop (mkF m 23 #[.val (.int p0), .val (.int p1), .val (.int p2), .val (.int p3), .val (.int p4), .val (.int p5), .val (.int qn), .val (.int c0), .val (.int c1), .unset, .unset, .unset, .unset, .unset] []))
  refine own_up (fun _ kq => XS.iloadN X0.here hx rfl (hb hby at_23) rfl kq) ?_
  show own_Go p.tables e below _ (s₁.setTop (mkF m 24 #[.val (.int p0), .val (.int p1), .val (.int p2), .val (.int p3), .val (.int p4), .val (.int p5), .val (.int qn), .val (.int c0), .val (.int c1), .unset, .unset, .unset, .unset, .unset] [(.int p3)]))
  refine own_up (fun _ kq => X0.ldcInt hx hown (mvT hZ (hw _ (List.mem_of_getElem? (i := 1) rfl))) (g := (mkF m 24 #[.val (.int p0), .val (.int p1), .val (.int p2), .val (.int p3), .val (.int p4), .val (.int p5), .val (.int qn), .val (.int c0), .val (.int c1), .unset, .unset, .unset, .unset, .unset] [(.int p3)])) rfl (hb hby at_24) _ kq) ?_
  show own_Go p.tables e below _ (s₁.setTop (mkF m 26 #[.val (.int p0), .val (.int p1), .val (.int p2), .val (.int p3), .val (.int p4), .val (.int p5), .val (.int qn), .val (.int c0), .val (.int c1), .unset, .unset, .unset, .unset, .unset] [(.int (65535 : Int32)), (.int p3)]))
  refine own_up (fun _ kq => XS.iand X0.here hx rfl (hb hby at_26) rfl kq) ?_
  show own_Go p.tables e below _ (s₁.setTop (mkF m 27 #[.val (.int p0), .val (.int p1), .val (.int p2), .val (.int p3), .val (.int p4), .val (.int p5), .val (.int qn), .val (.int c0), .val (.int c1), .unset, .unset, .unset, .unset, .unset] [(.int (p3 &&& (65535 : Int32)))]))
  refine own_up (fun _ kq => XS.i2c X0.here hx rfl (hb hby at_27) rfl kq) ?_
  show own_Go p.tables e below _ (s₁.setTop (mkF m 28 #[.val (.int p0), .val (.int p1), .val (.int p2), .val (.int p3), .val (.int p4), .val (.int p5), .val (.int qn), .val (.int c0), .val (.int c1), .unset, .unset, .unset, .unset, .unset] [(.int (p3 &&& (65535 : Int32)).toUInt32.toUInt16.toUInt32.toInt32)]))
  generalize hc2 : (p3 &&& (65535 : Int32)).toUInt32.toUInt16.toUInt32.toInt32 = c2
  show own_Go p.tables e below _ (s₁.setTop (mkF m 28 #[.val (.int p0), .val (.int p1), .val (.int p2), .val (.int p3), .val (.int p4), .val (.int p5), .val (.int qn), .val (.int c0), .val (.int c1), .unset, .unset, .unset, .unset, .unset] [(.int c2)]))
  have hl2 : ¬ c2 < 0 := hc2 ▸ own_chl _
  have hu2 : ¬ (65535 : Int32) < c2 := hc2 ▸ own_chu _
  refine own_up (fun _ kq => XS.istore X0.here hx rfl (hb hby at_28) rfl (l' := #[.val (.int p0), .val (.int p1), .val (.int p2), .val (.int p3), .val (.int p4), .val (.int p5), .val (.int qn), .val (.int c0), .val (.int c1), .val (.int c2), .unset, .unset, .unset, .unset]) rfl kq) ?_
  show own_Go p.tables e below _ (s₁.setTop (mkF m 30 #[.val (.int p0), .val (.int p1), .val (.int p2), .val (.int p3), .val (.int p4), .val (.int p5), .val (.int qn), .val (.int c0), .val (.int c1), .val (.int c2), .unset, .unset, .unset, .unset] []))
  refine own_up (fun _ kq => XS.iload X0.here hx rfl (hb hby at_30) rfl kq) ?_
  show own_Go p.tables e below _ (s₁.setTop (mkF m 32 #[.val (.int p0), .val (.int p1), .val (.int p2), .val (.int p3), .val (.int p4), .val (.int p5), .val (.int qn), .val (.int c0), .val (.int c1), .val (.int c2), .unset, .unset, .unset, .unset] [(.int p4)]))
  refine own_up (fun _ kq => X0.ldcInt hx hown (mvT hZ (hw _ (List.mem_of_getElem? (i := 1) rfl))) (g := (mkF m 32 #[.val (.int p0), .val (.int p1), .val (.int p2), .val (.int p3), .val (.int p4), .val (.int p5), .val (.int qn), .val (.int c0), .val (.int c1), .val (.int c2), .unset, .unset, .unset, .unset] [(.int p4)])) rfl (hb hby at_32) _ kq) ?_
  show own_Go p.tables e below _ (s₁.setTop (mkF m 34 #[.val (.int p0), .val (.int p1), .val (.int p2), .val (.int p3), .val (.int p4), .val (.int p5), .val (.int qn), .val (.int c0), .val (.int c1), .val (.int c2), .unset, .unset, .unset, .unset] [(.int (65535 : Int32)), (.int p4)]))
  refine own_up (fun _ kq => XS.iand X0.here hx rfl (hb hby at_34) rfl kq) ?_
  show own_Go p.tables e below _ (s₁.setTop (mkF m 35 #[.val (.int p0), .val (.int p1), .val (.int p2), .val (.int p3), .val (.int p4), .val (.int p5), .val (.int qn), .val (.int c0), .val (.int c1), .val (.int c2), .unset, .unset, .unset, .unset] [(.int (p4 &&& (65535 : Int32)))]))
  refine own_up (fun _ kq => XS.i2c X0.here hx rfl (hb hby at_35) rfl kq) ?_
  show own_Go p.tables e below _ (s₁.setTop (mkF m 36 #[.val (.int p0), .val (.int p1), .val (.int p2), .val (.int p3), .val (.int p4), .val (.int p5), .val (.int qn), .val (.int c0), .val (.int c1), .val (.int c2), .unset, .unset, .unset, .unset] [(.int (p4 &&& (65535 : Int32)).toUInt32.toUInt16.toUInt32.toInt32)]))
  generalize hc3 : (p4 &&& (65535 : Int32)).toUInt32.toUInt16.toUInt32.toInt32 = c3
  show own_Go p.tables e below _ (s₁.setTop (mkF m 36 #[.val (.int p0), .val (.int p1), .val (.int p2), .val (.int p3), .val (.int p4), .val (.int p5), .val (.int qn), .val (.int c0), .val (.int c1), .val (.int c2), .unset, .unset, .unset, .unset] [(.int c3)]))
  have hl3 : ¬ c3 < 0 := hc3 ▸ own_chl _
  have hu3 : ¬ (65535 : Int32) < c3 := hc3 ▸ own_chu _
  refine own_up (fun _ kq => XS.istore X0.here hx rfl (hb hby at_36) rfl (l' := #[.val (.int p0), .val (.int p1), .val (.int p2), .val (.int p3), .val (.int p4), .val (.int p5), .val (.int qn), .val (.int c0), .val (.int c1), .val (.int c2), .val (.int c3), .unset, .unset, .unset]) rfl kq) ?_
  show own_Go p.tables e below _ (s₁.setTop (mkF m 38 #[.val (.int p0), .val (.int p1), .val (.int p2), .val (.int p3), .val (.int p4), .val (.int p5), .val (.int qn), .val (.int c0), .val (.int c1), .val (.int c2), .val (.int c3), .unset, .unset, .unset] []))
  refine own_up (fun _ kq => XS.iload X0.here hx rfl (hb hby at_38) rfl kq) ?_
  show own_Go p.tables e below _ (s₁.setTop (mkF m 40 #[.val (.int p0), .val (.int p1), .val (.int p2), .val (.int p3), .val (.int p4), .val (.int p5), .val (.int qn), .val (.int c0), .val (.int c1), .val (.int c2), .val (.int c3), .unset, .unset, .unset] [(.int p5)]))
  refine own_up (fun _ kq => X0.ldcInt hx hown (mvT hZ (hw _ (List.mem_of_getElem? (i := 1) rfl))) (g := (mkF m 40 #[.val (.int p0), .val (.int p1), .val (.int p2), .val (.int p3), .val (.int p4), .val (.int p5), .val (.int qn), .val (.int c0), .val (.int c1), .val (.int c2), .val (.int c3), .unset, .unset, .unset] [(.int p5)])) rfl (hb hby at_40) _ kq) ?_
  show own_Go p.tables e below _ (s₁.setTop (mkF m 42 #[.val (.int p0), .val (.int p1), .val (.int p2), .val (.int p3), .val (.int p4), .val (.int p5), .val (.int qn), .val (.int c0), .val (.int c1), .val (.int c2), .val (.int c3), .unset, .unset, .unset] [(.int (65535 : Int32)), (.int p5)]))
  refine own_up (fun _ kq => XS.iand X0.here hx rfl (hb hby at_42) rfl kq) ?_
  show own_Go p.tables e below _ (s₁.setTop (mkF m 43 #[.val (.int p0), .val (.int p1), .val (.int p2), .val (.int p3), .val (.int p4), .val (.int p5), .val (.int qn), .val (.int c0), .val (.int c1), .val (.int c2), .val (.int c3), .unset, .unset, .unset] [(.int (p5 &&& (65535 : Int32)))]))
  refine own_up (fun _ kq => XS.i2c X0.here hx rfl (hb hby at_43) rfl kq) ?_
  show own_Go p.tables e below _ (s₁.setTop (mkF m 44 #[.val (.int p0), .val (.int p1), .val (.int p2), .val (.int p3), .val (.int p4), .val (.int p5), .val (.int qn), .val (.int c0), .val (.int c1), .val (.int c2), .val (.int c3), .unset, .unset, .unset] [(.int (p5 &&& (65535 : Int32)).toUInt32.toUInt16.toUInt32.toInt32)]))
  generalize hc4 : (p5 &&& (65535 : Int32)).toUInt32.toUInt16.toUInt32.toInt32 = c4
  show own_Go p.tables e below _ (s₁.setTop (mkF m 44 #[.val (.int p0), .val (.int p1), .val (.int p2), .val (.int p3), .val (.int p4), .val (.int p5), .val (.int qn), .val (.int c0), .val (.int c1), .val (.int c2), .val (.int c3), .unset, .unset, .unset] [(.int c4)]))
  have hl4 : ¬ c4 < 0 := hc4 ▸ own_chl _
  have hu4 : ¬ (65535 : Int32) < c4 := hc4 ▸ own_chu _
  refine own_up (fun _ kq => XS.istore X0.here hx rfl (hb hby at_44) rfl (l' := #[.val (.int p0), .val (.int p1), .val (.int p2), .val (.int p3), .val (.int p4), .val (.int p5), .val (.int qn), .val (.int c0), .val (.int c1), .val (.int c2), .val (.int c3), .val (.int c4), .unset, .unset]) rfl kq) ?_
  show own_Go p.tables e below _ (s₁.setTop (mkF m 46 #[.val (.int p0), .val (.int p1), .val (.int p2), .val (.int p3), .val (.int p4), .val (.int p5), .val (.int qn), .val (.int c0), .val (.int c1), .val (.int c2), .val (.int c3), .val (.int c4), .unset, .unset] []))
  have hq0 : qn = 0 := hqn.symm.trans hn0
  rw [hq0]
  show own_Go p.tables e below _ (s₁.setTop (mkF m 46 #[.val (.int p0), .val (.int p1), .val (.int p2), .val (.int p3), .val (.int p4), .val (.int p5), .val (.int (0 : Int32)), .val (.int c0), .val (.int c1), .val (.int c2), .val (.int c3), .val (.int c4), .unset, .unset] []))
  refine own_up (fun _ kq => XS.iload X0.here hx rfl (hb hby at_46) rfl kq) ?_
  show own_Go p.tables e below _ (s₁.setTop (mkF m 48 #[.val (.int p0), .val (.int p1), .val (.int p2), .val (.int p3), .val (.int p4), .val (.int p5), .val (.int (0 : Int32)), .val (.int c0), .val (.int c1), .val (.int c2), .val (.int c3), .val (.int c4), .unset, .unset] [(.int (0 : Int32))]))
  refine own_up (fun _ kq => XS.iload X0.here hx rfl (hb hby at_48) rfl kq) ?_
  show own_Go p.tables e below _ (s₁.setTop (mkF m 50 #[.val (.int p0), .val (.int p1), .val (.int p2), .val (.int p3), .val (.int p4), .val (.int p5), .val (.int (0 : Int32)), .val (.int c0), .val (.int c1), .val (.int c2), .val (.int c3), .val (.int c4), .unset, .unset] [(.int c0), (.int (0 : Int32))]))
  refine own_up (fun _ kq => XS.iload X0.here hx rfl (hb hby at_50) rfl kq) ?_
  show own_Go p.tables e below _ (s₁.setTop (mkF m 52 #[.val (.int p0), .val (.int p1), .val (.int p2), .val (.int p3), .val (.int p4), .val (.int p5), .val (.int (0 : Int32)), .val (.int c0), .val (.int c1), .val (.int c2), .val (.int c3), .val (.int c4), .unset, .unset] [(.int c1), (.int c0), (.int (0 : Int32))]))
  refine own_up (fun _ kq => XS.iload X0.here hx rfl (hb hby at_52) rfl kq) ?_
  show own_Go p.tables e below _ (s₁.setTop (mkF m 54 #[.val (.int p0), .val (.int p1), .val (.int p2), .val (.int p3), .val (.int p4), .val (.int p5), .val (.int (0 : Int32)), .val (.int c0), .val (.int c1), .val (.int c2), .val (.int c3), .val (.int c4), .unset, .unset] [(.int c2), (.int c1), (.int c0), (.int (0 : Int32))]))
  refine own_up (fun _ kq => XS.iload X0.here hx rfl (hb hby at_54) rfl kq) ?_
  show own_Go p.tables e below _ (s₁.setTop (mkF m 56 #[.val (.int p0), .val (.int p1), .val (.int p2), .val (.int p3), .val (.int p4), .val (.int p5), .val (.int (0 : Int32)), .val (.int c0), .val (.int c1), .val (.int c2), .val (.int c3), .val (.int c4), .unset, .unset] [(.int c3), (.int c2), (.int c1), (.int c0), (.int (0 : Int32))]))
  refine own_up (fun _ kq => XS.iload X0.here hx rfl (hb hby at_56) rfl kq) ?_
  show own_Go p.tables e below _ (s₁.setTop (mkF m 58 #[.val (.int p0), .val (.int p1), .val (.int p2), .val (.int p3), .val (.int p4), .val (.int p5), .val (.int (0 : Int32)), .val (.int c0), .val (.int c1), .val (.int c2), .val (.int c3), .val (.int c4), .unset, .unset] [(.int c4), (.int c3), (.int c2), (.int c1), (.int c0), (.int (0 : Int32))]))
  obtain ⟨_, _, ⟨T1, L1, k1, n1⟩, -, X1, hS1, hg1, ⟨Lc1, hQ1, l1, y1, z1⟩, st1⟩ := Jvm.RoadKit.callSS X0 hx (y := (⟨"com/example/checkoff_codex/checkoffcodex/io/ValueTextDigitsPinLaw", "text", "(ICCCCC)Ljava/lang/String;"⟩ : MethodName)) hown (mvT hZ (hw _ (List.mem_of_getElem? (i := 2) rfl))) (mvT hZ (hw _ (List.mem_of_getElem? (i := 3) rfl))) (mvT hZ (hw _ (List.mem_of_getElem? (i := 4) rfl))) (mvT hZ (hw _ (List.mem_of_getElem? (i := 5) rfl))) (by decide) (own_backSH (s := s) (vm0 := s.vm) (W := 0) (rmT0 l Z a0 hw [] cz fv c0 c1 c2 c3 c4 h0 n0 ZH OO HW0 ) hZ (hw _ (List.mem_of_getElem? (i := 5) rfl)) (hw _ (List.mem_of_getElem? (i := 4) rfl)) (by decide) (by decide) (own_EW hw) hCH) (g := (mkF m 58 #[.val (.int p0), .val (.int p1), .val (.int p2), .val (.int p3), .val (.int p4), .val (.int p5), .val (.int (0 : Int32)), .val (.int c0), .val (.int c1), .val (.int c2), .val (.int c3), .val (.int c4), .unset, .unset] [(.int c4), (.int c3), (.int c2), (.int c1), (.int c0), (.int (0 : Int32))])) rfl (by rw [hml]; rfl) (argsL := [(.int (0 : Int32)), (.int c0), (.int c1), (.int c2), (.int c3), (.int c4)]) (rest := []) (lenOf pd_18 rfl) rfl (by show 2 * 0 + _ ≤ _; exact Nat.le_of_eq rfl) (hb hby at_58) (fun _ _ => ⟨rfl, e0, (by decide : 0 + 4 ≤ _), (by decide : 0 + 8 ≤ _)⟩)
  dsimp only [Pt.U, Pt.locs, Pt.cells, Pt.slots] at X1 l1 y1 z1 st1 hQ1 hS1 hg1
  subst l1 y1 z1
  obtain ⟨sx, sf1, rfl, Nq1, K1, E_sx, tb, F_sx, hSX⟩ := hQ1
  have g_sx : n0 ≤ sx := Nat.le_trans ZH sf1
  have sz_sx : h0.size ≤ sx := Nat.le_trans KK.1 sf1
  have N1 := Fr.app N0 Nq1
  have ZH := Nat.le_trans ZH K1.1
  have KK := KK.trans K1 all0
  have OO := OO.keep K1 all0
  have hZ : Z.Warmed39 (s.setVm T1.vm).vm := State.Warmed39.trans hZ hS1.1
  have hown : (s.setVm T1.vm).vm.findClass "com/example/checkoff_codex/checkoffcodex/io/ValueTextDigitsPinLaw" = some m.cls := (hS1.1.alike.findClass _ _).trans hown
  have SK : T1.heap.size ≤ T1.heap.size := Nat.le_refl _
  refine own_up (fun _ kq => st1.trans kq) ?_
  show own_Go p.tables e below _ (T1.setTop (mkF m 61 #[.val (.int p0), .val (.int p1), .val (.int p2), .val (.int p3), .val (.int p4), .val (.int p5), .val (.int (0 : Int32)), .val (.int c0), .val (.int c1), .val (.int c2), .val (.int c3), .val (.int c4), .unset, .unset] [(.ref sx)]))
  refine own_up (fun _ kq => XS.astore X1.here hx rfl (hb hby at_61) rfl rfl (l' := #[.val (.int p0), .val (.int p1), .val (.int p2), .val (.int p3), .val (.int p4), .val (.int p5), .val (.int (0 : Int32)), .val (.int c0), .val (.int c1), .val (.int c2), .val (.int c3), .val (.int c4), .val (.ref sx), .unset]) rfl kq) ?_
  show own_Go p.tables e below _ (T1.setTop (mkF m 63 #[.val (.int p0), .val (.int p1), .val (.int p2), .val (.int p3), .val (.int p4), .val (.int p5), .val (.int (0 : Int32)), .val (.int c0), .val (.int c1), .val (.int c2), .val (.int c3), .val (.int c4), .val (.ref sx), .unset] []))
  refine own_up (fun _ kq => XS.iconst X1.here hx rfl (hb hby at_63) kq) ?_
  show own_Go p.tables e below _ (T1.setTop (mkF m 64 #[.val (.int p0), .val (.int p1), .val (.int p2), .val (.int p3), .val (.int p4), .val (.int p5), .val (.int (0 : Int32)), .val (.int c0), .val (.int c1), .val (.int c2), .val (.int c3), .val (.int c4), .val (.ref sx), .unset] [(.int (0 : Int32))]))
  refine own_up (fun _ kq => XS.istore X1.here hx rfl (hb hby at_64) rfl (l' := #[.val (.int p0), .val (.int p1), .val (.int p2), .val (.int p3), .val (.int p4), .val (.int p5), .val (.int (0 : Int32)), .val (.int c0), .val (.int c1), .val (.int c2), .val (.int c3), .val (.int c4), .val (.ref sx), .val (.int (0 : Int32))]) rfl kq) ?_
  show own_Go p.tables e below _ (T1.setTop (mkF m 66 #[.val (.int p0), .val (.int p1), .val (.int p2), .val (.int p3), .val (.int p4), .val (.int p5), .val (.int (0 : Int32)), .val (.int c0), .val (.int c1), .val (.int c2), .val (.int c3), .val (.int c4), .val (.ref sx), .val (.int (0 : Int32))] []))
  refine own_up (fun _ kq => XS.iload X1.here hx rfl (hb hby at_66) rfl kq) ?_
  show own_Go p.tables e below _ (T1.setTop (mkF m 68 #[.val (.int p0), .val (.int p1), .val (.int p2), .val (.int p3), .val (.int p4), .val (.int p5), .val (.int (0 : Int32)), .val (.int c0), .val (.int c1), .val (.int c2), .val (.int c3), .val (.int c4), .val (.ref sx), .val (.int (0 : Int32))] [(.int (0 : Int32))]))
  refine own_up (fun _ kq => XS.ifYes X1.here hx rfl (pc0 := 68) (pc' := 82) rfl (hb hby at_68) rfl ((if0 _ _).trans (flt (by decide : ¬ ((0 : Int32) < (0 : Int32)))).2.2.2) (by decide) (by decide) kq) ?_
  show own_Go p.tables e below _ (T1.setTop (mkF m 82 #[.val (.int p0), .val (.int p1), .val (.int p2), .val (.int p3), .val (.int p4), .val (.int p5), .val (.int (0 : Int32)), .val (.int c0), .val (.int c1), .val (.int c2), .val (.int c3), .val (.int c4), .val (.ref sx), .val (.int (0 : Int32))] []))
  refine own_up (fun _ kq => XS.iload X1.here hx rfl (hb hby at_82) rfl kq) ?_
  show own_Go p.tables e below _ (T1.setTop (mkF m 84 #[.val (.int p0), .val (.int p1), .val (.int p2), .val (.int p3), .val (.int p4), .val (.int p5), .val (.int (0 : Int32)), .val (.int c0), .val (.int c1), .val (.int c2), .val (.int c3), .val (.int c4), .val (.ref sx), .val (.int (0 : Int32))] [(.int (0 : Int32))]))
  refine own_up (fun _ kq => XS.iconst X1.here hx rfl (hb hby at_84) kq) ?_
  show own_Go p.tables e below _ (T1.setTop (mkF m 85 #[.val (.int p0), .val (.int p1), .val (.int p2), .val (.int p3), .val (.int p4), .val (.int p5), .val (.int (0 : Int32)), .val (.int c0), .val (.int c1), .val (.int c2), .val (.int c3), .val (.int c4), .val (.ref sx), .val (.int (0 : Int32))] [(.int (1 : Int32)), (.int (0 : Int32))]))
  refine own_up (fun _ kq => XS.icmpYes X1.here hx rfl (pc0 := 85) (pc' := 99) rfl (hb hby at_85) rfl (flt (by decide : ¬ ((1 : Int32) < (0 : Int32)))).2.2.2 (by decide) (by decide) kq) ?_
  show own_Go p.tables e below _ (T1.setTop (mkF m 99 #[.val (.int p0), .val (.int p1), .val (.int p2), .val (.int p3), .val (.int p4), .val (.int p5), .val (.int (0 : Int32)), .val (.int c0), .val (.int c1), .val (.int c2), .val (.int c3), .val (.int c4), .val (.ref sx), .val (.int (0 : Int32))] []))
  refine own_up (fun _ kq => XS.iload X1.here hx rfl (hb hby at_99) rfl kq) ?_
  show own_Go p.tables e below _ (T1.setTop (mkF m 101 #[.val (.int p0), .val (.int p1), .val (.int p2), .val (.int p3), .val (.int p4), .val (.int p5), .val (.int (0 : Int32)), .val (.int c0), .val (.int c1), .val (.int c2), .val (.int c3), .val (.int c4), .val (.ref sx), .val (.int (0 : Int32))] [(.int (0 : Int32))]))
  refine own_up (fun _ kq => XS.iconst X1.here hx rfl (hb hby at_101) kq) ?_
  show own_Go p.tables e below _ (T1.setTop (mkF m 102 #[.val (.int p0), .val (.int p1), .val (.int p2), .val (.int p3), .val (.int p4), .val (.int p5), .val (.int (0 : Int32)), .val (.int c0), .val (.int c1), .val (.int c2), .val (.int c3), .val (.int c4), .val (.ref sx), .val (.int (0 : Int32))] [(.int (2 : Int32)), (.int (0 : Int32))]))
  refine own_up (fun _ kq => XS.icmpYes X1.here hx rfl (pc0 := 102) (pc' := 116) rfl (hb hby at_102) rfl (flt (by decide : ¬ ((2 : Int32) < (0 : Int32)))).2.2.2 (by decide) (by decide) kq) ?_
  show own_Go p.tables e below _ (T1.setTop (mkF m 116 #[.val (.int p0), .val (.int p1), .val (.int p2), .val (.int p3), .val (.int p4), .val (.int p5), .val (.int (0 : Int32)), .val (.int c0), .val (.int c1), .val (.int c2), .val (.int c3), .val (.int c4), .val (.ref sx), .val (.int (0 : Int32))] []))
  refine own_up (fun _ kq => XS.iload X1.here hx rfl (hb hby at_116) rfl kq) ?_
  show own_Go p.tables e below _ (T1.setTop (mkF m 118 #[.val (.int p0), .val (.int p1), .val (.int p2), .val (.int p3), .val (.int p4), .val (.int p5), .val (.int (0 : Int32)), .val (.int c0), .val (.int c1), .val (.int c2), .val (.int c3), .val (.int c4), .val (.ref sx), .val (.int (0 : Int32))] [(.int (0 : Int32))]))
  refine own_up (fun _ kq => XS.iconst X1.here hx rfl (hb hby at_118) kq) ?_
  show own_Go p.tables e below _ (T1.setTop (mkF m 119 #[.val (.int p0), .val (.int p1), .val (.int p2), .val (.int p3), .val (.int p4), .val (.int p5), .val (.int (0 : Int32)), .val (.int c0), .val (.int c1), .val (.int c2), .val (.int c3), .val (.int c4), .val (.ref sx), .val (.int (0 : Int32))] [(.int (3 : Int32)), (.int (0 : Int32))]))
  refine own_up (fun _ kq => XS.icmpYes X1.here hx rfl (pc0 := 119) (pc' := 133) rfl (hb hby at_119) rfl (flt (by decide : ¬ ((3 : Int32) < (0 : Int32)))).2.2.2 (by decide) (by decide) kq) ?_
  show own_Go p.tables e below _ (T1.setTop (mkF m 133 #[.val (.int p0), .val (.int p1), .val (.int p2), .val (.int p3), .val (.int p4), .val (.int p5), .val (.int (0 : Int32)), .val (.int c0), .val (.int c1), .val (.int c2), .val (.int c3), .val (.int c4), .val (.ref sx), .val (.int (0 : Int32))] []))
  refine own_up (fun _ kq => XS.iload X1.here hx rfl (hb hby at_133) rfl kq) ?_
  show own_Go p.tables e below _ (T1.setTop (mkF m 135 #[.val (.int p0), .val (.int p1), .val (.int p2), .val (.int p3), .val (.int p4), .val (.int p5), .val (.int (0 : Int32)), .val (.int c0), .val (.int c1), .val (.int c2), .val (.int c3), .val (.int c4), .val (.ref sx), .val (.int (0 : Int32))] [(.int (0 : Int32))]))
  refine own_up (fun _ kq => XS.iconst X1.here hx rfl (hb hby at_135) kq) ?_
  show own_Go p.tables e below _ (T1.setTop (mkF m 136 #[.val (.int p0), .val (.int p1), .val (.int p2), .val (.int p3), .val (.int p4), .val (.int p5), .val (.int (0 : Int32)), .val (.int c0), .val (.int c1), .val (.int c2), .val (.int c3), .val (.int c4), .val (.ref sx), .val (.int (0 : Int32))] [(.int (4 : Int32)), (.int (0 : Int32))]))
  refine own_up (fun _ kq => XS.icmpYes X1.here hx rfl (pc0 := 136) (pc' := 150) rfl (hb hby at_136) rfl (flt (by decide : ¬ ((4 : Int32) < (0 : Int32)))).2.2.2 (by decide) (by decide) kq) ?_
  show own_Go p.tables e below _ (T1.setTop (mkF m 150 #[.val (.int p0), .val (.int p1), .val (.int p2), .val (.int p3), .val (.int p4), .val (.int p5), .val (.int (0 : Int32)), .val (.int c0), .val (.int c1), .val (.int c2), .val (.int c3), .val (.int c4), .val (.ref sx), .val (.int (0 : Int32))] []))
  refine own_up (fun _ kq => XS.aload X1.here hx rfl (hb hby at_150) rfl rfl kq) ?_
  show own_Go p.tables e below _ (T1.setTop (mkF m 152 #[.val (.int p0), .val (.int p1), .val (.int p2), .val (.int p3), .val (.int p4), .val (.int p5), .val (.int (0 : Int32)), .val (.int c0), .val (.int c1), .val (.int c2), .val (.int c3), .val (.int c4), .val (.ref sx), .val (.int (0 : Int32))] [(.ref sx)]))
  obtain ⟨_, _, ⟨T2, L2, k2, n2⟩, -, X2, ⟨Lc2, hQ2, l2, y2, z2⟩, st2⟩ := Jvm.LawKit.callS X1 hx (y := (⟨"com/example/checkoff_codex/checkoffcodex/io/ValueText", "digits", "(Ljava/lang/String;)I"⟩ : MethodName)) hown (mvT hZ (hw _ (List.mem_of_getElem? (i := 28) rfl))) (mvT hZ (hw _ (List.mem_of_getElem? (i := 29) rfl))) (mvT hZ (hw _ (List.mem_of_getElem? (i := 30) rfl))) (mvT hZ (hw _ (List.mem_of_getElem? (i := 31) rfl))) (by decide) (backOf (W := 0) (rmD l Z a0 hw [] cz fv sx tb (0 : Int32) (0 : Int32) (own_cs []) T1.heap n0 ZH OO HW0 E_sx F_sx hSX (own_chL [] (fun _ h => nomatch h)) (by unfold own_sm; decide) (by decide)) hZ (hw _ (List.mem_of_getElem? (i := 31) rfl)) (hw _ (List.mem_of_getElem? (i := 30) rfl)) (by decide) (by decide)) (g := (mkF m 152 #[.val (.int p0), .val (.int p1), .val (.int p2), .val (.int p3), .val (.int p4), .val (.int p5), .val (.int (0 : Int32)), .val (.int c0), .val (.int c1), .val (.int c2), .val (.int c3), .val (.int c4), .val (.ref sx), .val (.int (0 : Int32))] [(.ref sx)])) rfl (by rw [hml]; rfl) (argsL := [(.ref sx)]) (rest := []) (lenOf pd_19 rfl) rfl (by show 2 * 0 + _ ≤ _; exact Nat.le_of_eq rfl) (hb hby at_152) (fun _ _ => ⟨rfl, rfl, (by decide : 4 + 0 ≤ _), (by decide : 8 + 0 ≤ _)⟩)
  dsimp only [Pt.U, Pt.locs, Pt.cells, Pt.slots] at X2 l2 y2 z2 st2 hQ2
  subst l2 y2 z2
  obtain ⟨rfl, Nq2, e2⟩ := hQ2
  have N2 := Fr.app N1 Nq2
  refine own_up st2 ?_
  show own_Go p.tables e below _ (T2.setTop (mkF m 155 #[.val (.int p0), .val (.int p1), .val (.int p2), .val (.int p3), .val (.int p4), .val (.int p5), .val (.int (0 : Int32)), .val (.int c0), .val (.int c1), .val (.int c2), .val (.int c3), .val (.int c4), .val (.ref sx), .val (.int (0 : Int32))] [(.int (own_cf (own_cs []) ((0 : Int32)).toNatClampNeg))]))
  refine own_up (fun _ kq => XS.iload X2.here hx rfl (hb hby at_155) rfl kq) ?_
  show own_Go p.tables e below _ (T2.setTop (mkF m 157 #[.val (.int p0), .val (.int p1), .val (.int p2), .val (.int p3), .val (.int p4), .val (.int p5), .val (.int (0 : Int32)), .val (.int c0), .val (.int c1), .val (.int c2), .val (.int c3), .val (.int c4), .val (.ref sx), .val (.int (0 : Int32))] [(.int (0 : Int32)), (.int (own_cf (own_cs []) ((0 : Int32)).toNatClampNeg))]))
  refine own_up (fun _ kq => XS.icmpNo X2.here hx rfl (hb hby at_157) rfl (teq rfl).2 kq) ?_
  show own_Go p.tables e below _ (T2.setTop (mkF m 160 #[.val (.int p0), .val (.int p1), .val (.int p2), .val (.int p3), .val (.int p4), .val (.int p5), .val (.int (0 : Int32)), .val (.int c0), .val (.int c1), .val (.int c2), .val (.int c3), .val (.int c4), .val (.ref sx), .val (.int (0 : Int32))] []))
  refine own_up (fun _ kq => XS.iconst X2.here hx rfl (hb hby at_160) kq) ?_
  show own_Go p.tables e below _ (T2.setTop (mkF m 161 #[.val (.int p0), .val (.int p1), .val (.int p2), .val (.int p3), .val (.int p4), .val (.int p5), .val (.int (0 : Int32)), .val (.int c0), .val (.int c1), .val (.int c2), .val (.int c3), .val (.int c4), .val (.ref sx), .val (.int (0 : Int32))] [(.int (1 : Int32))]))
  refine own_up (fun _ kq => XS.goto X2.here hx rfl (pc0 := 161) (pc' := 165) rfl (hb hby at_161) (by decide) (by decide) kq) ?_
  show own_Go p.tables e below _ (T2.setTop (mkF m 165 #[.val (.int p0), .val (.int p1), .val (.int p2), .val (.int p3), .val (.int p4), .val (.int p5), .val (.int (0 : Int32)), .val (.int c0), .val (.int c1), .val (.int c2), .val (.int c3), .val (.int c4), .val (.ref sx), .val (.int (0 : Int32))] [(.int (1 : Int32))]))
  obtain ⟨fs3, hr3, hrun3, hended3, hW3⟩ := X2.leaveW hS1 (by rw [e2]; exact SK) (v := some (.int (1 : Int32))) (fun h => by rw [Bd.returns] at h; cases h)
  refine own_end ⟨_, _, ?_, hrun3, hended3, _, _, rfl, ?_, own_rew hW3 (by decide) (by decide)⟩
  · exact retN X2 hx (t := .boolean) Bd.returns (by simp) (hb hby at_165) hr3
  · show Qrm0w Z p0 p1 p2 p3 p4 p5 cz fv h0 n0 _ T2.heap _
    rw [e2]
    exact ⟨rfl, N2⟩
set_option maxRecDepth 65536 in
set_option maxHeartbeats 40000000 in
theorem comes_1 {Post : Tables → Env → Array Value → State → Outcome → State → Prop} (hpost : ∀ tb e args s v u, (limb_1_1.after args s (.returned v) u = true ∧ limb_1_2.after args s (.returned v) u = true ∧ True) → ReturnedEndW s (.returned v) u (Jvm.fieldLocs frame_1_writes args s ++ Jvm.arrayLocs frame_1_arrays args s ++ Jvm.staticLocs frame_1_statics s) 24 1152 → Post tb e args s (.returned v) u) :
    ArmFor flags0 classFile x code maxLocals ret World_1 tables_1 room_1 Calls_1 rest_1 Pre_1 Post := by
  intro l hfl _ _ p e ha hc hk s m args below hf hA hF happ hP
  obtain ⟨hcalls, hrest, hpre⟩ := hP
  obtain ⟨-, -, -, hnamed, -, -, -, hat⟩ := (Spec.applies_iff hf).mp happ
  obtain ⟨hg, hn⟩ := and_e (Cond.before_iff.mp (show (Jvm.Cond.and given_1 narrow_1).before args s = true from hpre))
  obtain ⟨gA0, gB0⟩ := and_e hg
  obtain ⟨gA1, gB1⟩ := and_e gB0
  obtain ⟨gA2, gB2⟩ := and_e gB1
  obtain ⟨gA3, gB3⟩ := and_e gB2
  obtain ⟨gA4, gB4⟩ := and_e gB3
  obtain ⟨gA5, gB5⟩ := and_e gB4
  obtain ⟨w0, w1, w2, w3, w4, w5, rfl⟩ : ∃ w0 w1 w2 w3 w4 w5 : Value, args = #[w0, w1, w2, w3, w4, w5] := by
    have hs : args.size = 6 := by simpa [Cond.value, given_1] using gA0
    obtain ⟨L⟩ := args
    match L, hs with
    | [w0, w1, w2, w3, w4, w5], _ => exact ⟨w0, w1, w2, w3, w4, w5, rfl⟩
  have hw := fun d (hd : d ∈ tables_1) => atoms_spec (ws := Jvm.Cond.code x code maxLocals ret :: tables_1) hat d (List.mem_cons_of_mem _ hd)
  obtain ⟨i0, ei0⟩ := is_v gA1
  obtain rfl : w0 = (.int i0) := Option.some.inj ei0
  obtain ⟨i1, ei1⟩ := is_v gA2
  obtain rfl : w1 = (.int i1) := Option.some.inj ei1
  obtain ⟨i2, ei2⟩ := is_v gA3
  obtain rfl : w2 = (.int i2) := Option.some.inj ei2
  obtain ⟨i3, ei3⟩ := is_v gA4
  obtain rfl : w3 = (.int i3) := Option.some.inj ei3
  obtain ⟨i4, ei4⟩ := is_v gA5
  obtain rfl : w4 = (.int i4) := Option.some.inj ei4
  obtain ⟨i5, ei5⟩ := is_v gB5
  obtain rfl : w5 = (.int i5) := Option.some.inj ei5
  obtain ⟨hsets, hown0⟩ := atoms_of _ (rest_1_c_eq ▸ (show rest_1_c.before _ s = true from hrest))
  obtain ⟨cz, evz⟩ := is_v (Cond.before_iff.mp (hsets _ (List.mem_of_getElem? (i := 1) rfl)))
  have hcz : ¬ cz = 0 := gotF (Cond.eq_ints evz (Term.int_eval 0)) (not_v (Cond.before_iff.mp (hsets _ (List.mem_of_getElem? (i := 2) rfl))))
  have SC := Sta.start evz (Or.inl (hsets _ (List.mem_of_getElem? (i := 0) rfl)))
  obtain ⟨fv, evf, hfr⟩ := isR_v (Cond.before_iff.mp (hsets _ (List.mem_of_getElem? (i := 8) rfl)))
  have hfv : fv = .null ∨ ∃ a, fv = .ref a := by cases fv <;> simp_all [Value.isRef]
  have SF := Sta.start evf (Or.inl (hsets _ (List.mem_of_getElem? (i := 7) rfl)))
  have SA := Sta.start (own_eqi (Cond.before_iff.mp (hsets _ (List.mem_of_getElem? (i := 12) rfl)))) (Or.inl (hsets _ (List.mem_of_getElem? (i := 11) rfl)))
  have SH := Sta.start (own_eqi (Cond.before_iff.mp (hsets _ (List.mem_of_getElem? (i := 15) rfl)))) (Or.inl (hsets _ (List.mem_of_getElem? (i := 14) rfl)))
  have SL := Sta.start (own_eqi (Cond.before_iff.mp (hsets _ (List.mem_of_getElem? (i := 18) rfl)))) (Or.inl (hsets _ (List.mem_of_getElem? (i := 17) rfl)))
  have HW : own_W s cz fv := ⟨SC, hcz, SF, hfv, SA, SH, SL⟩
  have hCH : CHv s own_EL s.vm s.heap := CHv.start (own_EW hw) (fun q hq => hcalls.1 q hq) (hsets _ (List.mem_of_getElem? (i := 2) rfl)) (hw _ (List.mem_of_getElem? (i := 21) rfl)) (hw _ (List.mem_of_getElem? (i := 7) rfl))
  by_cases hn0 : ((i0 &&& (2147483647 : Int32)) % (6 : Int32)) = 0
  · obtain ⟨n, o, h1, h2, h3, _, L, rfl, ⟨rfl, N⟩, hq⟩ := rm0w l s _ hw tables_1 i0 i1 i2 i3 i4 i5 cz fv s.heap s.heap.size (Nat.le_refl _) (Old.start s) HW hn0 p e ha hc hk s m _ below hf ((Spec.applies_iff_loose hf).mp happ).1 ⟨rfl, State.Warmed39.refl s, rfl, hCH⟩ trivial
    refine ⟨n, _, h1, h2, h3, hpost _ _ _ _ _ _ ⟨Cond.after_iff.mpr rfl, Cond.after_iff.mpr (eq_i res_at (Term.int_eval (1)) rfl), trivial⟩ ?_⟩
    unfold ReturnedEndW at hq ⊢
    exact ⟨hq.1, hq.2.1, hq.2.2.1, (hq.2.2.2.sift fun y hy => Or.inr (N y hy)).mono (by decide) (by decide)⟩
  · obtain ⟨n, o, h1, h2, h3, _, L, rfl, ⟨rfl, N⟩, hq⟩ := rm0 l s _ hw tables_1 i0 i1 i2 i3 i4 i5 cz fv s.heap s.heap.size (Nat.le_refl _) (Old.start s) HW hn0 p e ha hc hk s m _ below hf ((Spec.applies_iff_loose hf).mp happ).1 ⟨rfl, State.Warmed39.refl s, rfl⟩ trivial
    refine ⟨n, _, h1, h2, h3, hpost _ _ _ _ _ _ ⟨Cond.after_iff.mpr rfl, Cond.after_iff.mpr (eq_i res_at (Term.int_eval (1)) rfl), trivial⟩ ?_⟩
    exact ReturnedEndW.of_narrow hq.1 hq.2.1 ((hq.2.2.sift fun y hy => Or.inr (N y hy)).mono (by decide) (by decide))
theorem main_1_1 : Claimed_1_1 := comes_1 fun _ _ _ _ _ _ h hF => ⟨h.1, hF⟩
theorem main_1_2 : Claimed_1_2 := comes_1 fun _ _ _ _ _ _ h hF => ⟨h.2.1, hF⟩
end Jvm.Pilot.@@N@@
namespace Jvm.Pilot.@@N@@
open Jvm Jvm.ClassFile Sem Op Lib Jvm.Free Jvm.Stand Jvm.Pilot.@@N@@.Jvm.D
/-! MADE BY PROGRAM (witnessworld.py) out of the Statement's table words and the real class files: 18 classes; the members and pool entries that the words name. The judged class is class 1, her method 1. -/
namespace start1
open Jvm.ClassFile
def u (s : String) : CpInfo := .utf8 (stringToUtf16 s)
/-- a pool by its gaps: so many unusable entries, then the entry; so many at the end -/
def gap : Nat → List CpInfo → List CpInfo
  | 0, r => r
  | n + 1, r => .unusable :: gap n r
def poolList (es : List (Nat × CpInfo)) (last : Nat) : List CpInfo := es.foldr (fun e r => gap e.1 (e.2 :: r)) (gap last [])
def pool (es : List (Nat × CpInfo)) (last : Nat) : Array CpInfo := ⟨poolList es last⟩
def fileOf (pool : Array CpInfo) (this : Nat) (attrs : Array Attribute := #[]) (ms : Array MethodInfo := #[]) (fl : Nat := 33) (sup : Nat := 0) (ifs : Array Nat := #[]) (fds : Array FieldInfo := #[]) : ClassFile where
  minorVersion := 0
  majorVersion := 65
  constantPool := pool
  accessFlags := fl
  thisClass := this
  superClass := sup
  interfaces := ifs
  fields := fds
  methods := ms
  attributes := attrs
def plain (name : String) (sup : Option ClassId) : Class where
  name := name
  kind := .ordinary
  loader := none
  accessFlags := 33
  super := sup
  interfaces := #[]
  cf := none
  fields := #[]
  methods := #[]
  instanceTypes := #[]
  staticTypes := #[]
  resolved := #[]
  callSites := []
  init := .initialized
  statics := none
  mirror := none

def pool0 : Array CpInfo := pool [(5, u "<init>"), (0, u "()V"), (1, .class_ 10), (1, u "java/lang/Object")] 113

def k0c0 : Code := { maxStack := 0, maxLocals := 1, code := object_method_1_code, exceptionTable := #[], attributes := #[] }
def k0m0 : Method := { name := "<init>", desc := "()V", sig := { parameters := [], returnType := none }, accessFlags := 1, code := some k0c0 }
/-- java/lang/Object -/
def k0 : Class := { plain "java/lang/Object" none with
  accessFlags := 33
  interfaces := #[]
  cf := some (fileOf pool0 8 #[] #[{ accessFlags := 1, nameIndex := 5, descriptorIndex := 6, attributes := #[] }] 33 0 #[] #[])
  fields := #[]
  methods := #[k0m0]
  instanceTypes := #[]
  staticTypes := #[]
  resolved := Array.replicate 124 none
  statics := none }

def pool1 : Array CpInfo := pool [(2, .class_ 4), (1, u "java/lang/Object"), (0, u "<init>"), (0, u "()V"), (0, .integer 2147483647), (0, .integer 65535), (0, .methodref 10 11), (0, .class_ 12), (0, .nameAndType 13 14), (0, u "com/example/checkoff_codex/checkoffcodex/io/ValueTextDigitsPinLaw"), (0, u "text"), (0, u "(ICCCCC)Ljava/lang/String;"), (0, .methodref 10 16), (0, .nameAndType 17 18), (0, u "ascii"), (0, u "(C)Z"), (0, .methodref 20 21), (0, .class_ 22), (0, .nameAndType 23 24), (0, u "com/example/checkoff_codex/checkoffcodex/io/ValueText"), (0, u "digits"), (0, u "(Ljava/lang/String;)I"), (0, .class_ 26), (0, u "java/lang/String"), (0, .methodref 25 28), (0, .nameAndType 5 29), (0, u "([C)V"), (2, u "law"), (0, u "(IIIIII)Z")] 3

def k1m0 : Method := { name := "<init>", desc := "()V", sig := { parameters := [], returnType := none }, accessFlags := 1, code := none }
def k1c1 : Code := { maxStack := 6, maxLocals := 14, code := code, exceptionTable := #[], attributes := #[] }
def k1m1 : Method := { name := "law", desc := "(IIIIII)Z", sig := { parameters := [.int, .int, .int, .int, .int, .int], returnType := some .boolean }, accessFlags := 9, code := some k1c1 }
def k1c2 : Code := { maxStack := 2, maxLocals := 1, code := method_3_code, exceptionTable := #[], attributes := #[] }
def k1m2 : Method := { name := "ascii", desc := "(C)Z", sig := { parameters := [.char], returnType := some .boolean }, accessFlags := 10, code := some k1c2 }
def k1c3 : Code := { maxStack := 6, maxLocals := 6, code := method_4_code, exceptionTable := #[], attributes := #[] }
def k1m3 : Method := { name := "text", desc := "(ICCCCC)Ljava/lang/String;", sig := { parameters := [.int, .char, .char, .char, .char, .char], returnType := some (.object "java/lang/String") }, accessFlags := 10, code := some k1c3 }
/-- com/example/checkoff_codex/checkoffcodex/io/ValueTextDigitsPinLaw -/
def k1 : Class := { plain "com/example/checkoff_codex/checkoffcodex/io/ValueTextDigitsPinLaw" (some 0) with
  accessFlags := 49
  interfaces := #[]
  cf := some (fileOf pool1 10 #[] #[{ accessFlags := 1, nameIndex := 5, descriptorIndex := 6, attributes := #[] }, { accessFlags := 9, nameIndex := 32, descriptorIndex := 33, attributes := #[] }, { accessFlags := 10, nameIndex := 17, descriptorIndex := 18, attributes := #[] }, { accessFlags := 10, nameIndex := 13, descriptorIndex := 14, attributes := #[] }] 49 2 #[] #[])
  fields := #[]
  methods := #[k1m0, k1m1, k1m2, k1m3]
  instanceTypes := #[]
  staticTypes := #[]
  resolved := Array.replicate 37 none
  statics := none }

def pool2 : Array CpInfo := pool [(1, .class_ 2), (0, u "java/io/Serializable"), (0, .class_ 4), (0, u "java/lang/Object")] 2

/-- java/io/Serializable -/
def k2 : Class := { plain "java/io/Serializable" (some 0) with
  accessFlags := 1537
  interfaces := #[]
  cf := some (fileOf pool2 1 #[] #[] 1537 3 #[] #[])
  fields := #[]
  methods := #[]
  instanceTypes := #[]
  staticTypes := #[]
  resolved := Array.replicate 7 none
  statics := none }

def pool3 : Array CpInfo := pool [(1, .class_ 2), (0, u "java/lang/Comparable"), (0, .class_ 4), (0, u "java/lang/Object")] 7

/-- java/lang/Comparable -/
def k3 : Class := { plain "java/lang/Comparable" (some 0) with
  accessFlags := 1537
  interfaces := #[]
  cf := some (fileOf pool3 1 #[] #[] 1537 3 #[] #[])
  fields := #[]
  methods := #[]
  instanceTypes := #[]
  staticTypes := #[]
  resolved := Array.replicate 12 none
  statics := none }

def pool4 : Array CpInfo := pool [(2, .class_ 4), (1, u "java/lang/CharSequence"), (42, .class_ 48), (0, u "java/lang/CharSequence$1CodePointIterator"), (10, .class_ 60), (0, u "java/lang/CharSequence$1CharIterator"), (5, .class_ 67), (0, u "java/lang/Object")] 63

/-- java/lang/CharSequence -/
def k4 : Class := { plain "java/lang/CharSequence" (some 0) with
  accessFlags := 1537
  interfaces := #[]
  cf := some (fileOf pool4 2 #[.nestMembers #[47, 59]] #[] 1537 66 #[] #[])
  fields := #[]
  methods := #[]
  instanceTypes := #[]
  staticTypes := #[]
  resolved := Array.replicate 131 none
  statics := none }

def pool5 : Array CpInfo := pool [(1, .class_ 2), (0, u "java/lang/constant/Constable"), (0, .class_ 4), (0, u "java/lang/Object")] 6

/-- java/lang/constant/Constable -/
def k5 : Class := { plain "java/lang/constant/Constable" (some 0) with
  accessFlags := 1537
  interfaces := #[]
  cf := some (fileOf pool5 1 #[] #[] 1537 3 #[] #[])
  fields := #[]
  methods := #[]
  instanceTypes := #[]
  staticTypes := #[]
  resolved := Array.replicate 11 none
  statics := none }

def pool6 : Array CpInfo := pool [(1, .class_ 2), (0, u "java/lang/constant/ConstantDesc"), (0, .class_ 4), (0, u "java/lang/Object")] 32

/-- java/lang/constant/ConstantDesc -/
def k6 : Class := { plain "java/lang/constant/ConstantDesc" (some 0) with
  accessFlags := 1537
  interfaces := #[]
  cf := some (fileOf pool6 1 #[] #[] 1537 3 #[] #[])
  fields := #[]
  methods := #[]
  instanceTypes := #[]
  staticTypes := #[]
  resolved := Array.replicate 37 none
  statics := none }

def pool7 : Array CpInfo := pool [(1, .methodref 2 3), (0, .class_ 4), (0, .nameAndType 5 6), (0, u "java/lang/Object"), (0, u "<init>"), (0, u "()V"), (0, .string 8), (0, u ""), (0, .fieldref 10 11), (0, .class_ 12), (0, .nameAndType 13 14), (0, u "java/lang/String"), (0, u "value"), (0, u "[B"), (0, .fieldref 10 16), (0, .nameAndType 17 18), (0, u "coder"), (0, u "B"), (2, u "hash"), (0, u "I"), (2, u "hashIsZero"), (0, u "Z"), (0, .methodref 10 28), (0, .nameAndType 5 29), (0, u "([CIILjava/lang/Void;)V"), (8, .fieldref 10 39), (0, .nameAndType 40 26), (0, u "COMPACT_STRINGS"), (1, .class_ 44), (1, u "java/lang/StringUTF16"), (0, u "compress"), (1, .methodref 42 48), (0, .nameAndType 49 50), (0, u "coderFromArrayLen"), (0, u "([BI)B"), (56, .class_ 109), (1, u "java/lang/StringLatin1"), (32, u "()Z"), (34, .methodref 42 178), (0, .nameAndType 45 179), (0, u "([CII)[B"), (154, u "()I"), (0, .methodref 10 336), (0, .nameAndType 17 337), (0, u "()B"), (25, u "([BI)C"), (27, u "(II)V"), (35, u "(I)C"), (64, .methodref 10 493), (0, .nameAndType 494 142), (0, u "isLatin1"), (0, .methodref 107 496), (0, .nameAndType 497 363), (0, u "charAt"), (0, .methodref 42 496), (2, u "checkIndex"), (5, u "length"), (67, .class_ 576), (0, u "java/lang/CharSequence"), (22, u "CASE_INSENSITIVE_ORDER"), (0, u "Ljava/util/Comparator;"), (409, u "([C)V"), (42, .fieldref 1054 1055), (0, .class_ 1056), (0, .nameAndType 1057 1058), (0, u "jdk/internal/util/Preconditions"), (0, u "SIOOBE_FORMATTER"), (0, u "Ljava/util/function/BiFunction;"), (0, .methodref 1054 1060), (0, .nameAndType 501 1061), (0, u "(IILjava/util/function/BiFunction;)I"), (39, u "serialPersistentFields"), (0, u "[Ljava/io/ObjectStreamField;"), (0, .class_ 1104), (0, u "java/lang/String$CaseInsensitiveComparator"), (1, .class_ 1107), (0, u "java/io/Serializable"), (0, .class_ 1109), (0, u "java/lang/Comparable"), (0, .class_ 1111), (0, u "java/lang/constant/Constable"), (0, .class_ 1113), (0, u "java/lang/constant/ConstantDesc"), (2, u "serialVersionUID"), (0, u "J"), (3, u "REPL"), (0, u "C"), (2, u "LATIN1"), (1, u "UTF16")] 323

def k7m0 : Method := { name := "<init>", desc := "()V", sig := { parameters := [], returnType := none }, accessFlags := 1, code := none }
def k7c1 : Code := { maxStack := 5, maxLocals := 2, code := jdk_42_method_3_code, exceptionTable := #[], attributes := #[] }
def k7m1 : Method := { name := "<init>", desc := "([C)V", sig := { parameters := [(.array .char)], returnType := none }, accessFlags := 1, code := some k7c1 }
def k7c2 : Code := { maxStack := 2, maxLocals := 1, code := jdk_42_method_54_code, exceptionTable := #[], attributes := #[] }
def k7m2 : Method := { name := "length", desc := "()I", sig := { parameters := [], returnType := some .int }, accessFlags := 1, code := some k7c2 }
def k7c3 : Code := { maxStack := 2, maxLocals := 2, code := jdk_42_method_56_code, exceptionTable := #[], attributes := #[] }
def k7m3 : Method := { name := "charAt", desc := "(I)C", sig := { parameters := [.int], returnType := some .char }, accessFlags := 1, code := some k7c3 }
def k7c4 : Code := { maxStack := 4, maxLocals := 6, code := jdk_42_method_149_code, exceptionTable := #[], attributes := #[] }
def k7m4 : Method := { name := "<init>", desc := "([CIILjava/lang/Void;)V", sig := { parameters := [(.array .char), .int, .int, (.object "java/lang/Void")], returnType := none }, accessFlags := 2, code := some k7c4 }
def k7c5 : Code := { maxStack := 1, maxLocals := 1, code := jdk_42_method_152_code, exceptionTable := #[], attributes := #[] }
def k7m5 : Method := { name := "coder", desc := "()B", sig := { parameters := [], returnType := some .byte }, accessFlags := 0, code := some k7c5 }
def k7c6 : Code := { maxStack := 1, maxLocals := 1, code := jdk_42_method_154_code, exceptionTable := #[], attributes := #[] }
def k7m6 : Method := { name := "isLatin1", desc := "()Z", sig := { parameters := [], returnType := some .boolean }, accessFlags := 0, code := some k7c6 }
def k7c7 : Code := { maxStack := 3, maxLocals := 2, code := jdk_42_method_155_code, exceptionTable := #[], attributes := #[] }
def k7m7 : Method := { name := "checkIndex", desc := "(II)V", sig := { parameters := [.int, .int], returnType := none }, accessFlags := 8, code := some k7c7 }
/-- java/lang/String -/
def k7 : Class := { plain "java/lang/String" (some 0) with
  accessFlags := 49
  interfaces := #[2, 3, 4, 5, 6]
  cf := some (fileOf pool7 10 #[.nestMembers #[1103]] #[{ accessFlags := 1, nameIndex := 5, descriptorIndex := 6, attributes := #[] }, { accessFlags := 1, nameIndex := 5, descriptorIndex := 1010, attributes := #[] }, { accessFlags := 1, nameIndex := 507, descriptorIndex := 334, attributes := #[] }, { accessFlags := 1, nameIndex := 497, descriptorIndex := 427, attributes := #[] }, { accessFlags := 2, nameIndex := 5, descriptorIndex := 29, attributes := #[] }, { accessFlags := 0, nameIndex := 17, descriptorIndex := 337, attributes := #[] }, { accessFlags := 0, nameIndex := 494, descriptorIndex := 142, attributes := #[] }, { accessFlags := 8, nameIndex := 501, descriptorIndex := 391, attributes := #[] }] 49 2 #[1106, 1108, 575, 1110, 1112] #[{ accessFlags := 18, nameIndex := 13, descriptorIndex := 14, attributes := #[] }, { accessFlags := 18, nameIndex := 17, descriptorIndex := 18, attributes := #[] }, { accessFlags := 2, nameIndex := 21, descriptorIndex := 22, attributes := #[] }, { accessFlags := 2, nameIndex := 25, descriptorIndex := 26, attributes := #[] }, { accessFlags := 26, nameIndex := 1116, descriptorIndex := 1117, attributes := #[] }, { accessFlags := 24, nameIndex := 40, descriptorIndex := 26, attributes := #[] }, { accessFlags := 26, nameIndex := 1101, descriptorIndex := 1102, attributes := #[] }, { accessFlags := 26, nameIndex := 1121, descriptorIndex := 1122, attributes := #[] }, { accessFlags := 25, nameIndex := 599, descriptorIndex := 600, attributes := #[] }, { accessFlags := 24, nameIndex := 1125, descriptorIndex := 18, attributes := #[] }, { accessFlags := 24, nameIndex := 1127, descriptorIndex := 18, attributes := #[] }])
  fields := #[{ name := "value", type := (.array .byte), accessFlags := 18, slot := 0, constantValue := 0 }, { name := "coder", type := .byte, accessFlags := 18, slot := 1, constantValue := 0 }, { name := "hash", type := .int, accessFlags := 2, slot := 2, constantValue := 0 }, { name := "hashIsZero", type := .boolean, accessFlags := 2, slot := 3, constantValue := 0 }, { name := "serialVersionUID", type := .long, accessFlags := 26, slot := 0, constantValue := 0 }, { name := "COMPACT_STRINGS", type := .boolean, accessFlags := 24, slot := 1, constantValue := 0 }, { name := "serialPersistentFields", type := (.array (.object "java/io/ObjectStreamField")), accessFlags := 26, slot := 2, constantValue := 0 }, { name := "REPL", type := .char, accessFlags := 26, slot := 3, constantValue := 0 }, { name := "CASE_INSENSITIVE_ORDER", type := (.object "java/util/Comparator"), accessFlags := 25, slot := 4, constantValue := 0 }, { name := "LATIN1", type := .byte, accessFlags := 24, slot := 5, constantValue := 0 }, { name := "UTF16", type := .byte, accessFlags := 24, slot := 6, constantValue := 0 }]
  methods := #[k7m0, k7m1, k7m2, k7m3, k7m4, k7m5, k7m6, k7m7]
  instanceTypes := #[(.array .byte), .byte, .int, .boolean]
  staticTypes := #[.long, .boolean, (.array (.object "java/io/ObjectStreamField")), .char, (.object "java/util/Comparator"), .byte, .byte]
  resolved := Array.replicate 1451 none
  statics := some 0 }

def pool8 : Array CpInfo := pool [(2, .class_ 4), (1, u "java/lang/Object"), (0, u "<init>"), (0, u "()V"), (1, .class_ 10), (1, u "com/example/checkoff_codex/checkoffcodex/io/ValueText"), (8, .methodref 20 21), (0, .class_ 22), (0, .nameAndType 23 24), (0, u "java/lang/String"), (0, u "length"), (0, u "()I"), (4, u "YEAR_END"), (0, u "I"), (0, .methodref 20 32), (0, .nameAndType 33 34), (0, u "charAt"), (0, u "(I)C"), (2, u "MONTH_END"), (39, .methodref 8 78), (0, .nameAndType 79 80), (0, u "isDigit"), (0, u "(C)Z"), (61, u "MOST_DIGITS"), (2, u "DATE_FORM"), (0, u "Ljava/lang/String;"), (0, u "DATE_SEPARATOR"), (0, u "C"), (1, u "POINT"), (1, u "LONG_DIGITS"), (1, u "MOST_QUOTED"), (1, u "GOES_ON"), (2, u "LIST_SEPARATOR"), (0, u "MOST_LISTED"), (7, u "digits"), (0, u "(Ljava/lang/String;)I")] 28

def k8m0 : Method := { name := "<init>", desc := "()V", sig := { parameters := [], returnType := none }, accessFlags := 2, code := none }
def k8c1 : Code := { maxStack := 2, maxLocals := 3, code := prog_35_method_6_code, exceptionTable := #[], attributes := #[] }
def k8m1 : Method := { name := "digits", desc := "(Ljava/lang/String;)I", sig := { parameters := [(.object "java/lang/String")], returnType := some .int }, accessFlags := 9, code := some k8c1 }
def k8c2 : Code := { maxStack := 2, maxLocals := 1, code := prog_35_method_10_code, exceptionTable := #[], attributes := #[] }
def k8m2 : Method := { name := "isDigit", desc := "(C)Z", sig := { parameters := [.char], returnType := some .boolean }, accessFlags := 10, code := some k8c2 }
/-- com/example/checkoff_codex/checkoffcodex/io/ValueText -/
def k8 : Class := { plain "com/example/checkoff_codex/checkoffcodex/io/ValueText" (some 0) with
  accessFlags := 33
  interfaces := #[]
  cf := some (fileOf pool8 8 #[] #[{ accessFlags := 2, nameIndex := 5, descriptorIndex := 6, attributes := #[] }, { accessFlags := 9, nameIndex := 168, descriptorIndex := 169, attributes := #[] }, { accessFlags := 10, nameIndex := 79, descriptorIndex := 80, attributes := #[] }] 33 2 #[] #[{ accessFlags := 25, nameIndex := 142, descriptorIndex := 30, attributes := #[] }, { accessFlags := 26, nameIndex := 145, descriptorIndex := 146, attributes := #[] }, { accessFlags := 26, nameIndex := 147, descriptorIndex := 148, attributes := #[] }, { accessFlags := 26, nameIndex := 29, descriptorIndex := 30, attributes := #[] }, { accessFlags := 26, nameIndex := 37, descriptorIndex := 30, attributes := #[] }, { accessFlags := 26, nameIndex := 150, descriptorIndex := 148, attributes := #[] }, { accessFlags := 26, nameIndex := 152, descriptorIndex := 30, attributes := #[] }, { accessFlags := 26, nameIndex := 154, descriptorIndex := 30, attributes := #[] }, { accessFlags := 26, nameIndex := 156, descriptorIndex := 146, attributes := #[] }, { accessFlags := 26, nameIndex := 159, descriptorIndex := 146, attributes := #[] }, { accessFlags := 26, nameIndex := 160, descriptorIndex := 30, attributes := #[] }])
  fields := #[{ name := "MOST_DIGITS", type := .int, accessFlags := 25, slot := 0, constantValue := 0 }, { name := "DATE_FORM", type := (.object "java/lang/String"), accessFlags := 26, slot := 1, constantValue := 0 }, { name := "DATE_SEPARATOR", type := .char, accessFlags := 26, slot := 2, constantValue := 0 }, { name := "YEAR_END", type := .int, accessFlags := 26, slot := 3, constantValue := 0 }, { name := "MONTH_END", type := .int, accessFlags := 26, slot := 4, constantValue := 0 }, { name := "POINT", type := .char, accessFlags := 26, slot := 5, constantValue := 0 }, { name := "LONG_DIGITS", type := .int, accessFlags := 26, slot := 6, constantValue := 0 }, { name := "MOST_QUOTED", type := .int, accessFlags := 26, slot := 7, constantValue := 0 }, { name := "GOES_ON", type := (.object "java/lang/String"), accessFlags := 26, slot := 8, constantValue := 0 }, { name := "LIST_SEPARATOR", type := (.object "java/lang/String"), accessFlags := 26, slot := 9, constantValue := 0 }, { name := "MOST_LISTED", type := .int, accessFlags := 26, slot := 10, constantValue := 0 }]
  methods := #[k8m0, k8m1, k8m2]
  instanceTypes := #[]
  staticTypes := #[.int, (.object "java/lang/String"), .char, .int, .int, .char, .int, .int, (.object "java/lang/String"), (.object "java/lang/String"), .int]
  resolved := Array.replicate 198 none
  statics := none }

def pool9 : Array CpInfo := pool [(3, .class_ 4), (0, u "java/lang/String"), (1, .class_ 8), (1, u "java/lang/Object"), (0, u "<init>"), (0, u "()V"), (0, .methodref 12 13), (0, .class_ 14), (0, .nameAndType 15 16), (0, u "java/lang/StringUTF16"), (0, u "newBytesLength"), (0, u "(I)I"), (3, .integer 1073741823), (23, .fieldref 12 45), (0, .nameAndType 46 47), (0, u "$assertionsDisabled"), (0, u "Z"), (0, .methodref 12 49), (0, .nameAndType 50 51), (0, u "length"), (0, u "([B)I"), (7, .fieldref 12 60), (0, .nameAndType 61 62), (0, u "HI_BYTE_SHIFT"), (0, u "I"), (0, .fieldref 12 64), (0, .nameAndType 65 62), (0, u "LO_BYTE_SHIFT"), (1, .methodref 12 68), (0, .nameAndType 69 70), (0, u "checkIndex"), (0, u "(I[B)V"), (0, .methodref 12 72), (0, .nameAndType 73 74), (0, u "getChar"), (0, u "([BI)C"), (32, .methodref 12 108), (0, .nameAndType 109 110), (0, u "newBytesFor"), (0, u "(I)[B"), (0, .methodref 12 112), (0, .nameAndType 113 114), (0, u "putChar"), (0, u "([BII)V"), (0, .methodref 12 116), (0, .nameAndType 117 118), (0, u "compress"), (0, u "([CI[BII)I"), (0, .methodref 12 120), (0, .nameAndType 121 122), (0, u "toBytes"), (0, u "([CII)[B"), (138, u "coderFromArrayLen"), (0, u "([BI)B"), (106, .class_ 371), (1, u "java/lang/StringUTF16$LinesSpliterator"), (20, u "charAt"), (21, .methodref 3 415), (0, .nameAndType 69 416), (0, u "(II)V"), (13, u "MAX_LENGTH"), (196, .class_ 628), (0, u "java/lang/StringUTF16$CodePointsSpliterator"), (0, .class_ 630), (0, u "java/lang/StringUTF16$CharsSpliterator")] 4

def k9m0 : Method := { name := "<init>", desc := "()V", sig := { parameters := [], returnType := none }, accessFlags := 0, code := none }
def k9c1 : Code := { maxStack := 1, maxLocals := 1, code := jdk_52_method_2_code, exceptionTable := #[], attributes := #[] }
def k9m1 : Method := { name := "newBytesFor", desc := "(I)[B", sig := { parameters := [.int], returnType := some (.array .byte) }, accessFlags := 9, code := some k9c1 }
def k9c2 : Code := { maxStack := 4, maxLocals := 1, code := jdk_52_method_3_code, exceptionTable := #[], attributes := #[] }
def k9m2 : Method := { name := "newBytesLength", desc := "(I)I", sig := { parameters := [.int], returnType := some .int }, accessFlags := 9, code := some k9c2 }
def k9c3 : Code := { maxStack := 4, maxLocals := 3, code := jdk_52_method_4_code, exceptionTable := #[], attributes := #[] }
def k9m3 : Method := { name := "putChar", desc := "([BII)V", sig := { parameters := [(.array .byte), .int, .int], returnType := none }, accessFlags := 8, code := some k9c3 }
def k9c4 : Code := { maxStack := 3, maxLocals := 2, code := jdk_52_method_5_code, exceptionTable := #[], attributes := #[] }
def k9m4 : Method := { name := "getChar", desc := "([BI)C", sig := { parameters := [(.array .byte), .int], returnType := some .char }, accessFlags := 8, code := some k9c4 }
def k9c5 : Code := { maxStack := 2, maxLocals := 1, code := jdk_52_method_6_code, exceptionTable := #[], attributes := #[] }
def k9m5 : Method := { name := "length", desc := "([B)I", sig := { parameters := [(.array .byte)], returnType := some .int }, accessFlags := 9, code := some k9c5 }
def k9c6 : Code := { maxStack := 4, maxLocals := 5, code := jdk_52_method_14_code, exceptionTable := #[], attributes := #[] }
def k9m6 : Method := { name := "toBytes", desc := "([CII)[B", sig := { parameters := [(.array .char), .int, .int], returnType := some (.array .byte) }, accessFlags := 9, code := some k9c6 }
def k9c7 : Code := { maxStack := 2, maxLocals := 2, code := jdk_52_method_15_code, exceptionTable := #[], attributes := #[] }
def k9m7 : Method := { name := "coderFromArrayLen", desc := "([BI)B", sig := { parameters := [(.array .byte), .int], returnType := some .byte }, accessFlags := 8, code := some k9c7 }
def k9c8 : Code := { maxStack := 5, maxLocals := 6, code := jdk_52_method_16_code, exceptionTable := #[], attributes := #[] }
def k9m8 : Method := { name := "compress", desc := "([CII)[B", sig := { parameters := [(.array .char), .int, .int], returnType := some (.array .byte) }, accessFlags := 9, code := some k9c8 }
def k9c9 : Code := { maxStack := 3, maxLocals := 7, code := jdk_52_method_21_code, exceptionTable := #[], attributes := #[] }
def k9m9 : Method := { name := "compress", desc := "([CI[BII)I", sig := { parameters := [(.array .char), .int, (.array .byte), .int, .int], returnType := some .int }, accessFlags := 9, code := some k9c9 }
def k9c10 : Code := { maxStack := 2, maxLocals := 2, code := jdk_52_method_83_code, exceptionTable := #[], attributes := #[] }
def k9m10 : Method := { name := "charAt", desc := "([BI)C", sig := { parameters := [(.array .byte), .int], returnType := some .char }, accessFlags := 9, code := some k9c10 }
def k9c11 : Code := { maxStack := 2, maxLocals := 2, code := jdk_52_method_91_code, exceptionTable := #[], attributes := #[] }
def k9m11 : Method := { name := "checkIndex", desc := "(I[B)V", sig := { parameters := [.int, (.array .byte)], returnType := none }, accessFlags := 9, code := some k9c11 }
/-- java/lang/StringUTF16 -/
def k9 : Class := { plain "java/lang/StringUTF16" (some 0) with
  accessFlags := 48
  interfaces := #[]
  cf := some (fileOf pool9 12 #[.nestMembers #[627, 629, 369]] #[{ accessFlags := 0, nameIndex := 9, descriptorIndex := 10, attributes := #[] }, { accessFlags := 9, nameIndex := 109, descriptorIndex := 110, attributes := #[] }, { accessFlags := 9, nameIndex := 15, descriptorIndex := 16, attributes := #[] }, { accessFlags := 8, nameIndex := 113, descriptorIndex := 114, attributes := #[] }, { accessFlags := 8, nameIndex := 73, descriptorIndex := 74, attributes := #[] }, { accessFlags := 9, nameIndex := 50, descriptorIndex := 51, attributes := #[] }, { accessFlags := 9, nameIndex := 121, descriptorIndex := 122, attributes := #[] }, { accessFlags := 8, nameIndex := 261, descriptorIndex := 262, attributes := #[] }, { accessFlags := 9, nameIndex := 117, descriptorIndex := 122, attributes := #[] }, { accessFlags := 9, nameIndex := 117, descriptorIndex := 118, attributes := #[] }, { accessFlags := 9, nameIndex := 392, descriptorIndex := 74, attributes := #[] }, { accessFlags := 9, nameIndex := 69, descriptorIndex := 70, attributes := #[] }] 48 6 #[] #[{ accessFlags := 26, nameIndex := 61, descriptorIndex := 62, attributes := #[] }, { accessFlags := 26, nameIndex := 65, descriptorIndex := 62, attributes := #[] }, { accessFlags := 24, nameIndex := 430, descriptorIndex := 62, attributes := #[] }, { accessFlags := 4120, nameIndex := 46, descriptorIndex := 47, attributes := #[] }])
  fields := #[{ name := "HI_BYTE_SHIFT", type := .int, accessFlags := 26, slot := 0, constantValue := 0 }, { name := "LO_BYTE_SHIFT", type := .int, accessFlags := 26, slot := 1, constantValue := 0 }, { name := "MAX_LENGTH", type := .int, accessFlags := 24, slot := 2, constantValue := 0 }, { name := "$assertionsDisabled", type := .boolean, accessFlags := 4120, slot := 3, constantValue := 0 }]
  methods := #[k9m0, k9m1, k9m2, k9m3, k9m4, k9m5, k9m6, k9m7, k9m8, k9m9, k9m10, k9m11]
  instanceTypes := #[]
  staticTypes := #[.int, .int, .int, .boolean]
  resolved := Array.replicate 635 none
  statics := some 1 }

def pool10 : Array CpInfo := pool [(1, .class_ 2), (0, u "java/lang/String"), (1, .class_ 6), (1, u "java/lang/Object"), (0, u "<init>"), (0, u "()V"), (0, .methodref 1 10), (0, .nameAndType 11 12), (0, u "checkIndex"), (0, u "(II)V"), (1, .class_ 16), (1, u "java/lang/StringLatin1"), (36, u "([BI)C"), (67, u "$assertionsDisabled"), (0, u "Z"), (98, .class_ 223), (1, u "java/lang/StringLatin1$LinesSpliterator"), (28, u "charAt"), (137, .class_ 391), (0, u "java/lang/StringLatin1$CharsSpliterator")] 3

def k10m0 : Method := { name := "<init>", desc := "()V", sig := { parameters := [], returnType := none }, accessFlags := 0, code := none }
def k10c1 : Code := { maxStack := 2, maxLocals := 2, code := jdk_43_method_2_code, exceptionTable := #[], attributes := #[] }
def k10m1 : Method := { name := "charAt", desc := "([BI)C", sig := { parameters := [(.array .byte), .int], returnType := some .char }, accessFlags := 9, code := some k10c1 }
/-- java/lang/StringLatin1 -/
def k10 : Class := { plain "java/lang/StringLatin1" (some 0) with
  accessFlags := 48
  interfaces := #[]
  cf := some (fileOf pool10 14 #[.nestMembers #[390, 221]] #[{ accessFlags := 0, nameIndex := 7, descriptorIndex := 8, attributes := #[] }, { accessFlags := 9, nameIndex := 252, descriptorIndex := 53, attributes := #[] }] 48 4 #[] #[{ accessFlags := 4120, nameIndex := 121, descriptorIndex := 122, attributes := #[] }])
  fields := #[{ name := "$assertionsDisabled", type := .boolean, accessFlags := 4120, slot := 0, constantValue := 0 }]
  methods := #[k10m0, k10m1]
  instanceTypes := #[]
  staticTypes := #[.boolean]
  resolved := Array.replicate 395 none
  statics := none }

def pool11 : Array CpInfo := pool [(2, .class_ 4), (1, u "java/lang/Object"), (0, u "<init>"), (0, u "()V"), (17, .class_ 26), (1, u "jdk/internal/util/Preconditions"), (6, u "checkIndex"), (21, .class_ 56), (0, u "jdk/internal/util/Preconditions$4"), (57, .class_ 115), (0, u "jdk/internal/util/Preconditions$1"), (7, u "SIOOBE_FORMATTER"), (0, u "Ljava/util/function/BiFunction;"), (0, .class_ 126), (0, u "jdk/internal/util/Preconditions$2"), (3, u "AIOOBE_FORMATTER"), (0, .class_ 132), (0, u "jdk/internal/util/Preconditions$3"), (3, u "IOOBE_FORMATTER"), (41, u "(IILjava/util/function/BiFunction;)I")] 15

def k11m0 : Method := { name := "<init>", desc := "()V", sig := { parameters := [], returnType := none }, accessFlags := 1, code := none }
def k11c1 : Code := { maxStack := 3, maxLocals := 3, code := jdk_41_method_11_code, exceptionTable := #[], attributes := #[] }
def k11m1 : Method := { name := "checkIndex", desc := "(IILjava/util/function/BiFunction;)I", sig := { parameters := [.int, .int, (.object "java/util/function/BiFunction")], returnType := some .int }, accessFlags := 9, code := some k11c1 }
/-- jdk/internal/util/Preconditions -/
def k11 : Class := { plain "jdk/internal/util/Preconditions" (some 0) with
  accessFlags := 33
  interfaces := #[]
  cf := some (fileOf pool11 24 #[.nestMembers #[55, 131, 125, 114]] #[{ accessFlags := 1, nameIndex := 5, descriptorIndex := 6, attributes := #[] }, { accessFlags := 9, nameIndex := 33, descriptorIndex := 178, attributes := #[] }] 33 2 #[] #[{ accessFlags := 25, nameIndex := 123, descriptorIndex := 124, attributes := #[] }, { accessFlags := 25, nameIndex := 130, descriptorIndex := 124, attributes := #[] }, { accessFlags := 25, nameIndex := 136, descriptorIndex := 124, attributes := #[] }])
  fields := #[{ name := "SIOOBE_FORMATTER", type := (.object "java/util/function/BiFunction"), accessFlags := 25, slot := 0, constantValue := 0 }, { name := "AIOOBE_FORMATTER", type := (.object "java/util/function/BiFunction"), accessFlags := 25, slot := 1, constantValue := 0 }, { name := "IOOBE_FORMATTER", type := (.object "java/util/function/BiFunction"), accessFlags := 25, slot := 2, constantValue := 0 }]
  methods := #[k11m0, k11m1]
  instanceTypes := #[]
  staticTypes := #[(.object "java/util/function/BiFunction"), (.object "java/util/function/BiFunction"), (.object "java/util/function/BiFunction")]
  resolved := Array.replicate 194 none
  statics := some 2 }

def pool12 : Array CpInfo := pool [(9, u "<init>"), (6, .class_ 18), (1, u "java/lang/Object"), (0, u "()V"), (1, .class_ 23), (1, u "jdk/internal/util/ArraysSupport"), (0, u "LOG2_ARRAY_LONG_INDEX_SCALE"), (0, u "I"), (2, u "U"), (0, u "Ljdk/internal/misc/Unsafe;"), (8, u "BIG_ENDIAN"), (0, u "Z"), (8, u "LOG2_BYTE_BIT_SIZE"), (4, u "LOG2_ARRAY_INT_INDEX_SCALE"), (54, u "JLA"), (0, u "Ljdk/internal/access/JavaLangAccess;"), (11, u "LOG2_ARRAY_BOOLEAN_INDEX_SCALE"), (9, u "LOG2_ARRAY_BYTE_INDEX_SCALE"), (5, u "LOG2_ARRAY_CHAR_INDEX_SCALE"), (5, u "LOG2_ARRAY_SHORT_INDEX_SCALE"), (18, u "LOG2_ARRAY_FLOAT_INDEX_SCALE"), (24, u "LOG2_ARRAY_DOUBLE_INDEX_SCALE"), (89, u "T_BOOLEAN"), (2, u "T_CHAR"), (1, u "T_FLOAT"), (1, u "T_DOUBLE"), (1, u "T_BYTE"), (1, u "T_SHORT"), (1, u "T_INT"), (1, u "T_LONG"), (1, u "SOFT_MAX_ARRAY_LENGTH")] 83

def k12m0 : Method := { name := "<init>", desc := "()V", sig := { parameters := [], returnType := none }, accessFlags := 2, code := none }
/-- jdk/internal/util/ArraysSupport -/
def k12 : Class := { plain "jdk/internal/util/ArraysSupport" (some 0) with
  accessFlags := 33
  interfaces := #[]
  cf := some (fileOf pool12 21 #[] #[{ accessFlags := 2, nameIndex := 9, descriptorIndex := 19, attributes := #[] }] 33 16 #[] #[{ accessFlags := 24, nameIndex := 28, descriptorIndex := 29, attributes := #[] }, { accessFlags := 26, nameIndex := 38, descriptorIndex := 39, attributes := #[] }, { accessFlags := 25, nameIndex := 121, descriptorIndex := 25, attributes := #[] }, { accessFlags := 25, nameIndex := 131, descriptorIndex := 25, attributes := #[] }, { accessFlags := 25, nameIndex := 137, descriptorIndex := 25, attributes := #[] }, { accessFlags := 25, nameIndex := 143, descriptorIndex := 25, attributes := #[] }, { accessFlags := 25, nameIndex := 53, descriptorIndex := 25, attributes := #[] }, { accessFlags := 25, nameIndex := 24, descriptorIndex := 25, attributes := #[] }, { accessFlags := 25, nameIndex := 162, descriptorIndex := 25, attributes := #[] }, { accessFlags := 25, nameIndex := 187, descriptorIndex := 25, attributes := #[] }, { accessFlags := 26, nameIndex := 48, descriptorIndex := 25, attributes := #[] }, { accessFlags := 25, nameIndex := 277, descriptorIndex := 25, attributes := #[] }, { accessFlags := 25, nameIndex := 280, descriptorIndex := 25, attributes := #[] }, { accessFlags := 25, nameIndex := 282, descriptorIndex := 25, attributes := #[] }, { accessFlags := 25, nameIndex := 284, descriptorIndex := 25, attributes := #[] }, { accessFlags := 25, nameIndex := 286, descriptorIndex := 25, attributes := #[] }, { accessFlags := 25, nameIndex := 288, descriptorIndex := 25, attributes := #[] }, { accessFlags := 25, nameIndex := 290, descriptorIndex := 25, attributes := #[] }, { accessFlags := 25, nameIndex := 292, descriptorIndex := 25, attributes := #[] }, { accessFlags := 26, nameIndex := 108, descriptorIndex := 109, attributes := #[] }, { accessFlags := 25, nameIndex := 294, descriptorIndex := 25, attributes := #[] }])
  fields := #[{ name := "U", type := (.object "jdk/internal/misc/Unsafe"), accessFlags := 24, slot := 0, constantValue := 0 }, { name := "BIG_ENDIAN", type := .boolean, accessFlags := 26, slot := 1, constantValue := 0 }, { name := "LOG2_ARRAY_BOOLEAN_INDEX_SCALE", type := .int, accessFlags := 25, slot := 2, constantValue := 0 }, { name := "LOG2_ARRAY_BYTE_INDEX_SCALE", type := .int, accessFlags := 25, slot := 3, constantValue := 0 }, { name := "LOG2_ARRAY_CHAR_INDEX_SCALE", type := .int, accessFlags := 25, slot := 4, constantValue := 0 }, { name := "LOG2_ARRAY_SHORT_INDEX_SCALE", type := .int, accessFlags := 25, slot := 5, constantValue := 0 }, { name := "LOG2_ARRAY_INT_INDEX_SCALE", type := .int, accessFlags := 25, slot := 6, constantValue := 0 }, { name := "LOG2_ARRAY_LONG_INDEX_SCALE", type := .int, accessFlags := 25, slot := 7, constantValue := 0 }, { name := "LOG2_ARRAY_FLOAT_INDEX_SCALE", type := .int, accessFlags := 25, slot := 8, constantValue := 0 }, { name := "LOG2_ARRAY_DOUBLE_INDEX_SCALE", type := .int, accessFlags := 25, slot := 9, constantValue := 0 }, { name := "LOG2_BYTE_BIT_SIZE", type := .int, accessFlags := 26, slot := 10, constantValue := 0 }, { name := "T_BOOLEAN", type := .int, accessFlags := 25, slot := 11, constantValue := 0 }, { name := "T_CHAR", type := .int, accessFlags := 25, slot := 12, constantValue := 0 }, { name := "T_FLOAT", type := .int, accessFlags := 25, slot := 13, constantValue := 0 }, { name := "T_DOUBLE", type := .int, accessFlags := 25, slot := 14, constantValue := 0 }, { name := "T_BYTE", type := .int, accessFlags := 25, slot := 15, constantValue := 0 }, { name := "T_SHORT", type := .int, accessFlags := 25, slot := 16, constantValue := 0 }, { name := "T_INT", type := .int, accessFlags := 25, slot := 17, constantValue := 0 }, { name := "T_LONG", type := .int, accessFlags := 25, slot := 18, constantValue := 0 }, { name := "JLA", type := (.object "jdk/internal/access/JavaLangAccess"), accessFlags := 26, slot := 19, constantValue := 0 }, { name := "SOFT_MAX_ARRAY_LENGTH", type := .int, accessFlags := 25, slot := 20, constantValue := 0 }]
  methods := #[k12m0]
  instanceTypes := #[]
  staticTypes := #[(.object "jdk/internal/misc/Unsafe"), .boolean, .int, .int, .int, .int, .int, .int, .int, .int, .int, .int, .int, .int, .int, .int, .int, .int, .int, (.object "jdk/internal/access/JavaLangAccess"), .int]
  resolved := Array.replicate 378 none
  statics := none }

def pool13 : Array CpInfo := pool [(1, u "java/lang/Cloneable"), (0, .class_ 1), (0, u "java/lang/Object"), (0, .class_ 3)] 3

/-- java/lang/Cloneable -/
def k13 : Class := { plain "java/lang/Cloneable" (some 0) with
  accessFlags := 1537
  interfaces := #[]
  cf := some (fileOf pool13 2 #[] #[] 1537 4 #[] #[])
  fields := #[]
  methods := #[]
  instanceTypes := #[]
  staticTypes := #[]
  resolved := Array.replicate 8 none
  statics := none }

/-- the primitive byte -/
def k14 : Class := { plain "byte" none with kind := .primitive 'B', accessFlags := 0x411 }
/-- [B -/
def k15 : Class := { plain "[B" (some 0) with kind := .array 14 .byte, interfaces := #[13, 2], accessFlags := 1041 }

/-- the primitive char -/
def k16 : Class := { plain "char" none with kind := .primitive 'C', accessFlags := 0x411 }
/-- [C -/
def k17 : Class := { plain "[C" (some 0) with kind := .array 16 .char, interfaces := #[13, 2], accessFlags := 1041 }

def heap : Heap := #[{ cls := 7, slots := #[.long 0, .int 1, .null, .int 0, .null, .int 0, .int 0], vm := .statics 7 },
  { cls := 9, slots := #[.int 0, .int 8, .int 0, .int 1], vm := .statics 9 },
  { cls := 11, slots := #[.null, .null, .null], vm := .statics 11 }]
def classes : Array Class := #[k0, k1, k2, k3, k4, k5, k6, k7, k8, k9, k10, k11, k12, k13, k14, k15, k16, k17]
def interned : List (Array UInt16 × Addr) := []
def slotsUsed : Nat := 14
def theMethod : MethodId := ⟨1, 1⟩
def args0 : Array Value := #[.int 3, .int 50, .int 60, .int 300, .int 3, .int 1]
def aboutOver (below : List Frame) : State where
  vm := { classes := classes, interned := interned.toArray }
  heap := heap
  slotsUsed := slotsUsed
  threads := #[{ frames := .invoking theMethod args0 :: below }]
def below0 : List Frame := [.native { method := ⟨0, 0⟩, args := #[] }]
def about1 : State := aboutOver below0
def p0 : Program := .bare "" "" ""
def e0 : Env := launch0.env 0 0 0
theorem w_frames : about1.frames = Frame.invoking theMethod args0 :: below0 := rfl
set_option maxRecDepth 65536 in
theorem w_args : argsFit about1.vm theMethod args0 = true := by decide +kernel
set_option maxRecDepth 65536 in
theorem w_heap : heapFits about1 = true := by decide +kernel
set_option maxRecDepth 65536 in
theorem w_runnable : about1.curStatus? = some .runnable := by decide +kernel
set_option maxRecDepth 65536 in
theorem w_alone : about1.alone = true := by decide +kernel
set_option maxRecDepth 65536 in
theorem w_named : about1.methodNamed? x = some theMethod := by decide +kernel
set_option maxRecDepth 65536 in
theorem w_hears : about1.hears theMethod below0 = true := by decide +kernel
set_option maxRecDepth 65536 in
theorem w_ripe : about1.ripe theMethod args0 below0 = true := by decide +kernel
theorem w_running : about1.status = .running := rfl
set_option maxRecDepth 65536 in
theorem w_room : about1.hasRoom e0.platform room_1 = true :=
  launch0.hasRoom_least _ room_1 (by decide +kernel) (by decide +kernel) (by decide +kernel) (by decide +kernel) (by decide +kernel) (by decide +kernel)
theorem allAtoms_all (ts : List Jvm.Cond) (a : Array Jvm.Value) (st : Jvm.State) : (allAtoms ts).before a st = ts.all (fun c => c.before a st) := by
  induction ts with
  | nil => rfl
  | cons c t ih =>
    show (Jvm.Cond.and c (allAtoms t)).before a st = _
    rw [Jvm.Cond.before_and, ih, List.all_cons]
def words1 : List Jvm.Cond := Jvm.Cond.code x code maxLocals ret :: tables_1
/-- a 'code' word, met by the world's own term for the bytes: nothing is compared byte by byte -/
theorem code_word {y : MethodName} {bytes : ByteArray} {mx : Nat} {rt : Option FieldType} {a : Array Value} {s : State} {m : MethodId} {meth : Method} {c : Code} (h1 : s.methodNamed? y = some m) (h2 : s.vm.method? m = some meth) (h3 : meth.code = some c) (h4 : c.code = bytes)
    (h5 : (c.maxLocals == mx && c.exceptionTable.isEmpty && decide (c.maxStack ≤ mostOperands) && decide (meth.sig.returnType = rt) && !meth.locks && decide (parseMethodDescriptor y.desc = some meth.sig)) = true) : (Jvm.Cond.code y bytes mx rt).before a s = true := by
  simp only [Bool.and_eq_true, beq_iff_eq, Bool.not_eq_true', decide_eq_true_eq] at h5
  obtain ⟨⟨⟨⟨⟨g1, g2⟩, g3⟩, g4⟩, g5⟩, g6⟩ := h5
  simp [Cond.before, Cond.holds, Cond.value, h1, h2, h3, h4, g1, g2, g3, g4, g5, g6]
def isCode : Jvm.Cond → Bool
  | .code _ _ _ _ => true
  | _ => false
theorem all_split {L : List Jvm.Cond} {P : Jvm.Cond → Bool} (h1 : L.all (fun c => isCode c || P c) = true) (h2 : ∀ c ∈ L.filter isCode, P c = true) : L.all P = true := by
  refine List.all_eq_true.mpr fun c hc => ?_
  have h := List.all_eq_true.mp h1 c hc
  rcases Bool.eq_false_or_eq_true (isCode c) with hi | hi
  · exact h2 c (List.mem_filter.mpr ⟨hc, hi⟩)
  · simpa [hi] using h
set_option maxRecDepth 65536 in
theorem w_c0 : (Jvm.Cond.code x code maxLocals ret).before args0 about1 = true := code_word (m := ⟨1, 1⟩) (meth := k1m1) (c := k1c1) (by decide +kernel) rfl rfl rfl (by decide +kernel)
set_option maxRecDepth 65536 in
theorem w_c1 : (Jvm.Cond.code ({ cls := "com/example/checkoff_codex/checkoffcodex/io/ValueTextDigitsPinLaw", name := "text", desc := "(ICCCCC)Ljava/lang/String;" } : Jvm.MethodName) method_4_code (6 : Nat) (Option.some (Jvm.ClassFile.FieldType.object "java/lang/String"))).before args0 about1 = true := code_word (m := ⟨1, 3⟩) (meth := k1m3) (c := k1c3) (by decide +kernel) rfl rfl rfl (by decide +kernel)
set_option maxRecDepth 65536 in
theorem w_c2 : (Jvm.Cond.code ({ cls := "java/lang/String", name := "<init>", desc := "([C)V" } : Jvm.MethodName) jdk_42_method_3_code (2 : Nat) (Option.none : Option Jvm.ClassFile.FieldType)).before args0 about1 = true := code_word (m := ⟨7, 1⟩) (meth := k7m1) (c := k7c1) (by decide +kernel) rfl rfl rfl (by decide +kernel)
set_option maxRecDepth 65536 in
theorem w_c3 : (Jvm.Cond.code ({ cls := "java/lang/String", name := "<init>", desc := "([CIILjava/lang/Void;)V" } : Jvm.MethodName) jdk_42_method_149_code (6 : Nat) (Option.none : Option Jvm.ClassFile.FieldType)).before args0 about1 = true := code_word (m := ⟨7, 4⟩) (meth := k7m4) (c := k7c4) (by decide +kernel) rfl rfl rfl (by decide +kernel)
set_option maxRecDepth 65536 in
theorem w_c4 : (Jvm.Cond.code ({ cls := "java/lang/Object", name := "<init>", desc := "()V" } : Jvm.MethodName) object_method_1_code (1 : Nat) (Option.none : Option Jvm.ClassFile.FieldType)).before args0 about1 = true := code_word (m := ⟨0, 0⟩) (meth := k0m0) (c := k0c0) (by decide +kernel) rfl rfl rfl (by decide +kernel)
set_option maxRecDepth 65536 in
theorem w_c5 : (Jvm.Cond.code ({ cls := "com/example/checkoff_codex/checkoffcodex/io/ValueText", name := "digits", desc := "(Ljava/lang/String;)I" } : Jvm.MethodName) prog_35_method_6_code (3 : Nat) (Option.some Jvm.ClassFile.FieldType.int)).before args0 about1 = true := code_word (m := ⟨8, 1⟩) (meth := k8m1) (c := k8c1) (by decide +kernel) rfl rfl rfl (by decide +kernel)
set_option maxRecDepth 65536 in
theorem w_c6 : (Jvm.Cond.code ({ cls := "java/lang/String", name := "length", desc := "()I" } : Jvm.MethodName) jdk_42_method_54_code (1 : Nat) (Option.some Jvm.ClassFile.FieldType.int)).before args0 about1 = true := code_word (m := ⟨7, 2⟩) (meth := k7m2) (c := k7c2) (by decide +kernel) rfl rfl rfl (by decide +kernel)
set_option maxRecDepth 65536 in
theorem w_c7 : (Jvm.Cond.code ({ cls := "java/lang/String", name := "coder", desc := "()B" } : Jvm.MethodName) jdk_42_method_152_code (1 : Nat) (Option.some Jvm.ClassFile.FieldType.byte)).before args0 about1 = true := code_word (m := ⟨7, 5⟩) (meth := k7m5) (c := k7c5) (by decide +kernel) rfl rfl rfl (by decide +kernel)
set_option maxRecDepth 65536 in
theorem w_c8 : (Jvm.Cond.code ({ cls := "java/lang/StringUTF16", name := "compress", desc := "([CII)[B" } : Jvm.MethodName) jdk_52_method_16_code (6 : Nat) (Option.some (Jvm.ClassFile.FieldType.array Jvm.ClassFile.FieldType.byte))).before args0 about1 = true := code_word (m := ⟨9, 8⟩) (meth := k9m8) (c := k9c8) (by decide +kernel) rfl rfl rfl (by decide +kernel)
set_option maxRecDepth 65536 in
theorem w_c9 : (Jvm.Cond.code ({ cls := "java/lang/StringUTF16", name := "compress", desc := "([CI[BII)I" } : Jvm.MethodName) jdk_52_method_21_code (7 : Nat) (Option.some Jvm.ClassFile.FieldType.int)).before args0 about1 = true := code_word (m := ⟨9, 9⟩) (meth := k9m9) (c := k9c9) (by decide +kernel) rfl rfl rfl (by decide +kernel)
set_option maxRecDepth 65536 in
theorem w_c10 : (Jvm.Cond.code ({ cls := "java/lang/StringUTF16", name := "coderFromArrayLen", desc := "([BI)B" } : Jvm.MethodName) jdk_52_method_15_code (2 : Nat) (Option.some Jvm.ClassFile.FieldType.byte)).before args0 about1 = true := code_word (m := ⟨9, 7⟩) (meth := k9m7) (c := k9c7) (by decide +kernel) rfl rfl rfl (by decide +kernel)
set_option maxRecDepth 65536 in
theorem w_c11 : (Jvm.Cond.code ({ cls := "com/example/checkoff_codex/checkoffcodex/io/ValueTextDigitsPinLaw", name := "ascii", desc := "(C)Z" } : Jvm.MethodName) method_3_code (1 : Nat) (Option.some Jvm.ClassFile.FieldType.boolean)).before args0 about1 = true := code_word (m := ⟨1, 2⟩) (meth := k1m2) (c := k1c2) (by decide +kernel) rfl rfl rfl (by decide +kernel)
set_option maxRecDepth 65536 in
theorem w_c12 : (Jvm.Cond.code ({ cls := "java/lang/String", name := "charAt", desc := "(I)C" } : Jvm.MethodName) jdk_42_method_56_code (2 : Nat) (Option.some Jvm.ClassFile.FieldType.char)).before args0 about1 = true := code_word (m := ⟨7, 3⟩) (meth := k7m3) (c := k7c3) (by decide +kernel) rfl rfl rfl (by decide +kernel)
set_option maxRecDepth 65536 in
theorem w_c13 : (Jvm.Cond.code ({ cls := "java/lang/String", name := "isLatin1", desc := "()Z" } : Jvm.MethodName) jdk_42_method_154_code (1 : Nat) (Option.some Jvm.ClassFile.FieldType.boolean)).before args0 about1 = true := code_word (m := ⟨7, 6⟩) (meth := k7m6) (c := k7c6) (by decide +kernel) rfl rfl rfl (by decide +kernel)
set_option maxRecDepth 65536 in
theorem w_c14 : (Jvm.Cond.code ({ cls := "java/lang/StringLatin1", name := "charAt", desc := "([BI)C" } : Jvm.MethodName) jdk_43_method_2_code (2 : Nat) (Option.some Jvm.ClassFile.FieldType.char)).before args0 about1 = true := code_word (m := ⟨10, 1⟩) (meth := k10m1) (c := k10c1) (by decide +kernel) rfl rfl rfl (by decide +kernel)
set_option maxRecDepth 65536 in
theorem w_c15 : (Jvm.Cond.code ({ cls := "java/lang/String", name := "checkIndex", desc := "(II)V" } : Jvm.MethodName) jdk_42_method_155_code (2 : Nat) (Option.none : Option Jvm.ClassFile.FieldType)).before args0 about1 = true := code_word (m := ⟨7, 7⟩) (meth := k7m7) (c := k7c7) (by decide +kernel) rfl rfl rfl (by decide +kernel)
set_option maxRecDepth 65536 in
theorem w_c16 : (Jvm.Cond.code ({ cls := "jdk/internal/util/Preconditions", name := "checkIndex", desc := "(IILjava/util/function/BiFunction;)I" } : Jvm.MethodName) jdk_41_method_11_code (3 : Nat) (Option.some Jvm.ClassFile.FieldType.int)).before args0 about1 = true := code_word (m := ⟨11, 1⟩) (meth := k11m1) (c := k11c1) (by decide +kernel) rfl rfl rfl (by decide +kernel)
set_option maxRecDepth 65536 in
theorem w_c17 : (Jvm.Cond.code ({ cls := "com/example/checkoff_codex/checkoffcodex/io/ValueText", name := "isDigit", desc := "(C)Z" } : Jvm.MethodName) prog_35_method_10_code (1 : Nat) (Option.some Jvm.ClassFile.FieldType.boolean)).before args0 about1 = true := code_word (m := ⟨8, 2⟩) (meth := k8m2) (c := k8c2) (by decide +kernel) rfl rfl rfl (by decide +kernel)
set_option maxRecDepth 65536 in
theorem w_c18 : (Jvm.Cond.code ({ cls := "java/lang/StringUTF16", name := "toBytes", desc := "([CII)[B" } : Jvm.MethodName) jdk_52_method_14_code (5 : Nat) (Option.some (Jvm.ClassFile.FieldType.array Jvm.ClassFile.FieldType.byte))).before args0 about1 = true := code_word (m := ⟨9, 6⟩) (meth := k9m6) (c := k9c6) (by decide +kernel) rfl rfl rfl (by decide +kernel)
set_option maxRecDepth 65536 in
theorem w_c19 : (Jvm.Cond.code ({ cls := "java/lang/StringUTF16", name := "newBytesFor", desc := "(I)[B" } : Jvm.MethodName) jdk_52_method_2_code (1 : Nat) (Option.some (Jvm.ClassFile.FieldType.array Jvm.ClassFile.FieldType.byte))).before args0 about1 = true := code_word (m := ⟨9, 1⟩) (meth := k9m1) (c := k9c1) (by decide +kernel) rfl rfl rfl (by decide +kernel)
set_option maxRecDepth 65536 in
theorem w_c20 : (Jvm.Cond.code ({ cls := "java/lang/StringUTF16", name := "newBytesLength", desc := "(I)I" } : Jvm.MethodName) jdk_52_method_3_code (1 : Nat) (Option.some Jvm.ClassFile.FieldType.int)).before args0 about1 = true := code_word (m := ⟨9, 2⟩) (meth := k9m2) (c := k9c2) (by decide +kernel) rfl rfl rfl (by decide +kernel)
set_option maxRecDepth 65536 in
theorem w_c21 : (Jvm.Cond.code ({ cls := "java/lang/StringUTF16", name := "putChar", desc := "([BII)V" } : Jvm.MethodName) jdk_52_method_4_code (3 : Nat) (Option.none : Option Jvm.ClassFile.FieldType)).before args0 about1 = true := code_word (m := ⟨9, 3⟩) (meth := k9m3) (c := k9c3) (by decide +kernel) rfl rfl rfl (by decide +kernel)
set_option maxRecDepth 65536 in
theorem w_c22 : (Jvm.Cond.code ({ cls := "java/lang/StringUTF16", name := "getChar", desc := "([BI)C" } : Jvm.MethodName) jdk_52_method_5_code (2 : Nat) (Option.some Jvm.ClassFile.FieldType.char)).before args0 about1 = true := code_word (m := ⟨9, 4⟩) (meth := k9m4) (c := k9c4) (by decide +kernel) rfl rfl rfl (by decide +kernel)
set_option maxRecDepth 65536 in
theorem w_c23 : (Jvm.Cond.code ({ cls := "java/lang/StringUTF16", name := "charAt", desc := "([BI)C" } : Jvm.MethodName) jdk_52_method_83_code (2 : Nat) (Option.some Jvm.ClassFile.FieldType.char)).before args0 about1 = true := code_word (m := ⟨9, 10⟩) (meth := k9m10) (c := k9c10) (by decide +kernel) rfl rfl rfl (by decide +kernel)
set_option maxRecDepth 65536 in
theorem w_c24 : (Jvm.Cond.code ({ cls := "java/lang/StringUTF16", name := "checkIndex", desc := "(I[B)V" } : Jvm.MethodName) jdk_52_method_91_code (2 : Nat) (Option.none : Option Jvm.ClassFile.FieldType)).before args0 about1 = true := code_word (m := ⟨9, 11⟩) (meth := k9m11) (c := k9c11) (by decide +kernel) rfl rfl rfl (by decide +kernel)
set_option maxRecDepth 65536 in
theorem w_c25 : (Jvm.Cond.code ({ cls := "java/lang/StringUTF16", name := "length", desc := "([B)I" } : Jvm.MethodName) jdk_52_method_6_code (1 : Nat) (Option.some Jvm.ClassFile.FieldType.int)).before args0 about1 = true := code_word (m := ⟨9, 5⟩) (meth := k9m5) (c := k9c5) (by decide +kernel) rfl rfl rfl (by decide +kernel)
def codes1 : List Jvm.Cond := [Jvm.Cond.code x code maxLocals ret, Jvm.Cond.code ({ cls := "com/example/checkoff_codex/checkoffcodex/io/ValueTextDigitsPinLaw", name := "text", desc := "(ICCCCC)Ljava/lang/String;" } : Jvm.MethodName) method_4_code (6 : Nat) (Option.some (Jvm.ClassFile.FieldType.object "java/lang/String")), Jvm.Cond.code ({ cls := "java/lang/String", name := "<init>", desc := "([C)V" } : Jvm.MethodName) jdk_42_method_3_code (2 : Nat) (Option.none : Option Jvm.ClassFile.FieldType), Jvm.Cond.code ({ cls := "java/lang/String", name := "<init>", desc := "([CIILjava/lang/Void;)V" } : Jvm.MethodName) jdk_42_method_149_code (6 : Nat) (Option.none : Option Jvm.ClassFile.FieldType), Jvm.Cond.code ({ cls := "java/lang/Object", name := "<init>", desc := "()V" } : Jvm.MethodName) object_method_1_code (1 : Nat) (Option.none : Option Jvm.ClassFile.FieldType), Jvm.Cond.code ({ cls := "com/example/checkoff_codex/checkoffcodex/io/ValueText", name := "digits", desc := "(Ljava/lang/String;)I" } : Jvm.MethodName) prog_35_method_6_code (3 : Nat) (Option.some Jvm.ClassFile.FieldType.int), Jvm.Cond.code ({ cls := "java/lang/String", name := "length", desc := "()I" } : Jvm.MethodName) jdk_42_method_54_code (1 : Nat) (Option.some Jvm.ClassFile.FieldType.int), Jvm.Cond.code ({ cls := "java/lang/String", name := "coder", desc := "()B" } : Jvm.MethodName) jdk_42_method_152_code (1 : Nat) (Option.some Jvm.ClassFile.FieldType.byte), Jvm.Cond.code ({ cls := "java/lang/StringUTF16", name := "compress", desc := "([CII)[B" } : Jvm.MethodName) jdk_52_method_16_code (6 : Nat) (Option.some (Jvm.ClassFile.FieldType.array Jvm.ClassFile.FieldType.byte)), Jvm.Cond.code ({ cls := "java/lang/StringUTF16", name := "compress", desc := "([CI[BII)I" } : Jvm.MethodName) jdk_52_method_21_code (7 : Nat) (Option.some Jvm.ClassFile.FieldType.int), Jvm.Cond.code ({ cls := "java/lang/StringUTF16", name := "coderFromArrayLen", desc := "([BI)B" } : Jvm.MethodName) jdk_52_method_15_code (2 : Nat) (Option.some Jvm.ClassFile.FieldType.byte), Jvm.Cond.code ({ cls := "com/example/checkoff_codex/checkoffcodex/io/ValueTextDigitsPinLaw", name := "ascii", desc := "(C)Z" } : Jvm.MethodName) method_3_code (1 : Nat) (Option.some Jvm.ClassFile.FieldType.boolean), Jvm.Cond.code ({ cls := "java/lang/String", name := "charAt", desc := "(I)C" } : Jvm.MethodName) jdk_42_method_56_code (2 : Nat) (Option.some Jvm.ClassFile.FieldType.char), Jvm.Cond.code ({ cls := "java/lang/String", name := "isLatin1", desc := "()Z" } : Jvm.MethodName) jdk_42_method_154_code (1 : Nat) (Option.some Jvm.ClassFile.FieldType.boolean), Jvm.Cond.code ({ cls := "java/lang/StringLatin1", name := "charAt", desc := "([BI)C" } : Jvm.MethodName) jdk_43_method_2_code (2 : Nat) (Option.some Jvm.ClassFile.FieldType.char), Jvm.Cond.code ({ cls := "java/lang/String", name := "checkIndex", desc := "(II)V" } : Jvm.MethodName) jdk_42_method_155_code (2 : Nat) (Option.none : Option Jvm.ClassFile.FieldType), Jvm.Cond.code ({ cls := "jdk/internal/util/Preconditions", name := "checkIndex", desc := "(IILjava/util/function/BiFunction;)I" } : Jvm.MethodName) jdk_41_method_11_code (3 : Nat) (Option.some Jvm.ClassFile.FieldType.int), Jvm.Cond.code ({ cls := "com/example/checkoff_codex/checkoffcodex/io/ValueText", name := "isDigit", desc := "(C)Z" } : Jvm.MethodName) prog_35_method_10_code (1 : Nat) (Option.some Jvm.ClassFile.FieldType.boolean), Jvm.Cond.code ({ cls := "java/lang/StringUTF16", name := "toBytes", desc := "([CII)[B" } : Jvm.MethodName) jdk_52_method_14_code (5 : Nat) (Option.some (Jvm.ClassFile.FieldType.array Jvm.ClassFile.FieldType.byte)), Jvm.Cond.code ({ cls := "java/lang/StringUTF16", name := "newBytesFor", desc := "(I)[B" } : Jvm.MethodName) jdk_52_method_2_code (1 : Nat) (Option.some (Jvm.ClassFile.FieldType.array Jvm.ClassFile.FieldType.byte)), Jvm.Cond.code ({ cls := "java/lang/StringUTF16", name := "newBytesLength", desc := "(I)I" } : Jvm.MethodName) jdk_52_method_3_code (1 : Nat) (Option.some Jvm.ClassFile.FieldType.int), Jvm.Cond.code ({ cls := "java/lang/StringUTF16", name := "putChar", desc := "([BII)V" } : Jvm.MethodName) jdk_52_method_4_code (3 : Nat) (Option.none : Option Jvm.ClassFile.FieldType), Jvm.Cond.code ({ cls := "java/lang/StringUTF16", name := "getChar", desc := "([BI)C" } : Jvm.MethodName) jdk_52_method_5_code (2 : Nat) (Option.some Jvm.ClassFile.FieldType.char), Jvm.Cond.code ({ cls := "java/lang/StringUTF16", name := "charAt", desc := "([BI)C" } : Jvm.MethodName) jdk_52_method_83_code (2 : Nat) (Option.some Jvm.ClassFile.FieldType.char), Jvm.Cond.code ({ cls := "java/lang/StringUTF16", name := "checkIndex", desc := "(I[B)V" } : Jvm.MethodName) jdk_52_method_91_code (2 : Nat) (Option.none : Option Jvm.ClassFile.FieldType), Jvm.Cond.code ({ cls := "java/lang/StringUTF16", name := "length", desc := "([B)I" } : Jvm.MethodName) jdk_52_method_6_code (1 : Nat) (Option.some Jvm.ClassFile.FieldType.int)]
set_option maxRecDepth 65536 in
theorem codes_eq : words1.filter isCode = codes1 := rfl
theorem w_codes : ∀ c ∈ words1.filter isCode, c.before args0 about1 = true := by
  rw [codes_eq]
  intro c hc
  simp only [codes1, List.mem_cons, List.not_mem_nil, or_false] at hc
  rcases hc with rfl | rfl | rfl | rfl | rfl | rfl | rfl | rfl | rfl | rfl | rfl | rfl | rfl | rfl | rfl | rfl | rfl | rfl | rfl | rfl | rfl | rfl | rfl | rfl | rfl | rfl
  · exact w_c0
  · exact w_c1
  · exact w_c2
  · exact w_c3
  · exact w_c4
  · exact w_c5
  · exact w_c6
  · exact w_c7
  · exact w_c8
  · exact w_c9
  · exact w_c10
  · exact w_c11
  · exact w_c12
  · exact w_c13
  · exact w_c14
  · exact w_c15
  · exact w_c16
  · exact w_c17
  · exact w_c18
  · exact w_c19
  · exact w_c20
  · exact w_c21
  · exact w_c22
  · exact w_c23
  · exact w_c24
  · exact w_c25
set_option maxRecDepth 65536 in
theorem w_t1 : (words1.take 24).all (fun c => isCode c || c.before args0 about1) = true := by decide +kernel
set_option maxRecDepth 65536 in
theorem w_t2 : ((words1.drop 24).take 24).all (fun c => isCode c || c.before args0 about1) = true := by decide +kernel
set_option maxRecDepth 65536 in
theorem w_t3 : (((words1.drop 24).drop 24).take 24).all (fun c => isCode c || c.before args0 about1) = true := by decide +kernel
set_option maxRecDepth 65536 in
theorem w_t4 : ((((words1.drop 24).drop 24).drop 24).take 24).all (fun c => isCode c || c.before args0 about1) = true := by decide +kernel
set_option maxRecDepth 65536 in
theorem w_t5 : ((((words1.drop 24).drop 24).drop 24).drop 24).all (fun c => isCode c || c.before args0 about1) = true := by decide +kernel
theorem w_tables : (allAtoms (Jvm.Cond.code x code maxLocals ret :: tables_1)).before args0 about1 = true := by
  rw [allAtoms_all]
  show words1.all (fun c => c.before args0 about1) = true
  refine all_split ?_ w_codes
  rw [← List.take_append_drop 24 words1, List.all_append, w_t1, ← List.take_append_drop 24 (words1.drop 24), List.all_append, w_t2, ← List.take_append_drop 24 ((words1.drop 24).drop 24), List.all_append, w_t3, ← List.take_append_drop 24 (((words1.drop 24).drop 24).drop 24), List.all_append, w_t4, w_t5]
  rfl
set_option maxRecDepth 65536 in
theorem w_rest : rest_1_c.before args0 about1 = true := by decide +kernel
set_option maxRecDepth 65536 in
theorem w_case : (Jvm.Cond.and given_1 narrow_1).before args0 about1 = true := by decide +kernel
set_option maxRecDepth 65536 in
theorem w_consts : constsHeld consts_1 about1 := Jvm.Lit.constsHeldB_iff.mp (by decide +kernel)
theorem w_applies : (headSpec (Jvm.Cond.code x code maxLocals ret :: tables_1) room_1).applies x e0.platform about1 = true :=
  (Spec.applies_iff w_frames).mpr ⟨w_running, w_runnable, w_alone, w_named, w_hears, w_ripe, w_room, w_tables⟩
theorem atStart : AtStart classFile x code maxLocals ret World_1 tables_1 room_1 Calls_1 rest_1 Pre_1 launch0 p0 e0 about1 theMethod args0 below0 :=
  ⟨lists_1, trivial, launch0.admits_env _ _ _, launch0.least_env, fairChoices_fair.cas, fairChoices_fair.clock, w_frames, w_args, w_heap, w_applies, ⟨w_consts, trivial⟩, w_rest, w_case⟩
end start1
theorem witness_1 : WitnessClaimed_1 := ⟨start1.p0, start1.e0, start1.about1, start1.theMethod, start1.args0, start1.below0, start1.atStart⟩
end Jvm.Pilot.@@N@@
