import JvmDerived
import JvmDerived.Pilot.@@N@@Statement
import JvmDerived.Pilot.@@N@@Code
set_option linter.unusedVariables false
set_option linter.unusedSimpArgs false
namespace Jvm.Pilot.@@N@@
open Jvm Jvm.ClassFile Sem Op Lib Jvm.Free Jvm.Free.Fl Jvm.Stand Jvm.LawKit Jvm.RoadKit Bundle Jvm.Pilot.@@N@@.Jvm.D
def own_Go (tb : Tables) (e : Env) (below : List Frame) (P : State → Outcome → Prop) (S : State) : Prop := ∃ t o, Steps tb e below S t ∧ P t o
section OwnGo
variable {tb : Tables} {e : Env} {below : List Frame} {P : State → Outcome → Prop} {S S' : State}
theorem own_up (st : ∀ t, Steps tb e below S' t → Steps tb e below S t) (h : own_Go tb e below P S') : own_Go tb e below P S := by
  obtain ⟨t, o, h1, h2⟩ := h
  exact ⟨t, o, st t h1, h2⟩
theorem own_start (st : ∀ t, Steps tb e below S' t → Steps tb e below S t) (h : own_Go tb e below P S') : ∃ t o, Steps tb e below S t ∧ P t o := own_up st h
theorem own_end (h : ∃ t o, Steps tb e below S t ∧ P t o) : own_Go tb e below P S := h
end OwnGo
theorem own_eqi {args : Array Value} {first s : State} {o : Option Outcome} {idx : List Nat} {a : Term} {n : Int32} (h : (Jvm.Cond.eq a (Term.int n)).value args first o s idx = some true) : a.eval args first o idx s = some (.int n) := by
  obtain ⟨x, y, h1, h2, k1, k2⟩ := cmp_v (Or.inl h)
  have hb : (Term.int n).eval args first o idx s = some (.int n) := Term.int_eval n
  obtain rfl : y = .int n := Option.some.inj (h2.symm.trans hb)
  cases x with
  | int x =>
    have q := gotT (Cond.eq_ints h1 hb) h
    rw [h1, q]
  | _ => simp [Kin] at k1 k2
def own_Arf (Z : State) (h : Heap) (a : Addr) (ty : FieldType) (n : Int32) (f : Nat → Value) : Prop := ∃ c : Cell, Arr Z h a c ty ∧ c.slots.size = n.toNatClampNeg ∧ ¬ n < 0 ∧ ∀ i, i < c.slots.size → c.slots[i]? = some (f i)
section OwnArf
variable {p : Program} {l : Launch} {e : Env} {R : Room} {s : State} {m : MethodId} {args : Array Value} {below : List Frame} {meth : Method} {c : Code} {T : State} {locs : List Loc} {cells slots : Nat} {Z : State} {h h' : Heap} {a b : Addr} {ty : FieldType} {n j : Int32} {f : Nat → Value} {v : Value} {sl : Nat} {ws : List Addr}
theorem own_Arf.lt (F : own_Arf Z h a ty n f) : a < h.size := by obtain ⟨c, A, -⟩ := F; exact A.lt
theorem own_Arf.nn (F : own_Arf Z h a ty n f) : ¬ n < 0 := by obtain ⟨c, A, -, q, -⟩ := F; exact q
theorem own_Arf.ext (F : own_Arf Z h a ty n f) (E : Ext h h') : own_Arf Z h' a ty n f := by obtain ⟨c, A, r⟩ := F; exact ⟨c, A.ext E, r⟩
theorem own_Arf.other (F : own_Arf Z h b ty n f) (W : Wr h h' a sl v) (q : b ≠ a) : own_Arf Z h' b ty n f := by obtain ⟨c, A, r⟩ := F; exact ⟨c, A.other W q, r⟩
theorem own_Arf.keep (F : own_Arf Z h a ty n f) (K : Keep h h' ws) (q : a ∉ ws) : own_Arf Z h' a ty n f := by obtain ⟨c, A, r⟩ := F; exact ⟨c, ⟨K.2.1 a c A.1 q, A.2⟩, r⟩
theorem own_Arf.new {k : ClassId} (A : Arr Z h a (newA k ty n) ty) (q : ¬ n < 0) : own_Arf Z h a ty n (fun _ => defaultValue ty) :=
  ⟨_, A, sz_new _ _ _, q, fun i hi => by rw [sz_new] at hi; simp [newA, hi]⟩
theorem own_Arf.ofArv {k : ClassId} {vs : List Value} {d : Value} (F : Arv Z h a k ty n vs d) : own_Arf Z h a ty n (fun i => vs.getD i d) := by
  obtain ⟨c, A, -, S, q, H, -⟩ := F
  exact ⟨c, A, S, q, fun i hi => H i hi⟩
theorem own_Arf.congr {f' : Nat → Value} (F : own_Arf Z h a ty n f) (q : ∀ i, i < n.toNatClampNeg → f i = f' i) : own_Arf Z h a ty n f' := by
  obtain ⟨c, A, S, q1, H⟩ := F
  exact ⟨c, A, S, q1, fun i hi => by rw [H i hi, q i (S ▸ hi)]⟩
theorem own_Arf.set (F : own_Arf Z h a ty n f) (W : Wr h h' a j.toNatClampNeg v) : own_Arf Z h' a ty n (fun i => if i = j.toNatClampNeg then v else f i) := by
  obtain ⟨c, A, S, q, H⟩ := F
  refine ⟨_, A.same W, by rw [sz_set]; exact S, q, fun x hx => ?_⟩
  rw [sz_set] at hx
  by_cases u : x = j.toNatClampNeg
  · subst u; simp [Cell.setSlot, hx]
  · show _ = some (if x = j.toNatClampNeg then v else f x)
    rw [if_neg u]
    have := H x hx
    simp only [Cell.setSlot]
    rw [Array.getElem?_setIfInBounds_ne (Ne.symm u)]
    exact this
def own_upd {α : Type} (u : Nat → α) (j : Int32) (x : α) : Nat → α := fun i => if i = j.toNatClampNeg then x else u i
theorem own_Arf.setD {u : Nat → UInt64} {x : UInt64} (F : own_Arf Z h a .double n (fun i => .double (u i))) (W : Wr h h' a j.toNatClampNeg (.double x)) : own_Arf Z h' a .double n (fun i => .double (own_upd u j x i)) :=
  (own_Arf.set F W).congr fun i _ => by unfold own_upd; split <;> rfl
theorem own_Arf.setI {u : Nat → Int32} {x : Int32} (F : own_Arf Z h a ty n (fun i => .int (u i))) (W : Wr h h' a j.toNatClampNeg (.int x)) : own_Arf Z h' a ty n (fun i => .int (own_upd u j x i)) :=
  (own_Arf.set F W).congr fun i _ => by unfold own_upd; split <;> rfl
theorem own_Arf.setJ {u : Nat → Int64} {x : Int64} (F : own_Arf Z h a .long n (fun i => .long (u i))) (W : Wr h h' a j.toNatClampNeg (.long x)) : own_Arf Z h' a .long n (fun i => .long (own_upd u j x i)) :=
  (own_Arf.set F W).congr fun i _ => by unfold own_upd; split <;> rfl
theorem own_Arf.daload (F : own_Arf Z h a .double n f) (X : Stand p l e R s m args below meth c T locs cells slots) (hx : p.tables.exec = Jvm.exec) (hZ : Z.Warmed39 s.vm) (eT : T.heap = h) (hj : ¬ j < 0) (hn : j < n) (hv : f j.toNatClampNeg = v) {g : JFrame} (hg : g.method = m) {rest : List Value} (hs : g.stack = .int j :: .ref a :: rest) (hd : decode c.code g.pc = .ok (.daload, 1)) (target : State) (hr : Steps p.tables e below (T.setTop { g with pc := g.pc + 1, stack := v :: rest }) target) : Steps p.tables e below (T.setTop g) target := by
  obtain ⟨cl, A, S, q, H⟩ := F
  have hin := inb_of S ⟨hj, hn⟩
  exact X.daload hx (by rw [eT]; exact A.1) (State.isArrayOf_alike hZ.alike A.2.1) A.2.2 hin (by rw [H _ (Nat.lt_of_not_le fun y => hin (Or.inr y)), hv]) hg hs hd target hr
theorem own_Arf.iaload (F : own_Arf Z h a .int n f) (X : Stand p l e R s m args below meth c T locs cells slots) (hx : p.tables.exec = Jvm.exec) (hZ : Z.Warmed39 s.vm) (eT : T.heap = h) (hj : ¬ j < 0) (hn : j < n) (hv : f j.toNatClampNeg = v) {g : JFrame} (hg : g.method = m) {rest : List Value} (hs : g.stack = .int j :: .ref a :: rest) (hd : decode c.code g.pc = .ok (.iaload, 1)) (target : State) (hr : Steps p.tables e below (T.setTop { g with pc := g.pc + 1, stack := v :: rest }) target) : Steps p.tables e below (T.setTop g) target := by
  obtain ⟨cl, A, S, q, H⟩ := F
  have hin := inb_of S ⟨hj, hn⟩
  exact X.iaload hx (by rw [eT]; exact A.1) (State.isArrayOf_alike hZ.alike A.2.1) A.2.2 hin (by rw [H _ (Nat.lt_of_not_le fun y => hin (Or.inr y)), hv]) hg hs hd target hr
theorem own_Arf.laload (F : own_Arf Z h a .long n f) (X : Stand p l e R s m args below meth c T locs cells slots) (hx : p.tables.exec = Jvm.exec) (hZ : Z.Warmed39 s.vm) (eT : T.heap = h) (hj : ¬ j < 0) (hn : j < n) (hv : f j.toNatClampNeg = v) {g : JFrame} (hg : g.method = m) {rest : List Value} (hs : g.stack = .int j :: .ref a :: rest) (hd : decode c.code g.pc = .ok (.laload, 1)) (target : State) (hr : Steps p.tables e below (T.setTop { g with pc := g.pc + 1, stack := v :: rest }) target) : Steps p.tables e below (T.setTop g) target := by
  obtain ⟨cl, A, S, q, H⟩ := F
  have hin := inb_of S ⟨hj, hn⟩
  exact X.laload hx (by rw [eT]; exact A.1) (State.isArrayOf_alike hZ.alike A.2.1) A.2.2 hin (by rw [H _ (Nat.lt_of_not_le fun y => hin (Or.inr y)), hv]) hg hs hd target hr
theorem own_Arf.aaload (F : own_Arf Z h a ty n f) (hty : ty.isReference = true) (X : Stand p l e R s m args below meth c T locs cells slots) (hx : p.tables.exec = Jvm.exec) (hZ : Z.Warmed39 s.vm) (eT : T.heap = h) (hj : ¬ j < 0) (hn : j < n) (hv : f j.toNatClampNeg = v) {g : JFrame} (hg : g.method = m) {rest : List Value} (hs : g.stack = .int j :: .ref a :: rest) (hd : decode c.code g.pc = .ok (.aaload, 1)) (target : State) (hr : Steps p.tables e below (T.setTop { g with pc := g.pc + 1, stack := v :: rest }) target) : Steps p.tables e below (T.setTop g) target := by
  obtain ⟨cl, A, S, q, H⟩ := F
  have hin := inb_of S ⟨hj, hn⟩
  exact X.aaload hx (by rw [eT]; exact A.1) (State.isArrayOf_alike hZ.alike A.2.1) hty A.2.2 hin (by rw [H _ (Nat.lt_of_not_le fun y => hin (Or.inr y)), hv]) hg hs hd target hr
theorem own_Arf.alen (F : own_Arf Z h a ty n f) (X : Stand p l e R s m args below meth c T locs cells slots) (hx : p.tables.exec = Jvm.exec) (hZ : Z.Warmed39 s.vm) (eT : T.heap = h) {g : JFrame} (hg : g.method = m) {rest : List Value} (hs : g.stack = .ref a :: rest) (hd : decode c.code g.pc = .ok (.arraylength, 1)) (target : State) (hr : Steps p.tables e below (T.setTop { g with pc := g.pc + 1, stack := .int n :: rest }) target) : Steps p.tables e below (T.setTop g) target := by
  obtain ⟨cl, A, S, q, H⟩ := F
  refine X.arraylength hx (by rw [eT]; exact A.1) (State.isArrayOf_alike hZ.alike A.2.1) hg hs hd target ?_
  rw [len_of S q]
  exact hr
end OwnArf
section OwnSum
open Jvm.FP.Core
def own_l48 : List UInt64 := [4607182418800017408, 4611686018427387904, 4613937818241073152, 4616189618054758400, 4617315517961601024, 4618441417868443648, 4619567317775286272, 4620693217682128896, 4621256167635550208, 4621819117588971520, 4622382067542392832, 4622945017495814144, 4623507967449235456, 4624070917402656768, 4624633867356078080, 4625196817309499392, 4625478292286210048, 4625759767262920704, 4626041242239631360, 4626322717216342016, 4626604192193052672, 4626885667169763328, 4627167142146473984, 4627448617123184640, 4627730092099895296, 4628011567076605952, 4628293042053316608, 4628574517030027264, 4628855992006737920, 4629137466983448576, 4629418941960159232, 4629700416936869888, 4629841154425225216, 4629981891913580544, 4630122629401935872, 4630263366890291200, 4630404104378646528, 4630544841867001856, 4630685579355357184, 4630826316843712512, 4630967054332067840, 4631107791820423168, 4631248529308778496, 4631389266797133824, 4631530004285489152, 4631670741773844480, 4631811479262199808, 4631952216750555136]
def own_l60 : List UInt64 := [4636737291354636288, 4636807660098813952, 4636878028842991616, 4636948397587169280, 4637018766331346944, 4637089135075524608, 4637159503819702272, 4637229872563879936, 4637300241308057600, 4637370610052235264, 4637440978796412928, 4637511347540590592, 4637581716284768256, 4637652085028945920, 4637722453773123584, 4637792822517301248, 4637863191261478912, 4637933560005656576, 4638003928749834240, 4638074297494011904, 4638144666238189568, 4638215034982367232, 4638285403726544896, 4638355772470722560, 4638426141214900224, 4638496509959077888, 4638566878703255552, 4638637247447433216, 4638707616191610880, 4638742800563699712, 4638777984935788544, 4638813169307877376, 4638848353679966208, 4638883538052055040, 4638918722424143872, 4638953906796232704, 4638989091168321536, 4639024275540410368, 4639059459912499200, 4639094644284588032, 4639129828656676864, 4639165013028765696, 4639200197400854528, 4639235381772943360, 4639270566145032192, 4639305750517121024, 4639340934889209856, 4639376119261298688, 4639411303633387520, 4639446488005476352, 4639481672377565184, 4639516856749654016, 4639552041121742848, 4639587225493831680, 4639622409865920512, 4639657594238009344, 4639692778610098176, 4639727962982187008, 4639763147354275840, 4639798331726364672]
def own_la (k : Nat) : List Value := ((own_l48.take k) ++ List.replicate (48 - k) (0 : UInt64)).map Value.double
def own_lb (k : Nat) : List Value := ((own_l60.take k) ++ List.replicate (60 - k) (0 : UInt64)).map Value.double
def own_L (xs : List UInt64) : Nat → UInt64 := fun i => xs.getD i 0
theorem own_Lget (xs : List UInt64) (i : Nat) : (xs.map Value.double).getD i (.double (0 : UInt64)) = .double (own_L xs i) := by
  unfold own_L
  simp only [List.getD_eq_getElem?_getD, List.getElem?_map]
  cases xs[i]? <;> rfl
theorem own_la48 : own_la 48 = own_l48.map Value.double := rfl
theorem own_lb60 : own_lb 60 = own_l60.map Value.double := rfl
theorem own_e48 : ∀ i : Fin 48, own_L own_l48 i.1 = FP.i2d (Int32.ofNat (i.1 + 1)) := by decide +kernel
theorem own_e60 : ∀ i : Fin 60, own_L own_l60 i.1 = FP.i2d (Int32.ofNat (i.1 + 100)) := by decide +kernel
theorem own_d48 {i : Nat} (h : i < 48) : DInt ((i : Int) + 1) (own_L own_l48 i) := by
  rw [own_e48 ⟨i, h⟩]
  have := i2d_int (Int32.ofNat (i + 1))
  rw [Int32.toInt_ofNat_small (by omega)] at this
  exact this
theorem own_d60 {i : Nat} (h : i < 60) : DInt ((i : Int) + 100) (own_L own_l60 i) := by
  rw [own_e60 ⟨i, h⟩]
  have := i2d_int (Int32.ofNat (i + 100))
  rw [Int32.toInt_ofNat_small (by omega)] at this
  exact this
end OwnSum
section OwnSumRows
open Jvm.FP.Core
def own_T (ur : Nat → UInt64) (al be : UInt64) (ua ub : Nat → UInt64) (x y rs bq : Int32) : Nat → UInt64 :=
  own_upd (own_upd (own_upd (own_upd (own_upd (own_upd (own_upd (own_upd ur x (FP.dadd (FP.dmul al (ua x.toNatClampNeg)) (FP.dmul be (ub y.toNatClampNeg)))) (x + rs) (FP.dadd (FP.dmul al (ua (x + rs).toNatClampNeg)) (FP.dmul be (ub (y + bq).toNatClampNeg)))) (x + ((2 : Int32) * rs)) (FP.dadd (FP.dmul al (ua (x + ((2 : Int32) * rs)).toNatClampNeg)) (FP.dmul be (ub (y + ((2 : Int32) * bq)).toNatClampNeg)))) (x + ((3 : Int32) * rs)) (FP.dadd (FP.dmul al (ua (x + ((3 : Int32) * rs)).toNatClampNeg)) (FP.dmul be (ub (y + ((3 : Int32) * bq)).toNatClampNeg)))) (x + ((4 : Int32) * rs)) (FP.dadd (FP.dmul al (ua (x + ((4 : Int32) * rs)).toNatClampNeg)) (FP.dmul be (ub (y + ((4 : Int32) * bq)).toNatClampNeg)))) (x + ((5 : Int32) * rs)) (FP.dadd (FP.dmul al (ua (x + ((5 : Int32) * rs)).toNatClampNeg)) (FP.dmul be (ub (y + ((5 : Int32) * bq)).toNatClampNeg)))) (x + ((6 : Int32) * rs)) (FP.dadd (FP.dmul al (ua (x + ((6 : Int32) * rs)).toNatClampNeg)) (FP.dmul be (ub (y + ((6 : Int32) * bq)).toNatClampNeg)))) (x + ((7 : Int32) * rs)) (FP.dadd (FP.dmul al (ua (x + ((7 : Int32) * rs)).toNatClampNeg)) (FP.dmul be (ub (y + ((7 : Int32) * bq)).toNatClampNeg)))
def own_HB (cn rs ta bs bq tb : Int32) : Prop :=
  0 ≤ cn.toInt ∧ cn.toInt ≤ 3 ∧ (∃ M O : Int, (M = 3 ∨ M = 4 ∨ M = 5 ∨ M = 6) ∧ 0 ≤ O ∧ O ≤ 3 ∧ ((rs.toInt = M ∧ ta.toInt = O) ∨ (rs.toInt = -M ∧ ta.toInt = O + 7 * M))) ∧ (-3 ≤ bs.toInt ∧ bs.toInt ≤ 3) ∧ (-3 ≤ bq.toInt ∧ bq.toInt ≤ 3) ∧ (27 ≤ tb.toInt ∧ tb.toInt ≤ 30)
theorem own_rem4 {a b : Int32} (h : a % (4 : Int32) = b) : -3 ≤ b.toInt ∧ b.toInt ≤ 3 := by
  have h1 := c_irem a 4 4 (by decide)
  rw [h] at h1
  by_cases h0 : 0 ≤ a.toInt
  · have := h1.1 h0; omega
  · have := h1.2 (by omega); omega
theorem own_bund {p2 p3 p4 p5 cn ra ng t46 rs ta bs bq tb : Int32} (hcn : (p2 &&& (3 : Int32)) = cn) (hra : (3 : Int32) + (((p2.toUInt32 >>> ((2 : Int32) &&& 31).toUInt32).toInt32) &&& (3 : Int32)) = ra)
    (hrs : rs = if ng = (0 : Int32) then ra else (-ra)) (ht : t46 = if ng = (0 : Int32) then (0 : Int32) else ((7 : Int32) * ra)) (hta : t46 + (((p2.toUInt32 >>> ((5 : Int32) &&& 31).toUInt32).toInt32) &&& (3 : Int32)) = ta)
    (hbs : p3 % (4 : Int32) = bs) (hbq : p4 % (4 : Int32) = bq) (htb : (27 : Int32) + (p5 &&& (3 : Int32)) = tb) : own_HB cn rs ta bs bq tb := by
  have a1 := c_mask p2 3 2 (by decide) (by decide)
  have a2 := c_mask ((p2.toUInt32 >>> ((2 : Int32) &&& 31).toUInt32).toInt32) 3 2 (by decide) (by decide)
  have a3 := c_mask ((p2.toUInt32 >>> ((5 : Int32) &&& 31).toUInt32).toInt32) 3 2 (by decide) (by decide)
  have a4 := c_mask p5 3 2 (by decide) (by decide)
  have b2 := c_iadd 3 (((p2.toUInt32 >>> ((2 : Int32) &&& 31).toUInt32).toInt32) &&& (3 : Int32))
  have b3 := c_iadd t46 (((p2.toUInt32 >>> ((5 : Int32) &&& 31).toUInt32).toInt32) &&& (3 : Int32))
  have b4 := c_iadd 27 (p5 &&& (3 : Int32))
  rw [hcn] at a1
  rw [hra] at b2
  rw [hta] at b3
  rw [htb] at b4
  have l3 : (3 : Int32).toInt = 3 := by decide
  have l7 : (7 : Int32).toInt = 7 := by decide
  have l27 : (27 : Int32).toInt = 27 := by decide
  have l0 : (0 : Int32).toInt = 0 := by decide
  have r2 := rng32 ra
  have r3 := rng32 ta
  have r4 := rng32 tb
  have hM : ra.toInt = 3 ∨ ra.toInt = 4 ∨ ra.toInt = 5 ∨ ra.toInt = 6 := by omega
  refine ⟨by omega, by omega, ⟨ra.toInt, (((p2.toUInt32 >>> ((5 : Int32) &&& 31).toUInt32).toInt32) &&& (3 : Int32)).toInt, hM, by omega, by omega, ?_⟩, own_rem4 hbs, own_rem4 hbq, by omega⟩
  · by_cases hn : ng = (0 : Int32)
    · rw [if_pos hn] at hrs ht
      rw [ht, l0] at b3
      exact Or.inl ⟨by rw [hrs], by omega⟩
    · rw [if_neg hn] at hrs ht
      have c1 := c_ineg ra
      have c2 := c_imul 7 ra
      rw [l7] at c2
      rw [← hrs] at c1
      rw [← ht] at c2
      have q1 := rng32 rs
      have q2 := rng32 t46
      exact Or.inr ⟨by omega, by omega⟩
theorem own_add {a b : Int32} (h : -1000000 ≤ a.toInt + b.toInt ∧ a.toInt + b.toInt ≤ 1000000) : (a + b).toInt = a.toInt + b.toInt := by
  have h1 := c_iadd a b
  have := rng32 (a + b)
  omega
theorem own_lt {a : Int32} {N : Int32} (h : 0 ≤ a.toInt ∧ a.toInt < N.toInt) : ¬ a < 0 ∧ a < N := by
  rw [Int32.lt_iff_toInt_lt, Int32.lt_iff_toInt_lt]
  have : (0 : Int32).toInt = 0 := by decide
  omega
theorem own_mulr {r b : Int32} (hr : 0 ≤ r.toInt ∧ r.toInt ≤ 7) (hb : -8 ≤ b.toInt ∧ b.toInt ≤ 8) : (r * b).toInt = r.toInt * b.toInt := by
  have h1 := c_imul r b
  have b1 := mc (a := r.toInt) (b := b.toInt) (l1 := 0) (h1 := 7) (l2 := -8) (h2 := 8) (by omega) (by omega) (by omega) (by omega)
  have := rng32 (r * b)
  generalize r.toInt * b.toInt = t at *
  omega
theorem own_ix {cn rs ta bs bq tb v r : Int32} (H : own_HB cn rs ta bs bq tb) (hv : 0 ≤ v.toInt ∧ v.toInt ≤ 2) (hr : 0 ≤ r.toInt ∧ r.toInt ≤ 7) :
    ((ta + v) + r * rs).toInt = ta.toInt + v.toInt + r.toInt * rs.toInt ∧ 0 ≤ ta.toInt + v.toInt + r.toInt * rs.toInt ∧ ta.toInt + v.toInt + r.toInt * rs.toInt < 48 := by
  obtain ⟨-, -, ⟨M, O, m1, o1, o2, o3⟩, -⟩ := H
  have hrs : -8 ≤ rs.toInt ∧ rs.toInt ≤ 8 := by rcases o3 with ⟨e, -⟩ | ⟨e, -⟩ <;> omega
  have hm := own_mulr hr hrs
  have hb : 0 ≤ ta.toInt + v.toInt + r.toInt * rs.toInt ∧ ta.toInt + v.toInt + r.toInt * rs.toInt < 48 := by
    rcases o3 with ⟨e, f⟩ | ⟨e, f⟩ <;> rw [e, f] <;> rcases m1 with rfl | rfl | rfl | rfl <;> omega
  have hta : 0 ≤ ta.toInt ∧ ta.toInt ≤ 45 := by rcases o3 with ⟨e, f⟩ | ⟨e, f⟩ <;> omega
  have ha : (ta + v).toInt = ta.toInt + v.toInt := own_add (by omega)
  refine ⟨?_, hb⟩
  rw [own_add (by rw [ha, hm]; omega), ha, hm]
theorem own_uniq {cn rs ta bs bq tb v r v' r' : Int32} (H : own_HB cn rs ta bs bq tb) (hv : 0 ≤ v.toInt ∧ v.toInt ≤ 2) (hr : 0 ≤ r.toInt ∧ r.toInt ≤ 7) (hv' : 0 ≤ v'.toInt ∧ v'.toInt ≤ 2) (hr' : 0 ≤ r'.toInt ∧ r'.toInt ≤ 7)
    (h : ((ta + v) + r * rs).toNatClampNeg = ((ta + v') + r' * rs).toNatClampNeg) : v = v' ∧ r = r' := by
  obtain ⟨e1, e2, e3⟩ := own_ix H hv hr
  obtain ⟨f1, f2, f3⟩ := own_ix H hv' hr'
  have n1 := nat_of (own_lt (a := (ta + v) + r * rs) (N := 48) (by rw [e1]; exact ⟨e2, e3⟩)).1
  have n2 := nat_of (own_lt (a := (ta + v') + r' * rs) (N := 48) (by rw [f1]; exact ⟨f2, f3⟩)).1
  have hq : ta.toInt + v.toInt + r.toInt * rs.toInt = ta.toInt + v'.toInt + r'.toInt * rs.toInt := by rw [← e1, ← f1, n1, n2, h]
  obtain ⟨-, -, ⟨M, O, m1, o1, o2, o3⟩, -⟩ := H
  have : v.toInt = v'.toInt ∧ r.toInt = r'.toInt := by
    rcases o3 with ⟨e, f⟩ | ⟨e, f⟩ <;> rw [e] at hq <;> rcases m1 with rfl | rfl | rfl | rfl <;> omega
  exact ⟨Int32.toInt_inj.mp this.1, Int32.toInt_inj.mp this.2⟩
theorem own_jx {cn rs ta bs bq tb v r : Int32} (H : own_HB cn rs ta bs bq tb) (hv : 0 ≤ v.toInt ∧ v.toInt ≤ 2) (hr : 0 ≤ r.toInt ∧ r.toInt ≤ 7) :
    0 ≤ ((tb + v * bs) + r * bq).toInt ∧ ((tb + v * bs) + r * bq).toInt < 60 := by
  obtain ⟨-, -, -, ⟨b1, b2⟩, ⟨c1, c2⟩, ⟨d1, d2⟩⟩ := H
  have m1 := own_mulr (r := v) (b := bs) (by omega) (by omega)
  have m2 := own_mulr (r := r) (b := bq) hr (by omega)
  have e1 := mc (a := v.toInt) (b := bs.toInt) (l1 := 0) (h1 := 2) (l2 := -3) (h2 := 3) (by omega) (by omega) (by omega) (by omega)
  have e2 := mc (a := r.toInt) (b := bq.toInt) (l1 := 0) (h1 := 7) (l2 := -3) (h2 := 3) (by omega) (by omega) (by omega) (by omega)
  have a1 : (tb + v * bs).toInt = tb.toInt + v.toInt * bs.toInt := by
    rw [own_add (by rw [m1]; generalize v.toInt * bs.toInt = t at *; omega), m1]
  rw [own_add (by rw [a1, m2]; generalize v.toInt * bs.toInt = t at *; generalize r.toInt * bq.toInt = u at *; omega), a1, m2]
  generalize v.toInt * bs.toInt = t at *
  generalize r.toInt * bq.toInt = u at *
  omega
theorem own_r0 (x b : Int32) : x + (0 : Int32) * b = x := by rw [Int32.zero_mul, Int32.add_zero]
theorem own_r1 (x b : Int32) : x + (1 : Int32) * b = x + b := by rw [Int32.one_mul]
theorem own_i {cn rs ta bs bq tb : Int32} (H : own_HB cn rs ta bs bq tb) (v r : Int32) (hv : 0 ≤ v.toInt ∧ v.toInt ≤ 2) (hr : 0 ≤ r.toInt ∧ r.toInt ≤ 7) : ¬ ((ta + v) + r * rs) < 0 ∧ ((ta + v) + r * rs) < (48 : Int32) := by
  obtain ⟨e, e1, e2⟩ := own_ix H hv hr
  exact own_lt (by rw [e]; exact ⟨e1, e2⟩)
theorem own_i0 {cn rs ta bs bq tb : Int32} (H : own_HB cn rs ta bs bq tb) (v : Int32) (hv : 0 ≤ v.toInt ∧ v.toInt ≤ 2) : ¬ (ta + v) < 0 ∧ (ta + v) < (48 : Int32) := by
  have := own_i H v 0 hv (by decide)
  rw [own_r0] at this
  exact this
theorem own_i1 {cn rs ta bs bq tb : Int32} (H : own_HB cn rs ta bs bq tb) (v : Int32) (hv : 0 ≤ v.toInt ∧ v.toInt ≤ 2) : ¬ ((ta + v) + rs) < 0 ∧ ((ta + v) + rs) < (48 : Int32) := by
  have := own_i H v 1 hv (by decide)
  rw [own_r1] at this
  exact this
theorem own_j {cn rs ta bs bq tb : Int32} (H : own_HB cn rs ta bs bq tb) (v r : Int32) (hv : 0 ≤ v.toInt ∧ v.toInt ≤ 2) (hr : 0 ≤ r.toInt ∧ r.toInt ≤ 7) : ¬ ((tb + v * bs) + r * bq) < 0 ∧ ((tb + v * bs) + r * bq) < (60 : Int32) := own_lt (own_jx H hv hr)
theorem own_j0 {cn rs ta bs bq tb : Int32} (H : own_HB cn rs ta bs bq tb) (v : Int32) (hv : 0 ≤ v.toInt ∧ v.toInt ≤ 2) : ¬ (tb + v * bs) < 0 ∧ (tb + v * bs) < (60 : Int32) := by
  have := own_j H v 0 hv (by decide)
  rw [own_r0] at this
  exact this
theorem own_j1 {cn rs ta bs bq tb : Int32} (H : own_HB cn rs ta bs bq tb) (v : Int32) (hv : 0 ≤ v.toInt ∧ v.toInt ≤ 2) : ¬ ((tb + v * bs) + bq) < 0 ∧ ((tb + v * bs) + bq) < (60 : Int32) := by
  have := own_j H v 1 hv (by decide)
  rw [own_r1] at this
  exact this
theorem own_updE {u : Nat → UInt64} {j : Int32} {x E : UInt64} {i : Nat} (h1 : i = j.toNatClampNeg → x = E) (h2 : ¬ i = j.toNatClampNeg → u i = E) : own_upd u j x i = E := by
  unfold own_upd
  by_cases h : i = j.toNatClampNeg
  · rw [if_pos h]; exact h1 h
  · rw [if_neg h]; exact h2 h
def own_C (al be : UInt64) (ua ub : Nat → UInt64) (ta rs tb bs bq v r : Int32) : UInt64 := FP.dadd (FP.dmul al (ua ((ta + v) + r * rs).toNatClampNeg)) (FP.dmul be (ub ((tb + v * bs) + r * bq).toNatClampNeg))
theorem own_r8 {r : Int32} (h0 : 0 ≤ r.toInt) (h7 : r.toInt ≤ 7) : r = 0 ∨ r = 1 ∨ r = 2 ∨ r = 3 ∨ r = 4 ∨ r = 5 ∨ r = 6 ∨ r = 7 := by
  have k : ∀ (n : Int32) (i : Int), n.toInt = i → r.toInt = i → r = n := fun n i e1 e2 => Int32.toInt_inj.mp (e2.trans e1.symm)
  have : r.toInt = 0 ∨ r.toInt = 1 ∨ r.toInt = 2 ∨ r.toInt = 3 ∨ r.toInt = 4 ∨ r.toInt = 5 ∨ r.toInt = 6 ∨ r.toInt = 7 := by omega
  rcases this with q | q | q | q | q | q | q | q
  · exact Or.inl (k 0 0 (by decide) q)
  · exact Or.inr (Or.inl (k 1 1 (by decide) q))
  · exact Or.inr (Or.inr (Or.inl (k 2 2 (by decide) q)))
  · exact Or.inr (Or.inr (Or.inr (Or.inl (k 3 3 (by decide) q))))
  · exact Or.inr (Or.inr (Or.inr (Or.inr (Or.inl (k 4 4 (by decide) q)))))
  · exact Or.inr (Or.inr (Or.inr (Or.inr (Or.inr (Or.inl (k 5 5 (by decide) q))))))
  · exact Or.inr (Or.inr (Or.inr (Or.inr (Or.inr (Or.inr (Or.inl (k 6 6 (by decide) q)))))))
  · exact Or.inr (Or.inr (Or.inr (Or.inr (Or.inr (Or.inr (Or.inr (k 7 7 (by decide) q)))))))
/-- one turn, looked at one place of the grid -/
theorem own_turn {cn rs ta bs bq tb v r w : Int32} {al be : UInt64} {ua ub u : Nat → UInt64} {E : UInt64} (H : own_HB cn rs ta bs bq tb) (hv : 0 ≤ v.toInt ∧ v.toInt ≤ 2) (hr : 0 ≤ r.toInt ∧ r.toInt ≤ 7) (hw : 0 ≤ w.toInt ∧ w.toInt ≤ 2)
    (h1 : w = v → own_C al be ua ub ta rs tb bs bq v r = E) (h2 : ¬ w = v → u ((ta + v) + r * rs).toNatClampNeg = E) :
    own_T u al be ua ub (ta + w) (tb + (w * bs)) rs bq ((ta + v) + r * rs).toNatClampNeg = E := by
  have key : ∀ k : Int32, 0 ≤ k.toInt ∧ k.toInt ≤ 7 → ((ta + v) + r * rs).toNatClampNeg = ((ta + w) + k * rs).toNatClampNeg → own_C al be ua ub ta rs tb bs bq w k = E := by
    intro k hk z
    obtain ⟨q1, q2⟩ := own_uniq H hv hr hw hk z
    subst q1 q2
    exact h1 rfl
  unfold own_T
  refine own_updE (fun z => key 7 (by decide) z) fun z7 => ?_
  refine own_updE (fun z => key 6 (by decide) z) fun z6 => ?_
  refine own_updE (fun z => key 5 (by decide) z) fun z5 => ?_
  refine own_updE (fun z => key 4 (by decide) z) fun z4 => ?_
  refine own_updE (fun z => key 3 (by decide) z) fun z3 => ?_
  refine own_updE (fun z => key 2 (by decide) z) fun z2 => ?_
  refine own_updE (fun z => by have q := key 1 (by decide) (by rw [own_r1]; exact z); unfold own_C at q; rw [own_r1, own_r1] at q; exact q) fun z1 => ?_
  refine own_updE (fun z => by have q := key 0 (by decide) (by rw [own_r0]; exact z); unfold own_C at q; rw [own_r0, own_r0] at q; exact q) fun z0 => ?_
  refine h2 fun q => ?_
  subst q
  rcases own_r8 hr.1 hr.2 with rfl | rfl | rfl | rfl | rfl | rfl | rfl | rfl
  · rw [own_r0] at z0; exact z0 rfl
  · rw [own_r1] at z1; exact z1 rfl
  · exact z2 rfl
  · exact z3 rfl
  · exact z4 rfl
  · exact z5 rfl
  · exact z6 rfl
  · exact z7 rfl
theorem own_L60all (i : Nat) : ∃ z : Int, DInt z (own_L own_l60 i) ∧ z.natAbs ≤ 159 := by
  by_cases h : i < 60
  · exact ⟨_, own_d60 h, by omega⟩
  · refine ⟨0, ?_, by decide⟩
    have e : own_L own_l60 i = 0 := by
      unfold own_L
      rw [List.getD_eq_getElem?_getD, List.getElem?_eq_none (show own_l60.length ≤ i by show 60 ≤ i; omega)]
      rfl
    rw [e]
    have := i2d_int 0
    rw [show FP.Core.i2d 0 = 0 by decide +kernel] at this
    exact this
theorem own_L48all (i : Nat) : ∃ z : Int, DInt z (own_L own_l48 i) ∧ z.natAbs ≤ 48 := by
  by_cases h : i < 48
  · exact ⟨_, own_d48 h, by omega⟩
  · refine ⟨0, ?_, by decide⟩
    have e : own_L own_l48 i = 0 := by
      unfold own_L
      rw [List.getD_eq_getElem?_getD, List.getElem?_eq_none (show own_l48.length ≤ i by show 48 ≤ i; omega)]
      rfl
    rw [e]
    have := i2d_int 0
    rw [show FP.Core.i2d 0 = 0 by decide +kernel] at this
    exact this
theorem own_dfin {z : Int} {a : UInt64} (h : DInt z a) : Fin64 a := by
  unfold DInt at h
  refine fin64_core.mpr ?_
  unfold DFin
  cases hv : val64 a with
  | nan => rw [hv] at h; exact h.elim
  | inf s => rw [hv] at h; exact h.elim
  | fin s c q => exact ⟨s, c, q, rfl⟩
theorem own_ua (i : Nat) : Fin64 (own_L own_l48 i) := by obtain ⟨z, h, -⟩ := own_L48all i; exact own_dfin h
theorem own_mb (b : Int32) (i : Nat) : Fin64 (FP.dmul (FP.i2d b) (own_L own_l60 i)) := by
  obtain ⟨z, h, hz⟩ := own_L60all i
  have hb := rng32 b
  refine own_dfin (dmul_int (i2d_int b) h ?_)
  rw [Int.natAbs_mul]
  calc b.toInt.natAbs * z.natAbs ≤ 2147483648 * 159 := Nat.mul_le_mul (by omega) hz
    _ ≤ 2 ^ 53 := by decide
/-- the cell's value is the law's -/
theorem own_val {cn rs ta bs bq tb v r : Int32} (A B : Int32) (H : own_HB cn rs ta bs bq tb) (hv : 0 ≤ v.toInt ∧ v.toInt ≤ 2) (hr : 0 ≤ r.toInt ∧ r.toInt ≤ 7) :
    cmpValue (FP.dcmp (own_C (FP.i2d A) (FP.i2d B) (own_L own_l48) (own_L own_l60) ta rs tb bs bq v r) (FP.l2d ((A.toInt64 * (((ta + v) + (r * rs)) + (1 : Int32)).toInt64) + (B.toInt64 * ((100 : Int32) + ((tb + (v * bs)) + (r * bq))).toInt64)))) .l = 0 := by
  obtain ⟨e1, e2, e3⟩ := own_ix H hv hr
  obtain ⟨f1, f2⟩ := own_jx H hv hr
  have hi := (own_i H v r hv hr).1
  have hj := (own_j H v r hv hr).1
  generalize hI : ((ta + v) + r * rs) = I at *
  generalize hJ : ((tb + v * bs) + r * bq) = J at *
  have n1 := nat_of hi
  have n2 := nat_of hj
  have l1 : (1 : Int32).toInt = 1 := by decide
  have l100 : (100 : Int32).toInt = 100 := by decide
  have k1 : (I + (1 : Int32)).toInt = I.toInt + 1 := by rw [own_add (by omega), l1]
  have k2 : ((100 : Int32) + J).toInt = 100 + J.toInt := by rw [own_add (by omega), l100]
  have dA : DInt (I.toInt + 1) (own_L own_l48 I.toNatClampNeg) := by rw [n1]; exact own_d48 (by omega)
  have dB : DInt (100 + J.toInt) (own_L own_l60 J.toNatClampNeg) := by rw [n2, Int.add_comm]; exact own_d60 (by omega)
  have hA := rng32 A
  have hB := rng32 B
  have bA := mc (a := A.toInt) (b := I.toInt + 1) (l1 := -2147483648) (h1 := 2147483648) (l2 := 0) (h2 := 48) (by omega) (by omega) (by omega) (by omega)
  have bB := mc (a := B.toInt) (b := 100 + J.toInt) (l1 := -2147483648) (h1 := 2147483648) (l2 := 0) (h2 := 160) (by omega) (by omega) (by omega) (by omega)
  have p1 : DInt (A.toInt * (I.toInt + 1)) (FP.dmul (FP.i2d A) (own_L own_l48 I.toNatClampNeg)) := dmul_int (i2d_int A) dA (by generalize A.toInt * (I.toInt + 1) = t at *; omega)
  have p2 : DInt (B.toInt * (100 + J.toInt)) (FP.dmul (FP.i2d B) (own_L own_l60 J.toNatClampNeg)) := dmul_int (i2d_int B) dB (by generalize B.toInt * (100 + J.toInt) = t at *; omega)
  have p3 : DInt (A.toInt * (I.toInt + 1) + B.toInt * (100 + J.toInt)) (FP.dadd (FP.dmul (FP.i2d A) (own_L own_l48 I.toNatClampNeg)) (FP.dmul (FP.i2d B) (own_L own_l60 J.toNatClampNeg))) := dadd_int p1 p2 (by generalize A.toInt * (I.toInt + 1) = t at *; generalize B.toInt * (100 + J.toInt) = u at *; omega)
  have q1 := c_lmul A.toInt64 (I + (1 : Int32)).toInt64
  have q2 := c_lmul B.toInt64 ((100 : Int32) + J).toInt64
  have q3 := c_ladd (A.toInt64 * (I + (1 : Int32)).toInt64) (B.toInt64 * ((100 : Int32) + J).toInt64)
  rw [c_i2l, c_i2l, k1] at q1
  rw [c_i2l, c_i2l, k2] at q2
  have r1 := rng64 (A.toInt64 * (I + (1 : Int32)).toInt64)
  have r2 := rng64 (B.toInt64 * ((100 : Int32) + J).toInt64)
  have r3 := rng64 ((A.toInt64 * (I + (1 : Int32)).toInt64) + (B.toInt64 * ((100 : Int32) + J).toInt64))
  have hl : ((A.toInt64 * (I + (1 : Int32)).toInt64) + (B.toInt64 * ((100 : Int32) + J).toInt64)).toInt = A.toInt * (I.toInt + 1) + B.toInt * (100 + J.toInt) := by
    generalize A.toInt * (I.toInt + 1) = t at *
    generalize B.toInt * (100 + J.toInt) = u at *
    omega
  have p4 : DInt (A.toInt * (I.toInt + 1) + B.toInt * (100 + J.toInt)) (FP.l2d ((A.toInt64 * (I + (1 : Int32)).toInt64) + (B.toInt64 * ((100 : Int32) + J).toInt64))) := by
    have := l2d_int (a := (A.toInt64 * (I + (1 : Int32)).toInt64) + (B.toInt64 * ((100 : Int32) + J).toInt64)) (by rw [hl]; generalize A.toInt * (I.toInt + 1) = t at *; generalize B.toInt * (100 + J.toInt) = u at *; omega)
    rw [hl] at this
    exact this
  have hc : FP.dcmp (FP.dadd (FP.dmul (FP.i2d A) (own_L own_l48 I.toNatClampNeg)) (FP.dmul (FP.i2d B) (own_L own_l60 J.toNatClampNeg))) (FP.l2d ((A.toInt64 * (I + (1 : Int32)).toInt64) + (B.toInt64 * ((100 : Int32) + J).toInt64))) = some .eq := by
    show FP.Core.dcmp _ _ = _
    rw [dcmp_int p3 p4, (compare_eq_iff _ _).mpr rfl]
  unfold own_C
  rw [hI, hJ, hc]
  rfl
def own_Ok (u : Nat → UInt64) (ta rs r v cn : Int32) (A B : Int64) (tb bs bq : Int32) : Prop :=
  (¬ ((ta + v) + (r * rs)) < 0 ∧ ((ta + v) + (r * rs)) < (48 : Int32)) ∧ (¬ v < cn → cmpValue (FP.dcmp (u ((ta + v) + (r * rs)).toNatClampNeg) (0 : UInt64)) .l = 0) ∧
  (v < cn → cmpValue (FP.dcmp (u ((ta + v) + (r * rs)).toNatClampNeg) (FP.l2d ((A * (((ta + v) + (r * rs)) + (1 : Int32)).toInt64) + (B * ((100 : Int32) + ((tb + (v * bs)) + (r * bq))).toInt64)))) .l = 0)
def own_U (N : Nat) (A B : Int32) (ta rs tb bs bq : Int32) : Nat → UInt64 := match N with
  | 0 => (fun _ => 0)
  | 1 => own_T (fun _ => 0) (FP.i2d A) (FP.i2d B) (own_L own_l48) (own_L own_l60) (ta + (0 : Int32)) (tb + ((0 : Int32) * bs)) rs bq
  | 2 => own_T (own_T (fun _ => 0) (FP.i2d A) (FP.i2d B) (own_L own_l48) (own_L own_l60) (ta + (0 : Int32)) (tb + ((0 : Int32) * bs)) rs bq) (FP.i2d A) (FP.i2d B) (own_L own_l48) (own_L own_l60) (ta + (1 : Int32)) (tb + ((1 : Int32) * bs)) rs bq
  | _ => own_T (own_T (own_T (fun _ => 0) (FP.i2d A) (FP.i2d B) (own_L own_l48) (own_L own_l60) (ta + (0 : Int32)) (tb + ((0 : Int32) * bs)) rs bq) (FP.i2d A) (FP.i2d B) (own_L own_l48) (own_L own_l60) (ta + (1 : Int32)) (tb + ((1 : Int32) * bs)) rs bq) (FP.i2d A) (FP.i2d B) (own_L own_l48) (own_L own_l60) (ta + (2 : Int32)) (tb + ((2 : Int32) * bs)) rs bq
theorem own_z0 : cmpValue (FP.dcmp (0 : UInt64) (0 : UInt64)) .l = 0 := by decide +kernel
theorem own_Uat (N : Nat) (hN : N ≤ 3) {cn rs ta bs bq tb v r : Int32} (A B : Int32) (H : own_HB cn rs ta bs bq tb) (hv : 0 ≤ v.toInt ∧ v.toInt ≤ 2) (hr : 0 ≤ r.toInt ∧ r.toInt ≤ 7) :
    (v.toInt < N → own_U N A B ta rs tb bs bq ((ta + v) + r * rs).toNatClampNeg = own_C (FP.i2d A) (FP.i2d B) (own_L own_l48) (own_L own_l60) ta rs tb bs bq v r) ∧ (¬ v.toInt < N → own_U N A B ta rs tb bs bq ((ta + v) + r * rs).toNatClampNeg = 0) := by
  have l0 : (0 : Int32).toInt = 0 := by decide
  have l1 : (1 : Int32).toInt = 1 := by decide
  have l2 : (2 : Int32).toInt = 2 := by decide
  have ne : ∀ (a b : Int32), ¬ a = b → a.toInt ≠ b.toInt := fun a b h e => h (Int32.toInt_inj.mp e)
  match N, hN with
  | 0, _ => exact ⟨fun h => by omega, fun _ => rfl⟩
  | 1, _ =>
    refine ⟨fun h => own_turn H hv hr (by decide) (fun _ => rfl) fun q => ?_, fun h => own_turn H hv hr (by decide) (fun q => ?_) fun _ => rfl⟩
    · have := ne _ _ q; omega
    · subst q; omega
  | 2, _ =>
    refine ⟨fun h => own_turn H hv hr (by decide) (fun _ => rfl) fun q => own_turn H hv hr (by decide) (fun _ => rfl) fun q' => ?_, fun h => own_turn H hv hr (by decide) (fun q => ?_) fun _ => own_turn H hv hr (by decide) (fun q => ?_) fun _ => rfl⟩
    · have := ne _ _ q; have := ne _ _ q'; omega
    · subst q; omega
    · subst q; omega
  | 3, _ =>
    refine ⟨fun h => own_turn H hv hr (by decide) (fun _ => rfl) fun q => own_turn H hv hr (by decide) (fun _ => rfl) fun q' => own_turn H hv hr (by decide) (fun _ => rfl) fun q'' => ?_, fun h => ?_⟩
    · have := ne _ _ q; have := ne _ _ q'; have := ne _ _ q''; omega
    · omega
  | n + 4, h => omega
theorem own_ok (N : Nat) (hN : N ≤ 3) {cn rs ta bs bq tb : Int32} (A B : Int32) (H : own_HB cn rs ta bs bq tb) (hcn : cn.toInt = N) (v r : Int32) (hv : 0 ≤ v.toInt ∧ v.toInt ≤ 2) (hr : 0 ≤ r.toInt ∧ r.toInt ≤ 7) : own_Ok (own_U N A B ta rs tb bs bq) ta rs r v cn A.toInt64 B.toInt64 tb bs bq := by
  obtain ⟨u1, u2⟩ := own_Uat N hN A B H hv hr
  refine ⟨own_i H v r hv hr, fun h => ?_, fun h => ?_⟩
  · rw [Int32.lt_iff_toInt_lt] at h
    rw [u2 (by omega)]
    exact own_z0
  · rw [Int32.lt_iff_toInt_lt] at h
    rw [u1 (by omega)]
    exact own_val A B H hv hr
theorem own_n4 {p n : Int32} (h : (p &&& (3 : Int32)) = n) : n = 0 ∨ n = 1 ∨ n = 2 ∨ n = 3 := by
  have h1 := c_mask p 3 2 (by decide) (by decide)
  rw [h] at h1
  have h2 : n.toInt = 0 ∨ n.toInt = 1 ∨ n.toInt = 2 ∨ n.toInt = 3 := by omega
  rcases h2 with h2 | h2 | h2 | h2
  · exact Or.inl (Int32.toInt_inj.mp (h2.trans (by decide)))
  · exact Or.inr (Or.inl (Int32.toInt_inj.mp (h2.trans (by decide))))
  · exact Or.inr (Or.inr (Or.inl (Int32.toInt_inj.mp (h2.trans (by decide)))))
  · exact Or.inr (Or.inr (Or.inr (Int32.toInt_inj.mp (h2.trans (by decide)))))
end OwnSumRows
theorem own_forget {p : Program} {l : Launch} {e : Env} {R : Room} {s : State} {m : MethodId} {args : Array Value} {below : List Frame} {meth : Method} {c : Code} {T : State} {locs : List Loc} {cells slots n0 : Nat} (X : Stand p l e R s m args below meth c T locs cells slots) (N : Fr n0 locs) : ∃ z, Stand p l e R s m args below meth c T z cells slots ∧ Fr n0 z := ⟨_, X, N⟩
theorem pn_0 : plainName "java/lang/Record" = true := by first | (simp [plainName, overriddenIn]; done) | decide +kernel
theorem d2_0 : decode jdk_30_method_1_code 0 = .ok (.aload_n 0, 1) := by decide +kernel
theorem d2_1 : decode jdk_30_method_1_code 1 = .ok (.invokespecial 1, 3) := by decide +kernel
theorem d2_4 : decode jdk_30_method_1_code 4 = .ok (.return_, 1) := by decide +kernel
theorem ef_rmR (m : MethodId) (x0 : Addr) : entryFrame m #[(.ref x0)] 1 = mkF m 0 #[.val (.ref x0)] [] := by first | (simp [entryFrame, mkF, argsToLocals, Value.category]; done) | rfl
def QrmR (Z : State) (a : Addr) (h0 : Heap) (n0 : Nat) (v : Option Value) (h : Heap) (L : List Loc) : Prop := v = none ∧ Fr n0 L ∧ h = h0
set_option maxRecDepth 65536 in
set_option maxHeartbeats 40000000 in
theorem rmR (l : Launch) (Z : State) (a0 : Array Value) (hw : ∀ d ∈ tables_1, d.before a0 Z = true) (ws : List Jvm.Cond) (a : Addr) (h0 : Heap) (n0 : Nat) (Z0 : n0 ≤ h0.size) :
    MetFree l (⟨"java/lang/Record", "<init>", "()V"⟩ : MethodName) (head1 (Jvm.Cond.code (⟨"java/lang/Record", "<init>", "()V"⟩ : MethodName) jdk_30_method_1_code 1 none :: ws) ({ frames := 1, cells := 0, slots := 0, locals := 12 } : Room)) (fun aq Uq => aq = #[(.ref a)] ∧ Z.Warmed39 Uq.vm ∧ Uq.heap = h0) (fun _ _ _ _ _ => True) (fun _ Uq oq Uq' => ∃ vq Lq, oq = .returned vq ∧ QrmR Z a h0 n0 vq Uq'.heap Lq ∧ FrameEnd Uq oq Uq' Lq ({ frames := 1, cells := 0, slots := 0, locals := 12 } : Room).cells ({ frames := 1, cells := 0, slots := 0, locals := 12 } : Room).slots) := by
  refine MetFree.of_bodySF (plainFor_of_name pn_0) hisR ?_
  intro p e s m args below meth c s₁ Bd hml0 hP hK
  obtain ⟨rfl, hZ, hh⟩ := hP
  have hx := Bd.exec
  have hby := Bd.bytes
  have hml : c.maxLocals = 1 := hml0
  have hown : s.vm.findClass "java/lang/Record" = some m.cls := findClass_of_methodNamed Bd.named
  have hnm := (name_of_methodNamed Bd.named Bd.method).1
  have X0 : Stand p l e ({ frames := 1, cells := 0, slots := 0, locals := 12 } : Room) s m #[(.ref a)] below meth c s₁ [] 0 0 := Stand.of_body Bd
  have e0 : s₁.heap = h0 := by rw [← hh, Bd.state]; rfl
  have N0 := Fr.nil n0
  have ZH := Z0
  have KK := Keep.refl h0 []
  refine own_start (fun t kq => castTop (ef_rmR m a) kq) ?_
  show own_Go p.tables e below _ (s₁.setTop (mkF m 0 #[.val (.ref a)] []))
  refine own_up (fun _ kq => XS.aloadN X0.here hx rfl (hb hby d2_0) rfl rfl kq) ?_
  show own_Go p.tables e below _ (s₁.setTop (mkF m 1 #[.val (.ref a)] [(.ref a)]))
  obtain ⟨T1, X1, e1, st1⟩ := initO X0 hx hZ hown (hw _ (List.mem_of_getElem? (i := 119) rfl)) (hw _ (List.mem_of_getElem? (i := 120) rfl)) (hw _ (List.mem_of_getElem? (i := 121) rfl)) e0 (g := (mkF m 1 #[.val (.ref a)] [(.ref a)])) rfl (by rw [hml]; rfl) rfl (hb hby d2_1) (by decide) (W := 0) (by show 2 * 0 + _ ≤ _; exact Nat.le_of_eq rfl) (by decide)
  refine own_up st1 ?_
  show own_Go p.tables e below _ (T1.setTop (mkF m 4 #[.val (.ref a)] []))
  obtain ⟨fs2, hr2, hrun2, hended2, hW2, hsame2⟩ := X1.leave (v := none) (fun _ => rfl)
  refine own_end ⟨_, _, ?_, hrun2, hended2, _, _, rfl, ?_, ⟨_, rfl⟩, hW2, hsame2.mono (by decide) (by decide)⟩
  · exact X1.returnOut hx Bd.returns (hb hby d2_4) hr2
  · show QrmR Z a h0 n0 _ T1.heap _
    rw [e1]
    exact ⟨rfl, N0, rfl⟩
theorem pn_1 : plainName "com/example/indexica/indexica/ScaledSum" = true := by first | (simp [plainName, overriddenIn]; done) | decide +kernel
theorem d1_0 : decode prog_85_method_1_code 0 = .ok (.aload_n 0, 1) := by decide +kernel
theorem d1_1 : decode prog_85_method_1_code 1 = .ok (.invokespecial 1, 3) := by decide +kernel
theorem pd_0 : parseMethodDescriptor "()V" = some ⟨[], none⟩ := by decide +kernel
theorem d1_4 : decode prog_85_method_1_code 4 = .ok (.aload_n 0, 1) := by decide +kernel
theorem d1_5 : decode prog_85_method_1_code 5 = .ok (.dload_n 1, 1) := by decide +kernel
theorem d1_6 : decode prog_85_method_1_code 6 = .ok (.putfield 7, 3) := by decide +kernel
theorem d1_9 : decode prog_85_method_1_code 9 = .ok (.aload_n 0, 1) := by decide +kernel
theorem d1_10 : decode prog_85_method_1_code 10 = .ok (.dload_n 3, 1) := by decide +kernel
theorem d1_11 : decode prog_85_method_1_code 11 = .ok (.putfield 13, 3) := by decide +kernel
theorem d1_14 : decode prog_85_method_1_code 14 = .ok (.return_, 1) := by decide +kernel
theorem ef_rmC (m : MethodId) (x0 : Addr) (x1 : UInt64) (x2 : UInt64) : entryFrame m #[(.ref x0), (.double x1), (.double x2)] 5 = mkF m 0 #[.val (.ref x0), .val (.double x1), .second, .val (.double x2), .second] [] := by first | (simp [entryFrame, mkF, argsToLocals, Value.category]; done) | rfl
def QrmC (Z : State) (a : Addr) (al : UInt64) (be : UInt64) (h0 : Heap) (n0 : Nat) (v : Option Value) (h : Heap) (L : List Loc) : Prop := v = none ∧ Fr n0 L ∧ Keep h0 h [a] ∧ Fld Z h a "com/example/indexica/indexica/ScaledSum" "alpha" "D" (.double al) ∧ Fld Z h a "com/example/indexica/indexica/ScaledSum" "beta" "D" (.double be)
set_option maxRecDepth 65536 in
set_option maxHeartbeats 40000000 in
theorem rmC (l : Launch) (Z : State) (a0 : Array Value) (hw : ∀ d ∈ tables_1, d.before a0 Z = true) (ws : List Jvm.Cond) (a : Addr) (al : UInt64) (be : UInt64) (h0 : Heap) (n0 : Nat) (Z0 : n0 ≤ h0.size) (E_a : Exa Z h0 a "com/example/indexica/indexica/ScaledSum") (F_alpha_a : Fld Z h0 a "com/example/indexica/indexica/ScaledSum" "alpha" "D" (.double (0 : UInt64))) (F_beta_a : Fld Z h0 a "com/example/indexica/indexica/ScaledSum" "beta" "D" (.double (0 : UInt64))) (g_a : n0 ≤ a) :
    MetFree l (⟨"com/example/indexica/indexica/ScaledSum", "<init>", "(DD)V"⟩ : MethodName) (head1 (Jvm.Cond.code (⟨"com/example/indexica/indexica/ScaledSum", "<init>", "(DD)V"⟩ : MethodName) prog_85_method_1_code 5 none :: ws) ({ frames := 2, cells := 0, slots := 0, locals := 24 } : Room)) (fun aq Uq => aq = #[(.ref a), (.double al), (.double be)] ∧ Z.Warmed39 Uq.vm ∧ Uq.heap = h0) (fun _ _ _ _ _ => True) (fun _ Uq oq Uq' => ∃ vq Lq, oq = .returned vq ∧ QrmC Z a al be h0 n0 vq Uq'.heap Lq ∧ FrameEnd Uq oq Uq' Lq ({ frames := 2, cells := 0, slots := 0, locals := 24 } : Room).cells ({ frames := 2, cells := 0, slots := 0, locals := 24 } : Room).slots) := by
  refine MetFree.of_bodySF (plainFor_of_name pn_1) hisR ?_
  intro p e s m args below meth c s₁ Bd hml0 hP hK
  obtain ⟨rfl, hZ, hh⟩ := hP
  have hx := Bd.exec
  have hby := Bd.bytes
  have hml : c.maxLocals = 5 := hml0
  have hown : s.vm.findClass "com/example/indexica/indexica/ScaledSum" = some m.cls := findClass_of_methodNamed Bd.named
  have hnm := (name_of_methodNamed Bd.named Bd.method).1
  have X0 : Stand p l e ({ frames := 2, cells := 0, slots := 0, locals := 24 } : Room) s m #[(.ref a), (.double al), (.double be)] below meth c s₁ [] 0 0 := Stand.of_body Bd
  have e0 : s₁.heap = h0 := by rw [← hh, Bd.state]; rfl
  have N0 := Fr.nil n0
  have ZH := Z0
  have KK := Keep.refl h0 [a]
  refine own_start (fun t kq => castTop (ef_rmC m a al be) kq) ?_
  show own_Go p.tables e below _ (s₁.setTop (mkF m 0 #[.val (.ref a), .val (.double al), .second, .val (.double be), .second] []))
  refine own_up (fun _ kq => XS.aloadN X0.here hx rfl (hb hby d1_0) rfl rfl kq) ?_
  show own_Go p.tables e below _ (s₁.setTop (mkF m 1 #[.val (.ref a), .val (.double al), .second, .val (.double be), .second] [(.ref a)]))
  obtain ⟨_, _, ⟨T1, L1, k1, n1⟩, -, X1, ⟨Lc1, hQ1, l1, y1, z1⟩, st1⟩ := X0.specialBack hx (y := (⟨"java/lang/Record", "<init>", "()V"⟩ : MethodName)) rfl hown (mvT hZ (hw _ (List.mem_of_getElem? (i := 114) rfl))) (mvT hZ (hw _ (List.mem_of_getElem? (i := 115) rfl))) (mvT hZ (hw _ (List.mem_of_getElem? (i := 118) rfl))) (by decide) (backOf (W := 0) (rmR l Z a0 hw [] a h0 n0 Z0) hZ (hw _ (List.mem_of_getElem? (i := 118) rfl)) (hw _ (List.mem_of_getElem? (i := 117) rfl)) (by decide) (by decide)) (g := (mkF m 1 #[.val (.ref a), .val (.double al), .second, .val (.double be), .second] [(.ref a)])) rfl (by rw [hml]; rfl) (Steps.refl _) (a := a) (argsL := []) (rest := []) (lenOf pd_0 rfl) rfl (by show 2 * 0 + _ ≤ _; exact Nat.le_of_eq rfl) (hb hby d1_1) (fun _ _ => ⟨rfl, e0, (by decide : 0 + 0 ≤ _), (by decide : 0 + 0 ≤ _)⟩)
  dsimp only [Pt.U, Pt.locs, Pt.cells, Pt.slots] at X1 l1 y1 z1 st1 hQ1
  subst l1 y1 z1
  obtain ⟨rfl, Nq1, e1⟩ := hQ1
  have N1 := Fr.app N0 Nq1
  refine own_up (fun _ kq => st1.trans kq) ?_
  show own_Go p.tables e below _ (T1.setTop (mkF m 4 #[.val (.ref a), .val (.double al), .second, .val (.double be), .second] []))
  refine own_up (fun _ kq => XS.aloadN X1.here hx rfl (hb hby d1_4) rfl rfl kq) ?_
  show own_Go p.tables e below _ (T1.setTop (mkF m 5 #[.val (.ref a), .val (.double al), .second, .val (.double be), .second] [(.ref a)]))
  refine own_up (fun _ kq => XS.dloadN X1.here hx rfl (hb hby d1_5) rfl kq) ?_
  show own_Go p.tables e below _ (T1.setTop (mkF m 6 #[.val (.ref a), .val (.double al), .second, .val (.double be), .second] [(.double al), (.ref a)]))
  obtain ⟨T2, h2, X2, e2, W2, st2⟩ := putF X1 hx hZ hown (host := "") (Or.inl (hw _ (List.mem_of_getElem? (i := 122) rfl))) Via.refl e1 F_alpha_a E_a (Or.inr ⟨(hw _ (List.mem_of_getElem? (i := 123) rfl)), rfl, hnm⟩) (hw _ (List.mem_of_getElem? (i := 109) rfl)) (ty := .double) (by decide) rfl rfl (g := (mkF m 6 #[.val (.ref a), .val (.double al), .second, .val (.double be), .second] [(.double al), (.ref a)])) rfl rfl (hb hby d1_6)
  have N2 := Fr.snoc X2 N1 g_a
  have F_alpha_a := F_alpha_a.same W2
  have E_a := E_a.wr W2
  have F_beta_a := F_beta_a.other W2 (Or.inr (slot_ne (Or.inr (hw _ (List.mem_of_getElem? (i := 125) rfl))) (Or.inr (hw _ (List.mem_of_getElem? (i := 123) rfl))) (by decide) (t := .double) (t' := .double) (by decide) (by decide)))
  have ZH := Nat.le_trans ZH (Nat.le_of_eq W2.size.symm)
  have KK := KK.wr W2 (Or.inl (List.mem_of_getElem? (i := 0) rfl))
  refine own_up st2 ?_
  show own_Go p.tables e below _ (T2.setTop (mkF m 9 #[.val (.ref a), .val (.double al), .second, .val (.double be), .second] []))
  refine own_up (fun _ kq => XS.aloadN X2.here hx rfl (hb hby d1_9) rfl rfl kq) ?_
  show own_Go p.tables e below _ (T2.setTop (mkF m 10 #[.val (.ref a), .val (.double al), .second, .val (.double be), .second] [(.ref a)]))
  refine own_up (fun _ kq => XS.dloadN X2.here hx rfl (hb hby d1_10) rfl kq) ?_
  show own_Go p.tables e below _ (T2.setTop (mkF m 11 #[.val (.ref a), .val (.double al), .second, .val (.double be), .second] [(.double be), (.ref a)]))
  obtain ⟨T3, h3, X3, e3, W3, st3⟩ := putF X2 hx hZ hown (host := "") (Or.inl (hw _ (List.mem_of_getElem? (i := 124) rfl))) Via.refl e2 F_beta_a E_a (Or.inr ⟨(hw _ (List.mem_of_getElem? (i := 125) rfl)), rfl, hnm⟩) (hw _ (List.mem_of_getElem? (i := 109) rfl)) (ty := .double) (by decide) rfl rfl (g := (mkF m 11 #[.val (.ref a), .val (.double al), .second, .val (.double be), .second] [(.double be), (.ref a)])) rfl rfl (hb hby d1_11)
  have N3 := Fr.snoc X3 N2 g_a
  have F_beta_a := F_beta_a.same W3
  have E_a := E_a.wr W3
  have F_alpha_a := F_alpha_a.other W3 (Or.inr (slot_ne (Or.inr (hw _ (List.mem_of_getElem? (i := 123) rfl))) (Or.inr (hw _ (List.mem_of_getElem? (i := 125) rfl))) (by decide) (t := .double) (t' := .double) (by decide) (by decide)))
  have ZH := Nat.le_trans ZH (Nat.le_of_eq W3.size.symm)
  have KK := KK.wr W3 (Or.inl (List.mem_of_getElem? (i := 0) rfl))
  refine own_up st3 ?_
  show own_Go p.tables e below _ (T3.setTop (mkF m 14 #[.val (.ref a), .val (.double al), .second, .val (.double be), .second] []))
  obtain ⟨fs4, hr4, hrun4, hended4, hW4, hsame4⟩ := X3.leave (v := none) (fun _ => rfl)
  refine own_end ⟨_, _, ?_, hrun4, hended4, _, _, rfl, ?_, ⟨_, rfl⟩, hW4, hsame4.mono (by decide) (by decide)⟩
  · exact X3.returnOut hx Bd.returns (hb hby d1_14) hr4
  · show QrmC Z a al be h0 n0 _ T3.heap _
    rw [e3]
    exact ⟨rfl, N3, KK, F_alpha_a, F_beta_a⟩
theorem d4_15 : decode prog_85_method_3_code 15 = .ok (.iload 14, 2) := by decide +kernel
theorem d4_17 : decode prog_85_method_3_code 17 = .ok (.iload 9, 2) := by decide +kernel
theorem d4_19 : decode prog_85_method_3_code 19 = .ok (.if_icmp .ge 283, 3) := by decide +kernel
theorem d4_22 : decode prog_85_method_3_code 22 = .ok (.iload 4, 2) := by decide +kernel
theorem d4_24 : decode prog_85_method_3_code 24 = .ok (.iload 14, 2) := by decide +kernel
theorem d4_26 : decode prog_85_method_3_code 26 = .ok (.iadd, 1) := by decide +kernel
theorem d4_27 : decode prog_85_method_3_code 27 = .ok (.istore 15, 2) := by decide +kernel
theorem d4_29 : decode prog_85_method_3_code 29 = .ok (.iload 6, 2) := by decide +kernel
theorem d4_31 : decode prog_85_method_3_code 31 = .ok (.iload 14, 2) := by decide +kernel
theorem d4_33 : decode prog_85_method_3_code 33 = .ok (.iload 7, 2) := by decide +kernel
theorem d4_35 : decode prog_85_method_3_code 35 = .ok (.imul, 1) := by decide +kernel
theorem d4_36 : decode prog_85_method_3_code 36 = .ok (.iadd, 1) := by decide +kernel
theorem d4_37 : decode prog_85_method_3_code 37 = .ok (.istore 16, 2) := by decide +kernel
theorem d4_39 : decode prog_85_method_3_code 39 = .ok (.aload_n 3, 1) := by decide +kernel
theorem d4_40 : decode prog_85_method_3_code 40 = .ok (.iload 15, 2) := by decide +kernel
theorem d4_42 : decode prog_85_method_3_code 42 = .ok (.dload 10, 2) := by decide +kernel
theorem d4_44 : decode prog_85_method_3_code 44 = .ok (.aload_n 1, 1) := by decide +kernel
theorem d4_45 : decode prog_85_method_3_code 45 = .ok (.iload 15, 2) := by decide +kernel
theorem d4_47 : decode prog_85_method_3_code 47 = .ok (.daload, 1) := by decide +kernel
theorem d4_48 : decode prog_85_method_3_code 48 = .ok (.dmul, 1) := by decide +kernel
theorem d4_49 : decode prog_85_method_3_code 49 = .ok (.dload 12, 2) := by decide +kernel
theorem d4_51 : decode prog_85_method_3_code 51 = .ok (.aload_n 2, 1) := by decide +kernel
theorem d4_52 : decode prog_85_method_3_code 52 = .ok (.iload 16, 2) := by decide +kernel
theorem d4_54 : decode prog_85_method_3_code 54 = .ok (.daload, 1) := by decide +kernel
theorem d4_55 : decode prog_85_method_3_code 55 = .ok (.dmul, 1) := by decide +kernel
theorem d4_56 : decode prog_85_method_3_code 56 = .ok (.dadd, 1) := by decide +kernel
theorem d4_57 : decode prog_85_method_3_code 57 = .ok (.dastore, 1) := by decide +kernel
theorem d4_58 : decode prog_85_method_3_code 58 = .ok (.aload_n 3, 1) := by decide +kernel
theorem d4_59 : decode prog_85_method_3_code 59 = .ok (.iload 15, 2) := by decide +kernel
theorem d4_61 : decode prog_85_method_3_code 61 = .ok (.iload 5, 2) := by decide +kernel
theorem d4_63 : decode prog_85_method_3_code 63 = .ok (.iadd, 1) := by decide +kernel
theorem d4_64 : decode prog_85_method_3_code 64 = .ok (.dload 10, 2) := by decide +kernel
theorem d4_66 : decode prog_85_method_3_code 66 = .ok (.aload_n 1, 1) := by decide +kernel
theorem d4_67 : decode prog_85_method_3_code 67 = .ok (.iload 15, 2) := by decide +kernel
theorem d4_69 : decode prog_85_method_3_code 69 = .ok (.iload 5, 2) := by decide +kernel
theorem d4_71 : decode prog_85_method_3_code 71 = .ok (.iadd, 1) := by decide +kernel
theorem d4_72 : decode prog_85_method_3_code 72 = .ok (.daload, 1) := by decide +kernel
theorem d4_73 : decode prog_85_method_3_code 73 = .ok (.dmul, 1) := by decide +kernel
theorem d4_74 : decode prog_85_method_3_code 74 = .ok (.dload 12, 2) := by decide +kernel
theorem d4_76 : decode prog_85_method_3_code 76 = .ok (.aload_n 2, 1) := by decide +kernel
theorem d4_77 : decode prog_85_method_3_code 77 = .ok (.iload 16, 2) := by decide +kernel
theorem d4_79 : decode prog_85_method_3_code 79 = .ok (.iload 8, 2) := by decide +kernel
theorem d4_81 : decode prog_85_method_3_code 81 = .ok (.iadd, 1) := by decide +kernel
theorem d4_82 : decode prog_85_method_3_code 82 = .ok (.daload, 1) := by decide +kernel
theorem d4_83 : decode prog_85_method_3_code 83 = .ok (.dmul, 1) := by decide +kernel
theorem d4_84 : decode prog_85_method_3_code 84 = .ok (.dadd, 1) := by decide +kernel
theorem d4_85 : decode prog_85_method_3_code 85 = .ok (.dastore, 1) := by decide +kernel
theorem d4_86 : decode prog_85_method_3_code 86 = .ok (.aload_n 3, 1) := by decide +kernel
theorem d4_87 : decode prog_85_method_3_code 87 = .ok (.iload 15, 2) := by decide +kernel
theorem d4_89 : decode prog_85_method_3_code 89 = .ok (.iconst 2, 1) := by decide +kernel
theorem d4_90 : decode prog_85_method_3_code 90 = .ok (.iload 5, 2) := by decide +kernel
theorem d4_92 : decode prog_85_method_3_code 92 = .ok (.imul, 1) := by decide +kernel
theorem d4_93 : decode prog_85_method_3_code 93 = .ok (.iadd, 1) := by decide +kernel
theorem d4_94 : decode prog_85_method_3_code 94 = .ok (.dload 10, 2) := by decide +kernel
theorem d4_96 : decode prog_85_method_3_code 96 = .ok (.aload_n 1, 1) := by decide +kernel
theorem d4_97 : decode prog_85_method_3_code 97 = .ok (.iload 15, 2) := by decide +kernel
theorem d4_99 : decode prog_85_method_3_code 99 = .ok (.iconst 2, 1) := by decide +kernel
theorem d4_100 : decode prog_85_method_3_code 100 = .ok (.iload 5, 2) := by decide +kernel
theorem d4_102 : decode prog_85_method_3_code 102 = .ok (.imul, 1) := by decide +kernel
theorem d4_103 : decode prog_85_method_3_code 103 = .ok (.iadd, 1) := by decide +kernel
theorem d4_104 : decode prog_85_method_3_code 104 = .ok (.daload, 1) := by decide +kernel
theorem d4_105 : decode prog_85_method_3_code 105 = .ok (.dmul, 1) := by decide +kernel
theorem d4_106 : decode prog_85_method_3_code 106 = .ok (.dload 12, 2) := by decide +kernel
theorem d4_108 : decode prog_85_method_3_code 108 = .ok (.aload_n 2, 1) := by decide +kernel
theorem d4_109 : decode prog_85_method_3_code 109 = .ok (.iload 16, 2) := by decide +kernel
theorem d4_111 : decode prog_85_method_3_code 111 = .ok (.iconst 2, 1) := by decide +kernel
theorem d4_112 : decode prog_85_method_3_code 112 = .ok (.iload 8, 2) := by decide +kernel
theorem d4_114 : decode prog_85_method_3_code 114 = .ok (.imul, 1) := by decide +kernel
theorem d4_115 : decode prog_85_method_3_code 115 = .ok (.iadd, 1) := by decide +kernel
theorem d4_116 : decode prog_85_method_3_code 116 = .ok (.daload, 1) := by decide +kernel
theorem d4_117 : decode prog_85_method_3_code 117 = .ok (.dmul, 1) := by decide +kernel
theorem d4_118 : decode prog_85_method_3_code 118 = .ok (.dadd, 1) := by decide +kernel
theorem d4_119 : decode prog_85_method_3_code 119 = .ok (.dastore, 1) := by decide +kernel
theorem d4_120 : decode prog_85_method_3_code 120 = .ok (.aload_n 3, 1) := by decide +kernel
theorem d4_121 : decode prog_85_method_3_code 121 = .ok (.iload 15, 2) := by decide +kernel
theorem d4_123 : decode prog_85_method_3_code 123 = .ok (.iconst 3, 1) := by decide +kernel
theorem d4_124 : decode prog_85_method_3_code 124 = .ok (.iload 5, 2) := by decide +kernel
theorem d4_126 : decode prog_85_method_3_code 126 = .ok (.imul, 1) := by decide +kernel
theorem d4_127 : decode prog_85_method_3_code 127 = .ok (.iadd, 1) := by decide +kernel
theorem d4_128 : decode prog_85_method_3_code 128 = .ok (.dload 10, 2) := by decide +kernel
theorem d4_130 : decode prog_85_method_3_code 130 = .ok (.aload_n 1, 1) := by decide +kernel
theorem d4_131 : decode prog_85_method_3_code 131 = .ok (.iload 15, 2) := by decide +kernel
theorem d4_133 : decode prog_85_method_3_code 133 = .ok (.iconst 3, 1) := by decide +kernel
theorem d4_134 : decode prog_85_method_3_code 134 = .ok (.iload 5, 2) := by decide +kernel
theorem d4_136 : decode prog_85_method_3_code 136 = .ok (.imul, 1) := by decide +kernel
theorem d4_137 : decode prog_85_method_3_code 137 = .ok (.iadd, 1) := by decide +kernel
theorem d4_138 : decode prog_85_method_3_code 138 = .ok (.daload, 1) := by decide +kernel
theorem d4_139 : decode prog_85_method_3_code 139 = .ok (.dmul, 1) := by decide +kernel
theorem d4_140 : decode prog_85_method_3_code 140 = .ok (.dload 12, 2) := by decide +kernel
theorem d4_142 : decode prog_85_method_3_code 142 = .ok (.aload_n 2, 1) := by decide +kernel
theorem d4_143 : decode prog_85_method_3_code 143 = .ok (.iload 16, 2) := by decide +kernel
theorem d4_145 : decode prog_85_method_3_code 145 = .ok (.iconst 3, 1) := by decide +kernel
theorem d4_146 : decode prog_85_method_3_code 146 = .ok (.iload 8, 2) := by decide +kernel
theorem d4_148 : decode prog_85_method_3_code 148 = .ok (.imul, 1) := by decide +kernel
theorem d4_149 : decode prog_85_method_3_code 149 = .ok (.iadd, 1) := by decide +kernel
theorem d4_150 : decode prog_85_method_3_code 150 = .ok (.daload, 1) := by decide +kernel
theorem d4_151 : decode prog_85_method_3_code 151 = .ok (.dmul, 1) := by decide +kernel
theorem d4_152 : decode prog_85_method_3_code 152 = .ok (.dadd, 1) := by decide +kernel
theorem d4_153 : decode prog_85_method_3_code 153 = .ok (.dastore, 1) := by decide +kernel
theorem d4_154 : decode prog_85_method_3_code 154 = .ok (.aload_n 3, 1) := by decide +kernel
theorem d4_155 : decode prog_85_method_3_code 155 = .ok (.iload 15, 2) := by decide +kernel
theorem d4_157 : decode prog_85_method_3_code 157 = .ok (.iconst 4, 1) := by decide +kernel
theorem d4_158 : decode prog_85_method_3_code 158 = .ok (.iload 5, 2) := by decide +kernel
theorem d4_160 : decode prog_85_method_3_code 160 = .ok (.imul, 1) := by decide +kernel
theorem d4_161 : decode prog_85_method_3_code 161 = .ok (.iadd, 1) := by decide +kernel
theorem d4_162 : decode prog_85_method_3_code 162 = .ok (.dload 10, 2) := by decide +kernel
theorem d4_164 : decode prog_85_method_3_code 164 = .ok (.aload_n 1, 1) := by decide +kernel
theorem d4_165 : decode prog_85_method_3_code 165 = .ok (.iload 15, 2) := by decide +kernel
theorem d4_167 : decode prog_85_method_3_code 167 = .ok (.iconst 4, 1) := by decide +kernel
theorem d4_168 : decode prog_85_method_3_code 168 = .ok (.iload 5, 2) := by decide +kernel
theorem d4_170 : decode prog_85_method_3_code 170 = .ok (.imul, 1) := by decide +kernel
theorem d4_171 : decode prog_85_method_3_code 171 = .ok (.iadd, 1) := by decide +kernel
theorem d4_172 : decode prog_85_method_3_code 172 = .ok (.daload, 1) := by decide +kernel
theorem d4_173 : decode prog_85_method_3_code 173 = .ok (.dmul, 1) := by decide +kernel
theorem d4_174 : decode prog_85_method_3_code 174 = .ok (.dload 12, 2) := by decide +kernel
theorem d4_176 : decode prog_85_method_3_code 176 = .ok (.aload_n 2, 1) := by decide +kernel
theorem d4_177 : decode prog_85_method_3_code 177 = .ok (.iload 16, 2) := by decide +kernel
theorem d4_179 : decode prog_85_method_3_code 179 = .ok (.iconst 4, 1) := by decide +kernel
theorem d4_180 : decode prog_85_method_3_code 180 = .ok (.iload 8, 2) := by decide +kernel
theorem d4_182 : decode prog_85_method_3_code 182 = .ok (.imul, 1) := by decide +kernel
theorem d4_183 : decode prog_85_method_3_code 183 = .ok (.iadd, 1) := by decide +kernel
theorem d4_184 : decode prog_85_method_3_code 184 = .ok (.daload, 1) := by decide +kernel
theorem d4_185 : decode prog_85_method_3_code 185 = .ok (.dmul, 1) := by decide +kernel
theorem d4_186 : decode prog_85_method_3_code 186 = .ok (.dadd, 1) := by decide +kernel
theorem d4_187 : decode prog_85_method_3_code 187 = .ok (.dastore, 1) := by decide +kernel
theorem d4_188 : decode prog_85_method_3_code 188 = .ok (.aload_n 3, 1) := by decide +kernel
theorem d4_189 : decode prog_85_method_3_code 189 = .ok (.iload 15, 2) := by decide +kernel
theorem d4_191 : decode prog_85_method_3_code 191 = .ok (.iconst 5, 1) := by decide +kernel
theorem d4_192 : decode prog_85_method_3_code 192 = .ok (.iload 5, 2) := by decide +kernel
theorem d4_194 : decode prog_85_method_3_code 194 = .ok (.imul, 1) := by decide +kernel
theorem d4_195 : decode prog_85_method_3_code 195 = .ok (.iadd, 1) := by decide +kernel
theorem d4_196 : decode prog_85_method_3_code 196 = .ok (.dload 10, 2) := by decide +kernel
theorem d4_198 : decode prog_85_method_3_code 198 = .ok (.aload_n 1, 1) := by decide +kernel
theorem d4_199 : decode prog_85_method_3_code 199 = .ok (.iload 15, 2) := by decide +kernel
theorem d4_201 : decode prog_85_method_3_code 201 = .ok (.iconst 5, 1) := by decide +kernel
theorem d4_202 : decode prog_85_method_3_code 202 = .ok (.iload 5, 2) := by decide +kernel
theorem d4_204 : decode prog_85_method_3_code 204 = .ok (.imul, 1) := by decide +kernel
theorem d4_205 : decode prog_85_method_3_code 205 = .ok (.iadd, 1) := by decide +kernel
theorem d4_206 : decode prog_85_method_3_code 206 = .ok (.daload, 1) := by decide +kernel
theorem d4_207 : decode prog_85_method_3_code 207 = .ok (.dmul, 1) := by decide +kernel
theorem d4_208 : decode prog_85_method_3_code 208 = .ok (.dload 12, 2) := by decide +kernel
theorem d4_210 : decode prog_85_method_3_code 210 = .ok (.aload_n 2, 1) := by decide +kernel
theorem d4_211 : decode prog_85_method_3_code 211 = .ok (.iload 16, 2) := by decide +kernel
theorem d4_213 : decode prog_85_method_3_code 213 = .ok (.iconst 5, 1) := by decide +kernel
theorem d4_214 : decode prog_85_method_3_code 214 = .ok (.iload 8, 2) := by decide +kernel
theorem d4_216 : decode prog_85_method_3_code 216 = .ok (.imul, 1) := by decide +kernel
theorem d4_217 : decode prog_85_method_3_code 217 = .ok (.iadd, 1) := by decide +kernel
theorem d4_218 : decode prog_85_method_3_code 218 = .ok (.daload, 1) := by decide +kernel
theorem d4_219 : decode prog_85_method_3_code 219 = .ok (.dmul, 1) := by decide +kernel
theorem d4_220 : decode prog_85_method_3_code 220 = .ok (.dadd, 1) := by decide +kernel
theorem d4_221 : decode prog_85_method_3_code 221 = .ok (.dastore, 1) := by decide +kernel
theorem d4_222 : decode prog_85_method_3_code 222 = .ok (.aload_n 3, 1) := by decide +kernel
theorem d4_223 : decode prog_85_method_3_code 223 = .ok (.iload 15, 2) := by decide +kernel
theorem d4_225 : decode prog_85_method_3_code 225 = .ok (.bipush 6, 2) := by decide +kernel
theorem d4_227 : decode prog_85_method_3_code 227 = .ok (.iload 5, 2) := by decide +kernel
theorem d4_229 : decode prog_85_method_3_code 229 = .ok (.imul, 1) := by decide +kernel
theorem d4_230 : decode prog_85_method_3_code 230 = .ok (.iadd, 1) := by decide +kernel
theorem d4_231 : decode prog_85_method_3_code 231 = .ok (.dload 10, 2) := by decide +kernel
theorem d4_233 : decode prog_85_method_3_code 233 = .ok (.aload_n 1, 1) := by decide +kernel
theorem d4_234 : decode prog_85_method_3_code 234 = .ok (.iload 15, 2) := by decide +kernel
theorem d4_236 : decode prog_85_method_3_code 236 = .ok (.bipush 6, 2) := by decide +kernel
theorem d4_238 : decode prog_85_method_3_code 238 = .ok (.iload 5, 2) := by decide +kernel
theorem d4_240 : decode prog_85_method_3_code 240 = .ok (.imul, 1) := by decide +kernel
theorem d4_241 : decode prog_85_method_3_code 241 = .ok (.iadd, 1) := by decide +kernel
theorem d4_242 : decode prog_85_method_3_code 242 = .ok (.daload, 1) := by decide +kernel
theorem d4_243 : decode prog_85_method_3_code 243 = .ok (.dmul, 1) := by decide +kernel
theorem d4_244 : decode prog_85_method_3_code 244 = .ok (.dload 12, 2) := by decide +kernel
theorem d4_246 : decode prog_85_method_3_code 246 = .ok (.aload_n 2, 1) := by decide +kernel
theorem d4_247 : decode prog_85_method_3_code 247 = .ok (.iload 16, 2) := by decide +kernel
theorem d4_249 : decode prog_85_method_3_code 249 = .ok (.bipush 6, 2) := by decide +kernel
theorem d4_251 : decode prog_85_method_3_code 251 = .ok (.iload 8, 2) := by decide +kernel
theorem d4_253 : decode prog_85_method_3_code 253 = .ok (.imul, 1) := by decide +kernel
theorem d4_254 : decode prog_85_method_3_code 254 = .ok (.iadd, 1) := by decide +kernel
theorem d4_255 : decode prog_85_method_3_code 255 = .ok (.daload, 1) := by decide +kernel
theorem d4_256 : decode prog_85_method_3_code 256 = .ok (.dmul, 1) := by decide +kernel
theorem d4_257 : decode prog_85_method_3_code 257 = .ok (.dadd, 1) := by decide +kernel
theorem d4_258 : decode prog_85_method_3_code 258 = .ok (.dastore, 1) := by decide +kernel
theorem d4_259 : decode prog_85_method_3_code 259 = .ok (.aload_n 3, 1) := by decide +kernel
theorem d4_260 : decode prog_85_method_3_code 260 = .ok (.iload 15, 2) := by decide +kernel
theorem d4_262 : decode prog_85_method_3_code 262 = .ok (.bipush 7, 2) := by decide +kernel
theorem d4_264 : decode prog_85_method_3_code 264 = .ok (.iload 5, 2) := by decide +kernel
theorem d4_266 : decode prog_85_method_3_code 266 = .ok (.imul, 1) := by decide +kernel
theorem d4_267 : decode prog_85_method_3_code 267 = .ok (.iadd, 1) := by decide +kernel
theorem d4_268 : decode prog_85_method_3_code 268 = .ok (.dload 10, 2) := by decide +kernel
theorem d4_270 : decode prog_85_method_3_code 270 = .ok (.aload_n 1, 1) := by decide +kernel
theorem d4_271 : decode prog_85_method_3_code 271 = .ok (.iload 15, 2) := by decide +kernel
theorem d4_273 : decode prog_85_method_3_code 273 = .ok (.bipush 7, 2) := by decide +kernel
theorem d4_275 : decode prog_85_method_3_code 275 = .ok (.iload 5, 2) := by decide +kernel
theorem d4_277 : decode prog_85_method_3_code 277 = .ok (.imul, 1) := by decide +kernel
theorem d4_278 : decode prog_85_method_3_code 278 = .ok (.iadd, 1) := by decide +kernel
theorem d4_279 : decode prog_85_method_3_code 279 = .ok (.daload, 1) := by decide +kernel
theorem d4_280 : decode prog_85_method_3_code 280 = .ok (.dmul, 1) := by decide +kernel
theorem d4_281 : decode prog_85_method_3_code 281 = .ok (.dload 12, 2) := by decide +kernel
theorem d4_283 : decode prog_85_method_3_code 283 = .ok (.aload_n 2, 1) := by decide +kernel
theorem d4_284 : decode prog_85_method_3_code 284 = .ok (.iload 16, 2) := by decide +kernel
theorem d4_286 : decode prog_85_method_3_code 286 = .ok (.bipush 7, 2) := by decide +kernel
theorem d4_288 : decode prog_85_method_3_code 288 = .ok (.iload 8, 2) := by decide +kernel
theorem d4_290 : decode prog_85_method_3_code 290 = .ok (.imul, 1) := by decide +kernel
theorem d4_291 : decode prog_85_method_3_code 291 = .ok (.iadd, 1) := by decide +kernel
theorem d4_292 : decode prog_85_method_3_code 292 = .ok (.daload, 1) := by decide +kernel
theorem d4_293 : decode prog_85_method_3_code 293 = .ok (.dmul, 1) := by decide +kernel
theorem d4_294 : decode prog_85_method_3_code 294 = .ok (.dadd, 1) := by decide +kernel
theorem d4_295 : decode prog_85_method_3_code 295 = .ok (.dastore, 1) := by decide +kernel
theorem d4_296 : decode prog_85_method_3_code 296 = .ok (.iinc 14 1, 3) := by decide +kernel
theorem d4_299 : decode prog_85_method_3_code 299 = .ok (.goto (-284), 3) := by decide +kernel
set_option maxRecDepth 65536 in
set_option maxHeartbeats 40000000 in
theorem tnE {p : Program} {l : Launch} {e : Env} {R : Room} {s : State} {m : MethodId} {args : Array Value} {below : List Frame} {meth : Method} {c : Code} {T0 : State} {locs : List Loc} {cells slots : Nat} {Z : State} {a0 : Array Value} {h0 : Heap} {n0 : Nat} {P : State → Outcome → Prop} {ks : Addr} {aa : Addr} {bb : Addr} {rr : Addr} {ta : Int32} {rs : Int32} {tb : Int32} {bs : Int32} {bq : Int32} {cnt : Int32} {al : UInt64} {be : UInt64} {v : Int32} {x : Int32} {y : Int32} {s15 : Slot} {s16 : Slot} {ua : Nat → UInt64} {ub : Nat → UInt64} {ur : Nat → UInt64}
    (X0 : Stand p l e R s m args below meth c T0 locs cells slots) (hx : p.tables.exec = Jvm.exec) (hZ : Z.Warmed39 s.vm) (hw : ∀ d ∈ tables_1, d.before a0 Z = true) (hby : c.code = prog_85_method_3_code) (hml : c.maxLocals = 17) (hown : s.vm.findClass "com/example/indexica/indexica/ScaledSum" = some m.cls) (e0 : T0.heap = h0) (N0 : Fr n0 locs) (Z0 : n0 ≤ h0.size) (G_aa : own_Arf Z h0 aa .double (48 : Int32) (fun i => .double (ua i))) (G_bb : own_Arf Z h0 bb .double (60 : Int32) (fun i => .double (ub i))) (G_rr : own_Arf Z h0 rr .double (48 : Int32) (fun i => .double (ur i))) (g_rr : n0 ≤ rr) (ne_aa_rr : aa ≠ rr) (ne_bb_rr : bb ≠ rr) (hs15 : One s15) (hs16 : One s16) (hv : v < cnt) (hxq : ta + v = x) (hyq : tb + v * bs = y) (hal : Fin64 al) (hua : ∀ i, Fin64 (ua i)) (hmb : ∀ i, Fin64 (FP.dmul be (ub i))) (i0 : ¬ x < 0 ∧ x < (48 : Int32)) (i1 : ¬ (x + rs) < 0 ∧ (x + rs) < (48 : Int32)) (i2 : ¬ (x + ((2 : Int32) * rs)) < 0 ∧ (x + ((2 : Int32) * rs)) < (48 : Int32)) (i3 : ¬ (x + ((3 : Int32) * rs)) < 0 ∧ (x + ((3 : Int32) * rs)) < (48 : Int32)) (i4 : ¬ (x + ((4 : Int32) * rs)) < 0 ∧ (x + ((4 : Int32) * rs)) < (48 : Int32)) (i5 : ¬ (x + ((5 : Int32) * rs)) < 0 ∧ (x + ((5 : Int32) * rs)) < (48 : Int32)) (i6 : ¬ (x + ((6 : Int32) * rs)) < 0 ∧ (x + ((6 : Int32) * rs)) < (48 : Int32)) (i7 : ¬ (x + ((7 : Int32) * rs)) < 0 ∧ (x + ((7 : Int32) * rs)) < (48 : Int32)) (j0 : ¬ y < 0 ∧ y < (60 : Int32)) (j1 : ¬ (y + bq) < 0 ∧ (y + bq) < (60 : Int32)) (j2 : ¬ (y + ((2 : Int32) * bq)) < 0 ∧ (y + ((2 : Int32) * bq)) < (60 : Int32)) (j3 : ¬ (y + ((3 : Int32) * bq)) < 0 ∧ (y + ((3 : Int32) * bq)) < (60 : Int32)) (j4 : ¬ (y + ((4 : Int32) * bq)) < 0 ∧ (y + ((4 : Int32) * bq)) < (60 : Int32)) (j5 : ¬ (y + ((5 : Int32) * bq)) < 0 ∧ (y + ((5 : Int32) * bq)) < (60 : Int32)) (j6 : ¬ (y + ((6 : Int32) * bq)) < 0 ∧ (y + ((6 : Int32) * bq)) < (60 : Int32)) (j7 : ¬ (y + ((7 : Int32) * bq)) < 0 ∧ (y + ((7 : Int32) * bq)) < (60 : Int32))
    (K : ∀ (T' : State) (h' : Heap) (locs' : List Loc), Stand p l e R s m args below meth c T' locs' cells slots → T'.heap = h' → Fr n0 locs' → (Keep h0 h' [rr]) → (own_Arf Z h' aa .double (48 : Int32) (fun i => .double (ua i))) → (own_Arf Z h' bb .double (60 : Int32) (fun i => .double (ub i))) → (own_Arf Z h' rr .double (48 : Int32) (fun i => .double (own_T ur al be ua ub x y rs bq i))) → own_Go p.tables e below P (T'.setTop (mkF m 15 #[.val (.ref ks), .val (.ref aa), .val (.ref bb), .val (.ref rr), .val (.int ta), .val (.int rs), .val (.int tb), .val (.int bs), .val (.int bq), .val (.int cnt), .val (.double al), .second, .val (.double be), .second, .val (.int (v + (1 : Int32))), .val (.int x), .val (.int y)] []))) :
    own_Go p.tables e below P (T0.setTop (mkF m 15 #[.val (.ref ks), .val (.ref aa), .val (.ref bb), .val (.ref rr), .val (.int ta), .val (.int rs), .val (.int tb), .val (.int bs), .val (.int bq), .val (.int cnt), .val (.double al), .second, .val (.double be), .second, .val (.int v), s15, s16] [])) := by
  have ZH := Z0
  have KK := Keep.refl h0 [rr]
  refine own_up (fun _ kq => XS.iload X0.here hx rfl (hb hby d4_15) rfl kq) ?_
  show own_Go p.tables e below _ (T0.setTop (mkF m 17 #[.val (.ref ks), .val (.ref aa), .val (.ref bb), .val (.ref rr), .val (.int ta), .val (.int rs), .val (.int tb), .val (.int bs), .val (.int bq), .val (.int cnt), .val (.double al), .second, .val (.double be), .second, .val (.int v), s15, s16] [(.int v)]))
  refine own_up (fun _ kq => XS.iload X0.here hx rfl (hb hby d4_17) rfl kq) ?_
  show own_Go p.tables e below _ (T0.setTop (mkF m 19 #[.val (.ref ks), .val (.ref aa), .val (.ref bb), .val (.ref rr), .val (.int ta), .val (.int rs), .val (.int tb), .val (.int bs), .val (.int bq), .val (.int cnt), .val (.double al), .second, .val (.double be), .second, .val (.int v), s15, s16] [(.int cnt), (.int v)]))
  refine own_up (fun _ kq => XS.icmpNo X0.here hx rfl (hb hby d4_19) rfl (tlt hv).2.1 kq) ?_
  show own_Go p.tables e below _ (T0.setTop (mkF m 22 #[.val (.ref ks), .val (.ref aa), .val (.ref bb), .val (.ref rr), .val (.int ta), .val (.int rs), .val (.int tb), .val (.int bs), .val (.int bq), .val (.int cnt), .val (.double al), .second, .val (.double be), .second, .val (.int v), s15, s16] []))
  refine own_up (fun _ kq => XS.iload X0.here hx rfl (hb hby d4_22) rfl kq) ?_
  show own_Go p.tables e below _ (T0.setTop (mkF m 24 #[.val (.ref ks), .val (.ref aa), .val (.ref bb), .val (.ref rr), .val (.int ta), .val (.int rs), .val (.int tb), .val (.int bs), .val (.int bq), .val (.int cnt), .val (.double al), .second, .val (.double be), .second, .val (.int v), s15, s16] [(.int ta)]))
  refine own_up (fun _ kq => XS.iload X0.here hx rfl (hb hby d4_24) rfl kq) ?_
  show own_Go p.tables e below _ (T0.setTop (mkF m 26 #[.val (.ref ks), .val (.ref aa), .val (.ref bb), .val (.ref rr), .val (.int ta), .val (.int rs), .val (.int tb), .val (.int bs), .val (.int bq), .val (.int cnt), .val (.double al), .second, .val (.double be), .second, .val (.int v), s15, s16] [(.int v), (.int ta)]))
  refine own_up (fun _ kq => XS.iadd X0.here hx rfl (hb hby d4_26) rfl kq) ?_
  show own_Go p.tables e below _ (T0.setTop (mkF m 27 #[.val (.ref ks), .val (.ref aa), .val (.ref bb), .val (.ref rr), .val (.int ta), .val (.int rs), .val (.int tb), .val (.int bs), .val (.int bq), .val (.int cnt), .val (.double al), .second, .val (.double be), .second, .val (.int v), s15, s16] [(.int (ta + v))]))
  rw [hxq]
  show own_Go p.tables e below _ (T0.setTop (mkF m 27 #[.val (.ref ks), .val (.ref aa), .val (.ref bb), .val (.ref rr), .val (.int ta), .val (.int rs), .val (.int tb), .val (.int bs), .val (.int bq), .val (.int cnt), .val (.double al), .second, .val (.double be), .second, .val (.int v), s15, s16] [(.int x)]))
  refine own_up (fun _ kq => XS.istoreS X0.here hx rfl (hb hby d4_27) rfl rfl hs15 kq) ?_
  show own_Go p.tables e below _ (T0.setTop (mkF m 29 #[.val (.ref ks), .val (.ref aa), .val (.ref bb), .val (.ref rr), .val (.int ta), .val (.int rs), .val (.int tb), .val (.int bs), .val (.int bq), .val (.int cnt), .val (.double al), .second, .val (.double be), .second, .val (.int v), .val (.int x), s16] []))
  refine own_up (fun _ kq => XS.iload X0.here hx rfl (hb hby d4_29) rfl kq) ?_
  show own_Go p.tables e below _ (T0.setTop (mkF m 31 #[.val (.ref ks), .val (.ref aa), .val (.ref bb), .val (.ref rr), .val (.int ta), .val (.int rs), .val (.int tb), .val (.int bs), .val (.int bq), .val (.int cnt), .val (.double al), .second, .val (.double be), .second, .val (.int v), .val (.int x), s16] [(.int tb)]))
  refine own_up (fun _ kq => XS.iload X0.here hx rfl (hb hby d4_31) rfl kq) ?_
  show own_Go p.tables e below _ (T0.setTop (mkF m 33 #[.val (.ref ks), .val (.ref aa), .val (.ref bb), .val (.ref rr), .val (.int ta), .val (.int rs), .val (.int tb), .val (.int bs), .val (.int bq), .val (.int cnt), .val (.double al), .second, .val (.double be), .second, .val (.int v), .val (.int x), s16] [(.int v), (.int tb)]))
  refine own_up (fun _ kq => XS.iload X0.here hx rfl (hb hby d4_33) rfl kq) ?_
  show own_Go p.tables e below _ (T0.setTop (mkF m 35 #[.val (.ref ks), .val (.ref aa), .val (.ref bb), .val (.ref rr), .val (.int ta), .val (.int rs), .val (.int tb), .val (.int bs), .val (.int bq), .val (.int cnt), .val (.double al), .second, .val (.double be), .second, .val (.int v), .val (.int x), s16] [(.int bs), (.int v), (.int tb)]))
  refine own_up (fun _ kq => XS.imul X0.here hx rfl (hb hby d4_35) rfl kq) ?_
  show own_Go p.tables e below _ (T0.setTop (mkF m 36 #[.val (.ref ks), .val (.ref aa), .val (.ref bb), .val (.ref rr), .val (.int ta), .val (.int rs), .val (.int tb), .val (.int bs), .val (.int bq), .val (.int cnt), .val (.double al), .second, .val (.double be), .second, .val (.int v), .val (.int x), s16] [(.int (v * bs)), (.int tb)]))
  refine own_up (fun _ kq => XS.iadd X0.here hx rfl (hb hby d4_36) rfl kq) ?_
  show own_Go p.tables e below _ (T0.setTop (mkF m 37 #[.val (.ref ks), .val (.ref aa), .val (.ref bb), .val (.ref rr), .val (.int ta), .val (.int rs), .val (.int tb), .val (.int bs), .val (.int bq), .val (.int cnt), .val (.double al), .second, .val (.double be), .second, .val (.int v), .val (.int x), s16] [(.int (tb + (v * bs)))]))
  rw [hyq]
  show own_Go p.tables e below _ (T0.setTop (mkF m 37 #[.val (.ref ks), .val (.ref aa), .val (.ref bb), .val (.ref rr), .val (.int ta), .val (.int rs), .val (.int tb), .val (.int bs), .val (.int bq), .val (.int cnt), .val (.double al), .second, .val (.double be), .second, .val (.int v), .val (.int x), s16] [(.int y)]))
  refine own_up (fun _ kq => XS.istoreS X0.here hx rfl (hb hby d4_37) rfl rfl hs16 kq) ?_
  show own_Go p.tables e below _ (T0.setTop (mkF m 39 #[.val (.ref ks), .val (.ref aa), .val (.ref bb), .val (.ref rr), .val (.int ta), .val (.int rs), .val (.int tb), .val (.int bs), .val (.int bq), .val (.int cnt), .val (.double al), .second, .val (.double be), .second, .val (.int v), .val (.int x), .val (.int y)] []))
  refine own_up (fun _ kq => XS.aloadN X0.here hx rfl (hb hby d4_39) rfl rfl kq) ?_
  show own_Go p.tables e below _ (T0.setTop (mkF m 40 #[.val (.ref ks), .val (.ref aa), .val (.ref bb), .val (.ref rr), .val (.int ta), .val (.int rs), .val (.int tb), .val (.int bs), .val (.int bq), .val (.int cnt), .val (.double al), .second, .val (.double be), .second, .val (.int v), .val (.int x), .val (.int y)] [(.ref rr)]))
  refine own_up (fun _ kq => XS.iload X0.here hx rfl (hb hby d4_40) rfl kq) ?_
  show own_Go p.tables e below _ (T0.setTop (mkF m 42 #[.val (.ref ks), .val (.ref aa), .val (.ref bb), .val (.ref rr), .val (.int ta), .val (.int rs), .val (.int tb), .val (.int bs), .val (.int bq), .val (.int cnt), .val (.double al), .second, .val (.double be), .second, .val (.int v), .val (.int x), .val (.int y)] [(.int x), (.ref rr)]))
  refine own_up (fun _ kq => XS.dload X0.here hx rfl (hb hby d4_42) rfl kq) ?_
  show own_Go p.tables e below _ (T0.setTop (mkF m 44 #[.val (.ref ks), .val (.ref aa), .val (.ref bb), .val (.ref rr), .val (.int ta), .val (.int rs), .val (.int tb), .val (.int bs), .val (.int bq), .val (.int cnt), .val (.double al), .second, .val (.double be), .second, .val (.int v), .val (.int x), .val (.int y)] [(.double al), (.int x), (.ref rr)]))
  refine own_up (fun _ kq => XS.aloadN X0.here hx rfl (hb hby d4_44) rfl rfl kq) ?_
  show own_Go p.tables e below _ (T0.setTop (mkF m 45 #[.val (.ref ks), .val (.ref aa), .val (.ref bb), .val (.ref rr), .val (.int ta), .val (.int rs), .val (.int tb), .val (.int bs), .val (.int bq), .val (.int cnt), .val (.double al), .second, .val (.double be), .second, .val (.int v), .val (.int x), .val (.int y)] [(.ref aa), (.double al), (.int x), (.ref rr)]))
  refine own_up (fun _ kq => XS.iload X0.here hx rfl (hb hby d4_45) rfl kq) ?_
  show own_Go p.tables e below _ (T0.setTop (mkF m 47 #[.val (.ref ks), .val (.ref aa), .val (.ref bb), .val (.ref rr), .val (.int ta), .val (.int rs), .val (.int tb), .val (.int bs), .val (.int bq), .val (.int cnt), .val (.double al), .second, .val (.double be), .second, .val (.int v), .val (.int x), .val (.int y)] [(.int x), (.ref aa), (.double al), (.int x), (.ref rr)]))
  refine own_up (fun _ kq => own_Arf.daload G_aa X0 hx hZ e0 i0.1 i0.2 (v := (.double (ua (x).toNatClampNeg))) rfl (g := (mkF m 47 #[.val (.ref ks), .val (.ref aa), .val (.ref bb), .val (.ref rr), .val (.int ta), .val (.int rs), .val (.int tb), .val (.int bs), .val (.int bq), .val (.int cnt), .val (.double al), .second, .val (.double be), .second, .val (.int v), .val (.int x), .val (.int y)] [(.int x), (.ref aa), (.double al), (.int x), (.ref rr)])) rfl rfl (hb hby d4_47) _ kq) ?_
  show own_Go p.tables e below _ (T0.setTop (mkF m 48 #[.val (.ref ks), .val (.ref aa), .val (.ref bb), .val (.ref rr), .val (.int ta), .val (.int rs), .val (.int tb), .val (.int bs), .val (.int bq), .val (.int cnt), .val (.double al), .second, .val (.double be), .second, .val (.int v), .val (.int x), .val (.int y)] [(.double (ua (x).toNatClampNeg)), (.double al), (.int x), (.ref rr)]))
  refine own_up (fun _ kq => XS.dmulS X0.here hx rfl (v := (FP.dmul al (ua (x).toNatClampNeg))) (hb hby d4_48) rfl (dmul_out hal (hua _)) rfl kq) ?_
  show own_Go p.tables e below _ (T0.setTop (mkF m 49 #[.val (.ref ks), .val (.ref aa), .val (.ref bb), .val (.ref rr), .val (.int ta), .val (.int rs), .val (.int tb), .val (.int bs), .val (.int bq), .val (.int cnt), .val (.double al), .second, .val (.double be), .second, .val (.int v), .val (.int x), .val (.int y)] [(.double (FP.dmul al (ua (x).toNatClampNeg))), (.int x), (.ref rr)]))
  refine own_up (fun _ kq => XS.dload X0.here hx rfl (hb hby d4_49) rfl kq) ?_
  show own_Go p.tables e below _ (T0.setTop (mkF m 51 #[.val (.ref ks), .val (.ref aa), .val (.ref bb), .val (.ref rr), .val (.int ta), .val (.int rs), .val (.int tb), .val (.int bs), .val (.int bq), .val (.int cnt), .val (.double al), .second, .val (.double be), .second, .val (.int v), .val (.int x), .val (.int y)] [(.double be), (.double (FP.dmul al (ua (x).toNatClampNeg))), (.int x), (.ref rr)]))
  refine own_up (fun _ kq => XS.aloadN X0.here hx rfl (hb hby d4_51) rfl rfl kq) ?_
  show own_Go p.tables e below _ (T0.setTop (mkF m 52 #[.val (.ref ks), .val (.ref aa), .val (.ref bb), .val (.ref rr), .val (.int ta), .val (.int rs), .val (.int tb), .val (.int bs), .val (.int bq), .val (.int cnt), .val (.double al), .second, .val (.double be), .second, .val (.int v), .val (.int x), .val (.int y)] [(.ref bb), (.double be), (.double (FP.dmul al (ua (x).toNatClampNeg))), (.int x), (.ref rr)]))
  refine own_up (fun _ kq => XS.iload X0.here hx rfl (hb hby d4_52) rfl kq) ?_
  show own_Go p.tables e below _ (T0.setTop (mkF m 54 #[.val (.ref ks), .val (.ref aa), .val (.ref bb), .val (.ref rr), .val (.int ta), .val (.int rs), .val (.int tb), .val (.int bs), .val (.int bq), .val (.int cnt), .val (.double al), .second, .val (.double be), .second, .val (.int v), .val (.int x), .val (.int y)] [(.int y), (.ref bb), (.double be), (.double (FP.dmul al (ua (x).toNatClampNeg))), (.int x), (.ref rr)]))
  refine own_up (fun _ kq => own_Arf.daload G_bb X0 hx hZ e0 j0.1 j0.2 (v := (.double (ub (y).toNatClampNeg))) rfl (g := (mkF m 54 #[.val (.ref ks), .val (.ref aa), .val (.ref bb), .val (.ref rr), .val (.int ta), .val (.int rs), .val (.int tb), .val (.int bs), .val (.int bq), .val (.int cnt), .val (.double al), .second, .val (.double be), .second, .val (.int v), .val (.int x), .val (.int y)] [(.int y), (.ref bb), (.double be), (.double (FP.dmul al (ua (x).toNatClampNeg))), (.int x), (.ref rr)])) rfl rfl (hb hby d4_54) _ kq) ?_
  show own_Go p.tables e below _ (T0.setTop (mkF m 55 #[.val (.ref ks), .val (.ref aa), .val (.ref bb), .val (.ref rr), .val (.int ta), .val (.int rs), .val (.int tb), .val (.int bs), .val (.int bq), .val (.int cnt), .val (.double al), .second, .val (.double be), .second, .val (.int v), .val (.int x), .val (.int y)] [(.double (ub (y).toNatClampNeg)), (.double be), (.double (FP.dmul al (ua (x).toNatClampNeg))), (.int x), (.ref rr)]))
  refine own_up (fun _ kq => XS.dmulS X0.here hx rfl (v := (FP.dmul be (ub (y).toNatClampNeg))) (hb hby d4_55) rfl (hmb _).noNaN rfl kq) ?_
  show own_Go p.tables e below _ (T0.setTop (mkF m 56 #[.val (.ref ks), .val (.ref aa), .val (.ref bb), .val (.ref rr), .val (.int ta), .val (.int rs), .val (.int tb), .val (.int bs), .val (.int bq), .val (.int cnt), .val (.double al), .second, .val (.double be), .second, .val (.int v), .val (.int x), .val (.int y)] [(.double (FP.dmul be (ub (y).toNatClampNeg))), (.double (FP.dmul al (ua (x).toNatClampNeg))), (.int x), (.ref rr)]))
  refine own_up (fun _ kq => XS.daddS X0.here hx rfl (v := (FP.dadd (FP.dmul al (ua (x).toNatClampNeg)) (FP.dmul be (ub (y).toNatClampNeg)))) (hb hby d4_56) rfl (dadd_out (dmul_out hal (hua _)) (hmb _)) rfl kq) ?_
  show own_Go p.tables e below _ (T0.setTop (mkF m 57 #[.val (.ref ks), .val (.ref aa), .val (.ref bb), .val (.ref rr), .val (.int ta), .val (.int rs), .val (.int tb), .val (.int bs), .val (.int bq), .val (.int cnt), .val (.double al), .second, .val (.double be), .second, .val (.int v), .val (.int x), .val (.int y)] [(.double (FP.dadd (FP.dmul al (ua (x).toNatClampNeg)) (FP.dmul be (ub (y).toNatClampNeg)))), (.int x), (.ref rr)]))
  obtain ⟨cl1, Ar1, sz1, nz1, hc1⟩ := id G_rr
  obtain ⟨T1, h1, X1, e1, W1, st1⟩ := stD X0 hx hZ e0 Ar1 (j := x) (inb_of sz1 ⟨i0.1, i0.2⟩) (g := (mkF m 57 #[.val (.ref ks), .val (.ref aa), .val (.ref bb), .val (.ref rr), .val (.int ta), .val (.int rs), .val (.int tb), .val (.int bs), .val (.int bq), .val (.int cnt), .val (.double al), .second, .val (.double be), .second, .val (.int v), .val (.int x), .val (.int y)] [(.double (FP.dadd (FP.dmul al (ua (x).toNatClampNeg)) (FP.dmul be (ub (y).toNatClampNeg)))), (.int x), (.ref rr)])) rfl rfl (hb hby d4_57)
  have G_rr : own_Arf Z h1 rr .double (48 : Int32) (fun i => .double ((own_upd ur x (FP.dadd (FP.dmul al (ua (x).toNatClampNeg)) (FP.dmul be (ub (y).toNatClampNeg)))) i)) := own_Arf.setD G_rr W1
  have N1 := Fr.snoc X1 N0 g_rr
  have G_aa := G_aa.other W1 ne_aa_rr
  have G_bb := G_bb.other W1 ne_bb_rr
  have ZH := Nat.le_trans ZH (Nat.le_of_eq W1.size.symm)
  have KK := KK.wr W1 (Or.inl (List.mem_of_getElem? (i := 0) rfl))
  refine own_up st1 ?_
  show own_Go p.tables e below _ (T1.setTop (mkF m 58 #[.val (.ref ks), .val (.ref aa), .val (.ref bb), .val (.ref rr), .val (.int ta), .val (.int rs), .val (.int tb), .val (.int bs), .val (.int bq), .val (.int cnt), .val (.double al), .second, .val (.double be), .second, .val (.int v), .val (.int x), .val (.int y)] []))
  refine own_up (fun _ kq => XS.aloadN X1.here hx rfl (hb hby d4_58) rfl rfl kq) ?_
  show own_Go p.tables e below _ (T1.setTop (mkF m 59 #[.val (.ref ks), .val (.ref aa), .val (.ref bb), .val (.ref rr), .val (.int ta), .val (.int rs), .val (.int tb), .val (.int bs), .val (.int bq), .val (.int cnt), .val (.double al), .second, .val (.double be), .second, .val (.int v), .val (.int x), .val (.int y)] [(.ref rr)]))
  refine own_up (fun _ kq => XS.iload X1.here hx rfl (hb hby d4_59) rfl kq) ?_
  show own_Go p.tables e below _ (T1.setTop (mkF m 61 #[.val (.ref ks), .val (.ref aa), .val (.ref bb), .val (.ref rr), .val (.int ta), .val (.int rs), .val (.int tb), .val (.int bs), .val (.int bq), .val (.int cnt), .val (.double al), .second, .val (.double be), .second, .val (.int v), .val (.int x), .val (.int y)] [(.int x), (.ref rr)]))
  refine own_up (fun _ kq => XS.iload X1.here hx rfl (hb hby d4_61) rfl kq) ?_
  show own_Go p.tables e below _ (T1.setTop (mkF m 63 #[.val (.ref ks), .val (.ref aa), .val (.ref bb), .val (.ref rr), .val (.int ta), .val (.int rs), .val (.int tb), .val (.int bs), .val (.int bq), .val (.int cnt), .val (.double al), .second, .val (.double be), .second, .val (.int v), .val (.int x), .val (.int y)] [(.int rs), (.int x), (.ref rr)]))
  refine own_up (fun _ kq => XS.iadd X1.here hx rfl (hb hby d4_63) rfl kq) ?_
  show own_Go p.tables e below _ (T1.setTop (mkF m 64 #[.val (.ref ks), .val (.ref aa), .val (.ref bb), .val (.ref rr), .val (.int ta), .val (.int rs), .val (.int tb), .val (.int bs), .val (.int bq), .val (.int cnt), .val (.double al), .second, .val (.double be), .second, .val (.int v), .val (.int x), .val (.int y)] [(.int (x + rs)), (.ref rr)]))
  refine own_up (fun _ kq => XS.dload X1.here hx rfl (hb hby d4_64) rfl kq) ?_
  show own_Go p.tables e below _ (T1.setTop (mkF m 66 #[.val (.ref ks), .val (.ref aa), .val (.ref bb), .val (.ref rr), .val (.int ta), .val (.int rs), .val (.int tb), .val (.int bs), .val (.int bq), .val (.int cnt), .val (.double al), .second, .val (.double be), .second, .val (.int v), .val (.int x), .val (.int y)] [(.double al), (.int (x + rs)), (.ref rr)]))
  refine own_up (fun _ kq => XS.aloadN X1.here hx rfl (hb hby d4_66) rfl rfl kq) ?_
  show own_Go p.tables e below _ (T1.setTop (mkF m 67 #[.val (.ref ks), .val (.ref aa), .val (.ref bb), .val (.ref rr), .val (.int ta), .val (.int rs), .val (.int tb), .val (.int bs), .val (.int bq), .val (.int cnt), .val (.double al), .second, .val (.double be), .second, .val (.int v), .val (.int x), .val (.int y)] [(.ref aa), (.double al), (.int (x + rs)), (.ref rr)]))
  refine own_up (fun _ kq => XS.iload X1.here hx rfl (hb hby d4_67) rfl kq) ?_
  show own_Go p.tables e below _ (T1.setTop (mkF m 69 #[.val (.ref ks), .val (.ref aa), .val (.ref bb), .val (.ref rr), .val (.int ta), .val (.int rs), .val (.int tb), .val (.int bs), .val (.int bq), .val (.int cnt), .val (.double al), .second, .val (.double be), .second, .val (.int v), .val (.int x), .val (.int y)] [(.int x), (.ref aa), (.double al), (.int (x + rs)), (.ref rr)]))
  refine own_up (fun _ kq => XS.iload X1.here hx rfl (hb hby d4_69) rfl kq) ?_
  show own_Go p.tables e below _ (T1.setTop (mkF m 71 #[.val (.ref ks), .val (.ref aa), .val (.ref bb), .val (.ref rr), .val (.int ta), .val (.int rs), .val (.int tb), .val (.int bs), .val (.int bq), .val (.int cnt), .val (.double al), .second, .val (.double be), .second, .val (.int v), .val (.int x), .val (.int y)] [(.int rs), (.int x), (.ref aa), (.double al), (.int (x + rs)), (.ref rr)]))
  refine own_up (fun _ kq => XS.iadd X1.here hx rfl (hb hby d4_71) rfl kq) ?_
  show own_Go p.tables e below _ (T1.setTop (mkF m 72 #[.val (.ref ks), .val (.ref aa), .val (.ref bb), .val (.ref rr), .val (.int ta), .val (.int rs), .val (.int tb), .val (.int bs), .val (.int bq), .val (.int cnt), .val (.double al), .second, .val (.double be), .second, .val (.int v), .val (.int x), .val (.int y)] [(.int (x + rs)), (.ref aa), (.double al), (.int (x + rs)), (.ref rr)]))
  refine own_up (fun _ kq => own_Arf.daload G_aa X1 hx hZ e1 i1.1 i1.2 (v := (.double (ua ((x + rs)).toNatClampNeg))) rfl (g := (mkF m 72 #[.val (.ref ks), .val (.ref aa), .val (.ref bb), .val (.ref rr), .val (.int ta), .val (.int rs), .val (.int tb), .val (.int bs), .val (.int bq), .val (.int cnt), .val (.double al), .second, .val (.double be), .second, .val (.int v), .val (.int x), .val (.int y)] [(.int (x + rs)), (.ref aa), (.double al), (.int (x + rs)), (.ref rr)])) rfl rfl (hb hby d4_72) _ kq) ?_
  show own_Go p.tables e below _ (T1.setTop (mkF m 73 #[.val (.ref ks), .val (.ref aa), .val (.ref bb), .val (.ref rr), .val (.int ta), .val (.int rs), .val (.int tb), .val (.int bs), .val (.int bq), .val (.int cnt), .val (.double al), .second, .val (.double be), .second, .val (.int v), .val (.int x), .val (.int y)] [(.double (ua ((x + rs)).toNatClampNeg)), (.double al), (.int (x + rs)), (.ref rr)]))
  refine own_up (fun _ kq => XS.dmulS X1.here hx rfl (v := (FP.dmul al (ua ((x + rs)).toNatClampNeg))) (hb hby d4_73) rfl (dmul_out hal (hua _)) rfl kq) ?_
  show own_Go p.tables e below _ (T1.setTop (mkF m 74 #[.val (.ref ks), .val (.ref aa), .val (.ref bb), .val (.ref rr), .val (.int ta), .val (.int rs), .val (.int tb), .val (.int bs), .val (.int bq), .val (.int cnt), .val (.double al), .second, .val (.double be), .second, .val (.int v), .val (.int x), .val (.int y)] [(.double (FP.dmul al (ua ((x + rs)).toNatClampNeg))), (.int (x + rs)), (.ref rr)]))
  refine own_up (fun _ kq => XS.dload X1.here hx rfl (hb hby d4_74) rfl kq) ?_
  show own_Go p.tables e below _ (T1.setTop (mkF m 76 #[.val (.ref ks), .val (.ref aa), .val (.ref bb), .val (.ref rr), .val (.int ta), .val (.int rs), .val (.int tb), .val (.int bs), .val (.int bq), .val (.int cnt), .val (.double al), .second, .val (.double be), .second, .val (.int v), .val (.int x), .val (.int y)] [(.double be), (.double (FP.dmul al (ua ((x + rs)).toNatClampNeg))), (.int (x + rs)), (.ref rr)]))
  refine own_up (fun _ kq => XS.aloadN X1.here hx rfl (hb hby d4_76) rfl rfl kq) ?_
  show own_Go p.tables e below _ (T1.setTop (mkF m 77 #[.val (.ref ks), .val (.ref aa), .val (.ref bb), .val (.ref rr), .val (.int ta), .val (.int rs), .val (.int tb), .val (.int bs), .val (.int bq), .val (.int cnt), .val (.double al), .second, .val (.double be), .second, .val (.int v), .val (.int x), .val (.int y)] [(.ref bb), (.double be), (.double (FP.dmul al (ua ((x + rs)).toNatClampNeg))), (.int (x + rs)), (.ref rr)]))
  refine own_up (fun _ kq => XS.iload X1.here hx rfl (hb hby d4_77) rfl kq) ?_
  show own_Go p.tables e below _ (T1.setTop (mkF m 79 #[.val (.ref ks), .val (.ref aa), .val (.ref bb), .val (.ref rr), .val (.int ta), .val (.int rs), .val (.int tb), .val (.int bs), .val (.int bq), .val (.int cnt), .val (.double al), .second, .val (.double be), .second, .val (.int v), .val (.int x), .val (.int y)] [(.int y), (.ref bb), (.double be), (.double (FP.dmul al (ua ((x + rs)).toNatClampNeg))), (.int (x + rs)), (.ref rr)]))
  refine own_up (fun _ kq => XS.iload X1.here hx rfl (hb hby d4_79) rfl kq) ?_
  show own_Go p.tables e below _ (T1.setTop (mkF m 81 #[.val (.ref ks), .val (.ref aa), .val (.ref bb), .val (.ref rr), .val (.int ta), .val (.int rs), .val (.int tb), .val (.int bs), .val (.int bq), .val (.int cnt), .val (.double al), .second, .val (.double be), .second, .val (.int v), .val (.int x), .val (.int y)] [(.int bq), (.int y), (.ref bb), (.double be), (.double (FP.dmul al (ua ((x + rs)).toNatClampNeg))), (.int (x + rs)), (.ref rr)]))
  refine own_up (fun _ kq => XS.iadd X1.here hx rfl (hb hby d4_81) rfl kq) ?_
  show own_Go p.tables e below _ (T1.setTop (mkF m 82 #[.val (.ref ks), .val (.ref aa), .val (.ref bb), .val (.ref rr), .val (.int ta), .val (.int rs), .val (.int tb), .val (.int bs), .val (.int bq), .val (.int cnt), .val (.double al), .second, .val (.double be), .second, .val (.int v), .val (.int x), .val (.int y)] [(.int (y + bq)), (.ref bb), (.double be), (.double (FP.dmul al (ua ((x + rs)).toNatClampNeg))), (.int (x + rs)), (.ref rr)]))
  refine own_up (fun _ kq => own_Arf.daload G_bb X1 hx hZ e1 j1.1 j1.2 (v := (.double (ub ((y + bq)).toNatClampNeg))) rfl (g := (mkF m 82 #[.val (.ref ks), .val (.ref aa), .val (.ref bb), .val (.ref rr), .val (.int ta), .val (.int rs), .val (.int tb), .val (.int bs), .val (.int bq), .val (.int cnt), .val (.double al), .second, .val (.double be), .second, .val (.int v), .val (.int x), .val (.int y)] [(.int (y + bq)), (.ref bb), (.double be), (.double (FP.dmul al (ua ((x + rs)).toNatClampNeg))), (.int (x + rs)), (.ref rr)])) rfl rfl (hb hby d4_82) _ kq) ?_
  show own_Go p.tables e below _ (T1.setTop (mkF m 83 #[.val (.ref ks), .val (.ref aa), .val (.ref bb), .val (.ref rr), .val (.int ta), .val (.int rs), .val (.int tb), .val (.int bs), .val (.int bq), .val (.int cnt), .val (.double al), .second, .val (.double be), .second, .val (.int v), .val (.int x), .val (.int y)] [(.double (ub ((y + bq)).toNatClampNeg)), (.double be), (.double (FP.dmul al (ua ((x + rs)).toNatClampNeg))), (.int (x + rs)), (.ref rr)]))
  refine own_up (fun _ kq => XS.dmulS X1.here hx rfl (v := (FP.dmul be (ub ((y + bq)).toNatClampNeg))) (hb hby d4_83) rfl (hmb _).noNaN rfl kq) ?_
  show own_Go p.tables e below _ (T1.setTop (mkF m 84 #[.val (.ref ks), .val (.ref aa), .val (.ref bb), .val (.ref rr), .val (.int ta), .val (.int rs), .val (.int tb), .val (.int bs), .val (.int bq), .val (.int cnt), .val (.double al), .second, .val (.double be), .second, .val (.int v), .val (.int x), .val (.int y)] [(.double (FP.dmul be (ub ((y + bq)).toNatClampNeg))), (.double (FP.dmul al (ua ((x + rs)).toNatClampNeg))), (.int (x + rs)), (.ref rr)]))
  refine own_up (fun _ kq => XS.daddS X1.here hx rfl (v := (FP.dadd (FP.dmul al (ua ((x + rs)).toNatClampNeg)) (FP.dmul be (ub ((y + bq)).toNatClampNeg)))) (hb hby d4_84) rfl (dadd_out (dmul_out hal (hua _)) (hmb _)) rfl kq) ?_
  show own_Go p.tables e below _ (T1.setTop (mkF m 85 #[.val (.ref ks), .val (.ref aa), .val (.ref bb), .val (.ref rr), .val (.int ta), .val (.int rs), .val (.int tb), .val (.int bs), .val (.int bq), .val (.int cnt), .val (.double al), .second, .val (.double be), .second, .val (.int v), .val (.int x), .val (.int y)] [(.double (FP.dadd (FP.dmul al (ua ((x + rs)).toNatClampNeg)) (FP.dmul be (ub ((y + bq)).toNatClampNeg)))), (.int (x + rs)), (.ref rr)]))
  obtain ⟨cl2, Ar2, sz2, nz2, hc2⟩ := id G_rr
  obtain ⟨T2, h2, X2, e2, W2, st2⟩ := stD X1 hx hZ e1 Ar2 (j := (x + rs)) (inb_of sz2 ⟨i1.1, i1.2⟩) (g := (mkF m 85 #[.val (.ref ks), .val (.ref aa), .val (.ref bb), .val (.ref rr), .val (.int ta), .val (.int rs), .val (.int tb), .val (.int bs), .val (.int bq), .val (.int cnt), .val (.double al), .second, .val (.double be), .second, .val (.int v), .val (.int x), .val (.int y)] [(.double (FP.dadd (FP.dmul al (ua ((x + rs)).toNatClampNeg)) (FP.dmul be (ub ((y + bq)).toNatClampNeg)))), (.int (x + rs)), (.ref rr)])) rfl rfl (hb hby d4_85)
  have G_rr : own_Arf Z h2 rr .double (48 : Int32) (fun i => .double ((own_upd (own_upd ur x (FP.dadd (FP.dmul al (ua (x).toNatClampNeg)) (FP.dmul be (ub (y).toNatClampNeg)))) (x + rs) (FP.dadd (FP.dmul al (ua ((x + rs)).toNatClampNeg)) (FP.dmul be (ub ((y + bq)).toNatClampNeg)))) i)) := own_Arf.setD G_rr W2
  have N2 := Fr.snoc X2 N1 g_rr
  have G_aa := G_aa.other W2 ne_aa_rr
  have G_bb := G_bb.other W2 ne_bb_rr
  have ZH := Nat.le_trans ZH (Nat.le_of_eq W2.size.symm)
  have KK := KK.wr W2 (Or.inl (List.mem_of_getElem? (i := 0) rfl))
  refine own_up st2 ?_
  show own_Go p.tables e below _ (T2.setTop (mkF m 86 #[.val (.ref ks), .val (.ref aa), .val (.ref bb), .val (.ref rr), .val (.int ta), .val (.int rs), .val (.int tb), .val (.int bs), .val (.int bq), .val (.int cnt), .val (.double al), .second, .val (.double be), .second, .val (.int v), .val (.int x), .val (.int y)] []))
  refine own_up (fun _ kq => XS.aloadN X2.here hx rfl (hb hby d4_86) rfl rfl kq) ?_
  show own_Go p.tables e below _ (T2.setTop (mkF m 87 #[.val (.ref ks), .val (.ref aa), .val (.ref bb), .val (.ref rr), .val (.int ta), .val (.int rs), .val (.int tb), .val (.int bs), .val (.int bq), .val (.int cnt), .val (.double al), .second, .val (.double be), .second, .val (.int v), .val (.int x), .val (.int y)] [(.ref rr)]))
  refine own_up (fun _ kq => XS.iload X2.here hx rfl (hb hby d4_87) rfl kq) ?_
  show own_Go p.tables e below _ (T2.setTop (mkF m 89 #[.val (.ref ks), .val (.ref aa), .val (.ref bb), .val (.ref rr), .val (.int ta), .val (.int rs), .val (.int tb), .val (.int bs), .val (.int bq), .val (.int cnt), .val (.double al), .second, .val (.double be), .second, .val (.int v), .val (.int x), .val (.int y)] [(.int x), (.ref rr)]))
  refine own_up (fun _ kq => XS.iconst X2.here hx rfl (hb hby d4_89) kq) ?_
  show own_Go p.tables e below _ (T2.setTop (mkF m 90 #[.val (.ref ks), .val (.ref aa), .val (.ref bb), .val (.ref rr), .val (.int ta), .val (.int rs), .val (.int tb), .val (.int bs), .val (.int bq), .val (.int cnt), .val (.double al), .second, .val (.double be), .second, .val (.int v), .val (.int x), .val (.int y)] [(.int (2 : Int32)), (.int x), (.ref rr)]))
  refine own_up (fun _ kq => XS.iload X2.here hx rfl (hb hby d4_90) rfl kq) ?_
  show own_Go p.tables e below _ (T2.setTop (mkF m 92 #[.val (.ref ks), .val (.ref aa), .val (.ref bb), .val (.ref rr), .val (.int ta), .val (.int rs), .val (.int tb), .val (.int bs), .val (.int bq), .val (.int cnt), .val (.double al), .second, .val (.double be), .second, .val (.int v), .val (.int x), .val (.int y)] [(.int rs), (.int (2 : Int32)), (.int x), (.ref rr)]))
  refine own_up (fun _ kq => XS.imul X2.here hx rfl (hb hby d4_92) rfl kq) ?_
  show own_Go p.tables e below _ (T2.setTop (mkF m 93 #[.val (.ref ks), .val (.ref aa), .val (.ref bb), .val (.ref rr), .val (.int ta), .val (.int rs), .val (.int tb), .val (.int bs), .val (.int bq), .val (.int cnt), .val (.double al), .second, .val (.double be), .second, .val (.int v), .val (.int x), .val (.int y)] [(.int ((2 : Int32) * rs)), (.int x), (.ref rr)]))
  refine own_up (fun _ kq => XS.iadd X2.here hx rfl (hb hby d4_93) rfl kq) ?_
  show own_Go p.tables e below _ (T2.setTop (mkF m 94 #[.val (.ref ks), .val (.ref aa), .val (.ref bb), .val (.ref rr), .val (.int ta), .val (.int rs), .val (.int tb), .val (.int bs), .val (.int bq), .val (.int cnt), .val (.double al), .second, .val (.double be), .second, .val (.int v), .val (.int x), .val (.int y)] [(.int (x + ((2 : Int32) * rs))), (.ref rr)]))
  refine own_up (fun _ kq => XS.dload X2.here hx rfl (hb hby d4_94) rfl kq) ?_
  show own_Go p.tables e below _ (T2.setTop (mkF m 96 #[.val (.ref ks), .val (.ref aa), .val (.ref bb), .val (.ref rr), .val (.int ta), .val (.int rs), .val (.int tb), .val (.int bs), .val (.int bq), .val (.int cnt), .val (.double al), .second, .val (.double be), .second, .val (.int v), .val (.int x), .val (.int y)] [(.double al), (.int (x + ((2 : Int32) * rs))), (.ref rr)]))
  refine own_up (fun _ kq => XS.aloadN X2.here hx rfl (hb hby d4_96) rfl rfl kq) ?_
  show own_Go p.tables e below _ (T2.setTop (mkF m 97 #[.val (.ref ks), .val (.ref aa), .val (.ref bb), .val (.ref rr), .val (.int ta), .val (.int rs), .val (.int tb), .val (.int bs), .val (.int bq), .val (.int cnt), .val (.double al), .second, .val (.double be), .second, .val (.int v), .val (.int x), .val (.int y)] [(.ref aa), (.double al), (.int (x + ((2 : Int32) * rs))), (.ref rr)]))
  refine own_up (fun _ kq => XS.iload X2.here hx rfl (hb hby d4_97) rfl kq) ?_
  show own_Go p.tables e below _ (T2.setTop (mkF m 99 #[.val (.ref ks), .val (.ref aa), .val (.ref bb), .val (.ref rr), .val (.int ta), .val (.int rs), .val (.int tb), .val (.int bs), .val (.int bq), .val (.int cnt), .val (.double al), .second, .val (.double be), .second, .val (.int v), .val (.int x), .val (.int y)] [(.int x), (.ref aa), (.double al), (.int (x + ((2 : Int32) * rs))), (.ref rr)]))
  refine own_up (fun _ kq => XS.iconst X2.here hx rfl (hb hby d4_99) kq) ?_
  show own_Go p.tables e below _ (T2.setTop (mkF m 100 #[.val (.ref ks), .val (.ref aa), .val (.ref bb), .val (.ref rr), .val (.int ta), .val (.int rs), .val (.int tb), .val (.int bs), .val (.int bq), .val (.int cnt), .val (.double al), .second, .val (.double be), .second, .val (.int v), .val (.int x), .val (.int y)] [(.int (2 : Int32)), (.int x), (.ref aa), (.double al), (.int (x + ((2 : Int32) * rs))), (.ref rr)]))
  refine own_up (fun _ kq => XS.iload X2.here hx rfl (hb hby d4_100) rfl kq) ?_
  show own_Go p.tables e below _ (T2.setTop (mkF m 102 #[.val (.ref ks), .val (.ref aa), .val (.ref bb), .val (.ref rr), .val (.int ta), .val (.int rs), .val (.int tb), .val (.int bs), .val (.int bq), .val (.int cnt), .val (.double al), .second, .val (.double be), .second, .val (.int v), .val (.int x), .val (.int y)] [(.int rs), (.int (2 : Int32)), (.int x), (.ref aa), (.double al), (.int (x + ((2 : Int32) * rs))), (.ref rr)]))
  refine own_up (fun _ kq => XS.imul X2.here hx rfl (hb hby d4_102) rfl kq) ?_
  show own_Go p.tables e below _ (T2.setTop (mkF m 103 #[.val (.ref ks), .val (.ref aa), .val (.ref bb), .val (.ref rr), .val (.int ta), .val (.int rs), .val (.int tb), .val (.int bs), .val (.int bq), .val (.int cnt), .val (.double al), .second, .val (.double be), .second, .val (.int v), .val (.int x), .val (.int y)] [(.int ((2 : Int32) * rs)), (.int x), (.ref aa), (.double al), (.int (x + ((2 : Int32) * rs))), (.ref rr)]))
  refine own_up (fun _ kq => XS.iadd X2.here hx rfl (hb hby d4_103) rfl kq) ?_
  show own_Go p.tables e below _ (T2.setTop (mkF m 104 #[.val (.ref ks), .val (.ref aa), .val (.ref bb), .val (.ref rr), .val (.int ta), .val (.int rs), .val (.int tb), .val (.int bs), .val (.int bq), .val (.int cnt), .val (.double al), .second, .val (.double be), .second, .val (.int v), .val (.int x), .val (.int y)] [(.int (x + ((2 : Int32) * rs))), (.ref aa), (.double al), (.int (x + ((2 : Int32) * rs))), (.ref rr)]))
  refine own_up (fun _ kq => own_Arf.daload G_aa X2 hx hZ e2 i2.1 i2.2 (v := (.double (ua ((x + ((2 : Int32) * rs))).toNatClampNeg))) rfl (g := (mkF m 104 #[.val (.ref ks), .val (.ref aa), .val (.ref bb), .val (.ref rr), .val (.int ta), .val (.int rs), .val (.int tb), .val (.int bs), .val (.int bq), .val (.int cnt), .val (.double al), .second, .val (.double be), .second, .val (.int v), .val (.int x), .val (.int y)] [(.int (x + ((2 : Int32) * rs))), (.ref aa), (.double al), (.int (x + ((2 : Int32) * rs))), (.ref rr)])) rfl rfl (hb hby d4_104) _ kq) ?_
  show own_Go p.tables e below _ (T2.setTop (mkF m 105 #[.val (.ref ks), .val (.ref aa), .val (.ref bb), .val (.ref rr), .val (.int ta), .val (.int rs), .val (.int tb), .val (.int bs), .val (.int bq), .val (.int cnt), .val (.double al), .second, .val (.double be), .second, .val (.int v), .val (.int x), .val (.int y)] [(.double (ua ((x + ((2 : Int32) * rs))).toNatClampNeg)), (.double al), (.int (x + ((2 : Int32) * rs))), (.ref rr)]))
  refine own_up (fun _ kq => XS.dmulS X2.here hx rfl (v := (FP.dmul al (ua ((x + ((2 : Int32) * rs))).toNatClampNeg))) (hb hby d4_105) rfl (dmul_out hal (hua _)) rfl kq) ?_
  show own_Go p.tables e below _ (T2.setTop (mkF m 106 #[.val (.ref ks), .val (.ref aa), .val (.ref bb), .val (.ref rr), .val (.int ta), .val (.int rs), .val (.int tb), .val (.int bs), .val (.int bq), .val (.int cnt), .val (.double al), .second, .val (.double be), .second, .val (.int v), .val (.int x), .val (.int y)] [(.double (FP.dmul al (ua ((x + ((2 : Int32) * rs))).toNatClampNeg))), (.int (x + ((2 : Int32) * rs))), (.ref rr)]))
  refine own_up (fun _ kq => XS.dload X2.here hx rfl (hb hby d4_106) rfl kq) ?_
  show own_Go p.tables e below _ (T2.setTop (mkF m 108 #[.val (.ref ks), .val (.ref aa), .val (.ref bb), .val (.ref rr), .val (.int ta), .val (.int rs), .val (.int tb), .val (.int bs), .val (.int bq), .val (.int cnt), .val (.double al), .second, .val (.double be), .second, .val (.int v), .val (.int x), .val (.int y)] [(.double be), (.double (FP.dmul al (ua ((x + ((2 : Int32) * rs))).toNatClampNeg))), (.int (x + ((2 : Int32) * rs))), (.ref rr)]))
  refine own_up (fun _ kq => XS.aloadN X2.here hx rfl (hb hby d4_108) rfl rfl kq) ?_
  show own_Go p.tables e below _ (T2.setTop (mkF m 109 #[.val (.ref ks), .val (.ref aa), .val (.ref bb), .val (.ref rr), .val (.int ta), .val (.int rs), .val (.int tb), .val (.int bs), .val (.int bq), .val (.int cnt), .val (.double al), .second, .val (.double be), .second, .val (.int v), .val (.int x), .val (.int y)] [(.ref bb), (.double be), (.double (FP.dmul al (ua ((x + ((2 : Int32) * rs))).toNatClampNeg))), (.int (x + ((2 : Int32) * rs))), (.ref rr)]))
  refine own_up (fun _ kq => XS.iload X2.here hx rfl (hb hby d4_109) rfl kq) ?_
  show own_Go p.tables e below _ (T2.setTop (mkF m 111 #[.val (.ref ks), .val (.ref aa), .val (.ref bb), .val (.ref rr), .val (.int ta), .val (.int rs), .val (.int tb), .val (.int bs), .val (.int bq), .val (.int cnt), .val (.double al), .second, .val (.double be), .second, .val (.int v), .val (.int x), .val (.int y)] [(.int y), (.ref bb), (.double be), (.double (FP.dmul al (ua ((x + ((2 : Int32) * rs))).toNatClampNeg))), (.int (x + ((2 : Int32) * rs))), (.ref rr)]))
  refine own_up (fun _ kq => XS.iconst X2.here hx rfl (hb hby d4_111) kq) ?_
  show own_Go p.tables e below _ (T2.setTop (mkF m 112 #[.val (.ref ks), .val (.ref aa), .val (.ref bb), .val (.ref rr), .val (.int ta), .val (.int rs), .val (.int tb), .val (.int bs), .val (.int bq), .val (.int cnt), .val (.double al), .second, .val (.double be), .second, .val (.int v), .val (.int x), .val (.int y)] [(.int (2 : Int32)), (.int y), (.ref bb), (.double be), (.double (FP.dmul al (ua ((x + ((2 : Int32) * rs))).toNatClampNeg))), (.int (x + ((2 : Int32) * rs))), (.ref rr)]))
  refine own_up (fun _ kq => XS.iload X2.here hx rfl (hb hby d4_112) rfl kq) ?_
  show own_Go p.tables e below _ (T2.setTop (mkF m 114 #[.val (.ref ks), .val (.ref aa), .val (.ref bb), .val (.ref rr), .val (.int ta), .val (.int rs), .val (.int tb), .val (.int bs), .val (.int bq), .val (.int cnt), .val (.double al), .second, .val (.double be), .second, .val (.int v), .val (.int x), .val (.int y)] [(.int bq), (.int (2 : Int32)), (.int y), (.ref bb), (.double be), (.double (FP.dmul al (ua ((x + ((2 : Int32) * rs))).toNatClampNeg))), (.int (x + ((2 : Int32) * rs))), (.ref rr)]))
  refine own_up (fun _ kq => XS.imul X2.here hx rfl (hb hby d4_114) rfl kq) ?_
  show own_Go p.tables e below _ (T2.setTop (mkF m 115 #[.val (.ref ks), .val (.ref aa), .val (.ref bb), .val (.ref rr), .val (.int ta), .val (.int rs), .val (.int tb), .val (.int bs), .val (.int bq), .val (.int cnt), .val (.double al), .second, .val (.double be), .second, .val (.int v), .val (.int x), .val (.int y)] [(.int ((2 : Int32) * bq)), (.int y), (.ref bb), (.double be), (.double (FP.dmul al (ua ((x + ((2 : Int32) * rs))).toNatClampNeg))), (.int (x + ((2 : Int32) * rs))), (.ref rr)]))
  refine own_up (fun _ kq => XS.iadd X2.here hx rfl (hb hby d4_115) rfl kq) ?_
  show own_Go p.tables e below _ (T2.setTop (mkF m 116 #[.val (.ref ks), .val (.ref aa), .val (.ref bb), .val (.ref rr), .val (.int ta), .val (.int rs), .val (.int tb), .val (.int bs), .val (.int bq), .val (.int cnt), .val (.double al), .second, .val (.double be), .second, .val (.int v), .val (.int x), .val (.int y)] [(.int (y + ((2 : Int32) * bq))), (.ref bb), (.double be), (.double (FP.dmul al (ua ((x + ((2 : Int32) * rs))).toNatClampNeg))), (.int (x + ((2 : Int32) * rs))), (.ref rr)]))
  refine own_up (fun _ kq => own_Arf.daload G_bb X2 hx hZ e2 j2.1 j2.2 (v := (.double (ub ((y + ((2 : Int32) * bq))).toNatClampNeg))) rfl (g := (mkF m 116 #[.val (.ref ks), .val (.ref aa), .val (.ref bb), .val (.ref rr), .val (.int ta), .val (.int rs), .val (.int tb), .val (.int bs), .val (.int bq), .val (.int cnt), .val (.double al), .second, .val (.double be), .second, .val (.int v), .val (.int x), .val (.int y)] [(.int (y + ((2 : Int32) * bq))), (.ref bb), (.double be), (.double (FP.dmul al (ua ((x + ((2 : Int32) * rs))).toNatClampNeg))), (.int (x + ((2 : Int32) * rs))), (.ref rr)])) rfl rfl (hb hby d4_116) _ kq) ?_
  show own_Go p.tables e below _ (T2.setTop (mkF m 117 #[.val (.ref ks), .val (.ref aa), .val (.ref bb), .val (.ref rr), .val (.int ta), .val (.int rs), .val (.int tb), .val (.int bs), .val (.int bq), .val (.int cnt), .val (.double al), .second, .val (.double be), .second, .val (.int v), .val (.int x), .val (.int y)] [(.double (ub ((y + ((2 : Int32) * bq))).toNatClampNeg)), (.double be), (.double (FP.dmul al (ua ((x + ((2 : Int32) * rs))).toNatClampNeg))), (.int (x + ((2 : Int32) * rs))), (.ref rr)]))
  refine own_up (fun _ kq => XS.dmulS X2.here hx rfl (v := (FP.dmul be (ub ((y + ((2 : Int32) * bq))).toNatClampNeg))) (hb hby d4_117) rfl (hmb _).noNaN rfl kq) ?_
  show own_Go p.tables e below _ (T2.setTop (mkF m 118 #[.val (.ref ks), .val (.ref aa), .val (.ref bb), .val (.ref rr), .val (.int ta), .val (.int rs), .val (.int tb), .val (.int bs), .val (.int bq), .val (.int cnt), .val (.double al), .second, .val (.double be), .second, .val (.int v), .val (.int x), .val (.int y)] [(.double (FP.dmul be (ub ((y + ((2 : Int32) * bq))).toNatClampNeg))), (.double (FP.dmul al (ua ((x + ((2 : Int32) * rs))).toNatClampNeg))), (.int (x + ((2 : Int32) * rs))), (.ref rr)]))
  refine own_up (fun _ kq => XS.daddS X2.here hx rfl (v := (FP.dadd (FP.dmul al (ua ((x + ((2 : Int32) * rs))).toNatClampNeg)) (FP.dmul be (ub ((y + ((2 : Int32) * bq))).toNatClampNeg)))) (hb hby d4_118) rfl (dadd_out (dmul_out hal (hua _)) (hmb _)) rfl kq) ?_
  show own_Go p.tables e below _ (T2.setTop (mkF m 119 #[.val (.ref ks), .val (.ref aa), .val (.ref bb), .val (.ref rr), .val (.int ta), .val (.int rs), .val (.int tb), .val (.int bs), .val (.int bq), .val (.int cnt), .val (.double al), .second, .val (.double be), .second, .val (.int v), .val (.int x), .val (.int y)] [(.double (FP.dadd (FP.dmul al (ua ((x + ((2 : Int32) * rs))).toNatClampNeg)) (FP.dmul be (ub ((y + ((2 : Int32) * bq))).toNatClampNeg)))), (.int (x + ((2 : Int32) * rs))), (.ref rr)]))
  obtain ⟨cl3, Ar3, sz3, nz3, hc3⟩ := id G_rr
  obtain ⟨T3, h3, X3, e3, W3, st3⟩ := stD X2 hx hZ e2 Ar3 (j := (x + ((2 : Int32) * rs))) (inb_of sz3 ⟨i2.1, i2.2⟩) (g := (mkF m 119 #[.val (.ref ks), .val (.ref aa), .val (.ref bb), .val (.ref rr), .val (.int ta), .val (.int rs), .val (.int tb), .val (.int bs), .val (.int bq), .val (.int cnt), .val (.double al), .second, .val (.double be), .second, .val (.int v), .val (.int x), .val (.int y)] [(.double (FP.dadd (FP.dmul al (ua ((x + ((2 : Int32) * rs))).toNatClampNeg)) (FP.dmul be (ub ((y + ((2 : Int32) * bq))).toNatClampNeg)))), (.int (x + ((2 : Int32) * rs))), (.ref rr)])) rfl rfl (hb hby d4_119)
  have G_rr : own_Arf Z h3 rr .double (48 : Int32) (fun i => .double ((own_upd (own_upd (own_upd ur x (FP.dadd (FP.dmul al (ua (x).toNatClampNeg)) (FP.dmul be (ub (y).toNatClampNeg)))) (x + rs) (FP.dadd (FP.dmul al (ua ((x + rs)).toNatClampNeg)) (FP.dmul be (ub ((y + bq)).toNatClampNeg)))) (x + ((2 : Int32) * rs)) (FP.dadd (FP.dmul al (ua ((x + ((2 : Int32) * rs))).toNatClampNeg)) (FP.dmul be (ub ((y + ((2 : Int32) * bq))).toNatClampNeg)))) i)) := own_Arf.setD G_rr W3
  have N3 := Fr.snoc X3 N2 g_rr
  have G_aa := G_aa.other W3 ne_aa_rr
  have G_bb := G_bb.other W3 ne_bb_rr
  have ZH := Nat.le_trans ZH (Nat.le_of_eq W3.size.symm)
  have KK := KK.wr W3 (Or.inl (List.mem_of_getElem? (i := 0) rfl))
  refine own_up st3 ?_
  show own_Go p.tables e below _ (T3.setTop (mkF m 120 #[.val (.ref ks), .val (.ref aa), .val (.ref bb), .val (.ref rr), .val (.int ta), .val (.int rs), .val (.int tb), .val (.int bs), .val (.int bq), .val (.int cnt), .val (.double al), .second, .val (.double be), .second, .val (.int v), .val (.int x), .val (.int y)] []))
  refine own_up (fun _ kq => XS.aloadN X3.here hx rfl (hb hby d4_120) rfl rfl kq) ?_
  show own_Go p.tables e below _ (T3.setTop (mkF m 121 #[.val (.ref ks), .val (.ref aa), .val (.ref bb), .val (.ref rr), .val (.int ta), .val (.int rs), .val (.int tb), .val (.int bs), .val (.int bq), .val (.int cnt), .val (.double al), .second, .val (.double be), .second, .val (.int v), .val (.int x), .val (.int y)] [(.ref rr)]))
  refine own_up (fun _ kq => XS.iload X3.here hx rfl (hb hby d4_121) rfl kq) ?_
  show own_Go p.tables e below _ (T3.setTop (mkF m 123 #[.val (.ref ks), .val (.ref aa), .val (.ref bb), .val (.ref rr), .val (.int ta), .val (.int rs), .val (.int tb), .val (.int bs), .val (.int bq), .val (.int cnt), .val (.double al), .second, .val (.double be), .second, .val (.int v), .val (.int x), .val (.int y)] [(.int x), (.ref rr)]))
  refine own_up (fun _ kq => XS.iconst X3.here hx rfl (hb hby d4_123) kq) ?_
  show own_Go p.tables e below _ (T3.setTop (mkF m 124 #[.val (.ref ks), .val (.ref aa), .val (.ref bb), .val (.ref rr), .val (.int ta), .val (.int rs), .val (.int tb), .val (.int bs), .val (.int bq), .val (.int cnt), .val (.double al), .second, .val (.double be), .second, .val (.int v), .val (.int x), .val (.int y)] [(.int (3 : Int32)), (.int x), (.ref rr)]))
  refine own_up (fun _ kq => XS.iload X3.here hx rfl (hb hby d4_124) rfl kq) ?_
  show own_Go p.tables e below _ (T3.setTop (mkF m 126 #[.val (.ref ks), .val (.ref aa), .val (.ref bb), .val (.ref rr), .val (.int ta), .val (.int rs), .val (.int tb), .val (.int bs), .val (.int bq), .val (.int cnt), .val (.double al), .second, .val (.double be), .second, .val (.int v), .val (.int x), .val (.int y)] [(.int rs), (.int (3 : Int32)), (.int x), (.ref rr)]))
  refine own_up (fun _ kq => XS.imul X3.here hx rfl (hb hby d4_126) rfl kq) ?_
  show own_Go p.tables e below _ (T3.setTop (mkF m 127 #[.val (.ref ks), .val (.ref aa), .val (.ref bb), .val (.ref rr), .val (.int ta), .val (.int rs), .val (.int tb), .val (.int bs), .val (.int bq), .val (.int cnt), .val (.double al), .second, .val (.double be), .second, .val (.int v), .val (.int x), .val (.int y)] [(.int ((3 : Int32) * rs)), (.int x), (.ref rr)]))
  refine own_up (fun _ kq => XS.iadd X3.here hx rfl (hb hby d4_127) rfl kq) ?_
  show own_Go p.tables e below _ (T3.setTop (mkF m 128 #[.val (.ref ks), .val (.ref aa), .val (.ref bb), .val (.ref rr), .val (.int ta), .val (.int rs), .val (.int tb), .val (.int bs), .val (.int bq), .val (.int cnt), .val (.double al), .second, .val (.double be), .second, .val (.int v), .val (.int x), .val (.int y)] [(.int (x + ((3 : Int32) * rs))), (.ref rr)]))
  refine own_up (fun _ kq => XS.dload X3.here hx rfl (hb hby d4_128) rfl kq) ?_
  show own_Go p.tables e below _ (T3.setTop (mkF m 130 #[.val (.ref ks), .val (.ref aa), .val (.ref bb), .val (.ref rr), .val (.int ta), .val (.int rs), .val (.int tb), .val (.int bs), .val (.int bq), .val (.int cnt), .val (.double al), .second, .val (.double be), .second, .val (.int v), .val (.int x), .val (.int y)] [(.double al), (.int (x + ((3 : Int32) * rs))), (.ref rr)]))
  refine own_up (fun _ kq => XS.aloadN X3.here hx rfl (hb hby d4_130) rfl rfl kq) ?_
  show own_Go p.tables e below _ (T3.setTop (mkF m 131 #[.val (.ref ks), .val (.ref aa), .val (.ref bb), .val (.ref rr), .val (.int ta), .val (.int rs), .val (.int tb), .val (.int bs), .val (.int bq), .val (.int cnt), .val (.double al), .second, .val (.double be), .second, .val (.int v), .val (.int x), .val (.int y)] [(.ref aa), (.double al), (.int (x + ((3 : Int32) * rs))), (.ref rr)]))
  refine own_up (fun _ kq => XS.iload X3.here hx rfl (hb hby d4_131) rfl kq) ?_
  show own_Go p.tables e below _ (T3.setTop (mkF m 133 #[.val (.ref ks), .val (.ref aa), .val (.ref bb), .val (.ref rr), .val (.int ta), .val (.int rs), .val (.int tb), .val (.int bs), .val (.int bq), .val (.int cnt), .val (.double al), .second, .val (.double be), .second, .val (.int v), .val (.int x), .val (.int y)] [(.int x), (.ref aa), (.double al), (.int (x + ((3 : Int32) * rs))), (.ref rr)]))
  refine own_up (fun _ kq => XS.iconst X3.here hx rfl (hb hby d4_133) kq) ?_
  show own_Go p.tables e below _ (T3.setTop (mkF m 134 #[.val (.ref ks), .val (.ref aa), .val (.ref bb), .val (.ref rr), .val (.int ta), .val (.int rs), .val (.int tb), .val (.int bs), .val (.int bq), .val (.int cnt), .val (.double al), .second, .val (.double be), .second, .val (.int v), .val (.int x), .val (.int y)] [(.int (3 : Int32)), (.int x), (.ref aa), (.double al), (.int (x + ((3 : Int32) * rs))), (.ref rr)]))
  refine own_up (fun _ kq => XS.iload X3.here hx rfl (hb hby d4_134) rfl kq) ?_
  show own_Go p.tables e below _ (T3.setTop (mkF m 136 #[.val (.ref ks), .val (.ref aa), .val (.ref bb), .val (.ref rr), .val (.int ta), .val (.int rs), .val (.int tb), .val (.int bs), .val (.int bq), .val (.int cnt), .val (.double al), .second, .val (.double be), .second, .val (.int v), .val (.int x), .val (.int y)] [(.int rs), (.int (3 : Int32)), (.int x), (.ref aa), (.double al), (.int (x + ((3 : Int32) * rs))), (.ref rr)]))
  refine own_up (fun _ kq => XS.imul X3.here hx rfl (hb hby d4_136) rfl kq) ?_
  show own_Go p.tables e below _ (T3.setTop (mkF m 137 #[.val (.ref ks), .val (.ref aa), .val (.ref bb), .val (.ref rr), .val (.int ta), .val (.int rs), .val (.int tb), .val (.int bs), .val (.int bq), .val (.int cnt), .val (.double al), .second, .val (.double be), .second, .val (.int v), .val (.int x), .val (.int y)] [(.int ((3 : Int32) * rs)), (.int x), (.ref aa), (.double al), (.int (x + ((3 : Int32) * rs))), (.ref rr)]))
  refine own_up (fun _ kq => XS.iadd X3.here hx rfl (hb hby d4_137) rfl kq) ?_
  show own_Go p.tables e below _ (T3.setTop (mkF m 138 #[.val (.ref ks), .val (.ref aa), .val (.ref bb), .val (.ref rr), .val (.int ta), .val (.int rs), .val (.int tb), .val (.int bs), .val (.int bq), .val (.int cnt), .val (.double al), .second, .val (.double be), .second, .val (.int v), .val (.int x), .val (.int y)] [(.int (x + ((3 : Int32) * rs))), (.ref aa), (.double al), (.int (x + ((3 : Int32) * rs))), (.ref rr)]))
  refine own_up (fun _ kq => own_Arf.daload G_aa X3 hx hZ e3 i3.1 i3.2 (v := (.double (ua ((x + ((3 : Int32) * rs))).toNatClampNeg))) rfl (g := (mkF m 138 #[.val (.ref ks), .val (.ref aa), .val (.ref bb), .val (.ref rr), .val (.int ta), .val (.int rs), .val (.int tb), .val (.int bs), .val (.int bq), .val (.int cnt), .val (.double al), .second, .val (.double be), .second, .val (.int v), .val (.int x), .val (.int y)] [(.int (x + ((3 : Int32) * rs))), (.ref aa), (.double al), (.int (x + ((3 : Int32) * rs))), (.ref rr)])) rfl rfl (hb hby d4_138) _ kq) ?_
  show own_Go p.tables e below _ (T3.setTop (mkF m 139 #[.val (.ref ks), .val (.ref aa), .val (.ref bb), .val (.ref rr), .val (.int ta), .val (.int rs), .val (.int tb), .val (.int bs), .val (.int bq), .val (.int cnt), .val (.double al), .second, .val (.double be), .second, .val (.int v), .val (.int x), .val (.int y)] [(.double (ua ((x + ((3 : Int32) * rs))).toNatClampNeg)), (.double al), (.int (x + ((3 : Int32) * rs))), (.ref rr)]))
  refine own_up (fun _ kq => XS.dmulS X3.here hx rfl (v := (FP.dmul al (ua ((x + ((3 : Int32) * rs))).toNatClampNeg))) (hb hby d4_139) rfl (dmul_out hal (hua _)) rfl kq) ?_
  show own_Go p.tables e below _ (T3.setTop (mkF m 140 #[.val (.ref ks), .val (.ref aa), .val (.ref bb), .val (.ref rr), .val (.int ta), .val (.int rs), .val (.int tb), .val (.int bs), .val (.int bq), .val (.int cnt), .val (.double al), .second, .val (.double be), .second, .val (.int v), .val (.int x), .val (.int y)] [(.double (FP.dmul al (ua ((x + ((3 : Int32) * rs))).toNatClampNeg))), (.int (x + ((3 : Int32) * rs))), (.ref rr)]))
  refine own_up (fun _ kq => XS.dload X3.here hx rfl (hb hby d4_140) rfl kq) ?_
  show own_Go p.tables e below _ (T3.setTop (mkF m 142 #[.val (.ref ks), .val (.ref aa), .val (.ref bb), .val (.ref rr), .val (.int ta), .val (.int rs), .val (.int tb), .val (.int bs), .val (.int bq), .val (.int cnt), .val (.double al), .second, .val (.double be), .second, .val (.int v), .val (.int x), .val (.int y)] [(.double be), (.double (FP.dmul al (ua ((x + ((3 : Int32) * rs))).toNatClampNeg))), (.int (x + ((3 : Int32) * rs))), (.ref rr)]))
  refine own_up (fun _ kq => XS.aloadN X3.here hx rfl (hb hby d4_142) rfl rfl kq) ?_
  show own_Go p.tables e below _ (T3.setTop (mkF m 143 #[.val (.ref ks), .val (.ref aa), .val (.ref bb), .val (.ref rr), .val (.int ta), .val (.int rs), .val (.int tb), .val (.int bs), .val (.int bq), .val (.int cnt), .val (.double al), .second, .val (.double be), .second, .val (.int v), .val (.int x), .val (.int y)] [(.ref bb), (.double be), (.double (FP.dmul al (ua ((x + ((3 : Int32) * rs))).toNatClampNeg))), (.int (x + ((3 : Int32) * rs))), (.ref rr)]))
  refine own_up (fun _ kq => XS.iload X3.here hx rfl (hb hby d4_143) rfl kq) ?_
  show own_Go p.tables e below _ (T3.setTop (mkF m 145 #[.val (.ref ks), .val (.ref aa), .val (.ref bb), .val (.ref rr), .val (.int ta), .val (.int rs), .val (.int tb), .val (.int bs), .val (.int bq), .val (.int cnt), .val (.double al), .second, .val (.double be), .second, .val (.int v), .val (.int x), .val (.int y)] [(.int y), (.ref bb), (.double be), (.double (FP.dmul al (ua ((x + ((3 : Int32) * rs))).toNatClampNeg))), (.int (x + ((3 : Int32) * rs))), (.ref rr)]))
  refine own_up (fun _ kq => XS.iconst X3.here hx rfl (hb hby d4_145) kq) ?_
  show own_Go p.tables e below _ (T3.setTop (mkF m 146 #[.val (.ref ks), .val (.ref aa), .val (.ref bb), .val (.ref rr), .val (.int ta), .val (.int rs), .val (.int tb), .val (.int bs), .val (.int bq), .val (.int cnt), .val (.double al), .second, .val (.double be), .second, .val (.int v), .val (.int x), .val (.int y)] [(.int (3 : Int32)), (.int y), (.ref bb), (.double be), (.double (FP.dmul al (ua ((x + ((3 : Int32) * rs))).toNatClampNeg))), (.int (x + ((3 : Int32) * rs))), (.ref rr)]))
  refine own_up (fun _ kq => XS.iload X3.here hx rfl (hb hby d4_146) rfl kq) ?_
  show own_Go p.tables e below _ (T3.setTop (mkF m 148 #[.val (.ref ks), .val (.ref aa), .val (.ref bb), .val (.ref rr), .val (.int ta), .val (.int rs), .val (.int tb), .val (.int bs), .val (.int bq), .val (.int cnt), .val (.double al), .second, .val (.double be), .second, .val (.int v), .val (.int x), .val (.int y)] [(.int bq), (.int (3 : Int32)), (.int y), (.ref bb), (.double be), (.double (FP.dmul al (ua ((x + ((3 : Int32) * rs))).toNatClampNeg))), (.int (x + ((3 : Int32) * rs))), (.ref rr)]))
  refine own_up (fun _ kq => XS.imul X3.here hx rfl (hb hby d4_148) rfl kq) ?_
  show own_Go p.tables e below _ (T3.setTop (mkF m 149 #[.val (.ref ks), .val (.ref aa), .val (.ref bb), .val (.ref rr), .val (.int ta), .val (.int rs), .val (.int tb), .val (.int bs), .val (.int bq), .val (.int cnt), .val (.double al), .second, .val (.double be), .second, .val (.int v), .val (.int x), .val (.int y)] [(.int ((3 : Int32) * bq)), (.int y), (.ref bb), (.double be), (.double (FP.dmul al (ua ((x + ((3 : Int32) * rs))).toNatClampNeg))), (.int (x + ((3 : Int32) * rs))), (.ref rr)]))
  refine own_up (fun _ kq => XS.iadd X3.here hx rfl (hb hby d4_149) rfl kq) ?_
  show own_Go p.tables e below _ (T3.setTop (mkF m 150 #[.val (.ref ks), .val (.ref aa), .val (.ref bb), .val (.ref rr), .val (.int ta), .val (.int rs), .val (.int tb), .val (.int bs), .val (.int bq), .val (.int cnt), .val (.double al), .second, .val (.double be), .second, .val (.int v), .val (.int x), .val (.int y)] [(.int (y + ((3 : Int32) * bq))), (.ref bb), (.double be), (.double (FP.dmul al (ua ((x + ((3 : Int32) * rs))).toNatClampNeg))), (.int (x + ((3 : Int32) * rs))), (.ref rr)]))
  refine own_up (fun _ kq => own_Arf.daload G_bb X3 hx hZ e3 j3.1 j3.2 (v := (.double (ub ((y + ((3 : Int32) * bq))).toNatClampNeg))) rfl (g := (mkF m 150 #[.val (.ref ks), .val (.ref aa), .val (.ref bb), .val (.ref rr), .val (.int ta), .val (.int rs), .val (.int tb), .val (.int bs), .val (.int bq), .val (.int cnt), .val (.double al), .second, .val (.double be), .second, .val (.int v), .val (.int x), .val (.int y)] [(.int (y + ((3 : Int32) * bq))), (.ref bb), (.double be), (.double (FP.dmul al (ua ((x + ((3 : Int32) * rs))).toNatClampNeg))), (.int (x + ((3 : Int32) * rs))), (.ref rr)])) rfl rfl (hb hby d4_150) _ kq) ?_
  show own_Go p.tables e below _ (T3.setTop (mkF m 151 #[.val (.ref ks), .val (.ref aa), .val (.ref bb), .val (.ref rr), .val (.int ta), .val (.int rs), .val (.int tb), .val (.int bs), .val (.int bq), .val (.int cnt), .val (.double al), .second, .val (.double be), .second, .val (.int v), .val (.int x), .val (.int y)] [(.double (ub ((y + ((3 : Int32) * bq))).toNatClampNeg)), (.double be), (.double (FP.dmul al (ua ((x + ((3 : Int32) * rs))).toNatClampNeg))), (.int (x + ((3 : Int32) * rs))), (.ref rr)]))
  refine own_up (fun _ kq => XS.dmulS X3.here hx rfl (v := (FP.dmul be (ub ((y + ((3 : Int32) * bq))).toNatClampNeg))) (hb hby d4_151) rfl (hmb _).noNaN rfl kq) ?_
  show own_Go p.tables e below _ (T3.setTop (mkF m 152 #[.val (.ref ks), .val (.ref aa), .val (.ref bb), .val (.ref rr), .val (.int ta), .val (.int rs), .val (.int tb), .val (.int bs), .val (.int bq), .val (.int cnt), .val (.double al), .second, .val (.double be), .second, .val (.int v), .val (.int x), .val (.int y)] [(.double (FP.dmul be (ub ((y + ((3 : Int32) * bq))).toNatClampNeg))), (.double (FP.dmul al (ua ((x + ((3 : Int32) * rs))).toNatClampNeg))), (.int (x + ((3 : Int32) * rs))), (.ref rr)]))
  refine own_up (fun _ kq => XS.daddS X3.here hx rfl (v := (FP.dadd (FP.dmul al (ua ((x + ((3 : Int32) * rs))).toNatClampNeg)) (FP.dmul be (ub ((y + ((3 : Int32) * bq))).toNatClampNeg)))) (hb hby d4_152) rfl (dadd_out (dmul_out hal (hua _)) (hmb _)) rfl kq) ?_
  show own_Go p.tables e below _ (T3.setTop (mkF m 153 #[.val (.ref ks), .val (.ref aa), .val (.ref bb), .val (.ref rr), .val (.int ta), .val (.int rs), .val (.int tb), .val (.int bs), .val (.int bq), .val (.int cnt), .val (.double al), .second, .val (.double be), .second, .val (.int v), .val (.int x), .val (.int y)] [(.double (FP.dadd (FP.dmul al (ua ((x + ((3 : Int32) * rs))).toNatClampNeg)) (FP.dmul be (ub ((y + ((3 : Int32) * bq))).toNatClampNeg)))), (.int (x + ((3 : Int32) * rs))), (.ref rr)]))
  obtain ⟨cl4, Ar4, sz4, nz4, hc4⟩ := id G_rr
  obtain ⟨T4, h4, X4, e4, W4, st4⟩ := stD X3 hx hZ e3 Ar4 (j := (x + ((3 : Int32) * rs))) (inb_of sz4 ⟨i3.1, i3.2⟩) (g := (mkF m 153 #[.val (.ref ks), .val (.ref aa), .val (.ref bb), .val (.ref rr), .val (.int ta), .val (.int rs), .val (.int tb), .val (.int bs), .val (.int bq), .val (.int cnt), .val (.double al), .second, .val (.double be), .second, .val (.int v), .val (.int x), .val (.int y)] [(.double (FP.dadd (FP.dmul al (ua ((x + ((3 : Int32) * rs))).toNatClampNeg)) (FP.dmul be (ub ((y + ((3 : Int32) * bq))).toNatClampNeg)))), (.int (x + ((3 : Int32) * rs))), (.ref rr)])) rfl rfl (hb hby d4_153)
  have G_rr : own_Arf Z h4 rr .double (48 : Int32) (fun i => .double ((own_upd (own_upd (own_upd (own_upd ur x (FP.dadd (FP.dmul al (ua (x).toNatClampNeg)) (FP.dmul be (ub (y).toNatClampNeg)))) (x + rs) (FP.dadd (FP.dmul al (ua ((x + rs)).toNatClampNeg)) (FP.dmul be (ub ((y + bq)).toNatClampNeg)))) (x + ((2 : Int32) * rs)) (FP.dadd (FP.dmul al (ua ((x + ((2 : Int32) * rs))).toNatClampNeg)) (FP.dmul be (ub ((y + ((2 : Int32) * bq))).toNatClampNeg)))) (x + ((3 : Int32) * rs)) (FP.dadd (FP.dmul al (ua ((x + ((3 : Int32) * rs))).toNatClampNeg)) (FP.dmul be (ub ((y + ((3 : Int32) * bq))).toNatClampNeg)))) i)) := own_Arf.setD G_rr W4
  have N4 := Fr.snoc X4 N3 g_rr
  have G_aa := G_aa.other W4 ne_aa_rr
  have G_bb := G_bb.other W4 ne_bb_rr
  have ZH := Nat.le_trans ZH (Nat.le_of_eq W4.size.symm)
  have KK := KK.wr W4 (Or.inl (List.mem_of_getElem? (i := 0) rfl))
  refine own_up st4 ?_
  show own_Go p.tables e below _ (T4.setTop (mkF m 154 #[.val (.ref ks), .val (.ref aa), .val (.ref bb), .val (.ref rr), .val (.int ta), .val (.int rs), .val (.int tb), .val (.int bs), .val (.int bq), .val (.int cnt), .val (.double al), .second, .val (.double be), .second, .val (.int v), .val (.int x), .val (.int y)] []))
  refine own_up (fun _ kq => XS.aloadN X4.here hx rfl (hb hby d4_154) rfl rfl kq) ?_
  show own_Go p.tables e below _ (T4.setTop (mkF m 155 #[.val (.ref ks), .val (.ref aa), .val (.ref bb), .val (.ref rr), .val (.int ta), .val (.int rs), .val (.int tb), .val (.int bs), .val (.int bq), .val (.int cnt), .val (.double al), .second, .val (.double be), .second, .val (.int v), .val (.int x), .val (.int y)] [(.ref rr)]))
  refine own_up (fun _ kq => XS.iload X4.here hx rfl (hb hby d4_155) rfl kq) ?_
  show own_Go p.tables e below _ (T4.setTop (mkF m 157 #[.val (.ref ks), .val (.ref aa), .val (.ref bb), .val (.ref rr), .val (.int ta), .val (.int rs), .val (.int tb), .val (.int bs), .val (.int bq), .val (.int cnt), .val (.double al), .second, .val (.double be), .second, .val (.int v), .val (.int x), .val (.int y)] [(.int x), (.ref rr)]))
  refine own_up (fun _ kq => XS.iconst X4.here hx rfl (hb hby d4_157) kq) ?_
  show own_Go p.tables e below _ (T4.setTop (mkF m 158 #[.val (.ref ks), .val (.ref aa), .val (.ref bb), .val (.ref rr), .val (.int ta), .val (.int rs), .val (.int tb), .val (.int bs), .val (.int bq), .val (.int cnt), .val (.double al), .second, .val (.double be), .second, .val (.int v), .val (.int x), .val (.int y)] [(.int (4 : Int32)), (.int x), (.ref rr)]))
  refine own_up (fun _ kq => XS.iload X4.here hx rfl (hb hby d4_158) rfl kq) ?_
  show own_Go p.tables e below _ (T4.setTop (mkF m 160 #[.val (.ref ks), .val (.ref aa), .val (.ref bb), .val (.ref rr), .val (.int ta), .val (.int rs), .val (.int tb), .val (.int bs), .val (.int bq), .val (.int cnt), .val (.double al), .second, .val (.double be), .second, .val (.int v), .val (.int x), .val (.int y)] [(.int rs), (.int (4 : Int32)), (.int x), (.ref rr)]))
  refine own_up (fun _ kq => XS.imul X4.here hx rfl (hb hby d4_160) rfl kq) ?_
  show own_Go p.tables e below _ (T4.setTop (mkF m 161 #[.val (.ref ks), .val (.ref aa), .val (.ref bb), .val (.ref rr), .val (.int ta), .val (.int rs), .val (.int tb), .val (.int bs), .val (.int bq), .val (.int cnt), .val (.double al), .second, .val (.double be), .second, .val (.int v), .val (.int x), .val (.int y)] [(.int ((4 : Int32) * rs)), (.int x), (.ref rr)]))
  refine own_up (fun _ kq => XS.iadd X4.here hx rfl (hb hby d4_161) rfl kq) ?_
  show own_Go p.tables e below _ (T4.setTop (mkF m 162 #[.val (.ref ks), .val (.ref aa), .val (.ref bb), .val (.ref rr), .val (.int ta), .val (.int rs), .val (.int tb), .val (.int bs), .val (.int bq), .val (.int cnt), .val (.double al), .second, .val (.double be), .second, .val (.int v), .val (.int x), .val (.int y)] [(.int (x + ((4 : Int32) * rs))), (.ref rr)]))
  refine own_up (fun _ kq => XS.dload X4.here hx rfl (hb hby d4_162) rfl kq) ?_
  show own_Go p.tables e below _ (T4.setTop (mkF m 164 #[.val (.ref ks), .val (.ref aa), .val (.ref bb), .val (.ref rr), .val (.int ta), .val (.int rs), .val (.int tb), .val (.int bs), .val (.int bq), .val (.int cnt), .val (.double al), .second, .val (.double be), .second, .val (.int v), .val (.int x), .val (.int y)] [(.double al), (.int (x + ((4 : Int32) * rs))), (.ref rr)]))
  refine own_up (fun _ kq => XS.aloadN X4.here hx rfl (hb hby d4_164) rfl rfl kq) ?_
  show own_Go p.tables e below _ (T4.setTop (mkF m 165 #[.val (.ref ks), .val (.ref aa), .val (.ref bb), .val (.ref rr), .val (.int ta), .val (.int rs), .val (.int tb), .val (.int bs), .val (.int bq), .val (.int cnt), .val (.double al), .second, .val (.double be), .second, .val (.int v), .val (.int x), .val (.int y)] [(.ref aa), (.double al), (.int (x + ((4 : Int32) * rs))), (.ref rr)]))
  refine own_up (fun _ kq => XS.iload X4.here hx rfl (hb hby d4_165) rfl kq) ?_
  show own_Go p.tables e below _ (T4.setTop (mkF m 167 #[.val (.ref ks), .val (.ref aa), .val (.ref bb), .val (.ref rr), .val (.int ta), .val (.int rs), .val (.int tb), .val (.int bs), .val (.int bq), .val (.int cnt), .val (.double al), .second, .val (.double be), .second, .val (.int v), .val (.int x), .val (.int y)] [(.int x), (.ref aa), (.double al), (.int (x + ((4 : Int32) * rs))), (.ref rr)]))
  refine own_up (fun _ kq => XS.iconst X4.here hx rfl (hb hby d4_167) kq) ?_
  show own_Go p.tables e below _ (T4.setTop (mkF m 168 #[.val (.ref ks), .val (.ref aa), .val (.ref bb), .val (.ref rr), .val (.int ta), .val (.int rs), .val (.int tb), .val (.int bs), .val (.int bq), .val (.int cnt), .val (.double al), .second, .val (.double be), .second, .val (.int v), .val (.int x), .val (.int y)] [(.int (4 : Int32)), (.int x), (.ref aa), (.double al), (.int (x + ((4 : Int32) * rs))), (.ref rr)]))
  refine own_up (fun _ kq => XS.iload X4.here hx rfl (hb hby d4_168) rfl kq) ?_
  show own_Go p.tables e below _ (T4.setTop (mkF m 170 #[.val (.ref ks), .val (.ref aa), .val (.ref bb), .val (.ref rr), .val (.int ta), .val (.int rs), .val (.int tb), .val (.int bs), .val (.int bq), .val (.int cnt), .val (.double al), .second, .val (.double be), .second, .val (.int v), .val (.int x), .val (.int y)] [(.int rs), (.int (4 : Int32)), (.int x), (.ref aa), (.double al), (.int (x + ((4 : Int32) * rs))), (.ref rr)]))
  refine own_up (fun _ kq => XS.imul X4.here hx rfl (hb hby d4_170) rfl kq) ?_
  show own_Go p.tables e below _ (T4.setTop (mkF m 171 #[.val (.ref ks), .val (.ref aa), .val (.ref bb), .val (.ref rr), .val (.int ta), .val (.int rs), .val (.int tb), .val (.int bs), .val (.int bq), .val (.int cnt), .val (.double al), .second, .val (.double be), .second, .val (.int v), .val (.int x), .val (.int y)] [(.int ((4 : Int32) * rs)), (.int x), (.ref aa), (.double al), (.int (x + ((4 : Int32) * rs))), (.ref rr)]))
  refine own_up (fun _ kq => XS.iadd X4.here hx rfl (hb hby d4_171) rfl kq) ?_
  show own_Go p.tables e below _ (T4.setTop (mkF m 172 #[.val (.ref ks), .val (.ref aa), .val (.ref bb), .val (.ref rr), .val (.int ta), .val (.int rs), .val (.int tb), .val (.int bs), .val (.int bq), .val (.int cnt), .val (.double al), .second, .val (.double be), .second, .val (.int v), .val (.int x), .val (.int y)] [(.int (x + ((4 : Int32) * rs))), (.ref aa), (.double al), (.int (x + ((4 : Int32) * rs))), (.ref rr)]))
  refine own_up (fun _ kq => own_Arf.daload G_aa X4 hx hZ e4 i4.1 i4.2 (v := (.double (ua ((x + ((4 : Int32) * rs))).toNatClampNeg))) rfl (g := (mkF m 172 #[.val (.ref ks), .val (.ref aa), .val (.ref bb), .val (.ref rr), .val (.int ta), .val (.int rs), .val (.int tb), .val (.int bs), .val (.int bq), .val (.int cnt), .val (.double al), .second, .val (.double be), .second, .val (.int v), .val (.int x), .val (.int y)] [(.int (x + ((4 : Int32) * rs))), (.ref aa), (.double al), (.int (x + ((4 : Int32) * rs))), (.ref rr)])) rfl rfl (hb hby d4_172) _ kq) ?_
  show own_Go p.tables e below _ (T4.setTop (mkF m 173 #[.val (.ref ks), .val (.ref aa), .val (.ref bb), .val (.ref rr), .val (.int ta), .val (.int rs), .val (.int tb), .val (.int bs), .val (.int bq), .val (.int cnt), .val (.double al), .second, .val (.double be), .second, .val (.int v), .val (.int x), .val (.int y)] [(.double (ua ((x + ((4 : Int32) * rs))).toNatClampNeg)), (.double al), (.int (x + ((4 : Int32) * rs))), (.ref rr)]))
  refine own_up (fun _ kq => XS.dmulS X4.here hx rfl (v := (FP.dmul al (ua ((x + ((4 : Int32) * rs))).toNatClampNeg))) (hb hby d4_173) rfl (dmul_out hal (hua _)) rfl kq) ?_
  show own_Go p.tables e below _ (T4.setTop (mkF m 174 #[.val (.ref ks), .val (.ref aa), .val (.ref bb), .val (.ref rr), .val (.int ta), .val (.int rs), .val (.int tb), .val (.int bs), .val (.int bq), .val (.int cnt), .val (.double al), .second, .val (.double be), .second, .val (.int v), .val (.int x), .val (.int y)] [(.double (FP.dmul al (ua ((x + ((4 : Int32) * rs))).toNatClampNeg))), (.int (x + ((4 : Int32) * rs))), (.ref rr)]))
  refine own_up (fun _ kq => XS.dload X4.here hx rfl (hb hby d4_174) rfl kq) ?_
  show own_Go p.tables e below _ (T4.setTop (mkF m 176 #[.val (.ref ks), .val (.ref aa), .val (.ref bb), .val (.ref rr), .val (.int ta), .val (.int rs), .val (.int tb), .val (.int bs), .val (.int bq), .val (.int cnt), .val (.double al), .second, .val (.double be), .second, .val (.int v), .val (.int x), .val (.int y)] [(.double be), (.double (FP.dmul al (ua ((x + ((4 : Int32) * rs))).toNatClampNeg))), (.int (x + ((4 : Int32) * rs))), (.ref rr)]))
  refine own_up (fun _ kq => XS.aloadN X4.here hx rfl (hb hby d4_176) rfl rfl kq) ?_
  show own_Go p.tables e below _ (T4.setTop (mkF m 177 #[.val (.ref ks), .val (.ref aa), .val (.ref bb), .val (.ref rr), .val (.int ta), .val (.int rs), .val (.int tb), .val (.int bs), .val (.int bq), .val (.int cnt), .val (.double al), .second, .val (.double be), .second, .val (.int v), .val (.int x), .val (.int y)] [(.ref bb), (.double be), (.double (FP.dmul al (ua ((x + ((4 : Int32) * rs))).toNatClampNeg))), (.int (x + ((4 : Int32) * rs))), (.ref rr)]))
  refine own_up (fun _ kq => XS.iload X4.here hx rfl (hb hby d4_177) rfl kq) ?_
  show own_Go p.tables e below _ (T4.setTop (mkF m 179 #[.val (.ref ks), .val (.ref aa), .val (.ref bb), .val (.ref rr), .val (.int ta), .val (.int rs), .val (.int tb), .val (.int bs), .val (.int bq), .val (.int cnt), .val (.double al), .second, .val (.double be), .second, .val (.int v), .val (.int x), .val (.int y)] [(.int y), (.ref bb), (.double be), (.double (FP.dmul al (ua ((x + ((4 : Int32) * rs))).toNatClampNeg))), (.int (x + ((4 : Int32) * rs))), (.ref rr)]))
  refine own_up (fun _ kq => XS.iconst X4.here hx rfl (hb hby d4_179) kq) ?_
  show own_Go p.tables e below _ (T4.setTop (mkF m 180 #[.val (.ref ks), .val (.ref aa), .val (.ref bb), .val (.ref rr), .val (.int ta), .val (.int rs), .val (.int tb), .val (.int bs), .val (.int bq), .val (.int cnt), .val (.double al), .second, .val (.double be), .second, .val (.int v), .val (.int x), .val (.int y)] [(.int (4 : Int32)), (.int y), (.ref bb), (.double be), (.double (FP.dmul al (ua ((x + ((4 : Int32) * rs))).toNatClampNeg))), (.int (x + ((4 : Int32) * rs))), (.ref rr)]))
  refine own_up (fun _ kq => XS.iload X4.here hx rfl (hb hby d4_180) rfl kq) ?_
  show own_Go p.tables e below _ (T4.setTop (mkF m 182 #[.val (.ref ks), .val (.ref aa), .val (.ref bb), .val (.ref rr), .val (.int ta), .val (.int rs), .val (.int tb), .val (.int bs), .val (.int bq), .val (.int cnt), .val (.double al), .second, .val (.double be), .second, .val (.int v), .val (.int x), .val (.int y)] [(.int bq), (.int (4 : Int32)), (.int y), (.ref bb), (.double be), (.double (FP.dmul al (ua ((x + ((4 : Int32) * rs))).toNatClampNeg))), (.int (x + ((4 : Int32) * rs))), (.ref rr)]))
  refine own_up (fun _ kq => XS.imul X4.here hx rfl (hb hby d4_182) rfl kq) ?_
  show own_Go p.tables e below _ (T4.setTop (mkF m 183 #[.val (.ref ks), .val (.ref aa), .val (.ref bb), .val (.ref rr), .val (.int ta), .val (.int rs), .val (.int tb), .val (.int bs), .val (.int bq), .val (.int cnt), .val (.double al), .second, .val (.double be), .second, .val (.int v), .val (.int x), .val (.int y)] [(.int ((4 : Int32) * bq)), (.int y), (.ref bb), (.double be), (.double (FP.dmul al (ua ((x + ((4 : Int32) * rs))).toNatClampNeg))), (.int (x + ((4 : Int32) * rs))), (.ref rr)]))
  refine own_up (fun _ kq => XS.iadd X4.here hx rfl (hb hby d4_183) rfl kq) ?_
  show own_Go p.tables e below _ (T4.setTop (mkF m 184 #[.val (.ref ks), .val (.ref aa), .val (.ref bb), .val (.ref rr), .val (.int ta), .val (.int rs), .val (.int tb), .val (.int bs), .val (.int bq), .val (.int cnt), .val (.double al), .second, .val (.double be), .second, .val (.int v), .val (.int x), .val (.int y)] [(.int (y + ((4 : Int32) * bq))), (.ref bb), (.double be), (.double (FP.dmul al (ua ((x + ((4 : Int32) * rs))).toNatClampNeg))), (.int (x + ((4 : Int32) * rs))), (.ref rr)]))
  refine own_up (fun _ kq => own_Arf.daload G_bb X4 hx hZ e4 j4.1 j4.2 (v := (.double (ub ((y + ((4 : Int32) * bq))).toNatClampNeg))) rfl (g := (mkF m 184 #[.val (.ref ks), .val (.ref aa), .val (.ref bb), .val (.ref rr), .val (.int ta), .val (.int rs), .val (.int tb), .val (.int bs), .val (.int bq), .val (.int cnt), .val (.double al), .second, .val (.double be), .second, .val (.int v), .val (.int x), .val (.int y)] [(.int (y + ((4 : Int32) * bq))), (.ref bb), (.double be), (.double (FP.dmul al (ua ((x + ((4 : Int32) * rs))).toNatClampNeg))), (.int (x + ((4 : Int32) * rs))), (.ref rr)])) rfl rfl (hb hby d4_184) _ kq) ?_
  show own_Go p.tables e below _ (T4.setTop (mkF m 185 #[.val (.ref ks), .val (.ref aa), .val (.ref bb), .val (.ref rr), .val (.int ta), .val (.int rs), .val (.int tb), .val (.int bs), .val (.int bq), .val (.int cnt), .val (.double al), .second, .val (.double be), .second, .val (.int v), .val (.int x), .val (.int y)] [(.double (ub ((y + ((4 : Int32) * bq))).toNatClampNeg)), (.double be), (.double (FP.dmul al (ua ((x + ((4 : Int32) * rs))).toNatClampNeg))), (.int (x + ((4 : Int32) * rs))), (.ref rr)]))
  refine own_up (fun _ kq => XS.dmulS X4.here hx rfl (v := (FP.dmul be (ub ((y + ((4 : Int32) * bq))).toNatClampNeg))) (hb hby d4_185) rfl (hmb _).noNaN rfl kq) ?_
  show own_Go p.tables e below _ (T4.setTop (mkF m 186 #[.val (.ref ks), .val (.ref aa), .val (.ref bb), .val (.ref rr), .val (.int ta), .val (.int rs), .val (.int tb), .val (.int bs), .val (.int bq), .val (.int cnt), .val (.double al), .second, .val (.double be), .second, .val (.int v), .val (.int x), .val (.int y)] [(.double (FP.dmul be (ub ((y + ((4 : Int32) * bq))).toNatClampNeg))), (.double (FP.dmul al (ua ((x + ((4 : Int32) * rs))).toNatClampNeg))), (.int (x + ((4 : Int32) * rs))), (.ref rr)]))
  refine own_up (fun _ kq => XS.daddS X4.here hx rfl (v := (FP.dadd (FP.dmul al (ua ((x + ((4 : Int32) * rs))).toNatClampNeg)) (FP.dmul be (ub ((y + ((4 : Int32) * bq))).toNatClampNeg)))) (hb hby d4_186) rfl (dadd_out (dmul_out hal (hua _)) (hmb _)) rfl kq) ?_
  show own_Go p.tables e below _ (T4.setTop (mkF m 187 #[.val (.ref ks), .val (.ref aa), .val (.ref bb), .val (.ref rr), .val (.int ta), .val (.int rs), .val (.int tb), .val (.int bs), .val (.int bq), .val (.int cnt), .val (.double al), .second, .val (.double be), .second, .val (.int v), .val (.int x), .val (.int y)] [(.double (FP.dadd (FP.dmul al (ua ((x + ((4 : Int32) * rs))).toNatClampNeg)) (FP.dmul be (ub ((y + ((4 : Int32) * bq))).toNatClampNeg)))), (.int (x + ((4 : Int32) * rs))), (.ref rr)]))
  obtain ⟨cl5, Ar5, sz5, nz5, hc5⟩ := id G_rr
  obtain ⟨T5, h5, X5, e5, W5, st5⟩ := stD X4 hx hZ e4 Ar5 (j := (x + ((4 : Int32) * rs))) (inb_of sz5 ⟨i4.1, i4.2⟩) (g := (mkF m 187 #[.val (.ref ks), .val (.ref aa), .val (.ref bb), .val (.ref rr), .val (.int ta), .val (.int rs), .val (.int tb), .val (.int bs), .val (.int bq), .val (.int cnt), .val (.double al), .second, .val (.double be), .second, .val (.int v), .val (.int x), .val (.int y)] [(.double (FP.dadd (FP.dmul al (ua ((x + ((4 : Int32) * rs))).toNatClampNeg)) (FP.dmul be (ub ((y + ((4 : Int32) * bq))).toNatClampNeg)))), (.int (x + ((4 : Int32) * rs))), (.ref rr)])) rfl rfl (hb hby d4_187)
  have G_rr : own_Arf Z h5 rr .double (48 : Int32) (fun i => .double ((own_upd (own_upd (own_upd (own_upd (own_upd ur x (FP.dadd (FP.dmul al (ua (x).toNatClampNeg)) (FP.dmul be (ub (y).toNatClampNeg)))) (x + rs) (FP.dadd (FP.dmul al (ua ((x + rs)).toNatClampNeg)) (FP.dmul be (ub ((y + bq)).toNatClampNeg)))) (x + ((2 : Int32) * rs)) (FP.dadd (FP.dmul al (ua ((x + ((2 : Int32) * rs))).toNatClampNeg)) (FP.dmul be (ub ((y + ((2 : Int32) * bq))).toNatClampNeg)))) (x + ((3 : Int32) * rs)) (FP.dadd (FP.dmul al (ua ((x + ((3 : Int32) * rs))).toNatClampNeg)) (FP.dmul be (ub ((y + ((3 : Int32) * bq))).toNatClampNeg)))) (x + ((4 : Int32) * rs)) (FP.dadd (FP.dmul al (ua ((x + ((4 : Int32) * rs))).toNatClampNeg)) (FP.dmul be (ub ((y + ((4 : Int32) * bq))).toNatClampNeg)))) i)) := own_Arf.setD G_rr W5
  have N5 := Fr.snoc X5 N4 g_rr
  have G_aa := G_aa.other W5 ne_aa_rr
  have G_bb := G_bb.other W5 ne_bb_rr
  have ZH := Nat.le_trans ZH (Nat.le_of_eq W5.size.symm)
  have KK := KK.wr W5 (Or.inl (List.mem_of_getElem? (i := 0) rfl))
  refine own_up st5 ?_
  show own_Go p.tables e below _ (T5.setTop (mkF m 188 #[.val (.ref ks), .val (.ref aa), .val (.ref bb), .val (.ref rr), .val (.int ta), .val (.int rs), .val (.int tb), .val (.int bs), .val (.int bq), .val (.int cnt), .val (.double al), .second, .val (.double be), .second, .val (.int v), .val (.int x), .val (.int y)] []))
  refine own_up (fun _ kq => XS.aloadN X5.here hx rfl (hb hby d4_188) rfl rfl kq) ?_
  show own_Go p.tables e below _ (T5.setTop (mkF m 189 #[.val (.ref ks), .val (.ref aa), .val (.ref bb), .val (.ref rr), .val (.int ta), .val (.int rs), .val (.int tb), .val (.int bs), .val (.int bq), .val (.int cnt), .val (.double al), .second, .val (.double be), .second, .val (.int v), .val (.int x), .val (.int y)] [(.ref rr)]))
  refine own_up (fun _ kq => XS.iload X5.here hx rfl (hb hby d4_189) rfl kq) ?_
  show own_Go p.tables e below _ (T5.setTop (mkF m 191 #[.val (.ref ks), .val (.ref aa), .val (.ref bb), .val (.ref rr), .val (.int ta), .val (.int rs), .val (.int tb), .val (.int bs), .val (.int bq), .val (.int cnt), .val (.double al), .second, .val (.double be), .second, .val (.int v), .val (.int x), .val (.int y)] [(.int x), (.ref rr)]))
  refine own_up (fun _ kq => XS.iconst X5.here hx rfl (hb hby d4_191) kq) ?_
  show own_Go p.tables e below _ (T5.setTop (mkF m 192 #[.val (.ref ks), .val (.ref aa), .val (.ref bb), .val (.ref rr), .val (.int ta), .val (.int rs), .val (.int tb), .val (.int bs), .val (.int bq), .val (.int cnt), .val (.double al), .second, .val (.double be), .second, .val (.int v), .val (.int x), .val (.int y)] [(.int (5 : Int32)), (.int x), (.ref rr)]))
  refine own_up (fun _ kq => XS.iload X5.here hx rfl (hb hby d4_192) rfl kq) ?_
  show own_Go p.tables e below _ (T5.setTop (mkF m 194 #[.val (.ref ks), .val (.ref aa), .val (.ref bb), .val (.ref rr), .val (.int ta), .val (.int rs), .val (.int tb), .val (.int bs), .val (.int bq), .val (.int cnt), .val (.double al), .second, .val (.double be), .second, .val (.int v), .val (.int x), .val (.int y)] [(.int rs), (.int (5 : Int32)), (.int x), (.ref rr)]))
  refine own_up (fun _ kq => XS.imul X5.here hx rfl (hb hby d4_194) rfl kq) ?_
  show own_Go p.tables e below _ (T5.setTop (mkF m 195 #[.val (.ref ks), .val (.ref aa), .val (.ref bb), .val (.ref rr), .val (.int ta), .val (.int rs), .val (.int tb), .val (.int bs), .val (.int bq), .val (.int cnt), .val (.double al), .second, .val (.double be), .second, .val (.int v), .val (.int x), .val (.int y)] [(.int ((5 : Int32) * rs)), (.int x), (.ref rr)]))
  refine own_up (fun _ kq => XS.iadd X5.here hx rfl (hb hby d4_195) rfl kq) ?_
  show own_Go p.tables e below _ (T5.setTop (mkF m 196 #[.val (.ref ks), .val (.ref aa), .val (.ref bb), .val (.ref rr), .val (.int ta), .val (.int rs), .val (.int tb), .val (.int bs), .val (.int bq), .val (.int cnt), .val (.double al), .second, .val (.double be), .second, .val (.int v), .val (.int x), .val (.int y)] [(.int (x + ((5 : Int32) * rs))), (.ref rr)]))
  refine own_up (fun _ kq => XS.dload X5.here hx rfl (hb hby d4_196) rfl kq) ?_
  show own_Go p.tables e below _ (T5.setTop (mkF m 198 #[.val (.ref ks), .val (.ref aa), .val (.ref bb), .val (.ref rr), .val (.int ta), .val (.int rs), .val (.int tb), .val (.int bs), .val (.int bq), .val (.int cnt), .val (.double al), .second, .val (.double be), .second, .val (.int v), .val (.int x), .val (.int y)] [(.double al), (.int (x + ((5 : Int32) * rs))), (.ref rr)]))
  refine own_up (fun _ kq => XS.aloadN X5.here hx rfl (hb hby d4_198) rfl rfl kq) ?_
  show own_Go p.tables e below _ (T5.setTop (mkF m 199 #[.val (.ref ks), .val (.ref aa), .val (.ref bb), .val (.ref rr), .val (.int ta), .val (.int rs), .val (.int tb), .val (.int bs), .val (.int bq), .val (.int cnt), .val (.double al), .second, .val (.double be), .second, .val (.int v), .val (.int x), .val (.int y)] [(.ref aa), (.double al), (.int (x + ((5 : Int32) * rs))), (.ref rr)]))
  refine own_up (fun _ kq => XS.iload X5.here hx rfl (hb hby d4_199) rfl kq) ?_
  show own_Go p.tables e below _ (T5.setTop (mkF m 201 #[.val (.ref ks), .val (.ref aa), .val (.ref bb), .val (.ref rr), .val (.int ta), .val (.int rs), .val (.int tb), .val (.int bs), .val (.int bq), .val (.int cnt), .val (.double al), .second, .val (.double be), .second, .val (.int v), .val (.int x), .val (.int y)] [(.int x), (.ref aa), (.double al), (.int (x + ((5 : Int32) * rs))), (.ref rr)]))
  refine own_up (fun _ kq => XS.iconst X5.here hx rfl (hb hby d4_201) kq) ?_
  show own_Go p.tables e below _ (T5.setTop (mkF m 202 #[.val (.ref ks), .val (.ref aa), .val (.ref bb), .val (.ref rr), .val (.int ta), .val (.int rs), .val (.int tb), .val (.int bs), .val (.int bq), .val (.int cnt), .val (.double al), .second, .val (.double be), .second, .val (.int v), .val (.int x), .val (.int y)] [(.int (5 : Int32)), (.int x), (.ref aa), (.double al), (.int (x + ((5 : Int32) * rs))), (.ref rr)]))
  refine own_up (fun _ kq => XS.iload X5.here hx rfl (hb hby d4_202) rfl kq) ?_
  show own_Go p.tables e below _ (T5.setTop (mkF m 204 #[.val (.ref ks), .val (.ref aa), .val (.ref bb), .val (.ref rr), .val (.int ta), .val (.int rs), .val (.int tb), .val (.int bs), .val (.int bq), .val (.int cnt), .val (.double al), .second, .val (.double be), .second, .val (.int v), .val (.int x), .val (.int y)] [(.int rs), (.int (5 : Int32)), (.int x), (.ref aa), (.double al), (.int (x + ((5 : Int32) * rs))), (.ref rr)]))
  refine own_up (fun _ kq => XS.imul X5.here hx rfl (hb hby d4_204) rfl kq) ?_
  show own_Go p.tables e below _ (T5.setTop (mkF m 205 #[.val (.ref ks), .val (.ref aa), .val (.ref bb), .val (.ref rr), .val (.int ta), .val (.int rs), .val (.int tb), .val (.int bs), .val (.int bq), .val (.int cnt), .val (.double al), .second, .val (.double be), .second, .val (.int v), .val (.int x), .val (.int y)] [(.int ((5 : Int32) * rs)), (.int x), (.ref aa), (.double al), (.int (x + ((5 : Int32) * rs))), (.ref rr)]))
  refine own_up (fun _ kq => XS.iadd X5.here hx rfl (hb hby d4_205) rfl kq) ?_
  show own_Go p.tables e below _ (T5.setTop (mkF m 206 #[.val (.ref ks), .val (.ref aa), .val (.ref bb), .val (.ref rr), .val (.int ta), .val (.int rs), .val (.int tb), .val (.int bs), .val (.int bq), .val (.int cnt), .val (.double al), .second, .val (.double be), .second, .val (.int v), .val (.int x), .val (.int y)] [(.int (x + ((5 : Int32) * rs))), (.ref aa), (.double al), (.int (x + ((5 : Int32) * rs))), (.ref rr)]))
  refine own_up (fun _ kq => own_Arf.daload G_aa X5 hx hZ e5 i5.1 i5.2 (v := (.double (ua ((x + ((5 : Int32) * rs))).toNatClampNeg))) rfl (g := (mkF m 206 #[.val (.ref ks), .val (.ref aa), .val (.ref bb), .val (.ref rr), .val (.int ta), .val (.int rs), .val (.int tb), .val (.int bs), .val (.int bq), .val (.int cnt), .val (.double al), .second, .val (.double be), .second, .val (.int v), .val (.int x), .val (.int y)] [(.int (x + ((5 : Int32) * rs))), (.ref aa), (.double al), (.int (x + ((5 : Int32) * rs))), (.ref rr)])) rfl rfl (hb hby d4_206) _ kq) ?_
  show own_Go p.tables e below _ (T5.setTop (mkF m 207 #[.val (.ref ks), .val (.ref aa), .val (.ref bb), .val (.ref rr), .val (.int ta), .val (.int rs), .val (.int tb), .val (.int bs), .val (.int bq), .val (.int cnt), .val (.double al), .second, .val (.double be), .second, .val (.int v), .val (.int x), .val (.int y)] [(.double (ua ((x + ((5 : Int32) * rs))).toNatClampNeg)), (.double al), (.int (x + ((5 : Int32) * rs))), (.ref rr)]))
  refine own_up (fun _ kq => XS.dmulS X5.here hx rfl (v := (FP.dmul al (ua ((x + ((5 : Int32) * rs))).toNatClampNeg))) (hb hby d4_207) rfl (dmul_out hal (hua _)) rfl kq) ?_
  show own_Go p.tables e below _ (T5.setTop (mkF m 208 #[.val (.ref ks), .val (.ref aa), .val (.ref bb), .val (.ref rr), .val (.int ta), .val (.int rs), .val (.int tb), .val (.int bs), .val (.int bq), .val (.int cnt), .val (.double al), .second, .val (.double be), .second, .val (.int v), .val (.int x), .val (.int y)] [(.double (FP.dmul al (ua ((x + ((5 : Int32) * rs))).toNatClampNeg))), (.int (x + ((5 : Int32) * rs))), (.ref rr)]))
  refine own_up (fun _ kq => XS.dload X5.here hx rfl (hb hby d4_208) rfl kq) ?_
  show own_Go p.tables e below _ (T5.setTop (mkF m 210 #[.val (.ref ks), .val (.ref aa), .val (.ref bb), .val (.ref rr), .val (.int ta), .val (.int rs), .val (.int tb), .val (.int bs), .val (.int bq), .val (.int cnt), .val (.double al), .second, .val (.double be), .second, .val (.int v), .val (.int x), .val (.int y)] [(.double be), (.double (FP.dmul al (ua ((x + ((5 : Int32) * rs))).toNatClampNeg))), (.int (x + ((5 : Int32) * rs))), (.ref rr)]))
  refine own_up (fun _ kq => XS.aloadN X5.here hx rfl (hb hby d4_210) rfl rfl kq) ?_
  show own_Go p.tables e below _ (T5.setTop (mkF m 211 #[.val (.ref ks), .val (.ref aa), .val (.ref bb), .val (.ref rr), .val (.int ta), .val (.int rs), .val (.int tb), .val (.int bs), .val (.int bq), .val (.int cnt), .val (.double al), .second, .val (.double be), .second, .val (.int v), .val (.int x), .val (.int y)] [(.ref bb), (.double be), (.double (FP.dmul al (ua ((x + ((5 : Int32) * rs))).toNatClampNeg))), (.int (x + ((5 : Int32) * rs))), (.ref rr)]))
  refine own_up (fun _ kq => XS.iload X5.here hx rfl (hb hby d4_211) rfl kq) ?_
  show own_Go p.tables e below _ (T5.setTop (mkF m 213 #[.val (.ref ks), .val (.ref aa), .val (.ref bb), .val (.ref rr), .val (.int ta), .val (.int rs), .val (.int tb), .val (.int bs), .val (.int bq), .val (.int cnt), .val (.double al), .second, .val (.double be), .second, .val (.int v), .val (.int x), .val (.int y)] [(.int y), (.ref bb), (.double be), (.double (FP.dmul al (ua ((x + ((5 : Int32) * rs))).toNatClampNeg))), (.int (x + ((5 : Int32) * rs))), (.ref rr)]))
  refine own_up (fun _ kq => XS.iconst X5.here hx rfl (hb hby d4_213) kq) ?_
  show own_Go p.tables e below _ (T5.setTop (mkF m 214 #[.val (.ref ks), .val (.ref aa), .val (.ref bb), .val (.ref rr), .val (.int ta), .val (.int rs), .val (.int tb), .val (.int bs), .val (.int bq), .val (.int cnt), .val (.double al), .second, .val (.double be), .second, .val (.int v), .val (.int x), .val (.int y)] [(.int (5 : Int32)), (.int y), (.ref bb), (.double be), (.double (FP.dmul al (ua ((x + ((5 : Int32) * rs))).toNatClampNeg))), (.int (x + ((5 : Int32) * rs))), (.ref rr)]))
  refine own_up (fun _ kq => XS.iload X5.here hx rfl (hb hby d4_214) rfl kq) ?_
  show own_Go p.tables e below _ (T5.setTop (mkF m 216 #[.val (.ref ks), .val (.ref aa), .val (.ref bb), .val (.ref rr), .val (.int ta), .val (.int rs), .val (.int tb), .val (.int bs), .val (.int bq), .val (.int cnt), .val (.double al), .second, .val (.double be), .second, .val (.int v), .val (.int x), .val (.int y)] [(.int bq), (.int (5 : Int32)), (.int y), (.ref bb), (.double be), (.double (FP.dmul al (ua ((x + ((5 : Int32) * rs))).toNatClampNeg))), (.int (x + ((5 : Int32) * rs))), (.ref rr)]))
  refine own_up (fun _ kq => XS.imul X5.here hx rfl (hb hby d4_216) rfl kq) ?_
  show own_Go p.tables e below _ (T5.setTop (mkF m 217 #[.val (.ref ks), .val (.ref aa), .val (.ref bb), .val (.ref rr), .val (.int ta), .val (.int rs), .val (.int tb), .val (.int bs), .val (.int bq), .val (.int cnt), .val (.double al), .second, .val (.double be), .second, .val (.int v), .val (.int x), .val (.int y)] [(.int ((5 : Int32) * bq)), (.int y), (.ref bb), (.double be), (.double (FP.dmul al (ua ((x + ((5 : Int32) * rs))).toNatClampNeg))), (.int (x + ((5 : Int32) * rs))), (.ref rr)]))
  refine own_up (fun _ kq => XS.iadd X5.here hx rfl (hb hby d4_217) rfl kq) ?_
  show own_Go p.tables e below _ (T5.setTop (mkF m 218 #[.val (.ref ks), .val (.ref aa), .val (.ref bb), .val (.ref rr), .val (.int ta), .val (.int rs), .val (.int tb), .val (.int bs), .val (.int bq), .val (.int cnt), .val (.double al), .second, .val (.double be), .second, .val (.int v), .val (.int x), .val (.int y)] [(.int (y + ((5 : Int32) * bq))), (.ref bb), (.double be), (.double (FP.dmul al (ua ((x + ((5 : Int32) * rs))).toNatClampNeg))), (.int (x + ((5 : Int32) * rs))), (.ref rr)]))
  refine own_up (fun _ kq => own_Arf.daload G_bb X5 hx hZ e5 j5.1 j5.2 (v := (.double (ub ((y + ((5 : Int32) * bq))).toNatClampNeg))) rfl (g := (mkF m 218 #[.val (.ref ks), .val (.ref aa), .val (.ref bb), .val (.ref rr), .val (.int ta), .val (.int rs), .val (.int tb), .val (.int bs), .val (.int bq), .val (.int cnt), .val (.double al), .second, .val (.double be), .second, .val (.int v), .val (.int x), .val (.int y)] [(.int (y + ((5 : Int32) * bq))), (.ref bb), (.double be), (.double (FP.dmul al (ua ((x + ((5 : Int32) * rs))).toNatClampNeg))), (.int (x + ((5 : Int32) * rs))), (.ref rr)])) rfl rfl (hb hby d4_218) _ kq) ?_
  show own_Go p.tables e below _ (T5.setTop (mkF m 219 #[.val (.ref ks), .val (.ref aa), .val (.ref bb), .val (.ref rr), .val (.int ta), .val (.int rs), .val (.int tb), .val (.int bs), .val (.int bq), .val (.int cnt), .val (.double al), .second, .val (.double be), .second, .val (.int v), .val (.int x), .val (.int y)] [(.double (ub ((y + ((5 : Int32) * bq))).toNatClampNeg)), (.double be), (.double (FP.dmul al (ua ((x + ((5 : Int32) * rs))).toNatClampNeg))), (.int (x + ((5 : Int32) * rs))), (.ref rr)]))
  refine own_up (fun _ kq => XS.dmulS X5.here hx rfl (v := (FP.dmul be (ub ((y + ((5 : Int32) * bq))).toNatClampNeg))) (hb hby d4_219) rfl (hmb _).noNaN rfl kq) ?_
  show own_Go p.tables e below _ (T5.setTop (mkF m 220 #[.val (.ref ks), .val (.ref aa), .val (.ref bb), .val (.ref rr), .val (.int ta), .val (.int rs), .val (.int tb), .val (.int bs), .val (.int bq), .val (.int cnt), .val (.double al), .second, .val (.double be), .second, .val (.int v), .val (.int x), .val (.int y)] [(.double (FP.dmul be (ub ((y + ((5 : Int32) * bq))).toNatClampNeg))), (.double (FP.dmul al (ua ((x + ((5 : Int32) * rs))).toNatClampNeg))), (.int (x + ((5 : Int32) * rs))), (.ref rr)]))
  refine own_up (fun _ kq => XS.daddS X5.here hx rfl (v := (FP.dadd (FP.dmul al (ua ((x + ((5 : Int32) * rs))).toNatClampNeg)) (FP.dmul be (ub ((y + ((5 : Int32) * bq))).toNatClampNeg)))) (hb hby d4_220) rfl (dadd_out (dmul_out hal (hua _)) (hmb _)) rfl kq) ?_
  show own_Go p.tables e below _ (T5.setTop (mkF m 221 #[.val (.ref ks), .val (.ref aa), .val (.ref bb), .val (.ref rr), .val (.int ta), .val (.int rs), .val (.int tb), .val (.int bs), .val (.int bq), .val (.int cnt), .val (.double al), .second, .val (.double be), .second, .val (.int v), .val (.int x), .val (.int y)] [(.double (FP.dadd (FP.dmul al (ua ((x + ((5 : Int32) * rs))).toNatClampNeg)) (FP.dmul be (ub ((y + ((5 : Int32) * bq))).toNatClampNeg)))), (.int (x + ((5 : Int32) * rs))), (.ref rr)]))
  obtain ⟨cl6, Ar6, sz6, nz6, hc6⟩ := id G_rr
  obtain ⟨T6, h6, X6, e6, W6, st6⟩ := stD X5 hx hZ e5 Ar6 (j := (x + ((5 : Int32) * rs))) (inb_of sz6 ⟨i5.1, i5.2⟩) (g := (mkF m 221 #[.val (.ref ks), .val (.ref aa), .val (.ref bb), .val (.ref rr), .val (.int ta), .val (.int rs), .val (.int tb), .val (.int bs), .val (.int bq), .val (.int cnt), .val (.double al), .second, .val (.double be), .second, .val (.int v), .val (.int x), .val (.int y)] [(.double (FP.dadd (FP.dmul al (ua ((x + ((5 : Int32) * rs))).toNatClampNeg)) (FP.dmul be (ub ((y + ((5 : Int32) * bq))).toNatClampNeg)))), (.int (x + ((5 : Int32) * rs))), (.ref rr)])) rfl rfl (hb hby d4_221)
  have G_rr : own_Arf Z h6 rr .double (48 : Int32) (fun i => .double ((own_upd (own_upd (own_upd (own_upd (own_upd (own_upd ur x (FP.dadd (FP.dmul al (ua (x).toNatClampNeg)) (FP.dmul be (ub (y).toNatClampNeg)))) (x + rs) (FP.dadd (FP.dmul al (ua ((x + rs)).toNatClampNeg)) (FP.dmul be (ub ((y + bq)).toNatClampNeg)))) (x + ((2 : Int32) * rs)) (FP.dadd (FP.dmul al (ua ((x + ((2 : Int32) * rs))).toNatClampNeg)) (FP.dmul be (ub ((y + ((2 : Int32) * bq))).toNatClampNeg)))) (x + ((3 : Int32) * rs)) (FP.dadd (FP.dmul al (ua ((x + ((3 : Int32) * rs))).toNatClampNeg)) (FP.dmul be (ub ((y + ((3 : Int32) * bq))).toNatClampNeg)))) (x + ((4 : Int32) * rs)) (FP.dadd (FP.dmul al (ua ((x + ((4 : Int32) * rs))).toNatClampNeg)) (FP.dmul be (ub ((y + ((4 : Int32) * bq))).toNatClampNeg)))) (x + ((5 : Int32) * rs)) (FP.dadd (FP.dmul al (ua ((x + ((5 : Int32) * rs))).toNatClampNeg)) (FP.dmul be (ub ((y + ((5 : Int32) * bq))).toNatClampNeg)))) i)) := own_Arf.setD G_rr W6
  have N6 := Fr.snoc X6 N5 g_rr
  have G_aa := G_aa.other W6 ne_aa_rr
  have G_bb := G_bb.other W6 ne_bb_rr
  have ZH := Nat.le_trans ZH (Nat.le_of_eq W6.size.symm)
  have KK := KK.wr W6 (Or.inl (List.mem_of_getElem? (i := 0) rfl))
  refine own_up st6 ?_
  show own_Go p.tables e below _ (T6.setTop (mkF m 222 #[.val (.ref ks), .val (.ref aa), .val (.ref bb), .val (.ref rr), .val (.int ta), .val (.int rs), .val (.int tb), .val (.int bs), .val (.int bq), .val (.int cnt), .val (.double al), .second, .val (.double be), .second, .val (.int v), .val (.int x), .val (.int y)] []))
  refine own_up (fun _ kq => XS.aloadN X6.here hx rfl (hb hby d4_222) rfl rfl kq) ?_
  show own_Go p.tables e below _ (T6.setTop (mkF m 223 #[.val (.ref ks), .val (.ref aa), .val (.ref bb), .val (.ref rr), .val (.int ta), .val (.int rs), .val (.int tb), .val (.int bs), .val (.int bq), .val (.int cnt), .val (.double al), .second, .val (.double be), .second, .val (.int v), .val (.int x), .val (.int y)] [(.ref rr)]))
  refine own_up (fun _ kq => XS.iload X6.here hx rfl (hb hby d4_223) rfl kq) ?_
  show own_Go p.tables e below _ (T6.setTop (mkF m 225 #[.val (.ref ks), .val (.ref aa), .val (.ref bb), .val (.ref rr), .val (.int ta), .val (.int rs), .val (.int tb), .val (.int bs), .val (.int bq), .val (.int cnt), .val (.double al), .second, .val (.double be), .second, .val (.int v), .val (.int x), .val (.int y)] [(.int x), (.ref rr)]))
  refine own_up (fun _ kq => XS.bipush X6.here hx rfl (hb hby d4_225) kq) ?_
  show own_Go p.tables e below _ (T6.setTop (mkF m 227 #[.val (.ref ks), .val (.ref aa), .val (.ref bb), .val (.ref rr), .val (.int ta), .val (.int rs), .val (.int tb), .val (.int bs), .val (.int bq), .val (.int cnt), .val (.double al), .second, .val (.double be), .second, .val (.int v), .val (.int x), .val (.int y)] [(.int (6 : Int32)), (.int x), (.ref rr)]))
  refine own_up (fun _ kq => XS.iload X6.here hx rfl (hb hby d4_227) rfl kq) ?_
  show own_Go p.tables e below _ (T6.setTop (mkF m 229 #[.val (.ref ks), .val (.ref aa), .val (.ref bb), .val (.ref rr), .val (.int ta), .val (.int rs), .val (.int tb), .val (.int bs), .val (.int bq), .val (.int cnt), .val (.double al), .second, .val (.double be), .second, .val (.int v), .val (.int x), .val (.int y)] [(.int rs), (.int (6 : Int32)), (.int x), (.ref rr)]))
  refine own_up (fun _ kq => XS.imul X6.here hx rfl (hb hby d4_229) rfl kq) ?_
  show own_Go p.tables e below _ (T6.setTop (mkF m 230 #[.val (.ref ks), .val (.ref aa), .val (.ref bb), .val (.ref rr), .val (.int ta), .val (.int rs), .val (.int tb), .val (.int bs), .val (.int bq), .val (.int cnt), .val (.double al), .second, .val (.double be), .second, .val (.int v), .val (.int x), .val (.int y)] [(.int ((6 : Int32) * rs)), (.int x), (.ref rr)]))
  refine own_up (fun _ kq => XS.iadd X6.here hx rfl (hb hby d4_230) rfl kq) ?_
  show own_Go p.tables e below _ (T6.setTop (mkF m 231 #[.val (.ref ks), .val (.ref aa), .val (.ref bb), .val (.ref rr), .val (.int ta), .val (.int rs), .val (.int tb), .val (.int bs), .val (.int bq), .val (.int cnt), .val (.double al), .second, .val (.double be), .second, .val (.int v), .val (.int x), .val (.int y)] [(.int (x + ((6 : Int32) * rs))), (.ref rr)]))
  refine own_up (fun _ kq => XS.dload X6.here hx rfl (hb hby d4_231) rfl kq) ?_
  show own_Go p.tables e below _ (T6.setTop (mkF m 233 #[.val (.ref ks), .val (.ref aa), .val (.ref bb), .val (.ref rr), .val (.int ta), .val (.int rs), .val (.int tb), .val (.int bs), .val (.int bq), .val (.int cnt), .val (.double al), .second, .val (.double be), .second, .val (.int v), .val (.int x), .val (.int y)] [(.double al), (.int (x + ((6 : Int32) * rs))), (.ref rr)]))
  refine own_up (fun _ kq => XS.aloadN X6.here hx rfl (hb hby d4_233) rfl rfl kq) ?_
  show own_Go p.tables e below _ (T6.setTop (mkF m 234 #[.val (.ref ks), .val (.ref aa), .val (.ref bb), .val (.ref rr), .val (.int ta), .val (.int rs), .val (.int tb), .val (.int bs), .val (.int bq), .val (.int cnt), .val (.double al), .second, .val (.double be), .second, .val (.int v), .val (.int x), .val (.int y)] [(.ref aa), (.double al), (.int (x + ((6 : Int32) * rs))), (.ref rr)]))
  refine own_up (fun _ kq => XS.iload X6.here hx rfl (hb hby d4_234) rfl kq) ?_
  show own_Go p.tables e below _ (T6.setTop (mkF m 236 #[.val (.ref ks), .val (.ref aa), .val (.ref bb), .val (.ref rr), .val (.int ta), .val (.int rs), .val (.int tb), .val (.int bs), .val (.int bq), .val (.int cnt), .val (.double al), .second, .val (.double be), .second, .val (.int v), .val (.int x), .val (.int y)] [(.int x), (.ref aa), (.double al), (.int (x + ((6 : Int32) * rs))), (.ref rr)]))
  refine own_up (fun _ kq => XS.bipush X6.here hx rfl (hb hby d4_236) kq) ?_
  show own_Go p.tables e below _ (T6.setTop (mkF m 238 #[.val (.ref ks), .val (.ref aa), .val (.ref bb), .val (.ref rr), .val (.int ta), .val (.int rs), .val (.int tb), .val (.int bs), .val (.int bq), .val (.int cnt), .val (.double al), .second, .val (.double be), .second, .val (.int v), .val (.int x), .val (.int y)] [(.int (6 : Int32)), (.int x), (.ref aa), (.double al), (.int (x + ((6 : Int32) * rs))), (.ref rr)]))
  refine own_up (fun _ kq => XS.iload X6.here hx rfl (hb hby d4_238) rfl kq) ?_
  show own_Go p.tables e below _ (T6.setTop (mkF m 240 #[.val (.ref ks), .val (.ref aa), .val (.ref bb), .val (.ref rr), .val (.int ta), .val (.int rs), .val (.int tb), .val (.int bs), .val (.int bq), .val (.int cnt), .val (.double al), .second, .val (.double be), .second, .val (.int v), .val (.int x), .val (.int y)] [(.int rs), (.int (6 : Int32)), (.int x), (.ref aa), (.double al), (.int (x + ((6 : Int32) * rs))), (.ref rr)]))
  refine own_up (fun _ kq => XS.imul X6.here hx rfl (hb hby d4_240) rfl kq) ?_
  show own_Go p.tables e below _ (T6.setTop (mkF m 241 #[.val (.ref ks), .val (.ref aa), .val (.ref bb), .val (.ref rr), .val (.int ta), .val (.int rs), .val (.int tb), .val (.int bs), .val (.int bq), .val (.int cnt), .val (.double al), .second, .val (.double be), .second, .val (.int v), .val (.int x), .val (.int y)] [(.int ((6 : Int32) * rs)), (.int x), (.ref aa), (.double al), (.int (x + ((6 : Int32) * rs))), (.ref rr)]))
  refine own_up (fun _ kq => XS.iadd X6.here hx rfl (hb hby d4_241) rfl kq) ?_
  show own_Go p.tables e below _ (T6.setTop (mkF m 242 #[.val (.ref ks), .val (.ref aa), .val (.ref bb), .val (.ref rr), .val (.int ta), .val (.int rs), .val (.int tb), .val (.int bs), .val (.int bq), .val (.int cnt), .val (.double al), .second, .val (.double be), .second, .val (.int v), .val (.int x), .val (.int y)] [(.int (x + ((6 : Int32) * rs))), (.ref aa), (.double al), (.int (x + ((6 : Int32) * rs))), (.ref rr)]))
  refine own_up (fun _ kq => own_Arf.daload G_aa X6 hx hZ e6 i6.1 i6.2 (v := (.double (ua ((x + ((6 : Int32) * rs))).toNatClampNeg))) rfl (g := (mkF m 242 #[.val (.ref ks), .val (.ref aa), .val (.ref bb), .val (.ref rr), .val (.int ta), .val (.int rs), .val (.int tb), .val (.int bs), .val (.int bq), .val (.int cnt), .val (.double al), .second, .val (.double be), .second, .val (.int v), .val (.int x), .val (.int y)] [(.int (x + ((6 : Int32) * rs))), (.ref aa), (.double al), (.int (x + ((6 : Int32) * rs))), (.ref rr)])) rfl rfl (hb hby d4_242) _ kq) ?_
  show own_Go p.tables e below _ (T6.setTop (mkF m 243 #[.val (.ref ks), .val (.ref aa), .val (.ref bb), .val (.ref rr), .val (.int ta), .val (.int rs), .val (.int tb), .val (.int bs), .val (.int bq), .val (.int cnt), .val (.double al), .second, .val (.double be), .second, .val (.int v), .val (.int x), .val (.int y)] [(.double (ua ((x + ((6 : Int32) * rs))).toNatClampNeg)), (.double al), (.int (x + ((6 : Int32) * rs))), (.ref rr)]))
  refine own_up (fun _ kq => XS.dmulS X6.here hx rfl (v := (FP.dmul al (ua ((x + ((6 : Int32) * rs))).toNatClampNeg))) (hb hby d4_243) rfl (dmul_out hal (hua _)) rfl kq) ?_
  show own_Go p.tables e below _ (T6.setTop (mkF m 244 #[.val (.ref ks), .val (.ref aa), .val (.ref bb), .val (.ref rr), .val (.int ta), .val (.int rs), .val (.int tb), .val (.int bs), .val (.int bq), .val (.int cnt), .val (.double al), .second, .val (.double be), .second, .val (.int v), .val (.int x), .val (.int y)] [(.double (FP.dmul al (ua ((x + ((6 : Int32) * rs))).toNatClampNeg))), (.int (x + ((6 : Int32) * rs))), (.ref rr)]))
  refine own_up (fun _ kq => XS.dload X6.here hx rfl (hb hby d4_244) rfl kq) ?_
  show own_Go p.tables e below _ (T6.setTop (mkF m 246 #[.val (.ref ks), .val (.ref aa), .val (.ref bb), .val (.ref rr), .val (.int ta), .val (.int rs), .val (.int tb), .val (.int bs), .val (.int bq), .val (.int cnt), .val (.double al), .second, .val (.double be), .second, .val (.int v), .val (.int x), .val (.int y)] [(.double be), (.double (FP.dmul al (ua ((x + ((6 : Int32) * rs))).toNatClampNeg))), (.int (x + ((6 : Int32) * rs))), (.ref rr)]))
  refine own_up (fun _ kq => XS.aloadN X6.here hx rfl (hb hby d4_246) rfl rfl kq) ?_
  show own_Go p.tables e below _ (T6.setTop (mkF m 247 #[.val (.ref ks), .val (.ref aa), .val (.ref bb), .val (.ref rr), .val (.int ta), .val (.int rs), .val (.int tb), .val (.int bs), .val (.int bq), .val (.int cnt), .val (.double al), .second, .val (.double be), .second, .val (.int v), .val (.int x), .val (.int y)] [(.ref bb), (.double be), (.double (FP.dmul al (ua ((x + ((6 : Int32) * rs))).toNatClampNeg))), (.int (x + ((6 : Int32) * rs))), (.ref rr)]))
  refine own_up (fun _ kq => XS.iload X6.here hx rfl (hb hby d4_247) rfl kq) ?_
  show own_Go p.tables e below _ (T6.setTop (mkF m 249 #[.val (.ref ks), .val (.ref aa), .val (.ref bb), .val (.ref rr), .val (.int ta), .val (.int rs), .val (.int tb), .val (.int bs), .val (.int bq), .val (.int cnt), .val (.double al), .second, .val (.double be), .second, .val (.int v), .val (.int x), .val (.int y)] [(.int y), (.ref bb), (.double be), (.double (FP.dmul al (ua ((x + ((6 : Int32) * rs))).toNatClampNeg))), (.int (x + ((6 : Int32) * rs))), (.ref rr)]))
  refine own_up (fun _ kq => XS.bipush X6.here hx rfl (hb hby d4_249) kq) ?_
  show own_Go p.tables e below _ (T6.setTop (mkF m 251 #[.val (.ref ks), .val (.ref aa), .val (.ref bb), .val (.ref rr), .val (.int ta), .val (.int rs), .val (.int tb), .val (.int bs), .val (.int bq), .val (.int cnt), .val (.double al), .second, .val (.double be), .second, .val (.int v), .val (.int x), .val (.int y)] [(.int (6 : Int32)), (.int y), (.ref bb), (.double be), (.double (FP.dmul al (ua ((x + ((6 : Int32) * rs))).toNatClampNeg))), (.int (x + ((6 : Int32) * rs))), (.ref rr)]))
  refine own_up (fun _ kq => XS.iload X6.here hx rfl (hb hby d4_251) rfl kq) ?_
  show own_Go p.tables e below _ (T6.setTop (mkF m 253 #[.val (.ref ks), .val (.ref aa), .val (.ref bb), .val (.ref rr), .val (.int ta), .val (.int rs), .val (.int tb), .val (.int bs), .val (.int bq), .val (.int cnt), .val (.double al), .second, .val (.double be), .second, .val (.int v), .val (.int x), .val (.int y)] [(.int bq), (.int (6 : Int32)), (.int y), (.ref bb), (.double be), (.double (FP.dmul al (ua ((x + ((6 : Int32) * rs))).toNatClampNeg))), (.int (x + ((6 : Int32) * rs))), (.ref rr)]))
  refine own_up (fun _ kq => XS.imul X6.here hx rfl (hb hby d4_253) rfl kq) ?_
  show own_Go p.tables e below _ (T6.setTop (mkF m 254 #[.val (.ref ks), .val (.ref aa), .val (.ref bb), .val (.ref rr), .val (.int ta), .val (.int rs), .val (.int tb), .val (.int bs), .val (.int bq), .val (.int cnt), .val (.double al), .second, .val (.double be), .second, .val (.int v), .val (.int x), .val (.int y)] [(.int ((6 : Int32) * bq)), (.int y), (.ref bb), (.double be), (.double (FP.dmul al (ua ((x + ((6 : Int32) * rs))).toNatClampNeg))), (.int (x + ((6 : Int32) * rs))), (.ref rr)]))
  refine own_up (fun _ kq => XS.iadd X6.here hx rfl (hb hby d4_254) rfl kq) ?_
  show own_Go p.tables e below _ (T6.setTop (mkF m 255 #[.val (.ref ks), .val (.ref aa), .val (.ref bb), .val (.ref rr), .val (.int ta), .val (.int rs), .val (.int tb), .val (.int bs), .val (.int bq), .val (.int cnt), .val (.double al), .second, .val (.double be), .second, .val (.int v), .val (.int x), .val (.int y)] [(.int (y + ((6 : Int32) * bq))), (.ref bb), (.double be), (.double (FP.dmul al (ua ((x + ((6 : Int32) * rs))).toNatClampNeg))), (.int (x + ((6 : Int32) * rs))), (.ref rr)]))
  refine own_up (fun _ kq => own_Arf.daload G_bb X6 hx hZ e6 j6.1 j6.2 (v := (.double (ub ((y + ((6 : Int32) * bq))).toNatClampNeg))) rfl (g := (mkF m 255 #[.val (.ref ks), .val (.ref aa), .val (.ref bb), .val (.ref rr), .val (.int ta), .val (.int rs), .val (.int tb), .val (.int bs), .val (.int bq), .val (.int cnt), .val (.double al), .second, .val (.double be), .second, .val (.int v), .val (.int x), .val (.int y)] [(.int (y + ((6 : Int32) * bq))), (.ref bb), (.double be), (.double (FP.dmul al (ua ((x + ((6 : Int32) * rs))).toNatClampNeg))), (.int (x + ((6 : Int32) * rs))), (.ref rr)])) rfl rfl (hb hby d4_255) _ kq) ?_
  show own_Go p.tables e below _ (T6.setTop (mkF m 256 #[.val (.ref ks), .val (.ref aa), .val (.ref bb), .val (.ref rr), .val (.int ta), .val (.int rs), .val (.int tb), .val (.int bs), .val (.int bq), .val (.int cnt), .val (.double al), .second, .val (.double be), .second, .val (.int v), .val (.int x), .val (.int y)] [(.double (ub ((y + ((6 : Int32) * bq))).toNatClampNeg)), (.double be), (.double (FP.dmul al (ua ((x + ((6 : Int32) * rs))).toNatClampNeg))), (.int (x + ((6 : Int32) * rs))), (.ref rr)]))
  refine own_up (fun _ kq => XS.dmulS X6.here hx rfl (v := (FP.dmul be (ub ((y + ((6 : Int32) * bq))).toNatClampNeg))) (hb hby d4_256) rfl (hmb _).noNaN rfl kq) ?_
  show own_Go p.tables e below _ (T6.setTop (mkF m 257 #[.val (.ref ks), .val (.ref aa), .val (.ref bb), .val (.ref rr), .val (.int ta), .val (.int rs), .val (.int tb), .val (.int bs), .val (.int bq), .val (.int cnt), .val (.double al), .second, .val (.double be), .second, .val (.int v), .val (.int x), .val (.int y)] [(.double (FP.dmul be (ub ((y + ((6 : Int32) * bq))).toNatClampNeg))), (.double (FP.dmul al (ua ((x + ((6 : Int32) * rs))).toNatClampNeg))), (.int (x + ((6 : Int32) * rs))), (.ref rr)]))
  refine own_up (fun _ kq => XS.daddS X6.here hx rfl (v := (FP.dadd (FP.dmul al (ua ((x + ((6 : Int32) * rs))).toNatClampNeg)) (FP.dmul be (ub ((y + ((6 : Int32) * bq))).toNatClampNeg)))) (hb hby d4_257) rfl (dadd_out (dmul_out hal (hua _)) (hmb _)) rfl kq) ?_
  show own_Go p.tables e below _ (T6.setTop (mkF m 258 #[.val (.ref ks), .val (.ref aa), .val (.ref bb), .val (.ref rr), .val (.int ta), .val (.int rs), .val (.int tb), .val (.int bs), .val (.int bq), .val (.int cnt), .val (.double al), .second, .val (.double be), .second, .val (.int v), .val (.int x), .val (.int y)] [(.double (FP.dadd (FP.dmul al (ua ((x + ((6 : Int32) * rs))).toNatClampNeg)) (FP.dmul be (ub ((y + ((6 : Int32) * bq))).toNatClampNeg)))), (.int (x + ((6 : Int32) * rs))), (.ref rr)]))
  obtain ⟨cl7, Ar7, sz7, nz7, hc7⟩ := id G_rr
  obtain ⟨T7, h7, X7, e7, W7, st7⟩ := stD X6 hx hZ e6 Ar7 (j := (x + ((6 : Int32) * rs))) (inb_of sz7 ⟨i6.1, i6.2⟩) (g := (mkF m 258 #[.val (.ref ks), .val (.ref aa), .val (.ref bb), .val (.ref rr), .val (.int ta), .val (.int rs), .val (.int tb), .val (.int bs), .val (.int bq), .val (.int cnt), .val (.double al), .second, .val (.double be), .second, .val (.int v), .val (.int x), .val (.int y)] [(.double (FP.dadd (FP.dmul al (ua ((x + ((6 : Int32) * rs))).toNatClampNeg)) (FP.dmul be (ub ((y + ((6 : Int32) * bq))).toNatClampNeg)))), (.int (x + ((6 : Int32) * rs))), (.ref rr)])) rfl rfl (hb hby d4_258)
  have G_rr : own_Arf Z h7 rr .double (48 : Int32) (fun i => .double ((own_upd (own_upd (own_upd (own_upd (own_upd (own_upd (own_upd ur x (FP.dadd (FP.dmul al (ua (x).toNatClampNeg)) (FP.dmul be (ub (y).toNatClampNeg)))) (x + rs) (FP.dadd (FP.dmul al (ua ((x + rs)).toNatClampNeg)) (FP.dmul be (ub ((y + bq)).toNatClampNeg)))) (x + ((2 : Int32) * rs)) (FP.dadd (FP.dmul al (ua ((x + ((2 : Int32) * rs))).toNatClampNeg)) (FP.dmul be (ub ((y + ((2 : Int32) * bq))).toNatClampNeg)))) (x + ((3 : Int32) * rs)) (FP.dadd (FP.dmul al (ua ((x + ((3 : Int32) * rs))).toNatClampNeg)) (FP.dmul be (ub ((y + ((3 : Int32) * bq))).toNatClampNeg)))) (x + ((4 : Int32) * rs)) (FP.dadd (FP.dmul al (ua ((x + ((4 : Int32) * rs))).toNatClampNeg)) (FP.dmul be (ub ((y + ((4 : Int32) * bq))).toNatClampNeg)))) (x + ((5 : Int32) * rs)) (FP.dadd (FP.dmul al (ua ((x + ((5 : Int32) * rs))).toNatClampNeg)) (FP.dmul be (ub ((y + ((5 : Int32) * bq))).toNatClampNeg)))) (x + ((6 : Int32) * rs)) (FP.dadd (FP.dmul al (ua ((x + ((6 : Int32) * rs))).toNatClampNeg)) (FP.dmul be (ub ((y + ((6 : Int32) * bq))).toNatClampNeg)))) i)) := own_Arf.setD G_rr W7
  have N7 := Fr.snoc X7 N6 g_rr
  have G_aa := G_aa.other W7 ne_aa_rr
  have G_bb := G_bb.other W7 ne_bb_rr
  have ZH := Nat.le_trans ZH (Nat.le_of_eq W7.size.symm)
  have KK := KK.wr W7 (Or.inl (List.mem_of_getElem? (i := 0) rfl))
  refine own_up st7 ?_
  show own_Go p.tables e below _ (T7.setTop (mkF m 259 #[.val (.ref ks), .val (.ref aa), .val (.ref bb), .val (.ref rr), .val (.int ta), .val (.int rs), .val (.int tb), .val (.int bs), .val (.int bq), .val (.int cnt), .val (.double al), .second, .val (.double be), .second, .val (.int v), .val (.int x), .val (.int y)] []))
  refine own_up (fun _ kq => XS.aloadN X7.here hx rfl (hb hby d4_259) rfl rfl kq) ?_
  show own_Go p.tables e below _ (T7.setTop (mkF m 260 #[.val (.ref ks), .val (.ref aa), .val (.ref bb), .val (.ref rr), .val (.int ta), .val (.int rs), .val (.int tb), .val (.int bs), .val (.int bq), .val (.int cnt), .val (.double al), .second, .val (.double be), .second, .val (.int v), .val (.int x), .val (.int y)] [(.ref rr)]))
  refine own_up (fun _ kq => XS.iload X7.here hx rfl (hb hby d4_260) rfl kq) ?_
  show own_Go p.tables e below _ (T7.setTop (mkF m 262 #[.val (.ref ks), .val (.ref aa), .val (.ref bb), .val (.ref rr), .val (.int ta), .val (.int rs), .val (.int tb), .val (.int bs), .val (.int bq), .val (.int cnt), .val (.double al), .second, .val (.double be), .second, .val (.int v), .val (.int x), .val (.int y)] [(.int x), (.ref rr)]))
  refine own_up (fun _ kq => XS.bipush X7.here hx rfl (hb hby d4_262) kq) ?_
  show own_Go p.tables e below _ (T7.setTop (mkF m 264 #[.val (.ref ks), .val (.ref aa), .val (.ref bb), .val (.ref rr), .val (.int ta), .val (.int rs), .val (.int tb), .val (.int bs), .val (.int bq), .val (.int cnt), .val (.double al), .second, .val (.double be), .second, .val (.int v), .val (.int x), .val (.int y)] [(.int (7 : Int32)), (.int x), (.ref rr)]))
  refine own_up (fun _ kq => XS.iload X7.here hx rfl (hb hby d4_264) rfl kq) ?_
  show own_Go p.tables e below _ (T7.setTop (mkF m 266 #[.val (.ref ks), .val (.ref aa), .val (.ref bb), .val (.ref rr), .val (.int ta), .val (.int rs), .val (.int tb), .val (.int bs), .val (.int bq), .val (.int cnt), .val (.double al), .second, .val (.double be), .second, .val (.int v), .val (.int x), .val (.int y)] [(.int rs), (.int (7 : Int32)), (.int x), (.ref rr)]))
  refine own_up (fun _ kq => XS.imul X7.here hx rfl (hb hby d4_266) rfl kq) ?_
  show own_Go p.tables e below _ (T7.setTop (mkF m 267 #[.val (.ref ks), .val (.ref aa), .val (.ref bb), .val (.ref rr), .val (.int ta), .val (.int rs), .val (.int tb), .val (.int bs), .val (.int bq), .val (.int cnt), .val (.double al), .second, .val (.double be), .second, .val (.int v), .val (.int x), .val (.int y)] [(.int ((7 : Int32) * rs)), (.int x), (.ref rr)]))
  refine own_up (fun _ kq => XS.iadd X7.here hx rfl (hb hby d4_267) rfl kq) ?_
  show own_Go p.tables e below _ (T7.setTop (mkF m 268 #[.val (.ref ks), .val (.ref aa), .val (.ref bb), .val (.ref rr), .val (.int ta), .val (.int rs), .val (.int tb), .val (.int bs), .val (.int bq), .val (.int cnt), .val (.double al), .second, .val (.double be), .second, .val (.int v), .val (.int x), .val (.int y)] [(.int (x + ((7 : Int32) * rs))), (.ref rr)]))
  refine own_up (fun _ kq => XS.dload X7.here hx rfl (hb hby d4_268) rfl kq) ?_
  show own_Go p.tables e below _ (T7.setTop (mkF m 270 #[.val (.ref ks), .val (.ref aa), .val (.ref bb), .val (.ref rr), .val (.int ta), .val (.int rs), .val (.int tb), .val (.int bs), .val (.int bq), .val (.int cnt), .val (.double al), .second, .val (.double be), .second, .val (.int v), .val (.int x), .val (.int y)] [(.double al), (.int (x + ((7 : Int32) * rs))), (.ref rr)]))
  refine own_up (fun _ kq => XS.aloadN X7.here hx rfl (hb hby d4_270) rfl rfl kq) ?_
  show own_Go p.tables e below _ (T7.setTop (mkF m 271 #[.val (.ref ks), .val (.ref aa), .val (.ref bb), .val (.ref rr), .val (.int ta), .val (.int rs), .val (.int tb), .val (.int bs), .val (.int bq), .val (.int cnt), .val (.double al), .second, .val (.double be), .second, .val (.int v), .val (.int x), .val (.int y)] [(.ref aa), (.double al), (.int (x + ((7 : Int32) * rs))), (.ref rr)]))
  refine own_up (fun _ kq => XS.iload X7.here hx rfl (hb hby d4_271) rfl kq) ?_
  show own_Go p.tables e below _ (T7.setTop (mkF m 273 #[.val (.ref ks), .val (.ref aa), .val (.ref bb), .val (.ref rr), .val (.int ta), .val (.int rs), .val (.int tb), .val (.int bs), .val (.int bq), .val (.int cnt), .val (.double al), .second, .val (.double be), .second, .val (.int v), .val (.int x), .val (.int y)] [(.int x), (.ref aa), (.double al), (.int (x + ((7 : Int32) * rs))), (.ref rr)]))
  refine own_up (fun _ kq => XS.bipush X7.here hx rfl (hb hby d4_273) kq) ?_
  show own_Go p.tables e below _ (T7.setTop (mkF m 275 #[.val (.ref ks), .val (.ref aa), .val (.ref bb), .val (.ref rr), .val (.int ta), .val (.int rs), .val (.int tb), .val (.int bs), .val (.int bq), .val (.int cnt), .val (.double al), .second, .val (.double be), .second, .val (.int v), .val (.int x), .val (.int y)] [(.int (7 : Int32)), (.int x), (.ref aa), (.double al), (.int (x + ((7 : Int32) * rs))), (.ref rr)]))
  refine own_up (fun _ kq => XS.iload X7.here hx rfl (hb hby d4_275) rfl kq) ?_
  show own_Go p.tables e below _ (T7.setTop (mkF m 277 #[.val (.ref ks), .val (.ref aa), .val (.ref bb), .val (.ref rr), .val (.int ta), .val (.int rs), .val (.int tb), .val (.int bs), .val (.int bq), .val (.int cnt), .val (.double al), .second, .val (.double be), .second, .val (.int v), .val (.int x), .val (.int y)] [(.int rs), (.int (7 : Int32)), (.int x), (.ref aa), (.double al), (.int (x + ((7 : Int32) * rs))), (.ref rr)]))
  refine own_up (fun _ kq => XS.imul X7.here hx rfl (hb hby d4_277) rfl kq) ?_
  show own_Go p.tables e below _ (T7.setTop (mkF m 278 #[.val (.ref ks), .val (.ref aa), .val (.ref bb), .val (.ref rr), .val (.int ta), .val (.int rs), .val (.int tb), .val (.int bs), .val (.int bq), .val (.int cnt), .val (.double al), .second, .val (.double be), .second, .val (.int v), .val (.int x), .val (.int y)] [(.int ((7 : Int32) * rs)), (.int x), (.ref aa), (.double al), (.int (x + ((7 : Int32) * rs))), (.ref rr)]))
  refine own_up (fun _ kq => XS.iadd X7.here hx rfl (hb hby d4_278) rfl kq) ?_
  show own_Go p.tables e below _ (T7.setTop (mkF m 279 #[.val (.ref ks), .val (.ref aa), .val (.ref bb), .val (.ref rr), .val (.int ta), .val (.int rs), .val (.int tb), .val (.int bs), .val (.int bq), .val (.int cnt), .val (.double al), .second, .val (.double be), .second, .val (.int v), .val (.int x), .val (.int y)] [(.int (x + ((7 : Int32) * rs))), (.ref aa), (.double al), (.int (x + ((7 : Int32) * rs))), (.ref rr)]))
  refine own_up (fun _ kq => own_Arf.daload G_aa X7 hx hZ e7 i7.1 i7.2 (v := (.double (ua ((x + ((7 : Int32) * rs))).toNatClampNeg))) rfl (g := (mkF m 279 #[.val (.ref ks), .val (.ref aa), .val (.ref bb), .val (.ref rr), .val (.int ta), .val (.int rs), .val (.int tb), .val (.int bs), .val (.int bq), .val (.int cnt), .val (.double al), .second, .val (.double be), .second, .val (.int v), .val (.int x), .val (.int y)] [(.int (x + ((7 : Int32) * rs))), (.ref aa), (.double al), (.int (x + ((7 : Int32) * rs))), (.ref rr)])) rfl rfl (hb hby d4_279) _ kq) ?_
  show own_Go p.tables e below _ (T7.setTop (mkF m 280 #[.val (.ref ks), .val (.ref aa), .val (.ref bb), .val (.ref rr), .val (.int ta), .val (.int rs), .val (.int tb), .val (.int bs), .val (.int bq), .val (.int cnt), .val (.double al), .second, .val (.double be), .second, .val (.int v), .val (.int x), .val (.int y)] [(.double (ua ((x + ((7 : Int32) * rs))).toNatClampNeg)), (.double al), (.int (x + ((7 : Int32) * rs))), (.ref rr)]))
  refine own_up (fun _ kq => XS.dmulS X7.here hx rfl (v := (FP.dmul al (ua ((x + ((7 : Int32) * rs))).toNatClampNeg))) (hb hby d4_280) rfl (dmul_out hal (hua _)) rfl kq) ?_
  show own_Go p.tables e below _ (T7.setTop (mkF m 281 #[.val (.ref ks), .val (.ref aa), .val (.ref bb), .val (.ref rr), .val (.int ta), .val (.int rs), .val (.int tb), .val (.int bs), .val (.int bq), .val (.int cnt), .val (.double al), .second, .val (.double be), .second, .val (.int v), .val (.int x), .val (.int y)] [(.double (FP.dmul al (ua ((x + ((7 : Int32) * rs))).toNatClampNeg))), (.int (x + ((7 : Int32) * rs))), (.ref rr)]))
  refine own_up (fun _ kq => XS.dload X7.here hx rfl (hb hby d4_281) rfl kq) ?_
  show own_Go p.tables e below _ (T7.setTop (mkF m 283 #[.val (.ref ks), .val (.ref aa), .val (.ref bb), .val (.ref rr), .val (.int ta), .val (.int rs), .val (.int tb), .val (.int bs), .val (.int bq), .val (.int cnt), .val (.double al), .second, .val (.double be), .second, .val (.int v), .val (.int x), .val (.int y)] [(.double be), (.double (FP.dmul al (ua ((x + ((7 : Int32) * rs))).toNatClampNeg))), (.int (x + ((7 : Int32) * rs))), (.ref rr)]))
  refine own_up (fun _ kq => XS.aloadN X7.here hx rfl (hb hby d4_283) rfl rfl kq) ?_
  show own_Go p.tables e below _ (T7.setTop (mkF m 284 #[.val (.ref ks), .val (.ref aa), .val (.ref bb), .val (.ref rr), .val (.int ta), .val (.int rs), .val (.int tb), .val (.int bs), .val (.int bq), .val (.int cnt), .val (.double al), .second, .val (.double be), .second, .val (.int v), .val (.int x), .val (.int y)] [(.ref bb), (.double be), (.double (FP.dmul al (ua ((x + ((7 : Int32) * rs))).toNatClampNeg))), (.int (x + ((7 : Int32) * rs))), (.ref rr)]))
  refine own_up (fun _ kq => XS.iload X7.here hx rfl (hb hby d4_284) rfl kq) ?_
  show own_Go p.tables e below _ (T7.setTop (mkF m 286 #[.val (.ref ks), .val (.ref aa), .val (.ref bb), .val (.ref rr), .val (.int ta), .val (.int rs), .val (.int tb), .val (.int bs), .val (.int bq), .val (.int cnt), .val (.double al), .second, .val (.double be), .second, .val (.int v), .val (.int x), .val (.int y)] [(.int y), (.ref bb), (.double be), (.double (FP.dmul al (ua ((x + ((7 : Int32) * rs))).toNatClampNeg))), (.int (x + ((7 : Int32) * rs))), (.ref rr)]))
  refine own_up (fun _ kq => XS.bipush X7.here hx rfl (hb hby d4_286) kq) ?_
  show own_Go p.tables e below _ (T7.setTop (mkF m 288 #[.val (.ref ks), .val (.ref aa), .val (.ref bb), .val (.ref rr), .val (.int ta), .val (.int rs), .val (.int tb), .val (.int bs), .val (.int bq), .val (.int cnt), .val (.double al), .second, .val (.double be), .second, .val (.int v), .val (.int x), .val (.int y)] [(.int (7 : Int32)), (.int y), (.ref bb), (.double be), (.double (FP.dmul al (ua ((x + ((7 : Int32) * rs))).toNatClampNeg))), (.int (x + ((7 : Int32) * rs))), (.ref rr)]))
  refine own_up (fun _ kq => XS.iload X7.here hx rfl (hb hby d4_288) rfl kq) ?_
  show own_Go p.tables e below _ (T7.setTop (mkF m 290 #[.val (.ref ks), .val (.ref aa), .val (.ref bb), .val (.ref rr), .val (.int ta), .val (.int rs), .val (.int tb), .val (.int bs), .val (.int bq), .val (.int cnt), .val (.double al), .second, .val (.double be), .second, .val (.int v), .val (.int x), .val (.int y)] [(.int bq), (.int (7 : Int32)), (.int y), (.ref bb), (.double be), (.double (FP.dmul al (ua ((x + ((7 : Int32) * rs))).toNatClampNeg))), (.int (x + ((7 : Int32) * rs))), (.ref rr)]))
  refine own_up (fun _ kq => XS.imul X7.here hx rfl (hb hby d4_290) rfl kq) ?_
  show own_Go p.tables e below _ (T7.setTop (mkF m 291 #[.val (.ref ks), .val (.ref aa), .val (.ref bb), .val (.ref rr), .val (.int ta), .val (.int rs), .val (.int tb), .val (.int bs), .val (.int bq), .val (.int cnt), .val (.double al), .second, .val (.double be), .second, .val (.int v), .val (.int x), .val (.int y)] [(.int ((7 : Int32) * bq)), (.int y), (.ref bb), (.double be), (.double (FP.dmul al (ua ((x + ((7 : Int32) * rs))).toNatClampNeg))), (.int (x + ((7 : Int32) * rs))), (.ref rr)]))
  refine own_up (fun _ kq => XS.iadd X7.here hx rfl (hb hby d4_291) rfl kq) ?_
  show own_Go p.tables e below _ (T7.setTop (mkF m 292 #[.val (.ref ks), .val (.ref aa), .val (.ref bb), .val (.ref rr), .val (.int ta), .val (.int rs), .val (.int tb), .val (.int bs), .val (.int bq), .val (.int cnt), .val (.double al), .second, .val (.double be), .second, .val (.int v), .val (.int x), .val (.int y)] [(.int (y + ((7 : Int32) * bq))), (.ref bb), (.double be), (.double (FP.dmul al (ua ((x + ((7 : Int32) * rs))).toNatClampNeg))), (.int (x + ((7 : Int32) * rs))), (.ref rr)]))
  refine own_up (fun _ kq => own_Arf.daload G_bb X7 hx hZ e7 j7.1 j7.2 (v := (.double (ub ((y + ((7 : Int32) * bq))).toNatClampNeg))) rfl (g := (mkF m 292 #[.val (.ref ks), .val (.ref aa), .val (.ref bb), .val (.ref rr), .val (.int ta), .val (.int rs), .val (.int tb), .val (.int bs), .val (.int bq), .val (.int cnt), .val (.double al), .second, .val (.double be), .second, .val (.int v), .val (.int x), .val (.int y)] [(.int (y + ((7 : Int32) * bq))), (.ref bb), (.double be), (.double (FP.dmul al (ua ((x + ((7 : Int32) * rs))).toNatClampNeg))), (.int (x + ((7 : Int32) * rs))), (.ref rr)])) rfl rfl (hb hby d4_292) _ kq) ?_
  show own_Go p.tables e below _ (T7.setTop (mkF m 293 #[.val (.ref ks), .val (.ref aa), .val (.ref bb), .val (.ref rr), .val (.int ta), .val (.int rs), .val (.int tb), .val (.int bs), .val (.int bq), .val (.int cnt), .val (.double al), .second, .val (.double be), .second, .val (.int v), .val (.int x), .val (.int y)] [(.double (ub ((y + ((7 : Int32) * bq))).toNatClampNeg)), (.double be), (.double (FP.dmul al (ua ((x + ((7 : Int32) * rs))).toNatClampNeg))), (.int (x + ((7 : Int32) * rs))), (.ref rr)]))
  refine own_up (fun _ kq => XS.dmulS X7.here hx rfl (v := (FP.dmul be (ub ((y + ((7 : Int32) * bq))).toNatClampNeg))) (hb hby d4_293) rfl (hmb _).noNaN rfl kq) ?_
  show own_Go p.tables e below _ (T7.setTop (mkF m 294 #[.val (.ref ks), .val (.ref aa), .val (.ref bb), .val (.ref rr), .val (.int ta), .val (.int rs), .val (.int tb), .val (.int bs), .val (.int bq), .val (.int cnt), .val (.double al), .second, .val (.double be), .second, .val (.int v), .val (.int x), .val (.int y)] [(.double (FP.dmul be (ub ((y + ((7 : Int32) * bq))).toNatClampNeg))), (.double (FP.dmul al (ua ((x + ((7 : Int32) * rs))).toNatClampNeg))), (.int (x + ((7 : Int32) * rs))), (.ref rr)]))
  refine own_up (fun _ kq => XS.daddS X7.here hx rfl (v := (FP.dadd (FP.dmul al (ua ((x + ((7 : Int32) * rs))).toNatClampNeg)) (FP.dmul be (ub ((y + ((7 : Int32) * bq))).toNatClampNeg)))) (hb hby d4_294) rfl (dadd_out (dmul_out hal (hua _)) (hmb _)) rfl kq) ?_
  show own_Go p.tables e below _ (T7.setTop (mkF m 295 #[.val (.ref ks), .val (.ref aa), .val (.ref bb), .val (.ref rr), .val (.int ta), .val (.int rs), .val (.int tb), .val (.int bs), .val (.int bq), .val (.int cnt), .val (.double al), .second, .val (.double be), .second, .val (.int v), .val (.int x), .val (.int y)] [(.double (FP.dadd (FP.dmul al (ua ((x + ((7 : Int32) * rs))).toNatClampNeg)) (FP.dmul be (ub ((y + ((7 : Int32) * bq))).toNatClampNeg)))), (.int (x + ((7 : Int32) * rs))), (.ref rr)]))
  obtain ⟨cl8, Ar8, sz8, nz8, hc8⟩ := id G_rr
  obtain ⟨T8, h8, X8, e8, W8, st8⟩ := stD X7 hx hZ e7 Ar8 (j := (x + ((7 : Int32) * rs))) (inb_of sz8 ⟨i7.1, i7.2⟩) (g := (mkF m 295 #[.val (.ref ks), .val (.ref aa), .val (.ref bb), .val (.ref rr), .val (.int ta), .val (.int rs), .val (.int tb), .val (.int bs), .val (.int bq), .val (.int cnt), .val (.double al), .second, .val (.double be), .second, .val (.int v), .val (.int x), .val (.int y)] [(.double (FP.dadd (FP.dmul al (ua ((x + ((7 : Int32) * rs))).toNatClampNeg)) (FP.dmul be (ub ((y + ((7 : Int32) * bq))).toNatClampNeg)))), (.int (x + ((7 : Int32) * rs))), (.ref rr)])) rfl rfl (hb hby d4_295)
  have G_rr : own_Arf Z h8 rr .double (48 : Int32) (fun i => .double ((own_upd (own_upd (own_upd (own_upd (own_upd (own_upd (own_upd (own_upd ur x (FP.dadd (FP.dmul al (ua (x).toNatClampNeg)) (FP.dmul be (ub (y).toNatClampNeg)))) (x + rs) (FP.dadd (FP.dmul al (ua ((x + rs)).toNatClampNeg)) (FP.dmul be (ub ((y + bq)).toNatClampNeg)))) (x + ((2 : Int32) * rs)) (FP.dadd (FP.dmul al (ua ((x + ((2 : Int32) * rs))).toNatClampNeg)) (FP.dmul be (ub ((y + ((2 : Int32) * bq))).toNatClampNeg)))) (x + ((3 : Int32) * rs)) (FP.dadd (FP.dmul al (ua ((x + ((3 : Int32) * rs))).toNatClampNeg)) (FP.dmul be (ub ((y + ((3 : Int32) * bq))).toNatClampNeg)))) (x + ((4 : Int32) * rs)) (FP.dadd (FP.dmul al (ua ((x + ((4 : Int32) * rs))).toNatClampNeg)) (FP.dmul be (ub ((y + ((4 : Int32) * bq))).toNatClampNeg)))) (x + ((5 : Int32) * rs)) (FP.dadd (FP.dmul al (ua ((x + ((5 : Int32) * rs))).toNatClampNeg)) (FP.dmul be (ub ((y + ((5 : Int32) * bq))).toNatClampNeg)))) (x + ((6 : Int32) * rs)) (FP.dadd (FP.dmul al (ua ((x + ((6 : Int32) * rs))).toNatClampNeg)) (FP.dmul be (ub ((y + ((6 : Int32) * bq))).toNatClampNeg)))) (x + ((7 : Int32) * rs)) (FP.dadd (FP.dmul al (ua ((x + ((7 : Int32) * rs))).toNatClampNeg)) (FP.dmul be (ub ((y + ((7 : Int32) * bq))).toNatClampNeg)))) i)) := own_Arf.setD G_rr W8
  have N8 := Fr.snoc X8 N7 g_rr
  have G_aa := G_aa.other W8 ne_aa_rr
  have G_bb := G_bb.other W8 ne_bb_rr
  have ZH := Nat.le_trans ZH (Nat.le_of_eq W8.size.symm)
  have KK := KK.wr W8 (Or.inl (List.mem_of_getElem? (i := 0) rfl))
  refine own_up st8 ?_
  show own_Go p.tables e below _ (T8.setTop (mkF m 296 #[.val (.ref ks), .val (.ref aa), .val (.ref bb), .val (.ref rr), .val (.int ta), .val (.int rs), .val (.int tb), .val (.int bs), .val (.int bq), .val (.int cnt), .val (.double al), .second, .val (.double be), .second, .val (.int v), .val (.int x), .val (.int y)] []))
  refine own_up (fun _ kq => XS.iinc X8.here hx rfl (hb hby d4_296) rfl (l' := #[.val (.ref ks), .val (.ref aa), .val (.ref bb), .val (.ref rr), .val (.int ta), .val (.int rs), .val (.int tb), .val (.int bs), .val (.int bq), .val (.int cnt), .val (.double al), .second, .val (.double be), .second, .val (.int (v + (1 : Int32))), .val (.int x), .val (.int y)]) rfl kq) ?_
  show own_Go p.tables e below _ (T8.setTop (mkF m 299 #[.val (.ref ks), .val (.ref aa), .val (.ref bb), .val (.ref rr), .val (.int ta), .val (.int rs), .val (.int tb), .val (.int bs), .val (.int bq), .val (.int cnt), .val (.double al), .second, .val (.double be), .second, .val (.int (v + (1 : Int32))), .val (.int x), .val (.int y)] []))
  refine own_up (fun _ kq => XS.goto X8.here hx rfl (pc0 := 299) (pc' := 15) rfl (hb hby d4_299) (by decide) (by decide) kq) ?_
  show own_Go p.tables e below _ (T8.setTop (mkF m 15 #[.val (.ref ks), .val (.ref aa), .val (.ref bb), .val (.ref rr), .val (.int ta), .val (.int rs), .val (.int tb), .val (.int bs), .val (.int bq), .val (.int cnt), .val (.double al), .second, .val (.double be), .second, .val (.int (v + (1 : Int32))), .val (.int x), .val (.int y)] []))
  exact K _ _ _ X8 e8 N8 KK G_aa G_bb G_rr
theorem d4_0 : decode prog_85_method_3_code 0 = .ok (.aload_n 0, 1) := by decide +kernel
theorem d4_1 : decode prog_85_method_3_code 1 = .ok (.getfield 7, 3) := by decide +kernel
theorem d4_4 : decode prog_85_method_3_code 4 = .ok (.dstore 10, 2) := by decide +kernel
theorem d4_6 : decode prog_85_method_3_code 6 = .ok (.aload_n 0, 1) := by decide +kernel
theorem d4_7 : decode prog_85_method_3_code 7 = .ok (.getfield 13, 3) := by decide +kernel
theorem d4_10 : decode prog_85_method_3_code 10 = .ok (.dstore 12, 2) := by decide +kernel
theorem d4_12 : decode prog_85_method_3_code 12 = .ok (.iconst 0, 1) := by decide +kernel
theorem d4_13 : decode prog_85_method_3_code 13 = .ok (.istore 14, 2) := by decide +kernel
theorem d4_302 : decode prog_85_method_3_code 302 = .ok (.return_, 1) := by decide +kernel
theorem ef_rmE0 (m : MethodId) (x0 : Addr) (x1 : Addr) (x2 : Addr) (x3 : Addr) (x4 : Int32) (x5 : Int32) (x6 : Int32) (x7 : Int32) (x8 : Int32) (x9 : Int32) : entryFrame m #[(.ref x0), (.ref x1), (.ref x2), (.ref x3), (.int x4), (.int x5), (.int x6), (.int x7), (.int x8), (.int x9)] 17 = mkF m 0 #[.val (.ref x0), .val (.ref x1), .val (.ref x2), .val (.ref x3), .val (.int x4), .val (.int x5), .val (.int x6), .val (.int x7), .val (.int x8), .val (.int x9), .unset, .unset, .unset, .unset, .unset, .unset, .unset] [] := by first | (simp [entryFrame, mkF, argsToLocals, Value.category]; done) | rfl
def QrmE0 (Z : State) (ks : Addr) (aa : Addr) (bb : Addr) (rr : Addr) (ta : Int32) (rs : Int32) (tb : Int32) (bs : Int32) (bq : Int32) (al : UInt64) (be : UInt64) (ua : Nat → UInt64) (ub : Nat → UInt64) (ur : Nat → UInt64) (h0 : Heap) (n0 : Nat) (v : Option Value) (h : Heap) (L : List Loc) : Prop := v = none ∧ Fr n0 L ∧ Keep h0 h [rr] ∧ own_Arf Z h rr .double (48 : Int32) (fun i => .double (ur i))
set_option maxRecDepth 65536 in
set_option maxHeartbeats 40000000 in
theorem rmE0 (l : Launch) (Z : State) (a0 : Array Value) (hw : ∀ d ∈ tables_1, d.before a0 Z = true) (ws : List Jvm.Cond) (ks : Addr) (aa : Addr) (bb : Addr) (rr : Addr) (ta : Int32) (rs : Int32) (tb : Int32) (bs : Int32) (bq : Int32) (al : UInt64) (be : UInt64) (ua : Nat → UInt64) (ub : Nat → UInt64) (ur : Nat → UInt64) (h0 : Heap) (n0 : Nat) (Z0 : n0 ≤ h0.size) (Fal : Fld Z h0 ks "com/example/indexica/indexica/ScaledSum" "alpha" "D" (.double al)) (Fbe : Fld Z h0 ks "com/example/indexica/indexica/ScaledSum" "beta" "D" (.double be)) (G_aa : own_Arf Z h0 aa .double (48 : Int32) (fun i => .double (ua i))) (G_bb : own_Arf Z h0 bb .double (60 : Int32) (fun i => .double (ub i))) (G_rr : own_Arf Z h0 rr .double (48 : Int32) (fun i => .double (ur i))) (g_rr : n0 ≤ rr) (ne_aa_rr : aa ≠ rr) (ne_bb_rr : bb ≠ rr) (hal : Fin64 al) (hua : ∀ i, Fin64 (ua i)) (hmb : ∀ i, Fin64 (FP.dmul be (ub i))) :
    MetFree l (⟨"com/example/indexica/indexica/ScaledSum", "eightRows", "([D[D[DIIIIII)V"⟩ : MethodName) (head1 (Jvm.Cond.code (⟨"com/example/indexica/indexica/ScaledSum", "eightRows", "([D[D[DIIIIII)V"⟩ : MethodName) prog_85_method_3_code 17 none :: ws) ({ frames := 0, cells := 0, slots := 0, locals := 0 } : Room)) (fun aq Uq => aq = #[(.ref ks), (.ref aa), (.ref bb), (.ref rr), (.int ta), (.int rs), (.int tb), (.int bs), (.int bq), (.int (0 : Int32))] ∧ Z.Warmed39 Uq.vm ∧ Uq.heap = h0) (fun _ _ _ _ _ => True) (fun _ Uq oq Uq' => ∃ vq Lq, oq = .returned vq ∧ QrmE0 Z ks aa bb rr ta rs tb bs bq al be ua ub ur h0 n0 vq Uq'.heap Lq ∧ FrameEnd Uq oq Uq' Lq ({ frames := 0, cells := 0, slots := 0, locals := 0 } : Room).cells ({ frames := 0, cells := 0, slots := 0, locals := 0 } : Room).slots) := by
  refine MetFree.of_bodySF (plainFor_of_name pn_1) hisR ?_
  intro p e s m args below meth c s₁ Bd hml0 hP hK
  obtain ⟨rfl, hZ, hh⟩ := hP
  have hx := Bd.exec
  have hby := Bd.bytes
  have hml : c.maxLocals = 17 := hml0
  have hown : s.vm.findClass "com/example/indexica/indexica/ScaledSum" = some m.cls := findClass_of_methodNamed Bd.named
  have hnm := (name_of_methodNamed Bd.named Bd.method).1
  have X0 : Stand p l e ({ frames := 0, cells := 0, slots := 0, locals := 0 } : Room) s m #[(.ref ks), (.ref aa), (.ref bb), (.ref rr), (.int ta), (.int rs), (.int tb), (.int bs), (.int bq), (.int (0 : Int32))] below meth c s₁ [] 0 0 := Stand.of_body Bd
  have e0 : s₁.heap = h0 := by rw [← hh, Bd.state]; rfl
  have N0 := Fr.nil n0
  have ZH := Z0
  have KK := Keep.refl h0 [rr]
  refine own_start (fun t kq => castTop (ef_rmE0 m ks aa bb rr ta rs tb bs bq (0 : Int32)) kq) ?_
  show own_Go p.tables e below _ (s₁.setTop (mkF m 0 #[.val (.ref ks), .val (.ref aa), .val (.ref bb), .val (.ref rr), .val (.int ta), .val (.int rs), .val (.int tb), .val (.int bs), .val (.int bq), .val (.int (0 : Int32)), .unset, .unset, .unset, .unset, .unset, .unset, .unset] []))
  refine own_up (fun _ kq => XS.aloadN X0.here hx rfl (hb hby d4_0) rfl rfl kq) ?_
  show own_Go p.tables e below _ (s₁.setTop (mkF m 1 #[.val (.ref ks), .val (.ref aa), .val (.ref bb), .val (.ref rr), .val (.int ta), .val (.int rs), .val (.int tb), .val (.int bs), .val (.int bq), .val (.int (0 : Int32)), .unset, .unset, .unset, .unset, .unset, .unset, .unset] [(.ref ks)]))
  obtain ⟨T1, X1, e1, st1⟩ := getF X0 hx hZ hown (host := "") (Or.inl (hw _ (List.mem_of_getElem? (i := 122) rfl))) Via.refl e0 Fal (g := (mkF m 1 #[.val (.ref ks), .val (.ref aa), .val (.ref bb), .val (.ref rr), .val (.int ta), .val (.int rs), .val (.int tb), .val (.int bs), .val (.int bq), .val (.int (0 : Int32)), .unset, .unset, .unset, .unset, .unset, .unset, .unset] [(.ref ks)])) rfl rfl (hb hby d4_1)
  refine own_up st1 ?_
  show own_Go p.tables e below _ (T1.setTop (mkF m 4 #[.val (.ref ks), .val (.ref aa), .val (.ref bb), .val (.ref rr), .val (.int ta), .val (.int rs), .val (.int tb), .val (.int bs), .val (.int bq), .val (.int (0 : Int32)), .unset, .unset, .unset, .unset, .unset, .unset, .unset] [(.double al)]))
  refine own_up (fun _ kq => XS.dstore X1.here hx rfl (hb hby d4_4) rfl (l' := #[.val (.ref ks), .val (.ref aa), .val (.ref bb), .val (.ref rr), .val (.int ta), .val (.int rs), .val (.int tb), .val (.int bs), .val (.int bq), .val (.int (0 : Int32)), .val (.double al), .second, .unset, .unset, .unset, .unset, .unset]) rfl kq) ?_
  show own_Go p.tables e below _ (T1.setTop (mkF m 6 #[.val (.ref ks), .val (.ref aa), .val (.ref bb), .val (.ref rr), .val (.int ta), .val (.int rs), .val (.int tb), .val (.int bs), .val (.int bq), .val (.int (0 : Int32)), .val (.double al), .second, .unset, .unset, .unset, .unset, .unset] []))
  refine own_up (fun _ kq => XS.aloadN X1.here hx rfl (hb hby d4_6) rfl rfl kq) ?_
  show own_Go p.tables e below _ (T1.setTop (mkF m 7 #[.val (.ref ks), .val (.ref aa), .val (.ref bb), .val (.ref rr), .val (.int ta), .val (.int rs), .val (.int tb), .val (.int bs), .val (.int bq), .val (.int (0 : Int32)), .val (.double al), .second, .unset, .unset, .unset, .unset, .unset] [(.ref ks)]))
  obtain ⟨T2, X2, e2, st2⟩ := getF X1 hx hZ hown (host := "") (Or.inl (hw _ (List.mem_of_getElem? (i := 124) rfl))) Via.refl e1 Fbe (g := (mkF m 7 #[.val (.ref ks), .val (.ref aa), .val (.ref bb), .val (.ref rr), .val (.int ta), .val (.int rs), .val (.int tb), .val (.int bs), .val (.int bq), .val (.int (0 : Int32)), .val (.double al), .second, .unset, .unset, .unset, .unset, .unset] [(.ref ks)])) rfl rfl (hb hby d4_7)
  refine own_up st2 ?_
  show own_Go p.tables e below _ (T2.setTop (mkF m 10 #[.val (.ref ks), .val (.ref aa), .val (.ref bb), .val (.ref rr), .val (.int ta), .val (.int rs), .val (.int tb), .val (.int bs), .val (.int bq), .val (.int (0 : Int32)), .val (.double al), .second, .unset, .unset, .unset, .unset, .unset] [(.double be)]))
  refine own_up (fun _ kq => XS.dstore X2.here hx rfl (hb hby d4_10) rfl (l' := #[.val (.ref ks), .val (.ref aa), .val (.ref bb), .val (.ref rr), .val (.int ta), .val (.int rs), .val (.int tb), .val (.int bs), .val (.int bq), .val (.int (0 : Int32)), .val (.double al), .second, .val (.double be), .second, .unset, .unset, .unset]) rfl kq) ?_
  show own_Go p.tables e below _ (T2.setTop (mkF m 12 #[.val (.ref ks), .val (.ref aa), .val (.ref bb), .val (.ref rr), .val (.int ta), .val (.int rs), .val (.int tb), .val (.int bs), .val (.int bq), .val (.int (0 : Int32)), .val (.double al), .second, .val (.double be), .second, .unset, .unset, .unset] []))
  refine own_up (fun _ kq => XS.iconst X2.here hx rfl (hb hby d4_12) kq) ?_
  show own_Go p.tables e below _ (T2.setTop (mkF m 13 #[.val (.ref ks), .val (.ref aa), .val (.ref bb), .val (.ref rr), .val (.int ta), .val (.int rs), .val (.int tb), .val (.int bs), .val (.int bq), .val (.int (0 : Int32)), .val (.double al), .second, .val (.double be), .second, .unset, .unset, .unset] [(.int (0 : Int32))]))
  refine own_up (fun _ kq => XS.istore X2.here hx rfl (hb hby d4_13) rfl (l' := #[.val (.ref ks), .val (.ref aa), .val (.ref bb), .val (.ref rr), .val (.int ta), .val (.int rs), .val (.int tb), .val (.int bs), .val (.int bq), .val (.int (0 : Int32)), .val (.double al), .second, .val (.double be), .second, .val (.int (0 : Int32)), .unset, .unset]) rfl kq) ?_
  show own_Go p.tables e below _ (T2.setTop (mkF m 15 #[.val (.ref ks), .val (.ref aa), .val (.ref bb), .val (.ref rr), .val (.int ta), .val (.int rs), .val (.int tb), .val (.int bs), .val (.int bq), .val (.int (0 : Int32)), .val (.double al), .second, .val (.double be), .second, .val (.int (0 : Int32)), .unset, .unset] []))
  refine own_up (fun _ kq => XS.iload X2.here hx rfl (hb hby d4_15) rfl kq) ?_
  show own_Go p.tables e below _ (T2.setTop (mkF m 17 #[.val (.ref ks), .val (.ref aa), .val (.ref bb), .val (.ref rr), .val (.int ta), .val (.int rs), .val (.int tb), .val (.int bs), .val (.int bq), .val (.int (0 : Int32)), .val (.double al), .second, .val (.double be), .second, .val (.int (0 : Int32)), .unset, .unset] [(.int (0 : Int32))]))
  refine own_up (fun _ kq => XS.iload X2.here hx rfl (hb hby d4_17) rfl kq) ?_
  show own_Go p.tables e below _ (T2.setTop (mkF m 19 #[.val (.ref ks), .val (.ref aa), .val (.ref bb), .val (.ref rr), .val (.int ta), .val (.int rs), .val (.int tb), .val (.int bs), .val (.int bq), .val (.int (0 : Int32)), .val (.double al), .second, .val (.double be), .second, .val (.int (0 : Int32)), .unset, .unset] [(.int (0 : Int32)), (.int (0 : Int32))]))
  refine own_up (fun _ kq => XS.icmpYes X2.here hx rfl (pc0 := 19) (pc' := 302) rfl (hb hby d4_19) rfl (flt (by decide : ¬ ((0 : Int32) < (0 : Int32)))).2.1 (by decide) (by decide) kq) ?_
  show own_Go p.tables e below _ (T2.setTop (mkF m 302 #[.val (.ref ks), .val (.ref aa), .val (.ref bb), .val (.ref rr), .val (.int ta), .val (.int rs), .val (.int tb), .val (.int bs), .val (.int bq), .val (.int (0 : Int32)), .val (.double al), .second, .val (.double be), .second, .val (.int (0 : Int32)), .unset, .unset] []))
  obtain ⟨fs3, hr3, hrun3, hended3, hW3, hsame3⟩ := X2.leave (v := none) (fun _ => rfl)
  refine own_end ⟨_, _, ?_, hrun3, hended3, _, _, rfl, ?_, ⟨_, rfl⟩, hW3, hsame3.mono (by decide) (by decide)⟩
  · exact X2.returnOut hx Bd.returns (hb hby d4_302) hr3
  · show QrmE0 Z ks aa bb rr ta rs tb bs bq al be ua ub ur h0 n0 _ T2.heap _
    rw [e2]
    exact ⟨rfl, N0, KK, G_rr⟩
theorem ef_rmE1 (m : MethodId) (x0 : Addr) (x1 : Addr) (x2 : Addr) (x3 : Addr) (x4 : Int32) (x5 : Int32) (x6 : Int32) (x7 : Int32) (x8 : Int32) (x9 : Int32) : entryFrame m #[(.ref x0), (.ref x1), (.ref x2), (.ref x3), (.int x4), (.int x5), (.int x6), (.int x7), (.int x8), (.int x9)] 17 = mkF m 0 #[.val (.ref x0), .val (.ref x1), .val (.ref x2), .val (.ref x3), .val (.int x4), .val (.int x5), .val (.int x6), .val (.int x7), .val (.int x8), .val (.int x9), .unset, .unset, .unset, .unset, .unset, .unset, .unset] [] := by first | (simp [entryFrame, mkF, argsToLocals, Value.category]; done) | rfl
def QrmE1 (Z : State) (ks : Addr) (aa : Addr) (bb : Addr) (rr : Addr) (ta : Int32) (rs : Int32) (tb : Int32) (bs : Int32) (bq : Int32) (al : UInt64) (be : UInt64) (ua : Nat → UInt64) (ub : Nat → UInt64) (ur : Nat → UInt64) (h0 : Heap) (n0 : Nat) (v : Option Value) (h : Heap) (L : List Loc) : Prop := v = none ∧ Fr n0 L ∧ Keep h0 h [rr] ∧ own_Arf Z h rr .double (48 : Int32) (fun i => .double ((own_T ur al be ua ub (ta + (0 : Int32)) (tb + ((0 : Int32) * bs)) rs bq) i))
set_option maxRecDepth 65536 in
set_option maxHeartbeats 40000000 in
theorem rmE1 (l : Launch) (Z : State) (a0 : Array Value) (hw : ∀ d ∈ tables_1, d.before a0 Z = true) (ws : List Jvm.Cond) (ks : Addr) (aa : Addr) (bb : Addr) (rr : Addr) (ta : Int32) (rs : Int32) (tb : Int32) (bs : Int32) (bq : Int32) (al : UInt64) (be : UInt64) (ua : Nat → UInt64) (ub : Nat → UInt64) (ur : Nat → UInt64) (h0 : Heap) (n0 : Nat) (Z0 : n0 ≤ h0.size) (Fal : Fld Z h0 ks "com/example/indexica/indexica/ScaledSum" "alpha" "D" (.double al)) (Fbe : Fld Z h0 ks "com/example/indexica/indexica/ScaledSum" "beta" "D" (.double be)) (G_aa : own_Arf Z h0 aa .double (48 : Int32) (fun i => .double (ua i))) (G_bb : own_Arf Z h0 bb .double (60 : Int32) (fun i => .double (ub i))) (G_rr : own_Arf Z h0 rr .double (48 : Int32) (fun i => .double (ur i))) (g_rr : n0 ≤ rr) (ne_aa_rr : aa ≠ rr) (ne_bb_rr : bb ≠ rr) (hal : Fin64 al) (hua : ∀ i, Fin64 (ua i)) (hmb : ∀ i, Fin64 (FP.dmul be (ub i))) (i0_0 : ¬ (ta + (0 : Int32)) < 0 ∧ (ta + (0 : Int32)) < (48 : Int32)) (i0_1 : ¬ ((ta + (0 : Int32)) + rs) < 0 ∧ ((ta + (0 : Int32)) + rs) < (48 : Int32)) (i0_2 : ¬ ((ta + (0 : Int32)) + ((2 : Int32) * rs)) < 0 ∧ ((ta + (0 : Int32)) + ((2 : Int32) * rs)) < (48 : Int32)) (i0_3 : ¬ ((ta + (0 : Int32)) + ((3 : Int32) * rs)) < 0 ∧ ((ta + (0 : Int32)) + ((3 : Int32) * rs)) < (48 : Int32)) (i0_4 : ¬ ((ta + (0 : Int32)) + ((4 : Int32) * rs)) < 0 ∧ ((ta + (0 : Int32)) + ((4 : Int32) * rs)) < (48 : Int32)) (i0_5 : ¬ ((ta + (0 : Int32)) + ((5 : Int32) * rs)) < 0 ∧ ((ta + (0 : Int32)) + ((5 : Int32) * rs)) < (48 : Int32)) (i0_6 : ¬ ((ta + (0 : Int32)) + ((6 : Int32) * rs)) < 0 ∧ ((ta + (0 : Int32)) + ((6 : Int32) * rs)) < (48 : Int32)) (i0_7 : ¬ ((ta + (0 : Int32)) + ((7 : Int32) * rs)) < 0 ∧ ((ta + (0 : Int32)) + ((7 : Int32) * rs)) < (48 : Int32)) (j0_0 : ¬ (tb + ((0 : Int32) * bs)) < 0 ∧ (tb + ((0 : Int32) * bs)) < (60 : Int32)) (j0_1 : ¬ ((tb + ((0 : Int32) * bs)) + bq) < 0 ∧ ((tb + ((0 : Int32) * bs)) + bq) < (60 : Int32)) (j0_2 : ¬ ((tb + ((0 : Int32) * bs)) + ((2 : Int32) * bq)) < 0 ∧ ((tb + ((0 : Int32) * bs)) + ((2 : Int32) * bq)) < (60 : Int32)) (j0_3 : ¬ ((tb + ((0 : Int32) * bs)) + ((3 : Int32) * bq)) < 0 ∧ ((tb + ((0 : Int32) * bs)) + ((3 : Int32) * bq)) < (60 : Int32)) (j0_4 : ¬ ((tb + ((0 : Int32) * bs)) + ((4 : Int32) * bq)) < 0 ∧ ((tb + ((0 : Int32) * bs)) + ((4 : Int32) * bq)) < (60 : Int32)) (j0_5 : ¬ ((tb + ((0 : Int32) * bs)) + ((5 : Int32) * bq)) < 0 ∧ ((tb + ((0 : Int32) * bs)) + ((5 : Int32) * bq)) < (60 : Int32)) (j0_6 : ¬ ((tb + ((0 : Int32) * bs)) + ((6 : Int32) * bq)) < 0 ∧ ((tb + ((0 : Int32) * bs)) + ((6 : Int32) * bq)) < (60 : Int32)) (j0_7 : ¬ ((tb + ((0 : Int32) * bs)) + ((7 : Int32) * bq)) < 0 ∧ ((tb + ((0 : Int32) * bs)) + ((7 : Int32) * bq)) < (60 : Int32)) :
    MetFree l (⟨"com/example/indexica/indexica/ScaledSum", "eightRows", "([D[D[DIIIIII)V"⟩ : MethodName) (head1 (Jvm.Cond.code (⟨"com/example/indexica/indexica/ScaledSum", "eightRows", "([D[D[DIIIIII)V"⟩ : MethodName) prog_85_method_3_code 17 none :: ws) ({ frames := 0, cells := 0, slots := 0, locals := 0 } : Room)) (fun aq Uq => aq = #[(.ref ks), (.ref aa), (.ref bb), (.ref rr), (.int ta), (.int rs), (.int tb), (.int bs), (.int bq), (.int (1 : Int32))] ∧ Z.Warmed39 Uq.vm ∧ Uq.heap = h0) (fun _ _ _ _ _ => True) (fun _ Uq oq Uq' => ∃ vq Lq, oq = .returned vq ∧ QrmE1 Z ks aa bb rr ta rs tb bs bq al be ua ub ur h0 n0 vq Uq'.heap Lq ∧ FrameEnd Uq oq Uq' Lq ({ frames := 0, cells := 0, slots := 0, locals := 0 } : Room).cells ({ frames := 0, cells := 0, slots := 0, locals := 0 } : Room).slots) := by
  refine MetFree.of_bodySF (plainFor_of_name pn_1) hisR ?_
  intro p e s m args below meth c s₁ Bd hml0 hP hK
  obtain ⟨rfl, hZ, hh⟩ := hP
  have hx := Bd.exec
  have hby := Bd.bytes
  have hml : c.maxLocals = 17 := hml0
  have hown : s.vm.findClass "com/example/indexica/indexica/ScaledSum" = some m.cls := findClass_of_methodNamed Bd.named
  have hnm := (name_of_methodNamed Bd.named Bd.method).1
  have X0 : Stand p l e ({ frames := 0, cells := 0, slots := 0, locals := 0 } : Room) s m #[(.ref ks), (.ref aa), (.ref bb), (.ref rr), (.int ta), (.int rs), (.int tb), (.int bs), (.int bq), (.int (1 : Int32))] below meth c s₁ [] 0 0 := Stand.of_body Bd
  have e0 : s₁.heap = h0 := by rw [← hh, Bd.state]; rfl
  have N0 := Fr.nil n0
  have ZH := Z0
  have KK := Keep.refl h0 [rr]
  refine own_start (fun t kq => castTop (ef_rmE1 m ks aa bb rr ta rs tb bs bq (1 : Int32)) kq) ?_
  show own_Go p.tables e below _ (s₁.setTop (mkF m 0 #[.val (.ref ks), .val (.ref aa), .val (.ref bb), .val (.ref rr), .val (.int ta), .val (.int rs), .val (.int tb), .val (.int bs), .val (.int bq), .val (.int (1 : Int32)), .unset, .unset, .unset, .unset, .unset, .unset, .unset] []))
  refine own_up (fun _ kq => XS.aloadN X0.here hx rfl (hb hby d4_0) rfl rfl kq) ?_
  show own_Go p.tables e below _ (s₁.setTop (mkF m 1 #[.val (.ref ks), .val (.ref aa), .val (.ref bb), .val (.ref rr), .val (.int ta), .val (.int rs), .val (.int tb), .val (.int bs), .val (.int bq), .val (.int (1 : Int32)), .unset, .unset, .unset, .unset, .unset, .unset, .unset] [(.ref ks)]))
  obtain ⟨T1, X1, e1, st1⟩ := getF X0 hx hZ hown (host := "") (Or.inl (hw _ (List.mem_of_getElem? (i := 122) rfl))) Via.refl e0 Fal (g := (mkF m 1 #[.val (.ref ks), .val (.ref aa), .val (.ref bb), .val (.ref rr), .val (.int ta), .val (.int rs), .val (.int tb), .val (.int bs), .val (.int bq), .val (.int (1 : Int32)), .unset, .unset, .unset, .unset, .unset, .unset, .unset] [(.ref ks)])) rfl rfl (hb hby d4_1)
  refine own_up st1 ?_
  show own_Go p.tables e below _ (T1.setTop (mkF m 4 #[.val (.ref ks), .val (.ref aa), .val (.ref bb), .val (.ref rr), .val (.int ta), .val (.int rs), .val (.int tb), .val (.int bs), .val (.int bq), .val (.int (1 : Int32)), .unset, .unset, .unset, .unset, .unset, .unset, .unset] [(.double al)]))
  refine own_up (fun _ kq => XS.dstore X1.here hx rfl (hb hby d4_4) rfl (l' := #[.val (.ref ks), .val (.ref aa), .val (.ref bb), .val (.ref rr), .val (.int ta), .val (.int rs), .val (.int tb), .val (.int bs), .val (.int bq), .val (.int (1 : Int32)), .val (.double al), .second, .unset, .unset, .unset, .unset, .unset]) rfl kq) ?_
  show own_Go p.tables e below _ (T1.setTop (mkF m 6 #[.val (.ref ks), .val (.ref aa), .val (.ref bb), .val (.ref rr), .val (.int ta), .val (.int rs), .val (.int tb), .val (.int bs), .val (.int bq), .val (.int (1 : Int32)), .val (.double al), .second, .unset, .unset, .unset, .unset, .unset] []))
  refine own_up (fun _ kq => XS.aloadN X1.here hx rfl (hb hby d4_6) rfl rfl kq) ?_
  show own_Go p.tables e below _ (T1.setTop (mkF m 7 #[.val (.ref ks), .val (.ref aa), .val (.ref bb), .val (.ref rr), .val (.int ta), .val (.int rs), .val (.int tb), .val (.int bs), .val (.int bq), .val (.int (1 : Int32)), .val (.double al), .second, .unset, .unset, .unset, .unset, .unset] [(.ref ks)]))
  obtain ⟨T2, X2, e2, st2⟩ := getF X1 hx hZ hown (host := "") (Or.inl (hw _ (List.mem_of_getElem? (i := 124) rfl))) Via.refl e1 Fbe (g := (mkF m 7 #[.val (.ref ks), .val (.ref aa), .val (.ref bb), .val (.ref rr), .val (.int ta), .val (.int rs), .val (.int tb), .val (.int bs), .val (.int bq), .val (.int (1 : Int32)), .val (.double al), .second, .unset, .unset, .unset, .unset, .unset] [(.ref ks)])) rfl rfl (hb hby d4_7)
  refine own_up st2 ?_
  show own_Go p.tables e below _ (T2.setTop (mkF m 10 #[.val (.ref ks), .val (.ref aa), .val (.ref bb), .val (.ref rr), .val (.int ta), .val (.int rs), .val (.int tb), .val (.int bs), .val (.int bq), .val (.int (1 : Int32)), .val (.double al), .second, .unset, .unset, .unset, .unset, .unset] [(.double be)]))
  refine own_up (fun _ kq => XS.dstore X2.here hx rfl (hb hby d4_10) rfl (l' := #[.val (.ref ks), .val (.ref aa), .val (.ref bb), .val (.ref rr), .val (.int ta), .val (.int rs), .val (.int tb), .val (.int bs), .val (.int bq), .val (.int (1 : Int32)), .val (.double al), .second, .val (.double be), .second, .unset, .unset, .unset]) rfl kq) ?_
  show own_Go p.tables e below _ (T2.setTop (mkF m 12 #[.val (.ref ks), .val (.ref aa), .val (.ref bb), .val (.ref rr), .val (.int ta), .val (.int rs), .val (.int tb), .val (.int bs), .val (.int bq), .val (.int (1 : Int32)), .val (.double al), .second, .val (.double be), .second, .unset, .unset, .unset] []))
  refine own_up (fun _ kq => XS.iconst X2.here hx rfl (hb hby d4_12) kq) ?_
  show own_Go p.tables e below _ (T2.setTop (mkF m 13 #[.val (.ref ks), .val (.ref aa), .val (.ref bb), .val (.ref rr), .val (.int ta), .val (.int rs), .val (.int tb), .val (.int bs), .val (.int bq), .val (.int (1 : Int32)), .val (.double al), .second, .val (.double be), .second, .unset, .unset, .unset] [(.int (0 : Int32))]))
  refine own_up (fun _ kq => XS.istore X2.here hx rfl (hb hby d4_13) rfl (l' := #[.val (.ref ks), .val (.ref aa), .val (.ref bb), .val (.ref rr), .val (.int ta), .val (.int rs), .val (.int tb), .val (.int bs), .val (.int bq), .val (.int (1 : Int32)), .val (.double al), .second, .val (.double be), .second, .val (.int (0 : Int32)), .unset, .unset]) rfl kq) ?_
  show own_Go p.tables e below _ (T2.setTop (mkF m 15 #[.val (.ref ks), .val (.ref aa), .val (.ref bb), .val (.ref rr), .val (.int ta), .val (.int rs), .val (.int tb), .val (.int bs), .val (.int bq), .val (.int (1 : Int32)), .val (.double al), .second, .val (.double be), .second, .val (.int (0 : Int32)), .unset, .unset] []))
  refine tnE (x := (ta + (0 : Int32))) (y := (tb + ((0 : Int32) * bs))) X2 hx hZ hw hby hml hown e2 N0 ZH G_aa G_bb G_rr g_rr ne_aa_rr ne_bb_rr One.u One.u (by decide) rfl rfl hal hua hmb i0_0 i0_1 i0_2 i0_3 i0_4 i0_5 i0_6 i0_7 j0_0 j0_1 j0_2 j0_3 j0_4 j0_5 j0_6 j0_7 (fun T3 h3 locs3 X3 e3 N3 K3 G_aa G_bb G_rr => ?_)
  have ZH := Nat.le_trans ZH K3.1
  have KK := KK.trans K3 (allS (Or.inl (List.mem_of_getElem? (i := 0) rfl)) all0)
  show own_Go p.tables e below _ (T3.setTop (mkF m 15 #[.val (.ref ks), .val (.ref aa), .val (.ref bb), .val (.ref rr), .val (.int ta), .val (.int rs), .val (.int tb), .val (.int bs), .val (.int bq), .val (.int (1 : Int32)), .val (.double al), .second, .val (.double be), .second, .val (.int (1 : Int32)), .val (.int (ta + (0 : Int32))), .val (.int (tb + ((0 : Int32) * bs)))] []))
  refine own_up (fun _ kq => XS.iload X3.here hx rfl (hb hby d4_15) rfl kq) ?_
  show own_Go p.tables e below _ (T3.setTop (mkF m 17 #[.val (.ref ks), .val (.ref aa), .val (.ref bb), .val (.ref rr), .val (.int ta), .val (.int rs), .val (.int tb), .val (.int bs), .val (.int bq), .val (.int (1 : Int32)), .val (.double al), .second, .val (.double be), .second, .val (.int (1 : Int32)), .val (.int (ta + (0 : Int32))), .val (.int (tb + ((0 : Int32) * bs)))] [(.int (1 : Int32))]))
  refine own_up (fun _ kq => XS.iload X3.here hx rfl (hb hby d4_17) rfl kq) ?_
  show own_Go p.tables e below _ (T3.setTop (mkF m 19 #[.val (.ref ks), .val (.ref aa), .val (.ref bb), .val (.ref rr), .val (.int ta), .val (.int rs), .val (.int tb), .val (.int bs), .val (.int bq), .val (.int (1 : Int32)), .val (.double al), .second, .val (.double be), .second, .val (.int (1 : Int32)), .val (.int (ta + (0 : Int32))), .val (.int (tb + ((0 : Int32) * bs)))] [(.int (1 : Int32)), (.int (1 : Int32))]))
  refine own_up (fun _ kq => XS.icmpYes X3.here hx rfl (pc0 := 19) (pc' := 302) rfl (hb hby d4_19) rfl (flt (by decide : ¬ ((1 : Int32) < (1 : Int32)))).2.1 (by decide) (by decide) kq) ?_
  show own_Go p.tables e below _ (T3.setTop (mkF m 302 #[.val (.ref ks), .val (.ref aa), .val (.ref bb), .val (.ref rr), .val (.int ta), .val (.int rs), .val (.int tb), .val (.int bs), .val (.int bq), .val (.int (1 : Int32)), .val (.double al), .second, .val (.double be), .second, .val (.int (1 : Int32)), .val (.int (ta + (0 : Int32))), .val (.int (tb + ((0 : Int32) * bs)))] []))
  obtain ⟨fs4, hr4, hrun4, hended4, hW4, hsame4⟩ := X3.leave (v := none) (fun _ => rfl)
  refine own_end ⟨_, _, ?_, hrun4, hended4, _, _, rfl, ?_, ⟨_, rfl⟩, hW4, hsame4.mono (by decide) (by decide)⟩
  · exact X3.returnOut hx Bd.returns (hb hby d4_302) hr4
  · show QrmE1 Z ks aa bb rr ta rs tb bs bq al be ua ub ur h0 n0 _ T3.heap _
    rw [e3]
    exact ⟨rfl, N3, KK, G_rr⟩
theorem ef_rmE2 (m : MethodId) (x0 : Addr) (x1 : Addr) (x2 : Addr) (x3 : Addr) (x4 : Int32) (x5 : Int32) (x6 : Int32) (x7 : Int32) (x8 : Int32) (x9 : Int32) : entryFrame m #[(.ref x0), (.ref x1), (.ref x2), (.ref x3), (.int x4), (.int x5), (.int x6), (.int x7), (.int x8), (.int x9)] 17 = mkF m 0 #[.val (.ref x0), .val (.ref x1), .val (.ref x2), .val (.ref x3), .val (.int x4), .val (.int x5), .val (.int x6), .val (.int x7), .val (.int x8), .val (.int x9), .unset, .unset, .unset, .unset, .unset, .unset, .unset] [] := by first | (simp [entryFrame, mkF, argsToLocals, Value.category]; done) | rfl
def QrmE2 (Z : State) (ks : Addr) (aa : Addr) (bb : Addr) (rr : Addr) (ta : Int32) (rs : Int32) (tb : Int32) (bs : Int32) (bq : Int32) (al : UInt64) (be : UInt64) (ua : Nat → UInt64) (ub : Nat → UInt64) (ur : Nat → UInt64) (h0 : Heap) (n0 : Nat) (v : Option Value) (h : Heap) (L : List Loc) : Prop := v = none ∧ Fr n0 L ∧ Keep h0 h [rr] ∧ own_Arf Z h rr .double (48 : Int32) (fun i => .double ((own_T (own_T ur al be ua ub (ta + (0 : Int32)) (tb + ((0 : Int32) * bs)) rs bq) al be ua ub (ta + (1 : Int32)) (tb + ((1 : Int32) * bs)) rs bq) i))
set_option maxRecDepth 65536 in
set_option maxHeartbeats 40000000 in
theorem rmE2 (l : Launch) (Z : State) (a0 : Array Value) (hw : ∀ d ∈ tables_1, d.before a0 Z = true) (ws : List Jvm.Cond) (ks : Addr) (aa : Addr) (bb : Addr) (rr : Addr) (ta : Int32) (rs : Int32) (tb : Int32) (bs : Int32) (bq : Int32) (al : UInt64) (be : UInt64) (ua : Nat → UInt64) (ub : Nat → UInt64) (ur : Nat → UInt64) (h0 : Heap) (n0 : Nat) (Z0 : n0 ≤ h0.size) (Fal : Fld Z h0 ks "com/example/indexica/indexica/ScaledSum" "alpha" "D" (.double al)) (Fbe : Fld Z h0 ks "com/example/indexica/indexica/ScaledSum" "beta" "D" (.double be)) (G_aa : own_Arf Z h0 aa .double (48 : Int32) (fun i => .double (ua i))) (G_bb : own_Arf Z h0 bb .double (60 : Int32) (fun i => .double (ub i))) (G_rr : own_Arf Z h0 rr .double (48 : Int32) (fun i => .double (ur i))) (g_rr : n0 ≤ rr) (ne_aa_rr : aa ≠ rr) (ne_bb_rr : bb ≠ rr) (hal : Fin64 al) (hua : ∀ i, Fin64 (ua i)) (hmb : ∀ i, Fin64 (FP.dmul be (ub i))) (i0_0 : ¬ (ta + (0 : Int32)) < 0 ∧ (ta + (0 : Int32)) < (48 : Int32)) (i0_1 : ¬ ((ta + (0 : Int32)) + rs) < 0 ∧ ((ta + (0 : Int32)) + rs) < (48 : Int32)) (i0_2 : ¬ ((ta + (0 : Int32)) + ((2 : Int32) * rs)) < 0 ∧ ((ta + (0 : Int32)) + ((2 : Int32) * rs)) < (48 : Int32)) (i0_3 : ¬ ((ta + (0 : Int32)) + ((3 : Int32) * rs)) < 0 ∧ ((ta + (0 : Int32)) + ((3 : Int32) * rs)) < (48 : Int32)) (i0_4 : ¬ ((ta + (0 : Int32)) + ((4 : Int32) * rs)) < 0 ∧ ((ta + (0 : Int32)) + ((4 : Int32) * rs)) < (48 : Int32)) (i0_5 : ¬ ((ta + (0 : Int32)) + ((5 : Int32) * rs)) < 0 ∧ ((ta + (0 : Int32)) + ((5 : Int32) * rs)) < (48 : Int32)) (i0_6 : ¬ ((ta + (0 : Int32)) + ((6 : Int32) * rs)) < 0 ∧ ((ta + (0 : Int32)) + ((6 : Int32) * rs)) < (48 : Int32)) (i0_7 : ¬ ((ta + (0 : Int32)) + ((7 : Int32) * rs)) < 0 ∧ ((ta + (0 : Int32)) + ((7 : Int32) * rs)) < (48 : Int32)) (i1_0 : ¬ (ta + (1 : Int32)) < 0 ∧ (ta + (1 : Int32)) < (48 : Int32)) (i1_1 : ¬ ((ta + (1 : Int32)) + rs) < 0 ∧ ((ta + (1 : Int32)) + rs) < (48 : Int32)) (i1_2 : ¬ ((ta + (1 : Int32)) + ((2 : Int32) * rs)) < 0 ∧ ((ta + (1 : Int32)) + ((2 : Int32) * rs)) < (48 : Int32)) (i1_3 : ¬ ((ta + (1 : Int32)) + ((3 : Int32) * rs)) < 0 ∧ ((ta + (1 : Int32)) + ((3 : Int32) * rs)) < (48 : Int32)) (i1_4 : ¬ ((ta + (1 : Int32)) + ((4 : Int32) * rs)) < 0 ∧ ((ta + (1 : Int32)) + ((4 : Int32) * rs)) < (48 : Int32)) (i1_5 : ¬ ((ta + (1 : Int32)) + ((5 : Int32) * rs)) < 0 ∧ ((ta + (1 : Int32)) + ((5 : Int32) * rs)) < (48 : Int32)) (i1_6 : ¬ ((ta + (1 : Int32)) + ((6 : Int32) * rs)) < 0 ∧ ((ta + (1 : Int32)) + ((6 : Int32) * rs)) < (48 : Int32)) (i1_7 : ¬ ((ta + (1 : Int32)) + ((7 : Int32) * rs)) < 0 ∧ ((ta + (1 : Int32)) + ((7 : Int32) * rs)) < (48 : Int32)) (j0_0 : ¬ (tb + ((0 : Int32) * bs)) < 0 ∧ (tb + ((0 : Int32) * bs)) < (60 : Int32)) (j0_1 : ¬ ((tb + ((0 : Int32) * bs)) + bq) < 0 ∧ ((tb + ((0 : Int32) * bs)) + bq) < (60 : Int32)) (j0_2 : ¬ ((tb + ((0 : Int32) * bs)) + ((2 : Int32) * bq)) < 0 ∧ ((tb + ((0 : Int32) * bs)) + ((2 : Int32) * bq)) < (60 : Int32)) (j0_3 : ¬ ((tb + ((0 : Int32) * bs)) + ((3 : Int32) * bq)) < 0 ∧ ((tb + ((0 : Int32) * bs)) + ((3 : Int32) * bq)) < (60 : Int32)) (j0_4 : ¬ ((tb + ((0 : Int32) * bs)) + ((4 : Int32) * bq)) < 0 ∧ ((tb + ((0 : Int32) * bs)) + ((4 : Int32) * bq)) < (60 : Int32)) (j0_5 : ¬ ((tb + ((0 : Int32) * bs)) + ((5 : Int32) * bq)) < 0 ∧ ((tb + ((0 : Int32) * bs)) + ((5 : Int32) * bq)) < (60 : Int32)) (j0_6 : ¬ ((tb + ((0 : Int32) * bs)) + ((6 : Int32) * bq)) < 0 ∧ ((tb + ((0 : Int32) * bs)) + ((6 : Int32) * bq)) < (60 : Int32)) (j0_7 : ¬ ((tb + ((0 : Int32) * bs)) + ((7 : Int32) * bq)) < 0 ∧ ((tb + ((0 : Int32) * bs)) + ((7 : Int32) * bq)) < (60 : Int32)) (j1_0 : ¬ (tb + ((1 : Int32) * bs)) < 0 ∧ (tb + ((1 : Int32) * bs)) < (60 : Int32)) (j1_1 : ¬ ((tb + ((1 : Int32) * bs)) + bq) < 0 ∧ ((tb + ((1 : Int32) * bs)) + bq) < (60 : Int32)) (j1_2 : ¬ ((tb + ((1 : Int32) * bs)) + ((2 : Int32) * bq)) < 0 ∧ ((tb + ((1 : Int32) * bs)) + ((2 : Int32) * bq)) < (60 : Int32)) (j1_3 : ¬ ((tb + ((1 : Int32) * bs)) + ((3 : Int32) * bq)) < 0 ∧ ((tb + ((1 : Int32) * bs)) + ((3 : Int32) * bq)) < (60 : Int32)) (j1_4 : ¬ ((tb + ((1 : Int32) * bs)) + ((4 : Int32) * bq)) < 0 ∧ ((tb + ((1 : Int32) * bs)) + ((4 : Int32) * bq)) < (60 : Int32)) (j1_5 : ¬ ((tb + ((1 : Int32) * bs)) + ((5 : Int32) * bq)) < 0 ∧ ((tb + ((1 : Int32) * bs)) + ((5 : Int32) * bq)) < (60 : Int32)) (j1_6 : ¬ ((tb + ((1 : Int32) * bs)) + ((6 : Int32) * bq)) < 0 ∧ ((tb + ((1 : Int32) * bs)) + ((6 : Int32) * bq)) < (60 : Int32)) (j1_7 : ¬ ((tb + ((1 : Int32) * bs)) + ((7 : Int32) * bq)) < 0 ∧ ((tb + ((1 : Int32) * bs)) + ((7 : Int32) * bq)) < (60 : Int32)) :
    MetFree l (⟨"com/example/indexica/indexica/ScaledSum", "eightRows", "([D[D[DIIIIII)V"⟩ : MethodName) (head1 (Jvm.Cond.code (⟨"com/example/indexica/indexica/ScaledSum", "eightRows", "([D[D[DIIIIII)V"⟩ : MethodName) prog_85_method_3_code 17 none :: ws) ({ frames := 0, cells := 0, slots := 0, locals := 0 } : Room)) (fun aq Uq => aq = #[(.ref ks), (.ref aa), (.ref bb), (.ref rr), (.int ta), (.int rs), (.int tb), (.int bs), (.int bq), (.int (2 : Int32))] ∧ Z.Warmed39 Uq.vm ∧ Uq.heap = h0) (fun _ _ _ _ _ => True) (fun _ Uq oq Uq' => ∃ vq Lq, oq = .returned vq ∧ QrmE2 Z ks aa bb rr ta rs tb bs bq al be ua ub ur h0 n0 vq Uq'.heap Lq ∧ FrameEnd Uq oq Uq' Lq ({ frames := 0, cells := 0, slots := 0, locals := 0 } : Room).cells ({ frames := 0, cells := 0, slots := 0, locals := 0 } : Room).slots) := by
  refine MetFree.of_bodySF (plainFor_of_name pn_1) hisR ?_
  intro p e s m args below meth c s₁ Bd hml0 hP hK
  obtain ⟨rfl, hZ, hh⟩ := hP
  have hx := Bd.exec
  have hby := Bd.bytes
  have hml : c.maxLocals = 17 := hml0
  have hown : s.vm.findClass "com/example/indexica/indexica/ScaledSum" = some m.cls := findClass_of_methodNamed Bd.named
  have hnm := (name_of_methodNamed Bd.named Bd.method).1
  have X0 : Stand p l e ({ frames := 0, cells := 0, slots := 0, locals := 0 } : Room) s m #[(.ref ks), (.ref aa), (.ref bb), (.ref rr), (.int ta), (.int rs), (.int tb), (.int bs), (.int bq), (.int (2 : Int32))] below meth c s₁ [] 0 0 := Stand.of_body Bd
  have e0 : s₁.heap = h0 := by rw [← hh, Bd.state]; rfl
  have N0 := Fr.nil n0
  have ZH := Z0
  have KK := Keep.refl h0 [rr]
  refine own_start (fun t kq => castTop (ef_rmE2 m ks aa bb rr ta rs tb bs bq (2 : Int32)) kq) ?_
  show own_Go p.tables e below _ (s₁.setTop (mkF m 0 #[.val (.ref ks), .val (.ref aa), .val (.ref bb), .val (.ref rr), .val (.int ta), .val (.int rs), .val (.int tb), .val (.int bs), .val (.int bq), .val (.int (2 : Int32)), .unset, .unset, .unset, .unset, .unset, .unset, .unset] []))
  refine own_up (fun _ kq => XS.aloadN X0.here hx rfl (hb hby d4_0) rfl rfl kq) ?_
  show own_Go p.tables e below _ (s₁.setTop (mkF m 1 #[.val (.ref ks), .val (.ref aa), .val (.ref bb), .val (.ref rr), .val (.int ta), .val (.int rs), .val (.int tb), .val (.int bs), .val (.int bq), .val (.int (2 : Int32)), .unset, .unset, .unset, .unset, .unset, .unset, .unset] [(.ref ks)]))
  obtain ⟨T1, X1, e1, st1⟩ := getF X0 hx hZ hown (host := "") (Or.inl (hw _ (List.mem_of_getElem? (i := 122) rfl))) Via.refl e0 Fal (g := (mkF m 1 #[.val (.ref ks), .val (.ref aa), .val (.ref bb), .val (.ref rr), .val (.int ta), .val (.int rs), .val (.int tb), .val (.int bs), .val (.int bq), .val (.int (2 : Int32)), .unset, .unset, .unset, .unset, .unset, .unset, .unset] [(.ref ks)])) rfl rfl (hb hby d4_1)
  refine own_up st1 ?_
  show own_Go p.tables e below _ (T1.setTop (mkF m 4 #[.val (.ref ks), .val (.ref aa), .val (.ref bb), .val (.ref rr), .val (.int ta), .val (.int rs), .val (.int tb), .val (.int bs), .val (.int bq), .val (.int (2 : Int32)), .unset, .unset, .unset, .unset, .unset, .unset, .unset] [(.double al)]))
  refine own_up (fun _ kq => XS.dstore X1.here hx rfl (hb hby d4_4) rfl (l' := #[.val (.ref ks), .val (.ref aa), .val (.ref bb), .val (.ref rr), .val (.int ta), .val (.int rs), .val (.int tb), .val (.int bs), .val (.int bq), .val (.int (2 : Int32)), .val (.double al), .second, .unset, .unset, .unset, .unset, .unset]) rfl kq) ?_
  show own_Go p.tables e below _ (T1.setTop (mkF m 6 #[.val (.ref ks), .val (.ref aa), .val (.ref bb), .val (.ref rr), .val (.int ta), .val (.int rs), .val (.int tb), .val (.int bs), .val (.int bq), .val (.int (2 : Int32)), .val (.double al), .second, .unset, .unset, .unset, .unset, .unset] []))
  refine own_up (fun _ kq => XS.aloadN X1.here hx rfl (hb hby d4_6) rfl rfl kq) ?_
  show own_Go p.tables e below _ (T1.setTop (mkF m 7 #[.val (.ref ks), .val (.ref aa), .val (.ref bb), .val (.ref rr), .val (.int ta), .val (.int rs), .val (.int tb), .val (.int bs), .val (.int bq), .val (.int (2 : Int32)), .val (.double al), .second, .unset, .unset, .unset, .unset, .unset] [(.ref ks)]))
  obtain ⟨T2, X2, e2, st2⟩ := getF X1 hx hZ hown (host := "") (Or.inl (hw _ (List.mem_of_getElem? (i := 124) rfl))) Via.refl e1 Fbe (g := (mkF m 7 #[.val (.ref ks), .val (.ref aa), .val (.ref bb), .val (.ref rr), .val (.int ta), .val (.int rs), .val (.int tb), .val (.int bs), .val (.int bq), .val (.int (2 : Int32)), .val (.double al), .second, .unset, .unset, .unset, .unset, .unset] [(.ref ks)])) rfl rfl (hb hby d4_7)
  refine own_up st2 ?_
  show own_Go p.tables e below _ (T2.setTop (mkF m 10 #[.val (.ref ks), .val (.ref aa), .val (.ref bb), .val (.ref rr), .val (.int ta), .val (.int rs), .val (.int tb), .val (.int bs), .val (.int bq), .val (.int (2 : Int32)), .val (.double al), .second, .unset, .unset, .unset, .unset, .unset] [(.double be)]))
  refine own_up (fun _ kq => XS.dstore X2.here hx rfl (hb hby d4_10) rfl (l' := #[.val (.ref ks), .val (.ref aa), .val (.ref bb), .val (.ref rr), .val (.int ta), .val (.int rs), .val (.int tb), .val (.int bs), .val (.int bq), .val (.int (2 : Int32)), .val (.double al), .second, .val (.double be), .second, .unset, .unset, .unset]) rfl kq) ?_
  show own_Go p.tables e below _ (T2.setTop (mkF m 12 #[.val (.ref ks), .val (.ref aa), .val (.ref bb), .val (.ref rr), .val (.int ta), .val (.int rs), .val (.int tb), .val (.int bs), .val (.int bq), .val (.int (2 : Int32)), .val (.double al), .second, .val (.double be), .second, .unset, .unset, .unset] []))
  refine own_up (fun _ kq => XS.iconst X2.here hx rfl (hb hby d4_12) kq) ?_
  show own_Go p.tables e below _ (T2.setTop (mkF m 13 #[.val (.ref ks), .val (.ref aa), .val (.ref bb), .val (.ref rr), .val (.int ta), .val (.int rs), .val (.int tb), .val (.int bs), .val (.int bq), .val (.int (2 : Int32)), .val (.double al), .second, .val (.double be), .second, .unset, .unset, .unset] [(.int (0 : Int32))]))
  refine own_up (fun _ kq => XS.istore X2.here hx rfl (hb hby d4_13) rfl (l' := #[.val (.ref ks), .val (.ref aa), .val (.ref bb), .val (.ref rr), .val (.int ta), .val (.int rs), .val (.int tb), .val (.int bs), .val (.int bq), .val (.int (2 : Int32)), .val (.double al), .second, .val (.double be), .second, .val (.int (0 : Int32)), .unset, .unset]) rfl kq) ?_
  show own_Go p.tables e below _ (T2.setTop (mkF m 15 #[.val (.ref ks), .val (.ref aa), .val (.ref bb), .val (.ref rr), .val (.int ta), .val (.int rs), .val (.int tb), .val (.int bs), .val (.int bq), .val (.int (2 : Int32)), .val (.double al), .second, .val (.double be), .second, .val (.int (0 : Int32)), .unset, .unset] []))
  refine tnE (x := (ta + (0 : Int32))) (y := (tb + ((0 : Int32) * bs))) X2 hx hZ hw hby hml hown e2 N0 ZH G_aa G_bb G_rr g_rr ne_aa_rr ne_bb_rr One.u One.u (by decide) rfl rfl hal hua hmb i0_0 i0_1 i0_2 i0_3 i0_4 i0_5 i0_6 i0_7 j0_0 j0_1 j0_2 j0_3 j0_4 j0_5 j0_6 j0_7 (fun T3 h3 locs3 X3 e3 N3 K3 G_aa G_bb G_rr => ?_)
  have ZH := Nat.le_trans ZH K3.1
  have KK := KK.trans K3 (allS (Or.inl (List.mem_of_getElem? (i := 0) rfl)) all0)
  show own_Go p.tables e below _ (T3.setTop (mkF m 15 #[.val (.ref ks), .val (.ref aa), .val (.ref bb), .val (.ref rr), .val (.int ta), .val (.int rs), .val (.int tb), .val (.int bs), .val (.int bq), .val (.int (2 : Int32)), .val (.double al), .second, .val (.double be), .second, .val (.int (1 : Int32)), .val (.int (ta + (0 : Int32))), .val (.int (tb + ((0 : Int32) * bs)))] []))
  refine tnE (x := (ta + (1 : Int32))) (y := (tb + ((1 : Int32) * bs))) X3 hx hZ hw hby hml hown e3 N3 ZH G_aa G_bb G_rr g_rr ne_aa_rr ne_bb_rr (One.val rfl) (One.val rfl) (by decide) rfl rfl hal hua hmb i1_0 i1_1 i1_2 i1_3 i1_4 i1_5 i1_6 i1_7 j1_0 j1_1 j1_2 j1_3 j1_4 j1_5 j1_6 j1_7 (fun T4 h4 locs4 X4 e4 N4 K4 G_aa G_bb G_rr => ?_)
  have ZH := Nat.le_trans ZH K4.1
  have KK := KK.trans K4 (allS (Or.inl (List.mem_of_getElem? (i := 0) rfl)) all0)
  show own_Go p.tables e below _ (T4.setTop (mkF m 15 #[.val (.ref ks), .val (.ref aa), .val (.ref bb), .val (.ref rr), .val (.int ta), .val (.int rs), .val (.int tb), .val (.int bs), .val (.int bq), .val (.int (2 : Int32)), .val (.double al), .second, .val (.double be), .second, .val (.int (2 : Int32)), .val (.int (ta + (1 : Int32))), .val (.int (tb + ((1 : Int32) * bs)))] []))
  refine own_up (fun _ kq => XS.iload X4.here hx rfl (hb hby d4_15) rfl kq) ?_
  show own_Go p.tables e below _ (T4.setTop (mkF m 17 #[.val (.ref ks), .val (.ref aa), .val (.ref bb), .val (.ref rr), .val (.int ta), .val (.int rs), .val (.int tb), .val (.int bs), .val (.int bq), .val (.int (2 : Int32)), .val (.double al), .second, .val (.double be), .second, .val (.int (2 : Int32)), .val (.int (ta + (1 : Int32))), .val (.int (tb + ((1 : Int32) * bs)))] [(.int (2 : Int32))]))
  refine own_up (fun _ kq => XS.iload X4.here hx rfl (hb hby d4_17) rfl kq) ?_
  show own_Go p.tables e below _ (T4.setTop (mkF m 19 #[.val (.ref ks), .val (.ref aa), .val (.ref bb), .val (.ref rr), .val (.int ta), .val (.int rs), .val (.int tb), .val (.int bs), .val (.int bq), .val (.int (2 : Int32)), .val (.double al), .second, .val (.double be), .second, .val (.int (2 : Int32)), .val (.int (ta + (1 : Int32))), .val (.int (tb + ((1 : Int32) * bs)))] [(.int (2 : Int32)), (.int (2 : Int32))]))
  refine own_up (fun _ kq => XS.icmpYes X4.here hx rfl (pc0 := 19) (pc' := 302) rfl (hb hby d4_19) rfl (flt (by decide : ¬ ((2 : Int32) < (2 : Int32)))).2.1 (by decide) (by decide) kq) ?_
  show own_Go p.tables e below _ (T4.setTop (mkF m 302 #[.val (.ref ks), .val (.ref aa), .val (.ref bb), .val (.ref rr), .val (.int ta), .val (.int rs), .val (.int tb), .val (.int bs), .val (.int bq), .val (.int (2 : Int32)), .val (.double al), .second, .val (.double be), .second, .val (.int (2 : Int32)), .val (.int (ta + (1 : Int32))), .val (.int (tb + ((1 : Int32) * bs)))] []))
  obtain ⟨fs5, hr5, hrun5, hended5, hW5, hsame5⟩ := X4.leave (v := none) (fun _ => rfl)
  refine own_end ⟨_, _, ?_, hrun5, hended5, _, _, rfl, ?_, ⟨_, rfl⟩, hW5, hsame5.mono (by decide) (by decide)⟩
  · exact X4.returnOut hx Bd.returns (hb hby d4_302) hr5
  · show QrmE2 Z ks aa bb rr ta rs tb bs bq al be ua ub ur h0 n0 _ T4.heap _
    rw [e4]
    exact ⟨rfl, N4, KK, G_rr⟩
theorem ef_rmE3 (m : MethodId) (x0 : Addr) (x1 : Addr) (x2 : Addr) (x3 : Addr) (x4 : Int32) (x5 : Int32) (x6 : Int32) (x7 : Int32) (x8 : Int32) (x9 : Int32) : entryFrame m #[(.ref x0), (.ref x1), (.ref x2), (.ref x3), (.int x4), (.int x5), (.int x6), (.int x7), (.int x8), (.int x9)] 17 = mkF m 0 #[.val (.ref x0), .val (.ref x1), .val (.ref x2), .val (.ref x3), .val (.int x4), .val (.int x5), .val (.int x6), .val (.int x7), .val (.int x8), .val (.int x9), .unset, .unset, .unset, .unset, .unset, .unset, .unset] [] := by first | (simp [entryFrame, mkF, argsToLocals, Value.category]; done) | rfl
def QrmE3 (Z : State) (ks : Addr) (aa : Addr) (bb : Addr) (rr : Addr) (ta : Int32) (rs : Int32) (tb : Int32) (bs : Int32) (bq : Int32) (al : UInt64) (be : UInt64) (ua : Nat → UInt64) (ub : Nat → UInt64) (ur : Nat → UInt64) (h0 : Heap) (n0 : Nat) (v : Option Value) (h : Heap) (L : List Loc) : Prop := v = none ∧ Fr n0 L ∧ Keep h0 h [rr] ∧ own_Arf Z h rr .double (48 : Int32) (fun i => .double ((own_T (own_T (own_T ur al be ua ub (ta + (0 : Int32)) (tb + ((0 : Int32) * bs)) rs bq) al be ua ub (ta + (1 : Int32)) (tb + ((1 : Int32) * bs)) rs bq) al be ua ub (ta + (2 : Int32)) (tb + ((2 : Int32) * bs)) rs bq) i))
set_option maxRecDepth 65536 in
set_option maxHeartbeats 40000000 in
theorem rmE3 (l : Launch) (Z : State) (a0 : Array Value) (hw : ∀ d ∈ tables_1, d.before a0 Z = true) (ws : List Jvm.Cond) (ks : Addr) (aa : Addr) (bb : Addr) (rr : Addr) (ta : Int32) (rs : Int32) (tb : Int32) (bs : Int32) (bq : Int32) (al : UInt64) (be : UInt64) (ua : Nat → UInt64) (ub : Nat → UInt64) (ur : Nat → UInt64) (h0 : Heap) (n0 : Nat) (Z0 : n0 ≤ h0.size) (Fal : Fld Z h0 ks "com/example/indexica/indexica/ScaledSum" "alpha" "D" (.double al)) (Fbe : Fld Z h0 ks "com/example/indexica/indexica/ScaledSum" "beta" "D" (.double be)) (G_aa : own_Arf Z h0 aa .double (48 : Int32) (fun i => .double (ua i))) (G_bb : own_Arf Z h0 bb .double (60 : Int32) (fun i => .double (ub i))) (G_rr : own_Arf Z h0 rr .double (48 : Int32) (fun i => .double (ur i))) (g_rr : n0 ≤ rr) (ne_aa_rr : aa ≠ rr) (ne_bb_rr : bb ≠ rr) (hal : Fin64 al) (hua : ∀ i, Fin64 (ua i)) (hmb : ∀ i, Fin64 (FP.dmul be (ub i))) (i0_0 : ¬ (ta + (0 : Int32)) < 0 ∧ (ta + (0 : Int32)) < (48 : Int32)) (i0_1 : ¬ ((ta + (0 : Int32)) + rs) < 0 ∧ ((ta + (0 : Int32)) + rs) < (48 : Int32)) (i0_2 : ¬ ((ta + (0 : Int32)) + ((2 : Int32) * rs)) < 0 ∧ ((ta + (0 : Int32)) + ((2 : Int32) * rs)) < (48 : Int32)) (i0_3 : ¬ ((ta + (0 : Int32)) + ((3 : Int32) * rs)) < 0 ∧ ((ta + (0 : Int32)) + ((3 : Int32) * rs)) < (48 : Int32)) (i0_4 : ¬ ((ta + (0 : Int32)) + ((4 : Int32) * rs)) < 0 ∧ ((ta + (0 : Int32)) + ((4 : Int32) * rs)) < (48 : Int32)) (i0_5 : ¬ ((ta + (0 : Int32)) + ((5 : Int32) * rs)) < 0 ∧ ((ta + (0 : Int32)) + ((5 : Int32) * rs)) < (48 : Int32)) (i0_6 : ¬ ((ta + (0 : Int32)) + ((6 : Int32) * rs)) < 0 ∧ ((ta + (0 : Int32)) + ((6 : Int32) * rs)) < (48 : Int32)) (i0_7 : ¬ ((ta + (0 : Int32)) + ((7 : Int32) * rs)) < 0 ∧ ((ta + (0 : Int32)) + ((7 : Int32) * rs)) < (48 : Int32)) (i1_0 : ¬ (ta + (1 : Int32)) < 0 ∧ (ta + (1 : Int32)) < (48 : Int32)) (i1_1 : ¬ ((ta + (1 : Int32)) + rs) < 0 ∧ ((ta + (1 : Int32)) + rs) < (48 : Int32)) (i1_2 : ¬ ((ta + (1 : Int32)) + ((2 : Int32) * rs)) < 0 ∧ ((ta + (1 : Int32)) + ((2 : Int32) * rs)) < (48 : Int32)) (i1_3 : ¬ ((ta + (1 : Int32)) + ((3 : Int32) * rs)) < 0 ∧ ((ta + (1 : Int32)) + ((3 : Int32) * rs)) < (48 : Int32)) (i1_4 : ¬ ((ta + (1 : Int32)) + ((4 : Int32) * rs)) < 0 ∧ ((ta + (1 : Int32)) + ((4 : Int32) * rs)) < (48 : Int32)) (i1_5 : ¬ ((ta + (1 : Int32)) + ((5 : Int32) * rs)) < 0 ∧ ((ta + (1 : Int32)) + ((5 : Int32) * rs)) < (48 : Int32)) (i1_6 : ¬ ((ta + (1 : Int32)) + ((6 : Int32) * rs)) < 0 ∧ ((ta + (1 : Int32)) + ((6 : Int32) * rs)) < (48 : Int32)) (i1_7 : ¬ ((ta + (1 : Int32)) + ((7 : Int32) * rs)) < 0 ∧ ((ta + (1 : Int32)) + ((7 : Int32) * rs)) < (48 : Int32)) (i2_0 : ¬ (ta + (2 : Int32)) < 0 ∧ (ta + (2 : Int32)) < (48 : Int32)) (i2_1 : ¬ ((ta + (2 : Int32)) + rs) < 0 ∧ ((ta + (2 : Int32)) + rs) < (48 : Int32)) (i2_2 : ¬ ((ta + (2 : Int32)) + ((2 : Int32) * rs)) < 0 ∧ ((ta + (2 : Int32)) + ((2 : Int32) * rs)) < (48 : Int32)) (i2_3 : ¬ ((ta + (2 : Int32)) + ((3 : Int32) * rs)) < 0 ∧ ((ta + (2 : Int32)) + ((3 : Int32) * rs)) < (48 : Int32)) (i2_4 : ¬ ((ta + (2 : Int32)) + ((4 : Int32) * rs)) < 0 ∧ ((ta + (2 : Int32)) + ((4 : Int32) * rs)) < (48 : Int32)) (i2_5 : ¬ ((ta + (2 : Int32)) + ((5 : Int32) * rs)) < 0 ∧ ((ta + (2 : Int32)) + ((5 : Int32) * rs)) < (48 : Int32)) (i2_6 : ¬ ((ta + (2 : Int32)) + ((6 : Int32) * rs)) < 0 ∧ ((ta + (2 : Int32)) + ((6 : Int32) * rs)) < (48 : Int32)) (i2_7 : ¬ ((ta + (2 : Int32)) + ((7 : Int32) * rs)) < 0 ∧ ((ta + (2 : Int32)) + ((7 : Int32) * rs)) < (48 : Int32)) (j0_0 : ¬ (tb + ((0 : Int32) * bs)) < 0 ∧ (tb + ((0 : Int32) * bs)) < (60 : Int32)) (j0_1 : ¬ ((tb + ((0 : Int32) * bs)) + bq) < 0 ∧ ((tb + ((0 : Int32) * bs)) + bq) < (60 : Int32)) (j0_2 : ¬ ((tb + ((0 : Int32) * bs)) + ((2 : Int32) * bq)) < 0 ∧ ((tb + ((0 : Int32) * bs)) + ((2 : Int32) * bq)) < (60 : Int32)) (j0_3 : ¬ ((tb + ((0 : Int32) * bs)) + ((3 : Int32) * bq)) < 0 ∧ ((tb + ((0 : Int32) * bs)) + ((3 : Int32) * bq)) < (60 : Int32)) (j0_4 : ¬ ((tb + ((0 : Int32) * bs)) + ((4 : Int32) * bq)) < 0 ∧ ((tb + ((0 : Int32) * bs)) + ((4 : Int32) * bq)) < (60 : Int32)) (j0_5 : ¬ ((tb + ((0 : Int32) * bs)) + ((5 : Int32) * bq)) < 0 ∧ ((tb + ((0 : Int32) * bs)) + ((5 : Int32) * bq)) < (60 : Int32)) (j0_6 : ¬ ((tb + ((0 : Int32) * bs)) + ((6 : Int32) * bq)) < 0 ∧ ((tb + ((0 : Int32) * bs)) + ((6 : Int32) * bq)) < (60 : Int32)) (j0_7 : ¬ ((tb + ((0 : Int32) * bs)) + ((7 : Int32) * bq)) < 0 ∧ ((tb + ((0 : Int32) * bs)) + ((7 : Int32) * bq)) < (60 : Int32)) (j1_0 : ¬ (tb + ((1 : Int32) * bs)) < 0 ∧ (tb + ((1 : Int32) * bs)) < (60 : Int32)) (j1_1 : ¬ ((tb + ((1 : Int32) * bs)) + bq) < 0 ∧ ((tb + ((1 : Int32) * bs)) + bq) < (60 : Int32)) (j1_2 : ¬ ((tb + ((1 : Int32) * bs)) + ((2 : Int32) * bq)) < 0 ∧ ((tb + ((1 : Int32) * bs)) + ((2 : Int32) * bq)) < (60 : Int32)) (j1_3 : ¬ ((tb + ((1 : Int32) * bs)) + ((3 : Int32) * bq)) < 0 ∧ ((tb + ((1 : Int32) * bs)) + ((3 : Int32) * bq)) < (60 : Int32)) (j1_4 : ¬ ((tb + ((1 : Int32) * bs)) + ((4 : Int32) * bq)) < 0 ∧ ((tb + ((1 : Int32) * bs)) + ((4 : Int32) * bq)) < (60 : Int32)) (j1_5 : ¬ ((tb + ((1 : Int32) * bs)) + ((5 : Int32) * bq)) < 0 ∧ ((tb + ((1 : Int32) * bs)) + ((5 : Int32) * bq)) < (60 : Int32)) (j1_6 : ¬ ((tb + ((1 : Int32) * bs)) + ((6 : Int32) * bq)) < 0 ∧ ((tb + ((1 : Int32) * bs)) + ((6 : Int32) * bq)) < (60 : Int32)) (j1_7 : ¬ ((tb + ((1 : Int32) * bs)) + ((7 : Int32) * bq)) < 0 ∧ ((tb + ((1 : Int32) * bs)) + ((7 : Int32) * bq)) < (60 : Int32)) (j2_0 : ¬ (tb + ((2 : Int32) * bs)) < 0 ∧ (tb + ((2 : Int32) * bs)) < (60 : Int32)) (j2_1 : ¬ ((tb + ((2 : Int32) * bs)) + bq) < 0 ∧ ((tb + ((2 : Int32) * bs)) + bq) < (60 : Int32)) (j2_2 : ¬ ((tb + ((2 : Int32) * bs)) + ((2 : Int32) * bq)) < 0 ∧ ((tb + ((2 : Int32) * bs)) + ((2 : Int32) * bq)) < (60 : Int32)) (j2_3 : ¬ ((tb + ((2 : Int32) * bs)) + ((3 : Int32) * bq)) < 0 ∧ ((tb + ((2 : Int32) * bs)) + ((3 : Int32) * bq)) < (60 : Int32)) (j2_4 : ¬ ((tb + ((2 : Int32) * bs)) + ((4 : Int32) * bq)) < 0 ∧ ((tb + ((2 : Int32) * bs)) + ((4 : Int32) * bq)) < (60 : Int32)) (j2_5 : ¬ ((tb + ((2 : Int32) * bs)) + ((5 : Int32) * bq)) < 0 ∧ ((tb + ((2 : Int32) * bs)) + ((5 : Int32) * bq)) < (60 : Int32)) (j2_6 : ¬ ((tb + ((2 : Int32) * bs)) + ((6 : Int32) * bq)) < 0 ∧ ((tb + ((2 : Int32) * bs)) + ((6 : Int32) * bq)) < (60 : Int32)) (j2_7 : ¬ ((tb + ((2 : Int32) * bs)) + ((7 : Int32) * bq)) < 0 ∧ ((tb + ((2 : Int32) * bs)) + ((7 : Int32) * bq)) < (60 : Int32)) :
    MetFree l (⟨"com/example/indexica/indexica/ScaledSum", "eightRows", "([D[D[DIIIIII)V"⟩ : MethodName) (head1 (Jvm.Cond.code (⟨"com/example/indexica/indexica/ScaledSum", "eightRows", "([D[D[DIIIIII)V"⟩ : MethodName) prog_85_method_3_code 17 none :: ws) ({ frames := 0, cells := 0, slots := 0, locals := 0 } : Room)) (fun aq Uq => aq = #[(.ref ks), (.ref aa), (.ref bb), (.ref rr), (.int ta), (.int rs), (.int tb), (.int bs), (.int bq), (.int (3 : Int32))] ∧ Z.Warmed39 Uq.vm ∧ Uq.heap = h0) (fun _ _ _ _ _ => True) (fun _ Uq oq Uq' => ∃ vq Lq, oq = .returned vq ∧ QrmE3 Z ks aa bb rr ta rs tb bs bq al be ua ub ur h0 n0 vq Uq'.heap Lq ∧ FrameEnd Uq oq Uq' Lq ({ frames := 0, cells := 0, slots := 0, locals := 0 } : Room).cells ({ frames := 0, cells := 0, slots := 0, locals := 0 } : Room).slots) := by
  refine MetFree.of_bodySF (plainFor_of_name pn_1) hisR ?_
  intro p e s m args below meth c s₁ Bd hml0 hP hK
  obtain ⟨rfl, hZ, hh⟩ := hP
  have hx := Bd.exec
  have hby := Bd.bytes
  have hml : c.maxLocals = 17 := hml0
  have hown : s.vm.findClass "com/example/indexica/indexica/ScaledSum" = some m.cls := findClass_of_methodNamed Bd.named
  have hnm := (name_of_methodNamed Bd.named Bd.method).1
  have X0 : Stand p l e ({ frames := 0, cells := 0, slots := 0, locals := 0 } : Room) s m #[(.ref ks), (.ref aa), (.ref bb), (.ref rr), (.int ta), (.int rs), (.int tb), (.int bs), (.int bq), (.int (3 : Int32))] below meth c s₁ [] 0 0 := Stand.of_body Bd
  have e0 : s₁.heap = h0 := by rw [← hh, Bd.state]; rfl
  have N0 := Fr.nil n0
  have ZH := Z0
  have KK := Keep.refl h0 [rr]
  refine own_start (fun t kq => castTop (ef_rmE3 m ks aa bb rr ta rs tb bs bq (3 : Int32)) kq) ?_
  show own_Go p.tables e below _ (s₁.setTop (mkF m 0 #[.val (.ref ks), .val (.ref aa), .val (.ref bb), .val (.ref rr), .val (.int ta), .val (.int rs), .val (.int tb), .val (.int bs), .val (.int bq), .val (.int (3 : Int32)), .unset, .unset, .unset, .unset, .unset, .unset, .unset] []))
  refine own_up (fun _ kq => XS.aloadN X0.here hx rfl (hb hby d4_0) rfl rfl kq) ?_
  show own_Go p.tables e below _ (s₁.setTop (mkF m 1 #[.val (.ref ks), .val (.ref aa), .val (.ref bb), .val (.ref rr), .val (.int ta), .val (.int rs), .val (.int tb), .val (.int bs), .val (.int bq), .val (.int (3 : Int32)), .unset, .unset, .unset, .unset, .unset, .unset, .unset] [(.ref ks)]))
  obtain ⟨T1, X1, e1, st1⟩ := getF X0 hx hZ hown (host := "") (Or.inl (hw _ (List.mem_of_getElem? (i := 122) rfl))) Via.refl e0 Fal (g := (mkF m 1 #[.val (.ref ks), .val (.ref aa), .val (.ref bb), .val (.ref rr), .val (.int ta), .val (.int rs), .val (.int tb), .val (.int bs), .val (.int bq), .val (.int (3 : Int32)), .unset, .unset, .unset, .unset, .unset, .unset, .unset] [(.ref ks)])) rfl rfl (hb hby d4_1)
  refine own_up st1 ?_
  show own_Go p.tables e below _ (T1.setTop (mkF m 4 #[.val (.ref ks), .val (.ref aa), .val (.ref bb), .val (.ref rr), .val (.int ta), .val (.int rs), .val (.int tb), .val (.int bs), .val (.int bq), .val (.int (3 : Int32)), .unset, .unset, .unset, .unset, .unset, .unset, .unset] [(.double al)]))
  refine own_up (fun _ kq => XS.dstore X1.here hx rfl (hb hby d4_4) rfl (l' := #[.val (.ref ks), .val (.ref aa), .val (.ref bb), .val (.ref rr), .val (.int ta), .val (.int rs), .val (.int tb), .val (.int bs), .val (.int bq), .val (.int (3 : Int32)), .val (.double al), .second, .unset, .unset, .unset, .unset, .unset]) rfl kq) ?_
  show own_Go p.tables e below _ (T1.setTop (mkF m 6 #[.val (.ref ks), .val (.ref aa), .val (.ref bb), .val (.ref rr), .val (.int ta), .val (.int rs), .val (.int tb), .val (.int bs), .val (.int bq), .val (.int (3 : Int32)), .val (.double al), .second, .unset, .unset, .unset, .unset, .unset] []))
  refine own_up (fun _ kq => XS.aloadN X1.here hx rfl (hb hby d4_6) rfl rfl kq) ?_
  show own_Go p.tables e below _ (T1.setTop (mkF m 7 #[.val (.ref ks), .val (.ref aa), .val (.ref bb), .val (.ref rr), .val (.int ta), .val (.int rs), .val (.int tb), .val (.int bs), .val (.int bq), .val (.int (3 : Int32)), .val (.double al), .second, .unset, .unset, .unset, .unset, .unset] [(.ref ks)]))
  obtain ⟨T2, X2, e2, st2⟩ := getF X1 hx hZ hown (host := "") (Or.inl (hw _ (List.mem_of_getElem? (i := 124) rfl))) Via.refl e1 Fbe (g := (mkF m 7 #[.val (.ref ks), .val (.ref aa), .val (.ref bb), .val (.ref rr), .val (.int ta), .val (.int rs), .val (.int tb), .val (.int bs), .val (.int bq), .val (.int (3 : Int32)), .val (.double al), .second, .unset, .unset, .unset, .unset, .unset] [(.ref ks)])) rfl rfl (hb hby d4_7)
  refine own_up st2 ?_
  show own_Go p.tables e below _ (T2.setTop (mkF m 10 #[.val (.ref ks), .val (.ref aa), .val (.ref bb), .val (.ref rr), .val (.int ta), .val (.int rs), .val (.int tb), .val (.int bs), .val (.int bq), .val (.int (3 : Int32)), .val (.double al), .second, .unset, .unset, .unset, .unset, .unset] [(.double be)]))
  refine own_up (fun _ kq => XS.dstore X2.here hx rfl (hb hby d4_10) rfl (l' := #[.val (.ref ks), .val (.ref aa), .val (.ref bb), .val (.ref rr), .val (.int ta), .val (.int rs), .val (.int tb), .val (.int bs), .val (.int bq), .val (.int (3 : Int32)), .val (.double al), .second, .val (.double be), .second, .unset, .unset, .unset]) rfl kq) ?_
  show own_Go p.tables e below _ (T2.setTop (mkF m 12 #[.val (.ref ks), .val (.ref aa), .val (.ref bb), .val (.ref rr), .val (.int ta), .val (.int rs), .val (.int tb), .val (.int bs), .val (.int bq), .val (.int (3 : Int32)), .val (.double al), .second, .val (.double be), .second, .unset, .unset, .unset] []))
  refine own_up (fun _ kq => XS.iconst X2.here hx rfl (hb hby d4_12) kq) ?_
  show own_Go p.tables e below _ (T2.setTop (mkF m 13 #[.val (.ref ks), .val (.ref aa), .val (.ref bb), .val (.ref rr), .val (.int ta), .val (.int rs), .val (.int tb), .val (.int bs), .val (.int bq), .val (.int (3 : Int32)), .val (.double al), .second, .val (.double be), .second, .unset, .unset, .unset] [(.int (0 : Int32))]))
  refine own_up (fun _ kq => XS.istore X2.here hx rfl (hb hby d4_13) rfl (l' := #[.val (.ref ks), .val (.ref aa), .val (.ref bb), .val (.ref rr), .val (.int ta), .val (.int rs), .val (.int tb), .val (.int bs), .val (.int bq), .val (.int (3 : Int32)), .val (.double al), .second, .val (.double be), .second, .val (.int (0 : Int32)), .unset, .unset]) rfl kq) ?_
  show own_Go p.tables e below _ (T2.setTop (mkF m 15 #[.val (.ref ks), .val (.ref aa), .val (.ref bb), .val (.ref rr), .val (.int ta), .val (.int rs), .val (.int tb), .val (.int bs), .val (.int bq), .val (.int (3 : Int32)), .val (.double al), .second, .val (.double be), .second, .val (.int (0 : Int32)), .unset, .unset] []))
  refine tnE (x := (ta + (0 : Int32))) (y := (tb + ((0 : Int32) * bs))) X2 hx hZ hw hby hml hown e2 N0 ZH G_aa G_bb G_rr g_rr ne_aa_rr ne_bb_rr One.u One.u (by decide) rfl rfl hal hua hmb i0_0 i0_1 i0_2 i0_3 i0_4 i0_5 i0_6 i0_7 j0_0 j0_1 j0_2 j0_3 j0_4 j0_5 j0_6 j0_7 (fun T3 h3 locs3 X3 e3 N3 K3 G_aa G_bb G_rr => ?_)
  have ZH := Nat.le_trans ZH K3.1
  have KK := KK.trans K3 (allS (Or.inl (List.mem_of_getElem? (i := 0) rfl)) all0)
  show own_Go p.tables e below _ (T3.setTop (mkF m 15 #[.val (.ref ks), .val (.ref aa), .val (.ref bb), .val (.ref rr), .val (.int ta), .val (.int rs), .val (.int tb), .val (.int bs), .val (.int bq), .val (.int (3 : Int32)), .val (.double al), .second, .val (.double be), .second, .val (.int (1 : Int32)), .val (.int (ta + (0 : Int32))), .val (.int (tb + ((0 : Int32) * bs)))] []))
  refine tnE (x := (ta + (1 : Int32))) (y := (tb + ((1 : Int32) * bs))) X3 hx hZ hw hby hml hown e3 N3 ZH G_aa G_bb G_rr g_rr ne_aa_rr ne_bb_rr (One.val rfl) (One.val rfl) (by decide) rfl rfl hal hua hmb i1_0 i1_1 i1_2 i1_3 i1_4 i1_5 i1_6 i1_7 j1_0 j1_1 j1_2 j1_3 j1_4 j1_5 j1_6 j1_7 (fun T4 h4 locs4 X4 e4 N4 K4 G_aa G_bb G_rr => ?_)
  have ZH := Nat.le_trans ZH K4.1
  have KK := KK.trans K4 (allS (Or.inl (List.mem_of_getElem? (i := 0) rfl)) all0)
  show own_Go p.tables e below _ (T4.setTop (mkF m 15 #[.val (.ref ks), .val (.ref aa), .val (.ref bb), .val (.ref rr), .val (.int ta), .val (.int rs), .val (.int tb), .val (.int bs), .val (.int bq), .val (.int (3 : Int32)), .val (.double al), .second, .val (.double be), .second, .val (.int (2 : Int32)), .val (.int (ta + (1 : Int32))), .val (.int (tb + ((1 : Int32) * bs)))] []))
  refine tnE (x := (ta + (2 : Int32))) (y := (tb + ((2 : Int32) * bs))) X4 hx hZ hw hby hml hown e4 N4 ZH G_aa G_bb G_rr g_rr ne_aa_rr ne_bb_rr (One.val rfl) (One.val rfl) (by decide) rfl rfl hal hua hmb i2_0 i2_1 i2_2 i2_3 i2_4 i2_5 i2_6 i2_7 j2_0 j2_1 j2_2 j2_3 j2_4 j2_5 j2_6 j2_7 (fun T5 h5 locs5 X5 e5 N5 K5 G_aa G_bb G_rr => ?_)
  have ZH := Nat.le_trans ZH K5.1
  have KK := KK.trans K5 (allS (Or.inl (List.mem_of_getElem? (i := 0) rfl)) all0)
  show own_Go p.tables e below _ (T5.setTop (mkF m 15 #[.val (.ref ks), .val (.ref aa), .val (.ref bb), .val (.ref rr), .val (.int ta), .val (.int rs), .val (.int tb), .val (.int bs), .val (.int bq), .val (.int (3 : Int32)), .val (.double al), .second, .val (.double be), .second, .val (.int (3 : Int32)), .val (.int (ta + (2 : Int32))), .val (.int (tb + ((2 : Int32) * bs)))] []))
  refine own_up (fun _ kq => XS.iload X5.here hx rfl (hb hby d4_15) rfl kq) ?_
  show own_Go p.tables e below _ (T5.setTop (mkF m 17 #[.val (.ref ks), .val (.ref aa), .val (.ref bb), .val (.ref rr), .val (.int ta), .val (.int rs), .val (.int tb), .val (.int bs), .val (.int bq), .val (.int (3 : Int32)), .val (.double al), .second, .val (.double be), .second, .val (.int (3 : Int32)), .val (.int (ta + (2 : Int32))), .val (.int (tb + ((2 : Int32) * bs)))] [(.int (3 : Int32))]))
  refine own_up (fun _ kq => XS.iload X5.here hx rfl (hb hby d4_17) rfl kq) ?_
  show own_Go p.tables e below _ (T5.setTop (mkF m 19 #[.val (.ref ks), .val (.ref aa), .val (.ref bb), .val (.ref rr), .val (.int ta), .val (.int rs), .val (.int tb), .val (.int bs), .val (.int bq), .val (.int (3 : Int32)), .val (.double al), .second, .val (.double be), .second, .val (.int (3 : Int32)), .val (.int (ta + (2 : Int32))), .val (.int (tb + ((2 : Int32) * bs)))] [(.int (3 : Int32)), (.int (3 : Int32))]))
  refine own_up (fun _ kq => XS.icmpYes X5.here hx rfl (pc0 := 19) (pc' := 302) rfl (hb hby d4_19) rfl (flt (by decide : ¬ ((3 : Int32) < (3 : Int32)))).2.1 (by decide) (by decide) kq) ?_
  show own_Go p.tables e below _ (T5.setTop (mkF m 302 #[.val (.ref ks), .val (.ref aa), .val (.ref bb), .val (.ref rr), .val (.int ta), .val (.int rs), .val (.int tb), .val (.int bs), .val (.int bq), .val (.int (3 : Int32)), .val (.double al), .second, .val (.double be), .second, .val (.int (3 : Int32)), .val (.int (ta + (2 : Int32))), .val (.int (tb + ((2 : Int32) * bs)))] []))
  obtain ⟨fs6, hr6, hrun6, hended6, hW6, hsame6⟩ := X5.leave (v := none) (fun _ => rfl)
  refine own_end ⟨_, _, ?_, hrun6, hended6, _, _, rfl, ?_, ⟨_, rfl⟩, hW6, hsame6.mono (by decide) (by decide)⟩
  · exact X5.returnOut hx Bd.returns (hb hby d4_302) hr6
  · show QrmE3 Z ks aa bb rr ta rs tb bs bq al be ua ub ur h0 n0 _ T5.heap _
    rw [e5]
    exact ⟨rfl, N5, KK, G_rr⟩
theorem pn_2 : plainName "com/example/indexica/indexica/ScaledSumEightRowsPinLaw" = true := by first | (simp [plainName, overriddenIn]; done) | decide +kernel
theorem d6_0 : decode method_4_code 0 = .ok (.iload_n 1, 1) := by decide +kernel
theorem d6_1 : decode method_4_code 1 = .ok (.iload 4, 2) := by decide +kernel
theorem d6_3 : decode method_4_code 3 = .ok (.iadd, 1) := by decide +kernel
theorem d6_4 : decode method_4_code 4 = .ok (.iload_n 3, 1) := by decide +kernel
theorem d6_5 : decode method_4_code 5 = .ok (.iload_n 2, 1) := by decide +kernel
theorem d6_6 : decode method_4_code 6 = .ok (.imul, 1) := by decide +kernel
theorem d6_7 : decode method_4_code 7 = .ok (.iadd, 1) := by decide +kernel
theorem d6_8 : decode method_4_code 8 = .ok (.istore 13, 2) := by decide +kernel
theorem d6_10 : decode method_4_code 10 = .ok (.aload_n 0, 1) := by decide +kernel
theorem d6_11 : decode method_4_code 11 = .ok (.iload 13, 2) := by decide +kernel
theorem d6_13 : decode method_4_code 13 = .ok (.daload, 1) := by decide +kernel
theorem d6_14 : decode method_4_code 14 = .ok (.dstore 14, 2) := by decide +kernel
theorem d6_16 : decode method_4_code 16 = .ok (.iload 4, 2) := by decide +kernel
theorem d6_18 : decode method_4_code 18 = .ok (.iload 5, 2) := by decide +kernel
theorem d6_20 : decode method_4_code 20 = .ok (.if_icmp .lt 16, 3) := by decide +kernel
theorem d6_36 : decode method_4_code 36 = .ok (.iload 13, 2) := by decide +kernel
theorem d6_38 : decode method_4_code 38 = .ok (.iconst 1, 1) := by decide +kernel
theorem d6_39 : decode method_4_code 39 = .ok (.iadd, 1) := by decide +kernel
theorem d6_40 : decode method_4_code 40 = .ok (.i2l, 1) := by decide +kernel
theorem d6_41 : decode method_4_code 41 = .ok (.lstore 16, 2) := by decide +kernel
theorem d6_43 : decode method_4_code 43 = .ok (.bipush 100, 2) := by decide +kernel
theorem d6_45 : decode method_4_code 45 = .ok (.iload 10, 2) := by decide +kernel
theorem d6_47 : decode method_4_code 47 = .ok (.iload 4, 2) := by decide +kernel
theorem d6_49 : decode method_4_code 49 = .ok (.iload 11, 2) := by decide +kernel
theorem d6_51 : decode method_4_code 51 = .ok (.imul, 1) := by decide +kernel
theorem d6_52 : decode method_4_code 52 = .ok (.iadd, 1) := by decide +kernel
theorem d6_53 : decode method_4_code 53 = .ok (.iload_n 3, 1) := by decide +kernel
theorem d6_54 : decode method_4_code 54 = .ok (.iload 12, 2) := by decide +kernel
theorem d6_56 : decode method_4_code 56 = .ok (.imul, 1) := by decide +kernel
theorem d6_57 : decode method_4_code 57 = .ok (.iadd, 1) := by decide +kernel
theorem d6_58 : decode method_4_code 58 = .ok (.iadd, 1) := by decide +kernel
theorem d6_59 : decode method_4_code 59 = .ok (.i2l, 1) := by decide +kernel
theorem d6_60 : decode method_4_code 60 = .ok (.lstore 18, 2) := by decide +kernel
theorem d6_62 : decode method_4_code 62 = .ok (.dload 14, 2) := by decide +kernel
theorem d6_64 : decode method_4_code 64 = .ok (.lload 6, 2) := by decide +kernel
theorem d6_66 : decode method_4_code 66 = .ok (.lload 16, 2) := by decide +kernel
theorem d6_68 : decode method_4_code 68 = .ok (.lmul, 1) := by decide +kernel
theorem d6_69 : decode method_4_code 69 = .ok (.lload 8, 2) := by decide +kernel
theorem d6_71 : decode method_4_code 71 = .ok (.lload 18, 2) := by decide +kernel
theorem d6_73 : decode method_4_code 73 = .ok (.lmul, 1) := by decide +kernel
theorem d6_74 : decode method_4_code 74 = .ok (.ladd, 1) := by decide +kernel
theorem d6_75 : decode method_4_code 75 = .ok (.l2d, 1) := by decide +kernel
theorem d6_76 : decode method_4_code 76 = .ok (.dcmp .l, 1) := by decide +kernel
theorem d6_77 : decode method_4_code 77 = .ok (.ifCond .ne 7, 3) := by decide +kernel
theorem d6_80 : decode method_4_code 80 = .ok (.iconst 1, 1) := by decide +kernel
theorem d6_81 : decode method_4_code 81 = .ok (.goto 4, 3) := by decide +kernel
theorem d6_85 : decode method_4_code 85 = .ok (.ireturn, 1) := by decide +kernel
theorem d6_23 : decode method_4_code 23 = .ok (.dload 14, 2) := by decide +kernel
theorem d6_25 : decode method_4_code 25 = .ok (.dconst 0, 1) := by decide +kernel
theorem d6_26 : decode method_4_code 26 = .ok (.dcmp .l, 1) := by decide +kernel
theorem d6_27 : decode method_4_code 27 = .ok (.ifCond .ne 7, 3) := by decide +kernel
theorem d6_30 : decode method_4_code 30 = .ok (.iconst 1, 1) := by decide +kernel
theorem d6_31 : decode method_4_code 31 = .ok (.goto 4, 3) := by decide +kernel
theorem d6_35 : decode method_4_code 35 = .ok (.ireturn, 1) := by decide +kernel
theorem ef_rmZ (m : MethodId) (x0 : Addr) (x1 : Int32) (x2 : Int32) (x3 : Int32) (x4 : Int32) (x5 : Int32) (x6 : Int64) (x7 : Int64) (x8 : Int32) (x9 : Int32) (x10 : Int32) : entryFrame m #[(.ref x0), (.int x1), (.int x2), (.int x3), (.int x4), (.int x5), (.long x6), (.long x7), (.int x8), (.int x9), (.int x10)] 20 = mkF m 0 #[.val (.ref x0), .val (.int x1), .val (.int x2), .val (.int x3), .val (.int x4), .val (.int x5), .val (.long x6), .second, .val (.long x7), .second, .val (.int x8), .val (.int x9), .val (.int x10), .unset, .unset, .unset, .unset, .unset, .unset, .unset] [] := by first | (simp [entryFrame, mkF, argsToLocals, Value.category]; done) | rfl
def QrmZ (Z : State) (rr : Addr) (ta : Int32) (rs : Int32) (r : Int32) (vv : Int32) (cn : Int32) (A : Int64) (B : Int64) (tb : Int32) (bs : Int32) (bq : Int32) (uu : Nat → UInt64) (h0 : Heap) (n0 : Nat) (v : Option Value) (h : Heap) (L : List Loc) : Prop := v = some (.int 1) ∧ Fr n0 L ∧ h = h0
set_option maxRecDepth 65536 in
set_option maxHeartbeats 40000000 in
theorem rmZ (l : Launch) (Z : State) (a0 : Array Value) (hw : ∀ d ∈ tables_1, d.before a0 Z = true) (ws : List Jvm.Cond) (rr : Addr) (ta : Int32) (rs : Int32) (r : Int32) (vv : Int32) (cn : Int32) (A : Int64) (B : Int64) (tb : Int32) (bs : Int32) (bq : Int32) (uu : Nat → UInt64) (h0 : Heap) (n0 : Nat) (Z0 : n0 ≤ h0.size) (G_rr : own_Arf Z h0 rr .double (48 : Int32) (fun i => .double (uu i))) (ok : own_Ok uu ta rs r vv cn A B tb bs bq) :
    MetFree l (⟨"com/example/indexica/indexica/ScaledSumEightRowsPinLaw", "cell", "([DIIIIIJJIII)Z"⟩ : MethodName) (head1 (Jvm.Cond.code (⟨"com/example/indexica/indexica/ScaledSumEightRowsPinLaw", "cell", "([DIIIIIJJIII)Z"⟩ : MethodName) method_4_code 20 (some .boolean) :: ws) ({ frames := 0, cells := 0, slots := 0, locals := 0 } : Room)) (fun aq Uq => aq = #[(.ref rr), (.int ta), (.int rs), (.int r), (.int vv), (.int cn), (.long A), (.long B), (.int tb), (.int bs), (.int bq)] ∧ Z.Warmed39 Uq.vm ∧ Uq.heap = h0) (fun _ _ _ _ _ => True) (fun _ Uq oq Uq' => ∃ vq Lq, oq = .returned vq ∧ QrmZ Z rr ta rs r vv cn A B tb bs bq uu h0 n0 vq Uq'.heap Lq ∧ FrameEnd Uq oq Uq' Lq ({ frames := 0, cells := 0, slots := 0, locals := 0 } : Room).cells ({ frames := 0, cells := 0, slots := 0, locals := 0 } : Room).slots) := by
  refine MetFree.of_bodySF (plainFor_of_name pn_2) hisR ?_
  intro p e s m args below meth c s₁ Bd hml0 hP hK
  obtain ⟨rfl, hZ, hh⟩ := hP
  have hx := Bd.exec
  have hby := Bd.bytes
  have hml : c.maxLocals = 20 := hml0
  have hown : s.vm.findClass "com/example/indexica/indexica/ScaledSumEightRowsPinLaw" = some m.cls := findClass_of_methodNamed Bd.named
  have hnm := (name_of_methodNamed Bd.named Bd.method).1
  have X0 : Stand p l e ({ frames := 0, cells := 0, slots := 0, locals := 0 } : Room) s m #[(.ref rr), (.int ta), (.int rs), (.int r), (.int vv), (.int cn), (.long A), (.long B), (.int tb), (.int bs), (.int bq)] below meth c s₁ [] 0 0 := Stand.of_body Bd
  have e0 : s₁.heap = h0 := by rw [← hh, Bd.state]; rfl
  have N0 := Fr.nil n0
  have ZH := Z0
  have KK := Keep.refl h0 []
  refine own_start (fun t kq => castTop (ef_rmZ m rr ta rs r vv cn A B tb bs bq) kq) ?_
  show own_Go p.tables e below _ (s₁.setTop (mkF m 0 #[.val (.ref rr), .val (.int ta), .val (.int rs), .val (.int r), .val (.int vv), .val (.int cn), .val (.long A), .second, .val (.long B), .second, .val (.int tb), .val (.int bs), .val (.int bq), .unset, .unset, .unset, .unset, .unset, .unset, .unset] []))
  refine own_up (fun _ kq => XS.iloadN X0.here hx rfl (hb hby d6_0) rfl kq) ?_
  show own_Go p.tables e below _ (s₁.setTop (mkF m 1 #[.val (.ref rr), .val (.int ta), .val (.int rs), .val (.int r), .val (.int vv), .val (.int cn), .val (.long A), .second, .val (.long B), .second, .val (.int tb), .val (.int bs), .val (.int bq), .unset, .unset, .unset, .unset, .unset, .unset, .unset] [(.int ta)]))
  refine own_up (fun _ kq => XS.iload X0.here hx rfl (hb hby d6_1) rfl kq) ?_
  show own_Go p.tables e below _ (s₁.setTop (mkF m 3 #[.val (.ref rr), .val (.int ta), .val (.int rs), .val (.int r), .val (.int vv), .val (.int cn), .val (.long A), .second, .val (.long B), .second, .val (.int tb), .val (.int bs), .val (.int bq), .unset, .unset, .unset, .unset, .unset, .unset, .unset] [(.int vv), (.int ta)]))
  refine own_up (fun _ kq => XS.iadd X0.here hx rfl (hb hby d6_3) rfl kq) ?_
  show own_Go p.tables e below _ (s₁.setTop (mkF m 4 #[.val (.ref rr), .val (.int ta), .val (.int rs), .val (.int r), .val (.int vv), .val (.int cn), .val (.long A), .second, .val (.long B), .second, .val (.int tb), .val (.int bs), .val (.int bq), .unset, .unset, .unset, .unset, .unset, .unset, .unset] [(.int (ta + vv))]))
  refine own_up (fun _ kq => XS.iloadN X0.here hx rfl (hb hby d6_4) rfl kq) ?_
  show own_Go p.tables e below _ (s₁.setTop (mkF m 5 #[.val (.ref rr), .val (.int ta), .val (.int rs), .val (.int r), .val (.int vv), .val (.int cn), .val (.long A), .second, .val (.long B), .second, .val (.int tb), .val (.int bs), .val (.int bq), .unset, .unset, .unset, .unset, .unset, .unset, .unset] [(.int r), (.int (ta + vv))]))
  refine own_up (fun _ kq => XS.iloadN X0.here hx rfl (hb hby d6_5) rfl kq) ?_
  show own_Go p.tables e below _ (s₁.setTop (mkF m 6 #[.val (.ref rr), .val (.int ta), .val (.int rs), .val (.int r), .val (.int vv), .val (.int cn), .val (.long A), .second, .val (.long B), .second, .val (.int tb), .val (.int bs), .val (.int bq), .unset, .unset, .unset, .unset, .unset, .unset, .unset] [(.int rs), (.int r), (.int (ta + vv))]))
  refine own_up (fun _ kq => XS.imul X0.here hx rfl (hb hby d6_6) rfl kq) ?_
  show own_Go p.tables e below _ (s₁.setTop (mkF m 7 #[.val (.ref rr), .val (.int ta), .val (.int rs), .val (.int r), .val (.int vv), .val (.int cn), .val (.long A), .second, .val (.long B), .second, .val (.int tb), .val (.int bs), .val (.int bq), .unset, .unset, .unset, .unset, .unset, .unset, .unset] [(.int (r * rs)), (.int (ta + vv))]))
  refine own_up (fun _ kq => XS.iadd X0.here hx rfl (hb hby d6_7) rfl kq) ?_
  show own_Go p.tables e below _ (s₁.setTop (mkF m 8 #[.val (.ref rr), .val (.int ta), .val (.int rs), .val (.int r), .val (.int vv), .val (.int cn), .val (.long A), .second, .val (.long B), .second, .val (.int tb), .val (.int bs), .val (.int bq), .unset, .unset, .unset, .unset, .unset, .unset, .unset] [(.int ((ta + vv) + (r * rs)))]))
  refine own_up (fun _ kq => XS.istore X0.here hx rfl (hb hby d6_8) rfl (l' := #[.val (.ref rr), .val (.int ta), .val (.int rs), .val (.int r), .val (.int vv), .val (.int cn), .val (.long A), .second, .val (.long B), .second, .val (.int tb), .val (.int bs), .val (.int bq), .val (.int ((ta + vv) + (r * rs))), .unset, .unset, .unset, .unset, .unset, .unset]) rfl kq) ?_
  show own_Go p.tables e below _ (s₁.setTop (mkF m 10 #[.val (.ref rr), .val (.int ta), .val (.int rs), .val (.int r), .val (.int vv), .val (.int cn), .val (.long A), .second, .val (.long B), .second, .val (.int tb), .val (.int bs), .val (.int bq), .val (.int ((ta + vv) + (r * rs))), .unset, .unset, .unset, .unset, .unset, .unset] []))
  refine own_up (fun _ kq => XS.aloadN X0.here hx rfl (hb hby d6_10) rfl rfl kq) ?_
  show own_Go p.tables e below _ (s₁.setTop (mkF m 11 #[.val (.ref rr), .val (.int ta), .val (.int rs), .val (.int r), .val (.int vv), .val (.int cn), .val (.long A), .second, .val (.long B), .second, .val (.int tb), .val (.int bs), .val (.int bq), .val (.int ((ta + vv) + (r * rs))), .unset, .unset, .unset, .unset, .unset, .unset] [(.ref rr)]))
  refine own_up (fun _ kq => XS.iload X0.here hx rfl (hb hby d6_11) rfl kq) ?_
  show own_Go p.tables e below _ (s₁.setTop (mkF m 13 #[.val (.ref rr), .val (.int ta), .val (.int rs), .val (.int r), .val (.int vv), .val (.int cn), .val (.long A), .second, .val (.long B), .second, .val (.int tb), .val (.int bs), .val (.int bq), .val (.int ((ta + vv) + (r * rs))), .unset, .unset, .unset, .unset, .unset, .unset] [(.int ((ta + vv) + (r * rs))), (.ref rr)]))
  refine own_up (fun _ kq => own_Arf.daload G_rr X0 hx hZ e0 ok.1.1 ok.1.2 (v := (.double (uu (((ta + vv) + (r * rs))).toNatClampNeg))) rfl (g := (mkF m 13 #[.val (.ref rr), .val (.int ta), .val (.int rs), .val (.int r), .val (.int vv), .val (.int cn), .val (.long A), .second, .val (.long B), .second, .val (.int tb), .val (.int bs), .val (.int bq), .val (.int ((ta + vv) + (r * rs))), .unset, .unset, .unset, .unset, .unset, .unset] [(.int ((ta + vv) + (r * rs))), (.ref rr)])) rfl rfl (hb hby d6_13) _ kq) ?_
  show own_Go p.tables e below _ (s₁.setTop (mkF m 14 #[.val (.ref rr), .val (.int ta), .val (.int rs), .val (.int r), .val (.int vv), .val (.int cn), .val (.long A), .second, .val (.long B), .second, .val (.int tb), .val (.int bs), .val (.int bq), .val (.int ((ta + vv) + (r * rs))), .unset, .unset, .unset, .unset, .unset, .unset] [(.double (uu (((ta + vv) + (r * rs))).toNatClampNeg))]))
  refine own_up (fun _ kq => XS.dstore X0.here hx rfl (hb hby d6_14) rfl (l' := #[.val (.ref rr), .val (.int ta), .val (.int rs), .val (.int r), .val (.int vv), .val (.int cn), .val (.long A), .second, .val (.long B), .second, .val (.int tb), .val (.int bs), .val (.int bq), .val (.int ((ta + vv) + (r * rs))), .val (.double (uu (((ta + vv) + (r * rs))).toNatClampNeg)), .second, .unset, .unset, .unset, .unset]) rfl kq) ?_
  show own_Go p.tables e below _ (s₁.setTop (mkF m 16 #[.val (.ref rr), .val (.int ta), .val (.int rs), .val (.int r), .val (.int vv), .val (.int cn), .val (.long A), .second, .val (.long B), .second, .val (.int tb), .val (.int bs), .val (.int bq), .val (.int ((ta + vv) + (r * rs))), .val (.double (uu (((ta + vv) + (r * rs))).toNatClampNeg)), .second, .unset, .unset, .unset, .unset] []))
  refine own_up (fun _ kq => XS.iload X0.here hx rfl (hb hby d6_16) rfl kq) ?_
  show own_Go p.tables e below _ (s₁.setTop (mkF m 18 #[.val (.ref rr), .val (.int ta), .val (.int rs), .val (.int r), .val (.int vv), .val (.int cn), .val (.long A), .second, .val (.long B), .second, .val (.int tb), .val (.int bs), .val (.int bq), .val (.int ((ta + vv) + (r * rs))), .val (.double (uu (((ta + vv) + (r * rs))).toNatClampNeg)), .second, .unset, .unset, .unset, .unset] [(.int vv)]))
  refine own_up (fun _ kq => XS.iload X0.here hx rfl (hb hby d6_18) rfl kq) ?_
  show own_Go p.tables e below _ (s₁.setTop (mkF m 20 #[.val (.ref rr), .val (.int ta), .val (.int rs), .val (.int r), .val (.int vv), .val (.int cn), .val (.long A), .second, .val (.long B), .second, .val (.int tb), .val (.int bs), .val (.int bq), .val (.int ((ta + vv) + (r * rs))), .val (.double (uu (((ta + vv) + (r * rs))).toNatClampNeg)), .second, .unset, .unset, .unset, .unset] [(.int cn), (.int vv)]))
  by_cases hc20 : vv < cn
  · refine own_up (fun _ kq => XS.icmpYes X0.here hx rfl (pc0 := 20) (pc' := 36) rfl (hb hby d6_20) rfl (tlt hc20).1 (by decide) (by decide) kq) ?_
    show own_Go p.tables e below _ (s₁.setTop (mkF m 36 #[.val (.ref rr), .val (.int ta), .val (.int rs), .val (.int r), .val (.int vv), .val (.int cn), .val (.long A), .second, .val (.long B), .second, .val (.int tb), .val (.int bs), .val (.int bq), .val (.int ((ta + vv) + (r * rs))), .val (.double (uu (((ta + vv) + (r * rs))).toNatClampNeg)), .second, .unset, .unset, .unset, .unset] []))
    refine own_up (fun _ kq => XS.iload X0.here hx rfl (hb hby d6_36) rfl kq) ?_
    show own_Go p.tables e below _ (s₁.setTop (mkF m 38 #[.val (.ref rr), .val (.int ta), .val (.int rs), .val (.int r), .val (.int vv), .val (.int cn), .val (.long A), .second, .val (.long B), .second, .val (.int tb), .val (.int bs), .val (.int bq), .val (.int ((ta + vv) + (r * rs))), .val (.double (uu (((ta + vv) + (r * rs))).toNatClampNeg)), .second, .unset, .unset, .unset, .unset] [(.int ((ta + vv) + (r * rs)))]))
    refine own_up (fun _ kq => XS.iconst X0.here hx rfl (hb hby d6_38) kq) ?_
    show own_Go p.tables e below _ (s₁.setTop (mkF m 39 #[.val (.ref rr), .val (.int ta), .val (.int rs), .val (.int r), .val (.int vv), .val (.int cn), .val (.long A), .second, .val (.long B), .second, .val (.int tb), .val (.int bs), .val (.int bq), .val (.int ((ta + vv) + (r * rs))), .val (.double (uu (((ta + vv) + (r * rs))).toNatClampNeg)), .second, .unset, .unset, .unset, .unset] [(.int (1 : Int32)), (.int ((ta + vv) + (r * rs)))]))
    refine own_up (fun _ kq => XS.iadd X0.here hx rfl (hb hby d6_39) rfl kq) ?_
    show own_Go p.tables e below _ (s₁.setTop (mkF m 40 #[.val (.ref rr), .val (.int ta), .val (.int rs), .val (.int r), .val (.int vv), .val (.int cn), .val (.long A), .second, .val (.long B), .second, .val (.int tb), .val (.int bs), .val (.int bq), .val (.int ((ta + vv) + (r * rs))), .val (.double (uu (((ta + vv) + (r * rs))).toNatClampNeg)), .second, .unset, .unset, .unset, .unset] [(.int (((ta + vv) + (r * rs)) + (1 : Int32)))]))
    refine own_up (fun _ kq => XS.i2l X0.here hx rfl (hb hby d6_40) rfl kq) ?_
    show own_Go p.tables e below _ (s₁.setTop (mkF m 41 #[.val (.ref rr), .val (.int ta), .val (.int rs), .val (.int r), .val (.int vv), .val (.int cn), .val (.long A), .second, .val (.long B), .second, .val (.int tb), .val (.int bs), .val (.int bq), .val (.int ((ta + vv) + (r * rs))), .val (.double (uu (((ta + vv) + (r * rs))).toNatClampNeg)), .second, .unset, .unset, .unset, .unset] [(.long (((ta + vv) + (r * rs)) + (1 : Int32)).toInt64)]))
    refine own_up (fun _ kq => XS.lstore X0.here hx rfl (hb hby d6_41) rfl (l' := #[.val (.ref rr), .val (.int ta), .val (.int rs), .val (.int r), .val (.int vv), .val (.int cn), .val (.long A), .second, .val (.long B), .second, .val (.int tb), .val (.int bs), .val (.int bq), .val (.int ((ta + vv) + (r * rs))), .val (.double (uu (((ta + vv) + (r * rs))).toNatClampNeg)), .second, .val (.long (((ta + vv) + (r * rs)) + (1 : Int32)).toInt64), .second, .unset, .unset]) rfl kq) ?_
    show own_Go p.tables e below _ (s₁.setTop (mkF m 43 #[.val (.ref rr), .val (.int ta), .val (.int rs), .val (.int r), .val (.int vv), .val (.int cn), .val (.long A), .second, .val (.long B), .second, .val (.int tb), .val (.int bs), .val (.int bq), .val (.int ((ta + vv) + (r * rs))), .val (.double (uu (((ta + vv) + (r * rs))).toNatClampNeg)), .second, .val (.long (((ta + vv) + (r * rs)) + (1 : Int32)).toInt64), .second, .unset, .unset] []))
    refine own_up (fun _ kq => XS.bipush X0.here hx rfl (hb hby d6_43) kq) ?_
    show own_Go p.tables e below _ (s₁.setTop (mkF m 45 #[.val (.ref rr), .val (.int ta), .val (.int rs), .val (.int r), .val (.int vv), .val (.int cn), .val (.long A), .second, .val (.long B), .second, .val (.int tb), .val (.int bs), .val (.int bq), .val (.int ((ta + vv) + (r * rs))), .val (.double (uu (((ta + vv) + (r * rs))).toNatClampNeg)), .second, .val (.long (((ta + vv) + (r * rs)) + (1 : Int32)).toInt64), .second, .unset, .unset] [(.int (100 : Int32))]))
    refine own_up (fun _ kq => XS.iload X0.here hx rfl (hb hby d6_45) rfl kq) ?_
    show own_Go p.tables e below _ (s₁.setTop (mkF m 47 #[.val (.ref rr), .val (.int ta), .val (.int rs), .val (.int r), .val (.int vv), .val (.int cn), .val (.long A), .second, .val (.long B), .second, .val (.int tb), .val (.int bs), .val (.int bq), .val (.int ((ta + vv) + (r * rs))), .val (.double (uu (((ta + vv) + (r * rs))).toNatClampNeg)), .second, .val (.long (((ta + vv) + (r * rs)) + (1 : Int32)).toInt64), .second, .unset, .unset] [(.int tb), (.int (100 : Int32))]))
    refine own_up (fun _ kq => XS.iload X0.here hx rfl (hb hby d6_47) rfl kq) ?_
    show own_Go p.tables e below _ (s₁.setTop (mkF m 49 #[.val (.ref rr), .val (.int ta), .val (.int rs), .val (.int r), .val (.int vv), .val (.int cn), .val (.long A), .second, .val (.long B), .second, .val (.int tb), .val (.int bs), .val (.int bq), .val (.int ((ta + vv) + (r * rs))), .val (.double (uu (((ta + vv) + (r * rs))).toNatClampNeg)), .second, .val (.long (((ta + vv) + (r * rs)) + (1 : Int32)).toInt64), .second, .unset, .unset] [(.int vv), (.int tb), (.int (100 : Int32))]))
    refine own_up (fun _ kq => XS.iload X0.here hx rfl (hb hby d6_49) rfl kq) ?_
    show own_Go p.tables e below _ (s₁.setTop (mkF m 51 #[.val (.ref rr), .val (.int ta), .val (.int rs), .val (.int r), .val (.int vv), .val (.int cn), .val (.long A), .second, .val (.long B), .second, .val (.int tb), .val (.int bs), .val (.int bq), .val (.int ((ta + vv) + (r * rs))), .val (.double (uu (((ta + vv) + (r * rs))).toNatClampNeg)), .second, .val (.long (((ta + vv) + (r * rs)) + (1 : Int32)).toInt64), .second, .unset, .unset] [(.int bs), (.int vv), (.int tb), (.int (100 : Int32))]))
    refine own_up (fun _ kq => XS.imul X0.here hx rfl (hb hby d6_51) rfl kq) ?_
    show own_Go p.tables e below _ (s₁.setTop (mkF m 52 #[.val (.ref rr), .val (.int ta), .val (.int rs), .val (.int r), .val (.int vv), .val (.int cn), .val (.long A), .second, .val (.long B), .second, .val (.int tb), .val (.int bs), .val (.int bq), .val (.int ((ta + vv) + (r * rs))), .val (.double (uu (((ta + vv) + (r * rs))).toNatClampNeg)), .second, .val (.long (((ta + vv) + (r * rs)) + (1 : Int32)).toInt64), .second, .unset, .unset] [(.int (vv * bs)), (.int tb), (.int (100 : Int32))]))
    refine own_up (fun _ kq => XS.iadd X0.here hx rfl (hb hby d6_52) rfl kq) ?_
    show own_Go p.tables e below _ (s₁.setTop (mkF m 53 #[.val (.ref rr), .val (.int ta), .val (.int rs), .val (.int r), .val (.int vv), .val (.int cn), .val (.long A), .second, .val (.long B), .second, .val (.int tb), .val (.int bs), .val (.int bq), .val (.int ((ta + vv) + (r * rs))), .val (.double (uu (((ta + vv) + (r * rs))).toNatClampNeg)), .second, .val (.long (((ta + vv) + (r * rs)) + (1 : Int32)).toInt64), .second, .unset, .unset] [(.int (tb + (vv * bs))), (.int (100 : Int32))]))
    refine own_up (fun _ kq => XS.iloadN X0.here hx rfl (hb hby d6_53) rfl kq) ?_
    show own_Go p.tables e below _ (s₁.setTop (mkF m 54 #[.val (.ref rr), .val (.int ta), .val (.int rs), .val (.int r), .val (.int vv), .val (.int cn), .val (.long A), .second, .val (.long B), .second, .val (.int tb), .val (.int bs), .val (.int bq), .val (.int ((ta + vv) + (r * rs))), .val (.double (uu (((ta + vv) + (r * rs))).toNatClampNeg)), .second, .val (.long (((ta + vv) + (r * rs)) + (1 : Int32)).toInt64), .second, .unset, .unset] [(.int r), (.int (tb + (vv * bs))), (.int (100 : Int32))]))
    refine own_up (fun _ kq => XS.iload X0.here hx rfl (hb hby d6_54) rfl kq) ?_
    show own_Go p.tables e below _ (s₁.setTop (mkF m 56 #[.val (.ref rr), .val (.int ta), .val (.int rs), .val (.int r), .val (.int vv), .val (.int cn), .val (.long A), .second, .val (.long B), .second, .val (.int tb), .val (.int bs), .val (.int bq), .val (.int ((ta + vv) + (r * rs))), .val (.double (uu (((ta + vv) + (r * rs))).toNatClampNeg)), .second, .val (.long (((ta + vv) + (r * rs)) + (1 : Int32)).toInt64), .second, .unset, .unset] [(.int bq), (.int r), (.int (tb + (vv * bs))), (.int (100 : Int32))]))
    refine own_up (fun _ kq => XS.imul X0.here hx rfl (hb hby d6_56) rfl kq) ?_
    show own_Go p.tables e below _ (s₁.setTop (mkF m 57 #[.val (.ref rr), .val (.int ta), .val (.int rs), .val (.int r), .val (.int vv), .val (.int cn), .val (.long A), .second, .val (.long B), .second, .val (.int tb), .val (.int bs), .val (.int bq), .val (.int ((ta + vv) + (r * rs))), .val (.double (uu (((ta + vv) + (r * rs))).toNatClampNeg)), .second, .val (.long (((ta + vv) + (r * rs)) + (1 : Int32)).toInt64), .second, .unset, .unset] [(.int (r * bq)), (.int (tb + (vv * bs))), (.int (100 : Int32))]))
    refine own_up (fun _ kq => XS.iadd X0.here hx rfl (hb hby d6_57) rfl kq) ?_
    show own_Go p.tables e below _ (s₁.setTop (mkF m 58 #[.val (.ref rr), .val (.int ta), .val (.int rs), .val (.int r), .val (.int vv), .val (.int cn), .val (.long A), .second, .val (.long B), .second, .val (.int tb), .val (.int bs), .val (.int bq), .val (.int ((ta + vv) + (r * rs))), .val (.double (uu (((ta + vv) + (r * rs))).toNatClampNeg)), .second, .val (.long (((ta + vv) + (r * rs)) + (1 : Int32)).toInt64), .second, .unset, .unset] [(.int ((tb + (vv * bs)) + (r * bq))), (.int (100 : Int32))]))
    refine own_up (fun _ kq => XS.iadd X0.here hx rfl (hb hby d6_58) rfl kq) ?_
    show own_Go p.tables e below _ (s₁.setTop (mkF m 59 #[.val (.ref rr), .val (.int ta), .val (.int rs), .val (.int r), .val (.int vv), .val (.int cn), .val (.long A), .second, .val (.long B), .second, .val (.int tb), .val (.int bs), .val (.int bq), .val (.int ((ta + vv) + (r * rs))), .val (.double (uu (((ta + vv) + (r * rs))).toNatClampNeg)), .second, .val (.long (((ta + vv) + (r * rs)) + (1 : Int32)).toInt64), .second, .unset, .unset] [(.int ((100 : Int32) + ((tb + (vv * bs)) + (r * bq))))]))
    refine own_up (fun _ kq => XS.i2l X0.here hx rfl (hb hby d6_59) rfl kq) ?_
    show own_Go p.tables e below _ (s₁.setTop (mkF m 60 #[.val (.ref rr), .val (.int ta), .val (.int rs), .val (.int r), .val (.int vv), .val (.int cn), .val (.long A), .second, .val (.long B), .second, .val (.int tb), .val (.int bs), .val (.int bq), .val (.int ((ta + vv) + (r * rs))), .val (.double (uu (((ta + vv) + (r * rs))).toNatClampNeg)), .second, .val (.long (((ta + vv) + (r * rs)) + (1 : Int32)).toInt64), .second, .unset, .unset] [(.long ((100 : Int32) + ((tb + (vv * bs)) + (r * bq))).toInt64)]))
    refine own_up (fun _ kq => XS.lstore X0.here hx rfl (hb hby d6_60) rfl (l' := #[.val (.ref rr), .val (.int ta), .val (.int rs), .val (.int r), .val (.int vv), .val (.int cn), .val (.long A), .second, .val (.long B), .second, .val (.int tb), .val (.int bs), .val (.int bq), .val (.int ((ta + vv) + (r * rs))), .val (.double (uu (((ta + vv) + (r * rs))).toNatClampNeg)), .second, .val (.long (((ta + vv) + (r * rs)) + (1 : Int32)).toInt64), .second, .val (.long ((100 : Int32) + ((tb + (vv * bs)) + (r * bq))).toInt64), .second]) rfl kq) ?_
    show own_Go p.tables e below _ (s₁.setTop (mkF m 62 #[.val (.ref rr), .val (.int ta), .val (.int rs), .val (.int r), .val (.int vv), .val (.int cn), .val (.long A), .second, .val (.long B), .second, .val (.int tb), .val (.int bs), .val (.int bq), .val (.int ((ta + vv) + (r * rs))), .val (.double (uu (((ta + vv) + (r * rs))).toNatClampNeg)), .second, .val (.long (((ta + vv) + (r * rs)) + (1 : Int32)).toInt64), .second, .val (.long ((100 : Int32) + ((tb + (vv * bs)) + (r * bq))).toInt64), .second] []))
    refine own_up (fun _ kq => XS.dload X0.here hx rfl (hb hby d6_62) rfl kq) ?_
    show own_Go p.tables e below _ (s₁.setTop (mkF m 64 #[.val (.ref rr), .val (.int ta), .val (.int rs), .val (.int r), .val (.int vv), .val (.int cn), .val (.long A), .second, .val (.long B), .second, .val (.int tb), .val (.int bs), .val (.int bq), .val (.int ((ta + vv) + (r * rs))), .val (.double (uu (((ta + vv) + (r * rs))).toNatClampNeg)), .second, .val (.long (((ta + vv) + (r * rs)) + (1 : Int32)).toInt64), .second, .val (.long ((100 : Int32) + ((tb + (vv * bs)) + (r * bq))).toInt64), .second] [(.double (uu (((ta + vv) + (r * rs))).toNatClampNeg))]))
    refine own_up (fun _ kq => XS.lload X0.here hx rfl (hb hby d6_64) rfl kq) ?_
    show own_Go p.tables e below _ (s₁.setTop (mkF m 66 #[.val (.ref rr), .val (.int ta), .val (.int rs), .val (.int r), .val (.int vv), .val (.int cn), .val (.long A), .second, .val (.long B), .second, .val (.int tb), .val (.int bs), .val (.int bq), .val (.int ((ta + vv) + (r * rs))), .val (.double (uu (((ta + vv) + (r * rs))).toNatClampNeg)), .second, .val (.long (((ta + vv) + (r * rs)) + (1 : Int32)).toInt64), .second, .val (.long ((100 : Int32) + ((tb + (vv * bs)) + (r * bq))).toInt64), .second] [(.long A), (.double (uu (((ta + vv) + (r * rs))).toNatClampNeg))]))
    refine own_up (fun _ kq => XS.lload X0.here hx rfl (hb hby d6_66) rfl kq) ?_
    show own_Go p.tables e below _ (s₁.setTop (mkF m 68 #[.val (.ref rr), .val (.int ta), .val (.int rs), .val (.int r), .val (.int vv), .val (.int cn), .val (.long A), .second, .val (.long B), .second, .val (.int tb), .val (.int bs), .val (.int bq), .val (.int ((ta + vv) + (r * rs))), .val (.double (uu (((ta + vv) + (r * rs))).toNatClampNeg)), .second, .val (.long (((ta + vv) + (r * rs)) + (1 : Int32)).toInt64), .second, .val (.long ((100 : Int32) + ((tb + (vv * bs)) + (r * bq))).toInt64), .second] [(.long (((ta + vv) + (r * rs)) + (1 : Int32)).toInt64), (.long A), (.double (uu (((ta + vv) + (r * rs))).toNatClampNeg))]))
    refine own_up (fun _ kq => XS.lmul X0.here hx rfl (hb hby d6_68) rfl kq) ?_
    show own_Go p.tables e below _ (s₁.setTop (mkF m 69 #[.val (.ref rr), .val (.int ta), .val (.int rs), .val (.int r), .val (.int vv), .val (.int cn), .val (.long A), .second, .val (.long B), .second, .val (.int tb), .val (.int bs), .val (.int bq), .val (.int ((ta + vv) + (r * rs))), .val (.double (uu (((ta + vv) + (r * rs))).toNatClampNeg)), .second, .val (.long (((ta + vv) + (r * rs)) + (1 : Int32)).toInt64), .second, .val (.long ((100 : Int32) + ((tb + (vv * bs)) + (r * bq))).toInt64), .second] [(.long (A * (((ta + vv) + (r * rs)) + (1 : Int32)).toInt64)), (.double (uu (((ta + vv) + (r * rs))).toNatClampNeg))]))
    refine own_up (fun _ kq => XS.lload X0.here hx rfl (hb hby d6_69) rfl kq) ?_
    show own_Go p.tables e below _ (s₁.setTop (mkF m 71 #[.val (.ref rr), .val (.int ta), .val (.int rs), .val (.int r), .val (.int vv), .val (.int cn), .val (.long A), .second, .val (.long B), .second, .val (.int tb), .val (.int bs), .val (.int bq), .val (.int ((ta + vv) + (r * rs))), .val (.double (uu (((ta + vv) + (r * rs))).toNatClampNeg)), .second, .val (.long (((ta + vv) + (r * rs)) + (1 : Int32)).toInt64), .second, .val (.long ((100 : Int32) + ((tb + (vv * bs)) + (r * bq))).toInt64), .second] [(.long B), (.long (A * (((ta + vv) + (r * rs)) + (1 : Int32)).toInt64)), (.double (uu (((ta + vv) + (r * rs))).toNatClampNeg))]))
    refine own_up (fun _ kq => XS.lload X0.here hx rfl (hb hby d6_71) rfl kq) ?_
    show own_Go p.tables e below _ (s₁.setTop (mkF m 73 #[.val (.ref rr), .val (.int ta), .val (.int rs), .val (.int r), .val (.int vv), .val (.int cn), .val (.long A), .second, .val (.long B), .second, .val (.int tb), .val (.int bs), .val (.int bq), .val (.int ((ta + vv) + (r * rs))), .val (.double (uu (((ta + vv) + (r * rs))).toNatClampNeg)), .second, .val (.long (((ta + vv) + (r * rs)) + (1 : Int32)).toInt64), .second, .val (.long ((100 : Int32) + ((tb + (vv * bs)) + (r * bq))).toInt64), .second] [(.long ((100 : Int32) + ((tb + (vv * bs)) + (r * bq))).toInt64), (.long B), (.long (A * (((ta + vv) + (r * rs)) + (1 : Int32)).toInt64)), (.double (uu (((ta + vv) + (r * rs))).toNatClampNeg))]))
    refine own_up (fun _ kq => XS.lmul X0.here hx rfl (hb hby d6_73) rfl kq) ?_
    show own_Go p.tables e below _ (s₁.setTop (mkF m 74 #[.val (.ref rr), .val (.int ta), .val (.int rs), .val (.int r), .val (.int vv), .val (.int cn), .val (.long A), .second, .val (.long B), .second, .val (.int tb), .val (.int bs), .val (.int bq), .val (.int ((ta + vv) + (r * rs))), .val (.double (uu (((ta + vv) + (r * rs))).toNatClampNeg)), .second, .val (.long (((ta + vv) + (r * rs)) + (1 : Int32)).toInt64), .second, .val (.long ((100 : Int32) + ((tb + (vv * bs)) + (r * bq))).toInt64), .second] [(.long (B * ((100 : Int32) + ((tb + (vv * bs)) + (r * bq))).toInt64)), (.long (A * (((ta + vv) + (r * rs)) + (1 : Int32)).toInt64)), (.double (uu (((ta + vv) + (r * rs))).toNatClampNeg))]))
    refine own_up (fun _ kq => XS.ladd X0.here hx rfl (hb hby d6_74) rfl kq) ?_
    show own_Go p.tables e below _ (s₁.setTop (mkF m 75 #[.val (.ref rr), .val (.int ta), .val (.int rs), .val (.int r), .val (.int vv), .val (.int cn), .val (.long A), .second, .val (.long B), .second, .val (.int tb), .val (.int bs), .val (.int bq), .val (.int ((ta + vv) + (r * rs))), .val (.double (uu (((ta + vv) + (r * rs))).toNatClampNeg)), .second, .val (.long (((ta + vv) + (r * rs)) + (1 : Int32)).toInt64), .second, .val (.long ((100 : Int32) + ((tb + (vv * bs)) + (r * bq))).toInt64), .second] [(.long ((A * (((ta + vv) + (r * rs)) + (1 : Int32)).toInt64) + (B * ((100 : Int32) + ((tb + (vv * bs)) + (r * bq))).toInt64))), (.double (uu (((ta + vv) + (r * rs))).toNatClampNeg))]))
    refine own_up (fun _ kq => XS.l2dS X0.here hx rfl (v := (FP.l2d ((A * (((ta + vv) + (r * rs)) + (1 : Int32)).toInt64) + (B * ((100 : Int32) + ((tb + (vv * bs)) + (r * bq))).toInt64)))) (hb hby d6_75) rfl rfl kq) ?_
    show own_Go p.tables e below _ (s₁.setTop (mkF m 76 #[.val (.ref rr), .val (.int ta), .val (.int rs), .val (.int r), .val (.int vv), .val (.int cn), .val (.long A), .second, .val (.long B), .second, .val (.int tb), .val (.int bs), .val (.int bq), .val (.int ((ta + vv) + (r * rs))), .val (.double (uu (((ta + vv) + (r * rs))).toNatClampNeg)), .second, .val (.long (((ta + vv) + (r * rs)) + (1 : Int32)).toInt64), .second, .val (.long ((100 : Int32) + ((tb + (vv * bs)) + (r * bq))).toInt64), .second] [(.double (FP.l2d ((A * (((ta + vv) + (r * rs)) + (1 : Int32)).toInt64) + (B * ((100 : Int32) + ((tb + (vv * bs)) + (r * bq))).toInt64)))), (.double (uu (((ta + vv) + (r * rs))).toNatClampNeg))]))
    refine own_up (fun _ kq => XS.dcmpS X0.here hx rfl (v := (cmpValue (FP.dcmp (uu (((ta + vv) + (r * rs))).toNatClampNeg) (FP.l2d ((A * (((ta + vv) + (r * rs)) + (1 : Int32)).toInt64) + (B * ((100 : Int32) + ((tb + (vv * bs)) + (r * bq))).toInt64)))) .l)) (hb hby d6_76) rfl rfl kq) ?_
    show own_Go p.tables e below _ (s₁.setTop (mkF m 77 #[.val (.ref rr), .val (.int ta), .val (.int rs), .val (.int r), .val (.int vv), .val (.int cn), .val (.long A), .second, .val (.long B), .second, .val (.int tb), .val (.int bs), .val (.int bq), .val (.int ((ta + vv) + (r * rs))), .val (.double (uu (((ta + vv) + (r * rs))).toNatClampNeg)), .second, .val (.long (((ta + vv) + (r * rs)) + (1 : Int32)).toInt64), .second, .val (.long ((100 : Int32) + ((tb + (vv * bs)) + (r * bq))).toInt64), .second] [(.int (cmpValue (FP.dcmp (uu (((ta + vv) + (r * rs))).toNatClampNeg) (FP.l2d ((A * (((ta + vv) + (r * rs)) + (1 : Int32)).toInt64) + (B * ((100 : Int32) + ((tb + (vv * bs)) + (r * bq))).toInt64)))) .l))]))
    refine own_up (fun _ kq => XS.ifNo X0.here hx rfl (hb hby d6_77) rfl ((if0 _ _).trans (teq (ok.2.2 hc20)).2) kq) ?_
    show own_Go p.tables e below _ (s₁.setTop (mkF m 80 #[.val (.ref rr), .val (.int ta), .val (.int rs), .val (.int r), .val (.int vv), .val (.int cn), .val (.long A), .second, .val (.long B), .second, .val (.int tb), .val (.int bs), .val (.int bq), .val (.int ((ta + vv) + (r * rs))), .val (.double (uu (((ta + vv) + (r * rs))).toNatClampNeg)), .second, .val (.long (((ta + vv) + (r * rs)) + (1 : Int32)).toInt64), .second, .val (.long ((100 : Int32) + ((tb + (vv * bs)) + (r * bq))).toInt64), .second] []))
    refine own_up (fun _ kq => XS.iconst X0.here hx rfl (hb hby d6_80) kq) ?_
    show own_Go p.tables e below _ (s₁.setTop (mkF m 81 #[.val (.ref rr), .val (.int ta), .val (.int rs), .val (.int r), .val (.int vv), .val (.int cn), .val (.long A), .second, .val (.long B), .second, .val (.int tb), .val (.int bs), .val (.int bq), .val (.int ((ta + vv) + (r * rs))), .val (.double (uu (((ta + vv) + (r * rs))).toNatClampNeg)), .second, .val (.long (((ta + vv) + (r * rs)) + (1 : Int32)).toInt64), .second, .val (.long ((100 : Int32) + ((tb + (vv * bs)) + (r * bq))).toInt64), .second] [(.int (1 : Int32))]))
    refine own_up (fun _ kq => XS.goto X0.here hx rfl (pc0 := 81) (pc' := 85) rfl (hb hby d6_81) (by decide) (by decide) kq) ?_
    show own_Go p.tables e below _ (s₁.setTop (mkF m 85 #[.val (.ref rr), .val (.int ta), .val (.int rs), .val (.int r), .val (.int vv), .val (.int cn), .val (.long A), .second, .val (.long B), .second, .val (.int tb), .val (.int bs), .val (.int bq), .val (.int ((ta + vv) + (r * rs))), .val (.double (uu (((ta + vv) + (r * rs))).toNatClampNeg)), .second, .val (.long (((ta + vv) + (r * rs)) + (1 : Int32)).toInt64), .second, .val (.long ((100 : Int32) + ((tb + (vv * bs)) + (r * bq))).toInt64), .second] [(.int (1 : Int32))]))
    obtain ⟨fs1, hr1, hrun1, hended1, hW1, hsame1⟩ := X0.leave (v := some (.int (1 : Int32))) (fun h => by rw [Bd.returns] at h; cases h)
    refine own_end ⟨_, _, ?_, hrun1, hended1, _, _, rfl, ?_, ⟨_, rfl⟩, hW1, hsame1.mono (by decide) (by decide)⟩
    · exact retN X0 hx (t := .boolean) Bd.returns (by simp) (hb hby d6_85) hr1
    · show QrmZ Z rr ta rs r vv cn A B tb bs bq uu h0 n0 _ s₁.heap _
      rw [e0]
      exact ⟨rfl, N0, rfl⟩
  · refine own_up (fun _ kq => XS.icmpNo X0.here hx rfl (hb hby d6_20) rfl (flt hc20).1 kq) ?_
    show own_Go p.tables e below _ (s₁.setTop (mkF m 23 #[.val (.ref rr), .val (.int ta), .val (.int rs), .val (.int r), .val (.int vv), .val (.int cn), .val (.long A), .second, .val (.long B), .second, .val (.int tb), .val (.int bs), .val (.int bq), .val (.int ((ta + vv) + (r * rs))), .val (.double (uu (((ta + vv) + (r * rs))).toNatClampNeg)), .second, .unset, .unset, .unset, .unset] []))
    refine own_up (fun _ kq => XS.dload X0.here hx rfl (hb hby d6_23) rfl kq) ?_
    show own_Go p.tables e below _ (s₁.setTop (mkF m 25 #[.val (.ref rr), .val (.int ta), .val (.int rs), .val (.int r), .val (.int vv), .val (.int cn), .val (.long A), .second, .val (.long B), .second, .val (.int tb), .val (.int bs), .val (.int bq), .val (.int ((ta + vv) + (r * rs))), .val (.double (uu (((ta + vv) + (r * rs))).toNatClampNeg)), .second, .unset, .unset, .unset, .unset] [(.double (uu (((ta + vv) + (r * rs))).toNatClampNeg))]))
    refine own_up (fun _ kq => XS.dconst0 X0.here hx rfl (v := (0 : UInt64)) (hb hby d6_25) rfl kq) ?_
    show own_Go p.tables e below _ (s₁.setTop (mkF m 26 #[.val (.ref rr), .val (.int ta), .val (.int rs), .val (.int r), .val (.int vv), .val (.int cn), .val (.long A), .second, .val (.long B), .second, .val (.int tb), .val (.int bs), .val (.int bq), .val (.int ((ta + vv) + (r * rs))), .val (.double (uu (((ta + vv) + (r * rs))).toNatClampNeg)), .second, .unset, .unset, .unset, .unset] [(.double (0 : UInt64)), (.double (uu (((ta + vv) + (r * rs))).toNatClampNeg))]))
    refine own_up (fun _ kq => XS.dcmpS X0.here hx rfl (v := (cmpValue (FP.dcmp (uu (((ta + vv) + (r * rs))).toNatClampNeg) (0 : UInt64)) .l)) (hb hby d6_26) rfl rfl kq) ?_
    show own_Go p.tables e below _ (s₁.setTop (mkF m 27 #[.val (.ref rr), .val (.int ta), .val (.int rs), .val (.int r), .val (.int vv), .val (.int cn), .val (.long A), .second, .val (.long B), .second, .val (.int tb), .val (.int bs), .val (.int bq), .val (.int ((ta + vv) + (r * rs))), .val (.double (uu (((ta + vv) + (r * rs))).toNatClampNeg)), .second, .unset, .unset, .unset, .unset] [(.int (cmpValue (FP.dcmp (uu (((ta + vv) + (r * rs))).toNatClampNeg) (0 : UInt64)) .l))]))
    refine own_up (fun _ kq => XS.ifNo X0.here hx rfl (hb hby d6_27) rfl ((if0 _ _).trans (teq (ok.2.1 hc20)).2) kq) ?_
    show own_Go p.tables e below _ (s₁.setTop (mkF m 30 #[.val (.ref rr), .val (.int ta), .val (.int rs), .val (.int r), .val (.int vv), .val (.int cn), .val (.long A), .second, .val (.long B), .second, .val (.int tb), .val (.int bs), .val (.int bq), .val (.int ((ta + vv) + (r * rs))), .val (.double (uu (((ta + vv) + (r * rs))).toNatClampNeg)), .second, .unset, .unset, .unset, .unset] []))
    refine own_up (fun _ kq => XS.iconst X0.here hx rfl (hb hby d6_30) kq) ?_
    show own_Go p.tables e below _ (s₁.setTop (mkF m 31 #[.val (.ref rr), .val (.int ta), .val (.int rs), .val (.int r), .val (.int vv), .val (.int cn), .val (.long A), .second, .val (.long B), .second, .val (.int tb), .val (.int bs), .val (.int bq), .val (.int ((ta + vv) + (r * rs))), .val (.double (uu (((ta + vv) + (r * rs))).toNatClampNeg)), .second, .unset, .unset, .unset, .unset] [(.int (1 : Int32))]))
    refine own_up (fun _ kq => XS.goto X0.here hx rfl (pc0 := 31) (pc' := 35) rfl (hb hby d6_31) (by decide) (by decide) kq) ?_
    show own_Go p.tables e below _ (s₁.setTop (mkF m 35 #[.val (.ref rr), .val (.int ta), .val (.int rs), .val (.int r), .val (.int vv), .val (.int cn), .val (.long A), .second, .val (.long B), .second, .val (.int tb), .val (.int bs), .val (.int bq), .val (.int ((ta + vv) + (r * rs))), .val (.double (uu (((ta + vv) + (r * rs))).toNatClampNeg)), .second, .unset, .unset, .unset, .unset] [(.int (1 : Int32))]))
    obtain ⟨fs2, hr2, hrun2, hended2, hW2, hsame2⟩ := X0.leave (v := some (.int (1 : Int32))) (fun h => by rw [Bd.returns] at h; cases h)
    refine own_end ⟨_, _, ?_, hrun2, hended2, _, _, rfl, ?_, ⟨_, rfl⟩, hW2, hsame2.mono (by decide) (by decide)⟩
    · exact retN X0 hx (t := .boolean) Bd.returns (by simp) (hb hby d6_35) hr2
    · show QrmZ Z rr ta rs r vv cn A B tb bs bq uu h0 n0 _ s₁.heap _
      rw [e0]
      exact ⟨rfl, N0, rfl⟩
theorem d5_0 : decode method_3_code 0 = .ok (.aload_n 0, 1) := by decide +kernel
theorem d5_1 : decode method_3_code 1 = .ok (.iload_n 1, 1) := by decide +kernel
theorem d5_2 : decode method_3_code 2 = .ok (.iload_n 2, 1) := by decide +kernel
theorem d5_3 : decode method_3_code 3 = .ok (.iload_n 3, 1) := by decide +kernel
theorem d5_4 : decode method_3_code 4 = .ok (.iconst 0, 1) := by decide +kernel
theorem d5_5 : decode method_3_code 5 = .ok (.iload 4, 2) := by decide +kernel
theorem d5_7 : decode method_3_code 7 = .ok (.lload 5, 2) := by decide +kernel
theorem d5_9 : decode method_3_code 9 = .ok (.lload 7, 2) := by decide +kernel
theorem d5_11 : decode method_3_code 11 = .ok (.iload 9, 2) := by decide +kernel
theorem d5_13 : decode method_3_code 13 = .ok (.iload 10, 2) := by decide +kernel
theorem d5_15 : decode method_3_code 15 = .ok (.iload 11, 2) := by decide +kernel
theorem d5_17 : decode method_3_code 17 = .ok (.invokestatic 236, 3) := by decide +kernel
theorem pd_1 : parseMethodDescriptor "([DIIIIIJJIII)Z" = some ⟨[(.array .double), .int, .int, .int, .int, .int, .long, .long, .int, .int, .int], some .boolean⟩ := by decide +kernel
theorem d5_20 : decode method_3_code 20 = .ok (.ifCond .eq 53, 3) := by decide +kernel
theorem d5_23 : decode method_3_code 23 = .ok (.aload_n 0, 1) := by decide +kernel
theorem d5_24 : decode method_3_code 24 = .ok (.iload_n 1, 1) := by decide +kernel
theorem d5_25 : decode method_3_code 25 = .ok (.iload_n 2, 1) := by decide +kernel
theorem d5_26 : decode method_3_code 26 = .ok (.iload_n 3, 1) := by decide +kernel
theorem d5_27 : decode method_3_code 27 = .ok (.iconst 1, 1) := by decide +kernel
theorem d5_28 : decode method_3_code 28 = .ok (.iload 4, 2) := by decide +kernel
theorem d5_30 : decode method_3_code 30 = .ok (.lload 5, 2) := by decide +kernel
theorem d5_32 : decode method_3_code 32 = .ok (.lload 7, 2) := by decide +kernel
theorem d5_34 : decode method_3_code 34 = .ok (.iload 9, 2) := by decide +kernel
theorem d5_36 : decode method_3_code 36 = .ok (.iload 10, 2) := by decide +kernel
theorem d5_38 : decode method_3_code 38 = .ok (.iload 11, 2) := by decide +kernel
theorem d5_40 : decode method_3_code 40 = .ok (.invokestatic 236, 3) := by decide +kernel
theorem d5_43 : decode method_3_code 43 = .ok (.ifCond .eq 30, 3) := by decide +kernel
theorem d5_46 : decode method_3_code 46 = .ok (.aload_n 0, 1) := by decide +kernel
theorem d5_47 : decode method_3_code 47 = .ok (.iload_n 1, 1) := by decide +kernel
theorem d5_48 : decode method_3_code 48 = .ok (.iload_n 2, 1) := by decide +kernel
theorem d5_49 : decode method_3_code 49 = .ok (.iload_n 3, 1) := by decide +kernel
theorem d5_50 : decode method_3_code 50 = .ok (.iconst 2, 1) := by decide +kernel
theorem d5_51 : decode method_3_code 51 = .ok (.iload 4, 2) := by decide +kernel
theorem d5_53 : decode method_3_code 53 = .ok (.lload 5, 2) := by decide +kernel
theorem d5_55 : decode method_3_code 55 = .ok (.lload 7, 2) := by decide +kernel
theorem d5_57 : decode method_3_code 57 = .ok (.iload 9, 2) := by decide +kernel
theorem d5_59 : decode method_3_code 59 = .ok (.iload 10, 2) := by decide +kernel
theorem d5_61 : decode method_3_code 61 = .ok (.iload 11, 2) := by decide +kernel
theorem d5_63 : decode method_3_code 63 = .ok (.invokestatic 236, 3) := by decide +kernel
theorem d5_66 : decode method_3_code 66 = .ok (.ifCond .eq 7, 3) := by decide +kernel
theorem d5_69 : decode method_3_code 69 = .ok (.iconst 1, 1) := by decide +kernel
theorem d5_70 : decode method_3_code 70 = .ok (.goto 4, 3) := by decide +kernel
theorem d5_74 : decode method_3_code 74 = .ok (.ireturn, 1) := by decide +kernel
theorem ef_rmW (m : MethodId) (x0 : Addr) (x1 : Int32) (x2 : Int32) (x3 : Int32) (x4 : Int32) (x5 : Int64) (x6 : Int64) (x7 : Int32) (x8 : Int32) (x9 : Int32) : entryFrame m #[(.ref x0), (.int x1), (.int x2), (.int x3), (.int x4), (.long x5), (.long x6), (.int x7), (.int x8), (.int x9)] 12 = mkF m 0 #[.val (.ref x0), .val (.int x1), .val (.int x2), .val (.int x3), .val (.int x4), .val (.long x5), .second, .val (.long x6), .second, .val (.int x7), .val (.int x8), .val (.int x9)] [] := by first | (simp [entryFrame, mkF, argsToLocals, Value.category]; done) | rfl
def QrmW (Z : State) (rr : Addr) (ta : Int32) (rs : Int32) (r : Int32) (cn : Int32) (A : Int64) (B : Int64) (tb : Int32) (bs : Int32) (bq : Int32) (uu : Nat → UInt64) (h0 : Heap) (n0 : Nat) (v : Option Value) (h : Heap) (L : List Loc) : Prop := v = some (.int 1) ∧ Fr n0 L ∧ h = h0
set_option maxRecDepth 65536 in
set_option maxHeartbeats 40000000 in
theorem rmW (l : Launch) (Z : State) (a0 : Array Value) (hw : ∀ d ∈ tables_1, d.before a0 Z = true) (ws : List Jvm.Cond) (rr : Addr) (ta : Int32) (rs : Int32) (r : Int32) (cn : Int32) (A : Int64) (B : Int64) (tb : Int32) (bs : Int32) (bq : Int32) (uu : Nat → UInt64) (h0 : Heap) (n0 : Nat) (Z0 : n0 ≤ h0.size) (G_rr : own_Arf Z h0 rr .double (48 : Int32) (fun i => .double (uu i))) (ok0 : own_Ok uu ta rs r (0 : Int32) cn A B tb bs bq) (ok1 : own_Ok uu ta rs r (1 : Int32) cn A B tb bs bq) (ok2 : own_Ok uu ta rs r (2 : Int32) cn A B tb bs bq) :
    MetFree l (⟨"com/example/indexica/indexica/ScaledSumEightRowsPinLaw", "row", "([DIIIIJJIII)Z"⟩ : MethodName) (head1 (Jvm.Cond.code (⟨"com/example/indexica/indexica/ScaledSumEightRowsPinLaw", "row", "([DIIIIJJIII)Z"⟩ : MethodName) method_3_code 12 (some .boolean) :: ws) ({ frames := 1, cells := 0, slots := 0, locals := 31 } : Room)) (fun aq Uq => aq = #[(.ref rr), (.int ta), (.int rs), (.int r), (.int cn), (.long A), (.long B), (.int tb), (.int bs), (.int bq)] ∧ Z.Warmed39 Uq.vm ∧ Uq.heap = h0) (fun _ _ _ _ _ => True) (fun _ Uq oq Uq' => ∃ vq Lq, oq = .returned vq ∧ QrmW Z rr ta rs r cn A B tb bs bq uu h0 n0 vq Uq'.heap Lq ∧ FrameEnd Uq oq Uq' Lq ({ frames := 1, cells := 0, slots := 0, locals := 31 } : Room).cells ({ frames := 1, cells := 0, slots := 0, locals := 31 } : Room).slots) := by
  refine MetFree.of_bodySF (plainFor_of_name pn_2) hisR ?_
  intro p e s m args below meth c s₁ Bd hml0 hP hK
  obtain ⟨rfl, hZ, hh⟩ := hP
  have hx := Bd.exec
  have hby := Bd.bytes
  have hml : c.maxLocals = 12 := hml0
  have hown : s.vm.findClass "com/example/indexica/indexica/ScaledSumEightRowsPinLaw" = some m.cls := findClass_of_methodNamed Bd.named
  have hnm := (name_of_methodNamed Bd.named Bd.method).1
  have X0 : Stand p l e ({ frames := 1, cells := 0, slots := 0, locals := 31 } : Room) s m #[(.ref rr), (.int ta), (.int rs), (.int r), (.int cn), (.long A), (.long B), (.int tb), (.int bs), (.int bq)] below meth c s₁ [] 0 0 := Stand.of_body Bd
  have e0 : s₁.heap = h0 := by rw [← hh, Bd.state]; rfl
  have N0 := Fr.nil n0
  have ZH := Z0
  have KK := Keep.refl h0 []
  refine own_start (fun t kq => castTop (ef_rmW m rr ta rs r cn A B tb bs bq) kq) ?_
  show own_Go p.tables e below _ (s₁.setTop (mkF m 0 #[.val (.ref rr), .val (.int ta), .val (.int rs), .val (.int r), .val (.int cn), .val (.long A), .second, .val (.long B), .second, .val (.int tb), .val (.int bs), .val (.int bq)] []))
  refine own_up (fun _ kq => XS.aloadN X0.here hx rfl (hb hby d5_0) rfl rfl kq) ?_
  show own_Go p.tables e below _ (s₁.setTop (mkF m 1 #[.val (.ref rr), .val (.int ta), .val (.int rs), .val (.int r), .val (.int cn), .val (.long A), .second, .val (.long B), .second, .val (.int tb), .val (.int bs), .val (.int bq)] [(.ref rr)]))
  refine own_up (fun _ kq => XS.iloadN X0.here hx rfl (hb hby d5_1) rfl kq) ?_
  show own_Go p.tables e below _ (s₁.setTop (mkF m 2 #[.val (.ref rr), .val (.int ta), .val (.int rs), .val (.int r), .val (.int cn), .val (.long A), .second, .val (.long B), .second, .val (.int tb), .val (.int bs), .val (.int bq)] [(.int ta), (.ref rr)]))
  refine own_up (fun _ kq => XS.iloadN X0.here hx rfl (hb hby d5_2) rfl kq) ?_
  show own_Go p.tables e below _ (s₁.setTop (mkF m 3 #[.val (.ref rr), .val (.int ta), .val (.int rs), .val (.int r), .val (.int cn), .val (.long A), .second, .val (.long B), .second, .val (.int tb), .val (.int bs), .val (.int bq)] [(.int rs), (.int ta), (.ref rr)]))
  refine own_up (fun _ kq => XS.iloadN X0.here hx rfl (hb hby d5_3) rfl kq) ?_
  show own_Go p.tables e below _ (s₁.setTop (mkF m 4 #[.val (.ref rr), .val (.int ta), .val (.int rs), .val (.int r), .val (.int cn), .val (.long A), .second, .val (.long B), .second, .val (.int tb), .val (.int bs), .val (.int bq)] [(.int r), (.int rs), (.int ta), (.ref rr)]))
  refine own_up (fun _ kq => XS.iconst X0.here hx rfl (hb hby d5_4) kq) ?_
  show own_Go p.tables e below _ (s₁.setTop (mkF m 5 #[.val (.ref rr), .val (.int ta), .val (.int rs), .val (.int r), .val (.int cn), .val (.long A), .second, .val (.long B), .second, .val (.int tb), .val (.int bs), .val (.int bq)] [(.int (0 : Int32)), (.int r), (.int rs), (.int ta), (.ref rr)]))
  refine own_up (fun _ kq => XS.iload X0.here hx rfl (hb hby d5_5) rfl kq) ?_
  show own_Go p.tables e below _ (s₁.setTop (mkF m 7 #[.val (.ref rr), .val (.int ta), .val (.int rs), .val (.int r), .val (.int cn), .val (.long A), .second, .val (.long B), .second, .val (.int tb), .val (.int bs), .val (.int bq)] [(.int cn), (.int (0 : Int32)), (.int r), (.int rs), (.int ta), (.ref rr)]))
  refine own_up (fun _ kq => XS.lload X0.here hx rfl (hb hby d5_7) rfl kq) ?_
  show own_Go p.tables e below _ (s₁.setTop (mkF m 9 #[.val (.ref rr), .val (.int ta), .val (.int rs), .val (.int r), .val (.int cn), .val (.long A), .second, .val (.long B), .second, .val (.int tb), .val (.int bs), .val (.int bq)] [(.long A), (.int cn), (.int (0 : Int32)), (.int r), (.int rs), (.int ta), (.ref rr)]))
  refine own_up (fun _ kq => XS.lload X0.here hx rfl (hb hby d5_9) rfl kq) ?_
  show own_Go p.tables e below _ (s₁.setTop (mkF m 11 #[.val (.ref rr), .val (.int ta), .val (.int rs), .val (.int r), .val (.int cn), .val (.long A), .second, .val (.long B), .second, .val (.int tb), .val (.int bs), .val (.int bq)] [(.long B), (.long A), (.int cn), (.int (0 : Int32)), (.int r), (.int rs), (.int ta), (.ref rr)]))
  refine own_up (fun _ kq => XS.iload X0.here hx rfl (hb hby d5_11) rfl kq) ?_
  show own_Go p.tables e below _ (s₁.setTop (mkF m 13 #[.val (.ref rr), .val (.int ta), .val (.int rs), .val (.int r), .val (.int cn), .val (.long A), .second, .val (.long B), .second, .val (.int tb), .val (.int bs), .val (.int bq)] [(.int tb), (.long B), (.long A), (.int cn), (.int (0 : Int32)), (.int r), (.int rs), (.int ta), (.ref rr)]))
  refine own_up (fun _ kq => XS.iload X0.here hx rfl (hb hby d5_13) rfl kq) ?_
  show own_Go p.tables e below _ (s₁.setTop (mkF m 15 #[.val (.ref rr), .val (.int ta), .val (.int rs), .val (.int r), .val (.int cn), .val (.long A), .second, .val (.long B), .second, .val (.int tb), .val (.int bs), .val (.int bq)] [(.int bs), (.int tb), (.long B), (.long A), (.int cn), (.int (0 : Int32)), (.int r), (.int rs), (.int ta), (.ref rr)]))
  refine own_up (fun _ kq => XS.iload X0.here hx rfl (hb hby d5_15) rfl kq) ?_
  show own_Go p.tables e below _ (s₁.setTop (mkF m 17 #[.val (.ref rr), .val (.int ta), .val (.int rs), .val (.int r), .val (.int cn), .val (.long A), .second, .val (.long B), .second, .val (.int tb), .val (.int bs), .val (.int bq)] [(.int bq), (.int bs), (.int tb), (.long B), (.long A), (.int cn), (.int (0 : Int32)), (.int r), (.int rs), (.int ta), (.ref rr)]))
  obtain ⟨_, _, ⟨T1, L1, k1, n1⟩, -, X1, ⟨Lc1, hQ1, l1, y1, z1⟩, st1⟩ := Jvm.LawKit.callS X0 hx (y := (⟨"com/example/indexica/indexica/ScaledSumEightRowsPinLaw", "cell", "([DIIIIIJJIII)Z"⟩ : MethodName)) hown (mvT hZ (hw _ (List.mem_of_getElem? (i := 135) rfl))) (mvT hZ (hw _ (List.mem_of_getElem? (i := 136) rfl))) (mvT hZ (hw _ (List.mem_of_getElem? (i := 133) rfl))) (mvT hZ (hw _ (List.mem_of_getElem? (i := 137) rfl))) (by decide) (backOf (W := 0) (rmZ l Z a0 hw [] rr ta rs r (0 : Int32) cn A B tb bs bq uu h0 n0 Z0 G_rr ok0) hZ (hw _ (List.mem_of_getElem? (i := 137) rfl)) (hw _ (List.mem_of_getElem? (i := 133) rfl)) (by decide) (by decide)) (g := (mkF m 17 #[.val (.ref rr), .val (.int ta), .val (.int rs), .val (.int r), .val (.int cn), .val (.long A), .second, .val (.long B), .second, .val (.int tb), .val (.int bs), .val (.int bq)] [(.int bq), (.int bs), (.int tb), (.long B), (.long A), (.int cn), (.int (0 : Int32)), (.int r), (.int rs), (.int ta), (.ref rr)])) rfl (by rw [hml]; rfl) (argsL := [(.ref rr), (.int ta), (.int rs), (.int r), (.int (0 : Int32)), (.int cn), (.long A), (.long B), (.int tb), (.int bs), (.int bq)]) (rest := []) (lenOf pd_1 rfl) rfl (by show 2 * 0 + _ ≤ _; exact Nat.le_of_eq rfl) (hb hby d5_17) (fun _ _ => ⟨rfl, e0, (by decide : 0 + 0 ≤ _), (by decide : 0 + 0 ≤ _)⟩)
  dsimp only [Pt.U, Pt.locs, Pt.cells, Pt.slots] at X1 l1 y1 z1 st1 hQ1
  subst l1 y1 z1
  obtain ⟨rfl, Nq1, e1⟩ := hQ1
  have N1 := Fr.app N0 Nq1
  refine own_up st1 ?_
  show own_Go p.tables e below _ (T1.setTop (mkF m 20 #[.val (.ref rr), .val (.int ta), .val (.int rs), .val (.int r), .val (.int cn), .val (.long A), .second, .val (.long B), .second, .val (.int tb), .val (.int bs), .val (.int bq)] [(.int (1 : Int32))]))
  refine own_up (fun _ kq => XS.ifNo X1.here hx rfl (hb hby d5_20) rfl ((if0 _ _).trans (feq (by decide : ¬ ((1 : Int32) = (0 : Int32)))).1) kq) ?_
  show own_Go p.tables e below _ (T1.setTop (mkF m 23 #[.val (.ref rr), .val (.int ta), .val (.int rs), .val (.int r), .val (.int cn), .val (.long A), .second, .val (.long B), .second, .val (.int tb), .val (.int bs), .val (.int bq)] []))
  refine own_up (fun _ kq => XS.aloadN X1.here hx rfl (hb hby d5_23) rfl rfl kq) ?_
  show own_Go p.tables e below _ (T1.setTop (mkF m 24 #[.val (.ref rr), .val (.int ta), .val (.int rs), .val (.int r), .val (.int cn), .val (.long A), .second, .val (.long B), .second, .val (.int tb), .val (.int bs), .val (.int bq)] [(.ref rr)]))
  refine own_up (fun _ kq => XS.iloadN X1.here hx rfl (hb hby d5_24) rfl kq) ?_
  show own_Go p.tables e below _ (T1.setTop (mkF m 25 #[.val (.ref rr), .val (.int ta), .val (.int rs), .val (.int r), .val (.int cn), .val (.long A), .second, .val (.long B), .second, .val (.int tb), .val (.int bs), .val (.int bq)] [(.int ta), (.ref rr)]))
  refine own_up (fun _ kq => XS.iloadN X1.here hx rfl (hb hby d5_25) rfl kq) ?_
  show own_Go p.tables e below _ (T1.setTop (mkF m 26 #[.val (.ref rr), .val (.int ta), .val (.int rs), .val (.int r), .val (.int cn), .val (.long A), .second, .val (.long B), .second, .val (.int tb), .val (.int bs), .val (.int bq)] [(.int rs), (.int ta), (.ref rr)]))
  refine own_up (fun _ kq => XS.iloadN X1.here hx rfl (hb hby d5_26) rfl kq) ?_
  show own_Go p.tables e below _ (T1.setTop (mkF m 27 #[.val (.ref rr), .val (.int ta), .val (.int rs), .val (.int r), .val (.int cn), .val (.long A), .second, .val (.long B), .second, .val (.int tb), .val (.int bs), .val (.int bq)] [(.int r), (.int rs), (.int ta), (.ref rr)]))
  refine own_up (fun _ kq => XS.iconst X1.here hx rfl (hb hby d5_27) kq) ?_
  show own_Go p.tables e below _ (T1.setTop (mkF m 28 #[.val (.ref rr), .val (.int ta), .val (.int rs), .val (.int r), .val (.int cn), .val (.long A), .second, .val (.long B), .second, .val (.int tb), .val (.int bs), .val (.int bq)] [(.int (1 : Int32)), (.int r), (.int rs), (.int ta), (.ref rr)]))
  refine own_up (fun _ kq => XS.iload X1.here hx rfl (hb hby d5_28) rfl kq) ?_
  show own_Go p.tables e below _ (T1.setTop (mkF m 30 #[.val (.ref rr), .val (.int ta), .val (.int rs), .val (.int r), .val (.int cn), .val (.long A), .second, .val (.long B), .second, .val (.int tb), .val (.int bs), .val (.int bq)] [(.int cn), (.int (1 : Int32)), (.int r), (.int rs), (.int ta), (.ref rr)]))
  refine own_up (fun _ kq => XS.lload X1.here hx rfl (hb hby d5_30) rfl kq) ?_
  show own_Go p.tables e below _ (T1.setTop (mkF m 32 #[.val (.ref rr), .val (.int ta), .val (.int rs), .val (.int r), .val (.int cn), .val (.long A), .second, .val (.long B), .second, .val (.int tb), .val (.int bs), .val (.int bq)] [(.long A), (.int cn), (.int (1 : Int32)), (.int r), (.int rs), (.int ta), (.ref rr)]))
  refine own_up (fun _ kq => XS.lload X1.here hx rfl (hb hby d5_32) rfl kq) ?_
  show own_Go p.tables e below _ (T1.setTop (mkF m 34 #[.val (.ref rr), .val (.int ta), .val (.int rs), .val (.int r), .val (.int cn), .val (.long A), .second, .val (.long B), .second, .val (.int tb), .val (.int bs), .val (.int bq)] [(.long B), (.long A), (.int cn), (.int (1 : Int32)), (.int r), (.int rs), (.int ta), (.ref rr)]))
  refine own_up (fun _ kq => XS.iload X1.here hx rfl (hb hby d5_34) rfl kq) ?_
  show own_Go p.tables e below _ (T1.setTop (mkF m 36 #[.val (.ref rr), .val (.int ta), .val (.int rs), .val (.int r), .val (.int cn), .val (.long A), .second, .val (.long B), .second, .val (.int tb), .val (.int bs), .val (.int bq)] [(.int tb), (.long B), (.long A), (.int cn), (.int (1 : Int32)), (.int r), (.int rs), (.int ta), (.ref rr)]))
  refine own_up (fun _ kq => XS.iload X1.here hx rfl (hb hby d5_36) rfl kq) ?_
  show own_Go p.tables e below _ (T1.setTop (mkF m 38 #[.val (.ref rr), .val (.int ta), .val (.int rs), .val (.int r), .val (.int cn), .val (.long A), .second, .val (.long B), .second, .val (.int tb), .val (.int bs), .val (.int bq)] [(.int bs), (.int tb), (.long B), (.long A), (.int cn), (.int (1 : Int32)), (.int r), (.int rs), (.int ta), (.ref rr)]))
  refine own_up (fun _ kq => XS.iload X1.here hx rfl (hb hby d5_38) rfl kq) ?_
  show own_Go p.tables e below _ (T1.setTop (mkF m 40 #[.val (.ref rr), .val (.int ta), .val (.int rs), .val (.int r), .val (.int cn), .val (.long A), .second, .val (.long B), .second, .val (.int tb), .val (.int bs), .val (.int bq)] [(.int bq), (.int bs), (.int tb), (.long B), (.long A), (.int cn), (.int (1 : Int32)), (.int r), (.int rs), (.int ta), (.ref rr)]))
  obtain ⟨_, _, ⟨T2, L2, k2, n2⟩, -, X2, ⟨Lc2, hQ2, l2, y2, z2⟩, st2⟩ := Jvm.LawKit.callS X1 hx (y := (⟨"com/example/indexica/indexica/ScaledSumEightRowsPinLaw", "cell", "([DIIIIIJJIII)Z"⟩ : MethodName)) hown (mvT hZ (hw _ (List.mem_of_getElem? (i := 135) rfl))) (mvT hZ (hw _ (List.mem_of_getElem? (i := 136) rfl))) (mvT hZ (hw _ (List.mem_of_getElem? (i := 133) rfl))) (mvT hZ (hw _ (List.mem_of_getElem? (i := 137) rfl))) (by decide) (backOf (W := 0) (rmZ l Z a0 hw [] rr ta rs r (1 : Int32) cn A B tb bs bq uu h0 n0 Z0 G_rr ok1) hZ (hw _ (List.mem_of_getElem? (i := 137) rfl)) (hw _ (List.mem_of_getElem? (i := 133) rfl)) (by decide) (by decide)) (g := (mkF m 40 #[.val (.ref rr), .val (.int ta), .val (.int rs), .val (.int r), .val (.int cn), .val (.long A), .second, .val (.long B), .second, .val (.int tb), .val (.int bs), .val (.int bq)] [(.int bq), (.int bs), (.int tb), (.long B), (.long A), (.int cn), (.int (1 : Int32)), (.int r), (.int rs), (.int ta), (.ref rr)])) rfl (by rw [hml]; rfl) (argsL := [(.ref rr), (.int ta), (.int rs), (.int r), (.int (1 : Int32)), (.int cn), (.long A), (.long B), (.int tb), (.int bs), (.int bq)]) (rest := []) (lenOf pd_1 rfl) rfl (by show 2 * 0 + _ ≤ _; exact Nat.le_of_eq rfl) (hb hby d5_40) (fun _ _ => ⟨rfl, e1, (by decide : 0 + 0 ≤ _), (by decide : 0 + 0 ≤ _)⟩)
  dsimp only [Pt.U, Pt.locs, Pt.cells, Pt.slots] at X2 l2 y2 z2 st2 hQ2
  subst l2 y2 z2
  obtain ⟨rfl, Nq2, e2⟩ := hQ2
  have N2 := Fr.app N1 Nq2
  refine own_up st2 ?_
  show own_Go p.tables e below _ (T2.setTop (mkF m 43 #[.val (.ref rr), .val (.int ta), .val (.int rs), .val (.int r), .val (.int cn), .val (.long A), .second, .val (.long B), .second, .val (.int tb), .val (.int bs), .val (.int bq)] [(.int (1 : Int32))]))
  refine own_up (fun _ kq => XS.ifNo X2.here hx rfl (hb hby d5_43) rfl ((if0 _ _).trans (feq (by decide : ¬ ((1 : Int32) = (0 : Int32)))).1) kq) ?_
  show own_Go p.tables e below _ (T2.setTop (mkF m 46 #[.val (.ref rr), .val (.int ta), .val (.int rs), .val (.int r), .val (.int cn), .val (.long A), .second, .val (.long B), .second, .val (.int tb), .val (.int bs), .val (.int bq)] []))
  refine own_up (fun _ kq => XS.aloadN X2.here hx rfl (hb hby d5_46) rfl rfl kq) ?_
  show own_Go p.tables e below _ (T2.setTop (mkF m 47 #[.val (.ref rr), .val (.int ta), .val (.int rs), .val (.int r), .val (.int cn), .val (.long A), .second, .val (.long B), .second, .val (.int tb), .val (.int bs), .val (.int bq)] [(.ref rr)]))
  refine own_up (fun _ kq => XS.iloadN X2.here hx rfl (hb hby d5_47) rfl kq) ?_
  show own_Go p.tables e below _ (T2.setTop (mkF m 48 #[.val (.ref rr), .val (.int ta), .val (.int rs), .val (.int r), .val (.int cn), .val (.long A), .second, .val (.long B), .second, .val (.int tb), .val (.int bs), .val (.int bq)] [(.int ta), (.ref rr)]))
  refine own_up (fun _ kq => XS.iloadN X2.here hx rfl (hb hby d5_48) rfl kq) ?_
  show own_Go p.tables e below _ (T2.setTop (mkF m 49 #[.val (.ref rr), .val (.int ta), .val (.int rs), .val (.int r), .val (.int cn), .val (.long A), .second, .val (.long B), .second, .val (.int tb), .val (.int bs), .val (.int bq)] [(.int rs), (.int ta), (.ref rr)]))
  refine own_up (fun _ kq => XS.iloadN X2.here hx rfl (hb hby d5_49) rfl kq) ?_
  show own_Go p.tables e below _ (T2.setTop (mkF m 50 #[.val (.ref rr), .val (.int ta), .val (.int rs), .val (.int r), .val (.int cn), .val (.long A), .second, .val (.long B), .second, .val (.int tb), .val (.int bs), .val (.int bq)] [(.int r), (.int rs), (.int ta), (.ref rr)]))
  refine own_up (fun _ kq => XS.iconst X2.here hx rfl (hb hby d5_50) kq) ?_
  show own_Go p.tables e below _ (T2.setTop (mkF m 51 #[.val (.ref rr), .val (.int ta), .val (.int rs), .val (.int r), .val (.int cn), .val (.long A), .second, .val (.long B), .second, .val (.int tb), .val (.int bs), .val (.int bq)] [(.int (2 : Int32)), (.int r), (.int rs), (.int ta), (.ref rr)]))
  refine own_up (fun _ kq => XS.iload X2.here hx rfl (hb hby d5_51) rfl kq) ?_
  show own_Go p.tables e below _ (T2.setTop (mkF m 53 #[.val (.ref rr), .val (.int ta), .val (.int rs), .val (.int r), .val (.int cn), .val (.long A), .second, .val (.long B), .second, .val (.int tb), .val (.int bs), .val (.int bq)] [(.int cn), (.int (2 : Int32)), (.int r), (.int rs), (.int ta), (.ref rr)]))
  refine own_up (fun _ kq => XS.lload X2.here hx rfl (hb hby d5_53) rfl kq) ?_
  show own_Go p.tables e below _ (T2.setTop (mkF m 55 #[.val (.ref rr), .val (.int ta), .val (.int rs), .val (.int r), .val (.int cn), .val (.long A), .second, .val (.long B), .second, .val (.int tb), .val (.int bs), .val (.int bq)] [(.long A), (.int cn), (.int (2 : Int32)), (.int r), (.int rs), (.int ta), (.ref rr)]))
  refine own_up (fun _ kq => XS.lload X2.here hx rfl (hb hby d5_55) rfl kq) ?_
  show own_Go p.tables e below _ (T2.setTop (mkF m 57 #[.val (.ref rr), .val (.int ta), .val (.int rs), .val (.int r), .val (.int cn), .val (.long A), .second, .val (.long B), .second, .val (.int tb), .val (.int bs), .val (.int bq)] [(.long B), (.long A), (.int cn), (.int (2 : Int32)), (.int r), (.int rs), (.int ta), (.ref rr)]))
  refine own_up (fun _ kq => XS.iload X2.here hx rfl (hb hby d5_57) rfl kq) ?_
  show own_Go p.tables e below _ (T2.setTop (mkF m 59 #[.val (.ref rr), .val (.int ta), .val (.int rs), .val (.int r), .val (.int cn), .val (.long A), .second, .val (.long B), .second, .val (.int tb), .val (.int bs), .val (.int bq)] [(.int tb), (.long B), (.long A), (.int cn), (.int (2 : Int32)), (.int r), (.int rs), (.int ta), (.ref rr)]))
  refine own_up (fun _ kq => XS.iload X2.here hx rfl (hb hby d5_59) rfl kq) ?_
  show own_Go p.tables e below _ (T2.setTop (mkF m 61 #[.val (.ref rr), .val (.int ta), .val (.int rs), .val (.int r), .val (.int cn), .val (.long A), .second, .val (.long B), .second, .val (.int tb), .val (.int bs), .val (.int bq)] [(.int bs), (.int tb), (.long B), (.long A), (.int cn), (.int (2 : Int32)), (.int r), (.int rs), (.int ta), (.ref rr)]))
  refine own_up (fun _ kq => XS.iload X2.here hx rfl (hb hby d5_61) rfl kq) ?_
  show own_Go p.tables e below _ (T2.setTop (mkF m 63 #[.val (.ref rr), .val (.int ta), .val (.int rs), .val (.int r), .val (.int cn), .val (.long A), .second, .val (.long B), .second, .val (.int tb), .val (.int bs), .val (.int bq)] [(.int bq), (.int bs), (.int tb), (.long B), (.long A), (.int cn), (.int (2 : Int32)), (.int r), (.int rs), (.int ta), (.ref rr)]))
  obtain ⟨_, _, ⟨T3, L3, k3, n3⟩, -, X3, ⟨Lc3, hQ3, l3, y3, z3⟩, st3⟩ := Jvm.LawKit.callS X2 hx (y := (⟨"com/example/indexica/indexica/ScaledSumEightRowsPinLaw", "cell", "([DIIIIIJJIII)Z"⟩ : MethodName)) hown (mvT hZ (hw _ (List.mem_of_getElem? (i := 135) rfl))) (mvT hZ (hw _ (List.mem_of_getElem? (i := 136) rfl))) (mvT hZ (hw _ (List.mem_of_getElem? (i := 133) rfl))) (mvT hZ (hw _ (List.mem_of_getElem? (i := 137) rfl))) (by decide) (backOf (W := 0) (rmZ l Z a0 hw [] rr ta rs r (2 : Int32) cn A B tb bs bq uu h0 n0 Z0 G_rr ok2) hZ (hw _ (List.mem_of_getElem? (i := 137) rfl)) (hw _ (List.mem_of_getElem? (i := 133) rfl)) (by decide) (by decide)) (g := (mkF m 63 #[.val (.ref rr), .val (.int ta), .val (.int rs), .val (.int r), .val (.int cn), .val (.long A), .second, .val (.long B), .second, .val (.int tb), .val (.int bs), .val (.int bq)] [(.int bq), (.int bs), (.int tb), (.long B), (.long A), (.int cn), (.int (2 : Int32)), (.int r), (.int rs), (.int ta), (.ref rr)])) rfl (by rw [hml]; rfl) (argsL := [(.ref rr), (.int ta), (.int rs), (.int r), (.int (2 : Int32)), (.int cn), (.long A), (.long B), (.int tb), (.int bs), (.int bq)]) (rest := []) (lenOf pd_1 rfl) rfl (by show 2 * 0 + _ ≤ _; exact Nat.le_of_eq rfl) (hb hby d5_63) (fun _ _ => ⟨rfl, e2, (by decide : 0 + 0 ≤ _), (by decide : 0 + 0 ≤ _)⟩)
  dsimp only [Pt.U, Pt.locs, Pt.cells, Pt.slots] at X3 l3 y3 z3 st3 hQ3
  subst l3 y3 z3
  obtain ⟨rfl, Nq3, e3⟩ := hQ3
  have N3 := Fr.app N2 Nq3
  refine own_up st3 ?_
  show own_Go p.tables e below _ (T3.setTop (mkF m 66 #[.val (.ref rr), .val (.int ta), .val (.int rs), .val (.int r), .val (.int cn), .val (.long A), .second, .val (.long B), .second, .val (.int tb), .val (.int bs), .val (.int bq)] [(.int (1 : Int32))]))
  refine own_up (fun _ kq => XS.ifNo X3.here hx rfl (hb hby d5_66) rfl ((if0 _ _).trans (feq (by decide : ¬ ((1 : Int32) = (0 : Int32)))).1) kq) ?_
  show own_Go p.tables e below _ (T3.setTop (mkF m 69 #[.val (.ref rr), .val (.int ta), .val (.int rs), .val (.int r), .val (.int cn), .val (.long A), .second, .val (.long B), .second, .val (.int tb), .val (.int bs), .val (.int bq)] []))
  refine own_up (fun _ kq => XS.iconst X3.here hx rfl (hb hby d5_69) kq) ?_
  show own_Go p.tables e below _ (T3.setTop (mkF m 70 #[.val (.ref rr), .val (.int ta), .val (.int rs), .val (.int r), .val (.int cn), .val (.long A), .second, .val (.long B), .second, .val (.int tb), .val (.int bs), .val (.int bq)] [(.int (1 : Int32))]))
  refine own_up (fun _ kq => XS.goto X3.here hx rfl (pc0 := 70) (pc' := 74) rfl (hb hby d5_70) (by decide) (by decide) kq) ?_
  show own_Go p.tables e below _ (T3.setTop (mkF m 74 #[.val (.ref rr), .val (.int ta), .val (.int rs), .val (.int r), .val (.int cn), .val (.long A), .second, .val (.long B), .second, .val (.int tb), .val (.int bs), .val (.int bq)] [(.int (1 : Int32))]))
  obtain ⟨fs4, hr4, hrun4, hended4, hW4, hsame4⟩ := X3.leave (v := some (.int (1 : Int32))) (fun h => by rw [Bd.returns] at h; cases h)
  refine own_end ⟨_, _, ?_, hrun4, hended4, _, _, rfl, ?_, ⟨_, rfl⟩, hW4, hsame4.mono (by decide) (by decide)⟩
  · exact retN X3 hx (t := .boolean) Bd.returns (by simp) (hb hby d5_74) hr4
  · show QrmW Z rr ta rs r cn A B tb bs bq uu h0 n0 _ T3.heap _
    rw [e3]
    exact ⟨rfl, N3, rfl⟩
theorem pd_2 : parseMethodDescriptor "(DD)V" = some ⟨[.double, .double], none⟩ := by decide +kernel
theorem pd_3 : parseMethodDescriptor "([D[D[DIIIIII)V" = some ⟨[(.array .double), (.array .double), (.array .double), .int, .int, .int, .int, .int, .int], none⟩ := by decide +kernel
theorem pd_4 : parseMethodDescriptor "([DIIIIJJIII)Z" = some ⟨[(.array .double), .int, .int, .int, .int, .long, .long, .int, .int, .int], some .boolean⟩ := by decide +kernel
theorem ef_rm0 (m : MethodId) (x0 : Int32) (x1 : Int32) (x2 : Int32) (x3 : Int32) (x4 : Int32) (x5 : Int32) : entryFrame m #[(.int x0), (.int x1), (.int x2), (.int x3), (.int x4), (.int x5)] maxLocals = mkF m 0 #[.val (.int x0), .val (.int x1), .val (.int x2), .val (.int x3), .val (.int x4), .val (.int x5), .unset, .unset, .unset, .unset, .unset, .unset, .unset, .unset, .unset, .unset, .unset, .unset, .unset, .unset, .unset, .unset] [] := by first | (simp [entryFrame, mkF, argsToLocals, Value.category, maxLocals]; done) | rfl
def Qrm0 (Z : State) (p0 : Int32) (p1 : Int32) (p2 : Int32) (p3 : Int32) (p4 : Int32) (p5 : Int32) (h0 : Heap) (n0 : Nat) (v : Option Value) (h : Heap) (L : List Loc) : Prop := v = some (.int 1) ∧ Fr n0 L
set_option maxRecDepth 65536 in
set_option maxHeartbeats 40000000 in
theorem rm0 (l : Launch) (Z : State) (a0 : Array Value) (hw : ∀ d ∈ tables_1, d.before a0 Z = true) (ws : List Jvm.Cond) (p0 : Int32) (p1 : Int32) (p2 : Int32) (p3 : Int32) (p4 : Int32) (p5 : Int32) (h0 : Heap) (n0 : Nat) (Z0 : n0 ≤ h0.size) :
    MetFree l x (head1 (Jvm.Cond.code x code maxLocals ret :: ws) room_1) (fun aq Uq => aq = #[(.int p0), (.int p1), (.int p2), (.int p3), (.int p4), (.int p5)] ∧ Z.Warmed39 Uq.vm ∧ Uq.heap = h0) (fun _ _ _ _ _ => True) (fun _ Uq oq Uq' => ∃ vq Lq, oq = .returned vq ∧ Qrm0 Z p0 p1 p2 p3 p4 p5 h0 n0 vq Uq'.heap Lq ∧ FrameEnd Uq oq Uq' Lq 16 384) := by
  refine MetFree.of_bodySF (plainFor_of_name pn_2) hisR ?_
  intro p e s m args below meth c s₁ Bd hml0 hP hK
  obtain ⟨rfl, hZ, hh⟩ := hP
  have hx := Bd.exec
  have hby := Bd.bytes
  have hml : c.maxLocals = 22 := hml0
  have hown : s.vm.findClass "com/example/indexica/indexica/ScaledSumEightRowsPinLaw" = some m.cls := findClass_of_methodNamed Bd.named
  have hnm := (name_of_methodNamed Bd.named Bd.method).1
  have X0 : Stand p l e room_1 s m #[(.int p0), (.int p1), (.int p2), (.int p3), (.int p4), (.int p5)] below meth c s₁ [] 0 0 := Stand.of_body Bd
  have e0 : s₁.heap = h0 := by rw [← hh, Bd.state]; rfl
  have N0 := Fr.nil n0
  have ZH := Z0
  have KK := Keep.refl h0 []
  refine own_start (fun t kq => castTop (ef_rm0 m p0 p1 p2 p3 p4 p5) kq) ?_
  show own_Go p.tables e below _ (s₁.setTop (mkF m 0 #[.val (.int p0), .val (.int p1), .val (.int p2), .val (.int p3), .val (.int p4), .val (.int p5), .unset, .unset, .unset, .unset, .unset, .unset, .unset, .unset, .unset, .unset, .unset, .unset, .unset, .unset, .unset, .unset] []))
  refine own_up (fun _ kq => XS.iloadN X0.here hx rfl (hb hby at_0) rfl kq) ?_
  show own_Go p.tables e below _ (s₁.setTop (mkF m 1 #[.val (.int p0), .val (.int p1), .val (.int p2), .val (.int p3), .val (.int p4), .val (.int p5), .unset, .unset, .unset, .unset, .unset, .unset, .unset, .unset, .unset, .unset, .unset, .unset, .unset, .unset, .unset, .unset] [(.int p2)]))
  refine own_up (fun _ kq => XS.iconst X0.here hx rfl (hb hby at_1) kq) ?_
  show own_Go p.tables e below _ (s₁.setTop (mkF m 2 #[.val (.int p0), .val (.int p1), .val (.int p2), .val (.int p3), .val (.int p4), .val (.int p5), .unset, .unset, .unset, .unset, .unset, .unset, .unset, .unset, .unset, .unset, .unset, .unset, .unset, .unset, .unset, .unset] [(.int (3 : Int32)), (.int p2)]))
  refine own_up (fun _ kq => XS.iand X0.here hx rfl (hb hby at_2) rfl kq) ?_
  show own_Go p.tables e below _ (s₁.setTop (mkF m 3 #[.val (.int p0), .val (.int p1), .val (.int p2), .val (.int p3), .val (.int p4), .val (.int p5), .unset, .unset, .unset, .unset, .unset, .unset, .unset, .unset, .unset, .unset, .unset, .unset, .unset, .unset, .unset, .unset] [(.int (p2 &&& (3 : Int32)))]))
  generalize hcn : (p2 &&& (3 : Int32)) = cn
  show own_Go p.tables e below _ (s₁.setTop (mkF m 3 #[.val (.int p0), .val (.int p1), .val (.int p2), .val (.int p3), .val (.int p4), .val (.int p5), .unset, .unset, .unset, .unset, .unset, .unset, .unset, .unset, .unset, .unset, .unset, .unset, .unset, .unset, .unset, .unset] [(.int cn)]))
  refine own_up (fun _ kq => XS.istore X0.here hx rfl (hb hby at_3) rfl (l' := #[.val (.int p0), .val (.int p1), .val (.int p2), .val (.int p3), .val (.int p4), .val (.int p5), .val (.int cn), .unset, .unset, .unset, .unset, .unset, .unset, .unset, .unset, .unset, .unset, .unset, .unset, .unset, .unset, .unset]) rfl kq) ?_
  show own_Go p.tables e below _ (s₁.setTop (mkF m 5 #[.val (.int p0), .val (.int p1), .val (.int p2), .val (.int p3), .val (.int p4), .val (.int p5), .val (.int cn), .unset, .unset, .unset, .unset, .unset, .unset, .unset, .unset, .unset, .unset, .unset, .unset, .unset, .unset, .unset] []))
  refine own_up (fun _ kq => XS.iconst X0.here hx rfl (hb hby at_5) kq) ?_
  show own_Go p.tables e below _ (s₁.setTop (mkF m 6 #[.val (.int p0), .val (.int p1), .val (.int p2), .val (.int p3), .val (.int p4), .val (.int p5), .val (.int cn), .unset, .unset, .unset, .unset, .unset, .unset, .unset, .unset, .unset, .unset, .unset, .unset, .unset, .unset, .unset] [(.int (3 : Int32))]))
  refine own_up (fun _ kq => XS.iloadN X0.here hx rfl (hb hby at_6) rfl kq) ?_
  show own_Go p.tables e below _ (s₁.setTop (mkF m 7 #[.val (.int p0), .val (.int p1), .val (.int p2), .val (.int p3), .val (.int p4), .val (.int p5), .val (.int cn), .unset, .unset, .unset, .unset, .unset, .unset, .unset, .unset, .unset, .unset, .unset, .unset, .unset, .unset, .unset] [(.int p2), (.int (3 : Int32))]))
  refine own_up (fun _ kq => XS.iconst X0.here hx rfl (hb hby at_7) kq) ?_
  show own_Go p.tables e below _ (s₁.setTop (mkF m 8 #[.val (.int p0), .val (.int p1), .val (.int p2), .val (.int p3), .val (.int p4), .val (.int p5), .val (.int cn), .unset, .unset, .unset, .unset, .unset, .unset, .unset, .unset, .unset, .unset, .unset, .unset, .unset, .unset, .unset] [(.int (2 : Int32)), (.int p2), (.int (3 : Int32))]))
  refine own_up (fun _ kq => XS.iushr X0.here hx rfl (hb hby at_8) rfl kq) ?_
  show own_Go p.tables e below _ (s₁.setTop (mkF m 9 #[.val (.int p0), .val (.int p1), .val (.int p2), .val (.int p3), .val (.int p4), .val (.int p5), .val (.int cn), .unset, .unset, .unset, .unset, .unset, .unset, .unset, .unset, .unset, .unset, .unset, .unset, .unset, .unset, .unset] [(.int ((p2.toUInt32 >>> ((2 : Int32) &&& 31).toUInt32).toInt32)), (.int (3 : Int32))]))
  refine own_up (fun _ kq => XS.iconst X0.here hx rfl (hb hby at_9) kq) ?_
  show own_Go p.tables e below _ (s₁.setTop (mkF m 10 #[.val (.int p0), .val (.int p1), .val (.int p2), .val (.int p3), .val (.int p4), .val (.int p5), .val (.int cn), .unset, .unset, .unset, .unset, .unset, .unset, .unset, .unset, .unset, .unset, .unset, .unset, .unset, .unset, .unset] [(.int (3 : Int32)), (.int ((p2.toUInt32 >>> ((2 : Int32) &&& 31).toUInt32).toInt32)), (.int (3 : Int32))]))
  refine own_up (fun _ kq => XS.iand X0.here hx rfl (hb hby at_10) rfl kq) ?_
  show own_Go p.tables e below _ (s₁.setTop (mkF m 11 #[.val (.int p0), .val (.int p1), .val (.int p2), .val (.int p3), .val (.int p4), .val (.int p5), .val (.int cn), .unset, .unset, .unset, .unset, .unset, .unset, .unset, .unset, .unset, .unset, .unset, .unset, .unset, .unset, .unset] [(.int (((p2.toUInt32 >>> ((2 : Int32) &&& 31).toUInt32).toInt32) &&& (3 : Int32))), (.int (3 : Int32))]))
  refine own_up (fun _ kq => XS.iadd X0.here hx rfl (hb hby at_11) rfl kq) ?_
  show own_Go p.tables e below _ (s₁.setTop (mkF m 12 #[.val (.int p0), .val (.int p1), .val (.int p2), .val (.int p3), .val (.int p4), .val (.int p5), .val (.int cn), .unset, .unset, .unset, .unset, .unset, .unset, .unset, .unset, .unset, .unset, .unset, .unset, .unset, .unset, .unset] [(.int ((3 : Int32) + (((p2.toUInt32 >>> ((2 : Int32) &&& 31).toUInt32).toInt32) &&& (3 : Int32))))]))
  generalize hra : ((3 : Int32) + (((p2.toUInt32 >>> ((2 : Int32) &&& 31).toUInt32).toInt32) &&& (3 : Int32))) = ra
  show own_Go p.tables e below _ (s₁.setTop (mkF m 12 #[.val (.int p0), .val (.int p1), .val (.int p2), .val (.int p3), .val (.int p4), .val (.int p5), .val (.int cn), .unset, .unset, .unset, .unset, .unset, .unset, .unset, .unset, .unset, .unset, .unset, .unset, .unset, .unset, .unset] [(.int ra)]))
  refine own_up (fun _ kq => XS.istore X0.here hx rfl (hb hby at_12) rfl (l' := #[.val (.int p0), .val (.int p1), .val (.int p2), .val (.int p3), .val (.int p4), .val (.int p5), .val (.int cn), .val (.int ra), .unset, .unset, .unset, .unset, .unset, .unset, .unset, .unset, .unset, .unset, .unset, .unset, .unset, .unset]) rfl kq) ?_
  show own_Go p.tables e below _ (s₁.setTop (mkF m 14 #[.val (.int p0), .val (.int p1), .val (.int p2), .val (.int p3), .val (.int p4), .val (.int p5), .val (.int cn), .val (.int ra), .unset, .unset, .unset, .unset, .unset, .unset, .unset, .unset, .unset, .unset, .unset, .unset, .unset, .unset] []))
  refine own_up (fun _ kq => XS.iloadN X0.here hx rfl (hb hby at_14) rfl kq) ?_
  show own_Go p.tables e below _ (s₁.setTop (mkF m 15 #[.val (.int p0), .val (.int p1), .val (.int p2), .val (.int p3), .val (.int p4), .val (.int p5), .val (.int cn), .val (.int ra), .unset, .unset, .unset, .unset, .unset, .unset, .unset, .unset, .unset, .unset, .unset, .unset, .unset, .unset] [(.int p2)]))
  refine own_up (fun _ kq => XS.iconst X0.here hx rfl (hb hby at_15) kq) ?_
  show own_Go p.tables e below _ (s₁.setTop (mkF m 16 #[.val (.int p0), .val (.int p1), .val (.int p2), .val (.int p3), .val (.int p4), .val (.int p5), .val (.int cn), .val (.int ra), .unset, .unset, .unset, .unset, .unset, .unset, .unset, .unset, .unset, .unset, .unset, .unset, .unset, .unset] [(.int (4 : Int32)), (.int p2)]))
  refine own_up (fun _ kq => XS.iushr X0.here hx rfl (hb hby at_16) rfl kq) ?_
  show own_Go p.tables e below _ (s₁.setTop (mkF m 17 #[.val (.int p0), .val (.int p1), .val (.int p2), .val (.int p3), .val (.int p4), .val (.int p5), .val (.int cn), .val (.int ra), .unset, .unset, .unset, .unset, .unset, .unset, .unset, .unset, .unset, .unset, .unset, .unset, .unset, .unset] [(.int ((p2.toUInt32 >>> ((4 : Int32) &&& 31).toUInt32).toInt32))]))
  refine own_up (fun _ kq => XS.iconst X0.here hx rfl (hb hby at_17) kq) ?_
  show own_Go p.tables e below _ (s₁.setTop (mkF m 18 #[.val (.int p0), .val (.int p1), .val (.int p2), .val (.int p3), .val (.int p4), .val (.int p5), .val (.int cn), .val (.int ra), .unset, .unset, .unset, .unset, .unset, .unset, .unset, .unset, .unset, .unset, .unset, .unset, .unset, .unset] [(.int (1 : Int32)), (.int ((p2.toUInt32 >>> ((4 : Int32) &&& 31).toUInt32).toInt32))]))
  refine own_up (fun _ kq => XS.iand X0.here hx rfl (hb hby at_18) rfl kq) ?_
  show own_Go p.tables e below _ (s₁.setTop (mkF m 19 #[.val (.int p0), .val (.int p1), .val (.int p2), .val (.int p3), .val (.int p4), .val (.int p5), .val (.int cn), .val (.int ra), .unset, .unset, .unset, .unset, .unset, .unset, .unset, .unset, .unset, .unset, .unset, .unset, .unset, .unset] [(.int (((p2.toUInt32 >>> ((4 : Int32) &&& 31).toUInt32).toInt32) &&& (1 : Int32)))]))
  obtain ⟨v19, hv19⟩ : ∃ z : Int32, z = if (((p2.toUInt32 >>> ((4 : Int32) &&& 31).toUInt32).toInt32) &&& (1 : Int32)) = (0 : Int32) then (0 : Int32) else (1 : Int32) := ⟨_, rfl⟩
  have sg1 : ∀ t, Steps p.tables e below (s₁.setTop (mkF m 27 #[.val (.int p0), .val (.int p1), .val (.int p2), .val (.int p3), .val (.int p4), .val (.int p5), .val (.int cn), .val (.int ra), .unset, .unset, .unset, .unset, .unset, .unset, .unset, .unset, .unset, .unset, .unset, .unset, .unset, .unset] [(.int v19)])) t → Steps p.tables e below (s₁.setTop (mkF m 19 #[.val (.int p0), .val (.int p1), .val (.int p2), .val (.int p3), .val (.int p4), .val (.int p5), .val (.int cn), .val (.int ra), .unset, .unset, .unset, .unset, .unset, .unset, .unset, .unset, .unset, .unset, .unset, .unset, .unset, .unset] [(.int (((p2.toUInt32 >>> ((4 : Int32) &&& 31).toUInt32).toInt32) &&& (1 : Int32)))])) t := by
    intro t kq
    by_cases hc19 : (((p2.toUInt32 >>> ((4 : Int32) &&& 31).toUInt32).toInt32) &&& (1 : Int32)) = (0 : Int32)
    · rw [hv19, if_pos hc19] at kq
      refine XS.ifYes X0.here hx rfl (pc0 := 19) (pc' := 26) rfl (hb hby at_19) rfl ((if0 _ _).trans (teq hc19).1) (by decide) (by decide) ?_
      show Steps p.tables e below (s₁.setTop (mkF m 26 #[.val (.int p0), .val (.int p1), .val (.int p2), .val (.int p3), .val (.int p4), .val (.int p5), .val (.int cn), .val (.int ra), .unset, .unset, .unset, .unset, .unset, .unset, .unset, .unset, .unset, .unset, .unset, .unset, .unset, .unset] [])) _
      refine XS.iconst X0.here hx rfl (hb hby at_26) ?_
      show Steps p.tables e below (s₁.setTop (mkF m 27 #[.val (.int p0), .val (.int p1), .val (.int p2), .val (.int p3), .val (.int p4), .val (.int p5), .val (.int cn), .val (.int ra), .unset, .unset, .unset, .unset, .unset, .unset, .unset, .unset, .unset, .unset, .unset, .unset, .unset, .unset] [(.int (0 : Int32))])) _
      exact kq
    · rw [hv19, if_neg hc19] at kq
      refine XS.ifNo X0.here hx rfl (hb hby at_19) rfl ((if0 _ _).trans (feq hc19).1) ?_
      show Steps p.tables e below (s₁.setTop (mkF m 22 #[.val (.int p0), .val (.int p1), .val (.int p2), .val (.int p3), .val (.int p4), .val (.int p5), .val (.int cn), .val (.int ra), .unset, .unset, .unset, .unset, .unset, .unset, .unset, .unset, .unset, .unset, .unset, .unset, .unset, .unset] [])) _
      refine XS.iconst X0.here hx rfl (hb hby at_22) ?_
      show Steps p.tables e below (s₁.setTop (mkF m 23 #[.val (.int p0), .val (.int p1), .val (.int p2), .val (.int p3), .val (.int p4), .val (.int p5), .val (.int cn), .val (.int ra), .unset, .unset, .unset, .unset, .unset, .unset, .unset, .unset, .unset, .unset, .unset, .unset, .unset, .unset] [(.int (1 : Int32))])) _
      refine XS.goto X0.here hx rfl (pc0 := 23) (pc' := 27) rfl (hb hby at_23) (by decide) (by decide) ?_
      show Steps p.tables e below (s₁.setTop (mkF m 27 #[.val (.int p0), .val (.int p1), .val (.int p2), .val (.int p3), .val (.int p4), .val (.int p5), .val (.int cn), .val (.int ra), .unset, .unset, .unset, .unset, .unset, .unset, .unset, .unset, .unset, .unset, .unset, .unset, .unset, .unset] [(.int (1 : Int32))])) _
      exact kq
  refine own_up sg1 ?_
  show own_Go p.tables e below _ (s₁.setTop (mkF m 27 #[.val (.int p0), .val (.int p1), .val (.int p2), .val (.int p3), .val (.int p4), .val (.int p5), .val (.int cn), .val (.int ra), .unset, .unset, .unset, .unset, .unset, .unset, .unset, .unset, .unset, .unset, .unset, .unset, .unset, .unset] [(.int v19)]))
  refine own_up (fun _ kq => XS.istore X0.here hx rfl (hb hby at_27) rfl (l' := #[.val (.int p0), .val (.int p1), .val (.int p2), .val (.int p3), .val (.int p4), .val (.int p5), .val (.int cn), .val (.int ra), .val (.int v19), .unset, .unset, .unset, .unset, .unset, .unset, .unset, .unset, .unset, .unset, .unset, .unset, .unset]) rfl kq) ?_
  show own_Go p.tables e below _ (s₁.setTop (mkF m 29 #[.val (.int p0), .val (.int p1), .val (.int p2), .val (.int p3), .val (.int p4), .val (.int p5), .val (.int cn), .val (.int ra), .val (.int v19), .unset, .unset, .unset, .unset, .unset, .unset, .unset, .unset, .unset, .unset, .unset, .unset, .unset] []))
  refine own_up (fun _ kq => XS.iload X0.here hx rfl (hb hby at_29) rfl kq) ?_
  show own_Go p.tables e below _ (s₁.setTop (mkF m 31 #[.val (.int p0), .val (.int p1), .val (.int p2), .val (.int p3), .val (.int p4), .val (.int p5), .val (.int cn), .val (.int ra), .val (.int v19), .unset, .unset, .unset, .unset, .unset, .unset, .unset, .unset, .unset, .unset, .unset, .unset, .unset] [(.int v19)]))
  obtain ⟨v31, hv31⟩ : ∃ z : Int32, z = if v19 = (0 : Int32) then ra else (-ra) := ⟨_, rfl⟩
  have sg2 : ∀ t, Steps p.tables e below (s₁.setTop (mkF m 42 #[.val (.int p0), .val (.int p1), .val (.int p2), .val (.int p3), .val (.int p4), .val (.int p5), .val (.int cn), .val (.int ra), .val (.int v19), .unset, .unset, .unset, .unset, .unset, .unset, .unset, .unset, .unset, .unset, .unset, .unset, .unset] [(.int v31)])) t → Steps p.tables e below (s₁.setTop (mkF m 31 #[.val (.int p0), .val (.int p1), .val (.int p2), .val (.int p3), .val (.int p4), .val (.int p5), .val (.int cn), .val (.int ra), .val (.int v19), .unset, .unset, .unset, .unset, .unset, .unset, .unset, .unset, .unset, .unset, .unset, .unset, .unset] [(.int v19)])) t := by
    intro t kq
    by_cases hc31 : v19 = (0 : Int32)
    · rw [hv31, if_pos hc31] at kq
      refine XS.ifYes X0.here hx rfl (pc0 := 31) (pc' := 40) rfl (hb hby at_31) rfl ((if0 _ _).trans (teq hc31).1) (by decide) (by decide) ?_
      show Steps p.tables e below (s₁.setTop (mkF m 40 #[.val (.int p0), .val (.int p1), .val (.int p2), .val (.int p3), .val (.int p4), .val (.int p5), .val (.int cn), .val (.int ra), .val (.int v19), .unset, .unset, .unset, .unset, .unset, .unset, .unset, .unset, .unset, .unset, .unset, .unset, .unset] [])) _
      refine XS.iload X0.here hx rfl (hb hby at_40) rfl ?_
      show Steps p.tables e below (s₁.setTop (mkF m 42 #[.val (.int p0), .val (.int p1), .val (.int p2), .val (.int p3), .val (.int p4), .val (.int p5), .val (.int cn), .val (.int ra), .val (.int v19), .unset, .unset, .unset, .unset, .unset, .unset, .unset, .unset, .unset, .unset, .unset, .unset, .unset] [(.int ra)])) _
      exact kq
    · rw [hv31, if_neg hc31] at kq
      refine XS.ifNo X0.here hx rfl (hb hby at_31) rfl ((if0 _ _).trans (feq hc31).1) ?_
      show Steps p.tables e below (s₁.setTop (mkF m 34 #[.val (.int p0), .val (.int p1), .val (.int p2), .val (.int p3), .val (.int p4), .val (.int p5), .val (.int cn), .val (.int ra), .val (.int v19), .unset, .unset, .unset, .unset, .unset, .unset, .unset, .unset, .unset, .unset, .unset, .unset, .unset] [])) _
      refine XS.iload X0.here hx rfl (hb hby at_34) rfl ?_
      show Steps p.tables e below (s₁.setTop (mkF m 36 #[.val (.int p0), .val (.int p1), .val (.int p2), .val (.int p3), .val (.int p4), .val (.int p5), .val (.int cn), .val (.int ra), .val (.int v19), .unset, .unset, .unset, .unset, .unset, .unset, .unset, .unset, .unset, .unset, .unset, .unset, .unset] [(.int ra)])) _
      refine XS.ineg X0.here hx rfl (hb hby at_36) rfl ?_
      show Steps p.tables e below (s₁.setTop (mkF m 37 #[.val (.int p0), .val (.int p1), .val (.int p2), .val (.int p3), .val (.int p4), .val (.int p5), .val (.int cn), .val (.int ra), .val (.int v19), .unset, .unset, .unset, .unset, .unset, .unset, .unset, .unset, .unset, .unset, .unset, .unset, .unset] [(.int (-ra))])) _
      refine XS.goto X0.here hx rfl (pc0 := 37) (pc' := 42) rfl (hb hby at_37) (by decide) (by decide) ?_
      show Steps p.tables e below (s₁.setTop (mkF m 42 #[.val (.int p0), .val (.int p1), .val (.int p2), .val (.int p3), .val (.int p4), .val (.int p5), .val (.int cn), .val (.int ra), .val (.int v19), .unset, .unset, .unset, .unset, .unset, .unset, .unset, .unset, .unset, .unset, .unset, .unset, .unset] [(.int (-ra))])) _
      exact kq
  refine own_up sg2 ?_
  show own_Go p.tables e below _ (s₁.setTop (mkF m 42 #[.val (.int p0), .val (.int p1), .val (.int p2), .val (.int p3), .val (.int p4), .val (.int p5), .val (.int cn), .val (.int ra), .val (.int v19), .unset, .unset, .unset, .unset, .unset, .unset, .unset, .unset, .unset, .unset, .unset, .unset, .unset] [(.int v31)]))
  refine own_up (fun _ kq => XS.istore X0.here hx rfl (hb hby at_42) rfl (l' := #[.val (.int p0), .val (.int p1), .val (.int p2), .val (.int p3), .val (.int p4), .val (.int p5), .val (.int cn), .val (.int ra), .val (.int v19), .val (.int v31), .unset, .unset, .unset, .unset, .unset, .unset, .unset, .unset, .unset, .unset, .unset, .unset]) rfl kq) ?_
  show own_Go p.tables e below _ (s₁.setTop (mkF m 44 #[.val (.int p0), .val (.int p1), .val (.int p2), .val (.int p3), .val (.int p4), .val (.int p5), .val (.int cn), .val (.int ra), .val (.int v19), .val (.int v31), .unset, .unset, .unset, .unset, .unset, .unset, .unset, .unset, .unset, .unset, .unset, .unset] []))
  refine own_up (fun _ kq => XS.iload X0.here hx rfl (hb hby at_44) rfl kq) ?_
  show own_Go p.tables e below _ (s₁.setTop (mkF m 46 #[.val (.int p0), .val (.int p1), .val (.int p2), .val (.int p3), .val (.int p4), .val (.int p5), .val (.int cn), .val (.int ra), .val (.int v19), .val (.int v31), .unset, .unset, .unset, .unset, .unset, .unset, .unset, .unset, .unset, .unset, .unset, .unset] [(.int v19)]))
  obtain ⟨v46, hv46⟩ : ∃ z : Int32, z = if v19 = (0 : Int32) then (0 : Int32) else ((7 : Int32) * ra) := ⟨_, rfl⟩
  have sg3 : ∀ t, Steps p.tables e below (s₁.setTop (mkF m 58 #[.val (.int p0), .val (.int p1), .val (.int p2), .val (.int p3), .val (.int p4), .val (.int p5), .val (.int cn), .val (.int ra), .val (.int v19), .val (.int v31), .unset, .unset, .unset, .unset, .unset, .unset, .unset, .unset, .unset, .unset, .unset, .unset] [(.int v46)])) t → Steps p.tables e below (s₁.setTop (mkF m 46 #[.val (.int p0), .val (.int p1), .val (.int p2), .val (.int p3), .val (.int p4), .val (.int p5), .val (.int cn), .val (.int ra), .val (.int v19), .val (.int v31), .unset, .unset, .unset, .unset, .unset, .unset, .unset, .unset, .unset, .unset, .unset, .unset] [(.int v19)])) t := by
    intro t kq
    by_cases hc46 : v19 = (0 : Int32)
    · rw [hv46, if_pos hc46] at kq
      refine XS.ifYes X0.here hx rfl (pc0 := 46) (pc' := 57) rfl (hb hby at_46) rfl ((if0 _ _).trans (teq hc46).1) (by decide) (by decide) ?_
      show Steps p.tables e below (s₁.setTop (mkF m 57 #[.val (.int p0), .val (.int p1), .val (.int p2), .val (.int p3), .val (.int p4), .val (.int p5), .val (.int cn), .val (.int ra), .val (.int v19), .val (.int v31), .unset, .unset, .unset, .unset, .unset, .unset, .unset, .unset, .unset, .unset, .unset, .unset] [])) _
      refine XS.iconst X0.here hx rfl (hb hby at_57) ?_
      show Steps p.tables e below (s₁.setTop (mkF m 58 #[.val (.int p0), .val (.int p1), .val (.int p2), .val (.int p3), .val (.int p4), .val (.int p5), .val (.int cn), .val (.int ra), .val (.int v19), .val (.int v31), .unset, .unset, .unset, .unset, .unset, .unset, .unset, .unset, .unset, .unset, .unset, .unset] [(.int (0 : Int32))])) _
      exact kq
    · rw [hv46, if_neg hc46] at kq
      refine XS.ifNo X0.here hx rfl (hb hby at_46) rfl ((if0 _ _).trans (feq hc46).1) ?_
      show Steps p.tables e below (s₁.setTop (mkF m 49 #[.val (.int p0), .val (.int p1), .val (.int p2), .val (.int p3), .val (.int p4), .val (.int p5), .val (.int cn), .val (.int ra), .val (.int v19), .val (.int v31), .unset, .unset, .unset, .unset, .unset, .unset, .unset, .unset, .unset, .unset, .unset, .unset] [])) _
      refine XS.bipush X0.here hx rfl (hb hby at_49) ?_
      show Steps p.tables e below (s₁.setTop (mkF m 51 #[.val (.int p0), .val (.int p1), .val (.int p2), .val (.int p3), .val (.int p4), .val (.int p5), .val (.int cn), .val (.int ra), .val (.int v19), .val (.int v31), .unset, .unset, .unset, .unset, .unset, .unset, .unset, .unset, .unset, .unset, .unset, .unset] [(.int (7 : Int32))])) _
      refine XS.iload X0.here hx rfl (hb hby at_51) rfl ?_
      show Steps p.tables e below (s₁.setTop (mkF m 53 #[.val (.int p0), .val (.int p1), .val (.int p2), .val (.int p3), .val (.int p4), .val (.int p5), .val (.int cn), .val (.int ra), .val (.int v19), .val (.int v31), .unset, .unset, .unset, .unset, .unset, .unset, .unset, .unset, .unset, .unset, .unset, .unset] [(.int ra), (.int (7 : Int32))])) _
      refine XS.imul X0.here hx rfl (hb hby at_53) rfl ?_
      show Steps p.tables e below (s₁.setTop (mkF m 54 #[.val (.int p0), .val (.int p1), .val (.int p2), .val (.int p3), .val (.int p4), .val (.int p5), .val (.int cn), .val (.int ra), .val (.int v19), .val (.int v31), .unset, .unset, .unset, .unset, .unset, .unset, .unset, .unset, .unset, .unset, .unset, .unset] [(.int ((7 : Int32) * ra))])) _
      refine XS.goto X0.here hx rfl (pc0 := 54) (pc' := 58) rfl (hb hby at_54) (by decide) (by decide) ?_
      show Steps p.tables e below (s₁.setTop (mkF m 58 #[.val (.int p0), .val (.int p1), .val (.int p2), .val (.int p3), .val (.int p4), .val (.int p5), .val (.int cn), .val (.int ra), .val (.int v19), .val (.int v31), .unset, .unset, .unset, .unset, .unset, .unset, .unset, .unset, .unset, .unset, .unset, .unset] [(.int ((7 : Int32) * ra))])) _
      exact kq
  refine own_up sg3 ?_
  show own_Go p.tables e below _ (s₁.setTop (mkF m 58 #[.val (.int p0), .val (.int p1), .val (.int p2), .val (.int p3), .val (.int p4), .val (.int p5), .val (.int cn), .val (.int ra), .val (.int v19), .val (.int v31), .unset, .unset, .unset, .unset, .unset, .unset, .unset, .unset, .unset, .unset, .unset, .unset] [(.int v46)]))
  refine own_up (fun _ kq => XS.iloadN X0.here hx rfl (hb hby at_58) rfl kq) ?_
  show own_Go p.tables e below _ (s₁.setTop (mkF m 59 #[.val (.int p0), .val (.int p1), .val (.int p2), .val (.int p3), .val (.int p4), .val (.int p5), .val (.int cn), .val (.int ra), .val (.int v19), .val (.int v31), .unset, .unset, .unset, .unset, .unset, .unset, .unset, .unset, .unset, .unset, .unset, .unset] [(.int p2), (.int v46)]))
  refine own_up (fun _ kq => XS.iconst X0.here hx rfl (hb hby at_59) kq) ?_
  show own_Go p.tables e below _ (s₁.setTop (mkF m 60 #[.val (.int p0), .val (.int p1), .val (.int p2), .val (.int p3), .val (.int p4), .val (.int p5), .val (.int cn), .val (.int ra), .val (.int v19), .val (.int v31), .unset, .unset, .unset, .unset, .unset, .unset, .unset, .unset, .unset, .unset, .unset, .unset] [(.int (5 : Int32)), (.int p2), (.int v46)]))
  refine own_up (fun _ kq => XS.iushr X0.here hx rfl (hb hby at_60) rfl kq) ?_
  show own_Go p.tables e below _ (s₁.setTop (mkF m 61 #[.val (.int p0), .val (.int p1), .val (.int p2), .val (.int p3), .val (.int p4), .val (.int p5), .val (.int cn), .val (.int ra), .val (.int v19), .val (.int v31), .unset, .unset, .unset, .unset, .unset, .unset, .unset, .unset, .unset, .unset, .unset, .unset] [(.int ((p2.toUInt32 >>> ((5 : Int32) &&& 31).toUInt32).toInt32)), (.int v46)]))
  refine own_up (fun _ kq => XS.iconst X0.here hx rfl (hb hby at_61) kq) ?_
  show own_Go p.tables e below _ (s₁.setTop (mkF m 62 #[.val (.int p0), .val (.int p1), .val (.int p2), .val (.int p3), .val (.int p4), .val (.int p5), .val (.int cn), .val (.int ra), .val (.int v19), .val (.int v31), .unset, .unset, .unset, .unset, .unset, .unset, .unset, .unset, .unset, .unset, .unset, .unset] [(.int (3 : Int32)), (.int ((p2.toUInt32 >>> ((5 : Int32) &&& 31).toUInt32).toInt32)), (.int v46)]))
  refine own_up (fun _ kq => XS.iand X0.here hx rfl (hb hby at_62) rfl kq) ?_
  show own_Go p.tables e below _ (s₁.setTop (mkF m 63 #[.val (.int p0), .val (.int p1), .val (.int p2), .val (.int p3), .val (.int p4), .val (.int p5), .val (.int cn), .val (.int ra), .val (.int v19), .val (.int v31), .unset, .unset, .unset, .unset, .unset, .unset, .unset, .unset, .unset, .unset, .unset, .unset] [(.int (((p2.toUInt32 >>> ((5 : Int32) &&& 31).toUInt32).toInt32) &&& (3 : Int32))), (.int v46)]))
  refine own_up (fun _ kq => XS.iadd X0.here hx rfl (hb hby at_63) rfl kq) ?_
  show own_Go p.tables e below _ (s₁.setTop (mkF m 64 #[.val (.int p0), .val (.int p1), .val (.int p2), .val (.int p3), .val (.int p4), .val (.int p5), .val (.int cn), .val (.int ra), .val (.int v19), .val (.int v31), .unset, .unset, .unset, .unset, .unset, .unset, .unset, .unset, .unset, .unset, .unset, .unset] [(.int (v46 + (((p2.toUInt32 >>> ((5 : Int32) &&& 31).toUInt32).toInt32) &&& (3 : Int32))))]))
  generalize hta : (v46 + (((p2.toUInt32 >>> ((5 : Int32) &&& 31).toUInt32).toInt32) &&& (3 : Int32))) = ta
  show own_Go p.tables e below _ (s₁.setTop (mkF m 64 #[.val (.int p0), .val (.int p1), .val (.int p2), .val (.int p3), .val (.int p4), .val (.int p5), .val (.int cn), .val (.int ra), .val (.int v19), .val (.int v31), .unset, .unset, .unset, .unset, .unset, .unset, .unset, .unset, .unset, .unset, .unset, .unset] [(.int ta)]))
  refine own_up (fun _ kq => XS.istore X0.here hx rfl (hb hby at_64) rfl (l' := #[.val (.int p0), .val (.int p1), .val (.int p2), .val (.int p3), .val (.int p4), .val (.int p5), .val (.int cn), .val (.int ra), .val (.int v19), .val (.int v31), .val (.int ta), .unset, .unset, .unset, .unset, .unset, .unset, .unset, .unset, .unset, .unset, .unset]) rfl kq) ?_
  show own_Go p.tables e below _ (s₁.setTop (mkF m 66 #[.val (.int p0), .val (.int p1), .val (.int p2), .val (.int p3), .val (.int p4), .val (.int p5), .val (.int cn), .val (.int ra), .val (.int v19), .val (.int v31), .val (.int ta), .unset, .unset, .unset, .unset, .unset, .unset, .unset, .unset, .unset, .unset, .unset] []))
  refine own_up (fun _ kq => XS.iloadN X0.here hx rfl (hb hby at_66) rfl kq) ?_
  show own_Go p.tables e below _ (s₁.setTop (mkF m 67 #[.val (.int p0), .val (.int p1), .val (.int p2), .val (.int p3), .val (.int p4), .val (.int p5), .val (.int cn), .val (.int ra), .val (.int v19), .val (.int v31), .val (.int ta), .unset, .unset, .unset, .unset, .unset, .unset, .unset, .unset, .unset, .unset, .unset] [(.int p3)]))
  refine own_up (fun _ kq => XS.iconst X0.here hx rfl (hb hby at_67) kq) ?_
  show own_Go p.tables e below _ (s₁.setTop (mkF m 68 #[.val (.int p0), .val (.int p1), .val (.int p2), .val (.int p3), .val (.int p4), .val (.int p5), .val (.int cn), .val (.int ra), .val (.int v19), .val (.int v31), .val (.int ta), .unset, .unset, .unset, .unset, .unset, .unset, .unset, .unset, .unset, .unset, .unset] [(.int (4 : Int32)), (.int p3)]))
  refine own_up (fun _ kq => XS.irem X0.here hx rfl (hb hby at_68) rfl (by decide) kq) ?_
  rw [irem_eq_mod p3 (4 : Int32)]
  show own_Go p.tables e below _ (s₁.setTop (mkF m 69 #[.val (.int p0), .val (.int p1), .val (.int p2), .val (.int p3), .val (.int p4), .val (.int p5), .val (.int cn), .val (.int ra), .val (.int v19), .val (.int v31), .val (.int ta), .unset, .unset, .unset, .unset, .unset, .unset, .unset, .unset, .unset, .unset, .unset] [(.int (p3 % (4 : Int32)))]))
  generalize hbs : (p3 % (4 : Int32)) = bs
  show own_Go p.tables e below _ (s₁.setTop (mkF m 69 #[.val (.int p0), .val (.int p1), .val (.int p2), .val (.int p3), .val (.int p4), .val (.int p5), .val (.int cn), .val (.int ra), .val (.int v19), .val (.int v31), .val (.int ta), .unset, .unset, .unset, .unset, .unset, .unset, .unset, .unset, .unset, .unset, .unset] [(.int bs)]))
  refine own_up (fun _ kq => XS.istore X0.here hx rfl (hb hby at_69) rfl (l' := #[.val (.int p0), .val (.int p1), .val (.int p2), .val (.int p3), .val (.int p4), .val (.int p5), .val (.int cn), .val (.int ra), .val (.int v19), .val (.int v31), .val (.int ta), .val (.int bs), .unset, .unset, .unset, .unset, .unset, .unset, .unset, .unset, .unset, .unset]) rfl kq) ?_
  show own_Go p.tables e below _ (s₁.setTop (mkF m 71 #[.val (.int p0), .val (.int p1), .val (.int p2), .val (.int p3), .val (.int p4), .val (.int p5), .val (.int cn), .val (.int ra), .val (.int v19), .val (.int v31), .val (.int ta), .val (.int bs), .unset, .unset, .unset, .unset, .unset, .unset, .unset, .unset, .unset, .unset] []))
  refine own_up (fun _ kq => XS.iload X0.here hx rfl (hb hby at_71) rfl kq) ?_
  show own_Go p.tables e below _ (s₁.setTop (mkF m 73 #[.val (.int p0), .val (.int p1), .val (.int p2), .val (.int p3), .val (.int p4), .val (.int p5), .val (.int cn), .val (.int ra), .val (.int v19), .val (.int v31), .val (.int ta), .val (.int bs), .unset, .unset, .unset, .unset, .unset, .unset, .unset, .unset, .unset, .unset] [(.int p4)]))
  refine own_up (fun _ kq => XS.iconst X0.here hx rfl (hb hby at_73) kq) ?_
  show own_Go p.tables e below _ (s₁.setTop (mkF m 74 #[.val (.int p0), .val (.int p1), .val (.int p2), .val (.int p3), .val (.int p4), .val (.int p5), .val (.int cn), .val (.int ra), .val (.int v19), .val (.int v31), .val (.int ta), .val (.int bs), .unset, .unset, .unset, .unset, .unset, .unset, .unset, .unset, .unset, .unset] [(.int (4 : Int32)), (.int p4)]))
  refine own_up (fun _ kq => XS.irem X0.here hx rfl (hb hby at_74) rfl (by decide) kq) ?_
  rw [irem_eq_mod p4 (4 : Int32)]
  show own_Go p.tables e below _ (s₁.setTop (mkF m 75 #[.val (.int p0), .val (.int p1), .val (.int p2), .val (.int p3), .val (.int p4), .val (.int p5), .val (.int cn), .val (.int ra), .val (.int v19), .val (.int v31), .val (.int ta), .val (.int bs), .unset, .unset, .unset, .unset, .unset, .unset, .unset, .unset, .unset, .unset] [(.int (p4 % (4 : Int32)))]))
  generalize hbq : (p4 % (4 : Int32)) = bq
  show own_Go p.tables e below _ (s₁.setTop (mkF m 75 #[.val (.int p0), .val (.int p1), .val (.int p2), .val (.int p3), .val (.int p4), .val (.int p5), .val (.int cn), .val (.int ra), .val (.int v19), .val (.int v31), .val (.int ta), .val (.int bs), .unset, .unset, .unset, .unset, .unset, .unset, .unset, .unset, .unset, .unset] [(.int bq)]))
  refine own_up (fun _ kq => XS.istore X0.here hx rfl (hb hby at_75) rfl (l' := #[.val (.int p0), .val (.int p1), .val (.int p2), .val (.int p3), .val (.int p4), .val (.int p5), .val (.int cn), .val (.int ra), .val (.int v19), .val (.int v31), .val (.int ta), .val (.int bs), .val (.int bq), .unset, .unset, .unset, .unset, .unset, .unset, .unset, .unset, .unset]) rfl kq) ?_
  show own_Go p.tables e below _ (s₁.setTop (mkF m 77 #[.val (.int p0), .val (.int p1), .val (.int p2), .val (.int p3), .val (.int p4), .val (.int p5), .val (.int cn), .val (.int ra), .val (.int v19), .val (.int v31), .val (.int ta), .val (.int bs), .val (.int bq), .unset, .unset, .unset, .unset, .unset, .unset, .unset, .unset, .unset] []))
  refine own_up (fun _ kq => XS.bipush X0.here hx rfl (hb hby at_77) kq) ?_
  show own_Go p.tables e below _ (s₁.setTop (mkF m 79 #[.val (.int p0), .val (.int p1), .val (.int p2), .val (.int p3), .val (.int p4), .val (.int p5), .val (.int cn), .val (.int ra), .val (.int v19), .val (.int v31), .val (.int ta), .val (.int bs), .val (.int bq), .unset, .unset, .unset, .unset, .unset, .unset, .unset, .unset, .unset] [(.int (27 : Int32))]))
  refine own_up (fun _ kq => XS.iload X0.here hx rfl (hb hby at_79) rfl kq) ?_
  show own_Go p.tables e below _ (s₁.setTop (mkF m 81 #[.val (.int p0), .val (.int p1), .val (.int p2), .val (.int p3), .val (.int p4), .val (.int p5), .val (.int cn), .val (.int ra), .val (.int v19), .val (.int v31), .val (.int ta), .val (.int bs), .val (.int bq), .unset, .unset, .unset, .unset, .unset, .unset, .unset, .unset, .unset] [(.int p5), (.int (27 : Int32))]))
  refine own_up (fun _ kq => XS.iconst X0.here hx rfl (hb hby at_81) kq) ?_
  show own_Go p.tables e below _ (s₁.setTop (mkF m 82 #[.val (.int p0), .val (.int p1), .val (.int p2), .val (.int p3), .val (.int p4), .val (.int p5), .val (.int cn), .val (.int ra), .val (.int v19), .val (.int v31), .val (.int ta), .val (.int bs), .val (.int bq), .unset, .unset, .unset, .unset, .unset, .unset, .unset, .unset, .unset] [(.int (3 : Int32)), (.int p5), (.int (27 : Int32))]))
  refine own_up (fun _ kq => XS.iand X0.here hx rfl (hb hby at_82) rfl kq) ?_
  show own_Go p.tables e below _ (s₁.setTop (mkF m 83 #[.val (.int p0), .val (.int p1), .val (.int p2), .val (.int p3), .val (.int p4), .val (.int p5), .val (.int cn), .val (.int ra), .val (.int v19), .val (.int v31), .val (.int ta), .val (.int bs), .val (.int bq), .unset, .unset, .unset, .unset, .unset, .unset, .unset, .unset, .unset] [(.int (p5 &&& (3 : Int32))), (.int (27 : Int32))]))
  refine own_up (fun _ kq => XS.iadd X0.here hx rfl (hb hby at_83) rfl kq) ?_
  show own_Go p.tables e below _ (s₁.setTop (mkF m 84 #[.val (.int p0), .val (.int p1), .val (.int p2), .val (.int p3), .val (.int p4), .val (.int p5), .val (.int cn), .val (.int ra), .val (.int v19), .val (.int v31), .val (.int ta), .val (.int bs), .val (.int bq), .unset, .unset, .unset, .unset, .unset, .unset, .unset, .unset, .unset] [(.int ((27 : Int32) + (p5 &&& (3 : Int32))))]))
  generalize htb : ((27 : Int32) + (p5 &&& (3 : Int32))) = tb
  show own_Go p.tables e below _ (s₁.setTop (mkF m 84 #[.val (.int p0), .val (.int p1), .val (.int p2), .val (.int p3), .val (.int p4), .val (.int p5), .val (.int cn), .val (.int ra), .val (.int v19), .val (.int v31), .val (.int ta), .val (.int bs), .val (.int bq), .unset, .unset, .unset, .unset, .unset, .unset, .unset, .unset, .unset] [(.int tb)]))
  refine own_up (fun _ kq => XS.istore X0.here hx rfl (hb hby at_84) rfl (l' := #[.val (.int p0), .val (.int p1), .val (.int p2), .val (.int p3), .val (.int p4), .val (.int p5), .val (.int cn), .val (.int ra), .val (.int v19), .val (.int v31), .val (.int ta), .val (.int bs), .val (.int bq), .val (.int tb), .unset, .unset, .unset, .unset, .unset, .unset, .unset, .unset]) rfl kq) ?_
  show own_Go p.tables e below _ (s₁.setTop (mkF m 86 #[.val (.int p0), .val (.int p1), .val (.int p2), .val (.int p3), .val (.int p4), .val (.int p5), .val (.int cn), .val (.int ra), .val (.int v19), .val (.int v31), .val (.int ta), .val (.int bs), .val (.int bq), .val (.int tb), .unset, .unset, .unset, .unset, .unset, .unset, .unset, .unset] []))
  have HB := own_bund hcn hra hv31 hv46 hta hbs hbq htb
  obtain ⟨Lz4, hLz4⟩ : ∃ z : Array Slot, z = #[.val (.int p0), .val (.int p1), .val (.int p2), .val (.int p3), .val (.int p4), .val (.int p5), .val (.int cn), .val (.int ra), .val (.int v19), .val (.int v31), .val (.int ta), .val (.int bs), .val (.int bq), .val (.int tb), .unset, .unset, .unset, .unset, .unset, .unset, .unset, .unset] := ⟨_, rfl⟩
  rw [← hLz4]
  show own_Go p.tables e below _ (s₁.setTop (mkF m 86 Lz4 []))
  refine own_up (fun _ kq => XS.bipush X0.here hx rfl (hb hby at_86) kq) ?_
  show own_Go p.tables e below _ (s₁.setTop (mkF m 88 Lz4 [(.int (48 : Int32))]))
  obtain ⟨T5, h5, k5, X5, e5, E5, A5, st5⟩ := newP X0 hx hZ (hw _ (List.mem_of_getElem? (i := 0) rfl)) e0 (g := (mkF m 88 Lz4 [(.int (48 : Int32))])) rfl (hb hby at_88) rfl (by decide) (cap := 48) (by decide) (by decide) (by decide) (by decide)
  obtain ⟨b5, gz5⟩ : ∃ z, z = h0.size := ⟨_, rfl⟩
  rw [← gz5] at A5 st5
  have g_b5 : n0 ≤ b5 := Nat.le_trans ZH (Nat.le_of_eq gz5.symm)
  have sz_b5 : h0.size ≤ b5 := Nat.le_trans KK.1 (Nat.le_of_eq gz5.symm)
  have ZH := Nat.le_trans ZH E5.1
  have KK := KK.ext E5
  have V_b5 : Arv Z h5 b5 k5 .double (48 : Int32) (own_la 0) (.double (0 : UInt64)) := (Arv.new A5 (by decide)).pad (pad_rep [] (.double (0 : UInt64)) 48)
  refine own_up st5 ?_
  show own_Go p.tables e below _ (T5.setTop (mkF m 90 Lz4 [(.ref b5)]))
  refine own_up (fun _ kq => XS.dup X5.here hx rfl (hb hby at_90) rfl rfl kq) ?_
  show own_Go p.tables e below _ (T5.setTop (mkF m 91 Lz4 [(.ref b5), (.ref b5)]))
  refine own_up (fun _ kq => XS.iconst X5.here hx rfl (hb hby at_91) kq) ?_
  show own_Go p.tables e below _ (T5.setTop (mkF m 92 Lz4 [(.int (0 : Int32)), (.ref b5), (.ref b5)]))
  refine own_up (fun _ kq => XS.dconst1 X5.here hx rfl (v := (4607182418800017408 : UInt64)) (hb hby at_92) rfl kq) ?_
  show own_Go p.tables e below _ (T5.setTop (mkF m 93 Lz4 [(.double (4607182418800017408 : UInt64)), (.int (0 : Int32)), (.ref b5), (.ref b5)]))
  obtain ⟨cl6, Ar6, q6, sz6, nz6, hH6, hG6⟩ := V_b5
  obtain ⟨T6, h6, X6, e6, W6, st6⟩ := stD X5 hx hZ e5 Ar6 (j := (0 : Int32)) (inb_of sz6 ⟨by decide, by decide⟩) (g := (mkF m 93 Lz4 [(.double (4607182418800017408 : UInt64)), (.int (0 : Int32)), (.ref b5), (.ref b5)])) rfl rfl (hb hby at_93)
  have V_b5 : Arv Z h6 b5 k5 .double (48 : Int32) (own_la 1) (.double (0 : UInt64)) := Arv.set Ar6 q6 sz6 nz6 hH6 hG6 rfl W6 0 rfl (Nat.le_of_ble_eq_true rfl)
  have N6 := Fr.snoc X6 N0 g_b5
  have ZH := Nat.le_trans ZH (Nat.le_of_eq W6.size.symm)
  have KK := KK.wr W6 (Or.inr sz_b5)
  refine own_up st6 ?_
  show own_Go p.tables e below _ (T6.setTop (mkF m 94 Lz4 [(.ref b5)]))
  refine own_up (fun _ kq => XS.dup X6.here hx rfl (hb hby at_94) rfl rfl kq) ?_
  show own_Go p.tables e below _ (T6.setTop (mkF m 95 Lz4 [(.ref b5), (.ref b5)]))
  refine own_up (fun _ kq => XS.iconst X6.here hx rfl (hb hby at_95) kq) ?_
  show own_Go p.tables e below _ (T6.setTop (mkF m 96 Lz4 [(.int (1 : Int32)), (.ref b5), (.ref b5)]))
  refine own_up (fun _ kq => X6.ldc2DoubleC hx hown (mvT hZ (hw _ (List.mem_of_getElem? (i := 1) rfl))) (g := (mkF m 96 Lz4 [(.int (1 : Int32)), (.ref b5), (.ref b5)])) rfl (hb hby at_96) _ kq) ?_
  show own_Go p.tables e below _ (T6.setTop (mkF m 99 Lz4 [(.double (4611686018427387904 : UInt64)), (.int (1 : Int32)), (.ref b5), (.ref b5)]))
  obtain ⟨cl7, Ar7, q7, sz7, nz7, hH7, hG7⟩ := V_b5
  obtain ⟨T7, h7, X7, e7, W7, st7⟩ := stD X6 hx hZ e6 Ar7 (j := (1 : Int32)) (inb_of sz7 ⟨by decide, by decide⟩) (g := (mkF m 99 Lz4 [(.double (4611686018427387904 : UInt64)), (.int (1 : Int32)), (.ref b5), (.ref b5)])) rfl rfl (hb hby at_99)
  have V_b5 : Arv Z h7 b5 k5 .double (48 : Int32) (own_la 2) (.double (0 : UInt64)) := Arv.set Ar7 q7 sz7 nz7 hH7 hG7 rfl W7 1 rfl (Nat.le_of_ble_eq_true rfl)
  have N7 := Fr.snoc X7 N6 g_b5
  have ZH := Nat.le_trans ZH (Nat.le_of_eq W7.size.symm)
  have KK := KK.wr W7 (Or.inr sz_b5)
  refine own_up st7 ?_
  show own_Go p.tables e below _ (T7.setTop (mkF m 100 Lz4 [(.ref b5)]))
  refine own_up (fun _ kq => XS.dup X7.here hx rfl (hb hby at_100) rfl rfl kq) ?_
  show own_Go p.tables e below _ (T7.setTop (mkF m 101 Lz4 [(.ref b5), (.ref b5)]))
  refine own_up (fun _ kq => XS.iconst X7.here hx rfl (hb hby at_101) kq) ?_
  show own_Go p.tables e below _ (T7.setTop (mkF m 102 Lz4 [(.int (2 : Int32)), (.ref b5), (.ref b5)]))
  refine own_up (fun _ kq => X7.ldc2DoubleC hx hown (mvT hZ (hw _ (List.mem_of_getElem? (i := 2) rfl))) (g := (mkF m 102 Lz4 [(.int (2 : Int32)), (.ref b5), (.ref b5)])) rfl (hb hby at_102) _ kq) ?_
  show own_Go p.tables e below _ (T7.setTop (mkF m 105 Lz4 [(.double (4613937818241073152 : UInt64)), (.int (2 : Int32)), (.ref b5), (.ref b5)]))
  obtain ⟨cl8, Ar8, q8, sz8, nz8, hH8, hG8⟩ := V_b5
  obtain ⟨T8, h8, X8, e8, W8, st8⟩ := stD X7 hx hZ e7 Ar8 (j := (2 : Int32)) (inb_of sz8 ⟨by decide, by decide⟩) (g := (mkF m 105 Lz4 [(.double (4613937818241073152 : UInt64)), (.int (2 : Int32)), (.ref b5), (.ref b5)])) rfl rfl (hb hby at_105)
  have V_b5 : Arv Z h8 b5 k5 .double (48 : Int32) (own_la 3) (.double (0 : UInt64)) := Arv.set Ar8 q8 sz8 nz8 hH8 hG8 rfl W8 2 rfl (Nat.le_of_ble_eq_true rfl)
  have N8 := Fr.snoc X8 N7 g_b5
  have ZH := Nat.le_trans ZH (Nat.le_of_eq W8.size.symm)
  have KK := KK.wr W8 (Or.inr sz_b5)
  refine own_up st8 ?_
  show own_Go p.tables e below _ (T8.setTop (mkF m 106 Lz4 [(.ref b5)]))
  refine own_up (fun _ kq => XS.dup X8.here hx rfl (hb hby at_106) rfl rfl kq) ?_
  show own_Go p.tables e below _ (T8.setTop (mkF m 107 Lz4 [(.ref b5), (.ref b5)]))
  refine own_up (fun _ kq => XS.iconst X8.here hx rfl (hb hby at_107) kq) ?_
  show own_Go p.tables e below _ (T8.setTop (mkF m 108 Lz4 [(.int (3 : Int32)), (.ref b5), (.ref b5)]))
  refine own_up (fun _ kq => X8.ldc2DoubleC hx hown (mvT hZ (hw _ (List.mem_of_getElem? (i := 3) rfl))) (g := (mkF m 108 Lz4 [(.int (3 : Int32)), (.ref b5), (.ref b5)])) rfl (hb hby at_108) _ kq) ?_
  show own_Go p.tables e below _ (T8.setTop (mkF m 111 Lz4 [(.double (4616189618054758400 : UInt64)), (.int (3 : Int32)), (.ref b5), (.ref b5)]))
  obtain ⟨cl9, Ar9, q9, sz9, nz9, hH9, hG9⟩ := V_b5
  obtain ⟨T9, h9, X9, e9, W9, st9⟩ := stD X8 hx hZ e8 Ar9 (j := (3 : Int32)) (inb_of sz9 ⟨by decide, by decide⟩) (g := (mkF m 111 Lz4 [(.double (4616189618054758400 : UInt64)), (.int (3 : Int32)), (.ref b5), (.ref b5)])) rfl rfl (hb hby at_111)
  have V_b5 : Arv Z h9 b5 k5 .double (48 : Int32) (own_la 4) (.double (0 : UInt64)) := Arv.set Ar9 q9 sz9 nz9 hH9 hG9 rfl W9 3 rfl (Nat.le_of_ble_eq_true rfl)
  have N9 := Fr.snoc X9 N8 g_b5
  have ZH := Nat.le_trans ZH (Nat.le_of_eq W9.size.symm)
  have KK := KK.wr W9 (Or.inr sz_b5)
  refine own_up st9 ?_
  show own_Go p.tables e below _ (T9.setTop (mkF m 112 Lz4 [(.ref b5)]))
  refine own_up (fun _ kq => XS.dup X9.here hx rfl (hb hby at_112) rfl rfl kq) ?_
  show own_Go p.tables e below _ (T9.setTop (mkF m 113 Lz4 [(.ref b5), (.ref b5)]))
  refine own_up (fun _ kq => XS.iconst X9.here hx rfl (hb hby at_113) kq) ?_
  show own_Go p.tables e below _ (T9.setTop (mkF m 114 Lz4 [(.int (4 : Int32)), (.ref b5), (.ref b5)]))
  refine own_up (fun _ kq => X9.ldc2DoubleC hx hown (mvT hZ (hw _ (List.mem_of_getElem? (i := 4) rfl))) (g := (mkF m 114 Lz4 [(.int (4 : Int32)), (.ref b5), (.ref b5)])) rfl (hb hby at_114) _ kq) ?_
  show own_Go p.tables e below _ (T9.setTop (mkF m 117 Lz4 [(.double (4617315517961601024 : UInt64)), (.int (4 : Int32)), (.ref b5), (.ref b5)]))
  obtain ⟨cl10, Ar10, q10, sz10, nz10, hH10, hG10⟩ := V_b5
  obtain ⟨T10, h10, X10, e10, W10, st10⟩ := stD X9 hx hZ e9 Ar10 (j := (4 : Int32)) (inb_of sz10 ⟨by decide, by decide⟩) (g := (mkF m 117 Lz4 [(.double (4617315517961601024 : UInt64)), (.int (4 : Int32)), (.ref b5), (.ref b5)])) rfl rfl (hb hby at_117)
  have V_b5 : Arv Z h10 b5 k5 .double (48 : Int32) (own_la 5) (.double (0 : UInt64)) := Arv.set Ar10 q10 sz10 nz10 hH10 hG10 rfl W10 4 rfl (Nat.le_of_ble_eq_true rfl)
  have N10 := Fr.snoc X10 N9 g_b5
  have ZH := Nat.le_trans ZH (Nat.le_of_eq W10.size.symm)
  have KK := KK.wr W10 (Or.inr sz_b5)
  refine own_up st10 ?_
  show own_Go p.tables e below _ (T10.setTop (mkF m 118 Lz4 [(.ref b5)]))
  refine own_up (fun _ kq => XS.dup X10.here hx rfl (hb hby at_118) rfl rfl kq) ?_
  show own_Go p.tables e below _ (T10.setTop (mkF m 119 Lz4 [(.ref b5), (.ref b5)]))
  refine own_up (fun _ kq => XS.iconst X10.here hx rfl (hb hby at_119) kq) ?_
  show own_Go p.tables e below _ (T10.setTop (mkF m 120 Lz4 [(.int (5 : Int32)), (.ref b5), (.ref b5)]))
  refine own_up (fun _ kq => X10.ldc2DoubleC hx hown (mvT hZ (hw _ (List.mem_of_getElem? (i := 5) rfl))) (g := (mkF m 120 Lz4 [(.int (5 : Int32)), (.ref b5), (.ref b5)])) rfl (hb hby at_120) _ kq) ?_
  show own_Go p.tables e below _ (T10.setTop (mkF m 123 Lz4 [(.double (4618441417868443648 : UInt64)), (.int (5 : Int32)), (.ref b5), (.ref b5)]))
  obtain ⟨cl11, Ar11, q11, sz11, nz11, hH11, hG11⟩ := V_b5
  obtain ⟨T11, h11, X11, e11, W11, st11⟩ := stD X10 hx hZ e10 Ar11 (j := (5 : Int32)) (inb_of sz11 ⟨by decide, by decide⟩) (g := (mkF m 123 Lz4 [(.double (4618441417868443648 : UInt64)), (.int (5 : Int32)), (.ref b5), (.ref b5)])) rfl rfl (hb hby at_123)
  have V_b5 : Arv Z h11 b5 k5 .double (48 : Int32) (own_la 6) (.double (0 : UInt64)) := Arv.set Ar11 q11 sz11 nz11 hH11 hG11 rfl W11 5 rfl (Nat.le_of_ble_eq_true rfl)
  have N11 := Fr.snoc X11 N10 g_b5
  have ZH := Nat.le_trans ZH (Nat.le_of_eq W11.size.symm)
  have KK := KK.wr W11 (Or.inr sz_b5)
  refine own_up st11 ?_
  show own_Go p.tables e below _ (T11.setTop (mkF m 124 Lz4 [(.ref b5)]))
  refine own_up (fun _ kq => XS.dup X11.here hx rfl (hb hby at_124) rfl rfl kq) ?_
  show own_Go p.tables e below _ (T11.setTop (mkF m 125 Lz4 [(.ref b5), (.ref b5)]))
  refine own_up (fun _ kq => XS.bipush X11.here hx rfl (hb hby at_125) kq) ?_
  show own_Go p.tables e below _ (T11.setTop (mkF m 127 Lz4 [(.int (6 : Int32)), (.ref b5), (.ref b5)]))
  refine own_up (fun _ kq => X11.ldc2DoubleC hx hown (mvT hZ (hw _ (List.mem_of_getElem? (i := 6) rfl))) (g := (mkF m 127 Lz4 [(.int (6 : Int32)), (.ref b5), (.ref b5)])) rfl (hb hby at_127) _ kq) ?_
  show own_Go p.tables e below _ (T11.setTop (mkF m 130 Lz4 [(.double (4619567317775286272 : UInt64)), (.int (6 : Int32)), (.ref b5), (.ref b5)]))
  obtain ⟨cl12, Ar12, q12, sz12, nz12, hH12, hG12⟩ := V_b5
  obtain ⟨T12, h12, X12, e12, W12, st12⟩ := stD X11 hx hZ e11 Ar12 (j := (6 : Int32)) (inb_of sz12 ⟨by decide, by decide⟩) (g := (mkF m 130 Lz4 [(.double (4619567317775286272 : UInt64)), (.int (6 : Int32)), (.ref b5), (.ref b5)])) rfl rfl (hb hby at_130)
  have V_b5 : Arv Z h12 b5 k5 .double (48 : Int32) (own_la 7) (.double (0 : UInt64)) := Arv.set Ar12 q12 sz12 nz12 hH12 hG12 rfl W12 6 rfl (Nat.le_of_ble_eq_true rfl)
  have N12 := Fr.snoc X12 N11 g_b5
  have ZH := Nat.le_trans ZH (Nat.le_of_eq W12.size.symm)
  have KK := KK.wr W12 (Or.inr sz_b5)
  refine own_up st12 ?_
  show own_Go p.tables e below _ (T12.setTop (mkF m 131 Lz4 [(.ref b5)]))
  refine own_up (fun _ kq => XS.dup X12.here hx rfl (hb hby at_131) rfl rfl kq) ?_
  show own_Go p.tables e below _ (T12.setTop (mkF m 132 Lz4 [(.ref b5), (.ref b5)]))
  refine own_up (fun _ kq => XS.bipush X12.here hx rfl (hb hby at_132) kq) ?_
  show own_Go p.tables e below _ (T12.setTop (mkF m 134 Lz4 [(.int (7 : Int32)), (.ref b5), (.ref b5)]))
  refine own_up (fun _ kq => X12.ldc2DoubleC hx hown (mvT hZ (hw _ (List.mem_of_getElem? (i := 7) rfl))) (g := (mkF m 134 Lz4 [(.int (7 : Int32)), (.ref b5), (.ref b5)])) rfl (hb hby at_134) _ kq) ?_
  show own_Go p.tables e below _ (T12.setTop (mkF m 137 Lz4 [(.double (4620693217682128896 : UInt64)), (.int (7 : Int32)), (.ref b5), (.ref b5)]))
  obtain ⟨cl13, Ar13, q13, sz13, nz13, hH13, hG13⟩ := V_b5
  obtain ⟨T13, h13, X13, e13, W13, st13⟩ := stD X12 hx hZ e12 Ar13 (j := (7 : Int32)) (inb_of sz13 ⟨by decide, by decide⟩) (g := (mkF m 137 Lz4 [(.double (4620693217682128896 : UInt64)), (.int (7 : Int32)), (.ref b5), (.ref b5)])) rfl rfl (hb hby at_137)
  have V_b5 : Arv Z h13 b5 k5 .double (48 : Int32) (own_la 8) (.double (0 : UInt64)) := Arv.set Ar13 q13 sz13 nz13 hH13 hG13 rfl W13 7 rfl (Nat.le_of_ble_eq_true rfl)
  have N13 := Fr.snoc X13 N12 g_b5
  have ZH := Nat.le_trans ZH (Nat.le_of_eq W13.size.symm)
  have KK := KK.wr W13 (Or.inr sz_b5)
  refine own_up st13 ?_
  show own_Go p.tables e below _ (T13.setTop (mkF m 138 Lz4 [(.ref b5)]))
  refine own_up (fun _ kq => XS.dup X13.here hx rfl (hb hby at_138) rfl rfl kq) ?_
  show own_Go p.tables e below _ (T13.setTop (mkF m 139 Lz4 [(.ref b5), (.ref b5)]))
  refine own_up (fun _ kq => XS.bipush X13.here hx rfl (hb hby at_139) kq) ?_
  show own_Go p.tables e below _ (T13.setTop (mkF m 141 Lz4 [(.int (8 : Int32)), (.ref b5), (.ref b5)]))
  refine own_up (fun _ kq => X13.ldc2DoubleC hx hown (mvT hZ (hw _ (List.mem_of_getElem? (i := 8) rfl))) (g := (mkF m 141 Lz4 [(.int (8 : Int32)), (.ref b5), (.ref b5)])) rfl (hb hby at_141) _ kq) ?_
  show own_Go p.tables e below _ (T13.setTop (mkF m 144 Lz4 [(.double (4621256167635550208 : UInt64)), (.int (8 : Int32)), (.ref b5), (.ref b5)]))
  obtain ⟨cl14, Ar14, q14, sz14, nz14, hH14, hG14⟩ := V_b5
  obtain ⟨T14, h14, X14, e14, W14, st14⟩ := stD X13 hx hZ e13 Ar14 (j := (8 : Int32)) (inb_of sz14 ⟨by decide, by decide⟩) (g := (mkF m 144 Lz4 [(.double (4621256167635550208 : UInt64)), (.int (8 : Int32)), (.ref b5), (.ref b5)])) rfl rfl (hb hby at_144)
  have V_b5 : Arv Z h14 b5 k5 .double (48 : Int32) (own_la 9) (.double (0 : UInt64)) := Arv.set Ar14 q14 sz14 nz14 hH14 hG14 rfl W14 8 rfl (Nat.le_of_ble_eq_true rfl)
  have N14 := Fr.snoc X14 N13 g_b5
  have ZH := Nat.le_trans ZH (Nat.le_of_eq W14.size.symm)
  have KK := KK.wr W14 (Or.inr sz_b5)
  refine own_up st14 ?_
  show own_Go p.tables e below _ (T14.setTop (mkF m 145 Lz4 [(.ref b5)]))
  refine own_up (fun _ kq => XS.dup X14.here hx rfl (hb hby at_145) rfl rfl kq) ?_
  show own_Go p.tables e below _ (T14.setTop (mkF m 146 Lz4 [(.ref b5), (.ref b5)]))
  refine own_up (fun _ kq => XS.bipush X14.here hx rfl (hb hby at_146) kq) ?_
  show own_Go p.tables e below _ (T14.setTop (mkF m 148 Lz4 [(.int (9 : Int32)), (.ref b5), (.ref b5)]))
  refine own_up (fun _ kq => X14.ldc2DoubleC hx hown (mvT hZ (hw _ (List.mem_of_getElem? (i := 9) rfl))) (g := (mkF m 148 Lz4 [(.int (9 : Int32)), (.ref b5), (.ref b5)])) rfl (hb hby at_148) _ kq) ?_
  show own_Go p.tables e below _ (T14.setTop (mkF m 151 Lz4 [(.double (4621819117588971520 : UInt64)), (.int (9 : Int32)), (.ref b5), (.ref b5)]))
  obtain ⟨cl15, Ar15, q15, sz15, nz15, hH15, hG15⟩ := V_b5
  obtain ⟨T15, h15, X15, e15, W15, st15⟩ := stD X14 hx hZ e14 Ar15 (j := (9 : Int32)) (inb_of sz15 ⟨by decide, by decide⟩) (g := (mkF m 151 Lz4 [(.double (4621819117588971520 : UInt64)), (.int (9 : Int32)), (.ref b5), (.ref b5)])) rfl rfl (hb hby at_151)
  have V_b5 : Arv Z h15 b5 k5 .double (48 : Int32) (own_la 10) (.double (0 : UInt64)) := Arv.set Ar15 q15 sz15 nz15 hH15 hG15 rfl W15 9 rfl (Nat.le_of_ble_eq_true rfl)
  have N15 := Fr.snoc X15 N14 g_b5
  have ZH := Nat.le_trans ZH (Nat.le_of_eq W15.size.symm)
  have KK := KK.wr W15 (Or.inr sz_b5)
  refine own_up st15 ?_
  show own_Go p.tables e below _ (T15.setTop (mkF m 152 Lz4 [(.ref b5)]))
  refine own_up (fun _ kq => XS.dup X15.here hx rfl (hb hby at_152) rfl rfl kq) ?_
  show own_Go p.tables e below _ (T15.setTop (mkF m 153 Lz4 [(.ref b5), (.ref b5)]))
  refine own_up (fun _ kq => XS.bipush X15.here hx rfl (hb hby at_153) kq) ?_
  show own_Go p.tables e below _ (T15.setTop (mkF m 155 Lz4 [(.int (10 : Int32)), (.ref b5), (.ref b5)]))
  refine own_up (fun _ kq => X15.ldc2DoubleC hx hown (mvT hZ (hw _ (List.mem_of_getElem? (i := 10) rfl))) (g := (mkF m 155 Lz4 [(.int (10 : Int32)), (.ref b5), (.ref b5)])) rfl (hb hby at_155) _ kq) ?_
  show own_Go p.tables e below _ (T15.setTop (mkF m 158 Lz4 [(.double (4622382067542392832 : UInt64)), (.int (10 : Int32)), (.ref b5), (.ref b5)]))
  obtain ⟨cl16, Ar16, q16, sz16, nz16, hH16, hG16⟩ := V_b5
  obtain ⟨T16, h16, X16, e16, W16, st16⟩ := stD X15 hx hZ e15 Ar16 (j := (10 : Int32)) (inb_of sz16 ⟨by decide, by decide⟩) (g := (mkF m 158 Lz4 [(.double (4622382067542392832 : UInt64)), (.int (10 : Int32)), (.ref b5), (.ref b5)])) rfl rfl (hb hby at_158)
  have V_b5 : Arv Z h16 b5 k5 .double (48 : Int32) (own_la 11) (.double (0 : UInt64)) := Arv.set Ar16 q16 sz16 nz16 hH16 hG16 rfl W16 10 rfl (Nat.le_of_ble_eq_true rfl)
  have N16 := Fr.snoc X16 N15 g_b5
  have ZH := Nat.le_trans ZH (Nat.le_of_eq W16.size.symm)
  have KK := KK.wr W16 (Or.inr sz_b5)
  refine own_up st16 ?_
  show own_Go p.tables e below _ (T16.setTop (mkF m 159 Lz4 [(.ref b5)]))
  refine own_up (fun _ kq => XS.dup X16.here hx rfl (hb hby at_159) rfl rfl kq) ?_
  show own_Go p.tables e below _ (T16.setTop (mkF m 160 Lz4 [(.ref b5), (.ref b5)]))
  refine own_up (fun _ kq => XS.bipush X16.here hx rfl (hb hby at_160) kq) ?_
  show own_Go p.tables e below _ (T16.setTop (mkF m 162 Lz4 [(.int (11 : Int32)), (.ref b5), (.ref b5)]))
  refine own_up (fun _ kq => X16.ldc2DoubleC hx hown (mvT hZ (hw _ (List.mem_of_getElem? (i := 11) rfl))) (g := (mkF m 162 Lz4 [(.int (11 : Int32)), (.ref b5), (.ref b5)])) rfl (hb hby at_162) _ kq) ?_
  show own_Go p.tables e below _ (T16.setTop (mkF m 165 Lz4 [(.double (4622945017495814144 : UInt64)), (.int (11 : Int32)), (.ref b5), (.ref b5)]))
  obtain ⟨cl17, Ar17, q17, sz17, nz17, hH17, hG17⟩ := V_b5
  obtain ⟨T17, h17, X17, e17, W17, st17⟩ := stD X16 hx hZ e16 Ar17 (j := (11 : Int32)) (inb_of sz17 ⟨by decide, by decide⟩) (g := (mkF m 165 Lz4 [(.double (4622945017495814144 : UInt64)), (.int (11 : Int32)), (.ref b5), (.ref b5)])) rfl rfl (hb hby at_165)
  have V_b5 : Arv Z h17 b5 k5 .double (48 : Int32) (own_la 12) (.double (0 : UInt64)) := Arv.set Ar17 q17 sz17 nz17 hH17 hG17 rfl W17 11 rfl (Nat.le_of_ble_eq_true rfl)
  have N17 := Fr.snoc X17 N16 g_b5
  have ZH := Nat.le_trans ZH (Nat.le_of_eq W17.size.symm)
  have KK := KK.wr W17 (Or.inr sz_b5)
  refine own_up st17 ?_
  show own_Go p.tables e below _ (T17.setTop (mkF m 166 Lz4 [(.ref b5)]))
  refine own_up (fun _ kq => XS.dup X17.here hx rfl (hb hby at_166) rfl rfl kq) ?_
  show own_Go p.tables e below _ (T17.setTop (mkF m 167 Lz4 [(.ref b5), (.ref b5)]))
  refine own_up (fun _ kq => XS.bipush X17.here hx rfl (hb hby at_167) kq) ?_
  show own_Go p.tables e below _ (T17.setTop (mkF m 169 Lz4 [(.int (12 : Int32)), (.ref b5), (.ref b5)]))
  refine own_up (fun _ kq => X17.ldc2DoubleC hx hown (mvT hZ (hw _ (List.mem_of_getElem? (i := 12) rfl))) (g := (mkF m 169 Lz4 [(.int (12 : Int32)), (.ref b5), (.ref b5)])) rfl (hb hby at_169) _ kq) ?_
  show own_Go p.tables e below _ (T17.setTop (mkF m 172 Lz4 [(.double (4623507967449235456 : UInt64)), (.int (12 : Int32)), (.ref b5), (.ref b5)]))
  obtain ⟨cl18, Ar18, q18, sz18, nz18, hH18, hG18⟩ := V_b5
  obtain ⟨T18, h18, X18, e18, W18, st18⟩ := stD X17 hx hZ e17 Ar18 (j := (12 : Int32)) (inb_of sz18 ⟨by decide, by decide⟩) (g := (mkF m 172 Lz4 [(.double (4623507967449235456 : UInt64)), (.int (12 : Int32)), (.ref b5), (.ref b5)])) rfl rfl (hb hby at_172)
  have V_b5 : Arv Z h18 b5 k5 .double (48 : Int32) (own_la 13) (.double (0 : UInt64)) := Arv.set Ar18 q18 sz18 nz18 hH18 hG18 rfl W18 12 rfl (Nat.le_of_ble_eq_true rfl)
  have N18 := Fr.snoc X18 N17 g_b5
  have ZH := Nat.le_trans ZH (Nat.le_of_eq W18.size.symm)
  have KK := KK.wr W18 (Or.inr sz_b5)
  refine own_up st18 ?_
  show own_Go p.tables e below _ (T18.setTop (mkF m 173 Lz4 [(.ref b5)]))
  refine own_up (fun _ kq => XS.dup X18.here hx rfl (hb hby at_173) rfl rfl kq) ?_
  show own_Go p.tables e below _ (T18.setTop (mkF m 174 Lz4 [(.ref b5), (.ref b5)]))
  refine own_up (fun _ kq => XS.bipush X18.here hx rfl (hb hby at_174) kq) ?_
  show own_Go p.tables e below _ (T18.setTop (mkF m 176 Lz4 [(.int (13 : Int32)), (.ref b5), (.ref b5)]))
  refine own_up (fun _ kq => X18.ldc2DoubleC hx hown (mvT hZ (hw _ (List.mem_of_getElem? (i := 13) rfl))) (g := (mkF m 176 Lz4 [(.int (13 : Int32)), (.ref b5), (.ref b5)])) rfl (hb hby at_176) _ kq) ?_
  show own_Go p.tables e below _ (T18.setTop (mkF m 179 Lz4 [(.double (4624070917402656768 : UInt64)), (.int (13 : Int32)), (.ref b5), (.ref b5)]))
  obtain ⟨cl19, Ar19, q19, sz19, nz19, hH19, hG19⟩ := V_b5
  obtain ⟨T19, h19, X19, e19, W19, st19⟩ := stD X18 hx hZ e18 Ar19 (j := (13 : Int32)) (inb_of sz19 ⟨by decide, by decide⟩) (g := (mkF m 179 Lz4 [(.double (4624070917402656768 : UInt64)), (.int (13 : Int32)), (.ref b5), (.ref b5)])) rfl rfl (hb hby at_179)
  have V_b5 : Arv Z h19 b5 k5 .double (48 : Int32) (own_la 14) (.double (0 : UInt64)) := Arv.set Ar19 q19 sz19 nz19 hH19 hG19 rfl W19 13 rfl (Nat.le_of_ble_eq_true rfl)
  have N19 := Fr.snoc X19 N18 g_b5
  have ZH := Nat.le_trans ZH (Nat.le_of_eq W19.size.symm)
  have KK := KK.wr W19 (Or.inr sz_b5)
  refine own_up st19 ?_
  show own_Go p.tables e below _ (T19.setTop (mkF m 180 Lz4 [(.ref b5)]))
  refine own_up (fun _ kq => XS.dup X19.here hx rfl (hb hby at_180) rfl rfl kq) ?_
  show own_Go p.tables e below _ (T19.setTop (mkF m 181 Lz4 [(.ref b5), (.ref b5)]))
  refine own_up (fun _ kq => XS.bipush X19.here hx rfl (hb hby at_181) kq) ?_
  show own_Go p.tables e below _ (T19.setTop (mkF m 183 Lz4 [(.int (14 : Int32)), (.ref b5), (.ref b5)]))
  refine own_up (fun _ kq => X19.ldc2DoubleC hx hown (mvT hZ (hw _ (List.mem_of_getElem? (i := 14) rfl))) (g := (mkF m 183 Lz4 [(.int (14 : Int32)), (.ref b5), (.ref b5)])) rfl (hb hby at_183) _ kq) ?_
  show own_Go p.tables e below _ (T19.setTop (mkF m 186 Lz4 [(.double (4624633867356078080 : UInt64)), (.int (14 : Int32)), (.ref b5), (.ref b5)]))
  obtain ⟨cl20, Ar20, q20, sz20, nz20, hH20, hG20⟩ := V_b5
  obtain ⟨T20, h20, X20, e20, W20, st20⟩ := stD X19 hx hZ e19 Ar20 (j := (14 : Int32)) (inb_of sz20 ⟨by decide, by decide⟩) (g := (mkF m 186 Lz4 [(.double (4624633867356078080 : UInt64)), (.int (14 : Int32)), (.ref b5), (.ref b5)])) rfl rfl (hb hby at_186)
  have V_b5 : Arv Z h20 b5 k5 .double (48 : Int32) (own_la 15) (.double (0 : UInt64)) := Arv.set Ar20 q20 sz20 nz20 hH20 hG20 rfl W20 14 rfl (Nat.le_of_ble_eq_true rfl)
  have N20 := Fr.snoc X20 N19 g_b5
  have ZH := Nat.le_trans ZH (Nat.le_of_eq W20.size.symm)
  have KK := KK.wr W20 (Or.inr sz_b5)
  refine own_up st20 ?_
  show own_Go p.tables e below _ (T20.setTop (mkF m 187 Lz4 [(.ref b5)]))
  refine own_up (fun _ kq => XS.dup X20.here hx rfl (hb hby at_187) rfl rfl kq) ?_
  show own_Go p.tables e below _ (T20.setTop (mkF m 188 Lz4 [(.ref b5), (.ref b5)]))
  refine own_up (fun _ kq => XS.bipush X20.here hx rfl (hb hby at_188) kq) ?_
  show own_Go p.tables e below _ (T20.setTop (mkF m 190 Lz4 [(.int (15 : Int32)), (.ref b5), (.ref b5)]))
  refine own_up (fun _ kq => X20.ldc2DoubleC hx hown (mvT hZ (hw _ (List.mem_of_getElem? (i := 15) rfl))) (g := (mkF m 190 Lz4 [(.int (15 : Int32)), (.ref b5), (.ref b5)])) rfl (hb hby at_190) _ kq) ?_
  show own_Go p.tables e below _ (T20.setTop (mkF m 193 Lz4 [(.double (4625196817309499392 : UInt64)), (.int (15 : Int32)), (.ref b5), (.ref b5)]))
  obtain ⟨cl21, Ar21, q21, sz21, nz21, hH21, hG21⟩ := V_b5
  obtain ⟨T21, h21, X21, e21, W21, st21⟩ := stD X20 hx hZ e20 Ar21 (j := (15 : Int32)) (inb_of sz21 ⟨by decide, by decide⟩) (g := (mkF m 193 Lz4 [(.double (4625196817309499392 : UInt64)), (.int (15 : Int32)), (.ref b5), (.ref b5)])) rfl rfl (hb hby at_193)
  have V_b5 : Arv Z h21 b5 k5 .double (48 : Int32) (own_la 16) (.double (0 : UInt64)) := Arv.set Ar21 q21 sz21 nz21 hH21 hG21 rfl W21 15 rfl (Nat.le_of_ble_eq_true rfl)
  have N21 := Fr.snoc X21 N20 g_b5
  have ZH := Nat.le_trans ZH (Nat.le_of_eq W21.size.symm)
  have KK := KK.wr W21 (Or.inr sz_b5)
  refine own_up st21 ?_
  show own_Go p.tables e below _ (T21.setTop (mkF m 194 Lz4 [(.ref b5)]))
  refine own_up (fun _ kq => XS.dup X21.here hx rfl (hb hby at_194) rfl rfl kq) ?_
  show own_Go p.tables e below _ (T21.setTop (mkF m 195 Lz4 [(.ref b5), (.ref b5)]))
  refine own_up (fun _ kq => XS.bipush X21.here hx rfl (hb hby at_195) kq) ?_
  show own_Go p.tables e below _ (T21.setTop (mkF m 197 Lz4 [(.int (16 : Int32)), (.ref b5), (.ref b5)]))
  refine own_up (fun _ kq => X21.ldc2DoubleC hx hown (mvT hZ (hw _ (List.mem_of_getElem? (i := 16) rfl))) (g := (mkF m 197 Lz4 [(.int (16 : Int32)), (.ref b5), (.ref b5)])) rfl (hb hby at_197) _ kq) ?_
  show own_Go p.tables e below _ (T21.setTop (mkF m 200 Lz4 [(.double (4625478292286210048 : UInt64)), (.int (16 : Int32)), (.ref b5), (.ref b5)]))
  obtain ⟨cl22, Ar22, q22, sz22, nz22, hH22, hG22⟩ := V_b5
  obtain ⟨T22, h22, X22, e22, W22, st22⟩ := stD X21 hx hZ e21 Ar22 (j := (16 : Int32)) (inb_of sz22 ⟨by decide, by decide⟩) (g := (mkF m 200 Lz4 [(.double (4625478292286210048 : UInt64)), (.int (16 : Int32)), (.ref b5), (.ref b5)])) rfl rfl (hb hby at_200)
  have V_b5 : Arv Z h22 b5 k5 .double (48 : Int32) (own_la 17) (.double (0 : UInt64)) := Arv.set Ar22 q22 sz22 nz22 hH22 hG22 rfl W22 16 rfl (Nat.le_of_ble_eq_true rfl)
  have N22 := Fr.snoc X22 N21 g_b5
  have ZH := Nat.le_trans ZH (Nat.le_of_eq W22.size.symm)
  have KK := KK.wr W22 (Or.inr sz_b5)
  refine own_up st22 ?_
  show own_Go p.tables e below _ (T22.setTop (mkF m 201 Lz4 [(.ref b5)]))
  refine own_up (fun _ kq => XS.dup X22.here hx rfl (hb hby at_201) rfl rfl kq) ?_
  show own_Go p.tables e below _ (T22.setTop (mkF m 202 Lz4 [(.ref b5), (.ref b5)]))
  refine own_up (fun _ kq => XS.bipush X22.here hx rfl (hb hby at_202) kq) ?_
  show own_Go p.tables e below _ (T22.setTop (mkF m 204 Lz4 [(.int (17 : Int32)), (.ref b5), (.ref b5)]))
  refine own_up (fun _ kq => X22.ldc2DoubleC hx hown (mvT hZ (hw _ (List.mem_of_getElem? (i := 17) rfl))) (g := (mkF m 204 Lz4 [(.int (17 : Int32)), (.ref b5), (.ref b5)])) rfl (hb hby at_204) _ kq) ?_
  show own_Go p.tables e below _ (T22.setTop (mkF m 207 Lz4 [(.double (4625759767262920704 : UInt64)), (.int (17 : Int32)), (.ref b5), (.ref b5)]))
  obtain ⟨cl23, Ar23, q23, sz23, nz23, hH23, hG23⟩ := V_b5
  obtain ⟨T23, h23, X23, e23, W23, st23⟩ := stD X22 hx hZ e22 Ar23 (j := (17 : Int32)) (inb_of sz23 ⟨by decide, by decide⟩) (g := (mkF m 207 Lz4 [(.double (4625759767262920704 : UInt64)), (.int (17 : Int32)), (.ref b5), (.ref b5)])) rfl rfl (hb hby at_207)
  have V_b5 : Arv Z h23 b5 k5 .double (48 : Int32) (own_la 18) (.double (0 : UInt64)) := Arv.set Ar23 q23 sz23 nz23 hH23 hG23 rfl W23 17 rfl (Nat.le_of_ble_eq_true rfl)
  have N23 := Fr.snoc X23 N22 g_b5
  have ZH := Nat.le_trans ZH (Nat.le_of_eq W23.size.symm)
  have KK := KK.wr W23 (Or.inr sz_b5)
  refine own_up st23 ?_
  show own_Go p.tables e below _ (T23.setTop (mkF m 208 Lz4 [(.ref b5)]))
  refine own_up (fun _ kq => XS.dup X23.here hx rfl (hb hby at_208) rfl rfl kq) ?_
  show own_Go p.tables e below _ (T23.setTop (mkF m 209 Lz4 [(.ref b5), (.ref b5)]))
  refine own_up (fun _ kq => XS.bipush X23.here hx rfl (hb hby at_209) kq) ?_
  show own_Go p.tables e below _ (T23.setTop (mkF m 211 Lz4 [(.int (18 : Int32)), (.ref b5), (.ref b5)]))
  refine own_up (fun _ kq => X23.ldc2DoubleC hx hown (mvT hZ (hw _ (List.mem_of_getElem? (i := 18) rfl))) (g := (mkF m 211 Lz4 [(.int (18 : Int32)), (.ref b5), (.ref b5)])) rfl (hb hby at_211) _ kq) ?_
  show own_Go p.tables e below _ (T23.setTop (mkF m 214 Lz4 [(.double (4626041242239631360 : UInt64)), (.int (18 : Int32)), (.ref b5), (.ref b5)]))
  obtain ⟨cl24, Ar24, q24, sz24, nz24, hH24, hG24⟩ := V_b5
  obtain ⟨T24, h24, X24, e24, W24, st24⟩ := stD X23 hx hZ e23 Ar24 (j := (18 : Int32)) (inb_of sz24 ⟨by decide, by decide⟩) (g := (mkF m 214 Lz4 [(.double (4626041242239631360 : UInt64)), (.int (18 : Int32)), (.ref b5), (.ref b5)])) rfl rfl (hb hby at_214)
  have V_b5 : Arv Z h24 b5 k5 .double (48 : Int32) (own_la 19) (.double (0 : UInt64)) := Arv.set Ar24 q24 sz24 nz24 hH24 hG24 rfl W24 18 rfl (Nat.le_of_ble_eq_true rfl)
  have N24 := Fr.snoc X24 N23 g_b5
  have ZH := Nat.le_trans ZH (Nat.le_of_eq W24.size.symm)
  have KK := KK.wr W24 (Or.inr sz_b5)
  refine own_up st24 ?_
  show own_Go p.tables e below _ (T24.setTop (mkF m 215 Lz4 [(.ref b5)]))
  refine own_up (fun _ kq => XS.dup X24.here hx rfl (hb hby at_215) rfl rfl kq) ?_
  show own_Go p.tables e below _ (T24.setTop (mkF m 216 Lz4 [(.ref b5), (.ref b5)]))
  refine own_up (fun _ kq => XS.bipush X24.here hx rfl (hb hby at_216) kq) ?_
  show own_Go p.tables e below _ (T24.setTop (mkF m 218 Lz4 [(.int (19 : Int32)), (.ref b5), (.ref b5)]))
  refine own_up (fun _ kq => X24.ldc2DoubleC hx hown (mvT hZ (hw _ (List.mem_of_getElem? (i := 19) rfl))) (g := (mkF m 218 Lz4 [(.int (19 : Int32)), (.ref b5), (.ref b5)])) rfl (hb hby at_218) _ kq) ?_
  show own_Go p.tables e below _ (T24.setTop (mkF m 221 Lz4 [(.double (4626322717216342016 : UInt64)), (.int (19 : Int32)), (.ref b5), (.ref b5)]))
  obtain ⟨cl25, Ar25, q25, sz25, nz25, hH25, hG25⟩ := V_b5
  obtain ⟨T25, h25, X25, e25, W25, st25⟩ := stD X24 hx hZ e24 Ar25 (j := (19 : Int32)) (inb_of sz25 ⟨by decide, by decide⟩) (g := (mkF m 221 Lz4 [(.double (4626322717216342016 : UInt64)), (.int (19 : Int32)), (.ref b5), (.ref b5)])) rfl rfl (hb hby at_221)
  have V_b5 : Arv Z h25 b5 k5 .double (48 : Int32) (own_la 20) (.double (0 : UInt64)) := Arv.set Ar25 q25 sz25 nz25 hH25 hG25 rfl W25 19 rfl (Nat.le_of_ble_eq_true rfl)
  have N25 := Fr.snoc X25 N24 g_b5
  have ZH := Nat.le_trans ZH (Nat.le_of_eq W25.size.symm)
  have KK := KK.wr W25 (Or.inr sz_b5)
  refine own_up st25 ?_
  show own_Go p.tables e below _ (T25.setTop (mkF m 222 Lz4 [(.ref b5)]))
  refine own_up (fun _ kq => XS.dup X25.here hx rfl (hb hby at_222) rfl rfl kq) ?_
  show own_Go p.tables e below _ (T25.setTop (mkF m 223 Lz4 [(.ref b5), (.ref b5)]))
  refine own_up (fun _ kq => XS.bipush X25.here hx rfl (hb hby at_223) kq) ?_
  show own_Go p.tables e below _ (T25.setTop (mkF m 225 Lz4 [(.int (20 : Int32)), (.ref b5), (.ref b5)]))
  refine own_up (fun _ kq => X25.ldc2DoubleC hx hown (mvT hZ (hw _ (List.mem_of_getElem? (i := 20) rfl))) (g := (mkF m 225 Lz4 [(.int (20 : Int32)), (.ref b5), (.ref b5)])) rfl (hb hby at_225) _ kq) ?_
  show own_Go p.tables e below _ (T25.setTop (mkF m 228 Lz4 [(.double (4626604192193052672 : UInt64)), (.int (20 : Int32)), (.ref b5), (.ref b5)]))
  obtain ⟨cl26, Ar26, q26, sz26, nz26, hH26, hG26⟩ := V_b5
  obtain ⟨T26, h26, X26, e26, W26, st26⟩ := stD X25 hx hZ e25 Ar26 (j := (20 : Int32)) (inb_of sz26 ⟨by decide, by decide⟩) (g := (mkF m 228 Lz4 [(.double (4626604192193052672 : UInt64)), (.int (20 : Int32)), (.ref b5), (.ref b5)])) rfl rfl (hb hby at_228)
  have V_b5 : Arv Z h26 b5 k5 .double (48 : Int32) (own_la 21) (.double (0 : UInt64)) := Arv.set Ar26 q26 sz26 nz26 hH26 hG26 rfl W26 20 rfl (Nat.le_of_ble_eq_true rfl)
  have N26 := Fr.snoc X26 N25 g_b5
  have ZH := Nat.le_trans ZH (Nat.le_of_eq W26.size.symm)
  have KK := KK.wr W26 (Or.inr sz_b5)
  refine own_up st26 ?_
  show own_Go p.tables e below _ (T26.setTop (mkF m 229 Lz4 [(.ref b5)]))
  refine own_up (fun _ kq => XS.dup X26.here hx rfl (hb hby at_229) rfl rfl kq) ?_
  show own_Go p.tables e below _ (T26.setTop (mkF m 230 Lz4 [(.ref b5), (.ref b5)]))
  refine own_up (fun _ kq => XS.bipush X26.here hx rfl (hb hby at_230) kq) ?_
  show own_Go p.tables e below _ (T26.setTop (mkF m 232 Lz4 [(.int (21 : Int32)), (.ref b5), (.ref b5)]))
  refine own_up (fun _ kq => X26.ldc2DoubleC hx hown (mvT hZ (hw _ (List.mem_of_getElem? (i := 21) rfl))) (g := (mkF m 232 Lz4 [(.int (21 : Int32)), (.ref b5), (.ref b5)])) rfl (hb hby at_232) _ kq) ?_
  show own_Go p.tables e below _ (T26.setTop (mkF m 235 Lz4 [(.double (4626885667169763328 : UInt64)), (.int (21 : Int32)), (.ref b5), (.ref b5)]))
  obtain ⟨cl27, Ar27, q27, sz27, nz27, hH27, hG27⟩ := V_b5
  obtain ⟨T27, h27, X27, e27, W27, st27⟩ := stD X26 hx hZ e26 Ar27 (j := (21 : Int32)) (inb_of sz27 ⟨by decide, by decide⟩) (g := (mkF m 235 Lz4 [(.double (4626885667169763328 : UInt64)), (.int (21 : Int32)), (.ref b5), (.ref b5)])) rfl rfl (hb hby at_235)
  have V_b5 : Arv Z h27 b5 k5 .double (48 : Int32) (own_la 22) (.double (0 : UInt64)) := Arv.set Ar27 q27 sz27 nz27 hH27 hG27 rfl W27 21 rfl (Nat.le_of_ble_eq_true rfl)
  have N27 := Fr.snoc X27 N26 g_b5
  have ZH := Nat.le_trans ZH (Nat.le_of_eq W27.size.symm)
  have KK := KK.wr W27 (Or.inr sz_b5)
  refine own_up st27 ?_
  show own_Go p.tables e below _ (T27.setTop (mkF m 236 Lz4 [(.ref b5)]))
  refine own_up (fun _ kq => XS.dup X27.here hx rfl (hb hby at_236) rfl rfl kq) ?_
  show own_Go p.tables e below _ (T27.setTop (mkF m 237 Lz4 [(.ref b5), (.ref b5)]))
  refine own_up (fun _ kq => XS.bipush X27.here hx rfl (hb hby at_237) kq) ?_
  show own_Go p.tables e below _ (T27.setTop (mkF m 239 Lz4 [(.int (22 : Int32)), (.ref b5), (.ref b5)]))
  refine own_up (fun _ kq => X27.ldc2DoubleC hx hown (mvT hZ (hw _ (List.mem_of_getElem? (i := 22) rfl))) (g := (mkF m 239 Lz4 [(.int (22 : Int32)), (.ref b5), (.ref b5)])) rfl (hb hby at_239) _ kq) ?_
  show own_Go p.tables e below _ (T27.setTop (mkF m 242 Lz4 [(.double (4627167142146473984 : UInt64)), (.int (22 : Int32)), (.ref b5), (.ref b5)]))
  obtain ⟨cl28, Ar28, q28, sz28, nz28, hH28, hG28⟩ := V_b5
  obtain ⟨T28, h28, X28, e28, W28, st28⟩ := stD X27 hx hZ e27 Ar28 (j := (22 : Int32)) (inb_of sz28 ⟨by decide, by decide⟩) (g := (mkF m 242 Lz4 [(.double (4627167142146473984 : UInt64)), (.int (22 : Int32)), (.ref b5), (.ref b5)])) rfl rfl (hb hby at_242)
  have V_b5 : Arv Z h28 b5 k5 .double (48 : Int32) (own_la 23) (.double (0 : UInt64)) := Arv.set Ar28 q28 sz28 nz28 hH28 hG28 rfl W28 22 rfl (Nat.le_of_ble_eq_true rfl)
  have N28 := Fr.snoc X28 N27 g_b5
  have ZH := Nat.le_trans ZH (Nat.le_of_eq W28.size.symm)
  have KK := KK.wr W28 (Or.inr sz_b5)
  refine own_up st28 ?_
  show own_Go p.tables e below _ (T28.setTop (mkF m 243 Lz4 [(.ref b5)]))
  refine own_up (fun _ kq => XS.dup X28.here hx rfl (hb hby at_243) rfl rfl kq) ?_
  show own_Go p.tables e below _ (T28.setTop (mkF m 244 Lz4 [(.ref b5), (.ref b5)]))
  refine own_up (fun _ kq => XS.bipush X28.here hx rfl (hb hby at_244) kq) ?_
  show own_Go p.tables e below _ (T28.setTop (mkF m 246 Lz4 [(.int (23 : Int32)), (.ref b5), (.ref b5)]))
  refine own_up (fun _ kq => X28.ldc2DoubleC hx hown (mvT hZ (hw _ (List.mem_of_getElem? (i := 23) rfl))) (g := (mkF m 246 Lz4 [(.int (23 : Int32)), (.ref b5), (.ref b5)])) rfl (hb hby at_246) _ kq) ?_
  show own_Go p.tables e below _ (T28.setTop (mkF m 249 Lz4 [(.double (4627448617123184640 : UInt64)), (.int (23 : Int32)), (.ref b5), (.ref b5)]))
  obtain ⟨cl29, Ar29, q29, sz29, nz29, hH29, hG29⟩ := V_b5
  obtain ⟨T29, h29, X29, e29, W29, st29⟩ := stD X28 hx hZ e28 Ar29 (j := (23 : Int32)) (inb_of sz29 ⟨by decide, by decide⟩) (g := (mkF m 249 Lz4 [(.double (4627448617123184640 : UInt64)), (.int (23 : Int32)), (.ref b5), (.ref b5)])) rfl rfl (hb hby at_249)
  have V_b5 : Arv Z h29 b5 k5 .double (48 : Int32) (own_la 24) (.double (0 : UInt64)) := Arv.set Ar29 q29 sz29 nz29 hH29 hG29 rfl W29 23 rfl (Nat.le_of_ble_eq_true rfl)
  have N29 := Fr.snoc X29 N28 g_b5
  have ZH := Nat.le_trans ZH (Nat.le_of_eq W29.size.symm)
  have KK := KK.wr W29 (Or.inr sz_b5)
  refine own_up st29 ?_
  show own_Go p.tables e below _ (T29.setTop (mkF m 250 Lz4 [(.ref b5)]))
  refine own_up (fun _ kq => XS.dup X29.here hx rfl (hb hby at_250) rfl rfl kq) ?_
  show own_Go p.tables e below _ (T29.setTop (mkF m 251 Lz4 [(.ref b5), (.ref b5)]))
  refine own_up (fun _ kq => XS.bipush X29.here hx rfl (hb hby at_251) kq) ?_
  show own_Go p.tables e below _ (T29.setTop (mkF m 253 Lz4 [(.int (24 : Int32)), (.ref b5), (.ref b5)]))
  refine own_up (fun _ kq => X29.ldc2DoubleC hx hown (mvT hZ (hw _ (List.mem_of_getElem? (i := 24) rfl))) (g := (mkF m 253 Lz4 [(.int (24 : Int32)), (.ref b5), (.ref b5)])) rfl (hb hby at_253) _ kq) ?_
  show own_Go p.tables e below _ (T29.setTop (mkF m 256 Lz4 [(.double (4627730092099895296 : UInt64)), (.int (24 : Int32)), (.ref b5), (.ref b5)]))
  obtain ⟨cl30, Ar30, q30, sz30, nz30, hH30, hG30⟩ := V_b5
  obtain ⟨T30, h30, X30, e30, W30, st30⟩ := stD X29 hx hZ e29 Ar30 (j := (24 : Int32)) (inb_of sz30 ⟨by decide, by decide⟩) (g := (mkF m 256 Lz4 [(.double (4627730092099895296 : UInt64)), (.int (24 : Int32)), (.ref b5), (.ref b5)])) rfl rfl (hb hby at_256)
  have V_b5 : Arv Z h30 b5 k5 .double (48 : Int32) (own_la 25) (.double (0 : UInt64)) := Arv.set Ar30 q30 sz30 nz30 hH30 hG30 rfl W30 24 rfl (Nat.le_of_ble_eq_true rfl)
  have N30 := Fr.snoc X30 N29 g_b5
  have ZH := Nat.le_trans ZH (Nat.le_of_eq W30.size.symm)
  have KK := KK.wr W30 (Or.inr sz_b5)
  refine own_up st30 ?_
  show own_Go p.tables e below _ (T30.setTop (mkF m 257 Lz4 [(.ref b5)]))
  refine own_up (fun _ kq => XS.dup X30.here hx rfl (hb hby at_257) rfl rfl kq) ?_
  show own_Go p.tables e below _ (T30.setTop (mkF m 258 Lz4 [(.ref b5), (.ref b5)]))
  refine own_up (fun _ kq => XS.bipush X30.here hx rfl (hb hby at_258) kq) ?_
  show own_Go p.tables e below _ (T30.setTop (mkF m 260 Lz4 [(.int (25 : Int32)), (.ref b5), (.ref b5)]))
  refine own_up (fun _ kq => X30.ldc2DoubleC hx hown (mvT hZ (hw _ (List.mem_of_getElem? (i := 25) rfl))) (g := (mkF m 260 Lz4 [(.int (25 : Int32)), (.ref b5), (.ref b5)])) rfl (hb hby at_260) _ kq) ?_
  show own_Go p.tables e below _ (T30.setTop (mkF m 263 Lz4 [(.double (4628011567076605952 : UInt64)), (.int (25 : Int32)), (.ref b5), (.ref b5)]))
  obtain ⟨cl31, Ar31, q31, sz31, nz31, hH31, hG31⟩ := V_b5
  obtain ⟨T31, h31, X31, e31, W31, st31⟩ := stD X30 hx hZ e30 Ar31 (j := (25 : Int32)) (inb_of sz31 ⟨by decide, by decide⟩) (g := (mkF m 263 Lz4 [(.double (4628011567076605952 : UInt64)), (.int (25 : Int32)), (.ref b5), (.ref b5)])) rfl rfl (hb hby at_263)
  have V_b5 : Arv Z h31 b5 k5 .double (48 : Int32) (own_la 26) (.double (0 : UInt64)) := Arv.set Ar31 q31 sz31 nz31 hH31 hG31 rfl W31 25 rfl (Nat.le_of_ble_eq_true rfl)
  have N31 := Fr.snoc X31 N30 g_b5
  have ZH := Nat.le_trans ZH (Nat.le_of_eq W31.size.symm)
  have KK := KK.wr W31 (Or.inr sz_b5)
  refine own_up st31 ?_
  show own_Go p.tables e below _ (T31.setTop (mkF m 264 Lz4 [(.ref b5)]))
  refine own_up (fun _ kq => XS.dup X31.here hx rfl (hb hby at_264) rfl rfl kq) ?_
  show own_Go p.tables e below _ (T31.setTop (mkF m 265 Lz4 [(.ref b5), (.ref b5)]))
  refine own_up (fun _ kq => XS.bipush X31.here hx rfl (hb hby at_265) kq) ?_
  show own_Go p.tables e below _ (T31.setTop (mkF m 267 Lz4 [(.int (26 : Int32)), (.ref b5), (.ref b5)]))
  refine own_up (fun _ kq => X31.ldc2DoubleC hx hown (mvT hZ (hw _ (List.mem_of_getElem? (i := 26) rfl))) (g := (mkF m 267 Lz4 [(.int (26 : Int32)), (.ref b5), (.ref b5)])) rfl (hb hby at_267) _ kq) ?_
  show own_Go p.tables e below _ (T31.setTop (mkF m 270 Lz4 [(.double (4628293042053316608 : UInt64)), (.int (26 : Int32)), (.ref b5), (.ref b5)]))
  obtain ⟨cl32, Ar32, q32, sz32, nz32, hH32, hG32⟩ := V_b5
  obtain ⟨T32, h32, X32, e32, W32, st32⟩ := stD X31 hx hZ e31 Ar32 (j := (26 : Int32)) (inb_of sz32 ⟨by decide, by decide⟩) (g := (mkF m 270 Lz4 [(.double (4628293042053316608 : UInt64)), (.int (26 : Int32)), (.ref b5), (.ref b5)])) rfl rfl (hb hby at_270)
  have V_b5 : Arv Z h32 b5 k5 .double (48 : Int32) (own_la 27) (.double (0 : UInt64)) := Arv.set Ar32 q32 sz32 nz32 hH32 hG32 rfl W32 26 rfl (Nat.le_of_ble_eq_true rfl)
  have N32 := Fr.snoc X32 N31 g_b5
  have ZH := Nat.le_trans ZH (Nat.le_of_eq W32.size.symm)
  have KK := KK.wr W32 (Or.inr sz_b5)
  refine own_up st32 ?_
  show own_Go p.tables e below _ (T32.setTop (mkF m 271 Lz4 [(.ref b5)]))
  refine own_up (fun _ kq => XS.dup X32.here hx rfl (hb hby at_271) rfl rfl kq) ?_
  show own_Go p.tables e below _ (T32.setTop (mkF m 272 Lz4 [(.ref b5), (.ref b5)]))
  refine own_up (fun _ kq => XS.bipush X32.here hx rfl (hb hby at_272) kq) ?_
  show own_Go p.tables e below _ (T32.setTop (mkF m 274 Lz4 [(.int (27 : Int32)), (.ref b5), (.ref b5)]))
  refine own_up (fun _ kq => X32.ldc2DoubleC hx hown (mvT hZ (hw _ (List.mem_of_getElem? (i := 27) rfl))) (g := (mkF m 274 Lz4 [(.int (27 : Int32)), (.ref b5), (.ref b5)])) rfl (hb hby at_274) _ kq) ?_
  show own_Go p.tables e below _ (T32.setTop (mkF m 277 Lz4 [(.double (4628574517030027264 : UInt64)), (.int (27 : Int32)), (.ref b5), (.ref b5)]))
  obtain ⟨cl33, Ar33, q33, sz33, nz33, hH33, hG33⟩ := V_b5
  obtain ⟨T33, h33, X33, e33, W33, st33⟩ := stD X32 hx hZ e32 Ar33 (j := (27 : Int32)) (inb_of sz33 ⟨by decide, by decide⟩) (g := (mkF m 277 Lz4 [(.double (4628574517030027264 : UInt64)), (.int (27 : Int32)), (.ref b5), (.ref b5)])) rfl rfl (hb hby at_277)
  have V_b5 : Arv Z h33 b5 k5 .double (48 : Int32) (own_la 28) (.double (0 : UInt64)) := Arv.set Ar33 q33 sz33 nz33 hH33 hG33 rfl W33 27 rfl (Nat.le_of_ble_eq_true rfl)
  have N33 := Fr.snoc X33 N32 g_b5
  have ZH := Nat.le_trans ZH (Nat.le_of_eq W33.size.symm)
  have KK := KK.wr W33 (Or.inr sz_b5)
  refine own_up st33 ?_
  show own_Go p.tables e below _ (T33.setTop (mkF m 278 Lz4 [(.ref b5)]))
  refine own_up (fun _ kq => XS.dup X33.here hx rfl (hb hby at_278) rfl rfl kq) ?_
  show own_Go p.tables e below _ (T33.setTop (mkF m 279 Lz4 [(.ref b5), (.ref b5)]))
  refine own_up (fun _ kq => XS.bipush X33.here hx rfl (hb hby at_279) kq) ?_
  show own_Go p.tables e below _ (T33.setTop (mkF m 281 Lz4 [(.int (28 : Int32)), (.ref b5), (.ref b5)]))
  refine own_up (fun _ kq => X33.ldc2DoubleC hx hown (mvT hZ (hw _ (List.mem_of_getElem? (i := 28) rfl))) (g := (mkF m 281 Lz4 [(.int (28 : Int32)), (.ref b5), (.ref b5)])) rfl (hb hby at_281) _ kq) ?_
  show own_Go p.tables e below _ (T33.setTop (mkF m 284 Lz4 [(.double (4628855992006737920 : UInt64)), (.int (28 : Int32)), (.ref b5), (.ref b5)]))
  obtain ⟨cl34, Ar34, q34, sz34, nz34, hH34, hG34⟩ := V_b5
  obtain ⟨T34, h34, X34, e34, W34, st34⟩ := stD X33 hx hZ e33 Ar34 (j := (28 : Int32)) (inb_of sz34 ⟨by decide, by decide⟩) (g := (mkF m 284 Lz4 [(.double (4628855992006737920 : UInt64)), (.int (28 : Int32)), (.ref b5), (.ref b5)])) rfl rfl (hb hby at_284)
  have V_b5 : Arv Z h34 b5 k5 .double (48 : Int32) (own_la 29) (.double (0 : UInt64)) := Arv.set Ar34 q34 sz34 nz34 hH34 hG34 rfl W34 28 rfl (Nat.le_of_ble_eq_true rfl)
  have N34 := Fr.snoc X34 N33 g_b5
  have ZH := Nat.le_trans ZH (Nat.le_of_eq W34.size.symm)
  have KK := KK.wr W34 (Or.inr sz_b5)
  refine own_up st34 ?_
  show own_Go p.tables e below _ (T34.setTop (mkF m 285 Lz4 [(.ref b5)]))
  refine own_up (fun _ kq => XS.dup X34.here hx rfl (hb hby at_285) rfl rfl kq) ?_
  show own_Go p.tables e below _ (T34.setTop (mkF m 286 Lz4 [(.ref b5), (.ref b5)]))
  refine own_up (fun _ kq => XS.bipush X34.here hx rfl (hb hby at_286) kq) ?_
  show own_Go p.tables e below _ (T34.setTop (mkF m 288 Lz4 [(.int (29 : Int32)), (.ref b5), (.ref b5)]))
  refine own_up (fun _ kq => X34.ldc2DoubleC hx hown (mvT hZ (hw _ (List.mem_of_getElem? (i := 29) rfl))) (g := (mkF m 288 Lz4 [(.int (29 : Int32)), (.ref b5), (.ref b5)])) rfl (hb hby at_288) _ kq) ?_
  show own_Go p.tables e below _ (T34.setTop (mkF m 291 Lz4 [(.double (4629137466983448576 : UInt64)), (.int (29 : Int32)), (.ref b5), (.ref b5)]))
  obtain ⟨cl35, Ar35, q35, sz35, nz35, hH35, hG35⟩ := V_b5
  obtain ⟨T35, h35, X35, e35, W35, st35⟩ := stD X34 hx hZ e34 Ar35 (j := (29 : Int32)) (inb_of sz35 ⟨by decide, by decide⟩) (g := (mkF m 291 Lz4 [(.double (4629137466983448576 : UInt64)), (.int (29 : Int32)), (.ref b5), (.ref b5)])) rfl rfl (hb hby at_291)
  have V_b5 : Arv Z h35 b5 k5 .double (48 : Int32) (own_la 30) (.double (0 : UInt64)) := Arv.set Ar35 q35 sz35 nz35 hH35 hG35 rfl W35 29 rfl (Nat.le_of_ble_eq_true rfl)
  have N35 := Fr.snoc X35 N34 g_b5
  have ZH := Nat.le_trans ZH (Nat.le_of_eq W35.size.symm)
  have KK := KK.wr W35 (Or.inr sz_b5)
  refine own_up st35 ?_
  show own_Go p.tables e below _ (T35.setTop (mkF m 292 Lz4 [(.ref b5)]))
  refine own_up (fun _ kq => XS.dup X35.here hx rfl (hb hby at_292) rfl rfl kq) ?_
  show own_Go p.tables e below _ (T35.setTop (mkF m 293 Lz4 [(.ref b5), (.ref b5)]))
  refine own_up (fun _ kq => XS.bipush X35.here hx rfl (hb hby at_293) kq) ?_
  show own_Go p.tables e below _ (T35.setTop (mkF m 295 Lz4 [(.int (30 : Int32)), (.ref b5), (.ref b5)]))
  refine own_up (fun _ kq => X35.ldc2DoubleC hx hown (mvT hZ (hw _ (List.mem_of_getElem? (i := 30) rfl))) (g := (mkF m 295 Lz4 [(.int (30 : Int32)), (.ref b5), (.ref b5)])) rfl (hb hby at_295) _ kq) ?_
  show own_Go p.tables e below _ (T35.setTop (mkF m 298 Lz4 [(.double (4629418941960159232 : UInt64)), (.int (30 : Int32)), (.ref b5), (.ref b5)]))
  obtain ⟨cl36, Ar36, q36, sz36, nz36, hH36, hG36⟩ := V_b5
  obtain ⟨T36, h36, X36, e36, W36, st36⟩ := stD X35 hx hZ e35 Ar36 (j := (30 : Int32)) (inb_of sz36 ⟨by decide, by decide⟩) (g := (mkF m 298 Lz4 [(.double (4629418941960159232 : UInt64)), (.int (30 : Int32)), (.ref b5), (.ref b5)])) rfl rfl (hb hby at_298)
  have V_b5 : Arv Z h36 b5 k5 .double (48 : Int32) (own_la 31) (.double (0 : UInt64)) := Arv.set Ar36 q36 sz36 nz36 hH36 hG36 rfl W36 30 rfl (Nat.le_of_ble_eq_true rfl)
  have N36 := Fr.snoc X36 N35 g_b5
  have ZH := Nat.le_trans ZH (Nat.le_of_eq W36.size.symm)
  have KK := KK.wr W36 (Or.inr sz_b5)
  refine own_up st36 ?_
  show own_Go p.tables e below _ (T36.setTop (mkF m 299 Lz4 [(.ref b5)]))
  refine own_up (fun _ kq => XS.dup X36.here hx rfl (hb hby at_299) rfl rfl kq) ?_
  show own_Go p.tables e below _ (T36.setTop (mkF m 300 Lz4 [(.ref b5), (.ref b5)]))
  refine own_up (fun _ kq => XS.bipush X36.here hx rfl (hb hby at_300) kq) ?_
  show own_Go p.tables e below _ (T36.setTop (mkF m 302 Lz4 [(.int (31 : Int32)), (.ref b5), (.ref b5)]))
  refine own_up (fun _ kq => X36.ldc2DoubleC hx hown (mvT hZ (hw _ (List.mem_of_getElem? (i := 31) rfl))) (g := (mkF m 302 Lz4 [(.int (31 : Int32)), (.ref b5), (.ref b5)])) rfl (hb hby at_302) _ kq) ?_
  show own_Go p.tables e below _ (T36.setTop (mkF m 305 Lz4 [(.double (4629700416936869888 : UInt64)), (.int (31 : Int32)), (.ref b5), (.ref b5)]))
  obtain ⟨cl37, Ar37, q37, sz37, nz37, hH37, hG37⟩ := V_b5
  obtain ⟨T37, h37, X37, e37, W37, st37⟩ := stD X36 hx hZ e36 Ar37 (j := (31 : Int32)) (inb_of sz37 ⟨by decide, by decide⟩) (g := (mkF m 305 Lz4 [(.double (4629700416936869888 : UInt64)), (.int (31 : Int32)), (.ref b5), (.ref b5)])) rfl rfl (hb hby at_305)
  have V_b5 : Arv Z h37 b5 k5 .double (48 : Int32) (own_la 32) (.double (0 : UInt64)) := Arv.set Ar37 q37 sz37 nz37 hH37 hG37 rfl W37 31 rfl (Nat.le_of_ble_eq_true rfl)
  have N37 := Fr.snoc X37 N36 g_b5
  have ZH := Nat.le_trans ZH (Nat.le_of_eq W37.size.symm)
  have KK := KK.wr W37 (Or.inr sz_b5)
  refine own_up st37 ?_
  show own_Go p.tables e below _ (T37.setTop (mkF m 306 Lz4 [(.ref b5)]))
  refine own_up (fun _ kq => XS.dup X37.here hx rfl (hb hby at_306) rfl rfl kq) ?_
  show own_Go p.tables e below _ (T37.setTop (mkF m 307 Lz4 [(.ref b5), (.ref b5)]))
  refine own_up (fun _ kq => XS.bipush X37.here hx rfl (hb hby at_307) kq) ?_
  show own_Go p.tables e below _ (T37.setTop (mkF m 309 Lz4 [(.int (32 : Int32)), (.ref b5), (.ref b5)]))
  refine own_up (fun _ kq => X37.ldc2DoubleC hx hown (mvT hZ (hw _ (List.mem_of_getElem? (i := 32) rfl))) (g := (mkF m 309 Lz4 [(.int (32 : Int32)), (.ref b5), (.ref b5)])) rfl (hb hby at_309) _ kq) ?_
  show own_Go p.tables e below _ (T37.setTop (mkF m 312 Lz4 [(.double (4629841154425225216 : UInt64)), (.int (32 : Int32)), (.ref b5), (.ref b5)]))
  obtain ⟨cl38, Ar38, q38, sz38, nz38, hH38, hG38⟩ := V_b5
  obtain ⟨T38, h38, X38, e38, W38, st38⟩ := stD X37 hx hZ e37 Ar38 (j := (32 : Int32)) (inb_of sz38 ⟨by decide, by decide⟩) (g := (mkF m 312 Lz4 [(.double (4629841154425225216 : UInt64)), (.int (32 : Int32)), (.ref b5), (.ref b5)])) rfl rfl (hb hby at_312)
  have V_b5 : Arv Z h38 b5 k5 .double (48 : Int32) (own_la 33) (.double (0 : UInt64)) := Arv.set Ar38 q38 sz38 nz38 hH38 hG38 rfl W38 32 rfl (Nat.le_of_ble_eq_true rfl)
  have N38 := Fr.snoc X38 N37 g_b5
  have ZH := Nat.le_trans ZH (Nat.le_of_eq W38.size.symm)
  have KK := KK.wr W38 (Or.inr sz_b5)
  refine own_up st38 ?_
  show own_Go p.tables e below _ (T38.setTop (mkF m 313 Lz4 [(.ref b5)]))
  refine own_up (fun _ kq => XS.dup X38.here hx rfl (hb hby at_313) rfl rfl kq) ?_
  show own_Go p.tables e below _ (T38.setTop (mkF m 314 Lz4 [(.ref b5), (.ref b5)]))
  refine own_up (fun _ kq => XS.bipush X38.here hx rfl (hb hby at_314) kq) ?_
  show own_Go p.tables e below _ (T38.setTop (mkF m 316 Lz4 [(.int (33 : Int32)), (.ref b5), (.ref b5)]))
  refine own_up (fun _ kq => X38.ldc2DoubleC hx hown (mvT hZ (hw _ (List.mem_of_getElem? (i := 33) rfl))) (g := (mkF m 316 Lz4 [(.int (33 : Int32)), (.ref b5), (.ref b5)])) rfl (hb hby at_316) _ kq) ?_
  show own_Go p.tables e below _ (T38.setTop (mkF m 319 Lz4 [(.double (4629981891913580544 : UInt64)), (.int (33 : Int32)), (.ref b5), (.ref b5)]))
  obtain ⟨cl39, Ar39, q39, sz39, nz39, hH39, hG39⟩ := V_b5
  obtain ⟨T39, h39, X39, e39, W39, st39⟩ := stD X38 hx hZ e38 Ar39 (j := (33 : Int32)) (inb_of sz39 ⟨by decide, by decide⟩) (g := (mkF m 319 Lz4 [(.double (4629981891913580544 : UInt64)), (.int (33 : Int32)), (.ref b5), (.ref b5)])) rfl rfl (hb hby at_319)
  have V_b5 : Arv Z h39 b5 k5 .double (48 : Int32) (own_la 34) (.double (0 : UInt64)) := Arv.set Ar39 q39 sz39 nz39 hH39 hG39 rfl W39 33 rfl (Nat.le_of_ble_eq_true rfl)
  have N39 := Fr.snoc X39 N38 g_b5
  have ZH := Nat.le_trans ZH (Nat.le_of_eq W39.size.symm)
  have KK := KK.wr W39 (Or.inr sz_b5)
  refine own_up st39 ?_
  show own_Go p.tables e below _ (T39.setTop (mkF m 320 Lz4 [(.ref b5)]))
  refine own_up (fun _ kq => XS.dup X39.here hx rfl (hb hby at_320) rfl rfl kq) ?_
  show own_Go p.tables e below _ (T39.setTop (mkF m 321 Lz4 [(.ref b5), (.ref b5)]))
  refine own_up (fun _ kq => XS.bipush X39.here hx rfl (hb hby at_321) kq) ?_
  show own_Go p.tables e below _ (T39.setTop (mkF m 323 Lz4 [(.int (34 : Int32)), (.ref b5), (.ref b5)]))
  refine own_up (fun _ kq => X39.ldc2DoubleC hx hown (mvT hZ (hw _ (List.mem_of_getElem? (i := 34) rfl))) (g := (mkF m 323 Lz4 [(.int (34 : Int32)), (.ref b5), (.ref b5)])) rfl (hb hby at_323) _ kq) ?_
  show own_Go p.tables e below _ (T39.setTop (mkF m 326 Lz4 [(.double (4630122629401935872 : UInt64)), (.int (34 : Int32)), (.ref b5), (.ref b5)]))
  obtain ⟨cl40, Ar40, q40, sz40, nz40, hH40, hG40⟩ := V_b5
  obtain ⟨T40, h40, X40, e40, W40, st40⟩ := stD X39 hx hZ e39 Ar40 (j := (34 : Int32)) (inb_of sz40 ⟨by decide, by decide⟩) (g := (mkF m 326 Lz4 [(.double (4630122629401935872 : UInt64)), (.int (34 : Int32)), (.ref b5), (.ref b5)])) rfl rfl (hb hby at_326)
  have V_b5 : Arv Z h40 b5 k5 .double (48 : Int32) (own_la 35) (.double (0 : UInt64)) := Arv.set Ar40 q40 sz40 nz40 hH40 hG40 rfl W40 34 rfl (Nat.le_of_ble_eq_true rfl)
  have N40 := Fr.snoc X40 N39 g_b5
  have ZH := Nat.le_trans ZH (Nat.le_of_eq W40.size.symm)
  have KK := KK.wr W40 (Or.inr sz_b5)
  refine own_up st40 ?_
  show own_Go p.tables e below _ (T40.setTop (mkF m 327 Lz4 [(.ref b5)]))
  refine own_up (fun _ kq => XS.dup X40.here hx rfl (hb hby at_327) rfl rfl kq) ?_
  show own_Go p.tables e below _ (T40.setTop (mkF m 328 Lz4 [(.ref b5), (.ref b5)]))
  refine own_up (fun _ kq => XS.bipush X40.here hx rfl (hb hby at_328) kq) ?_
  show own_Go p.tables e below _ (T40.setTop (mkF m 330 Lz4 [(.int (35 : Int32)), (.ref b5), (.ref b5)]))
  refine own_up (fun _ kq => X40.ldc2DoubleC hx hown (mvT hZ (hw _ (List.mem_of_getElem? (i := 35) rfl))) (g := (mkF m 330 Lz4 [(.int (35 : Int32)), (.ref b5), (.ref b5)])) rfl (hb hby at_330) _ kq) ?_
  show own_Go p.tables e below _ (T40.setTop (mkF m 333 Lz4 [(.double (4630263366890291200 : UInt64)), (.int (35 : Int32)), (.ref b5), (.ref b5)]))
  obtain ⟨cl41, Ar41, q41, sz41, nz41, hH41, hG41⟩ := V_b5
  obtain ⟨T41, h41, X41, e41, W41, st41⟩ := stD X40 hx hZ e40 Ar41 (j := (35 : Int32)) (inb_of sz41 ⟨by decide, by decide⟩) (g := (mkF m 333 Lz4 [(.double (4630263366890291200 : UInt64)), (.int (35 : Int32)), (.ref b5), (.ref b5)])) rfl rfl (hb hby at_333)
  have V_b5 : Arv Z h41 b5 k5 .double (48 : Int32) (own_la 36) (.double (0 : UInt64)) := Arv.set Ar41 q41 sz41 nz41 hH41 hG41 rfl W41 35 rfl (Nat.le_of_ble_eq_true rfl)
  have N41 := Fr.snoc X41 N40 g_b5
  have ZH := Nat.le_trans ZH (Nat.le_of_eq W41.size.symm)
  have KK := KK.wr W41 (Or.inr sz_b5)
  refine own_up st41 ?_
  show own_Go p.tables e below _ (T41.setTop (mkF m 334 Lz4 [(.ref b5)]))
  refine own_up (fun _ kq => XS.dup X41.here hx rfl (hb hby at_334) rfl rfl kq) ?_
  show own_Go p.tables e below _ (T41.setTop (mkF m 335 Lz4 [(.ref b5), (.ref b5)]))
  refine own_up (fun _ kq => XS.bipush X41.here hx rfl (hb hby at_335) kq) ?_
  show own_Go p.tables e below _ (T41.setTop (mkF m 337 Lz4 [(.int (36 : Int32)), (.ref b5), (.ref b5)]))
  refine own_up (fun _ kq => X41.ldc2DoubleC hx hown (mvT hZ (hw _ (List.mem_of_getElem? (i := 36) rfl))) (g := (mkF m 337 Lz4 [(.int (36 : Int32)), (.ref b5), (.ref b5)])) rfl (hb hby at_337) _ kq) ?_
  show own_Go p.tables e below _ (T41.setTop (mkF m 340 Lz4 [(.double (4630404104378646528 : UInt64)), (.int (36 : Int32)), (.ref b5), (.ref b5)]))
  obtain ⟨cl42, Ar42, q42, sz42, nz42, hH42, hG42⟩ := V_b5
  obtain ⟨T42, h42, X42, e42, W42, st42⟩ := stD X41 hx hZ e41 Ar42 (j := (36 : Int32)) (inb_of sz42 ⟨by decide, by decide⟩) (g := (mkF m 340 Lz4 [(.double (4630404104378646528 : UInt64)), (.int (36 : Int32)), (.ref b5), (.ref b5)])) rfl rfl (hb hby at_340)
  have V_b5 : Arv Z h42 b5 k5 .double (48 : Int32) (own_la 37) (.double (0 : UInt64)) := Arv.set Ar42 q42 sz42 nz42 hH42 hG42 rfl W42 36 rfl (Nat.le_of_ble_eq_true rfl)
  have N42 := Fr.snoc X42 N41 g_b5
  have ZH := Nat.le_trans ZH (Nat.le_of_eq W42.size.symm)
  have KK := KK.wr W42 (Or.inr sz_b5)
  refine own_up st42 ?_
  show own_Go p.tables e below _ (T42.setTop (mkF m 341 Lz4 [(.ref b5)]))
  refine own_up (fun _ kq => XS.dup X42.here hx rfl (hb hby at_341) rfl rfl kq) ?_
  show own_Go p.tables e below _ (T42.setTop (mkF m 342 Lz4 [(.ref b5), (.ref b5)]))
  refine own_up (fun _ kq => XS.bipush X42.here hx rfl (hb hby at_342) kq) ?_
  show own_Go p.tables e below _ (T42.setTop (mkF m 344 Lz4 [(.int (37 : Int32)), (.ref b5), (.ref b5)]))
  refine own_up (fun _ kq => X42.ldc2DoubleC hx hown (mvT hZ (hw _ (List.mem_of_getElem? (i := 37) rfl))) (g := (mkF m 344 Lz4 [(.int (37 : Int32)), (.ref b5), (.ref b5)])) rfl (hb hby at_344) _ kq) ?_
  show own_Go p.tables e below _ (T42.setTop (mkF m 347 Lz4 [(.double (4630544841867001856 : UInt64)), (.int (37 : Int32)), (.ref b5), (.ref b5)]))
  obtain ⟨cl43, Ar43, q43, sz43, nz43, hH43, hG43⟩ := V_b5
  obtain ⟨T43, h43, X43, e43, W43, st43⟩ := stD X42 hx hZ e42 Ar43 (j := (37 : Int32)) (inb_of sz43 ⟨by decide, by decide⟩) (g := (mkF m 347 Lz4 [(.double (4630544841867001856 : UInt64)), (.int (37 : Int32)), (.ref b5), (.ref b5)])) rfl rfl (hb hby at_347)
  have V_b5 : Arv Z h43 b5 k5 .double (48 : Int32) (own_la 38) (.double (0 : UInt64)) := Arv.set Ar43 q43 sz43 nz43 hH43 hG43 rfl W43 37 rfl (Nat.le_of_ble_eq_true rfl)
  have N43 := Fr.snoc X43 N42 g_b5
  have ZH := Nat.le_trans ZH (Nat.le_of_eq W43.size.symm)
  have KK := KK.wr W43 (Or.inr sz_b5)
  refine own_up st43 ?_
  show own_Go p.tables e below _ (T43.setTop (mkF m 348 Lz4 [(.ref b5)]))
  refine own_up (fun _ kq => XS.dup X43.here hx rfl (hb hby at_348) rfl rfl kq) ?_
  show own_Go p.tables e below _ (T43.setTop (mkF m 349 Lz4 [(.ref b5), (.ref b5)]))
  refine own_up (fun _ kq => XS.bipush X43.here hx rfl (hb hby at_349) kq) ?_
  show own_Go p.tables e below _ (T43.setTop (mkF m 351 Lz4 [(.int (38 : Int32)), (.ref b5), (.ref b5)]))
  refine own_up (fun _ kq => X43.ldc2DoubleC hx hown (mvT hZ (hw _ (List.mem_of_getElem? (i := 38) rfl))) (g := (mkF m 351 Lz4 [(.int (38 : Int32)), (.ref b5), (.ref b5)])) rfl (hb hby at_351) _ kq) ?_
  show own_Go p.tables e below _ (T43.setTop (mkF m 354 Lz4 [(.double (4630685579355357184 : UInt64)), (.int (38 : Int32)), (.ref b5), (.ref b5)]))
  obtain ⟨cl44, Ar44, q44, sz44, nz44, hH44, hG44⟩ := V_b5
  obtain ⟨T44, h44, X44, e44, W44, st44⟩ := stD X43 hx hZ e43 Ar44 (j := (38 : Int32)) (inb_of sz44 ⟨by decide, by decide⟩) (g := (mkF m 354 Lz4 [(.double (4630685579355357184 : UInt64)), (.int (38 : Int32)), (.ref b5), (.ref b5)])) rfl rfl (hb hby at_354)
  have V_b5 : Arv Z h44 b5 k5 .double (48 : Int32) (own_la 39) (.double (0 : UInt64)) := Arv.set Ar44 q44 sz44 nz44 hH44 hG44 rfl W44 38 rfl (Nat.le_of_ble_eq_true rfl)
  have N44 := Fr.snoc X44 N43 g_b5
  have ZH := Nat.le_trans ZH (Nat.le_of_eq W44.size.symm)
  have KK := KK.wr W44 (Or.inr sz_b5)
  refine own_up st44 ?_
  show own_Go p.tables e below _ (T44.setTop (mkF m 355 Lz4 [(.ref b5)]))
  refine own_up (fun _ kq => XS.dup X44.here hx rfl (hb hby at_355) rfl rfl kq) ?_
  show own_Go p.tables e below _ (T44.setTop (mkF m 356 Lz4 [(.ref b5), (.ref b5)]))
  refine own_up (fun _ kq => XS.bipush X44.here hx rfl (hb hby at_356) kq) ?_
  show own_Go p.tables e below _ (T44.setTop (mkF m 358 Lz4 [(.int (39 : Int32)), (.ref b5), (.ref b5)]))
  refine own_up (fun _ kq => X44.ldc2DoubleC hx hown (mvT hZ (hw _ (List.mem_of_getElem? (i := 39) rfl))) (g := (mkF m 358 Lz4 [(.int (39 : Int32)), (.ref b5), (.ref b5)])) rfl (hb hby at_358) _ kq) ?_
  show own_Go p.tables e below _ (T44.setTop (mkF m 361 Lz4 [(.double (4630826316843712512 : UInt64)), (.int (39 : Int32)), (.ref b5), (.ref b5)]))
  obtain ⟨cl45, Ar45, q45, sz45, nz45, hH45, hG45⟩ := V_b5
  obtain ⟨T45, h45, X45, e45, W45, st45⟩ := stD X44 hx hZ e44 Ar45 (j := (39 : Int32)) (inb_of sz45 ⟨by decide, by decide⟩) (g := (mkF m 361 Lz4 [(.double (4630826316843712512 : UInt64)), (.int (39 : Int32)), (.ref b5), (.ref b5)])) rfl rfl (hb hby at_361)
  have V_b5 : Arv Z h45 b5 k5 .double (48 : Int32) (own_la 40) (.double (0 : UInt64)) := Arv.set Ar45 q45 sz45 nz45 hH45 hG45 rfl W45 39 rfl (Nat.le_of_ble_eq_true rfl)
  have N45 := Fr.snoc X45 N44 g_b5
  have ZH := Nat.le_trans ZH (Nat.le_of_eq W45.size.symm)
  have KK := KK.wr W45 (Or.inr sz_b5)
  refine own_up st45 ?_
  show own_Go p.tables e below _ (T45.setTop (mkF m 362 Lz4 [(.ref b5)]))
  refine own_up (fun _ kq => XS.dup X45.here hx rfl (hb hby at_362) rfl rfl kq) ?_
  show own_Go p.tables e below _ (T45.setTop (mkF m 363 Lz4 [(.ref b5), (.ref b5)]))
  refine own_up (fun _ kq => XS.bipush X45.here hx rfl (hb hby at_363) kq) ?_
  show own_Go p.tables e below _ (T45.setTop (mkF m 365 Lz4 [(.int (40 : Int32)), (.ref b5), (.ref b5)]))
  refine own_up (fun _ kq => X45.ldc2DoubleC hx hown (mvT hZ (hw _ (List.mem_of_getElem? (i := 40) rfl))) (g := (mkF m 365 Lz4 [(.int (40 : Int32)), (.ref b5), (.ref b5)])) rfl (hb hby at_365) _ kq) ?_
  show own_Go p.tables e below _ (T45.setTop (mkF m 368 Lz4 [(.double (4630967054332067840 : UInt64)), (.int (40 : Int32)), (.ref b5), (.ref b5)]))
  obtain ⟨cl46, Ar46, q46, sz46, nz46, hH46, hG46⟩ := V_b5
  obtain ⟨T46, h46, X46, e46, W46, st46⟩ := stD X45 hx hZ e45 Ar46 (j := (40 : Int32)) (inb_of sz46 ⟨by decide, by decide⟩) (g := (mkF m 368 Lz4 [(.double (4630967054332067840 : UInt64)), (.int (40 : Int32)), (.ref b5), (.ref b5)])) rfl rfl (hb hby at_368)
  have V_b5 : Arv Z h46 b5 k5 .double (48 : Int32) (own_la 41) (.double (0 : UInt64)) := Arv.set Ar46 q46 sz46 nz46 hH46 hG46 rfl W46 40 rfl (Nat.le_of_ble_eq_true rfl)
  have N46 := Fr.snoc X46 N45 g_b5
  have ZH := Nat.le_trans ZH (Nat.le_of_eq W46.size.symm)
  have KK := KK.wr W46 (Or.inr sz_b5)
  refine own_up st46 ?_
  show own_Go p.tables e below _ (T46.setTop (mkF m 369 Lz4 [(.ref b5)]))
  refine own_up (fun _ kq => XS.dup X46.here hx rfl (hb hby at_369) rfl rfl kq) ?_
  show own_Go p.tables e below _ (T46.setTop (mkF m 370 Lz4 [(.ref b5), (.ref b5)]))
  refine own_up (fun _ kq => XS.bipush X46.here hx rfl (hb hby at_370) kq) ?_
  show own_Go p.tables e below _ (T46.setTop (mkF m 372 Lz4 [(.int (41 : Int32)), (.ref b5), (.ref b5)]))
  refine own_up (fun _ kq => X46.ldc2DoubleC hx hown (mvT hZ (hw _ (List.mem_of_getElem? (i := 41) rfl))) (g := (mkF m 372 Lz4 [(.int (41 : Int32)), (.ref b5), (.ref b5)])) rfl (hb hby at_372) _ kq) ?_
  show own_Go p.tables e below _ (T46.setTop (mkF m 375 Lz4 [(.double (4631107791820423168 : UInt64)), (.int (41 : Int32)), (.ref b5), (.ref b5)]))
  obtain ⟨cl47, Ar47, q47, sz47, nz47, hH47, hG47⟩ := V_b5
  obtain ⟨T47, h47, X47, e47, W47, st47⟩ := stD X46 hx hZ e46 Ar47 (j := (41 : Int32)) (inb_of sz47 ⟨by decide, by decide⟩) (g := (mkF m 375 Lz4 [(.double (4631107791820423168 : UInt64)), (.int (41 : Int32)), (.ref b5), (.ref b5)])) rfl rfl (hb hby at_375)
  have V_b5 : Arv Z h47 b5 k5 .double (48 : Int32) (own_la 42) (.double (0 : UInt64)) := Arv.set Ar47 q47 sz47 nz47 hH47 hG47 rfl W47 41 rfl (Nat.le_of_ble_eq_true rfl)
  have N47 := Fr.snoc X47 N46 g_b5
  have ZH := Nat.le_trans ZH (Nat.le_of_eq W47.size.symm)
  have KK := KK.wr W47 (Or.inr sz_b5)
  refine own_up st47 ?_
  show own_Go p.tables e below _ (T47.setTop (mkF m 376 Lz4 [(.ref b5)]))
  refine own_up (fun _ kq => XS.dup X47.here hx rfl (hb hby at_376) rfl rfl kq) ?_
  show own_Go p.tables e below _ (T47.setTop (mkF m 377 Lz4 [(.ref b5), (.ref b5)]))
  refine own_up (fun _ kq => XS.bipush X47.here hx rfl (hb hby at_377) kq) ?_
  show own_Go p.tables e below _ (T47.setTop (mkF m 379 Lz4 [(.int (42 : Int32)), (.ref b5), (.ref b5)]))
  refine own_up (fun _ kq => X47.ldc2DoubleC hx hown (mvT hZ (hw _ (List.mem_of_getElem? (i := 42) rfl))) (g := (mkF m 379 Lz4 [(.int (42 : Int32)), (.ref b5), (.ref b5)])) rfl (hb hby at_379) _ kq) ?_
  show own_Go p.tables e below _ (T47.setTop (mkF m 382 Lz4 [(.double (4631248529308778496 : UInt64)), (.int (42 : Int32)), (.ref b5), (.ref b5)]))
  obtain ⟨cl48, Ar48, q48, sz48, nz48, hH48, hG48⟩ := V_b5
  obtain ⟨T48, h48, X48, e48, W48, st48⟩ := stD X47 hx hZ e47 Ar48 (j := (42 : Int32)) (inb_of sz48 ⟨by decide, by decide⟩) (g := (mkF m 382 Lz4 [(.double (4631248529308778496 : UInt64)), (.int (42 : Int32)), (.ref b5), (.ref b5)])) rfl rfl (hb hby at_382)
  have V_b5 : Arv Z h48 b5 k5 .double (48 : Int32) (own_la 43) (.double (0 : UInt64)) := Arv.set Ar48 q48 sz48 nz48 hH48 hG48 rfl W48 42 rfl (Nat.le_of_ble_eq_true rfl)
  have N48 := Fr.snoc X48 N47 g_b5
  have ZH := Nat.le_trans ZH (Nat.le_of_eq W48.size.symm)
  have KK := KK.wr W48 (Or.inr sz_b5)
  refine own_up st48 ?_
  show own_Go p.tables e below _ (T48.setTop (mkF m 383 Lz4 [(.ref b5)]))
  refine own_up (fun _ kq => XS.dup X48.here hx rfl (hb hby at_383) rfl rfl kq) ?_
  show own_Go p.tables e below _ (T48.setTop (mkF m 384 Lz4 [(.ref b5), (.ref b5)]))
  refine own_up (fun _ kq => XS.bipush X48.here hx rfl (hb hby at_384) kq) ?_
  show own_Go p.tables e below _ (T48.setTop (mkF m 386 Lz4 [(.int (43 : Int32)), (.ref b5), (.ref b5)]))
  refine own_up (fun _ kq => X48.ldc2DoubleC hx hown (mvT hZ (hw _ (List.mem_of_getElem? (i := 43) rfl))) (g := (mkF m 386 Lz4 [(.int (43 : Int32)), (.ref b5), (.ref b5)])) rfl (hb hby at_386) _ kq) ?_
  show own_Go p.tables e below _ (T48.setTop (mkF m 389 Lz4 [(.double (4631389266797133824 : UInt64)), (.int (43 : Int32)), (.ref b5), (.ref b5)]))
  obtain ⟨cl49, Ar49, q49, sz49, nz49, hH49, hG49⟩ := V_b5
  obtain ⟨T49, h49, X49, e49, W49, st49⟩ := stD X48 hx hZ e48 Ar49 (j := (43 : Int32)) (inb_of sz49 ⟨by decide, by decide⟩) (g := (mkF m 389 Lz4 [(.double (4631389266797133824 : UInt64)), (.int (43 : Int32)), (.ref b5), (.ref b5)])) rfl rfl (hb hby at_389)
  have V_b5 : Arv Z h49 b5 k5 .double (48 : Int32) (own_la 44) (.double (0 : UInt64)) := Arv.set Ar49 q49 sz49 nz49 hH49 hG49 rfl W49 43 rfl (Nat.le_of_ble_eq_true rfl)
  have N49 := Fr.snoc X49 N48 g_b5
  have ZH := Nat.le_trans ZH (Nat.le_of_eq W49.size.symm)
  have KK := KK.wr W49 (Or.inr sz_b5)
  refine own_up st49 ?_
  show own_Go p.tables e below _ (T49.setTop (mkF m 390 Lz4 [(.ref b5)]))
  refine own_up (fun _ kq => XS.dup X49.here hx rfl (hb hby at_390) rfl rfl kq) ?_
  show own_Go p.tables e below _ (T49.setTop (mkF m 391 Lz4 [(.ref b5), (.ref b5)]))
  refine own_up (fun _ kq => XS.bipush X49.here hx rfl (hb hby at_391) kq) ?_
  show own_Go p.tables e below _ (T49.setTop (mkF m 393 Lz4 [(.int (44 : Int32)), (.ref b5), (.ref b5)]))
  refine own_up (fun _ kq => X49.ldc2DoubleC hx hown (mvT hZ (hw _ (List.mem_of_getElem? (i := 44) rfl))) (g := (mkF m 393 Lz4 [(.int (44 : Int32)), (.ref b5), (.ref b5)])) rfl (hb hby at_393) _ kq) ?_
  show own_Go p.tables e below _ (T49.setTop (mkF m 396 Lz4 [(.double (4631530004285489152 : UInt64)), (.int (44 : Int32)), (.ref b5), (.ref b5)]))
  obtain ⟨cl50, Ar50, q50, sz50, nz50, hH50, hG50⟩ := V_b5
  obtain ⟨T50, h50, X50, e50, W50, st50⟩ := stD X49 hx hZ e49 Ar50 (j := (44 : Int32)) (inb_of sz50 ⟨by decide, by decide⟩) (g := (mkF m 396 Lz4 [(.double (4631530004285489152 : UInt64)), (.int (44 : Int32)), (.ref b5), (.ref b5)])) rfl rfl (hb hby at_396)
  have V_b5 : Arv Z h50 b5 k5 .double (48 : Int32) (own_la 45) (.double (0 : UInt64)) := Arv.set Ar50 q50 sz50 nz50 hH50 hG50 rfl W50 44 rfl (Nat.le_of_ble_eq_true rfl)
  have N50 := Fr.snoc X50 N49 g_b5
  have ZH := Nat.le_trans ZH (Nat.le_of_eq W50.size.symm)
  have KK := KK.wr W50 (Or.inr sz_b5)
  refine own_up st50 ?_
  show own_Go p.tables e below _ (T50.setTop (mkF m 397 Lz4 [(.ref b5)]))
  refine own_up (fun _ kq => XS.dup X50.here hx rfl (hb hby at_397) rfl rfl kq) ?_
  show own_Go p.tables e below _ (T50.setTop (mkF m 398 Lz4 [(.ref b5), (.ref b5)]))
  refine own_up (fun _ kq => XS.bipush X50.here hx rfl (hb hby at_398) kq) ?_
  show own_Go p.tables e below _ (T50.setTop (mkF m 400 Lz4 [(.int (45 : Int32)), (.ref b5), (.ref b5)]))
  refine own_up (fun _ kq => X50.ldc2DoubleC hx hown (mvT hZ (hw _ (List.mem_of_getElem? (i := 45) rfl))) (g := (mkF m 400 Lz4 [(.int (45 : Int32)), (.ref b5), (.ref b5)])) rfl (hb hby at_400) _ kq) ?_
  show own_Go p.tables e below _ (T50.setTop (mkF m 403 Lz4 [(.double (4631670741773844480 : UInt64)), (.int (45 : Int32)), (.ref b5), (.ref b5)]))
  obtain ⟨cl51, Ar51, q51, sz51, nz51, hH51, hG51⟩ := V_b5
  obtain ⟨T51, h51, X51, e51, W51, st51⟩ := stD X50 hx hZ e50 Ar51 (j := (45 : Int32)) (inb_of sz51 ⟨by decide, by decide⟩) (g := (mkF m 403 Lz4 [(.double (4631670741773844480 : UInt64)), (.int (45 : Int32)), (.ref b5), (.ref b5)])) rfl rfl (hb hby at_403)
  have V_b5 : Arv Z h51 b5 k5 .double (48 : Int32) (own_la 46) (.double (0 : UInt64)) := Arv.set Ar51 q51 sz51 nz51 hH51 hG51 rfl W51 45 rfl (Nat.le_of_ble_eq_true rfl)
  have N51 := Fr.snoc X51 N50 g_b5
  have ZH := Nat.le_trans ZH (Nat.le_of_eq W51.size.symm)
  have KK := KK.wr W51 (Or.inr sz_b5)
  refine own_up st51 ?_
  show own_Go p.tables e below _ (T51.setTop (mkF m 404 Lz4 [(.ref b5)]))
  refine own_up (fun _ kq => XS.dup X51.here hx rfl (hb hby at_404) rfl rfl kq) ?_
  show own_Go p.tables e below _ (T51.setTop (mkF m 405 Lz4 [(.ref b5), (.ref b5)]))
  refine own_up (fun _ kq => XS.bipush X51.here hx rfl (hb hby at_405) kq) ?_
  show own_Go p.tables e below _ (T51.setTop (mkF m 407 Lz4 [(.int (46 : Int32)), (.ref b5), (.ref b5)]))
  refine own_up (fun _ kq => X51.ldc2DoubleC hx hown (mvT hZ (hw _ (List.mem_of_getElem? (i := 46) rfl))) (g := (mkF m 407 Lz4 [(.int (46 : Int32)), (.ref b5), (.ref b5)])) rfl (hb hby at_407) _ kq) ?_
  show own_Go p.tables e below _ (T51.setTop (mkF m 410 Lz4 [(.double (4631811479262199808 : UInt64)), (.int (46 : Int32)), (.ref b5), (.ref b5)]))
  obtain ⟨cl52, Ar52, q52, sz52, nz52, hH52, hG52⟩ := V_b5
  obtain ⟨T52, h52, X52, e52, W52, st52⟩ := stD X51 hx hZ e51 Ar52 (j := (46 : Int32)) (inb_of sz52 ⟨by decide, by decide⟩) (g := (mkF m 410 Lz4 [(.double (4631811479262199808 : UInt64)), (.int (46 : Int32)), (.ref b5), (.ref b5)])) rfl rfl (hb hby at_410)
  have V_b5 : Arv Z h52 b5 k5 .double (48 : Int32) (own_la 47) (.double (0 : UInt64)) := Arv.set Ar52 q52 sz52 nz52 hH52 hG52 rfl W52 46 rfl (Nat.le_of_ble_eq_true rfl)
  have N52 := Fr.snoc X52 N51 g_b5
  have ZH := Nat.le_trans ZH (Nat.le_of_eq W52.size.symm)
  have KK := KK.wr W52 (Or.inr sz_b5)
  refine own_up st52 ?_
  show own_Go p.tables e below _ (T52.setTop (mkF m 411 Lz4 [(.ref b5)]))
  refine own_up (fun _ kq => XS.dup X52.here hx rfl (hb hby at_411) rfl rfl kq) ?_
  show own_Go p.tables e below _ (T52.setTop (mkF m 412 Lz4 [(.ref b5), (.ref b5)]))
  refine own_up (fun _ kq => XS.bipush X52.here hx rfl (hb hby at_412) kq) ?_
  show own_Go p.tables e below _ (T52.setTop (mkF m 414 Lz4 [(.int (47 : Int32)), (.ref b5), (.ref b5)]))
  refine own_up (fun _ kq => X52.ldc2DoubleC hx hown (mvT hZ (hw _ (List.mem_of_getElem? (i := 47) rfl))) (g := (mkF m 414 Lz4 [(.int (47 : Int32)), (.ref b5), (.ref b5)])) rfl (hb hby at_414) _ kq) ?_
  show own_Go p.tables e below _ (T52.setTop (mkF m 417 Lz4 [(.double (4631952216750555136 : UInt64)), (.int (47 : Int32)), (.ref b5), (.ref b5)]))
  obtain ⟨cl53, Ar53, q53, sz53, nz53, hH53, hG53⟩ := V_b5
  obtain ⟨T53, h53, X53, e53, W53, st53⟩ := stD X52 hx hZ e52 Ar53 (j := (47 : Int32)) (inb_of sz53 ⟨by decide, by decide⟩) (g := (mkF m 417 Lz4 [(.double (4631952216750555136 : UInt64)), (.int (47 : Int32)), (.ref b5), (.ref b5)])) rfl rfl (hb hby at_417)
  have V_b5 : Arv Z h53 b5 k5 .double (48 : Int32) (own_la 48) (.double (0 : UInt64)) := Arv.set Ar53 q53 sz53 nz53 hH53 hG53 rfl W53 47 rfl (Nat.le_of_ble_eq_true rfl)
  have N53 := Fr.snoc X53 N52 g_b5
  have ZH := Nat.le_trans ZH (Nat.le_of_eq W53.size.symm)
  have KK := KK.wr W53 (Or.inr sz_b5)
  refine own_up st53 ?_
  have G_b5 : own_Arf Z h53 b5 .double (48 : Int32) (fun i => .double (own_L own_l48 i)) := (own_Arf.ofArv V_b5).congr (fun i _ => by rw [own_la48]; exact own_Lget _ i)
  show own_Go p.tables e below _ (T53.setTop (mkF m 418 Lz4 [(.ref b5)]))
  obtain ⟨LQ, X53, N53⟩ := own_forget X53 N53
  subst hLz4
  show own_Go p.tables e below _ (T53.setTop (mkF m 418 #[.val (.int p0), .val (.int p1), .val (.int p2), .val (.int p3), .val (.int p4), .val (.int p5), .val (.int cn), .val (.int ra), .val (.int v19), .val (.int v31), .val (.int ta), .val (.int bs), .val (.int bq), .val (.int tb), .unset, .unset, .unset, .unset, .unset, .unset, .unset, .unset] [(.ref b5)]))
  refine own_up (fun _ kq => XS.astore X53.here hx rfl (hb hby at_418) rfl rfl (l' := #[.val (.int p0), .val (.int p1), .val (.int p2), .val (.int p3), .val (.int p4), .val (.int p5), .val (.int cn), .val (.int ra), .val (.int v19), .val (.int v31), .val (.int ta), .val (.int bs), .val (.int bq), .val (.int tb), .val (.ref b5), .unset, .unset, .unset, .unset, .unset, .unset, .unset]) rfl kq) ?_
  show own_Go p.tables e below _ (T53.setTop (mkF m 420 #[.val (.int p0), .val (.int p1), .val (.int p2), .val (.int p3), .val (.int p4), .val (.int p5), .val (.int cn), .val (.int ra), .val (.int v19), .val (.int v31), .val (.int ta), .val (.int bs), .val (.int bq), .val (.int tb), .val (.ref b5), .unset, .unset, .unset, .unset, .unset, .unset, .unset] []))
  obtain ⟨Lz54, hLz54⟩ : ∃ z : Array Slot, z = #[.val (.int p0), .val (.int p1), .val (.int p2), .val (.int p3), .val (.int p4), .val (.int p5), .val (.int cn), .val (.int ra), .val (.int v19), .val (.int v31), .val (.int ta), .val (.int bs), .val (.int bq), .val (.int tb), .val (.ref b5), .unset, .unset, .unset, .unset, .unset, .unset, .unset] := ⟨_, rfl⟩
  rw [← hLz54]
  show own_Go p.tables e below _ (T53.setTop (mkF m 420 Lz54 []))
  refine own_up (fun _ kq => XS.bipush X53.here hx rfl (hb hby at_420) kq) ?_
  show own_Go p.tables e below _ (T53.setTop (mkF m 422 Lz54 [(.int (60 : Int32))]))
  obtain ⟨T55, h55, k55, X55, e55, E55, A55, st55⟩ := newP X53 hx hZ (hw _ (List.mem_of_getElem? (i := 0) rfl)) e53 (g := (mkF m 422 Lz54 [(.int (60 : Int32))])) rfl (hb hby at_422) rfl (by decide) (cap := 60) (by decide) (by decide) (by decide) (by decide)
  obtain ⟨b55, gz55⟩ : ∃ z, z = h53.size := ⟨_, rfl⟩
  rw [← gz55] at A55 st55
  have ne_b5_b55 : b5 ≠ b55 := Nat.ne_of_lt (Nat.lt_of_lt_of_le G_b5.lt (Nat.le_of_eq gz55.symm))
  have g_b55 : n0 ≤ b55 := Nat.le_trans ZH (Nat.le_of_eq gz55.symm)
  have sz_b55 : h0.size ≤ b55 := Nat.le_trans KK.1 (Nat.le_of_eq gz55.symm)
  have G_b5 := G_b5.ext E55
  have ZH := Nat.le_trans ZH E55.1
  have KK := KK.ext E55
  have V_b55 : Arv Z h55 b55 k55 .double (60 : Int32) (own_lb 0) (.double (0 : UInt64)) := (Arv.new A55 (by decide)).pad (pad_rep [] (.double (0 : UInt64)) 60)
  refine own_up st55 ?_
  show own_Go p.tables e below _ (T55.setTop (mkF m 424 Lz54 [(.ref b55)]))
  refine own_up (fun _ kq => XS.dup X55.here hx rfl (hb hby at_424) rfl rfl kq) ?_
  show own_Go p.tables e below _ (T55.setTop (mkF m 425 Lz54 [(.ref b55), (.ref b55)]))
  refine own_up (fun _ kq => XS.iconst X55.here hx rfl (hb hby at_425) kq) ?_
  show own_Go p.tables e below _ (T55.setTop (mkF m 426 Lz54 [(.int (0 : Int32)), (.ref b55), (.ref b55)]))
  refine own_up (fun _ kq => X55.ldc2DoubleC hx hown (mvT hZ (hw _ (List.mem_of_getElem? (i := 48) rfl))) (g := (mkF m 426 Lz54 [(.int (0 : Int32)), (.ref b55), (.ref b55)])) rfl (hb hby at_426) _ kq) ?_
  show own_Go p.tables e below _ (T55.setTop (mkF m 429 Lz54 [(.double (4636737291354636288 : UInt64)), (.int (0 : Int32)), (.ref b55), (.ref b55)]))
  obtain ⟨cl56, Ar56, q56, sz56, nz56, hH56, hG56⟩ := V_b55
  obtain ⟨T56, h56, X56, e56, W56, st56⟩ := stD X55 hx hZ e55 Ar56 (j := (0 : Int32)) (inb_of sz56 ⟨by decide, by decide⟩) (g := (mkF m 429 Lz54 [(.double (4636737291354636288 : UInt64)), (.int (0 : Int32)), (.ref b55), (.ref b55)])) rfl rfl (hb hby at_429)
  have V_b55 : Arv Z h56 b55 k55 .double (60 : Int32) (own_lb 1) (.double (0 : UInt64)) := Arv.set Ar56 q56 sz56 nz56 hH56 hG56 rfl W56 0 rfl (Nat.le_of_ble_eq_true rfl)
  have N56 := Fr.snoc X56 N53 g_b55
  have G_b5 := G_b5.other W56 ne_b5_b55
  have ZH := Nat.le_trans ZH (Nat.le_of_eq W56.size.symm)
  have KK := KK.wr W56 (Or.inr sz_b55)
  refine own_up st56 ?_
  show own_Go p.tables e below _ (T56.setTop (mkF m 430 Lz54 [(.ref b55)]))
  refine own_up (fun _ kq => XS.dup X56.here hx rfl (hb hby at_430) rfl rfl kq) ?_
  show own_Go p.tables e below _ (T56.setTop (mkF m 431 Lz54 [(.ref b55), (.ref b55)]))
  refine own_up (fun _ kq => XS.iconst X56.here hx rfl (hb hby at_431) kq) ?_
  show own_Go p.tables e below _ (T56.setTop (mkF m 432 Lz54 [(.int (1 : Int32)), (.ref b55), (.ref b55)]))
  refine own_up (fun _ kq => X56.ldc2DoubleC hx hown (mvT hZ (hw _ (List.mem_of_getElem? (i := 49) rfl))) (g := (mkF m 432 Lz54 [(.int (1 : Int32)), (.ref b55), (.ref b55)])) rfl (hb hby at_432) _ kq) ?_
  show own_Go p.tables e below _ (T56.setTop (mkF m 435 Lz54 [(.double (4636807660098813952 : UInt64)), (.int (1 : Int32)), (.ref b55), (.ref b55)]))
  obtain ⟨cl57, Ar57, q57, sz57, nz57, hH57, hG57⟩ := V_b55
  obtain ⟨T57, h57, X57, e57, W57, st57⟩ := stD X56 hx hZ e56 Ar57 (j := (1 : Int32)) (inb_of sz57 ⟨by decide, by decide⟩) (g := (mkF m 435 Lz54 [(.double (4636807660098813952 : UInt64)), (.int (1 : Int32)), (.ref b55), (.ref b55)])) rfl rfl (hb hby at_435)
  have V_b55 : Arv Z h57 b55 k55 .double (60 : Int32) (own_lb 2) (.double (0 : UInt64)) := Arv.set Ar57 q57 sz57 nz57 hH57 hG57 rfl W57 1 rfl (Nat.le_of_ble_eq_true rfl)
  have N57 := Fr.snoc X57 N56 g_b55
  have G_b5 := G_b5.other W57 ne_b5_b55
  have ZH := Nat.le_trans ZH (Nat.le_of_eq W57.size.symm)
  have KK := KK.wr W57 (Or.inr sz_b55)
  refine own_up st57 ?_
  show own_Go p.tables e below _ (T57.setTop (mkF m 436 Lz54 [(.ref b55)]))
  refine own_up (fun _ kq => XS.dup X57.here hx rfl (hb hby at_436) rfl rfl kq) ?_
  show own_Go p.tables e below _ (T57.setTop (mkF m 437 Lz54 [(.ref b55), (.ref b55)]))
  refine own_up (fun _ kq => XS.iconst X57.here hx rfl (hb hby at_437) kq) ?_
  show own_Go p.tables e below _ (T57.setTop (mkF m 438 Lz54 [(.int (2 : Int32)), (.ref b55), (.ref b55)]))
  refine own_up (fun _ kq => X57.ldc2DoubleC hx hown (mvT hZ (hw _ (List.mem_of_getElem? (i := 50) rfl))) (g := (mkF m 438 Lz54 [(.int (2 : Int32)), (.ref b55), (.ref b55)])) rfl (hb hby at_438) _ kq) ?_
  show own_Go p.tables e below _ (T57.setTop (mkF m 441 Lz54 [(.double (4636878028842991616 : UInt64)), (.int (2 : Int32)), (.ref b55), (.ref b55)]))
  obtain ⟨cl58, Ar58, q58, sz58, nz58, hH58, hG58⟩ := V_b55
  obtain ⟨T58, h58, X58, e58, W58, st58⟩ := stD X57 hx hZ e57 Ar58 (j := (2 : Int32)) (inb_of sz58 ⟨by decide, by decide⟩) (g := (mkF m 441 Lz54 [(.double (4636878028842991616 : UInt64)), (.int (2 : Int32)), (.ref b55), (.ref b55)])) rfl rfl (hb hby at_441)
  have V_b55 : Arv Z h58 b55 k55 .double (60 : Int32) (own_lb 3) (.double (0 : UInt64)) := Arv.set Ar58 q58 sz58 nz58 hH58 hG58 rfl W58 2 rfl (Nat.le_of_ble_eq_true rfl)
  have N58 := Fr.snoc X58 N57 g_b55
  have G_b5 := G_b5.other W58 ne_b5_b55
  have ZH := Nat.le_trans ZH (Nat.le_of_eq W58.size.symm)
  have KK := KK.wr W58 (Or.inr sz_b55)
  refine own_up st58 ?_
  show own_Go p.tables e below _ (T58.setTop (mkF m 442 Lz54 [(.ref b55)]))
  refine own_up (fun _ kq => XS.dup X58.here hx rfl (hb hby at_442) rfl rfl kq) ?_
  show own_Go p.tables e below _ (T58.setTop (mkF m 443 Lz54 [(.ref b55), (.ref b55)]))
  refine own_up (fun _ kq => XS.iconst X58.here hx rfl (hb hby at_443) kq) ?_
  show own_Go p.tables e below _ (T58.setTop (mkF m 444 Lz54 [(.int (3 : Int32)), (.ref b55), (.ref b55)]))
  refine own_up (fun _ kq => X58.ldc2DoubleC hx hown (mvT hZ (hw _ (List.mem_of_getElem? (i := 51) rfl))) (g := (mkF m 444 Lz54 [(.int (3 : Int32)), (.ref b55), (.ref b55)])) rfl (hb hby at_444) _ kq) ?_
  show own_Go p.tables e below _ (T58.setTop (mkF m 447 Lz54 [(.double (4636948397587169280 : UInt64)), (.int (3 : Int32)), (.ref b55), (.ref b55)]))
  obtain ⟨cl59, Ar59, q59, sz59, nz59, hH59, hG59⟩ := V_b55
  obtain ⟨T59, h59, X59, e59, W59, st59⟩ := stD X58 hx hZ e58 Ar59 (j := (3 : Int32)) (inb_of sz59 ⟨by decide, by decide⟩) (g := (mkF m 447 Lz54 [(.double (4636948397587169280 : UInt64)), (.int (3 : Int32)), (.ref b55), (.ref b55)])) rfl rfl (hb hby at_447)
  have V_b55 : Arv Z h59 b55 k55 .double (60 : Int32) (own_lb 4) (.double (0 : UInt64)) := Arv.set Ar59 q59 sz59 nz59 hH59 hG59 rfl W59 3 rfl (Nat.le_of_ble_eq_true rfl)
  have N59 := Fr.snoc X59 N58 g_b55
  have G_b5 := G_b5.other W59 ne_b5_b55
  have ZH := Nat.le_trans ZH (Nat.le_of_eq W59.size.symm)
  have KK := KK.wr W59 (Or.inr sz_b55)
  refine own_up st59 ?_
  show own_Go p.tables e below _ (T59.setTop (mkF m 448 Lz54 [(.ref b55)]))
  refine own_up (fun _ kq => XS.dup X59.here hx rfl (hb hby at_448) rfl rfl kq) ?_
  show own_Go p.tables e below _ (T59.setTop (mkF m 449 Lz54 [(.ref b55), (.ref b55)]))
  refine own_up (fun _ kq => XS.iconst X59.here hx rfl (hb hby at_449) kq) ?_
  show own_Go p.tables e below _ (T59.setTop (mkF m 450 Lz54 [(.int (4 : Int32)), (.ref b55), (.ref b55)]))
  refine own_up (fun _ kq => X59.ldc2DoubleC hx hown (mvT hZ (hw _ (List.mem_of_getElem? (i := 52) rfl))) (g := (mkF m 450 Lz54 [(.int (4 : Int32)), (.ref b55), (.ref b55)])) rfl (hb hby at_450) _ kq) ?_
  show own_Go p.tables e below _ (T59.setTop (mkF m 453 Lz54 [(.double (4637018766331346944 : UInt64)), (.int (4 : Int32)), (.ref b55), (.ref b55)]))
  obtain ⟨cl60, Ar60, q60, sz60, nz60, hH60, hG60⟩ := V_b55
  obtain ⟨T60, h60, X60, e60, W60, st60⟩ := stD X59 hx hZ e59 Ar60 (j := (4 : Int32)) (inb_of sz60 ⟨by decide, by decide⟩) (g := (mkF m 453 Lz54 [(.double (4637018766331346944 : UInt64)), (.int (4 : Int32)), (.ref b55), (.ref b55)])) rfl rfl (hb hby at_453)
  have V_b55 : Arv Z h60 b55 k55 .double (60 : Int32) (own_lb 5) (.double (0 : UInt64)) := Arv.set Ar60 q60 sz60 nz60 hH60 hG60 rfl W60 4 rfl (Nat.le_of_ble_eq_true rfl)
  have N60 := Fr.snoc X60 N59 g_b55
  have G_b5 := G_b5.other W60 ne_b5_b55
  have ZH := Nat.le_trans ZH (Nat.le_of_eq W60.size.symm)
  have KK := KK.wr W60 (Or.inr sz_b55)
  refine own_up st60 ?_
  show own_Go p.tables e below _ (T60.setTop (mkF m 454 Lz54 [(.ref b55)]))
  refine own_up (fun _ kq => XS.dup X60.here hx rfl (hb hby at_454) rfl rfl kq) ?_
  show own_Go p.tables e below _ (T60.setTop (mkF m 455 Lz54 [(.ref b55), (.ref b55)]))
  refine own_up (fun _ kq => XS.iconst X60.here hx rfl (hb hby at_455) kq) ?_
  show own_Go p.tables e below _ (T60.setTop (mkF m 456 Lz54 [(.int (5 : Int32)), (.ref b55), (.ref b55)]))
  refine own_up (fun _ kq => X60.ldc2DoubleC hx hown (mvT hZ (hw _ (List.mem_of_getElem? (i := 53) rfl))) (g := (mkF m 456 Lz54 [(.int (5 : Int32)), (.ref b55), (.ref b55)])) rfl (hb hby at_456) _ kq) ?_
  show own_Go p.tables e below _ (T60.setTop (mkF m 459 Lz54 [(.double (4637089135075524608 : UInt64)), (.int (5 : Int32)), (.ref b55), (.ref b55)]))
  obtain ⟨cl61, Ar61, q61, sz61, nz61, hH61, hG61⟩ := V_b55
  obtain ⟨T61, h61, X61, e61, W61, st61⟩ := stD X60 hx hZ e60 Ar61 (j := (5 : Int32)) (inb_of sz61 ⟨by decide, by decide⟩) (g := (mkF m 459 Lz54 [(.double (4637089135075524608 : UInt64)), (.int (5 : Int32)), (.ref b55), (.ref b55)])) rfl rfl (hb hby at_459)
  have V_b55 : Arv Z h61 b55 k55 .double (60 : Int32) (own_lb 6) (.double (0 : UInt64)) := Arv.set Ar61 q61 sz61 nz61 hH61 hG61 rfl W61 5 rfl (Nat.le_of_ble_eq_true rfl)
  have N61 := Fr.snoc X61 N60 g_b55
  have G_b5 := G_b5.other W61 ne_b5_b55
  have ZH := Nat.le_trans ZH (Nat.le_of_eq W61.size.symm)
  have KK := KK.wr W61 (Or.inr sz_b55)
  refine own_up st61 ?_
  show own_Go p.tables e below _ (T61.setTop (mkF m 460 Lz54 [(.ref b55)]))
  refine own_up (fun _ kq => XS.dup X61.here hx rfl (hb hby at_460) rfl rfl kq) ?_
  show own_Go p.tables e below _ (T61.setTop (mkF m 461 Lz54 [(.ref b55), (.ref b55)]))
  refine own_up (fun _ kq => XS.bipush X61.here hx rfl (hb hby at_461) kq) ?_
  show own_Go p.tables e below _ (T61.setTop (mkF m 463 Lz54 [(.int (6 : Int32)), (.ref b55), (.ref b55)]))
  refine own_up (fun _ kq => X61.ldc2DoubleC hx hown (mvT hZ (hw _ (List.mem_of_getElem? (i := 54) rfl))) (g := (mkF m 463 Lz54 [(.int (6 : Int32)), (.ref b55), (.ref b55)])) rfl (hb hby at_463) _ kq) ?_
  show own_Go p.tables e below _ (T61.setTop (mkF m 466 Lz54 [(.double (4637159503819702272 : UInt64)), (.int (6 : Int32)), (.ref b55), (.ref b55)]))
  obtain ⟨cl62, Ar62, q62, sz62, nz62, hH62, hG62⟩ := V_b55
  obtain ⟨T62, h62, X62, e62, W62, st62⟩ := stD X61 hx hZ e61 Ar62 (j := (6 : Int32)) (inb_of sz62 ⟨by decide, by decide⟩) (g := (mkF m 466 Lz54 [(.double (4637159503819702272 : UInt64)), (.int (6 : Int32)), (.ref b55), (.ref b55)])) rfl rfl (hb hby at_466)
  have V_b55 : Arv Z h62 b55 k55 .double (60 : Int32) (own_lb 7) (.double (0 : UInt64)) := Arv.set Ar62 q62 sz62 nz62 hH62 hG62 rfl W62 6 rfl (Nat.le_of_ble_eq_true rfl)
  have N62 := Fr.snoc X62 N61 g_b55
  have G_b5 := G_b5.other W62 ne_b5_b55
  have ZH := Nat.le_trans ZH (Nat.le_of_eq W62.size.symm)
  have KK := KK.wr W62 (Or.inr sz_b55)
  refine own_up st62 ?_
  show own_Go p.tables e below _ (T62.setTop (mkF m 467 Lz54 [(.ref b55)]))
  refine own_up (fun _ kq => XS.dup X62.here hx rfl (hb hby at_467) rfl rfl kq) ?_
  show own_Go p.tables e below _ (T62.setTop (mkF m 468 Lz54 [(.ref b55), (.ref b55)]))
  refine own_up (fun _ kq => XS.bipush X62.here hx rfl (hb hby at_468) kq) ?_
  show own_Go p.tables e below _ (T62.setTop (mkF m 470 Lz54 [(.int (7 : Int32)), (.ref b55), (.ref b55)]))
  refine own_up (fun _ kq => X62.ldc2DoubleC hx hown (mvT hZ (hw _ (List.mem_of_getElem? (i := 55) rfl))) (g := (mkF m 470 Lz54 [(.int (7 : Int32)), (.ref b55), (.ref b55)])) rfl (hb hby at_470) _ kq) ?_
  show own_Go p.tables e below _ (T62.setTop (mkF m 473 Lz54 [(.double (4637229872563879936 : UInt64)), (.int (7 : Int32)), (.ref b55), (.ref b55)]))
  obtain ⟨cl63, Ar63, q63, sz63, nz63, hH63, hG63⟩ := V_b55
  obtain ⟨T63, h63, X63, e63, W63, st63⟩ := stD X62 hx hZ e62 Ar63 (j := (7 : Int32)) (inb_of sz63 ⟨by decide, by decide⟩) (g := (mkF m 473 Lz54 [(.double (4637229872563879936 : UInt64)), (.int (7 : Int32)), (.ref b55), (.ref b55)])) rfl rfl (hb hby at_473)
  have V_b55 : Arv Z h63 b55 k55 .double (60 : Int32) (own_lb 8) (.double (0 : UInt64)) := Arv.set Ar63 q63 sz63 nz63 hH63 hG63 rfl W63 7 rfl (Nat.le_of_ble_eq_true rfl)
  have N63 := Fr.snoc X63 N62 g_b55
  have G_b5 := G_b5.other W63 ne_b5_b55
  have ZH := Nat.le_trans ZH (Nat.le_of_eq W63.size.symm)
  have KK := KK.wr W63 (Or.inr sz_b55)
  refine own_up st63 ?_
  show own_Go p.tables e below _ (T63.setTop (mkF m 474 Lz54 [(.ref b55)]))
  refine own_up (fun _ kq => XS.dup X63.here hx rfl (hb hby at_474) rfl rfl kq) ?_
  show own_Go p.tables e below _ (T63.setTop (mkF m 475 Lz54 [(.ref b55), (.ref b55)]))
  refine own_up (fun _ kq => XS.bipush X63.here hx rfl (hb hby at_475) kq) ?_
  show own_Go p.tables e below _ (T63.setTop (mkF m 477 Lz54 [(.int (8 : Int32)), (.ref b55), (.ref b55)]))
  refine own_up (fun _ kq => X63.ldc2DoubleC hx hown (mvT hZ (hw _ (List.mem_of_getElem? (i := 56) rfl))) (g := (mkF m 477 Lz54 [(.int (8 : Int32)), (.ref b55), (.ref b55)])) rfl (hb hby at_477) _ kq) ?_
  show own_Go p.tables e below _ (T63.setTop (mkF m 480 Lz54 [(.double (4637300241308057600 : UInt64)), (.int (8 : Int32)), (.ref b55), (.ref b55)]))
  obtain ⟨cl64, Ar64, q64, sz64, nz64, hH64, hG64⟩ := V_b55
  obtain ⟨T64, h64, X64, e64, W64, st64⟩ := stD X63 hx hZ e63 Ar64 (j := (8 : Int32)) (inb_of sz64 ⟨by decide, by decide⟩) (g := (mkF m 480 Lz54 [(.double (4637300241308057600 : UInt64)), (.int (8 : Int32)), (.ref b55), (.ref b55)])) rfl rfl (hb hby at_480)
  have V_b55 : Arv Z h64 b55 k55 .double (60 : Int32) (own_lb 9) (.double (0 : UInt64)) := Arv.set Ar64 q64 sz64 nz64 hH64 hG64 rfl W64 8 rfl (Nat.le_of_ble_eq_true rfl)
  have N64 := Fr.snoc X64 N63 g_b55
  have G_b5 := G_b5.other W64 ne_b5_b55
  have ZH := Nat.le_trans ZH (Nat.le_of_eq W64.size.symm)
  have KK := KK.wr W64 (Or.inr sz_b55)
  refine own_up st64 ?_
  show own_Go p.tables e below _ (T64.setTop (mkF m 481 Lz54 [(.ref b55)]))
  refine own_up (fun _ kq => XS.dup X64.here hx rfl (hb hby at_481) rfl rfl kq) ?_
  show own_Go p.tables e below _ (T64.setTop (mkF m 482 Lz54 [(.ref b55), (.ref b55)]))
  refine own_up (fun _ kq => XS.bipush X64.here hx rfl (hb hby at_482) kq) ?_
  show own_Go p.tables e below _ (T64.setTop (mkF m 484 Lz54 [(.int (9 : Int32)), (.ref b55), (.ref b55)]))
  refine own_up (fun _ kq => X64.ldc2DoubleC hx hown (mvT hZ (hw _ (List.mem_of_getElem? (i := 57) rfl))) (g := (mkF m 484 Lz54 [(.int (9 : Int32)), (.ref b55), (.ref b55)])) rfl (hb hby at_484) _ kq) ?_
  show own_Go p.tables e below _ (T64.setTop (mkF m 487 Lz54 [(.double (4637370610052235264 : UInt64)), (.int (9 : Int32)), (.ref b55), (.ref b55)]))
  obtain ⟨cl65, Ar65, q65, sz65, nz65, hH65, hG65⟩ := V_b55
  obtain ⟨T65, h65, X65, e65, W65, st65⟩ := stD X64 hx hZ e64 Ar65 (j := (9 : Int32)) (inb_of sz65 ⟨by decide, by decide⟩) (g := (mkF m 487 Lz54 [(.double (4637370610052235264 : UInt64)), (.int (9 : Int32)), (.ref b55), (.ref b55)])) rfl rfl (hb hby at_487)
  have V_b55 : Arv Z h65 b55 k55 .double (60 : Int32) (own_lb 10) (.double (0 : UInt64)) := Arv.set Ar65 q65 sz65 nz65 hH65 hG65 rfl W65 9 rfl (Nat.le_of_ble_eq_true rfl)
  have N65 := Fr.snoc X65 N64 g_b55
  have G_b5 := G_b5.other W65 ne_b5_b55
  have ZH := Nat.le_trans ZH (Nat.le_of_eq W65.size.symm)
  have KK := KK.wr W65 (Or.inr sz_b55)
  refine own_up st65 ?_
  show own_Go p.tables e below _ (T65.setTop (mkF m 488 Lz54 [(.ref b55)]))
  refine own_up (fun _ kq => XS.dup X65.here hx rfl (hb hby at_488) rfl rfl kq) ?_
  show own_Go p.tables e below _ (T65.setTop (mkF m 489 Lz54 [(.ref b55), (.ref b55)]))
  refine own_up (fun _ kq => XS.bipush X65.here hx rfl (hb hby at_489) kq) ?_
  show own_Go p.tables e below _ (T65.setTop (mkF m 491 Lz54 [(.int (10 : Int32)), (.ref b55), (.ref b55)]))
  refine own_up (fun _ kq => X65.ldc2DoubleC hx hown (mvT hZ (hw _ (List.mem_of_getElem? (i := 58) rfl))) (g := (mkF m 491 Lz54 [(.int (10 : Int32)), (.ref b55), (.ref b55)])) rfl (hb hby at_491) _ kq) ?_
  show own_Go p.tables e below _ (T65.setTop (mkF m 494 Lz54 [(.double (4637440978796412928 : UInt64)), (.int (10 : Int32)), (.ref b55), (.ref b55)]))
  obtain ⟨cl66, Ar66, q66, sz66, nz66, hH66, hG66⟩ := V_b55
  obtain ⟨T66, h66, X66, e66, W66, st66⟩ := stD X65 hx hZ e65 Ar66 (j := (10 : Int32)) (inb_of sz66 ⟨by decide, by decide⟩) (g := (mkF m 494 Lz54 [(.double (4637440978796412928 : UInt64)), (.int (10 : Int32)), (.ref b55), (.ref b55)])) rfl rfl (hb hby at_494)
  have V_b55 : Arv Z h66 b55 k55 .double (60 : Int32) (own_lb 11) (.double (0 : UInt64)) := Arv.set Ar66 q66 sz66 nz66 hH66 hG66 rfl W66 10 rfl (Nat.le_of_ble_eq_true rfl)
  have N66 := Fr.snoc X66 N65 g_b55
  have G_b5 := G_b5.other W66 ne_b5_b55
  have ZH := Nat.le_trans ZH (Nat.le_of_eq W66.size.symm)
  have KK := KK.wr W66 (Or.inr sz_b55)
  refine own_up st66 ?_
  show own_Go p.tables e below _ (T66.setTop (mkF m 495 Lz54 [(.ref b55)]))
  refine own_up (fun _ kq => XS.dup X66.here hx rfl (hb hby at_495) rfl rfl kq) ?_
  show own_Go p.tables e below _ (T66.setTop (mkF m 496 Lz54 [(.ref b55), (.ref b55)]))
  refine own_up (fun _ kq => XS.bipush X66.here hx rfl (hb hby at_496) kq) ?_
  show own_Go p.tables e below _ (T66.setTop (mkF m 498 Lz54 [(.int (11 : Int32)), (.ref b55), (.ref b55)]))
  refine own_up (fun _ kq => X66.ldc2DoubleC hx hown (mvT hZ (hw _ (List.mem_of_getElem? (i := 59) rfl))) (g := (mkF m 498 Lz54 [(.int (11 : Int32)), (.ref b55), (.ref b55)])) rfl (hb hby at_498) _ kq) ?_
  show own_Go p.tables e below _ (T66.setTop (mkF m 501 Lz54 [(.double (4637511347540590592 : UInt64)), (.int (11 : Int32)), (.ref b55), (.ref b55)]))
  obtain ⟨cl67, Ar67, q67, sz67, nz67, hH67, hG67⟩ := V_b55
  obtain ⟨T67, h67, X67, e67, W67, st67⟩ := stD X66 hx hZ e66 Ar67 (j := (11 : Int32)) (inb_of sz67 ⟨by decide, by decide⟩) (g := (mkF m 501 Lz54 [(.double (4637511347540590592 : UInt64)), (.int (11 : Int32)), (.ref b55), (.ref b55)])) rfl rfl (hb hby at_501)
  have V_b55 : Arv Z h67 b55 k55 .double (60 : Int32) (own_lb 12) (.double (0 : UInt64)) := Arv.set Ar67 q67 sz67 nz67 hH67 hG67 rfl W67 11 rfl (Nat.le_of_ble_eq_true rfl)
  have N67 := Fr.snoc X67 N66 g_b55
  have G_b5 := G_b5.other W67 ne_b5_b55
  have ZH := Nat.le_trans ZH (Nat.le_of_eq W67.size.symm)
  have KK := KK.wr W67 (Or.inr sz_b55)
  refine own_up st67 ?_
  show own_Go p.tables e below _ (T67.setTop (mkF m 502 Lz54 [(.ref b55)]))
  refine own_up (fun _ kq => XS.dup X67.here hx rfl (hb hby at_502) rfl rfl kq) ?_
  show own_Go p.tables e below _ (T67.setTop (mkF m 503 Lz54 [(.ref b55), (.ref b55)]))
  refine own_up (fun _ kq => XS.bipush X67.here hx rfl (hb hby at_503) kq) ?_
  show own_Go p.tables e below _ (T67.setTop (mkF m 505 Lz54 [(.int (12 : Int32)), (.ref b55), (.ref b55)]))
  refine own_up (fun _ kq => X67.ldc2DoubleC hx hown (mvT hZ (hw _ (List.mem_of_getElem? (i := 60) rfl))) (g := (mkF m 505 Lz54 [(.int (12 : Int32)), (.ref b55), (.ref b55)])) rfl (hb hby at_505) _ kq) ?_
  show own_Go p.tables e below _ (T67.setTop (mkF m 508 Lz54 [(.double (4637581716284768256 : UInt64)), (.int (12 : Int32)), (.ref b55), (.ref b55)]))
  obtain ⟨cl68, Ar68, q68, sz68, nz68, hH68, hG68⟩ := V_b55
  obtain ⟨T68, h68, X68, e68, W68, st68⟩ := stD X67 hx hZ e67 Ar68 (j := (12 : Int32)) (inb_of sz68 ⟨by decide, by decide⟩) (g := (mkF m 508 Lz54 [(.double (4637581716284768256 : UInt64)), (.int (12 : Int32)), (.ref b55), (.ref b55)])) rfl rfl (hb hby at_508)
  have V_b55 : Arv Z h68 b55 k55 .double (60 : Int32) (own_lb 13) (.double (0 : UInt64)) := Arv.set Ar68 q68 sz68 nz68 hH68 hG68 rfl W68 12 rfl (Nat.le_of_ble_eq_true rfl)
  have N68 := Fr.snoc X68 N67 g_b55
  have G_b5 := G_b5.other W68 ne_b5_b55
  have ZH := Nat.le_trans ZH (Nat.le_of_eq W68.size.symm)
  have KK := KK.wr W68 (Or.inr sz_b55)
  refine own_up st68 ?_
  show own_Go p.tables e below _ (T68.setTop (mkF m 509 Lz54 [(.ref b55)]))
  refine own_up (fun _ kq => XS.dup X68.here hx rfl (hb hby at_509) rfl rfl kq) ?_
  show own_Go p.tables e below _ (T68.setTop (mkF m 510 Lz54 [(.ref b55), (.ref b55)]))
  refine own_up (fun _ kq => XS.bipush X68.here hx rfl (hb hby at_510) kq) ?_
  show own_Go p.tables e below _ (T68.setTop (mkF m 512 Lz54 [(.int (13 : Int32)), (.ref b55), (.ref b55)]))
  refine own_up (fun _ kq => X68.ldc2DoubleC hx hown (mvT hZ (hw _ (List.mem_of_getElem? (i := 61) rfl))) (g := (mkF m 512 Lz54 [(.int (13 : Int32)), (.ref b55), (.ref b55)])) rfl (hb hby at_512) _ kq) ?_
  show own_Go p.tables e below _ (T68.setTop (mkF m 515 Lz54 [(.double (4637652085028945920 : UInt64)), (.int (13 : Int32)), (.ref b55), (.ref b55)]))
  obtain ⟨cl69, Ar69, q69, sz69, nz69, hH69, hG69⟩ := V_b55
  obtain ⟨T69, h69, X69, e69, W69, st69⟩ := stD X68 hx hZ e68 Ar69 (j := (13 : Int32)) (inb_of sz69 ⟨by decide, by decide⟩) (g := (mkF m 515 Lz54 [(.double (4637652085028945920 : UInt64)), (.int (13 : Int32)), (.ref b55), (.ref b55)])) rfl rfl (hb hby at_515)
  have V_b55 : Arv Z h69 b55 k55 .double (60 : Int32) (own_lb 14) (.double (0 : UInt64)) := Arv.set Ar69 q69 sz69 nz69 hH69 hG69 rfl W69 13 rfl (Nat.le_of_ble_eq_true rfl)
  have N69 := Fr.snoc X69 N68 g_b55
  have G_b5 := G_b5.other W69 ne_b5_b55
  have ZH := Nat.le_trans ZH (Nat.le_of_eq W69.size.symm)
  have KK := KK.wr W69 (Or.inr sz_b55)
  refine own_up st69 ?_
  show own_Go p.tables e below _ (T69.setTop (mkF m 516 Lz54 [(.ref b55)]))
  refine own_up (fun _ kq => XS.dup X69.here hx rfl (hb hby at_516) rfl rfl kq) ?_
  show own_Go p.tables e below _ (T69.setTop (mkF m 517 Lz54 [(.ref b55), (.ref b55)]))
  refine own_up (fun _ kq => XS.bipush X69.here hx rfl (hb hby at_517) kq) ?_
  show own_Go p.tables e below _ (T69.setTop (mkF m 519 Lz54 [(.int (14 : Int32)), (.ref b55), (.ref b55)]))
  refine own_up (fun _ kq => X69.ldc2DoubleC hx hown (mvT hZ (hw _ (List.mem_of_getElem? (i := 62) rfl))) (g := (mkF m 519 Lz54 [(.int (14 : Int32)), (.ref b55), (.ref b55)])) rfl (hb hby at_519) _ kq) ?_
  show own_Go p.tables e below _ (T69.setTop (mkF m 522 Lz54 [(.double (4637722453773123584 : UInt64)), (.int (14 : Int32)), (.ref b55), (.ref b55)]))
  obtain ⟨cl70, Ar70, q70, sz70, nz70, hH70, hG70⟩ := V_b55
  obtain ⟨T70, h70, X70, e70, W70, st70⟩ := stD X69 hx hZ e69 Ar70 (j := (14 : Int32)) (inb_of sz70 ⟨by decide, by decide⟩) (g := (mkF m 522 Lz54 [(.double (4637722453773123584 : UInt64)), (.int (14 : Int32)), (.ref b55), (.ref b55)])) rfl rfl (hb hby at_522)
  have V_b55 : Arv Z h70 b55 k55 .double (60 : Int32) (own_lb 15) (.double (0 : UInt64)) := Arv.set Ar70 q70 sz70 nz70 hH70 hG70 rfl W70 14 rfl (Nat.le_of_ble_eq_true rfl)
  have N70 := Fr.snoc X70 N69 g_b55
  have G_b5 := G_b5.other W70 ne_b5_b55
  have ZH := Nat.le_trans ZH (Nat.le_of_eq W70.size.symm)
  have KK := KK.wr W70 (Or.inr sz_b55)
  refine own_up st70 ?_
  show own_Go p.tables e below _ (T70.setTop (mkF m 523 Lz54 [(.ref b55)]))
  refine own_up (fun _ kq => XS.dup X70.here hx rfl (hb hby at_523) rfl rfl kq) ?_
  show own_Go p.tables e below _ (T70.setTop (mkF m 524 Lz54 [(.ref b55), (.ref b55)]))
  refine own_up (fun _ kq => XS.bipush X70.here hx rfl (hb hby at_524) kq) ?_
  show own_Go p.tables e below _ (T70.setTop (mkF m 526 Lz54 [(.int (15 : Int32)), (.ref b55), (.ref b55)]))
  refine own_up (fun _ kq => X70.ldc2DoubleC hx hown (mvT hZ (hw _ (List.mem_of_getElem? (i := 63) rfl))) (g := (mkF m 526 Lz54 [(.int (15 : Int32)), (.ref b55), (.ref b55)])) rfl (hb hby at_526) _ kq) ?_
  show own_Go p.tables e below _ (T70.setTop (mkF m 529 Lz54 [(.double (4637792822517301248 : UInt64)), (.int (15 : Int32)), (.ref b55), (.ref b55)]))
  obtain ⟨cl71, Ar71, q71, sz71, nz71, hH71, hG71⟩ := V_b55
  obtain ⟨T71, h71, X71, e71, W71, st71⟩ := stD X70 hx hZ e70 Ar71 (j := (15 : Int32)) (inb_of sz71 ⟨by decide, by decide⟩) (g := (mkF m 529 Lz54 [(.double (4637792822517301248 : UInt64)), (.int (15 : Int32)), (.ref b55), (.ref b55)])) rfl rfl (hb hby at_529)
  have V_b55 : Arv Z h71 b55 k55 .double (60 : Int32) (own_lb 16) (.double (0 : UInt64)) := Arv.set Ar71 q71 sz71 nz71 hH71 hG71 rfl W71 15 rfl (Nat.le_of_ble_eq_true rfl)
  have N71 := Fr.snoc X71 N70 g_b55
  have G_b5 := G_b5.other W71 ne_b5_b55
  have ZH := Nat.le_trans ZH (Nat.le_of_eq W71.size.symm)
  have KK := KK.wr W71 (Or.inr sz_b55)
  refine own_up st71 ?_
  show own_Go p.tables e below _ (T71.setTop (mkF m 530 Lz54 [(.ref b55)]))
  refine own_up (fun _ kq => XS.dup X71.here hx rfl (hb hby at_530) rfl rfl kq) ?_
  show own_Go p.tables e below _ (T71.setTop (mkF m 531 Lz54 [(.ref b55), (.ref b55)]))
  refine own_up (fun _ kq => XS.bipush X71.here hx rfl (hb hby at_531) kq) ?_
  show own_Go p.tables e below _ (T71.setTop (mkF m 533 Lz54 [(.int (16 : Int32)), (.ref b55), (.ref b55)]))
  refine own_up (fun _ kq => X71.ldc2DoubleC hx hown (mvT hZ (hw _ (List.mem_of_getElem? (i := 64) rfl))) (g := (mkF m 533 Lz54 [(.int (16 : Int32)), (.ref b55), (.ref b55)])) rfl (hb hby at_533) _ kq) ?_
  show own_Go p.tables e below _ (T71.setTop (mkF m 536 Lz54 [(.double (4637863191261478912 : UInt64)), (.int (16 : Int32)), (.ref b55), (.ref b55)]))
  obtain ⟨cl72, Ar72, q72, sz72, nz72, hH72, hG72⟩ := V_b55
  obtain ⟨T72, h72, X72, e72, W72, st72⟩ := stD X71 hx hZ e71 Ar72 (j := (16 : Int32)) (inb_of sz72 ⟨by decide, by decide⟩) (g := (mkF m 536 Lz54 [(.double (4637863191261478912 : UInt64)), (.int (16 : Int32)), (.ref b55), (.ref b55)])) rfl rfl (hb hby at_536)
  have V_b55 : Arv Z h72 b55 k55 .double (60 : Int32) (own_lb 17) (.double (0 : UInt64)) := Arv.set Ar72 q72 sz72 nz72 hH72 hG72 rfl W72 16 rfl (Nat.le_of_ble_eq_true rfl)
  have N72 := Fr.snoc X72 N71 g_b55
  have G_b5 := G_b5.other W72 ne_b5_b55
  have ZH := Nat.le_trans ZH (Nat.le_of_eq W72.size.symm)
  have KK := KK.wr W72 (Or.inr sz_b55)
  refine own_up st72 ?_
  show own_Go p.tables e below _ (T72.setTop (mkF m 537 Lz54 [(.ref b55)]))
  refine own_up (fun _ kq => XS.dup X72.here hx rfl (hb hby at_537) rfl rfl kq) ?_
  show own_Go p.tables e below _ (T72.setTop (mkF m 538 Lz54 [(.ref b55), (.ref b55)]))
  refine own_up (fun _ kq => XS.bipush X72.here hx rfl (hb hby at_538) kq) ?_
  show own_Go p.tables e below _ (T72.setTop (mkF m 540 Lz54 [(.int (17 : Int32)), (.ref b55), (.ref b55)]))
  refine own_up (fun _ kq => X72.ldc2DoubleC hx hown (mvT hZ (hw _ (List.mem_of_getElem? (i := 65) rfl))) (g := (mkF m 540 Lz54 [(.int (17 : Int32)), (.ref b55), (.ref b55)])) rfl (hb hby at_540) _ kq) ?_
  show own_Go p.tables e below _ (T72.setTop (mkF m 543 Lz54 [(.double (4637933560005656576 : UInt64)), (.int (17 : Int32)), (.ref b55), (.ref b55)]))
  obtain ⟨cl73, Ar73, q73, sz73, nz73, hH73, hG73⟩ := V_b55
  obtain ⟨T73, h73, X73, e73, W73, st73⟩ := stD X72 hx hZ e72 Ar73 (j := (17 : Int32)) (inb_of sz73 ⟨by decide, by decide⟩) (g := (mkF m 543 Lz54 [(.double (4637933560005656576 : UInt64)), (.int (17 : Int32)), (.ref b55), (.ref b55)])) rfl rfl (hb hby at_543)
  have V_b55 : Arv Z h73 b55 k55 .double (60 : Int32) (own_lb 18) (.double (0 : UInt64)) := Arv.set Ar73 q73 sz73 nz73 hH73 hG73 rfl W73 17 rfl (Nat.le_of_ble_eq_true rfl)
  have N73 := Fr.snoc X73 N72 g_b55
  have G_b5 := G_b5.other W73 ne_b5_b55
  have ZH := Nat.le_trans ZH (Nat.le_of_eq W73.size.symm)
  have KK := KK.wr W73 (Or.inr sz_b55)
  refine own_up st73 ?_
  show own_Go p.tables e below _ (T73.setTop (mkF m 544 Lz54 [(.ref b55)]))
  refine own_up (fun _ kq => XS.dup X73.here hx rfl (hb hby at_544) rfl rfl kq) ?_
  show own_Go p.tables e below _ (T73.setTop (mkF m 545 Lz54 [(.ref b55), (.ref b55)]))
  refine own_up (fun _ kq => XS.bipush X73.here hx rfl (hb hby at_545) kq) ?_
  show own_Go p.tables e below _ (T73.setTop (mkF m 547 Lz54 [(.int (18 : Int32)), (.ref b55), (.ref b55)]))
  refine own_up (fun _ kq => X73.ldc2DoubleC hx hown (mvT hZ (hw _ (List.mem_of_getElem? (i := 66) rfl))) (g := (mkF m 547 Lz54 [(.int (18 : Int32)), (.ref b55), (.ref b55)])) rfl (hb hby at_547) _ kq) ?_
  show own_Go p.tables e below _ (T73.setTop (mkF m 550 Lz54 [(.double (4638003928749834240 : UInt64)), (.int (18 : Int32)), (.ref b55), (.ref b55)]))
  obtain ⟨cl74, Ar74, q74, sz74, nz74, hH74, hG74⟩ := V_b55
  obtain ⟨T74, h74, X74, e74, W74, st74⟩ := stD X73 hx hZ e73 Ar74 (j := (18 : Int32)) (inb_of sz74 ⟨by decide, by decide⟩) (g := (mkF m 550 Lz54 [(.double (4638003928749834240 : UInt64)), (.int (18 : Int32)), (.ref b55), (.ref b55)])) rfl rfl (hb hby at_550)
  have V_b55 : Arv Z h74 b55 k55 .double (60 : Int32) (own_lb 19) (.double (0 : UInt64)) := Arv.set Ar74 q74 sz74 nz74 hH74 hG74 rfl W74 18 rfl (Nat.le_of_ble_eq_true rfl)
  have N74 := Fr.snoc X74 N73 g_b55
  have G_b5 := G_b5.other W74 ne_b5_b55
  have ZH := Nat.le_trans ZH (Nat.le_of_eq W74.size.symm)
  have KK := KK.wr W74 (Or.inr sz_b55)
  refine own_up st74 ?_
  show own_Go p.tables e below _ (T74.setTop (mkF m 551 Lz54 [(.ref b55)]))
  refine own_up (fun _ kq => XS.dup X74.here hx rfl (hb hby at_551) rfl rfl kq) ?_
  show own_Go p.tables e below _ (T74.setTop (mkF m 552 Lz54 [(.ref b55), (.ref b55)]))
  refine own_up (fun _ kq => XS.bipush X74.here hx rfl (hb hby at_552) kq) ?_
  show own_Go p.tables e below _ (T74.setTop (mkF m 554 Lz54 [(.int (19 : Int32)), (.ref b55), (.ref b55)]))
  refine own_up (fun _ kq => X74.ldc2DoubleC hx hown (mvT hZ (hw _ (List.mem_of_getElem? (i := 67) rfl))) (g := (mkF m 554 Lz54 [(.int (19 : Int32)), (.ref b55), (.ref b55)])) rfl (hb hby at_554) _ kq) ?_
  show own_Go p.tables e below _ (T74.setTop (mkF m 557 Lz54 [(.double (4638074297494011904 : UInt64)), (.int (19 : Int32)), (.ref b55), (.ref b55)]))
  obtain ⟨cl75, Ar75, q75, sz75, nz75, hH75, hG75⟩ := V_b55
  obtain ⟨T75, h75, X75, e75, W75, st75⟩ := stD X74 hx hZ e74 Ar75 (j := (19 : Int32)) (inb_of sz75 ⟨by decide, by decide⟩) (g := (mkF m 557 Lz54 [(.double (4638074297494011904 : UInt64)), (.int (19 : Int32)), (.ref b55), (.ref b55)])) rfl rfl (hb hby at_557)
  have V_b55 : Arv Z h75 b55 k55 .double (60 : Int32) (own_lb 20) (.double (0 : UInt64)) := Arv.set Ar75 q75 sz75 nz75 hH75 hG75 rfl W75 19 rfl (Nat.le_of_ble_eq_true rfl)
  have N75 := Fr.snoc X75 N74 g_b55
  have G_b5 := G_b5.other W75 ne_b5_b55
  have ZH := Nat.le_trans ZH (Nat.le_of_eq W75.size.symm)
  have KK := KK.wr W75 (Or.inr sz_b55)
  refine own_up st75 ?_
  show own_Go p.tables e below _ (T75.setTop (mkF m 558 Lz54 [(.ref b55)]))
  refine own_up (fun _ kq => XS.dup X75.here hx rfl (hb hby at_558) rfl rfl kq) ?_
  show own_Go p.tables e below _ (T75.setTop (mkF m 559 Lz54 [(.ref b55), (.ref b55)]))
  refine own_up (fun _ kq => XS.bipush X75.here hx rfl (hb hby at_559) kq) ?_
  show own_Go p.tables e below _ (T75.setTop (mkF m 561 Lz54 [(.int (20 : Int32)), (.ref b55), (.ref b55)]))
  refine own_up (fun _ kq => X75.ldc2DoubleC hx hown (mvT hZ (hw _ (List.mem_of_getElem? (i := 68) rfl))) (g := (mkF m 561 Lz54 [(.int (20 : Int32)), (.ref b55), (.ref b55)])) rfl (hb hby at_561) _ kq) ?_
  show own_Go p.tables e below _ (T75.setTop (mkF m 564 Lz54 [(.double (4638144666238189568 : UInt64)), (.int (20 : Int32)), (.ref b55), (.ref b55)]))
  obtain ⟨cl76, Ar76, q76, sz76, nz76, hH76, hG76⟩ := V_b55
  obtain ⟨T76, h76, X76, e76, W76, st76⟩ := stD X75 hx hZ e75 Ar76 (j := (20 : Int32)) (inb_of sz76 ⟨by decide, by decide⟩) (g := (mkF m 564 Lz54 [(.double (4638144666238189568 : UInt64)), (.int (20 : Int32)), (.ref b55), (.ref b55)])) rfl rfl (hb hby at_564)
  have V_b55 : Arv Z h76 b55 k55 .double (60 : Int32) (own_lb 21) (.double (0 : UInt64)) := Arv.set Ar76 q76 sz76 nz76 hH76 hG76 rfl W76 20 rfl (Nat.le_of_ble_eq_true rfl)
  have N76 := Fr.snoc X76 N75 g_b55
  have G_b5 := G_b5.other W76 ne_b5_b55
  have ZH := Nat.le_trans ZH (Nat.le_of_eq W76.size.symm)
  have KK := KK.wr W76 (Or.inr sz_b55)
  refine own_up st76 ?_
  show own_Go p.tables e below _ (T76.setTop (mkF m 565 Lz54 [(.ref b55)]))
  refine own_up (fun _ kq => XS.dup X76.here hx rfl (hb hby at_565) rfl rfl kq) ?_
  show own_Go p.tables e below _ (T76.setTop (mkF m 566 Lz54 [(.ref b55), (.ref b55)]))
  refine own_up (fun _ kq => XS.bipush X76.here hx rfl (hb hby at_566) kq) ?_
  show own_Go p.tables e below _ (T76.setTop (mkF m 568 Lz54 [(.int (21 : Int32)), (.ref b55), (.ref b55)]))
  refine own_up (fun _ kq => X76.ldc2DoubleC hx hown (mvT hZ (hw _ (List.mem_of_getElem? (i := 69) rfl))) (g := (mkF m 568 Lz54 [(.int (21 : Int32)), (.ref b55), (.ref b55)])) rfl (hb hby at_568) _ kq) ?_
  show own_Go p.tables e below _ (T76.setTop (mkF m 571 Lz54 [(.double (4638215034982367232 : UInt64)), (.int (21 : Int32)), (.ref b55), (.ref b55)]))
  obtain ⟨cl77, Ar77, q77, sz77, nz77, hH77, hG77⟩ := V_b55
  obtain ⟨T77, h77, X77, e77, W77, st77⟩ := stD X76 hx hZ e76 Ar77 (j := (21 : Int32)) (inb_of sz77 ⟨by decide, by decide⟩) (g := (mkF m 571 Lz54 [(.double (4638215034982367232 : UInt64)), (.int (21 : Int32)), (.ref b55), (.ref b55)])) rfl rfl (hb hby at_571)
  have V_b55 : Arv Z h77 b55 k55 .double (60 : Int32) (own_lb 22) (.double (0 : UInt64)) := Arv.set Ar77 q77 sz77 nz77 hH77 hG77 rfl W77 21 rfl (Nat.le_of_ble_eq_true rfl)
  have N77 := Fr.snoc X77 N76 g_b55
  have G_b5 := G_b5.other W77 ne_b5_b55
  have ZH := Nat.le_trans ZH (Nat.le_of_eq W77.size.symm)
  have KK := KK.wr W77 (Or.inr sz_b55)
  refine own_up st77 ?_
  show own_Go p.tables e below _ (T77.setTop (mkF m 572 Lz54 [(.ref b55)]))
  refine own_up (fun _ kq => XS.dup X77.here hx rfl (hb hby at_572) rfl rfl kq) ?_
  show own_Go p.tables e below _ (T77.setTop (mkF m 573 Lz54 [(.ref b55), (.ref b55)]))
  refine own_up (fun _ kq => XS.bipush X77.here hx rfl (hb hby at_573) kq) ?_
  show own_Go p.tables e below _ (T77.setTop (mkF m 575 Lz54 [(.int (22 : Int32)), (.ref b55), (.ref b55)]))
  refine own_up (fun _ kq => X77.ldc2DoubleC hx hown (mvT hZ (hw _ (List.mem_of_getElem? (i := 70) rfl))) (g := (mkF m 575 Lz54 [(.int (22 : Int32)), (.ref b55), (.ref b55)])) rfl (hb hby at_575) _ kq) ?_
  show own_Go p.tables e below _ (T77.setTop (mkF m 578 Lz54 [(.double (4638285403726544896 : UInt64)), (.int (22 : Int32)), (.ref b55), (.ref b55)]))
  obtain ⟨cl78, Ar78, q78, sz78, nz78, hH78, hG78⟩ := V_b55
  obtain ⟨T78, h78, X78, e78, W78, st78⟩ := stD X77 hx hZ e77 Ar78 (j := (22 : Int32)) (inb_of sz78 ⟨by decide, by decide⟩) (g := (mkF m 578 Lz54 [(.double (4638285403726544896 : UInt64)), (.int (22 : Int32)), (.ref b55), (.ref b55)])) rfl rfl (hb hby at_578)
  have V_b55 : Arv Z h78 b55 k55 .double (60 : Int32) (own_lb 23) (.double (0 : UInt64)) := Arv.set Ar78 q78 sz78 nz78 hH78 hG78 rfl W78 22 rfl (Nat.le_of_ble_eq_true rfl)
  have N78 := Fr.snoc X78 N77 g_b55
  have G_b5 := G_b5.other W78 ne_b5_b55
  have ZH := Nat.le_trans ZH (Nat.le_of_eq W78.size.symm)
  have KK := KK.wr W78 (Or.inr sz_b55)
  refine own_up st78 ?_
  show own_Go p.tables e below _ (T78.setTop (mkF m 579 Lz54 [(.ref b55)]))
  refine own_up (fun _ kq => XS.dup X78.here hx rfl (hb hby at_579) rfl rfl kq) ?_
  show own_Go p.tables e below _ (T78.setTop (mkF m 580 Lz54 [(.ref b55), (.ref b55)]))
  refine own_up (fun _ kq => XS.bipush X78.here hx rfl (hb hby at_580) kq) ?_
  show own_Go p.tables e below _ (T78.setTop (mkF m 582 Lz54 [(.int (23 : Int32)), (.ref b55), (.ref b55)]))
  refine own_up (fun _ kq => X78.ldc2DoubleC hx hown (mvT hZ (hw _ (List.mem_of_getElem? (i := 71) rfl))) (g := (mkF m 582 Lz54 [(.int (23 : Int32)), (.ref b55), (.ref b55)])) rfl (hb hby at_582) _ kq) ?_
  show own_Go p.tables e below _ (T78.setTop (mkF m 585 Lz54 [(.double (4638355772470722560 : UInt64)), (.int (23 : Int32)), (.ref b55), (.ref b55)]))
  obtain ⟨cl79, Ar79, q79, sz79, nz79, hH79, hG79⟩ := V_b55
  obtain ⟨T79, h79, X79, e79, W79, st79⟩ := stD X78 hx hZ e78 Ar79 (j := (23 : Int32)) (inb_of sz79 ⟨by decide, by decide⟩) (g := (mkF m 585 Lz54 [(.double (4638355772470722560 : UInt64)), (.int (23 : Int32)), (.ref b55), (.ref b55)])) rfl rfl (hb hby at_585)
  have V_b55 : Arv Z h79 b55 k55 .double (60 : Int32) (own_lb 24) (.double (0 : UInt64)) := Arv.set Ar79 q79 sz79 nz79 hH79 hG79 rfl W79 23 rfl (Nat.le_of_ble_eq_true rfl)
  have N79 := Fr.snoc X79 N78 g_b55
  have G_b5 := G_b5.other W79 ne_b5_b55
  have ZH := Nat.le_trans ZH (Nat.le_of_eq W79.size.symm)
  have KK := KK.wr W79 (Or.inr sz_b55)
  refine own_up st79 ?_
  show own_Go p.tables e below _ (T79.setTop (mkF m 586 Lz54 [(.ref b55)]))
  refine own_up (fun _ kq => XS.dup X79.here hx rfl (hb hby at_586) rfl rfl kq) ?_
  show own_Go p.tables e below _ (T79.setTop (mkF m 587 Lz54 [(.ref b55), (.ref b55)]))
  refine own_up (fun _ kq => XS.bipush X79.here hx rfl (hb hby at_587) kq) ?_
  show own_Go p.tables e below _ (T79.setTop (mkF m 589 Lz54 [(.int (24 : Int32)), (.ref b55), (.ref b55)]))
  refine own_up (fun _ kq => X79.ldc2DoubleC hx hown (mvT hZ (hw _ (List.mem_of_getElem? (i := 72) rfl))) (g := (mkF m 589 Lz54 [(.int (24 : Int32)), (.ref b55), (.ref b55)])) rfl (hb hby at_589) _ kq) ?_
  show own_Go p.tables e below _ (T79.setTop (mkF m 592 Lz54 [(.double (4638426141214900224 : UInt64)), (.int (24 : Int32)), (.ref b55), (.ref b55)]))
  obtain ⟨cl80, Ar80, q80, sz80, nz80, hH80, hG80⟩ := V_b55
  obtain ⟨T80, h80, X80, e80, W80, st80⟩ := stD X79 hx hZ e79 Ar80 (j := (24 : Int32)) (inb_of sz80 ⟨by decide, by decide⟩) (g := (mkF m 592 Lz54 [(.double (4638426141214900224 : UInt64)), (.int (24 : Int32)), (.ref b55), (.ref b55)])) rfl rfl (hb hby at_592)
  have V_b55 : Arv Z h80 b55 k55 .double (60 : Int32) (own_lb 25) (.double (0 : UInt64)) := Arv.set Ar80 q80 sz80 nz80 hH80 hG80 rfl W80 24 rfl (Nat.le_of_ble_eq_true rfl)
  have N80 := Fr.snoc X80 N79 g_b55
  have G_b5 := G_b5.other W80 ne_b5_b55
  have ZH := Nat.le_trans ZH (Nat.le_of_eq W80.size.symm)
  have KK := KK.wr W80 (Or.inr sz_b55)
  refine own_up st80 ?_
  show own_Go p.tables e below _ (T80.setTop (mkF m 593 Lz54 [(.ref b55)]))
  refine own_up (fun _ kq => XS.dup X80.here hx rfl (hb hby at_593) rfl rfl kq) ?_
  show own_Go p.tables e below _ (T80.setTop (mkF m 594 Lz54 [(.ref b55), (.ref b55)]))
  refine own_up (fun _ kq => XS.bipush X80.here hx rfl (hb hby at_594) kq) ?_
  show own_Go p.tables e below _ (T80.setTop (mkF m 596 Lz54 [(.int (25 : Int32)), (.ref b55), (.ref b55)]))
  refine own_up (fun _ kq => X80.ldc2DoubleC hx hown (mvT hZ (hw _ (List.mem_of_getElem? (i := 73) rfl))) (g := (mkF m 596 Lz54 [(.int (25 : Int32)), (.ref b55), (.ref b55)])) rfl (hb hby at_596) _ kq) ?_
  show own_Go p.tables e below _ (T80.setTop (mkF m 599 Lz54 [(.double (4638496509959077888 : UInt64)), (.int (25 : Int32)), (.ref b55), (.ref b55)]))
  obtain ⟨cl81, Ar81, q81, sz81, nz81, hH81, hG81⟩ := V_b55
  obtain ⟨T81, h81, X81, e81, W81, st81⟩ := stD X80 hx hZ e80 Ar81 (j := (25 : Int32)) (inb_of sz81 ⟨by decide, by decide⟩) (g := (mkF m 599 Lz54 [(.double (4638496509959077888 : UInt64)), (.int (25 : Int32)), (.ref b55), (.ref b55)])) rfl rfl (hb hby at_599)
  have V_b55 : Arv Z h81 b55 k55 .double (60 : Int32) (own_lb 26) (.double (0 : UInt64)) := Arv.set Ar81 q81 sz81 nz81 hH81 hG81 rfl W81 25 rfl (Nat.le_of_ble_eq_true rfl)
  have N81 := Fr.snoc X81 N80 g_b55
  have G_b5 := G_b5.other W81 ne_b5_b55
  have ZH := Nat.le_trans ZH (Nat.le_of_eq W81.size.symm)
  have KK := KK.wr W81 (Or.inr sz_b55)
  refine own_up st81 ?_
  show own_Go p.tables e below _ (T81.setTop (mkF m 600 Lz54 [(.ref b55)]))
  refine own_up (fun _ kq => XS.dup X81.here hx rfl (hb hby at_600) rfl rfl kq) ?_
  show own_Go p.tables e below _ (T81.setTop (mkF m 601 Lz54 [(.ref b55), (.ref b55)]))
  refine own_up (fun _ kq => XS.bipush X81.here hx rfl (hb hby at_601) kq) ?_
  show own_Go p.tables e below _ (T81.setTop (mkF m 603 Lz54 [(.int (26 : Int32)), (.ref b55), (.ref b55)]))
  refine own_up (fun _ kq => X81.ldc2DoubleC hx hown (mvT hZ (hw _ (List.mem_of_getElem? (i := 74) rfl))) (g := (mkF m 603 Lz54 [(.int (26 : Int32)), (.ref b55), (.ref b55)])) rfl (hb hby at_603) _ kq) ?_
  show own_Go p.tables e below _ (T81.setTop (mkF m 606 Lz54 [(.double (4638566878703255552 : UInt64)), (.int (26 : Int32)), (.ref b55), (.ref b55)]))
  obtain ⟨cl82, Ar82, q82, sz82, nz82, hH82, hG82⟩ := V_b55
  obtain ⟨T82, h82, X82, e82, W82, st82⟩ := stD X81 hx hZ e81 Ar82 (j := (26 : Int32)) (inb_of sz82 ⟨by decide, by decide⟩) (g := (mkF m 606 Lz54 [(.double (4638566878703255552 : UInt64)), (.int (26 : Int32)), (.ref b55), (.ref b55)])) rfl rfl (hb hby at_606)
  have V_b55 : Arv Z h82 b55 k55 .double (60 : Int32) (own_lb 27) (.double (0 : UInt64)) := Arv.set Ar82 q82 sz82 nz82 hH82 hG82 rfl W82 26 rfl (Nat.le_of_ble_eq_true rfl)
  have N82 := Fr.snoc X82 N81 g_b55
  have G_b5 := G_b5.other W82 ne_b5_b55
  have ZH := Nat.le_trans ZH (Nat.le_of_eq W82.size.symm)
  have KK := KK.wr W82 (Or.inr sz_b55)
  refine own_up st82 ?_
  show own_Go p.tables e below _ (T82.setTop (mkF m 607 Lz54 [(.ref b55)]))
  refine own_up (fun _ kq => XS.dup X82.here hx rfl (hb hby at_607) rfl rfl kq) ?_
  show own_Go p.tables e below _ (T82.setTop (mkF m 608 Lz54 [(.ref b55), (.ref b55)]))
  refine own_up (fun _ kq => XS.bipush X82.here hx rfl (hb hby at_608) kq) ?_
  show own_Go p.tables e below _ (T82.setTop (mkF m 610 Lz54 [(.int (27 : Int32)), (.ref b55), (.ref b55)]))
  refine own_up (fun _ kq => X82.ldc2DoubleC hx hown (mvT hZ (hw _ (List.mem_of_getElem? (i := 75) rfl))) (g := (mkF m 610 Lz54 [(.int (27 : Int32)), (.ref b55), (.ref b55)])) rfl (hb hby at_610) _ kq) ?_
  show own_Go p.tables e below _ (T82.setTop (mkF m 613 Lz54 [(.double (4638637247447433216 : UInt64)), (.int (27 : Int32)), (.ref b55), (.ref b55)]))
  obtain ⟨cl83, Ar83, q83, sz83, nz83, hH83, hG83⟩ := V_b55
  obtain ⟨T83, h83, X83, e83, W83, st83⟩ := stD X82 hx hZ e82 Ar83 (j := (27 : Int32)) (inb_of sz83 ⟨by decide, by decide⟩) (g := (mkF m 613 Lz54 [(.double (4638637247447433216 : UInt64)), (.int (27 : Int32)), (.ref b55), (.ref b55)])) rfl rfl (hb hby at_613)
  have V_b55 : Arv Z h83 b55 k55 .double (60 : Int32) (own_lb 28) (.double (0 : UInt64)) := Arv.set Ar83 q83 sz83 nz83 hH83 hG83 rfl W83 27 rfl (Nat.le_of_ble_eq_true rfl)
  have N83 := Fr.snoc X83 N82 g_b55
  have G_b5 := G_b5.other W83 ne_b5_b55
  have ZH := Nat.le_trans ZH (Nat.le_of_eq W83.size.symm)
  have KK := KK.wr W83 (Or.inr sz_b55)
  refine own_up st83 ?_
  show own_Go p.tables e below _ (T83.setTop (mkF m 614 Lz54 [(.ref b55)]))
  refine own_up (fun _ kq => XS.dup X83.here hx rfl (hb hby at_614) rfl rfl kq) ?_
  show own_Go p.tables e below _ (T83.setTop (mkF m 615 Lz54 [(.ref b55), (.ref b55)]))
  refine own_up (fun _ kq => XS.bipush X83.here hx rfl (hb hby at_615) kq) ?_
  show own_Go p.tables e below _ (T83.setTop (mkF m 617 Lz54 [(.int (28 : Int32)), (.ref b55), (.ref b55)]))
  refine own_up (fun _ kq => X83.ldc2DoubleC hx hown (mvT hZ (hw _ (List.mem_of_getElem? (i := 76) rfl))) (g := (mkF m 617 Lz54 [(.int (28 : Int32)), (.ref b55), (.ref b55)])) rfl (hb hby at_617) _ kq) ?_
  show own_Go p.tables e below _ (T83.setTop (mkF m 620 Lz54 [(.double (4638707616191610880 : UInt64)), (.int (28 : Int32)), (.ref b55), (.ref b55)]))
  obtain ⟨cl84, Ar84, q84, sz84, nz84, hH84, hG84⟩ := V_b55
  obtain ⟨T84, h84, X84, e84, W84, st84⟩ := stD X83 hx hZ e83 Ar84 (j := (28 : Int32)) (inb_of sz84 ⟨by decide, by decide⟩) (g := (mkF m 620 Lz54 [(.double (4638707616191610880 : UInt64)), (.int (28 : Int32)), (.ref b55), (.ref b55)])) rfl rfl (hb hby at_620)
  have V_b55 : Arv Z h84 b55 k55 .double (60 : Int32) (own_lb 29) (.double (0 : UInt64)) := Arv.set Ar84 q84 sz84 nz84 hH84 hG84 rfl W84 28 rfl (Nat.le_of_ble_eq_true rfl)
  have N84 := Fr.snoc X84 N83 g_b55
  have G_b5 := G_b5.other W84 ne_b5_b55
  have ZH := Nat.le_trans ZH (Nat.le_of_eq W84.size.symm)
  have KK := KK.wr W84 (Or.inr sz_b55)
  refine own_up st84 ?_
  show own_Go p.tables e below _ (T84.setTop (mkF m 621 Lz54 [(.ref b55)]))
  refine own_up (fun _ kq => XS.dup X84.here hx rfl (hb hby at_621) rfl rfl kq) ?_
  show own_Go p.tables e below _ (T84.setTop (mkF m 622 Lz54 [(.ref b55), (.ref b55)]))
  refine own_up (fun _ kq => XS.bipush X84.here hx rfl (hb hby at_622) kq) ?_
  show own_Go p.tables e below _ (T84.setTop (mkF m 624 Lz54 [(.int (29 : Int32)), (.ref b55), (.ref b55)]))
  refine own_up (fun _ kq => X84.ldc2DoubleC hx hown (mvT hZ (hw _ (List.mem_of_getElem? (i := 77) rfl))) (g := (mkF m 624 Lz54 [(.int (29 : Int32)), (.ref b55), (.ref b55)])) rfl (hb hby at_624) _ kq) ?_
  show own_Go p.tables e below _ (T84.setTop (mkF m 627 Lz54 [(.double (4638742800563699712 : UInt64)), (.int (29 : Int32)), (.ref b55), (.ref b55)]))
  obtain ⟨cl85, Ar85, q85, sz85, nz85, hH85, hG85⟩ := V_b55
  obtain ⟨T85, h85, X85, e85, W85, st85⟩ := stD X84 hx hZ e84 Ar85 (j := (29 : Int32)) (inb_of sz85 ⟨by decide, by decide⟩) (g := (mkF m 627 Lz54 [(.double (4638742800563699712 : UInt64)), (.int (29 : Int32)), (.ref b55), (.ref b55)])) rfl rfl (hb hby at_627)
  have V_b55 : Arv Z h85 b55 k55 .double (60 : Int32) (own_lb 30) (.double (0 : UInt64)) := Arv.set Ar85 q85 sz85 nz85 hH85 hG85 rfl W85 29 rfl (Nat.le_of_ble_eq_true rfl)
  have N85 := Fr.snoc X85 N84 g_b55
  have G_b5 := G_b5.other W85 ne_b5_b55
  have ZH := Nat.le_trans ZH (Nat.le_of_eq W85.size.symm)
  have KK := KK.wr W85 (Or.inr sz_b55)
  refine own_up st85 ?_
  show own_Go p.tables e below _ (T85.setTop (mkF m 628 Lz54 [(.ref b55)]))
  refine own_up (fun _ kq => XS.dup X85.here hx rfl (hb hby at_628) rfl rfl kq) ?_
  show own_Go p.tables e below _ (T85.setTop (mkF m 629 Lz54 [(.ref b55), (.ref b55)]))
  refine own_up (fun _ kq => XS.bipush X85.here hx rfl (hb hby at_629) kq) ?_
  show own_Go p.tables e below _ (T85.setTop (mkF m 631 Lz54 [(.int (30 : Int32)), (.ref b55), (.ref b55)]))
  refine own_up (fun _ kq => X85.ldc2DoubleC hx hown (mvT hZ (hw _ (List.mem_of_getElem? (i := 78) rfl))) (g := (mkF m 631 Lz54 [(.int (30 : Int32)), (.ref b55), (.ref b55)])) rfl (hb hby at_631) _ kq) ?_
  show own_Go p.tables e below _ (T85.setTop (mkF m 634 Lz54 [(.double (4638777984935788544 : UInt64)), (.int (30 : Int32)), (.ref b55), (.ref b55)]))
  obtain ⟨cl86, Ar86, q86, sz86, nz86, hH86, hG86⟩ := V_b55
  obtain ⟨T86, h86, X86, e86, W86, st86⟩ := stD X85 hx hZ e85 Ar86 (j := (30 : Int32)) (inb_of sz86 ⟨by decide, by decide⟩) (g := (mkF m 634 Lz54 [(.double (4638777984935788544 : UInt64)), (.int (30 : Int32)), (.ref b55), (.ref b55)])) rfl rfl (hb hby at_634)
  have V_b55 : Arv Z h86 b55 k55 .double (60 : Int32) (own_lb 31) (.double (0 : UInt64)) := Arv.set Ar86 q86 sz86 nz86 hH86 hG86 rfl W86 30 rfl (Nat.le_of_ble_eq_true rfl)
  have N86 := Fr.snoc X86 N85 g_b55
  have G_b5 := G_b5.other W86 ne_b5_b55
  have ZH := Nat.le_trans ZH (Nat.le_of_eq W86.size.symm)
  have KK := KK.wr W86 (Or.inr sz_b55)
  refine own_up st86 ?_
  show own_Go p.tables e below _ (T86.setTop (mkF m 635 Lz54 [(.ref b55)]))
  refine own_up (fun _ kq => XS.dup X86.here hx rfl (hb hby at_635) rfl rfl kq) ?_
  show own_Go p.tables e below _ (T86.setTop (mkF m 636 Lz54 [(.ref b55), (.ref b55)]))
  refine own_up (fun _ kq => XS.bipush X86.here hx rfl (hb hby at_636) kq) ?_
  show own_Go p.tables e below _ (T86.setTop (mkF m 638 Lz54 [(.int (31 : Int32)), (.ref b55), (.ref b55)]))
  refine own_up (fun _ kq => X86.ldc2DoubleC hx hown (mvT hZ (hw _ (List.mem_of_getElem? (i := 79) rfl))) (g := (mkF m 638 Lz54 [(.int (31 : Int32)), (.ref b55), (.ref b55)])) rfl (hb hby at_638) _ kq) ?_
  show own_Go p.tables e below _ (T86.setTop (mkF m 641 Lz54 [(.double (4638813169307877376 : UInt64)), (.int (31 : Int32)), (.ref b55), (.ref b55)]))
  obtain ⟨cl87, Ar87, q87, sz87, nz87, hH87, hG87⟩ := V_b55
  obtain ⟨T87, h87, X87, e87, W87, st87⟩ := stD X86 hx hZ e86 Ar87 (j := (31 : Int32)) (inb_of sz87 ⟨by decide, by decide⟩) (g := (mkF m 641 Lz54 [(.double (4638813169307877376 : UInt64)), (.int (31 : Int32)), (.ref b55), (.ref b55)])) rfl rfl (hb hby at_641)
  have V_b55 : Arv Z h87 b55 k55 .double (60 : Int32) (own_lb 32) (.double (0 : UInt64)) := Arv.set Ar87 q87 sz87 nz87 hH87 hG87 rfl W87 31 rfl (Nat.le_of_ble_eq_true rfl)
  have N87 := Fr.snoc X87 N86 g_b55
  have G_b5 := G_b5.other W87 ne_b5_b55
  have ZH := Nat.le_trans ZH (Nat.le_of_eq W87.size.symm)
  have KK := KK.wr W87 (Or.inr sz_b55)
  refine own_up st87 ?_
  show own_Go p.tables e below _ (T87.setTop (mkF m 642 Lz54 [(.ref b55)]))
  refine own_up (fun _ kq => XS.dup X87.here hx rfl (hb hby at_642) rfl rfl kq) ?_
  show own_Go p.tables e below _ (T87.setTop (mkF m 643 Lz54 [(.ref b55), (.ref b55)]))
  refine own_up (fun _ kq => XS.bipush X87.here hx rfl (hb hby at_643) kq) ?_
  show own_Go p.tables e below _ (T87.setTop (mkF m 645 Lz54 [(.int (32 : Int32)), (.ref b55), (.ref b55)]))
  refine own_up (fun _ kq => X87.ldc2DoubleC hx hown (mvT hZ (hw _ (List.mem_of_getElem? (i := 80) rfl))) (g := (mkF m 645 Lz54 [(.int (32 : Int32)), (.ref b55), (.ref b55)])) rfl (hb hby at_645) _ kq) ?_
  show own_Go p.tables e below _ (T87.setTop (mkF m 648 Lz54 [(.double (4638848353679966208 : UInt64)), (.int (32 : Int32)), (.ref b55), (.ref b55)]))
  obtain ⟨cl88, Ar88, q88, sz88, nz88, hH88, hG88⟩ := V_b55
  obtain ⟨T88, h88, X88, e88, W88, st88⟩ := stD X87 hx hZ e87 Ar88 (j := (32 : Int32)) (inb_of sz88 ⟨by decide, by decide⟩) (g := (mkF m 648 Lz54 [(.double (4638848353679966208 : UInt64)), (.int (32 : Int32)), (.ref b55), (.ref b55)])) rfl rfl (hb hby at_648)
  have V_b55 : Arv Z h88 b55 k55 .double (60 : Int32) (own_lb 33) (.double (0 : UInt64)) := Arv.set Ar88 q88 sz88 nz88 hH88 hG88 rfl W88 32 rfl (Nat.le_of_ble_eq_true rfl)
  have N88 := Fr.snoc X88 N87 g_b55
  have G_b5 := G_b5.other W88 ne_b5_b55
  have ZH := Nat.le_trans ZH (Nat.le_of_eq W88.size.symm)
  have KK := KK.wr W88 (Or.inr sz_b55)
  refine own_up st88 ?_
  show own_Go p.tables e below _ (T88.setTop (mkF m 649 Lz54 [(.ref b55)]))
  refine own_up (fun _ kq => XS.dup X88.here hx rfl (hb hby at_649) rfl rfl kq) ?_
  show own_Go p.tables e below _ (T88.setTop (mkF m 650 Lz54 [(.ref b55), (.ref b55)]))
  refine own_up (fun _ kq => XS.bipush X88.here hx rfl (hb hby at_650) kq) ?_
  show own_Go p.tables e below _ (T88.setTop (mkF m 652 Lz54 [(.int (33 : Int32)), (.ref b55), (.ref b55)]))
  refine own_up (fun _ kq => X88.ldc2DoubleC hx hown (mvT hZ (hw _ (List.mem_of_getElem? (i := 81) rfl))) (g := (mkF m 652 Lz54 [(.int (33 : Int32)), (.ref b55), (.ref b55)])) rfl (hb hby at_652) _ kq) ?_
  show own_Go p.tables e below _ (T88.setTop (mkF m 655 Lz54 [(.double (4638883538052055040 : UInt64)), (.int (33 : Int32)), (.ref b55), (.ref b55)]))
  obtain ⟨cl89, Ar89, q89, sz89, nz89, hH89, hG89⟩ := V_b55
  obtain ⟨T89, h89, X89, e89, W89, st89⟩ := stD X88 hx hZ e88 Ar89 (j := (33 : Int32)) (inb_of sz89 ⟨by decide, by decide⟩) (g := (mkF m 655 Lz54 [(.double (4638883538052055040 : UInt64)), (.int (33 : Int32)), (.ref b55), (.ref b55)])) rfl rfl (hb hby at_655)
  have V_b55 : Arv Z h89 b55 k55 .double (60 : Int32) (own_lb 34) (.double (0 : UInt64)) := Arv.set Ar89 q89 sz89 nz89 hH89 hG89 rfl W89 33 rfl (Nat.le_of_ble_eq_true rfl)
  have N89 := Fr.snoc X89 N88 g_b55
  have G_b5 := G_b5.other W89 ne_b5_b55
  have ZH := Nat.le_trans ZH (Nat.le_of_eq W89.size.symm)
  have KK := KK.wr W89 (Or.inr sz_b55)
  refine own_up st89 ?_
  show own_Go p.tables e below _ (T89.setTop (mkF m 656 Lz54 [(.ref b55)]))
  refine own_up (fun _ kq => XS.dup X89.here hx rfl (hb hby at_656) rfl rfl kq) ?_
  show own_Go p.tables e below _ (T89.setTop (mkF m 657 Lz54 [(.ref b55), (.ref b55)]))
  refine own_up (fun _ kq => XS.bipush X89.here hx rfl (hb hby at_657) kq) ?_
  show own_Go p.tables e below _ (T89.setTop (mkF m 659 Lz54 [(.int (34 : Int32)), (.ref b55), (.ref b55)]))
  refine own_up (fun _ kq => X89.ldc2DoubleC hx hown (mvT hZ (hw _ (List.mem_of_getElem? (i := 82) rfl))) (g := (mkF m 659 Lz54 [(.int (34 : Int32)), (.ref b55), (.ref b55)])) rfl (hb hby at_659) _ kq) ?_
  show own_Go p.tables e below _ (T89.setTop (mkF m 662 Lz54 [(.double (4638918722424143872 : UInt64)), (.int (34 : Int32)), (.ref b55), (.ref b55)]))
  obtain ⟨cl90, Ar90, q90, sz90, nz90, hH90, hG90⟩ := V_b55
  obtain ⟨T90, h90, X90, e90, W90, st90⟩ := stD X89 hx hZ e89 Ar90 (j := (34 : Int32)) (inb_of sz90 ⟨by decide, by decide⟩) (g := (mkF m 662 Lz54 [(.double (4638918722424143872 : UInt64)), (.int (34 : Int32)), (.ref b55), (.ref b55)])) rfl rfl (hb hby at_662)
  have V_b55 : Arv Z h90 b55 k55 .double (60 : Int32) (own_lb 35) (.double (0 : UInt64)) := Arv.set Ar90 q90 sz90 nz90 hH90 hG90 rfl W90 34 rfl (Nat.le_of_ble_eq_true rfl)
  have N90 := Fr.snoc X90 N89 g_b55
  have G_b5 := G_b5.other W90 ne_b5_b55
  have ZH := Nat.le_trans ZH (Nat.le_of_eq W90.size.symm)
  have KK := KK.wr W90 (Or.inr sz_b55)
  refine own_up st90 ?_
  show own_Go p.tables e below _ (T90.setTop (mkF m 663 Lz54 [(.ref b55)]))
  refine own_up (fun _ kq => XS.dup X90.here hx rfl (hb hby at_663) rfl rfl kq) ?_
  show own_Go p.tables e below _ (T90.setTop (mkF m 664 Lz54 [(.ref b55), (.ref b55)]))
  refine own_up (fun _ kq => XS.bipush X90.here hx rfl (hb hby at_664) kq) ?_
  show own_Go p.tables e below _ (T90.setTop (mkF m 666 Lz54 [(.int (35 : Int32)), (.ref b55), (.ref b55)]))
  refine own_up (fun _ kq => X90.ldc2DoubleC hx hown (mvT hZ (hw _ (List.mem_of_getElem? (i := 83) rfl))) (g := (mkF m 666 Lz54 [(.int (35 : Int32)), (.ref b55), (.ref b55)])) rfl (hb hby at_666) _ kq) ?_
  show own_Go p.tables e below _ (T90.setTop (mkF m 669 Lz54 [(.double (4638953906796232704 : UInt64)), (.int (35 : Int32)), (.ref b55), (.ref b55)]))
  obtain ⟨cl91, Ar91, q91, sz91, nz91, hH91, hG91⟩ := V_b55
  obtain ⟨T91, h91, X91, e91, W91, st91⟩ := stD X90 hx hZ e90 Ar91 (j := (35 : Int32)) (inb_of sz91 ⟨by decide, by decide⟩) (g := (mkF m 669 Lz54 [(.double (4638953906796232704 : UInt64)), (.int (35 : Int32)), (.ref b55), (.ref b55)])) rfl rfl (hb hby at_669)
  have V_b55 : Arv Z h91 b55 k55 .double (60 : Int32) (own_lb 36) (.double (0 : UInt64)) := Arv.set Ar91 q91 sz91 nz91 hH91 hG91 rfl W91 35 rfl (Nat.le_of_ble_eq_true rfl)
  have N91 := Fr.snoc X91 N90 g_b55
  have G_b5 := G_b5.other W91 ne_b5_b55
  have ZH := Nat.le_trans ZH (Nat.le_of_eq W91.size.symm)
  have KK := KK.wr W91 (Or.inr sz_b55)
  refine own_up st91 ?_
  show own_Go p.tables e below _ (T91.setTop (mkF m 670 Lz54 [(.ref b55)]))
  refine own_up (fun _ kq => XS.dup X91.here hx rfl (hb hby at_670) rfl rfl kq) ?_
  show own_Go p.tables e below _ (T91.setTop (mkF m 671 Lz54 [(.ref b55), (.ref b55)]))
  refine own_up (fun _ kq => XS.bipush X91.here hx rfl (hb hby at_671) kq) ?_
  show own_Go p.tables e below _ (T91.setTop (mkF m 673 Lz54 [(.int (36 : Int32)), (.ref b55), (.ref b55)]))
  refine own_up (fun _ kq => X91.ldc2DoubleC hx hown (mvT hZ (hw _ (List.mem_of_getElem? (i := 84) rfl))) (g := (mkF m 673 Lz54 [(.int (36 : Int32)), (.ref b55), (.ref b55)])) rfl (hb hby at_673) _ kq) ?_
  show own_Go p.tables e below _ (T91.setTop (mkF m 676 Lz54 [(.double (4638989091168321536 : UInt64)), (.int (36 : Int32)), (.ref b55), (.ref b55)]))
  obtain ⟨cl92, Ar92, q92, sz92, nz92, hH92, hG92⟩ := V_b55
  obtain ⟨T92, h92, X92, e92, W92, st92⟩ := stD X91 hx hZ e91 Ar92 (j := (36 : Int32)) (inb_of sz92 ⟨by decide, by decide⟩) (g := (mkF m 676 Lz54 [(.double (4638989091168321536 : UInt64)), (.int (36 : Int32)), (.ref b55), (.ref b55)])) rfl rfl (hb hby at_676)
  have V_b55 : Arv Z h92 b55 k55 .double (60 : Int32) (own_lb 37) (.double (0 : UInt64)) := Arv.set Ar92 q92 sz92 nz92 hH92 hG92 rfl W92 36 rfl (Nat.le_of_ble_eq_true rfl)
  have N92 := Fr.snoc X92 N91 g_b55
  have G_b5 := G_b5.other W92 ne_b5_b55
  have ZH := Nat.le_trans ZH (Nat.le_of_eq W92.size.symm)
  have KK := KK.wr W92 (Or.inr sz_b55)
  refine own_up st92 ?_
  show own_Go p.tables e below _ (T92.setTop (mkF m 677 Lz54 [(.ref b55)]))
  refine own_up (fun _ kq => XS.dup X92.here hx rfl (hb hby at_677) rfl rfl kq) ?_
  show own_Go p.tables e below _ (T92.setTop (mkF m 678 Lz54 [(.ref b55), (.ref b55)]))
  refine own_up (fun _ kq => XS.bipush X92.here hx rfl (hb hby at_678) kq) ?_
  show own_Go p.tables e below _ (T92.setTop (mkF m 680 Lz54 [(.int (37 : Int32)), (.ref b55), (.ref b55)]))
  refine own_up (fun _ kq => X92.ldc2DoubleC hx hown (mvT hZ (hw _ (List.mem_of_getElem? (i := 85) rfl))) (g := (mkF m 680 Lz54 [(.int (37 : Int32)), (.ref b55), (.ref b55)])) rfl (hb hby at_680) _ kq) ?_
  show own_Go p.tables e below _ (T92.setTop (mkF m 683 Lz54 [(.double (4639024275540410368 : UInt64)), (.int (37 : Int32)), (.ref b55), (.ref b55)]))
  obtain ⟨cl93, Ar93, q93, sz93, nz93, hH93, hG93⟩ := V_b55
  obtain ⟨T93, h93, X93, e93, W93, st93⟩ := stD X92 hx hZ e92 Ar93 (j := (37 : Int32)) (inb_of sz93 ⟨by decide, by decide⟩) (g := (mkF m 683 Lz54 [(.double (4639024275540410368 : UInt64)), (.int (37 : Int32)), (.ref b55), (.ref b55)])) rfl rfl (hb hby at_683)
  have V_b55 : Arv Z h93 b55 k55 .double (60 : Int32) (own_lb 38) (.double (0 : UInt64)) := Arv.set Ar93 q93 sz93 nz93 hH93 hG93 rfl W93 37 rfl (Nat.le_of_ble_eq_true rfl)
  have N93 := Fr.snoc X93 N92 g_b55
  have G_b5 := G_b5.other W93 ne_b5_b55
  have ZH := Nat.le_trans ZH (Nat.le_of_eq W93.size.symm)
  have KK := KK.wr W93 (Or.inr sz_b55)
  refine own_up st93 ?_
  show own_Go p.tables e below _ (T93.setTop (mkF m 684 Lz54 [(.ref b55)]))
  refine own_up (fun _ kq => XS.dup X93.here hx rfl (hb hby at_684) rfl rfl kq) ?_
  show own_Go p.tables e below _ (T93.setTop (mkF m 685 Lz54 [(.ref b55), (.ref b55)]))
  refine own_up (fun _ kq => XS.bipush X93.here hx rfl (hb hby at_685) kq) ?_
  show own_Go p.tables e below _ (T93.setTop (mkF m 687 Lz54 [(.int (38 : Int32)), (.ref b55), (.ref b55)]))
  refine own_up (fun _ kq => X93.ldc2DoubleC hx hown (mvT hZ (hw _ (List.mem_of_getElem? (i := 86) rfl))) (g := (mkF m 687 Lz54 [(.int (38 : Int32)), (.ref b55), (.ref b55)])) rfl (hb hby at_687) _ kq) ?_
  show own_Go p.tables e below _ (T93.setTop (mkF m 690 Lz54 [(.double (4639059459912499200 : UInt64)), (.int (38 : Int32)), (.ref b55), (.ref b55)]))
  obtain ⟨cl94, Ar94, q94, sz94, nz94, hH94, hG94⟩ := V_b55
  obtain ⟨T94, h94, X94, e94, W94, st94⟩ := stD X93 hx hZ e93 Ar94 (j := (38 : Int32)) (inb_of sz94 ⟨by decide, by decide⟩) (g := (mkF m 690 Lz54 [(.double (4639059459912499200 : UInt64)), (.int (38 : Int32)), (.ref b55), (.ref b55)])) rfl rfl (hb hby at_690)
  have V_b55 : Arv Z h94 b55 k55 .double (60 : Int32) (own_lb 39) (.double (0 : UInt64)) := Arv.set Ar94 q94 sz94 nz94 hH94 hG94 rfl W94 38 rfl (Nat.le_of_ble_eq_true rfl)
  have N94 := Fr.snoc X94 N93 g_b55
  have G_b5 := G_b5.other W94 ne_b5_b55
  have ZH := Nat.le_trans ZH (Nat.le_of_eq W94.size.symm)
  have KK := KK.wr W94 (Or.inr sz_b55)
  refine own_up st94 ?_
  show own_Go p.tables e below _ (T94.setTop (mkF m 691 Lz54 [(.ref b55)]))
  refine own_up (fun _ kq => XS.dup X94.here hx rfl (hb hby at_691) rfl rfl kq) ?_
  show own_Go p.tables e below _ (T94.setTop (mkF m 692 Lz54 [(.ref b55), (.ref b55)]))
  refine own_up (fun _ kq => XS.bipush X94.here hx rfl (hb hby at_692) kq) ?_
  show own_Go p.tables e below _ (T94.setTop (mkF m 694 Lz54 [(.int (39 : Int32)), (.ref b55), (.ref b55)]))
  refine own_up (fun _ kq => X94.ldc2DoubleC hx hown (mvT hZ (hw _ (List.mem_of_getElem? (i := 87) rfl))) (g := (mkF m 694 Lz54 [(.int (39 : Int32)), (.ref b55), (.ref b55)])) rfl (hb hby at_694) _ kq) ?_
  show own_Go p.tables e below _ (T94.setTop (mkF m 697 Lz54 [(.double (4639094644284588032 : UInt64)), (.int (39 : Int32)), (.ref b55), (.ref b55)]))
  obtain ⟨cl95, Ar95, q95, sz95, nz95, hH95, hG95⟩ := V_b55
  obtain ⟨T95, h95, X95, e95, W95, st95⟩ := stD X94 hx hZ e94 Ar95 (j := (39 : Int32)) (inb_of sz95 ⟨by decide, by decide⟩) (g := (mkF m 697 Lz54 [(.double (4639094644284588032 : UInt64)), (.int (39 : Int32)), (.ref b55), (.ref b55)])) rfl rfl (hb hby at_697)
  have V_b55 : Arv Z h95 b55 k55 .double (60 : Int32) (own_lb 40) (.double (0 : UInt64)) := Arv.set Ar95 q95 sz95 nz95 hH95 hG95 rfl W95 39 rfl (Nat.le_of_ble_eq_true rfl)
  have N95 := Fr.snoc X95 N94 g_b55
  have G_b5 := G_b5.other W95 ne_b5_b55
  have ZH := Nat.le_trans ZH (Nat.le_of_eq W95.size.symm)
  have KK := KK.wr W95 (Or.inr sz_b55)
  refine own_up st95 ?_
  show own_Go p.tables e below _ (T95.setTop (mkF m 698 Lz54 [(.ref b55)]))
  refine own_up (fun _ kq => XS.dup X95.here hx rfl (hb hby at_698) rfl rfl kq) ?_
  show own_Go p.tables e below _ (T95.setTop (mkF m 699 Lz54 [(.ref b55), (.ref b55)]))
  refine own_up (fun _ kq => XS.bipush X95.here hx rfl (hb hby at_699) kq) ?_
  show own_Go p.tables e below _ (T95.setTop (mkF m 701 Lz54 [(.int (40 : Int32)), (.ref b55), (.ref b55)]))
  refine own_up (fun _ kq => X95.ldc2DoubleC hx hown (mvT hZ (hw _ (List.mem_of_getElem? (i := 88) rfl))) (g := (mkF m 701 Lz54 [(.int (40 : Int32)), (.ref b55), (.ref b55)])) rfl (hb hby at_701) _ kq) ?_
  show own_Go p.tables e below _ (T95.setTop (mkF m 704 Lz54 [(.double (4639129828656676864 : UInt64)), (.int (40 : Int32)), (.ref b55), (.ref b55)]))
  obtain ⟨cl96, Ar96, q96, sz96, nz96, hH96, hG96⟩ := V_b55
  obtain ⟨T96, h96, X96, e96, W96, st96⟩ := stD X95 hx hZ e95 Ar96 (j := (40 : Int32)) (inb_of sz96 ⟨by decide, by decide⟩) (g := (mkF m 704 Lz54 [(.double (4639129828656676864 : UInt64)), (.int (40 : Int32)), (.ref b55), (.ref b55)])) rfl rfl (hb hby at_704)
  have V_b55 : Arv Z h96 b55 k55 .double (60 : Int32) (own_lb 41) (.double (0 : UInt64)) := Arv.set Ar96 q96 sz96 nz96 hH96 hG96 rfl W96 40 rfl (Nat.le_of_ble_eq_true rfl)
  have N96 := Fr.snoc X96 N95 g_b55
  have G_b5 := G_b5.other W96 ne_b5_b55
  have ZH := Nat.le_trans ZH (Nat.le_of_eq W96.size.symm)
  have KK := KK.wr W96 (Or.inr sz_b55)
  refine own_up st96 ?_
  show own_Go p.tables e below _ (T96.setTop (mkF m 705 Lz54 [(.ref b55)]))
  refine own_up (fun _ kq => XS.dup X96.here hx rfl (hb hby at_705) rfl rfl kq) ?_
  show own_Go p.tables e below _ (T96.setTop (mkF m 706 Lz54 [(.ref b55), (.ref b55)]))
  refine own_up (fun _ kq => XS.bipush X96.here hx rfl (hb hby at_706) kq) ?_
  show own_Go p.tables e below _ (T96.setTop (mkF m 708 Lz54 [(.int (41 : Int32)), (.ref b55), (.ref b55)]))
  refine own_up (fun _ kq => X96.ldc2DoubleC hx hown (mvT hZ (hw _ (List.mem_of_getElem? (i := 89) rfl))) (g := (mkF m 708 Lz54 [(.int (41 : Int32)), (.ref b55), (.ref b55)])) rfl (hb hby at_708) _ kq) ?_
  show own_Go p.tables e below _ (T96.setTop (mkF m 711 Lz54 [(.double (4639165013028765696 : UInt64)), (.int (41 : Int32)), (.ref b55), (.ref b55)]))
  obtain ⟨cl97, Ar97, q97, sz97, nz97, hH97, hG97⟩ := V_b55
  obtain ⟨T97, h97, X97, e97, W97, st97⟩ := stD X96 hx hZ e96 Ar97 (j := (41 : Int32)) (inb_of sz97 ⟨by decide, by decide⟩) (g := (mkF m 711 Lz54 [(.double (4639165013028765696 : UInt64)), (.int (41 : Int32)), (.ref b55), (.ref b55)])) rfl rfl (hb hby at_711)
  have V_b55 : Arv Z h97 b55 k55 .double (60 : Int32) (own_lb 42) (.double (0 : UInt64)) := Arv.set Ar97 q97 sz97 nz97 hH97 hG97 rfl W97 41 rfl (Nat.le_of_ble_eq_true rfl)
  have N97 := Fr.snoc X97 N96 g_b55
  have G_b5 := G_b5.other W97 ne_b5_b55
  have ZH := Nat.le_trans ZH (Nat.le_of_eq W97.size.symm)
  have KK := KK.wr W97 (Or.inr sz_b55)
  refine own_up st97 ?_
  show own_Go p.tables e below _ (T97.setTop (mkF m 712 Lz54 [(.ref b55)]))
  refine own_up (fun _ kq => XS.dup X97.here hx rfl (hb hby at_712) rfl rfl kq) ?_
  show own_Go p.tables e below _ (T97.setTop (mkF m 713 Lz54 [(.ref b55), (.ref b55)]))
  refine own_up (fun _ kq => XS.bipush X97.here hx rfl (hb hby at_713) kq) ?_
  show own_Go p.tables e below _ (T97.setTop (mkF m 715 Lz54 [(.int (42 : Int32)), (.ref b55), (.ref b55)]))
  refine own_up (fun _ kq => X97.ldc2DoubleC hx hown (mvT hZ (hw _ (List.mem_of_getElem? (i := 90) rfl))) (g := (mkF m 715 Lz54 [(.int (42 : Int32)), (.ref b55), (.ref b55)])) rfl (hb hby at_715) _ kq) ?_
  show own_Go p.tables e below _ (T97.setTop (mkF m 718 Lz54 [(.double (4639200197400854528 : UInt64)), (.int (42 : Int32)), (.ref b55), (.ref b55)]))
  obtain ⟨cl98, Ar98, q98, sz98, nz98, hH98, hG98⟩ := V_b55
  obtain ⟨T98, h98, X98, e98, W98, st98⟩ := stD X97 hx hZ e97 Ar98 (j := (42 : Int32)) (inb_of sz98 ⟨by decide, by decide⟩) (g := (mkF m 718 Lz54 [(.double (4639200197400854528 : UInt64)), (.int (42 : Int32)), (.ref b55), (.ref b55)])) rfl rfl (hb hby at_718)
  have V_b55 : Arv Z h98 b55 k55 .double (60 : Int32) (own_lb 43) (.double (0 : UInt64)) := Arv.set Ar98 q98 sz98 nz98 hH98 hG98 rfl W98 42 rfl (Nat.le_of_ble_eq_true rfl)
  have N98 := Fr.snoc X98 N97 g_b55
  have G_b5 := G_b5.other W98 ne_b5_b55
  have ZH := Nat.le_trans ZH (Nat.le_of_eq W98.size.symm)
  have KK := KK.wr W98 (Or.inr sz_b55)
  refine own_up st98 ?_
  show own_Go p.tables e below _ (T98.setTop (mkF m 719 Lz54 [(.ref b55)]))
  refine own_up (fun _ kq => XS.dup X98.here hx rfl (hb hby at_719) rfl rfl kq) ?_
  show own_Go p.tables e below _ (T98.setTop (mkF m 720 Lz54 [(.ref b55), (.ref b55)]))
  refine own_up (fun _ kq => XS.bipush X98.here hx rfl (hb hby at_720) kq) ?_
  show own_Go p.tables e below _ (T98.setTop (mkF m 722 Lz54 [(.int (43 : Int32)), (.ref b55), (.ref b55)]))
  refine own_up (fun _ kq => X98.ldc2DoubleC hx hown (mvT hZ (hw _ (List.mem_of_getElem? (i := 91) rfl))) (g := (mkF m 722 Lz54 [(.int (43 : Int32)), (.ref b55), (.ref b55)])) rfl (hb hby at_722) _ kq) ?_
  show own_Go p.tables e below _ (T98.setTop (mkF m 725 Lz54 [(.double (4639235381772943360 : UInt64)), (.int (43 : Int32)), (.ref b55), (.ref b55)]))
  obtain ⟨cl99, Ar99, q99, sz99, nz99, hH99, hG99⟩ := V_b55
  obtain ⟨T99, h99, X99, e99, W99, st99⟩ := stD X98 hx hZ e98 Ar99 (j := (43 : Int32)) (inb_of sz99 ⟨by decide, by decide⟩) (g := (mkF m 725 Lz54 [(.double (4639235381772943360 : UInt64)), (.int (43 : Int32)), (.ref b55), (.ref b55)])) rfl rfl (hb hby at_725)
  have V_b55 : Arv Z h99 b55 k55 .double (60 : Int32) (own_lb 44) (.double (0 : UInt64)) := Arv.set Ar99 q99 sz99 nz99 hH99 hG99 rfl W99 43 rfl (Nat.le_of_ble_eq_true rfl)
  have N99 := Fr.snoc X99 N98 g_b55
  have G_b5 := G_b5.other W99 ne_b5_b55
  have ZH := Nat.le_trans ZH (Nat.le_of_eq W99.size.symm)
  have KK := KK.wr W99 (Or.inr sz_b55)
  refine own_up st99 ?_
  show own_Go p.tables e below _ (T99.setTop (mkF m 726 Lz54 [(.ref b55)]))
  refine own_up (fun _ kq => XS.dup X99.here hx rfl (hb hby at_726) rfl rfl kq) ?_
  show own_Go p.tables e below _ (T99.setTop (mkF m 727 Lz54 [(.ref b55), (.ref b55)]))
  refine own_up (fun _ kq => XS.bipush X99.here hx rfl (hb hby at_727) kq) ?_
  show own_Go p.tables e below _ (T99.setTop (mkF m 729 Lz54 [(.int (44 : Int32)), (.ref b55), (.ref b55)]))
  refine own_up (fun _ kq => X99.ldc2DoubleC hx hown (mvT hZ (hw _ (List.mem_of_getElem? (i := 92) rfl))) (g := (mkF m 729 Lz54 [(.int (44 : Int32)), (.ref b55), (.ref b55)])) rfl (hb hby at_729) _ kq) ?_
  show own_Go p.tables e below _ (T99.setTop (mkF m 732 Lz54 [(.double (4639270566145032192 : UInt64)), (.int (44 : Int32)), (.ref b55), (.ref b55)]))
  obtain ⟨cl100, Ar100, q100, sz100, nz100, hH100, hG100⟩ := V_b55
  obtain ⟨T100, h100, X100, e100, W100, st100⟩ := stD X99 hx hZ e99 Ar100 (j := (44 : Int32)) (inb_of sz100 ⟨by decide, by decide⟩) (g := (mkF m 732 Lz54 [(.double (4639270566145032192 : UInt64)), (.int (44 : Int32)), (.ref b55), (.ref b55)])) rfl rfl (hb hby at_732)
  have V_b55 : Arv Z h100 b55 k55 .double (60 : Int32) (own_lb 45) (.double (0 : UInt64)) := Arv.set Ar100 q100 sz100 nz100 hH100 hG100 rfl W100 44 rfl (Nat.le_of_ble_eq_true rfl)
  have N100 := Fr.snoc X100 N99 g_b55
  have G_b5 := G_b5.other W100 ne_b5_b55
  have ZH := Nat.le_trans ZH (Nat.le_of_eq W100.size.symm)
  have KK := KK.wr W100 (Or.inr sz_b55)
  refine own_up st100 ?_
  show own_Go p.tables e below _ (T100.setTop (mkF m 733 Lz54 [(.ref b55)]))
  refine own_up (fun _ kq => XS.dup X100.here hx rfl (hb hby at_733) rfl rfl kq) ?_
  show own_Go p.tables e below _ (T100.setTop (mkF m 734 Lz54 [(.ref b55), (.ref b55)]))
  refine own_up (fun _ kq => XS.bipush X100.here hx rfl (hb hby at_734) kq) ?_
  show own_Go p.tables e below _ (T100.setTop (mkF m 736 Lz54 [(.int (45 : Int32)), (.ref b55), (.ref b55)]))
  refine own_up (fun _ kq => X100.ldc2DoubleC hx hown (mvT hZ (hw _ (List.mem_of_getElem? (i := 93) rfl))) (g := (mkF m 736 Lz54 [(.int (45 : Int32)), (.ref b55), (.ref b55)])) rfl (hb hby at_736) _ kq) ?_
  show own_Go p.tables e below _ (T100.setTop (mkF m 739 Lz54 [(.double (4639305750517121024 : UInt64)), (.int (45 : Int32)), (.ref b55), (.ref b55)]))
  obtain ⟨cl101, Ar101, q101, sz101, nz101, hH101, hG101⟩ := V_b55
  obtain ⟨T101, h101, X101, e101, W101, st101⟩ := stD X100 hx hZ e100 Ar101 (j := (45 : Int32)) (inb_of sz101 ⟨by decide, by decide⟩) (g := (mkF m 739 Lz54 [(.double (4639305750517121024 : UInt64)), (.int (45 : Int32)), (.ref b55), (.ref b55)])) rfl rfl (hb hby at_739)
  have V_b55 : Arv Z h101 b55 k55 .double (60 : Int32) (own_lb 46) (.double (0 : UInt64)) := Arv.set Ar101 q101 sz101 nz101 hH101 hG101 rfl W101 45 rfl (Nat.le_of_ble_eq_true rfl)
  have N101 := Fr.snoc X101 N100 g_b55
  have G_b5 := G_b5.other W101 ne_b5_b55
  have ZH := Nat.le_trans ZH (Nat.le_of_eq W101.size.symm)
  have KK := KK.wr W101 (Or.inr sz_b55)
  refine own_up st101 ?_
  show own_Go p.tables e below _ (T101.setTop (mkF m 740 Lz54 [(.ref b55)]))
  refine own_up (fun _ kq => XS.dup X101.here hx rfl (hb hby at_740) rfl rfl kq) ?_
  show own_Go p.tables e below _ (T101.setTop (mkF m 741 Lz54 [(.ref b55), (.ref b55)]))
  refine own_up (fun _ kq => XS.bipush X101.here hx rfl (hb hby at_741) kq) ?_
  show own_Go p.tables e below _ (T101.setTop (mkF m 743 Lz54 [(.int (46 : Int32)), (.ref b55), (.ref b55)]))
  refine own_up (fun _ kq => X101.ldc2DoubleC hx hown (mvT hZ (hw _ (List.mem_of_getElem? (i := 94) rfl))) (g := (mkF m 743 Lz54 [(.int (46 : Int32)), (.ref b55), (.ref b55)])) rfl (hb hby at_743) _ kq) ?_
  show own_Go p.tables e below _ (T101.setTop (mkF m 746 Lz54 [(.double (4639340934889209856 : UInt64)), (.int (46 : Int32)), (.ref b55), (.ref b55)]))
  obtain ⟨cl102, Ar102, q102, sz102, nz102, hH102, hG102⟩ := V_b55
  obtain ⟨T102, h102, X102, e102, W102, st102⟩ := stD X101 hx hZ e101 Ar102 (j := (46 : Int32)) (inb_of sz102 ⟨by decide, by decide⟩) (g := (mkF m 746 Lz54 [(.double (4639340934889209856 : UInt64)), (.int (46 : Int32)), (.ref b55), (.ref b55)])) rfl rfl (hb hby at_746)
  have V_b55 : Arv Z h102 b55 k55 .double (60 : Int32) (own_lb 47) (.double (0 : UInt64)) := Arv.set Ar102 q102 sz102 nz102 hH102 hG102 rfl W102 46 rfl (Nat.le_of_ble_eq_true rfl)
  have N102 := Fr.snoc X102 N101 g_b55
  have G_b5 := G_b5.other W102 ne_b5_b55
  have ZH := Nat.le_trans ZH (Nat.le_of_eq W102.size.symm)
  have KK := KK.wr W102 (Or.inr sz_b55)
  refine own_up st102 ?_
  show own_Go p.tables e below _ (T102.setTop (mkF m 747 Lz54 [(.ref b55)]))
  refine own_up (fun _ kq => XS.dup X102.here hx rfl (hb hby at_747) rfl rfl kq) ?_
  show own_Go p.tables e below _ (T102.setTop (mkF m 748 Lz54 [(.ref b55), (.ref b55)]))
  refine own_up (fun _ kq => XS.bipush X102.here hx rfl (hb hby at_748) kq) ?_
  show own_Go p.tables e below _ (T102.setTop (mkF m 750 Lz54 [(.int (47 : Int32)), (.ref b55), (.ref b55)]))
  refine own_up (fun _ kq => X102.ldc2DoubleC hx hown (mvT hZ (hw _ (List.mem_of_getElem? (i := 95) rfl))) (g := (mkF m 750 Lz54 [(.int (47 : Int32)), (.ref b55), (.ref b55)])) rfl (hb hby at_750) _ kq) ?_
  show own_Go p.tables e below _ (T102.setTop (mkF m 753 Lz54 [(.double (4639376119261298688 : UInt64)), (.int (47 : Int32)), (.ref b55), (.ref b55)]))
  obtain ⟨cl103, Ar103, q103, sz103, nz103, hH103, hG103⟩ := V_b55
  obtain ⟨T103, h103, X103, e103, W103, st103⟩ := stD X102 hx hZ e102 Ar103 (j := (47 : Int32)) (inb_of sz103 ⟨by decide, by decide⟩) (g := (mkF m 753 Lz54 [(.double (4639376119261298688 : UInt64)), (.int (47 : Int32)), (.ref b55), (.ref b55)])) rfl rfl (hb hby at_753)
  have V_b55 : Arv Z h103 b55 k55 .double (60 : Int32) (own_lb 48) (.double (0 : UInt64)) := Arv.set Ar103 q103 sz103 nz103 hH103 hG103 rfl W103 47 rfl (Nat.le_of_ble_eq_true rfl)
  have N103 := Fr.snoc X103 N102 g_b55
  have G_b5 := G_b5.other W103 ne_b5_b55
  have ZH := Nat.le_trans ZH (Nat.le_of_eq W103.size.symm)
  have KK := KK.wr W103 (Or.inr sz_b55)
  refine own_up st103 ?_
  show own_Go p.tables e below _ (T103.setTop (mkF m 754 Lz54 [(.ref b55)]))
  refine own_up (fun _ kq => XS.dup X103.here hx rfl (hb hby at_754) rfl rfl kq) ?_
  show own_Go p.tables e below _ (T103.setTop (mkF m 755 Lz54 [(.ref b55), (.ref b55)]))
  refine own_up (fun _ kq => XS.bipush X103.here hx rfl (hb hby at_755) kq) ?_
  show own_Go p.tables e below _ (T103.setTop (mkF m 757 Lz54 [(.int (48 : Int32)), (.ref b55), (.ref b55)]))
  refine own_up (fun _ kq => X103.ldc2DoubleC hx hown (mvT hZ (hw _ (List.mem_of_getElem? (i := 96) rfl))) (g := (mkF m 757 Lz54 [(.int (48 : Int32)), (.ref b55), (.ref b55)])) rfl (hb hby at_757) _ kq) ?_
  show own_Go p.tables e below _ (T103.setTop (mkF m 760 Lz54 [(.double (4639411303633387520 : UInt64)), (.int (48 : Int32)), (.ref b55), (.ref b55)]))
  obtain ⟨cl104, Ar104, q104, sz104, nz104, hH104, hG104⟩ := V_b55
  obtain ⟨T104, h104, X104, e104, W104, st104⟩ := stD X103 hx hZ e103 Ar104 (j := (48 : Int32)) (inb_of sz104 ⟨by decide, by decide⟩) (g := (mkF m 760 Lz54 [(.double (4639411303633387520 : UInt64)), (.int (48 : Int32)), (.ref b55), (.ref b55)])) rfl rfl (hb hby at_760)
  have V_b55 : Arv Z h104 b55 k55 .double (60 : Int32) (own_lb 49) (.double (0 : UInt64)) := Arv.set Ar104 q104 sz104 nz104 hH104 hG104 rfl W104 48 rfl (Nat.le_of_ble_eq_true rfl)
  have N104 := Fr.snoc X104 N103 g_b55
  have G_b5 := G_b5.other W104 ne_b5_b55
  have ZH := Nat.le_trans ZH (Nat.le_of_eq W104.size.symm)
  have KK := KK.wr W104 (Or.inr sz_b55)
  refine own_up st104 ?_
  show own_Go p.tables e below _ (T104.setTop (mkF m 761 Lz54 [(.ref b55)]))
  refine own_up (fun _ kq => XS.dup X104.here hx rfl (hb hby at_761) rfl rfl kq) ?_
  show own_Go p.tables e below _ (T104.setTop (mkF m 762 Lz54 [(.ref b55), (.ref b55)]))
  refine own_up (fun _ kq => XS.bipush X104.here hx rfl (hb hby at_762) kq) ?_
  show own_Go p.tables e below _ (T104.setTop (mkF m 764 Lz54 [(.int (49 : Int32)), (.ref b55), (.ref b55)]))
  refine own_up (fun _ kq => X104.ldc2DoubleC hx hown (mvT hZ (hw _ (List.mem_of_getElem? (i := 97) rfl))) (g := (mkF m 764 Lz54 [(.int (49 : Int32)), (.ref b55), (.ref b55)])) rfl (hb hby at_764) _ kq) ?_
  show own_Go p.tables e below _ (T104.setTop (mkF m 767 Lz54 [(.double (4639446488005476352 : UInt64)), (.int (49 : Int32)), (.ref b55), (.ref b55)]))
  obtain ⟨cl105, Ar105, q105, sz105, nz105, hH105, hG105⟩ := V_b55
  obtain ⟨T105, h105, X105, e105, W105, st105⟩ := stD X104 hx hZ e104 Ar105 (j := (49 : Int32)) (inb_of sz105 ⟨by decide, by decide⟩) (g := (mkF m 767 Lz54 [(.double (4639446488005476352 : UInt64)), (.int (49 : Int32)), (.ref b55), (.ref b55)])) rfl rfl (hb hby at_767)
  have V_b55 : Arv Z h105 b55 k55 .double (60 : Int32) (own_lb 50) (.double (0 : UInt64)) := Arv.set Ar105 q105 sz105 nz105 hH105 hG105 rfl W105 49 rfl (Nat.le_of_ble_eq_true rfl)
  have N105 := Fr.snoc X105 N104 g_b55
  have G_b5 := G_b5.other W105 ne_b5_b55
  have ZH := Nat.le_trans ZH (Nat.le_of_eq W105.size.symm)
  have KK := KK.wr W105 (Or.inr sz_b55)
  refine own_up st105 ?_
  show own_Go p.tables e below _ (T105.setTop (mkF m 768 Lz54 [(.ref b55)]))
  refine own_up (fun _ kq => XS.dup X105.here hx rfl (hb hby at_768) rfl rfl kq) ?_
  show own_Go p.tables e below _ (T105.setTop (mkF m 769 Lz54 [(.ref b55), (.ref b55)]))
  refine own_up (fun _ kq => XS.bipush X105.here hx rfl (hb hby at_769) kq) ?_
  show own_Go p.tables e below _ (T105.setTop (mkF m 771 Lz54 [(.int (50 : Int32)), (.ref b55), (.ref b55)]))
  refine own_up (fun _ kq => X105.ldc2DoubleC hx hown (mvT hZ (hw _ (List.mem_of_getElem? (i := 98) rfl))) (g := (mkF m 771 Lz54 [(.int (50 : Int32)), (.ref b55), (.ref b55)])) rfl (hb hby at_771) _ kq) ?_
  show own_Go p.tables e below _ (T105.setTop (mkF m 774 Lz54 [(.double (4639481672377565184 : UInt64)), (.int (50 : Int32)), (.ref b55), (.ref b55)]))
  obtain ⟨cl106, Ar106, q106, sz106, nz106, hH106, hG106⟩ := V_b55
  obtain ⟨T106, h106, X106, e106, W106, st106⟩ := stD X105 hx hZ e105 Ar106 (j := (50 : Int32)) (inb_of sz106 ⟨by decide, by decide⟩) (g := (mkF m 774 Lz54 [(.double (4639481672377565184 : UInt64)), (.int (50 : Int32)), (.ref b55), (.ref b55)])) rfl rfl (hb hby at_774)
  have V_b55 : Arv Z h106 b55 k55 .double (60 : Int32) (own_lb 51) (.double (0 : UInt64)) := Arv.set Ar106 q106 sz106 nz106 hH106 hG106 rfl W106 50 rfl (Nat.le_of_ble_eq_true rfl)
  have N106 := Fr.snoc X106 N105 g_b55
  have G_b5 := G_b5.other W106 ne_b5_b55
  have ZH := Nat.le_trans ZH (Nat.le_of_eq W106.size.symm)
  have KK := KK.wr W106 (Or.inr sz_b55)
  refine own_up st106 ?_
  show own_Go p.tables e below _ (T106.setTop (mkF m 775 Lz54 [(.ref b55)]))
  refine own_up (fun _ kq => XS.dup X106.here hx rfl (hb hby at_775) rfl rfl kq) ?_
  show own_Go p.tables e below _ (T106.setTop (mkF m 776 Lz54 [(.ref b55), (.ref b55)]))
  refine own_up (fun _ kq => XS.bipush X106.here hx rfl (hb hby at_776) kq) ?_
  show own_Go p.tables e below _ (T106.setTop (mkF m 778 Lz54 [(.int (51 : Int32)), (.ref b55), (.ref b55)]))
  refine own_up (fun _ kq => X106.ldc2DoubleC hx hown (mvT hZ (hw _ (List.mem_of_getElem? (i := 99) rfl))) (g := (mkF m 778 Lz54 [(.int (51 : Int32)), (.ref b55), (.ref b55)])) rfl (hb hby at_778) _ kq) ?_
  show own_Go p.tables e below _ (T106.setTop (mkF m 781 Lz54 [(.double (4639516856749654016 : UInt64)), (.int (51 : Int32)), (.ref b55), (.ref b55)]))
  obtain ⟨cl107, Ar107, q107, sz107, nz107, hH107, hG107⟩ := V_b55
  obtain ⟨T107, h107, X107, e107, W107, st107⟩ := stD X106 hx hZ e106 Ar107 (j := (51 : Int32)) (inb_of sz107 ⟨by decide, by decide⟩) (g := (mkF m 781 Lz54 [(.double (4639516856749654016 : UInt64)), (.int (51 : Int32)), (.ref b55), (.ref b55)])) rfl rfl (hb hby at_781)
  have V_b55 : Arv Z h107 b55 k55 .double (60 : Int32) (own_lb 52) (.double (0 : UInt64)) := Arv.set Ar107 q107 sz107 nz107 hH107 hG107 rfl W107 51 rfl (Nat.le_of_ble_eq_true rfl)
  have N107 := Fr.snoc X107 N106 g_b55
  have G_b5 := G_b5.other W107 ne_b5_b55
  have ZH := Nat.le_trans ZH (Nat.le_of_eq W107.size.symm)
  have KK := KK.wr W107 (Or.inr sz_b55)
  refine own_up st107 ?_
  show own_Go p.tables e below _ (T107.setTop (mkF m 782 Lz54 [(.ref b55)]))
  refine own_up (fun _ kq => XS.dup X107.here hx rfl (hb hby at_782) rfl rfl kq) ?_
  show own_Go p.tables e below _ (T107.setTop (mkF m 783 Lz54 [(.ref b55), (.ref b55)]))
  refine own_up (fun _ kq => XS.bipush X107.here hx rfl (hb hby at_783) kq) ?_
  show own_Go p.tables e below _ (T107.setTop (mkF m 785 Lz54 [(.int (52 : Int32)), (.ref b55), (.ref b55)]))
  refine own_up (fun _ kq => X107.ldc2DoubleC hx hown (mvT hZ (hw _ (List.mem_of_getElem? (i := 100) rfl))) (g := (mkF m 785 Lz54 [(.int (52 : Int32)), (.ref b55), (.ref b55)])) rfl (hb hby at_785) _ kq) ?_
  show own_Go p.tables e below _ (T107.setTop (mkF m 788 Lz54 [(.double (4639552041121742848 : UInt64)), (.int (52 : Int32)), (.ref b55), (.ref b55)]))
  obtain ⟨cl108, Ar108, q108, sz108, nz108, hH108, hG108⟩ := V_b55
  obtain ⟨T108, h108, X108, e108, W108, st108⟩ := stD X107 hx hZ e107 Ar108 (j := (52 : Int32)) (inb_of sz108 ⟨by decide, by decide⟩) (g := (mkF m 788 Lz54 [(.double (4639552041121742848 : UInt64)), (.int (52 : Int32)), (.ref b55), (.ref b55)])) rfl rfl (hb hby at_788)
  have V_b55 : Arv Z h108 b55 k55 .double (60 : Int32) (own_lb 53) (.double (0 : UInt64)) := Arv.set Ar108 q108 sz108 nz108 hH108 hG108 rfl W108 52 rfl (Nat.le_of_ble_eq_true rfl)
  have N108 := Fr.snoc X108 N107 g_b55
  have G_b5 := G_b5.other W108 ne_b5_b55
  have ZH := Nat.le_trans ZH (Nat.le_of_eq W108.size.symm)
  have KK := KK.wr W108 (Or.inr sz_b55)
  refine own_up st108 ?_
  show own_Go p.tables e below _ (T108.setTop (mkF m 789 Lz54 [(.ref b55)]))
  refine own_up (fun _ kq => XS.dup X108.here hx rfl (hb hby at_789) rfl rfl kq) ?_
  show own_Go p.tables e below _ (T108.setTop (mkF m 790 Lz54 [(.ref b55), (.ref b55)]))
  refine own_up (fun _ kq => XS.bipush X108.here hx rfl (hb hby at_790) kq) ?_
  show own_Go p.tables e below _ (T108.setTop (mkF m 792 Lz54 [(.int (53 : Int32)), (.ref b55), (.ref b55)]))
  refine own_up (fun _ kq => X108.ldc2DoubleC hx hown (mvT hZ (hw _ (List.mem_of_getElem? (i := 101) rfl))) (g := (mkF m 792 Lz54 [(.int (53 : Int32)), (.ref b55), (.ref b55)])) rfl (hb hby at_792) _ kq) ?_
  show own_Go p.tables e below _ (T108.setTop (mkF m 795 Lz54 [(.double (4639587225493831680 : UInt64)), (.int (53 : Int32)), (.ref b55), (.ref b55)]))
  obtain ⟨cl109, Ar109, q109, sz109, nz109, hH109, hG109⟩ := V_b55
  obtain ⟨T109, h109, X109, e109, W109, st109⟩ := stD X108 hx hZ e108 Ar109 (j := (53 : Int32)) (inb_of sz109 ⟨by decide, by decide⟩) (g := (mkF m 795 Lz54 [(.double (4639587225493831680 : UInt64)), (.int (53 : Int32)), (.ref b55), (.ref b55)])) rfl rfl (hb hby at_795)
  have V_b55 : Arv Z h109 b55 k55 .double (60 : Int32) (own_lb 54) (.double (0 : UInt64)) := Arv.set Ar109 q109 sz109 nz109 hH109 hG109 rfl W109 53 rfl (Nat.le_of_ble_eq_true rfl)
  have N109 := Fr.snoc X109 N108 g_b55
  have G_b5 := G_b5.other W109 ne_b5_b55
  have ZH := Nat.le_trans ZH (Nat.le_of_eq W109.size.symm)
  have KK := KK.wr W109 (Or.inr sz_b55)
  refine own_up st109 ?_
  show own_Go p.tables e below _ (T109.setTop (mkF m 796 Lz54 [(.ref b55)]))
  refine own_up (fun _ kq => XS.dup X109.here hx rfl (hb hby at_796) rfl rfl kq) ?_
  show own_Go p.tables e below _ (T109.setTop (mkF m 797 Lz54 [(.ref b55), (.ref b55)]))
  refine own_up (fun _ kq => XS.bipush X109.here hx rfl (hb hby at_797) kq) ?_
  show own_Go p.tables e below _ (T109.setTop (mkF m 799 Lz54 [(.int (54 : Int32)), (.ref b55), (.ref b55)]))
  refine own_up (fun _ kq => X109.ldc2DoubleC hx hown (mvT hZ (hw _ (List.mem_of_getElem? (i := 102) rfl))) (g := (mkF m 799 Lz54 [(.int (54 : Int32)), (.ref b55), (.ref b55)])) rfl (hb hby at_799) _ kq) ?_
  show own_Go p.tables e below _ (T109.setTop (mkF m 802 Lz54 [(.double (4639622409865920512 : UInt64)), (.int (54 : Int32)), (.ref b55), (.ref b55)]))
  obtain ⟨cl110, Ar110, q110, sz110, nz110, hH110, hG110⟩ := V_b55
  obtain ⟨T110, h110, X110, e110, W110, st110⟩ := stD X109 hx hZ e109 Ar110 (j := (54 : Int32)) (inb_of sz110 ⟨by decide, by decide⟩) (g := (mkF m 802 Lz54 [(.double (4639622409865920512 : UInt64)), (.int (54 : Int32)), (.ref b55), (.ref b55)])) rfl rfl (hb hby at_802)
  have V_b55 : Arv Z h110 b55 k55 .double (60 : Int32) (own_lb 55) (.double (0 : UInt64)) := Arv.set Ar110 q110 sz110 nz110 hH110 hG110 rfl W110 54 rfl (Nat.le_of_ble_eq_true rfl)
  have N110 := Fr.snoc X110 N109 g_b55
  have G_b5 := G_b5.other W110 ne_b5_b55
  have ZH := Nat.le_trans ZH (Nat.le_of_eq W110.size.symm)
  have KK := KK.wr W110 (Or.inr sz_b55)
  refine own_up st110 ?_
  show own_Go p.tables e below _ (T110.setTop (mkF m 803 Lz54 [(.ref b55)]))
  refine own_up (fun _ kq => XS.dup X110.here hx rfl (hb hby at_803) rfl rfl kq) ?_
  show own_Go p.tables e below _ (T110.setTop (mkF m 804 Lz54 [(.ref b55), (.ref b55)]))
  refine own_up (fun _ kq => XS.bipush X110.here hx rfl (hb hby at_804) kq) ?_
  show own_Go p.tables e below _ (T110.setTop (mkF m 806 Lz54 [(.int (55 : Int32)), (.ref b55), (.ref b55)]))
  refine own_up (fun _ kq => X110.ldc2DoubleC hx hown (mvT hZ (hw _ (List.mem_of_getElem? (i := 103) rfl))) (g := (mkF m 806 Lz54 [(.int (55 : Int32)), (.ref b55), (.ref b55)])) rfl (hb hby at_806) _ kq) ?_
  show own_Go p.tables e below _ (T110.setTop (mkF m 809 Lz54 [(.double (4639657594238009344 : UInt64)), (.int (55 : Int32)), (.ref b55), (.ref b55)]))
  obtain ⟨cl111, Ar111, q111, sz111, nz111, hH111, hG111⟩ := V_b55
  obtain ⟨T111, h111, X111, e111, W111, st111⟩ := stD X110 hx hZ e110 Ar111 (j := (55 : Int32)) (inb_of sz111 ⟨by decide, by decide⟩) (g := (mkF m 809 Lz54 [(.double (4639657594238009344 : UInt64)), (.int (55 : Int32)), (.ref b55), (.ref b55)])) rfl rfl (hb hby at_809)
  have V_b55 : Arv Z h111 b55 k55 .double (60 : Int32) (own_lb 56) (.double (0 : UInt64)) := Arv.set Ar111 q111 sz111 nz111 hH111 hG111 rfl W111 55 rfl (Nat.le_of_ble_eq_true rfl)
  have N111 := Fr.snoc X111 N110 g_b55
  have G_b5 := G_b5.other W111 ne_b5_b55
  have ZH := Nat.le_trans ZH (Nat.le_of_eq W111.size.symm)
  have KK := KK.wr W111 (Or.inr sz_b55)
  refine own_up st111 ?_
  show own_Go p.tables e below _ (T111.setTop (mkF m 810 Lz54 [(.ref b55)]))
  refine own_up (fun _ kq => XS.dup X111.here hx rfl (hb hby at_810) rfl rfl kq) ?_
  show own_Go p.tables e below _ (T111.setTop (mkF m 811 Lz54 [(.ref b55), (.ref b55)]))
  refine own_up (fun _ kq => XS.bipush X111.here hx rfl (hb hby at_811) kq) ?_
  show own_Go p.tables e below _ (T111.setTop (mkF m 813 Lz54 [(.int (56 : Int32)), (.ref b55), (.ref b55)]))
  refine own_up (fun _ kq => X111.ldc2DoubleC hx hown (mvT hZ (hw _ (List.mem_of_getElem? (i := 104) rfl))) (g := (mkF m 813 Lz54 [(.int (56 : Int32)), (.ref b55), (.ref b55)])) rfl (hb hby at_813) _ kq) ?_
  show own_Go p.tables e below _ (T111.setTop (mkF m 816 Lz54 [(.double (4639692778610098176 : UInt64)), (.int (56 : Int32)), (.ref b55), (.ref b55)]))
  obtain ⟨cl112, Ar112, q112, sz112, nz112, hH112, hG112⟩ := V_b55
  obtain ⟨T112, h112, X112, e112, W112, st112⟩ := stD X111 hx hZ e111 Ar112 (j := (56 : Int32)) (inb_of sz112 ⟨by decide, by decide⟩) (g := (mkF m 816 Lz54 [(.double (4639692778610098176 : UInt64)), (.int (56 : Int32)), (.ref b55), (.ref b55)])) rfl rfl (hb hby at_816)
  have V_b55 : Arv Z h112 b55 k55 .double (60 : Int32) (own_lb 57) (.double (0 : UInt64)) := Arv.set Ar112 q112 sz112 nz112 hH112 hG112 rfl W112 56 rfl (Nat.le_of_ble_eq_true rfl)
  have N112 := Fr.snoc X112 N111 g_b55
  have G_b5 := G_b5.other W112 ne_b5_b55
  have ZH := Nat.le_trans ZH (Nat.le_of_eq W112.size.symm)
  have KK := KK.wr W112 (Or.inr sz_b55)
  refine own_up st112 ?_
  show own_Go p.tables e below _ (T112.setTop (mkF m 817 Lz54 [(.ref b55)]))
  refine own_up (fun _ kq => XS.dup X112.here hx rfl (hb hby at_817) rfl rfl kq) ?_
  show own_Go p.tables e below _ (T112.setTop (mkF m 818 Lz54 [(.ref b55), (.ref b55)]))
  refine own_up (fun _ kq => XS.bipush X112.here hx rfl (hb hby at_818) kq) ?_
  show own_Go p.tables e below _ (T112.setTop (mkF m 820 Lz54 [(.int (57 : Int32)), (.ref b55), (.ref b55)]))
  refine own_up (fun _ kq => X112.ldc2DoubleC hx hown (mvT hZ (hw _ (List.mem_of_getElem? (i := 105) rfl))) (g := (mkF m 820 Lz54 [(.int (57 : Int32)), (.ref b55), (.ref b55)])) rfl (hb hby at_820) _ kq) ?_
  show own_Go p.tables e below _ (T112.setTop (mkF m 823 Lz54 [(.double (4639727962982187008 : UInt64)), (.int (57 : Int32)), (.ref b55), (.ref b55)]))
  obtain ⟨cl113, Ar113, q113, sz113, nz113, hH113, hG113⟩ := V_b55
  obtain ⟨T113, h113, X113, e113, W113, st113⟩ := stD X112 hx hZ e112 Ar113 (j := (57 : Int32)) (inb_of sz113 ⟨by decide, by decide⟩) (g := (mkF m 823 Lz54 [(.double (4639727962982187008 : UInt64)), (.int (57 : Int32)), (.ref b55), (.ref b55)])) rfl rfl (hb hby at_823)
  have V_b55 : Arv Z h113 b55 k55 .double (60 : Int32) (own_lb 58) (.double (0 : UInt64)) := Arv.set Ar113 q113 sz113 nz113 hH113 hG113 rfl W113 57 rfl (Nat.le_of_ble_eq_true rfl)
  have N113 := Fr.snoc X113 N112 g_b55
  have G_b5 := G_b5.other W113 ne_b5_b55
  have ZH := Nat.le_trans ZH (Nat.le_of_eq W113.size.symm)
  have KK := KK.wr W113 (Or.inr sz_b55)
  refine own_up st113 ?_
  show own_Go p.tables e below _ (T113.setTop (mkF m 824 Lz54 [(.ref b55)]))
  refine own_up (fun _ kq => XS.dup X113.here hx rfl (hb hby at_824) rfl rfl kq) ?_
  show own_Go p.tables e below _ (T113.setTop (mkF m 825 Lz54 [(.ref b55), (.ref b55)]))
  refine own_up (fun _ kq => XS.bipush X113.here hx rfl (hb hby at_825) kq) ?_
  show own_Go p.tables e below _ (T113.setTop (mkF m 827 Lz54 [(.int (58 : Int32)), (.ref b55), (.ref b55)]))
  refine own_up (fun _ kq => X113.ldc2DoubleC hx hown (mvT hZ (hw _ (List.mem_of_getElem? (i := 106) rfl))) (g := (mkF m 827 Lz54 [(.int (58 : Int32)), (.ref b55), (.ref b55)])) rfl (hb hby at_827) _ kq) ?_
  show own_Go p.tables e below _ (T113.setTop (mkF m 830 Lz54 [(.double (4639763147354275840 : UInt64)), (.int (58 : Int32)), (.ref b55), (.ref b55)]))
  obtain ⟨cl114, Ar114, q114, sz114, nz114, hH114, hG114⟩ := V_b55
  obtain ⟨T114, h114, X114, e114, W114, st114⟩ := stD X113 hx hZ e113 Ar114 (j := (58 : Int32)) (inb_of sz114 ⟨by decide, by decide⟩) (g := (mkF m 830 Lz54 [(.double (4639763147354275840 : UInt64)), (.int (58 : Int32)), (.ref b55), (.ref b55)])) rfl rfl (hb hby at_830)
  have V_b55 : Arv Z h114 b55 k55 .double (60 : Int32) (own_lb 59) (.double (0 : UInt64)) := Arv.set Ar114 q114 sz114 nz114 hH114 hG114 rfl W114 58 rfl (Nat.le_of_ble_eq_true rfl)
  have N114 := Fr.snoc X114 N113 g_b55
  have G_b5 := G_b5.other W114 ne_b5_b55
  have ZH := Nat.le_trans ZH (Nat.le_of_eq W114.size.symm)
  have KK := KK.wr W114 (Or.inr sz_b55)
  refine own_up st114 ?_
  show own_Go p.tables e below _ (T114.setTop (mkF m 831 Lz54 [(.ref b55)]))
  refine own_up (fun _ kq => XS.dup X114.here hx rfl (hb hby at_831) rfl rfl kq) ?_
  show own_Go p.tables e below _ (T114.setTop (mkF m 832 Lz54 [(.ref b55), (.ref b55)]))
  refine own_up (fun _ kq => XS.bipush X114.here hx rfl (hb hby at_832) kq) ?_
  show own_Go p.tables e below _ (T114.setTop (mkF m 834 Lz54 [(.int (59 : Int32)), (.ref b55), (.ref b55)]))
  refine own_up (fun _ kq => X114.ldc2DoubleC hx hown (mvT hZ (hw _ (List.mem_of_getElem? (i := 107) rfl))) (g := (mkF m 834 Lz54 [(.int (59 : Int32)), (.ref b55), (.ref b55)])) rfl (hb hby at_834) _ kq) ?_
  show own_Go p.tables e below _ (T114.setTop (mkF m 837 Lz54 [(.double (4639798331726364672 : UInt64)), (.int (59 : Int32)), (.ref b55), (.ref b55)]))
  obtain ⟨cl115, Ar115, q115, sz115, nz115, hH115, hG115⟩ := V_b55
  obtain ⟨T115, h115, X115, e115, W115, st115⟩ := stD X114 hx hZ e114 Ar115 (j := (59 : Int32)) (inb_of sz115 ⟨by decide, by decide⟩) (g := (mkF m 837 Lz54 [(.double (4639798331726364672 : UInt64)), (.int (59 : Int32)), (.ref b55), (.ref b55)])) rfl rfl (hb hby at_837)
  have V_b55 : Arv Z h115 b55 k55 .double (60 : Int32) (own_lb 60) (.double (0 : UInt64)) := Arv.set Ar115 q115 sz115 nz115 hH115 hG115 rfl W115 59 rfl (Nat.le_of_ble_eq_true rfl)
  have N115 := Fr.snoc X115 N114 g_b55
  have G_b5 := G_b5.other W115 ne_b5_b55
  have ZH := Nat.le_trans ZH (Nat.le_of_eq W115.size.symm)
  have KK := KK.wr W115 (Or.inr sz_b55)
  refine own_up st115 ?_
  have G_b55 : own_Arf Z h115 b55 .double (60 : Int32) (fun i => .double (own_L own_l60 i)) := (own_Arf.ofArv V_b55).congr (fun i _ => by rw [own_lb60]; exact own_Lget _ i)
  show own_Go p.tables e below _ (T115.setTop (mkF m 838 Lz54 [(.ref b55)]))
  obtain ⟨LQ, X115, N115⟩ := own_forget X115 N115
  subst hLz54
  show own_Go p.tables e below _ (T115.setTop (mkF m 838 #[.val (.int p0), .val (.int p1), .val (.int p2), .val (.int p3), .val (.int p4), .val (.int p5), .val (.int cn), .val (.int ra), .val (.int v19), .val (.int v31), .val (.int ta), .val (.int bs), .val (.int bq), .val (.int tb), .val (.ref b5), .unset, .unset, .unset, .unset, .unset, .unset, .unset] [(.ref b55)]))
  refine own_up (fun _ kq => XS.astore X115.here hx rfl (hb hby at_838) rfl rfl (l' := #[.val (.int p0), .val (.int p1), .val (.int p2), .val (.int p3), .val (.int p4), .val (.int p5), .val (.int cn), .val (.int ra), .val (.int v19), .val (.int v31), .val (.int ta), .val (.int bs), .val (.int bq), .val (.int tb), .val (.ref b5), .val (.ref b55), .unset, .unset, .unset, .unset, .unset, .unset]) rfl kq) ?_
  show own_Go p.tables e below _ (T115.setTop (mkF m 840 #[.val (.int p0), .val (.int p1), .val (.int p2), .val (.int p3), .val (.int p4), .val (.int p5), .val (.int cn), .val (.int ra), .val (.int v19), .val (.int v31), .val (.int ta), .val (.int bs), .val (.int bq), .val (.int tb), .val (.ref b5), .val (.ref b55), .unset, .unset, .unset, .unset, .unset, .unset] []))
  refine own_up (fun _ kq => XS.bipush X115.here hx rfl (hb hby at_840) kq) ?_
  show own_Go p.tables e below _ (T115.setTop (mkF m 842 #[.val (.int p0), .val (.int p1), .val (.int p2), .val (.int p3), .val (.int p4), .val (.int p5), .val (.int cn), .val (.int ra), .val (.int v19), .val (.int v31), .val (.int ta), .val (.int bs), .val (.int bq), .val (.int tb), .val (.ref b5), .val (.ref b55), .unset, .unset, .unset, .unset, .unset, .unset] [(.int (48 : Int32))]))
  obtain ⟨T116, h116, k116, X116, e116, E116, A116, st116⟩ := newP X115 hx hZ (hw _ (List.mem_of_getElem? (i := 0) rfl)) e115 (g := (mkF m 842 #[.val (.int p0), .val (.int p1), .val (.int p2), .val (.int p3), .val (.int p4), .val (.int p5), .val (.int cn), .val (.int ra), .val (.int v19), .val (.int v31), .val (.int ta), .val (.int bs), .val (.int bq), .val (.int tb), .val (.ref b5), .val (.ref b55), .unset, .unset, .unset, .unset, .unset, .unset] [(.int (48 : Int32))])) rfl (hb hby at_842) rfl (by decide) (cap := 48) (by decide) (by decide) (by decide) (by decide)
  obtain ⟨b116, gz116⟩ : ∃ z, z = h115.size := ⟨_, rfl⟩
  rw [← gz116] at A116 st116
  have ne_b5_b116 : b5 ≠ b116 := Nat.ne_of_lt (Nat.lt_of_lt_of_le G_b5.lt (Nat.le_of_eq gz116.symm))
  have ne_b55_b116 : b55 ≠ b116 := Nat.ne_of_lt (Nat.lt_of_lt_of_le G_b55.lt (Nat.le_of_eq gz116.symm))
  have g_b116 : n0 ≤ b116 := Nat.le_trans ZH (Nat.le_of_eq gz116.symm)
  have sz_b116 : h0.size ≤ b116 := Nat.le_trans KK.1 (Nat.le_of_eq gz116.symm)
  have G_b5 := G_b5.ext E116
  have G_b55 := G_b55.ext E116
  have ZH := Nat.le_trans ZH E116.1
  have KK := KK.ext E116
  have G_b116 : own_Arf Z h116 b116 .double (48 : Int32) (fun i => .double ((fun _ => 0 : Nat → UInt64) i)) := own_Arf.new A116 (by decide)
  refine own_up st116 ?_
  show own_Go p.tables e below _ (T116.setTop (mkF m 844 #[.val (.int p0), .val (.int p1), .val (.int p2), .val (.int p3), .val (.int p4), .val (.int p5), .val (.int cn), .val (.int ra), .val (.int v19), .val (.int v31), .val (.int ta), .val (.int bs), .val (.int bq), .val (.int tb), .val (.ref b5), .val (.ref b55), .unset, .unset, .unset, .unset, .unset, .unset] [(.ref b116)]))
  refine own_up (fun _ kq => XS.astore X116.here hx rfl (hb hby at_844) rfl rfl (l' := #[.val (.int p0), .val (.int p1), .val (.int p2), .val (.int p3), .val (.int p4), .val (.int p5), .val (.int cn), .val (.int ra), .val (.int v19), .val (.int v31), .val (.int ta), .val (.int bs), .val (.int bq), .val (.int tb), .val (.ref b5), .val (.ref b55), .val (.ref b116), .unset, .unset, .unset, .unset, .unset]) rfl kq) ?_
  show own_Go p.tables e below _ (T116.setTop (mkF m 846 #[.val (.int p0), .val (.int p1), .val (.int p2), .val (.int p3), .val (.int p4), .val (.int p5), .val (.int cn), .val (.int ra), .val (.int v19), .val (.int v31), .val (.int ta), .val (.int bs), .val (.int bq), .val (.int tb), .val (.ref b5), .val (.ref b55), .val (.ref b116), .unset, .unset, .unset, .unset, .unset] []))
  obtain ⟨T117, h117, X117, e117, E117, A117, D117, -, st117⟩ := newO X116 hx hZ hown (hw _ (List.mem_of_getElem? (i := 108) rfl)) (hw _ (List.mem_of_getElem? (i := 109) rfl)) (hw _ (List.mem_of_getElem? (i := 110) rfl)) e116 (g := (mkF m 846 #[.val (.int p0), .val (.int p1), .val (.int p2), .val (.int p3), .val (.int p4), .val (.int p5), .val (.int cn), .val (.int ra), .val (.int v19), .val (.int v31), .val (.int ta), .val (.int bs), .val (.int bq), .val (.int tb), .val (.ref b5), .val (.ref b55), .val (.ref b116), .unset, .unset, .unset, .unset, .unset] [])) rfl (hb hby at_846) (by decide) (by decide)
  obtain ⟨b117, gz117⟩ : ∃ z, z = h116.size := ⟨_, rfl⟩
  rw [← gz117] at A117 D117 st117
  have ne_b5_b117 : b5 ≠ b117 := Nat.ne_of_lt (Nat.lt_of_lt_of_le G_b5.lt (Nat.le_of_eq gz117.symm))
  have ne_b55_b117 : b55 ≠ b117 := Nat.ne_of_lt (Nat.lt_of_lt_of_le G_b55.lt (Nat.le_of_eq gz117.symm))
  have ne_b116_b117 : b116 ≠ b117 := Nat.ne_of_lt (Nat.lt_of_lt_of_le G_b116.lt (Nat.le_of_eq gz117.symm))
  have g_b117 : n0 ≤ b117 := Nat.le_trans ZH (Nat.le_of_eq gz117.symm)
  have sz_b117 : h0.size ≤ b117 := Nat.le_trans KK.1 (Nat.le_of_eq gz117.symm)
  have G_b5 := G_b5.ext E117
  have G_b55 := G_b55.ext E117
  have G_b116 := G_b116.ext E117
  have ZH := Nat.le_trans ZH E117.1
  have KK := KK.ext E117
  have E_b117 := A117
  have F_alpha_b117 : Fld Z h117 b117 "com/example/indexica/indexica/ScaledSum" "alpha" "D" (.double (0 : UInt64)) := D117 (Or.inr (hw _ (List.mem_of_getElem? (i := 123) rfl))) (ty := .double) (by decide)
  have F_beta_b117 : Fld Z h117 b117 "com/example/indexica/indexica/ScaledSum" "beta" "D" (.double (0 : UInt64)) := D117 (Or.inr (hw _ (List.mem_of_getElem? (i := 125) rfl))) (ty := .double) (by decide)
  refine own_up st117 ?_
  show own_Go p.tables e below _ (T117.setTop (mkF m 849 #[.val (.int p0), .val (.int p1), .val (.int p2), .val (.int p3), .val (.int p4), .val (.int p5), .val (.int cn), .val (.int ra), .val (.int v19), .val (.int v31), .val (.int ta), .val (.int bs), .val (.int bq), .val (.int tb), .val (.ref b5), .val (.ref b55), .val (.ref b116), .unset, .unset, .unset, .unset, .unset] [(.ref b117)]))
  refine own_up (fun _ kq => XS.dup X117.here hx rfl (hb hby at_849) rfl rfl kq) ?_
  show own_Go p.tables e below _ (T117.setTop (mkF m 850 #[.val (.int p0), .val (.int p1), .val (.int p2), .val (.int p3), .val (.int p4), .val (.int p5), .val (.int cn), .val (.int ra), .val (.int v19), .val (.int v31), .val (.int ta), .val (.int bs), .val (.int bq), .val (.int tb), .val (.ref b5), .val (.ref b55), .val (.ref b116), .unset, .unset, .unset, .unset, .unset] [(.ref b117), (.ref b117)]))
  refine own_up (fun _ kq => XS.iloadN X117.here hx rfl (hb hby at_850) rfl kq) ?_
  show own_Go p.tables e below _ (T117.setTop (mkF m 851 #[.val (.int p0), .val (.int p1), .val (.int p2), .val (.int p3), .val (.int p4), .val (.int p5), .val (.int cn), .val (.int ra), .val (.int v19), .val (.int v31), .val (.int ta), .val (.int bs), .val (.int bq), .val (.int tb), .val (.ref b5), .val (.ref b55), .val (.ref b116), .unset, .unset, .unset, .unset, .unset] [(.int p0), (.ref b117), (.ref b117)]))
  refine own_up (fun _ kq => XS.i2dS X117.here hx rfl (v := (FP.i2d p0)) (hb hby at_851) rfl rfl kq) ?_
  show own_Go p.tables e below _ (T117.setTop (mkF m 852 #[.val (.int p0), .val (.int p1), .val (.int p2), .val (.int p3), .val (.int p4), .val (.int p5), .val (.int cn), .val (.int ra), .val (.int v19), .val (.int v31), .val (.int ta), .val (.int bs), .val (.int bq), .val (.int tb), .val (.ref b5), .val (.ref b55), .val (.ref b116), .unset, .unset, .unset, .unset, .unset] [(.double (FP.i2d p0)), (.ref b117), (.ref b117)]))
  refine own_up (fun _ kq => XS.iloadN X117.here hx rfl (hb hby at_852) rfl kq) ?_
  show own_Go p.tables e below _ (T117.setTop (mkF m 853 #[.val (.int p0), .val (.int p1), .val (.int p2), .val (.int p3), .val (.int p4), .val (.int p5), .val (.int cn), .val (.int ra), .val (.int v19), .val (.int v31), .val (.int ta), .val (.int bs), .val (.int bq), .val (.int tb), .val (.ref b5), .val (.ref b55), .val (.ref b116), .unset, .unset, .unset, .unset, .unset] [(.int p1), (.double (FP.i2d p0)), (.ref b117), (.ref b117)]))
  refine own_up (fun _ kq => XS.i2dS X117.here hx rfl (v := (FP.i2d p1)) (hb hby at_853) rfl rfl kq) ?_
  show own_Go p.tables e below _ (T117.setTop (mkF m 854 #[.val (.int p0), .val (.int p1), .val (.int p2), .val (.int p3), .val (.int p4), .val (.int p5), .val (.int cn), .val (.int ra), .val (.int v19), .val (.int v31), .val (.int ta), .val (.int bs), .val (.int bq), .val (.int tb), .val (.ref b5), .val (.ref b55), .val (.ref b116), .unset, .unset, .unset, .unset, .unset] [(.double (FP.i2d p1)), (.double (FP.i2d p0)), (.ref b117), (.ref b117)]))
  obtain ⟨_, _, ⟨T118, L118, k118, n118⟩, -, X118, ⟨Lc118, hQ118, l118, y118, z118⟩, st118⟩ := X117.specialBack hx (y := (⟨"com/example/indexica/indexica/ScaledSum", "<init>", "(DD)V"⟩ : MethodName)) rfl hown (mvT hZ (hw _ (List.mem_of_getElem? (i := 111) rfl))) (mvT hZ (hw _ (List.mem_of_getElem? (i := 112) rfl))) (mvT hZ (hw _ (List.mem_of_getElem? (i := 113) rfl))) (by decide) (backOf (W := 1) (rmC l Z a0 hw [] b117 (FP.i2d p0) (FP.i2d p1) h117 n0 ZH E_b117 F_alpha_b117 F_beta_b117 g_b117) hZ (hw _ (List.mem_of_getElem? (i := 113) rfl)) (hw _ (List.mem_of_getElem? (i := 110) rfl)) (by decide) (by decide)) (g := (mkF m 854 #[.val (.int p0), .val (.int p1), .val (.int p2), .val (.int p3), .val (.int p4), .val (.int p5), .val (.int cn), .val (.int ra), .val (.int v19), .val (.int v31), .val (.int ta), .val (.int bs), .val (.int bq), .val (.int tb), .val (.ref b5), .val (.ref b55), .val (.ref b116), .unset, .unset, .unset, .unset, .unset] [(.double (FP.i2d p1)), (.double (FP.i2d p0)), (.ref b117), (.ref b117)])) rfl (by rw [hml]; rfl) (Steps.refl _) (a := b117) (argsL := [(.double (FP.i2d p0)), (.double (FP.i2d p1))]) (rest := [(.ref b117)]) (lenOf pd_2 rfl) rfl (by show 2 * 0 + _ ≤ _; exact Nat.le_of_eq rfl) (hb hby at_854) (fun _ _ => ⟨rfl, e117, (by decide : 4 + 0 ≤ _), (by decide : 158 + 0 ≤ _)⟩)
  dsimp only [Pt.U, Pt.locs, Pt.cells, Pt.slots] at X118 l118 y118 z118 st118 hQ118
  subst l118 y118 z118
  obtain ⟨rfl, Nq118, K118, Fa', Fb'⟩ := hQ118
  have N118 := Fr.app N115 Nq118
  have G_b5 := G_b5.keep K118 (ninS ne_b5_b117 nin0)
  have G_b55 := G_b55.keep K118 (ninS ne_b55_b117 nin0)
  have G_b116 := G_b116.keep K118 (ninS ne_b116_b117 nin0)
  have E_b117 := E_b117.keep K118
  have ZH := Nat.le_trans ZH K118.1
  have KK := KK.trans K118 (allS (Or.inr sz_b117) all0)
  have F_alpha_b117 := Fa'
  have F_beta_b117 := Fb'
  refine own_up (fun _ kq => st118.trans kq) ?_
  show own_Go p.tables e below _ (T118.setTop (mkF m 857 #[.val (.int p0), .val (.int p1), .val (.int p2), .val (.int p3), .val (.int p4), .val (.int p5), .val (.int cn), .val (.int ra), .val (.int v19), .val (.int v31), .val (.int ta), .val (.int bs), .val (.int bq), .val (.int tb), .val (.ref b5), .val (.ref b55), .val (.ref b116), .unset, .unset, .unset, .unset, .unset] [(.ref b117)]))
  refine own_up (fun _ kq => XS.astore X118.here hx rfl (hb hby at_857) rfl rfl (l' := #[.val (.int p0), .val (.int p1), .val (.int p2), .val (.int p3), .val (.int p4), .val (.int p5), .val (.int cn), .val (.int ra), .val (.int v19), .val (.int v31), .val (.int ta), .val (.int bs), .val (.int bq), .val (.int tb), .val (.ref b5), .val (.ref b55), .val (.ref b116), .val (.ref b117), .unset, .unset, .unset, .unset]) rfl kq) ?_
  show own_Go p.tables e below _ (T118.setTop (mkF m 859 #[.val (.int p0), .val (.int p1), .val (.int p2), .val (.int p3), .val (.int p4), .val (.int p5), .val (.int cn), .val (.int ra), .val (.int v19), .val (.int v31), .val (.int ta), .val (.int bs), .val (.int bq), .val (.int tb), .val (.ref b5), .val (.ref b55), .val (.ref b116), .val (.ref b117), .unset, .unset, .unset, .unset] []))
  refine own_up (fun _ kq => XS.aload X118.here hx rfl (hb hby at_859) rfl rfl kq) ?_
  show own_Go p.tables e below _ (T118.setTop (mkF m 861 #[.val (.int p0), .val (.int p1), .val (.int p2), .val (.int p3), .val (.int p4), .val (.int p5), .val (.int cn), .val (.int ra), .val (.int v19), .val (.int v31), .val (.int ta), .val (.int bs), .val (.int bq), .val (.int tb), .val (.ref b5), .val (.ref b55), .val (.ref b116), .val (.ref b117), .unset, .unset, .unset, .unset] [(.ref b117)]))
  refine own_up (fun _ kq => XS.aload X118.here hx rfl (hb hby at_861) rfl rfl kq) ?_
  show own_Go p.tables e below _ (T118.setTop (mkF m 863 #[.val (.int p0), .val (.int p1), .val (.int p2), .val (.int p3), .val (.int p4), .val (.int p5), .val (.int cn), .val (.int ra), .val (.int v19), .val (.int v31), .val (.int ta), .val (.int bs), .val (.int bq), .val (.int tb), .val (.ref b5), .val (.ref b55), .val (.ref b116), .val (.ref b117), .unset, .unset, .unset, .unset] [(.ref b5), (.ref b117)]))
  refine own_up (fun _ kq => XS.aload X118.here hx rfl (hb hby at_863) rfl rfl kq) ?_
  show own_Go p.tables e below _ (T118.setTop (mkF m 865 #[.val (.int p0), .val (.int p1), .val (.int p2), .val (.int p3), .val (.int p4), .val (.int p5), .val (.int cn), .val (.int ra), .val (.int v19), .val (.int v31), .val (.int ta), .val (.int bs), .val (.int bq), .val (.int tb), .val (.ref b5), .val (.ref b55), .val (.ref b116), .val (.ref b117), .unset, .unset, .unset, .unset] [(.ref b55), (.ref b5), (.ref b117)]))
  refine own_up (fun _ kq => XS.aload X118.here hx rfl (hb hby at_865) rfl rfl kq) ?_
  show own_Go p.tables e below _ (T118.setTop (mkF m 867 #[.val (.int p0), .val (.int p1), .val (.int p2), .val (.int p3), .val (.int p4), .val (.int p5), .val (.int cn), .val (.int ra), .val (.int v19), .val (.int v31), .val (.int ta), .val (.int bs), .val (.int bq), .val (.int tb), .val (.ref b5), .val (.ref b55), .val (.ref b116), .val (.ref b117), .unset, .unset, .unset, .unset] [(.ref b116), (.ref b55), (.ref b5), (.ref b117)]))
  refine own_up (fun _ kq => XS.iload X118.here hx rfl (hb hby at_867) rfl kq) ?_
  show own_Go p.tables e below _ (T118.setTop (mkF m 869 #[.val (.int p0), .val (.int p1), .val (.int p2), .val (.int p3), .val (.int p4), .val (.int p5), .val (.int cn), .val (.int ra), .val (.int v19), .val (.int v31), .val (.int ta), .val (.int bs), .val (.int bq), .val (.int tb), .val (.ref b5), .val (.ref b55), .val (.ref b116), .val (.ref b117), .unset, .unset, .unset, .unset] [(.int ta), (.ref b116), (.ref b55), (.ref b5), (.ref b117)]))
  refine own_up (fun _ kq => XS.iload X118.here hx rfl (hb hby at_869) rfl kq) ?_
  show own_Go p.tables e below _ (T118.setTop (mkF m 871 #[.val (.int p0), .val (.int p1), .val (.int p2), .val (.int p3), .val (.int p4), .val (.int p5), .val (.int cn), .val (.int ra), .val (.int v19), .val (.int v31), .val (.int ta), .val (.int bs), .val (.int bq), .val (.int tb), .val (.ref b5), .val (.ref b55), .val (.ref b116), .val (.ref b117), .unset, .unset, .unset, .unset] [(.int v31), (.int ta), (.ref b116), (.ref b55), (.ref b5), (.ref b117)]))
  refine own_up (fun _ kq => XS.iload X118.here hx rfl (hb hby at_871) rfl kq) ?_
  show own_Go p.tables e below _ (T118.setTop (mkF m 873 #[.val (.int p0), .val (.int p1), .val (.int p2), .val (.int p3), .val (.int p4), .val (.int p5), .val (.int cn), .val (.int ra), .val (.int v19), .val (.int v31), .val (.int ta), .val (.int bs), .val (.int bq), .val (.int tb), .val (.ref b5), .val (.ref b55), .val (.ref b116), .val (.ref b117), .unset, .unset, .unset, .unset] [(.int tb), (.int v31), (.int ta), (.ref b116), (.ref b55), (.ref b5), (.ref b117)]))
  refine own_up (fun _ kq => XS.iload X118.here hx rfl (hb hby at_873) rfl kq) ?_
  show own_Go p.tables e below _ (T118.setTop (mkF m 875 #[.val (.int p0), .val (.int p1), .val (.int p2), .val (.int p3), .val (.int p4), .val (.int p5), .val (.int cn), .val (.int ra), .val (.int v19), .val (.int v31), .val (.int ta), .val (.int bs), .val (.int bq), .val (.int tb), .val (.ref b5), .val (.ref b55), .val (.ref b116), .val (.ref b117), .unset, .unset, .unset, .unset] [(.int bs), (.int tb), (.int v31), (.int ta), (.ref b116), (.ref b55), (.ref b5), (.ref b117)]))
  refine own_up (fun _ kq => XS.iload X118.here hx rfl (hb hby at_875) rfl kq) ?_
  show own_Go p.tables e below _ (T118.setTop (mkF m 877 #[.val (.int p0), .val (.int p1), .val (.int p2), .val (.int p3), .val (.int p4), .val (.int p5), .val (.int cn), .val (.int ra), .val (.int v19), .val (.int v31), .val (.int ta), .val (.int bs), .val (.int bq), .val (.int tb), .val (.ref b5), .val (.ref b55), .val (.ref b116), .val (.ref b117), .unset, .unset, .unset, .unset] [(.int bq), (.int bs), (.int tb), (.int v31), (.int ta), (.ref b116), (.ref b55), (.ref b5), (.ref b117)]))
  refine own_up (fun _ kq => XS.iload X118.here hx rfl (hb hby at_877) rfl kq) ?_
  show own_Go p.tables e below _ (T118.setTop (mkF m 879 #[.val (.int p0), .val (.int p1), .val (.int p2), .val (.int p3), .val (.int p4), .val (.int p5), .val (.int cn), .val (.int ra), .val (.int v19), .val (.int v31), .val (.int ta), .val (.int bs), .val (.int bq), .val (.int tb), .val (.ref b5), .val (.ref b55), .val (.ref b116), .val (.ref b117), .unset, .unset, .unset, .unset] [(.int cn), (.int bq), (.int bs), (.int tb), (.int v31), (.int ta), (.ref b116), (.ref b55), (.ref b5), (.ref b117)]))
  rcases own_n4 hcn with rfl | rfl | rfl | rfl
  · show own_Go p.tables e below _ (T118.setTop (mkF m 879 #[.val (.int p0), .val (.int p1), .val (.int p2), .val (.int p3), .val (.int p4), .val (.int p5), .val (.int (0 : Int32)), .val (.int ra), .val (.int v19), .val (.int v31), .val (.int ta), .val (.int bs), .val (.int bq), .val (.int tb), .val (.ref b5), .val (.ref b55), .val (.ref b116), .val (.ref b117), .unset, .unset, .unset, .unset] [(.int (0 : Int32)), (.int bq), (.int bs), (.int tb), (.int v31), (.int ta), (.ref b116), (.ref b55), (.ref b5), (.ref b117)]))
    obtain ⟨cq119, kq119, q119a, q119b, q119c⟩ := isOf hZ rfl E_b117
    obtain ⟨_, _, ⟨T119, L119, k119, n119⟩, -, X119, ⟨Lc119, hQ119, l119, y119, z119⟩, st119⟩ := X118.virtualBack hx (y := (⟨"com/example/indexica/indexica/ScaledSum", "eightRows", "([D[D[DIIIIII)V"⟩ : MethodName)) (z := (⟨"com/example/indexica/indexica/ScaledSum", "eightRows", "([D[D[DIIIIII)V"⟩ : MethodName)) hown (mvT hZ (hw _ (List.mem_of_getElem? (i := 126) rfl))) (mvT hZ (hw _ (List.mem_of_getElem? (i := 127) rfl))) (notFace_of_selects (args := #[]) (mvT hZ (hw _ (List.mem_of_getElem? (i := 129) rfl)))) (mvT hZ (hw _ (List.mem_of_getElem? (i := 129) rfl))) (mvT hZ (hw _ (List.mem_of_getElem? (i := 128) rfl))) (by decide) (backOf (W := 0) (rmE0 l Z a0 hw [] b117 b5 b55 b116 ta v31 tb bs bq (FP.i2d p0) (FP.i2d p1) (own_L own_l48) (own_L own_l60) (fun _ => 0) T118.heap n0 ZH F_alpha_b117 F_beta_b117 G_b5 G_b55 G_b116 g_b116 ne_b5_b116 ne_b55_b116 (i2d_fin p0) own_ua (own_mb p1) ) hZ (hw _ (List.mem_of_getElem? (i := 130) rfl)) (hw _ (List.mem_of_getElem? (i := 110) rfl)) (by decide) (by decide)) q119a q119c (g := (mkF m 879 #[.val (.int p0), .val (.int p1), .val (.int p2), .val (.int p3), .val (.int p4), .val (.int p5), .val (.int (0 : Int32)), .val (.int ra), .val (.int v19), .val (.int v31), .val (.int ta), .val (.int bs), .val (.int bq), .val (.int tb), .val (.ref b5), .val (.ref b55), .val (.ref b116), .val (.ref b117), .unset, .unset, .unset, .unset] [(.int (0 : Int32)), (.int bq), (.int bs), (.int tb), (.int v31), (.int ta), (.ref b116), (.ref b55), (.ref b5), (.ref b117)])) rfl (by rw [hml]; rfl) (Steps.refl _) (argsL := [(.ref b5), (.ref b55), (.ref b116), (.int ta), (.int v31), (.int tb), (.int bs), (.int bq), (.int (0 : Int32))]) (rest := []) (lenOf pd_3 rfl) rfl (by show 2 * 0 + _ ≤ _; exact Nat.le_of_eq rfl) (hb hby at_879) (fun _ _ => ⟨rfl, rfl, (by decide : 4 + 0 ≤ _), (by decide : 158 + 0 ≤ _)⟩)
    dsimp only [Pt.U, Pt.locs, Pt.cells, Pt.slots] at X119 l119 y119 z119 st119 hQ119
    subst l119 y119 z119
    obtain ⟨rfl, Nq119, K119, Gq119⟩ := hQ119
    have N119 := Fr.app N118 Nq119
    have G_b5 := G_b5.keep K119 (ninS ne_b5_b116 nin0)
    have G_b55 := G_b55.keep K119 (ninS ne_b55_b116 nin0)
    have E_b117 := E_b117.keep K119
    have F_alpha_b117 := F_alpha_b117.keep K119 (ninS (Ne.symm ne_b116_b117) nin0)
    have F_beta_b117 := F_beta_b117.keep K119 (ninS (Ne.symm ne_b116_b117) nin0)
    have ZH := Nat.le_trans ZH K119.1
    have KK := KK.trans K119 (allS (Or.inr sz_b116) all0)
    have G_b116 : own_Arf Z T119.heap b116 .double (48 : Int32) (fun i => .double (own_U 0 p0 p1 ta v31 tb bs bq i)) := Gq119
    refine own_up (fun _ kq => st119.trans kq) ?_
    show own_Go p.tables e below _ (T119.setTop (mkF m 882 #[.val (.int p0), .val (.int p1), .val (.int p2), .val (.int p3), .val (.int p4), .val (.int p5), .val (.int (0 : Int32)), .val (.int ra), .val (.int v19), .val (.int v31), .val (.int ta), .val (.int bs), .val (.int bq), .val (.int tb), .val (.ref b5), .val (.ref b55), .val (.ref b116), .val (.ref b117), .unset, .unset, .unset, .unset] []))
    refine own_up (fun _ kq => XS.iloadN X119.here hx rfl (hb hby at_882) rfl kq) ?_
    show own_Go p.tables e below _ (T119.setTop (mkF m 883 #[.val (.int p0), .val (.int p1), .val (.int p2), .val (.int p3), .val (.int p4), .val (.int p5), .val (.int (0 : Int32)), .val (.int ra), .val (.int v19), .val (.int v31), .val (.int ta), .val (.int bs), .val (.int bq), .val (.int tb), .val (.ref b5), .val (.ref b55), .val (.ref b116), .val (.ref b117), .unset, .unset, .unset, .unset] [(.int p0)]))
    refine own_up (fun _ kq => XS.i2l X119.here hx rfl (hb hby at_883) rfl kq) ?_
    show own_Go p.tables e below _ (T119.setTop (mkF m 884 #[.val (.int p0), .val (.int p1), .val (.int p2), .val (.int p3), .val (.int p4), .val (.int p5), .val (.int (0 : Int32)), .val (.int ra), .val (.int v19), .val (.int v31), .val (.int ta), .val (.int bs), .val (.int bq), .val (.int tb), .val (.ref b5), .val (.ref b55), .val (.ref b116), .val (.ref b117), .unset, .unset, .unset, .unset] [(.long p0.toInt64)]))
    refine own_up (fun _ kq => XS.lstore X119.here hx rfl (hb hby at_884) rfl (l' := #[.val (.int p0), .val (.int p1), .val (.int p2), .val (.int p3), .val (.int p4), .val (.int p5), .val (.int (0 : Int32)), .val (.int ra), .val (.int v19), .val (.int v31), .val (.int ta), .val (.int bs), .val (.int bq), .val (.int tb), .val (.ref b5), .val (.ref b55), .val (.ref b116), .val (.ref b117), .val (.long p0.toInt64), .second, .unset, .unset]) rfl kq) ?_
    show own_Go p.tables e below _ (T119.setTop (mkF m 886 #[.val (.int p0), .val (.int p1), .val (.int p2), .val (.int p3), .val (.int p4), .val (.int p5), .val (.int (0 : Int32)), .val (.int ra), .val (.int v19), .val (.int v31), .val (.int ta), .val (.int bs), .val (.int bq), .val (.int tb), .val (.ref b5), .val (.ref b55), .val (.ref b116), .val (.ref b117), .val (.long p0.toInt64), .second, .unset, .unset] []))
    refine own_up (fun _ kq => XS.iloadN X119.here hx rfl (hb hby at_886) rfl kq) ?_
    show own_Go p.tables e below _ (T119.setTop (mkF m 887 #[.val (.int p0), .val (.int p1), .val (.int p2), .val (.int p3), .val (.int p4), .val (.int p5), .val (.int (0 : Int32)), .val (.int ra), .val (.int v19), .val (.int v31), .val (.int ta), .val (.int bs), .val (.int bq), .val (.int tb), .val (.ref b5), .val (.ref b55), .val (.ref b116), .val (.ref b117), .val (.long p0.toInt64), .second, .unset, .unset] [(.int p1)]))
    refine own_up (fun _ kq => XS.i2l X119.here hx rfl (hb hby at_887) rfl kq) ?_
    show own_Go p.tables e below _ (T119.setTop (mkF m 888 #[.val (.int p0), .val (.int p1), .val (.int p2), .val (.int p3), .val (.int p4), .val (.int p5), .val (.int (0 : Int32)), .val (.int ra), .val (.int v19), .val (.int v31), .val (.int ta), .val (.int bs), .val (.int bq), .val (.int tb), .val (.ref b5), .val (.ref b55), .val (.ref b116), .val (.ref b117), .val (.long p0.toInt64), .second, .unset, .unset] [(.long p1.toInt64)]))
    refine own_up (fun _ kq => XS.lstore X119.here hx rfl (hb hby at_888) rfl (l' := #[.val (.int p0), .val (.int p1), .val (.int p2), .val (.int p3), .val (.int p4), .val (.int p5), .val (.int (0 : Int32)), .val (.int ra), .val (.int v19), .val (.int v31), .val (.int ta), .val (.int bs), .val (.int bq), .val (.int tb), .val (.ref b5), .val (.ref b55), .val (.ref b116), .val (.ref b117), .val (.long p0.toInt64), .second, .val (.long p1.toInt64), .second]) rfl kq) ?_
    show own_Go p.tables e below _ (T119.setTop (mkF m 890 #[.val (.int p0), .val (.int p1), .val (.int p2), .val (.int p3), .val (.int p4), .val (.int p5), .val (.int (0 : Int32)), .val (.int ra), .val (.int v19), .val (.int v31), .val (.int ta), .val (.int bs), .val (.int bq), .val (.int tb), .val (.ref b5), .val (.ref b55), .val (.ref b116), .val (.ref b117), .val (.long p0.toInt64), .second, .val (.long p1.toInt64), .second] []))
    refine own_up (fun _ kq => XS.aload X119.here hx rfl (hb hby at_890) rfl rfl kq) ?_
    show own_Go p.tables e below _ (T119.setTop (mkF m 892 #[.val (.int p0), .val (.int p1), .val (.int p2), .val (.int p3), .val (.int p4), .val (.int p5), .val (.int (0 : Int32)), .val (.int ra), .val (.int v19), .val (.int v31), .val (.int ta), .val (.int bs), .val (.int bq), .val (.int tb), .val (.ref b5), .val (.ref b55), .val (.ref b116), .val (.ref b117), .val (.long p0.toInt64), .second, .val (.long p1.toInt64), .second] [(.ref b116)]))
    refine own_up (fun _ kq => XS.iload X119.here hx rfl (hb hby at_892) rfl kq) ?_
    show own_Go p.tables e below _ (T119.setTop (mkF m 894 #[.val (.int p0), .val (.int p1), .val (.int p2), .val (.int p3), .val (.int p4), .val (.int p5), .val (.int (0 : Int32)), .val (.int ra), .val (.int v19), .val (.int v31), .val (.int ta), .val (.int bs), .val (.int bq), .val (.int tb), .val (.ref b5), .val (.ref b55), .val (.ref b116), .val (.ref b117), .val (.long p0.toInt64), .second, .val (.long p1.toInt64), .second] [(.int ta), (.ref b116)]))
    refine own_up (fun _ kq => XS.iload X119.here hx rfl (hb hby at_894) rfl kq) ?_
    show own_Go p.tables e below _ (T119.setTop (mkF m 896 #[.val (.int p0), .val (.int p1), .val (.int p2), .val (.int p3), .val (.int p4), .val (.int p5), .val (.int (0 : Int32)), .val (.int ra), .val (.int v19), .val (.int v31), .val (.int ta), .val (.int bs), .val (.int bq), .val (.int tb), .val (.ref b5), .val (.ref b55), .val (.ref b116), .val (.ref b117), .val (.long p0.toInt64), .second, .val (.long p1.toInt64), .second] [(.int v31), (.int ta), (.ref b116)]))
    refine own_up (fun _ kq => XS.iconst X119.here hx rfl (hb hby at_896) kq) ?_
    show own_Go p.tables e below _ (T119.setTop (mkF m 897 #[.val (.int p0), .val (.int p1), .val (.int p2), .val (.int p3), .val (.int p4), .val (.int p5), .val (.int (0 : Int32)), .val (.int ra), .val (.int v19), .val (.int v31), .val (.int ta), .val (.int bs), .val (.int bq), .val (.int tb), .val (.ref b5), .val (.ref b55), .val (.ref b116), .val (.ref b117), .val (.long p0.toInt64), .second, .val (.long p1.toInt64), .second] [(.int (0 : Int32)), (.int v31), (.int ta), (.ref b116)]))
    refine own_up (fun _ kq => XS.iload X119.here hx rfl (hb hby at_897) rfl kq) ?_
    show own_Go p.tables e below _ (T119.setTop (mkF m 899 #[.val (.int p0), .val (.int p1), .val (.int p2), .val (.int p3), .val (.int p4), .val (.int p5), .val (.int (0 : Int32)), .val (.int ra), .val (.int v19), .val (.int v31), .val (.int ta), .val (.int bs), .val (.int bq), .val (.int tb), .val (.ref b5), .val (.ref b55), .val (.ref b116), .val (.ref b117), .val (.long p0.toInt64), .second, .val (.long p1.toInt64), .second] [(.int (0 : Int32)), (.int (0 : Int32)), (.int v31), (.int ta), (.ref b116)]))
    refine own_up (fun _ kq => XS.lload X119.here hx rfl (hb hby at_899) rfl kq) ?_
    show own_Go p.tables e below _ (T119.setTop (mkF m 901 #[.val (.int p0), .val (.int p1), .val (.int p2), .val (.int p3), .val (.int p4), .val (.int p5), .val (.int (0 : Int32)), .val (.int ra), .val (.int v19), .val (.int v31), .val (.int ta), .val (.int bs), .val (.int bq), .val (.int tb), .val (.ref b5), .val (.ref b55), .val (.ref b116), .val (.ref b117), .val (.long p0.toInt64), .second, .val (.long p1.toInt64), .second] [(.long p0.toInt64), (.int (0 : Int32)), (.int (0 : Int32)), (.int v31), (.int ta), (.ref b116)]))
    refine own_up (fun _ kq => XS.lload X119.here hx rfl (hb hby at_901) rfl kq) ?_
    show own_Go p.tables e below _ (T119.setTop (mkF m 903 #[.val (.int p0), .val (.int p1), .val (.int p2), .val (.int p3), .val (.int p4), .val (.int p5), .val (.int (0 : Int32)), .val (.int ra), .val (.int v19), .val (.int v31), .val (.int ta), .val (.int bs), .val (.int bq), .val (.int tb), .val (.ref b5), .val (.ref b55), .val (.ref b116), .val (.ref b117), .val (.long p0.toInt64), .second, .val (.long p1.toInt64), .second] [(.long p1.toInt64), (.long p0.toInt64), (.int (0 : Int32)), (.int (0 : Int32)), (.int v31), (.int ta), (.ref b116)]))
    refine own_up (fun _ kq => XS.iload X119.here hx rfl (hb hby at_903) rfl kq) ?_
    show own_Go p.tables e below _ (T119.setTop (mkF m 905 #[.val (.int p0), .val (.int p1), .val (.int p2), .val (.int p3), .val (.int p4), .val (.int p5), .val (.int (0 : Int32)), .val (.int ra), .val (.int v19), .val (.int v31), .val (.int ta), .val (.int bs), .val (.int bq), .val (.int tb), .val (.ref b5), .val (.ref b55), .val (.ref b116), .val (.ref b117), .val (.long p0.toInt64), .second, .val (.long p1.toInt64), .second] [(.int tb), (.long p1.toInt64), (.long p0.toInt64), (.int (0 : Int32)), (.int (0 : Int32)), (.int v31), (.int ta), (.ref b116)]))
    refine own_up (fun _ kq => XS.iload X119.here hx rfl (hb hby at_905) rfl kq) ?_
    show own_Go p.tables e below _ (T119.setTop (mkF m 907 #[.val (.int p0), .val (.int p1), .val (.int p2), .val (.int p3), .val (.int p4), .val (.int p5), .val (.int (0 : Int32)), .val (.int ra), .val (.int v19), .val (.int v31), .val (.int ta), .val (.int bs), .val (.int bq), .val (.int tb), .val (.ref b5), .val (.ref b55), .val (.ref b116), .val (.ref b117), .val (.long p0.toInt64), .second, .val (.long p1.toInt64), .second] [(.int bs), (.int tb), (.long p1.toInt64), (.long p0.toInt64), (.int (0 : Int32)), (.int (0 : Int32)), (.int v31), (.int ta), (.ref b116)]))
    refine own_up (fun _ kq => XS.iload X119.here hx rfl (hb hby at_907) rfl kq) ?_
    show own_Go p.tables e below _ (T119.setTop (mkF m 909 #[.val (.int p0), .val (.int p1), .val (.int p2), .val (.int p3), .val (.int p4), .val (.int p5), .val (.int (0 : Int32)), .val (.int ra), .val (.int v19), .val (.int v31), .val (.int ta), .val (.int bs), .val (.int bq), .val (.int tb), .val (.ref b5), .val (.ref b55), .val (.ref b116), .val (.ref b117), .val (.long p0.toInt64), .second, .val (.long p1.toInt64), .second] [(.int bq), (.int bs), (.int tb), (.long p1.toInt64), (.long p0.toInt64), (.int (0 : Int32)), (.int (0 : Int32)), (.int v31), (.int ta), (.ref b116)]))
    obtain ⟨_, _, ⟨T120, L120, k120, n120⟩, -, X120, ⟨Lc120, hQ120, l120, y120, z120⟩, st120⟩ := Jvm.LawKit.callS X119 hx (y := (⟨"com/example/indexica/indexica/ScaledSumEightRowsPinLaw", "row", "([DIIIIJJIII)Z"⟩ : MethodName)) hown (mvT hZ (hw _ (List.mem_of_getElem? (i := 131) rfl))) (mvT hZ (hw _ (List.mem_of_getElem? (i := 132) rfl))) (mvT hZ (hw _ (List.mem_of_getElem? (i := 133) rfl))) (mvT hZ (hw _ (List.mem_of_getElem? (i := 134) rfl))) (by decide) (backOf (W := 0) (rmW l Z a0 hw [] b116 ta v31 (0 : Int32) (0 : Int32) p0.toInt64 p1.toInt64 tb bs bq (own_U 0 p0 p1 ta v31 tb bs bq) T119.heap n0 ZH G_b116 (own_ok 0 (by decide) p0 p1 HB rfl (0 : Int32) (0 : Int32) (by decide) (by decide)) (own_ok 0 (by decide) p0 p1 HB rfl (1 : Int32) (0 : Int32) (by decide) (by decide)) (own_ok 0 (by decide) p0 p1 HB rfl (2 : Int32) (0 : Int32) (by decide) (by decide))) hZ (hw _ (List.mem_of_getElem? (i := 134) rfl)) (hw _ (List.mem_of_getElem? (i := 133) rfl)) (by decide) (by decide)) (g := (mkF m 909 #[.val (.int p0), .val (.int p1), .val (.int p2), .val (.int p3), .val (.int p4), .val (.int p5), .val (.int (0 : Int32)), .val (.int ra), .val (.int v19), .val (.int v31), .val (.int ta), .val (.int bs), .val (.int bq), .val (.int tb), .val (.ref b5), .val (.ref b55), .val (.ref b116), .val (.ref b117), .val (.long p0.toInt64), .second, .val (.long p1.toInt64), .second] [(.int bq), (.int bs), (.int tb), (.long p1.toInt64), (.long p0.toInt64), (.int (0 : Int32)), (.int (0 : Int32)), (.int v31), (.int ta), (.ref b116)])) rfl (by rw [hml]; rfl) (argsL := [(.ref b116), (.int ta), (.int v31), (.int (0 : Int32)), (.int (0 : Int32)), (.long p0.toInt64), (.long p1.toInt64), (.int tb), (.int bs), (.int bq)]) (rest := []) (lenOf pd_4 rfl) rfl (by show 2 * 0 + _ ≤ _; exact Nat.le_of_eq rfl) (hb hby at_909) (fun _ _ => ⟨rfl, rfl, (by decide : 4 + 0 ≤ _), (by decide : 158 + 0 ≤ _)⟩)
    dsimp only [Pt.U, Pt.locs, Pt.cells, Pt.slots] at X120 l120 y120 z120 st120 hQ120
    subst l120 y120 z120
    obtain ⟨rfl, Nq120, e120⟩ := hQ120
    have N120 := Fr.app N119 Nq120
    refine own_up st120 ?_
    show own_Go p.tables e below _ (T120.setTop (mkF m 912 #[.val (.int p0), .val (.int p1), .val (.int p2), .val (.int p3), .val (.int p4), .val (.int p5), .val (.int (0 : Int32)), .val (.int ra), .val (.int v19), .val (.int v31), .val (.int ta), .val (.int bs), .val (.int bq), .val (.int tb), .val (.ref b5), .val (.ref b55), .val (.ref b116), .val (.ref b117), .val (.long p0.toInt64), .second, .val (.long p1.toInt64), .second] [(.int (1 : Int32))]))
    refine own_up (fun _ kq => XS.ifNo X120.here hx rfl (hb hby at_912) rfl ((if0 _ _).trans (feq (by decide : ¬ ((1 : Int32) = (0 : Int32)))).1) kq) ?_
    show own_Go p.tables e below _ (T120.setTop (mkF m 915 #[.val (.int p0), .val (.int p1), .val (.int p2), .val (.int p3), .val (.int p4), .val (.int p5), .val (.int (0 : Int32)), .val (.int ra), .val (.int v19), .val (.int v31), .val (.int ta), .val (.int bs), .val (.int bq), .val (.int tb), .val (.ref b5), .val (.ref b55), .val (.ref b116), .val (.ref b117), .val (.long p0.toInt64), .second, .val (.long p1.toInt64), .second] []))
    refine own_up (fun _ kq => XS.aload X120.here hx rfl (hb hby at_915) rfl rfl kq) ?_
    show own_Go p.tables e below _ (T120.setTop (mkF m 917 #[.val (.int p0), .val (.int p1), .val (.int p2), .val (.int p3), .val (.int p4), .val (.int p5), .val (.int (0 : Int32)), .val (.int ra), .val (.int v19), .val (.int v31), .val (.int ta), .val (.int bs), .val (.int bq), .val (.int tb), .val (.ref b5), .val (.ref b55), .val (.ref b116), .val (.ref b117), .val (.long p0.toInt64), .second, .val (.long p1.toInt64), .second] [(.ref b116)]))
    refine own_up (fun _ kq => XS.iload X120.here hx rfl (hb hby at_917) rfl kq) ?_
    show own_Go p.tables e below _ (T120.setTop (mkF m 919 #[.val (.int p0), .val (.int p1), .val (.int p2), .val (.int p3), .val (.int p4), .val (.int p5), .val (.int (0 : Int32)), .val (.int ra), .val (.int v19), .val (.int v31), .val (.int ta), .val (.int bs), .val (.int bq), .val (.int tb), .val (.ref b5), .val (.ref b55), .val (.ref b116), .val (.ref b117), .val (.long p0.toInt64), .second, .val (.long p1.toInt64), .second] [(.int ta), (.ref b116)]))
    refine own_up (fun _ kq => XS.iload X120.here hx rfl (hb hby at_919) rfl kq) ?_
    show own_Go p.tables e below _ (T120.setTop (mkF m 921 #[.val (.int p0), .val (.int p1), .val (.int p2), .val (.int p3), .val (.int p4), .val (.int p5), .val (.int (0 : Int32)), .val (.int ra), .val (.int v19), .val (.int v31), .val (.int ta), .val (.int bs), .val (.int bq), .val (.int tb), .val (.ref b5), .val (.ref b55), .val (.ref b116), .val (.ref b117), .val (.long p0.toInt64), .second, .val (.long p1.toInt64), .second] [(.int v31), (.int ta), (.ref b116)]))
    refine own_up (fun _ kq => XS.iconst X120.here hx rfl (hb hby at_921) kq) ?_
    show own_Go p.tables e below _ (T120.setTop (mkF m 922 #[.val (.int p0), .val (.int p1), .val (.int p2), .val (.int p3), .val (.int p4), .val (.int p5), .val (.int (0 : Int32)), .val (.int ra), .val (.int v19), .val (.int v31), .val (.int ta), .val (.int bs), .val (.int bq), .val (.int tb), .val (.ref b5), .val (.ref b55), .val (.ref b116), .val (.ref b117), .val (.long p0.toInt64), .second, .val (.long p1.toInt64), .second] [(.int (1 : Int32)), (.int v31), (.int ta), (.ref b116)]))
    refine own_up (fun _ kq => XS.iload X120.here hx rfl (hb hby at_922) rfl kq) ?_
    show own_Go p.tables e below _ (T120.setTop (mkF m 924 #[.val (.int p0), .val (.int p1), .val (.int p2), .val (.int p3), .val (.int p4), .val (.int p5), .val (.int (0 : Int32)), .val (.int ra), .val (.int v19), .val (.int v31), .val (.int ta), .val (.int bs), .val (.int bq), .val (.int tb), .val (.ref b5), .val (.ref b55), .val (.ref b116), .val (.ref b117), .val (.long p0.toInt64), .second, .val (.long p1.toInt64), .second] [(.int (0 : Int32)), (.int (1 : Int32)), (.int v31), (.int ta), (.ref b116)]))
    refine own_up (fun _ kq => XS.lload X120.here hx rfl (hb hby at_924) rfl kq) ?_
    show own_Go p.tables e below _ (T120.setTop (mkF m 926 #[.val (.int p0), .val (.int p1), .val (.int p2), .val (.int p3), .val (.int p4), .val (.int p5), .val (.int (0 : Int32)), .val (.int ra), .val (.int v19), .val (.int v31), .val (.int ta), .val (.int bs), .val (.int bq), .val (.int tb), .val (.ref b5), .val (.ref b55), .val (.ref b116), .val (.ref b117), .val (.long p0.toInt64), .second, .val (.long p1.toInt64), .second] [(.long p0.toInt64), (.int (0 : Int32)), (.int (1 : Int32)), (.int v31), (.int ta), (.ref b116)]))
    refine own_up (fun _ kq => XS.lload X120.here hx rfl (hb hby at_926) rfl kq) ?_
    show own_Go p.tables e below _ (T120.setTop (mkF m 928 #[.val (.int p0), .val (.int p1), .val (.int p2), .val (.int p3), .val (.int p4), .val (.int p5), .val (.int (0 : Int32)), .val (.int ra), .val (.int v19), .val (.int v31), .val (.int ta), .val (.int bs), .val (.int bq), .val (.int tb), .val (.ref b5), .val (.ref b55), .val (.ref b116), .val (.ref b117), .val (.long p0.toInt64), .second, .val (.long p1.toInt64), .second] [(.long p1.toInt64), (.long p0.toInt64), (.int (0 : Int32)), (.int (1 : Int32)), (.int v31), (.int ta), (.ref b116)]))
    refine own_up (fun _ kq => XS.iload X120.here hx rfl (hb hby at_928) rfl kq) ?_
    show own_Go p.tables e below _ (T120.setTop (mkF m 930 #[.val (.int p0), .val (.int p1), .val (.int p2), .val (.int p3), .val (.int p4), .val (.int p5), .val (.int (0 : Int32)), .val (.int ra), .val (.int v19), .val (.int v31), .val (.int ta), .val (.int bs), .val (.int bq), .val (.int tb), .val (.ref b5), .val (.ref b55), .val (.ref b116), .val (.ref b117), .val (.long p0.toInt64), .second, .val (.long p1.toInt64), .second] [(.int tb), (.long p1.toInt64), (.long p0.toInt64), (.int (0 : Int32)), (.int (1 : Int32)), (.int v31), (.int ta), (.ref b116)]))
    refine own_up (fun _ kq => XS.iload X120.here hx rfl (hb hby at_930) rfl kq) ?_
    show own_Go p.tables e below _ (T120.setTop (mkF m 932 #[.val (.int p0), .val (.int p1), .val (.int p2), .val (.int p3), .val (.int p4), .val (.int p5), .val (.int (0 : Int32)), .val (.int ra), .val (.int v19), .val (.int v31), .val (.int ta), .val (.int bs), .val (.int bq), .val (.int tb), .val (.ref b5), .val (.ref b55), .val (.ref b116), .val (.ref b117), .val (.long p0.toInt64), .second, .val (.long p1.toInt64), .second] [(.int bs), (.int tb), (.long p1.toInt64), (.long p0.toInt64), (.int (0 : Int32)), (.int (1 : Int32)), (.int v31), (.int ta), (.ref b116)]))
    refine own_up (fun _ kq => XS.iload X120.here hx rfl (hb hby at_932) rfl kq) ?_
    show own_Go p.tables e below _ (T120.setTop (mkF m 934 #[.val (.int p0), .val (.int p1), .val (.int p2), .val (.int p3), .val (.int p4), .val (.int p5), .val (.int (0 : Int32)), .val (.int ra), .val (.int v19), .val (.int v31), .val (.int ta), .val (.int bs), .val (.int bq), .val (.int tb), .val (.ref b5), .val (.ref b55), .val (.ref b116), .val (.ref b117), .val (.long p0.toInt64), .second, .val (.long p1.toInt64), .second] [(.int bq), (.int bs), (.int tb), (.long p1.toInt64), (.long p0.toInt64), (.int (0 : Int32)), (.int (1 : Int32)), (.int v31), (.int ta), (.ref b116)]))
    obtain ⟨_, _, ⟨T121, L121, k121, n121⟩, -, X121, ⟨Lc121, hQ121, l121, y121, z121⟩, st121⟩ := Jvm.LawKit.callS X120 hx (y := (⟨"com/example/indexica/indexica/ScaledSumEightRowsPinLaw", "row", "([DIIIIJJIII)Z"⟩ : MethodName)) hown (mvT hZ (hw _ (List.mem_of_getElem? (i := 131) rfl))) (mvT hZ (hw _ (List.mem_of_getElem? (i := 132) rfl))) (mvT hZ (hw _ (List.mem_of_getElem? (i := 133) rfl))) (mvT hZ (hw _ (List.mem_of_getElem? (i := 134) rfl))) (by decide) (backOf (W := 0) (rmW l Z a0 hw [] b116 ta v31 (1 : Int32) (0 : Int32) p0.toInt64 p1.toInt64 tb bs bq (own_U 0 p0 p1 ta v31 tb bs bq) T119.heap n0 ZH G_b116 (own_ok 0 (by decide) p0 p1 HB rfl (0 : Int32) (1 : Int32) (by decide) (by decide)) (own_ok 0 (by decide) p0 p1 HB rfl (1 : Int32) (1 : Int32) (by decide) (by decide)) (own_ok 0 (by decide) p0 p1 HB rfl (2 : Int32) (1 : Int32) (by decide) (by decide))) hZ (hw _ (List.mem_of_getElem? (i := 134) rfl)) (hw _ (List.mem_of_getElem? (i := 133) rfl)) (by decide) (by decide)) (g := (mkF m 934 #[.val (.int p0), .val (.int p1), .val (.int p2), .val (.int p3), .val (.int p4), .val (.int p5), .val (.int (0 : Int32)), .val (.int ra), .val (.int v19), .val (.int v31), .val (.int ta), .val (.int bs), .val (.int bq), .val (.int tb), .val (.ref b5), .val (.ref b55), .val (.ref b116), .val (.ref b117), .val (.long p0.toInt64), .second, .val (.long p1.toInt64), .second] [(.int bq), (.int bs), (.int tb), (.long p1.toInt64), (.long p0.toInt64), (.int (0 : Int32)), (.int (1 : Int32)), (.int v31), (.int ta), (.ref b116)])) rfl (by rw [hml]; rfl) (argsL := [(.ref b116), (.int ta), (.int v31), (.int (1 : Int32)), (.int (0 : Int32)), (.long p0.toInt64), (.long p1.toInt64), (.int tb), (.int bs), (.int bq)]) (rest := []) (lenOf pd_4 rfl) rfl (by show 2 * 0 + _ ≤ _; exact Nat.le_of_eq rfl) (hb hby at_934) (fun _ _ => ⟨rfl, e120, (by decide : 4 + 0 ≤ _), (by decide : 158 + 0 ≤ _)⟩)
    dsimp only [Pt.U, Pt.locs, Pt.cells, Pt.slots] at X121 l121 y121 z121 st121 hQ121
    subst l121 y121 z121
    obtain ⟨rfl, Nq121, e121⟩ := hQ121
    have N121 := Fr.app N120 Nq121
    refine own_up st121 ?_
    show own_Go p.tables e below _ (T121.setTop (mkF m 937 #[.val (.int p0), .val (.int p1), .val (.int p2), .val (.int p3), .val (.int p4), .val (.int p5), .val (.int (0 : Int32)), .val (.int ra), .val (.int v19), .val (.int v31), .val (.int ta), .val (.int bs), .val (.int bq), .val (.int tb), .val (.ref b5), .val (.ref b55), .val (.ref b116), .val (.ref b117), .val (.long p0.toInt64), .second, .val (.long p1.toInt64), .second] [(.int (1 : Int32))]))
    refine own_up (fun _ kq => XS.ifNo X121.here hx rfl (hb hby at_937) rfl ((if0 _ _).trans (feq (by decide : ¬ ((1 : Int32) = (0 : Int32)))).1) kq) ?_
    show own_Go p.tables e below _ (T121.setTop (mkF m 940 #[.val (.int p0), .val (.int p1), .val (.int p2), .val (.int p3), .val (.int p4), .val (.int p5), .val (.int (0 : Int32)), .val (.int ra), .val (.int v19), .val (.int v31), .val (.int ta), .val (.int bs), .val (.int bq), .val (.int tb), .val (.ref b5), .val (.ref b55), .val (.ref b116), .val (.ref b117), .val (.long p0.toInt64), .second, .val (.long p1.toInt64), .second] []))
    refine own_up (fun _ kq => XS.aload X121.here hx rfl (hb hby at_940) rfl rfl kq) ?_
    show own_Go p.tables e below _ (T121.setTop (mkF m 942 #[.val (.int p0), .val (.int p1), .val (.int p2), .val (.int p3), .val (.int p4), .val (.int p5), .val (.int (0 : Int32)), .val (.int ra), .val (.int v19), .val (.int v31), .val (.int ta), .val (.int bs), .val (.int bq), .val (.int tb), .val (.ref b5), .val (.ref b55), .val (.ref b116), .val (.ref b117), .val (.long p0.toInt64), .second, .val (.long p1.toInt64), .second] [(.ref b116)]))
    refine own_up (fun _ kq => XS.iload X121.here hx rfl (hb hby at_942) rfl kq) ?_
    show own_Go p.tables e below _ (T121.setTop (mkF m 944 #[.val (.int p0), .val (.int p1), .val (.int p2), .val (.int p3), .val (.int p4), .val (.int p5), .val (.int (0 : Int32)), .val (.int ra), .val (.int v19), .val (.int v31), .val (.int ta), .val (.int bs), .val (.int bq), .val (.int tb), .val (.ref b5), .val (.ref b55), .val (.ref b116), .val (.ref b117), .val (.long p0.toInt64), .second, .val (.long p1.toInt64), .second] [(.int ta), (.ref b116)]))
    refine own_up (fun _ kq => XS.iload X121.here hx rfl (hb hby at_944) rfl kq) ?_
    show own_Go p.tables e below _ (T121.setTop (mkF m 946 #[.val (.int p0), .val (.int p1), .val (.int p2), .val (.int p3), .val (.int p4), .val (.int p5), .val (.int (0 : Int32)), .val (.int ra), .val (.int v19), .val (.int v31), .val (.int ta), .val (.int bs), .val (.int bq), .val (.int tb), .val (.ref b5), .val (.ref b55), .val (.ref b116), .val (.ref b117), .val (.long p0.toInt64), .second, .val (.long p1.toInt64), .second] [(.int v31), (.int ta), (.ref b116)]))
    refine own_up (fun _ kq => XS.iconst X121.here hx rfl (hb hby at_946) kq) ?_
    show own_Go p.tables e below _ (T121.setTop (mkF m 947 #[.val (.int p0), .val (.int p1), .val (.int p2), .val (.int p3), .val (.int p4), .val (.int p5), .val (.int (0 : Int32)), .val (.int ra), .val (.int v19), .val (.int v31), .val (.int ta), .val (.int bs), .val (.int bq), .val (.int tb), .val (.ref b5), .val (.ref b55), .val (.ref b116), .val (.ref b117), .val (.long p0.toInt64), .second, .val (.long p1.toInt64), .second] [(.int (2 : Int32)), (.int v31), (.int ta), (.ref b116)]))
    refine own_up (fun _ kq => XS.iload X121.here hx rfl (hb hby at_947) rfl kq) ?_
    show own_Go p.tables e below _ (T121.setTop (mkF m 949 #[.val (.int p0), .val (.int p1), .val (.int p2), .val (.int p3), .val (.int p4), .val (.int p5), .val (.int (0 : Int32)), .val (.int ra), .val (.int v19), .val (.int v31), .val (.int ta), .val (.int bs), .val (.int bq), .val (.int tb), .val (.ref b5), .val (.ref b55), .val (.ref b116), .val (.ref b117), .val (.long p0.toInt64), .second, .val (.long p1.toInt64), .second] [(.int (0 : Int32)), (.int (2 : Int32)), (.int v31), (.int ta), (.ref b116)]))
    refine own_up (fun _ kq => XS.lload X121.here hx rfl (hb hby at_949) rfl kq) ?_
    show own_Go p.tables e below _ (T121.setTop (mkF m 951 #[.val (.int p0), .val (.int p1), .val (.int p2), .val (.int p3), .val (.int p4), .val (.int p5), .val (.int (0 : Int32)), .val (.int ra), .val (.int v19), .val (.int v31), .val (.int ta), .val (.int bs), .val (.int bq), .val (.int tb), .val (.ref b5), .val (.ref b55), .val (.ref b116), .val (.ref b117), .val (.long p0.toInt64), .second, .val (.long p1.toInt64), .second] [(.long p0.toInt64), (.int (0 : Int32)), (.int (2 : Int32)), (.int v31), (.int ta), (.ref b116)]))
    refine own_up (fun _ kq => XS.lload X121.here hx rfl (hb hby at_951) rfl kq) ?_
    show own_Go p.tables e below _ (T121.setTop (mkF m 953 #[.val (.int p0), .val (.int p1), .val (.int p2), .val (.int p3), .val (.int p4), .val (.int p5), .val (.int (0 : Int32)), .val (.int ra), .val (.int v19), .val (.int v31), .val (.int ta), .val (.int bs), .val (.int bq), .val (.int tb), .val (.ref b5), .val (.ref b55), .val (.ref b116), .val (.ref b117), .val (.long p0.toInt64), .second, .val (.long p1.toInt64), .second] [(.long p1.toInt64), (.long p0.toInt64), (.int (0 : Int32)), (.int (2 : Int32)), (.int v31), (.int ta), (.ref b116)]))
    refine own_up (fun _ kq => XS.iload X121.here hx rfl (hb hby at_953) rfl kq) ?_
    show own_Go p.tables e below _ (T121.setTop (mkF m 955 #[.val (.int p0), .val (.int p1), .val (.int p2), .val (.int p3), .val (.int p4), .val (.int p5), .val (.int (0 : Int32)), .val (.int ra), .val (.int v19), .val (.int v31), .val (.int ta), .val (.int bs), .val (.int bq), .val (.int tb), .val (.ref b5), .val (.ref b55), .val (.ref b116), .val (.ref b117), .val (.long p0.toInt64), .second, .val (.long p1.toInt64), .second] [(.int tb), (.long p1.toInt64), (.long p0.toInt64), (.int (0 : Int32)), (.int (2 : Int32)), (.int v31), (.int ta), (.ref b116)]))
    refine own_up (fun _ kq => XS.iload X121.here hx rfl (hb hby at_955) rfl kq) ?_
    show own_Go p.tables e below _ (T121.setTop (mkF m 957 #[.val (.int p0), .val (.int p1), .val (.int p2), .val (.int p3), .val (.int p4), .val (.int p5), .val (.int (0 : Int32)), .val (.int ra), .val (.int v19), .val (.int v31), .val (.int ta), .val (.int bs), .val (.int bq), .val (.int tb), .val (.ref b5), .val (.ref b55), .val (.ref b116), .val (.ref b117), .val (.long p0.toInt64), .second, .val (.long p1.toInt64), .second] [(.int bs), (.int tb), (.long p1.toInt64), (.long p0.toInt64), (.int (0 : Int32)), (.int (2 : Int32)), (.int v31), (.int ta), (.ref b116)]))
    refine own_up (fun _ kq => XS.iload X121.here hx rfl (hb hby at_957) rfl kq) ?_
    show own_Go p.tables e below _ (T121.setTop (mkF m 959 #[.val (.int p0), .val (.int p1), .val (.int p2), .val (.int p3), .val (.int p4), .val (.int p5), .val (.int (0 : Int32)), .val (.int ra), .val (.int v19), .val (.int v31), .val (.int ta), .val (.int bs), .val (.int bq), .val (.int tb), .val (.ref b5), .val (.ref b55), .val (.ref b116), .val (.ref b117), .val (.long p0.toInt64), .second, .val (.long p1.toInt64), .second] [(.int bq), (.int bs), (.int tb), (.long p1.toInt64), (.long p0.toInt64), (.int (0 : Int32)), (.int (2 : Int32)), (.int v31), (.int ta), (.ref b116)]))
    obtain ⟨_, _, ⟨T122, L122, k122, n122⟩, -, X122, ⟨Lc122, hQ122, l122, y122, z122⟩, st122⟩ := Jvm.LawKit.callS X121 hx (y := (⟨"com/example/indexica/indexica/ScaledSumEightRowsPinLaw", "row", "([DIIIIJJIII)Z"⟩ : MethodName)) hown (mvT hZ (hw _ (List.mem_of_getElem? (i := 131) rfl))) (mvT hZ (hw _ (List.mem_of_getElem? (i := 132) rfl))) (mvT hZ (hw _ (List.mem_of_getElem? (i := 133) rfl))) (mvT hZ (hw _ (List.mem_of_getElem? (i := 134) rfl))) (by decide) (backOf (W := 0) (rmW l Z a0 hw [] b116 ta v31 (2 : Int32) (0 : Int32) p0.toInt64 p1.toInt64 tb bs bq (own_U 0 p0 p1 ta v31 tb bs bq) T119.heap n0 ZH G_b116 (own_ok 0 (by decide) p0 p1 HB rfl (0 : Int32) (2 : Int32) (by decide) (by decide)) (own_ok 0 (by decide) p0 p1 HB rfl (1 : Int32) (2 : Int32) (by decide) (by decide)) (own_ok 0 (by decide) p0 p1 HB rfl (2 : Int32) (2 : Int32) (by decide) (by decide))) hZ (hw _ (List.mem_of_getElem? (i := 134) rfl)) (hw _ (List.mem_of_getElem? (i := 133) rfl)) (by decide) (by decide)) (g := (mkF m 959 #[.val (.int p0), .val (.int p1), .val (.int p2), .val (.int p3), .val (.int p4), .val (.int p5), .val (.int (0 : Int32)), .val (.int ra), .val (.int v19), .val (.int v31), .val (.int ta), .val (.int bs), .val (.int bq), .val (.int tb), .val (.ref b5), .val (.ref b55), .val (.ref b116), .val (.ref b117), .val (.long p0.toInt64), .second, .val (.long p1.toInt64), .second] [(.int bq), (.int bs), (.int tb), (.long p1.toInt64), (.long p0.toInt64), (.int (0 : Int32)), (.int (2 : Int32)), (.int v31), (.int ta), (.ref b116)])) rfl (by rw [hml]; rfl) (argsL := [(.ref b116), (.int ta), (.int v31), (.int (2 : Int32)), (.int (0 : Int32)), (.long p0.toInt64), (.long p1.toInt64), (.int tb), (.int bs), (.int bq)]) (rest := []) (lenOf pd_4 rfl) rfl (by show 2 * 0 + _ ≤ _; exact Nat.le_of_eq rfl) (hb hby at_959) (fun _ _ => ⟨rfl, e121, (by decide : 4 + 0 ≤ _), (by decide : 158 + 0 ≤ _)⟩)
    dsimp only [Pt.U, Pt.locs, Pt.cells, Pt.slots] at X122 l122 y122 z122 st122 hQ122
    subst l122 y122 z122
    obtain ⟨rfl, Nq122, e122⟩ := hQ122
    have N122 := Fr.app N121 Nq122
    refine own_up st122 ?_
    show own_Go p.tables e below _ (T122.setTop (mkF m 962 #[.val (.int p0), .val (.int p1), .val (.int p2), .val (.int p3), .val (.int p4), .val (.int p5), .val (.int (0 : Int32)), .val (.int ra), .val (.int v19), .val (.int v31), .val (.int ta), .val (.int bs), .val (.int bq), .val (.int tb), .val (.ref b5), .val (.ref b55), .val (.ref b116), .val (.ref b117), .val (.long p0.toInt64), .second, .val (.long p1.toInt64), .second] [(.int (1 : Int32))]))
    refine own_up (fun _ kq => XS.ifNo X122.here hx rfl (hb hby at_962) rfl ((if0 _ _).trans (feq (by decide : ¬ ((1 : Int32) = (0 : Int32)))).1) kq) ?_
    show own_Go p.tables e below _ (T122.setTop (mkF m 965 #[.val (.int p0), .val (.int p1), .val (.int p2), .val (.int p3), .val (.int p4), .val (.int p5), .val (.int (0 : Int32)), .val (.int ra), .val (.int v19), .val (.int v31), .val (.int ta), .val (.int bs), .val (.int bq), .val (.int tb), .val (.ref b5), .val (.ref b55), .val (.ref b116), .val (.ref b117), .val (.long p0.toInt64), .second, .val (.long p1.toInt64), .second] []))
    refine own_up (fun _ kq => XS.aload X122.here hx rfl (hb hby at_965) rfl rfl kq) ?_
    show own_Go p.tables e below _ (T122.setTop (mkF m 967 #[.val (.int p0), .val (.int p1), .val (.int p2), .val (.int p3), .val (.int p4), .val (.int p5), .val (.int (0 : Int32)), .val (.int ra), .val (.int v19), .val (.int v31), .val (.int ta), .val (.int bs), .val (.int bq), .val (.int tb), .val (.ref b5), .val (.ref b55), .val (.ref b116), .val (.ref b117), .val (.long p0.toInt64), .second, .val (.long p1.toInt64), .second] [(.ref b116)]))
    refine own_up (fun _ kq => XS.iload X122.here hx rfl (hb hby at_967) rfl kq) ?_
    show own_Go p.tables e below _ (T122.setTop (mkF m 969 #[.val (.int p0), .val (.int p1), .val (.int p2), .val (.int p3), .val (.int p4), .val (.int p5), .val (.int (0 : Int32)), .val (.int ra), .val (.int v19), .val (.int v31), .val (.int ta), .val (.int bs), .val (.int bq), .val (.int tb), .val (.ref b5), .val (.ref b55), .val (.ref b116), .val (.ref b117), .val (.long p0.toInt64), .second, .val (.long p1.toInt64), .second] [(.int ta), (.ref b116)]))
    refine own_up (fun _ kq => XS.iload X122.here hx rfl (hb hby at_969) rfl kq) ?_
    show own_Go p.tables e below _ (T122.setTop (mkF m 971 #[.val (.int p0), .val (.int p1), .val (.int p2), .val (.int p3), .val (.int p4), .val (.int p5), .val (.int (0 : Int32)), .val (.int ra), .val (.int v19), .val (.int v31), .val (.int ta), .val (.int bs), .val (.int bq), .val (.int tb), .val (.ref b5), .val (.ref b55), .val (.ref b116), .val (.ref b117), .val (.long p0.toInt64), .second, .val (.long p1.toInt64), .second] [(.int v31), (.int ta), (.ref b116)]))
    refine own_up (fun _ kq => XS.iconst X122.here hx rfl (hb hby at_971) kq) ?_
    show own_Go p.tables e below _ (T122.setTop (mkF m 972 #[.val (.int p0), .val (.int p1), .val (.int p2), .val (.int p3), .val (.int p4), .val (.int p5), .val (.int (0 : Int32)), .val (.int ra), .val (.int v19), .val (.int v31), .val (.int ta), .val (.int bs), .val (.int bq), .val (.int tb), .val (.ref b5), .val (.ref b55), .val (.ref b116), .val (.ref b117), .val (.long p0.toInt64), .second, .val (.long p1.toInt64), .second] [(.int (3 : Int32)), (.int v31), (.int ta), (.ref b116)]))
    refine own_up (fun _ kq => XS.iload X122.here hx rfl (hb hby at_972) rfl kq) ?_
    show own_Go p.tables e below _ (T122.setTop (mkF m 974 #[.val (.int p0), .val (.int p1), .val (.int p2), .val (.int p3), .val (.int p4), .val (.int p5), .val (.int (0 : Int32)), .val (.int ra), .val (.int v19), .val (.int v31), .val (.int ta), .val (.int bs), .val (.int bq), .val (.int tb), .val (.ref b5), .val (.ref b55), .val (.ref b116), .val (.ref b117), .val (.long p0.toInt64), .second, .val (.long p1.toInt64), .second] [(.int (0 : Int32)), (.int (3 : Int32)), (.int v31), (.int ta), (.ref b116)]))
    refine own_up (fun _ kq => XS.lload X122.here hx rfl (hb hby at_974) rfl kq) ?_
    show own_Go p.tables e below _ (T122.setTop (mkF m 976 #[.val (.int p0), .val (.int p1), .val (.int p2), .val (.int p3), .val (.int p4), .val (.int p5), .val (.int (0 : Int32)), .val (.int ra), .val (.int v19), .val (.int v31), .val (.int ta), .val (.int bs), .val (.int bq), .val (.int tb), .val (.ref b5), .val (.ref b55), .val (.ref b116), .val (.ref b117), .val (.long p0.toInt64), .second, .val (.long p1.toInt64), .second] [(.long p0.toInt64), (.int (0 : Int32)), (.int (3 : Int32)), (.int v31), (.int ta), (.ref b116)]))
    refine own_up (fun _ kq => XS.lload X122.here hx rfl (hb hby at_976) rfl kq) ?_
    show own_Go p.tables e below _ (T122.setTop (mkF m 978 #[.val (.int p0), .val (.int p1), .val (.int p2), .val (.int p3), .val (.int p4), .val (.int p5), .val (.int (0 : Int32)), .val (.int ra), .val (.int v19), .val (.int v31), .val (.int ta), .val (.int bs), .val (.int bq), .val (.int tb), .val (.ref b5), .val (.ref b55), .val (.ref b116), .val (.ref b117), .val (.long p0.toInt64), .second, .val (.long p1.toInt64), .second] [(.long p1.toInt64), (.long p0.toInt64), (.int (0 : Int32)), (.int (3 : Int32)), (.int v31), (.int ta), (.ref b116)]))
    refine own_up (fun _ kq => XS.iload X122.here hx rfl (hb hby at_978) rfl kq) ?_
    show own_Go p.tables e below _ (T122.setTop (mkF m 980 #[.val (.int p0), .val (.int p1), .val (.int p2), .val (.int p3), .val (.int p4), .val (.int p5), .val (.int (0 : Int32)), .val (.int ra), .val (.int v19), .val (.int v31), .val (.int ta), .val (.int bs), .val (.int bq), .val (.int tb), .val (.ref b5), .val (.ref b55), .val (.ref b116), .val (.ref b117), .val (.long p0.toInt64), .second, .val (.long p1.toInt64), .second] [(.int tb), (.long p1.toInt64), (.long p0.toInt64), (.int (0 : Int32)), (.int (3 : Int32)), (.int v31), (.int ta), (.ref b116)]))
    refine own_up (fun _ kq => XS.iload X122.here hx rfl (hb hby at_980) rfl kq) ?_
    show own_Go p.tables e below _ (T122.setTop (mkF m 982 #[.val (.int p0), .val (.int p1), .val (.int p2), .val (.int p3), .val (.int p4), .val (.int p5), .val (.int (0 : Int32)), .val (.int ra), .val (.int v19), .val (.int v31), .val (.int ta), .val (.int bs), .val (.int bq), .val (.int tb), .val (.ref b5), .val (.ref b55), .val (.ref b116), .val (.ref b117), .val (.long p0.toInt64), .second, .val (.long p1.toInt64), .second] [(.int bs), (.int tb), (.long p1.toInt64), (.long p0.toInt64), (.int (0 : Int32)), (.int (3 : Int32)), (.int v31), (.int ta), (.ref b116)]))
    refine own_up (fun _ kq => XS.iload X122.here hx rfl (hb hby at_982) rfl kq) ?_
    show own_Go p.tables e below _ (T122.setTop (mkF m 984 #[.val (.int p0), .val (.int p1), .val (.int p2), .val (.int p3), .val (.int p4), .val (.int p5), .val (.int (0 : Int32)), .val (.int ra), .val (.int v19), .val (.int v31), .val (.int ta), .val (.int bs), .val (.int bq), .val (.int tb), .val (.ref b5), .val (.ref b55), .val (.ref b116), .val (.ref b117), .val (.long p0.toInt64), .second, .val (.long p1.toInt64), .second] [(.int bq), (.int bs), (.int tb), (.long p1.toInt64), (.long p0.toInt64), (.int (0 : Int32)), (.int (3 : Int32)), (.int v31), (.int ta), (.ref b116)]))
    obtain ⟨_, _, ⟨T123, L123, k123, n123⟩, -, X123, ⟨Lc123, hQ123, l123, y123, z123⟩, st123⟩ := Jvm.LawKit.callS X122 hx (y := (⟨"com/example/indexica/indexica/ScaledSumEightRowsPinLaw", "row", "([DIIIIJJIII)Z"⟩ : MethodName)) hown (mvT hZ (hw _ (List.mem_of_getElem? (i := 131) rfl))) (mvT hZ (hw _ (List.mem_of_getElem? (i := 132) rfl))) (mvT hZ (hw _ (List.mem_of_getElem? (i := 133) rfl))) (mvT hZ (hw _ (List.mem_of_getElem? (i := 134) rfl))) (by decide) (backOf (W := 0) (rmW l Z a0 hw [] b116 ta v31 (3 : Int32) (0 : Int32) p0.toInt64 p1.toInt64 tb bs bq (own_U 0 p0 p1 ta v31 tb bs bq) T119.heap n0 ZH G_b116 (own_ok 0 (by decide) p0 p1 HB rfl (0 : Int32) (3 : Int32) (by decide) (by decide)) (own_ok 0 (by decide) p0 p1 HB rfl (1 : Int32) (3 : Int32) (by decide) (by decide)) (own_ok 0 (by decide) p0 p1 HB rfl (2 : Int32) (3 : Int32) (by decide) (by decide))) hZ (hw _ (List.mem_of_getElem? (i := 134) rfl)) (hw _ (List.mem_of_getElem? (i := 133) rfl)) (by decide) (by decide)) (g := (mkF m 984 #[.val (.int p0), .val (.int p1), .val (.int p2), .val (.int p3), .val (.int p4), .val (.int p5), .val (.int (0 : Int32)), .val (.int ra), .val (.int v19), .val (.int v31), .val (.int ta), .val (.int bs), .val (.int bq), .val (.int tb), .val (.ref b5), .val (.ref b55), .val (.ref b116), .val (.ref b117), .val (.long p0.toInt64), .second, .val (.long p1.toInt64), .second] [(.int bq), (.int bs), (.int tb), (.long p1.toInt64), (.long p0.toInt64), (.int (0 : Int32)), (.int (3 : Int32)), (.int v31), (.int ta), (.ref b116)])) rfl (by rw [hml]; rfl) (argsL := [(.ref b116), (.int ta), (.int v31), (.int (3 : Int32)), (.int (0 : Int32)), (.long p0.toInt64), (.long p1.toInt64), (.int tb), (.int bs), (.int bq)]) (rest := []) (lenOf pd_4 rfl) rfl (by show 2 * 0 + _ ≤ _; exact Nat.le_of_eq rfl) (hb hby at_984) (fun _ _ => ⟨rfl, e122, (by decide : 4 + 0 ≤ _), (by decide : 158 + 0 ≤ _)⟩)
    dsimp only [Pt.U, Pt.locs, Pt.cells, Pt.slots] at X123 l123 y123 z123 st123 hQ123
    subst l123 y123 z123
    obtain ⟨rfl, Nq123, e123⟩ := hQ123
    have N123 := Fr.app N122 Nq123
    refine own_up st123 ?_
    show own_Go p.tables e below _ (T123.setTop (mkF m 987 #[.val (.int p0), .val (.int p1), .val (.int p2), .val (.int p3), .val (.int p4), .val (.int p5), .val (.int (0 : Int32)), .val (.int ra), .val (.int v19), .val (.int v31), .val (.int ta), .val (.int bs), .val (.int bq), .val (.int tb), .val (.ref b5), .val (.ref b55), .val (.ref b116), .val (.ref b117), .val (.long p0.toInt64), .second, .val (.long p1.toInt64), .second] [(.int (1 : Int32))]))
    refine own_up (fun _ kq => XS.ifNo X123.here hx rfl (hb hby at_987) rfl ((if0 _ _).trans (feq (by decide : ¬ ((1 : Int32) = (0 : Int32)))).1) kq) ?_
    show own_Go p.tables e below _ (T123.setTop (mkF m 990 #[.val (.int p0), .val (.int p1), .val (.int p2), .val (.int p3), .val (.int p4), .val (.int p5), .val (.int (0 : Int32)), .val (.int ra), .val (.int v19), .val (.int v31), .val (.int ta), .val (.int bs), .val (.int bq), .val (.int tb), .val (.ref b5), .val (.ref b55), .val (.ref b116), .val (.ref b117), .val (.long p0.toInt64), .second, .val (.long p1.toInt64), .second] []))
    refine own_up (fun _ kq => XS.aload X123.here hx rfl (hb hby at_990) rfl rfl kq) ?_
    show own_Go p.tables e below _ (T123.setTop (mkF m 992 #[.val (.int p0), .val (.int p1), .val (.int p2), .val (.int p3), .val (.int p4), .val (.int p5), .val (.int (0 : Int32)), .val (.int ra), .val (.int v19), .val (.int v31), .val (.int ta), .val (.int bs), .val (.int bq), .val (.int tb), .val (.ref b5), .val (.ref b55), .val (.ref b116), .val (.ref b117), .val (.long p0.toInt64), .second, .val (.long p1.toInt64), .second] [(.ref b116)]))
    refine own_up (fun _ kq => XS.iload X123.here hx rfl (hb hby at_992) rfl kq) ?_
    show own_Go p.tables e below _ (T123.setTop (mkF m 994 #[.val (.int p0), .val (.int p1), .val (.int p2), .val (.int p3), .val (.int p4), .val (.int p5), .val (.int (0 : Int32)), .val (.int ra), .val (.int v19), .val (.int v31), .val (.int ta), .val (.int bs), .val (.int bq), .val (.int tb), .val (.ref b5), .val (.ref b55), .val (.ref b116), .val (.ref b117), .val (.long p0.toInt64), .second, .val (.long p1.toInt64), .second] [(.int ta), (.ref b116)]))
    refine own_up (fun _ kq => XS.iload X123.here hx rfl (hb hby at_994) rfl kq) ?_
    show own_Go p.tables e below _ (T123.setTop (mkF m 996 #[.val (.int p0), .val (.int p1), .val (.int p2), .val (.int p3), .val (.int p4), .val (.int p5), .val (.int (0 : Int32)), .val (.int ra), .val (.int v19), .val (.int v31), .val (.int ta), .val (.int bs), .val (.int bq), .val (.int tb), .val (.ref b5), .val (.ref b55), .val (.ref b116), .val (.ref b117), .val (.long p0.toInt64), .second, .val (.long p1.toInt64), .second] [(.int v31), (.int ta), (.ref b116)]))
    refine own_up (fun _ kq => XS.iconst X123.here hx rfl (hb hby at_996) kq) ?_
    show own_Go p.tables e below _ (T123.setTop (mkF m 997 #[.val (.int p0), .val (.int p1), .val (.int p2), .val (.int p3), .val (.int p4), .val (.int p5), .val (.int (0 : Int32)), .val (.int ra), .val (.int v19), .val (.int v31), .val (.int ta), .val (.int bs), .val (.int bq), .val (.int tb), .val (.ref b5), .val (.ref b55), .val (.ref b116), .val (.ref b117), .val (.long p0.toInt64), .second, .val (.long p1.toInt64), .second] [(.int (4 : Int32)), (.int v31), (.int ta), (.ref b116)]))
    refine own_up (fun _ kq => XS.iload X123.here hx rfl (hb hby at_997) rfl kq) ?_
    show own_Go p.tables e below _ (T123.setTop (mkF m 999 #[.val (.int p0), .val (.int p1), .val (.int p2), .val (.int p3), .val (.int p4), .val (.int p5), .val (.int (0 : Int32)), .val (.int ra), .val (.int v19), .val (.int v31), .val (.int ta), .val (.int bs), .val (.int bq), .val (.int tb), .val (.ref b5), .val (.ref b55), .val (.ref b116), .val (.ref b117), .val (.long p0.toInt64), .second, .val (.long p1.toInt64), .second] [(.int (0 : Int32)), (.int (4 : Int32)), (.int v31), (.int ta), (.ref b116)]))
    refine own_up (fun _ kq => XS.lload X123.here hx rfl (hb hby at_999) rfl kq) ?_
    show own_Go p.tables e below _ (T123.setTop (mkF m 1001 #[.val (.int p0), .val (.int p1), .val (.int p2), .val (.int p3), .val (.int p4), .val (.int p5), .val (.int (0 : Int32)), .val (.int ra), .val (.int v19), .val (.int v31), .val (.int ta), .val (.int bs), .val (.int bq), .val (.int tb), .val (.ref b5), .val (.ref b55), .val (.ref b116), .val (.ref b117), .val (.long p0.toInt64), .second, .val (.long p1.toInt64), .second] [(.long p0.toInt64), (.int (0 : Int32)), (.int (4 : Int32)), (.int v31), (.int ta), (.ref b116)]))
    refine own_up (fun _ kq => XS.lload X123.here hx rfl (hb hby at_1001) rfl kq) ?_
    show own_Go p.tables e below _ (T123.setTop (mkF m 1003 #[.val (.int p0), .val (.int p1), .val (.int p2), .val (.int p3), .val (.int p4), .val (.int p5), .val (.int (0 : Int32)), .val (.int ra), .val (.int v19), .val (.int v31), .val (.int ta), .val (.int bs), .val (.int bq), .val (.int tb), .val (.ref b5), .val (.ref b55), .val (.ref b116), .val (.ref b117), .val (.long p0.toInt64), .second, .val (.long p1.toInt64), .second] [(.long p1.toInt64), (.long p0.toInt64), (.int (0 : Int32)), (.int (4 : Int32)), (.int v31), (.int ta), (.ref b116)]))
    refine own_up (fun _ kq => XS.iload X123.here hx rfl (hb hby at_1003) rfl kq) ?_
    show own_Go p.tables e below _ (T123.setTop (mkF m 1005 #[.val (.int p0), .val (.int p1), .val (.int p2), .val (.int p3), .val (.int p4), .val (.int p5), .val (.int (0 : Int32)), .val (.int ra), .val (.int v19), .val (.int v31), .val (.int ta), .val (.int bs), .val (.int bq), .val (.int tb), .val (.ref b5), .val (.ref b55), .val (.ref b116), .val (.ref b117), .val (.long p0.toInt64), .second, .val (.long p1.toInt64), .second] [(.int tb), (.long p1.toInt64), (.long p0.toInt64), (.int (0 : Int32)), (.int (4 : Int32)), (.int v31), (.int ta), (.ref b116)]))
    refine own_up (fun _ kq => XS.iload X123.here hx rfl (hb hby at_1005) rfl kq) ?_
    show own_Go p.tables e below _ (T123.setTop (mkF m 1007 #[.val (.int p0), .val (.int p1), .val (.int p2), .val (.int p3), .val (.int p4), .val (.int p5), .val (.int (0 : Int32)), .val (.int ra), .val (.int v19), .val (.int v31), .val (.int ta), .val (.int bs), .val (.int bq), .val (.int tb), .val (.ref b5), .val (.ref b55), .val (.ref b116), .val (.ref b117), .val (.long p0.toInt64), .second, .val (.long p1.toInt64), .second] [(.int bs), (.int tb), (.long p1.toInt64), (.long p0.toInt64), (.int (0 : Int32)), (.int (4 : Int32)), (.int v31), (.int ta), (.ref b116)]))
    refine own_up (fun _ kq => XS.iload X123.here hx rfl (hb hby at_1007) rfl kq) ?_
    show own_Go p.tables e below _ (T123.setTop (mkF m 1009 #[.val (.int p0), .val (.int p1), .val (.int p2), .val (.int p3), .val (.int p4), .val (.int p5), .val (.int (0 : Int32)), .val (.int ra), .val (.int v19), .val (.int v31), .val (.int ta), .val (.int bs), .val (.int bq), .val (.int tb), .val (.ref b5), .val (.ref b55), .val (.ref b116), .val (.ref b117), .val (.long p0.toInt64), .second, .val (.long p1.toInt64), .second] [(.int bq), (.int bs), (.int tb), (.long p1.toInt64), (.long p0.toInt64), (.int (0 : Int32)), (.int (4 : Int32)), (.int v31), (.int ta), (.ref b116)]))
    obtain ⟨_, _, ⟨T124, L124, k124, n124⟩, -, X124, ⟨Lc124, hQ124, l124, y124, z124⟩, st124⟩ := Jvm.LawKit.callS X123 hx (y := (⟨"com/example/indexica/indexica/ScaledSumEightRowsPinLaw", "row", "([DIIIIJJIII)Z"⟩ : MethodName)) hown (mvT hZ (hw _ (List.mem_of_getElem? (i := 131) rfl))) (mvT hZ (hw _ (List.mem_of_getElem? (i := 132) rfl))) (mvT hZ (hw _ (List.mem_of_getElem? (i := 133) rfl))) (mvT hZ (hw _ (List.mem_of_getElem? (i := 134) rfl))) (by decide) (backOf (W := 0) (rmW l Z a0 hw [] b116 ta v31 (4 : Int32) (0 : Int32) p0.toInt64 p1.toInt64 tb bs bq (own_U 0 p0 p1 ta v31 tb bs bq) T119.heap n0 ZH G_b116 (own_ok 0 (by decide) p0 p1 HB rfl (0 : Int32) (4 : Int32) (by decide) (by decide)) (own_ok 0 (by decide) p0 p1 HB rfl (1 : Int32) (4 : Int32) (by decide) (by decide)) (own_ok 0 (by decide) p0 p1 HB rfl (2 : Int32) (4 : Int32) (by decide) (by decide))) hZ (hw _ (List.mem_of_getElem? (i := 134) rfl)) (hw _ (List.mem_of_getElem? (i := 133) rfl)) (by decide) (by decide)) (g := (mkF m 1009 #[.val (.int p0), .val (.int p1), .val (.int p2), .val (.int p3), .val (.int p4), .val (.int p5), .val (.int (0 : Int32)), .val (.int ra), .val (.int v19), .val (.int v31), .val (.int ta), .val (.int bs), .val (.int bq), .val (.int tb), .val (.ref b5), .val (.ref b55), .val (.ref b116), .val (.ref b117), .val (.long p0.toInt64), .second, .val (.long p1.toInt64), .second] [(.int bq), (.int bs), (.int tb), (.long p1.toInt64), (.long p0.toInt64), (.int (0 : Int32)), (.int (4 : Int32)), (.int v31), (.int ta), (.ref b116)])) rfl (by rw [hml]; rfl) (argsL := [(.ref b116), (.int ta), (.int v31), (.int (4 : Int32)), (.int (0 : Int32)), (.long p0.toInt64), (.long p1.toInt64), (.int tb), (.int bs), (.int bq)]) (rest := []) (lenOf pd_4 rfl) rfl (by show 2 * 0 + _ ≤ _; exact Nat.le_of_eq rfl) (hb hby at_1009) (fun _ _ => ⟨rfl, e123, (by decide : 4 + 0 ≤ _), (by decide : 158 + 0 ≤ _)⟩)
    dsimp only [Pt.U, Pt.locs, Pt.cells, Pt.slots] at X124 l124 y124 z124 st124 hQ124
    subst l124 y124 z124
    obtain ⟨rfl, Nq124, e124⟩ := hQ124
    have N124 := Fr.app N123 Nq124
    refine own_up st124 ?_
    show own_Go p.tables e below _ (T124.setTop (mkF m 1012 #[.val (.int p0), .val (.int p1), .val (.int p2), .val (.int p3), .val (.int p4), .val (.int p5), .val (.int (0 : Int32)), .val (.int ra), .val (.int v19), .val (.int v31), .val (.int ta), .val (.int bs), .val (.int bq), .val (.int tb), .val (.ref b5), .val (.ref b55), .val (.ref b116), .val (.ref b117), .val (.long p0.toInt64), .second, .val (.long p1.toInt64), .second] [(.int (1 : Int32))]))
    refine own_up (fun _ kq => XS.ifNo X124.here hx rfl (hb hby at_1012) rfl ((if0 _ _).trans (feq (by decide : ¬ ((1 : Int32) = (0 : Int32)))).1) kq) ?_
    show own_Go p.tables e below _ (T124.setTop (mkF m 1015 #[.val (.int p0), .val (.int p1), .val (.int p2), .val (.int p3), .val (.int p4), .val (.int p5), .val (.int (0 : Int32)), .val (.int ra), .val (.int v19), .val (.int v31), .val (.int ta), .val (.int bs), .val (.int bq), .val (.int tb), .val (.ref b5), .val (.ref b55), .val (.ref b116), .val (.ref b117), .val (.long p0.toInt64), .second, .val (.long p1.toInt64), .second] []))
    refine own_up (fun _ kq => XS.aload X124.here hx rfl (hb hby at_1015) rfl rfl kq) ?_
    show own_Go p.tables e below _ (T124.setTop (mkF m 1017 #[.val (.int p0), .val (.int p1), .val (.int p2), .val (.int p3), .val (.int p4), .val (.int p5), .val (.int (0 : Int32)), .val (.int ra), .val (.int v19), .val (.int v31), .val (.int ta), .val (.int bs), .val (.int bq), .val (.int tb), .val (.ref b5), .val (.ref b55), .val (.ref b116), .val (.ref b117), .val (.long p0.toInt64), .second, .val (.long p1.toInt64), .second] [(.ref b116)]))
    refine own_up (fun _ kq => XS.iload X124.here hx rfl (hb hby at_1017) rfl kq) ?_
    show own_Go p.tables e below _ (T124.setTop (mkF m 1019 #[.val (.int p0), .val (.int p1), .val (.int p2), .val (.int p3), .val (.int p4), .val (.int p5), .val (.int (0 : Int32)), .val (.int ra), .val (.int v19), .val (.int v31), .val (.int ta), .val (.int bs), .val (.int bq), .val (.int tb), .val (.ref b5), .val (.ref b55), .val (.ref b116), .val (.ref b117), .val (.long p0.toInt64), .second, .val (.long p1.toInt64), .second] [(.int ta), (.ref b116)]))
    refine own_up (fun _ kq => XS.iload X124.here hx rfl (hb hby at_1019) rfl kq) ?_
    show own_Go p.tables e below _ (T124.setTop (mkF m 1021 #[.val (.int p0), .val (.int p1), .val (.int p2), .val (.int p3), .val (.int p4), .val (.int p5), .val (.int (0 : Int32)), .val (.int ra), .val (.int v19), .val (.int v31), .val (.int ta), .val (.int bs), .val (.int bq), .val (.int tb), .val (.ref b5), .val (.ref b55), .val (.ref b116), .val (.ref b117), .val (.long p0.toInt64), .second, .val (.long p1.toInt64), .second] [(.int v31), (.int ta), (.ref b116)]))
    refine own_up (fun _ kq => XS.iconst X124.here hx rfl (hb hby at_1021) kq) ?_
    show own_Go p.tables e below _ (T124.setTop (mkF m 1022 #[.val (.int p0), .val (.int p1), .val (.int p2), .val (.int p3), .val (.int p4), .val (.int p5), .val (.int (0 : Int32)), .val (.int ra), .val (.int v19), .val (.int v31), .val (.int ta), .val (.int bs), .val (.int bq), .val (.int tb), .val (.ref b5), .val (.ref b55), .val (.ref b116), .val (.ref b117), .val (.long p0.toInt64), .second, .val (.long p1.toInt64), .second] [(.int (5 : Int32)), (.int v31), (.int ta), (.ref b116)]))
    refine own_up (fun _ kq => XS.iload X124.here hx rfl (hb hby at_1022) rfl kq) ?_
    show own_Go p.tables e below _ (T124.setTop (mkF m 1024 #[.val (.int p0), .val (.int p1), .val (.int p2), .val (.int p3), .val (.int p4), .val (.int p5), .val (.int (0 : Int32)), .val (.int ra), .val (.int v19), .val (.int v31), .val (.int ta), .val (.int bs), .val (.int bq), .val (.int tb), .val (.ref b5), .val (.ref b55), .val (.ref b116), .val (.ref b117), .val (.long p0.toInt64), .second, .val (.long p1.toInt64), .second] [(.int (0 : Int32)), (.int (5 : Int32)), (.int v31), (.int ta), (.ref b116)]))
    refine own_up (fun _ kq => XS.lload X124.here hx rfl (hb hby at_1024) rfl kq) ?_
    show own_Go p.tables e below _ (T124.setTop (mkF m 1026 #[.val (.int p0), .val (.int p1), .val (.int p2), .val (.int p3), .val (.int p4), .val (.int p5), .val (.int (0 : Int32)), .val (.int ra), .val (.int v19), .val (.int v31), .val (.int ta), .val (.int bs), .val (.int bq), .val (.int tb), .val (.ref b5), .val (.ref b55), .val (.ref b116), .val (.ref b117), .val (.long p0.toInt64), .second, .val (.long p1.toInt64), .second] [(.long p0.toInt64), (.int (0 : Int32)), (.int (5 : Int32)), (.int v31), (.int ta), (.ref b116)]))
    refine own_up (fun _ kq => XS.lload X124.here hx rfl (hb hby at_1026) rfl kq) ?_
    show own_Go p.tables e below _ (T124.setTop (mkF m 1028 #[.val (.int p0), .val (.int p1), .val (.int p2), .val (.int p3), .val (.int p4), .val (.int p5), .val (.int (0 : Int32)), .val (.int ra), .val (.int v19), .val (.int v31), .val (.int ta), .val (.int bs), .val (.int bq), .val (.int tb), .val (.ref b5), .val (.ref b55), .val (.ref b116), .val (.ref b117), .val (.long p0.toInt64), .second, .val (.long p1.toInt64), .second] [(.long p1.toInt64), (.long p0.toInt64), (.int (0 : Int32)), (.int (5 : Int32)), (.int v31), (.int ta), (.ref b116)]))
    refine own_up (fun _ kq => XS.iload X124.here hx rfl (hb hby at_1028) rfl kq) ?_
    show own_Go p.tables e below _ (T124.setTop (mkF m 1030 #[.val (.int p0), .val (.int p1), .val (.int p2), .val (.int p3), .val (.int p4), .val (.int p5), .val (.int (0 : Int32)), .val (.int ra), .val (.int v19), .val (.int v31), .val (.int ta), .val (.int bs), .val (.int bq), .val (.int tb), .val (.ref b5), .val (.ref b55), .val (.ref b116), .val (.ref b117), .val (.long p0.toInt64), .second, .val (.long p1.toInt64), .second] [(.int tb), (.long p1.toInt64), (.long p0.toInt64), (.int (0 : Int32)), (.int (5 : Int32)), (.int v31), (.int ta), (.ref b116)]))
    refine own_up (fun _ kq => XS.iload X124.here hx rfl (hb hby at_1030) rfl kq) ?_
    show own_Go p.tables e below _ (T124.setTop (mkF m 1032 #[.val (.int p0), .val (.int p1), .val (.int p2), .val (.int p3), .val (.int p4), .val (.int p5), .val (.int (0 : Int32)), .val (.int ra), .val (.int v19), .val (.int v31), .val (.int ta), .val (.int bs), .val (.int bq), .val (.int tb), .val (.ref b5), .val (.ref b55), .val (.ref b116), .val (.ref b117), .val (.long p0.toInt64), .second, .val (.long p1.toInt64), .second] [(.int bs), (.int tb), (.long p1.toInt64), (.long p0.toInt64), (.int (0 : Int32)), (.int (5 : Int32)), (.int v31), (.int ta), (.ref b116)]))
    refine own_up (fun _ kq => XS.iload X124.here hx rfl (hb hby at_1032) rfl kq) ?_
    show own_Go p.tables e below _ (T124.setTop (mkF m 1034 #[.val (.int p0), .val (.int p1), .val (.int p2), .val (.int p3), .val (.int p4), .val (.int p5), .val (.int (0 : Int32)), .val (.int ra), .val (.int v19), .val (.int v31), .val (.int ta), .val (.int bs), .val (.int bq), .val (.int tb), .val (.ref b5), .val (.ref b55), .val (.ref b116), .val (.ref b117), .val (.long p0.toInt64), .second, .val (.long p1.toInt64), .second] [(.int bq), (.int bs), (.int tb), (.long p1.toInt64), (.long p0.toInt64), (.int (0 : Int32)), (.int (5 : Int32)), (.int v31), (.int ta), (.ref b116)]))
    obtain ⟨_, _, ⟨T125, L125, k125, n125⟩, -, X125, ⟨Lc125, hQ125, l125, y125, z125⟩, st125⟩ := Jvm.LawKit.callS X124 hx (y := (⟨"com/example/indexica/indexica/ScaledSumEightRowsPinLaw", "row", "([DIIIIJJIII)Z"⟩ : MethodName)) hown (mvT hZ (hw _ (List.mem_of_getElem? (i := 131) rfl))) (mvT hZ (hw _ (List.mem_of_getElem? (i := 132) rfl))) (mvT hZ (hw _ (List.mem_of_getElem? (i := 133) rfl))) (mvT hZ (hw _ (List.mem_of_getElem? (i := 134) rfl))) (by decide) (backOf (W := 0) (rmW l Z a0 hw [] b116 ta v31 (5 : Int32) (0 : Int32) p0.toInt64 p1.toInt64 tb bs bq (own_U 0 p0 p1 ta v31 tb bs bq) T119.heap n0 ZH G_b116 (own_ok 0 (by decide) p0 p1 HB rfl (0 : Int32) (5 : Int32) (by decide) (by decide)) (own_ok 0 (by decide) p0 p1 HB rfl (1 : Int32) (5 : Int32) (by decide) (by decide)) (own_ok 0 (by decide) p0 p1 HB rfl (2 : Int32) (5 : Int32) (by decide) (by decide))) hZ (hw _ (List.mem_of_getElem? (i := 134) rfl)) (hw _ (List.mem_of_getElem? (i := 133) rfl)) (by decide) (by decide)) (g := (mkF m 1034 #[.val (.int p0), .val (.int p1), .val (.int p2), .val (.int p3), .val (.int p4), .val (.int p5), .val (.int (0 : Int32)), .val (.int ra), .val (.int v19), .val (.int v31), .val (.int ta), .val (.int bs), .val (.int bq), .val (.int tb), .val (.ref b5), .val (.ref b55), .val (.ref b116), .val (.ref b117), .val (.long p0.toInt64), .second, .val (.long p1.toInt64), .second] [(.int bq), (.int bs), (.int tb), (.long p1.toInt64), (.long p0.toInt64), (.int (0 : Int32)), (.int (5 : Int32)), (.int v31), (.int ta), (.ref b116)])) rfl (by rw [hml]; rfl) (argsL := [(.ref b116), (.int ta), (.int v31), (.int (5 : Int32)), (.int (0 : Int32)), (.long p0.toInt64), (.long p1.toInt64), (.int tb), (.int bs), (.int bq)]) (rest := []) (lenOf pd_4 rfl) rfl (by show 2 * 0 + _ ≤ _; exact Nat.le_of_eq rfl) (hb hby at_1034) (fun _ _ => ⟨rfl, e124, (by decide : 4 + 0 ≤ _), (by decide : 158 + 0 ≤ _)⟩)
    dsimp only [Pt.U, Pt.locs, Pt.cells, Pt.slots] at X125 l125 y125 z125 st125 hQ125
    subst l125 y125 z125
    obtain ⟨rfl, Nq125, e125⟩ := hQ125
    have N125 := Fr.app N124 Nq125
    refine own_up st125 ?_
    show own_Go p.tables e below _ (T125.setTop (mkF m 1037 #[.val (.int p0), .val (.int p1), .val (.int p2), .val (.int p3), .val (.int p4), .val (.int p5), .val (.int (0 : Int32)), .val (.int ra), .val (.int v19), .val (.int v31), .val (.int ta), .val (.int bs), .val (.int bq), .val (.int tb), .val (.ref b5), .val (.ref b55), .val (.ref b116), .val (.ref b117), .val (.long p0.toInt64), .second, .val (.long p1.toInt64), .second] [(.int (1 : Int32))]))
    refine own_up (fun _ kq => XS.ifNo X125.here hx rfl (hb hby at_1037) rfl ((if0 _ _).trans (feq (by decide : ¬ ((1 : Int32) = (0 : Int32)))).1) kq) ?_
    show own_Go p.tables e below _ (T125.setTop (mkF m 1040 #[.val (.int p0), .val (.int p1), .val (.int p2), .val (.int p3), .val (.int p4), .val (.int p5), .val (.int (0 : Int32)), .val (.int ra), .val (.int v19), .val (.int v31), .val (.int ta), .val (.int bs), .val (.int bq), .val (.int tb), .val (.ref b5), .val (.ref b55), .val (.ref b116), .val (.ref b117), .val (.long p0.toInt64), .second, .val (.long p1.toInt64), .second] []))
    refine own_up (fun _ kq => XS.aload X125.here hx rfl (hb hby at_1040) rfl rfl kq) ?_
    show own_Go p.tables e below _ (T125.setTop (mkF m 1042 #[.val (.int p0), .val (.int p1), .val (.int p2), .val (.int p3), .val (.int p4), .val (.int p5), .val (.int (0 : Int32)), .val (.int ra), .val (.int v19), .val (.int v31), .val (.int ta), .val (.int bs), .val (.int bq), .val (.int tb), .val (.ref b5), .val (.ref b55), .val (.ref b116), .val (.ref b117), .val (.long p0.toInt64), .second, .val (.long p1.toInt64), .second] [(.ref b116)]))
    refine own_up (fun _ kq => XS.iload X125.here hx rfl (hb hby at_1042) rfl kq) ?_
    show own_Go p.tables e below _ (T125.setTop (mkF m 1044 #[.val (.int p0), .val (.int p1), .val (.int p2), .val (.int p3), .val (.int p4), .val (.int p5), .val (.int (0 : Int32)), .val (.int ra), .val (.int v19), .val (.int v31), .val (.int ta), .val (.int bs), .val (.int bq), .val (.int tb), .val (.ref b5), .val (.ref b55), .val (.ref b116), .val (.ref b117), .val (.long p0.toInt64), .second, .val (.long p1.toInt64), .second] [(.int ta), (.ref b116)]))
    refine own_up (fun _ kq => XS.iload X125.here hx rfl (hb hby at_1044) rfl kq) ?_
    show own_Go p.tables e below _ (T125.setTop (mkF m 1046 #[.val (.int p0), .val (.int p1), .val (.int p2), .val (.int p3), .val (.int p4), .val (.int p5), .val (.int (0 : Int32)), .val (.int ra), .val (.int v19), .val (.int v31), .val (.int ta), .val (.int bs), .val (.int bq), .val (.int tb), .val (.ref b5), .val (.ref b55), .val (.ref b116), .val (.ref b117), .val (.long p0.toInt64), .second, .val (.long p1.toInt64), .second] [(.int v31), (.int ta), (.ref b116)]))
    refine own_up (fun _ kq => XS.bipush X125.here hx rfl (hb hby at_1046) kq) ?_
    show own_Go p.tables e below _ (T125.setTop (mkF m 1048 #[.val (.int p0), .val (.int p1), .val (.int p2), .val (.int p3), .val (.int p4), .val (.int p5), .val (.int (0 : Int32)), .val (.int ra), .val (.int v19), .val (.int v31), .val (.int ta), .val (.int bs), .val (.int bq), .val (.int tb), .val (.ref b5), .val (.ref b55), .val (.ref b116), .val (.ref b117), .val (.long p0.toInt64), .second, .val (.long p1.toInt64), .second] [(.int (6 : Int32)), (.int v31), (.int ta), (.ref b116)]))
    refine own_up (fun _ kq => XS.iload X125.here hx rfl (hb hby at_1048) rfl kq) ?_
    show own_Go p.tables e below _ (T125.setTop (mkF m 1050 #[.val (.int p0), .val (.int p1), .val (.int p2), .val (.int p3), .val (.int p4), .val (.int p5), .val (.int (0 : Int32)), .val (.int ra), .val (.int v19), .val (.int v31), .val (.int ta), .val (.int bs), .val (.int bq), .val (.int tb), .val (.ref b5), .val (.ref b55), .val (.ref b116), .val (.ref b117), .val (.long p0.toInt64), .second, .val (.long p1.toInt64), .second] [(.int (0 : Int32)), (.int (6 : Int32)), (.int v31), (.int ta), (.ref b116)]))
    refine own_up (fun _ kq => XS.lload X125.here hx rfl (hb hby at_1050) rfl kq) ?_
    show own_Go p.tables e below _ (T125.setTop (mkF m 1052 #[.val (.int p0), .val (.int p1), .val (.int p2), .val (.int p3), .val (.int p4), .val (.int p5), .val (.int (0 : Int32)), .val (.int ra), .val (.int v19), .val (.int v31), .val (.int ta), .val (.int bs), .val (.int bq), .val (.int tb), .val (.ref b5), .val (.ref b55), .val (.ref b116), .val (.ref b117), .val (.long p0.toInt64), .second, .val (.long p1.toInt64), .second] [(.long p0.toInt64), (.int (0 : Int32)), (.int (6 : Int32)), (.int v31), (.int ta), (.ref b116)]))
    refine own_up (fun _ kq => XS.lload X125.here hx rfl (hb hby at_1052) rfl kq) ?_
    show own_Go p.tables e below _ (T125.setTop (mkF m 1054 #[.val (.int p0), .val (.int p1), .val (.int p2), .val (.int p3), .val (.int p4), .val (.int p5), .val (.int (0 : Int32)), .val (.int ra), .val (.int v19), .val (.int v31), .val (.int ta), .val (.int bs), .val (.int bq), .val (.int tb), .val (.ref b5), .val (.ref b55), .val (.ref b116), .val (.ref b117), .val (.long p0.toInt64), .second, .val (.long p1.toInt64), .second] [(.long p1.toInt64), (.long p0.toInt64), (.int (0 : Int32)), (.int (6 : Int32)), (.int v31), (.int ta), (.ref b116)]))
    refine own_up (fun _ kq => XS.iload X125.here hx rfl (hb hby at_1054) rfl kq) ?_
    show own_Go p.tables e below _ (T125.setTop (mkF m 1056 #[.val (.int p0), .val (.int p1), .val (.int p2), .val (.int p3), .val (.int p4), .val (.int p5), .val (.int (0 : Int32)), .val (.int ra), .val (.int v19), .val (.int v31), .val (.int ta), .val (.int bs), .val (.int bq), .val (.int tb), .val (.ref b5), .val (.ref b55), .val (.ref b116), .val (.ref b117), .val (.long p0.toInt64), .second, .val (.long p1.toInt64), .second] [(.int tb), (.long p1.toInt64), (.long p0.toInt64), (.int (0 : Int32)), (.int (6 : Int32)), (.int v31), (.int ta), (.ref b116)]))
    refine own_up (fun _ kq => XS.iload X125.here hx rfl (hb hby at_1056) rfl kq) ?_
    show own_Go p.tables e below _ (T125.setTop (mkF m 1058 #[.val (.int p0), .val (.int p1), .val (.int p2), .val (.int p3), .val (.int p4), .val (.int p5), .val (.int (0 : Int32)), .val (.int ra), .val (.int v19), .val (.int v31), .val (.int ta), .val (.int bs), .val (.int bq), .val (.int tb), .val (.ref b5), .val (.ref b55), .val (.ref b116), .val (.ref b117), .val (.long p0.toInt64), .second, .val (.long p1.toInt64), .second] [(.int bs), (.int tb), (.long p1.toInt64), (.long p0.toInt64), (.int (0 : Int32)), (.int (6 : Int32)), (.int v31), (.int ta), (.ref b116)]))
    refine own_up (fun _ kq => XS.iload X125.here hx rfl (hb hby at_1058) rfl kq) ?_
    show own_Go p.tables e below _ (T125.setTop (mkF m 1060 #[.val (.int p0), .val (.int p1), .val (.int p2), .val (.int p3), .val (.int p4), .val (.int p5), .val (.int (0 : Int32)), .val (.int ra), .val (.int v19), .val (.int v31), .val (.int ta), .val (.int bs), .val (.int bq), .val (.int tb), .val (.ref b5), .val (.ref b55), .val (.ref b116), .val (.ref b117), .val (.long p0.toInt64), .second, .val (.long p1.toInt64), .second] [(.int bq), (.int bs), (.int tb), (.long p1.toInt64), (.long p0.toInt64), (.int (0 : Int32)), (.int (6 : Int32)), (.int v31), (.int ta), (.ref b116)]))
    obtain ⟨_, _, ⟨T126, L126, k126, n126⟩, -, X126, ⟨Lc126, hQ126, l126, y126, z126⟩, st126⟩ := Jvm.LawKit.callS X125 hx (y := (⟨"com/example/indexica/indexica/ScaledSumEightRowsPinLaw", "row", "([DIIIIJJIII)Z"⟩ : MethodName)) hown (mvT hZ (hw _ (List.mem_of_getElem? (i := 131) rfl))) (mvT hZ (hw _ (List.mem_of_getElem? (i := 132) rfl))) (mvT hZ (hw _ (List.mem_of_getElem? (i := 133) rfl))) (mvT hZ (hw _ (List.mem_of_getElem? (i := 134) rfl))) (by decide) (backOf (W := 0) (rmW l Z a0 hw [] b116 ta v31 (6 : Int32) (0 : Int32) p0.toInt64 p1.toInt64 tb bs bq (own_U 0 p0 p1 ta v31 tb bs bq) T119.heap n0 ZH G_b116 (own_ok 0 (by decide) p0 p1 HB rfl (0 : Int32) (6 : Int32) (by decide) (by decide)) (own_ok 0 (by decide) p0 p1 HB rfl (1 : Int32) (6 : Int32) (by decide) (by decide)) (own_ok 0 (by decide) p0 p1 HB rfl (2 : Int32) (6 : Int32) (by decide) (by decide))) hZ (hw _ (List.mem_of_getElem? (i := 134) rfl)) (hw _ (List.mem_of_getElem? (i := 133) rfl)) (by decide) (by decide)) (g := (mkF m 1060 #[.val (.int p0), .val (.int p1), .val (.int p2), .val (.int p3), .val (.int p4), .val (.int p5), .val (.int (0 : Int32)), .val (.int ra), .val (.int v19), .val (.int v31), .val (.int ta), .val (.int bs), .val (.int bq), .val (.int tb), .val (.ref b5), .val (.ref b55), .val (.ref b116), .val (.ref b117), .val (.long p0.toInt64), .second, .val (.long p1.toInt64), .second] [(.int bq), (.int bs), (.int tb), (.long p1.toInt64), (.long p0.toInt64), (.int (0 : Int32)), (.int (6 : Int32)), (.int v31), (.int ta), (.ref b116)])) rfl (by rw [hml]; rfl) (argsL := [(.ref b116), (.int ta), (.int v31), (.int (6 : Int32)), (.int (0 : Int32)), (.long p0.toInt64), (.long p1.toInt64), (.int tb), (.int bs), (.int bq)]) (rest := []) (lenOf pd_4 rfl) rfl (by show 2 * 0 + _ ≤ _; exact Nat.le_of_eq rfl) (hb hby at_1060) (fun _ _ => ⟨rfl, e125, (by decide : 4 + 0 ≤ _), (by decide : 158 + 0 ≤ _)⟩)
    dsimp only [Pt.U, Pt.locs, Pt.cells, Pt.slots] at X126 l126 y126 z126 st126 hQ126
    subst l126 y126 z126
    obtain ⟨rfl, Nq126, e126⟩ := hQ126
    have N126 := Fr.app N125 Nq126
    refine own_up st126 ?_
    show own_Go p.tables e below _ (T126.setTop (mkF m 1063 #[.val (.int p0), .val (.int p1), .val (.int p2), .val (.int p3), .val (.int p4), .val (.int p5), .val (.int (0 : Int32)), .val (.int ra), .val (.int v19), .val (.int v31), .val (.int ta), .val (.int bs), .val (.int bq), .val (.int tb), .val (.ref b5), .val (.ref b55), .val (.ref b116), .val (.ref b117), .val (.long p0.toInt64), .second, .val (.long p1.toInt64), .second] [(.int (1 : Int32))]))
    refine own_up (fun _ kq => XS.ifNo X126.here hx rfl (hb hby at_1063) rfl ((if0 _ _).trans (feq (by decide : ¬ ((1 : Int32) = (0 : Int32)))).1) kq) ?_
    show own_Go p.tables e below _ (T126.setTop (mkF m 1066 #[.val (.int p0), .val (.int p1), .val (.int p2), .val (.int p3), .val (.int p4), .val (.int p5), .val (.int (0 : Int32)), .val (.int ra), .val (.int v19), .val (.int v31), .val (.int ta), .val (.int bs), .val (.int bq), .val (.int tb), .val (.ref b5), .val (.ref b55), .val (.ref b116), .val (.ref b117), .val (.long p0.toInt64), .second, .val (.long p1.toInt64), .second] []))
    refine own_up (fun _ kq => XS.aload X126.here hx rfl (hb hby at_1066) rfl rfl kq) ?_
    show own_Go p.tables e below _ (T126.setTop (mkF m 1068 #[.val (.int p0), .val (.int p1), .val (.int p2), .val (.int p3), .val (.int p4), .val (.int p5), .val (.int (0 : Int32)), .val (.int ra), .val (.int v19), .val (.int v31), .val (.int ta), .val (.int bs), .val (.int bq), .val (.int tb), .val (.ref b5), .val (.ref b55), .val (.ref b116), .val (.ref b117), .val (.long p0.toInt64), .second, .val (.long p1.toInt64), .second] [(.ref b116)]))
    refine own_up (fun _ kq => XS.iload X126.here hx rfl (hb hby at_1068) rfl kq) ?_
    show own_Go p.tables e below _ (T126.setTop (mkF m 1070 #[.val (.int p0), .val (.int p1), .val (.int p2), .val (.int p3), .val (.int p4), .val (.int p5), .val (.int (0 : Int32)), .val (.int ra), .val (.int v19), .val (.int v31), .val (.int ta), .val (.int bs), .val (.int bq), .val (.int tb), .val (.ref b5), .val (.ref b55), .val (.ref b116), .val (.ref b117), .val (.long p0.toInt64), .second, .val (.long p1.toInt64), .second] [(.int ta), (.ref b116)]))
    refine own_up (fun _ kq => XS.iload X126.here hx rfl (hb hby at_1070) rfl kq) ?_
    show own_Go p.tables e below _ (T126.setTop (mkF m 1072 #[.val (.int p0), .val (.int p1), .val (.int p2), .val (.int p3), .val (.int p4), .val (.int p5), .val (.int (0 : Int32)), .val (.int ra), .val (.int v19), .val (.int v31), .val (.int ta), .val (.int bs), .val (.int bq), .val (.int tb), .val (.ref b5), .val (.ref b55), .val (.ref b116), .val (.ref b117), .val (.long p0.toInt64), .second, .val (.long p1.toInt64), .second] [(.int v31), (.int ta), (.ref b116)]))
    refine own_up (fun _ kq => XS.bipush X126.here hx rfl (hb hby at_1072) kq) ?_
    show own_Go p.tables e below _ (T126.setTop (mkF m 1074 #[.val (.int p0), .val (.int p1), .val (.int p2), .val (.int p3), .val (.int p4), .val (.int p5), .val (.int (0 : Int32)), .val (.int ra), .val (.int v19), .val (.int v31), .val (.int ta), .val (.int bs), .val (.int bq), .val (.int tb), .val (.ref b5), .val (.ref b55), .val (.ref b116), .val (.ref b117), .val (.long p0.toInt64), .second, .val (.long p1.toInt64), .second] [(.int (7 : Int32)), (.int v31), (.int ta), (.ref b116)]))
    refine own_up (fun _ kq => XS.iload X126.here hx rfl (hb hby at_1074) rfl kq) ?_
    show own_Go p.tables e below _ (T126.setTop (mkF m 1076 #[.val (.int p0), .val (.int p1), .val (.int p2), .val (.int p3), .val (.int p4), .val (.int p5), .val (.int (0 : Int32)), .val (.int ra), .val (.int v19), .val (.int v31), .val (.int ta), .val (.int bs), .val (.int bq), .val (.int tb), .val (.ref b5), .val (.ref b55), .val (.ref b116), .val (.ref b117), .val (.long p0.toInt64), .second, .val (.long p1.toInt64), .second] [(.int (0 : Int32)), (.int (7 : Int32)), (.int v31), (.int ta), (.ref b116)]))
    refine own_up (fun _ kq => XS.lload X126.here hx rfl (hb hby at_1076) rfl kq) ?_
    show own_Go p.tables e below _ (T126.setTop (mkF m 1078 #[.val (.int p0), .val (.int p1), .val (.int p2), .val (.int p3), .val (.int p4), .val (.int p5), .val (.int (0 : Int32)), .val (.int ra), .val (.int v19), .val (.int v31), .val (.int ta), .val (.int bs), .val (.int bq), .val (.int tb), .val (.ref b5), .val (.ref b55), .val (.ref b116), .val (.ref b117), .val (.long p0.toInt64), .second, .val (.long p1.toInt64), .second] [(.long p0.toInt64), (.int (0 : Int32)), (.int (7 : Int32)), (.int v31), (.int ta), (.ref b116)]))
    refine own_up (fun _ kq => XS.lload X126.here hx rfl (hb hby at_1078) rfl kq) ?_
    show own_Go p.tables e below _ (T126.setTop (mkF m 1080 #[.val (.int p0), .val (.int p1), .val (.int p2), .val (.int p3), .val (.int p4), .val (.int p5), .val (.int (0 : Int32)), .val (.int ra), .val (.int v19), .val (.int v31), .val (.int ta), .val (.int bs), .val (.int bq), .val (.int tb), .val (.ref b5), .val (.ref b55), .val (.ref b116), .val (.ref b117), .val (.long p0.toInt64), .second, .val (.long p1.toInt64), .second] [(.long p1.toInt64), (.long p0.toInt64), (.int (0 : Int32)), (.int (7 : Int32)), (.int v31), (.int ta), (.ref b116)]))
    refine own_up (fun _ kq => XS.iload X126.here hx rfl (hb hby at_1080) rfl kq) ?_
    show own_Go p.tables e below _ (T126.setTop (mkF m 1082 #[.val (.int p0), .val (.int p1), .val (.int p2), .val (.int p3), .val (.int p4), .val (.int p5), .val (.int (0 : Int32)), .val (.int ra), .val (.int v19), .val (.int v31), .val (.int ta), .val (.int bs), .val (.int bq), .val (.int tb), .val (.ref b5), .val (.ref b55), .val (.ref b116), .val (.ref b117), .val (.long p0.toInt64), .second, .val (.long p1.toInt64), .second] [(.int tb), (.long p1.toInt64), (.long p0.toInt64), (.int (0 : Int32)), (.int (7 : Int32)), (.int v31), (.int ta), (.ref b116)]))
    refine own_up (fun _ kq => XS.iload X126.here hx rfl (hb hby at_1082) rfl kq) ?_
    show own_Go p.tables e below _ (T126.setTop (mkF m 1084 #[.val (.int p0), .val (.int p1), .val (.int p2), .val (.int p3), .val (.int p4), .val (.int p5), .val (.int (0 : Int32)), .val (.int ra), .val (.int v19), .val (.int v31), .val (.int ta), .val (.int bs), .val (.int bq), .val (.int tb), .val (.ref b5), .val (.ref b55), .val (.ref b116), .val (.ref b117), .val (.long p0.toInt64), .second, .val (.long p1.toInt64), .second] [(.int bs), (.int tb), (.long p1.toInt64), (.long p0.toInt64), (.int (0 : Int32)), (.int (7 : Int32)), (.int v31), (.int ta), (.ref b116)]))
    refine own_up (fun _ kq => XS.iload X126.here hx rfl (hb hby at_1084) rfl kq) ?_
    show own_Go p.tables e below _ (T126.setTop (mkF m 1086 #[.val (.int p0), .val (.int p1), .val (.int p2), .val (.int p3), .val (.int p4), .val (.int p5), .val (.int (0 : Int32)), .val (.int ra), .val (.int v19), .val (.int v31), .val (.int ta), .val (.int bs), .val (.int bq), .val (.int tb), .val (.ref b5), .val (.ref b55), .val (.ref b116), .val (.ref b117), .val (.long p0.toInt64), .second, .val (.long p1.toInt64), .second] [(.int bq), (.int bs), (.int tb), (.long p1.toInt64), (.long p0.toInt64), (.int (0 : Int32)), (.int (7 : Int32)), (.int v31), (.int ta), (.ref b116)]))
    obtain ⟨_, _, ⟨T127, L127, k127, n127⟩, -, X127, ⟨Lc127, hQ127, l127, y127, z127⟩, st127⟩ := Jvm.LawKit.callS X126 hx (y := (⟨"com/example/indexica/indexica/ScaledSumEightRowsPinLaw", "row", "([DIIIIJJIII)Z"⟩ : MethodName)) hown (mvT hZ (hw _ (List.mem_of_getElem? (i := 131) rfl))) (mvT hZ (hw _ (List.mem_of_getElem? (i := 132) rfl))) (mvT hZ (hw _ (List.mem_of_getElem? (i := 133) rfl))) (mvT hZ (hw _ (List.mem_of_getElem? (i := 134) rfl))) (by decide) (backOf (W := 0) (rmW l Z a0 hw [] b116 ta v31 (7 : Int32) (0 : Int32) p0.toInt64 p1.toInt64 tb bs bq (own_U 0 p0 p1 ta v31 tb bs bq) T119.heap n0 ZH G_b116 (own_ok 0 (by decide) p0 p1 HB rfl (0 : Int32) (7 : Int32) (by decide) (by decide)) (own_ok 0 (by decide) p0 p1 HB rfl (1 : Int32) (7 : Int32) (by decide) (by decide)) (own_ok 0 (by decide) p0 p1 HB rfl (2 : Int32) (7 : Int32) (by decide) (by decide))) hZ (hw _ (List.mem_of_getElem? (i := 134) rfl)) (hw _ (List.mem_of_getElem? (i := 133) rfl)) (by decide) (by decide)) (g := (mkF m 1086 #[.val (.int p0), .val (.int p1), .val (.int p2), .val (.int p3), .val (.int p4), .val (.int p5), .val (.int (0 : Int32)), .val (.int ra), .val (.int v19), .val (.int v31), .val (.int ta), .val (.int bs), .val (.int bq), .val (.int tb), .val (.ref b5), .val (.ref b55), .val (.ref b116), .val (.ref b117), .val (.long p0.toInt64), .second, .val (.long p1.toInt64), .second] [(.int bq), (.int bs), (.int tb), (.long p1.toInt64), (.long p0.toInt64), (.int (0 : Int32)), (.int (7 : Int32)), (.int v31), (.int ta), (.ref b116)])) rfl (by rw [hml]; rfl) (argsL := [(.ref b116), (.int ta), (.int v31), (.int (7 : Int32)), (.int (0 : Int32)), (.long p0.toInt64), (.long p1.toInt64), (.int tb), (.int bs), (.int bq)]) (rest := []) (lenOf pd_4 rfl) rfl (by show 2 * 0 + _ ≤ _; exact Nat.le_of_eq rfl) (hb hby at_1086) (fun _ _ => ⟨rfl, e126, (by decide : 4 + 0 ≤ _), (by decide : 158 + 0 ≤ _)⟩)
    dsimp only [Pt.U, Pt.locs, Pt.cells, Pt.slots] at X127 l127 y127 z127 st127 hQ127
    subst l127 y127 z127
    obtain ⟨rfl, Nq127, e127⟩ := hQ127
    have N127 := Fr.app N126 Nq127
    refine own_up st127 ?_
    show own_Go p.tables e below _ (T127.setTop (mkF m 1089 #[.val (.int p0), .val (.int p1), .val (.int p2), .val (.int p3), .val (.int p4), .val (.int p5), .val (.int (0 : Int32)), .val (.int ra), .val (.int v19), .val (.int v31), .val (.int ta), .val (.int bs), .val (.int bq), .val (.int tb), .val (.ref b5), .val (.ref b55), .val (.ref b116), .val (.ref b117), .val (.long p0.toInt64), .second, .val (.long p1.toInt64), .second] [(.int (1 : Int32))]))
    refine own_up (fun _ kq => XS.ifNo X127.here hx rfl (hb hby at_1089) rfl ((if0 _ _).trans (feq (by decide : ¬ ((1 : Int32) = (0 : Int32)))).1) kq) ?_
    show own_Go p.tables e below _ (T127.setTop (mkF m 1092 #[.val (.int p0), .val (.int p1), .val (.int p2), .val (.int p3), .val (.int p4), .val (.int p5), .val (.int (0 : Int32)), .val (.int ra), .val (.int v19), .val (.int v31), .val (.int ta), .val (.int bs), .val (.int bq), .val (.int tb), .val (.ref b5), .val (.ref b55), .val (.ref b116), .val (.ref b117), .val (.long p0.toInt64), .second, .val (.long p1.toInt64), .second] []))
    refine own_up (fun _ kq => XS.iconst X127.here hx rfl (hb hby at_1092) kq) ?_
    show own_Go p.tables e below _ (T127.setTop (mkF m 1093 #[.val (.int p0), .val (.int p1), .val (.int p2), .val (.int p3), .val (.int p4), .val (.int p5), .val (.int (0 : Int32)), .val (.int ra), .val (.int v19), .val (.int v31), .val (.int ta), .val (.int bs), .val (.int bq), .val (.int tb), .val (.ref b5), .val (.ref b55), .val (.ref b116), .val (.ref b117), .val (.long p0.toInt64), .second, .val (.long p1.toInt64), .second] [(.int (1 : Int32))]))
    refine own_up (fun _ kq => XS.goto X127.here hx rfl (pc0 := 1093) (pc' := 1097) rfl (hb hby at_1093) (by decide) (by decide) kq) ?_
    show own_Go p.tables e below _ (T127.setTop (mkF m 1097 #[.val (.int p0), .val (.int p1), .val (.int p2), .val (.int p3), .val (.int p4), .val (.int p5), .val (.int (0 : Int32)), .val (.int ra), .val (.int v19), .val (.int v31), .val (.int ta), .val (.int bs), .val (.int bq), .val (.int tb), .val (.ref b5), .val (.ref b55), .val (.ref b116), .val (.ref b117), .val (.long p0.toInt64), .second, .val (.long p1.toInt64), .second] [(.int (1 : Int32))]))
    obtain ⟨fs128, hr128, hrun128, hended128, hW128, hsame128⟩ := X127.leave (v := some (.int (1 : Int32))) (fun h => by rw [Bd.returns] at h; cases h)
    refine own_end ⟨_, _, ?_, hrun128, hended128, _, _, rfl, ?_, ⟨_, rfl⟩, hW128, hsame128.mono (by decide) (by decide)⟩
    · exact retN X127 hx (t := .boolean) Bd.returns (by simp) (hb hby at_1097) hr128
    · show Qrm0 Z p0 p1 p2 p3 p4 p5 h0 n0 _ T127.heap _
      rw [e127]
      exact ⟨rfl, N127⟩
  · show own_Go p.tables e below _ (T118.setTop (mkF m 879 #[.val (.int p0), .val (.int p1), .val (.int p2), .val (.int p3), .val (.int p4), .val (.int p5), .val (.int (1 : Int32)), .val (.int ra), .val (.int v19), .val (.int v31), .val (.int ta), .val (.int bs), .val (.int bq), .val (.int tb), .val (.ref b5), .val (.ref b55), .val (.ref b116), .val (.ref b117), .unset, .unset, .unset, .unset] [(.int (1 : Int32)), (.int bq), (.int bs), (.int tb), (.int v31), (.int ta), (.ref b116), (.ref b55), (.ref b5), (.ref b117)]))
    obtain ⟨cq129, kq129, q129a, q129b, q129c⟩ := isOf hZ rfl E_b117
    obtain ⟨_, _, ⟨T129, L129, k129, n129⟩, -, X129, ⟨Lc129, hQ129, l129, y129, z129⟩, st129⟩ := X118.virtualBack hx (y := (⟨"com/example/indexica/indexica/ScaledSum", "eightRows", "([D[D[DIIIIII)V"⟩ : MethodName)) (z := (⟨"com/example/indexica/indexica/ScaledSum", "eightRows", "([D[D[DIIIIII)V"⟩ : MethodName)) hown (mvT hZ (hw _ (List.mem_of_getElem? (i := 126) rfl))) (mvT hZ (hw _ (List.mem_of_getElem? (i := 127) rfl))) (notFace_of_selects (args := #[]) (mvT hZ (hw _ (List.mem_of_getElem? (i := 129) rfl)))) (mvT hZ (hw _ (List.mem_of_getElem? (i := 129) rfl))) (mvT hZ (hw _ (List.mem_of_getElem? (i := 128) rfl))) (by decide) (backOf (W := 0) (rmE1 l Z a0 hw [] b117 b5 b55 b116 ta v31 tb bs bq (FP.i2d p0) (FP.i2d p1) (own_L own_l48) (own_L own_l60) (fun _ => 0) T118.heap n0 ZH F_alpha_b117 F_beta_b117 G_b5 G_b55 G_b116 g_b116 ne_b5_b116 ne_b55_b116 (i2d_fin p0) own_ua (own_mb p1) (own_i0 HB (0 : Int32) (by decide)) (own_i1 HB (0 : Int32) (by decide)) (own_i HB (0 : Int32) (2 : Int32) (by decide) (by decide)) (own_i HB (0 : Int32) (3 : Int32) (by decide) (by decide)) (own_i HB (0 : Int32) (4 : Int32) (by decide) (by decide)) (own_i HB (0 : Int32) (5 : Int32) (by decide) (by decide)) (own_i HB (0 : Int32) (6 : Int32) (by decide) (by decide)) (own_i HB (0 : Int32) (7 : Int32) (by decide) (by decide)) (own_j0 HB (0 : Int32) (by decide)) (own_j1 HB (0 : Int32) (by decide)) (own_j HB (0 : Int32) (2 : Int32) (by decide) (by decide)) (own_j HB (0 : Int32) (3 : Int32) (by decide) (by decide)) (own_j HB (0 : Int32) (4 : Int32) (by decide) (by decide)) (own_j HB (0 : Int32) (5 : Int32) (by decide) (by decide)) (own_j HB (0 : Int32) (6 : Int32) (by decide) (by decide)) (own_j HB (0 : Int32) (7 : Int32) (by decide) (by decide))) hZ (hw _ (List.mem_of_getElem? (i := 130) rfl)) (hw _ (List.mem_of_getElem? (i := 110) rfl)) (by decide) (by decide)) q129a q129c (g := (mkF m 879 #[.val (.int p0), .val (.int p1), .val (.int p2), .val (.int p3), .val (.int p4), .val (.int p5), .val (.int (1 : Int32)), .val (.int ra), .val (.int v19), .val (.int v31), .val (.int ta), .val (.int bs), .val (.int bq), .val (.int tb), .val (.ref b5), .val (.ref b55), .val (.ref b116), .val (.ref b117), .unset, .unset, .unset, .unset] [(.int (1 : Int32)), (.int bq), (.int bs), (.int tb), (.int v31), (.int ta), (.ref b116), (.ref b55), (.ref b5), (.ref b117)])) rfl (by rw [hml]; rfl) (Steps.refl _) (argsL := [(.ref b5), (.ref b55), (.ref b116), (.int ta), (.int v31), (.int tb), (.int bs), (.int bq), (.int (1 : Int32))]) (rest := []) (lenOf pd_3 rfl) rfl (by show 2 * 0 + _ ≤ _; exact Nat.le_of_eq rfl) (hb hby at_879) (fun _ _ => ⟨rfl, rfl, (by decide : 4 + 0 ≤ _), (by decide : 158 + 0 ≤ _)⟩)
    dsimp only [Pt.U, Pt.locs, Pt.cells, Pt.slots] at X129 l129 y129 z129 st129 hQ129
    subst l129 y129 z129
    obtain ⟨rfl, Nq129, K129, Gq129⟩ := hQ129
    have N129 := Fr.app N118 Nq129
    have G_b5 := G_b5.keep K129 (ninS ne_b5_b116 nin0)
    have G_b55 := G_b55.keep K129 (ninS ne_b55_b116 nin0)
    have E_b117 := E_b117.keep K129
    have F_alpha_b117 := F_alpha_b117.keep K129 (ninS (Ne.symm ne_b116_b117) nin0)
    have F_beta_b117 := F_beta_b117.keep K129 (ninS (Ne.symm ne_b116_b117) nin0)
    have ZH := Nat.le_trans ZH K129.1
    have KK := KK.trans K129 (allS (Or.inr sz_b116) all0)
    have G_b116 : own_Arf Z T129.heap b116 .double (48 : Int32) (fun i => .double (own_U 1 p0 p1 ta v31 tb bs bq i)) := Gq129
    refine own_up (fun _ kq => st129.trans kq) ?_
    show own_Go p.tables e below _ (T129.setTop (mkF m 882 #[.val (.int p0), .val (.int p1), .val (.int p2), .val (.int p3), .val (.int p4), .val (.int p5), .val (.int (1 : Int32)), .val (.int ra), .val (.int v19), .val (.int v31), .val (.int ta), .val (.int bs), .val (.int bq), .val (.int tb), .val (.ref b5), .val (.ref b55), .val (.ref b116), .val (.ref b117), .unset, .unset, .unset, .unset] []))
    refine own_up (fun _ kq => XS.iloadN X129.here hx rfl (hb hby at_882) rfl kq) ?_
    show own_Go p.tables e below _ (T129.setTop (mkF m 883 #[.val (.int p0), .val (.int p1), .val (.int p2), .val (.int p3), .val (.int p4), .val (.int p5), .val (.int (1 : Int32)), .val (.int ra), .val (.int v19), .val (.int v31), .val (.int ta), .val (.int bs), .val (.int bq), .val (.int tb), .val (.ref b5), .val (.ref b55), .val (.ref b116), .val (.ref b117), .unset, .unset, .unset, .unset] [(.int p0)]))
    refine own_up (fun _ kq => XS.i2l X129.here hx rfl (hb hby at_883) rfl kq) ?_
    show own_Go p.tables e below _ (T129.setTop (mkF m 884 #[.val (.int p0), .val (.int p1), .val (.int p2), .val (.int p3), .val (.int p4), .val (.int p5), .val (.int (1 : Int32)), .val (.int ra), .val (.int v19), .val (.int v31), .val (.int ta), .val (.int bs), .val (.int bq), .val (.int tb), .val (.ref b5), .val (.ref b55), .val (.ref b116), .val (.ref b117), .unset, .unset, .unset, .unset] [(.long p0.toInt64)]))
    refine own_up (fun _ kq => XS.lstore X129.here hx rfl (hb hby at_884) rfl (l' := #[.val (.int p0), .val (.int p1), .val (.int p2), .val (.int p3), .val (.int p4), .val (.int p5), .val (.int (1 : Int32)), .val (.int ra), .val (.int v19), .val (.int v31), .val (.int ta), .val (.int bs), .val (.int bq), .val (.int tb), .val (.ref b5), .val (.ref b55), .val (.ref b116), .val (.ref b117), .val (.long p0.toInt64), .second, .unset, .unset]) rfl kq) ?_
    show own_Go p.tables e below _ (T129.setTop (mkF m 886 #[.val (.int p0), .val (.int p1), .val (.int p2), .val (.int p3), .val (.int p4), .val (.int p5), .val (.int (1 : Int32)), .val (.int ra), .val (.int v19), .val (.int v31), .val (.int ta), .val (.int bs), .val (.int bq), .val (.int tb), .val (.ref b5), .val (.ref b55), .val (.ref b116), .val (.ref b117), .val (.long p0.toInt64), .second, .unset, .unset] []))
    refine own_up (fun _ kq => XS.iloadN X129.here hx rfl (hb hby at_886) rfl kq) ?_
    show own_Go p.tables e below _ (T129.setTop (mkF m 887 #[.val (.int p0), .val (.int p1), .val (.int p2), .val (.int p3), .val (.int p4), .val (.int p5), .val (.int (1 : Int32)), .val (.int ra), .val (.int v19), .val (.int v31), .val (.int ta), .val (.int bs), .val (.int bq), .val (.int tb), .val (.ref b5), .val (.ref b55), .val (.ref b116), .val (.ref b117), .val (.long p0.toInt64), .second, .unset, .unset] [(.int p1)]))
    refine own_up (fun _ kq => XS.i2l X129.here hx rfl (hb hby at_887) rfl kq) ?_
    show own_Go p.tables e below _ (T129.setTop (mkF m 888 #[.val (.int p0), .val (.int p1), .val (.int p2), .val (.int p3), .val (.int p4), .val (.int p5), .val (.int (1 : Int32)), .val (.int ra), .val (.int v19), .val (.int v31), .val (.int ta), .val (.int bs), .val (.int bq), .val (.int tb), .val (.ref b5), .val (.ref b55), .val (.ref b116), .val (.ref b117), .val (.long p0.toInt64), .second, .unset, .unset] [(.long p1.toInt64)]))
    refine own_up (fun _ kq => XS.lstore X129.here hx rfl (hb hby at_888) rfl (l' := #[.val (.int p0), .val (.int p1), .val (.int p2), .val (.int p3), .val (.int p4), .val (.int p5), .val (.int (1 : Int32)), .val (.int ra), .val (.int v19), .val (.int v31), .val (.int ta), .val (.int bs), .val (.int bq), .val (.int tb), .val (.ref b5), .val (.ref b55), .val (.ref b116), .val (.ref b117), .val (.long p0.toInt64), .second, .val (.long p1.toInt64), .second]) rfl kq) ?_
    show own_Go p.tables e below _ (T129.setTop (mkF m 890 #[.val (.int p0), .val (.int p1), .val (.int p2), .val (.int p3), .val (.int p4), .val (.int p5), .val (.int (1 : Int32)), .val (.int ra), .val (.int v19), .val (.int v31), .val (.int ta), .val (.int bs), .val (.int bq), .val (.int tb), .val (.ref b5), .val (.ref b55), .val (.ref b116), .val (.ref b117), .val (.long p0.toInt64), .second, .val (.long p1.toInt64), .second] []))
    refine own_up (fun _ kq => XS.aload X129.here hx rfl (hb hby at_890) rfl rfl kq) ?_
    show own_Go p.tables e below _ (T129.setTop (mkF m 892 #[.val (.int p0), .val (.int p1), .val (.int p2), .val (.int p3), .val (.int p4), .val (.int p5), .val (.int (1 : Int32)), .val (.int ra), .val (.int v19), .val (.int v31), .val (.int ta), .val (.int bs), .val (.int bq), .val (.int tb), .val (.ref b5), .val (.ref b55), .val (.ref b116), .val (.ref b117), .val (.long p0.toInt64), .second, .val (.long p1.toInt64), .second] [(.ref b116)]))
    refine own_up (fun _ kq => XS.iload X129.here hx rfl (hb hby at_892) rfl kq) ?_
    show own_Go p.tables e below _ (T129.setTop (mkF m 894 #[.val (.int p0), .val (.int p1), .val (.int p2), .val (.int p3), .val (.int p4), .val (.int p5), .val (.int (1 : Int32)), .val (.int ra), .val (.int v19), .val (.int v31), .val (.int ta), .val (.int bs), .val (.int bq), .val (.int tb), .val (.ref b5), .val (.ref b55), .val (.ref b116), .val (.ref b117), .val (.long p0.toInt64), .second, .val (.long p1.toInt64), .second] [(.int ta), (.ref b116)]))
    refine own_up (fun _ kq => XS.iload X129.here hx rfl (hb hby at_894) rfl kq) ?_
    show own_Go p.tables e below _ (T129.setTop (mkF m 896 #[.val (.int p0), .val (.int p1), .val (.int p2), .val (.int p3), .val (.int p4), .val (.int p5), .val (.int (1 : Int32)), .val (.int ra), .val (.int v19), .val (.int v31), .val (.int ta), .val (.int bs), .val (.int bq), .val (.int tb), .val (.ref b5), .val (.ref b55), .val (.ref b116), .val (.ref b117), .val (.long p0.toInt64), .second, .val (.long p1.toInt64), .second] [(.int v31), (.int ta), (.ref b116)]))
    refine own_up (fun _ kq => XS.iconst X129.here hx rfl (hb hby at_896) kq) ?_
    show own_Go p.tables e below _ (T129.setTop (mkF m 897 #[.val (.int p0), .val (.int p1), .val (.int p2), .val (.int p3), .val (.int p4), .val (.int p5), .val (.int (1 : Int32)), .val (.int ra), .val (.int v19), .val (.int v31), .val (.int ta), .val (.int bs), .val (.int bq), .val (.int tb), .val (.ref b5), .val (.ref b55), .val (.ref b116), .val (.ref b117), .val (.long p0.toInt64), .second, .val (.long p1.toInt64), .second] [(.int (0 : Int32)), (.int v31), (.int ta), (.ref b116)]))
    refine own_up (fun _ kq => XS.iload X129.here hx rfl (hb hby at_897) rfl kq) ?_
    show own_Go p.tables e below _ (T129.setTop (mkF m 899 #[.val (.int p0), .val (.int p1), .val (.int p2), .val (.int p3), .val (.int p4), .val (.int p5), .val (.int (1 : Int32)), .val (.int ra), .val (.int v19), .val (.int v31), .val (.int ta), .val (.int bs), .val (.int bq), .val (.int tb), .val (.ref b5), .val (.ref b55), .val (.ref b116), .val (.ref b117), .val (.long p0.toInt64), .second, .val (.long p1.toInt64), .second] [(.int (1 : Int32)), (.int (0 : Int32)), (.int v31), (.int ta), (.ref b116)]))
    refine own_up (fun _ kq => XS.lload X129.here hx rfl (hb hby at_899) rfl kq) ?_
    show own_Go p.tables e below _ (T129.setTop (mkF m 901 #[.val (.int p0), .val (.int p1), .val (.int p2), .val (.int p3), .val (.int p4), .val (.int p5), .val (.int (1 : Int32)), .val (.int ra), .val (.int v19), .val (.int v31), .val (.int ta), .val (.int bs), .val (.int bq), .val (.int tb), .val (.ref b5), .val (.ref b55), .val (.ref b116), .val (.ref b117), .val (.long p0.toInt64), .second, .val (.long p1.toInt64), .second] [(.long p0.toInt64), (.int (1 : Int32)), (.int (0 : Int32)), (.int v31), (.int ta), (.ref b116)]))
    refine own_up (fun _ kq => XS.lload X129.here hx rfl (hb hby at_901) rfl kq) ?_
    show own_Go p.tables e below _ (T129.setTop (mkF m 903 #[.val (.int p0), .val (.int p1), .val (.int p2), .val (.int p3), .val (.int p4), .val (.int p5), .val (.int (1 : Int32)), .val (.int ra), .val (.int v19), .val (.int v31), .val (.int ta), .val (.int bs), .val (.int bq), .val (.int tb), .val (.ref b5), .val (.ref b55), .val (.ref b116), .val (.ref b117), .val (.long p0.toInt64), .second, .val (.long p1.toInt64), .second] [(.long p1.toInt64), (.long p0.toInt64), (.int (1 : Int32)), (.int (0 : Int32)), (.int v31), (.int ta), (.ref b116)]))
    refine own_up (fun _ kq => XS.iload X129.here hx rfl (hb hby at_903) rfl kq) ?_
    show own_Go p.tables e below _ (T129.setTop (mkF m 905 #[.val (.int p0), .val (.int p1), .val (.int p2), .val (.int p3), .val (.int p4), .val (.int p5), .val (.int (1 : Int32)), .val (.int ra), .val (.int v19), .val (.int v31), .val (.int ta), .val (.int bs), .val (.int bq), .val (.int tb), .val (.ref b5), .val (.ref b55), .val (.ref b116), .val (.ref b117), .val (.long p0.toInt64), .second, .val (.long p1.toInt64), .second] [(.int tb), (.long p1.toInt64), (.long p0.toInt64), (.int (1 : Int32)), (.int (0 : Int32)), (.int v31), (.int ta), (.ref b116)]))
    refine own_up (fun _ kq => XS.iload X129.here hx rfl (hb hby at_905) rfl kq) ?_
    show own_Go p.tables e below _ (T129.setTop (mkF m 907 #[.val (.int p0), .val (.int p1), .val (.int p2), .val (.int p3), .val (.int p4), .val (.int p5), .val (.int (1 : Int32)), .val (.int ra), .val (.int v19), .val (.int v31), .val (.int ta), .val (.int bs), .val (.int bq), .val (.int tb), .val (.ref b5), .val (.ref b55), .val (.ref b116), .val (.ref b117), .val (.long p0.toInt64), .second, .val (.long p1.toInt64), .second] [(.int bs), (.int tb), (.long p1.toInt64), (.long p0.toInt64), (.int (1 : Int32)), (.int (0 : Int32)), (.int v31), (.int ta), (.ref b116)]))
    refine own_up (fun _ kq => XS.iload X129.here hx rfl (hb hby at_907) rfl kq) ?_
    show own_Go p.tables e below _ (T129.setTop (mkF m 909 #[.val (.int p0), .val (.int p1), .val (.int p2), .val (.int p3), .val (.int p4), .val (.int p5), .val (.int (1 : Int32)), .val (.int ra), .val (.int v19), .val (.int v31), .val (.int ta), .val (.int bs), .val (.int bq), .val (.int tb), .val (.ref b5), .val (.ref b55), .val (.ref b116), .val (.ref b117), .val (.long p0.toInt64), .second, .val (.long p1.toInt64), .second] [(.int bq), (.int bs), (.int tb), (.long p1.toInt64), (.long p0.toInt64), (.int (1 : Int32)), (.int (0 : Int32)), (.int v31), (.int ta), (.ref b116)]))
    obtain ⟨_, _, ⟨T130, L130, k130, n130⟩, -, X130, ⟨Lc130, hQ130, l130, y130, z130⟩, st130⟩ := Jvm.LawKit.callS X129 hx (y := (⟨"com/example/indexica/indexica/ScaledSumEightRowsPinLaw", "row", "([DIIIIJJIII)Z"⟩ : MethodName)) hown (mvT hZ (hw _ (List.mem_of_getElem? (i := 131) rfl))) (mvT hZ (hw _ (List.mem_of_getElem? (i := 132) rfl))) (mvT hZ (hw _ (List.mem_of_getElem? (i := 133) rfl))) (mvT hZ (hw _ (List.mem_of_getElem? (i := 134) rfl))) (by decide) (backOf (W := 0) (rmW l Z a0 hw [] b116 ta v31 (0 : Int32) (1 : Int32) p0.toInt64 p1.toInt64 tb bs bq (own_U 1 p0 p1 ta v31 tb bs bq) T129.heap n0 ZH G_b116 (own_ok 1 (by decide) p0 p1 HB rfl (0 : Int32) (0 : Int32) (by decide) (by decide)) (own_ok 1 (by decide) p0 p1 HB rfl (1 : Int32) (0 : Int32) (by decide) (by decide)) (own_ok 1 (by decide) p0 p1 HB rfl (2 : Int32) (0 : Int32) (by decide) (by decide))) hZ (hw _ (List.mem_of_getElem? (i := 134) rfl)) (hw _ (List.mem_of_getElem? (i := 133) rfl)) (by decide) (by decide)) (g := (mkF m 909 #[.val (.int p0), .val (.int p1), .val (.int p2), .val (.int p3), .val (.int p4), .val (.int p5), .val (.int (1 : Int32)), .val (.int ra), .val (.int v19), .val (.int v31), .val (.int ta), .val (.int bs), .val (.int bq), .val (.int tb), .val (.ref b5), .val (.ref b55), .val (.ref b116), .val (.ref b117), .val (.long p0.toInt64), .second, .val (.long p1.toInt64), .second] [(.int bq), (.int bs), (.int tb), (.long p1.toInt64), (.long p0.toInt64), (.int (1 : Int32)), (.int (0 : Int32)), (.int v31), (.int ta), (.ref b116)])) rfl (by rw [hml]; rfl) (argsL := [(.ref b116), (.int ta), (.int v31), (.int (0 : Int32)), (.int (1 : Int32)), (.long p0.toInt64), (.long p1.toInt64), (.int tb), (.int bs), (.int bq)]) (rest := []) (lenOf pd_4 rfl) rfl (by show 2 * 0 + _ ≤ _; exact Nat.le_of_eq rfl) (hb hby at_909) (fun _ _ => ⟨rfl, rfl, (by decide : 4 + 0 ≤ _), (by decide : 158 + 0 ≤ _)⟩)
    dsimp only [Pt.U, Pt.locs, Pt.cells, Pt.slots] at X130 l130 y130 z130 st130 hQ130
    subst l130 y130 z130
    obtain ⟨rfl, Nq130, e130⟩ := hQ130
    have N130 := Fr.app N129 Nq130
    refine own_up st130 ?_
    show own_Go p.tables e below _ (T130.setTop (mkF m 912 #[.val (.int p0), .val (.int p1), .val (.int p2), .val (.int p3), .val (.int p4), .val (.int p5), .val (.int (1 : Int32)), .val (.int ra), .val (.int v19), .val (.int v31), .val (.int ta), .val (.int bs), .val (.int bq), .val (.int tb), .val (.ref b5), .val (.ref b55), .val (.ref b116), .val (.ref b117), .val (.long p0.toInt64), .second, .val (.long p1.toInt64), .second] [(.int (1 : Int32))]))
    refine own_up (fun _ kq => XS.ifNo X130.here hx rfl (hb hby at_912) rfl ((if0 _ _).trans (feq (by decide : ¬ ((1 : Int32) = (0 : Int32)))).1) kq) ?_
    show own_Go p.tables e below _ (T130.setTop (mkF m 915 #[.val (.int p0), .val (.int p1), .val (.int p2), .val (.int p3), .val (.int p4), .val (.int p5), .val (.int (1 : Int32)), .val (.int ra), .val (.int v19), .val (.int v31), .val (.int ta), .val (.int bs), .val (.int bq), .val (.int tb), .val (.ref b5), .val (.ref b55), .val (.ref b116), .val (.ref b117), .val (.long p0.toInt64), .second, .val (.long p1.toInt64), .second] []))
    refine own_up (fun _ kq => XS.aload X130.here hx rfl (hb hby at_915) rfl rfl kq) ?_
    show own_Go p.tables e below _ (T130.setTop (mkF m 917 #[.val (.int p0), .val (.int p1), .val (.int p2), .val (.int p3), .val (.int p4), .val (.int p5), .val (.int (1 : Int32)), .val (.int ra), .val (.int v19), .val (.int v31), .val (.int ta), .val (.int bs), .val (.int bq), .val (.int tb), .val (.ref b5), .val (.ref b55), .val (.ref b116), .val (.ref b117), .val (.long p0.toInt64), .second, .val (.long p1.toInt64), .second] [(.ref b116)]))
    refine own_up (fun _ kq => XS.iload X130.here hx rfl (hb hby at_917) rfl kq) ?_
    show own_Go p.tables e below _ (T130.setTop (mkF m 919 #[.val (.int p0), .val (.int p1), .val (.int p2), .val (.int p3), .val (.int p4), .val (.int p5), .val (.int (1 : Int32)), .val (.int ra), .val (.int v19), .val (.int v31), .val (.int ta), .val (.int bs), .val (.int bq), .val (.int tb), .val (.ref b5), .val (.ref b55), .val (.ref b116), .val (.ref b117), .val (.long p0.toInt64), .second, .val (.long p1.toInt64), .second] [(.int ta), (.ref b116)]))
    refine own_up (fun _ kq => XS.iload X130.here hx rfl (hb hby at_919) rfl kq) ?_
    show own_Go p.tables e below _ (T130.setTop (mkF m 921 #[.val (.int p0), .val (.int p1), .val (.int p2), .val (.int p3), .val (.int p4), .val (.int p5), .val (.int (1 : Int32)), .val (.int ra), .val (.int v19), .val (.int v31), .val (.int ta), .val (.int bs), .val (.int bq), .val (.int tb), .val (.ref b5), .val (.ref b55), .val (.ref b116), .val (.ref b117), .val (.long p0.toInt64), .second, .val (.long p1.toInt64), .second] [(.int v31), (.int ta), (.ref b116)]))
    refine own_up (fun _ kq => XS.iconst X130.here hx rfl (hb hby at_921) kq) ?_
    show own_Go p.tables e below _ (T130.setTop (mkF m 922 #[.val (.int p0), .val (.int p1), .val (.int p2), .val (.int p3), .val (.int p4), .val (.int p5), .val (.int (1 : Int32)), .val (.int ra), .val (.int v19), .val (.int v31), .val (.int ta), .val (.int bs), .val (.int bq), .val (.int tb), .val (.ref b5), .val (.ref b55), .val (.ref b116), .val (.ref b117), .val (.long p0.toInt64), .second, .val (.long p1.toInt64), .second] [(.int (1 : Int32)), (.int v31), (.int ta), (.ref b116)]))
    refine own_up (fun _ kq => XS.iload X130.here hx rfl (hb hby at_922) rfl kq) ?_
    show own_Go p.tables e below _ (T130.setTop (mkF m 924 #[.val (.int p0), .val (.int p1), .val (.int p2), .val (.int p3), .val (.int p4), .val (.int p5), .val (.int (1 : Int32)), .val (.int ra), .val (.int v19), .val (.int v31), .val (.int ta), .val (.int bs), .val (.int bq), .val (.int tb), .val (.ref b5), .val (.ref b55), .val (.ref b116), .val (.ref b117), .val (.long p0.toInt64), .second, .val (.long p1.toInt64), .second] [(.int (1 : Int32)), (.int (1 : Int32)), (.int v31), (.int ta), (.ref b116)]))
    refine own_up (fun _ kq => XS.lload X130.here hx rfl (hb hby at_924) rfl kq) ?_
    show own_Go p.tables e below _ (T130.setTop (mkF m 926 #[.val (.int p0), .val (.int p1), .val (.int p2), .val (.int p3), .val (.int p4), .val (.int p5), .val (.int (1 : Int32)), .val (.int ra), .val (.int v19), .val (.int v31), .val (.int ta), .val (.int bs), .val (.int bq), .val (.int tb), .val (.ref b5), .val (.ref b55), .val (.ref b116), .val (.ref b117), .val (.long p0.toInt64), .second, .val (.long p1.toInt64), .second] [(.long p0.toInt64), (.int (1 : Int32)), (.int (1 : Int32)), (.int v31), (.int ta), (.ref b116)]))
    refine own_up (fun _ kq => XS.lload X130.here hx rfl (hb hby at_926) rfl kq) ?_
    show own_Go p.tables e below _ (T130.setTop (mkF m 928 #[.val (.int p0), .val (.int p1), .val (.int p2), .val (.int p3), .val (.int p4), .val (.int p5), .val (.int (1 : Int32)), .val (.int ra), .val (.int v19), .val (.int v31), .val (.int ta), .val (.int bs), .val (.int bq), .val (.int tb), .val (.ref b5), .val (.ref b55), .val (.ref b116), .val (.ref b117), .val (.long p0.toInt64), .second, .val (.long p1.toInt64), .second] [(.long p1.toInt64), (.long p0.toInt64), (.int (1 : Int32)), (.int (1 : Int32)), (.int v31), (.int ta), (.ref b116)]))
    refine own_up (fun _ kq => XS.iload X130.here hx rfl (hb hby at_928) rfl kq) ?_
    show own_Go p.tables e below _ (T130.setTop (mkF m 930 #[.val (.int p0), .val (.int p1), .val (.int p2), .val (.int p3), .val (.int p4), .val (.int p5), .val (.int (1 : Int32)), .val (.int ra), .val (.int v19), .val (.int v31), .val (.int ta), .val (.int bs), .val (.int bq), .val (.int tb), .val (.ref b5), .val (.ref b55), .val (.ref b116), .val (.ref b117), .val (.long p0.toInt64), .second, .val (.long p1.toInt64), .second] [(.int tb), (.long p1.toInt64), (.long p0.toInt64), (.int (1 : Int32)), (.int (1 : Int32)), (.int v31), (.int ta), (.ref b116)]))
    refine own_up (fun _ kq => XS.iload X130.here hx rfl (hb hby at_930) rfl kq) ?_
    show own_Go p.tables e below _ (T130.setTop (mkF m 932 #[.val (.int p0), .val (.int p1), .val (.int p2), .val (.int p3), .val (.int p4), .val (.int p5), .val (.int (1 : Int32)), .val (.int ra), .val (.int v19), .val (.int v31), .val (.int ta), .val (.int bs), .val (.int bq), .val (.int tb), .val (.ref b5), .val (.ref b55), .val (.ref b116), .val (.ref b117), .val (.long p0.toInt64), .second, .val (.long p1.toInt64), .second] [(.int bs), (.int tb), (.long p1.toInt64), (.long p0.toInt64), (.int (1 : Int32)), (.int (1 : Int32)), (.int v31), (.int ta), (.ref b116)]))
    refine own_up (fun _ kq => XS.iload X130.here hx rfl (hb hby at_932) rfl kq) ?_
    show own_Go p.tables e below _ (T130.setTop (mkF m 934 #[.val (.int p0), .val (.int p1), .val (.int p2), .val (.int p3), .val (.int p4), .val (.int p5), .val (.int (1 : Int32)), .val (.int ra), .val (.int v19), .val (.int v31), .val (.int ta), .val (.int bs), .val (.int bq), .val (.int tb), .val (.ref b5), .val (.ref b55), .val (.ref b116), .val (.ref b117), .val (.long p0.toInt64), .second, .val (.long p1.toInt64), .second] [(.int bq), (.int bs), (.int tb), (.long p1.toInt64), (.long p0.toInt64), (.int (1 : Int32)), (.int (1 : Int32)), (.int v31), (.int ta), (.ref b116)]))
    obtain ⟨_, _, ⟨T131, L131, k131, n131⟩, -, X131, ⟨Lc131, hQ131, l131, y131, z131⟩, st131⟩ := Jvm.LawKit.callS X130 hx (y := (⟨"com/example/indexica/indexica/ScaledSumEightRowsPinLaw", "row", "([DIIIIJJIII)Z"⟩ : MethodName)) hown (mvT hZ (hw _ (List.mem_of_getElem? (i := 131) rfl))) (mvT hZ (hw _ (List.mem_of_getElem? (i := 132) rfl))) (mvT hZ (hw _ (List.mem_of_getElem? (i := 133) rfl))) (mvT hZ (hw _ (List.mem_of_getElem? (i := 134) rfl))) (by decide) (backOf (W := 0) (rmW l Z a0 hw [] b116 ta v31 (1 : Int32) (1 : Int32) p0.toInt64 p1.toInt64 tb bs bq (own_U 1 p0 p1 ta v31 tb bs bq) T129.heap n0 ZH G_b116 (own_ok 1 (by decide) p0 p1 HB rfl (0 : Int32) (1 : Int32) (by decide) (by decide)) (own_ok 1 (by decide) p0 p1 HB rfl (1 : Int32) (1 : Int32) (by decide) (by decide)) (own_ok 1 (by decide) p0 p1 HB rfl (2 : Int32) (1 : Int32) (by decide) (by decide))) hZ (hw _ (List.mem_of_getElem? (i := 134) rfl)) (hw _ (List.mem_of_getElem? (i := 133) rfl)) (by decide) (by decide)) (g := (mkF m 934 #[.val (.int p0), .val (.int p1), .val (.int p2), .val (.int p3), .val (.int p4), .val (.int p5), .val (.int (1 : Int32)), .val (.int ra), .val (.int v19), .val (.int v31), .val (.int ta), .val (.int bs), .val (.int bq), .val (.int tb), .val (.ref b5), .val (.ref b55), .val (.ref b116), .val (.ref b117), .val (.long p0.toInt64), .second, .val (.long p1.toInt64), .second] [(.int bq), (.int bs), (.int tb), (.long p1.toInt64), (.long p0.toInt64), (.int (1 : Int32)), (.int (1 : Int32)), (.int v31), (.int ta), (.ref b116)])) rfl (by rw [hml]; rfl) (argsL := [(.ref b116), (.int ta), (.int v31), (.int (1 : Int32)), (.int (1 : Int32)), (.long p0.toInt64), (.long p1.toInt64), (.int tb), (.int bs), (.int bq)]) (rest := []) (lenOf pd_4 rfl) rfl (by show 2 * 0 + _ ≤ _; exact Nat.le_of_eq rfl) (hb hby at_934) (fun _ _ => ⟨rfl, e130, (by decide : 4 + 0 ≤ _), (by decide : 158 + 0 ≤ _)⟩)
    dsimp only [Pt.U, Pt.locs, Pt.cells, Pt.slots] at X131 l131 y131 z131 st131 hQ131
    subst l131 y131 z131
    obtain ⟨rfl, Nq131, e131⟩ := hQ131
    have N131 := Fr.app N130 Nq131
    refine own_up st131 ?_
    show own_Go p.tables e below _ (T131.setTop (mkF m 937 #[.val (.int p0), .val (.int p1), .val (.int p2), .val (.int p3), .val (.int p4), .val (.int p5), .val (.int (1 : Int32)), .val (.int ra), .val (.int v19), .val (.int v31), .val (.int ta), .val (.int bs), .val (.int bq), .val (.int tb), .val (.ref b5), .val (.ref b55), .val (.ref b116), .val (.ref b117), .val (.long p0.toInt64), .second, .val (.long p1.toInt64), .second] [(.int (1 : Int32))]))
    refine own_up (fun _ kq => XS.ifNo X131.here hx rfl (hb hby at_937) rfl ((if0 _ _).trans (feq (by decide : ¬ ((1 : Int32) = (0 : Int32)))).1) kq) ?_
    show own_Go p.tables e below _ (T131.setTop (mkF m 940 #[.val (.int p0), .val (.int p1), .val (.int p2), .val (.int p3), .val (.int p4), .val (.int p5), .val (.int (1 : Int32)), .val (.int ra), .val (.int v19), .val (.int v31), .val (.int ta), .val (.int bs), .val (.int bq), .val (.int tb), .val (.ref b5), .val (.ref b55), .val (.ref b116), .val (.ref b117), .val (.long p0.toInt64), .second, .val (.long p1.toInt64), .second] []))
    refine own_up (fun _ kq => XS.aload X131.here hx rfl (hb hby at_940) rfl rfl kq) ?_
    show own_Go p.tables e below _ (T131.setTop (mkF m 942 #[.val (.int p0), .val (.int p1), .val (.int p2), .val (.int p3), .val (.int p4), .val (.int p5), .val (.int (1 : Int32)), .val (.int ra), .val (.int v19), .val (.int v31), .val (.int ta), .val (.int bs), .val (.int bq), .val (.int tb), .val (.ref b5), .val (.ref b55), .val (.ref b116), .val (.ref b117), .val (.long p0.toInt64), .second, .val (.long p1.toInt64), .second] [(.ref b116)]))
    refine own_up (fun _ kq => XS.iload X131.here hx rfl (hb hby at_942) rfl kq) ?_
    show own_Go p.tables e below _ (T131.setTop (mkF m 944 #[.val (.int p0), .val (.int p1), .val (.int p2), .val (.int p3), .val (.int p4), .val (.int p5), .val (.int (1 : Int32)), .val (.int ra), .val (.int v19), .val (.int v31), .val (.int ta), .val (.int bs), .val (.int bq), .val (.int tb), .val (.ref b5), .val (.ref b55), .val (.ref b116), .val (.ref b117), .val (.long p0.toInt64), .second, .val (.long p1.toInt64), .second] [(.int ta), (.ref b116)]))
    refine own_up (fun _ kq => XS.iload X131.here hx rfl (hb hby at_944) rfl kq) ?_
    show own_Go p.tables e below _ (T131.setTop (mkF m 946 #[.val (.int p0), .val (.int p1), .val (.int p2), .val (.int p3), .val (.int p4), .val (.int p5), .val (.int (1 : Int32)), .val (.int ra), .val (.int v19), .val (.int v31), .val (.int ta), .val (.int bs), .val (.int bq), .val (.int tb), .val (.ref b5), .val (.ref b55), .val (.ref b116), .val (.ref b117), .val (.long p0.toInt64), .second, .val (.long p1.toInt64), .second] [(.int v31), (.int ta), (.ref b116)]))
    refine own_up (fun _ kq => XS.iconst X131.here hx rfl (hb hby at_946) kq) ?_
    show own_Go p.tables e below _ (T131.setTop (mkF m 947 #[.val (.int p0), .val (.int p1), .val (.int p2), .val (.int p3), .val (.int p4), .val (.int p5), .val (.int (1 : Int32)), .val (.int ra), .val (.int v19), .val (.int v31), .val (.int ta), .val (.int bs), .val (.int bq), .val (.int tb), .val (.ref b5), .val (.ref b55), .val (.ref b116), .val (.ref b117), .val (.long p0.toInt64), .second, .val (.long p1.toInt64), .second] [(.int (2 : Int32)), (.int v31), (.int ta), (.ref b116)]))
    refine own_up (fun _ kq => XS.iload X131.here hx rfl (hb hby at_947) rfl kq) ?_
    show own_Go p.tables e below _ (T131.setTop (mkF m 949 #[.val (.int p0), .val (.int p1), .val (.int p2), .val (.int p3), .val (.int p4), .val (.int p5), .val (.int (1 : Int32)), .val (.int ra), .val (.int v19), .val (.int v31), .val (.int ta), .val (.int bs), .val (.int bq), .val (.int tb), .val (.ref b5), .val (.ref b55), .val (.ref b116), .val (.ref b117), .val (.long p0.toInt64), .second, .val (.long p1.toInt64), .second] [(.int (1 : Int32)), (.int (2 : Int32)), (.int v31), (.int ta), (.ref b116)]))
    refine own_up (fun _ kq => XS.lload X131.here hx rfl (hb hby at_949) rfl kq) ?_
    show own_Go p.tables e below _ (T131.setTop (mkF m 951 #[.val (.int p0), .val (.int p1), .val (.int p2), .val (.int p3), .val (.int p4), .val (.int p5), .val (.int (1 : Int32)), .val (.int ra), .val (.int v19), .val (.int v31), .val (.int ta), .val (.int bs), .val (.int bq), .val (.int tb), .val (.ref b5), .val (.ref b55), .val (.ref b116), .val (.ref b117), .val (.long p0.toInt64), .second, .val (.long p1.toInt64), .second] [(.long p0.toInt64), (.int (1 : Int32)), (.int (2 : Int32)), (.int v31), (.int ta), (.ref b116)]))
    refine own_up (fun _ kq => XS.lload X131.here hx rfl (hb hby at_951) rfl kq) ?_
    show own_Go p.tables e below _ (T131.setTop (mkF m 953 #[.val (.int p0), .val (.int p1), .val (.int p2), .val (.int p3), .val (.int p4), .val (.int p5), .val (.int (1 : Int32)), .val (.int ra), .val (.int v19), .val (.int v31), .val (.int ta), .val (.int bs), .val (.int bq), .val (.int tb), .val (.ref b5), .val (.ref b55), .val (.ref b116), .val (.ref b117), .val (.long p0.toInt64), .second, .val (.long p1.toInt64), .second] [(.long p1.toInt64), (.long p0.toInt64), (.int (1 : Int32)), (.int (2 : Int32)), (.int v31), (.int ta), (.ref b116)]))
    refine own_up (fun _ kq => XS.iload X131.here hx rfl (hb hby at_953) rfl kq) ?_
    show own_Go p.tables e below _ (T131.setTop (mkF m 955 #[.val (.int p0), .val (.int p1), .val (.int p2), .val (.int p3), .val (.int p4), .val (.int p5), .val (.int (1 : Int32)), .val (.int ra), .val (.int v19), .val (.int v31), .val (.int ta), .val (.int bs), .val (.int bq), .val (.int tb), .val (.ref b5), .val (.ref b55), .val (.ref b116), .val (.ref b117), .val (.long p0.toInt64), .second, .val (.long p1.toInt64), .second] [(.int tb), (.long p1.toInt64), (.long p0.toInt64), (.int (1 : Int32)), (.int (2 : Int32)), (.int v31), (.int ta), (.ref b116)]))
    refine own_up (fun _ kq => XS.iload X131.here hx rfl (hb hby at_955) rfl kq) ?_
    show own_Go p.tables e below _ (T131.setTop (mkF m 957 #[.val (.int p0), .val (.int p1), .val (.int p2), .val (.int p3), .val (.int p4), .val (.int p5), .val (.int (1 : Int32)), .val (.int ra), .val (.int v19), .val (.int v31), .val (.int ta), .val (.int bs), .val (.int bq), .val (.int tb), .val (.ref b5), .val (.ref b55), .val (.ref b116), .val (.ref b117), .val (.long p0.toInt64), .second, .val (.long p1.toInt64), .second] [(.int bs), (.int tb), (.long p1.toInt64), (.long p0.toInt64), (.int (1 : Int32)), (.int (2 : Int32)), (.int v31), (.int ta), (.ref b116)]))
    refine own_up (fun _ kq => XS.iload X131.here hx rfl (hb hby at_957) rfl kq) ?_
    show own_Go p.tables e below _ (T131.setTop (mkF m 959 #[.val (.int p0), .val (.int p1), .val (.int p2), .val (.int p3), .val (.int p4), .val (.int p5), .val (.int (1 : Int32)), .val (.int ra), .val (.int v19), .val (.int v31), .val (.int ta), .val (.int bs), .val (.int bq), .val (.int tb), .val (.ref b5), .val (.ref b55), .val (.ref b116), .val (.ref b117), .val (.long p0.toInt64), .second, .val (.long p1.toInt64), .second] [(.int bq), (.int bs), (.int tb), (.long p1.toInt64), (.long p0.toInt64), (.int (1 : Int32)), (.int (2 : Int32)), (.int v31), (.int ta), (.ref b116)]))
    obtain ⟨_, _, ⟨T132, L132, k132, n132⟩, -, X132, ⟨Lc132, hQ132, l132, y132, z132⟩, st132⟩ := Jvm.LawKit.callS X131 hx (y := (⟨"com/example/indexica/indexica/ScaledSumEightRowsPinLaw", "row", "([DIIIIJJIII)Z"⟩ : MethodName)) hown (mvT hZ (hw _ (List.mem_of_getElem? (i := 131) rfl))) (mvT hZ (hw _ (List.mem_of_getElem? (i := 132) rfl))) (mvT hZ (hw _ (List.mem_of_getElem? (i := 133) rfl))) (mvT hZ (hw _ (List.mem_of_getElem? (i := 134) rfl))) (by decide) (backOf (W := 0) (rmW l Z a0 hw [] b116 ta v31 (2 : Int32) (1 : Int32) p0.toInt64 p1.toInt64 tb bs bq (own_U 1 p0 p1 ta v31 tb bs bq) T129.heap n0 ZH G_b116 (own_ok 1 (by decide) p0 p1 HB rfl (0 : Int32) (2 : Int32) (by decide) (by decide)) (own_ok 1 (by decide) p0 p1 HB rfl (1 : Int32) (2 : Int32) (by decide) (by decide)) (own_ok 1 (by decide) p0 p1 HB rfl (2 : Int32) (2 : Int32) (by decide) (by decide))) hZ (hw _ (List.mem_of_getElem? (i := 134) rfl)) (hw _ (List.mem_of_getElem? (i := 133) rfl)) (by decide) (by decide)) (g := (mkF m 959 #[.val (.int p0), .val (.int p1), .val (.int p2), .val (.int p3), .val (.int p4), .val (.int p5), .val (.int (1 : Int32)), .val (.int ra), .val (.int v19), .val (.int v31), .val (.int ta), .val (.int bs), .val (.int bq), .val (.int tb), .val (.ref b5), .val (.ref b55), .val (.ref b116), .val (.ref b117), .val (.long p0.toInt64), .second, .val (.long p1.toInt64), .second] [(.int bq), (.int bs), (.int tb), (.long p1.toInt64), (.long p0.toInt64), (.int (1 : Int32)), (.int (2 : Int32)), (.int v31), (.int ta), (.ref b116)])) rfl (by rw [hml]; rfl) (argsL := [(.ref b116), (.int ta), (.int v31), (.int (2 : Int32)), (.int (1 : Int32)), (.long p0.toInt64), (.long p1.toInt64), (.int tb), (.int bs), (.int bq)]) (rest := []) (lenOf pd_4 rfl) rfl (by show 2 * 0 + _ ≤ _; exact Nat.le_of_eq rfl) (hb hby at_959) (fun _ _ => ⟨rfl, e131, (by decide : 4 + 0 ≤ _), (by decide : 158 + 0 ≤ _)⟩)
    dsimp only [Pt.U, Pt.locs, Pt.cells, Pt.slots] at X132 l132 y132 z132 st132 hQ132
    subst l132 y132 z132
    obtain ⟨rfl, Nq132, e132⟩ := hQ132
    have N132 := Fr.app N131 Nq132
    refine own_up st132 ?_
    show own_Go p.tables e below _ (T132.setTop (mkF m 962 #[.val (.int p0), .val (.int p1), .val (.int p2), .val (.int p3), .val (.int p4), .val (.int p5), .val (.int (1 : Int32)), .val (.int ra), .val (.int v19), .val (.int v31), .val (.int ta), .val (.int bs), .val (.int bq), .val (.int tb), .val (.ref b5), .val (.ref b55), .val (.ref b116), .val (.ref b117), .val (.long p0.toInt64), .second, .val (.long p1.toInt64), .second] [(.int (1 : Int32))]))
    refine own_up (fun _ kq => XS.ifNo X132.here hx rfl (hb hby at_962) rfl ((if0 _ _).trans (feq (by decide : ¬ ((1 : Int32) = (0 : Int32)))).1) kq) ?_
    show own_Go p.tables e below _ (T132.setTop (mkF m 965 #[.val (.int p0), .val (.int p1), .val (.int p2), .val (.int p3), .val (.int p4), .val (.int p5), .val (.int (1 : Int32)), .val (.int ra), .val (.int v19), .val (.int v31), .val (.int ta), .val (.int bs), .val (.int bq), .val (.int tb), .val (.ref b5), .val (.ref b55), .val (.ref b116), .val (.ref b117), .val (.long p0.toInt64), .second, .val (.long p1.toInt64), .second] []))
    refine own_up (fun _ kq => XS.aload X132.here hx rfl (hb hby at_965) rfl rfl kq) ?_
    show own_Go p.tables e below _ (T132.setTop (mkF m 967 #[.val (.int p0), .val (.int p1), .val (.int p2), .val (.int p3), .val (.int p4), .val (.int p5), .val (.int (1 : Int32)), .val (.int ra), .val (.int v19), .val (.int v31), .val (.int ta), .val (.int bs), .val (.int bq), .val (.int tb), .val (.ref b5), .val (.ref b55), .val (.ref b116), .val (.ref b117), .val (.long p0.toInt64), .second, .val (.long p1.toInt64), .second] [(.ref b116)]))
    refine own_up (fun _ kq => XS.iload X132.here hx rfl (hb hby at_967) rfl kq) ?_
    show own_Go p.tables e below _ (T132.setTop (mkF m 969 #[.val (.int p0), .val (.int p1), .val (.int p2), .val (.int p3), .val (.int p4), .val (.int p5), .val (.int (1 : Int32)), .val (.int ra), .val (.int v19), .val (.int v31), .val (.int ta), .val (.int bs), .val (.int bq), .val (.int tb), .val (.ref b5), .val (.ref b55), .val (.ref b116), .val (.ref b117), .val (.long p0.toInt64), .second, .val (.long p1.toInt64), .second] [(.int ta), (.ref b116)]))
    refine own_up (fun _ kq => XS.iload X132.here hx rfl (hb hby at_969) rfl kq) ?_
    show own_Go p.tables e below _ (T132.setTop (mkF m 971 #[.val (.int p0), .val (.int p1), .val (.int p2), .val (.int p3), .val (.int p4), .val (.int p5), .val (.int (1 : Int32)), .val (.int ra), .val (.int v19), .val (.int v31), .val (.int ta), .val (.int bs), .val (.int bq), .val (.int tb), .val (.ref b5), .val (.ref b55), .val (.ref b116), .val (.ref b117), .val (.long p0.toInt64), .second, .val (.long p1.toInt64), .second] [(.int v31), (.int ta), (.ref b116)]))
    refine own_up (fun _ kq => XS.iconst X132.here hx rfl (hb hby at_971) kq) ?_
    show own_Go p.tables e below _ (T132.setTop (mkF m 972 #[.val (.int p0), .val (.int p1), .val (.int p2), .val (.int p3), .val (.int p4), .val (.int p5), .val (.int (1 : Int32)), .val (.int ra), .val (.int v19), .val (.int v31), .val (.int ta), .val (.int bs), .val (.int bq), .val (.int tb), .val (.ref b5), .val (.ref b55), .val (.ref b116), .val (.ref b117), .val (.long p0.toInt64), .second, .val (.long p1.toInt64), .second] [(.int (3 : Int32)), (.int v31), (.int ta), (.ref b116)]))
    refine own_up (fun _ kq => XS.iload X132.here hx rfl (hb hby at_972) rfl kq) ?_
    show own_Go p.tables e below _ (T132.setTop (mkF m 974 #[.val (.int p0), .val (.int p1), .val (.int p2), .val (.int p3), .val (.int p4), .val (.int p5), .val (.int (1 : Int32)), .val (.int ra), .val (.int v19), .val (.int v31), .val (.int ta), .val (.int bs), .val (.int bq), .val (.int tb), .val (.ref b5), .val (.ref b55), .val (.ref b116), .val (.ref b117), .val (.long p0.toInt64), .second, .val (.long p1.toInt64), .second] [(.int (1 : Int32)), (.int (3 : Int32)), (.int v31), (.int ta), (.ref b116)]))
    refine own_up (fun _ kq => XS.lload X132.here hx rfl (hb hby at_974) rfl kq) ?_
    show own_Go p.tables e below _ (T132.setTop (mkF m 976 #[.val (.int p0), .val (.int p1), .val (.int p2), .val (.int p3), .val (.int p4), .val (.int p5), .val (.int (1 : Int32)), .val (.int ra), .val (.int v19), .val (.int v31), .val (.int ta), .val (.int bs), .val (.int bq), .val (.int tb), .val (.ref b5), .val (.ref b55), .val (.ref b116), .val (.ref b117), .val (.long p0.toInt64), .second, .val (.long p1.toInt64), .second] [(.long p0.toInt64), (.int (1 : Int32)), (.int (3 : Int32)), (.int v31), (.int ta), (.ref b116)]))
    refine own_up (fun _ kq => XS.lload X132.here hx rfl (hb hby at_976) rfl kq) ?_
    show own_Go p.tables e below _ (T132.setTop (mkF m 978 #[.val (.int p0), .val (.int p1), .val (.int p2), .val (.int p3), .val (.int p4), .val (.int p5), .val (.int (1 : Int32)), .val (.int ra), .val (.int v19), .val (.int v31), .val (.int ta), .val (.int bs), .val (.int bq), .val (.int tb), .val (.ref b5), .val (.ref b55), .val (.ref b116), .val (.ref b117), .val (.long p0.toInt64), .second, .val (.long p1.toInt64), .second] [(.long p1.toInt64), (.long p0.toInt64), (.int (1 : Int32)), (.int (3 : Int32)), (.int v31), (.int ta), (.ref b116)]))
    refine own_up (fun _ kq => XS.iload X132.here hx rfl (hb hby at_978) rfl kq) ?_
    show own_Go p.tables e below _ (T132.setTop (mkF m 980 #[.val (.int p0), .val (.int p1), .val (.int p2), .val (.int p3), .val (.int p4), .val (.int p5), .val (.int (1 : Int32)), .val (.int ra), .val (.int v19), .val (.int v31), .val (.int ta), .val (.int bs), .val (.int bq), .val (.int tb), .val (.ref b5), .val (.ref b55), .val (.ref b116), .val (.ref b117), .val (.long p0.toInt64), .second, .val (.long p1.toInt64), .second] [(.int tb), (.long p1.toInt64), (.long p0.toInt64), (.int (1 : Int32)), (.int (3 : Int32)), (.int v31), (.int ta), (.ref b116)]))
    refine own_up (fun _ kq => XS.iload X132.here hx rfl (hb hby at_980) rfl kq) ?_
    show own_Go p.tables e below _ (T132.setTop (mkF m 982 #[.val (.int p0), .val (.int p1), .val (.int p2), .val (.int p3), .val (.int p4), .val (.int p5), .val (.int (1 : Int32)), .val (.int ra), .val (.int v19), .val (.int v31), .val (.int ta), .val (.int bs), .val (.int bq), .val (.int tb), .val (.ref b5), .val (.ref b55), .val (.ref b116), .val (.ref b117), .val (.long p0.toInt64), .second, .val (.long p1.toInt64), .second] [(.int bs), (.int tb), (.long p1.toInt64), (.long p0.toInt64), (.int (1 : Int32)), (.int (3 : Int32)), (.int v31), (.int ta), (.ref b116)]))
    refine own_up (fun _ kq => XS.iload X132.here hx rfl (hb hby at_982) rfl kq) ?_
    show own_Go p.tables e below _ (T132.setTop (mkF m 984 #[.val (.int p0), .val (.int p1), .val (.int p2), .val (.int p3), .val (.int p4), .val (.int p5), .val (.int (1 : Int32)), .val (.int ra), .val (.int v19), .val (.int v31), .val (.int ta), .val (.int bs), .val (.int bq), .val (.int tb), .val (.ref b5), .val (.ref b55), .val (.ref b116), .val (.ref b117), .val (.long p0.toInt64), .second, .val (.long p1.toInt64), .second] [(.int bq), (.int bs), (.int tb), (.long p1.toInt64), (.long p0.toInt64), (.int (1 : Int32)), (.int (3 : Int32)), (.int v31), (.int ta), (.ref b116)]))
    obtain ⟨_, _, ⟨T133, L133, k133, n133⟩, -, X133, ⟨Lc133, hQ133, l133, y133, z133⟩, st133⟩ := Jvm.LawKit.callS X132 hx (y := (⟨"com/example/indexica/indexica/ScaledSumEightRowsPinLaw", "row", "([DIIIIJJIII)Z"⟩ : MethodName)) hown (mvT hZ (hw _ (List.mem_of_getElem? (i := 131) rfl))) (mvT hZ (hw _ (List.mem_of_getElem? (i := 132) rfl))) (mvT hZ (hw _ (List.mem_of_getElem? (i := 133) rfl))) (mvT hZ (hw _ (List.mem_of_getElem? (i := 134) rfl))) (by decide) (backOf (W := 0) (rmW l Z a0 hw [] b116 ta v31 (3 : Int32) (1 : Int32) p0.toInt64 p1.toInt64 tb bs bq (own_U 1 p0 p1 ta v31 tb bs bq) T129.heap n0 ZH G_b116 (own_ok 1 (by decide) p0 p1 HB rfl (0 : Int32) (3 : Int32) (by decide) (by decide)) (own_ok 1 (by decide) p0 p1 HB rfl (1 : Int32) (3 : Int32) (by decide) (by decide)) (own_ok 1 (by decide) p0 p1 HB rfl (2 : Int32) (3 : Int32) (by decide) (by decide))) hZ (hw _ (List.mem_of_getElem? (i := 134) rfl)) (hw _ (List.mem_of_getElem? (i := 133) rfl)) (by decide) (by decide)) (g := (mkF m 984 #[.val (.int p0), .val (.int p1), .val (.int p2), .val (.int p3), .val (.int p4), .val (.int p5), .val (.int (1 : Int32)), .val (.int ra), .val (.int v19), .val (.int v31), .val (.int ta), .val (.int bs), .val (.int bq), .val (.int tb), .val (.ref b5), .val (.ref b55), .val (.ref b116), .val (.ref b117), .val (.long p0.toInt64), .second, .val (.long p1.toInt64), .second] [(.int bq), (.int bs), (.int tb), (.long p1.toInt64), (.long p0.toInt64), (.int (1 : Int32)), (.int (3 : Int32)), (.int v31), (.int ta), (.ref b116)])) rfl (by rw [hml]; rfl) (argsL := [(.ref b116), (.int ta), (.int v31), (.int (3 : Int32)), (.int (1 : Int32)), (.long p0.toInt64), (.long p1.toInt64), (.int tb), (.int bs), (.int bq)]) (rest := []) (lenOf pd_4 rfl) rfl (by show 2 * 0 + _ ≤ _; exact Nat.le_of_eq rfl) (hb hby at_984) (fun _ _ => ⟨rfl, e132, (by decide : 4 + 0 ≤ _), (by decide : 158 + 0 ≤ _)⟩)
    dsimp only [Pt.U, Pt.locs, Pt.cells, Pt.slots] at X133 l133 y133 z133 st133 hQ133
    subst l133 y133 z133
    obtain ⟨rfl, Nq133, e133⟩ := hQ133
    have N133 := Fr.app N132 Nq133
    refine own_up st133 ?_
    show own_Go p.tables e below _ (T133.setTop (mkF m 987 #[.val (.int p0), .val (.int p1), .val (.int p2), .val (.int p3), .val (.int p4), .val (.int p5), .val (.int (1 : Int32)), .val (.int ra), .val (.int v19), .val (.int v31), .val (.int ta), .val (.int bs), .val (.int bq), .val (.int tb), .val (.ref b5), .val (.ref b55), .val (.ref b116), .val (.ref b117), .val (.long p0.toInt64), .second, .val (.long p1.toInt64), .second] [(.int (1 : Int32))]))
    refine own_up (fun _ kq => XS.ifNo X133.here hx rfl (hb hby at_987) rfl ((if0 _ _).trans (feq (by decide : ¬ ((1 : Int32) = (0 : Int32)))).1) kq) ?_
    show own_Go p.tables e below _ (T133.setTop (mkF m 990 #[.val (.int p0), .val (.int p1), .val (.int p2), .val (.int p3), .val (.int p4), .val (.int p5), .val (.int (1 : Int32)), .val (.int ra), .val (.int v19), .val (.int v31), .val (.int ta), .val (.int bs), .val (.int bq), .val (.int tb), .val (.ref b5), .val (.ref b55), .val (.ref b116), .val (.ref b117), .val (.long p0.toInt64), .second, .val (.long p1.toInt64), .second] []))
    refine own_up (fun _ kq => XS.aload X133.here hx rfl (hb hby at_990) rfl rfl kq) ?_
    show own_Go p.tables e below _ (T133.setTop (mkF m 992 #[.val (.int p0), .val (.int p1), .val (.int p2), .val (.int p3), .val (.int p4), .val (.int p5), .val (.int (1 : Int32)), .val (.int ra), .val (.int v19), .val (.int v31), .val (.int ta), .val (.int bs), .val (.int bq), .val (.int tb), .val (.ref b5), .val (.ref b55), .val (.ref b116), .val (.ref b117), .val (.long p0.toInt64), .second, .val (.long p1.toInt64), .second] [(.ref b116)]))
    refine own_up (fun _ kq => XS.iload X133.here hx rfl (hb hby at_992) rfl kq) ?_
    show own_Go p.tables e below _ (T133.setTop (mkF m 994 #[.val (.int p0), .val (.int p1), .val (.int p2), .val (.int p3), .val (.int p4), .val (.int p5), .val (.int (1 : Int32)), .val (.int ra), .val (.int v19), .val (.int v31), .val (.int ta), .val (.int bs), .val (.int bq), .val (.int tb), .val (.ref b5), .val (.ref b55), .val (.ref b116), .val (.ref b117), .val (.long p0.toInt64), .second, .val (.long p1.toInt64), .second] [(.int ta), (.ref b116)]))
    refine own_up (fun _ kq => XS.iload X133.here hx rfl (hb hby at_994) rfl kq) ?_
    show own_Go p.tables e below _ (T133.setTop (mkF m 996 #[.val (.int p0), .val (.int p1), .val (.int p2), .val (.int p3), .val (.int p4), .val (.int p5), .val (.int (1 : Int32)), .val (.int ra), .val (.int v19), .val (.int v31), .val (.int ta), .val (.int bs), .val (.int bq), .val (.int tb), .val (.ref b5), .val (.ref b55), .val (.ref b116), .val (.ref b117), .val (.long p0.toInt64), .second, .val (.long p1.toInt64), .second] [(.int v31), (.int ta), (.ref b116)]))
    refine own_up (fun _ kq => XS.iconst X133.here hx rfl (hb hby at_996) kq) ?_
    show own_Go p.tables e below _ (T133.setTop (mkF m 997 #[.val (.int p0), .val (.int p1), .val (.int p2), .val (.int p3), .val (.int p4), .val (.int p5), .val (.int (1 : Int32)), .val (.int ra), .val (.int v19), .val (.int v31), .val (.int ta), .val (.int bs), .val (.int bq), .val (.int tb), .val (.ref b5), .val (.ref b55), .val (.ref b116), .val (.ref b117), .val (.long p0.toInt64), .second, .val (.long p1.toInt64), .second] [(.int (4 : Int32)), (.int v31), (.int ta), (.ref b116)]))
    refine own_up (fun _ kq => XS.iload X133.here hx rfl (hb hby at_997) rfl kq) ?_
    show own_Go p.tables e below _ (T133.setTop (mkF m 999 #[.val (.int p0), .val (.int p1), .val (.int p2), .val (.int p3), .val (.int p4), .val (.int p5), .val (.int (1 : Int32)), .val (.int ra), .val (.int v19), .val (.int v31), .val (.int ta), .val (.int bs), .val (.int bq), .val (.int tb), .val (.ref b5), .val (.ref b55), .val (.ref b116), .val (.ref b117), .val (.long p0.toInt64), .second, .val (.long p1.toInt64), .second] [(.int (1 : Int32)), (.int (4 : Int32)), (.int v31), (.int ta), (.ref b116)]))
    refine own_up (fun _ kq => XS.lload X133.here hx rfl (hb hby at_999) rfl kq) ?_
    show own_Go p.tables e below _ (T133.setTop (mkF m 1001 #[.val (.int p0), .val (.int p1), .val (.int p2), .val (.int p3), .val (.int p4), .val (.int p5), .val (.int (1 : Int32)), .val (.int ra), .val (.int v19), .val (.int v31), .val (.int ta), .val (.int bs), .val (.int bq), .val (.int tb), .val (.ref b5), .val (.ref b55), .val (.ref b116), .val (.ref b117), .val (.long p0.toInt64), .second, .val (.long p1.toInt64), .second] [(.long p0.toInt64), (.int (1 : Int32)), (.int (4 : Int32)), (.int v31), (.int ta), (.ref b116)]))
    refine own_up (fun _ kq => XS.lload X133.here hx rfl (hb hby at_1001) rfl kq) ?_
    show own_Go p.tables e below _ (T133.setTop (mkF m 1003 #[.val (.int p0), .val (.int p1), .val (.int p2), .val (.int p3), .val (.int p4), .val (.int p5), .val (.int (1 : Int32)), .val (.int ra), .val (.int v19), .val (.int v31), .val (.int ta), .val (.int bs), .val (.int bq), .val (.int tb), .val (.ref b5), .val (.ref b55), .val (.ref b116), .val (.ref b117), .val (.long p0.toInt64), .second, .val (.long p1.toInt64), .second] [(.long p1.toInt64), (.long p0.toInt64), (.int (1 : Int32)), (.int (4 : Int32)), (.int v31), (.int ta), (.ref b116)]))
    refine own_up (fun _ kq => XS.iload X133.here hx rfl (hb hby at_1003) rfl kq) ?_
    show own_Go p.tables e below _ (T133.setTop (mkF m 1005 #[.val (.int p0), .val (.int p1), .val (.int p2), .val (.int p3), .val (.int p4), .val (.int p5), .val (.int (1 : Int32)), .val (.int ra), .val (.int v19), .val (.int v31), .val (.int ta), .val (.int bs), .val (.int bq), .val (.int tb), .val (.ref b5), .val (.ref b55), .val (.ref b116), .val (.ref b117), .val (.long p0.toInt64), .second, .val (.long p1.toInt64), .second] [(.int tb), (.long p1.toInt64), (.long p0.toInt64), (.int (1 : Int32)), (.int (4 : Int32)), (.int v31), (.int ta), (.ref b116)]))
    refine own_up (fun _ kq => XS.iload X133.here hx rfl (hb hby at_1005) rfl kq) ?_
    show own_Go p.tables e below _ (T133.setTop (mkF m 1007 #[.val (.int p0), .val (.int p1), .val (.int p2), .val (.int p3), .val (.int p4), .val (.int p5), .val (.int (1 : Int32)), .val (.int ra), .val (.int v19), .val (.int v31), .val (.int ta), .val (.int bs), .val (.int bq), .val (.int tb), .val (.ref b5), .val (.ref b55), .val (.ref b116), .val (.ref b117), .val (.long p0.toInt64), .second, .val (.long p1.toInt64), .second] [(.int bs), (.int tb), (.long p1.toInt64), (.long p0.toInt64), (.int (1 : Int32)), (.int (4 : Int32)), (.int v31), (.int ta), (.ref b116)]))
    refine own_up (fun _ kq => XS.iload X133.here hx rfl (hb hby at_1007) rfl kq) ?_
    show own_Go p.tables e below _ (T133.setTop (mkF m 1009 #[.val (.int p0), .val (.int p1), .val (.int p2), .val (.int p3), .val (.int p4), .val (.int p5), .val (.int (1 : Int32)), .val (.int ra), .val (.int v19), .val (.int v31), .val (.int ta), .val (.int bs), .val (.int bq), .val (.int tb), .val (.ref b5), .val (.ref b55), .val (.ref b116), .val (.ref b117), .val (.long p0.toInt64), .second, .val (.long p1.toInt64), .second] [(.int bq), (.int bs), (.int tb), (.long p1.toInt64), (.long p0.toInt64), (.int (1 : Int32)), (.int (4 : Int32)), (.int v31), (.int ta), (.ref b116)]))
    obtain ⟨_, _, ⟨T134, L134, k134, n134⟩, -, X134, ⟨Lc134, hQ134, l134, y134, z134⟩, st134⟩ := Jvm.LawKit.callS X133 hx (y := (⟨"com/example/indexica/indexica/ScaledSumEightRowsPinLaw", "row", "([DIIIIJJIII)Z"⟩ : MethodName)) hown (mvT hZ (hw _ (List.mem_of_getElem? (i := 131) rfl))) (mvT hZ (hw _ (List.mem_of_getElem? (i := 132) rfl))) (mvT hZ (hw _ (List.mem_of_getElem? (i := 133) rfl))) (mvT hZ (hw _ (List.mem_of_getElem? (i := 134) rfl))) (by decide) (backOf (W := 0) (rmW l Z a0 hw [] b116 ta v31 (4 : Int32) (1 : Int32) p0.toInt64 p1.toInt64 tb bs bq (own_U 1 p0 p1 ta v31 tb bs bq) T129.heap n0 ZH G_b116 (own_ok 1 (by decide) p0 p1 HB rfl (0 : Int32) (4 : Int32) (by decide) (by decide)) (own_ok 1 (by decide) p0 p1 HB rfl (1 : Int32) (4 : Int32) (by decide) (by decide)) (own_ok 1 (by decide) p0 p1 HB rfl (2 : Int32) (4 : Int32) (by decide) (by decide))) hZ (hw _ (List.mem_of_getElem? (i := 134) rfl)) (hw _ (List.mem_of_getElem? (i := 133) rfl)) (by decide) (by decide)) (g := (mkF m 1009 #[.val (.int p0), .val (.int p1), .val (.int p2), .val (.int p3), .val (.int p4), .val (.int p5), .val (.int (1 : Int32)), .val (.int ra), .val (.int v19), .val (.int v31), .val (.int ta), .val (.int bs), .val (.int bq), .val (.int tb), .val (.ref b5), .val (.ref b55), .val (.ref b116), .val (.ref b117), .val (.long p0.toInt64), .second, .val (.long p1.toInt64), .second] [(.int bq), (.int bs), (.int tb), (.long p1.toInt64), (.long p0.toInt64), (.int (1 : Int32)), (.int (4 : Int32)), (.int v31), (.int ta), (.ref b116)])) rfl (by rw [hml]; rfl) (argsL := [(.ref b116), (.int ta), (.int v31), (.int (4 : Int32)), (.int (1 : Int32)), (.long p0.toInt64), (.long p1.toInt64), (.int tb), (.int bs), (.int bq)]) (rest := []) (lenOf pd_4 rfl) rfl (by show 2 * 0 + _ ≤ _; exact Nat.le_of_eq rfl) (hb hby at_1009) (fun _ _ => ⟨rfl, e133, (by decide : 4 + 0 ≤ _), (by decide : 158 + 0 ≤ _)⟩)
    dsimp only [Pt.U, Pt.locs, Pt.cells, Pt.slots] at X134 l134 y134 z134 st134 hQ134
    subst l134 y134 z134
    obtain ⟨rfl, Nq134, e134⟩ := hQ134
    have N134 := Fr.app N133 Nq134
    refine own_up st134 ?_
    show own_Go p.tables e below _ (T134.setTop (mkF m 1012 #[.val (.int p0), .val (.int p1), .val (.int p2), .val (.int p3), .val (.int p4), .val (.int p5), .val (.int (1 : Int32)), .val (.int ra), .val (.int v19), .val (.int v31), .val (.int ta), .val (.int bs), .val (.int bq), .val (.int tb), .val (.ref b5), .val (.ref b55), .val (.ref b116), .val (.ref b117), .val (.long p0.toInt64), .second, .val (.long p1.toInt64), .second] [(.int (1 : Int32))]))
    refine own_up (fun _ kq => XS.ifNo X134.here hx rfl (hb hby at_1012) rfl ((if0 _ _).trans (feq (by decide : ¬ ((1 : Int32) = (0 : Int32)))).1) kq) ?_
    show own_Go p.tables e below _ (T134.setTop (mkF m 1015 #[.val (.int p0), .val (.int p1), .val (.int p2), .val (.int p3), .val (.int p4), .val (.int p5), .val (.int (1 : Int32)), .val (.int ra), .val (.int v19), .val (.int v31), .val (.int ta), .val (.int bs), .val (.int bq), .val (.int tb), .val (.ref b5), .val (.ref b55), .val (.ref b116), .val (.ref b117), .val (.long p0.toInt64), .second, .val (.long p1.toInt64), .second] []))
    refine own_up (fun _ kq => XS.aload X134.here hx rfl (hb hby at_1015) rfl rfl kq) ?_
    show own_Go p.tables e below _ (T134.setTop (mkF m 1017 #[.val (.int p0), .val (.int p1), .val (.int p2), .val (.int p3), .val (.int p4), .val (.int p5), .val (.int (1 : Int32)), .val (.int ra), .val (.int v19), .val (.int v31), .val (.int ta), .val (.int bs), .val (.int bq), .val (.int tb), .val (.ref b5), .val (.ref b55), .val (.ref b116), .val (.ref b117), .val (.long p0.toInt64), .second, .val (.long p1.toInt64), .second] [(.ref b116)]))
    refine own_up (fun _ kq => XS.iload X134.here hx rfl (hb hby at_1017) rfl kq) ?_
    show own_Go p.tables e below _ (T134.setTop (mkF m 1019 #[.val (.int p0), .val (.int p1), .val (.int p2), .val (.int p3), .val (.int p4), .val (.int p5), .val (.int (1 : Int32)), .val (.int ra), .val (.int v19), .val (.int v31), .val (.int ta), .val (.int bs), .val (.int bq), .val (.int tb), .val (.ref b5), .val (.ref b55), .val (.ref b116), .val (.ref b117), .val (.long p0.toInt64), .second, .val (.long p1.toInt64), .second] [(.int ta), (.ref b116)]))
    refine own_up (fun _ kq => XS.iload X134.here hx rfl (hb hby at_1019) rfl kq) ?_
    show own_Go p.tables e below _ (T134.setTop (mkF m 1021 #[.val (.int p0), .val (.int p1), .val (.int p2), .val (.int p3), .val (.int p4), .val (.int p5), .val (.int (1 : Int32)), .val (.int ra), .val (.int v19), .val (.int v31), .val (.int ta), .val (.int bs), .val (.int bq), .val (.int tb), .val (.ref b5), .val (.ref b55), .val (.ref b116), .val (.ref b117), .val (.long p0.toInt64), .second, .val (.long p1.toInt64), .second] [(.int v31), (.int ta), (.ref b116)]))
    refine own_up (fun _ kq => XS.iconst X134.here hx rfl (hb hby at_1021) kq) ?_
    show own_Go p.tables e below _ (T134.setTop (mkF m 1022 #[.val (.int p0), .val (.int p1), .val (.int p2), .val (.int p3), .val (.int p4), .val (.int p5), .val (.int (1 : Int32)), .val (.int ra), .val (.int v19), .val (.int v31), .val (.int ta), .val (.int bs), .val (.int bq), .val (.int tb), .val (.ref b5), .val (.ref b55), .val (.ref b116), .val (.ref b117), .val (.long p0.toInt64), .second, .val (.long p1.toInt64), .second] [(.int (5 : Int32)), (.int v31), (.int ta), (.ref b116)]))
    refine own_up (fun _ kq => XS.iload X134.here hx rfl (hb hby at_1022) rfl kq) ?_
    show own_Go p.tables e below _ (T134.setTop (mkF m 1024 #[.val (.int p0), .val (.int p1), .val (.int p2), .val (.int p3), .val (.int p4), .val (.int p5), .val (.int (1 : Int32)), .val (.int ra), .val (.int v19), .val (.int v31), .val (.int ta), .val (.int bs), .val (.int bq), .val (.int tb), .val (.ref b5), .val (.ref b55), .val (.ref b116), .val (.ref b117), .val (.long p0.toInt64), .second, .val (.long p1.toInt64), .second] [(.int (1 : Int32)), (.int (5 : Int32)), (.int v31), (.int ta), (.ref b116)]))
    refine own_up (fun _ kq => XS.lload X134.here hx rfl (hb hby at_1024) rfl kq) ?_
    show own_Go p.tables e below _ (T134.setTop (mkF m 1026 #[.val (.int p0), .val (.int p1), .val (.int p2), .val (.int p3), .val (.int p4), .val (.int p5), .val (.int (1 : Int32)), .val (.int ra), .val (.int v19), .val (.int v31), .val (.int ta), .val (.int bs), .val (.int bq), .val (.int tb), .val (.ref b5), .val (.ref b55), .val (.ref b116), .val (.ref b117), .val (.long p0.toInt64), .second, .val (.long p1.toInt64), .second] [(.long p0.toInt64), (.int (1 : Int32)), (.int (5 : Int32)), (.int v31), (.int ta), (.ref b116)]))
    refine own_up (fun _ kq => XS.lload X134.here hx rfl (hb hby at_1026) rfl kq) ?_
    show own_Go p.tables e below _ (T134.setTop (mkF m 1028 #[.val (.int p0), .val (.int p1), .val (.int p2), .val (.int p3), .val (.int p4), .val (.int p5), .val (.int (1 : Int32)), .val (.int ra), .val (.int v19), .val (.int v31), .val (.int ta), .val (.int bs), .val (.int bq), .val (.int tb), .val (.ref b5), .val (.ref b55), .val (.ref b116), .val (.ref b117), .val (.long p0.toInt64), .second, .val (.long p1.toInt64), .second] [(.long p1.toInt64), (.long p0.toInt64), (.int (1 : Int32)), (.int (5 : Int32)), (.int v31), (.int ta), (.ref b116)]))
    refine own_up (fun _ kq => XS.iload X134.here hx rfl (hb hby at_1028) rfl kq) ?_
    show own_Go p.tables e below _ (T134.setTop (mkF m 1030 #[.val (.int p0), .val (.int p1), .val (.int p2), .val (.int p3), .val (.int p4), .val (.int p5), .val (.int (1 : Int32)), .val (.int ra), .val (.int v19), .val (.int v31), .val (.int ta), .val (.int bs), .val (.int bq), .val (.int tb), .val (.ref b5), .val (.ref b55), .val (.ref b116), .val (.ref b117), .val (.long p0.toInt64), .second, .val (.long p1.toInt64), .second] [(.int tb), (.long p1.toInt64), (.long p0.toInt64), (.int (1 : Int32)), (.int (5 : Int32)), (.int v31), (.int ta), (.ref b116)]))
    refine own_up (fun _ kq => XS.iload X134.here hx rfl (hb hby at_1030) rfl kq) ?_
    show own_Go p.tables e below _ (T134.setTop (mkF m 1032 #[.val (.int p0), .val (.int p1), .val (.int p2), .val (.int p3), .val (.int p4), .val (.int p5), .val (.int (1 : Int32)), .val (.int ra), .val (.int v19), .val (.int v31), .val (.int ta), .val (.int bs), .val (.int bq), .val (.int tb), .val (.ref b5), .val (.ref b55), .val (.ref b116), .val (.ref b117), .val (.long p0.toInt64), .second, .val (.long p1.toInt64), .second] [(.int bs), (.int tb), (.long p1.toInt64), (.long p0.toInt64), (.int (1 : Int32)), (.int (5 : Int32)), (.int v31), (.int ta), (.ref b116)]))
    refine own_up (fun _ kq => XS.iload X134.here hx rfl (hb hby at_1032) rfl kq) ?_
    show own_Go p.tables e below _ (T134.setTop (mkF m 1034 #[.val (.int p0), .val (.int p1), .val (.int p2), .val (.int p3), .val (.int p4), .val (.int p5), .val (.int (1 : Int32)), .val (.int ra), .val (.int v19), .val (.int v31), .val (.int ta), .val (.int bs), .val (.int bq), .val (.int tb), .val (.ref b5), .val (.ref b55), .val (.ref b116), .val (.ref b117), .val (.long p0.toInt64), .second, .val (.long p1.toInt64), .second] [(.int bq), (.int bs), (.int tb), (.long p1.toInt64), (.long p0.toInt64), (.int (1 : Int32)), (.int (5 : Int32)), (.int v31), (.int ta), (.ref b116)]))
    obtain ⟨_, _, ⟨T135, L135, k135, n135⟩, -, X135, ⟨Lc135, hQ135, l135, y135, z135⟩, st135⟩ := Jvm.LawKit.callS X134 hx (y := (⟨"com/example/indexica/indexica/ScaledSumEightRowsPinLaw", "row", "([DIIIIJJIII)Z"⟩ : MethodName)) hown (mvT hZ (hw _ (List.mem_of_getElem? (i := 131) rfl))) (mvT hZ (hw _ (List.mem_of_getElem? (i := 132) rfl))) (mvT hZ (hw _ (List.mem_of_getElem? (i := 133) rfl))) (mvT hZ (hw _ (List.mem_of_getElem? (i := 134) rfl))) (by decide) (backOf (W := 0) (rmW l Z a0 hw [] b116 ta v31 (5 : Int32) (1 : Int32) p0.toInt64 p1.toInt64 tb bs bq (own_U 1 p0 p1 ta v31 tb bs bq) T129.heap n0 ZH G_b116 (own_ok 1 (by decide) p0 p1 HB rfl (0 : Int32) (5 : Int32) (by decide) (by decide)) (own_ok 1 (by decide) p0 p1 HB rfl (1 : Int32) (5 : Int32) (by decide) (by decide)) (own_ok 1 (by decide) p0 p1 HB rfl (2 : Int32) (5 : Int32) (by decide) (by decide))) hZ (hw _ (List.mem_of_getElem? (i := 134) rfl)) (hw _ (List.mem_of_getElem? (i := 133) rfl)) (by decide) (by decide)) (g := (mkF m 1034 #[.val (.int p0), .val (.int p1), .val (.int p2), .val (.int p3), .val (.int p4), .val (.int p5), .val (.int (1 : Int32)), .val (.int ra), .val (.int v19), .val (.int v31), .val (.int ta), .val (.int bs), .val (.int bq), .val (.int tb), .val (.ref b5), .val (.ref b55), .val (.ref b116), .val (.ref b117), .val (.long p0.toInt64), .second, .val (.long p1.toInt64), .second] [(.int bq), (.int bs), (.int tb), (.long p1.toInt64), (.long p0.toInt64), (.int (1 : Int32)), (.int (5 : Int32)), (.int v31), (.int ta), (.ref b116)])) rfl (by rw [hml]; rfl) (argsL := [(.ref b116), (.int ta), (.int v31), (.int (5 : Int32)), (.int (1 : Int32)), (.long p0.toInt64), (.long p1.toInt64), (.int tb), (.int bs), (.int bq)]) (rest := []) (lenOf pd_4 rfl) rfl (by show 2 * 0 + _ ≤ _; exact Nat.le_of_eq rfl) (hb hby at_1034) (fun _ _ => ⟨rfl, e134, (by decide : 4 + 0 ≤ _), (by decide : 158 + 0 ≤ _)⟩)
    dsimp only [Pt.U, Pt.locs, Pt.cells, Pt.slots] at X135 l135 y135 z135 st135 hQ135
    subst l135 y135 z135
    obtain ⟨rfl, Nq135, e135⟩ := hQ135
    have N135 := Fr.app N134 Nq135
    refine own_up st135 ?_
    show own_Go p.tables e below _ (T135.setTop (mkF m 1037 #[.val (.int p0), .val (.int p1), .val (.int p2), .val (.int p3), .val (.int p4), .val (.int p5), .val (.int (1 : Int32)), .val (.int ra), .val (.int v19), .val (.int v31), .val (.int ta), .val (.int bs), .val (.int bq), .val (.int tb), .val (.ref b5), .val (.ref b55), .val (.ref b116), .val (.ref b117), .val (.long p0.toInt64), .second, .val (.long p1.toInt64), .second] [(.int (1 : Int32))]))
    refine own_up (fun _ kq => XS.ifNo X135.here hx rfl (hb hby at_1037) rfl ((if0 _ _).trans (feq (by decide : ¬ ((1 : Int32) = (0 : Int32)))).1) kq) ?_
    show own_Go p.tables e below _ (T135.setTop (mkF m 1040 #[.val (.int p0), .val (.int p1), .val (.int p2), .val (.int p3), .val (.int p4), .val (.int p5), .val (.int (1 : Int32)), .val (.int ra), .val (.int v19), .val (.int v31), .val (.int ta), .val (.int bs), .val (.int bq), .val (.int tb), .val (.ref b5), .val (.ref b55), .val (.ref b116), .val (.ref b117), .val (.long p0.toInt64), .second, .val (.long p1.toInt64), .second] []))
    refine own_up (fun _ kq => XS.aload X135.here hx rfl (hb hby at_1040) rfl rfl kq) ?_
    show own_Go p.tables e below _ (T135.setTop (mkF m 1042 #[.val (.int p0), .val (.int p1), .val (.int p2), .val (.int p3), .val (.int p4), .val (.int p5), .val (.int (1 : Int32)), .val (.int ra), .val (.int v19), .val (.int v31), .val (.int ta), .val (.int bs), .val (.int bq), .val (.int tb), .val (.ref b5), .val (.ref b55), .val (.ref b116), .val (.ref b117), .val (.long p0.toInt64), .second, .val (.long p1.toInt64), .second] [(.ref b116)]))
    refine own_up (fun _ kq => XS.iload X135.here hx rfl (hb hby at_1042) rfl kq) ?_
    show own_Go p.tables e below _ (T135.setTop (mkF m 1044 #[.val (.int p0), .val (.int p1), .val (.int p2), .val (.int p3), .val (.int p4), .val (.int p5), .val (.int (1 : Int32)), .val (.int ra), .val (.int v19), .val (.int v31), .val (.int ta), .val (.int bs), .val (.int bq), .val (.int tb), .val (.ref b5), .val (.ref b55), .val (.ref b116), .val (.ref b117), .val (.long p0.toInt64), .second, .val (.long p1.toInt64), .second] [(.int ta), (.ref b116)]))
    refine own_up (fun _ kq => XS.iload X135.here hx rfl (hb hby at_1044) rfl kq) ?_
    show own_Go p.tables e below _ (T135.setTop (mkF m 1046 #[.val (.int p0), .val (.int p1), .val (.int p2), .val (.int p3), .val (.int p4), .val (.int p5), .val (.int (1 : Int32)), .val (.int ra), .val (.int v19), .val (.int v31), .val (.int ta), .val (.int bs), .val (.int bq), .val (.int tb), .val (.ref b5), .val (.ref b55), .val (.ref b116), .val (.ref b117), .val (.long p0.toInt64), .second, .val (.long p1.toInt64), .second] [(.int v31), (.int ta), (.ref b116)]))
    refine own_up (fun _ kq => XS.bipush X135.here hx rfl (hb hby at_1046) kq) ?_
    show own_Go p.tables e below _ (T135.setTop (mkF m 1048 #[.val (.int p0), .val (.int p1), .val (.int p2), .val (.int p3), .val (.int p4), .val (.int p5), .val (.int (1 : Int32)), .val (.int ra), .val (.int v19), .val (.int v31), .val (.int ta), .val (.int bs), .val (.int bq), .val (.int tb), .val (.ref b5), .val (.ref b55), .val (.ref b116), .val (.ref b117), .val (.long p0.toInt64), .second, .val (.long p1.toInt64), .second] [(.int (6 : Int32)), (.int v31), (.int ta), (.ref b116)]))
    refine own_up (fun _ kq => XS.iload X135.here hx rfl (hb hby at_1048) rfl kq) ?_
    show own_Go p.tables e below _ (T135.setTop (mkF m 1050 #[.val (.int p0), .val (.int p1), .val (.int p2), .val (.int p3), .val (.int p4), .val (.int p5), .val (.int (1 : Int32)), .val (.int ra), .val (.int v19), .val (.int v31), .val (.int ta), .val (.int bs), .val (.int bq), .val (.int tb), .val (.ref b5), .val (.ref b55), .val (.ref b116), .val (.ref b117), .val (.long p0.toInt64), .second, .val (.long p1.toInt64), .second] [(.int (1 : Int32)), (.int (6 : Int32)), (.int v31), (.int ta), (.ref b116)]))
    refine own_up (fun _ kq => XS.lload X135.here hx rfl (hb hby at_1050) rfl kq) ?_
    show own_Go p.tables e below _ (T135.setTop (mkF m 1052 #[.val (.int p0), .val (.int p1), .val (.int p2), .val (.int p3), .val (.int p4), .val (.int p5), .val (.int (1 : Int32)), .val (.int ra), .val (.int v19), .val (.int v31), .val (.int ta), .val (.int bs), .val (.int bq), .val (.int tb), .val (.ref b5), .val (.ref b55), .val (.ref b116), .val (.ref b117), .val (.long p0.toInt64), .second, .val (.long p1.toInt64), .second] [(.long p0.toInt64), (.int (1 : Int32)), (.int (6 : Int32)), (.int v31), (.int ta), (.ref b116)]))
    refine own_up (fun _ kq => XS.lload X135.here hx rfl (hb hby at_1052) rfl kq) ?_
    show own_Go p.tables e below _ (T135.setTop (mkF m 1054 #[.val (.int p0), .val (.int p1), .val (.int p2), .val (.int p3), .val (.int p4), .val (.int p5), .val (.int (1 : Int32)), .val (.int ra), .val (.int v19), .val (.int v31), .val (.int ta), .val (.int bs), .val (.int bq), .val (.int tb), .val (.ref b5), .val (.ref b55), .val (.ref b116), .val (.ref b117), .val (.long p0.toInt64), .second, .val (.long p1.toInt64), .second] [(.long p1.toInt64), (.long p0.toInt64), (.int (1 : Int32)), (.int (6 : Int32)), (.int v31), (.int ta), (.ref b116)]))
    refine own_up (fun _ kq => XS.iload X135.here hx rfl (hb hby at_1054) rfl kq) ?_
    show own_Go p.tables e below _ (T135.setTop (mkF m 1056 #[.val (.int p0), .val (.int p1), .val (.int p2), .val (.int p3), .val (.int p4), .val (.int p5), .val (.int (1 : Int32)), .val (.int ra), .val (.int v19), .val (.int v31), .val (.int ta), .val (.int bs), .val (.int bq), .val (.int tb), .val (.ref b5), .val (.ref b55), .val (.ref b116), .val (.ref b117), .val (.long p0.toInt64), .second, .val (.long p1.toInt64), .second] [(.int tb), (.long p1.toInt64), (.long p0.toInt64), (.int (1 : Int32)), (.int (6 : Int32)), (.int v31), (.int ta), (.ref b116)]))
    refine own_up (fun _ kq => XS.iload X135.here hx rfl (hb hby at_1056) rfl kq) ?_
    show own_Go p.tables e below _ (T135.setTop (mkF m 1058 #[.val (.int p0), .val (.int p1), .val (.int p2), .val (.int p3), .val (.int p4), .val (.int p5), .val (.int (1 : Int32)), .val (.int ra), .val (.int v19), .val (.int v31), .val (.int ta), .val (.int bs), .val (.int bq), .val (.int tb), .val (.ref b5), .val (.ref b55), .val (.ref b116), .val (.ref b117), .val (.long p0.toInt64), .second, .val (.long p1.toInt64), .second] [(.int bs), (.int tb), (.long p1.toInt64), (.long p0.toInt64), (.int (1 : Int32)), (.int (6 : Int32)), (.int v31), (.int ta), (.ref b116)]))
    refine own_up (fun _ kq => XS.iload X135.here hx rfl (hb hby at_1058) rfl kq) ?_
    show own_Go p.tables e below _ (T135.setTop (mkF m 1060 #[.val (.int p0), .val (.int p1), .val (.int p2), .val (.int p3), .val (.int p4), .val (.int p5), .val (.int (1 : Int32)), .val (.int ra), .val (.int v19), .val (.int v31), .val (.int ta), .val (.int bs), .val (.int bq), .val (.int tb), .val (.ref b5), .val (.ref b55), .val (.ref b116), .val (.ref b117), .val (.long p0.toInt64), .second, .val (.long p1.toInt64), .second] [(.int bq), (.int bs), (.int tb), (.long p1.toInt64), (.long p0.toInt64), (.int (1 : Int32)), (.int (6 : Int32)), (.int v31), (.int ta), (.ref b116)]))
    obtain ⟨_, _, ⟨T136, L136, k136, n136⟩, -, X136, ⟨Lc136, hQ136, l136, y136, z136⟩, st136⟩ := Jvm.LawKit.callS X135 hx (y := (⟨"com/example/indexica/indexica/ScaledSumEightRowsPinLaw", "row", "([DIIIIJJIII)Z"⟩ : MethodName)) hown (mvT hZ (hw _ (List.mem_of_getElem? (i := 131) rfl))) (mvT hZ (hw _ (List.mem_of_getElem? (i := 132) rfl))) (mvT hZ (hw _ (List.mem_of_getElem? (i := 133) rfl))) (mvT hZ (hw _ (List.mem_of_getElem? (i := 134) rfl))) (by decide) (backOf (W := 0) (rmW l Z a0 hw [] b116 ta v31 (6 : Int32) (1 : Int32) p0.toInt64 p1.toInt64 tb bs bq (own_U 1 p0 p1 ta v31 tb bs bq) T129.heap n0 ZH G_b116 (own_ok 1 (by decide) p0 p1 HB rfl (0 : Int32) (6 : Int32) (by decide) (by decide)) (own_ok 1 (by decide) p0 p1 HB rfl (1 : Int32) (6 : Int32) (by decide) (by decide)) (own_ok 1 (by decide) p0 p1 HB rfl (2 : Int32) (6 : Int32) (by decide) (by decide))) hZ (hw _ (List.mem_of_getElem? (i := 134) rfl)) (hw _ (List.mem_of_getElem? (i := 133) rfl)) (by decide) (by decide)) (g := (mkF m 1060 #[.val (.int p0), .val (.int p1), .val (.int p2), .val (.int p3), .val (.int p4), .val (.int p5), .val (.int (1 : Int32)), .val (.int ra), .val (.int v19), .val (.int v31), .val (.int ta), .val (.int bs), .val (.int bq), .val (.int tb), .val (.ref b5), .val (.ref b55), .val (.ref b116), .val (.ref b117), .val (.long p0.toInt64), .second, .val (.long p1.toInt64), .second] [(.int bq), (.int bs), (.int tb), (.long p1.toInt64), (.long p0.toInt64), (.int (1 : Int32)), (.int (6 : Int32)), (.int v31), (.int ta), (.ref b116)])) rfl (by rw [hml]; rfl) (argsL := [(.ref b116), (.int ta), (.int v31), (.int (6 : Int32)), (.int (1 : Int32)), (.long p0.toInt64), (.long p1.toInt64), (.int tb), (.int bs), (.int bq)]) (rest := []) (lenOf pd_4 rfl) rfl (by show 2 * 0 + _ ≤ _; exact Nat.le_of_eq rfl) (hb hby at_1060) (fun _ _ => ⟨rfl, e135, (by decide : 4 + 0 ≤ _), (by decide : 158 + 0 ≤ _)⟩)
    dsimp only [Pt.U, Pt.locs, Pt.cells, Pt.slots] at X136 l136 y136 z136 st136 hQ136
    subst l136 y136 z136
    obtain ⟨rfl, Nq136, e136⟩ := hQ136
    have N136 := Fr.app N135 Nq136
    refine own_up st136 ?_
    show own_Go p.tables e below _ (T136.setTop (mkF m 1063 #[.val (.int p0), .val (.int p1), .val (.int p2), .val (.int p3), .val (.int p4), .val (.int p5), .val (.int (1 : Int32)), .val (.int ra), .val (.int v19), .val (.int v31), .val (.int ta), .val (.int bs), .val (.int bq), .val (.int tb), .val (.ref b5), .val (.ref b55), .val (.ref b116), .val (.ref b117), .val (.long p0.toInt64), .second, .val (.long p1.toInt64), .second] [(.int (1 : Int32))]))
    refine own_up (fun _ kq => XS.ifNo X136.here hx rfl (hb hby at_1063) rfl ((if0 _ _).trans (feq (by decide : ¬ ((1 : Int32) = (0 : Int32)))).1) kq) ?_
    show own_Go p.tables e below _ (T136.setTop (mkF m 1066 #[.val (.int p0), .val (.int p1), .val (.int p2), .val (.int p3), .val (.int p4), .val (.int p5), .val (.int (1 : Int32)), .val (.int ra), .val (.int v19), .val (.int v31), .val (.int ta), .val (.int bs), .val (.int bq), .val (.int tb), .val (.ref b5), .val (.ref b55), .val (.ref b116), .val (.ref b117), .val (.long p0.toInt64), .second, .val (.long p1.toInt64), .second] []))
    refine own_up (fun _ kq => XS.aload X136.here hx rfl (hb hby at_1066) rfl rfl kq) ?_
    show own_Go p.tables e below _ (T136.setTop (mkF m 1068 #[.val (.int p0), .val (.int p1), .val (.int p2), .val (.int p3), .val (.int p4), .val (.int p5), .val (.int (1 : Int32)), .val (.int ra), .val (.int v19), .val (.int v31), .val (.int ta), .val (.int bs), .val (.int bq), .val (.int tb), .val (.ref b5), .val (.ref b55), .val (.ref b116), .val (.ref b117), .val (.long p0.toInt64), .second, .val (.long p1.toInt64), .second] [(.ref b116)]))
    refine own_up (fun _ kq => XS.iload X136.here hx rfl (hb hby at_1068) rfl kq) ?_
    show own_Go p.tables e below _ (T136.setTop (mkF m 1070 #[.val (.int p0), .val (.int p1), .val (.int p2), .val (.int p3), .val (.int p4), .val (.int p5), .val (.int (1 : Int32)), .val (.int ra), .val (.int v19), .val (.int v31), .val (.int ta), .val (.int bs), .val (.int bq), .val (.int tb), .val (.ref b5), .val (.ref b55), .val (.ref b116), .val (.ref b117), .val (.long p0.toInt64), .second, .val (.long p1.toInt64), .second] [(.int ta), (.ref b116)]))
    refine own_up (fun _ kq => XS.iload X136.here hx rfl (hb hby at_1070) rfl kq) ?_
    show own_Go p.tables e below _ (T136.setTop (mkF m 1072 #[.val (.int p0), .val (.int p1), .val (.int p2), .val (.int p3), .val (.int p4), .val (.int p5), .val (.int (1 : Int32)), .val (.int ra), .val (.int v19), .val (.int v31), .val (.int ta), .val (.int bs), .val (.int bq), .val (.int tb), .val (.ref b5), .val (.ref b55), .val (.ref b116), .val (.ref b117), .val (.long p0.toInt64), .second, .val (.long p1.toInt64), .second] [(.int v31), (.int ta), (.ref b116)]))
    refine own_up (fun _ kq => XS.bipush X136.here hx rfl (hb hby at_1072) kq) ?_
    show own_Go p.tables e below _ (T136.setTop (mkF m 1074 #[.val (.int p0), .val (.int p1), .val (.int p2), .val (.int p3), .val (.int p4), .val (.int p5), .val (.int (1 : Int32)), .val (.int ra), .val (.int v19), .val (.int v31), .val (.int ta), .val (.int bs), .val (.int bq), .val (.int tb), .val (.ref b5), .val (.ref b55), .val (.ref b116), .val (.ref b117), .val (.long p0.toInt64), .second, .val (.long p1.toInt64), .second] [(.int (7 : Int32)), (.int v31), (.int ta), (.ref b116)]))
    refine own_up (fun _ kq => XS.iload X136.here hx rfl (hb hby at_1074) rfl kq) ?_
    show own_Go p.tables e below _ (T136.setTop (mkF m 1076 #[.val (.int p0), .val (.int p1), .val (.int p2), .val (.int p3), .val (.int p4), .val (.int p5), .val (.int (1 : Int32)), .val (.int ra), .val (.int v19), .val (.int v31), .val (.int ta), .val (.int bs), .val (.int bq), .val (.int tb), .val (.ref b5), .val (.ref b55), .val (.ref b116), .val (.ref b117), .val (.long p0.toInt64), .second, .val (.long p1.toInt64), .second] [(.int (1 : Int32)), (.int (7 : Int32)), (.int v31), (.int ta), (.ref b116)]))
    refine own_up (fun _ kq => XS.lload X136.here hx rfl (hb hby at_1076) rfl kq) ?_
    show own_Go p.tables e below _ (T136.setTop (mkF m 1078 #[.val (.int p0), .val (.int p1), .val (.int p2), .val (.int p3), .val (.int p4), .val (.int p5), .val (.int (1 : Int32)), .val (.int ra), .val (.int v19), .val (.int v31), .val (.int ta), .val (.int bs), .val (.int bq), .val (.int tb), .val (.ref b5), .val (.ref b55), .val (.ref b116), .val (.ref b117), .val (.long p0.toInt64), .second, .val (.long p1.toInt64), .second] [(.long p0.toInt64), (.int (1 : Int32)), (.int (7 : Int32)), (.int v31), (.int ta), (.ref b116)]))
    refine own_up (fun _ kq => XS.lload X136.here hx rfl (hb hby at_1078) rfl kq) ?_
    show own_Go p.tables e below _ (T136.setTop (mkF m 1080 #[.val (.int p0), .val (.int p1), .val (.int p2), .val (.int p3), .val (.int p4), .val (.int p5), .val (.int (1 : Int32)), .val (.int ra), .val (.int v19), .val (.int v31), .val (.int ta), .val (.int bs), .val (.int bq), .val (.int tb), .val (.ref b5), .val (.ref b55), .val (.ref b116), .val (.ref b117), .val (.long p0.toInt64), .second, .val (.long p1.toInt64), .second] [(.long p1.toInt64), (.long p0.toInt64), (.int (1 : Int32)), (.int (7 : Int32)), (.int v31), (.int ta), (.ref b116)]))
    refine own_up (fun _ kq => XS.iload X136.here hx rfl (hb hby at_1080) rfl kq) ?_
    show own_Go p.tables e below _ (T136.setTop (mkF m 1082 #[.val (.int p0), .val (.int p1), .val (.int p2), .val (.int p3), .val (.int p4), .val (.int p5), .val (.int (1 : Int32)), .val (.int ra), .val (.int v19), .val (.int v31), .val (.int ta), .val (.int bs), .val (.int bq), .val (.int tb), .val (.ref b5), .val (.ref b55), .val (.ref b116), .val (.ref b117), .val (.long p0.toInt64), .second, .val (.long p1.toInt64), .second] [(.int tb), (.long p1.toInt64), (.long p0.toInt64), (.int (1 : Int32)), (.int (7 : Int32)), (.int v31), (.int ta), (.ref b116)]))
    refine own_up (fun _ kq => XS.iload X136.here hx rfl (hb hby at_1082) rfl kq) ?_
    show own_Go p.tables e below _ (T136.setTop (mkF m 1084 #[.val (.int p0), .val (.int p1), .val (.int p2), .val (.int p3), .val (.int p4), .val (.int p5), .val (.int (1 : Int32)), .val (.int ra), .val (.int v19), .val (.int v31), .val (.int ta), .val (.int bs), .val (.int bq), .val (.int tb), .val (.ref b5), .val (.ref b55), .val (.ref b116), .val (.ref b117), .val (.long p0.toInt64), .second, .val (.long p1.toInt64), .second] [(.int bs), (.int tb), (.long p1.toInt64), (.long p0.toInt64), (.int (1 : Int32)), (.int (7 : Int32)), (.int v31), (.int ta), (.ref b116)]))
    refine own_up (fun _ kq => XS.iload X136.here hx rfl (hb hby at_1084) rfl kq) ?_
    show own_Go p.tables e below _ (T136.setTop (mkF m 1086 #[.val (.int p0), .val (.int p1), .val (.int p2), .val (.int p3), .val (.int p4), .val (.int p5), .val (.int (1 : Int32)), .val (.int ra), .val (.int v19), .val (.int v31), .val (.int ta), .val (.int bs), .val (.int bq), .val (.int tb), .val (.ref b5), .val (.ref b55), .val (.ref b116), .val (.ref b117), .val (.long p0.toInt64), .second, .val (.long p1.toInt64), .second] [(.int bq), (.int bs), (.int tb), (.long p1.toInt64), (.long p0.toInt64), (.int (1 : Int32)), (.int (7 : Int32)), (.int v31), (.int ta), (.ref b116)]))
    obtain ⟨_, _, ⟨T137, L137, k137, n137⟩, -, X137, ⟨Lc137, hQ137, l137, y137, z137⟩, st137⟩ := Jvm.LawKit.callS X136 hx (y := (⟨"com/example/indexica/indexica/ScaledSumEightRowsPinLaw", "row", "([DIIIIJJIII)Z"⟩ : MethodName)) hown (mvT hZ (hw _ (List.mem_of_getElem? (i := 131) rfl))) (mvT hZ (hw _ (List.mem_of_getElem? (i := 132) rfl))) (mvT hZ (hw _ (List.mem_of_getElem? (i := 133) rfl))) (mvT hZ (hw _ (List.mem_of_getElem? (i := 134) rfl))) (by decide) (backOf (W := 0) (rmW l Z a0 hw [] b116 ta v31 (7 : Int32) (1 : Int32) p0.toInt64 p1.toInt64 tb bs bq (own_U 1 p0 p1 ta v31 tb bs bq) T129.heap n0 ZH G_b116 (own_ok 1 (by decide) p0 p1 HB rfl (0 : Int32) (7 : Int32) (by decide) (by decide)) (own_ok 1 (by decide) p0 p1 HB rfl (1 : Int32) (7 : Int32) (by decide) (by decide)) (own_ok 1 (by decide) p0 p1 HB rfl (2 : Int32) (7 : Int32) (by decide) (by decide))) hZ (hw _ (List.mem_of_getElem? (i := 134) rfl)) (hw _ (List.mem_of_getElem? (i := 133) rfl)) (by decide) (by decide)) (g := (mkF m 1086 #[.val (.int p0), .val (.int p1), .val (.int p2), .val (.int p3), .val (.int p4), .val (.int p5), .val (.int (1 : Int32)), .val (.int ra), .val (.int v19), .val (.int v31), .val (.int ta), .val (.int bs), .val (.int bq), .val (.int tb), .val (.ref b5), .val (.ref b55), .val (.ref b116), .val (.ref b117), .val (.long p0.toInt64), .second, .val (.long p1.toInt64), .second] [(.int bq), (.int bs), (.int tb), (.long p1.toInt64), (.long p0.toInt64), (.int (1 : Int32)), (.int (7 : Int32)), (.int v31), (.int ta), (.ref b116)])) rfl (by rw [hml]; rfl) (argsL := [(.ref b116), (.int ta), (.int v31), (.int (7 : Int32)), (.int (1 : Int32)), (.long p0.toInt64), (.long p1.toInt64), (.int tb), (.int bs), (.int bq)]) (rest := []) (lenOf pd_4 rfl) rfl (by show 2 * 0 + _ ≤ _; exact Nat.le_of_eq rfl) (hb hby at_1086) (fun _ _ => ⟨rfl, e136, (by decide : 4 + 0 ≤ _), (by decide : 158 + 0 ≤ _)⟩)
    dsimp only [Pt.U, Pt.locs, Pt.cells, Pt.slots] at X137 l137 y137 z137 st137 hQ137
    subst l137 y137 z137
    obtain ⟨rfl, Nq137, e137⟩ := hQ137
    have N137 := Fr.app N136 Nq137
    refine own_up st137 ?_
    show own_Go p.tables e below _ (T137.setTop (mkF m 1089 #[.val (.int p0), .val (.int p1), .val (.int p2), .val (.int p3), .val (.int p4), .val (.int p5), .val (.int (1 : Int32)), .val (.int ra), .val (.int v19), .val (.int v31), .val (.int ta), .val (.int bs), .val (.int bq), .val (.int tb), .val (.ref b5), .val (.ref b55), .val (.ref b116), .val (.ref b117), .val (.long p0.toInt64), .second, .val (.long p1.toInt64), .second] [(.int (1 : Int32))]))
    refine own_up (fun _ kq => XS.ifNo X137.here hx rfl (hb hby at_1089) rfl ((if0 _ _).trans (feq (by decide : ¬ ((1 : Int32) = (0 : Int32)))).1) kq) ?_
    show own_Go p.tables e below _ (T137.setTop (mkF m 1092 #[.val (.int p0), .val (.int p1), .val (.int p2), .val (.int p3), .val (.int p4), .val (.int p5), .val (.int (1 : Int32)), .val (.int ra), .val (.int v19), .val (.int v31), .val (.int ta), .val (.int bs), .val (.int bq), .val (.int tb), .val (.ref b5), .val (.ref b55), .val (.ref b116), .val (.ref b117), .val (.long p0.toInt64), .second, .val (.long p1.toInt64), .second] []))
    refine own_up (fun _ kq => XS.iconst X137.here hx rfl (hb hby at_1092) kq) ?_
    show own_Go p.tables e below _ (T137.setTop (mkF m 1093 #[.val (.int p0), .val (.int p1), .val (.int p2), .val (.int p3), .val (.int p4), .val (.int p5), .val (.int (1 : Int32)), .val (.int ra), .val (.int v19), .val (.int v31), .val (.int ta), .val (.int bs), .val (.int bq), .val (.int tb), .val (.ref b5), .val (.ref b55), .val (.ref b116), .val (.ref b117), .val (.long p0.toInt64), .second, .val (.long p1.toInt64), .second] [(.int (1 : Int32))]))
    refine own_up (fun _ kq => XS.goto X137.here hx rfl (pc0 := 1093) (pc' := 1097) rfl (hb hby at_1093) (by decide) (by decide) kq) ?_
    show own_Go p.tables e below _ (T137.setTop (mkF m 1097 #[.val (.int p0), .val (.int p1), .val (.int p2), .val (.int p3), .val (.int p4), .val (.int p5), .val (.int (1 : Int32)), .val (.int ra), .val (.int v19), .val (.int v31), .val (.int ta), .val (.int bs), .val (.int bq), .val (.int tb), .val (.ref b5), .val (.ref b55), .val (.ref b116), .val (.ref b117), .val (.long p0.toInt64), .second, .val (.long p1.toInt64), .second] [(.int (1 : Int32))]))
    obtain ⟨fs138, hr138, hrun138, hended138, hW138, hsame138⟩ := X137.leave (v := some (.int (1 : Int32))) (fun h => by rw [Bd.returns] at h; cases h)
    refine own_end ⟨_, _, ?_, hrun138, hended138, _, _, rfl, ?_, ⟨_, rfl⟩, hW138, hsame138.mono (by decide) (by decide)⟩
    · exact retN X137 hx (t := .boolean) Bd.returns (by simp) (hb hby at_1097) hr138
    · show Qrm0 Z p0 p1 p2 p3 p4 p5 h0 n0 _ T137.heap _
      rw [e137]
      exact ⟨rfl, N137⟩
  · show own_Go p.tables e below _ (T118.setTop (mkF m 879 #[.val (.int p0), .val (.int p1), .val (.int p2), .val (.int p3), .val (.int p4), .val (.int p5), .val (.int (2 : Int32)), .val (.int ra), .val (.int v19), .val (.int v31), .val (.int ta), .val (.int bs), .val (.int bq), .val (.int tb), .val (.ref b5), .val (.ref b55), .val (.ref b116), .val (.ref b117), .unset, .unset, .unset, .unset] [(.int (2 : Int32)), (.int bq), (.int bs), (.int tb), (.int v31), (.int ta), (.ref b116), (.ref b55), (.ref b5), (.ref b117)]))
    obtain ⟨cq139, kq139, q139a, q139b, q139c⟩ := isOf hZ rfl E_b117
    obtain ⟨_, _, ⟨T139, L139, k139, n139⟩, -, X139, ⟨Lc139, hQ139, l139, y139, z139⟩, st139⟩ := X118.virtualBack hx (y := (⟨"com/example/indexica/indexica/ScaledSum", "eightRows", "([D[D[DIIIIII)V"⟩ : MethodName)) (z := (⟨"com/example/indexica/indexica/ScaledSum", "eightRows", "([D[D[DIIIIII)V"⟩ : MethodName)) hown (mvT hZ (hw _ (List.mem_of_getElem? (i := 126) rfl))) (mvT hZ (hw _ (List.mem_of_getElem? (i := 127) rfl))) (notFace_of_selects (args := #[]) (mvT hZ (hw _ (List.mem_of_getElem? (i := 129) rfl)))) (mvT hZ (hw _ (List.mem_of_getElem? (i := 129) rfl))) (mvT hZ (hw _ (List.mem_of_getElem? (i := 128) rfl))) (by decide) (backOf (W := 0) (rmE2 l Z a0 hw [] b117 b5 b55 b116 ta v31 tb bs bq (FP.i2d p0) (FP.i2d p1) (own_L own_l48) (own_L own_l60) (fun _ => 0) T118.heap n0 ZH F_alpha_b117 F_beta_b117 G_b5 G_b55 G_b116 g_b116 ne_b5_b116 ne_b55_b116 (i2d_fin p0) own_ua (own_mb p1) (own_i0 HB (0 : Int32) (by decide)) (own_i1 HB (0 : Int32) (by decide)) (own_i HB (0 : Int32) (2 : Int32) (by decide) (by decide)) (own_i HB (0 : Int32) (3 : Int32) (by decide) (by decide)) (own_i HB (0 : Int32) (4 : Int32) (by decide) (by decide)) (own_i HB (0 : Int32) (5 : Int32) (by decide) (by decide)) (own_i HB (0 : Int32) (6 : Int32) (by decide) (by decide)) (own_i HB (0 : Int32) (7 : Int32) (by decide) (by decide)) (own_i0 HB (1 : Int32) (by decide)) (own_i1 HB (1 : Int32) (by decide)) (own_i HB (1 : Int32) (2 : Int32) (by decide) (by decide)) (own_i HB (1 : Int32) (3 : Int32) (by decide) (by decide)) (own_i HB (1 : Int32) (4 : Int32) (by decide) (by decide)) (own_i HB (1 : Int32) (5 : Int32) (by decide) (by decide)) (own_i HB (1 : Int32) (6 : Int32) (by decide) (by decide)) (own_i HB (1 : Int32) (7 : Int32) (by decide) (by decide)) (own_j0 HB (0 : Int32) (by decide)) (own_j1 HB (0 : Int32) (by decide)) (own_j HB (0 : Int32) (2 : Int32) (by decide) (by decide)) (own_j HB (0 : Int32) (3 : Int32) (by decide) (by decide)) (own_j HB (0 : Int32) (4 : Int32) (by decide) (by decide)) (own_j HB (0 : Int32) (5 : Int32) (by decide) (by decide)) (own_j HB (0 : Int32) (6 : Int32) (by decide) (by decide)) (own_j HB (0 : Int32) (7 : Int32) (by decide) (by decide)) (own_j0 HB (1 : Int32) (by decide)) (own_j1 HB (1 : Int32) (by decide)) (own_j HB (1 : Int32) (2 : Int32) (by decide) (by decide)) (own_j HB (1 : Int32) (3 : Int32) (by decide) (by decide)) (own_j HB (1 : Int32) (4 : Int32) (by decide) (by decide)) (own_j HB (1 : Int32) (5 : Int32) (by decide) (by decide)) (own_j HB (1 : Int32) (6 : Int32) (by decide) (by decide)) (own_j HB (1 : Int32) (7 : Int32) (by decide) (by decide))) hZ (hw _ (List.mem_of_getElem? (i := 130) rfl)) (hw _ (List.mem_of_getElem? (i := 110) rfl)) (by decide) (by decide)) q139a q139c (g := (mkF m 879 #[.val (.int p0), .val (.int p1), .val (.int p2), .val (.int p3), .val (.int p4), .val (.int p5), .val (.int (2 : Int32)), .val (.int ra), .val (.int v19), .val (.int v31), .val (.int ta), .val (.int bs), .val (.int bq), .val (.int tb), .val (.ref b5), .val (.ref b55), .val (.ref b116), .val (.ref b117), .unset, .unset, .unset, .unset] [(.int (2 : Int32)), (.int bq), (.int bs), (.int tb), (.int v31), (.int ta), (.ref b116), (.ref b55), (.ref b5), (.ref b117)])) rfl (by rw [hml]; rfl) (Steps.refl _) (argsL := [(.ref b5), (.ref b55), (.ref b116), (.int ta), (.int v31), (.int tb), (.int bs), (.int bq), (.int (2 : Int32))]) (rest := []) (lenOf pd_3 rfl) rfl (by show 2 * 0 + _ ≤ _; exact Nat.le_of_eq rfl) (hb hby at_879) (fun _ _ => ⟨rfl, rfl, (by decide : 4 + 0 ≤ _), (by decide : 158 + 0 ≤ _)⟩)
    dsimp only [Pt.U, Pt.locs, Pt.cells, Pt.slots] at X139 l139 y139 z139 st139 hQ139
    subst l139 y139 z139
    obtain ⟨rfl, Nq139, K139, Gq139⟩ := hQ139
    have N139 := Fr.app N118 Nq139
    have G_b5 := G_b5.keep K139 (ninS ne_b5_b116 nin0)
    have G_b55 := G_b55.keep K139 (ninS ne_b55_b116 nin0)
    have E_b117 := E_b117.keep K139
    have F_alpha_b117 := F_alpha_b117.keep K139 (ninS (Ne.symm ne_b116_b117) nin0)
    have F_beta_b117 := F_beta_b117.keep K139 (ninS (Ne.symm ne_b116_b117) nin0)
    have ZH := Nat.le_trans ZH K139.1
    have KK := KK.trans K139 (allS (Or.inr sz_b116) all0)
    have G_b116 : own_Arf Z T139.heap b116 .double (48 : Int32) (fun i => .double (own_U 2 p0 p1 ta v31 tb bs bq i)) := Gq139
    refine own_up (fun _ kq => st139.trans kq) ?_
    show own_Go p.tables e below _ (T139.setTop (mkF m 882 #[.val (.int p0), .val (.int p1), .val (.int p2), .val (.int p3), .val (.int p4), .val (.int p5), .val (.int (2 : Int32)), .val (.int ra), .val (.int v19), .val (.int v31), .val (.int ta), .val (.int bs), .val (.int bq), .val (.int tb), .val (.ref b5), .val (.ref b55), .val (.ref b116), .val (.ref b117), .unset, .unset, .unset, .unset] []))
    refine own_up (fun _ kq => XS.iloadN X139.here hx rfl (hb hby at_882) rfl kq) ?_
    show own_Go p.tables e below _ (T139.setTop (mkF m 883 #[.val (.int p0), .val (.int p1), .val (.int p2), .val (.int p3), .val (.int p4), .val (.int p5), .val (.int (2 : Int32)), .val (.int ra), .val (.int v19), .val (.int v31), .val (.int ta), .val (.int bs), .val (.int bq), .val (.int tb), .val (.ref b5), .val (.ref b55), .val (.ref b116), .val (.ref b117), .unset, .unset, .unset, .unset] [(.int p0)]))
    refine own_up (fun _ kq => XS.i2l X139.here hx rfl (hb hby at_883) rfl kq) ?_
    show own_Go p.tables e below _ (T139.setTop (mkF m 884 #[.val (.int p0), .val (.int p1), .val (.int p2), .val (.int p3), .val (.int p4), .val (.int p5), .val (.int (2 : Int32)), .val (.int ra), .val (.int v19), .val (.int v31), .val (.int ta), .val (.int bs), .val (.int bq), .val (.int tb), .val (.ref b5), .val (.ref b55), .val (.ref b116), .val (.ref b117), .unset, .unset, .unset, .unset] [(.long p0.toInt64)]))
    refine own_up (fun _ kq => XS.lstore X139.here hx rfl (hb hby at_884) rfl (l' := #[.val (.int p0), .val (.int p1), .val (.int p2), .val (.int p3), .val (.int p4), .val (.int p5), .val (.int (2 : Int32)), .val (.int ra), .val (.int v19), .val (.int v31), .val (.int ta), .val (.int bs), .val (.int bq), .val (.int tb), .val (.ref b5), .val (.ref b55), .val (.ref b116), .val (.ref b117), .val (.long p0.toInt64), .second, .unset, .unset]) rfl kq) ?_
    show own_Go p.tables e below _ (T139.setTop (mkF m 886 #[.val (.int p0), .val (.int p1), .val (.int p2), .val (.int p3), .val (.int p4), .val (.int p5), .val (.int (2 : Int32)), .val (.int ra), .val (.int v19), .val (.int v31), .val (.int ta), .val (.int bs), .val (.int bq), .val (.int tb), .val (.ref b5), .val (.ref b55), .val (.ref b116), .val (.ref b117), .val (.long p0.toInt64), .second, .unset, .unset] []))
    refine own_up (fun _ kq => XS.iloadN X139.here hx rfl (hb hby at_886) rfl kq) ?_
    show own_Go p.tables e below _ (T139.setTop (mkF m 887 #[.val (.int p0), .val (.int p1), .val (.int p2), .val (.int p3), .val (.int p4), .val (.int p5), .val (.int (2 : Int32)), .val (.int ra), .val (.int v19), .val (.int v31), .val (.int ta), .val (.int bs), .val (.int bq), .val (.int tb), .val (.ref b5), .val (.ref b55), .val (.ref b116), .val (.ref b117), .val (.long p0.toInt64), .second, .unset, .unset] [(.int p1)]))
    refine own_up (fun _ kq => XS.i2l X139.here hx rfl (hb hby at_887) rfl kq) ?_
    show own_Go p.tables e below _ (T139.setTop (mkF m 888 #[.val (.int p0), .val (.int p1), .val (.int p2), .val (.int p3), .val (.int p4), .val (.int p5), .val (.int (2 : Int32)), .val (.int ra), .val (.int v19), .val (.int v31), .val (.int ta), .val (.int bs), .val (.int bq), .val (.int tb), .val (.ref b5), .val (.ref b55), .val (.ref b116), .val (.ref b117), .val (.long p0.toInt64), .second, .unset, .unset] [(.long p1.toInt64)]))
    refine own_up (fun _ kq => XS.lstore X139.here hx rfl (hb hby at_888) rfl (l' := #[.val (.int p0), .val (.int p1), .val (.int p2), .val (.int p3), .val (.int p4), .val (.int p5), .val (.int (2 : Int32)), .val (.int ra), .val (.int v19), .val (.int v31), .val (.int ta), .val (.int bs), .val (.int bq), .val (.int tb), .val (.ref b5), .val (.ref b55), .val (.ref b116), .val (.ref b117), .val (.long p0.toInt64), .second, .val (.long p1.toInt64), .second]) rfl kq) ?_
    show own_Go p.tables e below _ (T139.setTop (mkF m 890 #[.val (.int p0), .val (.int p1), .val (.int p2), .val (.int p3), .val (.int p4), .val (.int p5), .val (.int (2 : Int32)), .val (.int ra), .val (.int v19), .val (.int v31), .val (.int ta), .val (.int bs), .val (.int bq), .val (.int tb), .val (.ref b5), .val (.ref b55), .val (.ref b116), .val (.ref b117), .val (.long p0.toInt64), .second, .val (.long p1.toInt64), .second] []))
    refine own_up (fun _ kq => XS.aload X139.here hx rfl (hb hby at_890) rfl rfl kq) ?_
    show own_Go p.tables e below _ (T139.setTop (mkF m 892 #[.val (.int p0), .val (.int p1), .val (.int p2), .val (.int p3), .val (.int p4), .val (.int p5), .val (.int (2 : Int32)), .val (.int ra), .val (.int v19), .val (.int v31), .val (.int ta), .val (.int bs), .val (.int bq), .val (.int tb), .val (.ref b5), .val (.ref b55), .val (.ref b116), .val (.ref b117), .val (.long p0.toInt64), .second, .val (.long p1.toInt64), .second] [(.ref b116)]))
    refine own_up (fun _ kq => XS.iload X139.here hx rfl (hb hby at_892) rfl kq) ?_
    show own_Go p.tables e below _ (T139.setTop (mkF m 894 #[.val (.int p0), .val (.int p1), .val (.int p2), .val (.int p3), .val (.int p4), .val (.int p5), .val (.int (2 : Int32)), .val (.int ra), .val (.int v19), .val (.int v31), .val (.int ta), .val (.int bs), .val (.int bq), .val (.int tb), .val (.ref b5), .val (.ref b55), .val (.ref b116), .val (.ref b117), .val (.long p0.toInt64), .second, .val (.long p1.toInt64), .second] [(.int ta), (.ref b116)]))
    refine own_up (fun _ kq => XS.iload X139.here hx rfl (hb hby at_894) rfl kq) ?_
    show own_Go p.tables e below _ (T139.setTop (mkF m 896 #[.val (.int p0), .val (.int p1), .val (.int p2), .val (.int p3), .val (.int p4), .val (.int p5), .val (.int (2 : Int32)), .val (.int ra), .val (.int v19), .val (.int v31), .val (.int ta), .val (.int bs), .val (.int bq), .val (.int tb), .val (.ref b5), .val (.ref b55), .val (.ref b116), .val (.ref b117), .val (.long p0.toInt64), .second, .val (.long p1.toInt64), .second] [(.int v31), (.int ta), (.ref b116)]))
    refine own_up (fun _ kq => XS.iconst X139.here hx rfl (hb hby at_896) kq) ?_
    show own_Go p.tables e below _ (T139.setTop (mkF m 897 #[.val (.int p0), .val (.int p1), .val (.int p2), .val (.int p3), .val (.int p4), .val (.int p5), .val (.int (2 : Int32)), .val (.int ra), .val (.int v19), .val (.int v31), .val (.int ta), .val (.int bs), .val (.int bq), .val (.int tb), .val (.ref b5), .val (.ref b55), .val (.ref b116), .val (.ref b117), .val (.long p0.toInt64), .second, .val (.long p1.toInt64), .second] [(.int (0 : Int32)), (.int v31), (.int ta), (.ref b116)]))
    refine own_up (fun _ kq => XS.iload X139.here hx rfl (hb hby at_897) rfl kq) ?_
    show own_Go p.tables e below _ (T139.setTop (mkF m 899 #[.val (.int p0), .val (.int p1), .val (.int p2), .val (.int p3), .val (.int p4), .val (.int p5), .val (.int (2 : Int32)), .val (.int ra), .val (.int v19), .val (.int v31), .val (.int ta), .val (.int bs), .val (.int bq), .val (.int tb), .val (.ref b5), .val (.ref b55), .val (.ref b116), .val (.ref b117), .val (.long p0.toInt64), .second, .val (.long p1.toInt64), .second] [(.int (2 : Int32)), (.int (0 : Int32)), (.int v31), (.int ta), (.ref b116)]))
    refine own_up (fun _ kq => XS.lload X139.here hx rfl (hb hby at_899) rfl kq) ?_
    show own_Go p.tables e below _ (T139.setTop (mkF m 901 #[.val (.int p0), .val (.int p1), .val (.int p2), .val (.int p3), .val (.int p4), .val (.int p5), .val (.int (2 : Int32)), .val (.int ra), .val (.int v19), .val (.int v31), .val (.int ta), .val (.int bs), .val (.int bq), .val (.int tb), .val (.ref b5), .val (.ref b55), .val (.ref b116), .val (.ref b117), .val (.long p0.toInt64), .second, .val (.long p1.toInt64), .second] [(.long p0.toInt64), (.int (2 : Int32)), (.int (0 : Int32)), (.int v31), (.int ta), (.ref b116)]))
    refine own_up (fun _ kq => XS.lload X139.here hx rfl (hb hby at_901) rfl kq) ?_
    show own_Go p.tables e below _ (T139.setTop (mkF m 903 #[.val (.int p0), .val (.int p1), .val (.int p2), .val (.int p3), .val (.int p4), .val (.int p5), .val (.int (2 : Int32)), .val (.int ra), .val (.int v19), .val (.int v31), .val (.int ta), .val (.int bs), .val (.int bq), .val (.int tb), .val (.ref b5), .val (.ref b55), .val (.ref b116), .val (.ref b117), .val (.long p0.toInt64), .second, .val (.long p1.toInt64), .second] [(.long p1.toInt64), (.long p0.toInt64), (.int (2 : Int32)), (.int (0 : Int32)), (.int v31), (.int ta), (.ref b116)]))
    refine own_up (fun _ kq => XS.iload X139.here hx rfl (hb hby at_903) rfl kq) ?_
    show own_Go p.tables e below _ (T139.setTop (mkF m 905 #[.val (.int p0), .val (.int p1), .val (.int p2), .val (.int p3), .val (.int p4), .val (.int p5), .val (.int (2 : Int32)), .val (.int ra), .val (.int v19), .val (.int v31), .val (.int ta), .val (.int bs), .val (.int bq), .val (.int tb), .val (.ref b5), .val (.ref b55), .val (.ref b116), .val (.ref b117), .val (.long p0.toInt64), .second, .val (.long p1.toInt64), .second] [(.int tb), (.long p1.toInt64), (.long p0.toInt64), (.int (2 : Int32)), (.int (0 : Int32)), (.int v31), (.int ta), (.ref b116)]))
    refine own_up (fun _ kq => XS.iload X139.here hx rfl (hb hby at_905) rfl kq) ?_
    show own_Go p.tables e below _ (T139.setTop (mkF m 907 #[.val (.int p0), .val (.int p1), .val (.int p2), .val (.int p3), .val (.int p4), .val (.int p5), .val (.int (2 : Int32)), .val (.int ra), .val (.int v19), .val (.int v31), .val (.int ta), .val (.int bs), .val (.int bq), .val (.int tb), .val (.ref b5), .val (.ref b55), .val (.ref b116), .val (.ref b117), .val (.long p0.toInt64), .second, .val (.long p1.toInt64), .second] [(.int bs), (.int tb), (.long p1.toInt64), (.long p0.toInt64), (.int (2 : Int32)), (.int (0 : Int32)), (.int v31), (.int ta), (.ref b116)]))
    refine own_up (fun _ kq => XS.iload X139.here hx rfl (hb hby at_907) rfl kq) ?_
    show own_Go p.tables e below _ (T139.setTop (mkF m 909 #[.val (.int p0), .val (.int p1), .val (.int p2), .val (.int p3), .val (.int p4), .val (.int p5), .val (.int (2 : Int32)), .val (.int ra), .val (.int v19), .val (.int v31), .val (.int ta), .val (.int bs), .val (.int bq), .val (.int tb), .val (.ref b5), .val (.ref b55), .val (.ref b116), .val (.ref b117), .val (.long p0.toInt64), .second, .val (.long p1.toInt64), .second] [(.int bq), (.int bs), (.int tb), (.long p1.toInt64), (.long p0.toInt64), (.int (2 : Int32)), (.int (0 : Int32)), (.int v31), (.int ta), (.ref b116)]))
    obtain ⟨_, _, ⟨T140, L140, k140, n140⟩, -, X140, ⟨Lc140, hQ140, l140, y140, z140⟩, st140⟩ := Jvm.LawKit.callS X139 hx (y := (⟨"com/example/indexica/indexica/ScaledSumEightRowsPinLaw", "row", "([DIIIIJJIII)Z"⟩ : MethodName)) hown (mvT hZ (hw _ (List.mem_of_getElem? (i := 131) rfl))) (mvT hZ (hw _ (List.mem_of_getElem? (i := 132) rfl))) (mvT hZ (hw _ (List.mem_of_getElem? (i := 133) rfl))) (mvT hZ (hw _ (List.mem_of_getElem? (i := 134) rfl))) (by decide) (backOf (W := 0) (rmW l Z a0 hw [] b116 ta v31 (0 : Int32) (2 : Int32) p0.toInt64 p1.toInt64 tb bs bq (own_U 2 p0 p1 ta v31 tb bs bq) T139.heap n0 ZH G_b116 (own_ok 2 (by decide) p0 p1 HB rfl (0 : Int32) (0 : Int32) (by decide) (by decide)) (own_ok 2 (by decide) p0 p1 HB rfl (1 : Int32) (0 : Int32) (by decide) (by decide)) (own_ok 2 (by decide) p0 p1 HB rfl (2 : Int32) (0 : Int32) (by decide) (by decide))) hZ (hw _ (List.mem_of_getElem? (i := 134) rfl)) (hw _ (List.mem_of_getElem? (i := 133) rfl)) (by decide) (by decide)) (g := (mkF m 909 #[.val (.int p0), .val (.int p1), .val (.int p2), .val (.int p3), .val (.int p4), .val (.int p5), .val (.int (2 : Int32)), .val (.int ra), .val (.int v19), .val (.int v31), .val (.int ta), .val (.int bs), .val (.int bq), .val (.int tb), .val (.ref b5), .val (.ref b55), .val (.ref b116), .val (.ref b117), .val (.long p0.toInt64), .second, .val (.long p1.toInt64), .second] [(.int bq), (.int bs), (.int tb), (.long p1.toInt64), (.long p0.toInt64), (.int (2 : Int32)), (.int (0 : Int32)), (.int v31), (.int ta), (.ref b116)])) rfl (by rw [hml]; rfl) (argsL := [(.ref b116), (.int ta), (.int v31), (.int (0 : Int32)), (.int (2 : Int32)), (.long p0.toInt64), (.long p1.toInt64), (.int tb), (.int bs), (.int bq)]) (rest := []) (lenOf pd_4 rfl) rfl (by show 2 * 0 + _ ≤ _; exact Nat.le_of_eq rfl) (hb hby at_909) (fun _ _ => ⟨rfl, rfl, (by decide : 4 + 0 ≤ _), (by decide : 158 + 0 ≤ _)⟩)
    dsimp only [Pt.U, Pt.locs, Pt.cells, Pt.slots] at X140 l140 y140 z140 st140 hQ140
    subst l140 y140 z140
    obtain ⟨rfl, Nq140, e140⟩ := hQ140
    have N140 := Fr.app N139 Nq140
    refine own_up st140 ?_
    show own_Go p.tables e below _ (T140.setTop (mkF m 912 #[.val (.int p0), .val (.int p1), .val (.int p2), .val (.int p3), .val (.int p4), .val (.int p5), .val (.int (2 : Int32)), .val (.int ra), .val (.int v19), .val (.int v31), .val (.int ta), .val (.int bs), .val (.int bq), .val (.int tb), .val (.ref b5), .val (.ref b55), .val (.ref b116), .val (.ref b117), .val (.long p0.toInt64), .second, .val (.long p1.toInt64), .second] [(.int (1 : Int32))]))
    refine own_up (fun _ kq => XS.ifNo X140.here hx rfl (hb hby at_912) rfl ((if0 _ _).trans (feq (by decide : ¬ ((1 : Int32) = (0 : Int32)))).1) kq) ?_
    show own_Go p.tables e below _ (T140.setTop (mkF m 915 #[.val (.int p0), .val (.int p1), .val (.int p2), .val (.int p3), .val (.int p4), .val (.int p5), .val (.int (2 : Int32)), .val (.int ra), .val (.int v19), .val (.int v31), .val (.int ta), .val (.int bs), .val (.int bq), .val (.int tb), .val (.ref b5), .val (.ref b55), .val (.ref b116), .val (.ref b117), .val (.long p0.toInt64), .second, .val (.long p1.toInt64), .second] []))
    refine own_up (fun _ kq => XS.aload X140.here hx rfl (hb hby at_915) rfl rfl kq) ?_
    show own_Go p.tables e below _ (T140.setTop (mkF m 917 #[.val (.int p0), .val (.int p1), .val (.int p2), .val (.int p3), .val (.int p4), .val (.int p5), .val (.int (2 : Int32)), .val (.int ra), .val (.int v19), .val (.int v31), .val (.int ta), .val (.int bs), .val (.int bq), .val (.int tb), .val (.ref b5), .val (.ref b55), .val (.ref b116), .val (.ref b117), .val (.long p0.toInt64), .second, .val (.long p1.toInt64), .second] [(.ref b116)]))
    refine own_up (fun _ kq => XS.iload X140.here hx rfl (hb hby at_917) rfl kq) ?_
    show own_Go p.tables e below _ (T140.setTop (mkF m 919 #[.val (.int p0), .val (.int p1), .val (.int p2), .val (.int p3), .val (.int p4), .val (.int p5), .val (.int (2 : Int32)), .val (.int ra), .val (.int v19), .val (.int v31), .val (.int ta), .val (.int bs), .val (.int bq), .val (.int tb), .val (.ref b5), .val (.ref b55), .val (.ref b116), .val (.ref b117), .val (.long p0.toInt64), .second, .val (.long p1.toInt64), .second] [(.int ta), (.ref b116)]))
    refine own_up (fun _ kq => XS.iload X140.here hx rfl (hb hby at_919) rfl kq) ?_
    show own_Go p.tables e below _ (T140.setTop (mkF m 921 #[.val (.int p0), .val (.int p1), .val (.int p2), .val (.int p3), .val (.int p4), .val (.int p5), .val (.int (2 : Int32)), .val (.int ra), .val (.int v19), .val (.int v31), .val (.int ta), .val (.int bs), .val (.int bq), .val (.int tb), .val (.ref b5), .val (.ref b55), .val (.ref b116), .val (.ref b117), .val (.long p0.toInt64), .second, .val (.long p1.toInt64), .second] [(.int v31), (.int ta), (.ref b116)]))
    refine own_up (fun _ kq => XS.iconst X140.here hx rfl (hb hby at_921) kq) ?_
    show own_Go p.tables e below _ (T140.setTop (mkF m 922 #[.val (.int p0), .val (.int p1), .val (.int p2), .val (.int p3), .val (.int p4), .val (.int p5), .val (.int (2 : Int32)), .val (.int ra), .val (.int v19), .val (.int v31), .val (.int ta), .val (.int bs), .val (.int bq), .val (.int tb), .val (.ref b5), .val (.ref b55), .val (.ref b116), .val (.ref b117), .val (.long p0.toInt64), .second, .val (.long p1.toInt64), .second] [(.int (1 : Int32)), (.int v31), (.int ta), (.ref b116)]))
    refine own_up (fun _ kq => XS.iload X140.here hx rfl (hb hby at_922) rfl kq) ?_
    show own_Go p.tables e below _ (T140.setTop (mkF m 924 #[.val (.int p0), .val (.int p1), .val (.int p2), .val (.int p3), .val (.int p4), .val (.int p5), .val (.int (2 : Int32)), .val (.int ra), .val (.int v19), .val (.int v31), .val (.int ta), .val (.int bs), .val (.int bq), .val (.int tb), .val (.ref b5), .val (.ref b55), .val (.ref b116), .val (.ref b117), .val (.long p0.toInt64), .second, .val (.long p1.toInt64), .second] [(.int (2 : Int32)), (.int (1 : Int32)), (.int v31), (.int ta), (.ref b116)]))
    refine own_up (fun _ kq => XS.lload X140.here hx rfl (hb hby at_924) rfl kq) ?_
    show own_Go p.tables e below _ (T140.setTop (mkF m 926 #[.val (.int p0), .val (.int p1), .val (.int p2), .val (.int p3), .val (.int p4), .val (.int p5), .val (.int (2 : Int32)), .val (.int ra), .val (.int v19), .val (.int v31), .val (.int ta), .val (.int bs), .val (.int bq), .val (.int tb), .val (.ref b5), .val (.ref b55), .val (.ref b116), .val (.ref b117), .val (.long p0.toInt64), .second, .val (.long p1.toInt64), .second] [(.long p0.toInt64), (.int (2 : Int32)), (.int (1 : Int32)), (.int v31), (.int ta), (.ref b116)]))
    refine own_up (fun _ kq => XS.lload X140.here hx rfl (hb hby at_926) rfl kq) ?_
    show own_Go p.tables e below _ (T140.setTop (mkF m 928 #[.val (.int p0), .val (.int p1), .val (.int p2), .val (.int p3), .val (.int p4), .val (.int p5), .val (.int (2 : Int32)), .val (.int ra), .val (.int v19), .val (.int v31), .val (.int ta), .val (.int bs), .val (.int bq), .val (.int tb), .val (.ref b5), .val (.ref b55), .val (.ref b116), .val (.ref b117), .val (.long p0.toInt64), .second, .val (.long p1.toInt64), .second] [(.long p1.toInt64), (.long p0.toInt64), (.int (2 : Int32)), (.int (1 : Int32)), (.int v31), (.int ta), (.ref b116)]))
    refine own_up (fun _ kq => XS.iload X140.here hx rfl (hb hby at_928) rfl kq) ?_
    show own_Go p.tables e below _ (T140.setTop (mkF m 930 #[.val (.int p0), .val (.int p1), .val (.int p2), .val (.int p3), .val (.int p4), .val (.int p5), .val (.int (2 : Int32)), .val (.int ra), .val (.int v19), .val (.int v31), .val (.int ta), .val (.int bs), .val (.int bq), .val (.int tb), .val (.ref b5), .val (.ref b55), .val (.ref b116), .val (.ref b117), .val (.long p0.toInt64), .second, .val (.long p1.toInt64), .second] [(.int tb), (.long p1.toInt64), (.long p0.toInt64), (.int (2 : Int32)), (.int (1 : Int32)), (.int v31), (.int ta), (.ref b116)]))
    refine own_up (fun _ kq => XS.iload X140.here hx rfl (hb hby at_930) rfl kq) ?_
    show own_Go p.tables e below _ (T140.setTop (mkF m 932 #[.val (.int p0), .val (.int p1), .val (.int p2), .val (.int p3), .val (.int p4), .val (.int p5), .val (.int (2 : Int32)), .val (.int ra), .val (.int v19), .val (.int v31), .val (.int ta), .val (.int bs), .val (.int bq), .val (.int tb), .val (.ref b5), .val (.ref b55), .val (.ref b116), .val (.ref b117), .val (.long p0.toInt64), .second, .val (.long p1.toInt64), .second] [(.int bs), (.int tb), (.long p1.toInt64), (.long p0.toInt64), (.int (2 : Int32)), (.int (1 : Int32)), (.int v31), (.int ta), (.ref b116)]))
    refine own_up (fun _ kq => XS.iload X140.here hx rfl (hb hby at_932) rfl kq) ?_
    show own_Go p.tables e below _ (T140.setTop (mkF m 934 #[.val (.int p0), .val (.int p1), .val (.int p2), .val (.int p3), .val (.int p4), .val (.int p5), .val (.int (2 : Int32)), .val (.int ra), .val (.int v19), .val (.int v31), .val (.int ta), .val (.int bs), .val (.int bq), .val (.int tb), .val (.ref b5), .val (.ref b55), .val (.ref b116), .val (.ref b117), .val (.long p0.toInt64), .second, .val (.long p1.toInt64), .second] [(.int bq), (.int bs), (.int tb), (.long p1.toInt64), (.long p0.toInt64), (.int (2 : Int32)), (.int (1 : Int32)), (.int v31), (.int ta), (.ref b116)]))
    obtain ⟨_, _, ⟨T141, L141, k141, n141⟩, -, X141, ⟨Lc141, hQ141, l141, y141, z141⟩, st141⟩ := Jvm.LawKit.callS X140 hx (y := (⟨"com/example/indexica/indexica/ScaledSumEightRowsPinLaw", "row", "([DIIIIJJIII)Z"⟩ : MethodName)) hown (mvT hZ (hw _ (List.mem_of_getElem? (i := 131) rfl))) (mvT hZ (hw _ (List.mem_of_getElem? (i := 132) rfl))) (mvT hZ (hw _ (List.mem_of_getElem? (i := 133) rfl))) (mvT hZ (hw _ (List.mem_of_getElem? (i := 134) rfl))) (by decide) (backOf (W := 0) (rmW l Z a0 hw [] b116 ta v31 (1 : Int32) (2 : Int32) p0.toInt64 p1.toInt64 tb bs bq (own_U 2 p0 p1 ta v31 tb bs bq) T139.heap n0 ZH G_b116 (own_ok 2 (by decide) p0 p1 HB rfl (0 : Int32) (1 : Int32) (by decide) (by decide)) (own_ok 2 (by decide) p0 p1 HB rfl (1 : Int32) (1 : Int32) (by decide) (by decide)) (own_ok 2 (by decide) p0 p1 HB rfl (2 : Int32) (1 : Int32) (by decide) (by decide))) hZ (hw _ (List.mem_of_getElem? (i := 134) rfl)) (hw _ (List.mem_of_getElem? (i := 133) rfl)) (by decide) (by decide)) (g := (mkF m 934 #[.val (.int p0), .val (.int p1), .val (.int p2), .val (.int p3), .val (.int p4), .val (.int p5), .val (.int (2 : Int32)), .val (.int ra), .val (.int v19), .val (.int v31), .val (.int ta), .val (.int bs), .val (.int bq), .val (.int tb), .val (.ref b5), .val (.ref b55), .val (.ref b116), .val (.ref b117), .val (.long p0.toInt64), .second, .val (.long p1.toInt64), .second] [(.int bq), (.int bs), (.int tb), (.long p1.toInt64), (.long p0.toInt64), (.int (2 : Int32)), (.int (1 : Int32)), (.int v31), (.int ta), (.ref b116)])) rfl (by rw [hml]; rfl) (argsL := [(.ref b116), (.int ta), (.int v31), (.int (1 : Int32)), (.int (2 : Int32)), (.long p0.toInt64), (.long p1.toInt64), (.int tb), (.int bs), (.int bq)]) (rest := []) (lenOf pd_4 rfl) rfl (by show 2 * 0 + _ ≤ _; exact Nat.le_of_eq rfl) (hb hby at_934) (fun _ _ => ⟨rfl, e140, (by decide : 4 + 0 ≤ _), (by decide : 158 + 0 ≤ _)⟩)
    dsimp only [Pt.U, Pt.locs, Pt.cells, Pt.slots] at X141 l141 y141 z141 st141 hQ141
    subst l141 y141 z141
    obtain ⟨rfl, Nq141, e141⟩ := hQ141
    have N141 := Fr.app N140 Nq141
    refine own_up st141 ?_
    show own_Go p.tables e below _ (T141.setTop (mkF m 937 #[.val (.int p0), .val (.int p1), .val (.int p2), .val (.int p3), .val (.int p4), .val (.int p5), .val (.int (2 : Int32)), .val (.int ra), .val (.int v19), .val (.int v31), .val (.int ta), .val (.int bs), .val (.int bq), .val (.int tb), .val (.ref b5), .val (.ref b55), .val (.ref b116), .val (.ref b117), .val (.long p0.toInt64), .second, .val (.long p1.toInt64), .second] [(.int (1 : Int32))]))
    refine own_up (fun _ kq => XS.ifNo X141.here hx rfl (hb hby at_937) rfl ((if0 _ _).trans (feq (by decide : ¬ ((1 : Int32) = (0 : Int32)))).1) kq) ?_
    show own_Go p.tables e below _ (T141.setTop (mkF m 940 #[.val (.int p0), .val (.int p1), .val (.int p2), .val (.int p3), .val (.int p4), .val (.int p5), .val (.int (2 : Int32)), .val (.int ra), .val (.int v19), .val (.int v31), .val (.int ta), .val (.int bs), .val (.int bq), .val (.int tb), .val (.ref b5), .val (.ref b55), .val (.ref b116), .val (.ref b117), .val (.long p0.toInt64), .second, .val (.long p1.toInt64), .second] []))
    refine own_up (fun _ kq => XS.aload X141.here hx rfl (hb hby at_940) rfl rfl kq) ?_
    show own_Go p.tables e below _ (T141.setTop (mkF m 942 #[.val (.int p0), .val (.int p1), .val (.int p2), .val (.int p3), .val (.int p4), .val (.int p5), .val (.int (2 : Int32)), .val (.int ra), .val (.int v19), .val (.int v31), .val (.int ta), .val (.int bs), .val (.int bq), .val (.int tb), .val (.ref b5), .val (.ref b55), .val (.ref b116), .val (.ref b117), .val (.long p0.toInt64), .second, .val (.long p1.toInt64), .second] [(.ref b116)]))
    refine own_up (fun _ kq => XS.iload X141.here hx rfl (hb hby at_942) rfl kq) ?_
    show own_Go p.tables e below _ (T141.setTop (mkF m 944 #[.val (.int p0), .val (.int p1), .val (.int p2), .val (.int p3), .val (.int p4), .val (.int p5), .val (.int (2 : Int32)), .val (.int ra), .val (.int v19), .val (.int v31), .val (.int ta), .val (.int bs), .val (.int bq), .val (.int tb), .val (.ref b5), .val (.ref b55), .val (.ref b116), .val (.ref b117), .val (.long p0.toInt64), .second, .val (.long p1.toInt64), .second] [(.int ta), (.ref b116)]))
    refine own_up (fun _ kq => XS.iload X141.here hx rfl (hb hby at_944) rfl kq) ?_
    show own_Go p.tables e below _ (T141.setTop (mkF m 946 #[.val (.int p0), .val (.int p1), .val (.int p2), .val (.int p3), .val (.int p4), .val (.int p5), .val (.int (2 : Int32)), .val (.int ra), .val (.int v19), .val (.int v31), .val (.int ta), .val (.int bs), .val (.int bq), .val (.int tb), .val (.ref b5), .val (.ref b55), .val (.ref b116), .val (.ref b117), .val (.long p0.toInt64), .second, .val (.long p1.toInt64), .second] [(.int v31), (.int ta), (.ref b116)]))
    refine own_up (fun _ kq => XS.iconst X141.here hx rfl (hb hby at_946) kq) ?_
    show own_Go p.tables e below _ (T141.setTop (mkF m 947 #[.val (.int p0), .val (.int p1), .val (.int p2), .val (.int p3), .val (.int p4), .val (.int p5), .val (.int (2 : Int32)), .val (.int ra), .val (.int v19), .val (.int v31), .val (.int ta), .val (.int bs), .val (.int bq), .val (.int tb), .val (.ref b5), .val (.ref b55), .val (.ref b116), .val (.ref b117), .val (.long p0.toInt64), .second, .val (.long p1.toInt64), .second] [(.int (2 : Int32)), (.int v31), (.int ta), (.ref b116)]))
    refine own_up (fun _ kq => XS.iload X141.here hx rfl (hb hby at_947) rfl kq) ?_
    show own_Go p.tables e below _ (T141.setTop (mkF m 949 #[.val (.int p0), .val (.int p1), .val (.int p2), .val (.int p3), .val (.int p4), .val (.int p5), .val (.int (2 : Int32)), .val (.int ra), .val (.int v19), .val (.int v31), .val (.int ta), .val (.int bs), .val (.int bq), .val (.int tb), .val (.ref b5), .val (.ref b55), .val (.ref b116), .val (.ref b117), .val (.long p0.toInt64), .second, .val (.long p1.toInt64), .second] [(.int (2 : Int32)), (.int (2 : Int32)), (.int v31), (.int ta), (.ref b116)]))
    refine own_up (fun _ kq => XS.lload X141.here hx rfl (hb hby at_949) rfl kq) ?_
    show own_Go p.tables e below _ (T141.setTop (mkF m 951 #[.val (.int p0), .val (.int p1), .val (.int p2), .val (.int p3), .val (.int p4), .val (.int p5), .val (.int (2 : Int32)), .val (.int ra), .val (.int v19), .val (.int v31), .val (.int ta), .val (.int bs), .val (.int bq), .val (.int tb), .val (.ref b5), .val (.ref b55), .val (.ref b116), .val (.ref b117), .val (.long p0.toInt64), .second, .val (.long p1.toInt64), .second] [(.long p0.toInt64), (.int (2 : Int32)), (.int (2 : Int32)), (.int v31), (.int ta), (.ref b116)]))
    refine own_up (fun _ kq => XS.lload X141.here hx rfl (hb hby at_951) rfl kq) ?_
    show own_Go p.tables e below _ (T141.setTop (mkF m 953 #[.val (.int p0), .val (.int p1), .val (.int p2), .val (.int p3), .val (.int p4), .val (.int p5), .val (.int (2 : Int32)), .val (.int ra), .val (.int v19), .val (.int v31), .val (.int ta), .val (.int bs), .val (.int bq), .val (.int tb), .val (.ref b5), .val (.ref b55), .val (.ref b116), .val (.ref b117), .val (.long p0.toInt64), .second, .val (.long p1.toInt64), .second] [(.long p1.toInt64), (.long p0.toInt64), (.int (2 : Int32)), (.int (2 : Int32)), (.int v31), (.int ta), (.ref b116)]))
    refine own_up (fun _ kq => XS.iload X141.here hx rfl (hb hby at_953) rfl kq) ?_
    show own_Go p.tables e below _ (T141.setTop (mkF m 955 #[.val (.int p0), .val (.int p1), .val (.int p2), .val (.int p3), .val (.int p4), .val (.int p5), .val (.int (2 : Int32)), .val (.int ra), .val (.int v19), .val (.int v31), .val (.int ta), .val (.int bs), .val (.int bq), .val (.int tb), .val (.ref b5), .val (.ref b55), .val (.ref b116), .val (.ref b117), .val (.long p0.toInt64), .second, .val (.long p1.toInt64), .second] [(.int tb), (.long p1.toInt64), (.long p0.toInt64), (.int (2 : Int32)), (.int (2 : Int32)), (.int v31), (.int ta), (.ref b116)]))
    refine own_up (fun _ kq => XS.iload X141.here hx rfl (hb hby at_955) rfl kq) ?_
    show own_Go p.tables e below _ (T141.setTop (mkF m 957 #[.val (.int p0), .val (.int p1), .val (.int p2), .val (.int p3), .val (.int p4), .val (.int p5), .val (.int (2 : Int32)), .val (.int ra), .val (.int v19), .val (.int v31), .val (.int ta), .val (.int bs), .val (.int bq), .val (.int tb), .val (.ref b5), .val (.ref b55), .val (.ref b116), .val (.ref b117), .val (.long p0.toInt64), .second, .val (.long p1.toInt64), .second] [(.int bs), (.int tb), (.long p1.toInt64), (.long p0.toInt64), (.int (2 : Int32)), (.int (2 : Int32)), (.int v31), (.int ta), (.ref b116)]))
    refine own_up (fun _ kq => XS.iload X141.here hx rfl (hb hby at_957) rfl kq) ?_
    show own_Go p.tables e below _ (T141.setTop (mkF m 959 #[.val (.int p0), .val (.int p1), .val (.int p2), .val (.int p3), .val (.int p4), .val (.int p5), .val (.int (2 : Int32)), .val (.int ra), .val (.int v19), .val (.int v31), .val (.int ta), .val (.int bs), .val (.int bq), .val (.int tb), .val (.ref b5), .val (.ref b55), .val (.ref b116), .val (.ref b117), .val (.long p0.toInt64), .second, .val (.long p1.toInt64), .second] [(.int bq), (.int bs), (.int tb), (.long p1.toInt64), (.long p0.toInt64), (.int (2 : Int32)), (.int (2 : Int32)), (.int v31), (.int ta), (.ref b116)]))
    obtain ⟨_, _, ⟨T142, L142, k142, n142⟩, -, X142, ⟨Lc142, hQ142, l142, y142, z142⟩, st142⟩ := Jvm.LawKit.callS X141 hx (y := (⟨"com/example/indexica/indexica/ScaledSumEightRowsPinLaw", "row", "([DIIIIJJIII)Z"⟩ : MethodName)) hown (mvT hZ (hw _ (List.mem_of_getElem? (i := 131) rfl))) (mvT hZ (hw _ (List.mem_of_getElem? (i := 132) rfl))) (mvT hZ (hw _ (List.mem_of_getElem? (i := 133) rfl))) (mvT hZ (hw _ (List.mem_of_getElem? (i := 134) rfl))) (by decide) (backOf (W := 0) (rmW l Z a0 hw [] b116 ta v31 (2 : Int32) (2 : Int32) p0.toInt64 p1.toInt64 tb bs bq (own_U 2 p0 p1 ta v31 tb bs bq) T139.heap n0 ZH G_b116 (own_ok 2 (by decide) p0 p1 HB rfl (0 : Int32) (2 : Int32) (by decide) (by decide)) (own_ok 2 (by decide) p0 p1 HB rfl (1 : Int32) (2 : Int32) (by decide) (by decide)) (own_ok 2 (by decide) p0 p1 HB rfl (2 : Int32) (2 : Int32) (by decide) (by decide))) hZ (hw _ (List.mem_of_getElem? (i := 134) rfl)) (hw _ (List.mem_of_getElem? (i := 133) rfl)) (by decide) (by decide)) (g := (mkF m 959 #[.val (.int p0), .val (.int p1), .val (.int p2), .val (.int p3), .val (.int p4), .val (.int p5), .val (.int (2 : Int32)), .val (.int ra), .val (.int v19), .val (.int v31), .val (.int ta), .val (.int bs), .val (.int bq), .val (.int tb), .val (.ref b5), .val (.ref b55), .val (.ref b116), .val (.ref b117), .val (.long p0.toInt64), .second, .val (.long p1.toInt64), .second] [(.int bq), (.int bs), (.int tb), (.long p1.toInt64), (.long p0.toInt64), (.int (2 : Int32)), (.int (2 : Int32)), (.int v31), (.int ta), (.ref b116)])) rfl (by rw [hml]; rfl) (argsL := [(.ref b116), (.int ta), (.int v31), (.int (2 : Int32)), (.int (2 : Int32)), (.long p0.toInt64), (.long p1.toInt64), (.int tb), (.int bs), (.int bq)]) (rest := []) (lenOf pd_4 rfl) rfl (by show 2 * 0 + _ ≤ _; exact Nat.le_of_eq rfl) (hb hby at_959) (fun _ _ => ⟨rfl, e141, (by decide : 4 + 0 ≤ _), (by decide : 158 + 0 ≤ _)⟩)
    dsimp only [Pt.U, Pt.locs, Pt.cells, Pt.slots] at X142 l142 y142 z142 st142 hQ142
    subst l142 y142 z142
    obtain ⟨rfl, Nq142, e142⟩ := hQ142
    have N142 := Fr.app N141 Nq142
    refine own_up st142 ?_
    show own_Go p.tables e below _ (T142.setTop (mkF m 962 #[.val (.int p0), .val (.int p1), .val (.int p2), .val (.int p3), .val (.int p4), .val (.int p5), .val (.int (2 : Int32)), .val (.int ra), .val (.int v19), .val (.int v31), .val (.int ta), .val (.int bs), .val (.int bq), .val (.int tb), .val (.ref b5), .val (.ref b55), .val (.ref b116), .val (.ref b117), .val (.long p0.toInt64), .second, .val (.long p1.toInt64), .second] [(.int (1 : Int32))]))
    refine own_up (fun _ kq => XS.ifNo X142.here hx rfl (hb hby at_962) rfl ((if0 _ _).trans (feq (by decide : ¬ ((1 : Int32) = (0 : Int32)))).1) kq) ?_
    show own_Go p.tables e below _ (T142.setTop (mkF m 965 #[.val (.int p0), .val (.int p1), .val (.int p2), .val (.int p3), .val (.int p4), .val (.int p5), .val (.int (2 : Int32)), .val (.int ra), .val (.int v19), .val (.int v31), .val (.int ta), .val (.int bs), .val (.int bq), .val (.int tb), .val (.ref b5), .val (.ref b55), .val (.ref b116), .val (.ref b117), .val (.long p0.toInt64), .second, .val (.long p1.toInt64), .second] []))
    refine own_up (fun _ kq => XS.aload X142.here hx rfl (hb hby at_965) rfl rfl kq) ?_
    show own_Go p.tables e below _ (T142.setTop (mkF m 967 #[.val (.int p0), .val (.int p1), .val (.int p2), .val (.int p3), .val (.int p4), .val (.int p5), .val (.int (2 : Int32)), .val (.int ra), .val (.int v19), .val (.int v31), .val (.int ta), .val (.int bs), .val (.int bq), .val (.int tb), .val (.ref b5), .val (.ref b55), .val (.ref b116), .val (.ref b117), .val (.long p0.toInt64), .second, .val (.long p1.toInt64), .second] [(.ref b116)]))
    refine own_up (fun _ kq => XS.iload X142.here hx rfl (hb hby at_967) rfl kq) ?_
    show own_Go p.tables e below _ (T142.setTop (mkF m 969 #[.val (.int p0), .val (.int p1), .val (.int p2), .val (.int p3), .val (.int p4), .val (.int p5), .val (.int (2 : Int32)), .val (.int ra), .val (.int v19), .val (.int v31), .val (.int ta), .val (.int bs), .val (.int bq), .val (.int tb), .val (.ref b5), .val (.ref b55), .val (.ref b116), .val (.ref b117), .val (.long p0.toInt64), .second, .val (.long p1.toInt64), .second] [(.int ta), (.ref b116)]))
    refine own_up (fun _ kq => XS.iload X142.here hx rfl (hb hby at_969) rfl kq) ?_
    show own_Go p.tables e below _ (T142.setTop (mkF m 971 #[.val (.int p0), .val (.int p1), .val (.int p2), .val (.int p3), .val (.int p4), .val (.int p5), .val (.int (2 : Int32)), .val (.int ra), .val (.int v19), .val (.int v31), .val (.int ta), .val (.int bs), .val (.int bq), .val (.int tb), .val (.ref b5), .val (.ref b55), .val (.ref b116), .val (.ref b117), .val (.long p0.toInt64), .second, .val (.long p1.toInt64), .second] [(.int v31), (.int ta), (.ref b116)]))
    refine own_up (fun _ kq => XS.iconst X142.here hx rfl (hb hby at_971) kq) ?_
    show own_Go p.tables e below _ (T142.setTop (mkF m 972 #[.val (.int p0), .val (.int p1), .val (.int p2), .val (.int p3), .val (.int p4), .val (.int p5), .val (.int (2 : Int32)), .val (.int ra), .val (.int v19), .val (.int v31), .val (.int ta), .val (.int bs), .val (.int bq), .val (.int tb), .val (.ref b5), .val (.ref b55), .val (.ref b116), .val (.ref b117), .val (.long p0.toInt64), .second, .val (.long p1.toInt64), .second] [(.int (3 : Int32)), (.int v31), (.int ta), (.ref b116)]))
    refine own_up (fun _ kq => XS.iload X142.here hx rfl (hb hby at_972) rfl kq) ?_
    show own_Go p.tables e below _ (T142.setTop (mkF m 974 #[.val (.int p0), .val (.int p1), .val (.int p2), .val (.int p3), .val (.int p4), .val (.int p5), .val (.int (2 : Int32)), .val (.int ra), .val (.int v19), .val (.int v31), .val (.int ta), .val (.int bs), .val (.int bq), .val (.int tb), .val (.ref b5), .val (.ref b55), .val (.ref b116), .val (.ref b117), .val (.long p0.toInt64), .second, .val (.long p1.toInt64), .second] [(.int (2 : Int32)), (.int (3 : Int32)), (.int v31), (.int ta), (.ref b116)]))
    refine own_up (fun _ kq => XS.lload X142.here hx rfl (hb hby at_974) rfl kq) ?_
    show own_Go p.tables e below _ (T142.setTop (mkF m 976 #[.val (.int p0), .val (.int p1), .val (.int p2), .val (.int p3), .val (.int p4), .val (.int p5), .val (.int (2 : Int32)), .val (.int ra), .val (.int v19), .val (.int v31), .val (.int ta), .val (.int bs), .val (.int bq), .val (.int tb), .val (.ref b5), .val (.ref b55), .val (.ref b116), .val (.ref b117), .val (.long p0.toInt64), .second, .val (.long p1.toInt64), .second] [(.long p0.toInt64), (.int (2 : Int32)), (.int (3 : Int32)), (.int v31), (.int ta), (.ref b116)]))
    refine own_up (fun _ kq => XS.lload X142.here hx rfl (hb hby at_976) rfl kq) ?_
    show own_Go p.tables e below _ (T142.setTop (mkF m 978 #[.val (.int p0), .val (.int p1), .val (.int p2), .val (.int p3), .val (.int p4), .val (.int p5), .val (.int (2 : Int32)), .val (.int ra), .val (.int v19), .val (.int v31), .val (.int ta), .val (.int bs), .val (.int bq), .val (.int tb), .val (.ref b5), .val (.ref b55), .val (.ref b116), .val (.ref b117), .val (.long p0.toInt64), .second, .val (.long p1.toInt64), .second] [(.long p1.toInt64), (.long p0.toInt64), (.int (2 : Int32)), (.int (3 : Int32)), (.int v31), (.int ta), (.ref b116)]))
    refine own_up (fun _ kq => XS.iload X142.here hx rfl (hb hby at_978) rfl kq) ?_
    show own_Go p.tables e below _ (T142.setTop (mkF m 980 #[.val (.int p0), .val (.int p1), .val (.int p2), .val (.int p3), .val (.int p4), .val (.int p5), .val (.int (2 : Int32)), .val (.int ra), .val (.int v19), .val (.int v31), .val (.int ta), .val (.int bs), .val (.int bq), .val (.int tb), .val (.ref b5), .val (.ref b55), .val (.ref b116), .val (.ref b117), .val (.long p0.toInt64), .second, .val (.long p1.toInt64), .second] [(.int tb), (.long p1.toInt64), (.long p0.toInt64), (.int (2 : Int32)), (.int (3 : Int32)), (.int v31), (.int ta), (.ref b116)]))
    refine own_up (fun _ kq => XS.iload X142.here hx rfl (hb hby at_980) rfl kq) ?_
    show own_Go p.tables e below _ (T142.setTop (mkF m 982 #[.val (.int p0), .val (.int p1), .val (.int p2), .val (.int p3), .val (.int p4), .val (.int p5), .val (.int (2 : Int32)), .val (.int ra), .val (.int v19), .val (.int v31), .val (.int ta), .val (.int bs), .val (.int bq), .val (.int tb), .val (.ref b5), .val (.ref b55), .val (.ref b116), .val (.ref b117), .val (.long p0.toInt64), .second, .val (.long p1.toInt64), .second] [(.int bs), (.int tb), (.long p1.toInt64), (.long p0.toInt64), (.int (2 : Int32)), (.int (3 : Int32)), (.int v31), (.int ta), (.ref b116)]))
    refine own_up (fun _ kq => XS.iload X142.here hx rfl (hb hby at_982) rfl kq) ?_
    show own_Go p.tables e below _ (T142.setTop (mkF m 984 #[.val (.int p0), .val (.int p1), .val (.int p2), .val (.int p3), .val (.int p4), .val (.int p5), .val (.int (2 : Int32)), .val (.int ra), .val (.int v19), .val (.int v31), .val (.int ta), .val (.int bs), .val (.int bq), .val (.int tb), .val (.ref b5), .val (.ref b55), .val (.ref b116), .val (.ref b117), .val (.long p0.toInt64), .second, .val (.long p1.toInt64), .second] [(.int bq), (.int bs), (.int tb), (.long p1.toInt64), (.long p0.toInt64), (.int (2 : Int32)), (.int (3 : Int32)), (.int v31), (.int ta), (.ref b116)]))
    obtain ⟨_, _, ⟨T143, L143, k143, n143⟩, -, X143, ⟨Lc143, hQ143, l143, y143, z143⟩, st143⟩ := Jvm.LawKit.callS X142 hx (y := (⟨"com/example/indexica/indexica/ScaledSumEightRowsPinLaw", "row", "([DIIIIJJIII)Z"⟩ : MethodName)) hown (mvT hZ (hw _ (List.mem_of_getElem? (i := 131) rfl))) (mvT hZ (hw _ (List.mem_of_getElem? (i := 132) rfl))) (mvT hZ (hw _ (List.mem_of_getElem? (i := 133) rfl))) (mvT hZ (hw _ (List.mem_of_getElem? (i := 134) rfl))) (by decide) (backOf (W := 0) (rmW l Z a0 hw [] b116 ta v31 (3 : Int32) (2 : Int32) p0.toInt64 p1.toInt64 tb bs bq (own_U 2 p0 p1 ta v31 tb bs bq) T139.heap n0 ZH G_b116 (own_ok 2 (by decide) p0 p1 HB rfl (0 : Int32) (3 : Int32) (by decide) (by decide)) (own_ok 2 (by decide) p0 p1 HB rfl (1 : Int32) (3 : Int32) (by decide) (by decide)) (own_ok 2 (by decide) p0 p1 HB rfl (2 : Int32) (3 : Int32) (by decide) (by decide))) hZ (hw _ (List.mem_of_getElem? (i := 134) rfl)) (hw _ (List.mem_of_getElem? (i := 133) rfl)) (by decide) (by decide)) (g := (mkF m 984 #[.val (.int p0), .val (.int p1), .val (.int p2), .val (.int p3), .val (.int p4), .val (.int p5), .val (.int (2 : Int32)), .val (.int ra), .val (.int v19), .val (.int v31), .val (.int ta), .val (.int bs), .val (.int bq), .val (.int tb), .val (.ref b5), .val (.ref b55), .val (.ref b116), .val (.ref b117), .val (.long p0.toInt64), .second, .val (.long p1.toInt64), .second] [(.int bq), (.int bs), (.int tb), (.long p1.toInt64), (.long p0.toInt64), (.int (2 : Int32)), (.int (3 : Int32)), (.int v31), (.int ta), (.ref b116)])) rfl (by rw [hml]; rfl) (argsL := [(.ref b116), (.int ta), (.int v31), (.int (3 : Int32)), (.int (2 : Int32)), (.long p0.toInt64), (.long p1.toInt64), (.int tb), (.int bs), (.int bq)]) (rest := []) (lenOf pd_4 rfl) rfl (by show 2 * 0 + _ ≤ _; exact Nat.le_of_eq rfl) (hb hby at_984) (fun _ _ => ⟨rfl, e142, (by decide : 4 + 0 ≤ _), (by decide : 158 + 0 ≤ _)⟩)
    dsimp only [Pt.U, Pt.locs, Pt.cells, Pt.slots] at X143 l143 y143 z143 st143 hQ143
    subst l143 y143 z143
    obtain ⟨rfl, Nq143, e143⟩ := hQ143
    have N143 := Fr.app N142 Nq143
    refine own_up st143 ?_
    show own_Go p.tables e below _ (T143.setTop (mkF m 987 #[.val (.int p0), .val (.int p1), .val (.int p2), .val (.int p3), .val (.int p4), .val (.int p5), .val (.int (2 : Int32)), .val (.int ra), .val (.int v19), .val (.int v31), .val (.int ta), .val (.int bs), .val (.int bq), .val (.int tb), .val (.ref b5), .val (.ref b55), .val (.ref b116), .val (.ref b117), .val (.long p0.toInt64), .second, .val (.long p1.toInt64), .second] [(.int (1 : Int32))]))
    refine own_up (fun _ kq => XS.ifNo X143.here hx rfl (hb hby at_987) rfl ((if0 _ _).trans (feq (by decide : ¬ ((1 : Int32) = (0 : Int32)))).1) kq) ?_
    show own_Go p.tables e below _ (T143.setTop (mkF m 990 #[.val (.int p0), .val (.int p1), .val (.int p2), .val (.int p3), .val (.int p4), .val (.int p5), .val (.int (2 : Int32)), .val (.int ra), .val (.int v19), .val (.int v31), .val (.int ta), .val (.int bs), .val (.int bq), .val (.int tb), .val (.ref b5), .val (.ref b55), .val (.ref b116), .val (.ref b117), .val (.long p0.toInt64), .second, .val (.long p1.toInt64), .second] []))
    refine own_up (fun _ kq => XS.aload X143.here hx rfl (hb hby at_990) rfl rfl kq) ?_
    show own_Go p.tables e below _ (T143.setTop (mkF m 992 #[.val (.int p0), .val (.int p1), .val (.int p2), .val (.int p3), .val (.int p4), .val (.int p5), .val (.int (2 : Int32)), .val (.int ra), .val (.int v19), .val (.int v31), .val (.int ta), .val (.int bs), .val (.int bq), .val (.int tb), .val (.ref b5), .val (.ref b55), .val (.ref b116), .val (.ref b117), .val (.long p0.toInt64), .second, .val (.long p1.toInt64), .second] [(.ref b116)]))
    refine own_up (fun _ kq => XS.iload X143.here hx rfl (hb hby at_992) rfl kq) ?_
    show own_Go p.tables e below _ (T143.setTop (mkF m 994 #[.val (.int p0), .val (.int p1), .val (.int p2), .val (.int p3), .val (.int p4), .val (.int p5), .val (.int (2 : Int32)), .val (.int ra), .val (.int v19), .val (.int v31), .val (.int ta), .val (.int bs), .val (.int bq), .val (.int tb), .val (.ref b5), .val (.ref b55), .val (.ref b116), .val (.ref b117), .val (.long p0.toInt64), .second, .val (.long p1.toInt64), .second] [(.int ta), (.ref b116)]))
    refine own_up (fun _ kq => XS.iload X143.here hx rfl (hb hby at_994) rfl kq) ?_
    show own_Go p.tables e below _ (T143.setTop (mkF m 996 #[.val (.int p0), .val (.int p1), .val (.int p2), .val (.int p3), .val (.int p4), .val (.int p5), .val (.int (2 : Int32)), .val (.int ra), .val (.int v19), .val (.int v31), .val (.int ta), .val (.int bs), .val (.int bq), .val (.int tb), .val (.ref b5), .val (.ref b55), .val (.ref b116), .val (.ref b117), .val (.long p0.toInt64), .second, .val (.long p1.toInt64), .second] [(.int v31), (.int ta), (.ref b116)]))
    refine own_up (fun _ kq => XS.iconst X143.here hx rfl (hb hby at_996) kq) ?_
    show own_Go p.tables e below _ (T143.setTop (mkF m 997 #[.val (.int p0), .val (.int p1), .val (.int p2), .val (.int p3), .val (.int p4), .val (.int p5), .val (.int (2 : Int32)), .val (.int ra), .val (.int v19), .val (.int v31), .val (.int ta), .val (.int bs), .val (.int bq), .val (.int tb), .val (.ref b5), .val (.ref b55), .val (.ref b116), .val (.ref b117), .val (.long p0.toInt64), .second, .val (.long p1.toInt64), .second] [(.int (4 : Int32)), (.int v31), (.int ta), (.ref b116)]))
    refine own_up (fun _ kq => XS.iload X143.here hx rfl (hb hby at_997) rfl kq) ?_
    show own_Go p.tables e below _ (T143.setTop (mkF m 999 #[.val (.int p0), .val (.int p1), .val (.int p2), .val (.int p3), .val (.int p4), .val (.int p5), .val (.int (2 : Int32)), .val (.int ra), .val (.int v19), .val (.int v31), .val (.int ta), .val (.int bs), .val (.int bq), .val (.int tb), .val (.ref b5), .val (.ref b55), .val (.ref b116), .val (.ref b117), .val (.long p0.toInt64), .second, .val (.long p1.toInt64), .second] [(.int (2 : Int32)), (.int (4 : Int32)), (.int v31), (.int ta), (.ref b116)]))
    refine own_up (fun _ kq => XS.lload X143.here hx rfl (hb hby at_999) rfl kq) ?_
    show own_Go p.tables e below _ (T143.setTop (mkF m 1001 #[.val (.int p0), .val (.int p1), .val (.int p2), .val (.int p3), .val (.int p4), .val (.int p5), .val (.int (2 : Int32)), .val (.int ra), .val (.int v19), .val (.int v31), .val (.int ta), .val (.int bs), .val (.int bq), .val (.int tb), .val (.ref b5), .val (.ref b55), .val (.ref b116), .val (.ref b117), .val (.long p0.toInt64), .second, .val (.long p1.toInt64), .second] [(.long p0.toInt64), (.int (2 : Int32)), (.int (4 : Int32)), (.int v31), (.int ta), (.ref b116)]))
    refine own_up (fun _ kq => XS.lload X143.here hx rfl (hb hby at_1001) rfl kq) ?_
    show own_Go p.tables e below _ (T143.setTop (mkF m 1003 #[.val (.int p0), .val (.int p1), .val (.int p2), .val (.int p3), .val (.int p4), .val (.int p5), .val (.int (2 : Int32)), .val (.int ra), .val (.int v19), .val (.int v31), .val (.int ta), .val (.int bs), .val (.int bq), .val (.int tb), .val (.ref b5), .val (.ref b55), .val (.ref b116), .val (.ref b117), .val (.long p0.toInt64), .second, .val (.long p1.toInt64), .second] [(.long p1.toInt64), (.long p0.toInt64), (.int (2 : Int32)), (.int (4 : Int32)), (.int v31), (.int ta), (.ref b116)]))
    refine own_up (fun _ kq => XS.iload X143.here hx rfl (hb hby at_1003) rfl kq) ?_
    show own_Go p.tables e below _ (T143.setTop (mkF m 1005 #[.val (.int p0), .val (.int p1), .val (.int p2), .val (.int p3), .val (.int p4), .val (.int p5), .val (.int (2 : Int32)), .val (.int ra), .val (.int v19), .val (.int v31), .val (.int ta), .val (.int bs), .val (.int bq), .val (.int tb), .val (.ref b5), .val (.ref b55), .val (.ref b116), .val (.ref b117), .val (.long p0.toInt64), .second, .val (.long p1.toInt64), .second] [(.int tb), (.long p1.toInt64), (.long p0.toInt64), (.int (2 : Int32)), (.int (4 : Int32)), (.int v31), (.int ta), (.ref b116)]))
    refine own_up (fun _ kq => XS.iload X143.here hx rfl (hb hby at_1005) rfl kq) ?_
    show own_Go p.tables e below _ (T143.setTop (mkF m 1007 #[.val (.int p0), .val (.int p1), .val (.int p2), .val (.int p3), .val (.int p4), .val (.int p5), .val (.int (2 : Int32)), .val (.int ra), .val (.int v19), .val (.int v31), .val (.int ta), .val (.int bs), .val (.int bq), .val (.int tb), .val (.ref b5), .val (.ref b55), .val (.ref b116), .val (.ref b117), .val (.long p0.toInt64), .second, .val (.long p1.toInt64), .second] [(.int bs), (.int tb), (.long p1.toInt64), (.long p0.toInt64), (.int (2 : Int32)), (.int (4 : Int32)), (.int v31), (.int ta), (.ref b116)]))
    refine own_up (fun _ kq => XS.iload X143.here hx rfl (hb hby at_1007) rfl kq) ?_
    show own_Go p.tables e below _ (T143.setTop (mkF m 1009 #[.val (.int p0), .val (.int p1), .val (.int p2), .val (.int p3), .val (.int p4), .val (.int p5), .val (.int (2 : Int32)), .val (.int ra), .val (.int v19), .val (.int v31), .val (.int ta), .val (.int bs), .val (.int bq), .val (.int tb), .val (.ref b5), .val (.ref b55), .val (.ref b116), .val (.ref b117), .val (.long p0.toInt64), .second, .val (.long p1.toInt64), .second] [(.int bq), (.int bs), (.int tb), (.long p1.toInt64), (.long p0.toInt64), (.int (2 : Int32)), (.int (4 : Int32)), (.int v31), (.int ta), (.ref b116)]))
    obtain ⟨_, _, ⟨T144, L144, k144, n144⟩, -, X144, ⟨Lc144, hQ144, l144, y144, z144⟩, st144⟩ := Jvm.LawKit.callS X143 hx (y := (⟨"com/example/indexica/indexica/ScaledSumEightRowsPinLaw", "row", "([DIIIIJJIII)Z"⟩ : MethodName)) hown (mvT hZ (hw _ (List.mem_of_getElem? (i := 131) rfl))) (mvT hZ (hw _ (List.mem_of_getElem? (i := 132) rfl))) (mvT hZ (hw _ (List.mem_of_getElem? (i := 133) rfl))) (mvT hZ (hw _ (List.mem_of_getElem? (i := 134) rfl))) (by decide) (backOf (W := 0) (rmW l Z a0 hw [] b116 ta v31 (4 : Int32) (2 : Int32) p0.toInt64 p1.toInt64 tb bs bq (own_U 2 p0 p1 ta v31 tb bs bq) T139.heap n0 ZH G_b116 (own_ok 2 (by decide) p0 p1 HB rfl (0 : Int32) (4 : Int32) (by decide) (by decide)) (own_ok 2 (by decide) p0 p1 HB rfl (1 : Int32) (4 : Int32) (by decide) (by decide)) (own_ok 2 (by decide) p0 p1 HB rfl (2 : Int32) (4 : Int32) (by decide) (by decide))) hZ (hw _ (List.mem_of_getElem? (i := 134) rfl)) (hw _ (List.mem_of_getElem? (i := 133) rfl)) (by decide) (by decide)) (g := (mkF m 1009 #[.val (.int p0), .val (.int p1), .val (.int p2), .val (.int p3), .val (.int p4), .val (.int p5), .val (.int (2 : Int32)), .val (.int ra), .val (.int v19), .val (.int v31), .val (.int ta), .val (.int bs), .val (.int bq), .val (.int tb), .val (.ref b5), .val (.ref b55), .val (.ref b116), .val (.ref b117), .val (.long p0.toInt64), .second, .val (.long p1.toInt64), .second] [(.int bq), (.int bs), (.int tb), (.long p1.toInt64), (.long p0.toInt64), (.int (2 : Int32)), (.int (4 : Int32)), (.int v31), (.int ta), (.ref b116)])) rfl (by rw [hml]; rfl) (argsL := [(.ref b116), (.int ta), (.int v31), (.int (4 : Int32)), (.int (2 : Int32)), (.long p0.toInt64), (.long p1.toInt64), (.int tb), (.int bs), (.int bq)]) (rest := []) (lenOf pd_4 rfl) rfl (by show 2 * 0 + _ ≤ _; exact Nat.le_of_eq rfl) (hb hby at_1009) (fun _ _ => ⟨rfl, e143, (by decide : 4 + 0 ≤ _), (by decide : 158 + 0 ≤ _)⟩)
    dsimp only [Pt.U, Pt.locs, Pt.cells, Pt.slots] at X144 l144 y144 z144 st144 hQ144
    subst l144 y144 z144
    obtain ⟨rfl, Nq144, e144⟩ := hQ144
    have N144 := Fr.app N143 Nq144
    refine own_up st144 ?_
    show own_Go p.tables e below _ (T144.setTop (mkF m 1012 #[.val (.int p0), .val (.int p1), .val (.int p2), .val (.int p3), .val (.int p4), .val (.int p5), .val (.int (2 : Int32)), .val (.int ra), .val (.int v19), .val (.int v31), .val (.int ta), .val (.int bs), .val (.int bq), .val (.int tb), .val (.ref b5), .val (.ref b55), .val (.ref b116), .val (.ref b117), .val (.long p0.toInt64), .second, .val (.long p1.toInt64), .second] [(.int (1 : Int32))]))
    refine own_up (fun _ kq => XS.ifNo X144.here hx rfl (hb hby at_1012) rfl ((if0 _ _).trans (feq (by decide : ¬ ((1 : Int32) = (0 : Int32)))).1) kq) ?_
    show own_Go p.tables e below _ (T144.setTop (mkF m 1015 #[.val (.int p0), .val (.int p1), .val (.int p2), .val (.int p3), .val (.int p4), .val (.int p5), .val (.int (2 : Int32)), .val (.int ra), .val (.int v19), .val (.int v31), .val (.int ta), .val (.int bs), .val (.int bq), .val (.int tb), .val (.ref b5), .val (.ref b55), .val (.ref b116), .val (.ref b117), .val (.long p0.toInt64), .second, .val (.long p1.toInt64), .second] []))
    refine own_up (fun _ kq => XS.aload X144.here hx rfl (hb hby at_1015) rfl rfl kq) ?_
    show own_Go p.tables e below _ (T144.setTop (mkF m 1017 #[.val (.int p0), .val (.int p1), .val (.int p2), .val (.int p3), .val (.int p4), .val (.int p5), .val (.int (2 : Int32)), .val (.int ra), .val (.int v19), .val (.int v31), .val (.int ta), .val (.int bs), .val (.int bq), .val (.int tb), .val (.ref b5), .val (.ref b55), .val (.ref b116), .val (.ref b117), .val (.long p0.toInt64), .second, .val (.long p1.toInt64), .second] [(.ref b116)]))
    refine own_up (fun _ kq => XS.iload X144.here hx rfl (hb hby at_1017) rfl kq) ?_
    show own_Go p.tables e below _ (T144.setTop (mkF m 1019 #[.val (.int p0), .val (.int p1), .val (.int p2), .val (.int p3), .val (.int p4), .val (.int p5), .val (.int (2 : Int32)), .val (.int ra), .val (.int v19), .val (.int v31), .val (.int ta), .val (.int bs), .val (.int bq), .val (.int tb), .val (.ref b5), .val (.ref b55), .val (.ref b116), .val (.ref b117), .val (.long p0.toInt64), .second, .val (.long p1.toInt64), .second] [(.int ta), (.ref b116)]))
    refine own_up (fun _ kq => XS.iload X144.here hx rfl (hb hby at_1019) rfl kq) ?_
    show own_Go p.tables e below _ (T144.setTop (mkF m 1021 #[.val (.int p0), .val (.int p1), .val (.int p2), .val (.int p3), .val (.int p4), .val (.int p5), .val (.int (2 : Int32)), .val (.int ra), .val (.int v19), .val (.int v31), .val (.int ta), .val (.int bs), .val (.int bq), .val (.int tb), .val (.ref b5), .val (.ref b55), .val (.ref b116), .val (.ref b117), .val (.long p0.toInt64), .second, .val (.long p1.toInt64), .second] [(.int v31), (.int ta), (.ref b116)]))
    refine own_up (fun _ kq => XS.iconst X144.here hx rfl (hb hby at_1021) kq) ?_
    show own_Go p.tables e below _ (T144.setTop (mkF m 1022 #[.val (.int p0), .val (.int p1), .val (.int p2), .val (.int p3), .val (.int p4), .val (.int p5), .val (.int (2 : Int32)), .val (.int ra), .val (.int v19), .val (.int v31), .val (.int ta), .val (.int bs), .val (.int bq), .val (.int tb), .val (.ref b5), .val (.ref b55), .val (.ref b116), .val (.ref b117), .val (.long p0.toInt64), .second, .val (.long p1.toInt64), .second] [(.int (5 : Int32)), (.int v31), (.int ta), (.ref b116)]))
    refine own_up (fun _ kq => XS.iload X144.here hx rfl (hb hby at_1022) rfl kq) ?_
    show own_Go p.tables e below _ (T144.setTop (mkF m 1024 #[.val (.int p0), .val (.int p1), .val (.int p2), .val (.int p3), .val (.int p4), .val (.int p5), .val (.int (2 : Int32)), .val (.int ra), .val (.int v19), .val (.int v31), .val (.int ta), .val (.int bs), .val (.int bq), .val (.int tb), .val (.ref b5), .val (.ref b55), .val (.ref b116), .val (.ref b117), .val (.long p0.toInt64), .second, .val (.long p1.toInt64), .second] [(.int (2 : Int32)), (.int (5 : Int32)), (.int v31), (.int ta), (.ref b116)]))
    refine own_up (fun _ kq => XS.lload X144.here hx rfl (hb hby at_1024) rfl kq) ?_
    show own_Go p.tables e below _ (T144.setTop (mkF m 1026 #[.val (.int p0), .val (.int p1), .val (.int p2), .val (.int p3), .val (.int p4), .val (.int p5), .val (.int (2 : Int32)), .val (.int ra), .val (.int v19), .val (.int v31), .val (.int ta), .val (.int bs), .val (.int bq), .val (.int tb), .val (.ref b5), .val (.ref b55), .val (.ref b116), .val (.ref b117), .val (.long p0.toInt64), .second, .val (.long p1.toInt64), .second] [(.long p0.toInt64), (.int (2 : Int32)), (.int (5 : Int32)), (.int v31), (.int ta), (.ref b116)]))
    refine own_up (fun _ kq => XS.lload X144.here hx rfl (hb hby at_1026) rfl kq) ?_
    show own_Go p.tables e below _ (T144.setTop (mkF m 1028 #[.val (.int p0), .val (.int p1), .val (.int p2), .val (.int p3), .val (.int p4), .val (.int p5), .val (.int (2 : Int32)), .val (.int ra), .val (.int v19), .val (.int v31), .val (.int ta), .val (.int bs), .val (.int bq), .val (.int tb), .val (.ref b5), .val (.ref b55), .val (.ref b116), .val (.ref b117), .val (.long p0.toInt64), .second, .val (.long p1.toInt64), .second] [(.long p1.toInt64), (.long p0.toInt64), (.int (2 : Int32)), (.int (5 : Int32)), (.int v31), (.int ta), (.ref b116)]))
    refine own_up (fun _ kq => XS.iload X144.here hx rfl (hb hby at_1028) rfl kq) ?_
    show own_Go p.tables e below _ (T144.setTop (mkF m 1030 #[.val (.int p0), .val (.int p1), .val (.int p2), .val (.int p3), .val (.int p4), .val (.int p5), .val (.int (2 : Int32)), .val (.int ra), .val (.int v19), .val (.int v31), .val (.int ta), .val (.int bs), .val (.int bq), .val (.int tb), .val (.ref b5), .val (.ref b55), .val (.ref b116), .val (.ref b117), .val (.long p0.toInt64), .second, .val (.long p1.toInt64), .second] [(.int tb), (.long p1.toInt64), (.long p0.toInt64), (.int (2 : Int32)), (.int (5 : Int32)), (.int v31), (.int ta), (.ref b116)]))
    refine own_up (fun _ kq => XS.iload X144.here hx rfl (hb hby at_1030) rfl kq) ?_
    show own_Go p.tables e below _ (T144.setTop (mkF m 1032 #[.val (.int p0), .val (.int p1), .val (.int p2), .val (.int p3), .val (.int p4), .val (.int p5), .val (.int (2 : Int32)), .val (.int ra), .val (.int v19), .val (.int v31), .val (.int ta), .val (.int bs), .val (.int bq), .val (.int tb), .val (.ref b5), .val (.ref b55), .val (.ref b116), .val (.ref b117), .val (.long p0.toInt64), .second, .val (.long p1.toInt64), .second] [(.int bs), (.int tb), (.long p1.toInt64), (.long p0.toInt64), (.int (2 : Int32)), (.int (5 : Int32)), (.int v31), (.int ta), (.ref b116)]))
    refine own_up (fun _ kq => XS.iload X144.here hx rfl (hb hby at_1032) rfl kq) ?_
    show own_Go p.tables e below _ (T144.setTop (mkF m 1034 #[.val (.int p0), .val (.int p1), .val (.int p2), .val (.int p3), .val (.int p4), .val (.int p5), .val (.int (2 : Int32)), .val (.int ra), .val (.int v19), .val (.int v31), .val (.int ta), .val (.int bs), .val (.int bq), .val (.int tb), .val (.ref b5), .val (.ref b55), .val (.ref b116), .val (.ref b117), .val (.long p0.toInt64), .second, .val (.long p1.toInt64), .second] [(.int bq), (.int bs), (.int tb), (.long p1.toInt64), (.long p0.toInt64), (.int (2 : Int32)), (.int (5 : Int32)), (.int v31), (.int ta), (.ref b116)]))
    obtain ⟨_, _, ⟨T145, L145, k145, n145⟩, -, X145, ⟨Lc145, hQ145, l145, y145, z145⟩, st145⟩ := Jvm.LawKit.callS X144 hx (y := (⟨"com/example/indexica/indexica/ScaledSumEightRowsPinLaw", "row", "([DIIIIJJIII)Z"⟩ : MethodName)) hown (mvT hZ (hw _ (List.mem_of_getElem? (i := 131) rfl))) (mvT hZ (hw _ (List.mem_of_getElem? (i := 132) rfl))) (mvT hZ (hw _ (List.mem_of_getElem? (i := 133) rfl))) (mvT hZ (hw _ (List.mem_of_getElem? (i := 134) rfl))) (by decide) (backOf (W := 0) (rmW l Z a0 hw [] b116 ta v31 (5 : Int32) (2 : Int32) p0.toInt64 p1.toInt64 tb bs bq (own_U 2 p0 p1 ta v31 tb bs bq) T139.heap n0 ZH G_b116 (own_ok 2 (by decide) p0 p1 HB rfl (0 : Int32) (5 : Int32) (by decide) (by decide)) (own_ok 2 (by decide) p0 p1 HB rfl (1 : Int32) (5 : Int32) (by decide) (by decide)) (own_ok 2 (by decide) p0 p1 HB rfl (2 : Int32) (5 : Int32) (by decide) (by decide))) hZ (hw _ (List.mem_of_getElem? (i := 134) rfl)) (hw _ (List.mem_of_getElem? (i := 133) rfl)) (by decide) (by decide)) (g := (mkF m 1034 #[.val (.int p0), .val (.int p1), .val (.int p2), .val (.int p3), .val (.int p4), .val (.int p5), .val (.int (2 : Int32)), .val (.int ra), .val (.int v19), .val (.int v31), .val (.int ta), .val (.int bs), .val (.int bq), .val (.int tb), .val (.ref b5), .val (.ref b55), .val (.ref b116), .val (.ref b117), .val (.long p0.toInt64), .second, .val (.long p1.toInt64), .second] [(.int bq), (.int bs), (.int tb), (.long p1.toInt64), (.long p0.toInt64), (.int (2 : Int32)), (.int (5 : Int32)), (.int v31), (.int ta), (.ref b116)])) rfl (by rw [hml]; rfl) (argsL := [(.ref b116), (.int ta), (.int v31), (.int (5 : Int32)), (.int (2 : Int32)), (.long p0.toInt64), (.long p1.toInt64), (.int tb), (.int bs), (.int bq)]) (rest := []) (lenOf pd_4 rfl) rfl (by show 2 * 0 + _ ≤ _; exact Nat.le_of_eq rfl) (hb hby at_1034) (fun _ _ => ⟨rfl, e144, (by decide : 4 + 0 ≤ _), (by decide : 158 + 0 ≤ _)⟩)
    dsimp only [Pt.U, Pt.locs, Pt.cells, Pt.slots] at X145 l145 y145 z145 st145 hQ145
    subst l145 y145 z145
    obtain ⟨rfl, Nq145, e145⟩ := hQ145
    have N145 := Fr.app N144 Nq145
    refine own_up st145 ?_
    show own_Go p.tables e below _ (T145.setTop (mkF m 1037 #[.val (.int p0), .val (.int p1), .val (.int p2), .val (.int p3), .val (.int p4), .val (.int p5), .val (.int (2 : Int32)), .val (.int ra), .val (.int v19), .val (.int v31), .val (.int ta), .val (.int bs), .val (.int bq), .val (.int tb), .val (.ref b5), .val (.ref b55), .val (.ref b116), .val (.ref b117), .val (.long p0.toInt64), .second, .val (.long p1.toInt64), .second] [(.int (1 : Int32))]))
    refine own_up (fun _ kq => XS.ifNo X145.here hx rfl (hb hby at_1037) rfl ((if0 _ _).trans (feq (by decide : ¬ ((1 : Int32) = (0 : Int32)))).1) kq) ?_
    show own_Go p.tables e below _ (T145.setTop (mkF m 1040 #[.val (.int p0), .val (.int p1), .val (.int p2), .val (.int p3), .val (.int p4), .val (.int p5), .val (.int (2 : Int32)), .val (.int ra), .val (.int v19), .val (.int v31), .val (.int ta), .val (.int bs), .val (.int bq), .val (.int tb), .val (.ref b5), .val (.ref b55), .val (.ref b116), .val (.ref b117), .val (.long p0.toInt64), .second, .val (.long p1.toInt64), .second] []))
    refine own_up (fun _ kq => XS.aload X145.here hx rfl (hb hby at_1040) rfl rfl kq) ?_
    show own_Go p.tables e below _ (T145.setTop (mkF m 1042 #[.val (.int p0), .val (.int p1), .val (.int p2), .val (.int p3), .val (.int p4), .val (.int p5), .val (.int (2 : Int32)), .val (.int ra), .val (.int v19), .val (.int v31), .val (.int ta), .val (.int bs), .val (.int bq), .val (.int tb), .val (.ref b5), .val (.ref b55), .val (.ref b116), .val (.ref b117), .val (.long p0.toInt64), .second, .val (.long p1.toInt64), .second] [(.ref b116)]))
    refine own_up (fun _ kq => XS.iload X145.here hx rfl (hb hby at_1042) rfl kq) ?_
    show own_Go p.tables e below _ (T145.setTop (mkF m 1044 #[.val (.int p0), .val (.int p1), .val (.int p2), .val (.int p3), .val (.int p4), .val (.int p5), .val (.int (2 : Int32)), .val (.int ra), .val (.int v19), .val (.int v31), .val (.int ta), .val (.int bs), .val (.int bq), .val (.int tb), .val (.ref b5), .val (.ref b55), .val (.ref b116), .val (.ref b117), .val (.long p0.toInt64), .second, .val (.long p1.toInt64), .second] [(.int ta), (.ref b116)]))
    refine own_up (fun _ kq => XS.iload X145.here hx rfl (hb hby at_1044) rfl kq) ?_
    show own_Go p.tables e below _ (T145.setTop (mkF m 1046 #[.val (.int p0), .val (.int p1), .val (.int p2), .val (.int p3), .val (.int p4), .val (.int p5), .val (.int (2 : Int32)), .val (.int ra), .val (.int v19), .val (.int v31), .val (.int ta), .val (.int bs), .val (.int bq), .val (.int tb), .val (.ref b5), .val (.ref b55), .val (.ref b116), .val (.ref b117), .val (.long p0.toInt64), .second, .val (.long p1.toInt64), .second] [(.int v31), (.int ta), (.ref b116)]))
    refine own_up (fun _ kq => XS.bipush X145.here hx rfl (hb hby at_1046) kq) ?_
    show own_Go p.tables e below _ (T145.setTop (mkF m 1048 #[.val (.int p0), .val (.int p1), .val (.int p2), .val (.int p3), .val (.int p4), .val (.int p5), .val (.int (2 : Int32)), .val (.int ra), .val (.int v19), .val (.int v31), .val (.int ta), .val (.int bs), .val (.int bq), .val (.int tb), .val (.ref b5), .val (.ref b55), .val (.ref b116), .val (.ref b117), .val (.long p0.toInt64), .second, .val (.long p1.toInt64), .second] [(.int (6 : Int32)), (.int v31), (.int ta), (.ref b116)]))
    refine own_up (fun _ kq => XS.iload X145.here hx rfl (hb hby at_1048) rfl kq) ?_
    show own_Go p.tables e below _ (T145.setTop (mkF m 1050 #[.val (.int p0), .val (.int p1), .val (.int p2), .val (.int p3), .val (.int p4), .val (.int p5), .val (.int (2 : Int32)), .val (.int ra), .val (.int v19), .val (.int v31), .val (.int ta), .val (.int bs), .val (.int bq), .val (.int tb), .val (.ref b5), .val (.ref b55), .val (.ref b116), .val (.ref b117), .val (.long p0.toInt64), .second, .val (.long p1.toInt64), .second] [(.int (2 : Int32)), (.int (6 : Int32)), (.int v31), (.int ta), (.ref b116)]))
    refine own_up (fun _ kq => XS.lload X145.here hx rfl (hb hby at_1050) rfl kq) ?_
    show own_Go p.tables e below _ (T145.setTop (mkF m 1052 #[.val (.int p0), .val (.int p1), .val (.int p2), .val (.int p3), .val (.int p4), .val (.int p5), .val (.int (2 : Int32)), .val (.int ra), .val (.int v19), .val (.int v31), .val (.int ta), .val (.int bs), .val (.int bq), .val (.int tb), .val (.ref b5), .val (.ref b55), .val (.ref b116), .val (.ref b117), .val (.long p0.toInt64), .second, .val (.long p1.toInt64), .second] [(.long p0.toInt64), (.int (2 : Int32)), (.int (6 : Int32)), (.int v31), (.int ta), (.ref b116)]))
    refine own_up (fun _ kq => XS.lload X145.here hx rfl (hb hby at_1052) rfl kq) ?_
    show own_Go p.tables e below _ (T145.setTop (mkF m 1054 #[.val (.int p0), .val (.int p1), .val (.int p2), .val (.int p3), .val (.int p4), .val (.int p5), .val (.int (2 : Int32)), .val (.int ra), .val (.int v19), .val (.int v31), .val (.int ta), .val (.int bs), .val (.int bq), .val (.int tb), .val (.ref b5), .val (.ref b55), .val (.ref b116), .val (.ref b117), .val (.long p0.toInt64), .second, .val (.long p1.toInt64), .second] [(.long p1.toInt64), (.long p0.toInt64), (.int (2 : Int32)), (.int (6 : Int32)), (.int v31), (.int ta), (.ref b116)]))
    refine own_up (fun _ kq => XS.iload X145.here hx rfl (hb hby at_1054) rfl kq) ?_
    show own_Go p.tables e below _ (T145.setTop (mkF m 1056 #[.val (.int p0), .val (.int p1), .val (.int p2), .val (.int p3), .val (.int p4), .val (.int p5), .val (.int (2 : Int32)), .val (.int ra), .val (.int v19), .val (.int v31), .val (.int ta), .val (.int bs), .val (.int bq), .val (.int tb), .val (.ref b5), .val (.ref b55), .val (.ref b116), .val (.ref b117), .val (.long p0.toInt64), .second, .val (.long p1.toInt64), .second] [(.int tb), (.long p1.toInt64), (.long p0.toInt64), (.int (2 : Int32)), (.int (6 : Int32)), (.int v31), (.int ta), (.ref b116)]))
    refine own_up (fun _ kq => XS.iload X145.here hx rfl (hb hby at_1056) rfl kq) ?_
    show own_Go p.tables e below _ (T145.setTop (mkF m 1058 #[.val (.int p0), .val (.int p1), .val (.int p2), .val (.int p3), .val (.int p4), .val (.int p5), .val (.int (2 : Int32)), .val (.int ra), .val (.int v19), .val (.int v31), .val (.int ta), .val (.int bs), .val (.int bq), .val (.int tb), .val (.ref b5), .val (.ref b55), .val (.ref b116), .val (.ref b117), .val (.long p0.toInt64), .second, .val (.long p1.toInt64), .second] [(.int bs), (.int tb), (.long p1.toInt64), (.long p0.toInt64), (.int (2 : Int32)), (.int (6 : Int32)), (.int v31), (.int ta), (.ref b116)]))
    refine own_up (fun _ kq => XS.iload X145.here hx rfl (hb hby at_1058) rfl kq) ?_
    show own_Go p.tables e below _ (T145.setTop (mkF m 1060 #[.val (.int p0), .val (.int p1), .val (.int p2), .val (.int p3), .val (.int p4), .val (.int p5), .val (.int (2 : Int32)), .val (.int ra), .val (.int v19), .val (.int v31), .val (.int ta), .val (.int bs), .val (.int bq), .val (.int tb), .val (.ref b5), .val (.ref b55), .val (.ref b116), .val (.ref b117), .val (.long p0.toInt64), .second, .val (.long p1.toInt64), .second] [(.int bq), (.int bs), (.int tb), (.long p1.toInt64), (.long p0.toInt64), (.int (2 : Int32)), (.int (6 : Int32)), (.int v31), (.int ta), (.ref b116)]))
    obtain ⟨_, _, ⟨T146, L146, k146, n146⟩, -, X146, ⟨Lc146, hQ146, l146, y146, z146⟩, st146⟩ := Jvm.LawKit.callS X145 hx (y := (⟨"com/example/indexica/indexica/ScaledSumEightRowsPinLaw", "row", "([DIIIIJJIII)Z"⟩ : MethodName)) hown (mvT hZ (hw _ (List.mem_of_getElem? (i := 131) rfl))) (mvT hZ (hw _ (List.mem_of_getElem? (i := 132) rfl))) (mvT hZ (hw _ (List.mem_of_getElem? (i := 133) rfl))) (mvT hZ (hw _ (List.mem_of_getElem? (i := 134) rfl))) (by decide) (backOf (W := 0) (rmW l Z a0 hw [] b116 ta v31 (6 : Int32) (2 : Int32) p0.toInt64 p1.toInt64 tb bs bq (own_U 2 p0 p1 ta v31 tb bs bq) T139.heap n0 ZH G_b116 (own_ok 2 (by decide) p0 p1 HB rfl (0 : Int32) (6 : Int32) (by decide) (by decide)) (own_ok 2 (by decide) p0 p1 HB rfl (1 : Int32) (6 : Int32) (by decide) (by decide)) (own_ok 2 (by decide) p0 p1 HB rfl (2 : Int32) (6 : Int32) (by decide) (by decide))) hZ (hw _ (List.mem_of_getElem? (i := 134) rfl)) (hw _ (List.mem_of_getElem? (i := 133) rfl)) (by decide) (by decide)) (g := (mkF m 1060 #[.val (.int p0), .val (.int p1), .val (.int p2), .val (.int p3), .val (.int p4), .val (.int p5), .val (.int (2 : Int32)), .val (.int ra), .val (.int v19), .val (.int v31), .val (.int ta), .val (.int bs), .val (.int bq), .val (.int tb), .val (.ref b5), .val (.ref b55), .val (.ref b116), .val (.ref b117), .val (.long p0.toInt64), .second, .val (.long p1.toInt64), .second] [(.int bq), (.int bs), (.int tb), (.long p1.toInt64), (.long p0.toInt64), (.int (2 : Int32)), (.int (6 : Int32)), (.int v31), (.int ta), (.ref b116)])) rfl (by rw [hml]; rfl) (argsL := [(.ref b116), (.int ta), (.int v31), (.int (6 : Int32)), (.int (2 : Int32)), (.long p0.toInt64), (.long p1.toInt64), (.int tb), (.int bs), (.int bq)]) (rest := []) (lenOf pd_4 rfl) rfl (by show 2 * 0 + _ ≤ _; exact Nat.le_of_eq rfl) (hb hby at_1060) (fun _ _ => ⟨rfl, e145, (by decide : 4 + 0 ≤ _), (by decide : 158 + 0 ≤ _)⟩)
    dsimp only [Pt.U, Pt.locs, Pt.cells, Pt.slots] at X146 l146 y146 z146 st146 hQ146
    subst l146 y146 z146
    obtain ⟨rfl, Nq146, e146⟩ := hQ146
    have N146 := Fr.app N145 Nq146
    refine own_up st146 ?_
    show own_Go p.tables e below _ (T146.setTop (mkF m 1063 #[.val (.int p0), .val (.int p1), .val (.int p2), .val (.int p3), .val (.int p4), .val (.int p5), .val (.int (2 : Int32)), .val (.int ra), .val (.int v19), .val (.int v31), .val (.int ta), .val (.int bs), .val (.int bq), .val (.int tb), .val (.ref b5), .val (.ref b55), .val (.ref b116), .val (.ref b117), .val (.long p0.toInt64), .second, .val (.long p1.toInt64), .second] [(.int (1 : Int32))]))
    refine own_up (fun _ kq => XS.ifNo X146.here hx rfl (hb hby at_1063) rfl ((if0 _ _).trans (feq (by decide : ¬ ((1 : Int32) = (0 : Int32)))).1) kq) ?_
    show own_Go p.tables e below _ (T146.setTop (mkF m 1066 #[.val (.int p0), .val (.int p1), .val (.int p2), .val (.int p3), .val (.int p4), .val (.int p5), .val (.int (2 : Int32)), .val (.int ra), .val (.int v19), .val (.int v31), .val (.int ta), .val (.int bs), .val (.int bq), .val (.int tb), .val (.ref b5), .val (.ref b55), .val (.ref b116), .val (.ref b117), .val (.long p0.toInt64), .second, .val (.long p1.toInt64), .second] []))
    refine own_up (fun _ kq => XS.aload X146.here hx rfl (hb hby at_1066) rfl rfl kq) ?_
    show own_Go p.tables e below _ (T146.setTop (mkF m 1068 #[.val (.int p0), .val (.int p1), .val (.int p2), .val (.int p3), .val (.int p4), .val (.int p5), .val (.int (2 : Int32)), .val (.int ra), .val (.int v19), .val (.int v31), .val (.int ta), .val (.int bs), .val (.int bq), .val (.int tb), .val (.ref b5), .val (.ref b55), .val (.ref b116), .val (.ref b117), .val (.long p0.toInt64), .second, .val (.long p1.toInt64), .second] [(.ref b116)]))
    refine own_up (fun _ kq => XS.iload X146.here hx rfl (hb hby at_1068) rfl kq) ?_
    show own_Go p.tables e below _ (T146.setTop (mkF m 1070 #[.val (.int p0), .val (.int p1), .val (.int p2), .val (.int p3), .val (.int p4), .val (.int p5), .val (.int (2 : Int32)), .val (.int ra), .val (.int v19), .val (.int v31), .val (.int ta), .val (.int bs), .val (.int bq), .val (.int tb), .val (.ref b5), .val (.ref b55), .val (.ref b116), .val (.ref b117), .val (.long p0.toInt64), .second, .val (.long p1.toInt64), .second] [(.int ta), (.ref b116)]))
    refine own_up (fun _ kq => XS.iload X146.here hx rfl (hb hby at_1070) rfl kq) ?_
    show own_Go p.tables e below _ (T146.setTop (mkF m 1072 #[.val (.int p0), .val (.int p1), .val (.int p2), .val (.int p3), .val (.int p4), .val (.int p5), .val (.int (2 : Int32)), .val (.int ra), .val (.int v19), .val (.int v31), .val (.int ta), .val (.int bs), .val (.int bq), .val (.int tb), .val (.ref b5), .val (.ref b55), .val (.ref b116), .val (.ref b117), .val (.long p0.toInt64), .second, .val (.long p1.toInt64), .second] [(.int v31), (.int ta), (.ref b116)]))
    refine own_up (fun _ kq => XS.bipush X146.here hx rfl (hb hby at_1072) kq) ?_
    show own_Go p.tables e below _ (T146.setTop (mkF m 1074 #[.val (.int p0), .val (.int p1), .val (.int p2), .val (.int p3), .val (.int p4), .val (.int p5), .val (.int (2 : Int32)), .val (.int ra), .val (.int v19), .val (.int v31), .val (.int ta), .val (.int bs), .val (.int bq), .val (.int tb), .val (.ref b5), .val (.ref b55), .val (.ref b116), .val (.ref b117), .val (.long p0.toInt64), .second, .val (.long p1.toInt64), .second] [(.int (7 : Int32)), (.int v31), (.int ta), (.ref b116)]))
    refine own_up (fun _ kq => XS.iload X146.here hx rfl (hb hby at_1074) rfl kq) ?_
    show own_Go p.tables e below _ (T146.setTop (mkF m 1076 #[.val (.int p0), .val (.int p1), .val (.int p2), .val (.int p3), .val (.int p4), .val (.int p5), .val (.int (2 : Int32)), .val (.int ra), .val (.int v19), .val (.int v31), .val (.int ta), .val (.int bs), .val (.int bq), .val (.int tb), .val (.ref b5), .val (.ref b55), .val (.ref b116), .val (.ref b117), .val (.long p0.toInt64), .second, .val (.long p1.toInt64), .second] [(.int (2 : Int32)), (.int (7 : Int32)), (.int v31), (.int ta), (.ref b116)]))
    refine own_up (fun _ kq => XS.lload X146.here hx rfl (hb hby at_1076) rfl kq) ?_
    show own_Go p.tables e below _ (T146.setTop (mkF m 1078 #[.val (.int p0), .val (.int p1), .val (.int p2), .val (.int p3), .val (.int p4), .val (.int p5), .val (.int (2 : Int32)), .val (.int ra), .val (.int v19), .val (.int v31), .val (.int ta), .val (.int bs), .val (.int bq), .val (.int tb), .val (.ref b5), .val (.ref b55), .val (.ref b116), .val (.ref b117), .val (.long p0.toInt64), .second, .val (.long p1.toInt64), .second] [(.long p0.toInt64), (.int (2 : Int32)), (.int (7 : Int32)), (.int v31), (.int ta), (.ref b116)]))
    refine own_up (fun _ kq => XS.lload X146.here hx rfl (hb hby at_1078) rfl kq) ?_
    show own_Go p.tables e below _ (T146.setTop (mkF m 1080 #[.val (.int p0), .val (.int p1), .val (.int p2), .val (.int p3), .val (.int p4), .val (.int p5), .val (.int (2 : Int32)), .val (.int ra), .val (.int v19), .val (.int v31), .val (.int ta), .val (.int bs), .val (.int bq), .val (.int tb), .val (.ref b5), .val (.ref b55), .val (.ref b116), .val (.ref b117), .val (.long p0.toInt64), .second, .val (.long p1.toInt64), .second] [(.long p1.toInt64), (.long p0.toInt64), (.int (2 : Int32)), (.int (7 : Int32)), (.int v31), (.int ta), (.ref b116)]))
    refine own_up (fun _ kq => XS.iload X146.here hx rfl (hb hby at_1080) rfl kq) ?_
    show own_Go p.tables e below _ (T146.setTop (mkF m 1082 #[.val (.int p0), .val (.int p1), .val (.int p2), .val (.int p3), .val (.int p4), .val (.int p5), .val (.int (2 : Int32)), .val (.int ra), .val (.int v19), .val (.int v31), .val (.int ta), .val (.int bs), .val (.int bq), .val (.int tb), .val (.ref b5), .val (.ref b55), .val (.ref b116), .val (.ref b117), .val (.long p0.toInt64), .second, .val (.long p1.toInt64), .second] [(.int tb), (.long p1.toInt64), (.long p0.toInt64), (.int (2 : Int32)), (.int (7 : Int32)), (.int v31), (.int ta), (.ref b116)]))
    refine own_up (fun _ kq => XS.iload X146.here hx rfl (hb hby at_1082) rfl kq) ?_
    show own_Go p.tables e below _ (T146.setTop (mkF m 1084 #[.val (.int p0), .val (.int p1), .val (.int p2), .val (.int p3), .val (.int p4), .val (.int p5), .val (.int (2 : Int32)), .val (.int ra), .val (.int v19), .val (.int v31), .val (.int ta), .val (.int bs), .val (.int bq), .val (.int tb), .val (.ref b5), .val (.ref b55), .val (.ref b116), .val (.ref b117), .val (.long p0.toInt64), .second, .val (.long p1.toInt64), .second] [(.int bs), (.int tb), (.long p1.toInt64), (.long p0.toInt64), (.int (2 : Int32)), (.int (7 : Int32)), (.int v31), (.int ta), (.ref b116)]))
    refine own_up (fun _ kq => XS.iload X146.here hx rfl (hb hby at_1084) rfl kq) ?_
    show own_Go p.tables e below _ (T146.setTop (mkF m 1086 #[.val (.int p0), .val (.int p1), .val (.int p2), .val (.int p3), .val (.int p4), .val (.int p5), .val (.int (2 : Int32)), .val (.int ra), .val (.int v19), .val (.int v31), .val (.int ta), .val (.int bs), .val (.int bq), .val (.int tb), .val (.ref b5), .val (.ref b55), .val (.ref b116), .val (.ref b117), .val (.long p0.toInt64), .second, .val (.long p1.toInt64), .second] [(.int bq), (.int bs), (.int tb), (.long p1.toInt64), (.long p0.toInt64), (.int (2 : Int32)), (.int (7 : Int32)), (.int v31), (.int ta), (.ref b116)]))
    obtain ⟨_, _, ⟨T147, L147, k147, n147⟩, -, X147, ⟨Lc147, hQ147, l147, y147, z147⟩, st147⟩ := Jvm.LawKit.callS X146 hx (y := (⟨"com/example/indexica/indexica/ScaledSumEightRowsPinLaw", "row", "([DIIIIJJIII)Z"⟩ : MethodName)) hown (mvT hZ (hw _ (List.mem_of_getElem? (i := 131) rfl))) (mvT hZ (hw _ (List.mem_of_getElem? (i := 132) rfl))) (mvT hZ (hw _ (List.mem_of_getElem? (i := 133) rfl))) (mvT hZ (hw _ (List.mem_of_getElem? (i := 134) rfl))) (by decide) (backOf (W := 0) (rmW l Z a0 hw [] b116 ta v31 (7 : Int32) (2 : Int32) p0.toInt64 p1.toInt64 tb bs bq (own_U 2 p0 p1 ta v31 tb bs bq) T139.heap n0 ZH G_b116 (own_ok 2 (by decide) p0 p1 HB rfl (0 : Int32) (7 : Int32) (by decide) (by decide)) (own_ok 2 (by decide) p0 p1 HB rfl (1 : Int32) (7 : Int32) (by decide) (by decide)) (own_ok 2 (by decide) p0 p1 HB rfl (2 : Int32) (7 : Int32) (by decide) (by decide))) hZ (hw _ (List.mem_of_getElem? (i := 134) rfl)) (hw _ (List.mem_of_getElem? (i := 133) rfl)) (by decide) (by decide)) (g := (mkF m 1086 #[.val (.int p0), .val (.int p1), .val (.int p2), .val (.int p3), .val (.int p4), .val (.int p5), .val (.int (2 : Int32)), .val (.int ra), .val (.int v19), .val (.int v31), .val (.int ta), .val (.int bs), .val (.int bq), .val (.int tb), .val (.ref b5), .val (.ref b55), .val (.ref b116), .val (.ref b117), .val (.long p0.toInt64), .second, .val (.long p1.toInt64), .second] [(.int bq), (.int bs), (.int tb), (.long p1.toInt64), (.long p0.toInt64), (.int (2 : Int32)), (.int (7 : Int32)), (.int v31), (.int ta), (.ref b116)])) rfl (by rw [hml]; rfl) (argsL := [(.ref b116), (.int ta), (.int v31), (.int (7 : Int32)), (.int (2 : Int32)), (.long p0.toInt64), (.long p1.toInt64), (.int tb), (.int bs), (.int bq)]) (rest := []) (lenOf pd_4 rfl) rfl (by show 2 * 0 + _ ≤ _; exact Nat.le_of_eq rfl) (hb hby at_1086) (fun _ _ => ⟨rfl, e146, (by decide : 4 + 0 ≤ _), (by decide : 158 + 0 ≤ _)⟩)
    dsimp only [Pt.U, Pt.locs, Pt.cells, Pt.slots] at X147 l147 y147 z147 st147 hQ147
    subst l147 y147 z147
    obtain ⟨rfl, Nq147, e147⟩ := hQ147
    have N147 := Fr.app N146 Nq147
    refine own_up st147 ?_
    show own_Go p.tables e below _ (T147.setTop (mkF m 1089 #[.val (.int p0), .val (.int p1), .val (.int p2), .val (.int p3), .val (.int p4), .val (.int p5), .val (.int (2 : Int32)), .val (.int ra), .val (.int v19), .val (.int v31), .val (.int ta), .val (.int bs), .val (.int bq), .val (.int tb), .val (.ref b5), .val (.ref b55), .val (.ref b116), .val (.ref b117), .val (.long p0.toInt64), .second, .val (.long p1.toInt64), .second] [(.int (1 : Int32))]))
    refine own_up (fun _ kq => XS.ifNo X147.here hx rfl (hb hby at_1089) rfl ((if0 _ _).trans (feq (by decide : ¬ ((1 : Int32) = (0 : Int32)))).1) kq) ?_
    show own_Go p.tables e below _ (T147.setTop (mkF m 1092 #[.val (.int p0), .val (.int p1), .val (.int p2), .val (.int p3), .val (.int p4), .val (.int p5), .val (.int (2 : Int32)), .val (.int ra), .val (.int v19), .val (.int v31), .val (.int ta), .val (.int bs), .val (.int bq), .val (.int tb), .val (.ref b5), .val (.ref b55), .val (.ref b116), .val (.ref b117), .val (.long p0.toInt64), .second, .val (.long p1.toInt64), .second] []))
    refine own_up (fun _ kq => XS.iconst X147.here hx rfl (hb hby at_1092) kq) ?_
    show own_Go p.tables e below _ (T147.setTop (mkF m 1093 #[.val (.int p0), .val (.int p1), .val (.int p2), .val (.int p3), .val (.int p4), .val (.int p5), .val (.int (2 : Int32)), .val (.int ra), .val (.int v19), .val (.int v31), .val (.int ta), .val (.int bs), .val (.int bq), .val (.int tb), .val (.ref b5), .val (.ref b55), .val (.ref b116), .val (.ref b117), .val (.long p0.toInt64), .second, .val (.long p1.toInt64), .second] [(.int (1 : Int32))]))
    refine own_up (fun _ kq => XS.goto X147.here hx rfl (pc0 := 1093) (pc' := 1097) rfl (hb hby at_1093) (by decide) (by decide) kq) ?_
    show own_Go p.tables e below _ (T147.setTop (mkF m 1097 #[.val (.int p0), .val (.int p1), .val (.int p2), .val (.int p3), .val (.int p4), .val (.int p5), .val (.int (2 : Int32)), .val (.int ra), .val (.int v19), .val (.int v31), .val (.int ta), .val (.int bs), .val (.int bq), .val (.int tb), .val (.ref b5), .val (.ref b55), .val (.ref b116), .val (.ref b117), .val (.long p0.toInt64), .second, .val (.long p1.toInt64), .second] [(.int (1 : Int32))]))
    obtain ⟨fs148, hr148, hrun148, hended148, hW148, hsame148⟩ := X147.leave (v := some (.int (1 : Int32))) (fun h => by rw [Bd.returns] at h; cases h)
    refine own_end ⟨_, _, ?_, hrun148, hended148, _, _, rfl, ?_, ⟨_, rfl⟩, hW148, hsame148.mono (by decide) (by decide)⟩
    · exact retN X147 hx (t := .boolean) Bd.returns (by simp) (hb hby at_1097) hr148
    · show Qrm0 Z p0 p1 p2 p3 p4 p5 h0 n0 _ T147.heap _
      rw [e147]
      exact ⟨rfl, N147⟩
  · show own_Go p.tables e below _ (T118.setTop (mkF m 879 #[.val (.int p0), .val (.int p1), .val (.int p2), .val (.int p3), .val (.int p4), .val (.int p5), .val (.int (3 : Int32)), .val (.int ra), .val (.int v19), .val (.int v31), .val (.int ta), .val (.int bs), .val (.int bq), .val (.int tb), .val (.ref b5), .val (.ref b55), .val (.ref b116), .val (.ref b117), .unset, .unset, .unset, .unset] [(.int (3 : Int32)), (.int bq), (.int bs), (.int tb), (.int v31), (.int ta), (.ref b116), (.ref b55), (.ref b5), (.ref b117)]))
    obtain ⟨cq149, kq149, q149a, q149b, q149c⟩ := isOf hZ rfl E_b117
    obtain ⟨_, _, ⟨T149, L149, k149, n149⟩, -, X149, ⟨Lc149, hQ149, l149, y149, z149⟩, st149⟩ := X118.virtualBack hx (y := (⟨"com/example/indexica/indexica/ScaledSum", "eightRows", "([D[D[DIIIIII)V"⟩ : MethodName)) (z := (⟨"com/example/indexica/indexica/ScaledSum", "eightRows", "([D[D[DIIIIII)V"⟩ : MethodName)) hown (mvT hZ (hw _ (List.mem_of_getElem? (i := 126) rfl))) (mvT hZ (hw _ (List.mem_of_getElem? (i := 127) rfl))) (notFace_of_selects (args := #[]) (mvT hZ (hw _ (List.mem_of_getElem? (i := 129) rfl)))) (mvT hZ (hw _ (List.mem_of_getElem? (i := 129) rfl))) (mvT hZ (hw _ (List.mem_of_getElem? (i := 128) rfl))) (by decide) (backOf (W := 0) (rmE3 l Z a0 hw [] b117 b5 b55 b116 ta v31 tb bs bq (FP.i2d p0) (FP.i2d p1) (own_L own_l48) (own_L own_l60) (fun _ => 0) T118.heap n0 ZH F_alpha_b117 F_beta_b117 G_b5 G_b55 G_b116 g_b116 ne_b5_b116 ne_b55_b116 (i2d_fin p0) own_ua (own_mb p1) (own_i0 HB (0 : Int32) (by decide)) (own_i1 HB (0 : Int32) (by decide)) (own_i HB (0 : Int32) (2 : Int32) (by decide) (by decide)) (own_i HB (0 : Int32) (3 : Int32) (by decide) (by decide)) (own_i HB (0 : Int32) (4 : Int32) (by decide) (by decide)) (own_i HB (0 : Int32) (5 : Int32) (by decide) (by decide)) (own_i HB (0 : Int32) (6 : Int32) (by decide) (by decide)) (own_i HB (0 : Int32) (7 : Int32) (by decide) (by decide)) (own_i0 HB (1 : Int32) (by decide)) (own_i1 HB (1 : Int32) (by decide)) (own_i HB (1 : Int32) (2 : Int32) (by decide) (by decide)) (own_i HB (1 : Int32) (3 : Int32) (by decide) (by decide)) (own_i HB (1 : Int32) (4 : Int32) (by decide) (by decide)) (own_i HB (1 : Int32) (5 : Int32) (by decide) (by decide)) (own_i HB (1 : Int32) (6 : Int32) (by decide) (by decide)) (own_i HB (1 : Int32) (7 : Int32) (by decide) (by decide)) (own_i0 HB (2 : Int32) (by decide)) (own_i1 HB (2 : Int32) (by decide)) (own_i HB (2 : Int32) (2 : Int32) (by decide) (by decide)) (own_i HB (2 : Int32) (3 : Int32) (by decide) (by decide)) (own_i HB (2 : Int32) (4 : Int32) (by decide) (by decide)) (own_i HB (2 : Int32) (5 : Int32) (by decide) (by decide)) (own_i HB (2 : Int32) (6 : Int32) (by decide) (by decide)) (own_i HB (2 : Int32) (7 : Int32) (by decide) (by decide)) (own_j0 HB (0 : Int32) (by decide)) (own_j1 HB (0 : Int32) (by decide)) (own_j HB (0 : Int32) (2 : Int32) (by decide) (by decide)) (own_j HB (0 : Int32) (3 : Int32) (by decide) (by decide)) (own_j HB (0 : Int32) (4 : Int32) (by decide) (by decide)) (own_j HB (0 : Int32) (5 : Int32) (by decide) (by decide)) (own_j HB (0 : Int32) (6 : Int32) (by decide) (by decide)) (own_j HB (0 : Int32) (7 : Int32) (by decide) (by decide)) (own_j0 HB (1 : Int32) (by decide)) (own_j1 HB (1 : Int32) (by decide)) (own_j HB (1 : Int32) (2 : Int32) (by decide) (by decide)) (own_j HB (1 : Int32) (3 : Int32) (by decide) (by decide)) (own_j HB (1 : Int32) (4 : Int32) (by decide) (by decide)) (own_j HB (1 : Int32) (5 : Int32) (by decide) (by decide)) (own_j HB (1 : Int32) (6 : Int32) (by decide) (by decide)) (own_j HB (1 : Int32) (7 : Int32) (by decide) (by decide)) (own_j0 HB (2 : Int32) (by decide)) (own_j1 HB (2 : Int32) (by decide)) (own_j HB (2 : Int32) (2 : Int32) (by decide) (by decide)) (own_j HB (2 : Int32) (3 : Int32) (by decide) (by decide)) (own_j HB (2 : Int32) (4 : Int32) (by decide) (by decide)) (own_j HB (2 : Int32) (5 : Int32) (by decide) (by decide)) (own_j HB (2 : Int32) (6 : Int32) (by decide) (by decide)) (own_j HB (2 : Int32) (7 : Int32) (by decide) (by decide))) hZ (hw _ (List.mem_of_getElem? (i := 130) rfl)) (hw _ (List.mem_of_getElem? (i := 110) rfl)) (by decide) (by decide)) q149a q149c (g := (mkF m 879 #[.val (.int p0), .val (.int p1), .val (.int p2), .val (.int p3), .val (.int p4), .val (.int p5), .val (.int (3 : Int32)), .val (.int ra), .val (.int v19), .val (.int v31), .val (.int ta), .val (.int bs), .val (.int bq), .val (.int tb), .val (.ref b5), .val (.ref b55), .val (.ref b116), .val (.ref b117), .unset, .unset, .unset, .unset] [(.int (3 : Int32)), (.int bq), (.int bs), (.int tb), (.int v31), (.int ta), (.ref b116), (.ref b55), (.ref b5), (.ref b117)])) rfl (by rw [hml]; rfl) (Steps.refl _) (argsL := [(.ref b5), (.ref b55), (.ref b116), (.int ta), (.int v31), (.int tb), (.int bs), (.int bq), (.int (3 : Int32))]) (rest := []) (lenOf pd_3 rfl) rfl (by show 2 * 0 + _ ≤ _; exact Nat.le_of_eq rfl) (hb hby at_879) (fun _ _ => ⟨rfl, rfl, (by decide : 4 + 0 ≤ _), (by decide : 158 + 0 ≤ _)⟩)
    dsimp only [Pt.U, Pt.locs, Pt.cells, Pt.slots] at X149 l149 y149 z149 st149 hQ149
    subst l149 y149 z149
    obtain ⟨rfl, Nq149, K149, Gq149⟩ := hQ149
    have N149 := Fr.app N118 Nq149
    have G_b5 := G_b5.keep K149 (ninS ne_b5_b116 nin0)
    have G_b55 := G_b55.keep K149 (ninS ne_b55_b116 nin0)
    have E_b117 := E_b117.keep K149
    have F_alpha_b117 := F_alpha_b117.keep K149 (ninS (Ne.symm ne_b116_b117) nin0)
    have F_beta_b117 := F_beta_b117.keep K149 (ninS (Ne.symm ne_b116_b117) nin0)
    have ZH := Nat.le_trans ZH K149.1
    have KK := KK.trans K149 (allS (Or.inr sz_b116) all0)
    have G_b116 : own_Arf Z T149.heap b116 .double (48 : Int32) (fun i => .double (own_U 3 p0 p1 ta v31 tb bs bq i)) := Gq149
    refine own_up (fun _ kq => st149.trans kq) ?_
    show own_Go p.tables e below _ (T149.setTop (mkF m 882 #[.val (.int p0), .val (.int p1), .val (.int p2), .val (.int p3), .val (.int p4), .val (.int p5), .val (.int (3 : Int32)), .val (.int ra), .val (.int v19), .val (.int v31), .val (.int ta), .val (.int bs), .val (.int bq), .val (.int tb), .val (.ref b5), .val (.ref b55), .val (.ref b116), .val (.ref b117), .unset, .unset, .unset, .unset] []))
    refine own_up (fun _ kq => XS.iloadN X149.here hx rfl (hb hby at_882) rfl kq) ?_
    show own_Go p.tables e below _ (T149.setTop (mkF m 883 #[.val (.int p0), .val (.int p1), .val (.int p2), .val (.int p3), .val (.int p4), .val (.int p5), .val (.int (3 : Int32)), .val (.int ra), .val (.int v19), .val (.int v31), .val (.int ta), .val (.int bs), .val (.int bq), .val (.int tb), .val (.ref b5), .val (.ref b55), .val (.ref b116), .val (.ref b117), .unset, .unset, .unset, .unset] [(.int p0)]))
    refine own_up (fun _ kq => XS.i2l X149.here hx rfl (hb hby at_883) rfl kq) ?_
    show own_Go p.tables e below _ (T149.setTop (mkF m 884 #[.val (.int p0), .val (.int p1), .val (.int p2), .val (.int p3), .val (.int p4), .val (.int p5), .val (.int (3 : Int32)), .val (.int ra), .val (.int v19), .val (.int v31), .val (.int ta), .val (.int bs), .val (.int bq), .val (.int tb), .val (.ref b5), .val (.ref b55), .val (.ref b116), .val (.ref b117), .unset, .unset, .unset, .unset] [(.long p0.toInt64)]))
    refine own_up (fun _ kq => XS.lstore X149.here hx rfl (hb hby at_884) rfl (l' := #[.val (.int p0), .val (.int p1), .val (.int p2), .val (.int p3), .val (.int p4), .val (.int p5), .val (.int (3 : Int32)), .val (.int ra), .val (.int v19), .val (.int v31), .val (.int ta), .val (.int bs), .val (.int bq), .val (.int tb), .val (.ref b5), .val (.ref b55), .val (.ref b116), .val (.ref b117), .val (.long p0.toInt64), .second, .unset, .unset]) rfl kq) ?_
    show own_Go p.tables e below _ (T149.setTop (mkF m 886 #[.val (.int p0), .val (.int p1), .val (.int p2), .val (.int p3), .val (.int p4), .val (.int p5), .val (.int (3 : Int32)), .val (.int ra), .val (.int v19), .val (.int v31), .val (.int ta), .val (.int bs), .val (.int bq), .val (.int tb), .val (.ref b5), .val (.ref b55), .val (.ref b116), .val (.ref b117), .val (.long p0.toInt64), .second, .unset, .unset] []))
    refine own_up (fun _ kq => XS.iloadN X149.here hx rfl (hb hby at_886) rfl kq) ?_
    show own_Go p.tables e below _ (T149.setTop (mkF m 887 #[.val (.int p0), .val (.int p1), .val (.int p2), .val (.int p3), .val (.int p4), .val (.int p5), .val (.int (3 : Int32)), .val (.int ra), .val (.int v19), .val (.int v31), .val (.int ta), .val (.int bs), .val (.int bq), .val (.int tb), .val (.ref b5), .val (.ref b55), .val (.ref b116), .val (.ref b117), .val (.long p0.toInt64), .second, .unset, .unset] [(.int p1)]))
    refine own_up (fun _ kq => XS.i2l X149.here hx rfl (hb hby at_887) rfl kq) ?_
    show own_Go p.tables e below _ (T149.setTop (mkF m 888 #[.val (.int p0), .val (.int p1), .val (.int p2), .val (.int p3), .val (.int p4), .val (.int p5), .val (.int (3 : Int32)), .val (.int ra), .val (.int v19), .val (.int v31), .val (.int ta), .val (.int bs), .val (.int bq), .val (.int tb), .val (.ref b5), .val (.ref b55), .val (.ref b116), .val (.ref b117), .val (.long p0.toInt64), .second, .unset, .unset] [(.long p1.toInt64)]))
    refine own_up (fun _ kq => XS.lstore X149.here hx rfl (hb hby at_888) rfl (l' := #[.val (.int p0), .val (.int p1), .val (.int p2), .val (.int p3), .val (.int p4), .val (.int p5), .val (.int (3 : Int32)), .val (.int ra), .val (.int v19), .val (.int v31), .val (.int ta), .val (.int bs), .val (.int bq), .val (.int tb), .val (.ref b5), .val (.ref b55), .val (.ref b116), .val (.ref b117), .val (.long p0.toInt64), .second, .val (.long p1.toInt64), .second]) rfl kq) ?_
    show own_Go p.tables e below _ (T149.setTop (mkF m 890 #[.val (.int p0), .val (.int p1), .val (.int p2), .val (.int p3), .val (.int p4), .val (.int p5), .val (.int (3 : Int32)), .val (.int ra), .val (.int v19), .val (.int v31), .val (.int ta), .val (.int bs), .val (.int bq), .val (.int tb), .val (.ref b5), .val (.ref b55), .val (.ref b116), .val (.ref b117), .val (.long p0.toInt64), .second, .val (.long p1.toInt64), .second] []))
    refine own_up (fun _ kq => XS.aload X149.here hx rfl (hb hby at_890) rfl rfl kq) ?_
    show own_Go p.tables e below _ (T149.setTop (mkF m 892 #[.val (.int p0), .val (.int p1), .val (.int p2), .val (.int p3), .val (.int p4), .val (.int p5), .val (.int (3 : Int32)), .val (.int ra), .val (.int v19), .val (.int v31), .val (.int ta), .val (.int bs), .val (.int bq), .val (.int tb), .val (.ref b5), .val (.ref b55), .val (.ref b116), .val (.ref b117), .val (.long p0.toInt64), .second, .val (.long p1.toInt64), .second] [(.ref b116)]))
    refine own_up (fun _ kq => XS.iload X149.here hx rfl (hb hby at_892) rfl kq) ?_
    show own_Go p.tables e below _ (T149.setTop (mkF m 894 #[.val (.int p0), .val (.int p1), .val (.int p2), .val (.int p3), .val (.int p4), .val (.int p5), .val (.int (3 : Int32)), .val (.int ra), .val (.int v19), .val (.int v31), .val (.int ta), .val (.int bs), .val (.int bq), .val (.int tb), .val (.ref b5), .val (.ref b55), .val (.ref b116), .val (.ref b117), .val (.long p0.toInt64), .second, .val (.long p1.toInt64), .second] [(.int ta), (.ref b116)]))
    refine own_up (fun _ kq => XS.iload X149.here hx rfl (hb hby at_894) rfl kq) ?_
    show own_Go p.tables e below _ (T149.setTop (mkF m 896 #[.val (.int p0), .val (.int p1), .val (.int p2), .val (.int p3), .val (.int p4), .val (.int p5), .val (.int (3 : Int32)), .val (.int ra), .val (.int v19), .val (.int v31), .val (.int ta), .val (.int bs), .val (.int bq), .val (.int tb), .val (.ref b5), .val (.ref b55), .val (.ref b116), .val (.ref b117), .val (.long p0.toInt64), .second, .val (.long p1.toInt64), .second] [(.int v31), (.int ta), (.ref b116)]))
    refine own_up (fun _ kq => XS.iconst X149.here hx rfl (hb hby at_896) kq) ?_
    show own_Go p.tables e below _ (T149.setTop (mkF m 897 #[.val (.int p0), .val (.int p1), .val (.int p2), .val (.int p3), .val (.int p4), .val (.int p5), .val (.int (3 : Int32)), .val (.int ra), .val (.int v19), .val (.int v31), .val (.int ta), .val (.int bs), .val (.int bq), .val (.int tb), .val (.ref b5), .val (.ref b55), .val (.ref b116), .val (.ref b117), .val (.long p0.toInt64), .second, .val (.long p1.toInt64), .second] [(.int (0 : Int32)), (.int v31), (.int ta), (.ref b116)]))
    refine own_up (fun _ kq => XS.iload X149.here hx rfl (hb hby at_897) rfl kq) ?_
    show own_Go p.tables e below _ (T149.setTop (mkF m 899 #[.val (.int p0), .val (.int p1), .val (.int p2), .val (.int p3), .val (.int p4), .val (.int p5), .val (.int (3 : Int32)), .val (.int ra), .val (.int v19), .val (.int v31), .val (.int ta), .val (.int bs), .val (.int bq), .val (.int tb), .val (.ref b5), .val (.ref b55), .val (.ref b116), .val (.ref b117), .val (.long p0.toInt64), .second, .val (.long p1.toInt64), .second] [(.int (3 : Int32)), (.int (0 : Int32)), (.int v31), (.int ta), (.ref b116)]))
    refine own_up (fun _ kq => XS.lload X149.here hx rfl (hb hby at_899) rfl kq) ?_
    show own_Go p.tables e below _ (T149.setTop (mkF m 901 #[.val (.int p0), .val (.int p1), .val (.int p2), .val (.int p3), .val (.int p4), .val (.int p5), .val (.int (3 : Int32)), .val (.int ra), .val (.int v19), .val (.int v31), .val (.int ta), .val (.int bs), .val (.int bq), .val (.int tb), .val (.ref b5), .val (.ref b55), .val (.ref b116), .val (.ref b117), .val (.long p0.toInt64), .second, .val (.long p1.toInt64), .second] [(.long p0.toInt64), (.int (3 : Int32)), (.int (0 : Int32)), (.int v31), (.int ta), (.ref b116)]))
    refine own_up (fun _ kq => XS.lload X149.here hx rfl (hb hby at_901) rfl kq) ?_
    show own_Go p.tables e below _ (T149.setTop (mkF m 903 #[.val (.int p0), .val (.int p1), .val (.int p2), .val (.int p3), .val (.int p4), .val (.int p5), .val (.int (3 : Int32)), .val (.int ra), .val (.int v19), .val (.int v31), .val (.int ta), .val (.int bs), .val (.int bq), .val (.int tb), .val (.ref b5), .val (.ref b55), .val (.ref b116), .val (.ref b117), .val (.long p0.toInt64), .second, .val (.long p1.toInt64), .second] [(.long p1.toInt64), (.long p0.toInt64), (.int (3 : Int32)), (.int (0 : Int32)), (.int v31), (.int ta), (.ref b116)]))
    refine own_up (fun _ kq => XS.iload X149.here hx rfl (hb hby at_903) rfl kq) ?_
    show own_Go p.tables e below _ (T149.setTop (mkF m 905 #[.val (.int p0), .val (.int p1), .val (.int p2), .val (.int p3), .val (.int p4), .val (.int p5), .val (.int (3 : Int32)), .val (.int ra), .val (.int v19), .val (.int v31), .val (.int ta), .val (.int bs), .val (.int bq), .val (.int tb), .val (.ref b5), .val (.ref b55), .val (.ref b116), .val (.ref b117), .val (.long p0.toInt64), .second, .val (.long p1.toInt64), .second] [(.int tb), (.long p1.toInt64), (.long p0.toInt64), (.int (3 : Int32)), (.int (0 : Int32)), (.int v31), (.int ta), (.ref b116)]))
    refine own_up (fun _ kq => XS.iload X149.here hx rfl (hb hby at_905) rfl kq) ?_
    show own_Go p.tables e below _ (T149.setTop (mkF m 907 #[.val (.int p0), .val (.int p1), .val (.int p2), .val (.int p3), .val (.int p4), .val (.int p5), .val (.int (3 : Int32)), .val (.int ra), .val (.int v19), .val (.int v31), .val (.int ta), .val (.int bs), .val (.int bq), .val (.int tb), .val (.ref b5), .val (.ref b55), .val (.ref b116), .val (.ref b117), .val (.long p0.toInt64), .second, .val (.long p1.toInt64), .second] [(.int bs), (.int tb), (.long p1.toInt64), (.long p0.toInt64), (.int (3 : Int32)), (.int (0 : Int32)), (.int v31), (.int ta), (.ref b116)]))
    refine own_up (fun _ kq => XS.iload X149.here hx rfl (hb hby at_907) rfl kq) ?_
    show own_Go p.tables e below _ (T149.setTop (mkF m 909 #[.val (.int p0), .val (.int p1), .val (.int p2), .val (.int p3), .val (.int p4), .val (.int p5), .val (.int (3 : Int32)), .val (.int ra), .val (.int v19), .val (.int v31), .val (.int ta), .val (.int bs), .val (.int bq), .val (.int tb), .val (.ref b5), .val (.ref b55), .val (.ref b116), .val (.ref b117), .val (.long p0.toInt64), .second, .val (.long p1.toInt64), .second] [(.int bq), (.int bs), (.int tb), (.long p1.toInt64), (.long p0.toInt64), (.int (3 : Int32)), (.int (0 : Int32)), (.int v31), (.int ta), (.ref b116)]))
    obtain ⟨_, _, ⟨T150, L150, k150, n150⟩, -, X150, ⟨Lc150, hQ150, l150, y150, z150⟩, st150⟩ := Jvm.LawKit.callS X149 hx (y := (⟨"com/example/indexica/indexica/ScaledSumEightRowsPinLaw", "row", "([DIIIIJJIII)Z"⟩ : MethodName)) hown (mvT hZ (hw _ (List.mem_of_getElem? (i := 131) rfl))) (mvT hZ (hw _ (List.mem_of_getElem? (i := 132) rfl))) (mvT hZ (hw _ (List.mem_of_getElem? (i := 133) rfl))) (mvT hZ (hw _ (List.mem_of_getElem? (i := 134) rfl))) (by decide) (backOf (W := 0) (rmW l Z a0 hw [] b116 ta v31 (0 : Int32) (3 : Int32) p0.toInt64 p1.toInt64 tb bs bq (own_U 3 p0 p1 ta v31 tb bs bq) T149.heap n0 ZH G_b116 (own_ok 3 (by decide) p0 p1 HB rfl (0 : Int32) (0 : Int32) (by decide) (by decide)) (own_ok 3 (by decide) p0 p1 HB rfl (1 : Int32) (0 : Int32) (by decide) (by decide)) (own_ok 3 (by decide) p0 p1 HB rfl (2 : Int32) (0 : Int32) (by decide) (by decide))) hZ (hw _ (List.mem_of_getElem? (i := 134) rfl)) (hw _ (List.mem_of_getElem? (i := 133) rfl)) (by decide) (by decide)) (g := (mkF m 909 #[.val (.int p0), .val (.int p1), .val (.int p2), .val (.int p3), .val (.int p4), .val (.int p5), .val (.int (3 : Int32)), .val (.int ra), .val (.int v19), .val (.int v31), .val (.int ta), .val (.int bs), .val (.int bq), .val (.int tb), .val (.ref b5), .val (.ref b55), .val (.ref b116), .val (.ref b117), .val (.long p0.toInt64), .second, .val (.long p1.toInt64), .second] [(.int bq), (.int bs), (.int tb), (.long p1.toInt64), (.long p0.toInt64), (.int (3 : Int32)), (.int (0 : Int32)), (.int v31), (.int ta), (.ref b116)])) rfl (by rw [hml]; rfl) (argsL := [(.ref b116), (.int ta), (.int v31), (.int (0 : Int32)), (.int (3 : Int32)), (.long p0.toInt64), (.long p1.toInt64), (.int tb), (.int bs), (.int bq)]) (rest := []) (lenOf pd_4 rfl) rfl (by show 2 * 0 + _ ≤ _; exact Nat.le_of_eq rfl) (hb hby at_909) (fun _ _ => ⟨rfl, rfl, (by decide : 4 + 0 ≤ _), (by decide : 158 + 0 ≤ _)⟩)
    dsimp only [Pt.U, Pt.locs, Pt.cells, Pt.slots] at X150 l150 y150 z150 st150 hQ150
    subst l150 y150 z150
    obtain ⟨rfl, Nq150, e150⟩ := hQ150
    have N150 := Fr.app N149 Nq150
    refine own_up st150 ?_
    show own_Go p.tables e below _ (T150.setTop (mkF m 912 #[.val (.int p0), .val (.int p1), .val (.int p2), .val (.int p3), .val (.int p4), .val (.int p5), .val (.int (3 : Int32)), .val (.int ra), .val (.int v19), .val (.int v31), .val (.int ta), .val (.int bs), .val (.int bq), .val (.int tb), .val (.ref b5), .val (.ref b55), .val (.ref b116), .val (.ref b117), .val (.long p0.toInt64), .second, .val (.long p1.toInt64), .second] [(.int (1 : Int32))]))
    refine own_up (fun _ kq => XS.ifNo X150.here hx rfl (hb hby at_912) rfl ((if0 _ _).trans (feq (by decide : ¬ ((1 : Int32) = (0 : Int32)))).1) kq) ?_
    show own_Go p.tables e below _ (T150.setTop (mkF m 915 #[.val (.int p0), .val (.int p1), .val (.int p2), .val (.int p3), .val (.int p4), .val (.int p5), .val (.int (3 : Int32)), .val (.int ra), .val (.int v19), .val (.int v31), .val (.int ta), .val (.int bs), .val (.int bq), .val (.int tb), .val (.ref b5), .val (.ref b55), .val (.ref b116), .val (.ref b117), .val (.long p0.toInt64), .second, .val (.long p1.toInt64), .second] []))
    refine own_up (fun _ kq => XS.aload X150.here hx rfl (hb hby at_915) rfl rfl kq) ?_
    show own_Go p.tables e below _ (T150.setTop (mkF m 917 #[.val (.int p0), .val (.int p1), .val (.int p2), .val (.int p3), .val (.int p4), .val (.int p5), .val (.int (3 : Int32)), .val (.int ra), .val (.int v19), .val (.int v31), .val (.int ta), .val (.int bs), .val (.int bq), .val (.int tb), .val (.ref b5), .val (.ref b55), .val (.ref b116), .val (.ref b117), .val (.long p0.toInt64), .second, .val (.long p1.toInt64), .second] [(.ref b116)]))
    refine own_up (fun _ kq => XS.iload X150.here hx rfl (hb hby at_917) rfl kq) ?_
    show own_Go p.tables e below _ (T150.setTop (mkF m 919 #[.val (.int p0), .val (.int p1), .val (.int p2), .val (.int p3), .val (.int p4), .val (.int p5), .val (.int (3 : Int32)), .val (.int ra), .val (.int v19), .val (.int v31), .val (.int ta), .val (.int bs), .val (.int bq), .val (.int tb), .val (.ref b5), .val (.ref b55), .val (.ref b116), .val (.ref b117), .val (.long p0.toInt64), .second, .val (.long p1.toInt64), .second] [(.int ta), (.ref b116)]))
    refine own_up (fun _ kq => XS.iload X150.here hx rfl (hb hby at_919) rfl kq) ?_
    show own_Go p.tables e below _ (T150.setTop (mkF m 921 #[.val (.int p0), .val (.int p1), .val (.int p2), .val (.int p3), .val (.int p4), .val (.int p5), .val (.int (3 : Int32)), .val (.int ra), .val (.int v19), .val (.int v31), .val (.int ta), .val (.int bs), .val (.int bq), .val (.int tb), .val (.ref b5), .val (.ref b55), .val (.ref b116), .val (.ref b117), .val (.long p0.toInt64), .second, .val (.long p1.toInt64), .second] [(.int v31), (.int ta), (.ref b116)]))
    refine own_up (fun _ kq => XS.iconst X150.here hx rfl (hb hby at_921) kq) ?_
    show own_Go p.tables e below _ (T150.setTop (mkF m 922 #[.val (.int p0), .val (.int p1), .val (.int p2), .val (.int p3), .val (.int p4), .val (.int p5), .val (.int (3 : Int32)), .val (.int ra), .val (.int v19), .val (.int v31), .val (.int ta), .val (.int bs), .val (.int bq), .val (.int tb), .val (.ref b5), .val (.ref b55), .val (.ref b116), .val (.ref b117), .val (.long p0.toInt64), .second, .val (.long p1.toInt64), .second] [(.int (1 : Int32)), (.int v31), (.int ta), (.ref b116)]))
    refine own_up (fun _ kq => XS.iload X150.here hx rfl (hb hby at_922) rfl kq) ?_
    show own_Go p.tables e below _ (T150.setTop (mkF m 924 #[.val (.int p0), .val (.int p1), .val (.int p2), .val (.int p3), .val (.int p4), .val (.int p5), .val (.int (3 : Int32)), .val (.int ra), .val (.int v19), .val (.int v31), .val (.int ta), .val (.int bs), .val (.int bq), .val (.int tb), .val (.ref b5), .val (.ref b55), .val (.ref b116), .val (.ref b117), .val (.long p0.toInt64), .second, .val (.long p1.toInt64), .second] [(.int (3 : Int32)), (.int (1 : Int32)), (.int v31), (.int ta), (.ref b116)]))
    refine own_up (fun _ kq => XS.lload X150.here hx rfl (hb hby at_924) rfl kq) ?_
    show own_Go p.tables e below _ (T150.setTop (mkF m 926 #[.val (.int p0), .val (.int p1), .val (.int p2), .val (.int p3), .val (.int p4), .val (.int p5), .val (.int (3 : Int32)), .val (.int ra), .val (.int v19), .val (.int v31), .val (.int ta), .val (.int bs), .val (.int bq), .val (.int tb), .val (.ref b5), .val (.ref b55), .val (.ref b116), .val (.ref b117), .val (.long p0.toInt64), .second, .val (.long p1.toInt64), .second] [(.long p0.toInt64), (.int (3 : Int32)), (.int (1 : Int32)), (.int v31), (.int ta), (.ref b116)]))
    refine own_up (fun _ kq => XS.lload X150.here hx rfl (hb hby at_926) rfl kq) ?_
    show own_Go p.tables e below _ (T150.setTop (mkF m 928 #[.val (.int p0), .val (.int p1), .val (.int p2), .val (.int p3), .val (.int p4), .val (.int p5), .val (.int (3 : Int32)), .val (.int ra), .val (.int v19), .val (.int v31), .val (.int ta), .val (.int bs), .val (.int bq), .val (.int tb), .val (.ref b5), .val (.ref b55), .val (.ref b116), .val (.ref b117), .val (.long p0.toInt64), .second, .val (.long p1.toInt64), .second] [(.long p1.toInt64), (.long p0.toInt64), (.int (3 : Int32)), (.int (1 : Int32)), (.int v31), (.int ta), (.ref b116)]))
    refine own_up (fun _ kq => XS.iload X150.here hx rfl (hb hby at_928) rfl kq) ?_
    show own_Go p.tables e below _ (T150.setTop (mkF m 930 #[.val (.int p0), .val (.int p1), .val (.int p2), .val (.int p3), .val (.int p4), .val (.int p5), .val (.int (3 : Int32)), .val (.int ra), .val (.int v19), .val (.int v31), .val (.int ta), .val (.int bs), .val (.int bq), .val (.int tb), .val (.ref b5), .val (.ref b55), .val (.ref b116), .val (.ref b117), .val (.long p0.toInt64), .second, .val (.long p1.toInt64), .second] [(.int tb), (.long p1.toInt64), (.long p0.toInt64), (.int (3 : Int32)), (.int (1 : Int32)), (.int v31), (.int ta), (.ref b116)]))
    refine own_up (fun _ kq => XS.iload X150.here hx rfl (hb hby at_930) rfl kq) ?_
    show own_Go p.tables e below _ (T150.setTop (mkF m 932 #[.val (.int p0), .val (.int p1), .val (.int p2), .val (.int p3), .val (.int p4), .val (.int p5), .val (.int (3 : Int32)), .val (.int ra), .val (.int v19), .val (.int v31), .val (.int ta), .val (.int bs), .val (.int bq), .val (.int tb), .val (.ref b5), .val (.ref b55), .val (.ref b116), .val (.ref b117), .val (.long p0.toInt64), .second, .val (.long p1.toInt64), .second] [(.int bs), (.int tb), (.long p1.toInt64), (.long p0.toInt64), (.int (3 : Int32)), (.int (1 : Int32)), (.int v31), (.int ta), (.ref b116)]))
    refine own_up (fun _ kq => XS.iload X150.here hx rfl (hb hby at_932) rfl kq) ?_
    show own_Go p.tables e below _ (T150.setTop (mkF m 934 #[.val (.int p0), .val (.int p1), .val (.int p2), .val (.int p3), .val (.int p4), .val (.int p5), .val (.int (3 : Int32)), .val (.int ra), .val (.int v19), .val (.int v31), .val (.int ta), .val (.int bs), .val (.int bq), .val (.int tb), .val (.ref b5), .val (.ref b55), .val (.ref b116), .val (.ref b117), .val (.long p0.toInt64), .second, .val (.long p1.toInt64), .second] [(.int bq), (.int bs), (.int tb), (.long p1.toInt64), (.long p0.toInt64), (.int (3 : Int32)), (.int (1 : Int32)), (.int v31), (.int ta), (.ref b116)]))
    obtain ⟨_, _, ⟨T151, L151, k151, n151⟩, -, X151, ⟨Lc151, hQ151, l151, y151, z151⟩, st151⟩ := Jvm.LawKit.callS X150 hx (y := (⟨"com/example/indexica/indexica/ScaledSumEightRowsPinLaw", "row", "([DIIIIJJIII)Z"⟩ : MethodName)) hown (mvT hZ (hw _ (List.mem_of_getElem? (i := 131) rfl))) (mvT hZ (hw _ (List.mem_of_getElem? (i := 132) rfl))) (mvT hZ (hw _ (List.mem_of_getElem? (i := 133) rfl))) (mvT hZ (hw _ (List.mem_of_getElem? (i := 134) rfl))) (by decide) (backOf (W := 0) (rmW l Z a0 hw [] b116 ta v31 (1 : Int32) (3 : Int32) p0.toInt64 p1.toInt64 tb bs bq (own_U 3 p0 p1 ta v31 tb bs bq) T149.heap n0 ZH G_b116 (own_ok 3 (by decide) p0 p1 HB rfl (0 : Int32) (1 : Int32) (by decide) (by decide)) (own_ok 3 (by decide) p0 p1 HB rfl (1 : Int32) (1 : Int32) (by decide) (by decide)) (own_ok 3 (by decide) p0 p1 HB rfl (2 : Int32) (1 : Int32) (by decide) (by decide))) hZ (hw _ (List.mem_of_getElem? (i := 134) rfl)) (hw _ (List.mem_of_getElem? (i := 133) rfl)) (by decide) (by decide)) (g := (mkF m 934 #[.val (.int p0), .val (.int p1), .val (.int p2), .val (.int p3), .val (.int p4), .val (.int p5), .val (.int (3 : Int32)), .val (.int ra), .val (.int v19), .val (.int v31), .val (.int ta), .val (.int bs), .val (.int bq), .val (.int tb), .val (.ref b5), .val (.ref b55), .val (.ref b116), .val (.ref b117), .val (.long p0.toInt64), .second, .val (.long p1.toInt64), .second] [(.int bq), (.int bs), (.int tb), (.long p1.toInt64), (.long p0.toInt64), (.int (3 : Int32)), (.int (1 : Int32)), (.int v31), (.int ta), (.ref b116)])) rfl (by rw [hml]; rfl) (argsL := [(.ref b116), (.int ta), (.int v31), (.int (1 : Int32)), (.int (3 : Int32)), (.long p0.toInt64), (.long p1.toInt64), (.int tb), (.int bs), (.int bq)]) (rest := []) (lenOf pd_4 rfl) rfl (by show 2 * 0 + _ ≤ _; exact Nat.le_of_eq rfl) (hb hby at_934) (fun _ _ => ⟨rfl, e150, (by decide : 4 + 0 ≤ _), (by decide : 158 + 0 ≤ _)⟩)
    dsimp only [Pt.U, Pt.locs, Pt.cells, Pt.slots] at X151 l151 y151 z151 st151 hQ151
    subst l151 y151 z151
    obtain ⟨rfl, Nq151, e151⟩ := hQ151
    have N151 := Fr.app N150 Nq151
    refine own_up st151 ?_
    show own_Go p.tables e below _ (T151.setTop (mkF m 937 #[.val (.int p0), .val (.int p1), .val (.int p2), .val (.int p3), .val (.int p4), .val (.int p5), .val (.int (3 : Int32)), .val (.int ra), .val (.int v19), .val (.int v31), .val (.int ta), .val (.int bs), .val (.int bq), .val (.int tb), .val (.ref b5), .val (.ref b55), .val (.ref b116), .val (.ref b117), .val (.long p0.toInt64), .second, .val (.long p1.toInt64), .second] [(.int (1 : Int32))]))
    refine own_up (fun _ kq => XS.ifNo X151.here hx rfl (hb hby at_937) rfl ((if0 _ _).trans (feq (by decide : ¬ ((1 : Int32) = (0 : Int32)))).1) kq) ?_
    show own_Go p.tables e below _ (T151.setTop (mkF m 940 #[.val (.int p0), .val (.int p1), .val (.int p2), .val (.int p3), .val (.int p4), .val (.int p5), .val (.int (3 : Int32)), .val (.int ra), .val (.int v19), .val (.int v31), .val (.int ta), .val (.int bs), .val (.int bq), .val (.int tb), .val (.ref b5), .val (.ref b55), .val (.ref b116), .val (.ref b117), .val (.long p0.toInt64), .second, .val (.long p1.toInt64), .second] []))
    refine own_up (fun _ kq => XS.aload X151.here hx rfl (hb hby at_940) rfl rfl kq) ?_
    show own_Go p.tables e below _ (T151.setTop (mkF m 942 #[.val (.int p0), .val (.int p1), .val (.int p2), .val (.int p3), .val (.int p4), .val (.int p5), .val (.int (3 : Int32)), .val (.int ra), .val (.int v19), .val (.int v31), .val (.int ta), .val (.int bs), .val (.int bq), .val (.int tb), .val (.ref b5), .val (.ref b55), .val (.ref b116), .val (.ref b117), .val (.long p0.toInt64), .second, .val (.long p1.toInt64), .second] [(.ref b116)]))
    refine own_up (fun _ kq => XS.iload X151.here hx rfl (hb hby at_942) rfl kq) ?_
    show own_Go p.tables e below _ (T151.setTop (mkF m 944 #[.val (.int p0), .val (.int p1), .val (.int p2), .val (.int p3), .val (.int p4), .val (.int p5), .val (.int (3 : Int32)), .val (.int ra), .val (.int v19), .val (.int v31), .val (.int ta), .val (.int bs), .val (.int bq), .val (.int tb), .val (.ref b5), .val (.ref b55), .val (.ref b116), .val (.ref b117), .val (.long p0.toInt64), .second, .val (.long p1.toInt64), .second] [(.int ta), (.ref b116)]))
    refine own_up (fun _ kq => XS.iload X151.here hx rfl (hb hby at_944) rfl kq) ?_
    show own_Go p.tables e below _ (T151.setTop (mkF m 946 #[.val (.int p0), .val (.int p1), .val (.int p2), .val (.int p3), .val (.int p4), .val (.int p5), .val (.int (3 : Int32)), .val (.int ra), .val (.int v19), .val (.int v31), .val (.int ta), .val (.int bs), .val (.int bq), .val (.int tb), .val (.ref b5), .val (.ref b55), .val (.ref b116), .val (.ref b117), .val (.long p0.toInt64), .second, .val (.long p1.toInt64), .second] [(.int v31), (.int ta), (.ref b116)]))
    refine own_up (fun _ kq => XS.iconst X151.here hx rfl (hb hby at_946) kq) ?_
    show own_Go p.tables e below _ (T151.setTop (mkF m 947 #[.val (.int p0), .val (.int p1), .val (.int p2), .val (.int p3), .val (.int p4), .val (.int p5), .val (.int (3 : Int32)), .val (.int ra), .val (.int v19), .val (.int v31), .val (.int ta), .val (.int bs), .val (.int bq), .val (.int tb), .val (.ref b5), .val (.ref b55), .val (.ref b116), .val (.ref b117), .val (.long p0.toInt64), .second, .val (.long p1.toInt64), .second] [(.int (2 : Int32)), (.int v31), (.int ta), (.ref b116)]))
    refine own_up (fun _ kq => XS.iload X151.here hx rfl (hb hby at_947) rfl kq) ?_
    show own_Go p.tables e below _ (T151.setTop (mkF m 949 #[.val (.int p0), .val (.int p1), .val (.int p2), .val (.int p3), .val (.int p4), .val (.int p5), .val (.int (3 : Int32)), .val (.int ra), .val (.int v19), .val (.int v31), .val (.int ta), .val (.int bs), .val (.int bq), .val (.int tb), .val (.ref b5), .val (.ref b55), .val (.ref b116), .val (.ref b117), .val (.long p0.toInt64), .second, .val (.long p1.toInt64), .second] [(.int (3 : Int32)), (.int (2 : Int32)), (.int v31), (.int ta), (.ref b116)]))
    refine own_up (fun _ kq => XS.lload X151.here hx rfl (hb hby at_949) rfl kq) ?_
    show own_Go p.tables e below _ (T151.setTop (mkF m 951 #[.val (.int p0), .val (.int p1), .val (.int p2), .val (.int p3), .val (.int p4), .val (.int p5), .val (.int (3 : Int32)), .val (.int ra), .val (.int v19), .val (.int v31), .val (.int ta), .val (.int bs), .val (.int bq), .val (.int tb), .val (.ref b5), .val (.ref b55), .val (.ref b116), .val (.ref b117), .val (.long p0.toInt64), .second, .val (.long p1.toInt64), .second] [(.long p0.toInt64), (.int (3 : Int32)), (.int (2 : Int32)), (.int v31), (.int ta), (.ref b116)]))
    refine own_up (fun _ kq => XS.lload X151.here hx rfl (hb hby at_951) rfl kq) ?_
    show own_Go p.tables e below _ (T151.setTop (mkF m 953 #[.val (.int p0), .val (.int p1), .val (.int p2), .val (.int p3), .val (.int p4), .val (.int p5), .val (.int (3 : Int32)), .val (.int ra), .val (.int v19), .val (.int v31), .val (.int ta), .val (.int bs), .val (.int bq), .val (.int tb), .val (.ref b5), .val (.ref b55), .val (.ref b116), .val (.ref b117), .val (.long p0.toInt64), .second, .val (.long p1.toInt64), .second] [(.long p1.toInt64), (.long p0.toInt64), (.int (3 : Int32)), (.int (2 : Int32)), (.int v31), (.int ta), (.ref b116)]))
    refine own_up (fun _ kq => XS.iload X151.here hx rfl (hb hby at_953) rfl kq) ?_
    show own_Go p.tables e below _ (T151.setTop (mkF m 955 #[.val (.int p0), .val (.int p1), .val (.int p2), .val (.int p3), .val (.int p4), .val (.int p5), .val (.int (3 : Int32)), .val (.int ra), .val (.int v19), .val (.int v31), .val (.int ta), .val (.int bs), .val (.int bq), .val (.int tb), .val (.ref b5), .val (.ref b55), .val (.ref b116), .val (.ref b117), .val (.long p0.toInt64), .second, .val (.long p1.toInt64), .second] [(.int tb), (.long p1.toInt64), (.long p0.toInt64), (.int (3 : Int32)), (.int (2 : Int32)), (.int v31), (.int ta), (.ref b116)]))
    refine own_up (fun _ kq => XS.iload X151.here hx rfl (hb hby at_955) rfl kq) ?_
    show own_Go p.tables e below _ (T151.setTop (mkF m 957 #[.val (.int p0), .val (.int p1), .val (.int p2), .val (.int p3), .val (.int p4), .val (.int p5), .val (.int (3 : Int32)), .val (.int ra), .val (.int v19), .val (.int v31), .val (.int ta), .val (.int bs), .val (.int bq), .val (.int tb), .val (.ref b5), .val (.ref b55), .val (.ref b116), .val (.ref b117), .val (.long p0.toInt64), .second, .val (.long p1.toInt64), .second] [(.int bs), (.int tb), (.long p1.toInt64), (.long p0.toInt64), (.int (3 : Int32)), (.int (2 : Int32)), (.int v31), (.int ta), (.ref b116)]))
    refine own_up (fun _ kq => XS.iload X151.here hx rfl (hb hby at_957) rfl kq) ?_
    show own_Go p.tables e below _ (T151.setTop (mkF m 959 #[.val (.int p0), .val (.int p1), .val (.int p2), .val (.int p3), .val (.int p4), .val (.int p5), .val (.int (3 : Int32)), .val (.int ra), .val (.int v19), .val (.int v31), .val (.int ta), .val (.int bs), .val (.int bq), .val (.int tb), .val (.ref b5), .val (.ref b55), .val (.ref b116), .val (.ref b117), .val (.long p0.toInt64), .second, .val (.long p1.toInt64), .second] [(.int bq), (.int bs), (.int tb), (.long p1.toInt64), (.long p0.toInt64), (.int (3 : Int32)), (.int (2 : Int32)), (.int v31), (.int ta), (.ref b116)]))
    obtain ⟨_, _, ⟨T152, L152, k152, n152⟩, -, X152, ⟨Lc152, hQ152, l152, y152, z152⟩, st152⟩ := Jvm.LawKit.callS X151 hx (y := (⟨"com/example/indexica/indexica/ScaledSumEightRowsPinLaw", "row", "([DIIIIJJIII)Z"⟩ : MethodName)) hown (mvT hZ (hw _ (List.mem_of_getElem? (i := 131) rfl))) (mvT hZ (hw _ (List.mem_of_getElem? (i := 132) rfl))) (mvT hZ (hw _ (List.mem_of_getElem? (i := 133) rfl))) (mvT hZ (hw _ (List.mem_of_getElem? (i := 134) rfl))) (by decide) (backOf (W := 0) (rmW l Z a0 hw [] b116 ta v31 (2 : Int32) (3 : Int32) p0.toInt64 p1.toInt64 tb bs bq (own_U 3 p0 p1 ta v31 tb bs bq) T149.heap n0 ZH G_b116 (own_ok 3 (by decide) p0 p1 HB rfl (0 : Int32) (2 : Int32) (by decide) (by decide)) (own_ok 3 (by decide) p0 p1 HB rfl (1 : Int32) (2 : Int32) (by decide) (by decide)) (own_ok 3 (by decide) p0 p1 HB rfl (2 : Int32) (2 : Int32) (by decide) (by decide))) hZ (hw _ (List.mem_of_getElem? (i := 134) rfl)) (hw _ (List.mem_of_getElem? (i := 133) rfl)) (by decide) (by decide)) (g := (mkF m 959 #[.val (.int p0), .val (.int p1), .val (.int p2), .val (.int p3), .val (.int p4), .val (.int p5), .val (.int (3 : Int32)), .val (.int ra), .val (.int v19), .val (.int v31), .val (.int ta), .val (.int bs), .val (.int bq), .val (.int tb), .val (.ref b5), .val (.ref b55), .val (.ref b116), .val (.ref b117), .val (.long p0.toInt64), .second, .val (.long p1.toInt64), .second] [(.int bq), (.int bs), (.int tb), (.long p1.toInt64), (.long p0.toInt64), (.int (3 : Int32)), (.int (2 : Int32)), (.int v31), (.int ta), (.ref b116)])) rfl (by rw [hml]; rfl) (argsL := [(.ref b116), (.int ta), (.int v31), (.int (2 : Int32)), (.int (3 : Int32)), (.long p0.toInt64), (.long p1.toInt64), (.int tb), (.int bs), (.int bq)]) (rest := []) (lenOf pd_4 rfl) rfl (by show 2 * 0 + _ ≤ _; exact Nat.le_of_eq rfl) (hb hby at_959) (fun _ _ => ⟨rfl, e151, (by decide : 4 + 0 ≤ _), (by decide : 158 + 0 ≤ _)⟩)
    dsimp only [Pt.U, Pt.locs, Pt.cells, Pt.slots] at X152 l152 y152 z152 st152 hQ152
    subst l152 y152 z152
    obtain ⟨rfl, Nq152, e152⟩ := hQ152
    have N152 := Fr.app N151 Nq152
    refine own_up st152 ?_
    show own_Go p.tables e below _ (T152.setTop (mkF m 962 #[.val (.int p0), .val (.int p1), .val (.int p2), .val (.int p3), .val (.int p4), .val (.int p5), .val (.int (3 : Int32)), .val (.int ra), .val (.int v19), .val (.int v31), .val (.int ta), .val (.int bs), .val (.int bq), .val (.int tb), .val (.ref b5), .val (.ref b55), .val (.ref b116), .val (.ref b117), .val (.long p0.toInt64), .second, .val (.long p1.toInt64), .second] [(.int (1 : Int32))]))
    refine own_up (fun _ kq => XS.ifNo X152.here hx rfl (hb hby at_962) rfl ((if0 _ _).trans (feq (by decide : ¬ ((1 : Int32) = (0 : Int32)))).1) kq) ?_
    show own_Go p.tables e below _ (T152.setTop (mkF m 965 #[.val (.int p0), .val (.int p1), .val (.int p2), .val (.int p3), .val (.int p4), .val (.int p5), .val (.int (3 : Int32)), .val (.int ra), .val (.int v19), .val (.int v31), .val (.int ta), .val (.int bs), .val (.int bq), .val (.int tb), .val (.ref b5), .val (.ref b55), .val (.ref b116), .val (.ref b117), .val (.long p0.toInt64), .second, .val (.long p1.toInt64), .second] []))
    refine own_up (fun _ kq => XS.aload X152.here hx rfl (hb hby at_965) rfl rfl kq) ?_
    show own_Go p.tables e below _ (T152.setTop (mkF m 967 #[.val (.int p0), .val (.int p1), .val (.int p2), .val (.int p3), .val (.int p4), .val (.int p5), .val (.int (3 : Int32)), .val (.int ra), .val (.int v19), .val (.int v31), .val (.int ta), .val (.int bs), .val (.int bq), .val (.int tb), .val (.ref b5), .val (.ref b55), .val (.ref b116), .val (.ref b117), .val (.long p0.toInt64), .second, .val (.long p1.toInt64), .second] [(.ref b116)]))
    refine own_up (fun _ kq => XS.iload X152.here hx rfl (hb hby at_967) rfl kq) ?_
    show own_Go p.tables e below _ (T152.setTop (mkF m 969 #[.val (.int p0), .val (.int p1), .val (.int p2), .val (.int p3), .val (.int p4), .val (.int p5), .val (.int (3 : Int32)), .val (.int ra), .val (.int v19), .val (.int v31), .val (.int ta), .val (.int bs), .val (.int bq), .val (.int tb), .val (.ref b5), .val (.ref b55), .val (.ref b116), .val (.ref b117), .val (.long p0.toInt64), .second, .val (.long p1.toInt64), .second] [(.int ta), (.ref b116)]))
    refine own_up (fun _ kq => XS.iload X152.here hx rfl (hb hby at_969) rfl kq) ?_
    show own_Go p.tables e below _ (T152.setTop (mkF m 971 #[.val (.int p0), .val (.int p1), .val (.int p2), .val (.int p3), .val (.int p4), .val (.int p5), .val (.int (3 : Int32)), .val (.int ra), .val (.int v19), .val (.int v31), .val (.int ta), .val (.int bs), .val (.int bq), .val (.int tb), .val (.ref b5), .val (.ref b55), .val (.ref b116), .val (.ref b117), .val (.long p0.toInt64), .second, .val (.long p1.toInt64), .second] [(.int v31), (.int ta), (.ref b116)]))
    refine own_up (fun _ kq => XS.iconst X152.here hx rfl (hb hby at_971) kq) ?_
    show own_Go p.tables e below _ (T152.setTop (mkF m 972 #[.val (.int p0), .val (.int p1), .val (.int p2), .val (.int p3), .val (.int p4), .val (.int p5), .val (.int (3 : Int32)), .val (.int ra), .val (.int v19), .val (.int v31), .val (.int ta), .val (.int bs), .val (.int bq), .val (.int tb), .val (.ref b5), .val (.ref b55), .val (.ref b116), .val (.ref b117), .val (.long p0.toInt64), .second, .val (.long p1.toInt64), .second] [(.int (3 : Int32)), (.int v31), (.int ta), (.ref b116)]))
    refine own_up (fun _ kq => XS.iload X152.here hx rfl (hb hby at_972) rfl kq) ?_
    show own_Go p.tables e below _ (T152.setTop (mkF m 974 #[.val (.int p0), .val (.int p1), .val (.int p2), .val (.int p3), .val (.int p4), .val (.int p5), .val (.int (3 : Int32)), .val (.int ra), .val (.int v19), .val (.int v31), .val (.int ta), .val (.int bs), .val (.int bq), .val (.int tb), .val (.ref b5), .val (.ref b55), .val (.ref b116), .val (.ref b117), .val (.long p0.toInt64), .second, .val (.long p1.toInt64), .second] [(.int (3 : Int32)), (.int (3 : Int32)), (.int v31), (.int ta), (.ref b116)]))
    refine own_up (fun _ kq => XS.lload X152.here hx rfl (hb hby at_974) rfl kq) ?_
    show own_Go p.tables e below _ (T152.setTop (mkF m 976 #[.val (.int p0), .val (.int p1), .val (.int p2), .val (.int p3), .val (.int p4), .val (.int p5), .val (.int (3 : Int32)), .val (.int ra), .val (.int v19), .val (.int v31), .val (.int ta), .val (.int bs), .val (.int bq), .val (.int tb), .val (.ref b5), .val (.ref b55), .val (.ref b116), .val (.ref b117), .val (.long p0.toInt64), .second, .val (.long p1.toInt64), .second] [(.long p0.toInt64), (.int (3 : Int32)), (.int (3 : Int32)), (.int v31), (.int ta), (.ref b116)]))
    refine own_up (fun _ kq => XS.lload X152.here hx rfl (hb hby at_976) rfl kq) ?_
    show own_Go p.tables e below _ (T152.setTop (mkF m 978 #[.val (.int p0), .val (.int p1), .val (.int p2), .val (.int p3), .val (.int p4), .val (.int p5), .val (.int (3 : Int32)), .val (.int ra), .val (.int v19), .val (.int v31), .val (.int ta), .val (.int bs), .val (.int bq), .val (.int tb), .val (.ref b5), .val (.ref b55), .val (.ref b116), .val (.ref b117), .val (.long p0.toInt64), .second, .val (.long p1.toInt64), .second] [(.long p1.toInt64), (.long p0.toInt64), (.int (3 : Int32)), (.int (3 : Int32)), (.int v31), (.int ta), (.ref b116)]))
    refine own_up (fun _ kq => XS.iload X152.here hx rfl (hb hby at_978) rfl kq) ?_
    show own_Go p.tables e below _ (T152.setTop (mkF m 980 #[.val (.int p0), .val (.int p1), .val (.int p2), .val (.int p3), .val (.int p4), .val (.int p5), .val (.int (3 : Int32)), .val (.int ra), .val (.int v19), .val (.int v31), .val (.int ta), .val (.int bs), .val (.int bq), .val (.int tb), .val (.ref b5), .val (.ref b55), .val (.ref b116), .val (.ref b117), .val (.long p0.toInt64), .second, .val (.long p1.toInt64), .second] [(.int tb), (.long p1.toInt64), (.long p0.toInt64), (.int (3 : Int32)), (.int (3 : Int32)), (.int v31), (.int ta), (.ref b116)]))
    refine own_up (fun _ kq => XS.iload X152.here hx rfl (hb hby at_980) rfl kq) ?_
    show own_Go p.tables e below _ (T152.setTop (mkF m 982 #[.val (.int p0), .val (.int p1), .val (.int p2), .val (.int p3), .val (.int p4), .val (.int p5), .val (.int (3 : Int32)), .val (.int ra), .val (.int v19), .val (.int v31), .val (.int ta), .val (.int bs), .val (.int bq), .val (.int tb), .val (.ref b5), .val (.ref b55), .val (.ref b116), .val (.ref b117), .val (.long p0.toInt64), .second, .val (.long p1.toInt64), .second] [(.int bs), (.int tb), (.long p1.toInt64), (.long p0.toInt64), (.int (3 : Int32)), (.int (3 : Int32)), (.int v31), (.int ta), (.ref b116)]))
    refine own_up (fun _ kq => XS.iload X152.here hx rfl (hb hby at_982) rfl kq) ?_
    show own_Go p.tables e below _ (T152.setTop (mkF m 984 #[.val (.int p0), .val (.int p1), .val (.int p2), .val (.int p3), .val (.int p4), .val (.int p5), .val (.int (3 : Int32)), .val (.int ra), .val (.int v19), .val (.int v31), .val (.int ta), .val (.int bs), .val (.int bq), .val (.int tb), .val (.ref b5), .val (.ref b55), .val (.ref b116), .val (.ref b117), .val (.long p0.toInt64), .second, .val (.long p1.toInt64), .second] [(.int bq), (.int bs), (.int tb), (.long p1.toInt64), (.long p0.toInt64), (.int (3 : Int32)), (.int (3 : Int32)), (.int v31), (.int ta), (.ref b116)]))
    obtain ⟨_, _, ⟨T153, L153, k153, n153⟩, -, X153, ⟨Lc153, hQ153, l153, y153, z153⟩, st153⟩ := Jvm.LawKit.callS X152 hx (y := (⟨"com/example/indexica/indexica/ScaledSumEightRowsPinLaw", "row", "([DIIIIJJIII)Z"⟩ : MethodName)) hown (mvT hZ (hw _ (List.mem_of_getElem? (i := 131) rfl))) (mvT hZ (hw _ (List.mem_of_getElem? (i := 132) rfl))) (mvT hZ (hw _ (List.mem_of_getElem? (i := 133) rfl))) (mvT hZ (hw _ (List.mem_of_getElem? (i := 134) rfl))) (by decide) (backOf (W := 0) (rmW l Z a0 hw [] b116 ta v31 (3 : Int32) (3 : Int32) p0.toInt64 p1.toInt64 tb bs bq (own_U 3 p0 p1 ta v31 tb bs bq) T149.heap n0 ZH G_b116 (own_ok 3 (by decide) p0 p1 HB rfl (0 : Int32) (3 : Int32) (by decide) (by decide)) (own_ok 3 (by decide) p0 p1 HB rfl (1 : Int32) (3 : Int32) (by decide) (by decide)) (own_ok 3 (by decide) p0 p1 HB rfl (2 : Int32) (3 : Int32) (by decide) (by decide))) hZ (hw _ (List.mem_of_getElem? (i := 134) rfl)) (hw _ (List.mem_of_getElem? (i := 133) rfl)) (by decide) (by decide)) (g := (mkF m 984 #[.val (.int p0), .val (.int p1), .val (.int p2), .val (.int p3), .val (.int p4), .val (.int p5), .val (.int (3 : Int32)), .val (.int ra), .val (.int v19), .val (.int v31), .val (.int ta), .val (.int bs), .val (.int bq), .val (.int tb), .val (.ref b5), .val (.ref b55), .val (.ref b116), .val (.ref b117), .val (.long p0.toInt64), .second, .val (.long p1.toInt64), .second] [(.int bq), (.int bs), (.int tb), (.long p1.toInt64), (.long p0.toInt64), (.int (3 : Int32)), (.int (3 : Int32)), (.int v31), (.int ta), (.ref b116)])) rfl (by rw [hml]; rfl) (argsL := [(.ref b116), (.int ta), (.int v31), (.int (3 : Int32)), (.int (3 : Int32)), (.long p0.toInt64), (.long p1.toInt64), (.int tb), (.int bs), (.int bq)]) (rest := []) (lenOf pd_4 rfl) rfl (by show 2 * 0 + _ ≤ _; exact Nat.le_of_eq rfl) (hb hby at_984) (fun _ _ => ⟨rfl, e152, (by decide : 4 + 0 ≤ _), (by decide : 158 + 0 ≤ _)⟩)
    dsimp only [Pt.U, Pt.locs, Pt.cells, Pt.slots] at X153 l153 y153 z153 st153 hQ153
    subst l153 y153 z153
    obtain ⟨rfl, Nq153, e153⟩ := hQ153
    have N153 := Fr.app N152 Nq153
    refine own_up st153 ?_
    show own_Go p.tables e below _ (T153.setTop (mkF m 987 #[.val (.int p0), .val (.int p1), .val (.int p2), .val (.int p3), .val (.int p4), .val (.int p5), .val (.int (3 : Int32)), .val (.int ra), .val (.int v19), .val (.int v31), .val (.int ta), .val (.int bs), .val (.int bq), .val (.int tb), .val (.ref b5), .val (.ref b55), .val (.ref b116), .val (.ref b117), .val (.long p0.toInt64), .second, .val (.long p1.toInt64), .second] [(.int (1 : Int32))]))
    refine own_up (fun _ kq => XS.ifNo X153.here hx rfl (hb hby at_987) rfl ((if0 _ _).trans (feq (by decide : ¬ ((1 : Int32) = (0 : Int32)))).1) kq) ?_
    show own_Go p.tables e below _ (T153.setTop (mkF m 990 #[.val (.int p0), .val (.int p1), .val (.int p2), .val (.int p3), .val (.int p4), .val (.int p5), .val (.int (3 : Int32)), .val (.int ra), .val (.int v19), .val (.int v31), .val (.int ta), .val (.int bs), .val (.int bq), .val (.int tb), .val (.ref b5), .val (.ref b55), .val (.ref b116), .val (.ref b117), .val (.long p0.toInt64), .second, .val (.long p1.toInt64), .second] []))
    refine own_up (fun _ kq => XS.aload X153.here hx rfl (hb hby at_990) rfl rfl kq) ?_
    show own_Go p.tables e below _ (T153.setTop (mkF m 992 #[.val (.int p0), .val (.int p1), .val (.int p2), .val (.int p3), .val (.int p4), .val (.int p5), .val (.int (3 : Int32)), .val (.int ra), .val (.int v19), .val (.int v31), .val (.int ta), .val (.int bs), .val (.int bq), .val (.int tb), .val (.ref b5), .val (.ref b55), .val (.ref b116), .val (.ref b117), .val (.long p0.toInt64), .second, .val (.long p1.toInt64), .second] [(.ref b116)]))
    refine own_up (fun _ kq => XS.iload X153.here hx rfl (hb hby at_992) rfl kq) ?_
    show own_Go p.tables e below _ (T153.setTop (mkF m 994 #[.val (.int p0), .val (.int p1), .val (.int p2), .val (.int p3), .val (.int p4), .val (.int p5), .val (.int (3 : Int32)), .val (.int ra), .val (.int v19), .val (.int v31), .val (.int ta), .val (.int bs), .val (.int bq), .val (.int tb), .val (.ref b5), .val (.ref b55), .val (.ref b116), .val (.ref b117), .val (.long p0.toInt64), .second, .val (.long p1.toInt64), .second] [(.int ta), (.ref b116)]))
    refine own_up (fun _ kq => XS.iload X153.here hx rfl (hb hby at_994) rfl kq) ?_
    show own_Go p.tables e below _ (T153.setTop (mkF m 996 #[.val (.int p0), .val (.int p1), .val (.int p2), .val (.int p3), .val (.int p4), .val (.int p5), .val (.int (3 : Int32)), .val (.int ra), .val (.int v19), .val (.int v31), .val (.int ta), .val (.int bs), .val (.int bq), .val (.int tb), .val (.ref b5), .val (.ref b55), .val (.ref b116), .val (.ref b117), .val (.long p0.toInt64), .second, .val (.long p1.toInt64), .second] [(.int v31), (.int ta), (.ref b116)]))
    refine own_up (fun _ kq => XS.iconst X153.here hx rfl (hb hby at_996) kq) ?_
    show own_Go p.tables e below _ (T153.setTop (mkF m 997 #[.val (.int p0), .val (.int p1), .val (.int p2), .val (.int p3), .val (.int p4), .val (.int p5), .val (.int (3 : Int32)), .val (.int ra), .val (.int v19), .val (.int v31), .val (.int ta), .val (.int bs), .val (.int bq), .val (.int tb), .val (.ref b5), .val (.ref b55), .val (.ref b116), .val (.ref b117), .val (.long p0.toInt64), .second, .val (.long p1.toInt64), .second] [(.int (4 : Int32)), (.int v31), (.int ta), (.ref b116)]))
    refine own_up (fun _ kq => XS.iload X153.here hx rfl (hb hby at_997) rfl kq) ?_
    show own_Go p.tables e below _ (T153.setTop (mkF m 999 #[.val (.int p0), .val (.int p1), .val (.int p2), .val (.int p3), .val (.int p4), .val (.int p5), .val (.int (3 : Int32)), .val (.int ra), .val (.int v19), .val (.int v31), .val (.int ta), .val (.int bs), .val (.int bq), .val (.int tb), .val (.ref b5), .val (.ref b55), .val (.ref b116), .val (.ref b117), .val (.long p0.toInt64), .second, .val (.long p1.toInt64), .second] [(.int (3 : Int32)), (.int (4 : Int32)), (.int v31), (.int ta), (.ref b116)]))
    refine own_up (fun _ kq => XS.lload X153.here hx rfl (hb hby at_999) rfl kq) ?_
    show own_Go p.tables e below _ (T153.setTop (mkF m 1001 #[.val (.int p0), .val (.int p1), .val (.int p2), .val (.int p3), .val (.int p4), .val (.int p5), .val (.int (3 : Int32)), .val (.int ra), .val (.int v19), .val (.int v31), .val (.int ta), .val (.int bs), .val (.int bq), .val (.int tb), .val (.ref b5), .val (.ref b55), .val (.ref b116), .val (.ref b117), .val (.long p0.toInt64), .second, .val (.long p1.toInt64), .second] [(.long p0.toInt64), (.int (3 : Int32)), (.int (4 : Int32)), (.int v31), (.int ta), (.ref b116)]))
    refine own_up (fun _ kq => XS.lload X153.here hx rfl (hb hby at_1001) rfl kq) ?_
    show own_Go p.tables e below _ (T153.setTop (mkF m 1003 #[.val (.int p0), .val (.int p1), .val (.int p2), .val (.int p3), .val (.int p4), .val (.int p5), .val (.int (3 : Int32)), .val (.int ra), .val (.int v19), .val (.int v31), .val (.int ta), .val (.int bs), .val (.int bq), .val (.int tb), .val (.ref b5), .val (.ref b55), .val (.ref b116), .val (.ref b117), .val (.long p0.toInt64), .second, .val (.long p1.toInt64), .second] [(.long p1.toInt64), (.long p0.toInt64), (.int (3 : Int32)), (.int (4 : Int32)), (.int v31), (.int ta), (.ref b116)]))
    refine own_up (fun _ kq => XS.iload X153.here hx rfl (hb hby at_1003) rfl kq) ?_
    show own_Go p.tables e below _ (T153.setTop (mkF m 1005 #[.val (.int p0), .val (.int p1), .val (.int p2), .val (.int p3), .val (.int p4), .val (.int p5), .val (.int (3 : Int32)), .val (.int ra), .val (.int v19), .val (.int v31), .val (.int ta), .val (.int bs), .val (.int bq), .val (.int tb), .val (.ref b5), .val (.ref b55), .val (.ref b116), .val (.ref b117), .val (.long p0.toInt64), .second, .val (.long p1.toInt64), .second] [(.int tb), (.long p1.toInt64), (.long p0.toInt64), (.int (3 : Int32)), (.int (4 : Int32)), (.int v31), (.int ta), (.ref b116)]))
    refine own_up (fun _ kq => XS.iload X153.here hx rfl (hb hby at_1005) rfl kq) ?_
    show own_Go p.tables e below _ (T153.setTop (mkF m 1007 #[.val (.int p0), .val (.int p1), .val (.int p2), .val (.int p3), .val (.int p4), .val (.int p5), .val (.int (3 : Int32)), .val (.int ra), .val (.int v19), .val (.int v31), .val (.int ta), .val (.int bs), .val (.int bq), .val (.int tb), .val (.ref b5), .val (.ref b55), .val (.ref b116), .val (.ref b117), .val (.long p0.toInt64), .second, .val (.long p1.toInt64), .second] [(.int bs), (.int tb), (.long p1.toInt64), (.long p0.toInt64), (.int (3 : Int32)), (.int (4 : Int32)), (.int v31), (.int ta), (.ref b116)]))
    refine own_up (fun _ kq => XS.iload X153.here hx rfl (hb hby at_1007) rfl kq) ?_
    show own_Go p.tables e below _ (T153.setTop (mkF m 1009 #[.val (.int p0), .val (.int p1), .val (.int p2), .val (.int p3), .val (.int p4), .val (.int p5), .val (.int (3 : Int32)), .val (.int ra), .val (.int v19), .val (.int v31), .val (.int ta), .val (.int bs), .val (.int bq), .val (.int tb), .val (.ref b5), .val (.ref b55), .val (.ref b116), .val (.ref b117), .val (.long p0.toInt64), .second, .val (.long p1.toInt64), .second] [(.int bq), (.int bs), (.int tb), (.long p1.toInt64), (.long p0.toInt64), (.int (3 : Int32)), (.int (4 : Int32)), (.int v31), (.int ta), (.ref b116)]))
    obtain ⟨_, _, ⟨T154, L154, k154, n154⟩, -, X154, ⟨Lc154, hQ154, l154, y154, z154⟩, st154⟩ := Jvm.LawKit.callS X153 hx (y := (⟨"com/example/indexica/indexica/ScaledSumEightRowsPinLaw", "row", "([DIIIIJJIII)Z"⟩ : MethodName)) hown (mvT hZ (hw _ (List.mem_of_getElem? (i := 131) rfl))) (mvT hZ (hw _ (List.mem_of_getElem? (i := 132) rfl))) (mvT hZ (hw _ (List.mem_of_getElem? (i := 133) rfl))) (mvT hZ (hw _ (List.mem_of_getElem? (i := 134) rfl))) (by decide) (backOf (W := 0) (rmW l Z a0 hw [] b116 ta v31 (4 : Int32) (3 : Int32) p0.toInt64 p1.toInt64 tb bs bq (own_U 3 p0 p1 ta v31 tb bs bq) T149.heap n0 ZH G_b116 (own_ok 3 (by decide) p0 p1 HB rfl (0 : Int32) (4 : Int32) (by decide) (by decide)) (own_ok 3 (by decide) p0 p1 HB rfl (1 : Int32) (4 : Int32) (by decide) (by decide)) (own_ok 3 (by decide) p0 p1 HB rfl (2 : Int32) (4 : Int32) (by decide) (by decide))) hZ (hw _ (List.mem_of_getElem? (i := 134) rfl)) (hw _ (List.mem_of_getElem? (i := 133) rfl)) (by decide) (by decide)) (g := (mkF m 1009 #[.val (.int p0), .val (.int p1), .val (.int p2), .val (.int p3), .val (.int p4), .val (.int p5), .val (.int (3 : Int32)), .val (.int ra), .val (.int v19), .val (.int v31), .val (.int ta), .val (.int bs), .val (.int bq), .val (.int tb), .val (.ref b5), .val (.ref b55), .val (.ref b116), .val (.ref b117), .val (.long p0.toInt64), .second, .val (.long p1.toInt64), .second] [(.int bq), (.int bs), (.int tb), (.long p1.toInt64), (.long p0.toInt64), (.int (3 : Int32)), (.int (4 : Int32)), (.int v31), (.int ta), (.ref b116)])) rfl (by rw [hml]; rfl) (argsL := [(.ref b116), (.int ta), (.int v31), (.int (4 : Int32)), (.int (3 : Int32)), (.long p0.toInt64), (.long p1.toInt64), (.int tb), (.int bs), (.int bq)]) (rest := []) (lenOf pd_4 rfl) rfl (by show 2 * 0 + _ ≤ _; exact Nat.le_of_eq rfl) (hb hby at_1009) (fun _ _ => ⟨rfl, e153, (by decide : 4 + 0 ≤ _), (by decide : 158 + 0 ≤ _)⟩)
    dsimp only [Pt.U, Pt.locs, Pt.cells, Pt.slots] at X154 l154 y154 z154 st154 hQ154
    subst l154 y154 z154
    obtain ⟨rfl, Nq154, e154⟩ := hQ154
    have N154 := Fr.app N153 Nq154
    refine own_up st154 ?_
    show own_Go p.tables e below _ (T154.setTop (mkF m 1012 #[.val (.int p0), .val (.int p1), .val (.int p2), .val (.int p3), .val (.int p4), .val (.int p5), .val (.int (3 : Int32)), .val (.int ra), .val (.int v19), .val (.int v31), .val (.int ta), .val (.int bs), .val (.int bq), .val (.int tb), .val (.ref b5), .val (.ref b55), .val (.ref b116), .val (.ref b117), .val (.long p0.toInt64), .second, .val (.long p1.toInt64), .second] [(.int (1 : Int32))]))
    refine own_up (fun _ kq => XS.ifNo X154.here hx rfl (hb hby at_1012) rfl ((if0 _ _).trans (feq (by decide : ¬ ((1 : Int32) = (0 : Int32)))).1) kq) ?_
    show own_Go p.tables e below _ (T154.setTop (mkF m 1015 #[.val (.int p0), .val (.int p1), .val (.int p2), .val (.int p3), .val (.int p4), .val (.int p5), .val (.int (3 : Int32)), .val (.int ra), .val (.int v19), .val (.int v31), .val (.int ta), .val (.int bs), .val (.int bq), .val (.int tb), .val (.ref b5), .val (.ref b55), .val (.ref b116), .val (.ref b117), .val (.long p0.toInt64), .second, .val (.long p1.toInt64), .second] []))
    refine own_up (fun _ kq => XS.aload X154.here hx rfl (hb hby at_1015) rfl rfl kq) ?_
    show own_Go p.tables e below _ (T154.setTop (mkF m 1017 #[.val (.int p0), .val (.int p1), .val (.int p2), .val (.int p3), .val (.int p4), .val (.int p5), .val (.int (3 : Int32)), .val (.int ra), .val (.int v19), .val (.int v31), .val (.int ta), .val (.int bs), .val (.int bq), .val (.int tb), .val (.ref b5), .val (.ref b55), .val (.ref b116), .val (.ref b117), .val (.long p0.toInt64), .second, .val (.long p1.toInt64), .second] [(.ref b116)]))
    refine own_up (fun _ kq => XS.iload X154.here hx rfl (hb hby at_1017) rfl kq) ?_
    show own_Go p.tables e below _ (T154.setTop (mkF m 1019 #[.val (.int p0), .val (.int p1), .val (.int p2), .val (.int p3), .val (.int p4), .val (.int p5), .val (.int (3 : Int32)), .val (.int ra), .val (.int v19), .val (.int v31), .val (.int ta), .val (.int bs), .val (.int bq), .val (.int tb), .val (.ref b5), .val (.ref b55), .val (.ref b116), .val (.ref b117), .val (.long p0.toInt64), .second, .val (.long p1.toInt64), .second] [(.int ta), (.ref b116)]))
    refine own_up (fun _ kq => XS.iload X154.here hx rfl (hb hby at_1019) rfl kq) ?_
    show own_Go p.tables e below _ (T154.setTop (mkF m 1021 #[.val (.int p0), .val (.int p1), .val (.int p2), .val (.int p3), .val (.int p4), .val (.int p5), .val (.int (3 : Int32)), .val (.int ra), .val (.int v19), .val (.int v31), .val (.int ta), .val (.int bs), .val (.int bq), .val (.int tb), .val (.ref b5), .val (.ref b55), .val (.ref b116), .val (.ref b117), .val (.long p0.toInt64), .second, .val (.long p1.toInt64), .second] [(.int v31), (.int ta), (.ref b116)]))
    refine own_up (fun _ kq => XS.iconst X154.here hx rfl (hb hby at_1021) kq) ?_
    show own_Go p.tables e below _ (T154.setTop (mkF m 1022 #[.val (.int p0), .val (.int p1), .val (.int p2), .val (.int p3), .val (.int p4), .val (.int p5), .val (.int (3 : Int32)), .val (.int ra), .val (.int v19), .val (.int v31), .val (.int ta), .val (.int bs), .val (.int bq), .val (.int tb), .val (.ref b5), .val (.ref b55), .val (.ref b116), .val (.ref b117), .val (.long p0.toInt64), .second, .val (.long p1.toInt64), .second] [(.int (5 : Int32)), (.int v31), (.int ta), (.ref b116)]))
    refine own_up (fun _ kq => XS.iload X154.here hx rfl (hb hby at_1022) rfl kq) ?_
    show own_Go p.tables e below _ (T154.setTop (mkF m 1024 #[.val (.int p0), .val (.int p1), .val (.int p2), .val (.int p3), .val (.int p4), .val (.int p5), .val (.int (3 : Int32)), .val (.int ra), .val (.int v19), .val (.int v31), .val (.int ta), .val (.int bs), .val (.int bq), .val (.int tb), .val (.ref b5), .val (.ref b55), .val (.ref b116), .val (.ref b117), .val (.long p0.toInt64), .second, .val (.long p1.toInt64), .second] [(.int (3 : Int32)), (.int (5 : Int32)), (.int v31), (.int ta), (.ref b116)]))
    refine own_up (fun _ kq => XS.lload X154.here hx rfl (hb hby at_1024) rfl kq) ?_
    show own_Go p.tables e below _ (T154.setTop (mkF m 1026 #[.val (.int p0), .val (.int p1), .val (.int p2), .val (.int p3), .val (.int p4), .val (.int p5), .val (.int (3 : Int32)), .val (.int ra), .val (.int v19), .val (.int v31), .val (.int ta), .val (.int bs), .val (.int bq), .val (.int tb), .val (.ref b5), .val (.ref b55), .val (.ref b116), .val (.ref b117), .val (.long p0.toInt64), .second, .val (.long p1.toInt64), .second] [(.long p0.toInt64), (.int (3 : Int32)), (.int (5 : Int32)), (.int v31), (.int ta), (.ref b116)]))
    refine own_up (fun _ kq => XS.lload X154.here hx rfl (hb hby at_1026) rfl kq) ?_
    show own_Go p.tables e below _ (T154.setTop (mkF m 1028 #[.val (.int p0), .val (.int p1), .val (.int p2), .val (.int p3), .val (.int p4), .val (.int p5), .val (.int (3 : Int32)), .val (.int ra), .val (.int v19), .val (.int v31), .val (.int ta), .val (.int bs), .val (.int bq), .val (.int tb), .val (.ref b5), .val (.ref b55), .val (.ref b116), .val (.ref b117), .val (.long p0.toInt64), .second, .val (.long p1.toInt64), .second] [(.long p1.toInt64), (.long p0.toInt64), (.int (3 : Int32)), (.int (5 : Int32)), (.int v31), (.int ta), (.ref b116)]))
    refine own_up (fun _ kq => XS.iload X154.here hx rfl (hb hby at_1028) rfl kq) ?_
    show own_Go p.tables e below _ (T154.setTop (mkF m 1030 #[.val (.int p0), .val (.int p1), .val (.int p2), .val (.int p3), .val (.int p4), .val (.int p5), .val (.int (3 : Int32)), .val (.int ra), .val (.int v19), .val (.int v31), .val (.int ta), .val (.int bs), .val (.int bq), .val (.int tb), .val (.ref b5), .val (.ref b55), .val (.ref b116), .val (.ref b117), .val (.long p0.toInt64), .second, .val (.long p1.toInt64), .second] [(.int tb), (.long p1.toInt64), (.long p0.toInt64), (.int (3 : Int32)), (.int (5 : Int32)), (.int v31), (.int ta), (.ref b116)]))
    refine own_up (fun _ kq => XS.iload X154.here hx rfl (hb hby at_1030) rfl kq) ?_
    show own_Go p.tables e below _ (T154.setTop (mkF m 1032 #[.val (.int p0), .val (.int p1), .val (.int p2), .val (.int p3), .val (.int p4), .val (.int p5), .val (.int (3 : Int32)), .val (.int ra), .val (.int v19), .val (.int v31), .val (.int ta), .val (.int bs), .val (.int bq), .val (.int tb), .val (.ref b5), .val (.ref b55), .val (.ref b116), .val (.ref b117), .val (.long p0.toInt64), .second, .val (.long p1.toInt64), .second] [(.int bs), (.int tb), (.long p1.toInt64), (.long p0.toInt64), (.int (3 : Int32)), (.int (5 : Int32)), (.int v31), (.int ta), (.ref b116)]))
    refine own_up (fun _ kq => XS.iload X154.here hx rfl (hb hby at_1032) rfl kq) ?_
    show own_Go p.tables e below _ (T154.setTop (mkF m 1034 #[.val (.int p0), .val (.int p1), .val (.int p2), .val (.int p3), .val (.int p4), .val (.int p5), .val (.int (3 : Int32)), .val (.int ra), .val (.int v19), .val (.int v31), .val (.int ta), .val (.int bs), .val (.int bq), .val (.int tb), .val (.ref b5), .val (.ref b55), .val (.ref b116), .val (.ref b117), .val (.long p0.toInt64), .second, .val (.long p1.toInt64), .second] [(.int bq), (.int bs), (.int tb), (.long p1.toInt64), (.long p0.toInt64), (.int (3 : Int32)), (.int (5 : Int32)), (.int v31), (.int ta), (.ref b116)]))
    obtain ⟨_, _, ⟨T155, L155, k155, n155⟩, -, X155, ⟨Lc155, hQ155, l155, y155, z155⟩, st155⟩ := Jvm.LawKit.callS X154 hx (y := (⟨"com/example/indexica/indexica/ScaledSumEightRowsPinLaw", "row", "([DIIIIJJIII)Z"⟩ : MethodName)) hown (mvT hZ (hw _ (List.mem_of_getElem? (i := 131) rfl))) (mvT hZ (hw _ (List.mem_of_getElem? (i := 132) rfl))) (mvT hZ (hw _ (List.mem_of_getElem? (i := 133) rfl))) (mvT hZ (hw _ (List.mem_of_getElem? (i := 134) rfl))) (by decide) (backOf (W := 0) (rmW l Z a0 hw [] b116 ta v31 (5 : Int32) (3 : Int32) p0.toInt64 p1.toInt64 tb bs bq (own_U 3 p0 p1 ta v31 tb bs bq) T149.heap n0 ZH G_b116 (own_ok 3 (by decide) p0 p1 HB rfl (0 : Int32) (5 : Int32) (by decide) (by decide)) (own_ok 3 (by decide) p0 p1 HB rfl (1 : Int32) (5 : Int32) (by decide) (by decide)) (own_ok 3 (by decide) p0 p1 HB rfl (2 : Int32) (5 : Int32) (by decide) (by decide))) hZ (hw _ (List.mem_of_getElem? (i := 134) rfl)) (hw _ (List.mem_of_getElem? (i := 133) rfl)) (by decide) (by decide)) (g := (mkF m 1034 #[.val (.int p0), .val (.int p1), .val (.int p2), .val (.int p3), .val (.int p4), .val (.int p5), .val (.int (3 : Int32)), .val (.int ra), .val (.int v19), .val (.int v31), .val (.int ta), .val (.int bs), .val (.int bq), .val (.int tb), .val (.ref b5), .val (.ref b55), .val (.ref b116), .val (.ref b117), .val (.long p0.toInt64), .second, .val (.long p1.toInt64), .second] [(.int bq), (.int bs), (.int tb), (.long p1.toInt64), (.long p0.toInt64), (.int (3 : Int32)), (.int (5 : Int32)), (.int v31), (.int ta), (.ref b116)])) rfl (by rw [hml]; rfl) (argsL := [(.ref b116), (.int ta), (.int v31), (.int (5 : Int32)), (.int (3 : Int32)), (.long p0.toInt64), (.long p1.toInt64), (.int tb), (.int bs), (.int bq)]) (rest := []) (lenOf pd_4 rfl) rfl (by show 2 * 0 + _ ≤ _; exact Nat.le_of_eq rfl) (hb hby at_1034) (fun _ _ => ⟨rfl, e154, (by decide : 4 + 0 ≤ _), (by decide : 158 + 0 ≤ _)⟩)
    dsimp only [Pt.U, Pt.locs, Pt.cells, Pt.slots] at X155 l155 y155 z155 st155 hQ155
    subst l155 y155 z155
    obtain ⟨rfl, Nq155, e155⟩ := hQ155
    have N155 := Fr.app N154 Nq155
    refine own_up st155 ?_
    show own_Go p.tables e below _ (T155.setTop (mkF m 1037 #[.val (.int p0), .val (.int p1), .val (.int p2), .val (.int p3), .val (.int p4), .val (.int p5), .val (.int (3 : Int32)), .val (.int ra), .val (.int v19), .val (.int v31), .val (.int ta), .val (.int bs), .val (.int bq), .val (.int tb), .val (.ref b5), .val (.ref b55), .val (.ref b116), .val (.ref b117), .val (.long p0.toInt64), .second, .val (.long p1.toInt64), .second] [(.int (1 : Int32))]))
    refine own_up (fun _ kq => XS.ifNo X155.here hx rfl (hb hby at_1037) rfl ((if0 _ _).trans (feq (by decide : ¬ ((1 : Int32) = (0 : Int32)))).1) kq) ?_
    show own_Go p.tables e below _ (T155.setTop (mkF m 1040 #[.val (.int p0), .val (.int p1), .val (.int p2), .val (.int p3), .val (.int p4), .val (.int p5), .val (.int (3 : Int32)), .val (.int ra), .val (.int v19), .val (.int v31), .val (.int ta), .val (.int bs), .val (.int bq), .val (.int tb), .val (.ref b5), .val (.ref b55), .val (.ref b116), .val (.ref b117), .val (.long p0.toInt64), .second, .val (.long p1.toInt64), .second] []))
    refine own_up (fun _ kq => XS.aload X155.here hx rfl (hb hby at_1040) rfl rfl kq) ?_
    show own_Go p.tables e below _ (T155.setTop (mkF m 1042 #[.val (.int p0), .val (.int p1), .val (.int p2), .val (.int p3), .val (.int p4), .val (.int p5), .val (.int (3 : Int32)), .val (.int ra), .val (.int v19), .val (.int v31), .val (.int ta), .val (.int bs), .val (.int bq), .val (.int tb), .val (.ref b5), .val (.ref b55), .val (.ref b116), .val (.ref b117), .val (.long p0.toInt64), .second, .val (.long p1.toInt64), .second] [(.ref b116)]))
    refine own_up (fun _ kq => XS.iload X155.here hx rfl (hb hby at_1042) rfl kq) ?_
    show own_Go p.tables e below _ (T155.setTop (mkF m 1044 #[.val (.int p0), .val (.int p1), .val (.int p2), .val (.int p3), .val (.int p4), .val (.int p5), .val (.int (3 : Int32)), .val (.int ra), .val (.int v19), .val (.int v31), .val (.int ta), .val (.int bs), .val (.int bq), .val (.int tb), .val (.ref b5), .val (.ref b55), .val (.ref b116), .val (.ref b117), .val (.long p0.toInt64), .second, .val (.long p1.toInt64), .second] [(.int ta), (.ref b116)]))
    refine own_up (fun _ kq => XS.iload X155.here hx rfl (hb hby at_1044) rfl kq) ?_
    show own_Go p.tables e below _ (T155.setTop (mkF m 1046 #[.val (.int p0), .val (.int p1), .val (.int p2), .val (.int p3), .val (.int p4), .val (.int p5), .val (.int (3 : Int32)), .val (.int ra), .val (.int v19), .val (.int v31), .val (.int ta), .val (.int bs), .val (.int bq), .val (.int tb), .val (.ref b5), .val (.ref b55), .val (.ref b116), .val (.ref b117), .val (.long p0.toInt64), .second, .val (.long p1.toInt64), .second] [(.int v31), (.int ta), (.ref b116)]))
    refine own_up (fun _ kq => XS.bipush X155.here hx rfl (hb hby at_1046) kq) ?_
    show own_Go p.tables e below _ (T155.setTop (mkF m 1048 #[.val (.int p0), .val (.int p1), .val (.int p2), .val (.int p3), .val (.int p4), .val (.int p5), .val (.int (3 : Int32)), .val (.int ra), .val (.int v19), .val (.int v31), .val (.int ta), .val (.int bs), .val (.int bq), .val (.int tb), .val (.ref b5), .val (.ref b55), .val (.ref b116), .val (.ref b117), .val (.long p0.toInt64), .second, .val (.long p1.toInt64), .second] [(.int (6 : Int32)), (.int v31), (.int ta), (.ref b116)]))
    refine own_up (fun _ kq => XS.iload X155.here hx rfl (hb hby at_1048) rfl kq) ?_
    show own_Go p.tables e below _ (T155.setTop (mkF m 1050 #[.val (.int p0), .val (.int p1), .val (.int p2), .val (.int p3), .val (.int p4), .val (.int p5), .val (.int (3 : Int32)), .val (.int ra), .val (.int v19), .val (.int v31), .val (.int ta), .val (.int bs), .val (.int bq), .val (.int tb), .val (.ref b5), .val (.ref b55), .val (.ref b116), .val (.ref b117), .val (.long p0.toInt64), .second, .val (.long p1.toInt64), .second] [(.int (3 : Int32)), (.int (6 : Int32)), (.int v31), (.int ta), (.ref b116)]))
    refine own_up (fun _ kq => XS.lload X155.here hx rfl (hb hby at_1050) rfl kq) ?_
    show own_Go p.tables e below _ (T155.setTop (mkF m 1052 #[.val (.int p0), .val (.int p1), .val (.int p2), .val (.int p3), .val (.int p4), .val (.int p5), .val (.int (3 : Int32)), .val (.int ra), .val (.int v19), .val (.int v31), .val (.int ta), .val (.int bs), .val (.int bq), .val (.int tb), .val (.ref b5), .val (.ref b55), .val (.ref b116), .val (.ref b117), .val (.long p0.toInt64), .second, .val (.long p1.toInt64), .second] [(.long p0.toInt64), (.int (3 : Int32)), (.int (6 : Int32)), (.int v31), (.int ta), (.ref b116)]))
    refine own_up (fun _ kq => XS.lload X155.here hx rfl (hb hby at_1052) rfl kq) ?_
    show own_Go p.tables e below _ (T155.setTop (mkF m 1054 #[.val (.int p0), .val (.int p1), .val (.int p2), .val (.int p3), .val (.int p4), .val (.int p5), .val (.int (3 : Int32)), .val (.int ra), .val (.int v19), .val (.int v31), .val (.int ta), .val (.int bs), .val (.int bq), .val (.int tb), .val (.ref b5), .val (.ref b55), .val (.ref b116), .val (.ref b117), .val (.long p0.toInt64), .second, .val (.long p1.toInt64), .second] [(.long p1.toInt64), (.long p0.toInt64), (.int (3 : Int32)), (.int (6 : Int32)), (.int v31), (.int ta), (.ref b116)]))
    refine own_up (fun _ kq => XS.iload X155.here hx rfl (hb hby at_1054) rfl kq) ?_
    show own_Go p.tables e below _ (T155.setTop (mkF m 1056 #[.val (.int p0), .val (.int p1), .val (.int p2), .val (.int p3), .val (.int p4), .val (.int p5), .val (.int (3 : Int32)), .val (.int ra), .val (.int v19), .val (.int v31), .val (.int ta), .val (.int bs), .val (.int bq), .val (.int tb), .val (.ref b5), .val (.ref b55), .val (.ref b116), .val (.ref b117), .val (.long p0.toInt64), .second, .val (.long p1.toInt64), .second] [(.int tb), (.long p1.toInt64), (.long p0.toInt64), (.int (3 : Int32)), (.int (6 : Int32)), (.int v31), (.int ta), (.ref b116)]))
    refine own_up (fun _ kq => XS.iload X155.here hx rfl (hb hby at_1056) rfl kq) ?_
    show own_Go p.tables e below _ (T155.setTop (mkF m 1058 #[.val (.int p0), .val (.int p1), .val (.int p2), .val (.int p3), .val (.int p4), .val (.int p5), .val (.int (3 : Int32)), .val (.int ra), .val (.int v19), .val (.int v31), .val (.int ta), .val (.int bs), .val (.int bq), .val (.int tb), .val (.ref b5), .val (.ref b55), .val (.ref b116), .val (.ref b117), .val (.long p0.toInt64), .second, .val (.long p1.toInt64), .second] [(.int bs), (.int tb), (.long p1.toInt64), (.long p0.toInt64), (.int (3 : Int32)), (.int (6 : Int32)), (.int v31), (.int ta), (.ref b116)]))
    refine own_up (fun _ kq => XS.iload X155.here hx rfl (hb hby at_1058) rfl kq) ?_
    show own_Go p.tables e below _ (T155.setTop (mkF m 1060 #[.val (.int p0), .val (.int p1), .val (.int p2), .val (.int p3), .val (.int p4), .val (.int p5), .val (.int (3 : Int32)), .val (.int ra), .val (.int v19), .val (.int v31), .val (.int ta), .val (.int bs), .val (.int bq), .val (.int tb), .val (.ref b5), .val (.ref b55), .val (.ref b116), .val (.ref b117), .val (.long p0.toInt64), .second, .val (.long p1.toInt64), .second] [(.int bq), (.int bs), (.int tb), (.long p1.toInt64), (.long p0.toInt64), (.int (3 : Int32)), (.int (6 : Int32)), (.int v31), (.int ta), (.ref b116)]))
    obtain ⟨_, _, ⟨T156, L156, k156, n156⟩, -, X156, ⟨Lc156, hQ156, l156, y156, z156⟩, st156⟩ := Jvm.LawKit.callS X155 hx (y := (⟨"com/example/indexica/indexica/ScaledSumEightRowsPinLaw", "row", "([DIIIIJJIII)Z"⟩ : MethodName)) hown (mvT hZ (hw _ (List.mem_of_getElem? (i := 131) rfl))) (mvT hZ (hw _ (List.mem_of_getElem? (i := 132) rfl))) (mvT hZ (hw _ (List.mem_of_getElem? (i := 133) rfl))) (mvT hZ (hw _ (List.mem_of_getElem? (i := 134) rfl))) (by decide) (backOf (W := 0) (rmW l Z a0 hw [] b116 ta v31 (6 : Int32) (3 : Int32) p0.toInt64 p1.toInt64 tb bs bq (own_U 3 p0 p1 ta v31 tb bs bq) T149.heap n0 ZH G_b116 (own_ok 3 (by decide) p0 p1 HB rfl (0 : Int32) (6 : Int32) (by decide) (by decide)) (own_ok 3 (by decide) p0 p1 HB rfl (1 : Int32) (6 : Int32) (by decide) (by decide)) (own_ok 3 (by decide) p0 p1 HB rfl (2 : Int32) (6 : Int32) (by decide) (by decide))) hZ (hw _ (List.mem_of_getElem? (i := 134) rfl)) (hw _ (List.mem_of_getElem? (i := 133) rfl)) (by decide) (by decide)) (g := (mkF m 1060 #[.val (.int p0), .val (.int p1), .val (.int p2), .val (.int p3), .val (.int p4), .val (.int p5), .val (.int (3 : Int32)), .val (.int ra), .val (.int v19), .val (.int v31), .val (.int ta), .val (.int bs), .val (.int bq), .val (.int tb), .val (.ref b5), .val (.ref b55), .val (.ref b116), .val (.ref b117), .val (.long p0.toInt64), .second, .val (.long p1.toInt64), .second] [(.int bq), (.int bs), (.int tb), (.long p1.toInt64), (.long p0.toInt64), (.int (3 : Int32)), (.int (6 : Int32)), (.int v31), (.int ta), (.ref b116)])) rfl (by rw [hml]; rfl) (argsL := [(.ref b116), (.int ta), (.int v31), (.int (6 : Int32)), (.int (3 : Int32)), (.long p0.toInt64), (.long p1.toInt64), (.int tb), (.int bs), (.int bq)]) (rest := []) (lenOf pd_4 rfl) rfl (by show 2 * 0 + _ ≤ _; exact Nat.le_of_eq rfl) (hb hby at_1060) (fun _ _ => ⟨rfl, e155, (by decide : 4 + 0 ≤ _), (by decide : 158 + 0 ≤ _)⟩)
    dsimp only [Pt.U, Pt.locs, Pt.cells, Pt.slots] at X156 l156 y156 z156 st156 hQ156
    subst l156 y156 z156
    obtain ⟨rfl, Nq156, e156⟩ := hQ156
    have N156 := Fr.app N155 Nq156
    refine own_up st156 ?_
    show own_Go p.tables e below _ (T156.setTop (mkF m 1063 #[.val (.int p0), .val (.int p1), .val (.int p2), .val (.int p3), .val (.int p4), .val (.int p5), .val (.int (3 : Int32)), .val (.int ra), .val (.int v19), .val (.int v31), .val (.int ta), .val (.int bs), .val (.int bq), .val (.int tb), .val (.ref b5), .val (.ref b55), .val (.ref b116), .val (.ref b117), .val (.long p0.toInt64), .second, .val (.long p1.toInt64), .second] [(.int (1 : Int32))]))
    refine own_up (fun _ kq => XS.ifNo X156.here hx rfl (hb hby at_1063) rfl ((if0 _ _).trans (feq (by decide : ¬ ((1 : Int32) = (0 : Int32)))).1) kq) ?_
    show own_Go p.tables e below _ (T156.setTop (mkF m 1066 #[.val (.int p0), .val (.int p1), .val (.int p2), .val (.int p3), .val (.int p4), .val (.int p5), .val (.int (3 : Int32)), .val (.int ra), .val (.int v19), .val (.int v31), .val (.int ta), .val (.int bs), .val (.int bq), .val (.int tb), .val (.ref b5), .val (.ref b55), .val (.ref b116), .val (.ref b117), .val (.long p0.toInt64), .second, .val (.long p1.toInt64), .second] []))
    refine own_up (fun _ kq => XS.aload X156.here hx rfl (hb hby at_1066) rfl rfl kq) ?_
    show own_Go p.tables e below _ (T156.setTop (mkF m 1068 #[.val (.int p0), .val (.int p1), .val (.int p2), .val (.int p3), .val (.int p4), .val (.int p5), .val (.int (3 : Int32)), .val (.int ra), .val (.int v19), .val (.int v31), .val (.int ta), .val (.int bs), .val (.int bq), .val (.int tb), .val (.ref b5), .val (.ref b55), .val (.ref b116), .val (.ref b117), .val (.long p0.toInt64), .second, .val (.long p1.toInt64), .second] [(.ref b116)]))
    refine own_up (fun _ kq => XS.iload X156.here hx rfl (hb hby at_1068) rfl kq) ?_
    show own_Go p.tables e below _ (T156.setTop (mkF m 1070 #[.val (.int p0), .val (.int p1), .val (.int p2), .val (.int p3), .val (.int p4), .val (.int p5), .val (.int (3 : Int32)), .val (.int ra), .val (.int v19), .val (.int v31), .val (.int ta), .val (.int bs), .val (.int bq), .val (.int tb), .val (.ref b5), .val (.ref b55), .val (.ref b116), .val (.ref b117), .val (.long p0.toInt64), .second, .val (.long p1.toInt64), .second] [(.int ta), (.ref b116)]))
    refine own_up (fun _ kq => XS.iload X156.here hx rfl (hb hby at_1070) rfl kq) ?_
    show own_Go p.tables e below _ (T156.setTop (mkF m 1072 #[.val (.int p0), .val (.int p1), .val (.int p2), .val (.int p3), .val (.int p4), .val (.int p5), .val (.int (3 : Int32)), .val (.int ra), .val (.int v19), .val (.int v31), .val (.int ta), .val (.int bs), .val (.int bq), .val (.int tb), .val (.ref b5), .val (.ref b55), .val (.ref b116), .val (.ref b117), .val (.long p0.toInt64), .second, .val (.long p1.toInt64), .second] [(.int v31), (.int ta), (.ref b116)]))
    refine own_up (fun _ kq => XS.bipush X156.here hx rfl (hb hby at_1072) kq) ?_
    show own_Go p.tables e below _ (T156.setTop (mkF m 1074 #[.val (.int p0), .val (.int p1), .val (.int p2), .val (.int p3), .val (.int p4), .val (.int p5), .val (.int (3 : Int32)), .val (.int ra), .val (.int v19), .val (.int v31), .val (.int ta), .val (.int bs), .val (.int bq), .val (.int tb), .val (.ref b5), .val (.ref b55), .val (.ref b116), .val (.ref b117), .val (.long p0.toInt64), .second, .val (.long p1.toInt64), .second] [(.int (7 : Int32)), (.int v31), (.int ta), (.ref b116)]))
    refine own_up (fun _ kq => XS.iload X156.here hx rfl (hb hby at_1074) rfl kq) ?_
    show own_Go p.tables e below _ (T156.setTop (mkF m 1076 #[.val (.int p0), .val (.int p1), .val (.int p2), .val (.int p3), .val (.int p4), .val (.int p5), .val (.int (3 : Int32)), .val (.int ra), .val (.int v19), .val (.int v31), .val (.int ta), .val (.int bs), .val (.int bq), .val (.int tb), .val (.ref b5), .val (.ref b55), .val (.ref b116), .val (.ref b117), .val (.long p0.toInt64), .second, .val (.long p1.toInt64), .second] [(.int (3 : Int32)), (.int (7 : Int32)), (.int v31), (.int ta), (.ref b116)]))
    refine own_up (fun _ kq => XS.lload X156.here hx rfl (hb hby at_1076) rfl kq) ?_
    show own_Go p.tables e below _ (T156.setTop (mkF m 1078 #[.val (.int p0), .val (.int p1), .val (.int p2), .val (.int p3), .val (.int p4), .val (.int p5), .val (.int (3 : Int32)), .val (.int ra), .val (.int v19), .val (.int v31), .val (.int ta), .val (.int bs), .val (.int bq), .val (.int tb), .val (.ref b5), .val (.ref b55), .val (.ref b116), .val (.ref b117), .val (.long p0.toInt64), .second, .val (.long p1.toInt64), .second] [(.long p0.toInt64), (.int (3 : Int32)), (.int (7 : Int32)), (.int v31), (.int ta), (.ref b116)]))
    refine own_up (fun _ kq => XS.lload X156.here hx rfl (hb hby at_1078) rfl kq) ?_
    show own_Go p.tables e below _ (T156.setTop (mkF m 1080 #[.val (.int p0), .val (.int p1), .val (.int p2), .val (.int p3), .val (.int p4), .val (.int p5), .val (.int (3 : Int32)), .val (.int ra), .val (.int v19), .val (.int v31), .val (.int ta), .val (.int bs), .val (.int bq), .val (.int tb), .val (.ref b5), .val (.ref b55), .val (.ref b116), .val (.ref b117), .val (.long p0.toInt64), .second, .val (.long p1.toInt64), .second] [(.long p1.toInt64), (.long p0.toInt64), (.int (3 : Int32)), (.int (7 : Int32)), (.int v31), (.int ta), (.ref b116)]))
    refine own_up (fun _ kq => XS.iload X156.here hx rfl (hb hby at_1080) rfl kq) ?_
    show own_Go p.tables e below _ (T156.setTop (mkF m 1082 #[.val (.int p0), .val (.int p1), .val (.int p2), .val (.int p3), .val (.int p4), .val (.int p5), .val (.int (3 : Int32)), .val (.int ra), .val (.int v19), .val (.int v31), .val (.int ta), .val (.int bs), .val (.int bq), .val (.int tb), .val (.ref b5), .val (.ref b55), .val (.ref b116), .val (.ref b117), .val (.long p0.toInt64), .second, .val (.long p1.toInt64), .second] [(.int tb), (.long p1.toInt64), (.long p0.toInt64), (.int (3 : Int32)), (.int (7 : Int32)), (.int v31), (.int ta), (.ref b116)]))
    refine own_up (fun _ kq => XS.iload X156.here hx rfl (hb hby at_1082) rfl kq) ?_
    show own_Go p.tables e below _ (T156.setTop (mkF m 1084 #[.val (.int p0), .val (.int p1), .val (.int p2), .val (.int p3), .val (.int p4), .val (.int p5), .val (.int (3 : Int32)), .val (.int ra), .val (.int v19), .val (.int v31), .val (.int ta), .val (.int bs), .val (.int bq), .val (.int tb), .val (.ref b5), .val (.ref b55), .val (.ref b116), .val (.ref b117), .val (.long p0.toInt64), .second, .val (.long p1.toInt64), .second] [(.int bs), (.int tb), (.long p1.toInt64), (.long p0.toInt64), (.int (3 : Int32)), (.int (7 : Int32)), (.int v31), (.int ta), (.ref b116)]))
    refine own_up (fun _ kq => XS.iload X156.here hx rfl (hb hby at_1084) rfl kq) ?_
    show own_Go p.tables e below _ (T156.setTop (mkF m 1086 #[.val (.int p0), .val (.int p1), .val (.int p2), .val (.int p3), .val (.int p4), .val (.int p5), .val (.int (3 : Int32)), .val (.int ra), .val (.int v19), .val (.int v31), .val (.int ta), .val (.int bs), .val (.int bq), .val (.int tb), .val (.ref b5), .val (.ref b55), .val (.ref b116), .val (.ref b117), .val (.long p0.toInt64), .second, .val (.long p1.toInt64), .second] [(.int bq), (.int bs), (.int tb), (.long p1.toInt64), (.long p0.toInt64), (.int (3 : Int32)), (.int (7 : Int32)), (.int v31), (.int ta), (.ref b116)]))
    obtain ⟨_, _, ⟨T157, L157, k157, n157⟩, -, X157, ⟨Lc157, hQ157, l157, y157, z157⟩, st157⟩ := Jvm.LawKit.callS X156 hx (y := (⟨"com/example/indexica/indexica/ScaledSumEightRowsPinLaw", "row", "([DIIIIJJIII)Z"⟩ : MethodName)) hown (mvT hZ (hw _ (List.mem_of_getElem? (i := 131) rfl))) (mvT hZ (hw _ (List.mem_of_getElem? (i := 132) rfl))) (mvT hZ (hw _ (List.mem_of_getElem? (i := 133) rfl))) (mvT hZ (hw _ (List.mem_of_getElem? (i := 134) rfl))) (by decide) (backOf (W := 0) (rmW l Z a0 hw [] b116 ta v31 (7 : Int32) (3 : Int32) p0.toInt64 p1.toInt64 tb bs bq (own_U 3 p0 p1 ta v31 tb bs bq) T149.heap n0 ZH G_b116 (own_ok 3 (by decide) p0 p1 HB rfl (0 : Int32) (7 : Int32) (by decide) (by decide)) (own_ok 3 (by decide) p0 p1 HB rfl (1 : Int32) (7 : Int32) (by decide) (by decide)) (own_ok 3 (by decide) p0 p1 HB rfl (2 : Int32) (7 : Int32) (by decide) (by decide))) hZ (hw _ (List.mem_of_getElem? (i := 134) rfl)) (hw _ (List.mem_of_getElem? (i := 133) rfl)) (by decide) (by decide)) (g := (mkF m 1086 #[.val (.int p0), .val (.int p1), .val (.int p2), .val (.int p3), .val (.int p4), .val (.int p5), .val (.int (3 : Int32)), .val (.int ra), .val (.int v19), .val (.int v31), .val (.int ta), .val (.int bs), .val (.int bq), .val (.int tb), .val (.ref b5), .val (.ref b55), .val (.ref b116), .val (.ref b117), .val (.long p0.toInt64), .second, .val (.long p1.toInt64), .second] [(.int bq), (.int bs), (.int tb), (.long p1.toInt64), (.long p0.toInt64), (.int (3 : Int32)), (.int (7 : Int32)), (.int v31), (.int ta), (.ref b116)])) rfl (by rw [hml]; rfl) (argsL := [(.ref b116), (.int ta), (.int v31), (.int (7 : Int32)), (.int (3 : Int32)), (.long p0.toInt64), (.long p1.toInt64), (.int tb), (.int bs), (.int bq)]) (rest := []) (lenOf pd_4 rfl) rfl (by show 2 * 0 + _ ≤ _; exact Nat.le_of_eq rfl) (hb hby at_1086) (fun _ _ => ⟨rfl, e156, (by decide : 4 + 0 ≤ _), (by decide : 158 + 0 ≤ _)⟩)
    dsimp only [Pt.U, Pt.locs, Pt.cells, Pt.slots] at X157 l157 y157 z157 st157 hQ157
    subst l157 y157 z157
    obtain ⟨rfl, Nq157, e157⟩ := hQ157
    have N157 := Fr.app N156 Nq157
    refine own_up st157 ?_
    show own_Go p.tables e below _ (T157.setTop (mkF m 1089 #[.val (.int p0), .val (.int p1), .val (.int p2), .val (.int p3), .val (.int p4), .val (.int p5), .val (.int (3 : Int32)), .val (.int ra), .val (.int v19), .val (.int v31), .val (.int ta), .val (.int bs), .val (.int bq), .val (.int tb), .val (.ref b5), .val (.ref b55), .val (.ref b116), .val (.ref b117), .val (.long p0.toInt64), .second, .val (.long p1.toInt64), .second] [(.int (1 : Int32))]))
    refine own_up (fun _ kq => XS.ifNo X157.here hx rfl (hb hby at_1089) rfl ((if0 _ _).trans (feq (by decide : ¬ ((1 : Int32) = (0 : Int32)))).1) kq) ?_
    show own_Go p.tables e below _ (T157.setTop (mkF m 1092 #[.val (.int p0), .val (.int p1), .val (.int p2), .val (.int p3), .val (.int p4), .val (.int p5), .val (.int (3 : Int32)), .val (.int ra), .val (.int v19), .val (.int v31), .val (.int ta), .val (.int bs), .val (.int bq), .val (.int tb), .val (.ref b5), .val (.ref b55), .val (.ref b116), .val (.ref b117), .val (.long p0.toInt64), .second, .val (.long p1.toInt64), .second] []))
    refine own_up (fun _ kq => XS.iconst X157.here hx rfl (hb hby at_1092) kq) ?_
    show own_Go p.tables e below _ (T157.setTop (mkF m 1093 #[.val (.int p0), .val (.int p1), .val (.int p2), .val (.int p3), .val (.int p4), .val (.int p5), .val (.int (3 : Int32)), .val (.int ra), .val (.int v19), .val (.int v31), .val (.int ta), .val (.int bs), .val (.int bq), .val (.int tb), .val (.ref b5), .val (.ref b55), .val (.ref b116), .val (.ref b117), .val (.long p0.toInt64), .second, .val (.long p1.toInt64), .second] [(.int (1 : Int32))]))
    refine own_up (fun _ kq => XS.goto X157.here hx rfl (pc0 := 1093) (pc' := 1097) rfl (hb hby at_1093) (by decide) (by decide) kq) ?_
    show own_Go p.tables e below _ (T157.setTop (mkF m 1097 #[.val (.int p0), .val (.int p1), .val (.int p2), .val (.int p3), .val (.int p4), .val (.int p5), .val (.int (3 : Int32)), .val (.int ra), .val (.int v19), .val (.int v31), .val (.int ta), .val (.int bs), .val (.int bq), .val (.int tb), .val (.ref b5), .val (.ref b55), .val (.ref b116), .val (.ref b117), .val (.long p0.toInt64), .second, .val (.long p1.toInt64), .second] [(.int (1 : Int32))]))
    obtain ⟨fs158, hr158, hrun158, hended158, hW158, hsame158⟩ := X157.leave (v := some (.int (1 : Int32))) (fun h => by rw [Bd.returns] at h; cases h)
    refine own_end ⟨_, _, ?_, hrun158, hended158, _, _, rfl, ?_, ⟨_, rfl⟩, hW158, hsame158.mono (by decide) (by decide)⟩
    · exact retN X157 hx (t := .boolean) Bd.returns (by simp) (hb hby at_1097) hr158
    · show Qrm0 Z p0 p1 p2 p3 p4 p5 h0 n0 _ T157.heap _
      rw [e157]
      exact ⟨rfl, N157⟩
set_option maxRecDepth 65536 in
set_option maxHeartbeats 40000000 in
theorem comes_1 {Post : Tables → Env → Array Value → State → Outcome → State → Prop} (hpost : ∀ tb e args s v u, (limb_1_1.after args s (.returned v) u = true ∧ limb_1_2.after args s (.returned v) u = true ∧ True) → FrameEnd s (.returned v) u (Jvm.fieldLocs frame_1_writes args s ++ Jvm.arrayLocs frame_1_arrays args s ++ Jvm.staticLocs frame_1_statics s) 16 384 → Post tb e args s (.returned v) u) :
    ArmFor flags0 classFile x code maxLocals ret World_1 tables_1 room_1 Calls_1 rest_1 Pre_1 Post := by
  intro l hfl _ _ p e ha hc hk s m args below hf hA hF happ hP
  obtain ⟨hcalls, hrest, hpre⟩ := hP
  obtain ⟨-, -, -, hnamed, -, -, -, hat⟩ := (Spec.applies_iff hf).mp happ
  obtain ⟨hg, hn⟩ := and_e (Cond.before_iff.mp (show (Jvm.Cond.and given_1 narrow_1).before args s = true from hpre))
  obtain ⟨gA0, gB0⟩ := and_e hg
  obtain ⟨gA1, gB1⟩ := and_e gB0
  obtain ⟨gA2, gB2⟩ := and_e gB1
  obtain ⟨gA3, gB3⟩ := and_e gB2
  obtain ⟨gA4, gB4⟩ := and_e gB3
  obtain ⟨gA5, gB5⟩ := and_e gB4
  obtain ⟨w0, w1, w2, w3, w4, w5, rfl⟩ : ∃ w0 w1 w2 w3 w4 w5 : Value, args = #[w0, w1, w2, w3, w4, w5] := by
    have hs : args.size = 6 := by simpa [Cond.value, given_1] using gA0
    obtain ⟨L⟩ := args
    match L, hs with
    | [w0, w1, w2, w3, w4, w5], _ => exact ⟨w0, w1, w2, w3, w4, w5, rfl⟩
  have hw := fun d (hd : d ∈ tables_1) => atoms_spec (ws := Jvm.Cond.code x code maxLocals ret :: tables_1) hat d (List.mem_cons_of_mem _ hd)
  have hfit : Fit s := fun {y c} hc i hi => by
    obtain ⟨ha, rfl⟩ := Array.getElem?_eq_some_iff.mp hc
    have q := List.all_eq_true.mp ((Array.all_eq_true_iff_forall_mem.mp hF) _ (Array.getElem_mem ha)) i (List.mem_range.mpr hi)
    simpa [Array.getElem?_eq_getElem hi] using q
  obtain ⟨i0, ei0⟩ := is_v gA1
  obtain rfl : w0 = (.int i0) := Option.some.inj ei0
  obtain ⟨i1, ei1⟩ := is_v gA2
  obtain rfl : w1 = (.int i1) := Option.some.inj ei1
  obtain ⟨i2, ei2⟩ := is_v gA3
  obtain rfl : w2 = (.int i2) := Option.some.inj ei2
  obtain ⟨i3, ei3⟩ := is_v gA4
  obtain rfl : w3 = (.int i3) := Option.some.inj ei3
  obtain ⟨i4, ei4⟩ := is_v gA5
  obtain rfl : w4 = (.int i4) := Option.some.inj ei4
  obtain ⟨i5, ei5⟩ := is_v gB5
  obtain rfl : w5 = (.int i5) := Option.some.inj ei5
  obtain ⟨n, o, h1, h2, h3, _, L, rfl, ⟨rfl, N⟩, hq⟩ := rm0 l s _ hw tables_1 i0 i1 i2 i3 i4 i5 s.heap s.heap.size (Nat.le_refl _) p e ha hc hk s m _ below hf ((Spec.applies_iff_loose hf).mp happ).1 ⟨rfl, State.Warmed39.refl s, rfl⟩ trivial
  refine ⟨n, _, h1, h2, h3, hpost _ _ _ _ _ _ ⟨Cond.after_iff.mpr rfl, Cond.after_iff.mpr (eq_i res_at (Term.int_eval (1)) rfl), trivial⟩ ⟨hq.1, hq.2.1, (hq.2.2.sift fun y hy => Or.inr (N y hy)).mono (by decide) (by decide)⟩⟩
theorem main_1_1 : Claimed_1_1 := comes_1 fun _ _ _ _ _ _ h hF => ⟨h.1, hF⟩
theorem main_1_2 : Claimed_1_2 := comes_1 fun _ _ _ _ _ _ h hF => ⟨h.2.1, hF⟩
end Jvm.Pilot.@@N@@
namespace Jvm.Pilot.@@N@@
open Jvm Jvm.ClassFile Sem Op Lib Jvm.Free Jvm.Stand Jvm.Pilot.@@N@@.Jvm.D
/-! MADE BY PROGRAM (witnessworld.py) out of the Statement's table words and the real class files: 13 classes; the members and pool entries that the words name. The judged class is class 1, her method 1. -/
namespace start1
open Jvm.ClassFile
def u (s : String) : CpInfo := .utf8 (stringToUtf16 s)
/-- a pool by its gaps: so many unusable entries, then the entry; so many at the end -/
def gap : Nat → List CpInfo → List CpInfo
  | 0, r => r
  | n + 1, r => .unusable :: gap n r
def poolList (es : List (Nat × CpInfo)) (last : Nat) : List CpInfo := es.foldr (fun e r => gap e.1 (e.2 :: r)) (gap last [])
def pool (es : List (Nat × CpInfo)) (last : Nat) : Array CpInfo := ⟨poolList es last⟩
def fileOf (pool : Array CpInfo) (this : Nat) (attrs : Array Attribute := #[]) (ms : Array MethodInfo := #[]) (fl : Nat := 33) (sup : Nat := 0) (ifs : Array Nat := #[]) (fds : Array FieldInfo := #[]) : ClassFile where
  minorVersion := 0
  majorVersion := 65
  constantPool := pool
  accessFlags := fl
  thisClass := this
  superClass := sup
  interfaces := ifs
  fields := fds
  methods := ms
  attributes := attrs
def plain (name : String) (sup : Option ClassId) : Class where
  name := name
  kind := .ordinary
  loader := none
  accessFlags := 33
  super := sup
  interfaces := #[]
  cf := none
  fields := #[]
  methods := #[]
  instanceTypes := #[]
  staticTypes := #[]
  resolved := #[]
  callSites := []
  init := .initialized
  statics := none
  mirror := none

def pool0 : Array CpInfo := pool [(5, u "<init>"), (0, u "()V"), (1, .class_ 10), (1, u "java/lang/Object")] 113

def k0c0 : Code := { maxStack := 0, maxLocals := 1, code := object_method_1_code, exceptionTable := #[], attributes := #[] }
def k0m0 : Method := { name := "<init>", desc := "()V", sig := { parameters := [], returnType := none }, accessFlags := 1, code := some k0c0 }
/-- java/lang/Object -/
def k0 : Class := { plain "java/lang/Object" none with
  accessFlags := 33
  interfaces := #[]
  cf := some (fileOf pool0 8 #[] #[{ accessFlags := 1, nameIndex := 5, descriptorIndex := 6, attributes := #[] }] 33 0 #[] #[])
  fields := #[]
  methods := #[k0m0]
  instanceTypes := #[]
  staticTypes := #[]
  resolved := Array.replicate 124 none
  statics := none }

def pool1 : Array CpInfo := pool [(2, .class_ 4), (1, u "java/lang/Object"), (0, u "<init>"), (0, u "()V"), (0, .double 4611686018427387904), (1, .double 4613937818241073152), (1, .double 4616189618054758400), (1, .double 4617315517961601024), (1, .double 4618441417868443648), (1, .double 4619567317775286272), (1, .double 4620693217682128896), (1, .double 4621256167635550208), (1, .double 4621819117588971520), (1, .double 4622382067542392832), (1, .double 4622945017495814144), (1, .double 4623507967449235456), (1, .double 4624070917402656768), (1, .double 4624633867356078080), (1, .double 4625196817309499392), (1, .double 4625478292286210048), (1, .double 4625759767262920704), (1, .double 4626041242239631360), (1, .double 4626322717216342016), (1, .double 4626604192193052672), (1, .double 4626885667169763328), (1, .double 4627167142146473984), (1, .double 4627448617123184640), (1, .double 4627730092099895296), (1, .double 4628011567076605952), (1, .double 4628293042053316608), (1, .double 4628574517030027264), (1, .double 4628855992006737920), (1, .double 4629137466983448576), (1, .double 4629418941960159232), (1, .double 4629700416936869888), (1, .double 4629841154425225216), (1, .double 4629981891913580544), (1, .double 4630122629401935872), (1, .double 4630263366890291200), (1, .double 4630404104378646528), (1, .double 4630544841867001856), (1, .double 4630685579355357184), (1, .double 4630826316843712512), (1, .double 4630967054332067840), (1, .double 4631107791820423168), (1, .double 4631248529308778496), (1, .double 4631389266797133824), (1, .double 4631530004285489152), (1, .double 4631670741773844480), (1, .double 4631811479262199808), (1, .double 4631952216750555136), (1, .double 4636737291354636288), (1, .double 4636807660098813952), (1, .double 4636878028842991616), (1, .double 4636948397587169280), (1, .double 4637018766331346944), (1, .double 4637089135075524608), (1, .double 4637159503819702272), (1, .double 4637229872563879936), (1, .double 4637300241308057600), (1, .double 4637370610052235264), (1, .double 4637440978796412928), (1, .double 4637511347540590592), (1, .double 4637581716284768256), (1, .double 4637652085028945920), (1, .double 4637722453773123584), (1, .double 4637792822517301248), (1, .double 4637863191261478912), (1, .double 4637933560005656576), (1, .double 4638003928749834240), (1, .double 4638074297494011904), (1, .double 4638144666238189568), (1, .double 4638215034982367232), (1, .double 4638285403726544896), (1, .double 4638355772470722560), (1, .double 4638426141214900224), (1, .double 4638496509959077888), (1, .double 4638566878703255552), (1, .double 4638637247447433216), (1, .double 4638707616191610880), (1, .double 4638742800563699712), (1, .double 4638777984935788544), (1, .double 4638813169307877376), (1, .double 4638848353679966208), (1, .double 4638883538052055040), (1, .double 4638918722424143872), (1, .double 4638953906796232704), (1, .double 4638989091168321536), (1, .double 4639024275540410368), (1, .double 4639059459912499200), (1, .double 4639094644284588032), (1, .double 4639129828656676864), (1, .double 4639165013028765696), (1, .double 4639200197400854528), (1, .double 4639235381772943360), (1, .double 4639270566145032192), (1, .double 4639305750517121024), (1, .double 4639340934889209856), (1, .double 4639376119261298688), (1, .double 4639411303633387520), (1, .double 4639446488005476352), (1, .double 4639481672377565184), (1, .double 4639516856749654016), (1, .double 4639552041121742848), (1, .double 4639587225493831680), (1, .double 4639622409865920512), (1, .double 4639657594238009344), (1, .double 4639692778610098176), (1, .double 4639727962982187008), (1, .double 4639763147354275840), (1, .double 4639798331726364672), (1, .class_ 222), (0, u "com/example/indexica/indexica/ScaledSum"), (0, .methodref 221 224), (0, .nameAndType 5 225), (0, u "(DD)V"), (0, .methodref 221 227), (0, .nameAndType 228 229), (0, u "eightRows"), (0, u "([D[D[DIIIIII)V"), (0, .methodref 231 232), (0, .class_ 233), (0, .nameAndType 234 235), (0, u "com/example/indexica/indexica/ScaledSumEightRowsPinLaw"), (0, u "row"), (0, u "([DIIIIJJIII)Z"), (0, .methodref 231 237), (0, .nameAndType 238 239), (0, u "cell"), (0, u "([DIIIIIJJIII)Z"), (2, u "law"), (0, u "(IIIIII)Z")] 5

def k1m0 : Method := { name := "<init>", desc := "()V", sig := { parameters := [], returnType := none }, accessFlags := 2, code := none }
def k1c1 : Code := { maxStack := 12, maxLocals := 22, code := code, exceptionTable := #[], attributes := #[] }
def k1m1 : Method := { name := "law", desc := "(IIIIII)Z", sig := { parameters := [.int, .int, .int, .int, .int, .int], returnType := some .boolean }, accessFlags := 9, code := some k1c1 }
def k1c2 : Code := { maxStack := 13, maxLocals := 12, code := method_3_code, exceptionTable := #[], attributes := #[] }
def k1m2 : Method := { name := "row", desc := "([DIIIIJJIII)Z", sig := { parameters := [(.array .double), .int, .int, .int, .int, .long, .long, .int, .int, .int], returnType := some .boolean }, accessFlags := 10, code := some k1c2 }
def k1c3 : Code := { maxStack := 8, maxLocals := 20, code := method_4_code, exceptionTable := #[], attributes := #[] }
def k1m3 : Method := { name := "cell", desc := "([DIIIIIJJIII)Z", sig := { parameters := [(.array .double), .int, .int, .int, .int, .int, .long, .long, .int, .int, .int], returnType := some .boolean }, accessFlags := 10, code := some k1c3 }
/-- com/example/indexica/indexica/ScaledSumEightRowsPinLaw -/
def k1 : Class := { plain "com/example/indexica/indexica/ScaledSumEightRowsPinLaw" (some 0) with
  accessFlags := 49
  interfaces := #[]
  cf := some (fileOf pool1 231 #[] #[{ accessFlags := 2, nameIndex := 5, descriptorIndex := 6, attributes := #[] }, { accessFlags := 9, nameIndex := 242, descriptorIndex := 243, attributes := #[] }, { accessFlags := 10, nameIndex := 234, descriptorIndex := 235, attributes := #[] }, { accessFlags := 10, nameIndex := 238, descriptorIndex := 239, attributes := #[] }] 49 2 #[] #[])
  fields := #[]
  methods := #[k1m0, k1m1, k1m2, k1m3]
  instanceTypes := #[]
  staticTypes := #[]
  resolved := Array.replicate 249 none
  statics := none }

def pool2 : Array CpInfo := pool [(1, .methodref 2 3), (0, .class_ 4), (0, .nameAndType 5 6), (0, u "java/lang/Object"), (0, u "<init>"), (0, u "()V"), (0, .class_ 8), (0, u "java/lang/Record")] 13

def k2c0 : Code := { maxStack := 1, maxLocals := 1, code := jdk_30_method_1_code, exceptionTable := #[], attributes := #[] }
def k2m0 : Method := { name := "<init>", desc := "()V", sig := { parameters := [], returnType := none }, accessFlags := 4, code := some k2c0 }
/-- java/lang/Record -/
def k2 : Class := { plain "java/lang/Record" (some 0) with
  accessFlags := 1057
  interfaces := #[]
  cf := some (fileOf pool2 7 #[] #[{ accessFlags := 4, nameIndex := 5, descriptorIndex := 6, attributes := #[] }] 1057 2 #[] #[])
  fields := #[]
  methods := #[k2m0]
  instanceTypes := #[]
  staticTypes := #[]
  resolved := Array.replicate 22 none
  statics := none }

def pool3 : Array CpInfo := pool [(10, .class_ 12), (1, u "com/example/indexica/indexica/ElementKernel"), (4, .class_ 18), (0, u "com/example/indexica/indexica/ElementKernel$1Walk"), (61, .class_ 81), (0, u "java/lang/Object"), (0, u "TILE"), (0, u "I"), (2, u "TILED_PASS")] 41

/-- com/example/indexica/indexica/ElementKernel -/
def k3 : Class := { plain "com/example/indexica/indexica/ElementKernel" (some 0) with
  accessFlags := 1536
  interfaces := #[]
  cf := some (fileOf pool3 10 #[.nestMembers #[17]] #[] 1536 80 #[] #[{ accessFlags := 25, nameIndex := 82, descriptorIndex := 83, attributes := #[] }, { accessFlags := 25, nameIndex := 86, descriptorIndex := 83, attributes := #[] }])
  fields := #[{ name := "TILE", type := .int, accessFlags := 25, slot := 0, constantValue := 0 }, { name := "TILED_PASS", type := .int, accessFlags := 25, slot := 1, constantValue := 0 }]
  methods := #[]
  instanceTypes := #[]
  staticTypes := #[.int, .int]
  resolved := Array.replicate 128 none
  statics := none }

def pool4 : Array CpInfo := pool [(1, .methodref 2 3), (0, .class_ 4), (0, .nameAndType 5 6), (0, u "java/lang/Record"), (0, u "<init>"), (0, u "()V"), (0, .fieldref 8 9), (0, .class_ 10), (0, .nameAndType 11 12), (0, u "com/example/indexica/indexica/ScaledSum"), (0, u "alpha"), (0, u "D"), (0, .fieldref 8 14), (0, .nameAndType 15 12), (0, u "beta"), (12, .class_ 29), (0, u "com/example/indexica/indexica/ElementKernel"), (0, u "(DD)V"), (6, u "eightRows"), (0, u "([D[D[DIIIIII)V")] 39

def k4c0 : Code := { maxStack := 3, maxLocals := 5, code := prog_85_method_1_code, exceptionTable := #[], attributes := #[] }
def k4m0 : Method := { name := "<init>", desc := "(DD)V", sig := { parameters := [.double, .double], returnType := none }, accessFlags := 0, code := some k4c0 }
def k4c1 : Code := { maxStack := 10, maxLocals := 17, code := prog_85_method_3_code, exceptionTable := #[], attributes := #[] }
def k4m1 : Method := { name := "eightRows", desc := "([D[D[DIIIIII)V", sig := { parameters := [(.array .double), (.array .double), (.array .double), .int, .int, .int, .int, .int, .int], returnType := none }, accessFlags := 1, code := some k4c1 }
/-- com/example/indexica/indexica/ScaledSum -/
def k4 : Class := { plain "com/example/indexica/indexica/ScaledSum" (some 2) with
  accessFlags := 48
  interfaces := #[3]
  cf := some (fileOf pool4 8 #[] #[{ accessFlags := 0, nameIndex := 5, descriptorIndex := 30, attributes := #[] }, { accessFlags := 1, nameIndex := 37, descriptorIndex := 38, attributes := #[] }] 48 2 #[28] #[{ accessFlags := 18, nameIndex := 11, descriptorIndex := 12, attributes := #[] }, { accessFlags := 18, nameIndex := 15, descriptorIndex := 12, attributes := #[] }])
  fields := #[{ name := "alpha", type := .double, accessFlags := 18, slot := 0, constantValue := 0 }, { name := "beta", type := .double, accessFlags := 18, slot := 1, constantValue := 0 }]
  methods := #[k4m0, k4m1]
  instanceTypes := #[.double, .double]
  staticTypes := #[]
  resolved := Array.replicate 78 none
  statics := none }

def pool5 : Array CpInfo := pool [(1, u "java/lang/Cloneable"), (0, .class_ 1), (0, u "java/lang/Object"), (0, .class_ 3)] 3

/-- java/lang/Cloneable -/
def k5 : Class := { plain "java/lang/Cloneable" (some 0) with
  accessFlags := 1537
  interfaces := #[]
  cf := some (fileOf pool5 2 #[] #[] 1537 4 #[] #[])
  fields := #[]
  methods := #[]
  instanceTypes := #[]
  staticTypes := #[]
  resolved := Array.replicate 8 none
  statics := none }

def pool6 : Array CpInfo := pool [(1, u "java/io/Serializable"), (0, .class_ 1), (0, u "java/lang/Object"), (0, .class_ 3)] 3

/-- java/io/Serializable -/
def k6 : Class := { plain "java/io/Serializable" (some 0) with
  accessFlags := 1537
  interfaces := #[]
  cf := some (fileOf pool6 2 #[] #[] 1537 4 #[] #[])
  fields := #[]
  methods := #[]
  instanceTypes := #[]
  staticTypes := #[]
  resolved := Array.replicate 8 none
  statics := none }

/-- the primitive byte -/
def k7 : Class := { plain "byte" none with kind := .primitive 'B', accessFlags := 0x411 }
/-- [B -/
def k8 : Class := { plain "[B" (some 0) with kind := .array 7 .byte, interfaces := #[5, 6], accessFlags := 1041 }

/-- the primitive double -/
def k9 : Class := { plain "double" none with kind := .primitive 'D', accessFlags := 0x411 }
/-- [D -/
def k10 : Class := { plain "[D" (some 0) with kind := .array 9 .double, interfaces := #[5, 6], accessFlags := 1041 }

/-- the primitive int -/
def k11 : Class := { plain "int" none with kind := .primitive 'I', accessFlags := 0x411 }
/-- [I -/
def k12 : Class := { plain "[I" (some 0) with kind := .array 11 .int, interfaces := #[5, 6], accessFlags := 1041 }

def heap : Heap := #[]
def classes : Array Class := #[k0, k1, k2, k3, k4, k5, k6, k7, k8, k9, k10, k11, k12]
def interned : List (Array UInt16 × Addr) := []
def slotsUsed : Nat := 0
def theMethod : MethodId := ⟨1, 1⟩
def args0 : Array Value := #[.int 5, .int 7, .int 9, .int 3, .int 1, .int 2]
def aboutOver (below : List Frame) : State where
  vm := { classes := classes, interned := interned.toArray }
  heap := heap
  slotsUsed := slotsUsed
  threads := #[{ frames := .invoking theMethod args0 :: below }]
def below0 : List Frame := [.native { method := ⟨0, 0⟩, args := #[] }]
def about1 : State := aboutOver below0
def p0 : Program := .bare "" "" ""
def e0 : Env := launch0.env 0 0 0
theorem w_frames : about1.frames = Frame.invoking theMethod args0 :: below0 := rfl
set_option maxRecDepth 65536 in
theorem w_args : argsFit about1.vm theMethod args0 = true := by decide +kernel
set_option maxRecDepth 65536 in
theorem w_heap : heapFits about1 = true := by decide +kernel
set_option maxRecDepth 65536 in
theorem w_runnable : about1.curStatus? = some .runnable := by decide +kernel
set_option maxRecDepth 65536 in
theorem w_alone : about1.alone = true := by decide +kernel
set_option maxRecDepth 65536 in
theorem w_named : about1.methodNamed? x = some theMethod := by decide +kernel
set_option maxRecDepth 65536 in
theorem w_hears : about1.hears theMethod below0 = true := by decide +kernel
set_option maxRecDepth 65536 in
theorem w_ripe : about1.ripe theMethod args0 below0 = true := by decide +kernel
theorem w_running : about1.status = .running := rfl
set_option maxRecDepth 65536 in
theorem w_room : about1.hasRoom e0.platform room_1 = true :=
  launch0.hasRoom_least _ room_1 (by decide +kernel) (by decide +kernel) (by decide +kernel) (by decide +kernel) (by decide +kernel) (by decide +kernel)
theorem allAtoms_all (ts : List Jvm.Cond) (a : Array Jvm.Value) (st : Jvm.State) : (allAtoms ts).before a st = ts.all (fun c => c.before a st) := by
  induction ts with
  | nil => rfl
  | cons c t ih =>
    show (Jvm.Cond.and c (allAtoms t)).before a st = _
    rw [Jvm.Cond.before_and, ih, List.all_cons]
def words1 : List Jvm.Cond := Jvm.Cond.code x code maxLocals ret :: tables_1
/-- a 'code' word, met by the world's own term for the bytes: nothing is compared byte by byte -/
theorem code_word {y : MethodName} {bytes : ByteArray} {mx : Nat} {rt : Option FieldType} {a : Array Value} {s : State} {m : MethodId} {meth : Method} {c : Code} (h1 : s.methodNamed? y = some m) (h2 : s.vm.method? m = some meth) (h3 : meth.code = some c) (h4 : c.code = bytes)
    (h5 : (c.maxLocals == mx && c.exceptionTable.isEmpty && decide (c.maxStack ≤ mostOperands) && decide (meth.sig.returnType = rt) && !meth.locks && decide (parseMethodDescriptor y.desc = some meth.sig)) = true) : (Jvm.Cond.code y bytes mx rt).before a s = true := by
  simp only [Bool.and_eq_true, beq_iff_eq, Bool.not_eq_true', decide_eq_true_eq] at h5
  obtain ⟨⟨⟨⟨⟨g1, g2⟩, g3⟩, g4⟩, g5⟩, g6⟩ := h5
  simp [Cond.before, Cond.holds, Cond.value, h1, h2, h3, h4, g1, g2, g3, g4, g5, g6]
def isCode : Jvm.Cond → Bool
  | .code _ _ _ _ => true
  | _ => false
theorem all_split {L : List Jvm.Cond} {P : Jvm.Cond → Bool} (h1 : L.all (fun c => isCode c || P c) = true) (h2 : ∀ c ∈ L.filter isCode, P c = true) : L.all P = true := by
  refine List.all_eq_true.mpr fun c hc => ?_
  have h := List.all_eq_true.mp h1 c hc
  rcases Bool.eq_false_or_eq_true (isCode c) with hi | hi
  · exact h2 c (List.mem_filter.mpr ⟨hc, hi⟩)
  · simpa [hi] using h
set_option maxRecDepth 65536 in
theorem w_c0 : (Jvm.Cond.code x code maxLocals ret).before args0 about1 = true := code_word (m := ⟨1, 1⟩) (meth := k1m1) (c := k1c1) (by decide +kernel) rfl rfl rfl (by decide +kernel)
set_option maxRecDepth 65536 in
theorem w_c1 : (Jvm.Cond.code ({ cls := "com/example/indexica/indexica/ScaledSum", name := "<init>", desc := "(DD)V" } : Jvm.MethodName) prog_85_method_1_code (5 : Nat) (Option.none : Option Jvm.ClassFile.FieldType)).before args0 about1 = true := code_word (m := ⟨4, 0⟩) (meth := k4m0) (c := k4c0) (by decide +kernel) rfl rfl rfl (by decide +kernel)
set_option maxRecDepth 65536 in
theorem w_c2 : (Jvm.Cond.code ({ cls := "java/lang/Record", name := "<init>", desc := "()V" } : Jvm.MethodName) jdk_30_method_1_code (1 : Nat) (Option.none : Option Jvm.ClassFile.FieldType)).before args0 about1 = true := code_word (m := ⟨2, 0⟩) (meth := k2m0) (c := k2c0) (by decide +kernel) rfl rfl rfl (by decide +kernel)
set_option maxRecDepth 65536 in
theorem w_c3 : (Jvm.Cond.code ({ cls := "java/lang/Object", name := "<init>", desc := "()V" } : Jvm.MethodName) object_method_1_code (1 : Nat) (Option.none : Option Jvm.ClassFile.FieldType)).before args0 about1 = true := code_word (m := ⟨0, 0⟩) (meth := k0m0) (c := k0c0) (by decide +kernel) rfl rfl rfl (by decide +kernel)
set_option maxRecDepth 65536 in
theorem w_c4 : (Jvm.Cond.code ({ cls := "com/example/indexica/indexica/ScaledSum", name := "eightRows", desc := "([D[D[DIIIIII)V" } : Jvm.MethodName) prog_85_method_3_code (17 : Nat) (Option.none : Option Jvm.ClassFile.FieldType)).before args0 about1 = true := code_word (m := ⟨4, 1⟩) (meth := k4m1) (c := k4c1) (by decide +kernel) rfl rfl rfl (by decide +kernel)
set_option maxRecDepth 65536 in
theorem w_c5 : (Jvm.Cond.code ({ cls := "com/example/indexica/indexica/ScaledSumEightRowsPinLaw", name := "row", desc := "([DIIIIJJIII)Z" } : Jvm.MethodName) method_3_code (12 : Nat) (Option.some Jvm.ClassFile.FieldType.boolean)).before args0 about1 = true := code_word (m := ⟨1, 2⟩) (meth := k1m2) (c := k1c2) (by decide +kernel) rfl rfl rfl (by decide +kernel)
set_option maxRecDepth 65536 in
theorem w_c6 : (Jvm.Cond.code ({ cls := "com/example/indexica/indexica/ScaledSumEightRowsPinLaw", name := "cell", desc := "([DIIIIIJJIII)Z" } : Jvm.MethodName) method_4_code (20 : Nat) (Option.some Jvm.ClassFile.FieldType.boolean)).before args0 about1 = true := code_word (m := ⟨1, 3⟩) (meth := k1m3) (c := k1c3) (by decide +kernel) rfl rfl rfl (by decide +kernel)
def codes1 : List Jvm.Cond := [Jvm.Cond.code x code maxLocals ret, Jvm.Cond.code ({ cls := "com/example/indexica/indexica/ScaledSum", name := "<init>", desc := "(DD)V" } : Jvm.MethodName) prog_85_method_1_code (5 : Nat) (Option.none : Option Jvm.ClassFile.FieldType), Jvm.Cond.code ({ cls := "java/lang/Record", name := "<init>", desc := "()V" } : Jvm.MethodName) jdk_30_method_1_code (1 : Nat) (Option.none : Option Jvm.ClassFile.FieldType), Jvm.Cond.code ({ cls := "java/lang/Object", name := "<init>", desc := "()V" } : Jvm.MethodName) object_method_1_code (1 : Nat) (Option.none : Option Jvm.ClassFile.FieldType), Jvm.Cond.code ({ cls := "com/example/indexica/indexica/ScaledSum", name := "eightRows", desc := "([D[D[DIIIIII)V" } : Jvm.MethodName) prog_85_method_3_code (17 : Nat) (Option.none : Option Jvm.ClassFile.FieldType), Jvm.Cond.code ({ cls := "com/example/indexica/indexica/ScaledSumEightRowsPinLaw", name := "row", desc := "([DIIIIJJIII)Z" } : Jvm.MethodName) method_3_code (12 : Nat) (Option.some Jvm.ClassFile.FieldType.boolean), Jvm.Cond.code ({ cls := "com/example/indexica/indexica/ScaledSumEightRowsPinLaw", name := "cell", desc := "([DIIIIIJJIII)Z" } : Jvm.MethodName) method_4_code (20 : Nat) (Option.some Jvm.ClassFile.FieldType.boolean)]
set_option maxRecDepth 65536 in
theorem codes_eq : words1.filter isCode = codes1 := rfl
theorem w_codes : ∀ c ∈ words1.filter isCode, c.before args0 about1 = true := by
  rw [codes_eq]
  intro c hc
  simp only [codes1, List.mem_cons, List.not_mem_nil, or_false] at hc
  rcases hc with rfl | rfl | rfl | rfl | rfl | rfl | rfl
  · exact w_c0
  · exact w_c1
  · exact w_c2
  · exact w_c3
  · exact w_c4
  · exact w_c5
  · exact w_c6
set_option maxRecDepth 65536 in
theorem w_t1 : (words1.take 24).all (fun c => isCode c || c.before args0 about1) = true := by decide +kernel
set_option maxRecDepth 65536 in
theorem w_t2 : ((words1.drop 24).take 24).all (fun c => isCode c || c.before args0 about1) = true := by decide +kernel
set_option maxRecDepth 65536 in
theorem w_t3 : (((words1.drop 24).drop 24).take 24).all (fun c => isCode c || c.before args0 about1) = true := by decide +kernel
set_option maxRecDepth 65536 in
theorem w_t4 : ((((words1.drop 24).drop 24).drop 24).take 24).all (fun c => isCode c || c.before args0 about1) = true := by decide +kernel
set_option maxRecDepth 65536 in
theorem w_t5 : (((((words1.drop 24).drop 24).drop 24).drop 24).take 24).all (fun c => isCode c || c.before args0 about1) = true := by decide +kernel
set_option maxRecDepth 65536 in
theorem w_t6 : (((((words1.drop 24).drop 24).drop 24).drop 24).drop 24).all (fun c => isCode c || c.before args0 about1) = true := by decide +kernel
theorem w_tables : (allAtoms (Jvm.Cond.code x code maxLocals ret :: tables_1)).before args0 about1 = true := by
  rw [allAtoms_all]
  show words1.all (fun c => c.before args0 about1) = true
  refine all_split ?_ w_codes
  rw [← List.take_append_drop 24 words1, List.all_append, w_t1, ← List.take_append_drop 24 (words1.drop 24), List.all_append, w_t2, ← List.take_append_drop 24 ((words1.drop 24).drop 24), List.all_append, w_t3, ← List.take_append_drop 24 (((words1.drop 24).drop 24).drop 24), List.all_append, w_t4, ← List.take_append_drop 24 ((((words1.drop 24).drop 24).drop 24).drop 24), List.all_append, w_t5, w_t6]
  rfl
set_option maxRecDepth 65536 in
theorem w_case : (Jvm.Cond.and given_1 narrow_1).before args0 about1 = true := by decide +kernel
theorem w_applies : (headSpec (Jvm.Cond.code x code maxLocals ret :: tables_1) room_1).applies x e0.platform about1 = true :=
  (Spec.applies_iff w_frames).mpr ⟨w_running, w_runnable, w_alone, w_named, w_hears, w_ripe, w_room, w_tables⟩
theorem atStart : AtStart classFile x code maxLocals ret World_1 tables_1 room_1 Calls_1 rest_1 Pre_1 launch0 p0 e0 about1 theMethod args0 below0 :=
  ⟨lists_1, trivial, launch0.admits_env _ _ _, launch0.least_env, fairChoices_fair.cas, fairChoices_fair.clock, w_frames, w_args, w_heap, w_applies, trivial, trivial, w_case⟩
end start1
theorem witness_1 : WitnessClaimed_1 := ⟨start1.p0, start1.e0, start1.about1, start1.theMethod, start1.args0, start1.below0, start1.atStart⟩
end Jvm.Pilot.@@N@@
