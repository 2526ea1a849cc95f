import JvmDerived
import JvmDerived.Pilot.@@N@@Statement
import JvmDerived.Pilot.@@N@@Code
set_option linter.unusedVariables false
set_option linter.unusedSimpArgs false
namespace Jvm.Pilot.@@N@@
open Jvm Jvm.ClassFile Sem Op Lib Jvm.Free Jvm.Free.Fl Jvm.Stand Jvm.LawKit Jvm.RoadKit Bundle Jvm.Pilot.@@N@@.Jvm.D
def own_Go (tb : Tables) (e : Env) (below : List Frame) (P : State → Outcome → Prop) (S : State) : Prop := ∃ t o, Steps tb e below S t ∧ P t o
section OwnGo
variable {tb : Tables} {e : Env} {below : List Frame} {P : State → Outcome → Prop} {S S' : State}
theorem own_up (st : ∀ t, Steps tb e below S' t → Steps tb e below S t) (h : own_Go tb e below P S') : own_Go tb e below P S := by
  obtain ⟨t, o, h1, h2⟩ := h
  exact ⟨t, o, st t h1, h2⟩
theorem own_start (st : ∀ t, Steps tb e below S' t → Steps tb e below S t) (h : own_Go tb e below P S') : ∃ t o, Steps tb e below S t ∧ P t o := own_up st h
theorem own_end (h : ∃ t o, Steps tb e below S t ∧ P t o) : own_Go tb e below P S := h
end OwnGo
theorem own_eqi {args : Array Value} {first s : State} {o : Option Outcome} {idx : List Nat} {a : Term} {n : Int32} (h : (Jvm.Cond.eq a (Term.int n)).value args first o s idx = some true) : a.eval args first o idx s = some (.int n) := by
  obtain ⟨x, y, h1, h2, k1, k2⟩ := cmp_v (Or.inl h)
  have hb : (Term.int n).eval args first o idx s = some (.int n) := Term.int_eval n
  obtain rfl : y = .int n := Option.some.inj (h2.symm.trans hb)
  cases x with
  | int x =>
    have q := gotT (Cond.eq_ints h1 hb) h
    rw [h1, q]
  | _ => simp [Kin] at k1 k2
theorem own_b53 (x : Int32) : Jvm.RoadKit.B53 x.toInt64 := by
  unfold Jvm.RoadKit.B53
  rw [Int32.toInt_toInt64]
  have := rng32 x
  omega
theorem own_cmp (x y : Int32) (o : CmpOp) : cmpValue (FP.dcmp (FP.i2d x) (FP.i2d y)) o = lcmpW x.toInt64 y.toInt64 := by
  rw [i2d_w, i2d_w]
  exact dcmpV_w (own_b53 x) (own_b53 y) o
theorem own_i64lt (x y : Int32) : x.toInt64 < y.toInt64 ↔ x < y := by
  rw [Int64.lt_iff_toInt_lt, Int32.lt_iff_toInt_lt, Int32.toInt_toInt64, Int32.toInt_toInt64]
theorem own_min {mn : Addr} (c i v : Int32) (hv : v = if c < i then (1 : Int32) else (0 : Int32)) : (if mn = mn then (if cmpValue (FP.dcmp (FP.i2d c) (FP.i2d i)) .g < 0 then (1 : Int32) else 0) else (if 0 < cmpValue (FP.dcmp (FP.i2d c) (FP.i2d i)) .l then (1 : Int32) else 0)) = v := by
  rw [if_pos rfl, own_cmp, hv]
  have q : (lcmpW c.toInt64 i.toInt64 < 0) ↔ c < i := (lw_lt _ _).trans (own_i64lt c i)
  by_cases h : c < i
  · rw [if_pos h, if_pos (q.mpr h)]
  · rw [if_neg h, if_neg (fun z => h (q.mp z))]
theorem own_max {mn mx : Addr} (hne : ¬ mx = mn) (c i v : Int32) (hv : v = if i < c then (1 : Int32) else (0 : Int32)) : (if mx = mn then (if cmpValue (FP.dcmp (FP.i2d c) (FP.i2d i)) .g < 0 then (1 : Int32) else 0) else (if 0 < cmpValue (FP.dcmp (FP.i2d c) (FP.i2d i)) .l then (1 : Int32) else 0)) = v := by
  rw [if_neg hne, own_cmp, hv]
  have q : (0 < lcmpW c.toInt64 i.toInt64) ↔ i < c := (lw_gt _ _).trans (own_i64lt i c)
  by_cases h : i < c
  · rw [if_pos h, if_pos (q.mpr h)]
  · rw [if_neg h, if_neg (fun z => h (q.mp z))]
theorem pn_0 : plainName "com/example/parley/parley/model/Objective" = true := by first | (simp [plainName, overriddenIn]; done) | decide +kernel
theorem d1_0 : decode prog_104_method_6_code 0 = .ok (.aload_n 0, 1) := by decide +kernel
theorem d1_1 : decode prog_104_method_6_code 1 = .ok (.getstatic 3, 3) := by decide +kernel
theorem d1_4 : decode prog_104_method_6_code 4 = .ok (.if_acmp .ne 17, 3) := by decide +kernel
theorem d1_7 : decode prog_104_method_6_code 7 = .ok (.dload_n 1, 1) := by decide +kernel
theorem d1_8 : decode prog_104_method_6_code 8 = .ok (.dload_n 3, 1) := by decide +kernel
theorem d1_9 : decode prog_104_method_6_code 9 = .ok (.dcmp .g, 1) := by decide +kernel
theorem d1_10 : decode prog_104_method_6_code 10 = .ok (.ifCond .ge 7, 3) := by decide +kernel
theorem d1_13 : decode prog_104_method_6_code 13 = .ok (.iconst 1, 1) := by decide +kernel
theorem d1_14 : decode prog_104_method_6_code 14 = .ok (.goto 18, 3) := by decide +kernel
theorem d1_32 : decode prog_104_method_6_code 32 = .ok (.ireturn, 1) := by decide +kernel
theorem d1_17 : decode prog_104_method_6_code 17 = .ok (.iconst 0, 1) := by decide +kernel
theorem d1_18 : decode prog_104_method_6_code 18 = .ok (.goto 14, 3) := by decide +kernel
theorem d1_21 : decode prog_104_method_6_code 21 = .ok (.dload_n 1, 1) := by decide +kernel
theorem d1_22 : decode prog_104_method_6_code 22 = .ok (.dload_n 3, 1) := by decide +kernel
theorem d1_23 : decode prog_104_method_6_code 23 = .ok (.dcmp .l, 1) := by decide +kernel
theorem d1_24 : decode prog_104_method_6_code 24 = .ok (.ifCond .le 7, 3) := by decide +kernel
theorem d1_27 : decode prog_104_method_6_code 27 = .ok (.iconst 1, 1) := by decide +kernel
theorem d1_28 : decode prog_104_method_6_code 28 = .ok (.goto 4, 3) := by decide +kernel
theorem d1_31 : decode prog_104_method_6_code 31 = .ok (.iconst 0, 1) := by decide +kernel
theorem ef_rm1 (m : MethodId) (x0 : Addr) (x1 : UInt64) (x2 : UInt64) : entryFrame m #[(.ref x0), (.double x1), (.double x2)] 5 = mkF m 0 #[.val (.ref x0), .val (.double x1), .second, .val (.double x2), .second] [] := by first | (simp [entryFrame, mkF, argsToLocals, Value.category]; done) | rfl
def Qrm1 (Z : State) (a : Addr) (x : UInt64) (y : UInt64) (mn : Addr) (h0 : Heap) (n0 : Nat) (v : Option Value) (h : Heap) (L : List Loc) : Prop := v = some (.int (if a = mn then (if cmpValue (FP.dcmp x y) .g < 0 then (1 : Int32) else 0) else (if 0 < cmpValue (FP.dcmp x y) .l then (1 : Int32) else 0))) ∧ Fr n0 L ∧ h = h0
set_option maxRecDepth 65536 in
set_option maxHeartbeats 40000000 in
theorem rm1 (l : Launch) (Z : State) (a0 : Array Value) (hw : ∀ d ∈ tables_1, d.before a0 Z = true) (ws : List Jvm.Cond) (a : Addr) (x : UInt64) (y : UInt64) (mn : Addr) (h0 : Heap) (n0 : Nat) (Z0 : n0 ≤ h0.size) (S_MIN : Sta Z h0 "com/example/parley/parley/model/Objective" "MIN" "Lcom/example/parley/parley/model/Objective;" (.ref mn)) :
    MetFree l (⟨"com/example/parley/parley/model/Objective", "isBetter", "(DD)Z"⟩ : MethodName) (head1 (Jvm.Cond.code (⟨"com/example/parley/parley/model/Objective", "isBetter", "(DD)Z"⟩ : MethodName) prog_104_method_6_code 5 (some .boolean) :: ws) ({ frames := 0, cells := 0, slots := 0, locals := 0 } : Room)) (fun aq Uq => aq = #[(.ref a), (.double x), (.double y)] ∧ Z.Warmed39 Uq.vm ∧ Uq.heap = h0) (fun _ _ _ _ _ => True) (fun _ Uq oq Uq' => ∃ vq Lq, oq = .returned vq ∧ Qrm1 Z a x y mn h0 n0 vq Uq'.heap Lq ∧ FrameEnd Uq oq Uq' Lq ({ frames := 0, cells := 0, slots := 0, locals := 0 } : Room).cells ({ frames := 0, cells := 0, slots := 0, locals := 0 } : Room).slots) := by
  refine MetFree.of_bodySF (plainFor_of_name pn_0) hisR ?_
  intro p e s m args below meth c s₁ Bd hml0 hP hK
  obtain ⟨rfl, hZ, hh⟩ := hP
  have hx := Bd.exec
  have hby := Bd.bytes
  have hml : c.maxLocals = 5 := hml0
  have hown : s.vm.findClass "com/example/parley/parley/model/Objective" = some m.cls := findClass_of_methodNamed Bd.named
  have hnm := (name_of_methodNamed Bd.named Bd.method).1
  have X0 : Stand p l e ({ frames := 0, cells := 0, slots := 0, locals := 0 } : Room) s m #[(.ref a), (.double x), (.double y)] below meth c s₁ [] 0 0 := Stand.of_body Bd
  have e0 : s₁.heap = h0 := by rw [← hh, Bd.state]; rfl
  have N0 := Fr.nil n0
  have ZH := Z0
  have KK := Keep.refl h0 []
  refine own_start (fun t k => castTop (ef_rm1 m a x y) k) ?_
  show own_Go p.tables e below _ (s₁.setTop (mkF m 0 #[.val (.ref a), .val (.double x), .second, .val (.double y), .second] []))
  refine own_up (fun _ k => XS.aloadN X0.here hx rfl (hb hby d1_0) rfl rfl k) ?_
  show own_Go p.tables e below _ (s₁.setTop (mkF m 1 #[.val (.ref a), .val (.double x), .second, .val (.double y), .second] [(.ref a)]))
  obtain ⟨T1, X1, e1, st1⟩ := getS2 X0 hx hZ hown (host := "") (Or.inl (hw _ (List.mem_of_getElem? (i := 8) rfl))) Via.refl e0 S_MIN (g := (mkF m 1 #[.val (.ref a), .val (.double x), .second, .val (.double y), .second] [(.ref a)])) rfl (hb hby d1_1)
  refine own_up st1 ?_
  show own_Go p.tables e below _ (T1.setTop (mkF m 4 #[.val (.ref a), .val (.double x), .second, .val (.double y), .second] [(.ref mn), (.ref a)]))
  by_cases hc4 : a = mn
  · refine own_up (fun _ k => Jvm.RoadKit.acmp (g := (mkF m 4 #[.val (.ref a), .val (.double x), .second, .val (.double y), .second] [(.ref mn), (.ref a)])) X1 hx rfl rfl rfl (pc0 := 4) (pc' := 7) (same := true) rfl (hb hby d1_4) rfl (decide_eq_true (congrArg Value.ref hc4)) (by decide) (by decide) k) ?_
    show own_Go p.tables e below _ (T1.setTop (mkF m 7 #[.val (.ref a), .val (.double x), .second, .val (.double y), .second] []))
    refine own_up (fun _ k => XS.dloadN X1.here hx rfl (hb hby d1_7) rfl k) ?_
    show own_Go p.tables e below _ (T1.setTop (mkF m 8 #[.val (.ref a), .val (.double x), .second, .val (.double y), .second] [(.double x)]))
    refine own_up (fun _ k => XS.dloadN X1.here hx rfl (hb hby d1_8) rfl k) ?_
    show own_Go p.tables e below _ (T1.setTop (mkF m 9 #[.val (.ref a), .val (.double x), .second, .val (.double y), .second] [(.double y), (.double x)]))
    refine own_up (fun _ k => XS.dcmpS X1.here hx rfl (v := (cmpValue (FP.dcmp x y) .g)) (hb hby d1_9) rfl rfl k) ?_
    show own_Go p.tables e below _ (T1.setTop (mkF m 10 #[.val (.ref a), .val (.double x), .second, .val (.double y), .second] [(.int (cmpValue (FP.dcmp x y) .g))]))
    by_cases hc10 : (cmpValue (FP.dcmp x y) .g) < (0 : Int32)
    · refine own_up (fun _ k => XS.ifNo X1.here hx rfl (hb hby d1_10) rfl ((if0 _ _).trans (tlt hc10).2.1) k) ?_
      show own_Go p.tables e below _ (T1.setTop (mkF m 13 #[.val (.ref a), .val (.double x), .second, .val (.double y), .second] []))
      refine own_up (fun _ k => XS.iconst X1.here hx rfl (hb hby d1_13) k) ?_
      show own_Go p.tables e below _ (T1.setTop (mkF m 14 #[.val (.ref a), .val (.double x), .second, .val (.double y), .second] [(.int (1 : Int32))]))
      refine own_up (fun _ k => XS.goto X1.here hx rfl (pc0 := 14) (pc' := 32) rfl (hb hby d1_14) (by decide) (by decide) k) ?_
      show own_Go p.tables e below _ (T1.setTop (mkF m 32 #[.val (.ref a), .val (.double x), .second, .val (.double y), .second] [(.int (1 : Int32))]))
      obtain ⟨fs2, hr2, hrun2, hended2, hW2, hsame2⟩ := X1.leave (v := some (.int (1 : Int32))) (fun h => by rw [Bd.returns] at h; cases h)
      refine own_end ⟨_, _, ?_, hrun2, hended2, _, _, rfl, ?_, ⟨_, rfl⟩, hW2, hsame2.mono (by decide) (by decide)⟩
      · exact retN X1 hx (t := .boolean) Bd.returns (by simp) (hb hby d1_32) hr2
      · show Qrm1 Z a x y mn h0 n0 _ T1.heap _
        rw [e1]
        exact ⟨by rw [if_pos hc4, if_pos hc10], N0, rfl⟩
    · refine own_up (fun _ k => XS.ifYes X1.here hx rfl (pc0 := 10) (pc' := 17) rfl (hb hby d1_10) rfl ((if0 _ _).trans (flt hc10).2.1) (by decide) (by decide) k) ?_
      show own_Go p.tables e below _ (T1.setTop (mkF m 17 #[.val (.ref a), .val (.double x), .second, .val (.double y), .second] []))
      refine own_up (fun _ k => XS.iconst X1.here hx rfl (hb hby d1_17) k) ?_
      show own_Go p.tables e below _ (T1.setTop (mkF m 18 #[.val (.ref a), .val (.double x), .second, .val (.double y), .second] [(.int (0 : Int32))]))
      refine own_up (fun _ k => XS.goto X1.here hx rfl (pc0 := 18) (pc' := 32) rfl (hb hby d1_18) (by decide) (by decide) k) ?_
      show own_Go p.tables e below _ (T1.setTop (mkF m 32 #[.val (.ref a), .val (.double x), .second, .val (.double y), .second] [(.int (0 : Int32))]))
      obtain ⟨fs3, hr3, hrun3, hended3, hW3, hsame3⟩ := X1.leave (v := some (.int (0 : Int32))) (fun h => by rw [Bd.returns] at h; cases h)
      refine own_end ⟨_, _, ?_, hrun3, hended3, _, _, rfl, ?_, ⟨_, rfl⟩, hW3, hsame3.mono (by decide) (by decide)⟩
      · exact retN X1 hx (t := .boolean) Bd.returns (by simp) (hb hby d1_32) hr3
      · show Qrm1 Z a x y mn h0 n0 _ T1.heap _
        rw [e1]
        exact ⟨by rw [if_pos hc4, if_neg hc10], N0, rfl⟩
  · refine own_up (fun _ k => Jvm.RoadKit.acmp (g := (mkF m 4 #[.val (.ref a), .val (.double x), .second, .val (.double y), .second] [(.ref mn), (.ref a)])) X1 hx rfl rfl rfl (pc0 := 4) (pc' := 21) (same := false) rfl (hb hby d1_4) rfl (decide_eq_false fun q => hc4 (Value.ref.inj q)) (by decide) (by decide) k) ?_
    show own_Go p.tables e below _ (T1.setTop (mkF m 21 #[.val (.ref a), .val (.double x), .second, .val (.double y), .second] []))
    refine own_up (fun _ k => XS.dloadN X1.here hx rfl (hb hby d1_21) rfl k) ?_
    show own_Go p.tables e below _ (T1.setTop (mkF m 22 #[.val (.ref a), .val (.double x), .second, .val (.double y), .second] [(.double x)]))
    refine own_up (fun _ k => XS.dloadN X1.here hx rfl (hb hby d1_22) rfl k) ?_
    show own_Go p.tables e below _ (T1.setTop (mkF m 23 #[.val (.ref a), .val (.double x), .second, .val (.double y), .second] [(.double y), (.double x)]))
    refine own_up (fun _ k => XS.dcmpS X1.here hx rfl (v := (cmpValue (FP.dcmp x y) .l)) (hb hby d1_23) rfl rfl k) ?_
    show own_Go p.tables e below _ (T1.setTop (mkF m 24 #[.val (.ref a), .val (.double x), .second, .val (.double y), .second] [(.int (cmpValue (FP.dcmp x y) .l))]))
    by_cases hc24 : (0 : Int32) < (cmpValue (FP.dcmp x y) .l)
    · refine own_up (fun _ k => XS.ifNo X1.here hx rfl (hb hby d1_24) rfl ((if0 _ _).trans (tlt hc24).2.2.2) k) ?_
      show own_Go p.tables e below _ (T1.setTop (mkF m 27 #[.val (.ref a), .val (.double x), .second, .val (.double y), .second] []))
      refine own_up (fun _ k => XS.iconst X1.here hx rfl (hb hby d1_27) k) ?_
      show own_Go p.tables e below _ (T1.setTop (mkF m 28 #[.val (.ref a), .val (.double x), .second, .val (.double y), .second] [(.int (1 : Int32))]))
      refine own_up (fun _ k => XS.goto X1.here hx rfl (pc0 := 28) (pc' := 32) rfl (hb hby d1_28) (by decide) (by decide) k) ?_
      show own_Go p.tables e below _ (T1.setTop (mkF m 32 #[.val (.ref a), .val (.double x), .second, .val (.double y), .second] [(.int (1 : Int32))]))
      obtain ⟨fs4, hr4, hrun4, hended4, hW4, hsame4⟩ := X1.leave (v := some (.int (1 : Int32))) (fun h => by rw [Bd.returns] at h; cases h)
      refine own_end ⟨_, _, ?_, hrun4, hended4, _, _, rfl, ?_, ⟨_, rfl⟩, hW4, hsame4.mono (by decide) (by decide)⟩
      · exact retN X1 hx (t := .boolean) Bd.returns (by simp) (hb hby d1_32) hr4
      · show Qrm1 Z a x y mn h0 n0 _ T1.heap _
        rw [e1]
        exact ⟨by rw [if_neg hc4, if_pos hc24], N0, rfl⟩
    · refine own_up (fun _ k => XS.ifYes X1.here hx rfl (pc0 := 24) (pc' := 31) rfl (hb hby d1_24) rfl ((if0 _ _).trans (flt hc24).2.2.2) (by decide) (by decide) k) ?_
      show own_Go p.tables e below _ (T1.setTop (mkF m 31 #[.val (.ref a), .val (.double x), .second, .val (.double y), .second] []))
      refine own_up (fun _ k => XS.iconst X1.here hx rfl (hb hby d1_31) k) ?_
      show own_Go p.tables e below _ (T1.setTop (mkF m 32 #[.val (.ref a), .val (.double x), .second, .val (.double y), .second] [(.int (0 : Int32))]))
      obtain ⟨fs5, hr5, hrun5, hended5, hW5, hsame5⟩ := X1.leave (v := some (.int (0 : Int32))) (fun h => by rw [Bd.returns] at h; cases h)
      refine own_end ⟨_, _, ?_, hrun5, hended5, _, _, rfl, ?_, ⟨_, rfl⟩, hW5, hsame5.mono (by decide) (by decide)⟩
      · exact retN X1 hx (t := .boolean) Bd.returns (by simp) (hb hby d1_32) hr5
      · show Qrm1 Z a x y mn h0 n0 _ T1.heap _
        rw [e1]
        exact ⟨by rw [if_neg hc4, if_neg hc24], N0, rfl⟩
theorem pn_1 : plainName "com/example/parley/parley/model/ObjectiveIsBetterPinLaw" = true := by first | (simp [plainName, overriddenIn]; done) | decide +kernel
theorem pd_0 : parseMethodDescriptor "(DD)Z" = some ⟨[.double, .double], some .boolean⟩ := by decide +kernel
theorem ef_rm0 (m : MethodId) (x0 : Int32) (x1 : Int32) (x2 : Int32) : entryFrame m #[(.int x0), (.int x1), (.int x2)] maxLocals = mkF m 0 #[.val (.int x0), .val (.int x1), .val (.int x2), .unset, .unset, .unset, .unset, .unset, .unset, .unset, .unset, .unset, .unset, .unset] [] := by first | (simp [entryFrame, mkF, argsToLocals, Value.category, maxLocals]; done) | rfl
def Qrm0 (Z : State) (p0 : Int32) (p1 : Int32) (p2 : Int32) (mn : Addr) (mx : Addr) (h0 : Heap) (n0 : Nat) (v : Option Value) (h : Heap) (L : List Loc) : Prop := v = some (.int 1) ∧ Fr n0 L
set_option maxRecDepth 65536 in
set_option maxHeartbeats 40000000 in
theorem rm0 (l : Launch) (Z : State) (a0 : Array Value) (hw : ∀ d ∈ tables_1, d.before a0 Z = true) (ws : List Jvm.Cond) (p0 : Int32) (p1 : Int32) (p2 : Int32) (mn : Addr) (mx : Addr) (h0 : Heap) (n0 : Nat) (Z0 : n0 ≤ h0.size) (S_MIN : Sta Z h0 "com/example/parley/parley/model/Objective" "MIN" "Lcom/example/parley/parley/model/Objective;" (.ref mn)) (S_MAX : Sta Z h0 "com/example/parley/parley/model/Objective" "MAX" "Lcom/example/parley/parley/model/Objective;" (.ref mx)) (E_mn : Exa Z h0 mn "com/example/parley/parley/model/Objective") (E_mx : Exa Z h0 mx "com/example/parley/parley/model/Objective") (hmm : ¬ mx = mn) :
    MetFree l x (head1 (Jvm.Cond.code x code maxLocals ret :: ws) room_1) (fun aq Uq => aq = #[(.int p0), (.int p1), (.int p2)] ∧ Z.Warmed39 Uq.vm ∧ Uq.heap = h0) (fun _ _ _ _ _ => True) (fun _ Uq oq Uq' => ∃ vq Lq, oq = .returned vq ∧ Qrm0 Z p0 p1 p2 mn mx h0 n0 vq Uq'.heap Lq ∧ FrameEnd Uq oq Uq' Lq 0 0) := by
  refine MetFree.of_bodySF (plainFor_of_name pn_1) hisR ?_
  intro p e s m args below meth c s₁ Bd hml0 hP hK
  obtain ⟨rfl, hZ, hh⟩ := hP
  have hx := Bd.exec
  have hby := Bd.bytes
  have hml : c.maxLocals = 14 := hml0
  have hown : s.vm.findClass "com/example/parley/parley/model/ObjectiveIsBetterPinLaw" = some m.cls := findClass_of_methodNamed Bd.named
  have hnm := (name_of_methodNamed Bd.named Bd.method).1
  have X0 : Stand p l e room_1 s m #[(.int p0), (.int p1), (.int p2)] below meth c s₁ [] 0 0 := Stand.of_body Bd
  have e0 : s₁.heap = h0 := by rw [← hh, Bd.state]; rfl
  have N0 := Fr.nil n0
  have ZH := Z0
  have KK := Keep.refl h0 []
  refine own_start (fun t k => castTop (ef_rm0 m p0 p1 p2) k) ?_
  show own_Go p.tables e below _ (s₁.setTop (mkF m 0 #[.val (.int p0), .val (.int p1), .val (.int p2), .unset, .unset, .unset, .unset, .unset, .unset, .unset, .unset, .unset, .unset, .unset] []))
  refine own_up (fun _ k => XS.iloadN X0.here hx rfl (hb hby at_0) rfl k) ?_
  show own_Go p.tables e below _ (s₁.setTop (mkF m 1 #[.val (.int p0), .val (.int p1), .val (.int p2), .unset, .unset, .unset, .unset, .unset, .unset, .unset, .unset, .unset, .unset, .unset] [(.int p0)]))
  refine own_up (fun _ k => XS.iconst X0.here hx rfl (hb hby at_1) k) ?_
  show own_Go p.tables e below _ (s₁.setTop (mkF m 2 #[.val (.int p0), .val (.int p1), .val (.int p2), .unset, .unset, .unset, .unset, .unset, .unset, .unset, .unset, .unset, .unset, .unset] [(.int (1 : Int32)), (.int p0)]))
  refine own_up (fun _ k => XS.iand X0.here hx rfl (hb hby at_2) rfl k) ?_
  show own_Go p.tables e below _ (s₁.setTop (mkF m 3 #[.val (.int p0), .val (.int p1), .val (.int p2), .unset, .unset, .unset, .unset, .unset, .unset, .unset, .unset, .unset, .unset, .unset] [(.int (p0 &&& (1 : Int32)))]))
  obtain ⟨v3, hv3⟩ : ∃ z : Int32, z = if (p0 &&& (1 : Int32)) = (0 : Int32) then (1 : Int32) else (0 : Int32) := ⟨_, rfl⟩
  have sg1 : ∀ t, Steps p.tables e below (s₁.setTop (mkF m 11 #[.val (.int p0), .val (.int p1), .val (.int p2), .unset, .unset, .unset, .unset, .unset, .unset, .unset, .unset, .unset, .unset, .unset] [(.int v3)])) t → Steps p.tables e below (s₁.setTop (mkF m 3 #[.val (.int p0), .val (.int p1), .val (.int p2), .unset, .unset, .unset, .unset, .unset, .unset, .unset, .unset, .unset, .unset, .unset] [(.int (p0 &&& (1 : Int32)))])) t := by
    intro t k
    by_cases hc3 : (p0 &&& (1 : Int32)) = (0 : Int32)
    · rw [hv3, if_pos hc3] at k
      refine XS.ifNo X0.here hx rfl (hb hby at_3) rfl ((if0 _ _).trans (teq hc3).2) ?_
      show Steps p.tables e below (s₁.setTop (mkF m 6 #[.val (.int p0), .val (.int p1), .val (.int p2), .unset, .unset, .unset, .unset, .unset, .unset, .unset, .unset, .unset, .unset, .unset] [])) _
      refine XS.iconst X0.here hx rfl (hb hby at_6) ?_
      show Steps p.tables e below (s₁.setTop (mkF m 7 #[.val (.int p0), .val (.int p1), .val (.int p2), .unset, .unset, .unset, .unset, .unset, .unset, .unset, .unset, .unset, .unset, .unset] [(.int (1 : Int32))])) _
      refine XS.goto X0.here hx rfl (pc0 := 7) (pc' := 11) rfl (hb hby at_7) (by decide) (by decide) ?_
      show Steps p.tables e below (s₁.setTop (mkF m 11 #[.val (.int p0), .val (.int p1), .val (.int p2), .unset, .unset, .unset, .unset, .unset, .unset, .unset, .unset, .unset, .unset, .unset] [(.int (1 : Int32))])) _
      exact k
    · rw [hv3, if_neg hc3] at k
      refine XS.ifYes X0.here hx rfl (pc0 := 3) (pc' := 10) rfl (hb hby at_3) rfl ((if0 _ _).trans (feq hc3).2) (by decide) (by decide) ?_
      show Steps p.tables e below (s₁.setTop (mkF m 10 #[.val (.int p0), .val (.int p1), .val (.int p2), .unset, .unset, .unset, .unset, .unset, .unset, .unset, .unset, .unset, .unset, .unset] [])) _
      refine XS.iconst X0.here hx rfl (hb hby at_10) ?_
      show Steps p.tables e below (s₁.setTop (mkF m 11 #[.val (.int p0), .val (.int p1), .val (.int p2), .unset, .unset, .unset, .unset, .unset, .unset, .unset, .unset, .unset, .unset, .unset] [(.int (0 : Int32))])) _
      exact k
  refine own_up sg1 ?_
  show own_Go p.tables e below _ (s₁.setTop (mkF m 11 #[.val (.int p0), .val (.int p1), .val (.int p2), .unset, .unset, .unset, .unset, .unset, .unset, .unset, .unset, .unset, .unset, .unset] [(.int v3)]))
  refine own_up (fun _ k => XS.istoreN X0.here hx rfl (hb hby at_11) rfl (l' := #[.val (.int p0), .val (.int p1), .val (.int p2), .val (.int v3), .unset, .unset, .unset, .unset, .unset, .unset, .unset, .unset, .unset, .unset]) rfl k) ?_
  show own_Go p.tables e below _ (s₁.setTop (mkF m 12 #[.val (.int p0), .val (.int p1), .val (.int p2), .val (.int v3), .unset, .unset, .unset, .unset, .unset, .unset, .unset, .unset, .unset, .unset] []))
  refine own_up (fun _ k => XS.iloadN X0.here hx rfl (hb hby at_12) rfl k) ?_
  show own_Go p.tables e below _ (s₁.setTop (mkF m 13 #[.val (.int p0), .val (.int p1), .val (.int p2), .val (.int v3), .unset, .unset, .unset, .unset, .unset, .unset, .unset, .unset, .unset, .unset] [(.int p0)]))
  refine own_up (fun _ k => XS.iconst X0.here hx rfl (hb hby at_13) k) ?_
  show own_Go p.tables e below _ (s₁.setTop (mkF m 14 #[.val (.int p0), .val (.int p1), .val (.int p2), .val (.int v3), .unset, .unset, .unset, .unset, .unset, .unset, .unset, .unset, .unset, .unset] [(.int (2 : Int32)), (.int p0)]))
  refine own_up (fun _ k => XS.iand X0.here hx rfl (hb hby at_14) rfl k) ?_
  show own_Go p.tables e below _ (s₁.setTop (mkF m 15 #[.val (.int p0), .val (.int p1), .val (.int p2), .val (.int v3), .unset, .unset, .unset, .unset, .unset, .unset, .unset, .unset, .unset, .unset] [(.int (p0 &&& (2 : Int32)))]))
  obtain ⟨v15, hv15⟩ : ∃ z : Int32, z = if (p0 &&& (2 : Int32)) = (0 : Int32) then (0 : Int32) else (1 : Int32) := ⟨_, rfl⟩
  have sg2 : ∀ t, Steps p.tables e below (s₁.setTop (mkF m 23 #[.val (.int p0), .val (.int p1), .val (.int p2), .val (.int v3), .unset, .unset, .unset, .unset, .unset, .unset, .unset, .unset, .unset, .unset] [(.int v15)])) t → Steps p.tables e below (s₁.setTop (mkF m 15 #[.val (.int p0), .val (.int p1), .val (.int p2), .val (.int v3), .unset, .unset, .unset, .unset, .unset, .unset, .unset, .unset, .unset, .unset] [(.int (p0 &&& (2 : Int32)))])) t := by
    intro t k
    by_cases hc15 : (p0 &&& (2 : Int32)) = (0 : Int32)
    · rw [hv15, if_pos hc15] at k
      refine XS.ifYes X0.here hx rfl (pc0 := 15) (pc' := 22) rfl (hb hby at_15) rfl ((if0 _ _).trans (teq hc15).1) (by decide) (by decide) ?_
      show Steps p.tables e below (s₁.setTop (mkF m 22 #[.val (.int p0), .val (.int p1), .val (.int p2), .val (.int v3), .unset, .unset, .unset, .unset, .unset, .unset, .unset, .unset, .unset, .unset] [])) _
      refine XS.iconst X0.here hx rfl (hb hby at_22) ?_
      show Steps p.tables e below (s₁.setTop (mkF m 23 #[.val (.int p0), .val (.int p1), .val (.int p2), .val (.int v3), .unset, .unset, .unset, .unset, .unset, .unset, .unset, .unset, .unset, .unset] [(.int (0 : Int32))])) _
      exact k
    · rw [hv15, if_neg hc15] at k
      refine XS.ifNo X0.here hx rfl (hb hby at_15) rfl ((if0 _ _).trans (feq hc15).1) ?_
      show Steps p.tables e below (s₁.setTop (mkF m 18 #[.val (.int p0), .val (.int p1), .val (.int p2), .val (.int v3), .unset, .unset, .unset, .unset, .unset, .unset, .unset, .unset, .unset, .unset] [])) _
      refine XS.iconst X0.here hx rfl (hb hby at_18) ?_
      show Steps p.tables e below (s₁.setTop (mkF m 19 #[.val (.int p0), .val (.int p1), .val (.int p2), .val (.int v3), .unset, .unset, .unset, .unset, .unset, .unset, .unset, .unset, .unset, .unset] [(.int (1 : Int32))])) _
      refine XS.goto X0.here hx rfl (pc0 := 19) (pc' := 23) rfl (hb hby at_19) (by decide) (by decide) ?_
      show Steps p.tables e below (s₁.setTop (mkF m 23 #[.val (.int p0), .val (.int p1), .val (.int p2), .val (.int v3), .unset, .unset, .unset, .unset, .unset, .unset, .unset, .unset, .unset, .unset] [(.int (1 : Int32))])) _
      exact k
  refine own_up sg2 ?_
  show own_Go p.tables e below _ (s₁.setTop (mkF m 23 #[.val (.int p0), .val (.int p1), .val (.int p2), .val (.int v3), .unset, .unset, .unset, .unset, .unset, .unset, .unset, .unset, .unset, .unset] [(.int v15)]))
  refine own_up (fun _ k => XS.istore X0.here hx rfl (hb hby at_23) rfl (l' := #[.val (.int p0), .val (.int p1), .val (.int p2), .val (.int v3), .val (.int v15), .unset, .unset, .unset, .unset, .unset, .unset, .unset, .unset, .unset]) rfl k) ?_
  show own_Go p.tables e below _ (s₁.setTop (mkF m 25 #[.val (.int p0), .val (.int p1), .val (.int p2), .val (.int v3), .val (.int v15), .unset, .unset, .unset, .unset, .unset, .unset, .unset, .unset, .unset] []))
  refine own_up (fun _ k => XS.iloadN X0.here hx rfl (hb hby at_25) rfl k) ?_
  show own_Go p.tables e below _ (s₁.setTop (mkF m 26 #[.val (.int p0), .val (.int p1), .val (.int p2), .val (.int v3), .val (.int v15), .unset, .unset, .unset, .unset, .unset, .unset, .unset, .unset, .unset] [(.int p1)]))
  refine own_up (fun _ k => XS.istore X0.here hx rfl (hb hby at_26) rfl (l' := #[.val (.int p0), .val (.int p1), .val (.int p2), .val (.int v3), .val (.int v15), .val (.int p1), .unset, .unset, .unset, .unset, .unset, .unset, .unset, .unset]) rfl k) ?_
  show own_Go p.tables e below _ (s₁.setTop (mkF m 28 #[.val (.int p0), .val (.int p1), .val (.int p2), .val (.int v3), .val (.int v15), .val (.int p1), .unset, .unset, .unset, .unset, .unset, .unset, .unset, .unset] []))
  refine own_up (fun _ k => XS.iload X0.here hx rfl (hb hby at_28) rfl k) ?_
  show own_Go p.tables e below _ (s₁.setTop (mkF m 30 #[.val (.int p0), .val (.int p1), .val (.int p2), .val (.int v3), .val (.int v15), .val (.int p1), .unset, .unset, .unset, .unset, .unset, .unset, .unset, .unset] [(.int v15)]))
  obtain ⟨v30, hv30⟩ : ∃ z : Int32, z = if v15 = (0 : Int32) then p2 else p1 := ⟨_, rfl⟩
  have sg3 : ∀ t, Steps p.tables e below (s₁.setTop (mkF m 38 #[.val (.int p0), .val (.int p1), .val (.int p2), .val (.int v3), .val (.int v15), .val (.int p1), .unset, .unset, .unset, .unset, .unset, .unset, .unset, .unset] [(.int v30)])) t → Steps p.tables e below (s₁.setTop (mkF m 30 #[.val (.int p0), .val (.int p1), .val (.int p2), .val (.int v3), .val (.int v15), .val (.int p1), .unset, .unset, .unset, .unset, .unset, .unset, .unset, .unset] [(.int v15)])) t := by
    intro t k
    by_cases hc30 : v15 = (0 : Int32)
    · rw [hv30, if_pos hc30] at k
      refine XS.ifYes X0.here hx rfl (pc0 := 30) (pc' := 37) rfl (hb hby at_30) rfl ((if0 _ _).trans (teq hc30).1) (by decide) (by decide) ?_
      show Steps p.tables e below (s₁.setTop (mkF m 37 #[.val (.int p0), .val (.int p1), .val (.int p2), .val (.int v3), .val (.int v15), .val (.int p1), .unset, .unset, .unset, .unset, .unset, .unset, .unset, .unset] [])) _
      refine XS.iloadN X0.here hx rfl (hb hby at_37) rfl ?_
      show Steps p.tables e below (s₁.setTop (mkF m 38 #[.val (.int p0), .val (.int p1), .val (.int p2), .val (.int v3), .val (.int v15), .val (.int p1), .unset, .unset, .unset, .unset, .unset, .unset, .unset, .unset] [(.int p2)])) _
      exact k
    · rw [hv30, if_neg hc30] at k
      refine XS.ifNo X0.here hx rfl (hb hby at_30) rfl ((if0 _ _).trans (feq hc30).1) ?_
      show Steps p.tables e below (s₁.setTop (mkF m 33 #[.val (.int p0), .val (.int p1), .val (.int p2), .val (.int v3), .val (.int v15), .val (.int p1), .unset, .unset, .unset, .unset, .unset, .unset, .unset, .unset] [])) _
      refine XS.iloadN X0.here hx rfl (hb hby at_33) rfl ?_
      show Steps p.tables e below (s₁.setTop (mkF m 34 #[.val (.int p0), .val (.int p1), .val (.int p2), .val (.int v3), .val (.int v15), .val (.int p1), .unset, .unset, .unset, .unset, .unset, .unset, .unset, .unset] [(.int p1)])) _
      refine XS.goto X0.here hx rfl (pc0 := 34) (pc' := 38) rfl (hb hby at_34) (by decide) (by decide) ?_
      show Steps p.tables e below (s₁.setTop (mkF m 38 #[.val (.int p0), .val (.int p1), .val (.int p2), .val (.int v3), .val (.int v15), .val (.int p1), .unset, .unset, .unset, .unset, .unset, .unset, .unset, .unset] [(.int p1)])) _
      exact k
  refine own_up sg3 ?_
  show own_Go p.tables e below _ (s₁.setTop (mkF m 38 #[.val (.int p0), .val (.int p1), .val (.int p2), .val (.int v3), .val (.int v15), .val (.int p1), .unset, .unset, .unset, .unset, .unset, .unset, .unset, .unset] [(.int v30)]))
  refine own_up (fun _ k => XS.istore X0.here hx rfl (hb hby at_38) rfl (l' := #[.val (.int p0), .val (.int p1), .val (.int p2), .val (.int v3), .val (.int v15), .val (.int p1), .val (.int v30), .unset, .unset, .unset, .unset, .unset, .unset, .unset]) rfl k) ?_
  show own_Go p.tables e below _ (s₁.setTop (mkF m 40 #[.val (.int p0), .val (.int p1), .val (.int p2), .val (.int v3), .val (.int v15), .val (.int p1), .val (.int v30), .unset, .unset, .unset, .unset, .unset, .unset, .unset] []))
  refine own_up (fun _ k => XS.iloadN X0.here hx rfl (hb hby at_40) rfl k) ?_
  show own_Go p.tables e below _ (s₁.setTop (mkF m 41 #[.val (.int p0), .val (.int p1), .val (.int p2), .val (.int v3), .val (.int v15), .val (.int p1), .val (.int v30), .unset, .unset, .unset, .unset, .unset, .unset, .unset] [(.int v3)]))
  by_cases hc41 : v3 = (0 : Int32)
  · refine own_up (fun _ k => XS.ifYes X0.here hx rfl (pc0 := 41) (pc' := 50) rfl (hb hby at_41) rfl ((if0 _ _).trans (teq hc41).1) (by decide) (by decide) k) ?_
    show own_Go p.tables e below _ (s₁.setTop (mkF m 50 #[.val (.int p0), .val (.int p1), .val (.int p2), .val (.int v3), .val (.int v15), .val (.int p1), .val (.int v30), .unset, .unset, .unset, .unset, .unset, .unset, .unset] []))
    obtain ⟨T4, X4, e4, st4⟩ := getS2 X0 hx hZ hown (host := "") (Or.inl (hw _ (List.mem_of_getElem? (i := 9) rfl))) Via.refl e0 S_MAX (g := (mkF m 50 #[.val (.int p0), .val (.int p1), .val (.int p2), .val (.int v3), .val (.int v15), .val (.int p1), .val (.int v30), .unset, .unset, .unset, .unset, .unset, .unset, .unset] [])) rfl (hb hby at_50)
    refine own_up st4 ?_
    show own_Go p.tables e below _ (T4.setTop (mkF m 53 #[.val (.int p0), .val (.int p1), .val (.int p2), .val (.int v3), .val (.int v15), .val (.int p1), .val (.int v30), .unset, .unset, .unset, .unset, .unset, .unset, .unset] [(.ref mx)]))
    refine own_up (fun _ k => XS.astore X4.here hx rfl (hb hby at_53) rfl rfl (l' := #[.val (.int p0), .val (.int p1), .val (.int p2), .val (.int v3), .val (.int v15), .val (.int p1), .val (.int v30), .val (.ref mx), .unset, .unset, .unset, .unset, .unset, .unset]) rfl k) ?_
    show own_Go p.tables e below _ (T4.setTop (mkF m 55 #[.val (.int p0), .val (.int p1), .val (.int p2), .val (.int v3), .val (.int v15), .val (.int p1), .val (.int v30), .val (.ref mx), .unset, .unset, .unset, .unset, .unset, .unset] []))
    refine own_up (fun _ k => XS.iload X4.here hx rfl (hb hby at_55) rfl k) ?_
    show own_Go p.tables e below _ (T4.setTop (mkF m 57 #[.val (.int p0), .val (.int p1), .val (.int p2), .val (.int v3), .val (.int v15), .val (.int p1), .val (.int v30), .val (.ref mx), .unset, .unset, .unset, .unset, .unset, .unset] [(.int p1)]))
    refine own_up (fun _ k => XS.i2dS X4.here hx rfl (v := (FP.i2d p1)) (hb hby at_57) rfl rfl k) ?_
    show own_Go p.tables e below _ (T4.setTop (mkF m 58 #[.val (.int p0), .val (.int p1), .val (.int p2), .val (.int v3), .val (.int v15), .val (.int p1), .val (.int v30), .val (.ref mx), .unset, .unset, .unset, .unset, .unset, .unset] [(.double (FP.i2d p1))]))
    refine own_up (fun _ k => XS.dstore X4.here hx rfl (hb hby at_58) rfl (l' := #[.val (.int p0), .val (.int p1), .val (.int p2), .val (.int v3), .val (.int v15), .val (.int p1), .val (.int v30), .val (.ref mx), .val (.double (FP.i2d p1)), .second, .unset, .unset, .unset, .unset]) rfl k) ?_
    show own_Go p.tables e below _ (T4.setTop (mkF m 60 #[.val (.int p0), .val (.int p1), .val (.int p2), .val (.int v3), .val (.int v15), .val (.int p1), .val (.int v30), .val (.ref mx), .val (.double (FP.i2d p1)), .second, .unset, .unset, .unset, .unset] []))
    refine own_up (fun _ k => XS.iload X4.here hx rfl (hb hby at_60) rfl k) ?_
    show own_Go p.tables e below _ (T4.setTop (mkF m 62 #[.val (.int p0), .val (.int p1), .val (.int p2), .val (.int v3), .val (.int v15), .val (.int p1), .val (.int v30), .val (.ref mx), .val (.double (FP.i2d p1)), .second, .unset, .unset, .unset, .unset] [(.int v30)]))
    refine own_up (fun _ k => XS.i2dS X4.here hx rfl (v := (FP.i2d v30)) (hb hby at_62) rfl rfl k) ?_
    show own_Go p.tables e below _ (T4.setTop (mkF m 63 #[.val (.int p0), .val (.int p1), .val (.int p2), .val (.int v3), .val (.int v15), .val (.int p1), .val (.int v30), .val (.ref mx), .val (.double (FP.i2d p1)), .second, .unset, .unset, .unset, .unset] [(.double (FP.i2d v30))]))
    refine own_up (fun _ k => XS.dstore X4.here hx rfl (hb hby at_63) rfl (l' := #[.val (.int p0), .val (.int p1), .val (.int p2), .val (.int v3), .val (.int v15), .val (.int p1), .val (.int v30), .val (.ref mx), .val (.double (FP.i2d p1)), .second, .val (.double (FP.i2d v30)), .second, .unset, .unset]) rfl k) ?_
    show own_Go p.tables e below _ (T4.setTop (mkF m 65 #[.val (.int p0), .val (.int p1), .val (.int p2), .val (.int v3), .val (.int v15), .val (.int p1), .val (.int v30), .val (.ref mx), .val (.double (FP.i2d p1)), .second, .val (.double (FP.i2d v30)), .second, .unset, .unset] []))
    refine own_up (fun _ k => XS.iloadN X4.here hx rfl (hb hby at_65) rfl k) ?_
    show own_Go p.tables e below _ (T4.setTop (mkF m 66 #[.val (.int p0), .val (.int p1), .val (.int p2), .val (.int v3), .val (.int v15), .val (.int p1), .val (.int v30), .val (.ref mx), .val (.double (FP.i2d p1)), .second, .val (.double (FP.i2d v30)), .second, .unset, .unset] [(.int v3)]))
    refine own_up (fun _ k => XS.ifYes X4.here hx rfl (pc0 := 66) (pc' := 86) rfl (hb hby at_66) rfl ((if0 _ _).trans (teq hc41).1) (by decide) (by decide) k) ?_
    show own_Go p.tables e below _ (T4.setTop (mkF m 86 #[.val (.int p0), .val (.int p1), .val (.int p2), .val (.int v3), .val (.int v15), .val (.int p1), .val (.int v30), .val (.ref mx), .val (.double (FP.i2d p1)), .second, .val (.double (FP.i2d v30)), .second, .unset, .unset] []))
    refine own_up (fun _ k => XS.iload X4.here hx rfl (hb hby at_86) rfl k) ?_
    show own_Go p.tables e below _ (T4.setTop (mkF m 88 #[.val (.int p0), .val (.int p1), .val (.int p2), .val (.int v3), .val (.int v15), .val (.int p1), .val (.int v30), .val (.ref mx), .val (.double (FP.i2d p1)), .second, .val (.double (FP.i2d v30)), .second, .unset, .unset] [(.int p1)]))
    refine own_up (fun _ k => XS.iload X4.here hx rfl (hb hby at_88) rfl k) ?_
    show own_Go p.tables e below _ (T4.setTop (mkF m 90 #[.val (.int p0), .val (.int p1), .val (.int p2), .val (.int v3), .val (.int v15), .val (.int p1), .val (.int v30), .val (.ref mx), .val (.double (FP.i2d p1)), .second, .val (.double (FP.i2d v30)), .second, .unset, .unset] [(.int v30), (.int p1)]))
    obtain ⟨v90, hv90⟩ : ∃ z : Int32, z = if v30 < p1 then (1 : Int32) else (0 : Int32) := ⟨_, rfl⟩
    have sg5 : ∀ t, Steps p.tables e below (T4.setTop (mkF m 98 #[.val (.int p0), .val (.int p1), .val (.int p2), .val (.int v3), .val (.int v15), .val (.int p1), .val (.int v30), .val (.ref mx), .val (.double (FP.i2d p1)), .second, .val (.double (FP.i2d v30)), .second, .unset, .unset] [(.int v90)])) t → Steps p.tables e below (T4.setTop (mkF m 90 #[.val (.int p0), .val (.int p1), .val (.int p2), .val (.int v3), .val (.int v15), .val (.int p1), .val (.int v30), .val (.ref mx), .val (.double (FP.i2d p1)), .second, .val (.double (FP.i2d v30)), .second, .unset, .unset] [(.int v30), (.int p1)])) t := by
      intro t k
      by_cases hc90 : v30 < p1
      · rw [hv90, if_pos hc90] at k
        refine XS.icmpNo X4.here hx rfl (hb hby at_90) rfl (tlt hc90).2.2.2 ?_
        show Steps p.tables e below (T4.setTop (mkF m 93 #[.val (.int p0), .val (.int p1), .val (.int p2), .val (.int v3), .val (.int v15), .val (.int p1), .val (.int v30), .val (.ref mx), .val (.double (FP.i2d p1)), .second, .val (.double (FP.i2d v30)), .second, .unset, .unset] [])) _
        refine XS.iconst X4.here hx rfl (hb hby at_93) ?_
        show Steps p.tables e below (T4.setTop (mkF m 94 #[.val (.int p0), .val (.int p1), .val (.int p2), .val (.int v3), .val (.int v15), .val (.int p1), .val (.int v30), .val (.ref mx), .val (.double (FP.i2d p1)), .second, .val (.double (FP.i2d v30)), .second, .unset, .unset] [(.int (1 : Int32))])) _
        refine XS.goto X4.here hx rfl (pc0 := 94) (pc' := 98) rfl (hb hby at_94) (by decide) (by decide) ?_
        show Steps p.tables e below (T4.setTop (mkF m 98 #[.val (.int p0), .val (.int p1), .val (.int p2), .val (.int v3), .val (.int v15), .val (.int p1), .val (.int v30), .val (.ref mx), .val (.double (FP.i2d p1)), .second, .val (.double (FP.i2d v30)), .second, .unset, .unset] [(.int (1 : Int32))])) _
        exact k
      · rw [hv90, if_neg hc90] at k
        refine XS.icmpYes X4.here hx rfl (pc0 := 90) (pc' := 97) rfl (hb hby at_90) rfl (flt hc90).2.2.2 (by decide) (by decide) ?_
        show Steps p.tables e below (T4.setTop (mkF m 97 #[.val (.int p0), .val (.int p1), .val (.int p2), .val (.int v3), .val (.int v15), .val (.int p1), .val (.int v30), .val (.ref mx), .val (.double (FP.i2d p1)), .second, .val (.double (FP.i2d v30)), .second, .unset, .unset] [])) _
        refine XS.iconst X4.here hx rfl (hb hby at_97) ?_
        show Steps p.tables e below (T4.setTop (mkF m 98 #[.val (.int p0), .val (.int p1), .val (.int p2), .val (.int v3), .val (.int v15), .val (.int p1), .val (.int v30), .val (.ref mx), .val (.double (FP.i2d p1)), .second, .val (.double (FP.i2d v30)), .second, .unset, .unset] [(.int (0 : Int32))])) _
        exact k
    refine own_up sg5 ?_
    show own_Go p.tables e below _ (T4.setTop (mkF m 98 #[.val (.int p0), .val (.int p1), .val (.int p2), .val (.int v3), .val (.int v15), .val (.int p1), .val (.int v30), .val (.ref mx), .val (.double (FP.i2d p1)), .second, .val (.double (FP.i2d v30)), .second, .unset, .unset] [(.int v90)]))
    refine own_up (fun _ k => XS.istore X4.here hx rfl (hb hby at_98) rfl (l' := #[.val (.int p0), .val (.int p1), .val (.int p2), .val (.int v3), .val (.int v15), .val (.int p1), .val (.int v30), .val (.ref mx), .val (.double (FP.i2d p1)), .second, .val (.double (FP.i2d v30)), .second, .val (.int v90), .unset]) rfl k) ?_
    show own_Go p.tables e below _ (T4.setTop (mkF m 100 #[.val (.int p0), .val (.int p1), .val (.int p2), .val (.int v3), .val (.int v15), .val (.int p1), .val (.int v30), .val (.ref mx), .val (.double (FP.i2d p1)), .second, .val (.double (FP.i2d v30)), .second, .val (.int v90), .unset] []))
    refine own_up (fun _ k => XS.aload X4.here hx rfl (hb hby at_100) rfl rfl k) ?_
    show own_Go p.tables e below _ (T4.setTop (mkF m 102 #[.val (.int p0), .val (.int p1), .val (.int p2), .val (.int v3), .val (.int v15), .val (.int p1), .val (.int v30), .val (.ref mx), .val (.double (FP.i2d p1)), .second, .val (.double (FP.i2d v30)), .second, .val (.int v90), .unset] [(.ref mx)]))
    refine own_up (fun _ k => XS.dload X4.here hx rfl (hb hby at_102) rfl k) ?_
    show own_Go p.tables e below _ (T4.setTop (mkF m 104 #[.val (.int p0), .val (.int p1), .val (.int p2), .val (.int v3), .val (.int v15), .val (.int p1), .val (.int v30), .val (.ref mx), .val (.double (FP.i2d p1)), .second, .val (.double (FP.i2d v30)), .second, .val (.int v90), .unset] [(.double (FP.i2d p1)), (.ref mx)]))
    refine own_up (fun _ k => XS.dload X4.here hx rfl (hb hby at_104) rfl k) ?_
    show own_Go p.tables e below _ (T4.setTop (mkF m 106 #[.val (.int p0), .val (.int p1), .val (.int p2), .val (.int v3), .val (.int v15), .val (.int p1), .val (.int v30), .val (.ref mx), .val (.double (FP.i2d p1)), .second, .val (.double (FP.i2d v30)), .second, .val (.int v90), .unset] [(.double (FP.i2d v30)), (.double (FP.i2d p1)), (.ref mx)]))
    obtain ⟨cq6, kq6, q6a, q6b, q6c⟩ := isOf hZ e4 E_mx
    obtain ⟨_, _, ⟨T6, L6, k6, n6⟩, -, X6, ⟨Lc6, hQ6, l6, y6, z6⟩, st6⟩ := X4.virtualBack hx (y := (⟨"com/example/parley/parley/model/Objective", "isBetter", "(DD)Z"⟩ : MethodName)) (z := (⟨"com/example/parley/parley/model/Objective", "isBetter", "(DD)Z"⟩ : MethodName)) hown (mvT hZ (hw _ (List.mem_of_getElem? (i := 3) rfl))) (mvT hZ (hw _ (List.mem_of_getElem? (i := 4) rfl))) (notFace_of_selects (args := #[]) (mvT hZ (hw _ (List.mem_of_getElem? (i := 6) rfl)))) (mvT hZ (hw _ (List.mem_of_getElem? (i := 6) rfl))) (mvT hZ (hw _ (List.mem_of_getElem? (i := 5) rfl))) (by decide) (backOf (W := 0) (rm1 l Z a0 hw [] mx (FP.i2d p1) (FP.i2d v30) mn h0 n0 Z0 S_MIN) hZ (hw _ (List.mem_of_getElem? (i := 7) rfl)) (hw _ (List.mem_of_getElem? (i := 1) rfl)) (by decide) (by decide)) q6a q6c (g := (mkF m 106 #[.val (.int p0), .val (.int p1), .val (.int p2), .val (.int v3), .val (.int v15), .val (.int p1), .val (.int v30), .val (.ref mx), .val (.double (FP.i2d p1)), .second, .val (.double (FP.i2d v30)), .second, .val (.int v90), .unset] [(.double (FP.i2d v30)), (.double (FP.i2d p1)), (.ref mx)])) rfl (by rw [hml]; rfl) (Steps.refl _) (argsL := [(.double (FP.i2d p1)), (.double (FP.i2d v30))]) (rest := []) (lenOf pd_0 rfl) rfl (by show 2 * 0 + _ ≤ _; exact Nat.le_of_eq rfl) (hb hby at_106) (fun _ _ => ⟨rfl, e4, (by decide : 0 + 0 ≤ _), (by decide : 0 + 0 ≤ _)⟩)
    dsimp only [Pt.U, Pt.locs, Pt.cells, Pt.slots] at X6 l6 y6 z6 st6 hQ6
    subst l6 y6 z6
    obtain ⟨rfl, Nq6, e6⟩ := hQ6
    have N6 := Fr.app N0 Nq6
    refine own_up (fun _ k => st6.trans k) ?_
    show own_Go p.tables e below _ (T6.setTop (mkF m 109 #[.val (.int p0), .val (.int p1), .val (.int p2), .val (.int v3), .val (.int v15), .val (.int p1), .val (.int v30), .val (.ref mx), .val (.double (FP.i2d p1)), .second, .val (.double (FP.i2d v30)), .second, .val (.int v90), .unset] [(.int (if mx = mn then (if cmpValue (FP.dcmp (FP.i2d p1) (FP.i2d v30)) .g < 0 then (1 : Int32) else 0) else (if 0 < cmpValue (FP.dcmp (FP.i2d p1) (FP.i2d v30)) .l then (1 : Int32) else 0)))]))
    refine own_up (fun _ k => XS.istore X6.here hx rfl (hb hby at_109) rfl (l' := #[.val (.int p0), .val (.int p1), .val (.int p2), .val (.int v3), .val (.int v15), .val (.int p1), .val (.int v30), .val (.ref mx), .val (.double (FP.i2d p1)), .second, .val (.double (FP.i2d v30)), .second, .val (.int v90), .val (.int (if mx = mn then (if cmpValue (FP.dcmp (FP.i2d p1) (FP.i2d v30)) .g < 0 then (1 : Int32) else 0) else (if 0 < cmpValue (FP.dcmp (FP.i2d p1) (FP.i2d v30)) .l then (1 : Int32) else 0)))]) rfl k) ?_
    show own_Go p.tables e below _ (T6.setTop (mkF m 111 #[.val (.int p0), .val (.int p1), .val (.int p2), .val (.int v3), .val (.int v15), .val (.int p1), .val (.int v30), .val (.ref mx), .val (.double (FP.i2d p1)), .second, .val (.double (FP.i2d v30)), .second, .val (.int v90), .val (.int (if mx = mn then (if cmpValue (FP.dcmp (FP.i2d p1) (FP.i2d v30)) .g < 0 then (1 : Int32) else 0) else (if 0 < cmpValue (FP.dcmp (FP.i2d p1) (FP.i2d v30)) .l then (1 : Int32) else 0)))] []))
    refine own_up (fun _ k => XS.iload X6.here hx rfl (hb hby at_111) rfl k) ?_
    show own_Go p.tables e below _ (T6.setTop (mkF m 113 #[.val (.int p0), .val (.int p1), .val (.int p2), .val (.int v3), .val (.int v15), .val (.int p1), .val (.int v30), .val (.ref mx), .val (.double (FP.i2d p1)), .second, .val (.double (FP.i2d v30)), .second, .val (.int v90), .val (.int (if mx = mn then (if cmpValue (FP.dcmp (FP.i2d p1) (FP.i2d v30)) .g < 0 then (1 : Int32) else 0) else (if 0 < cmpValue (FP.dcmp (FP.i2d p1) (FP.i2d v30)) .l then (1 : Int32) else 0)))] [(.int (if mx = mn then (if cmpValue (FP.dcmp (FP.i2d p1) (FP.i2d v30)) .g < 0 then (1 : Int32) else 0) else (if 0 < cmpValue (FP.dcmp (FP.i2d p1) (FP.i2d v30)) .l then (1 : Int32) else 0)))]))
    refine own_up (fun _ k => XS.iload X6.here hx rfl (hb hby at_113) rfl k) ?_
    show own_Go p.tables e below _ (T6.setTop (mkF m 115 #[.val (.int p0), .val (.int p1), .val (.int p2), .val (.int v3), .val (.int v15), .val (.int p1), .val (.int v30), .val (.ref mx), .val (.double (FP.i2d p1)), .second, .val (.double (FP.i2d v30)), .second, .val (.int v90), .val (.int (if mx = mn then (if cmpValue (FP.dcmp (FP.i2d p1) (FP.i2d v30)) .g < 0 then (1 : Int32) else 0) else (if 0 < cmpValue (FP.dcmp (FP.i2d p1) (FP.i2d v30)) .l then (1 : Int32) else 0)))] [(.int v90), (.int (if mx = mn then (if cmpValue (FP.dcmp (FP.i2d p1) (FP.i2d v30)) .g < 0 then (1 : Int32) else 0) else (if 0 < cmpValue (FP.dcmp (FP.i2d p1) (FP.i2d v30)) .l then (1 : Int32) else 0)))]))
    refine own_up (fun _ k => XS.icmpNo X6.here hx rfl (hb hby at_115) rfl (teq (own_max hmm p1 v30 v90 hv90)).2 k) ?_
    show own_Go p.tables e below _ (T6.setTop (mkF m 118 #[.val (.int p0), .val (.int p1), .val (.int p2), .val (.int v3), .val (.int v15), .val (.int p1), .val (.int v30), .val (.ref mx), .val (.double (FP.i2d p1)), .second, .val (.double (FP.i2d v30)), .second, .val (.int v90), .val (.int (if mx = mn then (if cmpValue (FP.dcmp (FP.i2d p1) (FP.i2d v30)) .g < 0 then (1 : Int32) else 0) else (if 0 < cmpValue (FP.dcmp (FP.i2d p1) (FP.i2d v30)) .l then (1 : Int32) else 0)))] []))
    refine own_up (fun _ k => XS.iconst X6.here hx rfl (hb hby at_118) k) ?_
    show own_Go p.tables e below _ (T6.setTop (mkF m 119 #[.val (.int p0), .val (.int p1), .val (.int p2), .val (.int v3), .val (.int v15), .val (.int p1), .val (.int v30), .val (.ref mx), .val (.double (FP.i2d p1)), .second, .val (.double (FP.i2d v30)), .second, .val (.int v90), .val (.int (if mx = mn then (if cmpValue (FP.dcmp (FP.i2d p1) (FP.i2d v30)) .g < 0 then (1 : Int32) else 0) else (if 0 < cmpValue (FP.dcmp (FP.i2d p1) (FP.i2d v30)) .l then (1 : Int32) else 0)))] [(.int (1 : Int32))]))
    refine own_up (fun _ k => XS.goto X6.here hx rfl (pc0 := 119) (pc' := 123) rfl (hb hby at_119) (by decide) (by decide) k) ?_
    show own_Go p.tables e below _ (T6.setTop (mkF m 123 #[.val (.int p0), .val (.int p1), .val (.int p2), .val (.int v3), .val (.int v15), .val (.int p1), .val (.int v30), .val (.ref mx), .val (.double (FP.i2d p1)), .second, .val (.double (FP.i2d v30)), .second, .val (.int v90), .val (.int (if mx = mn then (if cmpValue (FP.dcmp (FP.i2d p1) (FP.i2d v30)) .g < 0 then (1 : Int32) else 0) else (if 0 < cmpValue (FP.dcmp (FP.i2d p1) (FP.i2d v30)) .l then (1 : Int32) else 0)))] [(.int (1 : Int32))]))
    obtain ⟨fs7, hr7, hrun7, hended7, hW7, hsame7⟩ := X6.leave (v := some (.int (1 : Int32))) (fun h => by rw [Bd.returns] at h; cases h)
    refine own_end ⟨_, _, ?_, hrun7, hended7, _, _, rfl, ?_, ⟨_, rfl⟩, hW7, hsame7.mono (by decide) (by decide)⟩
    · exact retN X6 hx (t := .boolean) Bd.returns (by simp) (hb hby at_123) hr7
    · show Qrm0 Z p0 p1 p2 mn mx h0 n0 _ T6.heap _
      rw [e6]
      exact ⟨rfl, N6⟩
  · refine own_up (fun _ k => XS.ifNo X0.here hx rfl (hb hby at_41) rfl ((if0 _ _).trans (feq hc41).1) k) ?_
    show own_Go p.tables e below _ (s₁.setTop (mkF m 44 #[.val (.int p0), .val (.int p1), .val (.int p2), .val (.int v3), .val (.int v15), .val (.int p1), .val (.int v30), .unset, .unset, .unset, .unset, .unset, .unset, .unset] []))
    obtain ⟨T8, X8, e8, st8⟩ := getS2 X0 hx hZ hown (host := "") (Or.inl (hw _ (List.mem_of_getElem? (i := 0) rfl))) Via.refl e0 S_MIN (g := (mkF m 44 #[.val (.int p0), .val (.int p1), .val (.int p2), .val (.int v3), .val (.int v15), .val (.int p1), .val (.int v30), .unset, .unset, .unset, .unset, .unset, .unset, .unset] [])) rfl (hb hby at_44)
    refine own_up st8 ?_
    show own_Go p.tables e below _ (T8.setTop (mkF m 47 #[.val (.int p0), .val (.int p1), .val (.int p2), .val (.int v3), .val (.int v15), .val (.int p1), .val (.int v30), .unset, .unset, .unset, .unset, .unset, .unset, .unset] [(.ref mn)]))
    refine own_up (fun _ k => XS.goto X8.here hx rfl (pc0 := 47) (pc' := 53) rfl (hb hby at_47) (by decide) (by decide) k) ?_
    show own_Go p.tables e below _ (T8.setTop (mkF m 53 #[.val (.int p0), .val (.int p1), .val (.int p2), .val (.int v3), .val (.int v15), .val (.int p1), .val (.int v30), .unset, .unset, .unset, .unset, .unset, .unset, .unset] [(.ref mn)]))
    refine own_up (fun _ k => XS.astore X8.here hx rfl (hb hby at_53) rfl rfl (l' := #[.val (.int p0), .val (.int p1), .val (.int p2), .val (.int v3), .val (.int v15), .val (.int p1), .val (.int v30), .val (.ref mn), .unset, .unset, .unset, .unset, .unset, .unset]) rfl k) ?_
    show own_Go p.tables e below _ (T8.setTop (mkF m 55 #[.val (.int p0), .val (.int p1), .val (.int p2), .val (.int v3), .val (.int v15), .val (.int p1), .val (.int v30), .val (.ref mn), .unset, .unset, .unset, .unset, .unset, .unset] []))
    refine own_up (fun _ k => XS.iload X8.here hx rfl (hb hby at_55) rfl k) ?_
    show own_Go p.tables e below _ (T8.setTop (mkF m 57 #[.val (.int p0), .val (.int p1), .val (.int p2), .val (.int v3), .val (.int v15), .val (.int p1), .val (.int v30), .val (.ref mn), .unset, .unset, .unset, .unset, .unset, .unset] [(.int p1)]))
    refine own_up (fun _ k => XS.i2dS X8.here hx rfl (v := (FP.i2d p1)) (hb hby at_57) rfl rfl k) ?_
    show own_Go p.tables e below _ (T8.setTop (mkF m 58 #[.val (.int p0), .val (.int p1), .val (.int p2), .val (.int v3), .val (.int v15), .val (.int p1), .val (.int v30), .val (.ref mn), .unset, .unset, .unset, .unset, .unset, .unset] [(.double (FP.i2d p1))]))
    refine own_up (fun _ k => XS.dstore X8.here hx rfl (hb hby at_58) rfl (l' := #[.val (.int p0), .val (.int p1), .val (.int p2), .val (.int v3), .val (.int v15), .val (.int p1), .val (.int v30), .val (.ref mn), .val (.double (FP.i2d p1)), .second, .unset, .unset, .unset, .unset]) rfl k) ?_
    show own_Go p.tables e below _ (T8.setTop (mkF m 60 #[.val (.int p0), .val (.int p1), .val (.int p2), .val (.int v3), .val (.int v15), .val (.int p1), .val (.int v30), .val (.ref mn), .val (.double (FP.i2d p1)), .second, .unset, .unset, .unset, .unset] []))
    refine own_up (fun _ k => XS.iload X8.here hx rfl (hb hby at_60) rfl k) ?_
    show own_Go p.tables e below _ (T8.setTop (mkF m 62 #[.val (.int p0), .val (.int p1), .val (.int p2), .val (.int v3), .val (.int v15), .val (.int p1), .val (.int v30), .val (.ref mn), .val (.double (FP.i2d p1)), .second, .unset, .unset, .unset, .unset] [(.int v30)]))
    refine own_up (fun _ k => XS.i2dS X8.here hx rfl (v := (FP.i2d v30)) (hb hby at_62) rfl rfl k) ?_
    show own_Go p.tables e below _ (T8.setTop (mkF m 63 #[.val (.int p0), .val (.int p1), .val (.int p2), .val (.int v3), .val (.int v15), .val (.int p1), .val (.int v30), .val (.ref mn), .val (.double (FP.i2d p1)), .second, .unset, .unset, .unset, .unset] [(.double (FP.i2d v30))]))
    refine own_up (fun _ k => XS.dstore X8.here hx rfl (hb hby at_63) rfl (l' := #[.val (.int p0), .val (.int p1), .val (.int p2), .val (.int v3), .val (.int v15), .val (.int p1), .val (.int v30), .val (.ref mn), .val (.double (FP.i2d p1)), .second, .val (.double (FP.i2d v30)), .second, .unset, .unset]) rfl k) ?_
    show own_Go p.tables e below _ (T8.setTop (mkF m 65 #[.val (.int p0), .val (.int p1), .val (.int p2), .val (.int v3), .val (.int v15), .val (.int p1), .val (.int v30), .val (.ref mn), .val (.double (FP.i2d p1)), .second, .val (.double (FP.i2d v30)), .second, .unset, .unset] []))
    refine own_up (fun _ k => XS.iloadN X8.here hx rfl (hb hby at_65) rfl k) ?_
    show own_Go p.tables e below _ (T8.setTop (mkF m 66 #[.val (.int p0), .val (.int p1), .val (.int p2), .val (.int v3), .val (.int v15), .val (.int p1), .val (.int v30), .val (.ref mn), .val (.double (FP.i2d p1)), .second, .val (.double (FP.i2d v30)), .second, .unset, .unset] [(.int v3)]))
    refine own_up (fun _ k => XS.ifNo X8.here hx rfl (hb hby at_66) rfl ((if0 _ _).trans (feq hc41).1) k) ?_
    show own_Go p.tables e below _ (T8.setTop (mkF m 69 #[.val (.int p0), .val (.int p1), .val (.int p2), .val (.int v3), .val (.int v15), .val (.int p1), .val (.int v30), .val (.ref mn), .val (.double (FP.i2d p1)), .second, .val (.double (FP.i2d v30)), .second, .unset, .unset] []))
    refine own_up (fun _ k => XS.iload X8.here hx rfl (hb hby at_69) rfl k) ?_
    show own_Go p.tables e below _ (T8.setTop (mkF m 71 #[.val (.int p0), .val (.int p1), .val (.int p2), .val (.int v3), .val (.int v15), .val (.int p1), .val (.int v30), .val (.ref mn), .val (.double (FP.i2d p1)), .second, .val (.double (FP.i2d v30)), .second, .unset, .unset] [(.int p1)]))
    refine own_up (fun _ k => XS.iload X8.here hx rfl (hb hby at_71) rfl k) ?_
    show own_Go p.tables e below _ (T8.setTop (mkF m 73 #[.val (.int p0), .val (.int p1), .val (.int p2), .val (.int v3), .val (.int v15), .val (.int p1), .val (.int v30), .val (.ref mn), .val (.double (FP.i2d p1)), .second, .val (.double (FP.i2d v30)), .second, .unset, .unset] [(.int v30), (.int p1)]))
    obtain ⟨v73, hv73⟩ : ∃ z : Int32, z = if p1 < v30 then (1 : Int32) else (0 : Int32) := ⟨_, rfl⟩
    have sg9 : ∀ t, Steps p.tables e below (T8.setTop (mkF m 81 #[.val (.int p0), .val (.int p1), .val (.int p2), .val (.int v3), .val (.int v15), .val (.int p1), .val (.int v30), .val (.ref mn), .val (.double (FP.i2d p1)), .second, .val (.double (FP.i2d v30)), .second, .unset, .unset] [(.int v73)])) t → Steps p.tables e below (T8.setTop (mkF m 73 #[.val (.int p0), .val (.int p1), .val (.int p2), .val (.int v3), .val (.int v15), .val (.int p1), .val (.int v30), .val (.ref mn), .val (.double (FP.i2d p1)), .second, .val (.double (FP.i2d v30)), .second, .unset, .unset] [(.int v30), (.int p1)])) t := by
      intro t k
      by_cases hc73 : p1 < v30
      · rw [hv73, if_pos hc73] at k
        refine XS.icmpNo X8.here hx rfl (hb hby at_73) rfl (tlt hc73).2.1 ?_
        show Steps p.tables e below (T8.setTop (mkF m 76 #[.val (.int p0), .val (.int p1), .val (.int p2), .val (.int v3), .val (.int v15), .val (.int p1), .val (.int v30), .val (.ref mn), .val (.double (FP.i2d p1)), .second, .val (.double (FP.i2d v30)), .second, .unset, .unset] [])) _
        refine XS.iconst X8.here hx rfl (hb hby at_76) ?_
        show Steps p.tables e below (T8.setTop (mkF m 77 #[.val (.int p0), .val (.int p1), .val (.int p2), .val (.int v3), .val (.int v15), .val (.int p1), .val (.int v30), .val (.ref mn), .val (.double (FP.i2d p1)), .second, .val (.double (FP.i2d v30)), .second, .unset, .unset] [(.int (1 : Int32))])) _
        refine XS.goto X8.here hx rfl (pc0 := 77) (pc' := 81) rfl (hb hby at_77) (by decide) (by decide) ?_
        show Steps p.tables e below (T8.setTop (mkF m 81 #[.val (.int p0), .val (.int p1), .val (.int p2), .val (.int v3), .val (.int v15), .val (.int p1), .val (.int v30), .val (.ref mn), .val (.double (FP.i2d p1)), .second, .val (.double (FP.i2d v30)), .second, .unset, .unset] [(.int (1 : Int32))])) _
        exact k
      · rw [hv73, if_neg hc73] at k
        refine XS.icmpYes X8.here hx rfl (pc0 := 73) (pc' := 80) rfl (hb hby at_73) rfl (flt hc73).2.1 (by decide) (by decide) ?_
        show Steps p.tables e below (T8.setTop (mkF m 80 #[.val (.int p0), .val (.int p1), .val (.int p2), .val (.int v3), .val (.int v15), .val (.int p1), .val (.int v30), .val (.ref mn), .val (.double (FP.i2d p1)), .second, .val (.double (FP.i2d v30)), .second, .unset, .unset] [])) _
        refine XS.iconst X8.here hx rfl (hb hby at_80) ?_
        show Steps p.tables e below (T8.setTop (mkF m 81 #[.val (.int p0), .val (.int p1), .val (.int p2), .val (.int v3), .val (.int v15), .val (.int p1), .val (.int v30), .val (.ref mn), .val (.double (FP.i2d p1)), .second, .val (.double (FP.i2d v30)), .second, .unset, .unset] [(.int (0 : Int32))])) _
        exact k
    refine own_up sg9 ?_
    show own_Go p.tables e below _ (T8.setTop (mkF m 81 #[.val (.int p0), .val (.int p1), .val (.int p2), .val (.int v3), .val (.int v15), .val (.int p1), .val (.int v30), .val (.ref mn), .val (.double (FP.i2d p1)), .second, .val (.double (FP.i2d v30)), .second, .unset, .unset] [(.int v73)]))
    refine own_up (fun _ k => XS.istore X8.here hx rfl (hb hby at_81) rfl (l' := #[.val (.int p0), .val (.int p1), .val (.int p2), .val (.int v3), .val (.int v15), .val (.int p1), .val (.int v30), .val (.ref mn), .val (.double (FP.i2d p1)), .second, .val (.double (FP.i2d v30)), .second, .val (.int v73), .unset]) rfl k) ?_
    show own_Go p.tables e below _ (T8.setTop (mkF m 83 #[.val (.int p0), .val (.int p1), .val (.int p2), .val (.int v3), .val (.int v15), .val (.int p1), .val (.int v30), .val (.ref mn), .val (.double (FP.i2d p1)), .second, .val (.double (FP.i2d v30)), .second, .val (.int v73), .unset] []))
    refine own_up (fun _ k => XS.goto X8.here hx rfl (pc0 := 83) (pc' := 100) rfl (hb hby at_83) (by decide) (by decide) k) ?_
    show own_Go p.tables e below _ (T8.setTop (mkF m 100 #[.val (.int p0), .val (.int p1), .val (.int p2), .val (.int v3), .val (.int v15), .val (.int p1), .val (.int v30), .val (.ref mn), .val (.double (FP.i2d p1)), .second, .val (.double (FP.i2d v30)), .second, .val (.int v73), .unset] []))
    refine own_up (fun _ k => XS.aload X8.here hx rfl (hb hby at_100) rfl rfl k) ?_
    show own_Go p.tables e below _ (T8.setTop (mkF m 102 #[.val (.int p0), .val (.int p1), .val (.int p2), .val (.int v3), .val (.int v15), .val (.int p1), .val (.int v30), .val (.ref mn), .val (.double (FP.i2d p1)), .second, .val (.double (FP.i2d v30)), .second, .val (.int v73), .unset] [(.ref mn)]))
    refine own_up (fun _ k => XS.dload X8.here hx rfl (hb hby at_102) rfl k) ?_
    show own_Go p.tables e below _ (T8.setTop (mkF m 104 #[.val (.int p0), .val (.int p1), .val (.int p2), .val (.int v3), .val (.int v15), .val (.int p1), .val (.int v30), .val (.ref mn), .val (.double (FP.i2d p1)), .second, .val (.double (FP.i2d v30)), .second, .val (.int v73), .unset] [(.double (FP.i2d p1)), (.ref mn)]))
    refine own_up (fun _ k => XS.dload X8.here hx rfl (hb hby at_104) rfl k) ?_
    show own_Go p.tables e below _ (T8.setTop (mkF m 106 #[.val (.int p0), .val (.int p1), .val (.int p2), .val (.int v3), .val (.int v15), .val (.int p1), .val (.int v30), .val (.ref mn), .val (.double (FP.i2d p1)), .second, .val (.double (FP.i2d v30)), .second, .val (.int v73), .unset] [(.double (FP.i2d v30)), (.double (FP.i2d p1)), (.ref mn)]))
    obtain ⟨cq10, kq10, q10a, q10b, q10c⟩ := isOf hZ e8 E_mn
    obtain ⟨_, _, ⟨T10, L10, k10, n10⟩, -, X10, ⟨Lc10, hQ10, l10, y10, z10⟩, st10⟩ := X8.virtualBack hx (y := (⟨"com/example/parley/parley/model/Objective", "isBetter", "(DD)Z"⟩ : MethodName)) (z := (⟨"com/example/parley/parley/model/Objective", "isBetter", "(DD)Z"⟩ : MethodName)) hown (mvT hZ (hw _ (List.mem_of_getElem? (i := 3) rfl))) (mvT hZ (hw _ (List.mem_of_getElem? (i := 4) rfl))) (notFace_of_selects (args := #[]) (mvT hZ (hw _ (List.mem_of_getElem? (i := 6) rfl)))) (mvT hZ (hw _ (List.mem_of_getElem? (i := 6) rfl))) (mvT hZ (hw _ (List.mem_of_getElem? (i := 5) rfl))) (by decide) (backOf (W := 0) (rm1 l Z a0 hw [] mn (FP.i2d p1) (FP.i2d v30) mn h0 n0 Z0 S_MIN) hZ (hw _ (List.mem_of_getElem? (i := 7) rfl)) (hw _ (List.mem_of_getElem? (i := 1) rfl)) (by decide) (by decide)) q10a q10c (g := (mkF m 106 #[.val (.int p0), .val (.int p1), .val (.int p2), .val (.int v3), .val (.int v15), .val (.int p1), .val (.int v30), .val (.ref mn), .val (.double (FP.i2d p1)), .second, .val (.double (FP.i2d v30)), .second, .val (.int v73), .unset] [(.double (FP.i2d v30)), (.double (FP.i2d p1)), (.ref mn)])) rfl (by rw [hml]; rfl) (Steps.refl _) (argsL := [(.double (FP.i2d p1)), (.double (FP.i2d v30))]) (rest := []) (lenOf pd_0 rfl) rfl (by show 2 * 0 + _ ≤ _; exact Nat.le_of_eq rfl) (hb hby at_106) (fun _ _ => ⟨rfl, e8, (by decide : 0 + 0 ≤ _), (by decide : 0 + 0 ≤ _)⟩)
    dsimp only [Pt.U, Pt.locs, Pt.cells, Pt.slots] at X10 l10 y10 z10 st10 hQ10
    subst l10 y10 z10
    obtain ⟨rfl, Nq10, e10⟩ := hQ10
    have N10 := Fr.app N0 Nq10
    refine own_up (fun _ k => st10.trans k) ?_
    show own_Go p.tables e below _ (T10.setTop (mkF m 109 #[.val (.int p0), .val (.int p1), .val (.int p2), .val (.int v3), .val (.int v15), .val (.int p1), .val (.int v30), .val (.ref mn), .val (.double (FP.i2d p1)), .second, .val (.double (FP.i2d v30)), .second, .val (.int v73), .unset] [(.int (if mn = mn then (if cmpValue (FP.dcmp (FP.i2d p1) (FP.i2d v30)) .g < 0 then (1 : Int32) else 0) else (if 0 < cmpValue (FP.dcmp (FP.i2d p1) (FP.i2d v30)) .l then (1 : Int32) else 0)))]))
    refine own_up (fun _ k => XS.istore X10.here hx rfl (hb hby at_109) rfl (l' := #[.val (.int p0), .val (.int p1), .val (.int p2), .val (.int v3), .val (.int v15), .val (.int p1), .val (.int v30), .val (.ref mn), .val (.double (FP.i2d p1)), .second, .val (.double (FP.i2d v30)), .second, .val (.int v73), .val (.int (if mn = mn then (if cmpValue (FP.dcmp (FP.i2d p1) (FP.i2d v30)) .g < 0 then (1 : Int32) else 0) else (if 0 < cmpValue (FP.dcmp (FP.i2d p1) (FP.i2d v30)) .l then (1 : Int32) else 0)))]) rfl k) ?_
    show own_Go p.tables e below _ (T10.setTop (mkF m 111 #[.val (.int p0), .val (.int p1), .val (.int p2), .val (.int v3), .val (.int v15), .val (.int p1), .val (.int v30), .val (.ref mn), .val (.double (FP.i2d p1)), .second, .val (.double (FP.i2d v30)), .second, .val (.int v73), .val (.int (if mn = mn then (if cmpValue (FP.dcmp (FP.i2d p1) (FP.i2d v30)) .g < 0 then (1 : Int32) else 0) else (if 0 < cmpValue (FP.dcmp (FP.i2d p1) (FP.i2d v30)) .l then (1 : Int32) else 0)))] []))
    refine own_up (fun _ k => XS.iload X10.here hx rfl (hb hby at_111) rfl k) ?_
    show own_Go p.tables e below _ (T10.setTop (mkF m 113 #[.val (.int p0), .val (.int p1), .val (.int p2), .val (.int v3), .val (.int v15), .val (.int p1), .val (.int v30), .val (.ref mn), .val (.double (FP.i2d p1)), .second, .val (.double (FP.i2d v30)), .second, .val (.int v73), .val (.int (if mn = mn then (if cmpValue (FP.dcmp (FP.i2d p1) (FP.i2d v30)) .g < 0 then (1 : Int32) else 0) else (if 0 < cmpValue (FP.dcmp (FP.i2d p1) (FP.i2d v30)) .l then (1 : Int32) else 0)))] [(.int (if mn = mn then (if cmpValue (FP.dcmp (FP.i2d p1) (FP.i2d v30)) .g < 0 then (1 : Int32) else 0) else (if 0 < cmpValue (FP.dcmp (FP.i2d p1) (FP.i2d v30)) .l then (1 : Int32) else 0)))]))
    refine own_up (fun _ k => XS.iload X10.here hx rfl (hb hby at_113) rfl k) ?_
    show own_Go p.tables e below _ (T10.setTop (mkF m 115 #[.val (.int p0), .val (.int p1), .val (.int p2), .val (.int v3), .val (.int v15), .val (.int p1), .val (.int v30), .val (.ref mn), .val (.double (FP.i2d p1)), .second, .val (.double (FP.i2d v30)), .second, .val (.int v73), .val (.int (if mn = mn then (if cmpValue (FP.dcmp (FP.i2d p1) (FP.i2d v30)) .g < 0 then (1 : Int32) else 0) else (if 0 < cmpValue (FP.dcmp (FP.i2d p1) (FP.i2d v30)) .l then (1 : Int32) else 0)))] [(.int v73), (.int (if mn = mn then (if cmpValue (FP.dcmp (FP.i2d p1) (FP.i2d v30)) .g < 0 then (1 : Int32) else 0) else (if 0 < cmpValue (FP.dcmp (FP.i2d p1) (FP.i2d v30)) .l then (1 : Int32) else 0)))]))
    refine own_up (fun _ k => XS.icmpNo X10.here hx rfl (hb hby at_115) rfl (teq (own_min p1 v30 v73 hv73)).2 k) ?_
    show own_Go p.tables e below _ (T10.setTop (mkF m 118 #[.val (.int p0), .val (.int p1), .val (.int p2), .val (.int v3), .val (.int v15), .val (.int p1), .val (.int v30), .val (.ref mn), .val (.double (FP.i2d p1)), .second, .val (.double (FP.i2d v30)), .second, .val (.int v73), .val (.int (if mn = mn then (if cmpValue (FP.dcmp (FP.i2d p1) (FP.i2d v30)) .g < 0 then (1 : Int32) else 0) else (if 0 < cmpValue (FP.dcmp (FP.i2d p1) (FP.i2d v30)) .l then (1 : Int32) else 0)))] []))
    refine own_up (fun _ k => XS.iconst X10.here hx rfl (hb hby at_118) k) ?_
    show own_Go p.tables e below _ (T10.setTop (mkF m 119 #[.val (.int p0), .val (.int p1), .val (.int p2), .val (.int v3), .val (.int v15), .val (.int p1), .val (.int v30), .val (.ref mn), .val (.double (FP.i2d p1)), .second, .val (.double (FP.i2d v30)), .second, .val (.int v73), .val (.int (if mn = mn then (if cmpValue (FP.dcmp (FP.i2d p1) (FP.i2d v30)) .g < 0 then (1 : Int32) else 0) else (if 0 < cmpValue (FP.dcmp (FP.i2d p1) (FP.i2d v30)) .l then (1 : Int32) else 0)))] [(.int (1 : Int32))]))
    refine own_up (fun _ k => XS.goto X10.here hx rfl (pc0 := 119) (pc' := 123) rfl (hb hby at_119) (by decide) (by decide) k) ?_
    show own_Go p.tables e below _ (T10.setTop (mkF m 123 #[.val (.int p0), .val (.int p1), .val (.int p2), .val (.int v3), .val (.int v15), .val (.int p1), .val (.int v30), .val (.ref mn), .val (.double (FP.i2d p1)), .second, .val (.double (FP.i2d v30)), .second, .val (.int v73), .val (.int (if mn = mn then (if cmpValue (FP.dcmp (FP.i2d p1) (FP.i2d v30)) .g < 0 then (1 : Int32) else 0) else (if 0 < cmpValue (FP.dcmp (FP.i2d p1) (FP.i2d v30)) .l then (1 : Int32) else 0)))] [(.int (1 : Int32))]))
    obtain ⟨fs11, hr11, hrun11, hended11, hW11, hsame11⟩ := X10.leave (v := some (.int (1 : Int32))) (fun h => by rw [Bd.returns] at h; cases h)
    refine own_end ⟨_, _, ?_, hrun11, hended11, _, _, rfl, ?_, ⟨_, rfl⟩, hW11, hsame11.mono (by decide) (by decide)⟩
    · exact retN X10 hx (t := .boolean) Bd.returns (by simp) (hb hby at_123) hr11
    · show Qrm0 Z p0 p1 p2 mn mx h0 n0 _ T10.heap _
      rw [e10]
      exact ⟨rfl, N10⟩
set_option maxRecDepth 65536 in
set_option maxHeartbeats 40000000 in
theorem comes_1 {Post : Tables → Env → Array Value → State → Outcome → State → Prop} (hpost : ∀ tb e args s v u, (limb_1_1.after args s (.returned v) u = true ∧ limb_1_2.after args s (.returned v) u = true ∧ True) → FrameEnd s (.returned v) u (Jvm.fieldLocs frame_1_writes args s ++ Jvm.arrayLocs frame_1_arrays args s ++ Jvm.staticLocs frame_1_statics s) 0 0 → Post tb e args s (.returned v) u) :
    ArmFor flags0 classFile x code maxLocals ret World_1 tables_1 room_1 Calls_1 rest_1 Pre_1 Post := by
  intro l hfl _ _ p e ha hc hk s m args below hf hA hF happ hP
  obtain ⟨hcalls, hrest, hpre⟩ := hP
  obtain ⟨-, -, -, hnamed, -, -, -, hat⟩ := (Spec.applies_iff hf).mp happ
  obtain ⟨hg, hn⟩ := and_e (Cond.before_iff.mp (show (Jvm.Cond.and given_1 narrow_1).before args s = true from hpre))
  obtain ⟨gA0, gB0⟩ := and_e hg
  obtain ⟨gA1, gB1⟩ := and_e gB0
  obtain ⟨gA2, gB2⟩ := and_e gB1
  obtain ⟨w0, w1, w2, rfl⟩ : ∃ w0 w1 w2 : Value, args = #[w0, w1, w2] := by
    have hs : args.size = 3 := by simpa [Cond.value, given_1] using gA0
    obtain ⟨L⟩ := args
    match L, hs with
    | [w0, w1, w2], _ => exact ⟨w0, w1, w2, rfl⟩
  have hw := fun d (hd : d ∈ tables_1) => atoms_spec (ws := Jvm.Cond.code x code maxLocals ret :: tables_1) hat d (List.mem_cons_of_mem _ hd)
  have hfit : Fit s := fun {y c} hc i hi => by
    obtain ⟨ha, rfl⟩ := Array.getElem?_eq_some_iff.mp hc
    have q := List.all_eq_true.mp ((Array.all_eq_true_iff_forall_mem.mp hF) _ (Array.getElem_mem ha)) i (List.mem_range.mpr hi)
    simpa [Array.getElem?_eq_getElem hi] using q
  obtain ⟨i0, ei0⟩ := is_v gA1
  obtain rfl : w0 = (.int i0) := Option.some.inj ei0
  obtain ⟨i1, ei1⟩ := is_v gA2
  obtain rfl : w1 = (.int i1) := Option.some.inj ei1
  obtain ⟨i2, ei2⟩ := is_v gB2
  obtain rfl : w2 = (.int i2) := Option.some.inj ei2
  obtain ⟨n1, nB1⟩ := and_e hn
  obtain ⟨n2, nB2⟩ := and_e nB1
  obtain ⟨n3, n4⟩ := and_e nB2
  obtain ⟨mn, evmn⟩ := exa_v n1
  obtain ⟨mx, evmx⟩ := exa_v n2
  have hmm : ¬ mx = mn := by
    intro h
    subst h
    have q3 := own_eqi n3
    have q4 := own_eqi n4
    rw [fld_at evmx] at q3
    rw [fld_at evmn] at q4
    rw [q3] at q4
    exact absurd q4 (by decide)
  obtain ⟨n, o, h1, h2, h3, _, L, rfl, ⟨rfl, N⟩, hq⟩ := rm0 l s _ hw tables_1 i0 i1 i2 mn mx s.heap s.heap.size (Nat.le_refl _) (Sta.start evmn (Or.inr ⟨(hw _ (List.mem_of_getElem? (i := 1) rfl)), (hw _ (List.mem_of_getElem? (i := 2) rfl))⟩)) (Sta.start evmx (Or.inr ⟨(hw _ (List.mem_of_getElem? (i := 1) rfl)), (hw _ (List.mem_of_getElem? (i := 10) rfl))⟩)) (Exa.start evmn n1) (Exa.start evmx n2) hmm p e ha hc hk s m _ below hf ((Spec.applies_iff_loose hf).mp happ).1 ⟨rfl, State.Warmed39.refl s, rfl⟩ trivial
  refine ⟨n, _, h1, h2, h3, hpost _ _ _ _ _ _ ⟨Cond.after_iff.mpr rfl, Cond.after_iff.mpr (eq_i res_at (Term.int_eval (1)) rfl), trivial⟩ ⟨hq.1, hq.2.1, (hq.2.2.sift fun y hy => Or.inr (N y hy)).mono (by decide) (by decide)⟩⟩
theorem main_1_1 : Claimed_1_1 := comes_1 fun _ _ _ _ _ _ h hF => ⟨h.1, hF⟩
theorem main_1_2 : Claimed_1_2 := comes_1 fun _ _ _ _ _ _ h hF => ⟨h.2.1, hF⟩
end Jvm.Pilot.@@N@@
namespace Jvm.Pilot.@@N@@
open Jvm Jvm.ClassFile Sem Op Lib Jvm.Free Jvm.Stand Jvm.Pilot.@@N@@.Jvm.D
/-! MADE BY PROGRAM (witnessworld.py) out of the Statement's table words and the real class files: 12 classes; the members and pool entries that the words name. The judged class is class 1, her method 1. -/
namespace start1
open Jvm.ClassFile
def u (s : String) : CpInfo := .utf8 (stringToUtf16 s)
/-- a pool by its gaps: so many unusable entries, then the entry; so many at the end -/
def gap : Nat → List CpInfo → List CpInfo
  | 0, r => r
  | n + 1, r => .unusable :: gap n r
def poolList (es : List (Nat × CpInfo)) (last : Nat) : List CpInfo := es.foldr (fun e r => gap e.1 (e.2 :: r)) (gap last [])
def pool (es : List (Nat × CpInfo)) (last : Nat) : Array CpInfo := ⟨poolList es last⟩
def fileOf (pool : Array CpInfo) (this : Nat) (attrs : Array Attribute := #[]) (ms : Array MethodInfo := #[]) (fl : Nat := 33) (sup : Nat := 0) (ifs : Array Nat := #[]) (fds : Array FieldInfo := #[]) : ClassFile where
  minorVersion := 0
  majorVersion := 65
  constantPool := pool
  accessFlags := fl
  thisClass := this
  superClass := sup
  interfaces := ifs
  fields := fds
  methods := ms
  attributes := attrs
def plain (name : String) (sup : Option ClassId) : Class where
  name := name
  kind := .ordinary
  loader := none
  accessFlags := 33
  super := sup
  interfaces := #[]
  cf := none
  fields := #[]
  methods := #[]
  instanceTypes := #[]
  staticTypes := #[]
  resolved := #[]
  callSites := []
  init := .initialized
  statics := none
  mirror := none

def pool0 : Array CpInfo := pool [(5, u "<init>"), (0, u "()V"), (1, .class_ 10), (1, u "java/lang/Object")] 113

def k0m0 : Method := { name := "<init>", desc := "()V", sig := { parameters := [], returnType := none }, accessFlags := 1, code := none }
/-- java/lang/Object -/
def k0 : Class := { plain "java/lang/Object" none with
  accessFlags := 33
  interfaces := #[]
  cf := some (fileOf pool0 8 #[] #[{ accessFlags := 1, nameIndex := 5, descriptorIndex := 6, attributes := #[] }] 33 0 #[] #[])
  fields := #[]
  methods := #[k0m0]
  instanceTypes := #[]
  staticTypes := #[]
  resolved := Array.replicate 124 none
  statics := none }

def pool1 : Array CpInfo := pool [(2, .class_ 4), (1, u "java/lang/Object"), (0, u "<init>"), (0, u "()V"), (0, .fieldref 8 9), (0, .class_ 10), (0, .nameAndType 11 12), (0, u "com/example/parley/parley/model/Objective"), (0, u "MIN"), (0, u "Lcom/example/parley/parley/model/Objective;"), (0, .fieldref 8 14), (0, .nameAndType 15 12), (0, u "MAX"), (0, .methodref 8 17), (0, .nameAndType 18 19), (0, u "isBetter"), (0, u "(DD)Z"), (0, .class_ 21), (0, u "com/example/parley/parley/model/ObjectiveIsBetterPinLaw"), (2, u "law"), (0, u "(III)Z")] 3

def k1m0 : Method := { name := "<init>", desc := "()V", sig := { parameters := [], returnType := none }, accessFlags := 1, code := none }
def k1c1 : Code := { maxStack := 5, maxLocals := 14, code := code, exceptionTable := #[], attributes := #[] }
def k1m1 : Method := { name := "law", desc := "(III)Z", sig := { parameters := [.int, .int, .int], returnType := some .boolean }, accessFlags := 9, code := some k1c1 }
/-- com/example/parley/parley/model/ObjectiveIsBetterPinLaw -/
def k1 : Class := { plain "com/example/parley/parley/model/ObjectiveIsBetterPinLaw" (some 0) with
  accessFlags := 49
  interfaces := #[]
  cf := some (fileOf pool1 20 #[] #[{ accessFlags := 1, nameIndex := 5, descriptorIndex := 6, attributes := #[] }, { accessFlags := 9, nameIndex := 24, descriptorIndex := 25, attributes := #[] }] 49 2 #[] #[])
  fields := #[]
  methods := #[k1m0, k1m1]
  instanceTypes := #[]
  staticTypes := #[]
  resolved := Array.replicate 29 none
  statics := none }

def pool2 : Array CpInfo := pool [(1, .class_ 2), (0, u "java/lang/constant/Constable"), (0, .class_ 4), (0, u "java/lang/Object")] 6

/-- java/lang/constant/Constable -/
def k2 : Class := { plain "java/lang/constant/Constable" (some 0) with
  accessFlags := 1537
  interfaces := #[]
  cf := some (fileOf pool2 1 #[] #[] 1537 3 #[] #[])
  fields := #[]
  methods := #[]
  instanceTypes := #[]
  staticTypes := #[]
  resolved := Array.replicate 11 none
  statics := none }

def pool3 : Array CpInfo := pool [(1, .class_ 2), (0, u "java/lang/Comparable"), (0, .class_ 4), (0, u "java/lang/Object")] 7

/-- java/lang/Comparable -/
def k3 : Class := { plain "java/lang/Comparable" (some 0) with
  accessFlags := 1537
  interfaces := #[]
  cf := some (fileOf pool3 1 #[] #[] 1537 3 #[] #[])
  fields := #[]
  methods := #[]
  instanceTypes := #[]
  staticTypes := #[]
  resolved := Array.replicate 12 none
  statics := none }

def pool4 : Array CpInfo := pool [(1, .class_ 2), (0, u "java/io/Serializable"), (0, .class_ 4), (0, u "java/lang/Object")] 2

/-- java/io/Serializable -/
def k4 : Class := { plain "java/io/Serializable" (some 0) with
  accessFlags := 1537
  interfaces := #[]
  cf := some (fileOf pool4 1 #[] #[] 1537 3 #[] #[])
  fields := #[]
  methods := #[]
  instanceTypes := #[]
  staticTypes := #[]
  resolved := Array.replicate 7 none
  statics := none }

def pool5 : Array CpInfo := pool [(2, .class_ 4), (1, u "java/lang/Enum"), (0, u "name"), (0, u "Ljava/lang/String;"), (2, u "ordinal"), (0, u "I"), (1, .class_ 14), (1, u "java/lang/Object"), (4, u "hash"), (86, .class_ 108), (1, u "java/lang/Enum$EnumDesc"), (2, .class_ 112), (0, u "java/lang/constant/Constable"), (0, .class_ 114), (0, u "java/lang/Comparable"), (0, .class_ 116), (0, u "java/io/Serializable")] 87

/-- java/lang/Enum -/
def k5 : Class := { plain "java/lang/Enum" (some 0) with
  accessFlags := 1057
  interfaces := #[2, 3, 4]
  cf := some (fileOf pool5 2 #[.nestMembers #[106]] #[] 1057 12 #[111, 113, 115] #[{ accessFlags := 18, nameIndex := 5, descriptorIndex := 6, attributes := #[] }, { accessFlags := 18, nameIndex := 9, descriptorIndex := 10, attributes := #[] }, { accessFlags := 2, nameIndex := 19, descriptorIndex := 10, attributes := #[] }])
  fields := #[{ name := "name", type := (.object "java/lang/String"), accessFlags := 18, slot := 0, constantValue := 0 }, { name := "ordinal", type := .int, accessFlags := 18, slot := 1, constantValue := 0 }, { name := "hash", type := .int, accessFlags := 2, slot := 2, constantValue := 0 }]
  methods := #[]
  instanceTypes := #[(.object "java/lang/String"), .int, .int]
  staticTypes := #[]
  resolved := Array.replicate 204 none
  statics := none }

def pool6 : Array CpInfo := pool [(1, .class_ 2), (0, u "com/example/parley/parley/model/Objective"), (0, .fieldref 1 4), (0, .nameAndType 5 6), (0, u "MIN"), (0, u "Lcom/example/parley/parley/model/Objective;"), (2, u "MAX"), (2, u "$VALUES"), (0, u "[Lcom/example/parley/parley/model/Objective;"), (6, .class_ 22), (1, u "java/lang/Enum"), (51, u "isBetter"), (0, u "(DD)Z")] 6

def k6c0 : Code := { maxStack := 4, maxLocals := 5, code := prog_104_method_6_code, exceptionTable := #[], attributes := #[] }
def k6m0 : Method := { name := "isBetter", desc := "(DD)Z", sig := { parameters := [.double, .double], returnType := some .boolean }, accessFlags := 1, code := some k6c0 }
/-- com/example/parley/parley/model/Objective -/
def k6 : Class := { plain "com/example/parley/parley/model/Objective" (some 5) with
  accessFlags := 16433
  interfaces := #[]
  cf := some (fileOf pool6 1 #[] #[{ accessFlags := 1, nameIndex := 74, descriptorIndex := 75, attributes := #[] }] 16433 20 #[] #[{ accessFlags := 16409, nameIndex := 5, descriptorIndex := 6, attributes := #[] }, { accessFlags := 16409, nameIndex := 9, descriptorIndex := 6, attributes := #[] }, { accessFlags := 4122, nameIndex := 12, descriptorIndex := 13, attributes := #[] }])
  fields := #[{ name := "MIN", type := (.object "com/example/parley/parley/model/Objective"), accessFlags := 16409, slot := 0, constantValue := 0 }, { name := "MAX", type := (.object "com/example/parley/parley/model/Objective"), accessFlags := 16409, slot := 1, constantValue := 0 }, { name := "$VALUES", type := (.array (.object "com/example/parley/parley/model/Objective")), accessFlags := 4122, slot := 2, constantValue := 0 }]
  methods := #[k6m0]
  instanceTypes := #[(.object "java/lang/String"), .int, .int]
  staticTypes := #[(.object "com/example/parley/parley/model/Objective"), (.object "com/example/parley/parley/model/Objective"), (.array (.object "com/example/parley/parley/model/Objective"))]
  resolved := Array.replicate 82 none
  statics := some 0 }

def pool7 : Array CpInfo := pool [(1, u "java/lang/Cloneable"), (0, .class_ 1), (0, u "java/lang/Object"), (0, .class_ 3)] 3

/-- java/lang/Cloneable -/
def k7 : Class := { plain "java/lang/Cloneable" (some 0) with
  accessFlags := 1537
  interfaces := #[]
  cf := some (fileOf pool7 2 #[] #[] 1537 4 #[] #[])
  fields := #[]
  methods := #[]
  instanceTypes := #[]
  staticTypes := #[]
  resolved := Array.replicate 8 none
  statics := none }

/-- the primitive byte -/
def k8 : Class := { plain "byte" none with kind := .primitive 'B', accessFlags := 0x411 }
/-- [B -/
def k9 : Class := { plain "[B" (some 0) with kind := .array 8 .byte, interfaces := #[7, 4], accessFlags := 1041 }

/-- the primitive int -/
def k10 : Class := { plain "int" none with kind := .primitive 'I', accessFlags := 0x411 }
/-- [I -/
def k11 : Class := { plain "[I" (some 0) with kind := .array 10 .int, interfaces := #[7, 4], accessFlags := 1041 }

def heap : Heap := #[{ cls := 6, slots := #[.ref 1, .ref 2, .null], vm := .statics 6 },
  { cls := 6, slots := #[.null, .int 0, .int 0], vm := .none },
  { cls := 6, slots := #[.null, .int 1, .int 0], vm := .none }]
def classes : Array Class := #[k0, k1, k2, k3, k4, k5, k6, k7, k8, k9, k10, k11]
def interned : List (Array UInt16 × Addr) := []
def slotsUsed : Nat := 9
def theMethod : MethodId := ⟨1, 1⟩
def args0 : Array Value := #[.int 5, .int 7, .int 9]
def aboutOver (below : List Frame) : State where
  vm := { classes := classes, interned := interned.toArray }
  heap := heap
  slotsUsed := slotsUsed
  threads := #[{ frames := .invoking theMethod args0 :: below }]
def below0 : List Frame := [.native { method := ⟨0, 0⟩, args := #[] }]
def about1 : State := aboutOver below0
def p0 : Program := .bare "" "" ""
def e0 : Env := launch0.env 0 0 0
theorem w_frames : about1.frames = Frame.invoking theMethod args0 :: below0 := rfl
set_option maxRecDepth 65536 in
theorem w_args : argsFit about1.vm theMethod args0 = true := by decide +kernel
set_option maxRecDepth 65536 in
theorem w_heap : heapFits about1 = true := by decide +kernel
set_option maxRecDepth 65536 in
theorem w_runnable : about1.curStatus? = some .runnable := by decide +kernel
set_option maxRecDepth 65536 in
theorem w_alone : about1.alone = true := by decide +kernel
set_option maxRecDepth 65536 in
theorem w_named : about1.methodNamed? x = some theMethod := by decide +kernel
set_option maxRecDepth 65536 in
theorem w_hears : about1.hears theMethod below0 = true := by decide +kernel
set_option maxRecDepth 65536 in
theorem w_ripe : about1.ripe theMethod args0 below0 = true := by decide +kernel
theorem w_running : about1.status = .running := rfl
set_option maxRecDepth 65536 in
theorem w_room : about1.hasRoom e0.platform room_1 = true :=
  launch0.hasRoom_least _ room_1 (by decide +kernel) (by decide +kernel) (by decide +kernel) (by decide +kernel) (by decide +kernel) (by decide +kernel)
theorem allAtoms_all (ts : List Jvm.Cond) (a : Array Jvm.Value) (st : Jvm.State) : (allAtoms ts).before a st = ts.all (fun c => c.before a st) := by
  induction ts with
  | nil => rfl
  | cons c t ih =>
    show (Jvm.Cond.and c (allAtoms t)).before a st = _
    rw [Jvm.Cond.before_and, ih, List.all_cons]
def words1 : List Jvm.Cond := Jvm.Cond.code x code maxLocals ret :: tables_1
/-- a 'code' word, met by the world's own term for the bytes: nothing is compared byte by byte -/
theorem code_word {y : MethodName} {bytes : ByteArray} {mx : Nat} {rt : Option FieldType} {a : Array Value} {s : State} {m : MethodId} {meth : Method} {c : Code} (h1 : s.methodNamed? y = some m) (h2 : s.vm.method? m = some meth) (h3 : meth.code = some c) (h4 : c.code = bytes)
    (h5 : (c.maxLocals == mx && c.exceptionTable.isEmpty && decide (c.maxStack ≤ mostOperands) && decide (meth.sig.returnType = rt) && !meth.locks && decide (parseMethodDescriptor y.desc = some meth.sig)) = true) : (Jvm.Cond.code y bytes mx rt).before a s = true := by
  simp only [Bool.and_eq_true, beq_iff_eq, Bool.not_eq_true', decide_eq_true_eq] at h5
  obtain ⟨⟨⟨⟨⟨g1, g2⟩, g3⟩, g4⟩, g5⟩, g6⟩ := h5
  simp [Cond.before, Cond.holds, Cond.value, h1, h2, h3, h4, g1, g2, g3, g4, g5, g6]
def isCode : Jvm.Cond → Bool
  | .code _ _ _ _ => true
  | _ => false
theorem all_split {L : List Jvm.Cond} {P : Jvm.Cond → Bool} (h1 : L.all (fun c => isCode c || P c) = true) (h2 : ∀ c ∈ L.filter isCode, P c = true) : L.all P = true := by
  refine List.all_eq_true.mpr fun c hc => ?_
  have h := List.all_eq_true.mp h1 c hc
  rcases Bool.eq_false_or_eq_true (isCode c) with hi | hi
  · exact h2 c (List.mem_filter.mpr ⟨hc, hi⟩)
  · simpa [hi] using h
set_option maxRecDepth 65536 in
theorem w_c0 : (Jvm.Cond.code x code maxLocals ret).before args0 about1 = true := code_word (m := ⟨1, 1⟩) (meth := k1m1) (c := k1c1) (by decide +kernel) rfl rfl rfl (by decide +kernel)
set_option maxRecDepth 65536 in
theorem w_c1 : (Jvm.Cond.code ({ cls := "com/example/parley/parley/model/Objective", name := "isBetter", desc := "(DD)Z" } : Jvm.MethodName) prog_104_method_6_code (5 : Nat) (Option.some Jvm.ClassFile.FieldType.boolean)).before args0 about1 = true := code_word (m := ⟨6, 0⟩) (meth := k6m0) (c := k6c0) (by decide +kernel) rfl rfl rfl (by decide +kernel)
def codes1 : List Jvm.Cond := [Jvm.Cond.code x code maxLocals ret, Jvm.Cond.code ({ cls := "com/example/parley/parley/model/Objective", name := "isBetter", desc := "(DD)Z" } : Jvm.MethodName) prog_104_method_6_code (5 : Nat) (Option.some Jvm.ClassFile.FieldType.boolean)]
set_option maxRecDepth 65536 in
theorem codes_eq : words1.filter isCode = codes1 := rfl
theorem w_codes : ∀ c ∈ words1.filter isCode, c.before args0 about1 = true := by
  rw [codes_eq]
  intro c hc
  simp only [codes1, List.mem_cons, List.not_mem_nil, or_false] at hc
  rcases hc with rfl | rfl
  · exact w_c0
  · exact w_c1
set_option maxRecDepth 65536 in
theorem w_t1 : words1.all (fun c => isCode c || c.before args0 about1) = true := by decide +kernel
theorem w_tables : (allAtoms (Jvm.Cond.code x code maxLocals ret :: tables_1)).before args0 about1 = true := by
  rw [allAtoms_all]
  show words1.all (fun c => c.before args0 about1) = true
  refine all_split ?_ w_codes
  rw [w_t1]
set_option maxRecDepth 65536 in
theorem w_case : (Jvm.Cond.and given_1 narrow_1).before args0 about1 = true := by decide +kernel
theorem w_applies : (headSpec (Jvm.Cond.code x code maxLocals ret :: tables_1) room_1).applies x e0.platform about1 = true :=
  (Spec.applies_iff w_frames).mpr ⟨w_running, w_runnable, w_alone, w_named, w_hears, w_ripe, w_room, w_tables⟩
theorem atStart : AtStart classFile x code maxLocals ret World_1 tables_1 room_1 Calls_1 rest_1 Pre_1 launch0 p0 e0 about1 theMethod args0 below0 :=
  ⟨lists_1, trivial, launch0.admits_env _ _ _, launch0.least_env, fairChoices_fair.cas, fairChoices_fair.clock, w_frames, w_args, w_heap, w_applies, trivial, trivial, w_case⟩
end start1
theorem witness_1 : WitnessClaimed_1 := ⟨start1.p0, start1.e0, start1.about1, start1.theMethod, start1.args0, start1.below0, start1.atStart⟩
end Jvm.Pilot.@@N@@
