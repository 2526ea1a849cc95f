import JvmDerived
import JvmDerived.Pilot.@@N@@Statement
import JvmDerived.Pilot.@@N@@Code
set_option linter.unusedVariables false
set_option linter.unusedSimpArgs false
/- laws to paste: Road.backV, Road.eqW, Road.codOf (cut by pick.py; bodies as the Statement names them) -/
namespace Jvm.Pilot.@@N@@
namespace StrChars
open Jvm Sem ClassFile Op Lib Jvm.Stand Jvm.Free.XT Jvm.Free.ALB Jvm.Free.JM Jvm.Free
open Jvm.Lib.Cold (StaticIs)
/-- a char array whose places are chars -/
def Ch (a : Addr) (A : Cell) (U : State) : Prop := Arr .char a A U ∧ Typed .char A
theorem Ch.mv {a : Addr} {A : Cell} {U U' : State} (h : Ch a A U) (hal : U.vm.Alike U'.vm) (hh : U'.heap = U.heap) : Ch a A U' := ⟨h.1.mv hal hh, h.2⟩
theorem Ch.keep {a : Addr} {A : Cell} {U U' : State} (h : Ch a A U) (hal : U.vm.Alike U'.vm) (hk : U'.heap[a]? = some A) : Ch a A U' := ⟨h.1.keep hal hk, h.2⟩
/-- what place i of a char[]'s cell holds -/
def cv (A : Cell) (i : Nat) : Int32 := match A.slots[i]? with | some (.int x) => x | _ => 0
theorem Ch.get {a : Addr} {A : Cell} {U : State} (h : Ch a A U) {i : Nat} (hi : i < A.slots.size) : A.slots[i]? = some (.int (cv A i)) := by
  have e := Array.getElem?_eq_getElem hi
  have f := h.2 i _ e
  unfold cv; rw [e]
  generalize A.slots[i] = v at f
  cases v <;> simp [fits] at f ⊢
/-- the byte that i2b leaves of a char -/
def lo8 (x : Int32) : Int32 := x.toInt8.toInt32
theorem fits_lo8 (y : Int32) : fits .byte (.int (lo8 y)) = true := by
  have h1 := y.toInt8.le_toInt
  have h2 := y.toInt8.toInt_lt
  simp only [lo8, fits, Bool.and_eq_true, decide_eq_true_eq, Int32.le_iff_toInt_le, Int8.toInt_toInt32, show (-128 : Int32).toInt = -128 from by decide, show (127 : Int32).toInt = 127 from by decide]
  omega
/-- A' is A but that each place j of lo .. hi - 1 holds f j -/
def Laid (A A' : Cell) (lo hi : Nat) (f : Nat → Value) : Prop := A'.cls = A.cls ∧ A'.vm = A.vm ∧ A'.slots.size = A.slots.size ∧ ∀ i, A'.slots[i]? = if lo ≤ i ∧ i < hi then some (f i) else A.slots[i]?
theorem Laid.zero (A : Cell) (lo : Nat) (f : Nat → Value) : Laid A A lo (lo + 0) f := ⟨rfl, rfl, rfl, fun i => by rw [if_neg (by omega)]⟩
theorem Laid.step {A Ak : Cell} {lo k : Nat} {f : Nat → Value} {v : Value} (h : Laid A Ak lo k f) (hlo : lo ≤ k) (hk : k < Ak.slots.size) (hv : v = f k) : Laid A (Ak.setSlot k v) lo (k + 1) f := by
  refine ⟨h.1, h.2.1, by simpa [Cell.setSlot] using h.2.2.1, fun i => ?_⟩
  by_cases e : k = i
  · subst e; rw [Cell.slots_setSlot_self v hk, if_pos (by omega), hv]
  · rw [Cell.slots_setSlot_ne v e, h.2.2.2 i]
    by_cases q : lo ≤ i ∧ i < k
    · rw [if_pos q, if_pos (by omega)]
    · rw [if_neg q, if_neg (by omega)]
def U16 : String := "java/lang/StringUTF16"
namespace Cmp5
def yN : MethodName := ⟨"java/lang/StringUTF16", "compress", "([CI[BII)I"⟩
abbrev yB : ByteArray := jdk_52_method_21_code
theorem d0 : decode yB 0 = .ok (.iconst 0, 1) := by decide +kernel
theorem d1 : decode yB 1 = .ok (.istore 5, 2) := by decide +kernel
theorem d3 : decode yB 3 = .ok (.iload 5, 2) := by decide +kernel
theorem d5 : decode yB 5 = .ok (.iload 4, 2) := by decide +kernel
theorem d7 : decode yB 7 = .ok (.if_icmp (.ge) 37, 3) := by decide +kernel
theorem d10 : decode yB 10 = .ok (.aload_n 0, 1) := by decide +kernel
theorem d11 : decode yB 11 = .ok (.iload_n 1, 1) := by decide +kernel
theorem d12 : decode yB 12 = .ok (.caload, 1) := by decide +kernel
theorem d13 : decode yB 13 = .ok (.istore 6, 2) := by decide +kernel
theorem d15 : decode yB 15 = .ok (.iload 6, 2) := by decide +kernel
theorem d17 : decode yB 17 = .ok (.sipush 255, 3) := by decide +kernel
theorem d20 : decode yB 20 = .ok (.if_icmp (.le) 6, 3) := by decide +kernel
theorem d26 : decode yB 26 = .ok (.aload_n 2, 1) := by decide +kernel
theorem d27 : decode yB 27 = .ok (.iload_n 3, 1) := by decide +kernel
theorem d28 : decode yB 28 = .ok (.iload 6, 2) := by decide +kernel
theorem d30 : decode yB 30 = .ok (.i2b, 1) := by decide +kernel
theorem d31 : decode yB 31 = .ok (.bastore, 1) := by decide +kernel
theorem d32 : decode yB 32 = .ok (.iinc 1 1, 3) := by decide +kernel
theorem d35 : decode yB 35 = .ok (.iinc 3 1, 3) := by decide +kernel
theorem d38 : decode yB 38 = .ok (.iinc 5 1, 3) := by decide +kernel
theorem d41 : decode yB 41 = .ok (.goto (-38), 3) := by decide +kernel
theorem d44 : decode yB 44 = .ok (.iload 4, 2) := by decide +kernel
theorem d46 : decode yB 46 = .ok (.ireturn, 1) := by decide +kernel
def site : List Cond := []
def tab : Cond := tabOf yN yB 7 (some .int) site
def P (b : Addr) (A : Cell) (d : Addr) (B : Cell) (o q len : Nat) (args : Array Value) (s : State) : Prop := args = #[.ref b, .int (Int32.ofNat o), .ref d, .int (Int32.ofNat q), .int (Int32.ofNat len)] ∧ Ch b A s ∧ Arr .byte d B s ∧ b ≠ d ∧ o + len ≤ A.slots.size ∧ q + len ≤ B.slots.size ∧ ∀ i, i < len → ¬ 255 < cv A (o + i)
def E (b : Addr) (A : Cell) (d : Addr) (B : Cell) (o q len : Nat) (r : Option Value) (s u : State) : Prop := r = some (.int (Int32.ofNat len)) ∧ ∃ B', Put d B' s u ∧ Laid B B' q (q + len) (fun j => Value.int (lo8 (cv A (o + (j - q)))))
/-- no char of the range above 255: len; the places written hold each char's low byte -/
theorem law (l : Launch) (b : Addr) (A : Cell) (d : Addr) (B : Cell) (o q len : Nat) : Law l yN 5 5 0 0 yB 7 (some .int) site (P b A d B o q len) (E b A d B o q len) (copyLocs d q len) 0 0 := by
  refine Law.of_walk (plainFor_of_name (by decide +kernel)) (by decide +kernel) (by decide +kernel) (by decide) (fun _ _ h => by rw [h.1]; rfl) (fun _ U U' hal hh h => ⟨h.1, h.2.1.mv hal hh, h.2.2.1.mv hal hh, h.2.2.2⟩) (fun r U U' V V' h1 hal h2 h => ⟨h.1, h.2.elim fun B' q => ⟨B', q.1.mv h1 h2, q.2⟩⟩) ?_
  intro p e s m args below meth c s₁ X0 hexec hbytes hml hret hlk hnm hown hh0 W hP
  obtain ⟨rfl, hA, hB, hne, l1, l2, hp⟩ := hP
  have c1 : Steps p.tables e below (s₁.setTop (entryFrame m #[.ref b, .int (Int32.ofNat o), .ref d, .int (Int32.ofNat q), .int (Int32.ofNat len)] 7)) (s₁.setTop (mkF m 0 #[.val (.ref b), .val (.int (Int32.ofNat o)), .val (.ref d), .val (.int (Int32.ofNat q)), .val (.int (Int32.ofNat len)), .unset, .unset] [])) := entry rfl
  have hA0 := hA.1.mv X0.warmed.alike hh0
  have hB0 := hB.mv X0.warmed.alike hh0
  have a31 := hA.1.2.2.2
  have c2 : Steps p.tables e below (s₁.setTop (entryFrame m #[.ref b, .int (Int32.ofNat o), .ref d, .int (Int32.ofNat q), .int (Int32.ofNat len)] 7)) (s₁.setTop (mkF m 3 #[.val (.ref b), .val (.int (Int32.ofNat o)), .val (.ref d), .val (.int (Int32.ofNat q)), .val (.int (Int32.ofNat len)), .val (.int 0), .unset] [])) := c1.trans (by
    refine iconstV X0.here hexec rfl 0 (hb hbytes d0) (by decide) ?_
    refine XS.istore X0.here hexec rfl (hb hbytes d1) rfl rfl ?_
    exact Steps.refl _)
  have loop : ∀ (r i : Nat), i + r = len → ∀ (z : Slot), (z = .unset ∨ ∃ w, z = .val w ∧ w.category = 1) → ∀ (Tl : State) (Bk : Cell), Stand p l e { frames := 0, locals := 0, cells := 0, slots := 0 } s m #[.ref b, .int (Int32.ofNat o), .ref d, .int (Int32.ofNat q), .int (Int32.ofNat len)] below meth c Tl ([] ++ copyLocs d q i) 0 0 → Put d Bk s₁ Tl → Laid B Bk q (q + i) (fun j => Value.int (lo8 (cv A (o + (j - q))))) →
      Steps p.tables e below (s₁.setTop (entryFrame m #[.ref b, .int (Int32.ofNat o), .ref d, .int (Int32.ofNat q), .int (Int32.ofNat len)] 7)) (Tl.setTop (mkF m 3 #[.val (.ref b), .val (.int (Int32.ofNat (o + i))), .val (.ref d), .val (.int (Int32.ofNat (q + i))), .val (.int (Int32.ofNat len)), .val (.int (Int32.ofNat i)), z] [])) → ∃ (T' : State) (B' : Cell) (z' : Slot), Stand p l e { frames := 0, locals := 0, cells := 0, slots := 0 } s m #[.ref b, .int (Int32.ofNat o), .ref d, .int (Int32.ofNat q), .int (Int32.ofNat len)] below meth c T' ([] ++ copyLocs d q len) 0 0 ∧ Put d B' s₁ T' ∧ Laid B B' q (q + len) (fun j => Value.int (lo8 (cv A (o + (j - q))))) ∧
      Steps p.tables e below (s₁.setTop (entryFrame m #[.ref b, .int (Int32.ofNat o), .ref d, .int (Int32.ofNat q), .int (Int32.ofNat len)] 7)) (T'.setTop (mkF m 3 #[.val (.ref b), .val (.int (Int32.ofNat (o + len))), .val (.ref d), .val (.int (Int32.ofNat (q + len))), .val (.int (Int32.ofNat len)), .val (.int (Int32.ofNat len)), z'] [])) := by
    intro r
    induction r with
    | zero =>
      intro i hi z hz Tl Bk Xl pl fl cl
      have hil : i = len := by omega
      rw [hil] at Xl fl cl
      exact ⟨Tl, Bk, z, Xl, pl, fl, cl⟩
    | succ r ih =>
      intro i hi z hz Tl Bk Xl pl fl cl
      have all := X0.warmed.alike.symm.trans Xl.warmed.alike
      have hAl := hA0.keep all (pl.other hne hA0.1)
      have hBk := hB0.like all pl.1 fl.1 fl.2.1 fl.2.2.1
      have hlt : q + i < Bk.slots.size := by rw [fl.2.2.1]; omega
      have c3 : Steps p.tables e below (s₁.setTop (entryFrame m #[.ref b, .int (Int32.ofNat o), .ref d, .int (Int32.ofNat q), .int (Int32.ofNat len)] 7)) (Tl.setTop (mkF m 12 #[.val (.ref b), .val (.int (Int32.ofNat (o + i))), .val (.ref d), .val (.int (Int32.ofNat (q + i))), .val (.int (Int32.ofNat len)), .val (.int (Int32.ofNat i)), z] [.int (Int32.ofNat (o + i)), .ref b])) := cl.trans (by
        refine XS.iload Xl.here hexec rfl (hb hbytes d3) rfl ?_
        refine XS.iload Xl.here hexec rfl (hb hbytes d5) rfl ?_
        refine XS.icmpNo Xl.here hexec rfl (hb hbytes d7) rfl (ii_ge_f (lt32 (by omega) (by omega))) ?_
        refine XS.aloadN Xl.here hexec rfl (hb hbytes d10) rfl rfl ?_
        refine XS.iloadN Xl.here hexec rfl (hb hbytes d11) rfl ?_
        exact Steps.refl _)
      have c4 : Steps p.tables e below (s₁.setTop (entryFrame m #[.ref b, .int (Int32.ofNat o), .ref d, .int (Int32.ofNat q), .int (Int32.ofNat len)] 7)) (Tl.setTop (mkF m 13 #[.val (.ref b), .val (.int (Int32.ofNat (o + i))), .val (.ref d), .val (.int (Int32.ofNat (q + i))), .val (.int (Int32.ofNat len)), .val (.int (Int32.ofNat i)), z] [.int (cv A (o + i))])) := c3.trans (by
        refine Xl.aget hexec hAl rfl (hA.get (i := o + i) (by omega)) rfl rfl (hb hbytes d12) ?_
        exact Steps.refl _)
      have c5 : Steps p.tables e below (s₁.setTop (entryFrame m #[.ref b, .int (Int32.ofNat o), .ref d, .int (Int32.ofNat q), .int (Int32.ofNat len)] 7)) (Tl.setTop (mkF m 15 #[.val (.ref b), .val (.int (Int32.ofNat (o + i))), .val (.ref d), .val (.int (Int32.ofNat (q + i))), .val (.int (Int32.ofNat len)), .val (.int (Int32.ofNat i)), .val (.int (cv A (o + i)))] [])) := c4.trans (by
        refine XS.istoreS Xl.here hexec rfl (hb hbytes d13) rfl rfl hz ?_
        exact Steps.refl _)
      have c6 : Steps p.tables e below (s₁.setTop (entryFrame m #[.ref b, .int (Int32.ofNat o), .ref d, .int (Int32.ofNat q), .int (Int32.ofNat len)] 7)) (Tl.setTop (mkF m 31 #[.val (.ref b), .val (.int (Int32.ofNat (o + i))), .val (.ref d), .val (.int (Int32.ofNat (q + i))), .val (.int (Int32.ofNat len)), .val (.int (Int32.ofNat i)), .val (.int (cv A (o + i)))] [.int (lo8 (cv A (o + i))), .int (Int32.ofNat (q + i)), .ref d])) := c5.trans (by
        refine XS.iload Xl.here hexec rfl (hb hbytes d15) rfl ?_
        refine sipushV Xl.here hexec rfl 255 (hb hbytes d17) (by decide) ?_
        refine XS.icmpYes Xl.here hexec rfl (pc0 := 20) rfl (hb hbytes d20) rfl (ii_le_t (hp i (by omega))) (by decide) rfl ?_
        refine XS.aloadN Xl.here hexec rfl (hb hbytes d26) rfl rfl ?_
        refine XS.iloadN Xl.here hexec rfl (hb hbytes d27) rfl ?_
        refine XS.iload Xl.here hexec rfl (hb hbytes d28) rfl ?_
        refine i2b Xl.here hexec rfl (hb hbytes d30) rfl ?_
        exact Steps.refl _)
      obtain ⟨T7, X7, p7, st7⟩ := Xl.aput hexec hBk rfl hlt rfl (fits_lo8 (cv A (o + i))) (g := (mkF m 31 #[.val (.ref b), .val (.int (Int32.ofNat (o + i))), .val (.ref d), .val (.int (Int32.ofNat (q + i))), .val (.int (Int32.ofNat len)), .val (.int (Int32.ofNat i)), .val (.int (cv A (o + i)))] [.int (lo8 (cv A (o + i))), .int (Int32.ofNat (q + i)), .ref d])) rfl (rest := []) rfl (hb hbytes d31)
      have c8 : Steps p.tables e below (s₁.setTop (entryFrame m #[.ref b, .int (Int32.ofNat o), .ref d, .int (Int32.ofNat q), .int (Int32.ofNat len)] 7)) (T7.setTop (mkF m 32 #[.val (.ref b), .val (.int (Int32.ofNat (o + i))), .val (.ref d), .val (.int (Int32.ofNat (q + i))), .val (.int (Int32.ofNat len)), .val (.int (Int32.ofNat i)), .val (.int (cv A (o + i)))] [])) := c6.trans (st7 _ (Steps.refl _))
      have c9 : Steps p.tables e below (s₁.setTop (entryFrame m #[.ref b, .int (Int32.ofNat o), .ref d, .int (Int32.ofNat q), .int (Int32.ofNat len)] 7)) (T7.setTop (mkF m 3 #[.val (.ref b), .val (.int (Int32.ofNat (o + i) + 1)), .val (.ref d), .val (.int (Int32.ofNat (q + i) + 1)), .val (.int (Int32.ofNat len)), .val (.int (Int32.ofNat i + 1)), .val (.int (cv A (o + i)))] [])) := c8.trans (by
        refine iincV X7.here hexec rfl 1 (hb hbytes d32) (by decide) rfl rfl ?_
        refine iincV X7.here hexec rfl 1 (hb hbytes d35) (by decide) rfl rfl ?_
        refine iincV X7.here hexec rfl 1 (hb hbytes d38) (by decide) rfl rfl ?_
        refine XS.goto X7.here hexec rfl (pc0 := 41) rfl (hb hbytes d41) (by decide) rfl ?_
        exact Steps.refl _)
      have c10 : Steps p.tables e below (s₁.setTop (entryFrame m #[.ref b, .int (Int32.ofNat o), .ref d, .int (Int32.ofNat q), .int (Int32.ofNat len)] 7)) (T7.setTop (mkF m 3 #[.val (.ref b), .val (.int (Int32.ofNat (o + (i + 1)))), .val (.ref d), .val (.int (Int32.ofNat (q + (i + 1)))), .val (.int (Int32.ofNat len)), .val (.int (Int32.ofNat (i + 1))), .val (.int (cv A (o + i)))] [])) := by
        have := c9
        rw [succ32, succ32, succ32] at this
        exact this
      exact ih (i + 1) (by omega) _ (Or.inr ⟨_, rfl, rfl⟩) T7 _ (by rw [copyLocs_step, ← List.append_assoc]; exact X7) (pl.trans p7) (fl.step (by omega) hlt (by simp)) c10
  obtain ⟨T9, B9, z9, X9, p9, f9, g9⟩ := loop len 0 (by omega) .unset (Or.inl rfl) s₁ B (by simpa [copyLocs] using X0) ⟨hB0.1, fun _ _ => rfl, rfl⟩ (Laid.zero _ _ _) c2
  have c11 : Steps p.tables e below (s₁.setTop (entryFrame m #[.ref b, .int (Int32.ofNat o), .ref d, .int (Int32.ofNat q), .int (Int32.ofNat len)] 7)) (T9.setTop (mkF m 46 #[.val (.ref b), .val (.int (Int32.ofNat (o + len))), .val (.ref d), .val (.int (Int32.ofNat (q + len))), .val (.int (Int32.ofNat len)), .val (.int (Int32.ofNat len)), z9] [.int (Int32.ofNat len)])) := g9.trans (by
    refine XS.iload X9.here hexec rfl (hb hbytes d3) rfl ?_
    refine XS.iload X9.here hexec rfl (hb hbytes d5) rfl ?_
    refine XS.icmpYes X9.here hexec rfl (pc0 := 7) rfl (hb hbytes d7) rfl (ii_ge_t (nlt32 (by omega) (Nat.le_refl _))) (by decide) rfl ?_
    refine XS.iload X9.here hexec rfl (hb hbytes d44) rfl ?_
    exact Steps.refl _)
  exact ⟨T9, some (.int (Int32.ofNat len)), _, _, _, X9, by simp, rfl, rfl, (fun h => by cases h), ⟨rfl, B9, p9.from hh0, f9⟩, fun fs hl => c11.trans (X9.ireturnOut hexec hret rfl (Or.inl rfl) (hb hbytes d46) hl)⟩
end Cmp5
namespace Cmp3
def yN : MethodName := ⟨"java/lang/StringUTF16", "compress", "([CII)[B"⟩
abbrev yB : ByteArray := jdk_52_method_16_code
theorem d0 : decode yB 0 = .ok (.iload_n 2, 1) := by decide +kernel
theorem d1 : decode yB 1 = .ok (.newarray .byte, 2) := by decide +kernel
theorem d3 : decode yB 3 = .ok (.astore_n 3, 1) := by decide +kernel
theorem d4 : decode yB 4 = .ok (.aload_n 0, 1) := by decide +kernel
theorem d5 : decode yB 5 = .ok (.iload_n 1, 1) := by decide +kernel
theorem d6 : decode yB 6 = .ok (.aload_n 3, 1) := by decide +kernel
theorem d7 : decode yB 7 = .ok (.iconst 0, 1) := by decide +kernel
theorem d8 : decode yB 8 = .ok (.iload_n 2, 1) := by decide +kernel
theorem d9 : decode yB 9 = .ok (.invokestatic 115, 3) := by decide +kernel
theorem d12 : decode yB 12 = .ok (.istore 4, 2) := by decide +kernel
theorem d14 : decode yB 14 = .ok (.iload 4, 2) := by decide +kernel
theorem d16 : decode yB 16 = .ok (.iload_n 2, 1) := by decide +kernel
theorem d17 : decode yB 17 = .ok (.if_icmp (.eq) 40, 3) := by decide +kernel
theorem d57 : decode yB 57 = .ok (.aload_n 3, 1) := by decide +kernel
theorem d58 : decode yB 58 = .ok (.areturn, 1) := by decide +kernel
def site : List Cond := [.arrayClass .byte, Cmp5.tab] ++ staticW U16 115 Cmp5.yN
def tab : Cond := tabOf yN yB 6 (some (.array .byte)) site
def P (b : Addr) (A : Cell) (o len : Nat) (args : Array Value) (s : State) : Prop := args = #[.ref b, .int (Int32.ofNat o), .int (Int32.ofNat len)] ∧ Ch b A s ∧ o + len ≤ A.slots.size ∧ len ≤ 536870912 ∧ ∀ i, i < len → ¬ 255 < cv A (o + i)
def E (b : Addr) (A : Cell) (o len : Nat) (r : Option Value) (s u : State) : Prop := NewArr .byte "[B" len (fun j => .int (lo8 (cv A (o + j)))) r s u ∧ u.heap.size = s.heap.size + 1
/-- no char of the range above 255: a new byte[] of their low bytes -/
theorem law (l : Launch) (b : Addr) (A : Cell) (o len : Nat) : Law l yN 3 3 1 18 yB 6 (some (.array .byte)) site (P b A o len) (E b A o len) [] 1 len := by
  refine Law.of_walk (plainFor_of_name (by decide +kernel)) (by decide +kernel) (by decide +kernel) (by decide) (fun _ _ h => by rw [h.1]; rfl) (fun _ U U' hal hh h => ⟨h.1, h.2.1.mv hal hh, h.2.2⟩) (fun r U U' V V' h1 hal h2 h => ⟨NewArr.mv r U U' V V' h1 hal h2 h.1, by rw [h1, h2]; exact h.2⟩) ?_
  intro p e s m args below meth c s₁ X0 hexec hbytes hml hret hlk hnm hown hh0 W hP
  obtain ⟨rfl, hA, l1, l2, hp⟩ := hP
  have a31 := hA.1.2.2.2
  have c1 : Steps p.tables e below (s₁.setTop (entryFrame m #[.ref b, .int (Int32.ofNat o), .int (Int32.ofNat len)] 6)) (s₁.setTop (mkF m 0 #[.val (.ref b), .val (.int (Int32.ofNat o)), .val (.int (Int32.ofNat len)), .unset, .unset, .unset] [])) := entry rfl
  have c2 : Steps p.tables e below (s₁.setTop (entryFrame m #[.ref b, .int (Int32.ofNat o), .int (Int32.ofNat len)] 6)) (s₁.setTop (mkF m 1 #[.val (.ref b), .val (.int (Int32.ofNat o)), .val (.int (Int32.ofNat len)), .unset, .unset, .unset] [.int (Int32.ofNat len)])) := c1.trans (by
    refine XS.iloadN X0.here hexec rfl (hb hbytes d0) rfl ?_
    exact Steps.refl _)
  obtain ⟨T3, B3, X3, ba3, bs3, bv3, bh3, bf3, st3⟩ := X0.anew hexec (atype := .byte) (wk W (.arrayClass .byte)) rfl (by show len * 1 ≤ _; omega) (by omega) (g := (mkF m 1 #[.val (.ref b), .val (.int (Int32.ofNat o)), .val (.int (Int32.ofNat len)), .unset, .unset, .unset] [.int (Int32.ofNat len)])) rfl (hb hbytes d1) (rest := []) rfl (Nat.le_refl _) (by show 0 + len ≤ len; omega)
  rw [hh0] at ba3 st3
  have kp3 : XT.Kept s T3 := (XT.Kept.of_eq hh0).push bh3
  have hA3 := hA.keep X3.warmed.alike (kp3 _ _ hA.1.1)
  have hne : b ≠ s.heap.size := hA.1.ne
  have c4 : Steps p.tables e below (s₁.setTop (entryFrame m #[.ref b, .int (Int32.ofNat o), .int (Int32.ofNat len)] 6)) (T3.setTop (mkF m 3 #[.val (.ref b), .val (.int (Int32.ofNat o)), .val (.int (Int32.ofNat len)), .unset, .unset, .unset] [.ref s.heap.size])) := c2.trans (st3 _ (Steps.refl _))
  have c5 : Steps p.tables e below (s₁.setTop (entryFrame m #[.ref b, .int (Int32.ofNat o), .int (Int32.ofNat len)] 6)) (T3.setTop (mkF m 9 #[.val (.ref b), .val (.int (Int32.ofNat o)), .val (.int (Int32.ofNat len)), .val (.ref s.heap.size), .unset, .unset] [.int (Int32.ofNat len), .int 0, .ref s.heap.size, .int (Int32.ofNat o), .ref b])) := c4.trans (by
    refine XS.astoreN X3.here hexec rfl (hb hbytes d3) rfl rfl rfl ?_
    refine XS.aloadN X3.here hexec rfl (hb hbytes d4) rfl rfl ?_
    refine XS.iloadN X3.here hexec rfl (hb hbytes d5) rfl ?_
    refine XS.aloadN X3.here hexec rfl (hb hbytes d6) rfl rfl ?_
    refine iconstV X3.here hexec rfl 0 (hb hbytes d7) (by decide) ?_
    refine XS.iloadN X3.here hexec rfl (hb hbytes d8) rfl ?_
    exact Steps.refl _)
  obtain ⟨v6, T6, X6, E6, g6⟩ := X3.callS hexec (Cmp5.law l b A s.heap.size B3 o 0 len) hown (wks W (staticW U16 115 Cmp5.yN)) (wk W Cmp5.tab) (W := 0) (Nat.le_of_ble_eq_true rfl) (Nat.le_of_ble_eq_true rfl) (Nat.le_refl _) (by show 0 + len + 0 ≤ len; omega) (g := (mkF m 9 #[.val (.ref b), .val (.int (Int32.ofNat o)), .val (.int (Int32.ofNat len)), .val (.ref s.heap.size), .unset, .unset] [.int (Int32.ofNat len), .int (Int32.ofNat 0), .ref s.heap.size, .int (Int32.ofNat o), .ref b])) rfl (by rw [hml]; rfl) c5 (argsL := [.ref b, .int (Int32.ofNat o), .ref s.heap.size, .int (Int32.ofNat 0), .int (Int32.ofNat len)]) (rest := []) rfl rfl (by show 2 * 0 + 0 ≤ _; decide) (hb hbytes d9) (⟨rfl, hA3, ba3, hne, l1, by rw [bs3]; simp, hp⟩)
  obtain ⟨rfl, B6, p6, f6⟩ := E6
  have c7 : Steps p.tables e below (s₁.setTop (entryFrame m #[.ref b, .int (Int32.ofNat o), .int (Int32.ofNat len)] 6)) (T6.setTop (mkF m 12 #[.val (.ref b), .val (.int (Int32.ofNat o)), .val (.int (Int32.ofNat len)), .val (.ref s.heap.size), .unset, .unset] [.int (Int32.ofNat len)])) := g6
  have c8 : Steps p.tables e below (s₁.setTop (entryFrame m #[.ref b, .int (Int32.ofNat o), .int (Int32.ofNat len)] 6)) (T6.setTop (mkF m 58 #[.val (.ref b), .val (.int (Int32.ofNat o)), .val (.int (Int32.ofNat len)), .val (.ref s.heap.size), .val (.int (Int32.ofNat len)), .unset] [.ref s.heap.size])) := c7.trans (by
    refine XS.istore X6.here hexec rfl (hb hbytes d12) rfl rfl ?_
    refine XS.iload X6.here hexec rfl (hb hbytes d14) rfl ?_
    refine XS.iloadN X6.here hexec rfl (hb hbytes d16) rfl ?_
    refine XS.icmpYes X6.here hexec rfl (pc0 := 17) rfl (hb hbytes d17) rfl (ii_eq_t rfl) (by decide) rfl ?_
    refine XS.aloadN X6.here hexec rfl (hb hbytes d57) rfl rfl ?_
    exact Steps.refl _)
  have X8 := X6.wide (L' := []) (cells' := 1) (slots' := len) (fun x hx hlt => by
    simp only [List.nil_append, copyLocs, List.mem_map, List.mem_range] at hx
    obtain ⟨i, -, rfl⟩ := hx
    exact absurd hlt (Nat.lt_irrefl _)) (Nat.le_refl _) (by omega)
  exact ⟨T6, some (.ref s.heap.size), _, _, _, X8, rfl, rfl, rfl, (fun h => by cases h), ⟨⟨rfl, B6, ba3.like (X3.warmed.alike.symm.trans X6.warmed.alike) p6.1 f6.1 f6.2.1 f6.2.2.1, f6.2.1.trans bv3, by rw [X6.warmed.alike.findClass, f6.1]; exact bf3, by rw [f6.2.2.1, bs3]; simp, fun j hj => by rw [f6.2.2.2 j, if_pos (by omega)]; rfl, kp3.put p6 (Nat.le_refl _)⟩, by rw [p6.2.2, bh3, hh0]; simp⟩, fun fs hl => c8.trans (X8.areturnOut hexec rfl hret rfl (hb hbytes d58) hl)⟩
end Cmp3
namespace CodL
def yN : MethodName := ⟨"java/lang/StringUTF16", "coderFromArrayLen", "([BI)B"⟩
abbrev yB : ByteArray := jdk_52_method_15_code
theorem d0 : decode yB 0 = .ok (.iload_n 1, 1) := by decide +kernel
theorem d1 : decode yB 1 = .ok (.aload_n 0, 1) := by decide +kernel
theorem d2 : decode yB 2 = .ok (.arraylength, 1) := by decide +kernel
theorem d3 : decode yB 3 = .ok (.isub, 1) := by decide +kernel
theorem d4 : decode yB 4 = .ok (.bipush 31, 2) := by decide +kernel
theorem d6 : decode yB 6 = .ok (.iushr, 1) := by decide +kernel
theorem d7 : decode yB 7 = .ok (.i2b, 1) := by decide +kernel
theorem d8 : decode yB 8 = .ok (.ireturn, 1) := by decide +kernel
def site : List Cond := []
def tab : Cond := tabOf yN yB 2 (some .byte) site
def P (d : Addr) (B : Cell) (args : Array Value) (s : State) : Prop := args = #[.ref d, .int (Int32.ofNat B.slots.size)] ∧ Arr .byte d B s
def E (r : Option Value) (s u : State) : Prop := XT.PureE (some (.int 0)) r s u
/-- an array as long as the number of chars: LATIN1 -/
theorem law (l : Launch) (d : Addr) (B : Cell) : Law l yN 2 2 0 0 yB 2 (some .byte) site (P d B) E [] 0 0 := by
  refine Law.of_walk (plainFor_of_name (by decide +kernel)) (by decide +kernel) (by decide +kernel) (by decide) (fun _ _ h => by rw [h.1]; rfl) (fun _ U U' hal hh h => ⟨h.1, h.2.mv hal hh⟩) (fun r U U' V V' h1 hal h2 h => XT.PureE.mv r U U' V V' h1 hal h2 h) ?_
  intro p e s m args below meth c s₁ X0 hexec hbytes hml hret hlk hnm hown hh0 W hP
  obtain ⟨rfl, hB⟩ := hP
  have hB0 := hB.mv X0.warmed.alike hh0
  have c1 : Steps p.tables e below (s₁.setTop (entryFrame m #[.ref d, .int (Int32.ofNat B.slots.size)] 2)) (s₁.setTop (mkF m 0 #[.val (.ref d), .val (.int (Int32.ofNat B.slots.size))] [])) := entry rfl
  have c2 : Steps p.tables e below (s₁.setTop (entryFrame m #[.ref d, .int (Int32.ofNat B.slots.size)] 2)) (s₁.setTop (mkF m 2 #[.val (.ref d), .val (.int (Int32.ofNat B.slots.size))] [.ref d, .int (Int32.ofNat B.slots.size)])) := c1.trans (by
    refine XS.iloadN X0.here hexec rfl (hb hbytes d0) rfl ?_
    refine XS.aloadN X0.here hexec rfl (hb hbytes d1) rfl rfl ?_
    exact Steps.refl _)
  have c3 : Steps p.tables e below (s₁.setTop (entryFrame m #[.ref d, .int (Int32.ofNat B.slots.size)] 2)) (s₁.setTop (mkF m 8 #[.val (.ref d), .val (.int (Int32.ofNat B.slots.size))] [.int (lo8 (ushr (Int32.ofNat B.slots.size - Int32.ofNat B.slots.size) 31))])) := c2.trans (by
    refine X0.alen hexec hB0 rfl rfl (hb hbytes d2) ?_
    refine XS.isub X0.here hexec rfl (hb hbytes d3) rfl ?_
    refine bipushV X0.here hexec rfl 31 (hb hbytes d4) (by decide) ?_
    refine iushr X0.here hexec rfl (hb hbytes d6) rfl ?_
    refine i2b X0.here hexec rfl (hb hbytes d7) rfl ?_
    exact Steps.refl _)
  have e0 : lo8 (ushr (Int32.ofNat B.slots.size - Int32.ofNat B.slots.size) 31) = 0 := by rw [Int32.sub_self]; decide
  rw [e0] at c3
  exact ⟨s₁, some (.int 0), _, _, _, X0, rfl, rfl, rfl, (fun h => by cases h), ⟨rfl, hh0⟩, fun fs hl => c3.trans (X0.ireturnOut hexec hret rfl (Or.inr (Or.inr (Or.inl rfl))) (hb hbytes d8) hl)⟩
end CodL
/-- the String at a is Latin-1 over a new byte[] (the heap's one new cell): the low bytes of the len chars of A from o on; every cell but a is kept -/
def Got (a : Addr) (D : Cell) (fV fC : Field) (A : Cell) (o len : Nat) (r : Option Value) (s u : State) : Prop := r = none ∧ ∃ D' V : Cell, Blank "java/lang/String" a D' u ∧ Same D D' [fV.slot, fC.slot] ∧ D'.slots[fV.slot]? = some (.ref s.heap.size) ∧ D'.slots[fC.slot]? = some (.int 0) ∧ Arr .byte s.heap.size V u ∧ V.vm = .none ∧ u.vm.findClass "[B" = some V.cls ∧ V.slots.size = len ∧ (∀ j, j < len → V.slots[j]? = some (.int (lo8 (cv A (o + j))))) ∧ (∀ (y : Addr) (c : Cell), y ≠ a → s.heap[y]? = some c → u.heap[y]? = some c) ∧ u.heap.size = s.heap.size + 1
theorem Got.mv {a : Addr} {D A : Cell} {fV fC : Field} {o len : Nat} : ∀ r (U U' V V' : State), U'.heap = U.heap → V.vm.Alike V'.vm → V'.heap = V.heap → Got a D fV fC A o len r U V → Got a D fV fC A o len r U' V' :=
  fun r U U' V V' h1 hal h2 ⟨e0, D', X, a1, a2, a3, a4, a5, a6, a7, a8, a9, a10, a11⟩ => ⟨e0, D', X, a1.mv hal h2, a2, by rw [h1]; exact a3, a4, by rw [h1]; exact a5.mv hal h2, a6, by rw [hal.findClass]; exact a7, a8, a9, by rw [h1, h2]; exact a10, by rw [h1, h2]; exact a11⟩
namespace New4
def yN : MethodName := ⟨"java/lang/String", "<init>", "([CIILjava/lang/Void;)V"⟩
abbrev yB : ByteArray := jdk_42_method_149_code
theorem d0 : decode yB 0 = .ok (.aload_n 0, 1) := by decide +kernel
theorem d1 : decode yB 1 = .ok (.invokespecial 1, 3) := by decide +kernel
theorem d4 : decode yB 4 = .ok (.iload_n 3, 1) := by decide +kernel
theorem d5 : decode yB 5 = .ok (.ifCond (.ne) 22, 3) := by decide +kernel
theorem d27 : decode yB 27 = .ok (.getstatic 38, 3) := by decide +kernel
theorem d30 : decode yB 30 = .ok (.ifCond (.eq) 28, 3) := by decide +kernel
theorem d33 : decode yB 33 = .ok (.aload_n 1, 1) := by decide +kernel
theorem d34 : decode yB 34 = .ok (.iload_n 2, 1) := by decide +kernel
theorem d35 : decode yB 35 = .ok (.iload_n 3, 1) := by decide +kernel
theorem d36 : decode yB 36 = .ok (.invokestatic 177, 3) := by decide +kernel
theorem d39 : decode yB 39 = .ok (.astore 5, 2) := by decide +kernel
theorem d41 : decode yB 41 = .ok (.aload_n 0, 1) := by decide +kernel
theorem d42 : decode yB 42 = .ok (.aload 5, 2) := by decide +kernel
theorem d44 : decode yB 44 = .ok (.iload_n 3, 1) := by decide +kernel
theorem d45 : decode yB 45 = .ok (.invokestatic 47, 3) := by decide +kernel
theorem d48 : decode yB 48 = .ok (.putfield 15, 3) := by decide +kernel
theorem d51 : decode yB 51 = .ok (.aload_n 0, 1) := by decide +kernel
theorem d52 : decode yB 52 = .ok (.aload 5, 2) := by decide +kernel
theorem d54 : decode yB 54 = .ok (.putfield 9, 3) := by decide +kernel
theorem d57 : decode yB 57 = .ok (.return_, 1) := by decide +kernel
def site : List Cond := [.fieldLink "java/lang/String" 38 "java/lang/String" "COMPACT_STRINGS" "Z", Cmp3.tab, CodL.tab, .laysFinal "java/lang/String" "java/lang/String" "value" "[B", .fieldLink "java/lang/String" 9 "java/lang/String" "value" "[B", .laysFinal "java/lang/String" "java/lang/String" "coder" "B", .fieldLink "java/lang/String" 15 "java/lang/String" "coder" "B"] ++ objW "java/lang/String" 1 ++ staticW "java/lang/String" 177 Cmp3.yN ++ staticW "java/lang/String" 47 CodL.yN
def tab : Cond := tabOf yN yB 6 none site
def P (a : Addr) (D : Cell) (fV fC : Field) (b : Addr) (A : Cell) (z : Int32) (o len : Nat) (args : Array Value) (s : State) : Prop := args = #[.ref a, .ref b, .int (Int32.ofNat o), .int (Int32.ofNat len), .null] ∧ Blank "java/lang/String" a D s ∧ Found "java/lang/String" "value" "[B" fV s ∧ Found "java/lang/String" "coder" "B" fC s ∧ Ch b A s ∧ StaticIs s "java/lang/String" "COMPACT_STRINGS" "Z" (.int z) ∧ ¬ z = 0 ∧ 0 < len ∧ o + len ≤ A.slots.size ∧ len ≤ 536870912 ∧ ∀ i, i < len → ¬ 255 < cv A (o + i)
def E (a : Addr) (D : Cell) (fV fC : Field) (A : Cell) (o len : Nat) (r : Option Value) (s u : State) : Prop := Got a D fV fC A o len r s u
/-- len > 0, no char of the range above 255: a Latin-1 String of their low bytes -/
theorem law (l : Launch) (a : Addr) (D : Cell) (fV fC : Field) (b : Addr) (A : Cell) (z : Int32) (o len : Nat) : Law l yN 5 4 2 35 yB 6 none site (P a D fV fC b A z o len) (E a D fV fC A o len) [⟨a, fC.slot⟩, ⟨a, fV.slot⟩] 1 len := by
  refine Law.of_walk (plainFor_of_name (by decide +kernel)) (by decide +kernel) (by decide +kernel) (by decide) (fun _ _ h => by rw [h.1]; rfl) (fun _ U U' hal hh h => ⟨h.1, h.2.1.mv hal hh, h.2.2.1.al hal, h.2.2.2.1.al hal, h.2.2.2.2.1.mv hal hh, h.2.2.2.2.2.1.there hal hh, h.2.2.2.2.2.2⟩) (fun r U U' V V' h1 hal h2 h => Got.mv r U U' V V' h1 hal h2 h) ?_
  intro p e s m args below meth c s₁ X0 hexec hbytes hml hret hlk hnm hown hh0 W hP
  obtain ⟨rfl, hB, f1, f2, hA, s1, hz, l0, l1, l2, hp⟩ := hP
  have a31 := hA.1.2.2.2
  have c1 : Steps p.tables e below (s₁.setTop (entryFrame m #[.ref a, .ref b, .int (Int32.ofNat o), .int (Int32.ofNat len), .null] 6)) (s₁.setTop (mkF m 0 #[.val (.ref a), .val (.ref b), .val (.int (Int32.ofNat o)), .val (.int (Int32.ofNat len)), .val .null, .unset] [])) := entry rfl
  have c2 : Steps p.tables e below (s₁.setTop (entryFrame m #[.ref a, .ref b, .int (Int32.ofNat o), .int (Int32.ofNat len), .null] 6)) (s₁.setTop (mkF m 1 #[.val (.ref a), .val (.ref b), .val (.int (Int32.ofNat o)), .val (.int (Int32.ofNat len)), .val .null, .unset] [.ref a])) := c1.trans (by
    refine XS.aloadN X0.here hexec rfl (hb hbytes d0) rfl rfl ?_
    exact Steps.refl _)
  obtain ⟨T3, X3, q3, st3⟩ := X0.oinit hexec hown (wks W (objW "java/lang/String" 1)) (g := (mkF m 1 #[.val (.ref a), .val (.ref b), .val (.int (Int32.ofNat o)), .val (.int (Int32.ofNat len)), .val .null, .unset] [.ref a])) rfl (by rw [hml]; rfl) (rest := []) rfl (hb hbytes d1) (W := 0) (by show 2 * 0 + 0 ≤ _; decide) (Nat.le_of_ble_eq_true rfl) (Nat.le_of_ble_eq_true rfl)
  have hh3 := q3.trans hh0
  have c4 : Steps p.tables e below (s₁.setTop (entryFrame m #[.ref a, .ref b, .int (Int32.ofNat o), .int (Int32.ofNat len), .null] 6)) (T3.setTop (mkF m 27 #[.val (.ref a), .val (.ref b), .val (.int (Int32.ofNat o)), .val (.int (Int32.ofNat len)), .val .null, .unset] [])) := (c2.trans (st3 _ (Steps.refl _))).trans (by
    refine XS.iloadN X3.here hexec rfl (hb hbytes d4) rfl ?_
    refine XS.ifYes X3.here hexec rfl (pc0 := 5) rfl (hb hbytes d5) rfl (i0_ne_t (nz32 (by omega) l0)) (by decide) rfl ?_
    exact Steps.refl _)
  obtain ⟨T5, X5, q5, st5⟩ := X3.sget hexec hown (wk W (.fieldLink "java/lang/String" 38 "java/lang/String" "COMPACT_STRINGS" "Z")) s1 (fun _ _ h => by rw [hh3]; exact h) (g := (mkF m 27 #[.val (.ref a), .val (.ref b), .val (.int (Int32.ofNat o)), .val (.int (Int32.ofNat len)), .val .null, .unset] [])) rfl (hb hbytes d27)
  have hh5 := q5.trans hh3
  have c6 : Steps p.tables e below (s₁.setTop (entryFrame m #[.ref a, .ref b, .int (Int32.ofNat o), .int (Int32.ofNat len), .null] 6)) (T5.setTop (mkF m 30 #[.val (.ref a), .val (.ref b), .val (.int (Int32.ofNat o)), .val (.int (Int32.ofNat len)), .val .null, .unset] [.int z])) := c4.trans (st5 _ (Steps.refl _))
  have c7 : Steps p.tables e below (s₁.setTop (entryFrame m #[.ref a, .ref b, .int (Int32.ofNat o), .int (Int32.ofNat len), .null] 6)) (T5.setTop (mkF m 36 #[.val (.ref a), .val (.ref b), .val (.int (Int32.ofNat o)), .val (.int (Int32.ofNat len)), .val .null, .unset] [.int (Int32.ofNat len), .int (Int32.ofNat o), .ref b])) := c6.trans (by
    refine XS.ifNo X5.here hexec rfl (hb hbytes d30) rfl (i0_eq_f hz) ?_
    refine XS.aloadN X5.here hexec rfl (hb hbytes d33) rfl rfl ?_
    refine XS.iloadN X5.here hexec rfl (hb hbytes d34) rfl ?_
    refine XS.iloadN X5.here hexec rfl (hb hbytes d35) rfl ?_
    exact Steps.refl _)
  obtain ⟨v8, T8, X8, E8, g8⟩ := X5.callS hexec (Cmp3.law l b A o len) hown (wks W (staticW "java/lang/String" 177 Cmp3.yN)) (wk W Cmp3.tab) (W := 0) (Nat.le_of_ble_eq_true rfl) (Nat.le_of_ble_eq_true rfl) (Nat.le_refl _) (by show 0 + len ≤ len; omega) (g := (mkF m 36 #[.val (.ref a), .val (.ref b), .val (.int (Int32.ofNat o)), .val (.int (Int32.ofNat len)), .val .null, .unset] [.int (Int32.ofNat len), .int (Int32.ofNat o), .ref b])) rfl (by rw [hml]; rfl) c7 (argsL := [.ref b, .int (Int32.ofNat o), .int (Int32.ofNat len)]) (rest := []) rfl rfl (by show 2 * 0 + 0 ≤ _; decide) (hb hbytes d36) (⟨rfl, hA.mv X5.warmed.alike hh5, l1, l2, hp⟩)
  obtain ⟨e8, z8⟩ := E8
  obtain ⟨rfl, N, n1, n2, n3, n4, n5, n6⟩ := NewArr.mv _ T5 s _ _ hh5.symm (Vm.Alike.refl _) rfl e8
  rw [hh5] at z8
  have hB1 := hB.keep X8.warmed.alike (n6 _ _ hB.1)
  have hne : s.heap.size ≠ a := (Nat.ne_of_lt (Array.getElem?_eq_some_iff.mp hB.1).1).symm
  have c9 : Steps p.tables e below (s₁.setTop (entryFrame m #[.ref a, .ref b, .int (Int32.ofNat o), .int (Int32.ofNat len), .null] 6)) (T8.setTop (mkF m 39 #[.val (.ref a), .val (.ref b), .val (.int (Int32.ofNat o)), .val (.int (Int32.ofNat len)), .val .null, .unset] [.ref s.heap.size])) := g8
  have c10 : Steps p.tables e below (s₁.setTop (entryFrame m #[.ref a, .ref b, .int (Int32.ofNat o), .int (Int32.ofNat len), .null] 6)) (T8.setTop (mkF m 45 #[.val (.ref a), .val (.ref b), .val (.int (Int32.ofNat o)), .val (.int (Int32.ofNat len)), .val .null, .val (.ref s.heap.size)] [.int (Int32.ofNat N.slots.size), .ref s.heap.size, .ref a])) := by
    have hc : Steps p.tables e below (s₁.setTop (entryFrame m #[.ref a, .ref b, .int (Int32.ofNat o), .int (Int32.ofNat len), .null] 6)) (T8.setTop (mkF m 45 #[.val (.ref a), .val (.ref b), .val (.int (Int32.ofNat o)), .val (.int (Int32.ofNat len)), .val .null, .val (.ref s.heap.size)] [.int (Int32.ofNat len), .ref s.heap.size, .ref a])) := c9.trans (by
      refine XS.astore X8.here hexec rfl (hb hbytes d39) rfl rfl rfl ?_
      refine XS.aloadN X8.here hexec rfl (hb hbytes d41) rfl rfl ?_
      refine XS.aload X8.here hexec rfl (hb hbytes d42) rfl rfl ?_
      refine XS.iloadN X8.here hexec rfl (hb hbytes d44) rfl ?_
      exact Steps.refl _)
    rw [n4]; exact hc
  obtain ⟨v11, T11, X11, E11, g11⟩ := X8.callS hexec (CodL.law l s.heap.size N) hown (wks W (staticW "java/lang/String" 47 CodL.yN)) (wk W CodL.tab) (W := 1) (Nat.le_of_ble_eq_true rfl) (Nat.le_of_ble_eq_true rfl) (Nat.le_refl _) (by show 0 + len + 0 ≤ len; omega) (g := (mkF m 45 #[.val (.ref a), .val (.ref b), .val (.int (Int32.ofNat o)), .val (.int (Int32.ofNat len)), .val .null, .val (.ref s.heap.size)] [.int (Int32.ofNat N.slots.size), .ref s.heap.size, .ref a])) rfl (by rw [hml]; rfl) c10 (argsL := [.ref s.heap.size, .int (Int32.ofNat N.slots.size)]) (rest := [.ref a]) rfl rfl (by show 2 * 0 + (1 + 0) ≤ _; decide) (hb hbytes d45) (⟨rfl, n1⟩)
  obtain ⟨rfl, q11⟩ := E11
  have hB11 := hB1.mv (X8.warmed.alike.symm.trans X11.warmed.alike) q11
  have c12 : Steps p.tables e below (s₁.setTop (entryFrame m #[.ref a, .ref b, .int (Int32.ofNat o), .int (Int32.ofNat len), .null] 6)) (T11.setTop (mkF m 48 #[.val (.ref a), .val (.ref b), .val (.int (Int32.ofNat o)), .val (.int (Int32.ofNat len)), .val .null, .val (.ref s.heap.size)] [.int 0, .ref a])) := g11
  obtain ⟨T13, X13, p13, bl13, sl13, st13⟩ := X11.finit hexec hown (wk W (.fieldLink "java/lang/String" 15 "java/lang/String" "coder" "B")) (Or.inr ⟨_, (wk W (.laysFinal "java/lang/String" "java/lang/String" "coder" "B"))⟩) (Or.inl ⟨rfl, hnm⟩) f2 (Or.inl rfl) hB11 (t := .byte) (by decide +kernel) rfl (g := (mkF m 48 #[.val (.ref a), .val (.ref b), .val (.int (Int32.ofNat o)), .val (.int (Int32.ofNat len)), .val .null, .val (.ref s.heap.size)] [.int 0, .ref a])) rfl (rest := []) rfl (hb hbytes d48)
  have c14 : Steps p.tables e below (s₁.setTop (entryFrame m #[.ref a, .ref b, .int (Int32.ofNat o), .int (Int32.ofNat len), .null] 6)) (T13.setTop (mkF m 54 #[.val (.ref a), .val (.ref b), .val (.int (Int32.ofNat o)), .val (.int (Int32.ofNat len)), .val .null, .val (.ref s.heap.size)] [.ref s.heap.size, .ref a])) := (c12.trans (st13 _ (Steps.refl _))).trans (by
    refine XS.aloadN X13.here hexec rfl (hb hbytes d51) rfl rfl ?_
    refine XS.aload X13.here hexec rfl (hb hbytes d52) rfl rfl ?_
    exact Steps.refl _)
  obtain ⟨T15, X15, p15, bl15, sl15, st15⟩ := X13.finit hexec hown (wk W (.fieldLink "java/lang/String" 9 "java/lang/String" "value" "[B")) (Or.inr ⟨_, (wk W (.laysFinal "java/lang/String" "java/lang/String" "value" "[B"))⟩) (Or.inl ⟨rfl, hnm⟩) f1 (Or.inl rfl) bl13 (t := (.array .byte)) (by decide +kernel) rfl (g := (mkF m 54 #[.val (.ref a), .val (.ref b), .val (.int (Int32.ofNat o)), .val (.int (Int32.ofNat len)), .val .null, .val (.ref s.heap.size)] [.ref s.heap.size, .ref a])) rfl (rest := []) rfl (hb hbytes d54)
  have c16 : Steps p.tables e below (s₁.setTop (entryFrame m #[.ref a, .ref b, .int (Int32.ofNat o), .int (Int32.ofNat len), .null] 6)) (T15.setTop (mkF m 57 #[.val (.ref a), .val (.ref b), .val (.int (Int32.ofNat o)), .val (.int (Int32.ofNat len)), .val .null, .val (.ref s.heap.size)] [])) := c14.trans (st15 _ (Steps.refl _))
  have ap := apart (Or.inr ⟨_, (wk W (.laysFinal "java/lang/String" "java/lang/String" "value" "[B"))⟩) (Or.inr ⟨_, (wk W (.laysFinal "java/lang/String" "java/lang/String" "coder" "B"))⟩) f1 f2 (t₁ := .array .byte) (t₂ := .byte) (by decide +kernel) (by decide +kernel) (by decide)
  have al := X8.warmed.alike.symm.trans X15.warmed.alike
  have n7 : T11.heap[s.heap.size]? = some N := by rw [q11]; exact n1.1
  exact ⟨T15, none, _, _, _, X15, by simp, rfl, by omega, (fun _ => rfl), ⟨rfl, _, N, bl15, ((Same.refl D _).set _ (by simp)).set _ (by simp), sl15, (Cell.slots_setSlot_ne _ ap).trans sl13, n1.keep al (p15.other hne (p13.other hne n7)), n2, by rw [al.findClass]; exact n3, n4, n5, fun y c h1 h2 => p15.other h1 (p13.other h1 (by rw [q11]; exact n6 y c h2)), by rw [p15.2.2, p13.2.2, q11]; exact z8⟩, fun fs hl => c16.trans (X15.returnOut hexec hret (hb hbytes d57) hl)⟩
end New4
namespace New1
def yN : MethodName := ⟨"java/lang/String", "<init>", "([C)V"⟩
abbrev yB : ByteArray := jdk_42_method_3_code
theorem d0 : decode yB 0 = .ok (.aload_n 0, 1) := by decide +kernel
theorem d1 : decode yB 1 = .ok (.aload_n 1, 1) := by decide +kernel
theorem d2 : decode yB 2 = .ok (.iconst 0, 1) := by decide +kernel
theorem d3 : decode yB 3 = .ok (.aload_n 1, 1) := by decide +kernel
theorem d4 : decode yB 4 = .ok (.arraylength, 1) := by decide +kernel
theorem d5 : decode yB 5 = .ok (.aconst_null, 1) := by decide +kernel
theorem d6 : decode yB 6 = .ok (.invokespecial 27, 3) := by decide +kernel
theorem d9 : decode yB 9 = .ok (.return_, 1) := by decide +kernel
def site : List Cond := [New4.tab] ++ initW "java/lang/String" 27 New4.yN
def tab : Cond := tabOf yN yB 2 none site
def P (a : Addr) (D : Cell) (fV fC : Field) (b : Addr) (A : Cell) (z : Int32) (args : Array Value) (s : State) : Prop := args = #[.ref a, .ref b] ∧ Blank "java/lang/String" a D s ∧ Found "java/lang/String" "value" "[B" fV s ∧ Found "java/lang/String" "coder" "B" fC s ∧ Ch b A s ∧ StaticIs s "java/lang/String" "COMPACT_STRINGS" "Z" (.int z) ∧ ¬ z = 0 ∧ 0 < A.slots.size ∧ A.slots.size ≤ 536870912 ∧ ∀ i, i < A.slots.size → ¬ 255 < cv A i
def E (a : Addr) (D : Cell) (fV fC : Field) (A : Cell) (r : Option Value) (s u : State) : Prop := Got a D fV fC A 0 A.slots.size r s u
/-- new String(chars), not empty, no char above 255: a Latin-1 String of their low bytes -/
theorem law (l : Launch) (a : Addr) (D : Cell) (fV fC : Field) (b : Addr) (A : Cell) (z : Int32) : Law l yN 2 1 3 52 yB 2 none site (P a D fV fC b A z) (E a D fV fC A) [⟨a, fC.slot⟩, ⟨a, fV.slot⟩] 1 A.slots.size := by
  refine Law.of_walk (plainFor_of_name (by decide +kernel)) (by decide +kernel) (by decide +kernel) (by decide) (fun _ _ h => by rw [h.1]; rfl) (fun _ U U' hal hh h => ⟨h.1, h.2.1.mv hal hh, h.2.2.1.al hal, h.2.2.2.1.al hal, h.2.2.2.2.1.mv hal hh, h.2.2.2.2.2.1.there hal hh, h.2.2.2.2.2.2⟩) (fun r U U' V V' h1 hal h2 h => Got.mv r U U' V V' h1 hal h2 h) ?_
  intro p e s m args below meth c s₁ X0 hexec hbytes hml hret hlk hnm hown hh0 W hP
  obtain ⟨rfl, hB, f1, f2, hA, s1, hz, l0, l2, hp⟩ := hP
  have c1 : Steps p.tables e below (s₁.setTop (entryFrame m #[.ref a, .ref b] 2)) (s₁.setTop (mkF m 0 #[.val (.ref a), .val (.ref b)] [])) := entry rfl
  have c2 : Steps p.tables e below (s₁.setTop (entryFrame m #[.ref a, .ref b] 2)) (s₁.setTop (mkF m 6 #[.val (.ref a), .val (.ref b)] [.null, .int (Int32.ofNat A.slots.size), .int 0, .ref b, .ref a])) := c1.trans (by
    refine XS.aloadN X0.here hexec rfl (hb hbytes d0) rfl rfl ?_
    refine XS.aloadN X0.here hexec rfl (hb hbytes d1) rfl rfl ?_
    refine iconstV X0.here hexec rfl 0 (hb hbytes d2) (by decide) ?_
    refine XS.aloadN X0.here hexec rfl (hb hbytes d3) rfl rfl ?_
    refine X0.alen hexec (hA.1.mv X0.warmed.alike hh0) rfl rfl (hb hbytes d4) ?_
    refine XS.aconstNull X0.here hexec rfl (hb hbytes d5) ?_
    exact Steps.refl _)
  obtain ⟨v3, T3, X3, E3, g3⟩ := X0.callN hexec (New4.law l a D fV fC b A z 0 A.slots.size) rfl hown (wks W (initW "java/lang/String" 27 New4.yN)) (W New4.tab (by simp only [site, List.mem_cons, List.mem_append, true_or, or_true])) (W := 0) (Nat.le_of_ble_eq_true rfl) (Nat.le_of_ble_eq_true rfl) (Nat.le_refl _) (by show 0 + A.slots.size ≤ A.slots.size; omega) (g := (mkF m 6 #[.val (.ref a), .val (.ref b)] [.null, .int (Int32.ofNat A.slots.size), .int (Int32.ofNat 0), .ref b, .ref a])) rfl (by rw [hml]; rfl) c2 (argsL := [.ref b, .int (Int32.ofNat 0), .int (Int32.ofNat A.slots.size), .null]) (rest := []) rfl rfl (by show 2 * 0 + 0 ≤ _; decide) (hb hbytes d6) (⟨rfl, hB.mv X0.warmed.alike hh0, f1.al X0.warmed.alike, f2.al X0.warmed.alike, hA.mv X0.warmed.alike hh0, s1.there X0.warmed.alike hh0, hz, l0, by omega, l2, fun i hi => by rw [Nat.zero_add]; exact hp i hi⟩)
  have e0 := Got.mv _ s₁ s _ _ hh0.symm (Vm.Alike.refl _) rfl E3
  obtain rfl := e0.1
  have c4 : Steps p.tables e below (s₁.setTop (entryFrame m #[.ref a, .ref b] 2)) (T3.setTop (mkF m 9 #[.val (.ref a), .val (.ref b)] [])) := g3
  exact ⟨T3, none, _, _, _, X3, by simp, rfl, by omega, (fun _ => rfl), e0, fun fs hl => c4.trans (X3.returnOut hexec hret (hb hbytes d9) hl)⟩
theorem pays {l : Launch} {R : Room} {p : Program} {e : Env} {below : List Frame} {s : State} {sargs : Array Value} {len W : Nat} (a : Addr) (D : Cell) (fV fC : Field) (b : Addr) (A : Cell) (z : Int32) (htab : tab.before sargs s = true) (hfr : 4 ≤ R.frames) (hlo : W + 65 ≤ R.locals) :
    Back l R p e below s sargs yN len W (fun A₁ a₁ => A₁.cells + 1 ≤ R.cells ∧ A₁.slots + A.slots.size ≤ R.slots ∧ P a D fV fC b A z a₁ A₁.U) (fun A₁ _ v₁ B₁ => E a D fV fC A v₁ A₁.U B₁.U ∧ B₁.locs = A₁.locs ++ [⟨a, fC.slot⟩, ⟨a, fV.slot⟩] ∧ B₁.cells = A₁.cells + 1 ∧ B₁.slots = A₁.slots + A.slots.size) :=
  (law l a D fV fC b A z).pays htab hfr (by omega)
end New1
/-- the byte, read back as charAt reads it, is the char -/
theorem lo8_mask {x : Int32} (h0 : ¬ x < 0) (h1 : ¬ 255 < x) : lo8 x &&& 255 = x := by
  have t : ∀ k : Fin 256, lo8 (Int32.ofNat k.val) &&& 255 = Int32.ofNat k.val := by decide +kernel
  rw [Int32.lt_iff_toInt_lt] at h0 h1
  have e0 : (0 : Int32).toInt = 0 := rfl
  have e1 : (255 : Int32).toInt = 255 := rfl
  obtain ⟨k, hk⟩ : ∃ k : Nat, x.toInt = k := ⟨x.toInt.toNat, by omega⟩
  have hx : x = Int32.ofNat k := Int32.toInt_inj.mp (by rw [hk, Int32.toInt_ofNat_small (by omega)])
  rw [hx]
  exact t ⟨k, by omega⟩
end StrChars
namespace StrChars.Road
open Jvm Sem ClassFile Op Lib Jvm.Stand Jvm.Free Jvm.Free.XT
open Jvm.Lib.Cold (StaticIs)
abbrev ST : String := "java/lang/String"
/-- every table word that New1's law asks, flat -/
abbrev words : List Jvm.Cond := [.code New1.yN New1.yB 2 none, .initialized ST, .methodLink ST 27 New4.yN, .instanceMethod New4.yN,
  .code New4.yN New4.yB 6 none, .fieldLink ST 38 ST "COMPACT_STRINGS" "Z", .laysFinal ST ST "value" "[B", .fieldLink ST 9 ST "value" "[B", .laysFinal ST ST "coder" "B", .fieldLink ST 15 ST "coder" "B",
  .methodLink ST 1 Lib.objectInit, .instanceMethod Lib.objectInit, .code Lib.objectInit ⟨#[0xb1]⟩ 1 none, .methodLink ST 177 Cmp3.yN, .static Cmp3.yN, .methodLink ST 47 CodL.yN, .static CodL.yN,
  .code Cmp3.yN Cmp3.yB 6 (some (.array .byte)), .initialized U16, .arrayClass .byte, .methodLink U16 115 Cmp5.yN, .static Cmp5.yN, .code Cmp5.yN Cmp5.yB 7 (some .int), .code CodL.yN CodL.yB 2 (some .byte)]
theorem tab_of {a : Array Value} {s : State} (h : ∀ w ∈ words, w.before a s = true) : New1.tab.before a s = true := by
  have h5 : Cmp5.tab.before a s = true := unparts (wk h (.code Cmp5.yN Cmp5.yB 7 (some .int))) (wks h (.initialized Cmp5.yN.cls :: Cmp5.site))
  have hc : CodL.tab.before a s = true := unparts (wk h (.code CodL.yN CodL.yB 2 (some .byte))) (wks h (.initialized CodL.yN.cls :: CodL.site))
  have q5 : ∀ w ∈ Cmp5.tab :: words, w.before a s = true := fun w hw => (List.mem_cons.mp hw).elim (fun e => e ▸ h5) (h w)
  have h3 : Cmp3.tab.before a s = true := unparts (wk q5 (.code Cmp3.yN Cmp3.yB 6 (some (.array .byte)))) (wks q5 (.initialized Cmp3.yN.cls :: Cmp3.site))
  have q3 : ∀ w ∈ Cmp3.tab :: CodL.tab :: words, w.before a s = true := fun w hw => (List.mem_cons.mp hw).elim (fun e => e ▸ h3) fun hw => (List.mem_cons.mp hw).elim (fun e => e ▸ hc) (h w)
  have h4 : New4.tab.before a s = true := unparts (wk q3 (.code New4.yN New4.yB 6 none)) (wks q3 (.initialized New4.yN.cls :: New4.site))
  have q4 : ∀ w ∈ New4.tab :: words, w.before a s = true := fun w hw => (List.mem_cons.mp hw).elim (fun e => e ▸ h4) (h w)
  exact unparts (wk q4 (.code New1.yN New1.yB 2 none)) (wks q4 (.initialized New1.yN.cls :: New1.site))
/-- the words ride from the start Z to the walk's own state -/
theorem moved {Z s : State} {a0 args : Array Value} (hZ : Z.Warmed39 s.vm) (hw : ∀ d ∈ words, d.before a0 Z = true) : ∀ d ∈ words, d.before args s = true := fun d hd => by
  have q := hw d hd
  have t : ∀ d ∈ words, d = .arrayClass .byte ∨ (d.onTables && d.keepsFace) = true := by decide +kernel
  rcases t d hd with rfl | t
  · exact RoadKit.mvA hZ q
  · exact RoadKit.mv hZ q t
/-- WHAT COMES BACK, over the tables of the start Z: h the heap at the call, h' behind it -/
def Q (Z : State) (x : Addr) (A : Cell) (h : Heap) (v : Option Value) (h' : Heap) (L : List Loc) : Prop := v = none ∧ (∀ y ∈ L, y.base = x) ∧ RoadKit.Keep h h' [x] ∧ h'.size = h.size + 1 ∧ RoadKit.Exa Z h' x ST ∧ RoadKit.Fld Z h' x ST "value" "[B" (.ref h.size) ∧ RoadKit.Fld Z h' x ST "coder" "B" (.int 0) ∧
  (∃ V : Cell, RoadKit.Arr Z h' h.size V .byte ∧ V.vm = .none ∧ Z.vm.findClass "[B" = some V.cls ∧ V.slots.size = A.slots.size ∧ ∀ j, j < A.slots.size → V.slots[j]? = some (.int (lo8 (cv A j)))) ∧
  ∀ (O n d : String) (w : Value), RoadKit.Fld Z h x O n d w → RoadKit.slotOf Z O n d ≠ RoadKit.slotOf Z ST "value" "[B" → RoadKit.slotOf Z O n d ≠ RoadKit.slotOf Z ST "coder" "B" → RoadKit.Fld Z h' x O n d w
/-- **new String(chars) AT A CALL, IN THE ROAD'S FORM**: for specialBack behind newO: x the fresh String, b the char[] with the cell A -/
theorem back {p : Program} {l : Launch} {e : Env} {R : Room} {s : State} {args : Array Value} {below : List Frame} {len W : Nat} {Z : State} {a0 : Array Value} {h : Heap} (hZ : Z.Warmed39 s.vm) (hw : ∀ d ∈ words, d.before a0 Z = true) {kI : Nat} (wi : (Jvm.Cond.instantiable ST kI).before a0 Z = true)
    {x b : Addr} {A : Cell} {z : Int32} {v0 c0 : Value} (E : RoadKit.Exa Z h x ST) (V : RoadKit.Fld Z h x ST "value" "[B" v0) (C : RoadKit.Fld Z h x ST "coder" "B" c0) (K : RoadKit.Arr Z h b A .char) (hty : Typed .char A) (S : RoadKit.Sta Z h ST "COMPACT_STRINGS" "Z" (.int z)) (hz : ¬ z = 0)
    (l0 : 0 < A.slots.size) (l2 : A.slots.size ≤ 536870912) (hp : ∀ i, i < A.slots.size → ¬ 255 < cv A i) (hfr : 4 ≤ R.frames) (hlo : W + 65 ≤ R.locals) :
    Back l R p e below s args New1.yN len W (fun P a => a = #[.ref x, .ref b] ∧ P.U.heap = h ∧ P.cells + 1 ≤ R.cells ∧ P.slots + A.slots.size ≤ R.slots)
      (fun P _ v B => ∃ L, Q Z x A h v B.U.heap L ∧ B.locs = P.locs ++ L ∧ B.cells = P.cells + 1 ∧ B.slots = P.slots + A.slots.size) := by
  intro m meth c P g ig mk a X hg hsize hdg hW hn hp'
  obtain ⟨rfl, rfl, r1, r2⟩ := hp'
  have al : Z.vm.Alike P.U.vm := hZ.alike.trans X.warmed.alike
  obtain ⟨D, cfV, kV, iV, fV, hD, gV, stV, knV, obV, asV, slV⟩ := id V
  obtain ⟨D', cfC, kC, iC, fC, hD', gC, stC, -, -, asC, slC⟩ := id C
  cases hD.symm.trans hD'
  obtain ⟨D2, kD, e1, e2, e3, e4, e5⟩ := id E
  cases hD.symm.trans e1
  obtain ⟨c2, k2, i1, i2, i3, -⟩ := Cond.instantiable_spec wi
  cases e2.symm.trans i1
  cases e3.symm.trans i2
  obtain ⟨kU, u1, u2⟩ := al.2.2 _ _ e3
  have hB : Blank ST x D P.U := ⟨hD, ⟨knV, fun q hq => by rw [hq] at obV; cases obV⟩, by rw [al.findClass]; exact e2, kU, u1, by rw [u2]; exact i3, by rw [u2]; exact e5 i3⟩
  have F1 : Found ST "value" "[B" fV P.U := ⟨SBG.found_only al ⟨cfV, kV, iV, gV⟩, stV⟩
  have F2 : Found ST "coder" "B" fC P.U := ⟨SBG.found_only al ⟨cfC, kC, iC, gC⟩, stC⟩
  have hA : Ch b A P.U := ⟨⟨K.1, State.isArrayOf_alike al K.2.1, K.2.2, by omega⟩, hty⟩
  have hS : StaticIs P.U ST "COMPACT_STRINGS" "Z" (.int z) := by
    obtain ⟨cfS, iS, kS, fS, st, cS, t1, t2, t3, t4, t5, t6, t7⟩ := S
    exact StaticIs.there (s := { Z with heap := P.U.heap }) ⟨cfS, iS, kS, fS, st, cS, t1, t2, t3, t4, t5, (fun q => by rw [q] at t6; cases t6), t7⟩ al rfl
  obtain ⟨v, B, X', ⟨⟨hv, E', V', q1, q2, q3, q4, q5, q6, q7, q8, q9, q10, q11⟩, hl, hc, hs⟩, st⟩ := New1.pays x D fV fC b A z (tab_of (moved hZ hw)) hfr hlo m meth c P g ig mk _ X hg hsize hdg hW hn ⟨r1, r2, rfl, hB, F1, F2, hA, hS, hz, l0, l2, hp⟩
  have al' : Z.vm.Alike B.U.vm := hZ.alike.trans X'.warmed.alike
  have hsz : E'.slots.size = D.slots.size := by
    obtain ⟨-, -, -, kB, w1, w2, w3⟩ := q1
    obtain ⟨kB', y1, y2⟩ := al'.2.2 _ _ e3
    rw [q2.2.1] at w1
    cases w1.symm.trans y1
    rw [w3, e5 i3, y2]
  refine ⟨v, B, X', ⟨_, ⟨hv, ?_, ⟨by omega, fun y cy hy hn' => q10 y cy (by simpa using hn') hy, fun y cy hy => ?_⟩, q11, ⟨E', _, q1.1, by rw [q2.2.1]; exact e2, by rw [q2.2.1]; exact e3, by rw [q2.1]; exact obV, fun _ => by rw [hsz]; exact e5 i3⟩,
    ⟨E', cfV, kV, iV, fV, q1.1, gV, stV, by rw [q2.1]; exact knV, by rw [q2.1]; exact obV, by rw [q2.2.1]; exact asV, q3⟩, ⟨E', cfC, kC, iC, fC, q1.1, gC, stC, by rw [q2.1]; exact knV, by rw [q2.1]; exact obV, by rw [q2.2.1]; exact asC, q4⟩,
    ⟨V', ⟨q5.1, State.isArrayOf_alike al'.symm q5.2.1, q5.2.2.1⟩, q6, by rw [← al'.findClass]; exact q7, q8, fun j hj => by have := q9 j hj; rwa [Nat.zero_add] at this⟩, fun O n d w F n1 n2 => ?_⟩, hl, hc, hs⟩, st⟩
  · intro y hy
    simp only [List.mem_cons, List.not_mem_nil, or_false] at hy
    rcases hy with rfl | rfl <;> rfl
  · by_cases q : y = x
    · subst q
      cases hD.symm.trans hy
      exact ⟨E', q1.1, q2.2.1, q2.1, hsz⟩
    · exact ⟨cy, q10 y cy q hy, rfl, rfl, rfl⟩
  · obtain ⟨D3, cf, k, i, f, g1, g2, g3, g4, g5, g6, g7⟩ := F
    cases hD.symm.trans g1
    simp only [RoadKit.slotOf, g2, gV, gC, Option.map_some, Option.getD_some] at n1 n2
    exact ⟨E', cf, k, i, f, q1.1, g2, g3, by rw [q2.1]; exact g4, by rw [q2.1]; exact g5, by rw [q2.2.1]; exact g6, by rw [q2.2.2 f.slot (by simp [n1, n2])]; exact g7⟩
end StrChars.Road
namespace StrChars.Road
open Jvm Sem ClassFile Op Lib Jvm.Stand Jvm.Free Jvm.Free.XT
/-- WHAT COMES BACK, the byte[] as a list of values -/
def QA (Z : State) (x : Addr) (zn : Int32) (cs : List Int32) (h : Heap) (v : Option Value) (h' : Heap) (L : List Loc) : Prop := v = none ∧ (∀ y ∈ L, y.base = x) ∧ RoadKit.Keep h h' [x] ∧ h'.size = h.size + 1 ∧ RoadKit.Exa Z h' x ST ∧ RoadKit.Fld Z h' x ST "value" "[B" (.ref h.size) ∧ RoadKit.Fld Z h' x ST "coder" "B" (.int 0) ∧
  (∃ kb, Z.vm.findClass "[B" = some kb ∧ RoadKit.Arv Z h' h.size kb .byte zn (cs.map fun c => .int (lo8 c)) (.int 0)) ∧
  ∀ (O n d : String) (w : Value), RoadKit.Fld Z h x O n d w → RoadKit.slotOf Z O n d ≠ RoadKit.slotOf Z ST "value" "[B" → RoadKit.slotOf Z O n d ≠ RoadKit.slotOf Z ST "coder" "B" → RoadKit.Fld Z h' x O n d w
/-- **new String(chars) AT A CALL, THE ARRAYS AS LISTS**: the char[] at b holds cs, not empty, no char above 255 -/
theorem backArv {p : Program} {l : Launch} {e : Env} {R : Room} {s : State} {args : Array Value} {below : List Frame} {len W : Nat} {Z : State} {a0 : Array Value} {h : Heap} (hZ : Z.Warmed39 s.vm) (hw : ∀ d ∈ words, d.before a0 Z = true) {kI : Nat} (wi : (Jvm.Cond.instantiable ST kI).before a0 Z = true)
    {x b : Addr} {k : ClassId} {zn z : Int32} {cs : List Int32} {dv v0 c0 : Value} (E : RoadKit.Exa Z h x ST) (V : RoadKit.Fld Z h x ST "value" "[B" v0) (C : RoadKit.Fld Z h x ST "coder" "B" c0) (K : RoadKit.Arv Z h b k .char zn (cs.map Value.int) dv) (S : RoadKit.Sta Z h ST "COMPACT_STRINGS" "Z" (.int z)) (hz : ¬ z = 0)
    (hlen : zn.toNatClampNeg = cs.length) (h0 : 0 < cs.length) (hbig : cs.length ≤ 536870912) (hall : ∀ c ∈ cs, ¬ 255 < c) (hfr : 4 ≤ R.frames) (hlo : W + 65 ≤ R.locals) :
    Back l R p e below s args New1.yN len W (fun P a => a = #[.ref x, .ref b] ∧ P.U.heap = h ∧ P.cells + 1 ≤ R.cells ∧ P.slots + cs.length ≤ R.slots)
      (fun P _ v B => ∃ L, QA Z x zn cs h v B.U.heap L ∧ B.locs = P.locs ++ L ∧ B.cells = P.cells + 1 ∧ B.slots = P.slots + cs.length) := by
  obtain ⟨A, K1, K2, K3, K4, K5, K6⟩ := K
  have e : A.slots.size = cs.length := K3.trans hlen
  have hat : ∀ (i : Nat) (hi : i < cs.length), A.slots[i]? = some (.int cs[i]) := fun i hi => by rw [K5 i (by omega)]; simp [List.getD_eq_getElem?_getD, hi]
  have hcv : ∀ (i : Nat) (hi : i < cs.length), cv A i = cs[i] := fun i hi => by unfold cv; rw [hat i hi]
  have hty : Typed .char A := fun i v hv => by
    have hi : i < A.slots.size := (Array.getElem?_eq_some_iff.mp hv).1
    have q := K5 i hi
    rw [hv] at q
    rw [Option.some.inj q]
    exact K6 i hi
  refine Back.mono (back hZ hw wi E V C K1 hty S hz (by omega) (by omega) (fun i hi => by rw [hcv i (by omega)]; exact hall _ (List.getElem_mem _)) hfr hlo) (fun P a hp => ⟨hp.1, hp.2.1, hp.2.2.1, by rw [e]; exact hp.2.2.2⟩) (fun P a v B hp hq => ?_)
  obtain ⟨L, ⟨q1, q2, q3, q4, q5, q6, q7, ⟨V', v1, v2, v3, v4, v5⟩, q9⟩, hl, hc, hs⟩ := hq
  refine ⟨L, ⟨q1, q2, q3, q4, q5, q6, q7, ⟨V'.cls, v3, V', v1, rfl, by rw [v4, e, hlen], K4, fun i hi => ?_, fun i hi => ?_⟩, q9⟩, hl, hc, by rw [hs, e]⟩
  · have hi' : i < cs.length := by omega
    rw [v5 i (by omega), hcv i hi']; simp [List.getD_eq_getElem?_getD, hi']
  · have hi' : i < cs.length := by omega
    simp only [List.getD_eq_getElem?_getD, List.getElem?_map, List.getElem?_eq_getElem hi', Option.map_some, Option.getD_some]
    exact fits_lo8 _
end StrChars.Road
namespace StrChars.Road
open Jvm Sem ClassFile Op Lib Jvm.Stand Jvm.Free Jvm.Free.XT
/-- WHAT COMES BACK, in the writer's own shape -/
def QV (Z : State) (x : Addr) (N : Int32) (bs : List Int32) (h : Heap) (n0 : Nat) (v : Option Value) (h' : Heap) (L : List Loc) : Prop := v = none ∧ RoadKit.Fr n0 L ∧ RoadKit.Keep h h' [x] ∧ RoadKit.Exa Z h' x ST ∧ RoadKit.Fld Z h' x ST "coder" "B" (.int 0) ∧
  ∃ (t : Addr) (kb : ClassId), n0 ≤ t ∧ h.size ≤ t ∧ ¬ t = x ∧ RoadKit.Fld Z h' x ST "value" "[B" (.ref t) ∧ RoadKit.Arv Z h' t kb .byte N (bs.map Value.int) (.int 0)
/-- **new String(chars) AT A CALL, FOR THE WRITER**: a char[] of n known ints, each 0 to 255 -/
theorem backV {p : Program} {l : Launch} {e : Env} {R : Room} {s : State} {args : Array Value} {below : List Frame} {len W : Nat} {Z : State} {a0 : Array Value} {h : Heap} (hZ : Z.Warmed39 s.vm) (hw : ∀ d ∈ words, d.before a0 Z = true) {kI : Nat} (wi : (Jvm.Cond.instantiable ST kI).before a0 Z = true)
    {x b : Addr} {kC : ClassId} {cs bs : List Int32} {d v0 c0 : Value} {z N : Int32} {n n0 : Nat} (hx0 : n0 ≤ x) (hh0 : n0 ≤ h.size) (E : RoadKit.Exa Z h x ST) (V : RoadKit.Fld Z h x ST "value" "[B" v0) (C : RoadKit.Fld Z h x ST "coder" "B" c0) (K : RoadKit.Arv Z h b kC .char N (cs.map Value.int) d) (S : RoadKit.Sta Z h ST "COMPACT_STRINGS" "Z" (.int z)) (hz : ¬ z = 0)
    (hn : cs.length = n) (hN : N = Int32.ofNat n) (l0 : 0 < n) (l2 : n ≤ 4000) (hp : ∀ c ∈ cs, ¬ c < 0 ∧ ¬ (255 : Int32) < c) (hb : bs = cs.map (fun c => c.toInt8.toInt32)) (hfr : 4 ≤ R.frames) (hlo : W + 65 ≤ R.locals) :
    Back l R p e below s args (⟨"java/lang/String", "<init>", "([C)V"⟩ : MethodName) len W (fun P a => a = #[.ref x, .ref b] ∧ P.U.heap = h ∧ P.cells + 1 ≤ R.cells ∧ P.slots + n ≤ R.slots)
      (fun P _ v B => ∃ L, QV Z x N bs h n0 v B.U.heap L ∧ B.locs = P.locs ++ L ∧ B.cells = P.cells + 1 ∧ B.slots = P.slots + n) := by
  subst hn hN hb
  refine Back.mono (backArv hZ hw wi E V C K S hz (n32 (by omega)) l0 (by omega) (fun c hc => (hp c hc).2) hfr hlo) (fun P a hp => hp) (fun P a v B hp hq => ?_)
  obtain ⟨L, ⟨q1, q2, q3, q4, q5, q6, q7, ⟨kb, v1, v2⟩, q9⟩, hl, hc, hs⟩ := hq
  exact ⟨L, ⟨q1, fun y hy => by rw [q2 y hy]; exact hx0, q3, q5, q7, h.size, kb, hh0, Nat.le_refl _, Nat.ne_of_gt E.lt, q6, by rw [List.map_map]; exact v2⟩, hl, hc, hs⟩
end StrChars.Road
namespace StrChars
open Jvm Sem ClassFile Op Lib Jvm.Stand Jvm.Free.XT Jvm.Free.ALB Jvm.Free.JM Jvm.Free
open Jvm.Lib.Cold (StaticIs)
def hi8 (x : Int32) : Int32 := lo8 (x >>> ((8 : Int32) &&& 31))
/-- what StringUTF16.getChar makes of two bytes -/
def pairCh (u v : Int32) : Int32 := (((u &&& 255) <<< ((0 : Int32) &&& 31)) ||| ((v &&& 255) <<< ((8 : Int32) &&& 31))).toUInt32.toUInt16.toUInt32.toInt32
theorem lo8_and (x : Int32) : (lo8 x &&& 255).toBitVec.toNat = x.toBitVec.toNat % 256 := by
  have h : (lo8 x).toBitVec = (x.toBitVec.signExtend 8).signExtend 32 := by rw [lo8, Int8.toBitVec_toInt32, Int32.toBitVec_toInt8]
  rw [Int32.toBitVec_and, BitVec.toNat_and, h]
  have e : ((x.toBitVec.signExtend 8).signExtend 32).toNat % 256 = x.toBitVec.toNat % 256 := by
    rw [BitVec.toNat_signExtend]
    have hlt := x.toBitVec.isLt
    simp only [BitVec.toNat_setWidth, BitVec.toNat_signExtend]
    split <;> split <;> omega
  rw [← e]
  exact Nat.and_two_pow_sub_one_eq_mod _ 8
theorem pair_says {c : Int32} (h0 : ¬ c < 0) (h1 : ¬ 65535 < c) : pairCh (lo8 c) (hi8 c) = c := by
  rw [Int32.lt_iff_toInt_lt] at h0 h1
  have e0 : (0 : Int32).toInt = 0 := rfl
  have e1 : (65535 : Int32).toInt = 65535 := rfl
  have hc : c.toInt = c.toBitVec.toNat := by
    have := c.toBitVec.isLt
    have e : c.toInt = c.toBitVec.toInt := rfl
    rw [e] at h0 h1
    rw [e]
    rw [BitVec.toInt_eq_toNat_cond] at h0 h1 ⊢
    split at h0 <;> split <;> omega
  have hn : c.toBitVec.toNat < 65536 := by omega
  have a1 := lo8_and c
  have a2 : (hi8 c &&& 255).toBitVec.toNat = c.toBitVec.toNat / 256 := by
    rw [hi8, lo8_and]
    have e : ((8 : Int32) &&& 31) = 8 := by decide
    rw [e, Int32.toBitVec_shiftRight]
    have e2 : ((8 : Int32).toBitVec.smod 32) = 8#32 := by decide
    rw [e2, BitVec.sshiftRight_eq', BitVec.toNat_sshiftRight_of_msb_false (by rw [BitVec.msb_eq_false_iff_two_mul_lt]; omega)]
    show c.toBitVec.toNat >>> 8 % 256 = _
    rw [Nat.shiftRight_eq_div_pow]
    omega
  unfold pairCh
  apply Int32.toBitVec_inj.mp
  apply BitVec.eq_of_toNat_eq
  have f0 : ((0 : Int32) &&& 31) = 0 := by decide
  have f8 : ((8 : Int32) &&& 31) = 8 := by decide
  rw [f0, f8]
  have g : (((lo8 c &&& 255) <<< (0 : Int32)) ||| ((hi8 c &&& 255) <<< (8 : Int32))).toBitVec.toNat = c.toBitVec.toNat := by
    rw [Int32.toBitVec_or, Int32.toBitVec_shiftLeft, Int32.toBitVec_shiftLeft]
    have s0 : ((0 : Int32).toBitVec.smod 32) = 0#32 := by decide
    have s8 : ((8 : Int32).toBitVec.smod 32) = 8#32 := by decide
    rw [s0, s8, BitVec.toNat_or]
    simp only [BitVec.shiftLeft_eq', BitVec.toNat_shiftLeft, a1, a2]
    show (c.toBitVec.toNat % 256) <<< 0 % 2 ^ 32 ||| (c.toBitVec.toNat / 256) <<< 8 % 2 ^ 32 = _
    rw [Nat.shiftLeft_zero, Nat.mod_eq_of_lt (show c.toBitVec.toNat % 256 < 2 ^ 32 by omega), Nat.mod_eq_of_lt (show (c.toBitVec.toNat / 256) <<< 8 < 2 ^ 32 by rw [Nat.shiftLeft_eq]; omega), Nat.or_comm, ← Nat.shiftLeft_add_eq_or_of_lt (by omega), Nat.shiftLeft_eq]
    omega
  show BitVec.toNat (((((lo8 c &&& 255) <<< (0 : Int32)) ||| ((hi8 c &&& 255) <<< (8 : Int32))).toBitVec.setWidth 16).setWidth 32) = _
  rw [BitVec.toNat_setWidth, BitVec.toNat_setWidth, g]
  omega
end StrChars
namespace StrChars
open Jvm Sem ClassFile Op Lib Jvm.Stand Jvm.Free.XT Jvm.Free.ALB Jvm.Free.JM Jvm.Free
open Jvm.Lib.Cold (StaticIs)
/-- the array's cell V codes the n chars f 0 .. f (n - 1) by the coder cd, as the JDK does: coder 1 just where some char is above 255 -/
def Cod (cd : Int32) (n : Nat) (f : Nat → Int32) (V : Cell) : Prop := (cd = 0 ∧ V.slots.size = n ∧ ∀ j, j < n → V.slots[j]? = some (.int (lo8 (f j))) ∧ ¬ 255 < f j) ∨ (cd = 1 ∧ V.slots.size = 2 * n ∧ (∀ j, j < n → V.slots[2 * j]? = some (.int (lo8 (f j))) ∧ V.slots[2 * j + 1]? = some (.int (hi8 (f j)))) ∧ ∃ j, j < n ∧ 255 < f j)
/-- **x is a String of the n chars f 0 .. f (n - 1)**, Latin-1 or UTF-16; its array at t has the cell V -/
def Txt (x t : Addr) (V : Cell) (cd : Int32) (n : Nat) (f : Nat → Int32) (U : State) : Prop := Exact "java/lang/String" x U ∧ Has x "java/lang/String" "value" "[B" (.ref t) U ∧ Has x "java/lang/String" "coder" "B" (.int cd) U ∧ XT.Arr .byte t V U ∧ Cod cd n f V ∧ ∀ j, j < n → ¬ f j < 0 ∧ ¬ 65535 < f j
theorem Txt.mv {x t : Addr} {V : Cell} {cd : Int32} {n : Nat} {f : Nat → Int32} {U U' : State} (h : Txt x t V cd n f U) (hal : U.vm.Alike U'.vm) (hh : U'.heap = U.heap) : Txt x t V cd n f U' := ⟨h.1.mv hal hh, h.2.1.mv hal hh, h.2.2.1.mv hal hh, h.2.2.2.1.mv hal hh, h.2.2.2.2⟩
end StrChars
namespace StrChars.Road
open Jvm Sem ClassFile Op Lib Jvm.Stand Jvm.Free Jvm.Free.XT
open Jvm.Lib.Cold (StaticIs)
theorem consq {a : Array Value} {s : State} {c : Jvm.Cond} {L : List Jvm.Cond} (h0 : c.before a s = true) (h : ∀ w ∈ L, w.before a s = true) : ∀ w ∈ c :: L, w.before a s = true := fun w hw => (List.mem_cons.mp hw).elim (fun e => e ▸ h0) (h w)
/-- the bytes of the chars cs, low before high -/
def wideBytes : List Int32 → List Value
  | [] => []
  | c :: cs => .int (lo8 c) :: .int (hi8 c) :: wideBytes cs
theorem wide_lo (d : Value) : ∀ (cs : List Int32) (j : Nat), j < cs.length → (wideBytes cs).getD (2 * j) d = .int (lo8 (cs.getD j 0))
  | [], j, h => absurd h (Nat.not_lt_zero j)
  | c :: cs, 0, _ => rfl
  | c :: cs, j + 1, h => by
    have q := wide_lo d cs j (by simpa using h)
    rw [show 2 * (j + 1) = 2 * j + 1 + 1 from by omega]
    simpa [wideBytes] using q
theorem wide_hi (d : Value) : ∀ (cs : List Int32) (j : Nat), j < cs.length → (wideBytes cs).getD (2 * j + 1) d = .int (hi8 (cs.getD j 0))
  | [], j, h => absurd h (Nat.not_lt_zero j)
  | c :: cs, 0, _ => rfl
  | c :: cs, j + 1, h => by
    have q := wide_hi d cs j (by simpa using h)
    rw [show 2 * (j + 1) + 1 = 2 * j + 1 + 1 + 1 from by omega]
    simpa [wideBytes] using q
theorem low_at (d : Value) (cs : List Int32) (j : Nat) (h : j < cs.length) : (cs.map fun c => Value.int (lo8 c)).getD j d = .int (lo8 (cs.getD j 0)) := by
  simp [List.getD_eq_getElem?_getD, h]
/-- an array of N2 bytes vs codes the chars cs by the coder cd -/
def CodA (cs : List Int32) (cd N2 : Int32) (vs : List Value) : Prop := (cd = 0 ∧ N2 = Int32.ofNat cs.length ∧ vs = (cs.map fun c => Value.int (lo8 c)) ∧ ∀ c ∈ cs, ¬ 255 < c) ∨ (cd = 1 ∧ N2 = Int32.ofNat (2 * cs.length) ∧ vs = wideBytes cs ∧ ∃ c ∈ cs, 255 < c)
theorem CodA.cod {cs : List Int32} {cd N2 : Int32} {vs : List Value} {V : Cell} (h : CodA cs cd N2 vs) (hn : 2 * cs.length < 2 ^ 31) (hs : V.slots.size = N2.toNatClampNeg) (hv : RoadKit.Has V vs (.int 0)) : Cod cd cs.length (fun j => cs.getD j 0) V := by
  rcases h with ⟨rfl, rfl, rfl, h⟩ | ⟨rfl, rfl, rfl, c, hc, hw⟩
  · rw [n32 (by omega)] at hs
    exact Or.inl ⟨rfl, hs, fun j hj => ⟨by rw [hv j (by omega), low_at _ _ _ hj], by
      have e : cs.getD j 0 = cs[j] := by simp [List.getD_eq_getElem?_getD, hj]
      show ¬ 255 < cs.getD j 0
      rw [e]; exact h _ (List.getElem_mem _)⟩⟩
  · rw [n32 (by omega)] at hs
    obtain ⟨j, hj, rfl⟩ := List.getElem_of_mem hc
    exact Or.inr ⟨rfl, hs, fun j hj => ⟨by rw [hv _ (by omega), wide_lo _ _ _ hj], by rw [hv _ (by omega), wide_hi _ _ _ hj]⟩, j, hj, by
      have e : cs.getD j 0 = cs[j] := by simp [List.getD_eq_getElem?_getD, hj]
      show 255 < cs.getD j 0
      rw [e]; exact hw⟩
/-- an object of exactly java/lang/String, its two fields found: as the laws ask it -/
theorem strObj {Z U : State} {a0 : Array Value} {kI : Nat} (wi : (Jvm.Cond.instantiable ST kI).before a0 Z = true) (al : Z.vm.Alike U.vm) {x : Addr} {v0 c0 : Value} (E : RoadKit.Exa Z U.heap x ST) (V : RoadKit.Fld Z U.heap x ST "value" "[B" v0) (C : RoadKit.Fld Z U.heap x ST "coder" "B" c0) :
    ∃ (D : Cell) (fV fC : Field), Blank ST x D U ∧ Found ST "value" "[B" fV U ∧ Found ST "coder" "B" fC U ∧ D.slots[fV.slot]? = some v0 ∧ D.slots[fC.slot]? = some c0 ∧ RoadKit.slotOf Z ST "value" "[B" = fV.slot ∧ RoadKit.slotOf Z ST "coder" "B" = fC.slot := by
  obtain ⟨D, cfV, kV, iV, fV, hD, gV, stV, knV, obV, asV, slV⟩ := V
  obtain ⟨D', cfC, kC, iC, fC, hD', gC, stC, -, -, asC, slC⟩ := C
  cases hD.symm.trans hD'
  obtain ⟨D2, kD, e1, e2, e3, e4, e5⟩ := E
  cases hD.symm.trans e1
  obtain ⟨c2, k2, i1, i2, i3, -⟩ := Cond.instantiable_spec wi
  cases e2.symm.trans i1
  cases e3.symm.trans i2
  obtain ⟨kU, u1, u2⟩ := al.2.2 _ _ e3
  exact ⟨D, fV, fC, ⟨hD, ⟨knV, fun q hq => by rw [hq] at obV; cases obV⟩, by rw [al.findClass]; exact e2, kU, u1, by rw [u2]; exact i3, by rw [u2]; exact e5 i3⟩, ⟨SBG.found_only al ⟨cfV, kV, iV, gV⟩, stV⟩, ⟨SBG.found_only al ⟨cfC, kC, iC, gC⟩, stC⟩, slV, slC, by simp [RoadKit.slotOf, gV], by simp [RoadKit.slotOf, gC]⟩
theorem sta_is {Z U : State} (al : Z.vm.Alike U.vm) {C n d : String} {v : Value} (S : RoadKit.Sta Z U.heap C n d v) : StaticIs U C n d v := by
  obtain ⟨cfS, iS, kS, fS, st, cS, t1, t2, t3, t4, t5, t6, t7⟩ := S
  exact StaticIs.there (s := { Z with heap := U.heap }) ⟨cfS, iS, kS, fS, st, cS, t1, t2, t3, t4, t5, (fun q => by rw [q] at t6; cases t6), t7⟩ al rfl
end StrChars.Road
namespace StrChars
open Jvm Sem ClassFile Op Lib Jvm.Stand Jvm.Free.XT Jvm.Free.ALB Jvm.Free.JM Jvm.Free
open Jvm.Lib.Cold (StaticIs)
/-- what place i of a byte[]'s cell holds -/
def yv (A : Cell) (i : Nat) : Int32 := match A.slots[i]? with | some (.int x) => x | _ => 0
theorem yv_get {a : Addr} {A : Cell} {U : State} (h : XT.Arr .byte a A U) (ht : Typed .byte A) {i : Nat} (hi : i < A.slots.size) : A.slots[i]? = some (.int (yv A i)) := by
  have e := Array.getElem?_eq_getElem hi
  have f := ht i _ e
  unfold yv; rw [e]
  generalize A.slots[i] = v at f
  cases v <;> simp [fits] at f ⊢
/-- the two arrays are equal, place for place -/
def EqC (A B : Cell) : Prop := A.slots.size = B.slots.size ∧ ∀ i, i < A.slots.size → yv A i = yv B i
/-- a boolean that says whether p -/
def Says01 (q : Prop) (r : Option Value) (s u : State) : Prop := ∃ v : Int32, r = some (.int v) ∧ u.heap = s.heap ∧ ((v = 1 ∧ q) ∨ (v = 0 ∧ ¬ q))
theorem Says01.mv {q : Prop} : ∀ r (U U' V V' : State), U'.heap = U.heap → V.vm.Alike V'.vm → V'.heap = V.heap → Says01 q r U V → Says01 q r U' V' :=
  fun r U U' V V' h1 _ h2 ⟨v, a, b, c⟩ => ⟨v, a, by rw [h1, h2]; exact b, c⟩
namespace LEq
def yN : MethodName := ⟨"java/lang/StringLatin1", "equals", "([B[B)Z"⟩
abbrev yB : ByteArray := jdk_43_method_13_code
theorem d0 : decode yB 0 = .ok (.aload_n 0, 1) := by decide +kernel
theorem d1 : decode yB 1 = .ok (.arraylength, 1) := by decide +kernel
theorem d2 : decode yB 2 = .ok (.aload_n 1, 1) := by decide +kernel
theorem d3 : decode yB 3 = .ok (.arraylength, 1) := by decide +kernel
theorem d4 : decode yB 4 = .ok (.if_icmp (.ne) 30, 3) := by decide +kernel
theorem d7 : decode yB 7 = .ok (.iconst 0, 1) := by decide +kernel
theorem d8 : decode yB 8 = .ok (.istore_n 2, 1) := by decide +kernel
theorem d9 : decode yB 9 = .ok (.iload_n 2, 1) := by decide +kernel
theorem d10 : decode yB 10 = .ok (.aload_n 0, 1) := by decide +kernel
theorem d11 : decode yB 11 = .ok (.arraylength, 1) := by decide +kernel
theorem d12 : decode yB 12 = .ok (.if_icmp (.ge) 20, 3) := by decide +kernel
theorem d15 : decode yB 15 = .ok (.aload_n 0, 1) := by decide +kernel
theorem d16 : decode yB 16 = .ok (.iload_n 2, 1) := by decide +kernel
theorem d17 : decode yB 17 = .ok (.baload, 1) := by decide +kernel
theorem d18 : decode yB 18 = .ok (.aload_n 1, 1) := by decide +kernel
theorem d19 : decode yB 19 = .ok (.iload_n 2, 1) := by decide +kernel
theorem d20 : decode yB 20 = .ok (.baload, 1) := by decide +kernel
theorem d21 : decode yB 21 = .ok (.if_icmp (.eq) 5, 3) := by decide +kernel
theorem d24 : decode yB 24 = .ok (.iconst 0, 1) := by decide +kernel
theorem d25 : decode yB 25 = .ok (.ireturn, 1) := by decide +kernel
theorem d26 : decode yB 26 = .ok (.iinc 2 1, 3) := by decide +kernel
theorem d29 : decode yB 29 = .ok (.goto (-20), 3) := by decide +kernel
theorem d32 : decode yB 32 = .ok (.iconst 1, 1) := by decide +kernel
theorem d33 : decode yB 33 = .ok (.ireturn, 1) := by decide +kernel
theorem d34 : decode yB 34 = .ok (.iconst 0, 1) := by decide +kernel
theorem d35 : decode yB 35 = .ok (.ireturn, 1) := by decide +kernel
def site : List Cond := []
def tab : Cond := tabOf yN yB 3 (some .boolean) site
def P (a : Addr) (A : Cell) (b : Addr) (B : Cell) (args : Array Value) (s : State) : Prop := args = #[.ref a, .ref b] ∧ XT.Arr .byte a A s ∧ Typed .byte A ∧ XT.Arr .byte b B s ∧ Typed .byte B
/-- whether two byte[] are equal, place for place -/
theorem law (l : Launch) (a : Addr) (A : Cell) (b : Addr) (B : Cell) : Law l yN 2 2 0 0 yB 3 (some .boolean) site (P a A b B) (Says01 (EqC A B)) [] 0 0 := by
  refine Law.of_walk (plainFor_of_name (by decide +kernel)) (by decide +kernel) (by decide +kernel) (by decide) (fun _ _ h => by rw [h.1]; rfl) (fun _ U U' hal hh h => ⟨h.1, h.2.1.mv hal hh, h.2.2.1, h.2.2.2.1.mv hal hh, h.2.2.2.2⟩) (fun r U U' V V' h1 hal h2 h => Says01.mv r U U' V V' h1 hal h2 h) ?_
  intro p e s m args below meth c s₁ X0 hexec hbytes hml hret hlk hnm hown hh0 W hP
  obtain ⟨rfl, hA, tA, hB, tB⟩ := hP
  have a31 := hA.2.2.2
  have b31 := hB.2.2.2
  have hA0 := hA.mv X0.warmed.alike hh0
  have hB0 := hB.mv X0.warmed.alike hh0
  have c1 : Steps p.tables e below (s₁.setTop (entryFrame m #[.ref a, .ref b] 3)) (s₁.setTop (mkF m 0 #[.val (.ref a), .val (.ref b), .unset] [])) := entry rfl
  have c2 : Steps p.tables e below (s₁.setTop (entryFrame m #[.ref a, .ref b] 3)) (s₁.setTop (mkF m 4 #[.val (.ref a), .val (.ref b), .unset] [.int (Int32.ofNat B.slots.size), .int (Int32.ofNat A.slots.size)])) := c1.trans (by
    refine XS.aloadN X0.here hexec rfl (hb hbytes d0) rfl rfl ?_
    refine X0.alen hexec hA0 rfl rfl (hb hbytes d1) ?_
    refine XS.aloadN X0.here hexec rfl (hb hbytes d2) rfl rfl ?_
    refine X0.alen hexec hB0 rfl rfl (hb hbytes d3) ?_
    exact Steps.refl _)
  by_cases hs : A.slots.size = B.slots.size
  · have c3 : Steps p.tables e below (s₁.setTop (entryFrame m #[.ref a, .ref b] 3)) (s₁.setTop (mkF m 9 #[.val (.ref a), .val (.ref b), .val (.int 0)] [])) := c2.trans (by
      refine XS.icmpNo X0.here hexec rfl (hb hbytes d4) rfl (ii_ne_f (by rw [hs])) ?_
      refine iconstV X0.here hexec rfl 0 (hb hbytes d7) (by decide) ?_
      refine XS.istoreN X0.here hexec rfl (hb hbytes d8) rfl rfl ?_
      exact Steps.refl _)
    have loop : ∀ (r i : Nat), i + r = A.slots.size → (∀ j, j < i → yv A j = yv B j) → Steps p.tables e below (s₁.setTop (entryFrame m #[.ref a, .ref b] 3)) (s₁.setTop (mkF m 9 #[.val (.ref a), .val (.ref b), .val (.int (Int32.ofNat i))] [])) → ∃ (pc : Nat) (Ls : Array Slot) (v : Int32), (pc = 25 ∨ pc = 33) ∧ ((v = 1 ∧ EqC A B) ∨ (v = 0 ∧ ¬ EqC A B)) ∧ Steps p.tables e below (s₁.setTop (entryFrame m #[.ref a, .ref b] 3)) (s₁.setTop (mkF m pc Ls [.int v])) := by
      intro r
      induction r with
      | zero =>
        intro i hi he cl
        exact ⟨33, _, 1, Or.inr rfl, Or.inl ⟨rfl, hs, fun j hj => he j (by omega)⟩, cl.trans (by
          refine XS.iloadN X0.here hexec rfl (hb hbytes d9) rfl ?_
          refine XS.aloadN X0.here hexec rfl (hb hbytes d10) rfl rfl ?_
          refine X0.alen hexec hA0 rfl rfl (hb hbytes d11) ?_
          refine XS.icmpYes X0.here hexec rfl (pc0 := 12) rfl (hb hbytes d12) rfl (ii_ge_t (nlt32 (by omega) (by omega))) (by decide) rfl ?_
          refine iconstV X0.here hexec rfl 1 (hb hbytes d32) (by decide) ?_
          exact Steps.refl _)⟩
      | succ r ih =>
        intro i hi he cl
        have c4 : Steps p.tables e below (s₁.setTop (entryFrame m #[.ref a, .ref b] 3)) (s₁.setTop (mkF m 21 #[.val (.ref a), .val (.ref b), .val (.int (Int32.ofNat i))] [.int (yv B i), .int (yv A i)])) := cl.trans (by
          refine XS.iloadN X0.here hexec rfl (hb hbytes d9) rfl ?_
          refine XS.aloadN X0.here hexec rfl (hb hbytes d10) rfl rfl ?_
          refine X0.alen hexec hA0 rfl rfl (hb hbytes d11) ?_
          refine XS.icmpNo X0.here hexec rfl (hb hbytes d12) rfl (ii_ge_f (lt32 (by omega) (by omega))) ?_
          refine XS.aloadN X0.here hexec rfl (hb hbytes d15) rfl rfl ?_
          refine XS.iloadN X0.here hexec rfl (hb hbytes d16) rfl ?_
          refine X0.aget hexec hA0 rfl (yv_get hA tA (i := i) (by omega)) rfl rfl (hb hbytes d17) ?_
          refine XS.aloadN X0.here hexec rfl (hb hbytes d18) rfl rfl ?_
          refine XS.iloadN X0.here hexec rfl (hb hbytes d19) rfl ?_
          refine X0.aget hexec hB0 rfl (yv_get hB tB (i := i) (by omega)) rfl rfl (hb hbytes d20) ?_
          exact Steps.refl _)
        by_cases hv : yv A i = yv B i
        · have c5 : Steps p.tables e below (s₁.setTop (entryFrame m #[.ref a, .ref b] 3)) (s₁.setTop (mkF m 9 #[.val (.ref a), .val (.ref b), .val (.int (Int32.ofNat i + 1))] [])) := c4.trans (by
            refine XS.icmpYes X0.here hexec rfl (pc0 := 21) rfl (hb hbytes d21) rfl (ii_eq_t hv) (by decide) rfl ?_
            refine iincV X0.here hexec rfl 1 (hb hbytes d26) (by decide) rfl rfl ?_
            refine XS.goto X0.here hexec rfl (pc0 := 29) rfl (hb hbytes d29) (by decide) rfl ?_
            exact Steps.refl _)
          rw [succ32] at c5
          exact ih (i + 1) (by omega) (fun j hj => by
            by_cases e : j = i
            · rw [e]; exact hv
            · exact he j (by omega)) c5
        · exact ⟨25, _, 0, Or.inl rfl, Or.inr ⟨rfl, fun q => hv (q.2 i (by omega))⟩, c4.trans (by
            refine XS.icmpNo X0.here hexec rfl (hb hbytes d21) rfl (ii_eq_f hv) ?_
            refine iconstV X0.here hexec rfl 0 (hb hbytes d24) (by decide) ?_
            exact Steps.refl _)⟩
    obtain ⟨pc, Ls, v, hpc, hv, cz⟩ := loop A.slots.size 0 (by omega) (fun j hj => absurd hj (Nat.not_lt_zero j)) c3
    have nv : narrow .boolean (.int v) = .int v := by rcases hv with ⟨rfl, -⟩ | ⟨rfl, -⟩ <;> rfl
    rcases hpc with rfl | rfl
    · exact ⟨s₁, some (.int v), _, _, _, X0, rfl, rfl, rfl, (fun h => by cases h), ⟨v, rfl, hh0, hv⟩, fun fs hl => cz.trans (X0.ireturnOut hexec hret nv (Or.inr (Or.inl rfl)) (hb hbytes d25) hl)⟩
    · exact ⟨s₁, some (.int v), _, _, _, X0, rfl, rfl, rfl, (fun h => by cases h), ⟨v, rfl, hh0, hv⟩, fun fs hl => cz.trans (X0.ireturnOut hexec hret nv (Or.inr (Or.inl rfl)) (hb hbytes d33) hl)⟩
  · have c3 : Steps p.tables e below (s₁.setTop (entryFrame m #[.ref a, .ref b] 3)) (s₁.setTop (mkF m 35 #[.val (.ref a), .val (.ref b), .unset] [.int 0])) := c2.trans (by
      refine XS.icmpYes X0.here hexec rfl (pc0 := 4) rfl (hb hbytes d4) rfl (ii_ne_t (ne32 a31 b31 hs)) (by decide) rfl ?_
      refine iconstV X0.here hexec rfl 0 (hb hbytes d34) (by decide) ?_
      exact Steps.refl _)
    exact ⟨s₁, some (.int 0), _, _, _, X0, rfl, rfl, rfl, (fun h => by cases h), ⟨0, rfl, hh0, Or.inr ⟨rfl, fun q => hs q.1⟩⟩, fun fs hl => c3.trans (X0.ireturnOut hexec hret rfl (Or.inr (Or.inl rfl)) (hb hbytes d35) hl)⟩
end LEq
theorem Cod.ty {cd : Int32} {n : Nat} {f : Nat → Int32} {V : Cell} (h : Cod cd n f V) : Typed .byte V := fun i v hv => by
  have hi : i < V.slots.size := (Array.getElem?_eq_some_iff.mp hv).1
  rcases h with ⟨-, k1, k2⟩ | ⟨-, k1, k2, -⟩
  · rw [(k2 i (by omega)).1] at hv; cases hv; exact fits_lo8 _
  · rcases Nat.mod_two_eq_zero_or_one i with e | e
    · obtain ⟨j, rfl⟩ : ∃ j, i = 2 * j := ⟨i / 2, by omega⟩
      rw [(k2 j (by omega)).1] at hv; cases hv; exact fits_lo8 _
    · obtain ⟨j, rfl⟩ : ∃ j, i = 2 * j + 1 := ⟨i / 2, by omega⟩
      rw [(k2 j (by omega)).2] at hv; cases hv; exact fits_lo8 _
/-- the same text -/
def SameT (n : Nat) (f : Nat → Int32) (k : Nat) (g : Nat → Int32) : Prop := n = k ∧ ∀ j, j < n → f j = g j
theorem lo8_inj {x y : Int32} (h0 : ¬ x < 0) (h1 : ¬ 255 < x) (k0 : ¬ y < 0) (k1 : ¬ 255 < y) (h : lo8 x = lo8 y) : x = y := by
  rw [← lo8_mask h0 h1, ← lo8_mask k0 k1, h]
/-- arrays coded by one coder are equal just where the texts are -/
theorem Cod.eqv {cd : Int32} {n k : Nat} {f g : Nat → Int32} {V V' : Cell} (h : Cod cd n f V) (h' : Cod cd k g V') (hf : ∀ j, j < n → ¬ f j < 0 ∧ ¬ 65535 < f j) (hg : ∀ j, j < k → ¬ g j < 0 ∧ ¬ 65535 < g j) : EqC V V' ↔ SameT n f k g := by
  have yvv : ∀ {W : Cell} {i : Nat} {x : Int32}, W.slots[i]? = some (.int x) → yv W i = x := fun q => by unfold yv; rw [q]
  rcases h with ⟨rfl, k1, k2⟩ | ⟨rfl, k1, k2, -⟩
  · rcases h' with ⟨-, m1, m2⟩ | ⟨e, -⟩
    · constructor
      · rintro ⟨e1, e2⟩
        refine ⟨by omega, fun j hj => ?_⟩
        have q := e2 j (by omega)
        rw [yvv (k2 j hj).1, yvv (m2 j (by omega)).1] at q
        exact lo8_inj (hf j hj).1 (k2 j hj).2 (hg j (by omega)).1 (m2 j (by omega)).2 q
      · rintro ⟨rfl, e2⟩
        refine ⟨by omega, fun j hj => ?_⟩
        rw [yvv (k2 j (by omega)).1, yvv (m2 j (by omega)).1, e2 j (by omega)]
    · exact absurd e (by decide)
  · rcases h' with ⟨e, -⟩ | ⟨-, m1, m2, -⟩
    · exact absurd e (by decide)
    · constructor
      · rintro ⟨e1, e2⟩
        refine ⟨by omega, fun j hj => ?_⟩
        have q1 := e2 (2 * j) (by omega)
        have q2 := e2 (2 * j + 1) (by omega)
        rw [yvv (k2 j hj).1, yvv (m2 j (by omega)).1] at q1
        rw [yvv (k2 j hj).2, yvv (m2 j (by omega)).2] at q2
        rw [← pair_says (hf j hj).1 (hf j hj).2, ← pair_says (hg j (by omega)).1 (hg j (by omega)).2, q1, q2]
      · rintro ⟨rfl, e2⟩
        refine ⟨by omega, fun i hi => ?_⟩
        rcases Nat.mod_two_eq_zero_or_one i with e | e
        · obtain ⟨j, rfl⟩ : ∃ j, i = 2 * j := ⟨i / 2, by omega⟩
          rw [yvv (k2 j (by omega)).1, yvv (m2 j (by omega)).1, e2 j (by omega)]
        · obtain ⟨j, rfl⟩ : ∃ j, i = 2 * j + 1 := ⟨i / 2, by omega⟩
          rw [yvv (k2 j (by omega)).2, yvv (m2 j (by omega)).2, e2 j (by omega)]
/-- two codings differ: so do the texts -/
theorem Cod.dif {cd cd' : Int32} {n k : Nat} {f g : Nat → Int32} {V V' : Cell} (h : Cod cd n f V) (h' : Cod cd' k g V') (hne : ¬ cd = cd') : ¬ SameT n f k g := by
  rintro ⟨rfl, e⟩
  rcases h with ⟨rfl, -, k2⟩ | ⟨rfl, -, -, j, hj, hw⟩
  · rcases h' with ⟨rfl, -⟩ | ⟨-, -, -, j, hj, hw⟩
    · exact hne rfl
    · exact (k2 j hj).2 (by rw [e j hj]; exact hw)
  · rcases h' with ⟨-, -, m2⟩ | ⟨rfl, -⟩
    · exact (m2 j hj).2 (by rw [← e j hj]; exact hw)
    · exact hne rfl
/-- an object of exactly C is an instance of C -/
theorem cinst {p : Program} {l : Launch} {e : Env} {R : Room} {s : State} {m : MethodId} {args : Array Value} {below : List Frame} {meth : Method} {c : Code} {T : State} {locs : List Loc} {cells slots : Nat} (X : Stand p l e R s m args below meth c T locs cells slots) (hexec : p.tables.exec = Jvm.exec) {own C : String} {index : Nat} (hown : s.vm.findClass own = some m.cls) (hlink : (Cond.classLink own index C).before args s = true) {a : Addr} (hE : Exact C a T)
    {g : JFrame} (hg : g.method = m) {rest : List Value} (hstack : g.stack = .ref a :: rest) (hdg : decode c.code g.pc = .ok (.instanceof index, 3)) :
    ∃ T', Stand p l e R s m args below meth c T' locs cells slots ∧ T'.heap = T.heap ∧ ∀ target, Steps p.tables e below (T'.setTop { g with pc := g.pc + 3, stack := .int 1 :: rest }) target → Steps p.tables e below (T.setTop g) target := by
  obtain ⟨cB, h1, D, h2, h3, h4⟩ := hE
  have h1' : s.vm.findClass C = some cB := by rw [← X.warmed.alike.findClass]; exact h1
  obtain ⟨vm', X', st⟩ := X.instanceofYes hexec hown hlink h2 h4 h1' (by rw [h3]; exact Jvm.Free.SB.assignable_self _ _) hg hstack hdg
  exact ⟨_, X', rfl, st⟩
theorem cself {p : Program} {l : Launch} {e : Env} {R : Room} {s : State} {m : MethodId} {args : Array Value} {below : List Frame} {meth : Method} {c : Code} {T : State} {locs : List Loc} {cells slots : Nat} (X : Stand p l e R s m args below meth c T locs cells slots) (hexec : p.tables.exec = Jvm.exec) {own C : String} {index : Nat} (hown : s.vm.findClass own = some m.cls) (hlink : (Cond.classLink own index C).before args s = true) {a : Addr} (hE : Exact C a T)
    {g : JFrame} (hg : g.method = m) {rest : List Value} (hstack : g.stack = .ref a :: rest) (hdg : decode c.code g.pc = .ok (.checkcast index, 3)) :
    ∃ T', Stand p l e R s m args below meth c T' locs cells slots ∧ T'.heap = T.heap ∧ ∀ target, Steps p.tables e below (T'.setTop { g with pc := g.pc + 3, stack := .ref a :: rest }) target → Steps p.tables e below (T.setTop g) target := by
  obtain ⟨cB, h1, D, h2, h3, h4⟩ := hE
  have h1' : s.vm.findClass C = some cB := by rw [← X.warmed.alike.findClass]; exact h1
  obtain ⟨vm', X', st⟩ := X.checkcastYes hexec hown hlink h2 h4 h1' (by rw [h3]; exact Jvm.Free.SB.assignable_self _ _) hg hstack hdg
  exact ⟨_, X', rfl, fun t h => st t (by rw [← hstack] at h; exact h)⟩
namespace SEq
def yN : MethodName := ⟨"java/lang/String", "equals", "(Ljava/lang/Object;)Z"⟩
abbrev yB : ByteArray := jdk_42_method_66_code
theorem d0 : decode yB 0 = .ok (.aload_n 0, 1) := by decide +kernel
theorem d1 : decode yB 1 = .ok (.aload_n 1, 1) := by decide +kernel
theorem d2 : decode yB 2 = .ok (.if_acmp (.ne) 5, 3) := by decide +kernel
theorem d5 : decode yB 5 = .ok (.iconst 1, 1) := by decide +kernel
theorem d6 : decode yB 6 = .ok (.ireturn, 1) := by decide +kernel
theorem d7 : decode yB 7 = .ok (.aload_n 1, 1) := by decide +kernel
theorem d8 : decode yB 8 = .ok (.instanceof 10, 3) := by decide +kernel
theorem d11 : decode yB 11 = .ok (.ifCond (.eq) 43, 3) := by decide +kernel
theorem d14 : decode yB 14 = .ok (.aload_n 1, 1) := by decide +kernel
theorem d15 : decode yB 15 = .ok (.checkcast 10, 3) := by decide +kernel
theorem d18 : decode yB 18 = .ok (.astore_n 2, 1) := by decide +kernel
theorem d19 : decode yB 19 = .ok (.getstatic 38, 3) := by decide +kernel
theorem d22 : decode yB 22 = .ok (.ifCond (.eq) 14, 3) := by decide +kernel
theorem d25 : decode yB 25 = .ok (.aload_n 0, 1) := by decide +kernel
theorem d26 : decode yB 26 = .ok (.getfield 15, 3) := by decide +kernel
theorem d29 : decode yB 29 = .ok (.aload_n 2, 1) := by decide +kernel
theorem d30 : decode yB 30 = .ok (.getfield 15, 3) := by decide +kernel
theorem d33 : decode yB 33 = .ok (.if_icmp (.ne) 21, 3) := by decide +kernel
theorem d36 : decode yB 36 = .ok (.aload_n 0, 1) := by decide +kernel
theorem d37 : decode yB 37 = .ok (.getfield 9, 3) := by decide +kernel
theorem d40 : decode yB 40 = .ok (.aload_n 2, 1) := by decide +kernel
theorem d41 : decode yB 41 = .ok (.getfield 9, 3) := by decide +kernel
theorem d44 : decode yB 44 = .ok (.invokestatic 541, 3) := by decide +kernel
theorem d47 : decode yB 47 = .ok (.ifCond (.eq) 7, 3) := by decide +kernel
theorem d50 : decode yB 50 = .ok (.iconst 1, 1) := by decide +kernel
theorem d51 : decode yB 51 = .ok (.goto 4, 3) := by decide +kernel
theorem d54 : decode yB 54 = .ok (.iconst 0, 1) := by decide +kernel
theorem d55 : decode yB 55 = .ok (.ireturn, 1) := by decide +kernel
def site : List Cond := [.classLink "java/lang/String" 10 "java/lang/String", .fieldLink "java/lang/String" 38 "java/lang/String" "COMPACT_STRINGS" "Z", .fieldLink "java/lang/String" 15 "java/lang/String" "coder" "B", .fieldLink "java/lang/String" 9 "java/lang/String" "value" "[B", LEq.tab] ++ staticW "java/lang/String" 541 LEq.yN
def tab : Cond := tabOf yN yB 3 (some .boolean) site
def P (x t : Addr) (V : Cell) (cd : Int32) (n : Nat) (f : Nat → Int32) (y t' : Addr) (V' : Cell) (cd' : Int32) (k : Nat) (g : Nat → Int32) (z : Int32) (args : Array Value) (s : State) : Prop := args = #[.ref x, .ref y] ∧ Txt x t V cd n f s ∧ Txt y t' V' cd' k g s ∧ StaticIs s "java/lang/String" "COMPACT_STRINGS" "Z" (.int z) ∧ ¬ z = 0
/-- equals(Object) of two Strings: whether the texts are the same -/
theorem law (l : Launch) (x t : Addr) (V : Cell) (cd : Int32) (n : Nat) (f : Nat → Int32) (y t' : Addr) (V' : Cell) (cd' : Int32) (k : Nat) (g : Nat → Int32) (z : Int32) : Law l yN 2 1 1 14 yB 3 (some .boolean) site (P x t V cd n f y t' V' cd' k g z) (Says01 (SameT n f k g)) [] 0 0 := by
  refine Law.of_walk (plainFor_of_name (by decide +kernel)) (by decide +kernel) (by decide +kernel) (by decide) (fun _ _ h => by rw [h.1]; rfl) (fun _ U U' hal hh h => ⟨h.1, h.2.1.mv hal hh, h.2.2.1.mv hal hh, h.2.2.2.1.there hal hh, h.2.2.2.2⟩) (fun r U U' V V' h1 hal h2 h => Says01.mv r U U' V V' h1 hal h2 h) ?_
  intro p e s m args below meth c s₁ X0 hexec hbytes hml hret hlk hnm hown hh0 W hP
  obtain ⟨rfl, hx, hy, s1, hz⟩ := hP
  have c1 : Steps p.tables e below (s₁.setTop (entryFrame m #[.ref x, .ref y] 3)) (s₁.setTop (mkF m 2 #[.val (.ref x), .val (.ref y), .unset] [.ref y, .ref x])) := Steps.trans (entry rfl) (by
    show Steps p.tables e below (s₁.setTop (mkF m 0 #[.val (.ref x), .val (.ref y), .unset] [])) _
    refine XS.aloadN X0.here hexec rfl (hb hbytes d0) rfl rfl ?_
    refine XS.aloadN X0.here hexec rfl (hb hbytes d1) rfl rfl ?_
    exact Steps.refl _)
  by_cases hxy : x = y
  · have c2 : Steps p.tables e below (s₁.setTop (entryFrame m #[.ref x, .ref y] 3)) (s₁.setTop (mkF m 6 #[.val (.ref x), .val (.ref y), .unset] [.int 1])) := c1.trans (by
      refine acmpNo X0.here hexec rfl (hb hbytes d2) rfl rfl rfl (by simp [acmp, hxy]) ?_
      refine iconstV X0.here hexec rfl 1 (hb hbytes d5) (by decide) ?_
      exact Steps.refl _)
    subst hxy
    have ec : cd = cd' := by
      obtain ⟨D, fd, a1, a2, a3⟩ := hx.2.2.1
      obtain ⟨D', fd', b1, b2, b3⟩ := hy.2.2.1
      cases a1.symm.trans b1
      obtain ⟨q1, q2, q3, q4⟩ := a2.1
      obtain ⟨r1, r2, r3, r4⟩ := b2.1
      cases q4.symm.trans r4
      cases a3.symm.trans b3; rfl
    have et : t = t' := by
      obtain ⟨D, fd, a1, a2, a3⟩ := hx.2.1
      obtain ⟨D', fd', b1, b2, b3⟩ := hy.2.1
      cases a1.symm.trans b1
      obtain ⟨q1, q2, q3, q4⟩ := a2.1
      obtain ⟨r1, r2, r3, r4⟩ := b2.1
      cases q4.symm.trans r4
      cases a3.symm.trans b3; rfl
    subst ec et
    have ev : V = V' := by cases hx.2.2.2.1.1.symm.trans hy.2.2.2.1.1; rfl
    subst ev
    have hs : SameT n f k g := (Cod.eqv hx.2.2.2.2.1 hy.2.2.2.2.1 hx.2.2.2.2.2 hy.2.2.2.2.2).mp ⟨rfl, fun _ _ => rfl⟩
    exact ⟨s₁, some (.int 1), _, _, _, X0, rfl, rfl, rfl, (fun h => by cases h), ⟨1, rfl, hh0, Or.inl ⟨rfl, hs⟩⟩, fun fs hl => c2.trans (X0.ireturnOut hexec hret rfl (Or.inr (Or.inl rfl)) (hb hbytes d6) hl)⟩
  · have c2 : Steps p.tables e below (s₁.setTop (entryFrame m #[.ref x, .ref y] 3)) (s₁.setTop (mkF m 8 #[.val (.ref x), .val (.ref y), .unset] [.ref y])) := c1.trans (by
      refine acmpYes X0.here hexec rfl (pc0 := 2) rfl (hb hbytes d2) rfl rfl rfl (by simp [acmp, hxy]) (by decide) rfl ?_
      refine XS.aloadN X0.here hexec rfl (hb hbytes d7) rfl rfl ?_
      exact Steps.refl _)
    obtain ⟨T3, X3, q3, st3⟩ := cinst X0 hexec hown (wk W (.classLink "java/lang/String" 10 "java/lang/String")) (hy.mv X0.warmed.alike hh0).1 (g := (mkF m 8 #[.val (.ref x), .val (.ref y), .unset] [.ref y])) rfl (rest := []) rfl (hb hbytes d8)
    have hh3 := q3.trans hh0
    have c4 : Steps p.tables e below (s₁.setTop (entryFrame m #[.ref x, .ref y] 3)) (T3.setTop (mkF m 15 #[.val (.ref x), .val (.ref y), .unset] [.ref y])) := (c2.trans (st3 _ (Steps.refl _))).trans (by
      refine XS.ifNo X3.here hexec rfl (hb hbytes d11) rfl (i0_eq_f (by decide)) ?_
      refine XS.aloadN X3.here hexec rfl (hb hbytes d14) rfl rfl ?_
      exact Steps.refl _)
    obtain ⟨T5, X5, q5, st5⟩ := cself X3 hexec hown (wk W (.classLink "java/lang/String" 10 "java/lang/String")) (hy.mv X3.warmed.alike hh3).1 (g := (mkF m 15 #[.val (.ref x), .val (.ref y), .unset] [.ref y])) rfl (rest := []) rfl (hb hbytes d15)
    have hh5 := q5.trans hh3
    have c6 : Steps p.tables e below (s₁.setTop (entryFrame m #[.ref x, .ref y] 3)) (T5.setTop (mkF m 19 #[.val (.ref x), .val (.ref y), .val (.ref y)] [])) := (c4.trans (st5 _ (Steps.refl _))).trans (by
      refine XS.astoreN X5.here hexec rfl (hb hbytes d18) rfl rfl rfl ?_
      exact Steps.refl _)
    obtain ⟨T7, X7, q7, st7⟩ := X5.sget hexec hown (wk W (.fieldLink "java/lang/String" 38 "java/lang/String" "COMPACT_STRINGS" "Z")) s1 (fun _ _ h => by rw [hh5]; exact h) (g := (mkF m 19 #[.val (.ref x), .val (.ref y), .val (.ref y)] [])) rfl (hb hbytes d19)
    have hh7 := q7.trans hh5
    have c8 : Steps p.tables e below (s₁.setTop (entryFrame m #[.ref x, .ref y] 3)) (T7.setTop (mkF m 26 #[.val (.ref x), .val (.ref y), .val (.ref y)] [.ref x])) := (c6.trans (st7 _ (Steps.refl _))).trans (by
      refine XS.ifNo X7.here hexec rfl (hb hbytes d22) rfl (i0_eq_f hz) ?_
      refine XS.aloadN X7.here hexec rfl (hb hbytes d25) rfl rfl ?_
      exact Steps.refl _)
    obtain ⟨T9, X9, q9, st9⟩ := X7.hget hexec hown (wk W (.fieldLink "java/lang/String" 15 "java/lang/String" "coder" "B")) (hx.mv X7.warmed.alike hh7).2.2.1 (g := (mkF m 26 #[.val (.ref x), .val (.ref y), .val (.ref y)] [.ref x])) rfl (rest := []) rfl (hb hbytes d26)
    have hh9 := q9.trans hh7
    have c10 : Steps p.tables e below (s₁.setTop (entryFrame m #[.ref x, .ref y] 3)) (T9.setTop (mkF m 30 #[.val (.ref x), .val (.ref y), .val (.ref y)] [.ref y, .int cd])) := (c8.trans (st9 _ (Steps.refl _))).trans (by
      refine XS.aloadN X9.here hexec rfl (hb hbytes d29) rfl rfl ?_
      exact Steps.refl _)
    obtain ⟨T11, X11, q11, st11⟩ := X9.hget hexec hown (wk W (.fieldLink "java/lang/String" 15 "java/lang/String" "coder" "B")) (hy.mv X9.warmed.alike hh9).2.2.1 (g := (mkF m 30 #[.val (.ref x), .val (.ref y), .val (.ref y)] [.ref y, .int cd])) rfl (rest := [.int cd]) rfl (hb hbytes d30)
    have hh11 := q11.trans hh9
    have c12 : Steps p.tables e below (s₁.setTop (entryFrame m #[.ref x, .ref y] 3)) (T11.setTop (mkF m 33 #[.val (.ref x), .val (.ref y), .val (.ref y)] [.int cd', .int cd])) := c10.trans (st11 _ (Steps.refl _))
    by_cases hcd : cd = cd'
    · subst hcd
      have c13 : Steps p.tables e below (s₁.setTop (entryFrame m #[.ref x, .ref y] 3)) (T11.setTop (mkF m 37 #[.val (.ref x), .val (.ref y), .val (.ref y)] [.ref x])) := c12.trans (by
        refine XS.icmpNo X11.here hexec rfl (hb hbytes d33) rfl (ii_ne_f rfl) ?_
        refine XS.aloadN X11.here hexec rfl (hb hbytes d36) rfl rfl ?_
        exact Steps.refl _)
      obtain ⟨T14, X14, q14, st14⟩ := X11.hget hexec hown (wk W (.fieldLink "java/lang/String" 9 "java/lang/String" "value" "[B")) (hx.mv X11.warmed.alike hh11).2.1 (g := (mkF m 37 #[.val (.ref x), .val (.ref y), .val (.ref y)] [.ref x])) rfl (rest := []) rfl (hb hbytes d37)
      have hh14 := q14.trans hh11
      have c15 : Steps p.tables e below (s₁.setTop (entryFrame m #[.ref x, .ref y] 3)) (T14.setTop (mkF m 41 #[.val (.ref x), .val (.ref y), .val (.ref y)] [.ref y, .ref t])) := (c13.trans (st14 _ (Steps.refl _))).trans (by
        refine XS.aloadN X14.here hexec rfl (hb hbytes d40) rfl rfl ?_
        exact Steps.refl _)
      obtain ⟨T16, X16, q16, st16⟩ := X14.hget hexec hown (wk W (.fieldLink "java/lang/String" 9 "java/lang/String" "value" "[B")) (hy.mv X14.warmed.alike hh14).2.1 (g := (mkF m 41 #[.val (.ref x), .val (.ref y), .val (.ref y)] [.ref y, .ref t])) rfl (rest := [.ref t]) rfl (hb hbytes d41)
      have hh16 := q16.trans hh14
      have c17 : Steps p.tables e below (s₁.setTop (entryFrame m #[.ref x, .ref y] 3)) (T16.setTop (mkF m 44 #[.val (.ref x), .val (.ref y), .val (.ref y)] [.ref t', .ref t])) := c15.trans (st16 _ (Steps.refl _))
      obtain ⟨v18, T18, X18, E18, g18⟩ := X16.callS hexec (LEq.law l t V t' V') hown (wks W (staticW "java/lang/String" 541 LEq.yN)) (wk W LEq.tab) (W := 0) (Nat.le_of_ble_eq_true rfl) (Nat.le_of_ble_eq_true rfl) (Nat.le_refl _) (Nat.le_refl _) (g := (mkF m 44 #[.val (.ref x), .val (.ref y), .val (.ref y)] [.ref t', .ref t])) rfl (by rw [hml]; rfl) c17 (argsL := [.ref t, .ref t']) (rest := []) rfl rfl (by show 2 * 0 + 0 ≤ _; decide) (hb hbytes d44) (⟨rfl, hx.2.2.2.1.mv X16.warmed.alike hh16, hx.2.2.2.2.1.ty, hy.2.2.2.1.mv X16.warmed.alike hh16, hy.2.2.2.2.1.ty⟩)
      obtain ⟨v, rfl, q18, hv⟩ := E18
      have iff := Cod.eqv hx.2.2.2.2.1 hy.2.2.2.2.1 hx.2.2.2.2.2 hy.2.2.2.2.2
      rcases hv with ⟨rfl, he⟩ | ⟨rfl, he⟩
      · have c19 : Steps p.tables e below (s₁.setTop (entryFrame m #[.ref x, .ref y] 3)) (T18.setTop (mkF m 55 #[.val (.ref x), .val (.ref y), .val (.ref y)] [.int 1])) := Steps.trans g18 (by
          refine XS.ifNo X18.here hexec rfl (hb hbytes d47) rfl (i0_eq_f (by decide)) ?_
          refine iconstV X18.here hexec rfl 1 (hb hbytes d50) (by decide) ?_
          refine XS.goto X18.here hexec rfl (pc0 := 51) rfl (hb hbytes d51) (by decide) rfl ?_
          exact Steps.refl _)
        exact ⟨T18, some (.int 1), _, _, _, X18, rfl, rfl, rfl, (fun h => by cases h), ⟨1, rfl, q18.trans hh16, Or.inl ⟨rfl, iff.mp he⟩⟩, fun fs hl => c19.trans (X18.ireturnOut hexec hret rfl (Or.inr (Or.inl rfl)) (hb hbytes d55) hl)⟩
      · have c19 : Steps p.tables e below (s₁.setTop (entryFrame m #[.ref x, .ref y] 3)) (T18.setTop (mkF m 55 #[.val (.ref x), .val (.ref y), .val (.ref y)] [.int 0])) := Steps.trans g18 (by
          refine XS.ifYes X18.here hexec rfl (pc0 := 47) rfl (hb hbytes d47) rfl (i0_eq_t rfl) (by decide) rfl ?_
          refine iconstV X18.here hexec rfl 0 (hb hbytes d54) (by decide) ?_
          exact Steps.refl _)
        exact ⟨T18, some (.int 0), _, _, _, X18, rfl, rfl, rfl, (fun h => by cases h), ⟨0, rfl, q18.trans hh16, Or.inr ⟨rfl, fun q => he (iff.mpr q)⟩⟩, fun fs hl => c19.trans (X18.ireturnOut hexec hret rfl (Or.inr (Or.inl rfl)) (hb hbytes d55) hl)⟩
    · have c13 : Steps p.tables e below (s₁.setTop (entryFrame m #[.ref x, .ref y] 3)) (T11.setTop (mkF m 55 #[.val (.ref x), .val (.ref y), .val (.ref y)] [.int 0])) := c12.trans (by
        refine XS.icmpYes X11.here hexec rfl (pc0 := 33) rfl (hb hbytes d33) rfl (ii_ne_t hcd) (by decide) rfl ?_
        refine iconstV X11.here hexec rfl 0 (hb hbytes d54) (by decide) ?_
        exact Steps.refl _)
      exact ⟨T11, some (.int 0), _, _, _, X11, rfl, rfl, rfl, (fun h => by cases h), ⟨0, rfl, hh11, Or.inr ⟨rfl, Cod.dif hx.2.2.2.2.1 hy.2.2.2.2.1 hcd⟩⟩, fun fs hl => c13.trans (X11.ireturnOut hexec hret rfl (Or.inr (Or.inl rfl)) (hb hbytes d55) hl)⟩
theorem pays {l : Launch} {R : Room} {p : Program} {e : Env} {below : List Frame} {s : State} {sargs : Array Value} {len W : Nat} (x t : Addr) (V : Cell) (cd : Int32) (n : Nat) (f : Nat → Int32) (y t' : Addr) (V' : Cell) (cd' : Int32) (k : Nat) (g : Nat → Int32) (z : Int32) (htab : tab.before sargs s = true) (hfr : 2 ≤ R.frames) (hlo : W + 28 ≤ R.locals) :
    Back l R p e below s sargs yN len W (fun A₁ a₁ => A₁.cells + 0 ≤ R.cells ∧ A₁.slots + 0 ≤ R.slots ∧ P x t V cd n f y t' V' cd' k g z a₁ A₁.U) (fun A₁ _ v₁ B₁ => Says01 (SameT n f k g) v₁ A₁.U B₁.U ∧ B₁.locs = A₁.locs ++ [] ∧ B₁.cells = A₁.cells + 0 ∧ B₁.slots = A₁.slots + 0) :=
  (law l x t V cd n f y t' V' cd' k g z).pays htab hfr (by omega)
end SEq
end StrChars
namespace StrChars.Road
open Jvm Sem ClassFile Op Lib Jvm.Stand Jvm.Free Jvm.Free.XT
open Jvm.Lib.Cold (StaticIs)
/-- the words of String.equals(Object) -/
abbrev wordsEq : List Jvm.Cond := [.code SEq.yN SEq.yB 3 (some .boolean), .initialized ST, .classLink ST 10 ST, .fieldLink ST 38 ST "COMPACT_STRINGS" "Z", .fieldLink ST 15 ST "coder" "B", .fieldLink ST 9 ST "value" "[B", .methodLink ST 541 LEq.yN, .static LEq.yN, .code LEq.yN LEq.yB 3 (some .boolean), .initialized "java/lang/StringLatin1"]
theorem tabEq_of {a : Array Value} {s : State} (h : ∀ w ∈ wordsEq, w.before a s = true) : SEq.tab.before a s = true := by
  have hl : LEq.tab.before a s = true := unparts (wk h (.code LEq.yN LEq.yB 3 (some .boolean))) (wks h (.initialized LEq.yN.cls :: LEq.site))
  have q := consq hl h
  exact unparts (wk q (.code SEq.yN SEq.yB 3 (some .boolean))) (wks q (.initialized SEq.yN.cls :: SEq.site))
theorem movedEq {Z s : State} {a0 args : Array Value} (hZ : Z.Warmed39 s.vm) (hw : ∀ d ∈ wordsEq, d.before a0 Z = true) : ∀ d ∈ wordsEq, d.before args s = true := fun d hd => by
  have t : ∀ d ∈ wordsEq, (d.onTables && d.keepsFace) = true := by decide +kernel
  exact RoadKit.mv hZ (hw d hd) (t d hd)
/-- the road's facts of a String, as the laws ask it -/
theorem txt_of {Z U : State} {a0 : Array Value} {kI : Nat} (wi : (Jvm.Cond.instantiable ST kI).before a0 Z = true) (al : Z.vm.Alike U.vm) {x t : Addr} {kb : ClassId} {cs : List Int32} {cd N2 : Int32} {vs : List Value} (E : RoadKit.Exa Z U.heap x ST) (V : RoadKit.Fld Z U.heap x ST "value" "[B" (.ref t)) (C : RoadKit.Fld Z U.heap x ST "coder" "B" (.int cd)) (K : RoadKit.Arv Z U.heap t kb .byte N2 vs (.int 0)) (hc : CodA cs cd N2 vs) (hb : ∀ c ∈ cs, ¬ c < 0 ∧ ¬ (65535 : Int32) < c) (l2 : cs.length ≤ 4000) :
    ∃ A, Txt x t A cd cs.length (fun j => cs.getD j 0) U := by
  obtain ⟨A, K1, K2, K3, K4, K5, K6⟩ := K
  have hcod := hc.cod (by omega) K3 K5
  obtain ⟨D, fV, fC, hB, F1, F2, g1, g2, -, -⟩ := strObj wi al E V C
  exact ⟨A, ⟨_, hB.2.2.1, D, hB.1, rfl, by cases q : D.vm <;> first | rfl | exact absurd q (hB.2.1.2 _)⟩, Has.of hB F1 g1, Has.of hB F2 g2, ⟨K1.1, State.isArrayOf_alike al K1.2.1, K1.2.2, by rcases hcod with ⟨-, q, -⟩ | ⟨-, q, -⟩ <;> omega⟩, hcod, fun j hj => by
    have e : cs.getD j 0 = cs[j] := by simp [List.getD_eq_getElem?_getD, hj]
    show ¬ cs.getD j 0 < 0 ∧ ¬ 65535 < cs.getD j 0
    rw [e]; exact hb _ (List.getElem_mem _)⟩
theorem same_list (cs ds : List Int32) : SameT cs.length (fun j => cs.getD j 0) ds.length (fun j => ds.getD j 0) ↔ cs = ds := by
  constructor
  · rintro ⟨e, q⟩
    refine List.ext_getElem e fun j h1 h2 => ?_
    have := q j h1
    simpa [List.getD_eq_getElem?_getD, h1, h2] using this
  · rintro rfl
    exact ⟨rfl, fun _ _ => rfl⟩
/-- **equals(Object) OF TWO SUCH STRINGS**: 1 just where the chars are the same -/
theorem eqW {p : Program} {l : Launch} {e : Env} {R : Room} {s : State} {args : Array Value} {below : List Frame} {len W : Nat} {Z : State} {a0 : Array Value} {h : Heap} (hZ : Z.Warmed39 s.vm) (hw : ∀ d ∈ wordsEq, d.before a0 Z = true) {kI : Nat} (wi : (Jvm.Cond.instantiable ST kI).before a0 Z = true)
    {x t : Addr} {kb : ClassId} {cs : List Int32} {cd N2 : Int32} {vs : List Value} (E : RoadKit.Exa Z h x ST) (V : RoadKit.Fld Z h x ST "value" "[B" (.ref t)) (C : RoadKit.Fld Z h x ST "coder" "B" (.int cd)) (K : RoadKit.Arv Z h t kb .byte N2 vs (.int 0)) (hc : CodA cs cd N2 vs) (hb : ∀ c ∈ cs, ¬ c < 0 ∧ ¬ (65535 : Int32) < c) (l2 : cs.length ≤ 4000)
    {y t' : Addr} {kb' : ClassId} {ds : List Int32} {cd' N2' : Int32} {vs' : List Value} (E' : RoadKit.Exa Z h y ST) (V' : RoadKit.Fld Z h y ST "value" "[B" (.ref t')) (C' : RoadKit.Fld Z h y ST "coder" "B" (.int cd')) (K' : RoadKit.Arv Z h t' kb' .byte N2' vs' (.int 0)) (hc' : CodA ds cd' N2' vs') (hb' : ∀ c ∈ ds, ¬ c < 0 ∧ ¬ (65535 : Int32) < c) (l2' : ds.length ≤ 4000)
    {z : Int32} (S : RoadKit.Sta Z h ST "COMPACT_STRINGS" "Z" (.int z)) (hz : ¬ z = 0) (hfr : 2 ≤ R.frames) (hlo : W + 28 ≤ R.locals) :
    Back l R p e below s args (⟨"java/lang/String", "equals", "(Ljava/lang/Object;)Z"⟩ : MethodName) len W (fun P a => a = #[.ref x, .ref y] ∧ P.U.heap = h ∧ P.cells + 0 ≤ R.cells ∧ P.slots + 0 ≤ R.slots)
      (fun P _ v B => ∃ L, (((v = some (.int 1) ∧ cs = ds) ∨ (v = some (.int 0) ∧ ¬ cs = ds)) ∧ L = [] ∧ B.U.heap = h) ∧ B.locs = P.locs ++ L ∧ B.cells = P.cells + 0 ∧ B.slots = P.slots + 0) := by
  intro m meth c P g ig mk a X hg hsize hdg hW hn hp'
  obtain ⟨rfl, rfl, r1, r2⟩ := hp'
  have al : Z.vm.Alike P.U.vm := hZ.alike.trans X.warmed.alike
  obtain ⟨A, hx⟩ := txt_of wi al E V C K hc hb l2
  obtain ⟨A', hy⟩ := txt_of wi al E' V' C' K' hc' hb' l2'
  obtain ⟨v, B, X', ⟨⟨w, hv, hh, hq⟩, hl, hk, hs⟩, st⟩ := SEq.pays x t A cd cs.length (fun j => cs.getD j 0) y t' A' cd' ds.length (fun j => ds.getD j 0) z (tabEq_of (movedEq hZ hw)) hfr hlo m meth c P g ig mk _ X hg hsize hdg hW hn ⟨r1, r2, rfl, hx, hy, sta_is al S, hz⟩
  refine ⟨v, B, X', ⟨[], ⟨?_, rfl, hh⟩, hl, hk, hs⟩, st⟩
  rcases hq with ⟨rfl, q⟩ | ⟨rfl, q⟩
  · exact Or.inl ⟨hv, (same_list cs ds).mp q⟩
  · exact Or.inr ⟨hv, fun e => q ((same_list cs ds).mpr e)⟩
end StrChars.Road
namespace StrChars.Road
open Jvm Sem ClassFile Op Lib Jvm.Stand Jvm.Free Jvm.Free.XT
open Jvm.Lib.Cold (StaticIs)
/-- what backV says of its String, as the contracts of this text ask it: cs's low bytes, coder 0 -/
theorem codOf {cs : List Int32} {n : Nat} (hn : cs.length = n) (hb : ∀ c ∈ cs, ¬ 255 < c) : CodA cs 0 (Int32.ofNat n) ((cs.map lo8).map Value.int) := Or.inl ⟨rfl, by rw [hn], by simp [List.map_map, Function.comp_def], hb⟩
end StrChars.Road
end Jvm.Pilot.@@N@@

namespace Jvm.Pilot.@@N@@
open Jvm Jvm.ClassFile Sem Op Lib Jvm.Free Jvm.Free.Fl Jvm.Stand Jvm.LawKit Jvm.RoadKit Bundle Jvm.Pilot.@@N@@.Jvm.D
def own_Go (tb : Tables) (e : Env) (below : List Frame) (P : State → Outcome → Prop) (S : State) : Prop := ∃ t o, Steps tb e below S t ∧ P t o
section OwnGo
variable {tb : Tables} {e : Env} {below : List Frame} {P : State → Outcome → Prop} {S S' : State}
theorem own_up (st : ∀ t, Steps tb e below S' t → Steps tb e below S t) (h : own_Go tb e below P S') : own_Go tb e below P S := by
  obtain ⟨t, o, h1, h2⟩ := h
  exact ⟨t, o, st t h1, h2⟩
theorem own_start (st : ∀ t, Steps tb e below S' t → Steps tb e below S t) (h : own_Go tb e below P S') : ∃ t o, Steps tb e below S t ∧ P t o := own_up st h
theorem own_end (h : ∃ t o, Steps tb e below S t ∧ P t o) : own_Go tb e below P S := h
end OwnGo
theorem own_eqi {args : Array Value} {first s : State} {o : Option Outcome} {idx : List Nat} {a : Term} {n : Int32} (h : (Jvm.Cond.eq a (Term.int n)).value args first o s idx = some true) : a.eval args first o idx s = some (.int n) := by
  obtain ⟨x, y, h1, h2, k1, k2⟩ := cmp_v (Or.inl h)
  have hb : (Term.int n).eval args first o idx s = some (.int n) := Term.int_eval n
  obtain rfl : y = .int n := Option.some.inj (h2.symm.trans hb)
  cases x with
  | int x =>
    have q := gotT (Cond.eq_ints h1 hb) h
    rw [h1, q]
  | _ => simp [Kin] at k1 k2
def own_Arf (Z : State) (h : Heap) (a : Addr) (ty : FieldType) (n : Int32) (f : Nat → Value) : Prop := ∃ c : Cell, Arr Z h a c ty ∧ c.slots.size = n.toNatClampNeg ∧ ¬ n < 0 ∧ ∀ i, i < c.slots.size → c.slots[i]? = some (f i)
section OwnArf
variable {p : Program} {l : Launch} {e : Env} {R : Room} {s : State} {m : MethodId} {args : Array Value} {below : List Frame} {meth : Method} {c : Code} {T : State} {locs : List Loc} {cells slots : Nat} {Z : State} {h h' : Heap} {a b : Addr} {ty : FieldType} {n j : Int32} {f : Nat → Value} {v : Value} {sl : Nat} {ws : List Addr}
theorem own_Arf.lt (F : own_Arf Z h a ty n f) : a < h.size := by obtain ⟨c, A, -⟩ := F; exact A.lt
theorem own_Arf.nn (F : own_Arf Z h a ty n f) : ¬ n < 0 := by obtain ⟨c, A, -, q, -⟩ := F; exact q
theorem own_Arf.ext (F : own_Arf Z h a ty n f) (E : Ext h h') : own_Arf Z h' a ty n f := by obtain ⟨c, A, r⟩ := F; exact ⟨c, A.ext E, r⟩
theorem own_Arf.other (F : own_Arf Z h b ty n f) (W : Wr h h' a sl v) (q : b ≠ a) : own_Arf Z h' b ty n f := by obtain ⟨c, A, r⟩ := F; exact ⟨c, A.other W q, r⟩
theorem own_Arf.keep (F : own_Arf Z h a ty n f) (K : Keep h h' ws) (q : a ∉ ws) : own_Arf Z h' a ty n f := by obtain ⟨c, A, r⟩ := F; exact ⟨c, ⟨K.2.1 a c A.1 q, A.2⟩, r⟩
theorem own_Arf.new {k : ClassId} (A : Arr Z h a (newA k ty n) ty) (q : ¬ n < 0) : own_Arf Z h a ty n (fun _ => defaultValue ty) :=
  ⟨_, A, sz_new _ _ _, q, fun i hi => by rw [sz_new] at hi; simp [newA, hi]⟩
theorem own_Arf.ofArv {k : ClassId} {vs : List Value} {d : Value} (F : Arv Z h a k ty n vs d) : own_Arf Z h a ty n (fun i => vs.getD i d) := by
  obtain ⟨c, A, -, S, q, H, -⟩ := F
  exact ⟨c, A, S, q, fun i hi => H i hi⟩
theorem own_Arf.congr {f' : Nat → Value} (F : own_Arf Z h a ty n f) (q : ∀ i, i < n.toNatClampNeg → f i = f' i) : own_Arf Z h a ty n f' := by
  obtain ⟨c, A, S, q1, H⟩ := F
  exact ⟨c, A, S, q1, fun i hi => by rw [H i hi, q i (S ▸ hi)]⟩
theorem own_Arf.set (F : own_Arf Z h a ty n f) (W : Wr h h' a j.toNatClampNeg v) : own_Arf Z h' a ty n (fun i => if i = j.toNatClampNeg then v else f i) := by
  obtain ⟨c, A, S, q, H⟩ := F
  refine ⟨_, A.same W, by rw [sz_set]; exact S, q, fun x hx => ?_⟩
  rw [sz_set] at hx
  by_cases u : x = j.toNatClampNeg
  · subst u; simp [Cell.setSlot, hx]
  · show _ = some (if x = j.toNatClampNeg then v else f x)
    rw [if_neg u]
    have := H x hx
    simp only [Cell.setSlot]
    rw [Array.getElem?_setIfInBounds_ne (Ne.symm u)]
    exact this
def own_upd {α : Type} (u : Nat → α) (j : Int32) (x : α) : Nat → α := fun i => if i = j.toNatClampNeg then x else u i
theorem own_Arf.setD {u : Nat → UInt64} {x : UInt64} (F : own_Arf Z h a .double n (fun i => .double (u i))) (W : Wr h h' a j.toNatClampNeg (.double x)) : own_Arf Z h' a .double n (fun i => .double (own_upd u j x i)) :=
  (own_Arf.set F W).congr fun i _ => by unfold own_upd; split <;> rfl
theorem own_Arf.setI {u : Nat → Int32} {x : Int32} (F : own_Arf Z h a ty n (fun i => .int (u i))) (W : Wr h h' a j.toNatClampNeg (.int x)) : own_Arf Z h' a ty n (fun i => .int (own_upd u j x i)) :=
  (own_Arf.set F W).congr fun i _ => by unfold own_upd; split <;> rfl
theorem own_Arf.setJ {u : Nat → Int64} {x : Int64} (F : own_Arf Z h a .long n (fun i => .long (u i))) (W : Wr h h' a j.toNatClampNeg (.long x)) : own_Arf Z h' a .long n (fun i => .long (own_upd u j x i)) :=
  (own_Arf.set F W).congr fun i _ => by unfold own_upd; split <;> rfl
theorem own_Arf.daload (F : own_Arf Z h a .double n f) (X : Stand p l e R s m args below meth c T locs cells slots) (hx : p.tables.exec = Jvm.exec) (hZ : Z.Warmed39 s.vm) (eT : T.heap = h) (hj : ¬ j < 0) (hn : j < n) (hv : f j.toNatClampNeg = v) {g : JFrame} (hg : g.method = m) {rest : List Value} (hs : g.stack = .int j :: .ref a :: rest) (hd : decode c.code g.pc = .ok (.daload, 1)) (target : State) (hr : Steps p.tables e below (T.setTop { g with pc := g.pc + 1, stack := v :: rest }) target) : Steps p.tables e below (T.setTop g) target := by
  obtain ⟨cl, A, S, q, H⟩ := F
  have hin := inb_of S ⟨hj, hn⟩
  exact X.daload hx (by rw [eT]; exact A.1) (State.isArrayOf_alike hZ.alike A.2.1) A.2.2 hin (by rw [H _ (Nat.lt_of_not_le fun y => hin (Or.inr y)), hv]) hg hs hd target hr
theorem own_Arf.iaload (F : own_Arf Z h a .int n f) (X : Stand p l e R s m args below meth c T locs cells slots) (hx : p.tables.exec = Jvm.exec) (hZ : Z.Warmed39 s.vm) (eT : T.heap = h) (hj : ¬ j < 0) (hn : j < n) (hv : f j.toNatClampNeg = v) {g : JFrame} (hg : g.method = m) {rest : List Value} (hs : g.stack = .int j :: .ref a :: rest) (hd : decode c.code g.pc = .ok (.iaload, 1)) (target : State) (hr : Steps p.tables e below (T.setTop { g with pc := g.pc + 1, stack := v :: rest }) target) : Steps p.tables e below (T.setTop g) target := by
  obtain ⟨cl, A, S, q, H⟩ := F
  have hin := inb_of S ⟨hj, hn⟩
  exact X.iaload hx (by rw [eT]; exact A.1) (State.isArrayOf_alike hZ.alike A.2.1) A.2.2 hin (by rw [H _ (Nat.lt_of_not_le fun y => hin (Or.inr y)), hv]) hg hs hd target hr
theorem own_Arf.laload (F : own_Arf Z h a .long n f) (X : Stand p l e R s m args below meth c T locs cells slots) (hx : p.tables.exec = Jvm.exec) (hZ : Z.Warmed39 s.vm) (eT : T.heap = h) (hj : ¬ j < 0) (hn : j < n) (hv : f j.toNatClampNeg = v) {g : JFrame} (hg : g.method = m) {rest : List Value} (hs : g.stack = .int j :: .ref a :: rest) (hd : decode c.code g.pc = .ok (.laload, 1)) (target : State) (hr : Steps p.tables e below (T.setTop { g with pc := g.pc + 1, stack := v :: rest }) target) : Steps p.tables e below (T.setTop g) target := by
  obtain ⟨cl, A, S, q, H⟩ := F
  have hin := inb_of S ⟨hj, hn⟩
  exact X.laload hx (by rw [eT]; exact A.1) (State.isArrayOf_alike hZ.alike A.2.1) A.2.2 hin (by rw [H _ (Nat.lt_of_not_le fun y => hin (Or.inr y)), hv]) hg hs hd target hr
theorem own_Arf.aaload (F : own_Arf Z h a ty n f) (hty : ty.isReference = true) (X : Stand p l e R s m args below meth c T locs cells slots) (hx : p.tables.exec = Jvm.exec) (hZ : Z.Warmed39 s.vm) (eT : T.heap = h) (hj : ¬ j < 0) (hn : j < n) (hv : f j.toNatClampNeg = v) {g : JFrame} (hg : g.method = m) {rest : List Value} (hs : g.stack = .int j :: .ref a :: rest) (hd : decode c.code g.pc = .ok (.aaload, 1)) (target : State) (hr : Steps p.tables e below (T.setTop { g with pc := g.pc + 1, stack := v :: rest }) target) : Steps p.tables e below (T.setTop g) target := by
  obtain ⟨cl, A, S, q, H⟩ := F
  have hin := inb_of S ⟨hj, hn⟩
  exact X.aaload hx (by rw [eT]; exact A.1) (State.isArrayOf_alike hZ.alike A.2.1) hty A.2.2 hin (by rw [H _ (Nat.lt_of_not_le fun y => hin (Or.inr y)), hv]) hg hs hd target hr
theorem own_Arf.alen (F : own_Arf Z h a ty n f) (X : Stand p l e R s m args below meth c T locs cells slots) (hx : p.tables.exec = Jvm.exec) (hZ : Z.Warmed39 s.vm) (eT : T.heap = h) {g : JFrame} (hg : g.method = m) {rest : List Value} (hs : g.stack = .ref a :: rest) (hd : decode c.code g.pc = .ok (.arraylength, 1)) (target : State) (hr : Steps p.tables e below (T.setTop { g with pc := g.pc + 1, stack := .int n :: rest }) target) : Steps p.tables e below (T.setTop g) target := by
  obtain ⟨cl, A, S, q, H⟩ := F
  refine X.arraylength hx (by rw [eT]; exact A.1) (State.isArrayOf_alike hZ.alike A.2.1) hg hs hd target ?_
  rw [len_of S q]
  exact hr
end OwnArf
def own_W (Z : State) (cz : Int32) (va : Addr) (kv : ClassId) (cA : Addr) (lA : Addr) (bA : Addr) (kA : ClassId) (cP : Addr) (lP : Addr) (bP : Addr) (kP : ClassId) (cL : Addr) (lL : Addr) (bL : Addr) (kL : ClassId) : Prop :=
  Sta Z Z.heap "java/lang/String" "COMPACT_STRINGS" "Z" (.int cz) ∧ ¬ cz = 0 ∧ Sta Z Z.heap "com/example/remora/remora/jpa/TransactionStrategy" "$VALUES" "[Lcom/example/remora/remora/jpa/TransactionStrategy;" (.ref va) ∧ Exa Z Z.heap va "[Lcom/example/remora/remora/jpa/TransactionStrategy;" ∧ Arv Z Z.heap va kv (.object "com/example/remora/remora/jpa/TransactionStrategy") (3 : Int32) [(.ref cA), (.ref cP), (.ref cL)] .null ∧ Sta Z Z.heap "com/example/remora/remora/jpa/TransactionStrategy" "ATOMIC" "Lcom/example/remora/remora/jpa/TransactionStrategy;" (.ref cA) ∧ Exa Z Z.heap cA "com/example/remora/remora/jpa/TransactionStrategy" ∧ Fld Z Z.heap cA "com/example/remora/remora/jpa/TransactionStrategy" "label" "Ljava/lang/String;" (.ref lA) ∧ Exa Z Z.heap lA "java/lang/String" ∧ Fld Z Z.heap lA "java/lang/String" "coder" "B" (.int 0) ∧ Fld Z Z.heap lA "java/lang/String" "value" "[B" (.ref bA) ∧ Arv Z Z.heap bA kA .byte (6 : Int32) ((([97, 116, 111, 109, 105, 99] : List Int32).map (fun c => c.toInt8.toInt32)).map Value.int) (.int 0) ∧ Sta Z Z.heap "com/example/remora/remora/jpa/TransactionStrategy" "PER_REQUEST" "Lcom/example/remora/remora/jpa/TransactionStrategy;" (.ref cP) ∧ Exa Z Z.heap cP "com/example/remora/remora/jpa/TransactionStrategy" ∧ Fld Z Z.heap cP "com/example/remora/remora/jpa/TransactionStrategy" "label" "Ljava/lang/String;" (.ref lP) ∧ Exa Z Z.heap lP "java/lang/String" ∧ Fld Z Z.heap lP "java/lang/String" "coder" "B" (.int 0) ∧ Fld Z Z.heap lP "java/lang/String" "value" "[B" (.ref bP) ∧ Arv Z Z.heap bP kP .byte (11 : Int32) ((([112, 101, 114, 45, 114, 101, 113, 117, 101, 115, 116] : List Int32).map (fun c => c.toInt8.toInt32)).map Value.int) (.int 0) ∧ Sta Z Z.heap "com/example/remora/remora/jpa/TransactionStrategy" "LONG_TRANSACTION" "Lcom/example/remora/remora/jpa/TransactionStrategy;" (.ref cL) ∧ Exa Z Z.heap cL "com/example/remora/remora/jpa/TransactionStrategy" ∧ Fld Z Z.heap cL "com/example/remora/remora/jpa/TransactionStrategy" "label" "Ljava/lang/String;" (.ref lL) ∧ Exa Z Z.heap lL "java/lang/String" ∧ Fld Z Z.heap lL "java/lang/String" "coder" "B" (.int 0) ∧ Fld Z Z.heap lL "java/lang/String" "value" "[B" (.ref bL) ∧ Arv Z Z.heap bL kL .byte (16 : Int32) ((([108, 111, 110, 103, 45, 116, 114, 97, 110, 115, 97, 99, 116, 105, 111, 110] : List Int32).map (fun c => c.toInt8.toInt32)).map Value.int) (.int 0)
theorem own_up16 (cs : List Int32) (h : ∀ c ∈ cs, ¬ c < 0 ∧ ¬ (255 : Int32) < c) : ∀ c ∈ cs, ¬ c < 0 ∧ ¬ (65535 : Int32) < c := fun c hc => ⟨(h c hc).1, fun q => (h c hc).2 (by rw [Int32.lt_iff_toInt_lt] at q ⊢; have e1 : (65535 : Int32).toInt = 65535 := rfl; have e2 : (255 : Int32).toInt = 255 := rfl; omega)⟩
theorem own_hpA : ∀ c ∈ ([97, 116, 111, 109, 105, 99] : List Int32), ¬ c < 0 ∧ ¬ (255 : Int32) < c := by decide
theorem own_cdA : StrChars.Road.CodA ([97, 116, 111, 109, 105, 99] : List Int32) 0 (6 : Int32) ((([97, 116, 111, 109, 105, 99] : List Int32).map (fun c => c.toInt8.toInt32)).map Value.int) := StrChars.Road.codOf (n := 6) rfl (fun c hc => (own_hpA c hc).2)
theorem own_hpP : ∀ c ∈ ([112, 101, 114, 45, 114, 101, 113, 117, 101, 115, 116] : List Int32), ¬ c < 0 ∧ ¬ (255 : Int32) < c := by decide
theorem own_cdP : StrChars.Road.CodA ([112, 101, 114, 45, 114, 101, 113, 117, 101, 115, 116] : List Int32) 0 (11 : Int32) ((([112, 101, 114, 45, 114, 101, 113, 117, 101, 115, 116] : List Int32).map (fun c => c.toInt8.toInt32)).map Value.int) := StrChars.Road.codOf (n := 11) rfl (fun c hc => (own_hpP c hc).2)
theorem own_hpL : ∀ c ∈ ([108, 111, 110, 103, 45, 116, 114, 97, 110, 115, 97, 99, 116, 105, 111, 110] : List Int32), ¬ c < 0 ∧ ¬ (255 : Int32) < c := by decide
theorem own_cdL : StrChars.Road.CodA ([108, 111, 110, 103, 45, 116, 114, 97, 110, 115, 97, 99, 116, 105, 111, 110] : List Int32) 0 (16 : Int32) ((([108, 111, 110, 103, 45, 116, 114, 97, 110, 115, 97, 99, 116, 105, 111, 110] : List Int32).map (fun c => c.toInt8.toInt32)).map Value.int) := StrChars.Road.codOf (n := 16) rfl (fun c hc => (own_hpL c hc).2)
theorem own_eqr {args : Array Value} {first s : State} {o : Option Outcome} {idx : List Nat} {a b : Term} {y : Addr} (h : (Jvm.Cond.eq a b).value args first o s idx = some true) (hb : b.eval args first o idx s = some (.ref y)) : a.eval args first o idx s = some (.ref y) := by
  obtain ⟨x, y', h1, h2, k1, k2⟩ := cmp_v (Or.inl h)
  obtain rfl : y' = .ref y := Option.some.inj (h2.symm.trans hb)
  have hx : x.isRef = true := by cases x <;> simp [Kin, Value.isRef] at k1 k2 ⊢
  have q := gotT (eq_R h1 hb hx rfl) h
  rw [h1, q]
theorem own_len {s : State} {args : Array Value} {t : Term} {x : Addr} {cl : Cell} {ty : FieldType} {n : Int32} (h : (Term.length t).eval args s none [] s = some (.int n)) (ht : t.eval args s none [] s = some (.ref x)) (A : Arr s s.heap x cl ty) : cl.slots.size < 2 ^ 31 ∧ cl.slots.size.toInt32 = n := by
  have ha : s.arrayAt? x = some cl := IntBox.arrayAt_of A.1 A.2.1 A.2.2
  by_cases hl : cl.slots.size < 2 ^ 31
  · rw [len_f ht ha hl] at h
    exact ⟨hl, Value.int.inj (Option.some.inj h)⟩
  · simp [Term.eval, ht, ha, hl] at h
theorem pn_0 : plainName "com/example/remora/remora/jpa/TransactionStrategy" = true := by first | (simp [plainName, overriddenIn]; done) | decide +kernel
theorem d8_0 : decode prog_14_method_1_code 0 = .ok (.getstatic 13, 3) := by decide +kernel
theorem d8_3 : decode prog_14_method_1_code 3 = .ok (.invokevirtual 17, 3) := by decide +kernel
theorem d8_6 : decode prog_14_method_1_code 6 = .ok (.checkcast 18, 3) := by decide +kernel
theorem d8_9 : decode prog_14_method_1_code 9 = .ok (.areturn, 1) := by decide +kernel
theorem ef_rmV (m : MethodId)  : entryFrame m #[] 0 = mkF m 0 #[] [] := by first | (simp [entryFrame, mkF, argsToLocals, Value.category]; done) | rfl
def QrmV (Z : State) (cz : Int32) (va : Addr) (kv : ClassId) (cA : Addr) (lA : Addr) (bA : Addr) (kA : ClassId) (cP : Addr) (lP : Addr) (bP : Addr) (kP : ClassId) (cL : Addr) (lL : Addr) (bL : Addr) (kL : ClassId) (h0 : Heap) (n0 : Nat) (v : Option Value) (h : Heap) (L : List Loc) : Prop := ∃ b : Addr, h0.size ≤ b ∧ v = some (.ref b) ∧ Fr n0 L ∧ Keep h0 h [] ∧ Arv Z h b kv (.object "com/example/remora/remora/jpa/TransactionStrategy") (3 : Int32) [(.ref cA), (.ref cP), (.ref cL)] .null
set_option maxRecDepth 65536 in
set_option maxHeartbeats 40000000 in
theorem rmV (l : Launch) (Z : State) (a0 : Array Value) (hw : ∀ d ∈ tables_1, d.before a0 Z = true) (ws : List Jvm.Cond) (cz : Int32) (va : Addr) (kv : ClassId) (cA : Addr) (lA : Addr) (bA : Addr) (kA : ClassId) (cP : Addr) (lP : Addr) (bP : Addr) (kP : ClassId) (cL : Addr) (lL : Addr) (bL : Addr) (kL : ClassId) (h0 : Heap) (n0 : Nat) (Z0 : n0 ≤ h0.size) (OO : Old Z n0 h0) (HW : own_W Z cz va kv cA lA bA kA cP lP bP kP cL lL bL kL) :
    MetFree l (⟨"com/example/remora/remora/jpa/TransactionStrategy", "values", "()[Lcom/example/remora/remora/jpa/TransactionStrategy;"⟩ : MethodName) (head1 (Jvm.Cond.code (⟨"com/example/remora/remora/jpa/TransactionStrategy", "values", "()[Lcom/example/remora/remora/jpa/TransactionStrategy;"⟩ : MethodName) prog_14_method_1_code 0 (some (.array (.object "com/example/remora/remora/jpa/TransactionStrategy"))) :: ws) ({ frames := 1, cells := 1, slots := 3, locals := 14 } : Room)) (fun aq Uq => aq = #[] ∧ Z.Warmed39 Uq.vm ∧ Uq.heap = h0) (fun _ _ _ _ _ => True) (fun _ Uq oq Uq' => ∃ vq Lq, oq = .returned vq ∧ QrmV Z cz va kv cA lA bA kA cP lP bP kP cL lL bL kL h0 n0 vq Uq'.heap Lq ∧ FrameEnd Uq oq Uq' Lq ({ frames := 1, cells := 1, slots := 3, locals := 14 } : Room).cells ({ frames := 1, cells := 1, slots := 3, locals := 14 } : Room).slots) := by
  refine MetFree.of_bodySF (plainFor_of_name pn_0) hisR ?_
  intro p e s m args below meth c s₁ Bd hml0 hP hK
  obtain ⟨rfl, hZ, hh⟩ := hP
  have hx := Bd.exec
  have hby := Bd.bytes
  have hml : c.maxLocals = 0 := hml0
  have hown : s.vm.findClass "com/example/remora/remora/jpa/TransactionStrategy" = some m.cls := findClass_of_methodNamed Bd.named
  have hnm := (name_of_methodNamed Bd.named Bd.method).1
  have X0 : Stand p l e ({ frames := 1, cells := 1, slots := 3, locals := 14 } : Room) s m #[] below meth c s₁ [] 0 0 := Stand.of_body Bd
  have e0 : s₁.heap = h0 := by rw [← hh, Bd.state]; rfl
  have N0 := Fr.nil n0
  have ZH := Z0
  have KK := Keep.refl h0 []
  refine own_start (fun t k => castTop (ef_rmV m ) k) ?_
  show own_Go p.tables e below _ (s₁.setTop (mkF m 0 #[] []))
  have HW0 := HW
  obtain ⟨SC, hcz, S_va, E_va, V_va, S_cA, E_cA, FlA, ElA, ClA, VlA, KlA, S_cP, E_cP, FlP, ElP, ClP, VlP, KlP, S_cL, E_cL, FlL, ElL, ClL, VlL, KlL⟩ := HW
  obtain ⟨T1, X1, e1, st1⟩ := getS2 X0 hx hZ hown (host := "") (Or.inl (hw _ (List.mem_of_getElem? (i := 40) rfl))) Via.refl e0 (S_va.ext OO.2) (g := (mkF m 0 #[] [])) rfl (hb hby d8_0)
  refine own_up st1 ?_
  show own_Go p.tables e below _ (T1.setTop (mkF m 3 #[] [(.ref va)]))
  obtain ⟨T2, h2, X2, e2, E2, A2, B2, st2⟩ := cloneH X1 hx hZ hown (hw _ (List.mem_of_getElem? (i := 42) rfl)) (hw _ (List.mem_of_getElem? (i := 43) rfl)) (hw _ (List.mem_of_getElem? (i := 47) rfl)) (hw _ (List.mem_of_getElem? (i := 45) rfl)) (hw _ (List.mem_of_getElem? (i := 46) rfl)) (hw _ (List.mem_of_getElem? (i := 48) rfl)) e1 (Arv.arh (V_va.ext OO.2)) (E_va.ext OO.2) (g := (mkF m 3 #[] [(.ref va)])) rfl (by rw [hml]; rfl) rfl (hb hby d8_3) (by decide) (W := 0) (cap := 3) (by show 2 * 0 + _ ≤ _; exact Nat.le_of_eq rfl) (by decide) (by decide) (by decide) (by decide)
  obtain ⟨b2, gz2⟩ : ∃ z, z = h0.size := ⟨_, rfl⟩
  rw [← gz2] at A2 B2 st2
  have g_b2 : n0 ≤ b2 := Nat.le_trans ZH (Nat.le_of_eq gz2.symm)
  have sz_b2 : h0.size ≤ b2 := Nat.le_trans KK.1 (Nat.le_of_eq gz2.symm)
  have ZH := Nat.le_trans ZH E2.1
  have KK := KK.ext E2
  have OO := OO.ext E2
  have V_b2 : Arv Z h2 b2 kv (.object "com/example/remora/remora/jpa/TransactionStrategy") (3 : Int32) [(.ref cA), (.ref cP), (.ref cL)] .null := A2
  have E_b2 := B2
  refine own_up st2 ?_
  show own_Go p.tables e below _ (T2.setTop (mkF m 6 #[] [(.ref b2)]))
  obtain ⟨T3, X3, e3, st3⟩ := castY X2 hx hZ hown (hw _ (List.mem_of_getElem? (i := 52) rfl)) e2 (Ins.self E_b2) (g := (mkF m 6 #[] [(.ref b2)])) rfl rfl (hb hby d8_6)
  refine own_up st3 ?_
  show own_Go p.tables e below _ (T3.setTop (mkF m 9 #[] [(.ref b2)]))
  obtain ⟨fs4, hr4, hrun4, hended4, hW4, hsame4⟩ := X3.leave (v := some (.ref b2)) (fun h => by rw [Bd.returns] at h; cases h)
  refine own_end ⟨_, _, ?_, hrun4, hended4, _, _, rfl, ?_, ⟨_, rfl⟩, hW4, hsame4.mono (by decide) (by decide)⟩
  · exact retOut X3 hx Bd.returns rfl (Or.inr (Or.inr (Or.inr (Or.inr ⟨rfl, rfl, rfl⟩)))) (hb hby d8_9) hr4
  · show QrmV Z cz va kv cA lA bA kA cP lP bP kP cL lL bL kL h0 n0 _ T3.heap _
    rw [e3]
    exact ⟨b2, sz_b2, rfl, N0, KK, V_b2⟩
theorem d7_0 : decode prog_14_method_4_code 0 = .ok (.invokestatic 36, 3) := by decide +kernel
theorem pd_0 : parseMethodDescriptor "()[Lcom/example/remora/remora/jpa/TransactionStrategy;" = some ⟨[], some (.array (.object "com/example/remora/remora/jpa/TransactionStrategy"))⟩ := by decide +kernel
theorem d7_3 : decode prog_14_method_4_code 3 = .ok (.astore_n 1, 1) := by decide +kernel
theorem d7_4 : decode prog_14_method_4_code 4 = .ok (.aload_n 1, 1) := by decide +kernel
theorem d7_5 : decode prog_14_method_4_code 5 = .ok (.arraylength, 1) := by decide +kernel
theorem d7_6 : decode prog_14_method_4_code 6 = .ok (.istore_n 2, 1) := by decide +kernel
theorem d7_7 : decode prog_14_method_4_code 7 = .ok (.iconst 0, 1) := by decide +kernel
theorem d7_8 : decode prog_14_method_4_code 8 = .ok (.istore_n 3, 1) := by decide +kernel
theorem d7_9 : decode prog_14_method_4_code 9 = .ok (.iload_n 3, 1) := by decide +kernel
theorem d7_10 : decode prog_14_method_4_code 10 = .ok (.iload_n 2, 1) := by decide +kernel
theorem d7_11 : decode prog_14_method_4_code 11 = .ok (.if_icmp .ge 29, 3) := by decide +kernel
theorem d7_14 : decode prog_14_method_4_code 14 = .ok (.aload_n 1, 1) := by decide +kernel
theorem d7_15 : decode prog_14_method_4_code 15 = .ok (.iload_n 3, 1) := by decide +kernel
theorem d7_16 : decode prog_14_method_4_code 16 = .ok (.aaload, 1) := by decide +kernel
theorem d7_17 : decode prog_14_method_4_code 17 = .ok (.astore 4, 2) := by decide +kernel
theorem d7_19 : decode prog_14_method_4_code 19 = .ok (.aload 4, 2) := by decide +kernel
theorem d7_21 : decode prog_14_method_4_code 21 = .ok (.getfield 32, 3) := by decide +kernel
theorem d7_24 : decode prog_14_method_4_code 24 = .ok (.aload_n 0, 1) := by decide +kernel
theorem d7_25 : decode prog_14_method_4_code 25 = .ok (.invokevirtual 40, 3) := by decide +kernel
theorem pd_1 : parseMethodDescriptor "(Ljava/lang/Object;)Z" = some ⟨[(.object "java/lang/Object")], some .boolean⟩ := by decide +kernel
theorem d7_28 : decode prog_14_method_4_code 28 = .ok (.ifCond .eq 6, 3) := by decide +kernel
theorem d7_31 : decode prog_14_method_4_code 31 = .ok (.aload 4, 2) := by decide +kernel
theorem d7_33 : decode prog_14_method_4_code 33 = .ok (.areturn, 1) := by decide +kernel
theorem ef_rmLA (m : MethodId) (x0 : Addr) : entryFrame m #[(.ref x0)] 5 = mkF m 0 #[.val (.ref x0), .unset, .unset, .unset, .unset] [] := by first | (simp [entryFrame, mkF, argsToLocals, Value.category]; done) | rfl
def QrmLA (Z : State) (cz : Int32) (va : Addr) (kv : ClassId) (cA : Addr) (lA : Addr) (bA : Addr) (kA : ClassId) (cP : Addr) (lP : Addr) (bP : Addr) (kP : ClassId) (cL : Addr) (lL : Addr) (bL : Addr) (kL : ClassId) (lb : Addr) (tb : Addr) (kt : ClassId) (h0 : Heap) (n0 : Nat) (v : Option Value) (h : Heap) (L : List Loc) : Prop := v = some (.ref cA) ∧ Fr n0 L ∧ Keep h0 h []
set_option maxRecDepth 65536 in
set_option maxHeartbeats 40000000 in
theorem rmLA (l : Launch) (Z : State) (a0 : Array Value) (hw : ∀ d ∈ tables_1, d.before a0 Z = true) (ws : List Jvm.Cond) (cz : Int32) (va : Addr) (kv : ClassId) (cA : Addr) (lA : Addr) (bA : Addr) (kA : ClassId) (cP : Addr) (lP : Addr) (bP : Addr) (kP : ClassId) (cL : Addr) (lL : Addr) (bL : Addr) (kL : ClassId) (lb : Addr) (tb : Addr) (kt : ClassId) (h0 : Heap) (n0 : Nat) (Z0 : n0 ≤ h0.size) (OO : Old Z n0 h0) (HW : own_W Z cz va kv cA lA bA kA cP lP bP kP cL lL bL kL) (E_lb : Exa Z h0 lb "java/lang/String") (F_lb : Fld Z h0 lb "java/lang/String" "value" "[B" (.ref tb)) (C_lb : Fld Z h0 lb "java/lang/String" "coder" "B" (.int 0)) (V_tb : Arv Z h0 tb kt .byte (6 : Int32) ((([97, 116, 111, 109, 105, 99] : List Int32).map (fun c => c.toInt8.toInt32)).map Value.int) (.int 0)) :
    MetFree l (⟨"com/example/remora/remora/jpa/TransactionStrategy", "forLabel", "(Ljava/lang/String;)Lcom/example/remora/remora/jpa/TransactionStrategy;"⟩ : MethodName) (head1 (Jvm.Cond.code (⟨"com/example/remora/remora/jpa/TransactionStrategy", "forLabel", "(Ljava/lang/String;)Lcom/example/remora/remora/jpa/TransactionStrategy;"⟩ : MethodName) prog_14_method_4_code 5 (some (.object "com/example/remora/remora/jpa/TransactionStrategy")) :: ws) ({ frames := 2, cells := 1, slots := 3, locals := 28 } : Room)) (fun aq Uq => aq = #[(.ref lb)] ∧ Z.Warmed39 Uq.vm ∧ Uq.heap = h0) (fun _ _ _ _ _ => True) (fun _ Uq oq Uq' => ∃ vq Lq, oq = .returned vq ∧ QrmLA Z cz va kv cA lA bA kA cP lP bP kP cL lL bL kL lb tb kt h0 n0 vq Uq'.heap Lq ∧ FrameEnd Uq oq Uq' Lq ({ frames := 2, cells := 1, slots := 3, locals := 28 } : Room).cells ({ frames := 2, cells := 1, slots := 3, locals := 28 } : Room).slots) := by
  refine MetFree.of_bodySF (plainFor_of_name pn_0) hisR ?_
  intro p e s m args below meth c s₁ Bd hml0 hP hK
  obtain ⟨rfl, hZ, hh⟩ := hP
  have hx := Bd.exec
  have hby := Bd.bytes
  have hml : c.maxLocals = 5 := hml0
  have hown : s.vm.findClass "com/example/remora/remora/jpa/TransactionStrategy" = some m.cls := findClass_of_methodNamed Bd.named
  have hnm := (name_of_methodNamed Bd.named Bd.method).1
  have X0 : Stand p l e ({ frames := 2, cells := 1, slots := 3, locals := 28 } : Room) s m #[(.ref lb)] below meth c s₁ [] 0 0 := Stand.of_body Bd
  have e0 : s₁.heap = h0 := by rw [← hh, Bd.state]; rfl
  have N0 := Fr.nil n0
  have ZH := Z0
  have KK := Keep.refl h0 []
  refine own_start (fun t k => castTop (ef_rmLA m lb) k) ?_
  show own_Go p.tables e below _ (s₁.setTop (mkF m 0 #[.val (.ref lb), .unset, .unset, .unset, .unset] []))
  have HW0 := HW
  obtain ⟨SC, hcz, S_va, E_va, V_va, S_cA, E_cA, FlA, ElA, ClA, VlA, KlA, S_cP, E_cP, FlP, ElP, ClP, VlP, KlP, S_cL, E_cL, FlL, ElL, ClL, VlL, KlL⟩ := HW
  have heq : ∀ d ∈ StrChars.Road.wordsEq, d.before a0 Z = true := fun d hd => hw d ((by decide +kernel : ∀ d ∈ StrChars.Road.wordsEq, d ∈ tables_1) d hd)
  obtain ⟨_, _, ⟨T1, L1, k1, n1⟩, -, X1, ⟨Lc1, hQ1, l1, y1, z1⟩, st1⟩ := Jvm.LawKit.callS X0 hx (y := (⟨"com/example/remora/remora/jpa/TransactionStrategy", "values", "()[Lcom/example/remora/remora/jpa/TransactionStrategy;"⟩ : MethodName)) hown (mvT hZ (hw _ (List.mem_of_getElem? (i := 37) rfl))) (mvT hZ (hw _ (List.mem_of_getElem? (i := 38) rfl))) (mvT hZ (hw _ (List.mem_of_getElem? (i := 2) rfl))) (mvT hZ (hw _ (List.mem_of_getElem? (i := 39) rfl))) (by decide) (backOf (W := 0) (rmV l Z a0 hw [] cz va kv cA lA bA kA cP lP bP kP cL lL bL kL h0 n0 ZH OO HW0) hZ (hw _ (List.mem_of_getElem? (i := 39) rfl)) (hw _ (List.mem_of_getElem? (i := 2) rfl)) (by decide) (by decide)) (g := (mkF m 0 #[.val (.ref lb), .unset, .unset, .unset, .unset] [])) rfl (by rw [hml]; rfl) (argsL := []) (rest := []) (lenOf pd_0 rfl) rfl (by show 2 * 0 + _ ≤ _; exact Nat.le_of_eq rfl) (hb hby d7_0) (fun _ _ => ⟨rfl, e0, (by decide : 0 + 1 ≤ _), (by decide : 0 + 3 ≤ _)⟩)
  dsimp only [Pt.U, Pt.locs, Pt.cells, Pt.slots] at X1 l1 y1 z1 st1 hQ1
  subst l1 y1 z1
  obtain ⟨bv, sf1, rfl, Nq1, K1, V_bv⟩ := hQ1
  have g_bv : n0 ≤ bv := Nat.le_trans ZH sf1
  have sz_bv : h0.size ≤ bv := Nat.le_trans KK.1 sf1
  have N1 := Fr.app N0 Nq1
  have E_lb := E_lb.keep K1
  have F_lb := F_lb.keep K1 nin0
  have C_lb := C_lb.keep K1 nin0
  have V_tb := V_tb.keep K1 nin0
  have ZH := Nat.le_trans ZH K1.1
  have KK := KK.trans K1 all0
  have OO := OO.keep K1 all0
  refine own_up st1 ?_
  show own_Go p.tables e below _ (T1.setTop (mkF m 3 #[.val (.ref lb), .unset, .unset, .unset, .unset] [(.ref bv)]))
  refine own_up (fun _ k => XS.astoreN X1.here hx rfl (hb hby d7_3) rfl rfl (l' := #[.val (.ref lb), .val (.ref bv), .unset, .unset, .unset]) rfl k) ?_
  show own_Go p.tables e below _ (T1.setTop (mkF m 4 #[.val (.ref lb), .val (.ref bv), .unset, .unset, .unset] []))
  refine own_up (fun _ k => XS.aloadN X1.here hx rfl (hb hby d7_4) rfl rfl k) ?_
  show own_Go p.tables e below _ (T1.setTop (mkF m 5 #[.val (.ref lb), .val (.ref bv), .unset, .unset, .unset] [(.ref bv)]))
  refine own_up (fun _ k => own_Arf.alen (own_Arf.ofArv V_bv) X1 hx hZ rfl (g := (mkF m 5 #[.val (.ref lb), .val (.ref bv), .unset, .unset, .unset] [(.ref bv)])) rfl rfl (hb hby d7_5) _ k) ?_
  show own_Go p.tables e below _ (T1.setTop (mkF m 6 #[.val (.ref lb), .val (.ref bv), .unset, .unset, .unset] [(.int (3 : Int32))]))
  refine own_up (fun _ k => XS.istoreN X1.here hx rfl (hb hby d7_6) rfl (l' := #[.val (.ref lb), .val (.ref bv), .val (.int (3 : Int32)), .unset, .unset]) rfl k) ?_
  show own_Go p.tables e below _ (T1.setTop (mkF m 7 #[.val (.ref lb), .val (.ref bv), .val (.int (3 : Int32)), .unset, .unset] []))
  refine own_up (fun _ k => XS.iconst X1.here hx rfl (hb hby d7_7) k) ?_
  show own_Go p.tables e below _ (T1.setTop (mkF m 8 #[.val (.ref lb), .val (.ref bv), .val (.int (3 : Int32)), .unset, .unset] [(.int (0 : Int32))]))
  refine own_up (fun _ k => XS.istoreN X1.here hx rfl (hb hby d7_8) rfl (l' := #[.val (.ref lb), .val (.ref bv), .val (.int (3 : Int32)), .val (.int (0 : Int32)), .unset]) rfl k) ?_
  show own_Go p.tables e below _ (T1.setTop (mkF m 9 #[.val (.ref lb), .val (.ref bv), .val (.int (3 : Int32)), .val (.int (0 : Int32)), .unset] []))
  refine own_up (fun _ k => XS.iloadN X1.here hx rfl (hb hby d7_9) rfl k) ?_
  show own_Go p.tables e below _ (T1.setTop (mkF m 10 #[.val (.ref lb), .val (.ref bv), .val (.int (3 : Int32)), .val (.int (0 : Int32)), .unset] [(.int (0 : Int32))]))
  refine own_up (fun _ k => XS.iloadN X1.here hx rfl (hb hby d7_10) rfl k) ?_
  show own_Go p.tables e below _ (T1.setTop (mkF m 11 #[.val (.ref lb), .val (.ref bv), .val (.int (3 : Int32)), .val (.int (0 : Int32)), .unset] [(.int (3 : Int32)), (.int (0 : Int32))]))
  refine own_up (fun _ k => XS.icmpNo X1.here hx rfl (hb hby d7_11) rfl (tlt (by decide : (0 : Int32) < (3 : Int32))).2.1 k) ?_
  show own_Go p.tables e below _ (T1.setTop (mkF m 14 #[.val (.ref lb), .val (.ref bv), .val (.int (3 : Int32)), .val (.int (0 : Int32)), .unset] []))
  refine own_up (fun _ k => XS.aloadN X1.here hx rfl (hb hby d7_14) rfl rfl k) ?_
  show own_Go p.tables e below _ (T1.setTop (mkF m 15 #[.val (.ref lb), .val (.ref bv), .val (.int (3 : Int32)), .val (.int (0 : Int32)), .unset] [(.ref bv)]))
  refine own_up (fun _ k => XS.iloadN X1.here hx rfl (hb hby d7_15) rfl k) ?_
  show own_Go p.tables e below _ (T1.setTop (mkF m 16 #[.val (.ref lb), .val (.ref bv), .val (.int (3 : Int32)), .val (.int (0 : Int32)), .unset] [(.int (0 : Int32)), (.ref bv)]))
  refine own_up (fun _ k => own_Arf.aaload (own_Arf.ofArv V_bv) rfl X1 hx hZ rfl (by decide) (by decide) (v := (.ref cA)) rfl (g := (mkF m 16 #[.val (.ref lb), .val (.ref bv), .val (.int (3 : Int32)), .val (.int (0 : Int32)), .unset] [(.int (0 : Int32)), (.ref bv)])) rfl rfl (hb hby d7_16) _ k) ?_
  show own_Go p.tables e below _ (T1.setTop (mkF m 17 #[.val (.ref lb), .val (.ref bv), .val (.int (3 : Int32)), .val (.int (0 : Int32)), .unset] [(.ref cA)]))
  refine own_up (fun _ k => XS.astore X1.here hx rfl (hb hby d7_17) rfl rfl (l' := #[.val (.ref lb), .val (.ref bv), .val (.int (3 : Int32)), .val (.int (0 : Int32)), .val (.ref cA)]) rfl k) ?_
  show own_Go p.tables e below _ (T1.setTop (mkF m 19 #[.val (.ref lb), .val (.ref bv), .val (.int (3 : Int32)), .val (.int (0 : Int32)), .val (.ref cA)] []))
  refine own_up (fun _ k => XS.aload X1.here hx rfl (hb hby d7_19) rfl rfl k) ?_
  show own_Go p.tables e below _ (T1.setTop (mkF m 21 #[.val (.ref lb), .val (.ref bv), .val (.int (3 : Int32)), .val (.int (0 : Int32)), .val (.ref cA)] [(.ref cA)]))
  obtain ⟨T2, X2, e2, st2⟩ := getF X1 hx hZ hown (host := "") (Or.inl (hw _ (List.mem_of_getElem? (i := 54) rfl))) Via.refl rfl (FlA.ext OO.2) (g := (mkF m 21 #[.val (.ref lb), .val (.ref bv), .val (.int (3 : Int32)), .val (.int (0 : Int32)), .val (.ref cA)] [(.ref cA)])) rfl rfl (hb hby d7_21)
  refine own_up st2 ?_
  show own_Go p.tables e below _ (T2.setTop (mkF m 24 #[.val (.ref lb), .val (.ref bv), .val (.int (3 : Int32)), .val (.int (0 : Int32)), .val (.ref cA)] [(.ref lA)]))
  refine own_up (fun _ k => XS.aloadN X2.here hx rfl (hb hby d7_24) rfl rfl k) ?_
  show own_Go p.tables e below _ (T2.setTop (mkF m 25 #[.val (.ref lb), .val (.ref bv), .val (.int (3 : Int32)), .val (.int (0 : Int32)), .val (.ref cA)] [(.ref lb), (.ref lA)]))
  obtain ⟨cq3, kq3, q3a, q3b, q3c⟩ := isOf hZ e2 (ElA.ext OO.2)
  obtain ⟨_, _, ⟨T3, L3, k3, n3⟩, -, X3, ⟨Lc3, hQ3, l3, y3, z3⟩, st3⟩ := X2.virtualBack hx (y := (⟨"java/lang/String", "equals", "(Ljava/lang/Object;)Z"⟩ : MethodName)) (z := (⟨"java/lang/String", "equals", "(Ljava/lang/Object;)Z"⟩ : MethodName)) hown (mvT hZ (hw _ (List.mem_of_getElem? (i := 56) rfl))) (mvT hZ (hw _ (List.mem_of_getElem? (i := 57) rfl))) (notFace_of_selects (args := #[]) (mvT hZ (hw _ (List.mem_of_getElem? (i := 59) rfl)))) (mvT hZ (hw _ (List.mem_of_getElem? (i := 59) rfl))) (mvT hZ (hw _ (List.mem_of_getElem? (i := 58) rfl))) (by decide) (StrChars.Road.eqW (W := 0) hZ heq (kI := 4) (hw _ (List.mem_of_getElem? (i := 6) rfl)) (ElA.ext OO.2) (VlA.ext OO.2) (ClA.ext OO.2) (KlA.ext OO.2) own_cdA (own_up16 _ own_hpA) (Nat.le_of_ble_eq_true rfl) E_lb F_lb C_lb V_tb own_cdA (own_up16 _ own_hpA) (Nat.le_of_ble_eq_true rfl) (SC.ext OO.2) hcz (by decide) (by decide)) q3a q3c (g := (mkF m 25 #[.val (.ref lb), .val (.ref bv), .val (.int (3 : Int32)), .val (.int (0 : Int32)), .val (.ref cA)] [(.ref lb), (.ref lA)])) rfl (by rw [hml]; rfl) (Steps.refl _) (argsL := [(.ref lb)]) (rest := []) (lenOf pd_1 rfl) rfl (by show 2 * 0 + _ ≤ _; exact Nat.le_of_eq rfl) (hb hby d7_25) (fun _ _ => ⟨rfl, e2, (by decide : 1 + 0 ≤ _), (by decide : 3 + 0 ≤ _)⟩)
  dsimp only [Pt.U, Pt.locs, Pt.cells, Pt.slots] at X3 l3 y3 z3 st3 hQ3
  subst l3 y3 z3
  obtain ⟨hcase3, rfl, e3⟩ := hQ3
  have hv3 : _ = some (Value.int 1) := hcase3.elim (fun q => q.1) (fun q => absurd rfl q.2)
  subst hv3
  have N3 := Fr.app N1 (Fr.nil n0)
  refine own_up (fun _ k => st3.trans k) ?_
  show own_Go p.tables e below _ (T3.setTop (mkF m 28 #[.val (.ref lb), .val (.ref bv), .val (.int (3 : Int32)), .val (.int (0 : Int32)), .val (.ref cA)] [(.int (1 : Int32))]))
  refine own_up (fun _ k => XS.ifNo X3.here hx rfl (hb hby d7_28) rfl ((if0 _ _).trans (feq (by decide : ¬ ((1 : Int32) = (0 : Int32)))).1) k) ?_
  show own_Go p.tables e below _ (T3.setTop (mkF m 31 #[.val (.ref lb), .val (.ref bv), .val (.int (3 : Int32)), .val (.int (0 : Int32)), .val (.ref cA)] []))
  refine own_up (fun _ k => XS.aload X3.here hx rfl (hb hby d7_31) rfl rfl k) ?_
  show own_Go p.tables e below _ (T3.setTop (mkF m 33 #[.val (.ref lb), .val (.ref bv), .val (.int (3 : Int32)), .val (.int (0 : Int32)), .val (.ref cA)] [(.ref cA)]))
  obtain ⟨fs4, hr4, hrun4, hended4, hW4, hsame4⟩ := X3.leave (v := some (.ref cA)) (fun h => by rw [Bd.returns] at h; cases h)
  refine own_end ⟨_, _, ?_, hrun4, hended4, _, _, rfl, ?_, ⟨_, rfl⟩, hW4, hsame4.mono (by decide) (by decide)⟩
  · exact retOut X3 hx Bd.returns rfl (Or.inr (Or.inr (Or.inr (Or.inr ⟨rfl, rfl, rfl⟩)))) (hb hby d7_33) hr4
  · show QrmLA Z cz va kv cA lA bA kA cP lP bP kP cL lL bL kL lb tb kt h0 n0 _ T3.heap _
    rw [e3]
    exact ⟨rfl, N3, KK⟩
theorem d7_34 : decode prog_14_method_4_code 34 = .ok (.iinc 3 1, 3) := by decide +kernel
theorem d7_37 : decode prog_14_method_4_code 37 = .ok (.goto (-28), 3) := by decide +kernel
theorem ef_rmLP (m : MethodId) (x0 : Addr) : entryFrame m #[(.ref x0)] 5 = mkF m 0 #[.val (.ref x0), .unset, .unset, .unset, .unset] [] := by first | (simp [entryFrame, mkF, argsToLocals, Value.category]; done) | rfl
def QrmLP (Z : State) (cz : Int32) (va : Addr) (kv : ClassId) (cA : Addr) (lA : Addr) (bA : Addr) (kA : ClassId) (cP : Addr) (lP : Addr) (bP : Addr) (kP : ClassId) (cL : Addr) (lL : Addr) (bL : Addr) (kL : ClassId) (lb : Addr) (tb : Addr) (kt : ClassId) (h0 : Heap) (n0 : Nat) (v : Option Value) (h : Heap) (L : List Loc) : Prop := v = some (.ref cP) ∧ Fr n0 L ∧ Keep h0 h []
set_option maxRecDepth 65536 in
set_option maxHeartbeats 40000000 in
theorem rmLP (l : Launch) (Z : State) (a0 : Array Value) (hw : ∀ d ∈ tables_1, d.before a0 Z = true) (ws : List Jvm.Cond) (cz : Int32) (va : Addr) (kv : ClassId) (cA : Addr) (lA : Addr) (bA : Addr) (kA : ClassId) (cP : Addr) (lP : Addr) (bP : Addr) (kP : ClassId) (cL : Addr) (lL : Addr) (bL : Addr) (kL : ClassId) (lb : Addr) (tb : Addr) (kt : ClassId) (h0 : Heap) (n0 : Nat) (Z0 : n0 ≤ h0.size) (OO : Old Z n0 h0) (HW : own_W Z cz va kv cA lA bA kA cP lP bP kP cL lL bL kL) (E_lb : Exa Z h0 lb "java/lang/String") (F_lb : Fld Z h0 lb "java/lang/String" "value" "[B" (.ref tb)) (C_lb : Fld Z h0 lb "java/lang/String" "coder" "B" (.int 0)) (V_tb : Arv Z h0 tb kt .byte (11 : Int32) ((([112, 101, 114, 45, 114, 101, 113, 117, 101, 115, 116] : List Int32).map (fun c => c.toInt8.toInt32)).map Value.int) (.int 0)) :
    MetFree l (⟨"com/example/remora/remora/jpa/TransactionStrategy", "forLabel", "(Ljava/lang/String;)Lcom/example/remora/remora/jpa/TransactionStrategy;"⟩ : MethodName) (head1 (Jvm.Cond.code (⟨"com/example/remora/remora/jpa/TransactionStrategy", "forLabel", "(Ljava/lang/String;)Lcom/example/remora/remora/jpa/TransactionStrategy;"⟩ : MethodName) prog_14_method_4_code 5 (some (.object "com/example/remora/remora/jpa/TransactionStrategy")) :: ws) ({ frames := 2, cells := 1, slots := 3, locals := 28 } : Room)) (fun aq Uq => aq = #[(.ref lb)] ∧ Z.Warmed39 Uq.vm ∧ Uq.heap = h0) (fun _ _ _ _ _ => True) (fun _ Uq oq Uq' => ∃ vq Lq, oq = .returned vq ∧ QrmLP Z cz va kv cA lA bA kA cP lP bP kP cL lL bL kL lb tb kt h0 n0 vq Uq'.heap Lq ∧ FrameEnd Uq oq Uq' Lq ({ frames := 2, cells := 1, slots := 3, locals := 28 } : Room).cells ({ frames := 2, cells := 1, slots := 3, locals := 28 } : Room).slots) := by
  refine MetFree.of_bodySF (plainFor_of_name pn_0) hisR ?_
  intro p e s m args below meth c s₁ Bd hml0 hP hK
  obtain ⟨rfl, hZ, hh⟩ := hP
  have hx := Bd.exec
  have hby := Bd.bytes
  have hml : c.maxLocals = 5 := hml0
  have hown : s.vm.findClass "com/example/remora/remora/jpa/TransactionStrategy" = some m.cls := findClass_of_methodNamed Bd.named
  have hnm := (name_of_methodNamed Bd.named Bd.method).1
  have X0 : Stand p l e ({ frames := 2, cells := 1, slots := 3, locals := 28 } : Room) s m #[(.ref lb)] below meth c s₁ [] 0 0 := Stand.of_body Bd
  have e0 : s₁.heap = h0 := by rw [← hh, Bd.state]; rfl
  have N0 := Fr.nil n0
  have ZH := Z0
  have KK := Keep.refl h0 []
  refine own_start (fun t k => castTop (ef_rmLP m lb) k) ?_
  show own_Go p.tables e below _ (s₁.setTop (mkF m 0 #[.val (.ref lb), .unset, .unset, .unset, .unset] []))
  have HW0 := HW
  obtain ⟨SC, hcz, S_va, E_va, V_va, S_cA, E_cA, FlA, ElA, ClA, VlA, KlA, S_cP, E_cP, FlP, ElP, ClP, VlP, KlP, S_cL, E_cL, FlL, ElL, ClL, VlL, KlL⟩ := HW
  have heq : ∀ d ∈ StrChars.Road.wordsEq, d.before a0 Z = true := fun d hd => hw d ((by decide +kernel : ∀ d ∈ StrChars.Road.wordsEq, d ∈ tables_1) d hd)
  obtain ⟨_, _, ⟨T1, L1, k1, n1⟩, -, X1, ⟨Lc1, hQ1, l1, y1, z1⟩, st1⟩ := Jvm.LawKit.callS X0 hx (y := (⟨"com/example/remora/remora/jpa/TransactionStrategy", "values", "()[Lcom/example/remora/remora/jpa/TransactionStrategy;"⟩ : MethodName)) hown (mvT hZ (hw _ (List.mem_of_getElem? (i := 37) rfl))) (mvT hZ (hw _ (List.mem_of_getElem? (i := 38) rfl))) (mvT hZ (hw _ (List.mem_of_getElem? (i := 2) rfl))) (mvT hZ (hw _ (List.mem_of_getElem? (i := 39) rfl))) (by decide) (backOf (W := 0) (rmV l Z a0 hw [] cz va kv cA lA bA kA cP lP bP kP cL lL bL kL h0 n0 ZH OO HW0) hZ (hw _ (List.mem_of_getElem? (i := 39) rfl)) (hw _ (List.mem_of_getElem? (i := 2) rfl)) (by decide) (by decide)) (g := (mkF m 0 #[.val (.ref lb), .unset, .unset, .unset, .unset] [])) rfl (by rw [hml]; rfl) (argsL := []) (rest := []) (lenOf pd_0 rfl) rfl (by show 2 * 0 + _ ≤ _; exact Nat.le_of_eq rfl) (hb hby d7_0) (fun _ _ => ⟨rfl, e0, (by decide : 0 + 1 ≤ _), (by decide : 0 + 3 ≤ _)⟩)
  dsimp only [Pt.U, Pt.locs, Pt.cells, Pt.slots] at X1 l1 y1 z1 st1 hQ1
  subst l1 y1 z1
  obtain ⟨bv, sf1, rfl, Nq1, K1, V_bv⟩ := hQ1
  have g_bv : n0 ≤ bv := Nat.le_trans ZH sf1
  have sz_bv : h0.size ≤ bv := Nat.le_trans KK.1 sf1
  have N1 := Fr.app N0 Nq1
  have E_lb := E_lb.keep K1
  have F_lb := F_lb.keep K1 nin0
  have C_lb := C_lb.keep K1 nin0
  have V_tb := V_tb.keep K1 nin0
  have ZH := Nat.le_trans ZH K1.1
  have KK := KK.trans K1 all0
  have OO := OO.keep K1 all0
  refine own_up st1 ?_
  show own_Go p.tables e below _ (T1.setTop (mkF m 3 #[.val (.ref lb), .unset, .unset, .unset, .unset] [(.ref bv)]))
  refine own_up (fun _ k => XS.astoreN X1.here hx rfl (hb hby d7_3) rfl rfl (l' := #[.val (.ref lb), .val (.ref bv), .unset, .unset, .unset]) rfl k) ?_
  show own_Go p.tables e below _ (T1.setTop (mkF m 4 #[.val (.ref lb), .val (.ref bv), .unset, .unset, .unset] []))
  refine own_up (fun _ k => XS.aloadN X1.here hx rfl (hb hby d7_4) rfl rfl k) ?_
  show own_Go p.tables e below _ (T1.setTop (mkF m 5 #[.val (.ref lb), .val (.ref bv), .unset, .unset, .unset] [(.ref bv)]))
  refine own_up (fun _ k => own_Arf.alen (own_Arf.ofArv V_bv) X1 hx hZ rfl (g := (mkF m 5 #[.val (.ref lb), .val (.ref bv), .unset, .unset, .unset] [(.ref bv)])) rfl rfl (hb hby d7_5) _ k) ?_
  show own_Go p.tables e below _ (T1.setTop (mkF m 6 #[.val (.ref lb), .val (.ref bv), .unset, .unset, .unset] [(.int (3 : Int32))]))
  refine own_up (fun _ k => XS.istoreN X1.here hx rfl (hb hby d7_6) rfl (l' := #[.val (.ref lb), .val (.ref bv), .val (.int (3 : Int32)), .unset, .unset]) rfl k) ?_
  show own_Go p.tables e below _ (T1.setTop (mkF m 7 #[.val (.ref lb), .val (.ref bv), .val (.int (3 : Int32)), .unset, .unset] []))
  refine own_up (fun _ k => XS.iconst X1.here hx rfl (hb hby d7_7) k) ?_
  show own_Go p.tables e below _ (T1.setTop (mkF m 8 #[.val (.ref lb), .val (.ref bv), .val (.int (3 : Int32)), .unset, .unset] [(.int (0 : Int32))]))
  refine own_up (fun _ k => XS.istoreN X1.here hx rfl (hb hby d7_8) rfl (l' := #[.val (.ref lb), .val (.ref bv), .val (.int (3 : Int32)), .val (.int (0 : Int32)), .unset]) rfl k) ?_
  show own_Go p.tables e below _ (T1.setTop (mkF m 9 #[.val (.ref lb), .val (.ref bv), .val (.int (3 : Int32)), .val (.int (0 : Int32)), .unset] []))
  refine own_up (fun _ k => XS.iloadN X1.here hx rfl (hb hby d7_9) rfl k) ?_
  show own_Go p.tables e below _ (T1.setTop (mkF m 10 #[.val (.ref lb), .val (.ref bv), .val (.int (3 : Int32)), .val (.int (0 : Int32)), .unset] [(.int (0 : Int32))]))
  refine own_up (fun _ k => XS.iloadN X1.here hx rfl (hb hby d7_10) rfl k) ?_
  show own_Go p.tables e below _ (T1.setTop (mkF m 11 #[.val (.ref lb), .val (.ref bv), .val (.int (3 : Int32)), .val (.int (0 : Int32)), .unset] [(.int (3 : Int32)), (.int (0 : Int32))]))
  refine own_up (fun _ k => XS.icmpNo X1.here hx rfl (hb hby d7_11) rfl (tlt (by decide : (0 : Int32) < (3 : Int32))).2.1 k) ?_
  show own_Go p.tables e below _ (T1.setTop (mkF m 14 #[.val (.ref lb), .val (.ref bv), .val (.int (3 : Int32)), .val (.int (0 : Int32)), .unset] []))
  refine own_up (fun _ k => XS.aloadN X1.here hx rfl (hb hby d7_14) rfl rfl k) ?_
  show own_Go p.tables e below _ (T1.setTop (mkF m 15 #[.val (.ref lb), .val (.ref bv), .val (.int (3 : Int32)), .val (.int (0 : Int32)), .unset] [(.ref bv)]))
  refine own_up (fun _ k => XS.iloadN X1.here hx rfl (hb hby d7_15) rfl k) ?_
  show own_Go p.tables e below _ (T1.setTop (mkF m 16 #[.val (.ref lb), .val (.ref bv), .val (.int (3 : Int32)), .val (.int (0 : Int32)), .unset] [(.int (0 : Int32)), (.ref bv)]))
  refine own_up (fun _ k => own_Arf.aaload (own_Arf.ofArv V_bv) rfl X1 hx hZ rfl (by decide) (by decide) (v := (.ref cA)) rfl (g := (mkF m 16 #[.val (.ref lb), .val (.ref bv), .val (.int (3 : Int32)), .val (.int (0 : Int32)), .unset] [(.int (0 : Int32)), (.ref bv)])) rfl rfl (hb hby d7_16) _ k) ?_
  show own_Go p.tables e below _ (T1.setTop (mkF m 17 #[.val (.ref lb), .val (.ref bv), .val (.int (3 : Int32)), .val (.int (0 : Int32)), .unset] [(.ref cA)]))
  refine own_up (fun _ k => XS.astore X1.here hx rfl (hb hby d7_17) rfl rfl (l' := #[.val (.ref lb), .val (.ref bv), .val (.int (3 : Int32)), .val (.int (0 : Int32)), .val (.ref cA)]) rfl k) ?_
  show own_Go p.tables e below _ (T1.setTop (mkF m 19 #[.val (.ref lb), .val (.ref bv), .val (.int (3 : Int32)), .val (.int (0 : Int32)), .val (.ref cA)] []))
  refine own_up (fun _ k => XS.aload X1.here hx rfl (hb hby d7_19) rfl rfl k) ?_
  show own_Go p.tables e below _ (T1.setTop (mkF m 21 #[.val (.ref lb), .val (.ref bv), .val (.int (3 : Int32)), .val (.int (0 : Int32)), .val (.ref cA)] [(.ref cA)]))
  obtain ⟨T2, X2, e2, st2⟩ := getF X1 hx hZ hown (host := "") (Or.inl (hw _ (List.mem_of_getElem? (i := 54) rfl))) Via.refl rfl (FlA.ext OO.2) (g := (mkF m 21 #[.val (.ref lb), .val (.ref bv), .val (.int (3 : Int32)), .val (.int (0 : Int32)), .val (.ref cA)] [(.ref cA)])) rfl rfl (hb hby d7_21)
  refine own_up st2 ?_
  show own_Go p.tables e below _ (T2.setTop (mkF m 24 #[.val (.ref lb), .val (.ref bv), .val (.int (3 : Int32)), .val (.int (0 : Int32)), .val (.ref cA)] [(.ref lA)]))
  refine own_up (fun _ k => XS.aloadN X2.here hx rfl (hb hby d7_24) rfl rfl k) ?_
  show own_Go p.tables e below _ (T2.setTop (mkF m 25 #[.val (.ref lb), .val (.ref bv), .val (.int (3 : Int32)), .val (.int (0 : Int32)), .val (.ref cA)] [(.ref lb), (.ref lA)]))
  obtain ⟨cq3, kq3, q3a, q3b, q3c⟩ := isOf hZ e2 (ElA.ext OO.2)
  obtain ⟨_, _, ⟨T3, L3, k3, n3⟩, -, X3, ⟨Lc3, hQ3, l3, y3, z3⟩, st3⟩ := X2.virtualBack hx (y := (⟨"java/lang/String", "equals", "(Ljava/lang/Object;)Z"⟩ : MethodName)) (z := (⟨"java/lang/String", "equals", "(Ljava/lang/Object;)Z"⟩ : MethodName)) hown (mvT hZ (hw _ (List.mem_of_getElem? (i := 56) rfl))) (mvT hZ (hw _ (List.mem_of_getElem? (i := 57) rfl))) (notFace_of_selects (args := #[]) (mvT hZ (hw _ (List.mem_of_getElem? (i := 59) rfl)))) (mvT hZ (hw _ (List.mem_of_getElem? (i := 59) rfl))) (mvT hZ (hw _ (List.mem_of_getElem? (i := 58) rfl))) (by decide) (StrChars.Road.eqW (W := 0) hZ heq (kI := 4) (hw _ (List.mem_of_getElem? (i := 6) rfl)) (ElA.ext OO.2) (VlA.ext OO.2) (ClA.ext OO.2) (KlA.ext OO.2) own_cdA (own_up16 _ own_hpA) (Nat.le_of_ble_eq_true rfl) E_lb F_lb C_lb V_tb own_cdP (own_up16 _ own_hpP) (Nat.le_of_ble_eq_true rfl) (SC.ext OO.2) hcz (by decide) (by decide)) q3a q3c (g := (mkF m 25 #[.val (.ref lb), .val (.ref bv), .val (.int (3 : Int32)), .val (.int (0 : Int32)), .val (.ref cA)] [(.ref lb), (.ref lA)])) rfl (by rw [hml]; rfl) (Steps.refl _) (argsL := [(.ref lb)]) (rest := []) (lenOf pd_1 rfl) rfl (by show 2 * 0 + _ ≤ _; exact Nat.le_of_eq rfl) (hb hby d7_25) (fun _ _ => ⟨rfl, e2, (by decide : 1 + 0 ≤ _), (by decide : 3 + 0 ≤ _)⟩)
  dsimp only [Pt.U, Pt.locs, Pt.cells, Pt.slots] at X3 l3 y3 z3 st3 hQ3
  subst l3 y3 z3
  obtain ⟨hcase3, rfl, e3⟩ := hQ3
  have hv3 : _ = some (Value.int 0) := hcase3.elim (fun q => absurd q.2 (by decide)) (fun q => q.1)
  subst hv3
  have N3 := Fr.app N1 (Fr.nil n0)
  refine own_up (fun _ k => st3.trans k) ?_
  show own_Go p.tables e below _ (T3.setTop (mkF m 28 #[.val (.ref lb), .val (.ref bv), .val (.int (3 : Int32)), .val (.int (0 : Int32)), .val (.ref cA)] [(.int (0 : Int32))]))
  refine own_up (fun _ k => XS.ifYes X3.here hx rfl (pc0 := 28) (pc' := 34) rfl (hb hby d7_28) rfl ((if0 _ _).trans (teq (by decide : (0 : Int32) = (0 : Int32))).1) (by decide) (by decide) k) ?_
  show own_Go p.tables e below _ (T3.setTop (mkF m 34 #[.val (.ref lb), .val (.ref bv), .val (.int (3 : Int32)), .val (.int (0 : Int32)), .val (.ref cA)] []))
  refine own_up (fun _ k => XS.iinc X3.here hx rfl (hb hby d7_34) rfl (l' := #[.val (.ref lb), .val (.ref bv), .val (.int (3 : Int32)), .val (.int (1 : Int32)), .val (.ref cA)]) rfl k) ?_
  show own_Go p.tables e below _ (T3.setTop (mkF m 37 #[.val (.ref lb), .val (.ref bv), .val (.int (3 : Int32)), .val (.int (1 : Int32)), .val (.ref cA)] []))
  refine own_up (fun _ k => XS.goto X3.here hx rfl (pc0 := 37) (pc' := 9) rfl (hb hby d7_37) (by decide) (by decide) k) ?_
  show own_Go p.tables e below _ (T3.setTop (mkF m 9 #[.val (.ref lb), .val (.ref bv), .val (.int (3 : Int32)), .val (.int (1 : Int32)), .val (.ref cA)] []))
  refine own_up (fun _ k => XS.iloadN X3.here hx rfl (hb hby d7_9) rfl k) ?_
  show own_Go p.tables e below _ (T3.setTop (mkF m 10 #[.val (.ref lb), .val (.ref bv), .val (.int (3 : Int32)), .val (.int (1 : Int32)), .val (.ref cA)] [(.int (1 : Int32))]))
  refine own_up (fun _ k => XS.iloadN X3.here hx rfl (hb hby d7_10) rfl k) ?_
  show own_Go p.tables e below _ (T3.setTop (mkF m 11 #[.val (.ref lb), .val (.ref bv), .val (.int (3 : Int32)), .val (.int (1 : Int32)), .val (.ref cA)] [(.int (3 : Int32)), (.int (1 : Int32))]))
  refine own_up (fun _ k => XS.icmpNo X3.here hx rfl (hb hby d7_11) rfl (tlt (by decide : (1 : Int32) < (3 : Int32))).2.1 k) ?_
  show own_Go p.tables e below _ (T3.setTop (mkF m 14 #[.val (.ref lb), .val (.ref bv), .val (.int (3 : Int32)), .val (.int (1 : Int32)), .val (.ref cA)] []))
  refine own_up (fun _ k => XS.aloadN X3.here hx rfl (hb hby d7_14) rfl rfl k) ?_
  show own_Go p.tables e below _ (T3.setTop (mkF m 15 #[.val (.ref lb), .val (.ref bv), .val (.int (3 : Int32)), .val (.int (1 : Int32)), .val (.ref cA)] [(.ref bv)]))
  refine own_up (fun _ k => XS.iloadN X3.here hx rfl (hb hby d7_15) rfl k) ?_
  show own_Go p.tables e below _ (T3.setTop (mkF m 16 #[.val (.ref lb), .val (.ref bv), .val (.int (3 : Int32)), .val (.int (1 : Int32)), .val (.ref cA)] [(.int (1 : Int32)), (.ref bv)]))
  refine own_up (fun _ k => own_Arf.aaload (own_Arf.ofArv V_bv) rfl X3 hx hZ e3 (by decide) (by decide) (v := (.ref cP)) rfl (g := (mkF m 16 #[.val (.ref lb), .val (.ref bv), .val (.int (3 : Int32)), .val (.int (1 : Int32)), .val (.ref cA)] [(.int (1 : Int32)), (.ref bv)])) rfl rfl (hb hby d7_16) _ k) ?_
  show own_Go p.tables e below _ (T3.setTop (mkF m 17 #[.val (.ref lb), .val (.ref bv), .val (.int (3 : Int32)), .val (.int (1 : Int32)), .val (.ref cA)] [(.ref cP)]))
  refine own_up (fun _ k => XS.astore X3.here hx rfl (hb hby d7_17) rfl rfl (l' := #[.val (.ref lb), .val (.ref bv), .val (.int (3 : Int32)), .val (.int (1 : Int32)), .val (.ref cP)]) rfl k) ?_
  show own_Go p.tables e below _ (T3.setTop (mkF m 19 #[.val (.ref lb), .val (.ref bv), .val (.int (3 : Int32)), .val (.int (1 : Int32)), .val (.ref cP)] []))
  refine own_up (fun _ k => XS.aload X3.here hx rfl (hb hby d7_19) rfl rfl k) ?_
  show own_Go p.tables e below _ (T3.setTop (mkF m 21 #[.val (.ref lb), .val (.ref bv), .val (.int (3 : Int32)), .val (.int (1 : Int32)), .val (.ref cP)] [(.ref cP)]))
  obtain ⟨T4, X4, e4, st4⟩ := getF X3 hx hZ hown (host := "") (Or.inl (hw _ (List.mem_of_getElem? (i := 54) rfl))) Via.refl e3 (FlP.ext OO.2) (g := (mkF m 21 #[.val (.ref lb), .val (.ref bv), .val (.int (3 : Int32)), .val (.int (1 : Int32)), .val (.ref cP)] [(.ref cP)])) rfl rfl (hb hby d7_21)
  refine own_up st4 ?_
  show own_Go p.tables e below _ (T4.setTop (mkF m 24 #[.val (.ref lb), .val (.ref bv), .val (.int (3 : Int32)), .val (.int (1 : Int32)), .val (.ref cP)] [(.ref lP)]))
  refine own_up (fun _ k => XS.aloadN X4.here hx rfl (hb hby d7_24) rfl rfl k) ?_
  show own_Go p.tables e below _ (T4.setTop (mkF m 25 #[.val (.ref lb), .val (.ref bv), .val (.int (3 : Int32)), .val (.int (1 : Int32)), .val (.ref cP)] [(.ref lb), (.ref lP)]))
  obtain ⟨cq5, kq5, q5a, q5b, q5c⟩ := isOf hZ e4 (ElP.ext OO.2)
  obtain ⟨_, _, ⟨T5, L5, k5, n5⟩, -, X5, ⟨Lc5, hQ5, l5, y5, z5⟩, st5⟩ := X4.virtualBack hx (y := (⟨"java/lang/String", "equals", "(Ljava/lang/Object;)Z"⟩ : MethodName)) (z := (⟨"java/lang/String", "equals", "(Ljava/lang/Object;)Z"⟩ : MethodName)) hown (mvT hZ (hw _ (List.mem_of_getElem? (i := 56) rfl))) (mvT hZ (hw _ (List.mem_of_getElem? (i := 57) rfl))) (notFace_of_selects (args := #[]) (mvT hZ (hw _ (List.mem_of_getElem? (i := 59) rfl)))) (mvT hZ (hw _ (List.mem_of_getElem? (i := 59) rfl))) (mvT hZ (hw _ (List.mem_of_getElem? (i := 58) rfl))) (by decide) (StrChars.Road.eqW (W := 0) hZ heq (kI := 4) (hw _ (List.mem_of_getElem? (i := 6) rfl)) (ElP.ext OO.2) (VlP.ext OO.2) (ClP.ext OO.2) (KlP.ext OO.2) own_cdP (own_up16 _ own_hpP) (Nat.le_of_ble_eq_true rfl) E_lb F_lb C_lb V_tb own_cdP (own_up16 _ own_hpP) (Nat.le_of_ble_eq_true rfl) (SC.ext OO.2) hcz (by decide) (by decide)) q5a q5c (g := (mkF m 25 #[.val (.ref lb), .val (.ref bv), .val (.int (3 : Int32)), .val (.int (1 : Int32)), .val (.ref cP)] [(.ref lb), (.ref lP)])) rfl (by rw [hml]; rfl) (Steps.refl _) (argsL := [(.ref lb)]) (rest := []) (lenOf pd_1 rfl) rfl (by show 2 * 0 + _ ≤ _; exact Nat.le_of_eq rfl) (hb hby d7_25) (fun _ _ => ⟨rfl, e4, (by decide : 1 + 0 ≤ _), (by decide : 3 + 0 ≤ _)⟩)
  dsimp only [Pt.U, Pt.locs, Pt.cells, Pt.slots] at X5 l5 y5 z5 st5 hQ5
  subst l5 y5 z5
  obtain ⟨hcase5, rfl, e5⟩ := hQ5
  have hv5 : _ = some (Value.int 1) := hcase5.elim (fun q => q.1) (fun q => absurd rfl q.2)
  subst hv5
  have N5 := Fr.app N3 (Fr.nil n0)
  refine own_up (fun _ k => st5.trans k) ?_
  show own_Go p.tables e below _ (T5.setTop (mkF m 28 #[.val (.ref lb), .val (.ref bv), .val (.int (3 : Int32)), .val (.int (1 : Int32)), .val (.ref cP)] [(.int (1 : Int32))]))
  refine own_up (fun _ k => XS.ifNo X5.here hx rfl (hb hby d7_28) rfl ((if0 _ _).trans (feq (by decide : ¬ ((1 : Int32) = (0 : Int32)))).1) k) ?_
  show own_Go p.tables e below _ (T5.setTop (mkF m 31 #[.val (.ref lb), .val (.ref bv), .val (.int (3 : Int32)), .val (.int (1 : Int32)), .val (.ref cP)] []))
  refine own_up (fun _ k => XS.aload X5.here hx rfl (hb hby d7_31) rfl rfl k) ?_
  show own_Go p.tables e below _ (T5.setTop (mkF m 33 #[.val (.ref lb), .val (.ref bv), .val (.int (3 : Int32)), .val (.int (1 : Int32)), .val (.ref cP)] [(.ref cP)]))
  obtain ⟨fs6, hr6, hrun6, hended6, hW6, hsame6⟩ := X5.leave (v := some (.ref cP)) (fun h => by rw [Bd.returns] at h; cases h)
  refine own_end ⟨_, _, ?_, hrun6, hended6, _, _, rfl, ?_, ⟨_, rfl⟩, hW6, hsame6.mono (by decide) (by decide)⟩
  · exact retOut X5 hx Bd.returns rfl (Or.inr (Or.inr (Or.inr (Or.inr ⟨rfl, rfl, rfl⟩)))) (hb hby d7_33) hr6
  · show QrmLP Z cz va kv cA lA bA kA cP lP bP kP cL lL bL kL lb tb kt h0 n0 _ T5.heap _
    rw [e5]
    exact ⟨rfl, N5, KK⟩
theorem ef_rmLL (m : MethodId) (x0 : Addr) : entryFrame m #[(.ref x0)] 5 = mkF m 0 #[.val (.ref x0), .unset, .unset, .unset, .unset] [] := by first | (simp [entryFrame, mkF, argsToLocals, Value.category]; done) | rfl
def QrmLL (Z : State) (cz : Int32) (va : Addr) (kv : ClassId) (cA : Addr) (lA : Addr) (bA : Addr) (kA : ClassId) (cP : Addr) (lP : Addr) (bP : Addr) (kP : ClassId) (cL : Addr) (lL : Addr) (bL : Addr) (kL : ClassId) (lb : Addr) (tb : Addr) (kt : ClassId) (h0 : Heap) (n0 : Nat) (v : Option Value) (h : Heap) (L : List Loc) : Prop := v = some (.ref cL) ∧ Fr n0 L ∧ Keep h0 h []
set_option maxRecDepth 65536 in
set_option maxHeartbeats 40000000 in
theorem rmLL (l : Launch) (Z : State) (a0 : Array Value) (hw : ∀ d ∈ tables_1, d.before a0 Z = true) (ws : List Jvm.Cond) (cz : Int32) (va : Addr) (kv : ClassId) (cA : Addr) (lA : Addr) (bA : Addr) (kA : ClassId) (cP : Addr) (lP : Addr) (bP : Addr) (kP : ClassId) (cL : Addr) (lL : Addr) (bL : Addr) (kL : ClassId) (lb : Addr) (tb : Addr) (kt : ClassId) (h0 : Heap) (n0 : Nat) (Z0 : n0 ≤ h0.size) (OO : Old Z n0 h0) (HW : own_W Z cz va kv cA lA bA kA cP lP bP kP cL lL bL kL) (E_lb : Exa Z h0 lb "java/lang/String") (F_lb : Fld Z h0 lb "java/lang/String" "value" "[B" (.ref tb)) (C_lb : Fld Z h0 lb "java/lang/String" "coder" "B" (.int 0)) (V_tb : Arv Z h0 tb kt .byte (16 : Int32) ((([108, 111, 110, 103, 45, 116, 114, 97, 110, 115, 97, 99, 116, 105, 111, 110] : List Int32).map (fun c => c.toInt8.toInt32)).map Value.int) (.int 0)) :
    MetFree l (⟨"com/example/remora/remora/jpa/TransactionStrategy", "forLabel", "(Ljava/lang/String;)Lcom/example/remora/remora/jpa/TransactionStrategy;"⟩ : MethodName) (head1 (Jvm.Cond.code (⟨"com/example/remora/remora/jpa/TransactionStrategy", "forLabel", "(Ljava/lang/String;)Lcom/example/remora/remora/jpa/TransactionStrategy;"⟩ : MethodName) prog_14_method_4_code 5 (some (.object "com/example/remora/remora/jpa/TransactionStrategy")) :: ws) ({ frames := 2, cells := 1, slots := 3, locals := 28 } : Room)) (fun aq Uq => aq = #[(.ref lb)] ∧ Z.Warmed39 Uq.vm ∧ Uq.heap = h0) (fun _ _ _ _ _ => True) (fun _ Uq oq Uq' => ∃ vq Lq, oq = .returned vq ∧ QrmLL Z cz va kv cA lA bA kA cP lP bP kP cL lL bL kL lb tb kt h0 n0 vq Uq'.heap Lq ∧ FrameEnd Uq oq Uq' Lq ({ frames := 2, cells := 1, slots := 3, locals := 28 } : Room).cells ({ frames := 2, cells := 1, slots := 3, locals := 28 } : Room).slots) := by
  refine MetFree.of_bodySF (plainFor_of_name pn_0) hisR ?_
  intro p e s m args below meth c s₁ Bd hml0 hP hK
  obtain ⟨rfl, hZ, hh⟩ := hP
  have hx := Bd.exec
  have hby := Bd.bytes
  have hml : c.maxLocals = 5 := hml0
  have hown : s.vm.findClass "com/example/remora/remora/jpa/TransactionStrategy" = some m.cls := findClass_of_methodNamed Bd.named
  have hnm := (name_of_methodNamed Bd.named Bd.method).1
  have X0 : Stand p l e ({ frames := 2, cells := 1, slots := 3, locals := 28 } : Room) s m #[(.ref lb)] below meth c s₁ [] 0 0 := Stand.of_body Bd
  have e0 : s₁.heap = h0 := by rw [← hh, Bd.state]; rfl
  have N0 := Fr.nil n0
  have ZH := Z0
  have KK := Keep.refl h0 []
  refine own_start (fun t k => castTop (ef_rmLL m lb) k) ?_
  show own_Go p.tables e below _ (s₁.setTop (mkF m 0 #[.val (.ref lb), .unset, .unset, .unset, .unset] []))
  have HW0 := HW
  obtain ⟨SC, hcz, S_va, E_va, V_va, S_cA, E_cA, FlA, ElA, ClA, VlA, KlA, S_cP, E_cP, FlP, ElP, ClP, VlP, KlP, S_cL, E_cL, FlL, ElL, ClL, VlL, KlL⟩ := HW
  have heq : ∀ d ∈ StrChars.Road.wordsEq, d.before a0 Z = true := fun d hd => hw d ((by decide +kernel : ∀ d ∈ StrChars.Road.wordsEq, d ∈ tables_1) d hd)
  obtain ⟨_, _, ⟨T1, L1, k1, n1⟩, -, X1, ⟨Lc1, hQ1, l1, y1, z1⟩, st1⟩ := Jvm.LawKit.callS X0 hx (y := (⟨"com/example/remora/remora/jpa/TransactionStrategy", "values", "()[Lcom/example/remora/remora/jpa/TransactionStrategy;"⟩ : MethodName)) hown (mvT hZ (hw _ (List.mem_of_getElem? (i := 37) rfl))) (mvT hZ (hw _ (List.mem_of_getElem? (i := 38) rfl))) (mvT hZ (hw _ (List.mem_of_getElem? (i := 2) rfl))) (mvT hZ (hw _ (List.mem_of_getElem? (i := 39) rfl))) (by decide) (backOf (W := 0) (rmV l Z a0 hw [] cz va kv cA lA bA kA cP lP bP kP cL lL bL kL h0 n0 ZH OO HW0) hZ (hw _ (List.mem_of_getElem? (i := 39) rfl)) (hw _ (List.mem_of_getElem? (i := 2) rfl)) (by decide) (by decide)) (g := (mkF m 0 #[.val (.ref lb), .unset, .unset, .unset, .unset] [])) rfl (by rw [hml]; rfl) (argsL := []) (rest := []) (lenOf pd_0 rfl) rfl (by show 2 * 0 + _ ≤ _; exact Nat.le_of_eq rfl) (hb hby d7_0) (fun _ _ => ⟨rfl, e0, (by decide : 0 + 1 ≤ _), (by decide : 0 + 3 ≤ _)⟩)
  dsimp only [Pt.U, Pt.locs, Pt.cells, Pt.slots] at X1 l1 y1 z1 st1 hQ1
  subst l1 y1 z1
  obtain ⟨bv, sf1, rfl, Nq1, K1, V_bv⟩ := hQ1
  have g_bv : n0 ≤ bv := Nat.le_trans ZH sf1
  have sz_bv : h0.size ≤ bv := Nat.le_trans KK.1 sf1
  have N1 := Fr.app N0 Nq1
  have E_lb := E_lb.keep K1
  have F_lb := F_lb.keep K1 nin0
  have C_lb := C_lb.keep K1 nin0
  have V_tb := V_tb.keep K1 nin0
  have ZH := Nat.le_trans ZH K1.1
  have KK := KK.trans K1 all0
  have OO := OO.keep K1 all0
  refine own_up st1 ?_
  show own_Go p.tables e below _ (T1.setTop (mkF m 3 #[.val (.ref lb), .unset, .unset, .unset, .unset] [(.ref bv)]))
  refine own_up (fun _ k => XS.astoreN X1.here hx rfl (hb hby d7_3) rfl rfl (l' := #[.val (.ref lb), .val (.ref bv), .unset, .unset, .unset]) rfl k) ?_
  show own_Go p.tables e below _ (T1.setTop (mkF m 4 #[.val (.ref lb), .val (.ref bv), .unset, .unset, .unset] []))
  refine own_up (fun _ k => XS.aloadN X1.here hx rfl (hb hby d7_4) rfl rfl k) ?_
  show own_Go p.tables e below _ (T1.setTop (mkF m 5 #[.val (.ref lb), .val (.ref bv), .unset, .unset, .unset] [(.ref bv)]))
  refine own_up (fun _ k => own_Arf.alen (own_Arf.ofArv V_bv) X1 hx hZ rfl (g := (mkF m 5 #[.val (.ref lb), .val (.ref bv), .unset, .unset, .unset] [(.ref bv)])) rfl rfl (hb hby d7_5) _ k) ?_
  show own_Go p.tables e below _ (T1.setTop (mkF m 6 #[.val (.ref lb), .val (.ref bv), .unset, .unset, .unset] [(.int (3 : Int32))]))
  refine own_up (fun _ k => XS.istoreN X1.here hx rfl (hb hby d7_6) rfl (l' := #[.val (.ref lb), .val (.ref bv), .val (.int (3 : Int32)), .unset, .unset]) rfl k) ?_
  show own_Go p.tables e below _ (T1.setTop (mkF m 7 #[.val (.ref lb), .val (.ref bv), .val (.int (3 : Int32)), .unset, .unset] []))
  refine own_up (fun _ k => XS.iconst X1.here hx rfl (hb hby d7_7) k) ?_
  show own_Go p.tables e below _ (T1.setTop (mkF m 8 #[.val (.ref lb), .val (.ref bv), .val (.int (3 : Int32)), .unset, .unset] [(.int (0 : Int32))]))
  refine own_up (fun _ k => XS.istoreN X1.here hx rfl (hb hby d7_8) rfl (l' := #[.val (.ref lb), .val (.ref bv), .val (.int (3 : Int32)), .val (.int (0 : Int32)), .unset]) rfl k) ?_
  show own_Go p.tables e below _ (T1.setTop (mkF m 9 #[.val (.ref lb), .val (.ref bv), .val (.int (3 : Int32)), .val (.int (0 : Int32)), .unset] []))
  refine own_up (fun _ k => XS.iloadN X1.here hx rfl (hb hby d7_9) rfl k) ?_
  show own_Go p.tables e below _ (T1.setTop (mkF m 10 #[.val (.ref lb), .val (.ref bv), .val (.int (3 : Int32)), .val (.int (0 : Int32)), .unset] [(.int (0 : Int32))]))
  refine own_up (fun _ k => XS.iloadN X1.here hx rfl (hb hby d7_10) rfl k) ?_
  show own_Go p.tables e below _ (T1.setTop (mkF m 11 #[.val (.ref lb), .val (.ref bv), .val (.int (3 : Int32)), .val (.int (0 : Int32)), .unset] [(.int (3 : Int32)), (.int (0 : Int32))]))
  refine own_up (fun _ k => XS.icmpNo X1.here hx rfl (hb hby d7_11) rfl (tlt (by decide : (0 : Int32) < (3 : Int32))).2.1 k) ?_
  show own_Go p.tables e below _ (T1.setTop (mkF m 14 #[.val (.ref lb), .val (.ref bv), .val (.int (3 : Int32)), .val (.int (0 : Int32)), .unset] []))
  refine own_up (fun _ k => XS.aloadN X1.here hx rfl (hb hby d7_14) rfl rfl k) ?_
  show own_Go p.tables e below _ (T1.setTop (mkF m 15 #[.val (.ref lb), .val (.ref bv), .val (.int (3 : Int32)), .val (.int (0 : Int32)), .unset] [(.ref bv)]))
  refine own_up (fun _ k => XS.iloadN X1.here hx rfl (hb hby d7_15) rfl k) ?_
  show own_Go p.tables e below _ (T1.setTop (mkF m 16 #[.val (.ref lb), .val (.ref bv), .val (.int (3 : Int32)), .val (.int (0 : Int32)), .unset] [(.int (0 : Int32)), (.ref bv)]))
  refine own_up (fun _ k => own_Arf.aaload (own_Arf.ofArv V_bv) rfl X1 hx hZ rfl (by decide) (by decide) (v := (.ref cA)) rfl (g := (mkF m 16 #[.val (.ref lb), .val (.ref bv), .val (.int (3 : Int32)), .val (.int (0 : Int32)), .unset] [(.int (0 : Int32)), (.ref bv)])) rfl rfl (hb hby d7_16) _ k) ?_
  show own_Go p.tables e below _ (T1.setTop (mkF m 17 #[.val (.ref lb), .val (.ref bv), .val (.int (3 : Int32)), .val (.int (0 : Int32)), .unset] [(.ref cA)]))
  refine own_up (fun _ k => XS.astore X1.here hx rfl (hb hby d7_17) rfl rfl (l' := #[.val (.ref lb), .val (.ref bv), .val (.int (3 : Int32)), .val (.int (0 : Int32)), .val (.ref cA)]) rfl k) ?_
  show own_Go p.tables e below _ (T1.setTop (mkF m 19 #[.val (.ref lb), .val (.ref bv), .val (.int (3 : Int32)), .val (.int (0 : Int32)), .val (.ref cA)] []))
  refine own_up (fun _ k => XS.aload X1.here hx rfl (hb hby d7_19) rfl rfl k) ?_
  show own_Go p.tables e below _ (T1.setTop (mkF m 21 #[.val (.ref lb), .val (.ref bv), .val (.int (3 : Int32)), .val (.int (0 : Int32)), .val (.ref cA)] [(.ref cA)]))
  obtain ⟨T2, X2, e2, st2⟩ := getF X1 hx hZ hown (host := "") (Or.inl (hw _ (List.mem_of_getElem? (i := 54) rfl))) Via.refl rfl (FlA.ext OO.2) (g := (mkF m 21 #[.val (.ref lb), .val (.ref bv), .val (.int (3 : Int32)), .val (.int (0 : Int32)), .val (.ref cA)] [(.ref cA)])) rfl rfl (hb hby d7_21)
  refine own_up st2 ?_
  show own_Go p.tables e below _ (T2.setTop (mkF m 24 #[.val (.ref lb), .val (.ref bv), .val (.int (3 : Int32)), .val (.int (0 : Int32)), .val (.ref cA)] [(.ref lA)]))
  refine own_up (fun _ k => XS.aloadN X2.here hx rfl (hb hby d7_24) rfl rfl k) ?_
  show own_Go p.tables e below _ (T2.setTop (mkF m 25 #[.val (.ref lb), .val (.ref bv), .val (.int (3 : Int32)), .val (.int (0 : Int32)), .val (.ref cA)] [(.ref lb), (.ref lA)]))
  obtain ⟨cq3, kq3, q3a, q3b, q3c⟩ := isOf hZ e2 (ElA.ext OO.2)
  obtain ⟨_, _, ⟨T3, L3, k3, n3⟩, -, X3, ⟨Lc3, hQ3, l3, y3, z3⟩, st3⟩ := X2.virtualBack hx (y := (⟨"java/lang/String", "equals", "(Ljava/lang/Object;)Z"⟩ : MethodName)) (z := (⟨"java/lang/String", "equals", "(Ljava/lang/Object;)Z"⟩ : MethodName)) hown (mvT hZ (hw _ (List.mem_of_getElem? (i := 56) rfl))) (mvT hZ (hw _ (List.mem_of_getElem? (i := 57) rfl))) (notFace_of_selects (args := #[]) (mvT hZ (hw _ (List.mem_of_getElem? (i := 59) rfl)))) (mvT hZ (hw _ (List.mem_of_getElem? (i := 59) rfl))) (mvT hZ (hw _ (List.mem_of_getElem? (i := 58) rfl))) (by decide) (StrChars.Road.eqW (W := 0) hZ heq (kI := 4) (hw _ (List.mem_of_getElem? (i := 6) rfl)) (ElA.ext OO.2) (VlA.ext OO.2) (ClA.ext OO.2) (KlA.ext OO.2) own_cdA (own_up16 _ own_hpA) (Nat.le_of_ble_eq_true rfl) E_lb F_lb C_lb V_tb own_cdL (own_up16 _ own_hpL) (Nat.le_of_ble_eq_true rfl) (SC.ext OO.2) hcz (by decide) (by decide)) q3a q3c (g := (mkF m 25 #[.val (.ref lb), .val (.ref bv), .val (.int (3 : Int32)), .val (.int (0 : Int32)), .val (.ref cA)] [(.ref lb), (.ref lA)])) rfl (by rw [hml]; rfl) (Steps.refl _) (argsL := [(.ref lb)]) (rest := []) (lenOf pd_1 rfl) rfl (by show 2 * 0 + _ ≤ _; exact Nat.le_of_eq rfl) (hb hby d7_25) (fun _ _ => ⟨rfl, e2, (by decide : 1 + 0 ≤ _), (by decide : 3 + 0 ≤ _)⟩)
  dsimp only [Pt.U, Pt.locs, Pt.cells, Pt.slots] at X3 l3 y3 z3 st3 hQ3
  subst l3 y3 z3
  obtain ⟨hcase3, rfl, e3⟩ := hQ3
  have hv3 : _ = some (Value.int 0) := hcase3.elim (fun q => absurd q.2 (by decide)) (fun q => q.1)
  subst hv3
  have N3 := Fr.app N1 (Fr.nil n0)
  refine own_up (fun _ k => st3.trans k) ?_
  show own_Go p.tables e below _ (T3.setTop (mkF m 28 #[.val (.ref lb), .val (.ref bv), .val (.int (3 : Int32)), .val (.int (0 : Int32)), .val (.ref cA)] [(.int (0 : Int32))]))
  refine own_up (fun _ k => XS.ifYes X3.here hx rfl (pc0 := 28) (pc' := 34) rfl (hb hby d7_28) rfl ((if0 _ _).trans (teq (by decide : (0 : Int32) = (0 : Int32))).1) (by decide) (by decide) k) ?_
  show own_Go p.tables e below _ (T3.setTop (mkF m 34 #[.val (.ref lb), .val (.ref bv), .val (.int (3 : Int32)), .val (.int (0 : Int32)), .val (.ref cA)] []))
  refine own_up (fun _ k => XS.iinc X3.here hx rfl (hb hby d7_34) rfl (l' := #[.val (.ref lb), .val (.ref bv), .val (.int (3 : Int32)), .val (.int (1 : Int32)), .val (.ref cA)]) rfl k) ?_
  show own_Go p.tables e below _ (T3.setTop (mkF m 37 #[.val (.ref lb), .val (.ref bv), .val (.int (3 : Int32)), .val (.int (1 : Int32)), .val (.ref cA)] []))
  refine own_up (fun _ k => XS.goto X3.here hx rfl (pc0 := 37) (pc' := 9) rfl (hb hby d7_37) (by decide) (by decide) k) ?_
  show own_Go p.tables e below _ (T3.setTop (mkF m 9 #[.val (.ref lb), .val (.ref bv), .val (.int (3 : Int32)), .val (.int (1 : Int32)), .val (.ref cA)] []))
  refine own_up (fun _ k => XS.iloadN X3.here hx rfl (hb hby d7_9) rfl k) ?_
  show own_Go p.tables e below _ (T3.setTop (mkF m 10 #[.val (.ref lb), .val (.ref bv), .val (.int (3 : Int32)), .val (.int (1 : Int32)), .val (.ref cA)] [(.int (1 : Int32))]))
  refine own_up (fun _ k => XS.iloadN X3.here hx rfl (hb hby d7_10) rfl k) ?_
  show own_Go p.tables e below _ (T3.setTop (mkF m 11 #[.val (.ref lb), .val (.ref bv), .val (.int (3 : Int32)), .val (.int (1 : Int32)), .val (.ref cA)] [(.int (3 : Int32)), (.int (1 : Int32))]))
  refine own_up (fun _ k => XS.icmpNo X3.here hx rfl (hb hby d7_11) rfl (tlt (by decide : (1 : Int32) < (3 : Int32))).2.1 k) ?_
  show own_Go p.tables e below _ (T3.setTop (mkF m 14 #[.val (.ref lb), .val (.ref bv), .val (.int (3 : Int32)), .val (.int (1 : Int32)), .val (.ref cA)] []))
  refine own_up (fun _ k => XS.aloadN X3.here hx rfl (hb hby d7_14) rfl rfl k) ?_
  show own_Go p.tables e below _ (T3.setTop (mkF m 15 #[.val (.ref lb), .val (.ref bv), .val (.int (3 : Int32)), .val (.int (1 : Int32)), .val (.ref cA)] [(.ref bv)]))
  refine own_up (fun _ k => XS.iloadN X3.here hx rfl (hb hby d7_15) rfl k) ?_
  show own_Go p.tables e below _ (T3.setTop (mkF m 16 #[.val (.ref lb), .val (.ref bv), .val (.int (3 : Int32)), .val (.int (1 : Int32)), .val (.ref cA)] [(.int (1 : Int32)), (.ref bv)]))
  refine own_up (fun _ k => own_Arf.aaload (own_Arf.ofArv V_bv) rfl X3 hx hZ e3 (by decide) (by decide) (v := (.ref cP)) rfl (g := (mkF m 16 #[.val (.ref lb), .val (.ref bv), .val (.int (3 : Int32)), .val (.int (1 : Int32)), .val (.ref cA)] [(.int (1 : Int32)), (.ref bv)])) rfl rfl (hb hby d7_16) _ k) ?_
  show own_Go p.tables e below _ (T3.setTop (mkF m 17 #[.val (.ref lb), .val (.ref bv), .val (.int (3 : Int32)), .val (.int (1 : Int32)), .val (.ref cA)] [(.ref cP)]))
  refine own_up (fun _ k => XS.astore X3.here hx rfl (hb hby d7_17) rfl rfl (l' := #[.val (.ref lb), .val (.ref bv), .val (.int (3 : Int32)), .val (.int (1 : Int32)), .val (.ref cP)]) rfl k) ?_
  show own_Go p.tables e below _ (T3.setTop (mkF m 19 #[.val (.ref lb), .val (.ref bv), .val (.int (3 : Int32)), .val (.int (1 : Int32)), .val (.ref cP)] []))
  refine own_up (fun _ k => XS.aload X3.here hx rfl (hb hby d7_19) rfl rfl k) ?_
  show own_Go p.tables e below _ (T3.setTop (mkF m 21 #[.val (.ref lb), .val (.ref bv), .val (.int (3 : Int32)), .val (.int (1 : Int32)), .val (.ref cP)] [(.ref cP)]))
  obtain ⟨T4, X4, e4, st4⟩ := getF X3 hx hZ hown (host := "") (Or.inl (hw _ (List.mem_of_getElem? (i := 54) rfl))) Via.refl e3 (FlP.ext OO.2) (g := (mkF m 21 #[.val (.ref lb), .val (.ref bv), .val (.int (3 : Int32)), .val (.int (1 : Int32)), .val (.ref cP)] [(.ref cP)])) rfl rfl (hb hby d7_21)
  refine own_up st4 ?_
  show own_Go p.tables e below _ (T4.setTop (mkF m 24 #[.val (.ref lb), .val (.ref bv), .val (.int (3 : Int32)), .val (.int (1 : Int32)), .val (.ref cP)] [(.ref lP)]))
  refine own_up (fun _ k => XS.aloadN X4.here hx rfl (hb hby d7_24) rfl rfl k) ?_
  show own_Go p.tables e below _ (T4.setTop (mkF m 25 #[.val (.ref lb), .val (.ref bv), .val (.int (3 : Int32)), .val (.int (1 : Int32)), .val (.ref cP)] [(.ref lb), (.ref lP)]))
  obtain ⟨cq5, kq5, q5a, q5b, q5c⟩ := isOf hZ e4 (ElP.ext OO.2)
  obtain ⟨_, _, ⟨T5, L5, k5, n5⟩, -, X5, ⟨Lc5, hQ5, l5, y5, z5⟩, st5⟩ := X4.virtualBack hx (y := (⟨"java/lang/String", "equals", "(Ljava/lang/Object;)Z"⟩ : MethodName)) (z := (⟨"java/lang/String", "equals", "(Ljava/lang/Object;)Z"⟩ : MethodName)) hown (mvT hZ (hw _ (List.mem_of_getElem? (i := 56) rfl))) (mvT hZ (hw _ (List.mem_of_getElem? (i := 57) rfl))) (notFace_of_selects (args := #[]) (mvT hZ (hw _ (List.mem_of_getElem? (i := 59) rfl)))) (mvT hZ (hw _ (List.mem_of_getElem? (i := 59) rfl))) (mvT hZ (hw _ (List.mem_of_getElem? (i := 58) rfl))) (by decide) (StrChars.Road.eqW (W := 0) hZ heq (kI := 4) (hw _ (List.mem_of_getElem? (i := 6) rfl)) (ElP.ext OO.2) (VlP.ext OO.2) (ClP.ext OO.2) (KlP.ext OO.2) own_cdP (own_up16 _ own_hpP) (Nat.le_of_ble_eq_true rfl) E_lb F_lb C_lb V_tb own_cdL (own_up16 _ own_hpL) (Nat.le_of_ble_eq_true rfl) (SC.ext OO.2) hcz (by decide) (by decide)) q5a q5c (g := (mkF m 25 #[.val (.ref lb), .val (.ref bv), .val (.int (3 : Int32)), .val (.int (1 : Int32)), .val (.ref cP)] [(.ref lb), (.ref lP)])) rfl (by rw [hml]; rfl) (Steps.refl _) (argsL := [(.ref lb)]) (rest := []) (lenOf pd_1 rfl) rfl (by show 2 * 0 + _ ≤ _; exact Nat.le_of_eq rfl) (hb hby d7_25) (fun _ _ => ⟨rfl, e4, (by decide : 1 + 0 ≤ _), (by decide : 3 + 0 ≤ _)⟩)
  dsimp only [Pt.U, Pt.locs, Pt.cells, Pt.slots] at X5 l5 y5 z5 st5 hQ5
  subst l5 y5 z5
  obtain ⟨hcase5, rfl, e5⟩ := hQ5
  have hv5 : _ = some (Value.int 0) := hcase5.elim (fun q => absurd q.2 (by decide)) (fun q => q.1)
  subst hv5
  have N5 := Fr.app N3 (Fr.nil n0)
  refine own_up (fun _ k => st5.trans k) ?_
  show own_Go p.tables e below _ (T5.setTop (mkF m 28 #[.val (.ref lb), .val (.ref bv), .val (.int (3 : Int32)), .val (.int (1 : Int32)), .val (.ref cP)] [(.int (0 : Int32))]))
  refine own_up (fun _ k => XS.ifYes X5.here hx rfl (pc0 := 28) (pc' := 34) rfl (hb hby d7_28) rfl ((if0 _ _).trans (teq (by decide : (0 : Int32) = (0 : Int32))).1) (by decide) (by decide) k) ?_
  show own_Go p.tables e below _ (T5.setTop (mkF m 34 #[.val (.ref lb), .val (.ref bv), .val (.int (3 : Int32)), .val (.int (1 : Int32)), .val (.ref cP)] []))
  refine own_up (fun _ k => XS.iinc X5.here hx rfl (hb hby d7_34) rfl (l' := #[.val (.ref lb), .val (.ref bv), .val (.int (3 : Int32)), .val (.int (2 : Int32)), .val (.ref cP)]) rfl k) ?_
  show own_Go p.tables e below _ (T5.setTop (mkF m 37 #[.val (.ref lb), .val (.ref bv), .val (.int (3 : Int32)), .val (.int (2 : Int32)), .val (.ref cP)] []))
  refine own_up (fun _ k => XS.goto X5.here hx rfl (pc0 := 37) (pc' := 9) rfl (hb hby d7_37) (by decide) (by decide) k) ?_
  show own_Go p.tables e below _ (T5.setTop (mkF m 9 #[.val (.ref lb), .val (.ref bv), .val (.int (3 : Int32)), .val (.int (2 : Int32)), .val (.ref cP)] []))
  refine own_up (fun _ k => XS.iloadN X5.here hx rfl (hb hby d7_9) rfl k) ?_
  show own_Go p.tables e below _ (T5.setTop (mkF m 10 #[.val (.ref lb), .val (.ref bv), .val (.int (3 : Int32)), .val (.int (2 : Int32)), .val (.ref cP)] [(.int (2 : Int32))]))
  refine own_up (fun _ k => XS.iloadN X5.here hx rfl (hb hby d7_10) rfl k) ?_
  show own_Go p.tables e below _ (T5.setTop (mkF m 11 #[.val (.ref lb), .val (.ref bv), .val (.int (3 : Int32)), .val (.int (2 : Int32)), .val (.ref cP)] [(.int (3 : Int32)), (.int (2 : Int32))]))
  refine own_up (fun _ k => XS.icmpNo X5.here hx rfl (hb hby d7_11) rfl (tlt (by decide : (2 : Int32) < (3 : Int32))).2.1 k) ?_
  show own_Go p.tables e below _ (T5.setTop (mkF m 14 #[.val (.ref lb), .val (.ref bv), .val (.int (3 : Int32)), .val (.int (2 : Int32)), .val (.ref cP)] []))
  refine own_up (fun _ k => XS.aloadN X5.here hx rfl (hb hby d7_14) rfl rfl k) ?_
  show own_Go p.tables e below _ (T5.setTop (mkF m 15 #[.val (.ref lb), .val (.ref bv), .val (.int (3 : Int32)), .val (.int (2 : Int32)), .val (.ref cP)] [(.ref bv)]))
  refine own_up (fun _ k => XS.iloadN X5.here hx rfl (hb hby d7_15) rfl k) ?_
  show own_Go p.tables e below _ (T5.setTop (mkF m 16 #[.val (.ref lb), .val (.ref bv), .val (.int (3 : Int32)), .val (.int (2 : Int32)), .val (.ref cP)] [(.int (2 : Int32)), (.ref bv)]))
  refine own_up (fun _ k => own_Arf.aaload (own_Arf.ofArv V_bv) rfl X5 hx hZ e5 (by decide) (by decide) (v := (.ref cL)) rfl (g := (mkF m 16 #[.val (.ref lb), .val (.ref bv), .val (.int (3 : Int32)), .val (.int (2 : Int32)), .val (.ref cP)] [(.int (2 : Int32)), (.ref bv)])) rfl rfl (hb hby d7_16) _ k) ?_
  show own_Go p.tables e below _ (T5.setTop (mkF m 17 #[.val (.ref lb), .val (.ref bv), .val (.int (3 : Int32)), .val (.int (2 : Int32)), .val (.ref cP)] [(.ref cL)]))
  refine own_up (fun _ k => XS.astore X5.here hx rfl (hb hby d7_17) rfl rfl (l' := #[.val (.ref lb), .val (.ref bv), .val (.int (3 : Int32)), .val (.int (2 : Int32)), .val (.ref cL)]) rfl k) ?_
  show own_Go p.tables e below _ (T5.setTop (mkF m 19 #[.val (.ref lb), .val (.ref bv), .val (.int (3 : Int32)), .val (.int (2 : Int32)), .val (.ref cL)] []))
  refine own_up (fun _ k => XS.aload X5.here hx rfl (hb hby d7_19) rfl rfl k) ?_
  show own_Go p.tables e below _ (T5.setTop (mkF m 21 #[.val (.ref lb), .val (.ref bv), .val (.int (3 : Int32)), .val (.int (2 : Int32)), .val (.ref cL)] [(.ref cL)]))
  obtain ⟨T6, X6, e6, st6⟩ := getF X5 hx hZ hown (host := "") (Or.inl (hw _ (List.mem_of_getElem? (i := 54) rfl))) Via.refl e5 (FlL.ext OO.2) (g := (mkF m 21 #[.val (.ref lb), .val (.ref bv), .val (.int (3 : Int32)), .val (.int (2 : Int32)), .val (.ref cL)] [(.ref cL)])) rfl rfl (hb hby d7_21)
  refine own_up st6 ?_
  show own_Go p.tables e below _ (T6.setTop (mkF m 24 #[.val (.ref lb), .val (.ref bv), .val (.int (3 : Int32)), .val (.int (2 : Int32)), .val (.ref cL)] [(.ref lL)]))
  refine own_up (fun _ k => XS.aloadN X6.here hx rfl (hb hby d7_24) rfl rfl k) ?_
  show own_Go p.tables e below _ (T6.setTop (mkF m 25 #[.val (.ref lb), .val (.ref bv), .val (.int (3 : Int32)), .val (.int (2 : Int32)), .val (.ref cL)] [(.ref lb), (.ref lL)]))
  obtain ⟨cq7, kq7, q7a, q7b, q7c⟩ := isOf hZ e6 (ElL.ext OO.2)
  obtain ⟨_, _, ⟨T7, L7, k7, n7⟩, -, X7, ⟨Lc7, hQ7, l7, y7, z7⟩, st7⟩ := X6.virtualBack hx (y := (⟨"java/lang/String", "equals", "(Ljava/lang/Object;)Z"⟩ : MethodName)) (z := (⟨"java/lang/String", "equals", "(Ljava/lang/Object;)Z"⟩ : MethodName)) hown (mvT hZ (hw _ (List.mem_of_getElem? (i := 56) rfl))) (mvT hZ (hw _ (List.mem_of_getElem? (i := 57) rfl))) (notFace_of_selects (args := #[]) (mvT hZ (hw _ (List.mem_of_getElem? (i := 59) rfl)))) (mvT hZ (hw _ (List.mem_of_getElem? (i := 59) rfl))) (mvT hZ (hw _ (List.mem_of_getElem? (i := 58) rfl))) (by decide) (StrChars.Road.eqW (W := 0) hZ heq (kI := 4) (hw _ (List.mem_of_getElem? (i := 6) rfl)) (ElL.ext OO.2) (VlL.ext OO.2) (ClL.ext OO.2) (KlL.ext OO.2) own_cdL (own_up16 _ own_hpL) (Nat.le_of_ble_eq_true rfl) E_lb F_lb C_lb V_tb own_cdL (own_up16 _ own_hpL) (Nat.le_of_ble_eq_true rfl) (SC.ext OO.2) hcz (by decide) (by decide)) q7a q7c (g := (mkF m 25 #[.val (.ref lb), .val (.ref bv), .val (.int (3 : Int32)), .val (.int (2 : Int32)), .val (.ref cL)] [(.ref lb), (.ref lL)])) rfl (by rw [hml]; rfl) (Steps.refl _) (argsL := [(.ref lb)]) (rest := []) (lenOf pd_1 rfl) rfl (by show 2 * 0 + _ ≤ _; exact Nat.le_of_eq rfl) (hb hby d7_25) (fun _ _ => ⟨rfl, e6, (by decide : 1 + 0 ≤ _), (by decide : 3 + 0 ≤ _)⟩)
  dsimp only [Pt.U, Pt.locs, Pt.cells, Pt.slots] at X7 l7 y7 z7 st7 hQ7
  subst l7 y7 z7
  obtain ⟨hcase7, rfl, e7⟩ := hQ7
  have hv7 : _ = some (Value.int 1) := hcase7.elim (fun q => q.1) (fun q => absurd rfl q.2)
  subst hv7
  have N7 := Fr.app N5 (Fr.nil n0)
  refine own_up (fun _ k => st7.trans k) ?_
  show own_Go p.tables e below _ (T7.setTop (mkF m 28 #[.val (.ref lb), .val (.ref bv), .val (.int (3 : Int32)), .val (.int (2 : Int32)), .val (.ref cL)] [(.int (1 : Int32))]))
  refine own_up (fun _ k => XS.ifNo X7.here hx rfl (hb hby d7_28) rfl ((if0 _ _).trans (feq (by decide : ¬ ((1 : Int32) = (0 : Int32)))).1) k) ?_
  show own_Go p.tables e below _ (T7.setTop (mkF m 31 #[.val (.ref lb), .val (.ref bv), .val (.int (3 : Int32)), .val (.int (2 : Int32)), .val (.ref cL)] []))
  refine own_up (fun _ k => XS.aload X7.here hx rfl (hb hby d7_31) rfl rfl k) ?_
  show own_Go p.tables e below _ (T7.setTop (mkF m 33 #[.val (.ref lb), .val (.ref bv), .val (.int (3 : Int32)), .val (.int (2 : Int32)), .val (.ref cL)] [(.ref cL)]))
  obtain ⟨fs8, hr8, hrun8, hended8, hW8, hsame8⟩ := X7.leave (v := some (.ref cL)) (fun h => by rw [Bd.returns] at h; cases h)
  refine own_end ⟨_, _, ?_, hrun8, hended8, _, _, rfl, ?_, ⟨_, rfl⟩, hW8, hsame8.mono (by decide) (by decide)⟩
  · exact retOut X7 hx Bd.returns rfl (Or.inr (Or.inr (Or.inr (Or.inr ⟨rfl, rfl, rfl⟩)))) (hb hby d7_33) hr8
  · show QrmLL Z cz va kv cA lA bA kA cP lP bP kP cL lL bL kL lb tb kt h0 n0 _ T7.heap _
    rw [e7]
    exact ⟨rfl, N7, KK⟩
theorem d11_0 : decode prog_14_method_5_code 0 = .ok (.aload_n 0, 1) := by decide +kernel
theorem d11_1 : decode prog_14_method_5_code 1 = .ok (.getfield 32, 3) := by decide +kernel
theorem d11_4 : decode prog_14_method_5_code 4 = .ok (.areturn, 1) := by decide +kernel
theorem ef_rmT (m : MethodId) (x0 : Addr) : entryFrame m #[(.ref x0)] 1 = mkF m 0 #[.val (.ref x0)] [] := by first | (simp [entryFrame, mkF, argsToLocals, Value.category]; done) | rfl
def QrmT (Z : State) (a : Addr) (lx : Addr) (h0 : Heap) (n0 : Nat) (v : Option Value) (h : Heap) (L : List Loc) : Prop := v = some (.ref lx) ∧ Fr n0 L ∧ h = h0
set_option maxRecDepth 65536 in
set_option maxHeartbeats 40000000 in
theorem rmT (l : Launch) (Z : State) (a0 : Array Value) (hw : ∀ d ∈ tables_1, d.before a0 Z = true) (ws : List Jvm.Cond) (a : Addr) (lx : Addr) (h0 : Heap) (n0 : Nat) (Z0 : n0 ≤ h0.size) (F : Fld Z h0 a "com/example/remora/remora/jpa/TransactionStrategy" "label" "Ljava/lang/String;" (.ref lx)) :
    MetFree l (⟨"com/example/remora/remora/jpa/TransactionStrategy", "toString", "()Ljava/lang/String;"⟩ : MethodName) (head1 (Jvm.Cond.code (⟨"com/example/remora/remora/jpa/TransactionStrategy", "toString", "()Ljava/lang/String;"⟩ : MethodName) prog_14_method_5_code 1 (some (.object "java/lang/String")) :: ws) ({ frames := 0, cells := 0, slots := 0, locals := 0 } : Room)) (fun aq Uq => aq = #[(.ref a)] ∧ Z.Warmed39 Uq.vm ∧ Uq.heap = h0) (fun _ _ _ _ _ => True) (fun _ Uq oq Uq' => ∃ vq Lq, oq = .returned vq ∧ QrmT Z a lx h0 n0 vq Uq'.heap Lq ∧ FrameEnd Uq oq Uq' Lq ({ frames := 0, cells := 0, slots := 0, locals := 0 } : Room).cells ({ frames := 0, cells := 0, slots := 0, locals := 0 } : Room).slots) := by
  refine MetFree.of_bodySF (plainFor_of_name pn_0) hisR ?_
  intro p e s m args below meth c s₁ Bd hml0 hP hK
  obtain ⟨rfl, hZ, hh⟩ := hP
  have hx := Bd.exec
  have hby := Bd.bytes
  have hml : c.maxLocals = 1 := hml0
  have hown : s.vm.findClass "com/example/remora/remora/jpa/TransactionStrategy" = some m.cls := findClass_of_methodNamed Bd.named
  have hnm := (name_of_methodNamed Bd.named Bd.method).1
  have X0 : Stand p l e ({ frames := 0, cells := 0, slots := 0, locals := 0 } : Room) s m #[(.ref a)] below meth c s₁ [] 0 0 := Stand.of_body Bd
  have e0 : s₁.heap = h0 := by rw [← hh, Bd.state]; rfl
  have N0 := Fr.nil n0
  have ZH := Z0
  have KK := Keep.refl h0 []
  refine own_start (fun t k => castTop (ef_rmT m a) k) ?_
  show own_Go p.tables e below _ (s₁.setTop (mkF m 0 #[.val (.ref a)] []))
  refine own_up (fun _ k => XS.aloadN X0.here hx rfl (hb hby d11_0) rfl rfl k) ?_
  show own_Go p.tables e below _ (s₁.setTop (mkF m 1 #[.val (.ref a)] [(.ref a)]))
  obtain ⟨T1, X1, e1, st1⟩ := getF X0 hx hZ hown (host := "") (Or.inl (hw _ (List.mem_of_getElem? (i := 54) rfl))) Via.refl e0 F (g := (mkF m 1 #[.val (.ref a)] [(.ref a)])) rfl rfl (hb hby d11_1)
  refine own_up st1 ?_
  show own_Go p.tables e below _ (T1.setTop (mkF m 4 #[.val (.ref a)] [(.ref lx)]))
  obtain ⟨fs2, hr2, hrun2, hended2, hW2, hsame2⟩ := X1.leave (v := some (.ref lx)) (fun h => by rw [Bd.returns] at h; cases h)
  refine own_end ⟨_, _, ?_, hrun2, hended2, _, _, rfl, ?_, ⟨_, rfl⟩, hW2, hsame2.mono (by decide) (by decide)⟩
  · exact retOut X1 hx Bd.returns rfl (Or.inr (Or.inr (Or.inr (Or.inr ⟨rfl, rfl, rfl⟩)))) (hb hby d11_4) hr2
  · show QrmT Z a lx h0 n0 _ T1.heap _
    rw [e1]
    exact ⟨rfl, N0, rfl⟩
theorem pn_1 : plainName "com/example/remora/remora/jpa/TransactionStrategyForLabelPinLaw" = true := by first | (simp [plainName, overriddenIn]; done) | decide +kernel
theorem pd_2 : parseMethodDescriptor "([C)V" = some ⟨[(.array .char)], none⟩ := by decide +kernel
theorem pd_3 : parseMethodDescriptor "(Ljava/lang/String;)Lcom/example/remora/remora/jpa/TransactionStrategy;" = some ⟨[(.object "java/lang/String")], some (.object "com/example/remora/remora/jpa/TransactionStrategy")⟩ := by decide +kernel
theorem pd_4 : parseMethodDescriptor "()Ljava/lang/String;" = some ⟨[], some (.object "java/lang/String")⟩ := by decide +kernel
theorem ef_rm0 (m : MethodId) (x0 : Int32) : entryFrame m #[(.int x0)] maxLocals = mkF m 0 #[.val (.int x0), .unset, .unset, .unset, .unset, .unset] [] := by first | (simp [entryFrame, mkF, argsToLocals, Value.category, maxLocals]; done) | rfl
def Qrm0 (Z : State) (p0 : Int32) (cz : Int32) (va : Addr) (kv : ClassId) (cA : Addr) (lA : Addr) (bA : Addr) (kA : ClassId) (cP : Addr) (lP : Addr) (bP : Addr) (kP : ClassId) (cL : Addr) (lL : Addr) (bL : Addr) (kL : ClassId) (h0 : Heap) (n0 : Nat) (v : Option Value) (h : Heap) (L : List Loc) : Prop := v = some (.int 1) ∧ Fr n0 L
set_option maxRecDepth 65536 in
set_option maxHeartbeats 40000000 in
theorem rm0 (l : Launch) (Z : State) (a0 : Array Value) (hw : ∀ d ∈ tables_1, d.before a0 Z = true) (ws : List Jvm.Cond) (p0 : Int32) (cz : Int32) (va : Addr) (kv : ClassId) (cA : Addr) (lA : Addr) (bA : Addr) (kA : ClassId) (cP : Addr) (lP : Addr) (bP : Addr) (kP : ClassId) (cL : Addr) (lL : Addr) (bL : Addr) (kL : ClassId) (h0 : Heap) (n0 : Nat) (Z0 : n0 ≤ h0.size) (OO : Old Z n0 h0) (HW : own_W Z cz va kv cA lA bA kA cP lP bP kP cL lL bL kL) :
    MetFree l x (head1 (Jvm.Cond.code x code maxLocals ret :: ws) room_1) (fun aq Uq => aq = #[(.int p0)] ∧ Z.Warmed39 Uq.vm ∧ Uq.heap = h0) (fun _ _ _ _ _ => True) (fun _ Uq oq Uq' => ∃ vq Lq, oq = .returned vq ∧ Qrm0 Z p0 cz va kv cA lA bA kA cP lP bP kP cL lL bL kL h0 n0 vq Uq'.heap Lq ∧ FrameEnd Uq oq Uq' Lq 16 192) := by
  refine MetFree.of_bodySF (plainFor_of_name pn_1) hisR ?_
  intro p e s m args below meth c s₁ Bd hml0 hP hK
  obtain ⟨rfl, hZ, hh⟩ := hP
  have hx := Bd.exec
  have hby := Bd.bytes
  have hml : c.maxLocals = 6 := hml0
  have hown : s.vm.findClass "com/example/remora/remora/jpa/TransactionStrategyForLabelPinLaw" = some m.cls := findClass_of_methodNamed Bd.named
  have hnm := (name_of_methodNamed Bd.named Bd.method).1
  have X0 : Stand p l e room_1 s m #[(.int p0)] below meth c s₁ [] 0 0 := Stand.of_body Bd
  have e0 : s₁.heap = h0 := by rw [← hh, Bd.state]; rfl
  have N0 := Fr.nil n0
  have ZH := Z0
  have KK := Keep.refl h0 []
  refine own_start (fun t k => castTop (ef_rm0 m p0) k) ?_
  show own_Go p.tables e below _ (s₁.setTop (mkF m 0 #[.val (.int p0), .unset, .unset, .unset, .unset, .unset] []))
  have HW0 := HW
  obtain ⟨SC, hcz, S_va, E_va, V_va, S_cA, E_cA, FlA, ElA, ClA, VlA, KlA, S_cP, E_cP, FlP, ElP, ClP, VlP, KlP, S_cL, E_cL, FlL, ElL, ClL, VlL, KlL⟩ := HW
  have heq : ∀ d ∈ StrChars.Road.wordsEq, d.before a0 Z = true := fun d hd => hw d ((by decide +kernel : ∀ d ∈ StrChars.Road.wordsEq, d ∈ tables_1) d hd)
  have hws : ∀ d ∈ StrChars.Road.words, d.before a0 Z = true := fun d hd => hw d ((by decide +kernel : ∀ d ∈ StrChars.Road.words, d ∈ tables_1) d hd)
  refine own_up (fun _ k => XS.iloadN X0.here hx rfl (hb hby at_0) rfl k) ?_
  show own_Go p.tables e below _ (s₁.setTop (mkF m 1 #[.val (.int p0), .unset, .unset, .unset, .unset, .unset] [(.int p0)]))
  refine own_up (fun _ k => X0.ldcInt hx hown (mvT hZ (hw _ (List.mem_of_getElem? (i := 0) rfl))) (g := (mkF m 1 #[.val (.int p0), .unset, .unset, .unset, .unset, .unset] [(.int p0)])) rfl (hb hby at_1) _ k) ?_
  show own_Go p.tables e below _ (s₁.setTop (mkF m 3 #[.val (.int p0), .unset, .unset, .unset, .unset, .unset] [(.int (2147483647 : Int32)), (.int p0)]))
  refine own_up (fun _ k => XS.iand X0.here hx rfl (hb hby at_3) rfl k) ?_
  show own_Go p.tables e below _ (s₁.setTop (mkF m 4 #[.val (.int p0), .unset, .unset, .unset, .unset, .unset] [(.int (p0 &&& (2147483647 : Int32)))]))
  refine own_up (fun _ k => XS.iconst X0.here hx rfl (hb hby at_4) k) ?_
  show own_Go p.tables e below _ (s₁.setTop (mkF m 5 #[.val (.int p0), .unset, .unset, .unset, .unset, .unset] [(.int (3 : Int32)), (.int (p0 &&& (2147483647 : Int32)))]))
  refine own_up (fun _ k => XS.irem X0.here hx rfl (hb hby at_5) rfl (by decide) k) ?_
  rw [irem_eq_mod (p0 &&& (2147483647 : Int32)) (3 : Int32)]
  show own_Go p.tables e below _ (s₁.setTop (mkF m 6 #[.val (.int p0), .unset, .unset, .unset, .unset, .unset] [(.int ((p0 &&& (2147483647 : Int32)) % (3 : Int32)))]))
  refine own_up (fun _ k => XS.istoreN X0.here hx rfl (hb hby at_6) rfl (l' := #[.val (.int p0), .val (.int ((p0 &&& (2147483647 : Int32)) % (3 : Int32))), .unset, .unset, .unset, .unset]) rfl k) ?_
  show own_Go p.tables e below _ (s₁.setTop (mkF m 7 #[.val (.int p0), .val (.int ((p0 &&& (2147483647 : Int32)) % (3 : Int32))), .unset, .unset, .unset, .unset] []))
  refine own_up (fun _ k => XS.iloadN X0.here hx rfl (hb hby at_7) rfl k) ?_
  show own_Go p.tables e below _ (s₁.setTop (mkF m 8 #[.val (.int p0), .val (.int ((p0 &&& (2147483647 : Int32)) % (3 : Int32))), .unset, .unset, .unset, .unset] [(.int ((p0 &&& (2147483647 : Int32)) % (3 : Int32)))]))
  by_cases hc8 : ((p0 &&& (2147483647 : Int32)) % (3 : Int32)) = (0 : Int32)
  · refine own_up (fun _ k => XS.ifNo X0.here hx rfl (hb hby at_8) rfl ((if0 _ _).trans (teq hc8).2) k) ?_
    show own_Go p.tables e below _ (s₁.setTop (mkF m 11 #[.val (.int p0), .val (.int ((p0 &&& (2147483647 : Int32)) % (3 : Int32))), .unset, .unset, .unset, .unset] []))
    obtain ⟨T1, X1, e1, st1⟩ := getS2 X0 hx hZ hown (host := "") (Or.inl (hw _ (List.mem_of_getElem? (i := 1) rfl))) Via.refl e0 (S_cA.ext OO.2) (g := (mkF m 11 #[.val (.int p0), .val (.int ((p0 &&& (2147483647 : Int32)) % (3 : Int32))), .unset, .unset, .unset, .unset] [])) rfl (hb hby at_11)
    refine own_up st1 ?_
    show own_Go p.tables e below _ (T1.setTop (mkF m 14 #[.val (.int p0), .val (.int ((p0 &&& (2147483647 : Int32)) % (3 : Int32))), .unset, .unset, .unset, .unset] [(.ref cA)]))
    refine own_up (fun _ k => XS.astoreN X1.here hx rfl (hb hby at_14) rfl rfl (l' := #[.val (.int p0), .val (.int ((p0 &&& (2147483647 : Int32)) % (3 : Int32))), .val (.ref cA), .unset, .unset, .unset]) rfl k) ?_
    show own_Go p.tables e below _ (T1.setTop (mkF m 15 #[.val (.int p0), .val (.int ((p0 &&& (2147483647 : Int32)) % (3 : Int32))), .val (.ref cA), .unset, .unset, .unset] []))
    refine own_up (fun _ k => XS.bipush X1.here hx rfl (hb hby at_15) k) ?_
    show own_Go p.tables e below _ (T1.setTop (mkF m 17 #[.val (.int p0), .val (.int ((p0 &&& (2147483647 : Int32)) % (3 : Int32))), .val (.ref cA), .unset, .unset, .unset] [(.int (6 : Int32))]))
    obtain ⟨T2, h2, k2, X2, e2, E2, A2, st2⟩ := newP X1 hx hZ (hw _ (List.mem_of_getElem? (i := 4) rfl)) e1 (g := (mkF m 17 #[.val (.int p0), .val (.int ((p0 &&& (2147483647 : Int32)) % (3 : Int32))), .val (.ref cA), .unset, .unset, .unset] [(.int (6 : Int32))])) rfl (hb hby at_17) rfl (by decide) (cap := 6) (by decide) (by decide) (by decide) (by decide)
    obtain ⟨b2, gz2⟩ : ∃ z, z = h0.size := ⟨_, rfl⟩
    rw [← gz2] at A2 st2
    have g_b2 : n0 ≤ b2 := Nat.le_trans ZH (Nat.le_of_eq gz2.symm)
    have sz_b2 : h0.size ≤ b2 := Nat.le_trans KK.1 (Nat.le_of_eq gz2.symm)
    have ZH := Nat.le_trans ZH E2.1
    have KK := KK.ext E2
    have OO := OO.ext E2
    have V_b2 : Arv Z h2 b2 k2 .char (6 : Int32) [(.int (0 : Int32)), (.int (0 : Int32)), (.int (0 : Int32)), (.int (0 : Int32)), (.int (0 : Int32)), (.int (0 : Int32))] (.int (0 : Int32)) := (Arv.new A2 (by decide)).pad (pad_rep [] (.int (0 : Int32)) 6)
    refine own_up st2 ?_
    show own_Go p.tables e below _ (T2.setTop (mkF m 19 #[.val (.int p0), .val (.int ((p0 &&& (2147483647 : Int32)) % (3 : Int32))), .val (.ref cA), .unset, .unset, .unset] [(.ref b2)]))
    refine own_up (fun _ k => XS.dup X2.here hx rfl (hb hby at_19) rfl rfl k) ?_
    show own_Go p.tables e below _ (T2.setTop (mkF m 20 #[.val (.int p0), .val (.int ((p0 &&& (2147483647 : Int32)) % (3 : Int32))), .val (.ref cA), .unset, .unset, .unset] [(.ref b2), (.ref b2)]))
    refine own_up (fun _ k => XS.iconst X2.here hx rfl (hb hby at_20) k) ?_
    show own_Go p.tables e below _ (T2.setTop (mkF m 21 #[.val (.int p0), .val (.int ((p0 &&& (2147483647 : Int32)) % (3 : Int32))), .val (.ref cA), .unset, .unset, .unset] [(.int (0 : Int32)), (.ref b2), (.ref b2)]))
    refine own_up (fun _ k => XS.bipush X2.here hx rfl (hb hby at_21) k) ?_
    show own_Go p.tables e below _ (T2.setTop (mkF m 23 #[.val (.int p0), .val (.int ((p0 &&& (2147483647 : Int32)) % (3 : Int32))), .val (.ref cA), .unset, .unset, .unset] [(.int (97 : Int32)), (.int (0 : Int32)), (.ref b2), (.ref b2)]))
    obtain ⟨cl3, Ar3, q3, sz3, nz3, hH3, hG3⟩ := V_b2
    obtain ⟨T3, h3, X3, e3, W3, st3⟩ := stC X2 hx hZ e2 Ar3 (j := (0 : Int32)) (inb_of sz3 ⟨by decide, by decide⟩) (g := (mkF m 23 #[.val (.int p0), .val (.int ((p0 &&& (2147483647 : Int32)) % (3 : Int32))), .val (.ref cA), .unset, .unset, .unset] [(.int (97 : Int32)), (.int (0 : Int32)), (.ref b2), (.ref b2)])) rfl rfl (hb hby at_23)
    have V_b2 : Arv Z h3 b2 k2 .char (6 : Int32) [(.int (97 : Int32)), (.int (0 : Int32)), (.int (0 : Int32)), (.int (0 : Int32)), (.int (0 : Int32)), (.int (0 : Int32))] (.int (0 : Int32)) := Arv.set Ar3 q3 sz3 nz3 hH3 hG3 rfl W3 0 rfl (Nat.le_of_ble_eq_true rfl)
    have N3 := Fr.snoc X3 N0 g_b2
    have ZH := Nat.le_trans ZH (Nat.le_of_eq W3.size.symm)
    have KK := KK.wr W3 (Or.inr sz_b2)
    have OO := OO.wr W3 g_b2
    refine own_up st3 ?_
    show own_Go p.tables e below _ (T3.setTop (mkF m 24 #[.val (.int p0), .val (.int ((p0 &&& (2147483647 : Int32)) % (3 : Int32))), .val (.ref cA), .unset, .unset, .unset] [(.ref b2)]))
    refine own_up (fun _ k => XS.dup X3.here hx rfl (hb hby at_24) rfl rfl k) ?_
    show own_Go p.tables e below _ (T3.setTop (mkF m 25 #[.val (.int p0), .val (.int ((p0 &&& (2147483647 : Int32)) % (3 : Int32))), .val (.ref cA), .unset, .unset, .unset] [(.ref b2), (.ref b2)]))
    refine own_up (fun _ k => XS.iconst X3.here hx rfl (hb hby at_25) k) ?_
    show own_Go p.tables e below _ (T3.setTop (mkF m 26 #[.val (.int p0), .val (.int ((p0 &&& (2147483647 : Int32)) % (3 : Int32))), .val (.ref cA), .unset, .unset, .unset] [(.int (1 : Int32)), (.ref b2), (.ref b2)]))
    refine own_up (fun _ k => XS.bipush X3.here hx rfl (hb hby at_26) k) ?_
    show own_Go p.tables e below _ (T3.setTop (mkF m 28 #[.val (.int p0), .val (.int ((p0 &&& (2147483647 : Int32)) % (3 : Int32))), .val (.ref cA), .unset, .unset, .unset] [(.int (116 : Int32)), (.int (1 : Int32)), (.ref b2), (.ref b2)]))
    obtain ⟨cl4, Ar4, q4, sz4, nz4, hH4, hG4⟩ := V_b2
    obtain ⟨T4, h4, X4, e4, W4, st4⟩ := stC X3 hx hZ e3 Ar4 (j := (1 : Int32)) (inb_of sz4 ⟨by decide, by decide⟩) (g := (mkF m 28 #[.val (.int p0), .val (.int ((p0 &&& (2147483647 : Int32)) % (3 : Int32))), .val (.ref cA), .unset, .unset, .unset] [(.int (116 : Int32)), (.int (1 : Int32)), (.ref b2), (.ref b2)])) rfl rfl (hb hby at_28)
    have V_b2 : Arv Z h4 b2 k2 .char (6 : Int32) [(.int (97 : Int32)), (.int (116 : Int32)), (.int (0 : Int32)), (.int (0 : Int32)), (.int (0 : Int32)), (.int (0 : Int32))] (.int (0 : Int32)) := Arv.set Ar4 q4 sz4 nz4 hH4 hG4 rfl W4 1 rfl (Nat.le_of_ble_eq_true rfl)
    have N4 := Fr.snoc X4 N3 g_b2
    have ZH := Nat.le_trans ZH (Nat.le_of_eq W4.size.symm)
    have KK := KK.wr W4 (Or.inr sz_b2)
    have OO := OO.wr W4 g_b2
    refine own_up st4 ?_
    show own_Go p.tables e below _ (T4.setTop (mkF m 29 #[.val (.int p0), .val (.int ((p0 &&& (2147483647 : Int32)) % (3 : Int32))), .val (.ref cA), .unset, .unset, .unset] [(.ref b2)]))
    refine own_up (fun _ k => XS.dup X4.here hx rfl (hb hby at_29) rfl rfl k) ?_
    show own_Go p.tables e below _ (T4.setTop (mkF m 30 #[.val (.int p0), .val (.int ((p0 &&& (2147483647 : Int32)) % (3 : Int32))), .val (.ref cA), .unset, .unset, .unset] [(.ref b2), (.ref b2)]))
    refine own_up (fun _ k => XS.iconst X4.here hx rfl (hb hby at_30) k) ?_
    show own_Go p.tables e below _ (T4.setTop (mkF m 31 #[.val (.int p0), .val (.int ((p0 &&& (2147483647 : Int32)) % (3 : Int32))), .val (.ref cA), .unset, .unset, .unset] [(.int (2 : Int32)), (.ref b2), (.ref b2)]))
    refine own_up (fun _ k => XS.bipush X4.here hx rfl (hb hby at_31) k) ?_
    show own_Go p.tables e below _ (T4.setTop (mkF m 33 #[.val (.int p0), .val (.int ((p0 &&& (2147483647 : Int32)) % (3 : Int32))), .val (.ref cA), .unset, .unset, .unset] [(.int (111 : Int32)), (.int (2 : Int32)), (.ref b2), (.ref b2)]))
    obtain ⟨cl5, Ar5, q5, sz5, nz5, hH5, hG5⟩ := V_b2
    obtain ⟨T5, h5, X5, e5, W5, st5⟩ := stC X4 hx hZ e4 Ar5 (j := (2 : Int32)) (inb_of sz5 ⟨by decide, by decide⟩) (g := (mkF m 33 #[.val (.int p0), .val (.int ((p0 &&& (2147483647 : Int32)) % (3 : Int32))), .val (.ref cA), .unset, .unset, .unset] [(.int (111 : Int32)), (.int (2 : Int32)), (.ref b2), (.ref b2)])) rfl rfl (hb hby at_33)
    have V_b2 : Arv Z h5 b2 k2 .char (6 : Int32) [(.int (97 : Int32)), (.int (116 : Int32)), (.int (111 : Int32)), (.int (0 : Int32)), (.int (0 : Int32)), (.int (0 : Int32))] (.int (0 : Int32)) := Arv.set Ar5 q5 sz5 nz5 hH5 hG5 rfl W5 2 rfl (Nat.le_of_ble_eq_true rfl)
    have N5 := Fr.snoc X5 N4 g_b2
    have ZH := Nat.le_trans ZH (Nat.le_of_eq W5.size.symm)
    have KK := KK.wr W5 (Or.inr sz_b2)
    have OO := OO.wr W5 g_b2
    refine own_up st5 ?_
    show own_Go p.tables e below _ (T5.setTop (mkF m 34 #[.val (.int p0), .val (.int ((p0 &&& (2147483647 : Int32)) % (3 : Int32))), .val (.ref cA), .unset, .unset, .unset] [(.ref b2)]))
    refine own_up (fun _ k => XS.dup X5.here hx rfl (hb hby at_34) rfl rfl k) ?_
    show own_Go p.tables e below _ (T5.setTop (mkF m 35 #[.val (.int p0), .val (.int ((p0 &&& (2147483647 : Int32)) % (3 : Int32))), .val (.ref cA), .unset, .unset, .unset] [(.ref b2), (.ref b2)]))
    refine own_up (fun _ k => XS.iconst X5.here hx rfl (hb hby at_35) k) ?_
    show own_Go p.tables e below _ (T5.setTop (mkF m 36 #[.val (.int p0), .val (.int ((p0 &&& (2147483647 : Int32)) % (3 : Int32))), .val (.ref cA), .unset, .unset, .unset] [(.int (3 : Int32)), (.ref b2), (.ref b2)]))
    refine own_up (fun _ k => XS.bipush X5.here hx rfl (hb hby at_36) k) ?_
    show own_Go p.tables e below _ (T5.setTop (mkF m 38 #[.val (.int p0), .val (.int ((p0 &&& (2147483647 : Int32)) % (3 : Int32))), .val (.ref cA), .unset, .unset, .unset] [(.int (109 : Int32)), (.int (3 : Int32)), (.ref b2), (.ref b2)]))
    obtain ⟨cl6, Ar6, q6, sz6, nz6, hH6, hG6⟩ := V_b2
    obtain ⟨T6, h6, X6, e6, W6, st6⟩ := stC X5 hx hZ e5 Ar6 (j := (3 : Int32)) (inb_of sz6 ⟨by decide, by decide⟩) (g := (mkF m 38 #[.val (.int p0), .val (.int ((p0 &&& (2147483647 : Int32)) % (3 : Int32))), .val (.ref cA), .unset, .unset, .unset] [(.int (109 : Int32)), (.int (3 : Int32)), (.ref b2), (.ref b2)])) rfl rfl (hb hby at_38)
    have V_b2 : Arv Z h6 b2 k2 .char (6 : Int32) [(.int (97 : Int32)), (.int (116 : Int32)), (.int (111 : Int32)), (.int (109 : Int32)), (.int (0 : Int32)), (.int (0 : Int32))] (.int (0 : Int32)) := Arv.set Ar6 q6 sz6 nz6 hH6 hG6 rfl W6 3 rfl (Nat.le_of_ble_eq_true rfl)
    have N6 := Fr.snoc X6 N5 g_b2
    have ZH := Nat.le_trans ZH (Nat.le_of_eq W6.size.symm)
    have KK := KK.wr W6 (Or.inr sz_b2)
    have OO := OO.wr W6 g_b2
    refine own_up st6 ?_
    show own_Go p.tables e below _ (T6.setTop (mkF m 39 #[.val (.int p0), .val (.int ((p0 &&& (2147483647 : Int32)) % (3 : Int32))), .val (.ref cA), .unset, .unset, .unset] [(.ref b2)]))
    refine own_up (fun _ k => XS.dup X6.here hx rfl (hb hby at_39) rfl rfl k) ?_
    show own_Go p.tables e below _ (T6.setTop (mkF m 40 #[.val (.int p0), .val (.int ((p0 &&& (2147483647 : Int32)) % (3 : Int32))), .val (.ref cA), .unset, .unset, .unset] [(.ref b2), (.ref b2)]))
    refine own_up (fun _ k => XS.iconst X6.here hx rfl (hb hby at_40) k) ?_
    show own_Go p.tables e below _ (T6.setTop (mkF m 41 #[.val (.int p0), .val (.int ((p0 &&& (2147483647 : Int32)) % (3 : Int32))), .val (.ref cA), .unset, .unset, .unset] [(.int (4 : Int32)), (.ref b2), (.ref b2)]))
    refine own_up (fun _ k => XS.bipush X6.here hx rfl (hb hby at_41) k) ?_
    show own_Go p.tables e below _ (T6.setTop (mkF m 43 #[.val (.int p0), .val (.int ((p0 &&& (2147483647 : Int32)) % (3 : Int32))), .val (.ref cA), .unset, .unset, .unset] [(.int (105 : Int32)), (.int (4 : Int32)), (.ref b2), (.ref b2)]))
    obtain ⟨cl7, Ar7, q7, sz7, nz7, hH7, hG7⟩ := V_b2
    obtain ⟨T7, h7, X7, e7, W7, st7⟩ := stC X6 hx hZ e6 Ar7 (j := (4 : Int32)) (inb_of sz7 ⟨by decide, by decide⟩) (g := (mkF m 43 #[.val (.int p0), .val (.int ((p0 &&& (2147483647 : Int32)) % (3 : Int32))), .val (.ref cA), .unset, .unset, .unset] [(.int (105 : Int32)), (.int (4 : Int32)), (.ref b2), (.ref b2)])) rfl rfl (hb hby at_43)
    have V_b2 : Arv Z h7 b2 k2 .char (6 : Int32) [(.int (97 : Int32)), (.int (116 : Int32)), (.int (111 : Int32)), (.int (109 : Int32)), (.int (105 : Int32)), (.int (0 : Int32))] (.int (0 : Int32)) := Arv.set Ar7 q7 sz7 nz7 hH7 hG7 rfl W7 4 rfl (Nat.le_of_ble_eq_true rfl)
    have N7 := Fr.snoc X7 N6 g_b2
    have ZH := Nat.le_trans ZH (Nat.le_of_eq W7.size.symm)
    have KK := KK.wr W7 (Or.inr sz_b2)
    have OO := OO.wr W7 g_b2
    refine own_up st7 ?_
    show own_Go p.tables e below _ (T7.setTop (mkF m 44 #[.val (.int p0), .val (.int ((p0 &&& (2147483647 : Int32)) % (3 : Int32))), .val (.ref cA), .unset, .unset, .unset] [(.ref b2)]))
    refine own_up (fun _ k => XS.dup X7.here hx rfl (hb hby at_44) rfl rfl k) ?_
    show own_Go p.tables e below _ (T7.setTop (mkF m 45 #[.val (.int p0), .val (.int ((p0 &&& (2147483647 : Int32)) % (3 : Int32))), .val (.ref cA), .unset, .unset, .unset] [(.ref b2), (.ref b2)]))
    refine own_up (fun _ k => XS.iconst X7.here hx rfl (hb hby at_45) k) ?_
    show own_Go p.tables e below _ (T7.setTop (mkF m 46 #[.val (.int p0), .val (.int ((p0 &&& (2147483647 : Int32)) % (3 : Int32))), .val (.ref cA), .unset, .unset, .unset] [(.int (5 : Int32)), (.ref b2), (.ref b2)]))
    refine own_up (fun _ k => XS.bipush X7.here hx rfl (hb hby at_46) k) ?_
    show own_Go p.tables e below _ (T7.setTop (mkF m 48 #[.val (.int p0), .val (.int ((p0 &&& (2147483647 : Int32)) % (3 : Int32))), .val (.ref cA), .unset, .unset, .unset] [(.int (99 : Int32)), (.int (5 : Int32)), (.ref b2), (.ref b2)]))
    obtain ⟨cl8, Ar8, q8, sz8, nz8, hH8, hG8⟩ := V_b2
    obtain ⟨T8, h8, X8, e8, W8, st8⟩ := stC X7 hx hZ e7 Ar8 (j := (5 : Int32)) (inb_of sz8 ⟨by decide, by decide⟩) (g := (mkF m 48 #[.val (.int p0), .val (.int ((p0 &&& (2147483647 : Int32)) % (3 : Int32))), .val (.ref cA), .unset, .unset, .unset] [(.int (99 : Int32)), (.int (5 : Int32)), (.ref b2), (.ref b2)])) rfl rfl (hb hby at_48)
    have V_b2 : Arv Z h8 b2 k2 .char (6 : Int32) [(.int (97 : Int32)), (.int (116 : Int32)), (.int (111 : Int32)), (.int (109 : Int32)), (.int (105 : Int32)), (.int (99 : Int32))] (.int (0 : Int32)) := Arv.set Ar8 q8 sz8 nz8 hH8 hG8 rfl W8 5 rfl (Nat.le_of_ble_eq_true rfl)
    have N8 := Fr.snoc X8 N7 g_b2
    have ZH := Nat.le_trans ZH (Nat.le_of_eq W8.size.symm)
    have KK := KK.wr W8 (Or.inr sz_b2)
    have OO := OO.wr W8 g_b2
    refine own_up st8 ?_
    show own_Go p.tables e below _ (T8.setTop (mkF m 49 #[.val (.int p0), .val (.int ((p0 &&& (2147483647 : Int32)) % (3 : Int32))), .val (.ref cA), .unset, .unset, .unset] [(.ref b2)]))
    refine own_up (fun _ k => XS.astoreN X8.here hx rfl (hb hby at_49) rfl rfl (l' := #[.val (.int p0), .val (.int ((p0 &&& (2147483647 : Int32)) % (3 : Int32))), .val (.ref cA), .val (.ref b2), .unset, .unset]) rfl k) ?_
    show own_Go p.tables e below _ (T8.setTop (mkF m 50 #[.val (.int p0), .val (.int ((p0 &&& (2147483647 : Int32)) % (3 : Int32))), .val (.ref cA), .val (.ref b2), .unset, .unset] []))
    refine own_up (fun _ k => XS.goto X8.here hx rfl (pc0 := 50) (pc' := 229) rfl (hb hby at_50) (by decide) (by decide) k) ?_
    show own_Go p.tables e below _ (T8.setTop (mkF m 229 #[.val (.int p0), .val (.int ((p0 &&& (2147483647 : Int32)) % (3 : Int32))), .val (.ref cA), .val (.ref b2), .unset, .unset] []))
    obtain ⟨T9, h9, X9, e9, E9, A9, D9, -, st9⟩ := newO X8 hx hZ hown (hw _ (List.mem_of_getElem? (i := 5) rfl)) (hw _ (List.mem_of_getElem? (i := 6) rfl)) (hw _ (List.mem_of_getElem? (i := 7) rfl)) e8 (g := (mkF m 229 #[.val (.int p0), .val (.int ((p0 &&& (2147483647 : Int32)) % (3 : Int32))), .val (.ref cA), .val (.ref b2), .unset, .unset] [])) rfl (hb hby at_229) (by decide) (by decide)
    obtain ⟨b9, gz9⟩ : ∃ z, z = h8.size := ⟨_, rfl⟩
    rw [← gz9] at A9 D9 st9
    have ne_b2_b9 : b2 ≠ b9 := Nat.ne_of_lt (Nat.lt_of_lt_of_le V_b2.lt (Nat.le_of_eq gz9.symm))
    have g_b9 : n0 ≤ b9 := Nat.le_trans ZH (Nat.le_of_eq gz9.symm)
    have sz_b9 : h0.size ≤ b9 := Nat.le_trans KK.1 (Nat.le_of_eq gz9.symm)
    have V_b2 := V_b2.ext E9
    have ZH := Nat.le_trans ZH E9.1
    have KK := KK.ext E9
    have OO := OO.ext E9
    have E_b9 := A9
    have F_coder_b9 : Fld Z h9 b9 "java/lang/String" "coder" "B" (.int (0 : Int32)) := D9 (Or.inr (hw _ (List.mem_of_getElem? (i := 31) rfl))) (ty := .byte) (by decide)
    have F_value_b9 : Fld Z h9 b9 "java/lang/String" "value" "[B" .null := D9 (Or.inr (hw _ (List.mem_of_getElem? (i := 33) rfl))) (ty := (.array .byte)) (by decide)
    refine own_up st9 ?_
    show own_Go p.tables e below _ (T9.setTop (mkF m 232 #[.val (.int p0), .val (.int ((p0 &&& (2147483647 : Int32)) % (3 : Int32))), .val (.ref cA), .val (.ref b2), .unset, .unset] [(.ref b9)]))
    refine own_up (fun _ k => XS.dup X9.here hx rfl (hb hby at_232) rfl rfl k) ?_
    show own_Go p.tables e below _ (T9.setTop (mkF m 233 #[.val (.int p0), .val (.int ((p0 &&& (2147483647 : Int32)) % (3 : Int32))), .val (.ref cA), .val (.ref b2), .unset, .unset] [(.ref b9), (.ref b9)]))
    refine own_up (fun _ k => XS.aloadN X9.here hx rfl (hb hby at_233) rfl rfl k) ?_
    show own_Go p.tables e below _ (T9.setTop (mkF m 234 #[.val (.int p0), .val (.int ((p0 &&& (2147483647 : Int32)) % (3 : Int32))), .val (.ref cA), .val (.ref b2), .unset, .unset] [(.ref b2), (.ref b9), (.ref b9)]))
    obtain ⟨_, _, ⟨T10, L10, k10, n10⟩, -, X10, ⟨Lc10, hQ10, l10, y10, z10⟩, st10⟩ := X9.specialBack hx (y := (⟨"java/lang/String", "<init>", "([C)V"⟩ : MethodName)) rfl hown (mvT hZ (hw _ (List.mem_of_getElem? (i := 8) rfl))) (mvT hZ (hw _ (List.mem_of_getElem? (i := 9) rfl))) (mvT hZ (hw _ (List.mem_of_getElem? (i := 10) rfl))) (by decide) (StrChars.Road.backV (W := 1) hZ hws (kI := 4) (hw _ (List.mem_of_getElem? (i := 6) rfl)) (cs := ([97, 116, 111, 109, 105, 99] : List Int32)) (bs := ([97, 116, 111, 109, 105, 99] : List Int32).map (fun c => c.toInt8.toInt32)) (n := 6) g_b9 ZH E_b9 F_value_b9 F_coder_b9 V_b2 (SC.ext OO.2) hcz rfl rfl (by decide) (by decide) own_hpA rfl (by decide) (by decide)) (g := (mkF m 234 #[.val (.int p0), .val (.int ((p0 &&& (2147483647 : Int32)) % (3 : Int32))), .val (.ref cA), .val (.ref b2), .unset, .unset] [(.ref b2), (.ref b9), (.ref b9)])) rfl (by rw [hml]; rfl) (Steps.refl _) (a := b9) (argsL := [(.ref b2)]) (rest := [(.ref b9)]) (lenOf pd_2 rfl) rfl (by show 2 * 0 + _ ≤ _; exact Nat.le_of_eq rfl) (hb hby at_234) (fun _ _ => ⟨rfl, e9, (by decide : 2 + 1 ≤ _), (by decide : 10 + 6 ≤ _)⟩)
    dsimp only [Pt.U, Pt.locs, Pt.cells, Pt.slots] at X10 l10 y10 z10 st10 hQ10
    subst l10 y10 z10
    obtain ⟨rfl, Nq10, K10, Eq10, C_b9, tb, kt, ub10, vb10, wb10, F_b9, V_tb⟩ := hQ10
    have N10 := Fr.app N8 Nq10
    have V_b2 := V_b2.keep K10 (ninS ne_b2_b9 nin0)
    have E_b9 := E_b9.keep K10
    have ZH := Nat.le_trans ZH K10.1
    have KK := KK.trans K10 (allS (Or.inr sz_b9) all0)
    have OO := OO.keep K10 (allS g_b9 all0)
    refine own_up (fun _ k => st10.trans k) ?_
    show own_Go p.tables e below _ (T10.setTop (mkF m 237 #[.val (.int p0), .val (.int ((p0 &&& (2147483647 : Int32)) % (3 : Int32))), .val (.ref cA), .val (.ref b2), .unset, .unset] [(.ref b9)]))
    refine own_up (fun _ k => XS.astore X10.here hx rfl (hb hby at_237) rfl rfl (l' := #[.val (.int p0), .val (.int ((p0 &&& (2147483647 : Int32)) % (3 : Int32))), .val (.ref cA), .val (.ref b2), .val (.ref b9), .unset]) rfl k) ?_
    show own_Go p.tables e below _ (T10.setTop (mkF m 239 #[.val (.int p0), .val (.int ((p0 &&& (2147483647 : Int32)) % (3 : Int32))), .val (.ref cA), .val (.ref b2), .val (.ref b9), .unset] []))
    refine own_up (fun _ k => XS.aload X10.here hx rfl (hb hby at_239) rfl rfl k) ?_
    show own_Go p.tables e below _ (T10.setTop (mkF m 241 #[.val (.int p0), .val (.int ((p0 &&& (2147483647 : Int32)) % (3 : Int32))), .val (.ref cA), .val (.ref b2), .val (.ref b9), .unset] [(.ref b9)]))
    obtain ⟨_, _, ⟨T11, L11, k11, n11⟩, -, X11, ⟨Lc11, hQ11, l11, y11, z11⟩, st11⟩ := Jvm.LawKit.callS X10 hx (y := (⟨"com/example/remora/remora/jpa/TransactionStrategy", "forLabel", "(Ljava/lang/String;)Lcom/example/remora/remora/jpa/TransactionStrategy;"⟩ : MethodName)) hown (mvT hZ (hw _ (List.mem_of_getElem? (i := 34) rfl))) (mvT hZ (hw _ (List.mem_of_getElem? (i := 35) rfl))) (mvT hZ (hw _ (List.mem_of_getElem? (i := 2) rfl))) (mvT hZ (hw _ (List.mem_of_getElem? (i := 36) rfl))) (by decide) (backOf (W := 0) (rmLA l Z a0 hw [] cz va kv cA lA bA kA cP lP bP kP cL lL bL kL b9 tb kt T10.heap n0 ZH OO HW0 E_b9 F_b9 C_b9 V_tb) hZ (hw _ (List.mem_of_getElem? (i := 36) rfl)) (hw _ (List.mem_of_getElem? (i := 2) rfl)) (by decide) (by decide)) (g := (mkF m 241 #[.val (.int p0), .val (.int ((p0 &&& (2147483647 : Int32)) % (3 : Int32))), .val (.ref cA), .val (.ref b2), .val (.ref b9), .unset] [(.ref b9)])) rfl (by rw [hml]; rfl) (argsL := [(.ref b9)]) (rest := []) (lenOf pd_3 rfl) rfl (by show 2 * 0 + _ ≤ _; exact Nat.le_of_eq rfl) (hb hby at_241) (fun _ _ => ⟨rfl, rfl, (by decide : 3 + 1 ≤ _), (by decide : 16 + 3 ≤ _)⟩)
    dsimp only [Pt.U, Pt.locs, Pt.cells, Pt.slots] at X11 l11 y11 z11 st11 hQ11
    subst l11 y11 z11
    obtain ⟨rfl, Nq11, K11⟩ := hQ11
    have N11 := Fr.app N10 Nq11
    have E_b9 := E_b9.keep K11
    have F_b9 := F_b9.keep K11 nin0
    have C_b9 := C_b9.keep K11 nin0
    have V_tb := V_tb.keep K11 nin0
    have ZH := Nat.le_trans ZH K11.1
    have KK := KK.trans K11 all0
    have OO := OO.keep K11 all0
    refine own_up st11 ?_
    show own_Go p.tables e below _ (T11.setTop (mkF m 244 #[.val (.int p0), .val (.int ((p0 &&& (2147483647 : Int32)) % (3 : Int32))), .val (.ref cA), .val (.ref b2), .val (.ref b9), .unset] [(.ref cA)]))
    refine own_up (fun _ k => XS.astore X11.here hx rfl (hb hby at_244) rfl rfl (l' := #[.val (.int p0), .val (.int ((p0 &&& (2147483647 : Int32)) % (3 : Int32))), .val (.ref cA), .val (.ref b2), .val (.ref b9), .val (.ref cA)]) rfl k) ?_
    show own_Go p.tables e below _ (T11.setTop (mkF m 246 #[.val (.int p0), .val (.int ((p0 &&& (2147483647 : Int32)) % (3 : Int32))), .val (.ref cA), .val (.ref b2), .val (.ref b9), .val (.ref cA)] []))
    refine own_up (fun _ k => XS.aload X11.here hx rfl (hb hby at_246) rfl rfl k) ?_
    show own_Go p.tables e below _ (T11.setTop (mkF m 248 #[.val (.int p0), .val (.int ((p0 &&& (2147483647 : Int32)) % (3 : Int32))), .val (.ref cA), .val (.ref b2), .val (.ref b9), .val (.ref cA)] [(.ref cA)]))
    refine own_up (fun _ k => XS.aloadN X11.here hx rfl (hb hby at_248) rfl rfl k) ?_
    show own_Go p.tables e below _ (T11.setTop (mkF m 249 #[.val (.int p0), .val (.int ((p0 &&& (2147483647 : Int32)) % (3 : Int32))), .val (.ref cA), .val (.ref b2), .val (.ref b9), .val (.ref cA)] [(.ref cA), (.ref cA)]))
    refine own_up (fun _ k => Jvm.RoadKit.acmp (g := (mkF m 249 #[.val (.int p0), .val (.int ((p0 &&& (2147483647 : Int32)) % (3 : Int32))), .val (.ref cA), .val (.ref b2), .val (.ref b9), .val (.ref cA)] [(.ref cA), (.ref cA)])) X11 hx rfl rfl rfl (pc0 := 249) (pc' := 252) (same := true) rfl (hb hby at_249) rfl (decide_eq_true (congrArg Value.ref rfl)) (by decide) (by decide) k) ?_
    show own_Go p.tables e below _ (T11.setTop (mkF m 252 #[.val (.int p0), .val (.int ((p0 &&& (2147483647 : Int32)) % (3 : Int32))), .val (.ref cA), .val (.ref b2), .val (.ref b9), .val (.ref cA)] []))
    refine own_up (fun _ k => XS.aload X11.here hx rfl (hb hby at_252) rfl rfl k) ?_
    show own_Go p.tables e below _ (T11.setTop (mkF m 254 #[.val (.int p0), .val (.int ((p0 &&& (2147483647 : Int32)) % (3 : Int32))), .val (.ref cA), .val (.ref b2), .val (.ref b9), .val (.ref cA)] [(.ref cA)]))
    obtain ⟨cq12, kq12, q12a, q12b, q12c⟩ := isOf hZ rfl (E_cA.ext OO.2)
    obtain ⟨_, _, ⟨T12, L12, k12, n12⟩, -, X12, ⟨Lc12, hQ12, l12, y12, z12⟩, st12⟩ := X11.virtualBack hx (y := (⟨"com/example/remora/remora/jpa/TransactionStrategy", "toString", "()Ljava/lang/String;"⟩ : MethodName)) (z := (⟨"com/example/remora/remora/jpa/TransactionStrategy", "toString", "()Ljava/lang/String;"⟩ : MethodName)) hown (mvT hZ (hw _ (List.mem_of_getElem? (i := 66) rfl))) (mvT hZ (hw _ (List.mem_of_getElem? (i := 67) rfl))) (notFace_of_selects (args := #[]) (mvT hZ (hw _ (List.mem_of_getElem? (i := 69) rfl)))) (mvT hZ (hw _ (List.mem_of_getElem? (i := 69) rfl))) (mvT hZ (hw _ (List.mem_of_getElem? (i := 68) rfl))) (by decide) (backOf (W := 0) (rmT l Z a0 hw [] cA lA T11.heap n0 ZH (FlA.ext OO.2)) hZ (hw _ (List.mem_of_getElem? (i := 70) rfl)) (hw _ (List.mem_of_getElem? (i := 2) rfl)) (by decide) (by decide)) q12a q12c (g := (mkF m 254 #[.val (.int p0), .val (.int ((p0 &&& (2147483647 : Int32)) % (3 : Int32))), .val (.ref cA), .val (.ref b2), .val (.ref b9), .val (.ref cA)] [(.ref cA)])) rfl (by rw [hml]; rfl) (Steps.refl _) (argsL := []) (rest := []) (lenOf pd_4 rfl) rfl (by show 2 * 0 + _ ≤ _; exact Nat.le_of_eq rfl) (hb hby at_254) (fun _ _ => ⟨rfl, rfl, (by decide : 4 + 0 ≤ _), (by decide : 19 + 0 ≤ _)⟩)
    dsimp only [Pt.U, Pt.locs, Pt.cells, Pt.slots] at X12 l12 y12 z12 st12 hQ12
    subst l12 y12 z12
    obtain ⟨rfl, Nq12, e12⟩ := hQ12
    have N12 := Fr.app N11 Nq12
    refine own_up (fun _ k => st12.trans k) ?_
    show own_Go p.tables e below _ (T12.setTop (mkF m 257 #[.val (.int p0), .val (.int ((p0 &&& (2147483647 : Int32)) % (3 : Int32))), .val (.ref cA), .val (.ref b2), .val (.ref b9), .val (.ref cA)] [(.ref lA)]))
    refine own_up (fun _ k => XS.aload X12.here hx rfl (hb hby at_257) rfl rfl k) ?_
    show own_Go p.tables e below _ (T12.setTop (mkF m 259 #[.val (.int p0), .val (.int ((p0 &&& (2147483647 : Int32)) % (3 : Int32))), .val (.ref cA), .val (.ref b2), .val (.ref b9), .val (.ref cA)] [(.ref b9), (.ref lA)]))
    obtain ⟨cq13, kq13, q13a, q13b, q13c⟩ := isOf hZ e12 (ElA.ext OO.2)
    obtain ⟨_, _, ⟨T13, L13, k13, n13⟩, -, X13, ⟨Lc13, hQ13, l13, y13, z13⟩, st13⟩ := X12.virtualBack hx (y := (⟨"java/lang/String", "equals", "(Ljava/lang/Object;)Z"⟩ : MethodName)) (z := (⟨"java/lang/String", "equals", "(Ljava/lang/Object;)Z"⟩ : MethodName)) hown (mvT hZ (hw _ (List.mem_of_getElem? (i := 71) rfl))) (mvT hZ (hw _ (List.mem_of_getElem? (i := 57) rfl))) (notFace_of_selects (args := #[]) (mvT hZ (hw _ (List.mem_of_getElem? (i := 59) rfl)))) (mvT hZ (hw _ (List.mem_of_getElem? (i := 59) rfl))) (mvT hZ (hw _ (List.mem_of_getElem? (i := 58) rfl))) (by decide) (StrChars.Road.eqW (W := 0) hZ heq (kI := 4) (hw _ (List.mem_of_getElem? (i := 6) rfl)) (ElA.ext OO.2) (VlA.ext OO.2) (ClA.ext OO.2) (KlA.ext OO.2) own_cdA (own_up16 _ own_hpA) (Nat.le_of_ble_eq_true rfl) E_b9 F_b9 C_b9 V_tb own_cdA (own_up16 _ own_hpA) (Nat.le_of_ble_eq_true rfl) (SC.ext OO.2) hcz (by decide) (by decide)) q13a q13c (g := (mkF m 259 #[.val (.int p0), .val (.int ((p0 &&& (2147483647 : Int32)) % (3 : Int32))), .val (.ref cA), .val (.ref b2), .val (.ref b9), .val (.ref cA)] [(.ref b9), (.ref lA)])) rfl (by rw [hml]; rfl) (Steps.refl _) (argsL := [(.ref b9)]) (rest := []) (lenOf pd_1 rfl) rfl (by show 2 * 0 + _ ≤ _; exact Nat.le_of_eq rfl) (hb hby at_259) (fun _ _ => ⟨rfl, e12, (by decide : 4 + 0 ≤ _), (by decide : 19 + 0 ≤ _)⟩)
    dsimp only [Pt.U, Pt.locs, Pt.cells, Pt.slots] at X13 l13 y13 z13 st13 hQ13
    subst l13 y13 z13
    obtain ⟨hcase13, rfl, e13⟩ := hQ13
    have hv13 : _ = some (Value.int 1) := hcase13.elim (fun q => q.1) (fun q => absurd rfl q.2)
    subst hv13
    have N13 := Fr.app N12 (Fr.nil n0)
    refine own_up (fun _ k => st13.trans k) ?_
    show own_Go p.tables e below _ (T13.setTop (mkF m 262 #[.val (.int p0), .val (.int ((p0 &&& (2147483647 : Int32)) % (3 : Int32))), .val (.ref cA), .val (.ref b2), .val (.ref b9), .val (.ref cA)] [(.int (1 : Int32))]))
    refine own_up (fun _ k => XS.ifNo X13.here hx rfl (hb hby at_262) rfl ((if0 _ _).trans (feq (by decide : ¬ ((1 : Int32) = (0 : Int32)))).1) k) ?_
    show own_Go p.tables e below _ (T13.setTop (mkF m 265 #[.val (.int p0), .val (.int ((p0 &&& (2147483647 : Int32)) % (3 : Int32))), .val (.ref cA), .val (.ref b2), .val (.ref b9), .val (.ref cA)] []))
    refine own_up (fun _ k => XS.aloadN X13.here hx rfl (hb hby at_265) rfl rfl k) ?_
    show own_Go p.tables e below _ (T13.setTop (mkF m 266 #[.val (.int p0), .val (.int ((p0 &&& (2147483647 : Int32)) % (3 : Int32))), .val (.ref cA), .val (.ref b2), .val (.ref b9), .val (.ref cA)] [(.ref cA)]))
    obtain ⟨cq14, kq14, q14a, q14b, q14c⟩ := isOf hZ e13 (E_cA.ext OO.2)
    obtain ⟨_, _, ⟨T14, L14, k14, n14⟩, -, X14, ⟨Lc14, hQ14, l14, y14, z14⟩, st14⟩ := X13.virtualBack hx (y := (⟨"com/example/remora/remora/jpa/TransactionStrategy", "toString", "()Ljava/lang/String;"⟩ : MethodName)) (z := (⟨"com/example/remora/remora/jpa/TransactionStrategy", "toString", "()Ljava/lang/String;"⟩ : MethodName)) hown (mvT hZ (hw _ (List.mem_of_getElem? (i := 66) rfl))) (mvT hZ (hw _ (List.mem_of_getElem? (i := 67) rfl))) (notFace_of_selects (args := #[]) (mvT hZ (hw _ (List.mem_of_getElem? (i := 69) rfl)))) (mvT hZ (hw _ (List.mem_of_getElem? (i := 69) rfl))) (mvT hZ (hw _ (List.mem_of_getElem? (i := 68) rfl))) (by decide) (backOf (W := 0) (rmT l Z a0 hw [] cA lA T11.heap n0 ZH (FlA.ext OO.2)) hZ (hw _ (List.mem_of_getElem? (i := 70) rfl)) (hw _ (List.mem_of_getElem? (i := 2) rfl)) (by decide) (by decide)) q14a q14c (g := (mkF m 266 #[.val (.int p0), .val (.int ((p0 &&& (2147483647 : Int32)) % (3 : Int32))), .val (.ref cA), .val (.ref b2), .val (.ref b9), .val (.ref cA)] [(.ref cA)])) rfl (by rw [hml]; rfl) (Steps.refl _) (argsL := []) (rest := []) (lenOf pd_4 rfl) rfl (by show 2 * 0 + _ ≤ _; exact Nat.le_of_eq rfl) (hb hby at_266) (fun _ _ => ⟨rfl, e13, (by decide : 4 + 0 ≤ _), (by decide : 19 + 0 ≤ _)⟩)
    dsimp only [Pt.U, Pt.locs, Pt.cells, Pt.slots] at X14 l14 y14 z14 st14 hQ14
    subst l14 y14 z14
    obtain ⟨rfl, Nq14, e14⟩ := hQ14
    have N14 := Fr.app N13 Nq14
    refine own_up (fun _ k => st14.trans k) ?_
    show own_Go p.tables e below _ (T14.setTop (mkF m 269 #[.val (.int p0), .val (.int ((p0 &&& (2147483647 : Int32)) % (3 : Int32))), .val (.ref cA), .val (.ref b2), .val (.ref b9), .val (.ref cA)] [(.ref lA)]))
    refine own_up (fun _ k => XS.aload X14.here hx rfl (hb hby at_269) rfl rfl k) ?_
    show own_Go p.tables e below _ (T14.setTop (mkF m 271 #[.val (.int p0), .val (.int ((p0 &&& (2147483647 : Int32)) % (3 : Int32))), .val (.ref cA), .val (.ref b2), .val (.ref b9), .val (.ref cA)] [(.ref b9), (.ref lA)]))
    obtain ⟨cq15, kq15, q15a, q15b, q15c⟩ := isOf hZ e14 (ElA.ext OO.2)
    obtain ⟨_, _, ⟨T15, L15, k15, n15⟩, -, X15, ⟨Lc15, hQ15, l15, y15, z15⟩, st15⟩ := X14.virtualBack hx (y := (⟨"java/lang/String", "equals", "(Ljava/lang/Object;)Z"⟩ : MethodName)) (z := (⟨"java/lang/String", "equals", "(Ljava/lang/Object;)Z"⟩ : MethodName)) hown (mvT hZ (hw _ (List.mem_of_getElem? (i := 71) rfl))) (mvT hZ (hw _ (List.mem_of_getElem? (i := 57) rfl))) (notFace_of_selects (args := #[]) (mvT hZ (hw _ (List.mem_of_getElem? (i := 59) rfl)))) (mvT hZ (hw _ (List.mem_of_getElem? (i := 59) rfl))) (mvT hZ (hw _ (List.mem_of_getElem? (i := 58) rfl))) (by decide) (StrChars.Road.eqW (W := 0) hZ heq (kI := 4) (hw _ (List.mem_of_getElem? (i := 6) rfl)) (ElA.ext OO.2) (VlA.ext OO.2) (ClA.ext OO.2) (KlA.ext OO.2) own_cdA (own_up16 _ own_hpA) (Nat.le_of_ble_eq_true rfl) E_b9 F_b9 C_b9 V_tb own_cdA (own_up16 _ own_hpA) (Nat.le_of_ble_eq_true rfl) (SC.ext OO.2) hcz (by decide) (by decide)) q15a q15c (g := (mkF m 271 #[.val (.int p0), .val (.int ((p0 &&& (2147483647 : Int32)) % (3 : Int32))), .val (.ref cA), .val (.ref b2), .val (.ref b9), .val (.ref cA)] [(.ref b9), (.ref lA)])) rfl (by rw [hml]; rfl) (Steps.refl _) (argsL := [(.ref b9)]) (rest := []) (lenOf pd_1 rfl) rfl (by show 2 * 0 + _ ≤ _; exact Nat.le_of_eq rfl) (hb hby at_271) (fun _ _ => ⟨rfl, e14, (by decide : 4 + 0 ≤ _), (by decide : 19 + 0 ≤ _)⟩)
    dsimp only [Pt.U, Pt.locs, Pt.cells, Pt.slots] at X15 l15 y15 z15 st15 hQ15
    subst l15 y15 z15
    obtain ⟨hcase15, rfl, e15⟩ := hQ15
    have hv15 : _ = some (Value.int 1) := hcase15.elim (fun q => q.1) (fun q => absurd rfl q.2)
    subst hv15
    have N15 := Fr.app N14 (Fr.nil n0)
    refine own_up (fun _ k => st15.trans k) ?_
    show own_Go p.tables e below _ (T15.setTop (mkF m 274 #[.val (.int p0), .val (.int ((p0 &&& (2147483647 : Int32)) % (3 : Int32))), .val (.ref cA), .val (.ref b2), .val (.ref b9), .val (.ref cA)] [(.int (1 : Int32))]))
    refine own_up (fun _ k => XS.ifNo X15.here hx rfl (hb hby at_274) rfl ((if0 _ _).trans (feq (by decide : ¬ ((1 : Int32) = (0 : Int32)))).1) k) ?_
    show own_Go p.tables e below _ (T15.setTop (mkF m 277 #[.val (.int p0), .val (.int ((p0 &&& (2147483647 : Int32)) % (3 : Int32))), .val (.ref cA), .val (.ref b2), .val (.ref b9), .val (.ref cA)] []))
    refine own_up (fun _ k => XS.iconst X15.here hx rfl (hb hby at_277) k) ?_
    show own_Go p.tables e below _ (T15.setTop (mkF m 278 #[.val (.int p0), .val (.int ((p0 &&& (2147483647 : Int32)) % (3 : Int32))), .val (.ref cA), .val (.ref b2), .val (.ref b9), .val (.ref cA)] [(.int (1 : Int32))]))
    refine own_up (fun _ k => XS.goto X15.here hx rfl (pc0 := 278) (pc' := 282) rfl (hb hby at_278) (by decide) (by decide) k) ?_
    show own_Go p.tables e below _ (T15.setTop (mkF m 282 #[.val (.int p0), .val (.int ((p0 &&& (2147483647 : Int32)) % (3 : Int32))), .val (.ref cA), .val (.ref b2), .val (.ref b9), .val (.ref cA)] [(.int (1 : Int32))]))
    obtain ⟨fs16, hr16, hrun16, hended16, hW16, hsame16⟩ := X15.leave (v := some (.int (1 : Int32))) (fun h => by rw [Bd.returns] at h; cases h)
    refine own_end ⟨_, _, ?_, hrun16, hended16, _, _, rfl, ?_, ⟨_, rfl⟩, hW16, hsame16.mono (by decide) (by decide)⟩
    · exact retN X15 hx (t := .boolean) Bd.returns (by simp) (hb hby at_282) hr16
    · show Qrm0 Z p0 cz va kv cA lA bA kA cP lP bP kP cL lL bL kL h0 n0 _ T15.heap _
      rw [e15]
      exact ⟨rfl, N15⟩
  · refine own_up (fun _ k => XS.ifYes X0.here hx rfl (pc0 := 8) (pc' := 53) rfl (hb hby at_8) rfl ((if0 _ _).trans (feq hc8).2) (by decide) (by decide) k) ?_
    show own_Go p.tables e below _ (s₁.setTop (mkF m 53 #[.val (.int p0), .val (.int ((p0 &&& (2147483647 : Int32)) % (3 : Int32))), .unset, .unset, .unset, .unset] []))
    refine own_up (fun _ k => XS.iloadN X0.here hx rfl (hb hby at_53) rfl k) ?_
    show own_Go p.tables e below _ (s₁.setTop (mkF m 54 #[.val (.int p0), .val (.int ((p0 &&& (2147483647 : Int32)) % (3 : Int32))), .unset, .unset, .unset, .unset] [(.int ((p0 &&& (2147483647 : Int32)) % (3 : Int32)))]))
    refine own_up (fun _ k => XS.iconst X0.here hx rfl (hb hby at_54) k) ?_
    show own_Go p.tables e below _ (s₁.setTop (mkF m 55 #[.val (.int p0), .val (.int ((p0 &&& (2147483647 : Int32)) % (3 : Int32))), .unset, .unset, .unset, .unset] [(.int (1 : Int32)), (.int ((p0 &&& (2147483647 : Int32)) % (3 : Int32)))]))
    by_cases hc55 : ((p0 &&& (2147483647 : Int32)) % (3 : Int32)) = (1 : Int32)
    · refine own_up (fun _ k => XS.icmpNo X0.here hx rfl (hb hby at_55) rfl (teq hc55).2 k) ?_
      show own_Go p.tables e below _ (s₁.setTop (mkF m 58 #[.val (.int p0), .val (.int ((p0 &&& (2147483647 : Int32)) % (3 : Int32))), .unset, .unset, .unset, .unset] []))
      obtain ⟨T17, X17, e17, st17⟩ := getS2 X0 hx hZ hown (host := "") (Or.inl (hw _ (List.mem_of_getElem? (i := 73) rfl))) Via.refl e0 (S_cP.ext OO.2) (g := (mkF m 58 #[.val (.int p0), .val (.int ((p0 &&& (2147483647 : Int32)) % (3 : Int32))), .unset, .unset, .unset, .unset] [])) rfl (hb hby at_58)
      refine own_up st17 ?_
      show own_Go p.tables e below _ (T17.setTop (mkF m 61 #[.val (.int p0), .val (.int ((p0 &&& (2147483647 : Int32)) % (3 : Int32))), .unset, .unset, .unset, .unset] [(.ref cP)]))
      refine own_up (fun _ k => XS.astoreN X17.here hx rfl (hb hby at_61) rfl rfl (l' := #[.val (.int p0), .val (.int ((p0 &&& (2147483647 : Int32)) % (3 : Int32))), .val (.ref cP), .unset, .unset, .unset]) rfl k) ?_
      show own_Go p.tables e below _ (T17.setTop (mkF m 62 #[.val (.int p0), .val (.int ((p0 &&& (2147483647 : Int32)) % (3 : Int32))), .val (.ref cP), .unset, .unset, .unset] []))
      refine own_up (fun _ k => XS.bipush X17.here hx rfl (hb hby at_62) k) ?_
      show own_Go p.tables e below _ (T17.setTop (mkF m 64 #[.val (.int p0), .val (.int ((p0 &&& (2147483647 : Int32)) % (3 : Int32))), .val (.ref cP), .unset, .unset, .unset] [(.int (11 : Int32))]))
      obtain ⟨T18, h18, k18, X18, e18, E18, A18, st18⟩ := newP X17 hx hZ (hw _ (List.mem_of_getElem? (i := 4) rfl)) e17 (g := (mkF m 64 #[.val (.int p0), .val (.int ((p0 &&& (2147483647 : Int32)) % (3 : Int32))), .val (.ref cP), .unset, .unset, .unset] [(.int (11 : Int32))])) rfl (hb hby at_64) rfl (by decide) (cap := 11) (by decide) (by decide) (by decide) (by decide)
      obtain ⟨b18, gz18⟩ : ∃ z, z = h0.size := ⟨_, rfl⟩
      rw [← gz18] at A18 st18
      have g_b18 : n0 ≤ b18 := Nat.le_trans ZH (Nat.le_of_eq gz18.symm)
      have sz_b18 : h0.size ≤ b18 := Nat.le_trans KK.1 (Nat.le_of_eq gz18.symm)
      have ZH := Nat.le_trans ZH E18.1
      have KK := KK.ext E18
      have OO := OO.ext E18
      have V_b18 : Arv Z h18 b18 k18 .char (11 : Int32) [(.int (0 : Int32)), (.int (0 : Int32)), (.int (0 : Int32)), (.int (0 : Int32)), (.int (0 : Int32)), (.int (0 : Int32)), (.int (0 : Int32)), (.int (0 : Int32)), (.int (0 : Int32)), (.int (0 : Int32)), (.int (0 : Int32))] (.int (0 : Int32)) := (Arv.new A18 (by decide)).pad (pad_rep [] (.int (0 : Int32)) 11)
      refine own_up st18 ?_
      show own_Go p.tables e below _ (T18.setTop (mkF m 66 #[.val (.int p0), .val (.int ((p0 &&& (2147483647 : Int32)) % (3 : Int32))), .val (.ref cP), .unset, .unset, .unset] [(.ref b18)]))
      refine own_up (fun _ k => XS.dup X18.here hx rfl (hb hby at_66) rfl rfl k) ?_
      show own_Go p.tables e below _ (T18.setTop (mkF m 67 #[.val (.int p0), .val (.int ((p0 &&& (2147483647 : Int32)) % (3 : Int32))), .val (.ref cP), .unset, .unset, .unset] [(.ref b18), (.ref b18)]))
      refine own_up (fun _ k => XS.iconst X18.here hx rfl (hb hby at_67) k) ?_
      show own_Go p.tables e below _ (T18.setTop (mkF m 68 #[.val (.int p0), .val (.int ((p0 &&& (2147483647 : Int32)) % (3 : Int32))), .val (.ref cP), .unset, .unset, .unset] [(.int (0 : Int32)), (.ref b18), (.ref b18)]))
      refine own_up (fun _ k => XS.bipush X18.here hx rfl (hb hby at_68) k) ?_
      show own_Go p.tables e below _ (T18.setTop (mkF m 70 #[.val (.int p0), .val (.int ((p0 &&& (2147483647 : Int32)) % (3 : Int32))), .val (.ref cP), .unset, .unset, .unset] [(.int (112 : Int32)), (.int (0 : Int32)), (.ref b18), (.ref b18)]))
      obtain ⟨cl19, Ar19, q19, sz19, nz19, hH19, hG19⟩ := V_b18
      obtain ⟨T19, h19, X19, e19, W19, st19⟩ := stC X18 hx hZ e18 Ar19 (j := (0 : Int32)) (inb_of sz19 ⟨by decide, by decide⟩) (g := (mkF m 70 #[.val (.int p0), .val (.int ((p0 &&& (2147483647 : Int32)) % (3 : Int32))), .val (.ref cP), .unset, .unset, .unset] [(.int (112 : Int32)), (.int (0 : Int32)), (.ref b18), (.ref b18)])) rfl rfl (hb hby at_70)
      have V_b18 : Arv Z h19 b18 k18 .char (11 : Int32) [(.int (112 : Int32)), (.int (0 : Int32)), (.int (0 : Int32)), (.int (0 : Int32)), (.int (0 : Int32)), (.int (0 : Int32)), (.int (0 : Int32)), (.int (0 : Int32)), (.int (0 : Int32)), (.int (0 : Int32)), (.int (0 : Int32))] (.int (0 : Int32)) := Arv.set Ar19 q19 sz19 nz19 hH19 hG19 rfl W19 0 rfl (Nat.le_of_ble_eq_true rfl)
      have N19 := Fr.snoc X19 N0 g_b18
      have ZH := Nat.le_trans ZH (Nat.le_of_eq W19.size.symm)
      have KK := KK.wr W19 (Or.inr sz_b18)
      have OO := OO.wr W19 g_b18
      refine own_up st19 ?_
      show own_Go p.tables e below _ (T19.setTop (mkF m 71 #[.val (.int p0), .val (.int ((p0 &&& (2147483647 : Int32)) % (3 : Int32))), .val (.ref cP), .unset, .unset, .unset] [(.ref b18)]))
      refine own_up (fun _ k => XS.dup X19.here hx rfl (hb hby at_71) rfl rfl k) ?_
      show own_Go p.tables e below _ (T19.setTop (mkF m 72 #[.val (.int p0), .val (.int ((p0 &&& (2147483647 : Int32)) % (3 : Int32))), .val (.ref cP), .unset, .unset, .unset] [(.ref b18), (.ref b18)]))
      refine own_up (fun _ k => XS.iconst X19.here hx rfl (hb hby at_72) k) ?_
      show own_Go p.tables e below _ (T19.setTop (mkF m 73 #[.val (.int p0), .val (.int ((p0 &&& (2147483647 : Int32)) % (3 : Int32))), .val (.ref cP), .unset, .unset, .unset] [(.int (1 : Int32)), (.ref b18), (.ref b18)]))
      refine own_up (fun _ k => XS.bipush X19.here hx rfl (hb hby at_73) k) ?_
      show own_Go p.tables e below _ (T19.setTop (mkF m 75 #[.val (.int p0), .val (.int ((p0 &&& (2147483647 : Int32)) % (3 : Int32))), .val (.ref cP), .unset, .unset, .unset] [(.int (101 : Int32)), (.int (1 : Int32)), (.ref b18), (.ref b18)]))
      obtain ⟨cl20, Ar20, q20, sz20, nz20, hH20, hG20⟩ := V_b18
      obtain ⟨T20, h20, X20, e20, W20, st20⟩ := stC X19 hx hZ e19 Ar20 (j := (1 : Int32)) (inb_of sz20 ⟨by decide, by decide⟩) (g := (mkF m 75 #[.val (.int p0), .val (.int ((p0 &&& (2147483647 : Int32)) % (3 : Int32))), .val (.ref cP), .unset, .unset, .unset] [(.int (101 : Int32)), (.int (1 : Int32)), (.ref b18), (.ref b18)])) rfl rfl (hb hby at_75)
      have V_b18 : Arv Z h20 b18 k18 .char (11 : Int32) [(.int (112 : Int32)), (.int (101 : Int32)), (.int (0 : Int32)), (.int (0 : Int32)), (.int (0 : Int32)), (.int (0 : Int32)), (.int (0 : Int32)), (.int (0 : Int32)), (.int (0 : Int32)), (.int (0 : Int32)), (.int (0 : Int32))] (.int (0 : Int32)) := Arv.set Ar20 q20 sz20 nz20 hH20 hG20 rfl W20 1 rfl (Nat.le_of_ble_eq_true rfl)
      have N20 := Fr.snoc X20 N19 g_b18
      have ZH := Nat.le_trans ZH (Nat.le_of_eq W20.size.symm)
      have KK := KK.wr W20 (Or.inr sz_b18)
      have OO := OO.wr W20 g_b18
      refine own_up st20 ?_
      show own_Go p.tables e below _ (T20.setTop (mkF m 76 #[.val (.int p0), .val (.int ((p0 &&& (2147483647 : Int32)) % (3 : Int32))), .val (.ref cP), .unset, .unset, .unset] [(.ref b18)]))
      refine own_up (fun _ k => XS.dup X20.here hx rfl (hb hby at_76) rfl rfl k) ?_
      show own_Go p.tables e below _ (T20.setTop (mkF m 77 #[.val (.int p0), .val (.int ((p0 &&& (2147483647 : Int32)) % (3 : Int32))), .val (.ref cP), .unset, .unset, .unset] [(.ref b18), (.ref b18)]))
      refine own_up (fun _ k => XS.iconst X20.here hx rfl (hb hby at_77) k) ?_
      show own_Go p.tables e below _ (T20.setTop (mkF m 78 #[.val (.int p0), .val (.int ((p0 &&& (2147483647 : Int32)) % (3 : Int32))), .val (.ref cP), .unset, .unset, .unset] [(.int (2 : Int32)), (.ref b18), (.ref b18)]))
      refine own_up (fun _ k => XS.bipush X20.here hx rfl (hb hby at_78) k) ?_
      show own_Go p.tables e below _ (T20.setTop (mkF m 80 #[.val (.int p0), .val (.int ((p0 &&& (2147483647 : Int32)) % (3 : Int32))), .val (.ref cP), .unset, .unset, .unset] [(.int (114 : Int32)), (.int (2 : Int32)), (.ref b18), (.ref b18)]))
      obtain ⟨cl21, Ar21, q21, sz21, nz21, hH21, hG21⟩ := V_b18
      obtain ⟨T21, h21, X21, e21, W21, st21⟩ := stC X20 hx hZ e20 Ar21 (j := (2 : Int32)) (inb_of sz21 ⟨by decide, by decide⟩) (g := (mkF m 80 #[.val (.int p0), .val (.int ((p0 &&& (2147483647 : Int32)) % (3 : Int32))), .val (.ref cP), .unset, .unset, .unset] [(.int (114 : Int32)), (.int (2 : Int32)), (.ref b18), (.ref b18)])) rfl rfl (hb hby at_80)
      have V_b18 : Arv Z h21 b18 k18 .char (11 : Int32) [(.int (112 : Int32)), (.int (101 : Int32)), (.int (114 : Int32)), (.int (0 : Int32)), (.int (0 : Int32)), (.int (0 : Int32)), (.int (0 : Int32)), (.int (0 : Int32)), (.int (0 : Int32)), (.int (0 : Int32)), (.int (0 : Int32))] (.int (0 : Int32)) := Arv.set Ar21 q21 sz21 nz21 hH21 hG21 rfl W21 2 rfl (Nat.le_of_ble_eq_true rfl)
      have N21 := Fr.snoc X21 N20 g_b18
      have ZH := Nat.le_trans ZH (Nat.le_of_eq W21.size.symm)
      have KK := KK.wr W21 (Or.inr sz_b18)
      have OO := OO.wr W21 g_b18
      refine own_up st21 ?_
      show own_Go p.tables e below _ (T21.setTop (mkF m 81 #[.val (.int p0), .val (.int ((p0 &&& (2147483647 : Int32)) % (3 : Int32))), .val (.ref cP), .unset, .unset, .unset] [(.ref b18)]))
      refine own_up (fun _ k => XS.dup X21.here hx rfl (hb hby at_81) rfl rfl k) ?_
      show own_Go p.tables e below _ (T21.setTop (mkF m 82 #[.val (.int p0), .val (.int ((p0 &&& (2147483647 : Int32)) % (3 : Int32))), .val (.ref cP), .unset, .unset, .unset] [(.ref b18), (.ref b18)]))
      refine own_up (fun _ k => XS.iconst X21.here hx rfl (hb hby at_82) k) ?_
      show own_Go p.tables e below _ (T21.setTop (mkF m 83 #[.val (.int p0), .val (.int ((p0 &&& (2147483647 : Int32)) % (3 : Int32))), .val (.ref cP), .unset, .unset, .unset] [(.int (3 : Int32)), (.ref b18), (.ref b18)]))
      refine own_up (fun _ k => XS.bipush X21.here hx rfl (hb hby at_83) k) ?_
      show own_Go p.tables e below _ (T21.setTop (mkF m 85 #[.val (.int p0), .val (.int ((p0 &&& (2147483647 : Int32)) % (3 : Int32))), .val (.ref cP), .unset, .unset, .unset] [(.int (45 : Int32)), (.int (3 : Int32)), (.ref b18), (.ref b18)]))
      obtain ⟨cl22, Ar22, q22, sz22, nz22, hH22, hG22⟩ := V_b18
      obtain ⟨T22, h22, X22, e22, W22, st22⟩ := stC X21 hx hZ e21 Ar22 (j := (3 : Int32)) (inb_of sz22 ⟨by decide, by decide⟩) (g := (mkF m 85 #[.val (.int p0), .val (.int ((p0 &&& (2147483647 : Int32)) % (3 : Int32))), .val (.ref cP), .unset, .unset, .unset] [(.int (45 : Int32)), (.int (3 : Int32)), (.ref b18), (.ref b18)])) rfl rfl (hb hby at_85)
      have V_b18 : Arv Z h22 b18 k18 .char (11 : Int32) [(.int (112 : Int32)), (.int (101 : Int32)), (.int (114 : Int32)), (.int (45 : Int32)), (.int (0 : Int32)), (.int (0 : Int32)), (.int (0 : Int32)), (.int (0 : Int32)), (.int (0 : Int32)), (.int (0 : Int32)), (.int (0 : Int32))] (.int (0 : Int32)) := Arv.set Ar22 q22 sz22 nz22 hH22 hG22 rfl W22 3 rfl (Nat.le_of_ble_eq_true rfl)
      have N22 := Fr.snoc X22 N21 g_b18
      have ZH := Nat.le_trans ZH (Nat.le_of_eq W22.size.symm)
      have KK := KK.wr W22 (Or.inr sz_b18)
      have OO := OO.wr W22 g_b18
      refine own_up st22 ?_
      show own_Go p.tables e below _ (T22.setTop (mkF m 86 #[.val (.int p0), .val (.int ((p0 &&& (2147483647 : Int32)) % (3 : Int32))), .val (.ref cP), .unset, .unset, .unset] [(.ref b18)]))
      refine own_up (fun _ k => XS.dup X22.here hx rfl (hb hby at_86) rfl rfl k) ?_
      show own_Go p.tables e below _ (T22.setTop (mkF m 87 #[.val (.int p0), .val (.int ((p0 &&& (2147483647 : Int32)) % (3 : Int32))), .val (.ref cP), .unset, .unset, .unset] [(.ref b18), (.ref b18)]))
      refine own_up (fun _ k => XS.iconst X22.here hx rfl (hb hby at_87) k) ?_
      show own_Go p.tables e below _ (T22.setTop (mkF m 88 #[.val (.int p0), .val (.int ((p0 &&& (2147483647 : Int32)) % (3 : Int32))), .val (.ref cP), .unset, .unset, .unset] [(.int (4 : Int32)), (.ref b18), (.ref b18)]))
      refine own_up (fun _ k => XS.bipush X22.here hx rfl (hb hby at_88) k) ?_
      show own_Go p.tables e below _ (T22.setTop (mkF m 90 #[.val (.int p0), .val (.int ((p0 &&& (2147483647 : Int32)) % (3 : Int32))), .val (.ref cP), .unset, .unset, .unset] [(.int (114 : Int32)), (.int (4 : Int32)), (.ref b18), (.ref b18)]))
      obtain ⟨cl23, Ar23, q23, sz23, nz23, hH23, hG23⟩ := V_b18
      obtain ⟨T23, h23, X23, e23, W23, st23⟩ := stC X22 hx hZ e22 Ar23 (j := (4 : Int32)) (inb_of sz23 ⟨by decide, by decide⟩) (g := (mkF m 90 #[.val (.int p0), .val (.int ((p0 &&& (2147483647 : Int32)) % (3 : Int32))), .val (.ref cP), .unset, .unset, .unset] [(.int (114 : Int32)), (.int (4 : Int32)), (.ref b18), (.ref b18)])) rfl rfl (hb hby at_90)
      have V_b18 : Arv Z h23 b18 k18 .char (11 : Int32) [(.int (112 : Int32)), (.int (101 : Int32)), (.int (114 : Int32)), (.int (45 : Int32)), (.int (114 : Int32)), (.int (0 : Int32)), (.int (0 : Int32)), (.int (0 : Int32)), (.int (0 : Int32)), (.int (0 : Int32)), (.int (0 : Int32))] (.int (0 : Int32)) := Arv.set Ar23 q23 sz23 nz23 hH23 hG23 rfl W23 4 rfl (Nat.le_of_ble_eq_true rfl)
      have N23 := Fr.snoc X23 N22 g_b18
      have ZH := Nat.le_trans ZH (Nat.le_of_eq W23.size.symm)
      have KK := KK.wr W23 (Or.inr sz_b18)
      have OO := OO.wr W23 g_b18
      refine own_up st23 ?_
      show own_Go p.tables e below _ (T23.setTop (mkF m 91 #[.val (.int p0), .val (.int ((p0 &&& (2147483647 : Int32)) % (3 : Int32))), .val (.ref cP), .unset, .unset, .unset] [(.ref b18)]))
      refine own_up (fun _ k => XS.dup X23.here hx rfl (hb hby at_91) rfl rfl k) ?_
      show own_Go p.tables e below _ (T23.setTop (mkF m 92 #[.val (.int p0), .val (.int ((p0 &&& (2147483647 : Int32)) % (3 : Int32))), .val (.ref cP), .unset, .unset, .unset] [(.ref b18), (.ref b18)]))
      refine own_up (fun _ k => XS.iconst X23.here hx rfl (hb hby at_92) k) ?_
      show own_Go p.tables e below _ (T23.setTop (mkF m 93 #[.val (.int p0), .val (.int ((p0 &&& (2147483647 : Int32)) % (3 : Int32))), .val (.ref cP), .unset, .unset, .unset] [(.int (5 : Int32)), (.ref b18), (.ref b18)]))
      refine own_up (fun _ k => XS.bipush X23.here hx rfl (hb hby at_93) k) ?_
      show own_Go p.tables e below _ (T23.setTop (mkF m 95 #[.val (.int p0), .val (.int ((p0 &&& (2147483647 : Int32)) % (3 : Int32))), .val (.ref cP), .unset, .unset, .unset] [(.int (101 : Int32)), (.int (5 : Int32)), (.ref b18), (.ref b18)]))
      obtain ⟨cl24, Ar24, q24, sz24, nz24, hH24, hG24⟩ := V_b18
      obtain ⟨T24, h24, X24, e24, W24, st24⟩ := stC X23 hx hZ e23 Ar24 (j := (5 : Int32)) (inb_of sz24 ⟨by decide, by decide⟩) (g := (mkF m 95 #[.val (.int p0), .val (.int ((p0 &&& (2147483647 : Int32)) % (3 : Int32))), .val (.ref cP), .unset, .unset, .unset] [(.int (101 : Int32)), (.int (5 : Int32)), (.ref b18), (.ref b18)])) rfl rfl (hb hby at_95)
      have V_b18 : Arv Z h24 b18 k18 .char (11 : Int32) [(.int (112 : Int32)), (.int (101 : Int32)), (.int (114 : Int32)), (.int (45 : Int32)), (.int (114 : Int32)), (.int (101 : Int32)), (.int (0 : Int32)), (.int (0 : Int32)), (.int (0 : Int32)), (.int (0 : Int32)), (.int (0 : Int32))] (.int (0 : Int32)) := Arv.set Ar24 q24 sz24 nz24 hH24 hG24 rfl W24 5 rfl (Nat.le_of_ble_eq_true rfl)
      have N24 := Fr.snoc X24 N23 g_b18
      have ZH := Nat.le_trans ZH (Nat.le_of_eq W24.size.symm)
      have KK := KK.wr W24 (Or.inr sz_b18)
      have OO := OO.wr W24 g_b18
      refine own_up st24 ?_
      show own_Go p.tables e below _ (T24.setTop (mkF m 96 #[.val (.int p0), .val (.int ((p0 &&& (2147483647 : Int32)) % (3 : Int32))), .val (.ref cP), .unset, .unset, .unset] [(.ref b18)]))
      refine own_up (fun _ k => XS.dup X24.here hx rfl (hb hby at_96) rfl rfl k) ?_
      show own_Go p.tables e below _ (T24.setTop (mkF m 97 #[.val (.int p0), .val (.int ((p0 &&& (2147483647 : Int32)) % (3 : Int32))), .val (.ref cP), .unset, .unset, .unset] [(.ref b18), (.ref b18)]))
      refine own_up (fun _ k => XS.bipush X24.here hx rfl (hb hby at_97) k) ?_
      show own_Go p.tables e below _ (T24.setTop (mkF m 99 #[.val (.int p0), .val (.int ((p0 &&& (2147483647 : Int32)) % (3 : Int32))), .val (.ref cP), .unset, .unset, .unset] [(.int (6 : Int32)), (.ref b18), (.ref b18)]))
      refine own_up (fun _ k => XS.bipush X24.here hx rfl (hb hby at_99) k) ?_
      show own_Go p.tables e below _ (T24.setTop (mkF m 101 #[.val (.int p0), .val (.int ((p0 &&& (2147483647 : Int32)) % (3 : Int32))), .val (.ref cP), .unset, .unset, .unset] [(.int (113 : Int32)), (.int (6 : Int32)), (.ref b18), (.ref b18)]))
      obtain ⟨cl25, Ar25, q25, sz25, nz25, hH25, hG25⟩ := V_b18
      obtain ⟨T25, h25, X25, e25, W25, st25⟩ := stC X24 hx hZ e24 Ar25 (j := (6 : Int32)) (inb_of sz25 ⟨by decide, by decide⟩) (g := (mkF m 101 #[.val (.int p0), .val (.int ((p0 &&& (2147483647 : Int32)) % (3 : Int32))), .val (.ref cP), .unset, .unset, .unset] [(.int (113 : Int32)), (.int (6 : Int32)), (.ref b18), (.ref b18)])) rfl rfl (hb hby at_101)
      have V_b18 : Arv Z h25 b18 k18 .char (11 : Int32) [(.int (112 : Int32)), (.int (101 : Int32)), (.int (114 : Int32)), (.int (45 : Int32)), (.int (114 : Int32)), (.int (101 : Int32)), (.int (113 : Int32)), (.int (0 : Int32)), (.int (0 : Int32)), (.int (0 : Int32)), (.int (0 : Int32))] (.int (0 : Int32)) := Arv.set Ar25 q25 sz25 nz25 hH25 hG25 rfl W25 6 rfl (Nat.le_of_ble_eq_true rfl)
      have N25 := Fr.snoc X25 N24 g_b18
      have ZH := Nat.le_trans ZH (Nat.le_of_eq W25.size.symm)
      have KK := KK.wr W25 (Or.inr sz_b18)
      have OO := OO.wr W25 g_b18
      refine own_up st25 ?_
      show own_Go p.tables e below _ (T25.setTop (mkF m 102 #[.val (.int p0), .val (.int ((p0 &&& (2147483647 : Int32)) % (3 : Int32))), .val (.ref cP), .unset, .unset, .unset] [(.ref b18)]))
      refine own_up (fun _ k => XS.dup X25.here hx rfl (hb hby at_102) rfl rfl k) ?_
      show own_Go p.tables e below _ (T25.setTop (mkF m 103 #[.val (.int p0), .val (.int ((p0 &&& (2147483647 : Int32)) % (3 : Int32))), .val (.ref cP), .unset, .unset, .unset] [(.ref b18), (.ref b18)]))
      refine own_up (fun _ k => XS.bipush X25.here hx rfl (hb hby at_103) k) ?_
      show own_Go p.tables e below _ (T25.setTop (mkF m 105 #[.val (.int p0), .val (.int ((p0 &&& (2147483647 : Int32)) % (3 : Int32))), .val (.ref cP), .unset, .unset, .unset] [(.int (7 : Int32)), (.ref b18), (.ref b18)]))
      refine own_up (fun _ k => XS.bipush X25.here hx rfl (hb hby at_105) k) ?_
      show own_Go p.tables e below _ (T25.setTop (mkF m 107 #[.val (.int p0), .val (.int ((p0 &&& (2147483647 : Int32)) % (3 : Int32))), .val (.ref cP), .unset, .unset, .unset] [(.int (117 : Int32)), (.int (7 : Int32)), (.ref b18), (.ref b18)]))
      obtain ⟨cl26, Ar26, q26, sz26, nz26, hH26, hG26⟩ := V_b18
      obtain ⟨T26, h26, X26, e26, W26, st26⟩ := stC X25 hx hZ e25 Ar26 (j := (7 : Int32)) (inb_of sz26 ⟨by decide, by decide⟩) (g := (mkF m 107 #[.val (.int p0), .val (.int ((p0 &&& (2147483647 : Int32)) % (3 : Int32))), .val (.ref cP), .unset, .unset, .unset] [(.int (117 : Int32)), (.int (7 : Int32)), (.ref b18), (.ref b18)])) rfl rfl (hb hby at_107)
      have V_b18 : Arv Z h26 b18 k18 .char (11 : Int32) [(.int (112 : Int32)), (.int (101 : Int32)), (.int (114 : Int32)), (.int (45 : Int32)), (.int (114 : Int32)), (.int (101 : Int32)), (.int (113 : Int32)), (.int (117 : Int32)), (.int (0 : Int32)), (.int (0 : Int32)), (.int (0 : Int32))] (.int (0 : Int32)) := Arv.set Ar26 q26 sz26 nz26 hH26 hG26 rfl W26 7 rfl (Nat.le_of_ble_eq_true rfl)
      have N26 := Fr.snoc X26 N25 g_b18
      have ZH := Nat.le_trans ZH (Nat.le_of_eq W26.size.symm)
      have KK := KK.wr W26 (Or.inr sz_b18)
      have OO := OO.wr W26 g_b18
      refine own_up st26 ?_
      show own_Go p.tables e below _ (T26.setTop (mkF m 108 #[.val (.int p0), .val (.int ((p0 &&& (2147483647 : Int32)) % (3 : Int32))), .val (.ref cP), .unset, .unset, .unset] [(.ref b18)]))
      refine own_up (fun _ k => XS.dup X26.here hx rfl (hb hby at_108) rfl rfl k) ?_
      show own_Go p.tables e below _ (T26.setTop (mkF m 109 #[.val (.int p0), .val (.int ((p0 &&& (2147483647 : Int32)) % (3 : Int32))), .val (.ref cP), .unset, .unset, .unset] [(.ref b18), (.ref b18)]))
      refine own_up (fun _ k => XS.bipush X26.here hx rfl (hb hby at_109) k) ?_
      show own_Go p.tables e below _ (T26.setTop (mkF m 111 #[.val (.int p0), .val (.int ((p0 &&& (2147483647 : Int32)) % (3 : Int32))), .val (.ref cP), .unset, .unset, .unset] [(.int (8 : Int32)), (.ref b18), (.ref b18)]))
      refine own_up (fun _ k => XS.bipush X26.here hx rfl (hb hby at_111) k) ?_
      show own_Go p.tables e below _ (T26.setTop (mkF m 113 #[.val (.int p0), .val (.int ((p0 &&& (2147483647 : Int32)) % (3 : Int32))), .val (.ref cP), .unset, .unset, .unset] [(.int (101 : Int32)), (.int (8 : Int32)), (.ref b18), (.ref b18)]))
      obtain ⟨cl27, Ar27, q27, sz27, nz27, hH27, hG27⟩ := V_b18
      obtain ⟨T27, h27, X27, e27, W27, st27⟩ := stC X26 hx hZ e26 Ar27 (j := (8 : Int32)) (inb_of sz27 ⟨by decide, by decide⟩) (g := (mkF m 113 #[.val (.int p0), .val (.int ((p0 &&& (2147483647 : Int32)) % (3 : Int32))), .val (.ref cP), .unset, .unset, .unset] [(.int (101 : Int32)), (.int (8 : Int32)), (.ref b18), (.ref b18)])) rfl rfl (hb hby at_113)
      have V_b18 : Arv Z h27 b18 k18 .char (11 : Int32) [(.int (112 : Int32)), (.int (101 : Int32)), (.int (114 : Int32)), (.int (45 : Int32)), (.int (114 : Int32)), (.int (101 : Int32)), (.int (113 : Int32)), (.int (117 : Int32)), (.int (101 : Int32)), (.int (0 : Int32)), (.int (0 : Int32))] (.int (0 : Int32)) := Arv.set Ar27 q27 sz27 nz27 hH27 hG27 rfl W27 8 rfl (Nat.le_of_ble_eq_true rfl)
      have N27 := Fr.snoc X27 N26 g_b18
      have ZH := Nat.le_trans ZH (Nat.le_of_eq W27.size.symm)
      have KK := KK.wr W27 (Or.inr sz_b18)
      have OO := OO.wr W27 g_b18
      refine own_up st27 ?_
      show own_Go p.tables e below _ (T27.setTop (mkF m 114 #[.val (.int p0), .val (.int ((p0 &&& (2147483647 : Int32)) % (3 : Int32))), .val (.ref cP), .unset, .unset, .unset] [(.ref b18)]))
      refine own_up (fun _ k => XS.dup X27.here hx rfl (hb hby at_114) rfl rfl k) ?_
      show own_Go p.tables e below _ (T27.setTop (mkF m 115 #[.val (.int p0), .val (.int ((p0 &&& (2147483647 : Int32)) % (3 : Int32))), .val (.ref cP), .unset, .unset, .unset] [(.ref b18), (.ref b18)]))
      refine own_up (fun _ k => XS.bipush X27.here hx rfl (hb hby at_115) k) ?_
      show own_Go p.tables e below _ (T27.setTop (mkF m 117 #[.val (.int p0), .val (.int ((p0 &&& (2147483647 : Int32)) % (3 : Int32))), .val (.ref cP), .unset, .unset, .unset] [(.int (9 : Int32)), (.ref b18), (.ref b18)]))
      refine own_up (fun _ k => XS.bipush X27.here hx rfl (hb hby at_117) k) ?_
      show own_Go p.tables e below _ (T27.setTop (mkF m 119 #[.val (.int p0), .val (.int ((p0 &&& (2147483647 : Int32)) % (3 : Int32))), .val (.ref cP), .unset, .unset, .unset] [(.int (115 : Int32)), (.int (9 : Int32)), (.ref b18), (.ref b18)]))
      obtain ⟨cl28, Ar28, q28, sz28, nz28, hH28, hG28⟩ := V_b18
      obtain ⟨T28, h28, X28, e28, W28, st28⟩ := stC X27 hx hZ e27 Ar28 (j := (9 : Int32)) (inb_of sz28 ⟨by decide, by decide⟩) (g := (mkF m 119 #[.val (.int p0), .val (.int ((p0 &&& (2147483647 : Int32)) % (3 : Int32))), .val (.ref cP), .unset, .unset, .unset] [(.int (115 : Int32)), (.int (9 : Int32)), (.ref b18), (.ref b18)])) rfl rfl (hb hby at_119)
      have V_b18 : Arv Z h28 b18 k18 .char (11 : Int32) [(.int (112 : Int32)), (.int (101 : Int32)), (.int (114 : Int32)), (.int (45 : Int32)), (.int (114 : Int32)), (.int (101 : Int32)), (.int (113 : Int32)), (.int (117 : Int32)), (.int (101 : Int32)), (.int (115 : Int32)), (.int (0 : Int32))] (.int (0 : Int32)) := Arv.set Ar28 q28 sz28 nz28 hH28 hG28 rfl W28 9 rfl (Nat.le_of_ble_eq_true rfl)
      have N28 := Fr.snoc X28 N27 g_b18
      have ZH := Nat.le_trans ZH (Nat.le_of_eq W28.size.symm)
      have KK := KK.wr W28 (Or.inr sz_b18)
      have OO := OO.wr W28 g_b18
      refine own_up st28 ?_
      show own_Go p.tables e below _ (T28.setTop (mkF m 120 #[.val (.int p0), .val (.int ((p0 &&& (2147483647 : Int32)) % (3 : Int32))), .val (.ref cP), .unset, .unset, .unset] [(.ref b18)]))
      refine own_up (fun _ k => XS.dup X28.here hx rfl (hb hby at_120) rfl rfl k) ?_
      show own_Go p.tables e below _ (T28.setTop (mkF m 121 #[.val (.int p0), .val (.int ((p0 &&& (2147483647 : Int32)) % (3 : Int32))), .val (.ref cP), .unset, .unset, .unset] [(.ref b18), (.ref b18)]))
      refine own_up (fun _ k => XS.bipush X28.here hx rfl (hb hby at_121) k) ?_
      show own_Go p.tables e below _ (T28.setTop (mkF m 123 #[.val (.int p0), .val (.int ((p0 &&& (2147483647 : Int32)) % (3 : Int32))), .val (.ref cP), .unset, .unset, .unset] [(.int (10 : Int32)), (.ref b18), (.ref b18)]))
      refine own_up (fun _ k => XS.bipush X28.here hx rfl (hb hby at_123) k) ?_
      show own_Go p.tables e below _ (T28.setTop (mkF m 125 #[.val (.int p0), .val (.int ((p0 &&& (2147483647 : Int32)) % (3 : Int32))), .val (.ref cP), .unset, .unset, .unset] [(.int (116 : Int32)), (.int (10 : Int32)), (.ref b18), (.ref b18)]))
      obtain ⟨cl29, Ar29, q29, sz29, nz29, hH29, hG29⟩ := V_b18
      obtain ⟨T29, h29, X29, e29, W29, st29⟩ := stC X28 hx hZ e28 Ar29 (j := (10 : Int32)) (inb_of sz29 ⟨by decide, by decide⟩) (g := (mkF m 125 #[.val (.int p0), .val (.int ((p0 &&& (2147483647 : Int32)) % (3 : Int32))), .val (.ref cP), .unset, .unset, .unset] [(.int (116 : Int32)), (.int (10 : Int32)), (.ref b18), (.ref b18)])) rfl rfl (hb hby at_125)
      have V_b18 : Arv Z h29 b18 k18 .char (11 : Int32) [(.int (112 : Int32)), (.int (101 : Int32)), (.int (114 : Int32)), (.int (45 : Int32)), (.int (114 : Int32)), (.int (101 : Int32)), (.int (113 : Int32)), (.int (117 : Int32)), (.int (101 : Int32)), (.int (115 : Int32)), (.int (116 : Int32))] (.int (0 : Int32)) := Arv.set Ar29 q29 sz29 nz29 hH29 hG29 rfl W29 10 rfl (Nat.le_of_ble_eq_true rfl)
      have N29 := Fr.snoc X29 N28 g_b18
      have ZH := Nat.le_trans ZH (Nat.le_of_eq W29.size.symm)
      have KK := KK.wr W29 (Or.inr sz_b18)
      have OO := OO.wr W29 g_b18
      refine own_up st29 ?_
      show own_Go p.tables e below _ (T29.setTop (mkF m 126 #[.val (.int p0), .val (.int ((p0 &&& (2147483647 : Int32)) % (3 : Int32))), .val (.ref cP), .unset, .unset, .unset] [(.ref b18)]))
      refine own_up (fun _ k => XS.astoreN X29.here hx rfl (hb hby at_126) rfl rfl (l' := #[.val (.int p0), .val (.int ((p0 &&& (2147483647 : Int32)) % (3 : Int32))), .val (.ref cP), .val (.ref b18), .unset, .unset]) rfl k) ?_
      show own_Go p.tables e below _ (T29.setTop (mkF m 127 #[.val (.int p0), .val (.int ((p0 &&& (2147483647 : Int32)) % (3 : Int32))), .val (.ref cP), .val (.ref b18), .unset, .unset] []))
      refine own_up (fun _ k => XS.goto X29.here hx rfl (pc0 := 127) (pc' := 229) rfl (hb hby at_127) (by decide) (by decide) k) ?_
      show own_Go p.tables e below _ (T29.setTop (mkF m 229 #[.val (.int p0), .val (.int ((p0 &&& (2147483647 : Int32)) % (3 : Int32))), .val (.ref cP), .val (.ref b18), .unset, .unset] []))
      obtain ⟨T30, h30, X30, e30, E30, A30, D30, -, st30⟩ := newO X29 hx hZ hown (hw _ (List.mem_of_getElem? (i := 5) rfl)) (hw _ (List.mem_of_getElem? (i := 6) rfl)) (hw _ (List.mem_of_getElem? (i := 7) rfl)) e29 (g := (mkF m 229 #[.val (.int p0), .val (.int ((p0 &&& (2147483647 : Int32)) % (3 : Int32))), .val (.ref cP), .val (.ref b18), .unset, .unset] [])) rfl (hb hby at_229) (by decide) (by decide)
      obtain ⟨b30, gz30⟩ : ∃ z, z = h29.size := ⟨_, rfl⟩
      rw [← gz30] at A30 D30 st30
      have ne_b18_b30 : b18 ≠ b30 := Nat.ne_of_lt (Nat.lt_of_lt_of_le V_b18.lt (Nat.le_of_eq gz30.symm))
      have g_b30 : n0 ≤ b30 := Nat.le_trans ZH (Nat.le_of_eq gz30.symm)
      have sz_b30 : h0.size ≤ b30 := Nat.le_trans KK.1 (Nat.le_of_eq gz30.symm)
      have V_b18 := V_b18.ext E30
      have ZH := Nat.le_trans ZH E30.1
      have KK := KK.ext E30
      have OO := OO.ext E30
      have E_b30 := A30
      have F_coder_b30 : Fld Z h30 b30 "java/lang/String" "coder" "B" (.int (0 : Int32)) := D30 (Or.inr (hw _ (List.mem_of_getElem? (i := 31) rfl))) (ty := .byte) (by decide)
      have F_value_b30 : Fld Z h30 b30 "java/lang/String" "value" "[B" .null := D30 (Or.inr (hw _ (List.mem_of_getElem? (i := 33) rfl))) (ty := (.array .byte)) (by decide)
      refine own_up st30 ?_
      show own_Go p.tables e below _ (T30.setTop (mkF m 232 #[.val (.int p0), .val (.int ((p0 &&& (2147483647 : Int32)) % (3 : Int32))), .val (.ref cP), .val (.ref b18), .unset, .unset] [(.ref b30)]))
      refine own_up (fun _ k => XS.dup X30.here hx rfl (hb hby at_232) rfl rfl k) ?_
      show own_Go p.tables e below _ (T30.setTop (mkF m 233 #[.val (.int p0), .val (.int ((p0 &&& (2147483647 : Int32)) % (3 : Int32))), .val (.ref cP), .val (.ref b18), .unset, .unset] [(.ref b30), (.ref b30)]))
      refine own_up (fun _ k => XS.aloadN X30.here hx rfl (hb hby at_233) rfl rfl k) ?_
      show own_Go p.tables e below _ (T30.setTop (mkF m 234 #[.val (.int p0), .val (.int ((p0 &&& (2147483647 : Int32)) % (3 : Int32))), .val (.ref cP), .val (.ref b18), .unset, .unset] [(.ref b18), (.ref b30), (.ref b30)]))
      obtain ⟨_, _, ⟨T31, L31, k31, n31⟩, -, X31, ⟨Lc31, hQ31, l31, y31, z31⟩, st31⟩ := X30.specialBack hx (y := (⟨"java/lang/String", "<init>", "([C)V"⟩ : MethodName)) rfl hown (mvT hZ (hw _ (List.mem_of_getElem? (i := 8) rfl))) (mvT hZ (hw _ (List.mem_of_getElem? (i := 9) rfl))) (mvT hZ (hw _ (List.mem_of_getElem? (i := 10) rfl))) (by decide) (StrChars.Road.backV (W := 1) hZ hws (kI := 4) (hw _ (List.mem_of_getElem? (i := 6) rfl)) (cs := ([112, 101, 114, 45, 114, 101, 113, 117, 101, 115, 116] : List Int32)) (bs := ([112, 101, 114, 45, 114, 101, 113, 117, 101, 115, 116] : List Int32).map (fun c => c.toInt8.toInt32)) (n := 11) g_b30 ZH E_b30 F_value_b30 F_coder_b30 V_b18 (SC.ext OO.2) hcz rfl rfl (by decide) (by decide) own_hpP rfl (by decide) (by decide)) (g := (mkF m 234 #[.val (.int p0), .val (.int ((p0 &&& (2147483647 : Int32)) % (3 : Int32))), .val (.ref cP), .val (.ref b18), .unset, .unset] [(.ref b18), (.ref b30), (.ref b30)])) rfl (by rw [hml]; rfl) (Steps.refl _) (a := b30) (argsL := [(.ref b18)]) (rest := [(.ref b30)]) (lenOf pd_2 rfl) rfl (by show 2 * 0 + _ ≤ _; exact Nat.le_of_eq rfl) (hb hby at_234) (fun _ _ => ⟨rfl, e30, (by decide : 2 + 1 ≤ _), (by decide : 15 + 11 ≤ _)⟩)
      dsimp only [Pt.U, Pt.locs, Pt.cells, Pt.slots] at X31 l31 y31 z31 st31 hQ31
      subst l31 y31 z31
      obtain ⟨rfl, Nq31, K31, Eq31, C_b30, tb, kt, ub31, vb31, wb31, F_b30, V_tb⟩ := hQ31
      have N31 := Fr.app N29 Nq31
      have V_b18 := V_b18.keep K31 (ninS ne_b18_b30 nin0)
      have E_b30 := E_b30.keep K31
      have ZH := Nat.le_trans ZH K31.1
      have KK := KK.trans K31 (allS (Or.inr sz_b30) all0)
      have OO := OO.keep K31 (allS g_b30 all0)
      refine own_up (fun _ k => st31.trans k) ?_
      show own_Go p.tables e below _ (T31.setTop (mkF m 237 #[.val (.int p0), .val (.int ((p0 &&& (2147483647 : Int32)) % (3 : Int32))), .val (.ref cP), .val (.ref b18), .unset, .unset] [(.ref b30)]))
      refine own_up (fun _ k => XS.astore X31.here hx rfl (hb hby at_237) rfl rfl (l' := #[.val (.int p0), .val (.int ((p0 &&& (2147483647 : Int32)) % (3 : Int32))), .val (.ref cP), .val (.ref b18), .val (.ref b30), .unset]) rfl k) ?_
      show own_Go p.tables e below _ (T31.setTop (mkF m 239 #[.val (.int p0), .val (.int ((p0 &&& (2147483647 : Int32)) % (3 : Int32))), .val (.ref cP), .val (.ref b18), .val (.ref b30), .unset] []))
      refine own_up (fun _ k => XS.aload X31.here hx rfl (hb hby at_239) rfl rfl k) ?_
      show own_Go p.tables e below _ (T31.setTop (mkF m 241 #[.val (.int p0), .val (.int ((p0 &&& (2147483647 : Int32)) % (3 : Int32))), .val (.ref cP), .val (.ref b18), .val (.ref b30), .unset] [(.ref b30)]))
      obtain ⟨_, _, ⟨T32, L32, k32, n32⟩, -, X32, ⟨Lc32, hQ32, l32, y32, z32⟩, st32⟩ := Jvm.LawKit.callS X31 hx (y := (⟨"com/example/remora/remora/jpa/TransactionStrategy", "forLabel", "(Ljava/lang/String;)Lcom/example/remora/remora/jpa/TransactionStrategy;"⟩ : MethodName)) hown (mvT hZ (hw _ (List.mem_of_getElem? (i := 34) rfl))) (mvT hZ (hw _ (List.mem_of_getElem? (i := 35) rfl))) (mvT hZ (hw _ (List.mem_of_getElem? (i := 2) rfl))) (mvT hZ (hw _ (List.mem_of_getElem? (i := 36) rfl))) (by decide) (backOf (W := 0) (rmLP l Z a0 hw [] cz va kv cA lA bA kA cP lP bP kP cL lL bL kL b30 tb kt T31.heap n0 ZH OO HW0 E_b30 F_b30 C_b30 V_tb) hZ (hw _ (List.mem_of_getElem? (i := 36) rfl)) (hw _ (List.mem_of_getElem? (i := 2) rfl)) (by decide) (by decide)) (g := (mkF m 241 #[.val (.int p0), .val (.int ((p0 &&& (2147483647 : Int32)) % (3 : Int32))), .val (.ref cP), .val (.ref b18), .val (.ref b30), .unset] [(.ref b30)])) rfl (by rw [hml]; rfl) (argsL := [(.ref b30)]) (rest := []) (lenOf pd_3 rfl) rfl (by show 2 * 0 + _ ≤ _; exact Nat.le_of_eq rfl) (hb hby at_241) (fun _ _ => ⟨rfl, rfl, (by decide : 3 + 1 ≤ _), (by decide : 26 + 3 ≤ _)⟩)
      dsimp only [Pt.U, Pt.locs, Pt.cells, Pt.slots] at X32 l32 y32 z32 st32 hQ32
      subst l32 y32 z32
      obtain ⟨rfl, Nq32, K32⟩ := hQ32
      have N32 := Fr.app N31 Nq32
      have E_b30 := E_b30.keep K32
      have F_b30 := F_b30.keep K32 nin0
      have C_b30 := C_b30.keep K32 nin0
      have V_tb := V_tb.keep K32 nin0
      have ZH := Nat.le_trans ZH K32.1
      have KK := KK.trans K32 all0
      have OO := OO.keep K32 all0
      refine own_up st32 ?_
      show own_Go p.tables e below _ (T32.setTop (mkF m 244 #[.val (.int p0), .val (.int ((p0 &&& (2147483647 : Int32)) % (3 : Int32))), .val (.ref cP), .val (.ref b18), .val (.ref b30), .unset] [(.ref cP)]))
      refine own_up (fun _ k => XS.astore X32.here hx rfl (hb hby at_244) rfl rfl (l' := #[.val (.int p0), .val (.int ((p0 &&& (2147483647 : Int32)) % (3 : Int32))), .val (.ref cP), .val (.ref b18), .val (.ref b30), .val (.ref cP)]) rfl k) ?_
      show own_Go p.tables e below _ (T32.setTop (mkF m 246 #[.val (.int p0), .val (.int ((p0 &&& (2147483647 : Int32)) % (3 : Int32))), .val (.ref cP), .val (.ref b18), .val (.ref b30), .val (.ref cP)] []))
      refine own_up (fun _ k => XS.aload X32.here hx rfl (hb hby at_246) rfl rfl k) ?_
      show own_Go p.tables e below _ (T32.setTop (mkF m 248 #[.val (.int p0), .val (.int ((p0 &&& (2147483647 : Int32)) % (3 : Int32))), .val (.ref cP), .val (.ref b18), .val (.ref b30), .val (.ref cP)] [(.ref cP)]))
      refine own_up (fun _ k => XS.aloadN X32.here hx rfl (hb hby at_248) rfl rfl k) ?_
      show own_Go p.tables e below _ (T32.setTop (mkF m 249 #[.val (.int p0), .val (.int ((p0 &&& (2147483647 : Int32)) % (3 : Int32))), .val (.ref cP), .val (.ref b18), .val (.ref b30), .val (.ref cP)] [(.ref cP), (.ref cP)]))
      refine own_up (fun _ k => Jvm.RoadKit.acmp (g := (mkF m 249 #[.val (.int p0), .val (.int ((p0 &&& (2147483647 : Int32)) % (3 : Int32))), .val (.ref cP), .val (.ref b18), .val (.ref b30), .val (.ref cP)] [(.ref cP), (.ref cP)])) X32 hx rfl rfl rfl (pc0 := 249) (pc' := 252) (same := true) rfl (hb hby at_249) rfl (decide_eq_true (congrArg Value.ref rfl)) (by decide) (by decide) k) ?_
      show own_Go p.tables e below _ (T32.setTop (mkF m 252 #[.val (.int p0), .val (.int ((p0 &&& (2147483647 : Int32)) % (3 : Int32))), .val (.ref cP), .val (.ref b18), .val (.ref b30), .val (.ref cP)] []))
      refine own_up (fun _ k => XS.aload X32.here hx rfl (hb hby at_252) rfl rfl k) ?_
      show own_Go p.tables e below _ (T32.setTop (mkF m 254 #[.val (.int p0), .val (.int ((p0 &&& (2147483647 : Int32)) % (3 : Int32))), .val (.ref cP), .val (.ref b18), .val (.ref b30), .val (.ref cP)] [(.ref cP)]))
      obtain ⟨cq33, kq33, q33a, q33b, q33c⟩ := isOf hZ rfl (E_cP.ext OO.2)
      obtain ⟨_, _, ⟨T33, L33, k33, n33⟩, -, X33, ⟨Lc33, hQ33, l33, y33, z33⟩, st33⟩ := X32.virtualBack hx (y := (⟨"com/example/remora/remora/jpa/TransactionStrategy", "toString", "()Ljava/lang/String;"⟩ : MethodName)) (z := (⟨"com/example/remora/remora/jpa/TransactionStrategy", "toString", "()Ljava/lang/String;"⟩ : MethodName)) hown (mvT hZ (hw _ (List.mem_of_getElem? (i := 66) rfl))) (mvT hZ (hw _ (List.mem_of_getElem? (i := 67) rfl))) (notFace_of_selects (args := #[]) (mvT hZ (hw _ (List.mem_of_getElem? (i := 69) rfl)))) (mvT hZ (hw _ (List.mem_of_getElem? (i := 69) rfl))) (mvT hZ (hw _ (List.mem_of_getElem? (i := 68) rfl))) (by decide) (backOf (W := 0) (rmT l Z a0 hw [] cP lP T32.heap n0 ZH (FlP.ext OO.2)) hZ (hw _ (List.mem_of_getElem? (i := 70) rfl)) (hw _ (List.mem_of_getElem? (i := 2) rfl)) (by decide) (by decide)) q33a q33c (g := (mkF m 254 #[.val (.int p0), .val (.int ((p0 &&& (2147483647 : Int32)) % (3 : Int32))), .val (.ref cP), .val (.ref b18), .val (.ref b30), .val (.ref cP)] [(.ref cP)])) rfl (by rw [hml]; rfl) (Steps.refl _) (argsL := []) (rest := []) (lenOf pd_4 rfl) rfl (by show 2 * 0 + _ ≤ _; exact Nat.le_of_eq rfl) (hb hby at_254) (fun _ _ => ⟨rfl, rfl, (by decide : 4 + 0 ≤ _), (by decide : 29 + 0 ≤ _)⟩)
      dsimp only [Pt.U, Pt.locs, Pt.cells, Pt.slots] at X33 l33 y33 z33 st33 hQ33
      subst l33 y33 z33
      obtain ⟨rfl, Nq33, e33⟩ := hQ33
      have N33 := Fr.app N32 Nq33
      refine own_up (fun _ k => st33.trans k) ?_
      show own_Go p.tables e below _ (T33.setTop (mkF m 257 #[.val (.int p0), .val (.int ((p0 &&& (2147483647 : Int32)) % (3 : Int32))), .val (.ref cP), .val (.ref b18), .val (.ref b30), .val (.ref cP)] [(.ref lP)]))
      refine own_up (fun _ k => XS.aload X33.here hx rfl (hb hby at_257) rfl rfl k) ?_
      show own_Go p.tables e below _ (T33.setTop (mkF m 259 #[.val (.int p0), .val (.int ((p0 &&& (2147483647 : Int32)) % (3 : Int32))), .val (.ref cP), .val (.ref b18), .val (.ref b30), .val (.ref cP)] [(.ref b30), (.ref lP)]))
      obtain ⟨cq34, kq34, q34a, q34b, q34c⟩ := isOf hZ e33 (ElP.ext OO.2)
      obtain ⟨_, _, ⟨T34, L34, k34, n34⟩, -, X34, ⟨Lc34, hQ34, l34, y34, z34⟩, st34⟩ := X33.virtualBack hx (y := (⟨"java/lang/String", "equals", "(Ljava/lang/Object;)Z"⟩ : MethodName)) (z := (⟨"java/lang/String", "equals", "(Ljava/lang/Object;)Z"⟩ : MethodName)) hown (mvT hZ (hw _ (List.mem_of_getElem? (i := 71) rfl))) (mvT hZ (hw _ (List.mem_of_getElem? (i := 57) rfl))) (notFace_of_selects (args := #[]) (mvT hZ (hw _ (List.mem_of_getElem? (i := 59) rfl)))) (mvT hZ (hw _ (List.mem_of_getElem? (i := 59) rfl))) (mvT hZ (hw _ (List.mem_of_getElem? (i := 58) rfl))) (by decide) (StrChars.Road.eqW (W := 0) hZ heq (kI := 4) (hw _ (List.mem_of_getElem? (i := 6) rfl)) (ElP.ext OO.2) (VlP.ext OO.2) (ClP.ext OO.2) (KlP.ext OO.2) own_cdP (own_up16 _ own_hpP) (Nat.le_of_ble_eq_true rfl) E_b30 F_b30 C_b30 V_tb own_cdP (own_up16 _ own_hpP) (Nat.le_of_ble_eq_true rfl) (SC.ext OO.2) hcz (by decide) (by decide)) q34a q34c (g := (mkF m 259 #[.val (.int p0), .val (.int ((p0 &&& (2147483647 : Int32)) % (3 : Int32))), .val (.ref cP), .val (.ref b18), .val (.ref b30), .val (.ref cP)] [(.ref b30), (.ref lP)])) rfl (by rw [hml]; rfl) (Steps.refl _) (argsL := [(.ref b30)]) (rest := []) (lenOf pd_1 rfl) rfl (by show 2 * 0 + _ ≤ _; exact Nat.le_of_eq rfl) (hb hby at_259) (fun _ _ => ⟨rfl, e33, (by decide : 4 + 0 ≤ _), (by decide : 29 + 0 ≤ _)⟩)
      dsimp only [Pt.U, Pt.locs, Pt.cells, Pt.slots] at X34 l34 y34 z34 st34 hQ34
      subst l34 y34 z34
      obtain ⟨hcase34, rfl, e34⟩ := hQ34
      have hv34 : _ = some (Value.int 1) := hcase34.elim (fun q => q.1) (fun q => absurd rfl q.2)
      subst hv34
      have N34 := Fr.app N33 (Fr.nil n0)
      refine own_up (fun _ k => st34.trans k) ?_
      show own_Go p.tables e below _ (T34.setTop (mkF m 262 #[.val (.int p0), .val (.int ((p0 &&& (2147483647 : Int32)) % (3 : Int32))), .val (.ref cP), .val (.ref b18), .val (.ref b30), .val (.ref cP)] [(.int (1 : Int32))]))
      refine own_up (fun _ k => XS.ifNo X34.here hx rfl (hb hby at_262) rfl ((if0 _ _).trans (feq (by decide : ¬ ((1 : Int32) = (0 : Int32)))).1) k) ?_
      show own_Go p.tables e below _ (T34.setTop (mkF m 265 #[.val (.int p0), .val (.int ((p0 &&& (2147483647 : Int32)) % (3 : Int32))), .val (.ref cP), .val (.ref b18), .val (.ref b30), .val (.ref cP)] []))
      refine own_up (fun _ k => XS.aloadN X34.here hx rfl (hb hby at_265) rfl rfl k) ?_
      show own_Go p.tables e below _ (T34.setTop (mkF m 266 #[.val (.int p0), .val (.int ((p0 &&& (2147483647 : Int32)) % (3 : Int32))), .val (.ref cP), .val (.ref b18), .val (.ref b30), .val (.ref cP)] [(.ref cP)]))
      obtain ⟨cq35, kq35, q35a, q35b, q35c⟩ := isOf hZ e34 (E_cP.ext OO.2)
      obtain ⟨_, _, ⟨T35, L35, k35, n35⟩, -, X35, ⟨Lc35, hQ35, l35, y35, z35⟩, st35⟩ := X34.virtualBack hx (y := (⟨"com/example/remora/remora/jpa/TransactionStrategy", "toString", "()Ljava/lang/String;"⟩ : MethodName)) (z := (⟨"com/example/remora/remora/jpa/TransactionStrategy", "toString", "()Ljava/lang/String;"⟩ : MethodName)) hown (mvT hZ (hw _ (List.mem_of_getElem? (i := 66) rfl))) (mvT hZ (hw _ (List.mem_of_getElem? (i := 67) rfl))) (notFace_of_selects (args := #[]) (mvT hZ (hw _ (List.mem_of_getElem? (i := 69) rfl)))) (mvT hZ (hw _ (List.mem_of_getElem? (i := 69) rfl))) (mvT hZ (hw _ (List.mem_of_getElem? (i := 68) rfl))) (by decide) (backOf (W := 0) (rmT l Z a0 hw [] cP lP T32.heap n0 ZH (FlP.ext OO.2)) hZ (hw _ (List.mem_of_getElem? (i := 70) rfl)) (hw _ (List.mem_of_getElem? (i := 2) rfl)) (by decide) (by decide)) q35a q35c (g := (mkF m 266 #[.val (.int p0), .val (.int ((p0 &&& (2147483647 : Int32)) % (3 : Int32))), .val (.ref cP), .val (.ref b18), .val (.ref b30), .val (.ref cP)] [(.ref cP)])) rfl (by rw [hml]; rfl) (Steps.refl _) (argsL := []) (rest := []) (lenOf pd_4 rfl) rfl (by show 2 * 0 + _ ≤ _; exact Nat.le_of_eq rfl) (hb hby at_266) (fun _ _ => ⟨rfl, e34, (by decide : 4 + 0 ≤ _), (by decide : 29 + 0 ≤ _)⟩)
      dsimp only [Pt.U, Pt.locs, Pt.cells, Pt.slots] at X35 l35 y35 z35 st35 hQ35
      subst l35 y35 z35
      obtain ⟨rfl, Nq35, e35⟩ := hQ35
      have N35 := Fr.app N34 Nq35
      refine own_up (fun _ k => st35.trans k) ?_
      show own_Go p.tables e below _ (T35.setTop (mkF m 269 #[.val (.int p0), .val (.int ((p0 &&& (2147483647 : Int32)) % (3 : Int32))), .val (.ref cP), .val (.ref b18), .val (.ref b30), .val (.ref cP)] [(.ref lP)]))
      refine own_up (fun _ k => XS.aload X35.here hx rfl (hb hby at_269) rfl rfl k) ?_
      show own_Go p.tables e below _ (T35.setTop (mkF m 271 #[.val (.int p0), .val (.int ((p0 &&& (2147483647 : Int32)) % (3 : Int32))), .val (.ref cP), .val (.ref b18), .val (.ref b30), .val (.ref cP)] [(.ref b30), (.ref lP)]))
      obtain ⟨cq36, kq36, q36a, q36b, q36c⟩ := isOf hZ e35 (ElP.ext OO.2)
      obtain ⟨_, _, ⟨T36, L36, k36, n36⟩, -, X36, ⟨Lc36, hQ36, l36, y36, z36⟩, st36⟩ := X35.virtualBack hx (y := (⟨"java/lang/String", "equals", "(Ljava/lang/Object;)Z"⟩ : MethodName)) (z := (⟨"java/lang/String", "equals", "(Ljava/lang/Object;)Z"⟩ : MethodName)) hown (mvT hZ (hw _ (List.mem_of_getElem? (i := 71) rfl))) (mvT hZ (hw _ (List.mem_of_getElem? (i := 57) rfl))) (notFace_of_selects (args := #[]) (mvT hZ (hw _ (List.mem_of_getElem? (i := 59) rfl)))) (mvT hZ (hw _ (List.mem_of_getElem? (i := 59) rfl))) (mvT hZ (hw _ (List.mem_of_getElem? (i := 58) rfl))) (by decide) (StrChars.Road.eqW (W := 0) hZ heq (kI := 4) (hw _ (List.mem_of_getElem? (i := 6) rfl)) (ElP.ext OO.2) (VlP.ext OO.2) (ClP.ext OO.2) (KlP.ext OO.2) own_cdP (own_up16 _ own_hpP) (Nat.le_of_ble_eq_true rfl) E_b30 F_b30 C_b30 V_tb own_cdP (own_up16 _ own_hpP) (Nat.le_of_ble_eq_true rfl) (SC.ext OO.2) hcz (by decide) (by decide)) q36a q36c (g := (mkF m 271 #[.val (.int p0), .val (.int ((p0 &&& (2147483647 : Int32)) % (3 : Int32))), .val (.ref cP), .val (.ref b18), .val (.ref b30), .val (.ref cP)] [(.ref b30), (.ref lP)])) rfl (by rw [hml]; rfl) (Steps.refl _) (argsL := [(.ref b30)]) (rest := []) (lenOf pd_1 rfl) rfl (by show 2 * 0 + _ ≤ _; exact Nat.le_of_eq rfl) (hb hby at_271) (fun _ _ => ⟨rfl, e35, (by decide : 4 + 0 ≤ _), (by decide : 29 + 0 ≤ _)⟩)
      dsimp only [Pt.U, Pt.locs, Pt.cells, Pt.slots] at X36 l36 y36 z36 st36 hQ36
      subst l36 y36 z36
      obtain ⟨hcase36, rfl, e36⟩ := hQ36
      have hv36 : _ = some (Value.int 1) := hcase36.elim (fun q => q.1) (fun q => absurd rfl q.2)
      subst hv36
      have N36 := Fr.app N35 (Fr.nil n0)
      refine own_up (fun _ k => st36.trans k) ?_
      show own_Go p.tables e below _ (T36.setTop (mkF m 274 #[.val (.int p0), .val (.int ((p0 &&& (2147483647 : Int32)) % (3 : Int32))), .val (.ref cP), .val (.ref b18), .val (.ref b30), .val (.ref cP)] [(.int (1 : Int32))]))
      refine own_up (fun _ k => XS.ifNo X36.here hx rfl (hb hby at_274) rfl ((if0 _ _).trans (feq (by decide : ¬ ((1 : Int32) = (0 : Int32)))).1) k) ?_
      show own_Go p.tables e below _ (T36.setTop (mkF m 277 #[.val (.int p0), .val (.int ((p0 &&& (2147483647 : Int32)) % (3 : Int32))), .val (.ref cP), .val (.ref b18), .val (.ref b30), .val (.ref cP)] []))
      refine own_up (fun _ k => XS.iconst X36.here hx rfl (hb hby at_277) k) ?_
      show own_Go p.tables e below _ (T36.setTop (mkF m 278 #[.val (.int p0), .val (.int ((p0 &&& (2147483647 : Int32)) % (3 : Int32))), .val (.ref cP), .val (.ref b18), .val (.ref b30), .val (.ref cP)] [(.int (1 : Int32))]))
      refine own_up (fun _ k => XS.goto X36.here hx rfl (pc0 := 278) (pc' := 282) rfl (hb hby at_278) (by decide) (by decide) k) ?_
      show own_Go p.tables e below _ (T36.setTop (mkF m 282 #[.val (.int p0), .val (.int ((p0 &&& (2147483647 : Int32)) % (3 : Int32))), .val (.ref cP), .val (.ref b18), .val (.ref b30), .val (.ref cP)] [(.int (1 : Int32))]))
      obtain ⟨fs37, hr37, hrun37, hended37, hW37, hsame37⟩ := X36.leave (v := some (.int (1 : Int32))) (fun h => by rw [Bd.returns] at h; cases h)
      refine own_end ⟨_, _, ?_, hrun37, hended37, _, _, rfl, ?_, ⟨_, rfl⟩, hW37, hsame37.mono (by decide) (by decide)⟩
      · exact retN X36 hx (t := .boolean) Bd.returns (by simp) (hb hby at_282) hr37
      · show Qrm0 Z p0 cz va kv cA lA bA kA cP lP bP kP cL lL bL kL h0 n0 _ T36.heap _
        rw [e36]
        exact ⟨rfl, N36⟩
    · refine own_up (fun _ k => XS.icmpYes X0.here hx rfl (pc0 := 55) (pc' := 130) rfl (hb hby at_55) rfl (feq hc55).2 (by decide) (by decide) k) ?_
      show own_Go p.tables e below _ (s₁.setTop (mkF m 130 #[.val (.int p0), .val (.int ((p0 &&& (2147483647 : Int32)) % (3 : Int32))), .unset, .unset, .unset, .unset] []))
      obtain ⟨T38, X38, e38, st38⟩ := getS2 X0 hx hZ hown (host := "") (Or.inl (hw _ (List.mem_of_getElem? (i := 72) rfl))) Via.refl e0 (S_cL.ext OO.2) (g := (mkF m 130 #[.val (.int p0), .val (.int ((p0 &&& (2147483647 : Int32)) % (3 : Int32))), .unset, .unset, .unset, .unset] [])) rfl (hb hby at_130)
      refine own_up st38 ?_
      show own_Go p.tables e below _ (T38.setTop (mkF m 133 #[.val (.int p0), .val (.int ((p0 &&& (2147483647 : Int32)) % (3 : Int32))), .unset, .unset, .unset, .unset] [(.ref cL)]))
      refine own_up (fun _ k => XS.astoreN X38.here hx rfl (hb hby at_133) rfl rfl (l' := #[.val (.int p0), .val (.int ((p0 &&& (2147483647 : Int32)) % (3 : Int32))), .val (.ref cL), .unset, .unset, .unset]) rfl k) ?_
      show own_Go p.tables e below _ (T38.setTop (mkF m 134 #[.val (.int p0), .val (.int ((p0 &&& (2147483647 : Int32)) % (3 : Int32))), .val (.ref cL), .unset, .unset, .unset] []))
      refine own_up (fun _ k => XS.bipush X38.here hx rfl (hb hby at_134) k) ?_
      show own_Go p.tables e below _ (T38.setTop (mkF m 136 #[.val (.int p0), .val (.int ((p0 &&& (2147483647 : Int32)) % (3 : Int32))), .val (.ref cL), .unset, .unset, .unset] [(.int (16 : Int32))]))
      obtain ⟨T39, h39, k39, X39, e39, E39, A39, st39⟩ := newP X38 hx hZ (hw _ (List.mem_of_getElem? (i := 4) rfl)) e38 (g := (mkF m 136 #[.val (.int p0), .val (.int ((p0 &&& (2147483647 : Int32)) % (3 : Int32))), .val (.ref cL), .unset, .unset, .unset] [(.int (16 : Int32))])) rfl (hb hby at_136) rfl (by decide) (cap := 16) (by decide) (by decide) (by decide) (by decide)
      obtain ⟨b39, gz39⟩ : ∃ z, z = h0.size := ⟨_, rfl⟩
      rw [← gz39] at A39 st39
      have g_b39 : n0 ≤ b39 := Nat.le_trans ZH (Nat.le_of_eq gz39.symm)
      have sz_b39 : h0.size ≤ b39 := Nat.le_trans KK.1 (Nat.le_of_eq gz39.symm)
      have ZH := Nat.le_trans ZH E39.1
      have KK := KK.ext E39
      have OO := OO.ext E39
      have V_b39 : Arv Z h39 b39 k39 .char (16 : Int32) [(.int (0 : Int32)), (.int (0 : Int32)), (.int (0 : Int32)), (.int (0 : Int32)), (.int (0 : Int32)), (.int (0 : Int32)), (.int (0 : Int32)), (.int (0 : Int32)), (.int (0 : Int32)), (.int (0 : Int32)), (.int (0 : Int32)), (.int (0 : Int32)), (.int (0 : Int32)), (.int (0 : Int32)), (.int (0 : Int32)), (.int (0 : Int32))] (.int (0 : Int32)) := (Arv.new A39 (by decide)).pad (pad_rep [] (.int (0 : Int32)) 16)
      refine own_up st39 ?_
      show own_Go p.tables e below _ (T39.setTop (mkF m 138 #[.val (.int p0), .val (.int ((p0 &&& (2147483647 : Int32)) % (3 : Int32))), .val (.ref cL), .unset, .unset, .unset] [(.ref b39)]))
      refine own_up (fun _ k => XS.dup X39.here hx rfl (hb hby at_138) rfl rfl k) ?_
      show own_Go p.tables e below _ (T39.setTop (mkF m 139 #[.val (.int p0), .val (.int ((p0 &&& (2147483647 : Int32)) % (3 : Int32))), .val (.ref cL), .unset, .unset, .unset] [(.ref b39), (.ref b39)]))
      refine own_up (fun _ k => XS.iconst X39.here hx rfl (hb hby at_139) k) ?_
      show own_Go p.tables e below _ (T39.setTop (mkF m 140 #[.val (.int p0), .val (.int ((p0 &&& (2147483647 : Int32)) % (3 : Int32))), .val (.ref cL), .unset, .unset, .unset] [(.int (0 : Int32)), (.ref b39), (.ref b39)]))
      refine own_up (fun _ k => XS.bipush X39.here hx rfl (hb hby at_140) k) ?_
      show own_Go p.tables e below _ (T39.setTop (mkF m 142 #[.val (.int p0), .val (.int ((p0 &&& (2147483647 : Int32)) % (3 : Int32))), .val (.ref cL), .unset, .unset, .unset] [(.int (108 : Int32)), (.int (0 : Int32)), (.ref b39), (.ref b39)]))
      obtain ⟨cl40, Ar40, q40, sz40, nz40, hH40, hG40⟩ := V_b39
      obtain ⟨T40, h40, X40, e40, W40, st40⟩ := stC X39 hx hZ e39 Ar40 (j := (0 : Int32)) (inb_of sz40 ⟨by decide, by decide⟩) (g := (mkF m 142 #[.val (.int p0), .val (.int ((p0 &&& (2147483647 : Int32)) % (3 : Int32))), .val (.ref cL), .unset, .unset, .unset] [(.int (108 : Int32)), (.int (0 : Int32)), (.ref b39), (.ref b39)])) rfl rfl (hb hby at_142)
      have V_b39 : Arv Z h40 b39 k39 .char (16 : Int32) [(.int (108 : Int32)), (.int (0 : Int32)), (.int (0 : Int32)), (.int (0 : Int32)), (.int (0 : Int32)), (.int (0 : Int32)), (.int (0 : Int32)), (.int (0 : Int32)), (.int (0 : Int32)), (.int (0 : Int32)), (.int (0 : Int32)), (.int (0 : Int32)), (.int (0 : Int32)), (.int (0 : Int32)), (.int (0 : Int32)), (.int (0 : Int32))] (.int (0 : Int32)) := Arv.set Ar40 q40 sz40 nz40 hH40 hG40 rfl W40 0 rfl (Nat.le_of_ble_eq_true rfl)
      have N40 := Fr.snoc X40 N0 g_b39
      have ZH := Nat.le_trans ZH (Nat.le_of_eq W40.size.symm)
      have KK := KK.wr W40 (Or.inr sz_b39)
      have OO := OO.wr W40 g_b39
      refine own_up st40 ?_
      show own_Go p.tables e below _ (T40.setTop (mkF m 143 #[.val (.int p0), .val (.int ((p0 &&& (2147483647 : Int32)) % (3 : Int32))), .val (.ref cL), .unset, .unset, .unset] [(.ref b39)]))
      refine own_up (fun _ k => XS.dup X40.here hx rfl (hb hby at_143) rfl rfl k) ?_
      show own_Go p.tables e below _ (T40.setTop (mkF m 144 #[.val (.int p0), .val (.int ((p0 &&& (2147483647 : Int32)) % (3 : Int32))), .val (.ref cL), .unset, .unset, .unset] [(.ref b39), (.ref b39)]))
      refine own_up (fun _ k => XS.iconst X40.here hx rfl (hb hby at_144) k) ?_
      show own_Go p.tables e below _ (T40.setTop (mkF m 145 #[.val (.int p0), .val (.int ((p0 &&& (2147483647 : Int32)) % (3 : Int32))), .val (.ref cL), .unset, .unset, .unset] [(.int (1 : Int32)), (.ref b39), (.ref b39)]))
      refine own_up (fun _ k => XS.bipush X40.here hx rfl (hb hby at_145) k) ?_
      show own_Go p.tables e below _ (T40.setTop (mkF m 147 #[.val (.int p0), .val (.int ((p0 &&& (2147483647 : Int32)) % (3 : Int32))), .val (.ref cL), .unset, .unset, .unset] [(.int (111 : Int32)), (.int (1 : Int32)), (.ref b39), (.ref b39)]))
      obtain ⟨cl41, Ar41, q41, sz41, nz41, hH41, hG41⟩ := V_b39
      obtain ⟨T41, h41, X41, e41, W41, st41⟩ := stC X40 hx hZ e40 Ar41 (j := (1 : Int32)) (inb_of sz41 ⟨by decide, by decide⟩) (g := (mkF m 147 #[.val (.int p0), .val (.int ((p0 &&& (2147483647 : Int32)) % (3 : Int32))), .val (.ref cL), .unset, .unset, .unset] [(.int (111 : Int32)), (.int (1 : Int32)), (.ref b39), (.ref b39)])) rfl rfl (hb hby at_147)
      have V_b39 : Arv Z h41 b39 k39 .char (16 : Int32) [(.int (108 : Int32)), (.int (111 : Int32)), (.int (0 : Int32)), (.int (0 : Int32)), (.int (0 : Int32)), (.int (0 : Int32)), (.int (0 : Int32)), (.int (0 : Int32)), (.int (0 : Int32)), (.int (0 : Int32)), (.int (0 : Int32)), (.int (0 : Int32)), (.int (0 : Int32)), (.int (0 : Int32)), (.int (0 : Int32)), (.int (0 : Int32))] (.int (0 : Int32)) := Arv.set Ar41 q41 sz41 nz41 hH41 hG41 rfl W41 1 rfl (Nat.le_of_ble_eq_true rfl)
      have N41 := Fr.snoc X41 N40 g_b39
      have ZH := Nat.le_trans ZH (Nat.le_of_eq W41.size.symm)
      have KK := KK.wr W41 (Or.inr sz_b39)
      have OO := OO.wr W41 g_b39
      refine own_up st41 ?_
      show own_Go p.tables e below _ (T41.setTop (mkF m 148 #[.val (.int p0), .val (.int ((p0 &&& (2147483647 : Int32)) % (3 : Int32))), .val (.ref cL), .unset, .unset, .unset] [(.ref b39)]))
      refine own_up (fun _ k => XS.dup X41.here hx rfl (hb hby at_148) rfl rfl k) ?_
      show own_Go p.tables e below _ (T41.setTop (mkF m 149 #[.val (.int p0), .val (.int ((p0 &&& (2147483647 : Int32)) % (3 : Int32))), .val (.ref cL), .unset, .unset, .unset] [(.ref b39), (.ref b39)]))
      refine own_up (fun _ k => XS.iconst X41.here hx rfl (hb hby at_149) k) ?_
      show own_Go p.tables e below _ (T41.setTop (mkF m 150 #[.val (.int p0), .val (.int ((p0 &&& (2147483647 : Int32)) % (3 : Int32))), .val (.ref cL), .unset, .unset, .unset] [(.int (2 : Int32)), (.ref b39), (.ref b39)]))
      refine own_up (fun _ k => XS.bipush X41.here hx rfl (hb hby at_150) k) ?_
      show own_Go p.tables e below _ (T41.setTop (mkF m 152 #[.val (.int p0), .val (.int ((p0 &&& (2147483647 : Int32)) % (3 : Int32))), .val (.ref cL), .unset, .unset, .unset] [(.int (110 : Int32)), (.int (2 : Int32)), (.ref b39), (.ref b39)]))
      obtain ⟨cl42, Ar42, q42, sz42, nz42, hH42, hG42⟩ := V_b39
      obtain ⟨T42, h42, X42, e42, W42, st42⟩ := stC X41 hx hZ e41 Ar42 (j := (2 : Int32)) (inb_of sz42 ⟨by decide, by decide⟩) (g := (mkF m 152 #[.val (.int p0), .val (.int ((p0 &&& (2147483647 : Int32)) % (3 : Int32))), .val (.ref cL), .unset, .unset, .unset] [(.int (110 : Int32)), (.int (2 : Int32)), (.ref b39), (.ref b39)])) rfl rfl (hb hby at_152)
      have V_b39 : Arv Z h42 b39 k39 .char (16 : Int32) [(.int (108 : Int32)), (.int (111 : Int32)), (.int (110 : Int32)), (.int (0 : Int32)), (.int (0 : Int32)), (.int (0 : Int32)), (.int (0 : Int32)), (.int (0 : Int32)), (.int (0 : Int32)), (.int (0 : Int32)), (.int (0 : Int32)), (.int (0 : Int32)), (.int (0 : Int32)), (.int (0 : Int32)), (.int (0 : Int32)), (.int (0 : Int32))] (.int (0 : Int32)) := Arv.set Ar42 q42 sz42 nz42 hH42 hG42 rfl W42 2 rfl (Nat.le_of_ble_eq_true rfl)
      have N42 := Fr.snoc X42 N41 g_b39
      have ZH := Nat.le_trans ZH (Nat.le_of_eq W42.size.symm)
      have KK := KK.wr W42 (Or.inr sz_b39)
      have OO := OO.wr W42 g_b39
      refine own_up st42 ?_
      show own_Go p.tables e below _ (T42.setTop (mkF m 153 #[.val (.int p0), .val (.int ((p0 &&& (2147483647 : Int32)) % (3 : Int32))), .val (.ref cL), .unset, .unset, .unset] [(.ref b39)]))
      refine own_up (fun _ k => XS.dup X42.here hx rfl (hb hby at_153) rfl rfl k) ?_
      show own_Go p.tables e below _ (T42.setTop (mkF m 154 #[.val (.int p0), .val (.int ((p0 &&& (2147483647 : Int32)) % (3 : Int32))), .val (.ref cL), .unset, .unset, .unset] [(.ref b39), (.ref b39)]))
      refine own_up (fun _ k => XS.iconst X42.here hx rfl (hb hby at_154) k) ?_
      show own_Go p.tables e below _ (T42.setTop (mkF m 155 #[.val (.int p0), .val (.int ((p0 &&& (2147483647 : Int32)) % (3 : Int32))), .val (.ref cL), .unset, .unset, .unset] [(.int (3 : Int32)), (.ref b39), (.ref b39)]))
      refine own_up (fun _ k => XS.bipush X42.here hx rfl (hb hby at_155) k) ?_
      show own_Go p.tables e below _ (T42.setTop (mkF m 157 #[.val (.int p0), .val (.int ((p0 &&& (2147483647 : Int32)) % (3 : Int32))), .val (.ref cL), .unset, .unset, .unset] [(.int (103 : Int32)), (.int (3 : Int32)), (.ref b39), (.ref b39)]))
      obtain ⟨cl43, Ar43, q43, sz43, nz43, hH43, hG43⟩ := V_b39
      obtain ⟨T43, h43, X43, e43, W43, st43⟩ := stC X42 hx hZ e42 Ar43 (j := (3 : Int32)) (inb_of sz43 ⟨by decide, by decide⟩) (g := (mkF m 157 #[.val (.int p0), .val (.int ((p0 &&& (2147483647 : Int32)) % (3 : Int32))), .val (.ref cL), .unset, .unset, .unset] [(.int (103 : Int32)), (.int (3 : Int32)), (.ref b39), (.ref b39)])) rfl rfl (hb hby at_157)
      have V_b39 : Arv Z h43 b39 k39 .char (16 : Int32) [(.int (108 : Int32)), (.int (111 : Int32)), (.int (110 : Int32)), (.int (103 : Int32)), (.int (0 : Int32)), (.int (0 : Int32)), (.int (0 : Int32)), (.int (0 : Int32)), (.int (0 : Int32)), (.int (0 : Int32)), (.int (0 : Int32)), (.int (0 : Int32)), (.int (0 : Int32)), (.int (0 : Int32)), (.int (0 : Int32)), (.int (0 : Int32))] (.int (0 : Int32)) := Arv.set Ar43 q43 sz43 nz43 hH43 hG43 rfl W43 3 rfl (Nat.le_of_ble_eq_true rfl)
      have N43 := Fr.snoc X43 N42 g_b39
      have ZH := Nat.le_trans ZH (Nat.le_of_eq W43.size.symm)
      have KK := KK.wr W43 (Or.inr sz_b39)
      have OO := OO.wr W43 g_b39
      refine own_up st43 ?_
      show own_Go p.tables e below _ (T43.setTop (mkF m 158 #[.val (.int p0), .val (.int ((p0 &&& (2147483647 : Int32)) % (3 : Int32))), .val (.ref cL), .unset, .unset, .unset] [(.ref b39)]))
      refine own_up (fun _ k => XS.dup X43.here hx rfl (hb hby at_158) rfl rfl k) ?_
      show own_Go p.tables e below _ (T43.setTop (mkF m 159 #[.val (.int p0), .val (.int ((p0 &&& (2147483647 : Int32)) % (3 : Int32))), .val (.ref cL), .unset, .unset, .unset] [(.ref b39), (.ref b39)]))
      refine own_up (fun _ k => XS.iconst X43.here hx rfl (hb hby at_159) k) ?_
      show own_Go p.tables e below _ (T43.setTop (mkF m 160 #[.val (.int p0), .val (.int ((p0 &&& (2147483647 : Int32)) % (3 : Int32))), .val (.ref cL), .unset, .unset, .unset] [(.int (4 : Int32)), (.ref b39), (.ref b39)]))
      refine own_up (fun _ k => XS.bipush X43.here hx rfl (hb hby at_160) k) ?_
      show own_Go p.tables e below _ (T43.setTop (mkF m 162 #[.val (.int p0), .val (.int ((p0 &&& (2147483647 : Int32)) % (3 : Int32))), .val (.ref cL), .unset, .unset, .unset] [(.int (45 : Int32)), (.int (4 : Int32)), (.ref b39), (.ref b39)]))
      obtain ⟨cl44, Ar44, q44, sz44, nz44, hH44, hG44⟩ := V_b39
      obtain ⟨T44, h44, X44, e44, W44, st44⟩ := stC X43 hx hZ e43 Ar44 (j := (4 : Int32)) (inb_of sz44 ⟨by decide, by decide⟩) (g := (mkF m 162 #[.val (.int p0), .val (.int ((p0 &&& (2147483647 : Int32)) % (3 : Int32))), .val (.ref cL), .unset, .unset, .unset] [(.int (45 : Int32)), (.int (4 : Int32)), (.ref b39), (.ref b39)])) rfl rfl (hb hby at_162)
      have V_b39 : Arv Z h44 b39 k39 .char (16 : Int32) [(.int (108 : Int32)), (.int (111 : Int32)), (.int (110 : Int32)), (.int (103 : Int32)), (.int (45 : Int32)), (.int (0 : Int32)), (.int (0 : Int32)), (.int (0 : Int32)), (.int (0 : Int32)), (.int (0 : Int32)), (.int (0 : Int32)), (.int (0 : Int32)), (.int (0 : Int32)), (.int (0 : Int32)), (.int (0 : Int32)), (.int (0 : Int32))] (.int (0 : Int32)) := Arv.set Ar44 q44 sz44 nz44 hH44 hG44 rfl W44 4 rfl (Nat.le_of_ble_eq_true rfl)
      have N44 := Fr.snoc X44 N43 g_b39
      have ZH := Nat.le_trans ZH (Nat.le_of_eq W44.size.symm)
      have KK := KK.wr W44 (Or.inr sz_b39)
      have OO := OO.wr W44 g_b39
      refine own_up st44 ?_
      show own_Go p.tables e below _ (T44.setTop (mkF m 163 #[.val (.int p0), .val (.int ((p0 &&& (2147483647 : Int32)) % (3 : Int32))), .val (.ref cL), .unset, .unset, .unset] [(.ref b39)]))
      refine own_up (fun _ k => XS.dup X44.here hx rfl (hb hby at_163) rfl rfl k) ?_
      show own_Go p.tables e below _ (T44.setTop (mkF m 164 #[.val (.int p0), .val (.int ((p0 &&& (2147483647 : Int32)) % (3 : Int32))), .val (.ref cL), .unset, .unset, .unset] [(.ref b39), (.ref b39)]))
      refine own_up (fun _ k => XS.iconst X44.here hx rfl (hb hby at_164) k) ?_
      show own_Go p.tables e below _ (T44.setTop (mkF m 165 #[.val (.int p0), .val (.int ((p0 &&& (2147483647 : Int32)) % (3 : Int32))), .val (.ref cL), .unset, .unset, .unset] [(.int (5 : Int32)), (.ref b39), (.ref b39)]))
      refine own_up (fun _ k => XS.bipush X44.here hx rfl (hb hby at_165) k) ?_
      show own_Go p.tables e below _ (T44.setTop (mkF m 167 #[.val (.int p0), .val (.int ((p0 &&& (2147483647 : Int32)) % (3 : Int32))), .val (.ref cL), .unset, .unset, .unset] [(.int (116 : Int32)), (.int (5 : Int32)), (.ref b39), (.ref b39)]))
      obtain ⟨cl45, Ar45, q45, sz45, nz45, hH45, hG45⟩ := V_b39
      obtain ⟨T45, h45, X45, e45, W45, st45⟩ := stC X44 hx hZ e44 Ar45 (j := (5 : Int32)) (inb_of sz45 ⟨by decide, by decide⟩) (g := (mkF m 167 #[.val (.int p0), .val (.int ((p0 &&& (2147483647 : Int32)) % (3 : Int32))), .val (.ref cL), .unset, .unset, .unset] [(.int (116 : Int32)), (.int (5 : Int32)), (.ref b39), (.ref b39)])) rfl rfl (hb hby at_167)
      have V_b39 : Arv Z h45 b39 k39 .char (16 : Int32) [(.int (108 : Int32)), (.int (111 : Int32)), (.int (110 : Int32)), (.int (103 : Int32)), (.int (45 : Int32)), (.int (116 : Int32)), (.int (0 : Int32)), (.int (0 : Int32)), (.int (0 : Int32)), (.int (0 : Int32)), (.int (0 : Int32)), (.int (0 : Int32)), (.int (0 : Int32)), (.int (0 : Int32)), (.int (0 : Int32)), (.int (0 : Int32))] (.int (0 : Int32)) := Arv.set Ar45 q45 sz45 nz45 hH45 hG45 rfl W45 5 rfl (Nat.le_of_ble_eq_true rfl)
      have N45 := Fr.snoc X45 N44 g_b39
      have ZH := Nat.le_trans ZH (Nat.le_of_eq W45.size.symm)
      have KK := KK.wr W45 (Or.inr sz_b39)
      have OO := OO.wr W45 g_b39
      refine own_up st45 ?_
      show own_Go p.tables e below _ (T45.setTop (mkF m 168 #[.val (.int p0), .val (.int ((p0 &&& (2147483647 : Int32)) % (3 : Int32))), .val (.ref cL), .unset, .unset, .unset] [(.ref b39)]))
      refine own_up (fun _ k => XS.dup X45.here hx rfl (hb hby at_168) rfl rfl k) ?_
      show own_Go p.tables e below _ (T45.setTop (mkF m 169 #[.val (.int p0), .val (.int ((p0 &&& (2147483647 : Int32)) % (3 : Int32))), .val (.ref cL), .unset, .unset, .unset] [(.ref b39), (.ref b39)]))
      refine own_up (fun _ k => XS.bipush X45.here hx rfl (hb hby at_169) k) ?_
      show own_Go p.tables e below _ (T45.setTop (mkF m 171 #[.val (.int p0), .val (.int ((p0 &&& (2147483647 : Int32)) % (3 : Int32))), .val (.ref cL), .unset, .unset, .unset] [(.int (6 : Int32)), (.ref b39), (.ref b39)]))
      refine own_up (fun _ k => XS.bipush X45.here hx rfl (hb hby at_171) k) ?_
      show own_Go p.tables e below _ (T45.setTop (mkF m 173 #[.val (.int p0), .val (.int ((p0 &&& (2147483647 : Int32)) % (3 : Int32))), .val (.ref cL), .unset, .unset, .unset] [(.int (114 : Int32)), (.int (6 : Int32)), (.ref b39), (.ref b39)]))
      obtain ⟨cl46, Ar46, q46, sz46, nz46, hH46, hG46⟩ := V_b39
      obtain ⟨T46, h46, X46, e46, W46, st46⟩ := stC X45 hx hZ e45 Ar46 (j := (6 : Int32)) (inb_of sz46 ⟨by decide, by decide⟩) (g := (mkF m 173 #[.val (.int p0), .val (.int ((p0 &&& (2147483647 : Int32)) % (3 : Int32))), .val (.ref cL), .unset, .unset, .unset] [(.int (114 : Int32)), (.int (6 : Int32)), (.ref b39), (.ref b39)])) rfl rfl (hb hby at_173)
      have V_b39 : Arv Z h46 b39 k39 .char (16 : Int32) [(.int (108 : Int32)), (.int (111 : Int32)), (.int (110 : Int32)), (.int (103 : Int32)), (.int (45 : Int32)), (.int (116 : Int32)), (.int (114 : Int32)), (.int (0 : Int32)), (.int (0 : Int32)), (.int (0 : Int32)), (.int (0 : Int32)), (.int (0 : Int32)), (.int (0 : Int32)), (.int (0 : Int32)), (.int (0 : Int32)), (.int (0 : Int32))] (.int (0 : Int32)) := Arv.set Ar46 q46 sz46 nz46 hH46 hG46 rfl W46 6 rfl (Nat.le_of_ble_eq_true rfl)
      have N46 := Fr.snoc X46 N45 g_b39
      have ZH := Nat.le_trans ZH (Nat.le_of_eq W46.size.symm)
      have KK := KK.wr W46 (Or.inr sz_b39)
      have OO := OO.wr W46 g_b39
      refine own_up st46 ?_
      show own_Go p.tables e below _ (T46.setTop (mkF m 174 #[.val (.int p0), .val (.int ((p0 &&& (2147483647 : Int32)) % (3 : Int32))), .val (.ref cL), .unset, .unset, .unset] [(.ref b39)]))
      refine own_up (fun _ k => XS.dup X46.here hx rfl (hb hby at_174) rfl rfl k) ?_
      show own_Go p.tables e below _ (T46.setTop (mkF m 175 #[.val (.int p0), .val (.int ((p0 &&& (2147483647 : Int32)) % (3 : Int32))), .val (.ref cL), .unset, .unset, .unset] [(.ref b39), (.ref b39)]))
      refine own_up (fun _ k => XS.bipush X46.here hx rfl (hb hby at_175) k) ?_
      show own_Go p.tables e below _ (T46.setTop (mkF m 177 #[.val (.int p0), .val (.int ((p0 &&& (2147483647 : Int32)) % (3 : Int32))), .val (.ref cL), .unset, .unset, .unset] [(.int (7 : Int32)), (.ref b39), (.ref b39)]))
      refine own_up (fun _ k => XS.bipush X46.here hx rfl (hb hby at_177) k) ?_
      show own_Go p.tables e below _ (T46.setTop (mkF m 179 #[.val (.int p0), .val (.int ((p0 &&& (2147483647 : Int32)) % (3 : Int32))), .val (.ref cL), .unset, .unset, .unset] [(.int (97 : Int32)), (.int (7 : Int32)), (.ref b39), (.ref b39)]))
      obtain ⟨cl47, Ar47, q47, sz47, nz47, hH47, hG47⟩ := V_b39
      obtain ⟨T47, h47, X47, e47, W47, st47⟩ := stC X46 hx hZ e46 Ar47 (j := (7 : Int32)) (inb_of sz47 ⟨by decide, by decide⟩) (g := (mkF m 179 #[.val (.int p0), .val (.int ((p0 &&& (2147483647 : Int32)) % (3 : Int32))), .val (.ref cL), .unset, .unset, .unset] [(.int (97 : Int32)), (.int (7 : Int32)), (.ref b39), (.ref b39)])) rfl rfl (hb hby at_179)
      have V_b39 : Arv Z h47 b39 k39 .char (16 : Int32) [(.int (108 : Int32)), (.int (111 : Int32)), (.int (110 : Int32)), (.int (103 : Int32)), (.int (45 : Int32)), (.int (116 : Int32)), (.int (114 : Int32)), (.int (97 : Int32)), (.int (0 : Int32)), (.int (0 : Int32)), (.int (0 : Int32)), (.int (0 : Int32)), (.int (0 : Int32)), (.int (0 : Int32)), (.int (0 : Int32)), (.int (0 : Int32))] (.int (0 : Int32)) := Arv.set Ar47 q47 sz47 nz47 hH47 hG47 rfl W47 7 rfl (Nat.le_of_ble_eq_true rfl)
      have N47 := Fr.snoc X47 N46 g_b39
      have ZH := Nat.le_trans ZH (Nat.le_of_eq W47.size.symm)
      have KK := KK.wr W47 (Or.inr sz_b39)
      have OO := OO.wr W47 g_b39
      refine own_up st47 ?_
      show own_Go p.tables e below _ (T47.setTop (mkF m 180 #[.val (.int p0), .val (.int ((p0 &&& (2147483647 : Int32)) % (3 : Int32))), .val (.ref cL), .unset, .unset, .unset] [(.ref b39)]))
      refine own_up (fun _ k => XS.dup X47.here hx rfl (hb hby at_180) rfl rfl k) ?_
      show own_Go p.tables e below _ (T47.setTop (mkF m 181 #[.val (.int p0), .val (.int ((p0 &&& (2147483647 : Int32)) % (3 : Int32))), .val (.ref cL), .unset, .unset, .unset] [(.ref b39), (.ref b39)]))
      refine own_up (fun _ k => XS.bipush X47.here hx rfl (hb hby at_181) k) ?_
      show own_Go p.tables e below _ (T47.setTop (mkF m 183 #[.val (.int p0), .val (.int ((p0 &&& (2147483647 : Int32)) % (3 : Int32))), .val (.ref cL), .unset, .unset, .unset] [(.int (8 : Int32)), (.ref b39), (.ref b39)]))
      refine own_up (fun _ k => XS.bipush X47.here hx rfl (hb hby at_183) k) ?_
      show own_Go p.tables e below _ (T47.setTop (mkF m 185 #[.val (.int p0), .val (.int ((p0 &&& (2147483647 : Int32)) % (3 : Int32))), .val (.ref cL), .unset, .unset, .unset] [(.int (110 : Int32)), (.int (8 : Int32)), (.ref b39), (.ref b39)]))
      obtain ⟨cl48, Ar48, q48, sz48, nz48, hH48, hG48⟩ := V_b39
      obtain ⟨T48, h48, X48, e48, W48, st48⟩ := stC X47 hx hZ e47 Ar48 (j := (8 : Int32)) (inb_of sz48 ⟨by decide, by decide⟩) (g := (mkF m 185 #[.val (.int p0), .val (.int ((p0 &&& (2147483647 : Int32)) % (3 : Int32))), .val (.ref cL), .unset, .unset, .unset] [(.int (110 : Int32)), (.int (8 : Int32)), (.ref b39), (.ref b39)])) rfl rfl (hb hby at_185)
      have V_b39 : Arv Z h48 b39 k39 .char (16 : Int32) [(.int (108 : Int32)), (.int (111 : Int32)), (.int (110 : Int32)), (.int (103 : Int32)), (.int (45 : Int32)), (.int (116 : Int32)), (.int (114 : Int32)), (.int (97 : Int32)), (.int (110 : Int32)), (.int (0 : Int32)), (.int (0 : Int32)), (.int (0 : Int32)), (.int (0 : Int32)), (.int (0 : Int32)), (.int (0 : Int32)), (.int (0 : Int32))] (.int (0 : Int32)) := Arv.set Ar48 q48 sz48 nz48 hH48 hG48 rfl W48 8 rfl (Nat.le_of_ble_eq_true rfl)
      have N48 := Fr.snoc X48 N47 g_b39
      have ZH := Nat.le_trans ZH (Nat.le_of_eq W48.size.symm)
      have KK := KK.wr W48 (Or.inr sz_b39)
      have OO := OO.wr W48 g_b39
      refine own_up st48 ?_
      show own_Go p.tables e below _ (T48.setTop (mkF m 186 #[.val (.int p0), .val (.int ((p0 &&& (2147483647 : Int32)) % (3 : Int32))), .val (.ref cL), .unset, .unset, .unset] [(.ref b39)]))
      refine own_up (fun _ k => XS.dup X48.here hx rfl (hb hby at_186) rfl rfl k) ?_
      show own_Go p.tables e below _ (T48.setTop (mkF m 187 #[.val (.int p0), .val (.int ((p0 &&& (2147483647 : Int32)) % (3 : Int32))), .val (.ref cL), .unset, .unset, .unset] [(.ref b39), (.ref b39)]))
      refine own_up (fun _ k => XS.bipush X48.here hx rfl (hb hby at_187) k) ?_
      show own_Go p.tables e below _ (T48.setTop (mkF m 189 #[.val (.int p0), .val (.int ((p0 &&& (2147483647 : Int32)) % (3 : Int32))), .val (.ref cL), .unset, .unset, .unset] [(.int (9 : Int32)), (.ref b39), (.ref b39)]))
      refine own_up (fun _ k => XS.bipush X48.here hx rfl (hb hby at_189) k) ?_
      show own_Go p.tables e below _ (T48.setTop (mkF m 191 #[.val (.int p0), .val (.int ((p0 &&& (2147483647 : Int32)) % (3 : Int32))), .val (.ref cL), .unset, .unset, .unset] [(.int (115 : Int32)), (.int (9 : Int32)), (.ref b39), (.ref b39)]))
      obtain ⟨cl49, Ar49, q49, sz49, nz49, hH49, hG49⟩ := V_b39
      obtain ⟨T49, h49, X49, e49, W49, st49⟩ := stC X48 hx hZ e48 Ar49 (j := (9 : Int32)) (inb_of sz49 ⟨by decide, by decide⟩) (g := (mkF m 191 #[.val (.int p0), .val (.int ((p0 &&& (2147483647 : Int32)) % (3 : Int32))), .val (.ref cL), .unset, .unset, .unset] [(.int (115 : Int32)), (.int (9 : Int32)), (.ref b39), (.ref b39)])) rfl rfl (hb hby at_191)
      have V_b39 : Arv Z h49 b39 k39 .char (16 : Int32) [(.int (108 : Int32)), (.int (111 : Int32)), (.int (110 : Int32)), (.int (103 : Int32)), (.int (45 : Int32)), (.int (116 : Int32)), (.int (114 : Int32)), (.int (97 : Int32)), (.int (110 : Int32)), (.int (115 : Int32)), (.int (0 : Int32)), (.int (0 : Int32)), (.int (0 : Int32)), (.int (0 : Int32)), (.int (0 : Int32)), (.int (0 : Int32))] (.int (0 : Int32)) := Arv.set Ar49 q49 sz49 nz49 hH49 hG49 rfl W49 9 rfl (Nat.le_of_ble_eq_true rfl)
      have N49 := Fr.snoc X49 N48 g_b39
      have ZH := Nat.le_trans ZH (Nat.le_of_eq W49.size.symm)
      have KK := KK.wr W49 (Or.inr sz_b39)
      have OO := OO.wr W49 g_b39
      refine own_up st49 ?_
      show own_Go p.tables e below _ (T49.setTop (mkF m 192 #[.val (.int p0), .val (.int ((p0 &&& (2147483647 : Int32)) % (3 : Int32))), .val (.ref cL), .unset, .unset, .unset] [(.ref b39)]))
      refine own_up (fun _ k => XS.dup X49.here hx rfl (hb hby at_192) rfl rfl k) ?_
      show own_Go p.tables e below _ (T49.setTop (mkF m 193 #[.val (.int p0), .val (.int ((p0 &&& (2147483647 : Int32)) % (3 : Int32))), .val (.ref cL), .unset, .unset, .unset] [(.ref b39), (.ref b39)]))
      refine own_up (fun _ k => XS.bipush X49.here hx rfl (hb hby at_193) k) ?_
      show own_Go p.tables e below _ (T49.setTop (mkF m 195 #[.val (.int p0), .val (.int ((p0 &&& (2147483647 : Int32)) % (3 : Int32))), .val (.ref cL), .unset, .unset, .unset] [(.int (10 : Int32)), (.ref b39), (.ref b39)]))
      refine own_up (fun _ k => XS.bipush X49.here hx rfl (hb hby at_195) k) ?_
      show own_Go p.tables e below _ (T49.setTop (mkF m 197 #[.val (.int p0), .val (.int ((p0 &&& (2147483647 : Int32)) % (3 : Int32))), .val (.ref cL), .unset, .unset, .unset] [(.int (97 : Int32)), (.int (10 : Int32)), (.ref b39), (.ref b39)]))
      obtain ⟨cl50, Ar50, q50, sz50, nz50, hH50, hG50⟩ := V_b39
      obtain ⟨T50, h50, X50, e50, W50, st50⟩ := stC X49 hx hZ e49 Ar50 (j := (10 : Int32)) (inb_of sz50 ⟨by decide, by decide⟩) (g := (mkF m 197 #[.val (.int p0), .val (.int ((p0 &&& (2147483647 : Int32)) % (3 : Int32))), .val (.ref cL), .unset, .unset, .unset] [(.int (97 : Int32)), (.int (10 : Int32)), (.ref b39), (.ref b39)])) rfl rfl (hb hby at_197)
      have V_b39 : Arv Z h50 b39 k39 .char (16 : Int32) [(.int (108 : Int32)), (.int (111 : Int32)), (.int (110 : Int32)), (.int (103 : Int32)), (.int (45 : Int32)), (.int (116 : Int32)), (.int (114 : Int32)), (.int (97 : Int32)), (.int (110 : Int32)), (.int (115 : Int32)), (.int (97 : Int32)), (.int (0 : Int32)), (.int (0 : Int32)), (.int (0 : Int32)), (.int (0 : Int32)), (.int (0 : Int32))] (.int (0 : Int32)) := Arv.set Ar50 q50 sz50 nz50 hH50 hG50 rfl W50 10 rfl (Nat.le_of_ble_eq_true rfl)
      have N50 := Fr.snoc X50 N49 g_b39
      have ZH := Nat.le_trans ZH (Nat.le_of_eq W50.size.symm)
      have KK := KK.wr W50 (Or.inr sz_b39)
      have OO := OO.wr W50 g_b39
      refine own_up st50 ?_
      show own_Go p.tables e below _ (T50.setTop (mkF m 198 #[.val (.int p0), .val (.int ((p0 &&& (2147483647 : Int32)) % (3 : Int32))), .val (.ref cL), .unset, .unset, .unset] [(.ref b39)]))
      refine own_up (fun _ k => XS.dup X50.here hx rfl (hb hby at_198) rfl rfl k) ?_
      show own_Go p.tables e below _ (T50.setTop (mkF m 199 #[.val (.int p0), .val (.int ((p0 &&& (2147483647 : Int32)) % (3 : Int32))), .val (.ref cL), .unset, .unset, .unset] [(.ref b39), (.ref b39)]))
      refine own_up (fun _ k => XS.bipush X50.here hx rfl (hb hby at_199) k) ?_
      show own_Go p.tables e below _ (T50.setTop (mkF m 201 #[.val (.int p0), .val (.int ((p0 &&& (2147483647 : Int32)) % (3 : Int32))), .val (.ref cL), .unset, .unset, .unset] [(.int (11 : Int32)), (.ref b39), (.ref b39)]))
      refine own_up (fun _ k => XS.bipush X50.here hx rfl (hb hby at_201) k) ?_
      show own_Go p.tables e below _ (T50.setTop (mkF m 203 #[.val (.int p0), .val (.int ((p0 &&& (2147483647 : Int32)) % (3 : Int32))), .val (.ref cL), .unset, .unset, .unset] [(.int (99 : Int32)), (.int (11 : Int32)), (.ref b39), (.ref b39)]))
      obtain ⟨cl51, Ar51, q51, sz51, nz51, hH51, hG51⟩ := V_b39
      obtain ⟨T51, h51, X51, e51, W51, st51⟩ := stC X50 hx hZ e50 Ar51 (j := (11 : Int32)) (inb_of sz51 ⟨by decide, by decide⟩) (g := (mkF m 203 #[.val (.int p0), .val (.int ((p0 &&& (2147483647 : Int32)) % (3 : Int32))), .val (.ref cL), .unset, .unset, .unset] [(.int (99 : Int32)), (.int (11 : Int32)), (.ref b39), (.ref b39)])) rfl rfl (hb hby at_203)
      have V_b39 : Arv Z h51 b39 k39 .char (16 : Int32) [(.int (108 : Int32)), (.int (111 : Int32)), (.int (110 : Int32)), (.int (103 : Int32)), (.int (45 : Int32)), (.int (116 : Int32)), (.int (114 : Int32)), (.int (97 : Int32)), (.int (110 : Int32)), (.int (115 : Int32)), (.int (97 : Int32)), (.int (99 : Int32)), (.int (0 : Int32)), (.int (0 : Int32)), (.int (0 : Int32)), (.int (0 : Int32))] (.int (0 : Int32)) := Arv.set Ar51 q51 sz51 nz51 hH51 hG51 rfl W51 11 rfl (Nat.le_of_ble_eq_true rfl)
      have N51 := Fr.snoc X51 N50 g_b39
      have ZH := Nat.le_trans ZH (Nat.le_of_eq W51.size.symm)
      have KK := KK.wr W51 (Or.inr sz_b39)
      have OO := OO.wr W51 g_b39
      refine own_up st51 ?_
      show own_Go p.tables e below _ (T51.setTop (mkF m 204 #[.val (.int p0), .val (.int ((p0 &&& (2147483647 : Int32)) % (3 : Int32))), .val (.ref cL), .unset, .unset, .unset] [(.ref b39)]))
      refine own_up (fun _ k => XS.dup X51.here hx rfl (hb hby at_204) rfl rfl k) ?_
      show own_Go p.tables e below _ (T51.setTop (mkF m 205 #[.val (.int p0), .val (.int ((p0 &&& (2147483647 : Int32)) % (3 : Int32))), .val (.ref cL), .unset, .unset, .unset] [(.ref b39), (.ref b39)]))
      refine own_up (fun _ k => XS.bipush X51.here hx rfl (hb hby at_205) k) ?_
      show own_Go p.tables e below _ (T51.setTop (mkF m 207 #[.val (.int p0), .val (.int ((p0 &&& (2147483647 : Int32)) % (3 : Int32))), .val (.ref cL), .unset, .unset, .unset] [(.int (12 : Int32)), (.ref b39), (.ref b39)]))
      refine own_up (fun _ k => XS.bipush X51.here hx rfl (hb hby at_207) k) ?_
      show own_Go p.tables e below _ (T51.setTop (mkF m 209 #[.val (.int p0), .val (.int ((p0 &&& (2147483647 : Int32)) % (3 : Int32))), .val (.ref cL), .unset, .unset, .unset] [(.int (116 : Int32)), (.int (12 : Int32)), (.ref b39), (.ref b39)]))
      obtain ⟨cl52, Ar52, q52, sz52, nz52, hH52, hG52⟩ := V_b39
      obtain ⟨T52, h52, X52, e52, W52, st52⟩ := stC X51 hx hZ e51 Ar52 (j := (12 : Int32)) (inb_of sz52 ⟨by decide, by decide⟩) (g := (mkF m 209 #[.val (.int p0), .val (.int ((p0 &&& (2147483647 : Int32)) % (3 : Int32))), .val (.ref cL), .unset, .unset, .unset] [(.int (116 : Int32)), (.int (12 : Int32)), (.ref b39), (.ref b39)])) rfl rfl (hb hby at_209)
      have V_b39 : Arv Z h52 b39 k39 .char (16 : Int32) [(.int (108 : Int32)), (.int (111 : Int32)), (.int (110 : Int32)), (.int (103 : Int32)), (.int (45 : Int32)), (.int (116 : Int32)), (.int (114 : Int32)), (.int (97 : Int32)), (.int (110 : Int32)), (.int (115 : Int32)), (.int (97 : Int32)), (.int (99 : Int32)), (.int (116 : Int32)), (.int (0 : Int32)), (.int (0 : Int32)), (.int (0 : Int32))] (.int (0 : Int32)) := Arv.set Ar52 q52 sz52 nz52 hH52 hG52 rfl W52 12 rfl (Nat.le_of_ble_eq_true rfl)
      have N52 := Fr.snoc X52 N51 g_b39
      have ZH := Nat.le_trans ZH (Nat.le_of_eq W52.size.symm)
      have KK := KK.wr W52 (Or.inr sz_b39)
      have OO := OO.wr W52 g_b39
      refine own_up st52 ?_
      show own_Go p.tables e below _ (T52.setTop (mkF m 210 #[.val (.int p0), .val (.int ((p0 &&& (2147483647 : Int32)) % (3 : Int32))), .val (.ref cL), .unset, .unset, .unset] [(.ref b39)]))
      refine own_up (fun _ k => XS.dup X52.here hx rfl (hb hby at_210) rfl rfl k) ?_
      show own_Go p.tables e below _ (T52.setTop (mkF m 211 #[.val (.int p0), .val (.int ((p0 &&& (2147483647 : Int32)) % (3 : Int32))), .val (.ref cL), .unset, .unset, .unset] [(.ref b39), (.ref b39)]))
      refine own_up (fun _ k => XS.bipush X52.here hx rfl (hb hby at_211) k) ?_
      show own_Go p.tables e below _ (T52.setTop (mkF m 213 #[.val (.int p0), .val (.int ((p0 &&& (2147483647 : Int32)) % (3 : Int32))), .val (.ref cL), .unset, .unset, .unset] [(.int (13 : Int32)), (.ref b39), (.ref b39)]))
      refine own_up (fun _ k => XS.bipush X52.here hx rfl (hb hby at_213) k) ?_
      show own_Go p.tables e below _ (T52.setTop (mkF m 215 #[.val (.int p0), .val (.int ((p0 &&& (2147483647 : Int32)) % (3 : Int32))), .val (.ref cL), .unset, .unset, .unset] [(.int (105 : Int32)), (.int (13 : Int32)), (.ref b39), (.ref b39)]))
      obtain ⟨cl53, Ar53, q53, sz53, nz53, hH53, hG53⟩ := V_b39
      obtain ⟨T53, h53, X53, e53, W53, st53⟩ := stC X52 hx hZ e52 Ar53 (j := (13 : Int32)) (inb_of sz53 ⟨by decide, by decide⟩) (g := (mkF m 215 #[.val (.int p0), .val (.int ((p0 &&& (2147483647 : Int32)) % (3 : Int32))), .val (.ref cL), .unset, .unset, .unset] [(.int (105 : Int32)), (.int (13 : Int32)), (.ref b39), (.ref b39)])) rfl rfl (hb hby at_215)
      have V_b39 : Arv Z h53 b39 k39 .char (16 : Int32) [(.int (108 : Int32)), (.int (111 : Int32)), (.int (110 : Int32)), (.int (103 : Int32)), (.int (45 : Int32)), (.int (116 : Int32)), (.int (114 : Int32)), (.int (97 : Int32)), (.int (110 : Int32)), (.int (115 : Int32)), (.int (97 : Int32)), (.int (99 : Int32)), (.int (116 : Int32)), (.int (105 : Int32)), (.int (0 : Int32)), (.int (0 : Int32))] (.int (0 : Int32)) := Arv.set Ar53 q53 sz53 nz53 hH53 hG53 rfl W53 13 rfl (Nat.le_of_ble_eq_true rfl)
      have N53 := Fr.snoc X53 N52 g_b39
      have ZH := Nat.le_trans ZH (Nat.le_of_eq W53.size.symm)
      have KK := KK.wr W53 (Or.inr sz_b39)
      have OO := OO.wr W53 g_b39
      refine own_up st53 ?_
      show own_Go p.tables e below _ (T53.setTop (mkF m 216 #[.val (.int p0), .val (.int ((p0 &&& (2147483647 : Int32)) % (3 : Int32))), .val (.ref cL), .unset, .unset, .unset] [(.ref b39)]))
      refine own_up (fun _ k => XS.dup X53.here hx rfl (hb hby at_216) rfl rfl k) ?_
      show own_Go p.tables e below _ (T53.setTop (mkF m 217 #[.val (.int p0), .val (.int ((p0 &&& (2147483647 : Int32)) % (3 : Int32))), .val (.ref cL), .unset, .unset, .unset] [(.ref b39), (.ref b39)]))
      refine own_up (fun _ k => XS.bipush X53.here hx rfl (hb hby at_217) k) ?_
      show own_Go p.tables e below _ (T53.setTop (mkF m 219 #[.val (.int p0), .val (.int ((p0 &&& (2147483647 : Int32)) % (3 : Int32))), .val (.ref cL), .unset, .unset, .unset] [(.int (14 : Int32)), (.ref b39), (.ref b39)]))
      refine own_up (fun _ k => XS.bipush X53.here hx rfl (hb hby at_219) k) ?_
      show own_Go p.tables e below _ (T53.setTop (mkF m 221 #[.val (.int p0), .val (.int ((p0 &&& (2147483647 : Int32)) % (3 : Int32))), .val (.ref cL), .unset, .unset, .unset] [(.int (111 : Int32)), (.int (14 : Int32)), (.ref b39), (.ref b39)]))
      obtain ⟨cl54, Ar54, q54, sz54, nz54, hH54, hG54⟩ := V_b39
      obtain ⟨T54, h54, X54, e54, W54, st54⟩ := stC X53 hx hZ e53 Ar54 (j := (14 : Int32)) (inb_of sz54 ⟨by decide, by decide⟩) (g := (mkF m 221 #[.val (.int p0), .val (.int ((p0 &&& (2147483647 : Int32)) % (3 : Int32))), .val (.ref cL), .unset, .unset, .unset] [(.int (111 : Int32)), (.int (14 : Int32)), (.ref b39), (.ref b39)])) rfl rfl (hb hby at_221)
      have V_b39 : Arv Z h54 b39 k39 .char (16 : Int32) [(.int (108 : Int32)), (.int (111 : Int32)), (.int (110 : Int32)), (.int (103 : Int32)), (.int (45 : Int32)), (.int (116 : Int32)), (.int (114 : Int32)), (.int (97 : Int32)), (.int (110 : Int32)), (.int (115 : Int32)), (.int (97 : Int32)), (.int (99 : Int32)), (.int (116 : Int32)), (.int (105 : Int32)), (.int (111 : Int32)), (.int (0 : Int32))] (.int (0 : Int32)) := Arv.set Ar54 q54 sz54 nz54 hH54 hG54 rfl W54 14 rfl (Nat.le_of_ble_eq_true rfl)
      have N54 := Fr.snoc X54 N53 g_b39
      have ZH := Nat.le_trans ZH (Nat.le_of_eq W54.size.symm)
      have KK := KK.wr W54 (Or.inr sz_b39)
      have OO := OO.wr W54 g_b39
      refine own_up st54 ?_
      show own_Go p.tables e below _ (T54.setTop (mkF m 222 #[.val (.int p0), .val (.int ((p0 &&& (2147483647 : Int32)) % (3 : Int32))), .val (.ref cL), .unset, .unset, .unset] [(.ref b39)]))
      refine own_up (fun _ k => XS.dup X54.here hx rfl (hb hby at_222) rfl rfl k) ?_
      show own_Go p.tables e below _ (T54.setTop (mkF m 223 #[.val (.int p0), .val (.int ((p0 &&& (2147483647 : Int32)) % (3 : Int32))), .val (.ref cL), .unset, .unset, .unset] [(.ref b39), (.ref b39)]))
      refine own_up (fun _ k => XS.bipush X54.here hx rfl (hb hby at_223) k) ?_
      show own_Go p.tables e below _ (T54.setTop (mkF m 225 #[.val (.int p0), .val (.int ((p0 &&& (2147483647 : Int32)) % (3 : Int32))), .val (.ref cL), .unset, .unset, .unset] [(.int (15 : Int32)), (.ref b39), (.ref b39)]))
      refine own_up (fun _ k => XS.bipush X54.here hx rfl (hb hby at_225) k) ?_
      show own_Go p.tables e below _ (T54.setTop (mkF m 227 #[.val (.int p0), .val (.int ((p0 &&& (2147483647 : Int32)) % (3 : Int32))), .val (.ref cL), .unset, .unset, .unset] [(.int (110 : Int32)), (.int (15 : Int32)), (.ref b39), (.ref b39)]))
      obtain ⟨cl55, Ar55, q55, sz55, nz55, hH55, hG55⟩ := V_b39
      obtain ⟨T55, h55, X55, e55, W55, st55⟩ := stC X54 hx hZ e54 Ar55 (j := (15 : Int32)) (inb_of sz55 ⟨by decide, by decide⟩) (g := (mkF m 227 #[.val (.int p0), .val (.int ((p0 &&& (2147483647 : Int32)) % (3 : Int32))), .val (.ref cL), .unset, .unset, .unset] [(.int (110 : Int32)), (.int (15 : Int32)), (.ref b39), (.ref b39)])) rfl rfl (hb hby at_227)
      have V_b39 : Arv Z h55 b39 k39 .char (16 : Int32) [(.int (108 : Int32)), (.int (111 : Int32)), (.int (110 : Int32)), (.int (103 : Int32)), (.int (45 : Int32)), (.int (116 : Int32)), (.int (114 : Int32)), (.int (97 : Int32)), (.int (110 : Int32)), (.int (115 : Int32)), (.int (97 : Int32)), (.int (99 : Int32)), (.int (116 : Int32)), (.int (105 : Int32)), (.int (111 : Int32)), (.int (110 : Int32))] (.int (0 : Int32)) := Arv.set Ar55 q55 sz55 nz55 hH55 hG55 rfl W55 15 rfl (Nat.le_of_ble_eq_true rfl)
      have N55 := Fr.snoc X55 N54 g_b39
      have ZH := Nat.le_trans ZH (Nat.le_of_eq W55.size.symm)
      have KK := KK.wr W55 (Or.inr sz_b39)
      have OO := OO.wr W55 g_b39
      refine own_up st55 ?_
      show own_Go p.tables e below _ (T55.setTop (mkF m 228 #[.val (.int p0), .val (.int ((p0 &&& (2147483647 : Int32)) % (3 : Int32))), .val (.ref cL), .unset, .unset, .unset] [(.ref b39)]))
      refine own_up (fun _ k => XS.astoreN X55.here hx rfl (hb hby at_228) rfl rfl (l' := #[.val (.int p0), .val (.int ((p0 &&& (2147483647 : Int32)) % (3 : Int32))), .val (.ref cL), .val (.ref b39), .unset, .unset]) rfl k) ?_
      show own_Go p.tables e below _ (T55.setTop (mkF m 229 #[.val (.int p0), .val (.int ((p0 &&& (2147483647 : Int32)) % (3 : Int32))), .val (.ref cL), .val (.ref b39), .unset, .unset] []))
      obtain ⟨T56, h56, X56, e56, E56, A56, D56, -, st56⟩ := newO X55 hx hZ hown (hw _ (List.mem_of_getElem? (i := 5) rfl)) (hw _ (List.mem_of_getElem? (i := 6) rfl)) (hw _ (List.mem_of_getElem? (i := 7) rfl)) e55 (g := (mkF m 229 #[.val (.int p0), .val (.int ((p0 &&& (2147483647 : Int32)) % (3 : Int32))), .val (.ref cL), .val (.ref b39), .unset, .unset] [])) rfl (hb hby at_229) (by decide) (by decide)
      obtain ⟨b56, gz56⟩ : ∃ z, z = h55.size := ⟨_, rfl⟩
      rw [← gz56] at A56 D56 st56
      have ne_b39_b56 : b39 ≠ b56 := Nat.ne_of_lt (Nat.lt_of_lt_of_le V_b39.lt (Nat.le_of_eq gz56.symm))
      have g_b56 : n0 ≤ b56 := Nat.le_trans ZH (Nat.le_of_eq gz56.symm)
      have sz_b56 : h0.size ≤ b56 := Nat.le_trans KK.1 (Nat.le_of_eq gz56.symm)
      have V_b39 := V_b39.ext E56
      have ZH := Nat.le_trans ZH E56.1
      have KK := KK.ext E56
      have OO := OO.ext E56
      have E_b56 := A56
      have F_coder_b56 : Fld Z h56 b56 "java/lang/String" "coder" "B" (.int (0 : Int32)) := D56 (Or.inr (hw _ (List.mem_of_getElem? (i := 31) rfl))) (ty := .byte) (by decide)
      have F_value_b56 : Fld Z h56 b56 "java/lang/String" "value" "[B" .null := D56 (Or.inr (hw _ (List.mem_of_getElem? (i := 33) rfl))) (ty := (.array .byte)) (by decide)
      refine own_up st56 ?_
      show own_Go p.tables e below _ (T56.setTop (mkF m 232 #[.val (.int p0), .val (.int ((p0 &&& (2147483647 : Int32)) % (3 : Int32))), .val (.ref cL), .val (.ref b39), .unset, .unset] [(.ref b56)]))
      refine own_up (fun _ k => XS.dup X56.here hx rfl (hb hby at_232) rfl rfl k) ?_
      show own_Go p.tables e below _ (T56.setTop (mkF m 233 #[.val (.int p0), .val (.int ((p0 &&& (2147483647 : Int32)) % (3 : Int32))), .val (.ref cL), .val (.ref b39), .unset, .unset] [(.ref b56), (.ref b56)]))
      refine own_up (fun _ k => XS.aloadN X56.here hx rfl (hb hby at_233) rfl rfl k) ?_
      show own_Go p.tables e below _ (T56.setTop (mkF m 234 #[.val (.int p0), .val (.int ((p0 &&& (2147483647 : Int32)) % (3 : Int32))), .val (.ref cL), .val (.ref b39), .unset, .unset] [(.ref b39), (.ref b56), (.ref b56)]))
      obtain ⟨_, _, ⟨T57, L57, k57, n57⟩, -, X57, ⟨Lc57, hQ57, l57, y57, z57⟩, st57⟩ := X56.specialBack hx (y := (⟨"java/lang/String", "<init>", "([C)V"⟩ : MethodName)) rfl hown (mvT hZ (hw _ (List.mem_of_getElem? (i := 8) rfl))) (mvT hZ (hw _ (List.mem_of_getElem? (i := 9) rfl))) (mvT hZ (hw _ (List.mem_of_getElem? (i := 10) rfl))) (by decide) (StrChars.Road.backV (W := 1) hZ hws (kI := 4) (hw _ (List.mem_of_getElem? (i := 6) rfl)) (cs := ([108, 111, 110, 103, 45, 116, 114, 97, 110, 115, 97, 99, 116, 105, 111, 110] : List Int32)) (bs := ([108, 111, 110, 103, 45, 116, 114, 97, 110, 115, 97, 99, 116, 105, 111, 110] : List Int32).map (fun c => c.toInt8.toInt32)) (n := 16) g_b56 ZH E_b56 F_value_b56 F_coder_b56 V_b39 (SC.ext OO.2) hcz rfl rfl (by decide) (by decide) own_hpL rfl (by decide) (by decide)) (g := (mkF m 234 #[.val (.int p0), .val (.int ((p0 &&& (2147483647 : Int32)) % (3 : Int32))), .val (.ref cL), .val (.ref b39), .unset, .unset] [(.ref b39), (.ref b56), (.ref b56)])) rfl (by rw [hml]; rfl) (Steps.refl _) (a := b56) (argsL := [(.ref b39)]) (rest := [(.ref b56)]) (lenOf pd_2 rfl) rfl (by show 2 * 0 + _ ≤ _; exact Nat.le_of_eq rfl) (hb hby at_234) (fun _ _ => ⟨rfl, e56, (by decide : 2 + 1 ≤ _), (by decide : 20 + 16 ≤ _)⟩)
      dsimp only [Pt.U, Pt.locs, Pt.cells, Pt.slots] at X57 l57 y57 z57 st57 hQ57
      subst l57 y57 z57
      obtain ⟨rfl, Nq57, K57, Eq57, C_b56, tb, kt, ub57, vb57, wb57, F_b56, V_tb⟩ := hQ57
      have N57 := Fr.app N55 Nq57
      have V_b39 := V_b39.keep K57 (ninS ne_b39_b56 nin0)
      have E_b56 := E_b56.keep K57
      have ZH := Nat.le_trans ZH K57.1
      have KK := KK.trans K57 (allS (Or.inr sz_b56) all0)
      have OO := OO.keep K57 (allS g_b56 all0)
      refine own_up (fun _ k => st57.trans k) ?_
      show own_Go p.tables e below _ (T57.setTop (mkF m 237 #[.val (.int p0), .val (.int ((p0 &&& (2147483647 : Int32)) % (3 : Int32))), .val (.ref cL), .val (.ref b39), .unset, .unset] [(.ref b56)]))
      refine own_up (fun _ k => XS.astore X57.here hx rfl (hb hby at_237) rfl rfl (l' := #[.val (.int p0), .val (.int ((p0 &&& (2147483647 : Int32)) % (3 : Int32))), .val (.ref cL), .val (.ref b39), .val (.ref b56), .unset]) rfl k) ?_
      show own_Go p.tables e below _ (T57.setTop (mkF m 239 #[.val (.int p0), .val (.int ((p0 &&& (2147483647 : Int32)) % (3 : Int32))), .val (.ref cL), .val (.ref b39), .val (.ref b56), .unset] []))
      refine own_up (fun _ k => XS.aload X57.here hx rfl (hb hby at_239) rfl rfl k) ?_
      show own_Go p.tables e below _ (T57.setTop (mkF m 241 #[.val (.int p0), .val (.int ((p0 &&& (2147483647 : Int32)) % (3 : Int32))), .val (.ref cL), .val (.ref b39), .val (.ref b56), .unset] [(.ref b56)]))
      obtain ⟨_, _, ⟨T58, L58, k58, n58⟩, -, X58, ⟨Lc58, hQ58, l58, y58, z58⟩, st58⟩ := Jvm.LawKit.callS X57 hx (y := (⟨"com/example/remora/remora/jpa/TransactionStrategy", "forLabel", "(Ljava/lang/String;)Lcom/example/remora/remora/jpa/TransactionStrategy;"⟩ : MethodName)) hown (mvT hZ (hw _ (List.mem_of_getElem? (i := 34) rfl))) (mvT hZ (hw _ (List.mem_of_getElem? (i := 35) rfl))) (mvT hZ (hw _ (List.mem_of_getElem? (i := 2) rfl))) (mvT hZ (hw _ (List.mem_of_getElem? (i := 36) rfl))) (by decide) (backOf (W := 0) (rmLL l Z a0 hw [] cz va kv cA lA bA kA cP lP bP kP cL lL bL kL b56 tb kt T57.heap n0 ZH OO HW0 E_b56 F_b56 C_b56 V_tb) hZ (hw _ (List.mem_of_getElem? (i := 36) rfl)) (hw _ (List.mem_of_getElem? (i := 2) rfl)) (by decide) (by decide)) (g := (mkF m 241 #[.val (.int p0), .val (.int ((p0 &&& (2147483647 : Int32)) % (3 : Int32))), .val (.ref cL), .val (.ref b39), .val (.ref b56), .unset] [(.ref b56)])) rfl (by rw [hml]; rfl) (argsL := [(.ref b56)]) (rest := []) (lenOf pd_3 rfl) rfl (by show 2 * 0 + _ ≤ _; exact Nat.le_of_eq rfl) (hb hby at_241) (fun _ _ => ⟨rfl, rfl, (by decide : 3 + 1 ≤ _), (by decide : 36 + 3 ≤ _)⟩)
      dsimp only [Pt.U, Pt.locs, Pt.cells, Pt.slots] at X58 l58 y58 z58 st58 hQ58
      subst l58 y58 z58
      obtain ⟨rfl, Nq58, K58⟩ := hQ58
      have N58 := Fr.app N57 Nq58
      have E_b56 := E_b56.keep K58
      have F_b56 := F_b56.keep K58 nin0
      have C_b56 := C_b56.keep K58 nin0
      have V_tb := V_tb.keep K58 nin0
      have ZH := Nat.le_trans ZH K58.1
      have KK := KK.trans K58 all0
      have OO := OO.keep K58 all0
      refine own_up st58 ?_
      show own_Go p.tables e below _ (T58.setTop (mkF m 244 #[.val (.int p0), .val (.int ((p0 &&& (2147483647 : Int32)) % (3 : Int32))), .val (.ref cL), .val (.ref b39), .val (.ref b56), .unset] [(.ref cL)]))
      refine own_up (fun _ k => XS.astore X58.here hx rfl (hb hby at_244) rfl rfl (l' := #[.val (.int p0), .val (.int ((p0 &&& (2147483647 : Int32)) % (3 : Int32))), .val (.ref cL), .val (.ref b39), .val (.ref b56), .val (.ref cL)]) rfl k) ?_
      show own_Go p.tables e below _ (T58.setTop (mkF m 246 #[.val (.int p0), .val (.int ((p0 &&& (2147483647 : Int32)) % (3 : Int32))), .val (.ref cL), .val (.ref b39), .val (.ref b56), .val (.ref cL)] []))
      refine own_up (fun _ k => XS.aload X58.here hx rfl (hb hby at_246) rfl rfl k) ?_
      show own_Go p.tables e below _ (T58.setTop (mkF m 248 #[.val (.int p0), .val (.int ((p0 &&& (2147483647 : Int32)) % (3 : Int32))), .val (.ref cL), .val (.ref b39), .val (.ref b56), .val (.ref cL)] [(.ref cL)]))
      refine own_up (fun _ k => XS.aloadN X58.here hx rfl (hb hby at_248) rfl rfl k) ?_
      show own_Go p.tables e below _ (T58.setTop (mkF m 249 #[.val (.int p0), .val (.int ((p0 &&& (2147483647 : Int32)) % (3 : Int32))), .val (.ref cL), .val (.ref b39), .val (.ref b56), .val (.ref cL)] [(.ref cL), (.ref cL)]))
      refine own_up (fun _ k => Jvm.RoadKit.acmp (g := (mkF m 249 #[.val (.int p0), .val (.int ((p0 &&& (2147483647 : Int32)) % (3 : Int32))), .val (.ref cL), .val (.ref b39), .val (.ref b56), .val (.ref cL)] [(.ref cL), (.ref cL)])) X58 hx rfl rfl rfl (pc0 := 249) (pc' := 252) (same := true) rfl (hb hby at_249) rfl (decide_eq_true (congrArg Value.ref rfl)) (by decide) (by decide) k) ?_
      show own_Go p.tables e below _ (T58.setTop (mkF m 252 #[.val (.int p0), .val (.int ((p0 &&& (2147483647 : Int32)) % (3 : Int32))), .val (.ref cL), .val (.ref b39), .val (.ref b56), .val (.ref cL)] []))
      refine own_up (fun _ k => XS.aload X58.here hx rfl (hb hby at_252) rfl rfl k) ?_
      show own_Go p.tables e below _ (T58.setTop (mkF m 254 #[.val (.int p0), .val (.int ((p0 &&& (2147483647 : Int32)) % (3 : Int32))), .val (.ref cL), .val (.ref b39), .val (.ref b56), .val (.ref cL)] [(.ref cL)]))
      obtain ⟨cq59, kq59, q59a, q59b, q59c⟩ := isOf hZ rfl (E_cL.ext OO.2)
      obtain ⟨_, _, ⟨T59, L59, k59, n59⟩, -, X59, ⟨Lc59, hQ59, l59, y59, z59⟩, st59⟩ := X58.virtualBack hx (y := (⟨"com/example/remora/remora/jpa/TransactionStrategy", "toString", "()Ljava/lang/String;"⟩ : MethodName)) (z := (⟨"com/example/remora/remora/jpa/TransactionStrategy", "toString", "()Ljava/lang/String;"⟩ : MethodName)) hown (mvT hZ (hw _ (List.mem_of_getElem? (i := 66) rfl))) (mvT hZ (hw _ (List.mem_of_getElem? (i := 67) rfl))) (notFace_of_selects (args := #[]) (mvT hZ (hw _ (List.mem_of_getElem? (i := 69) rfl)))) (mvT hZ (hw _ (List.mem_of_getElem? (i := 69) rfl))) (mvT hZ (hw _ (List.mem_of_getElem? (i := 68) rfl))) (by decide) (backOf (W := 0) (rmT l Z a0 hw [] cL lL T58.heap n0 ZH (FlL.ext OO.2)) hZ (hw _ (List.mem_of_getElem? (i := 70) rfl)) (hw _ (List.mem_of_getElem? (i := 2) rfl)) (by decide) (by decide)) q59a q59c (g := (mkF m 254 #[.val (.int p0), .val (.int ((p0 &&& (2147483647 : Int32)) % (3 : Int32))), .val (.ref cL), .val (.ref b39), .val (.ref b56), .val (.ref cL)] [(.ref cL)])) rfl (by rw [hml]; rfl) (Steps.refl _) (argsL := []) (rest := []) (lenOf pd_4 rfl) rfl (by show 2 * 0 + _ ≤ _; exact Nat.le_of_eq rfl) (hb hby at_254) (fun _ _ => ⟨rfl, rfl, (by decide : 4 + 0 ≤ _), (by decide : 39 + 0 ≤ _)⟩)
      dsimp only [Pt.U, Pt.locs, Pt.cells, Pt.slots] at X59 l59 y59 z59 st59 hQ59
      subst l59 y59 z59
      obtain ⟨rfl, Nq59, e59⟩ := hQ59
      have N59 := Fr.app N58 Nq59
      refine own_up (fun _ k => st59.trans k) ?_
      show own_Go p.tables e below _ (T59.setTop (mkF m 257 #[.val (.int p0), .val (.int ((p0 &&& (2147483647 : Int32)) % (3 : Int32))), .val (.ref cL), .val (.ref b39), .val (.ref b56), .val (.ref cL)] [(.ref lL)]))
      refine own_up (fun _ k => XS.aload X59.here hx rfl (hb hby at_257) rfl rfl k) ?_
      show own_Go p.tables e below _ (T59.setTop (mkF m 259 #[.val (.int p0), .val (.int ((p0 &&& (2147483647 : Int32)) % (3 : Int32))), .val (.ref cL), .val (.ref b39), .val (.ref b56), .val (.ref cL)] [(.ref b56), (.ref lL)]))
      obtain ⟨cq60, kq60, q60a, q60b, q60c⟩ := isOf hZ e59 (ElL.ext OO.2)
      obtain ⟨_, _, ⟨T60, L60, k60, n60⟩, -, X60, ⟨Lc60, hQ60, l60, y60, z60⟩, st60⟩ := X59.virtualBack hx (y := (⟨"java/lang/String", "equals", "(Ljava/lang/Object;)Z"⟩ : MethodName)) (z := (⟨"java/lang/String", "equals", "(Ljava/lang/Object;)Z"⟩ : MethodName)) hown (mvT hZ (hw _ (List.mem_of_getElem? (i := 71) rfl))) (mvT hZ (hw _ (List.mem_of_getElem? (i := 57) rfl))) (notFace_of_selects (args := #[]) (mvT hZ (hw _ (List.mem_of_getElem? (i := 59) rfl)))) (mvT hZ (hw _ (List.mem_of_getElem? (i := 59) rfl))) (mvT hZ (hw _ (List.mem_of_getElem? (i := 58) rfl))) (by decide) (StrChars.Road.eqW (W := 0) hZ heq (kI := 4) (hw _ (List.mem_of_getElem? (i := 6) rfl)) (ElL.ext OO.2) (VlL.ext OO.2) (ClL.ext OO.2) (KlL.ext OO.2) own_cdL (own_up16 _ own_hpL) (Nat.le_of_ble_eq_true rfl) E_b56 F_b56 C_b56 V_tb own_cdL (own_up16 _ own_hpL) (Nat.le_of_ble_eq_true rfl) (SC.ext OO.2) hcz (by decide) (by decide)) q60a q60c (g := (mkF m 259 #[.val (.int p0), .val (.int ((p0 &&& (2147483647 : Int32)) % (3 : Int32))), .val (.ref cL), .val (.ref b39), .val (.ref b56), .val (.ref cL)] [(.ref b56), (.ref lL)])) rfl (by rw [hml]; rfl) (Steps.refl _) (argsL := [(.ref b56)]) (rest := []) (lenOf pd_1 rfl) rfl (by show 2 * 0 + _ ≤ _; exact Nat.le_of_eq rfl) (hb hby at_259) (fun _ _ => ⟨rfl, e59, (by decide : 4 + 0 ≤ _), (by decide : 39 + 0 ≤ _)⟩)
      dsimp only [Pt.U, Pt.locs, Pt.cells, Pt.slots] at X60 l60 y60 z60 st60 hQ60
      subst l60 y60 z60
      obtain ⟨hcase60, rfl, e60⟩ := hQ60
      have hv60 : _ = some (Value.int 1) := hcase60.elim (fun q => q.1) (fun q => absurd rfl q.2)
      subst hv60
      have N60 := Fr.app N59 (Fr.nil n0)
      refine own_up (fun _ k => st60.trans k) ?_
      show own_Go p.tables e below _ (T60.setTop (mkF m 262 #[.val (.int p0), .val (.int ((p0 &&& (2147483647 : Int32)) % (3 : Int32))), .val (.ref cL), .val (.ref b39), .val (.ref b56), .val (.ref cL)] [(.int (1 : Int32))]))
      refine own_up (fun _ k => XS.ifNo X60.here hx rfl (hb hby at_262) rfl ((if0 _ _).trans (feq (by decide : ¬ ((1 : Int32) = (0 : Int32)))).1) k) ?_
      show own_Go p.tables e below _ (T60.setTop (mkF m 265 #[.val (.int p0), .val (.int ((p0 &&& (2147483647 : Int32)) % (3 : Int32))), .val (.ref cL), .val (.ref b39), .val (.ref b56), .val (.ref cL)] []))
      refine own_up (fun _ k => XS.aloadN X60.here hx rfl (hb hby at_265) rfl rfl k) ?_
      show own_Go p.tables e below _ (T60.setTop (mkF m 266 #[.val (.int p0), .val (.int ((p0 &&& (2147483647 : Int32)) % (3 : Int32))), .val (.ref cL), .val (.ref b39), .val (.ref b56), .val (.ref cL)] [(.ref cL)]))
      obtain ⟨cq61, kq61, q61a, q61b, q61c⟩ := isOf hZ e60 (E_cL.ext OO.2)
      obtain ⟨_, _, ⟨T61, L61, k61, n61⟩, -, X61, ⟨Lc61, hQ61, l61, y61, z61⟩, st61⟩ := X60.virtualBack hx (y := (⟨"com/example/remora/remora/jpa/TransactionStrategy", "toString", "()Ljava/lang/String;"⟩ : MethodName)) (z := (⟨"com/example/remora/remora/jpa/TransactionStrategy", "toString", "()Ljava/lang/String;"⟩ : MethodName)) hown (mvT hZ (hw _ (List.mem_of_getElem? (i := 66) rfl))) (mvT hZ (hw _ (List.mem_of_getElem? (i := 67) rfl))) (notFace_of_selects (args := #[]) (mvT hZ (hw _ (List.mem_of_getElem? (i := 69) rfl)))) (mvT hZ (hw _ (List.mem_of_getElem? (i := 69) rfl))) (mvT hZ (hw _ (List.mem_of_getElem? (i := 68) rfl))) (by decide) (backOf (W := 0) (rmT l Z a0 hw [] cL lL T58.heap n0 ZH (FlL.ext OO.2)) hZ (hw _ (List.mem_of_getElem? (i := 70) rfl)) (hw _ (List.mem_of_getElem? (i := 2) rfl)) (by decide) (by decide)) q61a q61c (g := (mkF m 266 #[.val (.int p0), .val (.int ((p0 &&& (2147483647 : Int32)) % (3 : Int32))), .val (.ref cL), .val (.ref b39), .val (.ref b56), .val (.ref cL)] [(.ref cL)])) rfl (by rw [hml]; rfl) (Steps.refl _) (argsL := []) (rest := []) (lenOf pd_4 rfl) rfl (by show 2 * 0 + _ ≤ _; exact Nat.le_of_eq rfl) (hb hby at_266) (fun _ _ => ⟨rfl, e60, (by decide : 4 + 0 ≤ _), (by decide : 39 + 0 ≤ _)⟩)
      dsimp only [Pt.U, Pt.locs, Pt.cells, Pt.slots] at X61 l61 y61 z61 st61 hQ61
      subst l61 y61 z61
      obtain ⟨rfl, Nq61, e61⟩ := hQ61
      have N61 := Fr.app N60 Nq61
      refine own_up (fun _ k => st61.trans k) ?_
      show own_Go p.tables e below _ (T61.setTop (mkF m 269 #[.val (.int p0), .val (.int ((p0 &&& (2147483647 : Int32)) % (3 : Int32))), .val (.ref cL), .val (.ref b39), .val (.ref b56), .val (.ref cL)] [(.ref lL)]))
      refine own_up (fun _ k => XS.aload X61.here hx rfl (hb hby at_269) rfl rfl k) ?_
      show own_Go p.tables e below _ (T61.setTop (mkF m 271 #[.val (.int p0), .val (.int ((p0 &&& (2147483647 : Int32)) % (3 : Int32))), .val (.ref cL), .val (.ref b39), .val (.ref b56), .val (.ref cL)] [(.ref b56), (.ref lL)]))
      obtain ⟨cq62, kq62, q62a, q62b, q62c⟩ := isOf hZ e61 (ElL.ext OO.2)
      obtain ⟨_, _, ⟨T62, L62, k62, n62⟩, -, X62, ⟨Lc62, hQ62, l62, y62, z62⟩, st62⟩ := X61.virtualBack hx (y := (⟨"java/lang/String", "equals", "(Ljava/lang/Object;)Z"⟩ : MethodName)) (z := (⟨"java/lang/String", "equals", "(Ljava/lang/Object;)Z"⟩ : MethodName)) hown (mvT hZ (hw _ (List.mem_of_getElem? (i := 71) rfl))) (mvT hZ (hw _ (List.mem_of_getElem? (i := 57) rfl))) (notFace_of_selects (args := #[]) (mvT hZ (hw _ (List.mem_of_getElem? (i := 59) rfl)))) (mvT hZ (hw _ (List.mem_of_getElem? (i := 59) rfl))) (mvT hZ (hw _ (List.mem_of_getElem? (i := 58) rfl))) (by decide) (StrChars.Road.eqW (W := 0) hZ heq (kI := 4) (hw _ (List.mem_of_getElem? (i := 6) rfl)) (ElL.ext OO.2) (VlL.ext OO.2) (ClL.ext OO.2) (KlL.ext OO.2) own_cdL (own_up16 _ own_hpL) (Nat.le_of_ble_eq_true rfl) E_b56 F_b56 C_b56 V_tb own_cdL (own_up16 _ own_hpL) (Nat.le_of_ble_eq_true rfl) (SC.ext OO.2) hcz (by decide) (by decide)) q62a q62c (g := (mkF m 271 #[.val (.int p0), .val (.int ((p0 &&& (2147483647 : Int32)) % (3 : Int32))), .val (.ref cL), .val (.ref b39), .val (.ref b56), .val (.ref cL)] [(.ref b56), (.ref lL)])) rfl (by rw [hml]; rfl) (Steps.refl _) (argsL := [(.ref b56)]) (rest := []) (lenOf pd_1 rfl) rfl (by show 2 * 0 + _ ≤ _; exact Nat.le_of_eq rfl) (hb hby at_271) (fun _ _ => ⟨rfl, e61, (by decide : 4 + 0 ≤ _), (by decide : 39 + 0 ≤ _)⟩)
      dsimp only [Pt.U, Pt.locs, Pt.cells, Pt.slots] at X62 l62 y62 z62 st62 hQ62
      subst l62 y62 z62
      obtain ⟨hcase62, rfl, e62⟩ := hQ62
      have hv62 : _ = some (Value.int 1) := hcase62.elim (fun q => q.1) (fun q => absurd rfl q.2)
      subst hv62
      have N62 := Fr.app N61 (Fr.nil n0)
      refine own_up (fun _ k => st62.trans k) ?_
      show own_Go p.tables e below _ (T62.setTop (mkF m 274 #[.val (.int p0), .val (.int ((p0 &&& (2147483647 : Int32)) % (3 : Int32))), .val (.ref cL), .val (.ref b39), .val (.ref b56), .val (.ref cL)] [(.int (1 : Int32))]))
      refine own_up (fun _ k => XS.ifNo X62.here hx rfl (hb hby at_274) rfl ((if0 _ _).trans (feq (by decide : ¬ ((1 : Int32) = (0 : Int32)))).1) k) ?_
      show own_Go p.tables e below _ (T62.setTop (mkF m 277 #[.val (.int p0), .val (.int ((p0 &&& (2147483647 : Int32)) % (3 : Int32))), .val (.ref cL), .val (.ref b39), .val (.ref b56), .val (.ref cL)] []))
      refine own_up (fun _ k => XS.iconst X62.here hx rfl (hb hby at_277) k) ?_
      show own_Go p.tables e below _ (T62.setTop (mkF m 278 #[.val (.int p0), .val (.int ((p0 &&& (2147483647 : Int32)) % (3 : Int32))), .val (.ref cL), .val (.ref b39), .val (.ref b56), .val (.ref cL)] [(.int (1 : Int32))]))
      refine own_up (fun _ k => XS.goto X62.here hx rfl (pc0 := 278) (pc' := 282) rfl (hb hby at_278) (by decide) (by decide) k) ?_
      show own_Go p.tables e below _ (T62.setTop (mkF m 282 #[.val (.int p0), .val (.int ((p0 &&& (2147483647 : Int32)) % (3 : Int32))), .val (.ref cL), .val (.ref b39), .val (.ref b56), .val (.ref cL)] [(.int (1 : Int32))]))
      obtain ⟨fs63, hr63, hrun63, hended63, hW63, hsame63⟩ := X62.leave (v := some (.int (1 : Int32))) (fun h => by rw [Bd.returns] at h; cases h)
      refine own_end ⟨_, _, ?_, hrun63, hended63, _, _, rfl, ?_, ⟨_, rfl⟩, hW63, hsame63.mono (by decide) (by decide)⟩
      · exact retN X62 hx (t := .boolean) Bd.returns (by simp) (hb hby at_282) hr63
      · show Qrm0 Z p0 cz va kv cA lA bA kA cP lP bP kP cL lL bL kL h0 n0 _ T62.heap _
        rw [e62]
        exact ⟨rfl, N62⟩
set_option maxRecDepth 65536 in
set_option maxHeartbeats 40000000 in
theorem comes_1 {Post : Tables → Env → Array Value → State → Outcome → State → Prop} (hpost : ∀ tb e args s v u, (limb_1_1.after args s (.returned v) u = true ∧ limb_1_2.after args s (.returned v) u = true ∧ True) → FrameEnd s (.returned v) u (Jvm.fieldLocs frame_1_writes args s ++ Jvm.arrayLocs frame_1_arrays args s ++ Jvm.staticLocs frame_1_statics s) 16 192 → Post tb e args s (.returned v) u) :
    ArmFor flags0 classFile x code maxLocals ret World_1 tables_1 room_1 Calls_1 rest_1 Pre_1 Post := by
  intro l hfl _ _ p e ha hc hk s m args below hf hA hF happ hP
  obtain ⟨hcalls, hrest, hpre⟩ := hP
  obtain ⟨-, -, -, hnamed, -, -, -, hat⟩ := (Spec.applies_iff hf).mp happ
  obtain ⟨hg, hn⟩ := and_e (Cond.before_iff.mp (show (Jvm.Cond.and given_1 narrow_1).before args s = true from hpre))
  obtain ⟨gA0, gB0⟩ := and_e hg
  obtain ⟨w0, rfl⟩ : ∃ w0 : Value, args = #[w0] := by
    have hs : args.size = 1 := by simpa [Cond.value, given_1] using gA0
    obtain ⟨L⟩ := args
    match L, hs with
    | [w0], _ => exact ⟨w0, rfl⟩
  have hw := fun d (hd : d ∈ tables_1) => atoms_spec (ws := Jvm.Cond.code x code maxLocals ret :: tables_1) hat d (List.mem_cons_of_mem _ hd)
  have hfit : Fit s := fun {y c} hc i hi => by
    obtain ⟨ha, rfl⟩ := Array.getElem?_eq_some_iff.mp hc
    have q := List.all_eq_true.mp ((Array.all_eq_true_iff_forall_mem.mp hF) _ (Array.getElem_mem ha)) i (List.mem_range.mpr hi)
    simpa [Array.getElem?_eq_getElem hi] using q
  obtain ⟨i0, ei0⟩ := is_v gB0
  obtain rfl : w0 = (.int i0) := Option.some.inj ei0
  obtain ⟨n0, nB0⟩ := and_e hn
  obtain ⟨n1, nB1⟩ := and_e nB0
  obtain ⟨n2, nB2⟩ := and_e nB1
  obtain ⟨n3, nB3⟩ := and_e nB2
  obtain ⟨n4, nB4⟩ := and_e nB3
  obtain ⟨n5, nB5⟩ := and_e nB4
  obtain ⟨n6, nB6⟩ := and_e nB5
  obtain ⟨n7, nB7⟩ := and_e nB6
  obtain ⟨n8, nB8⟩ := and_e nB7
  obtain ⟨n9, nB9⟩ := and_e nB8
  obtain ⟨n10, nB10⟩ := and_e nB9
  obtain ⟨n11, nB11⟩ := and_e nB10
  obtain ⟨n12, nB12⟩ := and_e nB11
  obtain ⟨n13, nB13⟩ := and_e nB12
  obtain ⟨n14, nB14⟩ := and_e nB13
  obtain ⟨n15, nB15⟩ := and_e nB14
  obtain ⟨n16, nB16⟩ := and_e nB15
  obtain ⟨n17, nB17⟩ := and_e nB16
  obtain ⟨n18, nB18⟩ := and_e nB17
  obtain ⟨n19, nB19⟩ := and_e nB18
  obtain ⟨n20, nB20⟩ := and_e nB19
  obtain ⟨n21, nB21⟩ := and_e nB20
  obtain ⟨n22, nB22⟩ := and_e nB21
  obtain ⟨n23, nB23⟩ := and_e nB22
  obtain ⟨n24, nB24⟩ := and_e nB23
  obtain ⟨n25, nB25⟩ := and_e nB24
  obtain ⟨n26, nB26⟩ := and_e nB25
  obtain ⟨n27, nB27⟩ := and_e nB26
  obtain ⟨n28, nB28⟩ := and_e nB27
  obtain ⟨n29, nB29⟩ := and_e nB28
  obtain ⟨n30, nB30⟩ := and_e nB29
  obtain ⟨n31, nB31⟩ := and_e nB30
  obtain ⟨n32, nB32⟩ := and_e nB31
  obtain ⟨n33, nB33⟩ := and_e nB32
  obtain ⟨n34, nB34⟩ := and_e nB33
  obtain ⟨n35, nB35⟩ := and_e nB34
  obtain ⟨n36, nB36⟩ := and_e nB35
  obtain ⟨n37, nB37⟩ := and_e nB36
  obtain ⟨n38, nB38⟩ := and_e nB37
  obtain ⟨n39, nB39⟩ := and_e nB38
  obtain ⟨n40, nB40⟩ := and_e nB39
  obtain ⟨n41, nB41⟩ := and_e nB40
  obtain ⟨n42, nB42⟩ := and_e nB41
  obtain ⟨n43, nB43⟩ := and_e nB42
  obtain ⟨n44, nB44⟩ := and_e nB43
  obtain ⟨n45, nB45⟩ := and_e nB44
  obtain ⟨n46, nB46⟩ := and_e nB45
  obtain ⟨n47, nB47⟩ := and_e nB46
  obtain ⟨n48, nB48⟩ := and_e nB47
  obtain ⟨n49, nB49⟩ := and_e nB48
  obtain ⟨n50, nB50⟩ := and_e nB49
  obtain ⟨n51, nB51⟩ := and_e nB50
  obtain ⟨n52, nB52⟩ := and_e nB51
  obtain ⟨hsets, hown0⟩ := atoms_of _ (rest_1_c_eq ▸ (show rest_1_c.before _ s = true from hrest))
  obtain ⟨cz, evz⟩ := is_v (Cond.before_iff.mp (hsets _ (List.mem_of_getElem? (i := 1) rfl)))
  have hcz : ¬ cz = 0 := gotF (Cond.eq_ints evz (Term.int_eval 0)) (not_v (Cond.before_iff.mp (hsets _ (List.mem_of_getElem? (i := 2) rfl))))
  have SC := Sta.start evz (Or.inl (hsets _ (List.mem_of_getElem? (i := 0) rfl)))
  obtain ⟨cA, evA⟩ := exa_v n0
  have S_cA := Sta.start evA (Or.inr ⟨(hw _ (List.mem_of_getElem? (i := 2) rfl)), (hw _ (List.mem_of_getElem? (i := 3) rfl))⟩)
  have E_cA := Exa.start evA n0
  obtain ⟨cP, evP⟩ := exa_v n5
  have S_cP := Sta.start evP (Or.inr ⟨(hw _ (List.mem_of_getElem? (i := 2) rfl)), (hw _ (List.mem_of_getElem? (i := 49) rfl))⟩)
  have E_cP := Exa.start evP n5
  obtain ⟨cL, evL⟩ := exa_v n7
  have S_cL := Sta.start evL (Or.inr ⟨(hw _ (List.mem_of_getElem? (i := 2) rfl)), (hw _ (List.mem_of_getElem? (i := 50) rfl))⟩)
  have E_cL := Exa.start evL n7
  obtain ⟨va, evva⟩ := exa_v n2
  have E_va := Exa.start evva n2
  have S_va := Sta.start evva (Or.inr ⟨(hw _ (List.mem_of_getElem? (i := 2) rfl)), (hw _ (List.mem_of_getElem? (i := 41) rfl))⟩)
  obtain ⟨clv, Av⟩ := Arr.start evva n1
  obtain ⟨lv1, lv2⟩ := own_len (own_eqi n3) evva Av
  have ve0 := (elem_in (own_eqr n4 evA) evva (Term.int_eval 0) Av.1).2
  have ve1 := (elem_in (own_eqr n6 evP) evva (Term.int_eval 1) Av.1).2
  have ve2 := (elem_in (own_eqr n8 evL) evva (Term.int_eval 2) Av.1).2
  have V_va : Arv s s.heap va clv.cls (.object "com/example/remora/remora/jpa/TransactionStrategy") (3 : Int32) [(.ref cA), (.ref cP), (.ref cL)] .null := Arv.start hfit Av lv1 lv2 (by decide) rfl (And.intro ve0 (And.intro ve1 (And.intro ve2 trivial)))
  obtain ⟨lA, evlA⟩ := exa_v n9
  have ElA := Exa.start evlA n9
  have FlA := Fld.start ((fld_at evA).symm.trans evlA)
  have ClA := Fld.start ((fld_at evlA).symm.trans (own_eqi n10))
  obtain ⟨bA, evbA⟩ := arr_v n11
  have VlA := Fld.start ((fld_at evlA).symm.trans evbA)
  obtain ⟨clA, AA⟩ := Arr.start evbA n11
  obtain ⟨w1A, w2A⟩ := own_len (own_eqi n12) evbA AA
  have uA0 := (elem_in (own_eqi n21) evbA (Term.int_eval 0) AA.1).2
  have uA1 := (elem_in (own_eqi n22) evbA (Term.int_eval 1) AA.1).2
  have uA2 := (elem_in (own_eqi n23) evbA (Term.int_eval 2) AA.1).2
  have uA3 := (elem_in (own_eqi n24) evbA (Term.int_eval 3) AA.1).2
  have uA4 := (elem_in (own_eqi n25) evbA (Term.int_eval 4) AA.1).2
  have uA5 := (elem_in (own_eqi n26) evbA (Term.int_eval 5) AA.1).2
  have KlA : Arv s s.heap bA clA.cls .byte (6 : Int32) ((([97, 116, 111, 109, 105, 99] : List Int32).map (fun c => c.toInt8.toInt32)).map Value.int) (.int 0) := Arv.start hfit AA w1A w2A (by decide) rfl (And.intro uA0 (And.intro uA1 (And.intro uA2 (And.intro uA3 (And.intro uA4 (And.intro uA5 trivial))))))
  obtain ⟨lP, evlP⟩ := exa_v n13
  have ElP := Exa.start evlP n13
  have FlP := Fld.start ((fld_at evP).symm.trans evlP)
  have ClP := Fld.start ((fld_at evlP).symm.trans (own_eqi n14))
  obtain ⟨bP, evbP⟩ := arr_v n15
  have VlP := Fld.start ((fld_at evlP).symm.trans evbP)
  obtain ⟨clP, AP⟩ := Arr.start evbP n15
  obtain ⟨w1P, w2P⟩ := own_len (own_eqi n16) evbP AP
  have uP0 := (elem_in (own_eqi n27) evbP (Term.int_eval 0) AP.1).2
  have uP1 := (elem_in (own_eqi n28) evbP (Term.int_eval 1) AP.1).2
  have uP2 := (elem_in (own_eqi n29) evbP (Term.int_eval 2) AP.1).2
  have uP3 := (elem_in (own_eqi n30) evbP (Term.int_eval 3) AP.1).2
  have uP4 := (elem_in (own_eqi n31) evbP (Term.int_eval 4) AP.1).2
  have uP5 := (elem_in (own_eqi n32) evbP (Term.int_eval 5) AP.1).2
  have uP6 := (elem_in (own_eqi n33) evbP (Term.int_eval 6) AP.1).2
  have uP7 := (elem_in (own_eqi n34) evbP (Term.int_eval 7) AP.1).2
  have uP8 := (elem_in (own_eqi n35) evbP (Term.int_eval 8) AP.1).2
  have uP9 := (elem_in (own_eqi n36) evbP (Term.int_eval 9) AP.1).2
  have uP10 := (elem_in (own_eqi n37) evbP (Term.int_eval 10) AP.1).2
  have KlP : Arv s s.heap bP clP.cls .byte (11 : Int32) ((([112, 101, 114, 45, 114, 101, 113, 117, 101, 115, 116] : List Int32).map (fun c => c.toInt8.toInt32)).map Value.int) (.int 0) := Arv.start hfit AP w1P w2P (by decide) rfl (And.intro uP0 (And.intro uP1 (And.intro uP2 (And.intro uP3 (And.intro uP4 (And.intro uP5 (And.intro uP6 (And.intro uP7 (And.intro uP8 (And.intro uP9 (And.intro uP10 trivial)))))))))))
  obtain ⟨lL, evlL⟩ := exa_v n17
  have ElL := Exa.start evlL n17
  have FlL := Fld.start ((fld_at evL).symm.trans evlL)
  have ClL := Fld.start ((fld_at evlL).symm.trans (own_eqi n18))
  obtain ⟨bL, evbL⟩ := arr_v n19
  have VlL := Fld.start ((fld_at evlL).symm.trans evbL)
  obtain ⟨clL, AL⟩ := Arr.start evbL n19
  obtain ⟨w1L, w2L⟩ := own_len (own_eqi n20) evbL AL
  have uL0 := (elem_in (own_eqi n38) evbL (Term.int_eval 0) AL.1).2
  have uL1 := (elem_in (own_eqi n39) evbL (Term.int_eval 1) AL.1).2
  have uL2 := (elem_in (own_eqi n40) evbL (Term.int_eval 2) AL.1).2
  have uL3 := (elem_in (own_eqi n41) evbL (Term.int_eval 3) AL.1).2
  have uL4 := (elem_in (own_eqi n42) evbL (Term.int_eval 4) AL.1).2
  have uL5 := (elem_in (own_eqi n43) evbL (Term.int_eval 5) AL.1).2
  have uL6 := (elem_in (own_eqi n44) evbL (Term.int_eval 6) AL.1).2
  have uL7 := (elem_in (own_eqi n45) evbL (Term.int_eval 7) AL.1).2
  have uL8 := (elem_in (own_eqi n46) evbL (Term.int_eval 8) AL.1).2
  have uL9 := (elem_in (own_eqi n47) evbL (Term.int_eval 9) AL.1).2
  have uL10 := (elem_in (own_eqi n48) evbL (Term.int_eval 10) AL.1).2
  have uL11 := (elem_in (own_eqi n49) evbL (Term.int_eval 11) AL.1).2
  have uL12 := (elem_in (own_eqi n50) evbL (Term.int_eval 12) AL.1).2
  have uL13 := (elem_in (own_eqi n51) evbL (Term.int_eval 13) AL.1).2
  have uL14 := (elem_in (own_eqi n52) evbL (Term.int_eval 14) AL.1).2
  have uL15 := (elem_in (own_eqi nB52) evbL (Term.int_eval 15) AL.1).2
  have KlL : Arv s s.heap bL clL.cls .byte (16 : Int32) ((([108, 111, 110, 103, 45, 116, 114, 97, 110, 115, 97, 99, 116, 105, 111, 110] : List Int32).map (fun c => c.toInt8.toInt32)).map Value.int) (.int 0) := Arv.start hfit AL w1L w2L (by decide) rfl (And.intro uL0 (And.intro uL1 (And.intro uL2 (And.intro uL3 (And.intro uL4 (And.intro uL5 (And.intro uL6 (And.intro uL7 (And.intro uL8 (And.intro uL9 (And.intro uL10 (And.intro uL11 (And.intro uL12 (And.intro uL13 (And.intro uL14 (And.intro uL15 trivial))))))))))))))))
  have HW : own_W s cz va clv.cls cA lA bA clA.cls cP lP bP clP.cls cL lL bL clL.cls := ⟨SC, hcz, S_va, E_va, V_va, S_cA, E_cA, FlA, ElA, ClA, VlA, KlA, S_cP, E_cP, FlP, ElP, ClP, VlP, KlP, S_cL, E_cL, FlL, ElL, ClL, VlL, KlL⟩
  obtain ⟨n, o, h1, h2, h3, _, L, rfl, ⟨rfl, N⟩, hq⟩ := rm0 l s _ hw tables_1 i0 cz va clv.cls cA lA bA clA.cls cP lP bP clP.cls cL lL bL clL.cls s.heap s.heap.size (Nat.le_refl _) (Old.start s) HW p e ha hc hk s m _ below hf ((Spec.applies_iff_loose hf).mp happ).1 ⟨rfl, State.Warmed39.refl s, rfl⟩ trivial
  refine ⟨n, _, h1, h2, h3, hpost _ _ _ _ _ _ ⟨Cond.after_iff.mpr rfl, Cond.after_iff.mpr (eq_i res_at (Term.int_eval (1)) rfl), trivial⟩ ⟨hq.1, hq.2.1, (hq.2.2.sift fun y hy => Or.inr (N y hy)).mono (by decide) (by decide)⟩⟩
theorem main_1_1 : Claimed_1_1 := comes_1 fun _ _ _ _ _ _ h hF => ⟨h.1, hF⟩
theorem main_1_2 : Claimed_1_2 := comes_1 fun _ _ _ _ _ _ h hF => ⟨h.2.1, hF⟩
end Jvm.Pilot.@@N@@
namespace Jvm.Pilot.@@N@@
open Jvm Jvm.ClassFile Sem Op Lib Jvm.Free Jvm.Stand Jvm.Pilot.@@N@@.Jvm.D
/-! MADE BY PROGRAM (witnessworld.py) out of the Statement's table words and the real class files: 22 classes; the members and pool entries that the words name. The judged class is class 1, her method 1. -/
namespace start1
open Jvm.ClassFile
def u (s : String) : CpInfo := .utf8 (stringToUtf16 s)
/-- a pool by its gaps: so many unusable entries, then the entry; so many at the end -/
def gap : Nat → List CpInfo → List CpInfo
  | 0, r => r
  | n + 1, r => .unusable :: gap n r
def poolList (es : List (Nat × CpInfo)) (last : Nat) : List CpInfo := es.foldr (fun e r => gap e.1 (e.2 :: r)) (gap last [])
def pool (es : List (Nat × CpInfo)) (last : Nat) : Array CpInfo := ⟨poolList es last⟩
def fileOf (pool : Array CpInfo) (this : Nat) (attrs : Array Attribute := #[]) (ms : Array MethodInfo := #[]) (fl : Nat := 33) (sup : Nat := 0) (ifs : Array Nat := #[]) (fds : Array FieldInfo := #[]) : ClassFile where
  minorVersion := 0
  majorVersion := 65
  constantPool := pool
  accessFlags := fl
  thisClass := this
  superClass := sup
  interfaces := ifs
  fields := fds
  methods := ms
  attributes := attrs
def plain (name : String) (sup : Option ClassId) : Class where
  name := name
  kind := .ordinary
  loader := none
  accessFlags := 33
  super := sup
  interfaces := #[]
  cf := none
  fields := #[]
  methods := #[]
  instanceTypes := #[]
  staticTypes := #[]
  resolved := #[]
  callSites := []
  init := .initialized
  statics := none
  mirror := none

def pool0 : Array CpInfo := pool [(5, u "<init>"), (0, u "()V"), (1, .class_ 10), (1, u "java/lang/Object"), (85, u "clone"), (0, u "()Ljava/lang/Object;")] 26

def k0c0 : Code := { maxStack := 0, maxLocals := 1, code := object_method_1_code, exceptionTable := #[], attributes := #[] }
def k0m0 : Method := { name := "<init>", desc := "()V", sig := { parameters := [], returnType := none }, accessFlags := 1, code := some k0c0 }
def k0m1 : Method := { name := "clone", desc := "()Ljava/lang/Object;", sig := { parameters := [], returnType := some (.object "java/lang/Object") }, accessFlags := 260, code := none }
/-- java/lang/Object -/
def k0 : Class := { plain "java/lang/Object" none with
  accessFlags := 33
  interfaces := #[]
  cf := some (fileOf pool0 8 #[] #[{ accessFlags := 1, nameIndex := 5, descriptorIndex := 6, attributes := #[] }, { accessFlags := 260, nameIndex := 96, descriptorIndex := 97, attributes := #[] }] 33 0 #[] #[])
  fields := #[]
  methods := #[k0m0, k0m1]
  instanceTypes := #[]
  staticTypes := #[]
  resolved := Array.replicate 124 none
  statics := none }

def pool1 : Array CpInfo := pool [(2, .class_ 4), (1, u "java/lang/Object"), (0, u "<init>"), (0, u "()V"), (0, .integer 2147483647), (0, .fieldref 9 10), (0, .class_ 11), (0, .nameAndType 12 13), (0, u "com/example/remora/remora/jpa/TransactionStrategy"), (0, u "ATOMIC"), (0, u "Lcom/example/remora/remora/jpa/TransactionStrategy;"), (0, .fieldref 9 15), (0, .nameAndType 16 13), (0, u "PER_REQUEST"), (0, .fieldref 9 18), (0, .nameAndType 19 13), (0, u "LONG_TRANSACTION"), (0, .class_ 21), (0, u "java/lang/String"), (0, .methodref 20 23), (0, .nameAndType 5 24), (0, u "([C)V"), (0, .methodref 9 26), (0, .nameAndType 27 28), (0, u "forLabel"), (0, u "(Ljava/lang/String;)Lcom/example/remora/remora/jpa/TransactionStrategy;"), (0, .methodref 9 30), (0, .nameAndType 31 32), (0, u "toString"), (0, u "()Ljava/lang/String;"), (0, .methodref 20 34), (0, .nameAndType 35 36), (0, u "equals"), (0, u "(Ljava/lang/Object;)Z"), (0, .class_ 38), (0, u "com/example/remora/remora/jpa/TransactionStrategyForLabelPinLaw"), (2, u "law"), (0, u "(I)Z")] 5

def k1m0 : Method := { name := "<init>", desc := "()V", sig := { parameters := [], returnType := none }, accessFlags := 1, code := none }
def k1c1 : Code := { maxStack := 4, maxLocals := 6, code := code, exceptionTable := #[], attributes := #[] }
def k1m1 : Method := { name := "law", desc := "(I)Z", sig := { parameters := [.int], returnType := some .boolean }, accessFlags := 9, code := some k1c1 }
/-- com/example/remora/remora/jpa/TransactionStrategyForLabelPinLaw -/
def k1 : Class := { plain "com/example/remora/remora/jpa/TransactionStrategyForLabelPinLaw" (some 0) with
  accessFlags := 49
  interfaces := #[]
  cf := some (fileOf pool1 37 #[] #[{ accessFlags := 1, nameIndex := 5, descriptorIndex := 6, attributes := #[] }, { accessFlags := 9, nameIndex := 41, descriptorIndex := 42, attributes := #[] }] 49 2 #[] #[])
  fields := #[]
  methods := #[k1m0, k1m1]
  instanceTypes := #[]
  staticTypes := #[]
  resolved := Array.replicate 48 none
  statics := none }

def pool2 : Array CpInfo := pool [(1, .class_ 2), (0, u "java/lang/constant/Constable"), (0, .class_ 4), (0, u "java/lang/Object")] 6

/-- java/lang/constant/Constable -/
def k2 : Class := { plain "java/lang/constant/Constable" (some 0) with
  accessFlags := 1537
  interfaces := #[]
  cf := some (fileOf pool2 1 #[] #[] 1537 3 #[] #[])
  fields := #[]
  methods := #[]
  instanceTypes := #[]
  staticTypes := #[]
  resolved := Array.replicate 11 none
  statics := none }

def pool3 : Array CpInfo := pool [(1, .class_ 2), (0, u "java/lang/Comparable"), (0, .class_ 4), (0, u "java/lang/Object")] 7

/-- java/lang/Comparable -/
def k3 : Class := { plain "java/lang/Comparable" (some 0) with
  accessFlags := 1537
  interfaces := #[]
  cf := some (fileOf pool3 1 #[] #[] 1537 3 #[] #[])
  fields := #[]
  methods := #[]
  instanceTypes := #[]
  staticTypes := #[]
  resolved := Array.replicate 12 none
  statics := none }

def pool4 : Array CpInfo := pool [(1, .class_ 2), (0, u "java/io/Serializable"), (0, .class_ 4), (0, u "java/lang/Object")] 2

/-- java/io/Serializable -/
def k4 : Class := { plain "java/io/Serializable" (some 0) with
  accessFlags := 1537
  interfaces := #[]
  cf := some (fileOf pool4 1 #[] #[] 1537 3 #[] #[])
  fields := #[]
  methods := #[]
  instanceTypes := #[]
  staticTypes := #[]
  resolved := Array.replicate 7 none
  statics := none }

def pool5 : Array CpInfo := pool [(2, .class_ 4), (1, u "java/lang/Enum"), (0, u "name"), (0, u "Ljava/lang/String;"), (2, u "ordinal"), (0, u "I"), (1, .class_ 14), (1, u "java/lang/Object"), (4, u "hash"), (86, .class_ 108), (1, u "java/lang/Enum$EnumDesc"), (2, .class_ 112), (0, u "java/lang/constant/Constable"), (0, .class_ 114), (0, u "java/lang/Comparable"), (0, .class_ 116), (0, u "java/io/Serializable")] 87

/-- java/lang/Enum -/
def k5 : Class := { plain "java/lang/Enum" (some 0) with
  accessFlags := 1057
  interfaces := #[2, 3, 4]
  cf := some (fileOf pool5 2 #[.nestMembers #[106]] #[] 1057 12 #[111, 113, 115] #[{ accessFlags := 18, nameIndex := 5, descriptorIndex := 6, attributes := #[] }, { accessFlags := 18, nameIndex := 9, descriptorIndex := 10, attributes := #[] }, { accessFlags := 2, nameIndex := 19, descriptorIndex := 10, attributes := #[] }])
  fields := #[{ name := "name", type := (.object "java/lang/String"), accessFlags := 18, slot := 0, constantValue := 0 }, { name := "ordinal", type := .int, accessFlags := 18, slot := 1, constantValue := 0 }, { name := "hash", type := .int, accessFlags := 2, slot := 2, constantValue := 0 }]
  methods := #[]
  instanceTypes := #[(.object "java/lang/String"), .int, .int]
  staticTypes := #[]
  resolved := Array.replicate 204 none
  statics := none }

def pool6 : Array CpInfo := pool [(1, .class_ 2), (0, u "com/example/remora/remora/jpa/TransactionStrategy"), (2, u "ATOMIC"), (0, u "Lcom/example/remora/remora/jpa/TransactionStrategy;"), (2, u "PER_REQUEST"), (2, u "LONG_TRANSACTION"), (0, .fieldref 1 14), (0, .nameAndType 15 16), (0, u "$VALUES"), (0, u "[Lcom/example/remora/remora/jpa/TransactionStrategy;"), (0, .methodref 18 19), (0, .class_ 16), (0, .nameAndType 20 21), (0, u "clone"), (0, u "()Ljava/lang/Object;"), (1, .class_ 25), (1, u "java/lang/Enum"), (6, .fieldref 1 33), (0, .nameAndType 34 35), (0, u "label"), (0, u "Ljava/lang/String;"), (0, .methodref 1 37), (0, .nameAndType 38 39), (0, u "values"), (0, u "()[Lcom/example/remora/remora/jpa/TransactionStrategy;"), (0, .methodref 41 42), (0, .class_ 43), (0, .nameAndType 44 45), (0, u "java/lang/String"), (0, u "equals"), (0, u "(Ljava/lang/Object;)Z"), (54, u "(Ljava/lang/String;)Lcom/example/remora/remora/jpa/TransactionStrategy;"), (2, u "forLabel"), (1, u "toString"), (0, u "()Ljava/lang/String;")] 34

def k6c0 : Code := { maxStack := 1, maxLocals := 0, code := prog_14_method_1_code, exceptionTable := #[], attributes := #[] }
def k6m0 : Method := { name := "values", desc := "()[Lcom/example/remora/remora/jpa/TransactionStrategy;", sig := { parameters := [], returnType := some (.array (.object "com/example/remora/remora/jpa/TransactionStrategy")) }, accessFlags := 9, code := some k6c0 }
def k6c1 : Code := { maxStack := 4, maxLocals := 5, code := prog_14_method_4_code, exceptionTable := #[], attributes := #[] }
def k6m1 : Method := { name := "forLabel", desc := "(Ljava/lang/String;)Lcom/example/remora/remora/jpa/TransactionStrategy;", sig := { parameters := [(.object "java/lang/String")], returnType := some (.object "com/example/remora/remora/jpa/TransactionStrategy") }, accessFlags := 9, code := some k6c1 }
def k6c2 : Code := { maxStack := 1, maxLocals := 1, code := prog_14_method_5_code, exceptionTable := #[], attributes := #[] }
def k6m2 : Method := { name := "toString", desc := "()Ljava/lang/String;", sig := { parameters := [], returnType := some (.object "java/lang/String") }, accessFlags := 1, code := some k6c2 }
/-- com/example/remora/remora/jpa/TransactionStrategy -/
def k6 : Class := { plain "com/example/remora/remora/jpa/TransactionStrategy" (some 5) with
  accessFlags := 16433
  interfaces := #[]
  cf := some (fileOf pool6 1 #[] #[{ accessFlags := 9, nameIndex := 38, descriptorIndex := 39, attributes := #[] }, { accessFlags := 9, nameIndex := 103, descriptorIndex := 100, attributes := #[] }, { accessFlags := 1, nameIndex := 105, descriptorIndex := 106, attributes := #[] }] 16433 23 #[] #[{ accessFlags := 16409, nameIndex := 5, descriptorIndex := 6, attributes := #[] }, { accessFlags := 16409, nameIndex := 9, descriptorIndex := 6, attributes := #[] }, { accessFlags := 16409, nameIndex := 12, descriptorIndex := 6, attributes := #[] }, { accessFlags := 18, nameIndex := 34, descriptorIndex := 35, attributes := #[] }, { accessFlags := 4122, nameIndex := 15, descriptorIndex := 16, attributes := #[] }])
  fields := #[{ name := "ATOMIC", type := (.object "com/example/remora/remora/jpa/TransactionStrategy"), accessFlags := 16409, slot := 0, constantValue := 0 }, { name := "PER_REQUEST", type := (.object "com/example/remora/remora/jpa/TransactionStrategy"), accessFlags := 16409, slot := 1, constantValue := 0 }, { name := "LONG_TRANSACTION", type := (.object "com/example/remora/remora/jpa/TransactionStrategy"), accessFlags := 16409, slot := 2, constantValue := 0 }, { name := "label", type := (.object "java/lang/String"), accessFlags := 18, slot := 3, constantValue := 0 }, { name := "$VALUES", type := (.array (.object "com/example/remora/remora/jpa/TransactionStrategy")), accessFlags := 4122, slot := 3, constantValue := 0 }]
  methods := #[k6m0, k6m1, k6m2]
  instanceTypes := #[(.object "java/lang/String"), .int, .int, (.object "java/lang/String")]
  staticTypes := #[(.object "com/example/remora/remora/jpa/TransactionStrategy"), (.object "com/example/remora/remora/jpa/TransactionStrategy"), (.object "com/example/remora/remora/jpa/TransactionStrategy"), (.array (.object "com/example/remora/remora/jpa/TransactionStrategy"))]
  resolved := Array.replicate 141 none
  statics := some 0 }

def pool7 : Array CpInfo := pool [(2, .class_ 4), (1, u "java/lang/CharSequence"), (42, .class_ 48), (0, u "java/lang/CharSequence$1CodePointIterator"), (10, .class_ 60), (0, u "java/lang/CharSequence$1CharIterator"), (5, .class_ 67), (0, u "java/lang/Object")] 63

/-- java/lang/CharSequence -/
def k7 : Class := { plain "java/lang/CharSequence" (some 0) with
  accessFlags := 1537
  interfaces := #[]
  cf := some (fileOf pool7 2 #[.nestMembers #[47, 59]] #[] 1537 66 #[] #[])
  fields := #[]
  methods := #[]
  instanceTypes := #[]
  staticTypes := #[]
  resolved := Array.replicate 131 none
  statics := none }

def pool8 : Array CpInfo := pool [(1, .class_ 2), (0, u "java/lang/constant/ConstantDesc"), (0, .class_ 4), (0, u "java/lang/Object")] 32

/-- java/lang/constant/ConstantDesc -/
def k8 : Class := { plain "java/lang/constant/ConstantDesc" (some 0) with
  accessFlags := 1537
  interfaces := #[]
  cf := some (fileOf pool8 1 #[] #[] 1537 3 #[] #[])
  fields := #[]
  methods := #[]
  instanceTypes := #[]
  staticTypes := #[]
  resolved := Array.replicate 37 none
  statics := none }

def pool9 : Array CpInfo := pool [(1, .methodref 2 3), (0, .class_ 4), (0, .nameAndType 5 6), (0, u "java/lang/Object"), (0, u "<init>"), (0, u "()V"), (2, .fieldref 10 11), (0, .class_ 12), (0, .nameAndType 13 14), (0, u "java/lang/String"), (0, u "value"), (0, u "[B"), (0, .fieldref 10 16), (0, .nameAndType 17 18), (0, u "coder"), (0, u "B"), (2, u "hash"), (0, u "I"), (2, u "hashIsZero"), (0, u "Z"), (0, .methodref 10 28), (0, .nameAndType 5 29), (0, u "([CIILjava/lang/Void;)V"), (8, .fieldref 10 39), (0, .nameAndType 40 26), (0, u "COMPACT_STRINGS"), (1, .class_ 44), (1, u "java/lang/StringUTF16"), (0, u "compress"), (1, .methodref 42 48), (0, .nameAndType 49 50), (0, u "coderFromArrayLen"), (0, u "([BI)B"), (56, .class_ 109), (1, u "java/lang/StringLatin1"), (67, .methodref 42 178), (0, .nameAndType 45 179), (0, u "([CII)[B"), (361, .methodref 107 542), (0, .nameAndType 543 544), (0, u "equals"), (0, u "([B[B)Z"), (28, u "(Ljava/lang/Object;)Z"), (1, .class_ 576), (0, u "java/lang/CharSequence"), (22, u "CASE_INSENSITIVE_ORDER"), (0, u "Ljava/util/Comparator;"), (409, u "([C)V"), (90, u "serialPersistentFields"), (0, u "[Ljava/io/ObjectStreamField;"), (0, .class_ 1104), (0, u "java/lang/String$CaseInsensitiveComparator"), (1, .class_ 1107), (0, u "java/io/Serializable"), (0, .class_ 1109), (0, u "java/lang/Comparable"), (0, .class_ 1111), (0, u "java/lang/constant/Constable"), (0, .class_ 1113), (0, u "java/lang/constant/ConstantDesc"), (2, u "serialVersionUID"), (0, u "J"), (3, u "REPL"), (0, u "C"), (2, u "LATIN1"), (1, u "UTF16")] 323

def k9m0 : Method := { name := "<init>", desc := "()V", sig := { parameters := [], returnType := none }, accessFlags := 1, code := none }
def k9c1 : Code := { maxStack := 5, maxLocals := 2, code := jdk_42_method_3_code, exceptionTable := #[], attributes := #[] }
def k9m1 : Method := { name := "<init>", desc := "([C)V", sig := { parameters := [(.array .char)], returnType := none }, accessFlags := 1, code := some k9c1 }
def k9c2 : Code := { maxStack := 2, maxLocals := 3, code := jdk_42_method_66_code, exceptionTable := #[], attributes := #[] }
def k9m2 : Method := { name := "equals", desc := "(Ljava/lang/Object;)Z", sig := { parameters := [(.object "java/lang/Object")], returnType := some .boolean }, accessFlags := 1, code := some k9c2 }
def k9c3 : Code := { maxStack := 4, maxLocals := 6, code := jdk_42_method_149_code, exceptionTable := #[], attributes := #[] }
def k9m3 : Method := { name := "<init>", desc := "([CIILjava/lang/Void;)V", sig := { parameters := [(.array .char), .int, .int, (.object "java/lang/Void")], returnType := none }, accessFlags := 2, code := some k9c3 }
/-- java/lang/String -/
def k9 : Class := { plain "java/lang/String" (some 0) with
  accessFlags := 49
  interfaces := #[4, 3, 7, 2, 8]
  cf := some (fileOf pool9 10 #[.nestMembers #[1103]] #[{ accessFlags := 1, nameIndex := 5, descriptorIndex := 6, attributes := #[] }, { accessFlags := 1, nameIndex := 5, descriptorIndex := 1010, attributes := #[] }, { accessFlags := 1, nameIndex := 543, descriptorIndex := 573, attributes := #[] }, { accessFlags := 2, nameIndex := 5, descriptorIndex := 29, attributes := #[] }] 49 2 #[1106, 1108, 575, 1110, 1112] #[{ accessFlags := 18, nameIndex := 13, descriptorIndex := 14, attributes := #[] }, { accessFlags := 18, nameIndex := 17, descriptorIndex := 18, attributes := #[] }, { accessFlags := 2, nameIndex := 21, descriptorIndex := 22, attributes := #[] }, { accessFlags := 2, nameIndex := 25, descriptorIndex := 26, attributes := #[] }, { accessFlags := 26, nameIndex := 1116, descriptorIndex := 1117, attributes := #[] }, { accessFlags := 24, nameIndex := 40, descriptorIndex := 26, attributes := #[] }, { accessFlags := 26, nameIndex := 1101, descriptorIndex := 1102, attributes := #[] }, { accessFlags := 26, nameIndex := 1121, descriptorIndex := 1122, attributes := #[] }, { accessFlags := 25, nameIndex := 599, descriptorIndex := 600, attributes := #[] }, { accessFlags := 24, nameIndex := 1125, descriptorIndex := 18, attributes := #[] }, { accessFlags := 24, nameIndex := 1127, descriptorIndex := 18, attributes := #[] }])
  fields := #[{ name := "value", type := (.array .byte), accessFlags := 18, slot := 0, constantValue := 0 }, { name := "coder", type := .byte, accessFlags := 18, slot := 1, constantValue := 0 }, { name := "hash", type := .int, accessFlags := 2, slot := 2, constantValue := 0 }, { name := "hashIsZero", type := .boolean, accessFlags := 2, slot := 3, constantValue := 0 }, { name := "serialVersionUID", type := .long, accessFlags := 26, slot := 0, constantValue := 0 }, { name := "COMPACT_STRINGS", type := .boolean, accessFlags := 24, slot := 1, constantValue := 0 }, { name := "serialPersistentFields", type := (.array (.object "java/io/ObjectStreamField")), accessFlags := 26, slot := 2, constantValue := 0 }, { name := "REPL", type := .char, accessFlags := 26, slot := 3, constantValue := 0 }, { name := "CASE_INSENSITIVE_ORDER", type := (.object "java/util/Comparator"), accessFlags := 25, slot := 4, constantValue := 0 }, { name := "LATIN1", type := .byte, accessFlags := 24, slot := 5, constantValue := 0 }, { name := "UTF16", type := .byte, accessFlags := 24, slot := 6, constantValue := 0 }]
  methods := #[k9m0, k9m1, k9m2, k9m3]
  instanceTypes := #[(.array .byte), .byte, .int, .boolean]
  staticTypes := #[.long, .boolean, (.array (.object "java/io/ObjectStreamField")), .char, (.object "java/util/Comparator"), .byte, .byte]
  resolved := Array.replicate 1451 none
  statics := some 1 }

def pool10 : Array CpInfo := pool [(6, .class_ 8), (1, u "java/lang/Object"), (0, u "<init>"), (0, u "()V"), (1, .class_ 14), (1, u "java/lang/StringUTF16"), (31, u "$assertionsDisabled"), (0, u "Z"), (13, u "HI_BYTE_SHIFT"), (0, u "I"), (2, u "LO_BYTE_SHIFT"), (49, .methodref 12 116), (0, .nameAndType 117 118), (0, u "compress"), (0, u "([CI[BII)I"), (3, u "([CII)[B"), (138, u "coderFromArrayLen"), (0, u "([BI)B"), (106, .class_ 371), (1, u "java/lang/StringUTF16$LinesSpliterator"), (58, u "MAX_LENGTH"), (196, .class_ 628), (0, u "java/lang/StringUTF16$CodePointsSpliterator"), (0, .class_ 630), (0, u "java/lang/StringUTF16$CharsSpliterator")] 4

def k10m0 : Method := { name := "<init>", desc := "()V", sig := { parameters := [], returnType := none }, accessFlags := 0, code := none }
def k10c1 : Code := { maxStack := 2, maxLocals := 2, code := jdk_52_method_15_code, exceptionTable := #[], attributes := #[] }
def k10m1 : Method := { name := "coderFromArrayLen", desc := "([BI)B", sig := { parameters := [(.array .byte), .int], returnType := some .byte }, accessFlags := 8, code := some k10c1 }
def k10c2 : Code := { maxStack := 5, maxLocals := 6, code := jdk_52_method_16_code, exceptionTable := #[], attributes := #[] }
def k10m2 : Method := { name := "compress", desc := "([CII)[B", sig := { parameters := [(.array .char), .int, .int], returnType := some (.array .byte) }, accessFlags := 9, code := some k10c2 }
def k10c3 : Code := { maxStack := 3, maxLocals := 7, code := jdk_52_method_21_code, exceptionTable := #[], attributes := #[] }
def k10m3 : Method := { name := "compress", desc := "([CI[BII)I", sig := { parameters := [(.array .char), .int, (.array .byte), .int, .int], returnType := some .int }, accessFlags := 9, code := some k10c3 }
/-- java/lang/StringUTF16 -/
def k10 : Class := { plain "java/lang/StringUTF16" (some 0) with
  accessFlags := 48
  interfaces := #[]
  cf := some (fileOf pool10 12 #[.nestMembers #[627, 629, 369]] #[{ accessFlags := 0, nameIndex := 9, descriptorIndex := 10, attributes := #[] }, { accessFlags := 8, nameIndex := 261, descriptorIndex := 262, attributes := #[] }, { accessFlags := 9, nameIndex := 117, descriptorIndex := 122, attributes := #[] }, { accessFlags := 9, nameIndex := 117, descriptorIndex := 118, attributes := #[] }] 48 6 #[] #[{ accessFlags := 26, nameIndex := 61, descriptorIndex := 62, attributes := #[] }, { accessFlags := 26, nameIndex := 65, descriptorIndex := 62, attributes := #[] }, { accessFlags := 24, nameIndex := 430, descriptorIndex := 62, attributes := #[] }, { accessFlags := 4120, nameIndex := 46, descriptorIndex := 47, attributes := #[] }])
  fields := #[{ name := "HI_BYTE_SHIFT", type := .int, accessFlags := 26, slot := 0, constantValue := 0 }, { name := "LO_BYTE_SHIFT", type := .int, accessFlags := 26, slot := 1, constantValue := 0 }, { name := "MAX_LENGTH", type := .int, accessFlags := 24, slot := 2, constantValue := 0 }, { name := "$assertionsDisabled", type := .boolean, accessFlags := 4120, slot := 3, constantValue := 0 }]
  methods := #[k10m0, k10m1, k10m2, k10m3]
  instanceTypes := #[]
  staticTypes := #[.int, .int, .int, .boolean]
  resolved := Array.replicate 635 none
  statics := none }

def pool11 : Array CpInfo := pool [(1, .class_ 2), (0, u "java/lang/Cloneable"), (0, .class_ 4), (0, u "java/lang/Object")] 2

/-- java/lang/Cloneable -/
def k11 : Class := { plain "java/lang/Cloneable" (some 0) with
  accessFlags := 1537
  interfaces := #[]
  cf := some (fileOf pool11 1 #[] #[] 1537 3 #[] #[])
  fields := #[]
  methods := #[]
  instanceTypes := #[]
  staticTypes := #[]
  resolved := Array.replicate 7 none
  statics := none }

def pool12 : Array CpInfo := pool [(4, .class_ 6), (1, u "java/lang/Object"), (0, u "<init>"), (0, u "()V"), (5, .class_ 16), (1, u "java/lang/StringLatin1"), (104, u "$assertionsDisabled"), (0, u "Z"), (98, .class_ 223), (1, u "java/lang/StringLatin1$LinesSpliterator"), (57, u "equals"), (0, u "([B[B)Z"), (107, .class_ 391), (0, u "java/lang/StringLatin1$CharsSpliterator")] 3

def k12m0 : Method := { name := "<init>", desc := "()V", sig := { parameters := [], returnType := none }, accessFlags := 0, code := none }
def k12c1 : Code := { maxStack := 3, maxLocals := 3, code := jdk_43_method_13_code, exceptionTable := #[], attributes := #[] }
def k12m1 : Method := { name := "equals", desc := "([B[B)Z", sig := { parameters := [(.array .byte), (.array .byte)], returnType := some .boolean }, accessFlags := 9, code := some k12c1 }
/-- java/lang/StringLatin1 -/
def k12 : Class := { plain "java/lang/StringLatin1" (some 0) with
  accessFlags := 48
  interfaces := #[]
  cf := some (fileOf pool12 14 #[.nestMembers #[390, 221]] #[{ accessFlags := 0, nameIndex := 7, descriptorIndex := 8, attributes := #[] }, { accessFlags := 9, nameIndex := 281, descriptorIndex := 282, attributes := #[] }] 48 4 #[] #[{ accessFlags := 4120, nameIndex := 121, descriptorIndex := 122, attributes := #[] }])
  fields := #[{ name := "$assertionsDisabled", type := .boolean, accessFlags := 4120, slot := 0, constantValue := 0 }]
  methods := #[k12m0, k12m1]
  instanceTypes := #[]
  staticTypes := #[.boolean]
  resolved := Array.replicate 395 none
  statics := none }

def pool13 : Array CpInfo := pool [(2, .class_ 4), (1, u "java/lang/Object"), (0, u "<init>"), (0, u "()V"), (17, .class_ 26), (1, u "jdk/internal/util/Preconditions"), (28, .class_ 56), (0, u "jdk/internal/util/Preconditions$4"), (57, .class_ 115), (0, u "jdk/internal/util/Preconditions$1"), (7, u "SIOOBE_FORMATTER"), (0, u "Ljava/util/function/BiFunction;"), (0, .class_ 126), (0, u "jdk/internal/util/Preconditions$2"), (3, u "AIOOBE_FORMATTER"), (0, .class_ 132), (0, u "jdk/internal/util/Preconditions$3"), (3, u "IOOBE_FORMATTER")] 57

def k13m0 : Method := { name := "<init>", desc := "()V", sig := { parameters := [], returnType := none }, accessFlags := 1, code := none }
/-- jdk/internal/util/Preconditions -/
def k13 : Class := { plain "jdk/internal/util/Preconditions" (some 0) with
  accessFlags := 33
  interfaces := #[]
  cf := some (fileOf pool13 24 #[.nestMembers #[55, 131, 125, 114]] #[{ accessFlags := 1, nameIndex := 5, descriptorIndex := 6, attributes := #[] }] 33 2 #[] #[{ accessFlags := 25, nameIndex := 123, descriptorIndex := 124, attributes := #[] }, { accessFlags := 25, nameIndex := 130, descriptorIndex := 124, attributes := #[] }, { accessFlags := 25, nameIndex := 136, descriptorIndex := 124, attributes := #[] }])
  fields := #[{ name := "SIOOBE_FORMATTER", type := (.object "java/util/function/BiFunction"), accessFlags := 25, slot := 0, constantValue := 0 }, { name := "AIOOBE_FORMATTER", type := (.object "java/util/function/BiFunction"), accessFlags := 25, slot := 1, constantValue := 0 }, { name := "IOOBE_FORMATTER", type := (.object "java/util/function/BiFunction"), accessFlags := 25, slot := 2, constantValue := 0 }]
  methods := #[k13m0]
  instanceTypes := #[]
  staticTypes := #[(.object "java/util/function/BiFunction"), (.object "java/util/function/BiFunction"), (.object "java/util/function/BiFunction")]
  resolved := Array.replicate 194 none
  statics := some 2 }

def pool14 : Array CpInfo := pool [(9, u "<init>"), (6, .class_ 18), (1, u "java/lang/Object"), (0, u "()V"), (1, .class_ 23), (1, u "jdk/internal/util/ArraysSupport"), (0, u "LOG2_ARRAY_LONG_INDEX_SCALE"), (0, u "I"), (2, u "U"), (0, u "Ljdk/internal/misc/Unsafe;"), (8, u "BIG_ENDIAN"), (0, u "Z"), (8, u "LOG2_BYTE_BIT_SIZE"), (4, u "LOG2_ARRAY_INT_INDEX_SCALE"), (54, u "JLA"), (0, u "Ljdk/internal/access/JavaLangAccess;"), (11, u "LOG2_ARRAY_BOOLEAN_INDEX_SCALE"), (9, u "LOG2_ARRAY_BYTE_INDEX_SCALE"), (5, u "LOG2_ARRAY_CHAR_INDEX_SCALE"), (5, u "LOG2_ARRAY_SHORT_INDEX_SCALE"), (18, u "LOG2_ARRAY_FLOAT_INDEX_SCALE"), (24, u "LOG2_ARRAY_DOUBLE_INDEX_SCALE"), (89, u "T_BOOLEAN"), (2, u "T_CHAR"), (1, u "T_FLOAT"), (1, u "T_DOUBLE"), (1, u "T_BYTE"), (1, u "T_SHORT"), (1, u "T_INT"), (1, u "T_LONG"), (1, u "SOFT_MAX_ARRAY_LENGTH")] 83

def k14m0 : Method := { name := "<init>", desc := "()V", sig := { parameters := [], returnType := none }, accessFlags := 2, code := none }
/-- jdk/internal/util/ArraysSupport -/
def k14 : Class := { plain "jdk/internal/util/ArraysSupport" (some 0) with
  accessFlags := 33
  interfaces := #[]
  cf := some (fileOf pool14 21 #[] #[{ accessFlags := 2, nameIndex := 9, descriptorIndex := 19, attributes := #[] }] 33 16 #[] #[{ accessFlags := 24, nameIndex := 28, descriptorIndex := 29, attributes := #[] }, { accessFlags := 26, nameIndex := 38, descriptorIndex := 39, attributes := #[] }, { accessFlags := 25, nameIndex := 121, descriptorIndex := 25, attributes := #[] }, { accessFlags := 25, nameIndex := 131, descriptorIndex := 25, attributes := #[] }, { accessFlags := 25, nameIndex := 137, descriptorIndex := 25, attributes := #[] }, { accessFlags := 25, nameIndex := 143, descriptorIndex := 25, attributes := #[] }, { accessFlags := 25, nameIndex := 53, descriptorIndex := 25, attributes := #[] }, { accessFlags := 25, nameIndex := 24, descriptorIndex := 25, attributes := #[] }, { accessFlags := 25, nameIndex := 162, descriptorIndex := 25, attributes := #[] }, { accessFlags := 25, nameIndex := 187, descriptorIndex := 25, attributes := #[] }, { accessFlags := 26, nameIndex := 48, descriptorIndex := 25, attributes := #[] }, { accessFlags := 25, nameIndex := 277, descriptorIndex := 25, attributes := #[] }, { accessFlags := 25, nameIndex := 280, descriptorIndex := 25, attributes := #[] }, { accessFlags := 25, nameIndex := 282, descriptorIndex := 25, attributes := #[] }, { accessFlags := 25, nameIndex := 284, descriptorIndex := 25, attributes := #[] }, { accessFlags := 25, nameIndex := 286, descriptorIndex := 25, attributes := #[] }, { accessFlags := 25, nameIndex := 288, descriptorIndex := 25, attributes := #[] }, { accessFlags := 25, nameIndex := 290, descriptorIndex := 25, attributes := #[] }, { accessFlags := 25, nameIndex := 292, descriptorIndex := 25, attributes := #[] }, { accessFlags := 26, nameIndex := 108, descriptorIndex := 109, attributes := #[] }, { accessFlags := 25, nameIndex := 294, descriptorIndex := 25, attributes := #[] }])
  fields := #[{ name := "U", type := (.object "jdk/internal/misc/Unsafe"), accessFlags := 24, slot := 0, constantValue := 0 }, { name := "BIG_ENDIAN", type := .boolean, accessFlags := 26, slot := 1, constantValue := 0 }, { name := "LOG2_ARRAY_BOOLEAN_INDEX_SCALE", type := .int, accessFlags := 25, slot := 2, constantValue := 0 }, { name := "LOG2_ARRAY_BYTE_INDEX_SCALE", type := .int, accessFlags := 25, slot := 3, constantValue := 0 }, { name := "LOG2_ARRAY_CHAR_INDEX_SCALE", type := .int, accessFlags := 25, slot := 4, constantValue := 0 }, { name := "LOG2_ARRAY_SHORT_INDEX_SCALE", type := .int, accessFlags := 25, slot := 5, constantValue := 0 }, { name := "LOG2_ARRAY_INT_INDEX_SCALE", type := .int, accessFlags := 25, slot := 6, constantValue := 0 }, { name := "LOG2_ARRAY_LONG_INDEX_SCALE", type := .int, accessFlags := 25, slot := 7, constantValue := 0 }, { name := "LOG2_ARRAY_FLOAT_INDEX_SCALE", type := .int, accessFlags := 25, slot := 8, constantValue := 0 }, { name := "LOG2_ARRAY_DOUBLE_INDEX_SCALE", type := .int, accessFlags := 25, slot := 9, constantValue := 0 }, { name := "LOG2_BYTE_BIT_SIZE", type := .int, accessFlags := 26, slot := 10, constantValue := 0 }, { name := "T_BOOLEAN", type := .int, accessFlags := 25, slot := 11, constantValue := 0 }, { name := "T_CHAR", type := .int, accessFlags := 25, slot := 12, constantValue := 0 }, { name := "T_FLOAT", type := .int, accessFlags := 25, slot := 13, constantValue := 0 }, { name := "T_DOUBLE", type := .int, accessFlags := 25, slot := 14, constantValue := 0 }, { name := "T_BYTE", type := .int, accessFlags := 25, slot := 15, constantValue := 0 }, { name := "T_SHORT", type := .int, accessFlags := 25, slot := 16, constantValue := 0 }, { name := "T_INT", type := .int, accessFlags := 25, slot := 17, constantValue := 0 }, { name := "T_LONG", type := .int, accessFlags := 25, slot := 18, constantValue := 0 }, { name := "JLA", type := (.object "jdk/internal/access/JavaLangAccess"), accessFlags := 26, slot := 19, constantValue := 0 }, { name := "SOFT_MAX_ARRAY_LENGTH", type := .int, accessFlags := 25, slot := 20, constantValue := 0 }]
  methods := #[k14m0]
  instanceTypes := #[]
  staticTypes := #[(.object "jdk/internal/misc/Unsafe"), .boolean, .int, .int, .int, .int, .int, .int, .int, .int, .int, .int, .int, .int, .int, .int, .int, .int, .int, (.object "jdk/internal/access/JavaLangAccess"), .int]
  resolved := Array.replicate 378 none
  statics := none }

/-- the primitive byte -/
def k15 : Class := { plain "byte" none with kind := .primitive 'B', accessFlags := 0x411 }
/-- [B -/
def k16 : Class := { plain "[B" (some 0) with kind := .array 15 .byte, interfaces := #[11, 4], accessFlags := 1041 }

/-- the primitive char -/
def k17 : Class := { plain "char" none with kind := .primitive 'C', accessFlags := 0x411 }
/-- [C -/
def k18 : Class := { plain "[C" (some 0) with kind := .array 17 .char, interfaces := #[11, 4], accessFlags := 1041 }

/-- the primitive int -/
def k19 : Class := { plain "int" none with kind := .primitive 'I', accessFlags := 0x411 }
/-- [I -/
def k20 : Class := { plain "[I" (some 0) with kind := .array 19 .int, interfaces := #[11, 4], accessFlags := 1041 }

/-- [Lcom/example/remora/remora/jpa/TransactionStrategy; -/
def k21 : Class := { plain "[Lcom/example/remora/remora/jpa/TransactionStrategy;" (some 0) with kind := .array 6 (.object "com/example/remora/remora/jpa/TransactionStrategy"), interfaces := #[11, 4], accessFlags := 1041 }

def heap : Heap := #[{ cls := 6, slots := #[.ref 10, .ref 11, .ref 12, .ref 3], vm := .statics 6 },
  { cls := 9, slots := #[.long 0, .int 1, .null, .int 0, .null, .int 0, .int 0], vm := .statics 9 },
  { cls := 13, slots := #[.null, .null, .null], vm := .statics 13 },
  { cls := 21, slots := #[.ref 10, .ref 11, .ref 12], vm := .none },
  { cls := 16, slots := #[.int 97, .int 116, .int 111, .int 109, .int 105, .int 99], vm := .none },
  { cls := 16, slots := #[.int 112, .int 101, .int 114, .int 45, .int 114, .int 101, .int 113, .int 117, .int 101, .int 115, .int 116], vm := .none },
  { cls := 16, slots := #[.int 108, .int 111, .int 110, .int 103, .int 45, .int 116, .int 114, .int 97, .int 110, .int 115, .int 97, .int 99, .int 116, .int 105, .int 111, .int 110], vm := .none },
  { cls := 9, slots := #[.ref 4, .int 0, .int 0, .int 0], vm := .none },
  { cls := 9, slots := #[.ref 5, .int 0, .int 0, .int 0], vm := .none },
  { cls := 9, slots := #[.ref 6, .int 0, .int 0, .int 0], vm := .none },
  { cls := 6, slots := #[.null, .int 0, .int 0, .ref 7], vm := .none },
  { cls := 6, slots := #[.null, .int 1, .int 0, .ref 8], vm := .none },
  { cls := 6, slots := #[.null, .int 2, .int 0, .ref 9], vm := .none }]
def classes : Array Class := #[k0, k1, k2, k3, k4, k5, k6, k7, k8, k9, k10, k11, k12, k13, k14, k15, k16, k17, k18, k19, k20, k21]
def interned : List (Array UInt16 × Addr) := []
def slotsUsed : Nat := 74
def theMethod : MethodId := ⟨1, 1⟩
def args0 : Array Value := #[.int 5]
def aboutOver (below : List Frame) : State where
  vm := { classes := classes, interned := interned.toArray }
  heap := heap
  slotsUsed := slotsUsed
  threads := #[{ frames := .invoking theMethod args0 :: below }]
def below0 : List Frame := [.native { method := ⟨0, 0⟩, args := #[] }]
def about1 : State := aboutOver below0
def p0 : Program := .bare "" "" ""
def e0 : Env := launch0.env 0 0 0
theorem w_frames : about1.frames = Frame.invoking theMethod args0 :: below0 := rfl
set_option maxRecDepth 65536 in
theorem w_args : argsFit about1.vm theMethod args0 = true := by decide +kernel
set_option maxRecDepth 65536 in
theorem w_heap : heapFits about1 = true := by decide +kernel
set_option maxRecDepth 65536 in
theorem w_runnable : about1.curStatus? = some .runnable := by decide +kernel
set_option maxRecDepth 65536 in
theorem w_alone : about1.alone = true := by decide +kernel
set_option maxRecDepth 65536 in
theorem w_named : about1.methodNamed? x = some theMethod := by decide +kernel
set_option maxRecDepth 65536 in
theorem w_hears : about1.hears theMethod below0 = true := by decide +kernel
set_option maxRecDepth 65536 in
theorem w_ripe : about1.ripe theMethod args0 below0 = true := by decide +kernel
theorem w_running : about1.status = .running := rfl
set_option maxRecDepth 65536 in
theorem w_room : about1.hasRoom e0.platform room_1 = true :=
  launch0.hasRoom_least _ room_1 (by decide +kernel) (by decide +kernel) (by decide +kernel) (by decide +kernel) (by decide +kernel) (by decide +kernel)
theorem allAtoms_all (ts : List Jvm.Cond) (a : Array Jvm.Value) (st : Jvm.State) : (allAtoms ts).before a st = ts.all (fun c => c.before a st) := by
  induction ts with
  | nil => rfl
  | cons c t ih =>
    show (Jvm.Cond.and c (allAtoms t)).before a st = _
    rw [Jvm.Cond.before_and, ih, List.all_cons]
def words1 : List Jvm.Cond := Jvm.Cond.code x code maxLocals ret :: tables_1
/-- a 'code' word, met by the world's own term for the bytes: nothing is compared byte by byte -/
theorem code_word {y : MethodName} {bytes : ByteArray} {mx : Nat} {rt : Option FieldType} {a : Array Value} {s : State} {m : MethodId} {meth : Method} {c : Code} (h1 : s.methodNamed? y = some m) (h2 : s.vm.method? m = some meth) (h3 : meth.code = some c) (h4 : c.code = bytes)
    (h5 : (c.maxLocals == mx && c.exceptionTable.isEmpty && decide (c.maxStack ≤ mostOperands) && decide (meth.sig.returnType = rt) && !meth.locks && decide (parseMethodDescriptor y.desc = some meth.sig)) = true) : (Jvm.Cond.code y bytes mx rt).before a s = true := by
  simp only [Bool.and_eq_true, beq_iff_eq, Bool.not_eq_true', decide_eq_true_eq] at h5
  obtain ⟨⟨⟨⟨⟨g1, g2⟩, g3⟩, g4⟩, g5⟩, g6⟩ := h5
  simp [Cond.before, Cond.holds, Cond.value, h1, h2, h3, h4, g1, g2, g3, g4, g5, g6]
def isCode : Jvm.Cond → Bool
  | .code _ _ _ _ => true
  | _ => false
theorem all_split {L : List Jvm.Cond} {P : Jvm.Cond → Bool} (h1 : L.all (fun c => isCode c || P c) = true) (h2 : ∀ c ∈ L.filter isCode, P c = true) : L.all P = true := by
  refine List.all_eq_true.mpr fun c hc => ?_
  have h := List.all_eq_true.mp h1 c hc
  rcases Bool.eq_false_or_eq_true (isCode c) with hi | hi
  · exact h2 c (List.mem_filter.mpr ⟨hc, hi⟩)
  · simpa [hi] using h
set_option maxRecDepth 65536 in
theorem w_c0 : (Jvm.Cond.code x code maxLocals ret).before args0 about1 = true := code_word (m := ⟨1, 1⟩) (meth := k1m1) (c := k1c1) (by decide +kernel) rfl rfl rfl (by decide +kernel)
set_option maxRecDepth 65536 in
theorem w_c1 : (Jvm.Cond.code ({ cls := "java/lang/String", name := "<init>", desc := "([C)V" } : Jvm.MethodName) jdk_42_method_3_code (2 : Nat) (Option.none : Option Jvm.ClassFile.FieldType)).before args0 about1 = true := code_word (m := ⟨9, 1⟩) (meth := k9m1) (c := k9c1) (by decide +kernel) rfl rfl rfl (by decide +kernel)
set_option maxRecDepth 65536 in
theorem w_c2 : (Jvm.Cond.code ({ cls := "java/lang/String", name := "<init>", desc := "([CIILjava/lang/Void;)V" } : Jvm.MethodName) jdk_42_method_149_code (6 : Nat) (Option.none : Option Jvm.ClassFile.FieldType)).before args0 about1 = true := code_word (m := ⟨9, 3⟩) (meth := k9m3) (c := k9c3) (by decide +kernel) rfl rfl rfl (by decide +kernel)
set_option maxRecDepth 65536 in
theorem w_c3 : (Jvm.Cond.code ({ cls := "java/lang/Object", name := "<init>", desc := "()V" } : Jvm.MethodName) object_method_1_code (1 : Nat) (Option.none : Option Jvm.ClassFile.FieldType)).before args0 about1 = true := code_word (m := ⟨0, 0⟩) (meth := k0m0) (c := k0c0) (by decide +kernel) rfl rfl rfl (by decide +kernel)
set_option maxRecDepth 65536 in
theorem w_c4 : (Jvm.Cond.code ({ cls := "java/lang/StringUTF16", name := "compress", desc := "([CII)[B" } : Jvm.MethodName) jdk_52_method_16_code (6 : Nat) (Option.some (Jvm.ClassFile.FieldType.array Jvm.ClassFile.FieldType.byte))).before args0 about1 = true := code_word (m := ⟨10, 2⟩) (meth := k10m2) (c := k10c2) (by decide +kernel) rfl rfl rfl (by decide +kernel)
set_option maxRecDepth 65536 in
theorem w_c5 : (Jvm.Cond.code ({ cls := "java/lang/StringUTF16", name := "compress", desc := "([CI[BII)I" } : Jvm.MethodName) jdk_52_method_21_code (7 : Nat) (Option.some Jvm.ClassFile.FieldType.int)).before args0 about1 = true := code_word (m := ⟨10, 3⟩) (meth := k10m3) (c := k10c3) (by decide +kernel) rfl rfl rfl (by decide +kernel)
set_option maxRecDepth 65536 in
theorem w_c6 : (Jvm.Cond.code ({ cls := "java/lang/StringUTF16", name := "coderFromArrayLen", desc := "([BI)B" } : Jvm.MethodName) jdk_52_method_15_code (2 : Nat) (Option.some Jvm.ClassFile.FieldType.byte)).before args0 about1 = true := code_word (m := ⟨10, 1⟩) (meth := k10m1) (c := k10c1) (by decide +kernel) rfl rfl rfl (by decide +kernel)
set_option maxRecDepth 65536 in
theorem w_c7 : (Jvm.Cond.code ({ cls := "com/example/remora/remora/jpa/TransactionStrategy", name := "forLabel", desc := "(Ljava/lang/String;)Lcom/example/remora/remora/jpa/TransactionStrategy;" } : Jvm.MethodName) prog_14_method_4_code (5 : Nat) (Option.some (Jvm.ClassFile.FieldType.object "com/example/remora/remora/jpa/TransactionStrategy"))).before args0 about1 = true := code_word (m := ⟨6, 1⟩) (meth := k6m1) (c := k6c1) (by decide +kernel) rfl rfl rfl (by decide +kernel)
set_option maxRecDepth 65536 in
theorem w_c8 : (Jvm.Cond.code ({ cls := "com/example/remora/remora/jpa/TransactionStrategy", name := "values", desc := "()[Lcom/example/remora/remora/jpa/TransactionStrategy;" } : Jvm.MethodName) prog_14_method_1_code (0 : Nat) (Option.some (Jvm.ClassFile.FieldType.array (Jvm.ClassFile.FieldType.object "com/example/remora/remora/jpa/TransactionStrategy")))).before args0 about1 = true := code_word (m := ⟨6, 0⟩) (meth := k6m0) (c := k6c0) (by decide +kernel) rfl rfl rfl (by decide +kernel)
set_option maxRecDepth 65536 in
theorem w_c9 : (Jvm.Cond.code ({ cls := "java/lang/String", name := "equals", desc := "(Ljava/lang/Object;)Z" } : Jvm.MethodName) jdk_42_method_66_code (3 : Nat) (Option.some Jvm.ClassFile.FieldType.boolean)).before args0 about1 = true := code_word (m := ⟨9, 2⟩) (meth := k9m2) (c := k9c2) (by decide +kernel) rfl rfl rfl (by decide +kernel)
set_option maxRecDepth 65536 in
theorem w_c10 : (Jvm.Cond.code ({ cls := "java/lang/StringLatin1", name := "equals", desc := "([B[B)Z" } : Jvm.MethodName) jdk_43_method_13_code (3 : Nat) (Option.some Jvm.ClassFile.FieldType.boolean)).before args0 about1 = true := code_word (m := ⟨12, 1⟩) (meth := k12m1) (c := k12c1) (by decide +kernel) rfl rfl rfl (by decide +kernel)
set_option maxRecDepth 65536 in
theorem w_c11 : (Jvm.Cond.code ({ cls := "com/example/remora/remora/jpa/TransactionStrategy", name := "toString", desc := "()Ljava/lang/String;" } : Jvm.MethodName) prog_14_method_5_code (1 : Nat) (Option.some (Jvm.ClassFile.FieldType.object "java/lang/String"))).before args0 about1 = true := code_word (m := ⟨6, 2⟩) (meth := k6m2) (c := k6c2) (by decide +kernel) rfl rfl rfl (by decide +kernel)
def codes1 : List Jvm.Cond := [Jvm.Cond.code x code maxLocals ret, Jvm.Cond.code ({ cls := "java/lang/String", name := "<init>", desc := "([C)V" } : Jvm.MethodName) jdk_42_method_3_code (2 : Nat) (Option.none : Option Jvm.ClassFile.FieldType), Jvm.Cond.code ({ cls := "java/lang/String", name := "<init>", desc := "([CIILjava/lang/Void;)V" } : Jvm.MethodName) jdk_42_method_149_code (6 : Nat) (Option.none : Option Jvm.ClassFile.FieldType), Jvm.Cond.code ({ cls := "java/lang/Object", name := "<init>", desc := "()V" } : Jvm.MethodName) object_method_1_code (1 : Nat) (Option.none : Option Jvm.ClassFile.FieldType), Jvm.Cond.code ({ cls := "java/lang/StringUTF16", name := "compress", desc := "([CII)[B" } : Jvm.MethodName) jdk_52_method_16_code (6 : Nat) (Option.some (Jvm.ClassFile.FieldType.array Jvm.ClassFile.FieldType.byte)), Jvm.Cond.code ({ cls := "java/lang/StringUTF16", name := "compress", desc := "([CI[BII)I" } : Jvm.MethodName) jdk_52_method_21_code (7 : Nat) (Option.some Jvm.ClassFile.FieldType.int), Jvm.Cond.code ({ cls := "java/lang/StringUTF16", name := "coderFromArrayLen", desc := "([BI)B" } : Jvm.MethodName) jdk_52_method_15_code (2 : Nat) (Option.some Jvm.ClassFile.FieldType.byte), Jvm.Cond.code ({ cls := "com/example/remora/remora/jpa/TransactionStrategy", name := "forLabel", desc := "(Ljava/lang/String;)Lcom/example/remora/remora/jpa/TransactionStrategy;" } : Jvm.MethodName) prog_14_method_4_code (5 : Nat) (Option.some (Jvm.ClassFile.FieldType.object "com/example/remora/remora/jpa/TransactionStrategy")), Jvm.Cond.code ({ cls := "com/example/remora/remora/jpa/TransactionStrategy", name := "values", desc := "()[Lcom/example/remora/remora/jpa/TransactionStrategy;" } : Jvm.MethodName) prog_14_method_1_code (0 : Nat) (Option.some (Jvm.ClassFile.FieldType.array (Jvm.ClassFile.FieldType.object "com/example/remora/remora/jpa/TransactionStrategy"))), Jvm.Cond.code ({ cls := "java/lang/String", name := "equals", desc := "(Ljava/lang/Object;)Z" } : Jvm.MethodName) jdk_42_method_66_code (3 : Nat) (Option.some Jvm.ClassFile.FieldType.boolean), Jvm.Cond.code ({ cls := "java/lang/StringLatin1", name := "equals", desc := "([B[B)Z" } : Jvm.MethodName) jdk_43_method_13_code (3 : Nat) (Option.some Jvm.ClassFile.FieldType.boolean), Jvm.Cond.code ({ cls := "com/example/remora/remora/jpa/TransactionStrategy", name := "toString", desc := "()Ljava/lang/String;" } : Jvm.MethodName) prog_14_method_5_code (1 : Nat) (Option.some (Jvm.ClassFile.FieldType.object "java/lang/String"))]
set_option maxRecDepth 65536 in
theorem codes_eq : words1.filter isCode = codes1 := rfl
theorem w_codes : ∀ c ∈ words1.filter isCode, c.before args0 about1 = true := by
  rw [codes_eq]
  intro c hc
  simp only [codes1, List.mem_cons, List.not_mem_nil, or_false] at hc
  rcases hc with rfl | rfl | rfl | rfl | rfl | rfl | rfl | rfl | rfl | rfl | rfl | rfl
  · exact w_c0
  · exact w_c1
  · exact w_c2
  · exact w_c3
  · exact w_c4
  · exact w_c5
  · exact w_c6
  · exact w_c7
  · exact w_c8
  · exact w_c9
  · exact w_c10
  · exact w_c11
set_option maxRecDepth 65536 in
theorem w_t1 : (words1.take 24).all (fun c => isCode c || c.before args0 about1) = true := by decide +kernel
set_option maxRecDepth 65536 in
theorem w_t2 : ((words1.drop 24).take 24).all (fun c => isCode c || c.before args0 about1) = true := by decide +kernel
set_option maxRecDepth 65536 in
theorem w_t3 : (((words1.drop 24).drop 24).take 24).all (fun c => isCode c || c.before args0 about1) = true := by decide +kernel
set_option maxRecDepth 65536 in
theorem w_t4 : (((words1.drop 24).drop 24).drop 24).all (fun c => isCode c || c.before args0 about1) = true := by decide +kernel
theorem w_tables : (allAtoms (Jvm.Cond.code x code maxLocals ret :: tables_1)).before args0 about1 = true := by
  rw [allAtoms_all]
  show words1.all (fun c => c.before args0 about1) = true
  refine all_split ?_ w_codes
  rw [← List.take_append_drop 24 words1, List.all_append, w_t1, ← List.take_append_drop 24 (words1.drop 24), List.all_append, w_t2, ← List.take_append_drop 24 ((words1.drop 24).drop 24), List.all_append, w_t3, w_t4]
  rfl
set_option maxRecDepth 65536 in
theorem w_rest : rest_1_c.before args0 about1 = true := by decide +kernel
set_option maxRecDepth 65536 in
theorem w_case : (Jvm.Cond.and given_1 narrow_1).before args0 about1 = true := by decide +kernel
theorem w_applies : (headSpec (Jvm.Cond.code x code maxLocals ret :: tables_1) room_1).applies x e0.platform about1 = true :=
  (Spec.applies_iff w_frames).mpr ⟨w_running, w_runnable, w_alone, w_named, w_hears, w_ripe, w_room, w_tables⟩
theorem atStart : AtStart classFile x code maxLocals ret World_1 tables_1 room_1 Calls_1 rest_1 Pre_1 launch0 p0 e0 about1 theMethod args0 below0 :=
  ⟨lists_1, trivial, launch0.admits_env _ _ _, launch0.least_env, fairChoices_fair.cas, fairChoices_fair.clock, w_frames, w_args, w_heap, w_applies, trivial, w_rest, w_case⟩
end start1
theorem witness_1 : WitnessClaimed_1 := ⟨start1.p0, start1.e0, start1.about1, start1.theMethod, start1.args0, start1.below0, start1.atStart⟩
end Jvm.Pilot.@@N@@
