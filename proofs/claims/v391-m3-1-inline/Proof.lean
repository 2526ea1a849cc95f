import JvmDerived
import JvmDerived.Pilot.@@N@@Statement
import JvmDerived.Pilot.@@N@@Code
set_option linter.unusedVariables false
set_option linter.unusedSimpArgs false
set_option maxRecDepth 65536
set_option maxHeartbeats 40000000
@@BLOCK:LamKit.lean.txt@@
namespace Jvm.Pilot.@@N@@
open Jvm Jvm.ClassFile Sem Op Lib Jvm.Free Jvm.Free.Fl Jvm.Stand Jvm.LawKit Jvm.RoadKit Bundle Jvm.Pilot.@@N@@.Jvm.D
theorem dK {p : Prop} (h : p := by decide +kernel) : p := h
theorem dD {p : Prop} (h : p := by decide) : p := h
abbrev own_H (a0 : Array Value) (Z : State) : Prop := ∀ d ∈ tables_1, d.before a0 Z = true
theorem kw {a0 : Array Value} {Z : State} (hw : own_H a0 Z) (i : Nat) {d : Jvm.Cond} (h : tables_1[i]? = some d) : d.before a0 Z = true := hw d (List.mem_of_getElem? h)
theorem mi {α : Type} {l : List α} {a : α} {q : Prop} (i : Nat) (h : l[i]? = some a) : a ∈ l ∨ q := Or.inl (List.mem_of_getElem? h)
theorem nl {a b n : Nat} (h : a < n) (g : b = n) : a ≠ b := fun z => absurd (z ▸ h) (g ▸ Nat.lt_irrefl n)
theorem nz {a b n : Nat} (h : a < n) (g : n ≤ b) : a ≠ b := Nat.ne_of_lt (Nat.lt_of_lt_of_le h g)
theorem gl {a b n : Nat} (h : a ≤ n) (g : b = n) : a ≤ b := Nat.le_trans h (Nat.le_of_eq g.symm)
abbrev own_R (f c s l : Nat) : Room := { frames := f, cells := c, slots := s, locals := l }
abbrev zz0 : String := "com/example/eurydice/eurydice/model/ClassFileWriter$Bytes"
abbrev zz1 : String := "java/lang/String"
abbrev zz2 : String := "java/lang/AbstractStringBuilder"
abbrev zz3 : String := "com/example/eurydice/eurydice/model/ClassFileWriter$Pool"
abbrev zz4 : String := "java/util/HashMap"
abbrev zz5 : String := "com/example/eurydice/eurydice/model/ClassFileWriter"
abbrev zz6 : String := "java/util/HashMap$Node"
abbrev zz7 : String := "java/lang/StringBuilder"
abbrev zz8 : String := "java/lang/Integer"
abbrev zz9 : String := "java/lang/Object"
abbrev zz10 : String := "com/example/eurydice/eurydice/model/ClassFileWriter$Code"
abbrev zz11 : String := "java/util/ArrayList"
abbrev zz12 : String := "java/util/ArrayList$Itr"
abbrev zz13 : String := "Lcom/example/eurydice/eurydice/model/ClassFileWriter$Bytes;"
abbrev zz14 : String := "java/util/Arrays"
abbrev zz15 : String := "java/util/Map"
abbrev zz16 : String := "jdk/internal/util/ArraysSupport"
abbrev zz17 : String := "(Ljava/lang/String;)I"
abbrev zz18 : String := "(Lcom/example/eurydice/eurydice/model/ClassFileWriter$Bytes;)V"
abbrev zz19 : String := "java/util/List"
abbrev zz20 : String := "checkIndex"
abbrev zz21 : String := "(Ljava/lang/String;)Ljava/lang/AbstractStringBuilder;"
abbrev zz22 : String := "(Ljava/lang/Object;)Ljava/lang/Object;"
abbrev zz23 : String := "java/lang/Math"
abbrev zz24 : String := "ensureCapacityInternal"
abbrev zz25 : String := "Ljava/lang/String;"
abbrev zz26 : String := "java/lang/StringLatin1"
abbrev zz27 : String := "(Ljava/lang/String;)Ljava/lang/StringBuilder;"
abbrev zz28 : String := "jdk/internal/util/Preconditions"
abbrev zz29 : String := "(Ljava/lang/Object;Ljava/lang/Object;)Ljava/lang/Object;"
abbrev zz30 : String := "com/example/eurydice/eurydice/model/CodeBranchPinLaw"
abbrev zz31 : String := "java/util/AbstractList"
abbrev zz32 : String := "(IILjava/util/function/BiFunction;)I"
abbrev zz33 : String := "(I)Ljava/lang/StringBuilder;"
abbrev zz34 : String := "(Ljava/lang/String;)V"
abbrev zz35 : String := "(ILjava/lang/String;)V"
abbrev zz36 : String := "()Ljava/lang/String;"
abbrev zz37 : String := "(Ljava/lang/Object;)Ljava/util/HashMap$Node;"
abbrev zz38 : String := "Ljava/lang/Object;"
abbrev zz39 : String := "(ILjava/lang/Object;Ljava/lang/Object;ZZ)Ljava/lang/Object;"
abbrev zz40 : String := "java/util/function/Consumer"
abbrev zz41 : String := "(ILjava/lang/String;Ljava/util/function/Consumer;)I"
abbrev zz42 : String := "[Ljava/lang/Object;"
abbrev zz43 : String := "Ljava/util/ArrayList;"
abbrev zz44 : String := "[Ljava/util/HashMap$Node;"
abbrev zz45 : String := "Lcom/example/eurydice/eurydice/model/ClassFileWriter$Pool;"
abbrev zz46 : String := "()Ljava/util/Iterator;"
abbrev zz47 : String := "(I)Ljava/lang/AbstractStringBuilder;"
abbrev zz48 : String := "(C)Ljava/lang/AbstractStringBuilder;"
abbrev zz49 : String := "(C)Ljava/lang/StringBuilder;"
abbrev zz50 : String := "(Ljava/lang/Object;)I"
abbrev zz51 : String := "(ILjava/lang/Object;Ljava/lang/Object;Ljava/util/HashMap$Node;)Ljava/util/HashMap$Node;"
abbrev zz52 : String := "afterNodeInsertion"
abbrev zz53 : String := "(I)Ljava/lang/Integer;"
abbrev zz54 : String := "Lcom/example/eurydice/eurydice/model/ClassFileWriter;"
abbrev zz55 : String := "(Lcom/example/eurydice/eurydice/model/ClassFileWriter;)V"
abbrev zz56 : String := "(Ljava/lang/String;Ljava/lang/String;)V"
abbrev zz57 : String := "(Ljava/lang/AbstractStringBuilder;Ljava/lang/Void;)V"
abbrev zz58 : String := "(ILjava/lang/Object;Ljava/lang/Object;Ljava/util/HashMap$Node;)V"
abbrev zz59 : String := "(Ljava/lang/String;Lcom/example/eurydice/eurydice/model/ClassFileWriter$Bytes;)V"
abbrev zz60 : String := "([ILcom/example/eurydice/eurydice/model/ClassFileWriter$Bytes;)V"
abbrev zz61 : String := "(Ljava/lang/String;Ljava/lang/String;Lcom/example/eurydice/eurydice/model/ClassFileWriter$Code;II)V"
abbrev yy0 : MethodName := ⟨zz0, "u2", "(I)V"⟩
abbrev yy1 : MethodName := ⟨zz2, "isLatin1", "()Z"⟩
abbrev yy2 : MethodName := ⟨zz0, "u1", "(I)V"⟩
abbrev yy3 : MethodName := ⟨zz0, "<init>", "()V"⟩
abbrev yy4 : MethodName := ⟨zz10, "op", "(I)V"⟩
abbrev yy5 : MethodName := ⟨zz2, "append", zz21⟩
abbrev yy6 : MethodName := ⟨zz1, "length", "()I"⟩
abbrev yy7 : MethodName := ⟨zz2, zz24, "(I)V"⟩
abbrev yy8 : MethodName := ⟨zz0, "size", "()I"⟩
abbrev yy9 : MethodName := ⟨zz0, "append", zz18⟩
abbrev yy10 : MethodName := ⟨zz7, "append", zz27⟩
abbrev yy11 : MethodName := ⟨zz3, "utf8", zz17⟩
abbrev yy12 : MethodName := ⟨zz23, "min", "(II)I"⟩
abbrev yy13 : MethodName := ⟨zz0, "u4", "(I)V"⟩
abbrev yy14 : MethodName := ⟨zz1, "coder", "()B"⟩
abbrev yy15 : MethodName := ⟨zz28, zz20, zz32⟩
abbrev yy16 : MethodName := ⟨zz1, zz20, "(II)V"⟩
abbrev yy17 : MethodName := ⟨zz7, "<init>", "()V"⟩
abbrev yy18 : MethodName := ⟨zz2, "length", "()I"⟩
abbrev yy19 : MethodName := ⟨zz7, "append", zz33⟩
abbrev yy20 : MethodName := ⟨zz2, "putStringAt", zz35⟩
abbrev yy21 : MethodName := ⟨zz14, "copyOf", "([BI)[B"⟩
abbrev yy22 : MethodName := ⟨zz7, "toString", zz36⟩
abbrev yy23 : MethodName := ⟨zz1, "hashCode", "()I"⟩
abbrev yy24 : MethodName := ⟨zz4, "getNode", zz37⟩
abbrev yy25 : MethodName := ⟨zz4, "putVal", zz39⟩
abbrev yy26 : MethodName := ⟨zz3, "constant", zz41⟩
abbrev yy27 : MethodName := ⟨zz11, "isEmpty", "()Z"⟩
abbrev yy28 : MethodName := ⟨zz1, "isLatin1", "()Z"⟩
abbrev yy29 : MethodName := ⟨zz1, "charAt", "(I)C"⟩
abbrev yy30 : MethodName := ⟨zz2, "append", zz47⟩
abbrev yy31 : MethodName := ⟨zz2, "append", zz48⟩
abbrev yy32 : MethodName := ⟨zz7, "append", zz49⟩
abbrev yy33 : MethodName := ⟨zz4, "hash", zz50⟩
abbrev yy34 : MethodName := ⟨zz4, "get", zz22⟩
abbrev yy35 : MethodName := ⟨zz4, "newNode", zz51⟩
abbrev yy36 : MethodName := ⟨zz4, zz52, "(Z)V"⟩
abbrev yy37 : MethodName := ⟨zz4, "put", zz29⟩
abbrev yy38 : MethodName := ⟨zz8, "valueOf", zz53⟩
abbrev yy39 : MethodName := ⟨zz8, "intValue", "()I"⟩
abbrev yy40 : MethodName := ⟨zz3, "entry", "(I[I)I"⟩
abbrev yy41 : MethodName := ⟨zz3, "classEntry", zz17⟩
abbrev yy42 : MethodName := ⟨"java/util/AbstractMap", "<init>", "()V"⟩
abbrev yy43 : MethodName := ⟨"java/util/AbstractCollection", "<init>", "()V"⟩
abbrev yy44 : MethodName := ⟨zz31, "<init>", "()V"⟩
abbrev yy45 : MethodName := ⟨zz11, "<init>", "()V"⟩
abbrev yy46 : MethodName := ⟨zz12, "<init>", "(Ljava/util/ArrayList;)V"⟩
abbrev yy47 : MethodName := ⟨zz11, "iterator", zz46⟩
abbrev yy48 : MethodName := ⟨zz12, "hasNext", "()Z"⟩
abbrev yy49 : MethodName := ⟨"java/util/Objects", "requireNonNull", zz22⟩
abbrev yy50 : MethodName := ⟨zz4, "<init>", "()V"⟩
abbrev yy51 : MethodName := ⟨zz3, "<init>", "()V"⟩
abbrev yy52 : MethodName := ⟨zz10, "<init>", zz55⟩
abbrev yy53 : MethodName := ⟨zz5, "<init>", zz56⟩
abbrev yy54 : MethodName := ⟨zz10, "branch", "(I)I"⟩
abbrev yy55 : MethodName := ⟨zz26, "charAt", "([BI)C"⟩
abbrev yy56 : MethodName := ⟨zz23, "max", "(II)I"⟩
abbrev yy57 : MethodName := ⟨zz2, "<init>", "(I)V"⟩
abbrev yy58 : MethodName := ⟨zz2, "getValue", "()[B"⟩
abbrev yy59 : MethodName := ⟨zz7, "length", "()I"⟩
abbrev yy60 : MethodName := ⟨zz8, "stringSize", "(I)I"⟩
abbrev yy61 : MethodName := ⟨zz8, "getChars", "(II[B)I"⟩
abbrev yy62 : MethodName := ⟨zz26, "canEncode", "(C)Z"⟩
abbrev yy63 : MethodName := ⟨zz2, "inflateIfNeededFor", zz34⟩
abbrev yy64 : MethodName := ⟨zz1, "getBytes", "([BIB)V"⟩
abbrev yy65 : MethodName := ⟨zz16, "newLength", "(III)I"⟩
abbrev yy66 : MethodName := ⟨zz2, "newCapacity", "(I)I"⟩
abbrev yy67 : MethodName := ⟨zz14, "checkLength", "(II)V"⟩
abbrev yy68 : MethodName := ⟨zz14, "copyOfRangeByte", "([BII)[B"⟩
abbrev yy69 : MethodName := ⟨zz14, "copyOfRange", "([BII)[B"⟩
abbrev yy70 : MethodName := ⟨zz1, "<init>", zz57⟩
abbrev yy71 : MethodName := ⟨zz1, "<init>", "(Ljava/lang/StringBuilder;)V"⟩
abbrev yy72 : MethodName := ⟨zz14, "toString", "([I)Ljava/lang/String;"⟩
abbrev yy73 : MethodName := ⟨zz16, "signedHashCode", "(I[BII)I"⟩
abbrev yy74 : MethodName := ⟨zz16, "vectorizedHashCode", "(Ljava/lang/Object;IIII)I"⟩
abbrev yy75 : MethodName := ⟨zz26, "hashCode", "([B)I"⟩
abbrev yy76 : MethodName := ⟨zz6, "<init>", zz58⟩
abbrev yy77 : MethodName := ⟨zz4, "resize", "()[Ljava/util/HashMap$Node;"⟩
abbrev yy78 : MethodName := ⟨zz0, "utf8", zz34⟩
abbrev yy79 : MethodName := ⟨zz3, "lambda$utf8$0", zz59⟩
abbrev yy80 : MethodName := ⟨zz3, "lambda$entry$2", zz60⟩
abbrev yy81 : MethodName := ⟨zz15, "get", zz22⟩
abbrev yy82 : MethodName := ⟨zz40, "accept", "(Ljava/lang/Object;)V"⟩
abbrev yy83 : MethodName := ⟨zz15, "put", zz29⟩
abbrev yy84 : MethodName := ⟨zz3, "writeTo", zz18⟩
abbrev yy85 : MethodName := ⟨zz0, "toArray", "()[B"⟩
abbrev yy86 : MethodName := ⟨zz5, "method", zz61⟩
abbrev yy87 : MethodName := ⟨zz19, "isEmpty", "()Z"⟩
abbrev yy88 : MethodName := ⟨zz5, "toBytes", "()[B"⟩
def own_Go (tb : Tables) (e : Env) (below : List Frame) (P : State → Outcome → Prop) (S : State) : Prop := ∃ t o, Steps tb e below S t ∧ P t o
section OwnGo
variable {tb : Tables} {e : Env} {below : List Frame} {P : State → Outcome → Prop} {S S' : State}
theorem own_up (st : ∀ t, Steps tb e below S' t → Steps tb e below S t) (h : own_Go tb e below P S') : own_Go tb e below P S := by
  obtain ⟨t, o, h1, h2⟩ := h
  exact ⟨t, o, st t h1, h2⟩
theorem own_start (st : ∀ t, Steps tb e below S' t → Steps tb e below S t) (h : own_Go tb e below P S') : ∃ t o, Steps tb e below S t ∧ P t o := own_up st h
end OwnGo
theorem own_eqi {args : Array Value} {first s : State} {o : Option Outcome} {idx : List Nat} {a : Term} {n : Int32} (h : (Jvm.Cond.eq a (Term.int n)).value args first o s idx = some true) : a.eval args first o idx s = some (.int n) := by
  obtain ⟨x, y, h1, h2, k1, k2⟩ := cmp_v (Or.inl h)
  have hb : (Term.int n).eval args first o idx s = some (.int n) := Term.int_eval n
  obtain rfl : y = .int n := Option.some.inj (h2.symm.trans hb)
  cases x with
  | int x =>
    have q := gotT (Cond.eq_ints h1 hb) h
    rw [h1, q]
  | _ => simp [Kin] at k1 k2
def own_Arf (Z : State) (h : Heap) (a : Addr) (ty : FieldType) (n : Int32) (f : Nat → Value) : Prop := ∃ c : Cell, Arr Z h a c ty ∧ c.slots.size = n.toNatClampNeg ∧ ¬ n < 0 ∧ ∀ i, i < c.slots.size → c.slots[i]? = some (f i)
section OwnArf
variable {p : Program} {l : Launch} {e : Env} {R : Room} {s : State} {m : MethodId} {args : Array Value} {below : List Frame} {meth : Method} {c : Code} {T : State} {locs : List Loc} {cells slots : Nat} {Z : State} {h h' : Heap} {a b : Addr} {ty : FieldType} {n j : Int32} {f : Nat → Value} {v : Value} {sl : Nat} {ws : List Addr}
theorem own_Arf.lt (F : own_Arf Z h a ty n f) : a < h.size := by obtain ⟨c, A, -⟩ := F; exact A.lt
theorem own_Arf.nn (F : own_Arf Z h a ty n f) : ¬ n < 0 := by obtain ⟨c, A, -, q, -⟩ := F; exact q
theorem own_Arf.ext (F : own_Arf Z h a ty n f) (E : Ext h h') : own_Arf Z h' a ty n f := by obtain ⟨c, A, r⟩ := F; exact ⟨c, A.ext E, r⟩
theorem own_Arf.other (F : own_Arf Z h b ty n f) (W : Wr h h' a sl v) (q : b ≠ a) : own_Arf Z h' b ty n f := by obtain ⟨c, A, r⟩ := F; exact ⟨c, A.other W q, r⟩
theorem own_Arf.keep (F : own_Arf Z h a ty n f) (K : Keep h h' ws) (q : a ∉ ws) : own_Arf Z h' a ty n f := by obtain ⟨c, A, r⟩ := F; exact ⟨c, ⟨K.2.1 a c A.1 q, A.2⟩, r⟩
theorem own_Arf.new {k : ClassId} (A : Arr Z h a (newA k ty n) ty) (q : ¬ n < 0) : own_Arf Z h a ty n (fun _ => defaultValue ty) :=
  ⟨_, A, sz_new _ _ _, q, fun i hi => by rw [sz_new] at hi; simp [newA, hi]⟩
theorem own_Arf.ofArv {k : ClassId} {vs : List Value} {d : Value} (F : Arv Z h a k ty n vs d) : own_Arf Z h a ty n (fun i => vs.getD i d) := by
  obtain ⟨c, A, -, S, q, H, -⟩ := F
  exact ⟨c, A, S, q, fun i hi => H i hi⟩
theorem own_Arf.congr {f' : Nat → Value} (F : own_Arf Z h a ty n f) (q : ∀ i, i < n.toNatClampNeg → f i = f' i) : own_Arf Z h a ty n f' := by
  obtain ⟨c, A, S, q1, H⟩ := F
  exact ⟨c, A, S, q1, fun i hi => by rw [H i hi, q i (S ▸ hi)]⟩
theorem own_Arf.set (F : own_Arf Z h a ty n f) (W : Wr h h' a j.toNatClampNeg v) : own_Arf Z h' a ty n (fun i => if i = j.toNatClampNeg then v else f i) := by
  obtain ⟨c, A, S, q, H⟩ := F
  refine ⟨_, A.same W, by rw [sz_set]; exact S, q, fun x hx => ?_⟩
  rw [sz_set] at hx
  by_cases u : x = j.toNatClampNeg
  · subst u; simp [Cell.setSlot, hx]
  · show _ = some (if x = j.toNatClampNeg then v else f x)
    rw [if_neg u]
    have := H x hx
    simp only [Cell.setSlot]
    rw [Array.getElem?_setIfInBounds_ne (Ne.symm u)]
    exact this
def own_upd {α : Type} (u : Nat → α) (j : Int32) (x : α) : Nat → α := fun i => if i = j.toNatClampNeg then x else u i
theorem own_Arf.iaload (F : own_Arf Z h a .int n f) (X : Stand p l e R s m args below meth c T locs cells slots) (hx : p.tables.exec = Jvm.exec) (hZ : Z.Warmed39 s.vm) (eT : T.heap = h) (hj : ¬ j < 0) (hn : j < n) (hv : f j.toNatClampNeg = v) {g : JFrame} (hg : g.method = m) {rest : List Value} (hs : g.stack = .int j :: .ref a :: rest) (hd : decode c.code g.pc = .ok (.iaload, 1)) (target : State) (hr : Steps p.tables e below (T.setTop { g with pc := g.pc + 1, stack := v :: rest }) target) : Steps p.tables e below (T.setTop g) target := by
  obtain ⟨cl, A, S, q, H⟩ := F
  have hin := inb_of S ⟨hj, hn⟩
  exact X.iaload hx (by rw [eT]; exact A.1) (State.isArrayOf_alike hZ.alike A.2.1) A.2.2 hin (by rw [H _ (Nat.lt_of_not_le fun y => hin (Or.inr y)), hv]) hg hs hd target hr
theorem own_Arf.aaload (F : own_Arf Z h a ty n f) (hty : ty.isReference = true) (X : Stand p l e R s m args below meth c T locs cells slots) (hx : p.tables.exec = Jvm.exec) (hZ : Z.Warmed39 s.vm) (eT : T.heap = h) (hj : ¬ j < 0) (hn : j < n) (hv : f j.toNatClampNeg = v) {g : JFrame} (hg : g.method = m) {rest : List Value} (hs : g.stack = .int j :: .ref a :: rest) (hd : decode c.code g.pc = .ok (.aaload, 1)) (target : State) (hr : Steps p.tables e below (T.setTop { g with pc := g.pc + 1, stack := v :: rest }) target) : Steps p.tables e below (T.setTop g) target := by
  obtain ⟨cl, A, S, q, H⟩ := F
  have hin := inb_of S ⟨hj, hn⟩
  exact X.aaload hx (by rw [eT]; exact A.1) (State.isArrayOf_alike hZ.alike A.2.1) hty A.2.2 hin (by rw [H _ (Nat.lt_of_not_le fun y => hin (Or.inr y)), hv]) hg hs hd target hr
theorem own_Arf.alen (F : own_Arf Z h a ty n f) (X : Stand p l e R s m args below meth c T locs cells slots) (hx : p.tables.exec = Jvm.exec) (hZ : Z.Warmed39 s.vm) (eT : T.heap = h) {g : JFrame} (hg : g.method = m) {rest : List Value} (hs : g.stack = .ref a :: rest) (hd : decode c.code g.pc = .ok (.arraylength, 1)) (target : State) (hr : Steps p.tables e below (T.setTop { g with pc := g.pc + 1, stack := .int n :: rest }) target) : Steps p.tables e below (T.setTop g) target := by
  obtain ⟨cl, A, S, q, H⟩ := F
  refine X.arraylength hx (by rw [eT]; exact A.1) (State.isArrayOf_alike hZ.alike A.2.1) hg hs hd target ?_
  rw [len_of S q]
  exact hr
end OwnArf
section OwnArfB
variable {p : Program} {l : Launch} {e : Env} {R : Room} {s : State} {m : MethodId} {args : Array Value} {below : List Frame} {meth : Method} {c : Code} {T : State} {locs : List Loc} {cells slots : Nat} {Z : State} {h h' : Heap} {a b : Addr} {ty : FieldType} {n j : Int32} {f : Nat → Value} {v : Value} {sl : Nat} {ws : List Addr}
theorem own_Arf.baload (F : own_Arf Z h a .byte n f) (X : Stand p l e R s m args below meth c T locs cells slots) (hx : p.tables.exec = Jvm.exec) (hZ : Z.Warmed39 s.vm) (eT : T.heap = h) (hj : ¬ j < 0) (hn : j < n) (hv : f j.toNatClampNeg = v) {g : JFrame} (hg : g.method = m) {rest : List Value} (hs : g.stack = .int j :: .ref a :: rest) (hd : decode c.code g.pc = .ok (.baload, 1)) (target : State) (hr : Steps p.tables e below (T.setTop { g with pc := g.pc + 1, stack := v :: rest }) target) : Steps p.tables e below (T.setTop g) target := by
  obtain ⟨cl, A, S, q, H⟩ := F
  have hin := inb_of S ⟨hj, hn⟩
  exact X.baloadBytes hx (by rw [eT]; exact A.1) (State.isArrayOf_alike hZ.alike A.2.1) A.2.2 hin (by rw [H _ (Nat.lt_of_not_le fun y => hin (Or.inr y)), hv]) hg hs hd target hr
end OwnArfB
abbrev own_C (p : Program) (s : State) (m : MethodId) (c : Code) (Z : State) (own : String) (bs : ByteArray) (ml : Nat) (meth : Method) (rt : Option FieldType) (nm : String) : Prop :=
  p.tables.exec = Jvm.exec ∧ Z.Warmed39 s.vm ∧ c.code = bs ∧ c.maxLocals = ml ∧ s.vm.findClass own = some m.cls ∧ meth.sig.returnType = rt ∧ meth.locks = false ∧ meth.name = nm
section OwnC
variable {p : Program} {s : State} {m : MethodId} {c : Code} {Z : State} {own : String} {bs : ByteArray} {ml : Nat} {meth : Method} {rt : Option FieldType} {nm : String}
theorem own_C.hx (B : own_C p s m c Z own bs ml meth rt nm) : p.tables.exec = Jvm.exec := B.1
theorem own_C.hZ (B : own_C p s m c Z own bs ml meth rt nm) : Z.Warmed39 s.vm := B.2.1
theorem own_C.hby (B : own_C p s m c Z own bs ml meth rt nm) : c.code = bs := B.2.2.1
theorem own_C.hml (B : own_C p s m c Z own bs ml meth rt nm) : c.maxLocals = ml := B.2.2.2.1
theorem own_C.hown (B : own_C p s m c Z own bs ml meth rt nm) : s.vm.findClass own = some m.cls := B.2.2.2.2.1
theorem own_C.hret (B : own_C p s m c Z own bs ml meth rt nm) : meth.sig.returnType = rt := B.2.2.2.2.2.1
theorem own_C.hlk (B : own_C p s m c Z own bs ml meth rt nm) : meth.locks = false := B.2.2.2.2.2.2.1
theorem own_C.hnm (B : own_C p s m c Z own bs ml meth rt nm) : meth.name = nm := B.2.2.2.2.2.2.2
end OwnC
section OwnCps
variable {p : Program} {l : Launch} {e : Env} {R : Room} {s : State} {m : MethodId} {args : Array Value} {below : List Frame} {meth : Method} {c : Code} {T : State} {locs : List Loc} {cells slots : Nat} {Z : State} {a0 : Array Value} {own : String} {bs : ByteArray} {ml : Nat} {rt0 : Option FieldType} {nm0 : String} {P : State → Outcome → Prop} {h h' : Heap} {pc q : Nat} {L l' : Array Slot} {S rest : List Value} {x y v : Int32} {u w : Value} {a b : Addr} {o : Int} {n : Int32} {f : Nat → Value}
theorem g_aloadN (B : own_C p s m c Z own bs ml meth rt0 nm0) (X : Stand p l e R s m args below meth c T locs cells slots) {k : Fin 4} (d : decode bs pc = .ok (.aload_n k, 1)) (hl : L[k.val]? = some (.val (u))) (hv : u.isRef = true) (hq : q = pc + 1) (k : own_Go p.tables e below P (T.setTop (mkF m q L (u :: S)))) : own_Go p.tables e below P (T.setTop (mkF m pc L S)) := by subst hq; exact own_up (fun _ kq => XS.aloadN X.here B.hx rfl (hb B.hby d) hl hv kq) k
theorem g_aload (B : own_C p s m c Z own bs ml meth rt0 nm0) (X : Stand p l e R s m args below meth c T locs cells slots) {k : Nat} (d : decode bs pc = .ok (.aload k, 2)) (hl : L[k]? = some (.val (u))) (hv : u.isRef = true) (hq : q = pc + 2) (k : own_Go p.tables e below P (T.setTop (mkF m q L (u :: S)))) : own_Go p.tables e below P (T.setTop (mkF m pc L S)) := by subst hq; exact own_up (fun _ kq => XS.aload X.here B.hx rfl (hb B.hby d) hl hv kq) k
theorem g_iloadN (B : own_C p s m c Z own bs ml meth rt0 nm0) (X : Stand p l e R s m args below meth c T locs cells slots) {k : Fin 4} (d : decode bs pc = .ok (.iload_n k, 1)) (hl : L[k.val]? = some (.val (.int v))) (hq : q = pc + 1) (k : own_Go p.tables e below P (T.setTop (mkF m q L (.int v :: S)))) : own_Go p.tables e below P (T.setTop (mkF m pc L S)) := by subst hq; exact own_up (fun _ kq => XS.iloadN X.here B.hx rfl (hb B.hby d) hl kq) k
theorem g_iload (B : own_C p s m c Z own bs ml meth rt0 nm0) (X : Stand p l e R s m args below meth c T locs cells slots) {k : Nat} (d : decode bs pc = .ok (.iload k, 2)) (hl : L[k]? = some (.val (.int v))) (hq : q = pc + 2) (k : own_Go p.tables e below P (T.setTop (mkF m q L (.int v :: S)))) : own_Go p.tables e below P (T.setTop (mkF m pc L S)) := by subst hq; exact own_up (fun _ kq => XS.iload X.here B.hx rfl (hb B.hby d) hl kq) k
theorem g_astoreN (B : own_C p s m c Z own bs ml meth rt0 nm0) (X : Stand p l e R s m args below meth c T locs cells slots) {k : Fin 4} (d : decode bs pc = .ok (.astore_n k, 1)) (hv : u.isRef = true) (hl : storeLocals L k.val (u) = some l') (hq : q = pc + 1) (k : own_Go p.tables e below P (T.setTop (mkF m q l' S))) : own_Go p.tables e below P (T.setTop (mkF m pc L (u :: S))) := by subst hq; exact own_up (fun _ kq => XS.astoreN X.here B.hx rfl (hb B.hby d) rfl hv hl kq) k
theorem g_astore (B : own_C p s m c Z own bs ml meth rt0 nm0) (X : Stand p l e R s m args below meth c T locs cells slots) {k : Nat} (d : decode bs pc = .ok (.astore k, 2)) (hv : u.isRef = true) (hl : storeLocals L k (u) = some l') (hq : q = pc + 2) (k : own_Go p.tables e below P (T.setTop (mkF m q l' S))) : own_Go p.tables e below P (T.setTop (mkF m pc L (u :: S))) := by subst hq; exact own_up (fun _ kq => XS.astore X.here B.hx rfl (hb B.hby d) rfl hv hl kq) k
theorem g_istoreN (B : own_C p s m c Z own bs ml meth rt0 nm0) (X : Stand p l e R s m args below meth c T locs cells slots) {k : Fin 4} (d : decode bs pc = .ok (.istore_n k, 1)) (hl : storeLocals L k.val (.int v) = some l') (hq : q = pc + 1) (k : own_Go p.tables e below P (T.setTop (mkF m q l' S))) : own_Go p.tables e below P (T.setTop (mkF m pc L (.int v :: S))) := by subst hq; exact own_up (fun _ kq => XS.istoreN X.here B.hx rfl (hb B.hby d) rfl hl kq) k
theorem g_istore (B : own_C p s m c Z own bs ml meth rt0 nm0) (X : Stand p l e R s m args below meth c T locs cells slots) {k : Nat} (d : decode bs pc = .ok (.istore k, 2)) (hl : storeLocals L k (.int v) = some l') (hq : q = pc + 2) (k : own_Go p.tables e below P (T.setTop (mkF m q l' S))) : own_Go p.tables e below P (T.setTop (mkF m pc L (.int v :: S))) := by subst hq; exact own_up (fun _ kq => XS.istore X.here B.hx rfl (hb B.hby d) rfl hl kq) k
theorem g_iconst (B : own_C p s m c Z own bs ml meth rt0 nm0) (X : Stand p l e R s m args below meth c T locs cells slots) (d : decode bs pc = .ok (.iconst o, 1)) (hv : Int32.ofInt o = v) (hq : q = pc + 1) (k : own_Go p.tables e below P (T.setTop (mkF m q L (.int v :: S)))) : own_Go p.tables e below P (T.setTop (mkF m pc L S)) := by subst hq hv; exact own_up (fun _ kq => XS.iconst X.here B.hx rfl (hb B.hby d) kq) k
theorem g_bipush (B : own_C p s m c Z own bs ml meth rt0 nm0) (X : Stand p l e R s m args below meth c T locs cells slots) (d : decode bs pc = .ok (.bipush o, 2)) (hv : (Int8.ofInt o).toInt32 = v) (hq : q = pc + 2) (k : own_Go p.tables e below P (T.setTop (mkF m q L (.int v :: S)))) : own_Go p.tables e below P (T.setTop (mkF m pc L S)) := by subst hq hv; exact own_up (fun _ kq => XS.bipush X.here B.hx rfl (hb B.hby d) kq) k
theorem g_sipush (B : own_C p s m c Z own bs ml meth rt0 nm0) (X : Stand p l e R s m args below meth c T locs cells slots) (d : decode bs pc = .ok (.sipush o, 3)) (hv : (Int16.ofInt o).toInt32 = v) (hq : q = pc + 3) (k : own_Go p.tables e below P (T.setTop (mkF m q L (.int v :: S)))) : own_Go p.tables e below P (T.setTop (mkF m pc L S)) := by subst hq hv; exact own_up (fun _ kq => XS.sipush X.here B.hx rfl (hb B.hby d) kq) k
theorem g_aconstNull (B : own_C p s m c Z own bs ml meth rt0 nm0) (X : Stand p l e R s m args below meth c T locs cells slots) (d : decode bs pc = .ok (.aconst_null, 1)) (hq : q = pc + 1) (k : own_Go p.tables e below P (T.setTop (mkF m q L (.null :: S)))) : own_Go p.tables e below P (T.setTop (mkF m pc L S)) := by subst hq; exact own_up (fun _ kq => XS.aconstNull X.here B.hx rfl (hb B.hby d) kq) k
theorem g_iadd (B : own_C p s m c Z own bs ml meth rt0 nm0) (X : Stand p l e R s m args below meth c T locs cells slots) (d : decode bs pc = .ok (.iadd, 1)) (hv : x + y = v) (hq : q = pc + 1) (k : own_Go p.tables e below P (T.setTop (mkF m q L (.int v :: S)))) : own_Go p.tables e below P (T.setTop (mkF m pc L (.int y :: .int x :: S))) := by subst hq hv; exact own_up (fun _ kq => XS.iadd X.here B.hx rfl (hb B.hby d) rfl kq) k
theorem g_isub (B : own_C p s m c Z own bs ml meth rt0 nm0) (X : Stand p l e R s m args below meth c T locs cells slots) (d : decode bs pc = .ok (.isub, 1)) (hv : x - y = v) (hq : q = pc + 1) (k : own_Go p.tables e below P (T.setTop (mkF m q L (.int v :: S)))) : own_Go p.tables e below P (T.setTop (mkF m pc L (.int y :: .int x :: S))) := by subst hq hv; exact own_up (fun _ kq => XS.isub X.here B.hx rfl (hb B.hby d) rfl kq) k
theorem g_imul (B : own_C p s m c Z own bs ml meth rt0 nm0) (X : Stand p l e R s m args below meth c T locs cells slots) (d : decode bs pc = .ok (.imul, 1)) (hv : x * y = v) (hq : q = pc + 1) (k : own_Go p.tables e below P (T.setTop (mkF m q L (.int v :: S)))) : own_Go p.tables e below P (T.setTop (mkF m pc L (.int y :: .int x :: S))) := by subst hq hv; exact own_up (fun _ kq => XS.imul X.here B.hx rfl (hb B.hby d) rfl kq) k
theorem g_iand (B : own_C p s m c Z own bs ml meth rt0 nm0) (X : Stand p l e R s m args below meth c T locs cells slots) (d : decode bs pc = .ok (.iand, 1)) (hv : x &&& y = v) (hq : q = pc + 1) (k : own_Go p.tables e below P (T.setTop (mkF m q L (.int v :: S)))) : own_Go p.tables e below P (T.setTop (mkF m pc L (.int y :: .int x :: S))) := by subst hq hv; exact own_up (fun _ kq => XS.iand X.here B.hx rfl (hb B.hby d) rfl kq) k
theorem g_ixor (B : own_C p s m c Z own bs ml meth rt0 nm0) (X : Stand p l e R s m args below meth c T locs cells slots) (d : decode bs pc = .ok (.ixor, 1)) (hv : x ^^^ y = v) (hq : q = pc + 1) (k : own_Go p.tables e below P (T.setTop (mkF m q L (.int v :: S)))) : own_Go p.tables e below P (T.setTop (mkF m pc L (.int y :: .int x :: S))) := by subst hq hv; exact own_up (fun _ kq => XS.ixor X.here B.hx rfl (hb B.hby d) rfl kq) k
theorem g_ishl (B : own_C p s m c Z own bs ml meth rt0 nm0) (X : Stand p l e R s m args below meth c T locs cells slots) (d : decode bs pc = .ok (.ishl, 1)) (hv : x <<< (y &&& 31) = v) (hq : q = pc + 1) (k : own_Go p.tables e below P (T.setTop (mkF m q L (.int v :: S)))) : own_Go p.tables e below P (T.setTop (mkF m pc L (.int y :: .int x :: S))) := by subst hq hv; exact own_up (fun _ kq => XS.ishl X.here B.hx rfl (hb B.hby d) rfl kq) k
theorem g_ishr (B : own_C p s m c Z own bs ml meth rt0 nm0) (X : Stand p l e R s m args below meth c T locs cells slots) (d : decode bs pc = .ok (.ishr, 1)) (hv : x >>> (y &&& 31) = v) (hq : q = pc + 1) (k : own_Go p.tables e below P (T.setTop (mkF m q L (.int v :: S)))) : own_Go p.tables e below P (T.setTop (mkF m pc L (.int y :: .int x :: S))) := by subst hq hv; exact own_up (fun _ kq => XS.ishr X.here B.hx rfl (hb B.hby d) rfl kq) k
theorem g_iushr (B : own_C p s m c Z own bs ml meth rt0 nm0) (X : Stand p l e R s m args below meth c T locs cells slots) (d : decode bs pc = .ok (.iushr, 1)) (hv : (x.toUInt32 >>> (y &&& 31).toUInt32).toInt32 = v) (hq : q = pc + 1) (k : own_Go p.tables e below P (T.setTop (mkF m q L (.int v :: S)))) : own_Go p.tables e below P (T.setTop (mkF m pc L (.int y :: .int x :: S))) := by subst hq hv; exact own_up (fun _ kq => XS.iushr X.here B.hx rfl (hb B.hby d) rfl kq) k
theorem g_ineg (B : own_C p s m c Z own bs ml meth rt0 nm0) (X : Stand p l e R s m args below meth c T locs cells slots) (d : decode bs pc = .ok (.ineg, 1)) (hv : -x = v) (hq : q = pc + 1) (k : own_Go p.tables e below P (T.setTop (mkF m q L (.int v :: S)))) : own_Go p.tables e below P (T.setTop (mkF m pc L (.int x :: S))) := by subst hq hv; exact own_up (fun _ kq => XS.ineg X.here B.hx rfl (hb B.hby d) rfl kq) k
theorem g_i2b (B : own_C p s m c Z own bs ml meth rt0 nm0) (X : Stand p l e R s m args below meth c T locs cells slots) (d : decode bs pc = .ok (.i2b, 1)) (hv : x.toInt8.toInt32 = v) (hq : q = pc + 1) (k : own_Go p.tables e below P (T.setTop (mkF m q L (.int v :: S)))) : own_Go p.tables e below P (T.setTop (mkF m pc L (.int x :: S))) := by subst hq hv; exact own_up (fun _ kq => XS.i2b X.here B.hx rfl (hb B.hby d) rfl kq) k
theorem g_i2c (B : own_C p s m c Z own bs ml meth rt0 nm0) (X : Stand p l e R s m args below meth c T locs cells slots) (d : decode bs pc = .ok (.i2c, 1)) (hv : x.toUInt32.toUInt16.toUInt32.toInt32 = v) (hq : q = pc + 1) (k : own_Go p.tables e below P (T.setTop (mkF m q L (.int v :: S)))) : own_Go p.tables e below P (T.setTop (mkF m pc L (.int x :: S))) := by subst hq hv; exact own_up (fun _ kq => XS.i2c X.here B.hx rfl (hb B.hby d) rfl kq) k
theorem g_iinc (B : own_C p s m c Z own bs ml meth rt0 nm0) (X : Stand p l e R s m args below meth c T locs cells slots) {k : Nat} (d : decode bs pc = .ok (.iinc k o, 3)) (hl : L[k]? = some (.val (.int x))) (hv : x + Int32.ofInt o = v) (hl' : storeLocals L k (.int v) = some l') (hq : q = pc + 3) (k' : own_Go p.tables e below P (T.setTop (mkF m q l' S))) : own_Go p.tables e below P (T.setTop (mkF m pc L S)) := by subst hq hv; exact own_up (fun _ kq => XS.iinc X.here B.hx rfl (hb B.hby d) hl hl' kq) k'
theorem g_dup (B : own_C p s m c Z own bs ml meth rt0 nm0) (X : Stand p l e R s m args below meth c T locs cells slots) (d : decode bs pc = .ok (.dup, 1)) (hc : u.category = 1) (hq : q = pc + 1) (k : own_Go p.tables e below P (T.setTop (mkF m q L (u :: u :: S)))) : own_Go p.tables e below P (T.setTop (mkF m pc L (u :: S))) := by subst hq; exact own_up (fun _ kq => XS.dup X.here B.hx rfl (hb B.hby d) rfl hc kq) k
theorem g_pop (B : own_C p s m c Z own bs ml meth rt0 nm0) (X : Stand p l e R s m args below meth c T locs cells slots) (d : decode bs pc = .ok (.pop, 1)) (hc : u.category = 1) (hq : q = pc + 1) (k : own_Go p.tables e below P (T.setTop (mkF m q L S))) : own_Go p.tables e below P (T.setTop (mkF m pc L (u :: S))) := by subst hq; exact own_up (fun _ kq => XS.pop X.here B.hx rfl (hb B.hby d) rfl hc kq) k
theorem g_dupX1 (B : own_C p s m c Z own bs ml meth rt0 nm0) (X : Stand p l e R s m args below meth c T locs cells slots) (d : decode bs pc = .ok (.dup_x1, 1)) (hc : u.category = 1) (hc2 : w.category = 1) (hq : q = pc + 1) (k : own_Go p.tables e below P (T.setTop (mkF m q L (u :: w :: u :: S)))) : own_Go p.tables e below P (T.setTop (mkF m pc L (u :: w :: S))) := by subst hq; exact own_up (fun _ kq => XS.dupX1 X.here B.hx rfl (hb B.hby d) rfl hc hc2 kq) k
theorem g_goto (B : own_C p s m c Z own bs ml meth rt0 nm0) (X : Stand p l e R s m args below meth c T locs cells slots) (d : decode bs pc = .ok (.goto o, 3)) (ho : 0 ≤ (pc : Int) + o) (hq : ((pc : Int) + o).toNat = q) (k : own_Go p.tables e below P (T.setTop (mkF m q L S))) : own_Go p.tables e below P (T.setTop (mkF m pc L S)) := own_up (fun _ kq => XS.goto X.here B.hx rfl rfl (hb B.hby d) ho hq kq) k
theorem g_ifYes (B : own_C p s m c Z own bs ml meth rt0 nm0) (X : Stand p l e R s m args below meth c T locs cells slots) {cd : ClassFile.Cond} (d : decode bs pc = .ok (.ifCond cd o, 3)) (hc : ifCond.holds cd x = true) (ho : 0 ≤ (pc : Int) + o) (hq : ((pc : Int) + o).toNat = q) (k : own_Go p.tables e below P (T.setTop (mkF m q L S))) : own_Go p.tables e below P (T.setTop (mkF m pc L (.int x :: S))) := own_up (fun _ kq => XS.ifYes X.here B.hx rfl rfl (hb B.hby d) rfl hc ho hq kq) k
theorem g_ifNo (B : own_C p s m c Z own bs ml meth rt0 nm0) (X : Stand p l e R s m args below meth c T locs cells slots) {cd : ClassFile.Cond} (d : decode bs pc = .ok (.ifCond cd o, 3)) (hc : ifCond.holds cd x = false) (hq : q = pc + 3) (k : own_Go p.tables e below P (T.setTop (mkF m q L S))) : own_Go p.tables e below P (T.setTop (mkF m pc L (.int x :: S))) := by subst hq; exact own_up (fun _ kq => XS.ifNo X.here B.hx rfl (hb B.hby d) rfl hc kq) k
theorem g_icmpYes (B : own_C p s m c Z own bs ml meth rt0 nm0) (X : Stand p l e R s m args below meth c T locs cells slots) {cd : ClassFile.Cond} (d : decode bs pc = .ok (.if_icmp cd o, 3)) (hc : if_icmp.holds cd x y = true) (ho : 0 ≤ (pc : Int) + o) (hq : ((pc : Int) + o).toNat = q) (k : own_Go p.tables e below P (T.setTop (mkF m q L S))) : own_Go p.tables e below P (T.setTop (mkF m pc L (.int y :: .int x :: S))) := own_up (fun _ kq => XS.icmpYes X.here B.hx rfl rfl (hb B.hby d) rfl hc ho hq kq) k
theorem g_icmpNo (B : own_C p s m c Z own bs ml meth rt0 nm0) (X : Stand p l e R s m args below meth c T locs cells slots) {cd : ClassFile.Cond} (d : decode bs pc = .ok (.if_icmp cd o, 3)) (hc : if_icmp.holds cd x y = false) (hq : q = pc + 3) (k : own_Go p.tables e below P (T.setTop (mkF m q L S))) : own_Go p.tables e below P (T.setTop (mkF m pc L (.int y :: .int x :: S))) := by subst hq; exact own_up (fun _ kq => XS.icmpNo X.here B.hx rfl (hb B.hby d) rfl hc kq) k
theorem g_ifnullYes (B : own_C p s m c Z own bs ml meth rt0 nm0) (X : Stand p l e R s m args below meth c T locs cells slots) (d : decode bs pc = .ok (.ifnull o, 3)) (ho : 0 ≤ (pc : Int) + o) (hq : ((pc : Int) + o).toNat = q) (k : own_Go p.tables e below P (T.setTop (mkF m q L S))) : own_Go p.tables e below P (T.setTop (mkF m pc L (.null :: S))) := own_up (fun _ kq => XS.ifnullYes X.here B.hx rfl rfl (hb B.hby d) rfl ho hq kq) k
theorem g_ifnonnullYes (B : own_C p s m c Z own bs ml meth rt0 nm0) (X : Stand p l e R s m args below meth c T locs cells slots) (d : decode bs pc = .ok (.ifnonnull o, 3)) (ho : 0 ≤ (pc : Int) + o) (hq : ((pc : Int) + o).toNat = q) (k : own_Go p.tables e below P (T.setTop (mkF m q L S))) : own_Go p.tables e below P (T.setTop (mkF m pc L (.ref a :: S))) := own_up (fun _ kq => XS.ifnonnullYes X.here B.hx rfl rfl (hb B.hby d) rfl ho hq kq) k
theorem g_ifnullNo (B : own_C p s m c Z own bs ml meth rt0 nm0) (X : Stand p l e R s m args below meth c T locs cells slots) (d : decode bs pc = .ok (.ifnull o, 3)) (hq : q = pc + 3) (k : own_Go p.tables e below P (T.setTop (mkF m q L S))) : own_Go p.tables e below P (T.setTop (mkF m pc L (.ref a :: S))) := by subst hq; exact own_up (fun _ kq => XS.ifnullNo X.here B.hx rfl (hb B.hby d) rfl kq) k
theorem g_ifnonnullNo (B : own_C p s m c Z own bs ml meth rt0 nm0) (X : Stand p l e R s m args below meth c T locs cells slots) (d : decode bs pc = .ok (.ifnonnull o, 3)) (hq : q = pc + 3) (k : own_Go p.tables e below P (T.setTop (mkF m q L S))) : own_Go p.tables e below P (T.setTop (mkF m pc L (.null :: S))) := by subst hq; exact own_up (fun _ kq => XS.ifnonnullNo X.here B.hx rfl (hb B.hby d) rfl kq) k
theorem g_getF (B : own_C p s m c Z own bs ml meth rt0 nm0) (X : Stand p l e R s m args below meth c T locs cells slots) {R0 O nm ds host : String} {i : Nat} (w : (Cond.fieldLink own i R0 nm ds).before a0 Z = true ∨ (Cond.fieldLinkNest own i R0 nm ds host).before a0 Z = true) (via : Via Z R0 O nm ds) (eT : T.heap = h) (F : Fld Z h a O nm ds u) (d : decode bs pc = .ok (.getfield i, 3)) (hq : q = pc + 3) (k : ∀ T' : State, Stand p l e R s m args below meth c T' locs cells slots → T'.heap = h → own_Go p.tables e below P (T'.setTop (mkF m q L (u :: S)))) : own_Go p.tables e below P (T.setTop (mkF m pc L (.ref a :: S))) := by
  subst hq
  obtain ⟨T1, X1, e1, st⟩ := getF X B.hx B.hZ B.hown w via eT F (g := mkF m pc L (.ref a :: S)) rfl rfl (hb B.hby d)
  exact own_up st (k T1 X1 e1)
theorem g_getS (B : own_C p s m c Z own bs ml meth rt0 nm0) (X : Stand p l e R s m args below meth c T locs cells slots) {R0 O nm ds host : String} {i : Nat} (w : (Cond.fieldLink own i R0 nm ds).before a0 Z = true ∨ (Cond.fieldLinkNest own i R0 nm ds host).before a0 Z = true) (via : Via Z R0 O nm ds) (eT : T.heap = h) (F : Sta Z h O nm ds u) (d : decode bs pc = .ok (.getstatic i, 3)) (hq : q = pc + 3) (k : ∀ T' : State, Stand p l e R s m args below meth c T' locs cells slots → T'.heap = h → own_Go p.tables e below P (T'.setTop (mkF m q L (u :: S)))) : own_Go p.tables e below P (T.setTop (mkF m pc L S)) := by
  subst hq
  obtain ⟨T1, X1, e1, st⟩ := getS2 X B.hx B.hZ B.hown w via eT F (g := mkF m pc L S) rfl (hb B.hby d)
  exact own_up st (k T1 X1 e1)
theorem g_putF (B : own_C p s m c Z own bs ml meth rt0 nm0) (X : Stand p l e R s m args below meth c T locs cells slots) {R0 O nm ds host C : String} {i kk : Nat} {ty : FieldType} {old : Value} (w : (Cond.fieldLink own i R0 nm ds).before a0 Z = true ∨ (Cond.fieldLinkNest own i R0 nm ds host).before a0 Z = true) (via : Via Z R0 O nm ds) (eT : T.heap = h) (F : Fld Z h a O nm ds old) (E : Exa Z h a C) (lw : (Cond.lays C O nm ds).before a0 Z = true ∨ ((Cond.laysFinal C O nm ds).before a0 Z = true ∧ own = O ∧ meth.name = "<init>")) (wi : (Cond.instantiable C kk).before a0 Z = true) (hty : parseFieldDescriptor ds = some ty) (hn : narrow ty u = u) (hf : fits ty u = true) (d : decode bs pc = .ok (.putfield i, 3)) (hq : q = pc + 3)
    (k : ∀ (T' : State) (h' : Heap), Stand p l e R s m args below meth c T' (locs ++ [⟨a, Jvm.RoadKit.slotOf Z O nm ds⟩]) cells slots → T'.heap = h' → Wr h h' a (Jvm.RoadKit.slotOf Z O nm ds) u → own_Go p.tables e below P (T'.setTop (mkF m q L S))) : own_Go p.tables e below P (T.setTop (mkF m pc L (u :: .ref a :: S))) := by
  subst hq
  obtain ⟨T1, h1, X1, e1, W1, st⟩ := putF X B.hx B.hZ B.hown w via eT F E lw wi hty hn hf (g := mkF m pc L (u :: .ref a :: S)) rfl rfl (hb B.hby d)
  exact own_up st (k T1 h1 X1 e1 W1)
theorem g_new (B : own_C p s m c Z own bs ml meth rt0 nm0) (X : Stand p l e R s m args below meth c T locs cells slots) {C : String} {i nn : Nat} (w : (Cond.classLink own i C).before a0 Z = true) (wi : (Cond.instantiable C nn).before a0 Z = true) (wz : (Cond.initialized C).before a0 Z = true) (eT : T.heap = h) (d : decode bs pc = .ok (.new i, 3)) (hc : cells + 1 ≤ R.cells) (hl : slots + nn ≤ R.slots) (hq : q = pc + 3)
    (k : ∀ (b : Addr) (T' : State) (h' : Heap), b = h.size → Stand p l e R s m args below meth c T' locs (cells + 1) (slots + nn) → T'.heap = h' → Ext h h' → Exa Z h' b C → (∀ {O nm ds : String} {ty : FieldType}, Laid Z a0 C O nm ds → parseFieldDescriptor ds = some ty → Fld Z h' b O nm ds (defaultValue ty)) → own_Go p.tables e below P (T'.setTop (mkF m q L (.ref b :: S)))) : own_Go p.tables e below P (T.setTop (mkF m pc L S)) := by
  subst hq
  obtain ⟨T1, h1, X1, e1, E1, A1, D1, -, st⟩ := newO X B.hx B.hZ B.hown w wi wz eT (g := mkF m pc L S) rfl (hb B.hby d) hc hl
  exact own_up st (k _ T1 h1 rfl X1 e1 E1 A1 D1)
theorem g_newarr (B : own_C p s m c Z own bs ml meth rt0 nm0) (X : Stand p l e R s m args below meth c T locs cells slots) {aty : ArrayType} {cap : Nat} (w : (Cond.arrayClass (newarray.typeOf aty)).before a0 Z = true) (eT : T.heap = h) (hn : ¬ n < 0) (hcap : n.toNatClampNeg ≤ cap) (hbig : cap * 8 ≤ 536870912) (d : decode bs pc = .ok (.newarray aty, 2)) (hc : cells + 1 ≤ R.cells) (hl : slots + cap ≤ R.slots) (hq : q = pc + 2)
    (k : ∀ (b : Addr) (T' : State) (h' : Heap), b = h.size → Stand p l e R s m args below meth c T' locs (cells + 1) (slots + cap) → T'.heap = h' → Ext h h' → own_Arf Z h' b (newarray.typeOf aty) n (fun _ => defaultValue (newarray.typeOf aty)) → own_Go p.tables e below P (T'.setTop (mkF m q L (.ref b :: S)))) : own_Go p.tables e below P (T.setTop (mkF m pc L (.int n :: S))) := by
  subst hq
  obtain ⟨T1, h1, k1, X1, e1, E1, A1, st⟩ := newP X B.hx B.hZ w eT (g := mkF m pc L (.int n :: S)) rfl (hb B.hby d) rfl hn hcap hbig hc hl
  exact own_up st (k _ T1 h1 rfl X1 e1 E1 (own_Arf.new A1 hn))
theorem g_alen (B : own_C p s m c Z own bs ml meth rt0 nm0) (X : Stand p l e R s m args below meth c T locs cells slots) {ty : FieldType} (eT : T.heap = h) (F : own_Arf Z h a ty n f) (d : decode bs pc = .ok (.arraylength, 1)) (hq : q = pc + 1) (k : own_Go p.tables e below P (T.setTop (mkF m q L (.int n :: S)))) : own_Go p.tables e below P (T.setTop (mkF m pc L (.ref a :: S))) := by
  subst hq
  exact own_up (fun _ kq => F.alen X B.hx B.hZ eT (g := mkF m pc L (.ref a :: S)) rfl rfl (hb B.hby d) _ kq) k
theorem g_iaload (B : own_C p s m c Z own bs ml meth rt0 nm0) (X : Stand p l e R s m args below meth c T locs cells slots) (eT : T.heap = h) (F : own_Arf Z h a .int n f) (h1 : ¬ v < 0) (h2 : v < n) (hv : f v.toNatClampNeg = u) (d : decode bs pc = .ok (.iaload, 1)) (hq : q = pc + 1) (k : own_Go p.tables e below P (T.setTop (mkF m q L (u :: S)))) : own_Go p.tables e below P (T.setTop (mkF m pc L (.int v :: .ref a :: S))) := by
  subst hq
  exact own_up (fun _ kq => F.iaload X B.hx B.hZ eT h1 h2 hv (g := mkF m pc L (.int v :: .ref a :: S)) rfl rfl (hb B.hby d) _ kq) k
theorem g_baload (B : own_C p s m c Z own bs ml meth rt0 nm0) (X : Stand p l e R s m args below meth c T locs cells slots) (eT : T.heap = h) (F : own_Arf Z h a .byte n f) (h1 : ¬ v < 0) (h2 : v < n) (hv : f v.toNatClampNeg = u) (d : decode bs pc = .ok (.baload, 1)) (hq : q = pc + 1) (k : own_Go p.tables e below P (T.setTop (mkF m q L (u :: S)))) : own_Go p.tables e below P (T.setTop (mkF m pc L (.int v :: .ref a :: S))) := by
  subst hq
  exact own_up (fun _ kq => F.baload X B.hx B.hZ eT h1 h2 hv (g := mkF m pc L (.int v :: .ref a :: S)) rfl rfl (hb B.hby d) _ kq) k
theorem g_aaload (B : own_C p s m c Z own bs ml meth rt0 nm0) (X : Stand p l e R s m args below meth c T locs cells slots) {ty : FieldType} (hty : ty.isReference = true) (eT : T.heap = h) (F : own_Arf Z h a ty n f) (h1 : ¬ v < 0) (h2 : v < n) (hv : f v.toNatClampNeg = u) (d : decode bs pc = .ok (.aaload, 1)) (hq : q = pc + 1) (k : own_Go p.tables e below P (T.setTop (mkF m q L (u :: S)))) : own_Go p.tables e below P (T.setTop (mkF m pc L (.int v :: .ref a :: S))) := by
  subst hq
  exact own_up (fun _ kq => F.aaload hty X B.hx B.hZ eT h1 h2 hv (g := mkF m pc L (.int v :: .ref a :: S)) rfl rfl (hb B.hby d) _ kq) k
theorem g_iastore (B : own_C p s m c Z own bs ml meth rt0 nm0) (X : Stand p l e R s m args below meth c T locs cells slots) (eT : T.heap = h) (F : own_Arf Z h a .int n f) (h1 : ¬ v < 0) (h2 : v < n) (d : decode bs pc = .ok (.iastore, 1)) (hq : q = pc + 1)
    (k : ∀ (T' : State) (h' : Heap), Stand p l e R s m args below meth c T' (locs ++ [⟨a, v.toNatClampNeg⟩]) cells slots → T'.heap = h' → Wr h h' a v.toNatClampNeg (.int x) → own_Arf Z h' a .int n (fun i => if i = v.toNatClampNeg then .int x else f i) → own_Go p.tables e below P (T'.setTop (mkF m q L S))) : own_Go p.tables e below P (T.setTop (mkF m pc L (.int x :: .int v :: .ref a :: S))) := by
  subst hq
  obtain ⟨cl, A, sz, nz, hc⟩ := id F
  obtain ⟨T1, h1', X1, e1, W1, st⟩ := stI X B.hx B.hZ eT A (inb_of sz ⟨h1, h2⟩) (g := mkF m pc L (.int x :: .int v :: .ref a :: S)) rfl rfl (hb B.hby d)
  exact own_up st (k T1 h1' X1 e1 W1 (F.set W1))
theorem g_bastore (B : own_C p s m c Z own bs ml meth rt0 nm0) (X : Stand p l e R s m args below meth c T locs cells slots) (eT : T.heap = h) (F : own_Arf Z h a .byte n f) (h1 : ¬ v < 0) (h2 : v < n) (d : decode bs pc = .ok (.bastore, 1)) (hq : q = pc + 1)
    (k : ∀ (T' : State) (h' : Heap), Stand p l e R s m args below meth c T' (locs ++ [⟨a, v.toNatClampNeg⟩]) cells slots → T'.heap = h' → Wr h h' a v.toNatClampNeg (.int (nar .byte x)) → own_Arf Z h' a .byte n (fun i => if i = v.toNatClampNeg then .int (nar .byte x) else f i) → own_Go p.tables e below P (T'.setTop (mkF m q L S))) : own_Go p.tables e below P (T.setTop (mkF m pc L (.int x :: .int v :: .ref a :: S))) := by
  subst hq
  obtain ⟨cl, A, sz, nz, hc⟩ := id F
  obtain ⟨T1, h1', X1, e1, W1, st⟩ := stB X B.hx B.hZ eT A (inb_of sz ⟨h1, h2⟩) (g := mkF m pc L (.int x :: .int v :: .ref a :: S)) rfl rfl (hb B.hby d)
  exact own_up st (k T1 h1' X1 e1 W1 (F.set W1))
theorem g_callS (B : own_C p s m c Z own bs ml meth rt0 nm0) (X : Stand p l e R s m args below meth c T locs cells slots) {y : MethodName} {i W mlc : Nat} {cb : ByteArray} {rt : Option FieldType} {rm : Room} {as' : Array Value} {Q : Option Value → Heap → List Loc → Prop} {argsL : List Value} (w1 : (Cond.methodLink own i y).before a0 Z = true) (w2 : (Cond.static y).before a0 Z = true) (w3 : (Cond.initialized y.cls).before a0 Z = true) (w4 : (Cond.code y cb mlc rt).before a0 Z = true) (hy : y.cls ≠ "java/lang/invoke/MethodHandle" ∧ y.cls ≠ "java/lang/invoke/VarHandle") (eT : T.heap = h) (hM : MetFree l y (head1 [Cond.code y cb mlc rt] rm) (fun a U => a = as' ∧ Z.Warmed39 U.vm ∧ U.heap = h) (fun _ _ _ _ _ => True) (fun _ U o U' => ∃ v L, o = .returned v ∧ Q v U'.heap L ∧ FrameEnd U o U' L rm.cells rm.slots)) (d : decode bs pc = .ok (.invokestatic i, 3)) (hs : S = argsL.reverse ++ rest) (ha : argsL.toArray = as') (hlen : ∀ sig, parseMethodDescriptor y.desc = some sig → argsL.length = sig.parameters.length) (hW : (rest.map fun v => v.category).sum ≤ W) (hL : L.size = ml) (hf : rm.frames + 1 ≤ R.frames) (hl : W + (mlc + 11) + rm.locals ≤ R.locals) (hc : cells + rm.cells ≤ R.cells) (hsl : slots + rm.slots ≤ R.slots) (hq : q = pc + 3)
    (k : ∀ (v : Option Value) (Lc : List Loc) (T' : State), Stand p l e R s m args below meth c T' (locs ++ Lc) (cells + rm.cells) (slots + rm.slots) → Q v T'.heap Lc → own_Go p.tables e below P (T'.setTop (mkF m q L (v.toList ++ rest)))) : own_Go p.tables e below P (T.setTop (mkF m pc L S)) := by
  subst hs
  subst hq
  obtain ⟨v, vm1, ⟨T1, L1, k1, n1⟩, -, X1, ⟨Lc, hQ, l1, y1, z1⟩, st⟩ := Jvm.LawKit.callS X B.hx (y := y) B.hown (mvT B.hZ w1) (mvT B.hZ w2) (mvT B.hZ w3) (mvT B.hZ w4) hy (backOf (W := W) hM B.hZ w4 w3 hf hl) (g := mkF m pc L (argsL.reverse ++ rest)) rfl (by rw [B.hml]; exact hL) (argsL := argsL) (rest := rest) hlen rfl (by show 2 * 0 + _ ≤ _; rw [Nat.mul_zero, Nat.zero_add]; exact hW) (hb B.hby d) (fun _ _ => ⟨ha, eT, hc, hsl⟩)
  dsimp only [Pt.U, Pt.locs, Pt.cells, Pt.slots] at X1 l1 y1 z1 st hQ
  subst l1 y1 z1
  exact own_up st (k v Lc T1 X1 hQ)
theorem g_callI (B : own_C p s m c Z own bs ml meth rt0 nm0) (X : Stand p l e R s m args below meth c T locs cells slots) {y : MethodName} {i W mlc : Nat} {cb : ByteArray} {rm : Room} {as' : Array Value} {Q : Option Value → Heap → List Loc → Prop} {argsL : List Value} (hi : y.name = "<init>") (w1 : (Cond.methodLink own i y).before a0 Z = true) (w2 : (Cond.instanceMethod y).before a0 Z = true) (w3 : (Cond.initialized y.cls).before a0 Z = true) (w4 : (Cond.code y cb mlc none).before a0 Z = true) (hy : y.cls ≠ "java/lang/invoke/MethodHandle" ∧ y.cls ≠ "java/lang/invoke/VarHandle") (eT : T.heap = h) (hM : MetFree l y (head1 [Cond.code y cb mlc none] rm) (fun a U => a = as' ∧ Z.Warmed39 U.vm ∧ U.heap = h) (fun _ _ _ _ _ => True) (fun _ U o U' => ∃ v L, o = .returned v ∧ Q v U'.heap L ∧ FrameEnd U o U' L rm.cells rm.slots)) (d : decode bs pc = .ok (.invokespecial i, 3)) (hs : S = argsL.reverse ++ .ref a :: rest) (ha : (.ref a :: argsL).toArray = as') (hlen : ∀ sig, parseMethodDescriptor y.desc = some sig → argsL.length = sig.parameters.length) (hW : (rest.map fun v => v.category).sum ≤ W) (hL : L.size = ml) (hf : rm.frames + 1 ≤ R.frames) (hl : W + (mlc + 11) + rm.locals ≤ R.locals) (hc : cells + rm.cells ≤ R.cells) (hsl : slots + rm.slots ≤ R.slots) (hq : q = pc + 3)
    (k : ∀ (v : Option Value) (Lc : List Loc) (T' : State), Stand p l e R s m args below meth c T' (locs ++ Lc) (cells + rm.cells) (slots + rm.slots) → Q v T'.heap Lc → own_Go p.tables e below P (T'.setTop (mkF m q L (v.toList ++ rest)))) : own_Go p.tables e below P (T.setTop (mkF m pc L S)) := by
  subst hs
  subst hq
  obtain ⟨v, vm1, ⟨T1, L1, k1, n1⟩, -, X1, ⟨Lc, hQ, l1, y1, z1⟩, st⟩ := X.specialBack B.hx (y := y) hi B.hown (mvT B.hZ w1) (mvT B.hZ w2) (mvT B.hZ w4) hy (backOf (W := W) hM B.hZ w4 w3 hf hl) (g := mkF m pc L (argsL.reverse ++ .ref a :: rest)) rfl (by rw [B.hml]; exact hL) (Steps.refl _) (a := a) (argsL := argsL) (rest := rest) hlen rfl (by show 2 * 0 + _ ≤ _; rw [Nat.mul_zero, Nat.zero_add]; exact hW) (hb B.hby d) (fun _ _ => ⟨ha, eT, hc, hsl⟩)
  dsimp only [Pt.U, Pt.locs, Pt.cells, Pt.slots] at X1 l1 y1 z1 st hQ
  subst l1 y1 z1
  exact own_up (fun _ kq => st.trans kq) (k v Lc T1 X1 hQ)
theorem g_callV (B : own_C p s m c Z own bs ml meth rt0 nm0) (X : Stand p l e R s m args below meth c T locs cells slots) {y : MethodName} {C : String} {i W mlc : Nat} {cb : ByteArray} {rt : Option FieldType} {rm : Room} {as' : Array Value} {Q : Option Value → Heap → List Loc → Prop} {argsL : List Value} (w1 : (Cond.methodLink own i y).before a0 Z = true) (w2 : (Cond.declares y).before a0 Z = true) (w5 : (Cond.selects C y y).before a0 Z = true) (w6 : (Cond.instanceMethod y).before a0 Z = true) (w3 : (Cond.initialized y.cls).before a0 Z = true) (w4 : (Cond.code y cb mlc rt).before a0 Z = true) (hy : y.cls ≠ "java/lang/invoke/MethodHandle" ∧ y.cls ≠ "java/lang/invoke/VarHandle") (eT : T.heap = h) (E : Exa Z h a C) (hM : MetFree l y (head1 [Cond.code y cb mlc rt] rm) (fun a U => a = as' ∧ Z.Warmed39 U.vm ∧ U.heap = h) (fun _ _ _ _ _ => True) (fun _ U o U' => ∃ v L, o = .returned v ∧ Q v U'.heap L ∧ FrameEnd U o U' L rm.cells rm.slots)) (d : decode bs pc = .ok (.invokevirtual i, 3)) (hs : S = argsL.reverse ++ .ref a :: rest) (ha : (.ref a :: argsL).toArray = as') (hlen : ∀ sig, parseMethodDescriptor y.desc = some sig → argsL.length = sig.parameters.length) (hW : (rest.map fun v => v.category).sum ≤ W) (hL : L.size = ml) (hf : rm.frames + 1 ≤ R.frames) (hl : W + (mlc + 11) + rm.locals ≤ R.locals) (hc : cells + rm.cells ≤ R.cells) (hsl : slots + rm.slots ≤ R.slots) (hq : q = pc + 3)
    (k : ∀ (v : Option Value) (Lc : List Loc) (T' : State), Stand p l e R s m args below meth c T' (locs ++ Lc) (cells + rm.cells) (slots + rm.slots) → Q v T'.heap Lc → own_Go p.tables e below P (T'.setTop (mkF m q L (v.toList ++ rest)))) : own_Go p.tables e below P (T.setTop (mkF m pc L S)) := by
  subst hs
  obtain ⟨cq, kq, qa, qb, qc⟩ := isOf B.hZ eT E
  subst hq
  obtain ⟨v, vm1, ⟨T1, L1, k1, n1⟩, -, X1, ⟨Lc, hQ, l1, y1, z1⟩, st⟩ := X.virtualBack B.hx (y := y) (z := y) B.hown (mvT B.hZ w1) (mvT B.hZ w2) (notFace_of_selects (args := #[]) (mvT B.hZ w5)) (mvT B.hZ w5) (mvT B.hZ w6) hy (backOf (W := W) hM B.hZ w4 w3 hf hl) qa qc (g := mkF m pc L (argsL.reverse ++ .ref a :: rest)) rfl (by rw [B.hml]; exact hL) (Steps.refl _) (argsL := argsL) (rest := rest) hlen rfl (by show 2 * 0 + _ ≤ _; rw [Nat.mul_zero, Nat.zero_add]; exact hW) (hb B.hby d) (fun _ _ => ⟨ha, eT, hc, hsl⟩)
  dsimp only [Pt.U, Pt.locs, Pt.cells, Pt.slots] at X1 l1 y1 z1 st hQ
  subst l1 y1 z1
  exact own_up (fun _ kq => st.trans kq) (k v Lc T1 X1 hQ)
theorem g_initO (B : own_C p s m c Z own bs ml meth rt0 nm0) (X : Stand p l e R s m args below meth c T locs cells slots) {i W : Nat} (w1 : (Cond.methodLink own i Lib.objectInit).before a0 Z = true) (w2 : (Cond.instanceMethod Lib.objectInit).before a0 Z = true) (w3 : (Cond.code Lib.objectInit ⟨#[0xb1]⟩ 1 none).before a0 Z = true) (eT : T.heap = h) (d : decode bs pc = .ok (.invokespecial i, 3)) (hL : L.size = ml) (hf : 1 ≤ R.frames) (hW : (S.map fun v => v.category).sum ≤ W) (hl : W + 12 ≤ R.locals) (hq : q = pc + 3) (k : ∀ T' : State, Stand p l e R s m args below meth c T' locs cells slots → T'.heap = h → own_Go p.tables e below P (T'.setTop (mkF m q L S))) : own_Go p.tables e below P (T.setTop (mkF m pc L (.ref a :: S))) := by
  subst hq
  obtain ⟨T1, X1, e1, st⟩ := initO X B.hx B.hZ B.hown w1 w2 w3 eT (g := mkF m pc L (.ref a :: S)) rfl (by rw [B.hml]; exact hL) rfl (hb B.hby d) hf (W := W) (by show 2 * 0 + _ ≤ _; rw [Nat.mul_zero, Nat.zero_add]; exact hW) hl
  exact own_up st (k T1 X1 e1)
theorem g_callIN (B : own_C p s m c Z own bs ml meth rt0 nm0) (X : Stand p l e R s m args below meth c T locs cells slots) {y : MethodName} {host : String} {i W mlc : Nat} {cb : ByteArray} {rm : Room} {as' : Array Value} {Q : Option Value → Heap → List Loc → Prop} {argsL : List Value} (hi : y.name = "<init>") (w1 : (Cond.methodLinkNest own i y host).before args s = true) (w2 : (Cond.instanceMethod y).before a0 Z = true) (w3 : (Cond.initialized y.cls).before a0 Z = true) (w4 : (Cond.code y cb mlc none).before a0 Z = true) (hy : y.cls ≠ "java/lang/invoke/MethodHandle" ∧ y.cls ≠ "java/lang/invoke/VarHandle") (eT : T.heap = h) (hM : MetFree l y (head1 [Cond.code y cb mlc none] rm) (fun a U => a = as' ∧ Z.Warmed39 U.vm ∧ U.heap = h) (fun _ _ _ _ _ => True) (fun _ U o U' => ∃ v L, o = .returned v ∧ Q v U'.heap L ∧ FrameEnd U o U' L rm.cells rm.slots)) (d : decode bs pc = .ok (.invokespecial i, 3)) (hs : S = argsL.reverse ++ .ref a :: rest) (ha : (.ref a :: argsL).toArray = as') (hlen : ∀ sig, parseMethodDescriptor y.desc = some sig → argsL.length = sig.parameters.length) (hW : (rest.map fun v => v.category).sum ≤ W) (hL : L.size = ml) (hf : rm.frames + 1 ≤ R.frames) (hl : W + (mlc + 11) + rm.locals ≤ R.locals) (hc : cells + rm.cells ≤ R.cells) (hsl : slots + rm.slots ≤ R.slots) (hq : q = pc + 3)
    (k : ∀ (v : Option Value) (Lc : List Loc) (T' : State), Stand p l e R s m args below meth c T' (locs ++ Lc) (cells + rm.cells) (slots + rm.slots) → Q v T'.heap Lc → own_Go p.tables e below P (T'.setTop (mkF m q L (v.toList ++ rest)))) : own_Go p.tables e below P (T.setTop (mkF m pc L S)) := by
  subst hs
  subst hq
  obtain ⟨v, vm1, ⟨T1, L1, k1, n1⟩, -, X1, ⟨Lc, hQ, l1, y1, z1⟩, st⟩ := X.specialBackNest B.hx (y := y) hi B.hown w1 (mvT B.hZ w2) (mvT B.hZ w4) hy (backOf (W := W) hM B.hZ w4 w3 hf hl) (g := mkF m pc L (argsL.reverse ++ .ref a :: rest)) rfl (by rw [B.hml]; exact hL) (Steps.refl _) (a := a) (argsL := argsL) (rest := rest) hlen rfl (by show 2 * 0 + _ ≤ _; rw [Nat.mul_zero, Nat.zero_add]; exact hW) (hb B.hby d) (fun _ _ => ⟨ha, eT, hc, hsl⟩)
  dsimp only [Pt.U, Pt.locs, Pt.cells, Pt.slots] at X1 l1 y1 z1 st hQ
  subst l1 y1 z1
  exact own_up (fun _ kq => st.trans kq) (k v Lc T1 X1 hQ)
theorem g_callF (B : own_C p s m c Z own bs ml meth rt0 nm0) (X : Stand p l e R s m args below meth c T locs cells slots) {xi y : MethodName} {C : String} {cnt : Nat} {i W mlc : Nat} {cb : ByteArray} {rt : Option FieldType} {rm : Room} {as' : Array Value} {Q : Option Value → Heap → List Loc → Prop} {argsL : List Value} (w1 : (Cond.methodLink own i xi).before args s = true) (w2 : (Cond.declares xi).before args s = true) (w7 : (Cond.interfaceMethod xi.cls xi.cls xi.name xi.desc).before args s = true) (w5 : (Cond.selects C xi y).before args s = true) (w6 : (Cond.instanceMethod y).before args s = true) (w8 : (Cond.publicMethod y).before args s = true) (w9 : (Cond.unhidden C xi.name xi.desc).before args s = true) (w10 : (Cond.castable C xi.cls).before args s = true) (w3 : (Cond.initialized y.cls).before a0 Z = true) (w4 : (Cond.code y cb mlc rt).before a0 Z = true) (hy : xi.cls ≠ "java/lang/invoke/MethodHandle" ∧ xi.cls ≠ "java/lang/invoke/VarHandle") (eT : T.heap = h) (E : Exa Z h a C) (hM : MetFree l y (head1 [Cond.code y cb mlc rt] rm) (fun a U => a = as' ∧ Z.Warmed39 U.vm ∧ U.heap = h) (fun _ _ _ _ _ => True) (fun _ U o U' => ∃ v L, o = .returned v ∧ Q v U'.heap L ∧ FrameEnd U o U' L rm.cells rm.slots)) (d : decode bs pc = .ok (.invokeinterface i cnt, 5)) (hs : S = argsL.reverse ++ .ref a :: rest) (ha : (.ref a :: argsL).toArray = as') (hlen : ∀ sig, parseMethodDescriptor xi.desc = some sig → argsL.length = sig.parameters.length) (hW : (rest.map fun v => v.category).sum ≤ W) (hL : L.size = ml) (hf : rm.frames + 1 ≤ R.frames) (hl : W + (mlc + 11) + rm.locals ≤ R.locals) (hc : cells + rm.cells ≤ R.cells) (hsl : slots + rm.slots ≤ R.slots) (hq : q = pc + 5)
    (k : ∀ (v : Option Value) (Lc : List Loc) (T' : State), Stand p l e R s m args below meth c T' (locs ++ Lc) (cells + rm.cells) (slots + rm.slots) → Q v T'.heap Lc → own_Go p.tables e below P (T'.setTop (mkF m q L (v.toList ++ rest)))) : own_Go p.tables e below P (T.setTop (mkF m pc L S)) := by
  subst hs
  obtain ⟨cq, kq, qa, qb, qc⟩ := isOf B.hZ eT E
  subst hq
  obtain ⟨v, vm1, ⟨T1, L1, k1, n1⟩, -, X1, ⟨Lc, hQ, l1, y1, z1⟩, st⟩ := X.interfaceBack B.hx (xi := xi) (y := y) B.hown w1 w2 w7 w5 w6 w8 w9 w10 hy (backOf (W := W) hM B.hZ w4 w3 hf hl) qa qb qc (g := mkF m pc L (argsL.reverse ++ .ref a :: rest)) rfl (by rw [B.hml]; exact hL) (Steps.refl _) (argsL := argsL) (rest := rest) hlen rfl (by show 2 * 0 + _ ≤ _; rw [Nat.mul_zero, Nat.zero_add]; exact hW) (hb B.hby d) (fun _ _ => ⟨ha, eT, hc, hsl⟩)
  dsimp only [Pt.U, Pt.locs, Pt.cells, Pt.slots] at X1 l1 y1 z1 st hQ
  subst l1 y1 z1
  exact own_up (fun _ kq => st.trans kq) (k v Lc T1 X1 hQ)
theorem g_callU (B : own_C p s m c Z own bs ml meth rt0 nm0) (X : Stand p l e R s m args below meth c T locs cells slots) {y : MethodName} {C K0 : String} {i W mlc : Nat} {cb : ByteArray} {rt : Option FieldType} {rm : Room} {as' : Array Value} {Q : Option Value → Heap → List Loc → Prop} {argsL : List Value} (w1 : (Cond.methodLink own i y).before a0 Z = true) (w2 : (Cond.sameMethod y.cls y.cls y.name y.desc).before a0 Z = true) (w6 : (Cond.instanceMethod y).before a0 Z = true) (w7 : (Cond.superclass own y.cls).before a0 Z = true) (hn : y.name ≠ "<init>") (w3 : (Cond.initialized y.cls).before a0 Z = true) (w4 : (Cond.code y cb mlc rt).before a0 Z = true) (eT : T.heap = h) (E : Ins Z h a K0 true) (hM : MetFree l y (head1 [Cond.code y cb mlc rt] rm) (fun a U => a = as' ∧ Z.Warmed39 U.vm ∧ U.heap = h) (fun _ _ _ _ _ => True) (fun _ U o U' => ∃ v L, o = .returned v ∧ Q v U'.heap L ∧ FrameEnd U o U' L rm.cells rm.slots)) (d : decode bs pc = .ok (.invokespecial i, 3)) (hs : S = argsL.reverse ++ .ref a :: rest) (ha : (.ref a :: argsL).toArray = as') (hlen : ∀ sig, parseMethodDescriptor y.desc = some sig → argsL.length = sig.parameters.length) (hW : (rest.map fun v => v.category).sum ≤ W) (hL : L.size = ml) (hf : rm.frames + 1 ≤ R.frames) (hl : W + (mlc + 11) + rm.locals ≤ R.locals) (hc : cells + rm.cells ≤ R.cells) (hsl : slots + rm.slots ≤ R.slots) (hq : q = pc + 3)
    (k : ∀ (v : Option Value) (Lc : List Loc) (T' : State), Stand p l e R s m args below meth c T' (locs ++ Lc) (cells + rm.cells) (slots + rm.slots) → Q v T'.heap Lc → own_Go p.tables e below P (T'.setTop (mkF m q L (v.toList ++ rest)))) : own_Go p.tables e below P (T.setTop (mkF m pc L S)) := by
  subst hs
  subst hq
  obtain ⟨v, vm1, ⟨T1, L1, k1, n1⟩, -, X1, ⟨Lc, hQ, l1, y1, z1⟩, st⟩ := superBack X B.hx B.hZ (y := y) B.hown w1 w2 w6 w7 hn (backOf (W := W) hM B.hZ w4 w3 hf hl) eT E (g := mkF m pc L (argsL.reverse ++ .ref a :: rest)) rfl (by rw [B.hml]; exact hL) w4 (argsL := argsL) (rest := rest) hlen rfl (by show 2 * 0 + _ ≤ _; rw [Nat.mul_zero, Nat.zero_add]; exact hW) (hb B.hby d) (fun _ _ => ⟨ha, eT, hc, hsl⟩)
  dsimp only [Pt.U, Pt.locs, Pt.cells, Pt.slots] at X1 l1 y1 z1 st hQ
  subst l1 y1 z1
  exact own_up (fun _ kq => st.trans kq) (k v Lc T1 X1 hQ)
theorem g_ldcI (B : own_C p s m c Z own bs ml meth rt0 nm0) (X : Stand p l e R s m args below meth c T locs cells slots) {i : Nat} (w : (Cond.constant own i v).before a0 Z = true) (d : decode bs pc = .ok (.ldc i, 2)) (hq : q = pc + 2) (k : own_Go p.tables e below P (T.setTop (mkF m q L (.int v :: S)))) : own_Go p.tables e below P (T.setTop (mkF m pc L S)) := by
  subst hq
  exact own_up (X.ldcInt B.hx B.hown (mvT B.hZ w) (g := mkF m pc L S) rfl (hb B.hby d)) k
theorem g_ldcF (B : own_C p s m c Z own bs ml meth rt0 nm0) (X : Stand p l e R s m args below meth c T locs cells slots) {i : Nat} {z : UInt32} (w : (Cond.constantFloat own i z).before a0 Z = true) (d : decode bs pc = .ok (.ldc i, 2)) (hq : q = pc + 2) (k : own_Go p.tables e below P (T.setTop (mkF m q L (.float z :: S)))) : own_Go p.tables e below P (T.setTop (mkF m pc L S)) := by
  subst hq
  exact own_up (X.ldcFloatC B.hx B.hown (mvT B.hZ w) (g := mkF m pc L S) rfl (hb B.hby d)) k
theorem g_castN (B : own_C p s m c Z own bs ml meth rt0 nm0) (X : Stand p l e R s m args below meth c T locs cells slots) {i : Nat} (d : decode bs pc = .ok (.checkcast i, 3)) (hq : q = pc + 3) (k : own_Go p.tables e below P (T.setTop (mkF m q L (.null :: S)))) : own_Go p.tables e below P (T.setTop (mkF m pc L (.null :: S))) := by
  subst hq
  exact own_up (X.checkcastNull B.hx (g := mkF m pc L (.null :: S)) rfl rfl (hb B.hby d)) k
theorem g_castY (B : own_C p s m c Z own bs ml meth rt0 nm0) (X : Stand p l e R s m args below meth c T locs cells slots) {i : Nat} {K0 : String} (w : (Cond.classLink own i K0).before a0 Z = true) (eT : T.heap = h) (F : Ins Z h a K0 true) (d : decode bs pc = .ok (.checkcast i, 3)) (hq : q = pc + 3) (k : ∀ T' : State, Stand p l e R s m args below meth c T' locs cells slots → T'.heap = h → own_Go p.tables e below P (T'.setTop (mkF m q L (.ref a :: S)))) : own_Go p.tables e below P (T.setTop (mkF m pc L (.ref a :: S))) := by
  subst hq
  obtain ⟨T1, X1, e1, st⟩ := castY X B.hx B.hZ B.hown w eT F (g := mkF m pc L (.ref a :: S)) rfl rfl (hb B.hby d)
  exact own_up st (k T1 X1 e1)
theorem g_lookMiss (B : own_C p s m c Z own bs ml meth rt0 nm0) (X : Stand p l e R s m args below meth c T locs cells slots) {df : Int} {ps : Array (Int × Int)} {len : Nat} (d : decode bs pc = .ok (.lookupswitch df ps, len)) (h1 : (ps.toList.zip (ps.toList.drop 1)).all (fun (a, next) => a.1 < next.1) = true) (h2 : ps.find? (·.1 == v.toInt) = none) (ho : 0 ≤ (pc : Int) + df) (hq : ((pc : Int) + df).toNat = q) (k : own_Go p.tables e below P (T.setTop (mkF m q L S))) : own_Go p.tables e below P (T.setTop (mkF m pc L (.int v :: S))) := by
  subst hq
  exact own_up (X.lookupswitchMiss B.hx (g := mkF m pc L (.int v :: S)) rfl rfl (hb B.hby d) h1 h2 ho) k
theorem g_tabIn (B : own_C p s m c Z own bs ml meth rt0 nm0) (X : Stand p l e R s m args below meth c T locs cells slots) {df lo hi off : Int} {os : Array Int} {len : Nat} (d : decode bs pc = .ok (.tableswitch df lo hi os, len)) (h1 : ¬ (v.toInt < lo ∨ v.toInt > hi)) (h2 : os[(v.toInt - lo).toNat]? = some off) (ho : 0 ≤ (pc : Int) + off) (hq : ((pc : Int) + off).toNat = q) (k : own_Go p.tables e below P (T.setTop (mkF m q L S))) : own_Go p.tables e below P (T.setTop (mkF m pc L (.int v :: S))) := by
  subst hq
  exact own_up (X.tableswitchIn B.hx (g := mkF m pc L (.int v :: S)) rfl rfl (hb B.hby d) h1 h2 ho) k
def own_Pp (s : State) (below : List Frame) (Q : Option Value → Heap → List Loc → Prop) (C K : Nat) : State → Outcome → Prop := fun t o => t.status = .running ∧ Ended t below o ∧ ∃ v L, o = .returned v ∧ Q v t.heap L ∧ FrameEnd s o t L C K
theorem g_ret (B : own_C p s m c Z own bs ml meth none nm0) (X : Stand p l e R s m args below meth c T locs cells slots) {Q : Option Value → Heap → List Loc → Prop} {C K : Nat} (d : decode bs pc = .ok (.return_, 1)) (hc : cells ≤ C) (hk : slots ≤ K) (eT : T.heap = h) (hQ : Q none h locs) : own_Go p.tables e below (own_Pp s below Q C K) (T.setTop (mkF m pc L [])) := by
  obtain ⟨fs, hr, hrun, hended, hW, hsame⟩ := X.leave (v := none) (fun _ => rfl) B.hlk
  subst eT
  exact ⟨_, _, X.returnOut B.hx B.hret (hb B.hby d) hr, hrun, hended, _, _, rfl, hQ, ⟨_, rfl⟩, hW, hsame.mono hc hk⟩
theorem g_retI (B : own_C p s m c Z own bs ml meth (some .int) nm0) (X : Stand p l e R s m args below meth c T locs cells slots) {Q : Option Value → Heap → List Loc → Prop} {C K : Nat} (d : decode bs pc = .ok (.ireturn, 1)) (hc : cells ≤ C) (hk : slots ≤ K) (eT : T.heap = h) (hQ : Q (some (.int v)) h locs) : own_Go p.tables e below (own_Pp s below Q C K) (T.setTop (mkF m pc L (.int v :: S))) := by
  obtain ⟨fs, hr, hrun, hended, hW, hsame⟩ := X.leave (v := some (.int v)) (fun q => by rw [B.hret] at q; cases q) B.hlk
  subst eT
  exact ⟨_, _, retOut X B.hx B.hret rfl (Or.inl ⟨rfl, Or.inl rfl, _, rfl⟩) (hb B.hby d) hr, hrun, hended, _, _, rfl, hQ, ⟨_, rfl⟩, hW, hsame.mono hc hk⟩
theorem g_retN {t : FieldType} (B : own_C p s m c Z own bs ml meth (some t) nm0) (X : Stand p l e R s m args below meth c T locs cells slots) {Q : Option Value → Heap → List Loc → Prop} {C K : Nat} (ht : t = .boolean ∨ t = .byte ∨ t = .char ∨ t = .short) (d : decode bs pc = .ok (.ireturn, 1)) (hc : cells ≤ C) (hk : slots ≤ K) (eT : T.heap = h) (hQ : Q (some (.int (nar t v))) h locs) : own_Go p.tables e below (own_Pp s below Q C K) (T.setTop (mkF m pc L (.int v :: S))) := by
  obtain ⟨fs, hr, hrun, hended, hW, hsame⟩ := X.leave (v := some (.int (nar t v))) (fun q => by rw [B.hret] at q; cases q) B.hlk
  subst eT
  exact ⟨_, _, retN X B.hx B.hret ht (hb B.hby d) hr, hrun, hended, _, _, rfl, hQ, ⟨_, rfl⟩, hW, hsame.mono hc hk⟩
theorem g_retA {t : FieldType} (B : own_C p s m c Z own bs ml meth (some t) nm0) (X : Stand p l e R s m args below meth c T locs cells slots) {Q : Option Value → Heap → List Loc → Prop} {C K : Nat} (ht : t.isReference = true) (hn : narrow t u = u) (hu : u.isRef = true) (d : decode bs pc = .ok (.areturn, 1)) (hc : cells ≤ C) (hk : slots ≤ K) (eT : T.heap = h) (hQ : Q (some u) h locs) : own_Go p.tables e below (own_Pp s below Q C K) (T.setTop (mkF m pc L (u :: S))) := by
  obtain ⟨fs, hr, hrun, hended, hW, hsame⟩ := X.leave (v := some u) (fun q => by rw [B.hret] at q; cases q) B.hlk
  subst eT
  exact ⟨_, _, retOut X B.hx B.hret hn (Or.inr (Or.inr (Or.inr (Or.inr ⟨rfl, ht, hu⟩)))) (hb B.hby d) hr, hrun, hended, _, _, rfl, hQ, ⟨_, rfl⟩, hW, hsame.mono hc hk⟩
end OwnCps
def own_L (cs : List Int32) : Nat → Int32 := fun i => cs.getD i 0
theorem own_Lnil : own_L [] = (fun _ => 0 : Nat → Int32) := by funext i; simp [own_L]
theorem own_nlen {k : Nat} (h : k < 256) : (Int32.ofNat k).toInt = (k : Int) := Int32.toInt_ofNat_of_lt (by omega)
theorem own_ntn {k : Nat} (h : k < 256) : (Int32.ofNat k).toNatClampNeg = k := by
  show (Int32.ofNat k).toInt.toNat = k
  rw [own_nlen h]; omega
theorem own_nne {k : Nat} (h : k < 256) : ¬ (Int32.ofNat k) = (256 : Int32) := fun q => by
  have q2 := congrArg Int32.toInt q
  rw [own_nlen h, show (256 : Int32).toInt = 256 from by decide] at q2; omega
theorem own_nnn {k : Nat} (h : k < 256) : ¬ (Int32.ofNat k) < 0 := fun q => by
  have q2 := Int32.lt_iff_toInt_lt.mp q
  rw [own_nlen h, show (0 : Int32).toInt = 0 from by decide] at q2; omega
theorem own_nlt {k : Nat} (h : k < 256) : (Int32.ofNat k) < (256 : Int32) := Int32.lt_iff_toInt_lt.mpr (by rw [own_nlen h, show (256 : Int32).toInt = 256 from by decide]; omega)
theorem own_nsucc (cs : List Int32) (x : Int32) : (Int32.ofNat cs.length) + (1 : Int32) = Int32.ofNat (cs ++ [x]).length := by
  rw [List.length_append, List.length_singleton, show (1 : Int32) = Int32.ofNat 1 from rfl, ← Int32.ofNat_add]
theorem own_Lapp (cs : List Int32) (x : Int32) (h : cs.length < 256) : own_upd (own_L cs) (Int32.ofNat cs.length) x = own_L (cs ++ [x]) := by
  funext i
  unfold own_upd own_L
  rw [own_ntn h]
  by_cases h1 : i = cs.length
  · subst h1; simp [List.getD_eq_getElem?_getD]
  · rw [if_neg h1]
    by_cases h2 : i < cs.length
    · simp [List.getD_eq_getElem?_getD, List.getElem?_append_left h2]
    · have h3 : cs.length < i := by omega
      simp [List.getD_eq_getElem?_getD, List.getElem?_append_right (Nat.le_of_lt h3), List.getElem?_eq_none (Nat.le_of_lt h3)]
      rw [List.getElem?_eq_none (by simp; omega)]; rfl
theorem own_nb (x : Int32) : nar .byte (x.toInt8.toInt32) = x.toInt8.toInt32 := by simp [nar]
def own_b8 (x : Int32) : Int32 := x.toInt8.toInt32
def own_In (h : Heap) (a : Addr) : Prop := a < h.size
section OwnIn
variable {Z : State} {h h' : Heap} {a b tb : Addr} {sl : Nat} {v : Value} {ws : List Addr} {cs : List Int32}
theorem own_In.lt (q : own_In h a) : a < h.size := q
theorem own_In.ext (q : own_In h a) (E : Ext h h') : own_In h' a := Nat.lt_of_lt_of_le q E.1
theorem own_In.wr (q : own_In h a) (W : Wr h h' b sl v) : own_In h' a := Nat.lt_of_lt_of_le q (Nat.le_of_eq W.size.symm)
theorem own_In.keep (q : own_In h a) (K : Keep h h' ws) : own_In h' a := Nat.lt_of_lt_of_le q K.1
def own_By (Z : State) (h : Heap) (b tb : Addr) (cs : List Int32) : Prop :=
  Exa Z h b "com/example/eurydice/eurydice/model/ClassFileWriter$Bytes" ∧ Fld Z h b "com/example/eurydice/eurydice/model/ClassFileWriter$Bytes" "bytes" "[B" (.ref tb) ∧ Fld Z h b "com/example/eurydice/eurydice/model/ClassFileWriter$Bytes" "size" "I" (.int (Int32.ofNat cs.length)) ∧ own_Arf Z h tb .byte (256 : Int32) (fun i => .int (own_L cs i)) ∧ b ≠ tb
theorem own_By.lt (Y : own_By Z h b tb cs) : b < h.size := Y.1.lt
theorem own_By.exa (Y : own_By Z h b tb cs) : Exa Z h b "com/example/eurydice/eurydice/model/ClassFileWriter$Bytes" := Y.1
theorem own_By.inb (Y : own_By Z h b tb cs) : own_In h tb := Y.2.2.2.1.lt
theorem own_By.ext (Y : own_By Z h b tb cs) (E : Ext h h') : own_By Z h' b tb cs := ⟨Y.1.ext E, Y.2.1.ext E, Y.2.2.1.ext E, Y.2.2.2.1.ext E, Y.2.2.2.2⟩
theorem own_By.other (Y : own_By Z h b tb cs) (W : Wr h h' a sl v) (q1 : b ≠ a) (q2 : tb ≠ a) : own_By Z h' b tb cs := ⟨Y.1.wr W, Y.2.1.other W (Or.inl q1), Y.2.2.1.other W (Or.inl q1), Y.2.2.2.1.other W q2, Y.2.2.2.2⟩
theorem own_By.keep (Y : own_By Z h b tb cs) (K : Keep h h' ws) (q1 : b ∉ ws) (q2 : tb ∉ ws) : own_By Z h' b tb cs := ⟨Y.1.keep K, Y.2.1.keep K q1, Y.2.2.1.keep K q1, Y.2.2.2.1.keep K q2, Y.2.2.2.2⟩
end OwnIn
def own_u2 (v : Int32) : List Int32 := [own_b8 ((v.toUInt32 >>> ((8 : Int32) &&& 31).toUInt32).toInt32), own_b8 v]
def own_u4 (v : Int32) : List Int32 := own_u2 ((v.toUInt32 >>> ((16 : Int32) &&& 31).toUInt32).toInt32) ++ own_u2 v
theorem own_u2a (cs : List Int32) (a b : Int32) : (cs ++ [a]) ++ [b] = cs ++ [a, b] := by simp
def own_bl (ds : List Int32) : Prop := ∀ x ∈ ds, own_b8 x = x
theorem own_b88 (x : Int32) : own_b8 (own_b8 x) = own_b8 x := by unfold own_b8; simp
theorem own_bl.nil : own_bl [] := fun _ h => nomatch h
theorem own_bl.cons {x : Int32} {ds : List Int32} (h : own_b8 x = x) (r : own_bl ds) : own_bl (x :: ds) := fun y hy => by
  rcases List.mem_cons.mp hy with rfl | hy
  · exact h
  · exact r y hy
theorem own_bl.app {cs ds : List Int32} (h : own_bl cs) (r : own_bl ds) : own_bl (cs ++ ds) := fun y hy => (List.mem_append.mp hy).elim (h y) (r y)
theorem own_bl.get {ds : List Int32} (h : own_bl ds) (i : Nat) : own_b8 (own_L ds i) = own_L ds i := by
  unfold own_L
  rw [List.getD_eq_getElem?_getD]
  cases e : ds[i]? with
  | none => decide
  | some x => exact h x (List.mem_of_getElem? e)
theorem own_take (ds : List Int32) (i : Nat) (h : i < ds.length) : ds.take i ++ [own_L ds i] = ds.take (i + 1) := by
  rw [List.take_add_one]
  congr 1
  unfold own_L
  rw [List.getD_eq_getElem?_getD, List.getElem?_eq_getElem h]; rfl
theorem own_vlt {v : Int32} {i k : Nat} (hv : v.toInt = (i : Int)) (hk : k < 256) (hi : i < k) : ¬ v < 0 ∧ v < (Int32.ofNat k) ∧ v < (256 : Int32) ∧ v.toNatClampNeg = i := by
  have z0 : (0 : Int32).toInt = 0 := by decide
  have z1 : (256 : Int32).toInt = 256 := by decide
  refine ⟨fun q => ?_, Int32.lt_iff_toInt_lt.mpr ?_, Int32.lt_iff_toInt_lt.mpr ?_, ?_⟩
  · have := Int32.lt_iff_toInt_lt.mp q; omega
  · rw [own_nlen hk]; omega
  · omega
  · show v.toInt.toNat = i; omega
theorem own_vend {v : Int32} {k : Nat} (hv : v.toInt = (k : Int)) (hk : k < 256) : ¬ v < (Int32.ofNat k) := fun q => by
  have := Int32.lt_iff_toInt_lt.mp q
  rw [own_nlen hk] at this; omega
theorem own_vsucc {v : Int32} {i : Nat} (hv : v.toInt = (i : Int)) (hi : i < 100000) : (v + (1 : Int32)).toInt = ((i + 1 : Nat) : Int) := by
  rw [Int32.toInt_add, hv, show (1 : Int32).toInt = 1 from by decide, Int.bmod_eq_of_le (by omega) (by omega)]
  omega
theorem own_By.in_tb {Z : State} {h : Heap} {b tb : Addr} {cs : List Int32} (Y : own_By Z h b tb cs) : own_In h tb := Y.inb
abbrev own_Met (l : Launch) (Z : State) (y : MethodName) (bs : ByteArray) (ml : Nat) (rt : Option FieldType) (ws : List Jvm.Cond) (rm : Room) (as' : Array Value) (h0 : Heap) (Q : Option Value → Heap → List Loc → Prop) (C K : Nat) : Prop :=
  MetFree l y (head1 (Jvm.Cond.code y bs ml rt :: ws) rm) (fun aq Uq => aq = as' ∧ Z.Warmed39 Uq.vm ∧ Uq.heap = h0) (fun _ _ _ _ _ => True) (fun _ Uq oq Uq' => ∃ vq Lq, oq = .returned vq ∧ Q vq Uq'.heap Lq ∧ FrameEnd Uq oq Uq' Lq C K)
theorem own_hd {l : Launch} {Z : State} {C n d : String} {bs : ByteArray} {ml : Nat} {rt : Option FieldType} {ws : List Jvm.Cond} {R : Room} {A : Array Value} {h0 : Heap} {Q : Option Value → Heap → List Loc → Prop} {ck ks : Nat} {fr : Array Slot} (pn : plainFor ⟨C, n, d⟩ = true)
    (H : ∀ {p : Program} {e : Env} {s : State} {m : MethodId} {below : List Frame} {meth : Method} {c : Code} {s₁ : State}, own_C p s m c Z C bs ml meth rt n → Stand p l e R s m A below meth c s₁ [] 0 0 → s₁.heap = h0 → own_Go p.tables e below (own_Pp s below Q ck ks) (s₁.setTop (mkF m 0 fr [])))
    (ef : ∀ m, entryFrame m A ml = mkF m 0 fr [] := by intro m; first | (simp [entryFrame, mkF, argsToLocals, Value.category]; done) | rfl) : own_Met l Z ⟨C, n, d⟩ bs ml rt ws R A h0 Q ck ks := by
  refine MetFree.of_bodySF pn hisR ?_
  intro p e s m args below meth c s₁ Bd hml0 hP hK
  obtain ⟨rfl, hZ, hh⟩ := hP
  exact own_start (P := own_Pp s below Q ck ks) (fun t kq => castTop (ef m) kq) (H ⟨Bd.exec, hZ, Bd.bytes, hml0, findClass_of_methodNamed Bd.named, Bd.returns, Bd.notSynchronized, (name_of_methodNamed Bd.named Bd.method).1⟩ (Stand.of_body Bd) (by rw [← hh, Bd.state]; rfl))

theorem pn_0 : plainName "com/example/eurydice/eurydice/model/ClassFileWriter$Bytes" = true := by first | (simp [plainName, overriddenIn]; done) | decide +kernel
def QrmBi (Z : State) (b : Addr) (h0 : Heap) (n0 : Nat) (v : Option Value) (h : Heap) (L : List Loc) : Prop := v = none ∧ Fr n0 L ∧ Keep h0 h [b] ∧ ∃ tb : Addr, h0.size ≤ tb ∧ own_By Z h b tb []
theorem rmBi (l : Launch) (Z : State) (a0 : Array Value) (hw : own_H a0 Z) (ws : List Jvm.Cond) (b : Addr) (h0 : Heap) (n0 : Nat) (ZH : n0 ≤ h0.size) (E_b : Exa Z h0 b zz0) (F_bytes_b : Fld Z h0 b zz0 "bytes" "[B" .null) (F_size_b : Fld Z h0 b zz0 "size" "I" (.int (0 : Int32))) (g_b : n0 ≤ b) :
    own_Met l Z yy3 prog_81_method_1_code 1 none ws (own_R 1 1 256 12) #[(.ref b)] h0 (QrmBi Z b h0 n0) 1 256 := by
  refine own_hd (fr := #[.val (.ref b)]) (plainFor_of_name pn_0) (fun {p e s m below meth c s₁} B X0 e0 => ?_)
  have N0 := Fr.nil n0
  have KK := Keep.refl h0 [b]
  refine g_aloadN (k := 0) (q := 1) B X0 dK rfl rfl rfl ?_
  refine g_initO (i := 1) (W := 0) (q := 4) B X0 (kw hw 31 rfl) (kw hw 16 rfl) (kw hw 17 rfl) e0 dK rfl dD dD dD rfl (fun T1 X1 e1 => ?_)
  refine g_aloadN (k := 0) (q := 5) B X1 dK rfl rfl rfl ?_
  refine g_sipush (o := 256) (q := 8) (v := 256) B X1 dK rfl rfl ?_
  refine g_newarr (aty := .byte) (cap := 256) (q := 10) B X1 (kw hw 6 rfl) e1 dD dD dD dK dD dD rfl (fun b2 T2 h2 gz2 X2 e2 E2 G_b2 => ?_)
  have ne_b_b2 := nl E_b.lt gz2
  have sz_b2 := gl KK.1 gz2
  have E_b := E_b.ext E2
  have F_bytes_b := F_bytes_b.ext E2
  have F_size_b := F_size_b.ext E2
  have KK := KK.ext E2
  have G_b2 : own_Arf Z h2 b2 .byte (256 : Int32) (fun i => .int ((fun _ => 0 : Nat → Int32) i)) := G_b2
  refine g_putF (i := 7) (q := 13) B X2 (host := "") (Or.inl (kw hw 32 rfl)) Via.refl e2 F_bytes_b E_b (Or.inl (kw hw 33 rfl)) (kw hw 26 rfl) (ty := (.array .byte)) dD rfl rfl dK rfl (fun T3 h3 X3 e3 W3 => ?_)
  have N3 := Fr.snoc X3 N0 g_b
  have F_bytes_b := F_bytes_b.same W3
  have E_b := E_b.wr W3
  have F_size_b := F_size_b.other W3 (Or.inr (slot_ne (Or.inl (kw hw 120 rfl)) (Or.inl (kw hw 33 rfl)) dD (t := .int) (t' := (.array .byte)) dD dD))
  have G_b2 := G_b2.other W3 (Ne.symm ne_b_b2)
  have KK := KK.wr W3 (mi 0 rfl)
  exact g_ret B X3 dK dD dD e3 (by
    exact ⟨rfl, N3, KK, b2, sz_b2, E_b, F_bytes_b, F_size_b, by rw [own_Lnil]; exact G_b2, ne_b_b2⟩)
def QrmBz (Z : State) (b tb : Addr) (cs : List Int32) (h0 : Heap) (n0 : Nat) (v : Option Value) (h : Heap) (L : List Loc) : Prop := v = some (.int (Int32.ofNat cs.length)) ∧ Fr n0 L ∧ h = h0
theorem rmBz (l : Launch) (Z : State) (a0 : Array Value) (hw : own_H a0 Z) (ws : List Jvm.Cond) (b tb : Addr) (cs : List Int32) (h0 : Heap) (n0 : Nat) (ZH : n0 ≤ h0.size) (Y_b : own_By Z h0 b tb cs) :
    own_Met l Z yy8 prog_81_method_2_code 1 (some .int) ws (own_R 0 0 0 0) #[(.ref b)] h0 (QrmBz Z b tb cs h0 n0) 0 0 := by
  refine own_hd (fr := #[.val (.ref b)]) (plainFor_of_name pn_0) (fun {p e s m below meth c s₁} B X0 e0 => ?_)
  have N0 := Fr.nil n0
  obtain ⟨E_b, F_bytes_b, F_size_b, G_tb, ne_b_tb⟩ := Y_b
  refine g_aloadN (k := 0) (q := 1) B X0 dK rfl rfl rfl ?_
  refine g_getF (i := 13) (q := 4) B X0 (host := "") (Or.inl (kw hw 119 rfl)) Via.refl e0 F_size_b dK rfl (fun T1 X1 e1 => ?_)
  exact g_retI B X1 dK dD dD e1 (by
    exact ⟨rfl, N0, rfl⟩)
def QrmU1 (Z : State) (b tb : Addr) (cs : List Int32) (vv : Int32) (h0 : Heap) (n0 : Nat) (v : Option Value) (h : Heap) (L : List Loc) : Prop := v = none ∧ Fr n0 L ∧ Keep h0 h [b, tb] ∧ own_By Z h b tb (cs ++ [own_b8 vv])
theorem rmU1 (l : Launch) (Z : State) (a0 : Array Value) (hw : own_H a0 Z) (ws : List Jvm.Cond) (b tb : Addr) (cs : List Int32) (vv : Int32) (h0 : Heap) (n0 : Nat) (ZH : n0 ≤ h0.size) (Y_b : own_By Z h0 b tb cs) (g_b : n0 ≤ b) (g_tb : n0 ≤ tb) (hn : cs.length < 256) :
    own_Met l Z yy2 prog_81_method_3_code 2 none ws (own_R 0 0 0 0) #[(.ref b), (.int vv)] h0 (QrmU1 Z b tb cs vv h0 n0) 0 0 := by
  refine own_hd (fr := #[.val (.ref b), .val (.int vv)]) (plainFor_of_name pn_0) (fun {p e s m below meth c s₁} B X0 e0 => ?_)
  have N0 := Fr.nil n0
  have KK := Keep.refl h0 [b, tb]
  obtain ⟨E_b, F_bytes_b, F_size_b, G_tb, ne_b_tb⟩ := Y_b
  refine g_aloadN (k := 0) (q := 1) B X0 dK rfl rfl rfl ?_
  refine g_getF (i := 13) (q := 4) B X0 (host := "") (Or.inl (kw hw 119 rfl)) Via.refl e0 F_size_b dK rfl (fun T1 X1 e1 => ?_)
  refine g_aloadN (k := 0) (q := 5) B X1 dK rfl rfl rfl ?_
  refine g_getF (i := 7) (q := 8) B X1 (host := "") (Or.inl (kw hw 32 rfl)) Via.refl e1 F_bytes_b dK rfl (fun T2 X2 e2 => ?_)
  refine g_alen (q := 9) B X2 e2 G_tb dK rfl ?_
  refine g_icmpYes (cd := .ne) (o := 20) (q := 29) B X2 dK ((feq (own_nne hn : ¬ ((Int32.ofNat cs.length) = (256 : Int32)))).2) dD dD ?_
  refine g_aloadN (k := 0) (q := 30) B X2 dK rfl rfl rfl ?_
  refine g_getF (i := 7) (q := 33) B X2 (host := "") (Or.inl (kw hw 32 rfl)) Via.refl e2 F_bytes_b dK rfl (fun T3 X3 e3 => ?_)
  refine g_aloadN (k := 0) (q := 34) B X3 dK rfl rfl rfl ?_
  refine g_dup (q := 35) B X3 dK rfl rfl ?_
  refine g_getF (i := 13) (q := 38) B X3 (host := "") (Or.inl (kw hw 119 rfl)) Via.refl e3 F_size_b dK rfl (fun T4 X4 e4 => ?_)
  refine g_dupX1 (q := 39) B X4 dK rfl rfl rfl ?_
  refine g_iconst (o := 1) (q := 40) (v := 1) B X4 dK rfl rfl ?_
  refine g_iadd (q := 41) B X4 dK rfl rfl ?_
  refine g_putF (i := 13) (q := 44) B X4 (host := "") (Or.inl (kw hw 119 rfl)) Via.refl e4 F_size_b E_b (Or.inl (kw hw 120 rfl)) (kw hw 26 rfl) (ty := .int) dD rfl rfl dK rfl (fun T5 h5 X5 e5 W5 => ?_)
  have N5 := Fr.snoc X5 N0 g_b
  have F_size_b := F_size_b.same W5
  have E_b := E_b.wr W5
  have F_bytes_b := F_bytes_b.other W5 (Or.inr (slot_ne (Or.inl (kw hw 33 rfl)) (Or.inl (kw hw 120 rfl)) dD (t := (.array .byte)) (t' := .int) dD dD))
  have G_tb := G_tb.other W5 (Ne.symm ne_b_tb)
  have KK := KK.wr W5 (mi 0 rfl)
  refine g_iloadN (k := 1) (q := 45) B X5 dK rfl rfl ?_
  refine g_i2b (q := 46) B X5 dK rfl rfl ?_
  refine g_bastore (q := 47) B X5 e5 G_tb (own_nnn hn) (own_nlt hn) dK rfl (fun T6 h6 X6 e6 W6 G_tb => ?_)
  have G_tb : own_Arf Z h6 tb .byte (256 : Int32) (fun i => .int ((own_upd (own_L cs) (Int32.ofNat cs.length) (nar .byte vv.toInt8.toInt32)) i)) := G_tb.congr (fun i _ => by unfold own_upd; split <;> rfl)
  have N6 := Fr.snoc X6 N5 g_tb
  have E_b := E_b.wr W6
  have F_bytes_b := F_bytes_b.other W6 (Or.inl ne_b_tb)
  have F_size_b := F_size_b.other W6 (Or.inl ne_b_tb)
  have KK := KK.wr W6 (mi 1 rfl)
  exact g_ret B X6 dK dD dD e6 (by
    rw [own_nb, own_Lapp cs _ hn] at G_tb
    rw [own_nsucc cs (own_b8 vv)] at F_size_b
    exact ⟨rfl, N6, KK, E_b, F_bytes_b, F_size_b, G_tb, ne_b_tb⟩)
theorem pd_0 : parseMethodDescriptor "(I)V" = some ⟨[.int], none⟩ := by decide +kernel
def QrmU2 (Z : State) (b tb : Addr) (cs : List Int32) (vv : Int32) (h0 : Heap) (n0 : Nat) (v : Option Value) (h : Heap) (L : List Loc) : Prop := v = none ∧ Fr n0 L ∧ Keep h0 h [b, tb] ∧ own_By Z h b tb (cs ++ own_u2 vv)
theorem rmU2 (l : Launch) (Z : State) (a0 : Array Value) (hw : own_H a0 Z) (ws : List Jvm.Cond) (b tb : Addr) (cs : List Int32) (vv : Int32) (h0 : Heap) (n0 : Nat) (ZH : n0 ≤ h0.size) (Y_b : own_By Z h0 b tb cs) (g_b : n0 ≤ b) (g_tb : n0 ≤ tb) (hn : cs.length + 2 ≤ 256) :
    own_Met l Z yy0 prog_81_method_4_code 2 none ws (own_R 1 0 0 13) #[(.ref b), (.int vv)] h0 (QrmU2 Z b tb cs vv h0 n0) 0 0 := by
  refine own_hd (fr := #[.val (.ref b), .val (.int vv)]) (plainFor_of_name pn_0) (fun {p e s m below meth c s₁} B X0 e0 => ?_)
  have N0 := Fr.nil n0
  have KK := Keep.refl h0 [b, tb]
  refine g_aloadN (k := 0) (q := 1) B X0 dK rfl rfl rfl ?_
  refine g_iloadN (k := 1) (q := 2) B X0 dK rfl rfl ?_
  refine g_bipush (o := 8) (q := 4) (v := 8) B X0 dK rfl rfl ?_
  refine g_iushr (q := 5) B X0 dK rfl rfl ?_
  refine g_callV (i := 23) (W := 0) (q := 8) (a := b) (argsL := [(.int ((vv.toUInt32 >>> ((8 : Int32) &&& 31).toUInt32).toInt32))]) (rest := []) B X0 (y := yy2) (kw hw 136 rfl) (kw hw 115 rfl) (kw hw 117 rfl) (kw hw 116 rfl) (kw hw 27 rfl) (kw hw 118 rfl) dD e0 Y_b.exa (rmU1 l Z a0 hw [] b tb cs ((vv.toUInt32 >>> ((8 : Int32) &&& 31).toUInt32).toInt32) h0 n0 ZH Y_b g_b g_tb (by first | omega | (simp only [List.length_append, List.length_cons, List.length_nil, own_u2, own_u4] at *; omega))) dK rfl rfl (lenOf pd_0 rfl) (Nat.le_of_eq rfl) rfl dD dD dD dD rfl (fun _ L1 T1 X1 hQ1 => ?_)
  obtain ⟨rfl, Nq1, K1, Yq1⟩ := hQ1
  have N1 := Fr.app N0 Nq1
  have ZH := Nat.le_trans ZH K1.1
  have KK := KK.trans K1 (allS (mi 0 rfl) (allS (mi 1 rfl) all0))
  have Y_b := Yq1
  refine g_aloadN (k := 0) (q := 9) B X1 dK rfl rfl rfl ?_
  refine g_iloadN (k := 1) (q := 10) B X1 dK rfl rfl ?_
  refine g_callV (i := 23) (W := 0) (q := 13) (a := b) (argsL := [(.int vv)]) (rest := []) B X1 (y := yy2) (kw hw 136 rfl) (kw hw 115 rfl) (kw hw 117 rfl) (kw hw 116 rfl) (kw hw 27 rfl) (kw hw 118 rfl) dD rfl Y_b.exa (rmU1 l Z a0 hw [] b tb (cs ++ [own_b8 ((vv.toUInt32 >>> ((8 : Int32) &&& 31).toUInt32).toInt32)]) vv T1.heap n0 ZH Y_b g_b g_tb (by first | omega | (simp only [List.length_append, List.length_cons, List.length_nil, own_u2, own_u4] at *; omega))) dK rfl rfl (lenOf pd_0 rfl) (Nat.le_of_eq rfl) rfl dD dD dD dD rfl (fun _ L2 T2 X2 hQ2 => ?_)
  obtain ⟨rfl, Nq2, K2, Yq2⟩ := hQ2
  have N2 := Fr.app N1 Nq2
  have KK := KK.trans K2 (allS (mi 0 rfl) (allS (mi 1 rfl) all0))
  have Y_b := Yq2
  exact g_ret B X2 dK dD dD rfl (by
    rw [own_u2a] at Y_b
    exact ⟨rfl, N2, KK, Y_b⟩)
def QrmU4 (Z : State) (b tb : Addr) (cs : List Int32) (vv : Int32) (h0 : Heap) (n0 : Nat) (v : Option Value) (h : Heap) (L : List Loc) : Prop := v = none ∧ Fr n0 L ∧ Keep h0 h [b, tb] ∧ own_By Z h b tb (cs ++ own_u4 vv)
theorem rmU4 (l : Launch) (Z : State) (a0 : Array Value) (hw : own_H a0 Z) (ws : List Jvm.Cond) (b tb : Addr) (cs : List Int32) (vv : Int32) (h0 : Heap) (n0 : Nat) (ZH : n0 ≤ h0.size) (Y_b : own_By Z h0 b tb cs) (g_b : n0 ≤ b) (g_tb : n0 ≤ tb) (hn : cs.length + 4 ≤ 256) :
    own_Met l Z yy13 prog_81_method_5_code 2 none ws (own_R 2 0 0 26) #[(.ref b), (.int vv)] h0 (QrmU4 Z b tb cs vv h0 n0) 0 0 := by
  refine own_hd (fr := #[.val (.ref b), .val (.int vv)]) (plainFor_of_name pn_0) (fun {p e s m below meth c s₁} B X0 e0 => ?_)
  have N0 := Fr.nil n0
  have KK := Keep.refl h0 [b, tb]
  refine g_aloadN (k := 0) (q := 1) B X0 dK rfl rfl rfl ?_
  refine g_iloadN (k := 1) (q := 2) B X0 dK rfl rfl ?_
  refine g_bipush (o := 16) (q := 4) (v := 16) B X0 dK rfl rfl ?_
  refine g_iushr (q := 5) B X0 dK rfl rfl ?_
  refine g_callV (i := 27) (W := 0) (q := 8) (a := b) (argsL := [(.int ((vv.toUInt32 >>> ((16 : Int32) &&& 31).toUInt32).toInt32))]) (rest := []) B X0 (y := yy0) (kw hw 387 rfl) (kw hw 132 rfl) (kw hw 134 rfl) (kw hw 133 rfl) (kw hw 27 rfl) (kw hw 135 rfl) dD e0 Y_b.exa (rmU2 l Z a0 hw [] b tb cs ((vv.toUInt32 >>> ((16 : Int32) &&& 31).toUInt32).toInt32) h0 n0 ZH Y_b g_b g_tb (by first | omega | (simp only [List.length_append, List.length_cons, List.length_nil, own_u2, own_u4] at *; omega))) dK rfl rfl (lenOf pd_0 rfl) (Nat.le_of_eq rfl) rfl dD dD dD dD rfl (fun _ L1 T1 X1 hQ1 => ?_)
  obtain ⟨rfl, Nq1, K1, Yq1⟩ := hQ1
  have N1 := Fr.app N0 Nq1
  have ZH := Nat.le_trans ZH K1.1
  have KK := KK.trans K1 (allS (mi 0 rfl) (allS (mi 1 rfl) all0))
  have Y_b := Yq1
  refine g_aloadN (k := 0) (q := 9) B X1 dK rfl rfl rfl ?_
  refine g_iloadN (k := 1) (q := 10) B X1 dK rfl rfl ?_
  refine g_callV (i := 27) (W := 0) (q := 13) (a := b) (argsL := [(.int vv)]) (rest := []) B X1 (y := yy0) (kw hw 387 rfl) (kw hw 132 rfl) (kw hw 134 rfl) (kw hw 133 rfl) (kw hw 27 rfl) (kw hw 135 rfl) dD rfl Y_b.exa (rmU2 l Z a0 hw [] b tb (cs ++ own_u2 ((vv.toUInt32 >>> ((16 : Int32) &&& 31).toUInt32).toInt32)) vv T1.heap n0 ZH Y_b g_b g_tb (by first | omega | (simp only [List.length_append, List.length_cons, List.length_nil, own_u2, own_u4] at *; omega))) dK rfl rfl (lenOf pd_0 rfl) (Nat.le_of_eq rfl) rfl dD dD dD dD rfl (fun _ L2 T2 X2 hQ2 => ?_)
  obtain ⟨rfl, Nq2, K2, Yq2⟩ := hQ2
  have N2 := Fr.app N1 Nq2
  have KK := KK.trans K2 (allS (mi 0 rfl) (allS (mi 1 rfl) all0))
  have Y_b := Yq2
  exact g_ret B X2 dK dD dD rfl (by
    rw [List.append_assoc] at Y_b
    exact ⟨rfl, N2, KK, Y_b⟩)
theorem tnA {p : Program} {l : Launch} {e : Env} {s : State} {m : MethodId} {args : Array Value} {below : List Frame} {meth : Method} {c : Code} {Z : State} {a0 : Array Value} {n0 : Nat} {nm0 : String} {P : State → Outcome → Prop} {T0 : State} {locs : List Loc} {h0 : Heap} {b : Addr} {tb : Addr} {cs : List Int32} {d : Addr} {td : Addr} {ds : List Int32} {vi : Int32} {i : Nat} (B : own_C p s m c Z zz0 prog_81_method_9_code 3 meth none nm0) (X0 : Stand p l e (own_R 1 0 0 14) s m args below meth c T0 locs 0 0) (hw : own_H a0 Z) (e0 : T0.heap = h0) (N0 : Fr n0 locs) (Z0 : n0 ≤ h0.size) (Y_b : own_By Z h0 b tb cs) (g_b : n0 ≤ b) (g_tb : n0 ≤ tb) (Y_d : own_By Z h0 d td ds) (hb8 : own_bl ds) (hd : ds.length < 256) (ne_b_d : b ≠ d) (ne_b_td : b ≠ td) (ne_tb_d : tb ≠ d) (ne_tb_td : tb ≠ td) (Q : ¬ vi < 0 ∧ vi < (Int32.ofNat ds.length) ∧ vi < (256 : Int32) ∧ vi.toNatClampNeg = i) (hn : cs.length < 256)
    (K : ∀ (T' : State) (h' : Heap) (locs' : List Loc), Stand p l e (own_R 1 0 0 14) s m args below meth c T' locs' 0 0 → T'.heap = h' → Fr n0 locs' → Keep h0 h' [b, tb] → own_By Z h' b tb (cs ++ [own_L ds i]) → own_By Z h' d td ds → own_Go p.tables e below P (T'.setTop (mkF m 2 #[.val (.ref b), .val (.ref d), .val (.int (vi + (1 : Int32)))] []))) : own_Go p.tables e below P (T0.setTop (mkF m 2 #[.val (.ref b), .val (.ref d), .val (.int vi)] [])) := by
  have ZH := Z0
  have KK := Keep.refl h0 [b, tb]
  obtain ⟨E_d, F_bytes_d, F_size_d, G_td, -⟩ := id Y_d
  refine g_iloadN (k := 2) (q := 3) B X0 dK rfl rfl ?_
  refine g_aloadN (k := 1) (q := 4) B X0 dK rfl rfl rfl ?_
  refine g_getF (i := 13) (q := 7) B X0 (host := "") (Or.inl (kw hw 119 rfl)) Via.refl e0 F_size_d dK rfl (fun T1 X1 e1 => ?_)
  refine g_icmpNo (cd := .ge) (o := 19) (q := 10) B X1 dK ((tlt (Q.2.1 : vi < (Int32.ofNat ds.length))).2.1) rfl ?_
  refine g_aloadN (k := 0) (q := 11) B X1 dK rfl rfl rfl ?_
  refine g_aloadN (k := 1) (q := 12) B X1 dK rfl rfl rfl ?_
  refine g_getF (i := 7) (q := 15) B X1 (host := "") (Or.inl (kw hw 32 rfl)) Via.refl e1 F_bytes_d dK rfl (fun T2 X2 e2 => ?_)
  refine g_iloadN (k := 2) (q := 16) B X2 dK rfl rfl ?_
  refine g_baload (q := 17) (u := (.int (own_L ds i))) B X2 e2 G_td Q.1 Q.2.2.1 (by rw [Q.2.2.2]) dK rfl ?_
  refine g_callV (i := 23) (W := 0) (q := 20) (a := b) (argsL := [(.int (own_L ds i))]) (rest := []) B X2 (y := yy2) (kw hw 136 rfl) (kw hw 115 rfl) (kw hw 117 rfl) (kw hw 116 rfl) (kw hw 27 rfl) (kw hw 118 rfl) dD e2 Y_b.exa (rmU1 l Z a0 hw [] b tb cs (own_L ds i) h0 n0 ZH Y_b g_b g_tb (by first | omega | (simp only [List.length_append, List.length_cons, List.length_nil, own_u2, own_u4] at *; omega))) dK rfl rfl (lenOf pd_0 rfl) (Nat.le_of_eq rfl) rfl dD dD dD dD rfl (fun _ L3 T3 X3 hQ3 => ?_)
  obtain ⟨rfl, Nq3, K3, Yq3⟩ := hQ3
  have N3 := Fr.app N0 Nq3
  have Y_d := Y_d.keep K3 (ninS (Ne.symm ne_b_d) (ninS (Ne.symm ne_tb_d) nin0)) (ninS (Ne.symm ne_b_td) (ninS (Ne.symm ne_tb_td) nin0))
  have KK := KK.trans K3 (allS (mi 0 rfl) (allS (mi 1 rfl) all0))
  have Y_b := Yq3
  refine g_iinc (k := 2) (o := 1) (q := 23) (v := (vi + (1 : Int32))) (l' := #[.val (.ref b), .val (.ref d), .val (.int (vi + (1 : Int32)))]) B X3 dK rfl rfl rfl rfl ?_
  refine g_goto (o := -21) (q := 2) B X3 dK dD dD ?_
  exact K _ _ _ X3 rfl N3 KK (by have q := Y_b; rw [hb8.get i] at q; exact q) Y_d
theorem exA {p : Program} {l : Launch} {e : Env} {s : State} {m : MethodId} {args : Array Value} {below : List Frame} {meth : Method} {c : Code} {Z : State} {a0 : Array Value} {n0 : Nat} {nm0 : String} {P : State → Outcome → Prop} {T0 : State} {locs : List Loc} {h0 : Heap} {b : Addr} {tb : Addr} {cs : List Int32} {d : Addr} {td : Addr} {ds : List Int32} {vi : Int32} {i : Nat} (B : own_C p s m c Z zz0 prog_81_method_9_code 3 meth none nm0) (X0 : Stand p l e (own_R 1 0 0 14) s m args below meth c T0 locs 0 0) (hw : own_H a0 Z) (e0 : T0.heap = h0) (N0 : Fr n0 locs) (Z0 : n0 ≤ h0.size) (Y_b : own_By Z h0 b tb cs) (g_b : n0 ≤ b) (g_tb : n0 ≤ tb) (Y_d : own_By Z h0 d td ds) (hb8 : own_bl ds) (hd : ds.length < 256) (ne_b_d : b ≠ d) (ne_b_td : b ≠ td) (ne_tb_d : tb ≠ d) (ne_tb_td : tb ≠ td) (hv : ¬ vi < (Int32.ofNat ds.length))
    (K : ∀ (T' : State) (h' : Heap) (locs' : List Loc), Stand p l e (own_R 1 0 0 14) s m args below meth c T' locs' 0 0 → T'.heap = h' → Fr n0 locs' → h' = h0 → own_Go p.tables e below P (T'.setTop (mkF m 26 #[.val (.ref b), .val (.ref d), .val (.int vi)] []))) : own_Go p.tables e below P (T0.setTop (mkF m 2 #[.val (.ref b), .val (.ref d), .val (.int vi)] [])) := by
  obtain ⟨E_d, F_bytes_d, F_size_d, G_td, -⟩ := id Y_d
  refine g_iloadN (k := 2) (q := 3) B X0 dK rfl rfl ?_
  refine g_aloadN (k := 1) (q := 4) B X0 dK rfl rfl rfl ?_
  refine g_getF (i := 13) (q := 7) B X0 (host := "") (Or.inl (kw hw 119 rfl)) Via.refl e0 F_size_d dK rfl (fun T1 X1 e1 => ?_)
  refine g_icmpYes (cd := .ge) (o := 19) (q := 26) B X1 dK ((flt (hv : ¬ (vi < (Int32.ofNat ds.length)))).2.1) dD dD ?_
  exact K _ _ _ X1 e1 N0 rfl
theorem own_apd {p : Program} {l : Launch} {e : Env} {s : State} {m : MethodId} {args : Array Value} {below : List Frame} {meth : Method} {c : Code} {Z : State} {a0 : Array Value} {n0 : Nat} {nm0 : String} {P : State → Outcome → Prop} {b : Addr} {tb : Addr} {cs : List Int32} {d : Addr} {td : Addr} {ds : List Int32} (B : own_C p s m c Z zz0 prog_81_method_9_code 3 meth none nm0) (hw : own_H a0 Z) (g_b : n0 ≤ b) (g_tb : n0 ≤ tb) (hb8 : own_bl ds) (hd : ds.length < 256) (ne_b_d : b ≠ d) (ne_b_td : b ≠ td) (ne_tb_d : tb ≠ d) (ne_tb_td : tb ≠ td) :
    ∀ (k i : Nat) (vi : Int32) (T0 : State) (h0 : Heap) (locs : List Loc), i + k = ds.length → vi.toInt = (i : Int) → cs.length + ds.length ≤ 256 → Stand p l e (own_R 1 0 0 14) s m args below meth c T0 locs 0 0 → T0.heap = h0 → Fr n0 locs → n0 ≤ h0.size → own_By Z h0 b tb (cs ++ ds.take i) → own_By Z h0 d td ds →
      (∀ (T' : State) (h' : Heap) (locs' : List Loc) (vj : Int32), Stand p l e (own_R 1 0 0 14) s m args below meth c T' locs' 0 0 → T'.heap = h' → Fr n0 locs' → Keep h0 h' [b, tb] → own_By Z h' b tb (cs ++ ds) → own_Go p.tables e below P (T'.setTop (mkF m 26 #[.val (.ref b), .val (.ref d), .val (.int vj)] []))) → own_Go p.tables e below P (T0.setTop (mkF m 2 #[.val (.ref b), .val (.ref d), .val (.int vi)] [])) := by
  intro k
  induction k with
  | zero =>
    intro i vi T0 h0 locs hi hv hn X0 e0 N0 Z0 Yb Yd K
    have hii : i = ds.length := by omega
    subst hii
    rw [List.take_length] at Yb
    exact exA (i := 0) B X0 hw e0 N0 Z0 Yb g_b g_tb Yd hb8 hd ne_b_d ne_b_td ne_tb_d ne_tb_td (own_vend hv hd) (fun T' h' locs' X e' N q => by subst q; exact K _ _ _ _ X e' N (Keep.refl _ _) Yb)
  | succ k ih =>
    intro i vi T0 h0 locs hi hv hn X0 e0 N0 Z0 Yb Yd K
    refine tnA B X0 hw e0 N0 Z0 Yb g_b g_tb Yd hb8 hd ne_b_d ne_b_td ne_tb_d ne_tb_td (own_vlt hv hd (by omega)) (by rw [List.length_append, List.length_take]; omega) (fun T' h' locs' X e' N K1 Y1 D1 => ?_)
    rw [List.append_assoc, own_take ds i (by omega)] at Y1
    exact ih (i + 1) (vi + (1 : Int32)) T' h' locs' (by omega) (own_vsucc hv (by omega)) hn X e' N (Nat.le_trans Z0 K1.1) Y1 D1 (fun T2 h2 l2 v2 X2 e2 N2 K2 Y2 => K T2 h2 l2 v2 X2 e2 N2 (K1.trans K2 (allS (mi 0 rfl) (allS (mi 1 rfl) all0))) Y2)
def QrmAp (Z : State) (b tb : Addr) (cs : List Int32) (d td : Addr) (ds : List Int32) (h0 : Heap) (n0 : Nat) (v : Option Value) (h : Heap) (L : List Loc) : Prop := v = none ∧ Fr n0 L ∧ Keep h0 h [b, tb] ∧ own_By Z h b tb (cs ++ ds)
theorem rmAp (l : Launch) (Z : State) (a0 : Array Value) (hw : own_H a0 Z) (ws : List Jvm.Cond) (b tb : Addr) (cs : List Int32) (d td : Addr) (ds : List Int32) (h0 : Heap) (n0 : Nat) (ZH : n0 ≤ h0.size) (Y_b : own_By Z h0 b tb cs) (g_b : n0 ≤ b) (g_tb : n0 ≤ tb) (Y_d : own_By Z h0 d td ds) (hb8 : own_bl ds) (hd : ds.length < 256) (ne_b_d : b ≠ d) (ne_b_td : b ≠ td) (ne_tb_d : tb ≠ d) (ne_tb_td : tb ≠ td) (hn : cs.length + ds.length ≤ 256) :
    own_Met l Z yy9 prog_81_method_9_code 3 none ws (own_R 1 0 0 14) #[(.ref b), (.ref d)] h0 (QrmAp Z b tb cs d td ds h0 n0) 0 0 := by
  refine own_hd (fr := #[.val (.ref b), .val (.ref d), .unset]) (plainFor_of_name pn_0) (fun {p e s m below meth c s₁} B X0 e0 => ?_)
  have N0 := Fr.nil n0
  have KK := Keep.refl h0 [b, tb]
  obtain ⟨E_d, F_bytes_d, F_size_d, G_td, -⟩ := id Y_d
  refine g_iconst (o := 0) (q := 1) (v := 0) B X0 dK rfl rfl ?_
  refine g_istoreN (k := 2) (q := 2) (l' := #[.val (.ref b), .val (.ref d), .val (.int (0 : Int32))]) B X0 dK rfl rfl ?_
  refine own_apd B hw g_b g_tb hb8 hd ne_b_d ne_b_td ne_tb_d ne_tb_td ds.length 0 (0 : Int32) _ _ _ (by omega) dD hn X0 e0 N0 ZH (by rw [List.take_zero, List.append_nil]; exact Y_b) Y_d (fun T1 h1 l1 vj X1 e1 N1 K1 Y_b => ?_)
  have KK := KK.trans K1 (allS (mi 0 rfl) (allS (mi 1 rfl) all0))
  exact g_ret B X1 dK dD dD e1 (by
    exact ⟨rfl, N1, KK, Y_b⟩)
theorem pn_1 : plainName "java/util/AbstractMap" = true := by first | (simp [plainName, overriddenIn]; done) | decide +kernel
def QrmAM (Z : State) (b : Addr) (h0 : Heap) (n0 : Nat) (v : Option Value) (h : Heap) (L : List Loc) : Prop := v = none ∧ Fr n0 L ∧ h = h0
theorem rmAM (l : Launch) (Z : State) (a0 : Array Value) (hw : own_H a0 Z) (ws : List Jvm.Cond) (b : Addr) (h0 : Heap) (n0 : Nat) (ZH : n0 ≤ h0.size) :
    own_Met l Z yy42 jdk_71_method_1_code 1 none ws (own_R 1 0 0 12) #[(.ref b)] h0 (QrmAM Z b h0 n0) 0 0 := by
  refine own_hd (fr := #[.val (.ref b)]) (plainFor_of_name pn_1) (fun {p e s m below meth c s₁} B X0 e0 => ?_)
  have N0 := Fr.nil n0
  refine g_aloadN (k := 0) (q := 1) B X0 dK rfl rfl rfl ?_
  refine g_initO (i := 1) (W := 0) (q := 4) B X0 (kw hw 48 rfl) (kw hw 16 rfl) (kw hw 17 rfl) e0 dK rfl dD dD dD rfl (fun T1 X1 e1 => ?_)
  exact g_ret B X1 dK dD dD e1 (by
    exact ⟨rfl, N0, rfl⟩)
theorem pn_2 : plainName "java/util/AbstractCollection" = true := by first | (simp [plainName, overriddenIn]; done) | decide +kernel
def QrmAC (Z : State) (b : Addr) (h0 : Heap) (n0 : Nat) (v : Option Value) (h : Heap) (L : List Loc) : Prop := v = none ∧ Fr n0 L ∧ h = h0
theorem rmAC (l : Launch) (Z : State) (a0 : Array Value) (hw : own_H a0 Z) (ws : List Jvm.Cond) (b : Addr) (h0 : Heap) (n0 : Nat) (ZH : n0 ≤ h0.size) :
    own_Met l Z yy43 jdk_22_method_1_code 1 none ws (own_R 1 0 0 12) #[(.ref b)] h0 (QrmAC Z b h0 n0) 0 0 := by
  refine own_hd (fr := #[.val (.ref b)]) (plainFor_of_name pn_2) (fun {p e s m below meth c s₁} B X0 e0 => ?_)
  have N0 := Fr.nil n0
  refine g_aloadN (k := 0) (q := 1) B X0 dK rfl rfl rfl ?_
  refine g_initO (i := 1) (W := 0) (q := 4) B X0 (kw hw 101 rfl) (kw hw 16 rfl) (kw hw 17 rfl) e0 dK rfl dD dD dD rfl (fun T1 X1 e1 => ?_)
  exact g_ret B X1 dK dD dD e1 (by
    exact ⟨rfl, N0, rfl⟩)
section OwnCps2
variable {p : Program} {l : Launch} {e : Env} {R : Room} {s : State} {m : MethodId} {args : Array Value} {below : List Frame} {meth : Method} {c : Code} {T : State} {locs : List Loc} {cells slots : Nat} {Z : State} {a0 : Array Value} {own : String} {bs : ByteArray} {ml : Nat} {rt0 : Option FieldType} {nm0 : String} {P : State → Outcome → Prop} {h h' : Heap} {pc q : Nat} {L l' : Array Slot} {S rest : List Value} {x y v : Int32} {u w : Value} {a b : Addr} {o : Int} {n : Int32} {f : Nat → Value}
theorem g_getFR (B : own_C p s m c Z own bs ml meth rt0 nm0) (X : Stand p l e R s m args below meth c T locs cells slots) {O nm ds : String} {i : Nat} (w : (Cond.fieldRef own i O nm ds).before a0 Z = true) (eT : T.heap = h) (F : Fld Z h a O nm ds u) (d : decode bs pc = .ok (.getfield i, 3)) (hq : q = pc + 3) (k : ∀ T' : State, Stand p l e R s m args below meth c T' locs cells slots → T'.heap = h → own_Go p.tables e below P (T'.setTop (mkF m q L (u :: S)))) : own_Go p.tables e below P (T.setTop (mkF m pc L (.ref a :: S))) := by
  subst hq
  obtain ⟨cell, cf, k0, i0, f0, h1, h2, h3, h4, -, -, h7⟩ := F
  have hW : Z.Warmed39 T.vm := wtrans B.hZ X.warmed
  have hown' : (Z.setVm T.vm).vm.findClass own = some m.cls := by show T.vm.findClass own = _; rw [X.warmed.alike.findClass]; exact B.hown
  obtain ⟨c1, k1, i1, f1, hi, hr⟩ := Cond.fieldRef_spec hown' (Cond.fieldRef_warmed39 hW w)
  obtain ⟨k', hi', -⟩ := State.fieldFound?_setVm (s := Z) hW.alike h2
  have e1 := Option.some.inj (hi.symm.trans hi')
  simp only [Prod.mk.injEq] at e1
  obtain ⟨rfl, -, -, rfl⟩ := e1
  refine own_up (fun target kq => ?_) (k T X eT)
  have hU := X.here
  have d' : decode c.code (mkF m pc L (.ref a :: S)).pc = .ok (.getfield i, 3) := hb B.hby d
  jvm_step hU [B.hx, d', getfield.wp_ready (e := e) (s := T) (f := mkF m pc L (.ref a :: S)) (c := c1) (field := f1) (a := a) (rest := S) (cell := cell) (v := u) hU.top hr h3 rfl (by rw [eT]; exact h1) h4 h7]
  exact kq
theorem own_specialRef (X : Stand p l e R s m args below meth c T locs cells slots) (hx : p.tables.exec = Jvm.exec) (hZ : Z.Warmed39 s.vm) {own : String} {index : Nat} {y : MethodName} (hy1 : y.name = "<init>") (hown : s.vm.findClass own = some m.cls) (w1 : (Cond.methodRef own index y).before a0 Z = true) (w2 : (Cond.instanceMethod y).before a0 Z = true) {bytes : ByteArray} {maxL : Nat} (w4 : (Cond.code y bytes maxL none).before a0 Z = true)
    (hy : y.cls ≠ "java/lang/invoke/MethodHandle" ∧ y.cls ≠ "java/lang/invoke/VarHandle") {W : Nat} {Pre : Free.Pt → Array Value → Prop} {Post : Free.Pt → Array Value → Option Value → Free.Pt → Prop} (hK : Free.Back l R p e below s args y 3 W Pre Post)
    {g : JFrame} (hg : g.method = m) (hsize : g.locals.size = c.maxLocals) {a : Addr} {argsL rest : List Value} (hlen : ∀ sig, parseMethodDescriptor y.desc = some sig → argsL.length = sig.parameters.length) (hstack : g.stack = argsL.reverse ++ .ref a :: rest) (hW : 2 * g.monitorRoom + (rest.map fun v => v.category).sum ≤ W)
    (hdg : decode c.code g.pc = .ok (.invokespecial index, 3)) (hpre : Pre ⟨T, locs, cells, slots⟩ (.ref a :: argsL).toArray) :
    ∃ (v : Option Value) (D : Free.Pt), Stand p l e R s m args below meth c D.U D.locs D.cells D.slots ∧ Post ⟨T, locs, cells, slots⟩ (.ref a :: argsL).toArray v D ∧ Steps p.tables e below (T.setTop g) (D.U.setTop { g with pc := g.pc + 3, stack := v.toList ++ rest }) := by
  subst hg
  have hWT : Z.Warmed39 T.vm := wtrans hZ X.warmed
  obtain ⟨mk, methM, hn, hm, hst, hab⟩ := Cond.instanceMethod_spec (mvT (s := T) (args := args) hWT w2)
  obtain ⟨methM', cM, hm', -, -, -, -, -, -, hsig⟩ := Cond.code_spec hn (mvT (s := T) (args := args) hWT w4)
  cases hm.symm.trans hm'
  obtain ⟨kO, hkO, hnameO⟩ := className_of_methodNamed hn
  obtain ⟨hnameMO, hdescO⟩ := name_of_methodNamed hn hm
  have hown' : (Z.setVm T.vm).vm.findClass own = some g.method.cls := by show T.vm.findClass own = _; rw [X.warmed.alike.findClass]; exact hown
  have hnZ : ∃ mz, Z.methodNamed? y = some mz := by
    obtain ⟨mz, -, q, -⟩ := Cond.instanceMethod_spec w2
    exact ⟨mz, q⟩
  obtain ⟨mz, hnz⟩ := hnZ
  obtain ⟨m1, c1, hf1, hr1, hc1, hnr⟩ := Cond.methodRef_named e hown' (Cond.methodRef_warmed39 hWT hnz hy w1)
  have e1 : m1 = mk := Option.some.inj (hf1.symm.trans (show (Z.setVm T.vm).methodFound? y.cls y.name y.desc = some mk from State.methodFound?_of_named (s := T) hn hy))
  subst e1
  have e2 : c1 = m1.cls := Option.some.inj (hc1.symm.trans (show (Z.setVm T.vm).vm.findClass y.cls = some m1.cls from findClass_of_methodNamed (s := T) hn))
  subst e2
  obtain ⟨v, D, X', hpost, hsteps⟩ := hK g.method meth c ⟨T, locs, cells, slots⟩ { g with stack := rest } (.invokespecial index) m1 (.ref a :: argsL).toArray X rfl hsize hdg hW hn hpre
  refine ⟨v, D, X', hpost, ?_⟩
  have hU := X.here
  jvm_step hU [hx, hdg, invokespecial.wp_init (e := e) (s := T) (k := kO) (meth := methM) (m := m1) (a := a) (args := argsL) (rest := rest) (f := g) hU.top hnr hr1 hkO hm (by rw [hnameMO]; exact hy1) hst hab (by rw [hdescO, ← hy1]; exact lookupSpecial_of_named hn hm hst) (hlen _ hsig) hstack]
  intro acts
  rw [doInvoke_state]
  exact hsteps
theorem g_callIR (B : own_C p s m c Z own bs ml meth rt0 nm0) (X : Stand p l e R s m args below meth c T locs cells slots) {y : MethodName} {i W mlc : Nat} {cb : ByteArray} {rm : Room} {as' : Array Value} {Q : Option Value → Heap → List Loc → Prop} {argsL : List Value} (hi : y.name = "<init>") (w1 : (Cond.methodRef own i y).before a0 Z = true) (w2 : (Cond.instanceMethod y).before a0 Z = true) (w3 : (Cond.initialized y.cls).before a0 Z = true) (w4 : (Cond.code y cb mlc none).before a0 Z = true) (hy : y.cls ≠ "java/lang/invoke/MethodHandle" ∧ y.cls ≠ "java/lang/invoke/VarHandle") (eT : T.heap = h) (hM : MetFree l y (head1 [Cond.code y cb mlc none] rm) (fun a U => a = as' ∧ Z.Warmed39 U.vm ∧ U.heap = h) (fun _ _ _ _ _ => True) (fun _ U o U' => ∃ v L, o = .returned v ∧ Q v U'.heap L ∧ FrameEnd U o U' L rm.cells rm.slots)) (d : decode bs pc = .ok (.invokespecial i, 3)) (hs : S = argsL.reverse ++ .ref a :: rest) (ha : (.ref a :: argsL).toArray = as') (hlen : ∀ sig, parseMethodDescriptor y.desc = some sig → argsL.length = sig.parameters.length) (hW : (rest.map fun v => v.category).sum ≤ W) (hL : L.size = ml) (hf : rm.frames + 1 ≤ R.frames) (hl : W + (mlc + 11) + rm.locals ≤ R.locals) (hc : cells + rm.cells ≤ R.cells) (hsl : slots + rm.slots ≤ R.slots) (hq : q = pc + 3)
    (k : ∀ (v : Option Value) (Lc : List Loc) (T' : State), Stand p l e R s m args below meth c T' (locs ++ Lc) (cells + rm.cells) (slots + rm.slots) → Q v T'.heap Lc → own_Go p.tables e below P (T'.setTop (mkF m q L (v.toList ++ rest)))) : own_Go p.tables e below P (T.setTop (mkF m pc L S)) := by
  subst hs
  subst hq
  obtain ⟨v, ⟨T1, L1, k1, n1⟩, X1, ⟨Lc, hQ, l1, y1, z1⟩, st⟩ := own_specialRef X B.hx B.hZ (y := y) hi B.hown w1 w2 w4 hy (backOf (W := W) hM B.hZ w4 w3 hf hl) (g := mkF m pc L (argsL.reverse ++ .ref a :: rest)) rfl (by rw [B.hml]; exact hL) (a := a) (argsL := argsL) (rest := rest) hlen rfl (by show 2 * 0 + _ ≤ _; rw [Nat.mul_zero, Nat.zero_add]; exact hW) (hb B.hby d) ⟨ha, eT, hc, hsl⟩
  dsimp only [Pt.U, Pt.locs, Pt.cells, Pt.slots] at X1 l1 y1 z1 st hQ
  subst l1 y1 z1
  exact own_up (fun _ kq => st.trans kq) (k v Lc T1 X1 hQ)
def own_NI (Z : State) (C : String) : Prop := ∃ (c : ClassId) (k : Class), Z.vm.findClass C = some c ∧ Z.vm.classes[c]? = some k ∧ k.isInterface = false
theorem own_NI.inst {C : String} {nn : Nat} (w : (Cond.instantiable C nn).before a0 Z = true) : own_NI Z C := by
  obtain ⟨c, k, h1, h2, -, h3, -⟩ := Cond.instantiable_spec w
  exact ⟨c, k, h1, h2, by simp only [Bool.or_eq_false_iff] at h3; exact h3.1⟩
theorem own_NI.sel {C : String} {y : MethodName} (w : (Cond.selects C y y).before a0 Z = true) (d : (Cond.declares y).before a0 Z = true) : own_NI Z y.cls := by
  obtain ⟨r1, q1, hn1, -⟩ := Cond.declares_spec d
  obtain ⟨kr, hkr, hni⟩ := notFace_of_selects (args := a0) w r1 hn1
  exact ⟨_, kr, findClass_of_methodNamed hn1, hkr, hni⟩
theorem own_NI.face {y : MethodName} (N : own_NI Z y.cls) (hZ : Z.Warmed39 s.vm) : NotFace s y := fun r0 hn => by
  obtain ⟨c, k, h1, h2, h3⟩ := N
  have q := findClass_of_methodNamed hn
  rw [hZ.alike.findClass, h1] at q
  cases q
  obtain ⟨k', h2', e⟩ := hZ.alike.2.2 _ _ h2
  exact ⟨k', h2', by rw [e]; exact h3⟩
theorem own_NI.same {y : MethodName} (N : own_NI Z y.cls) (wd : (Cond.declares y).before a0 Z = true) (hy : y.cls ≠ "java/lang/invoke/MethodHandle" ∧ y.cls ≠ "java/lang/invoke/VarHandle") : (Cond.sameMethod y.cls y.cls y.name y.desc).before a0 Z = true := by
  obtain ⟨r0, r, hn, -⟩ := Cond.declares_spec wd
  obtain ⟨c, k, h1, h2, h3⟩ := N
  have hf := findClass_of_methodNamed hn
  have hcl := Option.some.inj (hf.symm.trans h1)
  rw [← hcl] at h2
  have hfd := State.methodFound?_of_named hn hy
  simp only [Cond.before, Cond.holds, Cond.value, hf, hfd]
  have e : (⟨y.cls, y.name, y.desc⟩ : MethodName) = y := rfl
  rw [e, hn]
  simp [h2, h3]
theorem own_privStep (X : Stand p l e R s m args below meth c T locs cells slots) (hx : p.tables.exec = Jvm.exec) (hZ : Z.Warmed39 s.vm) {own : String} {index : Nat} {y : MethodName} (hown : s.vm.findClass own = some m.cls) (w1 : (Cond.methodLink own index y).before a0 Z = true) (w6 : (Cond.instanceMethod y).before a0 Z = true) (w7 : (Cond.privateMethod y).before a0 Z = true) {bytes : ByteArray} {maxL : Nat} {ret : Option FieldType} (w4 : (Cond.code y bytes maxL ret).before a0 Z = true) (N : own_NI Z y.cls)
    (hy : y.cls ≠ "java/lang/invoke/MethodHandle" ∧ y.cls ≠ "java/lang/invoke/VarHandle") {g : JFrame} (hg : g.method = m) {a : Addr} {cell : Cell} (hcell : T.heap[a]? = some cell) (hobj : ∀ q, cell.vm ≠ .statics q) {argsL rest : List Value} (hlen : ∀ sig, parseMethodDescriptor y.desc = some sig → argsL.length = sig.parameters.length) (hstack : g.stack = argsL.reverse ++ .ref a :: rest) (hdg : decode c.code g.pc = .ok (.invokevirtual index, 3)) :
    ∃ (vm₁ : Vm) (mk : MethodId), s.WarmedH vm₁ ∧ Stand p l e R s m args below meth c (T.setVm vm₁) locs cells slots ∧ (T.setVm vm₁).methodNamed? y = some mk ∧ ∀ target, Steps p.tables e below (doInvoke e ((T.setVm vm₁).setTop { g with stack := rest }) [] mk (.ref a :: argsL).toArray).1 target → Steps p.tables e below (T.setTop g) target := by
  obtain ⟨mk, methM, hn, hm, hst, hab⟩ := Cond.instanceMethod_spec (mvT (s := s) (args := args) hZ w6)
  obtain ⟨methM', cM, hm', -, -, -, -, -, -, hsig⟩ := Cond.code_spec hn (mvT (s := s) (args := args) hZ w4)
  cases hm.symm.trans hm'
  have hpriv := Cond.privateMethod_at (mvP (args := args) hZ w7)
  obtain ⟨kP, hkP, hkPi⟩ := N.face hZ mk hn
  have hselP : selectMethod e.platform s.vm cell.cls mk = .method mk := selectMethod_private hm (hpriv mk methM hn hm)
  obtain ⟨vm₁, X₁, hstep⟩ := X.invokevirtual hx hown (mvT hZ w1) hn hm hst hkP hkPi hy (a := a) (cell := cell) hcell hobj hselP hm hab hkP hkPi (g := g) hg (argsL := argsL) (rest := rest) (hlen _ hsig) hstack hdg
  exact ⟨vm₁, mk, X₁.warmed, X₁, X₁.named hn, fun target k => hstep _ fun acts => by rw [doInvoke_state]; exact k⟩
theorem g_callP (B : own_C p s m c Z own bs ml meth rt0 nm0) (X : Stand p l e R s m args below meth c T locs cells slots) {y : MethodName} {C : String} {i W mlc : Nat} {cb : ByteArray} {rt : Option FieldType} {rm : Room} {as' : Array Value} {Q : Option Value → Heap → List Loc → Prop} {argsL : List Value} (w1 : (Cond.methodLink own i y).before a0 Z = true) (NI : own_NI Z y.cls) (w6 : (Cond.instanceMethod y).before a0 Z = true) (w7 : (Cond.privateMethod y).before a0 Z = true) (w3 : (Cond.initialized y.cls).before a0 Z = true) (w4 : (Cond.code y cb mlc rt).before a0 Z = true) (hy : y.cls ≠ "java/lang/invoke/MethodHandle" ∧ y.cls ≠ "java/lang/invoke/VarHandle") (eT : T.heap = h) (E : Exa Z h a C) (hM : MetFree l y (head1 [Cond.code y cb mlc rt] rm) (fun a U => a = as' ∧ Z.Warmed39 U.vm ∧ U.heap = h) (fun _ _ _ _ _ => True) (fun _ U o U' => ∃ v L, o = .returned v ∧ Q v U'.heap L ∧ FrameEnd U o U' L rm.cells rm.slots)) (d : decode bs pc = .ok (.invokevirtual i, 3)) (hs : S = argsL.reverse ++ .ref a :: rest) (ha : (.ref a :: argsL).toArray = as') (hlen : ∀ sig, parseMethodDescriptor y.desc = some sig → argsL.length = sig.parameters.length) (hW : (rest.map fun v => v.category).sum ≤ W) (hL : L.size = ml) (hf : rm.frames + 1 ≤ R.frames) (hl : W + (mlc + 11) + rm.locals ≤ R.locals) (hc : cells + rm.cells ≤ R.cells) (hsl : slots + rm.slots ≤ R.slots) (hq : q = pc + 3)
    (k : ∀ (v : Option Value) (Lc : List Loc) (T' : State), Stand p l e R s m args below meth c T' (locs ++ Lc) (cells + rm.cells) (slots + rm.slots) → Q v T'.heap Lc → own_Go p.tables e below P (T'.setTop (mkF m q L (v.toList ++ rest)))) : own_Go p.tables e below P (T.setTop (mkF m pc L S)) := by
  subst hs hq
  obtain ⟨cq, qa, qb⟩ := E.cell
  obtain ⟨vm1, mk, hW1, X1, hn1, st1⟩ := own_privStep X B.hx B.hZ B.hown w1 w6 w7 w4 NI hy (g := mkF m pc L (argsL.reverse ++ .ref a :: rest)) rfl (by rw [eT]; exact qa) qb (argsL := argsL) (rest := rest) hlen rfl (hb B.hby d)
  obtain ⟨v, ⟨T1, L1, k1, n1⟩, X2, ⟨Lc, hQ, l1, y1, z1⟩, st⟩ := (backOf (W := W) hM B.hZ w4 w3 hf hl) m meth c ⟨T.setVm vm1, locs, cells, slots⟩ (mkF m pc L rest) (.invokevirtual i) mk (.ref a :: argsL).toArray X1 rfl (by rw [B.hml]; exact hL) (hb B.hby d) (by show 2 * 0 + _ ≤ _; rw [Nat.mul_zero, Nat.zero_add]; exact hW) hn1 ⟨ha, eT, hc, hsl⟩
  dsimp only [Pt.U, Pt.locs, Pt.cells, Pt.slots] at X2 l1 y1 z1 st hQ
  subst l1 y1 z1
  exact own_up (fun _ kq => st1 _ (st.trans kq)) (k v Lc T1 X2 hQ)
theorem g_callVz (B : own_C p s m c Z own bs ml meth rt0 nm0) (X : Stand p l e R s m args below meth c T locs cells slots) {y z : MethodName} {C : String} {i W mlc : Nat} {cb : ByteArray} {rt : Option FieldType} {rm : Room} {as' : Array Value} {Q : Option Value → Heap → List Loc → Prop} {argsL : List Value} (w1 : (Cond.methodLink own i y).before a0 Z = true) (w2 : (Cond.declares y).before a0 Z = true) (NI : own_NI Z y.cls) (w5 : (Cond.selects C y z).before a0 Z = true) (w6 : (Cond.instanceMethod z).before a0 Z = true) (w3 : (Cond.initialized z.cls).before a0 Z = true) (w4 : (Cond.code z cb mlc rt).before a0 Z = true) (hy : y.cls ≠ "java/lang/invoke/MethodHandle" ∧ y.cls ≠ "java/lang/invoke/VarHandle") (eT : T.heap = h) (E : Exa Z h a C) (hM : MetFree l z (head1 [Cond.code z cb mlc rt] rm) (fun a U => a = as' ∧ Z.Warmed39 U.vm ∧ U.heap = h) (fun _ _ _ _ _ => True) (fun _ U o U' => ∃ v L, o = .returned v ∧ Q v U'.heap L ∧ FrameEnd U o U' L rm.cells rm.slots)) (d : decode bs pc = .ok (.invokevirtual i, 3)) (hs : S = argsL.reverse ++ .ref a :: rest) (ha : (.ref a :: argsL).toArray = as') (hlen : ∀ sig, parseMethodDescriptor y.desc = some sig → argsL.length = sig.parameters.length) (hW : (rest.map fun v => v.category).sum ≤ W) (hL : L.size = ml) (hf : rm.frames + 1 ≤ R.frames) (hl : W + (mlc + 11) + rm.locals ≤ R.locals) (hc : cells + rm.cells ≤ R.cells) (hsl : slots + rm.slots ≤ R.slots) (hq : q = pc + 3)
    (k : ∀ (v : Option Value) (Lc : List Loc) (T' : State), Stand p l e R s m args below meth c T' (locs ++ Lc) (cells + rm.cells) (slots + rm.slots) → Q v T'.heap Lc → own_Go p.tables e below P (T'.setTop (mkF m q L (v.toList ++ rest)))) : own_Go p.tables e below P (T.setTop (mkF m pc L S)) := by
  subst hs
  obtain ⟨cq, kq, qa, qb, qc⟩ := isOf B.hZ eT E
  subst hq
  obtain ⟨v, vm1, ⟨T1, L1, k1, n1⟩, -, X1, ⟨Lc, hQ, l1, y1, z1⟩, st⟩ := X.virtualBack B.hx (y := y) (z := z) B.hown (mvT B.hZ w1) (mvT B.hZ w2) (NI.face B.hZ) (mvT B.hZ w5) (mvT B.hZ w6) hy (backOf (W := W) hM B.hZ w4 w3 hf hl) qa qc (g := mkF m pc L (argsL.reverse ++ .ref a :: rest)) rfl (by rw [B.hml]; exact hL) (Steps.refl _) (argsL := argsL) (rest := rest) hlen rfl (by show 2 * 0 + _ ≤ _; rw [Nat.mul_zero, Nat.zero_add]; exact hW) (hb B.hby d) (fun _ _ => ⟨ha, eT, hc, hsl⟩)
  dsimp only [Pt.U, Pt.locs, Pt.cells, Pt.slots] at X1 l1 y1 z1 st hQ
  subst l1 y1 z1
  exact own_up (fun _ kq => st.trans kq) (k v Lc T1 X1 hQ)
theorem g_newarrE (B : own_C p s m c Z own bs ml meth rt0 nm0) (X : Stand p l e R s m args below meth c T locs cells slots) {aty : ArrayType} {cap : Nat} {ad : String} (had : "[" ++ (newarray.typeOf aty).toString = ad) (w : (Cond.arrayClass (newarray.typeOf aty)).before a0 Z = true) (eT : T.heap = h) (hn : ¬ n < 0) (hcap : n.toNatClampNeg ≤ cap) (hbig : cap * 8 ≤ 536870912) (d : decode bs pc = .ok (.newarray aty, 2)) (hc : cells + 1 ≤ R.cells) (hl : slots + cap ≤ R.slots) (hq : q = pc + 2)
    (k : ∀ (b : Addr) (T' : State) (h' : Heap), b = h.size → Stand p l e R s m args below meth c T' locs (cells + 1) (slots + cap) → T'.heap = h' → Ext h h' → own_Arf Z h' b (newarray.typeOf aty) n (fun _ => defaultValue (newarray.typeOf aty)) → Exa Z h' b ad → own_Go p.tables e below P (T'.setTop (mkF m q L (.ref b :: S)))) : own_Go p.tables e below P (T.setTop (mkF m pc L (.int n :: S))) := by
  subst hq
  obtain ⟨T1, h1, k1, X1, e1, E1, A1, E2, st⟩ := newPE X B.hx B.hZ w eT (g := mkF m pc L (.int n :: S)) rfl (hb B.hby d) rfl hn hcap hbig hc hl had
  exact own_up st (k _ T1 h1 rfl X1 e1 E1 (own_Arf.new A1 hn) E2)
def own_Arr (Z : State) (h : Heap) (a : Addr) (C : String) (n : Int32) (f : Nat → Value) : Prop := ∃ c : Cell, Arr Z h a c (.object C) ∧ Ovr Z c.cls C ∧ c.slots.size = n.toNatClampNeg ∧ ¬ n < 0 ∧ ∀ i, i < c.slots.size → c.slots[i]? = some (f i)
theorem own_Arr.arf {C : String} (F : own_Arr Z h a C n f) : own_Arf Z h a (.object C) n f := by obtain ⟨c, A, -, r⟩ := F; exact ⟨c, A, r⟩
theorem own_Arr.lt {C : String} (F : own_Arr Z h a C n f) : a < h.size := F.arf.lt
theorem own_Arr.ext {C : String} (F : own_Arr Z h a C n f) (E : Ext h h') : own_Arr Z h' a C n f := by obtain ⟨c, A, r⟩ := F; exact ⟨c, A.ext E, r⟩
theorem own_Arr.other {C : String} {sl : Nat} (F : own_Arr Z h b C n f) (W : Wr h h' a sl u) (q : b ≠ a) : own_Arr Z h' b C n f := by obtain ⟨c, A, r⟩ := F; exact ⟨c, A.other W q, r⟩
theorem own_Arr.keep {C : String} {ws : List Addr} (F : own_Arr Z h a C n f) (K : Keep h h' ws) (q : a ∉ ws) : own_Arr Z h' a C n f := by obtain ⟨c, A, r⟩ := F; exact ⟨c, ⟨K.2.1 a c A.1 q, A.2⟩, r⟩
theorem own_Arr.set {C : String} (F : own_Arr Z h a C n f) (W : Wr h h' a v.toNatClampNeg u) : own_Arr Z h' a C n (fun i => if i = v.toNatClampNeg then u else f i) := by
  obtain ⟨c, A, O, S, q, H⟩ := F
  refine ⟨_, A.same W, O, by rw [sz_set]; exact S, q, fun x hx => ?_⟩
  rw [sz_set] at hx
  by_cases z : x = v.toNatClampNeg
  · subst z; simp [Cell.setSlot, hx]
  · show _ = some (if x = v.toNatClampNeg then u else f x)
    rw [if_neg z]
    have := H x hx
    simp only [Cell.setSlot]
    rw [Array.getElem?_setIfInBounds_ne (Ne.symm z)]
    exact this
theorem g_anewarr2 (B : own_C p s m c Z own bs ml meth rt0 nm0) (X : Stand p l e R s m args below meth c T locs cells slots) {C : String} {i cap : Nat} (w : (Cond.classLink own i C).before a0 Z = true) (w2 : (Cond.arrayOver (.object C)).before a0 Z = true) (eT : T.heap = h) (hn : ¬ n < 0) (hcap : n.toNatClampNeg ≤ cap) (hbig : cap * 8 ≤ 536870912) (d : decode bs pc = .ok (.anewarray i, 3)) (hc : cells + 1 ≤ R.cells) (hl : slots + cap ≤ R.slots) (hq : q = pc + 3)
    (k : ∀ (b : Addr) (T' : State) (h' : Heap), b = h.size → Stand p l e R s m args below meth c T' locs (cells + 1) (slots + cap) → T'.heap = h' → Ext h h' → own_Arr Z h' b C n (fun _ => .null) → own_Go p.tables e below P (T'.setTop (mkF m q L (.ref b :: S)))) : own_Go p.tables e below P (T.setTop (mkF m pc L (.int n :: S))) := by
  subst hq
  obtain ⟨T1, h1, k1, X1, e1, E1, A1, O1, st⟩ := newR X B.hx B.hZ B.hown w w2 eT (g := mkF m pc L (.int n :: S)) rfl (hb B.hby d) rfl hn hcap hbig hc hl
  obtain ⟨c0, q0, q1, q2, q3⟩ := own_Arf.new A1 hn
  exact own_up st (k _ T1 h1 rfl X1 e1 E1 ⟨_, A1, O1, sz_new _ _ _, hn, fun i hi => by rw [sz_new] at hi; simp [newA, hi]; rfl⟩)
theorem g_aastore (B : own_C p s m c Z own bs ml meth rt0 nm0) (X : Stand p l e R s m args below meth c T locs cells slots) {C : String} (eT : T.heap = h) (F : own_Arr Z h a C n f) (I : Ins Z h b C true) (h1 : ¬ v < 0) (h2 : v < n) (d : decode bs pc = .ok (.aastore, 1)) (hq : q = pc + 1)
    (k : ∀ (T' : State) (h' : Heap), Stand p l e R s m args below meth c T' (locs ++ [⟨a, v.toNatClampNeg⟩]) cells slots → T'.heap = h' → Wr h h' a v.toNatClampNeg (.ref b) → own_Arr Z h' a C n (fun i => if i = v.toNatClampNeg then .ref b else f i) → own_Go p.tables e below P (T'.setTop (mkF m q L S))) : own_Go p.tables e below P (T.setTop (mkF m pc L (.ref b :: .int v :: .ref a :: S))) := by
  subst hq
  obtain ⟨cl, A, O, sz, nz, hc⟩ := id F
  obtain ⟨T1, h1', X1, e1, W1, st⟩ := stR X B.hx B.hZ eT A (inb_of sz ⟨h1, h2⟩) rfl (Sto.of A O I) (g := mkF m pc L (.ref b :: .int v :: .ref a :: S)) rfl rfl (hb B.hby d)
  exact own_up st (k T1 h1' X1 e1 W1 (F.set W1))
def own_cp (u2 : Nat → Int32) (dp : Nat) (u1 : Nat → Int32) (sp nn : Nat) : Nat → Int32 := fun i => if dp ≤ i ∧ i < dp + nn then u1 (sp + (i - dp)) else u2 i
theorem own_fit8 {x : Int32} (q : x.toInt8.toInt32 = x) : fits .byte (.int x) = true := by
  have h1 : x.toInt8.toInt32.toInt = x.toInt8.toInt := Int8.toInt_toInt32 _
  have h2 := Int8.le_toInt x.toInt8
  have h3 := Int8.toInt_lt x.toInt8
  rw [q] at h1
  simp only [fits, Bool.and_eq_true, decide_eq_true_eq, Int32.le_iff_toInt_le]
  have e1 : (-128 : Int32).toInt = -128 := by decide
  have e2 : (127 : Int32).toInt = 127 := by decide
  rw [e1, e2]; omega
theorem own_Arf.arv {f : Nat → Int32} (F : own_Arf Z h a .byte n (fun i => .int (f i))) (hf : ∀ i, (f i).toInt8.toInt32 = f i) : ∃ k, Arv Z h a k .byte n ((List.range n.toNatClampNeg).map fun i => Value.int (f i)) (.int 0) := by
  obtain ⟨c, A, S, q, H⟩ := F
  have g0 : ∀ i, i < c.slots.size → ((List.range n.toNatClampNeg).map fun i => Value.int (f i)).getD i (.int 0) = .int (f i) := fun i hi => by
    rw [List.getD_eq_getElem?_getD, List.getElem?_map, List.getElem?_range (by rw [← S]; exact hi)]; rfl
  exact ⟨c.cls, c, A, rfl, S, q, fun i hi => by rw [H i hi, g0 i hi], fun i hi => by rw [g0 i hi]; exact own_fit8 (hf i)⟩
theorem own_cplist (m sp dp nn : Nat) (u1 u2 : Nat → Int32) (z : Nat) (h1 : sp + nn ≤ z) (h5 : dp + nn ≤ m) (i : Nat) (hi : i < m) :
    (((List.range m).map fun i => Value.int (u2 i)).take dp ++ ((List.range nn).map fun i => ((List.range z).map fun i => Value.int (u1 i)).getD (sp + i) (.int 0)) ++ ((List.range m).map fun i => Value.int (u2 i)).drop (dp + nn)).getD i (.int 0) = .int (own_cp u2 dp u1 sp nn i) := by
  rw [List.getD_eq_getElem?_getD]
  unfold own_cp
  by_cases a1 : i < dp
  · rw [if_neg (by omega), List.getElem?_append_left (by simp; omega), List.getElem?_append_left (by simp; omega), List.getElem?_take, if_pos a1, List.getElem?_map, List.getElem?_range hi]; rfl
  · by_cases a2 : i < dp + nn
    · rw [if_pos ⟨by omega, a2⟩, List.getElem?_append_left (by simp; omega), List.getElem?_append_right (by simp; omega)]
      rw [show i - (List.take dp ((List.range m).map fun i => Value.int (u2 i))).length = i - dp from by simp; omega, List.getElem?_map, List.getElem?_range (by omega)]
      show (((List.range z).map fun i => Value.int (u1 i)).getD (sp + (i - dp)) (.int 0)) = _
      rw [List.getD_eq_getElem?_getD, List.getElem?_map, List.getElem?_range (by omega)]; rfl
    · rw [if_neg (by omega), List.getElem?_append_right (by simp; omega), List.getElem?_drop, List.getElem?_map]
      rw [show dp + nn + (i - (List.take dp ((List.range m).map fun i => Value.int (u2 i)) ++ (List.range nn).map fun i => ((List.range z).map fun i => Value.int (u1 i)).getD (sp + i) (.int 0)).length) = i from by simp; omega, List.getElem?_range hi]; rfl
theorem g_acopy (B : own_C p s m c Z own bs ml meth rt0 nm0) (X : Stand p l e R s m args below meth c T locs cells slots) {i W : Nat} {z z' sp dp nn : Int32} {u1 u2 : Nat → Int32} {n0 : Nat} (w1 : (Cond.methodLink own i Jvm.Stand.acN).before a0 Z = true) (w2 : (Cond.native Jvm.Stand.acN).before a0 Z = true) (w3 : (Cond.static Jvm.Stand.acN).before a0 Z = true) (w4 : (Cond.initialized "java/lang/System").before a0 Z = true) (eT : T.heap = h)
    (F1 : own_Arf Z h a .byte z (fun i => .int (u1 i))) (F2 : own_Arf Z h b .byte z' (fun i => .int (u2 i))) (hb1 : ∀ i, (u1 i).toInt8.toInt32 = u1 i) (hb2 : ∀ i, (u2 i).toInt8.toInt32 = u2 i) (h1 : ¬ sp < 0) (h2 : ¬ dp < 0) (h3 : ¬ nn < 0) (h4 : sp.toNatClampNeg + nn.toNatClampNeg ≤ z.toNatClampNeg) (h5 : dp.toNatClampNeg + nn.toNatClampNeg ≤ z'.toNatClampNeg) (N : Fr n0 locs) (ge : n0 ≤ b)
    (d : decode bs pc = .ok (.invokestatic i, 3)) (hL : L.size = ml) (hf : 1 ≤ R.frames) (hW : (S.map fun v => v.category).sum ≤ W) (hlo : W + (nativeFrameWords "java/lang/System" "arraycopy" 5 + 11) ≤ R.locals) (hq : q = pc + 3)
    (k : ∀ (T' : State) (h' : Heap) (L' : List Loc), Stand p l e R s m args below meth c T' L' cells slots → T'.heap = h' → Fr n0 L' → Keep h h' [b] → own_Arf Z h' b .byte z' (fun i => .int (own_cp u2 dp.toNatClampNeg u1 sp.toNatClampNeg nn.toNatClampNeg i)) → own_Go p.tables e below P (T'.setTop (mkF m q L S))) : own_Go p.tables e below P (T.setTop (mkF m pc L (.int nn :: .int dp :: .ref b :: .int sp :: .ref a :: S))) := by
  subst hq
  obtain ⟨k1, A1⟩ := F1.arv hb1
  obtain ⟨k2, A2⟩ := F2.arv hb2
  obtain ⟨T1, h1', L1, X1, e1, N1, K1, A3, st⟩ := cpA X B.hx B.hZ B.hown w1 w2 w3 w4 eT A1 A2 (Or.inl ⟨rfl, rfl⟩) h1 h2 h3 h4 h5 rfl (by simp; exact h5) N ge (g := mkF m pc L (.int nn :: .int dp :: .ref b :: .int sp :: .ref a :: S)) rfl (by rw [B.hml]; exact hL) rfl (hb B.hby d) hf (W := W) (by show 2 * 0 + _ ≤ _; rw [Nat.mul_zero, Nat.zero_add]; exact hW) hlo
  refine own_up st (k T1 h1' L1 X1 e1 N1 K1 ((own_Arf.ofArv A3).congr fun i hi => ?_))
  exact own_cplist _ _ _ _ _ _ _ h4 h5 i hi
end OwnCps2

def own_Nd : List Addr → Prop
  | [] => True
  | a :: l => (∀ x ∈ l, a ≠ x) ∧ own_Nd l
def own_do (i : Nat) : Int32 := Int32.ofNat (48 + i % 10)
def own_W (Z : State) (cz : Int32) (fv : Value) (ev dg ca : Addr) (cg : Nat → Addr) : Prop :=
  Sta Z Z.heap zz1 "COMPACT_STRINGS" "Z" (.int cz) ∧ ¬ cz = 0 ∧ Sta Z Z.heap zz28 "SIOOBE_FORMATTER" "Ljava/util/function/BiFunction;" fv ∧ (fv = .null ∨ ∃ a, fv = .ref a) ∧ Sta Z Z.heap zz11 "DEFAULTCAPACITY_EMPTY_ELEMENTDATA" zz42 (.ref ev) ∧ Sta Z Z.heap zz8 "DigitOnes" "[B" (.ref dg) ∧ own_Arf Z Z.heap dg .byte (100 : Int32) (fun i => .int (own_do i)) ∧ Sta Z Z.heap "java/lang/Integer$IntegerCache" "high" "I" (.int 127) ∧ Sta Z Z.heap "java/lang/Integer$IntegerCache" "cache" "[Ljava/lang/Integer;" (.ref ca) ∧ own_Arf Z Z.heap ca (.object zz8) (256 : Int32) (fun i => .ref (cg i)) ∧ ∀ i, i < 256 → Exa Z Z.heap (cg i) zz8 ∧ Fld Z Z.heap (cg i) zz8 "value" "I" (.int (Int32.ofNat i - 128))
def own_Al (Z : State) (h : Heap) (b : Addr) (ev : Value) : Prop :=
  Exa Z h b zz11 ∧ Fld Z h b zz11 "size" "I" (.int (0 : Int32)) ∧ Fld Z h b zz31 "modCount" "I" (.int (0 : Int32)) ∧ Fld Z h b zz11 "elementData" zz42 ev
theorem own_Al.lt {Z : State} {h : Heap} {b : Addr} {ev : Value} (Y : own_Al Z h b ev) : b < h.size := Y.1.lt
theorem own_Al.ext {Z : State} {h h' : Heap} {b : Addr} {ev : Value} (Y : own_Al Z h b ev) (E : Ext h h') : own_Al Z h' b ev := ⟨Y.1.ext E, Y.2.1.ext E, Y.2.2.1.ext E, Y.2.2.2.ext E⟩
theorem own_Al.other {Z : State} {h h' : Heap} {a' : Addr} {sl : Nat} {v' : Value} {b : Addr} {ev : Value} (Y : own_Al Z h b ev) (W : Wr h h' a' sl v') (q_b : b ≠ a') : own_Al Z h' b ev := ⟨Y.1.wr W, Y.2.1.other W (Or.inl q_b), Y.2.2.1.other W (Or.inl q_b), Y.2.2.2.other W (Or.inl q_b)⟩
theorem own_Al.keep {Z : State} {h h' : Heap} {ws : List Addr} {b : Addr} {ev : Value} (Y : own_Al Z h b ev) (K : Keep h h' ws) (q_b : b ∉ ws) : own_Al Z h' b ev := ⟨Y.1.keep K, Y.2.1.keep K q_b, Y.2.2.1.keep K q_b, Y.2.2.2.keep K q_b⟩
def own_It (Z : State) (h : Heap) (b al : Addr) : Prop :=
  Exa Z h b zz12 ∧ Fld Z h b zz12 "this$0" zz43 (.ref al) ∧ Fld Z h b zz12 "cursor" "I" (.int (0 : Int32))
theorem own_It.lt {Z : State} {h : Heap} {b : Addr} {al : Addr} (Y : own_It Z h b al) : b < h.size := Y.1.lt
theorem own_It.ext {Z : State} {h h' : Heap} {b : Addr} {al : Addr} (Y : own_It Z h b al) (E : Ext h h') : own_It Z h' b al := ⟨Y.1.ext E, Y.2.1.ext E, Y.2.2.ext E⟩
theorem own_It.other {Z : State} {h h' : Heap} {a' : Addr} {sl : Nat} {v' : Value} {b : Addr} {al : Addr} (Y : own_It Z h b al) (W : Wr h h' a' sl v') (q_b : b ≠ a') : own_It Z h' b al := ⟨Y.1.wr W, Y.2.1.other W (Or.inl q_b), Y.2.2.other W (Or.inl q_b)⟩
theorem own_It.keep {Z : State} {h h' : Heap} {ws : List Addr} {b : Addr} {al : Addr} (Y : own_It Z h b al) (K : Keep h h' ws) (q_b : b ∉ ws) : own_It Z h' b al := ⟨Y.1.keep K, Y.2.1.keep K q_b, Y.2.2.keep K q_b⟩
def own_M0 (Z : State) (h : Heap) (b : Addr) : Prop :=
  Exa Z h b zz4 ∧ Fld Z h b zz4 "table" zz44 .null ∧ Fld Z h b zz4 "size" "I" (.int (0 : Int32)) ∧ Fld Z h b zz4 "threshold" "I" (.int (0 : Int32)) ∧ Fld Z h b zz4 "modCount" "I" (.int (0 : Int32))
theorem own_M0.lt {Z : State} {h : Heap} {b : Addr} (Y : own_M0 Z h b) : b < h.size := Y.1.lt
theorem own_M0.ext {Z : State} {h h' : Heap} {b : Addr} (Y : own_M0 Z h b) (E : Ext h h') : own_M0 Z h' b := ⟨Y.1.ext E, Y.2.1.ext E, Y.2.2.1.ext E, Y.2.2.2.1.ext E, Y.2.2.2.2.ext E⟩
theorem own_M0.other {Z : State} {h h' : Heap} {a' : Addr} {sl : Nat} {v' : Value} {b : Addr} (Y : own_M0 Z h b) (W : Wr h h' a' sl v') (q_b : b ≠ a') : own_M0 Z h' b := ⟨Y.1.wr W, Y.2.1.other W (Or.inl q_b), Y.2.2.1.other W (Or.inl q_b), Y.2.2.2.1.other W (Or.inl q_b), Y.2.2.2.2.other W (Or.inl q_b)⟩
theorem own_M0.keep {Z : State} {h h' : Heap} {ws : List Addr} {b : Addr} (Y : own_M0 Z h b) (K : Keep h h' ws) (q_b : b ∉ ws) : own_M0 Z h' b := ⟨Y.1.keep K, Y.2.1.keep K q_b, Y.2.2.1.keep K q_b, Y.2.2.2.1.keep K q_b, Y.2.2.2.2.keep K q_b⟩
def own_Cd (Z : State) (h : Heap) (b cb al : Addr) : Prop :=
  Exa Z h b zz10 ∧ Fld Z h b zz10 "bytes" zz13 (.ref cb) ∧ Fld Z h b zz10 "targets" "Ljava/util/List;" (.ref al)
theorem own_Cd.lt {Z : State} {h : Heap} {b : Addr} {cb : Addr} {al : Addr} (Y : own_Cd Z h b cb al) : b < h.size := Y.1.lt
theorem own_Cd.ext {Z : State} {h h' : Heap} {b : Addr} {cb : Addr} {al : Addr} (Y : own_Cd Z h b cb al) (E : Ext h h') : own_Cd Z h' b cb al := ⟨Y.1.ext E, Y.2.1.ext E, Y.2.2.ext E⟩
theorem own_Cd.other {Z : State} {h h' : Heap} {a' : Addr} {sl : Nat} {v' : Value} {b : Addr} {cb : Addr} {al : Addr} (Y : own_Cd Z h b cb al) (W : Wr h h' a' sl v') (q_b : b ≠ a') : own_Cd Z h' b cb al := ⟨Y.1.wr W, Y.2.1.other W (Or.inl q_b), Y.2.2.other W (Or.inl q_b)⟩
theorem own_Cd.keep {Z : State} {h h' : Heap} {ws : List Addr} {b : Addr} {cb : Addr} {al : Addr} (Y : own_Cd Z h b cb al) (K : Keep h h' ws) (q_b : b ∉ ws) : own_Cd Z h' b cb al := ⟨Y.1.keep K, Y.2.1.keep K q_b, Y.2.2.keep K q_b⟩
def own_P0 (Z : State) (h : Heap) (b en mp : Addr) (cnt : Int32) : Prop :=
  Exa Z h b zz3 ∧ Fld Z h b zz3 "entries" zz13 (.ref en) ∧ Fld Z h b zz3 "numbers" "Ljava/util/Map;" (.ref mp) ∧ Fld Z h b zz3 "count" "I" (.int cnt)
theorem own_P0.lt {Z : State} {h : Heap} {b : Addr} {en : Addr} {mp : Addr} {cnt : Int32} (Y : own_P0 Z h b en mp cnt) : b < h.size := Y.1.lt
theorem own_P0.ext {Z : State} {h h' : Heap} {b : Addr} {en : Addr} {mp : Addr} {cnt : Int32} (Y : own_P0 Z h b en mp cnt) (E : Ext h h') : own_P0 Z h' b en mp cnt := ⟨Y.1.ext E, Y.2.1.ext E, Y.2.2.1.ext E, Y.2.2.2.ext E⟩
theorem own_P0.other {Z : State} {h h' : Heap} {a' : Addr} {sl : Nat} {v' : Value} {b : Addr} {en : Addr} {mp : Addr} {cnt : Int32} (Y : own_P0 Z h b en mp cnt) (W : Wr h h' a' sl v') (q_b : b ≠ a') : own_P0 Z h' b en mp cnt := ⟨Y.1.wr W, Y.2.1.other W (Or.inl q_b), Y.2.2.1.other W (Or.inl q_b), Y.2.2.2.other W (Or.inl q_b)⟩
theorem own_P0.keep {Z : State} {h h' : Heap} {ws : List Addr} {b : Addr} {en : Addr} {mp : Addr} {cnt : Int32} (Y : own_P0 Z h b en mp cnt) (K : Keep h h' ws) (q_b : b ∉ ws) : own_P0 Z h' b en mp cnt := ⟨Y.1.keep K, Y.2.1.keep K q_b, Y.2.2.1.keep K q_b, Y.2.2.2.keep K q_b⟩
def own_Wr (Z : State) (h : Heap) (b pl : Addr) (fi me : Addr) (na su : Addr) (mc : Int32) : Prop :=
  Exa Z h b zz5 ∧ Fld Z h b zz5 "pool" zz45 (.ref pl) ∧ Fld Z h b zz5 "fields" zz13 (.ref fi) ∧ Fld Z h b zz5 "methods" zz13 (.ref me) ∧ Fld Z h b zz5 "name" zz25 (.ref na) ∧ Fld Z h b zz5 "superName" zz25 (.ref su) ∧ Fld Z h b zz5 "methodCount" "I" (.int mc) ∧ Fld Z h b zz5 "fieldCount" "I" (.int (0 : Int32)) ∧ Fld Z h b zz5 "tooLarge" "Z" (.int (0 : Int32))
theorem own_Wr.lt {Z : State} {h : Heap} {b : Addr} {pl : Addr} {fi : Addr} {me : Addr} {na : Addr} {su : Addr} {mc : Int32} (Y : own_Wr Z h b pl fi me na su mc) : b < h.size := Y.1.lt
theorem own_Wr.ext {Z : State} {h h' : Heap} {b : Addr} {pl : Addr} {fi : Addr} {me : Addr} {na : Addr} {su : Addr} {mc : Int32} (Y : own_Wr Z h b pl fi me na su mc) (E : Ext h h') : own_Wr Z h' b pl fi me na su mc := ⟨Y.1.ext E, Y.2.1.ext E, Y.2.2.1.ext E, Y.2.2.2.1.ext E, Y.2.2.2.2.1.ext E, Y.2.2.2.2.2.1.ext E, Y.2.2.2.2.2.2.1.ext E, Y.2.2.2.2.2.2.2.1.ext E, Y.2.2.2.2.2.2.2.2.ext E⟩
theorem own_Wr.other {Z : State} {h h' : Heap} {a' : Addr} {sl : Nat} {v' : Value} {b : Addr} {pl : Addr} {fi : Addr} {me : Addr} {na : Addr} {su : Addr} {mc : Int32} (Y : own_Wr Z h b pl fi me na su mc) (W : Wr h h' a' sl v') (q_b : b ≠ a') : own_Wr Z h' b pl fi me na su mc := ⟨Y.1.wr W, Y.2.1.other W (Or.inl q_b), Y.2.2.1.other W (Or.inl q_b), Y.2.2.2.1.other W (Or.inl q_b), Y.2.2.2.2.1.other W (Or.inl q_b), Y.2.2.2.2.2.1.other W (Or.inl q_b), Y.2.2.2.2.2.2.1.other W (Or.inl q_b), Y.2.2.2.2.2.2.2.1.other W (Or.inl q_b), Y.2.2.2.2.2.2.2.2.other W (Or.inl q_b)⟩
theorem own_Wr.keep {Z : State} {h h' : Heap} {ws : List Addr} {b : Addr} {pl : Addr} {fi : Addr} {me : Addr} {na : Addr} {su : Addr} {mc : Int32} (Y : own_Wr Z h b pl fi me na su mc) (K : Keep h h' ws) (q_b : b ∉ ws) : own_Wr Z h' b pl fi me na su mc := ⟨Y.1.keep K, Y.2.1.keep K q_b, Y.2.2.1.keep K q_b, Y.2.2.2.1.keep K q_b, Y.2.2.2.2.1.keep K q_b, Y.2.2.2.2.2.1.keep K q_b, Y.2.2.2.2.2.2.1.keep K q_b, Y.2.2.2.2.2.2.2.1.keep K q_b, Y.2.2.2.2.2.2.2.2.keep K q_b⟩

theorem pn_3 : plainName "java/util/AbstractList" = true := by first | (simp [plainName, overriddenIn]; done) | decide +kernel
theorem pd_1 : parseMethodDescriptor "()V" = some ⟨[], none⟩ := by decide +kernel
def QrmABL (Z : State) (b : Addr) (ev : Value) (h0 : Heap) (n0 : Nat) (v : Option Value) (h : Heap) (L : List Loc) : Prop := v = none ∧ Fr n0 L ∧ Keep h0 h [b] ∧ own_Al Z h b ev
theorem rmABL (l : Launch) (Z : State) (a0 : Array Value) (hw : own_H a0 Z) (ws : List Jvm.Cond) (b : Addr) (ev : Value) (h0 : Heap) (n0 : Nat) (ZH : n0 ≤ h0.size) (Y_b : own_Al Z h0 b ev) (g_b : n0 ≤ b) :
    own_Met l Z yy44 jdk_39_method_1_code 1 none ws (own_R 2 0 0 24) #[(.ref b)] h0 (QrmABL Z b ev h0 n0) 0 0 := by
  refine own_hd (fr := #[.val (.ref b)]) (plainFor_of_name pn_3) (fun {p e s m below meth c s₁} B X0 e0 => ?_)
  have N0 := Fr.nil n0
  have KK := Keep.refl h0 [b]
  obtain ⟨E_b, F_size_b, F_modCount_b, F_elementData_b⟩ := Y_b
  refine g_aloadN (k := 0) (q := 1) B X0 dK rfl rfl rfl ?_
  refine g_callI (i := 1) (W := 0) (q := 4) (a := b) (argsL := []) (rest := []) B X0 (y := yy43) rfl (kw hw 95 rfl) (kw hw 96 rfl) (kw hw 99 rfl) (kw hw 100 rfl) dD e0 (rmAC l Z a0 hw [] b h0 n0 ZH) dK rfl rfl (lenOf pd_1 rfl) (Nat.le_of_eq rfl) rfl dD dD dD dD rfl (fun _ L1 T1 X1 hQ1 => ?_)
  obtain ⟨rfl, Nq1, e1⟩ := hQ1
  have N1 := Fr.app N0 Nq1
  refine g_aloadN (k := 0) (q := 5) B X1 dK rfl rfl rfl ?_
  refine g_iconst (o := 0) (q := 6) (v := 0) B X1 dK rfl rfl ?_
  refine g_putF (i := 7) (q := 9) B X1 (host := "") (Or.inl (kw hw 102 rfl)) Via.refl e1 F_modCount_b E_b (Or.inl (kw hw 103 rfl)) (kw hw 84 rfl) (ty := .int) dD rfl rfl dK rfl (fun T2 h2 X2 e2 W2 => ?_)
  have N2 := Fr.snoc X2 N1 g_b
  have F_modCount_b := F_modCount_b.same W2
  have E_b := E_b.wr W2
  have F_size_b := F_size_b.other W2 (Or.inr (slot_ne (Or.inl (kw hw 184 rfl)) (Or.inl (kw hw 103 rfl)) dD (t := .int) (t' := .int) dD dD))
  have F_elementData_b := F_elementData_b.other W2 (Or.inr (slot_ne (Or.inl (kw hw 106 rfl)) (Or.inl (kw hw 103 rfl)) dD (t := (.array (.object zz9))) (t' := .int) dD dD))
  have KK := KK.wr W2 (mi 0 rfl)
  exact g_ret B X2 dK dD dD e2 (by
    exact ⟨rfl, N2, KK, ⟨E_b, F_size_b, F_modCount_b, F_elementData_b⟩⟩)
theorem pn_4 : plainName "java/util/ArrayList" = true := by first | (simp [plainName, overriddenIn]; done) | decide +kernel
def QrmAL (Z : State) (cz : Int32) (fv : Value) (ev dg ca : Addr) (cg : Nat → Addr) (b : Addr) (h0 : Heap) (n0 : Nat) (v : Option Value) (h : Heap) (L : List Loc) : Prop := v = none ∧ Fr n0 L ∧ Keep h0 h [b] ∧ own_Al Z h b (.ref ev)
theorem rmAL (l : Launch) (Z : State) (a0 : Array Value) (hw : own_H a0 Z) (ws : List Jvm.Cond) (cz : Int32) (fv : Value) (ev dg ca : Addr) (cg : Nat → Addr) (b : Addr) (h0 : Heap) (n0 : Nat) (ZH : n0 ≤ h0.size) (OO : Old Z n0 h0) (HW : own_W Z cz fv ev dg ca cg) (Y_b : own_Al Z h0 b .null) (g_b : n0 ≤ b) :
    own_Met l Z yy45 jdk_38_method_2_code 1 none ws (own_R 3 0 0 36) #[(.ref b)] h0 (QrmAL Z cz fv ev dg ca cg b h0 n0) 0 0 := by
  refine own_hd (fr := #[.val (.ref b)]) (plainFor_of_name pn_4) (fun {p e s m below meth c s₁} B X0 e0 => ?_)
  have N0 := Fr.nil n0
  have KK := Keep.refl h0 [b]
  have HW0 := HW
  obtain ⟨SC, hcz, SF, hfv, SE, SD, GD, SH, SK2, GC, hcg⟩ := HW
  refine g_aloadN (k := 0) (q := 1) B X0 dK rfl rfl rfl ?_
  refine g_callI (i := 1) (W := 0) (q := 4) (a := b) (argsL := []) (rest := []) B X0 (y := yy44) rfl (kw hw 89 rfl) (kw hw 90 rfl) (kw hw 93 rfl) (kw hw 94 rfl) dD e0 (rmABL l Z a0 hw [] b .null h0 n0 ZH Y_b g_b) dK rfl rfl (lenOf pd_1 rfl) (Nat.le_of_eq rfl) rfl dD dD dD dD rfl (fun _ L1 T1 X1 hQ1 => ?_)
  obtain ⟨rfl, Nq1, K1, Yq1_0⟩ := hQ1
  have N1 := Fr.app N0 Nq1
  have KK := KK.trans K1 (allS (mi 0 rfl) all0)
  have OO := OO.keep K1 (allS g_b all0)
  have Y_b := Yq1_0
  obtain ⟨E_b, F_size_b, F_modCount_b, F_elementData_b⟩ := Y_b
  refine g_aloadN (k := 0) (q := 5) B X1 dK rfl rfl rfl ?_
  refine g_getS (i := 39) (q := 8) B X1 (host := "") (Or.inl (kw hw 104 rfl)) Via.refl rfl (SE.ext OO.2) dK rfl (fun T2 X2 e2 => ?_)
  refine g_putF (i := 9) (q := 11) B X2 (host := "") (Or.inl (kw hw 105 rfl)) Via.refl e2 F_elementData_b E_b (Or.inl (kw hw 106 rfl)) (kw hw 84 rfl) (ty := (.array (.object zz9))) dD rfl rfl dK rfl (fun T3 h3 X3 e3 W3 => ?_)
  have N3 := Fr.snoc X3 N1 g_b
  have F_elementData_b := F_elementData_b.same W3
  have E_b := E_b.wr W3
  have F_size_b := F_size_b.other W3 (Or.inr (slot_ne (Or.inl (kw hw 184 rfl)) (Or.inl (kw hw 106 rfl)) dD (t := .int) (t' := (.array (.object zz9))) dD dD))
  have F_modCount_b := F_modCount_b.other W3 (Or.inr (slot_ne (Or.inl (kw hw 103 rfl)) (Or.inl (kw hw 106 rfl)) dD (t := .int) (t' := (.array (.object zz9))) dD dD))
  have KK := KK.wr W3 (mi 0 rfl)
  exact g_ret B X3 dK dD dD e3 (by
    exact ⟨rfl, N3, KK, ⟨E_b, F_size_b, F_modCount_b, F_elementData_b⟩⟩)
theorem pn_5 : plainName "java/util/ArrayList$Itr" = true := by first | (simp [plainName, overriddenIn]; done) | decide +kernel
def QrmIi (Z : State) (b al : Addr) (ev : Value) (h0 : Heap) (n0 : Nat) (v : Option Value) (h : Heap) (L : List Loc) : Prop := v = none ∧ Fr n0 L ∧ Keep h0 h [b] ∧ own_It Z h b al
theorem rmIi (l : Launch) (Z : State) (a0 : Array Value) (hw : own_H a0 Z) (ws : List Jvm.Cond) (b al : Addr) (ev : Value) (h0 : Heap) (n0 : Nat) (ZH : n0 ≤ h0.size) (Y_al : own_Al Z h0 al ev) (ne_b_al : b ≠ al) (E_b : Exa Z h0 b zz12) (F_this_0_b : Fld Z h0 b zz12 "this$0" zz43 .null) (F_cursor_b : Fld Z h0 b zz12 "cursor" "I" (.int (0 : Int32))) (F_lastRet_b : Fld Z h0 b zz12 "lastRet" "I" (.int (0 : Int32))) (F_expectedModCount_b : Fld Z h0 b zz12 "expectedModCount" "I" (.int (0 : Int32))) (g_b : n0 ≤ b) :
    own_Met l Z yy46 jdk_49_method_1_code 2 none ws (own_R 1 0 0 12) #[(.ref b), (.ref al)] h0 (QrmIi Z b al ev h0 n0) 0 0 := by
  refine own_hd (fr := #[.val (.ref b), .val (.ref al)]) (plainFor_of_name pn_5) (fun {p e s m below meth c s₁} B X0 e0 => ?_)
  have N0 := Fr.nil n0
  have KK := Keep.refl h0 [b]
  refine g_aloadN (k := 0) (q := 1) B X0 dK rfl rfl rfl ?_
  refine g_aloadN (k := 1) (q := 2) B X0 dK rfl rfl rfl ?_
  refine g_putF (i := 1) (q := 5) B X0 (host := "") (Or.inl (kw hw 163 rfl)) Via.refl e0 F_this_0_b E_b (Or.inr ⟨(kw hw 164 rfl), rfl, B.hnm⟩) (kw hw 157 rfl) (ty := (.object zz11)) dD rfl rfl dK rfl (fun T1 h1 X1 e1 W1 => ?_)
  have N1 := Fr.snoc X1 N0 g_b
  have F_this_0_b := F_this_0_b.same W1
  have Y_al := Y_al.other W1 (Ne.symm ne_b_al)
  have E_b := E_b.wr W1
  have F_cursor_b := F_cursor_b.other W1 (Or.inr (slot_ne (Or.inl (kw hw 182 rfl)) (Or.inr (kw hw 164 rfl)) dD (t := .int) (t' := (.object zz11)) dD dD))
  have F_lastRet_b := F_lastRet_b.other W1 (Or.inr (slot_ne (Or.inl (kw hw 167 rfl)) (Or.inr (kw hw 164 rfl)) dD (t := .int) (t' := (.object zz11)) dD dD))
  have F_expectedModCount_b := F_expectedModCount_b.other W1 (Or.inr (slot_ne (Or.inl (kw hw 171 rfl)) (Or.inr (kw hw 164 rfl)) dD (t := .int) (t' := (.object zz11)) dD dD))
  have KK := KK.wr W1 (mi 0 rfl)
  refine g_aloadN (k := 0) (q := 6) B X1 dK rfl rfl rfl ?_
  refine g_initO (i := 7) (W := 0) (q := 9) B X1 (kw hw 165 rfl) (kw hw 16 rfl) (kw hw 17 rfl) e1 dK rfl dD dD dD rfl (fun T2 X2 e2 => ?_)
  refine g_aloadN (k := 0) (q := 10) B X2 dK rfl rfl rfl ?_
  refine g_iconst (o := -1) (q := 11) (v := -1) B X2 dK rfl rfl ?_
  refine g_putF (i := 13) (q := 14) B X2 (host := "") (Or.inl (kw hw 166 rfl)) Via.refl e2 F_lastRet_b E_b (Or.inl (kw hw 167 rfl)) (kw hw 157 rfl) (ty := .int) dD rfl rfl dK rfl (fun T3 h3 X3 e3 W3 => ?_)
  have N3 := Fr.snoc X3 N1 g_b
  have Y_al := Y_al.other W3 (Ne.symm ne_b_al)
  have E_b := E_b.wr W3
  have F_this_0_b := F_this_0_b.other W3 (Or.inr (slot_ne (Or.inr (kw hw 164 rfl)) (Or.inl (kw hw 167 rfl)) dD (t := (.object zz11)) (t' := .int) dD dD))
  have F_cursor_b := F_cursor_b.other W3 (Or.inr (slot_ne (Or.inl (kw hw 182 rfl)) (Or.inl (kw hw 167 rfl)) dD (t := .int) (t' := .int) dD dD))
  have F_expectedModCount_b := F_expectedModCount_b.other W3 (Or.inr (slot_ne (Or.inl (kw hw 171 rfl)) (Or.inl (kw hw 167 rfl)) dD (t := .int) (t' := .int) dD dD))
  have KK := KK.wr W3 (mi 0 rfl)
  refine g_aloadN (k := 0) (q := 15) B X3 dK rfl rfl rfl ?_
  refine g_aloadN (k := 0) (q := 16) B X3 dK rfl rfl rfl ?_
  refine g_getF (i := 1) (q := 19) B X3 (host := "") (Or.inl (kw hw 163 rfl)) Via.refl e3 F_this_0_b dK rfl (fun T4 X4 e4 => ?_)
  refine g_getF (i := 17) (q := 22) B X4 (host := "") (Or.inl (kw hw 168 rfl)) (Via.of (kw hw 169 rfl)) e4 Y_al.2.2.1 dK rfl (fun T5 X5 e5 => ?_)
  refine g_putF (i := 22) (q := 25) B X5 (host := "") (Or.inl (kw hw 170 rfl)) Via.refl e5 F_expectedModCount_b E_b (Or.inl (kw hw 171 rfl)) (kw hw 157 rfl) (ty := .int) dD rfl rfl dK rfl (fun T6 h6 X6 e6 W6 => ?_)
  have N6 := Fr.snoc X6 N3 g_b
  have E_b := E_b.wr W6
  have F_this_0_b := F_this_0_b.other W6 (Or.inr (slot_ne (Or.inr (kw hw 164 rfl)) (Or.inl (kw hw 171 rfl)) dD (t := (.object zz11)) (t' := .int) dD dD))
  have F_cursor_b := F_cursor_b.other W6 (Or.inr (slot_ne (Or.inl (kw hw 182 rfl)) (Or.inl (kw hw 171 rfl)) dD (t := .int) (t' := .int) dD dD))
  have KK := KK.wr W6 (mi 0 rfl)
  exact g_ret B X6 dK dD dD e6 (by
    exact ⟨rfl, N6, KK, E_b, F_this_0_b, F_cursor_b⟩)
theorem pd_2 : parseMethodDescriptor "(Ljava/util/ArrayList;)V" = some ⟨[(.object "java/util/ArrayList")], none⟩ := by decide +kernel
def QrmIt (Z : State) (al : Addr) (ev : Value) (h0 : Heap) (n0 : Nat) (v : Option Value) (h : Heap) (L : List Loc) : Prop := ∃ b : Addr, v = some (.ref b) ∧ Fr n0 L ∧ Keep h0 h [] ∧ h0.size ≤ b ∧ own_It Z h b al
theorem rmIt (l : Launch) (Z : State) (a0 : Array Value) (hw : own_H a0 Z) (ws : List Jvm.Cond) (al : Addr) (ev : Value) (h0 : Heap) (n0 : Nat) (ZH : n0 ≤ h0.size) (Y_al : own_Al Z h0 al ev) :
    own_Met l Z yy47 jdk_38_method_55_code 1 (some (.object "java/util/Iterator")) ws (own_R 2 1 4 26) #[(.ref al)] h0 (QrmIt Z al ev h0 n0) 1 4 := by
  refine own_hd (fr := #[.val (.ref al)]) (plainFor_of_name pn_4) (fun {p e s m below meth c s₁} B X0 e0 => ?_)
  have N0 := Fr.nil n0
  have KK := Keep.refl h0 []
  refine g_new (i := 267) (q := 3) B X0 (kw hw 156 rfl) (kw hw 157 rfl) (kw hw 158 rfl) e0 dK dD dD rfl (fun b1 T1 h1 gz1 X1 e1 E1 A1 D1 => ?_)
  have ne_al_b1 := nl Y_al.lt gz1
  have g_b1 := gl ZH gz1
  have sz_b1 := gl KK.1 gz1
  have Y_al := Y_al.ext E1
  have ZH := Nat.le_trans ZH E1.1
  have KK := KK.ext E1
  have E_b1 := A1
  have F_this_0_b1 : Fld Z h1 b1 zz12 "this$0" zz43 .null := D1 (Or.inr (kw hw 164 rfl)) (ty := (.object zz11)) dD
  have F_lastRet_b1 : Fld Z h1 b1 zz12 "lastRet" "I" (.int (0 : Int32)) := D1 (Or.inl (kw hw 167 rfl)) (ty := .int) dD
  have F_expectedModCount_b1 : Fld Z h1 b1 zz12 "expectedModCount" "I" (.int (0 : Int32)) := D1 (Or.inl (kw hw 171 rfl)) (ty := .int) dD
  have F_cursor_b1 : Fld Z h1 b1 zz12 "cursor" "I" (.int (0 : Int32)) := D1 (Or.inl (kw hw 182 rfl)) (ty := .int) dD
  refine g_dup (q := 4) B X1 dK rfl rfl ?_
  refine g_aloadN (k := 0) (q := 5) B X1 dK rfl rfl rfl ?_
  refine g_callI (i := 269) (W := 1) (q := 8) (a := b1) (argsL := [(.ref al)]) (rest := [(.ref b1)]) B X1 (y := yy46) rfl (kw hw 159 rfl) (kw hw 160 rfl) (kw hw 158 rfl) (kw hw 162 rfl) dD e1 (rmIi l Z a0 hw [] b1 al ev h1 n0 ZH Y_al (Ne.symm ne_al_b1) E_b1 F_this_0_b1 F_cursor_b1 F_lastRet_b1 F_expectedModCount_b1 g_b1) dK rfl rfl (lenOf pd_2 rfl) (Nat.le_of_eq rfl) rfl dD dD dD dD rfl (fun _ L2 T2 X2 hQ2 => ?_)
  obtain ⟨rfl, Nq2, K2, Yq2_0⟩ := hQ2
  have N2 := Fr.app N0 Nq2
  have KK := KK.trans K2 (allS (Or.inr sz_b1) all0)
  have Y_it := Yq2_0
  exact g_retA B X2 rfl rfl rfl dK dD dD rfl (by
    exact ⟨b1, rfl, N2, KK, sz_b1, Y_it⟩)
def QrmHN (Z : State) (b al : Addr) (ev : Value) (h0 : Heap) (n0 : Nat) (v : Option Value) (h : Heap) (L : List Loc) : Prop := v = some (.int (0 : Int32)) ∧ Fr n0 L ∧ h = h0
theorem rmHN (l : Launch) (Z : State) (a0 : Array Value) (hw : own_H a0 Z) (ws : List Jvm.Cond) (b al : Addr) (ev : Value) (h0 : Heap) (n0 : Nat) (ZH : n0 ≤ h0.size) (Y_it : own_It Z h0 b al) (Y_al : own_Al Z h0 al ev) :
    own_Met l Z yy48 jdk_49_method_2_code 1 (some .boolean) ws (own_R 0 0 0 0) #[(.ref b)] h0 (QrmHN Z b al ev h0 n0) 0 0 := by
  refine own_hd (fr := #[.val (.ref b)]) (plainFor_of_name pn_5) (fun {p e s m below meth c s₁} B X0 e0 => ?_)
  have N0 := Fr.nil n0
  refine g_aloadN (k := 0) (q := 1) B X0 dK rfl rfl rfl ?_
  refine g_getF (i := 25) (q := 4) B X0 (host := "") (Or.inl (kw hw 181 rfl)) Via.refl e0 Y_it.2.2 dK rfl (fun T1 X1 e1 => ?_)
  refine g_aloadN (k := 0) (q := 5) B X1 dK rfl rfl rfl ?_
  refine g_getF (i := 1) (q := 8) B X1 (host := "") (Or.inl (kw hw 163 rfl)) Via.refl e1 Y_it.2.1 dK rfl (fun T2 X2 e2 => ?_)
  refine g_getF (i := 28) (q := 11) B X2 (Or.inr (kw hw 183 rfl)) Via.refl e2 Y_al.2.1 dK rfl (fun T3 X3 e3 => ?_)
  refine g_icmpYes (cd := .eq) (o := 7) (q := 18) B X3 dK ((teq (by decide : (0 : Int32) = (0 : Int32))).1) dD dD ?_
  refine g_iconst (o := 0) (q := 19) (v := 0) B X3 dK rfl rfl ?_
  exact g_retN B X3 (by simp) dK dD dD e3 (by
    exact ⟨rfl, N0, rfl⟩)
def QrmIE (Z : State) (al : Addr) (ev : Value) (h0 : Heap) (n0 : Nat) (v : Option Value) (h : Heap) (L : List Loc) : Prop := v = some (.int (1 : Int32)) ∧ Fr n0 L ∧ h = h0
theorem rmIE (l : Launch) (Z : State) (a0 : Array Value) (hw : own_H a0 Z) (ws : List Jvm.Cond) (al : Addr) (ev : Value) (h0 : Heap) (n0 : Nat) (ZH : n0 ≤ h0.size) (Y_al : own_Al Z h0 al ev) :
    own_Met l Z yy27 jdk_38_method_9_code 1 (some .boolean) ws (own_R 0 0 0 0) #[(.ref al)] h0 (QrmIE Z al ev h0 n0) 0 0 := by
  refine own_hd (fr := #[.val (.ref al)]) (plainFor_of_name pn_4) (fun {p e s m below meth c s₁} B X0 e0 => ?_)
  have N0 := Fr.nil n0
  refine g_aloadN (k := 0) (q := 1) B X0 dK rfl rfl rfl ?_
  refine g_getF (i := 48) (q := 4) B X0 (host := "") (Or.inl (kw hw 493 rfl)) Via.refl e0 Y_al.2.1 dK rfl (fun T1 X1 e1 => ?_)
  refine g_ifNo (cd := .ne) (o := 7) (q := 7) B X1 dK (((if0 _ _).trans (teq (by decide : (0 : Int32) = (0 : Int32))).2)) rfl ?_
  refine g_iconst (o := 1) (q := 8) (v := 1) B X1 dK rfl rfl ?_
  refine g_goto (o := 4) (q := 12) B X1 dK dD dD ?_
  exact g_retN B X1 (by simp) dK dD dD e1 (by
    exact ⟨rfl, N0, rfl⟩)
theorem pn_6 : plainName "java/util/Objects" = true := by first | (simp [plainName, overriddenIn]; done) | decide +kernel
def QrmRN (Z : State) (b : Addr) (h0 : Heap) (n0 : Nat) (v : Option Value) (h : Heap) (L : List Loc) : Prop := v = some (.ref b) ∧ Fr n0 L ∧ h = h0
theorem rmRN (l : Launch) (Z : State) (a0 : Array Value) (hw : own_H a0 Z) (ws : List Jvm.Cond) (b : Addr) (h0 : Heap) (n0 : Nat) (ZH : n0 ≤ h0.size) :
    own_Met l Z yy49 jdk_31_method_10_code 1 (some (.object zz9)) ws (own_R 0 0 0 0) #[(.ref b)] h0 (QrmRN Z b h0 n0) 0 0 := by
  refine own_hd (fr := #[.val (.ref b)]) (plainFor_of_name pn_6) (fun {p e s m below meth c s₁} B X0 e0 => ?_)
  have N0 := Fr.nil n0
  refine g_aloadN (k := 0) (q := 1) B X0 dK rfl rfl rfl ?_
  refine g_ifnonnullYes (o := 11) (q := 12) B X0 dK dD dD ?_
  refine g_aloadN (k := 0) (q := 13) B X0 dK rfl rfl rfl ?_
  exact g_retA B X0 rfl rfl rfl dK dD dD e0 (by
    exact ⟨rfl, N0, rfl⟩)
theorem pn_7 : plainName "java/util/HashMap" = true := by first | (simp [plainName, overriddenIn]; done) | decide +kernel
def QrmHM (Z : State) (b : Addr) (h0 : Heap) (n0 : Nat) (v : Option Value) (h : Heap) (L : List Loc) : Prop := v = none ∧ Fr n0 L ∧ Keep h0 h [b] ∧ own_M0 Z h b
theorem rmHM (l : Launch) (Z : State) (a0 : Array Value) (hw : own_H a0 Z) (ws : List Jvm.Cond) (b : Addr) (h0 : Heap) (n0 : Nat) (ZH : n0 ≤ h0.size) (Y_b : own_M0 Z h0 b) (F_loadFactor_b : Fld Z h0 b zz4 "loadFactor" "F" (.float (0 : UInt32))) (g_b : n0 ≤ b) :
    own_Met l Z yy50 jdk_69_method_7_code 1 none ws (own_R 2 0 0 24) #[(.ref b)] h0 (QrmHM Z b h0 n0) 0 0 := by
  refine own_hd (fr := #[.val (.ref b)]) (plainFor_of_name pn_7) (fun {p e s m below meth c s₁} B X0 e0 => ?_)
  have N0 := Fr.nil n0
  have KK := Keep.refl h0 [b]
  obtain ⟨E_b, F_table_b, F_size_b, F_threshold_b, F_modCount_b⟩ := Y_b
  refine g_aloadN (k := 0) (q := 1) B X0 dK rfl rfl rfl ?_
  refine g_callI (i := 43) (W := 0) (q := 4) (a := b) (argsL := []) (rest := []) B X0 (y := yy42) rfl (kw hw 42 rfl) (kw hw 43 rfl) (kw hw 46 rfl) (kw hw 47 rfl) dD e0 (rmAM l Z a0 hw [] b h0 n0 ZH) dK rfl rfl (lenOf pd_1 rfl) (Nat.le_of_eq rfl) rfl dD dD dD dD rfl (fun _ L1 T1 X1 hQ1 => ?_)
  obtain ⟨rfl, Nq1, e1⟩ := hQ1
  have N1 := Fr.app N0 Nq1
  refine g_aloadN (k := 0) (q := 5) B X1 dK rfl rfl rfl ?_
  refine g_ldcF (i := 92) (q := 7) B X1 (kw hw 49 rfl) dK rfl ?_
  refine g_putF (i := 81) (q := 10) B X1 (host := "") (Or.inl (kw hw 50 rfl)) Via.refl e1 F_loadFactor_b E_b (Or.inr ⟨(kw hw 51 rfl), rfl, B.hnm⟩) (kw hw 37 rfl) (ty := .float) dD rfl rfl dK rfl (fun T2 h2 X2 e2 W2 => ?_)
  have N2 := Fr.snoc X2 N1 g_b
  have E_b := E_b.wr W2
  have F_table_b := F_table_b.other W2 (Or.inr (slot_ne (Or.inl (kw hw 348 rfl)) (Or.inr (kw hw 51 rfl)) dD (t := (.array (.object zz6))) (t' := .float) dD dD))
  have F_size_b := F_size_b.other W2 (Or.inr (slot_ne (Or.inl (kw hw 471 rfl)) (Or.inr (kw hw 51 rfl)) dD (t := .int) (t' := .float) dD dD))
  have F_threshold_b := F_threshold_b.other W2 (Or.inr (slot_ne (Or.inl (kw hw 445 rfl)) (Or.inr (kw hw 51 rfl)) dD (t := .int) (t' := .float) dD dD))
  have F_modCount_b := F_modCount_b.other W2 (Or.inr (slot_ne (Or.inl (kw hw 469 rfl)) (Or.inr (kw hw 51 rfl)) dD (t := .int) (t' := .float) dD dD))
  have KK := KK.wr W2 (mi 0 rfl)
  exact g_ret B X2 dK dD dD e2 (by
    exact ⟨rfl, N2, KK, ⟨E_b, F_table_b, F_size_b, F_threshold_b, F_modCount_b⟩⟩)
theorem pn_8 : plainName "com/example/eurydice/eurydice/model/ClassFileWriter$Pool" = true := by first | (simp [plainName, overriddenIn]; done) | decide +kernel
def QrmPi (Z : State) (b : Addr) (h0 : Heap) (n0 : Nat) (v : Option Value) (h : Heap) (L : List Loc) : Prop := v = none ∧ Fr n0 L ∧ Keep h0 h [b] ∧ ∃ en te mp : Addr, own_P0 Z h b en mp (0 : Int32) ∧ own_By Z h en te [] ∧ own_M0 Z h mp ∧ own_Nd [en, te, mp] ∧ ∀ x ∈ [en, te, mp], h0.size ≤ x
theorem rmPi (l : Launch) (Z : State) (a0 : Array Value) (hw : own_H a0 Z) (ws : List Jvm.Cond) (b : Addr) (h0 : Heap) (n0 : Nat) (ZH : n0 ≤ h0.size) (E_b : Exa Z h0 b zz3) (F_entries_b : Fld Z h0 b zz3 "entries" zz13 .null) (F_numbers_b : Fld Z h0 b zz3 "numbers" "Ljava/util/Map;" .null) (F_count_b : Fld Z h0 b zz3 "count" "I" (.int (0 : Int32))) (g_b : n0 ≤ b) :
    own_Met l Z yy51 prog_83_method_1_code 1 none ws (own_R 3 3 266 38) #[(.ref b)] h0 (QrmPi Z b h0 n0) 3 266 := by
  refine own_hd (fr := #[.val (.ref b)]) (plainFor_of_name pn_8) (fun {p e s m below meth c s₁} B X0 e0 => ?_)
  have N0 := Fr.nil n0
  have KK := Keep.refl h0 [b]
  refine g_aloadN (k := 0) (q := 1) B X0 dK rfl rfl rfl ?_
  refine g_initO (i := 1) (W := 0) (q := 4) B X0 (kw hw 24 rfl) (kw hw 16 rfl) (kw hw 17 rfl) e0 dK rfl dD dD dD rfl (fun T1 X1 e1 => ?_)
  refine g_aloadN (k := 0) (q := 5) B X1 dK rfl rfl rfl ?_
  refine g_new (i := 7) (q := 8) B X1 (kw hw 25 rfl) (kw hw 26 rfl) (kw hw 27 rfl) e1 dK dD dD rfl (fun b2 T2 h2 gz2 X2 e2 E2 A2 D2 => ?_)
  have ne_b_b2 := nl E_b.lt gz2
  have g_b2 := gl ZH gz2
  have sz_b2 := gl KK.1 gz2
  have E_b := E_b.ext E2
  have F_entries_b := F_entries_b.ext E2
  have F_numbers_b := F_numbers_b.ext E2
  have F_count_b := F_count_b.ext E2
  have ZH := Nat.le_trans ZH E2.1
  have KK := KK.ext E2
  have E_b2 := A2
  have F_bytes_b2 : Fld Z h2 b2 zz0 "bytes" "[B" .null := D2 (Or.inl (kw hw 33 rfl)) (ty := (.array .byte)) dD
  have F_size_b2 : Fld Z h2 b2 zz0 "size" "I" (.int (0 : Int32)) := D2 (Or.inl (kw hw 120 rfl)) (ty := .int) dD
  refine g_dup (q := 9) B X2 dK rfl rfl ?_
  have kk3 := KK.1
  have lt3_b := E_b.lt
  have lt3_b2 := E_b2.lt
  refine g_callIN (i := 9) (W := 2) (q := 12) (a := b2) (argsL := []) (rest := [(.ref b2), (.ref b)]) B X2 (y := yy3) rfl (Cond.methodLinkNest_wide B.hZ (kw hw 28 rfl) :) (kw hw 29 rfl) (kw hw 27 rfl) (kw hw 30 rfl) dD e2 (rmBi l Z a0 hw [] b2 h2 n0 ZH E_b2 F_bytes_b2 F_size_b2 g_b2) dK rfl rfl (lenOf pd_1 rfl) (Nat.le_of_eq rfl) rfl dD dD dD dD rfl (fun _ L3 T3 X3 hQ3 => ?_)
  obtain ⟨rfl, Nq3, K3, tb2, szq3, Yq3⟩ := hQ3
  have N3 := Fr.app N0 Nq3
  have E_b := E_b.keep K3
  have F_entries_b := F_entries_b.keep K3 (ninS ne_b_b2 nin0)
  have F_numbers_b := F_numbers_b.keep K3 (ninS ne_b_b2 nin0)
  have F_count_b := F_count_b.keep K3 (ninS ne_b_b2 nin0)
  have ZH := Nat.le_trans ZH K3.1
  have KK := KK.trans K3 (allS (Or.inr sz_b2) all0)
  have Y_b2 := Yq3
  have ne_b_tb2 := nz lt3_b szq3
  have ne_b2_tb2 := nz lt3_b2 szq3
  have sz_tb2 := Nat.le_trans kk3 szq3
  have I_tb2 := Y_b2.in_tb
  refine g_putF (i := 10) (q := 15) B X3 (host := "") (Or.inl (kw hw 34 rfl)) Via.refl rfl F_entries_b E_b (Or.inr ⟨(kw hw 35 rfl), rfl, B.hnm⟩) (kw hw 19 rfl) (ty := (.object zz0)) dD rfl rfl dK rfl (fun T4 h4 X4 e4 W4 => ?_)
  have N4 := Fr.snoc X4 N3 g_b
  have F_entries_b := F_entries_b.same W4
  have Y_b2 := Y_b2.other W4 (Ne.symm ne_b_b2) (Ne.symm ne_b_tb2)
  have E_b := E_b.wr W4
  have F_numbers_b := F_numbers_b.other W4 (Or.inr (slot_ne (Or.inr (kw hw 53 rfl)) (Or.inr (kw hw 35 rfl)) dD (t := (.object zz15)) (t' := (.object zz0)) dD dD))
  have F_count_b := F_count_b.other W4 (Or.inr (slot_ne (Or.inl (kw hw 394 rfl)) (Or.inr (kw hw 35 rfl)) dD (t := .int) (t' := (.object zz0)) dD dD))
  have I_tb2 := I_tb2.wr W4
  have ZH := Nat.le_trans ZH (Nat.le_of_eq W4.size.symm)
  have KK := KK.wr W4 (mi 0 rfl)
  refine g_aloadN (k := 0) (q := 16) B X4 dK rfl rfl rfl ?_
  refine g_new (i := 16) (q := 19) B X4 (kw hw 36 rfl) (kw hw 37 rfl) (kw hw 38 rfl) e4 dK dD dD rfl (fun b5 T5 h5 gz5 X5 e5 E5 A5 D5 => ?_)
  have ne_b_b5 := nl E_b.lt gz5
  have ne_b2_b5 := nl Y_b2.lt gz5
  have ne_tb2_b5 := nl I_tb2.lt gz5
  have g_b5 := gl ZH gz5
  have sz_b5 := gl KK.1 gz5
  have Y_b2 := Y_b2.ext E5
  have E_b := E_b.ext E5
  have F_entries_b := F_entries_b.ext E5
  have F_numbers_b := F_numbers_b.ext E5
  have F_count_b := F_count_b.ext E5
  have ZH := Nat.le_trans ZH E5.1
  have KK := KK.ext E5
  have E_b5 := A5
  have F_loadFactor_b5 : Fld Z h5 b5 zz4 "loadFactor" "F" (.float (0 : UInt32)) := D5 (Or.inr (kw hw 51 rfl)) (ty := .float) dD
  have F_table_b5 : Fld Z h5 b5 zz4 "table" zz44 .null := D5 (Or.inl (kw hw 348 rfl)) (ty := (.array (.object zz6))) dD
  have F_threshold_b5 : Fld Z h5 b5 zz4 "threshold" "I" (.int (0 : Int32)) := D5 (Or.inl (kw hw 445 rfl)) (ty := .int) dD
  have F_modCount_b5 : Fld Z h5 b5 zz4 "modCount" "I" (.int (0 : Int32)) := D5 (Or.inl (kw hw 469 rfl)) (ty := .int) dD
  have F_size_b5 : Fld Z h5 b5 zz4 "size" "I" (.int (0 : Int32)) := D5 (Or.inl (kw hw 471 rfl)) (ty := .int) dD
  refine g_dup (q := 20) B X5 dK rfl rfl ?_
  refine g_callI (i := 18) (W := 2) (q := 23) (a := b5) (argsL := []) (rest := [(.ref b5), (.ref b)]) B X5 (y := yy50) rfl (kw hw 39 rfl) (kw hw 40 rfl) (kw hw 38 rfl) (kw hw 41 rfl) dD e5 (rmHM l Z a0 hw [] b5 h5 n0 ZH ⟨E_b5, F_table_b5, F_size_b5, F_threshold_b5, F_modCount_b5⟩ F_loadFactor_b5 g_b5) dK rfl rfl (lenOf pd_1 rfl) (Nat.le_of_eq rfl) rfl dD dD dD dD rfl (fun _ L6 T6 X6 hQ6 => ?_)
  obtain ⟨rfl, Nq6, K6, Yq6_0⟩ := hQ6
  have N6 := Fr.app N4 Nq6
  have Y_b2 := Y_b2.keep K6 (ninS ne_b2_b5 nin0) (ninS ne_tb2_b5 nin0)
  have E_b := E_b.keep K6
  have F_entries_b := F_entries_b.keep K6 (ninS ne_b_b5 nin0)
  have F_numbers_b := F_numbers_b.keep K6 (ninS ne_b_b5 nin0)
  have F_count_b := F_count_b.keep K6 (ninS ne_b_b5 nin0)
  have KK := KK.trans K6 (allS (Or.inr sz_b5) all0)
  have Y_b5 := Yq6_0
  refine g_putF (i := 19) (q := 26) B X6 (host := "") (Or.inl (kw hw 52 rfl)) Via.refl rfl F_numbers_b E_b (Or.inr ⟨(kw hw 53 rfl), rfl, B.hnm⟩) (kw hw 19 rfl) (ty := (.object zz15)) dD rfl rfl dK rfl (fun T7 h7 X7 e7 W7 => ?_)
  have N7 := Fr.snoc X7 N6 g_b
  have F_numbers_b := F_numbers_b.same W7
  have Y_b2 := Y_b2.other W7 (Ne.symm ne_b_b2) (Ne.symm ne_b_tb2)
  have Y_b5 := Y_b5.other W7 (Ne.symm ne_b_b5)
  have E_b := E_b.wr W7
  have F_entries_b := F_entries_b.other W7 (Or.inr (slot_ne (Or.inr (kw hw 35 rfl)) (Or.inr (kw hw 53 rfl)) dD (t := (.object zz0)) (t' := (.object zz15)) dD dD))
  have F_count_b := F_count_b.other W7 (Or.inr (slot_ne (Or.inl (kw hw 394 rfl)) (Or.inr (kw hw 53 rfl)) dD (t := .int) (t' := (.object zz15)) dD dD))
  have KK := KK.wr W7 (mi 0 rfl)
  exact g_ret B X7 dK dD dD e7 (by
    exact ⟨rfl, N7, KK, b2, tb2, b5, ⟨E_b, F_entries_b, F_numbers_b, F_count_b⟩, Y_b2, Y_b5, ⟨(allS ne_b2_tb2 (allS ne_b2_b5 all0)), ⟨(allS ne_tb2_b5 all0), ⟨all0, trivial⟩⟩⟩, (allS sz_b2 (allS sz_tb2 (allS sz_b5 all0)))⟩)
theorem pn_9 : plainName "com/example/eurydice/eurydice/model/ClassFileWriter$Code" = true := by first | (simp [plainName, overriddenIn]; done) | decide +kernel
def QrmCi (Z : State) (cz : Int32) (fv : Value) (ev dg ca : Addr) (cg : Nat → Addr) (b wr : Addr) (h0 : Heap) (n0 : Nat) (v : Option Value) (h : Heap) (L : List Loc) : Prop := v = none ∧ Fr n0 L ∧ Keep h0 h [b] ∧ ∃ cb tc al : Addr, own_Cd Z h b cb al ∧ own_By Z h cb tc [] ∧ own_Al Z h al (.ref ev) ∧ own_Nd [cb, tc, al] ∧ ∀ x ∈ [cb, tc, al], h0.size ≤ x
theorem rmCi (l : Launch) (Z : State) (a0 : Array Value) (hw : own_H a0 Z) (ws : List Jvm.Cond) (cz : Int32) (fv : Value) (ev dg ca : Addr) (cg : Nat → Addr) (b wr : Addr) (h0 : Heap) (n0 : Nat) (ZH : n0 ≤ h0.size) (OO : Old Z n0 h0) (HW : own_W Z cz fv ev dg ca cg) (E_b : Exa Z h0 b zz10) (F_this_0_b : Fld Z h0 b zz10 "this$0" zz54 .null) (F_bytes_b : Fld Z h0 b zz10 "bytes" zz13 .null) (F_targets_b : Fld Z h0 b zz10 "targets" "Ljava/util/List;" .null) (g_b : n0 ≤ b) :
    own_Met l Z yy52 prog_82_method_1_code 2 none ws (own_R 4 3 261 50) #[(.ref b), (.ref wr)] h0 (QrmCi Z cz fv ev dg ca cg b wr h0 n0) 3 261 := by
  refine own_hd (fr := #[.val (.ref b), .val (.ref wr)]) (plainFor_of_name pn_9) (fun {p e s m below meth c s₁} B X0 e0 => ?_)
  have N0 := Fr.nil n0
  have KK := Keep.refl h0 [b]
  refine g_aloadN (k := 0) (q := 1) B X0 dK rfl rfl rfl ?_
  refine g_aloadN (k := 1) (q := 2) B X0 dK rfl rfl rfl ?_
  refine g_putF (i := 3) (q := 5) B X0 (host := "") (Or.inl (kw hw 76 rfl)) Via.refl e0 F_this_0_b E_b (Or.inr ⟨(kw hw 77 rfl), rfl, B.hnm⟩) (kw hw 67 rfl) (ty := (.object zz5)) dD rfl rfl dK rfl (fun T1 h1 X1 e1 W1 => ?_)
  have N1 := Fr.snoc X1 N0 g_b
  have E_b := E_b.wr W1
  have F_bytes_b := F_bytes_b.other W1 (Or.inr (slot_ne (Or.inr (kw hw 82 rfl)) (Or.inr (kw hw 77 rfl)) dD (t := (.object zz0)) (t' := (.object zz5)) dD dD))
  have F_targets_b := F_targets_b.other W1 (Or.inr (slot_ne (Or.inr (kw hw 108 rfl)) (Or.inr (kw hw 77 rfl)) dD (t := (.object zz19)) (t' := (.object zz5)) dD dD))
  have ZH := Nat.le_trans ZH (Nat.le_of_eq W1.size.symm)
  have KK := KK.wr W1 (mi 0 rfl)
  have OO := OO.wr W1 g_b
  refine g_aloadN (k := 0) (q := 6) B X1 dK rfl rfl rfl ?_
  refine g_initO (i := 9) (W := 0) (q := 9) B X1 (kw hw 78 rfl) (kw hw 16 rfl) (kw hw 17 rfl) e1 dK rfl dD dD dD rfl (fun T2 X2 e2 => ?_)
  refine g_aloadN (k := 0) (q := 10) B X2 dK rfl rfl rfl ?_
  refine g_new (i := 15) (q := 13) B X2 (kw hw 79 rfl) (kw hw 26 rfl) (kw hw 27 rfl) e2 dK dD dD rfl (fun b3 T3 h3 gz3 X3 e3 E3 A3 D3 => ?_)
  have ne_b_b3 := nl E_b.lt gz3
  have g_b3 := gl ZH gz3
  have sz_b3 := gl KK.1 gz3
  have E_b := E_b.ext E3
  have F_bytes_b := F_bytes_b.ext E3
  have F_targets_b := F_targets_b.ext E3
  have ZH := Nat.le_trans ZH E3.1
  have KK := KK.ext E3
  have OO := OO.ext E3
  have E_b3 := A3
  have F_bytes_b3 : Fld Z h3 b3 zz0 "bytes" "[B" .null := D3 (Or.inl (kw hw 33 rfl)) (ty := (.array .byte)) dD
  have F_size_b3 : Fld Z h3 b3 zz0 "size" "I" (.int (0 : Int32)) := D3 (Or.inl (kw hw 120 rfl)) (ty := .int) dD
  refine g_dup (q := 14) B X3 dK rfl rfl ?_
  have kk4 := KK.1
  have lt4_b := E_b.lt
  have lt4_b3 := E_b3.lt
  refine g_callIN (i := 17) (W := 2) (q := 17) (a := b3) (argsL := []) (rest := [(.ref b3), (.ref b)]) B X3 (y := yy3) rfl (Cond.methodLinkNest_wide B.hZ (kw hw 80 rfl) :) (kw hw 29 rfl) (kw hw 27 rfl) (kw hw 30 rfl) dD e3 (rmBi l Z a0 hw [] b3 h3 n0 ZH E_b3 F_bytes_b3 F_size_b3 g_b3) dK rfl rfl (lenOf pd_1 rfl) (Nat.le_of_eq rfl) rfl dD dD dD dD rfl (fun _ L4 T4 X4 hQ4 => ?_)
  obtain ⟨rfl, Nq4, K4, tb3, szq4, Yq4⟩ := hQ4
  have N4 := Fr.app N1 Nq4
  have E_b := E_b.keep K4
  have F_bytes_b := F_bytes_b.keep K4 (ninS ne_b_b3 nin0)
  have F_targets_b := F_targets_b.keep K4 (ninS ne_b_b3 nin0)
  have ZH := Nat.le_trans ZH K4.1
  have KK := KK.trans K4 (allS (Or.inr sz_b3) all0)
  have OO := OO.keep K4 (allS g_b3 all0)
  have Y_b3 := Yq4
  have ne_b_tb3 := nz lt4_b szq4
  have ne_b3_tb3 := nz lt4_b3 szq4
  have sz_tb3 := Nat.le_trans kk4 szq4
  have I_tb3 := Y_b3.in_tb
  refine g_putF (i := 18) (q := 20) B X4 (host := "") (Or.inl (kw hw 81 rfl)) Via.refl rfl F_bytes_b E_b (Or.inr ⟨(kw hw 82 rfl), rfl, B.hnm⟩) (kw hw 67 rfl) (ty := (.object zz0)) dD rfl rfl dK rfl (fun T5 h5 X5 e5 W5 => ?_)
  have N5 := Fr.snoc X5 N4 g_b
  have F_bytes_b := F_bytes_b.same W5
  have Y_b3 := Y_b3.other W5 (Ne.symm ne_b_b3) (Ne.symm ne_b_tb3)
  have E_b := E_b.wr W5
  have F_targets_b := F_targets_b.other W5 (Or.inr (slot_ne (Or.inr (kw hw 108 rfl)) (Or.inr (kw hw 82 rfl)) dD (t := (.object zz19)) (t' := (.object zz0)) dD dD))
  have I_tb3 := I_tb3.wr W5
  have ZH := Nat.le_trans ZH (Nat.le_of_eq W5.size.symm)
  have KK := KK.wr W5 (mi 0 rfl)
  have OO := OO.wr W5 g_b
  refine g_aloadN (k := 0) (q := 21) B X5 dK rfl rfl rfl ?_
  refine g_new (i := 22) (q := 24) B X5 (kw hw 83 rfl) (kw hw 84 rfl) (kw hw 85 rfl) e5 dK dD dD rfl (fun b6 T6 h6 gz6 X6 e6 E6 A6 D6 => ?_)
  have ne_b_b6 := nl E_b.lt gz6
  have ne_b3_b6 := nl Y_b3.lt gz6
  have ne_tb3_b6 := nl I_tb3.lt gz6
  have g_b6 := gl ZH gz6
  have sz_b6 := gl KK.1 gz6
  have Y_b3 := Y_b3.ext E6
  have E_b := E_b.ext E6
  have F_bytes_b := F_bytes_b.ext E6
  have F_targets_b := F_targets_b.ext E6
  have ZH := Nat.le_trans ZH E6.1
  have KK := KK.ext E6
  have OO := OO.ext E6
  have E_b6 := A6
  have F_modCount_b6 : Fld Z h6 b6 zz31 "modCount" "I" (.int (0 : Int32)) := D6 (Or.inl (kw hw 103 rfl)) (ty := .int) dD
  have F_elementData_b6 : Fld Z h6 b6 zz11 "elementData" zz42 .null := D6 (Or.inl (kw hw 106 rfl)) (ty := (.array (.object zz9))) dD
  have F_size_b6 : Fld Z h6 b6 zz11 "size" "I" (.int (0 : Int32)) := D6 (Or.inl (kw hw 184 rfl)) (ty := .int) dD
  refine g_dup (q := 25) B X6 dK rfl rfl ?_
  refine g_callI (i := 24) (W := 2) (q := 28) (a := b6) (argsL := []) (rest := [(.ref b6), (.ref b)]) B X6 (y := yy45) rfl (kw hw 86 rfl) (kw hw 87 rfl) (kw hw 85 rfl) (kw hw 88 rfl) dD e6 (rmAL l Z a0 hw [] cz fv ev dg ca cg b6 h6 n0 ZH OO HW ⟨E_b6, F_size_b6, F_modCount_b6, F_elementData_b6⟩ g_b6) dK rfl rfl (lenOf pd_1 rfl) (Nat.le_of_eq rfl) rfl dD dD dD dD rfl (fun _ L7 T7 X7 hQ7 => ?_)
  obtain ⟨rfl, Nq7, K7, Yq7_0⟩ := hQ7
  have N7 := Fr.app N5 Nq7
  have Y_b3 := Y_b3.keep K7 (ninS ne_b3_b6 nin0) (ninS ne_tb3_b6 nin0)
  have E_b := E_b.keep K7
  have F_bytes_b := F_bytes_b.keep K7 (ninS ne_b_b6 nin0)
  have F_targets_b := F_targets_b.keep K7 (ninS ne_b_b6 nin0)
  have KK := KK.trans K7 (allS (Or.inr sz_b6) all0)
  have Y_b6 := Yq7_0
  refine g_putF (i := 25) (q := 31) B X7 (host := "") (Or.inl (kw hw 107 rfl)) Via.refl rfl F_targets_b E_b (Or.inr ⟨(kw hw 108 rfl), rfl, B.hnm⟩) (kw hw 67 rfl) (ty := (.object zz19)) dD rfl rfl dK rfl (fun T8 h8 X8 e8 W8 => ?_)
  have N8 := Fr.snoc X8 N7 g_b
  have F_targets_b := F_targets_b.same W8
  have Y_b3 := Y_b3.other W8 (Ne.symm ne_b_b3) (Ne.symm ne_b_tb3)
  have Y_b6 := Y_b6.other W8 (Ne.symm ne_b_b6)
  have E_b := E_b.wr W8
  have F_bytes_b := F_bytes_b.other W8 (Or.inr (slot_ne (Or.inr (kw hw 82 rfl)) (Or.inr (kw hw 108 rfl)) dD (t := (.object zz0)) (t' := (.object zz19)) dD dD))
  have KK := KK.wr W8 (mi 0 rfl)
  exact g_ret B X8 dK dD dD e8 (by
    exact ⟨rfl, N8, KK, b3, tb3, b6, ⟨E_b, F_bytes_b, F_targets_b⟩, Y_b3, Y_b6, ⟨(allS ne_b3_tb3 (allS ne_b3_b6 all0)), ⟨(allS ne_tb3_b6 all0), ⟨all0, trivial⟩⟩⟩, (allS sz_b3 (allS sz_tb3 (allS sz_b6 all0)))⟩)
theorem pn_10 : plainName "com/example/eurydice/eurydice/model/ClassFileWriter" = true := by first | (simp [plainName, overriddenIn]; done) | decide +kernel
def QrmWi (Z : State) (b na su : Addr) (h0 : Heap) (n0 : Nat) (v : Option Value) (h : Heap) (L : List Loc) : Prop := v = none ∧ Fr n0 L ∧ Keep h0 h [b] ∧ ∃ pl en te mp fi tf me tm : Addr, own_Wr Z h b pl fi me na su (0 : Int32) ∧ own_P0 Z h pl en mp (0 : Int32) ∧ own_By Z h en te [] ∧ own_M0 Z h mp ∧ own_By Z h fi tf [] ∧ own_By Z h me tm [] ∧ own_Nd [pl, en, te, mp, fi, tf, me, tm] ∧ ∀ x ∈ [pl, en, te, mp, fi, tf, me, tm], h0.size ≤ x
theorem rmWi (l : Launch) (Z : State) (a0 : Array Value) (hw : own_H a0 Z) (ws : List Jvm.Cond) (b na su : Addr) (h0 : Heap) (n0 : Nat) (ZH : n0 ≤ h0.size) (E_b : Exa Z h0 b zz5) (F_pool_b : Fld Z h0 b zz5 "pool" zz45 .null) (F_fields_b : Fld Z h0 b zz5 "fields" zz13 .null) (F_methods_b : Fld Z h0 b zz5 "methods" zz13 .null) (F_name_b : Fld Z h0 b zz5 "name" zz25 .null) (F_superName_b : Fld Z h0 b zz5 "superName" zz25 .null) (F_methodCount_b : Fld Z h0 b zz5 "methodCount" "I" (.int (0 : Int32))) (F_fieldCount_b : Fld Z h0 b zz5 "fieldCount" "I" (.int (0 : Int32))) (F_tooLarge_b : Fld Z h0 b zz5 "tooLarge" "Z" (.int (0 : Int32))) (g_b : n0 ≤ b) :
    own_Met l Z yy53 prog_80_method_1_code 3 none ws (own_R 4 8 785 52) #[(.ref b), (.ref na), (.ref su)] h0 (QrmWi Z b na su h0 n0) 8 785 := by
  refine own_hd (fr := #[.val (.ref b), .val (.ref na), .val (.ref su)]) (plainFor_of_name pn_10) (fun {p e s m below meth c s₁} B X0 e0 => ?_)
  have N0 := Fr.nil n0
  have KK := Keep.refl h0 [b]
  refine g_aloadN (k := 0) (q := 1) B X0 dK rfl rfl rfl ?_
  refine g_initO (i := 3) (W := 0) (q := 4) B X0 (kw hw 15 rfl) (kw hw 16 rfl) (kw hw 17 rfl) e0 dK rfl dD dD dD rfl (fun T1 X1 e1 => ?_)
  refine g_aloadN (k := 0) (q := 5) B X1 dK rfl rfl rfl ?_
  refine g_new (i := 9) (q := 8) B X1 (kw hw 18 rfl) (kw hw 19 rfl) (kw hw 20 rfl) e1 dK dD dD rfl (fun b2 T2 h2 gz2 X2 e2 E2 A2 D2 => ?_)
  have ne_b_b2 := nl E_b.lt gz2
  have g_b2 := gl ZH gz2
  have sz_b2 := gl KK.1 gz2
  have E_b := E_b.ext E2
  have F_pool_b := F_pool_b.ext E2
  have F_fields_b := F_fields_b.ext E2
  have F_methods_b := F_methods_b.ext E2
  have F_name_b := F_name_b.ext E2
  have F_superName_b := F_superName_b.ext E2
  have F_methodCount_b := F_methodCount_b.ext E2
  have F_fieldCount_b := F_fieldCount_b.ext E2
  have F_tooLarge_b := F_tooLarge_b.ext E2
  have ZH := Nat.le_trans ZH E2.1
  have KK := KK.ext E2
  have E_b2 := A2
  have F_entries_b2 : Fld Z h2 b2 zz3 "entries" zz13 .null := D2 (Or.inr (kw hw 35 rfl)) (ty := (.object zz0)) dD
  have F_numbers_b2 : Fld Z h2 b2 zz3 "numbers" "Ljava/util/Map;" .null := D2 (Or.inr (kw hw 53 rfl)) (ty := (.object zz15)) dD
  have F_count_b2 : Fld Z h2 b2 zz3 "count" "I" (.int (0 : Int32)) := D2 (Or.inl (kw hw 394 rfl)) (ty := .int) dD
  refine g_dup (q := 9) B X2 dK rfl rfl ?_
  have kk3 := KK.1
  have lt3_b := E_b.lt
  have lt3_b2 := E_b2.lt
  refine g_callIR (i := 11) (W := 2) (q := 12) (a := b2) (argsL := []) (rest := [(.ref b2), (.ref b)]) B X2 (y := yy51) rfl (kw hw 21 rfl) (kw hw 22 rfl) (kw hw 20 rfl) (kw hw 23 rfl) dD e2 (rmPi l Z a0 hw [] b2 h2 n0 ZH E_b2 F_entries_b2 F_numbers_b2 F_count_b2 g_b2) dK rfl rfl (lenOf pd_1 rfl) (Nat.le_of_eq rfl) rfl dD dD dD dD rfl (fun _ L3 T3 X3 hQ3 => ?_)
  obtain ⟨rfl, Nq3, K3, en, te, mp, Yp3, Ye3, Ym3, nd3, sx3⟩ := hQ3
  have N3 := Fr.app N0 Nq3
  have E_b := E_b.keep K3
  have F_pool_b := F_pool_b.keep K3 (ninS ne_b_b2 nin0)
  have F_fields_b := F_fields_b.keep K3 (ninS ne_b_b2 nin0)
  have F_methods_b := F_methods_b.keep K3 (ninS ne_b_b2 nin0)
  have F_name_b := F_name_b.keep K3 (ninS ne_b_b2 nin0)
  have F_superName_b := F_superName_b.keep K3 (ninS ne_b_b2 nin0)
  have F_methodCount_b := F_methodCount_b.keep K3 (ninS ne_b_b2 nin0)
  have F_fieldCount_b := F_fieldCount_b.keep K3 (ninS ne_b_b2 nin0)
  have F_tooLarge_b := F_tooLarge_b.keep K3 (ninS ne_b_b2 nin0)
  have ZH := Nat.le_trans ZH K3.1
  have KK := KK.trans K3 (allS (Or.inr sz_b2) all0)
  have szo_en := sx3 _ (List.mem_of_getElem? (i := 0) rfl)
  have ne_b_en := nz lt3_b szo_en
  have ne_b2_en := nz lt3_b2 szo_en
  have sz_en := Nat.le_trans kk3 szo_en
  have szo_te := sx3 _ (List.mem_of_getElem? (i := 1) rfl)
  have ne_b_te := nz lt3_b szo_te
  have ne_b2_te := nz lt3_b2 szo_te
  have sz_te := Nat.le_trans kk3 szo_te
  have szo_mp := sx3 _ (List.mem_of_getElem? (i := 2) rfl)
  have ne_b_mp := nz lt3_b szo_mp
  have ne_b2_mp := nz lt3_b2 szo_mp
  have sz_mp := Nat.le_trans kk3 szo_mp
  have ne_en_te : en ≠ te := nd3.1 _ (List.mem_of_getElem? (i := 0) rfl)
  have ne_en_mp : en ≠ mp := nd3.1 _ (List.mem_of_getElem? (i := 1) rfl)
  have ne_te_mp : te ≠ mp := nd3.2.1 _ (List.mem_of_getElem? (i := 0) rfl)
  have Y_b2 := Yp3
  have Y_en := Ye3
  have Y_mp := Ym3
  have I_te := Y_en.in_tb
  refine g_putF (i := 12) (q := 15) B X3 (host := "") (Or.inl (kw hw 54 rfl)) Via.refl rfl F_pool_b E_b (Or.inr ⟨(kw hw 55 rfl), rfl, B.hnm⟩) (kw hw 1 rfl) (ty := (.object zz3)) dD rfl rfl dK rfl (fun T4 h4 X4 e4 W4 => ?_)
  have N4 := Fr.snoc X4 N3 g_b
  have F_pool_b := F_pool_b.same W4
  have Y_b2 := Y_b2.other W4 (Ne.symm ne_b_b2)
  have Y_en := Y_en.other W4 (Ne.symm ne_b_en) (Ne.symm ne_b_te)
  have Y_mp := Y_mp.other W4 (Ne.symm ne_b_mp)
  have E_b := E_b.wr W4
  have F_fields_b := F_fields_b.other W4 (Or.inr (slot_ne (Or.inr (kw hw 59 rfl)) (Or.inr (kw hw 55 rfl)) dD (t := (.object zz0)) (t' := (.object zz3)) dD dD))
  have F_methods_b := F_methods_b.other W4 (Or.inr (slot_ne (Or.inr (kw hw 61 rfl)) (Or.inr (kw hw 55 rfl)) dD (t := (.object zz0)) (t' := (.object zz3)) dD dD))
  have F_name_b := F_name_b.other W4 (Or.inr (slot_ne (Or.inr (kw hw 63 rfl)) (Or.inr (kw hw 55 rfl)) dD (t := (.object zz1)) (t' := (.object zz3)) dD dD))
  have F_superName_b := F_superName_b.other W4 (Or.inr (slot_ne (Or.inr (kw hw 65 rfl)) (Or.inr (kw hw 55 rfl)) dD (t := (.object zz1)) (t' := (.object zz3)) dD dD))
  have F_methodCount_b := F_methodCount_b.other W4 (Or.inr (slot_ne (Or.inl (kw hw 501 rfl)) (Or.inr (kw hw 55 rfl)) dD (t := .int) (t' := (.object zz3)) dD dD))
  have F_fieldCount_b := F_fieldCount_b.other W4 (Or.inr (slot_ne (Or.inl (kw hw 566 rfl)) (Or.inr (kw hw 55 rfl)) dD (t := .int) (t' := (.object zz3)) dD dD))
  have F_tooLarge_b := F_tooLarge_b.other W4 (Or.inr (slot_ne (Or.inl (kw hw 574 rfl)) (Or.inr (kw hw 55 rfl)) dD (t := .boolean) (t' := (.object zz3)) dD dD))
  have I_te := I_te.wr W4
  have ZH := Nat.le_trans ZH (Nat.le_of_eq W4.size.symm)
  have KK := KK.wr W4 (mi 0 rfl)
  refine g_aloadN (k := 0) (q := 16) B X4 dK rfl rfl rfl ?_
  refine g_new (i := 16) (q := 19) B X4 (kw hw 56 rfl) (kw hw 26 rfl) (kw hw 27 rfl) e4 dK dD dD rfl (fun b5 T5 h5 gz5 X5 e5 E5 A5 D5 => ?_)
  have ne_b_b5 := nl E_b.lt gz5
  have ne_b2_b5 := nl Y_b2.lt gz5
  have ne_en_b5 := nl Y_en.lt gz5
  have ne_te_b5 := nl I_te.lt gz5
  have ne_mp_b5 := nl Y_mp.lt gz5
  have g_b5 := gl ZH gz5
  have sz_b5 := gl KK.1 gz5
  have Y_b2 := Y_b2.ext E5
  have Y_en := Y_en.ext E5
  have Y_mp := Y_mp.ext E5
  have E_b := E_b.ext E5
  have F_pool_b := F_pool_b.ext E5
  have F_fields_b := F_fields_b.ext E5
  have F_methods_b := F_methods_b.ext E5
  have F_name_b := F_name_b.ext E5
  have F_superName_b := F_superName_b.ext E5
  have F_methodCount_b := F_methodCount_b.ext E5
  have F_fieldCount_b := F_fieldCount_b.ext E5
  have F_tooLarge_b := F_tooLarge_b.ext E5
  have I_te := I_te.ext E5
  have ZH := Nat.le_trans ZH E5.1
  have KK := KK.ext E5
  have E_b5 := A5
  have F_bytes_b5 : Fld Z h5 b5 zz0 "bytes" "[B" .null := D5 (Or.inl (kw hw 33 rfl)) (ty := (.array .byte)) dD
  have F_size_b5 : Fld Z h5 b5 zz0 "size" "I" (.int (0 : Int32)) := D5 (Or.inl (kw hw 120 rfl)) (ty := .int) dD
  refine g_dup (q := 20) B X5 dK rfl rfl ?_
  have kk6 := KK.1
  have lt6_b := E_b.lt
  have lt6_b2 := Y_b2.lt
  have lt6_en := Y_en.lt
  have lt6_te := I_te.lt
  have lt6_mp := Y_mp.lt
  have lt6_b5 := E_b5.lt
  refine g_callIR (i := 18) (W := 2) (q := 23) (a := b5) (argsL := []) (rest := [(.ref b5), (.ref b)]) B X5 (y := yy3) rfl (kw hw 57 rfl) (kw hw 29 rfl) (kw hw 27 rfl) (kw hw 30 rfl) dD e5 (rmBi l Z a0 hw [] b5 h5 n0 ZH E_b5 F_bytes_b5 F_size_b5 g_b5) dK rfl rfl (lenOf pd_1 rfl) (Nat.le_of_eq rfl) rfl dD dD dD dD rfl (fun _ L6 T6 X6 hQ6 => ?_)
  obtain ⟨rfl, Nq6, K6, tb5, szq6, Yq6⟩ := hQ6
  have N6 := Fr.app N4 Nq6
  have Y_b2 := Y_b2.keep K6 (ninS ne_b2_b5 nin0)
  have Y_en := Y_en.keep K6 (ninS ne_en_b5 nin0) (ninS ne_te_b5 nin0)
  have Y_mp := Y_mp.keep K6 (ninS ne_mp_b5 nin0)
  have E_b := E_b.keep K6
  have F_pool_b := F_pool_b.keep K6 (ninS ne_b_b5 nin0)
  have F_fields_b := F_fields_b.keep K6 (ninS ne_b_b5 nin0)
  have F_methods_b := F_methods_b.keep K6 (ninS ne_b_b5 nin0)
  have F_name_b := F_name_b.keep K6 (ninS ne_b_b5 nin0)
  have F_superName_b := F_superName_b.keep K6 (ninS ne_b_b5 nin0)
  have F_methodCount_b := F_methodCount_b.keep K6 (ninS ne_b_b5 nin0)
  have F_fieldCount_b := F_fieldCount_b.keep K6 (ninS ne_b_b5 nin0)
  have F_tooLarge_b := F_tooLarge_b.keep K6 (ninS ne_b_b5 nin0)
  have I_te := I_te.keep K6
  have ZH := Nat.le_trans ZH K6.1
  have KK := KK.trans K6 (allS (Or.inr sz_b5) all0)
  have Y_b5 := Yq6
  have ne_b_tb5 := nz lt6_b szq6
  have ne_b2_tb5 := nz lt6_b2 szq6
  have ne_en_tb5 := nz lt6_en szq6
  have ne_te_tb5 := nz lt6_te szq6
  have ne_mp_tb5 := nz lt6_mp szq6
  have ne_b5_tb5 := nz lt6_b5 szq6
  have sz_tb5 := Nat.le_trans kk6 szq6
  have I_tb5 := Y_b5.in_tb
  refine g_putF (i := 19) (q := 26) B X6 (host := "") (Or.inl (kw hw 58 rfl)) Via.refl rfl F_fields_b E_b (Or.inr ⟨(kw hw 59 rfl), rfl, B.hnm⟩) (kw hw 1 rfl) (ty := (.object zz0)) dD rfl rfl dK rfl (fun T7 h7 X7 e7 W7 => ?_)
  have N7 := Fr.snoc X7 N6 g_b
  have F_fields_b := F_fields_b.same W7
  have Y_b2 := Y_b2.other W7 (Ne.symm ne_b_b2)
  have Y_en := Y_en.other W7 (Ne.symm ne_b_en) (Ne.symm ne_b_te)
  have Y_mp := Y_mp.other W7 (Ne.symm ne_b_mp)
  have Y_b5 := Y_b5.other W7 (Ne.symm ne_b_b5) (Ne.symm ne_b_tb5)
  have E_b := E_b.wr W7
  have F_pool_b := F_pool_b.other W7 (Or.inr (slot_ne (Or.inr (kw hw 55 rfl)) (Or.inr (kw hw 59 rfl)) dD (t := (.object zz3)) (t' := (.object zz0)) dD dD))
  have F_methods_b := F_methods_b.other W7 (Or.inr (slot_ne (Or.inr (kw hw 61 rfl)) (Or.inr (kw hw 59 rfl)) dD (t := (.object zz0)) (t' := (.object zz0)) dD dD))
  have F_name_b := F_name_b.other W7 (Or.inr (slot_ne (Or.inr (kw hw 63 rfl)) (Or.inr (kw hw 59 rfl)) dD (t := (.object zz1)) (t' := (.object zz0)) dD dD))
  have F_superName_b := F_superName_b.other W7 (Or.inr (slot_ne (Or.inr (kw hw 65 rfl)) (Or.inr (kw hw 59 rfl)) dD (t := (.object zz1)) (t' := (.object zz0)) dD dD))
  have F_methodCount_b := F_methodCount_b.other W7 (Or.inr (slot_ne (Or.inl (kw hw 501 rfl)) (Or.inr (kw hw 59 rfl)) dD (t := .int) (t' := (.object zz0)) dD dD))
  have F_fieldCount_b := F_fieldCount_b.other W7 (Or.inr (slot_ne (Or.inl (kw hw 566 rfl)) (Or.inr (kw hw 59 rfl)) dD (t := .int) (t' := (.object zz0)) dD dD))
  have F_tooLarge_b := F_tooLarge_b.other W7 (Or.inr (slot_ne (Or.inl (kw hw 574 rfl)) (Or.inr (kw hw 59 rfl)) dD (t := .boolean) (t' := (.object zz0)) dD dD))
  have I_te := I_te.wr W7
  have I_tb5 := I_tb5.wr W7
  have ZH := Nat.le_trans ZH (Nat.le_of_eq W7.size.symm)
  have KK := KK.wr W7 (mi 0 rfl)
  refine g_aloadN (k := 0) (q := 27) B X7 dK rfl rfl rfl ?_
  refine g_new (i := 16) (q := 30) B X7 (kw hw 56 rfl) (kw hw 26 rfl) (kw hw 27 rfl) e7 dK dD dD rfl (fun b8 T8 h8 gz8 X8 e8 E8 A8 D8 => ?_)
  have ne_b_b8 := nl E_b.lt gz8
  have ne_b2_b8 := nl Y_b2.lt gz8
  have ne_en_b8 := nl Y_en.lt gz8
  have ne_te_b8 := nl I_te.lt gz8
  have ne_mp_b8 := nl Y_mp.lt gz8
  have ne_b5_b8 := nl Y_b5.lt gz8
  have ne_tb5_b8 := nl I_tb5.lt gz8
  have g_b8 := gl ZH gz8
  have sz_b8 := gl KK.1 gz8
  have Y_b2 := Y_b2.ext E8
  have Y_en := Y_en.ext E8
  have Y_mp := Y_mp.ext E8
  have Y_b5 := Y_b5.ext E8
  have E_b := E_b.ext E8
  have F_pool_b := F_pool_b.ext E8
  have F_fields_b := F_fields_b.ext E8
  have F_methods_b := F_methods_b.ext E8
  have F_name_b := F_name_b.ext E8
  have F_superName_b := F_superName_b.ext E8
  have F_methodCount_b := F_methodCount_b.ext E8
  have F_fieldCount_b := F_fieldCount_b.ext E8
  have F_tooLarge_b := F_tooLarge_b.ext E8
  have I_te := I_te.ext E8
  have I_tb5 := I_tb5.ext E8
  have ZH := Nat.le_trans ZH E8.1
  have KK := KK.ext E8
  have E_b8 := A8
  have F_bytes_b8 : Fld Z h8 b8 zz0 "bytes" "[B" .null := D8 (Or.inl (kw hw 33 rfl)) (ty := (.array .byte)) dD
  have F_size_b8 : Fld Z h8 b8 zz0 "size" "I" (.int (0 : Int32)) := D8 (Or.inl (kw hw 120 rfl)) (ty := .int) dD
  refine g_dup (q := 31) B X8 dK rfl rfl ?_
  have kk9 := KK.1
  have lt9_b := E_b.lt
  have lt9_b2 := Y_b2.lt
  have lt9_en := Y_en.lt
  have lt9_te := I_te.lt
  have lt9_mp := Y_mp.lt
  have lt9_b5 := Y_b5.lt
  have lt9_tb5 := I_tb5.lt
  have lt9_b8 := E_b8.lt
  refine g_callIR (i := 18) (W := 2) (q := 34) (a := b8) (argsL := []) (rest := [(.ref b8), (.ref b)]) B X8 (y := yy3) rfl (kw hw 57 rfl) (kw hw 29 rfl) (kw hw 27 rfl) (kw hw 30 rfl) dD e8 (rmBi l Z a0 hw [] b8 h8 n0 ZH E_b8 F_bytes_b8 F_size_b8 g_b8) dK rfl rfl (lenOf pd_1 rfl) (Nat.le_of_eq rfl) rfl dD dD dD dD rfl (fun _ L9 T9 X9 hQ9 => ?_)
  obtain ⟨rfl, Nq9, K9, tb8, szq9, Yq9⟩ := hQ9
  have N9 := Fr.app N7 Nq9
  have Y_b2 := Y_b2.keep K9 (ninS ne_b2_b8 nin0)
  have Y_en := Y_en.keep K9 (ninS ne_en_b8 nin0) (ninS ne_te_b8 nin0)
  have Y_mp := Y_mp.keep K9 (ninS ne_mp_b8 nin0)
  have Y_b5 := Y_b5.keep K9 (ninS ne_b5_b8 nin0) (ninS ne_tb5_b8 nin0)
  have E_b := E_b.keep K9
  have F_pool_b := F_pool_b.keep K9 (ninS ne_b_b8 nin0)
  have F_fields_b := F_fields_b.keep K9 (ninS ne_b_b8 nin0)
  have F_methods_b := F_methods_b.keep K9 (ninS ne_b_b8 nin0)
  have F_name_b := F_name_b.keep K9 (ninS ne_b_b8 nin0)
  have F_superName_b := F_superName_b.keep K9 (ninS ne_b_b8 nin0)
  have F_methodCount_b := F_methodCount_b.keep K9 (ninS ne_b_b8 nin0)
  have F_fieldCount_b := F_fieldCount_b.keep K9 (ninS ne_b_b8 nin0)
  have F_tooLarge_b := F_tooLarge_b.keep K9 (ninS ne_b_b8 nin0)
  have KK := KK.trans K9 (allS (Or.inr sz_b8) all0)
  have Y_b8 := Yq9
  have ne_b_tb8 := nz lt9_b szq9
  have ne_b2_tb8 := nz lt9_b2 szq9
  have ne_en_tb8 := nz lt9_en szq9
  have ne_te_tb8 := nz lt9_te szq9
  have ne_mp_tb8 := nz lt9_mp szq9
  have ne_b5_tb8 := nz lt9_b5 szq9
  have ne_tb5_tb8 := nz lt9_tb5 szq9
  have ne_b8_tb8 := nz lt9_b8 szq9
  have sz_tb8 := Nat.le_trans kk9 szq9
  refine g_putF (i := 23) (q := 37) B X9 (host := "") (Or.inl (kw hw 60 rfl)) Via.refl rfl F_methods_b E_b (Or.inr ⟨(kw hw 61 rfl), rfl, B.hnm⟩) (kw hw 1 rfl) (ty := (.object zz0)) dD rfl rfl dK rfl (fun T10 h10 X10 e10 W10 => ?_)
  have N10 := Fr.snoc X10 N9 g_b
  have F_methods_b := F_methods_b.same W10
  have Y_b2 := Y_b2.other W10 (Ne.symm ne_b_b2)
  have Y_en := Y_en.other W10 (Ne.symm ne_b_en) (Ne.symm ne_b_te)
  have Y_mp := Y_mp.other W10 (Ne.symm ne_b_mp)
  have Y_b5 := Y_b5.other W10 (Ne.symm ne_b_b5) (Ne.symm ne_b_tb5)
  have Y_b8 := Y_b8.other W10 (Ne.symm ne_b_b8) (Ne.symm ne_b_tb8)
  have E_b := E_b.wr W10
  have F_pool_b := F_pool_b.other W10 (Or.inr (slot_ne (Or.inr (kw hw 55 rfl)) (Or.inr (kw hw 61 rfl)) dD (t := (.object zz3)) (t' := (.object zz0)) dD dD))
  have F_fields_b := F_fields_b.other W10 (Or.inr (slot_ne (Or.inr (kw hw 59 rfl)) (Or.inr (kw hw 61 rfl)) dD (t := (.object zz0)) (t' := (.object zz0)) dD dD))
  have F_name_b := F_name_b.other W10 (Or.inr (slot_ne (Or.inr (kw hw 63 rfl)) (Or.inr (kw hw 61 rfl)) dD (t := (.object zz1)) (t' := (.object zz0)) dD dD))
  have F_superName_b := F_superName_b.other W10 (Or.inr (slot_ne (Or.inr (kw hw 65 rfl)) (Or.inr (kw hw 61 rfl)) dD (t := (.object zz1)) (t' := (.object zz0)) dD dD))
  have F_methodCount_b := F_methodCount_b.other W10 (Or.inr (slot_ne (Or.inl (kw hw 501 rfl)) (Or.inr (kw hw 61 rfl)) dD (t := .int) (t' := (.object zz0)) dD dD))
  have F_fieldCount_b := F_fieldCount_b.other W10 (Or.inr (slot_ne (Or.inl (kw hw 566 rfl)) (Or.inr (kw hw 61 rfl)) dD (t := .int) (t' := (.object zz0)) dD dD))
  have F_tooLarge_b := F_tooLarge_b.other W10 (Or.inr (slot_ne (Or.inl (kw hw 574 rfl)) (Or.inr (kw hw 61 rfl)) dD (t := .boolean) (t' := (.object zz0)) dD dD))
  have KK := KK.wr W10 (mi 0 rfl)
  refine g_aloadN (k := 0) (q := 38) B X10 dK rfl rfl rfl ?_
  refine g_aloadN (k := 1) (q := 39) B X10 dK rfl rfl rfl ?_
  refine g_putF (i := 26) (q := 42) B X10 (host := "") (Or.inl (kw hw 62 rfl)) Via.refl e10 F_name_b E_b (Or.inr ⟨(kw hw 63 rfl), rfl, B.hnm⟩) (kw hw 1 rfl) (ty := (.object zz1)) dD rfl rfl dK rfl (fun T11 h11 X11 e11 W11 => ?_)
  have N11 := Fr.snoc X11 N10 g_b
  have F_name_b := F_name_b.same W11
  have Y_b2 := Y_b2.other W11 (Ne.symm ne_b_b2)
  have Y_en := Y_en.other W11 (Ne.symm ne_b_en) (Ne.symm ne_b_te)
  have Y_mp := Y_mp.other W11 (Ne.symm ne_b_mp)
  have Y_b5 := Y_b5.other W11 (Ne.symm ne_b_b5) (Ne.symm ne_b_tb5)
  have Y_b8 := Y_b8.other W11 (Ne.symm ne_b_b8) (Ne.symm ne_b_tb8)
  have E_b := E_b.wr W11
  have F_pool_b := F_pool_b.other W11 (Or.inr (slot_ne (Or.inr (kw hw 55 rfl)) (Or.inr (kw hw 63 rfl)) dD (t := (.object zz3)) (t' := (.object zz1)) dD dD))
  have F_fields_b := F_fields_b.other W11 (Or.inr (slot_ne (Or.inr (kw hw 59 rfl)) (Or.inr (kw hw 63 rfl)) dD (t := (.object zz0)) (t' := (.object zz1)) dD dD))
  have F_methods_b := F_methods_b.other W11 (Or.inr (slot_ne (Or.inr (kw hw 61 rfl)) (Or.inr (kw hw 63 rfl)) dD (t := (.object zz0)) (t' := (.object zz1)) dD dD))
  have F_superName_b := F_superName_b.other W11 (Or.inr (slot_ne (Or.inr (kw hw 65 rfl)) (Or.inr (kw hw 63 rfl)) dD (t := (.object zz1)) (t' := (.object zz1)) dD dD))
  have F_methodCount_b := F_methodCount_b.other W11 (Or.inr (slot_ne (Or.inl (kw hw 501 rfl)) (Or.inr (kw hw 63 rfl)) dD (t := .int) (t' := (.object zz1)) dD dD))
  have F_fieldCount_b := F_fieldCount_b.other W11 (Or.inr (slot_ne (Or.inl (kw hw 566 rfl)) (Or.inr (kw hw 63 rfl)) dD (t := .int) (t' := (.object zz1)) dD dD))
  have F_tooLarge_b := F_tooLarge_b.other W11 (Or.inr (slot_ne (Or.inl (kw hw 574 rfl)) (Or.inr (kw hw 63 rfl)) dD (t := .boolean) (t' := (.object zz1)) dD dD))
  have KK := KK.wr W11 (mi 0 rfl)
  refine g_aloadN (k := 0) (q := 43) B X11 dK rfl rfl rfl ?_
  refine g_aloadN (k := 2) (q := 44) B X11 dK rfl rfl rfl ?_
  refine g_putF (i := 30) (q := 47) B X11 (host := "") (Or.inl (kw hw 64 rfl)) Via.refl e11 F_superName_b E_b (Or.inr ⟨(kw hw 65 rfl), rfl, B.hnm⟩) (kw hw 1 rfl) (ty := (.object zz1)) dD rfl rfl dK rfl (fun T12 h12 X12 e12 W12 => ?_)
  have N12 := Fr.snoc X12 N11 g_b
  have F_superName_b := F_superName_b.same W12
  have Y_b2 := Y_b2.other W12 (Ne.symm ne_b_b2)
  have Y_en := Y_en.other W12 (Ne.symm ne_b_en) (Ne.symm ne_b_te)
  have Y_mp := Y_mp.other W12 (Ne.symm ne_b_mp)
  have Y_b5 := Y_b5.other W12 (Ne.symm ne_b_b5) (Ne.symm ne_b_tb5)
  have Y_b8 := Y_b8.other W12 (Ne.symm ne_b_b8) (Ne.symm ne_b_tb8)
  have E_b := E_b.wr W12
  have F_pool_b := F_pool_b.other W12 (Or.inr (slot_ne (Or.inr (kw hw 55 rfl)) (Or.inr (kw hw 65 rfl)) dD (t := (.object zz3)) (t' := (.object zz1)) dD dD))
  have F_fields_b := F_fields_b.other W12 (Or.inr (slot_ne (Or.inr (kw hw 59 rfl)) (Or.inr (kw hw 65 rfl)) dD (t := (.object zz0)) (t' := (.object zz1)) dD dD))
  have F_methods_b := F_methods_b.other W12 (Or.inr (slot_ne (Or.inr (kw hw 61 rfl)) (Or.inr (kw hw 65 rfl)) dD (t := (.object zz0)) (t' := (.object zz1)) dD dD))
  have F_name_b := F_name_b.other W12 (Or.inr (slot_ne (Or.inr (kw hw 63 rfl)) (Or.inr (kw hw 65 rfl)) dD (t := (.object zz1)) (t' := (.object zz1)) dD dD))
  have F_methodCount_b := F_methodCount_b.other W12 (Or.inr (slot_ne (Or.inl (kw hw 501 rfl)) (Or.inr (kw hw 65 rfl)) dD (t := .int) (t' := (.object zz1)) dD dD))
  have F_fieldCount_b := F_fieldCount_b.other W12 (Or.inr (slot_ne (Or.inl (kw hw 566 rfl)) (Or.inr (kw hw 65 rfl)) dD (t := .int) (t' := (.object zz1)) dD dD))
  have F_tooLarge_b := F_tooLarge_b.other W12 (Or.inr (slot_ne (Or.inl (kw hw 574 rfl)) (Or.inr (kw hw 65 rfl)) dD (t := .boolean) (t' := (.object zz1)) dD dD))
  have KK := KK.wr W12 (mi 0 rfl)
  exact g_ret B X12 dK dD dD e12 (by
    exact ⟨rfl, N12, KK, b2, en, te, mp, b5, tb5, b8, tb8, ⟨E_b, F_pool_b, F_fields_b, F_methods_b, F_name_b, F_superName_b, F_methodCount_b, F_fieldCount_b, F_tooLarge_b⟩, Y_b2, Y_en, Y_mp, Y_b5, Y_b8, ⟨(allS ne_b2_en (allS ne_b2_te (allS ne_b2_mp (allS ne_b2_b5 (allS ne_b2_tb5 (allS ne_b2_b8 (allS ne_b2_tb8 all0))))))), ⟨(allS ne_en_te (allS ne_en_mp (allS ne_en_b5 (allS ne_en_tb5 (allS ne_en_b8 (allS ne_en_tb8 all0)))))), ⟨(allS ne_te_mp (allS ne_te_b5 (allS ne_te_tb5 (allS ne_te_b8 (allS ne_te_tb8 all0))))), ⟨(allS ne_mp_b5 (allS ne_mp_tb5 (allS ne_mp_b8 (allS ne_mp_tb8 all0)))), ⟨(allS ne_b5_tb5 (allS ne_b5_b8 (allS ne_b5_tb8 all0))), ⟨(allS ne_tb5_b8 (allS ne_tb5_tb8 all0)), ⟨(allS ne_b8_tb8 all0), ⟨all0, trivial⟩⟩⟩⟩⟩⟩⟩⟩, (allS sz_b2 (allS sz_en (allS sz_te (allS sz_mp (allS sz_b5 (allS sz_tb5 (allS sz_b8 (allS sz_tb8 all0))))))))⟩)
def QrmOp (Z : State) (c0 cb : Addr) (al tc : Addr) (cs : List Int32) (vv : Int32) (h0 : Heap) (n0 : Nat) (v : Option Value) (h : Heap) (L : List Loc) : Prop := v = none ∧ Fr n0 L ∧ Keep h0 h [cb, tc] ∧ own_By Z h cb tc (cs ++ [own_b8 vv])
theorem rmOp (l : Launch) (Z : State) (a0 : Array Value) (hw : own_H a0 Z) (ws : List Jvm.Cond) (c0 cb : Addr) (al tc : Addr) (cs : List Int32) (vv : Int32) (h0 : Heap) (n0 : Nat) (ZH : n0 ≤ h0.size) (Y_c : own_Cd Z h0 c0 cb al) (Y_cb : own_By Z h0 cb tc cs) (ne_c0_cb : c0 ≠ cb) (ne_c0_tc : c0 ≠ tc) (g_cb : n0 ≤ cb) (g_tc : n0 ≤ tc) (hn : cs.length < 256) :
    own_Met l Z yy4 prog_82_method_2_code 2 none ws (own_R 1 0 0 13) #[(.ref c0), (.int vv)] h0 (QrmOp Z c0 cb al tc cs vv h0 n0) 0 0 := by
  refine own_hd (fr := #[.val (.ref c0), .val (.int vv)]) (plainFor_of_name pn_9) (fun {p e s m below meth c s₁} B X0 e0 => ?_)
  have N0 := Fr.nil n0
  have KK := Keep.refl h0 [cb, tc]
  refine g_aloadN (k := 0) (q := 1) B X0 dK rfl rfl rfl ?_
  refine g_getF (i := 18) (q := 4) B X0 (host := "") (Or.inl (kw hw 81 rfl)) Via.refl e0 Y_c.2.1 dK rfl (fun T1 X1 e1 => ?_)
  refine g_iloadN (k := 1) (q := 5) B X1 dK rfl rfl ?_
  refine g_callV (i := 29) (W := 0) (q := 8) (a := cb) (argsL := [(.int vv)]) (rest := []) B X1 (y := yy2) (kw hw 114 rfl) (kw hw 115 rfl) (kw hw 117 rfl) (kw hw 116 rfl) (kw hw 27 rfl) (kw hw 118 rfl) dD e1 Y_cb.1 (rmU1 l Z a0 hw [] cb tc cs vv h0 n0 ZH Y_cb g_cb g_tc (by first | omega | (simp only [List.length_append, List.length_cons, List.length_nil, own_u2, own_u4] at *; omega))) dK rfl rfl (lenOf pd_0 rfl) (Nat.le_of_eq rfl) rfl dD dD dD dD rfl (fun _ L2 T2 X2 hQ2 => ?_)
  obtain ⟨rfl, Nq2, K2, Yq2_0⟩ := hQ2
  have N2 := Fr.app N0 Nq2
  have KK := KK.trans K2 (allS (mi 0 rfl) (allS (mi 1 rfl) all0))
  have Y_cb := Yq2_0
  exact g_ret B X2 dK dD dD rfl (by
    exact ⟨rfl, N2, KK, Y_cb⟩)
theorem pd_3 : parseMethodDescriptor "()I" = some ⟨[], some .int⟩ := by decide +kernel
def QrmBr (Z : State) (c0 cb : Addr) (al tc : Addr) (cs : List Int32) (vv : Int32) (h0 : Heap) (n0 : Nat) (v : Option Value) (h : Heap) (L : List Loc) : Prop := v = some (.int (Int32.ofNat cs.length)) ∧ Fr n0 L ∧ Keep h0 h [cb, tc] ∧ own_By Z h cb tc ((cs ++ [own_b8 vv]) ++ own_u2 (0 : Int32))
theorem rmBr (l : Launch) (Z : State) (a0 : Array Value) (hw : own_H a0 Z) (ws : List Jvm.Cond) (c0 cb : Addr) (al tc : Addr) (cs : List Int32) (vv : Int32) (h0 : Heap) (n0 : Nat) (ZH : n0 ≤ h0.size) (Y_c : own_Cd Z h0 c0 cb al) (Y_cb : own_By Z h0 cb tc cs) (ne_c0_cb : c0 ≠ cb) (ne_c0_tc : c0 ≠ tc) (g_cb : n0 ≤ cb) (g_tc : n0 ≤ tc) (hn : cs.length + 3 ≤ 256) :
    own_Met l Z yy54 prog_82_method_13_code 3 (some .int) ws (own_R 2 0 0 26) #[(.ref c0), (.int vv)] h0 (QrmBr Z c0 cb al tc cs vv h0 n0) 0 0 := by
  refine own_hd (fr := #[.val (.ref c0), .val (.int vv), .unset]) (plainFor_of_name pn_9) (fun {p e s m below meth c s₁} B X0 e0 => ?_)
  have N0 := Fr.nil n0
  have KK := Keep.refl h0 [cb, tc]
  refine g_aloadN (k := 0) (q := 1) B X0 dK rfl rfl rfl ?_
  refine g_getF (i := 18) (q := 4) B X0 (host := "") (Or.inl (kw hw 81 rfl)) Via.refl e0 Y_c.2.1 dK rfl (fun T1 X1 e1 => ?_)
  refine g_callV (i := 163) (W := 0) (q := 7) (a := cb) (argsL := []) (rest := []) B X1 (y := yy8) (kw hw 126 rfl) (kw hw 127 rfl) (kw hw 129 rfl) (kw hw 128 rfl) (kw hw 27 rfl) (kw hw 130 rfl) dD e1 Y_cb.1 (rmBz l Z a0 hw [] cb tc cs h0 n0 ZH Y_cb) dK rfl rfl (lenOf pd_3 rfl) (Nat.le_of_eq rfl) rfl dD dD dD dD rfl (fun _ L2 T2 X2 hQ2 => ?_)
  obtain ⟨rfl, Nq2, e2⟩ := hQ2
  have N2 := Fr.app N0 Nq2
  refine g_istoreN (k := 2) (q := 8) (l' := #[.val (.ref c0), .val (.int vv), .val (.int (Int32.ofNat cs.length))]) B X2 dK rfl rfl ?_
  refine g_aloadN (k := 0) (q := 9) B X2 dK rfl rfl rfl ?_
  refine g_getF (i := 18) (q := 12) B X2 (host := "") (Or.inl (kw hw 81 rfl)) Via.refl e2 Y_c.2.1 dK rfl (fun T3 X3 e3 => ?_)
  refine g_iloadN (k := 1) (q := 13) B X3 dK rfl rfl ?_
  refine g_callV (i := 29) (W := 0) (q := 16) (a := cb) (argsL := [(.int vv)]) (rest := []) B X3 (y := yy2) (kw hw 114 rfl) (kw hw 115 rfl) (kw hw 117 rfl) (kw hw 116 rfl) (kw hw 27 rfl) (kw hw 118 rfl) dD e3 Y_cb.1 (rmU1 l Z a0 hw [] cb tc cs vv h0 n0 ZH Y_cb g_cb g_tc (by first | omega | (simp only [List.length_append, List.length_cons, List.length_nil, own_u2, own_u4] at *; omega))) dK rfl rfl (lenOf pd_0 rfl) (Nat.le_of_eq rfl) rfl dD dD dD dD rfl (fun _ L4 T4 X4 hQ4 => ?_)
  obtain ⟨rfl, Nq4, K4, Yq4_0⟩ := hQ4
  have N4 := Fr.app N2 Nq4
  have Y_c := Y_c.keep K4 (ninS ne_c0_cb (ninS ne_c0_tc nin0))
  have ZH := Nat.le_trans ZH K4.1
  have KK := KK.trans K4 (allS (mi 0 rfl) (allS (mi 1 rfl) all0))
  have Y_cb := Yq4_0
  refine g_aloadN (k := 0) (q := 17) B X4 dK rfl rfl rfl ?_
  refine g_getF (i := 18) (q := 20) B X4 (host := "") (Or.inl (kw hw 81 rfl)) Via.refl rfl Y_c.2.1 dK rfl (fun T5 X5 e5 => ?_)
  refine g_iconst (o := 0) (q := 21) (v := 0) B X5 dK rfl rfl ?_
  refine g_callV (i := 43) (W := 0) (q := 24) (a := cb) (argsL := [(.int (0 : Int32))]) (rest := []) B X5 (y := yy0) (kw hw 131 rfl) (kw hw 132 rfl) (kw hw 134 rfl) (kw hw 133 rfl) (kw hw 27 rfl) (kw hw 135 rfl) dD e5 Y_cb.1 (rmU2 l Z a0 hw [] cb tc (cs ++ [own_b8 vv]) (0 : Int32) T4.heap n0 ZH Y_cb g_cb g_tc (by first | omega | (simp only [List.length_append, List.length_cons, List.length_nil, own_u2, own_u4] at *; omega))) dK rfl rfl (lenOf pd_0 rfl) (Nat.le_of_eq rfl) rfl dD dD dD dD rfl (fun _ L6 T6 X6 hQ6 => ?_)
  obtain ⟨rfl, Nq6, K6, Yq6_0⟩ := hQ6
  have N6 := Fr.app N4 Nq6
  have KK := KK.trans K6 (allS (mi 0 rfl) (allS (mi 1 rfl) all0))
  have Y_cb := Yq6_0
  refine g_iloadN (k := 2) (q := 25) B X6 dK rfl rfl ?_
  exact g_retI B X6 dK dD dD rfl (by
    exact ⟨rfl, N6, KK, Y_cb⟩)
theorem own_i2n {k : Nat} (h : k < 100000) : (Int32.ofNat k).toInt = (k : Int) := Int32.toInt_ofNat_of_lt (by omega)
theorem own_icl {k : Nat} (h : k < 100000) : (Int32.ofNat k).toNatClampNeg = k := by
  show (Int32.ofNat k).toInt.toNat = k
  rw [own_i2n h]; omega
theorem own_inn {k : Nat} (h : k < 100000) : ¬ (Int32.ofNat k) < 0 := fun q => by
  have q2 := Int32.lt_iff_toInt_lt.mp q
  rw [own_i2n h, show (0 : Int32).toInt = 0 from by decide] at q2; omega
theorem own_ilt {j k : Nat} (hj : j < 100000) (hk : k < 100000) : (Int32.ofNat j) < (Int32.ofNat k) ↔ j < k := by
  rw [Int32.lt_iff_toInt_lt, own_i2n hj, own_i2n hk]; omega
theorem own_iadd (j k : Nat) : (Int32.ofNat j) + (Int32.ofNat k) = Int32.ofNat (j + k) := (Int32.ofNat_add _ _).symm
theorem own_shr0 (x : Int32) : x >>> ((0 : Int32) &&& 31) = x := by
  rw [show ((0 : Int32) &&& 31) = 0 from by decide]; exact Int32.shiftRight_zero
theorem own_shl0 (x : Int32) : x <<< ((0 : Int32) &&& 31) = x := by
  rw [show ((0 : Int32) &&& 31) = 0 from by decide]; exact Int32.shiftLeft_zero
/-- signs of 1 to 127 -/
def own_as (cs : List Int32) : Prop := ∀ x ∈ cs, ∃ k : Nat, 1 ≤ k ∧ k < 128 ∧ x = Int32.ofNat k
theorem own_as.get {cs : List Int32} (h : own_as cs) (i : Nat) : ∃ k : Nat, k < 128 ∧ own_L cs i = Int32.ofNat k := by
  unfold own_L
  rw [List.getD_eq_getElem?_getD]
  cases e : cs[i]? with
  | none => exact ⟨0, by omega, rfl⟩
  | some x => obtain ⟨k, -, h2, h3⟩ := h x (List.mem_of_getElem? e); exact ⟨k, h2, h3⟩
theorem own_as.get1 {cs : List Int32} (h : own_as cs) {i : Nat} (hi : i < cs.length) : ∃ k : Nat, 1 ≤ k ∧ k < 128 ∧ own_L cs i = Int32.ofNat k := by
  unfold own_L
  rw [List.getD_eq_getElem?_getD, List.getElem?_eq_getElem hi]
  exact h _ (List.getElem_mem hi)
theorem own_fin128 {P : Nat → Prop} [DecidablePred P] (h : (List.range 128).all (fun k => decide (P k)) = true) {k : Nat} (hk : k < 128) : P k := by
  have := List.all_eq_true.mp h k (List.mem_range.mpr hk)
  exact of_decide_eq_true this
theorem own_as8 {k : Nat} (hk : k < 128) : (Int32.ofNat k).toInt8.toInt32 = Int32.ofNat k := own_fin128 (P := fun k => (Int32.ofNat k).toInt8.toInt32 = Int32.ofNat k) dK hk
theorem own_asFF {k : Nat} (hk : k < 128) : (Int32.ofNat k) &&& (255 : Int32) = Int32.ofNat k := own_fin128 (P := fun k => (Int32.ofNat k) &&& (255 : Int32) = Int32.ofNat k) dK hk
theorem own_asC {k : Nat} (hk : k < 128) : (Int32.ofNat k).toUInt32.toUInt16.toUInt32.toInt32 = Int32.ofNat k := own_fin128 (P := fun k => (Int32.ofNat k).toUInt32.toUInt16.toUInt32.toInt32 = Int32.ofNat k) dK hk
theorem own_asN {k : Nat} (hk : k < 128) : nar .char (Int32.ofNat k) = Int32.ofNat k := own_fin128 (P := fun k => nar .char (Int32.ofNat k) = Int32.ofNat k) dK hk
theorem own_as.b8 {cs : List Int32} (h : own_as cs) (i : Nat) : (own_L cs i).toInt8.toInt32 = own_L cs i := by
  obtain ⟨k, hk, e⟩ := h.get i; rw [e]; exact own_as8 hk
theorem own_as.ch {cs : List Int32} (h : own_as cs) (i : Nat) : nar .char (((own_L cs i) &&& (255 : Int32)).toUInt32.toUInt16.toUInt32.toInt32) = own_L cs i := by
  obtain ⟨k, hk, e⟩ := h.get i; rw [e, own_asFF hk, own_asC hk, own_asN hk]
theorem own_as.ff {cs : List Int32} (h : own_as cs) (i : Nat) : (own_L cs i) &&& (255 : Int32) = own_L cs i := by
  obtain ⟨k, hk, e⟩ := h.get i; rw [e, own_asFF hk]
theorem own_as.app {cs ds : List Int32} (h : own_as cs) (r : own_as ds) : own_as (cs ++ ds) := fun y hy => (List.mem_append.mp hy).elim (h y) (r y)
theorem own_as.bl {cs : List Int32} (h : own_as cs) : own_bl cs := fun x hx => by
  obtain ⟨k, -, hk, rfl⟩ := h x hx; exact own_as8 hk
theorem own_Llt {cs : List Int32} {i : Nat} (h : i < cs.length) (ds : List Int32) : own_L (cs ++ ds) i = own_L cs i := by
  unfold own_L; simp [List.getD_eq_getElem?_getD, List.getElem?_append_left h]
theorem own_Lge {cs ds : List Int32} {i : Nat} (h : cs.length ≤ i) : own_L (cs ++ ds) i = own_L ds (i - cs.length) := by
  unfold own_L; simp [List.getD_eq_getElem?_getD, List.getElem?_append_right h]
theorem own_Lout {cs : List Int32} {i : Nat} (h : cs.length ≤ i) : own_L cs i = 0 := by
  unfold own_L; rw [List.getD_eq_getElem?_getD, List.getElem?_eq_none h]; rfl
/-- a text laid behind a text -/
theorem own_cpApp (cs ds : List Int32) (i : Nat) : own_cp (own_L cs) cs.length (own_L ds) 0 ds.length i = own_L (cs ++ ds) i := by
  unfold own_cp
  by_cases h1 : i < cs.length
  · rw [if_neg (by omega), own_Llt h1]
  · rw [own_Lge (by omega)]
    by_cases h2 : i < cs.length + ds.length
    · rw [if_pos ⟨by omega, h2⟩, Nat.zero_add]
    · rw [if_neg (by omega), own_Lout (by omega), own_Lout (by omega)]
/-- the head of an array laid at the head of another -/
theorem own_cpHead (cs : List Int32) (k i : Nat) (h : i < k) (hk : cs.length ≤ k) : own_cp (fun _ => 0) 0 (own_L cs) 0 k i = own_L cs i := by
  unfold own_cp
  rw [if_pos ⟨by omega, by omega⟩, Nat.zero_add, Nat.sub_zero]
theorem own_cpHead2 (cs : List Int32) (k i : Nat) (hk : cs.length ≤ k) : own_cp (fun _ => 0) 0 (own_L cs) 0 k i = own_L cs i := by
  by_cases h : i < k
  · exact own_cpHead cs k i h hk
  · unfold own_cp; rw [if_neg (by omega), own_Lout (by omega)]
theorem own_fin10 {P : Nat → Prop} [DecidablePred P] (h : (List.range 10).all (fun k => decide (P k)) = true) {k : Nat} (hk : k < 10) : P k := by
  have := List.all_eq_true.mp h k (List.mem_range.mpr hk)
  exact of_decide_eq_true this
theorem own_dneg {d : Nat} (h : d < 10) : (-10 : Int32) < (-(Int32.ofNat d)) := own_fin10 (P := fun d => (-10 : Int32) < (-(Int32.ofNat d))) dK h
theorem own_dneg2 {d : Nat} (h : d < 10) : (-100 : Int32) < (-(Int32.ofNat d)) := own_fin10 (P := fun d => (-100 : Int32) < (-(Int32.ofNat d))) dK h
theorem own_dneg3 {d : Nat} (h : d < 10) : ¬ (-(Int32.ofNat d)) < (-9 : Int32) := own_fin10 (P := fun d => ¬ (-(Int32.ofNat d)) < (-9 : Int32)) dK h
theorem own_d100 {d : Nat} (h : d < 10) : (Int32.ofNat d) < (100 : Int32) := own_fin10 (P := fun d => (Int32.ofNat d) < (100 : Int32)) dK h
theorem own_ddg {d : Nat} (h : d < 10) : nar .byte (own_do (Int32.ofNat d).toNatClampNeg) = Int32.ofNat (48 + d) := own_fin10 (P := fun d => nar .byte (own_do (Int32.ofNat d).toNatClampNeg) = Int32.ofNat (48 + d)) dK h
theorem own_dec (k : Nat) : (Int32.ofNat (k + 1)) + (-1 : Int32) = Int32.ofNat k := by
  rw [Int32.ofNat_add, Int32.add_assoc, show (Int32.ofNat 1) + (-1 : Int32) = 0 from by decide, Int32.add_zero]
theorem own_suc (k : Nat) : (Int32.ofNat k) + (1 : Int32) = Int32.ofNat (k + 1) := by
  rw [Int32.ofNat_add]; rfl
theorem own_l16 {k : Nat} (h : k < 16) : (Int32.ofNat k) < (16 : Int32) := (own_ilt (j := k) (k := 16) (by omega) (by omega)).mpr h
theorem own_ec {k : Nat} (h : k ≤ 16) : ¬ (0 : Int32) < ((Int32.ofNat k) - (16 : Int32)) := by
  have := (show (List.range 17).all (fun k => decide (¬ (0 : Int32) < ((Int32.ofNat k) - (16 : Int32)))) = true from by decide +kernel)
  exact of_decide_eq_true (List.all_eq_true.mp this k (List.mem_range.mpr (by omega)))
theorem own_c255 {k : Nat} (h : k < 128) : ¬ (255 : Int32) < (Int32.ofNat k) := fun q => by
  have := (own_ilt (j := 255) (k := k) (by omega) (by omega)).mp q; omega
theorem own_lenS (cs : List Int32) (x : Int32) : Int32.ofNat (cs.length + 1) = Int32.ofNat (cs ++ [x]).length := by
  rw [List.length_append]; rfl
theorem own_z0 (x : Nat) : (0 : Int32).toNatClampNeg + x ≤ x := by
  rw [show (0 : Int32).toNatClampNeg = 0 from rfl]; omega
theorem own_lt34 {k : Nat} (h : k < 34) : (Int32.ofNat k) < (34 : Int32) := (own_ilt (j := k) (k := 34) (by omega) (by omega)).mpr h
theorem own_ne2 {a tb t2 : Addr} {h : Heap} (c : t2 = tb ∨ h.size ≤ t2) (q : a ≠ tb) (r : a < h.size) : a ≠ t2 := by
  rcases c with rfl | c
  · exact q
  · exact Nat.ne_of_lt (Nat.lt_of_lt_of_le r c)
theorem own_ge2 {tb t2 n : Nat} {h : Heap} (c : t2 = tb ∨ h.size ≤ t2) (q : n ≤ tb) (r : n ≤ h.size) : n ≤ t2 := by
  rcases c with rfl | c
  · exact q
  · exact Nat.le_trans r c
theorem own_subz (x : Int32) : x - (0 : Int32) = x := Int32.sub_zero x
def own_hs : Int32 → List Int32 → Int32
  | a, [] => a
  | a, x :: r => own_hs ((31 : Int32) * a + x) r
theorem own_hsS (a : Int32) (ks : List Int32) (x : Int32) : own_hs a (ks ++ [x]) = (31 : Int32) * own_hs a ks + x := by
  induction ks generalizing a with
  | nil => rfl
  | cons y r ih => exact ih _
theorem own_look {k : Nat} (h1 : 1 < k) (h2 : k < 100000) : (#[(0, 26), (1, 30)] : Array (Int × Int)).find? (·.1 == (Int32.ofNat k).toInt) = none := by
  rw [own_i2n h2]
  exact find_miss (fun p hp => by simp at hp; rcases hp with rfl | rfl <;> (simp; omega))
theorem own_capge {k : Nat} {cap : Int32} (h : (Int32.ofNat k) < cap) (hk : k < 100000) : (0 : Int32).toNatClampNeg + k ≤ cap.toNatClampNeg := by
  rw [Int32.lt_iff_toInt_lt, own_i2n hk] at h
  show 0 + k ≤ cap.toInt.toNat
  omega
theorem own_nelt {a b : Int32} (h : a < b) : ¬ a = b := fun q => by subst q; exact Int32.lt_irrefl h
theorem own_asd {d : Nat} (h : d < 10) : own_as ((([] ++ [Int32.ofNat 91]) ++ [Int32.ofNat (48 + d)]) ++ [Int32.ofNat 93]) := fun x hx => by
  simp only [List.nil_append, List.cons_append, List.mem_cons, List.not_mem_nil, or_false] at hx
  rcases hx with rfl | rfl | rfl
  · exact ⟨91, by omega, by omega, rfl⟩
  · exact ⟨48 + d, by omega, by omega, rfl⟩
  · exact ⟨93, by omega, by omega, rfl⟩
def own_St (Z : State) (h : Heap) (x tx : Addr) (cs : List Int32) : Prop :=
  Exa Z h x zz1 ∧ Fld Z h x zz1 "value" "[B" (.ref tx) ∧ Fld Z h x zz1 "coder" "B" (.int (0 : Int32)) ∧ own_Arf Z h tx .byte (Int32.ofNat cs.length) (fun i => .int ((own_L cs) i))
theorem own_St.in_x {Z : State} {h : Heap} {x : Addr} {tx : Addr} {cs : List Int32} (Y : own_St Z h x tx cs) : own_In h x := Y.1.lt
theorem own_St.lt {Z : State} {h : Heap} {x : Addr} {tx : Addr} {cs : List Int32} (Y : own_St Z h x tx cs) : x < h.size := Y.1.lt
theorem own_St.in_tx {Z : State} {h : Heap} {x : Addr} {tx : Addr} {cs : List Int32} (Y : own_St Z h x tx cs) : own_In h tx := Y.2.2.2.lt
theorem own_St.ext {Z : State} {h h' : Heap} {x : Addr} {tx : Addr} {cs : List Int32} (Y : own_St Z h x tx cs) (E : Ext h h') : own_St Z h' x tx cs := ⟨Y.1.ext E, Y.2.1.ext E, Y.2.2.1.ext E, Y.2.2.2.ext E⟩
theorem own_St.other {Z : State} {h h' : Heap} {a' : Addr} {sl : Nat} {v' : Value} {x : Addr} {tx : Addr} {cs : List Int32} (Y : own_St Z h x tx cs) (W : Wr h h' a' sl v') (q_x : x ≠ a') (q_tx : tx ≠ a') : own_St Z h' x tx cs := ⟨Y.1.wr W, Y.2.1.other W (Or.inl q_x), Y.2.2.1.other W (Or.inl q_x), Y.2.2.2.other W q_tx⟩
theorem own_St.keep {Z : State} {h h' : Heap} {ws : List Addr} {x : Addr} {tx : Addr} {cs : List Int32} (Y : own_St Z h x tx cs) (K : Keep h h' ws) (q_x : x ∉ ws) (q_tx : tx ∉ ws) : own_St Z h' x tx cs := ⟨Y.1.keep K, Y.2.1.keep K q_x, Y.2.2.1.keep K q_x, Y.2.2.2.keep K q_tx⟩
def own_Sk (Z : State) (h : Heap) (x tx : Addr) (cs : List Int32) (hv : Int32) : Prop :=
  own_St Z h x tx cs ∧ Fld Z h x zz1 "hash" "I" (.int hv) ∧ Fld Z h x zz1 "hashIsZero" "Z" (.int (0 : Int32)) ∧ x ≠ tx ∧ Exa Z h tx "[B"
theorem own_Sk.in_x {Z : State} {h : Heap} {x : Addr} {tx : Addr} {cs : List Int32} {hv : Int32} (Y : own_Sk Z h x tx cs hv) : own_In h x := Y.1.in_x
theorem own_Sk.lt {Z : State} {h : Heap} {x : Addr} {tx : Addr} {cs : List Int32} {hv : Int32} (Y : own_Sk Z h x tx cs hv) : x < h.size := Y.1.in_x
theorem own_Sk.in_tx {Z : State} {h : Heap} {x : Addr} {tx : Addr} {cs : List Int32} {hv : Int32} (Y : own_Sk Z h x tx cs hv) : own_In h tx := Y.1.in_tx
theorem own_Sk.ext {Z : State} {h h' : Heap} {x : Addr} {tx : Addr} {cs : List Int32} {hv : Int32} (Y : own_Sk Z h x tx cs hv) (E : Ext h h') : own_Sk Z h' x tx cs hv := ⟨Y.1.ext E, Y.2.1.ext E, Y.2.2.1.ext E, Y.2.2.2.1, Y.2.2.2.2.ext E⟩
theorem own_Sk.other {Z : State} {h h' : Heap} {a' : Addr} {sl : Nat} {v' : Value} {x : Addr} {tx : Addr} {cs : List Int32} {hv : Int32} (Y : own_Sk Z h x tx cs hv) (W : Wr h h' a' sl v') (q_x : x ≠ a') (q_tx : tx ≠ a') : own_Sk Z h' x tx cs hv := ⟨Y.1.other W q_x q_tx, Y.2.1.other W (Or.inl q_x), Y.2.2.1.other W (Or.inl q_x), Y.2.2.2.1, Y.2.2.2.2.wr W⟩
theorem own_Sk.keep {Z : State} {h h' : Heap} {ws : List Addr} {x : Addr} {tx : Addr} {cs : List Int32} {hv : Int32} (Y : own_Sk Z h x tx cs hv) (K : Keep h h' ws) (q_x : x ∉ ws) (q_tx : tx ∉ ws) : own_Sk Z h' x tx cs hv := ⟨Y.1.keep K q_x q_tx, Y.2.1.keep K q_x, Y.2.2.1.keep K q_x, Y.2.2.2.1, Y.2.2.2.2.keep K⟩
def own_SB (Z : State) (h : Heap) (b tb : Addr) (cap : Int32) (cs : List Int32) : Prop :=
  Exa Z h b zz7 ∧ Fld Z h b zz2 "value" "[B" (.ref tb) ∧ Fld Z h b zz2 "coder" "B" (.int (0 : Int32)) ∧ Fld Z h b zz2 "count" "I" (.int (Int32.ofNat cs.length)) ∧ own_Arf Z h tb .byte cap (fun i => .int ((own_L cs) i)) ∧ b ≠ tb
theorem own_SB.lt {Z : State} {h : Heap} {b : Addr} {tb : Addr} {cap : Int32} {cs : List Int32} (Y : own_SB Z h b tb cap cs) : b < h.size := Y.1.lt
theorem own_SB.in_tb {Z : State} {h : Heap} {b : Addr} {tb : Addr} {cap : Int32} {cs : List Int32} (Y : own_SB Z h b tb cap cs) : own_In h tb := Y.2.2.2.2.1.lt
theorem own_SB.ext {Z : State} {h h' : Heap} {b : Addr} {tb : Addr} {cap : Int32} {cs : List Int32} (Y : own_SB Z h b tb cap cs) (E : Ext h h') : own_SB Z h' b tb cap cs := ⟨Y.1.ext E, Y.2.1.ext E, Y.2.2.1.ext E, Y.2.2.2.1.ext E, Y.2.2.2.2.1.ext E, Y.2.2.2.2.2⟩
theorem own_SB.other {Z : State} {h h' : Heap} {a' : Addr} {sl : Nat} {v' : Value} {b : Addr} {tb : Addr} {cap : Int32} {cs : List Int32} (Y : own_SB Z h b tb cap cs) (W : Wr h h' a' sl v') (q_b : b ≠ a') (q_tb : tb ≠ a') : own_SB Z h' b tb cap cs := ⟨Y.1.wr W, Y.2.1.other W (Or.inl q_b), Y.2.2.1.other W (Or.inl q_b), Y.2.2.2.1.other W (Or.inl q_b), Y.2.2.2.2.1.other W q_tb, Y.2.2.2.2.2⟩
theorem own_SB.keep {Z : State} {h h' : Heap} {ws : List Addr} {b : Addr} {tb : Addr} {cap : Int32} {cs : List Int32} (Y : own_SB Z h b tb cap cs) (K : Keep h h' ws) (q_b : b ∉ ws) (q_tb : tb ∉ ws) : own_SB Z h' b tb cap cs := ⟨Y.1.keep K, Y.2.1.keep K q_b, Y.2.2.1.keep K q_b, Y.2.2.2.1.keep K q_b, Y.2.2.2.2.1.keep K q_tb, Y.2.2.2.2.2⟩

theorem pn_11 : plainName "java/lang/String" = true := by first | (simp [plainName, overriddenIn]; done) | decide +kernel
def QrmCO (Z : State) (cz : Int32) (fv : Value) (ev dg ca : Addr) (cg : Nat → Addr) (x tx : Addr) (cs : List Int32) (h0 : Heap) (n0 : Nat) (v : Option Value) (h : Heap) (L : List Loc) : Prop := v = some (.int (0 : Int32)) ∧ Fr n0 L ∧ h = h0
theorem rmCO (l : Launch) (Z : State) (a0 : Array Value) (hw : own_H a0 Z) (ws : List Jvm.Cond) (cz : Int32) (fv : Value) (ev dg ca : Addr) (cg : Nat → Addr) (x tx : Addr) (cs : List Int32) (h0 : Heap) (n0 : Nat) (ZH : n0 ≤ h0.size) (OO : Old Z n0 h0) (HW : own_W Z cz fv ev dg ca cg) (Y_x : own_St Z h0 x tx cs) :
    own_Met l Z yy14 jdk_42_method_152_code 1 (some .byte) ws (own_R 0 0 0 0) #[(.ref x)] h0 (QrmCO Z cz fv ev dg ca cg x tx cs h0 n0) 0 0 := by
  refine own_hd (fr := #[.val (.ref x)]) (plainFor_of_name pn_11) (fun {p e s m below meth c s₁} B X0 e0 => ?_)
  have N0 := Fr.nil n0
  have HW0 := HW
  obtain ⟨SC, hcz, SF, hfv, SE, SD, GD, SH, SK2, GC, hcg⟩ := HW
  refine g_getS (i := 38) (q := 3) B X0 (host := "") (Or.inl (kw hw 268 rfl)) Via.refl e0 (SC.ext OO.2) dK rfl (fun T1 X1 e1 => ?_)
  refine g_ifNo (cd := .eq) (o := 10) (q := 6) B X1 dK (((if0 _ _).trans (feq (hcz : ¬ (cz = (0 : Int32)))).1)) rfl ?_
  refine g_aloadN (k := 0) (q := 7) B X1 dK rfl rfl rfl ?_
  refine g_getF (i := 15) (q := 10) B X1 (host := "") (Or.inl (kw hw 269 rfl)) Via.refl e1 Y_x.2.2.1 dK rfl (fun T2 X2 e2 => ?_)
  refine g_goto (o := 4) (q := 14) B X2 dK dD dD ?_
  exact g_retN B X2 (by simp) dK dD dD e2 (by
    exact ⟨rfl, N0, rfl⟩)
theorem pd_4 : parseMethodDescriptor "()B" = some ⟨[], some .byte⟩ := by decide +kernel
def QrmLN (Z : State) (cz : Int32) (fv : Value) (ev dg ca : Addr) (cg : Nat → Addr) (x tx : Addr) (cs : List Int32) (h0 : Heap) (n0 : Nat) (v : Option Value) (h : Heap) (L : List Loc) : Prop := v = some (.int (Int32.ofNat cs.length)) ∧ Fr n0 L ∧ h = h0
theorem rmLN (l : Launch) (Z : State) (a0 : Array Value) (hw : own_H a0 Z) (ws : List Jvm.Cond) (cz : Int32) (fv : Value) (ev dg ca : Addr) (cg : Nat → Addr) (x tx : Addr) (cs : List Int32) (h0 : Heap) (n0 : Nat) (ZH : n0 ≤ h0.size) (OO : Old Z n0 h0) (HW : own_W Z cz fv ev dg ca cg) (Y_x : own_St Z h0 x tx cs) :
    own_Met l Z yy6 jdk_42_method_54_code 1 (some .int) ws (own_R 1 0 0 13) #[(.ref x)] h0 (QrmLN Z cz fv ev dg ca cg x tx cs h0 n0) 0 0 := by
  refine own_hd (fr := #[.val (.ref x)]) (plainFor_of_name pn_11) (fun {p e s m below meth c s₁} B X0 e0 => ?_)
  have N0 := Fr.nil n0
  refine g_aloadN (k := 0) (q := 1) B X0 dK rfl rfl rfl ?_
  refine g_getF (i := 9) (q := 4) B X0 (host := "") (Or.inl (kw hw 262 rfl)) Via.refl e0 Y_x.2.1 dK rfl (fun T1 X1 e1 => ?_)
  refine g_alen (q := 5) B X1 e1 Y_x.2.2.2 dK rfl ?_
  refine g_aloadN (k := 0) (q := 6) B X1 dK rfl rfl rfl ?_
  refine g_callV (i := 335) (W := 1) (q := 9) (a := x) (argsL := []) (rest := [(.int (Int32.ofNat cs.length))]) B X1 (y := yy14) (kw hw 263 rfl) (kw hw 264 rfl) (kw hw 266 rfl) (kw hw 265 rfl) (kw hw 4 rfl) (kw hw 267 rfl) dD e1 Y_x.1 (rmCO l Z a0 hw [] cz fv ev dg ca cg x tx cs h0 n0 ZH OO HW Y_x) dK rfl rfl (lenOf pd_4 rfl) (Nat.le_of_eq rfl) rfl dD dD dD dD rfl (fun _ L2 T2 X2 hQ2 => ?_)
  obtain ⟨rfl, Nq2, e2⟩ := hQ2
  have N2 := Fr.app N0 Nq2
  refine g_ishr (q := 10) (v := (Int32.ofNat cs.length)) B X2 dK (own_shr0 _) rfl ?_
  exact g_retI B X2 dK dD dD e2 (by
    exact ⟨rfl, N2, rfl⟩)
def QrmL1 (Z : State) (cz : Int32) (fv : Value) (ev dg ca : Addr) (cg : Nat → Addr) (x tx : Addr) (cs : List Int32) (h0 : Heap) (n0 : Nat) (v : Option Value) (h : Heap) (L : List Loc) : Prop := v = some (.int (1 : Int32)) ∧ Fr n0 L ∧ h = h0
theorem rmL1 (l : Launch) (Z : State) (a0 : Array Value) (hw : own_H a0 Z) (ws : List Jvm.Cond) (cz : Int32) (fv : Value) (ev dg ca : Addr) (cg : Nat → Addr) (x tx : Addr) (cs : List Int32) (h0 : Heap) (n0 : Nat) (ZH : n0 ≤ h0.size) (OO : Old Z n0 h0) (HW : own_W Z cz fv ev dg ca cg) (Y_x : own_St Z h0 x tx cs) :
    own_Met l Z yy28 jdk_42_method_154_code 1 (some .boolean) ws (own_R 0 0 0 0) #[(.ref x)] h0 (QrmL1 Z cz fv ev dg ca cg x tx cs h0 n0) 0 0 := by
  refine own_hd (fr := #[.val (.ref x)]) (plainFor_of_name pn_11) (fun {p e s m below meth c s₁} B X0 e0 => ?_)
  have N0 := Fr.nil n0
  have HW0 := HW
  obtain ⟨SC, hcz, SF, hfv, SE, SD, GD, SH, SK2, GC, hcg⟩ := HW
  refine g_getS (i := 38) (q := 3) B X0 (host := "") (Or.inl (kw hw 268 rfl)) Via.refl e0 (SC.ext OO.2) dK rfl (fun T1 X1 e1 => ?_)
  refine g_ifNo (cd := .eq) (o := 14) (q := 6) B X1 dK (((if0 _ _).trans (feq (hcz : ¬ (cz = (0 : Int32)))).1)) rfl ?_
  refine g_aloadN (k := 0) (q := 7) B X1 dK rfl rfl rfl ?_
  refine g_getF (i := 15) (q := 10) B X1 (host := "") (Or.inl (kw hw 269 rfl)) Via.refl e1 Y_x.2.2.1 dK rfl (fun T2 X2 e2 => ?_)
  refine g_ifNo (cd := .ne) (o := 7) (q := 13) B X2 dK (((if0 _ _).trans (teq (by decide : (0 : Int32) = (0 : Int32))).2)) rfl ?_
  refine g_iconst (o := 1) (q := 14) (v := 1) B X2 dK rfl rfl ?_
  refine g_goto (o := 4) (q := 18) B X2 dK dD dD ?_
  exact g_retN B X2 (by simp) dK dD dD e2 (by
    exact ⟨rfl, N0, rfl⟩)
theorem pn_12 : plainName "jdk/internal/util/Preconditions" = true := by first | (simp [plainName, overriddenIn]; done) | decide +kernel
def QrmCIR (Z : State) (j nn : Int32) (fa : Addr) (h0 : Heap) (n0 : Nat) (v : Option Value) (h : Heap) (L : List Loc) : Prop := v = some (.int j) ∧ Fr n0 L ∧ h = h0
theorem rmCIR (l : Launch) (Z : State) (a0 : Array Value) (hw : own_H a0 Z) (ws : List Jvm.Cond) (j nn : Int32) (fa : Addr) (h0 : Heap) (n0 : Nat) (ZH : n0 ≤ h0.size) (hj0 : ¬ j < 0) (hjl : j < nn) :
    own_Met l Z yy15 jdk_41_method_11_code 3 (some .int) ws (own_R 0 0 0 0) #[(.int j), (.int nn), (.ref fa)] h0 (QrmCIR Z j nn fa h0 n0) 0 0 := by
  refine own_hd (fr := #[.val (.int j), .val (.int nn), .val (.ref fa)]) (plainFor_of_name pn_12) (fun {p e s m below meth c s₁} B X0 e0 => ?_)
  have N0 := Fr.nil n0
  refine g_iloadN (k := 0) (q := 1) B X0 dK rfl rfl ?_
  refine g_ifNo (cd := .lt) (o := 8) (q := 4) B X0 dK (((if0 _ _).trans (flt (hj0 : ¬ (j < (0 : Int32)))).1)) rfl ?_
  refine g_iloadN (k := 0) (q := 5) B X0 dK rfl rfl ?_
  refine g_iloadN (k := 1) (q := 6) B X0 dK rfl rfl ?_
  refine g_icmpYes (cd := .lt) (o := 10) (q := 16) B X0 dK ((tlt (hjl : j < nn)).1) dD dD ?_
  refine g_iloadN (k := 0) (q := 17) B X0 dK rfl rfl ?_
  exact g_retI B X0 dK dD dD e0 (by
    exact ⟨rfl, N0, rfl⟩)
def QrmCIN (Z : State) (j nn : Int32) (h0 : Heap) (n0 : Nat) (v : Option Value) (h : Heap) (L : List Loc) : Prop := v = some (.int j) ∧ Fr n0 L ∧ h = h0
theorem rmCIN (l : Launch) (Z : State) (a0 : Array Value) (hw : own_H a0 Z) (ws : List Jvm.Cond) (j nn : Int32) (h0 : Heap) (n0 : Nat) (ZH : n0 ≤ h0.size) (hj0 : ¬ j < 0) (hjl : j < nn) :
    own_Met l Z yy15 jdk_41_method_11_code 3 (some .int) ws (own_R 0 0 0 0) #[(.int j), (.int nn), .null] h0 (QrmCIN Z j nn h0 n0) 0 0 := by
  refine own_hd (fr := #[.val (.int j), .val (.int nn), .val .null]) (plainFor_of_name pn_12) (fun {p e s m below meth c s₁} B X0 e0 => ?_)
  have N0 := Fr.nil n0
  refine g_iloadN (k := 0) (q := 1) B X0 dK rfl rfl ?_
  refine g_ifNo (cd := .lt) (o := 8) (q := 4) B X0 dK (((if0 _ _).trans (flt (hj0 : ¬ (j < (0 : Int32)))).1)) rfl ?_
  refine g_iloadN (k := 0) (q := 5) B X0 dK rfl rfl ?_
  refine g_iloadN (k := 1) (q := 6) B X0 dK rfl rfl ?_
  refine g_icmpYes (cd := .lt) (o := 10) (q := 16) B X0 dK ((tlt (hjl : j < nn)).1) dD dD ?_
  refine g_iloadN (k := 0) (q := 17) B X0 dK rfl rfl ?_
  exact g_retI B X0 dK dD dD e0 (by
    exact ⟨rfl, N0, rfl⟩)
theorem pd_5 : parseMethodDescriptor "(IILjava/util/function/BiFunction;)I" = some ⟨[.int, .int, (.object "java/util/function/BiFunction")], some .int⟩ := by decide +kernel
def QrmCKR (Z : State) (cz : Int32) (ev dg ca : Addr) (cg : Nat → Addr) (fa : Addr) (j nn : Int32) (h0 : Heap) (n0 : Nat) (v : Option Value) (h : Heap) (L : List Loc) : Prop := v = none ∧ Fr n0 L ∧ h = h0
theorem rmCKR (l : Launch) (Z : State) (a0 : Array Value) (hw : own_H a0 Z) (ws : List Jvm.Cond) (cz : Int32) (ev dg ca : Addr) (cg : Nat → Addr) (fa : Addr) (j nn : Int32) (h0 : Heap) (n0 : Nat) (ZH : n0 ≤ h0.size) (OO : Old Z n0 h0) (HW : own_W Z cz (.ref fa) ev dg ca cg) (hj0 : ¬ j < 0) (hjl : j < nn) :
    own_Met l Z yy16 jdk_42_method_155_code 2 none ws (own_R 1 0 0 14) #[(.int j), (.int nn)] h0 (QrmCKR Z cz ev dg ca cg fa j nn h0 n0) 0 0 := by
  refine own_hd (fr := #[.val (.int j), .val (.int nn)]) (plainFor_of_name pn_11) (fun {p e s m below meth c s₁} B X0 e0 => ?_)
  have N0 := Fr.nil n0
  have HW0 := HW
  obtain ⟨SC, hcz, SF, hfv, SE, SD, GD, SH, SK2, GC, hcg⟩ := HW
  refine g_iloadN (k := 0) (q := 1) B X0 dK rfl rfl ?_
  refine g_iloadN (k := 1) (q := 2) B X0 dK rfl rfl ?_
  refine g_getS (i := 1053) (q := 5) B X0 (host := "") (Or.inl (kw hw 381 rfl)) Via.refl e0 (SF.ext OO.2) dK rfl (fun T1 X1 e1 => ?_)
  refine g_callS (i := 1059) (W := 0) (q := 8) (argsL := [(.int j), (.int nn), (.ref fa)]) (rest := []) B X1 (y := yy15) (kw hw 383 rfl) (kw hw 384 rfl) (kw hw 382 rfl) (kw hw 385 rfl) dD e1 (rmCIR l Z a0 hw [] j nn fa h0 n0 ZH hj0 hjl) dK rfl rfl (lenOf pd_5 rfl) (Nat.le_of_eq rfl) rfl dD dD dD dD rfl (fun _ L2 T2 X2 hQ2 => ?_)
  obtain ⟨rfl, Nq2, e2⟩ := hQ2
  have N2 := Fr.app N0 Nq2
  refine g_pop (q := 9) B X2 dK rfl rfl ?_
  exact g_ret B X2 dK dD dD e2 (by
    exact ⟨rfl, N2, rfl⟩)
def QrmCKN (Z : State) (cz : Int32) (ev dg ca : Addr) (cg : Nat → Addr) (j nn : Int32) (h0 : Heap) (n0 : Nat) (v : Option Value) (h : Heap) (L : List Loc) : Prop := v = none ∧ Fr n0 L ∧ h = h0
theorem rmCKN (l : Launch) (Z : State) (a0 : Array Value) (hw : own_H a0 Z) (ws : List Jvm.Cond) (cz : Int32) (ev dg ca : Addr) (cg : Nat → Addr) (j nn : Int32) (h0 : Heap) (n0 : Nat) (ZH : n0 ≤ h0.size) (OO : Old Z n0 h0) (HW : own_W Z cz .null ev dg ca cg) (hj0 : ¬ j < 0) (hjl : j < nn) :
    own_Met l Z yy16 jdk_42_method_155_code 2 none ws (own_R 1 0 0 14) #[(.int j), (.int nn)] h0 (QrmCKN Z cz ev dg ca cg j nn h0 n0) 0 0 := by
  refine own_hd (fr := #[.val (.int j), .val (.int nn)]) (plainFor_of_name pn_11) (fun {p e s m below meth c s₁} B X0 e0 => ?_)
  have N0 := Fr.nil n0
  have HW0 := HW
  obtain ⟨SC, hcz, SF, hfv, SE, SD, GD, SH, SK2, GC, hcg⟩ := HW
  refine g_iloadN (k := 0) (q := 1) B X0 dK rfl rfl ?_
  refine g_iloadN (k := 1) (q := 2) B X0 dK rfl rfl ?_
  refine g_getS (i := 1053) (q := 5) B X0 (host := "") (Or.inl (kw hw 381 rfl)) Via.refl e0 (SF.ext OO.2) dK rfl (fun T1 X1 e1 => ?_)
  refine g_callS (i := 1059) (W := 0) (q := 8) (argsL := [(.int j), (.int nn), .null]) (rest := []) B X1 (y := yy15) (kw hw 383 rfl) (kw hw 384 rfl) (kw hw 382 rfl) (kw hw 385 rfl) dD e1 (rmCIN l Z a0 hw [] j nn  h0 n0 ZH hj0 hjl) dK rfl rfl (lenOf pd_5 rfl) (Nat.le_of_eq rfl) rfl dD dD dD dD rfl (fun _ L2 T2 X2 hQ2 => ?_)
  obtain ⟨rfl, Nq2, e2⟩ := hQ2
  have N2 := Fr.app N0 Nq2
  refine g_pop (q := 9) B X2 dK rfl rfl ?_
  exact g_ret B X2 dK dD dD e2 (by
    exact ⟨rfl, N2, rfl⟩)
def QrmCK (h0 : Heap) (n0 : Nat) (v : Option Value) (h : Heap) (L : List Loc) : Prop := v = none ∧ Fr n0 L ∧ h = h0
theorem rmCK (l : Launch) (Z : State) (a0 : Array Value) (hw : own_H a0 Z) (ws : List Jvm.Cond) (cz : Int32) (fv : Value) (ev dg ca : Addr) (cg : Nat → Addr) (j nn : Int32) (h0 : Heap) (n0 : Nat) (Z0 : n0 ≤ h0.size) (OO : Old Z n0 h0) (HW : own_W Z cz fv ev dg ca cg) (hj0 : ¬ j < 0) (hjl : j < nn) :
    own_Met l Z yy16 jdk_42_method_155_code 2 none ws (own_R 1 0 0 14) #[(.int j), (.int nn)] h0 (QrmCK h0 n0) 0 0 := by
  rcases HW.2.2.2.1 with e | ⟨fa, e⟩
  · subst e; exact rmCKN l Z a0 hw ws cz ev dg ca cg j nn h0 n0 Z0 OO HW hj0 hjl
  · subst e; exact rmCKR l Z a0 hw ws cz ev dg ca cg fa j nn h0 n0 Z0 OO HW hj0 hjl
theorem pn_13 : plainName "java/lang/StringLatin1" = true := by first | (simp [plainName, overriddenIn]; done) | decide +kernel
theorem pd_6 : parseMethodDescriptor "(II)V" = some ⟨[.int, .int], none⟩ := by decide +kernel
def QrmLC (Z : State) (cz : Int32) (fv : Value) (ev dg ca : Addr) (cg : Nat → Addr) (x tx : Addr) (cs : List Int32) (j : Int32) (h0 : Heap) (n0 : Nat) (v : Option Value) (h : Heap) (L : List Loc) : Prop := v = some (.int (own_L cs j.toNatClampNeg)) ∧ Fr n0 L ∧ h = h0
theorem rmLC (l : Launch) (Z : State) (a0 : Array Value) (hw : own_H a0 Z) (ws : List Jvm.Cond) (cz : Int32) (fv : Value) (ev dg ca : Addr) (cg : Nat → Addr) (x tx : Addr) (cs : List Int32) (j : Int32) (h0 : Heap) (n0 : Nat) (ZH : n0 ≤ h0.size) (OO : Old Z n0 h0) (HW : own_W Z cz fv ev dg ca cg) (Y_x : own_St Z h0 x tx cs) (hj0 : ¬ j < 0) (hjl : j < (Int32.ofNat cs.length)) (ha : own_as cs) :
    own_Met l Z yy55 jdk_43_method_2_code 2 (some .char) ws (own_R 2 0 0 27) #[(.ref tx), (.int j)] h0 (QrmLC Z cz fv ev dg ca cg x tx cs j h0 n0) 0 0 := by
  refine own_hd (fr := #[.val (.ref tx), .val (.int j)]) (plainFor_of_name pn_13) (fun {p e s m below meth c s₁} B X0 e0 => ?_)
  have N0 := Fr.nil n0
  refine g_iloadN (k := 1) (q := 1) B X0 dK rfl rfl ?_
  refine g_aloadN (k := 0) (q := 2) B X0 dK rfl rfl rfl ?_
  refine g_alen (q := 3) B X0 e0 Y_x.2.2.2 dK rfl ?_
  refine g_callS (i := 9) (W := 0) (q := 6) (argsL := [(.int j), (.int (Int32.ofNat cs.length))]) (rest := []) B X0 (y := yy16) (kw hw 378 rfl) (kw hw 379 rfl) (kw hw 4 rfl) (kw hw 380 rfl) dD e0 (rmCK l Z a0 hw [] cz fv ev dg ca cg j (Int32.ofNat cs.length) h0 n0 ZH OO HW hj0 hjl) dK rfl rfl (lenOf pd_6 rfl) (Nat.le_of_eq rfl) rfl dD dD dD dD rfl (fun _ L1 T1 X1 hQ1 => ?_)
  obtain ⟨rfl, Nq1, e1⟩ := hQ1
  have N1 := Fr.app N0 Nq1
  refine g_aloadN (k := 0) (q := 7) B X1 dK rfl rfl rfl ?_
  refine g_iloadN (k := 1) (q := 8) B X1 dK rfl rfl ?_
  refine g_baload (q := 9) (u := (.int ((own_L cs) (j).toNatClampNeg))) B X1 e1 Y_x.2.2.2 hj0 hjl rfl dK rfl ?_
  refine g_sipush (o := 255) (q := 12) (v := 255) B X1 dK rfl rfl ?_
  refine g_iand (q := 13) B X1 dK rfl rfl ?_
  refine g_i2c (q := 14) B X1 dK rfl rfl ?_
  exact g_retN B X1 (by simp) dK dD dD e1 (by
    exact ⟨by rw [ha.ch], N1, rfl⟩)
theorem pd_7 : parseMethodDescriptor "()Z" = some ⟨[], some .boolean⟩ := by decide +kernel
theorem pd_8 : parseMethodDescriptor "([BI)C" = some ⟨[(.array .byte), .int], some .char⟩ := by decide +kernel
def QrmCA (Z : State) (cz : Int32) (fv : Value) (ev dg ca : Addr) (cg : Nat → Addr) (x tx : Addr) (cs : List Int32) (j : Int32) (h0 : Heap) (n0 : Nat) (v : Option Value) (h : Heap) (L : List Loc) : Prop := v = some (.int (own_L cs j.toNatClampNeg)) ∧ Fr n0 L ∧ h = h0
theorem rmCA (l : Launch) (Z : State) (a0 : Array Value) (hw : own_H a0 Z) (ws : List Jvm.Cond) (cz : Int32) (fv : Value) (ev dg ca : Addr) (cg : Nat → Addr) (x tx : Addr) (cs : List Int32) (j : Int32) (h0 : Heap) (n0 : Nat) (ZH : n0 ≤ h0.size) (OO : Old Z n0 h0) (HW : own_W Z cz fv ev dg ca cg) (Y_x : own_St Z h0 x tx cs) (hj0 : ¬ j < 0) (hjl : j < (Int32.ofNat cs.length)) (ha : own_as cs) :
    own_Met l Z yy29 jdk_42_method_56_code 2 (some .char) ws (own_R 3 0 0 40) #[(.ref x), (.int j)] h0 (QrmCA Z cz fv ev dg ca cg x tx cs j h0 n0) 0 0 := by
  refine own_hd (fr := #[.val (.ref x), .val (.int j)]) (plainFor_of_name pn_11) (fun {p e s m below meth c s₁} B X0 e0 => ?_)
  have N0 := Fr.nil n0
  refine g_aloadN (k := 0) (q := 1) B X0 dK rfl rfl rfl ?_
  refine g_callV (i := 492) (W := 0) (q := 4) (a := x) (argsL := []) (rest := []) B X0 (y := yy28) (kw hw 369 rfl) (kw hw 370 rfl) (kw hw 372 rfl) (kw hw 371 rfl) (kw hw 4 rfl) (kw hw 373 rfl) dD e0 Y_x.1 (rmL1 l Z a0 hw [] cz fv ev dg ca cg x tx cs h0 n0 ZH OO HW Y_x) dK rfl rfl (lenOf pd_7 rfl) (Nat.le_of_eq rfl) rfl dD dD dD dD rfl (fun _ L1 T1 X1 hQ1 => ?_)
  obtain ⟨rfl, Nq1, e1⟩ := hQ1
  have N1 := Fr.app N0 Nq1
  refine g_ifNo (cd := .eq) (o := 12) (q := 7) B X1 dK (((if0 _ _).trans (feq (by decide : ¬ ((1 : Int32) = (0 : Int32)))).1)) rfl ?_
  refine g_aloadN (k := 0) (q := 8) B X1 dK rfl rfl rfl ?_
  refine g_getF (i := 9) (q := 11) B X1 (host := "") (Or.inl (kw hw 262 rfl)) Via.refl e1 Y_x.2.1 dK rfl (fun T2 X2 e2 => ?_)
  refine g_iloadN (k := 1) (q := 12) B X2 dK rfl rfl ?_
  refine g_callS (i := 495) (W := 0) (q := 15) (argsL := [(.ref tx), (.int j)]) (rest := []) B X2 (y := yy55) (kw hw 374 rfl) (kw hw 375 rfl) (kw hw 376 rfl) (kw hw 377 rfl) dD e2 (rmLC l Z a0 hw [] cz fv ev dg ca cg x tx cs j h0 n0 ZH OO HW Y_x hj0 hjl ha) dK rfl rfl (lenOf pd_8 rfl) (Nat.le_of_eq rfl) rfl dD dD dD dD rfl (fun _ L3 T3 X3 hQ3 => ?_)
  obtain ⟨rfl, Nq3, e3⟩ := hQ3
  have N3 := Fr.app N1 Nq3
  exact g_retN B X3 (by simp) dK dD dD e3 (by
    exact ⟨by obtain ⟨k, hk, e⟩ := ha.get j.toNatClampNeg; rw [e, own_asN hk], N3, rfl⟩)
def QrmMnY (Z : State) (aa bb : Int32) (h0 : Heap) (n0 : Nat) (v : Option Value) (h : Heap) (L : List Loc) : Prop := v = some (.int bb) ∧ Fr n0 L ∧ h = h0
theorem rmMnY (l : Launch) (Z : State) (a0 : Array Value) (hw : own_H a0 Z) (ws : List Jvm.Cond) (aa bb : Int32) (h0 : Heap) (n0 : Nat) (ZH : n0 ≤ h0.size) (hq : bb < aa) :
    own_Met l Z yy12 jdk_29_method_69_code 2 (some .int) ws (own_R 0 0 0 0) #[(.int aa), (.int bb)] h0 (QrmMnY Z aa bb h0 n0) 0 0 := by
  refine own_hd (fr := #[.val (.int aa), .val (.int bb)]) (Jvm.Free.JP.mathPlain rfl dK) (fun {p e s m below meth c s₁} B X0 e0 => ?_)
  have N0 := Fr.nil n0
  refine g_iloadN (k := 0) (q := 1) B X0 dK rfl rfl ?_
  refine g_iloadN (k := 1) (q := 2) B X0 dK rfl rfl ?_
  refine g_icmpYes (cd := .gt) (o := 7) (q := 9) B X0 dK ((tlt (hq : bb < aa)).2.2.1) dD dD ?_
  refine g_iloadN (k := 1) (q := 10) B X0 dK rfl rfl ?_
  exact g_retI B X0 dK dD dD e0 (by
    exact ⟨rfl, N0, rfl⟩)
def QrmMnX (Z : State) (aa bb : Int32) (h0 : Heap) (n0 : Nat) (v : Option Value) (h : Heap) (L : List Loc) : Prop := v = some (.int aa) ∧ Fr n0 L ∧ h = h0
theorem rmMnX (l : Launch) (Z : State) (a0 : Array Value) (hw : own_H a0 Z) (ws : List Jvm.Cond) (aa bb : Int32) (h0 : Heap) (n0 : Nat) (ZH : n0 ≤ h0.size) (hq : ¬ bb < aa) :
    own_Met l Z yy12 jdk_29_method_69_code 2 (some .int) ws (own_R 0 0 0 0) #[(.int aa), (.int bb)] h0 (QrmMnX Z aa bb h0 n0) 0 0 := by
  refine own_hd (fr := #[.val (.int aa), .val (.int bb)]) (Jvm.Free.JP.mathPlain rfl dK) (fun {p e s m below meth c s₁} B X0 e0 => ?_)
  have N0 := Fr.nil n0
  refine g_iloadN (k := 0) (q := 1) B X0 dK rfl rfl ?_
  refine g_iloadN (k := 1) (q := 2) B X0 dK rfl rfl ?_
  refine g_icmpNo (cd := .gt) (o := 7) (q := 5) B X0 dK ((flt (hq : ¬ (bb < aa))).2.2.1) rfl ?_
  refine g_iloadN (k := 0) (q := 6) B X0 dK rfl rfl ?_
  refine g_goto (o := 4) (q := 10) B X0 dK dD dD ?_
  exact g_retI B X0 dK dD dD e0 (by
    exact ⟨rfl, N0, rfl⟩)
def QrmMx (Z : State) (aa bb : Int32) (h0 : Heap) (n0 : Nat) (v : Option Value) (h : Heap) (L : List Loc) : Prop := v = some (.int bb) ∧ Fr n0 L ∧ h = h0
theorem rmMx (l : Launch) (Z : State) (a0 : Array Value) (hw : own_H a0 Z) (ws : List Jvm.Cond) (aa bb : Int32) (h0 : Heap) (n0 : Nat) (ZH : n0 ≤ h0.size) (hq : aa < bb) :
    own_Met l Z yy56 jdk_29_method_65_code 2 (some .int) ws (own_R 0 0 0 0) #[(.int aa), (.int bb)] h0 (QrmMx Z aa bb h0 n0) 0 0 := by
  refine own_hd (fr := #[.val (.int aa), .val (.int bb)]) (Jvm.Free.JP.mathPlain rfl dK) (fun {p e s m below meth c s₁} B X0 e0 => ?_)
  have N0 := Fr.nil n0
  refine g_iloadN (k := 0) (q := 1) B X0 dK rfl rfl ?_
  refine g_iloadN (k := 1) (q := 2) B X0 dK rfl rfl ?_
  refine g_icmpYes (cd := .lt) (o := 7) (q := 9) B X0 dK ((tlt (hq : aa < bb)).1) dD dD ?_
  refine g_iloadN (k := 1) (q := 10) B X0 dK rfl rfl ?_
  exact g_retI B X0 dK dD dD e0 (by
    exact ⟨rfl, N0, rfl⟩)
theorem pn_14 : plainName "java/lang/AbstractStringBuilder" = true := by first | (simp [plainName, overriddenIn]; done) | decide +kernel
def QrmAi (Z : State) (cz : Int32) (fv : Value) (ev dg ca : Addr) (cg : Nat → Addr) (b : Addr) (h0 : Heap) (n0 : Nat) (v : Option Value) (h : Heap) (L : List Loc) : Prop := v = none ∧ Fr n0 L ∧ Keep h0 h [b] ∧ ∃ tb : Addr, h0.size ≤ tb ∧ own_SB Z h b tb (16 : Int32) []
theorem rmAi (l : Launch) (Z : State) (a0 : Array Value) (hw : own_H a0 Z) (ws : List Jvm.Cond) (cz : Int32) (fv : Value) (ev dg ca : Addr) (cg : Nat → Addr) (b : Addr) (h0 : Heap) (n0 : Nat) (ZH : n0 ≤ h0.size) (OO : Old Z n0 h0) (HW : own_W Z cz fv ev dg ca cg) (E_b : Exa Z h0 b zz7) (F_value_b : Fld Z h0 b zz2 "value" "[B" .null) (F_coder_b : Fld Z h0 b zz2 "coder" "B" (.int (0 : Int32))) (F_count_b : Fld Z h0 b zz2 "count" "I" (.int (0 : Int32))) (g_b : n0 ≤ b) :
    own_Met l Z yy57 jdk_68_method_2_code 2 none ws (own_R 1 1 16 12) #[(.ref b), (.int (16 : Int32))] h0 (QrmAi Z cz fv ev dg ca cg b h0 n0) 1 16 := by
  refine own_hd (fr := #[.val (.ref b), .val (.int (16 : Int32))]) (plainFor_of_name pn_14) (fun {p e s m below meth c s₁} B X0 e0 => ?_)
  have N0 := Fr.nil n0
  have KK := Keep.refl h0 [b]
  have HW0 := HW
  obtain ⟨SC, hcz, SF, hfv, SE, SD, GD, SH, SK2, GC, hcg⟩ := HW
  refine g_aloadN (k := 0) (q := 1) B X0 dK rfl rfl rfl ?_
  refine g_initO (i := 3) (W := 0) (q := 4) B X0 (kw hw 211 rfl) (kw hw 16 rfl) (kw hw 17 rfl) e0 dK rfl dD dD dD rfl (fun T1 X1 e1 => ?_)
  refine g_getS (i := 18) (q := 7) B X1 (host := "") (Or.inl (kw hw 212 rfl)) Via.refl e1 (SC.ext OO.2) dK rfl (fun T2 X2 e2 => ?_)
  refine g_ifNo (cd := .eq) (o := 18) (q := 10) B X2 dK (((if0 _ _).trans (feq (hcz : ¬ (cz = (0 : Int32)))).1)) rfl ?_
  refine g_aloadN (k := 0) (q := 11) B X2 dK rfl rfl rfl ?_
  refine g_iloadN (k := 1) (q := 12) B X2 dK rfl rfl ?_
  refine g_newarr (aty := .byte) (cap := 16) (q := 14) B X2 (kw hw 6 rfl) e2 dD dD dD dK dD dD rfl (fun b3 T3 h3 gz3 X3 e3 E3 G_b3 => ?_)
  have ne_b_b3 := nl E_b.lt gz3
  have sz_b3 := gl KK.1 gz3
  have E_b := E_b.ext E3
  have F_value_b := F_value_b.ext E3
  have F_coder_b := F_coder_b.ext E3
  have F_count_b := F_count_b.ext E3
  have KK := KK.ext E3
  have G_b3 : own_Arf Z h3 b3 .byte (16 : Int32) (fun i => .int ((fun _ => 0 : Nat → Int32) i)) := G_b3
  refine g_putF (i := 15) (q := 17) B X3 (host := "") (Or.inl (kw hw 213 rfl)) Via.refl e3 F_value_b E_b (Or.inl (kw hw 214 rfl)) (kw hw 200 rfl) (ty := (.array .byte)) dD rfl rfl dK rfl (fun T4 h4 X4 e4 W4 => ?_)
  have N4 := Fr.snoc X4 N0 g_b
  have F_value_b := F_value_b.same W4
  have E_b := E_b.wr W4
  have F_coder_b := F_coder_b.other W4 (Or.inr (slot_ne (Or.inl (kw hw 216 rfl)) (Or.inl (kw hw 214 rfl)) dD (t := .byte) (t' := (.array .byte)) dD dD))
  have F_count_b := F_count_b.other W4 (Or.inr (slot_ne (Or.inl (kw hw 228 rfl)) (Or.inl (kw hw 214 rfl)) dD (t := .int) (t' := (.array .byte)) dD dD))
  have G_b3 := G_b3.other W4 (Ne.symm ne_b_b3)
  have KK := KK.wr W4 (mi 0 rfl)
  refine g_aloadN (k := 0) (q := 18) B X4 dK rfl rfl rfl ?_
  refine g_iconst (o := 0) (q := 19) (v := 0) B X4 dK rfl rfl ?_
  refine g_putF (i := 22) (q := 22) B X4 (host := "") (Or.inl (kw hw 215 rfl)) Via.refl e4 F_coder_b E_b (Or.inl (kw hw 216 rfl)) (kw hw 200 rfl) (ty := .byte) dD rfl rfl dK rfl (fun T5 h5 X5 e5 W5 => ?_)
  have N5 := Fr.snoc X5 N4 g_b
  have F_coder_b := F_coder_b.same W5
  have E_b := E_b.wr W5
  have F_value_b := F_value_b.other W5 (Or.inr (slot_ne (Or.inl (kw hw 214 rfl)) (Or.inl (kw hw 216 rfl)) dD (t := (.array .byte)) (t' := .byte) dD dD))
  have F_count_b := F_count_b.other W5 (Or.inr (slot_ne (Or.inl (kw hw 228 rfl)) (Or.inl (kw hw 216 rfl)) dD (t := .int) (t' := .byte) dD dD))
  have G_b3 := G_b3.other W5 (Ne.symm ne_b_b3)
  have KK := KK.wr W5 (mi 0 rfl)
  refine g_goto (o := 16) (q := 38) B X5 dK dD dD ?_
  exact g_ret B X5 dK dD dD e5 (by
    exact ⟨rfl, N5, KK, b3, sz_b3, E_b, F_value_b, F_coder_b, F_count_b, by rw [own_Lnil]; exact G_b3, ne_b_b3⟩)
theorem pn_15 : plainName "java/lang/StringBuilder" = true := by first | (simp [plainName, overriddenIn]; done) | decide +kernel
def QrmSi (Z : State) (cz : Int32) (fv : Value) (ev dg ca : Addr) (cg : Nat → Addr) (b : Addr) (h0 : Heap) (n0 : Nat) (v : Option Value) (h : Heap) (L : List Loc) : Prop := v = none ∧ Fr n0 L ∧ Keep h0 h [b] ∧ ∃ tb : Addr, h0.size ≤ tb ∧ own_SB Z h b tb (16 : Int32) []
theorem rmSi (l : Launch) (Z : State) (a0 : Array Value) (hw : own_H a0 Z) (ws : List Jvm.Cond) (cz : Int32) (fv : Value) (ev dg ca : Addr) (cg : Nat → Addr) (b : Addr) (h0 : Heap) (n0 : Nat) (ZH : n0 ≤ h0.size) (OO : Old Z n0 h0) (HW : own_W Z cz fv ev dg ca cg) (E_b : Exa Z h0 b zz7) (F_value_b : Fld Z h0 b zz2 "value" "[B" .null) (F_coder_b : Fld Z h0 b zz2 "coder" "B" (.int (0 : Int32))) (F_count_b : Fld Z h0 b zz2 "count" "I" (.int (0 : Int32))) (g_b : n0 ≤ b) :
    own_Met l Z yy17 jdk_67_method_1_code 1 none ws (own_R 2 1 16 25) #[(.ref b)] h0 (QrmSi Z cz fv ev dg ca cg b h0 n0) 1 16 := by
  refine own_hd (fr := #[.val (.ref b)]) (plainFor_of_name pn_15) (fun {p e s m below meth c s₁} B X0 e0 => ?_)
  have N0 := Fr.nil n0
  have KK := Keep.refl h0 [b]
  refine g_aloadN (k := 0) (q := 1) B X0 dK rfl rfl rfl ?_
  refine g_bipush (o := 16) (q := 3) (v := 16) B X0 dK rfl rfl ?_
  have kk1 := KK.1
  refine g_callI (i := 1) (W := 0) (q := 6) (a := b) (argsL := [(.int (16 : Int32))]) (rest := []) B X0 (y := yy57) rfl (kw hw 205 rfl) (kw hw 206 rfl) (kw hw 209 rfl) (kw hw 210 rfl) dD e0 (rmAi l Z a0 hw [] cz fv ev dg ca cg b h0 n0 ZH OO HW E_b F_value_b F_coder_b F_count_b g_b) dK rfl rfl (lenOf pd_0 rfl) (Nat.le_of_eq rfl) rfl dD dD dD dD rfl (fun _ L1 T1 X1 hQ1 => ?_)
  obtain ⟨rfl, Nq1, K1, tb, szq1, Yq1⟩ := hQ1
  have N1 := Fr.app N0 Nq1
  have KK := KK.trans K1 (allS (mi 0 rfl) all0)
  have Y_b := Yq1
  have sz_tb := Nat.le_trans kk1 szq1
  exact g_ret B X1 dK dD dD rfl (by
    exact ⟨rfl, N1, KK, tb, sz_tb, Y_b⟩)
def QrmBL (Z : State) (cz : Int32) (fv : Value) (ev dg ca : Addr) (cg : Nat → Addr) (b tb : Addr) (cap : Int32) (cs : List Int32) (h0 : Heap) (n0 : Nat) (v : Option Value) (h : Heap) (L : List Loc) : Prop := v = some (.int (1 : Int32)) ∧ Fr n0 L ∧ h = h0
theorem rmBL (l : Launch) (Z : State) (a0 : Array Value) (hw : own_H a0 Z) (ws : List Jvm.Cond) (cz : Int32) (fv : Value) (ev dg ca : Addr) (cg : Nat → Addr) (b tb : Addr) (cap : Int32) (cs : List Int32) (h0 : Heap) (n0 : Nat) (ZH : n0 ≤ h0.size) (OO : Old Z n0 h0) (HW : own_W Z cz fv ev dg ca cg) (Y_b : own_SB Z h0 b tb cap cs) :
    own_Met l Z yy1 jdk_68_method_68_code 1 (some .boolean) ws (own_R 0 0 0 0) #[(.ref b)] h0 (QrmBL Z cz fv ev dg ca cg b tb cap cs h0 n0) 0 0 := by
  refine own_hd (fr := #[.val (.ref b)]) (plainFor_of_name pn_14) (fun {p e s m below meth c s₁} B X0 e0 => ?_)
  have N0 := Fr.nil n0
  have HW0 := HW
  obtain ⟨SC, hcz, SF, hfv, SE, SD, GD, SH, SK2, GC, hcg⟩ := HW
  refine g_getS (i := 18) (q := 3) B X0 (host := "") (Or.inl (kw hw 212 rfl)) Via.refl e0 (SC.ext OO.2) dK rfl (fun T1 X1 e1 => ?_)
  refine g_ifNo (cd := .eq) (o := 14) (q := 6) B X1 dK (((if0 _ _).trans (feq (hcz : ¬ (cz = (0 : Int32)))).1)) rfl ?_
  refine g_aloadN (k := 0) (q := 7) B X1 dK rfl rfl rfl ?_
  refine g_getF (i := 22) (q := 10) B X1 (host := "") (Or.inl (kw hw 215 rfl)) Via.refl e1 Y_b.2.2.1 dK rfl (fun T2 X2 e2 => ?_)
  refine g_ifNo (cd := .ne) (o := 7) (q := 13) B X2 dK (((if0 _ _).trans (teq (by decide : (0 : Int32) = (0 : Int32))).2)) rfl ?_
  refine g_iconst (o := 1) (q := 14) (v := 1) B X2 dK rfl rfl ?_
  refine g_goto (o := 4) (q := 18) B X2 dK dD dD ?_
  exact g_retN B X2 (by simp) dK dD dD e2 (by
    exact ⟨rfl, N0, rfl⟩)
def QrmGV (Z : State) (b tb : Addr) (cap : Int32) (cs : List Int32) (h0 : Heap) (n0 : Nat) (v : Option Value) (h : Heap) (L : List Loc) : Prop := v = some (.ref tb) ∧ Fr n0 L ∧ h = h0
theorem rmGV (l : Launch) (Z : State) (a0 : Array Value) (hw : own_H a0 Z) (ws : List Jvm.Cond) (b tb : Addr) (cap : Int32) (cs : List Int32) (h0 : Heap) (n0 : Nat) (ZH : n0 ≤ h0.size) (Y_b : own_SB Z h0 b tb cap cs) :
    own_Met l Z yy58 jdk_68_method_64_code 1 (some (.array .byte)) ws (own_R 0 0 0 0) #[(.ref b)] h0 (QrmGV Z b tb cap cs h0 n0) 0 0 := by
  refine own_hd (fr := #[.val (.ref b)]) (plainFor_of_name pn_14) (fun {p e s m below meth c s₁} B X0 e0 => ?_)
  have N0 := Fr.nil n0
  refine g_aloadN (k := 0) (q := 1) B X0 dK rfl rfl rfl ?_
  refine g_getF (i := 15) (q := 4) B X0 (host := "") (Or.inl (kw hw 213 rfl)) Via.refl e0 Y_b.2.1 dK rfl (fun T1 X1 e1 => ?_)
  exact g_retA B X1 rfl rfl rfl dK dD dD e1 (by
    exact ⟨rfl, N0, rfl⟩)
def QrmAn (Z : State) (b tb : Addr) (cap : Int32) (cs : List Int32) (h0 : Heap) (n0 : Nat) (v : Option Value) (h : Heap) (L : List Loc) : Prop := v = some (.int (Int32.ofNat cs.length)) ∧ Fr n0 L ∧ h = h0
theorem rmAn (l : Launch) (Z : State) (a0 : Array Value) (hw : own_H a0 Z) (ws : List Jvm.Cond) (b tb : Addr) (cap : Int32) (cs : List Int32) (h0 : Heap) (n0 : Nat) (ZH : n0 ≤ h0.size) (Y_b : own_SB Z h0 b tb cap cs) :
    own_Met l Z yy18 jdk_68_method_6_code 1 (some .int) ws (own_R 0 0 0 0) #[(.ref b)] h0 (QrmAn Z b tb cap cs h0 n0) 0 0 := by
  refine own_hd (fr := #[.val (.ref b)]) (plainFor_of_name pn_14) (fun {p e s m below meth c s₁} B X0 e0 => ?_)
  have N0 := Fr.nil n0
  refine g_aloadN (k := 0) (q := 1) B X0 dK rfl rfl rfl ?_
  refine g_getF (i := 79) (q := 4) B X0 (host := "") (Or.inl (kw hw 227 rfl)) Via.refl e0 Y_b.2.2.2.1 dK rfl (fun T1 X1 e1 => ?_)
  exact g_retI B X1 dK dD dD e1 (by
    exact ⟨rfl, N0, rfl⟩)
def QrmBn (Z : State) (b tb : Addr) (cap : Int32) (cs : List Int32) (h0 : Heap) (n0 : Nat) (v : Option Value) (h : Heap) (L : List Loc) : Prop := v = some (.int (Int32.ofNat cs.length)) ∧ Fr n0 L ∧ h = h0
theorem rmBn (l : Launch) (Z : State) (a0 : Array Value) (hw : own_H a0 Z) (ws : List Jvm.Cond) (b tb : Addr) (cap : Int32) (cs : List Int32) (h0 : Heap) (n0 : Nat) (ZH : n0 ≤ h0.size) (Y_b : own_SB Z h0 b tb cap cs) :
    own_Met l Z yy59 jdk_67_method_93_code 1 (some .int) ws (own_R 1 0 0 12) #[(.ref b)] h0 (QrmBn Z b tb cap cs h0 n0) 0 0 := by
  refine own_hd (fr := #[.val (.ref b)]) (plainFor_of_name pn_15) (fun {p e s m below meth c s₁} B X0 e0 => ?_)
  have N0 := Fr.nil n0
  refine g_aloadN (k := 0) (q := 1) B X0 dK rfl rfl rfl ?_
  refine g_callU (C := "") (i := 343) (W := 0) (q := 4) (a := b) (argsL := []) (rest := []) B X0 (y := yy18) (kw hw 315 rfl) (own_NI.same (y := yy18) (own_NI.sel (y := yy1) (kw hw 241 rfl) (kw hw 239 rfl)) (kw hw 310 rfl) dD) (kw hw 311 rfl) (kw hw 224 rfl) dD (kw hw 209 rfl) (kw hw 316 rfl) e0 (Ins.self Y_b.1) (rmAn l Z a0 hw [] b tb cap cs h0 n0 ZH Y_b) dK rfl rfl (lenOf pd_3 rfl) (Nat.le_of_eq rfl) rfl dD dD dD dD rfl (fun _ L1 T1 X1 hQ1 => ?_)
  obtain ⟨rfl, Nq1, e1⟩ := hQ1
  have N1 := Fr.app N0 Nq1
  exact g_retI B X1 dK dD dD e1 (by
    exact ⟨rfl, N1, rfl⟩)
def QrmE0 (Z : State) (b tb : Addr) (cap : Int32) (cs : List Int32) (mn : Int32) (h0 : Heap) (n0 : Nat) (v : Option Value) (h : Heap) (L : List Loc) : Prop := v = none ∧ Fr n0 L ∧ h = h0
theorem rmE0 (l : Launch) (Z : State) (a0 : Array Value) (hw : own_H a0 Z) (ws : List Jvm.Cond) (b tb : Addr) (cap : Int32) (cs : List Int32) (mn : Int32) (h0 : Heap) (n0 : Nat) (ZH : n0 ≤ h0.size) (Y_b : own_SB Z h0 b tb cap cs) (hm : ¬ (0 : Int32) < (mn - cap)) :
    own_Met l Z yy7 jdk_68_method_9_code 3 none ws (own_R 0 0 0 0) #[(.ref b), (.int mn)] h0 (QrmE0 Z b tb cap cs mn h0 n0) 0 0 := by
  refine own_hd (fr := #[.val (.ref b), .val (.int mn), .unset]) (plainFor_of_name pn_14) (fun {p e s m below meth c s₁} B X0 e0 => ?_)
  have N0 := Fr.nil n0
  refine g_aloadN (k := 0) (q := 1) B X0 dK rfl rfl rfl ?_
  refine g_getF (i := 15) (q := 4) B X0 (host := "") (Or.inl (kw hw 213 rfl)) Via.refl e0 Y_b.2.1 dK rfl (fun T1 X1 e1 => ?_)
  refine g_alen (q := 5) B X1 e1 Y_b.2.2.2.2.1 dK rfl ?_
  refine g_aloadN (k := 0) (q := 6) B X1 dK rfl rfl rfl ?_
  refine g_getF (i := 22) (q := 9) B X1 (host := "") (Or.inl (kw hw 215 rfl)) Via.refl e1 Y_b.2.2.1 dK rfl (fun T2 X2 e2 => ?_)
  refine g_ishr (q := 10) (v := cap) B X2 dK (own_shr0 _) rfl ?_
  refine g_istoreN (k := 2) (q := 11) (l' := #[.val (.ref b), .val (.int mn), .val (.int cap)]) B X2 dK rfl rfl ?_
  refine g_iloadN (k := 1) (q := 12) B X2 dK rfl rfl ?_
  refine g_iloadN (k := 2) (q := 13) B X2 dK rfl rfl ?_
  refine g_isub (q := 14) B X2 dK rfl rfl ?_
  refine g_ifYes (cd := .le) (o := 24) (q := 38) B X2 dK (((if0 _ _).trans (flt (hm : ¬ ((0 : Int32) < (mn - cap)))).2.2.2)) dD dD ?_
  exact g_ret B X2 dK dD dD e2 (by
    exact ⟨rfl, N0, rfl⟩)
theorem pn_16 : plainName "java/lang/Integer" = true := by first | (simp [plainName, overriddenIn]; done) | decide +kernel
def QrmSz (Z : State) (d : Nat) (h0 : Heap) (n0 : Nat) (v : Option Value) (h : Heap) (L : List Loc) : Prop := v = some (.int (1 : Int32)) ∧ Fr n0 L ∧ h = h0
theorem rmSz (l : Launch) (Z : State) (a0 : Array Value) (hw : own_H a0 Z) (ws : List Jvm.Cond) (d : Nat) (h0 : Heap) (n0 : Nat) (ZH : n0 ≤ h0.size) (hd : d < 10) :
    own_Met l Z yy60 jdk_33_method_13_code 4 (some .int) ws (own_R 0 0 0 0) #[(.int (Int32.ofNat d))] h0 (QrmSz Z d h0 n0) 0 0 := by
  refine own_hd (fr := #[.val (.int (Int32.ofNat d)), .unset, .unset, .unset]) (plainFor_of_name pn_16) (fun {p e s m below meth c s₁} B X0 e0 => ?_)
  have N0 := Fr.nil n0
  refine g_iconst (o := 1) (q := 1) (v := 1) B X0 dK rfl rfl ?_
  refine g_istoreN (k := 1) (q := 2) (l' := #[.val (.int (Int32.ofNat d)), .val (.int (1 : Int32)), .unset, .unset]) B X0 dK rfl rfl ?_
  refine g_iloadN (k := 0) (q := 3) B X0 dK rfl rfl ?_
  refine g_ifNo (cd := .lt) (o := 8) (q := 6) B X0 dK (((if0 _ _).trans (flt (own_inn (by omega) : ¬ ((Int32.ofNat d) < (0 : Int32)))).1)) rfl ?_
  refine g_iconst (o := 0) (q := 7) (v := 0) B X0 dK rfl rfl ?_
  refine g_istoreN (k := 1) (q := 8) (l' := #[.val (.int (Int32.ofNat d)), .val (.int (0 : Int32)), .unset, .unset]) B X0 dK rfl rfl ?_
  refine g_iloadN (k := 0) (q := 9) B X0 dK rfl rfl ?_
  refine g_ineg (q := 10) B X0 dK rfl rfl ?_
  refine g_istoreN (k := 0) (q := 11) (l' := #[.val (.int (-(Int32.ofNat d))), .val (.int (0 : Int32)), .unset, .unset]) B X0 dK rfl rfl ?_
  refine g_bipush (o := -10) (q := 13) (v := -10) B X0 dK rfl rfl ?_
  refine g_istoreN (k := 2) (q := 14) (l' := #[.val (.int (-(Int32.ofNat d))), .val (.int (0 : Int32)), .val (.int (-10 : Int32)), .unset]) B X0 dK rfl rfl ?_
  refine g_iconst (o := 1) (q := 15) (v := 1) B X0 dK rfl rfl ?_
  refine g_istoreN (k := 3) (q := 16) (l' := #[.val (.int (-(Int32.ofNat d))), .val (.int (0 : Int32)), .val (.int (-10 : Int32)), .val (.int (1 : Int32))]) B X0 dK rfl rfl ?_
  refine g_iloadN (k := 3) (q := 17) B X0 dK rfl rfl ?_
  refine g_bipush (o := 10) (q := 19) (v := 10) B X0 dK rfl rfl ?_
  refine g_icmpNo (cd := .ge) (o := 23) (q := 22) B X0 dK ((tlt (by decide : (1 : Int32) < (10 : Int32))).2.1) rfl ?_
  refine g_iloadN (k := 0) (q := 23) B X0 dK rfl rfl ?_
  refine g_iloadN (k := 2) (q := 24) B X0 dK rfl rfl ?_
  refine g_icmpNo (cd := .le) (o := 7) (q := 27) B X0 dK ((tlt (own_dneg hd : (-10 : Int32) < (-(Int32.ofNat d)))).2.2.2) rfl ?_
  refine g_iloadN (k := 3) (q := 28) B X0 dK rfl rfl ?_
  refine g_iloadN (k := 1) (q := 29) B X0 dK rfl rfl ?_
  refine g_iadd (q := 30) (v := (1 : Int32)) B X0 dK rfl rfl ?_
  exact g_retI B X0 dK dD dD e0 (by
    exact ⟨rfl, N0, rfl⟩)
def QrmGC (Z : State) (cz : Int32) (fv : Value) (ev dg ca : Addr) (cg : Nat → Addr) (d : Nat) (tb : Addr) (cap : Int32) (cs : List Int32) (h0 : Heap) (n0 : Nat) (v : Option Value) (h : Heap) (L : List Loc) : Prop := v = some (.int (Int32.ofNat cs.length)) ∧ Fr n0 L ∧ Keep h0 h [tb] ∧ own_Arf Z h tb .byte cap (fun i => .int (own_L (cs ++ [Int32.ofNat (48 + d)]) i))
theorem rmGC (l : Launch) (Z : State) (a0 : Array Value) (hw : own_H a0 Z) (ws : List Jvm.Cond) (cz : Int32) (fv : Value) (ev dg ca : Addr) (cg : Nat → Addr) (d : Nat) (tb : Addr) (cap : Int32) (cs : List Int32) (h0 : Heap) (n0 : Nat) (ZH : n0 ≤ h0.size) (OO : Old Z n0 h0) (HW : own_W Z cz fv ev dg ca cg) (hd : d < 10) (G_tb : own_Arf Z h0 tb .byte cap (fun i => .int (own_L cs i))) (g_tb : n0 ≤ tb) (hn : cs.length < 256) (hl : (Int32.ofNat cs.length) < cap) :
    own_Met l Z yy61 jdk_33_method_12_code 7 (some .int) ws (own_R 0 0 0 0) #[(.int (Int32.ofNat d)), (.int (Int32.ofNat (cs.length + 1))), (.ref tb)] h0 (QrmGC Z cz fv ev dg ca cg d tb cap cs h0 n0) 0 0 := by
  refine own_hd (fr := #[.val (.int (Int32.ofNat d)), .val (.int (Int32.ofNat (cs.length + 1))), .val (.ref tb), .unset, .unset, .unset, .unset]) (plainFor_of_name pn_16) (fun {p e s m below meth c s₁} B X0 e0 => ?_)
  have N0 := Fr.nil n0
  have KK := Keep.refl h0 [tb]
  have HW0 := HW
  obtain ⟨SC, hcz, SF, hfv, SE, SD, GD, SH, SK2, GC, hcg⟩ := HW
  refine g_iloadN (k := 1) (q := 1) B X0 dK rfl rfl ?_
  refine g_istore (k := 5) (q := 3) (l' := #[.val (.int (Int32.ofNat d)), .val (.int (Int32.ofNat (cs.length + 1))), .val (.ref tb), .unset, .unset, .val (.int (Int32.ofNat (cs.length + 1))), .unset]) B X0 dK rfl rfl ?_
  refine g_iloadN (k := 0) (q := 4) B X0 dK rfl rfl ?_
  refine g_ifYes (cd := .ge) (o := 7) (q := 11) B X0 dK (((if0 _ _).trans (flt (own_inn (by omega) : ¬ ((Int32.ofNat d) < (0 : Int32)))).2.1)) dD dD ?_
  refine g_iconst (o := 0) (q := 12) (v := 0) B X0 dK rfl rfl ?_
  refine g_istore (k := 6) (q := 14) (l' := #[.val (.int (Int32.ofNat d)), .val (.int (Int32.ofNat (cs.length + 1))), .val (.ref tb), .unset, .unset, .val (.int (Int32.ofNat (cs.length + 1))), .val (.int (0 : Int32))]) B X0 dK rfl rfl ?_
  refine g_iload (k := 6) (q := 16) B X0 dK rfl rfl ?_
  refine g_ifNo (cd := .ne) (o := 6) (q := 19) B X0 dK (((if0 _ _).trans (teq (by decide : (0 : Int32) = (0 : Int32))).2)) rfl ?_
  refine g_iloadN (k := 0) (q := 20) B X0 dK rfl rfl ?_
  refine g_ineg (q := 21) B X0 dK rfl rfl ?_
  refine g_istoreN (k := 0) (q := 22) (l' := #[.val (.int (-(Int32.ofNat d))), .val (.int (Int32.ofNat (cs.length + 1))), .val (.ref tb), .unset, .unset, .val (.int (Int32.ofNat (cs.length + 1))), .val (.int (0 : Int32))]) B X0 dK rfl rfl ?_
  refine g_iloadN (k := 0) (q := 23) B X0 dK rfl rfl ?_
  refine g_bipush (o := -100) (q := 25) (v := -100) B X0 dK rfl rfl ?_
  refine g_icmpYes (cd := .gt) (o := 47) (q := 72) B X0 dK ((tlt (own_dneg2 hd : (-100 : Int32) < (-(Int32.ofNat d)))).2.2.1) dD dD ?_
  refine g_aloadN (k := 2) (q := 73) B X0 dK rfl rfl rfl ?_
  refine g_iinc (k := 5) (o := -1) (q := 76) (v := ((Int32.ofNat (cs.length + 1)) + (-1 : Int32))) (l' := #[.val (.int (-(Int32.ofNat d))), .val (.int (Int32.ofNat (cs.length + 1))), .val (.ref tb), .unset, .unset, .val (.int ((Int32.ofNat (cs.length + 1)) + (-1 : Int32))), .val (.int (0 : Int32))]) B X0 dK rfl (congrArg (fun z => (Int32.ofNat (cs.length + 1)) + z) (by decide : Int32.ofInt (-1) = (-1 : Int32))) rfl rfl ?_
  rw [own_dec]
  refine g_iload (k := 5) (q := 78) B X0 dK rfl rfl ?_
  refine g_getS (i := 83) (q := 81) B X0 (host := "") (Or.inl (kw hw 246 rfl)) Via.refl e0 (SD.ext OO.2) dK rfl (fun T1 X1 e1 => ?_)
  refine g_iloadN (k := 0) (q := 82) B X1 dK rfl rfl ?_
  refine g_ineg (q := 83) B X1 dK rfl rfl ?_
  rw [Int32.neg_neg]
  refine g_baload (q := 84) (u := (.int (own_do ((Int32.ofNat d)).toNatClampNeg))) B X1 e1 (GD.ext OO.2) (own_inn (by omega)) (own_d100 hd) rfl dK rfl ?_
  refine g_bastore (q := 85) B X1 e1 G_tb (own_inn (by omega)) hl dK rfl (fun T2 h2 X2 e2 W2 G_tb => ?_)
  have G_tb : own_Arf Z h2 tb .byte cap (fun i => .int ((own_upd (own_L cs) (Int32.ofNat cs.length) (nar .byte (own_do ((Int32.ofNat d)).toNatClampNeg))) i)) := G_tb.congr (fun i _ => by unfold own_upd; split <;> rfl)
  have N2 := Fr.snoc X2 N0 g_tb
  have KK := KK.wr W2 (mi 0 rfl)
  refine g_iloadN (k := 0) (q := 86) B X2 dK rfl rfl ?_
  refine g_bipush (o := -9) (q := 88) (v := -9) B X2 dK rfl rfl ?_
  refine g_icmpYes (cd := .ge) (o := 16) (q := 104) B X2 dK ((flt (own_dneg3 hd : ¬ ((-(Int32.ofNat d)) < (-9 : Int32)))).2.1) dD dD ?_
  refine g_iload (k := 6) (q := 106) B X2 dK rfl rfl ?_
  refine g_ifYes (cd := .eq) (o := 12) (q := 118) B X2 dK (((if0 _ _).trans (teq (by decide : (0 : Int32) = (0 : Int32))).1)) dD dD ?_
  refine g_iload (k := 5) (q := 120) B X2 dK rfl rfl ?_
  exact g_retI B X2 dK dD dD e2 (by
    rw [own_ddg hd, own_Lapp cs _ hn] at G_tb
    exact ⟨rfl, N2, KK, G_tb⟩)
theorem pd_9 : parseMethodDescriptor "(I)I" = some ⟨[.int], some .int⟩ := by decide +kernel
theorem pd_10 : parseMethodDescriptor "(II[B)I" = some ⟨[.int, .int, (.array .byte)], some .int⟩ := by decide +kernel
def QrmAI (Z : State) (cz : Int32) (fv : Value) (ev dg ca : Addr) (cg : Nat → Addr) (b tb : Addr) (cs : List Int32) (d : Nat) (h0 : Heap) (n0 : Nat) (v : Option Value) (h : Heap) (L : List Loc) : Prop := v = some (.ref b) ∧ Fr n0 L ∧ Keep h0 h [b, tb] ∧ own_SB Z h b tb (16 : Int32) (cs ++ [Int32.ofNat (48 + d)])
theorem rmAI (l : Launch) (Z : State) (a0 : Array Value) (hw : own_H a0 Z) (ws : List Jvm.Cond) (cz : Int32) (fv : Value) (ev dg ca : Addr) (cg : Nat → Addr) (b tb : Addr) (cs : List Int32) (d : Nat) (h0 : Heap) (n0 : Nat) (ZH : n0 ≤ h0.size) (OO : Old Z n0 h0) (HW : own_W Z cz fv ev dg ca cg) (Y_b : own_SB Z h0 b tb (16 : Int32) cs) (g_b : n0 ≤ b) (g_tb : n0 ≤ tb) (hd : d < 10) (hn : cs.length < 16) :
    own_Met l Z yy30 jdk_68_method_32_code 4 (some (.object zz2)) ws (own_R 1 0 0 18) #[(.ref b), (.int (Int32.ofNat d))] h0 (QrmAI Z cz fv ev dg ca cg b tb cs d h0 n0) 0 0 := by
  refine own_hd (fr := #[.val (.ref b), .val (.int (Int32.ofNat d)), .unset, .unset]) (plainFor_of_name pn_14) (fun {p e s m below meth c s₁} B X0 e0 => ?_)
  have N0 := Fr.nil n0
  have KK := Keep.refl h0 [b, tb]
  have ne_b_tb := Y_b.2.2.2.2.2
  obtain ⟨E_b, F_value_b, F_coder_b, F_count_b, G_tb, ne_b_tb⟩ := Y_b
  refine g_aloadN (k := 0) (q := 1) B X0 dK rfl rfl rfl ?_
  refine g_getF (i := 79) (q := 4) B X0 (host := "") (Or.inl (kw hw 227 rfl)) Via.refl e0 F_count_b dK rfl (fun T1 X1 e1 => ?_)
  refine g_istoreN (k := 2) (q := 5) (l' := #[.val (.ref b), .val (.int (Int32.ofNat d)), .val (.int (Int32.ofNat cs.length)), .unset]) B X1 dK rfl rfl ?_
  refine g_iloadN (k := 2) (q := 6) B X1 dK rfl rfl ?_
  refine g_iloadN (k := 1) (q := 7) B X1 dK rfl rfl ?_
  refine g_callS (i := 245) (W := 1) (q := 10) (argsL := [(.int (Int32.ofNat d))]) (rest := [(.int (Int32.ofNat cs.length))]) B X1 (y := yy60) (kw hw 229 rfl) (kw hw 230 rfl) (kw hw 231 rfl) (kw hw 232 rfl) dD e1 (rmSz l Z a0 hw [] d h0 n0 ZH hd) dK rfl rfl (lenOf pd_9 rfl) (Nat.le_of_eq rfl) rfl dD dD dD dD rfl (fun _ L2 T2 X2 hQ2 => ?_)
  obtain ⟨rfl, Nq2, e2⟩ := hQ2
  have N2 := Fr.app N0 Nq2
  refine g_iadd (q := 11) B X2 dK rfl rfl ?_
  rw [own_suc]
  refine g_istoreN (k := 3) (q := 12) (l' := #[.val (.ref b), .val (.int (Int32.ofNat d)), .val (.int (Int32.ofNat cs.length)), .val (.int (Int32.ofNat (cs.length + 1)))]) B X2 dK rfl rfl ?_
  refine g_aloadN (k := 0) (q := 13) B X2 dK rfl rfl rfl ?_
  refine g_iloadN (k := 3) (q := 14) B X2 dK rfl rfl ?_
  refine g_callP (i := 100) (W := 0) (q := 17) (a := b) (argsL := [(.int (Int32.ofNat (cs.length + 1)))]) (rest := []) B X2 (y := yy7) (kw hw 233 rfl) (own_NI.sel (y := yy1) (kw hw 241 rfl) (kw hw 239 rfl)) (kw hw 234 rfl) (kw hw 235 rfl) (kw hw 209 rfl) (kw hw 237 rfl) dD e2 E_b (rmE0 l Z a0 hw [] b tb (16 : Int32) cs (Int32.ofNat (cs.length + 1)) h0 n0 ZH ⟨E_b, F_value_b, F_coder_b, F_count_b, G_tb, ne_b_tb⟩ (own_ec (by omega))) dK rfl rfl (lenOf pd_0 rfl) (Nat.le_of_eq rfl) rfl dD dD dD dD rfl (fun _ L3 T3 X3 hQ3 => ?_)
  obtain ⟨rfl, Nq3, e3⟩ := hQ3
  have N3 := Fr.app N2 Nq3
  refine g_aloadN (k := 0) (q := 18) B X3 dK rfl rfl rfl ?_
  refine g_callV (i := 83) (W := 0) (q := 21) (a := b) (argsL := []) (rest := []) B X3 (y := yy1) (kw hw 238 rfl) (kw hw 239 rfl) (kw hw 241 rfl) (kw hw 240 rfl) (kw hw 209 rfl) (kw hw 242 rfl) dD e3 E_b (rmBL l Z a0 hw [] cz fv ev dg ca cg b tb (16 : Int32) cs h0 n0 ZH OO HW ⟨E_b, F_value_b, F_coder_b, F_count_b, G_tb, ne_b_tb⟩) dK rfl rfl (lenOf pd_7 rfl) (Nat.le_of_eq rfl) rfl dD dD dD dD rfl (fun _ L4 T4 X4 hQ4 => ?_)
  obtain ⟨rfl, Nq4, e4⟩ := hQ4
  have N4 := Fr.app N3 Nq4
  refine g_ifNo (cd := .eq) (o := 16) (q := 24) B X4 dK (((if0 _ _).trans (feq (by decide : ¬ ((1 : Int32) = (0 : Int32)))).1)) rfl ?_
  refine g_iloadN (k := 1) (q := 25) B X4 dK rfl rfl ?_
  refine g_iloadN (k := 3) (q := 26) B X4 dK rfl rfl ?_
  refine g_aloadN (k := 0) (q := 27) B X4 dK rfl rfl rfl ?_
  refine g_getF (i := 15) (q := 30) B X4 (host := "") (Or.inl (kw hw 213 rfl)) Via.refl e4 F_value_b dK rfl (fun T5 X5 e5 => ?_)
  refine g_callS (i := 248) (W := 0) (q := 33) (argsL := [(.int (Int32.ofNat d)), (.int (Int32.ofNat (cs.length + 1))), (.ref tb)]) (rest := []) B X5 (y := yy61) (kw hw 243 rfl) (kw hw 244 rfl) (kw hw 231 rfl) (kw hw 245 rfl) dD e5 (rmGC l Z a0 hw [] cz fv ev dg ca cg d tb (16 : Int32) cs h0 n0 ZH OO HW hd G_tb g_tb (by omega) (own_l16 hn)) dK rfl rfl (lenOf pd_10 rfl) (Nat.le_of_eq rfl) rfl dD dD dD dD rfl (fun _ L6 T6 X6 hQ6 => ?_)
  obtain ⟨rfl, Nq6, K6, Gq6⟩ := hQ6
  have N6 := Fr.app N4 Nq6
  have E_b := E_b.keep K6
  have F_value_b := F_value_b.keep K6 (ninS ne_b_tb nin0)
  have F_coder_b := F_coder_b.keep K6 (ninS ne_b_tb nin0)
  have F_count_b := F_count_b.keep K6 (ninS ne_b_tb nin0)
  have KK := KK.trans K6 (allS (mi 1 rfl) all0)
  have G_tb := Gq6
  refine g_pop (q := 34) B X6 dK rfl rfl ?_
  refine g_goto (o := 14) (q := 48) B X6 dK dD dD ?_
  refine g_aloadN (k := 0) (q := 49) B X6 dK rfl rfl rfl ?_
  refine g_iloadN (k := 3) (q := 50) B X6 dK rfl rfl ?_
  refine g_putF (i := 79) (q := 53) B X6 (host := "") (Or.inl (kw hw 227 rfl)) Via.refl rfl F_count_b E_b (Or.inl (kw hw 228 rfl)) (kw hw 200 rfl) (ty := .int) dD rfl rfl dK rfl (fun T7 h7 X7 e7 W7 => ?_)
  have N7 := Fr.snoc X7 N6 g_b
  have F_count_b := F_count_b.same W7
  have E_b := E_b.wr W7
  have F_value_b := F_value_b.other W7 (Or.inr (slot_ne (Or.inl (kw hw 214 rfl)) (Or.inl (kw hw 228 rfl)) dD (t := (.array .byte)) (t' := .int) dD dD))
  have F_coder_b := F_coder_b.other W7 (Or.inr (slot_ne (Or.inl (kw hw 216 rfl)) (Or.inl (kw hw 228 rfl)) dD (t := .byte) (t' := .int) dD dD))
  have G_tb := G_tb.other W7 (Ne.symm ne_b_tb)
  have KK := KK.wr W7 (mi 0 rfl)
  refine g_aloadN (k := 0) (q := 54) B X7 dK rfl rfl rfl ?_
  exact g_retA B X7 rfl rfl rfl dK dD dD e7 (by
    rw [own_lenS] at F_count_b
    exact ⟨rfl, N7, KK, E_b, F_value_b, F_coder_b, F_count_b, G_tb, ne_b_tb⟩)
theorem pd_11 : parseMethodDescriptor "(I)Ljava/lang/AbstractStringBuilder;" = some ⟨[.int], some (.object "java/lang/AbstractStringBuilder")⟩ := by decide +kernel
def QrmBI (Z : State) (cz : Int32) (fv : Value) (ev dg ca : Addr) (cg : Nat → Addr) (b tb : Addr) (cs : List Int32) (d : Nat) (h0 : Heap) (n0 : Nat) (v : Option Value) (h : Heap) (L : List Loc) : Prop := v = some (.ref b) ∧ Fr n0 L ∧ Keep h0 h [b, tb] ∧ own_SB Z h b tb (16 : Int32) (cs ++ [Int32.ofNat (48 + d)])
theorem rmBI (l : Launch) (Z : State) (a0 : Array Value) (hw : own_H a0 Z) (ws : List Jvm.Cond) (cz : Int32) (fv : Value) (ev dg ca : Addr) (cg : Nat → Addr) (b tb : Addr) (cs : List Int32) (d : Nat) (h0 : Heap) (n0 : Nat) (ZH : n0 ≤ h0.size) (OO : Old Z n0 h0) (HW : own_W Z cz fv ev dg ca cg) (Y_b : own_SB Z h0 b tb (16 : Int32) cs) (g_b : n0 ≤ b) (g_tb : n0 ≤ tb) (hd : d < 10) (hn : cs.length < 16) :
    own_Met l Z yy19 jdk_67_method_15_code 2 (some (.object zz7)) ws (own_R 2 0 0 33) #[(.ref b), (.int (Int32.ofNat d))] h0 (QrmBI Z cz fv ev dg ca cg b tb cs d h0 n0) 0 0 := by
  refine own_hd (fr := #[.val (.ref b), .val (.int (Int32.ofNat d))]) (plainFor_of_name pn_15) (fun {p e s m below meth c s₁} B X0 e0 => ?_)
  have N0 := Fr.nil n0
  have KK := Keep.refl h0 [b, tb]
  refine g_aloadN (k := 0) (q := 1) B X0 dK rfl rfl rfl ?_
  refine g_iloadN (k := 1) (q := 2) B X0 dK rfl rfl ?_
  refine g_callU (C := "") (i := 53) (W := 0) (q := 5) (a := b) (argsL := [(.int (Int32.ofNat d))]) (rest := []) B X0 (y := yy30) (kw hw 222 rfl) (own_NI.same (y := yy30) (own_NI.sel (y := yy1) (kw hw 241 rfl) (kw hw 239 rfl)) (kw hw 225 rfl) dD) (kw hw 223 rfl) (kw hw 224 rfl) dD (kw hw 209 rfl) (kw hw 226 rfl) e0 (Ins.self Y_b.1) (rmAI l Z a0 hw [] cz fv ev dg ca cg b tb cs d h0 n0 ZH OO HW Y_b g_b g_tb hd hn) dK rfl rfl (lenOf pd_11 rfl) (Nat.le_of_eq rfl) rfl dD dD dD dD rfl (fun _ L1 T1 X1 hQ1 => ?_)
  obtain ⟨rfl, Nq1, K1, Yq1_0⟩ := hQ1
  have N1 := Fr.app N0 Nq1
  have KK := KK.trans K1 (allS (mi 0 rfl) (allS (mi 1 rfl) all0))
  have Y_b := Yq1_0
  refine g_pop (q := 6) B X1 dK rfl rfl ?_
  refine g_aloadN (k := 0) (q := 7) B X1 dK rfl rfl rfl ?_
  exact g_retA B X1 rfl rfl rfl dK dD dD rfl (by
    exact ⟨rfl, N1, KK, Y_b⟩)
def QrmCE (Z : State) (ch : Nat) (h0 : Heap) (n0 : Nat) (v : Option Value) (h : Heap) (L : List Loc) : Prop := v = some (.int (1 : Int32)) ∧ Fr n0 L ∧ h = h0
theorem rmCE (l : Launch) (Z : State) (a0 : Array Value) (hw : own_H a0 Z) (ws : List Jvm.Cond) (ch : Nat) (h0 : Heap) (n0 : Nat) (ZH : n0 ≤ h0.size) (hc : ch < 128) :
    own_Met l Z yy62 jdk_43_method_3_code 1 (some .boolean) ws (own_R 0 0 0 0) #[(.int (Int32.ofNat ch))] h0 (QrmCE Z ch h0 n0) 0 0 := by
  refine own_hd (fr := #[.val (.int (Int32.ofNat ch))]) (plainFor_of_name pn_13) (fun {p e s m below meth c s₁} B X0 e0 => ?_)
  have N0 := Fr.nil n0
  refine g_iloadN (k := 0) (q := 1) B X0 dK rfl rfl ?_
  refine g_sipush (o := 255) (q := 4) (v := 255) B X0 dK rfl rfl ?_
  refine g_icmpNo (cd := .gt) (o := 7) (q := 7) B X0 dK ((flt (own_c255 hc : ¬ ((255 : Int32) < (Int32.ofNat ch)))).2.2.1) rfl ?_
  refine g_iconst (o := 1) (q := 8) (v := 1) B X0 dK rfl rfl ?_
  refine g_goto (o := 4) (q := 12) B X0 dK dD dD ?_
  exact g_retN B X0 (by simp) dK dD dD e0 (by
    exact ⟨rfl, N0, rfl⟩)
theorem pd_12 : parseMethodDescriptor "(C)Z" = some ⟨[.char], some .boolean⟩ := by decide +kernel
def QrmAC2 (Z : State) (cz : Int32) (fv : Value) (ev dg ca : Addr) (cg : Nat → Addr) (b tb : Addr) (cs : List Int32) (ch : Nat) (h0 : Heap) (n0 : Nat) (v : Option Value) (h : Heap) (L : List Loc) : Prop := v = some (.ref b) ∧ Fr n0 L ∧ Keep h0 h [b, tb] ∧ own_SB Z h b tb (16 : Int32) (cs ++ [(Int32.ofNat ch)])
theorem rmAC2 (l : Launch) (Z : State) (a0 : Array Value) (hw : own_H a0 Z) (ws : List Jvm.Cond) (cz : Int32) (fv : Value) (ev dg ca : Addr) (cg : Nat → Addr) (b tb : Addr) (cs : List Int32) (ch : Nat) (h0 : Heap) (n0 : Nat) (ZH : n0 ≤ h0.size) (OO : Old Z n0 h0) (HW : own_W Z cz fv ev dg ca cg) (Y_b : own_SB Z h0 b tb (16 : Int32) cs) (g_b : n0 ≤ b) (g_tb : n0 ≤ tb) (hc : ch < 128) (hn : cs.length < 16) :
    own_Met l Z yy31 jdk_68_method_31_code 2 (some (.object zz2)) ws (own_R 1 0 0 14) #[(.ref b), (.int (Int32.ofNat ch))] h0 (QrmAC2 Z cz fv ev dg ca cg b tb cs ch h0 n0) 0 0 := by
  refine own_hd (fr := #[.val (.ref b), .val (.int (Int32.ofNat ch))]) (plainFor_of_name pn_14) (fun {p e s m below meth c s₁} B X0 e0 => ?_)
  have N0 := Fr.nil n0
  have KK := Keep.refl h0 [b, tb]
  have ne_b_tb := Y_b.2.2.2.2.2
  obtain ⟨E_b, F_value_b, F_coder_b, F_count_b, G_tb, ne_b_tb⟩ := Y_b
  refine g_aloadN (k := 0) (q := 1) B X0 dK rfl rfl rfl ?_
  refine g_aloadN (k := 0) (q := 2) B X0 dK rfl rfl rfl ?_
  refine g_getF (i := 79) (q := 5) B X0 (host := "") (Or.inl (kw hw 227 rfl)) Via.refl e0 F_count_b dK rfl (fun T1 X1 e1 => ?_)
  refine g_iconst (o := 1) (q := 6) (v := 1) B X1 dK rfl rfl ?_
  refine g_iadd (q := 7) B X1 dK rfl rfl ?_
  rw [own_suc]
  refine g_callP (i := 100) (W := 0) (q := 10) (a := b) (argsL := [(.int (Int32.ofNat (cs.length + 1)))]) (rest := []) B X1 (y := yy7) (kw hw 233 rfl) (own_NI.sel (y := yy1) (kw hw 241 rfl) (kw hw 239 rfl)) (kw hw 234 rfl) (kw hw 235 rfl) (kw hw 209 rfl) (kw hw 237 rfl) dD e1 E_b (rmE0 l Z a0 hw [] b tb (16 : Int32) cs (Int32.ofNat (cs.length + 1)) h0 n0 ZH ⟨E_b, F_value_b, F_coder_b, F_count_b, G_tb, ne_b_tb⟩ (own_ec (by omega))) dK rfl rfl (lenOf pd_0 rfl) (Nat.le_of_eq rfl) rfl dD dD dD dD rfl (fun _ L2 T2 X2 hQ2 => ?_)
  obtain ⟨rfl, Nq2, e2⟩ := hQ2
  have N2 := Fr.app N0 Nq2
  refine g_aloadN (k := 0) (q := 11) B X2 dK rfl rfl rfl ?_
  refine g_callV (i := 83) (W := 0) (q := 14) (a := b) (argsL := []) (rest := []) B X2 (y := yy1) (kw hw 238 rfl) (kw hw 239 rfl) (kw hw 241 rfl) (kw hw 240 rfl) (kw hw 209 rfl) (kw hw 242 rfl) dD e2 E_b (rmBL l Z a0 hw [] cz fv ev dg ca cg b tb (16 : Int32) cs h0 n0 ZH OO HW ⟨E_b, F_value_b, F_coder_b, F_count_b, G_tb, ne_b_tb⟩) dK rfl rfl (lenOf pd_7 rfl) (Nat.le_of_eq rfl) rfl dD dD dD dD rfl (fun _ L3 T3 X3 hQ3 => ?_)
  obtain ⟨rfl, Nq3, e3⟩ := hQ3
  have N3 := Fr.app N2 Nq3
  refine g_ifNo (cd := .eq) (o := 31) (q := 17) B X3 dK (((if0 _ _).trans (feq (by decide : ¬ ((1 : Int32) = (0 : Int32)))).1)) rfl ?_
  refine g_iloadN (k := 1) (q := 18) B X3 dK rfl rfl ?_
  refine g_callS (i := 191) (W := 0) (q := 21) (argsL := [(.int (Int32.ofNat ch))]) (rest := []) B X3 (y := yy62) (kw hw 533 rfl) (kw hw 534 rfl) (kw hw 376 rfl) (kw hw 535 rfl) dD e3 (rmCE l Z a0 hw [] ch h0 n0 ZH hc) dK rfl rfl (lenOf pd_12 rfl) (Nat.le_of_eq rfl) rfl dD dD dD dD rfl (fun _ L4 T4 X4 hQ4 => ?_)
  obtain ⟨rfl, Nq4, e4⟩ := hQ4
  have N4 := Fr.app N3 Nq4
  refine g_ifNo (cd := .eq) (o := 24) (q := 24) B X4 dK (((if0 _ _).trans (feq (by decide : ¬ ((1 : Int32) = (0 : Int32)))).1)) rfl ?_
  refine g_aloadN (k := 0) (q := 25) B X4 dK rfl rfl rfl ?_
  refine g_getF (i := 15) (q := 28) B X4 (host := "") (Or.inl (kw hw 213 rfl)) Via.refl e4 F_value_b dK rfl (fun T5 X5 e5 => ?_)
  refine g_aloadN (k := 0) (q := 29) B X5 dK rfl rfl rfl ?_
  refine g_dup (q := 30) B X5 dK rfl rfl ?_
  refine g_getF (i := 79) (q := 33) B X5 (host := "") (Or.inl (kw hw 227 rfl)) Via.refl e5 F_count_b dK rfl (fun T6 X6 e6 => ?_)
  refine g_dupX1 (q := 34) B X6 dK rfl rfl rfl ?_
  refine g_iconst (o := 1) (q := 35) (v := 1) B X6 dK rfl rfl ?_
  refine g_iadd (q := 36) B X6 dK rfl rfl ?_
  refine g_putF (i := 79) (q := 39) B X6 (host := "") (Or.inl (kw hw 227 rfl)) Via.refl e6 F_count_b E_b (Or.inl (kw hw 228 rfl)) (kw hw 200 rfl) (ty := .int) dD rfl rfl dK rfl (fun T7 h7 X7 e7 W7 => ?_)
  have N7 := Fr.snoc X7 N4 g_b
  have F_count_b := F_count_b.same W7
  have E_b := E_b.wr W7
  have F_value_b := F_value_b.other W7 (Or.inr (slot_ne (Or.inl (kw hw 214 rfl)) (Or.inl (kw hw 228 rfl)) dD (t := (.array .byte)) (t' := .int) dD dD))
  have F_coder_b := F_coder_b.other W7 (Or.inr (slot_ne (Or.inl (kw hw 216 rfl)) (Or.inl (kw hw 228 rfl)) dD (t := .byte) (t' := .int) dD dD))
  have G_tb := G_tb.other W7 (Ne.symm ne_b_tb)
  have KK := KK.wr W7 (mi 0 rfl)
  refine g_iloadN (k := 1) (q := 40) B X7 dK rfl rfl ?_
  refine g_i2b (q := 41) B X7 dK rfl rfl ?_
  refine g_bastore (q := 42) B X7 e7 G_tb (own_inn (by omega)) (own_l16 hn) dK rfl (fun T8 h8 X8 e8 W8 G_tb => ?_)
  have G_tb : own_Arf Z h8 tb .byte (16 : Int32) (fun i => .int ((own_upd (own_L cs) (Int32.ofNat cs.length) (nar .byte (Int32.ofNat ch).toInt8.toInt32)) i)) := G_tb.congr (fun i _ => by unfold own_upd; split <;> rfl)
  have N8 := Fr.snoc X8 N7 g_tb
  have E_b := E_b.wr W8
  have F_value_b := F_value_b.other W8 (Or.inl ne_b_tb)
  have F_coder_b := F_coder_b.other W8 (Or.inl ne_b_tb)
  have F_count_b := F_count_b.other W8 (Or.inl ne_b_tb)
  have KK := KK.wr W8 (mi 1 rfl)
  refine g_goto (o := 33) (q := 75) B X8 dK dD dD ?_
  refine g_aloadN (k := 0) (q := 76) B X8 dK rfl rfl rfl ?_
  exact g_retA B X8 rfl rfl rfl dK dD dD e8 (by
    rw [own_nb, own_as8 hc, own_Lapp cs _ (by omega)] at G_tb
    rw [own_nsucc cs (Int32.ofNat ch)] at F_count_b
    exact ⟨rfl, N8, KK, E_b, F_value_b, F_coder_b, F_count_b, G_tb, ne_b_tb⟩)
theorem pd_13 : parseMethodDescriptor "(C)Ljava/lang/AbstractStringBuilder;" = some ⟨[.char], some (.object "java/lang/AbstractStringBuilder")⟩ := by decide +kernel
def QrmBC (Z : State) (cz : Int32) (fv : Value) (ev dg ca : Addr) (cg : Nat → Addr) (b tb : Addr) (cs : List Int32) (ch : Nat) (h0 : Heap) (n0 : Nat) (v : Option Value) (h : Heap) (L : List Loc) : Prop := v = some (.ref b) ∧ Fr n0 L ∧ Keep h0 h [b, tb] ∧ own_SB Z h b tb (16 : Int32) (cs ++ [(Int32.ofNat ch)])
theorem rmBC (l : Launch) (Z : State) (a0 : Array Value) (hw : own_H a0 Z) (ws : List Jvm.Cond) (cz : Int32) (fv : Value) (ev dg ca : Addr) (cg : Nat → Addr) (b tb : Addr) (cs : List Int32) (ch : Nat) (h0 : Heap) (n0 : Nat) (ZH : n0 ≤ h0.size) (OO : Old Z n0 h0) (HW : own_W Z cz fv ev dg ca cg) (Y_b : own_SB Z h0 b tb (16 : Int32) cs) (g_b : n0 ≤ b) (g_tb : n0 ≤ tb) (hc : ch < 128) (hn : cs.length < 16) :
    own_Met l Z yy32 jdk_67_method_14_code 2 (some (.object zz7)) ws (own_R 2 0 0 27) #[(.ref b), (.int (Int32.ofNat ch))] h0 (QrmBC Z cz fv ev dg ca cg b tb cs ch h0 n0) 0 0 := by
  refine own_hd (fr := #[.val (.ref b), .val (.int (Int32.ofNat ch))]) (plainFor_of_name pn_15) (fun {p e s m below meth c s₁} B X0 e0 => ?_)
  have N0 := Fr.nil n0
  have KK := Keep.refl h0 [b, tb]
  refine g_aloadN (k := 0) (q := 1) B X0 dK rfl rfl rfl ?_
  refine g_iloadN (k := 1) (q := 2) B X0 dK rfl rfl ?_
  refine g_callU (C := "") (i := 50) (W := 0) (q := 5) (a := b) (argsL := [(.int (Int32.ofNat ch))]) (rest := []) B X0 (y := yy31) (kw hw 529 rfl) (own_NI.same (y := yy31) (own_NI.sel (y := yy1) (kw hw 241 rfl) (kw hw 239 rfl)) (kw hw 531 rfl) dD) (kw hw 530 rfl) (kw hw 224 rfl) dD (kw hw 209 rfl) (kw hw 532 rfl) e0 (Ins.self Y_b.1) (rmAC2 l Z a0 hw [] cz fv ev dg ca cg b tb cs ch h0 n0 ZH OO HW Y_b g_b g_tb hc hn) dK rfl rfl (lenOf pd_13 rfl) (Nat.le_of_eq rfl) rfl dD dD dD dD rfl (fun _ L1 T1 X1 hQ1 => ?_)
  obtain ⟨rfl, Nq1, K1, Yq1_0⟩ := hQ1
  have N1 := Fr.app N0 Nq1
  have KK := KK.trans K1 (allS (mi 0 rfl) (allS (mi 1 rfl) all0))
  have Y_b := Yq1_0
  refine g_pop (q := 6) B X1 dK rfl rfl ?_
  refine g_aloadN (k := 0) (q := 7) B X1 dK rfl rfl rfl ?_
  exact g_retA B X1 rfl rfl rfl dK dD dD rfl (by
    exact ⟨rfl, N1, KK, Y_b⟩)
def QrmIN (Z : State) (cz : Int32) (fv : Value) (ev dg ca : Addr) (cg : Nat → Addr) (b tb : Addr) (cap : Int32) (cs : List Int32) (x tx : Addr) (ks : List Int32) (h0 : Heap) (n0 : Nat) (v : Option Value) (h : Heap) (L : List Loc) : Prop := v = none ∧ Fr n0 L ∧ h = h0
theorem rmIN (l : Launch) (Z : State) (a0 : Array Value) (hw : own_H a0 Z) (ws : List Jvm.Cond) (cz : Int32) (fv : Value) (ev dg ca : Addr) (cg : Nat → Addr) (b tb : Addr) (cap : Int32) (cs : List Int32) (x tx : Addr) (ks : List Int32) (h0 : Heap) (n0 : Nat) (ZH : n0 ≤ h0.size) (OO : Old Z n0 h0) (HW : own_W Z cz fv ev dg ca cg) (Y_b : own_SB Z h0 b tb cap cs) (Y_x : own_St Z h0 x tx ks) :
    own_Met l Z yy63 jdk_68_method_71_code 2 none ws (own_R 1 0 0 13) #[(.ref b), (.ref x)] h0 (QrmIN Z cz fv ev dg ca cg b tb cap cs x tx ks h0 n0) 0 0 := by
  refine own_hd (fr := #[.val (.ref b), .val (.ref x)]) (plainFor_of_name pn_14) (fun {p e s m below meth c s₁} B X0 e0 => ?_)
  have N0 := Fr.nil n0
  have HW0 := HW
  obtain ⟨SC, hcz, SF, hfv, SE, SD, GD, SH, SK2, GC, hcg⟩ := HW
  refine g_getS (i := 18) (q := 3) B X0 (host := "") (Or.inl (kw hw 212 rfl)) Via.refl e0 (SC.ext OO.2) dK rfl (fun T1 X1 e1 => ?_)
  refine g_ifNo (cd := .eq) (o := 18) (q := 6) B X1 dK (((if0 _ _).trans (feq (hcz : ¬ (cz = (0 : Int32)))).1)) rfl ?_
  refine g_aloadN (k := 0) (q := 7) B X1 dK rfl rfl rfl ?_
  refine g_getF (i := 22) (q := 10) B X1 (host := "") (Or.inl (kw hw 215 rfl)) Via.refl e1 Y_b.2.2.1 dK rfl (fun T2 X2 e2 => ?_)
  refine g_aloadN (k := 1) (q := 11) B X2 dK rfl rfl rfl ?_
  refine g_callV (i := 40) (W := 1) (q := 14) (a := x) (argsL := []) (rest := [(.int (0 : Int32))]) B X2 (y := yy14) (kw hw 280 rfl) (kw hw 264 rfl) (kw hw 266 rfl) (kw hw 265 rfl) (kw hw 4 rfl) (kw hw 267 rfl) dD e2 Y_x.1 (rmCO l Z a0 hw [] cz fv ev dg ca cg x tx ks h0 n0 ZH OO HW0 Y_x) dK rfl rfl (lenOf pd_4 rfl) (Nat.le_of_eq rfl) rfl dD dD dD dD rfl (fun _ L3 T3 X3 hQ3 => ?_)
  obtain ⟨rfl, Nq3, e3⟩ := hQ3
  have N3 := Fr.app N0 Nq3
  refine g_icmpYes (cd := .eq) (o := 7) (q := 21) B X3 dK ((teq (by decide : (0 : Int32) = (0 : Int32))).1) dD dD ?_
  exact g_ret B X3 dK dD dD e3 (by
    exact ⟨rfl, N3, rfl⟩)
def QrmGB (Z : State) (cz : Int32) (fv : Value) (ev dg ca : Addr) (cg : Nat → Addr) (x tx : Addr) (ks : List Int32) (tb : Addr) (cap : Int32) (cs : List Int32) (h0 : Heap) (n0 : Nat) (v : Option Value) (h : Heap) (L : List Loc) : Prop := v = none ∧ Fr n0 L ∧ Keep h0 h [tb] ∧ own_Arf Z h tb .byte cap (fun i => .int (own_L (cs ++ ks) i))
theorem rmGB (l : Launch) (Z : State) (a0 : Array Value) (hw : own_H a0 Z) (ws : List Jvm.Cond) (cz : Int32) (fv : Value) (ev dg ca : Addr) (cg : Nat → Addr) (x tx : Addr) (ks : List Int32) (tb : Addr) (cap : Int32) (cs : List Int32) (h0 : Heap) (n0 : Nat) (ZH : n0 ≤ h0.size) (OO : Old Z n0 h0) (HW : own_W Z cz fv ev dg ca cg) (Y_x : own_St Z h0 x tx ks) (ne_x_tb : x ≠ tb) (ne_tx_tb : tx ≠ tb) (G_tb : own_Arf Z h0 tb .byte cap (fun i => .int (own_L cs i))) (g_tb : n0 ≤ tb) (hac : own_as cs) (hak : own_as ks) (hl1 : cs.length < 100) (hl2 : ks.length < 100) (hcap : cs.length + ks.length ≤ cap.toNatClampNeg) :
    own_Met l Z yy64 jdk_42_method_147_code 4 none ws (own_R 1 0 0 18) #[(.ref x), (.ref tb), (.int (Int32.ofNat cs.length)), (.int (0 : Int32))] h0 (QrmGB Z cz fv ev dg ca cg x tx ks tb cap cs h0 n0) 0 0 := by
  refine own_hd (fr := #[.val (.ref x), .val (.ref tb), .val (.int (Int32.ofNat cs.length)), .val (.int (0 : Int32))]) (plainFor_of_name pn_11) (fun {p e s m below meth c s₁} B X0 e0 => ?_)
  have N0 := Fr.nil n0
  have KK := Keep.refl h0 [tb]
  refine g_aloadN (k := 0) (q := 1) B X0 dK rfl rfl rfl ?_
  refine g_callV (i := 335) (W := 0) (q := 4) (a := x) (argsL := []) (rest := []) B X0 (y := yy14) (kw hw 263 rfl) (kw hw 264 rfl) (kw hw 266 rfl) (kw hw 265 rfl) (kw hw 4 rfl) (kw hw 267 rfl) dD e0 Y_x.1 (rmCO l Z a0 hw [] cz fv ev dg ca cg x tx ks h0 n0 ZH OO HW Y_x) dK rfl rfl (lenOf pd_4 rfl) (Nat.le_of_eq rfl) rfl dD dD dD dD rfl (fun _ L1 T1 X1 hQ1 => ?_)
  obtain ⟨rfl, Nq1, e1⟩ := hQ1
  have N1 := Fr.app N0 Nq1
  refine g_iloadN (k := 3) (q := 5) B X1 dK rfl rfl ?_
  refine g_icmpNo (cd := .ne) (o := 23) (q := 8) B X1 dK ((teq (by decide : (0 : Int32) = (0 : Int32))).2) rfl ?_
  refine g_aloadN (k := 0) (q := 9) B X1 dK rfl rfl rfl ?_
  refine g_getF (i := 9) (q := 12) B X1 (host := "") (Or.inl (kw hw 262 rfl)) Via.refl e1 Y_x.2.1 dK rfl (fun T2 X2 e2 => ?_)
  refine g_iconst (o := 0) (q := 13) (v := 0) B X2 dK rfl rfl ?_
  refine g_aloadN (k := 1) (q := 14) B X2 dK rfl rfl rfl ?_
  refine g_iloadN (k := 2) (q := 15) B X2 dK rfl rfl ?_
  refine g_iloadN (k := 3) (q := 16) B X2 dK rfl rfl ?_
  refine g_ishl (q := 17) (v := (Int32.ofNat cs.length)) B X2 dK (own_shl0 _) rfl ?_
  refine g_aloadN (k := 0) (q := 18) B X2 dK rfl rfl rfl ?_
  refine g_getF (i := 9) (q := 21) B X2 (host := "") (Or.inl (kw hw 262 rfl)) Via.refl e2 Y_x.2.1 dK rfl (fun T3 X3 e3 => ?_)
  refine g_alen (q := 22) B X3 e3 Y_x.2.2.2 dK rfl ?_
  refine g_acopy (i := 212) (W := 0) (q := 25) B X3 (kw hw 286 rfl) (kw hw 289 rfl) (kw hw 287 rfl) (kw hw 288 rfl) e3 Y_x.2.2.2 G_tb hak.b8 hac.b8 dD (own_inn (by omega)) (own_inn (by omega)) (own_z0 _) (by rw [own_icl (by omega), own_icl (by omega)]; exact hcap) N1 g_tb dK rfl dD dD dD rfl (fun T4 h4 L4 X4 e4 N4 K4 G_tb => ?_)
  have KK := KK.trans K4 (allS (mi 0 rfl) all0)
  refine g_goto (o := 18) (q := 43) B X4 dK dD dD ?_
  exact g_ret B X4 dK dD dD e4 (by
    exact ⟨rfl, N4, KK, G_tb.congr (fun i _ => by rw [own_icl (by omega), own_icl (by omega)]; exact congrArg Value.int (own_cpApp cs ks i))⟩)
theorem pd_14 : parseMethodDescriptor "(Ljava/lang/String;)V" = some ⟨[(.object "java/lang/String")], none⟩ := by decide +kernel
theorem pd_15 : parseMethodDescriptor "([BIB)V" = some ⟨[(.array .byte), .int, .byte], none⟩ := by decide +kernel
def QrmPS (Z : State) (cz : Int32) (fv : Value) (ev dg ca : Addr) (cg : Nat → Addr) (b tb : Addr) (cap : Int32) (cs : List Int32) (x tx : Addr) (ks : List Int32) (h0 : Heap) (n0 : Nat) (v : Option Value) (h : Heap) (L : List Loc) : Prop := v = none ∧ Fr n0 L ∧ Keep h0 h [tb] ∧ own_Arf Z h tb .byte cap (fun i => .int (own_L (cs ++ ks) i))
theorem rmPS (l : Launch) (Z : State) (a0 : Array Value) (hw : own_H a0 Z) (ws : List Jvm.Cond) (cz : Int32) (fv : Value) (ev dg ca : Addr) (cg : Nat → Addr) (b tb : Addr) (cap : Int32) (cs : List Int32) (x tx : Addr) (ks : List Int32) (h0 : Heap) (n0 : Nat) (ZH : n0 ≤ h0.size) (OO : Old Z n0 h0) (HW : own_W Z cz fv ev dg ca cg) (Y_b : own_SB Z h0 b tb cap cs) (Y_x : own_St Z h0 x tx ks) (ne_x_tb : x ≠ tb) (ne_tx_tb : tx ≠ tb) (ne_x_b : x ≠ b) (ne_tx_b : tx ≠ b) (g_b : n0 ≤ b) (g_tb : n0 ≤ tb) (hac : own_as cs) (hak : own_as ks) (hl1 : cs.length < 100) (hl2 : ks.length < 100) (hcap : cs.length + ks.length ≤ cap.toNatClampNeg) :
    own_Met l Z yy20 jdk_68_method_73_code 3 none ws (own_R 2 0 0 33) #[(.ref b), (.int (Int32.ofNat cs.length)), (.ref x)] h0 (QrmPS Z cz fv ev dg ca cg b tb cap cs x tx ks h0 n0) 0 0 := by
  refine own_hd (fr := #[.val (.ref b), .val (.int (Int32.ofNat cs.length)), .val (.ref x)]) (plainFor_of_name pn_14) (fun {p e s m below meth c s₁} B X0 e0 => ?_)
  have N0 := Fr.nil n0
  have KK := Keep.refl h0 [tb]
  have ne_b_tb := Y_b.2.2.2.2.2
  obtain ⟨E_b, F_value_b, F_coder_b, F_count_b, G_tb, ne_b_tb⟩ := Y_b
  refine g_aloadN (k := 0) (q := 1) B X0 dK rfl rfl rfl ?_
  refine g_aloadN (k := 2) (q := 2) B X0 dK rfl rfl rfl ?_
  refine g_callP (i := 397) (W := 0) (q := 5) (a := b) (argsL := [(.ref x)]) (rest := []) B X0 (y := yy63) (kw hw 275 rfl) (own_NI.sel (y := yy1) (kw hw 241 rfl) (kw hw 239 rfl)) (kw hw 276 rfl) (kw hw 277 rfl) (kw hw 209 rfl) (kw hw 279 rfl) dD e0 E_b (rmIN l Z a0 hw [] cz fv ev dg ca cg b tb cap cs x tx ks h0 n0 ZH OO HW ⟨E_b, F_value_b, F_coder_b, F_count_b, G_tb, ne_b_tb⟩ Y_x) dK rfl rfl (lenOf pd_14 rfl) (Nat.le_of_eq rfl) rfl dD dD dD dD rfl (fun _ L1 T1 X1 hQ1 => ?_)
  obtain ⟨rfl, Nq1, e1⟩ := hQ1
  have N1 := Fr.app N0 Nq1
  refine g_aloadN (k := 2) (q := 6) B X1 dK rfl rfl rfl ?_
  refine g_aloadN (k := 0) (q := 7) B X1 dK rfl rfl rfl ?_
  refine g_getF (i := 15) (q := 10) B X1 (host := "") (Or.inl (kw hw 213 rfl)) Via.refl e1 F_value_b dK rfl (fun T2 X2 e2 => ?_)
  refine g_iloadN (k := 1) (q := 11) B X2 dK rfl rfl ?_
  refine g_aloadN (k := 0) (q := 12) B X2 dK rfl rfl rfl ?_
  refine g_getF (i := 22) (q := 15) B X2 (host := "") (Or.inl (kw hw 215 rfl)) Via.refl e2 F_coder_b dK rfl (fun T3 X3 e3 => ?_)
  refine g_callV (i := 399) (W := 0) (q := 18) (a := x) (argsL := [(.ref tb), (.int (Int32.ofNat cs.length)), (.int (0 : Int32))]) (rest := []) B X3 (y := yy64) (kw hw 281 rfl) (kw hw 282 rfl) (kw hw 284 rfl) (kw hw 283 rfl) (kw hw 4 rfl) (kw hw 285 rfl) dD e3 Y_x.1 (rmGB l Z a0 hw [] cz fv ev dg ca cg x tx ks tb cap cs h0 n0 ZH OO HW Y_x ne_x_tb ne_tx_tb G_tb g_tb hac hak hl1 hl2 hcap) dK rfl rfl (lenOf pd_15 rfl) (Nat.le_of_eq rfl) rfl dD dD dD dD rfl (fun _ L4 T4 X4 hQ4 => ?_)
  obtain ⟨rfl, Nq4, K4, Gq4⟩ := hQ4
  have N4 := Fr.app N1 Nq4
  have KK := KK.trans K4 (allS (mi 0 rfl) all0)
  have G_tb := Gq4
  exact g_ret B X4 dK dD dD rfl (by
    exact ⟨rfl, N4, KK, G_tb⟩)
theorem pn_17 : plainName "jdk/internal/util/ArraysSupport" = true := by first | (simp [plainName, overriddenIn]; done) | decide +kernel
theorem pd_16 : parseMethodDescriptor "(II)I" = some ⟨[.int, .int], some .int⟩ := by decide +kernel
def QrmNL (Z : State)  (h0 : Heap) (n0 : Nat) (v : Option Value) (h : Heap) (L : List Loc) : Prop := v = some (.int (34 : Int32)) ∧ Fr n0 L ∧ h = h0
theorem rmNL (l : Launch) (Z : State) (a0 : Array Value) (hw : own_H a0 Z) (ws : List Jvm.Cond)  (h0 : Heap) (n0 : Nat) (ZH : n0 ≤ h0.size) :
    own_Met l Z yy65 jdk_48_method_27_code 4 (some .int) ws (own_R 1 0 0 14) #[(.int (16 : Int32)), (.int (2 : Int32)), (.int (18 : Int32))] h0 (QrmNL Z  h0 n0) 0 0 := by
  refine own_hd (fr := #[.val (.int (16 : Int32)), .val (.int (2 : Int32)), .val (.int (18 : Int32)), .unset]) (plainFor_of_name pn_17) (fun {p e s m below meth c s₁} B X0 e0 => ?_)
  have N0 := Fr.nil n0
  refine g_iloadN (k := 0) (q := 1) B X0 dK rfl rfl ?_
  refine g_iloadN (k := 1) (q := 2) B X0 dK rfl rfl ?_
  refine g_iloadN (k := 2) (q := 3) B X0 dK rfl rfl ?_
  refine g_callS (i := 194) (W := 1) (q := 6) (argsL := [(.int (2 : Int32)), (.int (18 : Int32))]) (rest := [(.int (16 : Int32))]) B X0 (y := yy56) (kw hw 550 rfl) (kw hw 551 rfl) (kw hw 330 rfl) (kw hw 552 rfl) dD e0 (rmMx l Z a0 hw [] (2 : Int32) (18 : Int32) h0 n0 ZH dD) dK rfl rfl (lenOf pd_16 rfl) (Nat.le_of_eq rfl) rfl dD dD dD dD rfl (fun _ L1 T1 X1 hQ1 => ?_)
  obtain ⟨rfl, Nq1, e1⟩ := hQ1
  have N1 := Fr.app N0 Nq1
  refine g_iadd (q := 7) (v := (34 : Int32)) B X1 dK rfl rfl ?_
  refine g_istoreN (k := 3) (q := 8) (l' := #[.val (.int (16 : Int32)), .val (.int (2 : Int32)), .val (.int (18 : Int32)), .val (.int (34 : Int32))]) B X1 dK rfl rfl ?_
  refine g_iconst (o := 0) (q := 9) (v := 0) B X1 dK rfl rfl ?_
  refine g_iloadN (k := 3) (q := 10) B X1 dK rfl rfl ?_
  refine g_icmpNo (cd := .ge) (o := 11) (q := 13) B X1 dK ((tlt (by decide : (0 : Int32) < (34 : Int32))).2.1) rfl ?_
  refine g_iloadN (k := 3) (q := 14) B X1 dK rfl rfl ?_
  refine g_ldcI (i := 200) (q := 16) B X1 (kw hw 553 rfl) dK rfl ?_
  refine g_icmpNo (cd := .gt) (o := 5) (q := 19) B X1 dK ((flt (by decide : ¬ ((2147483639 : Int32) < (34 : Int32)))).2.2.1) rfl ?_
  refine g_iloadN (k := 3) (q := 20) B X1 dK rfl rfl ?_
  exact g_retI B X1 dK dD dD e1 (by
    exact ⟨rfl, N1, rfl⟩)
theorem pd_17 : parseMethodDescriptor "(III)I" = some ⟨[.int, .int, .int], some .int⟩ := by decide +kernel
def QrmNC (Z : State) (b tb : Addr) (cs : List Int32) (h0 : Heap) (n0 : Nat) (v : Option Value) (h : Heap) (L : List Loc) : Prop := v = some (.int (34 : Int32)) ∧ Fr n0 L ∧ h = h0
theorem rmNC (l : Launch) (Z : State) (a0 : Array Value) (hw : own_H a0 Z) (ws : List Jvm.Cond) (b tb : Addr) (cs : List Int32) (h0 : Heap) (n0 : Nat) (ZH : n0 ≤ h0.size) (Y_b : own_SB Z h0 b tb (16 : Int32) cs) :
    own_Met l Z yy66 jdk_68_method_10_code 6 (some .int) ws (own_R 2 0 0 29) #[(.ref b), (.int (18 : Int32))] h0 (QrmNC Z b tb cs h0 n0) 0 0 := by
  refine own_hd (fr := #[.val (.ref b), .val (.int (18 : Int32)), .unset, .unset, .unset, .unset]) (plainFor_of_name pn_14) (fun {p e s m below meth c s₁} B X0 e0 => ?_)
  have N0 := Fr.nil n0
  refine g_aloadN (k := 0) (q := 1) B X0 dK rfl rfl rfl ?_
  refine g_getF (i := 15) (q := 4) B X0 (host := "") (Or.inl (kw hw 213 rfl)) Via.refl e0 Y_b.2.1 dK rfl (fun T1 X1 e1 => ?_)
  refine g_alen (q := 5) B X1 e1 Y_b.2.2.2.2.1 dK rfl ?_
  refine g_istoreN (k := 2) (q := 6) (l' := #[.val (.ref b), .val (.int (18 : Int32)), .val (.int (16 : Int32)), .unset, .unset, .unset]) B X1 dK rfl rfl ?_
  refine g_iloadN (k := 1) (q := 7) B X1 dK rfl rfl ?_
  refine g_aloadN (k := 0) (q := 8) B X1 dK rfl rfl rfl ?_
  refine g_getF (i := 22) (q := 11) B X1 (host := "") (Or.inl (kw hw 215 rfl)) Via.refl e1 Y_b.2.2.1 dK rfl (fun T2 X2 e2 => ?_)
  refine g_ishl (q := 12) (v := (18 : Int32)) B X2 dK (own_shl0 _) rfl ?_
  refine g_istoreN (k := 3) (q := 13) (l' := #[.val (.ref b), .val (.int (18 : Int32)), .val (.int (16 : Int32)), .val (.int (18 : Int32)), .unset, .unset]) B X2 dK rfl rfl ?_
  refine g_iloadN (k := 3) (q := 14) B X2 dK rfl rfl ?_
  refine g_iloadN (k := 2) (q := 15) B X2 dK rfl rfl ?_
  refine g_isub (q := 16) (v := (2 : Int32)) B X2 dK rfl rfl ?_
  refine g_istore (k := 4) (q := 18) (l' := #[.val (.ref b), .val (.int (18 : Int32)), .val (.int (16 : Int32)), .val (.int (18 : Int32)), .val (.int (2 : Int32)), .unset]) B X2 dK rfl rfl ?_
  refine g_iloadN (k := 2) (q := 19) B X2 dK rfl rfl ?_
  refine g_iload (k := 4) (q := 21) B X2 dK rfl rfl ?_
  refine g_iloadN (k := 2) (q := 22) B X2 dK rfl rfl ?_
  refine g_iconst (o := 2) (q := 23) (v := 2) B X2 dK rfl rfl ?_
  refine g_aloadN (k := 0) (q := 24) B X2 dK rfl rfl rfl ?_
  refine g_getF (i := 22) (q := 27) B X2 (host := "") (Or.inl (kw hw 215 rfl)) Via.refl e2 Y_b.2.2.1 dK rfl (fun T3 X3 e3 => ?_)
  refine g_ishl (q := 28) (v := (2 : Int32)) B X3 dK (own_shl0 _) rfl ?_
  refine g_iadd (q := 29) (v := (18 : Int32)) B X3 dK rfl rfl ?_
  refine g_callS (i := 114) (W := 0) (q := 32) (argsL := [(.int (16 : Int32)), (.int (2 : Int32)), (.int (18 : Int32))]) (rest := []) B X3 (y := yy65) (kw hw 547 rfl) (kw hw 548 rfl) (kw hw 427 rfl) (kw hw 549 rfl) dD e3 (rmNL l Z a0 hw [] h0 n0 ZH) dK rfl rfl (lenOf pd_17 rfl) (Nat.le_of_eq rfl) rfl dD dD dD dD rfl (fun _ L4 T4 X4 hQ4 => ?_)
  obtain ⟨rfl, Nq4, e4⟩ := hQ4
  have N4 := Fr.app N0 Nq4
  refine g_istore (k := 5) (q := 34) (l' := #[.val (.ref b), .val (.int (18 : Int32)), .val (.int (16 : Int32)), .val (.int (18 : Int32)), .val (.int (2 : Int32)), .val (.int (34 : Int32))]) B X4 dK rfl rfl ?_
  refine g_iload (k := 5) (q := 36) B X4 dK rfl rfl ?_
  refine g_ldcI (i := 39) (q := 38) B X4 (kw hw 554 rfl) dK rfl ?_
  refine g_icmpYes (cd := .ne) (o := 13) (q := 51) B X4 dK ((feq (by decide : ¬ ((34 : Int32) = (2147483647 : Int32)))).2) dD dD ?_
  refine g_iload (k := 5) (q := 53) B X4 dK rfl rfl ?_
  refine g_aloadN (k := 0) (q := 54) B X4 dK rfl rfl rfl ?_
  refine g_getF (i := 22) (q := 57) B X4 (host := "") (Or.inl (kw hw 215 rfl)) Via.refl e4 Y_b.2.2.1 dK rfl (fun T5 X5 e5 => ?_)
  refine g_ishr (q := 58) (v := (34 : Int32)) B X5 dK (own_shr0 _) rfl ?_
  exact g_retI B X5 dK dD dD e5 (by
    exact ⟨rfl, N4, rfl⟩)
theorem pn_18 : plainName "java/util/Arrays" = true := by first | (simp [plainName, overriddenIn]; done) | decide +kernel
def QrmCp (Z : State) (tb : Addr) (cs : List Int32) (h0 : Heap) (n0 : Nat) (v : Option Value) (h : Heap) (L : List Loc) : Prop := ∃ b : Addr, v = some (.ref b) ∧ Fr n0 L ∧ Keep h0 h [] ∧ h0.size ≤ b ∧ own_Arf Z h b .byte (34 : Int32) (fun i => .int (own_L cs i))
theorem rmCp (l : Launch) (Z : State) (a0 : Array Value) (hw : own_H a0 Z) (ws : List Jvm.Cond) (tb : Addr) (cs : List Int32) (h0 : Heap) (n0 : Nat) (ZH : n0 ≤ h0.size) (G_tb : own_Arf Z h0 tb .byte (16 : Int32) (fun i => .int (own_L cs i))) (hac : own_as cs) (hn : cs.length ≤ 16) :
    own_Met l Z yy21 jdk_65_method_121_code 3 (some (.array .byte)) ws (own_R 1 1 34 18) #[(.ref tb), (.int (34 : Int32))] h0 (QrmCp Z tb cs h0 n0) 1 34 := by
  refine own_hd (fr := #[.val (.ref tb), .val (.int (34 : Int32)), .unset]) (plainFor_of_name pn_18) (fun {p e s m below meth c s₁} B X0 e0 => ?_)
  have N0 := Fr.nil n0
  have KK := Keep.refl h0 []
  refine g_iloadN (k := 1) (q := 1) B X0 dK rfl rfl ?_
  refine g_aloadN (k := 0) (q := 2) B X0 dK rfl rfl rfl ?_
  refine g_alen (q := 3) B X0 e0 G_tb dK rfl ?_
  refine g_icmpYes (cd := .ne) (o := 11) (q := 14) B X0 dK ((feq (by decide : ¬ ((34 : Int32) = (16 : Int32)))).2) dD dD ?_
  refine g_iloadN (k := 1) (q := 15) B X0 dK rfl rfl ?_
  refine g_newarr (aty := .byte) (cap := 34) (q := 17) B X0 (kw hw 6 rfl) e0 dD dD dD dK dD dD rfl (fun b1 T1 h1 gz1 X1 e1 E1 G_b1 => ?_)
  have g_b1 := gl ZH gz1
  have sz_b1 := gl KK.1 gz1
  have G_tb := G_tb.ext E1
  have ZH := Nat.le_trans ZH E1.1
  have KK := KK.ext E1
  have G_b1 : own_Arf Z h1 b1 .byte (34 : Int32) (fun i => .int ((fun _ => 0 : Nat → Int32) i)) := G_b1
  refine g_astoreN (k := 2) (q := 18) (l' := #[.val (.ref tb), .val (.int (34 : Int32)), .val (.ref b1)]) B X1 dK rfl rfl rfl ?_
  refine g_aloadN (k := 0) (q := 19) B X1 dK rfl rfl rfl ?_
  refine g_iconst (o := 0) (q := 20) (v := 0) B X1 dK rfl rfl ?_
  refine g_aloadN (k := 2) (q := 21) B X1 dK rfl rfl rfl ?_
  refine g_iconst (o := 0) (q := 22) (v := 0) B X1 dK rfl rfl ?_
  refine g_aloadN (k := 0) (q := 23) B X1 dK rfl rfl rfl ?_
  refine g_alen (q := 24) B X1 e1 G_tb dK rfl ?_
  refine g_iloadN (k := 1) (q := 25) B X1 dK rfl rfl ?_
  refine g_callS (i := 304) (W := 4) (q := 28) (argsL := [(.int (16 : Int32)), (.int (34 : Int32))]) (rest := [(.int (0 : Int32)), (.ref b1), (.int (0 : Int32)), (.ref tb)]) B X1 (y := yy12) (kw hw 328 rfl) (kw hw 329 rfl) (kw hw 330 rfl) (kw hw 331 rfl) dD e1 (rmMnX l Z a0 hw [] (16 : Int32) (34 : Int32) h1 n0 ZH dD) dK rfl rfl (lenOf pd_16 rfl) (Nat.le_of_eq rfl) rfl dD dD dD dD rfl (fun _ L2 T2 X2 hQ2 => ?_)
  obtain ⟨rfl, Nq2, e2⟩ := hQ2
  have N2 := Fr.app N0 Nq2
  refine g_acopy (i := 150) (W := 0) (q := 31) B X2 (kw hw 332 rfl) (kw hw 289 rfl) (kw hw 287 rfl) (kw hw 288 rfl) e2 G_tb G_b1 hac.b8 (fun _ => rfl) dD dD dD dD dD N2 g_b1 dK rfl dD dD dD rfl (fun T3 h3 L3 X3 e3 N3 K3 G_b1 => ?_)
  have KK := KK.trans K3 (allS (Or.inr sz_b1) all0)
  refine g_aloadN (k := 2) (q := 32) B X3 dK rfl rfl rfl ?_
  exact g_retA B X3 rfl rfl rfl dK dD dD e3 (by
    exact ⟨b1, rfl, N3, KK, sz_b1, G_b1.congr (fun i _ => congrArg Value.int (own_cpHead2 cs 16 i hn))⟩)
def QrmCq (Z : State) (tb : Addr) (cs : List Int32) (h0 : Heap) (n0 : Nat) (v : Option Value) (h : Heap) (L : List Loc) : Prop := ∃ b : Addr, v = some (.ref b) ∧ Fr n0 L ∧ Keep h0 h [] ∧ h0.size ≤ b ∧ own_Arf Z h b .byte (Int32.ofNat cs.length) (fun i => .int (own_L cs i))
theorem rmCq (l : Launch) (Z : State) (a0 : Array Value) (hw : own_H a0 Z) (ws : List Jvm.Cond) (tb : Addr) (cs : List Int32) (h0 : Heap) (n0 : Nat) (ZH : n0 ≤ h0.size) (G_tb : own_Arf Z h0 tb .byte (256 : Int32) (fun i => .int (own_L cs i))) (hac : own_bl cs) (hn : cs.length < 256) :
    own_Met l Z yy21 jdk_65_method_121_code 3 (some (.array .byte)) ws (own_R 1 1 256 18) #[(.ref tb), (.int (Int32.ofNat cs.length))] h0 (QrmCq Z tb cs h0 n0) 1 256 := by
  refine own_hd (fr := #[.val (.ref tb), .val (.int (Int32.ofNat cs.length)), .unset]) (plainFor_of_name pn_18) (fun {p e s m below meth c s₁} B X0 e0 => ?_)
  have N0 := Fr.nil n0
  have KK := Keep.refl h0 []
  refine g_iloadN (k := 1) (q := 1) B X0 dK rfl rfl ?_
  refine g_aloadN (k := 0) (q := 2) B X0 dK rfl rfl rfl ?_
  refine g_alen (q := 3) B X0 e0 G_tb dK rfl ?_
  refine g_icmpYes (cd := .ne) (o := 11) (q := 14) B X0 dK ((feq (own_nne hn : ¬ ((Int32.ofNat cs.length) = (256 : Int32)))).2) dD dD ?_
  refine g_iloadN (k := 1) (q := 15) B X0 dK rfl rfl ?_
  refine g_newarr (aty := .byte) (cap := 256) (q := 17) B X0 (kw hw 6 rfl) e0 (own_nnn hn) (by rw [own_ntn hn]; omega) dD dK dD dD rfl (fun b1 T1 h1 gz1 X1 e1 E1 G_b1 => ?_)
  have g_b1 := gl ZH gz1
  have sz_b1 := gl KK.1 gz1
  have G_tb := G_tb.ext E1
  have ZH := Nat.le_trans ZH E1.1
  have KK := KK.ext E1
  have G_b1 : own_Arf Z h1 b1 .byte (Int32.ofNat cs.length) (fun i => .int ((fun _ => 0 : Nat → Int32) i)) := G_b1
  refine g_astoreN (k := 2) (q := 18) (l' := #[.val (.ref tb), .val (.int (Int32.ofNat cs.length)), .val (.ref b1)]) B X1 dK rfl rfl rfl ?_
  refine g_aloadN (k := 0) (q := 19) B X1 dK rfl rfl rfl ?_
  refine g_iconst (o := 0) (q := 20) (v := 0) B X1 dK rfl rfl ?_
  refine g_aloadN (k := 2) (q := 21) B X1 dK rfl rfl rfl ?_
  refine g_iconst (o := 0) (q := 22) (v := 0) B X1 dK rfl rfl ?_
  refine g_aloadN (k := 0) (q := 23) B X1 dK rfl rfl rfl ?_
  refine g_alen (q := 24) B X1 e1 G_tb dK rfl ?_
  refine g_iloadN (k := 1) (q := 25) B X1 dK rfl rfl ?_
  refine g_callS (i := 304) (W := 4) (q := 28) (argsL := [(.int (256 : Int32)), (.int (Int32.ofNat cs.length))]) (rest := [(.int (0 : Int32)), (.ref b1), (.int (0 : Int32)), (.ref tb)]) B X1 (y := yy12) (kw hw 328 rfl) (kw hw 329 rfl) (kw hw 330 rfl) (kw hw 331 rfl) dD e1 (rmMnY l Z a0 hw [] (256 : Int32) (Int32.ofNat cs.length) h1 n0 ZH (own_nlt hn)) dK rfl rfl (lenOf pd_16 rfl) (Nat.le_of_eq rfl) rfl dD dD dD dD rfl (fun _ L2 T2 X2 hQ2 => ?_)
  obtain ⟨rfl, Nq2, e2⟩ := hQ2
  have N2 := Fr.app N0 Nq2
  refine g_acopy (i := 150) (W := 0) (q := 31) B X2 (kw hw 332 rfl) (kw hw 289 rfl) (kw hw 287 rfl) (kw hw 288 rfl) e2 G_tb G_b1 (fun i => hac.get i) (fun _ => rfl) dD dD (own_nnn hn) (by rw [own_ntn hn]; show 0 + _ ≤ 256; omega) (Nat.le_of_eq (Nat.zero_add _)) N2 g_b1 dK rfl dD dD dD rfl (fun T3 h3 L3 X3 e3 N3 K3 G_b1 => ?_)
  have KK := KK.trans K3 (allS (Or.inr sz_b1) all0)
  refine g_aloadN (k := 2) (q := 32) B X3 dK rfl rfl rfl ?_
  exact g_retA B X3 rfl rfl rfl dK dD dD e3 (by
    exact ⟨b1, rfl, N3, KK, sz_b1, G_b1.congr (fun i _ => by rw [own_ntn hn]; exact congrArg Value.int (own_cpHead2 cs cs.length i (Nat.le_refl _)))⟩)
theorem pd_18 : parseMethodDescriptor "([BI)[B" = some ⟨[(.array .byte), .int], some (.array .byte)⟩ := by decide +kernel
def QrmE1 (Z : State) (b tb : Addr) (cs : List Int32) (h0 : Heap) (n0 : Nat) (v : Option Value) (h : Heap) (L : List Loc) : Prop := v = none ∧ Fr n0 L ∧ Keep h0 h [b, tb] ∧ ∃ t2 : Addr, h0.size ≤ t2 ∧ own_SB Z h b t2 (34 : Int32) cs
theorem rmE1 (l : Launch) (Z : State) (a0 : Array Value) (hw : own_H a0 Z) (ws : List Jvm.Cond) (b tb : Addr) (cs : List Int32) (h0 : Heap) (n0 : Nat) (ZH : n0 ≤ h0.size) (Y_b : own_SB Z h0 b tb (16 : Int32) cs) (g_b : n0 ≤ b) (hac : own_as cs) (hc2 : cs.length = 2) :
    own_Met l Z yy7 jdk_68_method_9_code 3 none ws (own_R 3 1 34 48) #[(.ref b), (.int (18 : Int32))] h0 (QrmE1 Z b tb cs h0 n0) 1 34 := by
  refine own_hd (fr := #[.val (.ref b), .val (.int (18 : Int32)), .unset]) (plainFor_of_name pn_14) (fun {p e s m below meth c s₁} B X0 e0 => ?_)
  have N0 := Fr.nil n0
  have KK := Keep.refl h0 [b, tb]
  have ne_b_tb := Y_b.2.2.2.2.2
  refine g_aloadN (k := 0) (q := 1) B X0 dK rfl rfl rfl ?_
  refine g_getF (i := 15) (q := 4) B X0 (host := "") (Or.inl (kw hw 213 rfl)) Via.refl e0 Y_b.2.1 dK rfl (fun T1 X1 e1 => ?_)
  refine g_alen (q := 5) B X1 e1 Y_b.2.2.2.2.1 dK rfl ?_
  refine g_aloadN (k := 0) (q := 6) B X1 dK rfl rfl rfl ?_
  refine g_getF (i := 22) (q := 9) B X1 (host := "") (Or.inl (kw hw 215 rfl)) Via.refl e1 Y_b.2.2.1 dK rfl (fun T2 X2 e2 => ?_)
  refine g_ishr (q := 10) (v := (16 : Int32)) B X2 dK (own_shr0 _) rfl ?_
  refine g_istoreN (k := 2) (q := 11) (l' := #[.val (.ref b), .val (.int (18 : Int32)), .val (.int (16 : Int32))]) B X2 dK rfl rfl ?_
  refine g_iloadN (k := 1) (q := 12) B X2 dK rfl rfl ?_
  refine g_iloadN (k := 2) (q := 13) B X2 dK rfl rfl ?_
  refine g_isub (q := 14) (v := (2 : Int32)) B X2 dK rfl rfl ?_
  refine g_ifNo (cd := .le) (o := 24) (q := 17) B X2 dK (((if0 _ _).trans (tlt (by decide : (0 : Int32) < (2 : Int32))).2.2.2)) rfl ?_
  refine g_aloadN (k := 0) (q := 18) B X2 dK rfl rfl rfl ?_
  refine g_aloadN (k := 0) (q := 19) B X2 dK rfl rfl rfl ?_
  refine g_getF (i := 15) (q := 22) B X2 (host := "") (Or.inl (kw hw 213 rfl)) Via.refl e2 Y_b.2.1 dK rfl (fun T3 X3 e3 => ?_)
  refine g_aloadN (k := 0) (q := 23) B X3 dK rfl rfl rfl ?_
  refine g_iloadN (k := 1) (q := 24) B X3 dK rfl rfl ?_
  refine g_callP (i := 104) (W := 2) (q := 27) (a := b) (argsL := [(.int (18 : Int32))]) (rest := [(.ref tb), (.ref b)]) B X3 (y := yy66) (kw hw 542 rfl) (own_NI.sel (y := yy1) (kw hw 241 rfl) (kw hw 239 rfl)) (kw hw 543 rfl) (kw hw 544 rfl) (kw hw 209 rfl) (kw hw 546 rfl) dD e3 Y_b.1 (rmNC l Z a0 hw [] b tb cs h0 n0 ZH Y_b) dK rfl rfl (lenOf pd_9 rfl) (Nat.le_of_eq rfl) rfl dD dD dD dD rfl (fun _ L4 T4 X4 hQ4 => ?_)
  obtain ⟨rfl, Nq4, e4⟩ := hQ4
  have N4 := Fr.app N0 Nq4
  refine g_aloadN (k := 0) (q := 28) B X4 dK rfl rfl rfl ?_
  refine g_getF (i := 22) (q := 31) B X4 (host := "") (Or.inl (kw hw 215 rfl)) Via.refl e4 Y_b.2.2.1 dK rfl (fun T5 X5 e5 => ?_)
  refine g_ishl (q := 32) (v := (34 : Int32)) B X5 dK (own_shl0 _) rfl ?_
  have kk6 := KK.1
  have lt6_b := Y_b.lt
  refine g_callS (i := 108) (W := 1) (q := 35) (argsL := [(.ref tb), (.int (34 : Int32))]) (rest := [(.ref b)]) B X5 (y := yy21) (kw hw 555 rfl) (kw hw 556 rfl) (kw hw 320 rfl) (kw hw 557 rfl) dD e5 (rmCp l Z a0 hw [] tb cs h0 n0 ZH Y_b.2.2.2.2.1 hac (by omega)) dK rfl rfl (lenOf pd_18 rfl) (Nat.le_of_eq rfl) rfl dD dD dD dD rfl (fun _ L6 T6 X6 hQ6 => ?_)
  obtain ⟨t6, rfl, Nq6, K6, szq6, Fq6⟩ := hQ6
  have N6 := Fr.app N4 Nq6
  have Y_b := Y_b.keep K6 nin0 nin0
  have KK := KK.trans K6 all0
  have ne_b_t6 := nz lt6_b szq6
  have sz_t6 := Nat.le_trans kk6 szq6
  have G_t6 := Fq6
  obtain ⟨E_b, F_value_b, F_coder_b, F_count_b, G_tb, ne_b_tb⟩ := Y_b
  refine g_putF (i := 15) (q := 38) B X6 (host := "") (Or.inl (kw hw 213 rfl)) Via.refl rfl F_value_b E_b (Or.inl (kw hw 214 rfl)) (kw hw 200 rfl) (ty := (.array .byte)) dD rfl rfl dK rfl (fun T7 h7 X7 e7 W7 => ?_)
  have N7 := Fr.snoc X7 N6 g_b
  have F_value_b := F_value_b.same W7
  have G_t6 := G_t6.other W7 (Ne.symm ne_b_t6)
  have E_b := E_b.wr W7
  have F_coder_b := F_coder_b.other W7 (Or.inr (slot_ne (Or.inl (kw hw 216 rfl)) (Or.inl (kw hw 214 rfl)) dD (t := .byte) (t' := (.array .byte)) dD dD))
  have F_count_b := F_count_b.other W7 (Or.inr (slot_ne (Or.inl (kw hw 228 rfl)) (Or.inl (kw hw 214 rfl)) dD (t := .int) (t' := (.array .byte)) dD dD))
  have KK := KK.wr W7 (mi 0 rfl)
  exact g_ret B X7 dK dD dD e7 (by
    exact ⟨rfl, N7, KK, t6, sz_t6, E_b, F_value_b, F_coder_b, F_count_b, G_t6, ne_b_t6⟩)
theorem pd_19 : parseMethodDescriptor "(ILjava/lang/String;)V" = some ⟨[.int, (.object "java/lang/String")], none⟩ := by decide +kernel
def QrmAS1 (Z : State) (cz : Int32) (fv : Value) (ev dg ca : Addr) (cg : Nat → Addr) (b tb : Addr) (cs : List Int32) (x tx : Addr) (ks : List Int32) (h0 : Heap) (n0 : Nat) (v : Option Value) (h : Heap) (L : List Loc) : Prop := v = some (.ref b) ∧ Fr n0 L ∧ Keep h0 h [b, tb] ∧ ∃ (t2 : Addr) (c2 : Int32), ((t2 = tb ∨ h0.size ≤ t2) ∧ (Int32.ofNat (cs ++ ks).length) < c2 ∧ ¬ (100 : Int32) < c2) ∧ own_SB Z h b t2 c2 (cs ++ ks)
theorem rmAS1 (l : Launch) (Z : State) (a0 : Array Value) (hw : own_H a0 Z) (ws : List Jvm.Cond) (cz : Int32) (fv : Value) (ev dg ca : Addr) (cg : Nat → Addr) (b tb : Addr) (cs : List Int32) (x tx : Addr) (ks : List Int32) (h0 : Heap) (n0 : Nat) (ZH : n0 ≤ h0.size) (OO : Old Z n0 h0) (HW : own_W Z cz fv ev dg ca cg) (Y_b : own_SB Z h0 b tb (16 : Int32) cs) (Y_x : own_St Z h0 x tx ks) (ne_x_tb : x ≠ tb) (ne_tx_tb : tx ≠ tb) (ne_x_b : x ≠ b) (ne_tx_b : tx ≠ b) (g_b : n0 ≤ b) (g_tb : n0 ≤ tb) (hac : own_as cs) (hak : own_as ks) (hc2 : cs.length = 2) (hk2 : ks.length = 16) :
    own_Met l Z yy5 jdk_68_method_22_code 3 (some (.object zz2)) ws (own_R 4 1 34 62) #[(.ref b), (.ref x)] h0 (QrmAS1 Z cz fv ev dg ca cg b tb cs x tx ks h0 n0) 1 34 := by
  refine own_hd (fr := #[.val (.ref b), .val (.ref x), .unset]) (plainFor_of_name pn_14) (fun {p e s m below meth c s₁} B X0 e0 => ?_)
  have N0 := Fr.nil n0
  have KK := Keep.refl h0 [b, tb]
  have I_tx := Y_x.in_tx
  refine g_aloadN (k := 1) (q := 1) B X0 dK rfl rfl rfl ?_
  refine g_ifnonnullYes (o := 8) (q := 9) B X0 dK dD dD ?_
  refine g_aloadN (k := 1) (q := 10) B X0 dK rfl rfl rfl ?_
  refine g_callV (i := 32) (W := 0) (q := 13) (a := x) (argsL := []) (rest := []) B X0 (y := yy6) (kw hw 257 rfl) (kw hw 258 rfl) (kw hw 260 rfl) (kw hw 259 rfl) (kw hw 4 rfl) (kw hw 261 rfl) dD e0 Y_x.1 (rmLN l Z a0 hw [] cz fv ev dg ca cg x tx ks h0 n0 ZH OO HW Y_x) dK rfl rfl (lenOf pd_3 rfl) (Nat.le_of_eq rfl) rfl dD dD dD dD rfl (fun _ L1 T1 X1 hQ1 => ?_)
  obtain ⟨rfl, Nq1, e1⟩ := hQ1
  have N1 := Fr.app N0 Nq1
  refine g_istoreN (k := 2) (q := 14) (l' := #[.val (.ref b), .val (.ref x), .val (.int (Int32.ofNat ks.length))]) B X1 dK rfl rfl ?_
  refine g_aloadN (k := 0) (q := 15) B X1 dK rfl rfl rfl ?_
  refine g_aloadN (k := 0) (q := 16) B X1 dK rfl rfl rfl ?_
  refine g_getF (i := 79) (q := 19) B X1 (host := "") (Or.inl (kw hw 227 rfl)) Via.refl e1 Y_b.2.2.2.1 dK rfl (fun T2 X2 e2 => ?_)
  refine g_iloadN (k := 2) (q := 20) B X2 dK rfl rfl ?_
  refine g_iadd (q := 21) B X2 dK rfl rfl ?_
  rw [show (Int32.ofNat cs.length) + (Int32.ofNat ks.length) = (18 : Int32) from by rw [hc2, hk2]; rfl]
  have zh3 := ZH
  have kk3 := KK.1
  have lt3_b := Y_b.lt
  have lt3_x := Y_x.lt
  have lt3_tx := I_tx.lt
  refine g_callP (i := 100) (W := 0) (q := 24) (a := b) (argsL := [(.int (18 : Int32))]) (rest := []) B X2 (y := yy7) (kw hw 233 rfl) (own_NI.sel (y := yy1) (kw hw 241 rfl) (kw hw 239 rfl)) (kw hw 234 rfl) (kw hw 235 rfl) (kw hw 209 rfl) (kw hw 237 rfl) dD e2 Y_b.1 (rmE1 l Z a0 hw [] b tb cs h0 n0 ZH Y_b g_b hac hc2) dK rfl rfl (lenOf pd_0 rfl) (Nat.le_of_eq rfl) rfl dD dD dD dD rfl (fun _ L3 T3 X3 hQ3 => ?_)
  obtain ⟨rfl, Nq3, K3, t2, szq3, Yq3⟩ := hQ3
  have N3 := Fr.app N1 Nq3
  have Y_x := Y_x.keep K3 (ninS ne_x_b (ninS ne_x_tb nin0)) (ninS ne_tx_b (ninS ne_tx_tb nin0))
  have ZH := Nat.le_trans ZH K3.1
  have KK := KK.trans K3 (allS (mi 0 rfl) (allS (mi 1 rfl) all0))
  have OO := OO.keep K3 (allS g_b (allS g_tb all0))
  have Y_b := Yq3
  have ne_b_t2 := nz lt3_b szq3
  have ne_x_t2 := nz lt3_x szq3
  have ne_tx_t2 := nz lt3_tx szq3
  have g_t2 := Nat.le_trans zh3 szq3
  have sz_t2 := Nat.le_trans kk3 szq3
  obtain ⟨E_b, F_value_b, F_coder_b, F_count_b, G_t2, ne_b_t2⟩ := Y_b
  refine g_aloadN (k := 0) (q := 25) B X3 dK rfl rfl rfl ?_
  refine g_aloadN (k := 0) (q := 26) B X3 dK rfl rfl rfl ?_
  refine g_getF (i := 79) (q := 29) B X3 (host := "") (Or.inl (kw hw 227 rfl)) Via.refl rfl F_count_b dK rfl (fun T4 X4 e4 => ?_)
  refine g_aloadN (k := 1) (q := 30) B X4 dK rfl rfl rfl ?_
  refine g_callP (i := 208) (W := 0) (q := 33) (a := b) (argsL := [(.int (Int32.ofNat cs.length)), (.ref x)]) (rest := []) B X4 (y := yy20) (kw hw 270 rfl) (own_NI.sel (y := yy1) (kw hw 241 rfl) (kw hw 239 rfl)) (kw hw 271 rfl) (kw hw 272 rfl) (kw hw 209 rfl) (kw hw 274 rfl) dD e4 E_b (rmPS l Z a0 hw [] cz fv ev dg ca cg b t2 (34 : Int32) cs x tx ks T3.heap n0 ZH OO HW ⟨E_b, F_value_b, F_coder_b, F_count_b, G_t2, ne_b_t2⟩ Y_x ne_x_t2 ne_tx_t2 ne_x_b ne_tx_b g_b g_t2 hac hak (by omega) (by omega) (by rw [hc2, hk2]; decide)) dK rfl rfl (lenOf pd_19 rfl) (Nat.le_of_eq rfl) rfl dD dD dD dD rfl (fun _ L5 T5 X5 hQ5 => ?_)
  obtain ⟨rfl, Nq5, K5, Gq5⟩ := hQ5
  have N5 := Fr.app N3 Nq5
  have E_b := E_b.keep K5
  have F_value_b := F_value_b.keep K5 (ninS ne_b_t2 nin0)
  have F_coder_b := F_coder_b.keep K5 (ninS ne_b_t2 nin0)
  have F_count_b := F_count_b.keep K5 (ninS ne_b_t2 nin0)
  have KK := KK.trans K5 (allS (Or.inr sz_t2) all0)
  have G_t2 := Gq5
  refine g_aloadN (k := 0) (q := 34) B X5 dK rfl rfl rfl ?_
  refine g_dup (q := 35) B X5 dK rfl rfl ?_
  refine g_getF (i := 79) (q := 38) B X5 (host := "") (Or.inl (kw hw 227 rfl)) Via.refl rfl F_count_b dK rfl (fun T6 X6 e6 => ?_)
  refine g_iloadN (k := 2) (q := 39) B X6 dK rfl rfl ?_
  refine g_iadd (q := 40) B X6 dK rfl rfl ?_
  refine g_putF (i := 79) (q := 43) B X6 (host := "") (Or.inl (kw hw 227 rfl)) Via.refl e6 F_count_b E_b (Or.inl (kw hw 228 rfl)) (kw hw 200 rfl) (ty := .int) dD rfl rfl dK rfl (fun T7 h7 X7 e7 W7 => ?_)
  have N7 := Fr.snoc X7 N5 g_b
  have F_count_b := F_count_b.same W7
  have E_b := E_b.wr W7
  have F_value_b := F_value_b.other W7 (Or.inr (slot_ne (Or.inl (kw hw 214 rfl)) (Or.inl (kw hw 228 rfl)) dD (t := (.array .byte)) (t' := .int) dD dD))
  have F_coder_b := F_coder_b.other W7 (Or.inr (slot_ne (Or.inl (kw hw 216 rfl)) (Or.inl (kw hw 228 rfl)) dD (t := .byte) (t' := .int) dD dD))
  have G_t2 := G_t2.other W7 (Ne.symm ne_b_t2)
  have KK := KK.wr W7 (mi 0 rfl)
  refine g_aloadN (k := 0) (q := 44) B X7 dK rfl rfl rfl ?_
  exact g_retA B X7 rfl rfl rfl dK dD dD e7 (by
    rw [own_iadd, ← List.length_append] at F_count_b
    exact ⟨rfl, N7, KK, t2, (34 : Int32), ⟨Or.inr sz_t2, own_lt34 (by rw [List.length_append]; omega), by decide⟩, E_b, F_value_b, F_coder_b, F_count_b, G_t2, ne_b_t2⟩)
def QrmAS0 (Z : State) (cz : Int32) (fv : Value) (ev dg ca : Addr) (cg : Nat → Addr) (b tb : Addr) (cs : List Int32) (x tx : Addr) (ks : List Int32) (h0 : Heap) (n0 : Nat) (v : Option Value) (h : Heap) (L : List Loc) : Prop := v = some (.ref b) ∧ Fr n0 L ∧ Keep h0 h [b, tb] ∧ ∃ (t2 : Addr) (c2 : Int32), ((t2 = tb ∨ h0.size ≤ t2) ∧ (Int32.ofNat (cs ++ ks).length) < c2 ∧ ¬ (100 : Int32) < c2) ∧ own_SB Z h b t2 c2 (cs ++ ks)
theorem rmAS0 (l : Launch) (Z : State) (a0 : Array Value) (hw : own_H a0 Z) (ws : List Jvm.Cond) (cz : Int32) (fv : Value) (ev dg ca : Addr) (cg : Nat → Addr) (b tb : Addr) (cs : List Int32) (x tx : Addr) (ks : List Int32) (h0 : Heap) (n0 : Nat) (ZH : n0 ≤ h0.size) (OO : Old Z n0 h0) (HW : own_W Z cz fv ev dg ca cg) (Y_b : own_SB Z h0 b tb (16 : Int32) cs) (Y_x : own_St Z h0 x tx ks) (ne_x_tb : x ≠ tb) (ne_tx_tb : tx ≠ tb) (ne_x_b : x ≠ b) (ne_tx_b : tx ≠ b) (g_b : n0 ≤ b) (g_tb : n0 ≤ tb) (hac : own_as cs) (hak : own_as ks) (hs : cs.length + ks.length < 16) :
    own_Met l Z yy5 jdk_68_method_22_code 3 (some (.object zz2)) ws (own_R 4 1 34 62) #[(.ref b), (.ref x)] h0 (QrmAS0 Z cz fv ev dg ca cg b tb cs x tx ks h0 n0) 1 34 := by
  refine own_hd (fr := #[.val (.ref b), .val (.ref x), .unset]) (plainFor_of_name pn_14) (fun {p e s m below meth c s₁} B X0 e0 => ?_)
  have N0 := Fr.nil n0
  have KK := Keep.refl h0 [b, tb]
  have ne_b_tb := Y_b.2.2.2.2.2
  obtain ⟨E_b, F_value_b, F_coder_b, F_count_b, G_tb, ne_b_tb⟩ := Y_b
  refine g_aloadN (k := 1) (q := 1) B X0 dK rfl rfl rfl ?_
  refine g_ifnonnullYes (o := 8) (q := 9) B X0 dK dD dD ?_
  refine g_aloadN (k := 1) (q := 10) B X0 dK rfl rfl rfl ?_
  refine g_callV (i := 32) (W := 0) (q := 13) (a := x) (argsL := []) (rest := []) B X0 (y := yy6) (kw hw 257 rfl) (kw hw 258 rfl) (kw hw 260 rfl) (kw hw 259 rfl) (kw hw 4 rfl) (kw hw 261 rfl) dD e0 Y_x.1 (rmLN l Z a0 hw [] cz fv ev dg ca cg x tx ks h0 n0 ZH OO HW Y_x) dK rfl rfl (lenOf pd_3 rfl) (Nat.le_of_eq rfl) rfl dD dD dD dD rfl (fun _ L1 T1 X1 hQ1 => ?_)
  obtain ⟨rfl, Nq1, e1⟩ := hQ1
  have N1 := Fr.app N0 Nq1
  refine g_istoreN (k := 2) (q := 14) (l' := #[.val (.ref b), .val (.ref x), .val (.int (Int32.ofNat ks.length))]) B X1 dK rfl rfl ?_
  refine g_aloadN (k := 0) (q := 15) B X1 dK rfl rfl rfl ?_
  refine g_aloadN (k := 0) (q := 16) B X1 dK rfl rfl rfl ?_
  refine g_getF (i := 79) (q := 19) B X1 (host := "") (Or.inl (kw hw 227 rfl)) Via.refl e1 F_count_b dK rfl (fun T2 X2 e2 => ?_)
  refine g_iloadN (k := 2) (q := 20) B X2 dK rfl rfl ?_
  refine g_iadd (q := 21) B X2 dK rfl rfl ?_
  refine g_callP (i := 100) (W := 0) (q := 24) (a := b) (argsL := [(.int ((Int32.ofNat cs.length) + (Int32.ofNat ks.length)))]) (rest := []) B X2 (y := yy7) (kw hw 233 rfl) (own_NI.sel (y := yy1) (kw hw 241 rfl) (kw hw 239 rfl)) (kw hw 234 rfl) (kw hw 235 rfl) (kw hw 209 rfl) (kw hw 237 rfl) dD e2 E_b (rmE0 l Z a0 hw [] b tb (16 : Int32) cs ((Int32.ofNat cs.length) + (Int32.ofNat ks.length)) h0 n0 ZH ⟨E_b, F_value_b, F_coder_b, F_count_b, G_tb, ne_b_tb⟩ (by rw [own_iadd]; exact own_ec (by omega))) dK rfl rfl (lenOf pd_0 rfl) (Nat.le_of_eq rfl) rfl dD dD dD dD rfl (fun _ L3 T3 X3 hQ3 => ?_)
  obtain ⟨rfl, Nq3, e3⟩ := hQ3
  have N3 := Fr.app N1 Nq3
  refine g_aloadN (k := 0) (q := 25) B X3 dK rfl rfl rfl ?_
  refine g_aloadN (k := 0) (q := 26) B X3 dK rfl rfl rfl ?_
  refine g_getF (i := 79) (q := 29) B X3 (host := "") (Or.inl (kw hw 227 rfl)) Via.refl e3 F_count_b dK rfl (fun T4 X4 e4 => ?_)
  refine g_aloadN (k := 1) (q := 30) B X4 dK rfl rfl rfl ?_
  refine g_callP (i := 208) (W := 0) (q := 33) (a := b) (argsL := [(.int (Int32.ofNat cs.length)), (.ref x)]) (rest := []) B X4 (y := yy20) (kw hw 270 rfl) (own_NI.sel (y := yy1) (kw hw 241 rfl) (kw hw 239 rfl)) (kw hw 271 rfl) (kw hw 272 rfl) (kw hw 209 rfl) (kw hw 274 rfl) dD e4 E_b (rmPS l Z a0 hw [] cz fv ev dg ca cg b tb (16 : Int32) cs x tx ks h0 n0 ZH OO HW ⟨E_b, F_value_b, F_coder_b, F_count_b, G_tb, ne_b_tb⟩ Y_x ne_x_tb ne_tx_tb ne_x_b ne_tx_b g_b g_tb hac hak (by omega) (by omega) (by show _ ≤ 16; omega)) dK rfl rfl (lenOf pd_19 rfl) (Nat.le_of_eq rfl) rfl dD dD dD dD rfl (fun _ L5 T5 X5 hQ5 => ?_)
  obtain ⟨rfl, Nq5, K5, Gq5⟩ := hQ5
  have N5 := Fr.app N3 Nq5
  have E_b := E_b.keep K5
  have F_value_b := F_value_b.keep K5 (ninS ne_b_tb nin0)
  have F_coder_b := F_coder_b.keep K5 (ninS ne_b_tb nin0)
  have F_count_b := F_count_b.keep K5 (ninS ne_b_tb nin0)
  have KK := KK.trans K5 (allS (mi 1 rfl) all0)
  have G_tb := Gq5
  refine g_aloadN (k := 0) (q := 34) B X5 dK rfl rfl rfl ?_
  refine g_dup (q := 35) B X5 dK rfl rfl ?_
  refine g_getF (i := 79) (q := 38) B X5 (host := "") (Or.inl (kw hw 227 rfl)) Via.refl rfl F_count_b dK rfl (fun T6 X6 e6 => ?_)
  refine g_iloadN (k := 2) (q := 39) B X6 dK rfl rfl ?_
  refine g_iadd (q := 40) B X6 dK rfl rfl ?_
  refine g_putF (i := 79) (q := 43) B X6 (host := "") (Or.inl (kw hw 227 rfl)) Via.refl e6 F_count_b E_b (Or.inl (kw hw 228 rfl)) (kw hw 200 rfl) (ty := .int) dD rfl rfl dK rfl (fun T7 h7 X7 e7 W7 => ?_)
  have N7 := Fr.snoc X7 N5 g_b
  have F_count_b := F_count_b.same W7
  have E_b := E_b.wr W7
  have F_value_b := F_value_b.other W7 (Or.inr (slot_ne (Or.inl (kw hw 214 rfl)) (Or.inl (kw hw 228 rfl)) dD (t := (.array .byte)) (t' := .int) dD dD))
  have F_coder_b := F_coder_b.other W7 (Or.inr (slot_ne (Or.inl (kw hw 216 rfl)) (Or.inl (kw hw 228 rfl)) dD (t := .byte) (t' := .int) dD dD))
  have G_tb := G_tb.other W7 (Ne.symm ne_b_tb)
  have KK := KK.wr W7 (mi 0 rfl)
  refine g_aloadN (k := 0) (q := 44) B X7 dK rfl rfl rfl ?_
  exact g_retA B X7 rfl rfl rfl dK dD dD e7 (by
    rw [own_iadd, ← List.length_append] at F_count_b
    exact ⟨rfl, N7, KK, tb, (16 : Int32), ⟨Or.inl rfl, own_l16 (by rw [List.length_append]; omega), by decide⟩, E_b, F_value_b, F_coder_b, F_count_b, G_tb, ne_b_tb⟩)
def QrmASx (Z : State) (cz : Int32) (fv : Value) (ev dg ca : Addr) (cg : Nat → Addr) (b tb : Addr) (cs : List Int32) (x tx : Addr) (ks : List Int32) (h0 : Heap) (n0 : Nat) (v : Option Value) (h : Heap) (L : List Loc) : Prop := v = some (.ref b) ∧ Fr n0 L ∧ Keep h0 h [b, tb] ∧ own_SB Z h b tb (16 : Int32) (cs ++ ks)
theorem rmASx (l : Launch) (Z : State) (a0 : Array Value) (hw : own_H a0 Z) (ws : List Jvm.Cond) (cz : Int32) (fv : Value) (ev dg ca : Addr) (cg : Nat → Addr) (b tb : Addr) (cs : List Int32) (x tx : Addr) (ks : List Int32) (h0 : Heap) (n0 : Nat) (ZH : n0 ≤ h0.size) (OO : Old Z n0 h0) (HW : own_W Z cz fv ev dg ca cg) (Y_b : own_SB Z h0 b tb (16 : Int32) cs) (Y_x : own_St Z h0 x tx ks) (ne_x_tb : x ≠ tb) (ne_tx_tb : tx ≠ tb) (ne_x_b : x ≠ b) (ne_tx_b : tx ≠ b) (g_b : n0 ≤ b) (g_tb : n0 ≤ tb) (hac : own_as cs) (hak : own_as ks) (hs : cs.length + ks.length < 16) :
    own_Met l Z yy5 jdk_68_method_22_code 3 (some (.object zz2)) ws (own_R 3 0 0 47) #[(.ref b), (.ref x)] h0 (QrmASx Z cz fv ev dg ca cg b tb cs x tx ks h0 n0) 0 0 := by
  refine own_hd (fr := #[.val (.ref b), .val (.ref x), .unset]) (plainFor_of_name pn_14) (fun {p e s m below meth c s₁} B X0 e0 => ?_)
  have N0 := Fr.nil n0
  have KK := Keep.refl h0 [b, tb]
  have ne_b_tb := Y_b.2.2.2.2.2
  obtain ⟨E_b, F_value_b, F_coder_b, F_count_b, G_tb, ne_b_tb⟩ := Y_b
  refine g_aloadN (k := 1) (q := 1) B X0 dK rfl rfl rfl ?_
  refine g_ifnonnullYes (o := 8) (q := 9) B X0 dK dD dD ?_
  refine g_aloadN (k := 1) (q := 10) B X0 dK rfl rfl rfl ?_
  refine g_callV (i := 32) (W := 0) (q := 13) (a := x) (argsL := []) (rest := []) B X0 (y := yy6) (kw hw 257 rfl) (kw hw 258 rfl) (kw hw 260 rfl) (kw hw 259 rfl) (kw hw 4 rfl) (kw hw 261 rfl) dD e0 Y_x.1 (rmLN l Z a0 hw [] cz fv ev dg ca cg x tx ks h0 n0 ZH OO HW Y_x) dK rfl rfl (lenOf pd_3 rfl) (Nat.le_of_eq rfl) rfl dD dD dD dD rfl (fun _ L1 T1 X1 hQ1 => ?_)
  obtain ⟨rfl, Nq1, e1⟩ := hQ1
  have N1 := Fr.app N0 Nq1
  refine g_istoreN (k := 2) (q := 14) (l' := #[.val (.ref b), .val (.ref x), .val (.int (Int32.ofNat ks.length))]) B X1 dK rfl rfl ?_
  refine g_aloadN (k := 0) (q := 15) B X1 dK rfl rfl rfl ?_
  refine g_aloadN (k := 0) (q := 16) B X1 dK rfl rfl rfl ?_
  refine g_getF (i := 79) (q := 19) B X1 (host := "") (Or.inl (kw hw 227 rfl)) Via.refl e1 F_count_b dK rfl (fun T2 X2 e2 => ?_)
  refine g_iloadN (k := 2) (q := 20) B X2 dK rfl rfl ?_
  refine g_iadd (q := 21) B X2 dK rfl rfl ?_
  refine g_callP (i := 100) (W := 0) (q := 24) (a := b) (argsL := [(.int ((Int32.ofNat cs.length) + (Int32.ofNat ks.length)))]) (rest := []) B X2 (y := yy7) (kw hw 233 rfl) (own_NI.sel (y := yy1) (kw hw 241 rfl) (kw hw 239 rfl)) (kw hw 234 rfl) (kw hw 235 rfl) (kw hw 209 rfl) (kw hw 237 rfl) dD e2 E_b (rmE0 l Z a0 hw [] b tb (16 : Int32) cs ((Int32.ofNat cs.length) + (Int32.ofNat ks.length)) h0 n0 ZH ⟨E_b, F_value_b, F_coder_b, F_count_b, G_tb, ne_b_tb⟩ (by rw [own_iadd]; exact own_ec (by omega))) dK rfl rfl (lenOf pd_0 rfl) (Nat.le_of_eq rfl) rfl dD dD dD dD rfl (fun _ L3 T3 X3 hQ3 => ?_)
  obtain ⟨rfl, Nq3, e3⟩ := hQ3
  have N3 := Fr.app N1 Nq3
  refine g_aloadN (k := 0) (q := 25) B X3 dK rfl rfl rfl ?_
  refine g_aloadN (k := 0) (q := 26) B X3 dK rfl rfl rfl ?_
  refine g_getF (i := 79) (q := 29) B X3 (host := "") (Or.inl (kw hw 227 rfl)) Via.refl e3 F_count_b dK rfl (fun T4 X4 e4 => ?_)
  refine g_aloadN (k := 1) (q := 30) B X4 dK rfl rfl rfl ?_
  refine g_callP (i := 208) (W := 0) (q := 33) (a := b) (argsL := [(.int (Int32.ofNat cs.length)), (.ref x)]) (rest := []) B X4 (y := yy20) (kw hw 270 rfl) (own_NI.sel (y := yy1) (kw hw 241 rfl) (kw hw 239 rfl)) (kw hw 271 rfl) (kw hw 272 rfl) (kw hw 209 rfl) (kw hw 274 rfl) dD e4 E_b (rmPS l Z a0 hw [] cz fv ev dg ca cg b tb (16 : Int32) cs x tx ks h0 n0 ZH OO HW ⟨E_b, F_value_b, F_coder_b, F_count_b, G_tb, ne_b_tb⟩ Y_x ne_x_tb ne_tx_tb ne_x_b ne_tx_b g_b g_tb hac hak (by omega) (by omega) (by show _ ≤ 16; omega)) dK rfl rfl (lenOf pd_19 rfl) (Nat.le_of_eq rfl) rfl dD dD dD dD rfl (fun _ L5 T5 X5 hQ5 => ?_)
  obtain ⟨rfl, Nq5, K5, Gq5⟩ := hQ5
  have N5 := Fr.app N3 Nq5
  have E_b := E_b.keep K5
  have F_value_b := F_value_b.keep K5 (ninS ne_b_tb nin0)
  have F_coder_b := F_coder_b.keep K5 (ninS ne_b_tb nin0)
  have F_count_b := F_count_b.keep K5 (ninS ne_b_tb nin0)
  have KK := KK.trans K5 (allS (mi 1 rfl) all0)
  have G_tb := Gq5
  refine g_aloadN (k := 0) (q := 34) B X5 dK rfl rfl rfl ?_
  refine g_dup (q := 35) B X5 dK rfl rfl ?_
  refine g_getF (i := 79) (q := 38) B X5 (host := "") (Or.inl (kw hw 227 rfl)) Via.refl rfl F_count_b dK rfl (fun T6 X6 e6 => ?_)
  refine g_iloadN (k := 2) (q := 39) B X6 dK rfl rfl ?_
  refine g_iadd (q := 40) B X6 dK rfl rfl ?_
  refine g_putF (i := 79) (q := 43) B X6 (host := "") (Or.inl (kw hw 227 rfl)) Via.refl e6 F_count_b E_b (Or.inl (kw hw 228 rfl)) (kw hw 200 rfl) (ty := .int) dD rfl rfl dK rfl (fun T7 h7 X7 e7 W7 => ?_)
  have N7 := Fr.snoc X7 N5 g_b
  have F_count_b := F_count_b.same W7
  have E_b := E_b.wr W7
  have F_value_b := F_value_b.other W7 (Or.inr (slot_ne (Or.inl (kw hw 214 rfl)) (Or.inl (kw hw 228 rfl)) dD (t := (.array .byte)) (t' := .int) dD dD))
  have F_coder_b := F_coder_b.other W7 (Or.inr (slot_ne (Or.inl (kw hw 216 rfl)) (Or.inl (kw hw 228 rfl)) dD (t := .byte) (t' := .int) dD dD))
  have G_tb := G_tb.other W7 (Ne.symm ne_b_tb)
  have KK := KK.wr W7 (mi 0 rfl)
  refine g_aloadN (k := 0) (q := 44) B X7 dK rfl rfl rfl ?_
  exact g_retA B X7 rfl rfl rfl dK dD dD e7 (by
    rw [own_iadd, ← List.length_append] at F_count_b
    exact ⟨rfl, N7, KK, E_b, F_value_b, F_coder_b, F_count_b, G_tb, ne_b_tb⟩)
theorem pd_20 : parseMethodDescriptor "(Ljava/lang/String;)Ljava/lang/AbstractStringBuilder;" = some ⟨[(.object "java/lang/String")], some (.object "java/lang/AbstractStringBuilder")⟩ := by decide +kernel
def QrmBSx (Z : State) (cz : Int32) (fv : Value) (ev dg ca : Addr) (cg : Nat → Addr) (b tb : Addr) (cs : List Int32) (x tx : Addr) (ks : List Int32) (h0 : Heap) (n0 : Nat) (v : Option Value) (h : Heap) (L : List Loc) : Prop := v = some (.ref b) ∧ Fr n0 L ∧ Keep h0 h [b, tb] ∧ own_SB Z h b tb (16 : Int32) (cs ++ ks)
theorem rmBSx (l : Launch) (Z : State) (a0 : Array Value) (hw : own_H a0 Z) (ws : List Jvm.Cond) (cz : Int32) (fv : Value) (ev dg ca : Addr) (cg : Nat → Addr) (b tb : Addr) (cs : List Int32) (x tx : Addr) (ks : List Int32) (h0 : Heap) (n0 : Nat) (ZH : n0 ≤ h0.size) (OO : Old Z n0 h0) (HW : own_W Z cz fv ev dg ca cg) (Y_b : own_SB Z h0 b tb (16 : Int32) cs) (Y_x : own_St Z h0 x tx ks) (ne_x_tb : x ≠ tb) (ne_tx_tb : tx ≠ tb) (ne_x_b : x ≠ b) (ne_tx_b : tx ≠ b) (g_b : n0 ≤ b) (g_tb : n0 ≤ tb) (hac : own_as cs) (hak : own_as ks) (hs : cs.length + ks.length < 16) :
    own_Met l Z yy10 jdk_67_method_7_code 2 (some (.object zz7)) ws (own_R 4 0 0 61) #[(.ref b), (.ref x)] h0 (QrmBSx Z cz fv ev dg ca cg b tb cs x tx ks h0 n0) 0 0 := by
  refine own_hd (fr := #[.val (.ref b), .val (.ref x)]) (plainFor_of_name pn_15) (fun {p e s m below meth c s₁} B X0 e0 => ?_)
  have N0 := Fr.nil n0
  have KK := Keep.refl h0 [b, tb]
  refine g_aloadN (k := 0) (q := 1) B X0 dK rfl rfl rfl ?_
  refine g_aloadN (k := 1) (q := 2) B X0 dK rfl rfl rfl ?_
  refine g_callU (C := "") (i := 29) (W := 0) (q := 5) (a := b) (argsL := [(.ref x)]) (rest := []) B X0 (y := yy5) (kw hw 253 rfl) (own_NI.same (y := yy5) (own_NI.sel (y := yy1) (kw hw 241 rfl) (kw hw 239 rfl)) (kw hw 255 rfl) dD) (kw hw 254 rfl) (kw hw 224 rfl) dD (kw hw 209 rfl) (kw hw 256 rfl) e0 (Ins.self Y_b.1) (rmASx l Z a0 hw [] cz fv ev dg ca cg b tb cs x tx ks h0 n0 ZH OO HW Y_b Y_x ne_x_tb ne_tx_tb ne_x_b ne_tx_b g_b g_tb hac hak hs) dK rfl rfl (lenOf pd_20 rfl) (Nat.le_of_eq rfl) rfl dD dD dD dD rfl (fun _ L1 T1 X1 hQ1 => ?_)
  obtain ⟨rfl, Nq1, K1, Yq1_0⟩ := hQ1
  have N1 := Fr.app N0 Nq1
  have KK := KK.trans K1 (allS (mi 0 rfl) (allS (mi 1 rfl) all0))
  have Y_b := Yq1_0
  refine g_pop (q := 6) B X1 dK rfl rfl ?_
  refine g_aloadN (k := 0) (q := 7) B X1 dK rfl rfl rfl ?_
  exact g_retA B X1 rfl rfl rfl dK dD dD rfl (by
    exact ⟨rfl, N1, KK, Y_b⟩)
def QrmAS (Z : State) (cz : Int32) (fv : Value) (ev dg ca : Addr) (cg : Nat → Addr) (b tb : Addr) (cs : List Int32) (x tx : Addr) (ks : List Int32) (h0 : Heap) (n0 : Nat) (v : Option Value) (h : Heap) (L : List Loc) : Prop := v = some (.ref b) ∧ Fr n0 L ∧ Keep h0 h [b, tb] ∧ ∃ (t2 : Addr) (c2 : Int32), ((t2 = tb ∨ h0.size ≤ t2) ∧ (Int32.ofNat (cs ++ ks).length) < c2 ∧ ¬ (100 : Int32) < c2) ∧ own_SB Z h b t2 c2 (cs ++ ks)
theorem rmAS (l : Launch) (Z : State) (a0 : Array Value) (hw : own_H a0 Z) (ws : List Jvm.Cond) (cz : Int32) (fv : Value) (ev dg ca : Addr) (cg : Nat → Addr) (b tb : Addr) (cs : List Int32) (x tx : Addr) (ks : List Int32) (h0 : Heap) (n0 : Nat) (Z0 : n0 ≤ h0.size) (OO : Old Z n0 h0) (HW : own_W Z cz fv ev dg ca cg) (Y_b : own_SB Z h0 b tb (16 : Int32) cs) (Y_x : own_St Z h0 x tx ks) (ne_x_tb : x ≠ tb) (ne_tx_tb : tx ≠ tb) (ne_x_b : x ≠ b) (ne_tx_b : tx ≠ b) (g_b : n0 ≤ b) (g_tb : n0 ≤ tb) (hac : own_as cs) (hak : own_as ks) (hcase : cs.length + ks.length < 16 ∨ (cs.length = 2 ∧ ks.length = 16)) :
    own_Met l Z yy5 jdk_68_method_22_code 3 (some (.object zz2)) ws (own_R 4 1 34 62) #[(.ref b), (.ref x)] h0 (QrmAS Z cz fv ev dg ca cg b tb cs x tx ks h0 n0) 1 34 := by
  rcases hcase with hcase | hcase
  · exact rmAS0 l Z a0 hw ws cz fv ev dg ca cg b tb cs x tx ks h0 n0 Z0 OO HW Y_b Y_x ne_x_tb ne_tx_tb ne_x_b ne_tx_b g_b g_tb hac hak hcase
  · exact rmAS1 l Z a0 hw ws cz fv ev dg ca cg b tb cs x tx ks h0 n0 Z0 OO HW Y_b Y_x ne_x_tb ne_tx_tb ne_x_b ne_tx_b g_b g_tb hac hak hcase.1 hcase.2
def QrmBS (Z : State) (cz : Int32) (fv : Value) (ev dg ca : Addr) (cg : Nat → Addr) (b tb : Addr) (cs : List Int32) (x tx : Addr) (ks : List Int32) (h0 : Heap) (n0 : Nat) (v : Option Value) (h : Heap) (L : List Loc) : Prop := v = some (.ref b) ∧ Fr n0 L ∧ Keep h0 h [b, tb] ∧ ∃ (t2 : Addr) (c2 : Int32), ((t2 = tb ∨ h0.size ≤ t2) ∧ (Int32.ofNat (cs ++ ks).length) < c2 ∧ ¬ (100 : Int32) < c2) ∧ own_SB Z h b t2 c2 (cs ++ ks)
theorem rmBS (l : Launch) (Z : State) (a0 : Array Value) (hw : own_H a0 Z) (ws : List Jvm.Cond) (cz : Int32) (fv : Value) (ev dg ca : Addr) (cg : Nat → Addr) (b tb : Addr) (cs : List Int32) (x tx : Addr) (ks : List Int32) (h0 : Heap) (n0 : Nat) (ZH : n0 ≤ h0.size) (OO : Old Z n0 h0) (HW : own_W Z cz fv ev dg ca cg) (Y_b : own_SB Z h0 b tb (16 : Int32) cs) (Y_x : own_St Z h0 x tx ks) (ne_x_tb : x ≠ tb) (ne_tx_tb : tx ≠ tb) (ne_x_b : x ≠ b) (ne_tx_b : tx ≠ b) (g_b : n0 ≤ b) (g_tb : n0 ≤ tb) (hac : own_as cs) (hak : own_as ks) (hcase : cs.length + ks.length < 16 ∨ (cs.length = 2 ∧ ks.length = 16)) :
    own_Met l Z yy10 jdk_67_method_7_code 2 (some (.object zz7)) ws (own_R 5 1 34 76) #[(.ref b), (.ref x)] h0 (QrmBS Z cz fv ev dg ca cg b tb cs x tx ks h0 n0) 1 34 := by
  refine own_hd (fr := #[.val (.ref b), .val (.ref x)]) (plainFor_of_name pn_15) (fun {p e s m below meth c s₁} B X0 e0 => ?_)
  have N0 := Fr.nil n0
  have KK := Keep.refl h0 [b, tb]
  refine g_aloadN (k := 0) (q := 1) B X0 dK rfl rfl rfl ?_
  refine g_aloadN (k := 1) (q := 2) B X0 dK rfl rfl rfl ?_
  refine g_callU (C := "") (i := 29) (W := 0) (q := 5) (a := b) (argsL := [(.ref x)]) (rest := []) B X0 (y := yy5) (kw hw 253 rfl) (own_NI.same (y := yy5) (own_NI.sel (y := yy1) (kw hw 241 rfl) (kw hw 239 rfl)) (kw hw 255 rfl) dD) (kw hw 254 rfl) (kw hw 224 rfl) dD (kw hw 209 rfl) (kw hw 256 rfl) e0 (Ins.self Y_b.1) (rmAS l Z a0 hw [] cz fv ev dg ca cg b tb cs x tx ks h0 n0 ZH OO HW Y_b Y_x ne_x_tb ne_tx_tb ne_x_b ne_tx_b g_b g_tb hac hak hcase) dK rfl rfl (lenOf pd_20 rfl) (Nat.le_of_eq rfl) rfl dD dD dD dD rfl (fun _ L1 T1 X1 hQ1 => ?_)
  obtain ⟨rfl, Nq1, K1, t1_2, c1_2, cq1, Yq1⟩ := hQ1
  have N1 := Fr.app N0 Nq1
  have KK := KK.trans K1 (allS (mi 0 rfl) (allS (mi 1 rfl) all0))
  have Y_b := Yq1
  have ci1 := cq1.2
  refine g_pop (q := 6) B X1 dK rfl rfl ?_
  refine g_aloadN (k := 0) (q := 7) B X1 dK rfl rfl rfl ?_
  exact g_retA B X1 rfl rfl rfl dK dD dD rfl (by
    exact ⟨rfl, N1, KK, t1_2, c1_2, cq1, Y_b⟩)
def QrmKL (Z : State) (nn : Int32) (h0 : Heap) (n0 : Nat) (v : Option Value) (h : Heap) (L : List Loc) : Prop := v = none ∧ Fr n0 L ∧ h = h0
theorem rmKL (l : Launch) (Z : State) (a0 : Array Value) (hw : own_H a0 Z) (ws : List Jvm.Cond) (nn : Int32) (h0 : Heap) (n0 : Nat) (ZH : n0 ≤ h0.size) (hq : ¬ nn < (0 : Int32)) :
    own_Met l Z yy67 jdk_65_method_131_code 2 none ws (own_R 0 0 0 0) #[(.int (0 : Int32)), (.int nn)] h0 (QrmKL Z nn h0 n0) 0 0 := by
  refine own_hd (fr := #[.val (.int (0 : Int32)), .val (.int nn)]) (plainFor_of_name pn_18) (fun {p e s m below meth c s₁} B X0 e0 => ?_)
  have N0 := Fr.nil n0
  refine g_iloadN (k := 1) (q := 1) B X0 dK rfl rfl ?_
  refine g_iloadN (k := 0) (q := 2) B X0 dK rfl rfl ?_
  refine g_icmpYes (cd := .ge) (o := 35) (q := 37) B X0 dK ((flt (hq : ¬ (nn < (0 : Int32)))).2.1) dD dD ?_
  exact g_ret B X0 dK dD dD e0 (by
    exact ⟨rfl, N0, rfl⟩)
def QrmCB (Z : State) (tb : Addr) (cap : Int32) (cs : List Int32) (h0 : Heap) (n0 : Nat) (v : Option Value) (h : Heap) (L : List Loc) : Prop := ∃ b : Addr, v = some (.ref b) ∧ Fr n0 L ∧ Keep h0 h [] ∧ h0.size ≤ b ∧ own_Arf Z h b .byte (Int32.ofNat cs.length) (fun i => .int (own_L cs i)) ∧ Exa Z h b "[B"
theorem rmCB (l : Launch) (Z : State) (a0 : Array Value) (hw : own_H a0 Z) (ws : List Jvm.Cond) (tb : Addr) (cap : Int32) (cs : List Int32) (h0 : Heap) (n0 : Nat) (ZH : n0 ≤ h0.size) (G_tb : own_Arf Z h0 tb .byte cap (fun i => .int (own_L cs i))) (hac : own_as cs) (hlc : (Int32.ofNat cs.length) < cap) (hcc : ¬ (100 : Int32) < cap) (hn : cs.length < 100) :
    own_Met l Z yy68 jdk_65_method_133_code 5 (some (.array .byte)) ws (own_R 1 1 100 18) #[(.ref tb), (.int (0 : Int32)), (.int (Int32.ofNat cs.length))] h0 (QrmCB Z tb cap cs h0 n0) 1 100 := by
  refine own_hd (fr := #[.val (.ref tb), .val (.int (0 : Int32)), .val (.int (Int32.ofNat cs.length)), .unset, .unset]) (plainFor_of_name pn_18) (fun {p e s m below meth c s₁} B X0 e0 => ?_)
  have N0 := Fr.nil n0
  have KK := Keep.refl h0 []
  refine g_iloadN (k := 1) (q := 1) B X0 dK rfl rfl ?_
  refine g_iloadN (k := 2) (q := 2) B X0 dK rfl rfl ?_
  refine g_callS (i := 343) (W := 0) (q := 5) (argsL := [(.int (0 : Int32)), (.int (Int32.ofNat cs.length))]) (rest := []) B X0 (y := yy67) (kw hw 325 rfl) (kw hw 326 rfl) (kw hw 320 rfl) (kw hw 327 rfl) dD e0 (rmKL l Z a0 hw [] (Int32.ofNat cs.length) h0 n0 ZH (own_inn (by omega))) dK rfl rfl (lenOf pd_6 rfl) (Nat.le_of_eq rfl) rfl dD dD dD dD rfl (fun _ L1 T1 X1 hQ1 => ?_)
  obtain ⟨rfl, Nq1, e1⟩ := hQ1
  have N1 := Fr.app N0 Nq1
  refine g_iloadN (k := 2) (q := 6) B X1 dK rfl rfl ?_
  refine g_iloadN (k := 1) (q := 7) B X1 dK rfl rfl ?_
  refine g_isub (q := 8) B X1 dK rfl rfl ?_
  rw [own_subz]
  refine g_istoreN (k := 3) (q := 9) (l' := #[.val (.ref tb), .val (.int (0 : Int32)), .val (.int (Int32.ofNat cs.length)), .val (.int (Int32.ofNat cs.length)), .unset]) B X1 dK rfl rfl ?_
  refine g_iloadN (k := 3) (q := 10) B X1 dK rfl rfl ?_
  refine g_newarrE (aty := .byte) (cap := 100) (q := 12) B X1 (ad := "[B") dD (kw hw 6 rfl) e1 (own_inn (by omega)) (by rw [own_icl (by omega)]; omega) dD dK dD dD rfl (fun b2 T2 h2 gz2 X2 e2 E2 G_b2 E_b2 => ?_)
  have g_b2 := gl ZH gz2
  have sz_b2 := gl KK.1 gz2
  have G_tb := G_tb.ext E2
  have ZH := Nat.le_trans ZH E2.1
  have KK := KK.ext E2
  have G_b2 : own_Arf Z h2 b2 .byte (Int32.ofNat cs.length) (fun i => .int ((fun _ => 0 : Nat → Int32) i)) := G_b2
  refine g_astore (k := 4) (q := 14) (l' := #[.val (.ref tb), .val (.int (0 : Int32)), .val (.int (Int32.ofNat cs.length)), .val (.int (Int32.ofNat cs.length)), .val (.ref b2)]) B X2 dK rfl rfl rfl ?_
  refine g_aloadN (k := 0) (q := 15) B X2 dK rfl rfl rfl ?_
  refine g_iloadN (k := 1) (q := 16) B X2 dK rfl rfl ?_
  refine g_aload (k := 4) (q := 18) B X2 dK rfl rfl rfl ?_
  refine g_iconst (o := 0) (q := 19) (v := 0) B X2 dK rfl rfl ?_
  refine g_aloadN (k := 0) (q := 20) B X2 dK rfl rfl rfl ?_
  refine g_alen (q := 21) B X2 e2 G_tb dK rfl ?_
  refine g_iloadN (k := 1) (q := 22) B X2 dK rfl rfl ?_
  refine g_isub (q := 23) B X2 dK rfl rfl ?_
  rw [own_subz]
  refine g_iloadN (k := 3) (q := 24) B X2 dK rfl rfl ?_
  refine g_callS (i := 304) (W := 4) (q := 27) (argsL := [(.int cap), (.int (Int32.ofNat cs.length))]) (rest := [(.int (0 : Int32)), (.ref b2), (.int (0 : Int32)), (.ref tb)]) B X2 (y := yy12) (kw hw 328 rfl) (kw hw 329 rfl) (kw hw 330 rfl) (kw hw 331 rfl) dD e2 (rmMnY l Z a0 hw [] cap (Int32.ofNat cs.length) h2 n0 ZH hlc) dK rfl rfl (lenOf pd_16 rfl) (Nat.le_of_eq rfl) rfl dD dD dD dD rfl (fun _ L3 T3 X3 hQ3 => ?_)
  obtain ⟨rfl, Nq3, e3⟩ := hQ3
  have N3 := Fr.app N1 Nq3
  refine g_acopy (i := 150) (W := 0) (q := 30) B X3 (kw hw 332 rfl) (kw hw 289 rfl) (kw hw 287 rfl) (kw hw 288 rfl) e3 G_tb G_b2 hac.b8 (fun _ => rfl) dD dD (own_inn (by omega)) (by rw [own_icl (by omega)]; exact own_capge hlc (by omega)) (Nat.le_of_eq (Nat.zero_add _)) N3 g_b2 dK rfl dD dD dD rfl (fun T4 h4 L4 X4 e4 N4 K4 G_b2 => ?_)
  have E_b2 := E_b2.keep K4
  have KK := KK.trans K4 (allS (Or.inr sz_b2) all0)
  refine g_aload (k := 4) (q := 32) B X4 dK rfl rfl rfl ?_
  exact g_retA B X4 rfl rfl rfl dK dD dD e4 (by
    exact ⟨b2, rfl, N4, KK, sz_b2, G_b2.congr (fun i _ => by rw [own_icl (by omega)]; exact congrArg Value.int (own_cpHead2 cs cs.length i (Nat.le_refl _))), E_b2⟩)
theorem pd_21 : parseMethodDescriptor "([BII)[B" = some ⟨[(.array .byte), .int, .int], some (.array .byte)⟩ := by decide +kernel
def QrmCR (Z : State) (tb : Addr) (cap : Int32) (cs : List Int32) (h0 : Heap) (n0 : Nat) (v : Option Value) (h : Heap) (L : List Loc) : Prop := ∃ b : Addr, v = some (.ref b) ∧ Fr n0 L ∧ Keep h0 h [] ∧ h0.size ≤ b ∧ own_Arf Z h b .byte (Int32.ofNat cs.length) (fun i => .int (own_L cs i)) ∧ Exa Z h b "[B"
theorem rmCR (l : Launch) (Z : State) (a0 : Array Value) (hw : own_H a0 Z) (ws : List Jvm.Cond) (tb : Addr) (cap : Int32) (cs : List Int32) (h0 : Heap) (n0 : Nat) (ZH : n0 ≤ h0.size) (G_tb : own_Arf Z h0 tb .byte cap (fun i => .int (own_L cs i))) (hac : own_as cs) (hlc : (Int32.ofNat cs.length) < cap) (hcc : ¬ (100 : Int32) < cap) (hn : cs.length < 100) :
    own_Met l Z yy69 jdk_65_method_132_code 3 (some (.array .byte)) ws (own_R 2 1 100 34) #[(.ref tb), (.int (0 : Int32)), (.int (Int32.ofNat cs.length))] h0 (QrmCR Z tb cap cs h0 n0) 1 100 := by
  refine own_hd (fr := #[.val (.ref tb), .val (.int (0 : Int32)), .val (.int (Int32.ofNat cs.length))]) (plainFor_of_name pn_18) (fun {p e s m below meth c s₁} B X0 e0 => ?_)
  have N0 := Fr.nil n0
  have KK := Keep.refl h0 []
  refine g_iloadN (k := 1) (q := 1) B X0 dK rfl rfl ?_
  refine g_ifNo (cd := .ne) (o := 9) (q := 4) B X0 dK (((if0 _ _).trans (teq (by decide : (0 : Int32) = (0 : Int32))).2)) rfl ?_
  refine g_iloadN (k := 2) (q := 5) B X0 dK rfl rfl ?_
  refine g_aloadN (k := 0) (q := 6) B X0 dK rfl rfl rfl ?_
  refine g_alen (q := 7) B X0 e0 G_tb dK rfl ?_
  refine g_icmpNo (cd := .eq) (o := 10) (q := 10) B X0 dK ((feq (own_nelt hlc : ¬ ((Int32.ofNat cs.length) = cap))).1) rfl ?_
  refine g_aloadN (k := 0) (q := 11) B X0 dK rfl rfl rfl ?_
  refine g_iloadN (k := 1) (q := 12) B X0 dK rfl rfl ?_
  refine g_iloadN (k := 2) (q := 13) B X0 dK rfl rfl ?_
  have kk1 := KK.1
  refine g_callS (i := 339) (W := 0) (q := 16) (argsL := [(.ref tb), (.int (0 : Int32)), (.int (Int32.ofNat cs.length))]) (rest := []) B X0 (y := yy68) (kw hw 322 rfl) (kw hw 323 rfl) (kw hw 320 rfl) (kw hw 324 rfl) dD e0 (rmCB l Z a0 hw [] tb cap cs h0 n0 ZH G_tb hac hlc hcc hn) dK rfl rfl (lenOf pd_21 rfl) (Nat.le_of_eq rfl) rfl dD dD dD dD rfl (fun _ L1 T1 X1 hQ1 => ?_)
  obtain ⟨t1, rfl, Nq1, K1, szq1, Fq1⟩ := hQ1
  have N1 := Fr.app N0 Nq1
  have KK := KK.trans K1 all0
  have sz_t1 := Nat.le_trans kk1 szq1
  exact g_retA B X1 rfl rfl rfl dK dD dD rfl (by
    exact ⟨_, rfl, N1, KK, sz_t1, Fq1⟩)
theorem pd_22 : parseMethodDescriptor "()[B" = some ⟨[], some (.array .byte)⟩ := by decide +kernel
def QrmSV (Z : State) (cz : Int32) (fv : Value) (ev dg ca : Addr) (cg : Nat → Addr) (b tb : Addr) (cap : Int32) (cs : List Int32) (x : Addr) (h0 : Heap) (n0 : Nat) (v : Option Value) (h : Heap) (L : List Loc) : Prop := v = none ∧ Fr n0 L ∧ Keep h0 h [x] ∧ ∃ tx : Addr, h0.size ≤ tx ∧ own_Sk Z h x tx cs (0 : Int32)
theorem rmSV (l : Launch) (Z : State) (a0 : Array Value) (hw : own_H a0 Z) (ws : List Jvm.Cond) (cz : Int32) (fv : Value) (ev dg ca : Addr) (cg : Nat → Addr) (b tb : Addr) (cap : Int32) (cs : List Int32) (x : Addr) (h0 : Heap) (n0 : Nat) (ZH : n0 ≤ h0.size) (OO : Old Z n0 h0) (HW : own_W Z cz fv ev dg ca cg) (Y_b : own_SB Z h0 b tb cap cs) (E_x : Exa Z h0 x zz1) (F_value_x : Fld Z h0 x zz1 "value" "[B" .null) (F_coder_x : Fld Z h0 x zz1 "coder" "B" (.int (0 : Int32))) (F_hash_x : Fld Z h0 x zz1 "hash" "I" (.int (0 : Int32))) (F_hashIsZero_x : Fld Z h0 x zz1 "hashIsZero" "Z" (.int (0 : Int32))) (ne_x_b : x ≠ b) (ne_x_tb : x ≠ tb) (g_x : n0 ≤ x) (hac : own_as cs) (hlc : (Int32.ofNat cs.length) < cap) (hcc : ¬ (100 : Int32) < cap) (hn : cs.length < 100) :
    own_Met l Z yy70 jdk_42_method_150_code 5 none ws (own_R 3 1 100 49) #[(.ref x), (.ref b), .null] h0 (QrmSV Z cz fv ev dg ca cg b tb cap cs x h0 n0) 1 100 := by
  refine own_hd (fr := #[.val (.ref x), .val (.ref b), .val .null, .unset, .unset]) (plainFor_of_name pn_11) (fun {p e s m below meth c s₁} B X0 e0 => ?_)
  have N0 := Fr.nil n0
  have KK := Keep.refl h0 [x]
  refine g_aloadN (k := 0) (q := 1) B X0 dK rfl rfl rfl ?_
  refine g_initO (i := 1) (W := 0) (q := 4) B X0 (kw hw 303 rfl) (kw hw 16 rfl) (kw hw 17 rfl) e0 dK rfl dD dD dD rfl (fun T1 X1 e1 => ?_)
  refine g_aloadN (k := 1) (q := 5) B X1 dK rfl rfl rfl ?_
  refine g_callV (i := 552) (W := 0) (q := 8) (a := b) (argsL := []) (rest := []) B X1 (y := yy58) (kw hw 304 rfl) (kw hw 305 rfl) (kw hw 307 rfl) (kw hw 306 rfl) (kw hw 209 rfl) (kw hw 308 rfl) dD e1 Y_b.1 (rmGV l Z a0 hw [] b tb cap cs h0 n0 ZH Y_b) dK rfl rfl (lenOf pd_22 rfl) (Nat.le_of_eq rfl) rfl dD dD dD dD rfl (fun _ L2 T2 X2 hQ2 => ?_)
  obtain ⟨rfl, Nq2, e2⟩ := hQ2
  have N2 := Fr.app N0 Nq2
  refine g_astoreN (k := 3) (q := 9) (l' := #[.val (.ref x), .val (.ref b), .val .null, .val (.ref tb), .unset]) B X2 dK rfl rfl rfl ?_
  refine g_aloadN (k := 1) (q := 10) B X2 dK rfl rfl rfl ?_
  refine g_callVz (i := 549) (W := 0) (q := 13) (a := b) (argsL := []) (rest := []) B X2 (y := yy18) (z := yy59) (kw hw 309 rfl) (kw hw 310 rfl) (own_NI.sel (y := yy1) (kw hw 241 rfl) (kw hw 239 rfl)) (kw hw 312 rfl) (kw hw 313 rfl) (kw hw 201 rfl) (kw hw 314 rfl) dD e2 Y_b.1 (rmBn l Z a0 hw [] b tb cap cs h0 n0 ZH Y_b) dK rfl rfl (lenOf pd_3 rfl) (Nat.le_of_eq rfl) rfl dD dD dD dD rfl (fun _ L3 T3 X3 hQ3 => ?_)
  obtain ⟨rfl, Nq3, e3⟩ := hQ3
  have N3 := Fr.app N2 Nq3
  refine g_istore (k := 4) (q := 15) (l' := #[.val (.ref x), .val (.ref b), .val .null, .val (.ref tb), .val (.int (Int32.ofNat cs.length))]) B X3 dK rfl rfl ?_
  refine g_aloadN (k := 1) (q := 16) B X3 dK rfl rfl rfl ?_
  refine g_callV (i := 1047) (W := 0) (q := 19) (a := b) (argsL := []) (rest := []) B X3 (y := yy1) (kw hw 317 rfl) (kw hw 239 rfl) (kw hw 241 rfl) (kw hw 240 rfl) (kw hw 209 rfl) (kw hw 242 rfl) dD e3 Y_b.1 (rmBL l Z a0 hw [] cz fv ev dg ca cg b tb cap cs h0 n0 ZH OO HW Y_b) dK rfl rfl (lenOf pd_7 rfl) (Nat.le_of_eq rfl) rfl dD dD dD dD rfl (fun _ L4 T4 X4 hQ4 => ?_)
  obtain ⟨rfl, Nq4, e4⟩ := hQ4
  have N4 := Fr.app N3 Nq4
  refine g_ifNo (cd := .eq) (o := 22) (q := 22) B X4 dK (((if0 _ _).trans (feq (by decide : ¬ ((1 : Int32) = (0 : Int32)))).1)) rfl ?_
  refine g_aloadN (k := 0) (q := 23) B X4 dK rfl rfl rfl ?_
  refine g_iconst (o := 0) (q := 24) (v := 0) B X4 dK rfl rfl ?_
  refine g_putF (i := 15) (q := 27) B X4 (host := "") (Or.inl (kw hw 269 rfl)) Via.refl e4 F_coder_x E_x (Or.inr ⟨(kw hw 8 rfl), rfl, B.hnm⟩) (kw hw 5 rfl) (ty := .byte) dD rfl rfl dK rfl (fun T5 h5 X5 e5 W5 => ?_)
  have N5 := Fr.snoc X5 N4 g_x
  have F_coder_x := F_coder_x.same W5
  have Y_b := Y_b.other W5 (Ne.symm ne_x_b) (Ne.symm ne_x_tb)
  have E_x := E_x.wr W5
  have F_value_x := F_value_x.other W5 (Or.inr (slot_ne (Or.inr (kw hw 7 rfl)) (Or.inr (kw hw 8 rfl)) dD (t := (.array .byte)) (t' := .byte) dD dD))
  have F_hash_x := F_hash_x.other W5 (Or.inr (slot_ne (Or.inl (kw hw 419 rfl)) (Or.inr (kw hw 8 rfl)) dD (t := .int) (t' := .byte) dD dD))
  have F_hashIsZero_x := F_hashIsZero_x.other W5 (Or.inr (slot_ne (Or.inl (kw hw 421 rfl)) (Or.inr (kw hw 8 rfl)) dD (t := .boolean) (t' := .byte) dD dD))
  have ZH := Nat.le_trans ZH (Nat.le_of_eq W5.size.symm)
  have KK := KK.wr W5 (mi 0 rfl)
  refine g_aloadN (k := 0) (q := 28) B X5 dK rfl rfl rfl ?_
  refine g_aloadN (k := 3) (q := 29) B X5 dK rfl rfl rfl ?_
  refine g_iconst (o := 0) (q := 30) (v := 0) B X5 dK rfl rfl ?_
  refine g_iload (k := 4) (q := 32) B X5 dK rfl rfl ?_
  have kk6 := KK.1
  have lt6_x := E_x.lt
  refine g_callS (i := 54) (W := 1) (q := 35) (argsL := [(.ref tb), (.int (0 : Int32)), (.int (Int32.ofNat cs.length))]) (rest := [(.ref x)]) B X5 (y := yy69) (kw hw 318 rfl) (kw hw 319 rfl) (kw hw 320 rfl) (kw hw 321 rfl) dD e5 (rmCR l Z a0 hw [] tb cap cs h5 n0 ZH Y_b.2.2.2.2.1 hac hlc hcc hn) dK rfl rfl (lenOf pd_21 rfl) (Nat.le_of_eq rfl) rfl dD dD dD dD rfl (fun _ L6 T6 X6 hQ6 => ?_)
  obtain ⟨t6, rfl, Nq6, K6, szq6, Fq6⟩ := hQ6
  have N6 := Fr.app N5 Nq6
  have E_x := E_x.keep K6
  have F_value_x := F_value_x.keep K6 nin0
  have F_coder_x := F_coder_x.keep K6 nin0
  have F_hash_x := F_hash_x.keep K6 nin0
  have F_hashIsZero_x := F_hashIsZero_x.keep K6 nin0
  have KK := KK.trans K6 all0
  have ne_x_t6 := nz lt6_x szq6
  have sz_t6 := Nat.le_trans kk6 szq6
  have G_t6 := Fq6.1
  have E_t6 := Fq6.2
  refine g_putF (i := 9) (q := 38) B X6 (host := "") (Or.inl (kw hw 262 rfl)) Via.refl rfl F_value_x E_x (Or.inr ⟨(kw hw 7 rfl), rfl, B.hnm⟩) (kw hw 5 rfl) (ty := (.array .byte)) dD rfl rfl dK rfl (fun T7 h7 X7 e7 W7 => ?_)
  have N7 := Fr.snoc X7 N6 g_x
  have F_value_x := F_value_x.same W7
  have E_x := E_x.wr W7
  have F_coder_x := F_coder_x.other W7 (Or.inr (slot_ne (Or.inr (kw hw 8 rfl)) (Or.inr (kw hw 7 rfl)) dD (t := .byte) (t' := (.array .byte)) dD dD))
  have F_hash_x := F_hash_x.other W7 (Or.inr (slot_ne (Or.inl (kw hw 419 rfl)) (Or.inr (kw hw 7 rfl)) dD (t := .int) (t' := (.array .byte)) dD dD))
  have F_hashIsZero_x := F_hashIsZero_x.other W7 (Or.inr (slot_ne (Or.inl (kw hw 421 rfl)) (Or.inr (kw hw 7 rfl)) dD (t := .boolean) (t' := (.array .byte)) dD dD))
  have E_t6 := E_t6.wr W7
  have G_t6 := G_t6.other W7 (Ne.symm ne_x_t6)
  have KK := KK.wr W7 (mi 0 rfl)
  refine g_goto (o := 59) (q := 97) B X7 dK dD dD ?_
  exact g_ret B X7 dK dD dD e7 (by
    exact ⟨rfl, N7, KK, t6, sz_t6, ⟨E_x, F_value_x, F_coder_x, G_t6⟩, F_hash_x, F_hashIsZero_x, ne_x_t6, E_t6⟩)
theorem pd_23 : parseMethodDescriptor "(Ljava/lang/AbstractStringBuilder;Ljava/lang/Void;)V" = some ⟨[(.object "java/lang/AbstractStringBuilder"), (.object "java/lang/Void")], none⟩ := by decide +kernel
def QrmSW (Z : State) (cz : Int32) (fv : Value) (ev dg ca : Addr) (cg : Nat → Addr) (b tb : Addr) (cap : Int32) (cs : List Int32) (x : Addr) (h0 : Heap) (n0 : Nat) (v : Option Value) (h : Heap) (L : List Loc) : Prop := v = none ∧ Fr n0 L ∧ Keep h0 h [x] ∧ ∃ tx : Addr, h0.size ≤ tx ∧ own_Sk Z h x tx cs (0 : Int32)
theorem rmSW (l : Launch) (Z : State) (a0 : Array Value) (hw : own_H a0 Z) (ws : List Jvm.Cond) (cz : Int32) (fv : Value) (ev dg ca : Addr) (cg : Nat → Addr) (b tb : Addr) (cap : Int32) (cs : List Int32) (x : Addr) (h0 : Heap) (n0 : Nat) (ZH : n0 ≤ h0.size) (OO : Old Z n0 h0) (HW : own_W Z cz fv ev dg ca cg) (Y_b : own_SB Z h0 b tb cap cs) (E_x : Exa Z h0 x zz1) (F_value_x : Fld Z h0 x zz1 "value" "[B" .null) (F_coder_x : Fld Z h0 x zz1 "coder" "B" (.int (0 : Int32))) (F_hash_x : Fld Z h0 x zz1 "hash" "I" (.int (0 : Int32))) (F_hashIsZero_x : Fld Z h0 x zz1 "hashIsZero" "Z" (.int (0 : Int32))) (ne_x_b : x ≠ b) (ne_x_tb : x ≠ tb) (g_x : n0 ≤ x) (hac : own_as cs) (hlc : (Int32.ofNat cs.length) < cap) (hcc : ¬ (100 : Int32) < cap) (hn : cs.length < 100) :
    own_Met l Z yy71 jdk_42_method_53_code 2 none ws (own_R 4 1 100 65) #[(.ref x), (.ref b)] h0 (QrmSW Z cz fv ev dg ca cg b tb cap cs x h0 n0) 1 100 := by
  refine own_hd (fr := #[.val (.ref x), .val (.ref b)]) (plainFor_of_name pn_11) (fun {p e s m below meth c s₁} B X0 e0 => ?_)
  have N0 := Fr.nil n0
  have KK := Keep.refl h0 [x]
  refine g_aloadN (k := 0) (q := 1) B X0 dK rfl rfl rfl ?_
  refine g_aloadN (k := 1) (q := 2) B X0 dK rfl rfl rfl ?_
  refine g_aconstNull (q := 3) B X0 dK rfl ?_
  have kk1 := KK.1
  refine g_callI (i := 489) (W := 0) (q := 6) (a := x) (argsL := [(.ref b), .null]) (rest := []) B X0 (y := yy70) rfl (kw hw 300 rfl) (kw hw 301 rfl) (kw hw 4 rfl) (kw hw 302 rfl) dD e0 (rmSV l Z a0 hw [] cz fv ev dg ca cg b tb cap cs x h0 n0 ZH OO HW Y_b E_x F_value_x F_coder_x F_hash_x F_hashIsZero_x ne_x_b ne_x_tb g_x hac hlc hcc hn) dK rfl rfl (lenOf pd_23 rfl) (Nat.le_of_eq rfl) rfl dD dD dD dD rfl (fun _ L1 T1 X1 hQ1 => ?_)
  obtain ⟨rfl, Nq1, K1, tx1, szq1, Yq1⟩ := hQ1
  have N1 := Fr.app N0 Nq1
  have KK := KK.trans K1 (allS (mi 0 rfl) all0)
  have Y_x := Yq1
  have sz_tx1 := Nat.le_trans kk1 szq1
  exact g_ret B X1 dK dD dD rfl (by
    exact ⟨rfl, N1, KK, tx1, sz_tx1, Y_x⟩)
theorem pd_24 : parseMethodDescriptor "(Ljava/lang/StringBuilder;)V" = some ⟨[(.object "java/lang/StringBuilder")], none⟩ := by decide +kernel
def QrmTS (Z : State) (cz : Int32) (fv : Value) (ev dg ca : Addr) (cg : Nat → Addr) (b tb : Addr) (cap : Int32) (cs : List Int32) (h0 : Heap) (n0 : Nat) (v : Option Value) (h : Heap) (L : List Loc) : Prop := ∃ x tx : Addr, v = some (.ref x) ∧ Fr n0 L ∧ Keep h0 h [] ∧ h0.size ≤ x ∧ h0.size ≤ tx ∧ own_Sk Z h x tx cs (0 : Int32)
theorem rmTS (l : Launch) (Z : State) (a0 : Array Value) (hw : own_H a0 Z) (ws : List Jvm.Cond) (cz : Int32) (fv : Value) (ev dg ca : Addr) (cg : Nat → Addr) (b tb : Addr) (cap : Int32) (cs : List Int32) (h0 : Heap) (n0 : Nat) (ZH : n0 ≤ h0.size) (OO : Old Z n0 h0) (HW : own_W Z cz fv ev dg ca cg) (Y_b : own_SB Z h0 b tb cap cs) (hac : own_as cs) (hlc : (Int32.ofNat cs.length) < cap) (hcc : ¬ (100 : Int32) < cap) (hn : cs.length < 100) :
    own_Met l Z yy22 jdk_67_method_42_code 1 (some (.object zz1)) ws (own_R 5 2 104 79) #[(.ref b)] h0 (QrmTS Z cz fv ev dg ca cg b tb cap cs h0 n0) 2 104 := by
  refine own_hd (fr := #[.val (.ref b)]) (plainFor_of_name pn_15) (fun {p e s m below meth c s₁} B X0 e0 => ?_)
  have N0 := Fr.nil n0
  have KK := Keep.refl h0 []
  have I_tb := Y_b.in_tb
  refine g_new (i := 18) (q := 3) B X0 (kw hw 295 rfl) (kw hw 5 rfl) (kw hw 4 rfl) e0 dK dD dD rfl (fun b1 T1 h1 gz1 X1 e1 E1 A1 D1 => ?_)
  have ne_b_b1 := nl Y_b.lt gz1
  have ne_tb_b1 := nl I_tb.lt gz1
  have g_b1 := gl ZH gz1
  have sz_b1 := gl KK.1 gz1
  have Y_b := Y_b.ext E1
  have ZH := Nat.le_trans ZH E1.1
  have KK := KK.ext E1
  have OO := OO.ext E1
  have E_b1 := A1
  have F_value_b1 : Fld Z h1 b1 zz1 "value" "[B" .null := D1 (Or.inr (kw hw 7 rfl)) (ty := (.array .byte)) dD
  have F_coder_b1 : Fld Z h1 b1 zz1 "coder" "B" (.int (0 : Int32)) := D1 (Or.inr (kw hw 8 rfl)) (ty := .byte) dD
  have F_hash_b1 : Fld Z h1 b1 zz1 "hash" "I" (.int (0 : Int32)) := D1 (Or.inl (kw hw 419 rfl)) (ty := .int) dD
  have F_hashIsZero_b1 : Fld Z h1 b1 zz1 "hashIsZero" "Z" (.int (0 : Int32)) := D1 (Or.inl (kw hw 421 rfl)) (ty := .boolean) dD
  refine g_dup (q := 4) B X1 dK rfl rfl ?_
  refine g_aloadN (k := 0) (q := 5) B X1 dK rfl rfl rfl ?_
  have kk2 := KK.1
  refine g_callI (i := 137) (W := 1) (q := 8) (a := b1) (argsL := [(.ref b)]) (rest := [(.ref b1)]) B X1 (y := yy71) rfl (kw hw 296 rfl) (kw hw 297 rfl) (kw hw 4 rfl) (kw hw 299 rfl) dD e1 (rmSW l Z a0 hw [] cz fv ev dg ca cg b tb cap cs b1 h1 n0 ZH OO HW Y_b E_b1 F_value_b1 F_coder_b1 F_hash_b1 F_hashIsZero_b1 (Ne.symm ne_b_b1) (Ne.symm ne_tb_b1) g_b1 hac hlc hcc hn) dK rfl rfl (lenOf pd_24 rfl) (Nat.le_of_eq rfl) rfl dD dD dD dD rfl (fun _ L2 T2 X2 hQ2 => ?_)
  obtain ⟨rfl, Nq2, K2, tx2, szq2, Yq2⟩ := hQ2
  have N2 := Fr.app N0 Nq2
  have KK := KK.trans K2 (allS (Or.inr sz_b1) all0)
  have Y_b1 := Yq2
  have sz_tx2 := Nat.le_trans kk2 szq2
  exact g_retA B X2 rfl rfl rfl dK dD dD rfl (by
    exact ⟨b1, tx2, rfl, N2, KK, sz_b1, sz_tx2, Y_b1⟩)
theorem pd_25 : parseMethodDescriptor "(C)Ljava/lang/StringBuilder;" = some ⟨[.char], some (.object "java/lang/StringBuilder")⟩ := by decide +kernel
theorem pd_26 : parseMethodDescriptor "(I)Ljava/lang/StringBuilder;" = some ⟨[.int], some (.object "java/lang/StringBuilder")⟩ := by decide +kernel
theorem pd_27 : parseMethodDescriptor "()Ljava/lang/String;" = some ⟨[], some (.object "java/lang/String")⟩ := by decide +kernel
def QrmAT (Z : State) (cz : Int32) (fv : Value) (ev dg ca : Addr) (cg : Nat → Addr) (ia : Addr) (d : Nat) (h0 : Heap) (n0 : Nat) (v : Option Value) (h : Heap) (L : List Loc) : Prop := ∃ x tx : Addr, v = some (.ref x) ∧ Fr n0 L ∧ Keep h0 h [] ∧ h0.size ≤ x ∧ h0.size ≤ tx ∧ own_Sk Z h x tx [Int32.ofNat 91, Int32.ofNat (48 + d), Int32.ofNat 93] (0 : Int32)
theorem rmAT (l : Launch) (Z : State) (a0 : Array Value) (hw : own_H a0 Z) (ws : List Jvm.Cond) (cz : Int32) (fv : Value) (ev dg ca : Addr) (cg : Nat → Addr) (ia : Addr) (d : Nat) (h0 : Heap) (n0 : Nat) (ZH : n0 ≤ h0.size) (OO : Old Z n0 h0) (HW : own_W Z cz fv ev dg ca cg) (G_ia : own_Arf Z h0 ia .int (1 : Int32) (fun i => .int ((fun _ => (Int32.ofNat d) : Nat → Int32) i))) (hd : d < 10) :
    own_Met l Z yy72 jdk_65_method_163_code 4 (some (.object zz1)) ws (own_R 6 4 124 91) #[(.ref ia)] h0 (QrmAT Z cz fv ev dg ca cg ia d h0 n0) 4 124 := by
  refine own_hd (fr := #[.val (.ref ia), .unset, .unset, .unset]) (plainFor_of_name pn_18) (fun {p e s m below meth c s₁} B X0 e0 => ?_)
  have N0 := Fr.nil n0
  have KK := Keep.refl h0 []
  refine g_aloadN (k := 0) (q := 1) B X0 dK rfl rfl rfl ?_
  refine g_ifnonnullYes (o := 7) (q := 8) B X0 dK dD dD ?_
  refine g_aloadN (k := 0) (q := 9) B X0 dK rfl rfl rfl ?_
  refine g_alen (q := 10) B X0 e0 G_ia dK rfl ?_
  refine g_iconst (o := 1) (q := 11) (v := 1) B X0 dK rfl rfl ?_
  refine g_isub (q := 12) (v := (0 : Int32)) B X0 dK rfl rfl ?_
  refine g_istoreN (k := 1) (q := 13) (l' := #[.val (.ref ia), .val (.int (0 : Int32)), .unset, .unset]) B X0 dK rfl rfl ?_
  refine g_iloadN (k := 1) (q := 14) B X0 dK rfl rfl ?_
  refine g_iconst (o := -1) (q := 15) (v := -1) B X0 dK rfl rfl ?_
  refine g_icmpYes (cd := .ne) (o := 7) (q := 22) B X0 dK ((feq (by decide : ¬ ((0 : Int32) = (-1 : Int32)))).2) dD dD ?_
  refine g_new (i := 45) (q := 25) B X0 (kw hw 521 rfl) (kw hw 200 rfl) (kw hw 201 rfl) e0 dK dD dD rfl (fun b1 T1 h1 gz1 X1 e1 E1 A1 D1 => ?_)
  have ne_ia_b1 := nl G_ia.lt gz1
  have g_b1 := gl ZH gz1
  have sz_b1 := gl KK.1 gz1
  have G_ia := G_ia.ext E1
  have ZH := Nat.le_trans ZH E1.1
  have KK := KK.ext E1
  have OO := OO.ext E1
  have E_b1 := A1
  have F_value_b1 : Fld Z h1 b1 zz2 "value" "[B" .null := D1 (Or.inl (kw hw 214 rfl)) (ty := (.array .byte)) dD
  have F_coder_b1 : Fld Z h1 b1 zz2 "coder" "B" (.int (0 : Int32)) := D1 (Or.inl (kw hw 216 rfl)) (ty := .byte) dD
  have F_count_b1 : Fld Z h1 b1 zz2 "count" "I" (.int (0 : Int32)) := D1 (Or.inl (kw hw 228 rfl)) (ty := .int) dD
  refine g_dup (q := 26) B X1 dK rfl rfl ?_
  have zh2 := ZH
  have kk2 := KK.1
  have lt2_ia := G_ia.lt
  refine g_callI (i := 47) (W := 1) (q := 29) (a := b1) (argsL := []) (rest := [(.ref b1)]) B X1 (y := yy17) rfl (kw hw 522 rfl) (kw hw 203 rfl) (kw hw 201 rfl) (kw hw 204 rfl) dD e1 (rmSi l Z a0 hw [] cz fv ev dg ca cg b1 h1 n0 ZH OO HW E_b1 F_value_b1 F_coder_b1 F_count_b1 g_b1) dK rfl rfl (lenOf pd_1 rfl) (Nat.le_of_eq rfl) rfl dD dD dD dD rfl (fun _ L2 T2 X2 hQ2 => ?_)
  obtain ⟨rfl, Nq2, K2, tb1, szq2, Yq2⟩ := hQ2
  have N2 := Fr.app N0 Nq2
  have G_ia := G_ia.keep K2 (ninS ne_ia_b1 nin0)
  have ZH := Nat.le_trans ZH K2.1
  have KK := KK.trans K2 (allS (Or.inr sz_b1) all0)
  have OO := OO.keep K2 (allS g_b1 all0)
  have Y_b1 := Yq2
  have ne_ia_tb1 := nz lt2_ia szq2
  have g_tb1 := Nat.le_trans zh2 szq2
  have sz_tb1 := Nat.le_trans kk2 szq2
  refine g_astoreN (k := 2) (q := 30) (l' := #[.val (.ref ia), .val (.int (0 : Int32)), .val (.ref b1), .unset]) B X2 dK rfl rfl rfl ?_
  refine g_aloadN (k := 2) (q := 31) B X2 dK rfl rfl rfl ?_
  refine g_bipush (o := 91) (q := 33) (v := 91) B X2 dK rfl rfl ?_
  show own_Go p.tables e below _ (State.setTop _ (mkF m _ _ (.int (Int32.ofNat 91) :: _)))
  refine g_callV (i := 484) (W := 0) (q := 36) (a := b1) (argsL := [(.int (Int32.ofNat 91))]) (rest := []) B X2 (y := yy32) (kw hw 524 rfl) (kw hw 525 rfl) (kw hw 527 rfl) (kw hw 526 rfl) (kw hw 201 rfl) (kw hw 528 rfl) dD rfl Y_b1.1 (rmBC l Z a0 hw [] cz fv ev dg ca cg b1 tb1 [] 91 T2.heap n0 ZH OO HW Y_b1 g_b1 g_tb1 dD (by simp)) dK rfl rfl (lenOf pd_25 rfl) (Nat.le_of_eq rfl) rfl dD dD dD dD rfl (fun _ L3 T3 X3 hQ3 => ?_)
  obtain ⟨rfl, Nq3, K3, Yq3_0⟩ := hQ3
  have N3 := Fr.app N2 Nq3
  have G_ia := G_ia.keep K3 (ninS ne_ia_b1 (ninS ne_ia_tb1 nin0))
  have ZH := Nat.le_trans ZH K3.1
  have KK := KK.trans K3 (allS (Or.inr sz_b1) (allS (Or.inr sz_tb1) all0))
  have OO := OO.keep K3 (allS g_b1 (allS g_tb1 all0))
  have Y_b1 := Yq3_0
  refine g_pop (q := 37) B X3 dK rfl rfl ?_
  refine g_iconst (o := 0) (q := 38) (v := 0) B X3 dK rfl rfl ?_
  refine g_istoreN (k := 3) (q := 39) (l' := #[.val (.ref ia), .val (.int (0 : Int32)), .val (.ref b1), .val (.int (0 : Int32))]) B X3 dK rfl rfl ?_
  refine g_aloadN (k := 2) (q := 40) B X3 dK rfl rfl rfl ?_
  refine g_aloadN (k := 0) (q := 41) B X3 dK rfl rfl rfl ?_
  refine g_iloadN (k := 3) (q := 42) B X3 dK rfl rfl ?_
  refine g_iaload (q := 43) (u := (.int (Int32.ofNat d))) B X3 rfl G_ia dD dD rfl dK rfl ?_
  refine g_callV (i := 54) (W := 0) (q := 46) (a := b1) (argsL := [(.int (Int32.ofNat d))]) (rest := []) B X3 (y := yy19) (kw hw 536 rfl) (kw hw 218 rfl) (kw hw 220 rfl) (kw hw 219 rfl) (kw hw 201 rfl) (kw hw 221 rfl) dD rfl Y_b1.1 (rmBI l Z a0 hw [] cz fv ev dg ca cg b1 tb1 ([] ++ [Int32.ofNat 91]) d T3.heap n0 ZH OO HW Y_b1 g_b1 g_tb1 hd (by simp)) dK rfl rfl (lenOf pd_26 rfl) (Nat.le_of_eq rfl) rfl dD dD dD dD rfl (fun _ L4 T4 X4 hQ4 => ?_)
  obtain ⟨rfl, Nq4, K4, Yq4_0⟩ := hQ4
  have N4 := Fr.app N3 Nq4
  have ZH := Nat.le_trans ZH K4.1
  have KK := KK.trans K4 (allS (Or.inr sz_b1) (allS (Or.inr sz_tb1) all0))
  have OO := OO.keep K4 (allS g_b1 (allS g_tb1 all0))
  have Y_b1 := Yq4_0
  refine g_pop (q := 47) B X4 dK rfl rfl ?_
  refine g_iloadN (k := 3) (q := 48) B X4 dK rfl rfl ?_
  refine g_iloadN (k := 1) (q := 49) B X4 dK rfl rfl ?_
  refine g_icmpNo (cd := .ne) (o := 13) (q := 52) B X4 dK ((teq (by decide : (0 : Int32) = (0 : Int32))).2) rfl ?_
  refine g_aloadN (k := 2) (q := 53) B X4 dK rfl rfl rfl ?_
  refine g_bipush (o := 93) (q := 55) (v := 93) B X4 dK rfl rfl ?_
  show own_Go p.tables e below _ (State.setTop _ (mkF m _ _ (.int (Int32.ofNat 93) :: _)))
  refine g_callV (i := 484) (W := 0) (q := 58) (a := b1) (argsL := [(.int (Int32.ofNat 93))]) (rest := []) B X4 (y := yy32) (kw hw 524 rfl) (kw hw 525 rfl) (kw hw 527 rfl) (kw hw 526 rfl) (kw hw 201 rfl) (kw hw 528 rfl) dD rfl Y_b1.1 (rmBC l Z a0 hw [] cz fv ev dg ca cg b1 tb1 (([] ++ [Int32.ofNat 91]) ++ [Int32.ofNat (48 + d)]) 93 T4.heap n0 ZH OO HW Y_b1 g_b1 g_tb1 dD (by simp)) dK rfl rfl (lenOf pd_25 rfl) (Nat.le_of_eq rfl) rfl dD dD dD dD rfl (fun _ L5 T5 X5 hQ5 => ?_)
  obtain ⟨rfl, Nq5, K5, Yq5_0⟩ := hQ5
  have N5 := Fr.app N4 Nq5
  have ZH := Nat.le_trans ZH K5.1
  have KK := KK.trans K5 (allS (Or.inr sz_b1) (allS (Or.inr sz_tb1) all0))
  have OO := OO.keep K5 (allS g_b1 (allS g_tb1 all0))
  have Y_b1 := Yq5_0
  have kk6 := KK.1
  refine g_callV (i := 61) (W := 0) (q := 61) (a := b1) (argsL := []) (rest := []) B X5 (y := yy22) (kw hw 537 rfl) (kw hw 291 rfl) (kw hw 293 rfl) (kw hw 292 rfl) (kw hw 201 rfl) (kw hw 294 rfl) dD rfl Y_b1.1 (rmTS l Z a0 hw [] cz fv ev dg ca cg b1 tb1 (16 : Int32) ((([] ++ [Int32.ofNat 91]) ++ [Int32.ofNat (48 + d)]) ++ [Int32.ofNat 93]) T5.heap n0 ZH OO HW Y_b1 (own_asd hd) (own_l16 (by simp)) dD (by simp)) dK rfl rfl (lenOf pd_27 rfl) (Nat.le_of_eq rfl) rfl dD dD dD dD rfl (fun _ L6 T6 X6 hQ6 => ?_)
  obtain ⟨x6, tx6, rfl, Nq6, K6, szx6, szt6, Yq6⟩ := hQ6
  have N6 := Fr.app N5 Nq6
  have KK := KK.trans K6 all0
  have sz_x6 := Nat.le_trans kk6 szx6
  have sz_tx6 := Nat.le_trans kk6 szt6
  have Y_x6 := Yq6
  exact g_retA B X6 rfl rfl rfl dK dD dD rfl (by
    exact ⟨x6, tx6, rfl, N6, KK, sz_x6, sz_tx6, Y_x6⟩)
theorem tnH {p : Program} {l : Launch} {e : Env} {s : State} {m : MethodId} {args : Array Value} {below : List Frame} {meth : Method} {c : Code} {Z : State} {a0 : Array Value} {n0 : Nat} {nm0 : String} {P : State → Outcome → Prop} {T0 : State} {locs : List Loc} {h0 : Heap} {tx : Addr} {cs : List Int32} {acc : Int32} {vi : Int32} {i : Nat} (B : own_C p s m c Z zz16 jdk_48_method_5_code 6 meth (some .int) nm0) (X0 : Stand p l e (own_R 0 0 0 0) s m args below meth c T0 locs 0 0) (hw : own_H a0 Z) (e0 : T0.heap = h0) (N0 : Fr n0 locs) (Z0 : n0 ≤ h0.size) (G_tx : own_Arf Z h0 tx .byte (Int32.ofNat cs.length) (fun i => .int (own_L cs i))) (ha : own_as cs) (Q : ¬ vi < 0 ∧ vi < (Int32.ofNat cs.length) ∧ vi.toNatClampNeg = i)
    (K : ∀ (T' : State) (h' : Heap) (locs' : List Loc), Stand p l e (own_R 0 0 0 0) s m args below meth c T' locs' 0 0 → T'.heap = h' → Fr n0 locs' → h' = h0 → own_Go p.tables e below P (T'.setTop (mkF m 8 #[.val (.int (((31 : Int32) * acc) + (own_L cs i))), .val (.ref tx), .val (.int (0 : Int32)), .val (.int (Int32.ofNat cs.length)), .val (.int (Int32.ofNat cs.length)), .val (.int (vi + (1 : Int32)))] []))) : own_Go p.tables e below P (T0.setTop (mkF m 8 #[.val (.int acc), .val (.ref tx), .val (.int (0 : Int32)), .val (.int (Int32.ofNat cs.length)), .val (.int (Int32.ofNat cs.length)), .val (.int vi)] [])) := by
  refine g_iload (k := 5) (q := 10) B X0 dK rfl rfl ?_
  refine g_iload (k := 4) (q := 12) B X0 dK rfl rfl ?_
  refine g_icmpNo (cd := .ge) (o := 23) (q := 15) B X0 dK ((tlt (Q.2.1 : vi < (Int32.ofNat cs.length))).2.1) rfl ?_
  refine g_bipush (o := 31) (q := 17) (v := 31) B X0 dK rfl rfl ?_
  refine g_iloadN (k := 0) (q := 18) B X0 dK rfl rfl ?_
  refine g_imul (q := 19) B X0 dK rfl rfl ?_
  refine g_aloadN (k := 1) (q := 20) B X0 dK rfl rfl rfl ?_
  refine g_iload (k := 5) (q := 22) B X0 dK rfl rfl ?_
  refine g_baload (q := 23) (u := (.int (own_L cs i))) B X0 e0 G_tx Q.1 Q.2.1 (by rw [Q.2.2]) dK rfl ?_
  refine g_sipush (o := 255) (q := 26) (v := 255) B X0 dK rfl rfl ?_
  refine g_iand (q := 27) B X0 dK rfl rfl ?_
  rw [ha.ff]
  refine g_iadd (q := 28) B X0 dK rfl rfl ?_
  refine g_istoreN (k := 0) (q := 29) (l' := #[.val (.int (((31 : Int32) * acc) + (own_L cs i))), .val (.ref tx), .val (.int (0 : Int32)), .val (.int (Int32.ofNat cs.length)), .val (.int (Int32.ofNat cs.length)), .val (.int vi)]) B X0 dK rfl rfl ?_
  refine g_iinc (k := 5) (o := 1) (q := 32) (v := (vi + (1 : Int32))) (l' := #[.val (.int (((31 : Int32) * acc) + (own_L cs i))), .val (.ref tx), .val (.int (0 : Int32)), .val (.int (Int32.ofNat cs.length)), .val (.int (Int32.ofNat cs.length)), .val (.int (vi + (1 : Int32)))]) B X0 dK rfl rfl rfl rfl ?_
  refine g_goto (o := -24) (q := 8) B X0 dK dD dD ?_
  exact K _ _ _ X0 e0 N0 rfl
theorem exH {p : Program} {l : Launch} {e : Env} {s : State} {m : MethodId} {args : Array Value} {below : List Frame} {meth : Method} {c : Code} {Z : State} {a0 : Array Value} {n0 : Nat} {nm0 : String} {P : State → Outcome → Prop} {T0 : State} {locs : List Loc} {h0 : Heap} {tx : Addr} {cs : List Int32} {acc : Int32} {vi : Int32} {i : Nat} (B : own_C p s m c Z zz16 jdk_48_method_5_code 6 meth (some .int) nm0) (X0 : Stand p l e (own_R 0 0 0 0) s m args below meth c T0 locs 0 0) (hw : own_H a0 Z) (e0 : T0.heap = h0) (N0 : Fr n0 locs) (Z0 : n0 ≤ h0.size) (G_tx : own_Arf Z h0 tx .byte (Int32.ofNat cs.length) (fun i => .int (own_L cs i))) (ha : own_as cs) (hv : ¬ vi < (Int32.ofNat cs.length))
    (K : ∀ (T' : State) (h' : Heap) (locs' : List Loc), Stand p l e (own_R 0 0 0 0) s m args below meth c T' locs' 0 0 → T'.heap = h' → Fr n0 locs' → h' = h0 → own_Go p.tables e below P (T'.setTop (mkF m 35 #[.val (.int acc), .val (.ref tx), .val (.int (0 : Int32)), .val (.int (Int32.ofNat cs.length)), .val (.int (Int32.ofNat cs.length)), .val (.int vi)] []))) : own_Go p.tables e below P (T0.setTop (mkF m 8 #[.val (.int acc), .val (.ref tx), .val (.int (0 : Int32)), .val (.int (Int32.ofNat cs.length)), .val (.int (Int32.ofNat cs.length)), .val (.int vi)] [])) := by
  refine g_iload (k := 5) (q := 10) B X0 dK rfl rfl ?_
  refine g_iload (k := 4) (q := 12) B X0 dK rfl rfl ?_
  refine g_icmpYes (cd := .ge) (o := 23) (q := 35) B X0 dK ((flt (hv : ¬ (vi < (Int32.ofNat cs.length)))).2.1) dD dD ?_
  exact K _ _ _ X0 e0 N0 rfl
theorem own_hsd {p : Program} {l : Launch} {e : Env} {s : State} {m : MethodId} {args : Array Value} {below : List Frame} {meth : Method} {c : Code} {Z : State} {a0 : Array Value} {n0 : Nat} {nm0 : String} {P : State → Outcome → Prop} {tx : Addr} {cs : List Int32} (B : own_C p s m c Z zz16 jdk_48_method_5_code 6 meth (some .int) nm0) (hw : own_H a0 Z) (ha : own_as cs) (hn : cs.length < 100) :
    ∀ (k i : Nat) (acc vi : Int32) (T0 : State) (h0 : Heap) (locs : List Loc), i + k = cs.length → vi.toInt = (i : Int) → acc = own_hs 0 (cs.take i) → Stand p l e (own_R 0 0 0 0) s m args below meth c T0 locs 0 0 → T0.heap = h0 → Fr n0 locs → n0 ≤ h0.size → own_Arf Z h0 tx .byte (Int32.ofNat cs.length) (fun i => .int (own_L cs i)) →
      (∀ (T' : State) (h' : Heap) (locs' : List Loc) (vj : Int32), Stand p l e (own_R 0 0 0 0) s m args below meth c T' locs' 0 0 → T'.heap = h' → Fr n0 locs' → h' = h0 → own_Go p.tables e below P (T'.setTop (mkF m 35 #[.val (.int (own_hs 0 cs)), .val (.ref tx), .val (.int (0 : Int32)), .val (.int (Int32.ofNat cs.length)), .val (.int (Int32.ofNat cs.length)), .val (.int vj)] []))) → own_Go p.tables e below P (T0.setTop (mkF m 8 #[.val (.int acc), .val (.ref tx), .val (.int (0 : Int32)), .val (.int (Int32.ofNat cs.length)), .val (.int (Int32.ofNat cs.length)), .val (.int vi)] [])) := by
  intro k
  induction k with
  | zero =>
    intro i acc vi T0 h0 locs hi hv hacc X0 e0 N0 Z0 G K
    have hii : i = cs.length := by omega
    subst hii
    rw [List.take_length] at hacc
    subst hacc
    exact exH (i := 0) B X0 hw e0 N0 Z0 G ha (fun q => by have := Int32.lt_iff_toInt_lt.mp q; rw [own_i2n (by omega)] at this; omega) (fun T' h' locs' X e' N q => K _ _ _ _ X e' N q)
  | succ k ih =>
    intro i acc vi T0 h0 locs hi hv hacc X0 e0 N0 Z0 G K
    refine tnH B X0 hw e0 N0 Z0 G ha ⟨fun q => by have := Int32.lt_iff_toInt_lt.mp q; rw [show (0 : Int32).toInt = 0 from by decide] at this; omega, Int32.lt_iff_toInt_lt.mpr (by rw [own_i2n (by omega)]; omega), by show vi.toInt.toNat = i; omega⟩ (fun T' h' locs' X e' N q => ?_)
    subst q
    exact ih (i + 1) _ _ T' h' locs' (by omega) (own_vsucc hv (by omega)) (by rw [← own_take cs i (by omega), own_hsS, hacc]) X e' N Z0 G K
def QrmSH (Z : State) (tx : Addr) (cs : List Int32) (h0 : Heap) (n0 : Nat) (v : Option Value) (h : Heap) (L : List Loc) : Prop := v = some (.int (own_hs 0 cs)) ∧ Fr n0 L ∧ h = h0
theorem rmSH (l : Launch) (Z : State) (a0 : Array Value) (hw : own_H a0 Z) (ws : List Jvm.Cond) (tx : Addr) (cs : List Int32) (h0 : Heap) (n0 : Nat) (ZH : n0 ≤ h0.size) (G_tx : own_Arf Z h0 tx .byte (Int32.ofNat cs.length) (fun i => .int (own_L cs i))) (ha : own_as cs) (hn : cs.length < 100) :
    own_Met l Z yy73 jdk_48_method_5_code 6 (some .int) ws (own_R 0 0 0 0) #[(.int (0 : Int32)), (.ref tx), (.int (0 : Int32)), (.int (Int32.ofNat cs.length))] h0 (QrmSH Z tx cs h0 n0) 0 0 := by
  refine own_hd (fr := #[.val (.int (0 : Int32)), .val (.ref tx), .val (.int (0 : Int32)), .val (.int (Int32.ofNat cs.length)), .unset, .unset]) (plainFor_of_name pn_17) (fun {p e s m below meth c s₁} B X0 e0 => ?_)
  have N0 := Fr.nil n0
  refine g_iloadN (k := 2) (q := 1) B X0 dK rfl rfl ?_
  refine g_iloadN (k := 3) (q := 2) B X0 dK rfl rfl ?_
  refine g_iadd (q := 3) B X0 dK rfl rfl ?_
  rw [Int32.zero_add]
  refine g_istore (k := 4) (q := 5) (l' := #[.val (.int (0 : Int32)), .val (.ref tx), .val (.int (0 : Int32)), .val (.int (Int32.ofNat cs.length)), .val (.int (Int32.ofNat cs.length)), .unset]) B X0 dK rfl rfl ?_
  refine g_iloadN (k := 2) (q := 6) B X0 dK rfl rfl ?_
  refine g_istore (k := 5) (q := 8) (l' := #[.val (.int (0 : Int32)), .val (.ref tx), .val (.int (0 : Int32)), .val (.int (Int32.ofNat cs.length)), .val (.int (Int32.ofNat cs.length)), .val (.int (0 : Int32))]) B X0 dK rfl rfl ?_
  refine own_hsd B hw ha hn cs.length 0 (0 : Int32) (0 : Int32) _ _ _ (by omega) dD (by rw [List.take_zero]; rfl) X0 e0 N0 ZH G_tx (fun T1 h1 l1 vj X1 e1 N1 q1 => ?_)
  subst q1
  refine g_iloadN (k := 0) (q := 36) B X1 dK rfl rfl ?_
  exact g_retI B X1 dK dD dD e1 (by
    exact ⟨rfl, N1, rfl⟩)
theorem pd_28 : parseMethodDescriptor "(I[BII)I" = some ⟨[.int, (.array .byte), .int, .int], some .int⟩ := by decide +kernel
def QrmVH (Z : State) (tx : Addr) (cs : List Int32) (h0 : Heap) (n0 : Nat) (v : Option Value) (h : Heap) (L : List Loc) : Prop := v = some (.int (own_hs 0 cs)) ∧ Fr n0 L ∧ h = h0
theorem rmVH (l : Launch) (Z : State) (a0 : Array Value) (hw : own_H a0 Z) (ws : List Jvm.Cond) (tx : Addr) (cs : List Int32) (h0 : Heap) (n0 : Nat) (ZH : n0 ≤ h0.size) (G_tx : own_Arf Z h0 tx .byte (Int32.ofNat cs.length) (fun i => .int (own_L cs i))) (E_tx : Exa Z h0 tx "[B") (ha : own_as cs) (hn : cs.length < 100) :
    own_Met l Z yy74 jdk_48_method_4_code 5 (some .int) ws (own_R 1 0 0 17) #[(.ref tx), (.int (0 : Int32)), (.int (Int32.ofNat cs.length)), (.int (0 : Int32)), (.int (4 : Int32))] h0 (QrmVH Z tx cs h0 n0) 0 0 := by
  refine own_hd (fr := #[.val (.ref tx), .val (.int (0 : Int32)), .val (.int (Int32.ofNat cs.length)), .val (.int (0 : Int32)), .val (.int (4 : Int32))]) (plainFor_of_name pn_17) (fun {p e s m below meth c s₁} B X0 e0 => ?_)
  have N0 := Fr.nil n0
  refine g_iload (k := 4) (q := 2) B X0 dK rfl rfl ?_
  refine g_tabIn (df := 127) (lo := 4) (hi := 10) (off := 42) (os := #[42, 55, 127, 127, 88, 101, 114]) (len := 42) (q := 44) B X0 dK dD dD dD dD ?_
  refine g_iloadN (k := 3) (q := 45) B X0 dK rfl rfl ?_
  refine g_aloadN (k := 0) (q := 46) B X0 dK rfl rfl rfl ?_
  refine g_castY (i := 60) (q := 49) B X0 (kw hw 429 rfl) e0 (Ins.self E_tx) dK rfl (fun T1 X1 e1 => ?_)
  refine g_iloadN (k := 1) (q := 50) B X1 dK rfl rfl ?_
  refine g_iloadN (k := 2) (q := 51) B X1 dK rfl rfl ?_
  refine g_callS (i := 62) (W := 0) (q := 54) (argsL := [(.int (0 : Int32)), (.ref tx), (.int (0 : Int32)), (.int (Int32.ofNat cs.length))]) (rest := []) B X1 (y := yy73) (kw hw 431 rfl) (kw hw 432 rfl) (kw hw 427 rfl) (kw hw 433 rfl) dD e1 (rmSH l Z a0 hw [] tx cs h0 n0 ZH G_tx ha hn) dK rfl rfl (lenOf pd_28 rfl) (Nat.le_of_eq rfl) rfl dD dD dD dD rfl (fun _ L2 T2 X2 hQ2 => ?_)
  obtain ⟨rfl, Nq2, e2⟩ := hQ2
  have N2 := Fr.app N0 Nq2
  refine g_goto (o := 103) (q := 157) B X2 dK dD dD ?_
  exact g_retI B X2 dK dD dD e2 (by
    exact ⟨rfl, N2, rfl⟩)
theorem pd_29 : parseMethodDescriptor "(Ljava/lang/Object;IIII)I" = some ⟨[(.object "java/lang/Object"), .int, .int, .int, .int], some .int⟩ := by decide +kernel
def QrmLH (Z : State) (tx : Addr) (cs : List Int32) (h0 : Heap) (n0 : Nat) (v : Option Value) (h : Heap) (L : List Loc) : Prop := v = some (.int (own_hs 0 cs)) ∧ Fr n0 L ∧ h = h0
theorem rmLH (l : Launch) (Z : State) (a0 : Array Value) (hw : own_H a0 Z) (ws : List Jvm.Cond) (tx : Addr) (cs : List Int32) (h0 : Heap) (n0 : Nat) (ZH : n0 ≤ h0.size) (G_tx : own_Arf Z h0 tx .byte (Int32.ofNat cs.length) (fun i => .int (own_L cs i))) (E_tx : Exa Z h0 tx "[B") (ha : own_as cs) (hn : cs.length < 100) (h1 : 1 < cs.length) :
    own_Met l Z yy75 jdk_43_method_21_code 1 (some .int) ws (own_R 2 0 0 33) #[(.ref tx)] h0 (QrmLH Z tx cs h0 n0) 0 0 := by
  refine own_hd (fr := #[.val (.ref tx)]) (plainFor_of_name pn_13) (fun {p e s m below meth c s₁} B X0 e0 => ?_)
  have N0 := Fr.nil n0
  refine g_aloadN (k := 0) (q := 1) B X0 dK rfl rfl rfl ?_
  refine g_alen (q := 2) B X0 e0 G_tx dK rfl ?_
  refine g_lookMiss (df := 40) (ps := #[(0, 26), (1, 30)]) (len := 26) (q := 42) B X0 dK dD (own_look h1 (by omega)) dD dD ?_
  refine g_aloadN (k := 0) (q := 43) B X0 dK rfl rfl rfl ?_
  refine g_iconst (o := 0) (q := 44) (v := 0) B X0 dK rfl rfl ?_
  refine g_aloadN (k := 0) (q := 45) B X0 dK rfl rfl rfl ?_
  refine g_alen (q := 46) B X0 e0 G_tx dK rfl ?_
  refine g_iconst (o := 0) (q := 47) (v := 0) B X0 dK rfl rfl ?_
  refine g_iconst (o := 4) (q := 48) (v := 4) B X0 dK rfl rfl ?_
  refine g_callS (i := 84) (W := 0) (q := 51) (argsL := [(.ref tx), (.int (0 : Int32)), (.int (Int32.ofNat cs.length)), (.int (0 : Int32)), (.int (4 : Int32))]) (rest := []) B X0 (y := yy74) (kw hw 425 rfl) (kw hw 426 rfl) (kw hw 427 rfl) (kw hw 428 rfl) dD e0 (rmVH l Z a0 hw [] tx cs h0 n0 ZH G_tx E_tx ha hn) dK rfl rfl (lenOf pd_29 rfl) (Nat.le_of_eq rfl) rfl dD dD dD dD rfl (fun _ L1 T1 X1 hQ1 => ?_)
  obtain ⟨rfl, Nq1, e1⟩ := hQ1
  have N1 := Fr.app N0 Nq1
  exact g_retI B X1 dK dD dD e1 (by
    exact ⟨rfl, N1, rfl⟩)
theorem pd_30 : parseMethodDescriptor "([B)I" = some ⟨[(.array .byte)], some .int⟩ := by decide +kernel
def QrmH0 (Z : State) (cz : Int32) (fv : Value) (ev dg ca : Addr) (cg : Nat → Addr) (x tx : Addr) (cs : List Int32) (h0 : Heap) (n0 : Nat) (v : Option Value) (h : Heap) (L : List Loc) : Prop := v = some (.int (own_hs 0 cs)) ∧ Fr n0 L ∧ Keep h0 h [x] ∧ own_Sk Z h x tx cs (own_hs 0 cs)
theorem rmH0 (l : Launch) (Z : State) (a0 : Array Value) (hw : own_H a0 Z) (ws : List Jvm.Cond) (cz : Int32) (fv : Value) (ev dg ca : Addr) (cg : Nat → Addr) (x tx : Addr) (cs : List Int32) (h0 : Heap) (n0 : Nat) (ZH : n0 ≤ h0.size) (OO : Old Z n0 h0) (HW : own_W Z cz fv ev dg ca cg) (Y_x : own_Sk Z h0 x tx cs (0 : Int32)) (g_x : n0 ≤ x) (ha : own_as cs) (hn : cs.length < 100) (h1 : 1 < cs.length) (h0h : ¬ (own_hs 0 cs) = (0 : Int32)) :
    own_Met l Z yy23 jdk_42_method_78_code 2 (some .int) ws (own_R 3 0 0 45) #[(.ref x)] h0 (QrmH0 Z cz fv ev dg ca cg x tx cs h0 n0) 0 0 := by
  refine own_hd (fr := #[.val (.ref x), .unset]) (plainFor_of_name pn_11) (fun {p e s m below meth c s₁} B X0 e0 => ?_)
  have N0 := Fr.nil n0
  have KK := Keep.refl h0 [x]
  have ne_x_tx := Y_x.2.2.2.1
  refine g_aloadN (k := 0) (q := 1) B X0 dK rfl rfl rfl ?_
  refine g_getF (i := 19) (q := 4) B X0 (host := "") (Or.inl (kw hw 418 rfl)) Via.refl e0 Y_x.2.1 dK rfl (fun T1 X1 e1 => ?_)
  refine g_istoreN (k := 1) (q := 5) (l' := #[.val (.ref x), .val (.int (0 : Int32))]) B X1 dK rfl rfl ?_
  refine g_iloadN (k := 1) (q := 6) B X1 dK rfl rfl ?_
  refine g_ifNo (cd := .ne) (o := 52) (q := 9) B X1 dK (((if0 _ _).trans (teq (by decide : (0 : Int32) = (0 : Int32))).2)) rfl ?_
  refine g_aloadN (k := 0) (q := 10) B X1 dK rfl rfl rfl ?_
  refine g_getF (i := 23) (q := 13) B X1 (host := "") (Or.inl (kw hw 420 rfl)) Via.refl e1 Y_x.2.2.1 dK rfl (fun T2 X2 e2 => ?_)
  refine g_ifNo (cd := .ne) (o := 45) (q := 16) B X2 dK (((if0 _ _).trans (teq (by decide : (0 : Int32) = (0 : Int32))).2)) rfl ?_
  refine g_aloadN (k := 0) (q := 17) B X2 dK rfl rfl rfl ?_
  refine g_callV (i := 492) (W := 0) (q := 20) (a := x) (argsL := []) (rest := []) B X2 (y := yy28) (kw hw 369 rfl) (kw hw 370 rfl) (kw hw 372 rfl) (kw hw 371 rfl) (kw hw 4 rfl) (kw hw 373 rfl) dD e2 Y_x.1.1 (rmL1 l Z a0 hw [] cz fv ev dg ca cg x tx cs h0 n0 ZH OO HW Y_x.1) dK rfl rfl (lenOf pd_7 rfl) (Nat.le_of_eq rfl) rfl dD dD dD dD rfl (fun _ L3 T3 X3 hQ3 => ?_)
  obtain ⟨rfl, Nq3, e3⟩ := hQ3
  have N3 := Fr.app N0 Nq3
  refine g_ifNo (cd := .eq) (o := 13) (q := 23) B X3 dK (((if0 _ _).trans (feq (by decide : ¬ ((1 : Int32) = (0 : Int32)))).1)) rfl ?_
  refine g_aloadN (k := 0) (q := 24) B X3 dK rfl rfl rfl ?_
  refine g_getF (i := 9) (q := 27) B X3 (host := "") (Or.inl (kw hw 262 rfl)) Via.refl e3 Y_x.1.2.1 dK rfl (fun T4 X4 e4 => ?_)
  refine g_callS (i := 628) (W := 0) (q := 30) (argsL := [(.ref tx)]) (rest := []) B X4 (y := yy75) (kw hw 422 rfl) (kw hw 423 rfl) (kw hw 376 rfl) (kw hw 424 rfl) dD e4 (rmLH l Z a0 hw [] tx cs h0 n0 ZH Y_x.1.2.2.2 Y_x.2.2.2.2 ha hn h1) dK rfl rfl (lenOf pd_30 rfl) (Nat.le_of_eq rfl) rfl dD dD dD dD rfl (fun _ L5 T5 X5 hQ5 => ?_)
  obtain ⟨rfl, Nq5, e5⟩ := hQ5
  have N5 := Fr.app N3 Nq5
  refine g_goto (o := 10) (q := 40) B X5 dK dD dD ?_
  refine g_istoreN (k := 1) (q := 41) (l' := #[.val (.ref x), .val (.int (own_hs 0 cs))]) B X5 dK rfl rfl ?_
  refine g_iloadN (k := 1) (q := 42) B X5 dK rfl rfl ?_
  refine g_ifYes (cd := .ne) (o := 11) (q := 53) B X5 dK (((if0 _ _).trans (feq (h0h : ¬ ((own_hs 0 cs) = (0 : Int32)))).2)) dD dD ?_
  obtain ⟨Y0_Y_x, F_hash_x, F_hashIsZero_x, ne_x_tx, E_tx⟩ := Y_x
  obtain ⟨E_x, F_value_x, F_coder_x, G_tx⟩ := Y0_Y_x
  refine g_aloadN (k := 0) (q := 54) B X5 dK rfl rfl rfl ?_
  refine g_iloadN (k := 1) (q := 55) B X5 dK rfl rfl ?_
  refine g_putF (i := 19) (q := 58) B X5 (host := "") (Or.inl (kw hw 418 rfl)) Via.refl e5 F_hash_x E_x (Or.inl (kw hw 419 rfl)) (kw hw 5 rfl) (ty := .int) dD rfl rfl dK rfl (fun T6 h6 X6 e6 W6 => ?_)
  have N6 := Fr.snoc X6 N5 g_x
  have F_hash_x := F_hash_x.same W6
  have F_hashIsZero_x := F_hashIsZero_x.other W6 (Or.inr (slot_ne (Or.inl (kw hw 421 rfl)) (Or.inl (kw hw 419 rfl)) dD (t := .boolean) (t' := .int) dD dD))
  have E_tx := E_tx.wr W6
  have E_x := E_x.wr W6
  have F_value_x := F_value_x.other W6 (Or.inr (slot_ne (Or.inr (kw hw 7 rfl)) (Or.inl (kw hw 419 rfl)) dD (t := (.array .byte)) (t' := .int) dD dD))
  have F_coder_x := F_coder_x.other W6 (Or.inr (slot_ne (Or.inr (kw hw 8 rfl)) (Or.inl (kw hw 419 rfl)) dD (t := .byte) (t' := .int) dD dD))
  have G_tx := G_tx.other W6 (Ne.symm ne_x_tx)
  have KK := KK.wr W6 (mi 0 rfl)
  refine g_iloadN (k := 1) (q := 59) B X6 dK rfl rfl ?_
  exact g_retI B X6 dK dD dD e6 (by
    exact ⟨rfl, N6, KK, ⟨E_x, F_value_x, F_coder_x, G_tx⟩, F_hash_x, F_hashIsZero_x, ne_x_tx, E_tx⟩)
def QrmH1 (Z : State) (cz : Int32) (fv : Value) (ev dg ca : Addr) (cg : Nat → Addr) (x tx : Addr) (cs : List Int32) (h0 : Heap) (n0 : Nat) (v : Option Value) (h : Heap) (L : List Loc) : Prop := v = some (.int (own_hs 0 cs)) ∧ Fr n0 L ∧ Keep h0 h [x] ∧ own_Sk Z h x tx cs (own_hs 0 cs)
theorem rmH1 (l : Launch) (Z : State) (a0 : Array Value) (hw : own_H a0 Z) (ws : List Jvm.Cond) (cz : Int32) (fv : Value) (ev dg ca : Addr) (cg : Nat → Addr) (x tx : Addr) (cs : List Int32) (h0 : Heap) (n0 : Nat) (ZH : n0 ≤ h0.size) (OO : Old Z n0 h0) (HW : own_W Z cz fv ev dg ca cg) (Y_x : own_Sk Z h0 x tx cs (own_hs 0 cs)) (g_x : n0 ≤ x) (ha : own_as cs) (hn : cs.length < 100) (h1 : 1 < cs.length) (h0h : ¬ (own_hs 0 cs) = (0 : Int32)) :
    own_Met l Z yy23 jdk_42_method_78_code 2 (some .int) ws (own_R 3 0 0 45) #[(.ref x)] h0 (QrmH1 Z cz fv ev dg ca cg x tx cs h0 n0) 0 0 := by
  refine own_hd (fr := #[.val (.ref x), .unset]) (plainFor_of_name pn_11) (fun {p e s m below meth c s₁} B X0 e0 => ?_)
  have N0 := Fr.nil n0
  have KK := Keep.refl h0 [x]
  refine g_aloadN (k := 0) (q := 1) B X0 dK rfl rfl rfl ?_
  refine g_getF (i := 19) (q := 4) B X0 (host := "") (Or.inl (kw hw 418 rfl)) Via.refl e0 Y_x.2.1 dK rfl (fun T1 X1 e1 => ?_)
  refine g_istoreN (k := 1) (q := 5) (l' := #[.val (.ref x), .val (.int (own_hs 0 cs))]) B X1 dK rfl rfl ?_
  refine g_iloadN (k := 1) (q := 6) B X1 dK rfl rfl ?_
  refine g_ifYes (cd := .ne) (o := 52) (q := 58) B X1 dK (((if0 _ _).trans (feq (h0h : ¬ ((own_hs 0 cs) = (0 : Int32)))).2)) dD dD ?_
  refine g_iloadN (k := 1) (q := 59) B X1 dK rfl rfl ?_
  exact g_retI B X1 dK dD dD e1 (by
    exact ⟨rfl, N0, KK, Y_x⟩)
def QrmHC (Z : State) (x tx : Addr) (cs : List Int32) (h0 : Heap) (n0 : Nat) (v : Option Value) (h : Heap) (L : List Loc) : Prop := v = some (.int (own_hs 0 cs)) ∧ Fr n0 L ∧ Keep h0 h [x] ∧ own_Sk Z h x tx cs (own_hs 0 cs)
theorem rmHC (l : Launch) (Z : State) (a0 : Array Value) (hw : own_H a0 Z) (ws : List Jvm.Cond) (cz : Int32) (fv : Value) (ev dg ca : Addr) (cg : Nat → Addr) (x tx : Addr) (cs : List Int32) (hv : Int32) (h0 : Heap) (n0 : Nat) (Z0 : n0 ≤ h0.size) (OO : Old Z n0 h0) (HW : own_W Z cz fv ev dg ca cg) (Y_x : own_Sk Z h0 x tx cs hv) (g_x : n0 ≤ x) (ha : own_as cs) (hn : cs.length < 100) (h1 : 1 < cs.length) (h0h : ¬ (own_hs 0 cs) = (0 : Int32)) (hcase : hv = 0 ∨ hv = (own_hs 0 cs)) :
    own_Met l Z yy23 jdk_42_method_78_code 2 (some .int) ws (own_R 3 0 0 45) #[(.ref x)] h0 (QrmHC Z x tx cs h0 n0) 0 0 := by
  rcases hcase with e | e
  · subst e; exact rmH0 l Z a0 hw ws cz fv ev dg ca cg x tx cs h0 n0 Z0 OO HW Y_x g_x ha hn h1 h0h
  · subst e; exact rmH1 l Z a0 hw ws cz fv ev dg ca cg x tx cs h0 n0 Z0 OO HW Y_x g_x ha hn h1 h0h
def QrmHs (Z : State) (cz : Int32) (fv : Value) (ev dg ca : Addr) (cg : Nat → Addr) (x tx : Addr) (cs : List Int32) (hv : Int32) (h0 : Heap) (n0 : Nat) (v : Option Value) (h : Heap) (L : List Loc) : Prop := v = some (.int ((own_hs 0 cs) ^^^ (((own_hs 0 cs).toUInt32 >>> ((16 : Int32) &&& 31).toUInt32).toInt32))) ∧ Fr n0 L ∧ Keep h0 h [x] ∧ own_Sk Z h x tx cs (own_hs 0 cs)
theorem rmHs (l : Launch) (Z : State) (a0 : Array Value) (hw : own_H a0 Z) (ws : List Jvm.Cond) (cz : Int32) (fv : Value) (ev dg ca : Addr) (cg : Nat → Addr) (x tx : Addr) (cs : List Int32) (hv : Int32) (h0 : Heap) (n0 : Nat) (ZH : n0 ≤ h0.size) (OO : Old Z n0 h0) (HW : own_W Z cz fv ev dg ca cg) (Y_x : own_Sk Z h0 x tx cs hv) (g_x : n0 ≤ x) (ha : own_as cs) (hn : cs.length < 100) (h1 : 1 < cs.length) (h0h : ¬ (own_hs 0 cs) = (0 : Int32)) (hcase : hv = 0 ∨ hv = (own_hs 0 cs)) :
    own_Met l Z yy33 jdk_69_method_1_code 2 (some .int) ws (own_R 4 0 0 58) #[(.ref x)] h0 (QrmHs Z cz fv ev dg ca cg x tx cs hv h0 n0) 0 0 := by
  refine own_hd (fr := #[.val (.ref x), .unset]) (plainFor_of_name pn_7) (fun {p e s m below meth c s₁} B X0 e0 => ?_)
  have N0 := Fr.nil n0
  have KK := Keep.refl h0 [x]
  refine g_aloadN (k := 0) (q := 1) B X0 dK rfl rfl rfl ?_
  refine g_ifnonnullYes (o := 7) (q := 8) B X0 dK dD dD ?_
  refine g_aloadN (k := 0) (q := 9) B X0 dK rfl rfl rfl ?_
  refine g_callVz (i := 1) (W := 0) (q := 12) (a := x) (argsL := []) (rest := []) B X0 (y := (⟨zz9, "hashCode", "()I"⟩ : MethodName)) (z := yy23) (kw hw 412 rfl) (kw hw 413 rfl) (own_NI.inst (kw hw 194 rfl)) (kw hw 415 rfl) (kw hw 416 rfl) (kw hw 4 rfl) (kw hw 417 rfl) dD e0 Y_x.1.1 (rmHC l Z a0 hw [] cz fv ev dg ca cg x tx cs hv h0 n0 ZH OO HW Y_x g_x ha hn h1 h0h hcase) dK rfl rfl (lenOf pd_3 rfl) (Nat.le_of_eq rfl) rfl dD dD dD dD rfl (fun _ L1 T1 X1 hQ1 => ?_)
  obtain ⟨rfl, Nq1, K1, Yq1_0⟩ := hQ1
  have N1 := Fr.app N0 Nq1
  have KK := KK.trans K1 (allS (mi 0 rfl) all0)
  have Y_x := Yq1_0
  refine g_dup (q := 13) B X1 dK rfl rfl ?_
  refine g_istoreN (k := 1) (q := 14) (l' := #[.val (.ref x), .val (.int (own_hs 0 cs))]) B X1 dK rfl rfl ?_
  refine g_iloadN (k := 1) (q := 15) B X1 dK rfl rfl ?_
  refine g_bipush (o := 16) (q := 17) (v := 16) B X1 dK rfl rfl ?_
  refine g_iushr (q := 18) B X1 dK rfl rfl ?_
  refine g_ixor (q := 19) B X1 dK rfl rfl ?_
  exact g_retI B X1 dK dD dD rfl (by
    exact ⟨rfl, N1, KK, Y_x⟩)
def own_M1 (Z : State) (h : Heap) (b tb : Addr) (st : List Nat) (F : Nat → Value) : Prop :=
  Exa Z h b zz4 ∧ Fld Z h b zz4 "table" zz44 (.ref tb) ∧ Fld Z h b zz4 "size" "I" (.int (Int32.ofNat st.length)) ∧ Fld Z h b zz4 "threshold" "I" (.int (12 : Int32)) ∧ Fld Z h b zz4 "modCount" "I" (.int (Int32.ofNat st.length)) ∧ own_Arr Z h tb zz6 (16 : Int32) F ∧ (∀ i, i < 16 → i ∉ st → F i = Value.null) ∧ b ≠ tb
theorem own_M1.lt {Z : State} {h : Heap} {b : Addr} {tb : Addr} {st : List Nat} {F : Nat → Value} (Y : own_M1 Z h b tb st F) : b < h.size := Y.1.lt
theorem own_M1.in_tb {Z : State} {h : Heap} {b : Addr} {tb : Addr} {st : List Nat} {F : Nat → Value} (Y : own_M1 Z h b tb st F) : own_In h tb := Y.2.2.2.2.2.1.lt
theorem own_M1.ext {Z : State} {h h' : Heap} {b : Addr} {tb : Addr} {st : List Nat} {F : Nat → Value} (Y : own_M1 Z h b tb st F) (E : Ext h h') : own_M1 Z h' b tb st F := ⟨Y.1.ext E, Y.2.1.ext E, Y.2.2.1.ext E, Y.2.2.2.1.ext E, Y.2.2.2.2.1.ext E, Y.2.2.2.2.2.1.ext E, Y.2.2.2.2.2.2.1, Y.2.2.2.2.2.2.2⟩
theorem own_M1.other {Z : State} {h h' : Heap} {a' : Addr} {sl : Nat} {v' : Value} {b : Addr} {tb : Addr} {st : List Nat} {F : Nat → Value} (Y : own_M1 Z h b tb st F) (W : Wr h h' a' sl v') (q_b : b ≠ a') (q_tb : tb ≠ a') : own_M1 Z h' b tb st F := ⟨Y.1.wr W, Y.2.1.other W (Or.inl q_b), Y.2.2.1.other W (Or.inl q_b), Y.2.2.2.1.other W (Or.inl q_b), Y.2.2.2.2.1.other W (Or.inl q_b), Y.2.2.2.2.2.1.other W q_tb, Y.2.2.2.2.2.2.1, Y.2.2.2.2.2.2.2⟩
theorem own_M1.keep {Z : State} {h h' : Heap} {ws : List Addr} {b : Addr} {tb : Addr} {st : List Nat} {F : Nat → Value} (Y : own_M1 Z h b tb st F) (K : Keep h h' ws) (q_b : b ∉ ws) (q_tb : tb ∉ ws) : own_M1 Z h' b tb st F := ⟨Y.1.keep K, Y.2.1.keep K q_b, Y.2.2.1.keep K q_b, Y.2.2.2.1.keep K q_b, Y.2.2.2.2.1.keep K q_b, Y.2.2.2.2.2.1.keep K q_tb, Y.2.2.2.2.2.2.1, Y.2.2.2.2.2.2.2⟩
theorem own_thr {k : Nat} (h : k < 12) : ¬ (12 : Int32) < ((Int32.ofNat k) + (1 : Int32)) := by
  rw [own_suc]
  exact fun q => by have := (own_ilt (j := 12) (k := k + 1) (by omega) (by omega)).mp q; omega
theorem own_i16 {k : Nat} (h : k < 16) : (Int32.ofNat k) < (16 : Int32) := own_l16 h
def own_Mp (Z : State) (h : Heap) (b tb : Addr) (st : List Nat) : Prop := (st = [] ∧ tb = b ∧ own_M0 Z h b) ∨ (st ≠ [] ∧ ∃ F, own_M1 Z h b tb st F)
section OwnMp
variable {Z : State} {h h' : Heap} {b tb : Addr} {st : List Nat}
theorem own_Mp.exa (Y : own_Mp Z h b tb st) : Exa Z h b zz4 := by
  rcases Y with ⟨-, -, Y⟩ | ⟨-, F, Y⟩
  · exact Y.1
  · exact Y.1
theorem own_Mp.lt (Y : own_Mp Z h b tb st) : b < h.size := Y.exa.lt
theorem own_Mp.in_tb (Y : own_Mp Z h b tb st) : own_In h tb := by
  rcases Y with ⟨-, rfl, Y⟩ | ⟨-, F, Y⟩
  · exact Y.lt
  · exact Y.in_tb
theorem own_Mp.ext (Y : own_Mp Z h b tb st) (E : Ext h h') : own_Mp Z h' b tb st := by
  rcases Y with ⟨q, r, Y⟩ | ⟨q, F, Y⟩
  · exact Or.inl ⟨q, r, Y.ext E⟩
  · exact Or.inr ⟨q, F, Y.ext E⟩
theorem own_Mp.other {a' : Addr} {sl : Nat} {v' : Value} (Y : own_Mp Z h b tb st) (W : Wr h h' a' sl v') (q1 : b ≠ a') (q2 : tb ≠ a') : own_Mp Z h' b tb st := by
  rcases Y with ⟨q, r, Y⟩ | ⟨q, F, Y⟩
  · exact Or.inl ⟨q, r, Y.other W q1⟩
  · exact Or.inr ⟨q, F, Y.other W q1 q2⟩
theorem own_Mp.keep {ws : List Addr} (Y : own_Mp Z h b tb st) (K : Keep h h' ws) (q1 : b ∉ ws) (q2 : tb ∉ ws) : own_Mp Z h' b tb st := by
  rcases Y with ⟨q, r, Y⟩ | ⟨q, F, Y⟩
  · exact Or.inl ⟨q, r, Y.keep K q1⟩
  · exact Or.inr ⟨q, F, Y.keep K q1 q2⟩
end OwnMp
theorem own_KeepM {h h' : Heap} {ws ws' : List Addr} (K : Keep h h' ws) (q : ∀ x ∈ ws, x ∈ ws') : Keep h h' ws' := Keep.trans (Keep.refl h ws') K (fun x hx => Or.inl (q x hx))
theorem own_Fput {bk : Nat} {st : List Nat} {F : Nat → Value} {u : Value} (hb : bk < 100000) (P : ∀ i, i < 16 → i ∉ st → F i = Value.null) : ∀ i, i < 16 → i ∉ (bk :: st) → (fun i => if i = (Int32.ofNat bk).toNatClampNeg then u else F i) i = Value.null := fun i hi hn => by
  rw [own_icl hb]
  have h1 : i ≠ bk := fun q => hn (q ▸ List.mem_cons_self ..)
  show (if i = bk then u else F i) = _
  rw [if_neg h1]
  exact P i hi (fun q => hn (List.mem_cons_of_mem _ q))
theorem own_n128 {k : Nat} (h : k < 128) : ¬ (Int32.ofNat k) < (-128 : Int32) := own_fin128 (P := fun k => ¬ (Int32.ofNat k) < (-128 : Int32)) dK h
theorem own_n127 {k : Nat} (h : k < 128) : ¬ (127 : Int32) < (Int32.ofNat k) := own_fin128 (P := fun k => ¬ (127 : Int32) < (Int32.ofNat k)) dK h
theorem own_p128 (k : Nat) : (Int32.ofNat k) + (128 : Int32) = Int32.ofNat (k + 128) := by rw [Int32.ofNat_add]; rfl
theorem own_m128 (k : Nat) : (Int32.ofNat (k + 128)) - (128 : Int32) = Int32.ofNat k := by rw [← own_p128]; exact Int32.add_sub_cancel _ _
theorem own_ch1 {ks : List Int32} (h : own_as ks) {i : Nat} (hi : i < ks.length) : ¬ (own_L ks i) < (1 : Int32) := by
  obtain ⟨k, h1, h2, e⟩ := h.get1 hi
  rw [e]
  exact fun q => by have := (own_ilt (j := k) (k := 1) (by omega) (by omega)).mp q; omega
theorem own_ch2 {ks : List Int32} (h : own_as ks) (i : Nat) : ¬ (127 : Int32) < (own_L ks i) := by
  obtain ⟨k, h2, e⟩ := h.get i
  rw [e]; exact own_n127 h2
theorem own_b8get {ks : List Int32} (h : own_as ks) (i : Nat) : own_b8 (own_L ks i) = own_L ks i := h.b8 i
theorem own_0lt {ks : List Int32} (h : 0 < ks.length) (h2 : ks.length < 100) : (0 : Int32) < (Int32.ofNat ks.length) := (own_ilt (j := 0) (k := ks.length) (by omega) (by omega)).mpr h
theorem own_take1 {ks : List Int32} (h : 0 < ks.length) : [own_L ks 0] = ks.take 1 := by
  cases ks with
  | nil => simp at h
  | cons x r => rfl
theorem own_as1 {d : Nat} (h : d < 10) : own_as ([] ++ [Int32.ofNat (48 + d)]) := fun x hx => by
  rw [List.nil_append] at hx
  rw [List.mem_singleton.mp hx]
  exact ⟨48 + d, by omega, by omega, rfl⟩
theorem own_as32 : own_as [Int32.ofNat 32] := fun x hx => by
  rw [List.mem_singleton.mp hx]
  exact ⟨32, by omega, by omega, rfl⟩
theorem own_asR {d : Nat} (h : d < 10) : own_as [Int32.ofNat 91, Int32.ofNat (48 + d), Int32.ofNat 93] := own_asd h
theorem own_mo {t2 tb : Addr} {h0 h : Heap} {ws : List Addr} (c : t2 = tb ∨ h.size ≤ t2) (q : tb ∈ ws ∨ h0.size ≤ tb) (k : h0.size ≤ h.size) : t2 ∈ ws ∨ h0.size ≤ t2 := by
  rcases c with rfl | c
  · exact q
  · exact Or.inr (Nat.le_trans k c)
theorem own_ch {a b c n : Nat} (p : b = a ∨ n ≤ b) (q : c = b ∨ n ≤ c) : c = a ∨ n ≤ c := by
  rcases q with rfl | q
  · exact p
  · exact Or.inr q

theorem pd_31 : parseMethodDescriptor "(Ljava/lang/Object;)I" = some ⟨[(.object "java/lang/Object")], some .int⟩ := by decide +kernel
def QrmN1 (Z : State) (cz : Int32) (fv : Value) (ev dg ca : Addr) (cg : Nat → Addr) (b tb : Addr) (st : List Nat) (F : Nat → Value) (x tx : Addr) (cs : List Int32) (hv : Int32) (bk : Nat) (h0 : Heap) (n0 : Nat) (v : Option Value) (h : Heap) (L : List Loc) : Prop := v = some .null ∧ Fr n0 L ∧ Keep h0 h [x] ∧ ∃ hv' : Int32, (hv' = 0 ∨ hv' = (own_hs 0 cs)) ∧ own_Sk Z h x tx cs hv'
theorem rmN1 (l : Launch) (Z : State) (a0 : Array Value) (hw : own_H a0 Z) (ws : List Jvm.Cond) (cz : Int32) (fv : Value) (ev dg ca : Addr) (cg : Nat → Addr) (b tb : Addr) (st : List Nat) (F : Nat → Value) (x tx : Addr) (cs : List Int32) (hv : Int32) (bk : Nat) (h0 : Heap) (n0 : Nat) (ZH : n0 ≤ h0.size) (OO : Old Z n0 h0) (HW : own_W Z cz fv ev dg ca cg) (Y_b : own_M1 Z h0 b tb st F) (Y_x : own_Sk Z h0 x tx cs hv) (ne_x_b : x ≠ b) (ne_tx_b : tx ≠ b) (ne_x_tb : x ≠ tb) (ne_tx_tb : tx ≠ tb) (g_x : n0 ≤ x) (ha : own_as cs) (hn : cs.length < 100) (h1 : 1 < cs.length) (h0h : ¬ (own_hs 0 cs) = (0 : Int32)) (hcase : hv = 0 ∨ hv = (own_hs 0 cs)) (hb : ((15 : Int32) &&& ((own_hs 0 cs) ^^^ (((own_hs 0 cs).toUInt32 >>> ((16 : Int32) &&& 31).toUInt32).toInt32))) = Int32.ofNat bk) (hbk : bk < 16) (hnb : bk ∉ st) :
    own_Met l Z yy24 jdk_69_method_13_code 8 (some (.object zz6)) ws (own_R 5 0 0 73) #[(.ref b), (.ref x)] h0 (QrmN1 Z cz fv ev dg ca cg b tb st F x tx cs hv bk h0 n0) 0 0 := by
  refine own_hd (fr := #[.val (.ref b), .val (.ref x), .unset, .unset, .unset, .unset, .unset, .unset]) (plainFor_of_name pn_7) (fun {p e s m below meth c s₁} B X0 e0 => ?_)
  have N0 := Fr.nil n0
  have KK := Keep.refl h0 [x]
  refine g_aloadN (k := 0) (q := 1) B X0 dK rfl rfl rfl ?_
  refine g_getF (i := 105) (q := 4) B X0 (host := "") (Or.inl (kw hw 347 rfl)) Via.refl e0 Y_b.2.1 dK rfl (fun T1 X1 e1 => ?_)
  refine g_dup (q := 5) B X1 dK rfl rfl ?_
  refine g_astoreN (k := 2) (q := 6) (l' := #[.val (.ref b), .val (.ref x), .val (.ref tb), .unset, .unset, .unset, .unset, .unset]) B X1 dK rfl rfl rfl ?_
  refine g_ifnullNo (o := 142) (q := 9) B X1 dK rfl ?_
  refine g_aloadN (k := 2) (q := 10) B X1 dK rfl rfl rfl ?_
  refine g_alen (q := 11) B X1 e1 Y_b.2.2.2.2.2.1.arf dK rfl ?_
  refine g_dup (q := 12) B X1 dK rfl rfl ?_
  refine g_istore (k := 5) (q := 14) (l' := #[.val (.ref b), .val (.ref x), .val (.ref tb), .unset, .unset, .val (.int (16 : Int32)), .unset, .unset]) B X1 dK rfl rfl ?_
  refine g_ifNo (cd := .le) (o := 134) (q := 17) B X1 dK (((if0 _ _).trans (tlt (by decide : (0 : Int32) < (16 : Int32))).2.2.2)) rfl ?_
  refine g_aloadN (k := 2) (q := 18) B X1 dK rfl rfl rfl ?_
  refine g_iload (k := 5) (q := 20) B X1 dK rfl rfl ?_
  refine g_iconst (o := 1) (q := 21) (v := 1) B X1 dK rfl rfl ?_
  refine g_isub (q := 22) (v := (15 : Int32)) B X1 dK rfl rfl ?_
  refine g_aloadN (k := 1) (q := 23) B X1 dK rfl rfl rfl ?_
  refine g_callS (i := 149) (W := 2) (q := 26) (argsL := [(.ref x)]) (rest := [(.int (15 : Int32)), (.ref tb)]) B X1 (y := yy33) (kw hw 409 rfl) (kw hw 410 rfl) (kw hw 38 rfl) (kw hw 411 rfl) dD e1 (rmHs l Z a0 hw [] cz fv ev dg ca cg x tx cs hv h0 n0 ZH OO HW Y_x g_x ha hn h1 h0h hcase) dK rfl rfl (lenOf pd_31 rfl) (Nat.le_of_eq rfl) rfl dD dD dD dD rfl (fun _ L2 T2 X2 hQ2 => ?_)
  obtain ⟨rfl, Nq2, K2, Yq2_0⟩ := hQ2
  have N2 := Fr.app N0 Nq2
  have Y_b := Y_b.keep K2 (ninS (Ne.symm ne_x_b) nin0) (ninS (Ne.symm ne_x_tb) nin0)
  have KK := KK.trans K2 (allS (mi 0 rfl) all0)
  have Y_x := Yq2_0
  refine g_dup (q := 27) B X2 dK rfl rfl ?_
  refine g_istore (k := 6) (q := 29) (l' := #[.val (.ref b), .val (.ref x), .val (.ref tb), .unset, .unset, .val (.int (16 : Int32)), .val (.int ((own_hs 0 cs) ^^^ (((own_hs 0 cs).toUInt32 >>> ((16 : Int32) &&& 31).toUInt32).toInt32))), .unset]) B X2 dK rfl rfl ?_
  refine g_iand (q := 30) B X2 dK rfl rfl ?_
  rw [hb]
  refine g_aaload (q := 31) (u := .null) B X2 rfl rfl Y_b.2.2.2.2.2.1.arf (own_inn (by omega)) (own_i16 hbk) (by rw [own_icl (by omega)]; exact Y_b.2.2.2.2.2.2.1 bk hbk hnb) dK rfl ?_
  refine g_dup (q := 32) B X2 dK rfl rfl ?_
  refine g_astoreN (k := 3) (q := 33) (l' := #[.val (.ref b), .val (.ref x), .val (.ref tb), .val .null, .unset, .val (.int (16 : Int32)), .val (.int ((own_hs 0 cs) ^^^ (((own_hs 0 cs).toUInt32 >>> ((16 : Int32) &&& 31).toUInt32).toInt32))), .unset]) B X2 dK rfl rfl rfl ?_
  refine g_ifnullYes (o := 115) (q := 148) B X2 dK dD dD ?_
  refine g_aconstNull (q := 149) B X2 dK rfl ?_
  exact g_retA B X2 rfl rfl rfl dK dD dD rfl (by
    exact ⟨rfl, N2, KK, _, Or.inr rfl, Y_x⟩)
def QrmN0 (Z : State) (cz : Int32) (fv : Value) (ev dg ca : Addr) (cg : Nat → Addr) (b x tx : Addr) (cs : List Int32) (hv : Int32) (h0 : Heap) (n0 : Nat) (v : Option Value) (h : Heap) (L : List Loc) : Prop := v = some .null ∧ Fr n0 L ∧ Keep h0 h [x] ∧ ∃ hv' : Int32, (hv' = 0 ∨ hv' = (own_hs 0 cs)) ∧ own_Sk Z h x tx cs hv'
theorem rmN0 (l : Launch) (Z : State) (a0 : Array Value) (hw : own_H a0 Z) (ws : List Jvm.Cond) (cz : Int32) (fv : Value) (ev dg ca : Addr) (cg : Nat → Addr) (b x tx : Addr) (cs : List Int32) (hv : Int32) (h0 : Heap) (n0 : Nat) (ZH : n0 ≤ h0.size) (OO : Old Z n0 h0) (HW : own_W Z cz fv ev dg ca cg) (Y_b : own_M0 Z h0 b) (Y_x : own_Sk Z h0 x tx cs hv) (g_x : n0 ≤ x) (ha : own_as cs) (hn : cs.length < 100) (h1 : 1 < cs.length) (h0h : ¬ (own_hs 0 cs) = (0 : Int32)) (hcase : hv = 0 ∨ hv = (own_hs 0 cs)) :
    own_Met l Z yy24 jdk_69_method_13_code 8 (some (.object zz6)) ws (own_R 5 0 0 73) #[(.ref b), (.ref x)] h0 (QrmN0 Z cz fv ev dg ca cg b x tx cs hv h0 n0) 0 0 := by
  refine own_hd (fr := #[.val (.ref b), .val (.ref x), .unset, .unset, .unset, .unset, .unset, .unset]) (plainFor_of_name pn_7) (fun {p e s m below meth c s₁} B X0 e0 => ?_)
  have N0 := Fr.nil n0
  have KK := Keep.refl h0 [x]
  refine g_aloadN (k := 0) (q := 1) B X0 dK rfl rfl rfl ?_
  refine g_getF (i := 105) (q := 4) B X0 (host := "") (Or.inl (kw hw 347 rfl)) Via.refl e0 Y_b.2.1 dK rfl (fun T1 X1 e1 => ?_)
  refine g_dup (q := 5) B X1 dK rfl rfl ?_
  refine g_astoreN (k := 2) (q := 6) (l' := #[.val (.ref b), .val (.ref x), .val .null, .unset, .unset, .unset, .unset, .unset]) B X1 dK rfl rfl rfl ?_
  refine g_ifnullYes (o := 142) (q := 148) B X1 dK dD dD ?_
  refine g_aconstNull (q := 149) B X1 dK rfl ?_
  exact g_retA B X1 rfl rfl rfl dK dD dD e1 (by
    exact ⟨rfl, N0, KK, hv, hcase, Y_x⟩)
def QrmGN (Z : State) (cz : Int32) (fv : Value) (ev dg ca : Addr) (cg : Nat → Addr) (b tb : Addr) (st : List Nat) (x tx : Addr) (cs : List Int32) (hv : Int32) (bk : Nat) (h0 : Heap) (n0 : Nat) (v : Option Value) (h : Heap) (L : List Loc) : Prop := v = some .null ∧ Fr n0 L ∧ Keep h0 h [x] ∧ ∃ hv' : Int32, (hv' = 0 ∨ hv' = (own_hs 0 cs)) ∧ own_Sk Z h x tx cs hv'
theorem rmGN (l : Launch) (Z : State) (a0 : Array Value) (hw : own_H a0 Z) (ws : List Jvm.Cond) (cz : Int32) (fv : Value) (ev dg ca : Addr) (cg : Nat → Addr) (b tb : Addr) (st : List Nat) (x tx : Addr) (cs : List Int32) (hv : Int32) (bk : Nat) (h0 : Heap) (n0 : Nat) (Z0 : n0 ≤ h0.size) (OO : Old Z n0 h0) (HW : own_W Z cz fv ev dg ca cg) (Y_b : own_Mp Z h0 b tb st) (Y_x : own_Sk Z h0 x tx cs hv) (ne_x_b : x ≠ b) (ne_tx_b : tx ≠ b) (ne_x_tb : x ≠ tb) (ne_tx_tb : tx ≠ tb) (g_x : n0 ≤ x) (ha : own_as cs) (hn : cs.length < 100) (h1 : 1 < cs.length) (h0h : ¬ (own_hs 0 cs) = (0 : Int32)) (hcase : hv = 0 ∨ hv = (own_hs 0 cs)) (hb : ((15 : Int32) &&& ((own_hs 0 cs) ^^^ (((own_hs 0 cs).toUInt32 >>> ((16 : Int32) &&& 31).toUInt32).toInt32))) = Int32.ofNat bk) (hbk : bk < 16) (hnb : bk ∉ st) :
    own_Met l Z yy24 jdk_69_method_13_code 8 (some (.object zz6)) ws (own_R 5 0 0 73) #[(.ref b), (.ref x)] h0 (QrmGN Z cz fv ev dg ca cg b tb st x tx cs hv bk h0 n0) 0 0 := by
  rcases Y_b with ⟨q, r, Y⟩ | ⟨q, F, Y⟩
  · exact rmN0 l Z a0 hw ws cz fv ev dg ca cg b x tx cs hv h0 n0 Z0 OO HW Y Y_x g_x ha hn h1 h0h hcase
  · exact rmN1 l Z a0 hw ws cz fv ev dg ca cg b tb st F x tx cs hv bk h0 n0 Z0 OO HW Y Y_x ne_x_b ne_tx_b ne_x_tb ne_tx_tb g_x ha hn h1 h0h hcase hb hbk hnb
theorem pd_32 : parseMethodDescriptor "(Ljava/lang/Object;)Ljava/util/HashMap$Node;" = some ⟨[(.object "java/lang/Object")], some (.object "java/util/HashMap$Node")⟩ := by decide +kernel
def QrmGt (Z : State) (cz : Int32) (fv : Value) (ev dg ca : Addr) (cg : Nat → Addr) (b tb : Addr) (st : List Nat) (x tx : Addr) (cs : List Int32) (hv : Int32) (bk : Nat) (h0 : Heap) (n0 : Nat) (v : Option Value) (h : Heap) (L : List Loc) : Prop := v = some .null ∧ Fr n0 L ∧ Keep h0 h [x] ∧ ∃ hv' : Int32, (hv' = 0 ∨ hv' = (own_hs 0 cs)) ∧ own_Sk Z h x tx cs hv'
theorem rmGt (l : Launch) (Z : State) (a0 : Array Value) (hw : own_H a0 Z) (ws : List Jvm.Cond) (cz : Int32) (fv : Value) (ev dg ca : Addr) (cg : Nat → Addr) (b tb : Addr) (st : List Nat) (x tx : Addr) (cs : List Int32) (hv : Int32) (bk : Nat) (h0 : Heap) (n0 : Nat) (ZH : n0 ≤ h0.size) (OO : Old Z n0 h0) (HW : own_W Z cz fv ev dg ca cg) (Y_b : own_Mp Z h0 b tb st) (Y_x : own_Sk Z h0 x tx cs hv) (ne_x_b : x ≠ b) (ne_tx_b : tx ≠ b) (ne_x_tb : x ≠ tb) (ne_tx_tb : tx ≠ tb) (g_x : n0 ≤ x) (ha : own_as cs) (hn : cs.length < 100) (h1 : 1 < cs.length) (h0h : ¬ (own_hs 0 cs) = (0 : Int32)) (hcase : hv = 0 ∨ hv = (own_hs 0 cs)) (hb : ((15 : Int32) &&& ((own_hs 0 cs) ^^^ (((own_hs 0 cs).toUInt32 >>> ((16 : Int32) &&& 31).toUInt32).toInt32))) = Int32.ofNat bk) (hbk : bk < 16) (hnb : bk ∉ st) :
    own_Met l Z yy34 jdk_69_method_12_code 3 (some (.object zz9)) ws (own_R 6 0 0 92) #[(.ref b), (.ref x)] h0 (QrmGt Z cz fv ev dg ca cg b tb st x tx cs hv bk h0 n0) 0 0 := by
  refine own_hd (fr := #[.val (.ref b), .val (.ref x), .unset]) (plainFor_of_name pn_7) (fun {p e s m below meth c s₁} B X0 e0 => ?_)
  have N0 := Fr.nil n0
  have KK := Keep.refl h0 [x]
  refine g_aloadN (k := 0) (q := 1) B X0 dK rfl rfl rfl ?_
  refine g_aloadN (k := 1) (q := 2) B X0 dK rfl rfl rfl ?_
  refine g_callV (i := 158) (W := 0) (q := 5) (a := b) (argsL := [(.ref x)]) (rest := []) B X0 (y := yy24) (kw hw 342 rfl) (kw hw 343 rfl) (kw hw 345 rfl) (kw hw 344 rfl) (kw hw 38 rfl) (kw hw 346 rfl) dD e0 Y_b.exa (rmGN l Z a0 hw [] cz fv ev dg ca cg b tb st x tx cs hv bk h0 n0 ZH OO HW Y_b Y_x ne_x_b ne_tx_b ne_x_tb ne_tx_tb g_x ha hn h1 h0h hcase hb hbk hnb) dK rfl rfl (lenOf pd_32 rfl) (Nat.le_of_eq rfl) rfl dD dD dD dD rfl (fun _ L1 T1 X1 hQ1 => ?_)
  obtain ⟨rfl, Nq1, K1, hv1, hc1, Yq1⟩ := hQ1
  have N1 := Fr.app N0 Nq1
  have KK := KK.trans K1 (allS (mi 0 rfl) all0)
  have Y_x := Yq1
  refine g_dup (q := 6) B X1 dK rfl rfl ?_
  refine g_astoreN (k := 2) (q := 7) (l' := #[.val (.ref b), .val (.ref x), .val .null]) B X1 dK rfl rfl rfl ?_
  refine g_ifnonnullNo (o := 7) (q := 10) B X1 dK rfl ?_
  refine g_aconstNull (q := 11) B X1 dK rfl ?_
  refine g_goto (o := 7) (q := 18) B X1 dK dD dD ?_
  exact g_retA B X1 rfl rfl rfl dK dD dD rfl (by
    exact ⟨rfl, N1, KK, _, hc1, Y_x⟩)
theorem pn_19 : plainName "java/util/HashMap$Node" = true := by first | (simp [plainName, overriddenIn]; done) | decide +kernel
def QrmNd (Z : State) (b : Addr) (hsh : Int32) (x vv : Addr) (h0 : Heap) (n0 : Nat) (v : Option Value) (h : Heap) (L : List Loc) : Prop := v = none ∧ Fr n0 L ∧ Keep h0 h [b] ∧ Exa Z h b zz6
theorem rmNd (l : Launch) (Z : State) (a0 : Array Value) (hw : own_H a0 Z) (ws : List Jvm.Cond) (b : Addr) (hsh : Int32) (x vv : Addr) (h0 : Heap) (n0 : Nat) (ZH : n0 ≤ h0.size) (E_b : Exa Z h0 b zz6) (F_hash_b : Fld Z h0 b zz6 "hash" "I" (.int (0 : Int32))) (F_key_b : Fld Z h0 b zz6 "key" zz38 .null) (F_value_b : Fld Z h0 b zz6 "value" zz38 .null) (F_next_b : Fld Z h0 b zz6 "next" "Ljava/util/HashMap$Node;" .null) (g_b : n0 ≤ b) :
    own_Met l Z yy76 jdk_70_method_1_code 5 none ws (own_R 1 0 0 12) #[(.ref b), (.int hsh), (.ref x), (.ref vv), .null] h0 (QrmNd Z b hsh x vv h0 n0) 0 0 := by
  refine own_hd (fr := #[.val (.ref b), .val (.int hsh), .val (.ref x), .val (.ref vv), .val .null]) (plainFor_of_name pn_19) (fun {p e s m below meth c s₁} B X0 e0 => ?_)
  have N0 := Fr.nil n0
  have KK := Keep.refl h0 [b]
  refine g_aloadN (k := 0) (q := 1) B X0 dK rfl rfl rfl ?_
  refine g_initO (i := 1) (W := 0) (q := 4) B X0 (kw hw 459 rfl) (kw hw 16 rfl) (kw hw 17 rfl) e0 dK rfl dD dD dD rfl (fun T1 X1 e1 => ?_)
  refine g_aloadN (k := 0) (q := 5) B X1 dK rfl rfl rfl ?_
  refine g_iloadN (k := 1) (q := 6) B X1 dK rfl rfl ?_
  refine g_putF (i := 7) (q := 9) B X1 (host := "") (Or.inl (kw hw 460 rfl)) Via.refl e1 F_hash_b E_b (Or.inr ⟨(kw hw 461 rfl), rfl, B.hnm⟩) (kw hw 453 rfl) (ty := .int) dD rfl rfl dK rfl (fun T2 h2 X2 e2 W2 => ?_)
  have N2 := Fr.snoc X2 N0 g_b
  have E_b := E_b.wr W2
  have F_key_b := F_key_b.other W2 (Or.inr (slot_ne (Or.inr (kw hw 463 rfl)) (Or.inr (kw hw 461 rfl)) dD (t := (.object zz9)) (t' := .int) dD dD))
  have F_value_b := F_value_b.other W2 (Or.inr (slot_ne (Or.inl (kw hw 465 rfl)) (Or.inr (kw hw 461 rfl)) dD (t := (.object zz9)) (t' := .int) dD dD))
  have F_next_b := F_next_b.other W2 (Or.inr (slot_ne (Or.inl (kw hw 467 rfl)) (Or.inr (kw hw 461 rfl)) dD (t := (.object zz6)) (t' := .int) dD dD))
  have KK := KK.wr W2 (mi 0 rfl)
  refine g_aloadN (k := 0) (q := 10) B X2 dK rfl rfl rfl ?_
  refine g_aloadN (k := 2) (q := 11) B X2 dK rfl rfl rfl ?_
  refine g_putF (i := 13) (q := 14) B X2 (host := "") (Or.inl (kw hw 462 rfl)) Via.refl e2 F_key_b E_b (Or.inr ⟨(kw hw 463 rfl), rfl, B.hnm⟩) (kw hw 453 rfl) (ty := (.object zz9)) dD rfl rfl dK rfl (fun T3 h3 X3 e3 W3 => ?_)
  have N3 := Fr.snoc X3 N2 g_b
  have E_b := E_b.wr W3
  have F_value_b := F_value_b.other W3 (Or.inr (slot_ne (Or.inl (kw hw 465 rfl)) (Or.inr (kw hw 463 rfl)) dD (t := (.object zz9)) (t' := (.object zz9)) dD dD))
  have F_next_b := F_next_b.other W3 (Or.inr (slot_ne (Or.inl (kw hw 467 rfl)) (Or.inr (kw hw 463 rfl)) dD (t := (.object zz6)) (t' := (.object zz9)) dD dD))
  have KK := KK.wr W3 (mi 0 rfl)
  refine g_aloadN (k := 0) (q := 15) B X3 dK rfl rfl rfl ?_
  refine g_aloadN (k := 3) (q := 16) B X3 dK rfl rfl rfl ?_
  refine g_putF (i := 17) (q := 19) B X3 (host := "") (Or.inl (kw hw 464 rfl)) Via.refl e3 F_value_b E_b (Or.inl (kw hw 465 rfl)) (kw hw 453 rfl) (ty := (.object zz9)) dD rfl rfl dK rfl (fun T4 h4 X4 e4 W4 => ?_)
  have N4 := Fr.snoc X4 N3 g_b
  have E_b := E_b.wr W4
  have F_next_b := F_next_b.other W4 (Or.inr (slot_ne (Or.inl (kw hw 467 rfl)) (Or.inl (kw hw 465 rfl)) dD (t := (.object zz6)) (t' := (.object zz9)) dD dD))
  have KK := KK.wr W4 (mi 0 rfl)
  refine g_aloadN (k := 0) (q := 20) B X4 dK rfl rfl rfl ?_
  refine g_aload (k := 4) (q := 22) B X4 dK rfl rfl rfl ?_
  refine g_putF (i := 20) (q := 25) B X4 (host := "") (Or.inl (kw hw 466 rfl)) Via.refl e4 F_next_b E_b (Or.inl (kw hw 467 rfl)) (kw hw 453 rfl) (ty := (.object zz6)) dD rfl rfl dK rfl (fun T5 h5 X5 e5 W5 => ?_)
  have N5 := Fr.snoc X5 N4 g_b
  have E_b := E_b.wr W5
  have KK := KK.wr W5 (mi 0 rfl)
  exact g_ret B X5 dK dD dD e5 (by
    exact ⟨rfl, N5, KK, E_b⟩)
theorem pd_33 : parseMethodDescriptor "(ILjava/lang/Object;Ljava/lang/Object;Ljava/util/HashMap$Node;)V" = some ⟨[.int, (.object "java/lang/Object"), (.object "java/lang/Object"), (.object "java/util/HashMap$Node")], none⟩ := by decide +kernel
def QrmNN (Z : State) (b : Addr) (hsh : Int32) (x vv : Addr) (h0 : Heap) (n0 : Nat) (v : Option Value) (h : Heap) (L : List Loc) : Prop := ∃ nd : Addr, v = some (.ref nd) ∧ Fr n0 L ∧ Keep h0 h [] ∧ h0.size ≤ nd ∧ Exa Z h nd zz6
theorem rmNN (l : Launch) (Z : State) (a0 : Array Value) (hw : own_H a0 Z) (ws : List Jvm.Cond) (b : Addr) (hsh : Int32) (x vv : Addr) (h0 : Heap) (n0 : Nat) (ZH : n0 ≤ h0.size) :
    own_Met l Z yy35 jdk_69_method_46_code 5 (some (.object zz6)) ws (own_R 2 1 4 29) #[(.ref b), (.int hsh), (.ref x), (.ref vv), .null] h0 (QrmNN Z b hsh x vv h0 n0) 1 4 := by
  refine own_hd (fr := #[.val (.ref b), .val (.int hsh), .val (.ref x), .val (.ref vv), .val .null]) (plainFor_of_name pn_7) (fun {p e s m below meth c s₁} B X0 e0 => ?_)
  have N0 := Fr.nil n0
  have KK := Keep.refl h0 []
  refine g_new (i := 163) (q := 3) B X0 (kw hw 446 rfl) (kw hw 453 rfl) (kw hw 454 rfl) e0 dK dD dD rfl (fun b1 T1 h1 gz1 X1 e1 E1 A1 D1 => ?_)
  have g_b1 := gl ZH gz1
  have sz_b1 := gl KK.1 gz1
  have ZH := Nat.le_trans ZH E1.1
  have KK := KK.ext E1
  have E_b1 := A1
  have F_hash_b1 : Fld Z h1 b1 zz6 "hash" "I" (.int (0 : Int32)) := D1 (Or.inr (kw hw 461 rfl)) (ty := .int) dD
  have F_key_b1 : Fld Z h1 b1 zz6 "key" zz38 .null := D1 (Or.inr (kw hw 463 rfl)) (ty := (.object zz9)) dD
  have F_value_b1 : Fld Z h1 b1 zz6 "value" zz38 .null := D1 (Or.inl (kw hw 465 rfl)) (ty := (.object zz9)) dD
  have F_next_b1 : Fld Z h1 b1 zz6 "next" "Ljava/util/HashMap$Node;" .null := D1 (Or.inl (kw hw 467 rfl)) (ty := (.object zz6)) dD
  refine g_dup (q := 4) B X1 dK rfl rfl ?_
  refine g_iloadN (k := 1) (q := 5) B X1 dK rfl rfl ?_
  refine g_aloadN (k := 2) (q := 6) B X1 dK rfl rfl rfl ?_
  refine g_aloadN (k := 3) (q := 7) B X1 dK rfl rfl rfl ?_
  refine g_aload (k := 4) (q := 9) B X1 dK rfl rfl rfl ?_
  refine g_callI (i := 375) (W := 1) (q := 12) (a := b1) (argsL := [(.int hsh), (.ref x), (.ref vv), .null]) (rest := [(.ref b1)]) B X1 (y := yy76) rfl (kw hw 455 rfl) (kw hw 456 rfl) (kw hw 454 rfl) (kw hw 458 rfl) dD e1 (rmNd l Z a0 hw [] b1 hsh x vv h1 n0 ZH E_b1 F_hash_b1 F_key_b1 F_value_b1 F_next_b1 g_b1) dK rfl rfl (lenOf pd_33 rfl) (Nat.le_of_eq rfl) rfl dD dD dD dD rfl (fun _ L2 T2 X2 hQ2 => ?_)
  obtain ⟨rfl, Nq2, K2, Eq2⟩ := hQ2
  have N2 := Fr.app N0 Nq2
  have KK := KK.trans K2 (allS (Or.inr sz_b1) all0)
  have E_b1 := Eq2
  exact g_retA B X2 rfl rfl rfl dK dD dD rfl (by
    exact ⟨b1, rfl, N2, KK, sz_b1, E_b1⟩)
def QrmAf (Z : State) (b : Addr) (h0 : Heap) (n0 : Nat) (v : Option Value) (h : Heap) (L : List Loc) : Prop := v = none ∧ Fr n0 L ∧ h = h0
theorem rmAf (l : Launch) (Z : State) (a0 : Array Value) (hw : own_H a0 Z) (ws : List Jvm.Cond) (b : Addr) (h0 : Heap) (n0 : Nat) (ZH : n0 ≤ h0.size) :
    own_Met l Z yy36 jdk_69_method_52_code 2 none ws (own_R 0 0 0 0) #[(.ref b), (.int (1 : Int32))] h0 (QrmAf Z b h0 n0) 0 0 := by
  refine own_hd (fr := #[.val (.ref b), .val (.int (1 : Int32))]) (plainFor_of_name pn_7) (fun {p e s m below meth c s₁} B X0 e0 => ?_)
  have N0 := Fr.nil n0
  exact g_ret B X0 dK dD dD e0 (by
    exact ⟨rfl, N0, rfl⟩)
def QrmRz (Z : State) (b : Addr) (h0 : Heap) (n0 : Nat) (v : Option Value) (h : Heap) (L : List Loc) : Prop := ∃ tb : Addr, v = some (.ref tb) ∧ Fr n0 L ∧ Keep h0 h [b] ∧ h0.size ≤ tb ∧ own_M1 Z h b tb [] (fun _ => .null)
theorem rmRz (l : Launch) (Z : State) (a0 : Array Value) (hw : own_H a0 Z) (ws : List Jvm.Cond) (b : Addr) (h0 : Heap) (n0 : Nat) (ZH : n0 ≤ h0.size) (Y_b : own_M0 Z h0 b) (g_b : n0 ≤ b) :
    own_Met l Z yy77 jdk_69_method_17_code 14 (some (.array (.object zz6))) ws (own_R 0 1 16 0) #[(.ref b)] h0 (QrmRz Z b h0 n0) 1 16 := by
  refine own_hd (fr := #[.val (.ref b), .unset, .unset, .unset, .unset, .unset, .unset, .unset, .unset, .unset, .unset, .unset, .unset, .unset]) (plainFor_of_name pn_7) (fun {p e s m below meth c s₁} B X0 e0 => ?_)
  have N0 := Fr.nil n0
  have KK := Keep.refl h0 [b]
  obtain ⟨E_b, F_table_b, F_size_b, F_threshold_b, F_modCount_b⟩ := Y_b
  refine g_aloadN (k := 0) (q := 1) B X0 dK rfl rfl rfl ?_
  refine g_getF (i := 105) (q := 4) B X0 (host := "") (Or.inl (kw hw 347 rfl)) Via.refl e0 F_table_b dK rfl (fun T1 X1 e1 => ?_)
  refine g_astoreN (k := 1) (q := 5) (l' := #[.val (.ref b), .val .null, .unset, .unset, .unset, .unset, .unset, .unset, .unset, .unset, .unset, .unset, .unset, .unset]) B X1 dK rfl rfl rfl ?_
  refine g_aloadN (k := 1) (q := 6) B X1 dK rfl rfl rfl ?_
  refine g_ifnonnullNo (o := 7) (q := 9) B X1 dK rfl ?_
  refine g_iconst (o := 0) (q := 10) (v := 0) B X1 dK rfl rfl ?_
  refine g_goto (o := 5) (q := 15) B X1 dK dD dD ?_
  refine g_istoreN (k := 2) (q := 16) (l' := #[.val (.ref b), .val .null, .val (.int (0 : Int32)), .unset, .unset, .unset, .unset, .unset, .unset, .unset, .unset, .unset, .unset, .unset]) B X1 dK rfl rfl ?_
  refine g_aloadN (k := 0) (q := 17) B X1 dK rfl rfl rfl ?_
  refine g_getF (i := 88) (q := 20) B X1 (host := "") (Or.inl (kw hw 444 rfl)) Via.refl e1 F_threshold_b dK rfl (fun T2 X2 e2 => ?_)
  refine g_istoreN (k := 3) (q := 21) (l' := #[.val (.ref b), .val .null, .val (.int (0 : Int32)), .val (.int (0 : Int32)), .unset, .unset, .unset, .unset, .unset, .unset, .unset, .unset, .unset, .unset]) B X2 dK rfl rfl ?_
  refine g_iconst (o := 0) (q := 22) (v := 0) B X2 dK rfl rfl ?_
  refine g_istore (k := 5) (q := 24) (l' := #[.val (.ref b), .val .null, .val (.int (0 : Int32)), .val (.int (0 : Int32)), .unset, .val (.int (0 : Int32)), .unset, .unset, .unset, .unset, .unset, .unset, .unset, .unset]) B X2 dK rfl rfl ?_
  refine g_iloadN (k := 2) (q := 25) B X2 dK rfl rfl ?_
  refine g_ifYes (cd := .le) (o := 42) (q := 67) B X2 dK (((if0 _ _).trans (flt (by decide : ¬ ((0 : Int32) < (0 : Int32)))).2.2.2)) dD dD ?_
  refine g_iloadN (k := 3) (q := 68) B X2 dK rfl rfl ?_
  refine g_ifYes (cd := .le) (o := 9) (q := 77) B X2 dK (((if0 _ _).trans (flt (by decide : ¬ ((0 : Int32) < (0 : Int32)))).2.2.2)) dD dD ?_
  refine g_bipush (o := 16) (q := 79) (v := 16) B X2 dK rfl rfl ?_
  refine g_istore (k := 4) (q := 81) (l' := #[.val (.ref b), .val .null, .val (.int (0 : Int32)), .val (.int (0 : Int32)), .val (.int (16 : Int32)), .val (.int (0 : Int32)), .unset, .unset, .unset, .unset, .unset, .unset, .unset, .unset]) B X2 dK rfl rfl ?_
  refine g_bipush (o := 12) (q := 83) (v := 12) B X2 dK rfl rfl ?_
  refine g_istore (k := 5) (q := 85) (l' := #[.val (.ref b), .val .null, .val (.int (0 : Int32)), .val (.int (0 : Int32)), .val (.int (16 : Int32)), .val (.int (12 : Int32)), .unset, .unset, .unset, .unset, .unset, .unset, .unset, .unset]) B X2 dK rfl rfl ?_
  refine g_iload (k := 5) (q := 87) B X2 dK rfl rfl ?_
  refine g_ifYes (cd := .ne) (o := 38) (q := 125) B X2 dK (((if0 _ _).trans (feq (by decide : ¬ ((12 : Int32) = (0 : Int32)))).2)) dD dD ?_
  refine g_aloadN (k := 0) (q := 126) B X2 dK rfl rfl rfl ?_
  refine g_iload (k := 5) (q := 128) B X2 dK rfl rfl ?_
  refine g_putF (i := 88) (q := 131) B X2 (host := "") (Or.inl (kw hw 444 rfl)) Via.refl e2 F_threshold_b E_b (Or.inl (kw hw 445 rfl)) (kw hw 37 rfl) (ty := .int) dD rfl rfl dK rfl (fun T3 h3 X3 e3 W3 => ?_)
  have N3 := Fr.snoc X3 N0 g_b
  have F_threshold_b := F_threshold_b.same W3
  have E_b := E_b.wr W3
  have F_table_b := F_table_b.other W3 (Or.inr (slot_ne (Or.inl (kw hw 348 rfl)) (Or.inl (kw hw 445 rfl)) dD (t := (.array (.object zz6))) (t' := .int) dD dD))
  have F_size_b := F_size_b.other W3 (Or.inr (slot_ne (Or.inl (kw hw 471 rfl)) (Or.inl (kw hw 445 rfl)) dD (t := .int) (t' := .int) dD dD))
  have F_modCount_b := F_modCount_b.other W3 (Or.inr (slot_ne (Or.inl (kw hw 469 rfl)) (Or.inl (kw hw 445 rfl)) dD (t := .int) (t' := .int) dD dD))
  have KK := KK.wr W3 (mi 0 rfl)
  refine g_iload (k := 4) (q := 133) B X3 dK rfl rfl ?_
  refine g_anewarr2 (i := 163) (cap := 16) (q := 136) B X3 (kw hw 446 rfl) (kw hw 447 rfl) e3 dD dD dD dK dD dD rfl (fun b4 T4 h4 gz4 X4 e4 E4 G_b4 => ?_)
  have ne_b_b4 := nl E_b.lt gz4
  have sz_b4 := gl KK.1 gz4
  have E_b := E_b.ext E4
  have F_table_b := F_table_b.ext E4
  have F_size_b := F_size_b.ext E4
  have F_threshold_b := F_threshold_b.ext E4
  have F_modCount_b := F_modCount_b.ext E4
  have KK := KK.ext E4
  refine g_astore (k := 6) (q := 138) (l' := #[.val (.ref b), .val .null, .val (.int (0 : Int32)), .val (.int (0 : Int32)), .val (.int (16 : Int32)), .val (.int (12 : Int32)), .val (.ref b4), .unset, .unset, .unset, .unset, .unset, .unset, .unset]) B X4 dK rfl rfl rfl ?_
  refine g_aloadN (k := 0) (q := 139) B X4 dK rfl rfl rfl ?_
  refine g_aload (k := 6) (q := 141) B X4 dK rfl rfl rfl ?_
  refine g_putF (i := 105) (q := 144) B X4 (host := "") (Or.inl (kw hw 347 rfl)) Via.refl e4 F_table_b E_b (Or.inl (kw hw 348 rfl)) (kw hw 37 rfl) (ty := (.array (.object zz6))) dD rfl rfl dK rfl (fun T5 h5 X5 e5 W5 => ?_)
  have N5 := Fr.snoc X5 N3 g_b
  have F_table_b := F_table_b.same W5
  have E_b := E_b.wr W5
  have F_size_b := F_size_b.other W5 (Or.inr (slot_ne (Or.inl (kw hw 471 rfl)) (Or.inl (kw hw 348 rfl)) dD (t := .int) (t' := (.array (.object zz6))) dD dD))
  have F_threshold_b := F_threshold_b.other W5 (Or.inr (slot_ne (Or.inl (kw hw 445 rfl)) (Or.inl (kw hw 348 rfl)) dD (t := .int) (t' := (.array (.object zz6))) dD dD))
  have F_modCount_b := F_modCount_b.other W5 (Or.inr (slot_ne (Or.inl (kw hw 469 rfl)) (Or.inl (kw hw 348 rfl)) dD (t := .int) (t' := (.array (.object zz6))) dD dD))
  have G_b4 := G_b4.other W5 (Ne.symm ne_b_b4)
  have KK := KK.wr W5 (mi 0 rfl)
  refine g_aloadN (k := 1) (q := 145) B X5 dK rfl rfl rfl ?_
  refine g_ifnullYes (o := 208) (q := 353) B X5 dK dD dD ?_
  refine g_aload (k := 6) (q := 355) B X5 dK rfl rfl rfl ?_
  exact g_retA B X5 rfl rfl rfl dK dD dD e5 (by
    exact ⟨b4, rfl, N5, KK, sz_b4, E_b, F_table_b, F_size_b, F_threshold_b, F_modCount_b, G_b4, fun _ _ _ => rfl, ne_b_b4⟩)
theorem pd_34 : parseMethodDescriptor "(ILjava/lang/Object;Ljava/lang/Object;Ljava/util/HashMap$Node;)Ljava/util/HashMap$Node;" = some ⟨[.int, (.object "java/lang/Object"), (.object "java/lang/Object"), (.object "java/util/HashMap$Node")], some (.object "java/util/HashMap$Node")⟩ := by decide +kernel
theorem pd_35 : parseMethodDescriptor "(Z)V" = some ⟨[.boolean], none⟩ := by decide +kernel
theorem pd_36 : parseMethodDescriptor "()[Ljava/util/HashMap$Node;" = some ⟨[], some (.array (.object "java/util/HashMap$Node"))⟩ := by decide +kernel
def QrmPV0 (Z : State) (b : Addr) (hsh : Int32) (x vv : Addr) (bk : Nat) (h0 : Heap) (n0 : Nat) (v : Option Value) (h : Heap) (L : List Loc) : Prop := v = some .null ∧ Fr n0 L ∧ Keep h0 h [b] ∧ ∃ tb' : Addr, (tb' = b ∨ h0.size ≤ tb') ∧ ∃ F' : Nat → Value, own_M1 Z h b tb' [bk] F'
theorem rmPV0 (l : Launch) (Z : State) (a0 : Array Value) (hw : own_H a0 Z) (ws : List Jvm.Cond) (b : Addr) (hsh : Int32) (x vv : Addr) (bk : Nat) (h0 : Heap) (n0 : Nat) (ZH : n0 ≤ h0.size) (Y_b : own_M0 Z h0 b) (g_b : n0 ≤ b) (hb : ((15 : Int32) &&& hsh) = Int32.ofNat bk) (hbk : bk < 16) :
    own_Met l Z yy25 jdk_69_method_16_code 13 (some (.object zz9)) ws (own_R 3 2 20 47) #[(.ref b), (.int hsh), (.ref x), (.ref vv), (.int (0 : Int32)), (.int (1 : Int32))] h0 (QrmPV0 Z b hsh x vv bk h0 n0) 2 20 := by
  refine own_hd (fr := #[.val (.ref b), .val (.int hsh), .val (.ref x), .val (.ref vv), .val (.int (0 : Int32)), .val (.int (1 : Int32)), .unset, .unset, .unset, .unset, .unset, .unset, .unset]) (plainFor_of_name pn_7) (fun {p e s m below meth c s₁} B X0 e0 => ?_)
  have N0 := Fr.nil n0
  have KK := Keep.refl h0 [b]
  refine g_aloadN (k := 0) (q := 1) B X0 dK rfl rfl rfl ?_
  refine g_getF (i := 105) (q := 4) B X0 (host := "") (Or.inl (kw hw 347 rfl)) Via.refl e0 Y_b.2.1 dK rfl (fun T1 X1 e1 => ?_)
  refine g_dup (q := 5) B X1 dK rfl rfl ?_
  refine g_astore (k := 6) (q := 7) (l' := #[.val (.ref b), .val (.int hsh), .val (.ref x), .val (.ref vv), .val (.int (0 : Int32)), .val (.int (1 : Int32)), .val .null, .unset, .unset, .unset, .unset, .unset, .unset]) B X1 dK rfl rfl rfl ?_
  refine g_ifnullYes (o := 12) (q := 19) B X1 dK dD dD ?_
  refine g_aloadN (k := 0) (q := 20) B X1 dK rfl rfl rfl ?_
  have zh2 := ZH
  have kk2 := KK.1
  have lt2_b := Y_b.lt
  refine g_callV (i := 117) (W := 0) (q := 23) (a := b) (argsL := []) (rest := []) B X1 (y := yy77) (kw hw 439 rfl) (kw hw 440 rfl) (kw hw 442 rfl) (kw hw 441 rfl) (kw hw 38 rfl) (kw hw 443 rfl) dD e1 Y_b.1 (rmRz l Z a0 hw [] b h0 n0 ZH Y_b g_b) dK rfl rfl (lenOf pd_36 rfl) (Nat.le_of_eq rfl) rfl dD dD dD dD rfl (fun _ L2 T2 X2 hQ2 => ?_)
  obtain ⟨t2, rfl, Nq2, K2, szq2, Yq2⟩ := hQ2
  have N2 := Fr.app N0 Nq2
  have ZH := Nat.le_trans ZH K2.1
  have KK := KK.trans K2 (allS (mi 0 rfl) all0)
  have ne_b_t2 := nz lt2_b szq2
  have g_t2 := Nat.le_trans zh2 szq2
  have sz_t2 := Nat.le_trans kk2 szq2
  have Y_b := Yq2
  obtain ⟨E_b, F_table_b, F_size_b, F_threshold_b, F_modCount_b, G_t2, P6_Y_b, ne_b_t2⟩ := Y_b
  refine g_dup (q := 24) B X2 dK rfl rfl ?_
  refine g_astore (k := 6) (q := 26) (l' := #[.val (.ref b), .val (.int hsh), .val (.ref x), .val (.ref vv), .val (.int (0 : Int32)), .val (.int (1 : Int32)), .val (.ref t2), .unset, .unset, .unset, .unset, .unset, .unset]) B X2 dK rfl rfl rfl ?_
  refine g_alen (q := 27) B X2 rfl G_t2.arf dK rfl ?_
  refine g_istore (k := 8) (q := 29) (l' := #[.val (.ref b), .val (.int hsh), .val (.ref x), .val (.ref vv), .val (.int (0 : Int32)), .val (.int (1 : Int32)), .val (.ref t2), .unset, .val (.int (16 : Int32)), .unset, .unset, .unset, .unset]) B X2 dK rfl rfl ?_
  refine g_aload (k := 6) (q := 31) B X2 dK rfl rfl rfl ?_
  refine g_iload (k := 8) (q := 33) B X2 dK rfl rfl ?_
  refine g_iconst (o := 1) (q := 34) (v := 1) B X2 dK rfl rfl ?_
  refine g_isub (q := 35) (v := (15 : Int32)) B X2 dK rfl rfl ?_
  refine g_iloadN (k := 1) (q := 36) B X2 dK rfl rfl ?_
  refine g_iand (q := 37) B X2 dK rfl rfl ?_
  rw [hb]
  refine g_dup (q := 38) B X2 dK rfl rfl ?_
  refine g_istore (k := 9) (q := 40) (l' := #[.val (.ref b), .val (.int hsh), .val (.ref x), .val (.ref vv), .val (.int (0 : Int32)), .val (.int (1 : Int32)), .val (.ref t2), .unset, .val (.int (16 : Int32)), .val (.int (Int32.ofNat bk)), .unset, .unset, .unset]) B X2 dK rfl rfl ?_
  refine g_aaload (q := 41) (u := .null) B X2 rfl rfl G_t2.arf (own_inn (by omega)) (own_i16 hbk) rfl dK rfl ?_
  refine g_dup (q := 42) B X2 dK rfl rfl ?_
  refine g_astore (k := 7) (q := 44) (l' := #[.val (.ref b), .val (.int hsh), .val (.ref x), .val (.ref vv), .val (.int (0 : Int32)), .val (.int (1 : Int32)), .val (.ref t2), .val .null, .val (.int (16 : Int32)), .val (.int (Int32.ofNat bk)), .unset, .unset, .unset]) B X2 dK rfl rfl rfl ?_
  refine g_ifnonnullNo (o := 19) (q := 47) B X2 dK rfl ?_
  refine g_aload (k := 6) (q := 49) B X2 dK rfl rfl rfl ?_
  refine g_iload (k := 9) (q := 51) B X2 dK rfl rfl ?_
  refine g_aloadN (k := 0) (q := 52) B X2 dK rfl rfl rfl ?_
  refine g_iloadN (k := 1) (q := 53) B X2 dK rfl rfl ?_
  refine g_aloadN (k := 2) (q := 54) B X2 dK rfl rfl rfl ?_
  refine g_aloadN (k := 3) (q := 55) B X2 dK rfl rfl rfl ?_
  refine g_aconstNull (q := 56) B X2 dK rfl ?_
  refine g_callV (i := 186) (W := 2) (q := 59) (a := b) (argsL := [(.int hsh), (.ref x), (.ref vv), .null]) (rest := [(.int (Int32.ofNat bk)), (.ref t2)]) B X2 (y := yy35) (kw hw 448 rfl) (kw hw 449 rfl) (kw hw 451 rfl) (kw hw 450 rfl) (kw hw 38 rfl) (kw hw 452 rfl) dD rfl E_b (rmNN l Z a0 hw [] b hsh x vv T2.heap n0 ZH) dK rfl rfl (lenOf pd_34 rfl) (Nat.le_of_eq rfl) rfl dD dD dD dD rfl (fun _ L3 T3 X3 hQ3 => ?_)
  obtain ⟨nd3, rfl, Nq3, K3, szq3, Fq3⟩ := hQ3
  have N3 := Fr.app N2 Nq3
  have E_b := E_b.keep K3
  have F_table_b := F_table_b.keep K3 nin0
  have F_size_b := F_size_b.keep K3 nin0
  have F_threshold_b := F_threshold_b.keep K3 nin0
  have F_modCount_b := F_modCount_b.keep K3 nin0
  have G_t2 := G_t2.keep K3 nin0
  have ZH := Nat.le_trans ZH K3.1
  have KK := KK.trans K3 all0
  have E_nd3 := Fq3
  refine g_aastore (q := 60) B X3 rfl G_t2 (Ins.self E_nd3) (own_inn (by omega)) (own_i16 hbk) dK rfl (fun T4 h4 X4 e4 W4 G_t2 => ?_)
  have N4 := Fr.snoc X4 N3 g_t2
  have E_b := E_b.wr W4
  have F_table_b := F_table_b.other W4 (Or.inl ne_b_t2)
  have F_size_b := F_size_b.other W4 (Or.inl ne_b_t2)
  have F_threshold_b := F_threshold_b.other W4 (Or.inl ne_b_t2)
  have F_modCount_b := F_modCount_b.other W4 (Or.inl ne_b_t2)
  have ZH := Nat.le_trans ZH (Nat.le_of_eq W4.size.symm)
  have KK := KK.wr W4 (Or.inr sz_t2)
  refine g_goto (o := 199) (q := 259) B X4 dK dD dD ?_
  refine g_aloadN (k := 0) (q := 260) B X4 dK rfl rfl rfl ?_
  refine g_dup (q := 261) B X4 dK rfl rfl ?_
  refine g_getF (i := 202) (q := 264) B X4 (host := "") (Or.inl (kw hw 468 rfl)) Via.refl e4 F_modCount_b dK rfl (fun T5 X5 e5 => ?_)
  refine g_iconst (o := 1) (q := 265) (v := 1) B X5 dK rfl rfl ?_
  refine g_iadd (q := 266) B X5 dK rfl rfl ?_
  refine g_putF (i := 202) (q := 269) B X5 (host := "") (Or.inl (kw hw 468 rfl)) Via.refl e5 F_modCount_b E_b (Or.inl (kw hw 469 rfl)) (kw hw 37 rfl) (ty := .int) dD rfl rfl dK rfl (fun T6 h6 X6 e6 W6 => ?_)
  have N6 := Fr.snoc X6 N4 g_b
  have F_modCount_b := F_modCount_b.same W6
  have E_b := E_b.wr W6
  have F_table_b := F_table_b.other W6 (Or.inr (slot_ne (Or.inl (kw hw 348 rfl)) (Or.inl (kw hw 469 rfl)) dD (t := (.array (.object zz6))) (t' := .int) dD dD))
  have F_size_b := F_size_b.other W6 (Or.inr (slot_ne (Or.inl (kw hw 471 rfl)) (Or.inl (kw hw 469 rfl)) dD (t := .int) (t' := .int) dD dD))
  have F_threshold_b := F_threshold_b.other W6 (Or.inr (slot_ne (Or.inl (kw hw 445 rfl)) (Or.inl (kw hw 469 rfl)) dD (t := .int) (t' := .int) dD dD))
  have G_t2 := G_t2.other W6 (Ne.symm ne_b_t2)
  have ZH := Nat.le_trans ZH (Nat.le_of_eq W6.size.symm)
  have KK := KK.wr W6 (mi 0 rfl)
  refine g_aloadN (k := 0) (q := 270) B X6 dK rfl rfl rfl ?_
  refine g_dup (q := 271) B X6 dK rfl rfl ?_
  refine g_getF (i := 156) (q := 274) B X6 (host := "") (Or.inl (kw hw 470 rfl)) Via.refl e6 F_size_b dK rfl (fun T7 X7 e7 => ?_)
  refine g_iconst (o := 1) (q := 275) (v := 1) B X7 dK rfl rfl ?_
  refine g_iadd (q := 276) B X7 dK rfl rfl ?_
  refine g_dupX1 (q := 277) B X7 dK rfl rfl rfl ?_
  refine g_putF (i := 156) (q := 280) B X7 (host := "") (Or.inl (kw hw 470 rfl)) Via.refl e7 F_size_b E_b (Or.inl (kw hw 471 rfl)) (kw hw 37 rfl) (ty := .int) dD rfl rfl dK rfl (fun T8 h8 X8 e8 W8 => ?_)
  have N8 := Fr.snoc X8 N6 g_b
  have F_size_b := F_size_b.same W8
  have E_b := E_b.wr W8
  have F_table_b := F_table_b.other W8 (Or.inr (slot_ne (Or.inl (kw hw 348 rfl)) (Or.inl (kw hw 471 rfl)) dD (t := (.array (.object zz6))) (t' := .int) dD dD))
  have F_threshold_b := F_threshold_b.other W8 (Or.inr (slot_ne (Or.inl (kw hw 445 rfl)) (Or.inl (kw hw 471 rfl)) dD (t := .int) (t' := .int) dD dD))
  have F_modCount_b := F_modCount_b.other W8 (Or.inr (slot_ne (Or.inl (kw hw 469 rfl)) (Or.inl (kw hw 471 rfl)) dD (t := .int) (t' := .int) dD dD))
  have G_t2 := G_t2.other W8 (Ne.symm ne_b_t2)
  have ZH := Nat.le_trans ZH (Nat.le_of_eq W8.size.symm)
  have KK := KK.wr W8 (mi 0 rfl)
  refine g_aloadN (k := 0) (q := 281) B X8 dK rfl rfl rfl ?_
  refine g_getF (i := 88) (q := 284) B X8 (host := "") (Or.inl (kw hw 444 rfl)) Via.refl e8 F_threshold_b dK rfl (fun T9 X9 e9 => ?_)
  refine g_icmpYes (cd := .le) (o := 8) (q := 292) B X9 dK ((flt (own_thr (k := 0) (by omega) : ¬ ((12 : Int32) < ((Int32.ofNat [].length) + (1 : Int32))))).2.2.2) dD dD ?_
  refine g_aloadN (k := 0) (q := 293) B X9 dK rfl rfl rfl ?_
  refine g_iload (k := 5) (q := 295) B X9 dK rfl rfl ?_
  refine g_callV (i := 205) (W := 0) (q := 298) (a := b) (argsL := [(.int (1 : Int32))]) (rest := []) B X9 (y := yy36) (kw hw 472 rfl) (kw hw 473 rfl) (kw hw 475 rfl) (kw hw 474 rfl) (kw hw 38 rfl) (kw hw 476 rfl) dD e9 E_b (rmAf l Z a0 hw [] b h8 n0 ZH) dK rfl rfl (lenOf pd_35 rfl) (Nat.le_of_eq rfl) rfl dD dD dD dD rfl (fun _ L10 T10 X10 hQ10 => ?_)
  obtain ⟨rfl, Nq10, e10⟩ := hQ10
  have N10 := Fr.app N8 Nq10
  refine g_aconstNull (q := 299) B X10 dK rfl ?_
  exact g_retA B X10 rfl rfl rfl dK dD dD e10 (by
    rw [own_suc] at F_size_b F_modCount_b
    exact ⟨rfl, N10, KK, t2, Or.inr sz_t2, _, E_b, F_table_b, F_size_b, F_threshold_b, F_modCount_b, G_t2, own_Fput (by omega) P6_Y_b, ne_b_t2⟩)
theorem own_MetM {l : Launch} {Z : State} {y : MethodName} {bs : ByteArray} {ml : Nat} {rt : Option FieldType} {ws : List Jvm.Cond} {rm : Room} {as' : Array Value} {h0 : Heap} {Q Q' : Option Value → Heap → List Loc → Prop} {C K : Nat} (hM : own_Met l Z y bs ml rt ws rm as' h0 Q C K) (hq : ∀ v h L, Q v h L → Q' v h L) : own_Met l Z y bs ml rt ws rm as' h0 Q' C K :=
  MetFree.imp hM (fun _ _ _ _ ⟨v, L, h1, h2, h3⟩ => ⟨v, L, h1, hq _ _ _ h2, h3⟩)
def QrmPV2 (Z : State) (b tb : Addr) (st : List Nat) (F : Nat → Value) (hsh : Int32) (x vv : Addr) (bk : Nat) (h0 : Heap) (n0 : Nat) (v : Option Value) (h : Heap) (L : List Loc) : Prop := v = some .null ∧ Fr n0 L ∧ Keep h0 h [b, tb] ∧ ∃ tb' : Addr, (tb' = tb ∨ h0.size ≤ tb') ∧ ∃ F' : Nat → Value, own_M1 Z h b tb' (bk :: st) F'
theorem rmPV2 (l : Launch) (Z : State) (a0 : Array Value) (hw : own_H a0 Z) (ws : List Jvm.Cond) (b tb : Addr) (st : List Nat) (F : Nat → Value) (hsh : Int32) (x vv : Addr) (bk : Nat) (h0 : Heap) (n0 : Nat) (ZH : n0 ≤ h0.size) (Y_b : own_M1 Z h0 b tb st F) (g_b : n0 ≤ b) (g_tb : n0 ≤ tb) (hb : ((15 : Int32) &&& hsh) = Int32.ofNat bk) (hbk : bk < 16) (hst : st.length < 11) (hnb : bk ∉ st) :
    own_Met l Z yy25 jdk_69_method_16_code 13 (some (.object zz9)) ws (own_R 3 2 20 47) #[(.ref b), (.int hsh), (.ref x), (.ref vv), (.int (0 : Int32)), (.int (1 : Int32))] h0 (QrmPV2 Z b tb st F hsh x vv bk h0 n0) 2 20 := by
  refine own_hd (fr := #[.val (.ref b), .val (.int hsh), .val (.ref x), .val (.ref vv), .val (.int (0 : Int32)), .val (.int (1 : Int32)), .unset, .unset, .unset, .unset, .unset, .unset, .unset]) (plainFor_of_name pn_7) (fun {p e s m below meth c s₁} B X0 e0 => ?_)
  have N0 := Fr.nil n0
  have KK := Keep.refl h0 [b, tb]
  have ne_b_tb := Y_b.2.2.2.2.2.2.2
  obtain ⟨E_b, F_table_b, F_size_b, F_threshold_b, F_modCount_b, G_tb, P6_Y_b, ne_b_tb⟩ := Y_b
  refine g_aloadN (k := 0) (q := 1) B X0 dK rfl rfl rfl ?_
  refine g_getF (i := 105) (q := 4) B X0 (host := "") (Or.inl (kw hw 347 rfl)) Via.refl e0 F_table_b dK rfl (fun T1 X1 e1 => ?_)
  refine g_dup (q := 5) B X1 dK rfl rfl ?_
  refine g_astore (k := 6) (q := 7) (l' := #[.val (.ref b), .val (.int hsh), .val (.ref x), .val (.ref vv), .val (.int (0 : Int32)), .val (.int (1 : Int32)), .val (.ref tb), .unset, .unset, .unset, .unset, .unset, .unset]) B X1 dK rfl rfl rfl ?_
  refine g_ifnullNo (o := 12) (q := 10) B X1 dK rfl ?_
  refine g_aload (k := 6) (q := 12) B X1 dK rfl rfl rfl ?_
  refine g_alen (q := 13) B X1 e1 G_tb.arf dK rfl ?_
  refine g_dup (q := 14) B X1 dK rfl rfl ?_
  refine g_istore (k := 8) (q := 16) (l' := #[.val (.ref b), .val (.int hsh), .val (.ref x), .val (.ref vv), .val (.int (0 : Int32)), .val (.int (1 : Int32)), .val (.ref tb), .unset, .val (.int (16 : Int32)), .unset, .unset, .unset, .unset]) B X1 dK rfl rfl ?_
  refine g_ifYes (cd := .ne) (o := 13) (q := 29) B X1 dK (((if0 _ _).trans (feq (by decide : ¬ ((16 : Int32) = (0 : Int32)))).2)) dD dD ?_
  refine g_aload (k := 6) (q := 31) B X1 dK rfl rfl rfl ?_
  refine g_iload (k := 8) (q := 33) B X1 dK rfl rfl ?_
  refine g_iconst (o := 1) (q := 34) (v := 1) B X1 dK rfl rfl ?_
  refine g_isub (q := 35) (v := (15 : Int32)) B X1 dK rfl rfl ?_
  refine g_iloadN (k := 1) (q := 36) B X1 dK rfl rfl ?_
  refine g_iand (q := 37) B X1 dK rfl rfl ?_
  rw [hb]
  refine g_dup (q := 38) B X1 dK rfl rfl ?_
  refine g_istore (k := 9) (q := 40) (l' := #[.val (.ref b), .val (.int hsh), .val (.ref x), .val (.ref vv), .val (.int (0 : Int32)), .val (.int (1 : Int32)), .val (.ref tb), .unset, .val (.int (16 : Int32)), .val (.int (Int32.ofNat bk)), .unset, .unset, .unset]) B X1 dK rfl rfl ?_
  refine g_aaload (q := 41) (u := .null) B X1 rfl e1 G_tb.arf (own_inn (by omega)) (own_i16 hbk) (by rw [own_icl (by omega)]; exact P6_Y_b bk hbk hnb) dK rfl ?_
  refine g_dup (q := 42) B X1 dK rfl rfl ?_
  refine g_astore (k := 7) (q := 44) (l' := #[.val (.ref b), .val (.int hsh), .val (.ref x), .val (.ref vv), .val (.int (0 : Int32)), .val (.int (1 : Int32)), .val (.ref tb), .val .null, .val (.int (16 : Int32)), .val (.int (Int32.ofNat bk)), .unset, .unset, .unset]) B X1 dK rfl rfl rfl ?_
  refine g_ifnonnullNo (o := 19) (q := 47) B X1 dK rfl ?_
  refine g_aload (k := 6) (q := 49) B X1 dK rfl rfl rfl ?_
  refine g_iload (k := 9) (q := 51) B X1 dK rfl rfl ?_
  refine g_aloadN (k := 0) (q := 52) B X1 dK rfl rfl rfl ?_
  refine g_iloadN (k := 1) (q := 53) B X1 dK rfl rfl ?_
  refine g_aloadN (k := 2) (q := 54) B X1 dK rfl rfl rfl ?_
  refine g_aloadN (k := 3) (q := 55) B X1 dK rfl rfl rfl ?_
  refine g_aconstNull (q := 56) B X1 dK rfl ?_
  refine g_callV (i := 186) (W := 2) (q := 59) (a := b) (argsL := [(.int hsh), (.ref x), (.ref vv), .null]) (rest := [(.int (Int32.ofNat bk)), (.ref tb)]) B X1 (y := yy35) (kw hw 448 rfl) (kw hw 449 rfl) (kw hw 451 rfl) (kw hw 450 rfl) (kw hw 38 rfl) (kw hw 452 rfl) dD e1 E_b (rmNN l Z a0 hw [] b hsh x vv h0 n0 ZH) dK rfl rfl (lenOf pd_34 rfl) (Nat.le_of_eq rfl) rfl dD dD dD dD rfl (fun _ L2 T2 X2 hQ2 => ?_)
  obtain ⟨nd2, rfl, Nq2, K2, szq2, Fq2⟩ := hQ2
  have N2 := Fr.app N0 Nq2
  have E_b := E_b.keep K2
  have F_table_b := F_table_b.keep K2 nin0
  have F_size_b := F_size_b.keep K2 nin0
  have F_threshold_b := F_threshold_b.keep K2 nin0
  have F_modCount_b := F_modCount_b.keep K2 nin0
  have G_tb := G_tb.keep K2 nin0
  have ZH := Nat.le_trans ZH K2.1
  have KK := KK.trans K2 all0
  have E_nd2 := Fq2
  refine g_aastore (q := 60) B X2 rfl G_tb (Ins.self E_nd2) (own_inn (by omega)) (own_i16 hbk) dK rfl (fun T3 h3 X3 e3 W3 G_tb => ?_)
  have N3 := Fr.snoc X3 N2 g_tb
  have E_b := E_b.wr W3
  have F_table_b := F_table_b.other W3 (Or.inl ne_b_tb)
  have F_size_b := F_size_b.other W3 (Or.inl ne_b_tb)
  have F_threshold_b := F_threshold_b.other W3 (Or.inl ne_b_tb)
  have F_modCount_b := F_modCount_b.other W3 (Or.inl ne_b_tb)
  have ZH := Nat.le_trans ZH (Nat.le_of_eq W3.size.symm)
  have KK := KK.wr W3 (mi 1 rfl)
  refine g_goto (o := 199) (q := 259) B X3 dK dD dD ?_
  refine g_aloadN (k := 0) (q := 260) B X3 dK rfl rfl rfl ?_
  refine g_dup (q := 261) B X3 dK rfl rfl ?_
  refine g_getF (i := 202) (q := 264) B X3 (host := "") (Or.inl (kw hw 468 rfl)) Via.refl e3 F_modCount_b dK rfl (fun T4 X4 e4 => ?_)
  refine g_iconst (o := 1) (q := 265) (v := 1) B X4 dK rfl rfl ?_
  refine g_iadd (q := 266) B X4 dK rfl rfl ?_
  refine g_putF (i := 202) (q := 269) B X4 (host := "") (Or.inl (kw hw 468 rfl)) Via.refl e4 F_modCount_b E_b (Or.inl (kw hw 469 rfl)) (kw hw 37 rfl) (ty := .int) dD rfl rfl dK rfl (fun T5 h5 X5 e5 W5 => ?_)
  have N5 := Fr.snoc X5 N3 g_b
  have F_modCount_b := F_modCount_b.same W5
  have E_b := E_b.wr W5
  have F_table_b := F_table_b.other W5 (Or.inr (slot_ne (Or.inl (kw hw 348 rfl)) (Or.inl (kw hw 469 rfl)) dD (t := (.array (.object zz6))) (t' := .int) dD dD))
  have F_size_b := F_size_b.other W5 (Or.inr (slot_ne (Or.inl (kw hw 471 rfl)) (Or.inl (kw hw 469 rfl)) dD (t := .int) (t' := .int) dD dD))
  have F_threshold_b := F_threshold_b.other W5 (Or.inr (slot_ne (Or.inl (kw hw 445 rfl)) (Or.inl (kw hw 469 rfl)) dD (t := .int) (t' := .int) dD dD))
  have G_tb := G_tb.other W5 (Ne.symm ne_b_tb)
  have ZH := Nat.le_trans ZH (Nat.le_of_eq W5.size.symm)
  have KK := KK.wr W5 (mi 0 rfl)
  refine g_aloadN (k := 0) (q := 270) B X5 dK rfl rfl rfl ?_
  refine g_dup (q := 271) B X5 dK rfl rfl ?_
  refine g_getF (i := 156) (q := 274) B X5 (host := "") (Or.inl (kw hw 470 rfl)) Via.refl e5 F_size_b dK rfl (fun T6 X6 e6 => ?_)
  refine g_iconst (o := 1) (q := 275) (v := 1) B X6 dK rfl rfl ?_
  refine g_iadd (q := 276) B X6 dK rfl rfl ?_
  refine g_dupX1 (q := 277) B X6 dK rfl rfl rfl ?_
  refine g_putF (i := 156) (q := 280) B X6 (host := "") (Or.inl (kw hw 470 rfl)) Via.refl e6 F_size_b E_b (Or.inl (kw hw 471 rfl)) (kw hw 37 rfl) (ty := .int) dD rfl rfl dK rfl (fun T7 h7 X7 e7 W7 => ?_)
  have N7 := Fr.snoc X7 N5 g_b
  have F_size_b := F_size_b.same W7
  have E_b := E_b.wr W7
  have F_table_b := F_table_b.other W7 (Or.inr (slot_ne (Or.inl (kw hw 348 rfl)) (Or.inl (kw hw 471 rfl)) dD (t := (.array (.object zz6))) (t' := .int) dD dD))
  have F_threshold_b := F_threshold_b.other W7 (Or.inr (slot_ne (Or.inl (kw hw 445 rfl)) (Or.inl (kw hw 471 rfl)) dD (t := .int) (t' := .int) dD dD))
  have F_modCount_b := F_modCount_b.other W7 (Or.inr (slot_ne (Or.inl (kw hw 469 rfl)) (Or.inl (kw hw 471 rfl)) dD (t := .int) (t' := .int) dD dD))
  have G_tb := G_tb.other W7 (Ne.symm ne_b_tb)
  have ZH := Nat.le_trans ZH (Nat.le_of_eq W7.size.symm)
  have KK := KK.wr W7 (mi 0 rfl)
  refine g_aloadN (k := 0) (q := 281) B X7 dK rfl rfl rfl ?_
  refine g_getF (i := 88) (q := 284) B X7 (host := "") (Or.inl (kw hw 444 rfl)) Via.refl e7 F_threshold_b dK rfl (fun T8 X8 e8 => ?_)
  refine g_icmpYes (cd := .le) (o := 8) (q := 292) B X8 dK ((flt (own_thr (by omega) : ¬ ((12 : Int32) < ((Int32.ofNat st.length) + (1 : Int32))))).2.2.2) dD dD ?_
  refine g_aloadN (k := 0) (q := 293) B X8 dK rfl rfl rfl ?_
  refine g_iload (k := 5) (q := 295) B X8 dK rfl rfl ?_
  refine g_callV (i := 205) (W := 0) (q := 298) (a := b) (argsL := [(.int (1 : Int32))]) (rest := []) B X8 (y := yy36) (kw hw 472 rfl) (kw hw 473 rfl) (kw hw 475 rfl) (kw hw 474 rfl) (kw hw 38 rfl) (kw hw 476 rfl) dD e8 E_b (rmAf l Z a0 hw [] b h7 n0 ZH) dK rfl rfl (lenOf pd_35 rfl) (Nat.le_of_eq rfl) rfl dD dD dD dD rfl (fun _ L9 T9 X9 hQ9 => ?_)
  obtain ⟨rfl, Nq9, e9⟩ := hQ9
  have N9 := Fr.app N7 Nq9
  refine g_aconstNull (q := 299) B X9 dK rfl ?_
  exact g_retA B X9 rfl rfl rfl dK dD dD e9 (by
    rw [own_suc] at F_size_b F_modCount_b
    exact ⟨rfl, N9, KK, tb, Or.inl rfl, _, E_b, F_table_b, F_size_b, F_threshold_b, F_modCount_b, G_tb, own_Fput (by omega) P6_Y_b, ne_b_tb⟩)
def QrmPV (Z : State) (b tb : Addr) (st : List Nat) (hsh : Int32) (x vv : Addr) (bk : Nat) (h0 : Heap) (n0 : Nat) (v : Option Value) (h : Heap) (L : List Loc) : Prop := v = some .null ∧ Fr n0 L ∧ Keep h0 h [b, tb] ∧ ∃ tb' : Addr, (tb' = tb ∨ h0.size ≤ tb') ∧ own_Mp Z h b tb' (bk :: st)
theorem rmPV (l : Launch) (Z : State) (a0 : Array Value) (hw : own_H a0 Z) (ws : List Jvm.Cond) (b tb : Addr) (st : List Nat) (hsh : Int32) (x vv : Addr) (bk : Nat) (h0 : Heap) (n0 : Nat) (Z0 : n0 ≤ h0.size) (Y_b : own_Mp Z h0 b tb st) (g_b : n0 ≤ b) (g_tb : n0 ≤ tb) (hb : ((15 : Int32) &&& hsh) = Int32.ofNat bk) (hbk : bk < 16) (hst : st.length < 11) (hnb : bk ∉ st) :
    own_Met l Z yy25 jdk_69_method_16_code 13 (some (.object zz9)) ws (own_R 3 2 20 47) #[(.ref b), (.int hsh), (.ref x), (.ref vv), (.int (0 : Int32)), (.int (1 : Int32))] h0 (QrmPV Z b tb st hsh x vv bk h0 n0) 2 20 := by
  rcases Y_b with ⟨q, r, Y⟩ | ⟨q, F, Y⟩
  · subst q r
    exact own_MetM (rmPV0 l Z a0 hw ws tb hsh x vv bk h0 n0 Z0 Y g_b hb hbk) (fun v h L ⟨q1, q2, q3, tb', q4, F', q5⟩ => ⟨q1, q2, own_KeepM q3 (fun z hz => by rw [List.mem_singleton.mp hz]; exact List.mem_cons_self ..), tb', q4, Or.inr ⟨List.cons_ne_nil _ _, F', q5⟩⟩)
  · exact own_MetM (rmPV2 l Z a0 hw ws b tb st F hsh x vv bk h0 n0 Z0 Y g_b g_tb hb hbk hst hnb) (fun v h L ⟨q1, q2, q3, tb', q4, F', q5⟩ => ⟨q1, q2, q3, tb', q4, Or.inr ⟨List.cons_ne_nil _ _, F', q5⟩⟩)
theorem pd_37 : parseMethodDescriptor "(ILjava/lang/Object;Ljava/lang/Object;ZZ)Ljava/lang/Object;" = some ⟨[.int, (.object "java/lang/Object"), (.object "java/lang/Object"), .boolean, .boolean], some (.object "java/lang/Object")⟩ := by decide +kernel
def QrmPt (Z : State) (cz : Int32) (fv : Value) (ev dg ca : Addr) (cg : Nat → Addr) (b tb : Addr) (st : List Nat) (x tx : Addr) (cs : List Int32) (hv : Int32) (bk : Nat) (vv : Addr) (h0 : Heap) (n0 : Nat) (v : Option Value) (h : Heap) (L : List Loc) : Prop := v = some .null ∧ Fr n0 L ∧ Keep h0 h [b, tb, x] ∧ ∃ tb' : Addr, (tb' = tb ∨ h0.size ≤ tb') ∧ own_Mp Z h b tb' (bk :: st)
theorem rmPt (l : Launch) (Z : State) (a0 : Array Value) (hw : own_H a0 Z) (ws : List Jvm.Cond) (cz : Int32) (fv : Value) (ev dg ca : Addr) (cg : Nat → Addr) (b tb : Addr) (st : List Nat) (x tx : Addr) (cs : List Int32) (hv : Int32) (bk : Nat) (vv : Addr) (h0 : Heap) (n0 : Nat) (ZH : n0 ≤ h0.size) (OO : Old Z n0 h0) (HW : own_W Z cz fv ev dg ca cg) (Y_b : own_Mp Z h0 b tb st) (Y_x : own_Sk Z h0 x tx cs hv) (ne_x_b : x ≠ b) (ne_tx_b : tx ≠ b) (ne_x_tb : x ≠ tb) (ne_tx_tb : tx ≠ tb) (g_x : n0 ≤ x) (ha : own_as cs) (hn : cs.length < 100) (h1 : 1 < cs.length) (h0h : ¬ (own_hs 0 cs) = (0 : Int32)) (hcase : hv = 0 ∨ hv = (own_hs 0 cs)) (hb : ((15 : Int32) &&& ((own_hs 0 cs) ^^^ (((own_hs 0 cs).toUInt32 >>> ((16 : Int32) &&& 31).toUInt32).toInt32))) = Int32.ofNat bk) (hbk : bk < 16) (hnb : bk ∉ st) (g_b : n0 ≤ b) (g_tb : n0 ≤ tb) (hst : st.length < 11) :
    own_Met l Z yy37 jdk_69_method_15_code 3 (some (.object zz9)) ws (own_R 5 2 20 72) #[(.ref b), (.ref x), (.ref vv)] h0 (QrmPt Z cz fv ev dg ca cg b tb st x tx cs hv bk vv h0 n0) 2 20 := by
  refine own_hd (fr := #[.val (.ref b), .val (.ref x), .val (.ref vv)]) (plainFor_of_name pn_7) (fun {p e s m below meth c s₁} B X0 e0 => ?_)
  have N0 := Fr.nil n0
  have KK := Keep.refl h0 [b, tb, x]
  refine g_aloadN (k := 0) (q := 1) B X0 dK rfl rfl rfl ?_
  refine g_aloadN (k := 1) (q := 2) B X0 dK rfl rfl rfl ?_
  refine g_callS (i := 149) (W := 1) (q := 5) (argsL := [(.ref x)]) (rest := [(.ref b)]) B X0 (y := yy33) (kw hw 409 rfl) (kw hw 410 rfl) (kw hw 38 rfl) (kw hw 411 rfl) dD e0 (rmHs l Z a0 hw [] cz fv ev dg ca cg x tx cs hv h0 n0 ZH OO HW Y_x g_x ha hn h1 h0h hcase) dK rfl rfl (lenOf pd_31 rfl) (Nat.le_of_eq rfl) rfl dD dD dD dD rfl (fun _ L1 T1 X1 hQ1 => ?_)
  obtain ⟨rfl, Nq1, K1, Yq1_0⟩ := hQ1
  have N1 := Fr.app N0 Nq1
  have Y_b := Y_b.keep K1 (ninS (Ne.symm ne_x_b) nin0) (ninS (Ne.symm ne_x_tb) nin0)
  have ZH := Nat.le_trans ZH K1.1
  have KK := KK.trans K1 (allS (mi 2 rfl) all0)
  refine g_aloadN (k := 1) (q := 6) B X1 dK rfl rfl rfl ?_
  refine g_aloadN (k := 2) (q := 7) B X1 dK rfl rfl rfl ?_
  refine g_iconst (o := 0) (q := 8) (v := 0) B X1 dK rfl rfl ?_
  refine g_iconst (o := 1) (q := 9) (v := 1) B X1 dK rfl rfl ?_
  have kkq := KK.1
  refine g_callV (i := 152) (W := 0) (q := 12) (a := b) (argsL := [(.int ((own_hs 0 cs) ^^^ (((own_hs 0 cs).toUInt32 >>> ((16 : Int32) &&& 31).toUInt32).toInt32))), (.ref x), (.ref vv), (.int (0 : Int32)), (.int (1 : Int32))]) (rest := []) B X1 (y := yy25) (kw hw 434 rfl) (kw hw 435 rfl) (kw hw 437 rfl) (kw hw 436 rfl) (kw hw 38 rfl) (kw hw 438 rfl) dD rfl Y_b.exa (rmPV l Z a0 hw [] b tb st ((own_hs 0 cs) ^^^ (((own_hs 0 cs).toUInt32 >>> ((16 : Int32) &&& 31).toUInt32).toInt32)) x vv bk T1.heap n0 ZH Y_b g_b g_tb hb hbk hst hnb) dK rfl rfl (lenOf pd_37 rfl) (Nat.le_of_eq rfl) rfl dD dD dD dD rfl (fun _ L2 T2 X2 hQ2 => ?_)
  obtain ⟨rfl, Nq2, K2, tbn, cq, Yq⟩ := hQ2
  have N2 := Fr.app N1 Nq2
  have KK := KK.trans K2 (allS (mi 0 rfl) (allS (mi 1 rfl) all0))
  exact g_retA B X2 rfl rfl rfl dK dD dD rfl (by
    exact ⟨rfl, N2, KK, tbn, cq.imp id (fun z => Nat.le_trans kkq z), Yq⟩)
def QrmVO (Z : State) (cz : Int32) (fv : Value) (ev dg ca : Addr) (cg : Nat → Addr) (k9 : Nat) (h0 : Heap) (n0 : Nat) (v : Option Value) (h : Heap) (L : List Loc) : Prop := v = some (.ref (cg (k9 + 128))) ∧ Fr n0 L ∧ h = h0
theorem rmVO (l : Launch) (Z : State) (a0 : Array Value) (hw : own_H a0 Z) (ws : List Jvm.Cond) (cz : Int32) (fv : Value) (ev dg ca : Addr) (cg : Nat → Addr) (k9 : Nat) (h0 : Heap) (n0 : Nat) (ZH : n0 ≤ h0.size) (OO : Old Z n0 h0) (HW : own_W Z cz fv ev dg ca cg) (hk : k9 < 128) :
    own_Met l Z yy38 jdk_33_method_22_code 1 (some (.object zz8)) ws (own_R 0 0 0 0) #[(.int (Int32.ofNat k9))] h0 (QrmVO Z cz fv ev dg ca cg k9 h0 n0) 0 0 := by
  refine own_hd (fr := #[.val (.int (Int32.ofNat k9))]) (plainFor_of_name pn_16) (fun {p e s m below meth c s₁} B X0 e0 => ?_)
  have N0 := Fr.nil n0
  have HW0 := HW
  obtain ⟨SC, hcz, SF, hfv, SE, SD, GD, SH, SK2, GC, hcg⟩ := HW
  refine g_iloadN (k := 0) (q := 1) B X0 dK rfl rfl ?_
  refine g_bipush (o := -128) (q := 3) (v := -128) B X0 dK rfl rfl ?_
  refine g_icmpNo (cd := .lt) (o := 20) (q := 6) B X0 dK ((flt (own_n128 hk : ¬ ((Int32.ofNat k9) < (-128 : Int32)))).1) rfl ?_
  refine g_iloadN (k := 0) (q := 7) B X0 dK rfl rfl ?_
  refine g_getS (i := 191) (q := 10) B X0 (host := "") (Or.inl (kw hw 398 rfl)) Via.refl e0 (SH.ext OO.2) dK rfl (fun T1 X1 e1 => ?_)
  refine g_icmpNo (cd := .gt) (o := 13) (q := 13) B X1 dK ((flt (own_n127 hk : ¬ ((127 : Int32) < (Int32.ofNat k9)))).2.2.1) rfl ?_
  refine g_getS (i := 195) (q := 16) B X1 (host := "") (Or.inl (kw hw 400 rfl)) Via.refl e1 (SK2.ext OO.2) dK rfl (fun T2 X2 e2 => ?_)
  refine g_iloadN (k := 0) (q := 17) B X2 dK rfl rfl ?_
  refine g_sipush (o := 128) (q := 20) (v := 128) B X2 dK rfl rfl ?_
  refine g_iadd (q := 21) B X2 dK rfl rfl ?_
  rw [own_p128]
  refine g_aaload (q := 22) (u := (.ref (cg (k9 + 128)))) B X2 rfl e2 (GC.ext OO.2) (own_inn (by omega)) ((own_ilt (j := k9 + 128) (k := 256) (by omega) (by omega)).mpr (by omega)) (by rw [own_icl (by omega)]) dK rfl ?_
  exact g_retA B X2 rfl rfl rfl dK dD dD e2 (by
    exact ⟨rfl, N0, rfl⟩)
def QrmIV (Z : State) (b : Addr) (zz : Int32) (h0 : Heap) (n0 : Nat) (v : Option Value) (h : Heap) (L : List Loc) : Prop := v = some (.int zz) ∧ Fr n0 L ∧ h = h0
theorem rmIV (l : Launch) (Z : State) (a0 : Array Value) (hw : own_H a0 Z) (ws : List Jvm.Cond) (b : Addr) (zz : Int32) (h0 : Heap) (n0 : Nat) (ZH : n0 ≤ h0.size) (E_b : Exa Z h0 b zz8) (F_value_b : Fld Z h0 b zz8 "value" "I" (.int zz)) :
    own_Met l Z yy39 jdk_33_method_27_code 1 (some .int) ws (own_R 0 0 0 0) #[(.ref b)] h0 (QrmIV Z b zz h0 n0) 0 0 := by
  refine own_hd (fr := #[.val (.ref b)]) (plainFor_of_name pn_16) (fun {p e s m below meth c s₁} B X0 e0 => ?_)
  have N0 := Fr.nil n0
  refine g_aloadN (k := 0) (q := 1) B X0 dK rfl rfl rfl ?_
  refine g_getF (i := 205) (q := 4) B X0 (host := "") (Or.inl (kw hw 482 rfl)) Via.refl e0 F_value_b dK rfl (fun T1 X1 e1 => ?_)
  exact g_retI B X1 dK dD dD e1 (by
    exact ⟨rfl, N0, rfl⟩)
theorem pd_38 : parseMethodDescriptor "(I)C" = some ⟨[.int], some .char⟩ := by decide +kernel
theorem tnU {p : Program} {l : Launch} {e : Env} {s : State} {m : MethodId} {args : Array Value} {below : List Frame} {meth : Method} {c : Code} {Z : State} {a0 : Array Value} {n0 : Nat} {nm0 : String} {P : State → Outcome → Prop} {T0 : State} {locs : List Loc} {h0 : Heap} {cz : Int32} {fv : Value} {ev : Addr} {dg : Addr} {ca : Addr} {cg : Nat → Addr} {b : Addr} {x : Addr} {tx : Addr} {ks : List Int32} {d : Addr} {td : Addr} {ds : List Int32} {vi : Int32} {c4 : Int32} {i : Nat} (B : own_C p s m c Z zz0 prog_81_method_8_code 5 meth none nm0) (X0 : Stand p l e (own_R 4 2 258 53) s m args below meth c T0 locs 2 258) (hw : own_H a0 Z) (e0 : T0.heap = h0) (N0 : Fr n0 locs) (Z0 : n0 ≤ h0.size) (OO : Old Z n0 h0) (HW : own_W Z cz fv ev dg ca cg) (Y_x : own_St Z h0 x tx ks) (Y_d : own_By Z h0 d td ds) (ne_d_x : d ≠ x) (ne_d_tx : d ≠ tx) (ne_td_x : td ≠ x) (ne_td_tx : td ≠ tx) (g_d : n0 ≤ d) (g_td : n0 ≤ td) (hak : own_as ks) (hkl : ks.length < 100) (Q : ¬ vi < 0 ∧ vi < (Int32.ofNat ks.length) ∧ vi.toNatClampNeg = i ∧ i < ks.length) (hn : ds.length < 256)
    (K : ∀ (T' : State) (h' : Heap) (locs' : List Loc), Stand p l e (own_R 4 2 258 53) s m args below meth c T' locs' 2 258 → T'.heap = h' → Fr n0 locs' → Keep h0 h' [d, td] → Old Z n0 h' → own_By Z h' d td (ds ++ [own_L ks i]) → own_St Z h' x tx ks → own_Go p.tables e below P (T'.setTop (mkF m 10 #[.val (.ref b), .val (.ref x), .val (.ref d), .val (.int (vi + (1 : Int32))), .val (.int (own_L ks i))] []))) : own_Go p.tables e below P (T0.setTop (mkF m 10 #[.val (.ref b), .val (.ref x), .val (.ref d), .val (.int vi), .val (.int c4)] [])) := by
  have ZH := Z0
  have KK := Keep.refl h0 [d, td]
  refine g_iloadN (k := 3) (q := 11) B X0 dK rfl rfl ?_
  refine g_aloadN (k := 1) (q := 12) B X0 dK rfl rfl rfl ?_
  refine g_callV (i := 31) (W := 1) (q := 15) (a := x) (argsL := []) (rest := [(.int vi)]) B X0 (y := yy6) (kw hw 363 rfl) (kw hw 258 rfl) (kw hw 260 rfl) (kw hw 259 rfl) (kw hw 4 rfl) (kw hw 261 rfl) dD e0 Y_x.1 (rmLN l Z a0 hw [] cz fv ev dg ca cg x tx ks h0 n0 ZH OO HW Y_x) dK rfl rfl (lenOf pd_3 rfl) (Nat.le_of_eq rfl) rfl dD dD dD dD rfl (fun _ L1 T1 X1 hQ1 => ?_)
  obtain ⟨rfl, Nq1, e1⟩ := hQ1
  have N1 := Fr.app N0 Nq1
  refine g_icmpNo (cd := .ge) (o := 117) (q := 18) B X1 dK ((tlt (Q.2.1 : vi < (Int32.ofNat ks.length))).2.1) rfl ?_
  refine g_aloadN (k := 1) (q := 19) B X1 dK rfl rfl rfl ?_
  refine g_iloadN (k := 3) (q := 20) B X1 dK rfl rfl ?_
  refine g_callV (i := 37) (W := 0) (q := 23) (a := x) (argsL := [(.int vi)]) (rest := []) B X1 (y := yy29) (kw hw 364 rfl) (kw hw 365 rfl) (kw hw 367 rfl) (kw hw 366 rfl) (kw hw 4 rfl) (kw hw 368 rfl) dD e1 Y_x.1 (rmCA l Z a0 hw [] cz fv ev dg ca cg x tx ks vi h0 n0 ZH OO HW Y_x Q.1 Q.2.1 hak) dK rfl rfl (lenOf pd_38 rfl) (Nat.le_of_eq rfl) rfl dD dD dD dD rfl (fun _ L2 T2 X2 hQ2 => ?_)
  obtain ⟨rfl, Nq2, e2⟩ := hQ2
  have N2 := Fr.app N1 Nq2
  rw [Q.2.2.1]
  refine g_istore (k := 4) (q := 25) (l' := #[.val (.ref b), .val (.ref x), .val (.ref d), .val (.int vi), .val (.int (own_L ks i))]) B X2 dK rfl rfl ?_
  refine g_iload (k := 4) (q := 27) B X2 dK rfl rfl ?_
  refine g_iconst (o := 1) (q := 28) (v := 1) B X2 dK rfl rfl ?_
  refine g_icmpNo (cd := .lt) (o := 19) (q := 31) B X2 dK ((flt (own_ch1 hak Q.2.2.2 : ¬ ((own_L ks i) < (1 : Int32)))).1) rfl ?_
  refine g_iload (k := 4) (q := 33) B X2 dK rfl rfl ?_
  refine g_bipush (o := 127) (q := 35) (v := 127) B X2 dK rfl rfl ?_
  refine g_icmpNo (cd := .gt) (o := 12) (q := 38) B X2 dK ((flt (own_ch2 hak i : ¬ ((127 : Int32) < (own_L ks i)))).2.2.1) rfl ?_
  refine g_aloadN (k := 2) (q := 39) B X2 dK rfl rfl rfl ?_
  refine g_iload (k := 4) (q := 41) B X2 dK rfl rfl ?_
  refine g_callV (i := 23) (W := 0) (q := 44) (a := d) (argsL := [(.int (own_L ks i))]) (rest := []) B X2 (y := yy2) (kw hw 136 rfl) (kw hw 115 rfl) (kw hw 117 rfl) (kw hw 116 rfl) (kw hw 27 rfl) (kw hw 118 rfl) dD e2 Y_d.1 (rmU1 l Z a0 hw [] d td ds (own_L ks i) h0 n0 ZH Y_d g_d g_td (by first | omega | (simp only [List.length_append, List.length_cons, List.length_nil, own_u2, own_u4] at *; omega))) dK rfl rfl (lenOf pd_0 rfl) (Nat.le_of_eq rfl) rfl dD dD dD dD rfl (fun _ L3 T3 X3 hQ3 => ?_)
  obtain ⟨rfl, Nq3, K3, Yq3_0⟩ := hQ3
  have N3 := Fr.app N2 Nq3
  have Y_x := Y_x.keep K3 (ninS (Ne.symm ne_d_x) (ninS (Ne.symm ne_td_x) nin0)) (ninS (Ne.symm ne_d_tx) (ninS (Ne.symm ne_td_tx) nin0))
  have KK := KK.trans K3 (allS (mi 0 rfl) (allS (mi 1 rfl) all0))
  have OO := OO.keep K3 (allS g_d (allS g_td all0))
  have Y_d := Yq3_0
  refine g_goto (o := 82) (q := 126) B X3 dK dD dD ?_
  refine g_iinc (k := 3) (o := 1) (q := 129) (v := (vi + (1 : Int32))) (l' := #[.val (.ref b), .val (.ref x), .val (.ref d), .val (.int (vi + (1 : Int32))), .val (.int (own_L ks i))]) B X3 dK rfl rfl rfl rfl ?_
  refine g_goto (o := -119) (q := 10) B X3 dK dD dD ?_
  exact K _ _ _ X3 rfl N3 KK OO (by have q := Y_d; rw [own_b8get hak i] at q; exact q) Y_x
theorem exU {p : Program} {l : Launch} {e : Env} {s : State} {m : MethodId} {args : Array Value} {below : List Frame} {meth : Method} {c : Code} {Z : State} {a0 : Array Value} {n0 : Nat} {nm0 : String} {P : State → Outcome → Prop} {T0 : State} {locs : List Loc} {h0 : Heap} {cz : Int32} {fv : Value} {ev : Addr} {dg : Addr} {ca : Addr} {cg : Nat → Addr} {b : Addr} {x : Addr} {tx : Addr} {ks : List Int32} {d : Addr} {td : Addr} {ds : List Int32} {vi : Int32} {c4 : Int32} {i : Nat} (B : own_C p s m c Z zz0 prog_81_method_8_code 5 meth none nm0) (X0 : Stand p l e (own_R 4 2 258 53) s m args below meth c T0 locs 2 258) (hw : own_H a0 Z) (e0 : T0.heap = h0) (N0 : Fr n0 locs) (Z0 : n0 ≤ h0.size) (OO : Old Z n0 h0) (HW : own_W Z cz fv ev dg ca cg) (Y_x : own_St Z h0 x tx ks) (Y_d : own_By Z h0 d td ds) (ne_d_x : d ≠ x) (ne_d_tx : d ≠ tx) (ne_td_x : td ≠ x) (ne_td_tx : td ≠ tx) (g_d : n0 ≤ d) (g_td : n0 ≤ td) (hak : own_as ks) (hkl : ks.length < 100) (hv : ¬ vi < (Int32.ofNat ks.length))
    (K : ∀ (T' : State) (h' : Heap) (locs' : List Loc), Stand p l e (own_R 4 2 258 53) s m args below meth c T' locs' 2 258 → T'.heap = h' → Fr n0 locs' → h' = h0 → own_Go p.tables e below P (T'.setTop (mkF m 132 #[.val (.ref b), .val (.ref x), .val (.ref d), .val (.int vi), .val (.int c4)] []))) : own_Go p.tables e below P (T0.setTop (mkF m 10 #[.val (.ref b), .val (.ref x), .val (.ref d), .val (.int vi), .val (.int c4)] [])) := by
  have ZH := Z0
  refine g_iloadN (k := 3) (q := 11) B X0 dK rfl rfl ?_
  refine g_aloadN (k := 1) (q := 12) B X0 dK rfl rfl rfl ?_
  refine g_callV (i := 31) (W := 1) (q := 15) (a := x) (argsL := []) (rest := [(.int vi)]) B X0 (y := yy6) (kw hw 363 rfl) (kw hw 258 rfl) (kw hw 260 rfl) (kw hw 259 rfl) (kw hw 4 rfl) (kw hw 261 rfl) dD e0 Y_x.1 (rmLN l Z a0 hw [] cz fv ev dg ca cg x tx ks h0 n0 ZH OO HW Y_x) dK rfl rfl (lenOf pd_3 rfl) (Nat.le_of_eq rfl) rfl dD dD dD dD rfl (fun _ L1 T1 X1 hQ1 => ?_)
  obtain ⟨rfl, Nq1, e1⟩ := hQ1
  have N1 := Fr.app N0 Nq1
  refine g_icmpYes (cd := .ge) (o := 117) (q := 132) B X1 dK ((flt (hv : ¬ (vi < (Int32.ofNat ks.length)))).2.1) dD dD ?_
  exact K _ _ _ X1 e1 N1 rfl
theorem own_utd {p : Program} {l : Launch} {e : Env} {s : State} {m : MethodId} {args : Array Value} {below : List Frame} {meth : Method} {c : Code} {Z : State} {a0 : Array Value} {n0 : Nat} {nm0 : String} {P : State → Outcome → Prop} {cz : Int32} {fv : Value} {ev : Addr} {dg : Addr} {ca : Addr} {cg : Nat → Addr} {b : Addr} {x : Addr} {tx : Addr} {ks : List Int32} {d : Addr} {td : Addr} (B : own_C p s m c Z zz0 prog_81_method_8_code 5 meth none nm0) (hw : own_H a0 Z) (HW : own_W Z cz fv ev dg ca cg) (ne_d_x : d ≠ x) (ne_d_tx : d ≠ tx) (ne_td_x : td ≠ x) (ne_td_tx : td ≠ tx) (g_d : n0 ≤ d) (g_td : n0 ≤ td) (hak : own_as ks) (hkl : ks.length < 100) :
    ∀ (k i : Nat) (vi c4 : Int32) (T0 : State) (h0 : Heap) (locs : List Loc), i + k = ks.length → vi.toInt = (i : Int) → Stand p l e (own_R 4 2 258 53) s m args below meth c T0 locs 2 258 → T0.heap = h0 → Fr n0 locs → n0 ≤ h0.size → Old Z n0 h0 → own_By Z h0 d td (ks.take i) → own_St Z h0 x tx ks →
      (∀ (T' : State) (h' : Heap) (locs' : List Loc) (vj cj : Int32), Stand p l e (own_R 4 2 258 53) s m args below meth c T' locs' 2 258 → T'.heap = h' → Fr n0 locs' → Keep h0 h' [d, td] → own_By Z h' d td ks → own_Go p.tables e below P (T'.setTop (mkF m 132 #[.val (.ref b), .val (.ref x), .val (.ref d), .val (.int vj), .val (.int cj)] []))) → own_Go p.tables e below P (T0.setTop (mkF m 10 #[.val (.ref b), .val (.ref x), .val (.ref d), .val (.int vi), .val (.int c4)] [])) := by
  intro k
  induction k with
  | zero =>
    intro i vi c4 T0 h0 locs hi hv X0 e0 N0 Z0 OO Yd Yx K
    have hii : i = ks.length := by omega
    subst hii
    rw [List.take_length] at Yd
    exact exU (i := 0) B X0 hw e0 N0 Z0 OO HW Yx Yd ne_d_x ne_d_tx ne_td_x ne_td_tx g_d g_td hak hkl (fun q => by have := Int32.lt_iff_toInt_lt.mp q; rw [own_i2n (by omega)] at this; omega) (fun T' h' locs' X e' N q => by subst q; exact K _ _ _ _ _ X e' N (Keep.refl _ _) Yd)
  | succ k ih =>
    intro i vi c4 T0 h0 locs hi hv X0 e0 N0 Z0 OO Yd Yx K
    refine tnU B X0 hw e0 N0 Z0 OO HW Yx Yd ne_d_x ne_d_tx ne_td_x ne_td_tx g_d g_td hak hkl ⟨fun q => by have := Int32.lt_iff_toInt_lt.mp q; rw [show (0 : Int32).toInt = 0 from by decide] at this; omega, Int32.lt_iff_toInt_lt.mpr (by rw [own_i2n (by omega)]; omega), by show vi.toInt.toNat = i; omega, by omega⟩ (by rw [List.length_take]; omega) (fun T' h' locs' X e' N K1 O1 Y1 X1 => ?_)
    rw [own_take ks i (by omega)] at Y1
    exact ih (i + 1) _ _ T' h' locs' (by omega) (own_vsucc hv (by omega)) X e' N (Nat.le_trans Z0 K1.1) O1 Y1 X1 (fun T2 h2 l2 v2 c2 X2 e2 N2 K2 Y2 => K T2 h2 l2 v2 c2 X2 e2 N2 (K1.trans K2 (allS (mi 0 rfl) (allS (mi 1 rfl) all0))) Y2)
theorem pd_39 : parseMethodDescriptor "(Lcom/example/eurydice/eurydice/model/ClassFileWriter$Bytes;)V" = some ⟨[(.object "com/example/eurydice/eurydice/model/ClassFileWriter$Bytes")], none⟩ := by decide +kernel
def QrmUt (Z : State) (cz : Int32) (fv : Value) (ev dg ca : Addr) (cg : Nat → Addr) (b tb : Addr) (bs : List Int32) (x tx : Addr) (ks : List Int32) (h0 : Heap) (n0 : Nat) (v : Option Value) (h : Heap) (L : List Loc) : Prop := v = none ∧ Fr n0 L ∧ Keep h0 h [b, tb] ∧ own_By Z h b tb ((bs ++ own_u2 (Int32.ofNat ks.length)) ++ ks)
theorem rmUt (l : Launch) (Z : State) (a0 : Array Value) (hw : own_H a0 Z) (ws : List Jvm.Cond) (cz : Int32) (fv : Value) (ev dg ca : Addr) (cg : Nat → Addr) (b tb : Addr) (bs : List Int32) (x tx : Addr) (ks : List Int32) (h0 : Heap) (n0 : Nat) (ZH : n0 ≤ h0.size) (OO : Old Z n0 h0) (HW : own_W Z cz fv ev dg ca cg) (Y_x : own_St Z h0 x tx ks) (Y_b : own_By Z h0 b tb bs) (ne_b_x : b ≠ x) (ne_b_tx : b ≠ tx) (ne_tb_x : tb ≠ x) (ne_tb_tx : tb ≠ tx) (g_b : n0 ≤ b) (g_tb : n0 ≤ tb) (hak : own_as ks) (hkl : ks.length < 100) (hk1 : 0 < ks.length) (hn : bs.length + ks.length + 2 ≤ 256) :
    own_Met l Z yy78 prog_81_method_8_code 5 none ws (own_R 4 2 258 53) #[(.ref b), (.ref x)] h0 (QrmUt Z cz fv ev dg ca cg b tb bs x tx ks h0 n0) 2 258 := by
  refine own_hd (fr := #[.val (.ref b), .val (.ref x), .unset, .unset, .unset]) (plainFor_of_name pn_0) (fun {p e s m below meth c s₁} B X0 e0 => ?_)
  have N0 := Fr.nil n0
  have KK := Keep.refl h0 [b, tb]
  have I_tx := Y_x.in_tx
  have I_tb := Y_b.in_tb
  refine g_new (i := 8) (q := 3) B X0 (kw hw 361 rfl) (kw hw 26 rfl) (kw hw 27 rfl) e0 dK dD dD rfl (fun b1 T1 h1 gz1 X1 e1 E1 A1 D1 => ?_)
  have ne_x_b1 := nl Y_x.lt gz1
  have ne_tx_b1 := nl I_tx.lt gz1
  have ne_b_b1 := nl Y_b.lt gz1
  have ne_tb_b1 := nl I_tb.lt gz1
  have g_b1 := gl ZH gz1
  have sz_b1 := gl KK.1 gz1
  have Y_x := Y_x.ext E1
  have Y_b := Y_b.ext E1
  have I_tx := I_tx.ext E1
  have I_tb := I_tb.ext E1
  have ZH := Nat.le_trans ZH E1.1
  have KK := KK.ext E1
  have OO := OO.ext E1
  have E_b1 := A1
  have F_bytes_b1 : Fld Z h1 b1 zz0 "bytes" "[B" .null := D1 (Or.inl (kw hw 33 rfl)) (ty := (.array .byte)) dD
  have F_size_b1 : Fld Z h1 b1 zz0 "size" "I" (.int (0 : Int32)) := D1 (Or.inl (kw hw 120 rfl)) (ty := .int) dD
  refine g_dup (q := 4) B X1 dK rfl rfl ?_
  have zh2 := ZH
  have kk2 := KK.1
  have lt2_x := Y_x.lt
  have lt2_tx := I_tx.lt
  have lt2_b := Y_b.lt
  have lt2_tb := I_tb.lt
  refine g_callI (i := 30) (W := 1) (q := 7) (a := b1) (argsL := []) (rest := [(.ref b1)]) B X1 (y := yy3) rfl (kw hw 362 rfl) (kw hw 29 rfl) (kw hw 27 rfl) (kw hw 30 rfl) dD e1 (rmBi l Z a0 hw [] b1 h1 n0 ZH E_b1 F_bytes_b1 F_size_b1 g_b1) dK rfl rfl (lenOf pd_1 rfl) (Nat.le_of_eq rfl) rfl dD dD dD dD rfl (fun _ L2 T2 X2 hQ2 => ?_)
  obtain ⟨rfl, Nq2, K2, tb1, szq2, Yq2⟩ := hQ2
  have N2 := Fr.app N0 Nq2
  have Y_x := Y_x.keep K2 (ninS ne_x_b1 nin0) (ninS ne_tx_b1 nin0)
  have Y_b := Y_b.keep K2 (ninS ne_b_b1 nin0) (ninS ne_tb_b1 nin0)
  have ZH := Nat.le_trans ZH K2.1
  have KK := KK.trans K2 (allS (Or.inr sz_b1) all0)
  have OO := OO.keep K2 (allS g_b1 all0)
  have Y_b1 := Yq2
  have ne_x_tb1 := nz lt2_x szq2
  have ne_tx_tb1 := nz lt2_tx szq2
  have ne_b_tb1 := nz lt2_b szq2
  have ne_tb_tb1 := nz lt2_tb szq2
  have g_tb1 := Nat.le_trans zh2 szq2
  have sz_tb1 := Nat.le_trans kk2 szq2
  refine g_astoreN (k := 2) (q := 8) (l' := #[.val (.ref b), .val (.ref x), .val (.ref b1), .unset, .unset]) B X2 dK rfl rfl rfl ?_
  refine g_iconst (o := 0) (q := 9) (v := 0) B X2 dK rfl rfl ?_
  refine g_istoreN (k := 3) (q := 10) (l' := #[.val (.ref b), .val (.ref x), .val (.ref b1), .val (.int (0 : Int32)), .unset]) B X2 dK rfl rfl ?_
  refine g_iloadN (k := 3) (q := 11) B X2 dK rfl rfl ?_
  refine g_aloadN (k := 1) (q := 12) B X2 dK rfl rfl rfl ?_
  refine g_callV (i := 31) (W := 1) (q := 15) (a := x) (argsL := []) (rest := [(.int (0 : Int32))]) B X2 (y := yy6) (kw hw 363 rfl) (kw hw 258 rfl) (kw hw 260 rfl) (kw hw 259 rfl) (kw hw 4 rfl) (kw hw 261 rfl) dD rfl Y_x.1 (rmLN l Z a0 hw [] cz fv ev dg ca cg x tx ks T2.heap n0 ZH OO HW Y_x) dK rfl rfl (lenOf pd_3 rfl) (Nat.le_of_eq rfl) rfl dD dD dD dD rfl (fun _ L3 T3 X3 hQ3 => ?_)
  obtain ⟨rfl, Nq3, e3⟩ := hQ3
  have N3 := Fr.app N2 Nq3
  refine g_icmpNo (cd := .ge) (o := 117) (q := 18) B X3 dK ((tlt (own_0lt hk1 hkl : (0 : Int32) < (Int32.ofNat ks.length))).2.1) rfl ?_
  refine g_aloadN (k := 1) (q := 19) B X3 dK rfl rfl rfl ?_
  refine g_iloadN (k := 3) (q := 20) B X3 dK rfl rfl ?_
  refine g_callV (i := 37) (W := 0) (q := 23) (a := x) (argsL := [(.int (0 : Int32))]) (rest := []) B X3 (y := yy29) (kw hw 364 rfl) (kw hw 365 rfl) (kw hw 367 rfl) (kw hw 366 rfl) (kw hw 4 rfl) (kw hw 368 rfl) dD e3 Y_x.1 (rmCA l Z a0 hw [] cz fv ev dg ca cg x tx ks (0 : Int32) T2.heap n0 ZH OO HW Y_x dD (own_0lt hk1 hkl) hak) dK rfl rfl (lenOf pd_38 rfl) (Nat.le_of_eq rfl) rfl dD dD dD dD rfl (fun _ L4 T4 X4 hQ4 => ?_)
  obtain ⟨rfl, Nq4, e4⟩ := hQ4
  have N4 := Fr.app N3 Nq4
  rw [show (0 : Int32).toNatClampNeg = 0 from rfl]
  refine g_istore (k := 4) (q := 25) (l' := #[.val (.ref b), .val (.ref x), .val (.ref b1), .val (.int (0 : Int32)), .val (.int (own_L ks 0))]) B X4 dK rfl rfl ?_
  refine g_iload (k := 4) (q := 27) B X4 dK rfl rfl ?_
  refine g_iconst (o := 1) (q := 28) (v := 1) B X4 dK rfl rfl ?_
  refine g_icmpNo (cd := .lt) (o := 19) (q := 31) B X4 dK ((flt (own_ch1 hak hk1 : ¬ ((own_L ks 0) < (1 : Int32)))).1) rfl ?_
  refine g_iload (k := 4) (q := 33) B X4 dK rfl rfl ?_
  refine g_bipush (o := 127) (q := 35) (v := 127) B X4 dK rfl rfl ?_
  refine g_icmpNo (cd := .gt) (o := 12) (q := 38) B X4 dK ((flt (own_ch2 hak 0 : ¬ ((127 : Int32) < (own_L ks 0)))).2.2.1) rfl ?_
  refine g_aloadN (k := 2) (q := 39) B X4 dK rfl rfl rfl ?_
  refine g_iload (k := 4) (q := 41) B X4 dK rfl rfl ?_
  refine g_callV (i := 23) (W := 0) (q := 44) (a := b1) (argsL := [(.int (own_L ks 0))]) (rest := []) B X4 (y := yy2) (kw hw 136 rfl) (kw hw 115 rfl) (kw hw 117 rfl) (kw hw 116 rfl) (kw hw 27 rfl) (kw hw 118 rfl) dD e4 Y_b1.1 (rmU1 l Z a0 hw [] b1 tb1 [] (own_L ks 0) T2.heap n0 ZH Y_b1 g_b1 g_tb1 (by first | omega | (simp only [List.length_append, List.length_cons, List.length_nil, own_u2, own_u4] at *; omega))) dK rfl rfl (lenOf pd_0 rfl) (Nat.le_of_eq rfl) rfl dD dD dD dD rfl (fun _ L5 T5 X5 hQ5 => ?_)
  obtain ⟨rfl, Nq5, K5, Yq5_0⟩ := hQ5
  have N5 := Fr.app N4 Nq5
  have Y_x := Y_x.keep K5 (ninS ne_x_b1 (ninS ne_x_tb1 nin0)) (ninS ne_tx_b1 (ninS ne_tx_tb1 nin0))
  have Y_b := Y_b.keep K5 (ninS ne_b_b1 (ninS ne_b_tb1 nin0)) (ninS ne_tb_b1 (ninS ne_tb_tb1 nin0))
  have ZH := Nat.le_trans ZH K5.1
  have KK := KK.trans K5 (allS (Or.inr sz_b1) (allS (Or.inr sz_tb1) all0))
  have OO := OO.keep K5 (allS g_b1 (allS g_tb1 all0))
  have Y_b1 := Yq5_0
  refine g_goto (o := 82) (q := 126) B X5 dK dD dD ?_
  refine g_iinc (k := 3) (o := 1) (q := 129) (v := (1 : Int32)) (l' := #[.val (.ref b), .val (.ref x), .val (.ref b1), .val (.int (1 : Int32)), .val (.int (own_L ks 0))]) B X5 dK rfl rfl rfl rfl ?_
  refine g_goto (o := -119) (q := 10) B X5 dK dD dD ?_
  rw [own_b8get hak 0, List.nil_append, own_take1 hk1] at Y_b1
  refine own_utd B hw HW (Ne.symm ne_x_b1) (Ne.symm ne_tx_b1) (Ne.symm ne_x_tb1) (Ne.symm ne_tx_tb1) g_b1 g_tb1 hak hkl (ks.length - 1) 1 (1 : Int32) _ _ _ _ (by omega) dD X5 rfl N5 ZH OO Y_b1 Y_x (fun T6 h6 l6 vj cj X6 e6 N6 K6 Yq6 => ?_)
  have Y_b := Y_b.keep K6 (ninS ne_b_b1 (ninS ne_b_tb1 nin0)) (ninS ne_tb_b1 (ninS ne_tb_tb1 nin0))
  have ZH := Nat.le_trans ZH K6.1
  have KK := KK.trans K6 (allS (Or.inr sz_b1) (allS (Or.inr sz_tb1) all0))
  have Y_b1 := Yq6
  refine g_aloadN (k := 0) (q := 133) B X6 dK rfl rfl rfl ?_
  refine g_aloadN (k := 2) (q := 134) B X6 dK rfl rfl rfl ?_
  refine g_callV (i := 41) (W := 1) (q := 137) (a := b1) (argsL := []) (rest := [(.ref b)]) B X6 (y := yy8) (kw hw 386 rfl) (kw hw 127 rfl) (kw hw 129 rfl) (kw hw 128 rfl) (kw hw 27 rfl) (kw hw 130 rfl) dD e6 Y_b1.1 (rmBz l Z a0 hw [] b1 tb1 ks h6 n0 ZH Y_b1) dK rfl rfl (lenOf pd_3 rfl) (Nat.le_of_eq rfl) rfl dD dD dD dD rfl (fun _ L7 T7 X7 hQ7 => ?_)
  obtain ⟨rfl, Nq7, e7⟩ := hQ7
  have N7 := Fr.app N6 Nq7
  refine g_callV (i := 27) (W := 0) (q := 140) (a := b) (argsL := [(.int (Int32.ofNat ks.length))]) (rest := []) B X7 (y := yy0) (kw hw 387 rfl) (kw hw 132 rfl) (kw hw 134 rfl) (kw hw 133 rfl) (kw hw 27 rfl) (kw hw 135 rfl) dD e7 Y_b.1 (rmU2 l Z a0 hw [] b tb bs (Int32.ofNat ks.length) h6 n0 ZH Y_b g_b g_tb (by first | omega | (simp only [List.length_append, List.length_cons, List.length_nil, own_u2, own_u4] at *; omega))) dK rfl rfl (lenOf pd_0 rfl) (Nat.le_of_eq rfl) rfl dD dD dD dD rfl (fun _ L8 T8 X8 hQ8 => ?_)
  obtain ⟨rfl, Nq8, K8, Yq8_0⟩ := hQ8
  have N8 := Fr.app N7 Nq8
  have Y_b1 := Y_b1.keep K8 (ninS (Ne.symm ne_b_b1) (ninS (Ne.symm ne_tb_b1) nin0)) (ninS (Ne.symm ne_b_tb1) (ninS (Ne.symm ne_tb_tb1) nin0))
  have ZH := Nat.le_trans ZH K8.1
  have KK := KK.trans K8 (allS (mi 0 rfl) (allS (mi 1 rfl) all0))
  have Y_b := Yq8_0
  refine g_aloadN (k := 0) (q := 141) B X8 dK rfl rfl rfl ?_
  refine g_aloadN (k := 2) (q := 142) B X8 dK rfl rfl rfl ?_
  refine g_callV (i := 43) (W := 0) (q := 145) (a := b) (argsL := [(.ref b1)]) (rest := []) B X8 (y := yy9) (kw hw 388 rfl) (kw hw 389 rfl) (kw hw 391 rfl) (kw hw 390 rfl) (kw hw 27 rfl) (kw hw 392 rfl) dD rfl Y_b.1 (rmAp l Z a0 hw [] b tb (bs ++ own_u2 (Int32.ofNat ks.length)) b1 tb1 ks T8.heap n0 ZH Y_b g_b g_tb Y_b1 hak.bl (by omega) ne_b_b1 ne_b_tb1 ne_tb_b1 ne_tb_tb1 (by first | omega | (simp only [List.length_append, List.length_cons, List.length_nil, own_u2, own_u4] at *; omega))) dK rfl rfl (lenOf pd_39 rfl) (Nat.le_of_eq rfl) rfl dD dD dD dD rfl (fun _ L9 T9 X9 hQ9 => ?_)
  obtain ⟨rfl, Nq9, K9, Yq9_0⟩ := hQ9
  have N9 := Fr.app N8 Nq9
  have KK := KK.trans K9 (allS (mi 0 rfl) (allS (mi 1 rfl) all0))
  have Y_b := Yq9_0
  exact g_ret B X9 dK dD dD rfl (by
    exact ⟨rfl, N9, KK, Y_b⟩)
def QrmLu (Z : State) (cz : Int32) (fv : Value) (ev dg ca : Addr) (cg : Nat → Addr) (b tb : Addr) (bs : List Int32) (x tx : Addr) (ks : List Int32) (h0 : Heap) (n0 : Nat) (v : Option Value) (h : Heap) (L : List Loc) : Prop := v = none ∧ Fr n0 L ∧ Keep h0 h [b, tb] ∧ own_By Z h b tb ((bs ++ own_u2 (Int32.ofNat ks.length)) ++ ks)
theorem rmLu (l : Launch) (Z : State) (a0 : Array Value) (hw : own_H a0 Z) (ws : List Jvm.Cond) (cz : Int32) (fv : Value) (ev dg ca : Addr) (cg : Nat → Addr) (b tb : Addr) (bs : List Int32) (x tx : Addr) (ks : List Int32) (h0 : Heap) (n0 : Nat) (ZH : n0 ≤ h0.size) (OO : Old Z n0 h0) (HW : own_W Z cz fv ev dg ca cg) (Y_x : own_St Z h0 x tx ks) (Y_b : own_By Z h0 b tb bs) (ne_b_x : b ≠ x) (ne_b_tx : b ≠ tx) (ne_tb_x : tb ≠ x) (ne_tb_tx : tb ≠ tx) (g_b : n0 ≤ b) (g_tb : n0 ≤ tb) (hak : own_as ks) (hkl : ks.length < 100) (hk1 : 0 < ks.length) (hn : bs.length + ks.length + 2 ≤ 256) :
    own_Met l Z yy79 prog_83_method_14_code 2 none ws (own_R 5 2 258 69) #[(.ref x), (.ref b)] h0 (QrmLu Z cz fv ev dg ca cg b tb bs x tx ks h0 n0) 2 258 := by
  refine own_hd (fr := #[.val (.ref x), .val (.ref b)]) (plainFor_of_name pn_8) (fun {p e s m below meth c s₁} B X0 e0 => ?_)
  have N0 := Fr.nil n0
  have KK := Keep.refl h0 [b, tb]
  refine g_aloadN (k := 1) (q := 1) B X0 dK rfl rfl rfl ?_
  refine g_aloadN (k := 0) (q := 2) B X0 dK rfl rfl rfl ?_
  refine g_callV (i := 118) (W := 0) (q := 5) (a := b) (argsL := [(.ref x)]) (rest := []) B X0 (y := yy78) (kw hw 356 rfl) (kw hw 357 rfl) (kw hw 359 rfl) (kw hw 358 rfl) (kw hw 27 rfl) (kw hw 360 rfl) dD e0 Y_b.1 (rmUt l Z a0 hw [] cz fv ev dg ca cg b tb bs x tx ks h0 n0 ZH OO HW Y_x Y_b ne_b_x ne_b_tx ne_tb_x ne_tb_tx g_b g_tb hak hkl hk1 hn) dK rfl rfl (lenOf pd_14 rfl) (Nat.le_of_eq rfl) rfl dD dD dD dD rfl (fun _ L1 T1 X1 hQ1 => ?_)
  obtain ⟨rfl, Nq1, K1, Yq1_0⟩ := hQ1
  have N1 := Fr.app N0 Nq1
  have KK := KK.trans K1 (allS (mi 0 rfl) (allS (mi 1 rfl) all0))
  have Y_b := Yq1_0
  exact g_ret B X1 dK dD dD rfl (by
    exact ⟨rfl, N1, KK, Y_b⟩)
def QrmLe (Z : State) (ia : Addr) (rv : Int32) (b tb : Addr) (bs : List Int32) (h0 : Heap) (n0 : Nat) (v : Option Value) (h : Heap) (L : List Loc) : Prop := v = none ∧ Fr n0 L ∧ Keep h0 h [b, tb] ∧ own_By Z h b tb (bs ++ own_u2 rv)
theorem rmLe (l : Launch) (Z : State) (a0 : Array Value) (hw : own_H a0 Z) (ws : List Jvm.Cond) (ia : Addr) (rv : Int32) (b tb : Addr) (bs : List Int32) (h0 : Heap) (n0 : Nat) (ZH : n0 ≤ h0.size) (Y_b : own_By Z h0 b tb bs) (G_ia : own_Arf Z h0 ia .int (1 : Int32) (fun i => .int ((fun _ => rv : Nat → Int32) i))) (ne_ia_b : ia ≠ b) (ne_ia_tb : ia ≠ tb) (g_b : n0 ≤ b) (g_tb : n0 ≤ tb) (hn : bs.length + 2 ≤ 256) :
    own_Met l Z yy80 prog_83_method_12_code 6 none ws (own_R 2 0 0 26) #[(.ref ia), (.ref b)] h0 (QrmLe Z ia rv b tb bs h0 n0) 0 0 := by
  refine own_hd (fr := #[.val (.ref ia), .val (.ref b), .unset, .unset, .unset, .unset]) (plainFor_of_name pn_8) (fun {p e s m below meth c s₁} B X0 e0 => ?_)
  have N0 := Fr.nil n0
  have KK := Keep.refl h0 [b, tb]
  refine g_aloadN (k := 0) (q := 1) B X0 dK rfl rfl rfl ?_
  refine g_astoreN (k := 2) (q := 2) (l' := #[.val (.ref ia), .val (.ref b), .val (.ref ia), .unset, .unset, .unset]) B X0 dK rfl rfl rfl ?_
  refine g_aloadN (k := 2) (q := 3) B X0 dK rfl rfl rfl ?_
  refine g_alen (q := 4) B X0 e0 G_ia dK rfl ?_
  refine g_istoreN (k := 3) (q := 5) (l' := #[.val (.ref ia), .val (.ref b), .val (.ref ia), .val (.int (1 : Int32)), .unset, .unset]) B X0 dK rfl rfl ?_
  refine g_iconst (o := 0) (q := 6) (v := 0) B X0 dK rfl rfl ?_
  refine g_istore (k := 4) (q := 8) (l' := #[.val (.ref ia), .val (.ref b), .val (.ref ia), .val (.int (1 : Int32)), .val (.int (0 : Int32)), .unset]) B X0 dK rfl rfl ?_
  refine g_iload (k := 4) (q := 10) B X0 dK rfl rfl ?_
  refine g_iloadN (k := 3) (q := 11) B X0 dK rfl rfl ?_
  refine g_icmpNo (cd := .ge) (o := 21) (q := 14) B X0 dK ((tlt (by decide : (0 : Int32) < (1 : Int32))).2.1) rfl ?_
  refine g_aloadN (k := 2) (q := 15) B X0 dK rfl rfl rfl ?_
  refine g_iload (k := 4) (q := 17) B X0 dK rfl rfl ?_
  refine g_iaload (q := 18) (u := (.int rv)) B X0 e0 G_ia dD dD rfl dK rfl ?_
  refine g_istore (k := 5) (q := 20) (l' := #[.val (.ref ia), .val (.ref b), .val (.ref ia), .val (.int (1 : Int32)), .val (.int (0 : Int32)), .val (.int rv)]) B X0 dK rfl rfl ?_
  refine g_aloadN (k := 1) (q := 21) B X0 dK rfl rfl rfl ?_
  refine g_iload (k := 5) (q := 23) B X0 dK rfl rfl ?_
  refine g_callV (i := 59) (W := 0) (q := 26) (a := b) (argsL := [(.int rv)]) (rest := []) B X0 (y := yy0) (kw hw 541 rfl) (kw hw 132 rfl) (kw hw 134 rfl) (kw hw 133 rfl) (kw hw 27 rfl) (kw hw 135 rfl) dD e0 Y_b.1 (rmU2 l Z a0 hw [] b tb bs rv h0 n0 ZH Y_b g_b g_tb (by first | omega | (simp only [List.length_append, List.length_cons, List.length_nil, own_u2, own_u4] at *; omega))) dK rfl rfl (lenOf pd_0 rfl) (Nat.le_of_eq rfl) rfl dD dD dD dD rfl (fun _ L1 T1 X1 hQ1 => ?_)
  obtain ⟨rfl, Nq1, K1, Yq1_0⟩ := hQ1
  have N1 := Fr.app N0 Nq1
  have KK := KK.trans K1 (allS (mi 0 rfl) (allS (mi 1 rfl) all0))
  have Y_b := Yq1_0
  refine g_iinc (k := 4) (o := 1) (q := 29) (v := (1 : Int32)) (l' := #[.val (.ref ia), .val (.ref b), .val (.ref ia), .val (.int (1 : Int32)), .val (.int (1 : Int32)), .val (.int rv)]) B X1 dK rfl rfl rfl rfl ?_
  refine g_goto (o := -21) (q := 8) B X1 dK dD dD ?_
  refine g_iload (k := 4) (q := 10) B X1 dK rfl rfl ?_
  refine g_iloadN (k := 3) (q := 11) B X1 dK rfl rfl ?_
  refine g_icmpYes (cd := .ge) (o := 21) (q := 32) B X1 dK ((flt (by decide : ¬ ((1 : Int32) < (1 : Int32)))).2.1) dD dD ?_
  exact g_ret B X1 dK dD dD rfl (by
    exact ⟨rfl, N1, KK, Y_b⟩)
open Jvm.LamKit Jvm.Lambda in
theorem own_isMade {vm vm' : Vm} (hA : vm.Alike vm') {d cK : ClassId} {sh : Lambda.Shape} (hk : ∀ k k' : Class, vm.classes[cK]? = some k → vm'.classes[cK]? = some k' → ∀ (i : Nat) (r : Resolved), k.resolved[i]? = some (some r) → k'.resolved[i]? = some (some r))
    (h : isMade { classPath := fun _ => none } vm d sh cK = true) : isMade { classPath := fun _ => none } vm' d sh cK = true := by
  simp only [isMade, Option.bind_eq_bind, Option.pure_def, Option.getD_eq_iff, Option.bind_eq_some_iff, Bool.false_eq_true, and_false, or_false] at h ⊢
  obtain ⟨dk, a1, k, a2, file, a3, cf, a4, ob, a5, fc, a6, ok, a7, lay, a8, ms, a9, t, a10, tk, a11, h⟩ := h
  obtain ⟨dk', b1, c1⟩ := hA.2.2 _ _ a1
  obtain ⟨k', b2, c2⟩ := hA.2.2 _ _ a2
  obtain ⟨ok', b7, c7⟩ := hA.2.2 _ _ a7
  obtain ⟨tk', b11, c11⟩ := hA.2.2 _ _ a11
  have hr := hk _ _ a2 b2
  obtain ⟨r1, r2, r3, rfl⟩ : ∃ r1 r2 r3, k' = { k with resolved := r1, nestHost := r2, nestHostError := r3 } := ⟨_, _, _, c2⟩
  obtain ⟨_, _, _, rfl⟩ : ∃ r1 r2 r3, dk' = { dk with resolved := r1, nestHost := r2, nestHostError := r3 } := ⟨_, _, _, c1⟩
  obtain ⟨_, _, _, rfl⟩ : ∃ r1 r2 r3, ok' = { ok with resolved := r1, nestHost := r2, nestHostError := r3 } := ⟨_, _, _, c7⟩
  obtain ⟨_, _, _, rfl⟩ : ∃ r1 r2 r3, tk' = { tk with resolved := r1, nestHost := r2, nestHostError := r3 } := ⟨_, _, _, c11⟩
  refine ⟨_, b1, _, b2, file, a3, cf, a4, ob, by rw [hA.findClass]; exact a5, fc, by rw [hA.findClass]; exact a6, _, b7, lay, a8, ms, a9, t, by rw [hA.findClass]; exact a10, _, b11, ?_⟩
  have e1 : ({ tk with resolved := tk.resolved } : Class).isInterface = tk.isInterface := rfl
  rw [methodIn_ask_alike hA, methodIn_ask_alike hA]
  cases hg : ((methodIn t sh.implName sh.implDesc.toString tk.isInterface none).ask { classPath := fun _ => none } vm).1 with
  | error x => rw [hg] at h; simp at h
  | ok target =>
    cases hf : ((methodIn fc sh.name sh.sam.toString true none).ask { classPath := fun _ => none } vm).1 with
    | error x => rw [hg, hf] at h; simp at h
    | ok found =>
      rw [hg, hf] at h
      have hg' : ((methodIn t sh.implName sh.implDesc.toString (Class.isInterface { tk with resolved := tk.resolved }) none).ask { classPath := fun _ => none } vm).1 = .ok target := hg
      simp only [Option.some.injEq, Bool.and_eq_true] at h ⊢
      erw [hg]
      simp only [Option.some.injEq, Bool.and_eq_true]
      rw [resolvedOf_alike hA, hA.selectMethod]
      obtain ⟨⟨h1, h2⟩, h3⟩ := h
      refine ⟨⟨h1, ?_⟩, h3⟩
      rw [List.all_eq_true] at h2 ⊢
      intro y hy
      have q := h2 y hy
      obtain ⟨x, i⟩ := y
      cases x with
      | none => rfl
      | some r =>
        simp only [Option.isNone_some, Bool.false_or, decide_eq_true_eq] at q ⊢
        exact hr i r q
open Jvm.LamKit Jvm.Lambda in
theorem own_Made39 {Z s : State} {host : String} {sh : Lambda.Shape} {cK : ClassId} (hZ : Z.Warmed39 s.vm) (h : Jvm.LamKit.Made Z host sh cK) : Jvm.LamKit.Made s host sh cK := by
  obtain ⟨d, dk, h1, h2, h3, h4⟩ := h
  have hA := hZ.alike
  obtain ⟨dk', b1, c1⟩ := hA.2.2 _ _ h1
  refine ⟨d, dk', b1, by rw [c1]; exact h2, own_isMade hA (fun k k' q1 q2 i r q3 => ?_) h3, ?_⟩
  · obtain ⟨k2, z1, -, -, z2, -⟩ := hZ.2.2.2 _ _ q1
    cases q2.symm.trans z1
    rcases z2 i with z | ⟨z, -⟩
    · rw [z]; exact q3
    · rw [q3] at z; cases z
  · simp only [State.lambdaCallable, hA.findClass, hA.assignable, hA.superclasses, hA.declaredIn] at h4 ⊢
    exact h4
/-- the class entry ci of the made class names C -/
def own_clsOK (sh : Lambda.Shape) (host : String) (ci : Nat) (C : String) : Bool :=
  match sh.file host with
  | none => false
  | some D => match D.constantPool[ci]? with
    | some (.class_ n) => decide (D.constantPool.string? n = some C) && decide (ci ≠ D.thisClass)
    | _ => false
open Jvm.LamKit Jvm.Lambda in
theorem own_clsReady {s : State} {host C : String} {sh : Lambda.Shape} {cK cC : ClassId} {ci : Nat} (hok : own_clsOK sh host ci C = true) (hmd : Jvm.LamKit.Made s host sh cK) (hC : s.vm.findClass C = some cC) : s.vm.classReady cK ci cC := by
  obtain ⟨d, dk, hd, hdn, hmade, -⟩ := hmd
  obtain ⟨dk', k, ok, tk, file, cf, object, iface, toy, lay, methods, target, found, hd', hk, hfile, hcf, -, -, -, -, -, -, -, -, -, -, -, -, -, -, -, -, -, -, hres, -⟩ := isMade_spec hmade
  cases hd.symm.trans hd'
  rw [hdn] at hcf
  unfold own_clsOK at hok
  rw [hcf] at hok
  dsimp only at hok
  split at hok
  · rename_i n hn
    simp only [Bool.and_eq_true, decide_eq_true_eq] at hok
    exact ⟨k, hk, hres ci _ (Lambda.resolvedOf_class hn hok.2 hok.1 hC)⟩
  · cases hok
/-- a function object with one captured value -/
def own_Fn (Z : State) (h : Heap) (a : Addr) (sh : Lambda.Shape) (host : String) (v : Value) : Prop := ∃ cK : ClassId, Jvm.LamKit.Made Z host sh cK ∧ h[a]? = some { cls := cK, slots := #[v], vm := .none }
section OwnFn
variable {Z : State} {h h' : Heap} {a : Addr} {sh : Lambda.Shape} {host : String} {v : Value}
theorem own_Fn.lt (F : own_Fn Z h a sh host v) : a < h.size := by obtain ⟨_, -, q⟩ := F; exact (Array.getElem?_eq_some_iff.mp q).1
theorem own_Fn.ext (F : own_Fn Z h a sh host v) (E : Ext h h') : own_Fn Z h' a sh host v := by obtain ⟨c, q1, q2⟩ := F; exact ⟨c, q1, E.2 _ _ q2⟩
theorem own_Fn.keep {ws : List Addr} (F : own_Fn Z h a sh host v) (K : Keep h h' ws) (q : a ∉ ws) : own_Fn Z h' a sh host v := by obtain ⟨c, q1, q2⟩ := F; exact ⟨c, q1, K.2.1 _ _ q2 q⟩
theorem own_Fn.other {b : Addr} {sl : Nat} {u : Value} (F : own_Fn Z h a sh host v) (W : Wr h h' b sl u) (q : a ≠ b) : own_Fn Z h' a sh host v := by
  obtain ⟨c, q1, q2⟩ := F
  refine ⟨c, q1, ?_⟩
  obtain ⟨cell, w1, w2, w3, rfl⟩ := W
  rw [Array.getElem?_setIfInBounds_ne (Ne.symm q)]
  exact q2
end OwnFn
section OwnLam
variable {p : Program} {l : Launch} {e : Env} {R : Room} {s : State} {m : MethodId} {args : Array Value} {below : List Frame} {meth : Method} {c : Code} {T : State} {locs : List Loc} {cells slots : Nat} {Z : State} {a0 : Array Value} {own : String} {bs : ByteArray} {ml : Nat} {rt0 : Option FieldType} {nm0 : String} {P : State → Outcome → Prop} {h h' : Heap} {pc q : Nat} {L l' : Array Slot} {S rest : List Value} {x y v : Int32} {u w : Value} {a b : Addr}
open Jvm.LamKit Jvm.Lambda in
/-- a site that captures one value -/
theorem g_site (B : own_C p s m c Z own bs ml meth rt0 nm0) (X : Stand p l e R s m args below meth c T locs cells slots) {xm : MethodName} {index fi : Nat} {sh : Lambda.Shape} {ty : FieldType} (hn : s.methodNamed? xm = some m) (wl : (Cond.lambdaSite xm pc index sh).before a0 Z = true) (hcap : sh.captured = [ty]) (hok : capOK sh xm.cls fi 0 = true) (wO : (Cond.instantiable "java/lang/Object" 0).before a0 Z = true)
    (hnar : narrow ty u = u) (hfit : fits ty u = true) (hcat : u.category = 1) {W : Nat} (eT : T.heap = h) (d : decode bs pc = .ok (.invokedynamic index, 5)) (hL : L.size = ml) (hW : (S.map fun v => v.category).sum ≤ W) (hl : W + 3073 ≤ R.locals) (hc : cells + 1 ≤ R.cells) (hs : slots + 1 ≤ R.slots) (hq : q = pc + 5)
    (k : ∀ (b : Addr) (T' : State) (h' : Heap), b = h.size → Stand p l e R s m args below meth c T' locs (cells + 1) (slots + 1) → T'.heap = h' → Ext h h' → own_Fn Z h' b sh xm.cls u → own_Go p.tables e below P (T'.setTop (mkF m q L (.ref b :: S)))) :
    own_Go p.tables e below P (T.setTop (mkF m pc L (u :: S))) := by
  subst hq
  obtain ⟨cK, one, hat⟩ := Cond.lambdaSite_spec wl
  obtain ⟨mD, kD, cfD, i0, p0, lk, hmD, hkD, hcfD, hsh, -, hfind, hmade, hcan, hlk⟩ := State.lambdaAt?_spec hat
  obtain ⟨kD2, hkD2, hnameD⟩ := className_of_methodNamed hmD
  cases hkD.symm.trans hkD2
  have hMZ : Jvm.LamKit.Made Z xm.cls sh cK := ⟨_, kD, hkD, hnameD, hmade, hcan⟩
  have hA := B.hZ.alike
  have hmm : mD = m := by
    have q1 : (Z.setVm s.vm).methodNamed? xm = some mD := by rw [State.methodNamed?_setVm hA]; exact hmD
    exact Option.some.inj (q1.symm.trans hn)
  subst hmm
  rcases hlk with ⟨a1, cell, -, -, hc0, -⟩ | ⟨rfl, -, -⟩
  · rw [hcap] at hc0; cases hc0
  · obtain ⟨kD', hkD', hD'⟩ := hA.2.2 _ _ hkD
    obtain ⟨b1, nt, desc, site, h1, h2, h3, h4⟩ := shapeOf?_site hsh
    obtain ⟨d2, dk2, hd2, hdn2, hmade2, -⟩ := own_Made39 B.hZ hMZ
    have wO' : (Cond.instantiable "java/lang/Object" 0).before args s = true := mvT B.hZ wO
    obtain ⟨kc, f, hkc, hkind, hty, -⟩ := made_cap hok hd2 hdn2 hmade2 (noFields wO' (State.WarmedH.refl s))
    have hz : ((kc.instanceTypes.toList.zip [u]).map fun (t, v) => narrow t v) = [u] := by rw [hty, hcap]; simp [hnar]
    have hw : e.platform.lambdaLinkWords = 3072 := by rw [X.admits.platform]
    have q := X.lambdaMakes B.hx (g := mkF mD pc L (u :: S)) rfl (by rw [B.hml]; exact hL) (hb B.hby d) (vals := [u]) (rest := S) hkD' (by rw [hD']; exact hfind) (by rw [hD']; exact hcfD) h1 h2 (parseLong_of_parse h3) (by rw [h4, hcap]; rfl) rfl hkc
      (by rw [hw]; show 2 * 0 + (u.category + (S.map fun v => v.category).sum) + 3072 ≤ _; rw [hcat]; omega) hc (by rw [hz]; exact hs)
      (fun i v hv => by
        rw [hz] at hv
        cases i with
        | zero =>
          have : v = u := by simpa using hv.symm
          subst this
          simp [State.fitsSlot, State.slotType?, hkc, hkind, hty, hcap, hfit]
        | succ i => simp at hv)
    rw [hz] at q
    refine own_up q.2 ?_
    rw [eT]
    refine k h.size _ _ rfl (by simpa using q.1) rfl ?_ ⟨cK, hMZ, ?_⟩
    · exact ext_of fun a q => by rw [State.heap_pushCell, eT]; exact Array.getElem?_push_lt q |>.trans (Array.getElem?_eq_getElem q).symm
    · rw [State.heap_pushCell, eT]; simp
end OwnLam

def own_fc : ByteArray := ⟨#[0x2a, 0xb4, 0x00, 0x0f, 0x2b, 0xc0, 0x00, 0x13, 0xb8, 0x00, 0x19, 0xb1]⟩
theorem own_fc0 : decode own_fc 0 = .ok (.aload_n 0, 1) := by decide +kernel
theorem own_fc1 : decode own_fc 1 = .ok (.getfield 15, 3) := by decide +kernel
theorem own_fc4 : decode own_fc 4 = .ok (.aload_n 1, 1) := by decide +kernel
theorem own_fc5 : decode own_fc 5 = .ok (.checkcast 19, 3) := by decide +kernel
theorem own_fc8 : decode own_fc 8 = .ok (.invokestatic 25, 3) := by decide +kernel
theorem own_fc11 : decode own_fc 11 = .ok (.return_, 1) := by decide +kernel
section OwnLam2
variable {p : Program} {l : Launch} {e : Env} {R : Room} {s : State} {m : MethodId} {args : Array Value} {below : List Frame} {meth : Method} {c : Code} {T : State} {locs : List Loc} {cells slots : Nat} {Z : State} {a0 : Array Value} {own : String} {bs : ByteArray} {ml : Nat} {rt0 : Option FieldType} {nm0 : String} {P : State → Outcome → Prop} {h h' : Heap} {pc q : Nat} {L l' : Array Slot} {S rest : List Value} {a b t : Addr}
theorem own_castF {U target : State} {cK : ClassId} {ck : Code} {bl : List Frame} {host C : String} {sh : Lambda.Shape} {ci : Nat} (hx : p.tables.exec = Jvm.exec) (hU : At U ⟨cK, 1⟩ ck bl) (hZ : Z.Warmed39 s.vm) (hW : s.WarmedH U.vm) (hok : own_clsOK sh host ci C = true) (hmd : Jvm.LamKit.Made s host sh cK) (hh : U.heap = h) (E : Exa Z h b C) {g : JFrame} (hg : g.method = ⟨cK, 1⟩) (hs : g.stack = .ref b :: rest) (hd : decode ck.code g.pc = .ok (.checkcast ci, 3))
    (k : Steps p.tables e bl (U.setTop { g with pc := g.pc + 3 }) target) : Steps p.tables e bl (U.setTop g) target := by
  obtain ⟨cell, cT, i1, i2, i3⟩ := Ins.self E
  simp only [Bool.and_eq_true, Bool.not_eq_true'] at i3
  have hA : Z.vm.Alike U.vm := (State.Warmed39.trans hZ hW.wide).alike
  have hC : U.vm.findClass C = some cT := by rw [hA.findClass]; exact i2
  have hr := own_clsReady (s := U) hok (own_Made39 hW.wide hmd) hC
  obtain ⟨kc, q1⟩ := Vm.classAt_of_findClass hC
  have has : U.vm.assignable cell.cls cT = true := by rw [hA.assignable]; exact i3.2
  obtain ⟨kv, q2⟩ := Vm.classAt_of_assignable has ⟨kc, q1⟩
  have hU' : At U g.method ck bl := by rw [hg]; exact hU
  jvm_step hU' [hx, hd, checkcast.wp_ready (e := e) (s := U) (f := g) (c := cT) (x := .ref b) (rest := rest) hU.top (by rw [hg]; exact hr) hs]
  refine ⟨cell, by rw [hh]; exact i1, fun z hz => by rw [hz] at i3; simp [VmData.isStatics] at i3, kv, q2, kc, q1, ?_⟩
  rw [if_pos has]
  exact k
open Jvm.LamKit Jvm.Lambda in
theorem g_lam (B : own_C p s m c Z own bs ml meth rt0 nm0) (X : Stand p l e R s m args below meth c T locs cells slots) {xi y : MethodName} {host C : String} {sh : Lambda.Shape} {i cnt W mlc n0 : Nat} {cb : ByteArray} {rm : Room} {Q : Option Value → Heap → List Loc → Prop}
    (w1 : (Cond.methodLink own i xi).before a0 Z = true) (w2 : (Cond.declares xi).before a0 Z = true) (w7 : (Cond.interfaceMethod xi.cls xi.cls xi.name xi.desc).before args s = true) (w3 : (Cond.static y).before a0 Z = true) (w5 : (Cond.initialized y.cls).before a0 Z = true) (w4 : (Cond.code y cb mlc none).before a0 Z = true) (wO : (Cond.instantiable "java/lang/Object" 0).before a0 Z = true)
    (hxi : xi.cls = sh.iface ∧ xi.name = sh.name ∧ xi.desc = sh.sam.toString) (hy : y.cls = sh.implClass ∧ y.name = sh.implName ∧ y.desc = sh.implDesc.toString) (hpoly : (xi.cls ≠ "java/lang/invoke/MethodHandle" ∧ xi.cls ≠ "java/lang/invoke/VarHandle") ∧ y.cls ≠ "java/lang/invoke/MethodHandle" ∧ y.cls ≠ "java/lang/invoke/VarHandle")
    (hf1 : fwdOK sh host own_fc 2 none 25 21 = true) (hf2 : capOK sh host 15 0 = true) (hf3 : own_clsOK sh host 19 C = true) (hd1 : parseMethodDescriptor xi.desc = some ⟨[.object "java/lang/Object"], none⟩) (hd2 : ∀ sig, parseMethodDescriptor y.desc = some sig → 2 = sig.parameters.length)
    (eT : T.heap = h) (F : own_Fn Z h a sh host (.ref t)) (E : Exa Z h b C)
    (hM : own_Met l Z y cb mlc none [] rm #[.ref t, .ref b] h Q rm.cells rm.slots) (hQ : ∀ v h L, Q v h L → v = none ∧ Fr n0 L)
    (d : decode bs pc = .ok (.invokeinterface i cnt, 5)) (hL : L.size = ml) (hW : (S.map fun v => v.category).sum ≤ W) (hf : rm.frames + 2 ≤ R.frames) (hl : W + 13 + ((mlc + 11) + rm.locals) ≤ R.locals) (hc : cells + rm.cells ≤ R.cells) (hsl : slots + rm.slots ≤ R.slots) (hq : q = pc + 5)
    (k : ∀ (L' Lx : List Loc) (T' : State), Stand p l e R s m args below meth c T' (locs ++ L') (cells + rm.cells) (slots + rm.slots) → Fr n0 L' → Q none T'.heap Lx → own_Go p.tables e below P (T'.setTop (mkF m q L S))) :
    own_Go p.tables e below P (T.setTop (mkF m pc L (.ref b :: .ref a :: S))) := by
  subst hq
  obtain ⟨cK, hMZ, hcell⟩ := F
  have hMs := own_Made39 B.hZ hMZ
  have hcs : (Cond.code y cb mlc none).before args s = true := mvT B.hZ w4
  have hOs : (Cond.instantiable "java/lang/Object" 0).before args s = true := mvT B.hZ wO
  have hM' : Met l y [Cond.code y cb mlc none] rm (fun a U => a = #[.ref t, .ref b] ∧ Z.Warmed39 U.vm ∧ U.heap = h) (fun _ _ o t' => ∃ v Lx, o = .returned v ∧ Q v t'.heap Lx) rm.cells rm.slots (fun z => n0 ≤ z) :=
    MetFree.imp hM (fun a s1 o s2 ⟨v, Lx, z1, z2, z3⟩ => ⟨⟨v, Lx, z1, z2⟩, Lx, z3, (hQ _ _ _ z2).2⟩)
  have hcellT : T.heap[a]? = some { cls := cK, slots := #[.ref t], vm := .none } := by rw [eT]; exact hcell
  obtain ⟨v, st, t', T', L', X', hL', e1, e2, ⟨v2, Lx, z1, z2⟩, steps⟩ := callLamS X B.hx (own := own) (host := host) (index := i) (count := cnt) (xi := xi) (y := y) (σ := sh) hM' (fun _ _ _ _ z => z) rfl rfl
    (fun w hw a' U hU => by rw [List.mem_singleton.mp hw]; exact mvT (s := U) (args := a') (State.Warmed39.trans B.hZ hU.wide) w4) (List.mem_singleton.mpr rfl)
    B.hown (mvT B.hZ w1) (mvT B.hZ w2) w7 hcs (mvT B.hZ w3) (mvT B.hZ w5) hxi hy hpoly hMs ⟨_, hcellT, rfl, rfl⟩ hf1 (pcI := 8) (op := .return_) own_fc8 own_fc11
    (g := mkF m pc L (.ref b :: .ref a :: S)) rfl (by rw [B.hml]; exact hL) (argsL := [.ref b]) (argsT := [.ref t, .ref b]) (rest := S) (L0 := #[.val (.ref a), .val (.ref b)])
    (fun sig z => by cases hd1.symm.trans z; rfl) (fun sig z => hd2 sig z) rfl (hb B.hby d) (fun mk => rfl) rfl
    (fun U ck bl tg hU hck hh' hW' kk => XS.aloadN hU B.hx rfl (hb hck own_fc0) rfl rfl (getCap B.hx hU hW' hMs hf2 hOs (by rw [hh']; exact hcellT) rfl (v := .ref t) rfl (g := { method := ⟨cK, 1⟩, pc := 1, locals := #[.val (.ref a), .val (.ref b)], stack := [.ref a], locked := none }) rfl rfl (hb hck own_fc1) (XS.aloadN hU B.hx rfl (hb hck own_fc4) rfl rfl
      (own_castF (g := { method := ⟨cK, 1⟩, pc := 5, locals := #[.val (.ref a), .val (.ref b)], stack := [.ref b, .ref t], locked := none }) B.hx hU B.hZ hW' hf3 hMs (hh'.trans eT) E rfl rfl (hb hck own_fc5) kk))))
    (fun st v t'' z => by obtain ⟨v3, Ly, y1, y2⟩ := z; cases y1; cases (hQ _ _ _ y2).1; exact Or.inr (Or.inr (Or.inr ⟨rfl, rfl, rfl⟩)))
    hf (by show 2 * 0 + (S.map fun v => v.category).sum + (2 + 11) + ((mlc + 11) + rm.locals) ≤ _; omega) hc hsl (fun U hU hh' => ⟨rfl, State.Warmed39.trans B.hZ hU.wide, hh'.trans eT⟩)
  cases z1
  cases (hQ _ _ _ z2).1
  refine own_up steps (k L' Lx T' X' hL' ?_)
  rw [e1]; exact z2
end OwnLam2

theorem own_since (s : State) : s.Since s.vm 0 := (State.WarmedH.refl s).since 0
theorem own_rew {s t : State} {o : Outcome} {L : List Loc} {k n k' n' : Nat} (h : ReturnedEndW s o t L k n) (hk : k ≤ k') (hn : n ≤ n') : ReturnedEndW s o t L k' n' := by
  unfold ReturnedEndW at h ⊢
  exact ⟨h.1, h.2.1, h.2.2.1, h.2.2.2.mono hk hn⟩
def own_EL : List (String × Nat) := consts_1
abbrev own_MetW (l : Launch) (Z : State) (y : MethodName) (bs : ByteArray) (ml : Nat) (rt : Option FieldType) (ws : List Jvm.Cond) (rm : Room) (as' : Array Value) (h0 : Heap) (Q : Option Value → Heap → List Loc → Prop) (C K : Nat) : Prop :=
  MetFree l y (head1 (Jvm.Cond.code y bs ml rt :: ws) rm) (fun aq Uq => aq = as' ∧ Z.Warmed39 Uq.vm ∧ Uq.heap = h0 ∧ CHv Z own_EL Uq.vm h0) (fun _ _ _ _ _ => True) (fun _ Uq oq Uq' => ∃ vq Lq, oq = .returned vq ∧ Q vq Uq'.heap Lq ∧ CHr Z own_EL Uq.vm Uq.heap Uq'.vm Uq'.heap ∧ ReturnedEndW Uq oq Uq' Lq C K)
def own_Wd (Z s : State) (v0 : Vm) (h0 h : Heap) : Prop := (∃ k0, s.Since v0 k0 ∧ k0 ≤ h.size) ∧ CHr Z own_EL s.vm h0 v0 h
section OwnWd
variable {Z s : State} {v0 : Vm} {h0 h h' : Heap} {a : Addr}
theorem own_Wd.start (H : CHv Z own_EL s.vm h0) : own_Wd Z s s.vm h0 h0 := ⟨⟨0, own_since s, Nat.zero_le _⟩, CHr.refl H⟩
theorem own_Wd.ch (D : own_Wd Z s v0 h0 h) : CHv Z own_EL v0 h := D.2.1
theorem own_Wd.ext (D : own_Wd Z s v0 h0 h) (E : Ext h h') : own_Wd Z s v0 h0 h' := by
  obtain ⟨⟨k0, hS, hk⟩, C⟩ := D
  exact ⟨⟨k0, hS, Nat.le_trans hk E.1⟩, C.trans (CHr.ext E C.1)⟩
theorem own_Wd.wr {sl : Nat} {v : Value} (D : own_Wd Z s v0 h0 h) (W : Wr h h' a sl v) (S : Safe Z own_EL v0 h a) : own_Wd Z s v0 h0 h' := by
  obtain ⟨⟨k0, hS, hk⟩, C⟩ := D
  exact ⟨⟨k0, hS, Nat.le_trans hk (Nat.le_of_eq W.size.symm)⟩, C.trans (CHr.wr W S C.1)⟩
theorem own_Wd.keep {ws : List Addr} (D : own_Wd Z s v0 h0 h) (K : Keep h h' ws) (S : ∀ x ∈ ws, Safe Z own_EL v0 h x) : own_Wd Z s v0 h0 h' := by
  obtain ⟨⟨k0, hS, hk⟩, C⟩ := D
  exact ⟨⟨k0, hS, Nat.le_trans hk K.1⟩, C.trans (CHr.keep K S C.1)⟩
theorem own_Wd.on {v1 : Vm} {k1 : Nat} (D : own_Wd Z s v0 h0 h) (hS : (s.setVm v0).Since v1 k1) (hk : k1 ≤ h'.size) (hg : h.size ≤ k1) (C : CHr Z own_EL v0 h v1 h') : own_Wd Z s v1 h0 h' := by
  obtain ⟨⟨k0, hS0, hk0⟩, C0⟩ := D
  exact ⟨⟨k1, hS0.trans hS (Nat.le_trans hk0 hg), hk⟩, C0.trans C⟩
theorem own_Mp.safeT {b tb : Addr} {st : List Nat} {vm : Vm} (hal : Z.vm.Alike vm) (Y : own_Mp Z h b tb st) : Safe Z own_EL vm h tb := by
  rcases Y with ⟨-, rfl, Y⟩ | ⟨-, F, Y⟩
  · exact Safe.exa hal Y.1 dD dD
  · obtain ⟨c, A, -⟩ := Y.2.2.2.2.2.1
    exact Safe.arr hal A dD
theorem own_Safe.arf {n : Int32} {f : Nat → Value} {vm : Vm} {ty : FieldType} (hal : Z.vm.Alike vm) (G : own_Arf Z h a ty n f) (q : ty ≠ .byte) : Safe Z own_EL vm h a := by
  obtain ⟨c, A, -⟩ := G; exact Safe.arr hal A q
end OwnWd
def own_PpW (Z s : State) (below : List Frame) (Q : Option Value → Heap → List Loc → Prop) (C K : Nat) : State → Outcome → Prop := fun t o => t.status = .running ∧ Ended t below o ∧ ∃ v L, o = .returned v ∧ Q v t.heap L ∧ CHr Z own_EL s.vm s.heap t.vm t.heap ∧ ReturnedEndW s o t L C K
section OwnCps3
variable {p : Program} {l : Launch} {e : Env} {R : Room} {s : State} {m : MethodId} {args : Array Value} {below : List Frame} {meth : Method} {c : Code} {T : State} {locs : List Loc} {cells slots : Nat} {Z : State} {a0 : Array Value} {own : String} {bs : ByteArray} {ml : Nat} {rt0 : Option FieldType} {nm0 : String} {P : State → Outcome → Prop} {h h' : Heap} {pc q : Nat} {L l' : Array Slot} {S rest : List Value} {x y v : Int32} {u w : Value} {a b : Addr} {o : Int} {n : Int32} {f : Nat → Value}
variable {v0 : Vm} {h0 : Heap}
theorem own_C.base {v1 : Vm} (B : own_C p (s.setVm v0) m c Z own bs ml meth rt0 nm0) (hZ : Z.Warmed39 v1) (hown : v1.findClass own = some m.cls) : own_C p (s.setVm v1) m c Z own bs ml meth rt0 nm0 := ⟨B.hx, hZ, B.hby, B.hml, hown, B.hret, B.hlk, B.hnm⟩
theorem own_C.next {T1 : State} {k1 : Nat} (B : own_C p (s.setVm v0) m c Z own bs ml meth rt0 nm0) (hS : (s.setVm v0).Since T1.vm k1) : own_C p (s.setVm T1.vm) m c Z own bs ml meth rt0 nm0 := B.base (State.Warmed39.trans B.hZ hS.1) ((hS.1.alike.findClass _ _).trans B.hown)
theorem own_mapL (cs : List Int32) (i : Nat) : (cs.map Value.int).getD i (.int 0) = .int (own_L cs i) := by
  unfold own_L
  rw [List.getD_eq_getElem?_getD, List.getD_eq_getElem?_getD, List.getElem?_map]
  cases cs[i]? <;> rfl
theorem g_wldc (B : own_C p (s.setVm v0) m c Z own bs ml meth rt0 nm0) (X : Stand p l e R (s.setVm v0) m args below meth c T locs cells slots) (D : own_Wd Z s v0 h0 h) (hE : EW Z a0 own_EL) {i nn : Nat} {text : String} {cs : List Int32} (w : (Cond.stringLink own i text).before a0 Z = true) (wS : ∀ a ∈ Bundle.stringAtoms, a.before a0 Z = true) (hmem : (own, i) ∈ own_EL) (ht : (∀ c ∈ text.toList, c.toNat < 256) ∧ text.toList.map (fun c => Value.int (Jvm.Lit.byteI c.toNat.toUInt16)) = cs.map Value.int) (hl : cs.length < 100) (eT : T.heap = h) (d : decode bs pc = .ok (.ldc i, 2)) (hn : 4 * text.toList.length ≤ nn) (hbig : nn ≤ 536870912) (hc : cells + 2 ≤ R.cells) (hs : slots + (nn + 4) ≤ R.slots) (hq : q = pc + 2)
    (k : ∀ (a b : Addr) (T' : State) (h' : Heap), Stand p l e R (s.setVm T'.vm) m args below meth c T' locs (cells + 2) (slots + (nn + 4)) → own_C p (s.setVm T'.vm) m c Z own bs ml meth rt0 nm0 → own_Wd Z s T'.vm h0 h' → T'.heap = h' → Ext h h' → own_St Z h' a b cs → CHr Z own_EL v0 h T'.vm h' → (∀ x, Safe Z own_EL T'.vm h' x → x ≠ a ∧ x ≠ b) → own_Go p.tables e below P (T'.setTop (mkF m q L (.ref a :: S)))) : own_Go p.tables e below P (T.setTop (mkF m pc L S)) := by
  subst hq
  obtain ⟨⟨k0, hS, hk⟩, C0⟩ := id D
  obtain ⟨a, T1, h1, k1, b, kl, X1, e1, E1, hS1, hk1, hZ1, hown1, EA, CA, FA, VB, -, -, hC, -, hne, st⟩ := Jvm.RoadKit.ldcCH (s := s) (vm0 := v0) (own := own) (text := text) (index := i) (EL := own_EL) X B.hx B.hZ B.hown w wS eT hS hk hE hmem D.ch (vs := cs.map Value.int) (z := Int32.ofNat cs.length) ht (own_inn (by omega)) (by rw [own_icl (by omega), List.length_map]) (g := mkF m pc L S) rfl (hb B.hby d) (n := nn) hn hbig hc hs
  exact own_up st (k a b T1 h1 X1 (B.base hZ1 hown1) ⟨⟨k1, hS1, hk1⟩, C0.trans hC⟩ e1 E1 ⟨EA, FA, CA, (own_Arf.ofArv VB).congr fun i _ => own_mapL cs i⟩ hC hne)
theorem g_wcallV (B : own_C p (s.setVm v0) m c Z own bs ml meth rt0 nm0) (X : Stand p l e R (s.setVm v0) m args below meth c T locs cells slots) (D : own_Wd Z s v0 h0 h) (hE : EW Z a0 own_EL) {y : MethodName} {C : String} {i W mlc : Nat} {cb : ByteArray} {rt : Option FieldType} {rm : Room} {as' : Array Value} {Q : Option Value → Heap → List Loc → Prop} {argsL : List Value} (w1 : (Cond.methodLink own i y).before a0 Z = true) (w2 : (Cond.declares y).before a0 Z = true) (w5 : (Cond.selects C y y).before a0 Z = true) (w6 : (Cond.instanceMethod y).before a0 Z = true) (w3 : (Cond.initialized y.cls).before a0 Z = true) (w4 : (Cond.code y cb mlc rt).before a0 Z = true) (hy : y.cls ≠ "java/lang/invoke/MethodHandle" ∧ y.cls ≠ "java/lang/invoke/VarHandle") (eT : T.heap = h) (E : Exa Z h a C) (hM : own_MetW l Z y cb mlc rt [] rm as' h Q rm.cells rm.slots) (d : decode bs pc = .ok (.invokevirtual i, 3)) (hs : S = argsL.reverse ++ .ref a :: rest) (ha : (.ref a :: argsL).toArray = as') (hlen : ∀ sig, parseMethodDescriptor y.desc = some sig → argsL.length = sig.parameters.length) (hW : (rest.map fun v => v.category).sum ≤ W) (hL : L.size = ml) (hf : rm.frames + 1 ≤ R.frames) (hl : W + (mlc + 11) + rm.locals ≤ R.locals) (hc : cells + rm.cells ≤ R.cells) (hsl : slots + rm.slots ≤ R.slots) (hq : q = pc + 3)
    (k : ∀ (v : Option Value) (Lc : List Loc) (T' : State), Stand p l e R (s.setVm T'.vm) m args below meth c T' (locs ++ Lc) (cells + rm.cells) (slots + rm.slots) → own_C p (s.setVm T'.vm) m c Z own bs ml meth rt0 nm0 → own_Wd Z s T'.vm h0 T'.heap → CHr Z own_EL v0 h T'.vm T'.heap → Q v T'.heap Lc → own_Go p.tables e below P (T'.setTop (mkF m q L (v.toList ++ rest)))) : own_Go p.tables e below P (T.setTop (mkF m pc L S)) := by
  subst hs hq
  obtain ⟨cq, kq, qa, qb, qc⟩ := isOf B.hZ eT E
  obtain ⟨v, vm1, ⟨T1, L1, k1, n1⟩, -, X1, hS1, hgr, ⟨Lc, hQ, l1, y1, z1, hcr⟩, st⟩ := X.virtualBackS B.hx (y := y) (z := y) B.hown (mvT B.hZ w1) (mvT B.hZ w2) (notFace_of_selects (args := #[]) (mvT B.hZ w5)) (mvT B.hZ w5) (mvT B.hZ w6) hy (backOfSH (s := s) (vm0 := v0) (W := W) hM B.hZ w4 w3 hf hl hE D.ch) qa qc (g := mkF m pc L (argsL.reverse ++ .ref a :: rest)) rfl (by rw [B.hml]; exact hL) (Steps.refl _) (argsL := argsL) (rest := rest) hlen rfl (by show 2 * 0 + _ ≤ _; rw [Nat.mul_zero, Nat.zero_add]; exact hW) (hb B.hby d) (fun _ _ => ⟨ha, eT, hc, hsl⟩)
  dsimp only [Pt.U, Pt.locs, Pt.cells, Pt.slots] at X1 l1 y1 z1 st hQ hS1 hgr hcr
  subst l1 y1 z1
  exact own_up (fun _ kq => st.trans kq) (k v Lc T1 X1 (B.next hS1) (D.on hS1 (Nat.le_refl _) (by rw [← eT]; exact hgr) hcr) hcr hQ)
theorem g_wcallP (B : own_C p (s.setVm v0) m c Z own bs ml meth rt0 nm0) (X : Stand p l e R (s.setVm v0) m args below meth c T locs cells slots) (D : own_Wd Z s v0 h0 h) (hE : EW Z a0 own_EL) {y : MethodName} {C : String} {i W mlc : Nat} {cb : ByteArray} {rt : Option FieldType} {rm : Room} {as' : Array Value} {Q : Option Value → Heap → List Loc → Prop} {argsL : List Value} (w1 : (Cond.methodLink own i y).before a0 Z = true) (NI : own_NI Z y.cls) (w6 : (Cond.instanceMethod y).before a0 Z = true) (w7 : (Cond.privateMethod y).before a0 Z = true) (w3 : (Cond.initialized y.cls).before a0 Z = true) (w4 : (Cond.code y cb mlc rt).before a0 Z = true) (hy : y.cls ≠ "java/lang/invoke/MethodHandle" ∧ y.cls ≠ "java/lang/invoke/VarHandle") (eT : T.heap = h) (E : Exa Z h a C) (hM : own_MetW l Z y cb mlc rt [] rm as' h Q rm.cells rm.slots) (d : decode bs pc = .ok (.invokevirtual i, 3)) (hs : S = argsL.reverse ++ .ref a :: rest) (ha : (.ref a :: argsL).toArray = as') (hlen : ∀ sig, parseMethodDescriptor y.desc = some sig → argsL.length = sig.parameters.length) (hW : (rest.map fun v => v.category).sum ≤ W) (hL : L.size = ml) (hf : rm.frames + 1 ≤ R.frames) (hl : W + (mlc + 11) + rm.locals ≤ R.locals) (hc : cells + rm.cells ≤ R.cells) (hsl : slots + rm.slots ≤ R.slots) (hq : q = pc + 3)
    (k : ∀ (v : Option Value) (Lc : List Loc) (T' : State), Stand p l e R (s.setVm T'.vm) m args below meth c T' (locs ++ Lc) (cells + rm.cells) (slots + rm.slots) → own_C p (s.setVm T'.vm) m c Z own bs ml meth rt0 nm0 → own_Wd Z s T'.vm h0 T'.heap → CHr Z own_EL v0 h T'.vm T'.heap → Q v T'.heap Lc → own_Go p.tables e below P (T'.setTop (mkF m q L (v.toList ++ rest)))) : own_Go p.tables e below P (T.setTop (mkF m pc L S)) := by
  subst hs hq
  obtain ⟨cq, qa, qb⟩ := E.cell
  obtain ⟨vm1, mk, hW1, X0, hn1, st1⟩ := own_privStep X B.hx B.hZ B.hown w1 w6 w7 w4 NI hy (g := mkF m pc L (argsL.reverse ++ .ref a :: rest)) rfl (by rw [eT]; exact qa) qb (argsL := argsL) (rest := rest) hlen rfl (hb B.hby d)
  obtain ⟨v, ⟨T1, L1, k1, n1⟩, X1, hS1, hgr, ⟨Lc, hQ, l1, y1, z1, hcr⟩, st⟩ := (backOfSH (s := s) (vm0 := v0) (W := W) hM B.hZ w4 w3 hf hl hE D.ch) m meth c ⟨T.setVm vm1, locs, cells, slots⟩ (mkF m pc L rest) (.invokevirtual i) mk (.ref a :: argsL).toArray X0 rfl (by rw [B.hml]; exact hL) (hb B.hby d) (by show 2 * 0 + _ ≤ _; rw [Nat.mul_zero, Nat.zero_add]; exact hW) hn1 ⟨ha, eT, hc, hsl⟩
  dsimp only [Pt.U, Pt.locs, Pt.cells, Pt.slots] at X1 l1 y1 z1 st hQ hS1 hgr hcr
  subst l1 y1 z1
  exact own_up (fun _ kq => st1 _ (st.trans kq)) (k v Lc T1 X1 (B.next hS1) (D.on hS1 (Nat.le_refl _) (by rw [← eT]; exact hgr) hcr) hcr hQ)
theorem g_wret (B : own_C p (s.setVm v0) m c Z own bs ml meth none nm0) (X : Stand p l e R (s.setVm v0) m args below meth c T locs cells slots) (D : own_Wd Z s v0 h0 h) (hE : EW Z a0 own_EL) (hh : s.heap = h0) {Q : Option Value → Heap → List Loc → Prop} {C K : Nat} (d : decode bs pc = .ok (.return_, 1)) (hc : cells ≤ C) (hk : slots ≤ K) (eT : T.heap = h) (hQ : Q none h locs) : own_Go p.tables e below (own_PpW Z s below Q C K) (T.setTop (mkF m pc L [])) := by
  obtain ⟨⟨k0, hS, hk0⟩, C0⟩ := id D
  obtain ⟨fs, hr, hrun, hended, hW⟩ := X.leaveW hS (by rw [eT]; exact hk0) (v := none) (fun _ => rfl) B.hlk
  subst eT hh
  have hcr := C0.trans (CHv.at X B.hZ hE C0.1)
  exact ⟨_, _, X.returnOut B.hx B.hret (hb B.hby d) hr, hrun, hended, _, _, rfl, hQ, hcr, own_rew hW hc hk⟩
theorem g_wretI (B : own_C p (s.setVm v0) m c Z own bs ml meth (some .int) nm0) (X : Stand p l e R (s.setVm v0) m args below meth c T locs cells slots) (D : own_Wd Z s v0 h0 h) (hE : EW Z a0 own_EL) (hh : s.heap = h0) {Q : Option Value → Heap → List Loc → Prop} {C K : Nat} (d : decode bs pc = .ok (.ireturn, 1)) (hc : cells ≤ C) (hk : slots ≤ K) (eT : T.heap = h) (hQ : Q (some (.int v)) h locs) : own_Go p.tables e below (own_PpW Z s below Q C K) (T.setTop (mkF m pc L (.int v :: S))) := by
  obtain ⟨⟨k0, hS, hk0⟩, C0⟩ := id D
  obtain ⟨fs, hr, hrun, hended, hW⟩ := X.leaveW hS (by rw [eT]; exact hk0) (v := (some (.int v))) (fun q => by rw [B.hret] at q; cases q) B.hlk
  subst eT hh
  have hcr := C0.trans (CHv.at X B.hZ hE C0.1)
  exact ⟨_, _, retOut X B.hx B.hret rfl (Or.inl ⟨rfl, Or.inl rfl, _, rfl⟩) (hb B.hby d) hr, hrun, hended, _, _, rfl, hQ, hcr, own_rew hW hc hk⟩
theorem g_wretN {t0 : FieldType} (B : own_C p (s.setVm v0) m c Z own bs ml meth (some t0) nm0) (X : Stand p l e R (s.setVm v0) m args below meth c T locs cells slots) (D : own_Wd Z s v0 h0 h) (hE : EW Z a0 own_EL) (hh : s.heap = h0) {Q : Option Value → Heap → List Loc → Prop} {C K : Nat} (ht : t0 = .boolean ∨ t0 = .byte ∨ t0 = .char ∨ t0 = .short) (d : decode bs pc = .ok (.ireturn, 1)) (hc : cells ≤ C) (hk : slots ≤ K) (eT : T.heap = h) (hQ : Q (some (.int (nar t0 v))) h locs) : own_Go p.tables e below (own_PpW Z s below Q C K) (T.setTop (mkF m pc L (.int v :: S))) := by
  obtain ⟨⟨k0, hS, hk0⟩, C0⟩ := id D
  obtain ⟨fs, hr, hrun, hended, hW⟩ := X.leaveW hS (by rw [eT]; exact hk0) (v := (some (.int (nar t0 v)))) (fun q => by rw [B.hret] at q; cases q) B.hlk
  subst eT hh
  have hcr := C0.trans (CHv.at X B.hZ hE C0.1)
  exact ⟨_, _, retN X B.hx B.hret ht (hb B.hby d) hr, hrun, hended, _, _, rfl, hQ, hcr, own_rew hW hc hk⟩
theorem g_wretA {t0 : FieldType} (B : own_C p (s.setVm v0) m c Z own bs ml meth (some t0) nm0) (X : Stand p l e R (s.setVm v0) m args below meth c T locs cells slots) (D : own_Wd Z s v0 h0 h) (hE : EW Z a0 own_EL) (hh : s.heap = h0) {Q : Option Value → Heap → List Loc → Prop} {C K : Nat} (ht : t0.isReference = true) (hn : narrow t0 u = u) (hu : u.isRef = true) (d : decode bs pc = .ok (.areturn, 1)) (hc : cells ≤ C) (hk : slots ≤ K) (eT : T.heap = h) (hQ : Q (some u) h locs) : own_Go p.tables e below (own_PpW Z s below Q C K) (T.setTop (mkF m pc L (u :: S))) := by
  obtain ⟨⟨k0, hS, hk0⟩, C0⟩ := id D
  obtain ⟨fs, hr, hrun, hended, hW⟩ := X.leaveW hS (by rw [eT]; exact hk0) (v := (some u)) (fun q => by rw [B.hret] at q; cases q) B.hlk
  subst eT hh
  have hcr := C0.trans (CHv.at X B.hZ hE C0.1)
  exact ⟨_, _, retOut X B.hx B.hret hn (Or.inr (Or.inr (Or.inr (Or.inr ⟨rfl, ht, hu⟩)))) (hb B.hby d) hr, hrun, hended, _, _, rfl, hQ, hcr, own_rew hW hc hk⟩
end OwnCps3
def own_EWs (Z : State) (a0 : Array Value) : Prop := ∀ p ∈ own_EL, ∃ text : String, (Cond.stringLink p.1 p.2 text).before a0 Z = true ∧ (∀ c ∈ text.toList, c.toNat < 256) ∧ text.toList.length < 256
theorem own_EWs.ew {Z : State} {a0 : Array Value} (E : own_EWs Z a0) : EW Z a0 own_EL := fun p hp => by
  obtain ⟨t, h1, h2, -⟩ := E p hp; exact ⟨t, h1, h2⟩
open Jvm.Free.SBG in
theorem own_Safe256 {Z : State} {a0 : Array Value} {vm : Vm} {h : Heap} {x : Addr} {f : Nat → Value} (hE : own_EWs Z a0) (hZ : Z.Warmed39 vm) (G : own_Arf Z h x .byte (256 : Int32) f) : Safe Z own_EL vm h x := fun B => by
  obtain ⟨cl, ⟨A1, ⟨-, kA, hkA, compA, hkindA⟩, -⟩, hsz, -⟩ := G
  have hal := hZ.alike
  obtain ⟨kA', hkA', ekA⟩ := hal.2.2 _ _ hkA
  obtain ⟨p, hp, u, a, hbk, q, -, F, rfl | rfl⟩ := B
  · cases (show h[q.sa]? = some q.sC from F.ha).symm.trans A1
    obtain ⟨cS, ⟨-, -, e⟩, ⟨kS, g1, g2, -⟩, -⟩ := F
    subst e
    cases (show vm.classes[q.sC.cls]? = some kS from g1).symm.trans hkA'
    rw [ekA] at g2
    cases hkindA.symm.trans g2
  · obtain ⟨text, w, ht, hlen⟩ := hE p hp
    obtain ⟨c, k, cf, i, h1, h2, h3, h4, h5, -⟩ := hbk
    have w2 : (Cond.stringLink p.1 p.2 text).before a0 (Wst Z vm h) = true := mvS (s := { Z with heap := h }) hZ w
    obtain ⟨k0, cf', i', units, hkx, hcf, hp', hu, -, htext, -⟩ := Cond.stringLink_spec (s := Wst Z vm h) h1 w2
    cases h2.symm.trans hkx
    cases h3.symm.trans hcf
    cases h4.symm.trans hp'
    cases h5.symm.trans hu
    have hlat := Jvm.ClassFile.lat_of_text htext ht
    have hl : u.size = text.toList.length := by
      have := congrArg List.length (Jvm.ClassFile.units_of_text htext ht)
      simpa using this
    cases (show h[q.sd]? = some q.SA from F.hd).symm.trans A1
    obtain ⟨cS, -, -, -, hbyt⟩ := F
    rw [hbyt, SBG.stringBytes_lat hlat, Array.size_map, hl] at hsz
    have : (256 : Int32).toNatClampNeg = 256 := by decide
    omega
theorem own_EWS {Z : State} {a0 : Array Value} (hw : own_H a0 Z) : own_EWs Z a0 := by
  intro p hp
  simp only [own_EL, consts_1, List.mem_cons, List.not_mem_nil, or_false] at hp
  rcases hp with rfl | rfl | rfl | rfl | rfl | rfl
  · exact ⟨"Code", (kw hw 484 rfl), by decide, by decide⟩
  · exact ⟨" ", (kw hw 247 rfl), by decide, by decide⟩
  · exact ⟨"A", (kw hw 3 rfl), by decide, by decide⟩
  · exact ⟨"java/lang/Object", (kw hw 11 rfl), by decide, by decide⟩
  · exact ⟨"m", (kw hw 137 rfl), by decide, by decide⟩
  · exact ⟨"()V", (kw hw 138 rfl), by decide, by decide⟩
theorem own_WS {Z : State} {a0 : Array Value} (hw : own_H a0 Z) : ∀ a ∈ Bundle.stringAtoms, a.before a0 Z = true := by
  intro d hd
  simp only [Bundle.stringAtoms, List.mem_cons, List.not_mem_nil, or_false] at hd
  rcases hd with rfl | rfl | rfl | rfl | rfl | rfl | rfl
  · exact (kw hw 4 rfl)
  · exact (kw hw 5 rfl)
  · exact (kw hw 6 rfl)
  · exact (kw hw 7 rfl)
  · exact (kw hw 8 rfl)
  · exact (kw hw 9 rfl)
  · exact (kw hw 10 rfl)
theorem own_hw {l : Launch} {Z : State} {C n d : String} {bs : ByteArray} {ml : Nat} {rt : Option FieldType} {ws : List Jvm.Cond} {R : Room} {A : Array Value} {h0 : Heap} {Q : Option Value → Heap → List Loc → Prop} {ck ks : Nat} {fr : Array Slot} (pn : plainFor ⟨C, n, d⟩ = true)
    (H : ∀ {p : Program} {e : Env} {s : State} {m : MethodId} {below : List Frame} {meth : Method} {c : Code} {s₁ : State}, own_C p (s.setVm s.vm) m c Z C bs ml meth rt n → Stand p l e R (s.setVm s.vm) m A below meth c s₁ [] 0 0 → s₁.heap = h0 → s.heap = h0 → own_Wd Z s s.vm h0 h0 → s.methodNamed? ⟨C, n, d⟩ = some m → own_Go p.tables e below (own_PpW Z s below Q ck ks) (s₁.setTop (mkF m 0 fr [])))
    (ef : ∀ m, entryFrame m A ml = mkF m 0 fr [] := by intro m; first | (simp [entryFrame, mkF, argsToLocals, Value.category]; done) | rfl) : own_MetW l Z ⟨C, n, d⟩ bs ml rt ws R A h0 Q ck ks := by
  refine MetFree.of_bodySF pn hisR ?_
  intro p e s m args below meth c s₁ Bd hml0 hP hK
  obtain ⟨rfl, hZ, hh, hCH⟩ := hP
  exact own_start (P := own_PpW Z s below Q ck ks) (fun t kq => castTop (ef m) kq) (H ⟨Bd.exec, hZ, Bd.bytes, hml0, findClass_of_methodNamed Bd.named, Bd.returns, Bd.notSynchronized, (name_of_methodNamed Bd.named Bd.method).1⟩ (Stand.of_body Bd) (by rw [← hh, Bd.state]; rfl) hh (own_Wd.start hCH) Bd.named)

abbrev own_s1 : Lambda.Shape := (Jvm.Lambda.Shape.mk zz40 "accept" (Jvm.ClassFile.MethodDescriptor.mk ([(Jvm.ClassFile.FieldType.object zz9)] : List Jvm.ClassFile.FieldType) (Option.none : Option Jvm.ClassFile.FieldType)) ([(Jvm.ClassFile.FieldType.object zz1)] : List Jvm.ClassFile.FieldType) (6 : Nat) zz3 "lambda$utf8$0" (Jvm.ClassFile.MethodDescriptor.mk ([(Jvm.ClassFile.FieldType.object zz1), (Jvm.ClassFile.FieldType.object zz0)] : List Jvm.ClassFile.FieldType) (Option.none : Option Jvm.ClassFile.FieldType)) false (Jvm.ClassFile.MethodDescriptor.mk ([(Jvm.ClassFile.FieldType.object zz0)] : List Jvm.ClassFile.FieldType) (Option.none : Option Jvm.ClassFile.FieldType)))
abbrev own_s2 : Lambda.Shape := (Jvm.Lambda.Shape.mk zz40 "accept" (Jvm.ClassFile.MethodDescriptor.mk ([(Jvm.ClassFile.FieldType.object zz9)] : List Jvm.ClassFile.FieldType) (Option.none : Option Jvm.ClassFile.FieldType)) ([(Jvm.ClassFile.FieldType.array Jvm.ClassFile.FieldType.int)] : List Jvm.ClassFile.FieldType) (6 : Nat) zz3 "lambda$entry$2" (Jvm.ClassFile.MethodDescriptor.mk ([(Jvm.ClassFile.FieldType.array Jvm.ClassFile.FieldType.int), (Jvm.ClassFile.FieldType.object zz0)] : List Jvm.ClassFile.FieldType) (Option.none : Option Jvm.ClassFile.FieldType)) false (Jvm.ClassFile.MethodDescriptor.mk ([(Jvm.ClassFile.FieldType.object zz0)] : List Jvm.ClassFile.FieldType) (Option.none : Option Jvm.ClassFile.FieldType)))

theorem pd_40 : parseMethodDescriptor "(Ljava/lang/String;)Ljava/lang/StringBuilder;" = some ⟨[(.object "java/lang/String")], some (.object "java/lang/StringBuilder")⟩ := by decide +kernel
theorem pd_41 : parseMethodDescriptor "(Ljava/lang/Object;)Ljava/lang/Object;" = some ⟨[(.object "java/lang/Object")], some (.object "java/lang/Object")⟩ := by decide +kernel
theorem pd_42 : parseMethodDescriptor "(Ljava/lang/String;Lcom/example/eurydice/eurydice/model/ClassFileWriter$Bytes;)V" = some ⟨[(.object "java/lang/String"), (.object "com/example/eurydice/eurydice/model/ClassFileWriter$Bytes")], none⟩ := by decide +kernel
theorem pd_43 : parseMethodDescriptor "(I)Ljava/lang/Integer;" = some ⟨[.int], some (.object "java/lang/Integer")⟩ := by decide +kernel
theorem pd_44 : parseMethodDescriptor "(Ljava/lang/Object;Ljava/lang/Object;)Ljava/lang/Object;" = some ⟨[(.object "java/lang/Object"), (.object "java/lang/Object")], some (.object "java/lang/Object")⟩ := by decide +kernel
def QrmCu (Z : State) (cz : Int32) (fv : Value) (ev dg ca : Addr) (cg : Nat → Addr) (pl en : Addr) (te mp tb : Addr) (st : List Nat) (cn : Nat) (es : List Int32) (d : Nat) (x tx : Addr) (ks : List Int32) (fn : Addr) (bk : Nat) (h0 : Heap) (n0 : Nat) (v : Option Value) (h : Heap) (L : List Loc) : Prop := v = some (.int (Int32.ofNat (cn + 1))) ∧ Fr n0 L ∧ Keep h0 h [pl, en, te, mp, tb] ∧ ∃ tb' : Addr, (tb' = tb ∨ h0.size ≤ tb') ∧ own_P0 Z h pl en mp (Int32.ofNat (cn + 1)) ∧ own_By Z h en te (((es ++ [own_b8 (Int32.ofNat d)]) ++ own_u2 (Int32.ofNat ks.length)) ++ ks) ∧ own_Mp Z h mp tb' (bk :: st)
theorem rmCu (l : Launch) (Z : State) (a0 : Array Value) (hw : own_H a0 Z) (ws : List Jvm.Cond) (cz : Int32) (fv : Value) (ev dg ca : Addr) (cg : Nat → Addr) (pl en : Addr) (te mp tb : Addr) (st : List Nat) (cn : Nat) (es : List Int32) (d : Nat) (x tx : Addr) (ks : List Int32) (fn : Addr) (bk : Nat) (h0 : Heap) (n0 : Nat) (ZH : n0 ≤ h0.size) (OO : Old Z n0 h0) (HW : own_W Z cz fv ev dg ca cg) (Y_pl : own_P0 Z h0 pl en mp (Int32.ofNat cn)) (Y_en : own_By Z h0 en te es) (Y_x : own_St Z h0 x tx ks) (Y_mp : own_Mp Z h0 mp tb st) (Y_fn : own_Fn Z h0 fn own_s1 zz3 (.ref x)) (ne_pl_en : pl ≠ en) (ne_pl_te : pl ≠ te) (ne_pl_mp : pl ≠ mp) (ne_pl_tb : pl ≠ tb) (ne_en_mp : en ≠ mp) (ne_en_tb : en ≠ tb) (ne_te_mp : te ≠ mp) (ne_te_tb : te ≠ tb) (ne_x_pl : x ≠ pl) (ne_x_en : x ≠ en) (ne_x_te : x ≠ te) (ne_x_mp : x ≠ mp) (ne_x_tb : x ≠ tb) (ne_tx_pl : tx ≠ pl) (ne_tx_en : tx ≠ en) (ne_tx_te : tx ≠ te) (ne_tx_mp : tx ≠ mp) (ne_tx_tb : tx ≠ tb) (ne_fn_pl : fn ≠ pl) (ne_fn_en : fn ≠ en) (ne_fn_te : fn ≠ te) (ne_fn_mp : fn ≠ mp) (ne_fn_tb : fn ≠ tb) (g_pl : n0 ≤ pl) (g_en : n0 ≤ en) (g_te : n0 ≤ te) (g_mp : n0 ≤ mp) (g_tb : n0 ≤ tb) (hd : d < 10) (hak : own_as ks) (hkl : ks.length < 100) (hk1 : 0 < ks.length) (hks : ks.length < 14 ∨ ks.length = 16) (hes : es.length + ks.length + 8 ≤ 256) (hcn : cn < 100) (hst : st.length < 11) (ha : own_as ((([] ++ [Int32.ofNat (48 + d)]) ++ [Int32.ofNat 32]) ++ ks)) (hn : ((([] ++ [Int32.ofNat (48 + d)]) ++ [Int32.ofNat 32]) ++ ks).length < 100) (hq1 : 1 < ((([] ++ [Int32.ofNat (48 + d)]) ++ [Int32.ofNat 32]) ++ ks).length) (h0h : ¬ (own_hs 0 ((([] ++ [Int32.ofNat (48 + d)]) ++ [Int32.ofNat 32]) ++ ks)) = (0 : Int32)) (hb : ((15 : Int32) &&& ((own_hs 0 ((([] ++ [Int32.ofNat (48 + d)]) ++ [Int32.ofNat 32]) ++ ks)) ^^^ (((own_hs 0 ((([] ++ [Int32.ofNat (48 + d)]) ++ [Int32.ofNat 32]) ++ ks)).toUInt32 >>> ((16 : Int32) &&& 31).toUInt32).toInt32))) = Int32.ofNat bk) (hbk : bk < 16) (hnb : bk ∉ st) :
    own_MetW l Z yy26 prog_83_method_11_code 6 (some .int) ws (own_R 7 11 444 106) #[(.ref pl), (.int (Int32.ofNat d)), (.ref x), (.ref fn)] h0 (QrmCu Z cz fv ev dg ca cg pl en te mp tb st cn es d x tx ks fn bk h0 n0) 11 444 := by
  refine own_hw (fr := #[.val (.ref pl), .val (.int (Int32.ofNat d)), .val (.ref x), .val (.ref fn), .unset, .unset]) (plainFor_of_name pn_8) (fun {p e s m below meth c s₁} B X0 e0 hh DD Nm => ?_)
  have N0 := Fr.nil n0
  have KK := Keep.refl h0 [pl, en, te, mp, tb]
  have HW0 := HW
  obtain ⟨SC, hcz, SF, hfv, SE, SD, GD, SH, SK2, GC, hcg⟩ := HW
  have I_te := Y_en.in_tb
  have I_tx := Y_x.in_tx
  have I_tb := Y_mp.in_tb
  refine g_new (i := 75) (q := 3) B X0 (kw hw 199 rfl) (kw hw 200 rfl) (kw hw 201 rfl) e0 dK dD dD rfl (fun b1 T1 h1 gz1 X1 e1 E1 A1 D1 => ?_)
  have ne_pl_b1 := nl Y_pl.lt gz1
  have ne_en_b1 := nl Y_en.lt gz1
  have ne_te_b1 := nl I_te.lt gz1
  have ne_x_b1 := nl Y_x.lt gz1
  have ne_tx_b1 := nl I_tx.lt gz1
  have ne_tb_b1 := nl I_tb.lt gz1
  have ne_mp_b1 := nl Y_mp.lt gz1
  have ne_fn_b1 := nl Y_fn.lt gz1
  have g_b1 := gl ZH gz1
  have sz_b1 := gl KK.1 gz1
  have DD := DD.ext E1
  have Y_pl := Y_pl.ext E1
  have Y_en := Y_en.ext E1
  have Y_x := Y_x.ext E1
  have Y_mp := Y_mp.ext E1
  have Y_fn := Y_fn.ext E1
  have I_te := I_te.ext E1
  have I_tx := I_tx.ext E1
  have I_tb := I_tb.ext E1
  have ZH := Nat.le_trans ZH E1.1
  have KK := KK.ext E1
  have OO := OO.ext E1
  have E_b1 := A1
  have F_value_b1 : Fld Z h1 b1 zz2 "value" "[B" .null := D1 (Or.inl (kw hw 214 rfl)) (ty := (.array .byte)) dD
  have F_coder_b1 : Fld Z h1 b1 zz2 "coder" "B" (.int (0 : Int32)) := D1 (Or.inl (kw hw 216 rfl)) (ty := .byte) dD
  have F_count_b1 : Fld Z h1 b1 zz2 "count" "I" (.int (0 : Int32)) := D1 (Or.inl (kw hw 228 rfl)) (ty := .int) dD
  refine g_dup (q := 4) B X1 dK rfl rfl ?_
  have zh2 := ZH
  have kk2 := KK.1
  have lt2_pl := Y_pl.lt
  have lt2_en := Y_en.lt
  have lt2_te := I_te.lt
  have lt2_x := Y_x.lt
  have lt2_tx := I_tx.lt
  have lt2_tb := I_tb.lt
  have lt2_mp := Y_mp.lt
  have lt2_fn := Y_fn.lt
  refine g_callI (i := 77) (W := 1) (q := 7) (a := b1) (argsL := []) (rest := [(.ref b1)]) B X1 (y := yy17) rfl (kw hw 202 rfl) (kw hw 203 rfl) (kw hw 201 rfl) (kw hw 204 rfl) dD e1 (rmSi l Z a0 hw [] cz fv ev dg ca cg b1 h1 n0 ZH OO HW0 E_b1 F_value_b1 F_coder_b1 F_count_b1 g_b1) dK rfl rfl (lenOf pd_1 rfl) (Nat.le_of_eq rfl) rfl dD dD dD dD rfl (fun _ L2 T2 X2 hQ2 => ?_)
  obtain ⟨rfl, Nq2, K2, tb1, szq2, Yq2⟩ := hQ2
  have N2 := Fr.app N0 Nq2
  have sk2 : ∀ x ∈ ([b1] : List Addr), Safe Z own_EL s.vm h1 x := (sfS (Safe.exa B.hZ.alike E_b1 dD dD) sf0)
  have ch2 := DD.ch
  have DD := DD.keep K2 sk2
  have Y_pl := Y_pl.keep K2 (ninS ne_pl_b1 nin0)
  have Y_en := Y_en.keep K2 (ninS ne_en_b1 nin0) (ninS ne_te_b1 nin0)
  have Y_x := Y_x.keep K2 (ninS ne_x_b1 nin0) (ninS ne_tx_b1 nin0)
  have Y_mp := Y_mp.keep K2 (ninS ne_mp_b1 nin0) (ninS ne_tb_b1 nin0)
  have Y_fn := Y_fn.keep K2 (ninS ne_fn_b1 nin0)
  have I_te := I_te.keep K2
  have I_tx := I_tx.keep K2
  have I_tb := I_tb.keep K2
  have ZH := Nat.le_trans ZH K2.1
  have KK := KK.trans K2 (allS (Or.inr sz_b1) all0)
  have OO := OO.keep K2 (allS g_b1 all0)
  have Y_b1 := Yq2
  have ne_pl_tb1 := nz lt2_pl szq2
  have ne_en_tb1 := nz lt2_en szq2
  have ne_te_tb1 := nz lt2_te szq2
  have ne_x_tb1 := nz lt2_x szq2
  have ne_tx_tb1 := nz lt2_tx szq2
  have ne_tb_tb1 := nz lt2_tb szq2
  have ne_mp_tb1 := nz lt2_mp szq2
  have ne_fn_tb1 := nz lt2_fn szq2
  have g_tb1 := Nat.le_trans zh2 szq2
  have sz_tb1 := Nat.le_trans kk2 szq2
  have S_tb1 := Safe.keep K2 sk2 ch2 (Safe.new szq2)
  have I_tb1 := Y_b1.in_tb
  refine g_iloadN (k := 1) (q := 8) B X2 dK rfl rfl ?_
  refine g_callV (i := 78) (W := 0) (q := 11) (a := b1) (argsL := [(.int (Int32.ofNat d))]) (rest := []) B X2 (y := yy19) (kw hw 217 rfl) (kw hw 218 rfl) (kw hw 220 rfl) (kw hw 219 rfl) (kw hw 201 rfl) (kw hw 221 rfl) dD rfl Y_b1.1 (rmBI l Z a0 hw [] cz fv ev dg ca cg b1 tb1 [] d T2.heap n0 ZH OO HW0 Y_b1 g_b1 g_tb1 hd (by simp)) dK rfl rfl (lenOf pd_26 rfl) (Nat.le_of_eq rfl) rfl dD dD dD dD rfl (fun _ L3 T3 X3 hQ3 => ?_)
  obtain ⟨rfl, Nq3, K3, Yq3_0⟩ := hQ3
  have N3 := Fr.app N2 Nq3
  have sk3 : ∀ x ∈ ([b1, tb1] : List Addr), Safe Z own_EL s.vm T2.heap x := (sfS (Safe.exa B.hZ.alike Y_b1.1 dD dD) (sfS S_tb1 sf0))
  have S_tb1 := Safe.keep K3 sk3 DD.ch S_tb1
  have DD := DD.keep K3 sk3
  have Y_pl := Y_pl.keep K3 (ninS ne_pl_b1 (ninS ne_pl_tb1 nin0))
  have Y_en := Y_en.keep K3 (ninS ne_en_b1 (ninS ne_en_tb1 nin0)) (ninS ne_te_b1 (ninS ne_te_tb1 nin0))
  have Y_x := Y_x.keep K3 (ninS ne_x_b1 (ninS ne_x_tb1 nin0)) (ninS ne_tx_b1 (ninS ne_tx_tb1 nin0))
  have Y_mp := Y_mp.keep K3 (ninS ne_mp_b1 (ninS ne_mp_tb1 nin0)) (ninS ne_tb_b1 (ninS ne_tb_tb1 nin0))
  have Y_fn := Y_fn.keep K3 (ninS ne_fn_b1 (ninS ne_fn_tb1 nin0))
  have I_te := I_te.keep K3
  have I_tx := I_tx.keep K3
  have I_tb := I_tb.keep K3
  have I_tb1 := I_tb1.keep K3
  have ZH := Nat.le_trans ZH K3.1
  have KK := KK.trans K3 (allS (Or.inr sz_b1) (allS (Or.inr sz_tb1) all0))
  have OO := OO.keep K3 (allS g_b1 (allS g_tb1 all0))
  have Y_b1 := Yq3_0
  refine g_wldc (i := 81) (nn := 4) (text := " ") (cs := [Int32.ofNat 32]) (q := 13) B X3 DD (own_EWS hw).ew (kw hw 247 rfl) (own_WS hw) (List.mem_of_getElem? (i := 1) rfl) ⟨by decide, by decide⟩ dD rfl dK dD dD dD dD rfl (fun a4 d4 T4 h4 X4 B4 D4 e4 E4 Yq4 CR4 NE4 => ?_)
  have S_tb1 := CR4.safe I_tb1.lt S_tb1
  have Y_pl := Y_pl.ext E4
  have Y_en := Y_en.ext E4
  have Y_x := Y_x.ext E4
  have Y_mp := Y_mp.ext E4
  have Y_fn := Y_fn.ext E4
  have Y_b1 := Y_b1.ext E4
  have I_te := I_te.ext E4
  have I_tx := I_tx.ext E4
  have I_tb := I_tb.ext E4
  have ZH := Nat.le_trans ZH E4.1
  have KK := KK.ext E4
  have OO := OO.ext E4
  have DD := D4
  have Y_a4 := Yq4
  have ne_b1_a4 := (NE4 b1 (Safe.exa B4.hZ.alike Y_b1.1 dD dD)).1
  have ne_b1_d4 := (NE4 b1 (Safe.exa B4.hZ.alike Y_b1.1 dD dD)).2
  have ne_tb1_a4 := (NE4 tb1 S_tb1).1
  have ne_tb1_d4 := (NE4 tb1 S_tb1).2
  refine g_callV (i := 83) (W := 0) (q := 16) (a := b1) (argsL := [(.ref a4)]) (rest := []) B4 X4 (y := yy10) (kw hw 248 rfl) (kw hw 249 rfl) (kw hw 251 rfl) (kw hw 250 rfl) (kw hw 201 rfl) (kw hw 252 rfl) dD e4 Y_b1.1 (rmBSx l Z a0 hw [] cz fv ev dg ca cg b1 tb1 ([] ++ [Int32.ofNat (48 + d)]) a4 d4 [Int32.ofNat 32] h4 n0 ZH OO HW0 Y_b1 Y_a4 (Ne.symm ne_tb1_a4) (Ne.symm ne_tb1_d4) (Ne.symm ne_b1_a4) (Ne.symm ne_b1_d4) g_b1 g_tb1 (own_as1 hd) own_as32 (by show 2 < 16; omega)) dK rfl rfl (lenOf pd_40 rfl) (Nat.le_of_eq rfl) rfl dD dD dD dD rfl (fun _ L5 T5 X5 hQ5 => ?_)
  obtain ⟨rfl, Nq5, K5, Yq5_0⟩ := hQ5
  have N5 := Fr.app N3 Nq5
  have sk5 : ∀ x ∈ ([b1, tb1] : List Addr), Safe Z own_EL T4.vm h4 x := (sfS (Safe.exa B4.hZ.alike Y_b1.1 dD dD) (sfS S_tb1 sf0))
  have S_tb1 := Safe.keep K5 sk5 DD.ch S_tb1
  have DD := DD.keep K5 sk5
  have Y_pl := Y_pl.keep K5 (ninS ne_pl_b1 (ninS ne_pl_tb1 nin0))
  have Y_en := Y_en.keep K5 (ninS ne_en_b1 (ninS ne_en_tb1 nin0)) (ninS ne_te_b1 (ninS ne_te_tb1 nin0))
  have Y_x := Y_x.keep K5 (ninS ne_x_b1 (ninS ne_x_tb1 nin0)) (ninS ne_tx_b1 (ninS ne_tx_tb1 nin0))
  have Y_mp := Y_mp.keep K5 (ninS ne_mp_b1 (ninS ne_mp_tb1 nin0)) (ninS ne_tb_b1 (ninS ne_tb_tb1 nin0))
  have Y_fn := Y_fn.keep K5 (ninS ne_fn_b1 (ninS ne_fn_tb1 nin0))
  have I_te := I_te.keep K5
  have I_tx := I_tx.keep K5
  have I_tb := I_tb.keep K5
  have ZH := Nat.le_trans ZH K5.1
  have KK := KK.trans K5 (allS (Or.inr sz_b1) (allS (Or.inr sz_tb1) all0))
  have OO := OO.keep K5 (allS g_b1 (allS g_tb1 all0))
  have Y_b1 := Yq5_0
  refine g_aloadN (k := 2) (q := 17) B4 X5 dK rfl rfl rfl ?_
  refine g_callV (i := 83) (W := 0) (q := 20) (a := b1) (argsL := [(.ref x)]) (rest := []) B4 X5 (y := yy10) (kw hw 248 rfl) (kw hw 249 rfl) (kw hw 251 rfl) (kw hw 250 rfl) (kw hw 201 rfl) (kw hw 252 rfl) dD rfl Y_b1.1 (rmBS l Z a0 hw [] cz fv ev dg ca cg b1 tb1 (([] ++ [Int32.ofNat (48 + d)]) ++ [Int32.ofNat 32]) x tx ks T5.heap n0 ZH OO HW0 Y_b1 Y_x ne_x_tb1 ne_tx_tb1 ne_x_b1 ne_tx_b1 g_b1 g_tb1 ((own_as1 hd).app own_as32) hak (hks.imp (fun z => by show 2 + ks.length < 16; omega) (fun z => ⟨rfl, z⟩))) dK rfl rfl (lenOf pd_40 rfl) (Nat.le_of_eq rfl) rfl dD dD dD dD rfl (fun _ L6 T6 X6 hQ6 => ?_)
  obtain ⟨rfl, Nq6, K6, t6_2, c6_2, cq6, Yq6⟩ := hQ6
  have N6 := Fr.app N5 Nq6
  have sk6 : ∀ x ∈ ([b1, tb1] : List Addr), Safe Z own_EL T4.vm T5.heap x := (sfS (Safe.exa B4.hZ.alike Y_b1.1 dD dD) (sfS S_tb1 sf0))
  have DD := DD.keep K6 sk6
  have Y_pl := Y_pl.keep K6 (ninS ne_pl_b1 (ninS ne_pl_tb1 nin0))
  have Y_en := Y_en.keep K6 (ninS ne_en_b1 (ninS ne_en_tb1 nin0)) (ninS ne_te_b1 (ninS ne_te_tb1 nin0))
  have Y_x := Y_x.keep K6 (ninS ne_x_b1 (ninS ne_x_tb1 nin0)) (ninS ne_tx_b1 (ninS ne_tx_tb1 nin0))
  have Y_mp := Y_mp.keep K6 (ninS ne_mp_b1 (ninS ne_mp_tb1 nin0)) (ninS ne_tb_b1 (ninS ne_tb_tb1 nin0))
  have Y_fn := Y_fn.keep K6 (ninS ne_fn_b1 (ninS ne_fn_tb1 nin0))
  have I_te := I_te.keep K6
  have I_tx := I_tx.keep K6
  have I_tb := I_tb.keep K6
  have ZH := Nat.le_trans ZH K6.1
  have KK := KK.trans K6 (allS (Or.inr sz_b1) (allS (Or.inr sz_tb1) all0))
  have OO := OO.keep K6 (allS g_b1 (allS g_tb1 all0))
  have Y_b1 := Yq6
  have ci6 := cq6.2
  have zh7 := ZH
  have kk7 := KK.1
  have lt7_pl := Y_pl.lt
  have lt7_en := Y_en.lt
  have lt7_te := I_te.lt
  have lt7_x := Y_x.lt
  have lt7_tx := I_tx.lt
  have lt7_tb := I_tb.lt
  have lt7_mp := Y_mp.lt
  have lt7_fn := Y_fn.lt
  refine g_callV (i := 86) (W := 0) (q := 23) (a := b1) (argsL := []) (rest := []) B4 X6 (y := yy22) (kw hw 290 rfl) (kw hw 291 rfl) (kw hw 293 rfl) (kw hw 292 rfl) (kw hw 201 rfl) (kw hw 294 rfl) dD rfl Y_b1.1 (rmTS l Z a0 hw [] cz fv ev dg ca cg b1 t6_2 c6_2 ((([] ++ [Int32.ofNat (48 + d)]) ++ [Int32.ofNat 32]) ++ ks) T6.heap n0 ZH OO HW0 Y_b1 ha ci6.1 ci6.2 hn) dK rfl rfl (lenOf pd_27 rfl) (Nat.le_of_eq rfl) rfl dD dD dD dD rfl (fun _ L7 T7 X7 hQ7 => ?_)
  obtain ⟨x7, tx7, rfl, Nq7, K7, szx7, szt7, Yq7⟩ := hQ7
  have N7 := Fr.app N6 Nq7
  have sk7 : ∀ x ∈ ([] : List Addr), Safe Z own_EL T4.vm T6.heap x := sf0
  have ch7 := DD.ch
  have DD := DD.keep K7 sk7
  have Y_pl := Y_pl.keep K7 nin0
  have Y_en := Y_en.keep K7 nin0 nin0
  have Y_x := Y_x.keep K7 nin0 nin0
  have Y_mp := Y_mp.keep K7 nin0 nin0
  have Y_fn := Y_fn.keep K7 nin0
  have ZH := Nat.le_trans ZH K7.1
  have KK := KK.trans K7 all0
  have OO := OO.keep K7 all0
  have ne_pl_x7 := nz lt7_pl szx7
  have ne_en_x7 := nz lt7_en szx7
  have ne_te_x7 := nz lt7_te szx7
  have ne_x_x7 := nz lt7_x szx7
  have ne_tx_x7 := nz lt7_tx szx7
  have ne_tb_x7 := nz lt7_tb szx7
  have ne_mp_x7 := nz lt7_mp szx7
  have ne_fn_x7 := nz lt7_fn szx7
  have g_x7 := Nat.le_trans zh7 szx7
  have sz_x7 := Nat.le_trans kk7 szx7
  have S_x7 := Safe.keep K7 sk7 ch7 (Safe.new szx7)
  have ne_pl_tx7 := nz lt7_pl szt7
  have ne_en_tx7 := nz lt7_en szt7
  have ne_te_tx7 := nz lt7_te szt7
  have ne_tb_tx7 := nz lt7_tb szt7
  have ne_mp_tx7 := nz lt7_mp szt7
  have Y_x7 := Yq7
  refine g_astore (k := 4) (q := 25) (l' := #[.val (.ref pl), .val (.int (Int32.ofNat d)), .val (.ref x), .val (.ref fn), .val (.ref x7), .unset]) B4 X7 dK rfl rfl rfl ?_
  refine g_aloadN (k := 0) (q := 26) B4 X7 dK rfl rfl rfl ?_
  refine g_getF (i := 19) (q := 29) B4 X7 (host := "") (Or.inl (kw hw 52 rfl)) Via.refl rfl Y_pl.2.2.1 dK rfl (fun T8 X8 e8 => ?_)
  refine g_aload (k := 4) (q := 31) B4 X8 dK rfl rfl rfl ?_
  refine g_callF (i := 89) (cnt := 2) (W := 0) (q := 36) (a := mp) (argsL := [(.ref x7)]) (rest := []) B4 X8 (xi := yy81) (y := yy34) (mvT B4.hZ (kw hw 333 rfl)) (mvT B4.hZ (kw hw 334 rfl)) (mvT B4.hZ (kw hw 335 rfl)) (mvT B4.hZ (kw hw 336 rfl)) (mvT B4.hZ (kw hw 337 rfl)) (mvT B4.hZ (kw hw 338 rfl)) (mvT B4.hZ (kw hw 339 rfl)) (mvT B4.hZ (kw hw 340 rfl)) (kw hw 38 rfl) (kw hw 341 rfl) dD e8 Y_mp.exa (rmGt l Z a0 hw [] cz fv ev dg ca cg mp tb st x7 tx7 ((([] ++ [Int32.ofNat (48 + d)]) ++ [Int32.ofNat 32]) ++ ks) (0 : Int32) bk T7.heap n0 ZH OO HW0 Y_mp Y_x7 (Ne.symm ne_mp_x7) (Ne.symm ne_mp_tx7) (Ne.symm ne_tb_x7) (Ne.symm ne_tb_tx7) g_x7 ha hn hq1 h0h (Or.inl rfl) hb hbk hnb) dK rfl rfl (lenOf pd_41 rfl) (Nat.le_of_eq rfl) rfl dD dD dD dD rfl (fun _ L9 T9 X9 hQ9 => ?_)
  obtain ⟨rfl, Nq9, K9, hv9, hc9, Yq9⟩ := hQ9
  have N9 := Fr.app N7 Nq9
  have sk9 : ∀ x ∈ ([x7] : List Addr), Safe Z own_EL T4.vm T7.heap x := (sfS S_x7 sf0)
  have S_x7 := Safe.keep K9 sk9 DD.ch S_x7
  have DD := DD.keep K9 sk9
  have Y_pl := Y_pl.keep K9 (ninS ne_pl_x7 nin0)
  have Y_en := Y_en.keep K9 (ninS ne_en_x7 nin0) (ninS ne_te_x7 nin0)
  have Y_x := Y_x.keep K9 (ninS ne_x_x7 nin0) (ninS ne_tx_x7 nin0)
  have Y_mp := Y_mp.keep K9 (ninS ne_mp_x7 nin0) (ninS ne_tb_x7 nin0)
  have Y_fn := Y_fn.keep K9 (ninS ne_fn_x7 nin0)
  have ZH := Nat.le_trans ZH K9.1
  have KK := KK.trans K9 (allS (Or.inr sz_x7) all0)
  have OO := OO.keep K9 (allS g_x7 all0)
  have Y_x7 := Yq9
  refine g_castN (i := 32) (q := 39) B4 X9 dK rfl ?_
  refine g_astore (k := 5) (q := 41) (l' := #[.val (.ref pl), .val (.int (Int32.ofNat d)), .val (.ref x), .val (.ref fn), .val (.ref x7), .val .null]) B4 X9 dK rfl rfl rfl ?_
  refine g_aload (k := 5) (q := 43) B4 X9 dK rfl rfl rfl ?_
  refine g_ifnonnullNo (o := 54) (q := 46) B4 X9 dK rfl ?_
  refine g_aloadN (k := 0) (q := 47) B4 X9 dK rfl rfl rfl ?_
  refine g_getF (i := 10) (q := 50) B4 X9 (host := "") (Or.inl (kw hw 34 rfl)) Via.refl rfl Y_pl.2.1 dK rfl (fun T10 X10 e10 => ?_)
  refine g_iloadN (k := 1) (q := 51) B4 X10 dK rfl rfl ?_
  refine g_callV (i := 95) (W := 0) (q := 54) (a := en) (argsL := [(.int (Int32.ofNat d))]) (rest := []) B4 X10 (y := yy2) (kw hw 349 rfl) (kw hw 115 rfl) (kw hw 117 rfl) (kw hw 116 rfl) (kw hw 27 rfl) (kw hw 118 rfl) dD e10 Y_en.1 (rmU1 l Z a0 hw [] en te es (Int32.ofNat d) T9.heap n0 ZH Y_en g_en g_te (by first | omega | (simp only [List.length_append, List.length_cons, List.length_nil, own_u2, own_u4] at *; omega))) dK rfl rfl (lenOf pd_0 rfl) (Nat.le_of_eq rfl) rfl dD dD dD dD rfl (fun _ L11 T11 X11 hQ11 => ?_)
  obtain ⟨rfl, Nq11, K11, Yq11_0⟩ := hQ11
  have N11 := Fr.app N9 Nq11
  have sk11 : ∀ x ∈ ([en, te] : List Addr), Safe Z own_EL T4.vm T9.heap x := (sfS (Safe.exa B4.hZ.alike Y_en.1 dD dD) (sfS (own_Safe256 (own_EWS hw) B4.hZ Y_en.2.2.2.1) sf0))
  have S_x7 := Safe.keep K11 sk11 DD.ch S_x7
  have DD := DD.keep K11 sk11
  have Y_pl := Y_pl.keep K11 (ninS ne_pl_en (ninS ne_pl_te nin0))
  have Y_x := Y_x.keep K11 (ninS ne_x_en (ninS ne_x_te nin0)) (ninS ne_tx_en (ninS ne_tx_te nin0))
  have Y_mp := Y_mp.keep K11 (ninS (Ne.symm ne_en_mp) (ninS (Ne.symm ne_te_mp) nin0)) (ninS (Ne.symm ne_en_tb) (ninS (Ne.symm ne_te_tb) nin0))
  have Y_fn := Y_fn.keep K11 (ninS ne_fn_en (ninS ne_fn_te nin0))
  have Y_x7 := Y_x7.keep K11 (ninS (Ne.symm ne_en_x7) (ninS (Ne.symm ne_te_x7) nin0)) (ninS (Ne.symm ne_en_tx7) (ninS (Ne.symm ne_te_tx7) nin0))
  have ZH := Nat.le_trans ZH K11.1
  have KK := KK.trans K11 (allS (mi 1 rfl) (allS (mi 2 rfl) all0))
  have OO := OO.keep K11 (allS g_en (allS g_te all0))
  have Y_en := Yq11_0
  refine g_aloadN (k := 3) (q := 55) B4 X11 dK rfl rfl rfl ?_
  refine g_aloadN (k := 0) (q := 56) B4 X11 dK rfl rfl rfl ?_
  refine g_getF (i := 10) (q := 59) B4 X11 (host := "") (Or.inl (kw hw 34 rfl)) Via.refl rfl Y_pl.2.1 dK rfl (fun T12 X12 e12 => ?_)
  refine g_lam (xi := yy82) (y := yy79) (host := zz3) (C := zz0) (sh := own_s1) (i := 98) (cnt := 2) (W := 0) (n0 := n0) (q := 64) B4 X12 (kw hw 350 rfl) (kw hw 351 rfl) (mvT B4.hZ (kw hw 352 rfl)) (kw hw 354 rfl) (kw hw 20 rfl) (kw hw 355 rfl) (kw hw 194 rfl) dK dK dD dK dK dK dK (fun sig z => by cases pd_42.symm.trans z; rfl) e12 Y_fn Y_en.1 (rmLu l Z a0 hw [] cz fv ev dg ca cg en te (es ++ [own_b8 (Int32.ofNat d)]) x tx ks T11.heap n0 ZH OO HW0 Y_x Y_en (Ne.symm ne_x_en) (Ne.symm ne_tx_en) (Ne.symm ne_x_te) (Ne.symm ne_tx_te) g_en g_te hak hkl hk1 (by first | omega | (simp only [List.length_append, List.length_cons, List.length_nil, own_u2, own_u4] at *; omega))) (fun v h L z => ⟨z.1, z.2.1⟩) dK rfl (Nat.le_of_eq rfl) dD dD dD dD rfl (fun L13 Lx13 T13 X13 Nq13 hQ13 => ?_)
  obtain ⟨-, -, K13, Yq13⟩ := hQ13
  have N13 := Fr.app N11 Nq13
  have sk13 : ∀ x ∈ ([en, te] : List Addr), Safe Z own_EL T4.vm T11.heap x := (sfS (Safe.exa B4.hZ.alike Y_en.1 dD dD) (sfS (own_Safe256 (own_EWS hw) B4.hZ Y_en.2.2.2.1) sf0))
  have S_x7 := Safe.keep K13 sk13 DD.ch S_x7
  have DD := DD.keep K13 sk13
  have Y_pl := Y_pl.keep K13 (ninS ne_pl_en (ninS ne_pl_te nin0))
  have Y_mp := Y_mp.keep K13 (ninS (Ne.symm ne_en_mp) (ninS (Ne.symm ne_te_mp) nin0)) (ninS (Ne.symm ne_en_tb) (ninS (Ne.symm ne_te_tb) nin0))
  have Y_x7 := Y_x7.keep K13 (ninS (Ne.symm ne_en_x7) (ninS (Ne.symm ne_te_x7) nin0)) (ninS (Ne.symm ne_en_tx7) (ninS (Ne.symm ne_te_tx7) nin0))
  have ZH := Nat.le_trans ZH K13.1
  have KK := KK.trans K13 (allS (mi 1 rfl) (allS (mi 2 rfl) all0))
  have OO := OO.keep K13 (allS g_en (allS g_te all0))
  have Y_en := Yq13
  obtain ⟨E_pl, F_entries_pl, F_numbers_pl, F_count_pl⟩ := Y_pl
  refine g_aloadN (k := 0) (q := 65) B4 X13 dK rfl rfl rfl ?_
  refine g_dup (q := 66) B4 X13 dK rfl rfl ?_
  refine g_getF (i := 55) (q := 69) B4 X13 (host := "") (Or.inl (kw hw 393 rfl)) Via.refl rfl F_count_pl dK rfl (fun T14 X14 e14 => ?_)
  refine g_iconst (o := 1) (q := 70) (v := 1) B4 X14 dK rfl rfl ?_
  refine g_iadd (q := 71) B4 X14 dK rfl rfl ?_
  rw [own_suc]
  refine g_putF (i := 55) (q := 74) B4 X14 (host := "") (Or.inl (kw hw 393 rfl)) Via.refl e14 F_count_pl E_pl (Or.inl (kw hw 394 rfl)) (kw hw 19 rfl) (ty := .int) dD rfl rfl dK rfl (fun T15 h15 X15 e15 W15 => ?_)
  have N15 := Fr.snoc X15 N13 g_pl
  have F_count_pl := F_count_pl.same W15
  have sw15 : Safe Z own_EL T4.vm T13.heap pl := (Safe.exa B4.hZ.alike E_pl dD dD)
  have S_x7 := Safe.wr W15 sw15 DD.ch S_x7
  have DD := DD.wr W15 sw15
  have Y_mp := Y_mp.other W15 (Ne.symm ne_pl_mp) (Ne.symm ne_pl_tb)
  have Y_x7 := Y_x7.other W15 (Ne.symm ne_pl_x7) (Ne.symm ne_pl_tx7)
  have Y_en := Y_en.other W15 (Ne.symm ne_pl_en) (Ne.symm ne_pl_te)
  have E_pl := E_pl.wr W15
  have F_entries_pl := F_entries_pl.other W15 (Or.inr (slot_ne (Or.inr (kw hw 35 rfl)) (Or.inl (kw hw 394 rfl)) dD (t := (.object zz0)) (t' := .int) dD dD))
  have F_numbers_pl := F_numbers_pl.other W15 (Or.inr (slot_ne (Or.inr (kw hw 53 rfl)) (Or.inl (kw hw 394 rfl)) dD (t := (.object zz15)) (t' := .int) dD dD))
  have ZH := Nat.le_trans ZH (Nat.le_of_eq W15.size.symm)
  have KK := KK.wr W15 (mi 0 rfl)
  have OO := OO.wr W15 g_pl
  refine g_aloadN (k := 0) (q := 75) B4 X15 dK rfl rfl rfl ?_
  refine g_getF (i := 55) (q := 78) B4 X15 (host := "") (Or.inl (kw hw 393 rfl)) Via.refl e15 F_count_pl dK rfl (fun T16 X16 e16 => ?_)
  refine g_callS (i := 103) (W := 0) (q := 81) (argsL := [(.int (Int32.ofNat (cn + 1)))]) (rest := []) B4 X16 (y := yy38) (kw hw 395 rfl) (kw hw 396 rfl) (kw hw 231 rfl) (kw hw 397 rfl) dD e16 (rmVO l Z a0 hw [] cz fv ev dg ca cg (cn + 1) h15 n0 ZH OO HW0 (by omega)) dK rfl rfl (lenOf pd_43 rfl) (Nat.le_of_eq rfl) rfl dD dD dD dD rfl (fun _ L17 T17 X17 hQ17 => ?_)
  obtain ⟨rfl, Nq17, e17⟩ := hQ17
  have N17 := Fr.app N15 Nq17
  refine g_astore (k := 5) (q := 83) (l' := #[.val (.ref pl), .val (.int (Int32.ofNat d)), .val (.ref x), .val (.ref fn), .val (.ref x7), .val (.ref (cg ((cn + 1) + 128)))]) B4 X17 dK rfl rfl rfl ?_
  refine g_aloadN (k := 0) (q := 84) B4 X17 dK rfl rfl rfl ?_
  refine g_getF (i := 19) (q := 87) B4 X17 (host := "") (Or.inl (kw hw 52 rfl)) Via.refl e17 F_numbers_pl dK rfl (fun T18 X18 e18 => ?_)
  refine g_aload (k := 4) (q := 89) B4 X18 dK rfl rfl rfl ?_
  refine g_aload (k := 5) (q := 91) B4 X18 dK rfl rfl rfl ?_
  have kkp := KK.1
  refine g_callF (i := 107) (cnt := 3) (W := 0) (q := 96) (a := mp) (argsL := [(.ref x7), (.ref (cg ((cn + 1) + 128)))]) (rest := []) B4 X18 (xi := yy83) (y := yy37) (mvT B4.hZ (kw hw 401 rfl)) (mvT B4.hZ (kw hw 402 rfl)) (mvT B4.hZ (kw hw 403 rfl)) (mvT B4.hZ (kw hw 404 rfl)) (mvT B4.hZ (kw hw 405 rfl)) (mvT B4.hZ (kw hw 406 rfl)) (mvT B4.hZ (kw hw 407 rfl)) (mvT B4.hZ (kw hw 340 rfl)) (kw hw 38 rfl) (kw hw 408 rfl) dD e18 Y_mp.exa (rmPt l Z a0 hw [] cz fv ev dg ca cg mp tb st x7 tx7 ((([] ++ [Int32.ofNat (48 + d)]) ++ [Int32.ofNat 32]) ++ ks) hv9 bk (cg ((cn + 1) + 128)) h15 n0 ZH OO HW0 Y_mp Y_x7 (Ne.symm ne_mp_x7) (Ne.symm ne_mp_tx7) (Ne.symm ne_tb_x7) (Ne.symm ne_tb_tx7) g_x7 ha hn hq1 h0h hc9 hb hbk hnb g_mp g_tb hst) dK rfl rfl (lenOf pd_44 rfl) (Nat.le_of_eq rfl) rfl dD dD dD dD rfl (fun _ L19 T19 X19 hQ19 => ?_)
  obtain ⟨rfl, Nq19, K19, tbn, cqn, Yqn⟩ := hQ19
  have N19 := Fr.app N17 Nq19
  have sk19 : ∀ x ∈ ([mp, tb, x7] : List Addr), Safe Z own_EL T4.vm h15 x := (sfS (Safe.exa B4.hZ.alike Y_mp.exa dD dD) (sfS (own_Mp.safeT B4.hZ.alike Y_mp) (sfS S_x7 sf0)))
  have DD := DD.keep K19 sk19
  have Y_en := Y_en.keep K19 (ninS ne_en_mp (ninS ne_en_tb (ninS ne_en_x7 nin0))) (ninS ne_te_mp (ninS ne_te_tb (ninS ne_te_x7 nin0)))
  have E_pl := E_pl.keep K19
  have F_entries_pl := F_entries_pl.keep K19 (ninS ne_pl_mp (ninS ne_pl_tb (ninS ne_pl_x7 nin0)))
  have F_numbers_pl := F_numbers_pl.keep K19 (ninS ne_pl_mp (ninS ne_pl_tb (ninS ne_pl_x7 nin0)))
  have F_count_pl := F_count_pl.keep K19 (ninS ne_pl_mp (ninS ne_pl_tb (ninS ne_pl_x7 nin0)))
  have ZH := Nat.le_trans ZH K19.1
  have KK := KK.trans K19 (allS (mi 3 rfl) (allS (mi 4 rfl) (allS (Or.inr sz_x7) all0)))
  have OO := OO.keep K19 (allS g_mp (allS g_tb (allS g_x7 all0)))
  refine g_pop (q := 97) B4 X19 dK rfl rfl ?_
  refine g_aload (k := 5) (q := 99) B4 X19 dK rfl rfl rfl ?_
  refine g_callV (i := 111) (W := 0) (q := 102) (a := (cg ((cn + 1) + 128))) (argsL := []) (rest := []) B4 X19 (y := yy39) (kw hw 477 rfl) (kw hw 478 rfl) (kw hw 480 rfl) (kw hw 479 rfl) (kw hw 231 rfl) (kw hw 481 rfl) dD rfl ((hcg _ (by omega)).1.ext OO.2) (rmIV l Z a0 hw [] (cg ((cn + 1) + 128)) ((Int32.ofNat ((cn + 1) + 128)) - 128) T19.heap n0 ZH ((hcg _ (by omega)).1.ext OO.2) ((hcg _ (by omega)).2.ext OO.2)) dK rfl rfl (lenOf pd_3 rfl) (Nat.le_of_eq rfl) rfl dD dD dD dD rfl (fun _ L20 T20 X20 hQ20 => ?_)
  obtain ⟨rfl, Nq20, e20⟩ := hQ20
  have N20 := Fr.app N19 Nq20
  exact g_wretI B4 X20 DD (own_EWS hw).ew hh dK dD dD e20 (by
    exact ⟨by rw [own_m128], N20, KK, tbn, cqn.imp id (fun z => Nat.le_trans kkp z), ⟨E_pl, F_entries_pl, F_numbers_pl, F_count_pl⟩, Y_en, Yqn⟩)
theorem pd_45 : parseMethodDescriptor "([ILcom/example/eurydice/eurydice/model/ClassFileWriter$Bytes;)V" = some ⟨[(.array .int), (.object "com/example/eurydice/eurydice/model/ClassFileWriter$Bytes")], none⟩ := by decide +kernel
def QrmCe (Z : State) (cz : Int32) (fv : Value) (ev dg ca : Addr) (cg : Nat → Addr) (pl en : Addr) (te mp tb : Addr) (st : List Nat) (cn : Nat) (es : List Int32) (d : Nat) (x tx : Addr) (ks : List Int32) (fn ia : Addr) (rv : Int32) (bk : Nat) (h0 : Heap) (n0 : Nat) (v : Option Value) (h : Heap) (L : List Loc) : Prop := v = some (.int (Int32.ofNat (cn + 1))) ∧ Fr n0 L ∧ Keep h0 h [pl, en, te, mp, tb] ∧ ∃ tb' : Addr, (tb' = tb ∨ h0.size ≤ tb') ∧ own_P0 Z h pl en mp (Int32.ofNat (cn + 1)) ∧ own_By Z h en te ((es ++ [own_b8 (Int32.ofNat d)]) ++ own_u2 rv) ∧ own_Mp Z h mp tb' (bk :: st)
theorem rmCe (l : Launch) (Z : State) (a0 : Array Value) (hw : own_H a0 Z) (ws : List Jvm.Cond) (cz : Int32) (fv : Value) (ev dg ca : Addr) (cg : Nat → Addr) (pl en : Addr) (te mp tb : Addr) (st : List Nat) (cn : Nat) (es : List Int32) (d : Nat) (x tx : Addr) (ks : List Int32) (fn ia : Addr) (rv : Int32) (bk : Nat) (h0 : Heap) (n0 : Nat) (ZH : n0 ≤ h0.size) (OO : Old Z n0 h0) (HW : own_W Z cz fv ev dg ca cg) (Y_pl : own_P0 Z h0 pl en mp (Int32.ofNat cn)) (Y_en : own_By Z h0 en te es) (Y_x : own_St Z h0 x tx ks) (Y_mp : own_Mp Z h0 mp tb st) (Y_fn : own_Fn Z h0 fn own_s2 zz3 (.ref ia)) (G_ia : own_Arf Z h0 ia .int (1 : Int32) (fun i => .int ((fun _ => rv : Nat → Int32) i))) (ne_pl_en : pl ≠ en) (ne_pl_te : pl ≠ te) (ne_pl_mp : pl ≠ mp) (ne_pl_tb : pl ≠ tb) (ne_en_mp : en ≠ mp) (ne_en_tb : en ≠ tb) (ne_te_mp : te ≠ mp) (ne_te_tb : te ≠ tb) (ne_x_pl : x ≠ pl) (ne_x_en : x ≠ en) (ne_x_te : x ≠ te) (ne_x_mp : x ≠ mp) (ne_x_tb : x ≠ tb) (ne_tx_pl : tx ≠ pl) (ne_tx_en : tx ≠ en) (ne_tx_te : tx ≠ te) (ne_tx_mp : tx ≠ mp) (ne_tx_tb : tx ≠ tb) (ne_fn_pl : fn ≠ pl) (ne_fn_en : fn ≠ en) (ne_fn_te : fn ≠ te) (ne_fn_mp : fn ≠ mp) (ne_fn_tb : fn ≠ tb) (ne_ia_pl : ia ≠ pl) (ne_ia_en : ia ≠ en) (ne_ia_te : ia ≠ te) (ne_ia_mp : ia ≠ mp) (ne_ia_tb : ia ≠ tb) (g_pl : n0 ≤ pl) (g_en : n0 ≤ en) (g_te : n0 ≤ te) (g_mp : n0 ≤ mp) (g_tb : n0 ≤ tb) (hd : d < 10) (hak : own_as ks) (hkl : ks.length < 100) (hk1 : 0 < ks.length) (hks : ks.length < 14 ∨ ks.length = 16) (hes : es.length + ks.length + 8 ≤ 256) (hcn : cn < 100) (hst : st.length < 11) (ha : own_as ((([] ++ [Int32.ofNat (48 + d)]) ++ [Int32.ofNat 32]) ++ ks)) (hn : ((([] ++ [Int32.ofNat (48 + d)]) ++ [Int32.ofNat 32]) ++ ks).length < 100) (hq1 : 1 < ((([] ++ [Int32.ofNat (48 + d)]) ++ [Int32.ofNat 32]) ++ ks).length) (h0h : ¬ (own_hs 0 ((([] ++ [Int32.ofNat (48 + d)]) ++ [Int32.ofNat 32]) ++ ks)) = (0 : Int32)) (hb : ((15 : Int32) &&& ((own_hs 0 ((([] ++ [Int32.ofNat (48 + d)]) ++ [Int32.ofNat 32]) ++ ks)) ^^^ (((own_hs 0 ((([] ++ [Int32.ofNat (48 + d)]) ++ [Int32.ofNat 32]) ++ ks)).toUInt32 >>> ((16 : Int32) &&& 31).toUInt32).toInt32))) = Int32.ofNat bk) (hbk : bk < 16) (hnb : bk ∉ st) :
    own_MetW l Z yy26 prog_83_method_11_code 6 (some .int) ws (own_R 7 9 186 106) #[(.ref pl), (.int (Int32.ofNat d)), (.ref x), (.ref fn)] h0 (QrmCe Z cz fv ev dg ca cg pl en te mp tb st cn es d x tx ks fn ia rv bk h0 n0) 9 186 := by
  refine own_hw (fr := #[.val (.ref pl), .val (.int (Int32.ofNat d)), .val (.ref x), .val (.ref fn), .unset, .unset]) (plainFor_of_name pn_8) (fun {p e s m below meth c s₁} B X0 e0 hh DD Nm => ?_)
  have N0 := Fr.nil n0
  have KK := Keep.refl h0 [pl, en, te, mp, tb]
  have HW0 := HW
  obtain ⟨SC, hcz, SF, hfv, SE, SD, GD, SH, SK2, GC, hcg⟩ := HW
  have I_te := Y_en.in_tb
  have I_tx := Y_x.in_tx
  have I_tb := Y_mp.in_tb
  refine g_new (i := 75) (q := 3) B X0 (kw hw 199 rfl) (kw hw 200 rfl) (kw hw 201 rfl) e0 dK dD dD rfl (fun b1 T1 h1 gz1 X1 e1 E1 A1 D1 => ?_)
  have ne_pl_b1 := nl Y_pl.lt gz1
  have ne_en_b1 := nl Y_en.lt gz1
  have ne_te_b1 := nl I_te.lt gz1
  have ne_x_b1 := nl Y_x.lt gz1
  have ne_tx_b1 := nl I_tx.lt gz1
  have ne_tb_b1 := nl I_tb.lt gz1
  have ne_mp_b1 := nl Y_mp.lt gz1
  have ne_fn_b1 := nl Y_fn.lt gz1
  have ne_ia_b1 := nl G_ia.lt gz1
  have g_b1 := gl ZH gz1
  have sz_b1 := gl KK.1 gz1
  have DD := DD.ext E1
  have Y_pl := Y_pl.ext E1
  have Y_en := Y_en.ext E1
  have Y_x := Y_x.ext E1
  have Y_mp := Y_mp.ext E1
  have Y_fn := Y_fn.ext E1
  have I_te := I_te.ext E1
  have I_tx := I_tx.ext E1
  have I_tb := I_tb.ext E1
  have G_ia := G_ia.ext E1
  have ZH := Nat.le_trans ZH E1.1
  have KK := KK.ext E1
  have OO := OO.ext E1
  have E_b1 := A1
  have F_value_b1 : Fld Z h1 b1 zz2 "value" "[B" .null := D1 (Or.inl (kw hw 214 rfl)) (ty := (.array .byte)) dD
  have F_coder_b1 : Fld Z h1 b1 zz2 "coder" "B" (.int (0 : Int32)) := D1 (Or.inl (kw hw 216 rfl)) (ty := .byte) dD
  have F_count_b1 : Fld Z h1 b1 zz2 "count" "I" (.int (0 : Int32)) := D1 (Or.inl (kw hw 228 rfl)) (ty := .int) dD
  refine g_dup (q := 4) B X1 dK rfl rfl ?_
  have zh2 := ZH
  have kk2 := KK.1
  have lt2_pl := Y_pl.lt
  have lt2_en := Y_en.lt
  have lt2_te := I_te.lt
  have lt2_x := Y_x.lt
  have lt2_tx := I_tx.lt
  have lt2_tb := I_tb.lt
  have lt2_mp := Y_mp.lt
  have lt2_fn := Y_fn.lt
  have lt2_ia := G_ia.lt
  refine g_callI (i := 77) (W := 1) (q := 7) (a := b1) (argsL := []) (rest := [(.ref b1)]) B X1 (y := yy17) rfl (kw hw 202 rfl) (kw hw 203 rfl) (kw hw 201 rfl) (kw hw 204 rfl) dD e1 (rmSi l Z a0 hw [] cz fv ev dg ca cg b1 h1 n0 ZH OO HW0 E_b1 F_value_b1 F_coder_b1 F_count_b1 g_b1) dK rfl rfl (lenOf pd_1 rfl) (Nat.le_of_eq rfl) rfl dD dD dD dD rfl (fun _ L2 T2 X2 hQ2 => ?_)
  obtain ⟨rfl, Nq2, K2, tb1, szq2, Yq2⟩ := hQ2
  have N2 := Fr.app N0 Nq2
  have sk2 : ∀ x ∈ ([b1] : List Addr), Safe Z own_EL s.vm h1 x := (sfS (Safe.exa B.hZ.alike E_b1 dD dD) sf0)
  have ch2 := DD.ch
  have DD := DD.keep K2 sk2
  have Y_pl := Y_pl.keep K2 (ninS ne_pl_b1 nin0)
  have Y_en := Y_en.keep K2 (ninS ne_en_b1 nin0) (ninS ne_te_b1 nin0)
  have Y_x := Y_x.keep K2 (ninS ne_x_b1 nin0) (ninS ne_tx_b1 nin0)
  have Y_mp := Y_mp.keep K2 (ninS ne_mp_b1 nin0) (ninS ne_tb_b1 nin0)
  have Y_fn := Y_fn.keep K2 (ninS ne_fn_b1 nin0)
  have I_te := I_te.keep K2
  have I_tb := I_tb.keep K2
  have G_ia := G_ia.keep K2 (ninS ne_ia_b1 nin0)
  have ZH := Nat.le_trans ZH K2.1
  have KK := KK.trans K2 (allS (Or.inr sz_b1) all0)
  have OO := OO.keep K2 (allS g_b1 all0)
  have Y_b1 := Yq2
  have ne_pl_tb1 := nz lt2_pl szq2
  have ne_en_tb1 := nz lt2_en szq2
  have ne_te_tb1 := nz lt2_te szq2
  have ne_x_tb1 := nz lt2_x szq2
  have ne_tx_tb1 := nz lt2_tx szq2
  have ne_tb_tb1 := nz lt2_tb szq2
  have ne_mp_tb1 := nz lt2_mp szq2
  have ne_fn_tb1 := nz lt2_fn szq2
  have ne_ia_tb1 := nz lt2_ia szq2
  have g_tb1 := Nat.le_trans zh2 szq2
  have sz_tb1 := Nat.le_trans kk2 szq2
  have S_tb1 := Safe.keep K2 sk2 ch2 (Safe.new szq2)
  have I_tb1 := Y_b1.in_tb
  refine g_iloadN (k := 1) (q := 8) B X2 dK rfl rfl ?_
  refine g_callV (i := 78) (W := 0) (q := 11) (a := b1) (argsL := [(.int (Int32.ofNat d))]) (rest := []) B X2 (y := yy19) (kw hw 217 rfl) (kw hw 218 rfl) (kw hw 220 rfl) (kw hw 219 rfl) (kw hw 201 rfl) (kw hw 221 rfl) dD rfl Y_b1.1 (rmBI l Z a0 hw [] cz fv ev dg ca cg b1 tb1 [] d T2.heap n0 ZH OO HW0 Y_b1 g_b1 g_tb1 hd (by simp)) dK rfl rfl (lenOf pd_26 rfl) (Nat.le_of_eq rfl) rfl dD dD dD dD rfl (fun _ L3 T3 X3 hQ3 => ?_)
  obtain ⟨rfl, Nq3, K3, Yq3_0⟩ := hQ3
  have N3 := Fr.app N2 Nq3
  have sk3 : ∀ x ∈ ([b1, tb1] : List Addr), Safe Z own_EL s.vm T2.heap x := (sfS (Safe.exa B.hZ.alike Y_b1.1 dD dD) (sfS S_tb1 sf0))
  have S_tb1 := Safe.keep K3 sk3 DD.ch S_tb1
  have DD := DD.keep K3 sk3
  have Y_pl := Y_pl.keep K3 (ninS ne_pl_b1 (ninS ne_pl_tb1 nin0))
  have Y_en := Y_en.keep K3 (ninS ne_en_b1 (ninS ne_en_tb1 nin0)) (ninS ne_te_b1 (ninS ne_te_tb1 nin0))
  have Y_x := Y_x.keep K3 (ninS ne_x_b1 (ninS ne_x_tb1 nin0)) (ninS ne_tx_b1 (ninS ne_tx_tb1 nin0))
  have Y_mp := Y_mp.keep K3 (ninS ne_mp_b1 (ninS ne_mp_tb1 nin0)) (ninS ne_tb_b1 (ninS ne_tb_tb1 nin0))
  have Y_fn := Y_fn.keep K3 (ninS ne_fn_b1 (ninS ne_fn_tb1 nin0))
  have I_te := I_te.keep K3
  have I_tb := I_tb.keep K3
  have G_ia := G_ia.keep K3 (ninS ne_ia_b1 (ninS ne_ia_tb1 nin0))
  have I_tb1 := I_tb1.keep K3
  have ZH := Nat.le_trans ZH K3.1
  have KK := KK.trans K3 (allS (Or.inr sz_b1) (allS (Or.inr sz_tb1) all0))
  have OO := OO.keep K3 (allS g_b1 (allS g_tb1 all0))
  have Y_b1 := Yq3_0
  refine g_wldc (i := 81) (nn := 4) (text := " ") (cs := [Int32.ofNat 32]) (q := 13) B X3 DD (own_EWS hw).ew (kw hw 247 rfl) (own_WS hw) (List.mem_of_getElem? (i := 1) rfl) ⟨by decide, by decide⟩ dD rfl dK dD dD dD dD rfl (fun a4 d4 T4 h4 X4 B4 D4 e4 E4 Yq4 CR4 NE4 => ?_)
  have S_tb1 := CR4.safe I_tb1.lt S_tb1
  have Y_pl := Y_pl.ext E4
  have Y_en := Y_en.ext E4
  have Y_x := Y_x.ext E4
  have Y_mp := Y_mp.ext E4
  have Y_fn := Y_fn.ext E4
  have Y_b1 := Y_b1.ext E4
  have I_te := I_te.ext E4
  have I_tb := I_tb.ext E4
  have G_ia := G_ia.ext E4
  have ZH := Nat.le_trans ZH E4.1
  have KK := KK.ext E4
  have OO := OO.ext E4
  have DD := D4
  have Y_a4 := Yq4
  have ne_b1_a4 := (NE4 b1 (Safe.exa B4.hZ.alike Y_b1.1 dD dD)).1
  have ne_b1_d4 := (NE4 b1 (Safe.exa B4.hZ.alike Y_b1.1 dD dD)).2
  have ne_tb1_a4 := (NE4 tb1 S_tb1).1
  have ne_tb1_d4 := (NE4 tb1 S_tb1).2
  refine g_callV (i := 83) (W := 0) (q := 16) (a := b1) (argsL := [(.ref a4)]) (rest := []) B4 X4 (y := yy10) (kw hw 248 rfl) (kw hw 249 rfl) (kw hw 251 rfl) (kw hw 250 rfl) (kw hw 201 rfl) (kw hw 252 rfl) dD e4 Y_b1.1 (rmBSx l Z a0 hw [] cz fv ev dg ca cg b1 tb1 ([] ++ [Int32.ofNat (48 + d)]) a4 d4 [Int32.ofNat 32] h4 n0 ZH OO HW0 Y_b1 Y_a4 (Ne.symm ne_tb1_a4) (Ne.symm ne_tb1_d4) (Ne.symm ne_b1_a4) (Ne.symm ne_b1_d4) g_b1 g_tb1 (own_as1 hd) own_as32 (by show 2 < 16; omega)) dK rfl rfl (lenOf pd_40 rfl) (Nat.le_of_eq rfl) rfl dD dD dD dD rfl (fun _ L5 T5 X5 hQ5 => ?_)
  obtain ⟨rfl, Nq5, K5, Yq5_0⟩ := hQ5
  have N5 := Fr.app N3 Nq5
  have sk5 : ∀ x ∈ ([b1, tb1] : List Addr), Safe Z own_EL T4.vm h4 x := (sfS (Safe.exa B4.hZ.alike Y_b1.1 dD dD) (sfS S_tb1 sf0))
  have S_tb1 := Safe.keep K5 sk5 DD.ch S_tb1
  have DD := DD.keep K5 sk5
  have Y_pl := Y_pl.keep K5 (ninS ne_pl_b1 (ninS ne_pl_tb1 nin0))
  have Y_en := Y_en.keep K5 (ninS ne_en_b1 (ninS ne_en_tb1 nin0)) (ninS ne_te_b1 (ninS ne_te_tb1 nin0))
  have Y_x := Y_x.keep K5 (ninS ne_x_b1 (ninS ne_x_tb1 nin0)) (ninS ne_tx_b1 (ninS ne_tx_tb1 nin0))
  have Y_mp := Y_mp.keep K5 (ninS ne_mp_b1 (ninS ne_mp_tb1 nin0)) (ninS ne_tb_b1 (ninS ne_tb_tb1 nin0))
  have Y_fn := Y_fn.keep K5 (ninS ne_fn_b1 (ninS ne_fn_tb1 nin0))
  have I_te := I_te.keep K5
  have I_tb := I_tb.keep K5
  have G_ia := G_ia.keep K5 (ninS ne_ia_b1 (ninS ne_ia_tb1 nin0))
  have ZH := Nat.le_trans ZH K5.1
  have KK := KK.trans K5 (allS (Or.inr sz_b1) (allS (Or.inr sz_tb1) all0))
  have OO := OO.keep K5 (allS g_b1 (allS g_tb1 all0))
  have Y_b1 := Yq5_0
  refine g_aloadN (k := 2) (q := 17) B4 X5 dK rfl rfl rfl ?_
  refine g_callV (i := 83) (W := 0) (q := 20) (a := b1) (argsL := [(.ref x)]) (rest := []) B4 X5 (y := yy10) (kw hw 248 rfl) (kw hw 249 rfl) (kw hw 251 rfl) (kw hw 250 rfl) (kw hw 201 rfl) (kw hw 252 rfl) dD rfl Y_b1.1 (rmBS l Z a0 hw [] cz fv ev dg ca cg b1 tb1 (([] ++ [Int32.ofNat (48 + d)]) ++ [Int32.ofNat 32]) x tx ks T5.heap n0 ZH OO HW0 Y_b1 Y_x ne_x_tb1 ne_tx_tb1 ne_x_b1 ne_tx_b1 g_b1 g_tb1 ((own_as1 hd).app own_as32) hak (hks.imp (fun z => by show 2 + ks.length < 16; omega) (fun z => ⟨rfl, z⟩))) dK rfl rfl (lenOf pd_40 rfl) (Nat.le_of_eq rfl) rfl dD dD dD dD rfl (fun _ L6 T6 X6 hQ6 => ?_)
  obtain ⟨rfl, Nq6, K6, t6_2, c6_2, cq6, Yq6⟩ := hQ6
  have N6 := Fr.app N5 Nq6
  have sk6 : ∀ x ∈ ([b1, tb1] : List Addr), Safe Z own_EL T4.vm T5.heap x := (sfS (Safe.exa B4.hZ.alike Y_b1.1 dD dD) (sfS S_tb1 sf0))
  have DD := DD.keep K6 sk6
  have Y_pl := Y_pl.keep K6 (ninS ne_pl_b1 (ninS ne_pl_tb1 nin0))
  have Y_en := Y_en.keep K6 (ninS ne_en_b1 (ninS ne_en_tb1 nin0)) (ninS ne_te_b1 (ninS ne_te_tb1 nin0))
  have Y_mp := Y_mp.keep K6 (ninS ne_mp_b1 (ninS ne_mp_tb1 nin0)) (ninS ne_tb_b1 (ninS ne_tb_tb1 nin0))
  have Y_fn := Y_fn.keep K6 (ninS ne_fn_b1 (ninS ne_fn_tb1 nin0))
  have I_te := I_te.keep K6
  have I_tb := I_tb.keep K6
  have G_ia := G_ia.keep K6 (ninS ne_ia_b1 (ninS ne_ia_tb1 nin0))
  have ZH := Nat.le_trans ZH K6.1
  have KK := KK.trans K6 (allS (Or.inr sz_b1) (allS (Or.inr sz_tb1) all0))
  have OO := OO.keep K6 (allS g_b1 (allS g_tb1 all0))
  have Y_b1 := Yq6
  have ci6 := cq6.2
  have zh7 := ZH
  have kk7 := KK.1
  have lt7_pl := Y_pl.lt
  have lt7_en := Y_en.lt
  have lt7_te := I_te.lt
  have lt7_tb := I_tb.lt
  have lt7_mp := Y_mp.lt
  have lt7_fn := Y_fn.lt
  have lt7_ia := G_ia.lt
  refine g_callV (i := 86) (W := 0) (q := 23) (a := b1) (argsL := []) (rest := []) B4 X6 (y := yy22) (kw hw 290 rfl) (kw hw 291 rfl) (kw hw 293 rfl) (kw hw 292 rfl) (kw hw 201 rfl) (kw hw 294 rfl) dD rfl Y_b1.1 (rmTS l Z a0 hw [] cz fv ev dg ca cg b1 t6_2 c6_2 ((([] ++ [Int32.ofNat (48 + d)]) ++ [Int32.ofNat 32]) ++ ks) T6.heap n0 ZH OO HW0 Y_b1 ha ci6.1 ci6.2 hn) dK rfl rfl (lenOf pd_27 rfl) (Nat.le_of_eq rfl) rfl dD dD dD dD rfl (fun _ L7 T7 X7 hQ7 => ?_)
  obtain ⟨x7, tx7, rfl, Nq7, K7, szx7, szt7, Yq7⟩ := hQ7
  have N7 := Fr.app N6 Nq7
  have sk7 : ∀ x ∈ ([] : List Addr), Safe Z own_EL T4.vm T6.heap x := sf0
  have ch7 := DD.ch
  have DD := DD.keep K7 sk7
  have Y_pl := Y_pl.keep K7 nin0
  have Y_en := Y_en.keep K7 nin0 nin0
  have Y_mp := Y_mp.keep K7 nin0 nin0
  have Y_fn := Y_fn.keep K7 nin0
  have G_ia := G_ia.keep K7 nin0
  have ZH := Nat.le_trans ZH K7.1
  have KK := KK.trans K7 all0
  have OO := OO.keep K7 all0
  have ne_pl_x7 := nz lt7_pl szx7
  have ne_en_x7 := nz lt7_en szx7
  have ne_te_x7 := nz lt7_te szx7
  have ne_tb_x7 := nz lt7_tb szx7
  have ne_mp_x7 := nz lt7_mp szx7
  have ne_fn_x7 := nz lt7_fn szx7
  have ne_ia_x7 := nz lt7_ia szx7
  have g_x7 := Nat.le_trans zh7 szx7
  have sz_x7 := Nat.le_trans kk7 szx7
  have S_x7 := Safe.keep K7 sk7 ch7 (Safe.new szx7)
  have ne_pl_tx7 := nz lt7_pl szt7
  have ne_en_tx7 := nz lt7_en szt7
  have ne_te_tx7 := nz lt7_te szt7
  have ne_tb_tx7 := nz lt7_tb szt7
  have ne_mp_tx7 := nz lt7_mp szt7
  have Y_x7 := Yq7
  refine g_astore (k := 4) (q := 25) (l' := #[.val (.ref pl), .val (.int (Int32.ofNat d)), .val (.ref x), .val (.ref fn), .val (.ref x7), .unset]) B4 X7 dK rfl rfl rfl ?_
  refine g_aloadN (k := 0) (q := 26) B4 X7 dK rfl rfl rfl ?_
  refine g_getF (i := 19) (q := 29) B4 X7 (host := "") (Or.inl (kw hw 52 rfl)) Via.refl rfl Y_pl.2.2.1 dK rfl (fun T8 X8 e8 => ?_)
  refine g_aload (k := 4) (q := 31) B4 X8 dK rfl rfl rfl ?_
  refine g_callF (i := 89) (cnt := 2) (W := 0) (q := 36) (a := mp) (argsL := [(.ref x7)]) (rest := []) B4 X8 (xi := yy81) (y := yy34) (mvT B4.hZ (kw hw 333 rfl)) (mvT B4.hZ (kw hw 334 rfl)) (mvT B4.hZ (kw hw 335 rfl)) (mvT B4.hZ (kw hw 336 rfl)) (mvT B4.hZ (kw hw 337 rfl)) (mvT B4.hZ (kw hw 338 rfl)) (mvT B4.hZ (kw hw 339 rfl)) (mvT B4.hZ (kw hw 340 rfl)) (kw hw 38 rfl) (kw hw 341 rfl) dD e8 Y_mp.exa (rmGt l Z a0 hw [] cz fv ev dg ca cg mp tb st x7 tx7 ((([] ++ [Int32.ofNat (48 + d)]) ++ [Int32.ofNat 32]) ++ ks) (0 : Int32) bk T7.heap n0 ZH OO HW0 Y_mp Y_x7 (Ne.symm ne_mp_x7) (Ne.symm ne_mp_tx7) (Ne.symm ne_tb_x7) (Ne.symm ne_tb_tx7) g_x7 ha hn hq1 h0h (Or.inl rfl) hb hbk hnb) dK rfl rfl (lenOf pd_41 rfl) (Nat.le_of_eq rfl) rfl dD dD dD dD rfl (fun _ L9 T9 X9 hQ9 => ?_)
  obtain ⟨rfl, Nq9, K9, hv9, hc9, Yq9⟩ := hQ9
  have N9 := Fr.app N7 Nq9
  have sk9 : ∀ x ∈ ([x7] : List Addr), Safe Z own_EL T4.vm T7.heap x := (sfS S_x7 sf0)
  have S_x7 := Safe.keep K9 sk9 DD.ch S_x7
  have DD := DD.keep K9 sk9
  have Y_pl := Y_pl.keep K9 (ninS ne_pl_x7 nin0)
  have Y_en := Y_en.keep K9 (ninS ne_en_x7 nin0) (ninS ne_te_x7 nin0)
  have Y_mp := Y_mp.keep K9 (ninS ne_mp_x7 nin0) (ninS ne_tb_x7 nin0)
  have Y_fn := Y_fn.keep K9 (ninS ne_fn_x7 nin0)
  have G_ia := G_ia.keep K9 (ninS ne_ia_x7 nin0)
  have ZH := Nat.le_trans ZH K9.1
  have KK := KK.trans K9 (allS (Or.inr sz_x7) all0)
  have OO := OO.keep K9 (allS g_x7 all0)
  have Y_x7 := Yq9
  refine g_castN (i := 32) (q := 39) B4 X9 dK rfl ?_
  refine g_astore (k := 5) (q := 41) (l' := #[.val (.ref pl), .val (.int (Int32.ofNat d)), .val (.ref x), .val (.ref fn), .val (.ref x7), .val .null]) B4 X9 dK rfl rfl rfl ?_
  refine g_aload (k := 5) (q := 43) B4 X9 dK rfl rfl rfl ?_
  refine g_ifnonnullNo (o := 54) (q := 46) B4 X9 dK rfl ?_
  refine g_aloadN (k := 0) (q := 47) B4 X9 dK rfl rfl rfl ?_
  refine g_getF (i := 10) (q := 50) B4 X9 (host := "") (Or.inl (kw hw 34 rfl)) Via.refl rfl Y_pl.2.1 dK rfl (fun T10 X10 e10 => ?_)
  refine g_iloadN (k := 1) (q := 51) B4 X10 dK rfl rfl ?_
  refine g_callV (i := 95) (W := 0) (q := 54) (a := en) (argsL := [(.int (Int32.ofNat d))]) (rest := []) B4 X10 (y := yy2) (kw hw 349 rfl) (kw hw 115 rfl) (kw hw 117 rfl) (kw hw 116 rfl) (kw hw 27 rfl) (kw hw 118 rfl) dD e10 Y_en.1 (rmU1 l Z a0 hw [] en te es (Int32.ofNat d) T9.heap n0 ZH Y_en g_en g_te (by first | omega | (simp only [List.length_append, List.length_cons, List.length_nil, own_u2, own_u4] at *; omega))) dK rfl rfl (lenOf pd_0 rfl) (Nat.le_of_eq rfl) rfl dD dD dD dD rfl (fun _ L11 T11 X11 hQ11 => ?_)
  obtain ⟨rfl, Nq11, K11, Yq11_0⟩ := hQ11
  have N11 := Fr.app N9 Nq11
  have sk11 : ∀ x ∈ ([en, te] : List Addr), Safe Z own_EL T4.vm T9.heap x := (sfS (Safe.exa B4.hZ.alike Y_en.1 dD dD) (sfS (own_Safe256 (own_EWS hw) B4.hZ Y_en.2.2.2.1) sf0))
  have S_x7 := Safe.keep K11 sk11 DD.ch S_x7
  have DD := DD.keep K11 sk11
  have Y_pl := Y_pl.keep K11 (ninS ne_pl_en (ninS ne_pl_te nin0))
  have Y_mp := Y_mp.keep K11 (ninS (Ne.symm ne_en_mp) (ninS (Ne.symm ne_te_mp) nin0)) (ninS (Ne.symm ne_en_tb) (ninS (Ne.symm ne_te_tb) nin0))
  have Y_fn := Y_fn.keep K11 (ninS ne_fn_en (ninS ne_fn_te nin0))
  have Y_x7 := Y_x7.keep K11 (ninS (Ne.symm ne_en_x7) (ninS (Ne.symm ne_te_x7) nin0)) (ninS (Ne.symm ne_en_tx7) (ninS (Ne.symm ne_te_tx7) nin0))
  have G_ia := G_ia.keep K11 (ninS ne_ia_en (ninS ne_ia_te nin0))
  have ZH := Nat.le_trans ZH K11.1
  have KK := KK.trans K11 (allS (mi 1 rfl) (allS (mi 2 rfl) all0))
  have OO := OO.keep K11 (allS g_en (allS g_te all0))
  have Y_en := Yq11_0
  refine g_aloadN (k := 3) (q := 55) B4 X11 dK rfl rfl rfl ?_
  refine g_aloadN (k := 0) (q := 56) B4 X11 dK rfl rfl rfl ?_
  refine g_getF (i := 10) (q := 59) B4 X11 (host := "") (Or.inl (kw hw 34 rfl)) Via.refl rfl Y_pl.2.1 dK rfl (fun T12 X12 e12 => ?_)
  refine g_lam (xi := yy82) (y := yy80) (host := zz3) (C := zz0) (sh := own_s2) (i := 98) (cnt := 2) (W := 0) (n0 := n0) (q := 64) B4 X12 (kw hw 350 rfl) (kw hw 351 rfl) (mvT B4.hZ (kw hw 352 rfl)) (kw hw 539 rfl) (kw hw 20 rfl) (kw hw 540 rfl) (kw hw 194 rfl) dK dK dD dK dK dK dK (fun sig z => by cases pd_45.symm.trans z; rfl) e12 Y_fn Y_en.1 (rmLe l Z a0 hw [] ia rv en te (es ++ [own_b8 (Int32.ofNat d)]) T11.heap n0 ZH Y_en G_ia ne_ia_en ne_ia_te g_en g_te (by first | omega | (simp only [List.length_append, List.length_cons, List.length_nil, own_u2, own_u4] at *; omega))) (fun v h L z => ⟨z.1, z.2.1⟩) dK rfl (Nat.le_of_eq rfl) dD dD dD dD rfl (fun L13 Lx13 T13 X13 Nq13 hQ13 => ?_)
  obtain ⟨-, -, K13, Yq13⟩ := hQ13
  have N13 := Fr.app N11 Nq13
  have sk13 : ∀ x ∈ ([en, te] : List Addr), Safe Z own_EL T4.vm T11.heap x := (sfS (Safe.exa B4.hZ.alike Y_en.1 dD dD) (sfS (own_Safe256 (own_EWS hw) B4.hZ Y_en.2.2.2.1) sf0))
  have S_x7 := Safe.keep K13 sk13 DD.ch S_x7
  have DD := DD.keep K13 sk13
  have Y_pl := Y_pl.keep K13 (ninS ne_pl_en (ninS ne_pl_te nin0))
  have Y_mp := Y_mp.keep K13 (ninS (Ne.symm ne_en_mp) (ninS (Ne.symm ne_te_mp) nin0)) (ninS (Ne.symm ne_en_tb) (ninS (Ne.symm ne_te_tb) nin0))
  have Y_x7 := Y_x7.keep K13 (ninS (Ne.symm ne_en_x7) (ninS (Ne.symm ne_te_x7) nin0)) (ninS (Ne.symm ne_en_tx7) (ninS (Ne.symm ne_te_tx7) nin0))
  have ZH := Nat.le_trans ZH K13.1
  have KK := KK.trans K13 (allS (mi 1 rfl) (allS (mi 2 rfl) all0))
  have OO := OO.keep K13 (allS g_en (allS g_te all0))
  have Y_en := Yq13
  obtain ⟨E_pl, F_entries_pl, F_numbers_pl, F_count_pl⟩ := Y_pl
  refine g_aloadN (k := 0) (q := 65) B4 X13 dK rfl rfl rfl ?_
  refine g_dup (q := 66) B4 X13 dK rfl rfl ?_
  refine g_getF (i := 55) (q := 69) B4 X13 (host := "") (Or.inl (kw hw 393 rfl)) Via.refl rfl F_count_pl dK rfl (fun T14 X14 e14 => ?_)
  refine g_iconst (o := 1) (q := 70) (v := 1) B4 X14 dK rfl rfl ?_
  refine g_iadd (q := 71) B4 X14 dK rfl rfl ?_
  rw [own_suc]
  refine g_putF (i := 55) (q := 74) B4 X14 (host := "") (Or.inl (kw hw 393 rfl)) Via.refl e14 F_count_pl E_pl (Or.inl (kw hw 394 rfl)) (kw hw 19 rfl) (ty := .int) dD rfl rfl dK rfl (fun T15 h15 X15 e15 W15 => ?_)
  have N15 := Fr.snoc X15 N13 g_pl
  have F_count_pl := F_count_pl.same W15
  have sw15 : Safe Z own_EL T4.vm T13.heap pl := (Safe.exa B4.hZ.alike E_pl dD dD)
  have S_x7 := Safe.wr W15 sw15 DD.ch S_x7
  have DD := DD.wr W15 sw15
  have Y_mp := Y_mp.other W15 (Ne.symm ne_pl_mp) (Ne.symm ne_pl_tb)
  have Y_x7 := Y_x7.other W15 (Ne.symm ne_pl_x7) (Ne.symm ne_pl_tx7)
  have Y_en := Y_en.other W15 (Ne.symm ne_pl_en) (Ne.symm ne_pl_te)
  have E_pl := E_pl.wr W15
  have F_entries_pl := F_entries_pl.other W15 (Or.inr (slot_ne (Or.inr (kw hw 35 rfl)) (Or.inl (kw hw 394 rfl)) dD (t := (.object zz0)) (t' := .int) dD dD))
  have F_numbers_pl := F_numbers_pl.other W15 (Or.inr (slot_ne (Or.inr (kw hw 53 rfl)) (Or.inl (kw hw 394 rfl)) dD (t := (.object zz15)) (t' := .int) dD dD))
  have ZH := Nat.le_trans ZH (Nat.le_of_eq W15.size.symm)
  have KK := KK.wr W15 (mi 0 rfl)
  have OO := OO.wr W15 g_pl
  refine g_aloadN (k := 0) (q := 75) B4 X15 dK rfl rfl rfl ?_
  refine g_getF (i := 55) (q := 78) B4 X15 (host := "") (Or.inl (kw hw 393 rfl)) Via.refl e15 F_count_pl dK rfl (fun T16 X16 e16 => ?_)
  refine g_callS (i := 103) (W := 0) (q := 81) (argsL := [(.int (Int32.ofNat (cn + 1)))]) (rest := []) B4 X16 (y := yy38) (kw hw 395 rfl) (kw hw 396 rfl) (kw hw 231 rfl) (kw hw 397 rfl) dD e16 (rmVO l Z a0 hw [] cz fv ev dg ca cg (cn + 1) h15 n0 ZH OO HW0 (by omega)) dK rfl rfl (lenOf pd_43 rfl) (Nat.le_of_eq rfl) rfl dD dD dD dD rfl (fun _ L17 T17 X17 hQ17 => ?_)
  obtain ⟨rfl, Nq17, e17⟩ := hQ17
  have N17 := Fr.app N15 Nq17
  refine g_astore (k := 5) (q := 83) (l' := #[.val (.ref pl), .val (.int (Int32.ofNat d)), .val (.ref x), .val (.ref fn), .val (.ref x7), .val (.ref (cg ((cn + 1) + 128)))]) B4 X17 dK rfl rfl rfl ?_
  refine g_aloadN (k := 0) (q := 84) B4 X17 dK rfl rfl rfl ?_
  refine g_getF (i := 19) (q := 87) B4 X17 (host := "") (Or.inl (kw hw 52 rfl)) Via.refl e17 F_numbers_pl dK rfl (fun T18 X18 e18 => ?_)
  refine g_aload (k := 4) (q := 89) B4 X18 dK rfl rfl rfl ?_
  refine g_aload (k := 5) (q := 91) B4 X18 dK rfl rfl rfl ?_
  have kkp := KK.1
  refine g_callF (i := 107) (cnt := 3) (W := 0) (q := 96) (a := mp) (argsL := [(.ref x7), (.ref (cg ((cn + 1) + 128)))]) (rest := []) B4 X18 (xi := yy83) (y := yy37) (mvT B4.hZ (kw hw 401 rfl)) (mvT B4.hZ (kw hw 402 rfl)) (mvT B4.hZ (kw hw 403 rfl)) (mvT B4.hZ (kw hw 404 rfl)) (mvT B4.hZ (kw hw 405 rfl)) (mvT B4.hZ (kw hw 406 rfl)) (mvT B4.hZ (kw hw 407 rfl)) (mvT B4.hZ (kw hw 340 rfl)) (kw hw 38 rfl) (kw hw 408 rfl) dD e18 Y_mp.exa (rmPt l Z a0 hw [] cz fv ev dg ca cg mp tb st x7 tx7 ((([] ++ [Int32.ofNat (48 + d)]) ++ [Int32.ofNat 32]) ++ ks) hv9 bk (cg ((cn + 1) + 128)) h15 n0 ZH OO HW0 Y_mp Y_x7 (Ne.symm ne_mp_x7) (Ne.symm ne_mp_tx7) (Ne.symm ne_tb_x7) (Ne.symm ne_tb_tx7) g_x7 ha hn hq1 h0h hc9 hb hbk hnb g_mp g_tb hst) dK rfl rfl (lenOf pd_44 rfl) (Nat.le_of_eq rfl) rfl dD dD dD dD rfl (fun _ L19 T19 X19 hQ19 => ?_)
  obtain ⟨rfl, Nq19, K19, tbn, cqn, Yqn⟩ := hQ19
  have N19 := Fr.app N17 Nq19
  have sk19 : ∀ x ∈ ([mp, tb, x7] : List Addr), Safe Z own_EL T4.vm h15 x := (sfS (Safe.exa B4.hZ.alike Y_mp.exa dD dD) (sfS (own_Mp.safeT B4.hZ.alike Y_mp) (sfS S_x7 sf0)))
  have DD := DD.keep K19 sk19
  have Y_en := Y_en.keep K19 (ninS ne_en_mp (ninS ne_en_tb (ninS ne_en_x7 nin0))) (ninS ne_te_mp (ninS ne_te_tb (ninS ne_te_x7 nin0)))
  have E_pl := E_pl.keep K19
  have F_entries_pl := F_entries_pl.keep K19 (ninS ne_pl_mp (ninS ne_pl_tb (ninS ne_pl_x7 nin0)))
  have F_numbers_pl := F_numbers_pl.keep K19 (ninS ne_pl_mp (ninS ne_pl_tb (ninS ne_pl_x7 nin0)))
  have F_count_pl := F_count_pl.keep K19 (ninS ne_pl_mp (ninS ne_pl_tb (ninS ne_pl_x7 nin0)))
  have ZH := Nat.le_trans ZH K19.1
  have KK := KK.trans K19 (allS (mi 3 rfl) (allS (mi 4 rfl) (allS (Or.inr sz_x7) all0)))
  have OO := OO.keep K19 (allS g_mp (allS g_tb (allS g_x7 all0)))
  refine g_pop (q := 97) B4 X19 dK rfl rfl ?_
  refine g_aload (k := 5) (q := 99) B4 X19 dK rfl rfl rfl ?_
  refine g_callV (i := 111) (W := 0) (q := 102) (a := (cg ((cn + 1) + 128))) (argsL := []) (rest := []) B4 X19 (y := yy39) (kw hw 477 rfl) (kw hw 478 rfl) (kw hw 480 rfl) (kw hw 479 rfl) (kw hw 231 rfl) (kw hw 481 rfl) dD rfl ((hcg _ (by omega)).1.ext OO.2) (rmIV l Z a0 hw [] (cg ((cn + 1) + 128)) ((Int32.ofNat ((cn + 1) + 128)) - 128) T19.heap n0 ZH ((hcg _ (by omega)).1.ext OO.2) ((hcg _ (by omega)).2.ext OO.2)) dK rfl rfl (lenOf pd_3 rfl) (Nat.le_of_eq rfl) rfl dD dD dD dD rfl (fun _ L20 T20 X20 hQ20 => ?_)
  obtain ⟨rfl, Nq20, e20⟩ := hQ20
  have N20 := Fr.app N19 Nq20
  exact g_wretI B4 X20 DD (own_EWS hw).ew hh dK dD dD e20 (by
    exact ⟨by rw [own_m128], N20, KK, tbn, cqn.imp id (fun z => Nat.le_trans kkp z), ⟨E_pl, F_entries_pl, F_numbers_pl, F_count_pl⟩, Y_en, Yqn⟩)
theorem pd_46 : parseMethodDescriptor "(ILjava/lang/String;Ljava/util/function/Consumer;)I" = some ⟨[.int, (.object "java/lang/String"), (.object "java/util/function/Consumer")], some .int⟩ := by decide +kernel
def QrmUf (Z : State) (cz : Int32) (fv : Value) (ev dg ca : Addr) (cg : Nat → Addr) (pl en : Addr) (te mp tb : Addr) (st : List Nat) (cn : Nat) (es : List Int32) (x tx : Addr) (ks : List Int32) (bk : Nat) (h0 : Heap) (n0 : Nat) (v : Option Value) (h : Heap) (L : List Loc) : Prop := v = some (.int (Int32.ofNat (cn + 1))) ∧ Fr n0 L ∧ Keep h0 h [pl, en, te, mp, tb] ∧ ∃ tb' : Addr, (tb' = tb ∨ h0.size ≤ tb') ∧ own_P0 Z h pl en mp (Int32.ofNat (cn + 1)) ∧ own_By Z h en te (((es ++ [own_b8 (Int32.ofNat 1)]) ++ own_u2 (Int32.ofNat ks.length)) ++ ks) ∧ own_Mp Z h mp tb' (bk :: st)
theorem rmUf (l : Launch) (Z : State) (a0 : Array Value) (hw : own_H a0 Z) (ws : List Jvm.Cond) (cz : Int32) (fv : Value) (ev dg ca : Addr) (cg : Nat → Addr) (pl en : Addr) (te mp tb : Addr) (st : List Nat) (cn : Nat) (es : List Int32) (x tx : Addr) (ks : List Int32) (bk : Nat) (h0 : Heap) (n0 : Nat) (ZH : n0 ≤ h0.size) (OO : Old Z n0 h0) (HW : own_W Z cz fv ev dg ca cg) (Y_pl : own_P0 Z h0 pl en mp (Int32.ofNat cn)) (Y_en : own_By Z h0 en te es) (Y_x : own_St Z h0 x tx ks) (Y_mp : own_Mp Z h0 mp tb st) (ne_pl_en : pl ≠ en) (ne_pl_te : pl ≠ te) (ne_pl_mp : pl ≠ mp) (ne_pl_tb : pl ≠ tb) (ne_en_mp : en ≠ mp) (ne_en_tb : en ≠ tb) (ne_te_mp : te ≠ mp) (ne_te_tb : te ≠ tb) (ne_x_pl : x ≠ pl) (ne_x_en : x ≠ en) (ne_x_te : x ≠ te) (ne_x_mp : x ≠ mp) (ne_x_tb : x ≠ tb) (ne_tx_pl : tx ≠ pl) (ne_tx_en : tx ≠ en) (ne_tx_te : tx ≠ te) (ne_tx_mp : tx ≠ mp) (ne_tx_tb : tx ≠ tb) (g_pl : n0 ≤ pl) (g_en : n0 ≤ en) (g_te : n0 ≤ te) (g_mp : n0 ≤ mp) (g_tb : n0 ≤ tb) (hak : own_as ks) (hkl : ks.length < 100) (hk1 : 0 < ks.length) (hks : ks.length < 14 ∨ ks.length = 16) (hes : es.length + ks.length + 8 ≤ 256) (hcn : cn < 100) (hst : st.length < 11) (ha : own_as ((([] ++ [Int32.ofNat (48 + 1)]) ++ [Int32.ofNat 32]) ++ ks)) (hn : ((([] ++ [Int32.ofNat (48 + 1)]) ++ [Int32.ofNat 32]) ++ ks).length < 100) (hq1 : 1 < ((([] ++ [Int32.ofNat (48 + 1)]) ++ [Int32.ofNat 32]) ++ ks).length) (h0h : ¬ (own_hs 0 ((([] ++ [Int32.ofNat (48 + 1)]) ++ [Int32.ofNat 32]) ++ ks)) = (0 : Int32)) (hb : ((15 : Int32) &&& ((own_hs 0 ((([] ++ [Int32.ofNat (48 + 1)]) ++ [Int32.ofNat 32]) ++ ks)) ^^^ (((own_hs 0 ((([] ++ [Int32.ofNat (48 + 1)]) ++ [Int32.ofNat 32]) ++ ks)).toUInt32 >>> ((16 : Int32) &&& 31).toUInt32).toInt32))) = Int32.ofNat bk) (hbk : bk < 16) (hnb : bk ∉ st) :
    own_MetW l Z yy11 prog_83_method_2_code 2 (some .int) ws (own_R 8 12 445 3076) #[(.ref pl), (.ref x)] h0 (QrmUf Z cz fv ev dg ca cg pl en te mp tb st cn es x tx ks bk h0 n0) 12 445 := by
  refine own_hw (fr := #[.val (.ref pl), .val (.ref x)]) (plainFor_of_name pn_8) (fun {p e s m below meth c s₁} B X0 e0 hh DD Nm => ?_)
  have N0 := Fr.nil n0
  have KK := Keep.refl h0 [pl, en, te, mp, tb]
  have I_te := Y_en.in_tb
  have I_tb := Y_mp.in_tb
  refine g_aloadN (k := 0) (q := 1) B X0 dK rfl rfl rfl ?_
  refine g_iconst (o := 1) (q := 2) (v := 1) B X0 dK rfl rfl ?_
  show own_Go p.tables e below _ (State.setTop _ (mkF m _ _ (.int (Int32.ofNat 1) :: _)))
  refine g_aloadN (k := 1) (q := 3) B X0 dK rfl rfl rfl ?_
  refine g_aloadN (k := 1) (q := 4) B X0 dK rfl rfl rfl ?_
  refine g_site (xm := yy11) (index := 23) (fi := 15) (sh := own_s1) (ty := (.object zz1)) (W := 3) (q := 9) B X0 Nm (kw hw 191 rfl) rfl dK (kw hw 194 rfl) rfl rfl rfl e0 dK rfl (Nat.le_of_eq rfl) dD dD dD rfl (fun fn1 T1 h1 gz1 X1 e1 E1 Fn1 => ?_)
  have ne_pl_fn1 := nl Y_pl.lt gz1
  have ne_en_fn1 := nl Y_en.lt gz1
  have ne_te_fn1 := nl I_te.lt gz1
  have ne_tb_fn1 := nl I_tb.lt gz1
  have ne_mp_fn1 := nl Y_mp.lt gz1
  have DD := DD.ext E1
  have Y_pl := Y_pl.ext E1
  have Y_en := Y_en.ext E1
  have Y_x := Y_x.ext E1
  have Y_mp := Y_mp.ext E1
  have ZH := Nat.le_trans ZH E1.1
  have KK := KK.ext E1
  have OO := OO.ext E1
  have Y_fn1 := Fn1
  refine g_wcallP (i := 27) (W := 0) (q := 12) (a := pl) (argsL := [(.int (Int32.ofNat 1)), (.ref x), (.ref fn1)]) (rest := []) B X1 DD (own_EWS hw).ew (y := yy26) (kw hw 195 rfl) (own_NI.inst (kw hw 19 rfl)) (kw hw 196 rfl) (kw hw 197 rfl) (kw hw 20 rfl) (kw hw 198 rfl) dD e1 Y_pl.1 (rmCu l Z a0 hw [] cz fv ev dg ca cg pl en te mp tb st cn es 1 x tx ks fn1 bk h1 n0 ZH OO HW Y_pl Y_en Y_x Y_mp Y_fn1 ne_pl_en ne_pl_te ne_pl_mp ne_pl_tb ne_en_mp ne_en_tb ne_te_mp ne_te_tb ne_x_pl ne_x_en ne_x_te ne_x_mp ne_x_tb ne_tx_pl ne_tx_en ne_tx_te ne_tx_mp ne_tx_tb (Ne.symm ne_pl_fn1) (Ne.symm ne_en_fn1) (Ne.symm ne_te_fn1) (Ne.symm ne_mp_fn1) (Ne.symm ne_tb_fn1) g_pl g_en g_te g_mp g_tb (by omega) hak hkl hk1 hks hes hcn hst ha hn hq1 h0h hb hbk hnb) dK rfl rfl (lenOf pd_46 rfl) (Nat.le_of_eq rfl) rfl dD dD dD dD rfl (fun _ L2 T2 X2 B2 D2 CR2 hQ2 => ?_)
  have kk2 := KK.1
  obtain ⟨rfl, Nq2, K2, tb2, cq2, Yp2, Ye2, Ym2⟩ := hQ2
  have N2 := Fr.app N0 Nq2
  have KK := KK.trans K2 (allS (mi 0 rfl) (allS (mi 1 rfl) (allS (mi 2 rfl) (allS (mi 3 rfl) (allS (mi 4 rfl) all0)))))
  have DD := D2
  have Y_pl := Yp2
  have Y_en := Ye2
  have Y_mp := Ym2
  exact g_wretI B2 X2 DD (own_EWS hw).ew hh dK dD dD rfl (by
    exact ⟨rfl, N2, KK, tb2, (cq2.imp id (fun z => Nat.le_trans kk2 z)), Y_pl, Y_en, Y_mp⟩)
theorem pd_47 : parseMethodDescriptor "([I)Ljava/lang/String;" = some ⟨[(.array .int)], some (.object "java/lang/String")⟩ := by decide +kernel
def QrmEn (Z : State) (cz : Int32) (fv : Value) (ev dg ca : Addr) (cg : Nat → Addr) (pl en : Addr) (te mp tb : Addr) (st : List Nat) (cn : Nat) (es : List Int32) (ia : Addr) (r bk : Nat) (h0 : Heap) (n0 : Nat) (v : Option Value) (h : Heap) (L : List Loc) : Prop := v = some (.int (Int32.ofNat (cn + 1))) ∧ Fr n0 L ∧ Keep h0 h [pl, en, te, mp, tb] ∧ ∃ tb' : Addr, (tb' = tb ∨ h0.size ≤ tb') ∧ own_P0 Z h pl en mp (Int32.ofNat (cn + 1)) ∧ own_By Z h en te ((es ++ [own_b8 (Int32.ofNat 7)]) ++ own_u2 (Int32.ofNat r)) ∧ own_Mp Z h mp tb' (bk :: st)
theorem rmEn (l : Launch) (Z : State) (a0 : Array Value) (hw : own_H a0 Z) (ws : List Jvm.Cond) (cz : Int32) (fv : Value) (ev dg ca : Addr) (cg : Nat → Addr) (pl en : Addr) (te mp tb : Addr) (st : List Nat) (cn : Nat) (es : List Int32) (ia : Addr) (r bk : Nat) (h0 : Heap) (n0 : Nat) (ZH : n0 ≤ h0.size) (OO : Old Z n0 h0) (HW : own_W Z cz fv ev dg ca cg) (Y_pl : own_P0 Z h0 pl en mp (Int32.ofNat cn)) (Y_en : own_By Z h0 en te es) (Y_mp : own_Mp Z h0 mp tb st) (G_ia : own_Arf Z h0 ia .int (1 : Int32) (fun i => .int ((fun _ => Int32.ofNat r : Nat → Int32) i))) (ne_pl_en : pl ≠ en) (ne_pl_te : pl ≠ te) (ne_pl_mp : pl ≠ mp) (ne_pl_tb : pl ≠ tb) (ne_en_mp : en ≠ mp) (ne_en_tb : en ≠ tb) (ne_te_mp : te ≠ mp) (ne_te_tb : te ≠ tb) (ne_ia_pl : ia ≠ pl) (ne_ia_en : ia ≠ en) (ne_ia_te : ia ≠ te) (ne_ia_mp : ia ≠ mp) (ne_ia_tb : ia ≠ tb) (g_pl : n0 ≤ pl) (g_en : n0 ≤ en) (g_te : n0 ≤ te) (g_mp : n0 ≤ mp) (g_tb : n0 ≤ tb) (hr : r < 10) (hes : es.length + 11 ≤ 256) (hcn : cn < 100) (hst : st.length < 11) (ha : own_as ((([] ++ [Int32.ofNat (48 + 7)]) ++ [Int32.ofNat 32]) ++ [Int32.ofNat 91, Int32.ofNat (48 + r), Int32.ofNat 93])) (hn : ((([] ++ [Int32.ofNat (48 + 7)]) ++ [Int32.ofNat 32]) ++ [Int32.ofNat 91, Int32.ofNat (48 + r), Int32.ofNat 93]).length < 100) (hq1 : 1 < ((([] ++ [Int32.ofNat (48 + 7)]) ++ [Int32.ofNat 32]) ++ [Int32.ofNat 91, Int32.ofNat (48 + r), Int32.ofNat 93]).length) (h0h : ¬ (own_hs 0 ((([] ++ [Int32.ofNat (48 + 7)]) ++ [Int32.ofNat 32]) ++ [Int32.ofNat 91, Int32.ofNat (48 + r), Int32.ofNat 93])) = (0 : Int32)) (hb : ((15 : Int32) &&& ((own_hs 0 ((([] ++ [Int32.ofNat (48 + 7)]) ++ [Int32.ofNat 32]) ++ [Int32.ofNat 91, Int32.ofNat (48 + r), Int32.ofNat 93])) ^^^ (((own_hs 0 ((([] ++ [Int32.ofNat (48 + 7)]) ++ [Int32.ofNat 32]) ++ [Int32.ofNat 91, Int32.ofNat (48 + r), Int32.ofNat 93])).toUInt32 >>> ((16 : Int32) &&& 31).toUInt32).toInt32))) = Int32.ofNat bk) (hbk : bk < 16) (hnb : bk ∉ st) :
    own_MetW l Z yy40 prog_83_method_10_code 3 (some .int) ws (own_R 8 14 311 3076) #[(.ref pl), (.int (Int32.ofNat 7)), (.ref ia)] h0 (QrmEn Z cz fv ev dg ca cg pl en te mp tb st cn es ia r bk h0 n0) 14 311 := by
  refine own_hw (fr := #[.val (.ref pl), .val (.int (Int32.ofNat 7)), .val (.ref ia)]) (plainFor_of_name pn_8) (fun {p e s m below meth c s₁} B X0 e0 hh DD Nm => ?_)
  have N0 := Fr.nil n0
  have KK := Keep.refl h0 [pl, en, te, mp, tb]
  have I_te := Y_en.in_tb
  have I_tb := Y_mp.in_tb
  refine g_aloadN (k := 0) (q := 1) B X0 dK rfl rfl rfl ?_
  refine g_iloadN (k := 1) (q := 2) B X0 dK rfl rfl ?_
  refine g_aloadN (k := 2) (q := 3) B X0 dK rfl rfl rfl ?_
  have lt1_pl := Y_pl.lt
  have lt1_en := Y_en.lt
  have lt1_te := I_te.lt
  have lt1_tb := I_tb.lt
  have lt1_mp := Y_mp.lt
  refine g_callS (i := 67) (W := 2) (q := 6) (argsL := [(.ref ia)]) (rest := [(.int (Int32.ofNat 7)), (.ref pl)]) B X0 (y := yy72) (kw hw 518 rfl) (kw hw 519 rfl) (kw hw 320 rfl) (kw hw 520 rfl) dD e0 (rmAT l Z a0 hw [] cz fv ev dg ca cg ia r h0 n0 ZH OO HW G_ia hr) dK rfl rfl (lenOf pd_47 rfl) (Nat.le_of_eq rfl) rfl dD dD dD dD rfl (fun _ L1 T1 X1 hQ1 => ?_)
  obtain ⟨x1, tx1, rfl, Nq1, K1, szx1, szt1, Yq1⟩ := hQ1
  have N1 := Fr.app N0 Nq1
  have sk1 : ∀ x ∈ ([] : List Addr), Safe Z own_EL s.vm h0 x := sf0
  have DD := DD.keep K1 sk1
  have Y_pl := Y_pl.keep K1 nin0
  have Y_en := Y_en.keep K1 nin0 nin0
  have Y_mp := Y_mp.keep K1 nin0 nin0
  have I_te := I_te.keep K1
  have I_tb := I_tb.keep K1
  have G_ia := G_ia.keep K1 nin0
  have ZH := Nat.le_trans ZH K1.1
  have KK := KK.trans K1 all0
  have OO := OO.keep K1 all0
  have ne_pl_x1 := nz lt1_pl szx1
  have ne_en_x1 := nz lt1_en szx1
  have ne_te_x1 := nz lt1_te szx1
  have ne_tb_x1 := nz lt1_tb szx1
  have ne_mp_x1 := nz lt1_mp szx1
  have ne_pl_tx1 := nz lt1_pl szt1
  have ne_en_tx1 := nz lt1_en szt1
  have ne_te_tx1 := nz lt1_te szt1
  have ne_tb_tx1 := nz lt1_tb szt1
  have ne_mp_tx1 := nz lt1_mp szt1
  have Y_x1 := Yq1.1
  refine g_aloadN (k := 2) (q := 7) B X1 dK rfl rfl rfl ?_
  refine g_site (xm := yy40) (index := 72) (fi := 15) (sh := own_s2) (ty := (.array .int)) (W := 3) (q := 12) B X1 Nm (kw hw 538 rfl) rfl dK (kw hw 194 rfl) rfl rfl rfl rfl dK rfl (Nat.le_of_eq rfl) dD dD dD rfl (fun fn2 T2 h2 gz2 X2 e2 E2 Fn2 => ?_)
  have ne_pl_fn2 := nl Y_pl.lt gz2
  have ne_en_fn2 := nl Y_en.lt gz2
  have ne_te_fn2 := nl I_te.lt gz2
  have ne_tb_fn2 := nl I_tb.lt gz2
  have ne_mp_fn2 := nl Y_mp.lt gz2
  have DD := DD.ext E2
  have Y_pl := Y_pl.ext E2
  have Y_en := Y_en.ext E2
  have Y_mp := Y_mp.ext E2
  have Y_x1 := Y_x1.ext E2
  have G_ia := G_ia.ext E2
  have ZH := Nat.le_trans ZH E2.1
  have KK := KK.ext E2
  have OO := OO.ext E2
  have Y_fn2 := Fn2
  refine g_wcallP (i := 27) (W := 0) (q := 15) (a := pl) (argsL := [(.int (Int32.ofNat 7)), (.ref x1), (.ref fn2)]) (rest := []) B X2 DD (own_EWS hw).ew (y := yy26) (kw hw 195 rfl) (own_NI.inst (kw hw 19 rfl)) (kw hw 196 rfl) (kw hw 197 rfl) (kw hw 20 rfl) (kw hw 198 rfl) dD e2 Y_pl.1 (rmCe l Z a0 hw [] cz fv ev dg ca cg pl en te mp tb st cn es 7 x1 tx1 [Int32.ofNat 91, Int32.ofNat (48 + r), Int32.ofNat 93] fn2 ia (Int32.ofNat r) bk h2 n0 ZH OO HW Y_pl Y_en Y_x1 Y_mp Y_fn2 G_ia ne_pl_en ne_pl_te ne_pl_mp ne_pl_tb ne_en_mp ne_en_tb ne_te_mp ne_te_tb (Ne.symm ne_pl_x1) (Ne.symm ne_en_x1) (Ne.symm ne_te_x1) (Ne.symm ne_mp_x1) (Ne.symm ne_tb_x1) (Ne.symm ne_pl_tx1) (Ne.symm ne_en_tx1) (Ne.symm ne_te_tx1) (Ne.symm ne_mp_tx1) (Ne.symm ne_tb_tx1) (Ne.symm ne_pl_fn2) (Ne.symm ne_en_fn2) (Ne.symm ne_te_fn2) (Ne.symm ne_mp_fn2) (Ne.symm ne_tb_fn2) ne_ia_pl ne_ia_en ne_ia_te ne_ia_mp ne_ia_tb g_pl g_en g_te g_mp g_tb (by omega) (own_asR hr) (by simp) (by simp) (Or.inl (by simp)) (by show es.length + 3 + 8 ≤ 256; omega) hcn hst ha hn hq1 h0h hb hbk hnb) dK rfl rfl (lenOf pd_46 rfl) (Nat.le_of_eq rfl) rfl dD dD dD dD rfl (fun _ L3 T3 X3 B3 D3 CR3 hQ3 => ?_)
  have kk3 := KK.1
  obtain ⟨rfl, Nq3, K3, tb3, cq3, Yp3, Ye3, Ym3⟩ := hQ3
  have N3 := Fr.app N1 Nq3
  have KK := KK.trans K3 (allS (mi 0 rfl) (allS (mi 1 rfl) (allS (mi 2 rfl) (allS (mi 3 rfl) (allS (mi 4 rfl) all0)))))
  have DD := D3
  have Y_pl := Yp3
  have Y_en := Ye3
  have Y_mp := Ym3
  exact g_wretI B3 X3 DD (own_EWS hw).ew hh dK dD dD rfl (by
    exact ⟨rfl, N3, KK, tb3, (cq3.imp id (fun z => Nat.le_trans kk3 z)), Y_pl, Y_en, Y_mp⟩)
def own_Ky (k : List Int32) (bk : Nat) (st : List Nat) : Prop := own_as k ∧ k.length < 100 ∧ 1 < k.length ∧ ¬ own_hs 0 k = (0 : Int32) ∧ ((15 : Int32) &&& ((own_hs 0 k) ^^^ (((own_hs 0 k).toUInt32 >>> ((16 : Int32) &&& 31).toUInt32).toInt32))) = Int32.ofNat bk ∧ bk < 16 ∧ bk ∉ st
theorem own_up1 (x : Int32) : ∀ i, i < (1 : Int32).toNatClampNeg → Value.int (own_upd (fun _ => 0 : Nat → Int32) (0 : Int32) x i) = Value.int ((fun _ => x : Nat → Int32) i) := fun i hi => by
  have h1 : (1 : Int32).toNatClampNeg = 1 := rfl
  have h0 : (0 : Int32).toNatClampNeg = 0 := rfl
  have : i = 0 := by omega
  subst this
  show Value.int (if 0 = (0 : Int32).toNatClampNeg then x else 0) = _
  rw [h0, if_pos rfl]
theorem own_asD {cs : List Int32} (h : cs.all (fun x => decide (x = Int32.ofNat x.toNatClampNeg) && (decide (1 ≤ x.toNatClampNeg) && decide (x.toNatClampNeg < 128))) = true) : own_as cs := fun x hx => by
  have q := List.all_eq_true.mp h x hx
  rw [Bool.and_eq_true, Bool.and_eq_true] at q
  exact ⟨x.toNatClampNeg, of_decide_eq_true q.2.1, of_decide_eq_true q.2.2, of_decide_eq_true q.1⟩
theorem own_bl1 (x : Int32) : own_bl [own_b8 x] := own_bl.cons (own_b88 x) own_bl.nil
theorem own_bl2 (x : Int32) : own_bl (own_u2 x) := own_bl.cons (own_b88 _) (own_bl.cons (own_b88 _) own_bl.nil)
theorem own_bl4 (x : Int32) : own_bl (own_u4 x) := (own_bl2 _).app (own_bl2 _)

theorem pd_48 : parseMethodDescriptor "(Ljava/lang/String;)I" = some ⟨[(.object "java/lang/String")], some .int⟩ := by decide +kernel
theorem pd_49 : parseMethodDescriptor "(I[I)I" = some ⟨[.int, (.array .int)], some .int⟩ := by decide +kernel
def QrmKE (Z : State) (cz : Int32) (fv : Value) (ev dg ca : Addr) (cg : Nat → Addr) (pl en : Addr) (te mp tb : Addr) (st : List Nat) (cn : Nat) (es : List Int32) (x tx : Addr) (ks : List Int32) (bk1 bk2 : Nat) (h0 : Heap) (n0 : Nat) (v : Option Value) (h : Heap) (L : List Loc) : Prop := v = some (.int (Int32.ofNat ((cn + 1) + 1))) ∧ Fr n0 L ∧ Keep h0 h [pl, en, te, mp, tb] ∧ ∃ tb' : Addr, (tb' = tb ∨ h0.size ≤ tb') ∧ own_P0 Z h pl en mp (Int32.ofNat ((cn + 1) + 1)) ∧ own_By Z h en te (((((es ++ [own_b8 (Int32.ofNat 1)]) ++ own_u2 (Int32.ofNat ks.length)) ++ ks) ++ [own_b8 (Int32.ofNat 7)]) ++ own_u2 (Int32.ofNat (cn + 1))) ∧ own_Mp Z h mp tb' (bk2 :: (bk1 :: st))
theorem rmKE (l : Launch) (Z : State) (a0 : Array Value) (hw : own_H a0 Z) (ws : List Jvm.Cond) (cz : Int32) (fv : Value) (ev dg ca : Addr) (cg : Nat → Addr) (pl en : Addr) (te mp tb : Addr) (st : List Nat) (cn : Nat) (es : List Int32) (x tx : Addr) (ks : List Int32) (bk1 bk2 : Nat) (h0 : Heap) (n0 : Nat) (ZH : n0 ≤ h0.size) (OO : Old Z n0 h0) (HW : own_W Z cz fv ev dg ca cg) (Y_pl : own_P0 Z h0 pl en mp (Int32.ofNat cn)) (Y_en : own_By Z h0 en te es) (Y_x : own_St Z h0 x tx ks) (Y_mp : own_Mp Z h0 mp tb st) (ne_pl_en : pl ≠ en) (ne_pl_te : pl ≠ te) (ne_pl_mp : pl ≠ mp) (ne_pl_tb : pl ≠ tb) (ne_en_mp : en ≠ mp) (ne_en_tb : en ≠ tb) (ne_te_mp : te ≠ mp) (ne_te_tb : te ≠ tb) (ne_x_pl : x ≠ pl) (ne_x_en : x ≠ en) (ne_x_te : x ≠ te) (ne_x_mp : x ≠ mp) (ne_x_tb : x ≠ tb) (ne_tx_pl : tx ≠ pl) (ne_tx_en : tx ≠ en) (ne_tx_te : tx ≠ te) (ne_tx_mp : tx ≠ mp) (ne_tx_tb : tx ≠ tb) (g_pl : n0 ≤ pl) (g_en : n0 ≤ en) (g_te : n0 ≤ te) (g_mp : n0 ≤ mp) (g_tb : n0 ≤ tb) (hak : own_as ks) (hkl : ks.length < 100) (hk1 : 0 < ks.length) (hks : ks.length < 14 ∨ ks.length = 16) (hes : es.length + ks.length + 14 ≤ 256) (hcn : cn < 9) (hst : st.length < 10) (hK1 : own_Ky ((([] ++ [Int32.ofNat (48 + 1)]) ++ [Int32.ofNat 32]) ++ ks) bk1 st) (hK2 : own_Ky ((([] ++ [Int32.ofNat (48 + 7)]) ++ [Int32.ofNat 32]) ++ [Int32.ofNat 91, Int32.ofNat (48 + (cn + 1)), Int32.ofNat 93]) bk2 (bk1 :: st)) :
    own_MetW l Z yy41 prog_83_method_4_code 2 (some .int) ws (own_R 9 27 757 3094) #[(.ref pl), (.ref x)] h0 (QrmKE Z cz fv ev dg ca cg pl en te mp tb st cn es x tx ks bk1 bk2 h0 n0) 27 757 := by
  refine own_hw (fr := #[.val (.ref pl), .val (.ref x)]) (plainFor_of_name pn_8) (fun {p e s m below meth c s₁} B X0 e0 hh DD Nm => ?_)
  have N0 := Fr.nil n0
  have KK := Keep.refl h0 [pl, en, te, mp, tb]
  have I_te := Y_en.in_tb
  have I_tb := Y_mp.in_tb
  refine g_aloadN (k := 0) (q := 1) B X0 dK rfl rfl rfl ?_
  refine g_bipush (o := 7) (q := 3) (v := 7) B X0 dK rfl rfl ?_
  show own_Go p.tables e below _ (State.setTop _ (mkF m _ _ (.int (Int32.ofNat 7) :: _)))
  refine g_iconst (o := 1) (q := 4) (v := 1) B X0 dK rfl rfl ?_
  refine g_newarr (aty := .int) (cap := 1) (q := 6) B X0 (kw hw 512 rfl) e0 dD dD dD dK dD dD rfl (fun b1 T1 h1 gz1 X1 e1 E1 G_b1 => ?_)
  have ne_pl_b1 := nl Y_pl.lt gz1
  have ne_en_b1 := nl Y_en.lt gz1
  have ne_te_b1 := nl I_te.lt gz1
  have ne_tb_b1 := nl I_tb.lt gz1
  have ne_mp_b1 := nl Y_mp.lt gz1
  have g_b1 := gl ZH gz1
  have sz_b1 := gl KK.1 gz1
  have Sn_b1 := Safe.ext E1 DD.ch (Safe.new (Nat.le_of_eq gz1.symm))
  have DD := DD.ext E1
  have Y_pl := Y_pl.ext E1
  have Y_en := Y_en.ext E1
  have Y_x := Y_x.ext E1
  have Y_mp := Y_mp.ext E1
  have I_te := I_te.ext E1
  have ZH := Nat.le_trans ZH E1.1
  have KK := KK.ext E1
  have OO := OO.ext E1
  have S_b1 := Sn_b1
  have G_b1 : own_Arf Z h1 b1 .int (1 : Int32) (fun i => .int ((fun _ => 0 : Nat → Int32) i)) := G_b1
  refine g_dup (q := 7) B X1 dK rfl rfl ?_
  refine g_iconst (o := 0) (q := 8) (v := 0) B X1 dK rfl rfl ?_
  refine g_aloadN (k := 0) (q := 9) B X1 dK rfl rfl rfl ?_
  refine g_aloadN (k := 1) (q := 10) B X1 dK rfl rfl rfl ?_
  refine g_wcallV (i := 40) (W := 5) (q := 13) (a := pl) (argsL := [(.ref x)]) (rest := [(.int (0 : Int32)), (.ref b1), (.ref b1), (.int (Int32.ofNat 7)), (.ref pl)]) B X1 DD (own_EWS hw).ew (y := yy11) (kw hw 513 rfl) (kw hw 187 rfl) (kw hw 189 rfl) (kw hw 188 rfl) (kw hw 20 rfl) (kw hw 190 rfl) dD e1 Y_pl.1 (rmUf l Z a0 hw [] cz fv ev dg ca cg pl en te mp tb st cn es x tx ks bk1 h1 n0 ZH OO HW Y_pl Y_en Y_x Y_mp ne_pl_en ne_pl_te ne_pl_mp ne_pl_tb ne_en_mp ne_en_tb ne_te_mp ne_te_tb ne_x_pl ne_x_en ne_x_te ne_x_mp ne_x_tb ne_tx_pl ne_tx_en ne_tx_te ne_tx_mp ne_tx_tb g_pl g_en g_te g_mp g_tb hak hkl hk1 hks (by omega) (by omega) (by omega) hK1.1 hK1.2.1 hK1.2.2.1 hK1.2.2.2.1 hK1.2.2.2.2.1 hK1.2.2.2.2.2.1 hK1.2.2.2.2.2.2) dK rfl rfl (lenOf pd_48 rfl) (Nat.le_of_eq rfl) rfl dD dD dD dD rfl (fun _ L2 T2 X2 B2 D2 CR2 hQ2 => ?_)
  have zh2 := ZH
  have kk2 := KK.1
  have lt2_pl := Y_pl.lt
  have lt2_en := Y_en.lt
  have lt2_te := I_te.lt
  have lt2_b1 := G_b1.lt
  obtain ⟨rfl, Nq2, K2, tb2, cq2, Yp2, Ye2, Ym2⟩ := hQ2
  have N2 := Fr.app N0 Nq2
  have S_b1 := CR2.safe G_b1.lt S_b1
  have G_b1 := G_b1.keep K2 (ninS (Ne.symm ne_pl_b1) (ninS (Ne.symm ne_en_b1) (ninS (Ne.symm ne_te_b1) (ninS (Ne.symm ne_mp_b1) (ninS (Ne.symm ne_tb_b1) nin0)))))
  have ZH := Nat.le_trans ZH K2.1
  have KK := KK.trans K2 (allS (mi 0 rfl) (allS (mi 1 rfl) (allS (mi 2 rfl) (allS (mi 3 rfl) (allS (mi 4 rfl) all0)))))
  have OO := OO.keep K2 (allS g_pl (allS g_en (allS g_te (allS g_mp (allS g_tb all0)))))
  have DD := D2
  have ne_pl_tb2 := own_ne2 cq2 ne_pl_tb lt2_pl
  have ne_en_tb2 := own_ne2 cq2 ne_en_tb lt2_en
  have ne_te_tb2 := own_ne2 cq2 ne_te_tb lt2_te
  have ne_b1_tb2 := own_ne2 cq2 (Ne.symm ne_tb_b1) lt2_b1
  have g_tb2 := own_ge2 cq2 g_tb zh2
  have mo_tb2 := own_mo cq2 (Or.inl (List.mem_of_getElem? (l := [pl, en, te, mp, tb]) (i := 4) rfl)) kk2
  have Y_pl := Yp2
  have Y_en := Ye2
  have Y_mp := Ym2
  refine g_iastore (q := 14) B2 X2 rfl G_b1 dD dD dK rfl (fun T3 h3 X3 e3 W3 G_b1 => ?_)
  have G_b1 : own_Arf Z h3 b1 .int (1 : Int32) (fun i => .int ((own_upd (fun _ => 0 : Nat → Int32) (0 : Int32) (Int32.ofNat (cn + 1))) i)) := G_b1.congr (fun i _ => by unfold own_upd; split <;> rfl)
  have N3 := Fr.snoc X3 N2 g_b1
  have sw3 : Safe Z own_EL T2.vm T2.heap b1 := S_b1
  have DD := DD.wr W3 sw3
  have Y_pl := Y_pl.other W3 ne_pl_b1
  have Y_en := Y_en.other W3 ne_en_b1 ne_te_b1
  have Y_mp := Y_mp.other W3 ne_mp_b1 (Ne.symm ne_b1_tb2)
  have ZH := Nat.le_trans ZH (Nat.le_of_eq W3.size.symm)
  have KK := KK.wr W3 (Or.inr sz_b1)
  have OO := OO.wr W3 g_b1
  have G_b1 : own_Arf Z h3 b1 .int (1 : Int32) (fun i => .int ((fun _ => Int32.ofNat (cn + 1) : Nat → Int32) i)) := G_b1.congr (own_up1 _)
  refine g_wcallP (i := 44) (W := 0) (q := 17) (a := pl) (argsL := [(.int (Int32.ofNat 7)), (.ref b1)]) (rest := []) B2 X3 DD (own_EWS hw).ew (y := yy40) (kw hw 514 rfl) (own_NI.inst (kw hw 19 rfl)) (kw hw 515 rfl) (kw hw 516 rfl) (kw hw 20 rfl) (kw hw 517 rfl) dD e3 Y_pl.1 (rmEn l Z a0 hw [] cz fv ev dg ca cg pl en te mp tb2 (bk1 :: st) (cn + 1) (((es ++ [own_b8 (Int32.ofNat 1)]) ++ own_u2 (Int32.ofNat ks.length)) ++ ks) b1 (cn + 1) bk2 h3 n0 ZH OO HW Y_pl Y_en Y_mp G_b1 ne_pl_en ne_pl_te ne_pl_mp ne_pl_tb2 ne_en_mp ne_en_tb2 ne_te_mp ne_te_tb2 (Ne.symm ne_pl_b1) (Ne.symm ne_en_b1) (Ne.symm ne_te_b1) (Ne.symm ne_mp_b1) ne_b1_tb2 g_pl g_en g_te g_mp g_tb2 (by omega) (by simp only [List.length_append, List.length_cons, List.length_nil, own_u2]; omega) (by omega) (by simp only [List.length_cons]; omega) hK2.1 hK2.2.1 hK2.2.2.1 hK2.2.2.2.1 hK2.2.2.2.2.1 hK2.2.2.2.2.2.1 hK2.2.2.2.2.2.2) dK rfl rfl (lenOf pd_49 rfl) (Nat.le_of_eq rfl) rfl dD dD dD dD rfl (fun _ L4 T4 X4 B4 D4 CR4 hQ4 => ?_)
  have kk4 := KK.1
  obtain ⟨rfl, Nq4, K4, tb4, cq4, Yp4, Ye4, Ym4⟩ := hQ4
  have N4 := Fr.app N3 Nq4
  have KK := KK.trans K4 (allS (mi 0 rfl) (allS (mi 1 rfl) (allS (mi 2 rfl) (allS (mi 3 rfl) (allS mo_tb2 all0)))))
  have DD := D4
  have Y_pl := Yp4
  have Y_en := Ye4
  have Y_mp := Ym4
  exact g_wretI B4 X4 DD (own_EWS hw).ew hh dK dD dD rfl (by
    exact ⟨rfl, N4, KK, tb4, (own_ch (cq2.imp id (fun z => Nat.le_trans kk2 z)) (cq4.imp id (fun z => Nat.le_trans kk4 z))), Y_pl, Y_en, Y_mp⟩)
def QrmWT (Z : State) (pl en : Addr) (te mp : Addr) (cn : Nat) (es : List Int32) (b tb : Addr) (cs : List Int32) (h0 : Heap) (n0 : Nat) (v : Option Value) (h : Heap) (L : List Loc) : Prop := v = none ∧ Fr n0 L ∧ Keep h0 h [b, tb] ∧ own_By Z h b tb ((cs ++ own_u2 (Int32.ofNat (cn + 1))) ++ es)
theorem rmWT (l : Launch) (Z : State) (a0 : Array Value) (hw : own_H a0 Z) (ws : List Jvm.Cond) (pl en : Addr) (te mp : Addr) (cn : Nat) (es : List Int32) (b tb : Addr) (cs : List Int32) (h0 : Heap) (n0 : Nat) (ZH : n0 ≤ h0.size) (Y_pl : own_P0 Z h0 pl en mp (Int32.ofNat cn)) (Y_en : own_By Z h0 en te es) (Y_b : own_By Z h0 b tb cs) (ne_b_pl : b ≠ pl) (ne_b_en : b ≠ en) (ne_b_te : b ≠ te) (ne_tb_pl : tb ≠ pl) (ne_tb_en : tb ≠ en) (ne_tb_te : tb ≠ te) (g_b : n0 ≤ b) (g_tb : n0 ≤ tb) (hbe : own_bl es) (hn : cs.length + 2 + es.length ≤ 256) (hn2 : es.length < 256) :
    own_Met l Z yy84 prog_83_method_8_code 2 none ws (own_R 2 0 0 28) #[(.ref pl), (.ref b)] h0 (QrmWT Z pl en te mp cn es b tb cs h0 n0) 0 0 := by
  refine own_hd (fr := #[.val (.ref pl), .val (.ref b)]) (plainFor_of_name pn_8) (fun {p e s m below meth c s₁} B X0 e0 => ?_)
  have N0 := Fr.nil n0
  have KK := Keep.refl h0 [b, tb]
  refine g_aloadN (k := 1) (q := 1) B X0 dK rfl rfl rfl ?_
  refine g_aloadN (k := 0) (q := 2) B X0 dK rfl rfl rfl ?_
  refine g_getF (i := 55) (q := 5) B X0 (host := "") (Or.inl (kw hw 393 rfl)) Via.refl e0 Y_pl.2.2.2 dK rfl (fun T1 X1 e1 => ?_)
  refine g_iconst (o := 1) (q := 6) (v := 1) B X1 dK rfl rfl ?_
  refine g_iadd (q := 7) B X1 dK rfl rfl ?_
  rw [own_suc]
  refine g_callV (i := 59) (W := 0) (q := 10) (a := b) (argsL := [(.int (Int32.ofNat (cn + 1)))]) (rest := []) B X1 (y := yy0) (kw hw 541 rfl) (kw hw 132 rfl) (kw hw 134 rfl) (kw hw 133 rfl) (kw hw 27 rfl) (kw hw 135 rfl) dD e1 Y_b.1 (rmU2 l Z a0 hw [] b tb cs (Int32.ofNat (cn + 1)) h0 n0 ZH Y_b g_b g_tb (by first | omega | (simp only [List.length_append, List.length_cons, List.length_nil, own_u2, own_u4] at *; omega))) dK rfl rfl (lenOf pd_0 rfl) (Nat.le_of_eq rfl) rfl dD dD dD dD rfl (fun _ L2 T2 X2 hQ2 => ?_)
  obtain ⟨rfl, Nq2, K2, Yq2_0⟩ := hQ2
  have N2 := Fr.app N0 Nq2
  have Y_pl := Y_pl.keep K2 (ninS (Ne.symm ne_b_pl) (ninS (Ne.symm ne_tb_pl) nin0))
  have Y_en := Y_en.keep K2 (ninS (Ne.symm ne_b_en) (ninS (Ne.symm ne_tb_en) nin0)) (ninS (Ne.symm ne_b_te) (ninS (Ne.symm ne_tb_te) nin0))
  have ZH := Nat.le_trans ZH K2.1
  have KK := KK.trans K2 (allS (mi 0 rfl) (allS (mi 1 rfl) all0))
  have Y_b := Yq2_0
  refine g_aloadN (k := 1) (q := 11) B X2 dK rfl rfl rfl ?_
  refine g_aloadN (k := 0) (q := 12) B X2 dK rfl rfl rfl ?_
  refine g_getF (i := 10) (q := 15) B X2 (host := "") (Or.inl (kw hw 34 rfl)) Via.refl rfl Y_pl.2.1 dK rfl (fun T3 X3 e3 => ?_)
  refine g_callV (i := 63) (W := 0) (q := 18) (a := b) (argsL := [(.ref en)]) (rest := []) B X3 (y := yy9) (kw hw 564 rfl) (kw hw 389 rfl) (kw hw 391 rfl) (kw hw 390 rfl) (kw hw 27 rfl) (kw hw 392 rfl) dD e3 Y_b.1 (rmAp l Z a0 hw [] b tb (cs ++ own_u2 (Int32.ofNat (cn + 1))) en te es T2.heap n0 ZH Y_b g_b g_tb Y_en hbe (by omega) ne_b_en ne_b_te ne_tb_en ne_tb_te (by first | omega | (simp only [List.length_append, List.length_cons, List.length_nil, own_u2, own_u4] at *; omega))) dK rfl rfl (lenOf pd_39 rfl) (Nat.le_of_eq rfl) rfl dD dD dD dD rfl (fun _ L4 T4 X4 hQ4 => ?_)
  obtain ⟨rfl, Nq4, K4, Yq4_0⟩ := hQ4
  have N4 := Fr.app N2 Nq4
  have KK := KK.trans K4 (allS (mi 0 rfl) (allS (mi 1 rfl) all0))
  have Y_b := Yq4_0
  exact g_ret B X4 dK dD dD rfl (by
    exact ⟨rfl, N4, KK, Y_b⟩)
def QrmTA (Z : State) (b tb : Addr) (cs : List Int32) (h0 : Heap) (n0 : Nat) (v : Option Value) (h : Heap) (L : List Loc) : Prop := ∃ b : Addr, v = some (.ref b) ∧ Fr n0 L ∧ Keep h0 h [] ∧ h0.size ≤ b ∧ own_Arf Z h b .byte (Int32.ofNat cs.length) (fun i => .int (own_L cs i))
theorem rmTA (l : Launch) (Z : State) (a0 : Array Value) (hw : own_H a0 Z) (ws : List Jvm.Cond) (b tb : Addr) (cs : List Int32) (h0 : Heap) (n0 : Nat) (ZH : n0 ≤ h0.size) (Y_b : own_By Z h0 b tb cs) (hac : own_bl cs) (hn : cs.length < 256) :
    own_Met l Z yy85 prog_81_method_10_code 1 (some (.array .byte)) ws (own_R 2 1 256 32) #[(.ref b)] h0 (QrmTA Z b tb cs h0 n0) 1 256 := by
  refine own_hd (fr := #[.val (.ref b)]) (plainFor_of_name pn_0) (fun {p e s m below meth c s₁} B X0 e0 => ?_)
  have N0 := Fr.nil n0
  have KK := Keep.refl h0 []
  refine g_aloadN (k := 0) (q := 1) B X0 dK rfl rfl rfl ?_
  refine g_getF (i := 7) (q := 4) B X0 (host := "") (Or.inl (kw hw 32 rfl)) Via.refl e0 Y_b.2.1 dK rfl (fun T1 X1 e1 => ?_)
  refine g_aloadN (k := 0) (q := 5) B X1 dK rfl rfl rfl ?_
  refine g_getF (i := 13) (q := 8) B X1 (host := "") (Or.inl (kw hw 119 rfl)) Via.refl e1 Y_b.2.2.1 dK rfl (fun T2 X2 e2 => ?_)
  refine g_callS (i := 17) (W := 0) (q := 11) (argsL := [(.ref tb), (.int (Int32.ofNat cs.length))]) (rest := []) B X2 (y := yy21) (kw hw 572 rfl) (kw hw 556 rfl) (kw hw 320 rfl) (kw hw 557 rfl) dD e2 (rmCq l Z a0 hw [] tb cs h0 n0 ZH Y_b.2.2.2.1 hac hn) dK rfl rfl (lenOf pd_18 rfl) (Nat.le_of_eq rfl) rfl dD dD dD dD rfl (fun _ L3 T3 X3 hQ3 => ?_)
  obtain ⟨r3, rfl, Nq3, K3, szr3, G_r3⟩ := hQ3
  have N3 := Fr.app N0 Nq3
  have KK := KK.trans K3 all0
  exact g_retA B X3 rfl rfl rfl dK dD dD rfl (by
    exact ⟨r3, rfl, N3, KK, szr3, G_r3⟩)
def own_es3 : List Int32 := ((((((((([] ++ [own_b8 (Int32.ofNat 1)]) ++ own_u2 (Int32.ofNat [Int32.ofNat 109].length)) ++ [Int32.ofNat 109]) ++ [own_b8 (Int32.ofNat 1)]) ++ own_u2 (Int32.ofNat [Int32.ofNat 40, Int32.ofNat 41, Int32.ofNat 86].length)) ++ [Int32.ofNat 40, Int32.ofNat 41, Int32.ofNat 86]) ++ [own_b8 (Int32.ofNat 1)]) ++ own_u2 (Int32.ofNat [Int32.ofNat 67, Int32.ofNat 111, Int32.ofNat 100, Int32.ofNat 101].length)) ++ [Int32.ofNat 67, Int32.ofNat 111, Int32.ofNat 100, Int32.ofNat 101])
def own_ms (nn : Nat) (cs : List Int32) : List Int32 := (((((((((((([] ++ own_u2 (1 : Int32)) ++ own_u2 (Int32.ofNat (0 + 1))) ++ own_u2 (Int32.ofNat ((0 + 1) + 1))) ++ own_u2 (1 : Int32)) ++ own_u2 (Int32.ofNat (((0 + 1) + 1) + 1))) ++ own_u4 (((12 : Int32) + (Int32.ofNat nn)) + (0 : Int32))) ++ own_u2 (1 : Int32)) ++ own_u2 (1 : Int32)) ++ own_u4 (Int32.ofNat nn)) ++ cs) ++ own_u2 (0 : Int32)) ++ own_u2 (0 : Int32))
theorem own_y0 : own_Ky ((([] ++ [Int32.ofNat (48 + 1)]) ++ [Int32.ofNat 32]) ++ [Int32.ofNat 109]) 14 [] := ⟨own_asD dK, by decide, by decide, by decide +kernel, by decide +kernel, by decide, by decide⟩
theorem own_y1 : own_Ky ((([] ++ [Int32.ofNat (48 + 1)]) ++ [Int32.ofNat 32]) ++ [Int32.ofNat 40, Int32.ofNat 41, Int32.ofNat 86]) 7 (14 :: []) := ⟨own_asD dK, by decide, by decide, by decide +kernel, by decide +kernel, by decide, by decide⟩
theorem own_y2 : own_Ky ((([] ++ [Int32.ofNat (48 + 1)]) ++ [Int32.ofNat 32]) ++ [Int32.ofNat 67, Int32.ofNat 111, Int32.ofNat 100, Int32.ofNat 101]) 12 (7 :: (14 :: [])) := ⟨own_asD dK, by decide, by decide, by decide +kernel, by decide +kernel, by decide, by decide⟩
theorem own_y3 : own_Ky ((([] ++ [Int32.ofNat (48 + 1)]) ++ [Int32.ofNat 32]) ++ [Int32.ofNat 65]) 2 (12 :: (7 :: (14 :: []))) := ⟨own_asD dK, by decide, by decide, by decide +kernel, by decide +kernel, by decide, by decide⟩
theorem own_y4 : own_Ky ((([] ++ [Int32.ofNat (48 + 7)]) ++ [Int32.ofNat 32]) ++ [Int32.ofNat 91, Int32.ofNat (48 + ((((0 + 1) + 1) + 1) + 1)), Int32.ofNat 93]) 13 (2 :: (12 :: (7 :: (14 :: [])))) := ⟨own_asD dK, by decide, by decide, by decide +kernel, by decide +kernel, by decide, by decide⟩
theorem own_y5 : own_Ky ((([] ++ [Int32.ofNat (48 + 1)]) ++ [Int32.ofNat 32]) ++ [Int32.ofNat 106, Int32.ofNat 97, Int32.ofNat 118, Int32.ofNat 97, Int32.ofNat 47, Int32.ofNat 108, Int32.ofNat 97, Int32.ofNat 110, Int32.ofNat 103, Int32.ofNat 47, Int32.ofNat 79, Int32.ofNat 98, Int32.ofNat 106, Int32.ofNat 101, Int32.ofNat 99, Int32.ofNat 116]) 11 (13 :: (2 :: (12 :: (7 :: (14 :: []))))) := ⟨own_asD dK, by decide, by decide, by decide +kernel, by decide +kernel, by decide, by decide⟩
theorem own_y6 : own_Ky ((([] ++ [Int32.ofNat (48 + 7)]) ++ [Int32.ofNat 32]) ++ [Int32.ofNat 91, Int32.ofNat (48 + ((((((0 + 1) + 1) + 1) + 1) + 1) + 1)), Int32.ofNat 93]) 15 (11 :: (13 :: (2 :: (12 :: (7 :: (14 :: [])))))) := ⟨own_asD dK, by decide, by decide, by decide +kernel, by decide +kernel, by decide, by decide⟩
theorem own_q0 : own_as [Int32.ofNat 109] := own_asD dK
theorem own_q1 : own_as [Int32.ofNat 40, Int32.ofNat 41, Int32.ofNat 86] := own_asD dK
theorem own_q2 : own_as [Int32.ofNat 67, Int32.ofNat 111, Int32.ofNat 100, Int32.ofNat 101] := own_asD dK
theorem own_q3 : own_as [Int32.ofNat 65] := own_asD dK
theorem own_q4 : own_as [Int32.ofNat 106, Int32.ofNat 97, Int32.ofNat 118, Int32.ofNat 97, Int32.ofNat 47, Int32.ofNat 108, Int32.ofNat 97, Int32.ofNat 110, Int32.ofNat 103, Int32.ofNat 47, Int32.ofNat 79, Int32.ofNat 98, Int32.ofNat 106, Int32.ofNat 101, Int32.ofNat 99, Int32.ofNat 116] := own_asD dK
theorem own_n8k {k : Nat} (h : k < 256) : ¬ (8000 : Int32) < (Int32.ofNat k) := fun q => by
  have := Int32.lt_iff_toInt_lt.mp q
  rw [own_nlen h, show (8000 : Int32).toInt = 8000 from by decide] at this; omega

theorem pd_50 : parseMethodDescriptor "()Ljava/util/Iterator;" = some ⟨[], some (.object "java/util/Iterator")⟩ := by decide +kernel
def QrmMe (Z : State) (cz : Int32) (fv : Value) (ev dg ca : Addr) (cg : Nat → Addr) (wr pl : Addr) (en te : Addr) (mp tb : Addr) (me tm : Addr) (fi na : Addr) (su x1 : Addr) (tx1 x2 : Addr) (tx2 c0 : Addr) (cb tc al : Addr) (cs : List Int32) (nn : Nat) (h0 : Heap) (n0 : Nat) (v : Option Value) (h : Heap) (L : List Loc) : Prop := v = none ∧ Fr n0 L ∧ Keep h0 h [wr, pl, en, te, mp, tb, me, tm] ∧ ∃ tb' : Addr, (tb' = tb ∨ h0.size ≤ tb') ∧ own_Wr Z h wr pl fi me na su (1 : Int32) ∧ own_P0 Z h pl en mp (Int32.ofNat (((0 + 1) + 1) + 1)) ∧ own_By Z h en te own_es3 ∧ own_Mp Z h mp tb' (12 :: (7 :: (14 :: []))) ∧ own_By Z h me tm (own_ms nn cs)
theorem rmMe (l : Launch) (Z : State) (a0 : Array Value) (hw : own_H a0 Z) (ws : List Jvm.Cond) (cz : Int32) (fv : Value) (ev dg ca : Addr) (cg : Nat → Addr) (wr pl : Addr) (en te : Addr) (mp tb : Addr) (me tm : Addr) (fi na : Addr) (su x1 : Addr) (tx1 x2 : Addr) (tx2 c0 : Addr) (cb tc al : Addr) (cs : List Int32) (nn : Nat) (h0 : Heap) (n0 : Nat) (ZH : n0 ≤ h0.size) (OO : Old Z n0 h0) (HW : own_W Z cz fv ev dg ca cg) (Y_wr : own_Wr Z h0 wr pl fi me na su (0 : Int32)) (Y_pl : own_P0 Z h0 pl en mp (Int32.ofNat 0)) (Y_en : own_By Z h0 en te []) (Y_me : own_By Z h0 me tm []) (Y_x1 : own_St Z h0 x1 tx1 [Int32.ofNat 109]) (Y_x2 : own_St Z h0 x2 tx2 [Int32.ofNat 40, Int32.ofNat 41, Int32.ofNat 86]) (Y_c0 : own_Cd Z h0 c0 cb al) (Y_cb : own_By Z h0 cb tc cs) (Y_al : own_Al Z h0 al (.ref ev)) (Y_mp : own_Mp Z h0 mp tb []) (ne_wr_pl : wr ≠ pl) (ne_wr_en : wr ≠ en) (ne_wr_te : wr ≠ te) (ne_wr_mp : wr ≠ mp) (ne_wr_tb : wr ≠ tb) (ne_wr_me : wr ≠ me) (ne_wr_tm : wr ≠ tm) (ne_pl_en : pl ≠ en) (ne_pl_te : pl ≠ te) (ne_pl_mp : pl ≠ mp) (ne_pl_tb : pl ≠ tb) (ne_pl_me : pl ≠ me) (ne_pl_tm : pl ≠ tm) (ne_en_mp : en ≠ mp) (ne_en_tb : en ≠ tb) (ne_en_me : en ≠ me) (ne_en_tm : en ≠ tm) (ne_te_mp : te ≠ mp) (ne_te_tb : te ≠ tb) (ne_te_me : te ≠ me) (ne_te_tm : te ≠ tm) (ne_mp_me : mp ≠ me) (ne_mp_tm : mp ≠ tm) (ne_tb_me : tb ≠ me) (ne_tb_tm : tb ≠ tm) (ne_x1_wr : x1 ≠ wr) (ne_x1_pl : x1 ≠ pl) (ne_x1_en : x1 ≠ en) (ne_x1_te : x1 ≠ te) (ne_x1_mp : x1 ≠ mp) (ne_x1_tb : x1 ≠ tb) (ne_x1_me : x1 ≠ me) (ne_x1_tm : x1 ≠ tm) (ne_tx1_wr : tx1 ≠ wr) (ne_tx1_pl : tx1 ≠ pl) (ne_tx1_en : tx1 ≠ en) (ne_tx1_te : tx1 ≠ te) (ne_tx1_mp : tx1 ≠ mp) (ne_tx1_tb : tx1 ≠ tb) (ne_tx1_me : tx1 ≠ me) (ne_tx1_tm : tx1 ≠ tm) (ne_x2_wr : x2 ≠ wr) (ne_x2_pl : x2 ≠ pl) (ne_x2_en : x2 ≠ en) (ne_x2_te : x2 ≠ te) (ne_x2_mp : x2 ≠ mp) (ne_x2_tb : x2 ≠ tb) (ne_x2_me : x2 ≠ me) (ne_x2_tm : x2 ≠ tm) (ne_tx2_wr : tx2 ≠ wr) (ne_tx2_pl : tx2 ≠ pl) (ne_tx2_en : tx2 ≠ en) (ne_tx2_te : tx2 ≠ te) (ne_tx2_mp : tx2 ≠ mp) (ne_tx2_tb : tx2 ≠ tb) (ne_tx2_me : tx2 ≠ me) (ne_tx2_tm : tx2 ≠ tm) (ne_c0_wr : c0 ≠ wr) (ne_c0_pl : c0 ≠ pl) (ne_c0_en : c0 ≠ en) (ne_c0_te : c0 ≠ te) (ne_c0_mp : c0 ≠ mp) (ne_c0_tb : c0 ≠ tb) (ne_c0_me : c0 ≠ me) (ne_c0_tm : c0 ≠ tm) (ne_cb_wr : cb ≠ wr) (ne_cb_pl : cb ≠ pl) (ne_cb_en : cb ≠ en) (ne_cb_te : cb ≠ te) (ne_cb_mp : cb ≠ mp) (ne_cb_tb : cb ≠ tb) (ne_cb_me : cb ≠ me) (ne_cb_tm : cb ≠ tm) (ne_tc_wr : tc ≠ wr) (ne_tc_pl : tc ≠ pl) (ne_tc_en : tc ≠ en) (ne_tc_te : tc ≠ te) (ne_tc_mp : tc ≠ mp) (ne_tc_tb : tc ≠ tb) (ne_tc_me : tc ≠ me) (ne_tc_tm : tc ≠ tm) (ne_al_wr : al ≠ wr) (ne_al_pl : al ≠ pl) (ne_al_en : al ≠ en) (ne_al_te : al ≠ te) (ne_al_mp : al ≠ mp) (ne_al_tb : al ≠ tb) (ne_al_me : al ≠ me) (ne_al_tm : al ≠ tm) (g_wr : n0 ≤ wr) (g_pl : n0 ≤ pl) (g_en : n0 ≤ en) (g_te : n0 ≤ te) (g_mp : n0 ≤ mp) (g_tb : n0 ≤ tb) (g_me : n0 ≤ me) (g_tm : n0 ≤ tm) (hcl : cs.length = nn) (hnn : nn < 20) (hbc : own_bl cs) :
    own_MetW l Z yy86 prog_80_method_5_code 11 none ws (own_R 9 41 1617 3090) #[(.ref wr), (.ref x1), (.ref x2), (.ref c0), (.int (1 : Int32)), (.int (1 : Int32))] h0 (QrmMe Z cz fv ev dg ca cg wr pl en te mp tb me tm fi na su x1 tx1 x2 tx2 c0 cb tc al cs nn h0 n0) 41 1617 := by
  refine own_hw (fr := #[.val (.ref wr), .val (.ref x1), .val (.ref x2), .val (.ref c0), .val (.int (1 : Int32)), .val (.int (1 : Int32)), .unset, .unset, .unset, .unset, .unset]) (plainFor_of_name pn_10) (fun {p e s m below meth c s₁} B X0 e0 hh DD Nm => ?_)
  have N0 := Fr.nil n0
  have KK := Keep.refl h0 [wr, pl, en, te, mp, tb, me, tm]
  have I_te := Y_en.in_tb
  have I_tm := Y_me.in_tb
  have I_tx1 := Y_x1.in_tx
  have I_tx2 := Y_x2.in_tx
  have I_tc := Y_cb.in_tb
  have I_tb := Y_mp.in_tb
  refine g_aloadN (k := 3) (q := 1) B X0 dK rfl rfl rfl ?_
  refine g_getFR (i := 62) (q := 4) B X0 (kw hw 144 rfl) e0 Y_c0.2.1 dK rfl (fun T1 X1 e1 => ?_)
  refine g_callV (i := 65) (W := 0) (q := 7) (a := cb) (argsL := []) (rest := []) B X1 (y := yy8) (kw hw 145 rfl) (kw hw 127 rfl) (kw hw 129 rfl) (kw hw 128 rfl) (kw hw 27 rfl) (kw hw 130 rfl) dD e1 Y_cb.1 (rmBz l Z a0 hw [] cb tc cs h0 n0 ZH Y_cb) dK rfl rfl (lenOf pd_3 rfl) (Nat.le_of_eq rfl) rfl dD dD dD dD rfl (fun _ L2 T2 X2 hQ2 => ?_)
  obtain ⟨rfl, Nq2, e2⟩ := hQ2
  have N2 := Fr.app N0 Nq2
  rw [hcl]
  refine g_sipush (o := 8000) (q := 10) (v := 8000) B X2 dK rfl rfl ?_
  refine g_icmpYes (cd := .le) (o := 8) (q := 18) B X2 dK ((flt ((own_n8k (by omega)) : ¬ ((8000 : Int32) < (Int32.ofNat nn)))).2.2.2) dD dD ?_
  refine g_new (i := 16) (q := 21) B X2 (kw hw 56 rfl) (kw hw 26 rfl) (kw hw 27 rfl) e2 dK dD dD rfl (fun b3 T3 h3 gz3 X3 e3 E3 A3 D3 => ?_)
  have ne_wr_b3 := nl Y_wr.lt gz3
  have ne_pl_b3 := nl Y_pl.lt gz3
  have ne_en_b3 := nl Y_en.lt gz3
  have ne_te_b3 := nl I_te.lt gz3
  have ne_me_b3 := nl Y_me.lt gz3
  have ne_tm_b3 := nl I_tm.lt gz3
  have ne_x1_b3 := nl Y_x1.lt gz3
  have ne_tx1_b3 := nl I_tx1.lt gz3
  have ne_x2_b3 := nl Y_x2.lt gz3
  have ne_tx2_b3 := nl I_tx2.lt gz3
  have ne_c0_b3 := nl Y_c0.lt gz3
  have ne_cb_b3 := nl Y_cb.lt gz3
  have ne_tc_b3 := nl I_tc.lt gz3
  have ne_al_b3 := nl Y_al.lt gz3
  have ne_tb_b3 := nl I_tb.lt gz3
  have ne_mp_b3 := nl Y_mp.lt gz3
  have g_b3 := gl ZH gz3
  have sz_b3 := gl KK.1 gz3
  have DD := DD.ext E3
  have Y_wr := Y_wr.ext E3
  have Y_pl := Y_pl.ext E3
  have Y_en := Y_en.ext E3
  have Y_me := Y_me.ext E3
  have Y_x1 := Y_x1.ext E3
  have Y_x2 := Y_x2.ext E3
  have Y_c0 := Y_c0.ext E3
  have Y_cb := Y_cb.ext E3
  have Y_al := Y_al.ext E3
  have Y_mp := Y_mp.ext E3
  have I_te := I_te.ext E3
  have I_tm := I_tm.ext E3
  have I_tx2 := I_tx2.ext E3
  have I_tc := I_tc.ext E3
  have ZH := Nat.le_trans ZH E3.1
  have KK := KK.ext E3
  have OO := OO.ext E3
  have E_b3 := A3
  have F_bytes_b3 : Fld Z h3 b3 zz0 "bytes" "[B" .null := D3 (Or.inl (kw hw 33 rfl)) (ty := (.array .byte)) dD
  have F_size_b3 : Fld Z h3 b3 zz0 "size" "I" (.int (0 : Int32)) := D3 (Or.inl (kw hw 120 rfl)) (ty := .int) dD
  refine g_dup (q := 22) B X3 dK rfl rfl ?_
  refine g_callIR (i := 18) (W := 1) (q := 25) (a := b3) (argsL := []) (rest := [(.ref b3)]) B X3 (y := yy3) rfl (kw hw 57 rfl) (kw hw 29 rfl) (kw hw 27 rfl) (kw hw 30 rfl) dD e3 (rmBi l Z a0 hw [] b3 h3 n0 ZH E_b3 F_bytes_b3 F_size_b3 g_b3) dK rfl rfl (lenOf pd_1 rfl) (Nat.le_of_eq rfl) rfl dD dD dD dD rfl (fun _ L4 T4 X4 hQ4 => ?_)
  obtain ⟨rfl, Nq4, K4, tb3, szq4, Yq4⟩ := hQ4
  have N4 := Fr.app N2 Nq4
  have sk4 : ∀ x ∈ ([b3] : List Addr), Safe Z own_EL s.vm h3 x := (sfS (Safe.exa B.hZ.alike E_b3 dD dD) sf0)
  have DD := DD.keep K4 sk4
  have Y_wr := Y_wr.keep K4 (ninS ne_wr_b3 nin0)
  have Y_pl := Y_pl.keep K4 (ninS ne_pl_b3 nin0)
  have Y_en := Y_en.keep K4 (ninS ne_en_b3 nin0) (ninS ne_te_b3 nin0)
  have Y_me := Y_me.keep K4 (ninS ne_me_b3 nin0) (ninS ne_tm_b3 nin0)
  have Y_x1 := Y_x1.keep K4 (ninS ne_x1_b3 nin0) (ninS ne_tx1_b3 nin0)
  have Y_x2 := Y_x2.keep K4 (ninS ne_x2_b3 nin0) (ninS ne_tx2_b3 nin0)
  have Y_c0 := Y_c0.keep K4 (ninS ne_c0_b3 nin0)
  have Y_cb := Y_cb.keep K4 (ninS ne_cb_b3 nin0) (ninS ne_tc_b3 nin0)
  have Y_al := Y_al.keep K4 (ninS ne_al_b3 nin0)
  have Y_mp := Y_mp.keep K4 (ninS ne_mp_b3 nin0) (ninS ne_tb_b3 nin0)
  have I_te := I_te.keep K4
  have I_tm := I_tm.keep K4
  have I_tx2 := I_tx2.keep K4
  have I_tc := I_tc.keep K4
  have ZH := Nat.le_trans ZH K4.1
  have KK := KK.trans K4 (allS (Or.inr sz_b3) all0)
  have OO := OO.keep K4 (allS g_b3 all0)
  refine g_astore (k := 6) (q := 27) (l' := #[.val (.ref wr), .val (.ref x1), .val (.ref x2), .val (.ref c0), .val (.int (1 : Int32)), .val (.int (1 : Int32)), .val (.ref b3), .unset, .unset, .unset, .unset]) B X4 dK rfl rfl rfl ?_
  refine g_iconst (o := -1) (q := 28) (v := -1) B X4 dK rfl rfl ?_
  refine g_istore (k := 7) (q := 30) (l' := #[.val (.ref wr), .val (.ref x1), .val (.ref x2), .val (.ref c0), .val (.int (1 : Int32)), .val (.int (1 : Int32)), .val (.ref b3), .val (.int (-1 : Int32)), .unset, .unset, .unset]) B X4 dK rfl rfl ?_
  refine g_aloadN (k := 3) (q := 31) B X4 dK rfl rfl rfl ?_
  refine g_getFR (i := 73) (q := 34) B X4 (kw hw 146 rfl) rfl Y_c0.2.2 dK rfl (fun T5 X5 e5 => ?_)
  refine g_callF (i := 77) (cnt := 1) (W := 0) (q := 39) (a := al) (argsL := []) (rest := []) B X5 (xi := (⟨zz19, "iterator", zz46⟩ : MethodName)) (y := yy47) (mvT B.hZ (kw hw 147 rfl)) (mvT B.hZ (kw hw 148 rfl)) (mvT B.hZ (kw hw 149 rfl)) (mvT B.hZ (kw hw 150 rfl)) (mvT B.hZ (kw hw 151 rfl)) (mvT B.hZ (kw hw 152 rfl)) (mvT B.hZ (kw hw 153 rfl)) (mvT B.hZ (kw hw 154 rfl)) (kw hw 85 rfl) (kw hw 155 rfl) dD e5 Y_al.1 (rmIt l Z a0 hw [] al (.ref ev) T4.heap n0 ZH Y_al) dK rfl rfl (lenOf pd_50 rfl) (Nat.le_of_eq rfl) rfl dD dD dD dD rfl (fun _ L6 T6 X6 hQ6 => ?_)
  obtain ⟨it6, rfl, Nq6, K6, szi6, Y_it6⟩ := hQ6
  have N6 := Fr.app N4 Nq6
  have sk6 : ∀ x ∈ ([] : List Addr), Safe Z own_EL s.vm T4.heap x := sf0
  have DD := DD.keep K6 sk6
  have Y_wr := Y_wr.keep K6 nin0
  have Y_pl := Y_pl.keep K6 nin0
  have Y_en := Y_en.keep K6 nin0 nin0
  have Y_me := Y_me.keep K6 nin0 nin0
  have Y_x1 := Y_x1.keep K6 nin0 nin0
  have Y_x2 := Y_x2.keep K6 nin0 nin0
  have Y_c0 := Y_c0.keep K6 nin0
  have Y_cb := Y_cb.keep K6 nin0 nin0
  have Y_al := Y_al.keep K6 nin0
  have Y_mp := Y_mp.keep K6 nin0 nin0
  have I_te := I_te.keep K6
  have I_tm := I_tm.keep K6
  have I_tx2 := I_tx2.keep K6
  have I_tc := I_tc.keep K6
  have ZH := Nat.le_trans ZH K6.1
  have KK := KK.trans K6 all0
  have OO := OO.keep K6 all0
  refine g_astore (k := 8) (q := 41) (l' := #[.val (.ref wr), .val (.ref x1), .val (.ref x2), .val (.ref c0), .val (.int (1 : Int32)), .val (.int (1 : Int32)), .val (.ref b3), .val (.int (-1 : Int32)), .val (.ref it6), .unset, .unset]) B X6 dK rfl rfl rfl ?_
  refine g_aload (k := 8) (q := 43) B X6 dK rfl rfl rfl ?_
  refine g_callF (i := 83) (cnt := 1) (W := 0) (q := 48) (a := it6) (argsL := []) (rest := []) B X6 (xi := (⟨"java/util/Iterator", "hasNext", "()Z"⟩ : MethodName)) (y := yy48) (mvT B.hZ (kw hw 172 rfl)) (mvT B.hZ (kw hw 173 rfl)) (mvT B.hZ (kw hw 174 rfl)) (mvT B.hZ (kw hw 175 rfl)) (mvT B.hZ (kw hw 176 rfl)) (mvT B.hZ (kw hw 177 rfl)) (mvT B.hZ (kw hw 178 rfl)) (mvT B.hZ (kw hw 179 rfl)) (kw hw 158 rfl) (kw hw 180 rfl) dD rfl Y_it6.1 (rmHN l Z a0 hw [] it6 al (.ref ev) T6.heap n0 ZH Y_it6 Y_al) dK rfl rfl (lenOf pd_7 rfl) (Nat.le_of_eq rfl) rfl dD dD dD dD rfl (fun _ L7 T7 X7 hQ7 => ?_)
  obtain ⟨rfl, Nq7, e7⟩ := hQ7
  have N7 := Fr.app N6 Nq7
  refine g_ifYes (cd := .eq) (o := 66) (q := 114) B X7 dK (((if0 _ _).trans (teq (by decide : (0 : Int32) = (0 : Int32))).1)) dD dD ?_
  refine g_aloadN (k := 0) (q := 115) B X7 dK rfl rfl rfl ?_
  refine g_getF (i := 23) (q := 118) B X7 (host := "") (Or.inl (kw hw 60 rfl)) Via.refl e7 Y_wr.2.2.2.1 dK rfl (fun T8 X8 e8 => ?_)
  refine g_iconst (o := 1) (q := 119) (v := 1) B X8 dK rfl rfl ?_
  refine g_callV (i := 33) (W := 0) (q := 122) (a := me) (argsL := [(.int (1 : Int32))]) (rest := []) B X8 (y := yy0) (kw hw 185 rfl) (kw hw 132 rfl) (kw hw 134 rfl) (kw hw 133 rfl) (kw hw 27 rfl) (kw hw 135 rfl) dD e8 Y_me.1 (rmU2 l Z a0 hw [] me tm [] (1 : Int32) T6.heap n0 ZH Y_me g_me g_tm (by first | omega | (simp only [List.length_append, List.length_cons, List.length_nil, own_u2, own_u4] at *; omega))) dK rfl rfl (lenOf pd_0 rfl) (Nat.le_of_eq rfl) rfl dD dD dD dD rfl (fun _ L9 T9 X9 hQ9 => ?_)
  obtain ⟨rfl, Nq9, K9, Yq9_0⟩ := hQ9
  have N9 := Fr.app N7 Nq9
  have sk9 : ∀ x ∈ ([me, tm] : List Addr), Safe Z own_EL s.vm T6.heap x := (sfS (Safe.exa B.hZ.alike Y_me.1 dD dD) (sfS (own_Safe256 (own_EWS hw) B.hZ Y_me.2.2.2.1) sf0))
  have DD := DD.keep K9 sk9
  have Y_wr := Y_wr.keep K9 (ninS ne_wr_me (ninS ne_wr_tm nin0))
  have Y_pl := Y_pl.keep K9 (ninS ne_pl_me (ninS ne_pl_tm nin0))
  have Y_en := Y_en.keep K9 (ninS ne_en_me (ninS ne_en_tm nin0)) (ninS ne_te_me (ninS ne_te_tm nin0))
  have Y_x1 := Y_x1.keep K9 (ninS ne_x1_me (ninS ne_x1_tm nin0)) (ninS ne_tx1_me (ninS ne_tx1_tm nin0))
  have Y_x2 := Y_x2.keep K9 (ninS ne_x2_me (ninS ne_x2_tm nin0)) (ninS ne_tx2_me (ninS ne_tx2_tm nin0))
  have Y_c0 := Y_c0.keep K9 (ninS ne_c0_me (ninS ne_c0_tm nin0))
  have Y_cb := Y_cb.keep K9 (ninS ne_cb_me (ninS ne_cb_tm nin0)) (ninS ne_tc_me (ninS ne_tc_tm nin0))
  have Y_al := Y_al.keep K9 (ninS ne_al_me (ninS ne_al_tm nin0))
  have Y_mp := Y_mp.keep K9 (ninS ne_mp_me (ninS ne_mp_tm nin0)) (ninS ne_tb_me (ninS ne_tb_tm nin0))
  have I_te := I_te.keep K9
  have I_tm := I_tm.keep K9
  have I_tx2 := I_tx2.keep K9
  have I_tc := I_tc.keep K9
  have ZH := Nat.le_trans ZH K9.1
  have KK := KK.trans K9 (allS (mi 6 rfl) (allS (mi 7 rfl) all0))
  have OO := OO.keep K9 (allS g_me (allS g_tm all0))
  have Y_me := Yq9_0
  refine g_aloadN (k := 0) (q := 123) B X9 dK rfl rfl rfl ?_
  refine g_getF (i := 23) (q := 126) B X9 (host := "") (Or.inl (kw hw 60 rfl)) Via.refl rfl Y_wr.2.2.2.1 dK rfl (fun T10 X10 e10 => ?_)
  refine g_aloadN (k := 0) (q := 127) B X10 dK rfl rfl rfl ?_
  refine g_getF (i := 12) (q := 130) B X10 (host := "") (Or.inl (kw hw 54 rfl)) Via.refl e10 Y_wr.2.1 dK rfl (fun T11 X11 e11 => ?_)
  refine g_aloadN (k := 1) (q := 131) B X11 dK rfl rfl rfl ?_
  refine g_wcallV (i := 37) (W := 1) (q := 134) (a := pl) (argsL := [(.ref x1)]) (rest := [(.ref me)]) B X11 DD (own_EWS hw).ew (y := yy11) (kw hw 186 rfl) (kw hw 187 rfl) (kw hw 189 rfl) (kw hw 188 rfl) (kw hw 20 rfl) (kw hw 190 rfl) dD e11 Y_pl.1 (rmUf l Z a0 hw [] cz fv ev dg ca cg pl en te mp tb [] 0 [] x1 tx1 [Int32.ofNat 109] 14 T9.heap n0 ZH OO HW Y_pl Y_en Y_x1 Y_mp ne_pl_en ne_pl_te ne_pl_mp ne_pl_tb ne_en_mp ne_en_tb ne_te_mp ne_te_tb ne_x1_pl ne_x1_en ne_x1_te ne_x1_mp ne_x1_tb ne_tx1_pl ne_tx1_en ne_tx1_te ne_tx1_mp ne_tx1_tb g_pl g_en g_te g_mp g_tb own_q0 dD dD (Or.inl dD) dD dD dD own_y0.1 own_y0.2.1 own_y0.2.2.1 own_y0.2.2.2.1 own_y0.2.2.2.2.1 own_y0.2.2.2.2.2.1 own_y0.2.2.2.2.2.2) dK rfl rfl (lenOf pd_48 rfl) (Nat.le_of_eq rfl) rfl dD dD dD dD rfl (fun _ L12 T12 X12 B12 D12 CR12 hQ12 => ?_)
  have zh12 := ZH
  have kk12 := KK.1
  have lt12_wr := Y_wr.lt
  have lt12_pl := Y_pl.lt
  have lt12_en := Y_en.lt
  have lt12_te := I_te.lt
  have lt12_me := Y_me.lt
  have lt12_tm := I_tm.lt
  have lt12_x2 := Y_x2.lt
  have lt12_tx2 := I_tx2.lt
  have lt12_c0 := Y_c0.lt
  have lt12_cb := Y_cb.lt
  have lt12_tc := I_tc.lt
  have lt12_al := Y_al.lt
  obtain ⟨rfl, Nq12, K12, tb12, cq12, Yp12, Ye12, Ym12⟩ := hQ12
  have N12 := Fr.app N9 Nq12
  have Y_wr := Y_wr.keep K12 (ninS ne_wr_pl (ninS ne_wr_en (ninS ne_wr_te (ninS ne_wr_mp (ninS ne_wr_tb nin0)))))
  have Y_x2 := Y_x2.keep K12 (ninS ne_x2_pl (ninS ne_x2_en (ninS ne_x2_te (ninS ne_x2_mp (ninS ne_x2_tb nin0))))) (ninS ne_tx2_pl (ninS ne_tx2_en (ninS ne_tx2_te (ninS ne_tx2_mp (ninS ne_tx2_tb nin0)))))
  have Y_c0 := Y_c0.keep K12 (ninS ne_c0_pl (ninS ne_c0_en (ninS ne_c0_te (ninS ne_c0_mp (ninS ne_c0_tb nin0)))))
  have Y_cb := Y_cb.keep K12 (ninS ne_cb_pl (ninS ne_cb_en (ninS ne_cb_te (ninS ne_cb_mp (ninS ne_cb_tb nin0))))) (ninS ne_tc_pl (ninS ne_tc_en (ninS ne_tc_te (ninS ne_tc_mp (ninS ne_tc_tb nin0)))))
  have Y_al := Y_al.keep K12 (ninS ne_al_pl (ninS ne_al_en (ninS ne_al_te (ninS ne_al_mp (ninS ne_al_tb nin0)))))
  have Y_me := Y_me.keep K12 (ninS (Ne.symm ne_pl_me) (ninS (Ne.symm ne_en_me) (ninS (Ne.symm ne_te_me) (ninS (Ne.symm ne_mp_me) (ninS (Ne.symm ne_tb_me) nin0))))) (ninS (Ne.symm ne_pl_tm) (ninS (Ne.symm ne_en_tm) (ninS (Ne.symm ne_te_tm) (ninS (Ne.symm ne_mp_tm) (ninS (Ne.symm ne_tb_tm) nin0)))))
  have I_te := I_te.keep K12
  have I_tm := I_tm.keep K12
  have I_tc := I_tc.keep K12
  have ZH := Nat.le_trans ZH K12.1
  have KK := KK.trans K12 (allS (mi 1 rfl) (allS (mi 2 rfl) (allS (mi 3 rfl) (allS (mi 4 rfl) (allS (mi 5 rfl) all0)))))
  have OO := OO.keep K12 (allS g_pl (allS g_en (allS g_te (allS g_mp (allS g_tb all0)))))
  have DD := D12
  have ne_wr_tb12 := own_ne2 cq12 ne_wr_tb lt12_wr
  have ne_pl_tb12 := own_ne2 cq12 ne_pl_tb lt12_pl
  have ne_en_tb12 := own_ne2 cq12 ne_en_tb lt12_en
  have ne_te_tb12 := own_ne2 cq12 ne_te_tb lt12_te
  have ne_me_tb12 := own_ne2 cq12 (Ne.symm ne_tb_me) lt12_me
  have ne_tm_tb12 := own_ne2 cq12 (Ne.symm ne_tb_tm) lt12_tm
  have ne_x2_tb12 := own_ne2 cq12 ne_x2_tb lt12_x2
  have ne_tx2_tb12 := own_ne2 cq12 ne_tx2_tb lt12_tx2
  have ne_c0_tb12 := own_ne2 cq12 ne_c0_tb lt12_c0
  have ne_cb_tb12 := own_ne2 cq12 ne_cb_tb lt12_cb
  have ne_tc_tb12 := own_ne2 cq12 ne_tc_tb lt12_tc
  have ne_al_tb12 := own_ne2 cq12 ne_al_tb lt12_al
  have g_tb12 := own_ge2 cq12 g_tb zh12
  have mo_tb12 := own_mo cq12 (Or.inl (List.mem_of_getElem? (l := [wr, pl, en, te, mp, tb, me, tm]) (i := 5) rfl)) kk12
  have Y_pl := Yp12
  have Y_en := Ye12
  have Y_mp := Ym12
  refine g_callV (i := 33) (W := 0) (q := 137) (a := me) (argsL := [(.int (Int32.ofNat (0 + 1)))]) (rest := []) B12 X12 (y := yy0) (kw hw 185 rfl) (kw hw 132 rfl) (kw hw 134 rfl) (kw hw 133 rfl) (kw hw 27 rfl) (kw hw 135 rfl) dD rfl Y_me.1 (rmU2 l Z a0 hw [] me tm ([] ++ own_u2 (1 : Int32)) (Int32.ofNat (0 + 1)) T12.heap n0 ZH Y_me g_me g_tm (by first | omega | (simp only [List.length_append, List.length_cons, List.length_nil, own_u2, own_u4] at *; omega))) dK rfl rfl (lenOf pd_0 rfl) (Nat.le_of_eq rfl) rfl dD dD dD dD rfl (fun _ L13 T13 X13 hQ13 => ?_)
  obtain ⟨rfl, Nq13, K13, Yq13_0⟩ := hQ13
  have N13 := Fr.app N12 Nq13
  have sk13 : ∀ x ∈ ([me, tm] : List Addr), Safe Z own_EL T12.vm T12.heap x := (sfS (Safe.exa B12.hZ.alike Y_me.1 dD dD) (sfS (own_Safe256 (own_EWS hw) B12.hZ Y_me.2.2.2.1) sf0))
  have DD := DD.keep K13 sk13
  have Y_wr := Y_wr.keep K13 (ninS ne_wr_me (ninS ne_wr_tm nin0))
  have Y_x2 := Y_x2.keep K13 (ninS ne_x2_me (ninS ne_x2_tm nin0)) (ninS ne_tx2_me (ninS ne_tx2_tm nin0))
  have Y_c0 := Y_c0.keep K13 (ninS ne_c0_me (ninS ne_c0_tm nin0))
  have Y_cb := Y_cb.keep K13 (ninS ne_cb_me (ninS ne_cb_tm nin0)) (ninS ne_tc_me (ninS ne_tc_tm nin0))
  have Y_al := Y_al.keep K13 (ninS ne_al_me (ninS ne_al_tm nin0))
  have Y_pl := Y_pl.keep K13 (ninS ne_pl_me (ninS ne_pl_tm nin0))
  have Y_en := Y_en.keep K13 (ninS ne_en_me (ninS ne_en_tm nin0)) (ninS ne_te_me (ninS ne_te_tm nin0))
  have Y_mp := Y_mp.keep K13 (ninS ne_mp_me (ninS ne_mp_tm nin0)) (ninS (Ne.symm ne_me_tb12) (ninS (Ne.symm ne_tm_tb12) nin0))
  have I_te := I_te.keep K13
  have I_tm := I_tm.keep K13
  have I_tc := I_tc.keep K13
  have ZH := Nat.le_trans ZH K13.1
  have KK := KK.trans K13 (allS (mi 6 rfl) (allS (mi 7 rfl) all0))
  have OO := OO.keep K13 (allS g_me (allS g_tm all0))
  have Y_me := Yq13_0
  refine g_aloadN (k := 0) (q := 138) B12 X13 dK rfl rfl rfl ?_
  refine g_getF (i := 23) (q := 141) B12 X13 (host := "") (Or.inl (kw hw 60 rfl)) Via.refl rfl Y_wr.2.2.2.1 dK rfl (fun T14 X14 e14 => ?_)
  refine g_aloadN (k := 0) (q := 142) B12 X14 dK rfl rfl rfl ?_
  refine g_getF (i := 12) (q := 145) B12 X14 (host := "") (Or.inl (kw hw 54 rfl)) Via.refl e14 Y_wr.2.1 dK rfl (fun T15 X15 e15 => ?_)
  refine g_aloadN (k := 2) (q := 146) B12 X15 dK rfl rfl rfl ?_
  refine g_wcallV (i := 37) (W := 1) (q := 149) (a := pl) (argsL := [(.ref x2)]) (rest := [(.ref me)]) B12 X15 DD (own_EWS hw).ew (y := yy11) (kw hw 186 rfl) (kw hw 187 rfl) (kw hw 189 rfl) (kw hw 188 rfl) (kw hw 20 rfl) (kw hw 190 rfl) dD e15 Y_pl.1 (rmUf l Z a0 hw [] cz fv ev dg ca cg pl en te mp tb12 (14 :: []) (0 + 1) ((([] ++ [own_b8 (Int32.ofNat 1)]) ++ own_u2 (Int32.ofNat [Int32.ofNat 109].length)) ++ [Int32.ofNat 109]) x2 tx2 [Int32.ofNat 40, Int32.ofNat 41, Int32.ofNat 86] 7 T13.heap n0 ZH OO HW Y_pl Y_en Y_x2 Y_mp ne_pl_en ne_pl_te ne_pl_mp ne_pl_tb12 ne_en_mp ne_en_tb12 ne_te_mp ne_te_tb12 ne_x2_pl ne_x2_en ne_x2_te ne_x2_mp ne_x2_tb12 ne_tx2_pl ne_tx2_en ne_tx2_te ne_tx2_mp ne_tx2_tb12 g_pl g_en g_te g_mp g_tb12 own_q1 dD dD (Or.inl dD) dD dD dD own_y1.1 own_y1.2.1 own_y1.2.2.1 own_y1.2.2.2.1 own_y1.2.2.2.2.1 own_y1.2.2.2.2.2.1 own_y1.2.2.2.2.2.2) dK rfl rfl (lenOf pd_48 rfl) (Nat.le_of_eq rfl) rfl dD dD dD dD rfl (fun _ L16 T16 X16 B16 D16 CR16 hQ16 => ?_)
  have zh16 := ZH
  have kk16 := KK.1
  have lt16_wr := Y_wr.lt
  have lt16_pl := Y_pl.lt
  have lt16_en := Y_en.lt
  have lt16_te := I_te.lt
  have lt16_me := Y_me.lt
  have lt16_tm := I_tm.lt
  have lt16_c0 := Y_c0.lt
  have lt16_cb := Y_cb.lt
  have lt16_tc := I_tc.lt
  have lt16_al := Y_al.lt
  obtain ⟨rfl, Nq16, K16, tb16, cq16, Yp16, Ye16, Ym16⟩ := hQ16
  have N16 := Fr.app N13 Nq16
  have Y_wr := Y_wr.keep K16 (ninS ne_wr_pl (ninS ne_wr_en (ninS ne_wr_te (ninS ne_wr_mp (ninS ne_wr_tb12 nin0)))))
  have Y_c0 := Y_c0.keep K16 (ninS ne_c0_pl (ninS ne_c0_en (ninS ne_c0_te (ninS ne_c0_mp (ninS ne_c0_tb12 nin0)))))
  have Y_cb := Y_cb.keep K16 (ninS ne_cb_pl (ninS ne_cb_en (ninS ne_cb_te (ninS ne_cb_mp (ninS ne_cb_tb12 nin0))))) (ninS ne_tc_pl (ninS ne_tc_en (ninS ne_tc_te (ninS ne_tc_mp (ninS ne_tc_tb12 nin0)))))
  have Y_al := Y_al.keep K16 (ninS ne_al_pl (ninS ne_al_en (ninS ne_al_te (ninS ne_al_mp (ninS ne_al_tb12 nin0)))))
  have Y_me := Y_me.keep K16 (ninS (Ne.symm ne_pl_me) (ninS (Ne.symm ne_en_me) (ninS (Ne.symm ne_te_me) (ninS (Ne.symm ne_mp_me) (ninS ne_me_tb12 nin0))))) (ninS (Ne.symm ne_pl_tm) (ninS (Ne.symm ne_en_tm) (ninS (Ne.symm ne_te_tm) (ninS (Ne.symm ne_mp_tm) (ninS ne_tm_tb12 nin0)))))
  have I_tm := I_tm.keep K16
  have ZH := Nat.le_trans ZH K16.1
  have KK := KK.trans K16 (allS (mi 1 rfl) (allS (mi 2 rfl) (allS (mi 3 rfl) (allS (mi 4 rfl) (allS mo_tb12 all0)))))
  have OO := OO.keep K16 (allS g_pl (allS g_en (allS g_te (allS g_mp (allS g_tb12 all0)))))
  have DD := D16
  have ne_wr_tb16 := own_ne2 cq16 ne_wr_tb12 lt16_wr
  have ne_pl_tb16 := own_ne2 cq16 ne_pl_tb12 lt16_pl
  have ne_en_tb16 := own_ne2 cq16 ne_en_tb12 lt16_en
  have ne_te_tb16 := own_ne2 cq16 ne_te_tb12 lt16_te
  have ne_me_tb16 := own_ne2 cq16 ne_me_tb12 lt16_me
  have ne_tm_tb16 := own_ne2 cq16 ne_tm_tb12 lt16_tm
  have ne_c0_tb16 := own_ne2 cq16 ne_c0_tb12 lt16_c0
  have ne_cb_tb16 := own_ne2 cq16 ne_cb_tb12 lt16_cb
  have ne_tc_tb16 := own_ne2 cq16 ne_tc_tb12 lt16_tc
  have ne_al_tb16 := own_ne2 cq16 ne_al_tb12 lt16_al
  have g_tb16 := own_ge2 cq16 g_tb12 zh16
  have mo_tb16 := own_mo cq16 mo_tb12 kk16
  have Y_pl := Yp16
  have Y_en := Ye16
  have Y_mp := Ym16
  refine g_callV (i := 33) (W := 0) (q := 152) (a := me) (argsL := [(.int (Int32.ofNat ((0 + 1) + 1)))]) (rest := []) B16 X16 (y := yy0) (kw hw 185 rfl) (kw hw 132 rfl) (kw hw 134 rfl) (kw hw 133 rfl) (kw hw 27 rfl) (kw hw 135 rfl) dD rfl Y_me.1 (rmU2 l Z a0 hw [] me tm (([] ++ own_u2 (1 : Int32)) ++ own_u2 (Int32.ofNat (0 + 1))) (Int32.ofNat ((0 + 1) + 1)) T16.heap n0 ZH Y_me g_me g_tm (by first | omega | (simp only [List.length_append, List.length_cons, List.length_nil, own_u2, own_u4] at *; omega))) dK rfl rfl (lenOf pd_0 rfl) (Nat.le_of_eq rfl) rfl dD dD dD dD rfl (fun _ L17 T17 X17 hQ17 => ?_)
  obtain ⟨rfl, Nq17, K17, Yq17_0⟩ := hQ17
  have N17 := Fr.app N16 Nq17
  have sk17 : ∀ x ∈ ([me, tm] : List Addr), Safe Z own_EL T16.vm T16.heap x := (sfS (Safe.exa B16.hZ.alike Y_me.1 dD dD) (sfS (own_Safe256 (own_EWS hw) B16.hZ Y_me.2.2.2.1) sf0))
  have DD := DD.keep K17 sk17
  have Y_wr := Y_wr.keep K17 (ninS ne_wr_me (ninS ne_wr_tm nin0))
  have Y_c0 := Y_c0.keep K17 (ninS ne_c0_me (ninS ne_c0_tm nin0))
  have Y_cb := Y_cb.keep K17 (ninS ne_cb_me (ninS ne_cb_tm nin0)) (ninS ne_tc_me (ninS ne_tc_tm nin0))
  have Y_al := Y_al.keep K17 (ninS ne_al_me (ninS ne_al_tm nin0))
  have Y_pl := Y_pl.keep K17 (ninS ne_pl_me (ninS ne_pl_tm nin0))
  have Y_en := Y_en.keep K17 (ninS ne_en_me (ninS ne_en_tm nin0)) (ninS ne_te_me (ninS ne_te_tm nin0))
  have Y_mp := Y_mp.keep K17 (ninS ne_mp_me (ninS ne_mp_tm nin0)) (ninS (Ne.symm ne_me_tb16) (ninS (Ne.symm ne_tm_tb16) nin0))
  have I_tm := I_tm.keep K17
  have ZH := Nat.le_trans ZH K17.1
  have KK := KK.trans K17 (allS (mi 6 rfl) (allS (mi 7 rfl) all0))
  have OO := OO.keep K17 (allS g_me (allS g_tm all0))
  have Y_me := Yq17_0
  refine g_aloadN (k := 0) (q := 153) B16 X17 dK rfl rfl rfl ?_
  refine g_getF (i := 23) (q := 156) B16 X17 (host := "") (Or.inl (kw hw 60 rfl)) Via.refl rfl Y_wr.2.2.2.1 dK rfl (fun T18 X18 e18 => ?_)
  refine g_iconst (o := 1) (q := 157) (v := 1) B16 X18 dK rfl rfl ?_
  refine g_callV (i := 33) (W := 0) (q := 160) (a := me) (argsL := [(.int (1 : Int32))]) (rest := []) B16 X18 (y := yy0) (kw hw 185 rfl) (kw hw 132 rfl) (kw hw 134 rfl) (kw hw 133 rfl) (kw hw 27 rfl) (kw hw 135 rfl) dD e18 Y_me.1 (rmU2 l Z a0 hw [] me tm ((([] ++ own_u2 (1 : Int32)) ++ own_u2 (Int32.ofNat (0 + 1))) ++ own_u2 (Int32.ofNat ((0 + 1) + 1))) (1 : Int32) T17.heap n0 ZH Y_me g_me g_tm (by first | omega | (simp only [List.length_append, List.length_cons, List.length_nil, own_u2, own_u4] at *; omega))) dK rfl rfl (lenOf pd_0 rfl) (Nat.le_of_eq rfl) rfl dD dD dD dD rfl (fun _ L19 T19 X19 hQ19 => ?_)
  obtain ⟨rfl, Nq19, K19, Yq19_0⟩ := hQ19
  have N19 := Fr.app N17 Nq19
  have sk19 : ∀ x ∈ ([me, tm] : List Addr), Safe Z own_EL T16.vm T17.heap x := (sfS (Safe.exa B16.hZ.alike Y_me.1 dD dD) (sfS (own_Safe256 (own_EWS hw) B16.hZ Y_me.2.2.2.1) sf0))
  have DD := DD.keep K19 sk19
  have Y_wr := Y_wr.keep K19 (ninS ne_wr_me (ninS ne_wr_tm nin0))
  have Y_c0 := Y_c0.keep K19 (ninS ne_c0_me (ninS ne_c0_tm nin0))
  have Y_cb := Y_cb.keep K19 (ninS ne_cb_me (ninS ne_cb_tm nin0)) (ninS ne_tc_me (ninS ne_tc_tm nin0))
  have Y_al := Y_al.keep K19 (ninS ne_al_me (ninS ne_al_tm nin0))
  have Y_pl := Y_pl.keep K19 (ninS ne_pl_me (ninS ne_pl_tm nin0))
  have Y_en := Y_en.keep K19 (ninS ne_en_me (ninS ne_en_tm nin0)) (ninS ne_te_me (ninS ne_te_tm nin0))
  have Y_mp := Y_mp.keep K19 (ninS ne_mp_me (ninS ne_mp_tm nin0)) (ninS (Ne.symm ne_me_tb16) (ninS (Ne.symm ne_tm_tb16) nin0))
  have I_tm := I_tm.keep K19
  have ZH := Nat.le_trans ZH K19.1
  have KK := KK.trans K19 (allS (mi 6 rfl) (allS (mi 7 rfl) all0))
  have OO := OO.keep K19 (allS g_me (allS g_tm all0))
  have Y_me := Yq19_0
  refine g_aloadN (k := 0) (q := 161) B16 X19 dK rfl rfl rfl ?_
  refine g_getF (i := 23) (q := 164) B16 X19 (host := "") (Or.inl (kw hw 60 rfl)) Via.refl rfl Y_wr.2.2.2.1 dK rfl (fun T20 X20 e20 => ?_)
  refine g_aloadN (k := 0) (q := 165) B16 X20 dK rfl rfl rfl ?_
  refine g_getF (i := 12) (q := 168) B16 X20 (host := "") (Or.inl (kw hw 54 rfl)) Via.refl e20 Y_wr.2.1 dK rfl (fun T21 X21 e21 => ?_)
  refine g_wldc (i := 101) (nn := 16) (text := "Code") (cs := [Int32.ofNat 67, Int32.ofNat 111, Int32.ofNat 100, Int32.ofNat 101]) (q := 170) B16 X21 DD (own_EWS hw).ew (kw hw 484 rfl) (own_WS hw) (List.mem_of_getElem? (i := 0) rfl) ⟨by decide, by decide⟩ dD e21 dK dD dD dD dD rfl (fun a22 d22 T22 h22 X22 B22 D22 e22 E22 Yq22 CR22 NE22 => ?_)
  have Y_wr := Y_wr.ext E22
  have Y_c0 := Y_c0.ext E22
  have Y_cb := Y_cb.ext E22
  have Y_al := Y_al.ext E22
  have Y_pl := Y_pl.ext E22
  have Y_en := Y_en.ext E22
  have Y_mp := Y_mp.ext E22
  have Y_me := Y_me.ext E22
  have I_tm := I_tm.ext E22
  have ZH := Nat.le_trans ZH E22.1
  have KK := KK.ext E22
  have OO := OO.ext E22
  have DD := D22
  have Y_a22 := Yq22
  have ne_pl_a22 := (NE22 pl (Safe.exa B22.hZ.alike Y_pl.1 dD dD)).1
  have ne_pl_d22 := (NE22 pl (Safe.exa B22.hZ.alike Y_pl.1 dD dD)).2
  have ne_en_a22 := (NE22 en (Safe.exa B22.hZ.alike Y_en.1 dD dD)).1
  have ne_en_d22 := (NE22 en (Safe.exa B22.hZ.alike Y_en.1 dD dD)).2
  have ne_te_a22 := (NE22 te (own_Safe256 (own_EWS hw) B22.hZ Y_en.2.2.2.1)).1
  have ne_te_d22 := (NE22 te (own_Safe256 (own_EWS hw) B22.hZ Y_en.2.2.2.1)).2
  have ne_mp_a22 := (NE22 mp (Safe.exa B22.hZ.alike Y_mp.exa dD dD)).1
  have ne_mp_d22 := (NE22 mp (Safe.exa B22.hZ.alike Y_mp.exa dD dD)).2
  have ne_tb16_a22 := (NE22 tb16 (own_Mp.safeT B22.hZ.alike Y_mp)).1
  have ne_tb16_d22 := (NE22 tb16 (own_Mp.safeT B22.hZ.alike Y_mp)).2
  refine g_wcallV (i := 37) (W := 1) (q := 173) (a := pl) (argsL := [(.ref a22)]) (rest := [(.ref me)]) B22 X22 DD (own_EWS hw).ew (y := yy11) (kw hw 186 rfl) (kw hw 187 rfl) (kw hw 189 rfl) (kw hw 188 rfl) (kw hw 20 rfl) (kw hw 190 rfl) dD e22 Y_pl.1 (rmUf l Z a0 hw [] cz fv ev dg ca cg pl en te mp tb16 (7 :: (14 :: [])) ((0 + 1) + 1) (((((([] ++ [own_b8 (Int32.ofNat 1)]) ++ own_u2 (Int32.ofNat [Int32.ofNat 109].length)) ++ [Int32.ofNat 109]) ++ [own_b8 (Int32.ofNat 1)]) ++ own_u2 (Int32.ofNat [Int32.ofNat 40, Int32.ofNat 41, Int32.ofNat 86].length)) ++ [Int32.ofNat 40, Int32.ofNat 41, Int32.ofNat 86]) a22 d22 [Int32.ofNat 67, Int32.ofNat 111, Int32.ofNat 100, Int32.ofNat 101] 12 h22 n0 ZH OO HW Y_pl Y_en Y_a22 Y_mp ne_pl_en ne_pl_te ne_pl_mp ne_pl_tb16 ne_en_mp ne_en_tb16 ne_te_mp ne_te_tb16 (Ne.symm ne_pl_a22) (Ne.symm ne_en_a22) (Ne.symm ne_te_a22) (Ne.symm ne_mp_a22) (Ne.symm ne_tb16_a22) (Ne.symm ne_pl_d22) (Ne.symm ne_en_d22) (Ne.symm ne_te_d22) (Ne.symm ne_mp_d22) (Ne.symm ne_tb16_d22) g_pl g_en g_te g_mp g_tb16 own_q2 dD dD (Or.inl dD) dD dD dD own_y2.1 own_y2.2.1 own_y2.2.2.1 own_y2.2.2.2.1 own_y2.2.2.2.2.1 own_y2.2.2.2.2.2.1 own_y2.2.2.2.2.2.2) dK rfl rfl (lenOf pd_48 rfl) (Nat.le_of_eq rfl) rfl dD dD dD dD rfl (fun _ L23 T23 X23 B23 D23 CR23 hQ23 => ?_)
  have kk23 := KK.1
  have lt23_wr := Y_wr.lt
  have lt23_me := Y_me.lt
  have lt23_tm := I_tm.lt
  obtain ⟨rfl, Nq23, K23, tb23, cq23, Yp23, Ye23, Ym23⟩ := hQ23
  have N23 := Fr.app N19 Nq23
  have Y_wr := Y_wr.keep K23 (ninS ne_wr_pl (ninS ne_wr_en (ninS ne_wr_te (ninS ne_wr_mp (ninS ne_wr_tb16 nin0)))))
  have Y_c0 := Y_c0.keep K23 (ninS ne_c0_pl (ninS ne_c0_en (ninS ne_c0_te (ninS ne_c0_mp (ninS ne_c0_tb16 nin0)))))
  have Y_cb := Y_cb.keep K23 (ninS ne_cb_pl (ninS ne_cb_en (ninS ne_cb_te (ninS ne_cb_mp (ninS ne_cb_tb16 nin0))))) (ninS ne_tc_pl (ninS ne_tc_en (ninS ne_tc_te (ninS ne_tc_mp (ninS ne_tc_tb16 nin0)))))
  have Y_al := Y_al.keep K23 (ninS ne_al_pl (ninS ne_al_en (ninS ne_al_te (ninS ne_al_mp (ninS ne_al_tb16 nin0)))))
  have Y_me := Y_me.keep K23 (ninS (Ne.symm ne_pl_me) (ninS (Ne.symm ne_en_me) (ninS (Ne.symm ne_te_me) (ninS (Ne.symm ne_mp_me) (ninS ne_me_tb16 nin0))))) (ninS (Ne.symm ne_pl_tm) (ninS (Ne.symm ne_en_tm) (ninS (Ne.symm ne_te_tm) (ninS (Ne.symm ne_mp_tm) (ninS ne_tm_tb16 nin0)))))
  have ZH := Nat.le_trans ZH K23.1
  have KK := KK.trans K23 (allS (mi 1 rfl) (allS (mi 2 rfl) (allS (mi 3 rfl) (allS (mi 4 rfl) (allS mo_tb16 all0)))))
  have DD := D23
  have ne_wr_tb23 := own_ne2 cq23 ne_wr_tb16 lt23_wr
  have ne_me_tb23 := own_ne2 cq23 ne_me_tb16 lt23_me
  have ne_tm_tb23 := own_ne2 cq23 ne_tm_tb16 lt23_tm
  have Y_pl := Yp23
  have Y_en := Ye23
  have Y_mp := Ym23
  refine g_callV (i := 33) (W := 0) (q := 176) (a := me) (argsL := [(.int (Int32.ofNat (((0 + 1) + 1) + 1)))]) (rest := []) B23 X23 (y := yy0) (kw hw 185 rfl) (kw hw 132 rfl) (kw hw 134 rfl) (kw hw 133 rfl) (kw hw 27 rfl) (kw hw 135 rfl) dD rfl Y_me.1 (rmU2 l Z a0 hw [] me tm (((([] ++ own_u2 (1 : Int32)) ++ own_u2 (Int32.ofNat (0 + 1))) ++ own_u2 (Int32.ofNat ((0 + 1) + 1))) ++ own_u2 (1 : Int32)) (Int32.ofNat (((0 + 1) + 1) + 1)) T23.heap n0 ZH Y_me g_me g_tm (by first | omega | (simp only [List.length_append, List.length_cons, List.length_nil, own_u2, own_u4] at *; omega))) dK rfl rfl (lenOf pd_0 rfl) (Nat.le_of_eq rfl) rfl dD dD dD dD rfl (fun _ L24 T24 X24 hQ24 => ?_)
  obtain ⟨rfl, Nq24, K24, Yq24_0⟩ := hQ24
  have N24 := Fr.app N23 Nq24
  have sk24 : ∀ x ∈ ([me, tm] : List Addr), Safe Z own_EL T23.vm T23.heap x := (sfS (Safe.exa B23.hZ.alike Y_me.1 dD dD) (sfS (own_Safe256 (own_EWS hw) B23.hZ Y_me.2.2.2.1) sf0))
  have DD := DD.keep K24 sk24
  have Y_wr := Y_wr.keep K24 (ninS ne_wr_me (ninS ne_wr_tm nin0))
  have Y_c0 := Y_c0.keep K24 (ninS ne_c0_me (ninS ne_c0_tm nin0))
  have Y_cb := Y_cb.keep K24 (ninS ne_cb_me (ninS ne_cb_tm nin0)) (ninS ne_tc_me (ninS ne_tc_tm nin0))
  have Y_al := Y_al.keep K24 (ninS ne_al_me (ninS ne_al_tm nin0))
  have Y_pl := Y_pl.keep K24 (ninS ne_pl_me (ninS ne_pl_tm nin0))
  have Y_en := Y_en.keep K24 (ninS ne_en_me (ninS ne_en_tm nin0)) (ninS ne_te_me (ninS ne_te_tm nin0))
  have Y_mp := Y_mp.keep K24 (ninS ne_mp_me (ninS ne_mp_tm nin0)) (ninS (Ne.symm ne_me_tb23) (ninS (Ne.symm ne_tm_tb23) nin0))
  have ZH := Nat.le_trans ZH K24.1
  have KK := KK.trans K24 (allS (mi 6 rfl) (allS (mi 7 rfl) all0))
  have Y_me := Yq24_0
  refine g_aloadN (k := 3) (q := 177) B23 X24 dK rfl rfl rfl ?_
  refine g_getFR (i := 73) (q := 180) B23 X24 (kw hw 146 rfl) rfl Y_c0.2.2 dK rfl (fun T25 X25 e25 => ?_)
  refine g_callF (i := 103) (cnt := 1) (W := 0) (q := 185) (a := al) (argsL := []) (rest := []) B23 X25 (xi := yy87) (y := yy27) (mvT B23.hZ (kw hw 485 rfl)) (mvT B23.hZ (kw hw 486 rfl)) (mvT B23.hZ (kw hw 487 rfl)) (mvT B23.hZ (kw hw 488 rfl)) (mvT B23.hZ (kw hw 489 rfl)) (mvT B23.hZ (kw hw 490 rfl)) (mvT B23.hZ (kw hw 491 rfl)) (mvT B23.hZ (kw hw 154 rfl)) (kw hw 85 rfl) (kw hw 492 rfl) dD e25 Y_al.1 (rmIE l Z a0 hw [] al (.ref ev) T24.heap n0 ZH Y_al) dK rfl rfl (lenOf pd_7 rfl) (Nat.le_of_eq rfl) rfl dD dD dD dD rfl (fun _ L26 T26 X26 hQ26 => ?_)
  obtain ⟨rfl, Nq26, e26⟩ := hQ26
  have N26 := Fr.app N24 Nq26
  refine g_ifNo (cd := .eq) (o := 7) (q := 188) B23 X26 dK (((if0 _ _).trans (feq (by decide : ¬ ((1 : Int32) = (0 : Int32)))).1)) rfl ?_
  refine g_iconst (o := 0) (q := 189) (v := 0) B23 X26 dK rfl rfl ?_
  refine g_goto (o := 11) (q := 200) B23 X26 dK dD dD ?_
  refine g_istore (k := 8) (q := 202) (l' := #[.val (.ref wr), .val (.ref x1), .val (.ref x2), .val (.ref c0), .val (.int (1 : Int32)), .val (.int (1 : Int32)), .val (.ref b3), .val (.int (-1 : Int32)), .val (.int (0 : Int32)), .unset, .unset]) B23 X26 dK rfl rfl ?_
  refine g_aloadN (k := 0) (q := 203) B23 X26 dK rfl rfl rfl ?_
  refine g_getF (i := 23) (q := 206) B23 X26 (host := "") (Or.inl (kw hw 60 rfl)) Via.refl e26 Y_wr.2.2.2.1 dK rfl (fun T27 X27 e27 => ?_)
  refine g_bipush (o := 12) (q := 208) (v := 12) B23 X27 dK rfl rfl ?_
  refine g_aloadN (k := 3) (q := 209) B23 X27 dK rfl rfl rfl ?_
  refine g_getFR (i := 62) (q := 212) B23 X27 (kw hw 144 rfl) e27 Y_c0.2.1 dK rfl (fun T28 X28 e28 => ?_)
  refine g_callV (i := 65) (W := 2) (q := 215) (a := cb) (argsL := []) (rest := [(.int (12 : Int32)), (.ref me)]) B23 X28 (y := yy8) (kw hw 145 rfl) (kw hw 127 rfl) (kw hw 129 rfl) (kw hw 128 rfl) (kw hw 27 rfl) (kw hw 130 rfl) dD e28 Y_cb.1 (rmBz l Z a0 hw [] cb tc cs T24.heap n0 ZH Y_cb) dK rfl rfl (lenOf pd_3 rfl) (Nat.le_of_eq rfl) rfl dD dD dD dD rfl (fun _ L29 T29 X29 hQ29 => ?_)
  obtain ⟨rfl, Nq29, e29⟩ := hQ29
  have N29 := Fr.app N26 Nq29
  rw [hcl]
  refine g_iadd (q := 216) B23 X29 dK rfl rfl ?_
  refine g_iload (k := 8) (q := 218) B23 X29 dK rfl rfl ?_
  refine g_iadd (q := 219) B23 X29 dK rfl rfl ?_
  refine g_callV (i := 106) (W := 0) (q := 222) (a := me) (argsL := [(.int (((12 : Int32) + (Int32.ofNat nn)) + (0 : Int32)))]) (rest := []) B23 X29 (y := yy13) (kw hw 494 rfl) (kw hw 495 rfl) (kw hw 497 rfl) (kw hw 496 rfl) (kw hw 27 rfl) (kw hw 498 rfl) dD e29 Y_me.1 (rmU4 l Z a0 hw [] me tm ((((([] ++ own_u2 (1 : Int32)) ++ own_u2 (Int32.ofNat (0 + 1))) ++ own_u2 (Int32.ofNat ((0 + 1) + 1))) ++ own_u2 (1 : Int32)) ++ own_u2 (Int32.ofNat (((0 + 1) + 1) + 1))) (((12 : Int32) + (Int32.ofNat nn)) + (0 : Int32)) T24.heap n0 ZH Y_me g_me g_tm (by first | omega | (simp only [List.length_append, List.length_cons, List.length_nil, own_u2, own_u4] at *; omega))) dK rfl rfl (lenOf pd_0 rfl) (Nat.le_of_eq rfl) rfl dD dD dD dD rfl (fun _ L30 T30 X30 hQ30 => ?_)
  obtain ⟨rfl, Nq30, K30, Yq30_0⟩ := hQ30
  have N30 := Fr.app N29 Nq30
  have sk30 : ∀ x ∈ ([me, tm] : List Addr), Safe Z own_EL T23.vm T24.heap x := (sfS (Safe.exa B23.hZ.alike Y_me.1 dD dD) (sfS (own_Safe256 (own_EWS hw) B23.hZ Y_me.2.2.2.1) sf0))
  have DD := DD.keep K30 sk30
  have Y_wr := Y_wr.keep K30 (ninS ne_wr_me (ninS ne_wr_tm nin0))
  have Y_c0 := Y_c0.keep K30 (ninS ne_c0_me (ninS ne_c0_tm nin0))
  have Y_cb := Y_cb.keep K30 (ninS ne_cb_me (ninS ne_cb_tm nin0)) (ninS ne_tc_me (ninS ne_tc_tm nin0))
  have Y_al := Y_al.keep K30 (ninS ne_al_me (ninS ne_al_tm nin0))
  have Y_pl := Y_pl.keep K30 (ninS ne_pl_me (ninS ne_pl_tm nin0))
  have Y_en := Y_en.keep K30 (ninS ne_en_me (ninS ne_en_tm nin0)) (ninS ne_te_me (ninS ne_te_tm nin0))
  have Y_mp := Y_mp.keep K30 (ninS ne_mp_me (ninS ne_mp_tm nin0)) (ninS (Ne.symm ne_me_tb23) (ninS (Ne.symm ne_tm_tb23) nin0))
  have ZH := Nat.le_trans ZH K30.1
  have KK := KK.trans K30 (allS (mi 6 rfl) (allS (mi 7 rfl) all0))
  have Y_me := Yq30_0
  refine g_aloadN (k := 0) (q := 223) B23 X30 dK rfl rfl rfl ?_
  refine g_getF (i := 23) (q := 226) B23 X30 (host := "") (Or.inl (kw hw 60 rfl)) Via.refl rfl Y_wr.2.2.2.1 dK rfl (fun T31 X31 e31 => ?_)
  refine g_iload (k := 4) (q := 228) B23 X31 dK rfl rfl ?_
  refine g_callV (i := 33) (W := 0) (q := 231) (a := me) (argsL := [(.int (1 : Int32))]) (rest := []) B23 X31 (y := yy0) (kw hw 185 rfl) (kw hw 132 rfl) (kw hw 134 rfl) (kw hw 133 rfl) (kw hw 27 rfl) (kw hw 135 rfl) dD e31 Y_me.1 (rmU2 l Z a0 hw [] me tm (((((([] ++ own_u2 (1 : Int32)) ++ own_u2 (Int32.ofNat (0 + 1))) ++ own_u2 (Int32.ofNat ((0 + 1) + 1))) ++ own_u2 (1 : Int32)) ++ own_u2 (Int32.ofNat (((0 + 1) + 1) + 1))) ++ own_u4 (((12 : Int32) + (Int32.ofNat nn)) + (0 : Int32))) (1 : Int32) T30.heap n0 ZH Y_me g_me g_tm (by first | omega | (simp only [List.length_append, List.length_cons, List.length_nil, own_u2, own_u4] at *; omega))) dK rfl rfl (lenOf pd_0 rfl) (Nat.le_of_eq rfl) rfl dD dD dD dD rfl (fun _ L32 T32 X32 hQ32 => ?_)
  obtain ⟨rfl, Nq32, K32, Yq32_0⟩ := hQ32
  have N32 := Fr.app N30 Nq32
  have sk32 : ∀ x ∈ ([me, tm] : List Addr), Safe Z own_EL T23.vm T30.heap x := (sfS (Safe.exa B23.hZ.alike Y_me.1 dD dD) (sfS (own_Safe256 (own_EWS hw) B23.hZ Y_me.2.2.2.1) sf0))
  have DD := DD.keep K32 sk32
  have Y_wr := Y_wr.keep K32 (ninS ne_wr_me (ninS ne_wr_tm nin0))
  have Y_c0 := Y_c0.keep K32 (ninS ne_c0_me (ninS ne_c0_tm nin0))
  have Y_cb := Y_cb.keep K32 (ninS ne_cb_me (ninS ne_cb_tm nin0)) (ninS ne_tc_me (ninS ne_tc_tm nin0))
  have Y_al := Y_al.keep K32 (ninS ne_al_me (ninS ne_al_tm nin0))
  have Y_pl := Y_pl.keep K32 (ninS ne_pl_me (ninS ne_pl_tm nin0))
  have Y_en := Y_en.keep K32 (ninS ne_en_me (ninS ne_en_tm nin0)) (ninS ne_te_me (ninS ne_te_tm nin0))
  have Y_mp := Y_mp.keep K32 (ninS ne_mp_me (ninS ne_mp_tm nin0)) (ninS (Ne.symm ne_me_tb23) (ninS (Ne.symm ne_tm_tb23) nin0))
  have ZH := Nat.le_trans ZH K32.1
  have KK := KK.trans K32 (allS (mi 6 rfl) (allS (mi 7 rfl) all0))
  have Y_me := Yq32_0
  refine g_aloadN (k := 0) (q := 232) B23 X32 dK rfl rfl rfl ?_
  refine g_getF (i := 23) (q := 235) B23 X32 (host := "") (Or.inl (kw hw 60 rfl)) Via.refl rfl Y_wr.2.2.2.1 dK rfl (fun T33 X33 e33 => ?_)
  refine g_iload (k := 5) (q := 237) B23 X33 dK rfl rfl ?_
  refine g_callV (i := 33) (W := 0) (q := 240) (a := me) (argsL := [(.int (1 : Int32))]) (rest := []) B23 X33 (y := yy0) (kw hw 185 rfl) (kw hw 132 rfl) (kw hw 134 rfl) (kw hw 133 rfl) (kw hw 27 rfl) (kw hw 135 rfl) dD e33 Y_me.1 (rmU2 l Z a0 hw [] me tm ((((((([] ++ own_u2 (1 : Int32)) ++ own_u2 (Int32.ofNat (0 + 1))) ++ own_u2 (Int32.ofNat ((0 + 1) + 1))) ++ own_u2 (1 : Int32)) ++ own_u2 (Int32.ofNat (((0 + 1) + 1) + 1))) ++ own_u4 (((12 : Int32) + (Int32.ofNat nn)) + (0 : Int32))) ++ own_u2 (1 : Int32)) (1 : Int32) T32.heap n0 ZH Y_me g_me g_tm (by first | omega | (simp only [List.length_append, List.length_cons, List.length_nil, own_u2, own_u4] at *; omega))) dK rfl rfl (lenOf pd_0 rfl) (Nat.le_of_eq rfl) rfl dD dD dD dD rfl (fun _ L34 T34 X34 hQ34 => ?_)
  obtain ⟨rfl, Nq34, K34, Yq34_0⟩ := hQ34
  have N34 := Fr.app N32 Nq34
  have sk34 : ∀ x ∈ ([me, tm] : List Addr), Safe Z own_EL T23.vm T32.heap x := (sfS (Safe.exa B23.hZ.alike Y_me.1 dD dD) (sfS (own_Safe256 (own_EWS hw) B23.hZ Y_me.2.2.2.1) sf0))
  have DD := DD.keep K34 sk34
  have Y_wr := Y_wr.keep K34 (ninS ne_wr_me (ninS ne_wr_tm nin0))
  have Y_c0 := Y_c0.keep K34 (ninS ne_c0_me (ninS ne_c0_tm nin0))
  have Y_cb := Y_cb.keep K34 (ninS ne_cb_me (ninS ne_cb_tm nin0)) (ninS ne_tc_me (ninS ne_tc_tm nin0))
  have Y_al := Y_al.keep K34 (ninS ne_al_me (ninS ne_al_tm nin0))
  have Y_pl := Y_pl.keep K34 (ninS ne_pl_me (ninS ne_pl_tm nin0))
  have Y_en := Y_en.keep K34 (ninS ne_en_me (ninS ne_en_tm nin0)) (ninS ne_te_me (ninS ne_te_tm nin0))
  have Y_mp := Y_mp.keep K34 (ninS ne_mp_me (ninS ne_mp_tm nin0)) (ninS (Ne.symm ne_me_tb23) (ninS (Ne.symm ne_tm_tb23) nin0))
  have ZH := Nat.le_trans ZH K34.1
  have KK := KK.trans K34 (allS (mi 6 rfl) (allS (mi 7 rfl) all0))
  have Y_me := Yq34_0
  refine g_aloadN (k := 0) (q := 241) B23 X34 dK rfl rfl rfl ?_
  refine g_getF (i := 23) (q := 244) B23 X34 (host := "") (Or.inl (kw hw 60 rfl)) Via.refl rfl Y_wr.2.2.2.1 dK rfl (fun T35 X35 e35 => ?_)
  refine g_aloadN (k := 3) (q := 245) B23 X35 dK rfl rfl rfl ?_
  refine g_getFR (i := 62) (q := 248) B23 X35 (kw hw 144 rfl) e35 Y_c0.2.1 dK rfl (fun T36 X36 e36 => ?_)
  refine g_callV (i := 65) (W := 1) (q := 251) (a := cb) (argsL := []) (rest := [(.ref me)]) B23 X36 (y := yy8) (kw hw 145 rfl) (kw hw 127 rfl) (kw hw 129 rfl) (kw hw 128 rfl) (kw hw 27 rfl) (kw hw 130 rfl) dD e36 Y_cb.1 (rmBz l Z a0 hw [] cb tc cs T34.heap n0 ZH Y_cb) dK rfl rfl (lenOf pd_3 rfl) (Nat.le_of_eq rfl) rfl dD dD dD dD rfl (fun _ L37 T37 X37 hQ37 => ?_)
  obtain ⟨rfl, Nq37, e37⟩ := hQ37
  have N37 := Fr.app N34 Nq37
  rw [hcl]
  refine g_callV (i := 106) (W := 0) (q := 254) (a := me) (argsL := [(.int (Int32.ofNat nn))]) (rest := []) B23 X37 (y := yy13) (kw hw 494 rfl) (kw hw 495 rfl) (kw hw 497 rfl) (kw hw 496 rfl) (kw hw 27 rfl) (kw hw 498 rfl) dD e37 Y_me.1 (rmU4 l Z a0 hw [] me tm (((((((([] ++ own_u2 (1 : Int32)) ++ own_u2 (Int32.ofNat (0 + 1))) ++ own_u2 (Int32.ofNat ((0 + 1) + 1))) ++ own_u2 (1 : Int32)) ++ own_u2 (Int32.ofNat (((0 + 1) + 1) + 1))) ++ own_u4 (((12 : Int32) + (Int32.ofNat nn)) + (0 : Int32))) ++ own_u2 (1 : Int32)) ++ own_u2 (1 : Int32)) (Int32.ofNat nn) T34.heap n0 ZH Y_me g_me g_tm (by first | omega | (simp only [List.length_append, List.length_cons, List.length_nil, own_u2, own_u4] at *; omega))) dK rfl rfl (lenOf pd_0 rfl) (Nat.le_of_eq rfl) rfl dD dD dD dD rfl (fun _ L38 T38 X38 hQ38 => ?_)
  obtain ⟨rfl, Nq38, K38, Yq38_0⟩ := hQ38
  have N38 := Fr.app N37 Nq38
  have sk38 : ∀ x ∈ ([me, tm] : List Addr), Safe Z own_EL T23.vm T34.heap x := (sfS (Safe.exa B23.hZ.alike Y_me.1 dD dD) (sfS (own_Safe256 (own_EWS hw) B23.hZ Y_me.2.2.2.1) sf0))
  have DD := DD.keep K38 sk38
  have Y_wr := Y_wr.keep K38 (ninS ne_wr_me (ninS ne_wr_tm nin0))
  have Y_c0 := Y_c0.keep K38 (ninS ne_c0_me (ninS ne_c0_tm nin0))
  have Y_cb := Y_cb.keep K38 (ninS ne_cb_me (ninS ne_cb_tm nin0)) (ninS ne_tc_me (ninS ne_tc_tm nin0))
  have Y_al := Y_al.keep K38 (ninS ne_al_me (ninS ne_al_tm nin0))
  have Y_pl := Y_pl.keep K38 (ninS ne_pl_me (ninS ne_pl_tm nin0))
  have Y_en := Y_en.keep K38 (ninS ne_en_me (ninS ne_en_tm nin0)) (ninS ne_te_me (ninS ne_te_tm nin0))
  have Y_mp := Y_mp.keep K38 (ninS ne_mp_me (ninS ne_mp_tm nin0)) (ninS (Ne.symm ne_me_tb23) (ninS (Ne.symm ne_tm_tb23) nin0))
  have ZH := Nat.le_trans ZH K38.1
  have KK := KK.trans K38 (allS (mi 6 rfl) (allS (mi 7 rfl) all0))
  have Y_me := Yq38_0
  refine g_aloadN (k := 0) (q := 255) B23 X38 dK rfl rfl rfl ?_
  refine g_getF (i := 23) (q := 258) B23 X38 (host := "") (Or.inl (kw hw 60 rfl)) Via.refl rfl Y_wr.2.2.2.1 dK rfl (fun T39 X39 e39 => ?_)
  refine g_aloadN (k := 3) (q := 259) B23 X39 dK rfl rfl rfl ?_
  refine g_getFR (i := 62) (q := 262) B23 X39 (kw hw 144 rfl) e39 Y_c0.2.1 dK rfl (fun T40 X40 e40 => ?_)
  refine g_callV (i := 109) (W := 0) (q := 265) (a := me) (argsL := [(.ref cb)]) (rest := []) B23 X40 (y := yy9) (kw hw 499 rfl) (kw hw 389 rfl) (kw hw 391 rfl) (kw hw 390 rfl) (kw hw 27 rfl) (kw hw 392 rfl) dD e40 Y_me.1 (rmAp l Z a0 hw [] me tm ((((((((([] ++ own_u2 (1 : Int32)) ++ own_u2 (Int32.ofNat (0 + 1))) ++ own_u2 (Int32.ofNat ((0 + 1) + 1))) ++ own_u2 (1 : Int32)) ++ own_u2 (Int32.ofNat (((0 + 1) + 1) + 1))) ++ own_u4 (((12 : Int32) + (Int32.ofNat nn)) + (0 : Int32))) ++ own_u2 (1 : Int32)) ++ own_u2 (1 : Int32)) ++ own_u4 (Int32.ofNat nn)) cb tc cs T38.heap n0 ZH Y_me g_me g_tm Y_cb hbc (by omega) (Ne.symm ne_cb_me) (Ne.symm ne_tc_me) (Ne.symm ne_cb_tm) (Ne.symm ne_tc_tm) (by first | omega | (simp only [List.length_append, List.length_cons, List.length_nil, own_u2, own_u4] at *; omega))) dK rfl rfl (lenOf pd_39 rfl) (Nat.le_of_eq rfl) rfl dD dD dD dD rfl (fun _ L41 T41 X41 hQ41 => ?_)
  obtain ⟨rfl, Nq41, K41, Yq41_0⟩ := hQ41
  have N41 := Fr.app N38 Nq41
  have sk41 : ∀ x ∈ ([me, tm] : List Addr), Safe Z own_EL T23.vm T38.heap x := (sfS (Safe.exa B23.hZ.alike Y_me.1 dD dD) (sfS (own_Safe256 (own_EWS hw) B23.hZ Y_me.2.2.2.1) sf0))
  have DD := DD.keep K41 sk41
  have Y_wr := Y_wr.keep K41 (ninS ne_wr_me (ninS ne_wr_tm nin0))
  have Y_c0 := Y_c0.keep K41 (ninS ne_c0_me (ninS ne_c0_tm nin0))
  have Y_al := Y_al.keep K41 (ninS ne_al_me (ninS ne_al_tm nin0))
  have Y_pl := Y_pl.keep K41 (ninS ne_pl_me (ninS ne_pl_tm nin0))
  have Y_en := Y_en.keep K41 (ninS ne_en_me (ninS ne_en_tm nin0)) (ninS ne_te_me (ninS ne_te_tm nin0))
  have Y_mp := Y_mp.keep K41 (ninS ne_mp_me (ninS ne_mp_tm nin0)) (ninS (Ne.symm ne_me_tb23) (ninS (Ne.symm ne_tm_tb23) nin0))
  have ZH := Nat.le_trans ZH K41.1
  have KK := KK.trans K41 (allS (mi 6 rfl) (allS (mi 7 rfl) all0))
  have Y_me := Yq41_0
  refine g_aloadN (k := 0) (q := 266) B23 X41 dK rfl rfl rfl ?_
  refine g_getF (i := 23) (q := 269) B23 X41 (host := "") (Or.inl (kw hw 60 rfl)) Via.refl rfl Y_wr.2.2.2.1 dK rfl (fun T42 X42 e42 => ?_)
  refine g_iconst (o := 0) (q := 270) (v := 0) B23 X42 dK rfl rfl ?_
  refine g_callV (i := 33) (W := 0) (q := 273) (a := me) (argsL := [(.int (0 : Int32))]) (rest := []) B23 X42 (y := yy0) (kw hw 185 rfl) (kw hw 132 rfl) (kw hw 134 rfl) (kw hw 133 rfl) (kw hw 27 rfl) (kw hw 135 rfl) dD e42 Y_me.1 (rmU2 l Z a0 hw [] me tm (((((((((([] ++ own_u2 (1 : Int32)) ++ own_u2 (Int32.ofNat (0 + 1))) ++ own_u2 (Int32.ofNat ((0 + 1) + 1))) ++ own_u2 (1 : Int32)) ++ own_u2 (Int32.ofNat (((0 + 1) + 1) + 1))) ++ own_u4 (((12 : Int32) + (Int32.ofNat nn)) + (0 : Int32))) ++ own_u2 (1 : Int32)) ++ own_u2 (1 : Int32)) ++ own_u4 (Int32.ofNat nn)) ++ cs) (0 : Int32) T41.heap n0 ZH Y_me g_me g_tm (by first | omega | (simp only [List.length_append, List.length_cons, List.length_nil, own_u2, own_u4] at *; omega))) dK rfl rfl (lenOf pd_0 rfl) (Nat.le_of_eq rfl) rfl dD dD dD dD rfl (fun _ L43 T43 X43 hQ43 => ?_)
  obtain ⟨rfl, Nq43, K43, Yq43_0⟩ := hQ43
  have N43 := Fr.app N41 Nq43
  have sk43 : ∀ x ∈ ([me, tm] : List Addr), Safe Z own_EL T23.vm T41.heap x := (sfS (Safe.exa B23.hZ.alike Y_me.1 dD dD) (sfS (own_Safe256 (own_EWS hw) B23.hZ Y_me.2.2.2.1) sf0))
  have DD := DD.keep K43 sk43
  have Y_wr := Y_wr.keep K43 (ninS ne_wr_me (ninS ne_wr_tm nin0))
  have Y_c0 := Y_c0.keep K43 (ninS ne_c0_me (ninS ne_c0_tm nin0))
  have Y_al := Y_al.keep K43 (ninS ne_al_me (ninS ne_al_tm nin0))
  have Y_pl := Y_pl.keep K43 (ninS ne_pl_me (ninS ne_pl_tm nin0))
  have Y_en := Y_en.keep K43 (ninS ne_en_me (ninS ne_en_tm nin0)) (ninS ne_te_me (ninS ne_te_tm nin0))
  have Y_mp := Y_mp.keep K43 (ninS ne_mp_me (ninS ne_mp_tm nin0)) (ninS (Ne.symm ne_me_tb23) (ninS (Ne.symm ne_tm_tb23) nin0))
  have ZH := Nat.le_trans ZH K43.1
  have KK := KK.trans K43 (allS (mi 6 rfl) (allS (mi 7 rfl) all0))
  have Y_me := Yq43_0
  refine g_aloadN (k := 3) (q := 274) B23 X43 dK rfl rfl rfl ?_
  refine g_getFR (i := 73) (q := 277) B23 X43 (kw hw 146 rfl) rfl Y_c0.2.2 dK rfl (fun T44 X44 e44 => ?_)
  refine g_callF (i := 103) (cnt := 1) (W := 0) (q := 282) (a := al) (argsL := []) (rest := []) B23 X44 (xi := yy87) (y := yy27) (mvT B23.hZ (kw hw 485 rfl)) (mvT B23.hZ (kw hw 486 rfl)) (mvT B23.hZ (kw hw 487 rfl)) (mvT B23.hZ (kw hw 488 rfl)) (mvT B23.hZ (kw hw 489 rfl)) (mvT B23.hZ (kw hw 490 rfl)) (mvT B23.hZ (kw hw 491 rfl)) (mvT B23.hZ (kw hw 154 rfl)) (kw hw 85 rfl) (kw hw 492 rfl) dD e44 Y_al.1 (rmIE l Z a0 hw [] al (.ref ev) T43.heap n0 ZH Y_al) dK rfl rfl (lenOf pd_7 rfl) (Nat.le_of_eq rfl) rfl dD dD dD dD rfl (fun _ L45 T45 X45 hQ45 => ?_)
  obtain ⟨rfl, Nq45, e45⟩ := hQ45
  have N45 := Fr.app N43 Nq45
  refine g_ifNo (cd := .eq) (o := 14) (q := 285) B23 X45 dK (((if0 _ _).trans (feq (by decide : ¬ ((1 : Int32) = (0 : Int32)))).1)) rfl ?_
  refine g_aloadN (k := 0) (q := 286) B23 X45 dK rfl rfl rfl ?_
  refine g_getF (i := 23) (q := 289) B23 X45 (host := "") (Or.inl (kw hw 60 rfl)) Via.refl e45 Y_wr.2.2.2.1 dK rfl (fun T46 X46 e46 => ?_)
  refine g_iconst (o := 0) (q := 290) (v := 0) B23 X46 dK rfl rfl ?_
  refine g_callV (i := 33) (W := 0) (q := 293) (a := me) (argsL := [(.int (0 : Int32))]) (rest := []) B23 X46 (y := yy0) (kw hw 185 rfl) (kw hw 132 rfl) (kw hw 134 rfl) (kw hw 133 rfl) (kw hw 27 rfl) (kw hw 135 rfl) dD e46 Y_me.1 (rmU2 l Z a0 hw [] me tm ((((((((((([] ++ own_u2 (1 : Int32)) ++ own_u2 (Int32.ofNat (0 + 1))) ++ own_u2 (Int32.ofNat ((0 + 1) + 1))) ++ own_u2 (1 : Int32)) ++ own_u2 (Int32.ofNat (((0 + 1) + 1) + 1))) ++ own_u4 (((12 : Int32) + (Int32.ofNat nn)) + (0 : Int32))) ++ own_u2 (1 : Int32)) ++ own_u2 (1 : Int32)) ++ own_u4 (Int32.ofNat nn)) ++ cs) ++ own_u2 (0 : Int32)) (0 : Int32) T43.heap n0 ZH Y_me g_me g_tm (by first | omega | (simp only [List.length_append, List.length_cons, List.length_nil, own_u2, own_u4] at *; omega))) dK rfl rfl (lenOf pd_0 rfl) (Nat.le_of_eq rfl) rfl dD dD dD dD rfl (fun _ L47 T47 X47 hQ47 => ?_)
  obtain ⟨rfl, Nq47, K47, Yq47_0⟩ := hQ47
  have N47 := Fr.app N45 Nq47
  have sk47 : ∀ x ∈ ([me, tm] : List Addr), Safe Z own_EL T23.vm T43.heap x := (sfS (Safe.exa B23.hZ.alike Y_me.1 dD dD) (sfS (own_Safe256 (own_EWS hw) B23.hZ Y_me.2.2.2.1) sf0))
  have DD := DD.keep K47 sk47
  have Y_wr := Y_wr.keep K47 (ninS ne_wr_me (ninS ne_wr_tm nin0))
  have Y_pl := Y_pl.keep K47 (ninS ne_pl_me (ninS ne_pl_tm nin0))
  have Y_en := Y_en.keep K47 (ninS ne_en_me (ninS ne_en_tm nin0)) (ninS ne_te_me (ninS ne_te_tm nin0))
  have Y_mp := Y_mp.keep K47 (ninS ne_mp_me (ninS ne_mp_tm nin0)) (ninS (Ne.symm ne_me_tb23) (ninS (Ne.symm ne_tm_tb23) nin0))
  have KK := KK.trans K47 (allS (mi 6 rfl) (allS (mi 7 rfl) all0))
  have Y_me := Yq47_0
  refine g_goto (o := 66) (q := 359) B23 X47 dK dD dD ?_
  obtain ⟨E_wr, F_pool_wr, F_fields_wr, F_methods_wr, F_name_wr, F_superName_wr, F_methodCount_wr, F_fieldCount_wr, F_tooLarge_wr⟩ := Y_wr
  refine g_aloadN (k := 0) (q := 360) B23 X47 dK rfl rfl rfl ?_
  refine g_dup (q := 361) B23 X47 dK rfl rfl ?_
  refine g_getF (i := 116) (q := 364) B23 X47 (host := "") (Or.inl (kw hw 500 rfl)) Via.refl rfl F_methodCount_wr dK rfl (fun T48 X48 e48 => ?_)
  refine g_iconst (o := 1) (q := 365) (v := 1) B23 X48 dK rfl rfl ?_
  refine g_iadd (q := 366) (v := (1 : Int32)) B23 X48 dK rfl rfl ?_
  refine g_putF (i := 116) (q := 369) B23 X48 (host := "") (Or.inl (kw hw 500 rfl)) Via.refl e48 F_methodCount_wr E_wr (Or.inl (kw hw 501 rfl)) (kw hw 1 rfl) (ty := .int) dD rfl rfl dK rfl (fun T49 h49 X49 e49 W49 => ?_)
  have N49 := Fr.snoc X49 N47 g_wr
  have F_methodCount_wr := F_methodCount_wr.same W49
  have sw49 : Safe Z own_EL T23.vm T47.heap wr := (Safe.exa B23.hZ.alike E_wr dD dD)
  have DD := DD.wr W49 sw49
  have Y_pl := Y_pl.other W49 (Ne.symm ne_wr_pl)
  have Y_en := Y_en.other W49 (Ne.symm ne_wr_en) (Ne.symm ne_wr_te)
  have Y_mp := Y_mp.other W49 (Ne.symm ne_wr_mp) (Ne.symm ne_wr_tb23)
  have Y_me := Y_me.other W49 (Ne.symm ne_wr_me) (Ne.symm ne_wr_tm)
  have E_wr := E_wr.wr W49
  have F_pool_wr := F_pool_wr.other W49 (Or.inr (slot_ne (Or.inr (kw hw 55 rfl)) (Or.inl (kw hw 501 rfl)) dD (t := (.object zz3)) (t' := .int) dD dD))
  have F_fields_wr := F_fields_wr.other W49 (Or.inr (slot_ne (Or.inr (kw hw 59 rfl)) (Or.inl (kw hw 501 rfl)) dD (t := (.object zz0)) (t' := .int) dD dD))
  have F_methods_wr := F_methods_wr.other W49 (Or.inr (slot_ne (Or.inr (kw hw 61 rfl)) (Or.inl (kw hw 501 rfl)) dD (t := (.object zz0)) (t' := .int) dD dD))
  have F_name_wr := F_name_wr.other W49 (Or.inr (slot_ne (Or.inr (kw hw 63 rfl)) (Or.inl (kw hw 501 rfl)) dD (t := (.object zz1)) (t' := .int) dD dD))
  have F_superName_wr := F_superName_wr.other W49 (Or.inr (slot_ne (Or.inr (kw hw 65 rfl)) (Or.inl (kw hw 501 rfl)) dD (t := (.object zz1)) (t' := .int) dD dD))
  have F_fieldCount_wr := F_fieldCount_wr.other W49 (Or.inr (slot_ne (Or.inl (kw hw 566 rfl)) (Or.inl (kw hw 501 rfl)) dD (t := .int) (t' := .int) dD dD))
  have F_tooLarge_wr := F_tooLarge_wr.other W49 (Or.inr (slot_ne (Or.inl (kw hw 574 rfl)) (Or.inl (kw hw 501 rfl)) dD (t := .boolean) (t' := .int) dD dD))
  have KK := KK.wr W49 (mi 0 rfl)
  exact g_wret B23 X49 DD (own_EWS hw).ew hh dK dD dD e49 (by
    exact ⟨rfl, N49, KK, tb23, (own_ch (own_ch (cq12.imp id (fun z => Nat.le_trans kk12 z)) (cq16.imp id (fun z => Nat.le_trans kk16 z))) (cq23.imp id (fun z => Nat.le_trans kk23 z))), ⟨E_wr, F_pool_wr, F_fields_wr, F_methods_wr, F_name_wr, F_superName_wr, F_methodCount_wr, F_fieldCount_wr, F_tooLarge_wr⟩, Y_pl, Y_en, Y_mp, Y_me⟩)
def own_es7 : List Int32 := ((((((((((own_es3 ++ [own_b8 (Int32.ofNat 1)]) ++ own_u2 (Int32.ofNat [Int32.ofNat 65].length)) ++ [Int32.ofNat 65]) ++ [own_b8 (Int32.ofNat 7)]) ++ own_u2 (Int32.ofNat ((((0 + 1) + 1) + 1) + 1))) ++ [own_b8 (Int32.ofNat 1)]) ++ own_u2 (Int32.ofNat [Int32.ofNat 106, Int32.ofNat 97, Int32.ofNat 118, Int32.ofNat 97, Int32.ofNat 47, Int32.ofNat 108, Int32.ofNat 97, Int32.ofNat 110, Int32.ofNat 103, Int32.ofNat 47, Int32.ofNat 79, Int32.ofNat 98, Int32.ofNat 106, Int32.ofNat 101, Int32.ofNat 99, Int32.ofNat 116].length)) ++ [Int32.ofNat 106, Int32.ofNat 97, Int32.ofNat 118, Int32.ofNat 97, Int32.ofNat 47, Int32.ofNat 108, Int32.ofNat 97, Int32.ofNat 110, Int32.ofNat 103, Int32.ofNat 47, Int32.ofNat 79, Int32.ofNat 98, Int32.ofNat 106, Int32.ofNat 101, Int32.ofNat 99, Int32.ofNat 116]) ++ [own_b8 (Int32.ofNat 7)]) ++ own_u2 (Int32.ofNat ((((((0 + 1) + 1) + 1) + 1) + 1) + 1)))
theorem own_es7l : own_es7.length = 46 := by decide
theorem own_blD {cs : List Int32} (h : cs.all (fun x => decide (own_b8 x = x)) = true) : own_bl cs := fun x hx => of_decide_eq_true (List.all_eq_true.mp h x hx)
theorem own_es7b : own_bl own_es7 := own_blD dK

def QrmTY (Z : State) (cz : Int32) (fv : Value) (ev dg ca : Addr) (cg : Nat → Addr) (pl en : Addr) (te mp : Addr) (tb wr : Addr) (fi tf : Addr) (me tm : Addr) (na tna : Addr) (su tsu : Addr) (md : List Int32) (h0 : Heap) (n0 : Nat) (v : Option Value) (h : Heap) (L : List Loc) : Prop := ∃ (b : Addr) (P : List Int32), v = some (.ref b) ∧ Fr n0 L ∧ Keep h0 h [pl, en, te, mp, tb] ∧ P.length = 68 ∧ own_Arf Z h b .byte (Int32.ofNat ((P ++ md) ++ own_u2 (0 : Int32)).length) (fun i => .int (own_L ((P ++ md) ++ own_u2 (0 : Int32)) i))
theorem rmTY (l : Launch) (Z : State) (a0 : Array Value) (hw : own_H a0 Z) (ws : List Jvm.Cond) (cz : Int32) (fv : Value) (ev dg ca : Addr) (cg : Nat → Addr) (pl en : Addr) (te mp : Addr) (tb wr : Addr) (fi tf : Addr) (me tm : Addr) (na tna : Addr) (su tsu : Addr) (md : List Int32) (h0 : Heap) (n0 : Nat) (ZH : n0 ≤ h0.size) (OO : Old Z n0 h0) (HW : own_W Z cz fv ev dg ca cg) (Y_wr : own_Wr Z h0 wr pl fi me na su (1 : Int32)) (Y_pl : own_P0 Z h0 pl en mp (Int32.ofNat (((0 + 1) + 1) + 1))) (Y_en : own_By Z h0 en te own_es3) (Y_fi : own_By Z h0 fi tf []) (Y_me : own_By Z h0 me tm md) (Y_na : own_St Z h0 na tna [Int32.ofNat 65]) (Y_su : own_St Z h0 su tsu [Int32.ofNat 106, Int32.ofNat 97, Int32.ofNat 118, Int32.ofNat 97, Int32.ofNat 47, Int32.ofNat 108, Int32.ofNat 97, Int32.ofNat 110, Int32.ofNat 103, Int32.ofNat 47, Int32.ofNat 79, Int32.ofNat 98, Int32.ofNat 106, Int32.ofNat 101, Int32.ofNat 99, Int32.ofNat 116]) (Y_mp : own_Mp Z h0 mp tb (12 :: (7 :: (14 :: [])))) (ne_pl_en : pl ≠ en) (ne_pl_te : pl ≠ te) (ne_pl_mp : pl ≠ mp) (ne_pl_tb : pl ≠ tb) (ne_en_mp : en ≠ mp) (ne_en_tb : en ≠ tb) (ne_te_mp : te ≠ mp) (ne_te_tb : te ≠ tb) (ne_wr_pl : wr ≠ pl) (ne_wr_en : wr ≠ en) (ne_wr_te : wr ≠ te) (ne_wr_mp : wr ≠ mp) (ne_wr_tb : wr ≠ tb) (ne_fi_pl : fi ≠ pl) (ne_fi_en : fi ≠ en) (ne_fi_te : fi ≠ te) (ne_fi_mp : fi ≠ mp) (ne_fi_tb : fi ≠ tb) (ne_tf_pl : tf ≠ pl) (ne_tf_en : tf ≠ en) (ne_tf_te : tf ≠ te) (ne_tf_mp : tf ≠ mp) (ne_tf_tb : tf ≠ tb) (ne_me_pl : me ≠ pl) (ne_me_en : me ≠ en) (ne_me_te : me ≠ te) (ne_me_mp : me ≠ mp) (ne_me_tb : me ≠ tb) (ne_tm_pl : tm ≠ pl) (ne_tm_en : tm ≠ en) (ne_tm_te : tm ≠ te) (ne_tm_mp : tm ≠ mp) (ne_tm_tb : tm ≠ tb) (ne_na_pl : na ≠ pl) (ne_na_en : na ≠ en) (ne_na_te : na ≠ te) (ne_na_mp : na ≠ mp) (ne_na_tb : na ≠ tb) (ne_tna_pl : tna ≠ pl) (ne_tna_en : tna ≠ en) (ne_tna_te : tna ≠ te) (ne_tna_mp : tna ≠ mp) (ne_tna_tb : tna ≠ tb) (ne_su_pl : su ≠ pl) (ne_su_en : su ≠ en) (ne_su_te : su ≠ te) (ne_su_mp : su ≠ mp) (ne_su_tb : su ≠ tb) (ne_tsu_pl : tsu ≠ pl) (ne_tsu_en : tsu ≠ en) (ne_tsu_te : tsu ≠ te) (ne_tsu_mp : tsu ≠ mp) (ne_tsu_tb : tsu ≠ tb) (g_pl : n0 ≤ pl) (g_en : n0 ≤ en) (g_te : n0 ≤ te) (g_mp : n0 ≤ mp) (g_tb : n0 ≤ tb) (hbm : own_bl md) (hml : md.length < 50) :
    own_MetW l Z yy88 prog_80_method_9_code 4 (some (.array .byte)) ws (own_R 10 57 2028 3107) #[(.ref wr)] h0 (QrmTY Z cz fv ev dg ca cg pl en te mp tb wr fi tf me tm na tna su tsu md h0 n0) 57 2028 := by
  refine own_hw (fr := #[.val (.ref wr), .unset, .unset, .unset]) (plainFor_of_name pn_10) (fun {p e s m below meth c s₁} B X0 e0 hh DD Nm => ?_)
  have N0 := Fr.nil n0
  have KK := Keep.refl h0 [pl, en, te, mp, tb]
  have I_te := Y_en.in_tb
  have I_tf := Y_fi.in_tb
  have I_tm := Y_me.in_tb
  have I_tsu := Y_su.in_tx
  have hl7 := own_es7l
  have hb7 := own_es7b
  refine g_aloadN (k := 0) (q := 1) B X0 dK rfl rfl rfl ?_
  refine g_getF (i := 12) (q := 4) B X0 (host := "") (Or.inl (kw hw 54 rfl)) Via.refl e0 Y_wr.2.1 dK rfl (fun T1 X1 e1 => ?_)
  refine g_aloadN (k := 0) (q := 5) B X1 dK rfl rfl rfl ?_
  refine g_getF (i := 26) (q := 8) B X1 (host := "") (Or.inl (kw hw 62 rfl)) Via.refl e1 Y_wr.2.2.2.2.1 dK rfl (fun T2 X2 e2 => ?_)
  refine g_wcallV (i := 189) (W := 0) (q := 11) (a := pl) (argsL := [(.ref na)]) (rest := []) B X2 DD (own_EWS hw).ew (y := yy41) (kw hw 507 rfl) (kw hw 508 rfl) (kw hw 510 rfl) (kw hw 509 rfl) (kw hw 20 rfl) (kw hw 511 rfl) dD e2 Y_pl.1 (rmKE l Z a0 hw [] cz fv ev dg ca cg pl en te mp tb (12 :: (7 :: (14 :: []))) (((0 + 1) + 1) + 1) own_es3 na tna [Int32.ofNat 65] 2 13 h0 n0 ZH OO HW Y_pl Y_en Y_na Y_mp ne_pl_en ne_pl_te ne_pl_mp ne_pl_tb ne_en_mp ne_en_tb ne_te_mp ne_te_tb ne_na_pl ne_na_en ne_na_te ne_na_mp ne_na_tb ne_tna_pl ne_tna_en ne_tna_te ne_tna_mp ne_tna_tb g_pl g_en g_te g_mp g_tb own_q3 dD dD (Or.inl dD) dD dD dD own_y3 own_y4) dK rfl rfl (lenOf pd_48 rfl) (Nat.le_of_eq rfl) rfl dD dD dD dD rfl (fun _ L3 T3 X3 B3 D3 CR3 hQ3 => ?_)
  have zh3 := ZH
  have kk3 := KK.1
  have lt3_wr := Y_wr.lt
  have lt3_pl := Y_pl.lt
  have lt3_en := Y_en.lt
  have lt3_te := I_te.lt
  have lt3_fi := Y_fi.lt
  have lt3_tf := I_tf.lt
  have lt3_me := Y_me.lt
  have lt3_tm := I_tm.lt
  have lt3_su := Y_su.lt
  have lt3_tsu := I_tsu.lt
  obtain ⟨rfl, Nq3, K3, tb3, cq3, Yp3, Ye3, Ym3⟩ := hQ3
  have N3 := Fr.app N0 Nq3
  have Y_wr := Y_wr.keep K3 (ninS ne_wr_pl (ninS ne_wr_en (ninS ne_wr_te (ninS ne_wr_mp (ninS ne_wr_tb nin0)))))
  have Y_fi := Y_fi.keep K3 (ninS ne_fi_pl (ninS ne_fi_en (ninS ne_fi_te (ninS ne_fi_mp (ninS ne_fi_tb nin0))))) (ninS ne_tf_pl (ninS ne_tf_en (ninS ne_tf_te (ninS ne_tf_mp (ninS ne_tf_tb nin0)))))
  have Y_me := Y_me.keep K3 (ninS ne_me_pl (ninS ne_me_en (ninS ne_me_te (ninS ne_me_mp (ninS ne_me_tb nin0))))) (ninS ne_tm_pl (ninS ne_tm_en (ninS ne_tm_te (ninS ne_tm_mp (ninS ne_tm_tb nin0)))))
  have Y_su := Y_su.keep K3 (ninS ne_su_pl (ninS ne_su_en (ninS ne_su_te (ninS ne_su_mp (ninS ne_su_tb nin0))))) (ninS ne_tsu_pl (ninS ne_tsu_en (ninS ne_tsu_te (ninS ne_tsu_mp (ninS ne_tsu_tb nin0)))))
  have I_te := I_te.keep K3
  have I_tf := I_tf.keep K3
  have I_tm := I_tm.keep K3
  have ZH := Nat.le_trans ZH K3.1
  have KK := KK.trans K3 (allS (mi 0 rfl) (allS (mi 1 rfl) (allS (mi 2 rfl) (allS (mi 3 rfl) (allS (mi 4 rfl) all0)))))
  have OO := OO.keep K3 (allS g_pl (allS g_en (allS g_te (allS g_mp (allS g_tb all0)))))
  have DD := D3
  have ne_wr_tb3 := own_ne2 cq3 ne_wr_tb lt3_wr
  have ne_pl_tb3 := own_ne2 cq3 ne_pl_tb lt3_pl
  have ne_en_tb3 := own_ne2 cq3 ne_en_tb lt3_en
  have ne_te_tb3 := own_ne2 cq3 ne_te_tb lt3_te
  have ne_fi_tb3 := own_ne2 cq3 ne_fi_tb lt3_fi
  have ne_tf_tb3 := own_ne2 cq3 ne_tf_tb lt3_tf
  have ne_me_tb3 := own_ne2 cq3 ne_me_tb lt3_me
  have ne_tm_tb3 := own_ne2 cq3 ne_tm_tb lt3_tm
  have ne_su_tb3 := own_ne2 cq3 ne_su_tb lt3_su
  have ne_tsu_tb3 := own_ne2 cq3 ne_tsu_tb lt3_tsu
  have g_tb3 := own_ge2 cq3 g_tb zh3
  have mo_tb3 := own_mo cq3 (Or.inl (List.mem_of_getElem? (l := [pl, en, te, mp, tb]) (i := 4) rfl)) kk3
  have Y_pl := Yp3
  have Y_en := Ye3
  have Y_mp := Ym3
  refine g_istoreN (k := 1) (q := 12) (l' := #[.val (.ref wr), .val (.int (Int32.ofNat (((((0 + 1) + 1) + 1) + 1) + 1))), .unset, .unset]) B3 X3 dK rfl rfl ?_
  refine g_aloadN (k := 0) (q := 13) B3 X3 dK rfl rfl rfl ?_
  refine g_getF (i := 12) (q := 16) B3 X3 (host := "") (Or.inl (kw hw 54 rfl)) Via.refl rfl Y_wr.2.1 dK rfl (fun T4 X4 e4 => ?_)
  refine g_aloadN (k := 0) (q := 17) B3 X4 dK rfl rfl rfl ?_
  refine g_getF (i := 30) (q := 20) B3 X4 (host := "") (Or.inl (kw hw 64 rfl)) Via.refl e4 Y_wr.2.2.2.2.2.1 dK rfl (fun T5 X5 e5 => ?_)
  refine g_wcallV (i := 189) (W := 0) (q := 23) (a := pl) (argsL := [(.ref su)]) (rest := []) B3 X5 DD (own_EWS hw).ew (y := yy41) (kw hw 507 rfl) (kw hw 508 rfl) (kw hw 510 rfl) (kw hw 509 rfl) (kw hw 20 rfl) (kw hw 511 rfl) dD e5 Y_pl.1 (rmKE l Z a0 hw [] cz fv ev dg ca cg pl en te mp tb3 (13 :: (2 :: (12 :: (7 :: (14 :: []))))) (((((0 + 1) + 1) + 1) + 1) + 1) (((((own_es3 ++ [own_b8 (Int32.ofNat 1)]) ++ own_u2 (Int32.ofNat [Int32.ofNat 65].length)) ++ [Int32.ofNat 65]) ++ [own_b8 (Int32.ofNat 7)]) ++ own_u2 (Int32.ofNat ((((0 + 1) + 1) + 1) + 1))) su tsu [Int32.ofNat 106, Int32.ofNat 97, Int32.ofNat 118, Int32.ofNat 97, Int32.ofNat 47, Int32.ofNat 108, Int32.ofNat 97, Int32.ofNat 110, Int32.ofNat 103, Int32.ofNat 47, Int32.ofNat 79, Int32.ofNat 98, Int32.ofNat 106, Int32.ofNat 101, Int32.ofNat 99, Int32.ofNat 116] 11 15 T3.heap n0 ZH OO HW Y_pl Y_en Y_su Y_mp ne_pl_en ne_pl_te ne_pl_mp ne_pl_tb3 ne_en_mp ne_en_tb3 ne_te_mp ne_te_tb3 ne_su_pl ne_su_en ne_su_te ne_su_mp ne_su_tb3 ne_tsu_pl ne_tsu_en ne_tsu_te ne_tsu_mp ne_tsu_tb3 g_pl g_en g_te g_mp g_tb3 own_q4 dD dD (Or.inr dD) dD dD dD own_y5 own_y6) dK rfl rfl (lenOf pd_48 rfl) (Nat.le_of_eq rfl) rfl dD dD dD dD rfl (fun _ L6 T6 X6 B6 D6 CR6 hQ6 => ?_)
  obtain ⟨rfl, Nq6, K6, tb6, cq6, Yp6, Ye6, Ym6⟩ := hQ6
  have N6 := Fr.app N3 Nq6
  have Y_wr := Y_wr.keep K6 (ninS ne_wr_pl (ninS ne_wr_en (ninS ne_wr_te (ninS ne_wr_mp (ninS ne_wr_tb3 nin0)))))
  have Y_fi := Y_fi.keep K6 (ninS ne_fi_pl (ninS ne_fi_en (ninS ne_fi_te (ninS ne_fi_mp (ninS ne_fi_tb3 nin0))))) (ninS ne_tf_pl (ninS ne_tf_en (ninS ne_tf_te (ninS ne_tf_mp (ninS ne_tf_tb3 nin0)))))
  have Y_me := Y_me.keep K6 (ninS ne_me_pl (ninS ne_me_en (ninS ne_me_te (ninS ne_me_mp (ninS ne_me_tb3 nin0))))) (ninS ne_tm_pl (ninS ne_tm_en (ninS ne_tm_te (ninS ne_tm_mp (ninS ne_tm_tb3 nin0)))))
  have I_te := I_te.keep K6
  have I_tf := I_tf.keep K6
  have I_tm := I_tm.keep K6
  have ZH := Nat.le_trans ZH K6.1
  have KK := KK.trans K6 (allS (mi 0 rfl) (allS (mi 1 rfl) (allS (mi 2 rfl) (allS (mi 3 rfl) (allS mo_tb3 all0)))))
  have DD := D6
  have Y_pl := Yp6
  have Y_en := Ye6
  have Y_en : own_By Z T6.heap en te own_es7 := Y_en
  refine g_istoreN (k := 2) (q := 24) (l' := #[.val (.ref wr), .val (.int (Int32.ofNat (((((0 + 1) + 1) + 1) + 1) + 1))), .val (.int (Int32.ofNat (((((((0 + 1) + 1) + 1) + 1) + 1) + 1) + 1))), .unset]) B6 X6 dK rfl rfl ?_
  refine g_new (i := 16) (q := 27) B6 X6 (kw hw 56 rfl) (kw hw 26 rfl) (kw hw 27 rfl) rfl dK dD dD rfl (fun b7 T7 h7 gz7 X7 e7 E7 A7 D7 => ?_)
  have ne_wr_b7 := nl Y_wr.lt gz7
  have ne_pl_b7 := nl Y_pl.lt gz7
  have ne_en_b7 := nl Y_en.lt gz7
  have ne_te_b7 := nl I_te.lt gz7
  have ne_fi_b7 := nl Y_fi.lt gz7
  have ne_tf_b7 := nl I_tf.lt gz7
  have ne_me_b7 := nl Y_me.lt gz7
  have ne_tm_b7 := nl I_tm.lt gz7
  have g_b7 := gl ZH gz7
  have sz_b7 := gl KK.1 gz7
  have DD := DD.ext E7
  have Y_wr := Y_wr.ext E7
  have Y_fi := Y_fi.ext E7
  have Y_me := Y_me.ext E7
  have Y_pl := Y_pl.ext E7
  have Y_en := Y_en.ext E7
  have I_te := I_te.ext E7
  have I_tf := I_tf.ext E7
  have I_tm := I_tm.ext E7
  have ZH := Nat.le_trans ZH E7.1
  have KK := KK.ext E7
  have E_b7 := A7
  have F_bytes_b7 : Fld Z h7 b7 zz0 "bytes" "[B" .null := D7 (Or.inl (kw hw 33 rfl)) (ty := (.array .byte)) dD
  have F_size_b7 : Fld Z h7 b7 zz0 "size" "I" (.int (0 : Int32)) := D7 (Or.inl (kw hw 120 rfl)) (ty := .int) dD
  refine g_dup (q := 28) B6 X7 dK rfl rfl ?_
  have zh8 := ZH
  have kk8 := KK.1
  have lt8_wr := Y_wr.lt
  have lt8_pl := Y_pl.lt
  have lt8_en := Y_en.lt
  have lt8_te := I_te.lt
  have lt8_fi := Y_fi.lt
  have lt8_tf := I_tf.lt
  have lt8_me := Y_me.lt
  have lt8_tm := I_tm.lt
  refine g_callIR (i := 18) (W := 1) (q := 31) (a := b7) (argsL := []) (rest := [(.ref b7)]) B6 X7 (y := yy3) rfl (kw hw 57 rfl) (kw hw 29 rfl) (kw hw 27 rfl) (kw hw 30 rfl) dD e7 (rmBi l Z a0 hw [] b7 h7 n0 ZH E_b7 F_bytes_b7 F_size_b7 g_b7) dK rfl rfl (lenOf pd_1 rfl) (Nat.le_of_eq rfl) rfl dD dD dD dD rfl (fun _ L8 T8 X8 hQ8 => ?_)
  obtain ⟨rfl, Nq8, K8, tb7, szq8, Yq8⟩ := hQ8
  have N8 := Fr.app N6 Nq8
  have sk8 : ∀ x ∈ ([b7] : List Addr), Safe Z own_EL T6.vm h7 x := (sfS (Safe.exa B6.hZ.alike E_b7 dD dD) sf0)
  have ch8 := DD.ch
  have DD := DD.keep K8 sk8
  have Y_wr := Y_wr.keep K8 (ninS ne_wr_b7 nin0)
  have Y_fi := Y_fi.keep K8 (ninS ne_fi_b7 nin0) (ninS ne_tf_b7 nin0)
  have Y_me := Y_me.keep K8 (ninS ne_me_b7 nin0) (ninS ne_tm_b7 nin0)
  have Y_pl := Y_pl.keep K8 (ninS ne_pl_b7 nin0)
  have Y_en := Y_en.keep K8 (ninS ne_en_b7 nin0) (ninS ne_te_b7 nin0)
  have ZH := Nat.le_trans ZH K8.1
  have KK := KK.trans K8 (allS (Or.inr sz_b7) all0)
  have Y_b7 := Yq8
  have ne_wr_tb7 := nz lt8_wr szq8
  have ne_pl_tb7 := nz lt8_pl szq8
  have ne_en_tb7 := nz lt8_en szq8
  have ne_te_tb7 := nz lt8_te szq8
  have ne_fi_tb7 := nz lt8_fi szq8
  have ne_tf_tb7 := nz lt8_tf szq8
  have ne_me_tb7 := nz lt8_me szq8
  have ne_tm_tb7 := nz lt8_tm szq8
  have g_tb7 := Nat.le_trans zh8 szq8
  have sz_tb7 := Nat.le_trans kk8 szq8
  have S_tb7 := Safe.keep K8 sk8 ch8 (Safe.new szq8)
  refine g_astoreN (k := 3) (q := 32) (l' := #[.val (.ref wr), .val (.int (Int32.ofNat (((((0 + 1) + 1) + 1) + 1) + 1))), .val (.int (Int32.ofNat (((((((0 + 1) + 1) + 1) + 1) + 1) + 1) + 1))), .val (.ref b7)]) B6 X8 dK rfl rfl rfl ?_
  refine g_aloadN (k := 3) (q := 33) B6 X8 dK rfl rfl rfl ?_
  refine g_ldcI (i := 192) (q := 35) B6 X8 (kw hw 558 rfl) dK rfl ?_
  refine g_callV (i := 106) (W := 0) (q := 38) (a := b7) (argsL := [(.int (-889275714 : Int32))]) (rest := []) B6 X8 (y := yy13) (kw hw 494 rfl) (kw hw 495 rfl) (kw hw 497 rfl) (kw hw 496 rfl) (kw hw 27 rfl) (kw hw 498 rfl) dD rfl Y_b7.1 (rmU4 l Z a0 hw [] b7 tb7 [] (-889275714 : Int32) T8.heap n0 ZH Y_b7 g_b7 g_tb7 (by first | omega | (simp only [List.length_append, List.length_cons, List.length_nil, own_u2, own_u4] at *; omega))) dK rfl rfl (lenOf pd_0 rfl) (Nat.le_of_eq rfl) rfl dD dD dD dD rfl (fun _ L9 T9 X9 hQ9 => ?_)
  obtain ⟨rfl, Nq9, K9, Yq9_0⟩ := hQ9
  have N9 := Fr.app N8 Nq9
  have sk9 : ∀ x ∈ ([b7, tb7] : List Addr), Safe Z own_EL T6.vm T8.heap x := (sfS (Safe.exa B6.hZ.alike Y_b7.1 dD dD) (sfS S_tb7 sf0))
  have S_tb7 := Safe.keep K9 sk9 DD.ch S_tb7
  have DD := DD.keep K9 sk9
  have Y_wr := Y_wr.keep K9 (ninS ne_wr_b7 (ninS ne_wr_tb7 nin0))
  have Y_fi := Y_fi.keep K9 (ninS ne_fi_b7 (ninS ne_fi_tb7 nin0)) (ninS ne_tf_b7 (ninS ne_tf_tb7 nin0))
  have Y_me := Y_me.keep K9 (ninS ne_me_b7 (ninS ne_me_tb7 nin0)) (ninS ne_tm_b7 (ninS ne_tm_tb7 nin0))
  have Y_pl := Y_pl.keep K9 (ninS ne_pl_b7 (ninS ne_pl_tb7 nin0))
  have Y_en := Y_en.keep K9 (ninS ne_en_b7 (ninS ne_en_tb7 nin0)) (ninS ne_te_b7 (ninS ne_te_tb7 nin0))
  have ZH := Nat.le_trans ZH K9.1
  have KK := KK.trans K9 (allS (Or.inr sz_b7) (allS (Or.inr sz_tb7) all0))
  have Y_b7 := Yq9_0
  refine g_aloadN (k := 3) (q := 39) B6 X9 dK rfl rfl rfl ?_
  refine g_iconst (o := 0) (q := 40) (v := 0) B6 X9 dK rfl rfl ?_
  refine g_callV (i := 33) (W := 0) (q := 43) (a := b7) (argsL := [(.int (0 : Int32))]) (rest := []) B6 X9 (y := yy0) (kw hw 185 rfl) (kw hw 132 rfl) (kw hw 134 rfl) (kw hw 133 rfl) (kw hw 27 rfl) (kw hw 135 rfl) dD rfl Y_b7.1 (rmU2 l Z a0 hw [] b7 tb7 ([] ++ own_u4 (-889275714 : Int32)) (0 : Int32) T9.heap n0 ZH Y_b7 g_b7 g_tb7 (by first | omega | (simp only [List.length_append, List.length_cons, List.length_nil, own_u2, own_u4] at *; omega))) dK rfl rfl (lenOf pd_0 rfl) (Nat.le_of_eq rfl) rfl dD dD dD dD rfl (fun _ L10 T10 X10 hQ10 => ?_)
  obtain ⟨rfl, Nq10, K10, Yq10_0⟩ := hQ10
  have N10 := Fr.app N9 Nq10
  have sk10 : ∀ x ∈ ([b7, tb7] : List Addr), Safe Z own_EL T6.vm T9.heap x := (sfS (Safe.exa B6.hZ.alike Y_b7.1 dD dD) (sfS S_tb7 sf0))
  have S_tb7 := Safe.keep K10 sk10 DD.ch S_tb7
  have DD := DD.keep K10 sk10
  have Y_wr := Y_wr.keep K10 (ninS ne_wr_b7 (ninS ne_wr_tb7 nin0))
  have Y_fi := Y_fi.keep K10 (ninS ne_fi_b7 (ninS ne_fi_tb7 nin0)) (ninS ne_tf_b7 (ninS ne_tf_tb7 nin0))
  have Y_me := Y_me.keep K10 (ninS ne_me_b7 (ninS ne_me_tb7 nin0)) (ninS ne_tm_b7 (ninS ne_tm_tb7 nin0))
  have Y_pl := Y_pl.keep K10 (ninS ne_pl_b7 (ninS ne_pl_tb7 nin0))
  have Y_en := Y_en.keep K10 (ninS ne_en_b7 (ninS ne_en_tb7 nin0)) (ninS ne_te_b7 (ninS ne_te_tb7 nin0))
  have ZH := Nat.le_trans ZH K10.1
  have KK := KK.trans K10 (allS (Or.inr sz_b7) (allS (Or.inr sz_tb7) all0))
  have Y_b7 := Yq10_0
  refine g_aloadN (k := 3) (q := 44) B6 X10 dK rfl rfl rfl ?_
  refine g_bipush (o := 61) (q := 46) (v := 61) B6 X10 dK rfl rfl ?_
  refine g_callV (i := 33) (W := 0) (q := 49) (a := b7) (argsL := [(.int (61 : Int32))]) (rest := []) B6 X10 (y := yy0) (kw hw 185 rfl) (kw hw 132 rfl) (kw hw 134 rfl) (kw hw 133 rfl) (kw hw 27 rfl) (kw hw 135 rfl) dD rfl Y_b7.1 (rmU2 l Z a0 hw [] b7 tb7 (([] ++ own_u4 (-889275714 : Int32)) ++ own_u2 (0 : Int32)) (61 : Int32) T10.heap n0 ZH Y_b7 g_b7 g_tb7 (by first | omega | (simp only [List.length_append, List.length_cons, List.length_nil, own_u2, own_u4] at *; omega))) dK rfl rfl (lenOf pd_0 rfl) (Nat.le_of_eq rfl) rfl dD dD dD dD rfl (fun _ L11 T11 X11 hQ11 => ?_)
  obtain ⟨rfl, Nq11, K11, Yq11_0⟩ := hQ11
  have N11 := Fr.app N10 Nq11
  have sk11 : ∀ x ∈ ([b7, tb7] : List Addr), Safe Z own_EL T6.vm T10.heap x := (sfS (Safe.exa B6.hZ.alike Y_b7.1 dD dD) (sfS S_tb7 sf0))
  have S_tb7 := Safe.keep K11 sk11 DD.ch S_tb7
  have DD := DD.keep K11 sk11
  have Y_wr := Y_wr.keep K11 (ninS ne_wr_b7 (ninS ne_wr_tb7 nin0))
  have Y_fi := Y_fi.keep K11 (ninS ne_fi_b7 (ninS ne_fi_tb7 nin0)) (ninS ne_tf_b7 (ninS ne_tf_tb7 nin0))
  have Y_me := Y_me.keep K11 (ninS ne_me_b7 (ninS ne_me_tb7 nin0)) (ninS ne_tm_b7 (ninS ne_tm_tb7 nin0))
  have Y_pl := Y_pl.keep K11 (ninS ne_pl_b7 (ninS ne_pl_tb7 nin0))
  have Y_en := Y_en.keep K11 (ninS ne_en_b7 (ninS ne_en_tb7 nin0)) (ninS ne_te_b7 (ninS ne_te_tb7 nin0))
  have ZH := Nat.le_trans ZH K11.1
  have KK := KK.trans K11 (allS (Or.inr sz_b7) (allS (Or.inr sz_tb7) all0))
  have Y_b7 := Yq11_0
  refine g_aloadN (k := 0) (q := 50) B6 X11 dK rfl rfl rfl ?_
  refine g_getF (i := 12) (q := 53) B6 X11 (host := "") (Or.inl (kw hw 54 rfl)) Via.refl rfl Y_wr.2.1 dK rfl (fun T12 X12 e12 => ?_)
  refine g_aloadN (k := 3) (q := 54) B6 X12 dK rfl rfl rfl ?_
  refine g_callV (i := 193) (W := 0) (q := 57) (a := pl) (argsL := [(.ref b7)]) (rest := []) B6 X12 (y := yy84) (kw hw 559 rfl) (kw hw 560 rfl) (kw hw 562 rfl) (kw hw 561 rfl) (kw hw 20 rfl) (kw hw 563 rfl) dD e12 Y_pl.1 (rmWT l Z a0 hw [] pl en te mp (((((((0 + 1) + 1) + 1) + 1) + 1) + 1) + 1) own_es7 b7 tb7 ((([] ++ own_u4 (-889275714 : Int32)) ++ own_u2 (0 : Int32)) ++ own_u2 (61 : Int32)) T11.heap n0 ZH Y_pl Y_en Y_b7 (Ne.symm ne_pl_b7) (Ne.symm ne_en_b7) (Ne.symm ne_te_b7) (Ne.symm ne_pl_tb7) (Ne.symm ne_en_tb7) (Ne.symm ne_te_tb7) g_b7 g_tb7 hb7 (by first | omega | (simp only [List.length_append, List.length_cons, List.length_nil, own_u2, own_u4] at *; omega)) (by omega)) dK rfl rfl (lenOf pd_39 rfl) (Nat.le_of_eq rfl) rfl dD dD dD dD rfl (fun _ L13 T13 X13 hQ13 => ?_)
  obtain ⟨rfl, Nq13, K13, Yq13_0⟩ := hQ13
  have N13 := Fr.app N11 Nq13
  have sk13 : ∀ x ∈ ([b7, tb7] : List Addr), Safe Z own_EL T6.vm T11.heap x := (sfS (Safe.exa B6.hZ.alike Y_b7.1 dD dD) (sfS S_tb7 sf0))
  have S_tb7 := Safe.keep K13 sk13 DD.ch S_tb7
  have DD := DD.keep K13 sk13
  have Y_wr := Y_wr.keep K13 (ninS ne_wr_b7 (ninS ne_wr_tb7 nin0))
  have Y_fi := Y_fi.keep K13 (ninS ne_fi_b7 (ninS ne_fi_tb7 nin0)) (ninS ne_tf_b7 (ninS ne_tf_tb7 nin0))
  have Y_me := Y_me.keep K13 (ninS ne_me_b7 (ninS ne_me_tb7 nin0)) (ninS ne_tm_b7 (ninS ne_tm_tb7 nin0))
  have ZH := Nat.le_trans ZH K13.1
  have KK := KK.trans K13 (allS (Or.inr sz_b7) (allS (Or.inr sz_tb7) all0))
  have Y_b7 := Yq13_0
  refine g_aloadN (k := 3) (q := 58) B6 X13 dK rfl rfl rfl ?_
  refine g_bipush (o := 49) (q := 60) (v := 49) B6 X13 dK rfl rfl ?_
  refine g_callV (i := 33) (W := 0) (q := 63) (a := b7) (argsL := [(.int (49 : Int32))]) (rest := []) B6 X13 (y := yy0) (kw hw 185 rfl) (kw hw 132 rfl) (kw hw 134 rfl) (kw hw 133 rfl) (kw hw 27 rfl) (kw hw 135 rfl) dD rfl Y_b7.1 (rmU2 l Z a0 hw [] b7 tb7 ((((([] ++ own_u4 (-889275714 : Int32)) ++ own_u2 (0 : Int32)) ++ own_u2 (61 : Int32)) ++ own_u2 (Int32.ofNat ((((((((0 + 1) + 1) + 1) + 1) + 1) + 1) + 1) + 1))) ++ own_es7) (49 : Int32) T13.heap n0 ZH Y_b7 g_b7 g_tb7 (by first | omega | (simp only [List.length_append, List.length_cons, List.length_nil, own_u2, own_u4] at *; omega))) dK rfl rfl (lenOf pd_0 rfl) (Nat.le_of_eq rfl) rfl dD dD dD dD rfl (fun _ L14 T14 X14 hQ14 => ?_)
  obtain ⟨rfl, Nq14, K14, Yq14_0⟩ := hQ14
  have N14 := Fr.app N13 Nq14
  have sk14 : ∀ x ∈ ([b7, tb7] : List Addr), Safe Z own_EL T6.vm T13.heap x := (sfS (Safe.exa B6.hZ.alike Y_b7.1 dD dD) (sfS S_tb7 sf0))
  have S_tb7 := Safe.keep K14 sk14 DD.ch S_tb7
  have DD := DD.keep K14 sk14
  have Y_wr := Y_wr.keep K14 (ninS ne_wr_b7 (ninS ne_wr_tb7 nin0))
  have Y_fi := Y_fi.keep K14 (ninS ne_fi_b7 (ninS ne_fi_tb7 nin0)) (ninS ne_tf_b7 (ninS ne_tf_tb7 nin0))
  have Y_me := Y_me.keep K14 (ninS ne_me_b7 (ninS ne_me_tb7 nin0)) (ninS ne_tm_b7 (ninS ne_tm_tb7 nin0))
  have ZH := Nat.le_trans ZH K14.1
  have KK := KK.trans K14 (allS (Or.inr sz_b7) (allS (Or.inr sz_tb7) all0))
  have Y_b7 := Yq14_0
  refine g_aloadN (k := 3) (q := 64) B6 X14 dK rfl rfl rfl ?_
  refine g_iloadN (k := 1) (q := 65) B6 X14 dK rfl rfl ?_
  refine g_callV (i := 33) (W := 0) (q := 68) (a := b7) (argsL := [(.int (Int32.ofNat (((((0 + 1) + 1) + 1) + 1) + 1)))]) (rest := []) B6 X14 (y := yy0) (kw hw 185 rfl) (kw hw 132 rfl) (kw hw 134 rfl) (kw hw 133 rfl) (kw hw 27 rfl) (kw hw 135 rfl) dD rfl Y_b7.1 (rmU2 l Z a0 hw [] b7 tb7 (((((([] ++ own_u4 (-889275714 : Int32)) ++ own_u2 (0 : Int32)) ++ own_u2 (61 : Int32)) ++ own_u2 (Int32.ofNat ((((((((0 + 1) + 1) + 1) + 1) + 1) + 1) + 1) + 1))) ++ own_es7) ++ own_u2 (49 : Int32)) (Int32.ofNat (((((0 + 1) + 1) + 1) + 1) + 1)) T14.heap n0 ZH Y_b7 g_b7 g_tb7 (by first | omega | (simp only [List.length_append, List.length_cons, List.length_nil, own_u2, own_u4] at *; omega))) dK rfl rfl (lenOf pd_0 rfl) (Nat.le_of_eq rfl) rfl dD dD dD dD rfl (fun _ L15 T15 X15 hQ15 => ?_)
  obtain ⟨rfl, Nq15, K15, Yq15_0⟩ := hQ15
  have N15 := Fr.app N14 Nq15
  have sk15 : ∀ x ∈ ([b7, tb7] : List Addr), Safe Z own_EL T6.vm T14.heap x := (sfS (Safe.exa B6.hZ.alike Y_b7.1 dD dD) (sfS S_tb7 sf0))
  have S_tb7 := Safe.keep K15 sk15 DD.ch S_tb7
  have DD := DD.keep K15 sk15
  have Y_wr := Y_wr.keep K15 (ninS ne_wr_b7 (ninS ne_wr_tb7 nin0))
  have Y_fi := Y_fi.keep K15 (ninS ne_fi_b7 (ninS ne_fi_tb7 nin0)) (ninS ne_tf_b7 (ninS ne_tf_tb7 nin0))
  have Y_me := Y_me.keep K15 (ninS ne_me_b7 (ninS ne_me_tb7 nin0)) (ninS ne_tm_b7 (ninS ne_tm_tb7 nin0))
  have ZH := Nat.le_trans ZH K15.1
  have KK := KK.trans K15 (allS (Or.inr sz_b7) (allS (Or.inr sz_tb7) all0))
  have Y_b7 := Yq15_0
  refine g_aloadN (k := 3) (q := 69) B6 X15 dK rfl rfl rfl ?_
  refine g_iloadN (k := 2) (q := 70) B6 X15 dK rfl rfl ?_
  refine g_callV (i := 33) (W := 0) (q := 73) (a := b7) (argsL := [(.int (Int32.ofNat (((((((0 + 1) + 1) + 1) + 1) + 1) + 1) + 1)))]) (rest := []) B6 X15 (y := yy0) (kw hw 185 rfl) (kw hw 132 rfl) (kw hw 134 rfl) (kw hw 133 rfl) (kw hw 27 rfl) (kw hw 135 rfl) dD rfl Y_b7.1 (rmU2 l Z a0 hw [] b7 tb7 ((((((([] ++ own_u4 (-889275714 : Int32)) ++ own_u2 (0 : Int32)) ++ own_u2 (61 : Int32)) ++ own_u2 (Int32.ofNat ((((((((0 + 1) + 1) + 1) + 1) + 1) + 1) + 1) + 1))) ++ own_es7) ++ own_u2 (49 : Int32)) ++ own_u2 (Int32.ofNat (((((0 + 1) + 1) + 1) + 1) + 1))) (Int32.ofNat (((((((0 + 1) + 1) + 1) + 1) + 1) + 1) + 1)) T15.heap n0 ZH Y_b7 g_b7 g_tb7 (by first | omega | (simp only [List.length_append, List.length_cons, List.length_nil, own_u2, own_u4] at *; omega))) dK rfl rfl (lenOf pd_0 rfl) (Nat.le_of_eq rfl) rfl dD dD dD dD rfl (fun _ L16 T16 X16 hQ16 => ?_)
  obtain ⟨rfl, Nq16, K16, Yq16_0⟩ := hQ16
  have N16 := Fr.app N15 Nq16
  have sk16 : ∀ x ∈ ([b7, tb7] : List Addr), Safe Z own_EL T6.vm T15.heap x := (sfS (Safe.exa B6.hZ.alike Y_b7.1 dD dD) (sfS S_tb7 sf0))
  have S_tb7 := Safe.keep K16 sk16 DD.ch S_tb7
  have DD := DD.keep K16 sk16
  have Y_wr := Y_wr.keep K16 (ninS ne_wr_b7 (ninS ne_wr_tb7 nin0))
  have Y_fi := Y_fi.keep K16 (ninS ne_fi_b7 (ninS ne_fi_tb7 nin0)) (ninS ne_tf_b7 (ninS ne_tf_tb7 nin0))
  have Y_me := Y_me.keep K16 (ninS ne_me_b7 (ninS ne_me_tb7 nin0)) (ninS ne_tm_b7 (ninS ne_tm_tb7 nin0))
  have ZH := Nat.le_trans ZH K16.1
  have KK := KK.trans K16 (allS (Or.inr sz_b7) (allS (Or.inr sz_tb7) all0))
  have Y_b7 := Yq16_0
  refine g_aloadN (k := 3) (q := 74) B6 X16 dK rfl rfl rfl ?_
  refine g_iconst (o := 0) (q := 75) (v := 0) B6 X16 dK rfl rfl ?_
  refine g_callV (i := 33) (W := 0) (q := 78) (a := b7) (argsL := [(.int (0 : Int32))]) (rest := []) B6 X16 (y := yy0) (kw hw 185 rfl) (kw hw 132 rfl) (kw hw 134 rfl) (kw hw 133 rfl) (kw hw 27 rfl) (kw hw 135 rfl) dD rfl Y_b7.1 (rmU2 l Z a0 hw [] b7 tb7 (((((((([] ++ own_u4 (-889275714 : Int32)) ++ own_u2 (0 : Int32)) ++ own_u2 (61 : Int32)) ++ own_u2 (Int32.ofNat ((((((((0 + 1) + 1) + 1) + 1) + 1) + 1) + 1) + 1))) ++ own_es7) ++ own_u2 (49 : Int32)) ++ own_u2 (Int32.ofNat (((((0 + 1) + 1) + 1) + 1) + 1))) ++ own_u2 (Int32.ofNat (((((((0 + 1) + 1) + 1) + 1) + 1) + 1) + 1))) (0 : Int32) T16.heap n0 ZH Y_b7 g_b7 g_tb7 (by first | omega | (simp only [List.length_append, List.length_cons, List.length_nil, own_u2, own_u4] at *; omega))) dK rfl rfl (lenOf pd_0 rfl) (Nat.le_of_eq rfl) rfl dD dD dD dD rfl (fun _ L17 T17 X17 hQ17 => ?_)
  obtain ⟨rfl, Nq17, K17, Yq17_0⟩ := hQ17
  have N17 := Fr.app N16 Nq17
  have sk17 : ∀ x ∈ ([b7, tb7] : List Addr), Safe Z own_EL T6.vm T16.heap x := (sfS (Safe.exa B6.hZ.alike Y_b7.1 dD dD) (sfS S_tb7 sf0))
  have S_tb7 := Safe.keep K17 sk17 DD.ch S_tb7
  have DD := DD.keep K17 sk17
  have Y_wr := Y_wr.keep K17 (ninS ne_wr_b7 (ninS ne_wr_tb7 nin0))
  have Y_fi := Y_fi.keep K17 (ninS ne_fi_b7 (ninS ne_fi_tb7 nin0)) (ninS ne_tf_b7 (ninS ne_tf_tb7 nin0))
  have Y_me := Y_me.keep K17 (ninS ne_me_b7 (ninS ne_me_tb7 nin0)) (ninS ne_tm_b7 (ninS ne_tm_tb7 nin0))
  have ZH := Nat.le_trans ZH K17.1
  have KK := KK.trans K17 (allS (Or.inr sz_b7) (allS (Or.inr sz_tb7) all0))
  have Y_b7 := Yq17_0
  refine g_aloadN (k := 3) (q := 79) B6 X17 dK rfl rfl rfl ?_
  refine g_aloadN (k := 0) (q := 80) B6 X17 dK rfl rfl rfl ?_
  refine g_getF (i := 41) (q := 83) B6 X17 (host := "") (Or.inl (kw hw 565 rfl)) Via.refl rfl Y_wr.2.2.2.2.2.2.2.1 dK rfl (fun T18 X18 e18 => ?_)
  refine g_callV (i := 33) (W := 0) (q := 86) (a := b7) (argsL := [(.int (0 : Int32))]) (rest := []) B6 X18 (y := yy0) (kw hw 185 rfl) (kw hw 132 rfl) (kw hw 134 rfl) (kw hw 133 rfl) (kw hw 27 rfl) (kw hw 135 rfl) dD e18 Y_b7.1 (rmU2 l Z a0 hw [] b7 tb7 ((((((((([] ++ own_u4 (-889275714 : Int32)) ++ own_u2 (0 : Int32)) ++ own_u2 (61 : Int32)) ++ own_u2 (Int32.ofNat ((((((((0 + 1) + 1) + 1) + 1) + 1) + 1) + 1) + 1))) ++ own_es7) ++ own_u2 (49 : Int32)) ++ own_u2 (Int32.ofNat (((((0 + 1) + 1) + 1) + 1) + 1))) ++ own_u2 (Int32.ofNat (((((((0 + 1) + 1) + 1) + 1) + 1) + 1) + 1))) ++ own_u2 (0 : Int32)) (0 : Int32) T17.heap n0 ZH Y_b7 g_b7 g_tb7 (by first | omega | (simp only [List.length_append, List.length_cons, List.length_nil, own_u2, own_u4] at *; omega))) dK rfl rfl (lenOf pd_0 rfl) (Nat.le_of_eq rfl) rfl dD dD dD dD rfl (fun _ L19 T19 X19 hQ19 => ?_)
  obtain ⟨rfl, Nq19, K19, Yq19_0⟩ := hQ19
  have N19 := Fr.app N17 Nq19
  have sk19 : ∀ x ∈ ([b7, tb7] : List Addr), Safe Z own_EL T6.vm T17.heap x := (sfS (Safe.exa B6.hZ.alike Y_b7.1 dD dD) (sfS S_tb7 sf0))
  have S_tb7 := Safe.keep K19 sk19 DD.ch S_tb7
  have DD := DD.keep K19 sk19
  have Y_wr := Y_wr.keep K19 (ninS ne_wr_b7 (ninS ne_wr_tb7 nin0))
  have Y_fi := Y_fi.keep K19 (ninS ne_fi_b7 (ninS ne_fi_tb7 nin0)) (ninS ne_tf_b7 (ninS ne_tf_tb7 nin0))
  have Y_me := Y_me.keep K19 (ninS ne_me_b7 (ninS ne_me_tb7 nin0)) (ninS ne_tm_b7 (ninS ne_tm_tb7 nin0))
  have ZH := Nat.le_trans ZH K19.1
  have KK := KK.trans K19 (allS (Or.inr sz_b7) (allS (Or.inr sz_tb7) all0))
  have Y_b7 := Yq19_0
  refine g_aloadN (k := 3) (q := 87) B6 X19 dK rfl rfl rfl ?_
  refine g_aloadN (k := 0) (q := 88) B6 X19 dK rfl rfl rfl ?_
  refine g_getF (i := 19) (q := 91) B6 X19 (host := "") (Or.inl (kw hw 58 rfl)) Via.refl rfl Y_wr.2.2.1 dK rfl (fun T20 X20 e20 => ?_)
  refine g_callV (i := 109) (W := 0) (q := 94) (a := b7) (argsL := [(.ref fi)]) (rest := []) B6 X20 (y := yy9) (kw hw 499 rfl) (kw hw 389 rfl) (kw hw 391 rfl) (kw hw 390 rfl) (kw hw 27 rfl) (kw hw 392 rfl) dD e20 Y_b7.1 (rmAp l Z a0 hw [] b7 tb7 (((((((((([] ++ own_u4 (-889275714 : Int32)) ++ own_u2 (0 : Int32)) ++ own_u2 (61 : Int32)) ++ own_u2 (Int32.ofNat ((((((((0 + 1) + 1) + 1) + 1) + 1) + 1) + 1) + 1))) ++ own_es7) ++ own_u2 (49 : Int32)) ++ own_u2 (Int32.ofNat (((((0 + 1) + 1) + 1) + 1) + 1))) ++ own_u2 (Int32.ofNat (((((((0 + 1) + 1) + 1) + 1) + 1) + 1) + 1))) ++ own_u2 (0 : Int32)) ++ own_u2 (0 : Int32)) fi tf [] T19.heap n0 ZH Y_b7 g_b7 g_tb7 Y_fi own_bl.nil dD (Ne.symm ne_fi_b7) (Ne.symm ne_tf_b7) (Ne.symm ne_fi_tb7) (Ne.symm ne_tf_tb7) (by first | omega | (simp only [List.length_append, List.length_cons, List.length_nil, own_u2, own_u4] at *; omega))) dK rfl rfl (lenOf pd_39 rfl) (Nat.le_of_eq rfl) rfl dD dD dD dD rfl (fun _ L21 T21 X21 hQ21 => ?_)
  obtain ⟨rfl, Nq21, K21, Yq21_0⟩ := hQ21
  have N21 := Fr.app N19 Nq21
  have sk21 : ∀ x ∈ ([b7, tb7] : List Addr), Safe Z own_EL T6.vm T19.heap x := (sfS (Safe.exa B6.hZ.alike Y_b7.1 dD dD) (sfS S_tb7 sf0))
  have S_tb7 := Safe.keep K21 sk21 DD.ch S_tb7
  have DD := DD.keep K21 sk21
  have Y_wr := Y_wr.keep K21 (ninS ne_wr_b7 (ninS ne_wr_tb7 nin0))
  have Y_me := Y_me.keep K21 (ninS ne_me_b7 (ninS ne_me_tb7 nin0)) (ninS ne_tm_b7 (ninS ne_tm_tb7 nin0))
  have ZH := Nat.le_trans ZH K21.1
  have KK := KK.trans K21 (allS (Or.inr sz_b7) (allS (Or.inr sz_tb7) all0))
  have Y_b7 := Yq21_0
  refine g_aloadN (k := 3) (q := 95) B6 X21 dK rfl rfl rfl ?_
  refine g_aloadN (k := 0) (q := 96) B6 X21 dK rfl rfl rfl ?_
  refine g_getF (i := 116) (q := 99) B6 X21 (host := "") (Or.inl (kw hw 500 rfl)) Via.refl rfl Y_wr.2.2.2.2.2.2.1 dK rfl (fun T22 X22 e22 => ?_)
  refine g_callV (i := 33) (W := 0) (q := 102) (a := b7) (argsL := [(.int (1 : Int32))]) (rest := []) B6 X22 (y := yy0) (kw hw 185 rfl) (kw hw 132 rfl) (kw hw 134 rfl) (kw hw 133 rfl) (kw hw 27 rfl) (kw hw 135 rfl) dD e22 Y_b7.1 (rmU2 l Z a0 hw [] b7 tb7 ((((((((((([] ++ own_u4 (-889275714 : Int32)) ++ own_u2 (0 : Int32)) ++ own_u2 (61 : Int32)) ++ own_u2 (Int32.ofNat ((((((((0 + 1) + 1) + 1) + 1) + 1) + 1) + 1) + 1))) ++ own_es7) ++ own_u2 (49 : Int32)) ++ own_u2 (Int32.ofNat (((((0 + 1) + 1) + 1) + 1) + 1))) ++ own_u2 (Int32.ofNat (((((((0 + 1) + 1) + 1) + 1) + 1) + 1) + 1))) ++ own_u2 (0 : Int32)) ++ own_u2 (0 : Int32)) ++ []) (1 : Int32) T21.heap n0 ZH Y_b7 g_b7 g_tb7 (by first | omega | (simp only [List.length_append, List.length_cons, List.length_nil, own_u2, own_u4] at *; omega))) dK rfl rfl (lenOf pd_0 rfl) (Nat.le_of_eq rfl) rfl dD dD dD dD rfl (fun _ L23 T23 X23 hQ23 => ?_)
  obtain ⟨rfl, Nq23, K23, Yq23_0⟩ := hQ23
  have N23 := Fr.app N21 Nq23
  have sk23 : ∀ x ∈ ([b7, tb7] : List Addr), Safe Z own_EL T6.vm T21.heap x := (sfS (Safe.exa B6.hZ.alike Y_b7.1 dD dD) (sfS S_tb7 sf0))
  have S_tb7 := Safe.keep K23 sk23 DD.ch S_tb7
  have DD := DD.keep K23 sk23
  have Y_wr := Y_wr.keep K23 (ninS ne_wr_b7 (ninS ne_wr_tb7 nin0))
  have Y_me := Y_me.keep K23 (ninS ne_me_b7 (ninS ne_me_tb7 nin0)) (ninS ne_tm_b7 (ninS ne_tm_tb7 nin0))
  have ZH := Nat.le_trans ZH K23.1
  have KK := KK.trans K23 (allS (Or.inr sz_b7) (allS (Or.inr sz_tb7) all0))
  have Y_b7 := Yq23_0
  refine g_aloadN (k := 3) (q := 103) B6 X23 dK rfl rfl rfl ?_
  refine g_aloadN (k := 0) (q := 104) B6 X23 dK rfl rfl rfl ?_
  refine g_getF (i := 23) (q := 107) B6 X23 (host := "") (Or.inl (kw hw 60 rfl)) Via.refl rfl Y_wr.2.2.2.1 dK rfl (fun T24 X24 e24 => ?_)
  refine g_callV (i := 109) (W := 0) (q := 110) (a := b7) (argsL := [(.ref me)]) (rest := []) B6 X24 (y := yy9) (kw hw 499 rfl) (kw hw 389 rfl) (kw hw 391 rfl) (kw hw 390 rfl) (kw hw 27 rfl) (kw hw 392 rfl) dD e24 Y_b7.1 (rmAp l Z a0 hw [] b7 tb7 (((((((((((([] ++ own_u4 (-889275714 : Int32)) ++ own_u2 (0 : Int32)) ++ own_u2 (61 : Int32)) ++ own_u2 (Int32.ofNat ((((((((0 + 1) + 1) + 1) + 1) + 1) + 1) + 1) + 1))) ++ own_es7) ++ own_u2 (49 : Int32)) ++ own_u2 (Int32.ofNat (((((0 + 1) + 1) + 1) + 1) + 1))) ++ own_u2 (Int32.ofNat (((((((0 + 1) + 1) + 1) + 1) + 1) + 1) + 1))) ++ own_u2 (0 : Int32)) ++ own_u2 (0 : Int32)) ++ []) ++ own_u2 (1 : Int32)) me tm md T23.heap n0 ZH Y_b7 g_b7 g_tb7 Y_me hbm (by omega) (Ne.symm ne_me_b7) (Ne.symm ne_tm_b7) (Ne.symm ne_me_tb7) (Ne.symm ne_tm_tb7) (by first | omega | (simp only [List.length_append, List.length_cons, List.length_nil, own_u2, own_u4] at *; omega))) dK rfl rfl (lenOf pd_39 rfl) (Nat.le_of_eq rfl) rfl dD dD dD dD rfl (fun _ L25 T25 X25 hQ25 => ?_)
  obtain ⟨rfl, Nq25, K25, Yq25_0⟩ := hQ25
  have N25 := Fr.app N23 Nq25
  have sk25 : ∀ x ∈ ([b7, tb7] : List Addr), Safe Z own_EL T6.vm T23.heap x := (sfS (Safe.exa B6.hZ.alike Y_b7.1 dD dD) (sfS S_tb7 sf0))
  have S_tb7 := Safe.keep K25 sk25 DD.ch S_tb7
  have DD := DD.keep K25 sk25
  have ZH := Nat.le_trans ZH K25.1
  have KK := KK.trans K25 (allS (Or.inr sz_b7) (allS (Or.inr sz_tb7) all0))
  have Y_b7 := Yq25_0
  refine g_aloadN (k := 3) (q := 111) B6 X25 dK rfl rfl rfl ?_
  refine g_iconst (o := 0) (q := 112) (v := 0) B6 X25 dK rfl rfl ?_
  refine g_callV (i := 33) (W := 0) (q := 115) (a := b7) (argsL := [(.int (0 : Int32))]) (rest := []) B6 X25 (y := yy0) (kw hw 185 rfl) (kw hw 132 rfl) (kw hw 134 rfl) (kw hw 133 rfl) (kw hw 27 rfl) (kw hw 135 rfl) dD rfl Y_b7.1 (rmU2 l Z a0 hw [] b7 tb7 ((((((((((((([] ++ own_u4 (-889275714 : Int32)) ++ own_u2 (0 : Int32)) ++ own_u2 (61 : Int32)) ++ own_u2 (Int32.ofNat ((((((((0 + 1) + 1) + 1) + 1) + 1) + 1) + 1) + 1))) ++ own_es7) ++ own_u2 (49 : Int32)) ++ own_u2 (Int32.ofNat (((((0 + 1) + 1) + 1) + 1) + 1))) ++ own_u2 (Int32.ofNat (((((((0 + 1) + 1) + 1) + 1) + 1) + 1) + 1))) ++ own_u2 (0 : Int32)) ++ own_u2 (0 : Int32)) ++ []) ++ own_u2 (1 : Int32)) ++ md) (0 : Int32) T25.heap n0 ZH Y_b7 g_b7 g_tb7 (by first | omega | (simp only [List.length_append, List.length_cons, List.length_nil, own_u2, own_u4] at *; omega))) dK rfl rfl (lenOf pd_0 rfl) (Nat.le_of_eq rfl) rfl dD dD dD dD rfl (fun _ L26 T26 X26 hQ26 => ?_)
  obtain ⟨rfl, Nq26, K26, Yq26_0⟩ := hQ26
  have N26 := Fr.app N25 Nq26
  have sk26 : ∀ x ∈ ([b7, tb7] : List Addr), Safe Z own_EL T6.vm T25.heap x := (sfS (Safe.exa B6.hZ.alike Y_b7.1 dD dD) (sfS S_tb7 sf0))
  have DD := DD.keep K26 sk26
  have ZH := Nat.le_trans ZH K26.1
  have KK := KK.trans K26 (allS (Or.inr sz_b7) (allS (Or.inr sz_tb7) all0))
  have Y_b7 := Yq26_0
  refine g_aloadN (k := 3) (q := 116) B6 X26 dK rfl rfl rfl ?_
  refine g_callV (i := 196) (W := 0) (q := 119) (a := b7) (argsL := []) (rest := []) B6 X26 (y := yy85) (kw hw 567 rfl) (kw hw 568 rfl) (kw hw 570 rfl) (kw hw 569 rfl) (kw hw 27 rfl) (kw hw 571 rfl) dD rfl Y_b7.1 (rmTA l Z a0 hw [] b7 tb7 (((((((((((((([] ++ own_u4 (-889275714 : Int32)) ++ own_u2 (0 : Int32)) ++ own_u2 (61 : Int32)) ++ own_u2 (Int32.ofNat ((((((((0 + 1) + 1) + 1) + 1) + 1) + 1) + 1) + 1))) ++ own_es7) ++ own_u2 (49 : Int32)) ++ own_u2 (Int32.ofNat (((((0 + 1) + 1) + 1) + 1) + 1))) ++ own_u2 (Int32.ofNat (((((((0 + 1) + 1) + 1) + 1) + 1) + 1) + 1))) ++ own_u2 (0 : Int32)) ++ own_u2 (0 : Int32)) ++ []) ++ own_u2 (1 : Int32)) ++ md) ++ own_u2 (0 : Int32)) T26.heap n0 ZH Y_b7 (own_bl.app (own_bl.app (own_bl.app (own_bl.app (own_bl.app (own_bl.app (own_bl.app (own_bl.app (own_bl.app (own_bl.app (own_bl.app (own_bl.app (own_bl.app (own_bl.app own_bl.nil (own_bl4 _)) (own_bl2 _)) (own_bl2 _)) (own_bl2 _)) hb7) (own_bl2 _)) (own_bl2 _)) (own_bl2 _)) (own_bl2 _)) (own_bl2 _)) own_bl.nil) (own_bl2 _)) hbm) (own_bl2 _)) (by first | omega | (simp only [List.length_append, List.length_cons, List.length_nil, own_u2, own_u4] at *; omega))) dK rfl rfl (lenOf pd_22 rfl) (Nat.le_of_eq rfl) rfl dD dD dD dD rfl (fun _ L27 T27 X27 hQ27 => ?_)
  obtain ⟨r27, rfl, Nq27, K27, szr27, G_r27⟩ := hQ27
  have N27 := Fr.app N26 Nq27
  have sk27 : ∀ x ∈ ([] : List Addr), Safe Z own_EL T6.vm T26.heap x := sf0
  have DD := DD.keep K27 sk27
  have KK := KK.trans K27 all0
  exact g_wretA B6 X27 DD (own_EWS hw).ew hh rfl rfl rfl dK dD dD rfl (by
    exact ⟨r27, _, rfl, N27, KK, by simp only [List.length_append, List.length_cons, List.length_nil, own_u2, own_u4, own_es7l], G_r27⟩)
theorem own_Gl {Z : State} {h : Heap} {a : Addr} {ty : FieldType} {n k : Nat} {f : Nat → Value} (G : own_Arf Z h a ty (Int32.ofNat n) f) (e : n = k) : own_Arf Z h a ty (Int32.ofNat k) f := e ▸ G
def own_v3 (vp : Int32) (cs0 : List Int32) (f : Int32) : Prop := (vp = 0 ∧ cs0 = []) ∨ (vp = 1 ∧ cs0 = ([] ++ [own_b8 f])) ∨ (vp = 2 ∧ cs0 = (([] ++ [own_b8 f]) ++ [own_b8 f])) ∨ (vp = 3 ∧ cs0 = ((([] ++ [own_b8 f]) ++ [own_b8 f]) ++ [own_b8 f]))
theorem own_v3l {vp f : Int32} {cs0 : List Int32} (h : own_v3 vp cs0 f) : cs0.length ≤ 3 := by
  rcases h with ⟨-, rfl⟩ | ⟨-, rfl⟩ | ⟨-, rfl⟩ | ⟨-, rfl⟩ <;> simp
theorem own_csb {vp f a b : Int32} {cs0 : List Int32} (h : own_v3 vp cs0 f) : own_bl (((cs0 ++ [own_b8 a]) ++ own_u2 (0 : Int32)) ++ [own_b8 b]) := by
  have q : own_bl cs0 := by
    rcases h with ⟨-, rfl⟩ | ⟨-, rfl⟩ | ⟨-, rfl⟩ | ⟨-, rfl⟩
    · exact own_bl.nil
    · exact own_bl.nil.app (own_bl1 f)
    · exact (own_bl.nil.app (own_bl1 f)).app (own_bl1 f)
    · exact ((own_bl.nil.app (own_bl1 f)).app (own_bl1 f)).app (own_bl1 f)
  exact ((q.app (own_bl1 a)).app (own_bl2 0)).app (own_bl1 b)
theorem own_and3 {x v : Int32} (h : v = (x &&& (3 : Int32))) : v = 0 ∨ v = 1 ∨ v = 2 ∨ v = 3 := by
  subst h
  have e : ∀ b : BitVec 32, (b &&& 3#32) = 0#32 ∨ (b &&& 3#32) = 1#32 ∨ (b &&& 3#32) = 2#32 ∨ (b &&& 3#32) = 3#32 := fun b => by
    have h3 : (b &&& 3#32).toNat = b.toNat % 4 := by rw [BitVec.toNat_and]; exact Nat.and_two_pow_sub_one_eq_mod b.toNat 2
    have : b.toNat % 4 = 0 ∨ b.toNat % 4 = 1 ∨ b.toNat % 4 = 2 ∨ b.toNat % 4 = 3 := by omega
    rcases this with q | q | q | q
    · exact Or.inl (BitVec.eq_of_toNat_eq (h3.trans q))
    · exact Or.inr (Or.inl (BitVec.eq_of_toNat_eq (h3.trans q)))
    · exact Or.inr (Or.inr (Or.inl (BitVec.eq_of_toNat_eq (h3.trans q))))
    · exact Or.inr (Or.inr (Or.inr (BitVec.eq_of_toNat_eq (h3.trans q))))
  rcases e x.toBitVec with q | q | q | q
  · exact Or.inl (Int32.toBitVec_inj.mp q)
  · exact Or.inr (Or.inl (Int32.toBitVec_inj.mp q))
  · exact Or.inr (Or.inr (Or.inl (Int32.toBitVec_inj.mp q)))
  · exact Or.inr (Or.inr (Or.inr (Int32.toBitVec_inj.mp q)))
theorem own_msl (n : Nat) (cs : List Int32) : (own_ms n cs).length = 26 + cs.length := by
  simp only [own_ms, List.length_append, List.length_cons, List.length_nil, own_u2, own_u4]; omega
theorem own_msb {n : Nat} {cs : List Int32} (h : own_bl cs) : own_bl (own_ms n cs) :=
  (((((((((((own_bl.nil.app (own_bl2 _)).app (own_bl2 _)).app (own_bl2 _)).app (own_bl2 _)).app (own_bl2 _)).app (own_bl4 _)).app (own_bl2 _)).app (own_bl2 _)).app (own_bl4 _)).app h).app (own_bl2 _)).app (own_bl2 _)
theorem own_Lr (P A : List Int32) (j : Nat) : own_L (P ++ A) (P.length + j) = own_L A j := by
  unfold own_L
  rw [List.getD_eq_getElem?_getD, List.getD_eq_getElem?_getD, List.getElem?_append_right (by omega)]
  congr 2; omega
theorem own_rd {P : List Int32} (hP : P.length = 68) (n : Nat) (cs : List Int32) (j : Nat) : own_L ((P ++ own_ms n cs) ++ own_u2 (0 : Int32)) (86 + j) = own_L (own_u4 (Int32.ofNat n) ++ (cs ++ [0, 0, 0, 0, 0, 0])) j := by
  have z : own_u2 (0 : Int32) = [0, 0] := by decide
  have e : own_ms n cs = ((((((((([] ++ own_u2 (1 : Int32)) ++ own_u2 (Int32.ofNat (0 + 1))) ++ own_u2 (Int32.ofNat ((0 + 1) + 1))) ++ own_u2 (1 : Int32)) ++ own_u2 (Int32.ofNat (((0 + 1) + 1) + 1))) ++ own_u4 (((12 : Int32) + (Int32.ofNat n)) + (0 : Int32))) ++ own_u2 (1 : Int32)) ++ own_u2 (1 : Int32))) ++ (own_u4 (Int32.ofNat n) ++ (cs ++ [0, 0, 0, 0])) := by
    unfold own_ms; rw [z]; simp only [List.append_assoc, List.cons_append, List.nil_append]
  generalize hQ : ((((((((([] ++ own_u2 (1 : Int32)) ++ own_u2 (Int32.ofNat (0 + 1))) ++ own_u2 (Int32.ofNat ((0 + 1) + 1))) ++ own_u2 (1 : Int32)) ++ own_u2 (Int32.ofNat (((0 + 1) + 1) + 1))) ++ own_u4 (((12 : Int32) + (Int32.ofNat n)) + (0 : Int32))) ++ own_u2 (1 : Int32)) ++ own_u2 (1 : Int32))) = Q at e
  have hq : Q.length = 18 := by rw [← hQ]; rfl
  rw [e, z, show (P ++ (Q ++ (own_u4 (Int32.ofNat n) ++ (cs ++ [0, 0, 0, 0])))) ++ [0, 0] = (P ++ Q) ++ (own_u4 (Int32.ofNat n) ++ (cs ++ [0, 0, 0, 0, 0, 0])) from by simp only [List.append_assoc, List.cons_append, List.nil_append], show 86 + j = (P ++ Q).length + j from by rw [List.length_append, hP, hq]]
  exact own_Lr _ _ j
theorem own_rk0 {P : List Int32} (hP : P.length = 68) (a f b : Int32) : ((P ++ (own_ms ((([] ++ [own_b8 a]) ++ own_u2 (0 : Int32)) ++ [own_b8 b]).length ((([] ++ [own_b8 a]) ++ own_u2 (0 : Int32)) ++ [own_b8 b]))) ++ own_u2 (0 : Int32)).length = 100 ∧ own_L ((P ++ (own_ms ((([] ++ [own_b8 a]) ++ own_u2 (0 : Int32)) ++ [own_b8 b]).length ((([] ++ [own_b8 a]) ++ own_u2 (0 : Int32)) ++ [own_b8 b]))) ++ own_u2 (0 : Int32)) 86 = 0 ∧ own_L ((P ++ (own_ms ((([] ++ [own_b8 a]) ++ own_u2 (0 : Int32)) ++ [own_b8 b]).length ((([] ++ [own_b8 a]) ++ own_u2 (0 : Int32)) ++ [own_b8 b]))) ++ own_u2 (0 : Int32)) 87 = 0 ∧ own_L ((P ++ (own_ms ((([] ++ [own_b8 a]) ++ own_u2 (0 : Int32)) ++ [own_b8 b]).length ((([] ++ [own_b8 a]) ++ own_u2 (0 : Int32)) ++ [own_b8 b]))) ++ own_u2 (0 : Int32)) 88 = 0 ∧ own_L ((P ++ (own_ms ((([] ++ [own_b8 a]) ++ own_u2 (0 : Int32)) ++ [own_b8 b]).length ((([] ++ [own_b8 a]) ++ own_u2 (0 : Int32)) ++ [own_b8 b]))) ++ own_u2 (0 : Int32)) 89 = 4 ∧ own_L ((P ++ (own_ms ((([] ++ [own_b8 a]) ++ own_u2 (0 : Int32)) ++ [own_b8 b]).length ((([] ++ [own_b8 a]) ++ own_u2 (0 : Int32)) ++ [own_b8 b]))) ++ own_u2 (0 : Int32)) 90 = a.toInt8.toInt32 ∧ own_L ((P ++ (own_ms ((([] ++ [own_b8 a]) ++ own_u2 (0 : Int32)) ++ [own_b8 b]).length ((([] ++ [own_b8 a]) ++ own_u2 (0 : Int32)) ++ [own_b8 b]))) ++ own_u2 (0 : Int32)) 91 = 0 ∧ own_L ((P ++ (own_ms ((([] ++ [own_b8 a]) ++ own_u2 (0 : Int32)) ++ [own_b8 b]).length ((([] ++ [own_b8 a]) ++ own_u2 (0 : Int32)) ++ [own_b8 b]))) ++ own_u2 (0 : Int32)) 92 = 0 ∧ own_L ((P ++ (own_ms ((([] ++ [own_b8 a]) ++ own_u2 (0 : Int32)) ++ [own_b8 b]).length ((([] ++ [own_b8 a]) ++ own_u2 (0 : Int32)) ++ [own_b8 b]))) ++ own_u2 (0 : Int32)) 93 = b.toInt8.toInt32 := by
  have z : own_u2 (0 : Int32) = [0, 0] := by decide
  have u : own_u4 (Int32.ofNat 4) = [0, 0, 0, 4] := by decide
  have h : ∀ j, own_L ((P ++ (own_ms ((([] ++ [own_b8 a]) ++ own_u2 (0 : Int32)) ++ [own_b8 b]).length ((([] ++ [own_b8 a]) ++ own_u2 (0 : Int32)) ++ [own_b8 b]))) ++ own_u2 (0 : Int32)) (86 + j) = own_L ([0, 0, 0, 4] ++ (((([] ++ [own_b8 a]) ++ [0, 0]) ++ [own_b8 b]) ++ [0, 0, 0, 0, 0, 0])) j := fun j => (own_rd hP _ _ j).trans (congrArg (fun l => own_L l j) (by show own_u4 (Int32.ofNat 4) ++ _ = _; rw [u, z]))
  exact ⟨by rw [List.length_append, List.length_append, hP, own_msl]; rfl, h 0, h 1, h 2, h 3, h 4, h 5, h 6, h 7⟩
theorem own_rk1 {P : List Int32} (hP : P.length = 68) (a f b : Int32) : ((P ++ (own_ms (((([] ++ [own_b8 f]) ++ [own_b8 a]) ++ own_u2 (0 : Int32)) ++ [own_b8 b]).length (((([] ++ [own_b8 f]) ++ [own_b8 a]) ++ own_u2 (0 : Int32)) ++ [own_b8 b]))) ++ own_u2 (0 : Int32)).length = 101 ∧ own_L ((P ++ (own_ms (((([] ++ [own_b8 f]) ++ [own_b8 a]) ++ own_u2 (0 : Int32)) ++ [own_b8 b]).length (((([] ++ [own_b8 f]) ++ [own_b8 a]) ++ own_u2 (0 : Int32)) ++ [own_b8 b]))) ++ own_u2 (0 : Int32)) 86 = 0 ∧ own_L ((P ++ (own_ms (((([] ++ [own_b8 f]) ++ [own_b8 a]) ++ own_u2 (0 : Int32)) ++ [own_b8 b]).length (((([] ++ [own_b8 f]) ++ [own_b8 a]) ++ own_u2 (0 : Int32)) ++ [own_b8 b]))) ++ own_u2 (0 : Int32)) 87 = 0 ∧ own_L ((P ++ (own_ms (((([] ++ [own_b8 f]) ++ [own_b8 a]) ++ own_u2 (0 : Int32)) ++ [own_b8 b]).length (((([] ++ [own_b8 f]) ++ [own_b8 a]) ++ own_u2 (0 : Int32)) ++ [own_b8 b]))) ++ own_u2 (0 : Int32)) 88 = 0 ∧ own_L ((P ++ (own_ms (((([] ++ [own_b8 f]) ++ [own_b8 a]) ++ own_u2 (0 : Int32)) ++ [own_b8 b]).length (((([] ++ [own_b8 f]) ++ [own_b8 a]) ++ own_u2 (0 : Int32)) ++ [own_b8 b]))) ++ own_u2 (0 : Int32)) 89 = 5 ∧ own_L ((P ++ (own_ms (((([] ++ [own_b8 f]) ++ [own_b8 a]) ++ own_u2 (0 : Int32)) ++ [own_b8 b]).length (((([] ++ [own_b8 f]) ++ [own_b8 a]) ++ own_u2 (0 : Int32)) ++ [own_b8 b]))) ++ own_u2 (0 : Int32)) 90 = f.toInt8.toInt32 ∧ own_L ((P ++ (own_ms (((([] ++ [own_b8 f]) ++ [own_b8 a]) ++ own_u2 (0 : Int32)) ++ [own_b8 b]).length (((([] ++ [own_b8 f]) ++ [own_b8 a]) ++ own_u2 (0 : Int32)) ++ [own_b8 b]))) ++ own_u2 (0 : Int32)) 91 = a.toInt8.toInt32 ∧ own_L ((P ++ (own_ms (((([] ++ [own_b8 f]) ++ [own_b8 a]) ++ own_u2 (0 : Int32)) ++ [own_b8 b]).length (((([] ++ [own_b8 f]) ++ [own_b8 a]) ++ own_u2 (0 : Int32)) ++ [own_b8 b]))) ++ own_u2 (0 : Int32)) 92 = 0 ∧ own_L ((P ++ (own_ms (((([] ++ [own_b8 f]) ++ [own_b8 a]) ++ own_u2 (0 : Int32)) ++ [own_b8 b]).length (((([] ++ [own_b8 f]) ++ [own_b8 a]) ++ own_u2 (0 : Int32)) ++ [own_b8 b]))) ++ own_u2 (0 : Int32)) 93 = 0 ∧ own_L ((P ++ (own_ms (((([] ++ [own_b8 f]) ++ [own_b8 a]) ++ own_u2 (0 : Int32)) ++ [own_b8 b]).length (((([] ++ [own_b8 f]) ++ [own_b8 a]) ++ own_u2 (0 : Int32)) ++ [own_b8 b]))) ++ own_u2 (0 : Int32)) 94 = b.toInt8.toInt32 := by
  have z : own_u2 (0 : Int32) = [0, 0] := by decide
  have u : own_u4 (Int32.ofNat 5) = [0, 0, 0, 5] := by decide
  have h : ∀ j, own_L ((P ++ (own_ms (((([] ++ [own_b8 f]) ++ [own_b8 a]) ++ own_u2 (0 : Int32)) ++ [own_b8 b]).length (((([] ++ [own_b8 f]) ++ [own_b8 a]) ++ own_u2 (0 : Int32)) ++ [own_b8 b]))) ++ own_u2 (0 : Int32)) (86 + j) = own_L ([0, 0, 0, 5] ++ ((((([] ++ [own_b8 f]) ++ [own_b8 a]) ++ [0, 0]) ++ [own_b8 b]) ++ [0, 0, 0, 0, 0, 0])) j := fun j => (own_rd hP _ _ j).trans (congrArg (fun l => own_L l j) (by show own_u4 (Int32.ofNat 5) ++ _ = _; rw [u, z]))
  exact ⟨by rw [List.length_append, List.length_append, hP, own_msl]; rfl, h 0, h 1, h 2, h 3, h 4, h 5, h 6, h 7, h 8⟩
theorem own_rk2 {P : List Int32} (hP : P.length = 68) (a f b : Int32) : ((P ++ (own_ms ((((([] ++ [own_b8 f]) ++ [own_b8 f]) ++ [own_b8 a]) ++ own_u2 (0 : Int32)) ++ [own_b8 b]).length ((((([] ++ [own_b8 f]) ++ [own_b8 f]) ++ [own_b8 a]) ++ own_u2 (0 : Int32)) ++ [own_b8 b]))) ++ own_u2 (0 : Int32)).length = 102 ∧ own_L ((P ++ (own_ms ((((([] ++ [own_b8 f]) ++ [own_b8 f]) ++ [own_b8 a]) ++ own_u2 (0 : Int32)) ++ [own_b8 b]).length ((((([] ++ [own_b8 f]) ++ [own_b8 f]) ++ [own_b8 a]) ++ own_u2 (0 : Int32)) ++ [own_b8 b]))) ++ own_u2 (0 : Int32)) 86 = 0 ∧ own_L ((P ++ (own_ms ((((([] ++ [own_b8 f]) ++ [own_b8 f]) ++ [own_b8 a]) ++ own_u2 (0 : Int32)) ++ [own_b8 b]).length ((((([] ++ [own_b8 f]) ++ [own_b8 f]) ++ [own_b8 a]) ++ own_u2 (0 : Int32)) ++ [own_b8 b]))) ++ own_u2 (0 : Int32)) 87 = 0 ∧ own_L ((P ++ (own_ms ((((([] ++ [own_b8 f]) ++ [own_b8 f]) ++ [own_b8 a]) ++ own_u2 (0 : Int32)) ++ [own_b8 b]).length ((((([] ++ [own_b8 f]) ++ [own_b8 f]) ++ [own_b8 a]) ++ own_u2 (0 : Int32)) ++ [own_b8 b]))) ++ own_u2 (0 : Int32)) 88 = 0 ∧ own_L ((P ++ (own_ms ((((([] ++ [own_b8 f]) ++ [own_b8 f]) ++ [own_b8 a]) ++ own_u2 (0 : Int32)) ++ [own_b8 b]).length ((((([] ++ [own_b8 f]) ++ [own_b8 f]) ++ [own_b8 a]) ++ own_u2 (0 : Int32)) ++ [own_b8 b]))) ++ own_u2 (0 : Int32)) 89 = 6 ∧ own_L ((P ++ (own_ms ((((([] ++ [own_b8 f]) ++ [own_b8 f]) ++ [own_b8 a]) ++ own_u2 (0 : Int32)) ++ [own_b8 b]).length ((((([] ++ [own_b8 f]) ++ [own_b8 f]) ++ [own_b8 a]) ++ own_u2 (0 : Int32)) ++ [own_b8 b]))) ++ own_u2 (0 : Int32)) 90 = f.toInt8.toInt32 ∧ own_L ((P ++ (own_ms ((((([] ++ [own_b8 f]) ++ [own_b8 f]) ++ [own_b8 a]) ++ own_u2 (0 : Int32)) ++ [own_b8 b]).length ((((([] ++ [own_b8 f]) ++ [own_b8 f]) ++ [own_b8 a]) ++ own_u2 (0 : Int32)) ++ [own_b8 b]))) ++ own_u2 (0 : Int32)) 91 = f.toInt8.toInt32 ∧ own_L ((P ++ (own_ms ((((([] ++ [own_b8 f]) ++ [own_b8 f]) ++ [own_b8 a]) ++ own_u2 (0 : Int32)) ++ [own_b8 b]).length ((((([] ++ [own_b8 f]) ++ [own_b8 f]) ++ [own_b8 a]) ++ own_u2 (0 : Int32)) ++ [own_b8 b]))) ++ own_u2 (0 : Int32)) 92 = a.toInt8.toInt32 ∧ own_L ((P ++ (own_ms ((((([] ++ [own_b8 f]) ++ [own_b8 f]) ++ [own_b8 a]) ++ own_u2 (0 : Int32)) ++ [own_b8 b]).length ((((([] ++ [own_b8 f]) ++ [own_b8 f]) ++ [own_b8 a]) ++ own_u2 (0 : Int32)) ++ [own_b8 b]))) ++ own_u2 (0 : Int32)) 93 = 0 ∧ own_L ((P ++ (own_ms ((((([] ++ [own_b8 f]) ++ [own_b8 f]) ++ [own_b8 a]) ++ own_u2 (0 : Int32)) ++ [own_b8 b]).length ((((([] ++ [own_b8 f]) ++ [own_b8 f]) ++ [own_b8 a]) ++ own_u2 (0 : Int32)) ++ [own_b8 b]))) ++ own_u2 (0 : Int32)) 94 = 0 ∧ own_L ((P ++ (own_ms ((((([] ++ [own_b8 f]) ++ [own_b8 f]) ++ [own_b8 a]) ++ own_u2 (0 : Int32)) ++ [own_b8 b]).length ((((([] ++ [own_b8 f]) ++ [own_b8 f]) ++ [own_b8 a]) ++ own_u2 (0 : Int32)) ++ [own_b8 b]))) ++ own_u2 (0 : Int32)) 95 = b.toInt8.toInt32 := by
  have z : own_u2 (0 : Int32) = [0, 0] := by decide
  have u : own_u4 (Int32.ofNat 6) = [0, 0, 0, 6] := by decide
  have h : ∀ j, own_L ((P ++ (own_ms ((((([] ++ [own_b8 f]) ++ [own_b8 f]) ++ [own_b8 a]) ++ own_u2 (0 : Int32)) ++ [own_b8 b]).length ((((([] ++ [own_b8 f]) ++ [own_b8 f]) ++ [own_b8 a]) ++ own_u2 (0 : Int32)) ++ [own_b8 b]))) ++ own_u2 (0 : Int32)) (86 + j) = own_L ([0, 0, 0, 6] ++ (((((([] ++ [own_b8 f]) ++ [own_b8 f]) ++ [own_b8 a]) ++ [0, 0]) ++ [own_b8 b]) ++ [0, 0, 0, 0, 0, 0])) j := fun j => (own_rd hP _ _ j).trans (congrArg (fun l => own_L l j) (by show own_u4 (Int32.ofNat 6) ++ _ = _; rw [u, z]))
  exact ⟨by rw [List.length_append, List.length_append, hP, own_msl]; rfl, h 0, h 1, h 2, h 3, h 4, h 5, h 6, h 7, h 8, h 9⟩
theorem own_rk3 {P : List Int32} (hP : P.length = 68) (a f b : Int32) : ((P ++ (own_ms (((((([] ++ [own_b8 f]) ++ [own_b8 f]) ++ [own_b8 f]) ++ [own_b8 a]) ++ own_u2 (0 : Int32)) ++ [own_b8 b]).length (((((([] ++ [own_b8 f]) ++ [own_b8 f]) ++ [own_b8 f]) ++ [own_b8 a]) ++ own_u2 (0 : Int32)) ++ [own_b8 b]))) ++ own_u2 (0 : Int32)).length = 103 ∧ own_L ((P ++ (own_ms (((((([] ++ [own_b8 f]) ++ [own_b8 f]) ++ [own_b8 f]) ++ [own_b8 a]) ++ own_u2 (0 : Int32)) ++ [own_b8 b]).length (((((([] ++ [own_b8 f]) ++ [own_b8 f]) ++ [own_b8 f]) ++ [own_b8 a]) ++ own_u2 (0 : Int32)) ++ [own_b8 b]))) ++ own_u2 (0 : Int32)) 86 = 0 ∧ own_L ((P ++ (own_ms (((((([] ++ [own_b8 f]) ++ [own_b8 f]) ++ [own_b8 f]) ++ [own_b8 a]) ++ own_u2 (0 : Int32)) ++ [own_b8 b]).length (((((([] ++ [own_b8 f]) ++ [own_b8 f]) ++ [own_b8 f]) ++ [own_b8 a]) ++ own_u2 (0 : Int32)) ++ [own_b8 b]))) ++ own_u2 (0 : Int32)) 87 = 0 ∧ own_L ((P ++ (own_ms (((((([] ++ [own_b8 f]) ++ [own_b8 f]) ++ [own_b8 f]) ++ [own_b8 a]) ++ own_u2 (0 : Int32)) ++ [own_b8 b]).length (((((([] ++ [own_b8 f]) ++ [own_b8 f]) ++ [own_b8 f]) ++ [own_b8 a]) ++ own_u2 (0 : Int32)) ++ [own_b8 b]))) ++ own_u2 (0 : Int32)) 88 = 0 ∧ own_L ((P ++ (own_ms (((((([] ++ [own_b8 f]) ++ [own_b8 f]) ++ [own_b8 f]) ++ [own_b8 a]) ++ own_u2 (0 : Int32)) ++ [own_b8 b]).length (((((([] ++ [own_b8 f]) ++ [own_b8 f]) ++ [own_b8 f]) ++ [own_b8 a]) ++ own_u2 (0 : Int32)) ++ [own_b8 b]))) ++ own_u2 (0 : Int32)) 89 = 7 ∧ own_L ((P ++ (own_ms (((((([] ++ [own_b8 f]) ++ [own_b8 f]) ++ [own_b8 f]) ++ [own_b8 a]) ++ own_u2 (0 : Int32)) ++ [own_b8 b]).length (((((([] ++ [own_b8 f]) ++ [own_b8 f]) ++ [own_b8 f]) ++ [own_b8 a]) ++ own_u2 (0 : Int32)) ++ [own_b8 b]))) ++ own_u2 (0 : Int32)) 90 = f.toInt8.toInt32 ∧ own_L ((P ++ (own_ms (((((([] ++ [own_b8 f]) ++ [own_b8 f]) ++ [own_b8 f]) ++ [own_b8 a]) ++ own_u2 (0 : Int32)) ++ [own_b8 b]).length (((((([] ++ [own_b8 f]) ++ [own_b8 f]) ++ [own_b8 f]) ++ [own_b8 a]) ++ own_u2 (0 : Int32)) ++ [own_b8 b]))) ++ own_u2 (0 : Int32)) 91 = f.toInt8.toInt32 ∧ own_L ((P ++ (own_ms (((((([] ++ [own_b8 f]) ++ [own_b8 f]) ++ [own_b8 f]) ++ [own_b8 a]) ++ own_u2 (0 : Int32)) ++ [own_b8 b]).length (((((([] ++ [own_b8 f]) ++ [own_b8 f]) ++ [own_b8 f]) ++ [own_b8 a]) ++ own_u2 (0 : Int32)) ++ [own_b8 b]))) ++ own_u2 (0 : Int32)) 92 = f.toInt8.toInt32 ∧ own_L ((P ++ (own_ms (((((([] ++ [own_b8 f]) ++ [own_b8 f]) ++ [own_b8 f]) ++ [own_b8 a]) ++ own_u2 (0 : Int32)) ++ [own_b8 b]).length (((((([] ++ [own_b8 f]) ++ [own_b8 f]) ++ [own_b8 f]) ++ [own_b8 a]) ++ own_u2 (0 : Int32)) ++ [own_b8 b]))) ++ own_u2 (0 : Int32)) 93 = a.toInt8.toInt32 ∧ own_L ((P ++ (own_ms (((((([] ++ [own_b8 f]) ++ [own_b8 f]) ++ [own_b8 f]) ++ [own_b8 a]) ++ own_u2 (0 : Int32)) ++ [own_b8 b]).length (((((([] ++ [own_b8 f]) ++ [own_b8 f]) ++ [own_b8 f]) ++ [own_b8 a]) ++ own_u2 (0 : Int32)) ++ [own_b8 b]))) ++ own_u2 (0 : Int32)) 94 = 0 ∧ own_L ((P ++ (own_ms (((((([] ++ [own_b8 f]) ++ [own_b8 f]) ++ [own_b8 f]) ++ [own_b8 a]) ++ own_u2 (0 : Int32)) ++ [own_b8 b]).length (((((([] ++ [own_b8 f]) ++ [own_b8 f]) ++ [own_b8 f]) ++ [own_b8 a]) ++ own_u2 (0 : Int32)) ++ [own_b8 b]))) ++ own_u2 (0 : Int32)) 95 = 0 ∧ own_L ((P ++ (own_ms (((((([] ++ [own_b8 f]) ++ [own_b8 f]) ++ [own_b8 f]) ++ [own_b8 a]) ++ own_u2 (0 : Int32)) ++ [own_b8 b]).length (((((([] ++ [own_b8 f]) ++ [own_b8 f]) ++ [own_b8 f]) ++ [own_b8 a]) ++ own_u2 (0 : Int32)) ++ [own_b8 b]))) ++ own_u2 (0 : Int32)) 96 = b.toInt8.toInt32 := by
  have z : own_u2 (0 : Int32) = [0, 0] := by decide
  have u : own_u4 (Int32.ofNat 7) = [0, 0, 0, 7] := by decide
  have h : ∀ j, own_L ((P ++ (own_ms (((((([] ++ [own_b8 f]) ++ [own_b8 f]) ++ [own_b8 f]) ++ [own_b8 a]) ++ own_u2 (0 : Int32)) ++ [own_b8 b]).length (((((([] ++ [own_b8 f]) ++ [own_b8 f]) ++ [own_b8 f]) ++ [own_b8 a]) ++ own_u2 (0 : Int32)) ++ [own_b8 b]))) ++ own_u2 (0 : Int32)) (86 + j) = own_L ([0, 0, 0, 7] ++ ((((((([] ++ [own_b8 f]) ++ [own_b8 f]) ++ [own_b8 f]) ++ [own_b8 a]) ++ [0, 0]) ++ [own_b8 b]) ++ [0, 0, 0, 0, 0, 0])) j := fun j => (own_rd hP _ _ j).trans (congrArg (fun l => own_L l j) (by show own_u4 (Int32.ofNat 7) ++ _ = _; rw [u, z]))
  exact ⟨by rw [List.length_append, List.length_append, hP, own_msl]; rfl, h 0, h 1, h 2, h 3, h 4, h 5, h 6, h 7, h 8, h 9, h 10⟩

theorem opx0 {p : Program} {l : Launch} {e : Env} {s : State} {m : MethodId} {args : Array Value} {below : List Frame} {meth : Method} {c : Code} {Z : State} {a0 : Array Value} {n0 : Nat} {nm0 : String} {P : State → Outcome → Prop} {T0 : State} {locs : List Loc} {h0 : Heap} {p0 : Int32} {p1 : Int32} {p2 : Int32} {p3 : Int32} {wr : Addr} {c0 : Addr} {cb : Addr} {al : Addr} {tc : Addr} (B : own_C p s m c Z zz30 code 13 meth (some .boolean) nm0) (X0 : Stand p l e room_1 s m args below meth c T0 locs 17 1133) (hw : own_H a0 Z) (e0 : T0.heap = h0) (N0 : Fr n0 locs) (Z0 : n0 ≤ h0.size) (Y_c0 : own_Cd Z h0 c0 cb al) (Y_cb : own_By Z h0 cb tc []) (ne_c0_cb : c0 ≠ cb) (ne_c0_tc : c0 ≠ tc) (g_cb : n0 ≤ cb) (g_tc : n0 ≤ tc)
    (K : ∀ (T' : State) (h' : Heap) (locs' : List Loc), Stand p l e room_1 s m args below meth c T' locs' 17 1133 → T'.heap = h' → Fr n0 locs' → Keep h0 h' [cb, tc] → own_By Z h' cb tc [] → own_Go p.tables e below P (T'.setTop (mkF m 69 #[.val (.int p0), .val (.int p1), .val (.int p2), .val (.int p3), .val (.int (0 : Int32)), .val (.ref wr), .val (.ref c0), .unset, .unset, .unset, .unset, .unset, .unset] []))) : own_Go p.tables e below P (T0.setTop (mkF m 34 #[.val (.int p0), .val (.int p1), .val (.int p2), .val (.int p3), .val (.int (0 : Int32)), .val (.ref wr), .val (.ref c0), .unset, .unset, .unset, .unset, .unset, .unset] [])) := by
  have KK := Keep.refl h0 [cb, tc]
  refine g_iload (k := 4) (q := 36) B X0 dK rfl rfl ?_
  refine g_ifYes (cd := .le) (o := 9) (q := 45) B X0 dK (((if0 _ _).trans (flt (by decide : ¬ ((0 : Int32) < (0 : Int32)))).2.2.2)) dD dD ?_
  refine g_iload (k := 4) (q := 47) B X0 dK rfl rfl ?_
  refine g_iconst (o := 1) (q := 48) (v := 1) B X0 dK rfl rfl ?_
  refine g_icmpYes (cd := .le) (o := 9) (q := 57) B X0 dK ((flt (by decide : ¬ ((1 : Int32) < (0 : Int32)))).2.2.2) dD dD ?_
  refine g_iload (k := 4) (q := 59) B X0 dK rfl rfl ?_
  refine g_iconst (o := 2) (q := 60) (v := 2) B X0 dK rfl rfl ?_
  refine g_icmpYes (cd := .le) (o := 9) (q := 69) B X0 dK ((flt (by decide : ¬ ((2 : Int32) < (0 : Int32)))).2.2.2) dD dD ?_
  exact K _ _ _ X0 e0 N0 KK Y_cb
theorem opx1 {p : Program} {l : Launch} {e : Env} {s : State} {m : MethodId} {args : Array Value} {below : List Frame} {meth : Method} {c : Code} {Z : State} {a0 : Array Value} {n0 : Nat} {nm0 : String} {P : State → Outcome → Prop} {T0 : State} {locs : List Loc} {h0 : Heap} {p0 : Int32} {p1 : Int32} {p2 : Int32} {p3 : Int32} {wr : Addr} {c0 : Addr} {cb : Addr} {al : Addr} {tc : Addr} (B : own_C p s m c Z zz30 code 13 meth (some .boolean) nm0) (X0 : Stand p l e room_1 s m args below meth c T0 locs 17 1133) (hw : own_H a0 Z) (e0 : T0.heap = h0) (N0 : Fr n0 locs) (Z0 : n0 ≤ h0.size) (Y_c0 : own_Cd Z h0 c0 cb al) (Y_cb : own_By Z h0 cb tc []) (ne_c0_cb : c0 ≠ cb) (ne_c0_tc : c0 ≠ tc) (g_cb : n0 ≤ cb) (g_tc : n0 ≤ tc)
    (K : ∀ (T' : State) (h' : Heap) (locs' : List Loc), Stand p l e room_1 s m args below meth c T' locs' 17 1133 → T'.heap = h' → Fr n0 locs' → Keep h0 h' [cb, tc] → own_By Z h' cb tc ([] ++ [own_b8 p2]) → own_Go p.tables e below P (T'.setTop (mkF m 69 #[.val (.int p0), .val (.int p1), .val (.int p2), .val (.int p3), .val (.int (1 : Int32)), .val (.ref wr), .val (.ref c0), .unset, .unset, .unset, .unset, .unset, .unset] []))) : own_Go p.tables e below P (T0.setTop (mkF m 34 #[.val (.int p0), .val (.int p1), .val (.int p2), .val (.int p3), .val (.int (1 : Int32)), .val (.ref wr), .val (.ref c0), .unset, .unset, .unset, .unset, .unset, .unset] [])) := by
  have ZH := Z0
  have KK := Keep.refl h0 [cb, tc]
  refine g_iload (k := 4) (q := 36) B X0 dK rfl rfl ?_
  refine g_ifNo (cd := .le) (o := 9) (q := 39) B X0 dK (((if0 _ _).trans (tlt (by decide : (0 : Int32) < (1 : Int32))).2.2.2)) rfl ?_
  refine g_aload (k := 6) (q := 41) B X0 dK rfl rfl rfl ?_
  refine g_iloadN (k := 2) (q := 42) B X0 dK rfl rfl ?_
  refine g_callV (i := 26) (W := 0) (q := 45) (a := c0) (argsL := [(.int p2)]) (rest := []) B X0 (y := yy4) (kw hw 109 rfl) (kw hw 110 rfl) (kw hw 112 rfl) (kw hw 111 rfl) (kw hw 68 rfl) (kw hw 113 rfl) dD e0 Y_c0.1 (rmOp l Z a0 hw [] c0 cb al tc [] p2 h0 n0 ZH Y_c0 Y_cb ne_c0_cb ne_c0_tc g_cb g_tc (by first | omega | (simp only [List.length_append, List.length_cons, List.length_nil, own_u2, own_u4] at *; omega))) dK rfl rfl (lenOf pd_0 rfl) (Nat.le_of_eq rfl) rfl dD dD dD dD rfl (fun _ L1 T1 X1 hQ1 => ?_)
  obtain ⟨rfl, Nq1, K1, Yq1_0⟩ := hQ1
  have N1 := Fr.app N0 Nq1
  have KK := KK.trans K1 (allS (mi 0 rfl) (allS (mi 1 rfl) all0))
  have Y_cb := Yq1_0
  refine g_iload (k := 4) (q := 47) B X1 dK rfl rfl ?_
  refine g_iconst (o := 1) (q := 48) (v := 1) B X1 dK rfl rfl ?_
  refine g_icmpYes (cd := .le) (o := 9) (q := 57) B X1 dK ((flt (by decide : ¬ ((1 : Int32) < (1 : Int32)))).2.2.2) dD dD ?_
  refine g_iload (k := 4) (q := 59) B X1 dK rfl rfl ?_
  refine g_iconst (o := 2) (q := 60) (v := 2) B X1 dK rfl rfl ?_
  refine g_icmpYes (cd := .le) (o := 9) (q := 69) B X1 dK ((flt (by decide : ¬ ((2 : Int32) < (1 : Int32)))).2.2.2) dD dD ?_
  exact K _ _ _ X1 rfl N1 KK Y_cb
theorem opx2 {p : Program} {l : Launch} {e : Env} {s : State} {m : MethodId} {args : Array Value} {below : List Frame} {meth : Method} {c : Code} {Z : State} {a0 : Array Value} {n0 : Nat} {nm0 : String} {P : State → Outcome → Prop} {T0 : State} {locs : List Loc} {h0 : Heap} {p0 : Int32} {p1 : Int32} {p2 : Int32} {p3 : Int32} {wr : Addr} {c0 : Addr} {cb : Addr} {al : Addr} {tc : Addr} (B : own_C p s m c Z zz30 code 13 meth (some .boolean) nm0) (X0 : Stand p l e room_1 s m args below meth c T0 locs 17 1133) (hw : own_H a0 Z) (e0 : T0.heap = h0) (N0 : Fr n0 locs) (Z0 : n0 ≤ h0.size) (Y_c0 : own_Cd Z h0 c0 cb al) (Y_cb : own_By Z h0 cb tc []) (ne_c0_cb : c0 ≠ cb) (ne_c0_tc : c0 ≠ tc) (g_cb : n0 ≤ cb) (g_tc : n0 ≤ tc)
    (K : ∀ (T' : State) (h' : Heap) (locs' : List Loc), Stand p l e room_1 s m args below meth c T' locs' 17 1133 → T'.heap = h' → Fr n0 locs' → Keep h0 h' [cb, tc] → own_By Z h' cb tc (([] ++ [own_b8 p2]) ++ [own_b8 p2]) → own_Go p.tables e below P (T'.setTop (mkF m 69 #[.val (.int p0), .val (.int p1), .val (.int p2), .val (.int p3), .val (.int (2 : Int32)), .val (.ref wr), .val (.ref c0), .unset, .unset, .unset, .unset, .unset, .unset] []))) : own_Go p.tables e below P (T0.setTop (mkF m 34 #[.val (.int p0), .val (.int p1), .val (.int p2), .val (.int p3), .val (.int (2 : Int32)), .val (.ref wr), .val (.ref c0), .unset, .unset, .unset, .unset, .unset, .unset] [])) := by
  have ZH := Z0
  have KK := Keep.refl h0 [cb, tc]
  refine g_iload (k := 4) (q := 36) B X0 dK rfl rfl ?_
  refine g_ifNo (cd := .le) (o := 9) (q := 39) B X0 dK (((if0 _ _).trans (tlt (by decide : (0 : Int32) < (2 : Int32))).2.2.2)) rfl ?_
  refine g_aload (k := 6) (q := 41) B X0 dK rfl rfl rfl ?_
  refine g_iloadN (k := 2) (q := 42) B X0 dK rfl rfl ?_
  refine g_callV (i := 26) (W := 0) (q := 45) (a := c0) (argsL := [(.int p2)]) (rest := []) B X0 (y := yy4) (kw hw 109 rfl) (kw hw 110 rfl) (kw hw 112 rfl) (kw hw 111 rfl) (kw hw 68 rfl) (kw hw 113 rfl) dD e0 Y_c0.1 (rmOp l Z a0 hw [] c0 cb al tc [] p2 h0 n0 ZH Y_c0 Y_cb ne_c0_cb ne_c0_tc g_cb g_tc (by first | omega | (simp only [List.length_append, List.length_cons, List.length_nil, own_u2, own_u4] at *; omega))) dK rfl rfl (lenOf pd_0 rfl) (Nat.le_of_eq rfl) rfl dD dD dD dD rfl (fun _ L1 T1 X1 hQ1 => ?_)
  obtain ⟨rfl, Nq1, K1, Yq1_0⟩ := hQ1
  have N1 := Fr.app N0 Nq1
  have Y_c0 := Y_c0.keep K1 (ninS ne_c0_cb (ninS ne_c0_tc nin0))
  have ZH := Nat.le_trans ZH K1.1
  have KK := KK.trans K1 (allS (mi 0 rfl) (allS (mi 1 rfl) all0))
  have Y_cb := Yq1_0
  refine g_iload (k := 4) (q := 47) B X1 dK rfl rfl ?_
  refine g_iconst (o := 1) (q := 48) (v := 1) B X1 dK rfl rfl ?_
  refine g_icmpNo (cd := .le) (o := 9) (q := 51) B X1 dK ((tlt (by decide : (1 : Int32) < (2 : Int32))).2.2.2) rfl ?_
  refine g_aload (k := 6) (q := 53) B X1 dK rfl rfl rfl ?_
  refine g_iloadN (k := 2) (q := 54) B X1 dK rfl rfl ?_
  refine g_callV (i := 26) (W := 0) (q := 57) (a := c0) (argsL := [(.int p2)]) (rest := []) B X1 (y := yy4) (kw hw 109 rfl) (kw hw 110 rfl) (kw hw 112 rfl) (kw hw 111 rfl) (kw hw 68 rfl) (kw hw 113 rfl) dD rfl Y_c0.1 (rmOp l Z a0 hw [] c0 cb al tc ([] ++ [own_b8 p2]) p2 T1.heap n0 ZH Y_c0 Y_cb ne_c0_cb ne_c0_tc g_cb g_tc (by first | omega | (simp only [List.length_append, List.length_cons, List.length_nil, own_u2, own_u4] at *; omega))) dK rfl rfl (lenOf pd_0 rfl) (Nat.le_of_eq rfl) rfl dD dD dD dD rfl (fun _ L2 T2 X2 hQ2 => ?_)
  obtain ⟨rfl, Nq2, K2, Yq2_0⟩ := hQ2
  have N2 := Fr.app N1 Nq2
  have KK := KK.trans K2 (allS (mi 0 rfl) (allS (mi 1 rfl) all0))
  have Y_cb := Yq2_0
  refine g_iload (k := 4) (q := 59) B X2 dK rfl rfl ?_
  refine g_iconst (o := 2) (q := 60) (v := 2) B X2 dK rfl rfl ?_
  refine g_icmpYes (cd := .le) (o := 9) (q := 69) B X2 dK ((flt (by decide : ¬ ((2 : Int32) < (2 : Int32)))).2.2.2) dD dD ?_
  exact K _ _ _ X2 rfl N2 KK Y_cb
theorem opx3 {p : Program} {l : Launch} {e : Env} {s : State} {m : MethodId} {args : Array Value} {below : List Frame} {meth : Method} {c : Code} {Z : State} {a0 : Array Value} {n0 : Nat} {nm0 : String} {P : State → Outcome → Prop} {T0 : State} {locs : List Loc} {h0 : Heap} {p0 : Int32} {p1 : Int32} {p2 : Int32} {p3 : Int32} {wr : Addr} {c0 : Addr} {cb : Addr} {al : Addr} {tc : Addr} (B : own_C p s m c Z zz30 code 13 meth (some .boolean) nm0) (X0 : Stand p l e room_1 s m args below meth c T0 locs 17 1133) (hw : own_H a0 Z) (e0 : T0.heap = h0) (N0 : Fr n0 locs) (Z0 : n0 ≤ h0.size) (Y_c0 : own_Cd Z h0 c0 cb al) (Y_cb : own_By Z h0 cb tc []) (ne_c0_cb : c0 ≠ cb) (ne_c0_tc : c0 ≠ tc) (g_cb : n0 ≤ cb) (g_tc : n0 ≤ tc)
    (K : ∀ (T' : State) (h' : Heap) (locs' : List Loc), Stand p l e room_1 s m args below meth c T' locs' 17 1133 → T'.heap = h' → Fr n0 locs' → Keep h0 h' [cb, tc] → own_By Z h' cb tc ((([] ++ [own_b8 p2]) ++ [own_b8 p2]) ++ [own_b8 p2]) → own_Go p.tables e below P (T'.setTop (mkF m 69 #[.val (.int p0), .val (.int p1), .val (.int p2), .val (.int p3), .val (.int (3 : Int32)), .val (.ref wr), .val (.ref c0), .unset, .unset, .unset, .unset, .unset, .unset] []))) : own_Go p.tables e below P (T0.setTop (mkF m 34 #[.val (.int p0), .val (.int p1), .val (.int p2), .val (.int p3), .val (.int (3 : Int32)), .val (.ref wr), .val (.ref c0), .unset, .unset, .unset, .unset, .unset, .unset] [])) := by
  have ZH := Z0
  have KK := Keep.refl h0 [cb, tc]
  refine g_iload (k := 4) (q := 36) B X0 dK rfl rfl ?_
  refine g_ifNo (cd := .le) (o := 9) (q := 39) B X0 dK (((if0 _ _).trans (tlt (by decide : (0 : Int32) < (3 : Int32))).2.2.2)) rfl ?_
  refine g_aload (k := 6) (q := 41) B X0 dK rfl rfl rfl ?_
  refine g_iloadN (k := 2) (q := 42) B X0 dK rfl rfl ?_
  refine g_callV (i := 26) (W := 0) (q := 45) (a := c0) (argsL := [(.int p2)]) (rest := []) B X0 (y := yy4) (kw hw 109 rfl) (kw hw 110 rfl) (kw hw 112 rfl) (kw hw 111 rfl) (kw hw 68 rfl) (kw hw 113 rfl) dD e0 Y_c0.1 (rmOp l Z a0 hw [] c0 cb al tc [] p2 h0 n0 ZH Y_c0 Y_cb ne_c0_cb ne_c0_tc g_cb g_tc (by first | omega | (simp only [List.length_append, List.length_cons, List.length_nil, own_u2, own_u4] at *; omega))) dK rfl rfl (lenOf pd_0 rfl) (Nat.le_of_eq rfl) rfl dD dD dD dD rfl (fun _ L1 T1 X1 hQ1 => ?_)
  obtain ⟨rfl, Nq1, K1, Yq1_0⟩ := hQ1
  have N1 := Fr.app N0 Nq1
  have Y_c0 := Y_c0.keep K1 (ninS ne_c0_cb (ninS ne_c0_tc nin0))
  have ZH := Nat.le_trans ZH K1.1
  have KK := KK.trans K1 (allS (mi 0 rfl) (allS (mi 1 rfl) all0))
  have Y_cb := Yq1_0
  refine g_iload (k := 4) (q := 47) B X1 dK rfl rfl ?_
  refine g_iconst (o := 1) (q := 48) (v := 1) B X1 dK rfl rfl ?_
  refine g_icmpNo (cd := .le) (o := 9) (q := 51) B X1 dK ((tlt (by decide : (1 : Int32) < (3 : Int32))).2.2.2) rfl ?_
  refine g_aload (k := 6) (q := 53) B X1 dK rfl rfl rfl ?_
  refine g_iloadN (k := 2) (q := 54) B X1 dK rfl rfl ?_
  refine g_callV (i := 26) (W := 0) (q := 57) (a := c0) (argsL := [(.int p2)]) (rest := []) B X1 (y := yy4) (kw hw 109 rfl) (kw hw 110 rfl) (kw hw 112 rfl) (kw hw 111 rfl) (kw hw 68 rfl) (kw hw 113 rfl) dD rfl Y_c0.1 (rmOp l Z a0 hw [] c0 cb al tc ([] ++ [own_b8 p2]) p2 T1.heap n0 ZH Y_c0 Y_cb ne_c0_cb ne_c0_tc g_cb g_tc (by first | omega | (simp only [List.length_append, List.length_cons, List.length_nil, own_u2, own_u4] at *; omega))) dK rfl rfl (lenOf pd_0 rfl) (Nat.le_of_eq rfl) rfl dD dD dD dD rfl (fun _ L2 T2 X2 hQ2 => ?_)
  obtain ⟨rfl, Nq2, K2, Yq2_0⟩ := hQ2
  have N2 := Fr.app N1 Nq2
  have Y_c0 := Y_c0.keep K2 (ninS ne_c0_cb (ninS ne_c0_tc nin0))
  have ZH := Nat.le_trans ZH K2.1
  have KK := KK.trans K2 (allS (mi 0 rfl) (allS (mi 1 rfl) all0))
  have Y_cb := Yq2_0
  refine g_iload (k := 4) (q := 59) B X2 dK rfl rfl ?_
  refine g_iconst (o := 2) (q := 60) (v := 2) B X2 dK rfl rfl ?_
  refine g_icmpNo (cd := .le) (o := 9) (q := 63) B X2 dK ((tlt (by decide : (2 : Int32) < (3 : Int32))).2.2.2) rfl ?_
  refine g_aload (k := 6) (q := 65) B X2 dK rfl rfl rfl ?_
  refine g_iloadN (k := 2) (q := 66) B X2 dK rfl rfl ?_
  refine g_callV (i := 26) (W := 0) (q := 69) (a := c0) (argsL := [(.int p2)]) (rest := []) B X2 (y := yy4) (kw hw 109 rfl) (kw hw 110 rfl) (kw hw 112 rfl) (kw hw 111 rfl) (kw hw 68 rfl) (kw hw 113 rfl) dD rfl Y_c0.1 (rmOp l Z a0 hw [] c0 cb al tc (([] ++ [own_b8 p2]) ++ [own_b8 p2]) p2 T2.heap n0 ZH Y_c0 Y_cb ne_c0_cb ne_c0_tc g_cb g_tc (by first | omega | (simp only [List.length_append, List.length_cons, List.length_nil, own_u2, own_u4] at *; omega))) dK rfl rfl (lenOf pd_0 rfl) (Nat.le_of_eq rfl) rfl dD dD dD dD rfl (fun _ L3 T3 X3 hQ3 => ?_)
  obtain ⟨rfl, Nq3, K3, Yq3_0⟩ := hQ3
  have N3 := Fr.app N2 Nq3
  have KK := KK.trans K3 (allS (mi 0 rfl) (allS (mi 1 rfl) all0))
  have Y_cb := Yq3_0
  exact K _ _ _ X3 rfl N3 KK Y_cb
theorem own_opx {p : Program} {l : Launch} {e : Env} {s : State} {m : MethodId} {args : Array Value} {below : List Frame} {meth : Method} {c : Code} {Z : State} {a0 : Array Value} {n0 : Nat} {nm0 : String} {P : State → Outcome → Prop} {T0 : State} {locs : List Loc} {h0 : Heap} {p0 : Int32} {p1 : Int32} {p2 : Int32} {p3 : Int32} {wr : Addr} {c0 : Addr} {cb : Addr} {al : Addr} {tc : Addr} {vp : Int32} (B : own_C p s m c Z zz30 code 13 meth (some .boolean) nm0) (X0 : Stand p l e room_1 s m args below meth c T0 locs 17 1133) (hw : own_H a0 Z) (e0 : T0.heap = h0) (N0 : Fr n0 locs) (Z0 : n0 ≤ h0.size) (Y_c0 : own_Cd Z h0 c0 cb al) (Y_cb : own_By Z h0 cb tc []) (ne_c0_cb : c0 ≠ cb) (ne_c0_tc : c0 ≠ tc) (g_cb : n0 ≤ cb) (g_tc : n0 ≤ tc) (hv : vp = 0 ∨ vp = 1 ∨ vp = 2 ∨ vp = 3)
    (K : ∀ (T' : State) (h' : Heap) (locs' : List Loc) (cs0 : List Int32), own_v3 vp cs0 p2 → Stand p l e room_1 s m args below meth c T' locs' 17 1133 → T'.heap = h' → Fr n0 locs' → Keep h0 h' [cb, tc] → own_By Z h' cb tc cs0 → own_Go p.tables e below P (T'.setTop (mkF m 69 #[.val (.int p0), .val (.int p1), .val (.int p2), .val (.int p3), .val (.int vp), .val (.ref wr), .val (.ref c0), .unset, .unset, .unset, .unset, .unset, .unset] []))) : own_Go p.tables e below P (T0.setTop (mkF m 34 #[.val (.int p0), .val (.int p1), .val (.int p2), .val (.int p3), .val (.int vp), .val (.ref wr), .val (.ref c0), .unset, .unset, .unset, .unset, .unset, .unset] [])) := by
  rcases hv with rfl | rfl | rfl | rfl
  · exact opx0 B X0 hw e0 N0 Z0 Y_c0 Y_cb ne_c0_cb ne_c0_tc g_cb g_tc (fun T' h' l' X e N KK Y => K T' h' l' _ (Or.inl ⟨rfl, rfl⟩) X e N KK Y)
  · exact opx1 B X0 hw e0 N0 Z0 Y_c0 Y_cb ne_c0_cb ne_c0_tc g_cb g_tc (fun T' h' l' X e N KK Y => K T' h' l' _ (Or.inr (Or.inl ⟨rfl, rfl⟩)) X e N KK Y)
  · exact opx2 B X0 hw e0 N0 Z0 Y_c0 Y_cb ne_c0_cb ne_c0_tc g_cb g_tc (fun T' h' l' X e N KK Y => K T' h' l' _ (Or.inr (Or.inr (Or.inl ⟨rfl, rfl⟩))) X e N KK Y)
  · exact opx3 B X0 hw e0 N0 Z0 Y_c0 Y_cb ne_c0_cb ne_c0_tc g_cb g_tc (fun T' h' l' X e N KK Y => K T' h' l' _ (Or.inr (Or.inr (Or.inr ⟨rfl, rfl⟩))) X e N KK Y)
theorem pn_20 : plainName "com/example/eurydice/eurydice/model/CodeBranchPinLaw" = true := by first | (simp [plainName, overriddenIn]; done) | decide +kernel
theorem pd_51 : parseMethodDescriptor "(Ljava/lang/String;Ljava/lang/String;)V" = some ⟨[(.object "java/lang/String"), (.object "java/lang/String")], none⟩ := by decide +kernel
theorem pd_52 : parseMethodDescriptor "(Lcom/example/eurydice/eurydice/model/ClassFileWriter;)V" = some ⟨[(.object "com/example/eurydice/eurydice/model/ClassFileWriter")], none⟩ := by decide +kernel
theorem pd_53 : parseMethodDescriptor "(Ljava/lang/String;Ljava/lang/String;Lcom/example/eurydice/eurydice/model/ClassFileWriter$Code;II)V" = some ⟨[(.object "java/lang/String"), (.object "java/lang/String"), (.object "com/example/eurydice/eurydice/model/ClassFileWriter$Code"), .int, .int], none⟩ := by decide +kernel
def Qrm0 (Z : State) (p0 p1 : Int32) (p2 p3 cz : Int32) (fv : Value) (ev dg ca : Addr) (cg : Nat → Addr) (h0 : Heap) (n0 : Nat) (v : Option Value) (h : Heap) (L : List Loc) : Prop := v = some (.int 1) ∧ Fr n0 L
theorem rm0 (l : Launch) (Z : State) (a0 : Array Value) (hw : own_H a0 Z) (ws : List Jvm.Cond) (p0 p1 : Int32) (p2 p3 cz : Int32) (fv : Value) (ev dg ca : Addr) (cg : Nat → Addr) (h0 : Heap) (n0 : Nat) (ZH : n0 ≤ h0.size) (OO : Old Z n0 h0) (HW : own_W Z cz fv ev dg ca cg) :
    own_MetW l Z x code maxLocals ret ws room_1 #[(.int p0), (.int p1), (.int p2), (.int p3)] h0 (Qrm0 Z p0 p1 p2 p3 cz fv ev dg ca cg h0 n0) 192 12928 := by
  refine own_hw (fr := #[.val (.int p0), .val (.int p1), .val (.int p2), .val (.int p3), .unset, .unset, .unset, .unset, .unset, .unset, .unset, .unset, .unset]) (ef := fun m => by simp [entryFrame, mkF, argsToLocals, Value.category, maxLocals]) (plainFor_of_name pn_20) (fun {p e s m below meth c s₁} B X0 e0 hh DD Nm => ?_)
  have N0 := Fr.nil n0
  refine g_iloadN (k := 1) (q := 1) B X0 dK rfl rfl ?_
  refine g_iconst (o := 3) (q := 2) (v := 3) B X0 dK rfl rfl ?_
  refine g_iand (q := 3) B X0 dK rfl rfl ?_
  refine g_istore (k := 4) (q := 5) (l' := #[.val (.int p0), .val (.int p1), .val (.int p2), .val (.int p3), .val (.int (p1 &&& (3 : Int32))), .unset, .unset, .unset, .unset, .unset, .unset, .unset, .unset]) B X0 dK rfl rfl ?_
  obtain ⟨vp, hvp⟩ : ∃ z, z = (p1 &&& (3 : Int32)) := ⟨_, rfl⟩
  rw [← hvp]
  have hv4 := own_and3 hvp
  refine g_new (i := 7) (q := 8) B X0 (kw hw 0 rfl) (kw hw 1 rfl) (kw hw 2 rfl) e0 dK dD dD rfl (fun b1 T1 h1 gz1 X1 e1 E1 A1 D1 => ?_)
  have g_b1 := gl ZH gz1
  have DD := DD.ext E1
  have ZH := Nat.le_trans ZH E1.1
  have OO := OO.ext E1
  have E_b1 := A1
  have F_pool_b1 : Fld Z h1 b1 zz5 "pool" zz45 .null := D1 (Or.inr (kw hw 55 rfl)) (ty := (.object zz3)) dD
  have F_fields_b1 : Fld Z h1 b1 zz5 "fields" zz13 .null := D1 (Or.inr (kw hw 59 rfl)) (ty := (.object zz0)) dD
  have F_methods_b1 : Fld Z h1 b1 zz5 "methods" zz13 .null := D1 (Or.inr (kw hw 61 rfl)) (ty := (.object zz0)) dD
  have F_name_b1 : Fld Z h1 b1 zz5 "name" zz25 .null := D1 (Or.inr (kw hw 63 rfl)) (ty := (.object zz1)) dD
  have F_superName_b1 : Fld Z h1 b1 zz5 "superName" zz25 .null := D1 (Or.inr (kw hw 65 rfl)) (ty := (.object zz1)) dD
  have F_methodCount_b1 : Fld Z h1 b1 zz5 "methodCount" "I" (.int (0 : Int32)) := D1 (Or.inl (kw hw 501 rfl)) (ty := .int) dD
  have F_fieldCount_b1 : Fld Z h1 b1 zz5 "fieldCount" "I" (.int (0 : Int32)) := D1 (Or.inl (kw hw 566 rfl)) (ty := .int) dD
  have F_tooLarge_b1 : Fld Z h1 b1 zz5 "tooLarge" "Z" (.int (0 : Int32)) := D1 (Or.inl (kw hw 574 rfl)) (ty := .boolean) dD
  refine g_dup (q := 9) B X1 dK rfl rfl ?_
  refine g_wldc (i := 9) (nn := 4) (text := "A") (cs := [Int32.ofNat 65]) (q := 11) B X1 DD (own_EWS hw).ew (kw hw 3 rfl) (own_WS hw) (List.mem_of_getElem? (i := 2) rfl) ⟨by decide, by decide⟩ dD e1 dK dD dD dD dD rfl (fun a2 d2 T2 h2 X2 B2 D2 e2 E2 Yq2 CR2 NE2 => ?_)
  have E_b1 := E_b1.ext E2
  have F_pool_b1 := F_pool_b1.ext E2
  have F_fields_b1 := F_fields_b1.ext E2
  have F_methods_b1 := F_methods_b1.ext E2
  have F_name_b1 := F_name_b1.ext E2
  have F_superName_b1 := F_superName_b1.ext E2
  have F_methodCount_b1 := F_methodCount_b1.ext E2
  have F_fieldCount_b1 := F_fieldCount_b1.ext E2
  have F_tooLarge_b1 := F_tooLarge_b1.ext E2
  have ZH := Nat.le_trans ZH E2.1
  have OO := OO.ext E2
  have DD := D2
  have Y_a2 := Yq2
  have I_d2 := Y_a2.in_tx
  have ne_b1_a2 := (NE2 b1 (Safe.exa B2.hZ.alike E_b1 dD dD)).1
  have ne_b1_d2 := (NE2 b1 (Safe.exa B2.hZ.alike E_b1 dD dD)).2
  refine g_wldc (i := 11) (nn := 64) (text := zz9) (cs := [Int32.ofNat 106, Int32.ofNat 97, Int32.ofNat 118, Int32.ofNat 97, Int32.ofNat 47, Int32.ofNat 108, Int32.ofNat 97, Int32.ofNat 110, Int32.ofNat 103, Int32.ofNat 47, Int32.ofNat 79, Int32.ofNat 98, Int32.ofNat 106, Int32.ofNat 101, Int32.ofNat 99, Int32.ofNat 116]) (q := 13) B2 X2 DD (own_EWS hw).ew (kw hw 11 rfl) (own_WS hw) (List.mem_of_getElem? (i := 3) rfl) ⟨by decide, by decide⟩ dD e2 dK dD dD dD dD rfl (fun a3 d3 T3 h3 X3 B3 D3 e3 E3 Yq3 CR3 NE3 => ?_)
  have Y_a2 := Y_a2.ext E3
  have E_b1 := E_b1.ext E3
  have F_pool_b1 := F_pool_b1.ext E3
  have F_fields_b1 := F_fields_b1.ext E3
  have F_methods_b1 := F_methods_b1.ext E3
  have F_name_b1 := F_name_b1.ext E3
  have F_superName_b1 := F_superName_b1.ext E3
  have F_methodCount_b1 := F_methodCount_b1.ext E3
  have F_fieldCount_b1 := F_fieldCount_b1.ext E3
  have F_tooLarge_b1 := F_tooLarge_b1.ext E3
  have I_d2 := I_d2.ext E3
  have ZH := Nat.le_trans ZH E3.1
  have OO := OO.ext E3
  have DD := D3
  have Y_a3 := Yq3
  have I_d3 := Y_a3.in_tx
  have ne_b1_a3 := (NE3 b1 (Safe.exa B3.hZ.alike E_b1 dD dD)).1
  have ne_b1_d3 := (NE3 b1 (Safe.exa B3.hZ.alike E_b1 dD dD)).2
  have zh4 := ZH
  have lt4_b1 := E_b1.lt
  have lt4_a2 := Y_a2.lt
  have lt4_d2 := I_d2.lt
  have lt4_a3 := Y_a3.lt
  have lt4_d3 := I_d3.lt
  refine g_callI (i := 12) (W := 1) (q := 16) (a := b1) (argsL := [(.ref a2), (.ref a3)]) (rest := [(.ref b1)]) B3 X3 (y := yy53) rfl (kw hw 12 rfl) (kw hw 13 rfl) (kw hw 2 rfl) (kw hw 14 rfl) dD e3 (rmWi l Z a0 hw [] b1 a2 a3 h3 n0 ZH E_b1 F_pool_b1 F_fields_b1 F_methods_b1 F_name_b1 F_superName_b1 F_methodCount_b1 F_fieldCount_b1 F_tooLarge_b1 g_b1) dK rfl rfl (lenOf pd_51 rfl) (Nat.le_of_eq rfl) rfl dD dD dD dD rfl (fun _ L4 T4 X4 hQ4 => ?_)
  obtain ⟨rfl, Nq4, K4, pl, en, te, mp, fi, tf, me, tm, Yw4_0, Yw4_1, Yw4_2, Yw4_3, Yw4_4, Yw4_5, nd4, sx4⟩ := hQ4
  have N4 := Fr.app N0 Nq4
  have sk4 : ∀ x ∈ ([b1] : List Addr), Safe Z own_EL T3.vm h3 x := (sfS (Safe.exa B3.hZ.alike E_b1 dD dD) sf0)
  have DD := DD.keep K4 sk4
  have Y_a2 := Y_a2.keep K4 (ninS (Ne.symm ne_b1_a2) nin0) (ninS (Ne.symm ne_b1_d2) nin0)
  have Y_a3 := Y_a3.keep K4 (ninS (Ne.symm ne_b1_a3) nin0) (ninS (Ne.symm ne_b1_d3) nin0)
  have I_d2 := I_d2.keep K4
  have I_d3 := I_d3.keep K4
  have ZH := Nat.le_trans ZH K4.1
  have OO := OO.keep K4 (allS g_b1 all0)
  have szo_pl := sx4 _ (List.mem_of_getElem? (i := 0) rfl)
  have ne_b1_pl := nz lt4_b1 szo_pl
  have ne_a2_pl := nz lt4_a2 szo_pl
  have ne_d2_pl := nz lt4_d2 szo_pl
  have ne_a3_pl := nz lt4_a3 szo_pl
  have ne_d3_pl := nz lt4_d3 szo_pl
  have g_pl := Nat.le_trans zh4 szo_pl
  have szo_en := sx4 _ (List.mem_of_getElem? (i := 1) rfl)
  have ne_b1_en := nz lt4_b1 szo_en
  have ne_a2_en := nz lt4_a2 szo_en
  have ne_d2_en := nz lt4_d2 szo_en
  have ne_a3_en := nz lt4_a3 szo_en
  have ne_d3_en := nz lt4_d3 szo_en
  have g_en := Nat.le_trans zh4 szo_en
  have szo_te := sx4 _ (List.mem_of_getElem? (i := 2) rfl)
  have ne_b1_te := nz lt4_b1 szo_te
  have ne_a2_te := nz lt4_a2 szo_te
  have ne_d2_te := nz lt4_d2 szo_te
  have ne_a3_te := nz lt4_a3 szo_te
  have ne_d3_te := nz lt4_d3 szo_te
  have g_te := Nat.le_trans zh4 szo_te
  have szo_mp := sx4 _ (List.mem_of_getElem? (i := 3) rfl)
  have ne_b1_mp := nz lt4_b1 szo_mp
  have ne_a2_mp := nz lt4_a2 szo_mp
  have ne_d2_mp := nz lt4_d2 szo_mp
  have ne_a3_mp := nz lt4_a3 szo_mp
  have ne_d3_mp := nz lt4_d3 szo_mp
  have g_mp := Nat.le_trans zh4 szo_mp
  have szo_fi := sx4 _ (List.mem_of_getElem? (i := 4) rfl)
  have ne_b1_fi := nz lt4_b1 szo_fi
  have szo_tf := sx4 _ (List.mem_of_getElem? (i := 5) rfl)
  have ne_b1_tf := nz lt4_b1 szo_tf
  have szo_me := sx4 _ (List.mem_of_getElem? (i := 6) rfl)
  have ne_b1_me := nz lt4_b1 szo_me
  have ne_a2_me := nz lt4_a2 szo_me
  have ne_d2_me := nz lt4_d2 szo_me
  have ne_a3_me := nz lt4_a3 szo_me
  have ne_d3_me := nz lt4_d3 szo_me
  have g_me := Nat.le_trans zh4 szo_me
  have szo_tm := sx4 _ (List.mem_of_getElem? (i := 7) rfl)
  have ne_b1_tm := nz lt4_b1 szo_tm
  have ne_a2_tm := nz lt4_a2 szo_tm
  have ne_d2_tm := nz lt4_d2 szo_tm
  have ne_a3_tm := nz lt4_a3 szo_tm
  have ne_d3_tm := nz lt4_d3 szo_tm
  have g_tm := Nat.le_trans zh4 szo_tm
  have ne_pl_en : pl ≠ en := nd4.1 _ (List.mem_of_getElem? (i := 0) rfl)
  have ne_pl_te : pl ≠ te := nd4.1 _ (List.mem_of_getElem? (i := 1) rfl)
  have ne_pl_mp : pl ≠ mp := nd4.1 _ (List.mem_of_getElem? (i := 2) rfl)
  have ne_pl_fi : pl ≠ fi := nd4.1 _ (List.mem_of_getElem? (i := 3) rfl)
  have ne_pl_tf : pl ≠ tf := nd4.1 _ (List.mem_of_getElem? (i := 4) rfl)
  have ne_pl_me : pl ≠ me := nd4.1 _ (List.mem_of_getElem? (i := 5) rfl)
  have ne_pl_tm : pl ≠ tm := nd4.1 _ (List.mem_of_getElem? (i := 6) rfl)
  have ne_en_mp : en ≠ mp := nd4.2.1 _ (List.mem_of_getElem? (i := 1) rfl)
  have ne_en_fi : en ≠ fi := nd4.2.1 _ (List.mem_of_getElem? (i := 2) rfl)
  have ne_en_tf : en ≠ tf := nd4.2.1 _ (List.mem_of_getElem? (i := 3) rfl)
  have ne_en_me : en ≠ me := nd4.2.1 _ (List.mem_of_getElem? (i := 4) rfl)
  have ne_en_tm : en ≠ tm := nd4.2.1 _ (List.mem_of_getElem? (i := 5) rfl)
  have ne_te_mp : te ≠ mp := nd4.2.2.1 _ (List.mem_of_getElem? (i := 0) rfl)
  have ne_te_fi : te ≠ fi := nd4.2.2.1 _ (List.mem_of_getElem? (i := 1) rfl)
  have ne_te_tf : te ≠ tf := nd4.2.2.1 _ (List.mem_of_getElem? (i := 2) rfl)
  have ne_te_me : te ≠ me := nd4.2.2.1 _ (List.mem_of_getElem? (i := 3) rfl)
  have ne_te_tm : te ≠ tm := nd4.2.2.1 _ (List.mem_of_getElem? (i := 4) rfl)
  have ne_mp_fi : mp ≠ fi := nd4.2.2.2.1 _ (List.mem_of_getElem? (i := 0) rfl)
  have ne_mp_tf : mp ≠ tf := nd4.2.2.2.1 _ (List.mem_of_getElem? (i := 1) rfl)
  have ne_mp_me : mp ≠ me := nd4.2.2.2.1 _ (List.mem_of_getElem? (i := 2) rfl)
  have ne_mp_tm : mp ≠ tm := nd4.2.2.2.1 _ (List.mem_of_getElem? (i := 3) rfl)
  have ne_fi_me : fi ≠ me := nd4.2.2.2.2.1 _ (List.mem_of_getElem? (i := 1) rfl)
  have ne_fi_tm : fi ≠ tm := nd4.2.2.2.2.1 _ (List.mem_of_getElem? (i := 2) rfl)
  have ne_tf_me : tf ≠ me := nd4.2.2.2.2.2.1 _ (List.mem_of_getElem? (i := 0) rfl)
  have ne_tf_tm : tf ≠ tm := nd4.2.2.2.2.2.1 _ (List.mem_of_getElem? (i := 1) rfl)
  have Y_b1 := Yw4_0
  have Y_pl := Yw4_1
  have Y_en := Yw4_2
  have Y_mp := Yw4_3
  have Y_fi := Yw4_4
  have Y_me := Yw4_5
  have I_te := Y_en.in_tb
  have I_tf := Y_fi.in_tb
  have I_tm := Y_me.in_tb
  have Y_mp : own_Mp Z T4.heap mp mp [] := Or.inl ⟨rfl, rfl, Y_mp⟩
  have I_mp := Y_mp.in_tb
  refine g_astore (k := 5) (q := 18) (l' := #[.val (.int p0), .val (.int p1), .val (.int p2), .val (.int p3), .val (.int vp), .val (.ref b1), .unset, .unset, .unset, .unset, .unset, .unset, .unset]) B3 X4 dK rfl rfl rfl ?_
  refine g_new (i := 15) (q := 21) B3 X4 (kw hw 66 rfl) (kw hw 67 rfl) (kw hw 68 rfl) rfl dK dD dD rfl (fun b5 T5 h5 gz5 X5 e5 E5 A5 D5 => ?_)
  have ne_b1_b5 := nl Y_b1.lt gz5
  have ne_a2_b5 := nl Y_a2.lt gz5
  have ne_d2_b5 := nl I_d2.lt gz5
  have ne_a3_b5 := nl Y_a3.lt gz5
  have ne_d3_b5 := nl I_d3.lt gz5
  have ne_pl_b5 := nl Y_pl.lt gz5
  have ne_en_b5 := nl Y_en.lt gz5
  have ne_te_b5 := nl I_te.lt gz5
  have ne_fi_b5 := nl Y_fi.lt gz5
  have ne_tf_b5 := nl I_tf.lt gz5
  have ne_me_b5 := nl Y_me.lt gz5
  have ne_tm_b5 := nl I_tm.lt gz5
  have ne_mp_b5 := nl Y_mp.lt gz5
  have g_b5 := gl ZH gz5
  have DD := DD.ext E5
  have Y_a2 := Y_a2.ext E5
  have Y_a3 := Y_a3.ext E5
  have Y_b1 := Y_b1.ext E5
  have Y_pl := Y_pl.ext E5
  have Y_en := Y_en.ext E5
  have Y_fi := Y_fi.ext E5
  have Y_me := Y_me.ext E5
  have Y_mp := Y_mp.ext E5
  have I_d2 := I_d2.ext E5
  have I_d3 := I_d3.ext E5
  have I_te := I_te.ext E5
  have I_tf := I_tf.ext E5
  have I_tm := I_tm.ext E5
  have I_mp := I_mp.ext E5
  have ZH := Nat.le_trans ZH E5.1
  have OO := OO.ext E5
  have E_b5 := A5
  have F_this_0_b5 : Fld Z h5 b5 zz10 "this$0" zz54 .null := D5 (Or.inr (kw hw 77 rfl)) (ty := (.object zz5)) dD
  have F_bytes_b5 : Fld Z h5 b5 zz10 "bytes" zz13 .null := D5 (Or.inr (kw hw 82 rfl)) (ty := (.object zz0)) dD
  have F_targets_b5 : Fld Z h5 b5 zz10 "targets" "Ljava/util/List;" .null := D5 (Or.inr (kw hw 108 rfl)) (ty := (.object zz19)) dD
  refine g_dup (q := 22) B3 X5 dK rfl rfl ?_
  refine g_aload (k := 5) (q := 24) B3 X5 dK rfl rfl rfl ?_
  refine g_dup (q := 25) B3 X5 dK rfl rfl ?_
  refine g_callS (i := 17) (W := 3) (q := 28) (argsL := [(.ref b1)]) (rest := [(.ref b1), (.ref b5), (.ref b5)]) B3 X5 (y := yy49) (kw hw 69 rfl) (kw hw 70 rfl) (kw hw 71 rfl) (kw hw 72 rfl) dD e5 (rmRN l Z a0 hw [] b1 h5 n0 ZH) dK rfl rfl (lenOf pd_41 rfl) (Nat.le_of_eq rfl) rfl dD dD dD dD rfl (fun _ L6 T6 X6 hQ6 => ?_)
  obtain ⟨rfl, Nq6, e6⟩ := hQ6
  have N6 := Fr.app N4 Nq6
  refine g_pop (q := 29) B3 X6 dK rfl rfl ?_
  have zh7 := ZH
  have lt7_b1 := Y_b1.lt
  have lt7_a2 := Y_a2.lt
  have lt7_d2 := I_d2.lt
  have lt7_a3 := Y_a3.lt
  have lt7_d3 := I_d3.lt
  have lt7_pl := Y_pl.lt
  have lt7_en := Y_en.lt
  have lt7_te := I_te.lt
  have lt7_fi := Y_fi.lt
  have lt7_tf := I_tf.lt
  have lt7_me := Y_me.lt
  have lt7_tm := I_tm.lt
  have lt7_mp := I_mp.lt
  have lt7_b5 := E_b5.lt
  refine g_callI (i := 23) (W := 1) (q := 32) (a := b5) (argsL := [(.ref b1)]) (rest := [(.ref b5)]) B3 X6 (y := yy52) rfl (kw hw 73 rfl) (kw hw 74 rfl) (kw hw 68 rfl) (kw hw 75 rfl) dD e6 (rmCi l Z a0 hw [] cz fv ev dg ca cg b5 b1 h5 n0 ZH OO HW E_b5 F_this_0_b5 F_bytes_b5 F_targets_b5 g_b5) dK rfl rfl (lenOf pd_52 rfl) (Nat.le_of_eq rfl) rfl dD dD dD dD rfl (fun _ L7 T7 X7 hQ7 => ?_)
  obtain ⟨rfl, Nq7, K7, cb, tc, al, Yc7, Yb7, Ya7, nd7, sx7⟩ := hQ7
  have N7 := Fr.app N6 Nq7
  have sk7 : ∀ x ∈ ([b5] : List Addr), Safe Z own_EL T3.vm h5 x := (sfS (Safe.exa B3.hZ.alike E_b5 dD dD) sf0)
  have DD := DD.keep K7 sk7
  have Y_a2 := Y_a2.keep K7 (ninS ne_a2_b5 nin0) (ninS ne_d2_b5 nin0)
  have Y_a3 := Y_a3.keep K7 (ninS ne_a3_b5 nin0) (ninS ne_d3_b5 nin0)
  have Y_b1 := Y_b1.keep K7 (ninS ne_b1_b5 nin0)
  have Y_pl := Y_pl.keep K7 (ninS ne_pl_b5 nin0)
  have Y_en := Y_en.keep K7 (ninS ne_en_b5 nin0) (ninS ne_te_b5 nin0)
  have Y_fi := Y_fi.keep K7 (ninS ne_fi_b5 nin0) (ninS ne_tf_b5 nin0)
  have Y_me := Y_me.keep K7 (ninS ne_me_b5 nin0) (ninS ne_tm_b5 nin0)
  have Y_mp := Y_mp.keep K7 (ninS ne_mp_b5 nin0) (ninS ne_mp_b5 nin0)
  have I_d2 := I_d2.keep K7
  have I_d3 := I_d3.keep K7
  have I_te := I_te.keep K7
  have I_tf := I_tf.keep K7
  have I_tm := I_tm.keep K7
  have ZH := Nat.le_trans ZH K7.1
  have OO := OO.keep K7 (allS g_b5 all0)
  have szo_cb := sx7 _ (List.mem_of_getElem? (i := 0) rfl)
  have ne_b1_cb := nz lt7_b1 szo_cb
  have ne_a2_cb := nz lt7_a2 szo_cb
  have ne_d2_cb := nz lt7_d2 szo_cb
  have ne_a3_cb := nz lt7_a3 szo_cb
  have ne_d3_cb := nz lt7_d3 szo_cb
  have ne_pl_cb := nz lt7_pl szo_cb
  have ne_en_cb := nz lt7_en szo_cb
  have ne_te_cb := nz lt7_te szo_cb
  have ne_fi_cb := nz lt7_fi szo_cb
  have ne_tf_cb := nz lt7_tf szo_cb
  have ne_me_cb := nz lt7_me szo_cb
  have ne_tm_cb := nz lt7_tm szo_cb
  have ne_mp_cb := nz lt7_mp szo_cb
  have ne_b5_cb := nz lt7_b5 szo_cb
  have g_cb := Nat.le_trans zh7 szo_cb
  have szo_tc := sx7 _ (List.mem_of_getElem? (i := 1) rfl)
  have ne_b1_tc := nz lt7_b1 szo_tc
  have ne_a2_tc := nz lt7_a2 szo_tc
  have ne_d2_tc := nz lt7_d2 szo_tc
  have ne_a3_tc := nz lt7_a3 szo_tc
  have ne_d3_tc := nz lt7_d3 szo_tc
  have ne_pl_tc := nz lt7_pl szo_tc
  have ne_en_tc := nz lt7_en szo_tc
  have ne_te_tc := nz lt7_te szo_tc
  have ne_fi_tc := nz lt7_fi szo_tc
  have ne_tf_tc := nz lt7_tf szo_tc
  have ne_me_tc := nz lt7_me szo_tc
  have ne_tm_tc := nz lt7_tm szo_tc
  have ne_mp_tc := nz lt7_mp szo_tc
  have ne_b5_tc := nz lt7_b5 szo_tc
  have g_tc := Nat.le_trans zh7 szo_tc
  have szo_al := sx7 _ (List.mem_of_getElem? (i := 2) rfl)
  have ne_b1_al := nz lt7_b1 szo_al
  have ne_pl_al := nz lt7_pl szo_al
  have ne_en_al := nz lt7_en szo_al
  have ne_te_al := nz lt7_te szo_al
  have ne_me_al := nz lt7_me szo_al
  have ne_tm_al := nz lt7_tm szo_al
  have ne_mp_al := nz lt7_mp szo_al
  have ne_cb_al : cb ≠ al := nd7.1 _ (List.mem_of_getElem? (i := 1) rfl)
  have ne_tc_al : tc ≠ al := nd7.2.1 _ (List.mem_of_getElem? (i := 0) rfl)
  have Y_b5 := Yc7
  have Y_cb := Yb7
  have Y_al := Ya7
  refine g_astore (k := 6) (q := 34) (l' := #[.val (.int p0), .val (.int p1), .val (.int p2), .val (.int p3), .val (.int vp), .val (.ref b1), .val (.ref b5), .unset, .unset, .unset, .unset, .unset, .unset]) B3 X7 dK rfl rfl rfl ?_
  refine own_opx B3 X7 hw rfl N7 ZH Y_b5 Y_cb ne_b5_cb ne_b5_tc g_cb g_tc hv4 (fun T8 h8 L8 cs0 hv3 X8 e8 N8 K8 Yq8 => ?_)
  have sk8 : ∀ x ∈ ([cb, tc] : List Addr), Safe Z own_EL T3.vm T7.heap x := (sfS (Safe.exa B3.hZ.alike Y_cb.1 dD dD) (sfS (own_Safe256 (own_EWS hw) B3.hZ Y_cb.2.2.2.1) sf0))
  have DD := DD.keep K8 sk8
  have Y_a2 := Y_a2.keep K8 (ninS ne_a2_cb (ninS ne_a2_tc nin0)) (ninS ne_d2_cb (ninS ne_d2_tc nin0))
  have Y_a3 := Y_a3.keep K8 (ninS ne_a3_cb (ninS ne_a3_tc nin0)) (ninS ne_d3_cb (ninS ne_d3_tc nin0))
  have Y_b1 := Y_b1.keep K8 (ninS ne_b1_cb (ninS ne_b1_tc nin0))
  have Y_pl := Y_pl.keep K8 (ninS ne_pl_cb (ninS ne_pl_tc nin0))
  have Y_en := Y_en.keep K8 (ninS ne_en_cb (ninS ne_en_tc nin0)) (ninS ne_te_cb (ninS ne_te_tc nin0))
  have Y_fi := Y_fi.keep K8 (ninS ne_fi_cb (ninS ne_fi_tc nin0)) (ninS ne_tf_cb (ninS ne_tf_tc nin0))
  have Y_me := Y_me.keep K8 (ninS ne_me_cb (ninS ne_me_tc nin0)) (ninS ne_tm_cb (ninS ne_tm_tc nin0))
  have Y_mp := Y_mp.keep K8 (ninS ne_mp_cb (ninS ne_mp_tc nin0)) (ninS ne_mp_cb (ninS ne_mp_tc nin0))
  have Y_b5 := Y_b5.keep K8 (ninS ne_b5_cb (ninS ne_b5_tc nin0))
  have Y_al := Y_al.keep K8 (ninS (Ne.symm ne_cb_al) (ninS (Ne.symm ne_tc_al) nin0))
  have I_d2 := I_d2.keep K8
  have I_d3 := I_d3.keep K8
  have I_te := I_te.keep K8
  have I_tf := I_tf.keep K8
  have I_tm := I_tm.keep K8
  have ZH := Nat.le_trans ZH K8.1
  have OO := OO.keep K8 (allS g_cb (allS g_tc all0))
  have Y_cb := Yq8
  have hl0 := own_v3l hv3
  refine g_aload (k := 6) (q := 71) B3 X8 dK rfl rfl rfl ?_
  refine g_iloadN (k := 0) (q := 72) B3 X8 dK rfl rfl ?_
  refine g_callV (i := 30) (W := 0) (q := 75) (a := b5) (argsL := [(.int p0)]) (rest := []) B3 X8 (y := yy54) (kw hw 121 rfl) (kw hw 122 rfl) (kw hw 124 rfl) (kw hw 123 rfl) (kw hw 68 rfl) (kw hw 125 rfl) dD e8 Y_b5.1 (rmBr l Z a0 hw [] b5 cb al tc cs0 p0 h8 n0 ZH Y_b5 Y_cb ne_b5_cb ne_b5_tc g_cb g_tc (by first | omega | (simp only [List.length_append, List.length_cons, List.length_nil, own_u2, own_u4] at *; omega))) dK rfl rfl (lenOf pd_9 rfl) (Nat.le_of_eq rfl) rfl dD dD dD dD rfl (fun _ L9 T9 X9 hQ9 => ?_)
  obtain ⟨rfl, Nq9, K9, Yq9_0⟩ := hQ9
  have N9 := Fr.app N8 Nq9
  have sk9 : ∀ x ∈ ([cb, tc] : List Addr), Safe Z own_EL T3.vm h8 x := (sfS (Safe.exa B3.hZ.alike Y_cb.1 dD dD) (sfS (own_Safe256 (own_EWS hw) B3.hZ Y_cb.2.2.2.1) sf0))
  have DD := DD.keep K9 sk9
  have Y_a2 := Y_a2.keep K9 (ninS ne_a2_cb (ninS ne_a2_tc nin0)) (ninS ne_d2_cb (ninS ne_d2_tc nin0))
  have Y_a3 := Y_a3.keep K9 (ninS ne_a3_cb (ninS ne_a3_tc nin0)) (ninS ne_d3_cb (ninS ne_d3_tc nin0))
  have Y_b1 := Y_b1.keep K9 (ninS ne_b1_cb (ninS ne_b1_tc nin0))
  have Y_pl := Y_pl.keep K9 (ninS ne_pl_cb (ninS ne_pl_tc nin0))
  have Y_en := Y_en.keep K9 (ninS ne_en_cb (ninS ne_en_tc nin0)) (ninS ne_te_cb (ninS ne_te_tc nin0))
  have Y_fi := Y_fi.keep K9 (ninS ne_fi_cb (ninS ne_fi_tc nin0)) (ninS ne_tf_cb (ninS ne_tf_tc nin0))
  have Y_me := Y_me.keep K9 (ninS ne_me_cb (ninS ne_me_tc nin0)) (ninS ne_tm_cb (ninS ne_tm_tc nin0))
  have Y_mp := Y_mp.keep K9 (ninS ne_mp_cb (ninS ne_mp_tc nin0)) (ninS ne_mp_cb (ninS ne_mp_tc nin0))
  have Y_b5 := Y_b5.keep K9 (ninS ne_b5_cb (ninS ne_b5_tc nin0))
  have Y_al := Y_al.keep K9 (ninS (Ne.symm ne_cb_al) (ninS (Ne.symm ne_tc_al) nin0))
  have I_d2 := I_d2.keep K9
  have I_d3 := I_d3.keep K9
  have I_te := I_te.keep K9
  have I_tf := I_tf.keep K9
  have I_tm := I_tm.keep K9
  have ZH := Nat.le_trans ZH K9.1
  have OO := OO.keep K9 (allS g_cb (allS g_tc all0))
  have Y_cb := Yq9_0
  refine g_istore (k := 7) (q := 77) (l' := #[.val (.int p0), .val (.int p1), .val (.int p2), .val (.int p3), .val (.int vp), .val (.ref b1), .val (.ref b5), .val (.int (Int32.ofNat cs0.length)), .unset, .unset, .unset, .unset, .unset]) B3 X9 dK rfl rfl ?_
  refine g_aload (k := 6) (q := 79) B3 X9 dK rfl rfl rfl ?_
  refine g_iloadN (k := 3) (q := 80) B3 X9 dK rfl rfl ?_
  refine g_callV (i := 26) (W := 0) (q := 83) (a := b5) (argsL := [(.int p3)]) (rest := []) B3 X9 (y := yy4) (kw hw 109 rfl) (kw hw 110 rfl) (kw hw 112 rfl) (kw hw 111 rfl) (kw hw 68 rfl) (kw hw 113 rfl) dD rfl Y_b5.1 (rmOp l Z a0 hw [] b5 cb al tc ((cs0 ++ [own_b8 p0]) ++ own_u2 (0 : Int32)) p3 T9.heap n0 ZH Y_b5 Y_cb ne_b5_cb ne_b5_tc g_cb g_tc (by first | omega | (simp only [List.length_append, List.length_cons, List.length_nil, own_u2, own_u4] at *; omega))) dK rfl rfl (lenOf pd_0 rfl) (Nat.le_of_eq rfl) rfl dD dD dD dD rfl (fun _ L10 T10 X10 hQ10 => ?_)
  obtain ⟨rfl, Nq10, K10, Yq10_0⟩ := hQ10
  have N10 := Fr.app N9 Nq10
  have sk10 : ∀ x ∈ ([cb, tc] : List Addr), Safe Z own_EL T3.vm T9.heap x := (sfS (Safe.exa B3.hZ.alike Y_cb.1 dD dD) (sfS (own_Safe256 (own_EWS hw) B3.hZ Y_cb.2.2.2.1) sf0))
  have DD := DD.keep K10 sk10
  have Y_a2 := Y_a2.keep K10 (ninS ne_a2_cb (ninS ne_a2_tc nin0)) (ninS ne_d2_cb (ninS ne_d2_tc nin0))
  have Y_a3 := Y_a3.keep K10 (ninS ne_a3_cb (ninS ne_a3_tc nin0)) (ninS ne_d3_cb (ninS ne_d3_tc nin0))
  have Y_b1 := Y_b1.keep K10 (ninS ne_b1_cb (ninS ne_b1_tc nin0))
  have Y_pl := Y_pl.keep K10 (ninS ne_pl_cb (ninS ne_pl_tc nin0))
  have Y_en := Y_en.keep K10 (ninS ne_en_cb (ninS ne_en_tc nin0)) (ninS ne_te_cb (ninS ne_te_tc nin0))
  have Y_fi := Y_fi.keep K10 (ninS ne_fi_cb (ninS ne_fi_tc nin0)) (ninS ne_tf_cb (ninS ne_tf_tc nin0))
  have Y_me := Y_me.keep K10 (ninS ne_me_cb (ninS ne_me_tc nin0)) (ninS ne_tm_cb (ninS ne_tm_tc nin0))
  have Y_mp := Y_mp.keep K10 (ninS ne_mp_cb (ninS ne_mp_tc nin0)) (ninS ne_mp_cb (ninS ne_mp_tc nin0))
  have Y_b5 := Y_b5.keep K10 (ninS ne_b5_cb (ninS ne_b5_tc nin0))
  have Y_al := Y_al.keep K10 (ninS (Ne.symm ne_cb_al) (ninS (Ne.symm ne_tc_al) nin0))
  have I_d2 := I_d2.keep K10
  have I_d3 := I_d3.keep K10
  have I_te := I_te.keep K10
  have I_tf := I_tf.keep K10
  have I_tm := I_tm.keep K10
  have ZH := Nat.le_trans ZH K10.1
  have OO := OO.keep K10 (allS g_cb (allS g_tc all0))
  have Y_cb := Yq10_0
  refine g_aload (k := 5) (q := 85) B3 X10 dK rfl rfl rfl ?_
  refine g_wldc (i := 34) (nn := 4) (text := "m") (cs := [Int32.ofNat 109]) (q := 87) B3 X10 DD (own_EWS hw).ew (kw hw 137 rfl) (own_WS hw) (List.mem_of_getElem? (i := 4) rfl) ⟨by decide, by decide⟩ dD rfl dK dD dD dD dD rfl (fun a11 d11 T11 h11 X11 B11 D11 e11 E11 Yq11 CR11 NE11 => ?_)
  have Y_a2 := Y_a2.ext E11
  have Y_a3 := Y_a3.ext E11
  have Y_b1 := Y_b1.ext E11
  have Y_pl := Y_pl.ext E11
  have Y_en := Y_en.ext E11
  have Y_fi := Y_fi.ext E11
  have Y_me := Y_me.ext E11
  have Y_mp := Y_mp.ext E11
  have Y_b5 := Y_b5.ext E11
  have Y_al := Y_al.ext E11
  have Y_cb := Y_cb.ext E11
  have I_d2 := I_d2.ext E11
  have I_d3 := I_d3.ext E11
  have I_te := I_te.ext E11
  have I_tf := I_tf.ext E11
  have I_tm := I_tm.ext E11
  have ZH := Nat.le_trans ZH E11.1
  have OO := OO.ext E11
  have DD := D11
  have Y_a11 := Yq11
  have ne_b1_a11 := (NE11 b1 (Safe.exa B11.hZ.alike Y_b1.1 dD dD)).1
  have ne_b1_d11 := (NE11 b1 (Safe.exa B11.hZ.alike Y_b1.1 dD dD)).2
  have ne_pl_a11 := (NE11 pl (Safe.exa B11.hZ.alike Y_pl.1 dD dD)).1
  have ne_pl_d11 := (NE11 pl (Safe.exa B11.hZ.alike Y_pl.1 dD dD)).2
  have ne_en_a11 := (NE11 en (Safe.exa B11.hZ.alike Y_en.1 dD dD)).1
  have ne_en_d11 := (NE11 en (Safe.exa B11.hZ.alike Y_en.1 dD dD)).2
  have ne_te_a11 := (NE11 te (own_Safe256 (own_EWS hw) B11.hZ Y_en.2.2.2.1)).1
  have ne_te_d11 := (NE11 te (own_Safe256 (own_EWS hw) B11.hZ Y_en.2.2.2.1)).2
  have ne_me_a11 := (NE11 me (Safe.exa B11.hZ.alike Y_me.1 dD dD)).1
  have ne_me_d11 := (NE11 me (Safe.exa B11.hZ.alike Y_me.1 dD dD)).2
  have ne_tm_a11 := (NE11 tm (own_Safe256 (own_EWS hw) B11.hZ Y_me.2.2.2.1)).1
  have ne_tm_d11 := (NE11 tm (own_Safe256 (own_EWS hw) B11.hZ Y_me.2.2.2.1)).2
  have ne_mp_a11 := (NE11 mp (own_Mp.safeT B11.hZ.alike Y_mp)).1
  have ne_mp_d11 := (NE11 mp (own_Mp.safeT B11.hZ.alike Y_mp)).2
  refine g_wldc (i := 36) (nn := 12) (text := "()V") (cs := [Int32.ofNat 40, Int32.ofNat 41, Int32.ofNat 86]) (q := 89) B11 X11 DD (own_EWS hw).ew (kw hw 138 rfl) (own_WS hw) (List.mem_of_getElem? (i := 5) rfl) ⟨by decide, by decide⟩ dD e11 dK dD dD dD dD rfl (fun a12 d12 T12 h12 X12 B12 D12 e12 E12 Yq12 CR12 NE12 => ?_)
  have Y_a2 := Y_a2.ext E12
  have Y_a3 := Y_a3.ext E12
  have Y_b1 := Y_b1.ext E12
  have Y_pl := Y_pl.ext E12
  have Y_en := Y_en.ext E12
  have Y_fi := Y_fi.ext E12
  have Y_me := Y_me.ext E12
  have Y_mp := Y_mp.ext E12
  have Y_b5 := Y_b5.ext E12
  have Y_al := Y_al.ext E12
  have Y_cb := Y_cb.ext E12
  have Y_a11 := Y_a11.ext E12
  have I_d2 := I_d2.ext E12
  have I_d3 := I_d3.ext E12
  have I_te := I_te.ext E12
  have I_tf := I_tf.ext E12
  have I_tm := I_tm.ext E12
  have ZH := Nat.le_trans ZH E12.1
  have OO := OO.ext E12
  have DD := D12
  have Y_a12 := Yq12
  have ne_b1_a12 := (NE12 b1 (Safe.exa B12.hZ.alike Y_b1.1 dD dD)).1
  have ne_b1_d12 := (NE12 b1 (Safe.exa B12.hZ.alike Y_b1.1 dD dD)).2
  have ne_pl_a12 := (NE12 pl (Safe.exa B12.hZ.alike Y_pl.1 dD dD)).1
  have ne_pl_d12 := (NE12 pl (Safe.exa B12.hZ.alike Y_pl.1 dD dD)).2
  have ne_en_a12 := (NE12 en (Safe.exa B12.hZ.alike Y_en.1 dD dD)).1
  have ne_en_d12 := (NE12 en (Safe.exa B12.hZ.alike Y_en.1 dD dD)).2
  have ne_te_a12 := (NE12 te (own_Safe256 (own_EWS hw) B12.hZ Y_en.2.2.2.1)).1
  have ne_te_d12 := (NE12 te (own_Safe256 (own_EWS hw) B12.hZ Y_en.2.2.2.1)).2
  have ne_me_a12 := (NE12 me (Safe.exa B12.hZ.alike Y_me.1 dD dD)).1
  have ne_me_d12 := (NE12 me (Safe.exa B12.hZ.alike Y_me.1 dD dD)).2
  have ne_tm_a12 := (NE12 tm (own_Safe256 (own_EWS hw) B12.hZ Y_me.2.2.2.1)).1
  have ne_tm_d12 := (NE12 tm (own_Safe256 (own_EWS hw) B12.hZ Y_me.2.2.2.1)).2
  have ne_mp_a12 := (NE12 mp (own_Mp.safeT B12.hZ.alike Y_mp)).1
  have ne_mp_d12 := (NE12 mp (own_Mp.safeT B12.hZ.alike Y_mp)).2
  refine g_aload (k := 6) (q := 91) B12 X12 dK rfl rfl rfl ?_
  refine g_iconst (o := 1) (q := 92) (v := 1) B12 X12 dK rfl rfl ?_
  refine g_iconst (o := 1) (q := 93) (v := 1) B12 X12 dK rfl rfl ?_
  refine g_wcallV (i := 37) (W := 0) (q := 96) (a := b1) (argsL := [(.ref a11), (.ref a12), (.ref b5), (.int (1 : Int32)), (.int (1 : Int32))]) (rest := []) B12 X12 DD (own_EWS hw).ew (y := yy86) (kw hw 139 rfl) (kw hw 140 rfl) (kw hw 142 rfl) (kw hw 141 rfl) (kw hw 2 rfl) (kw hw 143 rfl) dD e12 Y_b1.1 (rmMe l Z a0 hw [] cz fv ev dg ca cg b1 pl en te mp mp me tm fi a2 a3 a11 d11 a12 d12 b5 cb tc al (((cs0 ++ [own_b8 p0]) ++ own_u2 (0 : Int32)) ++ [own_b8 p3]) (((cs0 ++ [own_b8 p0]) ++ own_u2 (0 : Int32)) ++ [own_b8 p3]).length h12 n0 ZH OO HW Y_b1 Y_pl Y_en Y_me Y_a11 Y_a12 Y_b5 Y_cb Y_al Y_mp ne_b1_pl ne_b1_en ne_b1_te ne_b1_mp ne_b1_mp ne_b1_me ne_b1_tm ne_pl_en ne_pl_te ne_pl_mp ne_pl_mp ne_pl_me ne_pl_tm ne_en_mp ne_en_mp ne_en_me ne_en_tm ne_te_mp ne_te_mp ne_te_me ne_te_tm ne_mp_me ne_mp_tm ne_mp_me ne_mp_tm (Ne.symm ne_b1_a11) (Ne.symm ne_pl_a11) (Ne.symm ne_en_a11) (Ne.symm ne_te_a11) (Ne.symm ne_mp_a11) (Ne.symm ne_mp_a11) (Ne.symm ne_me_a11) (Ne.symm ne_tm_a11) (Ne.symm ne_b1_d11) (Ne.symm ne_pl_d11) (Ne.symm ne_en_d11) (Ne.symm ne_te_d11) (Ne.symm ne_mp_d11) (Ne.symm ne_mp_d11) (Ne.symm ne_me_d11) (Ne.symm ne_tm_d11) (Ne.symm ne_b1_a12) (Ne.symm ne_pl_a12) (Ne.symm ne_en_a12) (Ne.symm ne_te_a12) (Ne.symm ne_mp_a12) (Ne.symm ne_mp_a12) (Ne.symm ne_me_a12) (Ne.symm ne_tm_a12) (Ne.symm ne_b1_d12) (Ne.symm ne_pl_d12) (Ne.symm ne_en_d12) (Ne.symm ne_te_d12) (Ne.symm ne_mp_d12) (Ne.symm ne_mp_d12) (Ne.symm ne_me_d12) (Ne.symm ne_tm_d12) (Ne.symm ne_b1_b5) (Ne.symm ne_pl_b5) (Ne.symm ne_en_b5) (Ne.symm ne_te_b5) (Ne.symm ne_mp_b5) (Ne.symm ne_mp_b5) (Ne.symm ne_me_b5) (Ne.symm ne_tm_b5) (Ne.symm ne_b1_cb) (Ne.symm ne_pl_cb) (Ne.symm ne_en_cb) (Ne.symm ne_te_cb) (Ne.symm ne_mp_cb) (Ne.symm ne_mp_cb) (Ne.symm ne_me_cb) (Ne.symm ne_tm_cb) (Ne.symm ne_b1_tc) (Ne.symm ne_pl_tc) (Ne.symm ne_en_tc) (Ne.symm ne_te_tc) (Ne.symm ne_mp_tc) (Ne.symm ne_mp_tc) (Ne.symm ne_me_tc) (Ne.symm ne_tm_tc) (Ne.symm ne_b1_al) (Ne.symm ne_pl_al) (Ne.symm ne_en_al) (Ne.symm ne_te_al) (Ne.symm ne_mp_al) (Ne.symm ne_mp_al) (Ne.symm ne_me_al) (Ne.symm ne_tm_al) g_b1 g_pl g_en g_te g_mp g_mp g_me g_tm rfl (by first | omega | (simp only [List.length_append, List.length_cons, List.length_nil, own_u2, own_u4] at *; omega)) (own_csb hv3)) dK rfl rfl (lenOf pd_53 rfl) (Nat.le_of_eq rfl) rfl dD dD dD dD rfl (fun _ L13 T13 X13 B13 D13 CR13 hQ13 => ?_)
  have zh13 := ZH
  have lt13_b1 := Y_b1.lt
  have lt13_a2 := Y_a2.lt
  have lt13_d2 := I_d2.lt
  have lt13_a3 := Y_a3.lt
  have lt13_d3 := I_d3.lt
  have lt13_pl := Y_pl.lt
  have lt13_en := Y_en.lt
  have lt13_te := I_te.lt
  have lt13_fi := Y_fi.lt
  have lt13_tf := I_tf.lt
  have lt13_me := Y_me.lt
  have lt13_tm := I_tm.lt
  obtain ⟨rfl, Nq13, K13, tb13, cq13, Yw13, Yp13, Ye13, Ym13, Yn13⟩ := hQ13
  have N13 := Fr.app N10 Nq13
  have Y_a2 := Y_a2.keep K13 (ninS (Ne.symm ne_b1_a2) (ninS ne_a2_pl (ninS ne_a2_en (ninS ne_a2_te (ninS ne_a2_mp (ninS ne_a2_mp (ninS ne_a2_me (ninS ne_a2_tm nin0)))))))) (ninS (Ne.symm ne_b1_d2) (ninS ne_d2_pl (ninS ne_d2_en (ninS ne_d2_te (ninS ne_d2_mp (ninS ne_d2_mp (ninS ne_d2_me (ninS ne_d2_tm nin0))))))))
  have Y_a3 := Y_a3.keep K13 (ninS (Ne.symm ne_b1_a3) (ninS ne_a3_pl (ninS ne_a3_en (ninS ne_a3_te (ninS ne_a3_mp (ninS ne_a3_mp (ninS ne_a3_me (ninS ne_a3_tm nin0)))))))) (ninS (Ne.symm ne_b1_d3) (ninS ne_d3_pl (ninS ne_d3_en (ninS ne_d3_te (ninS ne_d3_mp (ninS ne_d3_mp (ninS ne_d3_me (ninS ne_d3_tm nin0))))))))
  have Y_fi := Y_fi.keep K13 (ninS (Ne.symm ne_b1_fi) (ninS (Ne.symm ne_pl_fi) (ninS (Ne.symm ne_en_fi) (ninS (Ne.symm ne_te_fi) (ninS (Ne.symm ne_mp_fi) (ninS (Ne.symm ne_mp_fi) (ninS ne_fi_me (ninS ne_fi_tm nin0)))))))) (ninS (Ne.symm ne_b1_tf) (ninS (Ne.symm ne_pl_tf) (ninS (Ne.symm ne_en_tf) (ninS (Ne.symm ne_te_tf) (ninS (Ne.symm ne_mp_tf) (ninS (Ne.symm ne_mp_tf) (ninS ne_tf_me (ninS ne_tf_tm nin0))))))))
  have ZH := Nat.le_trans ZH K13.1
  have OO := OO.keep K13 (allS g_b1 (allS g_pl (allS g_en (allS g_te (allS g_mp (allS g_mp (allS g_me (allS g_tm all0))))))))
  have DD := D13
  have ne_b1_tb13 := own_ne2 cq13 ne_b1_mp lt13_b1
  have ne_a2_tb13 := own_ne2 cq13 ne_a2_mp lt13_a2
  have ne_d2_tb13 := own_ne2 cq13 ne_d2_mp lt13_d2
  have ne_a3_tb13 := own_ne2 cq13 ne_a3_mp lt13_a3
  have ne_d3_tb13 := own_ne2 cq13 ne_d3_mp lt13_d3
  have ne_pl_tb13 := own_ne2 cq13 ne_pl_mp lt13_pl
  have ne_en_tb13 := own_ne2 cq13 ne_en_mp lt13_en
  have ne_te_tb13 := own_ne2 cq13 ne_te_mp lt13_te
  have ne_fi_tb13 := own_ne2 cq13 (Ne.symm ne_mp_fi) lt13_fi
  have ne_tf_tb13 := own_ne2 cq13 (Ne.symm ne_mp_tf) lt13_tf
  have ne_me_tb13 := own_ne2 cq13 (Ne.symm ne_mp_me) lt13_me
  have ne_tm_tb13 := own_ne2 cq13 (Ne.symm ne_mp_tm) lt13_tm
  have g_tb13 := own_ge2 cq13 g_mp zh13
  have Y_b1 := Yw13
  have Y_pl := Yp13
  have Y_en := Ye13
  have Y_mp := Ym13
  have Y_me := Yn13
  refine g_aload (k := 5) (q := 98) B13 X13 dK rfl rfl rfl ?_
  refine g_wcallV (i := 41) (W := 0) (q := 101) (a := b1) (argsL := []) (rest := []) B13 X13 DD (own_EWS hw).ew (y := yy88) (kw hw 502 rfl) (kw hw 503 rfl) (kw hw 505 rfl) (kw hw 504 rfl) (kw hw 2 rfl) (kw hw 506 rfl) dD rfl Y_b1.1 (rmTY l Z a0 hw [] cz fv ev dg ca cg pl en te mp tb13 b1 fi tf me tm a2 d2 a3 d3 (own_ms (((cs0 ++ [own_b8 p0]) ++ own_u2 (0 : Int32)) ++ [own_b8 p3]).length (((cs0 ++ [own_b8 p0]) ++ own_u2 (0 : Int32)) ++ [own_b8 p3])) T13.heap n0 ZH OO HW Y_b1 Y_pl Y_en Y_fi Y_me Y_a2 Y_a3 Y_mp ne_pl_en ne_pl_te ne_pl_mp ne_pl_tb13 ne_en_mp ne_en_tb13 ne_te_mp ne_te_tb13 ne_b1_pl ne_b1_en ne_b1_te ne_b1_mp ne_b1_tb13 (Ne.symm ne_pl_fi) (Ne.symm ne_en_fi) (Ne.symm ne_te_fi) (Ne.symm ne_mp_fi) ne_fi_tb13 (Ne.symm ne_pl_tf) (Ne.symm ne_en_tf) (Ne.symm ne_te_tf) (Ne.symm ne_mp_tf) ne_tf_tb13 (Ne.symm ne_pl_me) (Ne.symm ne_en_me) (Ne.symm ne_te_me) (Ne.symm ne_mp_me) ne_me_tb13 (Ne.symm ne_pl_tm) (Ne.symm ne_en_tm) (Ne.symm ne_te_tm) (Ne.symm ne_mp_tm) ne_tm_tb13 ne_a2_pl ne_a2_en ne_a2_te ne_a2_mp ne_a2_tb13 ne_d2_pl ne_d2_en ne_d2_te ne_d2_mp ne_d2_tb13 ne_a3_pl ne_a3_en ne_a3_te ne_a3_mp ne_a3_tb13 ne_d3_pl ne_d3_en ne_d3_te ne_d3_mp ne_d3_tb13 g_pl g_en g_te g_mp g_tb13 (own_msb (own_csb hv3)) (by rw [own_msl]; simp only [List.length_append, List.length_cons, List.length_nil, own_u2]; omega)) dK rfl rfl (lenOf pd_22 rfl) (Nat.le_of_eq rfl) rfl dD dD dD dD rfl (fun _ L14 T14 X14 B14 D14 CR14 hQ14 => ?_)
  obtain ⟨rb, PP, rfl, Nq14, K14, hPP, G_rb⟩ := hQ14
  have N14 := Fr.app N13 Nq14
  have DD := D14
  refine g_astore (k := 8) (q := 103) (l' := #[.val (.int p0), .val (.int p1), .val (.int p2), .val (.int p3), .val (.int vp), .val (.ref b1), .val (.ref b5), .val (.int (Int32.ofNat cs0.length)), .val (.ref rb), .unset, .unset, .unset, .unset]) B14 X14 dK rfl rfl rfl ?_
  rcases hv3 with ⟨rfl, rfl⟩ | ⟨rfl, rfl⟩ | ⟨rfl, rfl⟩ | ⟨rfl, rfl⟩
  · have rk := own_rk0 hPP p0 p2 p3
    have G_rb : own_Arf Z T14.heap rb .byte (100 : Int32) (fun i => .int (own_L ((PP ++ (own_ms ((([] ++ [own_b8 p0]) ++ own_u2 (0 : Int32)) ++ [own_b8 p3]).length ((([] ++ [own_b8 p0]) ++ own_u2 (0 : Int32)) ++ [own_b8 p3]))) ++ own_u2 (0 : Int32)) i)) := own_Gl G_rb rk.1
    show own_Go p.tables e below _ (State.setTop _ (mkF m 103 #[.val (.int p0), .val (.int p1), .val (.int p2), .val (.int p3), .val (.int (0 : Int32)), .val (.ref b1), .val (.ref b5), .val (.int (0 : Int32)), .val (.ref rb), .unset, .unset, .unset, .unset] []))
    refine g_iload (k := 4) (q := 105) B14 X14 dK rfl rfl ?_
    refine g_iconst (o := 4) (q := 106) (v := 4) B14 X14 dK rfl rfl ?_
    refine g_iadd (q := 107) (v := (4 : Int32)) B14 X14 dK rfl rfl ?_
    refine g_istore (k := 9) (q := 109) (l' := #[.val (.int p0), .val (.int p1), .val (.int p2), .val (.int p3), .val (.int (0 : Int32)), .val (.ref b1), .val (.ref b5), .val (.int (0 : Int32)), .val (.ref rb), .val (.int (4 : Int32)), .unset, .unset, .unset]) B14 X14 dK rfl rfl ?_
    refine g_aload (k := 8) (q := 111) B14 X14 dK rfl rfl rfl ?_
    refine g_alen (q := 112) B14 X14 rfl G_rb dK rfl ?_
    refine g_bipush (o := 6) (q := 114) (v := 6) B14 X14 dK rfl rfl ?_
    refine g_isub (q := 115) (v := (94 : Int32)) B14 X14 dK rfl rfl ?_
    refine g_iload (k := 9) (q := 117) B14 X14 dK rfl rfl ?_
    refine g_isub (q := 118) (v := (90 : Int32)) B14 X14 dK rfl rfl ?_
    refine g_istore (k := 10) (q := 120) (l' := #[.val (.int p0), .val (.int p1), .val (.int p2), .val (.int p3), .val (.int (0 : Int32)), .val (.ref b1), .val (.ref b5), .val (.int (0 : Int32)), .val (.ref rb), .val (.int (4 : Int32)), .val (.int (90 : Int32)), .unset, .unset]) B14 X14 dK rfl rfl ?_
    refine g_iload (k := 7) (q := 122) B14 X14 dK rfl rfl ?_
    refine g_iload (k := 4) (q := 124) B14 X14 dK rfl rfl ?_
    refine g_icmpNo (cd := .ne) (o := 7) (q := 127) B14 X14 dK ((teq (by decide : (0 : Int32) = (0 : Int32))).2) rfl ?_
    refine g_iconst (o := 1) (q := 128) (v := 1) B14 X14 dK rfl rfl ?_
    refine g_goto (o := 4) (q := 132) B14 X14 dK dD dD ?_
    refine g_istore (k := 11) (q := 134) (l' := #[.val (.int p0), .val (.int p1), .val (.int p2), .val (.int p3), .val (.int (0 : Int32)), .val (.ref b1), .val (.ref b5), .val (.int (0 : Int32)), .val (.ref rb), .val (.int (4 : Int32)), .val (.int (90 : Int32)), .val (.int (1 : Int32)), .unset]) B14 X14 dK rfl rfl ?_
    refine g_iload (k := 11) (q := 136) B14 X14 dK rfl rfl ?_
    refine g_ifNo (cd := .eq) (o := 50) (q := 139) B14 X14 dK (((if0 _ _).trans (feq (by decide : ¬ ((1 : Int32) = (0 : Int32)))).1)) rfl ?_
    refine g_aload (k := 8) (q := 141) B14 X14 dK rfl rfl rfl ?_
    refine g_iload (k := 10) (q := 143) B14 X14 dK rfl rfl ?_
    refine g_iconst (o := 4) (q := 144) (v := 4) B14 X14 dK rfl rfl ?_
    refine g_isub (q := 145) (v := (86 : Int32)) B14 X14 dK rfl rfl ?_
    refine g_baload (q := 146) (u := (.int (0 : Int32))) B14 X14 rfl G_rb dD dD (congrArg Value.int rk.2.1) dK rfl ?_
    refine g_ifNo (cd := .ne) (o := 40) (q := 149) B14 X14 dK (((if0 _ _).trans (teq (by decide : (0 : Int32) = (0 : Int32))).2)) rfl ?_
    refine g_aload (k := 8) (q := 151) B14 X14 dK rfl rfl rfl ?_
    refine g_iload (k := 10) (q := 153) B14 X14 dK rfl rfl ?_
    refine g_iconst (o := 3) (q := 154) (v := 3) B14 X14 dK rfl rfl ?_
    refine g_isub (q := 155) (v := (87 : Int32)) B14 X14 dK rfl rfl ?_
    refine g_baload (q := 156) (u := (.int (0 : Int32))) B14 X14 rfl G_rb dD dD (congrArg Value.int rk.2.2.1) dK rfl ?_
    refine g_ifNo (cd := .ne) (o := 30) (q := 159) B14 X14 dK (((if0 _ _).trans (teq (by decide : (0 : Int32) = (0 : Int32))).2)) rfl ?_
    refine g_aload (k := 8) (q := 161) B14 X14 dK rfl rfl rfl ?_
    refine g_iload (k := 10) (q := 163) B14 X14 dK rfl rfl ?_
    refine g_iconst (o := 2) (q := 164) (v := 2) B14 X14 dK rfl rfl ?_
    refine g_isub (q := 165) (v := (88 : Int32)) B14 X14 dK rfl rfl ?_
    refine g_baload (q := 166) (u := (.int (0 : Int32))) B14 X14 rfl G_rb dD dD (congrArg Value.int rk.2.2.2.1) dK rfl ?_
    refine g_ifNo (cd := .ne) (o := 20) (q := 169) B14 X14 dK (((if0 _ _).trans (teq (by decide : (0 : Int32) = (0 : Int32))).2)) rfl ?_
    refine g_aload (k := 8) (q := 171) B14 X14 dK rfl rfl rfl ?_
    refine g_iload (k := 10) (q := 173) B14 X14 dK rfl rfl ?_
    refine g_iconst (o := 1) (q := 174) (v := 1) B14 X14 dK rfl rfl ?_
    refine g_isub (q := 175) (v := (89 : Int32)) B14 X14 dK rfl rfl ?_
    refine g_baload (q := 176) (u := (.int (4 : Int32))) B14 X14 rfl G_rb dD dD (congrArg Value.int rk.2.2.2.2.1) dK rfl ?_
    refine g_iload (k := 9) (q := 178) B14 X14 dK rfl rfl ?_
    refine g_i2b (q := 179) (v := (4 : Int32)) B14 X14 dK rfl rfl ?_
    refine g_icmpNo (cd := .ne) (o := 7) (q := 182) B14 X14 dK ((teq (by decide : (4 : Int32) = (4 : Int32))).2) rfl ?_
    refine g_iconst (o := 1) (q := 183) (v := 1) B14 X14 dK rfl rfl ?_
    refine g_goto (o := 4) (q := 187) B14 X14 dK dD dD ?_
    refine g_istore (k := 11) (q := 189) (l' := #[.val (.int p0), .val (.int p1), .val (.int p2), .val (.int p3), .val (.int (0 : Int32)), .val (.ref b1), .val (.ref b5), .val (.int (0 : Int32)), .val (.ref rb), .val (.int (4 : Int32)), .val (.int (90 : Int32)), .val (.int (1 : Int32)), .unset]) B14 X14 dK rfl rfl ?_
    refine g_iloadN (k := 2) (q := 190) B14 X14 dK rfl rfl ?_
    refine g_i2b (q := 191) B14 X14 dK rfl rfl ?_
    refine g_istore (k := 12) (q := 193) (l' := #[.val (.int p0), .val (.int p1), .val (.int p2), .val (.int p3), .val (.int (0 : Int32)), .val (.ref b1), .val (.ref b5), .val (.int (0 : Int32)), .val (.ref rb), .val (.int (4 : Int32)), .val (.int (90 : Int32)), .val (.int (1 : Int32)), .val (.int p2.toInt8.toInt32)]) B14 X14 dK rfl rfl ?_
    refine g_iload (k := 11) (q := 195) B14 X14 dK rfl rfl ?_
    refine g_ifNo (cd := .eq) (o := 59) (q := 198) B14 X14 dK (((if0 _ _).trans (feq (by decide : ¬ ((1 : Int32) = (0 : Int32)))).1)) rfl ?_
    refine g_iload (k := 4) (q := 200) B14 X14 dK rfl rfl ?_
    refine g_iconst (o := 1) (q := 201) (v := 1) B14 X14 dK rfl rfl ?_
    refine g_icmpYes (cd := .lt) (o := 13) (q := 214) B14 X14 dK ((tlt (by decide : (0 : Int32) < (1 : Int32))).1) dD dD ?_
    refine g_iload (k := 4) (q := 216) B14 X14 dK rfl rfl ?_
    refine g_iconst (o := 2) (q := 217) (v := 2) B14 X14 dK rfl rfl ?_
    refine g_icmpYes (cd := .lt) (o := 15) (q := 232) B14 X14 dK ((tlt (by decide : (0 : Int32) < (2 : Int32))).1) dD dD ?_
    refine g_iload (k := 4) (q := 234) B14 X14 dK rfl rfl ?_
    refine g_iconst (o := 3) (q := 235) (v := 3) B14 X14 dK rfl rfl ?_
    refine g_icmpYes (cd := .lt) (o := 15) (q := 250) B14 X14 dK ((tlt (by decide : (0 : Int32) < (3 : Int32))).1) dD dD ?_
    refine g_iconst (o := 1) (q := 251) (v := 1) B14 X14 dK rfl rfl ?_
    refine g_goto (o := 4) (q := 255) B14 X14 dK dD dD ?_
    refine g_istore (k := 11) (q := 257) (l' := #[.val (.int p0), .val (.int p1), .val (.int p2), .val (.int p3), .val (.int (0 : Int32)), .val (.ref b1), .val (.ref b5), .val (.int (0 : Int32)), .val (.ref rb), .val (.int (4 : Int32)), .val (.int (90 : Int32)), .val (.int (1 : Int32)), .val (.int p2.toInt8.toInt32)]) B14 X14 dK rfl rfl ?_
    refine g_iload (k := 11) (q := 259) B14 X14 dK rfl rfl ?_
    refine g_ifNo (cd := .eq) (o := 61) (q := 262) B14 X14 dK (((if0 _ _).trans (feq (by decide : ¬ ((1 : Int32) = (0 : Int32)))).1)) rfl ?_
    refine g_aload (k := 8) (q := 264) B14 X14 dK rfl rfl rfl ?_
    refine g_iload (k := 10) (q := 266) B14 X14 dK rfl rfl ?_
    refine g_iload (k := 4) (q := 268) B14 X14 dK rfl rfl ?_
    refine g_iadd (q := 269) (v := (90 : Int32)) B14 X14 dK rfl rfl ?_
    refine g_baload (q := 270) (u := (.int p0.toInt8.toInt32)) B14 X14 rfl G_rb dD dD (congrArg Value.int rk.2.2.2.2.2.1) dK rfl ?_
    refine g_iloadN (k := 0) (q := 271) B14 X14 dK rfl rfl ?_
    refine g_i2b (q := 272) B14 X14 dK rfl rfl ?_
    refine g_icmpNo (cd := .ne) (o := 48) (q := 275) B14 X14 dK ((teq (rfl : p0.toInt8.toInt32 = p0.toInt8.toInt32)).2) rfl ?_
    refine g_aload (k := 8) (q := 277) B14 X14 dK rfl rfl rfl ?_
    refine g_iload (k := 10) (q := 279) B14 X14 dK rfl rfl ?_
    refine g_iload (k := 4) (q := 281) B14 X14 dK rfl rfl ?_
    refine g_iadd (q := 282) (v := (90 : Int32)) B14 X14 dK rfl rfl ?_
    refine g_iconst (o := 1) (q := 283) (v := 1) B14 X14 dK rfl rfl ?_
    refine g_iadd (q := 284) (v := (91 : Int32)) B14 X14 dK rfl rfl ?_
    refine g_baload (q := 285) (u := (.int (0 : Int32))) B14 X14 rfl G_rb dD dD (congrArg Value.int rk.2.2.2.2.2.2.1) dK rfl ?_
    refine g_ifNo (cd := .ne) (o := 35) (q := 288) B14 X14 dK (((if0 _ _).trans (teq (by decide : (0 : Int32) = (0 : Int32))).2)) rfl ?_
    refine g_aload (k := 8) (q := 290) B14 X14 dK rfl rfl rfl ?_
    refine g_iload (k := 10) (q := 292) B14 X14 dK rfl rfl ?_
    refine g_iload (k := 4) (q := 294) B14 X14 dK rfl rfl ?_
    refine g_iadd (q := 295) (v := (90 : Int32)) B14 X14 dK rfl rfl ?_
    refine g_iconst (o := 2) (q := 296) (v := 2) B14 X14 dK rfl rfl ?_
    refine g_iadd (q := 297) (v := (92 : Int32)) B14 X14 dK rfl rfl ?_
    refine g_baload (q := 298) (u := (.int (0 : Int32))) B14 X14 rfl G_rb dD dD (congrArg Value.int rk.2.2.2.2.2.2.2.1) dK rfl ?_
    refine g_ifNo (cd := .ne) (o := 22) (q := 301) B14 X14 dK (((if0 _ _).trans (teq (by decide : (0 : Int32) = (0 : Int32))).2)) rfl ?_
    refine g_aload (k := 8) (q := 303) B14 X14 dK rfl rfl rfl ?_
    refine g_iload (k := 10) (q := 305) B14 X14 dK rfl rfl ?_
    refine g_iload (k := 4) (q := 307) B14 X14 dK rfl rfl ?_
    refine g_iadd (q := 308) (v := (90 : Int32)) B14 X14 dK rfl rfl ?_
    refine g_iconst (o := 3) (q := 309) (v := 3) B14 X14 dK rfl rfl ?_
    refine g_iadd (q := 310) (v := (93 : Int32)) B14 X14 dK rfl rfl ?_
    refine g_baload (q := 311) (u := (.int p3.toInt8.toInt32)) B14 X14 rfl G_rb dD dD (congrArg Value.int rk.2.2.2.2.2.2.2.2) dK rfl ?_
    refine g_iloadN (k := 3) (q := 312) B14 X14 dK rfl rfl ?_
    refine g_i2b (q := 313) B14 X14 dK rfl rfl ?_
    refine g_icmpNo (cd := .ne) (o := 7) (q := 316) B14 X14 dK ((teq (rfl : p3.toInt8.toInt32 = p3.toInt8.toInt32)).2) rfl ?_
    refine g_iconst (o := 1) (q := 317) (v := 1) B14 X14 dK rfl rfl ?_
    refine g_goto (o := 4) (q := 321) B14 X14 dK dD dD ?_
    refine g_istore (k := 11) (q := 323) (l' := #[.val (.int p0), .val (.int p1), .val (.int p2), .val (.int p3), .val (.int (0 : Int32)), .val (.ref b1), .val (.ref b5), .val (.int (0 : Int32)), .val (.ref rb), .val (.int (4 : Int32)), .val (.int (90 : Int32)), .val (.int (1 : Int32)), .val (.int p2.toInt8.toInt32)]) B14 X14 dK rfl rfl ?_
    refine g_iload (k := 11) (q := 325) B14 X14 dK rfl rfl ?_
    exact g_wretN B14 X14 DD (own_EWS hw).ew hh (by simp) dK dD dD rfl (by
      exact ⟨rfl, N14⟩)
  · have rk := own_rk1 hPP p0 p2 p3
    have G_rb : own_Arf Z T14.heap rb .byte (101 : Int32) (fun i => .int (own_L ((PP ++ (own_ms (((([] ++ [own_b8 p2]) ++ [own_b8 p0]) ++ own_u2 (0 : Int32)) ++ [own_b8 p3]).length (((([] ++ [own_b8 p2]) ++ [own_b8 p0]) ++ own_u2 (0 : Int32)) ++ [own_b8 p3]))) ++ own_u2 (0 : Int32)) i)) := own_Gl G_rb rk.1
    show own_Go p.tables e below _ (State.setTop _ (mkF m 103 #[.val (.int p0), .val (.int p1), .val (.int p2), .val (.int p3), .val (.int (1 : Int32)), .val (.ref b1), .val (.ref b5), .val (.int (1 : Int32)), .val (.ref rb), .unset, .unset, .unset, .unset] []))
    refine g_iload (k := 4) (q := 105) B14 X14 dK rfl rfl ?_
    refine g_iconst (o := 4) (q := 106) (v := 4) B14 X14 dK rfl rfl ?_
    refine g_iadd (q := 107) (v := (5 : Int32)) B14 X14 dK rfl rfl ?_
    refine g_istore (k := 9) (q := 109) (l' := #[.val (.int p0), .val (.int p1), .val (.int p2), .val (.int p3), .val (.int (1 : Int32)), .val (.ref b1), .val (.ref b5), .val (.int (1 : Int32)), .val (.ref rb), .val (.int (5 : Int32)), .unset, .unset, .unset]) B14 X14 dK rfl rfl ?_
    refine g_aload (k := 8) (q := 111) B14 X14 dK rfl rfl rfl ?_
    refine g_alen (q := 112) B14 X14 rfl G_rb dK rfl ?_
    refine g_bipush (o := 6) (q := 114) (v := 6) B14 X14 dK rfl rfl ?_
    refine g_isub (q := 115) (v := (95 : Int32)) B14 X14 dK rfl rfl ?_
    refine g_iload (k := 9) (q := 117) B14 X14 dK rfl rfl ?_
    refine g_isub (q := 118) (v := (90 : Int32)) B14 X14 dK rfl rfl ?_
    refine g_istore (k := 10) (q := 120) (l' := #[.val (.int p0), .val (.int p1), .val (.int p2), .val (.int p3), .val (.int (1 : Int32)), .val (.ref b1), .val (.ref b5), .val (.int (1 : Int32)), .val (.ref rb), .val (.int (5 : Int32)), .val (.int (90 : Int32)), .unset, .unset]) B14 X14 dK rfl rfl ?_
    refine g_iload (k := 7) (q := 122) B14 X14 dK rfl rfl ?_
    refine g_iload (k := 4) (q := 124) B14 X14 dK rfl rfl ?_
    refine g_icmpNo (cd := .ne) (o := 7) (q := 127) B14 X14 dK ((teq (by decide : (1 : Int32) = (1 : Int32))).2) rfl ?_
    refine g_iconst (o := 1) (q := 128) (v := 1) B14 X14 dK rfl rfl ?_
    refine g_goto (o := 4) (q := 132) B14 X14 dK dD dD ?_
    refine g_istore (k := 11) (q := 134) (l' := #[.val (.int p0), .val (.int p1), .val (.int p2), .val (.int p3), .val (.int (1 : Int32)), .val (.ref b1), .val (.ref b5), .val (.int (1 : Int32)), .val (.ref rb), .val (.int (5 : Int32)), .val (.int (90 : Int32)), .val (.int (1 : Int32)), .unset]) B14 X14 dK rfl rfl ?_
    refine g_iload (k := 11) (q := 136) B14 X14 dK rfl rfl ?_
    refine g_ifNo (cd := .eq) (o := 50) (q := 139) B14 X14 dK (((if0 _ _).trans (feq (by decide : ¬ ((1 : Int32) = (0 : Int32)))).1)) rfl ?_
    refine g_aload (k := 8) (q := 141) B14 X14 dK rfl rfl rfl ?_
    refine g_iload (k := 10) (q := 143) B14 X14 dK rfl rfl ?_
    refine g_iconst (o := 4) (q := 144) (v := 4) B14 X14 dK rfl rfl ?_
    refine g_isub (q := 145) (v := (86 : Int32)) B14 X14 dK rfl rfl ?_
    refine g_baload (q := 146) (u := (.int (0 : Int32))) B14 X14 rfl G_rb dD dD (congrArg Value.int rk.2.1) dK rfl ?_
    refine g_ifNo (cd := .ne) (o := 40) (q := 149) B14 X14 dK (((if0 _ _).trans (teq (by decide : (0 : Int32) = (0 : Int32))).2)) rfl ?_
    refine g_aload (k := 8) (q := 151) B14 X14 dK rfl rfl rfl ?_
    refine g_iload (k := 10) (q := 153) B14 X14 dK rfl rfl ?_
    refine g_iconst (o := 3) (q := 154) (v := 3) B14 X14 dK rfl rfl ?_
    refine g_isub (q := 155) (v := (87 : Int32)) B14 X14 dK rfl rfl ?_
    refine g_baload (q := 156) (u := (.int (0 : Int32))) B14 X14 rfl G_rb dD dD (congrArg Value.int rk.2.2.1) dK rfl ?_
    refine g_ifNo (cd := .ne) (o := 30) (q := 159) B14 X14 dK (((if0 _ _).trans (teq (by decide : (0 : Int32) = (0 : Int32))).2)) rfl ?_
    refine g_aload (k := 8) (q := 161) B14 X14 dK rfl rfl rfl ?_
    refine g_iload (k := 10) (q := 163) B14 X14 dK rfl rfl ?_
    refine g_iconst (o := 2) (q := 164) (v := 2) B14 X14 dK rfl rfl ?_
    refine g_isub (q := 165) (v := (88 : Int32)) B14 X14 dK rfl rfl ?_
    refine g_baload (q := 166) (u := (.int (0 : Int32))) B14 X14 rfl G_rb dD dD (congrArg Value.int rk.2.2.2.1) dK rfl ?_
    refine g_ifNo (cd := .ne) (o := 20) (q := 169) B14 X14 dK (((if0 _ _).trans (teq (by decide : (0 : Int32) = (0 : Int32))).2)) rfl ?_
    refine g_aload (k := 8) (q := 171) B14 X14 dK rfl rfl rfl ?_
    refine g_iload (k := 10) (q := 173) B14 X14 dK rfl rfl ?_
    refine g_iconst (o := 1) (q := 174) (v := 1) B14 X14 dK rfl rfl ?_
    refine g_isub (q := 175) (v := (89 : Int32)) B14 X14 dK rfl rfl ?_
    refine g_baload (q := 176) (u := (.int (5 : Int32))) B14 X14 rfl G_rb dD dD (congrArg Value.int rk.2.2.2.2.1) dK rfl ?_
    refine g_iload (k := 9) (q := 178) B14 X14 dK rfl rfl ?_
    refine g_i2b (q := 179) (v := (5 : Int32)) B14 X14 dK rfl rfl ?_
    refine g_icmpNo (cd := .ne) (o := 7) (q := 182) B14 X14 dK ((teq (by decide : (5 : Int32) = (5 : Int32))).2) rfl ?_
    refine g_iconst (o := 1) (q := 183) (v := 1) B14 X14 dK rfl rfl ?_
    refine g_goto (o := 4) (q := 187) B14 X14 dK dD dD ?_
    refine g_istore (k := 11) (q := 189) (l' := #[.val (.int p0), .val (.int p1), .val (.int p2), .val (.int p3), .val (.int (1 : Int32)), .val (.ref b1), .val (.ref b5), .val (.int (1 : Int32)), .val (.ref rb), .val (.int (5 : Int32)), .val (.int (90 : Int32)), .val (.int (1 : Int32)), .unset]) B14 X14 dK rfl rfl ?_
    refine g_iloadN (k := 2) (q := 190) B14 X14 dK rfl rfl ?_
    refine g_i2b (q := 191) B14 X14 dK rfl rfl ?_
    refine g_istore (k := 12) (q := 193) (l' := #[.val (.int p0), .val (.int p1), .val (.int p2), .val (.int p3), .val (.int (1 : Int32)), .val (.ref b1), .val (.ref b5), .val (.int (1 : Int32)), .val (.ref rb), .val (.int (5 : Int32)), .val (.int (90 : Int32)), .val (.int (1 : Int32)), .val (.int p2.toInt8.toInt32)]) B14 X14 dK rfl rfl ?_
    refine g_iload (k := 11) (q := 195) B14 X14 dK rfl rfl ?_
    refine g_ifNo (cd := .eq) (o := 59) (q := 198) B14 X14 dK (((if0 _ _).trans (feq (by decide : ¬ ((1 : Int32) = (0 : Int32)))).1)) rfl ?_
    refine g_iload (k := 4) (q := 200) B14 X14 dK rfl rfl ?_
    refine g_iconst (o := 1) (q := 201) (v := 1) B14 X14 dK rfl rfl ?_
    refine g_icmpNo (cd := .lt) (o := 13) (q := 204) B14 X14 dK ((flt (by decide : ¬ ((1 : Int32) < (1 : Int32)))).1) rfl ?_
    refine g_aload (k := 8) (q := 206) B14 X14 dK rfl rfl rfl ?_
    refine g_iload (k := 10) (q := 208) B14 X14 dK rfl rfl ?_
    refine g_baload (q := 209) (u := (.int p2.toInt8.toInt32)) B14 X14 rfl G_rb dD dD (congrArg Value.int rk.2.2.2.2.2.1) dK rfl ?_
    refine g_iload (k := 12) (q := 211) B14 X14 dK rfl rfl ?_
    refine g_icmpNo (cd := .ne) (o := 43) (q := 214) B14 X14 dK ((teq (rfl : p2.toInt8.toInt32 = p2.toInt8.toInt32)).2) rfl ?_
    refine g_iload (k := 4) (q := 216) B14 X14 dK rfl rfl ?_
    refine g_iconst (o := 2) (q := 217) (v := 2) B14 X14 dK rfl rfl ?_
    refine g_icmpYes (cd := .lt) (o := 15) (q := 232) B14 X14 dK ((tlt (by decide : (1 : Int32) < (2 : Int32))).1) dD dD ?_
    refine g_iload (k := 4) (q := 234) B14 X14 dK rfl rfl ?_
    refine g_iconst (o := 3) (q := 235) (v := 3) B14 X14 dK rfl rfl ?_
    refine g_icmpYes (cd := .lt) (o := 15) (q := 250) B14 X14 dK ((tlt (by decide : (1 : Int32) < (3 : Int32))).1) dD dD ?_
    refine g_iconst (o := 1) (q := 251) (v := 1) B14 X14 dK rfl rfl ?_
    refine g_goto (o := 4) (q := 255) B14 X14 dK dD dD ?_
    refine g_istore (k := 11) (q := 257) (l' := #[.val (.int p0), .val (.int p1), .val (.int p2), .val (.int p3), .val (.int (1 : Int32)), .val (.ref b1), .val (.ref b5), .val (.int (1 : Int32)), .val (.ref rb), .val (.int (5 : Int32)), .val (.int (90 : Int32)), .val (.int (1 : Int32)), .val (.int p2.toInt8.toInt32)]) B14 X14 dK rfl rfl ?_
    refine g_iload (k := 11) (q := 259) B14 X14 dK rfl rfl ?_
    refine g_ifNo (cd := .eq) (o := 61) (q := 262) B14 X14 dK (((if0 _ _).trans (feq (by decide : ¬ ((1 : Int32) = (0 : Int32)))).1)) rfl ?_
    refine g_aload (k := 8) (q := 264) B14 X14 dK rfl rfl rfl ?_
    refine g_iload (k := 10) (q := 266) B14 X14 dK rfl rfl ?_
    refine g_iload (k := 4) (q := 268) B14 X14 dK rfl rfl ?_
    refine g_iadd (q := 269) (v := (91 : Int32)) B14 X14 dK rfl rfl ?_
    refine g_baload (q := 270) (u := (.int p0.toInt8.toInt32)) B14 X14 rfl G_rb dD dD (congrArg Value.int rk.2.2.2.2.2.2.1) dK rfl ?_
    refine g_iloadN (k := 0) (q := 271) B14 X14 dK rfl rfl ?_
    refine g_i2b (q := 272) B14 X14 dK rfl rfl ?_
    refine g_icmpNo (cd := .ne) (o := 48) (q := 275) B14 X14 dK ((teq (rfl : p0.toInt8.toInt32 = p0.toInt8.toInt32)).2) rfl ?_
    refine g_aload (k := 8) (q := 277) B14 X14 dK rfl rfl rfl ?_
    refine g_iload (k := 10) (q := 279) B14 X14 dK rfl rfl ?_
    refine g_iload (k := 4) (q := 281) B14 X14 dK rfl rfl ?_
    refine g_iadd (q := 282) (v := (91 : Int32)) B14 X14 dK rfl rfl ?_
    refine g_iconst (o := 1) (q := 283) (v := 1) B14 X14 dK rfl rfl ?_
    refine g_iadd (q := 284) (v := (92 : Int32)) B14 X14 dK rfl rfl ?_
    refine g_baload (q := 285) (u := (.int (0 : Int32))) B14 X14 rfl G_rb dD dD (congrArg Value.int rk.2.2.2.2.2.2.2.1) dK rfl ?_
    refine g_ifNo (cd := .ne) (o := 35) (q := 288) B14 X14 dK (((if0 _ _).trans (teq (by decide : (0 : Int32) = (0 : Int32))).2)) rfl ?_
    refine g_aload (k := 8) (q := 290) B14 X14 dK rfl rfl rfl ?_
    refine g_iload (k := 10) (q := 292) B14 X14 dK rfl rfl ?_
    refine g_iload (k := 4) (q := 294) B14 X14 dK rfl rfl ?_
    refine g_iadd (q := 295) (v := (91 : Int32)) B14 X14 dK rfl rfl ?_
    refine g_iconst (o := 2) (q := 296) (v := 2) B14 X14 dK rfl rfl ?_
    refine g_iadd (q := 297) (v := (93 : Int32)) B14 X14 dK rfl rfl ?_
    refine g_baload (q := 298) (u := (.int (0 : Int32))) B14 X14 rfl G_rb dD dD (congrArg Value.int rk.2.2.2.2.2.2.2.2.1) dK rfl ?_
    refine g_ifNo (cd := .ne) (o := 22) (q := 301) B14 X14 dK (((if0 _ _).trans (teq (by decide : (0 : Int32) = (0 : Int32))).2)) rfl ?_
    refine g_aload (k := 8) (q := 303) B14 X14 dK rfl rfl rfl ?_
    refine g_iload (k := 10) (q := 305) B14 X14 dK rfl rfl ?_
    refine g_iload (k := 4) (q := 307) B14 X14 dK rfl rfl ?_
    refine g_iadd (q := 308) (v := (91 : Int32)) B14 X14 dK rfl rfl ?_
    refine g_iconst (o := 3) (q := 309) (v := 3) B14 X14 dK rfl rfl ?_
    refine g_iadd (q := 310) (v := (94 : Int32)) B14 X14 dK rfl rfl ?_
    refine g_baload (q := 311) (u := (.int p3.toInt8.toInt32)) B14 X14 rfl G_rb dD dD (congrArg Value.int rk.2.2.2.2.2.2.2.2.2) dK rfl ?_
    refine g_iloadN (k := 3) (q := 312) B14 X14 dK rfl rfl ?_
    refine g_i2b (q := 313) B14 X14 dK rfl rfl ?_
    refine g_icmpNo (cd := .ne) (o := 7) (q := 316) B14 X14 dK ((teq (rfl : p3.toInt8.toInt32 = p3.toInt8.toInt32)).2) rfl ?_
    refine g_iconst (o := 1) (q := 317) (v := 1) B14 X14 dK rfl rfl ?_
    refine g_goto (o := 4) (q := 321) B14 X14 dK dD dD ?_
    refine g_istore (k := 11) (q := 323) (l' := #[.val (.int p0), .val (.int p1), .val (.int p2), .val (.int p3), .val (.int (1 : Int32)), .val (.ref b1), .val (.ref b5), .val (.int (1 : Int32)), .val (.ref rb), .val (.int (5 : Int32)), .val (.int (90 : Int32)), .val (.int (1 : Int32)), .val (.int p2.toInt8.toInt32)]) B14 X14 dK rfl rfl ?_
    refine g_iload (k := 11) (q := 325) B14 X14 dK rfl rfl ?_
    exact g_wretN B14 X14 DD (own_EWS hw).ew hh (by simp) dK dD dD rfl (by
      exact ⟨rfl, N14⟩)
  · have rk := own_rk2 hPP p0 p2 p3
    have G_rb : own_Arf Z T14.heap rb .byte (102 : Int32) (fun i => .int (own_L ((PP ++ (own_ms ((((([] ++ [own_b8 p2]) ++ [own_b8 p2]) ++ [own_b8 p0]) ++ own_u2 (0 : Int32)) ++ [own_b8 p3]).length ((((([] ++ [own_b8 p2]) ++ [own_b8 p2]) ++ [own_b8 p0]) ++ own_u2 (0 : Int32)) ++ [own_b8 p3]))) ++ own_u2 (0 : Int32)) i)) := own_Gl G_rb rk.1
    show own_Go p.tables e below _ (State.setTop _ (mkF m 103 #[.val (.int p0), .val (.int p1), .val (.int p2), .val (.int p3), .val (.int (2 : Int32)), .val (.ref b1), .val (.ref b5), .val (.int (2 : Int32)), .val (.ref rb), .unset, .unset, .unset, .unset] []))
    refine g_iload (k := 4) (q := 105) B14 X14 dK rfl rfl ?_
    refine g_iconst (o := 4) (q := 106) (v := 4) B14 X14 dK rfl rfl ?_
    refine g_iadd (q := 107) (v := (6 : Int32)) B14 X14 dK rfl rfl ?_
    refine g_istore (k := 9) (q := 109) (l' := #[.val (.int p0), .val (.int p1), .val (.int p2), .val (.int p3), .val (.int (2 : Int32)), .val (.ref b1), .val (.ref b5), .val (.int (2 : Int32)), .val (.ref rb), .val (.int (6 : Int32)), .unset, .unset, .unset]) B14 X14 dK rfl rfl ?_
    refine g_aload (k := 8) (q := 111) B14 X14 dK rfl rfl rfl ?_
    refine g_alen (q := 112) B14 X14 rfl G_rb dK rfl ?_
    refine g_bipush (o := 6) (q := 114) (v := 6) B14 X14 dK rfl rfl ?_
    refine g_isub (q := 115) (v := (96 : Int32)) B14 X14 dK rfl rfl ?_
    refine g_iload (k := 9) (q := 117) B14 X14 dK rfl rfl ?_
    refine g_isub (q := 118) (v := (90 : Int32)) B14 X14 dK rfl rfl ?_
    refine g_istore (k := 10) (q := 120) (l' := #[.val (.int p0), .val (.int p1), .val (.int p2), .val (.int p3), .val (.int (2 : Int32)), .val (.ref b1), .val (.ref b5), .val (.int (2 : Int32)), .val (.ref rb), .val (.int (6 : Int32)), .val (.int (90 : Int32)), .unset, .unset]) B14 X14 dK rfl rfl ?_
    refine g_iload (k := 7) (q := 122) B14 X14 dK rfl rfl ?_
    refine g_iload (k := 4) (q := 124) B14 X14 dK rfl rfl ?_
    refine g_icmpNo (cd := .ne) (o := 7) (q := 127) B14 X14 dK ((teq (by decide : (2 : Int32) = (2 : Int32))).2) rfl ?_
    refine g_iconst (o := 1) (q := 128) (v := 1) B14 X14 dK rfl rfl ?_
    refine g_goto (o := 4) (q := 132) B14 X14 dK dD dD ?_
    refine g_istore (k := 11) (q := 134) (l' := #[.val (.int p0), .val (.int p1), .val (.int p2), .val (.int p3), .val (.int (2 : Int32)), .val (.ref b1), .val (.ref b5), .val (.int (2 : Int32)), .val (.ref rb), .val (.int (6 : Int32)), .val (.int (90 : Int32)), .val (.int (1 : Int32)), .unset]) B14 X14 dK rfl rfl ?_
    refine g_iload (k := 11) (q := 136) B14 X14 dK rfl rfl ?_
    refine g_ifNo (cd := .eq) (o := 50) (q := 139) B14 X14 dK (((if0 _ _).trans (feq (by decide : ¬ ((1 : Int32) = (0 : Int32)))).1)) rfl ?_
    refine g_aload (k := 8) (q := 141) B14 X14 dK rfl rfl rfl ?_
    refine g_iload (k := 10) (q := 143) B14 X14 dK rfl rfl ?_
    refine g_iconst (o := 4) (q := 144) (v := 4) B14 X14 dK rfl rfl ?_
    refine g_isub (q := 145) (v := (86 : Int32)) B14 X14 dK rfl rfl ?_
    refine g_baload (q := 146) (u := (.int (0 : Int32))) B14 X14 rfl G_rb dD dD (congrArg Value.int rk.2.1) dK rfl ?_
    refine g_ifNo (cd := .ne) (o := 40) (q := 149) B14 X14 dK (((if0 _ _).trans (teq (by decide : (0 : Int32) = (0 : Int32))).2)) rfl ?_
    refine g_aload (k := 8) (q := 151) B14 X14 dK rfl rfl rfl ?_
    refine g_iload (k := 10) (q := 153) B14 X14 dK rfl rfl ?_
    refine g_iconst (o := 3) (q := 154) (v := 3) B14 X14 dK rfl rfl ?_
    refine g_isub (q := 155) (v := (87 : Int32)) B14 X14 dK rfl rfl ?_
    refine g_baload (q := 156) (u := (.int (0 : Int32))) B14 X14 rfl G_rb dD dD (congrArg Value.int rk.2.2.1) dK rfl ?_
    refine g_ifNo (cd := .ne) (o := 30) (q := 159) B14 X14 dK (((if0 _ _).trans (teq (by decide : (0 : Int32) = (0 : Int32))).2)) rfl ?_
    refine g_aload (k := 8) (q := 161) B14 X14 dK rfl rfl rfl ?_
    refine g_iload (k := 10) (q := 163) B14 X14 dK rfl rfl ?_
    refine g_iconst (o := 2) (q := 164) (v := 2) B14 X14 dK rfl rfl ?_
    refine g_isub (q := 165) (v := (88 : Int32)) B14 X14 dK rfl rfl ?_
    refine g_baload (q := 166) (u := (.int (0 : Int32))) B14 X14 rfl G_rb dD dD (congrArg Value.int rk.2.2.2.1) dK rfl ?_
    refine g_ifNo (cd := .ne) (o := 20) (q := 169) B14 X14 dK (((if0 _ _).trans (teq (by decide : (0 : Int32) = (0 : Int32))).2)) rfl ?_
    refine g_aload (k := 8) (q := 171) B14 X14 dK rfl rfl rfl ?_
    refine g_iload (k := 10) (q := 173) B14 X14 dK rfl rfl ?_
    refine g_iconst (o := 1) (q := 174) (v := 1) B14 X14 dK rfl rfl ?_
    refine g_isub (q := 175) (v := (89 : Int32)) B14 X14 dK rfl rfl ?_
    refine g_baload (q := 176) (u := (.int (6 : Int32))) B14 X14 rfl G_rb dD dD (congrArg Value.int rk.2.2.2.2.1) dK rfl ?_
    refine g_iload (k := 9) (q := 178) B14 X14 dK rfl rfl ?_
    refine g_i2b (q := 179) (v := (6 : Int32)) B14 X14 dK rfl rfl ?_
    refine g_icmpNo (cd := .ne) (o := 7) (q := 182) B14 X14 dK ((teq (by decide : (6 : Int32) = (6 : Int32))).2) rfl ?_
    refine g_iconst (o := 1) (q := 183) (v := 1) B14 X14 dK rfl rfl ?_
    refine g_goto (o := 4) (q := 187) B14 X14 dK dD dD ?_
    refine g_istore (k := 11) (q := 189) (l' := #[.val (.int p0), .val (.int p1), .val (.int p2), .val (.int p3), .val (.int (2 : Int32)), .val (.ref b1), .val (.ref b5), .val (.int (2 : Int32)), .val (.ref rb), .val (.int (6 : Int32)), .val (.int (90 : Int32)), .val (.int (1 : Int32)), .unset]) B14 X14 dK rfl rfl ?_
    refine g_iloadN (k := 2) (q := 190) B14 X14 dK rfl rfl ?_
    refine g_i2b (q := 191) B14 X14 dK rfl rfl ?_
    refine g_istore (k := 12) (q := 193) (l' := #[.val (.int p0), .val (.int p1), .val (.int p2), .val (.int p3), .val (.int (2 : Int32)), .val (.ref b1), .val (.ref b5), .val (.int (2 : Int32)), .val (.ref rb), .val (.int (6 : Int32)), .val (.int (90 : Int32)), .val (.int (1 : Int32)), .val (.int p2.toInt8.toInt32)]) B14 X14 dK rfl rfl ?_
    refine g_iload (k := 11) (q := 195) B14 X14 dK rfl rfl ?_
    refine g_ifNo (cd := .eq) (o := 59) (q := 198) B14 X14 dK (((if0 _ _).trans (feq (by decide : ¬ ((1 : Int32) = (0 : Int32)))).1)) rfl ?_
    refine g_iload (k := 4) (q := 200) B14 X14 dK rfl rfl ?_
    refine g_iconst (o := 1) (q := 201) (v := 1) B14 X14 dK rfl rfl ?_
    refine g_icmpNo (cd := .lt) (o := 13) (q := 204) B14 X14 dK ((flt (by decide : ¬ ((2 : Int32) < (1 : Int32)))).1) rfl ?_
    refine g_aload (k := 8) (q := 206) B14 X14 dK rfl rfl rfl ?_
    refine g_iload (k := 10) (q := 208) B14 X14 dK rfl rfl ?_
    refine g_baload (q := 209) (u := (.int p2.toInt8.toInt32)) B14 X14 rfl G_rb dD dD (congrArg Value.int rk.2.2.2.2.2.1) dK rfl ?_
    refine g_iload (k := 12) (q := 211) B14 X14 dK rfl rfl ?_
    refine g_icmpNo (cd := .ne) (o := 43) (q := 214) B14 X14 dK ((teq (rfl : p2.toInt8.toInt32 = p2.toInt8.toInt32)).2) rfl ?_
    refine g_iload (k := 4) (q := 216) B14 X14 dK rfl rfl ?_
    refine g_iconst (o := 2) (q := 217) (v := 2) B14 X14 dK rfl rfl ?_
    refine g_icmpNo (cd := .lt) (o := 15) (q := 220) B14 X14 dK ((flt (by decide : ¬ ((2 : Int32) < (2 : Int32)))).1) rfl ?_
    refine g_aload (k := 8) (q := 222) B14 X14 dK rfl rfl rfl ?_
    refine g_iload (k := 10) (q := 224) B14 X14 dK rfl rfl ?_
    refine g_iconst (o := 1) (q := 225) (v := 1) B14 X14 dK rfl rfl ?_
    refine g_iadd (q := 226) (v := (91 : Int32)) B14 X14 dK rfl rfl ?_
    refine g_baload (q := 227) (u := (.int p2.toInt8.toInt32)) B14 X14 rfl G_rb dD dD (congrArg Value.int rk.2.2.2.2.2.2.1) dK rfl ?_
    refine g_iload (k := 12) (q := 229) B14 X14 dK rfl rfl ?_
    refine g_icmpNo (cd := .ne) (o := 25) (q := 232) B14 X14 dK ((teq (rfl : p2.toInt8.toInt32 = p2.toInt8.toInt32)).2) rfl ?_
    refine g_iload (k := 4) (q := 234) B14 X14 dK rfl rfl ?_
    refine g_iconst (o := 3) (q := 235) (v := 3) B14 X14 dK rfl rfl ?_
    refine g_icmpYes (cd := .lt) (o := 15) (q := 250) B14 X14 dK ((tlt (by decide : (2 : Int32) < (3 : Int32))).1) dD dD ?_
    refine g_iconst (o := 1) (q := 251) (v := 1) B14 X14 dK rfl rfl ?_
    refine g_goto (o := 4) (q := 255) B14 X14 dK dD dD ?_
    refine g_istore (k := 11) (q := 257) (l' := #[.val (.int p0), .val (.int p1), .val (.int p2), .val (.int p3), .val (.int (2 : Int32)), .val (.ref b1), .val (.ref b5), .val (.int (2 : Int32)), .val (.ref rb), .val (.int (6 : Int32)), .val (.int (90 : Int32)), .val (.int (1 : Int32)), .val (.int p2.toInt8.toInt32)]) B14 X14 dK rfl rfl ?_
    refine g_iload (k := 11) (q := 259) B14 X14 dK rfl rfl ?_
    refine g_ifNo (cd := .eq) (o := 61) (q := 262) B14 X14 dK (((if0 _ _).trans (feq (by decide : ¬ ((1 : Int32) = (0 : Int32)))).1)) rfl ?_
    refine g_aload (k := 8) (q := 264) B14 X14 dK rfl rfl rfl ?_
    refine g_iload (k := 10) (q := 266) B14 X14 dK rfl rfl ?_
    refine g_iload (k := 4) (q := 268) B14 X14 dK rfl rfl ?_
    refine g_iadd (q := 269) (v := (92 : Int32)) B14 X14 dK rfl rfl ?_
    refine g_baload (q := 270) (u := (.int p0.toInt8.toInt32)) B14 X14 rfl G_rb dD dD (congrArg Value.int rk.2.2.2.2.2.2.2.1) dK rfl ?_
    refine g_iloadN (k := 0) (q := 271) B14 X14 dK rfl rfl ?_
    refine g_i2b (q := 272) B14 X14 dK rfl rfl ?_
    refine g_icmpNo (cd := .ne) (o := 48) (q := 275) B14 X14 dK ((teq (rfl : p0.toInt8.toInt32 = p0.toInt8.toInt32)).2) rfl ?_
    refine g_aload (k := 8) (q := 277) B14 X14 dK rfl rfl rfl ?_
    refine g_iload (k := 10) (q := 279) B14 X14 dK rfl rfl ?_
    refine g_iload (k := 4) (q := 281) B14 X14 dK rfl rfl ?_
    refine g_iadd (q := 282) (v := (92 : Int32)) B14 X14 dK rfl rfl ?_
    refine g_iconst (o := 1) (q := 283) (v := 1) B14 X14 dK rfl rfl ?_
    refine g_iadd (q := 284) (v := (93 : Int32)) B14 X14 dK rfl rfl ?_
    refine g_baload (q := 285) (u := (.int (0 : Int32))) B14 X14 rfl G_rb dD dD (congrArg Value.int rk.2.2.2.2.2.2.2.2.1) dK rfl ?_
    refine g_ifNo (cd := .ne) (o := 35) (q := 288) B14 X14 dK (((if0 _ _).trans (teq (by decide : (0 : Int32) = (0 : Int32))).2)) rfl ?_
    refine g_aload (k := 8) (q := 290) B14 X14 dK rfl rfl rfl ?_
    refine g_iload (k := 10) (q := 292) B14 X14 dK rfl rfl ?_
    refine g_iload (k := 4) (q := 294) B14 X14 dK rfl rfl ?_
    refine g_iadd (q := 295) (v := (92 : Int32)) B14 X14 dK rfl rfl ?_
    refine g_iconst (o := 2) (q := 296) (v := 2) B14 X14 dK rfl rfl ?_
    refine g_iadd (q := 297) (v := (94 : Int32)) B14 X14 dK rfl rfl ?_
    refine g_baload (q := 298) (u := (.int (0 : Int32))) B14 X14 rfl G_rb dD dD (congrArg Value.int rk.2.2.2.2.2.2.2.2.2.1) dK rfl ?_
    refine g_ifNo (cd := .ne) (o := 22) (q := 301) B14 X14 dK (((if0 _ _).trans (teq (by decide : (0 : Int32) = (0 : Int32))).2)) rfl ?_
    refine g_aload (k := 8) (q := 303) B14 X14 dK rfl rfl rfl ?_
    refine g_iload (k := 10) (q := 305) B14 X14 dK rfl rfl ?_
    refine g_iload (k := 4) (q := 307) B14 X14 dK rfl rfl ?_
    refine g_iadd (q := 308) (v := (92 : Int32)) B14 X14 dK rfl rfl ?_
    refine g_iconst (o := 3) (q := 309) (v := 3) B14 X14 dK rfl rfl ?_
    refine g_iadd (q := 310) (v := (95 : Int32)) B14 X14 dK rfl rfl ?_
    refine g_baload (q := 311) (u := (.int p3.toInt8.toInt32)) B14 X14 rfl G_rb dD dD (congrArg Value.int rk.2.2.2.2.2.2.2.2.2.2) dK rfl ?_
    refine g_iloadN (k := 3) (q := 312) B14 X14 dK rfl rfl ?_
    refine g_i2b (q := 313) B14 X14 dK rfl rfl ?_
    refine g_icmpNo (cd := .ne) (o := 7) (q := 316) B14 X14 dK ((teq (rfl : p3.toInt8.toInt32 = p3.toInt8.toInt32)).2) rfl ?_
    refine g_iconst (o := 1) (q := 317) (v := 1) B14 X14 dK rfl rfl ?_
    refine g_goto (o := 4) (q := 321) B14 X14 dK dD dD ?_
    refine g_istore (k := 11) (q := 323) (l' := #[.val (.int p0), .val (.int p1), .val (.int p2), .val (.int p3), .val (.int (2 : Int32)), .val (.ref b1), .val (.ref b5), .val (.int (2 : Int32)), .val (.ref rb), .val (.int (6 : Int32)), .val (.int (90 : Int32)), .val (.int (1 : Int32)), .val (.int p2.toInt8.toInt32)]) B14 X14 dK rfl rfl ?_
    refine g_iload (k := 11) (q := 325) B14 X14 dK rfl rfl ?_
    exact g_wretN B14 X14 DD (own_EWS hw).ew hh (by simp) dK dD dD rfl (by
      exact ⟨rfl, N14⟩)
  · have rk := own_rk3 hPP p0 p2 p3
    have G_rb : own_Arf Z T14.heap rb .byte (103 : Int32) (fun i => .int (own_L ((PP ++ (own_ms (((((([] ++ [own_b8 p2]) ++ [own_b8 p2]) ++ [own_b8 p2]) ++ [own_b8 p0]) ++ own_u2 (0 : Int32)) ++ [own_b8 p3]).length (((((([] ++ [own_b8 p2]) ++ [own_b8 p2]) ++ [own_b8 p2]) ++ [own_b8 p0]) ++ own_u2 (0 : Int32)) ++ [own_b8 p3]))) ++ own_u2 (0 : Int32)) i)) := own_Gl G_rb rk.1
    show own_Go p.tables e below _ (State.setTop _ (mkF m 103 #[.val (.int p0), .val (.int p1), .val (.int p2), .val (.int p3), .val (.int (3 : Int32)), .val (.ref b1), .val (.ref b5), .val (.int (3 : Int32)), .val (.ref rb), .unset, .unset, .unset, .unset] []))
    refine g_iload (k := 4) (q := 105) B14 X14 dK rfl rfl ?_
    refine g_iconst (o := 4) (q := 106) (v := 4) B14 X14 dK rfl rfl ?_
    refine g_iadd (q := 107) (v := (7 : Int32)) B14 X14 dK rfl rfl ?_
    refine g_istore (k := 9) (q := 109) (l' := #[.val (.int p0), .val (.int p1), .val (.int p2), .val (.int p3), .val (.int (3 : Int32)), .val (.ref b1), .val (.ref b5), .val (.int (3 : Int32)), .val (.ref rb), .val (.int (7 : Int32)), .unset, .unset, .unset]) B14 X14 dK rfl rfl ?_
    refine g_aload (k := 8) (q := 111) B14 X14 dK rfl rfl rfl ?_
    refine g_alen (q := 112) B14 X14 rfl G_rb dK rfl ?_
    refine g_bipush (o := 6) (q := 114) (v := 6) B14 X14 dK rfl rfl ?_
    refine g_isub (q := 115) (v := (97 : Int32)) B14 X14 dK rfl rfl ?_
    refine g_iload (k := 9) (q := 117) B14 X14 dK rfl rfl ?_
    refine g_isub (q := 118) (v := (90 : Int32)) B14 X14 dK rfl rfl ?_
    refine g_istore (k := 10) (q := 120) (l' := #[.val (.int p0), .val (.int p1), .val (.int p2), .val (.int p3), .val (.int (3 : Int32)), .val (.ref b1), .val (.ref b5), .val (.int (3 : Int32)), .val (.ref rb), .val (.int (7 : Int32)), .val (.int (90 : Int32)), .unset, .unset]) B14 X14 dK rfl rfl ?_
    refine g_iload (k := 7) (q := 122) B14 X14 dK rfl rfl ?_
    refine g_iload (k := 4) (q := 124) B14 X14 dK rfl rfl ?_
    refine g_icmpNo (cd := .ne) (o := 7) (q := 127) B14 X14 dK ((teq (by decide : (3 : Int32) = (3 : Int32))).2) rfl ?_
    refine g_iconst (o := 1) (q := 128) (v := 1) B14 X14 dK rfl rfl ?_
    refine g_goto (o := 4) (q := 132) B14 X14 dK dD dD ?_
    refine g_istore (k := 11) (q := 134) (l' := #[.val (.int p0), .val (.int p1), .val (.int p2), .val (.int p3), .val (.int (3 : Int32)), .val (.ref b1), .val (.ref b5), .val (.int (3 : Int32)), .val (.ref rb), .val (.int (7 : Int32)), .val (.int (90 : Int32)), .val (.int (1 : Int32)), .unset]) B14 X14 dK rfl rfl ?_
    refine g_iload (k := 11) (q := 136) B14 X14 dK rfl rfl ?_
    refine g_ifNo (cd := .eq) (o := 50) (q := 139) B14 X14 dK (((if0 _ _).trans (feq (by decide : ¬ ((1 : Int32) = (0 : Int32)))).1)) rfl ?_
    refine g_aload (k := 8) (q := 141) B14 X14 dK rfl rfl rfl ?_
    refine g_iload (k := 10) (q := 143) B14 X14 dK rfl rfl ?_
    refine g_iconst (o := 4) (q := 144) (v := 4) B14 X14 dK rfl rfl ?_
    refine g_isub (q := 145) (v := (86 : Int32)) B14 X14 dK rfl rfl ?_
    refine g_baload (q := 146) (u := (.int (0 : Int32))) B14 X14 rfl G_rb dD dD (congrArg Value.int rk.2.1) dK rfl ?_
    refine g_ifNo (cd := .ne) (o := 40) (q := 149) B14 X14 dK (((if0 _ _).trans (teq (by decide : (0 : Int32) = (0 : Int32))).2)) rfl ?_
    refine g_aload (k := 8) (q := 151) B14 X14 dK rfl rfl rfl ?_
    refine g_iload (k := 10) (q := 153) B14 X14 dK rfl rfl ?_
    refine g_iconst (o := 3) (q := 154) (v := 3) B14 X14 dK rfl rfl ?_
    refine g_isub (q := 155) (v := (87 : Int32)) B14 X14 dK rfl rfl ?_
    refine g_baload (q := 156) (u := (.int (0 : Int32))) B14 X14 rfl G_rb dD dD (congrArg Value.int rk.2.2.1) dK rfl ?_
    refine g_ifNo (cd := .ne) (o := 30) (q := 159) B14 X14 dK (((if0 _ _).trans (teq (by decide : (0 : Int32) = (0 : Int32))).2)) rfl ?_
    refine g_aload (k := 8) (q := 161) B14 X14 dK rfl rfl rfl ?_
    refine g_iload (k := 10) (q := 163) B14 X14 dK rfl rfl ?_
    refine g_iconst (o := 2) (q := 164) (v := 2) B14 X14 dK rfl rfl ?_
    refine g_isub (q := 165) (v := (88 : Int32)) B14 X14 dK rfl rfl ?_
    refine g_baload (q := 166) (u := (.int (0 : Int32))) B14 X14 rfl G_rb dD dD (congrArg Value.int rk.2.2.2.1) dK rfl ?_
    refine g_ifNo (cd := .ne) (o := 20) (q := 169) B14 X14 dK (((if0 _ _).trans (teq (by decide : (0 : Int32) = (0 : Int32))).2)) rfl ?_
    refine g_aload (k := 8) (q := 171) B14 X14 dK rfl rfl rfl ?_
    refine g_iload (k := 10) (q := 173) B14 X14 dK rfl rfl ?_
    refine g_iconst (o := 1) (q := 174) (v := 1) B14 X14 dK rfl rfl ?_
    refine g_isub (q := 175) (v := (89 : Int32)) B14 X14 dK rfl rfl ?_
    refine g_baload (q := 176) (u := (.int (7 : Int32))) B14 X14 rfl G_rb dD dD (congrArg Value.int rk.2.2.2.2.1) dK rfl ?_
    refine g_iload (k := 9) (q := 178) B14 X14 dK rfl rfl ?_
    refine g_i2b (q := 179) (v := (7 : Int32)) B14 X14 dK rfl rfl ?_
    refine g_icmpNo (cd := .ne) (o := 7) (q := 182) B14 X14 dK ((teq (by decide : (7 : Int32) = (7 : Int32))).2) rfl ?_
    refine g_iconst (o := 1) (q := 183) (v := 1) B14 X14 dK rfl rfl ?_
    refine g_goto (o := 4) (q := 187) B14 X14 dK dD dD ?_
    refine g_istore (k := 11) (q := 189) (l' := #[.val (.int p0), .val (.int p1), .val (.int p2), .val (.int p3), .val (.int (3 : Int32)), .val (.ref b1), .val (.ref b5), .val (.int (3 : Int32)), .val (.ref rb), .val (.int (7 : Int32)), .val (.int (90 : Int32)), .val (.int (1 : Int32)), .unset]) B14 X14 dK rfl rfl ?_
    refine g_iloadN (k := 2) (q := 190) B14 X14 dK rfl rfl ?_
    refine g_i2b (q := 191) B14 X14 dK rfl rfl ?_
    refine g_istore (k := 12) (q := 193) (l' := #[.val (.int p0), .val (.int p1), .val (.int p2), .val (.int p3), .val (.int (3 : Int32)), .val (.ref b1), .val (.ref b5), .val (.int (3 : Int32)), .val (.ref rb), .val (.int (7 : Int32)), .val (.int (90 : Int32)), .val (.int (1 : Int32)), .val (.int p2.toInt8.toInt32)]) B14 X14 dK rfl rfl ?_
    refine g_iload (k := 11) (q := 195) B14 X14 dK rfl rfl ?_
    refine g_ifNo (cd := .eq) (o := 59) (q := 198) B14 X14 dK (((if0 _ _).trans (feq (by decide : ¬ ((1 : Int32) = (0 : Int32)))).1)) rfl ?_
    refine g_iload (k := 4) (q := 200) B14 X14 dK rfl rfl ?_
    refine g_iconst (o := 1) (q := 201) (v := 1) B14 X14 dK rfl rfl ?_
    refine g_icmpNo (cd := .lt) (o := 13) (q := 204) B14 X14 dK ((flt (by decide : ¬ ((3 : Int32) < (1 : Int32)))).1) rfl ?_
    refine g_aload (k := 8) (q := 206) B14 X14 dK rfl rfl rfl ?_
    refine g_iload (k := 10) (q := 208) B14 X14 dK rfl rfl ?_
    refine g_baload (q := 209) (u := (.int p2.toInt8.toInt32)) B14 X14 rfl G_rb dD dD (congrArg Value.int rk.2.2.2.2.2.1) dK rfl ?_
    refine g_iload (k := 12) (q := 211) B14 X14 dK rfl rfl ?_
    refine g_icmpNo (cd := .ne) (o := 43) (q := 214) B14 X14 dK ((teq (rfl : p2.toInt8.toInt32 = p2.toInt8.toInt32)).2) rfl ?_
    refine g_iload (k := 4) (q := 216) B14 X14 dK rfl rfl ?_
    refine g_iconst (o := 2) (q := 217) (v := 2) B14 X14 dK rfl rfl ?_
    refine g_icmpNo (cd := .lt) (o := 15) (q := 220) B14 X14 dK ((flt (by decide : ¬ ((3 : Int32) < (2 : Int32)))).1) rfl ?_
    refine g_aload (k := 8) (q := 222) B14 X14 dK rfl rfl rfl ?_
    refine g_iload (k := 10) (q := 224) B14 X14 dK rfl rfl ?_
    refine g_iconst (o := 1) (q := 225) (v := 1) B14 X14 dK rfl rfl ?_
    refine g_iadd (q := 226) (v := (91 : Int32)) B14 X14 dK rfl rfl ?_
    refine g_baload (q := 227) (u := (.int p2.toInt8.toInt32)) B14 X14 rfl G_rb dD dD (congrArg Value.int rk.2.2.2.2.2.2.1) dK rfl ?_
    refine g_iload (k := 12) (q := 229) B14 X14 dK rfl rfl ?_
    refine g_icmpNo (cd := .ne) (o := 25) (q := 232) B14 X14 dK ((teq (rfl : p2.toInt8.toInt32 = p2.toInt8.toInt32)).2) rfl ?_
    refine g_iload (k := 4) (q := 234) B14 X14 dK rfl rfl ?_
    refine g_iconst (o := 3) (q := 235) (v := 3) B14 X14 dK rfl rfl ?_
    refine g_icmpNo (cd := .lt) (o := 15) (q := 238) B14 X14 dK ((flt (by decide : ¬ ((3 : Int32) < (3 : Int32)))).1) rfl ?_
    refine g_aload (k := 8) (q := 240) B14 X14 dK rfl rfl rfl ?_
    refine g_iload (k := 10) (q := 242) B14 X14 dK rfl rfl ?_
    refine g_iconst (o := 2) (q := 243) (v := 2) B14 X14 dK rfl rfl ?_
    refine g_iadd (q := 244) (v := (92 : Int32)) B14 X14 dK rfl rfl ?_
    refine g_baload (q := 245) (u := (.int p2.toInt8.toInt32)) B14 X14 rfl G_rb dD dD (congrArg Value.int rk.2.2.2.2.2.2.2.1) dK rfl ?_
    refine g_iload (k := 12) (q := 247) B14 X14 dK rfl rfl ?_
    refine g_icmpNo (cd := .ne) (o := 7) (q := 250) B14 X14 dK ((teq (rfl : p2.toInt8.toInt32 = p2.toInt8.toInt32)).2) rfl ?_
    refine g_iconst (o := 1) (q := 251) (v := 1) B14 X14 dK rfl rfl ?_
    refine g_goto (o := 4) (q := 255) B14 X14 dK dD dD ?_
    refine g_istore (k := 11) (q := 257) (l' := #[.val (.int p0), .val (.int p1), .val (.int p2), .val (.int p3), .val (.int (3 : Int32)), .val (.ref b1), .val (.ref b5), .val (.int (3 : Int32)), .val (.ref rb), .val (.int (7 : Int32)), .val (.int (90 : Int32)), .val (.int (1 : Int32)), .val (.int p2.toInt8.toInt32)]) B14 X14 dK rfl rfl ?_
    refine g_iload (k := 11) (q := 259) B14 X14 dK rfl rfl ?_
    refine g_ifNo (cd := .eq) (o := 61) (q := 262) B14 X14 dK (((if0 _ _).trans (feq (by decide : ¬ ((1 : Int32) = (0 : Int32)))).1)) rfl ?_
    refine g_aload (k := 8) (q := 264) B14 X14 dK rfl rfl rfl ?_
    refine g_iload (k := 10) (q := 266) B14 X14 dK rfl rfl ?_
    refine g_iload (k := 4) (q := 268) B14 X14 dK rfl rfl ?_
    refine g_iadd (q := 269) (v := (93 : Int32)) B14 X14 dK rfl rfl ?_
    refine g_baload (q := 270) (u := (.int p0.toInt8.toInt32)) B14 X14 rfl G_rb dD dD (congrArg Value.int rk.2.2.2.2.2.2.2.2.1) dK rfl ?_
    refine g_iloadN (k := 0) (q := 271) B14 X14 dK rfl rfl ?_
    refine g_i2b (q := 272) B14 X14 dK rfl rfl ?_
    refine g_icmpNo (cd := .ne) (o := 48) (q := 275) B14 X14 dK ((teq (rfl : p0.toInt8.toInt32 = p0.toInt8.toInt32)).2) rfl ?_
    refine g_aload (k := 8) (q := 277) B14 X14 dK rfl rfl rfl ?_
    refine g_iload (k := 10) (q := 279) B14 X14 dK rfl rfl ?_
    refine g_iload (k := 4) (q := 281) B14 X14 dK rfl rfl ?_
    refine g_iadd (q := 282) (v := (93 : Int32)) B14 X14 dK rfl rfl ?_
    refine g_iconst (o := 1) (q := 283) (v := 1) B14 X14 dK rfl rfl ?_
    refine g_iadd (q := 284) (v := (94 : Int32)) B14 X14 dK rfl rfl ?_
    refine g_baload (q := 285) (u := (.int (0 : Int32))) B14 X14 rfl G_rb dD dD (congrArg Value.int rk.2.2.2.2.2.2.2.2.2.1) dK rfl ?_
    refine g_ifNo (cd := .ne) (o := 35) (q := 288) B14 X14 dK (((if0 _ _).trans (teq (by decide : (0 : Int32) = (0 : Int32))).2)) rfl ?_
    refine g_aload (k := 8) (q := 290) B14 X14 dK rfl rfl rfl ?_
    refine g_iload (k := 10) (q := 292) B14 X14 dK rfl rfl ?_
    refine g_iload (k := 4) (q := 294) B14 X14 dK rfl rfl ?_
    refine g_iadd (q := 295) (v := (93 : Int32)) B14 X14 dK rfl rfl ?_
    refine g_iconst (o := 2) (q := 296) (v := 2) B14 X14 dK rfl rfl ?_
    refine g_iadd (q := 297) (v := (95 : Int32)) B14 X14 dK rfl rfl ?_
    refine g_baload (q := 298) (u := (.int (0 : Int32))) B14 X14 rfl G_rb dD dD (congrArg Value.int rk.2.2.2.2.2.2.2.2.2.2.1) dK rfl ?_
    refine g_ifNo (cd := .ne) (o := 22) (q := 301) B14 X14 dK (((if0 _ _).trans (teq (by decide : (0 : Int32) = (0 : Int32))).2)) rfl ?_
    refine g_aload (k := 8) (q := 303) B14 X14 dK rfl rfl rfl ?_
    refine g_iload (k := 10) (q := 305) B14 X14 dK rfl rfl ?_
    refine g_iload (k := 4) (q := 307) B14 X14 dK rfl rfl ?_
    refine g_iadd (q := 308) (v := (93 : Int32)) B14 X14 dK rfl rfl ?_
    refine g_iconst (o := 3) (q := 309) (v := 3) B14 X14 dK rfl rfl ?_
    refine g_iadd (q := 310) (v := (96 : Int32)) B14 X14 dK rfl rfl ?_
    refine g_baload (q := 311) (u := (.int p3.toInt8.toInt32)) B14 X14 rfl G_rb dD dD (congrArg Value.int rk.2.2.2.2.2.2.2.2.2.2.2) dK rfl ?_
    refine g_iloadN (k := 3) (q := 312) B14 X14 dK rfl rfl ?_
    refine g_i2b (q := 313) B14 X14 dK rfl rfl ?_
    refine g_icmpNo (cd := .ne) (o := 7) (q := 316) B14 X14 dK ((teq (rfl : p3.toInt8.toInt32 = p3.toInt8.toInt32)).2) rfl ?_
    refine g_iconst (o := 1) (q := 317) (v := 1) B14 X14 dK rfl rfl ?_
    refine g_goto (o := 4) (q := 321) B14 X14 dK dD dD ?_
    refine g_istore (k := 11) (q := 323) (l' := #[.val (.int p0), .val (.int p1), .val (.int p2), .val (.int p3), .val (.int (3 : Int32)), .val (.ref b1), .val (.ref b5), .val (.int (3 : Int32)), .val (.ref rb), .val (.int (7 : Int32)), .val (.int (90 : Int32)), .val (.int (1 : Int32)), .val (.int p2.toInt8.toInt32)]) B14 X14 dK rfl rfl ?_
    refine g_iload (k := 11) (q := 325) B14 X14 dK rfl rfl ?_
    exact g_wretN B14 X14 DD (own_EWS hw).ew hh (by simp) dK dD dD rfl (by
      exact ⟨rfl, N14⟩)
theorem own_llt {args : Array Value} {Z : State} {t : Term} {a : Addr} {cell : Cell} {v : Value} (ht : t.eval args Z none [] Z = some (.ref a)) (hc : Z.arrayAt? a = some cell) (h : (Term.length t).eval args Z none [] Z = some v) : cell.slots.size < 2 ^ 31 := by
  simp only [Term.eval, ht, hc, Option.bind_eq_bind, Option.bind_some] at h
  by_cases hn : cell.slots.size < 2 ^ 31
  · exact hn
  · simp [hn] at h
theorem own_len {args : Array Value} {Z : State} {t : Term} {z : Int32} {k : Nat} (h : (Term.length t).eval args Z none [] Z = some (.int z)) (hz : z.toInt = (k : Int)) : ∃ a cell, t.eval args Z none [] Z = some (.ref a) ∧ Z.arrayAt? a = some cell ∧ cell.slots.size = k ∧ cell.slots.size < 2 ^ 31 ∧ cell.slots.size.toInt32 = z := by
  obtain ⟨a, cell, ht, hc, e⟩ := Term.length_spec h
  have hn := own_llt ht hc h
  have e2 : cell.slots.size.toInt32 = z := (Value.int.inj e).symm
  refine ⟨a, cell, ht, hc, ?_, hn, e2⟩
  have := congrArg Int32.toInt e2
  rw [len_toInt hn, hz] at this
  omega
theorem own_bxs {Z : State} {args : Array Value} {C n d : String} (hl : (Cond.eq (.length (.static C n d)) (.int 256)).before args Z = true) (ha : (Cond.arrayOf (.static C n d) (.object zz8)).before args Z = true) (h : (Cond.all (.static C n d) (.and (.exactly (.elem (.static C n d) (.index 0)) zz8) (.eq (.field (.elem (.static C n d) (.index 0)) zz8 "value" "I") (.sub (.index 0) (.int 128))))).before args Z = true) :
    ∃ (ca : Addr) (cg : Nat → Addr), (Term.static C n d).eval args Z none [] Z = some (.ref ca) ∧ own_Arf Z Z.heap ca (.object zz8) (256 : Int32) (fun i => .ref (cg i)) ∧ ∀ i, i < 256 → Exa Z Z.heap (cg i) zz8 ∧ Fld Z Z.heap (cg i) zz8 "value" "I" (.int (Int32.ofNat i - 128)) := by
  obtain ⟨a, D, ht, hc, sz, h31, e⟩ := own_len (k := 256) (own_eqi (Cond.before_iff.mp hl)) dD
  obtain ⟨c, A⟩ := Arr.start ht (Cond.before_iff.mp ha)
  have ec : c = D := Option.some.inj (A.1.symm.trans (State.arrayAt?_spec hc).1)
  subst ec
  have et : ∀ idx, (Term.static C n d).eval args Z none idx Z = some (.ref a) := fun idx => ht
  have Bx : Bxs Z a c zz8 "I" 256 (fun j => .int (j - 128)) := Bxs.start et A h31 e dD (Cond.before_iff.mp h) (fun X j nn q => eqv_i (Term.sub_int (idx_at nn) (Term.int_eval 128)) q)
  have key : ∀ i, i < 256 → ∃ b : Addr, c.slots[i]? = some (.ref b) ∧ Exa Z Z.heap b zz8 ∧ Fld Z Z.heap b zz8 "value" "I" (.int (Int32.ofNat i - 128)) := fun i hi => by
    have q := own_ntn hi
    obtain ⟨b, h1, h2, h3⟩ := Bx.2.2.2 (Int32.ofNat i) (by rw [q, sz]; exact fun z => z.elim (own_nnn hi) (fun z => by omega))
    rw [q] at h1
    exact ⟨b, h1, h2, h3⟩
  refine ⟨a, fun i => match c.slots[i]? with | some (.ref b) => b | _ => 0, ht, ⟨c, A, sz, by decide, fun i hi => ?_⟩, fun i hi => ?_⟩
  · obtain ⟨b, h1, -⟩ := key i (by omega)
    simp only [h1]
  · obtain ⟨b, h1, h2, h3⟩ := key i hi
    simp only [h1]; exact ⟨h2, h3⟩
theorem own_d10 : ∀ i : Fin 100, (48 : Int32) + Int32.ofNat i.1 % 10 = own_do i.1 := by decide +kernel
theorem own_ones {Z : State} {args : Array Value} {C n d : String} (hx : (Cond.exactly (.static C n d) "[B").before args Z = true) (hl : (Cond.eq (.length (.static C n d)) (.int 100)).before args Z = true) (h : (Cond.all (.static C n d) (.eq (.elem (.static C n d) (.index 0)) (.add (.int 48) (.rem (.index 0) (.int 10))))).before args Z = true) (hb : (Cond.arrayClass .byte).before args Z = true) :
    ∃ dg : Addr, (Term.static C n d).eval args Z none [] Z = some (.ref dg) ∧ own_Arf Z Z.heap dg .byte (100 : Int32) (fun i => .int (own_do i)) := by
  obtain ⟨a, D, ht, hc, sz, h31, e⟩ := own_len (k := 100) (own_eqi (Cond.before_iff.mp hl)) dD
  obtain ⟨a', c, cell, k, e1, e2, e3, e4, e5, e6, -⟩ := Cond.exactly_spec hx
  cases ht.symm.trans e1
  obtain ⟨q1, q2, -⟩ := State.arrayAt?_spec hc
  have ec : cell = D := Option.some.inj (e3.symm.trans q1)
  subst ec
  obtain ⟨c', k', comp, f1, f2, f3⟩ := Cond.arrayClass_spec hb
  rw [show ("[" ++ FieldType.toString .byte) = "[B" from by decide] at f1
  cases e2.symm.trans f1
  cases e4.symm.trans f2
  have A : Arr Z Z.heap a cell .byte := ⟨q1, ⟨fun k z => by rw [z] at e5; exact Bool.noConfusion e5, k, by rw [e6]; exact e4, comp, f3⟩, q2⟩
  refine ⟨a, ht, cell, A, sz, by decide, fun i hi => ?_⟩
  rw [sz] at hi
  have q := own_ntn (k := i) (by omega)
  have nn := own_nnn (k := i) (by omega)
  have u := Cond.all_elim (idx := []) ht hc (Cond.before_iff.mp h) i (by omega)
  have i1 := idx_at (args := args) (s := Z) (first := Z) (o := none) nn
  rw [q] at i1
  have et : (Term.static C n d).eval args Z none [i] Z = some (.ref a) := ht
  have v := eqv_i (y := 48 + Int32.ofNat i % 10) (Term.add_int (Term.int_eval 48) (rem_f i1 (Term.int_eval 10) dD)) u
  rw [elem_f et i1 hc nn, q, own_d10 ⟨i, hi⟩] at v
  exact v

theorem comes_1 {Post : Tables → Env → Array Value → State → Outcome → State → Prop} (hpost : ∀ tb e args s v u, (limb_1_1.after args s (.returned v) u = true ∧ limb_1_2.after args s (.returned v) u = true ∧ True) → ReturnedEndW s (.returned v) u (Jvm.fieldLocs frame_1_writes args s ++ Jvm.arrayLocs frame_1_arrays args s ++ Jvm.staticLocs frame_1_statics s) 192 12928 → Post tb e args s (.returned v) u) :
    ArmFor flags0 classFile x code maxLocals ret World_1 tables_1 room_1 Calls_1 rest_1 Pre_1 Post := by
  intro l hfl _ _ p e ha hc hk s m args below hf hA hF happ hP
  obtain ⟨hcalls, hrest, hpre⟩ := hP
  obtain ⟨-, -, -, hnamed, -, -, -, hat⟩ := (Spec.applies_iff hf).mp happ
  obtain ⟨hg, hn⟩ := and_e (Cond.before_iff.mp (show (Jvm.Cond.and given_1 narrow_1).before args s = true from hpre))
  obtain ⟨gA0, gB0⟩ := and_e hg
  obtain ⟨gA1, gB1⟩ := and_e gB0
  obtain ⟨gA2, gB2⟩ := and_e gB1
  obtain ⟨gA3, gB3⟩ := and_e gB2
  obtain ⟨w0, w1, w2, w3, rfl⟩ : ∃ w0 w1 w2 w3 : Value, args = #[w0, w1, w2, w3] := by
    have hs : args.size = 4 := by simpa [Cond.value, given_1] using gA0
    obtain ⟨L⟩ := args
    match L, hs with
    | [w0, w1, w2, w3], _ => exact ⟨w0, w1, w2, w3, rfl⟩
  have hw := fun d (hd : d ∈ tables_1) => atoms_spec (ws := Jvm.Cond.code x code maxLocals ret :: tables_1) hat d (List.mem_cons_of_mem _ hd)
  obtain ⟨i0, ei0⟩ := is_v gA1
  obtain rfl : w0 = (.int i0) := Option.some.inj ei0
  obtain ⟨i1, ei1⟩ := is_v gA2
  obtain rfl : w1 = (.int i1) := Option.some.inj ei1
  obtain ⟨i2, ei2⟩ := is_v gA3
  obtain rfl : w2 = (.int i2) := Option.some.inj ei2
  obtain ⟨i3, ei3⟩ := is_v gB3
  obtain rfl : w3 = (.int i3) := Option.some.inj ei3
  obtain ⟨hsets, hown0⟩ := atoms_of _ (rest_1_c_eq ▸ (show rest_1_c.before _ s = true from hrest))
  obtain ⟨cz, evz⟩ := is_v (Cond.before_iff.mp (hsets _ (List.mem_of_getElem? (i := 10) rfl)))
  have hcz : ¬ cz = 0 := gotF (Cond.eq_ints evz (Term.int_eval 0)) (not_v (Cond.before_iff.mp (hsets _ (List.mem_of_getElem? (i := 11) rfl))))
  have SC := Sta.start evz (Or.inl (hsets _ (List.mem_of_getElem? (i := 9) rfl)))
  obtain ⟨fv, evf, hfr⟩ := isR_v (Cond.before_iff.mp (hsets _ (List.mem_of_getElem? (i := 17) rfl)))
  have hfv : fv = .null ∨ ∃ a, fv = .ref a := ref_cases hfr
  have SF := Sta.start evf (Or.inl (hsets _ (List.mem_of_getElem? (i := 16) rfl)))
  obtain ⟨ev, eve⟩ := arr_v (Cond.before_iff.mp (hsets _ (List.mem_of_getElem? (i := 6) rfl)))
  have SE := Sta.start eve (Or.inr ⟨(kw hw 85 rfl), (hsets _ (List.mem_of_getElem? (i := 2) rfl))⟩)
  obtain ⟨dg, evd, GD⟩ := own_ones (hsets _ (List.mem_of_getElem? (i := 21) rfl)) (hsets _ (List.mem_of_getElem? (i := 22) rfl)) (hsets _ (List.mem_of_getElem? (i := 23) rfl)) (kw hw 6 rfl)
  have SD := Sta.start evd (Or.inl (hsets _ (List.mem_of_getElem? (i := 20) rfl)))
  have SH := Sta.start (own_eqi (Cond.before_iff.mp (hsets _ (List.mem_of_getElem? (i := 32) rfl)))) (Or.inl (hsets _ (List.mem_of_getElem? (i := 30) rfl)))
  obtain ⟨ca, cg, evk, GC, hcg⟩ := own_bxs (hsets _ (List.mem_of_getElem? (i := 35) rfl)) (hsets _ (List.mem_of_getElem? (i := 33) rfl)) (hsets _ (List.mem_of_getElem? (i := 36) rfl))
  have SK2 := Sta.start evk (Or.inr ⟨(kw hw 399 rfl), (hsets _ (List.mem_of_getElem? (i := 31) rfl))⟩)
  have HW : own_W s cz fv ev dg ca cg := ⟨SC, hcz, SF, hfv, SE, SD, GD, SH, SK2, GC, hcg⟩
  have hCH : CHv s own_EL s.vm s.heap := CHv.start (own_EWS hw).ew (fun q hq => hcalls.1 q hq) (hsets _ (List.mem_of_getElem? (i := 11) rfl)) (kw hw 6 rfl) (kw hw 5 rfl)
  obtain ⟨n, o, h1, h2, h3, _, L, rfl, ⟨rfl, N⟩, -, hq⟩ := rm0 l s _ hw tables_1 i0 i1 i2 i3 cz fv ev dg ca cg s.heap s.heap.size (Nat.le_refl _) (Old.start s) HW p e ha hc hk s m _ below hf ((Spec.applies_iff_loose hf).mp happ).1 ⟨rfl, State.Warmed39.refl s, rfl, hCH⟩ trivial
  refine ⟨n, _, h1, h2, h3, hpost _ _ _ _ _ _ ⟨Cond.after_iff.mpr rfl, Cond.after_iff.mpr (eq_i res_at (Term.int_eval (1)) rfl), trivial⟩ ?_⟩
  unfold ReturnedEndW at hq ⊢
  exact ⟨hq.1, hq.2.1, hq.2.2.1, (hq.2.2.2.sift fun y hy => Or.inr (N y hy)).mono dD dD⟩
theorem main_1_1 : Claimed_1_1 := comes_1 fun _ _ _ _ _ _ h hF => ⟨h.1, hF⟩
theorem main_1_2 : Claimed_1_2 := comes_1 fun _ _ _ _ _ _ h hF => ⟨h.2.1, hF⟩
end Jvm.Pilot.@@N@@
namespace Jvm.Pilot.@@N@@
open Jvm Jvm.ClassFile Sem Op Lib Jvm.Free Jvm.Stand Jvm.Pilot.@@N@@.Jvm.D
/-! MADE BY PROGRAM (witnessworld.py) out of the Statement's table words and the real class files: 51 classes; the members and pool entries that the words name. The judged class is class 1, her method 1. -/
namespace start1
open Jvm.ClassFile
def u (s : String) : CpInfo := .utf8 (stringToUtf16 s)
/-- a pool by its gaps: so many unusable entries, then the entry; so many at the end -/
def gap : Nat → List CpInfo → List CpInfo
  | 0, r => r
  | n + 1, r => .unusable :: gap n r
def poolList (es : List (Nat × CpInfo)) (last : Nat) : List CpInfo := es.foldr (fun e r => gap e.1 (e.2 :: r)) (gap last [])
def pool (es : List (Nat × CpInfo)) (last : Nat) : Array CpInfo := ⟨poolList es last⟩
def fileOf (pool : Array CpInfo) (this : Nat) (attrs : Array Attribute := #[]) (ms : Array MethodInfo := #[]) (fl : Nat := 33) (sup : Nat := 0) (ifs : Array Nat := #[]) (fds : Array FieldInfo := #[]) : ClassFile where
  minorVersion := 0
  majorVersion := 65
  constantPool := pool
  accessFlags := fl
  thisClass := this
  superClass := sup
  interfaces := ifs
  fields := fds
  methods := ms
  attributes := attrs
def plain (name : String) (sup : Option ClassId) : Class where
  name := name
  kind := .ordinary
  loader := none
  accessFlags := 33
  super := sup
  interfaces := #[]
  cf := none
  fields := #[]
  methods := #[]
  instanceTypes := #[]
  staticTypes := #[]
  resolved := #[]
  callSites := []
  init := .initialized
  statics := none
  mirror := none

def pool0 : Array CpInfo := pool [(5, u "<init>"), (0, u "()V"), (1, .class_ 10), (1, u "java/lang/Object"), (16, u "hashCode"), (0, u "()I")] 95

def k0c0 : Code := ⟨0, 1, object_method_1_code, #[], #[]⟩
def k0m0 : Method := ⟨"<init>", "()V", ⟨[], none⟩, 1, some k0c0⟩
def k0m1 : Method := ⟨"hashCode", "()I", ⟨[], some .int⟩, 257, none⟩
/-- java/lang/Object -/
def k0 : Class := { plain "java/lang/Object" none with
  accessFlags := 33
  interfaces := #[]
  cf := some (fileOf pool0 8 #[] #[⟨1, 5, 6, #[]⟩, ⟨257, 27, 28, #[]⟩] 33 0 #[] #[])
  fields := #[]
  methods := #[k0m0, k0m1]
  instanceTypes := #[]
  staticTypes := #[]
  resolved := Array.replicate 124 none
  statics := none }

def pool1 : Array CpInfo := pool [(2, .class_ 4), (1, u "java/lang/Object"), (0, u "<init>"), (0, u "()V"), (0, .class_ 8), (0, u "com/example/eurydice/eurydice/model/ClassFileWriter"), (0, .string 10), (0, u "A"), (0, .string 4), (0, .methodref 7 13), (0, .nameAndType 5 14), (0, u "(Ljava/lang/String;Ljava/lang/String;)V"), (0, .class_ 16), (0, u "com/example/eurydice/eurydice/model/ClassFileWriter$Code"), (0, .methodref 18 19), (0, .class_ 20), (0, .nameAndType 21 22), (0, u "java/util/Objects"), (0, u "requireNonNull"), (0, u "(Ljava/lang/Object;)Ljava/lang/Object;"), (0, .methodref 15 24), (0, .nameAndType 5 25), (0, u "(Lcom/example/eurydice/eurydice/model/ClassFileWriter;)V"), (0, .methodref 15 27), (0, .nameAndType 28 29), (0, u "op"), (0, u "(I)V"), (0, .methodref 15 31), (0, .nameAndType 32 33), (0, u "branch"), (0, u "(I)I"), (0, .string 35), (0, u "m"), (0, .string 6), (0, .methodref 7 38), (0, .nameAndType 39 40), (0, u "method"), (0, u "(Ljava/lang/String;Ljava/lang/String;Lcom/example/eurydice/eurydice/model/ClassFileWriter$Code;II)V"), (0, .methodref 7 42), (0, .nameAndType 43 44), (0, u "toBytes"), (0, u "()[B"), (0, .class_ 46), (0, u "com/example/eurydice/eurydice/model/CodeBranchPinLaw"), (2, u "law"), (0, u "(IIII)Z")] 6

def k1m0 : Method := ⟨"<init>", "()V", ⟨[], none⟩, 1, none⟩
def k1c1 : Code := ⟨6, 13, code, #[], #[]⟩
def k1m1 : Method := ⟨"law", "(IIII)Z", ⟨[.int, .int, .int, .int], some .boolean⟩, 9, some k1c1⟩
/-- com/example/eurydice/eurydice/model/CodeBranchPinLaw -/
def k1 : Class := { plain "com/example/eurydice/eurydice/model/CodeBranchPinLaw" (some 0) with
  accessFlags := 49
  interfaces := #[]
  cf := some (fileOf pool1 45 #[] #[⟨1, 5, 6, #[]⟩, ⟨9, 49, 50, #[]⟩] 49 2 #[] #[])
  fields := #[]
  methods := #[k1m0, k1m1]
  instanceTypes := #[]
  staticTypes := #[]
  resolved := Array.replicate 57 none
  statics := none }

def pool2 : Array CpInfo := pool [(1, .class_ 2), (0, u "com/example/eurydice/eurydice/model/ClassFileWriter"), (0, .methodref 4 5), (0, .class_ 6), (0, .nameAndType 7 8), (0, u "java/lang/Object"), (0, u "<init>"), (0, u "()V"), (0, .class_ 10), (0, u "com/example/eurydice/eurydice/model/ClassFileWriter$Pool"), (0, .methodref 9 5), (0, .fieldref 1 13), (0, .nameAndType 14 15), (0, u "pool"), (0, u "Lcom/example/eurydice/eurydice/model/ClassFileWriter$Pool;"), (0, .class_ 17), (0, u "com/example/eurydice/eurydice/model/ClassFileWriter$Bytes"), (0, .methodref 16 5), (0, .fieldref 1 20), (0, .nameAndType 21 22), (0, u "fields"), (0, u "Lcom/example/eurydice/eurydice/model/ClassFileWriter$Bytes;"), (0, .fieldref 1 24), (0, .nameAndType 25 22), (0, u "methods"), (0, .fieldref 1 27), (0, .nameAndType 28 29), (0, u "name"), (0, u "Ljava/lang/String;"), (0, .fieldref 1 31), (0, .nameAndType 32 29), (0, u "superName"), (0, .methodref 16 34), (0, .nameAndType 35 36), (0, u "u2"), (0, u "(I)V"), (0, .methodref 9 38), (0, .nameAndType 39 40), (0, u "utf8"), (0, u "(Ljava/lang/String;)I"), (0, .fieldref 1 42), (0, .nameAndType 43 44), (0, u "fieldCount"), (0, u "I"), (0, .class_ 46), (0, u "com/example/eurydice/eurydice/model/ClassFileWriter$Code"), (10, u "method"), (3, u "(Ljava/lang/String;Ljava/lang/String;Lcom/example/eurydice/eurydice/model/ClassFileWriter$Code;II)V"), (0, .fieldref 45 63), (0, .nameAndType 64 22), (0, u "bytes"), (0, .methodref 16 66), (0, .nameAndType 67 68), (0, u "size"), (0, u "()I"), (0, .fieldref 1 70), (0, .nameAndType 71 72), (0, u "tooLarge"), (0, u "Z"), (0, .fieldref 45 74), (0, .nameAndType 75 76), (0, u "targets"), (0, u "Ljava/util/List;"), (0, .interfaceMethodref 78 79), (0, .class_ 80), (0, .nameAndType 81 82), (0, u "java/util/List"), (0, u "iterator"), (0, u "()Ljava/util/Iterator;"), (0, .interfaceMethodref 84 85), (0, .class_ 86), (0, .nameAndType 87 88), (0, u "java/util/Iterator"), (0, u "hasNext"), (0, u "()Z"), (9, .methodref 16 99), (0, .nameAndType 100 36), (0, u "u1"), (0, .string 102), (0, u "Code"), (0, .interfaceMethodref 78 104), (0, .nameAndType 105 88), (0, u "isEmpty"), (0, .methodref 16 107), (0, .nameAndType 108 36), (0, u "u4"), (0, .methodref 16 110), (0, .nameAndType 111 112), (0, u "append"), (0, u "(Lcom/example/eurydice/eurydice/model/ClassFileWriter$Bytes;)V"), (3, .fieldref 1 117), (0, .nameAndType 118 44), (0, u "methodCount"), (38, u "(Ljava/lang/String;Ljava/lang/String;)V"), (26, .class_ 186), (1, u "com/example/eurydice/eurydice/model/ClassFileWriter$PositionWriter"), (2, .methodref 9 190), (0, .nameAndType 191 40), (0, u "classEntry"), (0, .integer 3405691582), (0, .methodref 9 194), (0, .nameAndType 195 112), (0, u "writeTo"), (0, .methodref 16 197), (0, .nameAndType 198 199), (0, u "toArray"), (0, u "()[B"), (24, u "toBytes"), (65, u "VERSION"), (2, u "PUBLIC_FINAL_SUPER"), (1, u "PUBLIC"), (1, u "NO_PARAMETERS"), (0, u "MAX_CODE_LENGTH"), (1, u "MAX_CONSTANTS"), (0, u "CHUNK_BITS"), (1, u "CHUNK"), (1, u "ICONST_0"), (1, u "ICONST_1"), (1, u "LCONST_0"), (1, u "BIPUSH"), (1, u "SIPUSH"), (1, u "LDC_W"), (1, u "ILOAD_0"), (1, u "ALOAD_0"), (1, u "ALOAD_1"), (1, u "ALOAD_2"), (1, u "ALOAD_3"), (1, u "ASTORE_1"), (1, u "ASTORE_2"), (1, u "DUP"), (1, u "IUSHR"), (1, u "I2L"), (1, u "LCMP"), (1, u "IFEQ"), (1, u "IFNE"), (1, u "IF_ICMPNE"), (1, u "IF_ACMPEQ"), (1, u "TABLESWITCH"), (1, u "IRETURN"), (1, u "LRETURN"), (1, u "ARETURN"), (1, u "RETURN"), (1, u "GETFIELD"), (1, u "PUTFIELD"), (1, u "INVOKEVIRTUAL"), (1, u "INVOKESPECIAL"), (1, u "INVOKESTATIC"), (1, u "NEW"), (1, u "ATHROW"), (1, u "CHECKCAST"), (1, u "IFNULL")] 28

def k2c0 : Code := ⟨3, 3, prog_80_method_1_code, #[], #[]⟩
def k2m0 : Method := ⟨"<init>", "(Ljava/lang/String;Ljava/lang/String;)V", ⟨[(.object "java/lang/String"), (.object "java/lang/String")], none⟩, 0, some k2c0⟩
def k2c1 : Code := ⟨3, 11, prog_80_method_5_code, #[], #[]⟩
def k2m1 : Method := ⟨"method", "(Ljava/lang/String;Ljava/lang/String;Lcom/example/eurydice/eurydice/model/ClassFileWriter$Code;II)V", ⟨[(.object "java/lang/String"), (.object "java/lang/String"), (.object "com/example/eurydice/eurydice/model/ClassFileWriter$Code"), .int, .int], none⟩, 0, some k2c1⟩
def k2c2 : Code := ⟨2, 4, prog_80_method_9_code, #[], #[]⟩
def k2m2 : Method := ⟨"toBytes", "()[B", ⟨[], some (.array .byte)⟩, 0, some k2c2⟩
/-- com/example/eurydice/eurydice/model/ClassFileWriter -/
def k2 : Class := { plain "com/example/eurydice/eurydice/model/ClassFileWriter" (some 0) with
  accessFlags := 32
  interfaces := #[]
  cf := some (fileOf pool2 1 #[.nestMembers #[16, 9, 184, 45]] #[⟨0, 7, 157, #[]⟩, ⟨0, 57, 61, #[]⟩, ⟨0, 224, 199, #[]⟩] 32 4 #[] #[⟨26, 290, 44, #[]⟩, ⟨26, 293, 44, #[]⟩, ⟨26, 295, 44, #[]⟩, ⟨26, 297, 29, #[]⟩, ⟨26, 298, 44, #[]⟩, ⟨26, 300, 44, #[]⟩, ⟨24, 301, 44, #[]⟩, ⟨24, 303, 44, #[]⟩, ⟨24, 305, 44, #[]⟩, ⟨24, 307, 44, #[]⟩, ⟨24, 309, 44, #[]⟩, ⟨24, 311, 44, #[]⟩, ⟨24, 313, 44, #[]⟩, ⟨24, 315, 44, #[]⟩, ⟨24, 317, 44, #[]⟩, ⟨24, 319, 44, #[]⟩, ⟨24, 321, 44, #[]⟩, ⟨24, 323, 44, #[]⟩, ⟨24, 325, 44, #[]⟩, ⟨24, 327, 44, #[]⟩, ⟨24, 329, 44, #[]⟩, ⟨24, 331, 44, #[]⟩, ⟨24, 333, 44, #[]⟩, ⟨24, 335, 44, #[]⟩, ⟨24, 337, 44, #[]⟩, ⟨24, 339, 44, #[]⟩, ⟨24, 341, 44, #[]⟩, ⟨24, 343, 44, #[]⟩, ⟨24, 345, 44, #[]⟩, ⟨24, 347, 44, #[]⟩, ⟨24, 349, 44, #[]⟩, ⟨24, 351, 44, #[]⟩, ⟨24, 353, 44, #[]⟩, ⟨24, 355, 44, #[]⟩, ⟨24, 357, 44, #[]⟩, ⟨24, 359, 44, #[]⟩, ⟨24, 361, 44, #[]⟩, ⟨24, 363, 44, #[]⟩, ⟨24, 365, 44, #[]⟩, ⟨24, 367, 44, #[]⟩, ⟨24, 369, 44, #[]⟩, ⟨24, 371, 44, #[]⟩, ⟨24, 373, 44, #[]⟩, ⟨18, 14, 15, #[]⟩, ⟨18, 28, 29, #[]⟩, ⟨18, 32, 29, #[]⟩, ⟨18, 21, 22, #[]⟩, ⟨18, 25, 22, #[]⟩, ⟨2, 43, 44, #[]⟩, ⟨2, 118, 44, #[]⟩, ⟨2, 71, 72, #[]⟩])
  fields := #[⟨"VERSION", .int, 26, 0, 0⟩, ⟨"PUBLIC_FINAL_SUPER", .int, 26, 1, 0⟩, ⟨"PUBLIC", .int, 26, 2, 0⟩, ⟨"NO_PARAMETERS", (.object "java/lang/String"), 26, 3, 0⟩, ⟨"MAX_CODE_LENGTH", .int, 26, 4, 0⟩, ⟨"MAX_CONSTANTS", .int, 26, 5, 0⟩, ⟨"CHUNK_BITS", .int, 24, 6, 0⟩, ⟨"CHUNK", .int, 24, 7, 0⟩, ⟨"ICONST_0", .int, 24, 8, 0⟩, ⟨"ICONST_1", .int, 24, 9, 0⟩, ⟨"LCONST_0", .int, 24, 10, 0⟩, ⟨"BIPUSH", .int, 24, 11, 0⟩, ⟨"SIPUSH", .int, 24, 12, 0⟩, ⟨"LDC_W", .int, 24, 13, 0⟩, ⟨"ILOAD_0", .int, 24, 14, 0⟩, ⟨"ALOAD_0", .int, 24, 15, 0⟩, ⟨"ALOAD_1", .int, 24, 16, 0⟩, ⟨"ALOAD_2", .int, 24, 17, 0⟩, ⟨"ALOAD_3", .int, 24, 18, 0⟩, ⟨"ASTORE_1", .int, 24, 19, 0⟩, ⟨"ASTORE_2", .int, 24, 20, 0⟩, ⟨"DUP", .int, 24, 21, 0⟩, ⟨"IUSHR", .int, 24, 22, 0⟩, ⟨"I2L", .int, 24, 23, 0⟩, ⟨"LCMP", .int, 24, 24, 0⟩, ⟨"IFEQ", .int, 24, 25, 0⟩, ⟨"IFNE", .int, 24, 26, 0⟩, ⟨"IF_ICMPNE", .int, 24, 27, 0⟩, ⟨"IF_ACMPEQ", .int, 24, 28, 0⟩, ⟨"TABLESWITCH", .int, 24, 29, 0⟩, ⟨"IRETURN", .int, 24, 30, 0⟩, ⟨"LRETURN", .int, 24, 31, 0⟩, ⟨"ARETURN", .int, 24, 32, 0⟩, ⟨"RETURN", .int, 24, 33, 0⟩, ⟨"GETFIELD", .int, 24, 34, 0⟩, ⟨"PUTFIELD", .int, 24, 35, 0⟩, ⟨"INVOKEVIRTUAL", .int, 24, 36, 0⟩, ⟨"INVOKESPECIAL", .int, 24, 37, 0⟩, ⟨"INVOKESTATIC", .int, 24, 38, 0⟩, ⟨"NEW", .int, 24, 39, 0⟩, ⟨"ATHROW", .int, 24, 40, 0⟩, ⟨"CHECKCAST", .int, 24, 41, 0⟩, ⟨"IFNULL", .int, 24, 42, 0⟩, ⟨"pool", (.object "com/example/eurydice/eurydice/model/ClassFileWriter$Pool"), 18, 0, 0⟩, ⟨"name", (.object "java/lang/String"), 18, 1, 0⟩, ⟨"superName", (.object "java/lang/String"), 18, 2, 0⟩, ⟨"fields", (.object "com/example/eurydice/eurydice/model/ClassFileWriter$Bytes"), 18, 3, 0⟩, ⟨"methods", (.object "com/example/eurydice/eurydice/model/ClassFileWriter$Bytes"), 18, 4, 0⟩, ⟨"fieldCount", .int, 2, 5, 0⟩, ⟨"methodCount", .int, 2, 6, 0⟩, ⟨"tooLarge", .boolean, 2, 7, 0⟩]
  methods := #[k2m0, k2m1, k2m2]
  instanceTypes := #[(.object "com/example/eurydice/eurydice/model/ClassFileWriter$Pool"), (.object "java/lang/String"), (.object "java/lang/String"), (.object "com/example/eurydice/eurydice/model/ClassFileWriter$Bytes"), (.object "com/example/eurydice/eurydice/model/ClassFileWriter$Bytes"), .int, .int, .boolean]
  staticTypes := #[.int, .int, .int, (.object "java/lang/String"), .int, .int, .int, .int, .int, .int, .int, .int, .int, .int, .int, .int, .int, .int, .int, .int, .int, .int, .int, .int, .int, .int, .int, .int, .int, .int, .int, .int, .int, .int, .int, .int, .int, .int, .int, .int, .int, .int, .int]
  resolved := (((((((Array.replicate 402 none).setIfInBounds 9 (some (.cls 9))).setIfInBounds 11 (some (.method ⟨9, 0⟩))).setIfInBounds 16 (some (.cls 10))).setIfInBounds 18 (some (.method ⟨10, 0⟩))).setIfInBounds 62 (some (.field 15 0))).setIfInBounds 73 (some (.field 15 1)))
  statics := none }

def pool3 : Array CpInfo := pool [(1, .class_ 2), (0, u "java/io/Serializable"), (0, .class_ 4), (0, u "java/lang/Object")] 2

/-- java/io/Serializable -/
def k3 : Class := { plain "java/io/Serializable" (some 0) with
  accessFlags := 1537
  interfaces := #[]
  cf := some (fileOf pool3 1 #[] #[] 1537 3 #[] #[])
  fields := #[]
  methods := #[]
  instanceTypes := #[]
  staticTypes := #[]
  resolved := Array.replicate 7 none
  statics := none }

def pool4 : Array CpInfo := pool [(1, .class_ 2), (0, u "java/lang/Comparable"), (0, .class_ 4), (0, u "java/lang/Object")] 7

/-- java/lang/Comparable -/
def k4 : Class := { plain "java/lang/Comparable" (some 0) with
  accessFlags := 1537
  interfaces := #[]
  cf := some (fileOf pool4 1 #[] #[] 1537 3 #[] #[])
  fields := #[]
  methods := #[]
  instanceTypes := #[]
  staticTypes := #[]
  resolved := Array.replicate 12 none
  statics := none }

def pool5 : Array CpInfo := pool [(2, .class_ 4), (1, u "java/lang/CharSequence"), (42, .class_ 48), (0, u "java/lang/CharSequence$1CodePointIterator"), (10, .class_ 60), (0, u "java/lang/CharSequence$1CharIterator"), (5, .class_ 67), (0, u "java/lang/Object")] 63

/-- java/lang/CharSequence -/
def k5 : Class := { plain "java/lang/CharSequence" (some 0) with
  accessFlags := 1537
  interfaces := #[]
  cf := some (fileOf pool5 2 #[.nestMembers #[47, 59]] #[] 1537 66 #[] #[])
  fields := #[]
  methods := #[]
  instanceTypes := #[]
  staticTypes := #[]
  resolved := Array.replicate 131 none
  statics := none }

def pool6 : Array CpInfo := pool [(1, .class_ 2), (0, u "java/lang/constant/Constable"), (0, .class_ 4), (0, u "java/lang/Object")] 6

/-- java/lang/constant/Constable -/
def k6 : Class := { plain "java/lang/constant/Constable" (some 0) with
  accessFlags := 1537
  interfaces := #[]
  cf := some (fileOf pool6 1 #[] #[] 1537 3 #[] #[])
  fields := #[]
  methods := #[]
  instanceTypes := #[]
  staticTypes := #[]
  resolved := Array.replicate 11 none
  statics := none }

def pool7 : Array CpInfo := pool [(1, .class_ 2), (0, u "java/lang/constant/ConstantDesc"), (0, .class_ 4), (0, u "java/lang/Object")] 32

/-- java/lang/constant/ConstantDesc -/
def k7 : Class := { plain "java/lang/constant/ConstantDesc" (some 0) with
  accessFlags := 1537
  interfaces := #[]
  cf := some (fileOf pool7 1 #[] #[] 1537 3 #[] #[])
  fields := #[]
  methods := #[]
  instanceTypes := #[]
  staticTypes := #[]
  resolved := Array.replicate 37 none
  statics := none }

def pool8 : Array CpInfo := pool [(1, .methodref 2 3), (0, .class_ 4), (0, .nameAndType 5 6), (0, u "java/lang/Object"), (0, u "<init>"), (0, u "()V"), (2, .fieldref 10 11), (0, .class_ 12), (0, .nameAndType 13 14), (0, u "java/lang/String"), (0, u "value"), (0, u "[B"), (0, .fieldref 10 16), (0, .nameAndType 17 18), (0, u "coder"), (0, u "B"), (0, .fieldref 10 20), (0, .nameAndType 21 22), (0, u "hash"), (0, u "I"), (0, .fieldref 10 24), (0, .nameAndType 25 26), (0, u "hashIsZero"), (0, u "Z"), (11, .fieldref 10 39), (0, .nameAndType 40 26), (0, u "COMPACT_STRINGS"), (13, .methodref 55 56), (0, .class_ 57), (0, .nameAndType 58 59), (0, u "java/util/Arrays"), (0, u "copyOfRange"), (0, u "([BII)[B"), (47, .class_ 109), (1, u "java/lang/StringLatin1"), (32, u "()Z"), (50, .class_ 195), (1, u "java/lang/System"), (16, .methodref 193 213), (0, .nameAndType 214 215), (0, u "arraycopy"), (0, u "(Ljava/lang/Object;ILjava/lang/Object;II)V"), (118, u "()I"), (0, .methodref 10 336), (0, .nameAndType 17 337), (0, u "()B"), (2, u "()[B"), (22, u "([BI)C"), (27, u "(II)V"), (35, u "(I)C"), (61, .methodref 10 490), (0, .nameAndType 5 491), (0, u "(Ljava/lang/AbstractStringBuilder;Ljava/lang/Void;)V"), (0, .methodref 10 493), (0, .nameAndType 494 142), (0, u "isLatin1"), (0, .methodref 107 496), (0, .nameAndType 497 363), (0, u "charAt"), (3, u "checkIndex"), (4, .nameAndType 507 334), (0, u "length"), (24, u "getBytes"), (16, .methodref 550 506), (0, .class_ 551), (0, u "java/lang/AbstractStringBuilder"), (0, .methodref 550 553), (0, .nameAndType 554 340), (0, u "getValue"), (20, .class_ 576), (0, u "java/lang/CharSequence"), (22, u "CASE_INSENSITIVE_ORDER"), (0, u "Ljava/util/Comparator;"), (27, .methodref 107 629), (0, .nameAndType 630 631), (0, u "hashCode"), (0, u "([B)I"), (189, u "([BIB)V"), (225, .methodref 550 493), (5, .fieldref 1054 1055), (0, .class_ 1056), (0, .nameAndType 1057 1058), (0, u "jdk/internal/util/Preconditions"), (0, u "SIOOBE_FORMATTER"), (0, u "Ljava/util/function/BiFunction;"), (0, .methodref 1054 1060), (0, .nameAndType 501 1061), (0, u "(IILjava/util/function/BiFunction;)I"), (39, u "serialPersistentFields"), (0, u "[Ljava/io/ObjectStreamField;"), (0, .class_ 1104), (0, u "java/lang/String$CaseInsensitiveComparator"), (1, .class_ 1107), (0, u "java/io/Serializable"), (0, .class_ 1109), (0, u "java/lang/Comparable"), (0, .class_ 1111), (0, u "java/lang/constant/Constable"), (0, .class_ 1113), (0, u "java/lang/constant/ConstantDesc"), (2, u "serialVersionUID"), (0, u "J"), (3, u "REPL"), (0, u "C"), (2, u "LATIN1"), (1, u "UTF16"), (105, u "(Ljava/lang/StringBuilder;)V")] 217

def k8m0 : Method := ⟨"<init>", "()V", ⟨[], none⟩, 1, none⟩
def k8c1 : Code := ⟨3, 2, jdk_42_method_53_code, #[], #[]⟩
def k8m1 : Method := ⟨"<init>", "(Ljava/lang/StringBuilder;)V", ⟨[(.object "java/lang/StringBuilder")], none⟩, 1, some k8c1⟩
def k8c2 : Code := ⟨2, 1, jdk_42_method_54_code, #[], #[]⟩
def k8m2 : Method := ⟨"length", "()I", ⟨[], some .int⟩, 1, some k8c2⟩
def k8c3 : Code := ⟨2, 2, jdk_42_method_56_code, #[], #[]⟩
def k8m3 : Method := ⟨"charAt", "(I)C", ⟨[.int], some .char⟩, 1, some k8c3⟩
def k8c4 : Code := ⟨2, 2, jdk_42_method_78_code, #[], #[]⟩
def k8m4 : Method := ⟨"hashCode", "()I", ⟨[], some .int⟩, 1, some k8c4⟩
def k8c5 : Code := ⟨5, 4, jdk_42_method_147_code, #[], #[]⟩
def k8m5 : Method := ⟨"getBytes", "([BIB)V", ⟨[(.array .byte), .int, .byte], none⟩, 0, some k8c5⟩
def k8c6 : Code := ⟨5, 5, jdk_42_method_150_code, #[], #[]⟩
def k8m6 : Method := ⟨"<init>", "(Ljava/lang/AbstractStringBuilder;Ljava/lang/Void;)V", ⟨[(.object "java/lang/AbstractStringBuilder"), (.object "java/lang/Void")], none⟩, 0, some k8c6⟩
def k8c7 : Code := ⟨1, 1, jdk_42_method_152_code, #[], #[]⟩
def k8m7 : Method := ⟨"coder", "()B", ⟨[], some .byte⟩, 0, some k8c7⟩
def k8c8 : Code := ⟨1, 1, jdk_42_method_154_code, #[], #[]⟩
def k8m8 : Method := ⟨"isLatin1", "()Z", ⟨[], some .boolean⟩, 0, some k8c8⟩
def k8c9 : Code := ⟨3, 2, jdk_42_method_155_code, #[], #[]⟩
def k8m9 : Method := ⟨"checkIndex", "(II)V", ⟨[.int, .int], none⟩, 8, some k8c9⟩
/-- java/lang/String -/
def k8 : Class := { plain "java/lang/String" (some 0) with
  accessFlags := 49
  interfaces := #[3, 4, 5, 6, 7]
  cf := some (fileOf pool8 10 #[.nestMembers #[1103]] #[⟨1, 5, 6, #[]⟩, ⟨1, 5, 1233, #[]⟩, ⟨1, 507, 334, #[]⟩, ⟨1, 497, 427, #[]⟩, ⟨1, 630, 334, #[]⟩, ⟨0, 532, 821, #[]⟩, ⟨0, 5, 491, #[]⟩, ⟨0, 17, 337, #[]⟩, ⟨0, 494, 142, #[]⟩, ⟨8, 501, 391, #[]⟩] 49 2 #[1106, 1108, 575, 1110, 1112] #[⟨18, 13, 14, #[]⟩, ⟨18, 17, 18, #[]⟩, ⟨2, 21, 22, #[]⟩, ⟨2, 25, 26, #[]⟩, ⟨26, 1116, 1117, #[]⟩, ⟨24, 40, 26, #[]⟩, ⟨26, 1101, 1102, #[]⟩, ⟨26, 1121, 1122, #[]⟩, ⟨25, 599, 600, #[]⟩, ⟨24, 1125, 18, #[]⟩, ⟨24, 1127, 18, #[]⟩])
  fields := #[⟨"value", (.array .byte), 18, 0, 0⟩, ⟨"coder", .byte, 18, 1, 0⟩, ⟨"hash", .int, 2, 2, 0⟩, ⟨"hashIsZero", .boolean, 2, 3, 0⟩, ⟨"serialVersionUID", .long, 26, 0, 0⟩, ⟨"COMPACT_STRINGS", .boolean, 24, 1, 0⟩, ⟨"serialPersistentFields", (.array (.object "java/io/ObjectStreamField")), 26, 2, 0⟩, ⟨"REPL", .char, 26, 3, 0⟩, ⟨"CASE_INSENSITIVE_ORDER", (.object "java/util/Comparator"), 25, 4, 0⟩, ⟨"LATIN1", .byte, 24, 5, 0⟩, ⟨"UTF16", .byte, 24, 6, 0⟩]
  methods := #[k8m0, k8m1, k8m2, k8m3, k8m4, k8m5, k8m6, k8m7, k8m8, k8m9]
  instanceTypes := #[(.array .byte), .byte, .int, .boolean]
  staticTypes := #[.long, .boolean, (.array (.object "java/io/ObjectStreamField")), .char, (.object "java/util/Comparator"), .byte, .byte]
  resolved := Array.replicate 1451 none
  statics := some 0 }

def pool9 : Array CpInfo := pool [(1, .methodref 2 3), (0, .class_ 4), (0, .nameAndType 5 6), (0, u "java/lang/Object"), (0, u "<init>"), (0, u "()V"), (0, .class_ 8), (0, u "com/example/eurydice/eurydice/model/ClassFileWriter$Bytes"), (0, .methodref 7 3), (0, .fieldref 11 12), (0, .class_ 13), (0, .nameAndType 14 15), (0, u "com/example/eurydice/eurydice/model/ClassFileWriter$Pool"), (0, u "entries"), (0, u "Lcom/example/eurydice/eurydice/model/ClassFileWriter$Bytes;"), (0, .class_ 17), (0, u "java/util/HashMap"), (0, .methodref 16 3), (0, .fieldref 11 20), (0, .nameAndType 21 22), (0, u "numbers"), (0, u "Ljava/util/Map;"), (0, .invokeDynamic 0 24), (0, .nameAndType 25 26), (0, u "accept"), (0, u "(Ljava/lang/String;)Ljava/util/function/Consumer;"), (0, .methodref 11 28), (0, .nameAndType 29 30), (0, u "constant"), (0, u "(ILjava/lang/String;Ljava/util/function/Consumer;)I"), (1, .class_ 34), (1, u "java/lang/Integer"), (0, u "toString"), (4, .methodref 11 41), (0, .nameAndType 42 43), (0, u "utf8"), (0, u "(Ljava/lang/String;)I"), (0, .methodref 11 45), (0, .nameAndType 46 47), (0, u "entry"), (0, u "(I[I)I"), (2, u "classEntry"), (4, .fieldref 11 56), (0, .nameAndType 57 58), (0, u "count"), (0, u "I"), (0, .methodref 7 60), (0, .nameAndType 61 62), (0, u "u2"), (0, u "(I)V"), (0, .methodref 7 64), (0, .nameAndType 65 66), (0, u "append"), (0, u "(Lcom/example/eurydice/eurydice/model/ClassFileWriter$Bytes;)V"), (0, .methodref 68 69), (0, .class_ 70), (0, .nameAndType 35 71), (0, u "java/util/Arrays"), (0, u "([I)Ljava/lang/String;"), (0, .invokeDynamic 2 73), (0, .nameAndType 25 74), (0, u "([I)Ljava/util/function/Consumer;"), (0, .class_ 76), (0, u "java/lang/StringBuilder"), (0, .methodref 75 3), (0, .methodref 75 79), (0, .nameAndType 65 80), (0, u "(I)Ljava/lang/StringBuilder;"), (0, .string 82), (0, u " "), (0, .methodref 75 84), (0, .nameAndType 65 85), (0, u "(Ljava/lang/String;)Ljava/lang/StringBuilder;"), (0, .methodref 75 87), (0, .nameAndType 35 88), (0, u "()Ljava/lang/String;"), (0, .interfaceMethodref 90 91), (0, .class_ 92), (0, .nameAndType 93 94), (0, u "java/util/Map"), (0, u "get"), (0, u "(Ljava/lang/Object;)Ljava/lang/Object;"), (0, .methodref 7 96), (0, .nameAndType 97 62), (0, u "u1"), (0, .interfaceMethodref 99 100), (0, .class_ 101), (0, .nameAndType 25 102), (0, u "java/util/function/Consumer"), (0, u "(Ljava/lang/Object;)V"), (0, .methodref 32 104), (0, .nameAndType 105 106), (0, u "valueOf"), (0, u "(I)Ljava/lang/Integer;"), (0, .interfaceMethodref 90 108), (0, .nameAndType 109 110), (0, u "put"), (0, u "(Ljava/lang/Object;Ljava/lang/Object;)Ljava/lang/Object;"), (0, .methodref 32 112), (0, .nameAndType 113 114), (0, u "intValue"), (0, u "()I"), (3, .methodref 7 119), (0, .nameAndType 42 120), (0, u "(Ljava/lang/String;)V"), (0, u "UTF8"), (2, u "INTEGER"), (1, u "CLASS"), (1, u "FIELD"), (1, u "METHOD"), (1, u "NAME_AND_TYPE"), (11, u "writeTo"), (4, u "lambda$entry$2"), (0, u "([ILcom/example/eurydice/eurydice/model/ClassFileWriter$Bytes;)V"), (4, u "lambda$utf8$0"), (0, u "(Ljava/lang/String;Lcom/example/eurydice/eurydice/model/ClassFileWriter$Bytes;)V"), (3, .class_ 161), (0, u "com/example/eurydice/eurydice/model/ClassFileWriter"), (1, .methodType 102), (0, .methodHandle 6 165), (0, .methodref 11 166), (0, .nameAndType 155 156), (0, .methodType 66), (3, .methodHandle 6 172), (0, .methodref 11 173), (0, .nameAndType 149 150), (0, .methodHandle 6 175), (0, .methodref 176 177), (0, .class_ 178), (0, .nameAndType 179 180), (0, u "java/lang/invoke/LambdaMetafactory"), (0, u "metafactory"), (0, u "(Ljava/lang/invoke/MethodHandles$Lookup;Ljava/lang/String;Ljava/lang/invoke/MethodType;Ljava/lang/invoke/MethodType;Ljava/lang/invoke/MethodHandle;Ljava/lang/invoke/MethodType;)Ljava/lang/invoke/CallSite;")] 8

def k9c0 : Code := ⟨3, 1, prog_83_method_1_code, #[], #[]⟩
def k9m0 : Method := ⟨"<init>", "()V", ⟨[], none⟩, 2, some k9c0⟩
def k9c1 : Code := ⟨4, 2, prog_83_method_2_code, #[], #[]⟩
def k9m1 : Method := ⟨"utf8", "(Ljava/lang/String;)I", ⟨[(.object "java/lang/String")], some .int⟩, 0, some k9c1⟩
def k9c2 : Code := ⟨7, 2, prog_83_method_4_code, #[], #[]⟩
def k9m2 : Method := ⟨"classEntry", "(Ljava/lang/String;)I", ⟨[(.object "java/lang/String")], some .int⟩, 0, some k9c2⟩
def k9c3 : Code := ⟨3, 2, prog_83_method_8_code, #[], #[]⟩
def k9m3 : Method := ⟨"writeTo", "(Lcom/example/eurydice/eurydice/model/ClassFileWriter$Bytes;)V", ⟨[(.object "com/example/eurydice/eurydice/model/ClassFileWriter$Bytes")], none⟩, 0, some k9c3⟩
def k9c4 : Code := ⟨4, 3, prog_83_method_10_code, #[], #[]⟩
def k9m4 : Method := ⟨"entry", "(I[I)I", ⟨[.int, (.array .int)], some .int⟩, 130, some k9c4⟩
def k9c5 : Code := ⟨3, 6, prog_83_method_11_code, #[], #[]⟩
def k9m5 : Method := ⟨"constant", "(ILjava/lang/String;Ljava/util/function/Consumer;)I", ⟨[.int, (.object "java/lang/String"), (.object "java/util/function/Consumer")], some .int⟩, 2, some k9c5⟩
def k9c6 : Code := ⟨2, 6, prog_83_method_12_code, #[], #[]⟩
def k9m6 : Method := ⟨"lambda$entry$2", "([ILcom/example/eurydice/eurydice/model/ClassFileWriter$Bytes;)V", ⟨[(.array .int), (.object "com/example/eurydice/eurydice/model/ClassFileWriter$Bytes")], none⟩, 4106, some k9c6⟩
def k9c7 : Code := ⟨2, 2, prog_83_method_14_code, #[], #[]⟩
def k9m7 : Method := ⟨"lambda$utf8$0", "(Ljava/lang/String;Lcom/example/eurydice/eurydice/model/ClassFileWriter$Bytes;)V", ⟨[(.object "java/lang/String"), (.object "com/example/eurydice/eurydice/model/ClassFileWriter$Bytes")], none⟩, 4106, some k9c7⟩
/-- com/example/eurydice/eurydice/model/ClassFileWriter$Pool -/
def k9 : Class := { plain "com/example/eurydice/eurydice/model/ClassFileWriter$Pool" (some 0) with
  accessFlags := 32
  interfaces := #[]
  cf := some (fileOf pool9 11 #[.nestHost 160, .bootstrapMethods #[⟨174, #[163, 164, 167]⟩, ⟨0, #[]⟩, ⟨174, #[163, 171, 167]⟩]] #[⟨2, 5, 6, #[]⟩, ⟨0, 42, 43, #[]⟩, ⟨0, 50, 43, #[]⟩, ⟨0, 144, 66, #[]⟩, ⟨130, 46, 47, #[]⟩, ⟨2, 29, 30, #[]⟩, ⟨4106, 149, 150, #[]⟩, ⟨4106, 155, 156, #[]⟩] 32 2 #[] #[⟨26, 121, 58, #[]⟩, ⟨26, 124, 58, #[]⟩, ⟨26, 126, 58, #[]⟩, ⟨26, 128, 58, #[]⟩, ⟨26, 130, 58, #[]⟩, ⟨26, 132, 58, #[]⟩, ⟨18, 14, 15, #[]⟩, ⟨18, 21, 22, #[]⟩, ⟨2, 57, 58, #[]⟩])
  fields := #[⟨"UTF8", .int, 26, 0, 0⟩, ⟨"INTEGER", .int, 26, 1, 0⟩, ⟨"CLASS", .int, 26, 2, 0⟩, ⟨"FIELD", .int, 26, 3, 0⟩, ⟨"METHOD", .int, 26, 4, 0⟩, ⟨"NAME_AND_TYPE", .int, 26, 5, 0⟩, ⟨"entries", (.object "com/example/eurydice/eurydice/model/ClassFileWriter$Bytes"), 18, 0, 0⟩, ⟨"numbers", (.object "java/util/Map"), 18, 1, 0⟩, ⟨"count", .int, 2, 2, 0⟩]
  methods := #[k9m0, k9m1, k9m2, k9m3, k9m4, k9m5, k9m6, k9m7]
  instanceTypes := #[(.object "com/example/eurydice/eurydice/model/ClassFileWriter$Bytes"), (.object "java/util/Map"), .int]
  staticTypes := #[.int, .int, .int, .int, .int, .int]
  resolved := Array.replicate 189 none
  callSites := [(1, 4, .makes 49), (4, 7, .makes 50)]
  statics := none }

def pool10 : Array CpInfo := pool [(1, .methodref 2 3), (0, .class_ 4), (0, .nameAndType 5 6), (0, u "java/lang/Object"), (0, u "<init>"), (0, u "()V"), (0, .fieldref 8 9), (0, .class_ 10), (0, .nameAndType 11 12), (0, u "com/example/eurydice/eurydice/model/ClassFileWriter$Bytes"), (0, u "bytes"), (0, u "[B"), (0, .fieldref 8 14), (0, .nameAndType 15 16), (0, u "size"), (0, u "I"), (0, .methodref 18 19), (0, .class_ 20), (0, .nameAndType 21 22), (0, u "java/util/Arrays"), (0, u "copyOf"), (0, u "([BI)[B"), (0, .methodref 8 24), (0, .nameAndType 25 26), (0, u "u1"), (0, u "(I)V"), (0, .methodref 8 28), (0, .nameAndType 29 26), (0, u "u2"), (0, .methodref 8 3), (0, .methodref 32 33), (0, .class_ 34), (0, .nameAndType 35 36), (0, u "java/lang/String"), (0, u "length"), (0, u "()I"), (0, .methodref 32 38), (0, .nameAndType 39 40), (0, u "charAt"), (0, u "(I)C"), (0, .methodref 8 42), (0, .nameAndType 15 36), (0, .methodref 8 44), (0, .nameAndType 45 46), (0, u "append"), (0, u "(Lcom/example/eurydice/eurydice/model/ClassFileWriter$Bytes;)V"), (3, u "u4"), (3, u "utf8"), (0, u "(Ljava/lang/String;)V"), (0, u "toArray"), (0, u "()[B"), (3, .class_ 62), (0, u "com/example/eurydice/eurydice/model/ClassFileWriter")] 2

def k10c0 : Code := ⟨2, 1, prog_81_method_1_code, #[], #[]⟩
def k10m0 : Method := ⟨"<init>", "()V", ⟨[], none⟩, 2, some k10c0⟩
def k10c1 : Code := ⟨1, 1, prog_81_method_2_code, #[], #[]⟩
def k10m1 : Method := ⟨"size", "()I", ⟨[], some .int⟩, 0, some k10c1⟩
def k10c2 : Code := ⟨5, 2, prog_81_method_3_code, #[], #[]⟩
def k10m2 : Method := ⟨"u1", "(I)V", ⟨[.int], none⟩, 0, some k10c2⟩
def k10c3 : Code := ⟨3, 2, prog_81_method_4_code, #[], #[]⟩
def k10m3 : Method := ⟨"u2", "(I)V", ⟨[.int], none⟩, 0, some k10c3⟩
def k10c4 : Code := ⟨3, 2, prog_81_method_5_code, #[], #[]⟩
def k10m4 : Method := ⟨"u4", "(I)V", ⟨[.int], none⟩, 0, some k10c4⟩
def k10c5 : Code := ⟨4, 5, prog_81_method_8_code, #[], #[]⟩
def k10m5 : Method := ⟨"utf8", "(Ljava/lang/String;)V", ⟨[(.object "java/lang/String")], none⟩, 0, some k10c5⟩
def k10c6 : Code := ⟨3, 3, prog_81_method_9_code, #[], #[]⟩
def k10m6 : Method := ⟨"append", "(Lcom/example/eurydice/eurydice/model/ClassFileWriter$Bytes;)V", ⟨[(.object "com/example/eurydice/eurydice/model/ClassFileWriter$Bytes")], none⟩, 0, some k10c6⟩
def k10c7 : Code := ⟨2, 1, prog_81_method_10_code, #[], #[]⟩
def k10m7 : Method := ⟨"toArray", "()[B", ⟨[], some (.array .byte)⟩, 0, some k10c7⟩
/-- com/example/eurydice/eurydice/model/ClassFileWriter$Bytes -/
def k10 : Class := { plain "com/example/eurydice/eurydice/model/ClassFileWriter$Bytes" (some 0) with
  accessFlags := 32
  interfaces := #[]
  cf := some (fileOf pool10 8 #[.nestHost 61] #[⟨2, 5, 6, #[]⟩, ⟨0, 15, 36, #[]⟩, ⟨0, 25, 26, #[]⟩, ⟨0, 29, 26, #[]⟩, ⟨0, 50, 26, #[]⟩, ⟨0, 54, 55, #[]⟩, ⟨0, 45, 46, #[]⟩, ⟨0, 56, 57, #[]⟩] 32 2 #[] #[⟨2, 11, 12, #[]⟩, ⟨2, 15, 16, #[]⟩])
  fields := #[⟨"bytes", (.array .byte), 2, 0, 0⟩, ⟨"size", .int, 2, 1, 0⟩]
  methods := #[k10m0, k10m1, k10m2, k10m3, k10m4, k10m5, k10m6, k10m7]
  instanceTypes := #[(.array .byte), .int]
  staticTypes := #[]
  resolved := Array.replicate 65 none
  statics := none }

def pool11 : Array CpInfo := pool [(2, .class_ 4), (1, u "java/util/Map"), (0, u "get"), (0, u "(Ljava/lang/Object;)Ljava/lang/Object;"), (29, .class_ 37), (0, u "java/util/Map$Entry"), (25, u "(Ljava/lang/Object;Ljava/lang/Object;)Ljava/lang/Object;"), (5, u "put"), (23, .class_ 94), (0, u "java/lang/Object")] 168

def k11m0 : Method := ⟨"get", "(Ljava/lang/Object;)Ljava/lang/Object;", ⟨[(.object "java/lang/Object")], some (.object "java/lang/Object")⟩, 1025, none⟩
def k11m1 : Method := ⟨"put", "(Ljava/lang/Object;Ljava/lang/Object;)Ljava/lang/Object;", ⟨[(.object "java/lang/Object"), (.object "java/lang/Object")], some (.object "java/lang/Object")⟩, 1025, none⟩
/-- java/util/Map -/
def k11 : Class := { plain "java/util/Map" (some 0) with
  accessFlags := 1537
  interfaces := #[]
  cf := some (fileOf pool11 2 #[.nestMembers #[36]] #[⟨1025, 5, 6, #[]⟩, ⟨1025, 69, 63, #[]⟩] 1537 93 #[] #[])
  fields := #[]
  methods := #[k11m0, k11m1]
  instanceTypes := #[]
  staticTypes := #[]
  resolved := Array.replicate 263 none
  statics := none }

def pool12 : Array CpInfo := pool [(1, .methodref 2 3), (0, .class_ 4), (0, .nameAndType 5 6), (0, u "java/lang/Object"), (0, u "<init>"), (0, u "()V"), (1, .class_ 10), (1, u "java/util/AbstractMap"), (42, .class_ 54), (0, u "java/util/Map"), (9, u "keySet"), (0, u "Ljava/util/Set;"), (0, .class_ 67), (0, u "java/util/AbstractMap$1"), (5, u "values"), (0, u "Ljava/util/Collection;"), (0, .class_ 76), (0, u "java/util/AbstractMap$2"), (104, .class_ 182), (0, u "java/util/AbstractMap$ViewCollection"), (0, .class_ 184), (0, u "java/util/AbstractMap$SimpleImmutableEntry"), (0, .class_ 186), (0, u "java/util/AbstractMap$SimpleEntry"), (0, .class_ 188), (0, u "java/util/AbstractMap$2$1"), (0, .class_ 190), (0, u "java/util/AbstractMap$1$1")] 5

def k12c0 : Code := ⟨1, 1, jdk_71_method_1_code, #[], #[]⟩
def k12m0 : Method := ⟨"<init>", "()V", ⟨[], none⟩, 4, some k12c0⟩
/-- java/util/AbstractMap -/
def k12 : Class := { plain "java/util/AbstractMap" (some 0) with
  accessFlags := 1057
  interfaces := #[11]
  cf := some (fileOf pool12 8 #[.nestMembers #[181, 183, 185, 75, 187, 66, 189]] #[⟨4, 5, 6, #[]⟩] 1057 2 #[53] #[⟨128, 64, 65, #[]⟩, ⟨128, 73, 74, #[]⟩])
  fields := #[⟨"keySet", (.object "java/util/Set"), 128, 0, 0⟩, ⟨"values", (.object "java/util/Collection"), 128, 1, 0⟩]
  methods := #[k12m0]
  instanceTypes := #[(.object "java/util/Set"), (.object "java/util/Collection")]
  staticTypes := #[]
  resolved := Array.replicate 196 none
  statics := none }

def pool13 : Array CpInfo := pool [(1, .class_ 2), (0, u "java/lang/Cloneable"), (0, .class_ 4), (0, u "java/lang/Object")] 2

/-- java/lang/Cloneable -/
def k13 : Class := { plain "java/lang/Cloneable" (some 0) with
  accessFlags := 1537
  interfaces := #[]
  cf := some (fileOf pool13 1 #[] #[] 1537 3 #[] #[])
  fields := #[]
  methods := #[]
  instanceTypes := #[]
  staticTypes := #[]
  resolved := Array.replicate 7 none
  statics := none }

def pool14 : Array CpInfo := pool [(1, .methodref 2 3), (0, .class_ 4), (0, .nameAndType 5 6), (0, u "java/lang/Object"), (0, u "hashCode"), (0, u "()I"), (26, u "(Ljava/lang/Object;)I"), (6, .class_ 41), (0, u "java/util/HashMap"), (1, .methodref 44 45), (0, .class_ 46), (0, .nameAndType 47 48), (0, u "java/util/AbstractMap"), (0, u "<init>"), (0, u "()V"), (32, .fieldref 40 82), (0, .nameAndType 83 84), (0, u "loadFactor"), (0, u "F"), (3, .fieldref 40 89), (0, .nameAndType 90 91), (0, u "threshold"), (0, u "I"), (0, .float 1061158912), (8, .class_ 103), (1, u "java/util/Map"), (0, u "size"), (0, .fieldref 40 106), (0, .nameAndType 107 108), (0, u "table"), (0, u "[Ljava/util/HashMap$Node;"), (8, .methodref 40 118), (0, .nameAndType 119 120), (0, u "resize"), (0, u "()[Ljava/util/HashMap$Node;"), (2, u "entrySet"), (25, .methodref 40 150), (0, .nameAndType 151 33), (0, u "hash"), (0, .methodref 40 153), (0, .nameAndType 154 155), (0, u "putVal"), (0, u "(ILjava/lang/Object;Ljava/lang/Object;ZZ)Ljava/lang/Object;"), (0, .fieldref 40 157), (0, .nameAndType 104 91), (0, .methodref 40 159), (0, .nameAndType 160 161), (0, u "getNode"), (0, u "(Ljava/lang/Object;)Ljava/util/HashMap$Node;"), (1, .class_ 165), (1, u "java/util/HashMap$Node"), (14, .class_ 181), (0, u "java/util/HashMap$TreeNode"), (4, .methodref 40 187), (0, .nameAndType 188 189), (0, u "newNode"), (0, u "(ILjava/lang/Object;Ljava/lang/Object;Ljava/util/HashMap$Node;)Ljava/util/HashMap$Node;"), (12, .fieldref 40 203), (0, .nameAndType 204 91), (0, u "modCount"), (0, .methodref 40 206), (0, .nameAndType 207 208), (0, u "afterNodeInsertion"), (0, u "(Z)V"), (33, u "Ljava/util/Set;"), (0, .class_ 244), (0, u "java/util/HashMap$KeySet"), (18, .class_ 264), (0, u "java/util/HashMap$Values"), (3, .class_ 269), (0, u "java/util/HashMap$EntrySet"), (9, u "(Ljava/lang/Object;)Ljava/lang/Object;"), (7, u "(Ljava/lang/Object;Ljava/lang/Object;)Ljava/lang/Object;"), (46, u "get"), (11, .class_ 348), (1, u "java/util/HashMap$UnsafeHolder"), (26, .methodref 163 376), (0, .nameAndType 47 377), (0, u "(ILjava/lang/Object;Ljava/lang/Object;Ljava/util/HashMap$Node;)V"), (14, .class_ 393), (0, u "java/lang/Cloneable"), (0, .class_ 395), (0, u "java/io/Serializable"), (0, u "serialVersionUID"), (0, u "J"), (3, u "DEFAULT_INITIAL_CAPACITY"), (1, u "MAXIMUM_CAPACITY"), (0, u "DEFAULT_LOAD_FACTOR"), (0, u "TREEIFY_THRESHOLD"), (1, u "UNTREEIFY_THRESHOLD"), (1, u "MIN_TREEIFY_CAPACITY"), (60, u "put"), (125, .class_ 597), (0, u "java/util/HashMap$EntrySpliterator"), (0, .class_ 599), (0, u "java/util/HashMap$ValueSpliterator"), (0, .class_ 601), (0, u "java/util/HashMap$KeySpliterator"), (0, .class_ 603), (0, u "java/util/HashMap$HashMapSpliterator"), (0, .class_ 605), (0, u "java/util/HashMap$EntryIterator"), (0, .class_ 607), (0, u "java/util/HashMap$ValueIterator"), (0, .class_ 609), (0, u "java/util/HashMap$KeyIterator"), (0, .class_ 611), (0, u "java/util/HashMap$HashIterator")] 17

def k14c0 : Code := ⟨3, 2, jdk_69_method_1_code, #[], #[]⟩
def k14m0 : Method := ⟨"hash", "(Ljava/lang/Object;)I", ⟨[(.object "java/lang/Object")], some .int⟩, 24, some k14c0⟩
def k14c1 : Code := ⟨2, 1, jdk_69_method_7_code, #[], #[]⟩
def k14m1 : Method := ⟨"<init>", "()V", ⟨[], none⟩, 1, some k14c1⟩
def k14c2 : Code := ⟨2, 3, jdk_69_method_12_code, #[], #[]⟩
def k14m2 : Method := ⟨"get", "(Ljava/lang/Object;)Ljava/lang/Object;", ⟨[(.object "java/lang/Object")], some (.object "java/lang/Object")⟩, 1, some k14c2⟩
def k14c3 : Code := ⟨4, 8, jdk_69_method_13_code, #[], #[]⟩
def k14m3 : Method := ⟨"getNode", "(Ljava/lang/Object;)Ljava/util/HashMap$Node;", ⟨[(.object "java/lang/Object")], some (.object "java/util/HashMap$Node")⟩, 16, some k14c3⟩
def k14c4 : Code := ⟨6, 3, jdk_69_method_15_code, #[], #[]⟩
def k14m4 : Method := ⟨"put", "(Ljava/lang/Object;Ljava/lang/Object;)Ljava/lang/Object;", ⟨[(.object "java/lang/Object"), (.object "java/lang/Object")], some (.object "java/lang/Object")⟩, 1, some k14c4⟩
def k14c5 : Code := ⟨7, 13, jdk_69_method_16_code, #[], #[]⟩
def k14m5 : Method := ⟨"putVal", "(ILjava/lang/Object;Ljava/lang/Object;ZZ)Ljava/lang/Object;", ⟨[.int, (.object "java/lang/Object"), (.object "java/lang/Object"), .boolean, .boolean], some (.object "java/lang/Object")⟩, 16, some k14c5⟩
def k14c6 : Code := ⟨5, 14, jdk_69_method_17_code, #[], #[]⟩
def k14m6 : Method := ⟨"resize", "()[Ljava/util/HashMap$Node;", ⟨[], some (.array (.object "java/util/HashMap$Node"))⟩, 16, some k14c6⟩
def k14c7 : Code := ⟨6, 5, jdk_69_method_46_code, #[], #[]⟩
def k14m7 : Method := ⟨"newNode", "(ILjava/lang/Object;Ljava/lang/Object;Ljava/util/HashMap$Node;)Ljava/util/HashMap$Node;", ⟨[.int, (.object "java/lang/Object"), (.object "java/lang/Object"), (.object "java/util/HashMap$Node")], some (.object "java/util/HashMap$Node")⟩, 0, some k14c7⟩
def k14c8 : Code := ⟨0, 2, jdk_69_method_52_code, #[], #[]⟩
def k14m8 : Method := ⟨"afterNodeInsertion", "(Z)V", ⟨[.boolean], none⟩, 0, some k14c8⟩
/-- java/util/HashMap -/
def k14 : Class := { plain "java/util/HashMap" (some 12) with
  accessFlags := 33
  interfaces := #[11, 13, 3]
  cf := some (fileOf pool14 40 #[.nestMembers #[180, 596, 598, 600, 602, 604, 606, 608, 610, 346, 268, 263, 243, 163]] #[⟨24, 151, 33, #[]⟩, ⟨1, 47, 48, #[]⟩, ⟨1, 334, 279, #[]⟩, ⟨16, 160, 161, #[]⟩, ⟨1, 470, 287, #[]⟩, ⟨16, 154, 155, #[]⟩, ⟨16, 119, 120, #[]⟩, ⟨0, 188, 189, #[]⟩, ⟨0, 207, 208, #[]⟩] 33 44 #[101, 392, 394] #[⟨26, 396, 397, #[]⟩, ⟨24, 401, 91, #[]⟩, ⟨24, 403, 91, #[]⟩, ⟨24, 404, 84, #[]⟩, ⟨24, 405, 91, #[]⟩, ⟨24, 407, 91, #[]⟩, ⟨24, 409, 91, #[]⟩, ⟨128, 107, 108, #[]⟩, ⟨128, 123, 242, #[]⟩, ⟨128, 104, 91, #[]⟩, ⟨128, 204, 91, #[]⟩, ⟨0, 90, 91, #[]⟩, ⟨16, 83, 84, #[]⟩])
  fields := #[⟨"serialVersionUID", .long, 26, 0, 0⟩, ⟨"DEFAULT_INITIAL_CAPACITY", .int, 24, 1, 0⟩, ⟨"MAXIMUM_CAPACITY", .int, 24, 2, 0⟩, ⟨"DEFAULT_LOAD_FACTOR", .float, 24, 3, 0⟩, ⟨"TREEIFY_THRESHOLD", .int, 24, 4, 0⟩, ⟨"UNTREEIFY_THRESHOLD", .int, 24, 5, 0⟩, ⟨"MIN_TREEIFY_CAPACITY", .int, 24, 6, 0⟩, ⟨"table", (.array (.object "java/util/HashMap$Node")), 128, 2, 0⟩, ⟨"entrySet", (.object "java/util/Set"), 128, 3, 0⟩, ⟨"size", .int, 128, 4, 0⟩, ⟨"modCount", .int, 128, 5, 0⟩, ⟨"threshold", .int, 0, 6, 0⟩, ⟨"loadFactor", .float, 16, 7, 0⟩]
  methods := #[k14m0, k14m1, k14m2, k14m3, k14m4, k14m5, k14m6, k14m7, k14m8]
  instanceTypes := #[(.object "java/util/Set"), (.object "java/util/Collection"), (.array (.object "java/util/HashMap$Node")), (.object "java/util/Set"), .int, .int, .int, .float]
  staticTypes := #[.long, .int, .int, .float, .int, .int, .int]
  resolved := Array.replicate 629 none
  statics := none }

def pool15 : Array CpInfo := pool [(1, .class_ 2), (0, u "com/example/eurydice/eurydice/model/ClassFileWriter"), (0, .fieldref 4 5), (0, .class_ 6), (0, .nameAndType 7 8), (0, u "com/example/eurydice/eurydice/model/ClassFileWriter$Code"), (0, u "this$0"), (0, u "Lcom/example/eurydice/eurydice/model/ClassFileWriter;"), (0, .methodref 10 11), (0, .class_ 12), (0, .nameAndType 13 14), (0, u "java/lang/Object"), (0, u "<init>"), (0, u "()V"), (0, .class_ 16), (0, u "com/example/eurydice/eurydice/model/ClassFileWriter$Bytes"), (0, .methodref 15 11), (0, .fieldref 4 19), (0, .nameAndType 20 21), (0, u "bytes"), (0, u "Lcom/example/eurydice/eurydice/model/ClassFileWriter$Bytes;"), (0, .class_ 23), (0, u "java/util/ArrayList"), (0, .methodref 22 11), (0, .fieldref 4 26), (0, .nameAndType 27 28), (0, u "targets"), (0, u "Ljava/util/List;"), (0, .methodref 15 30), (0, .nameAndType 31 32), (0, u "u1"), (0, u "(I)V"), (10, .methodref 15 44), (0, .nameAndType 45 32), (0, u "u2"), (33, u "(I)I"), (68, u "op"), (14, .methodref 15 164), (0, .nameAndType 165 166), (0, u "size"), (0, u "()I"), (48, u "(Lcom/example/eurydice/eurydice/model/ClassFileWriter;)V"), (15, u "branch")] 13

def k15c0 : Code := ⟨3, 2, prog_82_method_1_code, #[], #[]⟩
def k15m0 : Method := ⟨"<init>", "(Lcom/example/eurydice/eurydice/model/ClassFileWriter;)V", ⟨[(.object "com/example/eurydice/eurydice/model/ClassFileWriter")], none⟩, 0, some k15c0⟩
def k15c1 : Code := ⟨2, 2, prog_82_method_2_code, #[], #[]⟩
def k15m1 : Method := ⟨"op", "(I)V", ⟨[.int], none⟩, 0, some k15c1⟩
def k15c2 : Code := ⟨2, 3, prog_82_method_13_code, #[], #[]⟩
def k15m2 : Method := ⟨"branch", "(I)I", ⟨[.int], some .int⟩, 0, some k15c2⟩
/-- com/example/eurydice/eurydice/model/ClassFileWriter$Code -/
def k15 : Class := { plain "com/example/eurydice/eurydice/model/ClassFileWriter$Code" (some 0) with
  accessFlags := 32
  interfaces := #[]
  cf := some (fileOf pool15 4 #[.nestHost 1] #[⟨0, 13, 215, #[]⟩, ⟨0, 148, 32, #[]⟩, ⟨0, 231, 79, #[]⟩] 32 10 #[] #[⟨18, 20, 21, #[]⟩, ⟨18, 27, 28, #[]⟩, ⟨4112, 7, 8, #[]⟩])
  fields := #[⟨"bytes", (.object "com/example/eurydice/eurydice/model/ClassFileWriter$Bytes"), 18, 0, 0⟩, ⟨"targets", (.object "java/util/List"), 18, 1, 0⟩, ⟨"this$0", (.object "com/example/eurydice/eurydice/model/ClassFileWriter"), 4112, 2, 0⟩]
  methods := #[k15m0, k15m1, k15m2]
  instanceTypes := #[(.object "com/example/eurydice/eurydice/model/ClassFileWriter$Bytes"), (.object "java/util/List"), (.object "com/example/eurydice/eurydice/model/ClassFileWriter")]
  staticTypes := #[]
  resolved := Array.replicate 245 none
  statics := none }

def pool16 : Array CpInfo := pool [(2, .class_ 4), (1, u "java/lang/Object"), (0, u "<init>"), (0, u "()V"), (35, .class_ 44), (1, u "java/util/Objects"), (0, u "requireNonNull"), (0, u "(Ljava/lang/Object;)Ljava/lang/Object;")] 137

def k16m0 : Method := ⟨"<init>", "()V", ⟨[], none⟩, 2, none⟩
def k16c1 : Code := ⟨2, 1, jdk_31_method_10_code, #[], #[]⟩
def k16m1 : Method := ⟨"requireNonNull", "(Ljava/lang/Object;)Ljava/lang/Object;", ⟨[(.object "java/lang/Object")], some (.object "java/lang/Object")⟩, 9, some k16c1⟩
/-- java/util/Objects -/
def k16 : Class := { plain "java/util/Objects" (some 0) with
  accessFlags := 49
  interfaces := #[]
  cf := some (fileOf pool16 42 #[] #[⟨2, 5, 6, #[]⟩, ⟨9, 45, 46, #[]⟩] 49 2 #[] #[])
  fields := #[]
  methods := #[k16m0, k16m1]
  instanceTypes := #[]
  staticTypes := #[]
  resolved := Array.replicate 184 none
  statics := none }

def pool17 : Array CpInfo := pool [(8, .class_ 10), (1, u "java/lang/Iterable"), (24, .class_ 36), (0, u "java/lang/Object")] 25

/-- java/lang/Iterable -/
def k17 : Class := { plain "java/lang/Iterable" (some 0) with
  accessFlags := 1537
  interfaces := #[]
  cf := some (fileOf pool17 8 #[] #[] 1537 35 #[] #[])
  fields := #[]
  methods := #[]
  instanceTypes := #[]
  staticTypes := #[]
  resolved := Array.replicate 62 none
  statics := none }

def pool18 : Array CpInfo := pool [(10, .class_ 12), (1, u "java/util/Collection"), (47, .class_ 61), (0, u "java/lang/Object"), (0, .class_ 63), (0, u "java/lang/Iterable")] 51

/-- java/util/Collection -/
def k18 : Class := { plain "java/util/Collection" (some 0) with
  accessFlags := 1537
  interfaces := #[17]
  cf := some (fileOf pool18 10 #[] #[] 1537 60 #[62] #[])
  fields := #[]
  methods := #[]
  instanceTypes := #[]
  staticTypes := #[]
  resolved := Array.replicate 115 none
  statics := none }

def pool19 : Array CpInfo := pool [(1, .methodref 2 3), (0, .class_ 4), (0, .nameAndType 5 6), (0, u "java/lang/Object"), (0, u "<init>"), (0, u "()V"), (1, .class_ 10), (1, u "java/util/AbstractCollection"), (66, .class_ 78), (0, u "java/util/Collection")] 81

def k19c0 : Code := ⟨1, 1, jdk_22_method_1_code, #[], #[]⟩
def k19m0 : Method := ⟨"<init>", "()V", ⟨[], none⟩, 4, some k19c0⟩
/-- java/util/AbstractCollection -/
def k19 : Class := { plain "java/util/AbstractCollection" (some 0) with
  accessFlags := 1057
  interfaces := #[18]
  cf := some (fileOf pool19 8 #[] #[⟨4, 5, 6, #[]⟩] 1057 2 #[77] #[])
  fields := #[]
  methods := #[k19m0]
  instanceTypes := #[]
  staticTypes := #[]
  resolved := Array.replicate 160 none
  statics := none }

def pool20 : Array CpInfo := pool [(8, .class_ 10), (1, u "java/util/SequencedCollection"), (15, .class_ 27), (0, u "java/lang/Object"), (0, .class_ 29), (0, u "java/util/Collection")] 27

/-- java/util/SequencedCollection -/
def k20 : Class := { plain "java/util/SequencedCollection" (some 0) with
  accessFlags := 1537
  interfaces := #[18]
  cf := some (fileOf pool20 8 #[] #[] 1537 26 #[28] #[])
  fields := #[]
  methods := #[]
  instanceTypes := #[]
  staticTypes := #[]
  resolved := Array.replicate 57 none
  statics := none }

def pool21 : Array CpInfo := pool [(8, .class_ 10), (1, u "java/util/List"), (7, u "()Z"), (48, u "isEmpty"), (35, .class_ 104), (0, u "java/lang/Object"), (15, .class_ 121), (0, u "java/util/SequencedCollection"), (1, u "iterator"), (0, u "()Ljava/util/Iterator;")] 126

def k21m0 : Method := ⟨"isEmpty", "()Z", ⟨[], some .boolean⟩, 1025, none⟩
def k21m1 : Method := ⟨"iterator", "()Ljava/util/Iterator;", ⟨[], some (.object "java/util/Iterator")⟩, 1025, none⟩
/-- java/util/List -/
def k21 : Class := { plain "java/util/List" (some 0) with
  accessFlags := 1537
  interfaces := #[20]
  cf := some (fileOf pool21 8 #[] #[⟨1025, 67, 18, #[]⟩, ⟨1025, 123, 124, #[]⟩] 1537 103 #[120] #[])
  fields := #[]
  methods := #[k21m0, k21m1]
  instanceTypes := #[]
  staticTypes := #[]
  resolved := Array.replicate 251 none
  statics := none }

def pool22 : Array CpInfo := pool [(1, .methodref 2 3), (0, .class_ 4), (0, .nameAndType 5 6), (0, u "java/util/AbstractCollection"), (0, u "<init>"), (0, u "()V"), (0, .fieldref 8 9), (0, .class_ 10), (0, .nameAndType 11 12), (0, u "java/util/AbstractList"), (0, u "modCount"), (0, u "I"), (64, .class_ 78), (0, u "java/util/AbstractList$Itr"), (3, .class_ 83), (0, u "java/util/AbstractList$ListItr"), (9, .class_ 94), (0, u "java/util/AbstractList$RandomAccessSubList"), (3, .class_ 99), (0, u "java/util/AbstractList$SubList"), (33, .class_ 134), (0, u "java/util/List"), (73, .class_ 209), (0, u "java/util/AbstractList$SubList$1"), (0, .class_ 211), (0, u "java/util/AbstractList$RandomAccessSpliterator")] 6

def k22c0 : Code := ⟨2, 1, jdk_39_method_1_code, #[], #[]⟩
def k22m0 : Method := ⟨"<init>", "()V", ⟨[], none⟩, 4, some k22c0⟩
/-- java/util/AbstractList -/
def k22 : Class := { plain "java/util/AbstractList" (some 19) with
  accessFlags := 1057
  interfaces := #[21]
  cf := some (fileOf pool22 8 #[.nestMembers #[93, 98, 208, 210, 82, 77]] #[⟨4, 5, 6, #[]⟩] 1057 2 #[133] #[⟨132, 11, 12, #[]⟩])
  fields := #[⟨"modCount", .int, 132, 0, 0⟩]
  methods := #[k22m0]
  instanceTypes := #[.int]
  staticTypes := #[]
  resolved := Array.replicate 218 none
  statics := none }

def pool23 : Array CpInfo := pool [(1, .class_ 2), (0, u "java/util/RandomAccess"), (0, .class_ 4), (0, u "java/lang/Object")] 2

/-- java/util/RandomAccess -/
def k23 : Class := { plain "java/util/RandomAccess" (some 0) with
  accessFlags := 1537
  interfaces := #[]
  cf := some (fileOf pool23 1 #[] #[] 1537 3 #[] #[])
  fields := #[]
  methods := #[]
  instanceTypes := #[]
  staticTypes := #[]
  resolved := Array.replicate 7 none
  statics := none }

def pool24 : Array CpInfo := pool [(1, .methodref 2 3), (0, .class_ 4), (0, .nameAndType 5 6), (0, u "java/util/AbstractList"), (0, u "<init>"), (0, u "()V"), (2, .fieldref 10 11), (0, .class_ 12), (0, .nameAndType 13 14), (0, u "java/util/ArrayList"), (0, u "elementData"), (0, u "[Ljava/lang/Object;"), (2, u "EMPTY_ELEMENTDATA"), (21, .fieldref 10 40), (0, .nameAndType 41 14), (0, u "DEFAULTCAPACITY_EMPTY_ELEMENTDATA"), (6, .fieldref 10 49), (0, .nameAndType 50 51), (0, u "size"), (0, u "I"), (96, .class_ 149), (0, u "java/util/List"), (16, u "iterator"), (0, u "()Ljava/util/Iterator;"), (5, u "()Z"), (88, .class_ 263), (0, u "java/util/ArrayList$ListItr"), (3, .class_ 268), (0, u "java/util/ArrayList$Itr"), (0, .methodref 267 270), (0, .nameAndType 5 271), (0, u "(Ljava/util/ArrayList;)V"), (4, .class_ 277), (0, u "java/util/ArrayList$SubList"), (12, .class_ 291), (0, u "java/util/ArrayList$ArrayListSpliterator"), (37, .class_ 330), (0, u "java/util/RandomAccess"), (0, .class_ 332), (0, u "java/lang/Cloneable"), (0, .class_ 334), (0, u "java/io/Serializable"), (0, u "serialVersionUID"), (0, u "J"), (3, u "DEFAULT_CAPACITY"), (22, u "isEmpty"), (136, .class_ 501), (0, u "java/util/ArrayList$SubList$2"), (0, .class_ 503), (0, u "java/util/ArrayList$SubList$1")] 5

def k24c0 : Code := ⟨2, 1, jdk_38_method_2_code, #[], #[]⟩
def k24m0 : Method := ⟨"<init>", "()V", ⟨[], none⟩, 1, some k24c0⟩
def k24c1 : Code := ⟨1, 1, jdk_38_method_9_code, #[], #[]⟩
def k24m1 : Method := ⟨"isEmpty", "()Z", ⟨[], some .boolean⟩, 1, some k24c1⟩
def k24c2 : Code := ⟨3, 1, jdk_38_method_55_code, #[], #[]⟩
def k24m2 : Method := ⟨"iterator", "()Ljava/util/Iterator;", ⟨[], some (.object "java/util/Iterator")⟩, 1, some k24c2⟩
/-- java/util/ArrayList -/
def k24 : Class := { plain "java/util/ArrayList" (some 22) with
  accessFlags := 33
  interfaces := #[21, 23, 13, 3]
  cf := some (fileOf pool24 10 #[.nestMembers #[290, 276, 500, 502, 262, 267]] #[⟨1, 5, 6, #[]⟩, ⟨1, 363, 173, #[]⟩, ⟨1, 166, 167, #[]⟩] 33 2 #[148, 329, 331, 333] #[⟨26, 335, 336, #[]⟩, ⟨26, 340, 51, #[]⟩, ⟨26, 17, 14, #[]⟩, ⟨26, 41, 14, #[]⟩, ⟨128, 13, 14, #[]⟩, ⟨2, 50, 51, #[]⟩])
  fields := #[⟨"serialVersionUID", .long, 26, 0, 0⟩, ⟨"DEFAULT_CAPACITY", .int, 26, 1, 0⟩, ⟨"EMPTY_ELEMENTDATA", (.array (.object "java/lang/Object")), 26, 2, 0⟩, ⟨"DEFAULTCAPACITY_EMPTY_ELEMENTDATA", (.array (.object "java/lang/Object")), 26, 3, 0⟩, ⟨"elementData", (.array (.object "java/lang/Object")), 128, 1, 0⟩, ⟨"size", .int, 2, 2, 0⟩]
  methods := #[k24m0, k24m1, k24m2]
  instanceTypes := #[.int, (.array (.object "java/lang/Object")), .int]
  staticTypes := #[.long, .int, (.array (.object "java/lang/Object")), (.array (.object "java/lang/Object"))]
  resolved := Array.replicate 509 none
  statics := some 1 }

def pool25 : Array CpInfo := pool [(16, .class_ 18), (1, u "java/util/Iterator"), (0, u "hasNext"), (0, u "()Z"), (10, .class_ 32), (0, u "java/lang/Object")] 20

def k25m0 : Method := ⟨"hasNext", "()Z", ⟨[], some .boolean⟩, 1025, none⟩
/-- java/util/Iterator -/
def k25 : Class := { plain "java/util/Iterator" (some 0) with
  accessFlags := 1537
  interfaces := #[]
  cf := some (fileOf pool25 16 #[] #[⟨1025, 19, 20, #[]⟩] 1537 31 #[] #[])
  fields := #[]
  methods := #[k25m0]
  instanceTypes := #[]
  staticTypes := #[]
  resolved := Array.replicate 53 none
  statics := none }

def pool26 : Array CpInfo := pool [(1, .fieldref 2 3), (0, .class_ 4), (0, .nameAndType 5 6), (0, u "java/util/ArrayList$Itr"), (0, u "this$0"), (0, u "Ljava/util/ArrayList;"), (0, .methodref 8 9), (0, .class_ 10), (0, .nameAndType 11 12), (0, u "java/lang/Object"), (0, u "<init>"), (0, u "()V"), (0, .fieldref 2 14), (0, .nameAndType 15 16), (0, u "lastRet"), (0, u "I"), (0, .fieldref 18 19), (0, .class_ 20), (0, .nameAndType 21 16), (0, u "java/util/ArrayList"), (0, u "modCount"), (0, .fieldref 2 23), (0, .nameAndType 24 16), (0, u "expectedModCount"), (0, .fieldref 2 26), (0, .nameAndType 27 16), (0, u "cursor"), (0, .fieldref 18 29), (0, .nameAndType 30 16), (0, u "size"), (38, .class_ 70), (0, u "java/util/Iterator"), (0, u "(Ljava/util/ArrayList;)V"), (8, u "hasNext"), (0, u "()Z")] 22

def k26c0 : Code := ⟨2, 2, jdk_49_method_1_code, #[], #[]⟩
def k26m0 : Method := ⟨"<init>", "(Ljava/util/ArrayList;)V", ⟨[(.object "java/util/ArrayList")], none⟩, 0, some k26c0⟩
def k26c1 : Code := ⟨2, 1, jdk_49_method_2_code, #[], #[]⟩
def k26m1 : Method := ⟨"hasNext", "()Z", ⟨[], some .boolean⟩, 1, some k26c1⟩
/-- java/util/ArrayList$Itr -/
def k26 : Class := { plain "java/util/ArrayList$Itr" (some 0) with
  accessFlags := 32
  interfaces := #[25]
  cf := some (fileOf pool26 2 #[.nestHost 18] #[⟨0, 11, 71, #[]⟩, ⟨1, 80, 81, #[]⟩] 32 8 #[69] #[⟨0, 27, 16, #[]⟩, ⟨0, 15, 16, #[]⟩, ⟨0, 24, 16, #[]⟩, ⟨4112, 5, 6, #[]⟩])
  fields := #[⟨"cursor", .int, 0, 0, 0⟩, ⟨"lastRet", .int, 0, 1, 0⟩, ⟨"expectedModCount", .int, 0, 2, 0⟩, ⟨"this$0", (.object "java/util/ArrayList"), 4112, 3, 0⟩]
  methods := #[k26m0, k26m1]
  instanceTypes := #[.int, .int, .int, (.object "java/util/ArrayList")]
  staticTypes := #[]
  resolved := Array.replicate 104 none
  statics := none }

def pool27 : Array CpInfo := pool [(9, u "accept"), (2, .class_ 14), (1, u "java/util/function/Consumer"), (0, u "(Ljava/lang/Object;)V"), (0, .class_ 17), (0, u "java/lang/Object")] 41

def k27m0 : Method := ⟨"accept", "(Ljava/lang/Object;)V", ⟨[(.object "java/lang/Object")], none⟩, 1025, none⟩
/-- java/util/function/Consumer -/
def k27 : Class := { plain "java/util/function/Consumer" (some 0) with
  accessFlags := 1537
  interfaces := #[]
  cf := some (fileOf pool27 12 #[] #[⟨1025, 9, 15, #[]⟩] 1537 16 #[] #[])
  fields := #[]
  methods := #[k27m0]
  instanceTypes := #[]
  staticTypes := #[]
  resolved := Array.replicate 59 none
  statics := none }

def pool28 : Array CpInfo := pool [(1, .class_ 2), (0, u "java/lang/Appendable"), (0, .class_ 4), (0, u "java/lang/Object")] 9

/-- java/lang/Appendable -/
def k28 : Class := { plain "java/lang/Appendable" (some 0) with
  accessFlags := 1537
  interfaces := #[]
  cf := some (fileOf pool28 1 #[] #[] 1537 3 #[] #[])
  fields := #[]
  methods := #[]
  instanceTypes := #[]
  staticTypes := #[]
  resolved := Array.replicate 14 none
  statics := none }

def pool29 : Array CpInfo := pool [(1, .class_ 2), (0, u "java/lang/String"), (0, .methodref 4 5), (0, .class_ 6), (0, .nameAndType 7 8), (0, u "java/lang/Object"), (0, u "<init>"), (0, u "()V"), (1, .class_ 12), (1, u "java/lang/AbstractStringBuilder"), (0, u "EMPTYVALUE"), (0, u "[B"), (0, .fieldref 10 16), (0, .nameAndType 17 14), (0, u "value"), (0, .fieldref 1 19), (0, .nameAndType 20 21), (0, u "COMPACT_STRINGS"), (0, u "Z"), (0, .fieldref 10 23), (0, .nameAndType 24 25), (0, u "coder"), (0, u "B"), (6, .methodref 1 33), (0, .nameAndType 34 35), (0, u "length"), (0, u "()I"), (0, .class_ 37), (0, u "java/lang/Integer"), (1, .integer 2147483647), (0, .methodref 1 41), (0, .nameAndType 24 42), (0, u "()B"), (2, u "append"), (0, u "(Ljava/lang/String;)Ljava/lang/AbstractStringBuilder;"), (1, .class_ 49), (0, u "java/lang/CharSequence"), (19, u "(Ljava/lang/String;)V"), (5, u "maybeLatin1"), (3, .fieldref 10 80), (0, .nameAndType 81 82), (0, u "count"), (0, u "I"), (0, .methodref 10 84), (0, .nameAndType 85 86), (0, u "isLatin1"), (0, u "()Z"), (1, .class_ 90), (1, u "java/lang/StringLatin1"), (9, .methodref 10 101), (0, .nameAndType 102 103), (0, u "ensureCapacityInternal"), (0, u "(I)V"), (0, .methodref 10 105), (0, .nameAndType 106 107), (0, u "newCapacity"), (0, u "(I)I"), (0, .methodref 109 110), (0, .class_ 111), (0, .nameAndType 112 113), (0, u "java/util/Arrays"), (0, u "copyOf"), (0, u "([BI)[B"), (0, .methodref 115 116), (0, .class_ 117), (0, .nameAndType 118 119), (0, u "jdk/internal/util/ArraysSupport"), (0, u "newLength"), (0, u "(III)I"), (68, u "getChars"), (2, .methodref 88 192), (0, .nameAndType 193 194), (0, u "canEncode"), (0, u "(C)Z"), (13, .methodref 10 209), (0, .nameAndType 210 211), (0, u "putStringAt"), (0, u "(ILjava/lang/String;)V"), (5, u "inflateIfNeededFor"), (2, .nameAndType 221 222), (0, u "getBytes"), (0, u "([BIB)V"), (22, .methodref 36 246), (0, .nameAndType 247 107), (0, u "stringSize"), (0, .methodref 36 249), (0, .nameAndType 188 250), (0, u "(II[B)I"), (41, u "(C)Ljava/lang/AbstractStringBuilder;"), (104, .methodref 10 398), (0, .nameAndType 217 69), (0, .methodref 1 220), (3, u "()[B"), (40, .class_ 445), (0, u "java/lang/Appendable"), (65, u "(I)Ljava/lang/AbstractStringBuilder;"), (40, u "getValue")] 56

def k29m0 : Method := ⟨"<init>", "()V", ⟨[], none⟩, 0, none⟩
def k29c1 : Code := ⟨2, 2, jdk_68_method_2_code, #[], #[]⟩
def k29m1 : Method := ⟨"<init>", "(I)V", ⟨[.int], none⟩, 0, some k29c1⟩
def k29c2 : Code := ⟨1, 1, jdk_68_method_6_code, #[], #[]⟩
def k29m2 : Method := ⟨"length", "()I", ⟨[], some .int⟩, 1, some k29c2⟩
def k29c3 : Code := ⟨4, 3, jdk_68_method_9_code, #[], #[]⟩
def k29m3 : Method := ⟨"ensureCapacityInternal", "(I)V", ⟨[.int], none⟩, 2, some k29c3⟩
def k29c4 : Code := ⟨5, 6, jdk_68_method_10_code, #[], #[]⟩
def k29m4 : Method := ⟨"newCapacity", "(I)I", ⟨[.int], some .int⟩, 2, some k29c4⟩
def k29c5 : Code := ⟨3, 3, jdk_68_method_22_code, #[], #[]⟩
def k29m5 : Method := ⟨"append", "(Ljava/lang/String;)Ljava/lang/AbstractStringBuilder;", ⟨[(.object "java/lang/String")], some (.object "java/lang/AbstractStringBuilder")⟩, 1, some k29c5⟩
def k29c6 : Code := ⟨5, 2, jdk_68_method_31_code, #[], #[]⟩
def k29m6 : Method := ⟨"append", "(C)Ljava/lang/AbstractStringBuilder;", ⟨[.char], some (.object "java/lang/AbstractStringBuilder")⟩, 1, some k29c6⟩
def k29c7 : Code := ⟨4, 4, jdk_68_method_32_code, #[], #[]⟩
def k29m7 : Method := ⟨"append", "(I)Ljava/lang/AbstractStringBuilder;", ⟨[.int], some (.object "java/lang/AbstractStringBuilder")⟩, 1, some k29c7⟩
def k29c8 : Code := ⟨1, 1, jdk_68_method_64_code, #[], #[]⟩
def k29m8 : Method := ⟨"getValue", "()[B", ⟨[], some (.array .byte)⟩, 16, some k29c8⟩
def k29c9 : Code := ⟨1, 1, jdk_68_method_68_code, #[], #[]⟩
def k29m9 : Method := ⟨"isLatin1", "()Z", ⟨[], some .boolean⟩, 16, some k29c9⟩
def k29c10 : Code := ⟨2, 2, jdk_68_method_71_code, #[], #[]⟩
def k29m10 : Method := ⟨"inflateIfNeededFor", "(Ljava/lang/String;)V", ⟨[(.object "java/lang/String")], none⟩, 2, some k29c10⟩
def k29c11 : Code := ⟨4, 3, jdk_68_method_73_code, #[], #[]⟩
def k29m11 : Method := ⟨"putStringAt", "(ILjava/lang/String;)V", ⟨[.int, (.object "java/lang/String")], none⟩, 2, some k29c11⟩
/-- java/lang/AbstractStringBuilder -/
def k29 : Class := { plain "java/lang/AbstractStringBuilder" (some 0) with
  accessFlags := 1056
  interfaces := #[28, 5]
  cf := some (fileOf pool29 10 #[] #[⟨0, 7, 8, #[]⟩, ⟨0, 7, 103, #[]⟩, ⟨1, 34, 35, #[]⟩, ⟨2, 102, 103, #[]⟩, ⟨2, 106, 107, #[]⟩, ⟨1, 45, 46, #[]⟩, ⟨1, 45, 292, #[]⟩, ⟨1, 45, 511, #[]⟩, ⟨16, 552, 403, #[]⟩, ⟨16, 85, 86, #[]⟩, ⟨2, 217, 69, #[]⟩, ⟨2, 210, 211, #[]⟩] 1056 4 #[444, 48] #[⟨0, 17, 14, #[]⟩, ⟨0, 24, 25, #[]⟩, ⟨0, 75, 21, #[]⟩, ⟨0, 81, 82, #[]⟩, ⟨26, 13, 14, #[]⟩])
  fields := #[⟨"value", (.array .byte), 0, 0, 0⟩, ⟨"coder", .byte, 0, 1, 0⟩, ⟨"maybeLatin1", .boolean, 0, 2, 0⟩, ⟨"count", .int, 0, 3, 0⟩, ⟨"EMPTYVALUE", (.array .byte), 26, 0, 0⟩]
  methods := #[k29m0, k29m1, k29m2, k29m3, k29m4, k29m5, k29m6, k29m7, k29m8, k29m9, k29m10, k29m11]
  instanceTypes := #[(.array .byte), .byte, .boolean, .int]
  staticTypes := #[(.array .byte)]
  resolved := Array.replicate 609 none
  statics := none }

def pool30 : Array CpInfo := pool [(1, .methodref 2 3), (0, .class_ 4), (0, .nameAndType 5 6), (0, u "java/lang/AbstractStringBuilder"), (0, u "<init>"), (0, u "(I)V"), (11, .class_ 20), (1, u "java/lang/String"), (3, .class_ 26), (1, u "java/lang/StringBuilder"), (0, u "append"), (0, u "(Ljava/lang/String;)Ljava/lang/StringBuilder;"), (0, .methodref 2 30), (0, .nameAndType 27 31), (0, u "(Ljava/lang/String;)Ljava/lang/AbstractStringBuilder;"), (18, .methodref 2 51), (0, .nameAndType 27 52), (0, u "(C)Ljava/lang/AbstractStringBuilder;"), (0, .methodref 2 54), (0, .nameAndType 27 55), (0, u "(I)Ljava/lang/AbstractStringBuilder;"), (81, .methodref 18 138), (0, .nameAndType 5 139), (0, u "(Ljava/lang/StringBuilder;)V"), (5, u "()V"), (10, u "()I"), (111, u "(I)Ljava/lang/StringBuilder;"), (17, u "(C)Ljava/lang/StringBuilder;"), (56, .methodref 2 344), (0, .nameAndType 345 156), (0, u "length"), (3, .class_ 350), (0, u "java/lang/Appendable"), (0, .class_ 352), (0, u "java/io/Serializable"), (0, .class_ 354), (0, u "java/lang/Comparable"), (0, .class_ 356), (0, u "java/lang/CharSequence"), (0, u "serialVersionUID"), (0, u "J"), (40, u "toString"), (0, u "()Ljava/lang/String;")] 21

def k30c0 : Code := ⟨2, 1, jdk_67_method_1_code, #[], #[]⟩
def k30m0 : Method := ⟨"<init>", "()V", ⟨[], none⟩, 1, some k30c0⟩
def k30c1 : Code := ⟨2, 2, jdk_67_method_7_code, #[], #[]⟩
def k30m1 : Method := ⟨"append", "(Ljava/lang/String;)Ljava/lang/StringBuilder;", ⟨[(.object "java/lang/String")], some (.object "java/lang/StringBuilder")⟩, 1, some k30c1⟩
def k30c2 : Code := ⟨2, 2, jdk_67_method_14_code, #[], #[]⟩
def k30m2 : Method := ⟨"append", "(C)Ljava/lang/StringBuilder;", ⟨[.char], some (.object "java/lang/StringBuilder")⟩, 1, some k30c2⟩
def k30c3 : Code := ⟨2, 2, jdk_67_method_15_code, #[], #[]⟩
def k30m3 : Method := ⟨"append", "(I)Ljava/lang/StringBuilder;", ⟨[.int], some (.object "java/lang/StringBuilder")⟩, 1, some k30c3⟩
def k30c4 : Code := ⟨3, 1, jdk_67_method_42_code, #[], #[]⟩
def k30m4 : Method := ⟨"toString", "()Ljava/lang/String;", ⟨[], some (.object "java/lang/String")⟩, 1, some k30c4⟩
def k30c5 : Code := ⟨1, 1, jdk_67_method_93_code, #[], #[]⟩
def k30m5 : Method := ⟨"length", "()I", ⟨[], some .int⟩, 4161, some k30c5⟩
/-- java/lang/StringBuilder -/
def k30 : Class := { plain "java/lang/StringBuilder" (some 29) with
  accessFlags := 49
  interfaces := #[28, 3, 4, 5]
  cf := some (fileOf pool30 24 #[] #[⟨1, 5, 145, #[]⟩, ⟨1, 27, 28, #[]⟩, ⟨1, 27, 286, #[]⟩, ⟨1, 27, 268, #[]⟩, ⟨1, 399, 400, #[]⟩, ⟨4161, 345, 156, #[]⟩] 49 2 #[349, 351, 353, 355] #[⟨24, 357, 358, #[]⟩])
  fields := #[⟨"serialVersionUID", .long, 24, 0, 0⟩]
  methods := #[k30m0, k30m1, k30m2, k30m3, k30m4, k30m5]
  instanceTypes := #[(.array .byte), .byte, .boolean, .int]
  staticTypes := #[.long]
  resolved := Array.replicate 422 none
  statics := none }

def pool31 : Array CpInfo := pool [(2, .class_ 4), (1, u "java/lang/Object"), (0, u "<init>"), (0, u "()V"), (1, .class_ 10), (1, u "java/lang/Number"), (2, .class_ 14), (0, u "java/io/Serializable"), (0, u "serialVersionUID"), (0, u "J")] 20

def k31m0 : Method := ⟨"<init>", "()V", ⟨[], none⟩, 1, none⟩
/-- java/lang/Number -/
def k31 : Class := { plain "java/lang/Number" (some 0) with
  accessFlags := 1057
  interfaces := #[3]
  cf := some (fileOf pool31 8 #[] #[⟨1, 5, 6, #[]⟩] 1057 2 #[13] #[⟨26, 15, 16, #[]⟩])
  fields := #[⟨"serialVersionUID", .long, 26, 0, 0⟩]
  methods := #[k31m0]
  instanceTypes := #[]
  staticTypes := #[.long]
  resolved := Array.replicate 37 none
  statics := none }

def pool32 : Array CpInfo := pool [(1, .class_ 2), (0, u "java/lang/Integer"), (16, u "digits"), (0, u "[C"), (33, u "(I)I"), (19, u "stringSize"), (2, u "getChars"), (0, u "(II[B)I"), (4, .fieldref 1 84), (0, .nameAndType 85 86), (0, u "DigitOnes"), (0, u "[B"), (2, u "DigitTens"), (31, u "()I"), (65, u "valueOf"), (0, u "(I)Ljava/lang/Integer;"), (0, .class_ 190), (0, u "java/lang/Integer$IntegerCache"), (0, .fieldref 189 192), (0, .nameAndType 193 194), (0, u "high"), (0, u "I"), (0, .fieldref 189 196), (0, .nameAndType 197 198), (0, u "cache"), (0, u "[Ljava/lang/Integer;"), (4, .class_ 204), (0, u "java/lang/Number"), (0, .fieldref 1 206), (0, .nameAndType 207 194), (0, u "value"), (5, u "intValue"), (88, u "TYPE"), (0, u "Ljava/lang/Class;"), (0, .class_ 305), (0, u "java/lang/Comparable"), (0, .class_ 307), (0, u "java/lang/constant/Constable"), (0, .class_ 309), (0, u "java/lang/constant/ConstantDesc"), (0, u "MIN_VALUE"), (1, u "MAX_VALUE"), (3, u "SIZE"), (1, u "BYTES"), (1, u "serialVersionUID"), (0, u "J")] 131

def k32c0 : Code := ⟨4, 7, jdk_33_method_12_code, #[], #[]⟩
def k32m0 : Method := ⟨"getChars", "(II[B)I", ⟨[.int, .int, (.array .byte)], some .int⟩, 8, some k32c0⟩
def k32c1 : Code := ⟨2, 4, jdk_33_method_13_code, #[], #[]⟩
def k32m1 : Method := ⟨"stringSize", "(I)I", ⟨[.int], some .int⟩, 8, some k32c1⟩
def k32c2 : Code := ⟨3, 1, jdk_33_method_22_code, #[], #[]⟩
def k32m2 : Method := ⟨"valueOf", "(I)Ljava/lang/Integer;", ⟨[.int], some (.object "java/lang/Integer")⟩, 9, some k32c2⟩
def k32c3 : Code := ⟨1, 1, jdk_33_method_27_code, #[], #[]⟩
def k32m3 : Method := ⟨"intValue", "()I", ⟨[], some .int⟩, 1, some k32c3⟩
/-- java/lang/Integer -/
def k32 : Class := { plain "java/lang/Integer" (some 31) with
  accessFlags := 49
  interfaces := #[4, 6, 7]
  cf := some (fileOf pool32 1 #[.nestMembers #[189]] #[⟨8, 77, 78, #[]⟩, ⟨8, 74, 54, #[]⟩, ⟨9, 187, 188, #[]⟩, ⟨1, 213, 121, #[]⟩] 49 203 #[304, 306, 308] #[⟨25, 310, 194, #[]⟩, ⟨25, 312, 194, #[]⟩, ⟨25, 302, 303, #[]⟩, ⟨24, 19, 20, #[]⟩, ⟨24, 89, 86, #[]⟩, ⟨24, 85, 86, #[]⟩, ⟨18, 207, 194, #[]⟩, ⟨25, 316, 194, #[]⟩, ⟨25, 318, 194, #[]⟩, ⟨26, 320, 321, #[]⟩])
  fields := #[⟨"MIN_VALUE", .int, 25, 0, 0⟩, ⟨"MAX_VALUE", .int, 25, 1, 0⟩, ⟨"TYPE", (.object "java/lang/Class"), 25, 2, 0⟩, ⟨"digits", (.array .char), 24, 3, 0⟩, ⟨"DigitTens", (.array .byte), 24, 4, 0⟩, ⟨"DigitOnes", (.array .byte), 24, 5, 0⟩, ⟨"value", .int, 18, 0, 0⟩, ⟨"SIZE", .int, 25, 6, 0⟩, ⟨"BYTES", .int, 25, 7, 0⟩, ⟨"serialVersionUID", .long, 26, 8, 0⟩]
  methods := #[k32m0, k32m1, k32m2, k32m3]
  instanceTypes := #[.int]
  staticTypes := #[.int, .int, (.object "java/lang/Class"), (.array .char), (.array .byte), (.array .byte), .int, .int, .long]
  resolved := Array.replicate 453 none
  statics := some 2 }

def pool33 : Array CpInfo := pool [(2, .class_ 4), (1, u "java/lang/Object"), (0, u "<init>"), (0, u "()V"), (1, .class_ 10), (1, u "java/lang/System"), (0, u "allowSecurityManager"), (0, u "I"), (16, u "cons"), (0, u "Ljava/io/Console;"), (77, .class_ 110), (1, u "java/lang/System$CallersHolder"), (43, u "initialErrStream"), (0, u "Ljava/io/PrintStream;"), (19, u "security"), (0, u "Ljava/lang/SecurityManager;"), (31, .class_ 209), (0, u "java/lang/System$1"), (7, u "props"), (0, u "Ljava/util/Properties;"), (2, u "lineSeparator"), (0, u "Ljava/lang/String;"), (96, .class_ 321), (1, u "java/lang/System$LoggerFinder"), (5, .class_ 328), (0, u "java/lang/System$Logger"), (67, u "err"), (2, u "out"), (91, u "notSupportedJnuEncoding"), (15, u "in"), (17, u "initialIn"), (0, u "Ljava/io/InputStream;"), (35, u "bootLayer"), (0, u "Ljava/lang/ModuleLayer;"), (99, .class_ 664), (0, u "java/lang/System$2"), (9, u "NEVER"), (2, u "MAYBE"), (49, u "arraycopy"), (0, u "(Ljava/lang/Object;ILjava/lang/Object;II)V"), (72, .class_ 802), (0, u "java/lang/System$Logger$Level")] 31

def k33m0 : Method := ⟨"<init>", "()V", ⟨[], none⟩, 2, none⟩
def k33m1 : Method := ⟨"arraycopy", "(Ljava/lang/Object;ILjava/lang/Object;II)V", ⟨[(.object "java/lang/Object"), .int, (.object "java/lang/Object"), .int, .int], none⟩, 265, none⟩
/-- java/lang/System -/
def k33 : Class := { plain "java/lang/System" (some 0) with
  accessFlags := 49
  interfaces := #[]
  cf := some (fileOf pool33 8 #[.nestMembers #[319, 327, 801, 108, 663, 208]] #[⟨2, 5, 6, #[]⟩, ⟨265, 727, 728, #[]⟩] 49 2 #[] #[⟨25, 507, 526, #[]⟩, ⟨25, 399, 155, #[]⟩, ⟨25, 396, 155, #[]⟩, ⟨10, 525, 526, #[]⟩, ⟨26, 674, 12, #[]⟩, ⟨26, 677, 12, #[]⟩, ⟨10, 11, 12, #[]⟩, ⟨74, 175, 176, #[]⟩, ⟨10, 491, 222, #[]⟩, ⟨74, 29, 30, #[]⟩, ⟨74, 154, 155, #[]⟩, ⟨10, 217, 218, #[]⟩, ⟨10, 221, 222, #[]⟩, ⟨8, 562, 563, #[]⟩])
  fields := #[⟨"in", (.object "java/io/InputStream"), 25, 0, 0⟩, ⟨"out", (.object "java/io/PrintStream"), 25, 1, 0⟩, ⟨"err", (.object "java/io/PrintStream"), 25, 2, 0⟩, ⟨"initialIn", (.object "java/io/InputStream"), 10, 3, 0⟩, ⟨"NEVER", .int, 26, 4, 0⟩, ⟨"MAYBE", .int, 26, 5, 0⟩, ⟨"allowSecurityManager", .int, 10, 6, 0⟩, ⟨"security", (.object "java/lang/SecurityManager"), 74, 7, 0⟩, ⟨"notSupportedJnuEncoding", (.object "java/lang/String"), 10, 8, 0⟩, ⟨"cons", (.object "java/io/Console"), 74, 9, 0⟩, ⟨"initialErrStream", (.object "java/io/PrintStream"), 74, 10, 0⟩, ⟨"props", (.object "java/util/Properties"), 10, 11, 0⟩, ⟨"lineSeparator", (.object "java/lang/String"), 10, 12, 0⟩, ⟨"bootLayer", (.object "java/lang/ModuleLayer"), 8, 13, 0⟩]
  methods := #[k33m0, k33m1]
  instanceTypes := #[]
  staticTypes := #[(.object "java/io/InputStream"), (.object "java/io/PrintStream"), (.object "java/io/PrintStream"), (.object "java/io/InputStream"), .int, .int, .int, (.object "java/lang/SecurityManager"), (.object "java/lang/String"), (.object "java/io/Console"), (.object "java/io/PrintStream"), (.object "java/util/Properties"), (.object "java/lang/String"), (.object "java/lang/ModuleLayer")]
  resolved := Array.replicate 834 none
  statics := none }

def pool34 : Array CpInfo := pool [(2, .class_ 4), (0, .nameAndType 5 6), (0, u "java/lang/Object"), (0, u "<init>"), (0, u "()V"), (7, .class_ 16), (1, u "java/util/Arrays"), (28, .class_ 46), (0, u "java/lang/StringBuilder"), (0, .methodref 45 3), (4, u "append"), (1, .methodref 45 55), (0, .nameAndType 52 56), (0, u "(I)Ljava/lang/StringBuilder;"), (4, .methodref 45 62), (0, .nameAndType 63 64), (0, u "toString"), (0, u "()Ljava/lang/String;"), (9, .class_ 76), (1, u "java/util/Arrays$NaturalOrder"), (36, .class_ 115), (1, u "java/util/Arrays$LegacyMergeSort"), (1, u "Z"), (21, u "copyOfRange"), (10, .methodref 151 152), (0, .class_ 153), (0, .nameAndType 154 155), (0, u "java/lang/System"), (0, u "arraycopy"), (0, u "(Ljava/lang/Object;ILjava/lang/Object;II)V"), (146, u "copyOf"), (1, .methodref 305 306), (0, .class_ 307), (0, .nameAndType 308 309), (0, u "java/lang/Math"), (0, u "min"), (0, u "(II)I"), (29, .methodref 14 340), (0, .nameAndType 341 342), (0, u "copyOfRangeByte"), (0, u "([BII)[B"), (0, .methodref 14 344), (0, .nameAndType 345 346), (0, u "checkLength"), (0, u "(II)V"), (28, .class_ 376), (0, u "java/util/Arrays$ArrayList"), (68, u "$assertionsDisabled"), (38, .methodref 45 485), (0, .nameAndType 52 486), (0, u "(C)Ljava/lang/StringBuilder;"), (46, u "([I)Ljava/lang/String;"), (181, u "MIN_ARRAY_SORT_GRAN"), (0, u "I"), (2, u "INSERTIONSORT_THRESHOLD"), (149, u "([BI)[B"), (105, .class_ 976), (0, u "java/util/Arrays$ArrayItr")] 52

def k34m0 : Method := ⟨"<init>", "()V", ⟨[], none⟩, 2, none⟩
def k34c1 : Code := ⟨6, 3, jdk_65_method_121_code, #[], #[]⟩
def k34m1 : Method := ⟨"copyOf", "([BI)[B", ⟨[(.array .byte), .int], some (.array .byte)⟩, 9, some k34c1⟩
def k34c2 : Code := ⟨4, 2, jdk_65_method_131_code, #[], #[]⟩
def k34m2 : Method := ⟨"checkLength", "(II)V", ⟨[.int, .int], none⟩, 10, some k34c2⟩
def k34c3 : Code := ⟨3, 3, jdk_65_method_132_code, #[], #[]⟩
def k34m3 : Method := ⟨"copyOfRange", "([BII)[B", ⟨[(.array .byte), .int, .int], some (.array .byte)⟩, 9, some k34c3⟩
def k34c4 : Code := ⟨6, 5, jdk_65_method_133_code, #[], #[]⟩
def k34m4 : Method := ⟨"copyOfRangeByte", "([BII)[B", ⟨[(.array .byte), .int, .int], some (.array .byte)⟩, 10, some k34c4⟩
def k34c5 : Code := ⟨3, 4, jdk_65_method_163_code, #[], #[]⟩
def k34m5 : Method := ⟨"toString", "([I)Ljava/lang/String;", ⟨[(.array .int)], some (.object "java/lang/String")⟩, 9, some k34c5⟩
/-- java/util/Arrays -/
def k34 : Class := { plain "java/util/Arrays" (some 0) with
  accessFlags := 49
  interfaces := #[]
  cf := some (fileOf pool34 14 #[.nestMembers #[975, 375, 113, 74]] #[⟨2, 5, 6, #[]⟩, ⟨9, 302, 869, #[]⟩, ⟨10, 345, 346, #[]⟩, ⟨9, 139, 342, #[]⟩, ⟨10, 341, 342, #[]⟩, ⟨9, 63, 533, #[]⟩] 49 2 #[] #[⟨26, 715, 716, #[]⟩, ⟨26, 719, 716, #[]⟩, ⟨4120, 445, 117, #[]⟩])
  fields := #[⟨"MIN_ARRAY_SORT_GRAN", .int, 26, 0, 0⟩, ⟨"INSERTIONSORT_THRESHOLD", .int, 26, 1, 0⟩, ⟨"$assertionsDisabled", .boolean, 4120, 2, 0⟩]
  methods := #[k34m0, k34m1, k34m2, k34m3, k34m4, k34m5]
  instanceTypes := #[]
  staticTypes := #[.int, .int, .boolean]
  resolved := Array.replicate 1029 none
  statics := none }

def pool35 : Array CpInfo := pool [(1, .class_ 2), (0, u "java/lang/Math"), (1, .class_ 6), (1, u "java/lang/Object"), (0, u "<init>"), (0, u "()V"), (89, .class_ 100), (1, u "java/lang/Math$RandomNumberGeneratorHolder"), (71, u "negativeZeroFloatBits"), (0, u "J"), (2, u "negativeZeroDoubleBits"), (21, u "max"), (2, u "min"), (43, u "$assertionsDisabled"), (0, u "Z"), (88, u "(II)I"), (2, u "twoToTheDoubleScaleDown"), (0, u "D"), (4, u "twoToTheDoubleScaleUp"), (9, u "E"), (3, u "PI"), (2, u "TAU"), (2, u "DEGREES_TO_RADIANS"), (0, u "RADIANS_TO_DEGREES")] 94

def k35m0 : Method := ⟨"<init>", "()V", ⟨[], none⟩, 2, none⟩
def k35c1 : Code := ⟨2, 2, jdk_29_method_65_code, #[], #[]⟩
def k35m1 : Method := ⟨"max", "(II)I", ⟨[.int, .int], some .int⟩, 9, some k35c1⟩
def k35c2 : Code := ⟨2, 2, jdk_29_method_69_code, #[], #[]⟩
def k35m2 : Method := ⟨"min", "(II)I", ⟨[.int, .int], some .int⟩, 9, some k35c2⟩
/-- java/lang/Math -/
def k35 : Class := { plain "java/lang/Math" (some 0) with
  accessFlags := 49
  interfaces := #[]
  cf := some (fileOf pool35 1 #[.nestMembers #[98]] #[⟨2, 7, 8, #[]⟩, ⟨9, 198, 335, #[]⟩, ⟨9, 201, 335, #[]⟩] 49 4 #[] #[⟨25, 354, 339, #[]⟩, ⟨25, 358, 339, #[]⟩, ⟨25, 361, 339, #[]⟩, ⟨26, 364, 339, #[]⟩, ⟨26, 365, 339, #[]⟩, ⟨26, 172, 173, #[]⟩, ⟨26, 176, 173, #[]⟩, ⟨8, 344, 339, #[]⟩, ⟨8, 338, 339, #[]⟩, ⟨4120, 245, 246, #[]⟩])
  fields := #[⟨"E", .double, 25, 0, 0⟩, ⟨"PI", .double, 25, 1, 0⟩, ⟨"TAU", .double, 25, 2, 0⟩, ⟨"DEGREES_TO_RADIANS", .double, 26, 3, 0⟩, ⟨"RADIANS_TO_DEGREES", .double, 26, 4, 0⟩, ⟨"negativeZeroFloatBits", .long, 26, 5, 0⟩, ⟨"negativeZeroDoubleBits", .long, 26, 6, 0⟩, ⟨"twoToTheDoubleScaleUp", .double, 8, 7, 0⟩, ⟨"twoToTheDoubleScaleDown", .double, 8, 8, 0⟩, ⟨"$assertionsDisabled", .boolean, 4120, 9, 0⟩]
  methods := #[k35m0, k35m1, k35m2]
  instanceTypes := #[]
  staticTypes := #[.double, .double, .double, .double, .double, .long, .long, .double, .double, .boolean]
  resolved := Array.replicate 460 none
  statics := none }

def pool36 : Array CpInfo := pool [(1, .class_ 2), (0, u "java/lang/String"), (1, .class_ 6), (1, u "java/lang/Object"), (0, u "<init>"), (0, u "()V"), (0, .methodref 1 10), (0, .nameAndType 11 12), (0, u "checkIndex"), (0, u "(II)V"), (1, .class_ 16), (1, u "java/lang/StringLatin1"), (28, .class_ 47), (1, u "jdk/internal/util/ArraysSupport"), (5, u "([BI)C"), (3, u "([B)I"), (26, .methodref 45 85), (0, .nameAndType 86 87), (0, u "vectorizedHashCode"), (0, u "(Ljava/lang/Object;IIII)I"), (2, u "canEncode"), (14, u "(C)Z"), (15, u "$assertionsDisabled"), (0, u "Z"), (98, .class_ 223), (1, u "java/lang/StringLatin1$LinesSpliterator"), (28, u "charAt"), (45, u "hashCode"), (91, .class_ 391), (0, u "java/lang/StringLatin1$CharsSpliterator")] 3

def k36m0 : Method := ⟨"<init>", "()V", ⟨[], none⟩, 0, none⟩
def k36c1 : Code := ⟨2, 2, jdk_43_method_2_code, #[], #[]⟩
def k36m1 : Method := ⟨"charAt", "([BI)C", ⟨[(.array .byte), .int], some .char⟩, 9, some k36c1⟩
def k36c2 : Code := ⟨2, 1, jdk_43_method_3_code, #[], #[]⟩
def k36m2 : Method := ⟨"canEncode", "(C)Z", ⟨[.char], some .boolean⟩, 9, some k36c2⟩
def k36c3 : Code := ⟨5, 1, jdk_43_method_21_code, #[], #[]⟩
def k36m3 : Method := ⟨"hashCode", "([B)I", ⟨[(.array .byte)], some .int⟩, 9, some k36c3⟩
/-- java/lang/StringLatin1 -/
def k36 : Class := { plain "java/lang/StringLatin1" (some 0) with
  accessFlags := 48
  interfaces := #[]
  cf := some (fileOf pool36 14 #[.nestMembers #[390, 221]] #[⟨0, 7, 8, #[]⟩, ⟨9, 252, 53, #[]⟩, ⟨9, 90, 105, #[]⟩, ⟨9, 298, 57, #[]⟩] 48 4 #[] #[⟨4120, 121, 122, #[]⟩])
  fields := #[⟨"$assertionsDisabled", .boolean, 4120, 0, 0⟩]
  methods := #[k36m0, k36m1, k36m2, k36m3]
  instanceTypes := #[]
  staticTypes := #[.boolean]
  resolved := Array.replicate 395 none
  statics := none }

def pool37 : Array CpInfo := pool [(2, .class_ 4), (1, u "java/lang/Object"), (0, u "<init>"), (0, u "()V"), (17, .class_ 26), (1, u "jdk/internal/util/Preconditions"), (6, u "checkIndex"), (21, .class_ 56), (0, u "jdk/internal/util/Preconditions$4"), (57, .class_ 115), (0, u "jdk/internal/util/Preconditions$1"), (7, u "SIOOBE_FORMATTER"), (0, u "Ljava/util/function/BiFunction;"), (0, .class_ 126), (0, u "jdk/internal/util/Preconditions$2"), (3, u "AIOOBE_FORMATTER"), (0, .class_ 132), (0, u "jdk/internal/util/Preconditions$3"), (3, u "IOOBE_FORMATTER"), (41, u "(IILjava/util/function/BiFunction;)I")] 15

def k37m0 : Method := ⟨"<init>", "()V", ⟨[], none⟩, 1, none⟩
def k37c1 : Code := ⟨3, 3, jdk_41_method_11_code, #[], #[]⟩
def k37m1 : Method := ⟨"checkIndex", "(IILjava/util/function/BiFunction;)I", ⟨[.int, .int, (.object "java/util/function/BiFunction")], some .int⟩, 9, some k37c1⟩
/-- jdk/internal/util/Preconditions -/
def k37 : Class := { plain "jdk/internal/util/Preconditions" (some 0) with
  accessFlags := 33
  interfaces := #[]
  cf := some (fileOf pool37 24 #[.nestMembers #[55, 131, 125, 114]] #[⟨1, 5, 6, #[]⟩, ⟨9, 33, 178, #[]⟩] 33 2 #[] #[⟨25, 123, 124, #[]⟩, ⟨25, 130, 124, #[]⟩, ⟨25, 136, 124, #[]⟩])
  fields := #[⟨"SIOOBE_FORMATTER", (.object "java/util/function/BiFunction"), 25, 0, 0⟩, ⟨"AIOOBE_FORMATTER", (.object "java/util/function/BiFunction"), 25, 1, 0⟩, ⟨"IOOBE_FORMATTER", (.object "java/util/function/BiFunction"), 25, 2, 0⟩]
  methods := #[k37m0, k37m1]
  instanceTypes := #[]
  staticTypes := #[(.object "java/util/function/BiFunction"), (.object "java/util/function/BiFunction"), (.object "java/util/function/BiFunction")]
  resolved := Array.replicate 194 none
  statics := some 3 }

def pool38 : Array CpInfo := pool [(2, .class_ 4), (1, u "java/lang/Object"), (0, u "<init>"), (0, u "()V"), (0, .class_ 8), (0, u "java/lang/Integer"), (7, .class_ 18), (1, u "java/lang/Integer$IntegerCache"), (0, u "$assertionsDisabled"), (0, u "Z"), (26, u "high"), (0, u "I"), (8, u "archivedCache"), (0, u "[Ljava/lang/Integer;"), (12, u "cache"), (0, u "low")] 27

def k38m0 : Method := ⟨"<init>", "()V", ⟨[], none⟩, 2, none⟩
/-- java/lang/Integer$IntegerCache -/
def k38 : Class := { plain "java/lang/Integer$IntegerCache" (some 0) with
  accessFlags := 48
  interfaces := #[]
  cf := some (fileOf pool38 16 #[.nestHost 7] #[⟨2, 5, 6, #[]⟩] 48 2 #[] #[⟨24, 72, 48, #[]⟩, ⟨24, 47, 48, #[]⟩, ⟨24, 71, 58, #[]⟩, ⟨8, 57, 58, #[]⟩, ⟨4120, 19, 20, #[]⟩])
  fields := #[⟨"low", .int, 24, 0, 0⟩, ⟨"high", .int, 24, 1, 0⟩, ⟨"cache", (.array (.object "java/lang/Integer")), 24, 2, 0⟩, ⟨"archivedCache", (.array (.object "java/lang/Integer")), 8, 3, 0⟩, ⟨"$assertionsDisabled", .boolean, 4120, 4, 0⟩]
  methods := #[k38m0]
  instanceTypes := #[]
  staticTypes := #[.int, .int, (.array (.object "java/lang/Integer")), (.array (.object "java/lang/Integer")), .boolean]
  resolved := Array.replicate 100 none
  statics := some 4 }

def pool39 : Array CpInfo := pool [(9, u "<init>"), (6, .class_ 18), (1, u "java/lang/Object"), (0, u "()V"), (1, .class_ 23), (1, u "jdk/internal/util/ArraysSupport"), (0, u "LOG2_ARRAY_LONG_INDEX_SCALE"), (0, u "I"), (2, u "U"), (0, u "Ljdk/internal/misc/Unsafe;"), (8, u "BIG_ENDIAN"), (0, u "Z"), (8, u "LOG2_BYTE_BIT_SIZE"), (4, u "LOG2_ARRAY_INT_INDEX_SCALE"), (6, .class_ 61), (0, u "[B"), (0, .methodref 21 63), (0, .nameAndType 64 65), (0, u "signedHashCode"), (0, u "(I[BII)I"), (42, u "JLA"), (0, u "Ljdk/internal/access/JavaLangAccess;"), (11, u "LOG2_ARRAY_BOOLEAN_INDEX_SCALE"), (9, u "LOG2_ARRAY_BYTE_INDEX_SCALE"), (5, u "LOG2_ARRAY_CHAR_INDEX_SCALE"), (5, u "LOG2_ARRAY_SHORT_INDEX_SCALE"), (18, u "LOG2_ARRAY_FLOAT_INDEX_SCALE"), (24, u "LOG2_ARRAY_DOUBLE_INDEX_SCALE"), (6, .methodref 195 196), (0, .class_ 197), (0, .nameAndType 198 199), (0, u "java/lang/Math"), (0, u "max"), (0, u "(II)I"), (0, .integer 2147483639), (76, u "T_BOOLEAN"), (2, u "T_CHAR"), (1, u "T_FLOAT"), (1, u "T_DOUBLE"), (1, u "T_BYTE"), (1, u "T_SHORT"), (1, u "T_INT"), (1, u "T_LONG"), (1, u "SOFT_MAX_ARRAY_LENGTH"), (26, u "vectorizedHashCode"), (0, u "(Ljava/lang/Object;IIII)I"), (28, u "newLength"), (0, u "(III)I")] 25

def k39m0 : Method := ⟨"<init>", "()V", ⟨[], none⟩, 2, none⟩
def k39c1 : Code := ⟨4, 5, jdk_48_method_4_code, #[], #[]⟩
def k39m1 : Method := ⟨"vectorizedHashCode", "(Ljava/lang/Object;IIII)I", ⟨[(.object "java/lang/Object"), .int, .int, .int, .int], some .int⟩, 9, some k39c1⟩
def k39c2 : Code := ⟨3, 6, jdk_48_method_5_code, #[], #[]⟩
def k39m2 : Method := ⟨"signedHashCode", "(I[BII)I", ⟨[.int, (.array .byte), .int, .int], some .int⟩, 10, some k39c2⟩
def k39c3 : Code := ⟨3, 4, jdk_48_method_27_code, #[], #[]⟩
def k39m3 : Method := ⟨"newLength", "(III)I", ⟨[.int, .int, .int], some .int⟩, 9, some k39c3⟩
/-- jdk/internal/util/ArraysSupport -/
def k39 : Class := { plain "jdk/internal/util/ArraysSupport" (some 0) with
  accessFlags := 33
  interfaces := #[]
  cf := some (fileOf pool39 21 #[] #[⟨2, 9, 19, #[]⟩, ⟨9, 321, 322, #[]⟩, ⟨10, 64, 65, #[]⟩, ⟨9, 351, 352, #[]⟩] 33 16 #[] #[⟨24, 28, 29, #[]⟩, ⟨26, 38, 39, #[]⟩, ⟨25, 121, 25, #[]⟩, ⟨25, 131, 25, #[]⟩, ⟨25, 137, 25, #[]⟩, ⟨25, 143, 25, #[]⟩, ⟨25, 53, 25, #[]⟩, ⟨25, 24, 25, #[]⟩, ⟨25, 162, 25, #[]⟩, ⟨25, 187, 25, #[]⟩, ⟨26, 48, 25, #[]⟩, ⟨25, 277, 25, #[]⟩, ⟨25, 280, 25, #[]⟩, ⟨25, 282, 25, #[]⟩, ⟨25, 284, 25, #[]⟩, ⟨25, 286, 25, #[]⟩, ⟨25, 288, 25, #[]⟩, ⟨25, 290, 25, #[]⟩, ⟨25, 292, 25, #[]⟩, ⟨26, 108, 109, #[]⟩, ⟨25, 294, 25, #[]⟩])
  fields := #[⟨"U", (.object "jdk/internal/misc/Unsafe"), 24, 0, 0⟩, ⟨"BIG_ENDIAN", .boolean, 26, 1, 0⟩, ⟨"LOG2_ARRAY_BOOLEAN_INDEX_SCALE", .int, 25, 2, 0⟩, ⟨"LOG2_ARRAY_BYTE_INDEX_SCALE", .int, 25, 3, 0⟩, ⟨"LOG2_ARRAY_CHAR_INDEX_SCALE", .int, 25, 4, 0⟩, ⟨"LOG2_ARRAY_SHORT_INDEX_SCALE", .int, 25, 5, 0⟩, ⟨"LOG2_ARRAY_INT_INDEX_SCALE", .int, 25, 6, 0⟩, ⟨"LOG2_ARRAY_LONG_INDEX_SCALE", .int, 25, 7, 0⟩, ⟨"LOG2_ARRAY_FLOAT_INDEX_SCALE", .int, 25, 8, 0⟩, ⟨"LOG2_ARRAY_DOUBLE_INDEX_SCALE", .int, 25, 9, 0⟩, ⟨"LOG2_BYTE_BIT_SIZE", .int, 26, 10, 0⟩, ⟨"T_BOOLEAN", .int, 25, 11, 0⟩, ⟨"T_CHAR", .int, 25, 12, 0⟩, ⟨"T_FLOAT", .int, 25, 13, 0⟩, ⟨"T_DOUBLE", .int, 25, 14, 0⟩, ⟨"T_BYTE", .int, 25, 15, 0⟩, ⟨"T_SHORT", .int, 25, 16, 0⟩, ⟨"T_INT", .int, 25, 17, 0⟩, ⟨"T_LONG", .int, 25, 18, 0⟩, ⟨"JLA", (.object "jdk/internal/access/JavaLangAccess"), 26, 19, 0⟩, ⟨"SOFT_MAX_ARRAY_LENGTH", .int, 25, 20, 0⟩]
  methods := #[k39m0, k39m1, k39m2, k39m3]
  instanceTypes := #[]
  staticTypes := #[(.object "jdk/internal/misc/Unsafe"), .boolean, .int, .int, .int, .int, .int, .int, .int, .int, .int, .int, .int, .int, .int, .int, .int, .int, .int, (.object "jdk/internal/access/JavaLangAccess"), .int]
  resolved := Array.replicate 378 none
  statics := none }

def pool40 : Array CpInfo := pool [(23, .class_ 25), (1, u "java/util/Map$Entry"), (6, .class_ 34), (1, u "java/util/Map"), (34, .class_ 70), (0, u "java/lang/Object")] 107

/-- java/util/Map$Entry -/
def k40 : Class := { plain "java/util/Map$Entry" (some 0) with
  accessFlags := 1537
  interfaces := #[]
  cf := some (fileOf pool40 23 #[.nestHost 32] #[] 1537 69 #[] #[])
  fields := #[]
  methods := #[]
  instanceTypes := #[]
  staticTypes := #[]
  resolved := Array.replicate 178 none
  statics := none }

def pool41 : Array CpInfo := pool [(1, .methodref 2 3), (0, .class_ 4), (0, .nameAndType 5 6), (0, u "java/lang/Object"), (0, u "<init>"), (0, u "()V"), (0, .fieldref 8 9), (0, .class_ 10), (0, .nameAndType 11 12), (0, u "java/util/HashMap$Node"), (0, u "hash"), (0, u "I"), (0, .fieldref 8 14), (0, .nameAndType 15 16), (0, u "key"), (0, u "Ljava/lang/Object;"), (0, .fieldref 8 18), (0, .nameAndType 19 16), (0, u "value"), (0, .fieldref 8 21), (0, .nameAndType 22 23), (0, u "next"), (0, u "Ljava/util/HashMap$Node;"), (22, .class_ 47), (0, u "java/util/Map$Entry"), (15, u "(ILjava/lang/Object;Ljava/lang/Object;Ljava/util/HashMap$Node;)V"), (24, .class_ 89), (0, u "java/util/HashMap")] 5

def k41c0 : Code := ⟨2, 5, jdk_70_method_1_code, #[], #[]⟩
def k41m0 : Method := ⟨"<init>", "(ILjava/lang/Object;Ljava/lang/Object;Ljava/util/HashMap$Node;)V", ⟨[.int, (.object "java/lang/Object"), (.object "java/lang/Object"), (.object "java/util/HashMap$Node")], none⟩, 0, some k41c0⟩
/-- java/util/HashMap$Node -/
def k41 : Class := { plain "java/util/HashMap$Node" (some 0) with
  accessFlags := 32
  interfaces := #[40]
  cf := some (fileOf pool41 8 #[.nestHost 88] #[⟨0, 5, 63, #[]⟩] 32 2 #[46] #[⟨16, 11, 12, #[]⟩, ⟨16, 15, 16, #[]⟩, ⟨0, 19, 16, #[]⟩, ⟨0, 22, 23, #[]⟩])
  fields := #[⟨"hash", .int, 16, 0, 0⟩, ⟨"key", (.object "java/lang/Object"), 16, 1, 0⟩, ⟨"value", (.object "java/lang/Object"), 0, 2, 0⟩, ⟨"next", (.object "java/util/HashMap$Node"), 0, 3, 0⟩]
  methods := #[k41m0]
  instanceTypes := #[.int, (.object "java/lang/Object"), (.object "java/lang/Object"), (.object "java/util/HashMap$Node")]
  staticTypes := #[]
  resolved := Array.replicate 95 none
  statics := none }

/-- the primitive byte -/
def k42 : Class := { plain "byte" none with kind := .primitive 'B', accessFlags := 0x411 }
/-- [B -/
def k43 : Class := { plain "[B" (some 0) with kind := .array 42 .byte, interfaces := #[13, 3], accessFlags := 1041 }

/-- the primitive int -/
def k44 : Class := { plain "int" none with kind := .primitive 'I', accessFlags := 0x411 }
/-- [I -/
def k45 : Class := { plain "[I" (some 0) with kind := .array 44 .int, interfaces := #[13, 3], accessFlags := 1041 }

/-- [Ljava/lang/Integer; -/
def k46 : Class := { plain "[Ljava/lang/Integer;" (some 0) with kind := .array 32 (.object "java/lang/Integer"), interfaces := #[13, 3], accessFlags := 1041 }

/-- [Ljava/lang/Object; -/
def k47 : Class := { plain "[Ljava/lang/Object;" (some 0) with kind := .array 0 (.object "java/lang/Object"), interfaces := #[13, 3], accessFlags := 1041 }

/-- [Ljava/util/HashMap$Node; -/
def k48 : Class := { plain "[Ljava/util/HashMap$Node;" (some 0) with kind := .array 41 (.object "java/util/HashMap$Node"), interfaces := #[13, 3], accessFlags := 1041 }

def classes0 : Array Class := #[k0, k1, k2, k3, k4, k5, k6, k7, k8, k9, k10, k11, k12, k13, k14, k15, k16, k17, k18, k19, k20, k21, k22, k23, k24, k25, k26, k27, k28, k29, k30, k31, k32, k33, k34, k35, k36, k37, k38, k39, k40, k41, k42, k43, k44, k45, k46, k47, k48]
/-- the class that the rule has made for the site at 4 of com/example/eurydice/eurydice/model/ClassFileWriter$Pool.utf8 -/
def k49 : Class := Jvm.LamKit.madeRec { classes := classes0 } "com/example/eurydice/eurydice/model/ClassFileWriter$Pool" (Jvm.Lambda.Shape.mk "java/util/function/Consumer" "accept" (Jvm.ClassFile.MethodDescriptor.mk ([(.object "java/lang/Object")] : List Jvm.ClassFile.FieldType) (Option.none : Option Jvm.ClassFile.FieldType)) ([(.object "java/lang/String")] : List Jvm.ClassFile.FieldType) (6 : Nat) "com/example/eurydice/eurydice/model/ClassFileWriter$Pool" "lambda$utf8$0" (Jvm.ClassFile.MethodDescriptor.mk ([(.object "java/lang/String"), (.object "com/example/eurydice/eurydice/model/ClassFileWriter$Bytes")] : List Jvm.ClassFile.FieldType) (Option.none : Option Jvm.ClassFile.FieldType)) false (Jvm.ClassFile.MethodDescriptor.mk ([(.object "com/example/eurydice/eurydice/model/ClassFileWriter$Bytes")] : List Jvm.ClassFile.FieldType) (Option.none : Option Jvm.ClassFile.FieldType))) 49

/-- the class that the rule has made for the site at 7 of com/example/eurydice/eurydice/model/ClassFileWriter$Pool.entry -/
def k50 : Class := Jvm.LamKit.madeRec { classes := classes0 } "com/example/eurydice/eurydice/model/ClassFileWriter$Pool" (Jvm.Lambda.Shape.mk "java/util/function/Consumer" "accept" (Jvm.ClassFile.MethodDescriptor.mk ([(.object "java/lang/Object")] : List Jvm.ClassFile.FieldType) (Option.none : Option Jvm.ClassFile.FieldType)) ([(.array .int)] : List Jvm.ClassFile.FieldType) (6 : Nat) "com/example/eurydice/eurydice/model/ClassFileWriter$Pool" "lambda$entry$2" (Jvm.ClassFile.MethodDescriptor.mk ([(.array .int), (.object "com/example/eurydice/eurydice/model/ClassFileWriter$Bytes")] : List Jvm.ClassFile.FieldType) (Option.none : Option Jvm.ClassFile.FieldType)) false (Jvm.ClassFile.MethodDescriptor.mk ([(.object "com/example/eurydice/eurydice/model/ClassFileWriter$Bytes")] : List Jvm.ClassFile.FieldType) (Option.none : Option Jvm.ClassFile.FieldType))) 50

def heap : Heap := #[{ cls := 8, slots := #[.long 0, .int 1, .null, .int 0, .null, .int 0, .int 0], vm := .statics 8 },
  { cls := 24, slots := #[.long 0, .int 0, .ref 264, .ref 265], vm := .statics 24 },
  { cls := 32, slots := #[.int 0, .int 0, .null, .null, .ref 263, .ref 262, .int 0, .int 0, .long 0], vm := .statics 32 },
  { cls := 37, slots := #[.null, .null, .null], vm := .statics 37 },
  { cls := 38, slots := #[.int 0, .int 127, .ref 5, .null, .int 0], vm := .statics 38 },
  { cls := 46, slots := #[.ref 6, .ref 7, .ref 8, .ref 9, .ref 10, .ref 11, .ref 12, .ref 13, .ref 14, .ref 15, .ref 16, .ref 17, .ref 18, .ref 19, .ref 20, .ref 21, .ref 22, .ref 23, .ref 24, .ref 25, .ref 26, .ref 27, .ref 28, .ref 29, .ref 30, .ref 31, .ref 32, .ref 33, .ref 34, .ref 35, .ref 36, .ref 37, .ref 38, .ref 39, .ref 40, .ref 41, .ref 42, .ref 43, .ref 44, .ref 45, .ref 46, .ref 47, .ref 48, .ref 49, .ref 50, .ref 51, .ref 52, .ref 53, .ref 54, .ref 55, .ref 56, .ref 57, .ref 58, .ref 59, .ref 60, .ref 61, .ref 62, .ref 63, .ref 64, .ref 65, .ref 66, .ref 67, .ref 68, .ref 69, .ref 70, .ref 71, .ref 72, .ref 73, .ref 74, .ref 75, .ref 76, .ref 77, .ref 78, .ref 79, .ref 80, .ref 81, .ref 82, .ref 83, .ref 84, .ref 85, .ref 86, .ref 87, .ref 88, .ref 89, .ref 90, .ref 91, .ref 92, .ref 93, .ref 94, .ref 95, .ref 96, .ref 97, .ref 98, .ref 99, .ref 100, .ref 101, .ref 102, .ref 103, .ref 104, .ref 105, .ref 106, .ref 107, .ref 108, .ref 109, .ref 110, .ref 111, .ref 112, .ref 113, .ref 114, .ref 115, .ref 116, .ref 117, .ref 118, .ref 119, .ref 120, .ref 121, .ref 122, .ref 123, .ref 124, .ref 125, .ref 126, .ref 127, .ref 128, .ref 129, .ref 130, .ref 131, .ref 132, .ref 133, .ref 134, .ref 135, .ref 136, .ref 137, .ref 138, .ref 139, .ref 140, .ref 141, .ref 142, .ref 143, .ref 144, .ref 145, .ref 146, .ref 147, .ref 148, .ref 149, .ref 150, .ref 151, .ref 152, .ref 153, .ref 154, .ref 155, .ref 156, .ref 157, .ref 158, .ref 159, .ref 160, .ref 161, .ref 162, .ref 163, .ref 164, .ref 165, .ref 166, .ref 167, .ref 168, .ref 169, .ref 170, .ref 171, .ref 172, .ref 173, .ref 174, .ref 175, .ref 176, .ref 177, .ref 178, .ref 179, .ref 180, .ref 181, .ref 182, .ref 183, .ref 184, .ref 185, .ref 186, .ref 187, .ref 188, .ref 189, .ref 190, .ref 191, .ref 192, .ref 193, .ref 194, .ref 195, .ref 196, .ref 197, .ref 198, .ref 199, .ref 200, .ref 201, .ref 202, .ref 203, .ref 204, .ref 205, .ref 206, .ref 207, .ref 208, .ref 209, .ref 210, .ref 211, .ref 212, .ref 213, .ref 214, .ref 215, .ref 216, .ref 217, .ref 218, .ref 219, .ref 220, .ref 221, .ref 222, .ref 223, .ref 224, .ref 225, .ref 226, .ref 227, .ref 228, .ref 229, .ref 230, .ref 231, .ref 232, .ref 233, .ref 234, .ref 235, .ref 236, .ref 237, .ref 238, .ref 239, .ref 240, .ref 241, .ref 242, .ref 243, .ref 244, .ref 245, .ref 246, .ref 247, .ref 248, .ref 249, .ref 250, .ref 251, .ref 252, .ref 253, .ref 254, .ref 255, .ref 256, .ref 257, .ref 258, .ref 259, .ref 260, .ref 261], vm := .none },
  { cls := 32, slots := #[.int (-128)], vm := .none },
  { cls := 32, slots := #[.int (-127)], vm := .none },
  { cls := 32, slots := #[.int (-126)], vm := .none },
  { cls := 32, slots := #[.int (-125)], vm := .none },
  { cls := 32, slots := #[.int (-124)], vm := .none },
  { cls := 32, slots := #[.int (-123)], vm := .none },
  { cls := 32, slots := #[.int (-122)], vm := .none },
  { cls := 32, slots := #[.int (-121)], vm := .none },
  { cls := 32, slots := #[.int (-120)], vm := .none },
  { cls := 32, slots := #[.int (-119)], vm := .none },
  { cls := 32, slots := #[.int (-118)], vm := .none },
  { cls := 32, slots := #[.int (-117)], vm := .none },
  { cls := 32, slots := #[.int (-116)], vm := .none },
  { cls := 32, slots := #[.int (-115)], vm := .none },
  { cls := 32, slots := #[.int (-114)], vm := .none },
  { cls := 32, slots := #[.int (-113)], vm := .none },
  { cls := 32, slots := #[.int (-112)], vm := .none },
  { cls := 32, slots := #[.int (-111)], vm := .none },
  { cls := 32, slots := #[.int (-110)], vm := .none },
  { cls := 32, slots := #[.int (-109)], vm := .none },
  { cls := 32, slots := #[.int (-108)], vm := .none },
  { cls := 32, slots := #[.int (-107)], vm := .none },
  { cls := 32, slots := #[.int (-106)], vm := .none },
  { cls := 32, slots := #[.int (-105)], vm := .none },
  { cls := 32, slots := #[.int (-104)], vm := .none },
  { cls := 32, slots := #[.int (-103)], vm := .none },
  { cls := 32, slots := #[.int (-102)], vm := .none },
  { cls := 32, slots := #[.int (-101)], vm := .none },
  { cls := 32, slots := #[.int (-100)], vm := .none },
  { cls := 32, slots := #[.int (-99)], vm := .none },
  { cls := 32, slots := #[.int (-98)], vm := .none },
  { cls := 32, slots := #[.int (-97)], vm := .none },
  { cls := 32, slots := #[.int (-96)], vm := .none },
  { cls := 32, slots := #[.int (-95)], vm := .none },
  { cls := 32, slots := #[.int (-94)], vm := .none },
  { cls := 32, slots := #[.int (-93)], vm := .none },
  { cls := 32, slots := #[.int (-92)], vm := .none },
  { cls := 32, slots := #[.int (-91)], vm := .none },
  { cls := 32, slots := #[.int (-90)], vm := .none },
  { cls := 32, slots := #[.int (-89)], vm := .none },
  { cls := 32, slots := #[.int (-88)], vm := .none },
  { cls := 32, slots := #[.int (-87)], vm := .none },
  { cls := 32, slots := #[.int (-86)], vm := .none },
  { cls := 32, slots := #[.int (-85)], vm := .none },
  { cls := 32, slots := #[.int (-84)], vm := .none },
  { cls := 32, slots := #[.int (-83)], vm := .none },
  { cls := 32, slots := #[.int (-82)], vm := .none },
  { cls := 32, slots := #[.int (-81)], vm := .none },
  { cls := 32, slots := #[.int (-80)], vm := .none },
  { cls := 32, slots := #[.int (-79)], vm := .none },
  { cls := 32, slots := #[.int (-78)], vm := .none },
  { cls := 32, slots := #[.int (-77)], vm := .none },
  { cls := 32, slots := #[.int (-76)], vm := .none },
  { cls := 32, slots := #[.int (-75)], vm := .none },
  { cls := 32, slots := #[.int (-74)], vm := .none },
  { cls := 32, slots := #[.int (-73)], vm := .none },
  { cls := 32, slots := #[.int (-72)], vm := .none },
  { cls := 32, slots := #[.int (-71)], vm := .none },
  { cls := 32, slots := #[.int (-70)], vm := .none },
  { cls := 32, slots := #[.int (-69)], vm := .none },
  { cls := 32, slots := #[.int (-68)], vm := .none },
  { cls := 32, slots := #[.int (-67)], vm := .none },
  { cls := 32, slots := #[.int (-66)], vm := .none },
  { cls := 32, slots := #[.int (-65)], vm := .none },
  { cls := 32, slots := #[.int (-64)], vm := .none },
  { cls := 32, slots := #[.int (-63)], vm := .none },
  { cls := 32, slots := #[.int (-62)], vm := .none },
  { cls := 32, slots := #[.int (-61)], vm := .none },
  { cls := 32, slots := #[.int (-60)], vm := .none },
  { cls := 32, slots := #[.int (-59)], vm := .none },
  { cls := 32, slots := #[.int (-58)], vm := .none },
  { cls := 32, slots := #[.int (-57)], vm := .none },
  { cls := 32, slots := #[.int (-56)], vm := .none },
  { cls := 32, slots := #[.int (-55)], vm := .none },
  { cls := 32, slots := #[.int (-54)], vm := .none },
  { cls := 32, slots := #[.int (-53)], vm := .none },
  { cls := 32, slots := #[.int (-52)], vm := .none },
  { cls := 32, slots := #[.int (-51)], vm := .none },
  { cls := 32, slots := #[.int (-50)], vm := .none },
  { cls := 32, slots := #[.int (-49)], vm := .none },
  { cls := 32, slots := #[.int (-48)], vm := .none },
  { cls := 32, slots := #[.int (-47)], vm := .none },
  { cls := 32, slots := #[.int (-46)], vm := .none },
  { cls := 32, slots := #[.int (-45)], vm := .none },
  { cls := 32, slots := #[.int (-44)], vm := .none },
  { cls := 32, slots := #[.int (-43)], vm := .none },
  { cls := 32, slots := #[.int (-42)], vm := .none },
  { cls := 32, slots := #[.int (-41)], vm := .none },
  { cls := 32, slots := #[.int (-40)], vm := .none },
  { cls := 32, slots := #[.int (-39)], vm := .none },
  { cls := 32, slots := #[.int (-38)], vm := .none },
  { cls := 32, slots := #[.int (-37)], vm := .none },
  { cls := 32, slots := #[.int (-36)], vm := .none },
  { cls := 32, slots := #[.int (-35)], vm := .none },
  { cls := 32, slots := #[.int (-34)], vm := .none },
  { cls := 32, slots := #[.int (-33)], vm := .none },
  { cls := 32, slots := #[.int (-32)], vm := .none },
  { cls := 32, slots := #[.int (-31)], vm := .none },
  { cls := 32, slots := #[.int (-30)], vm := .none },
  { cls := 32, slots := #[.int (-29)], vm := .none },
  { cls := 32, slots := #[.int (-28)], vm := .none },
  { cls := 32, slots := #[.int (-27)], vm := .none },
  { cls := 32, slots := #[.int (-26)], vm := .none },
  { cls := 32, slots := #[.int (-25)], vm := .none },
  { cls := 32, slots := #[.int (-24)], vm := .none },
  { cls := 32, slots := #[.int (-23)], vm := .none },
  { cls := 32, slots := #[.int (-22)], vm := .none },
  { cls := 32, slots := #[.int (-21)], vm := .none },
  { cls := 32, slots := #[.int (-20)], vm := .none },
  { cls := 32, slots := #[.int (-19)], vm := .none },
  { cls := 32, slots := #[.int (-18)], vm := .none },
  { cls := 32, slots := #[.int (-17)], vm := .none },
  { cls := 32, slots := #[.int (-16)], vm := .none },
  { cls := 32, slots := #[.int (-15)], vm := .none },
  { cls := 32, slots := #[.int (-14)], vm := .none },
  { cls := 32, slots := #[.int (-13)], vm := .none },
  { cls := 32, slots := #[.int (-12)], vm := .none },
  { cls := 32, slots := #[.int (-11)], vm := .none },
  { cls := 32, slots := #[.int (-10)], vm := .none },
  { cls := 32, slots := #[.int (-9)], vm := .none },
  { cls := 32, slots := #[.int (-8)], vm := .none },
  { cls := 32, slots := #[.int (-7)], vm := .none },
  { cls := 32, slots := #[.int (-6)], vm := .none },
  { cls := 32, slots := #[.int (-5)], vm := .none },
  { cls := 32, slots := #[.int (-4)], vm := .none },
  { cls := 32, slots := #[.int (-3)], vm := .none },
  { cls := 32, slots := #[.int (-2)], vm := .none },
  { cls := 32, slots := #[.int (-1)], vm := .none },
  { cls := 32, slots := #[.int 0], vm := .none },
  { cls := 32, slots := #[.int 1], vm := .none },
  { cls := 32, slots := #[.int 2], vm := .none },
  { cls := 32, slots := #[.int 3], vm := .none },
  { cls := 32, slots := #[.int 4], vm := .none },
  { cls := 32, slots := #[.int 5], vm := .none },
  { cls := 32, slots := #[.int 6], vm := .none },
  { cls := 32, slots := #[.int 7], vm := .none },
  { cls := 32, slots := #[.int 8], vm := .none },
  { cls := 32, slots := #[.int 9], vm := .none },
  { cls := 32, slots := #[.int 10], vm := .none },
  { cls := 32, slots := #[.int 11], vm := .none },
  { cls := 32, slots := #[.int 12], vm := .none },
  { cls := 32, slots := #[.int 13], vm := .none },
  { cls := 32, slots := #[.int 14], vm := .none },
  { cls := 32, slots := #[.int 15], vm := .none },
  { cls := 32, slots := #[.int 16], vm := .none },
  { cls := 32, slots := #[.int 17], vm := .none },
  { cls := 32, slots := #[.int 18], vm := .none },
  { cls := 32, slots := #[.int 19], vm := .none },
  { cls := 32, slots := #[.int 20], vm := .none },
  { cls := 32, slots := #[.int 21], vm := .none },
  { cls := 32, slots := #[.int 22], vm := .none },
  { cls := 32, slots := #[.int 23], vm := .none },
  { cls := 32, slots := #[.int 24], vm := .none },
  { cls := 32, slots := #[.int 25], vm := .none },
  { cls := 32, slots := #[.int 26], vm := .none },
  { cls := 32, slots := #[.int 27], vm := .none },
  { cls := 32, slots := #[.int 28], vm := .none },
  { cls := 32, slots := #[.int 29], vm := .none },
  { cls := 32, slots := #[.int 30], vm := .none },
  { cls := 32, slots := #[.int 31], vm := .none },
  { cls := 32, slots := #[.int 32], vm := .none },
  { cls := 32, slots := #[.int 33], vm := .none },
  { cls := 32, slots := #[.int 34], vm := .none },
  { cls := 32, slots := #[.int 35], vm := .none },
  { cls := 32, slots := #[.int 36], vm := .none },
  { cls := 32, slots := #[.int 37], vm := .none },
  { cls := 32, slots := #[.int 38], vm := .none },
  { cls := 32, slots := #[.int 39], vm := .none },
  { cls := 32, slots := #[.int 40], vm := .none },
  { cls := 32, slots := #[.int 41], vm := .none },
  { cls := 32, slots := #[.int 42], vm := .none },
  { cls := 32, slots := #[.int 43], vm := .none },
  { cls := 32, slots := #[.int 44], vm := .none },
  { cls := 32, slots := #[.int 45], vm := .none },
  { cls := 32, slots := #[.int 46], vm := .none },
  { cls := 32, slots := #[.int 47], vm := .none },
  { cls := 32, slots := #[.int 48], vm := .none },
  { cls := 32, slots := #[.int 49], vm := .none },
  { cls := 32, slots := #[.int 50], vm := .none },
  { cls := 32, slots := #[.int 51], vm := .none },
  { cls := 32, slots := #[.int 52], vm := .none },
  { cls := 32, slots := #[.int 53], vm := .none },
  { cls := 32, slots := #[.int 54], vm := .none },
  { cls := 32, slots := #[.int 55], vm := .none },
  { cls := 32, slots := #[.int 56], vm := .none },
  { cls := 32, slots := #[.int 57], vm := .none },
  { cls := 32, slots := #[.int 58], vm := .none },
  { cls := 32, slots := #[.int 59], vm := .none },
  { cls := 32, slots := #[.int 60], vm := .none },
  { cls := 32, slots := #[.int 61], vm := .none },
  { cls := 32, slots := #[.int 62], vm := .none },
  { cls := 32, slots := #[.int 63], vm := .none },
  { cls := 32, slots := #[.int 64], vm := .none },
  { cls := 32, slots := #[.int 65], vm := .none },
  { cls := 32, slots := #[.int 66], vm := .none },
  { cls := 32, slots := #[.int 67], vm := .none },
  { cls := 32, slots := #[.int 68], vm := .none },
  { cls := 32, slots := #[.int 69], vm := .none },
  { cls := 32, slots := #[.int 70], vm := .none },
  { cls := 32, slots := #[.int 71], vm := .none },
  { cls := 32, slots := #[.int 72], vm := .none },
  { cls := 32, slots := #[.int 73], vm := .none },
  { cls := 32, slots := #[.int 74], vm := .none },
  { cls := 32, slots := #[.int 75], vm := .none },
  { cls := 32, slots := #[.int 76], vm := .none },
  { cls := 32, slots := #[.int 77], vm := .none },
  { cls := 32, slots := #[.int 78], vm := .none },
  { cls := 32, slots := #[.int 79], vm := .none },
  { cls := 32, slots := #[.int 80], vm := .none },
  { cls := 32, slots := #[.int 81], vm := .none },
  { cls := 32, slots := #[.int 82], vm := .none },
  { cls := 32, slots := #[.int 83], vm := .none },
  { cls := 32, slots := #[.int 84], vm := .none },
  { cls := 32, slots := #[.int 85], vm := .none },
  { cls := 32, slots := #[.int 86], vm := .none },
  { cls := 32, slots := #[.int 87], vm := .none },
  { cls := 32, slots := #[.int 88], vm := .none },
  { cls := 32, slots := #[.int 89], vm := .none },
  { cls := 32, slots := #[.int 90], vm := .none },
  { cls := 32, slots := #[.int 91], vm := .none },
  { cls := 32, slots := #[.int 92], vm := .none },
  { cls := 32, slots := #[.int 93], vm := .none },
  { cls := 32, slots := #[.int 94], vm := .none },
  { cls := 32, slots := #[.int 95], vm := .none },
  { cls := 32, slots := #[.int 96], vm := .none },
  { cls := 32, slots := #[.int 97], vm := .none },
  { cls := 32, slots := #[.int 98], vm := .none },
  { cls := 32, slots := #[.int 99], vm := .none },
  { cls := 32, slots := #[.int 100], vm := .none },
  { cls := 32, slots := #[.int 101], vm := .none },
  { cls := 32, slots := #[.int 102], vm := .none },
  { cls := 32, slots := #[.int 103], vm := .none },
  { cls := 32, slots := #[.int 104], vm := .none },
  { cls := 32, slots := #[.int 105], vm := .none },
  { cls := 32, slots := #[.int 106], vm := .none },
  { cls := 32, slots := #[.int 107], vm := .none },
  { cls := 32, slots := #[.int 108], vm := .none },
  { cls := 32, slots := #[.int 109], vm := .none },
  { cls := 32, slots := #[.int 110], vm := .none },
  { cls := 32, slots := #[.int 111], vm := .none },
  { cls := 32, slots := #[.int 112], vm := .none },
  { cls := 32, slots := #[.int 113], vm := .none },
  { cls := 32, slots := #[.int 114], vm := .none },
  { cls := 32, slots := #[.int 115], vm := .none },
  { cls := 32, slots := #[.int 116], vm := .none },
  { cls := 32, slots := #[.int 117], vm := .none },
  { cls := 32, slots := #[.int 118], vm := .none },
  { cls := 32, slots := #[.int 119], vm := .none },
  { cls := 32, slots := #[.int 120], vm := .none },
  { cls := 32, slots := #[.int 121], vm := .none },
  { cls := 32, slots := #[.int 122], vm := .none },
  { cls := 32, slots := #[.int 123], vm := .none },
  { cls := 32, slots := #[.int 124], vm := .none },
  { cls := 32, slots := #[.int 125], vm := .none },
  { cls := 32, slots := #[.int 126], vm := .none },
  { cls := 32, slots := #[.int 127], vm := .none },
  { cls := 43, slots := #[.int 48, .int 49, .int 50, .int 51, .int 52, .int 53, .int 54, .int 55, .int 56, .int 57, .int 48, .int 49, .int 50, .int 51, .int 52, .int 53, .int 54, .int 55, .int 56, .int 57, .int 48, .int 49, .int 50, .int 51, .int 52, .int 53, .int 54, .int 55, .int 56, .int 57, .int 48, .int 49, .int 50, .int 51, .int 52, .int 53, .int 54, .int 55, .int 56, .int 57, .int 48, .int 49, .int 50, .int 51, .int 52, .int 53, .int 54, .int 55, .int 56, .int 57, .int 48, .int 49, .int 50, .int 51, .int 52, .int 53, .int 54, .int 55, .int 56, .int 57, .int 48, .int 49, .int 50, .int 51, .int 52, .int 53, .int 54, .int 55, .int 56, .int 57, .int 48, .int 49, .int 50, .int 51, .int 52, .int 53, .int 54, .int 55, .int 56, .int 57, .int 48, .int 49, .int 50, .int 51, .int 52, .int 53, .int 54, .int 55, .int 56, .int 57, .int 48, .int 49, .int 50, .int 51, .int 52, .int 53, .int 54, .int 55, .int 56, .int 57], vm := .none },
  { cls := 43, slots := #[.int 48, .int 48, .int 48, .int 48, .int 48, .int 48, .int 48, .int 48, .int 48, .int 48, .int 49, .int 49, .int 49, .int 49, .int 49, .int 49, .int 49, .int 49, .int 49, .int 49, .int 50, .int 50, .int 50, .int 50, .int 50, .int 50, .int 50, .int 50, .int 50, .int 50, .int 51, .int 51, .int 51, .int 51, .int 51, .int 51, .int 51, .int 51, .int 51, .int 51, .int 52, .int 52, .int 52, .int 52, .int 52, .int 52, .int 52, .int 52, .int 52, .int 52, .int 53, .int 53, .int 53, .int 53, .int 53, .int 53, .int 53, .int 53, .int 53, .int 53, .int 54, .int 54, .int 54, .int 54, .int 54, .int 54, .int 54, .int 54, .int 54, .int 54, .int 55, .int 55, .int 55, .int 55, .int 55, .int 55, .int 55, .int 55, .int 55, .int 55, .int 56, .int 56, .int 56, .int 56, .int 56, .int 56, .int 56, .int 56, .int 56, .int 56, .int 57, .int 57, .int 57, .int 57, .int 57, .int 57, .int 57, .int 57, .int 57, .int 57], vm := .none },
  { cls := 47, slots := #[], vm := .none },
  { cls := 47, slots := #[], vm := .none }]
def classes : Array Class := #[k0, k1, k2, k3, k4, k5, k6, k7, k8, k9, k10, k11, k12, k13, k14, k15, k16, k17, k18, k19, k20, k21, k22, k23, k24, k25, k26, k27, k28, k29, k30, k31, k32, k33, k34, k35, k36, k37, k38, k39, k40, k41, k42, k43, k44, k45, k46, k47, k48, k49, k50]
def interned : List (Array UInt16 × Addr) := []
def slotsUsed : Nat := 740
def theMethod : MethodId := ⟨1, 1⟩
def args0 : Array Value := #[.int 3, .int 2, .int 60, .int 300]
def aboutOver (below : List Frame) : State where
  vm := { classes := classes, interned := interned.toArray }
  heap := heap
  slotsUsed := slotsUsed
  threads := #[{ frames := .invoking theMethod args0 :: below }]
def below0 : List Frame := [.native { method := ⟨0, 0⟩, args := #[] }]
def about1 : State := aboutOver below0
def p0 : Program := .bare "" "" ""
def e0 : Env := launch0.env 0 0 0
theorem w_frames : about1.frames = Frame.invoking theMethod args0 :: below0 := rfl
set_option maxRecDepth 65536 in
theorem w_args : argsFit about1.vm theMethod args0 = true := by decide +kernel
set_option maxRecDepth 65536 in
theorem w_heap : heapFits about1 = true := by decide +kernel
set_option maxRecDepth 65536 in
theorem w_runnable : about1.curStatus? = some .runnable := by decide +kernel
set_option maxRecDepth 65536 in
theorem w_alone : about1.alone = true := by decide +kernel
set_option maxRecDepth 65536 in
theorem w_named : about1.methodNamed? x = some theMethod := by decide +kernel
set_option maxRecDepth 65536 in
theorem w_hears : about1.hears theMethod below0 = true := by decide +kernel
set_option maxRecDepth 65536 in
theorem w_ripe : about1.ripe theMethod args0 below0 = true := by decide +kernel
theorem w_running : about1.status = .running := rfl
set_option maxRecDepth 65536 in
theorem w_room : about1.hasRoom e0.platform room_1 = true :=
  launch0.hasRoom_least _ room_1 (by decide +kernel) (by decide +kernel) (by decide +kernel) (by decide +kernel) (by decide +kernel) (by decide +kernel)
theorem allAtoms_all (ts : List Jvm.Cond) (a : Array Jvm.Value) (st : Jvm.State) : (allAtoms ts).before a st = ts.all (fun c => c.before a st) := by
  induction ts with
  | nil => rfl
  | cons c t ih =>
    show (Jvm.Cond.and c (allAtoms t)).before a st = _
    rw [Jvm.Cond.before_and, ih, List.all_cons]
def words1 : List Jvm.Cond := Jvm.Cond.code x code maxLocals ret :: tables_1
/-- a 'code' word, met by the world's own term for the bytes: nothing is compared byte by byte -/
theorem code_word {y : MethodName} {bytes : ByteArray} {mx : Nat} {rt : Option FieldType} {a : Array Value} {s : State} {m : MethodId} {meth : Method} {c : Code} (h1 : s.methodNamed? y = some m) (h2 : s.vm.method? m = some meth) (h3 : meth.code = some c) (h4 : c.code = bytes)
    (h5 : (c.maxLocals == mx && c.exceptionTable.isEmpty && decide (c.maxStack ≤ mostOperands) && decide (meth.sig.returnType = rt) && !meth.locks && decide (parseMethodDescriptor y.desc = some meth.sig)) = true) : (Jvm.Cond.code y bytes mx rt).before a s = true := by
  simp only [Bool.and_eq_true, beq_iff_eq, Bool.not_eq_true', decide_eq_true_eq] at h5
  obtain ⟨⟨⟨⟨⟨g1, g2⟩, g3⟩, g4⟩, g5⟩, g6⟩ := h5
  simp [Cond.before, Cond.holds, Cond.value, h1, h2, h3, h4, g1, g2, g3, g4, g5, g6]
def isCode : Jvm.Cond → Bool
  | .code _ _ _ _ => true
  | _ => false
theorem all_split {L : List Jvm.Cond} {P : Jvm.Cond → Bool} (h1 : L.all (fun c => isCode c || P c) = true) (h2 : ∀ c ∈ L.filter isCode, P c = true) : L.all P = true := by
  refine List.all_eq_true.mpr fun c hc => ?_
  have h := List.all_eq_true.mp h1 c hc
  rcases Bool.eq_false_or_eq_true (isCode c) with hi | hi
  · exact h2 c (List.mem_filter.mpr ⟨hc, hi⟩)
  · simpa [hi] using h
set_option maxRecDepth 65536 in
theorem w_c0 : (Jvm.Cond.code x code maxLocals ret).before args0 about1 = true := code_word (m := ⟨1, 1⟩) (meth := k1m1) (c := k1c1) (by decide +kernel) rfl rfl rfl (by decide +kernel)
set_option maxRecDepth 65536 in
theorem w_c1 : (Jvm.Cond.code ⟨"com/example/eurydice/eurydice/model/ClassFileWriter", "<init>", "(Ljava/lang/String;Ljava/lang/String;)V"⟩ prog_80_method_1_code (3 : Nat) (Option.none : Option Jvm.ClassFile.FieldType)).before args0 about1 = true := code_word (m := ⟨2, 0⟩) (meth := k2m0) (c := k2c0) (by decide +kernel) rfl rfl rfl (by decide +kernel)
set_option maxRecDepth 65536 in
theorem w_c2 : (Jvm.Cond.code ⟨"java/lang/Object", "<init>", "()V"⟩ object_method_1_code (1 : Nat) (Option.none : Option Jvm.ClassFile.FieldType)).before args0 about1 = true := code_word (m := ⟨0, 0⟩) (meth := k0m0) (c := k0c0) (by decide +kernel) rfl rfl rfl (by decide +kernel)
set_option maxRecDepth 65536 in
theorem w_c3 : (Jvm.Cond.code ⟨"com/example/eurydice/eurydice/model/ClassFileWriter$Pool", "<init>", "()V"⟩ prog_83_method_1_code (1 : Nat) (Option.none : Option Jvm.ClassFile.FieldType)).before args0 about1 = true := code_word (m := ⟨9, 0⟩) (meth := k9m0) (c := k9c0) (by decide +kernel) rfl rfl rfl (by decide +kernel)
set_option maxRecDepth 65536 in
theorem w_c4 : (Jvm.Cond.code ⟨"com/example/eurydice/eurydice/model/ClassFileWriter$Bytes", "<init>", "()V"⟩ prog_81_method_1_code (1 : Nat) (Option.none : Option Jvm.ClassFile.FieldType)).before args0 about1 = true := code_word (m := ⟨10, 0⟩) (meth := k10m0) (c := k10c0) (by decide +kernel) rfl rfl rfl (by decide +kernel)
set_option maxRecDepth 65536 in
theorem w_c5 : (Jvm.Cond.code ⟨"java/util/HashMap", "<init>", "()V"⟩ jdk_69_method_7_code (1 : Nat) (Option.none : Option Jvm.ClassFile.FieldType)).before args0 about1 = true := code_word (m := ⟨14, 1⟩) (meth := k14m1) (c := k14c1) (by decide +kernel) rfl rfl rfl (by decide +kernel)
set_option maxRecDepth 65536 in
theorem w_c6 : (Jvm.Cond.code ⟨"java/util/AbstractMap", "<init>", "()V"⟩ jdk_71_method_1_code (1 : Nat) (Option.none : Option Jvm.ClassFile.FieldType)).before args0 about1 = true := code_word (m := ⟨12, 0⟩) (meth := k12m0) (c := k12c0) (by decide +kernel) rfl rfl rfl (by decide +kernel)
set_option maxRecDepth 65536 in
theorem w_c7 : (Jvm.Cond.code ⟨"java/util/Objects", "requireNonNull", "(Ljava/lang/Object;)Ljava/lang/Object;"⟩ jdk_31_method_10_code (1 : Nat) (Option.some (.object "java/lang/Object"))).before args0 about1 = true := code_word (m := ⟨16, 1⟩) (meth := k16m1) (c := k16c1) (by decide +kernel) rfl rfl rfl (by decide +kernel)
set_option maxRecDepth 65536 in
theorem w_c8 : (Jvm.Cond.code ⟨"com/example/eurydice/eurydice/model/ClassFileWriter$Code", "<init>", "(Lcom/example/eurydice/eurydice/model/ClassFileWriter;)V"⟩ prog_82_method_1_code (2 : Nat) (Option.none : Option Jvm.ClassFile.FieldType)).before args0 about1 = true := code_word (m := ⟨15, 0⟩) (meth := k15m0) (c := k15c0) (by decide +kernel) rfl rfl rfl (by decide +kernel)
set_option maxRecDepth 65536 in
theorem w_c9 : (Jvm.Cond.code ⟨"java/util/ArrayList", "<init>", "()V"⟩ jdk_38_method_2_code (1 : Nat) (Option.none : Option Jvm.ClassFile.FieldType)).before args0 about1 = true := code_word (m := ⟨24, 0⟩) (meth := k24m0) (c := k24c0) (by decide +kernel) rfl rfl rfl (by decide +kernel)
set_option maxRecDepth 65536 in
theorem w_c10 : (Jvm.Cond.code ⟨"java/util/AbstractList", "<init>", "()V"⟩ jdk_39_method_1_code (1 : Nat) (Option.none : Option Jvm.ClassFile.FieldType)).before args0 about1 = true := code_word (m := ⟨22, 0⟩) (meth := k22m0) (c := k22c0) (by decide +kernel) rfl rfl rfl (by decide +kernel)
set_option maxRecDepth 65536 in
theorem w_c11 : (Jvm.Cond.code ⟨"java/util/AbstractCollection", "<init>", "()V"⟩ jdk_22_method_1_code (1 : Nat) (Option.none : Option Jvm.ClassFile.FieldType)).before args0 about1 = true := code_word (m := ⟨19, 0⟩) (meth := k19m0) (c := k19c0) (by decide +kernel) rfl rfl rfl (by decide +kernel)
set_option maxRecDepth 65536 in
theorem w_c12 : (Jvm.Cond.code ⟨"com/example/eurydice/eurydice/model/ClassFileWriter$Code", "op", "(I)V"⟩ prog_82_method_2_code (2 : Nat) (Option.none : Option Jvm.ClassFile.FieldType)).before args0 about1 = true := code_word (m := ⟨15, 1⟩) (meth := k15m1) (c := k15c1) (by decide +kernel) rfl rfl rfl (by decide +kernel)
set_option maxRecDepth 65536 in
theorem w_c13 : (Jvm.Cond.code ⟨"com/example/eurydice/eurydice/model/ClassFileWriter$Bytes", "u1", "(I)V"⟩ prog_81_method_3_code (2 : Nat) (Option.none : Option Jvm.ClassFile.FieldType)).before args0 about1 = true := code_word (m := ⟨10, 2⟩) (meth := k10m2) (c := k10c2) (by decide +kernel) rfl rfl rfl (by decide +kernel)
set_option maxRecDepth 65536 in
theorem w_c14 : (Jvm.Cond.code ⟨"com/example/eurydice/eurydice/model/ClassFileWriter$Code", "branch", "(I)I"⟩ prog_82_method_13_code (3 : Nat) (Option.some .int)).before args0 about1 = true := code_word (m := ⟨15, 2⟩) (meth := k15m2) (c := k15c2) (by decide +kernel) rfl rfl rfl (by decide +kernel)
set_option maxRecDepth 65536 in
theorem w_c15 : (Jvm.Cond.code ⟨"com/example/eurydice/eurydice/model/ClassFileWriter$Bytes", "size", "()I"⟩ prog_81_method_2_code (1 : Nat) (Option.some .int)).before args0 about1 = true := code_word (m := ⟨10, 1⟩) (meth := k10m1) (c := k10c1) (by decide +kernel) rfl rfl rfl (by decide +kernel)
set_option maxRecDepth 65536 in
theorem w_c16 : (Jvm.Cond.code ⟨"com/example/eurydice/eurydice/model/ClassFileWriter$Bytes", "u2", "(I)V"⟩ prog_81_method_4_code (2 : Nat) (Option.none : Option Jvm.ClassFile.FieldType)).before args0 about1 = true := code_word (m := ⟨10, 3⟩) (meth := k10m3) (c := k10c3) (by decide +kernel) rfl rfl rfl (by decide +kernel)
set_option maxRecDepth 65536 in
theorem w_c17 : (Jvm.Cond.code ⟨"com/example/eurydice/eurydice/model/ClassFileWriter", "method", "(Ljava/lang/String;Ljava/lang/String;Lcom/example/eurydice/eurydice/model/ClassFileWriter$Code;II)V"⟩ prog_80_method_5_code (11 : Nat) (Option.none : Option Jvm.ClassFile.FieldType)).before args0 about1 = true := code_word (m := ⟨2, 1⟩) (meth := k2m1) (c := k2c1) (by decide +kernel) rfl rfl rfl (by decide +kernel)
set_option maxRecDepth 65536 in
theorem w_c18 : (Jvm.Cond.code ⟨"java/util/ArrayList", "iterator", "()Ljava/util/Iterator;"⟩ jdk_38_method_55_code (1 : Nat) (Option.some (.object "java/util/Iterator"))).before args0 about1 = true := code_word (m := ⟨24, 2⟩) (meth := k24m2) (c := k24c2) (by decide +kernel) rfl rfl rfl (by decide +kernel)
set_option maxRecDepth 65536 in
theorem w_c19 : (Jvm.Cond.code ⟨"java/util/ArrayList$Itr", "<init>", "(Ljava/util/ArrayList;)V"⟩ jdk_49_method_1_code (2 : Nat) (Option.none : Option Jvm.ClassFile.FieldType)).before args0 about1 = true := code_word (m := ⟨26, 0⟩) (meth := k26m0) (c := k26c0) (by decide +kernel) rfl rfl rfl (by decide +kernel)
set_option maxRecDepth 65536 in
theorem w_c20 : (Jvm.Cond.code ⟨"java/util/ArrayList$Itr", "hasNext", "()Z"⟩ jdk_49_method_2_code (1 : Nat) (Option.some .boolean)).before args0 about1 = true := code_word (m := ⟨26, 1⟩) (meth := k26m1) (c := k26c1) (by decide +kernel) rfl rfl rfl (by decide +kernel)
set_option maxRecDepth 65536 in
theorem w_c21 : (Jvm.Cond.code ⟨"com/example/eurydice/eurydice/model/ClassFileWriter$Pool", "utf8", "(Ljava/lang/String;)I"⟩ prog_83_method_2_code (2 : Nat) (Option.some .int)).before args0 about1 = true := code_word (m := ⟨9, 1⟩) (meth := k9m1) (c := k9c1) (by decide +kernel) rfl rfl rfl (by decide +kernel)
set_option maxRecDepth 65536 in
theorem w_c22 : (Jvm.Cond.code ⟨"com/example/eurydice/eurydice/model/ClassFileWriter$Pool", "constant", "(ILjava/lang/String;Ljava/util/function/Consumer;)I"⟩ prog_83_method_11_code (6 : Nat) (Option.some .int)).before args0 about1 = true := code_word (m := ⟨9, 5⟩) (meth := k9m5) (c := k9c5) (by decide +kernel) rfl rfl rfl (by decide +kernel)
set_option maxRecDepth 65536 in
theorem w_c23 : (Jvm.Cond.code ⟨"java/lang/StringBuilder", "<init>", "()V"⟩ jdk_67_method_1_code (1 : Nat) (Option.none : Option Jvm.ClassFile.FieldType)).before args0 about1 = true := code_word (m := ⟨30, 0⟩) (meth := k30m0) (c := k30c0) (by decide +kernel) rfl rfl rfl (by decide +kernel)
set_option maxRecDepth 65536 in
theorem w_c24 : (Jvm.Cond.code ⟨"java/lang/AbstractStringBuilder", "<init>", "(I)V"⟩ jdk_68_method_2_code (2 : Nat) (Option.none : Option Jvm.ClassFile.FieldType)).before args0 about1 = true := code_word (m := ⟨29, 1⟩) (meth := k29m1) (c := k29c1) (by decide +kernel) rfl rfl rfl (by decide +kernel)
set_option maxRecDepth 65536 in
theorem w_c25 : (Jvm.Cond.code ⟨"java/lang/StringBuilder", "append", "(I)Ljava/lang/StringBuilder;"⟩ jdk_67_method_15_code (2 : Nat) (Option.some (.object "java/lang/StringBuilder"))).before args0 about1 = true := code_word (m := ⟨30, 3⟩) (meth := k30m3) (c := k30c3) (by decide +kernel) rfl rfl rfl (by decide +kernel)
set_option maxRecDepth 65536 in
theorem w_c26 : (Jvm.Cond.code ⟨"java/lang/AbstractStringBuilder", "append", "(I)Ljava/lang/AbstractStringBuilder;"⟩ jdk_68_method_32_code (4 : Nat) (Option.some (.object "java/lang/AbstractStringBuilder"))).before args0 about1 = true := code_word (m := ⟨29, 7⟩) (meth := k29m7) (c := k29c7) (by decide +kernel) rfl rfl rfl (by decide +kernel)
set_option maxRecDepth 65536 in
theorem w_c27 : (Jvm.Cond.code ⟨"java/lang/Integer", "stringSize", "(I)I"⟩ jdk_33_method_13_code (4 : Nat) (Option.some .int)).before args0 about1 = true := code_word (m := ⟨32, 1⟩) (meth := k32m1) (c := k32c1) (by decide +kernel) rfl rfl rfl (by decide +kernel)
set_option maxRecDepth 65536 in
theorem w_c28 : (Jvm.Cond.code ⟨"java/lang/AbstractStringBuilder", "ensureCapacityInternal", "(I)V"⟩ jdk_68_method_9_code (3 : Nat) (Option.none : Option Jvm.ClassFile.FieldType)).before args0 about1 = true := code_word (m := ⟨29, 3⟩) (meth := k29m3) (c := k29c3) (by decide +kernel) rfl rfl rfl (by decide +kernel)
set_option maxRecDepth 65536 in
theorem w_c29 : (Jvm.Cond.code ⟨"java/lang/AbstractStringBuilder", "isLatin1", "()Z"⟩ jdk_68_method_68_code (1 : Nat) (Option.some .boolean)).before args0 about1 = true := code_word (m := ⟨29, 9⟩) (meth := k29m9) (c := k29c9) (by decide +kernel) rfl rfl rfl (by decide +kernel)
set_option maxRecDepth 65536 in
theorem w_c30 : (Jvm.Cond.code ⟨"java/lang/Integer", "getChars", "(II[B)I"⟩ jdk_33_method_12_code (7 : Nat) (Option.some .int)).before args0 about1 = true := code_word (m := ⟨32, 0⟩) (meth := k32m0) (c := k32c0) (by decide +kernel) rfl rfl rfl (by decide +kernel)
set_option maxRecDepth 65536 in
theorem w_c31 : (Jvm.Cond.code ⟨"java/lang/StringBuilder", "append", "(Ljava/lang/String;)Ljava/lang/StringBuilder;"⟩ jdk_67_method_7_code (2 : Nat) (Option.some (.object "java/lang/StringBuilder"))).before args0 about1 = true := code_word (m := ⟨30, 1⟩) (meth := k30m1) (c := k30c1) (by decide +kernel) rfl rfl rfl (by decide +kernel)
set_option maxRecDepth 65536 in
theorem w_c32 : (Jvm.Cond.code ⟨"java/lang/AbstractStringBuilder", "append", "(Ljava/lang/String;)Ljava/lang/AbstractStringBuilder;"⟩ jdk_68_method_22_code (3 : Nat) (Option.some (.object "java/lang/AbstractStringBuilder"))).before args0 about1 = true := code_word (m := ⟨29, 5⟩) (meth := k29m5) (c := k29c5) (by decide +kernel) rfl rfl rfl (by decide +kernel)
set_option maxRecDepth 65536 in
theorem w_c33 : (Jvm.Cond.code ⟨"java/lang/String", "length", "()I"⟩ jdk_42_method_54_code (1 : Nat) (Option.some .int)).before args0 about1 = true := code_word (m := ⟨8, 2⟩) (meth := k8m2) (c := k8c2) (by decide +kernel) rfl rfl rfl (by decide +kernel)
set_option maxRecDepth 65536 in
theorem w_c34 : (Jvm.Cond.code ⟨"java/lang/String", "coder", "()B"⟩ jdk_42_method_152_code (1 : Nat) (Option.some .byte)).before args0 about1 = true := code_word (m := ⟨8, 7⟩) (meth := k8m7) (c := k8c7) (by decide +kernel) rfl rfl rfl (by decide +kernel)
set_option maxRecDepth 65536 in
theorem w_c35 : (Jvm.Cond.code ⟨"java/lang/AbstractStringBuilder", "putStringAt", "(ILjava/lang/String;)V"⟩ jdk_68_method_73_code (3 : Nat) (Option.none : Option Jvm.ClassFile.FieldType)).before args0 about1 = true := code_word (m := ⟨29, 11⟩) (meth := k29m11) (c := k29c11) (by decide +kernel) rfl rfl rfl (by decide +kernel)
set_option maxRecDepth 65536 in
theorem w_c36 : (Jvm.Cond.code ⟨"java/lang/AbstractStringBuilder", "inflateIfNeededFor", "(Ljava/lang/String;)V"⟩ jdk_68_method_71_code (2 : Nat) (Option.none : Option Jvm.ClassFile.FieldType)).before args0 about1 = true := code_word (m := ⟨29, 10⟩) (meth := k29m10) (c := k29c10) (by decide +kernel) rfl rfl rfl (by decide +kernel)
set_option maxRecDepth 65536 in
theorem w_c37 : (Jvm.Cond.code ⟨"java/lang/String", "getBytes", "([BIB)V"⟩ jdk_42_method_147_code (4 : Nat) (Option.none : Option Jvm.ClassFile.FieldType)).before args0 about1 = true := code_word (m := ⟨8, 5⟩) (meth := k8m5) (c := k8c5) (by decide +kernel) rfl rfl rfl (by decide +kernel)
set_option maxRecDepth 65536 in
theorem w_c38 : (Jvm.Cond.code ⟨"java/lang/StringBuilder", "toString", "()Ljava/lang/String;"⟩ jdk_67_method_42_code (1 : Nat) (Option.some (.object "java/lang/String"))).before args0 about1 = true := code_word (m := ⟨30, 4⟩) (meth := k30m4) (c := k30c4) (by decide +kernel) rfl rfl rfl (by decide +kernel)
set_option maxRecDepth 65536 in
theorem w_c39 : (Jvm.Cond.code ⟨"java/lang/String", "<init>", "(Ljava/lang/StringBuilder;)V"⟩ jdk_42_method_53_code (2 : Nat) (Option.none : Option Jvm.ClassFile.FieldType)).before args0 about1 = true := code_word (m := ⟨8, 1⟩) (meth := k8m1) (c := k8c1) (by decide +kernel) rfl rfl rfl (by decide +kernel)
set_option maxRecDepth 65536 in
theorem w_c40 : (Jvm.Cond.code ⟨"java/lang/String", "<init>", "(Ljava/lang/AbstractStringBuilder;Ljava/lang/Void;)V"⟩ jdk_42_method_150_code (5 : Nat) (Option.none : Option Jvm.ClassFile.FieldType)).before args0 about1 = true := code_word (m := ⟨8, 6⟩) (meth := k8m6) (c := k8c6) (by decide +kernel) rfl rfl rfl (by decide +kernel)
set_option maxRecDepth 65536 in
theorem w_c41 : (Jvm.Cond.code ⟨"java/lang/AbstractStringBuilder", "getValue", "()[B"⟩ jdk_68_method_64_code (1 : Nat) (Option.some (.array .byte))).before args0 about1 = true := code_word (m := ⟨29, 8⟩) (meth := k29m8) (c := k29c8) (by decide +kernel) rfl rfl rfl (by decide +kernel)
set_option maxRecDepth 65536 in
theorem w_c42 : (Jvm.Cond.code ⟨"java/lang/StringBuilder", "length", "()I"⟩ jdk_67_method_93_code (1 : Nat) (Option.some .int)).before args0 about1 = true := code_word (m := ⟨30, 5⟩) (meth := k30m5) (c := k30c5) (by decide +kernel) rfl rfl rfl (by decide +kernel)
set_option maxRecDepth 65536 in
theorem w_c43 : (Jvm.Cond.code ⟨"java/lang/AbstractStringBuilder", "length", "()I"⟩ jdk_68_method_6_code (1 : Nat) (Option.some .int)).before args0 about1 = true := code_word (m := ⟨29, 2⟩) (meth := k29m2) (c := k29c2) (by decide +kernel) rfl rfl rfl (by decide +kernel)
set_option maxRecDepth 65536 in
theorem w_c44 : (Jvm.Cond.code ⟨"java/util/Arrays", "copyOfRange", "([BII)[B"⟩ jdk_65_method_132_code (3 : Nat) (Option.some (.array .byte))).before args0 about1 = true := code_word (m := ⟨34, 3⟩) (meth := k34m3) (c := k34c3) (by decide +kernel) rfl rfl rfl (by decide +kernel)
set_option maxRecDepth 65536 in
theorem w_c45 : (Jvm.Cond.code ⟨"java/util/Arrays", "copyOfRangeByte", "([BII)[B"⟩ jdk_65_method_133_code (5 : Nat) (Option.some (.array .byte))).before args0 about1 = true := code_word (m := ⟨34, 4⟩) (meth := k34m4) (c := k34c4) (by decide +kernel) rfl rfl rfl (by decide +kernel)
set_option maxRecDepth 65536 in
theorem w_c46 : (Jvm.Cond.code ⟨"java/util/Arrays", "checkLength", "(II)V"⟩ jdk_65_method_131_code (2 : Nat) (Option.none : Option Jvm.ClassFile.FieldType)).before args0 about1 = true := code_word (m := ⟨34, 2⟩) (meth := k34m2) (c := k34c2) (by decide +kernel) rfl rfl rfl (by decide +kernel)
set_option maxRecDepth 65536 in
theorem w_c47 : (Jvm.Cond.code ⟨"java/lang/Math", "min", "(II)I"⟩ jdk_29_method_69_code (2 : Nat) (Option.some .int)).before args0 about1 = true := code_word (m := ⟨35, 2⟩) (meth := k35m2) (c := k35c2) (by decide +kernel) rfl rfl rfl (by decide +kernel)
set_option maxRecDepth 65536 in
theorem w_c48 : (Jvm.Cond.code ⟨"java/util/HashMap", "get", "(Ljava/lang/Object;)Ljava/lang/Object;"⟩ jdk_69_method_12_code (3 : Nat) (Option.some (.object "java/lang/Object"))).before args0 about1 = true := code_word (m := ⟨14, 2⟩) (meth := k14m2) (c := k14c2) (by decide +kernel) rfl rfl rfl (by decide +kernel)
set_option maxRecDepth 65536 in
theorem w_c49 : (Jvm.Cond.code ⟨"java/util/HashMap", "getNode", "(Ljava/lang/Object;)Ljava/util/HashMap$Node;"⟩ jdk_69_method_13_code (8 : Nat) (Option.some (.object "java/util/HashMap$Node"))).before args0 about1 = true := code_word (m := ⟨14, 3⟩) (meth := k14m3) (c := k14c3) (by decide +kernel) rfl rfl rfl (by decide +kernel)
set_option maxRecDepth 65536 in
theorem w_c50 : (Jvm.Cond.code ⟨"com/example/eurydice/eurydice/model/ClassFileWriter$Pool", "lambda$utf8$0", "(Ljava/lang/String;Lcom/example/eurydice/eurydice/model/ClassFileWriter$Bytes;)V"⟩ prog_83_method_14_code (2 : Nat) (Option.none : Option Jvm.ClassFile.FieldType)).before args0 about1 = true := code_word (m := ⟨9, 7⟩) (meth := k9m7) (c := k9c7) (by decide +kernel) rfl rfl rfl (by decide +kernel)
set_option maxRecDepth 65536 in
theorem w_c51 : (Jvm.Cond.code ⟨"com/example/eurydice/eurydice/model/ClassFileWriter$Bytes", "utf8", "(Ljava/lang/String;)V"⟩ prog_81_method_8_code (5 : Nat) (Option.none : Option Jvm.ClassFile.FieldType)).before args0 about1 = true := code_word (m := ⟨10, 5⟩) (meth := k10m5) (c := k10c5) (by decide +kernel) rfl rfl rfl (by decide +kernel)
set_option maxRecDepth 65536 in
theorem w_c52 : (Jvm.Cond.code ⟨"java/lang/String", "charAt", "(I)C"⟩ jdk_42_method_56_code (2 : Nat) (Option.some .char)).before args0 about1 = true := code_word (m := ⟨8, 3⟩) (meth := k8m3) (c := k8c3) (by decide +kernel) rfl rfl rfl (by decide +kernel)
set_option maxRecDepth 65536 in
theorem w_c53 : (Jvm.Cond.code ⟨"java/lang/String", "isLatin1", "()Z"⟩ jdk_42_method_154_code (1 : Nat) (Option.some .boolean)).before args0 about1 = true := code_word (m := ⟨8, 8⟩) (meth := k8m8) (c := k8c8) (by decide +kernel) rfl rfl rfl (by decide +kernel)
set_option maxRecDepth 65536 in
theorem w_c54 : (Jvm.Cond.code ⟨"java/lang/StringLatin1", "charAt", "([BI)C"⟩ jdk_43_method_2_code (2 : Nat) (Option.some .char)).before args0 about1 = true := code_word (m := ⟨36, 1⟩) (meth := k36m1) (c := k36c1) (by decide +kernel) rfl rfl rfl (by decide +kernel)
set_option maxRecDepth 65536 in
theorem w_c55 : (Jvm.Cond.code ⟨"java/lang/String", "checkIndex", "(II)V"⟩ jdk_42_method_155_code (2 : Nat) (Option.none : Option Jvm.ClassFile.FieldType)).before args0 about1 = true := code_word (m := ⟨8, 9⟩) (meth := k8m9) (c := k8c9) (by decide +kernel) rfl rfl rfl (by decide +kernel)
set_option maxRecDepth 65536 in
theorem w_c56 : (Jvm.Cond.code ⟨"jdk/internal/util/Preconditions", "checkIndex", "(IILjava/util/function/BiFunction;)I"⟩ jdk_41_method_11_code (3 : Nat) (Option.some .int)).before args0 about1 = true := code_word (m := ⟨37, 1⟩) (meth := k37m1) (c := k37c1) (by decide +kernel) rfl rfl rfl (by decide +kernel)
set_option maxRecDepth 65536 in
theorem w_c57 : (Jvm.Cond.code ⟨"com/example/eurydice/eurydice/model/ClassFileWriter$Bytes", "append", "(Lcom/example/eurydice/eurydice/model/ClassFileWriter$Bytes;)V"⟩ prog_81_method_9_code (3 : Nat) (Option.none : Option Jvm.ClassFile.FieldType)).before args0 about1 = true := code_word (m := ⟨10, 6⟩) (meth := k10m6) (c := k10c6) (by decide +kernel) rfl rfl rfl (by decide +kernel)
set_option maxRecDepth 65536 in
theorem w_c58 : (Jvm.Cond.code ⟨"java/lang/Integer", "valueOf", "(I)Ljava/lang/Integer;"⟩ jdk_33_method_22_code (1 : Nat) (Option.some (.object "java/lang/Integer"))).before args0 about1 = true := code_word (m := ⟨32, 2⟩) (meth := k32m2) (c := k32c2) (by decide +kernel) rfl rfl rfl (by decide +kernel)
set_option maxRecDepth 65536 in
theorem w_c59 : (Jvm.Cond.code ⟨"java/util/HashMap", "put", "(Ljava/lang/Object;Ljava/lang/Object;)Ljava/lang/Object;"⟩ jdk_69_method_15_code (3 : Nat) (Option.some (.object "java/lang/Object"))).before args0 about1 = true := code_word (m := ⟨14, 4⟩) (meth := k14m4) (c := k14c4) (by decide +kernel) rfl rfl rfl (by decide +kernel)
set_option maxRecDepth 65536 in
theorem w_c60 : (Jvm.Cond.code ⟨"java/util/HashMap", "hash", "(Ljava/lang/Object;)I"⟩ jdk_69_method_1_code (2 : Nat) (Option.some .int)).before args0 about1 = true := code_word (m := ⟨14, 0⟩) (meth := k14m0) (c := k14c0) (by decide +kernel) rfl rfl rfl (by decide +kernel)
set_option maxRecDepth 65536 in
theorem w_c61 : (Jvm.Cond.code ⟨"java/lang/String", "hashCode", "()I"⟩ jdk_42_method_78_code (2 : Nat) (Option.some .int)).before args0 about1 = true := code_word (m := ⟨8, 4⟩) (meth := k8m4) (c := k8c4) (by decide +kernel) rfl rfl rfl (by decide +kernel)
set_option maxRecDepth 65536 in
theorem w_c62 : (Jvm.Cond.code ⟨"java/lang/StringLatin1", "hashCode", "([B)I"⟩ jdk_43_method_21_code (1 : Nat) (Option.some .int)).before args0 about1 = true := code_word (m := ⟨36, 3⟩) (meth := k36m3) (c := k36c3) (by decide +kernel) rfl rfl rfl (by decide +kernel)
set_option maxRecDepth 65536 in
theorem w_c63 : (Jvm.Cond.code ⟨"jdk/internal/util/ArraysSupport", "vectorizedHashCode", "(Ljava/lang/Object;IIII)I"⟩ jdk_48_method_4_code (5 : Nat) (Option.some .int)).before args0 about1 = true := code_word (m := ⟨39, 1⟩) (meth := k39m1) (c := k39c1) (by decide +kernel) rfl rfl rfl (by decide +kernel)
set_option maxRecDepth 65536 in
theorem w_c64 : (Jvm.Cond.code ⟨"jdk/internal/util/ArraysSupport", "signedHashCode", "(I[BII)I"⟩ jdk_48_method_5_code (6 : Nat) (Option.some .int)).before args0 about1 = true := code_word (m := ⟨39, 2⟩) (meth := k39m2) (c := k39c2) (by decide +kernel) rfl rfl rfl (by decide +kernel)
set_option maxRecDepth 65536 in
theorem w_c65 : (Jvm.Cond.code ⟨"java/util/HashMap", "putVal", "(ILjava/lang/Object;Ljava/lang/Object;ZZ)Ljava/lang/Object;"⟩ jdk_69_method_16_code (13 : Nat) (Option.some (.object "java/lang/Object"))).before args0 about1 = true := code_word (m := ⟨14, 5⟩) (meth := k14m5) (c := k14c5) (by decide +kernel) rfl rfl rfl (by decide +kernel)
set_option maxRecDepth 65536 in
theorem w_c66 : (Jvm.Cond.code ⟨"java/util/HashMap", "resize", "()[Ljava/util/HashMap$Node;"⟩ jdk_69_method_17_code (14 : Nat) (Option.some (.array (.object "java/util/HashMap$Node")))).before args0 about1 = true := code_word (m := ⟨14, 6⟩) (meth := k14m6) (c := k14c6) (by decide +kernel) rfl rfl rfl (by decide +kernel)
set_option maxRecDepth 65536 in
theorem w_c67 : (Jvm.Cond.code ⟨"java/util/HashMap", "newNode", "(ILjava/lang/Object;Ljava/lang/Object;Ljava/util/HashMap$Node;)Ljava/util/HashMap$Node;"⟩ jdk_69_method_46_code (5 : Nat) (Option.some (.object "java/util/HashMap$Node"))).before args0 about1 = true := code_word (m := ⟨14, 7⟩) (meth := k14m7) (c := k14c7) (by decide +kernel) rfl rfl rfl (by decide +kernel)
set_option maxRecDepth 65536 in
theorem w_c68 : (Jvm.Cond.code ⟨"java/util/HashMap$Node", "<init>", "(ILjava/lang/Object;Ljava/lang/Object;Ljava/util/HashMap$Node;)V"⟩ jdk_70_method_1_code (5 : Nat) (Option.none : Option Jvm.ClassFile.FieldType)).before args0 about1 = true := code_word (m := ⟨41, 0⟩) (meth := k41m0) (c := k41c0) (by decide +kernel) rfl rfl rfl (by decide +kernel)
set_option maxRecDepth 65536 in
theorem w_c69 : (Jvm.Cond.code ⟨"java/util/HashMap", "afterNodeInsertion", "(Z)V"⟩ jdk_69_method_52_code (2 : Nat) (Option.none : Option Jvm.ClassFile.FieldType)).before args0 about1 = true := code_word (m := ⟨14, 8⟩) (meth := k14m8) (c := k14c8) (by decide +kernel) rfl rfl rfl (by decide +kernel)
set_option maxRecDepth 65536 in
theorem w_c70 : (Jvm.Cond.code ⟨"java/lang/Integer", "intValue", "()I"⟩ jdk_33_method_27_code (1 : Nat) (Option.some .int)).before args0 about1 = true := code_word (m := ⟨32, 3⟩) (meth := k32m3) (c := k32c3) (by decide +kernel) rfl rfl rfl (by decide +kernel)
set_option maxRecDepth 65536 in
theorem w_c71 : (Jvm.Cond.code ⟨"java/util/ArrayList", "isEmpty", "()Z"⟩ jdk_38_method_9_code (1 : Nat) (Option.some .boolean)).before args0 about1 = true := code_word (m := ⟨24, 1⟩) (meth := k24m1) (c := k24c1) (by decide +kernel) rfl rfl rfl (by decide +kernel)
set_option maxRecDepth 65536 in
theorem w_c72 : (Jvm.Cond.code ⟨"com/example/eurydice/eurydice/model/ClassFileWriter$Bytes", "u4", "(I)V"⟩ prog_81_method_5_code (2 : Nat) (Option.none : Option Jvm.ClassFile.FieldType)).before args0 about1 = true := code_word (m := ⟨10, 4⟩) (meth := k10m4) (c := k10c4) (by decide +kernel) rfl rfl rfl (by decide +kernel)
set_option maxRecDepth 65536 in
theorem w_c73 : (Jvm.Cond.code ⟨"com/example/eurydice/eurydice/model/ClassFileWriter", "toBytes", "()[B"⟩ prog_80_method_9_code (4 : Nat) (Option.some (.array .byte))).before args0 about1 = true := code_word (m := ⟨2, 2⟩) (meth := k2m2) (c := k2c2) (by decide +kernel) rfl rfl rfl (by decide +kernel)
set_option maxRecDepth 65536 in
theorem w_c74 : (Jvm.Cond.code ⟨"com/example/eurydice/eurydice/model/ClassFileWriter$Pool", "classEntry", "(Ljava/lang/String;)I"⟩ prog_83_method_4_code (2 : Nat) (Option.some .int)).before args0 about1 = true := code_word (m := ⟨9, 2⟩) (meth := k9m2) (c := k9c2) (by decide +kernel) rfl rfl rfl (by decide +kernel)
set_option maxRecDepth 65536 in
theorem w_c75 : (Jvm.Cond.code ⟨"com/example/eurydice/eurydice/model/ClassFileWriter$Pool", "entry", "(I[I)I"⟩ prog_83_method_10_code (3 : Nat) (Option.some .int)).before args0 about1 = true := code_word (m := ⟨9, 4⟩) (meth := k9m4) (c := k9c4) (by decide +kernel) rfl rfl rfl (by decide +kernel)
set_option maxRecDepth 65536 in
theorem w_c76 : (Jvm.Cond.code ⟨"java/util/Arrays", "toString", "([I)Ljava/lang/String;"⟩ jdk_65_method_163_code (4 : Nat) (Option.some (.object "java/lang/String"))).before args0 about1 = true := code_word (m := ⟨34, 5⟩) (meth := k34m5) (c := k34c5) (by decide +kernel) rfl rfl rfl (by decide +kernel)
set_option maxRecDepth 65536 in
theorem w_c77 : (Jvm.Cond.code ⟨"java/lang/StringBuilder", "append", "(C)Ljava/lang/StringBuilder;"⟩ jdk_67_method_14_code (2 : Nat) (Option.some (.object "java/lang/StringBuilder"))).before args0 about1 = true := code_word (m := ⟨30, 2⟩) (meth := k30m2) (c := k30c2) (by decide +kernel) rfl rfl rfl (by decide +kernel)
set_option maxRecDepth 65536 in
theorem w_c78 : (Jvm.Cond.code ⟨"java/lang/AbstractStringBuilder", "append", "(C)Ljava/lang/AbstractStringBuilder;"⟩ jdk_68_method_31_code (2 : Nat) (Option.some (.object "java/lang/AbstractStringBuilder"))).before args0 about1 = true := code_word (m := ⟨29, 6⟩) (meth := k29m6) (c := k29c6) (by decide +kernel) rfl rfl rfl (by decide +kernel)
set_option maxRecDepth 65536 in
theorem w_c79 : (Jvm.Cond.code ⟨"java/lang/StringLatin1", "canEncode", "(C)Z"⟩ jdk_43_method_3_code (1 : Nat) (Option.some .boolean)).before args0 about1 = true := code_word (m := ⟨36, 2⟩) (meth := k36m2) (c := k36c2) (by decide +kernel) rfl rfl rfl (by decide +kernel)
set_option maxRecDepth 65536 in
theorem w_c80 : (Jvm.Cond.code ⟨"com/example/eurydice/eurydice/model/ClassFileWriter$Pool", "lambda$entry$2", "([ILcom/example/eurydice/eurydice/model/ClassFileWriter$Bytes;)V"⟩ prog_83_method_12_code (6 : Nat) (Option.none : Option Jvm.ClassFile.FieldType)).before args0 about1 = true := code_word (m := ⟨9, 6⟩) (meth := k9m6) (c := k9c6) (by decide +kernel) rfl rfl rfl (by decide +kernel)
set_option maxRecDepth 65536 in
theorem w_c81 : (Jvm.Cond.code ⟨"java/lang/AbstractStringBuilder", "newCapacity", "(I)I"⟩ jdk_68_method_10_code (6 : Nat) (Option.some .int)).before args0 about1 = true := code_word (m := ⟨29, 4⟩) (meth := k29m4) (c := k29c4) (by decide +kernel) rfl rfl rfl (by decide +kernel)
set_option maxRecDepth 65536 in
theorem w_c82 : (Jvm.Cond.code ⟨"jdk/internal/util/ArraysSupport", "newLength", "(III)I"⟩ jdk_48_method_27_code (4 : Nat) (Option.some .int)).before args0 about1 = true := code_word (m := ⟨39, 3⟩) (meth := k39m3) (c := k39c3) (by decide +kernel) rfl rfl rfl (by decide +kernel)
set_option maxRecDepth 65536 in
theorem w_c83 : (Jvm.Cond.code ⟨"java/lang/Math", "max", "(II)I"⟩ jdk_29_method_65_code (2 : Nat) (Option.some .int)).before args0 about1 = true := code_word (m := ⟨35, 1⟩) (meth := k35m1) (c := k35c1) (by decide +kernel) rfl rfl rfl (by decide +kernel)
set_option maxRecDepth 65536 in
theorem w_c84 : (Jvm.Cond.code ⟨"java/util/Arrays", "copyOf", "([BI)[B"⟩ jdk_65_method_121_code (3 : Nat) (Option.some (.array .byte))).before args0 about1 = true := code_word (m := ⟨34, 1⟩) (meth := k34m1) (c := k34c1) (by decide +kernel) rfl rfl rfl (by decide +kernel)
set_option maxRecDepth 65536 in
theorem w_c85 : (Jvm.Cond.code ⟨"com/example/eurydice/eurydice/model/ClassFileWriter$Pool", "writeTo", "(Lcom/example/eurydice/eurydice/model/ClassFileWriter$Bytes;)V"⟩ prog_83_method_8_code (2 : Nat) (Option.none : Option Jvm.ClassFile.FieldType)).before args0 about1 = true := code_word (m := ⟨9, 3⟩) (meth := k9m3) (c := k9c3) (by decide +kernel) rfl rfl rfl (by decide +kernel)
set_option maxRecDepth 65536 in
theorem w_c86 : (Jvm.Cond.code ⟨"com/example/eurydice/eurydice/model/ClassFileWriter$Bytes", "toArray", "()[B"⟩ prog_81_method_10_code (1 : Nat) (Option.some (.array .byte))).before args0 about1 = true := code_word (m := ⟨10, 7⟩) (meth := k10m7) (c := k10c7) (by decide +kernel) rfl rfl rfl (by decide +kernel)
def codes1 : List Jvm.Cond := [Jvm.Cond.code x code maxLocals ret, Jvm.Cond.code ⟨"com/example/eurydice/eurydice/model/ClassFileWriter", "<init>", "(Ljava/lang/String;Ljava/lang/String;)V"⟩ prog_80_method_1_code (3 : Nat) (Option.none : Option Jvm.ClassFile.FieldType), Jvm.Cond.code ⟨"java/lang/Object", "<init>", "()V"⟩ object_method_1_code (1 : Nat) (Option.none : Option Jvm.ClassFile.FieldType), Jvm.Cond.code ⟨"com/example/eurydice/eurydice/model/ClassFileWriter$Pool", "<init>", "()V"⟩ prog_83_method_1_code (1 : Nat) (Option.none : Option Jvm.ClassFile.FieldType), Jvm.Cond.code ⟨"com/example/eurydice/eurydice/model/ClassFileWriter$Bytes", "<init>", "()V"⟩ prog_81_method_1_code (1 : Nat) (Option.none : Option Jvm.ClassFile.FieldType), Jvm.Cond.code ⟨"java/util/HashMap", "<init>", "()V"⟩ jdk_69_method_7_code (1 : Nat) (Option.none : Option Jvm.ClassFile.FieldType), Jvm.Cond.code ⟨"java/util/AbstractMap", "<init>", "()V"⟩ jdk_71_method_1_code (1 : Nat) (Option.none : Option Jvm.ClassFile.FieldType), Jvm.Cond.code ⟨"java/util/Objects", "requireNonNull", "(Ljava/lang/Object;)Ljava/lang/Object;"⟩ jdk_31_method_10_code (1 : Nat) (Option.some (.object "java/lang/Object")), Jvm.Cond.code ⟨"com/example/eurydice/eurydice/model/ClassFileWriter$Code", "<init>", "(Lcom/example/eurydice/eurydice/model/ClassFileWriter;)V"⟩ prog_82_method_1_code (2 : Nat) (Option.none : Option Jvm.ClassFile.FieldType), Jvm.Cond.code ⟨"java/util/ArrayList", "<init>", "()V"⟩ jdk_38_method_2_code (1 : Nat) (Option.none : Option Jvm.ClassFile.FieldType), Jvm.Cond.code ⟨"java/util/AbstractList", "<init>", "()V"⟩ jdk_39_method_1_code (1 : Nat) (Option.none : Option Jvm.ClassFile.FieldType), Jvm.Cond.code ⟨"java/util/AbstractCollection", "<init>", "()V"⟩ jdk_22_method_1_code (1 : Nat) (Option.none : Option Jvm.ClassFile.FieldType), Jvm.Cond.code ⟨"com/example/eurydice/eurydice/model/ClassFileWriter$Code", "op", "(I)V"⟩ prog_82_method_2_code (2 : Nat) (Option.none : Option Jvm.ClassFile.FieldType), Jvm.Cond.code ⟨"com/example/eurydice/eurydice/model/ClassFileWriter$Bytes", "u1", "(I)V"⟩ prog_81_method_3_code (2 : Nat) (Option.none : Option Jvm.ClassFile.FieldType), Jvm.Cond.code ⟨"com/example/eurydice/eurydice/model/ClassFileWriter$Code", "branch", "(I)I"⟩ prog_82_method_13_code (3 : Nat) (Option.some .int), Jvm.Cond.code ⟨"com/example/eurydice/eurydice/model/ClassFileWriter$Bytes", "size", "()I"⟩ prog_81_method_2_code (1 : Nat) (Option.some .int), Jvm.Cond.code ⟨"com/example/eurydice/eurydice/model/ClassFileWriter$Bytes", "u2", "(I)V"⟩ prog_81_method_4_code (2 : Nat) (Option.none : Option Jvm.ClassFile.FieldType), Jvm.Cond.code ⟨"com/example/eurydice/eurydice/model/ClassFileWriter", "method", "(Ljava/lang/String;Ljava/lang/String;Lcom/example/eurydice/eurydice/model/ClassFileWriter$Code;II)V"⟩ prog_80_method_5_code (11 : Nat) (Option.none : Option Jvm.ClassFile.FieldType), Jvm.Cond.code ⟨"java/util/ArrayList", "iterator", "()Ljava/util/Iterator;"⟩ jdk_38_method_55_code (1 : Nat) (Option.some (.object "java/util/Iterator")), Jvm.Cond.code ⟨"java/util/ArrayList$Itr", "<init>", "(Ljava/util/ArrayList;)V"⟩ jdk_49_method_1_code (2 : Nat) (Option.none : Option Jvm.ClassFile.FieldType), Jvm.Cond.code ⟨"java/util/ArrayList$Itr", "hasNext", "()Z"⟩ jdk_49_method_2_code (1 : Nat) (Option.some .boolean), Jvm.Cond.code ⟨"com/example/eurydice/eurydice/model/ClassFileWriter$Pool", "utf8", "(Ljava/lang/String;)I"⟩ prog_83_method_2_code (2 : Nat) (Option.some .int), Jvm.Cond.code ⟨"com/example/eurydice/eurydice/model/ClassFileWriter$Pool", "constant", "(ILjava/lang/String;Ljava/util/function/Consumer;)I"⟩ prog_83_method_11_code (6 : Nat) (Option.some .int), Jvm.Cond.code ⟨"java/lang/StringBuilder", "<init>", "()V"⟩ jdk_67_method_1_code (1 : Nat) (Option.none : Option Jvm.ClassFile.FieldType), Jvm.Cond.code ⟨"java/lang/AbstractStringBuilder", "<init>", "(I)V"⟩ jdk_68_method_2_code (2 : Nat) (Option.none : Option Jvm.ClassFile.FieldType), Jvm.Cond.code ⟨"java/lang/StringBuilder", "append", "(I)Ljava/lang/StringBuilder;"⟩ jdk_67_method_15_code (2 : Nat) (Option.some (.object "java/lang/StringBuilder")), Jvm.Cond.code ⟨"java/lang/AbstractStringBuilder", "append", "(I)Ljava/lang/AbstractStringBuilder;"⟩ jdk_68_method_32_code (4 : Nat) (Option.some (.object "java/lang/AbstractStringBuilder")), Jvm.Cond.code ⟨"java/lang/Integer", "stringSize", "(I)I"⟩ jdk_33_method_13_code (4 : Nat) (Option.some .int), Jvm.Cond.code ⟨"java/lang/AbstractStringBuilder", "ensureCapacityInternal", "(I)V"⟩ jdk_68_method_9_code (3 : Nat) (Option.none : Option Jvm.ClassFile.FieldType), Jvm.Cond.code ⟨"java/lang/AbstractStringBuilder", "isLatin1", "()Z"⟩ jdk_68_method_68_code (1 : Nat) (Option.some .boolean), Jvm.Cond.code ⟨"java/lang/Integer", "getChars", "(II[B)I"⟩ jdk_33_method_12_code (7 : Nat) (Option.some .int), Jvm.Cond.code ⟨"java/lang/StringBuilder", "append", "(Ljava/lang/String;)Ljava/lang/StringBuilder;"⟩ jdk_67_method_7_code (2 : Nat) (Option.some (.object "java/lang/StringBuilder")), Jvm.Cond.code ⟨"java/lang/AbstractStringBuilder", "append", "(Ljava/lang/String;)Ljava/lang/AbstractStringBuilder;"⟩ jdk_68_method_22_code (3 : Nat) (Option.some (.object "java/lang/AbstractStringBuilder")), Jvm.Cond.code ⟨"java/lang/String", "length", "()I"⟩ jdk_42_method_54_code (1 : Nat) (Option.some .int), Jvm.Cond.code ⟨"java/lang/String", "coder", "()B"⟩ jdk_42_method_152_code (1 : Nat) (Option.some .byte), Jvm.Cond.code ⟨"java/lang/AbstractStringBuilder", "putStringAt", "(ILjava/lang/String;)V"⟩ jdk_68_method_73_code (3 : Nat) (Option.none : Option Jvm.ClassFile.FieldType), Jvm.Cond.code ⟨"java/lang/AbstractStringBuilder", "inflateIfNeededFor", "(Ljava/lang/String;)V"⟩ jdk_68_method_71_code (2 : Nat) (Option.none : Option Jvm.ClassFile.FieldType), Jvm.Cond.code ⟨"java/lang/String", "getBytes", "([BIB)V"⟩ jdk_42_method_147_code (4 : Nat) (Option.none : Option Jvm.ClassFile.FieldType), Jvm.Cond.code ⟨"java/lang/StringBuilder", "toString", "()Ljava/lang/String;"⟩ jdk_67_method_42_code (1 : Nat) (Option.some (.object "java/lang/String")), Jvm.Cond.code ⟨"java/lang/String", "<init>", "(Ljava/lang/StringBuilder;)V"⟩ jdk_42_method_53_code (2 : Nat) (Option.none : Option Jvm.ClassFile.FieldType), Jvm.Cond.code ⟨"java/lang/String", "<init>", "(Ljava/lang/AbstractStringBuilder;Ljava/lang/Void;)V"⟩ jdk_42_method_150_code (5 : Nat) (Option.none : Option Jvm.ClassFile.FieldType), Jvm.Cond.code ⟨"java/lang/AbstractStringBuilder", "getValue", "()[B"⟩ jdk_68_method_64_code (1 : Nat) (Option.some (.array .byte)), Jvm.Cond.code ⟨"java/lang/StringBuilder", "length", "()I"⟩ jdk_67_method_93_code (1 : Nat) (Option.some .int), Jvm.Cond.code ⟨"java/lang/AbstractStringBuilder", "length", "()I"⟩ jdk_68_method_6_code (1 : Nat) (Option.some .int), Jvm.Cond.code ⟨"java/util/Arrays", "copyOfRange", "([BII)[B"⟩ jdk_65_method_132_code (3 : Nat) (Option.some (.array .byte)), Jvm.Cond.code ⟨"java/util/Arrays", "copyOfRangeByte", "([BII)[B"⟩ jdk_65_method_133_code (5 : Nat) (Option.some (.array .byte)), Jvm.Cond.code ⟨"java/util/Arrays", "checkLength", "(II)V"⟩ jdk_65_method_131_code (2 : Nat) (Option.none : Option Jvm.ClassFile.FieldType), Jvm.Cond.code ⟨"java/lang/Math", "min", "(II)I"⟩ jdk_29_method_69_code (2 : Nat) (Option.some .int), Jvm.Cond.code ⟨"java/util/HashMap", "get", "(Ljava/lang/Object;)Ljava/lang/Object;"⟩ jdk_69_method_12_code (3 : Nat) (Option.some (.object "java/lang/Object")), Jvm.Cond.code ⟨"java/util/HashMap", "getNode", "(Ljava/lang/Object;)Ljava/util/HashMap$Node;"⟩ jdk_69_method_13_code (8 : Nat) (Option.some (.object "java/util/HashMap$Node")), Jvm.Cond.code ⟨"com/example/eurydice/eurydice/model/ClassFileWriter$Pool", "lambda$utf8$0", "(Ljava/lang/String;Lcom/example/eurydice/eurydice/model/ClassFileWriter$Bytes;)V"⟩ prog_83_method_14_code (2 : Nat) (Option.none : Option Jvm.ClassFile.FieldType), Jvm.Cond.code ⟨"com/example/eurydice/eurydice/model/ClassFileWriter$Bytes", "utf8", "(Ljava/lang/String;)V"⟩ prog_81_method_8_code (5 : Nat) (Option.none : Option Jvm.ClassFile.FieldType), Jvm.Cond.code ⟨"java/lang/String", "charAt", "(I)C"⟩ jdk_42_method_56_code (2 : Nat) (Option.some .char), Jvm.Cond.code ⟨"java/lang/String", "isLatin1", "()Z"⟩ jdk_42_method_154_code (1 : Nat) (Option.some .boolean), Jvm.Cond.code ⟨"java/lang/StringLatin1", "charAt", "([BI)C"⟩ jdk_43_method_2_code (2 : Nat) (Option.some .char), Jvm.Cond.code ⟨"java/lang/String", "checkIndex", "(II)V"⟩ jdk_42_method_155_code (2 : Nat) (Option.none : Option Jvm.ClassFile.FieldType), Jvm.Cond.code ⟨"jdk/internal/util/Preconditions", "checkIndex", "(IILjava/util/function/BiFunction;)I"⟩ jdk_41_method_11_code (3 : Nat) (Option.some .int), Jvm.Cond.code ⟨"com/example/eurydice/eurydice/model/ClassFileWriter$Bytes", "append", "(Lcom/example/eurydice/eurydice/model/ClassFileWriter$Bytes;)V"⟩ prog_81_method_9_code (3 : Nat) (Option.none : Option Jvm.ClassFile.FieldType), Jvm.Cond.code ⟨"java/lang/Integer", "valueOf", "(I)Ljava/lang/Integer;"⟩ jdk_33_method_22_code (1 : Nat) (Option.some (.object "java/lang/Integer")), Jvm.Cond.code ⟨"java/util/HashMap", "put", "(Ljava/lang/Object;Ljava/lang/Object;)Ljava/lang/Object;"⟩ jdk_69_method_15_code (3 : Nat) (Option.some (.object "java/lang/Object")), Jvm.Cond.code ⟨"java/util/HashMap", "hash", "(Ljava/lang/Object;)I"⟩ jdk_69_method_1_code (2 : Nat) (Option.some .int), Jvm.Cond.code ⟨"java/lang/String", "hashCode", "()I"⟩ jdk_42_method_78_code (2 : Nat) (Option.some .int), Jvm.Cond.code ⟨"java/lang/StringLatin1", "hashCode", "([B)I"⟩ jdk_43_method_21_code (1 : Nat) (Option.some .int), Jvm.Cond.code ⟨"jdk/internal/util/ArraysSupport", "vectorizedHashCode", "(Ljava/lang/Object;IIII)I"⟩ jdk_48_method_4_code (5 : Nat) (Option.some .int), Jvm.Cond.code ⟨"jdk/internal/util/ArraysSupport", "signedHashCode", "(I[BII)I"⟩ jdk_48_method_5_code (6 : Nat) (Option.some .int), Jvm.Cond.code ⟨"java/util/HashMap", "putVal", "(ILjava/lang/Object;Ljava/lang/Object;ZZ)Ljava/lang/Object;"⟩ jdk_69_method_16_code (13 : Nat) (Option.some (.object "java/lang/Object")), Jvm.Cond.code ⟨"java/util/HashMap", "resize", "()[Ljava/util/HashMap$Node;"⟩ jdk_69_method_17_code (14 : Nat) (Option.some (.array (.object "java/util/HashMap$Node"))), Jvm.Cond.code ⟨"java/util/HashMap", "newNode", "(ILjava/lang/Object;Ljava/lang/Object;Ljava/util/HashMap$Node;)Ljava/util/HashMap$Node;"⟩ jdk_69_method_46_code (5 : Nat) (Option.some (.object "java/util/HashMap$Node")), Jvm.Cond.code ⟨"java/util/HashMap$Node", "<init>", "(ILjava/lang/Object;Ljava/lang/Object;Ljava/util/HashMap$Node;)V"⟩ jdk_70_method_1_code (5 : Nat) (Option.none : Option Jvm.ClassFile.FieldType), Jvm.Cond.code ⟨"java/util/HashMap", "afterNodeInsertion", "(Z)V"⟩ jdk_69_method_52_code (2 : Nat) (Option.none : Option Jvm.ClassFile.FieldType), Jvm.Cond.code ⟨"java/lang/Integer", "intValue", "()I"⟩ jdk_33_method_27_code (1 : Nat) (Option.some .int), Jvm.Cond.code ⟨"java/util/ArrayList", "isEmpty", "()Z"⟩ jdk_38_method_9_code (1 : Nat) (Option.some .boolean), Jvm.Cond.code ⟨"com/example/eurydice/eurydice/model/ClassFileWriter$Bytes", "u4", "(I)V"⟩ prog_81_method_5_code (2 : Nat) (Option.none : Option Jvm.ClassFile.FieldType), Jvm.Cond.code ⟨"com/example/eurydice/eurydice/model/ClassFileWriter", "toBytes", "()[B"⟩ prog_80_method_9_code (4 : Nat) (Option.some (.array .byte)), Jvm.Cond.code ⟨"com/example/eurydice/eurydice/model/ClassFileWriter$Pool", "classEntry", "(Ljava/lang/String;)I"⟩ prog_83_method_4_code (2 : Nat) (Option.some .int), Jvm.Cond.code ⟨"com/example/eurydice/eurydice/model/ClassFileWriter$Pool", "entry", "(I[I)I"⟩ prog_83_method_10_code (3 : Nat) (Option.some .int), Jvm.Cond.code ⟨"java/util/Arrays", "toString", "([I)Ljava/lang/String;"⟩ jdk_65_method_163_code (4 : Nat) (Option.some (.object "java/lang/String")), Jvm.Cond.code ⟨"java/lang/StringBuilder", "append", "(C)Ljava/lang/StringBuilder;"⟩ jdk_67_method_14_code (2 : Nat) (Option.some (.object "java/lang/StringBuilder")), Jvm.Cond.code ⟨"java/lang/AbstractStringBuilder", "append", "(C)Ljava/lang/AbstractStringBuilder;"⟩ jdk_68_method_31_code (2 : Nat) (Option.some (.object "java/lang/AbstractStringBuilder")), Jvm.Cond.code ⟨"java/lang/StringLatin1", "canEncode", "(C)Z"⟩ jdk_43_method_3_code (1 : Nat) (Option.some .boolean), Jvm.Cond.code ⟨"com/example/eurydice/eurydice/model/ClassFileWriter$Pool", "lambda$entry$2", "([ILcom/example/eurydice/eurydice/model/ClassFileWriter$Bytes;)V"⟩ prog_83_method_12_code (6 : Nat) (Option.none : Option Jvm.ClassFile.FieldType), Jvm.Cond.code ⟨"java/lang/AbstractStringBuilder", "newCapacity", "(I)I"⟩ jdk_68_method_10_code (6 : Nat) (Option.some .int), Jvm.Cond.code ⟨"jdk/internal/util/ArraysSupport", "newLength", "(III)I"⟩ jdk_48_method_27_code (4 : Nat) (Option.some .int), Jvm.Cond.code ⟨"java/lang/Math", "max", "(II)I"⟩ jdk_29_method_65_code (2 : Nat) (Option.some .int), Jvm.Cond.code ⟨"java/util/Arrays", "copyOf", "([BI)[B"⟩ jdk_65_method_121_code (3 : Nat) (Option.some (.array .byte)), Jvm.Cond.code ⟨"com/example/eurydice/eurydice/model/ClassFileWriter$Pool", "writeTo", "(Lcom/example/eurydice/eurydice/model/ClassFileWriter$Bytes;)V"⟩ prog_83_method_8_code (2 : Nat) (Option.none : Option Jvm.ClassFile.FieldType), Jvm.Cond.code ⟨"com/example/eurydice/eurydice/model/ClassFileWriter$Bytes", "toArray", "()[B"⟩ prog_81_method_10_code (1 : Nat) (Option.some (.array .byte))]
set_option maxRecDepth 65536 in
theorem codes_eq : words1.filter isCode = codes1 := rfl
theorem w_codes : ∀ c ∈ words1.filter isCode, c.before args0 about1 = true := by
  rw [codes_eq]
  intro c hc
  simp only [codes1, List.mem_cons, List.not_mem_nil, or_false] at hc
  rcases hc with rfl | rfl | rfl | rfl | rfl | rfl | rfl | rfl | rfl | rfl | rfl | rfl | rfl | rfl | rfl | rfl | rfl | rfl | rfl | rfl | rfl | rfl | rfl | rfl | rfl | rfl | rfl | rfl | rfl | rfl | rfl | rfl | rfl | rfl | rfl | rfl | rfl | rfl | rfl | rfl | rfl | rfl | rfl | rfl | rfl | rfl | rfl | rfl | rfl | rfl | rfl | rfl | rfl | rfl | rfl | rfl | rfl | rfl | rfl | rfl | rfl | rfl | rfl | rfl | rfl | rfl | rfl | rfl | rfl | rfl | rfl | rfl | rfl | rfl | rfl | rfl | rfl | rfl | rfl | rfl | rfl | rfl | rfl | rfl | rfl | rfl | rfl
  · exact w_c0
  · exact w_c1
  · exact w_c2
  · exact w_c3
  · exact w_c4
  · exact w_c5
  · exact w_c6
  · exact w_c7
  · exact w_c8
  · exact w_c9
  · exact w_c10
  · exact w_c11
  · exact w_c12
  · exact w_c13
  · exact w_c14
  · exact w_c15
  · exact w_c16
  · exact w_c17
  · exact w_c18
  · exact w_c19
  · exact w_c20
  · exact w_c21
  · exact w_c22
  · exact w_c23
  · exact w_c24
  · exact w_c25
  · exact w_c26
  · exact w_c27
  · exact w_c28
  · exact w_c29
  · exact w_c30
  · exact w_c31
  · exact w_c32
  · exact w_c33
  · exact w_c34
  · exact w_c35
  · exact w_c36
  · exact w_c37
  · exact w_c38
  · exact w_c39
  · exact w_c40
  · exact w_c41
  · exact w_c42
  · exact w_c43
  · exact w_c44
  · exact w_c45
  · exact w_c46
  · exact w_c47
  · exact w_c48
  · exact w_c49
  · exact w_c50
  · exact w_c51
  · exact w_c52
  · exact w_c53
  · exact w_c54
  · exact w_c55
  · exact w_c56
  · exact w_c57
  · exact w_c58
  · exact w_c59
  · exact w_c60
  · exact w_c61
  · exact w_c62
  · exact w_c63
  · exact w_c64
  · exact w_c65
  · exact w_c66
  · exact w_c67
  · exact w_c68
  · exact w_c69
  · exact w_c70
  · exact w_c71
  · exact w_c72
  · exact w_c73
  · exact w_c74
  · exact w_c75
  · exact w_c76
  · exact w_c77
  · exact w_c78
  · exact w_c79
  · exact w_c80
  · exact w_c81
  · exact w_c82
  · exact w_c83
  · exact w_c84
  · exact w_c85
  · exact w_c86
set_option maxRecDepth 65536 in
theorem w_t1 : (words1.take 24).all (fun c => isCode c || c.before args0 about1) = true := by decide +kernel
set_option maxRecDepth 65536 in
theorem w_t2 : ((words1.drop 24).take 24).all (fun c => isCode c || c.before args0 about1) = true := by decide +kernel
set_option maxRecDepth 65536 in
theorem w_t3 : (((words1.drop 24).drop 24).take 24).all (fun c => isCode c || c.before args0 about1) = true := by decide +kernel
set_option maxRecDepth 65536 in
theorem w_t4 : ((((words1.drop 24).drop 24).drop 24).take 24).all (fun c => isCode c || c.before args0 about1) = true := by decide +kernel
set_option maxRecDepth 65536 in
theorem w_t5 : (((((words1.drop 24).drop 24).drop 24).drop 24).take 24).all (fun c => isCode c || c.before args0 about1) = true := by decide +kernel
set_option maxRecDepth 65536 in
theorem w_t6 : ((((((words1.drop 24).drop 24).drop 24).drop 24).drop 24).take 24).all (fun c => isCode c || c.before args0 about1) = true := by decide +kernel
set_option maxRecDepth 65536 in
theorem w_t7 : (((((((words1.drop 24).drop 24).drop 24).drop 24).drop 24).drop 24).take 24).all (fun c => isCode c || c.before args0 about1) = true := by decide +kernel
set_option maxRecDepth 65536 in
theorem w_t8 : ((((((((words1.drop 24).drop 24).drop 24).drop 24).drop 24).drop 24).drop 24).take 24).all (fun c => isCode c || c.before args0 about1) = true := by decide +kernel
set_option maxRecDepth 65536 in
theorem w_t9 : (((((((((words1.drop 24).drop 24).drop 24).drop 24).drop 24).drop 24).drop 24).drop 24).take 24).all (fun c => isCode c || c.before args0 about1) = true := by decide +kernel
set_option maxRecDepth 65536 in
theorem w_t10 : ((((((((((words1.drop 24).drop 24).drop 24).drop 24).drop 24).drop 24).drop 24).drop 24).drop 24).take 24).all (fun c => isCode c || c.before args0 about1) = true := by decide +kernel
set_option maxRecDepth 65536 in
theorem w_t11 : (((((((((((words1.drop 24).drop 24).drop 24).drop 24).drop 24).drop 24).drop 24).drop 24).drop 24).drop 24).take 24).all (fun c => isCode c || c.before args0 about1) = true := by decide +kernel
set_option maxRecDepth 65536 in
theorem w_t12 : ((((((((((((words1.drop 24).drop 24).drop 24).drop 24).drop 24).drop 24).drop 24).drop 24).drop 24).drop 24).drop 24).take 24).all (fun c => isCode c || c.before args0 about1) = true := by decide +kernel
set_option maxRecDepth 65536 in
theorem w_t13 : (((((((((((((words1.drop 24).drop 24).drop 24).drop 24).drop 24).drop 24).drop 24).drop 24).drop 24).drop 24).drop 24).drop 24).take 24).all (fun c => isCode c || c.before args0 about1) = true := by decide +kernel
set_option maxRecDepth 65536 in
theorem w_t14 : ((((((((((((((words1.drop 24).drop 24).drop 24).drop 24).drop 24).drop 24).drop 24).drop 24).drop 24).drop 24).drop 24).drop 24).drop 24).take 24).all (fun c => isCode c || c.before args0 about1) = true := by decide +kernel
set_option maxRecDepth 65536 in
theorem w_t15 : (((((((((((((((words1.drop 24).drop 24).drop 24).drop 24).drop 24).drop 24).drop 24).drop 24).drop 24).drop 24).drop 24).drop 24).drop 24).drop 24).take 24).all (fun c => isCode c || c.before args0 about1) = true := by decide +kernel
set_option maxRecDepth 65536 in
theorem w_t16 : ((((((((((((((((words1.drop 24).drop 24).drop 24).drop 24).drop 24).drop 24).drop 24).drop 24).drop 24).drop 24).drop 24).drop 24).drop 24).drop 24).drop 24).take 24).all (fun c => isCode c || c.before args0 about1) = true := by decide +kernel
set_option maxRecDepth 65536 in
theorem w_t17 : (((((((((((((((((words1.drop 24).drop 24).drop 24).drop 24).drop 24).drop 24).drop 24).drop 24).drop 24).drop 24).drop 24).drop 24).drop 24).drop 24).drop 24).drop 24).take 24).all (fun c => isCode c || c.before args0 about1) = true := by decide +kernel
set_option maxRecDepth 65536 in
theorem w_t18 : ((((((((((((((((((words1.drop 24).drop 24).drop 24).drop 24).drop 24).drop 24).drop 24).drop 24).drop 24).drop 24).drop 24).drop 24).drop 24).drop 24).drop 24).drop 24).drop 24).take 24).all (fun c => isCode c || c.before args0 about1) = true := by decide +kernel
set_option maxRecDepth 65536 in
theorem w_t19 : (((((((((((((((((((words1.drop 24).drop 24).drop 24).drop 24).drop 24).drop 24).drop 24).drop 24).drop 24).drop 24).drop 24).drop 24).drop 24).drop 24).drop 24).drop 24).drop 24).drop 24).take 24).all (fun c => isCode c || c.before args0 about1) = true := by decide +kernel
set_option maxRecDepth 65536 in
theorem w_t20 : ((((((((((((((((((((words1.drop 24).drop 24).drop 24).drop 24).drop 24).drop 24).drop 24).drop 24).drop 24).drop 24).drop 24).drop 24).drop 24).drop 24).drop 24).drop 24).drop 24).drop 24).drop 24).take 24).all (fun c => isCode c || c.before args0 about1) = true := by decide +kernel
set_option maxRecDepth 65536 in
theorem w_t21 : (((((((((((((((((((((words1.drop 24).drop 24).drop 24).drop 24).drop 24).drop 24).drop 24).drop 24).drop 24).drop 24).drop 24).drop 24).drop 24).drop 24).drop 24).drop 24).drop 24).drop 24).drop 24).drop 24).take 24).all (fun c => isCode c || c.before args0 about1) = true := by decide +kernel
set_option maxRecDepth 65536 in
theorem w_t22 : ((((((((((((((((((((((words1.drop 24).drop 24).drop 24).drop 24).drop 24).drop 24).drop 24).drop 24).drop 24).drop 24).drop 24).drop 24).drop 24).drop 24).drop 24).drop 24).drop 24).drop 24).drop 24).drop 24).drop 24).take 24).all (fun c => isCode c || c.before args0 about1) = true := by decide +kernel
set_option maxRecDepth 65536 in
theorem w_t23 : (((((((((((((((((((((((words1.drop 24).drop 24).drop 24).drop 24).drop 24).drop 24).drop 24).drop 24).drop 24).drop 24).drop 24).drop 24).drop 24).drop 24).drop 24).drop 24).drop 24).drop 24).drop 24).drop 24).drop 24).drop 24).take 24).all (fun c => isCode c || c.before args0 about1) = true := by decide +kernel
set_option maxRecDepth 65536 in
theorem w_t24 : ((((((((((((((((((((((((words1.drop 24).drop 24).drop 24).drop 24).drop 24).drop 24).drop 24).drop 24).drop 24).drop 24).drop 24).drop 24).drop 24).drop 24).drop 24).drop 24).drop 24).drop 24).drop 24).drop 24).drop 24).drop 24).drop 24).take 24).all (fun c => isCode c || c.before args0 about1) = true := by decide +kernel
set_option maxRecDepth 65536 in
theorem w_t25 : ((((((((((((((((((((((((words1.drop 24).drop 24).drop 24).drop 24).drop 24).drop 24).drop 24).drop 24).drop 24).drop 24).drop 24).drop 24).drop 24).drop 24).drop 24).drop 24).drop 24).drop 24).drop 24).drop 24).drop 24).drop 24).drop 24).drop 24).all (fun c => isCode c || c.before args0 about1) = true := by decide +kernel
theorem w_tables : (allAtoms (Jvm.Cond.code x code maxLocals ret :: tables_1)).before args0 about1 = true := by
  rw [allAtoms_all]
  show words1.all (fun c => c.before args0 about1) = true
  refine all_split ?_ w_codes
  rw [← List.take_append_drop 24 words1, List.all_append, w_t1, ← List.take_append_drop 24 (words1.drop 24), List.all_append, w_t2, ← List.take_append_drop 24 ((words1.drop 24).drop 24), List.all_append, w_t3, ← List.take_append_drop 24 (((words1.drop 24).drop 24).drop 24), List.all_append, w_t4, ← List.take_append_drop 24 ((((words1.drop 24).drop 24).drop 24).drop 24), List.all_append, w_t5, ← List.take_append_drop 24 (((((words1.drop 24).drop 24).drop 24).drop 24).drop 24), List.all_append, w_t6, ← List.take_append_drop 24 ((((((words1.drop 24).drop 24).drop 24).drop 24).drop 24).drop 24), List.all_append, w_t7, ← List.take_append_drop 24 (((((((words1.drop 24).drop 24).drop 24).drop 24).drop 24).drop 24).drop 24), List.all_append, w_t8, ← List.take_append_drop 24 ((((((((words1.drop 24).drop 24).drop 24).drop 24).drop 24).drop 24).drop 24).drop 24), List.all_append, w_t9, ← List.take_append_drop 24 (((((((((words1.drop 24).drop 24).drop 24).drop 24).drop 24).drop 24).drop 24).drop 24).drop 24), List.all_append, w_t10, ← List.take_append_drop 24 ((((((((((words1.drop 24).drop 24).drop 24).drop 24).drop 24).drop 24).drop 24).drop 24).drop 24).drop 24), List.all_append, w_t11, ← List.take_append_drop 24 (((((((((((words1.drop 24).drop 24).drop 24).drop 24).drop 24).drop 24).drop 24).drop 24).drop 24).drop 24).drop 24), List.all_append, w_t12, ← List.take_append_drop 24 ((((((((((((words1.drop 24).drop 24).drop 24).drop 24).drop 24).drop 24).drop 24).drop 24).drop 24).drop 24).drop 24).drop 24), List.all_append, w_t13, ← List.take_append_drop 24 (((((((((((((words1.drop 24).drop 24).drop 24).drop 24).drop 24).drop 24).drop 24).drop 24).drop 24).drop 24).drop 24).drop 24).drop 24), List.all_append, w_t14, ← List.take_append_drop 24 ((((((((((((((words1.drop 24).drop 24).drop 24).drop 24).drop 24).drop 24).drop 24).drop 24).drop 24).drop 24).drop 24).drop 24).drop 24).drop 24), List.all_append, w_t15, ← List.take_append_drop 24 (((((((((((((((words1.drop 24).drop 24).drop 24).drop 24).drop 24).drop 24).drop 24).drop 24).drop 24).drop 24).drop 24).drop 24).drop 24).drop 24).drop 24), List.all_append, w_t16, ← List.take_append_drop 24 ((((((((((((((((words1.drop 24).drop 24).drop 24).drop 24).drop 24).drop 24).drop 24).drop 24).drop 24).drop 24).drop 24).drop 24).drop 24).drop 24).drop 24).drop 24), List.all_append, w_t17, ← List.take_append_drop 24 (((((((((((((((((words1.drop 24).drop 24).drop 24).drop 24).drop 24).drop 24).drop 24).drop 24).drop 24).drop 24).drop 24).drop 24).drop 24).drop 24).drop 24).drop 24).drop 24), List.all_append, w_t18, ← List.take_append_drop 24 ((((((((((((((((((words1.drop 24).drop 24).drop 24).drop 24).drop 24).drop 24).drop 24).drop 24).drop 24).drop 24).drop 24).drop 24).drop 24).drop 24).drop 24).drop 24).drop 24).drop 24), List.all_append, w_t19, ← List.take_append_drop 24 (((((((((((((((((((words1.drop 24).drop 24).drop 24).drop 24).drop 24).drop 24).drop 24).drop 24).drop 24).drop 24).drop 24).drop 24).drop 24).drop 24).drop 24).drop 24).drop 24).drop 24).drop 24), List.all_append, w_t20, ← List.take_append_drop 24 ((((((((((((((((((((words1.drop 24).drop 24).drop 24).drop 24).drop 24).drop 24).drop 24).drop 24).drop 24).drop 24).drop 24).drop 24).drop 24).drop 24).drop 24).drop 24).drop 24).drop 24).drop 24).drop 24), List.all_append, w_t21, ← List.take_append_drop 24 (((((((((((((((((((((words1.drop 24).drop 24).drop 24).drop 24).drop 24).drop 24).drop 24).drop 24).drop 24).drop 24).drop 24).drop 24).drop 24).drop 24).drop 24).drop 24).drop 24).drop 24).drop 24).drop 24).drop 24), List.all_append, w_t22, ← List.take_append_drop 24 ((((((((((((((((((((((words1.drop 24).drop 24).drop 24).drop 24).drop 24).drop 24).drop 24).drop 24).drop 24).drop 24).drop 24).drop 24).drop 24).drop 24).drop 24).drop 24).drop 24).drop 24).drop 24).drop 24).drop 24).drop 24), List.all_append, w_t23, ← List.take_append_drop 24 (((((((((((((((((((((((words1.drop 24).drop 24).drop 24).drop 24).drop 24).drop 24).drop 24).drop 24).drop 24).drop 24).drop 24).drop 24).drop 24).drop 24).drop 24).drop 24).drop 24).drop 24).drop 24).drop 24).drop 24).drop 24).drop 24), List.all_append, w_t24, w_t25]
  rfl
set_option maxRecDepth 65536 in
theorem w_rest : rest_1_c.before args0 about1 = true := by decide +kernel
set_option maxRecDepth 65536 in
theorem w_case : (Jvm.Cond.and given_1 narrow_1).before args0 about1 = true := by decide +kernel
set_option maxRecDepth 65536 in
theorem w_consts : constsHeld consts_1 about1 := Jvm.Lit.constsHeldB_iff.mp (by decide +kernel)
theorem w_applies : (headSpec (Jvm.Cond.code x code maxLocals ret :: tables_1) room_1).applies x e0.platform about1 = true :=
  (Spec.applies_iff w_frames).mpr ⟨w_running, w_runnable, w_alone, w_named, w_hears, w_ripe, w_room, w_tables⟩
theorem atStart : AtStart classFile x code maxLocals ret World_1 tables_1 room_1 Calls_1 rest_1 Pre_1 launch0 p0 e0 about1 theMethod args0 below0 :=
  ⟨lists_1, trivial, launch0.admits_env _ _ _, launch0.least_env, fairChoices_fair.cas, fairChoices_fair.clock, w_frames, w_args, w_heap, w_applies, ⟨w_consts, trivial⟩, w_rest, w_case⟩
end start1
theorem witness_1 : WitnessClaimed_1 := ⟨start1.p0, start1.e0, start1.about1, start1.theMethod, start1.args0, start1.below0, start1.atStart⟩
end Jvm.Pilot.@@N@@
