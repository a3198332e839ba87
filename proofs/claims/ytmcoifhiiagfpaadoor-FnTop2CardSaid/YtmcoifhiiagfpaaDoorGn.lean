/-
  What the rendered parts are in memory, and how they read; what a render leaves of the rest. No walk here.
  The law's renderer: what stands between two calls; flush.
  The law's renderer: its state symbol by symbol; joining; the items' cells.
  The law's renderer, walked.
  How great the plain state of brace splitting can grow, braces and all. No walk here.
-/
import Derived.Test.YtmcoifhiiagfpaaDoorGm
import Derived.Test.YtmcoifhiiagfpaaDoorGk
import Derived.Test.YtmcoifhiiagfpaaDoorGl
namespace Go.Proofs.YtmcoifhiiagfpaaDoor
open Go.RowKit
set_option linter.unusedVariables false

/-- A quoted part lies in block q. -/
def SqAt (w : World) (q : Nat) (s : List UInt8) : Prop := s.length ≤ 5 ∧ ∃ (a b c d : Int) (x : Bool), w.heap[q]? = some (.cells #[.int .u32 a, .int .u32 b, .int .u32 c, .int .u32 d, .bool x, strV s] 63 (0, 0))
inductive RParts (w : World) : List Value → List Part → List Sym → Prop
  | nil : RParts w [] [] []
  | lit (q : Nat) (s : ByteArray) (vs : List Value) (ps : List Part) (m : List Sym) (h1 : LitAt w q s) (h2 : RParts w vs ps m) : RParts w (.iface 67 (ptrV q) :: vs) (.lit s :: ps) (s.data.toList.map .b ++ m)
  | sq (q : Nat) (s : List UInt8) (vs : List Value) (ps : List Part) (m : List Sym) (h1 : SqAt w q s) (h2 : RParts w vs ps m) : RParts w (.iface 58 (ptrV q) :: vs) (.other 58 (ptrV q) :: ps) (.o (.other 0 (strV s)) :: m)
theorem RParts.append {w : World} : ∀ {vs : List Value} {ps : List Part} {m : List Sym} {us : List Value} {qs : List Part} {n : List Sym}, RParts w vs ps m → RParts w us qs n → RParts w (vs ++ us) (ps ++ qs) (m ++ n)
  | _, _, _, _, _, _, .nil, h => h
  | _, _, _, _, _, _, .lit q s vs ps m h1 h2, h => by
    rw [List.append_assoc]
    exact .lit q s _ _ _ h1 (RParts.append h2 h)
  | _, _, _, _, _, _, .sq q s vs ps m h1 h2, h => .sq q s _ _ _ h1 (RParts.append h2 h)
theorem RParts.length {w : World} {vs : List Value} {ps : List Part} {m : List Sym} (h : RParts w vs ps m) : vs.length = ps.length := by
  induction h with
  | nil => rfl
  | lit q s vs ps m h1 h2 ih => simp [ih]
  | sq q s vs ps m h1 h2 ih => simp [ih]
theorem RParts.one {w : World} {vs : List Value} {ps : List Part} {m : List Sym} (h : RParts w vs ps m) : ∀ u ∈ vs, u.oneCell' = true := by
  induction h with
  | nil => intro u hu; cases hu
  | lit q s vs ps m h1 h2 ih =>
    intro u hu
    rcases List.mem_cons.1 hu with rfl | hu
    · rfl
    · exact ih u hu
  | sq q s vs ps m h1 h2 ih =>
    intro u hu
    rcases List.mem_cons.1 hu with rfl | hu
    · rfl
    · exact ih u hu
theorem RParts.parts {w : World} {vs : List Value} {ps : List Part} {m : List Sym} (h : RParts w vs ps m) : PartsAt w (fun _ => False) vs ps := by
  induction h with
  | nil => exact .nil
  | lit q s vs ps m h1 h2 ih => exact .cons _ _ _ _ (.lit q s (fun e => e) h1) ih
  | sq q s vs ps m h1 h2 ih => exact .cons _ _ _ _ (.other _ _ (by decide)) ih

/-- Below B, and but for bytes, parts and builders, all is as it was. -/
structure KeptR (B : Nat) (w w' : World) : Prop where
  bel : Below B w w'
  typ : ∀ (k : Nat) (c : Array Value) (T : TypeId) (z : Nat × Nat), w.heap[k]? = some (.cells c T z) → T ≠ 5 → T ≠ 72 → T ≠ 36 → T ≠ 34 → w'.heap[k]? = some (.cells c T z)
theorem KeptR.refl (B : Nat) (w : World) : KeptR B w w := ⟨Below.refl B w, fun _ _ _ _ h _ _ _ _ => h⟩
theorem KeptR.trans {B : Nat} {w w1 w2 : World} (h : KeptR B w w1) (k : KeptR B w1 w2) : KeptR B w w2 := ⟨h.bel.trans k.bel, fun i c T z hi a b d e => k.typ i c T z (h.typ i c T z hi a b d e) a b d e⟩
theorem KeptR.draws {B : Nat} {w w' : World} (h : KeptR B w w') (n : Nat) : KeptR B w (w'.drewN n) := ⟨below_drewN h.bel n, h.typ⟩
theorem KeptR.of_drew {B : Nat} {w w' : World} (h : KeptR B w.drew w') : KeptR B w w' := ⟨⟨h.bel.os, h.bel.tape, h.bel.output, h.bel.size, h.bel.block⟩, h.typ⟩
theorem KeptR.of_below {B : Nat} {w w' : World} (h : Below w.heap.size w w') (hB : B ≤ w.heap.size) : KeptR B w w' := ⟨⟨h.os, h.tape, h.output, h.size, fun k hk => h.block k (by omega)⟩, fun k c T z hk _ _ _ _ => (h.block k (Array.getElem?_eq_some_iff.1 hk).1).trans hk⟩
theorem KeptB.r {B b : Nat} {w w' : World} (h : KeptB B b w w') {c : Array Value} {T : TypeId} (hb : w.heap[b]? = some (.cells c T (0, 0))) (hT : T = 36 ∨ T = 34) : KeptR B w w' :=
  ⟨h.bel, fun k c2 T2 z hk a1 a2 a3 a4 => h.oth k _ hk (fun e => by
    obtain rfl := Option.some.inj e
    rw [hb] at hk
    simp only [Option.some.injEq, Obj.cells.injEq] at hk
    rcases hT with h | h
    · exact a3 (by rw [← hk.2.1, h])
    · exact a4 (by rw [← hk.2.1, h])) (fun c3 fz e => by simp only [Obj.cells.injEq] at e; exact a1 e.2.1)⟩
theorem KeptR.frm {B : Nat} {w w' : World} (h : KeptR B w w') (L : Nat → Prop) : Frm L L w w' := fun k c T hk hT hL => ⟨h.typ k c T _ hk (by rcases hT with h | h | h | h <;> (rw [h]; decide)) (by rcases hT with h | h | h | h <;> (rw [h]; decide)) (by rcases hT with h | h | h | h <;> (rw [h]; decide)) (by rcases hT with h | h | h | h <;> (rw [h]; decide)), hL⟩
theorem SqAt.kept {B : Nat} {w w' : World} (h : KeptR B w w') {q : Nat} {s : List UInt8} (hq : SqAt w q s) : SqAt w' q s := by
  obtain ⟨h0, a, b, c, d, x, h1⟩ := hq
  exact ⟨h0, a, b, c, d, x, h.typ _ _ _ _ h1 (by decide) (by decide) (by decide) (by decide)⟩
theorem LitAt.kept {B : Nat} {w w' : World} (h : KeptR B w w') {q : Nat} {s : ByteArray} (hq : LitAt w q s) : LitAt w' q s := by
  obtain ⟨a, b, c, d, h1⟩ := hq
  exact ⟨a, b, c, d, h.typ _ _ _ _ h1 (by decide) (by decide) (by decide) (by decide)⟩
theorem RParts.kept {B : Nat} {w w' : World} (k : KeptR B w w') {vs : List Value} {ps : List Part} {m : List Sym} (h : RParts w vs ps m) : RParts w' vs ps m := by
  induction h with
  | nil => exact .nil
  | lit q s vs ps m h1 h2 ih => exact .lit q s vs ps m (h1.kept k) ih
  | sq q s vs ps m h1 h2 ih => exact .sq q s vs ps m (h1.kept k) ih

/-! ### Symbols that read alike -/
inductive RSy (w : World) : List Sym → List Sym → Prop
  | nil : RSy w [] []
  | b (c : UInt8) (X m : List Sym) (h : RSy w X m) : RSy w (.b c :: X) (.b c :: m)
  | o (q : Nat) (s : List UInt8) (X m : List Sym) (hq : SqAt w q s) (h : RSy w X m) : RSy w (.o (.other 58 (ptrV q)) :: X) (.o (.other 0 (strV s)) :: m)
theorem RSy.bytes_append {w : World} {X m : List Sym} (h : RSy w X m) : ∀ l : List UInt8, RSy w (l.map .b ++ X) (l.map .b ++ m)
  | [] => h
  | c :: r => .b c _ _ (RSy.bytes_append h r)
theorem RParts.syms {w : World} {vs : List Value} {ps : List Part} {m : List Sym} (h : RParts w vs ps m) : RSy w (symsOf ps) m := by
  induction h with
  | nil => exact .nil
  | lit q s vs ps m h1 h2 ih => exact ih.bytes_append _
  | sq q s vs ps m h1 h2 ih => exact .o q s _ _ h1 ih
theorem RSy.split {w : World} : ∀ {A B X : List Sym}, RSy w X (A ++ B) → ∃ X1 X2, X = X1 ++ X2 ∧ RSy w X1 A ∧ RSy w X2 B
  | [], B, X, h => ⟨[], X, rfl, .nil, h⟩
  | a :: A, B, X, h => by
    cases h with
    | b c X m h =>
      obtain ⟨X1, X2, rfl, h1, h2⟩ := RSy.split h
      exact ⟨_, X2, rfl, .b c _ _ h1, h2⟩
    | o q s X m hq h =>
      obtain ⟨X1, X2, rfl, h1, h2⟩ := RSy.split h
      exact ⟨_, X2, rfl, .o q s _ _ hq h1, h2⟩
theorem RSy.bytes {w : World} : ∀ {l : List UInt8} {X : List Sym}, RSy w X (l.map .b) → X = l.map .b
  | [], X, h => by cases h; rfl
  | c :: r, X, h => by
    cases h with
    | b c X m h => rw [RSy.bytes h]; rfl
theorem RSy.cost {w : World} {X m : List Sym} (h : RSy w X m) : symC X = symC m := by
  induction h with
  | nil => rfl
  | b c X m h ih => simp [symC, ih]
  | o q s X m hq h ih => simp [symC, ih]
def hasB (l : List Sym) : Bool := l.any fun x => match x with | .b c => c == 123 | .o _ => false
theorem RSy.has {w : World} {X m : List Sym} (h : RSy w X m) : hasB X = hasB m := by
  induction h with
  | nil => rfl
  | b c X m h ih => unfold hasB at *; simp [ih]
  | o q s X m hq h ih => unfold hasB at *; simp [ih]
theorem hasB_append (a b : List Sym) : hasB (a ++ b) = (hasB a || hasB b) := by unfold hasB; rw [List.any_append]
theorem hasB_bytes (l : List UInt8) : hasB (l.map .b) = l.contains 123 := by
  induction l with
  | nil => rfl
  | cons c r ih =>
    have e : hasB (.b c :: r.map .b) = (c == 123 || hasB (r.map .b)) := rfl
    rw [List.map_cons, e, ih, List.contains_cons, Bool.beq_comm (a := c)]
theorem any_has : ∀ ps : List Part, ps.any holds = hasB (symsOf ps)
  | [] => rfl
  | .lit s :: r => by rw [List.any_cons, any_has r, symsOf, hasB_append, hasB_bytes]; rfl
  | .brace q es :: r => by rw [List.any_cons, any_has r]; rfl
  | .other t x :: r => by rw [List.any_cons, any_has r]; rfl
def Item.br : Item → Bool
  | .lit _ => false
  | .sq _ _ => false
  | .lst _ => true
  | .seq _ => true
theorem plain_no {s : List UInt8} (h : s.all plainB = true) : s.contains 123 = false := by
  cases hc : s.contains 123 with
  | false => rfl
  | true =>
    rw [List.contains_iff_mem] at hc
    have := List.all_eq_true.1 h _ hc
    exact absurd this (by decide)
theorem has_item (i : Item) (h : okI i = true) : hasB (symI i) = i.br := by
  cases i with
  | lit s =>
    rw [symI, hasB_bytes]
    have h2 : s.all plainB = true := by simp [okI] at h; simpa using h.2
    rw [plain_no h2]
    rfl
  | sq t x => rfl
  | lst es => rfl
  | seq ends => rfl
theorem has_items : ∀ is : List Item, okW is = true → hasB (symW is) = is.any Item.br
  | [], _ => rfl
  | i :: r, h => by
    have h2 : okI i = true ∧ okW r = true := by simpa [okW] using h
    rw [symW, hasB_append, has_item i h2.1, has_items r h2.2, List.any_cons]

/-! ### How they read -/
def qt0 (t : TypeId) : Value → List UInt8
  | .string s => 39 :: (s.data.toList ++ [39])
  | _ => []
def qtW (w : World) (t : TypeId) : Value → List UInt8
  | .pointer (some ⟨q, _, _⟩) => match w.heap[q]? with
    | some (.cells c _ _) => (match (c[5]? : Option Value) with
      | some (Value.string s) => 39 :: (s.data.toList ++ [39])
      | _ => [])
    | _ => []
  | _ => []
theorem qtW_sq {w : World} {q : Nat} {s : List UInt8} (h : SqAt w q s) (t : TypeId) : qtW w t (ptrV q) = 39 :: (s ++ [39]) := by
  obtain ⟨_, a, b, c, d, x, h⟩ := h
  simp [qtW, h, bytesOf]
def GoodO (w : World) (t : TypeId) (x : Value) : Prop := t = 58 ∧ ∃ q s, x = ptrV q ∧ SqAt w q s
open Classical in
noncomputable def badQ (w : World) (t : TypeId) (x : Value) : List UInt8 := if GoodO w t x then [] else [123]
theorem badQ_sq {w : World} {q : Nat} {s : List UInt8} (h : SqAt w q s) : badQ w 58 (ptrV q) = [] := by
  unfold badQ
  rw [if_pos ⟨rfl, q, s, rfl, h⟩]
theorem badQ_good {w : World} {t : TypeId} {x : Value} (h : (123 : UInt8) ∉ badQ w t x) : GoodO w t x := by
  unfold badQ at h
  split at h
  · assumption
  · simp at h
/-- Read from symbols. -/
def serS (qt : TypeId → Value → List UInt8) : List Sym → List UInt8
  | [] => []
  | .b c :: r => c :: serS qt r
  | .o p :: r => serP qt p ++ serS qt r
section
variable (qt : TypeId → Value → List UInt8)
theorem serS_append : ∀ a b : List Sym, serS qt (a ++ b) = serS qt a ++ serS qt b
  | [], b => rfl
  | .b c :: r, b => by rw [List.cons_append, serS, serS, serS_append r b]; rfl
  | .o p :: r, b => by rw [List.cons_append, serS, serS, serS_append r b, List.append_assoc]
theorem serS_bytes (l : List UInt8) : serS qt (l.map .b) = l := by
  induction l with
  | nil => rfl
  | cons c r ih => rw [List.map_cons, serS, ih]
theorem serW_syms : ∀ ps : List Part, serW qt ps = serS qt (symsOf ps)
  | [] => by simp [serW, symsOf, serS]
  | .lit s :: r => by rw [serW, serW_syms r, symsOf, serS_append, serS_bytes, serP]
  | .brace q es :: r => by rw [serW, serW_syms r]; rfl
  | .other t x :: r => by rw [serW, serW_syms r]; rfl
theorem serIW_syms : ∀ is : List Item, is.any Item.br = false → serIW qt is = serS qt (symW is)
  | [], _ => by simp [serIW, symW, serS]
  | i :: r, h => by
    rw [List.any_cons, Bool.or_eq_false_iff] at h
    rw [serIW, serIW_syms r h.2, symW, serS_append]
    cases i with
    | lit s => rw [symI, serS_bytes, serI]
    | sq t x => simp [symI, serS, serI, serP]
    | lst es => exact absurd h.1 (by simp [Item.br])
    | seq es => exact absurd h.1 (by simp [Item.br])
end

mutual
theorem lift_I {w : World} : ∀ (i : Item), okI i = true → ∀ {X : List Sym}, RSy w X (symI i) → ∃ i2, symI i2 = X ∧ okI i2 = true ∧ serI (qtW w) i2 = serI qt0 i ∧ (123 : UInt8) ∉ serI (badQ w) i2
  | .lit s, hok, X, h => by
    have e := RSy.bytes (l := s) (by simpa [symI] using h)
    refine ⟨.lit s, by rw [symI, e], hok, by simp [serI], ?_⟩
    have h2 : s.all plainB = true := by simp [okI] at hok; simpa using hok.2
    have := plain_no h2
    rw [serI]
    intro hm
    rw [← List.contains_iff_mem, this] at hm
    cases hm
  | .sq t x, hok, X, h => by
    rw [symI] at h
    cases h with
    | o q s X m hq h =>
      cases h
      exact ⟨.sq 58 (ptrV q), by simp [symI], rfl, by rw [serI, serI, qtW_sq hq]; rfl, by rw [serI, badQ_sq hq]; simp⟩
  | .lst es, hok, X, h => by
    rw [symI] at h
    cases h with
    | b c X m h =>
      obtain ⟨X1, X2, rfl, h1, h2⟩ := h.split
      have hok2 : 2 ≤ es.length ∧ okE es = true := by simpa [okI] using hok
      obtain ⟨es2, e1, e2, e3, e4, e5⟩ := lift_E es hok2.2 h1
      have e6 := RSy.bytes (l := [125]) h2
      refine ⟨.lst es2, by rw [symI, e1, e6]; rfl, by simp [okI, e2, e3, hok2.1], by rw [serI, serI, e4], ?_⟩
      rw [serI]
      intro hm
      simp at hm
      exact e5 hm
  | .seq ends, hok, X, h => by
    have e : RSy w X (([123] ++ ((match ends with | [] => [] | a :: r => a ++ r.flatMap fun e => 46 :: 46 :: e) ++ [125]) : List UInt8).map .b) := by
      have e2 : symI (.seq ends) = ([123] ++ ((match ends with | [] => [] | a :: r => a ++ r.flatMap fun e => 46 :: 46 :: e) ++ [125]) : List UInt8).map .b := by
        cases ends with
        | nil => rfl
        | cons a r => simp [symI, List.map_flatMap]
      rw [← e2]
      exact h
    have e2 := RSy.bytes e
    refine ⟨.seq ends, ?_, hok, by simp [serI], ?_⟩
    · rw [e2]
      cases ends with
      | nil => rfl
      | cons a r => simp [symI, List.map_flatMap]
    · match ends, hok with
      | [a, b], hok =>
        simp [okI] at hok
        have h1 := plain_no (s := a) (by simpa using hok.1.1.1.2)
        have h2 := plain_no (s := b) (by simpa using hok.1.2)
        rw [serI]
        intro hm
        simp at hm
        rcases hm with hm | hm
        · rw [← List.contains_iff_mem, h1] at hm; cases hm
        · rw [← List.contains_iff_mem, h2] at hm; cases hm
      | [a, b, c], hok =>
        simp [okI] at hok
        have h1 := plain_no (s := a) (by simpa using hok.1.1.1.1.1.2)
        have h2 := plain_no (s := b) (by simpa using hok.1.1.1.2)
        have h3 := plain_no (s := c) (by simpa using hok.1.2)
        rw [serI]
        intro hm
        simp at hm
        rcases hm with hm | hm | hm
        · rw [← List.contains_iff_mem, h1] at hm; cases hm
        · rw [← List.contains_iff_mem, h2] at hm; cases hm
        · rw [← List.contains_iff_mem, h3] at hm; cases hm
theorem lift_W {w : World} : ∀ (is : List Item), okW is = true → ∀ {X : List Sym}, RSy w X (symW is) → ∃ is2, symW is2 = X ∧ okW is2 = true ∧ serIW (qtW w) is2 = serIW qt0 is ∧ (123 : UInt8) ∉ serIW (badQ w) is2
  | [], _, X, h => by
    rw [symW] at h
    cases h
    exact ⟨[], rfl, rfl, rfl, by simp [serIW]⟩
  | i :: r, hok, X, h => by
    rw [symW] at h
    have h2 : okI i = true ∧ okW r = true := by simpa [okW] using hok
    obtain ⟨X1, X2, rfl, a, b⟩ := h.split
    obtain ⟨i2, e1, e2, e3, e4⟩ := lift_I i h2.1 a
    obtain ⟨r2, f1, f2, f3, f4⟩ := lift_W r h2.2 b
    refine ⟨i2 :: r2, by rw [symW, e1, f1], by simp [okW, e2, f2], by rw [serIW, serIW, e3, f3], ?_⟩
    rw [serIW]
    intro hm
    rcases List.mem_append.1 hm with hm | hm
    · exact e4 hm
    · exact f4 hm
theorem lift_E {w : World} : ∀ (es : List (List Item)), okE es = true → ∀ {X : List Sym}, RSy w X (symE es) → ∃ es2, symE es2 = X ∧ es2.length = es.length ∧ okE es2 = true ∧ serIE (qtW w) es2 = serIE qt0 es ∧ (123 : UInt8) ∉ serIE (badQ w) es2
  | [], _, X, h => by
    rw [symE] at h
    cases h
    exact ⟨[], rfl, rfl, rfl, rfl, by simp [serIE]⟩
  | i :: r, hok, X, h => by
    rw [symE] at h
    have h2 : okW i = true ∧ okE r = true := by simpa [okE] using hok
    obtain ⟨X1, X2, rfl, a, b⟩ := h.split
    obtain ⟨i2, e1, e2, e3, e4⟩ := lift_W i h2.1 a
    obtain ⟨r2, f1, f0, f2, f3, f4⟩ := lift_ER r h2.2 b
    refine ⟨i2 :: r2, by rw [symE, e1, f1], by simp [f0], by simp [okE, e2, f2], by rw [serIE, serIE, e3, f3], ?_⟩
    rw [serIE]
    intro hm
    rcases List.mem_append.1 hm with hm | hm
    · exact e4 hm
    · exact f4 hm
theorem lift_ER {w : World} : ∀ (es : List (List Item)), okE es = true → ∀ {X : List Sym}, RSy w X (symER es) → ∃ es2, symER es2 = X ∧ es2.length = es.length ∧ okE es2 = true ∧ serIR (qtW w) es2 = serIR qt0 es ∧ (123 : UInt8) ∉ serIR (badQ w) es2
  | [], _, X, h => by
    rw [symER] at h
    cases h
    exact ⟨[], rfl, rfl, rfl, rfl, by simp [serIR]⟩
  | i :: r, hok, X, h => by
    rw [symER] at h
    have h2 : okW i = true ∧ okE r = true := by simpa [okE] using hok
    cases h with
    | b c X m h =>
      obtain ⟨X1, X2, rfl, a, b⟩ := h.split
      obtain ⟨i2, e1, e2, e3, e4⟩ := lift_W i h2.1 a
      obtain ⟨r2, f1, f0, f2, f3, f4⟩ := lift_ER r h2.2 b
      refine ⟨i2 :: r2, by rw [symER, e1, f1], by simp [f0], by simp [okE, e2, f2], by rw [serIR, serIR, e3, f3], ?_⟩
      rw [serIR]
      intro hm
      rcases List.mem_cons.1 hm with hm | hm
      · exact absurd hm (by decide)
      rcases List.mem_append.1 hm with hm | hm
      · exact e4 hm
      · exact f4 hm
end

/-- The word as it is rendered, split (or left): it reads as the items do, and its opaque parts are what they were. -/
theorem split_reads {w : World} {vs : List Value} {ps : List Part} {is : List Item} (h : RParts w vs ps (symW is)) (hN : Neat ps) (hok : okW is = true) {ps2 : List Part} (hs : (ps.any holds = false ∧ ps2 = ps) ∨ ps2 = split ps) : serW (qtW w) ps2 = serIW qt0 is ∧ (123 : UInt8) ∉ serW (badQ w) ps2 := by
  obtain ⟨is2, e1, e2, e3, e4⟩ := lift_W is hok h.syms
  rcases hs with ⟨h1, rfl⟩ | rfl
  · rw [any_has, h.syms.has] at h1
    have h2 : is2.any Item.br = false := by rw [← has_items is2 e2, e1, h.syms.has, h1]
    have k : ∀ qt, serW qt ps2 = serIW qt is2 := fun qt => by rw [serW_syms, serIW_syms qt is2 h2, e1]
    rw [k, k]
    exact ⟨e3, e4⟩
  · rw [items_split hN e1.symm e2, items_split hN e1.symm e2]
    exact ⟨e3, e4⟩
theorem any_br {w : World} {vs : List Value} {ps : List Part} {is : List Item} (h : RParts w vs ps (symW is)) (hok : okW is = true) : ps.any holds = is.any Item.br := by
  rw [any_has, h.syms.has, has_items is hok]

/-! ### How great it is -/
theorem neat_sz {ps : List Part} (h : Neat ps) : 19 * sz ps + 20 * ps.length ≤ 19 * symC (symsOf ps) + 39 := by
  induction h with
  | nil => simp [sz]
  | lit s h1 h2 =>
    have e : symC (symsOf [.lit s]) = s.size := by
      rw [symsOf, symsOf, List.append_nil, symC_bytes, Array.length_toList]
      rfl
    have e2 : sz [Part.lit s] = 1 + s.size := by simp [sz, psz]
    rw [e, e2]
    simp
    omega
  | litO s p r h1 h2 h3 h ih =>
    have e : symC (symsOf (.lit s :: p :: r)) = s.size + (5 + symC (symsOf r)) := by
      rw [symsOf, symsOf_other p r h3, symC_append, symC_bytes, Array.length_toList, symC]
      rfl
    have e3 : psz p = 1 := by
      cases p with
      | lit q => exact absurd rfl (h3 q)
      | brace _ _ => rfl
      | other _ _ => rfl
    have e2 : sz (Part.lit s :: p :: r) = 1 + s.size + (1 + sz r) := by rw [sz_cons, sz_cons, e3]; rfl
    rw [e, e2]
    simp
    omega
  | other p r h3 h ih =>
    have e : symC (symsOf (p :: r)) = 5 + symC (symsOf r) := by rw [symsOf_other p r h3, symC]
    have e3 : psz p = 1 := by
      cases p with
      | lit q => exact absurd rfl (h3 q)
      | brace _ _ => rfl
      | other _ _ => rfl
    rw [e, sz_cons, e3]
    simp
    omega
theorem RParts.bound {w : World} {vs : List Value} {ps : List Part} {m : List Sym} (h : RParts w vs ps m) (hN : Neat ps) (hC : symC m ≤ 5243000) : 19 * sz ps + 20 * ps.length + 100 ≤ 100000000 := by
  have := neat_sz hN
  have := h.syms.cost
  omega
end Go.Proofs.YtmcoifhiiagfpaaDoor

namespace Go.Proofs.YtmcoifhiiagfpaaDoor
open Go.RowKit
set_option linter.unusedVariables false

section
variable {B b : Nat} {pv : Value} {l : List UInt8} {w w' : World}
theorem FB.cell0 (h : FB B b pv l w) : w.cell? ⟨b, 0, none⟩ = some pv := by
  obtain ⟨_, p, v, hb, _⟩ := h
  rw [Lib.cell_of_heap hb]
  rfl
theorem FB.frz (h : FB B b pv l w) : w.frozen? ⟨b, 0, none⟩ = false := by
  obtain ⟨_, p, v, hb, _⟩ := h
  exact Lib.frozen_of_heap hb 0
theorem FB.blk (h : FB B b pv l w) : ∃ c, w.heap[b]? = some (.cells c 36 (0, 0)) := by
  obtain ⟨_, p, v, hb, _⟩ := h
  exact ⟨_, hb⟩
theorem FB.grown {row : Option Nat} (h : FB B b pv l w) (hg : w.grownBy w' row) (hr : ∀ k, row = some k → ∃ c, w.heap[k]? = some (.cells c 72 (0, 0))) : FB B b pv l w' := by
  have hbl := h.lt
  obtain ⟨hB, p, v, hb, hp, hown⟩ := h
  refine ⟨hB, p, v, (hg.block b hbl (fun e => ?_)).trans hb, hp, ⟨hown.1, ?_⟩⟩
  · obtain ⟨c, hc⟩ := hr b e.symm
    rw [hb] at hc
    simp only [Option.some.injEq, Obj.cells.injEq, and_true] at hc
    exact absurd hc.2 (by decide)
  · rcases hown.2 with hn | ⟨g, cap, cur, fz, hv, hbg, hgg, rest⟩
    · exact Or.inl hn
    · refine Or.inr ⟨g, cap, cur, fz, hv, hbg, (hg.block g (Array.getElem?_eq_some_iff.1 hgg).1 (fun e => ?_)).trans hgg, rest⟩
      obtain ⟨c, hc⟩ := hr g e.symm
      rw [hgg] at hc
      simp only [Option.some.injEq, Obj.cells.injEq] at hc
      exact absurd hc.2.1 (by decide)
theorem below_grown (h : Below w.heap.size w w') : w.grownBy w' none := ⟨h.os, h.tape, h.output, h.size, fun k hk _ => h.block k hk⟩
theorem FB.below (h : FB B b pv l w) (hb : Below w.heap.size w w') : FB B b pv l w' := h.grown (below_grown hb) (fun k e => by cases e)
theorem FB.setp (h : FB B b pv l w) (pv' : Value) : FB B b pv' l (w.setCell ⟨b, 0, none⟩ pv') := by
  obtain ⟨hB, p, v, hb, hp, hown⟩ := h
  rw [← Lib.byteCells_length l] at hown
  have h2 := fown hB hb hown pv' 0
  rw [Lib.byteCells_length] at h2
  refine ⟨hB, p, v, ?_, hp, h2⟩
  rw [heap_setCell_same _ _ _ _ _ _ hb]
  rfl
theorem own_keptB (hk : KeptB B b w w') {c : Array Value} (hb : w.heap[b]? = some (.cells c 36 (0, 0))) {v : Value} {n : Nat} {xs : List Value} (h : w.ownsRow B 72 1 v n xs) : w'.ownsRow B 72 1 v n xs := by
  refine ⟨h.1, ?_⟩
  rcases h.2 with hn | ⟨g, cap, cur, hv, hbg, hgg, rest⟩
  · exact Or.inl hn
  · refine Or.inr ⟨g, cap, cur, hv, hbg, hk.oth g _ hgg (fun e => ?_) (fun c3 fz e => ?_), rest⟩
    · obtain rfl := Option.some.inj e
      rw [hb] at hgg
      simp only [Option.some.injEq, Obj.cells.injEq, and_true] at hgg
      exact absurd hgg.2 (by decide)
    · simp only [Obj.cells.injEq] at e
      exact absurd e.2.1 (by decide)
theorem KeptR.of_grown {row : Option Nat} (hg : w.grownBy w' row) (hB : B ≤ w.heap.size) (h : ∀ k, row = some k → B ≤ k ∧ ∃ c, w.heap[k]? = some (.cells c 72 (0, 0))) : KeptR B w w' :=
  ⟨⟨hg.os, hg.tape, hg.output, hg.size, fun k hk => hg.block k (by omega) (fun e => by have := (h k e.symm).1; omega)⟩, fun k c T z hk _ a2 _ _ => (hg.block k (Array.getElem?_eq_some_iff.1 hk).1 (fun e => by
    obtain ⟨_, c2, hc⟩ := h k e.symm
    rw [hk] at hc
    simp only [Option.some.injEq, Obj.cells.injEq] at hc
    exact a2 hc.2.1)).trans hk⟩
theorem KeptR.of_set {c : Array Value} {T : TypeId} (hb : w.heap[b]? = some (.cells c T (0, 0))) (hT : T = 36 ∨ T = 34) (hB : B ≤ b) (o : Nat) (v : Value) : KeptR B w (w.setCell ⟨b, o, none⟩ v) :=
  ⟨(Below.refl B w).setCell (p := ⟨b, o, none⟩) hB v, fun k c2 T2 z hk _ _ a3 a4 => (Below.heap_setCell _ _ _ _ (fun e => by
    subst e
    rw [hb] at hk
    simp only [Option.some.injEq, Obj.cells.injEq] at hk
    rcases hT with h | h
    · exact a3 (by rw [← hk.2.1, h])
    · exact a4 (by rw [← hk.2.1, h]))).trans hk⟩
theorem KeptB.of_drew (h : KeptB B b w.drew w') : KeptB B b w w' := ⟨⟨h.bel.os, h.bel.tape, h.bel.output, h.bel.size, h.bel.block⟩, h.oth⟩
end

/-- The renderer's block b: parts laid down, bytes in hand. -/
structure RX (B b : Nat) (pv : Value) (l : List UInt8) (vals : List Value) (ps : List Part) (m : List Sym) (w : World) : Prop where
  fb : FB B b pv l w
  own : w.ownsRow B 72 1 pv vals.length vals
  rp : RParts w vals ps m
section
variable {B b : Nat} {pv : Value} {l l' : List UInt8} {vals : List Value} {ps : List Part} {m m' : List Sym} {w w1 w4 W : World}
theorem RX.hB (h : RX B b pv l vals ps m w) : B ≤ w.heap.size := by
  have := h.fb.lt
  have := h.fb.1
  omega
theorem RX.bytes (h : RX B b pv l vals ps m w) (hf : FB B b pv l' w1) (hk : KeptB B b w w1) : RX B b pv l' vals ps m w1 ∧ KeptR B w w1 := by
  obtain ⟨c, hc⟩ := h.fb.blk
  have k := hk.r hc (Or.inl rfl)
  exact ⟨⟨hf, own_keptB hk hc h.own, h.rp.kept k⟩, k⟩
theorem RX.below (h : RX B b pv l vals ps m w) (hW : Below w.heap.size w W) : RX B b pv l vals ps m W :=
  ⟨h.fb.below hW, h.own.kept (below_grown hW) (by cases pv.ownBlock <;> simp), h.rp.kept (KeptR.of_below hW h.hB)⟩
theorem RX.push (h : RX B b pv l vals ps m w1) (hW : Below w1.heap.size w1 W) {x : Value} {p : Part} (hx : RParts W [x] [p] m') {g cap : Nat} (hown : w4.ownsRow B 72 1 (.slice (some ⟨g, 0, none⟩) (vals.length + 1) cap) (vals.length + 1) (vals ++ [x])) (hg : W.grownBy w4 pv.ownBlock) :
    RX B b (.slice (some ⟨g, 0, none⟩) (vals.length + 1) cap) l (vals ++ [x]) (ps ++ [p]) (m ++ m') (w4.setCell ⟨b, 0, none⟩ (.slice (some ⟨g, 0, none⟩) (vals.length + 1) cap)) ∧ KeptR B w1 (w4.setCell ⟨b, 0, none⟩ (.slice (some ⟨g, 0, none⟩) (vals.length + 1) cap)) := by
  have hW1 := h.below hW
  have hfb4 : FB B b pv l w4 := hW1.fb.grown hg (fun k e => (own_blk hW1.own e).2)
  have k1 : KeptR B w1 W := KeptR.of_below hW h.hB
  have k2 : KeptR B W w4 := KeptR.of_grown hg hW1.hB (fun k e => own_blk hW1.own e)
  obtain ⟨c4, hb4⟩ := hfb4.blk
  have k3 : KeptR B w4 (w4.setCell ⟨b, 0, none⟩ (.slice (some ⟨g, 0, none⟩) (vals.length + 1) cap)) := KeptR.of_set hb4 (Or.inl rfl) hfb4.1 _ _
  have kk := k2.trans k3
  refine ⟨⟨hfb4.setp _, ?_, (h.rp.kept (k1.trans kk)).append (hx.kept kk)⟩, k1.trans kk⟩
  rw [List.length_append]
  refine hown.kept (row := some b) kept_set.grown (Or.inr (fun e => ?_))
  have hgb : g = b := by simpa [Value.ownBlock] using e
  obtain ⟨_, c, hc⟩ := own_blk hown rfl
  rw [hgb, hb4] at hc
  simp only [Option.some.injEq, Obj.cells.injEq, and_true] at hc
  exact absurd hc.2 (by decide)
/-- Behind the append: the block of the builder is as it was. -/
theorem RX.mid (h : RX B b pv l vals ps m w1) (hW : Below w1.heap.size w1 W) (hg : W.grownBy w4 pv.ownBlock) : FB B b pv l w4 := (h.below hW).fb.grown hg (fun k e => (own_blk (h.below hW).own e).2)
end
theorem cell_two_new (w : World) (o : Obj) (v : Value) (T : TypeId) : ∀ (j : Nat) (u : Value), [v][j]? = some u → ((w.alloc o).alloc (.cells #[v] T)).cell? (Addr.add ⟨w.heap.size + 1, 0, none⟩ j) = some u := by
  have h := cell_one_new (w.alloc o) v T
  rw [World.size_alloc] at h
  exact h
theorem Tryd.info_part2 : (Tryd.prog.info? 72).map (fun i => (i.zero, i.size, i.bytes)) = some (some .nilIface, 1, 16) := by kernel_rfl
theorem below_two (w : World) (o o2 : Obj) : Below w.heap.size w ((w.alloc o).alloc o2) := ((Below.refl w.heap.size w).alloc (Nat.le_refl _) o).alloc (by simp) o2
theorem rlit_new (w : World) (s : ByteArray) (o2 : Obj) : RParts ((w.alloc (.cells #[.int .u32 0, .int .u32 0, .int .u32 0, .int .u32 0, .string s] 69)).alloc o2) [.iface 67 (ptrV w.heap.size)] [.lit s] (s.data.toList.map .b) := by
  have h : LitAt ((w.alloc (.cells #[.int .u32 0, .int .u32 0, .int .u32 0, .int .u32 0, .string s] 69)).alloc o2) w.heap.size s := ⟨0, 0, 0, 0, (Lib.alloc_old _ _ _ (by simp)).trans (heap_alloc_new w _)⟩
  have := RParts.lit w.heap.size s [] [] [] h .nil
  rwa [List.append_nil] at this
theorem sq_new (w : World) (s : List UInt8) (hs : s.length ≤ 5) (o2 : Obj) : RParts ((w.alloc (.cells #[.int .u32 0, .int .u32 0, .int .u32 0, .int .u32 0, .bool false, strV s] 63)).alloc o2) [.iface 58 (ptrV w.heap.size)] [.other 58 (ptrV w.heap.size)] [.o (.other 0 (strV s))] :=
  .sq w.heap.size s [] [] [] ⟨hs, 0, 0, 0, 0, false, (Lib.alloc_old _ _ _ (by simp)).trans (heap_alloc_new w _)⟩ .nil

/-- What flush leaves. -/
def FlOut (B b : Nat) (l : List UInt8) (vals : List Value) (ps : List Part) (m : List Sym) (w : World) (e : Ending) (w' : World) : Prop :=
  e = .returned (.tuple #[]) ∧ ∃ pv' vals', RX B b pv' [] vals' (ps ++ if l = [] then [] else [.lit (bytesOf l)]) (m ++ l.map .b) w' ∧ KeptR B w w' ∧ vals'.length ≤ vals.length + 1
theorem fl_out {B b : Nat} {l : List UInt8} {vals : List Value} {ps : List Part} {m : List Sym} {w w' : World} {pv' x : Value} (h0 : l ≠ []) (h : RX B b pv' [] (vals ++ [x]) (ps ++ [.lit (bytesOf l)]) (m ++ l.map .b) w') (k : KeptR B w w') : FlOut B b l vals ps m w (.returned (.tuple #[])) w' :=
  ⟨rfl, pv', vals ++ [x], by rw [if_neg h0]; exact h, k, by simp⟩
set_option maxRecDepth 100000 in
set_option maxHeartbeats 2000000 in
theorem flush_any (B b : Nat) (pv : Value) (l : List UInt8) (vals : List Value) (ps : List Part) (m : List Sym) (w : World) (h : RX B b pv l vals ps m w) (hl : l.length ≤ 100000000) (hv : vals.length ≤ 100000000) :
    Calls Tryd.prog 7 #[.pointer (some ⟨b, 0, none⟩)] w (FlOut B b l vals ps m w) := by
  obtain ⟨ib, hib, hb0, hb1, hb2⟩ := info_parts Tryd.info_part2
  have c0 := h.fb.cell0
  have f0 := h.fb.frz
  have hlt := h.fb.lt
  have HX := Lib.hid h
  have HL := Lib.hid hl
  have HV := Lib.hid hv
  have HLEN := Lib.hid (flen B b pv l w h.fb hl)
  by_cases h0 : l = []
  · have hz : (l.length : Int) = 0 := by rw [h0]; rfl
    have H0 := Lib.hid h0
    clear h hl hv h0
    go_enter Tryd.func7, Tryd.ntmps7
    go_wp2_with (go_at_call 19; refine HLEN.out.mono ?_; rintro e w1 ⟨rfl, rfl⟩; rw [hz])
    go_end0
    refine ⟨rfl, pv, vals, ?_, KeptR.refl B _, by omega⟩
    rw [if_pos H0.out, H0.out]
    have := HX.out
    rw [H0.out] at this
    simpa using this
  · obtain ⟨n, hz, hn⟩ : ∃ n : Nat, (l.length : Int) = (n : Int) ∧ (0 : Int) < (n : Int) := ⟨l.length, rfl, by have := List.length_pos_iff.2 h0; omega⟩
    have H0 := Lib.hid h0
    have HSTR := Lib.hid (fstring B b pv l w.drew h.fb h0 hl)
    clear h hl hv h0
    go_enter Tryd.func7, Tryd.ntmps7
    go_upto_region 1 with (go_at_call 19; refine HLEN.out.mono ?_; rintro e w1 ⟨rfl, rfl⟩; rw [hz])
    go_region_law (first
      | (go_simp; go_at_call 11; refine HSTR.out.mono ?_; rintro e w1 ⟨rfl, a1, a2⟩; have H1 := Lib.hid (HX.out.bytes a1 a2.of_drew); have c1 : w1.cell? ⟨b, 0, none⟩ = some pv := a1.cell0; have hlt1 : b < w1.heap.size := a1.lt; clear a1 a2)
      | (refine step_append_lies _ rfl _ _ 31 rfl B 72 ib .nilIface 1 16 Tryd.underlying31 hib hb0 hb1 hb2 rfl (by decide) _ _ _ rfl ((H1.out.1.own.alloc _).alloc _) ⟨w1.heap.size + 1, 0, none⟩ 1 1 [.iface 67 (.pointer (some ⟨w1.heap.size, 0, none⟩))] rfl rfl (cell_two_new _ _ _ _) (by intro u hu; simp at hu; subst hu; rfl) (by decide) (by have := HV.out; unfold maxLen; omega) (by have := HV.out; omega) (by have := H1.out.1.hB; simp; omega) _ rfl ?_; intro g cap w4 hown hgrow hat _; have H4 := Lib.hid (H1.out.1.push (below_two w1 _ _) (rlit_new w1 _ _) hown hgrow); have HM := Lib.hid (H1.out.1.mid (below_two w1 _ _) hgrow); have c4 : w4.cell? ⟨b, 0, none⟩ = some pv := HM.out.cell0; have f4 : w4.frozen? ⟨b, 0, none⟩ = false := HM.out.frz; clear hown hgrow hat))
    all_goals
      go_wp2_with (go_at_call 20; refine (freset B b _ l _ H4.out.1.fb).mono ?_; rintro e w5 ⟨rfl, a1, a2⟩; have H5 := Lib.hid (H4.out.1.bytes a1 a2); clear a1 a2)
      go_end0
      exact fl_out H0.out H5.out.1 (H1.out.2.trans (H4.out.2.trans H5.out.2))
end Go.Proofs.YtmcoifhiiagfpaaDoor

namespace Go.Proofs.YtmcoifhiiagfpaaDoor
open Go.RowKit
set_option linter.unusedVariables false

abbrev NoL : Nat → Prop := fun _ => False
/-- The renderer's state: these symbols are rendered. -/
structure RS (B b : Nat) (M : List Sym) (w : World) : Prop where
  ex : ∃ pv l vals ps m, RX B b pv l vals ps m w ∧ (∀ r, Neat r → Neat (ps ++ r)) ∧ (∀ x ∈ l, x.toNat ≠ 92) ∧ M = m ++ l.map .b
/-- .. and no byte in hand. -/
structure RF (B b : Nat) (M : List Sym) (w : World) : Prop where
  ex : ∃ pv vals ps, RX B b pv [] vals ps M w ∧ Neat ps ∧ (∀ p, (∀ q, p ≠ .lit q) → ∀ r, Neat r → Neat (ps ++ p :: r)) ∧ vals.length ≤ 100000000
theorem kept_drew (B : Nat) (w : World) : KeptR B w w.drew := ⟨⟨rfl, rfl, rfl, Nat.le_refl _, fun _ _ => rfl⟩, fun _ _ _ _ h _ _ _ _ => h⟩
theorem RX.drew {B b : Nat} {pv : Value} {l : List UInt8} {vals : List Value} {ps : List Part} {m : List Sym} {w : World} (h : RX B b pv l vals ps m w) : RX B b pv l vals ps m w.drew := ⟨h.fb, h.own, h.rp.kept (kept_drew B w)⟩
theorem RS.drew {B b : Nat} {M : List Sym} {w : World} (h : RS B b M w) : RS B b M w.drew := by
  obtain ⟨pv, l, vals, ps, m, hx, r⟩ := h.ex
  exact ⟨⟨pv, l, vals, ps, m, hx.drew, r⟩⟩
theorem RS.below {B b : Nat} {M : List Sym} {w w' : World} (h : RS B b M w) (hW : Below w.heap.size w w') : RS B b M w' := by
  obtain ⟨pv, l, vals, ps, m, hx, r⟩ := h.ex
  exact ⟨⟨pv, l, vals, ps, m, hx.below hW, r⟩⟩
theorem RS.hB {B b : Nat} {M : List Sym} {w : World} (h : RS B b M w) : B ≤ w.heap.size := by
  obtain ⟨pv, l, vals, ps, m, hx, r⟩ := h.ex
  exact hx.hB
theorem RS.str {B b : Nat} {M : List Sym} {w : World} (h : RS B b M w) (s : List UInt8) (hs : ∀ x ∈ s, x.toNat ≠ 92) (hC : symC M + s.length ≤ 10000000) :
    Calls Tryd.prog 16 #[.pointer (some ⟨b, 1, none⟩), .string (bytesOf s)] w fun e w' => e = .returned (.tuple #[.int .i64 (bytesOf s).size, .nilIface]) ∧ RS B b (M ++ s.map .b) w' ∧ KeptR B w w' := by
  obtain ⟨pv, l, vals, ps, m, hx, ha, hl, rfl⟩ := h.ex
  rw [symC_append, symC_bytes] at hC
  refine (fstr B b pv l (bytesOf s) w hx.fb (by omega) (by show s.toArray.size ≤ _; rw [List.size_toArray]; omega)).mono ?_
  rintro e w' ⟨rfl, a1, a2⟩
  rw [bytesOf_list] at a1
  have h5 := hx.bytes a1 a2
  refine ⟨rfl, ⟨⟨pv, l ++ s, vals, ps, m, h5.1, ha, fun x hx => ?_, by rw [List.map_append, List.append_assoc]⟩⟩, h5.2⟩
  rcases List.mem_append.1 hx with h | h
  · exact hl x h
  · exact hs x h
theorem RS.byte {B b : Nat} {M : List Sym} {w : World} (h : RS B b M w) (c : UInt8) (n : Int) (hn : (c.toNat : Int) = n) (hc : c.toNat ≠ 92) (hC : symC M ≤ 10000000) :
    Calls Tryd.prog 17 #[.pointer (some ⟨b, 1, none⟩), .int .u8 n] w fun e w' => e = .returned .nilIface ∧ RS B b (M ++ [.b c]) w' ∧ KeptR B w w' := by
  subst hn
  obtain ⟨pv, l, vals, ps, m, hx, ha, hl, rfl⟩ := h.ex
  rw [symC_append, symC_bytes] at hC
  refine (fbyte B b pv l c w hx.fb (by omega)).mono ?_
  rintro e w' ⟨rfl, a1, a2⟩
  have h5 := hx.bytes a1 a2
  refine ⟨rfl, ⟨⟨pv, l ++ [c], vals, ps, m, h5.1, ha, fun x hx => ?_, by rw [List.map_append, List.append_assoc]; rfl⟩⟩, h5.2⟩
  rcases List.mem_append.1 hx with h | h
  · exact hl x h
  · rw [List.mem_singleton.1 h]
    exact hc
theorem RS.flush {B b : Nat} {M : List Sym} {w : World} (h : RS B b M w) (hC : symC M ≤ 10000000) :
    Calls Tryd.prog 7 #[.pointer (some ⟨b, 0, none⟩)] w fun e w' => e = .returned (.tuple #[]) ∧ RF B b M w' ∧ KeptR B w w' := by
  obtain ⟨pv, l, vals, ps, m, hx, ha, hl, rfl⟩ := h.ex
  rw [symC_append, symC_bytes] at hC
  have hps := ha [] .nil
  rw [List.append_nil] at hps
  have h1 := neat_sz hps
  have h2 := hx.rp.syms.cost
  have h3 := hx.rp.length
  refine (flush_any B b pv l vals ps m w hx (by omega) (by omega)).mono ?_
  rintro e w' ⟨rfl, pv', vals', h4, h5, h6⟩
  refine ⟨rfl, ⟨⟨pv', vals', _, h4, ?_, ?_, by omega⟩⟩, h5⟩
  · by_cases h0 : l = []
    · rw [if_pos h0, List.append_nil]
      exact hps
    · rw [if_neg h0]
      exact ha _ (.lit _ h0 hl)
  · intro p hp r hr
    by_cases h0 : l = []
    · rw [if_pos h0, List.append_nil]
      exact ha _ (.other p r hp hr)
    · rw [if_neg h0, List.append_assoc]
      exact ha _ (.litO _ p r h0 hl hp hr)
theorem RF.start {B b : Nat} {pv : Value} {vals : List Value} {ps : List Part} {M : List Sym} {w : World} (h : RX B b pv [] vals ps M w) (ha : ∀ r, Neat r → Neat (ps ++ r)) : RS B b M w := ⟨⟨pv, [], vals, ps, M, h, ha, by simp, by simp⟩⟩

/-! ### Joining -/
def joinD (sep : List UInt8) : List (List UInt8) → List UInt8
  | [] => []
  | a :: r => a ++ r.flatMap fun e => sep ++ e
theorem join_d (sep : List UInt8) (ends : List (List UInt8)) : Lib.join ends sep = joinD sep ends := by
  cases ends with
  | nil => rfl
  | cons a r =>
    rw [Lib.join_cons, joinD, Lib.joinTail]
    simp [List.flatMap]
theorem seq_syms (ends : List (List UInt8)) : symI (.seq ends) = (123 :: (joinD [46, 46] ends ++ [125])).map .b := by
  cases ends with
  | nil => rfl
  | cons a r => simp [symI, joinD, List.map_flatMap]
theorem seq_ser (qt : TypeId → Value → List UInt8) (ends : List (List UInt8)) : serI qt (.seq ends) = [83, 40] ++ joinD [124] ends ++ [41] := by
  cases ends with
  | nil => simp [serI, joinD]
  | cons a r => simp [serI, joinD]
theorem RowOf.cell {w : World} {L : Nat → Prop} {T : TypeId} {g n cap : Nat} {xs : List Value} (h : RowOf w L T g n cap xs) {j : Nat} {x : Value} (hj : xs[j]? = some x) : w.cell? ⟨g, j, none⟩ = some x := by
  obtain ⟨_, cur, h1, h2, _⟩ := h
  rw [Lib.cell_of_heap h1]
  rw [← h2] at hj
  have hlt := (List.getElem?_eq_some_iff.1 hj).1
  rw [List.length_take] at hlt
  rw [List.getElem?_take_of_lt (by omega)] at hj
  simpa using hj
theorem join_ends (w : World) (L : Nat → Prop) (g cap : Nat) (ends : List (List UInt8)) (sep : ByteArray) (hr : RowOf w L 9 g ends.length cap (ends.map strV)) (h3 : ends.length ≤ 3) (hl : (joinD sep.data.toList ends).length ≤ 100000000) :
    Calls Tryd.prog 18 #[.slice (some ⟨g, 0, none⟩) ends.length cap, .string sep] w fun e w' => e = .returned (strV (joinD sep.data.toList ends)) ∧ Below w.heap.size w w' := by
  have hg : g < w.heap.size := by
    obtain ⟨_, cur, h1, _⟩ := hr
    exact (Array.getElem?_eq_some_iff.1 h1).1
  have hm : (ends.map bytesOf).map (·.data.toList) = ends := by
    rw [List.map_map]
    exact (List.map_congr_left (fun x _ => rfl)).trans (List.map_id _)
  have h := Tryd.strings_Join g 0 cap (ends.map bytesOf) sep w (fun j x hx => by
    rw [Nat.zero_add]
    refine hr.cell ?_
    rw [List.getElem?_map] at hx ⊢
    obtain ⟨e, he, rfl⟩ := Option.map_eq_some_iff.1 hx
    rw [he]
    rfl) hg (by rw [List.length_map]; omega) (by rw [List.length_map]; obtain ⟨_, cur, _, _, h5⟩ := hr; exact h5) (by rw [hm, join_d]; omega)
  rw [List.length_map, hm, join_d] at h
  exact h

/-! ### The items' cells -/
section
variable {w : World} {L : Nat → Prop}
theorem PtrsAt.form {v : Value} {ptrs : List Nat} (h : PtrsAt w L v ptrs) : ∃ ao cap, v = .slice ao ptrs.length cap ∧ ∀ (k q : Nat), ptrs[k]? = some q → ∃ g, ao = some ⟨g, 0, none⟩ := by
  rcases h with ⟨rfl, rfl⟩ | ⟨g, cap, cur, rfl, _⟩
  · exact ⟨none, 0, rfl, fun k q e => by simp at e⟩
  · exact ⟨_, cap, rfl, fun k q e => ⟨g, rfl⟩⟩
theorem PtrsAt.cell {g cap : Nat} {ptrs : List Nat} (h : PtrsAt w L (.slice (some ⟨g, 0, none⟩) ptrs.length cap) ptrs) {k q : Nat} (hk : ptrs[k]? = some q) : w.cell? ⟨g, k, none⟩ = some (ptrV q) := by
  rcases h with ⟨e, _⟩ | ⟨g', cap', cur, e, _, h1, h2, _⟩
  · cases e
  · simp only [Value.slice.injEq, Option.some.injEq, Addr.mk.injEq, and_true, true_and] at e
    obtain ⟨rfl, _⟩ := e
    rw [Lib.cell_of_heap h1]
    have h3 : (cur.toList.take ptrs.length)[k]? = some (ptrV q) := by rw [h2, List.getElem?_map, hk]; rfl
    rw [List.getElem?_take_of_lt (List.getElem?_eq_some_iff.1 hk).1] at h3
    simpa using h3
theorem ItemsAt.at_ : ∀ {qs : List Nat} {is : List Item}, ItemsAt w L qs is → ∀ k, k < is.length → ∃ q i, qs[k]? = some q ∧ is[k]? = some i ∧ ItemAt w L q i
  | _, _, .nil, k, h => by simp at h
  | _, _, .cons q i qs is h1 h2, 0, _ => ⟨q, i, rfl, rfl, h1⟩
  | _, _, .cons q i qs is h1 h2, k + 1, h => by
    obtain ⟨q2, i2, a, b, c⟩ := ItemsAt.at_ h2 k (by simp at h; omega)
    exact ⟨q2, i2, by simpa using a, by simpa using b, c⟩
theorem ElemsAt.at_ : ∀ {vs : List Value} {es : List (List Item)}, ElemsAt w L vs es → ∀ k, k < es.length → ∃ v ptrs is, vs[k]? = some v ∧ es[k]? = some is ∧ PtrsAt w L v ptrs ∧ ItemsAt w L ptrs is
  | _, _, .nil, k, h => by simp at h
  | _, _, .cons v ptrs is vs es h1 h2 h3, 0, _ => ⟨v, ptrs, is, rfl, rfl, h1, h2⟩
  | _, _, .cons v ptrs is vs es h1 h2 h3, k + 1, h => by
    obtain ⟨v2, p2, i2, a, b, c⟩ := ElemsAt.at_ h3 k (by simp at h; omega)
    exact ⟨v2, p2, i2, by simpa using a, by simpa using b, c⟩
end
theorem Frm.none (L : Nat → Prop) (w : World) : Frm L NoL w w := fun k c T h _ _ => ⟨h, fun e => e⟩

/-! ### Symbols of what is done so far -/
def sepS (j : Nat) : List Sym := if j = 0 then [] else [.b 44]
theorem symER_append : ∀ a b : List (List Item), symER (a ++ b) = symER a ++ symER b
  | [], b => by simp [symER]
  | w :: r, b => by rw [List.cons_append, symER, symER, symER_append r b]; simp
theorem symE_snoc (a : List (List Item)) (w : List Item) : symE (a ++ [w]) = symE a ++ sepS a.length ++ symW w := by
  cases a with
  | nil => simp [symE, symER, sepS]
  | cons x r =>
    rw [List.cons_append, symE, symE, symER_append]
    simp [symER, sepS]
theorem symE_app (a b : List (List Item)) : ∃ r, symE (a ++ b) = symE a ++ r := by
  cases a with
  | nil => exact ⟨_, by simp [symE]; rfl⟩
  | cons x r => exact ⟨symER b, by rw [List.cons_append, symE, symE, symER_append]; simp⟩
theorem symE_take {es : List (List Item)} {j : Nat} {e : List Item} (h : es[j]? = some e) : symE (es.take (j + 1)) = symE (es.take j) ++ sepS j ++ symW e ∧ symC (symE (es.take j)) + symC (sepS j) + costW e ≤ symC (symE es) := by
  have hlt := (List.getElem?_eq_some_iff.1 h).1
  have e1 : es.take (j + 1) = es.take j ++ [e] := by
    rw [List.take_succ_eq_append_getElem hlt, (List.getElem?_eq_some_iff.1 h).2]
  have e2 : symE (es.take (j + 1)) = symE (es.take j) ++ sepS j ++ symW e := by
    rw [e1, symE_snoc, List.length_take, Nat.min_eq_left (by omega)]
  refine ⟨e2, ?_⟩
  obtain ⟨r, hr⟩ := symE_app (es.take (j + 1)) (es.drop (j + 1))
  rw [List.take_append_drop] at hr
  rw [hr, e2, symC_append, symC_append, symC_append]
  unfold costW
  omega
theorem symW_take {is : List Item} {k : Nat} {i : Item} (h : is[k]? = some i) : symW (is.take (k + 1)) = symW (is.take k) ++ symI i ∧ symC (symW (is.take k)) + costI i ≤ costW is := by
  have hlt := (List.getElem?_eq_some_iff.1 h).1
  have e1 : is.take (k + 1) = is.take k ++ [i] := by
    rw [List.take_succ_eq_append_getElem hlt, (List.getElem?_eq_some_iff.1 h).2]
  have e2 : symW (is.take (k + 1)) = symW (is.take k) ++ symI i := by
    rw [e1, symW_append, symW_one]
  refine ⟨e2, ?_⟩
  have e3 : costW is = symC (symW (is.take (k + 1) ++ is.drop (k + 1))) := by rw [List.take_append_drop]; rfl
  rw [e3, symW_append, e2, symC_append, symC_append]
  unfold costI
  omega
theorem plain_no92 {s : List UInt8} (h : s.all plainB = true) : ∀ x ∈ s, x.toNat ≠ 92 := fun x hx e => by
  have := List.all_eq_true.1 h x hx
  simp [plainB, e] at this
theorem okW_at {is : List Item} (h : okW is = true) {k : Nat} {i : Item} (hk : is[k]? = some i) : okI i = true := by
  induction is generalizing k with
  | nil => simp at hk
  | cons a r ih =>
    have h2 : okI a = true ∧ okW r = true := by simpa [okW] using h
    cases k with
    | zero => simp at hk; rw [← hk]; exact h2.1
    | succ k => exact ih h2.2 (by simpa using hk)
theorem okE_at {es : List (List Item)} (h : okE es = true) {k : Nat} {i : List Item} (hk : es[k]? = some i) : okW i = true := by
  induction es generalizing k with
  | nil => simp at hk
  | cons a r ih =>
    have h2 : okW a = true ∧ okE r = true := by simpa [okE] using h
    cases k with
    | zero => simp at hk; rw [← hk]; exact h2.1
    | succ k => exact ih h2.2 (by simpa using hk)
theorem ok_lit {s : List UInt8} (h : okI (.lit s) = true) : ∀ x ∈ s, x.toNat ≠ 92 := by
  have h2 : s.all plainB = true := by simp [okI] at h; simpa using h.2
  exact plain_no92 h2
theorem ok_seq {ends : List (List UInt8)} (h : okI (.seq ends) = true) : ends.length ≤ 3 ∧ ∀ x ∈ joinD [46, 46] ends, x.toNat ≠ 92 := by
  match ends, h with
  | [a, b], h =>
    simp [okI] at h
    have h1 := plain_no92 (s := a) (by simpa using h.1.1.1.2)
    have h2 := plain_no92 (s := b) (by simpa using h.1.2)
    refine ⟨by simp, fun x hx => ?_⟩
    simp [joinD] at hx
    rcases hx with hx | rfl | hx
    · exact h1 x hx
    · decide
    · exact h2 x hx
  | [a, b, c], h =>
    simp [okI] at h
    have h1 := plain_no92 (s := a) (by simpa using h.1.1.1.1.1.2)
    have h2 := plain_no92 (s := b) (by simpa using h.1.1.1.2)
    have h3 := plain_no92 (s := c) (by simpa using h.1.2)
    refine ⟨by simp, fun x hx => ?_⟩
    simp [joinD] at hx
    rcases hx with hx | rfl | hx | rfl | hx
    · exact h1 x hx
    · decide
    · exact h2 x hx
    · decide
    · exact h3 x hx
theorem cost_pos {i : Item} (h : okI i = true) : 1 ≤ costI i := by
  cases i with
  | lit s =>
    rw [cost_lit]
    cases s with
    | nil => simp [okI] at h
    | cons a r => simp
  | sq t x => rw [cost_sq]; omega
  | lst es => unfold costI; rw [symI, symC]; omega
  | seq ends =>
    unfold costI
    rw [seq_syms, symC_bytes]
    simp
theorem len_cost : ∀ {is : List Item}, okW is = true → is.length ≤ costW is
  | [], _ => by simp
  | i :: r, h => by
    have h2 : okI i = true ∧ okW r = true := by simpa [okW] using h
    have h3 := len_cost h2.2
    have h4 := cost_pos h2.1
    have e : costW (i :: r) = costI i + costW r := by unfold costW costI; rw [symW, symC_append]
    rw [List.length_cons, e]
    omega
theorem lst_len (es : List (List Item)) : es.length ≤ costI (.lst es) := by
  unfold costI
  rw [symI, symC, symC_append]
  cases es with
  | nil => simp
  | cons w r =>
    have h := cost_er r
    rw [symE, symC_append, h, List.length_cons]
    simp [symC]
    omega
theorem KeptR.item {B : Nat} {w w' : World} (h : KeptR B w w') {q : Nat} {c : Array Value} (hq : w.heap[q]? = some (.cells c 44 (0, 0))) (j : Nat) : w'.cell? ⟨q, j, none⟩ = c[j]? := by
  have := h.typ _ _ _ _ hq (by decide) (by decide) (by decide) (by decide)
  rw [Lib.cell_of_heap this]
end Go.Proofs.YtmcoifhiiagfpaaDoor

namespace Go.Proofs.YtmcoifhiiagfpaaDoor
open Go.RowKit
set_option linter.unusedVariables false

/-- What has been rendered by now, and what is left of the rest. -/
structure RL (B b : Nat) (M : List Sym) (w w' : World) : Prop where
  rs : RS B b M w'
  kept : KeptR B w w'
theorem RL.to {B b : Nat} {M M' : List Sym} {w w' : World} (h : RL B b M w w') (e : M = M') : RL B b M' w w' := e ▸ h
/-- The contract of a render. -/
def RendC (is : List Item) : Prop := ∀ (B b : Nat) (M : List Sym) (w : World) (v : Value) (ptrs : List Nat), RS B b M w → PtrsAt w NoL v ptrs → ItemsAt w NoL ptrs is → okW is = true → symC M + costW is ≤ 10000000 →
    Calls Tryd.prog 6 #[v, .pointer (some ⟨b, 0, none⟩)] w fun e w' => e = .returned (.tuple #[]) ∧ RS B b (M ++ symW is) w' ∧ KeptR B w w'
set_option maxRecDepth 100000 in
set_option maxHeartbeats 8000000 in
theorem render_step (is : List Item) (hrec : ∀ es e, Item.lst es ∈ is → e ∈ es → RendC e) : RendC is := by
  intro B b M w v ptrs hs hp hi hok hC
  obtain ⟨ao, cap, rfl, hform⟩ := hp.form
  obtain ⟨ib, hib, hb0, hb1, hb2⟩ := info_parts Tryd.info_part2
  have hlen := hi.length
  have HFORM := Lib.hid hform
  have HPC := Lib.hid (fun (wr : World) (kk : KeptR B w wr) (k q : Nat) (e : ao = some ⟨k, 0, none⟩) => (show PtrsAt wr NoL (.slice (some ⟨k, 0, none⟩) ptrs.length cap) ptrs from e ▸ (hp.frm (kk.frm NoL))))
  have HI := Lib.hid hi
  have HOK := Lib.hid hok
  have HC := Lib.hid hC
  have HREC := Lib.hid hrec
  have HS := Lib.hid hs
  have hcl := len_cost hok
  obtain ⟨n, hn⟩ : ∃ n, ptrs.length = n := ⟨_, rfl⟩
  have HLEN : Hid (is.length = n) := Lib.hid (by omega)
  have hnz : (0 : Int) ≤ (n : Int) ∧ (n : Int) ≤ 10000000 := by omega
  have HN := Lib.hid hn
  rw [hn]
  clear hs hp hi hok hC hform hlen hcl hn hrec
  go_enter Tryd.func6, Tryd.ntmps6
  go_wp2_with fail
  go_loopg [10] n (fun gk s10 wr => ∃ k : Nat, s10 = .int .i64 (k : Int) ∧ k ≤ n ∧ gk = n - k ∧ Hid (RL B b (M ++ symW (is.take k)) w wr))
  case atStart => exact ⟨0, rfl, Nat.zero_le _, rfl, Lib.hid ⟨by simpa [symW] using HS.out, KeptR.refl _ _⟩⟩
  case round =>
    obtain ⟨k, rfl, hk, rfl, HX⟩ := hrel
    by_cases hlt : k < n
    · have hkz : (k : Int) < (n : Int) := by omega
      obtain ⟨q, i, e1, e2, e3⟩ := HI.out.at_ k (by rw [HLEN.out]; exact hlt)
      obtain ⟨g, rfl⟩ := HFORM.out k q e1
      have cq : wr.cell? ⟨g, k, none⟩ = some (ptrV q) := (HPC.out wr HX.out.kept g q rfl).cell e1
      have hok1 := okW_at HOK.out e2
      have t1 := (symW_take e2).1
      have t2 : symC (M ++ symW (is.take k)) + costI i ≤ 10000000 := by
        have := (symW_take e2).2
        have := HC.out
        rw [symC_append]
        omega
      have HT : Hid (M ++ symW (is.take (k + 1)) = M ++ symW (is.take k) ++ symI i) := Lib.hid (by rw [t1, List.append_assoc])
      have HMEM := Lib.hid (List.mem_of_getElem? e2)
      obtain ⟨M0, hM0⟩ : ∃ M0, M ++ symW (is.take k) = M0 := ⟨_, rfl⟩
      rw [hM0] at t2 HX HT
      clear e1 e2 t1 hM0
      cases e3 with
      | lit _ s a1 a2 hL h =>
        have d0 : wr.cell? ⟨q, 0, none⟩ = some (.int .i64 0) := HX.out.kept.item h 0
        have d1 : wr.cell? ⟨q, 1, none⟩ = some (.string (bytesOf s)) := HX.out.kept.item h 1
        have HW := Lib.hid (HX.out.rs.drew.str s (ok_lit hok1) (by rw [cost_lit] at t2; exact t2))
        clear h hL hok1 t2
        go_upto_region 5 with fail
        go_region_law (go_simp; go_at_call 16; refine HW.out.mono ?_; rintro e w2 ⟨rfl, a1, a2⟩; have H2 := Lib.hid ((RL.mk a1 (HX.out.kept.trans a2.of_drew)).to HT.out.symm); clear a1 a2)
        all_goals
          go_wp2_with fail
          go_roundg (n - (k + 1))
          case measure => omega
          case rel => exact ⟨k + 1, by go_num, by omega, rfl, H2⟩
      | sq _ s a1 a2 hL h hs5 =>
        have d0 : wr.cell? ⟨q, 0, none⟩ = some (.int .i64 1) := HX.out.kept.item h 0
        have HH := Lib.hid h
        have HS5 := Lib.hid hs5
        have HW := Lib.hid (HX.out.rs.flush (by omega))
        clear h hL hok1 t2 hs5
        go_upto_region 8 with (go_at_call 7; refine HW.out.mono ?_; rintro e w1 ⟨rfl, ⟨⟨pv, vals, ps, x1, x2, x3, x4⟩⟩, a2⟩; have H1 := Lib.hid x1.drew; have H1P := Lib.hid x3; have HV := Lib.hid x4; have HK1 := Lib.hid (HX.out.kept.trans a2); have d1 : w1.cell? ⟨q, 1, none⟩ = some (.string (bytesOf s)) := HK1.out.item HH.out 1; have c0 : w1.cell? ⟨b, 0, none⟩ = some pv := x1.fb.cell0; have hltb : b < w1.heap.size := x1.fb.lt; have hltq : q < w1.heap.size := (Array.getElem?_eq_some_iff.1 (HK1.out.typ _ _ _ _ HH.out (by decide) (by decide) (by decide) (by decide))).1; clear x1 x2 x3 x4 a2)
        go_region_law (refine step_append_lies _ rfl _ _ 31 rfl B 72 ib .nilIface 1 16 Tryd.underlying31 hib hb0 hb1 hb2 rfl (by decide) _ _ _ rfl ((H1.out.own.alloc _).alloc _) ⟨w1.heap.size + 1, 0, none⟩ 1 1 [.iface 58 (.pointer (some ⟨w1.heap.size, 0, none⟩))] rfl rfl (cell_two_new _ _ _ _) (by intro u hu; simp at hu; subst hu; rfl) (by decide) (by have := HV.out; unfold maxLen; omega) (by have := HV.out; omega) (by have := H1.out.hB; simp at this; simp; omega) _ rfl ?_; intro g4 cap4 w4 hown hgrow hat _; have H4 := Lib.hid (H1.out.push (below_two w1.drew _ _) (sq_new w1.drew s HS5.out _) hown hgrow); have HM := Lib.hid (H1.out.mid (below_two w1.drew _ _) hgrow); have c4 : w4.cell? ⟨b, 0, none⟩ = some pv := HM.out.cell0; have f4 : w4.frozen? ⟨b, 0, none⟩ = false := HM.out.frz; clear hown hgrow hat)
        all_goals
          go_wp2_with fail
          go_roundg (n - (k + 1))
          case measure => omega
          case rel =>
            refine ⟨k + 1, by go_num, by omega, rfl, Lib.hid ((RL.mk (RF.start H4.out.1 (fun r hr => ?_)) (HK1.out.trans ((kept_drew B _).trans H4.out.2))).to HT.out.symm)⟩
            rw [List.append_assoc]
            exact H1P.out _ (fun q h => by cases h) r hr
      | lst _ es a1 a2 g2 cap2 vs hL h hr he =>
        have d0 : wr.cell? ⟨q, 0, none⟩ = some (.int .i64 2) := HX.out.kept.item h 0
        have HH := Lib.hid h
        have HR := Lib.hid hr
        have HE := Lib.hid he
        have HOKE : Hid (okE es = true) := Lib.hid (by have : 2 ≤ es.length ∧ okE es = true := by simpa [okI] using hok1
                                                       exact this.2)
        have hln := lst_len es
        obtain ⟨ne, hne⟩ : ∃ ne, es.length = ne := ⟨_, rfl⟩
        have HNE := Lib.hid hne
        have hnez : (0 : Int) ≤ (ne : Int) ∧ (ne : Int) ≤ 10000000 := by omega
        have HB := Lib.hid t2
        have HW := Lib.hid (HX.out.rs.byte 123 123 rfl (by decide) (by omega))
        have HD2 : Hid (∀ w1, KeptR B w w1 → w1.cell? ⟨q, 2, none⟩ = some (.slice (some ⟨g2, 0, none⟩) ne cap2)) := Lib.hid (fun w1 kk => by rw [← HNE.out]; exact kk.item HH.out 2)
        clear h hL hok1 t2 hr he hln hne
        go_wp2_with (go_at_call 17; refine HW.out.mono ?_; rintro e w1 ⟨rfl, a1, a2⟩; have H1 := Lib.hid (RL.mk a1 (HX.out.kept.trans a2)); have d2 := HD2.out w1 H1.out.kept; clear a1 a2)
        go_loopg [59] ne (fun gk s59 wz => ∃ j : Nat, s59 = .int .i64 (j : Int) ∧ j ≤ ne ∧ gk = ne - j ∧ Hid (RL B b (M0 ++ [.b 123] ++ symE (es.take j)) w wz))
        case atStart => exact ⟨0, rfl, Nat.zero_le _, rfl, Lib.hid (H1.out.to (by simp [symE]))⟩
        case round =>
          obtain ⟨j, rfl, hj, rfl, HY⟩ := hrel
          by_cases hltj : j < ne
          · have hjz : (j : Int) < (ne : Int) := by omega
            obtain ⟨x, ptrs2, e, f1, f2, f3, f4⟩ := HE.out.at_ j (by rw [HNE.out]; exact hltj)
            obtain ⟨ao2, cap3, rfl, _⟩ := f3.form
            have cx : wr.cell? ⟨g2, j, none⟩ = some (.slice ao2 ptrs2.length cap3) := (HR.out.frm (HY.out.kept.frm NoL) (by simp)).cell f1
            have t3 := symE_take f2
            have HT2 : Hid (M0 ++ [.b 123] ++ symE (es.take (j + 1)) = M0 ++ [.b 123] ++ symE (es.take j) ++ sepS j ++ symW e) := Lib.hid (by rw [t3.1]; simp)
            have hbd : symC (M0 ++ [.b 123] ++ symE (es.take j) ++ sepS j) + costW e ≤ 10000000 := by
              have h1 := t3.2
              have h2 := HB.out
              unfold costI at h2
              rw [symI, symC, symC_append] at h2
              rw [symC_append, symC_append, symC_append]
              simp [symC] at h2 ⊢
              omega
            have HC2 := Lib.hid (fun (wz : World) (r : RL B b (M0 ++ [.b 123] ++ symE (es.take j) ++ sepS j) w wz) => HREC.out es e HMEM.out (List.mem_of_getElem? f2) B b _ wz _ ptrs2 r.rs (f3.frm (r.kept.frm NoL)) (f4.frm (r.kept.frm NoL)) (okE_at HOKE.out f2) hbd)
            have HBD : Hid (symC (M0 ++ [.b 123] ++ symE (es.take j)) ≤ 10000000) := Lib.hid (by rw [symC_append] at hbd; omega)
            clear f1 f2 f3 f4 t3 hbd
            by_cases hj0 : j = 0
            · have hj0z : ¬ ((0 : Int) < (j : Int)) := by omega
              have HD := Lib.hid (HC2.out wr (HY.out.to (by simp [sepS, hj0])))
              clear hj0
              go_wp2_with (go_at_call 6; refine HD.out.mono ?_; rintro e2 w2 ⟨rfl, a1, a2⟩; have H2 := Lib.hid ((RL.mk a1 (HY.out.kept.trans a2)).to HT2.out.symm); clear a1 a2)
              go_roundg (ne - (j + 1))
              case measure => omega
              case rel => exact ⟨j + 1, by go_num, by omega, rfl, H2⟩
            · have hj0z : (0 : Int) < (j : Int) := by omega
              have HW2 := Lib.hid (HY.out.rs.byte 44 44 rfl (by decide) HBD.out)
              have HSEP : Hid (sepS j = [.b 44]) := Lib.hid (by rw [sepS, if_neg hj0])
              clear hj0
              go_wp2_with (first
                | (go_at_call 17; refine HW2.out.mono ?_; rintro e2 w2 ⟨rfl, a1, a2⟩; have H2 := Lib.hid ((RL.mk a1 (HY.out.kept.trans a2)).to (show _ = M0 ++ [.b 123] ++ symE (es.take j) ++ sepS j by rw [HSEP.out])); clear a1 a2)
                | (go_at_call 6; refine (HC2.out _ H2.out).mono ?_; rintro e3 w3 ⟨rfl, a1, a2⟩; have H3 := Lib.hid ((RL.mk a1 (H2.out.kept.trans a2)).to HT2.out.symm); clear a1 a2))
              go_roundg (ne - (j + 1))
              case measure => omega
              case rel => exact ⟨j + 1, by go_num, by omega, rfl, H3⟩
          · have hjz : ¬ (j : Int) < (ne : Int) := by omega
            have HF : Hid (RL B b (M0 ++ [.b 123] ++ symE es) w wr) := Lib.hid (HY.out.to (by rw [List.take_of_length_le (by rw [HNE.out]; omega)]))
            have HW3 := Lib.hid (HF.out.rs.byte 125 125 rfl (by decide) (by
              have h2 := HB.out
              unfold costI at h2
              rw [symI, symC, symC_append] at h2
              rw [symC_append, symC_append]
              simp [symC] at h2 ⊢
              omega))
            go_wp2_with (go_at_call 17; refine HW3.out.mono ?_; rintro e2 w2 ⟨rfl, a1, a2⟩; have H2 := Lib.hid ((RL.mk a1 (HF.out.kept.trans a2)).to (show _ = M ++ symW (is.take (k + 1)) by rw [HT.out, symI]; simp)); clear a1 a2)
            go_roundg (n - (k + 1))
            case measure => omega
            case rel => exact ⟨k + 1, by go_num, by omega, rfl, H2⟩
      | seq _ ends a1 a2 g2 cap2 hL h hr =>
        have d0 : wr.cell? ⟨q, 0, none⟩ = some (.int .i64 3) := HX.out.kept.item h 0
        have HH := Lib.hid h
        have HR := Lib.hid hr
        have hos := ok_seq hok1
        have HE3 := Lib.hid hos.1
        have HE92 := Lib.hid hos.2
        have hcost : costI (.seq ends) = (joinD [46, 46] ends).length + 2 := by
          unfold costI
          rw [seq_syms, symC_bytes]
          simp
        rw [hcost] at t2
        have HB := Lib.hid t2
        obtain ⟨ne, hne⟩ : ∃ ne, ends.length = ne := ⟨_, rfl⟩
        have HNE := Lib.hid hne
        have HW := Lib.hid (HX.out.rs.byte 123 123 rfl (by decide) (by omega))
        have HD3 : Hid (∀ w1, KeptR B w w1 → w1.cell? ⟨q, 3, none⟩ = some (.slice (some ⟨g2, 0, none⟩) ne cap2)) := Lib.hid (fun w1 kk => by rw [← HNE.out]; exact kk.item HH.out 3)
        clear h hL hok1 t2 hr hos hne hcost
        go_upto_region 21 with (go_at_call 17; refine HW.out.mono ?_; rintro e w1 ⟨rfl, a1, a2⟩; have H1 := Lib.hid (RL.mk a1 (HX.out.kept.trans a2)); have d3 := HD3.out w1 H1.out.kept; clear a1 a2)
        have HJ : Hid (Calls Tryd.prog 18 #[.slice (some ⟨g2, 0, none⟩) ne cap2, .string ⟨#[46, 46]⟩] w1.drew fun e w' => e = .returned (strV (joinD [46, 46] ends)) ∧ Below w1.drew.heap.size w1.drew w') := Lib.hid (by
          rw [← HNE.out]
          exact join_ends w1.drew NoL g2 cap2 ends ⟨#[46, 46]⟩ (HR.out.frm ((H1.out.kept.trans (kept_drew B w1)).frm NoL) (by simp)) HE3.out (by have := HB.out; show (joinD [46, 46] ends).length ≤ _; omega))
        go_region_law (first
          | (go_simp; go_at_call 18; refine HJ.out.mono ?_; rintro e w2 ⟨rfl, a1⟩; have H2 := Lib.hid (RL.mk (H1.out.rs.drew.below a1) (H1.out.kept.trans ((kept_drew B w1).trans (KeptR.of_below a1 H1.out.rs.drew.hB)))); clear a1)
          | (go_simp; go_at_call 16; refine (H2.out.rs.str (joinD [46, 46] ends) HE92.out (by have := HB.out; rw [symC_append]; simp [symC]; omega)).mono ?_; rintro e w3 ⟨rfl, a1, a2⟩; have H3 := Lib.hid (RL.mk a1 (H2.out.kept.trans a2)); clear a1 a2))
        all_goals
          go_wp2_with (go_at_call 17; refine (H3.out.rs.byte 125 125 rfl (by decide) (by have := HB.out; rw [symC_append, symC_append, symC_bytes]; simp [symC]; omega)).mono ?_; rintro e w4 ⟨rfl, a1, a2⟩; have H4 := Lib.hid ((RL.mk a1 (H3.out.kept.trans a2)).to (show _ = M ++ symW (is.take (k + 1)) by rw [HT.out, seq_syms]; simp)); clear a1 a2)
          go_roundg (n - (k + 1))
          case measure => omega
          case rel => exact ⟨k + 1, by go_num, by omega, rfl, H4⟩
    · have hkz : ¬ (k : Int) < (n : Int) := by omega
      have HF : Hid (RL B b (M ++ symW is) w wr) := Lib.hid (HX.out.to (by rw [List.take_of_length_le (by rw [HLEN.out]; omega)]))
      go_wp2_with fail
      go_end0
      exact ⟨rfl, HF.out.rs, HF.out.kept⟩

theorem render_any : ∀ (n : Nat) (is : List Item), SizeOf.sizeOf is ≤ n → RendC is := by
  intro n
  induction n with
  | zero =>
    intro is h
    refine render_step is (fun es e h1 h2 => ?_)
    have := List.sizeOf_lt_of_mem h1
    omega
  | succ n ih =>
    intro is h
    refine render_step is (fun es e h1 h2 => ih e ?_)
    have a := List.sizeOf_lt_of_mem h1
    have b := List.sizeOf_lt_of_mem h2
    simp at a
    omega
end Go.Proofs.YtmcoifhiiagfpaaDoor

namespace Go.Proofs.YtmcoifhiiagfpaaDoor
open Go.RowKit

mutual
def dpz : Part → Nat
  | .lit s => 1 + s.size
  | .brace _ es => 1 + dezM es
  | .other _ _ => 1
def dzM : List Part → Nat
  | [] => 0
  | p :: r => dpz p + dzM r
def dezM : List (List Part) → Nat
  | [] => 0
  | e :: r => dzM e + 3 + dezM r
end
def dz (ps : List Part) : Nat := (ps.map dpz).sum
def edz (es : List (List Part)) : Nat := (es.map fun e => dz e + 3).sum
def Frame.dz (f : Frame) : Nat := edz f.elems + 4
def St.dz (st : St) : Nat := Go.Proofs.YtmcoifhiiagfpaaDoor.dz st.top + (st.stack.map Frame.dz).sum
theorem dzM_eq : ∀ ps : List Part, dzM ps = dz ps
  | [] => by simp [dzM, dz]
  | p :: r => by rw [dzM, dzM_eq r]; simp [dz]
theorem dezM_eq : ∀ es : List (List Part), dezM es = edz es
  | [] => by simp [dezM, edz]
  | e :: r => by rw [dezM, dezM_eq r, dzM_eq]; simp [edz]
theorem dpz_brace (b : Bool) (es : List (List Part)) : dpz (.brace b es) = 1 + edz es := by rw [dpz, dezM_eq]

theorem sz_appendD (a b : List Part) : dz (a ++ b) = dz a + dz b := by simp [dz]
theorem sz_consD (p : Part) (b : List Part) : dz (p :: b) = dpz p + dz b := by simp [dz]
theorem esz_appendD (a b : List (List Part)) : edz (a ++ b) = edz a + edz b := by simp [edz]
theorem sz_lengthD (ps : List Part) : ps.length ≤ dz ps := by
  induction ps with
  | nil => exact Nat.zero_le _
  | cons p r ih =>
    rw [sz_consD, List.length_cons]
    have : 1 ≤ dpz p := by cases p <;> simp [dpz]
    omega
theorem push_szD (st : St) (ps : List Part) : (st.push ps).dz = st.dz + dz ps := by
  obtain ⟨top, stack⟩ := st
  cases stack with
  | nil => simp [St.push, St.dz, sz_appendD]
  | cons f r =>
    have e : ∀ a, edz (f.done ++ [a]) = edz f.done + (Go.Proofs.YtmcoifhiiagfpaaDoor.dz a + 3) := fun a => by rw [esz_appendD]; simp [edz]
    simp only [St.push, St.dz, List.map_cons, List.sum_cons, Frame.dz, Frame.elems, e, sz_appendD]
    omega
theorem sepBy_szD (sep : ByteArray) (hs : sep.size ≤ 2) : ∀ es : List (List Part), dz (sepBy sep es) + 3 ≤ edz es + 3
  | [] => by simp [sepBy, dz]
  | [ps] => by simp [sepBy, edz]
  | ps :: q :: r => by
    have ih := sepBy_szD sep hs (q :: r)
    rw [sepBy, sz_appendD, sz_consD]
    · simp only [edz, List.map_cons, List.sum_cons, dpz] at ih ⊢
      omega
    · simp
theorem closed_szD (f : Frame) : dz (closed f) ≤ f.dz := by
  have h1 := sepBy_szD dots (by decide) f.elems
  have e1 : dz [Part.lit lb] = 2 := by simp [dz, dpz, lb, ByteArray.size]
  have e2 : dz [Part.lit rb] = 2 := by simp [dz, dpz, rb, ByteArray.size]
  have e3 : ∀ b es, dz [Part.brace b es] = 1 + edz es := fun b es => by simp [dz, dpz_brace]
  unfold closed Frame.dz
  split
  · rw [sz_appendD, sz_appendD, e1, e2]
    have : edz f.elems = edz f.done + (dz f.acc + 3) := by simp [Frame.elems, edz]
    omega
  · split
    · split
      · rw [sz_appendD, sz_appendD, e1, e2]; omega
      · rw [e3]; omega
    · rw [e3]; omega
theorem unclosed_szD (f : Frame) : dz (unclosed f) ≤ f.dz := by
  unfold unclosed Frame.dz
  rw [sz_consD]
  have e1 : dpz (Part.lit lb) = 2 := by simp [dpz, lb, ByteArray.size]
  have h1 := sepBy_szD dots (by decide) f.elems
  have h2 := sepBy_szD cm (by decide) f.elems
  split <;> omega
theorem flush_szD (st : St) (v : ByteArray) (last j : Nat) (hl : last ≤ j) (hj : j ≤ v.size) : (st.flush v last j).dz ≤ st.dz + 1 + (j - last) := by
  unfold St.flush
  split
  · omega
  · rw [push_szD]
    have : dz [Part.lit (v.extract last j)] = 1 + (v.extract last j).size := by simp [dz, dpz]
    rw [this, ByteArray.size_extract]
    omega

/-- One byte: the places move on, and what is held grows a little. -/
theorem stepB_szD (v : ByteArray) (j last : Nat) (st : St) (hl : last ≤ j) (hj : j < v.size) :
    (stepB v j last st).2.1 ≤ (stepB v j last st).1 ∧ j < (stepB v j last st).1 ∧ (stepB v j last st).1 ≤ j + 2 ∧ (stepB v j last st).2.2.dz + ((stepB v j last st).1 - (stepB v j last st).2.1) + 9 * j ≤ st.dz + (j - last) + 9 * (stepB v j last st).1 := by
  have hf := flush_szD st v last j hl (by omega)
  unfold stepB
  split
  · exact ⟨by simp only; omega, by simp only; omega, by simp only; omega, by simp only; omega⟩
  · split
    · refine ⟨by simp only; omega, by simp only; omega, by simp only; omega, ?_⟩
      simp only [St.dz, List.map_cons, List.sum_cons, Frame.dz, Frame.elems, edz, List.nil_append, List.map_nil, List.sum_nil] at hf ⊢
      have e0 : dz [] = 0 := rfl
      rw [e0]
      omega
    · split
      · split
        · exact ⟨by simp only; omega, by simp only; omega, by simp only; omega, by simp only; omega⟩
        · rename_i f r hfr
          refine ⟨by simp only; omega, by simp only; omega, by simp only; omega, ?_⟩
          have h1 := sepBy_szD dots (by decide) f.elems
          simp only [St.dz, hfr, List.map_cons, List.sum_cons, Frame.dz] at hf ⊢
          split
          · have e : edz (Frame.elems ⟨false, [sepBy dots f.elems], []⟩) = dz (sepBy dots f.elems) + 6 := by simp [Frame.elems, edz, dz]
            rw [e]; omega
          · have e : edz (Frame.elems ⟨false, f.elems, []⟩) = edz f.elems + 3 := by
              show edz (f.elems ++ [[]]) = _
              rw [esz_appendD]; rfl
            rw [e]; omega
      · split
        · split
          · exact ⟨by simp only; omega, by simp only; omega, by simp only; omega, by simp only; omega⟩
          · split
            · exact ⟨by simp only; omega, by simp only; omega, by simp only; omega, by simp only; omega⟩
            · split
              · exact ⟨by simp only; omega, by simp only; omega, by simp only; omega, by simp only; omega⟩
              · split
                · exact ⟨by simp only; omega, by simp only; omega, by simp only; omega, by simp only; omega⟩
                · rename_i f r hfr
                  refine ⟨by simp only; omega, by simp only; omega, by simp only; omega, ?_⟩
                  simp only [St.dz, hfr, List.map_cons, List.sum_cons, Frame.dz] at hf ⊢
                  have e : edz (Frame.elems ⟨true, f.elems, []⟩) = edz f.elems + 3 := by
                    show edz (f.elems ++ [[]]) = _
                    rw [esz_appendD]; rfl
                  rw [e]; omega
        · split
          · split
            · exact ⟨by simp only; omega, by simp only; omega, by simp only; omega, by simp only; omega⟩
            · rename_i f r hfr
              refine ⟨by simp only; omega, by simp only; omega, by simp only; omega, ?_⟩
              have hc := closed_szD f
              rw [push_szD]
              simp only [St.dz, hfr, List.map_cons, List.sum_cons] at hf ⊢
              omega
          · exact ⟨by simp only; omega, by simp only; omega, by simp only; omega, by simp only; omega⟩


theorem runB_szD (v : ByteArray) : ∀ (f j last : Nat) (st : St), last ≤ j → last ≤ v.size → j ≤ v.size + 1 → (runB v f j last st).2.dz ≤ st.dz + (j - last) + 9 * (v.size + 2 - j) ∧ (runB v f j last st).1 ≤ v.size
  | 0, j, last, st, _, h2, _ => ⟨by show st.dz ≤ _; omega, h2⟩
  | f + 1, j, last, st, h1, h2, h3 => by
    unfold runB
    split
    · rename_i hj
      obtain ⟨s1, s2, s3, s4⟩ := stepB_szD v j last st h1 hj
      have s5 := stepB_last v j last st h2 hj
      obtain ⟨r1, r2⟩ := runB_szD v f (stepB v j last st).1 (stepB v j last st).2.1 (stepB v j last st).2.2 s1 s5 (by omega)
      refine ⟨Nat.le_trans r1 ?_, r2⟩
      omega
    · exact ⟨by show st.dz ≤ _; omega, h2⟩

theorem stepP_szD (st : St) (p : Part) : (stepP st p).dz ≤ st.dz + 10 * dpz p + 20 := by
  cases p with
  | lit v =>
    obtain ⟨r1, r2⟩ := runB_szD v (v.size + 1) 0 0 st (Nat.le_refl _) (Nat.zero_le _) (Nat.zero_le _)
    unfold stepP
    simp only
    generalize runB v (v.size + 1) 0 0 st = R at r1 r2 ⊢
    obtain ⟨last, st'⟩ := R
    simp only at r1 r2 ⊢
    have e : dpz (Part.lit v) = 1 + v.size := by simp [dpz]
    rw [e]
    split
    · rw [push_szD]
      have : dz [Part.lit v] = 1 + v.size := by simp [dz, dpz]
      omega
    · rw [push_szD]
      have : dz [Part.lit (v.extract last v.size)] = 1 + (v.extract last v.size).size := by simp [dz, dpz]
      rw [this, ByteArray.size_extract]
      omega
  | brace b es =>
    show (st.push _).dz ≤ _
    rw [push_szD]
    have : dz [Part.brace b es] = dpz (.brace b es) := by simp [dz]
    omega
  | other t x =>
    show (st.push _).dz ≤ _
    rw [push_szD]
    have : dz [Part.other t x] = 1 := by simp [dz, dpz]
    omega
theorem foldP_szD : ∀ (ps : List Part) (st : St), (ps.foldl stepP st).dz ≤ st.dz + 10 * dz ps + 20 * ps.length
  | [], st => by simp [dz]
  | p :: r, st => by
    have h1 := stepP_szD st p
    have h2 := foldP_szD r (stepP st p)
    rw [List.foldl_cons, sz_consD, List.length_cons]
    omega

theorem dz_render (st : St) : dz (render st) ≤ st.dz := by
  obtain ⟨top, stack⟩ := st
  induction stack with
  | nil =>
    show dz (unwind [] top) ≤ dz top + 0
    rw [unwind]
    exact Nat.le_refl _
  | cons f r ih =>
    show dz (unwind (f :: r) top) ≤ dz top + ((f :: r).map Frame.dz).sum
    have h1 : dz (unwind r top) ≤ dz top + (r.map Frame.dz).sum := ih
    have h2 := unclosed_szD f
    rw [unwind_cons, sz_appendD, List.map_cons, List.sum_cons]
    omega
theorem dz_split (ps : List Part) : dz (split ps) ≤ 10 * dz ps + 20 * ps.length := by
  have h1 := dz_render (ps.foldl stepP ⟨[], []⟩)
  have h2 := foldP_szD ps ⟨[], []⟩
  have h0 : (⟨[], []⟩ : St).dz = 0 := rfl
  have e : split ps = render (ps.foldl stepP ⟨[], []⟩) := rfl
  rw [e]
  omega
theorem RParts.dz {w : World} {vs : List Value} {ps : List Part} {m : List Sym} (h : RParts w vs ps m) : Go.Proofs.YtmcoifhiiagfpaaDoor.dz ps = sz ps := by
  induction h with
  | nil => rfl
  | lit q s vs ps m h1 h2 ih => rw [sz_consD, sz_cons, ih]; simp [dpz, psz]
  | sq q s vs ps m h1 h2 ih => rw [sz_consD, sz_cons, ih]; simp [dpz, psz]
theorem dz_mem {ps : List Part} {b : Bool} {es : List (List Part)} {e : List Part} (h1 : Part.brace b es ∈ ps) (h2 : e ∈ es) : dz e + 3 ≤ dz ps := by
  have a : dpz (.brace b es) ≤ dz ps := by
    induction ps with
    | nil => cases h1
    | cons p r ih =>
      rw [sz_consD]
      rcases List.mem_cons.1 h1 with rfl | h
      · omega
      · have := ih h
        omega
  have c : dz e + 3 ≤ edz es := by
    clear h1 a
    induction es with
    | nil => cases h2
    | cons p r ih =>
      have e2 : edz (p :: r) = dz p + 3 + edz r := by simp [edz]
      rw [e2]
      rcases List.mem_cons.1 h2 with rfl | h
      · omega
      · have := ih h
        omega
  rw [dpz_brace] at a
  omega
theorem len_mem {ps : List Part} {b : Bool} {es : List (List Part)} (h1 : Part.brace b es ∈ ps) : es.length ≤ dz ps := by
  have a : dpz (.brace b es) ≤ dz ps := by
    induction ps with
    | nil => cases h1
    | cons p r ih =>
      rw [sz_consD]
      rcases List.mem_cons.1 h1 with rfl | h
      · omega
      · have := ih h
        omega
  have c : es.length ≤ edz es := by
    clear h1 a
    induction es with
    | nil => simp
    | cons p r ih =>
      have e2 : edz (p :: r) = dz p + 3 + edz r := by simp [edz]
      rw [e2, List.length_cons]
      omega
  rw [dpz_brace] at a
  omega
end Go.Proofs.YtmcoifhiiagfpaaDoor
