/-
  Splitting a word once more: what its literals read as stays. No walk here.
  Splitting a word once more, second part: the pieces that are left read as the state that left them. No walk here.
  Which strings are an int64 in decimal: by their digits' value. No walk here.
  The contracts of SplitBraces and Word.Lit at a word that lies in a block of its own.
  Brace splitting read symbol by symbol: bytes and opaque parts in one row. No walk here.
  A word that is built of literals, opaque parts, lists and sequences splits into just these. No walk here.
  A word that is built of literals, opaque parts, lists and sequences splits into just these: the walk over its items, in plain Lean.
-/
import Derived.Test.YtmcoifhiiagfpaaDoorGc
import Derived.Test.YtmcoifhiiagfpaaDoorGa
import Derived.Test.YtmcoifhiiagfpaaDoorGj
namespace Go.Proofs.YtmcoifhiiagfpaaDoor
open Go.RowKit

/-- What is left of a state once the braces that are not closed fall back to text. -/
def render (st : St) : List Part := unwind st.stack st.top

theorem sepBy_last (sep : ByteArray) : ∀ (es : List (List Part)) (a qs : List Part), sepBy sep (es ++ [a ++ qs]) = sepBy sep (es ++ [a]) ++ qs
  | [], _, _ => rfl
  | [e], a, qs => by simp [sepBy]
  | e :: e2 :: r, a, qs => by
    have h := sepBy_last sep (e2 :: r) a qs
    simp only [List.cons_append] at h ⊢
    simp [sepBy, h]
theorem sepBy_more (sep : ByteArray) : ∀ (es : List (List Part)), es ≠ [] → sepBy sep (es ++ [[]]) = sepBy sep es ++ [.lit sep]
  | [], h => absurd rfl h
  | [e], _ => by simp [sepBy]
  | e :: e2 :: r, _ => by
    have h := sepBy_more sep (e2 :: r) (by simp)
    simp only [List.cons_append] at h ⊢
    simp [sepBy, h]
theorem unclosed_push (f : Frame) (ps : List Part) : unclosed { f with acc := f.acc ++ ps } = unclosed f ++ ps := by
  simp only [unclosed, Frame.elems, List.cons_append, sepBy_last]
theorem unwind_cons (top : List Part) : ∀ (r : List Frame) (f : Frame), unwind (f :: r) top = unwind r top ++ unclosed f
  | [], f => by rw [unwind, unwind]
  | g :: r, f => by
    rw [unwind, unwind_cons top r, unwind_cons top r g, unclosed_push, List.append_assoc]
theorem render_push (st : St) (ps : List Part) : render (st.push ps) = render st ++ ps := by
  obtain ⟨top, stack⟩ := st
  cases stack with
  | nil =>
    show unwind [] (top ++ ps) = unwind [] top ++ ps
    rw [unwind, unwind]
  | cons f r =>
    show unwind ({ f with acc := f.acc ++ ps } :: r) top = unwind (f :: r) top ++ ps
    rw [unwind_cons, unwind_cons, unclosed_push, List.append_assoc]

/- Texts. -/
def oapp : Option (List UInt8) → Option (List UInt8) → Option (List UInt8)
  | some x, some y => some (x ++ y)
  | _, _ => none
theorem oapp_none (t : Option (List UInt8)) : oapp t none = none := by cases t <;> rfl
theorem none_oapp (t : Option (List UInt8)) : oapp none t = none := rfl
theorem litText_append : ∀ (a b : List Part), litText (a ++ b) = oapp (litText a) (litText b)
  | [], b => by
    show litText b = oapp (some []) (litText b)
    cases litText b <;> rfl
  | .lit s :: r, b => by
    have h := litText_append r b
    simp only [List.cons_append, litText, h]
    cases litText r <;> cases litText b <;> simp [oapp]
  | .brace _ _ :: r, b => rfl
  | .other _ _ :: r, b => rfl
theorem litText_one (s : ByteArray) : litText [.lit s] = some s.data.toList := by
  simp [litText]

def absF (f : Frame) : Bool × List (Option (List UInt8)) × Option (List UInt8) := (f.seq, f.done.map litText, litText f.acc)
/-- The state by its texts. -/
def abs (st : St) : Option (List UInt8) × List (Bool × List (Option (List UInt8)) × Option (List UInt8)) := (litText st.top, st.stack.map absF)

theorem abs_cases {a b : St} (h : abs a = abs b) : litText a.top = litText b.top ∧ ((a.stack = [] ∧ b.stack = []) ∨ ∃ f r g q, a.stack = f :: r ∧ b.stack = g :: q ∧ f.seq = g.seq ∧ f.done.map litText = g.done.map litText ∧ litText f.acc = litText g.acc ∧ r.map absF = q.map absF) := by
  obtain ⟨at_, as_⟩ := a
  obtain ⟨bt_, bs_⟩ := b
  simp only [abs, Prod.mk.injEq] at h
  refine ⟨h.1, ?_⟩
  cases as_ with
  | nil =>
    cases bs_ with
    | nil => exact Or.inl ⟨rfl, rfl⟩
    | cons g q => simp at h
  | cons f r =>
    cases bs_ with
    | nil => simp at h
    | cons g q =>
      simp only [List.map_cons, List.cons.injEq, absF, Prod.mk.injEq] at h
      exact Or.inr ⟨f, r, g, q, rfl, rfl, h.2.1.1, h.2.1.2.1, h.2.1.2.2, h.2.2⟩

theorem abs_push {a b : St} (h : abs a = abs b) {ps qs : List Part} (hp : litText ps = litText qs) : abs (a.push ps) = abs (b.push qs) := by
  obtain ⟨ht, hc⟩ := abs_cases h
  obtain ⟨at_, as_⟩ := a
  obtain ⟨bt_, bs_⟩ := b
  simp only at ht hc
  rcases hc with ⟨rfl, rfl⟩ | ⟨f, r, g, q, rfl, rfl, h1, h2, h3, h4⟩
  · simp [abs, St.push, litText_append, ht, hp]
  · simp [abs, absF, St.push, litText_append, ht, hp, h1, h2, h3]
    exact h4
theorem abs_flush {a b : St} (h : abs a = abs b) (v : ByteArray) (last j : Nat) : abs (a.flush v last j) = abs (b.flush v last j) := by
  unfold St.flush
  split
  · exact h
  · exact abs_push h rfl

theorem elems_text {f g : Frame} (h2 : f.done.map litText = g.done.map litText) (h3 : litText f.acc = litText g.acc) : f.elems.map litText = g.elems.map litText := by
  simp [Frame.elems, h2, h3]
theorem sepBy_text (sep : ByteArray) : ∀ (es fs : List (List Part)), es.map litText = fs.map litText → litText (sepBy sep es) = litText (sepBy sep fs)
  | [], fs, h => by
    cases fs with
    | nil => rfl
    | cons a b => simp at h
  | [e], fs, h => by
    match fs, h with
    | [], h => simp at h
    | [a], h => simpa [sepBy] using h
    | a :: b :: c, h => simp at h
  | e :: e2 :: r, fs, h => by
    match fs, h with
    | [], h => simp at h
    | [a], h => simp at h
    | a :: b :: c, h =>
      have h2 := sepBy_text sep (e2 :: r) (b :: c) (by simp only [List.map_cons, List.cons.injEq] at h ⊢; exact h.2)
      simp only [List.map_cons, List.cons.injEq] at h
      have e1 : sepBy sep (e :: e2 :: r) = e ++ ([.lit sep] ++ sepBy sep (e2 :: r)) := rfl
      have e3 : sepBy sep (a :: b :: c) = a ++ ([.lit sep] ++ sepBy sep (b :: c)) := rfl
      rw [e1, e3, litText_append, litText_append, litText_append a, litText_append _ (sepBy sep (b :: c)), h2, h.1]
theorem getD_text : ∀ (es fs : List (List Part)) (k : Nat), es.map litText = fs.map litText → litOf (es.getD k []) = litOf (fs.getD k [])
  | [], fs, k, h => by
    cases fs with
    | nil => rfl
    | cons a b => simp at h
  | e :: r, fs, k, h => by
    cases fs with
    | nil => simp at h
    | cons a b =>
      simp only [List.map_cons, List.cons.injEq] at h
      cases k with
      | zero =>
        show litOf e = litOf a
        rw [litOf, litOf, h.1]
      | succ k => exact getD_text r b k h.2
theorem broken_text {es fs : List (List Part)} (h : es.map litText = fs.map litText) : broken es = broken fs := by
  have hl : es.length = fs.length := by simpa using congrArg List.length h
  simp only [broken, getD_text es fs 0 h, getD_text es fs 1 h, getD_text es fs 2 h, hl]
theorem closed_text {f g : Frame} (h1 : f.seq = g.seq) (h2 : f.done.map litText = g.done.map litText) (h3 : litText f.acc = litText g.acc) : litText (closed f) = litText (closed g) := by
  have he := elems_text h2 h3
  have hl : f.elems.length = g.elems.length := by simpa using congrArg List.length he
  have hs := sepBy_text dots _ _ he
  unfold closed
  rw [hl, h1, broken_text he]
  split
  · simp only [litText_append, h3]
  · split
    · split
      · simp only [litText_append, hs]
      · rfl
    · rfl
theorem unclosed_text {f g : Frame} (h1 : f.seq = g.seq) (h2 : f.done.map litText = g.done.map litText) (h3 : litText f.acc = litText g.acc) : litText (unclosed f) = litText (unclosed g) := by
  have he := elems_text h2 h3
  have e1 : ∀ k : Frame, unclosed k = [.lit lb] ++ sepBy (if k.seq then dots else cm) k.elems := fun _ => rfl
  rw [e1, e1, litText_append, litText_append, h1, sepBy_text _ _ _ he]
theorem render_text : ∀ {a b : St}, abs a = abs b → litText (render a) = litText (render b) := by
  intro a b h
  obtain ⟨at_, as_⟩ := a
  obtain ⟨bt_, bs_⟩ := b
  induction as_ generalizing bs_ with
  | nil =>
    obtain ⟨ht, hc⟩ := abs_cases h
    rcases hc with ⟨_, h2⟩ | ⟨f, r, g, q, h1, _⟩
    · simp only at h2 ht
      subst h2
      show litText (unwind [] at_) = litText (unwind [] bt_)
      rw [unwind, unwind, ht]
    · simp at h1
  | cons f r ih =>
    obtain ⟨ht, hc⟩ := abs_cases h
    rcases hc with ⟨h1, _⟩ | ⟨f1, r1, g, q, h1, h2, h3, h4, h5, h6⟩
    · simp at h1
    · simp only [List.cons.injEq] at h1 h2 ht
      obtain ⟨rfl, rfl⟩ := h1
      subst h2
      have h7 := ih q (by simp only [abs, ht, h6])
      show litText (unwind (f :: r) at_) = litText (unwind (g :: q) bt_)
      rw [unwind_cons, unwind_cons, litText_append, litText_append, unclosed_text h3 h4 h5]
      have h8 : litText (unwind r at_) = litText (unwind q bt_) := h7
      rw [h8]

/- Tokens. -/
inductive Tok where
  | opn | com | dts | cls
def Tok.txt : Tok → ByteArray
  | .opn => lb
  | .com => cm
  | .dts => dots
  | .cls => rb
/-- What of the state decides on tokens. -/
def hd (st : St) : Option (Bool × Bool) := match st.stack with
  | [] => none
  | f :: _ => some (f.seq, f.done.isEmpty)
def tokAt (v : ByteArray) (j : Nat) (h : Option (Bool × Bool)) : Option Tok :=
  if bt v j = 92 then none
  else if bt v j = 123 then some .opn
  else if bt v j = 44 then h.map fun _ => .com
  else if bt v j = 46 then h.bind fun x => if v.size ≤ j + 1 ∨ bt v (j + 1) ≠ 46 then none else if x.1 = false ∧ x.2 = false then none else some .dts
  else if bt v j = 125 then h.map fun _ => .cls
  else none
def act (t : Tok) (st : St) : St := match t, st.stack with
  | .opn, s => { st with stack := ⟨false, [], []⟩ :: s }
  | _, [] => st
  | .com, f :: r => { st with stack := (if f.seq then ⟨false, [sepBy dots f.elems], []⟩ else ⟨false, f.elems, []⟩) :: r }
  | .dts, f :: r => { st with stack := ⟨true, f.elems, []⟩ :: r }
  | .cls, f :: r => ({ st with stack := r } : St).push (closed f)
def nxt (v : ByteArray) (j : Nat) : Nat := if bt v j = 92 then j + 2 else j + 1

theorem flush_stack_nil {st : St} (h : st.stack = []) (v : ByteArray) (last j : Nat) : (st.flush v last j).stack = [] := by
  obtain ⟨t, s⟩ := st
  simp only at h
  subst h
  unfold St.flush
  split <;> rfl
theorem flush_stack_cons {st : St} {f : Frame} {r : List Frame} (h : st.stack = f :: r) (v : ByteArray) (last j : Nat) : ∃ a, (st.flush v last j).stack = { f with acc := a } :: r := by
  obtain ⟨t, s⟩ := st
  simp only at h
  subst h
  unfold St.flush
  split
  · exact ⟨f.acc, rfl⟩
  · exact ⟨_, rfl⟩
theorem isEmpty_false {α : Type} (l : List α) : l.isEmpty = false ↔ l ≠ [] := by cases l <;> simp
theorem stepB_eq (v : ByteArray) (j last : Nat) (st : St) : stepB v j last st = match tokAt v j (hd st) with
    | none => (nxt v j, last, st)
    | some t => (j + t.txt.size, j + t.txt.size, act t (st.flush v last j)) := by
  have z1 : lb.size = 1 := rfl
  have z2 : cm.size = 1 := rfl
  have z3 : rb.size = 1 := rfl
  unfold stepB tokAt nxt hd act
  by_cases h1 : bt v j = 92
  · simp [h1]
  by_cases h2 : bt v j = 123
  · simp [h2, Tok.txt, z1]
  by_cases h3 : bt v j = 44
  · cases hs : st.stack with
    | nil => simp [h3, flush_stack_nil hs]
    | cons f r =>
      obtain ⟨a, ha⟩ := flush_stack_cons hs v last j
      simp [h3, ha, Tok.txt, z2]
  by_cases h4 : bt v j = 46
  · cases hs : st.stack with
    | nil => simp [h4]
    | cons f r =>
      obtain ⟨a, ha⟩ := flush_stack_cons hs v last j
      by_cases h5 : v.size ≤ j + 1 ∨ bt v (j + 1) ≠ 46
      · simp [h4, h5]
      · by_cases h6 : f.seq = false ∧ f.done ≠ []
        · have h7 : f.done.isEmpty = false := (isEmpty_false _).2 h6.2
          simp [h4, h5, h6.1, h6.2, h7]
        · have h7 : ¬ (f.seq = false ∧ f.done.isEmpty = false) := fun e => h6 ⟨e.1, (isEmpty_false _).1 e.2⟩
          rw [if_neg h1, if_neg h2, if_neg h3, if_pos h4]
          simp only [h4, if_true, Option.bind_some, if_neg h5, if_neg h6, if_neg h7, ha]
          rfl
  by_cases h8 : bt v j = 125
  · cases hs : st.stack with
    | nil => simp [h8, flush_stack_nil hs]
    | cons f r =>
      obtain ⟨a, ha⟩ := flush_stack_cons hs v last j
      simp [h8, ha, Tok.txt, z3]
  · simp [h1, h2, h3, h4, h8]

theorem abs_hd {a b : St} (h : abs a = abs b) : hd a = hd b := by
  obtain ⟨_, hc⟩ := abs_cases h
  rcases hc with ⟨h1, h2⟩ | ⟨f, r, g, q, h1, h2, h3, h4, h5, h6⟩
  · simp only [hd, h1, h2]
  · have e : f.done.isEmpty = g.done.isEmpty := by
      have := congrArg List.isEmpty h4
      simpa using this
    simp only [hd, h1, h2, h3, e]
theorem abs_act {a b : St} (h : abs a = abs b) (t : Tok) : abs (act t a) = abs (act t b) := by
  obtain ⟨ht, hc⟩ := abs_cases h
  obtain ⟨at_, as_⟩ := a
  obtain ⟨bt_, bs_⟩ := b
  simp only at ht hc
  rcases hc with ⟨rfl, rfl⟩ | ⟨f, r, g, q, rfl, rfl, h3, h4, h5, h6⟩
  · cases t <;> simp [act, abs, ht, absF]
  · have he := elems_text h4 h5
    cases t with
    | opn => simp [act, abs, absF, ht, h3, h4, h5]; exact h6
    | com =>
      by_cases hq : g.seq = true
      · have hs := sepBy_text dots _ _ he
        simp [act, abs, ht, absF, h3, hq, hs]
        exact h6
      · simp [act, abs, ht, absF, h3, hq]
        exact ⟨he, h6⟩
    | dts =>
      simp [act, abs, ht, absF]
      exact ⟨he, h6⟩
    | cls => exact abs_push (a := ⟨at_, r⟩) (b := ⟨bt_, q⟩) (by simp only [abs, ht, h6]) (closed_text h3 h4 h5)
theorem abs_run (v : ByteArray) : ∀ (n j last : Nat) {a b : St}, abs a = abs b → (runB v n j last a).1 = (runB v n j last b).1 ∧ abs (runB v n j last a).2 = abs (runB v n j last b).2
  | 0, _, _, _, _, h => ⟨rfl, h⟩
  | n + 1, j, last, a, b, h => by
    unfold runB
    split
    · rw [stepB_eq, stepB_eq, abs_hd h]
      cases tokAt v j (hd b) with
      | none => exact abs_run v n _ _ h
      | some t => exact abs_run v n _ _ (abs_act (abs_flush h v last j) t)
    · exact ⟨rfl, h⟩
theorem stepP_lit (st : St) (v : ByteArray) : stepP st (.lit v) = (runB v (v.size + 1) 0 0 st).2.push [.lit (v.extract (runB v (v.size + 1) 0 0 st).1 v.size)] := by
  show (match runB v (v.size + 1) 0 0 st with | (last, st') => if last = 0 then st'.push [.lit v] else st'.push [.lit (v.extract last v.size)]) = _
  generalize runB v (v.size + 1) 0 0 st = x
  obtain ⟨l, s⟩ := x
  simp only
  split
  · rename_i h
    subst h
    rw [show v.extract 0 v.size = v from by simp]
  · rfl
theorem abs_step {a b : St} (h : abs a = abs b) (p : Part) : abs (stepP a p) = abs (stepP b p) := by
  cases p with
  | lit v =>
    rw [stepP_lit, stepP_lit]
    obtain ⟨h1, h2⟩ := abs_run v (v.size + 1) 0 0 h
    rw [h1]
    exact abs_push h2 rfl
  | brace q es => exact abs_push h rfl
  | other t x => exact abs_push h rfl
theorem abs_fold : ∀ (ps : List Part) {a b : St}, abs a = abs b → abs (ps.foldl stepP a) = abs (ps.foldl stepP b)
  | [], _, _, h => h
  | p :: r, _, _, h => abs_fold r (abs_step h p)

theorem render_act (t : Tok) (st : St) (h : t = .opn ∨ st.stack ≠ []) (hd : t = .dts → ∀ f r, st.stack = f :: r → f.seq = true ∨ f.done = []) : litText (render (act t st)) = none ∨ render (act t st) = render st ++ [.lit t.txt] := by
  obtain ⟨top, stack⟩ := st
  cases stack with
  | nil =>
    rcases h with rfl | h
    · right
      show unwind [⟨false, [], []⟩] top = unwind [] top ++ [.lit lb]
      rw [unwind_cons]
      rfl
    · exact absurd rfl h
  | cons f r =>
    have hne : f.elems ≠ [] := by simp [Frame.elems]
    cases t with
    | opn =>
      right
      show unwind (⟨false, [], []⟩ :: f :: r) top = unwind (f :: r) top ++ [.lit lb]
      rw [unwind_cons]
      rfl
    | com =>
      right
      show unwind ((if f.seq then ⟨false, [sepBy dots f.elems], []⟩ else ⟨false, f.elems, []⟩) :: r) top = unwind (f :: r) top ++ [.lit cm]
      rw [unwind_cons, unwind_cons, List.append_assoc]
      congr 1
      cases hq : f.seq with
      | true =>
        show Part.lit lb :: sepBy cm ([sepBy dots f.elems] ++ [[]]) = Part.lit lb :: sepBy (if f.seq then dots else cm) f.elems ++ [.lit cm]
        rw [sepBy_more _ _ (by simp), hq]
        rfl
      | false =>
        show Part.lit lb :: sepBy cm (f.elems ++ [[]]) = Part.lit lb :: sepBy (if f.seq then dots else cm) f.elems ++ [.lit cm]
        rw [sepBy_more _ _ hne, hq]
        rfl
    | dts =>
      right
      show unwind (⟨true, f.elems, []⟩ :: r) top = unwind (f :: r) top ++ [.lit dots]
      rw [unwind_cons, unwind_cons, List.append_assoc]
      congr 1
      show Part.lit lb :: sepBy dots (f.elems ++ [[]]) = Part.lit lb :: sepBy (if f.seq then dots else cm) f.elems ++ [.lit dots]
      rw [sepBy_more _ _ hne]
      rcases hd rfl f r rfl with hq | hq
      · rw [hq]
        rfl
      · have e1 : f.elems = [f.acc] := by simp [Frame.elems, hq]
        rw [e1]
        rfl
    | cls =>
      have e1 : render (act .cls ⟨top, f :: r⟩) = unwind r top ++ closed f := by
        show render ((⟨top, r⟩ : St).push (closed f)) = _
        rw [render_push]
        rfl
      have e2 : render ⟨top, f :: r⟩ = unwind r top ++ unclosed f := unwind_cons top r f
      rw [e1, e2, litText_append]
      unfold closed
      by_cases h1 : f.elems.length = 1
      · right
        rw [if_pos h1, List.append_assoc (unwind r top) (unclosed f)]
        have e3 : f.done = [] := by
          have : f.done.length = 0 := by simpa [Frame.elems] using h1
          exact List.eq_nil_of_length_eq_zero this
        have e4 : f.elems = [f.acc] := by simp [Frame.elems, e3]
        show unwind r top ++ ([.lit lb] ++ f.acc ++ [.lit rb]) = unwind r top ++ ((Part.lit lb :: sepBy (if f.seq then dots else cm) f.elems) ++ [.lit rb])
        rw [e4]
        rfl
      · rw [if_neg h1]
        cases hq : f.seq with
        | false =>
          left
          exact oapp_none _
        | true =>
          cases hb : broken f.elems with
          | false =>
            left
            exact oapp_none _
          | true =>
            right
            rw [if_pos rfl, if_pos rfl, List.append_assoc (unwind r top) (unclosed f)]
            show unwind r top ++ ([.lit lb] ++ sepBy dots f.elems ++ [.lit rb]) = unwind r top ++ ((Part.lit lb :: sepBy (if f.seq then dots else cm) f.elems) ++ [.lit rb])
            rw [hq]
            rfl
end Go.Proofs.YtmcoifhiiagfpaaDoor

namespace Go.Proofs.YtmcoifhiiagfpaaDoor
open Go.RowKit

/-- Places passed without a change of the state. -/
inductive Passes (v : ByteArray) (h : Option (Bool × Bool)) : Nat → Nat → Prop where
  | refl (i : Nat) : Passes v h i i
  | step (i k : Nat) (hi : i < v.size) (ht : tokAt v i h = none) (r : Passes v h (nxt v i) k) : Passes v h i k
theorem Passes.snoc {v : ByteArray} {h : Option (Bool × Bool)} {i k : Nat} (p : Passes v h i k) (hk : k < v.size) (ht : tokAt v k h = none) : Passes v h i (nxt v k) := by
  induction p with
  | refl i => exact .step i _ hk ht (.refl _)
  | step i k hi h1 r ih => exact .step i _ hi h1 (ih hk ht)

theorem size_extract (v : ByteArray) (a b : Nat) (hb : b ≤ v.size) : (v.extract a b).size = b - a := by
  simp only [ByteArray.size_extract]
  omega
theorem bt_extract (v : ByteArray) (a b i : Nat) (hb : b ≤ v.size) (hi : a + i < b) : bt (v.extract a b) i = bt v (a + i) := by
  have hs := size_extract v a b hb
  rw [bt_get _ i (by omega), bt_get v (a + i) (by omega)]
  congr 1
  exact ByteArray.getElem_extract ..
theorem tokAt_extract {v : ByteArray} {h : Option (Bool × Bool)} {a b i : Nat} (ht : tokAt v (a + i) h = none) (hi : a + i < b) (hb : b ≤ v.size) : tokAt (v.extract a b) i h = none := by
  have hs := size_extract v a b hb
  unfold tokAt at ht ⊢
  rw [bt_extract v a b i hb hi, hs]
  split
  · rfl
  rename_i h1
  rw [if_neg h1] at ht
  split
  · rename_i h2
    rw [if_pos h2] at ht
    cases ht
  rename_i h2
  rw [if_neg h2] at ht
  split
  · rename_i h3
    rw [if_pos h3] at ht
    exact ht
  rename_i h3
  rw [if_neg h3] at ht
  split
  · rename_i h4
    rw [if_pos h4] at ht
    cases h with
    | none => rfl
    | some x =>
      simp only [Option.bind_some] at ht ⊢
      by_cases h5 : b - a ≤ i + 1
      · rw [if_pos (Or.inl h5)]
      · have e : bt (v.extract a b) (i + 1) = bt v (a + i + 1) := bt_extract v a b (i + 1) hb (by omega)
        rw [e]
        by_cases h6 : v.size ≤ a + i + 1 ∨ bt v (a + i + 1) ≠ 46
        · rw [if_pos (h6.elim (fun h => by omega) Or.inr)]
        · rw [if_neg h6] at ht
          split
          · rfl
          · exact ht
  rename_i h4
  rw [if_neg h4] at ht
  exact ht

theorem run_piece {v : ByteArray} {st : St} {a b : Nat} (hb : b ≤ v.size) {i k : Nat} (p : Passes v (hd st) i k) (hi : a ≤ i) (hk : b ≤ k) : ∀ n l, runB (v.extract a b) n (i - a) l st = (l, st) := by
  have hs := size_extract v a b hb
  induction p with
  | refl i =>
    intro n l
    cases n with
    | zero => rfl
    | succ n =>
      unfold runB
      rw [if_neg (by omega)]
  | step i k h1 h2 r ih =>
    intro n l
    cases n with
    | zero => rfl
    | succ n =>
      unfold runB
      by_cases h3 : i < b
      · have e : a + (i - a) = i := by omega
        have h4 : tokAt (v.extract a b) (i - a) (hd st) = none := tokAt_extract (by rw [e]; exact h2) (by omega) hb
        have h5 : nxt (v.extract a b) (i - a) = nxt v i - a := by
          unfold nxt
          rw [bt_extract v a b (i - a) hb (by omega), e]
          split <;> omega
        rw [if_pos (by omega), stepB_eq, h4]
        show runB (v.extract a b) n (nxt (v.extract a b) (i - a)) l st = (l, st)
        rw [h5]
        exact ih (by unfold nxt; split <;> omega) hk n l
      · rw [if_neg (by omega)]
theorem stepP_piece {v : ByteArray} {st : St} {a b k : Nat} (hb : b ≤ v.size) (p : Passes v (hd st) a k) (hk : b ≤ k) : stepP st (.lit (v.extract a b)) = st.push [.lit (v.extract a b)] := by
  have h := run_piece hb p (Nat.le_refl a) hk ((v.extract a b).size + 1) 0
  rw [Nat.sub_self] at h
  have key : ∀ w : ByteArray, w.extract 0 w.size = w := fun w => by simp
  rw [stepP_lit, h]
  show st.push [.lit ((v.extract a b).extract 0 (v.extract a b).size)] = _
  rw [key]

theorem flush_hd (st : St) (v : ByteArray) (last j : Nat) : hd (st.flush v last j) = hd st := by
  cases hs : st.stack with
  | nil => simp only [hd, flush_stack_nil hs, hs]
  | cons f r =>
    obtain ⟨a, ha⟩ := flush_stack_cons hs v last j
    simp only [hd, ha, hs]
theorem tokAt_some {v : ByteArray} {j : Nat} {h : Option (Bool × Bool)} {t : Tok} (ht : tokAt v j h = some t) : tokAt t.txt 0 h = some t := by
  unfold tokAt at ht
  split at ht
  · cases ht
  split at ht
  · cases ht
    rfl
  split at ht
  · cases h with
    | none => cases ht
    | some x =>
      cases ht
      rfl
  split at ht
  · cases h with
    | none => cases ht
    | some x =>
      simp only [Option.bind_some] at ht
      split at ht
      · cases ht
      split at ht
      · cases ht
      · rename_i h2
        cases ht
        show (if (2 : Nat) ≤ 0 + 1 ∨ bt dots (0 + 1) ≠ 46 then none else if x.1 = false ∧ x.2 = false then none else some Tok.dts) = some Tok.dts
        rw [if_neg (by decide), if_neg h2]
  split at ht
  · cases h with
    | none => cases ht
    | some x =>
      cases ht
      rfl
  · cases ht
theorem tokAt_fits {v : ByteArray} {j : Nat} {h : Option (Bool × Bool)} {t : Tok} (hj : j < v.size) (ht : tokAt v j h = some t) : j + t.txt.size ≤ v.size ∧ (∀ i, i < t.txt.size → bt t.txt i = bt v (j + i)) ∧ (t = .opn ∨ h ≠ none) ∧ (t = .dts → ∀ x, h = some x → x.1 = true ∨ x.2 = true) := by
  unfold tokAt at ht
  split at ht
  · cases ht
  have one : ∀ (s : ByteArray), s.size = 1 → bt v j = bt s 0 → ∀ i, i < s.size → bt s i = bt v (j + i) := fun s h1 h2 i h3 => by
    have : i = 0 := by omega
    subst this
    exact h2.symm
  split at ht
  · rename_i h2
    cases ht
    exact ⟨hj, one lb rfl h2, Or.inl rfl, fun h => by cases h⟩
  split at ht
  · rename_i h2
    cases h with
    | none => cases ht
    | some x =>
      cases ht
      exact ⟨hj, one cm rfl h2, Or.inr (by simp), fun h => by cases h⟩
  split at ht
  · rename_i h2
    cases h with
    | none => cases ht
    | some x =>
      simp only [Option.bind_some] at ht
      split at ht
      · cases ht
      rename_i h3
      split at ht
      · cases ht
      · rename_i h4
        cases ht
        have h5 : ¬ v.size ≤ j + 1 := fun h => h3 (Or.inl h)
        have h6 : bt v (j + 1) = 46 := Classical.byContradiction fun h => h3 (Or.inr h)
        refine ⟨by show j + 2 ≤ v.size; omega, fun i hi => ?_, Or.inr (by simp), fun _ y hy => ?_⟩
        · have hi2 : i < 2 := hi
          match i, hi2 with
          | 0, _ => exact h2.symm
          | 1, _ => exact h6.symm
        · cases hy
          cases hx : x.1 with
          | true => exact Or.inl rfl
          | false =>
            cases hx2 : x.2 with
            | true => exact Or.inr rfl
            | false => exact absurd ⟨hx, hx2⟩ h4
  split at ht
  · rename_i h2
    cases h with
    | none => cases ht
    | some x =>
      cases ht
      exact ⟨hj, one rb rfl h2, Or.inr (by simp), fun h => by cases h⟩
  · cases ht

/-- From one state to another: what is left grows by pieces that read as the bytes between, and that lead from the one state to the other; or a brace stands. -/
def Good (st st' : St) (c : List UInt8) : Prop := litText (render st') = none ∨ ∃ X, render st' = render st ++ X ∧ abs (X.foldl stepP st) = abs st' ∧ litText X = some c
theorem Good.refl (st : St) : Good st st [] := Or.inr ⟨[], by simp, rfl, rfl⟩
theorem Good.keeps {st st' : St} {c : List UInt8} (h : Good st st' c) (hn : litText (render st) = none) : litText (render st') = none := by
  rcases h with h | ⟨X, h1, _, _⟩
  · exact h
  · rw [h1, litText_append, hn, none_oapp]
theorem Good.trans {a b d : St} {c e : List UInt8} (h : Good a b c) (k : Good b d e) : Good a d (c ++ e) := by
  rcases h with h | ⟨X, h1, h2, h3⟩
  · exact Or.inl (k.keeps h)
  rcases k with k | ⟨Y, k1, k2, k3⟩
  · exact Or.inl k
  refine Or.inr ⟨X ++ Y, by rw [k1, h1, List.append_assoc], ?_, by rw [litText_append, h3, k3]; rfl⟩
  rw [List.foldl_append]
  exact (abs_fold Y h2).trans k2
theorem good_push {st : St} {s : ByteArray} (h : stepP st (.lit s) = st.push [.lit s]) : Good st (st.push [.lit s]) s.data.toList :=
  Or.inr ⟨[.lit s], render_push _ _, by rw [List.foldl_cons, List.foldl_nil, h], litText_one s⟩
theorem good_flush {v : ByteArray} {st : St} {last j : Nat} (hj : j ≤ v.size) (p : Passes v (hd st) last j) : Good st (st.flush v last j) (v.extract last j).data.toList := by
  unfold St.flush
  split
  · rename_i h
    subst h
    have e : (v.extract last last).data.toList = [] := by
      have h1 := size_extract v last last hj
      rw [Nat.sub_self] at h1
      have h2 : (v.extract last last).data.toList.length = 0 := by rw [Array.length_toList]; exact h1
      exact List.eq_nil_of_length_eq_zero h2
    rw [e]
    exact Good.refl st
  · exact good_push (stepP_piece hj p (Nat.le_refl j))
theorem abs_push_nil (st : St) (s : ByteArray) (h : s.data.toList = []) : abs (st.push [.lit s]) = abs st := by
  obtain ⟨top, stack⟩ := st
  have e : ∀ t : Option (List UInt8), oapp t (some []) = t := fun t => by cases t <;> simp [oapp]
  cases stack with
  | nil => simp [abs, St.push, litText_append, litText_one, h, e]
  | cons f r => simp [abs, absF, St.push, litText_append, litText_one, h, e]
theorem good_act {v : ByteArray} {j : Nat} {st : St} {t : Tok} (hj : j < v.size) (ht : tokAt v j (hd st) = some t) : Good st (act t st) t.txt.data.toList := by
  obtain ⟨h1, h2, h3, h4⟩ := tokAt_fits hj ht
  have hr := render_act t st (h3.imp id fun h e => h (by simp only [hd, e])) (fun e f r hs => by
    have h5 := h4 e (f.seq, f.done.isEmpty) (by simp only [hd, hs])
    rcases h5 with h5 | h5
    · exact Or.inl h5
    · exact Or.inr (List.isEmpty_iff.1 h5))
  rcases hr with hr | hr
  · exact Or.inl hr
  refine Or.inr ⟨[.lit t.txt], hr, ?_, litText_one _⟩
  rw [List.foldl_cons, List.foldl_nil, stepP_lit]
  have hz : 0 < t.txt.size := by cases t <;> decide
  have hrun : runB t.txt (t.txt.size + 1) 0 0 st = (t.txt.size, act t st) := by
    unfold runB
    rw [if_pos hz, stepB_eq, tokAt_some ht]
    show runB t.txt t.txt.size (0 + t.txt.size) (0 + t.txt.size) (act t (st.flush t.txt 0 0)) = _
    rw [show st.flush t.txt 0 0 = st from if_pos rfl, Nat.zero_add]
    cases hn : t.txt.size with
    | zero => omega
    | succ n =>
      unfold runB
      rw [hn, if_neg (by omega)]
  rw [hrun]
  refine abs_push_nil _ _ ?_
  have h5 := size_extract t.txt t.txt.size t.txt.size (Nat.le_refl _)
  rw [Nat.sub_self] at h5
  exact List.eq_nil_of_length_eq_zero (by rw [Array.length_toList]; exact h5)

theorem toList_extract (v : ByteArray) (a b : Nat) : (v.extract a b).data.toList = (v.data.toList.take b).drop a := by
  simp [ByteArray.data_extract, List.drop_take]
theorem bt_toList (v : ByteArray) (i : Nat) (h : i < v.size) : ∃ x, v.data.toList[i]? = some x ∧ bt v i = x.toNat := by
  have hl : i < v.data.toList.length := by rw [Array.length_toList]; exact h
  refine ⟨v.data.toList[i], List.getElem?_eq_getElem hl, ?_⟩
  unfold bt
  rw [List.getD_eq_getElem?_getD, List.getElem?_eq_getElem hl]
  rfl
theorem tok_bytes {v : ByteArray} {j : Nat} {t : Tok} (h1 : j + t.txt.size ≤ v.size) (h2 : ∀ i, i < t.txt.size → bt t.txt i = bt v (j + i)) : (v.extract j (j + t.txt.size)).data.toList = t.txt.data.toList := by
  have hs := size_extract v j (j + t.txt.size) h1
  apply List.ext_getElem?
  intro i
  by_cases hi : i < t.txt.size
  · obtain ⟨x, hx1, hx2⟩ := bt_toList (v.extract j (j + t.txt.size)) i (by omega)
    obtain ⟨y, hy1, hy2⟩ := bt_toList t.txt i hi
    rw [hx1, hy1]
    have e := bt_extract v j (j + t.txt.size) i h1 (by omega)
    have e2 := h2 i hi
    have : x.toNat = y.toNat := by rw [← hx2, ← hy2, e, e2]
    rw [UInt8.toNat_inj.1 this]
  · rw [List.getElem?_eq_none (by rw [Array.length_toList]; show (v.extract j (j + t.txt.size)).size ≤ i; omega), List.getElem?_eq_none (by rw [Array.length_toList]; show t.txt.size ≤ i; omega)]
theorem extract_cut (v : ByteArray) (a b c : Nat) (h1 : a ≤ b) (h2 : b ≤ c) (h3 : c ≤ v.size) : (v.extract a c).data.toList = (v.extract a b).data.toList ++ (v.extract b c).data.toList := by
  rw [toList_extract, toList_extract, toList_extract]
  have h4 : v.data.toList.take c = v.data.toList.take b ++ (v.data.toList.take c).drop b := by
    have h5 := (List.take_append_drop b (v.data.toList.take c)).symm
    rw [List.take_take, Nat.min_eq_left h2] at h5
    exact h5
  conv => lhs; rw [h4]
  rw [List.drop_append_of_le_length]
  rw [List.length_take, Array.length_toList]
  show a ≤ min b v.size
  omega

theorem run_good (v : ByteArray) : ∀ (n j last : Nat) (st : St), last ≤ v.size → last ≤ j → v.size ≤ j + n → Passes v (hd st) last j → Good st ((runB v n j last st).2.push [.lit (v.extract (runB v n j last st).1 v.size)]) (v.extract last v.size).data.toList := by
  have stop : ∀ (j last : Nat) (st : St), v.size ≤ j → Passes v (hd st) last j → Good st (st.push [.lit (v.extract last v.size)]) (v.extract last v.size).data.toList := fun j last st h p => good_push (stepP_piece (Nat.le_refl _) p h)
  intro n
  induction n with
  | zero => exact fun j last st h1 _ h2 p => stop j last st (by omega) p
  | succ n ih =>
    intro j last st h1 hl h2 p
    by_cases hj : j < v.size
    · have e : runB v (n + 1) j last st = (match stepB v j last st with | (j', last', st') => runB v n j' last' st') := by
        conv => lhs; unfold runB
        rw [if_pos hj]
      rw [e, stepB_eq]
      cases ht : tokAt v j (hd st) with
      | none => exact ih (nxt v j) last st h1 (by unfold nxt; split <;> omega) (by unfold nxt; split <;> omega) (p.snoc hj ht)
      | some t =>
        obtain ⟨f1, f2, _⟩ := tokAt_fits hj ht
        have g1 := good_flush (by omega) p
        have g2 := good_act (st := st.flush v last j) hj (by rw [flush_hd]; exact ht)
        have g3 := ih (j + t.txt.size) (j + t.txt.size) (act t (st.flush v last j)) (by omega) (Nat.le_refl _) (by have : 0 < t.txt.size := (by cases t <;> decide); omega) (.refl _)
        have g := (g1.trans g2).trans g3
        rw [← tok_bytes f1 f2, ← extract_cut v last j _ (by omega) (by omega) f1, ← extract_cut v last _ v.size (by omega) f1 (Nat.le_refl _)] at g
        exact g
    · have e : runB v (n + 1) j last st = (last, st) := by
        unfold runB
        rw [if_neg hj]
      rw [e]
      exact stop j last st (by omega) p
theorem good_lit (st : St) (v : ByteArray) : Good st (stepP st (.lit v)) v.data.toList := by
  have h := run_good v (v.size + 1) 0 0 st (Nat.zero_le _) (Nat.le_refl _) (by omega) (.refl 0)
  rw [stepP_lit]
  have e : v.extract 0 v.size = v := by simp
  rw [e] at h
  exact h
theorem bad_push (st : St) (p : Part) (h : litText [p] = none) : litText (render (st.push [p])) = none := by
  rw [render_push, litText_append, h, oapp_none]
theorem fold_good : ∀ (ps : List Part) (st : St), litText (render (ps.foldl stepP st)) = none ∨ ∃ c, litText ps = some c ∧ Good st (ps.foldl stepP st) c
  | [], st => Or.inr ⟨[], rfl, Good.refl st⟩
  | p :: r, st => by
    have h := fold_good r (stepP st p)
    rw [List.foldl_cons]
    rcases h with h | ⟨c, h1, h2⟩
    · exact Or.inl h
    cases p with
    | lit v => exact Or.inr ⟨v.data.toList ++ c, by simp [litText, h1], (good_lit st v).trans h2⟩
    | brace q es => exact Or.inl (h2.keeps (bad_push st _ rfl))
    | other t x => exact Or.inl (h2.keeps (bad_push st _ rfl))
/-- What is left of a word reads as the word did, or a brace stands; and once more it reads the same. -/
theorem split_text (ps : List Part) : (litText (split ps) = none ∨ litText (split ps) = litText ps) ∧ litText (split (split ps)) = litText (split ps) := by
  have hs : ∀ qs : List Part, split qs = render (qs.foldl stepP ⟨[], []⟩) := fun _ => rfl
  have e0 : render ⟨[], []⟩ = [] := by
    show unwind [] [] = []
    rw [unwind]
  rcases fold_good ps ⟨[], []⟩ with h | ⟨c, h1, h2⟩
  · have h3 : litText (split ps) = none := h
    refine ⟨Or.inl h3, ?_⟩
    rw [h3]
    rcases fold_good (split ps) ⟨[], []⟩ with k | ⟨c, k1, k2⟩
    · exact k
    · rw [h3] at k1
      cases k1
  · rcases h2 with h2 | ⟨X, a1, a2, a3⟩
    · have h3 : litText (split ps) = none := h2
      refine ⟨Or.inl h3, ?_⟩
      rw [h3]
      rcases fold_good (split ps) ⟨[], []⟩ with k | ⟨c, k1, k2⟩
      · exact k
      · rw [h3] at k1
        cases k1
    · rw [e0, List.nil_append] at a1
      have e1 : split ps = X := a1
      refine ⟨Or.inr (by rw [e1, a3, h1]), ?_⟩
      rw [hs (split ps), e1]
      exact (render_text a2).trans (by rw [a1])
theorem split_stable (ps : List Part) : litOf (split (split ps)) = litOf (split ps) := by
  rw [litOf, litOf, (split_text ps).2]
end Go.Proofs.YtmcoifhiiagfpaaDoor

namespace Go.Proofs.YtmcoifhiiagfpaaDoor
open Go.RowKit

def isDig (c : UInt8) : Bool := decide (48 ≤ c.toNat) && decide (c.toNat ≤ 57)
def dval (acc : Nat) (l : List UInt8) : Nat := l.foldl (fun a c => a * 10 + (c.toNat - 48)) acc
theorem dval_nil (acc : Nat) : dval acc [] = acc := by simp only [dval, List.foldl_nil]
theorem dval_cons (acc : Nat) (c : UInt8) (r : List UInt8) : dval acc (c :: r) = dval (acc * 10 + (c.toNat - 48)) r := by simp only [dval, List.foldl_cons]
theorem dval_acc (l : List UInt8) : ∀ acc : Nat, dval acc l = acc * 10 ^ l.length + dval 0 l := by
  induction l with
  | nil =>
    intro acc
    rw [dval_nil, dval_nil, List.length_nil, Nat.pow_zero, Nat.mul_one, Nat.add_zero]
  | cons c r ih =>
    intro acc
    rw [dval_cons, ih, dval_cons, ih (0 * 10 + _), List.length_cons, Nat.pow_succ, Nat.add_mul, Nat.zero_mul, Nat.zero_add]
    rw [Nat.mul_assoc acc 10, Nat.mul_comm 10, Nat.add_assoc]
theorem dval_ge (l : List UInt8) (acc : Nat) : acc ≤ dval acc l := by
  rw [dval_acc]
  have h : 0 < 10 ^ l.length := Nat.pow_pos (by decide)
  have := Nat.le_mul_of_pos_right acc h
  exact Nat.le_trans this (Nat.le_add_right _ _)
theorem dval_lt (l : List UInt8) : l.all isDig = true → dval 0 l < 10 ^ l.length := by
  induction l with
  | nil =>
    intro _
    rw [dval_nil, List.length_nil, Nat.pow_zero]
    exact Nat.one_pos
  | cons c r ih =>
    intro h
    rw [List.all_cons, Bool.and_eq_true] at h
    have hr := ih h.2
    have hc : c.toNat - 48 ≤ 9 := by
      have := h.1
      simp only [isDig, Bool.and_eq_true, decide_eq_true_eq] at this
      omega
    rw [dval_cons, dval_acc, List.length_cons, Nat.pow_succ, Nat.zero_mul, Nat.zero_add]
    have := Nat.mul_le_mul_right (10 ^ r.length) hc
    generalize 10 ^ r.length = X at *
    omega
theorem dval_append (a b : List UInt8) : ∀ acc : Nat, dval acc (a ++ b) = dval (dval acc a) b := by
  induction a with
  | nil =>
    intro acc
    rw [List.nil_append, dval_nil]
  | cons c r ih =>
    intro acc
    rw [List.cons_append, dval_cons, ih, dval_cons]
/-- The first place that differs decides. -/
theorem dval_lex {p x y : List UInt8} {c d : UInt8} (hl : x.length = y.length) (hx : x.all isDig = true) (hc : isDig c = true) (hcd : c.toNat < d.toNat) : dval 0 (p ++ c :: x) < dval 0 (p ++ d :: y) := by
  rw [dval_append, dval_append, dval_cons, dval_cons, dval_acc x, dval_acc y, hl]
  have h1 := dval_lt x hx
  rw [hl] at h1
  simp only [isDig, Bool.and_eq_true, decide_eq_true_eq] at hc
  have h2 : dval 0 p * 10 + (c.toNat - 48) + 1 ≤ dval 0 p * 10 + (d.toNat - 48) := by omega
  have h3 := Nat.mul_le_mul_right (10 ^ y.length) h2
  rw [Nat.add_mul _ 1, Nat.one_mul] at h3
  generalize 10 ^ y.length = X at *
  omega

theorem parseUintM_ok (l : List UInt8) : ∀ (acc u : Nat), acc ≤ 18446744073709551615 → (Lib.parseUintM 18446744073709551615 acc l = .ok u ↔ (l.all isDig = true ∧ dval acc l ≤ 18446744073709551615 ∧ u = dval acc l)) := by
  induction l with
  | nil =>
    intro acc u ha
    simp only [Lib.parseUintM, List.all_nil, dval_nil, true_and]
    constructor
    · intro h
      cases h
      exact ⟨ha, rfl⟩
    · rintro ⟨_, rfl⟩
      rfl
  | cons c r ih =>
    intro acc u ha
    simp only [Lib.parseUintM, List.all_cons, dval_cons, Bool.and_eq_true]
    by_cases hd : 48 ≤ c.toNat ∧ c.toNat ≤ 57
    · have hdd : isDig c = true := by simp [isDig, hd]
      rw [if_pos hd]
      have hg := dval_ge r (acc * 10 + (c.toNat - 48))
      by_cases h1 : 1844674407370955162 ≤ acc
      · rw [if_pos h1]
        constructor
        · intro h
          cases h
        · rintro ⟨_, h, _⟩
          omega
      · rw [if_neg h1]
        by_cases h2 : 18446744073709551615 < acc * 10 + (c.toNat - 48)
        · rw [if_pos h2]
          constructor
          · intro h
            cases h
          · rintro ⟨_, h, _⟩
            omega
        · rw [if_neg h2, ih _ u (by omega)]
          simp [hdd]
    · rw [if_neg hd]
      have hdd : isDig c = false := by
        simp only [isDig, Bool.and_eq_false_iff, decide_eq_false_iff_not]
        omega
      constructor
      · intro h
        cases h
      · rintro ⟨⟨h, _⟩, _⟩
        rw [hdd] at h
        cases h

/-- An int64 in decimal, by its digits. -/
def intOk (l : List UInt8) : Bool := match l with
  | [] => false
  | c :: r =>
    let b := if c.toNat = 43 ∨ c.toNat = 45 then r else c :: r
    !b.isEmpty && b.all isDig && decide (dval 0 b ≤ if c.toNat = 45 then 9223372036854775808 else 9223372036854775807)

theorem isNum_eq (s : ByteArray) : isNum s = intOk s.data.toList := by
  unfold isNum
  generalize s.data.toList = l
  cases l with
  | nil => rfl
  | cons c r =>
    simp only [Lib.parseIntB, intOk]
    generalize hb : (if c.toNat = 43 ∨ c.toNat = 45 then r else c :: r) = b
    unfold Lib.parseUintB
    cases b with
    | nil => simp
    | cons d q =>
      rw [if_neg (by simp)]
      have e : (2 ^ 64 - 1 : Nat) = 18446744073709551615 := by decide
      have e2 : (2 ^ (64 - 1) : Nat) = 9223372036854775808 := by decide
      rw [e, e2]
      have key := parseUintM_ok (d :: q) 0
      rcases hp : Lib.parseUintM 18446744073709551615 0 (d :: q) with u | _ | _
      ·
        obtain ⟨h1, h2, h3⟩ := (key u (by decide)).1 hp
        subst h3
        simp only [h1, List.isEmpty_cons, Bool.not_false, Bool.true_and]
        by_cases hn : c.toNat = 45
        · simp only [hn, not_true, false_and, if_false, true_and, if_true]
          by_cases h4 : 9223372036854775808 < dval 0 (d :: q)
          · rw [if_pos h4]
            simp
            omega
          · rw [if_neg h4]
            simp
            omega
        · simp only [hn, not_false_iff, true_and, false_and, if_false]
          by_cases h4 : 9223372036854775808 ≤ dval 0 (d :: q)
          · rw [if_pos h4]
            simp
            omega
          · rw [if_neg h4]
            simp
            omega
      ·
        have h : ¬ ((d :: q).all isDig = true ∧ dval 0 (d :: q) ≤ 18446744073709551615) := fun h => by
          have := (key _ (by decide)).2 ⟨h.1, h.2, rfl⟩
          rw [hp] at this
          cases this
        symm
        simp only [Bool.and_eq_false_iff, List.isEmpty_cons, Bool.not_false, decide_eq_false_iff_not]
        by_cases ha : (d :: q).all isDig = true
        · right
          have : ¬ dval 0 (d :: q) ≤ 18446744073709551615 := fun k => h ⟨ha, k⟩
          split <;> omega
        · left
          right
          simpa using ha
      ·
        have h : ¬ ((d :: q).all isDig = true ∧ dval 0 (d :: q) ≤ 18446744073709551615) := fun h => by
          have := (key _ (by decide)).2 ⟨h.1, h.2, rfl⟩
          rw [hp] at this
          cases this
        symm
        simp only [Bool.and_eq_false_iff, List.isEmpty_cons, Bool.not_false, decide_eq_false_iff_not]
        by_cases ha : (d :: q).all isDig = true
        · right
          have : ¬ dval 0 (d :: q) ≤ 18446744073709551615 := fun k => h ⟨ha, k⟩
          split <;> omega
        · left
          right
          simpa using ha

/-- The greatest of the sign's numbers, digit by digit. -/
def limL (neg : Bool) : List UInt8 := [57, 50, 50, 51, 51, 55, 50, 48, 51, 54, 56, 53, 52, 55, 55, 53, 56, 48, if neg then 56 else 55]
theorem limL_len (neg : Bool) : (limL neg).length = 19 := rfl
theorem limL_dig (neg : Bool) : (limL neg).all isDig = true := by cases neg <;> decide
theorem limL_val (neg : Bool) : dval 0 (limL neg) = if neg then 9223372036854775808 else 9223372036854775807 := by cases neg <;> decide

theorem dval_zeros (l : List UInt8) : ∀ k : Nat, k ≤ l.length → (∀ j, j < k → l[j]? = some 48) → dval 0 l = dval 0 (l.drop k) := by
  induction l with
  | nil =>
    intro k hk _
    obtain rfl : k = 0 := by simpa using hk
    rfl
  | cons c r ih =>
    intro k hk hz
    cases k with
    | zero => rfl
    | succ k =>
      have h0 : c = 48 := by simpa using hz 0 (by omega)
      subst h0
      have := ih k (by simpa using hk) (fun j hj => by simpa using hz (j + 1) (by omega))
      rw [List.drop_succ_cons, ← this, dval_cons]
      rfl
/-- The comparison with the greatest number. -/
theorem cut_at {l : List UInt8} {j : Nat} {x : UInt8} (h : l[j]? = some x) : l = l.take j ++ x :: l.drop (j + 1) := by
  have hlt := (List.getElem?_eq_some_iff.1 h).1
  have hx := (List.getElem?_eq_some_iff.1 h).2
  conv => lhs; rw [← List.take_append_drop j l, List.drop_eq_getElem_cons hlt, hx]
theorem all_drop {l : List UInt8} (k : Nat) (h : l.all isDig = true) : (l.drop k).all isDig = true := by
  rw [List.all_eq_true] at h ⊢
  exact fun x hx => h x (List.mem_of_mem_drop hx)
theorem lex_less {D L : List UInt8} {j : Nat} {x y : UInt8} (hl : D.length = L.length) (hD : D.all isDig = true) (ht : D.take j = L.take j) (hx : D[j]? = some x) (hy : L[j]? = some y) (h : x.toNat < y.toNat) : dval 0 D < dval 0 L := by
  rw [cut_at hx, cut_at hy, ht]
  refine dval_lex (by simp [hl]) (all_drop _ hD) ?_ h
  rw [List.all_eq_true] at hD
  exact hD x (List.mem_of_getElem? hx)
end Go.Proofs.YtmcoifhiiagfpaaDoor

namespace Go.Proofs.YtmcoifhiiagfpaaDoor
open Go.RowKit

theorem sz_render (st : St) : sz (render st) ≤ st.sz := by
  obtain ⟨top, stack⟩ := st
  induction stack with
  | nil =>
    show sz (unwind [] top) ≤ sz top + 0
    rw [unwind]
    exact Nat.le_refl _
  | cons f r ih =>
    show sz (unwind (f :: r) top) ≤ sz top + ((f :: r).map Frame.sz).sum
    have h1 : sz (unwind r top) ≤ sz top + (r.map Frame.sz).sum := ih
    have h2 := unclosed_sz f
    rw [unwind_cons, sz_append, List.map_cons, List.sum_cons]
    omega
theorem sz_split (ps : List Part) : sz (split ps) ≤ 10 * sz ps + 20 * ps.length := by
  have h1 := sz_render (ps.foldl stepP ⟨[], []⟩)
  have h2 := foldP_sz ps ⟨[], []⟩
  have h0 : (⟨[], []⟩ : St).sz = 0 := rfl
  have e : split ps = render (ps.foldl stepP ⟨[], []⟩) := rfl
  rw [e]
  omega
theorem weight_sz : ∀ ps : List Part, weight ps ≤ sz ps
  | [] => Nat.le_refl _
  | .lit s :: r => by
    have h := weight_sz r
    have e : psz (Part.lit s) = 1 + s.size := rfl
    rw [sz_cons, weight]
    omega
  | .brace q es :: r => by
    have h := weight_sz r
    rw [sz_cons]
    show weight r ≤ _
    omega
  | .other t x :: r => by
    have h := weight_sz r
    rw [sz_cons]
    show weight r ≤ _
    omega

/-- The word at P holds these parts. -/
def Wd (P : Nat) (ps : List Part) (w : World) : Prop := ∃ v vals, w.heap[P]? = some (.cells #[v] 40 (0, 0)) ∧ RowAt w (fun k => k = P) v vals ∧ PartsAt w (fun k => k = P) vals ps
/-- All but the word's own block is as it was. -/
structure Kept (P : Nat) (w w' : World) : Prop where
  block : ∀ k, k < w.heap.size → k ≠ P → w'.heap[k]? = w.heap[k]?
  size : w.heap.size ≤ w'.heap.size
  os : w'.os = w.os
  tape : w'.tape = w.tape
  output : w'.output = w.output
theorem Kept.refl (P : Nat) (w : World) : Kept P w w := ⟨fun _ _ _ => rfl, Nat.le_refl _, rfl, rfl, rfl⟩
theorem Kept.trans {P : Nat} {w w1 w2 : World} (h : Kept P w w1) (k : Kept P w1 w2) : Kept P w w2 :=
  ⟨fun i hi hn => (k.block i (Nat.lt_of_lt_of_le hi h.size) hn).trans (h.block i hi hn), Nat.le_trans h.size k.size, k.os.trans h.os, k.tape.trans h.tape, k.output.trans h.output⟩
theorem Kept.of_below {P : Nat} {w w' : World} (h : Below w.heap.size w w') : Kept P w w' := ⟨fun k hk _ => h.block k hk, h.size, h.os, h.tape, h.output⟩
theorem Kept.below {P : Nat} {w w' : World} (h : Kept P w w') (hP : P < w.heap.size) : Below P w w' := ⟨h.os, h.tape, h.output, h.size, fun k hk => h.block k (by omega) (by omega)⟩
theorem Wd.below {P : Nat} {ps : List Part} {w w' : World} (h : Wd P ps w) (hb : Below w.heap.size w w') : Wd P ps w' := by
  obtain ⟨v, vals, h1, h2, h3⟩ := h
  have hs : Safe (fun k => k = P) (fun k => k = P) w w' := ⟨fun k hk _ => hb.block k hk, fun _ _ x => x⟩
  exact ⟨v, vals, (hb.block _ (Array.getElem?_eq_some_iff.1 h1).1).trans h1, h2.safe hs, h3.safe hs⟩

theorem split_any (P : Nat) (w : World) {ps : List Part} (h : Wd P ps w) (hB : 19 * sz ps + 20 * ps.length + 100 ≤ 100000000) (hE : Errs w) :
    Calls Tryd.prog 9 #[.pointer (some ⟨P, 0, none⟩)] w fun e w' => ∃ ps', e = .returned (.bool (ps.any holds)) ∧ Wd P ps' w' ∧ Kept P w w' ∧ ((ps.any holds = false ∧ ps' = ps ∧ w = w') ∨ (ps.any holds = true ∧ ps' = split ps)) := by
  obtain ⟨v, vals, h1, h2, h3⟩ := h
  letI : Pw := ⟨P⟩
  cases hh : ps.any holds with
  | false => exact (split_no w h1 h2 h3 hh hB).mono fun e w' ⟨he, hw⟩ => ⟨ps, he, by rw [← hw]; exact ⟨v, vals, h1, h2, h3⟩, by rw [← hw]; exact Kept.refl _ _, Or.inl ⟨rfl, rfl, hw⟩⟩
  | true => exact (split_yes w h1 h2 h3 hh hB hE).mono fun e w' ⟨he, hw⟩ => ⟨split ps, he, hw.word, ⟨hw.kept, hw.size, hw.os, hw.tape, hw.output⟩, Or.inr ⟨rfl, rfl⟩⟩
theorem wlit_any (P : Nat) (w : World) {ps : List Part} (h : Wd P ps w) (hB : sz ps ≤ 100000000) :
    Calls Tryd.prog 30 #[.pointer (some ⟨P, 0, none⟩)] w fun e w' => e = .returned (.string (litOf ps)) ∧ Below w.heap.size w w' := by
  obtain ⟨v, vals, h1, h2, h3⟩ := h
  have := sz_length ps
  have := weight_sz ps
  letI : Pw := ⟨P⟩
  exact lit_any w _ P v vals ps h1 h2 h3 (by omega) (by omega)

end Go.Proofs.YtmcoifhiiagfpaaDoor

namespace Go.Proofs.YtmcoifhiiagfpaaDoor
open Go.RowKit

inductive Sym where
  | b (c : UInt8)
  | o (p : Part)
/-- The state between two symbols: what of the literal in hand is not laid down yet (none: no literal in hand), the splitter's state, whether the next symbol is the second of two dots. -/
structure Cfg where
  pend : Option (List UInt8)
  st : St
  skip : Bool

def bytesOf (l : List UInt8) : ByteArray := ⟨l.toArray⟩
theorem bytesOf_list (l : List UInt8) : (bytesOf l).data.toList = l := rfl
def Cfg.bytes (c : Cfg) : List UInt8 := c.pend.getD []
/-- The literal in hand ends. -/
def Cfg.close (c : Cfg) : St := match c.pend with
  | none => c.st
  | some q => c.st.push [.lit (bytesOf q)]
/-- A token comes: what is not laid down yet is laid down. -/
def Cfg.flush (c : Cfg) : St := if c.bytes = [] then c.st else c.st.push [.lit (bytesOf c.bytes)]
/-- Is this byte a token? r: what follows. -/
def tokS (x : UInt8) (r : List Sym) (h : Option (Bool × Bool)) : Option Tok :=
  if x.toNat = 123 then some .opn
  else if x.toNat = 44 then h.map fun _ => .com
  else if x.toNat = 46 then match r with
    | .b y :: _ => if y.toNat = 46 then h.bind fun z => if z.1 = false ∧ z.2 = false then none else some .dts else none
    | _ => none
  else if x.toNat = 125 then h.map fun _ => .cls
  else none
def symR : List Sym → Cfg → Cfg
  | [], c => c
  | .o p :: r, c => symR r ⟨none, c.close.push [p], false⟩
  | .b x :: r, c =>
    if c.skip = true then symR r ⟨some [], c.st, false⟩
    else match tokS x r (hd c.st) with
      | none => symR r ⟨some (c.bytes ++ [x]), c.st, false⟩
      | some .dts => symR r ⟨some [], act .dts c.flush, true⟩
      | some t => symR r ⟨some [], act t c.flush, false⟩

/-- What follows a literal: nothing, or an opaque part. -/
def Stops (r : List Sym) : Prop := ∀ x q, r ≠ .b x :: q
theorem tokS_tok {v : ByteArray} {j : Nat} {x : UInt8} {rest : List Sym} {h : Option (Bool × Bool)} (hr : Stops rest) (hx : v.data.toList[j]? = some x) (h92 : x.toNat ≠ 92) : tokS x ((v.data.toList.drop (j + 1)).map .b ++ rest) h = tokAt v j h := by
  have hb : bt v j = x.toNat := by
    unfold bt
    rw [List.getD_eq_getElem?_getD, hx]
    rfl
  have hsz : v.data.toList.length = v.size := by rw [Array.length_toList]; rfl
  unfold tokS tokAt
  rw [hb, if_neg h92]
  by_cases h1 : x.toNat = 123
  · rw [if_pos h1, if_pos h1]
  rw [if_neg h1, if_neg h1]
  by_cases h2 : x.toNat = 44
  · rw [if_pos h2, if_pos h2]
  rw [if_neg h2, if_neg h2]
  by_cases h3 : x.toNat = 46
  · rw [if_pos h3, if_pos h3]
    by_cases hj : j + 1 < v.size
    · have hd : v.data.toList.drop (j + 1) = v.data.toList[j + 1]'(by omega) :: v.data.toList.drop (j + 2) := List.drop_eq_getElem_cons (by omega)
      have hb2 : bt v (j + 1) = (v.data.toList[j + 1]'(by omega)).toNat := by
        unfold bt
        rw [List.getD_eq_getElem?_getD, List.getElem?_eq_getElem (by omega)]
        rfl
      rw [hd, List.map_cons, List.cons_append]
      simp only
      by_cases h4 : (v.data.toList[j + 1]'(by omega)).toNat = 46
      · rw [if_pos h4]
        cases h with
        | none => rfl
        | some z =>
          simp only [Option.bind_some]
          rw [if_neg (show ¬ (v.size ≤ j + 1 ∨ bt v (j + 1) ≠ 46) by rw [hb2]; omega)]
      · rw [if_neg h4]
        cases h with
        | none => rfl
        | some z =>
          simp only [Option.bind_some]
          rw [if_pos (show v.size ≤ j + 1 ∨ bt v (j + 1) ≠ 46 by rw [hb2]; exact Or.inr h4)]
    · rw [List.drop_eq_nil_of_le (by omega), List.map_nil, List.nil_append]
      have e : (match rest with
        | .b y :: _ => if y.toNat = 46 then h.bind fun z => if z.1 = false ∧ z.2 = false then none else some Tok.dts else none
        | _ => none) = none := by
        cases rest with
        | nil => rfl
        | cons s q =>
          cases s with
          | b y => exact absurd rfl (hr y q)
          | o p => rfl
      rw [e]
      cases h with
      | none => rfl
      | some z =>
        simp only [Option.bind_some]
        rw [if_pos (Or.inl (by omega))]
  rw [if_neg h3, if_neg h3]

theorem extract_nil (v : ByteArray) (i : Nat) : (v.extract i i).data.toList = [] := by
  rw [toList_extract]
  rw [List.drop_eq_nil_iff, List.length_take]
  omega
theorem extract_snoc (v : ByteArray) {i j : Nat} {x : UInt8} (hij : i ≤ j) (hx : v.data.toList[j]? = some x) : (v.extract i (j + 1)).data.toList = (v.extract i j).data.toList ++ [x] := by
  have hlt := (List.getElem?_eq_some_iff.1 hx).1
  rw [toList_extract, toList_extract, List.take_succ_eq_append_getElem hlt, List.drop_append_of_le_length (by rw [List.length_take]; omega), (List.getElem?_eq_some_iff.1 hx).2]
theorem eq_bytesOf (v : ByteArray) : v = bytesOf v.data.toList := by
  obtain ⟨a⟩ := v
  obtain ⟨l⟩ := a
  rfl
theorem cfg_flush {v : ByteArray} {st : St} {last j : Nat} (hl : last ≤ j) (hj : j ≤ v.size) (b : Bool) : (Cfg.mk (some (v.extract last j).data.toList) st b).flush = st.flush v last j := by
  have hs := size_extract v last j hj
  have hlen : (v.extract last j).data.toList.length = j - last := by rw [Array.length_toList]; exact hs
  unfold Cfg.flush St.flush Cfg.bytes
  simp only [Option.getD_some]
  by_cases e : last = j
  · subst e
    rw [if_pos (extract_nil v last), if_pos rfl]
  · rw [if_neg (fun h => by rw [h] at hlen; simp at hlen; omega), if_neg e, ← eq_bytesOf]

/-- One literal, symbol by symbol. -/
theorem run_sym (v : ByteArray) (hv : ∀ x ∈ v.data.toList, x.toNat ≠ 92) (rest : List Sym) (hr : Stops rest) : ∀ (n j last : Nat) (st : St), last ≤ j → j ≤ v.size → v.size ≤ j + n →
    symR ((v.data.toList.drop j).map .b ++ rest) ⟨some (v.extract last j).data.toList, st, false⟩ = symR rest ⟨some (v.extract (runB v n j last st).1 v.size).data.toList, (runB v n j last st).2, false⟩ := by
  have hsz : v.data.toList.length = v.size := by rw [Array.length_toList]; rfl
  intro n
  induction n with
  | zero =>
    intro j last st hl hj hn
    obtain rfl : j = v.size := by omega
    rw [List.drop_eq_nil_of_le (by omega)]
    rfl
  | succ n ih =>
    intro j last st hl hj hn
    by_cases hlt : j < v.size
    · obtain ⟨x, hx⟩ : ∃ x, v.data.toList[j]? = some x := ⟨_, List.getElem?_eq_getElem (by omega)⟩
      have h92 := hv x (List.mem_of_getElem? hx)
      have hbt : bt v j = x.toNat := by
        unfold bt
        rw [List.getD_eq_getElem?_getD, hx]
        rfl
      have hd1 : v.data.toList.drop j = x :: v.data.toList.drop (j + 1) := by
        rw [List.drop_eq_getElem_cons (by omega), (List.getElem?_eq_some_iff.1 hx).2]
      have er : runB v (n + 1) j last st = (match stepB v j last st with | (j', last', st') => runB v n j' last' st') := by
        conv => lhs; unfold runB
        rw [if_pos hlt]
      rw [er, stepB_eq, hd1, List.map_cons, List.cons_append, symR, if_neg (by simp), tokS_tok hr hx h92]
      cases ht : tokAt v j (hd st) with
      | none =>
        have hn1 : nxt v j = j + 1 := by unfold nxt; rw [hbt, if_neg h92]
        show symR _ ⟨some ((v.extract last j).data.toList ++ [x]), st, false⟩ = symR rest ⟨some (v.extract (runB v n (nxt v j) last st).1 v.size).data.toList, (runB v n (nxt v j) last st).2, false⟩
        rw [hn1, ← ih (j + 1) last st (by omega) (by omega) (by omega), extract_snoc v hl hx]
      | some t =>
        obtain ⟨f1, f2, f3, f4⟩ := tokAt_fits hlt ht
        have hfl := cfg_flush (st := st) hl hj false
        have key : ∀ j2, symR ((v.data.toList.drop j2).map .b ++ rest) ⟨some [], act t (st.flush v last j), false⟩ = symR ((v.data.toList.drop j2).map .b ++ rest) ⟨some (v.extract j2 j2).data.toList, act t (st.flush v last j), false⟩ := fun j2 => by rw [extract_nil]
        have hgo : symR ((v.data.toList.drop (j + t.txt.size)).map .b ++ rest) ⟨some [], act t (st.flush v last j), false⟩ = symR rest ⟨some (v.extract (runB v n (j + t.txt.size) (j + t.txt.size) (act t (st.flush v last j))).1 v.size).data.toList, (runB v n (j + t.txt.size) (j + t.txt.size) (act t (st.flush v last j))).2, false⟩ := by
          have hz : 0 < t.txt.size := by cases t <;> decide
          rw [key, ih _ _ _ (Nat.le_refl _) f1 (by omega)]
        cases t with
        | dts =>
          have f1' : j + 2 ≤ v.size := f1
          have hd2 : v.data.toList.drop (j + 1) = v.data.toList[j + 1]'(by omega) :: v.data.toList.drop (j + 2) := List.drop_eq_getElem_cons (by omega)
          show symR _ ⟨some [], act .dts (Cfg.mk (some (v.extract last j).data.toList) st false).flush, true⟩ = _
          rw [hfl, hd2, List.map_cons, List.cons_append, symR, if_pos rfl]
          exact hgo
        | opn =>
          show symR _ ⟨some [], act .opn (Cfg.mk (some (v.extract last j).data.toList) st false).flush, false⟩ = _
          rw [hfl]
          exact hgo
        | com =>
          show symR _ ⟨some [], act .com (Cfg.mk (some (v.extract last j).data.toList) st false).flush, false⟩ = _
          rw [hfl]
          exact hgo
        | cls =>
          show symR _ ⟨some [], act .cls (Cfg.mk (some (v.extract last j).data.toList) st false).flush, false⟩ = _
          rw [hfl]
          exact hgo
    · obtain rfl : j = v.size := by omega
      have er : runB v (n + 1) v.size last st = (last, st) := by
        unfold runB
        rw [if_neg hlt]
      rw [er, List.drop_eq_nil_of_le (by omega)]
      rfl

/-- The symbols of a word. -/
def symsOf : List Part → List Sym
  | [] => []
  | .lit s :: r => s.data.toList.map .b ++ symsOf r
  | p :: r => .o p :: symsOf r
/-- No two literals side by side, none empty, no backslash. -/
inductive Neat : List Part → Prop where
  | nil : Neat []
  | lit (s : ByteArray) (h1 : s.data.toList ≠ []) (h2 : ∀ x ∈ s.data.toList, x.toNat ≠ 92) : Neat [.lit s]
  | litO (s : ByteArray) (p : Part) (r : List Part) (h1 : s.data.toList ≠ []) (h2 : ∀ x ∈ s.data.toList, x.toNat ≠ 92) (h3 : ∀ q, p ≠ .lit q) (h : Neat r) : Neat (.lit s :: p :: r)
  | other (p : Part) (r : List Part) (h3 : ∀ q, p ≠ .lit q) (h : Neat r) : Neat (p :: r)
theorem stepP_other (st : St) (p : Part) (h : ∀ q, p ≠ .lit q) : stepP st p = st.push [p] := by
  cases p with
  | lit q => exact absurd rfl (h q)
  | brace _ _ => rfl
  | other _ _ => rfl
theorem symsOf_other (p : Part) (r : List Part) (h : ∀ q, p ≠ .lit q) : symsOf (p :: r) = .o p :: symsOf r := by
  cases p with
  | lit q => exact absurd rfl (h q)
  | brace _ _ => rfl
  | other _ _ => rfl
theorem one_lit (s : ByteArray) (st : St) (rest : List Sym) (hr : Stops rest) (h1 : s.data.toList ≠ []) (h2 : ∀ x ∈ s.data.toList, x.toNat ≠ 92) :
    ∃ q st', symR (s.data.toList.map .b ++ rest) ⟨none, st, false⟩ = symR rest ⟨some q, st', false⟩ ∧ stepP st (.lit s) = st'.push [.lit (bytesOf q)] := by
  have h := run_sym s h2 rest hr (s.size + 1) 0 0 st (Nat.le_refl _) (Nat.zero_le _) (by omega)
  rw [List.drop_zero, extract_nil] at h
  have e : symR (s.data.toList.map .b ++ rest) ⟨none, st, false⟩ = symR (s.data.toList.map .b ++ rest) ⟨some [], st, false⟩ := by
    cases hl : s.data.toList with
    | nil => exact absurd hl h1
    | cons x r =>
      rw [List.map_cons, List.cons_append, symR, symR]
      rfl
  refine ⟨_, _, e.trans h, ?_⟩
  rw [stepP_lit, ← eq_bytesOf]
/-- The parts one by one, or the symbols one by one: the same in the end. -/
theorem fold_sym : ∀ {ps : List Part}, Neat ps → ∀ st : St, (symR (symsOf ps) ⟨none, st, false⟩).close = ps.foldl stepP st := by
  intro ps hN
  induction hN with
  | nil => exact fun _ => rfl
  | lit s h1 h2 =>
    intro st
    obtain ⟨q, st2, e1, e2⟩ := one_lit s st [] (fun x q h => by cases h) h1 h2
    show (symR (s.data.toList.map .b ++ []) ⟨none, st, false⟩).close = stepP st (.lit s)
    rw [e1, e2]
    rfl
  | litO s p r h1 h2 h3 h ih =>
    intro st
    obtain ⟨q, st2, e1, e2⟩ := one_lit s st (symsOf (p :: r)) (fun x q h => by rw [symsOf_other p r h3] at h; cases h) h1 h2
    show (symR (s.data.toList.map .b ++ symsOf (p :: r)) ⟨none, st, false⟩).close = (p :: r).foldl stepP (stepP st (.lit s))
    rw [e1, e2, symsOf_other p r h3, symR, List.foldl_cons, stepP_other _ p h3]
    exact ih _
  | other p r h3 h ih =>
    intro st
    rw [symsOf_other p r h3, symR, List.foldl_cons, stepP_other _ p h3]
    exact ih _
end Go.Proofs.YtmcoifhiiagfpaaDoor

namespace Go.Proofs.YtmcoifhiiagfpaaDoor
open Go.RowKit

inductive Item where
  | lit (s : List UInt8)
  | sq (t : TypeId) (x : Value)
  | lst (es : List (List Item))
  | seq (ends : List (List UInt8))

section
variable (qt : TypeId → Value → List UInt8)
mutual
def serP : Part → List UInt8
  | .lit s => s.data.toList
  | .brace q es => (if q then [83, 40] else [76, 40]) ++ serE es ++ [41]
  | .other t x => qt t x
def serW : List Part → List UInt8
  | [] => []
  | p :: r => serP p ++ serW r
def serE : List (List Part) → List UInt8
  | [] => []
  | w :: r => serW w ++ serR r
def serR : List (List Part) → List UInt8
  | [] => []
  | w :: r => 124 :: (serW w ++ serR r)
end
mutual
def serI : Item → List UInt8
  | .lit s => s
  | .sq t x => qt t x
  | .lst es => [76, 40] ++ serIE es ++ [41]
  | .seq ends => [83, 40] ++ (match ends with | [] => [] | a :: r => a ++ r.flatMap fun e => 124 :: e) ++ [41]
def serIW : List Item → List UInt8
  | [] => []
  | i :: r => serI i ++ serIW r
def serIE : List (List Item) → List UInt8
  | [] => []
  | w :: r => serIW w ++ serIR r
def serIR : List (List Item) → List UInt8
  | [] => []
  | w :: r => 124 :: (serIW w ++ serIR r)
end
mutual
def symI : Item → List Sym
  | .lit s => s.map .b
  | .sq t x => [.o (.other t x)]
  | .lst es => .b 123 :: (symE es ++ [.b 125])
  | .seq ends => .b 123 :: ((match ends with | [] => [] | a :: r => a.map Sym.b ++ r.flatMap fun e => .b 46 :: .b 46 :: e.map Sym.b) ++ [.b 125])
def symW : List Item → List Sym
  | [] => []
  | i :: r => symI i ++ symW r
def symE : List (List Item) → List Sym
  | [] => []
  | w :: r => symW w ++ symER r
def symER : List (List Item) → List Sym
  | [] => []
  | w :: r => .b 44 :: (symW w ++ symER r)
end

def plainB (c : UInt8) : Bool := c.toNat != 123 && c.toNat != 44 && c.toNat != 46 && c.toNat != 125 && c.toNat != 92
mutual
def okI : Item → Bool
  | .lit s => !s.isEmpty && s.all plainB
  | .sq _ _ => true
  | .lst es => decide (2 ≤ es.length) && okE es
  | .seq [a, b] => !a.isEmpty && a.all plainB && !b.isEmpty && b.all plainB && decide (broken [[.lit (bytesOf a)], [.lit (bytesOf b)]] = false)
  | .seq [a, b, k] => !a.isEmpty && a.all plainB && !b.isEmpty && b.all plainB && !k.isEmpty && k.all plainB && decide (broken [[.lit (bytesOf a)], [.lit (bytesOf b)], [.lit (bytesOf k)]] = false)
  | .seq _ => false
def okW : List Item → Bool
  | [] => true
  | i :: r => okI i && okW r
def okE : List (List Item) → Bool
  | [] => true
  | w :: r => okW w && okE r
end

theorem serW_append : ∀ a b : List Part, serW qt (a ++ b) = serW qt a ++ serW qt b
  | [], _ => by simp [serW]
  | p :: r, b => by simp [serW, serW_append r b]
theorem serW_one (p : Part) : serW qt [p] = serP qt p := by simp [serW]
theorem serP_lit (s : ByteArray) : serP qt (.lit s) = s.data.toList := by simp [serP]

/-- From one state to another: the list in hand has grown by what reads as x. -/
def Ext (c c2 : Cfg) (x : List UInt8) : Prop :=
  (c.st.stack = [] ∧ c2.st.stack = [] ∧ serW qt c2.st.top ++ c2.bytes = serW qt c.st.top ++ c.bytes ++ x) ∨
  ∃ f r a, c.st.stack = f :: r ∧ c2.st.stack = { f with acc := a } :: r ∧ c2.st.top = c.st.top ∧ serW qt a ++ c2.bytes = serW qt f.acc ++ c.bytes ++ x
variable {qt}
theorem Ext.refl (c : Cfg) : Ext qt c c [] := by
  cases h : c.st.stack with
  | nil => exact Or.inl ⟨h, h, by simp⟩
  | cons f r => exact Or.inr ⟨f, r, f.acc, h, h, rfl, by simp⟩
theorem Ext.trans {a b c : Cfg} {x y : List UInt8} (h : Ext qt a b x) (k : Ext qt b c y) : Ext qt a c (x ++ y) := by
  rcases h with ⟨h1, h2, h3⟩ | ⟨f, r, ac, h1, h2, h3, h4⟩
  · rcases k with ⟨k1, k2, k3⟩ | ⟨f, r, ac, k1, _⟩
    · exact Or.inl ⟨h1, k2, by rw [k3, h3]; simp⟩
    · rw [h2] at k1
      cases k1
  · rcases k with ⟨k1, _⟩ | ⟨f2, r2, ac2, k1, k2, k3, k4⟩
    · rw [h2] at k1
      cases k1
    · rw [h2] at k1
      cases k1
      exact Or.inr ⟨f, r, ac2, h1, k2, k3.trans h3, by rw [k4, h4]; simp⟩
/-- What is not laid down yet, laid down. -/
theorem flush_ext (c : Cfg) : (c.st.stack = [] ∧ c.flush.stack = [] ∧ serW qt c.flush.top = serW qt c.st.top ++ c.bytes) ∨
    ∃ f r a, c.st.stack = f :: r ∧ c.flush.stack = { f with acc := a } :: r ∧ c.flush.top = c.st.top ∧ serW qt a = serW qt f.acc ++ c.bytes := by
  unfold Cfg.flush
  by_cases hb : c.bytes = []
  · rw [if_pos hb, hb]
    cases h : c.st.stack with
    | nil => exact Or.inl ⟨rfl, rfl, by simp⟩
    | cons f r => exact Or.inr ⟨f, r, f.acc, rfl, rfl, rfl, by simp⟩
  · rw [if_neg hb]
    cases h : c.st.stack with
    | nil =>
      have e : c.st.push [.lit (bytesOf c.bytes)] = ⟨c.st.top ++ [.lit (bytesOf c.bytes)], []⟩ := by
        obtain ⟨p, ⟨top, stack⟩, b⟩ := c
        simp only at h
        subst h
        rfl
      rw [e]
      exact Or.inl ⟨rfl, rfl, by rw [serW_append, serW_one, serP_lit]; rfl⟩
    | cons f r =>
      have e : c.st.push [.lit (bytesOf c.bytes)] = { c.st with stack := { f with acc := f.acc ++ [.lit (bytesOf c.bytes)] } :: r } := by unfold St.push; rw [h]
      rw [e]
      exact Or.inr ⟨f, r, _, rfl, rfl, rfl, by rw [serW_append, serW_one, serP_lit]; rfl⟩
theorem plain_none {x : UInt8} (h : plainB x = true) (r : List Sym) (hh : Option (Bool × Bool)) : tokS x r hh = none := by
  simp only [plainB, Bool.and_eq_true, bne_iff_ne, ne_eq] at h
  obtain ⟨⟨⟨⟨h1, h2⟩, h3⟩, h4⟩, h5⟩ := h
  unfold tokS
  rw [if_neg h1, if_neg h2, if_neg h3, if_neg h4]
theorem sym_plain : ∀ (s : List UInt8) (rest : List Sym) (c : Cfg), c.skip = false → s.all plainB = true → s ≠ [] → symR (s.map .b ++ rest) c = symR rest ⟨some (c.bytes ++ s), c.st, false⟩
  | [], _, _, _, _, h => absurd rfl h
  | [x], rest, c, hs, hp, _ => by
    simp only [List.all_cons, List.all_nil, Bool.and_true] at hp
    rw [List.map_cons, List.cons_append, symR, if_neg (by rw [hs]; simp), plain_none hp]
    rfl
  | x :: y :: r, rest, c, hs, hp, _ => by
    simp only [List.all_cons, Bool.and_eq_true] at hp
    have ih := sym_plain (y :: r) rest ⟨some (c.bytes ++ [x]), c.st, false⟩ rfl (by simp [hp.2]) (by simp)
    rw [List.map_cons, List.cons_append, symR, if_neg (by rw [hs]; simp), plain_none hp.1]
    show symR ((y :: r).map .b ++ rest) ⟨some (c.bytes ++ [x]), c.st, false⟩ = _
    rw [ih]
    show symR rest ⟨some (c.bytes ++ [x] ++ y :: r), c.st, false⟩ = _
    rw [List.append_assoc]
    rfl
theorem sym_tok {x : UInt8} {t : Tok} {rest : List Sym} {c : Cfg} (hs : c.skip = false) (ht : tokS x rest (hd c.st) = some t) (hne : t ≠ .dts) : symR (.b x :: rest) c = symR rest ⟨some [], act t c.flush, false⟩ := by
  rw [symR, if_neg (by rw [hs]; simp), ht]
  cases t <;> first | rfl | exact absurd rfl hne
theorem sym_dots {rest : List Sym} {c : Cfg} (hs : c.skip = false) (ht : tokS 46 (.b 46 :: rest) (hd c.st) = some .dts) : symR (.b 46 :: .b 46 :: rest) c = symR rest ⟨some [], act .dts c.flush, false⟩ := by
  rw [symR, if_neg (by rw [hs]; simp), ht]
  show symR (.b 46 :: rest) ⟨some [], act .dts c.flush, true⟩ = _
  rw [symR, if_pos rfl]
/-- A part laid down whole. -/
theorem push_ext {c : Cfg} {st : St} {f : Frame} {r : List Frame} (hst : st.stack = f :: r) (hr : r = c.flush.stack) (ht : st.top = c.flush.top) (p : Part) (hc : closed f = [p]) (b : Option (List UInt8)) (hb : b.getD [] = []) : Ext qt c ⟨b, act .cls st, false⟩ (serP qt p) := by
  have ea : act .cls st = ({ st with stack := r } : St).push [p] := by
    unfold act
    rw [hst]
    simp only [hc]
  have hbb : (Cfg.mk b (act .cls st) false).bytes = [] := hb
  subst hr
  rcases flush_ext (qt := qt) c with ⟨h1, h2, h3⟩ | ⟨g, q, a, h1, h2, h3, h4⟩
  · refine Or.inl ⟨h1, ?_, ?_⟩
    · show (act .cls st).stack = []
      rw [ea, h2]
      rfl
    · rw [hbb, List.append_nil]
      show serW qt (act .cls st).top = _
      rw [ea, h2]
      show serW qt (st.top ++ [p]) = _
      rw [serW_append, serW_one, ht, h3]
  · refine Or.inr ⟨g, q, a ++ [p], h1, ?_, ?_, ?_⟩
    · show (act .cls st).stack = _
      rw [ea, h2]
      rfl
    · show (act .cls st).top = _
      rw [ea, h2]
      show st.top = _
      rw [ht, h3]
    · rw [hbb, List.append_nil, serW_append, serW_one, h4]
end
end Go.Proofs.YtmcoifhiiagfpaaDoor

namespace Go.Proofs.YtmcoifhiiagfpaaDoor
open Go.RowKit

def bars : List (List UInt8) → List UInt8
  | [] => []
  | a :: r => a ++ r.flatMap fun e => 124 :: e
section
variable (qt : TypeId → Value → List UInt8)
theorem serR_map : ∀ es : List (List Part), serR qt es = (es.map (serW qt)).flatMap fun e => 124 :: e
  | [] => by simp [serR]
  | w :: r => by simp [serR, serR_map r]
theorem serE_map (es : List (List Part)) : serE qt es = bars (es.map (serW qt)) := by
  cases es with
  | nil => simp [serE, bars]
  | cons w r => simp [serE, bars, serR_map]
theorem serIR_map : ∀ es : List (List Item), serIR qt es = (es.map (serIW qt)).flatMap fun e => 124 :: e
  | [] => by simp [serIR]
  | w :: r => by simp [serIR, serIR_map r]
theorem serIE_map (es : List (List Item)) : serIE qt es = bars (es.map (serIW qt)) := by
  cases es with
  | nil => simp [serIE, bars]
  | cons w r => simp [serIE, bars, serIR_map]

theorem flush_at {T : List Part} {q : Bool} {d : List (List Part)} {acc : List Part} {R : List Frame} {a : List UInt8} (h : a ≠ []) (b : Bool) : (Cfg.mk (some a) ⟨T, ⟨q, d, acc⟩ :: R⟩ b).flush = ⟨T, ⟨q, d, acc ++ [.lit (bytesOf a)]⟩ :: R⟩ := by
  unfold Cfg.flush
  have e : (Cfg.mk (some a) ⟨T, ⟨q, d, acc⟩ :: R⟩ b).bytes = a := rfl
  rw [e, if_neg h]
  rfl
variable {qt}
/-- An opening brace, and what follows up to the first element's end. -/
theorem open_sym (rest : List Sym) (c : Cfg) (hs : c.skip = false) : symR (.b 123 :: rest) c = symR rest ⟨some [], ⟨c.flush.top, ⟨false, [], []⟩ :: c.flush.stack⟩, false⟩ := by
  rw [sym_tok (t := .opn) hs rfl (by simp)]
  rfl
theorem ok_ne {a : List UInt8} (h : (!a.isEmpty) = true) : a ≠ [] := by
  intro e
  rw [e] at h
  cases h
theorem seq_two (a b : List UInt8) (ha : a ≠ []) (hb : b ≠ []) (pa : a.all plainB = true) (pb : b.all plainB = true) (hbr : broken [[.lit (bytesOf a)], [.lit (bytesOf b)]] = false) (rest : List Sym) (c : Cfg) (hs : c.skip = false) :
    ∃ c2, symR (.b 123 :: (a.map Sym.b ++ (.b 46 :: .b 46 :: (b.map Sym.b ++ (.b 125 :: rest))))) c = symR rest c2 ∧ c2.skip = false ∧ Ext qt c c2 ([83, 40] ++ bars [a, b] ++ [41]) := by
  have e1 := open_sym (a.map Sym.b ++ (.b 46 :: .b 46 :: (b.map Sym.b ++ (.b 125 :: rest)))) c hs
  have e2 := sym_plain a (.b 46 :: .b 46 :: (b.map Sym.b ++ (.b 125 :: rest))) ⟨some [], ⟨c.flush.top, ⟨false, [], []⟩ :: c.flush.stack⟩, false⟩ rfl pa ha
  have e3 := sym_dots (rest := b.map Sym.b ++ (.b 125 :: rest)) (c := ⟨some ([] ++ a), ⟨c.flush.top, ⟨false, [], []⟩ :: c.flush.stack⟩, false⟩) rfl rfl
  rw [List.nil_append, flush_at ha] at e3
  have e4 := sym_plain b (.b 125 :: rest) ⟨some [], ⟨c.flush.top, ⟨true, [[.lit (bytesOf a)]], []⟩ :: c.flush.stack⟩, false⟩ rfl pb hb
  have e5 := sym_tok (x := 125) (t := .cls) (rest := rest) (c := ⟨some ([] ++ b), ⟨c.flush.top, ⟨true, [[.lit (bytesOf a)]], []⟩ :: c.flush.stack⟩, false⟩) rfl rfl (by simp)
  rw [List.nil_append, flush_at hb] at e5
  have hc : closed ⟨true, [[.lit (bytesOf a)]], [] ++ [.lit (bytesOf b)]⟩ = [.brace true [[.lit (bytesOf a)], [.lit (bytesOf b)]]] := by
    unfold closed
    rw [if_neg (by simp [Frame.elems]), if_pos rfl]
    show (if broken [[.lit (bytesOf a)], [.lit (bytesOf b)]] = true then _ else _) = _
    rw [if_neg (by rw [hbr]; simp)]
    rfl
  obtain ⟨fr, hfr⟩ : ∃ fr : Frame, ⟨true, [[.lit (bytesOf a)]], [] ++ [.lit (bytesOf b)]⟩ = fr := ⟨_, rfl⟩
  rw [hfr] at hc e5
  refine ⟨_, ((e1.trans e2).trans e3).trans (e4.trans e5), rfl, ?_⟩
  have h := push_ext (qt := qt) (c := c) (st := ⟨c.flush.top, fr :: c.flush.stack⟩) (f := fr) (r := c.flush.stack) rfl rfl rfl (.brace true [[.lit (bytesOf a)], [.lit (bytesOf b)]]) hc (some []) rfl
  have hser : serP qt (.brace true [[.lit (bytesOf a)], [.lit (bytesOf b)]]) = [83, 40] ++ bars [a, b] ++ [41] := by
    rw [serP, serE_map]
    simp [bars, serW, serP, bytesOf]
  rw [hser] at h
  exact h
theorem seq_three (a b k : List UInt8) (ha : a ≠ []) (hb : b ≠ []) (hk : k ≠ []) (pa : a.all plainB = true) (pb : b.all plainB = true) (pk : k.all plainB = true) (hbr : broken [[.lit (bytesOf a)], [.lit (bytesOf b)], [.lit (bytesOf k)]] = false) (rest : List Sym) (c : Cfg) (hs : c.skip = false) :
    ∃ c2, symR (.b 123 :: (a.map Sym.b ++ (.b 46 :: .b 46 :: (b.map Sym.b ++ (.b 46 :: .b 46 :: (k.map Sym.b ++ (.b 125 :: rest))))))) c = symR rest c2 ∧ c2.skip = false ∧ Ext qt c c2 ([83, 40] ++ bars [a, b, k] ++ [41]) := by
  have e1 := open_sym (a.map Sym.b ++ (.b 46 :: .b 46 :: (b.map Sym.b ++ (.b 46 :: .b 46 :: (k.map Sym.b ++ (.b 125 :: rest)))))) c hs
  have e2 := sym_plain a (.b 46 :: .b 46 :: (b.map Sym.b ++ (.b 46 :: .b 46 :: (k.map Sym.b ++ (.b 125 :: rest))))) ⟨some [], ⟨c.flush.top, ⟨false, [], []⟩ :: c.flush.stack⟩, false⟩ rfl pa ha
  have e3 := sym_dots (rest := b.map Sym.b ++ (.b 46 :: .b 46 :: (k.map Sym.b ++ (.b 125 :: rest)))) (c := ⟨some ([] ++ a), ⟨c.flush.top, ⟨false, [], []⟩ :: c.flush.stack⟩, false⟩) rfl rfl
  rw [List.nil_append, flush_at ha] at e3
  have e4 := sym_plain b (.b 46 :: .b 46 :: (k.map Sym.b ++ (.b 125 :: rest))) ⟨some [], ⟨c.flush.top, ⟨true, [[.lit (bytesOf a)]], []⟩ :: c.flush.stack⟩, false⟩ rfl pb hb
  have e5 := sym_dots (rest := k.map Sym.b ++ (.b 125 :: rest)) (c := ⟨some ([] ++ b), ⟨c.flush.top, ⟨true, [[.lit (bytesOf a)]], []⟩ :: c.flush.stack⟩, false⟩) rfl rfl
  rw [List.nil_append, flush_at hb] at e5
  have e6 := sym_plain k (.b 125 :: rest) ⟨some [], ⟨c.flush.top, ⟨true, [[.lit (bytesOf a)], [.lit (bytesOf b)]], []⟩ :: c.flush.stack⟩, false⟩ rfl pk hk
  have e7 := sym_tok (x := 125) (t := .cls) (rest := rest) (c := ⟨some ([] ++ k), ⟨c.flush.top, ⟨true, [[.lit (bytesOf a)], [.lit (bytesOf b)]], []⟩ :: c.flush.stack⟩, false⟩) rfl rfl (by simp)
  rw [List.nil_append, flush_at hk] at e7
  have hc : closed ⟨true, [[.lit (bytesOf a)], [.lit (bytesOf b)]], [] ++ [.lit (bytesOf k)]⟩ = [.brace true [[.lit (bytesOf a)], [.lit (bytesOf b)], [.lit (bytesOf k)]]] := by
    unfold closed
    rw [if_neg (by simp [Frame.elems]), if_pos rfl]
    show (if broken [[.lit (bytesOf a)], [.lit (bytesOf b)], [.lit (bytesOf k)]] = true then _ else _) = _
    rw [if_neg (by rw [hbr]; simp)]
    rfl
  obtain ⟨fr, hfr⟩ : ∃ fr : Frame, ⟨true, [[.lit (bytesOf a)], [.lit (bytesOf b)]], [] ++ [.lit (bytesOf k)]⟩ = fr := ⟨_, rfl⟩
  rw [hfr] at hc e7
  refine ⟨_, (((e1.trans e2).trans e3).trans (e4.trans e5)).trans (e6.trans e7), rfl, ?_⟩
  have h := push_ext (qt := qt) (c := c) (st := ⟨c.flush.top, fr :: c.flush.stack⟩) (f := fr) (r := c.flush.stack) rfl rfl rfl (.brace true [[.lit (bytesOf a)], [.lit (bytesOf b)], [.lit (bytesOf k)]]) hc (some []) rfl
  have hser : serP qt (.brace true [[.lit (bytesOf a)], [.lit (bytesOf b)], [.lit (bytesOf k)]]) = [83, 40] ++ bars [a, b, k] ++ [41] := by
    rw [serP, serE_map]
    simp [bars, serW, serP, bytesOf]
  rw [hser] at h
  exact h

mutual
theorem item_ext : ∀ (i : Item), okI i = true → ∀ (rest : List Sym) (c : Cfg), c.skip = false → ∃ c2, symR (symI i ++ rest) c = symR rest c2 ∧ c2.skip = false ∧ Ext qt c c2 (serI qt i)
  | .lit s, h, rest, c, hs => by
    rw [okI, Bool.and_eq_true] at h
    refine ⟨_, by rw [symI]; exact sym_plain s rest c hs h.2 (ok_ne h.1), rfl, ?_⟩
    rw [serI]
    cases hst : c.st.stack with
    | nil => exact Or.inl ⟨hst, hst, by show serW qt c.st.top ++ (c.bytes ++ s) = _; rw [List.append_assoc]⟩
    | cons f r => exact Or.inr ⟨f, r, f.acc, hst, hst, rfl, by show serW qt f.acc ++ (c.bytes ++ s) = _; rw [List.append_assoc]⟩
  | .sq t x, _, rest, c, hs => by
    refine ⟨⟨none, c.close.push [.other t x], false⟩, by rw [symI, List.singleton_append, symR], rfl, ?_⟩
    rw [serI]
    have e2 : c.close = c.st ∧ c.bytes = [] ∨ c.close = c.st.push [.lit (bytesOf c.bytes)] := by
      obtain ⟨p, st, b⟩ := c
      cases p with
      | none => exact Or.inl ⟨rfl, rfl⟩
      | some q => exact Or.inr rfl
    obtain ⟨T, stk, hst⟩ : ∃ T stk, c.st = ⟨T, stk⟩ := ⟨_, _, rfl⟩
    cases stk with
    | nil =>
      left
      refine ⟨by rw [hst], ?_, ?_⟩
      · rcases e2 with ⟨e2, _⟩ | e2 <;> (show (c.close.push _).stack = []; rw [e2, hst]; rfl)
      · show serW qt (c.close.push [.other t x]).top ++ [] = _
        rcases e2 with ⟨e2, e3⟩ | e2
        · rw [e2, hst, e3]
          show serW qt (T ++ [.other t x]) ++ [] = _
          simp [serW_append, serW, serP]
        · rw [e2, hst]
          show serW qt (T ++ [.lit (bytesOf c.bytes)] ++ [.other t x]) ++ [] = _
          simp [serW_append, serW, serP, bytesOf]
    | cons f r =>
      right
      rcases e2 with ⟨e2, e3⟩ | e2
      · refine ⟨f, r, f.acc ++ [.other t x], by rw [hst], ?_, ?_, ?_⟩
        · show (c.close.push _).stack = _
          rw [e2, hst]
          rfl
        · show (c.close.push _).top = _
          rw [e2, hst]
          rfl
        · show serW qt (f.acc ++ [.other t x]) ++ [] = _
          rw [e3]
          simp [serW_append, serW, serP]
      · refine ⟨f, r, f.acc ++ [.lit (bytesOf c.bytes)] ++ [.other t x], by rw [hst], ?_, ?_, ?_⟩
        · show (c.close.push _).stack = _
          rw [e2, hst]
          rfl
        · show (c.close.push _).top = _
          rw [e2, hst]
          rfl
        · show serW qt (f.acc ++ [.lit (bytesOf c.bytes)] ++ [.other t x]) ++ [] = _
          simp [serW_append, serW, serP, bytesOf]
  | .lst [], h, _, _, _ => by simp [okI] at h
  | .lst (w :: r), h, rest, c, hs => by
    rw [okI, Bool.and_eq_true] at h
    have h2 := h.2
    rw [okE, Bool.and_eq_true] at h2
    have hr : 1 ≤ r.length := by simpa using h.1
    have e1 := open_sym (symW w ++ (symER r ++ (.b 125 :: rest))) c hs
    obtain ⟨c2, f1, f2, f3⟩ := word_ext w h2.1 (symER r ++ (.b 125 :: rest)) ⟨some [], ⟨c.flush.top, ⟨false, [], []⟩ :: c.flush.stack⟩, false⟩ rfl
    obtain ⟨acc2, g1, g2, g3⟩ : ∃ acc2, c2.st.stack = ⟨false, [], acc2⟩ :: c.flush.stack ∧ c2.st.top = c.flush.top ∧ serW qt acc2 ++ c2.bytes = serIW qt w := by
      rcases f3 with ⟨h, _⟩ | ⟨f, r2, a, k1, k2, k3, k4⟩
      · cases h
      · cases k1
        exact ⟨a, k2, k3, by rw [k4]; simp [serW, Cfg.bytes]⟩
    obtain ⟨c3, d3, a3, m1, m2, m3, m4, m5, m6⟩ := elems_ext r h2.2 (.b 125 :: rest) c2 f2 [] acc2 c.flush.stack g1
    have e7 := sym_tok (x := 125) (t := .cls) (rest := rest) (c := c3) m2 (by unfold tokS hd; rw [m3]; rfl) (by simp)
    have hsy : symI (.lst (w :: r)) ++ rest = .b 123 :: (symW w ++ (symER r ++ (.b 125 :: rest))) := by
      rw [symI, symE]
      simp
    refine ⟨_, by rw [hsy]; exact ((e1.trans f1).trans m1).trans e7, rfl, ?_⟩
    obtain ⟨a4, n1, n2, n3⟩ : ∃ a4, c3.flush.stack = ⟨false, d3, a4⟩ :: c.flush.stack ∧ c3.flush.top = c.flush.top ∧ serW qt a4 = serW qt a3 ++ c3.bytes := by
      rcases flush_ext (qt := qt) c3 with ⟨h, _⟩ | ⟨f, r2, a, k1, k2, k3, k4⟩
      · rw [m3] at h
        cases h
      · rw [m3] at k1
        cases k1
        exact ⟨a, k2, by rw [k3, m4, g2], k4⟩
    have hc : closed ⟨false, d3, a4⟩ = [.brace false (d3 ++ [a4])] := by
      unfold closed
      rw [if_neg (by show ¬ (d3 ++ [a4]).length = 1; simp; intro e; rw [e] at m5; simp at m5; omega)]
      rfl
    have h := push_ext (qt := qt) (c := c) (st := c3.flush) n1 rfl n2 _ hc (some []) rfl
    have hser : serP qt (.brace false (d3 ++ [a4])) = serI qt (.lst (w :: r)) := by
      rw [serP, serE_map, serI, serIE_map, List.map_append, List.map_cons, List.map_nil, n3, m6, List.map_nil, List.nil_append, g3]
      rfl
    rw [hser] at h
    exact h
  | .seq [], h, _, _, _ => by simp [okI] at h
  | .seq [_], h, _, _, _ => by simp [okI] at h
  | .seq [a, b], h, rest, c, hs => by
    simp only [okI, Bool.and_eq_true, decide_eq_true_eq] at h
    obtain ⟨⟨⟨⟨h1, h2⟩, h3⟩, h4⟩, h5⟩ := h
    obtain ⟨c2, e1, e2, e3⟩ := seq_two (qt := qt) a b (ok_ne h1) (ok_ne h3) h2 h4 h5 rest c hs
    refine ⟨c2, ?_, e2, ?_⟩
    · rw [← e1, symI]
      simp
    · rw [serI]
      exact e3
  | .seq [a, b, k], h, rest, c, hs => by
    simp only [okI, Bool.and_eq_true, decide_eq_true_eq] at h
    obtain ⟨⟨⟨⟨⟨⟨h1, h2⟩, h3⟩, h4⟩, h6⟩, h7⟩, h5⟩ := h
    obtain ⟨c2, e1, e2, e3⟩ := seq_three (qt := qt) a b k (ok_ne h1) (ok_ne h3) (ok_ne h6) h2 h4 h7 h5 rest c hs
    refine ⟨c2, ?_, e2, ?_⟩
    · rw [← e1, symI]
      simp
    · rw [serI]
      exact e3
  | .seq (_ :: _ :: _ :: _ :: _), h, _, _, _ => by simp [okI] at h
theorem word_ext : ∀ (w : List Item), okW w = true → ∀ (rest : List Sym) (c : Cfg), c.skip = false → ∃ c2, symR (symW w ++ rest) c = symR rest c2 ∧ c2.skip = false ∧ Ext qt c c2 (serIW qt w)
  | [], _, rest, c, hs => ⟨c, by rw [symW]; rfl, hs, by rw [serIW]; exact Ext.refl c⟩
  | i :: r, h, rest, c, hs => by
    rw [okW, Bool.and_eq_true] at h
    obtain ⟨c2, e1, e2, e3⟩ := item_ext i h.1 (symW r ++ rest) c hs
    obtain ⟨c3, f1, f2, f3⟩ := word_ext r h.2 rest c2 e2
    refine ⟨c3, ?_, f2, ?_⟩
    · rw [symW, List.append_assoc, e1, f1]
    · rw [serIW]
      exact e3.trans f3
theorem elems_ext : ∀ (es : List (List Item)), okE es = true → ∀ (rest : List Sym) (c : Cfg), c.skip = false → ∀ (done : List (List Part)) (acc : List Part) (R : List Frame), c.st.stack = ⟨false, done, acc⟩ :: R →
    ∃ c2 d2 a2, symR (symER es ++ rest) c = symR rest c2 ∧ c2.skip = false ∧ c2.st.stack = ⟨false, d2, a2⟩ :: R ∧ c2.st.top = c.st.top ∧ d2.length = done.length + es.length ∧ d2.map (serW qt) ++ [serW qt a2 ++ c2.bytes] = done.map (serW qt) ++ (serW qt acc ++ c.bytes) :: es.map (serIW qt)
  | [], _, rest, c, hs, done, acc, R, hst => ⟨c, done, acc, by rw [symER]; rfl, hs, hst, rfl, rfl, by simp⟩
  | w :: r, h, rest, c, hs, done, acc, R, hst => by
    rw [okE, Bool.and_eq_true] at h
    obtain ⟨a1, n1, n2, n3⟩ : ∃ a1, c.flush.stack = ⟨false, done, a1⟩ :: R ∧ c.flush.top = c.st.top ∧ serW qt a1 = serW qt acc ++ c.bytes := by
      rcases flush_ext (qt := qt) c with ⟨h, _⟩ | ⟨f, r2, a, k1, k2, k3, k4⟩
      · rw [hst] at h
        cases h
      · rw [hst] at k1
        cases k1
        exact ⟨a, k2, k3, k4⟩
    have e1 := sym_tok (x := 44) (t := .com) (rest := symW w ++ (symER r ++ rest)) (c := c) hs (by unfold tokS hd; rw [hst]; rfl) (by simp)
    have ea : act .com c.flush = ⟨c.st.top, ⟨false, done ++ [a1], []⟩ :: R⟩ := by
      unfold act
      rw [n1]
      show (St.mk c.flush.top _) = _
      rw [n2]
      rfl
    rw [ea] at e1
    obtain ⟨c2, f1, f2, f3⟩ := word_ext w h.1 (symER r ++ rest) ⟨some [], ⟨c.st.top, ⟨false, done ++ [a1], []⟩ :: R⟩, false⟩ rfl
    obtain ⟨acc2, g1, g2, g3⟩ : ∃ acc2, c2.st.stack = ⟨false, done ++ [a1], acc2⟩ :: R ∧ c2.st.top = c.st.top ∧ serW qt acc2 ++ c2.bytes = serIW qt w := by
      rcases f3 with ⟨h, _⟩ | ⟨f, r2, a, k1, k2, k3, k4⟩
      · cases h
      · cases k1
        exact ⟨a, k2, k3, by rw [k4]; simp [serW, Cfg.bytes]⟩
    obtain ⟨c3, d3, a3, m1, m2, m3, m4, m5, m6⟩ := elems_ext r h.2 rest c2 f2 (done ++ [a1]) acc2 R g1
    refine ⟨c3, d3, a3, ?_, m2, m3, by rw [m4, g2], by simp at m5 ⊢; omega, ?_⟩
    · have hsy : symER (w :: r) ++ rest = .b 44 :: (symW w ++ (symER r ++ rest)) := by
        rw [symER]
        simp
      rw [hsy, e1, f1, m1]
    · rw [m6, g3]
      simp [n3]
end

/-- The word as a whole. -/
theorem items_split {w : List Item} {ps : List Part} (hN : Neat ps) (hs : symsOf ps = symW w) (hok : okW w = true) : serW qt (split ps) = serIW qt w := by
  have h1 := fold_sym hN ⟨[], []⟩
  obtain ⟨c2, e1, e2, e3⟩ := word_ext (qt := qt) w hok [] ⟨none, ⟨[], []⟩, false⟩ rfl
  rw [List.append_nil, ← hs] at e1
  rw [e1] at h1
  have hc : symR [] c2 = c2 := by rw [symR]
  rw [hc] at h1
  have e4 : split ps = render (ps.foldl stepP ⟨[], []⟩) := rfl
  rw [e4, ← h1]
  rcases e3 with ⟨_, k2, k3⟩ | ⟨f, r, a, k1, _⟩
  · have k4 : serW qt c2.st.top ++ c2.bytes = serIW qt w := by rw [k3]; simp [serW, Cfg.bytes]
    obtain ⟨p, ⟨T, stk⟩, b⟩ := c2
    simp only at k2
    subst k2
    cases p with
    | none =>
      show serW qt (unwind [] T) = _
      rw [unwind, ← k4]
      simp [Cfg.bytes]
    | some q =>
      show serW qt (unwind [] (T ++ [.lit (bytesOf q)])) = _
      rw [unwind, serW_append, serW_one, serP_lit, ← k4]
      rfl
  · cases k1
end
end Go.Proofs.YtmcoifhiiagfpaaDoor
