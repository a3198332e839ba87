/-
  The runs of tokens, and that the scan's fields are their places. No program in sight.
-/
import Derived.Test.YtgppbbonfbhhbaaDoorModelLaw
namespace Go.Proofs.YtgppbbonfbhhbaaDoor
open Go.RowKit Rf

def tok0 : Tok := ⟨0, false, false⟩

/-- The closed runs of the first k tokens, and where the open run began. -/
def RS (sep : Int → Bool) (ts : List Tok) : Nat → List (Nat × Nat) × Option Nat
  | 0 => ([], none)
  | k + 1 => if solid sep (ts.getD k tok0) then ((RS sep ts k).1, some ((RS sep ts k).2.getD k)) else (closeAt (RS sep ts k).1 (RS sep ts k).2 k, none)

/-- All runs of the first k tokens. -/
def runsTo (sep : Int → Bool) (ts : List Tok) (k : Nat) : List (Nat × Nat) := closeAt (RS sep ts k).1 (RS sep ts k).2 k

/-- Where a token's text begins. -/
def at_ (ts : List Tok) (k : Nat) : Nat := (textOf (ts.take k)).length

theorem textOf_append (a b : List Tok) : textOf (a ++ b) = textOf a ++ textOf b := by simp [textOf]
theorem textOf_split (ts : List Tok) (a b : Nat) (hab : a ≤ b) : textOf (ts.take b) = textOf (ts.take a) ++ textOf ((ts.take b).drop a) := by
  rw [← textOf_append]
  congr 1
  conv => lhs; rw [← List.take_append_drop a (ts.take b)]
  rw [List.take_take, Nat.min_eq_left hab]

theorem part_text (ts : List Tok) (a b : Nat) (hab : a ≤ b) : Rf.part (textOf ts) (at_ ts a, at_ ts b) = textOf ((ts.take b).drop a) := by
  have h1 := textOf_split ts a b hab
  have h2 : textOf ts = textOf (ts.take b) ++ textOf (ts.drop b) := by rw [← textOf_append, List.take_append_drop]
  unfold Rf.part at_
  rw [h2]
  simp only []
  rw [List.take_left, h1, List.drop_left]

theorem take_one (ts : List Tok) (k : Nat) (hk : k < ts.length) : ts.take (k + 1) = ts.take k ++ [ts.getD k tok0] := by
  rw [List.take_succ_eq_append_getElem hk]
  simp [List.getD, hk]

theorem close_map (f : Nat → Nat) (done : List (Nat × Nat)) (opn : Option Nat) (k : Nat) : (closeAt done opn k).map (fun p => (f p.1, f p.2)) = closeAt (done.map fun p => (f p.1, f p.2)) (opn.map f) (f k) := by
  cases opn <;> simp [closeAt]

/-- The scan by tokens is the runs, read at the tokens' places. -/
theorem tok_runs (sep : Int → Bool) (ts : List Tok) : ∀ k, k ≤ ts.length →
    (ts.take k).foldl (tokStep sep) ⟨[], [], none⟩ = ⟨textOf (ts.take k), (RS sep ts k).1.map (fun p => (at_ ts p.1, at_ ts p.2)), (RS sep ts k).2.map (at_ ts)⟩
  | 0, _ => by simp [RS, textOf]
  | k + 1, hk => by
    have ih := tok_runs sep ts k (by omega)
    rw [take_one ts k (by omega), List.foldl_append, ih]
    simp only [List.foldl_cons, List.foldl_nil, RS]
    have ht : textOf (ts.take k ++ [ts.getD k tok0]) = if (ts.getD k tok0).empty then textOf (ts.take k) else textOf (ts.take k) ++ [(ts.getD k tok0).r] := by
      cases he : (ts.getD k tok0).empty
      · rw [textOf_keep _ _ he]; rfl
      · rw [textOf_skip _ _ he]; rfl
    have hc := close_map (at_ ts) (RS sep ts k).1 (RS sep ts k).2 k
    rw [ht]
    cases hs : solid sep (ts.getD k tok0)
    · simp only [tokStep, hs, Bool.false_eq_true, if_false]
      rw [hc]
      rfl
    · simp only [tokStep, hs, if_true]
      cases (RS sep ts k).2 <;> rfl

/-- ReadFields' runes kept and fields, by tokens. -/
theorem scan_runs (sep : Int → Bool) (raw : Bool) (rs : List Int) (hb : raw = true ∨ sep 92 = false) :
    (scan sep raw rs).out = textOf (toks raw rs) ∧ (scan sep raw rs).fields = (runsTo sep (toks raw rs) (toks raw rs).length).map (fun p => (at_ (toks raw rs) p.1, at_ (toks raw rs) p.2)) := by
  have h := scan_toks sep raw hb rs [] [] none false (Or.inr rfl)
  have h2 := tok_runs sep (toks raw rs) (toks raw rs).length (Nat.le_refl _)
  rw [List.take_length] at h2
  simp only [h2] at h
  obtain ⟨h1, h3, h4⟩ := h
  have ho : (scan sep raw rs).out = textOf (toks raw rs) := h1
  refine ⟨ho, ?_⟩
  unfold runsTo
  rw [close_map]
  unfold St.fields
  rw [ho]
  have e3 : (scan sep raw rs).done = _ := h3
  have e4 : (scan sep raw rs).opn = _ := h4
  rw [e3, e4]
  unfold at_
  rw [List.take_length]

theorem runs_solid (sep : Int → Bool) (ts : List Tok) (k : Nat) (h : solid sep (ts.getD k tok0) = true) : RS sep ts (k + 1) = ((RS sep ts k).1, some ((RS sep ts k).2.getD k)) := by
  simp only [RS, h, if_true]
theorem runs_sep (sep : Int → Bool) (ts : List Tok) (k : Nat) (h : solid sep (ts.getD k tok0) = false) : RS sep ts (k + 1) = (runsTo sep ts k, none) := by
  simp only [RS, h, Bool.false_eq_true, if_false]
  rfl
end Go.Proofs.YtgppbbonfbhhbaaDoor
