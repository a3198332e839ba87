/-
  The text of some tokens. No program in sight.
-/
import Derived.Test.YtgppbbonfbhhbaaDoorTok
namespace Go.Proofs.YtgppbbonfbhhbaaDoor
open Go.RowKit Rf

def textOf (ts : List Tok) : List Int := (ts.filter (fun t => !t.empty)).map Tok.r
theorem textOf_skip (l : List Tok) (t : Tok) (h : t.empty = true) : textOf (l ++ [t]) = textOf l := by simp [textOf, h]
theorem textOf_keep (l : List Tok) (t : Tok) (h : t.empty = false) : textOf (l ++ [t]) = textOf l ++ [t.r] := by simp [textOf, h]
theorem take_snoc (ts : List Tok) (a i : Nat) (d : Tok) (ha : a ≤ i) (hi : i < ts.length) : (ts.take (i + 1)).drop a = (ts.take i).drop a ++ [ts.getD i d] := by
  rw [List.take_succ_eq_append_getElem hi, List.drop_append_of_le_length (by simp; omega)]
  simp [List.getD, hi]

theorem textOf_le (l : List Tok) : (textOf l).length ≤ l.length := by
  unfold textOf
  rw [List.length_map]
  exact List.length_filter_le _ _

end Go.Proofs.YtgppbbonfbhhbaaDoor
