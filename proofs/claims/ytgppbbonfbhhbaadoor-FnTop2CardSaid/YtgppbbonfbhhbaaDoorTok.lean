/-
  Tokens of a line, and the units of the law. No program in sight.
-/
import Derived.Test.YtgppbbonfbhhbaaDoorScan
namespace Go.Proofs.YtgppbbonfbhhbaaDoor
open Go.RowKit Rf

structure Tok where
  r : Int
  lit : Bool
  empty : Bool

def toks (raw : Bool) : List Int → List Tok
  | [] => []
  | [r] => if (!raw && r == 92) = true then [⟨0, true, true⟩] else [⟨r, false, false⟩]
  | r :: x :: rs => if (!raw && r == 92) = true then ⟨x, true, false⟩ :: toks raw rs else ⟨r, false, false⟩ :: toks raw (x :: rs)

def solid (sep : Int → Bool) (t : Tok) : Bool := t.lit || !sep t.r

theorem three_new (w : World) (x y z : Value) (e : TypeId) (j : Nat) (u : Value) (h : [x, y, z][j]? = some u) : (w.alloc (.cells #[x, y, z] e)).cell? ((⟨w.heap.size, 0, none⟩ : Addr).add j) = some u := by
  match j, h with
  | 0, h => simp at h; subst h; rw [show (⟨w.heap.size, 0, none⟩ : Addr).add 0 = ⟨w.heap.size, 0, none⟩ from rfl]; exact cell_of_row _ _ 0 #[x, y, z] e (0, 0) (heap_alloc_new w _)
  | 1, h => simp at h; subst h; rw [show (⟨w.heap.size, 0, none⟩ : Addr).add 1 = ⟨w.heap.size, 1, none⟩ from rfl]; exact cell_of_row _ _ 1 #[x, y, z] e (0, 0) (heap_alloc_new w _)
  | 2, h => simp at h; subst h; rw [show (⟨w.heap.size, 0, none⟩ : Addr).add 2 = ⟨w.heap.size, 2, none⟩ from rfl]; exact cell_of_row _ _ 2 #[x, y, z] e (0, 0) (heap_alloc_new w _)
  | j + 3, h => simp at h

theorem toks_plain (raw : Bool) (r : Int) (rs : List Int) (h : (!raw && r == 92) = false) : toks raw (r :: rs) = ⟨r, false, false⟩ :: toks raw rs := by
  cases rs <;> simp only [toks, h, Bool.false_eq_true, if_false]
theorem toks_esc (raw : Bool) (r x : Int) (rs : List Int) (h : (!raw && r == 92) = true) : toks raw (r :: x :: rs) = ⟨x, true, false⟩ :: toks raw rs := by
  simp only [toks, h, if_true]
theorem toks_last (raw : Bool) (r : Int) (h : (!raw && r == 92) = true) : toks raw [r] = [⟨0, true, true⟩] := by
  simp only [toks, h, if_true]
theorem toks_nil (raw : Bool) : toks raw [] = [] := rfl


/-- A unit of the law: the text that a token stands for, whether it separates, whether it is white space that separates. -/
def unitS (t : Tok) : ByteArray := if t.empty then ⟨#[]⟩ else Utf8.encode t.r
def unitC (sep : Int → Bool) (t : Tok) : List Value := [.string (unitS t), .bool (!solid sep t), .bool (!solid sep t && isWS t.r)]
def unitCells (sep : Int → Bool) (ts : List Tok) : List Value := ts.flatMap (unitC sep)
theorem unitCells_snoc (sep : Int → Bool) (ts : List Tok) (t : Tok) : unitCells sep (ts ++ [t]) = unitCells sep ts ++ unitC sep t := by simp [unitCells]
theorem unitCells_len (sep : Int → Bool) (ts : List Tok) : (unitCells sep ts).length = ts.length * 3 := by
  induction ts with
  | nil => rfl
  | cons a l ih => simp only [unitCells, List.flatMap_cons, List.length_append, List.length_cons] at ih ⊢; rw [ih]; simp [unitC]; omega
theorem unitCells_get (sep : Int → Bool) : ∀ (ts : List Tok) (k : Nat) (d : Tok), k < ts.length →
    (unitCells sep ts)[k * 3]? = some (.string (unitS (ts.getD k d))) ∧ (unitCells sep ts)[k * 3 + 1]? = some (.bool (!solid sep (ts.getD k d))) ∧ (unitCells sep ts)[k * 3 + 2]? = some (.bool (!solid sep (ts.getD k d) && isWS (ts.getD k d).r))
  | [], k, _, h => by simp at h
  | t :: ts, 0, _, _ => by simp [unitCells, unitC]
  | t :: ts, k + 1, d, h => by
    have ih := unitCells_get sep ts k d (by simpa using h)
    have e : unitCells sep (t :: ts) = unitC sep t ++ unitCells sep ts := rfl
    have hl : (unitC sep t).length = 3 := rfl
    rw [e, List.getElem?_append_right (by omega), List.getElem?_append_right (by omega), List.getElem?_append_right (by omega), hl, show (k + 1) * 3 - 3 = k * 3 by omega, show (k + 1) * 3 + 1 - 3 = k * 3 + 1 by omega, show (k + 1) * 3 + 2 - 3 = k * 3 + 2 by omega]
    simpa using ih

end Go.Proofs.YtgppbbonfbhhbaaDoor
