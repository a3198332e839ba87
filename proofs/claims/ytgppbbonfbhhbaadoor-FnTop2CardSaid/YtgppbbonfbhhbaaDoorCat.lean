/-
  Units put together are their runes' text. No program in sight.
-/
import Derived.Test.YtgppbbonfbhhbaaDoorEnds
namespace Go.Proofs.YtgppbbonfbhhbaaDoor
open Go.RowKit Rf

theorem rb_from : ∀ (l : List Int) (acc : ByteArray), l.foldl (fun r n => r ++ Utf8.encode n) acc = acc ++ runesBytes l
  | [], acc => by simp [runesBytes]
  | n :: l, acc => by
    have h1 := rb_from l (acc ++ Utf8.encode n)
    have h2 := rb_from l (ByteArray.empty ++ Utf8.encode n)
    unfold runesBytes
    simp only [List.foldl_cons]
    rw [h1, h2, ByteArray.empty_append, ByteArray.append_assoc]
theorem rb_cons (n : Int) (l : List Int) : runesBytes (n :: l) = Utf8.encode n ++ runesBytes l := by
  have h := rb_from l (ByteArray.empty ++ Utf8.encode n)
  rw [ByteArray.empty_append] at h
  unfold runesBytes at h ⊢
  simp only [List.foldl_cons]
  rw [ByteArray.empty_append]
  exact h

/-- The text of some units, one behind the other. -/
def catU (ts : List Tok) : ByteArray := runesBytes (textOf ts)
theorem catU_nil : catU [] = ⟨#[]⟩ := rfl
theorem catU_snoc (ts : List Tok) (t : Tok) : catU (ts ++ [t]) = catU ts ++ unitS t := by
  unfold catU unitS
  cases h : t.empty
  · rw [textOf_keep _ _ h]
    have e : ∀ (l : List Int) (n : Int), runesBytes (l ++ [n]) = runesBytes l ++ Utf8.encode n := fun l n => by
      unfold runesBytes
      rw [List.foldl_append]
      rfl
    rw [e]
    rfl
  · rw [textOf_skip _ _ h]
    have e : (⟨#[]⟩ : ByteArray) = ByteArray.empty := rfl
    simp only [if_true]
    rw [e, ByteArray.append_empty]
end Go.Proofs.YtgppbbonfbhhbaaDoor
