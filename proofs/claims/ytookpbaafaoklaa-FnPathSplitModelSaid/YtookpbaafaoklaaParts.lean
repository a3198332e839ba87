/-
  Plain law: what the two splitting loops of the seat compute, as a function of the text's bytes, and what a slash between two texts does to it. No program in sight.
-/
import Derived.WalkKit
namespace Go.Proofs.Ytookpbaafaoklaa.Plain

/-- After k bytes: the pieces that are closed, and where the open piece began. -/
def stepTo (s : ByteArray) : Nat → List ByteArray × Nat
  | 0 => ([], 0)
  | k + 1 => if (s.data.toList.getD k 0).toNat = 47 then ((stepTo s k).1 ++ [s.extract (stepTo s k).2 k], k + 1) else stepTo s k

/-- All pieces. -/
def pieces (s : ByteArray) : List ByteArray := (stepTo s s.size).1 ++ [s.extract (stepTo s s.size).2 s.size]

theorem stepTo_start_le (s : ByteArray) (k : Nat) : (stepTo s k).2 ≤ k := by
  induction k with
  | zero => simp [stepTo]
  | succ k ih =>
    unfold stepTo
    split
    · simp
    · omega

theorem stepTo_length_le (s : ByteArray) (k : Nat) : (stepTo s k).1.length ≤ k := by
  induction k with
  | zero => simp [stepTo]
  | succ k ih =>
    unfold stepTo
    split
    · simp; omega
    · omega

theorem stepTo_hit (s : ByteArray) (k : Nat) (h : (s.data.toList.getD k 0).toNat = 47) : stepTo s (k + 1) = ((stepTo s k).1 ++ [s.extract (stepTo s k).2 k], k + 1) := by
  rw [stepTo, if_pos h]

theorem stepTo_miss (s : ByteArray) (k : Nat) (h : ¬ (s.data.toList.getD k 0).toNat = 47) : stepTo s (k + 1) = stepTo s k := by
  rw [stepTo, if_neg h]

theorem pieces_length (s : ByteArray) : (pieces s).length = (stepTo s s.size).1.length + 1 := by simp [pieces]

theorem pieces_pos (s : ByteArray) : 1 ≤ (pieces s).length := by rw [pieces_length]; omega

theorem pieces_le (s : ByteArray) : (pieces s).length ≤ s.size + 1 := by rw [pieces_length]; have := stepTo_length_le s s.size; omega

/-! ### The second law: a slash between two texts -/

/-- Ahead of the slash the steps are the first text's own. -/
theorem stepTo_left (a b : ByteArray) (k : Nat) (hk : k ≤ a.size) (s : ByteArray) (hs : s.data.toList = a.data.toList ++ 47 :: b.data.toList) : stepTo s k = stepTo a k := by
  induction k with
  | zero => rfl
  | succ k ih =>
    have e : s.data.toList.getD k 0 = a.data.toList.getD k 0 := by
      rw [hs]
      have : k < a.data.toList.length := by simp; omega
      simp [List.getD, List.getElem?_append_left this]
    have hx : s.extract (stepTo a k).2 k = a.extract (stepTo a k).2 k := by
      apply ByteArray.ext
      apply Array.ext'
      have hle := stepTo_start_le a k
      simp only [ByteArray.data_extract, Array.toList_extract, List.extract_eq_take_drop]
      rw [hs]
      have h1 : k - (stepTo a k).2 ≤ (a.data.toList.drop (stepTo a k).2).length := by simp; omega
      rw [List.drop_append_of_le_length (by simp; omega), List.take_append_of_le_length h1]
    rw [stepTo, stepTo, ih (by omega), e, hx]

/-- Behind the slash they are the second text's, moved. -/
theorem stepTo_right (a b : ByteArray) (j : Nat) (hj : j ≤ b.size) (s : ByteArray) (hs : s.data.toList = a.data.toList ++ 47 :: b.data.toList) :
    stepTo s (a.size + 1 + j) = (pieces a ++ (stepTo b j).1, a.size + 1 + (stepTo b j).2) := by
  induction j with
  | zero =>
    have e : (s.data.toList.getD a.size 0).toNat = 47 := by
      rw [hs]
      have : a.size = a.data.toList.length := by simp
      rw [this]
      simp [List.getD]
    have hl := stepTo_left a b a.size (Nat.le_refl _) s hs
    show stepTo s (a.size + 1) = _
    rw [stepTo_hit s a.size e, hl]
    have hx : s.extract (stepTo a a.size).2 a.size = a.extract (stepTo a a.size).2 a.size := by
      apply ByteArray.ext
      apply Array.ext'
      have hle := stepTo_start_le a a.size
      simp only [ByteArray.data_extract, Array.toList_extract, List.extract_eq_take_drop]
      rw [hs]
      have h1 : a.size - (stepTo a a.size).2 ≤ (a.data.toList.drop (stepTo a a.size).2).length := by first | (simp; done) | (simp; omega)
      rw [List.drop_append_of_le_length (by simp; omega), List.take_append_of_le_length h1]
    rw [hx]
    simp [stepTo, pieces]
  | succ j ih =>
    have e : s.data.toList.getD (a.size + 1 + j) 0 = b.data.toList.getD j 0 := by
      rw [hs]
      have hz : a.data.toList.length = a.size := by simp
      simp only [List.getD]
      rw [List.getElem?_append_right (by omega)]
      have : a.size + 1 + j - a.data.toList.length = j + 1 := by omega
      rw [this, List.getElem?_cons_succ]
    have hx : s.extract (a.size + 1 + (stepTo b j).2) (a.size + 1 + j) = b.extract (stepTo b j).2 j := by
      apply ByteArray.ext
      apply Array.ext'
      have hz : a.data.toList.length = a.size := by simp
      simp only [ByteArray.data_extract, Array.toList_extract, List.extract_eq_take_drop]
      rw [hs]
      have hd : (a.data.toList ++ 47 :: b.data.toList).drop (a.size + 1 + (stepTo b j).2) = b.data.toList.drop (stepTo b j).2 := by
        rw [List.drop_append, List.drop_of_length_le (by omega), hz]
        have : a.size + 1 + (stepTo b j).2 - a.size = (stepTo b j).2 + 1 := by omega
        rw [this]
        simp
      rw [hd]
      have : a.size + 1 + j - (a.size + 1 + (stepTo b j).2) = j - (stepTo b j).2 := by omega
      rw [this]
    show stepTo s (a.size + 1 + j + 1) = _
    by_cases h : (b.data.toList.getD j 0).toNat = 47
    · rw [stepTo_hit s _ (by rw [e]; exact h), stepTo_hit b j h, ih (by omega)]
      simp only [hx, List.append_assoc, Prod.mk.injEq]
      exact ⟨trivial, by omega⟩
    · rw [stepTo_miss s _ (by rw [e]; exact h), stepTo_miss b j h, ih (by omega)]

theorem pieces_slash (a b s : ByteArray) (hs : s.data.toList = a.data.toList ++ 47 :: b.data.toList) : pieces s = pieces a ++ pieces b := by
  have hz : s.size = a.size + 1 + b.size := by
    have h1 : s.size = s.data.toList.length := by simp
    have h2 : a.size = a.data.toList.length := by simp
    have h3 : b.size = b.data.toList.length := by simp
    rw [h1, hs, h2, h3]
    simp
    omega
  have hr := stepTo_right a b b.size (Nat.le_refl _) s hs
  have hle := stepTo_start_le b b.size
  have hx : s.extract (a.size + 1 + (stepTo b b.size).2) (a.size + 1 + b.size) = b.extract (stepTo b b.size).2 b.size := by
    apply ByteArray.ext
    apply Array.ext'
    have hz : a.data.toList.length = a.size := by simp
    simp only [ByteArray.data_extract, Array.toList_extract, List.extract_eq_take_drop]
    rw [hs]
    have hd : (a.data.toList ++ 47 :: b.data.toList).drop (a.size + 1 + (stepTo b b.size).2) = b.data.toList.drop (stepTo b b.size).2 := by
      rw [List.drop_append, List.drop_of_length_le (by omega), hz]
      have : a.size + 1 + (stepTo b b.size).2 - a.size = (stepTo b b.size).2 + 1 := by omega
      rw [this]
      simp
    rw [hd]
    have : a.size + 1 + b.size - (a.size + 1 + (stepTo b b.size).2) = b.size - (stepTo b b.size).2 := by omega
    rw [this]
  rw [pieces, hz, hr, hx]
  simp [pieces]

end Go.Proofs.Ytookpbaafaoklaa.Plain
