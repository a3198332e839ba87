/-
  How far the two searches of n = 1 go. No walk here.
-/
import Derived.Test.YtgppbbonfbhhbaaDoorReady
namespace Go.Proofs.YtgppbbonfbhhbaaDoor
open Go.RowKit Rf

/-- How far the search from the left has come; from the right. -/
def LoAt (ws : Int → Bool) (l : List Int) (b j : Nat) : Prop := lo ws l b = j + (((l.take b).drop j).takeWhile ws).length
def HiAt (ws : Int → Bool) (l : List Int) (b h : Nat) : Prop := hi ws l b = h - (((l.take h).drop b).reverse.takeWhile ws).length

theorem lo_start (ws : Int → Bool) (l : List Int) (b : Nat) : LoAt ws l b 0 := by simp [LoAt, lo]
theorem lo_cons (l : List Int) (b j : Nat) (hj : j < b) (hb : b ≤ l.length) : (l.take b).drop j = l.getD j 0 :: (l.take b).drop (j + 1) := by
  have h1 : j < (l.take b).length := by simp; omega
  rw [List.drop_eq_getElem_cons h1]
  congr 1
  rw [List.getElem_take]
  simp [List.getD, show j < l.length by omega]
theorem lo_step {ws : Int → Bool} {l : List Int} {b j : Nat} (h : LoAt ws l b j) (hj : j < b) (hb : b ≤ l.length) (hw : ws (l.getD j 0) = true) : LoAt ws l b (j + 1) := by
  unfold LoAt at h ⊢
  rw [h, lo_cons l b j hj hb, List.takeWhile_cons_of_pos hw, List.length_cons]
  omega
theorem lo_stop {ws : Int → Bool} {l : List Int} {b j : Nat} (h : LoAt ws l b j) (hj : j < b) (hb : b ≤ l.length) (hw : ¬ ws (l.getD j 0) = true) : lo ws l b = j := by
  unfold LoAt at h
  rw [h, lo_cons l b j hj hb, List.takeWhile_cons_of_neg hw]
  rfl
theorem lo_all {ws : Int → Bool} {l : List Int} {b : Nat} (h : LoAt ws l b b) : lo ws l b = b := by
  unfold LoAt at h
  rw [h, List.drop_eq_nil_of_le (by simp; omega)]
  rfl
theorem hi_start (ws : Int → Bool) (l : List Int) (b : Nat) : HiAt ws l b l.length := by simp [HiAt, hi]
theorem hi_snoc (l : List Int) (b h : Nat) (hb : b < h + 1) (hl : h + 1 ≤ l.length) : (l.take (h + 1)).drop b = (l.take h).drop b ++ [l.getD h 0] := by
  have h1 : h < l.length := by omega
  rw [List.take_succ_eq_append_getElem h1, List.drop_append_of_le_length (by simp; omega)]
  simp [List.getD, h1]
theorem hi_step {ws : Int → Bool} {l : List Int} {b h : Nat} (hh : HiAt ws l b (h + 1)) (hb : b < h + 1) (hl : h + 1 ≤ l.length) (hw : ws (l.getD h 0) = true) : HiAt ws l b h := by
  unfold HiAt at hh ⊢
  rw [hh, hi_snoc l b h hb hl, List.reverse_append, List.reverse_singleton, List.singleton_append, List.takeWhile_cons_of_pos hw, List.length_cons]
  omega
theorem hi_stop {ws : Int → Bool} {l : List Int} {b h : Nat} (hh : HiAt ws l b (h + 1)) (hb : b < h + 1) (hl : h + 1 ≤ l.length) (hw : ¬ ws (l.getD h 0) = true) : hi ws l b = h + 1 := by
  unfold HiAt at hh
  rw [hh, hi_snoc l b h hb hl, List.reverse_append, List.reverse_singleton, List.singleton_append, List.takeWhile_cons_of_neg hw]
  rfl
theorem hi_all {ws : Int → Bool} {l : List Int} {b : Nat} (h : HiAt ws l b b) : hi ws l b = b := by
  unfold HiAt at h
  rw [h, List.drop_eq_nil_of_le (by simp; omega)]
  rfl

/-- One field, its two places written. -/
theorem ready_one {N B K ga rc g c : Nat} {s : ByteArray} {pos : Nat} {W wr : World} {out : List Int} {fs : List (Nat × Nat)} (h : Mem B K s pos W (.slice (some ⟨ga, 0, none⟩) out.length rc) (.slice (some ⟨g, 0, none⟩) N c) out fs none wr) (hN : N = fs.length) (h0 : 0 < fs.length) (x y : Nat) :
    Ready B W ga out [(x, y)] g ((wr.setCell ⟨g, 0, none⟩ (.int .i64 x)).setCell ⟨g, 1, none⟩ (.int .i64 y)) where
  flds k hk := by
    subst hN
    obtain rfl : k = 0 := by simpa using hk
    have hf : wr.ownsRow B 69 2 (.slice (some ⟨g, 0, none⟩) fs.length c) fs.length (fcells fs none) := h.flds
    have hs := (((hf.stored 0 (.int .i64 x)).1).stored 1 (.int .i64 y)).1
    have hl := fcells_none_length fs
    refine ⟨?_, ?_⟩
    · rw [hs.cellAt _ (by omega), List.getElem?_set_ne (by omega), List.getElem?_set_self (by omega)]
      rfl
    · rw [hs.cellAt _ (by omega), List.getElem?_set_self (by simp; omega)]
      rfl
  rows j hj := by
    subst hN
    have hr := own_apart h.rows h.flds (by decide)
    have hga : ga ≠ g := by intro e; subst e; rcases hr with hr | hr <;> simp [Value.ownBlock] at hr
    rw [World.cell?_setCell_other _ _ _ _ (by intro e; cases e; exact hga rfl), World.cell?_setCell_other _ _ _ _ (by intro e; cases e; exact hga rfl)]
    exact rows_cells h.rows j hj
  bel := by
    have hg := (h.flds.lt g rfl).1
    exact (h.bel.setCell hg _).setCell hg _
  hB := by simpa [World.setCell] using h.size
end Go.Proofs.YtgppbbonfbhhbaaDoor
