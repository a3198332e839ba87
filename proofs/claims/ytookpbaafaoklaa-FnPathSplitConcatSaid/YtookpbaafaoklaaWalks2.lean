/-
  The walk of the second law: the split of 'a', a slash, 'b'.
-/
import Derived.Test.YtookpbaafaoklaaWalks
namespace Go.Proofs.Ytookpbaafaoklaa
open Go.RowKit Plain

theorem bytes2_any (p q : ByteArray) (w : World) (h : p.size + q.size ≤ 1048576) : Calls Try.prog 10 #[.string p, .string q] w fun e w' => e = .returned (.bool true) ∧ w' = w := by
  go_enter Try.func10, Try.ntmps10
  go_wp2
  go_ret
  exact ⟨rfl, rfl⟩

theorem bytes2_no (p q : ByteArray) (w : World) (h : 1048576 < p.size + q.size) (hp : p.size ≤ maxLen) (hq : q.size ≤ maxLen) : Calls Try.prog 10 #[.string p, .string q] w fun e w' => e = .returned (.bool false) ∧ w' = w := by
  unfold maxLen at hp hq
  by_cases h1 : 1048576 < p.size
  · go_enter Try.func10, Try.ntmps10
    go_wp2
    go_ret
    exact ⟨rfl, rfl⟩
  · by_cases h2 : 1048576 < q.size
    · go_enter Try.func10, Try.ntmps10
      go_wp2
      go_ret
      exact ⟨rfl, rfl⟩
    · go_enter Try.func10, Try.ntmps10
      go_wp2
      go_ret
      exact ⟨rfl, rfl⟩

theorem size_cat (a b : ByteArray) : (a ++ ⟨#[47]⟩ ++ b).size = a.size + 1 + b.size := by
  simp [ByteArray.size_append]
  rfl

theorem toList_cat (a b : ByteArray) : (a ++ ⟨#[47]⟩ ++ b).data.toList = a.data.toList ++ 47 :: b.data.toList := by
  simp [ByteArray.data_append]

theorem own_below {w1 w2 : World} {base e size g n cap : Nat} {xs : List Value} (h : w1.ownsRow base e size (.slice (some ⟨g, 0, none⟩) n cap) n xs) (hb : Below w1.heap.size w1 w2) :
    w2.ownsRow base e size (.slice (some ⟨g, 0, none⟩) n cap) n xs := by
  have hl := row_lt h
  refine ⟨h.1, ?_⟩
  rcases h.2 with hn | ⟨g', cap', cur, hv, hg, hh, r⟩
  · exact Or.inl hn
  · simp only [Value.slice.injEq, Option.some.injEq, Addr.mk.injEq, and_true, true_and] at hv
    obtain ⟨rfl, rfl⟩ := hv
    exact Or.inr ⟨g, cap, cur, rfl, hg, by rw [hb.block g hl.2]; exact hh, r⟩

theorem cat_any (a b : ByteArray) (w : World) (h : a.size + b.size ≤ 1048576) :
    Calls Try.prog 7 #[.string (a ++ ⟨#[47]⟩ ++ b)] w fun e w' => ∃ g cap, e = .returned (.slice (some ⟨g, 0, none⟩) (pieces a ++ pieces b).length cap) ∧
      w'.ownsRow w.heap.size 9 1 (.slice (some ⟨g, 0, none⟩) (pieces a ++ pieces b).length cap) (pieces a ++ pieces b).length ((pieces a ++ pieces b).map Value.string) ∧ Below w.heap.size w w' := by
  rw [← pieces_slash a b _ (toList_cat a b)]
  exact pathSplit_any _ _ (by rw [size_cat]; omega)

/-- The cells of an owned row of strings, as an append's source. -/
theorem news_of {w w' : World} {base g n cap : Nat} {xs : List ByteArray} (h : w.ownsRow base 9 1 (.slice (some ⟨g, 0, none⟩) n cap) n (xs.map Value.string))     (hb : ∀ k, w'.cell? ⟨g, k, none⟩ = w.cell? ⟨g, k, none⟩) : ∀ j u, (xs.map Value.string)[j]? = some u → w'.cell? ((⟨g, 0, none⟩ : Addr).add j) = some u := by
  intro j u hu
  have hj : j < xs.length := by have := (List.getElem?_eq_some_iff.1 hu).1; simpa using this
  have hl : n * 1 = (xs.map Value.string).length := h.1.symm
  rw [Addr.add_lit, Nat.zero_add, hb, h.cellAt j (by rw [hl]; simpa using hj)]
  exact hu

/-- A law's 'grownBy' at the block that the appended slice heads. -/
theorem of_row {w w' : World} {v : Value} {g n cap : Nat} (h : w.grownBy w' v.ownBlock) (hv : v = .slice (some ⟨g, 0, none⟩) n cap) : w.grownBy w' (some g) := by
  subst hv
  exact h

theorem strs_one (xs : List ByteArray) : ∀ u ∈ xs.map Value.string, u.oneCell' = true := by
  intro u hu
  obtain ⟨_, _, rfl⟩ := List.mem_map.1 hu
  rfl

/-- The comparison at the last: one side an owned row whose value is not written out. -/
theorem same_cat (xs ys : List ByteArray) (g c : Nat) (v : Value) (w : World) (hp : 0 < xs.length + ys.length) (hl : xs.length + ys.length ≤ 9223372036854775807)
    (h1 : ∀ k, k < (xs ++ ys).length → w.cell? ⟨g, k, none⟩ = some (.string ((xs ++ ys).getD k ByteArray.empty))) {base : Nat} (h2 : w.ownsRow base 9 1 v (xs.length + ys.length) (xs.map Value.string ++ ys.map Value.string)) :
    Calls Try.prog 8 #[.slice (some ⟨g, 0, none⟩) (xs.length + ys.length) c, v] w fun e w' => e = .returned (.bool true) ∧ ∃ n, w' = w.drewN n := by
  obtain ⟨g', c', rfl⟩ := own_shape h2 hp
  rw [← List.map_append] at h2
  have e : xs.length + ys.length = (xs ++ ys).length := by simp
  rw [e] at h2 hl ⊢
  exact same_any (xs ++ ys) g c g' c' w hl h1 (cells_of h2 rfl (fun _ => rfl))

set_option maxHeartbeats 1000000 in
theorem concat_law (a b : ByteArray) (w : World) (ha : a.size ≤ maxLen) (hb : b.size ≤ maxLen) : Calls Try.prog 4 #[.string a, .string b] w fun e w' => e = .returned (.bool true) ∧ Below w.heap.size w w' := by
  by_cases h : a.size + b.size ≤ 1048576
  · clear ha hb
    have pa := pieces_le a
    have pb := pieces_le b
    have qa := pieces_pos a
    have qb := pieces_pos b
    obtain ⟨i0, hi, hz0, hz1, hz2⟩ := info_parts Try.info9
    go_enter Try.func4, Try.ntmps4
    go_wp2_with (go_at_call 10; refine (bytes2_any _ _ _ h).mono ?_; rintro e w' ⟨rfl, hw⟩; subst w')
    refine (pathSplit_any _ _ (by omega)).mono ?_; rintro e w1 ⟨g1, cap1, rfl, hown1, hb1⟩
    go_wp2_with fail
    refine (pathSplit_any _ _ (by omega)).mono ?_; rintro e w2 ⟨g2, cap2, rfl, hown2, hb2⟩
    go_wp2_with fail
    refine (cat_any _ _ _ h).mono ?_; rintro e w3 ⟨g3, cap3, rfl, hown3, hb3⟩
    have o1 := own_below (own_below hown1 hb2) hb3
    have o2 := own_below hown2 hb3
    have l1 := row_lt o1
    have l2 := row_lt o2
    have l3 := row_lt hown3
    go_wp2_with (first
      | (at_make; refine wpList_make_own _ rfl _ _ 25 rfl w3.heap.size 9 i0 (.string ByteArray.empty) 1 Try.underlying25 hi hz0 hz1 _ _ _ ((pieces a).length + (pieces b).length) rfl rfl (by omega) (by rw [hz2]; omega) (by unfold maxLen; omega) (Nat.le_refl _) ?_; intro w4 hown4 hgrow4; have s4 := hgrow4.size)
      | (at_builtin; refine wpList_append_own _ rfl (.tmp 42) (.tmp 43) 25 rfl w3.heap.size 9 i0 (.string ByteArray.empty) 1 16 Try.underlying25 hi hz0 hz1 hz2 rfl (by decide) _ _ _ rfl hown4 ⟨g1, 0, none⟩ (pieces a).length cap1 ((pieces a).map Value.string) rfl (by simp) (news_of o1 (fun k => World.cell?_of_block (a := ⟨g1, k, none⟩) (hgrow4.block g1 l1.2 (by simp)))) (strs_one _) (by unfold maxLen; omega) (by omega) hgrow4.size ?_; intro w5v w5 hown5 hgrow5 _; simp only [Nat.zero_add, List.nil_append] at hown5; have g5 := of_row (g := w3.heap.size) hgrow5 rfl; clear hgrow5; have s5 := g5.size)
      | (at_builtin; refine wpList_append_own _ rfl (.tmp 45) (.tmp 46) 25 rfl w3.heap.size 9 i0 (.string ByteArray.empty) 1 16 Try.underlying25 hi hz0 hz1 hz2 rfl (by decide) _ _ _ rfl hown5 ⟨g2, 0, none⟩ (pieces b).length cap2 ((pieces b).map Value.string) rfl (by simp) (news_of o2 (fun k => (World.cell?_of_block (a := ⟨g2, k, none⟩) (g5.block g2 (by omega) (by simp; omega))).trans (World.cell?_of_block (a := ⟨g2, k, none⟩) (hgrow4.block g2 l2.2 (by simp))))) (strs_one _) (by unfold maxLen; omega) (by omega) (by omega) ?_; intro w6v w6 hown6 hgrow6 _))
    have k3 : ∀ k, w6.cell? ⟨g3, k, none⟩ = w3.cell? ⟨g3, k, none⟩ := fun k =>
      (World.cell?_of_block (a := ⟨g3, k, none⟩) (hgrow6.block g3 (by omega) (fun e => by have := (hown5.lt g3 e.symm).1; omega))).trans
        ((World.cell?_of_block (a := ⟨g3, k, none⟩) (g5.block g3 (by omega) (by simp; omega))).trans (World.cell?_of_block (a := ⟨g3, k, none⟩) (hgrow4.block g3 l3.2 (by simp))))
    refine (same_cat (pieces a) (pieces b) _ _ _ _ (by omega) (by omega) (cells_of hown3 rfl k3) hown6).mono ?_
    rintro e w7 ⟨rfl, n, rfl⟩
    go_wp2
    go_ret
    refine ⟨rfl, below_drewN ?_ n⟩
    have b1 := hb2.mono hb1.size
    have b2 := hb3.mono (Nat.le_trans hb1.size hb2.size)
    have z : w.heap.size ≤ w3.heap.size := Nat.le_trans hb1.size (Nat.le_trans hb2.size hb3.size)
    have b3 := (((Below.refl w3.heap.size w3).grown hgrow4 (Nat.le_refl _) (fun k h => by cases h)).grown g5 (by omega) (fun k h => by cases h; exact Nat.le_refl _)).grown hgrow6 (by omega) (fun j hj => (hown5.lt j hj).1)
    exact hb1.trans (b1.trans (b2.trans (b3.mono z)))
  · have h' : 1048576 < a.size + b.size := by omega
    clear h
    go_enter Try.func4, Try.ntmps4
    go_wp2_with (go_at_call 10; refine (bytes2_no _ _ _ h' ha hb).mono ?_; rintro e w' ⟨rfl, rfl⟩)
    go_ret
    exact ⟨rfl, Below.refl _ _⟩
end Go.Proofs.Ytookpbaafaoklaa
