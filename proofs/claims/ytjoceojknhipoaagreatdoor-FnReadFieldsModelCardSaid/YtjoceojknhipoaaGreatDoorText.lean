/-
  The model's text of some tokens.
-/
import Derived.Test.YtjoceojknhipoaaGreatDoorTok
namespace Go.Proofs.YtjoceojknhipoaaGreatDoor
open Go.RowKit Rf

def textOf (ts : List Tok) : List Int := (ts.filter (fun t => !t.empty)).map Tok.r
theorem textOf_skip (l : List Tok) (t : Tok) (h : t.empty = true) : textOf (l ++ [t]) = textOf l := by simp [textOf, h]
theorem textOf_keep (l : List Tok) (t : Tok) (h : t.empty = false) : textOf (l ++ [t]) = textOf l ++ [t.r] := by simp [textOf, h]
theorem take_snoc (ts : List Tok) (a i : Nat) (d : Tok) (ha : a ≤ i) (hi : i < ts.length) : (ts.take (i + 1)).drop a = (ts.take i).drop a ++ [ts.getD i d] := by
  rw [List.take_succ_eq_append_getElem hi, List.drop_append_of_le_length (by simp; omega)]
  simp [List.getD, hi]

/-- The tokens lie in block g. -/
def ToksAt (w : World) (g : Nat) (ts : List Tok) : Prop := ∀ k d, k < ts.length →
  w.cell? ⟨g, k * 3, none⟩ = some (.int .i32 (ts.getD k d).r) ∧ w.cell? ⟨g, k * 3 + 1, none⟩ = some (.bool (ts.getD k d).lit) ∧ w.cell? ⟨g, k * 3 + 2, none⟩ = some (.bool (ts.getD k d).empty)

theorem toksAt_below {w w' : World} {g : Nat} {ts : List Tok} {B : Nat} (h : ToksAt w g ts) (hg : g < B) (hb : Below B w w') : ToksAt w' g ts := fun k d hk => by
  obtain ⟨h1, h2, h3⟩ := h k d hk
  exact ⟨(hb.cell hg).trans h1, (hb.cell hg).trans h2, (hb.cell hg).trans h3⟩

theorem toksAt_own {w : World} {base g c : Nat} {ts : List Tok} (h : w.ownsRow base 63 3 (.slice (some ⟨g, 0, none⟩) ts.length c) ts.length (tokCells ts)) : ToksAt w g ts := fun k d hk => by
  obtain ⟨h1, h2, h3⟩ := tokCells_get ts k d hk
  exact ⟨by rw [h.cellAt _ (by omega)]; exact h1, by rw [h.cellAt _ (by omega)]; exact h2, by rw [h.cellAt _ (by omega)]; exact h3⟩

structure TextMem (w : World) (a i : Nat) (ts : List Tok) (v : Value) (wr : World) : Prop where
  own : wr.ownsRow w.heap.size 21 1 v (textOf ((ts.take i).drop a)).length ((textOf ((ts.take i).drop a)).map (Value.int .i32))
  nn : v ≠ .slice none 0 0
  bel : Below w.heap.size w wr

theorem textOf_le (l : List Tok) : (textOf l).length ≤ l.length := by
  unfold textOf
  rw [List.length_map]
  exact List.length_filter_le _ _

theorem textMem_skip {w wr : World} {a i : Nat} {ts : List Tok} {v : Value} (h : TextMem w a i ts v wr) (t : Tok) (ht : ts.getD i ⟨0, false, false⟩ = t) (ha : a ≤ i) (hi : i < ts.length) (he : t.empty = true) : TextMem w a (i + 1) ts v wr := by
  have e : textOf ((ts.take (i + 1)).drop a) = textOf ((ts.take i).drop a) := by rw [take_snoc ts a i ⟨0, false, false⟩ ha hi, ht, textOf_skip _ _ he]
  exact ⟨by rw [e]; exact h.own, h.nn, h.bel⟩
theorem textMem_push {w wr w1 : World} {a i : Nat} {ts : List Tok} {v v1 : Value} (h : TextMem w a i ts v wr) (o : Obj) (t : Tok) (ht : ts.getD i ⟨0, false, false⟩ = t) (ha : a ≤ i) (hi : i < ts.length) (he : t.empty = false)
    (hown : w1.ownsRow w.heap.size 21 1 v1 ((textOf ((ts.take i).drop a)).length + 1) ((textOf ((ts.take i).drop a)).map (Value.int .i32) ++ [.int .i32 t.r])) (hg : (wr.alloc o).grownBy w1 v.ownBlock)
    (hn : v1 = .slice none 0 0 ↔ v = .slice none 0 0 ∧ 1 = 0) : TextMem w a (i + 1) ts v1 w1 where
  own := by rw [take_snoc ts a i ⟨0, false, false⟩ ha hi, ht, textOf_keep _ _ he]; simpa using hown
  nn := fun e => by have := hn.1 e; omega
  bel := (h.bel.alloc h.bel.size o).grown hg (by have := h.bel.size; simp; omega) (fun k hk => (h.own.lt k hk).1)

theorem conv_all {w : World} {base g c : Nat} {l : List Int} (h : w.ownsRow base 21 1 (.slice (some ⟨g, 0, none⟩) l.length c) l.length (l.map (Value.int .i32))) :
    (convert 53 9 (.slice (some ⟨g, 0, none⟩) l.length c)).run Tryz.prog w = .ok (.string (runesBytes l)) w := by
  rw [run_convert_runes w 53 9 21 ⟨g, 0, none⟩ l.length c l (Nat.le_refl _) Tryz.underlying53 (by kernel_rfl) (by kernel_rfl) ?_]
  · rw [List.take_length]
  · intro j hj
    have e : (⟨g, 0, none⟩ : Addr).add j = ⟨g, j, none⟩ := by rw [Addr.add_lit, Nat.zero_add]
    rw [e]
    exact rows_cells h j hj

set_option maxRecDepth 100000 in
set_option maxHeartbeats 1000000 in
theorem text_any (ts : List Tok) (g c a b : Nat) (w : World) (hl : ts.length ≤ 65536) (hb : b ≤ ts.length) (hab : a ≤ b) (hc : ToksAt w g ts) (hgw : g < w.heap.size) :
    Calls Tryz.prog 23 #[.slice (some ⟨g, 0, none⟩) ts.length c, .int .i64 a, .int .i64 b] w fun e w' => e = .returned (.string (runesBytes (textOf ((ts.take b).drop a)))) ∧ Below w.heap.size w w' := by
  obtain ⟨i0, hi0, hz0, hz1, hz2⟩ := info_parts Tryz.info_rune
  have HC := Lib.hid hc
  clear hc
  obtain ⟨m, rfl⟩ : ∃ m, b = a + m := ⟨b - a, by omega⟩
  have hbz : (0 : Int) ≤ (a : Int) ∧ (a : Int) ≤ 65536 := by omega
  have hmz : (0 : Int) ≤ (m : Int) ∧ (m : Int) ≤ 65536 := by omega
  go_enter Tryz.func23, Tryz.ntmps23
  go_wp2_with (first
    | (at_make; refine wpList_make_own _ rfl _ _ 53 rfl w.heap.size 21 i0 (.int .i32 0) 1 Tryz.underlying53 hi0 hz0 hz1 _ _ _ m rfl rfl (by omega) (by rw [hz2]; omega) (by unfold maxLen; omega) (Nat.le_refl _) ?_; intro w1 hown1 hgrow1))
  have hst : TextMem w a a ts (.slice (some ⟨w.heap.size, 0, none⟩) 0 m) w1 := by
    have e : (ts.take a).drop a = [] := List.drop_eq_nil_of_le (by simp; omega)
    refine ⟨?_, by simp, (Below.refl _ w).grown hgrow1 (Nat.le_refl _) (by simp)⟩
    rw [e]
    exact hown1
  have HST := Lib.hid hst
  clear hst hown1 hgrow1
  go_loopg [7, 8] m (fun gk s7 s8 wr => ∃ (i : Nat) (v : Value), a ≤ i ∧ i ≤ a + m ∧ gk = a + m - i ∧ v = s7 ∧ s8 = .int .i64 i ∧ TextMem w a i ts v wr)
  case atStart => exact ⟨a, _, Nat.le_refl _, by omega, by omega, rfl, rfl, HST.out⟩
  case round =>
    obtain ⟨i, v, hai, hi, rfl, rfl, rfl, hm⟩ := hrel
    clear HST
    have HM := Lib.hid hm
    have hzr := hm.bel.size
    have hle : (textOf ((ts.take i).drop a)).length ≤ 65536 := by
      have := textOf_le ((ts.take i).drop a)
      simp at this
      omega
    have hown := hm.own
    clear hm
    by_cases hlt : i < a + m
    · have hiz : (i : Int) < (a : Int) + (m : Int) := by omega
      have hil : i < ts.length := by omega
      have hilz : (i : Int) < (ts.length : Int) := by omega
      obtain ⟨t, ht⟩ : ∃ t, ts.getD i ⟨0, false, false⟩ = t := ⟨_, rfl⟩
      obtain ⟨c1, c2, c3⟩ := toksAt_below HC.out hgw HM.out.bel i ⟨0, false, false⟩ hil
      rw [ht] at c1 c3
      clear c2
      have HT := Lib.hid ht
      clear ht
      obtain ⟨tr, tl, te⟩ := t
      simp only [] at c1 c3
      generalize hL : (textOf ((ts.take i).drop a)).length = N at hle hown
      generalize hX : (textOf ((ts.take i).drop a)).map (Value.int .i32) = X at hown
      have HLX := Lib.hid (And.intro hL hX)
      clear hL hX
      cases te
      · go_wp2_with (first
          | (at_builtin; refine wpList_append_own _ rfl _ _ 53 rfl w.heap.size 21 i0 (.int .i32 0) 1 4 Tryz.underlying53 hi0 hz0 hz1 hz2 rfl (by decide) _ _ _ rfl (hown.alloc _) ⟨wr.heap.size, 0, none⟩ 1 1 [.int .i32 tr] rfl rfl (cell_one_new _ _ _) (by intro u hu; simp at hu; subst hu; rfl) (by unfold maxLen; omega) (by omega) (by simp; omega) ?_; intro v1 w3 hown3 hgrow3 hnil3))
        go_roundg (a + m - (i + 1))
        case measure => omega
        case rel => exact ⟨i + 1, _, by omega, by omega, rfl, rfl, by first | rfl | simp, textMem_push HM.out _ ⟨tr, tl, false⟩ HT.out hai hil rfl (by rw [HLX.out.1, HLX.out.2]; exact hown3) hgrow3 hnil3⟩
      · go_wp2
        go_roundg (a + m - (i + 1))
        case measure => omega
        case rel => exact ⟨i + 1, _, by omega, by omega, rfl, rfl, by first | rfl | simp, textMem_skip HM.out ⟨tr, tl, true⟩ HT.out hai hil rfl⟩
    · obtain rfl : i = a + m := by omega
      obtain ⟨g2, c2, rfl⟩ := own_some HM.out.own HM.out.nn
      have hconv := conv_all HM.out.own
      clear hown
      go_wp2
      go_ret
      exact ⟨rfl, HM.out.bel⟩
end Go.Proofs.YtjoceojknhipoaaGreatDoor
