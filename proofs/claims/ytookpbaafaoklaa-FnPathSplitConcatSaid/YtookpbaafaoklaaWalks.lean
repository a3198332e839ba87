/-
  The walks: each function that the two laws call does what the plain law says.
-/
import Derived.Test.YtookpbaafaoklaaRows
import Derived.Test.YtookpbaafaoklaaParts
import Derived.WalkKit
import Derived.WalkSpells
import Derived.WalkLawsBesides
import Derived.BigQuiet
import Derived.Deep.QuietTactic
import Derived.Deep.DeepMust
import Derived.Outline
import Derived.Handy
import Derived.Lib.Hide
namespace Go.Proofs.Ytookpbaafaoklaa
open Go.RowKit Plain

theorem Try.info9 : (Try.prog.info? 9).map (fun i => (i.zero, i.size, i.bytes)) = some (some (.string ByteArray.empty), 1, 16) := by kernel_rfl

/-- The closed pieces after k bytes, as values. -/
def vals (s : ByteArray) (k : Nat) : List Value := (stepTo s k).1.map Value.string
def len (s : ByteArray) (k : Nat) : Nat := (stepTo s k).1.length
def start (s : ByteArray) (k : Nat) : Nat := (stepTo s k).2

theorem start_le (s : ByteArray) (k : Nat) : start s k ≤ k := stepTo_start_le s k
theorem len_le (s : ByteArray) (k : Nat) : len s k ≤ k := stepTo_length_le s k

theorem byte_at (s : ByteArray) (k : Nat) (h : k < s.size) : s.data.toList.getD k 0 = s[k] := by
  simp only [List.getD, ByteArray.getElem_eq_getElem_data]
  rw [List.getElem?_eq_getElem (by simpa using h)]
  simp

theorem hit_vals (s : ByteArray) (k : Nat) (h : k < s.size) (hb : s[k].toNat = 47) : vals s (k + 1) = vals s k ++ [.string (s.extract (start s k) k)] := by
  simp [vals, start, stepTo_hit s k (by rw [byte_at s k h]; exact hb)]
theorem hit_len (s : ByteArray) (k : Nat) (h : k < s.size) (hb : s[k].toNat = 47) : len s (k + 1) = len s k + 1 := by
  simp [len, stepTo_hit s k (by rw [byte_at s k h]; exact hb)]
theorem hit_start (s : ByteArray) (k : Nat) (h : k < s.size) (hb : s[k].toNat = 47) : start s (k + 1) = k + 1 := by
  simp [start, stepTo_hit s k (by rw [byte_at s k h]; exact hb)]
theorem miss_vals (s : ByteArray) (k : Nat) (h : k < s.size) (hb : ¬ s[k].toNat = 47) : vals s (k + 1) = vals s k := by
  simp [vals, stepTo_miss s k (by rw [byte_at s k h]; exact hb)]
theorem miss_len (s : ByteArray) (k : Nat) (h : k < s.size) (hb : ¬ s[k].toNat = 47) : len s (k + 1) = len s k := by
  simp [len, stepTo_miss s k (by rw [byte_at s k h]; exact hb)]
theorem miss_start (s : ByteArray) (k : Nat) (h : k < s.size) (hb : ¬ s[k].toNat = 47) : start s (k + 1) = start s k := by
  simp [start, stepTo_miss s k (by rw [byte_at s k h]; exact hb)]

/-- What the loop's relation says of the gathered slice, as one word. -/
def Has (w : World) (s : ByteArray) (k : Nat) (v : Value) (wr : World) : Prop := wr.ownsRow w.heap.size 9 1 v (len s k) (vals s k) ∧ Below w.heap.size w wr

theorem has_hit {w wr w1 : World} {s : ByteArray} {k : Nat} {v v1 : Value} (h : k < s.size) (hb : s[k].toNat = 47) (hh : Has w s k v wr) (o : Obj)
    (hown1 : w1.ownsRow w.heap.size 9 1 v1 (len s k + 1) (vals s k ++ [.string (s.extract (start s k) k)])) (hg : (wr.alloc o).grownBy w1 v.ownBlock) : Has w s (k + 1) v1 w1 := by
  refine ⟨by rw [hit_vals s k h hb, hit_len s k h hb]; exact hown1, ?_⟩
  have := hh.2.size
  exact (hh.2.alloc this o).grown hg (by simp; omega) (fun j hj => (hh.1.lt j hj).1)

/-- What the call hands back: a slice of its own that holds the pieces. -/
def Gives (s : ByteArray) (w : World) (e : Ending) (w' : World) : Prop :=
  ∃ g cap, e = .returned (.slice (some ⟨g, 0, none⟩) (pieces s).length cap) ∧ w'.ownsRow w.heap.size 9 1 (.slice (some ⟨g, 0, none⟩) (pieces s).length cap) (pieces s).length ((pieces s).map Value.string) ∧ Below w.heap.size w w'

theorem own_shape {w : World} {base : Nat} {e : TypeId} {size : Nat} {v : Value} {n : Nat} {xs : List Value} (h : w.ownsRow base e size v n xs) (hn : 0 < n) : ∃ g cap, v = .slice (some ⟨g, 0, none⟩) n cap := by
  rcases h.2 with ⟨_, h0⟩ | ⟨g, cap, cur, hv, _⟩
  · omega
  · exact ⟨g, cap, hv⟩

theorem gives {w wr w1 : World} {s : ByteArray} {v v1 : Value} (hh : Has w s s.size v wr) (o : Obj)
    (hown1 : w1.ownsRow w.heap.size 9 1 v1 (len s s.size + 1) (vals s s.size ++ [.string (s.extract (start s s.size) s.size)])) (hg : (wr.alloc o).grownBy w1 v.ownBlock) : Gives s w (.returned v1) w1 := by
  have e1 : len s s.size + 1 = (pieces s).length := by simp [pieces, len]
  have e2 : vals s s.size ++ [.string (s.extract (start s s.size) s.size)] = (pieces s).map Value.string := by simp [pieces, vals, start]
  rw [e1, e2] at hown1
  obtain ⟨g, cap, rfl⟩ := own_shape hown1 (pieces_pos s)
  have := hh.2.size
  exact ⟨g, cap, rfl, hown1, (hh.2.alloc this o).grown hg (by simp; omega) (fun j hj => (hh.1.lt j hj).1)⟩

set_option maxHeartbeats 400000 in
/-- 'zzSplitByte' at a slash. -/
theorem split_any (s : ByteArray) (w : World) (hs : s.size ≤ 4194304) :
    Calls Try.prog 15 #[.string s, .int .u8 47] w (Gives s w) := by
  obtain ⟨i0, hi, hz0, hz1, hz2⟩ := info_parts Try.info9
  go_enter Try.func15, Try.ntmps15
  go_wp2
  go_loopw [5, 6, 7] (fun v st i wr => ∃ k : Nat, k ≤ s.size ∧ i = .int .i64 k ∧ st = .int .i64 (start s k) ∧ Has w s k v wr) (fun _ _ i _ => s.size - (intOf i).toNat)
  case atStart => exact ⟨0, Nat.zero_le _, rfl, rfl, World.ownsRow_made w #[] 0 (Nat.le_refl _) (by decide) rfl, (Below.refl _ _).alloc (Nat.le_refl _) _⟩
  case round =>
    obtain ⟨k, hk, rfl, rfl, hh⟩ := hrel
    have hsl := start_le s k
    have hll := len_le s k
    have hsz := hh.2.size
    by_cases hlt : k < s.size
    · by_cases hb : s[k].toNat = 47
      · have hb1 : ((s[k].toNat : Int) == 47) = true := by simp [hb]
        have HB := Lib.hid hb
        clear hb
        go_wp2_with (first
          | (at_builtin; refine wpList_append_own _ rfl _ _ 25 rfl w.heap.size 9 i0 (.string ByteArray.empty) 1 16 Try.underlying25 hi hz0 hz1 hz2 rfl (by decide) _ _ _ rfl (hh.1.alloc _) ⟨wr.heap.size, 0, none⟩ 1 1 [.string (s.extract (start s k) k)] rfl rfl (cell_one_new _ _ _) (by intro u hu; simp at hu; subst hu; rfl) (by unfold maxLen; omega) (by omega) (by simp; omega) ?_; intro v1 w1 hown1 hgrow1 _))
        go_roundw
        case rel => exact ⟨k + 1, by omega, by go_num, by rw [hit_start s k hlt HB.out]; go_num, has_hit hlt HB.out hh _ hown1 hgrow1⟩
        case measure => simp [intOf]; omega
      · have hb1 : ((s[k].toNat : Int) == 47) = false := by simp; omega
        have HB := Lib.hid hb
        clear hb
        go_wp2
        go_roundw
        case rel => exact ⟨k + 1, by omega, by go_num, by rw [miss_start s k hlt HB.out], by unfold Has; rw [miss_vals s k hlt HB.out, miss_len s k hlt HB.out]; exact hh⟩
        case measure => simp [intOf]; omega
    · obtain rfl : k = s.size := by omega
      go_wp2_with (first
          | (at_builtin; refine wpList_append_own _ rfl _ _ 25 rfl w.heap.size 9 i0 (.string ByteArray.empty) 1 16 Try.underlying25 hi hz0 hz1 hz2 rfl (by decide) _ _ _ rfl (hh.1.alloc _) ⟨wr.heap.size, 0, none⟩ 1 1 [.string (s.extract (start s s.size) s.size)] rfl rfl (cell_one_new _ _ _) (by intro u hu; simp at hu; subst hu; rfl) (by unfold maxLen; omega) (by omega) (by simp; omega) ?_; intro v1 w1 hown1 hgrow1 _))
      go_ret
      exact gives hh _ hown1 hgrow1

set_option maxHeartbeats 400000 in
/-- The model's own splitter, both separators a slash. -/
theorem model_any (s : ByteArray) (w : World) (hs : s.size ≤ 4194304) :
    Calls Try.prog 9 #[.string s, .int .u8 47, .int .u8 47] w (Gives s w) := by
  obtain ⟨i0, hi, hz0, hz1, hz2⟩ := info_parts Try.info9
  go_enter Try.func9, Try.ntmps9
  go_wp2
  go_loopw [7, 8, 9] (fun v st i wr => ∃ k : Nat, k ≤ s.size ∧ i = .int .i64 k ∧ st = .int .i64 (start s k) ∧ Has w s k v wr) (fun _ _ i _ => s.size - (intOf i).toNat)
  case atStart => exact ⟨0, Nat.zero_le _, rfl, rfl, World.ownsRow_nil _ _ _ _, Below.refl _ _⟩
  case round =>
    obtain ⟨k, hk, rfl, rfl, hh⟩ := hrel
    have hsl := start_le s k
    have hll := len_le s k
    have hsz := hh.2.size
    by_cases hlt : k < s.size
    · by_cases hb : s[k].toNat = 47
      · have hb1 : ((s[k].toNat : Int) == 47) = true := by simp [hb]
        have HB := Lib.hid hb
        clear hb
        go_wp2_with (first
          | (at_builtin; refine wpList_append_own _ rfl _ _ 25 rfl w.heap.size 9 i0 (.string ByteArray.empty) 1 16 Try.underlying25 hi hz0 hz1 hz2 rfl (by decide) _ _ _ rfl (hh.1.alloc _) ⟨wr.heap.size, 0, none⟩ 1 1 [.string (s.extract (start s k) k)] rfl rfl (cell_one_new _ _ _) (by intro u hu; simp at hu; subst hu; rfl) (by unfold maxLen; omega) (by omega) (by simp; omega) ?_; intro v1 w1 hown1 hgrow1 _))
        go_roundw
        case rel => exact ⟨k + 1, by omega, by go_num, by rw [hit_start s k hlt HB.out]; go_num, has_hit hlt HB.out hh _ hown1 hgrow1⟩
        case measure => simp [intOf]; omega
      · have hb1 : ((s[k].toNat : Int) == 47) = false := by simp; omega
        have HB := Lib.hid hb
        clear hb
        go_wp2
        go_roundw
        case rel => exact ⟨k + 1, by omega, by go_num, by rw [miss_start s k hlt HB.out], by unfold Has; rw [miss_vals s k hlt HB.out, miss_len s k hlt HB.out]; exact hh⟩
        case measure => simp [intOf]; omega
    · obtain rfl : k = s.size := by omega
      go_wp2_with (first
          | (at_builtin; refine wpList_append_own _ rfl _ _ 25 rfl w.heap.size 9 i0 (.string ByteArray.empty) 1 16 Try.underlying25 hi hz0 hz1 hz2 rfl (by decide) _ _ _ rfl (hh.1.alloc _) ⟨wr.heap.size, 0, none⟩ 1 1 [.string (s.extract (start s s.size) s.size)] rfl rfl (cell_one_new _ _ _) (by intro u hu; simp at hu; subst hu; rfl) (by unfold maxLen; omega) (by omega) (by simp; omega) ?_; intro v1 w1 hown1 hgrow1 _))
      go_ret
      exact gives hh _ hown1 hgrow1

set_option maxHeartbeats 400000 in
/-- Two slices that hold the same strings: the comparison says yes. -/
theorem same_any (xs : List ByteArray) (g c g' c' : Nat) (w : World) (hl : xs.length ≤ 9223372036854775807)
    (h1 : ∀ k, k < xs.length → w.cell? ⟨g, k, none⟩ = some (.string (xs.getD k ByteArray.empty))) (h2 : ∀ k, k < xs.length → w.cell? ⟨g', k, none⟩ = some (.string (xs.getD k ByteArray.empty))) :
    Calls Try.prog 8 #[.slice (some ⟨g, 0, none⟩) xs.length c, .slice (some ⟨g', 0, none⟩) xs.length c'] w fun e w' => e = .returned (.bool true) ∧ ∃ n, w' = w.drewN n := by
  have H1 := Lib.hid h1
  have H2 := Lib.hid h2
  clear h1 h2
  go_enter Try.func8, Try.ntmps8
  go_wp2
  go_loopw [5] (fun i wr => ∃ k n : Nat, k ≤ xs.length ∧ i = .int .i64 k ∧ wr = w.drewN n) (fun i _ => xs.length - (intOf i).toNat)
  case atStart => exact ⟨0, 0, Nat.zero_le _, rfl, rfl⟩
  case round =>
    obtain ⟨k, n, hk, rfl, rfl⟩ := hrel
    by_cases hlt : k < xs.length
    · have c1 := H1.out k hlt
      have c2 := H2.out k hlt
      have b0 : (0 : Int) ≤ (k : Int) := by omega
      have b1 : (k : Int) < (xs.length : Int) := by omega
      go_wp2
      go_quiet (fail)
      go_wp2
      go_roundw
      case rel => exact ⟨k + 1, n + nq, by omega, by go_num, by simp⟩
      case measure => simp [intOf]; omega
    · go_wp2
      go_ret
      exact ⟨rfl, n, rfl⟩

/-- The size test on one text. -/
theorem bytes1_any (p : ByteArray) (w : World) (h : p.size ≤ 1048576) : Calls Try.prog 5 #[.string p] w fun e w' => e = .returned (.bool true) ∧ w' = w := by
  go_enter Try.func5, Try.ntmps5
  go_wp2
  go_ret
  exact ⟨rfl, rfl⟩

theorem bytes1_no (p : ByteArray) (w : World) (h : 1048576 < p.size) : Calls Try.prog 5 #[.string p] w fun e w' => e = .returned (.bool false) ∧ w' = w := by
  go_enter Try.func5, Try.ntmps5
  go_wp2
  go_ret
  exact ⟨rfl, rfl⟩

/-- 'a', a slash, 'b'. -/
theorem join_ab (w : World) : Calls Try.prog 11 #[.string ⟨#[97]⟩, .string ⟨#[98]⟩] w fun e w' => e = .returned (.string ⟨#[97, 47, 98]⟩) ∧ w' = w := by
  have h0 : (((⟨#[97]⟩ : ByteArray).extract 0 1).toList == [47]) = false := by decide +kernel
  go_enter Try.func11, Try.ntmps11
  go_wp2
  go_ret
  exact ⟨rfl, rfl⟩

/-- The separator: a slash. -/
theorem sep_any (w : World) : Calls Try.prog 6 #[] w fun e w' => e = .returned (.tuple #[.int .u8 47, .bool true]) ∧ w' = w := by
  go_enter Try.func6, Try.ntmps6
  go_wp2_with (go_at_call 11; refine (join_ab _).mono ?_; rintro e w' ⟨rfl, rfl⟩)
  go_ret2
  exact ⟨rfl, rfl⟩

theorem pathSplit_any (s : ByteArray) (w : World) (hs : s.size ≤ 4194304) :
    Calls Try.prog 7 #[.string s] w (Gives s w) := by
  go_enter Try.func7, Try.ntmps7
  go_wp2_with (first | (go_at_call 15; refine (split_any _ _ hs).mono ?_; rintro e w' ⟨g, cap, rfl, hown, hb⟩) | go_in)
  go_ret
  exact ⟨g, cap, rfl, hown, hb⟩

/-- A row's strings, as the comparison reads them. -/
theorem cells_of {w w' : World} {base g n cap : Nat} {xs : List ByteArray} (h : w.ownsRow base 9 1 (.slice (some ⟨g, 0, none⟩) n cap) n (xs.map Value.string)) (hn : n = xs.length)
    (hb : ∀ k, w'.cell? ⟨g, k, none⟩ = w.cell? ⟨g, k, none⟩) : ∀ k, k < xs.length → w'.cell? ⟨g, k, none⟩ = some (.string (xs.getD k ByteArray.empty)) := by
  intro k hk
  rw [hb, h.cellAt k (by omega)]
  simp [List.getD, hk]

theorem row_lt {w : World} {base e size g n cap : Nat} {xs : List Value} (h : w.ownsRow base e size (.slice (some ⟨g, 0, none⟩) n cap) n xs) : base ≤ g ∧ g < w.heap.size := h.lt g rfl

set_option maxHeartbeats 400000 in
theorem model_law (p : ByteArray) (w : World) (_h : p.size ≤ maxLen) : Calls Try.prog 3 #[.string p] w fun e w' => e = .returned (.bool true) ∧ Below w.heap.size w w' := by
  by_cases h : p.size ≤ 1048576
  · have hp := pieces_le p
    go_enter Try.func3, Try.ntmps3
    go_wp2_with (go_at_call 5; refine (bytes1_any _ _ h).mono ?_; rintro e w' ⟨rfl, rfl⟩)
    go_wp2_with (go_at_call 6; refine (sep_any _).mono ?_; rintro e w' ⟨rfl, rfl⟩)
    go_wp2_with (go_at_call 7; refine (pathSplit_any _ _ (by omega)).mono ?_; rintro e w1 ⟨g, cap, rfl, hown, hb⟩)
    go_wp2_with (go_at_call 9; refine (model_any _ _ (by omega)).mono ?_; rintro e w2 ⟨g2, cap2, rfl, hown2, hb2⟩)
    go_wp2_with (go_at_call 8; refine (same_any (pieces p) _ _ _ _ _ (by omega) (cells_of hown rfl (fun k => hb2.cell (p := ⟨g, k, none⟩) (row_lt hown).2)) (cells_of hown2 rfl (fun _ => rfl))).mono ?_; rintro e w3 ⟨rfl, n, rfl⟩)
    go_ret
    exact ⟨rfl, below_drewN (hb.trans (hb2.mono hb.size)) n⟩
  · have h' : 1048576 < p.size := by omega
    clear h
    go_enter Try.func3, Try.ntmps3
    go_wp2_with (go_at_call 5; refine (bytes1_no _ _ h').mono ?_; rintro e w' ⟨rfl, rfl⟩)
    go_ret
    exact ⟨rfl, Below.refl _ _⟩
end Go.Proofs.Ytookpbaafaoklaa
