/-
  FnRegexpNextBracketTable answers true at every input: the ways that are silent, and the main one.
-/
import Derived.Test.YtdpiipejpmheoaaFmtLaw
namespace Go.Proofs.YtdpiipejpmheoaaFmt
open Go.RowKit Go.Extern.Stop Go.Stop Go.Extern

theorem tabs_of {w : World} (h : Lib.Utf8Tabs 1 2 w) : Tabs w.heap.size w :=
  ⟨h, World.block_lt_of_cell? _ _ (h.1 0 (by omega)), World.block_lt_of_cell? _ _ (h.2 0 (by omega)).1⟩

set_option maxRecDepth 100000 in
set_option maxHeartbeats 1000000 in
theorem law_out (o s : ByteArray) (i mode : Int) (w : World) (ho : o.size ≤ 65536) (hs : s.size ≤ 65536) (hi : i < 0 ∨ (s.size : Int) ≤ i) :
    Calls Tryf.prog 3 #[.string o, .string s, .int .i64 i, .int .u64 mode] w (Good w) := by
  have HBY := Lib.hid (fun W => bytesL_yes o s i mode W ho hs)
  have hz : (o.size : Int) ≤ 65536 ∧ (s.size : Int) ≤ 65536 := by omega
  clear ho hs
  rcases hi with hi | hi
  · go_enter Tryf.func3, Tryf.ntmps3
    go_wp2_with (go_at_call 4; refine (HBY.out _).mono ?_; rintro e w' ⟨rfl, rfl⟩)
    go_ret
    exact ⟨rfl, Below.refl _ _⟩
  · have hi0 : 0 ≤ i := by omega
    go_enter Tryf.func3, Tryf.ntmps3
    go_wp2_with (go_at_call 4; refine (HBY.out _).mono ?_; rintro e w' ⟨rfl, rfl⟩)
    go_ret
    exact ⟨rfl, Below.refl _ _⟩

set_option maxRecDepth 100000 in
set_option maxHeartbeats 1000000 in
theorem law_other (o s : ByteArray) (n : Nat) (mode : Int) (w : World) (ho : o.size ≤ 65536) (hs : s.size ≤ 65536) (hn : n < s.size) (ha : bt s n ≠ 91) :
    Calls Tryf.prog 3 #[.string o, .string s, .int .i64 n, .int .u64 mode] w (Good w) := by
  have HBY := Lib.hid (fun W => bytesL_yes o s n mode W ho hs)
  have hz : (o.size : Int) ≤ 65536 ∧ (s.size : Int) ≤ 65536 ∧ (n : Int) < (s.size : Int) := by omega
  have hns : ¬ s.size ≤ n := by omega
  obtain ⟨x, hx⟩ : ∃ x : Nat, bt s n = x := ⟨_, rfl⟩
  rw [hx] at ha
  have hg : (s[n]'hn).toNat = x := by rw [← bt_get s n hn]; exact hx
  have hxz : ((x : Int) == 91) = false := by simp; omega
  have hxn : ((x : Int) != 91) = true := by simp; omega
  clear ho hs hx ha
  go_enter Tryf.func3, Tryf.ntmps3
  go_wp2_with (go_at_call 4; refine (HBY.out _).mono ?_; rintro e w' ⟨rfl, rfl⟩)
  go_ret
  exact ⟨rfl, Below.refl _ _⟩

set_option maxRecDepth 100000 in
set_option maxHeartbeats 1000000 in
theorem law_great (o s : ByteArray) (i mode : Int) (w : World) (ho : o.size ≤ maxLen) (hs : s.size ≤ maxLen) (hg : 65536 < o.size ∨ 65536 < s.size) :
    Calls Tryf.prog 3 #[.string o, .string s, .int .i64 i, .int .u64 mode] w (Good w) := by
  have HBY := Lib.hid (fun W => bytesL_any o s i mode W ho hs)
  clear ho hs
  by_cases hg1 : 65536 < o.size
  · have hz : (65536 : Int) < (o.size : Int) := by omega
    clear hg hg1
    go_enter Tryf.func3, Tryf.ntmps3
    go_wp2_with (go_at_call 4; refine (HBY.out _).mono ?_; rintro e w' ⟨⟨c, rfl⟩, rfl⟩; cases c)
    all_goals
      go_ret
      exact ⟨rfl, Below.refl _ _⟩
  · have hz : (o.size : Int) ≤ 65536 ∧ (65536 : Int) < (s.size : Int) := by omega
    clear hg hg1
    go_enter Tryf.func3, Tryf.ntmps3
    go_wp2_with (go_at_call 4; refine (HBY.out _).mono ?_; rintro e w' ⟨⟨c, rfl⟩, rfl⟩; cases c)
    all_goals
      go_ret
      exact ⟨rfl, Below.refl _ _⟩

theorem law_all (F : Interp) (o s : ByteArray) (i mode : Int) (w : World) (ho : o.size ≤ maxLen) (hs : s.size ≤ maxLen) (hT : Lib.Utf8Tabs 1 2 w) (hF : F.answers w.tape) :
    Calls Tryf.prog 3 #[.string o, .string s, .int .i64 i, .int .u64 mode] w (Good w) := by
  by_cases hg : 65536 < o.size ∨ 65536 < s.size
  · exact law_great o s i mode w ho hs hg
  · by_cases hi : i < 0 ∨ (s.size : Int) ≤ i
    · exact law_out o s i mode w (by omega) (by omega) hi
    · obtain ⟨n, rfl⟩ : ∃ n : Nat, i = (n : Int) := ⟨i.toNat, by omega⟩
      by_cases ha : bt s n = 91
      · exact law_main F o s n mode w (by omega) (by omega) (by omega) ha (tabs_of hT) hF
      · exact law_other o s n mode w (by omega) (by omega) (by omega) ha
end Go.Proofs.YtdpiipejpmheoaaFmt
