/-
  The law's small functions.
-/
import Derived.Test.YtdpiipejpmheoaaFmtBrack
namespace Go.Proofs.YtdpiipejpmheoaaFmt
open Go.RowKit

theorem ret_bool {a b : Bool} (h : a = b) : Ending.returned (.bool a) = .returned (.bool b) := by rw [h]

set_option maxRecDepth 100000 in
set_option maxHeartbeats 1000000 in
theorem alnum_any (x : Nat) (w : World) : Calls Tryf.prog 6 #[.int .u8 x] w fun e w' => e = .returned (.bool (isAl x)) ∧ w = w' := by
  have h : (x < 48) ∨ (48 ≤ x ∧ x ≤ 57) ∨ (58 ≤ x ∧ x ≤ 64) ∨ (65 ≤ x ∧ x ≤ 90) ∨ (91 ≤ x ∧ x ≤ 96) ∨ (97 ≤ x ∧ x ≤ 122) ∨ 123 ≤ x := by omega
  rcases h with h | ⟨h, g⟩ | ⟨h, g⟩ | ⟨h, g⟩ | ⟨h, g⟩ | ⟨h, g⟩ | h
  · have e : isAl x = false := by unfold isAl; simp; omega
    rw [e]
    have h2 : (x : Int) < (48 : Int) := by omega
    clear e h
    go_enter Tryf.func6, Tryf.ntmps6
    go_wp2
    go_ret
    exact ⟨ret_bool (by simp; try omega), rfl⟩
  · have e : isAl x = true := by unfold isAl; simp; omega
    rw [e]
    have h2 : (48 : Int) ≤ (x : Int) := by omega
    have g2 : (x : Int) ≤ (57 : Int) := by omega
    clear e h g
    go_enter Tryf.func6, Tryf.ntmps6
    go_wp2
    go_ret
    exact ⟨ret_bool (by simp; try omega), rfl⟩
  · have e : isAl x = false := by unfold isAl; simp; omega
    rw [e]
    have h2 : (58 : Int) ≤ (x : Int) := by omega
    have g2 : (x : Int) ≤ (64 : Int) := by omega
    clear e h g
    go_enter Tryf.func6, Tryf.ntmps6
    go_wp2
    go_ret
    exact ⟨ret_bool (by simp; try omega), rfl⟩
  · have e : isAl x = true := by unfold isAl; simp; omega
    rw [e]
    have h2 : (65 : Int) ≤ (x : Int) := by omega
    have g2 : (x : Int) ≤ (90 : Int) := by omega
    clear e h g
    go_enter Tryf.func6, Tryf.ntmps6
    go_wp2
    go_ret
    exact ⟨ret_bool (by simp; try omega), rfl⟩
  · have e : isAl x = false := by unfold isAl; simp; omega
    rw [e]
    have h2 : (91 : Int) ≤ (x : Int) := by omega
    have g2 : (x : Int) ≤ (96 : Int) := by omega
    clear e h g
    go_enter Tryf.func6, Tryf.ntmps6
    go_wp2
    go_ret
    exact ⟨ret_bool (by simp; try omega), rfl⟩
  · have e : isAl x = true := by unfold isAl; simp; omega
    rw [e]
    have h2 : (97 : Int) ≤ (x : Int) := by omega
    have g2 : (x : Int) ≤ (122 : Int) := by omega
    clear e h g
    go_enter Tryf.func6, Tryf.ntmps6
    go_wp2
    go_ret
    exact ⟨ret_bool (by simp; try omega), rfl⟩
  · have e : isAl x = false := by unfold isAl; simp; omega
    rw [e]
    have h2 : (123 : Int) ≤ (x : Int) := by omega
    clear e h
    go_enter Tryf.func6, Tryf.ntmps6
    go_wp2
    go_ret
    exact ⟨ret_bool (by simp; try omega), rfl⟩

set_option maxRecDepth 100000 in
theorem bytesL_yes (o s : ByteArray) (i m : Int) (w : World) (ho : o.size ≤ 65536) (hs : s.size ≤ 65536) : Calls Tryf.prog 4 #[.string o, .string s, .int .i64 i, .int .u64 m] w fun e w' => e = .returned (.bool true) ∧ w = w' := by
  have h1 : (o.size : Int) ≤ 65536 := by omega
  have h2 : (s.size : Int) ≤ 65536 := by omega
  clear ho hs
  go_enter Tryf.func4, Tryf.ntmps4
  go_wp2
  go_ret
  exact ⟨rfl, rfl⟩
set_option maxRecDepth 100000 in
theorem bytesL_any (o s : ByteArray) (i m : Int) (w : World) (ho : o.size ≤ maxLen) (hs : s.size ≤ maxLen) : Calls Tryf.prog 4 #[.string o, .string s, .int .i64 i, .int .u64 m] w fun e w' => (∃ c, e = .returned (.bool c)) ∧ w = w' := by
  unfold maxLen at ho hs
  by_cases h1 : o.size ≤ 1048576
  · by_cases h2 : s.size ≤ 1048576
    · have h1 : (o.size : Int) ≤ 1048576 := by omega
      have h2 : (s.size : Int) ≤ 1048576 := by omega
      clear ho hs
      go_enter Tryf.func4, Tryf.ntmps4
      go_wp2
      all_goals
        go_ret
        exact ⟨⟨_, rfl⟩, rfl⟩
    · have h1 : (o.size : Int) ≤ 1048576 := by omega
      have h2 : (1048576 : Int) < (s.size : Int) := by omega
      clear ho hs
      go_enter Tryf.func4, Tryf.ntmps4
      go_wp2
      all_goals
        go_ret
        exact ⟨⟨_, rfl⟩, rfl⟩
  · have h1 : (1048576 : Int) < (o.size : Int) := by omega
    clear ho hs
    go_enter Tryf.func4, Tryf.ntmps4
    go_wp2
    all_goals
      go_ret
      exact ⟨⟨_, rfl⟩, rfl⟩
end Go.Proofs.YtdpiipejpmheoaaFmt
