/-
  The walks: the model law's small guards.
-/
import Derived.Test.YtjoceojknhipoaaGreatDoorSame
import Derived.Deep.LoopGhost
namespace Go.Proofs.YtjoceojknhipoaaGreatDoor
open Go.RowKit Rf

theorem bytesM_yes (p q : ByteArray) (n : Int) (b : Bool) (w : World) (h : p.size + q.size ≤ 1048576) : Calls Tryz.prog 11 #[.string p, .string q, .int .i64 n, .bool b] w fun e w' => e = .returned (.bool true) ∧ w = w' := by
  go_enter Tryz.func11, Tryz.ntmps11
  go_wp2
  go_ret
  exact ⟨rfl, rfl⟩

theorem bytesM_no (p q : ByteArray) (n : Int) (b : Bool) (w : World) (h : 1048576 < p.size + q.size) (hp : p.size ≤ maxLen) (hq : q.size ≤ maxLen) : Calls Tryz.prog 11 #[.string p, .string q, .int .i64 n, .bool b] w fun e w' => e = .returned (.bool false) ∧ w = w' := by
  unfold maxLen at hp hq
  by_cases h1 : 1048576 < p.size
  · go_enter Tryz.func11, Tryz.ntmps11
    go_wp2
    go_ret
    exact ⟨rfl, rfl⟩
  · by_cases h2 : 1048576 < q.size
    · go_enter Tryz.func11, Tryz.ntmps11
      go_wp2
      go_ret
      exact ⟨rfl, rfl⟩
    · go_enter Tryz.func11, Tryz.ntmps11
      go_wp2
      go_ret
      exact ⟨rfl, rfl⟩

theorem ws_any (r : Int) (w : World) : Calls Tryz.prog 22 #[.int .i32 r] w fun e w' => e = .returned (.bool (isWS r)) ∧ w = w' := by
  cases h1 : isWS r with
  | false =>
    have g1 : (r == 32) = false := by unfold isWS at h1; revert h1; cases (r == 32) <;> simp
    have g2 : (r == 9) = false := by unfold isWS at h1; revert h1; cases (r == 9) <;> simp
    have g3 : (r == 10) = false := by unfold isWS at h1; revert h1; cases (r == 10) <;> simp
    clear h1
    go_enter Tryz.func22, Tryz.ntmps22
    go_wp2_with fail
    go_ret
    exact ⟨rfl, rfl⟩
  | true =>
    have hd : (r == 32) = true ∨ ((r == 32) = false ∧ (r == 9) = true) ∨ ((r == 32) = false ∧ (r == 9) = false ∧ (r == 10) = true) := by
      unfold isWS at h1
      revert h1
      cases (r == 32) <;> cases (r == 9) <;> cases (r == 10) <;> simp
    clear h1
    rcases hd with g1 | ⟨g1, g2⟩ | ⟨g1, g2, g3⟩
    all_goals
      go_enter Tryz.func22, Tryz.ntmps22
      go_wp2_with fail
      go_ret
      exact ⟨rfl, rfl⟩

/-- Is the byte in the text: an answer 'no' says that it is not. -/
theorem hasByte_any (s : ByteArray) (c : Nat) (w : World) (hs : s.size ≤ 65536) :
    Calls Tryz.prog 12 #[.string s, .int .u8 c] w fun e w' => ∃ b : Bool, e = .returned (.bool b) ∧ w = w' ∧ (b = false → ∀ k (h : k < s.size), s[k].toNat ≠ c) ∧ (b = true → ∃ k, ∃ h : k < s.size, s[k].toNat = c) := by
  go_enter Tryz.func12, Tryz.ntmps12
  go_wp2
  go_loopg [5] s.size (fun gk s5 wr => w = wr ∧ ∃ k : Nat, k ≤ s.size ∧ gk = s.size - k ∧ s5 = .int .i64 k ∧ Hid (∀ j (h : j < s.size), j < k → s[j].toNat ≠ c))
  case atStart => exact ⟨rfl, 0, Nat.zero_le _, rfl, rfl, Lib.hid (fun j h hj => by omega)⟩
  case round =>
    obtain ⟨rfl, k, hk, rfl, rfl, hso⟩ := hrel
    by_cases hlt : k < s.size
    · have hkz : (k : Int) < (s.size : Int) := by omega
      by_cases hb : s[k].toNat = c
      · have hb1 : ((s[k].toNat : Int) == (c : Int)) = true := by simp [hb]
        have HB := Lib.hid hb
        clear hb
        go_wp2
        go_ret
        exact ⟨true, rfl, rfl, (fun h => by cases h), fun _ => ⟨k, hlt, HB.out⟩⟩
      · have hb1 : ((s[k].toNat : Int) == (c : Int)) = false := by simp; omega
        have HB := Lib.hid hb
        clear hb
        go_wp2
        go_roundg (s.size - (k + 1))
        case measure => omega
        case rel =>
          refine ⟨rfl, k + 1, by omega, rfl, rfl, Lib.hid (fun j h hj => ?_)⟩
          by_cases hjk : j = k
          · subst hjk; exact HB.out
          · exact hso.out j h (by omega)
    · obtain rfl : k = s.size := by omega
      go_wp2
      go_ret
      exact ⟨false, rfl, rfl, (fun _ j h => hso.out j h h), fun h => by cases h⟩

theorem hasByte_no (s : ByteArray) (c : Nat) (w : World) (hs : s.size ≤ 65536) (h : ∀ k (h : k < s.size), s[k].toNat ≠ c) :
    Calls Tryz.prog 12 #[.string s, .int .u8 c] w fun e w' => e = .returned (.bool false) ∧ w = w' :=
  (hasByte_any s c w hs).mono fun e w' ⟨b, he, hw, _, h2⟩ => by
    cases b with
    | false => exact ⟨he, hw⟩
    | true => obtain ⟨k, hk, e⟩ := h2 rfl; exact absurd e (h k hk)
theorem hasByte_yes (s : ByteArray) (c : Nat) (w : World) (hs : s.size ≤ 65536) (h : ¬ ∀ k (h : k < s.size), s[k].toNat ≠ c) :
    Calls Tryz.prog 12 #[.string s, .int .u8 c] w fun e w' => e = .returned (.bool true) ∧ w = w' :=
  (hasByte_any s c w hs).mono fun e w' ⟨b, he, hw, h1, _⟩ => by
    cases b with
    | false => exact absurd (h1 rfl) h
    | true => exact ⟨he, hw⟩

theorem among_bs (ifs : ByteArray) (h : ∀ k (h : k < ifs.size), ifs[k].toNat ≠ 92) : among ifs 92 = false := by
  unfold among
  rw [Bool.eq_false_iff]
  intro hc
  obtain ⟨k, hk, hb⟩ := runes_ascii ifs 92 (by decide) (List.contains_iff_mem.1 hc)
  exact h k hk hb
end Go.Proofs.YtjoceojknhipoaaGreatDoor
