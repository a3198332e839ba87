/-
  The list of strings that comes in; the size tests.
-/
import Derived.Test.YthcminjdkgmeoaaGreatDoorEmp
import Derived.WalkSpells
namespace Go.Proofs.YthcminjdkgmeoaaGreatDoor
open Go.RowKit
set_option linter.unusedVariables false

/-- The strings that a slice holds. -/
def StrsAt (w : World) (v : Value) (ss : List ByteArray) : Prop :=
  ∃ ao cap, v = .slice ao ss.length cap ∧ ((ao = none ∧ ss = [] ∧ cap = 0) ∨ ∃ a, ao = some a ∧ ∀ i, i < ss.length → w.cell? (a.add i) = some (.string (ss.getD i ByteArray.empty)))
/-- The cell of an element that is there. -/
theorem some_str {w : World} {ao : Option Addr} {cap k : Nat} {ss : List ByteArray} (h : (ao = none ∧ ss = [] ∧ cap = 0) ∨ ∃ a, ao = some a ∧ ∀ i, i < ss.length → w.cell? (a.add i) = some (.string (ss.getD i ByteArray.empty))) (hk : k < ss.length) :
    ∃ b off, ao = some ⟨b, off, none⟩ ∧ b < w.heap.size ∧ w.cell? ⟨b, off + k, none⟩ = some (.string (ss.getD k ByteArray.empty)) := by
  rcases h with ⟨_, h, _⟩ | ⟨⟨b, off, spot⟩, ha, hc⟩
  · subst h; exact absurd hk (by simp)
  · have hs : spot = none := by simpa [Addr.add] using World.cell?_spot (hc 0 (by omega))
    subst hs
    have h := hc k hk
    rw [Go.WideShapes.add_plain] at h
    exact ⟨b, off, ha, World.block_lt_of_cell? w _ h, h⟩

/-- The sum that the law bounds. -/
def tot : List ByteArray → Nat
  | [] => 0
  | s :: r => 8 + s.size + tot r
theorem tot_take : ∀ (ss : List ByteArray) (k : Nat), k < ss.length → tot (ss.take (k + 1)) = tot (ss.take k) + (8 + (ss.getD k ByteArray.empty).size)
  | [], _, h => absurd h (by simp)
  | s :: r, 0, _ => by simp [tot]
  | s :: r, k + 1, h => by
    have := tot_take r k (by simpa using h)
    simp only [List.take_succ_cons, tot, List.getD_cons_succ] at this ⊢
    omega
theorem tot_len : ∀ ss : List ByteArray, 8 * ss.length ≤ tot ss
  | [] => Nat.zero_le _
  | s :: r => by
    have := tot_len r
    simp only [List.length_cons, tot]
    omega
theorem tot_mem : ∀ {ss : List ByteArray} {s : ByteArray}, s ∈ ss → s.size ≤ tot ss
  | t :: r, s, h => by
    rcases List.mem_cons.1 h with rfl | h
    · simp only [tot]; omega
    · have := tot_mem h
      simp only [tot]; omega

set_option maxHeartbeats 1000000 in
theorem bytes_any (v : Value) (ss : List ByteArray) (w : World) (hl : ss.length ≤ maxLen) (hs : ∀ i, i < ss.length → (ss.getD i ByteArray.empty).size ≤ maxLen) (h : StrsAt w v ss) : Calls Tryz.prog 4 #[v] w fun e w' => ∃ b, e = .returned (.bool b) ∧ w = w' ∧ (b = true → ss.length ≤ 1048576 ∧ ∀ i, i < ss.length → (ss.getD i ByteArray.empty).size ≤ 1048576) := by
  obtain ⟨ao, cap, rfl, hc⟩ := h
  have HC := Lib.hid hc
  have HS := Lib.hid hs
  clear hc hs
  unfold maxLen at hl
  by_cases hbig : ss.length ≤ 1048576
  · have hlz : (0 : Int) ≤ (ss.length : Int) ∧ (ss.length : Int) ≤ 1048576 := by omega
    clear hl
    go_enter Tryz.func4, Tryz.ntmps4
    go_wp2
    go_loopg [3, 4] ss.length (fun gk s3 s4 wr => ∃ (k x : Nat), w = wr ∧ k ≤ ss.length ∧ gk = ss.length - k ∧ s3 = .int .i64 x ∧ s4 = .int .i64 k ∧ x ≤ 1048576 ∧ Hid (∀ i, i < k → (ss.getD i ByteArray.empty).size ≤ 1048576))
    case atStart => exact ⟨0, ss.length, rfl, Nat.zero_le _, rfl, by first | rfl | simp, rfl, hbig, Lib.hid (fun i hi => absurd hi (by omega))⟩
    case round =>
      obtain ⟨k, x, rfl, hk, rfl, rfl, rfl, hx2, HX⟩ := hrel
      have hxz : (0 : Int) ≤ (x : Int) ∧ (x : Int) ≤ 1048576 := by omega
      by_cases hlt : k < ss.length
      · have hkz : (k : Int) < (ss.length : Int) := by omega
        obtain ⟨b, off, ha, _, hcell⟩ := some_str HC.out hlt
        subst ha
        have hsz := HS.out k hlt
        unfold maxLen at hsz
        obtain ⟨s, hs⟩ : ∃ s, ss.getD k ByteArray.empty = s := ⟨_, rfl⟩
        have HSK := Lib.hid hs
        rw [hs] at hcell hsz
        clear hs
        by_cases h1 : s.size ≤ 1048576
        · have h1z : (0 : Int) ≤ (s.size : Int) ∧ (s.size : Int) ≤ 1048576 := by omega
          clear hsz
          by_cases h2 : x + s.size ≤ 1048576
          · have h2z : (x : Int) + (s.size : Int) ≤ 1048576 := by omega
            go_wp2
            go_roundg (ss.length - (k + 1))
            case measure => omega
            case rel => exact ⟨k + 1, x + s.size, rfl, by omega, rfl, by first | rfl | simp, by first | rfl | simp, h2, Lib.hid (fun i hi => by
              rcases Nat.lt_succ_iff_lt_or_eq.1 hi with hi | rfl
              · exact HX.out i hi
              · rw [HSK.out]; exact h1)⟩
          · have h2z : 1048576 < (x : Int) + (s.size : Int) := by omega
            go_wp2
            go_ret
            exact ⟨_, rfl, rfl, fun h => by cases h⟩
        · have h1z : (1048576 : Int) < (s.size : Int) ∧ (s.size : Int) ≤ 9223372036854775807 := by omega
          clear hsz
          go_wp2
          go_ret
          exact ⟨_, rfl, rfl, fun h => by cases h⟩
      · obtain rfl : k = ss.length := by omega
        go_wp2
        go_ret
        exact ⟨_, rfl, rfl, fun _ => ⟨hbig, HX.out⟩⟩
  · have hlz : (1048576 : Int) < (ss.length : Int) := by omega
    go_enter Tryz.func4, Tryz.ntmps4
    go_wp2
    go_ret
    exact ⟨_, rfl, rfl, fun h => by cases h⟩

set_option maxHeartbeats 1000000 in
set_option maxRecDepth 100000 in
theorem bytesOf_any (v : Value) (ss : List ByteArray) (w : World) (hl : ss.length ≤ 1048576) (hs : ∀ i, i < ss.length → (ss.getD i ByteArray.empty).size ≤ 1048576) (h : StrsAt w v ss) : Calls Tryz.prog 5 #[v] w fun e w' => ∃ x : Nat, e = .returned (.int .i64 (x : Int)) ∧ w = w' ∧ (x ≤ 1048576 → tot ss ≤ 1048576) := by
  obtain ⟨ao, cap, rfl, hc⟩ := h
  have HC := Lib.hid hc
  have HS := Lib.hid hs
  clear hc hs
  have hlz : (0 : Int) ≤ (ss.length : Int) ∧ (ss.length : Int) ≤ 1048576 := by omega
  clear hl
  go_enter Tryz.func5, Tryz.ntmps5
  go_wp2
  go_loopg [3, 4] ss.length (fun gk s3 s4 wr => ∃ (k x : Nat), w = wr ∧ k ≤ ss.length ∧ gk = ss.length - k ∧ s3 = .int .i64 x ∧ s4 = .int .i64 k ∧ x = tot (ss.take k) ∧ x ≤ 2097152)
  case atStart => exact ⟨0, 0, rfl, Nat.zero_le _, rfl, rfl, rfl, rfl, Nat.zero_le _⟩
  case round =>
    obtain ⟨k, x, rfl, hk, rfl, rfl, rfl, hx, hx2⟩ := hrel
    have hxz : (0 : Int) ≤ (x : Int) ∧ (x : Int) ≤ 2097152 := by omega
    by_cases hlt : k < ss.length
    · have hkz : (k : Int) < (ss.length : Int) := by omega
      obtain ⟨b, off, ha, _, hcell⟩ := some_str HC.out hlt
      subst ha
      have ht := tot_take ss k hlt
      have h1 := HS.out k hlt
      generalize ss.getD k ByteArray.empty = s at hcell ht h1
      rw [← hx] at ht
      have h1z : (0 : Int) ≤ (s.size : Int) ∧ (s.size : Int) ≤ 1048576 := by omega
      have HT := Lib.hid ht
      clear ht hx
      obtain ⟨m, hm⟩ : ∃ m, s.size + 8 = m := ⟨_, rfl⟩
      have HM := Lib.hid hm
      have hmz : (s.size : Int) + 8 = (m : Int) := by omega
      have hmb : (0 : Int) ≤ (m : Int) ∧ (m : Int) ≤ 2097152 := by omega
      clear hm h1z h1 hx2
      by_cases h2 : x + m ≤ 2097152
      · have h2z : (x : Int) + (m : Int) ≤ 2097152 := by omega
        clear h2
        go_wp2
        go_roundg (ss.length - (k + 1))
        case measure => omega
        case rel => exact ⟨k + 1, x + m, rfl, by omega, rfl, by first | rfl | simp, by first | rfl | simp, by rw [HT.out]; have := HM.out; omega, by omega⟩
      · have h2z : 2097152 < (x : Int) + (m : Int) := by omega
        clear h2
        go_wp2
        go_ret
        exact ⟨x + m, by first | rfl | simp, rfl, fun h => by omega⟩
    · obtain rfl : k = ss.length := by omega
      rw [List.take_length] at hx
      have HX := Lib.hid hx
      clear hx
      go_wp2
      go_ret
      exact ⟨x, rfl, rfl, fun h => by have := HX.out; omega⟩
end Go.Proofs.YthcminjdkgmeoaaGreatDoor
