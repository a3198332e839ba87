/-
  The walks: the laws' own comparisons.
-/
import Derived.Test.YtjoceojknhipoaaGreatDoorWhole
namespace Go.Proofs.YtjoceojknhipoaaGreatDoor
open Go.RowKit Rf

theorem nil_is (w : World) : (binOp .eql 23 (.slice none 0 0) (.slice none 0 0)).run Tryz.prog w = .ok (.bool true) w := by kernel_rfl
theorem some_not (g n c : Nat) (w : World) : (binOp .eql 23 (.slice (some ⟨g, 0, none⟩) n c) (.slice none 0 0)).run Tryz.prog w = .ok (.bool false) w := by kernel_rfl

set_option maxRecDepth 100000 in
theorem same_cells (xs : List ByteArray) (g c g' c' : Nat) (w : World) (hl : xs.length ≤ 9223372036854775807)
    (h1 : ∀ k, k < xs.length → w.cell? ⟨g, k, none⟩ = some (.string (xs.getD k ByteArray.empty))) (h2 : ∀ k, k < xs.length → w.cell? ⟨g', k, none⟩ = some (.string (xs.getD k ByteArray.empty))) :
    Calls Tryz.prog 9 #[.slice (some ⟨g, 0, none⟩) xs.length c, .slice (some ⟨g', 0, none⟩) xs.length c'] w fun e w' => e = .returned (.bool true) ∧ Below w.heap.size w w' := by
  have H1 := Lib.hid h1
  have H2 := Lib.hid h2
  clear h1 h2
  have n1 := some_not g xs.length c w
  have n2 := some_not g' xs.length c' w
  go_enter Tryz.func9, Tryz.ntmps9
  go_wp2
  go_loopw [5] (fun i wr => ∃ k n : Nat, k ≤ xs.length ∧ i = .int .i64 k ∧ wr = w.drewN n) (fun i _ => xs.length - (intOf i).toNat)
  case atStart => exact ⟨0, 0, Nat.zero_le _, rfl, rfl⟩
  case round =>
    obtain ⟨k, n, hk, rfl, rfl⟩ := hrel
    by_cases hlt : k < xs.length
    · have c1 := H1.out k hlt
      have c2 := H2.out k hlt
      have b0 : (0 : Int) ≤ (k : Int) := by omega
      have b1 : (k : Int) < (xs.length : Int) := by omega
      go_wp2
      go_quiet (fail)
      go_wp2
      go_roundw
      case rel => exact ⟨k + 1, n + nq, by omega, by go_num, by simp⟩
      case measure => simp [intOf]; omega
    · go_wp2
      go_ret
      exact ⟨rfl, below_drewN (Below.refl _ _) n⟩

set_option maxRecDepth 100000 in
theorem same_nil (w : World) : Calls Tryz.prog 9 #[.slice none 0 0, .slice none 0 0] w fun e w' => e = .returned (.bool true) ∧ Below w.heap.size w w' := by
  have n1 := nil_is w
  go_enter Tryz.func9, Tryz.ntmps9
  go_wp2
  refine wp_loop_rounds 1 ?_
  rw [rounds_succ]
  go_wp2
  go_ret
  exact ⟨rfl, Below.refl _ _⟩

theorem texts_get (xs : List (List Int)) (k : Nat) (hk : k < xs.length) : (xs.map runesBytes).getD k ByteArray.empty = runesBytes (xs.getD k []) := by simp [List.getD, hk]

theorem same_any (o : Option (List (List Int))) (v v' : Value) (w : World) (hl : ∀ xs, o = some xs → xs.length ≤ 9223372036854775807) (h : Lies o v w) (h' : Lies o v' w) :
    Calls Tryz.prog 9 #[v, v'] w fun e w' => e = .returned (.bool true) ∧ Below w.heap.size w w' := by
  cases o with
  | none =>
    obtain rfl : v = _ := h
    obtain rfl : v' = _ := h'
    exact same_nil w
  | some xs =>
    obtain ⟨g, c, rfl, hc⟩ := h
    obtain ⟨g', c', rfl, hc'⟩ := h'
    have := same_cells (xs.map runesBytes) g c g' c' w (by simpa using hl xs rfl) (fun k hk => by rw [List.length_map] at hk; rw [hc k hk, texts_get xs k hk]) (fun k hk => by rw [List.length_map] at hk; rw [hc' k hk, texts_get xs k hk])
    rw [List.length_map] at this
    exact this

/-- A text begins with a part of itself. -/
theorem prefix_any (s p : ByteArray) (w : World) (hs : s.size ≤ 4611686018427387904) (hl : p.size ≤ s.size) (hc : ∀ k (h : k < p.size) (h' : k < s.size), s[k] = p[k]) :
    Calls Tryz.prog 14 #[.string s, .string p] w fun e w' => e = .returned (.bool true) ∧ Below w.heap.size w w' := by
  have HC := Lib.hid hc
  clear hc
  have hlz : (p.size : Int) ≤ (s.size : Int) := by omega
  go_enter Tryz.func14, Tryz.ntmps14
  go_wp2
  go_loopw [5] (fun i wr => ∃ k n : Nat, k ≤ p.size ∧ i = .int .i64 k ∧ wr = w.drewN n) (fun i _ => p.size - (intOf i).toNat)
  case atStart => exact ⟨0, 0, Nat.zero_le _, rfl, rfl⟩
  case round =>
    obtain ⟨k, n, hk, rfl, rfl⟩ := hrel
    by_cases hlt : k < p.size
    · have hlt2 : k < s.size := by omega
      have he := HC.out k hlt hlt2
      obtain ⟨x, hx⟩ : ∃ x : UInt8, p[k] = x := ⟨_, rfl⟩
      rw [hx] at he
      have b0 : (0 : Int) ≤ (k : Int) := by omega
      have b1 : (k : Int) < (p.size : Int) := by omega
      have b2 : (k : Int) < (s.size : Int) := by omega
      go_wp2
      go_quiet (fail)
      go_wp2
      go_roundw
      case rel => exact ⟨k + 1, n + nq, by omega, by go_num, by simp⟩
      case measure => simp [intOf]; omega
    · go_wp2
      go_ret
      exact ⟨rfl, below_drewN (Below.refl _ _) n⟩

/-- A text ends with a part of itself. -/
theorem suffix_any (s p : ByteArray) (o : Nat) (w : World) (hs : s.size ≤ 4611686018427387904) (hl : s.size = o + p.size) (hc : ∀ k (h : k < p.size) (h' : o + k < s.size), s[o + k] = p[k]) :
    Calls Tryz.prog 15 #[.string s, .string p] w fun e w' => e = .returned (.bool true) ∧ Below w.heap.size w w' := by
  have HC := Lib.hid hc
  clear hc
  have hlz : (p.size : Int) ≤ (s.size : Int) := by omega
  have hsz : (s.size : Int) = (o : Int) + (p.size : Int) := by omega
  go_enter Tryz.func15, Tryz.ntmps15
  go_wp2
  go_loopw [6] (fun i wr => ∃ k n : Nat, k ≤ p.size ∧ i = .int .i64 k ∧ wr = w.drewN n) (fun i _ => p.size - (intOf i).toNat)
  case atStart => exact ⟨0, 0, Nat.zero_le _, rfl, rfl⟩
  case round =>
    obtain ⟨k, n, hk, rfl, rfl⟩ := hrel
    by_cases hlt : k < p.size
    · have hlt2 : o + k < s.size := by omega
      have he := HC.out k hlt hlt2
      obtain ⟨x, hx⟩ : ∃ x : UInt8, p[k] = x := ⟨_, rfl⟩
      rw [hx] at he
      have b0 : (0 : Int) ≤ (k : Int) := by omega
      have b1 : (k : Int) < (p.size : Int) := by omega
      have b2 : (o : Int) + (k : Int) < (s.size : Int) := by omega
      have b3 : (0 : Int) ≤ (o : Int) + (k : Int) ∧ (o : Int) + (k : Int) ≤ 4611686018427387904 := by omega
      have hw : IntKind.i64.wrap ((o : Int) + (k : Int)) = ((o + k : Nat) : Int) := by
        rw [IntKind.wrap_i64]; omega
      have b4 : ((o + k : Nat) : Int) < (s.size : Int) := by omega
      go_wp2
      go_quiet (fail)
      go_wp2
      go_roundw
      case rel => exact ⟨k + 1, n + nq, by omega, by go_num, by simp⟩
      case measure => simp [intOf]; omega
    · go_wp2
      go_ret
      exact ⟨rfl, below_drewN (Below.refl _ _) n⟩
end Go.Proofs.YtjoceojknhipoaaGreatDoor
