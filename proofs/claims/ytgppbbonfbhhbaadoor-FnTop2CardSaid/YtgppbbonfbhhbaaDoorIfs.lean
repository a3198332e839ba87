/-
  The walks: is a rune among the IFS characters.
-/
import Derived.Test.YtgppbbonfbhhbaaDoorRows
import Derived.Test.YtgppbbonfbhhbaaDoorRunes
import Derived.WalkKit
import Derived.WalkSpells
import Derived.WalkLawsBesides
import Derived.BigQuiet
import Derived.Deep.QuietTactic
import Derived.Deep.RegionHeld3
import Derived.Deep.DeepMust
import Derived.Laws.EntriesVeiled
import Derived.Outline
import Derived.Handy
import Derived.Lib.Hide
namespace Go.Proofs.YtgppbbonfbhhbaaDoor
open Go.RowKit Rf

/-- What the search hands back. -/
def Found (s : ByteArray) (r : Int) (w : World) (e : Ending) (w' : World) : Prop :=
  ∃ n : Int, e = .returned (.int .i64 n) ∧ (decide (0 ≤ n) = among s r) ∧ Below w.heap.size w w'

theorem among_not (s : ByteArray) (r : Int) (h : ¬ valid r) : among s r = false := by
  unfold among
  rw [Bool.eq_false_iff]
  intro hc
  exact h (runes_valid s r (List.contains_iff_mem.1 hc))

/-- Where the loop stands: none of the runes so far is the one that is sought. -/
def Sofar (s : ByteArray) (r : Int) (pos : Nat) : Prop := among s r = (from_ s pos).contains r

theorem sofar_step (s : ByteArray) (r : Int) (pos : Nat) (h : pos < s.size) (hs : Sofar s r pos) (hr : ¬ ((Utf8.decode s pos).1 : Int) = r) : Sofar s r (pos + (Utf8.decode s pos).2) := by
  unfold Sofar at hs ⊢
  rw [hs, from_step s pos h]
  simp only [List.contains_cons]
  have : (r == ((Utf8.decode s pos).1 : Int)) = false := by simp; omega
  rw [this]
  rfl
theorem sofar_hit (s : ByteArray) (r : Int) (pos : Nat) (h : pos < s.size) (hs : Sofar s r pos) (hr : ((Utf8.decode s pos).1 : Int) = r) : among s r = true := by
  unfold Sofar at hs
  rw [hs, from_step s pos h, hr]
  simp
theorem sofar_end (s : ByteArray) (r : Int) (pos : Nat) (h : ¬ pos < s.size) (hs : Sofar s r pos) : among s r = false := by
  unfold Sofar at hs
  rw [hs, from_end s pos h]
  rfl

theorem found {s : ByteArray} {r : Int} {w w' : World} {n : Int} (h : decide (0 ≤ n) = among s r) (hb : Below w.heap.size w w') : Found s r w (.returned (.int .i64 n)) w' := ⟨n, rfl, h, hb⟩

theorem sofar_start (s : ByteArray) (r : Int) : Sofar s r 0 := rfl

/-- The loop's relation. -/
def Looks (s : ByteArray) (r : Int) (w wr : World) : Prop := ∃ pos : Nat, wr.heap[w.heap.size]? = some (.stringIter s pos) ∧ Below w.heap.size w wr ∧ Sofar s r pos

theorem looks_start (s : ByteArray) (r : Int) (w : World) : Looks s r w (w.iter s 0) :=
  ⟨0, World.iter_heap w s 0, (Below.refl _ w).alloc (Nat.le_refl _) _, sofar_start s r⟩

set_option maxHeartbeats 1000000 in
/-- The search for a rune that a string can hold. -/
theorem index_valid (s : ByteArray) (r : Int) (w : World) (h0 : 0 ≤ r) (h1 : r ≤ 1114111) (h2 : r < 55296 ∨ 57343 < r) :
    Calls Tryd.prog 22 #[.string s, .int .i32 r] w (Found s r w) := by
  have d1 : decide (r < 0) = false := by simp; omega
  have d2 : decide (1114111 < r) = false := by simp; omega
  have hcase : r = 65533 ∨ (r ≠ 65533 ∧ r < 55296) ∨ (r ≠ 65533 ∧ 57343 < r) := by omega
  rcases hcase with hr | ⟨hne, h2⟩ | ⟨hne, h2⟩
  case' inl => have hn1 : (r != 65533) = false := by simp [hr]
  case' inr.inl =>
    have hn1 : (r != 65533) = true := by simp [hne]
    have d3 : decide (55296 ≤ r) = false := by simp; omega
  case' inr.inr =>
    have hn1 : (r != 65533) = true := by simp [hne]
    have d3 : decide (55296 ≤ r) = true := by simp; omega
    have d4 : decide (r ≤ 57343) = false := by simp; omega
  case' inl => clear hr
  case' inr.inl => clear hne
  case' inr.inr => clear hne
  all_goals
    clear h0 h1 h2
    go_enter Tryd.func22, Tryd.ntmps22
    go_wp2
    go_loopw [] (fun wr => Looks s r w wr) (fun wr => s.size - wr.iterPos w.heap.size)
    case atStart => exact looks_start s _ w
    case round =>
      obtain ⟨pos, hit, hb, hso⟩ := hrel
      have hsz : w.heap.size < wr.heap.size := (Array.getElem?_eq_some_iff.1 hit).1
      have HS := Lib.hid hso
      clear hso
      by_cases hp : pos < s.size
      · have hnx : ∀ ty, (Instr.next (.pointer (some ⟨w.heap.size, 0, none⟩)) true ty).run Tryd.prog wr = _ := fun ty => Lib.run_next_any_at wr w.heap.size s pos ty hit hp
        have hwd := width_pos s pos hp
        have hit2 := Lib.iterAt_heap wr w.heap.size s pos (pos + (Utf8.decode s pos).2) hit
        have hb2 := Lib.below_iterAt hb (k := w.heap.size) (Nat.le_refl _) s (pos + (Utf8.decode s pos).2)
        by_cases hr : ((Utf8.decode s pos).1 : Int) = r
        · have hr1 : (((Utf8.decode s pos).1 : Int) == r) = true := by simp [hr]
          have HR := Lib.hid hr
          clear hr
          go_wp2
          go_ret
          exact found (by rw [sofar_hit s _ pos hp HS.out HR.out]; simp) hb2
        · have hr1 : (((Utf8.decode s pos).1 : Int) == r) = false := by simp; omega
          have HR := Lib.hid hr
          clear hr
          go_wp2
          go_roundw
          case rel => exact ⟨_, hit2, hb2, sofar_step s _ pos hp HS.out HR.out⟩
          case measure => simp only [World.iterPos, hit2, hit]; omega
      · have hnx : ∀ ty, (Instr.next (.pointer (some ⟨w.heap.size, 0, none⟩)) true ty).run Tryd.prog wr = _ := fun ty => Lib.run_next_end_at wr w.heap.size s pos ty hit hp
        go_wp2
        go_ret
        exact found (by rw [sofar_end s _ pos hp HS.out]; simp) hb

theorem not_valid_cases {r : Int} (h : ¬ valid r) : r < 0 ∨ 1114111 < r ∨ (55296 ≤ r ∧ r ≤ 57343) := by unfold valid at h; omega

set_option maxHeartbeats 1000000 in
/-- A number that no string's rune is. -/
theorem index_not (s : ByteArray) (r : Int) (w : World) (hv : ¬ valid r) : Calls Tryd.prog 22 #[.string s, .int .i32 r] w (Found s r w) := by
  have ha := among_not s r hv
  have HA := Lib.hid ha
  clear ha
  have hn1 : (r != 65533) = true := by simp; unfold valid at hv; omega
  rcases not_valid_cases hv with h | h | ⟨h, h'⟩
  · have d1 : decide (r < 0) = true := by simp; omega
    clear h hv
    go_enter Tryd.func22, Tryd.ntmps22
    go_wp2
    go_ret
    exact found (by rw [HA.out]; simp) (Below.refl _ _)
  · have d1 : decide (r < 0) = false := by simp; omega
    have d2 : decide (1114111 < r) = true := by simp; omega
    clear h hv
    go_enter Tryd.func22, Tryd.ntmps22
    go_wp2
    go_ret
    exact found (by rw [HA.out]; simp) (Below.refl _ _)
  · have d1 : decide (r < 0) = false := by simp; omega
    have d2 : decide (1114111 < r) = false := by simp; omega
    have d3 : decide (55296 ≤ r) = true := by simp; omega
    have d4 : decide (r ≤ 57343) = true := by simp; omega
    clear h h' hv
    go_enter Tryd.func22, Tryd.ntmps22
    go_wp2
    go_ret
    exact found (by rw [HA.out]; simp) (Below.refl _ _)

theorem index_any (s : ByteArray) (r : Int) (w : World) : Calls Tryd.prog 22 #[.string s, .int .i32 r] w (Found s r w) := by
  by_cases hv : valid r
  · exact index_valid s r w hv.1 hv.2.1 (by have := hv.2.2; omega)
  · exact index_not s r w hv

theorem contains_any (s : ByteArray) (r : Int) (w : World) : Calls Tryd.prog 20 #[.string s, .int .i32 r] w fun e w' => e = .returned (.bool (among s r)) ∧ Below w.heap.size w w' := by
  go_enter Tryd.func20, Tryd.ntmps20
  go_wp2_with (go_at_call 22; refine (index_any _ _ _).mono ?_; rintro e w' ⟨n, rfl, hd, hb⟩)
  go_ret
  exact ⟨rfl, hb⟩

/-- Is the rune among the Config's IFS characters? (The Config lies in block b.) -/
theorem ifsRune_any (b : Nat) (ifs : ByteArray) (r : Int) (w : World) (hc : w.cell? ⟨b, 25, none⟩ = some (.string ifs)) :
    Calls Tryd.prog 11 #[.pointer (some ⟨b, 0, none⟩), .int .i32 r] w fun e w' => e = .returned (.bool (among ifs r)) ∧ Below w.heap.size w w' := by
  go_enter Tryd.func11, Tryd.ntmps11
  go_wp2_with (go_at_call 20; refine (contains_any _ _ _).mono ?_; rintro e w' ⟨rfl, hb⟩)
  go_ret
  exact ⟨rfl, hb⟩

/-- Space, tab, newline. -/
def isWS (r : Int) : Bool := r == 32 || r == 9 || r == 10

theorem ifsWS_any (b : Nat) (ifs : ByteArray) (r : Int) (w : World) (hc : w.cell? ⟨b, 25, none⟩ = some (.string ifs)) :
    Calls Tryd.prog 12 #[.pointer (some ⟨b, 0, none⟩), .int .i32 r] w fun e w' => e = .returned (.bool (isWS r && among ifs r)) ∧ Below w.heap.size w w' := by
  cases h1 : isWS r with
  | false =>
    have g1 : (r == 32) = false := by unfold isWS at h1; revert h1; cases (r == 32) <;> simp
    have g2 : (r == 9) = false := by unfold isWS at h1; revert h1; cases (r == 9) <;> simp
    have g3 : (r == 10) = false := by unfold isWS at h1; revert h1; cases (r == 10) <;> simp
    clear h1
    go_enter Tryd.func12, Tryd.ntmps12
    go_wp2_with fail
    go_ret
    exact ⟨rfl, Below.refl _ _⟩
  | true =>
    have hd : (r == 32) = true ∨ ((r == 32) = false ∧ (r == 9) = true) ∨ ((r == 32) = false ∧ (r == 9) = false ∧ (r == 10) = true) := by
      unfold isWS at h1
      revert h1
      cases (r == 32) <;> cases (r == 9) <;> cases (r == 10) <;> simp
    clear h1
    rcases hd with g1 | ⟨g1, g2⟩ | ⟨g1, g2, g3⟩
    all_goals
      go_enter Tryd.func12, Tryd.ntmps12
      go_wp2_with (go_at_call 11; refine (ifsRune_any b ifs r _ hc).mono ?_; rintro e w' ⟨rfl, hb⟩)
      go_ret
      exact ⟨rfl, hb⟩
end Go.Proofs.YtgppbbonfbhhbaaDoor
