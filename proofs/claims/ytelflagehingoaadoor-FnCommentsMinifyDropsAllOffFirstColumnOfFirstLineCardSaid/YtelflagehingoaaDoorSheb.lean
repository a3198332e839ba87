/-
  The shebang of a text: whatever it is, the call returns a text.
-/
import Derived.Test.YtelflagehingoaaDoorBase
import Derived.Laws.IdiomStrings
import Derived.Deep.CutBlock
namespace Go.Proofs.YtelflagehingoaaDoor
open Go.RowKit

/-- Block K holds the text s; nothing below K has turned since W. -/
structure Txt (W : World) (K : Nat) (s : ByteArray) (w : World) : Prop where
  cell : w.cell? ⟨K, 0, none⟩ = some (.string s)
  free : w.frozen? ⟨K, 0, none⟩ = false
  bel : Below K W w

/-- What the closure leaves: a shorter text if it answers yes. -/
def After (W : World) (K n m : Nat) (e : Ending) (w' : World) : Prop := ∃ (b : Bool) (s' : ByteArray), e = .returned (.bool b) ∧ Txt W K s' w' ∧ s'.size ≤ m ∧ (b = true → s'.size + n ≤ m)

theorem Txt.set {W w : World} {K : Nat} {s : ByteArray} (h : Txt W K s w) (t : ByteArray) : Txt W K t (w.setCell ⟨K, 0, none⟩ (.string t)) :=
  ⟨World.cell?_setCell_same _ _ _ h.cell, by rw [World.frozen?_setCell]; exact h.free, h.bel.setCell (Nat.le_refl _) _⟩

set_option maxHeartbeats 1000000 in
theorem after_any (p s : ByteArray) (K : Nat) (W w : World) (h : Txt W K s w) (hp : p.size ≤ 16) (hs : s.size ≤ 4611686018427387904) :
    Calls Tryd.prog 31 #[.string p, .pointer (some ⟨K, 0, none⟩)] w (After W K p.size s.size) := by
  have hc := h.cell
  have hf := h.free
  have HT := Lib.hid h
  clear h
  by_cases hle : p.size ≤ s.size
  · have hlz : (p.size : Int) ≤ (s.size : Int) := by omega
    go_enter Tryd.func31, Tryd.ntmps31
    go_wp2
    · go_ret
      exact ⟨true, _, rfl, HT.out.set _, by rw [ByteArray.size_extract]; omega, fun _ => by rw [ByteArray.size_extract]; omega⟩
    · go_ret
      exact ⟨false, s, rfl, HT.out, Nat.le_refl _, fun h => by cases h⟩
  · have hlz : ¬ (p.size : Int) ≤ (s.size : Int) := by omega
    go_enter Tryd.func31, Tryd.ntmps31
    go_wp2
    go_ret
    exact ⟨false, s, rfl, HT.out, Nat.le_refl _, fun h => by cases h⟩

theorem at89_0 (w : World) : (Instr.index 89 (.agg #[.string ⟨#[115, 104]⟩, .string ⟨#[100, 97, 115, 104]⟩, .string ⟨#[98, 97, 115, 104]⟩, .string ⟨#[109, 107, 115, 104]⟩, .string ⟨#[98, 97, 116, 115]⟩, .string ⟨#[122, 115, 104]⟩]) (.int .i64 0)).run Tryd.prog w = .ok (.string ⟨#[115, 104]⟩) w := by kernel_rfl
theorem at89_1 (w : World) : (Instr.index 89 (.agg #[.string ⟨#[115, 104]⟩, .string ⟨#[100, 97, 115, 104]⟩, .string ⟨#[98, 97, 115, 104]⟩, .string ⟨#[109, 107, 115, 104]⟩, .string ⟨#[98, 97, 116, 115]⟩, .string ⟨#[122, 115, 104]⟩]) (.int .i64 1)).run Tryd.prog w = .ok (.string ⟨#[100, 97, 115, 104]⟩) w := by kernel_rfl
theorem at89_2 (w : World) : (Instr.index 89 (.agg #[.string ⟨#[115, 104]⟩, .string ⟨#[100, 97, 115, 104]⟩, .string ⟨#[98, 97, 115, 104]⟩, .string ⟨#[109, 107, 115, 104]⟩, .string ⟨#[98, 97, 116, 115]⟩, .string ⟨#[122, 115, 104]⟩]) (.int .i64 2)).run Tryd.prog w = .ok (.string ⟨#[98, 97, 115, 104]⟩) w := by kernel_rfl
theorem at89_3 (w : World) : (Instr.index 89 (.agg #[.string ⟨#[115, 104]⟩, .string ⟨#[100, 97, 115, 104]⟩, .string ⟨#[98, 97, 115, 104]⟩, .string ⟨#[109, 107, 115, 104]⟩, .string ⟨#[98, 97, 116, 115]⟩, .string ⟨#[122, 115, 104]⟩]) (.int .i64 3)).run Tryd.prog w = .ok (.string ⟨#[109, 107, 115, 104]⟩) w := by kernel_rfl
theorem at89_4 (w : World) : (Instr.index 89 (.agg #[.string ⟨#[115, 104]⟩, .string ⟨#[100, 97, 115, 104]⟩, .string ⟨#[98, 97, 115, 104]⟩, .string ⟨#[109, 107, 115, 104]⟩, .string ⟨#[98, 97, 116, 115]⟩, .string ⟨#[122, 115, 104]⟩]) (.int .i64 4)).run Tryd.prog w = .ok (.string ⟨#[98, 97, 116, 115]⟩) w := by kernel_rfl
theorem at89_5 (w : World) : (Instr.index 89 (.agg #[.string ⟨#[115, 104]⟩, .string ⟨#[100, 97, 115, 104]⟩, .string ⟨#[98, 97, 115, 104]⟩, .string ⟨#[109, 107, 115, 104]⟩, .string ⟨#[98, 97, 116, 115]⟩, .string ⟨#[122, 115, 104]⟩]) (.int .i64 5)).run Tryd.prog w = .ok (.string ⟨#[122, 115, 104]⟩) w := by kernel_rfl

/-- Some text; nothing of before has turned. -/
def SomeText (W : World) (e : Ending) (w' : World) : Prop := ∃ s : ByteArray, e = .returned (.string s) ∧ Below W.heap.size W w'

set_option maxRecDepth 100000 in
set_option maxHeartbeats 4000000 in
theorem shebang_any (s : ByteArray) (g cap : Nat) (w : World) (hs : s.size ≤ 4611686018427387904) (hc : ∀ j (hj : j < s.data.toList.length), w.cell? ((⟨g, 0, none⟩ : Addr).add j) = some (.int .u8 (s.data.toList[j].toNat : Int))) :
    Calls Tryd.prog 27 #[.slice (some ⟨g, 0, none⟩) s.size cap] w (SomeText w) := by
  have hconv := run_convert_bytes_back (P := Tryd.prog) w 65 9 5 ⟨g, 0, none⟩ cap s.data.toList Tryd.underlying65 Tryd.underlying5 Tryd.underlying9 hc
  have hb : (⟨s.data.toList.toArray⟩ : ByteArray) = s := by cases s; rfl
  rw [hb] at hconv
  have hl : s.data.toList.length = s.size := by simp
  rw [hl] at hconv
  clear hc hb hl
  go_enter Tryd.func27, Tryd.ntmps27
  go_upto_region 3 with fail
  have ht0 : Txt w w.heap.size s (w.alloc (.cells #[.string s] 9)) := ⟨by simp [go_sem], by simp [go_sem], (Below.refl _ _).alloc (Nat.le_refl _) _⟩
  clear hconv
  obtain ⟨K, hK⟩ : ∃ K, w.heap.size = K := ⟨_, rfl⟩
  have HK := Lib.hid hK
  rw [hK] at ht0 ⊢
  clear hK
  obtain ⟨W1, hW1⟩ : ∃ W1, w.alloc (.cells #[.string s] 9) = W1 := ⟨_, rfl⟩
  rw [hW1] at ht0 ⊢
  clear hW1
  go_upto_block 0 with (go_at_call 31; refine (after_any _ s K w _ ht0 (by decide) hs).mono ?_; rintro e w2 ⟨b, s2, rfl, ht2, hs2, -⟩; cases b)
  · go_ret
    exact ⟨_, rfl, by rw [HK.out]; exact ht2.bel⟩
  have hs2b : s2.size ≤ 4611686018427387904 := by omega
  clear ht0 hs2
  go_cut [19] from 14 (fun _ wx => ∃ s3 : ByteArray, s3.size ≤ 4611686018427387904 ∧ Txt w K s3 wx)
  case first =>
    go_wp2_with fail
    go_loopg [19] s2.size (fun gk _ wr => ∃ s3 : ByteArray, gk = s3.size ∧ s3.size ≤ 4611686018427387904 ∧ Txt w K s3 wr)
    case atStart => exact ⟨s2, rfl, hs2b, ht2⟩
    case round =>
      obtain ⟨s3, rfl, hs3, ht3⟩ := hrel
      go_wp2_with (first
        | (go_at_call 31; first
          | (refine (after_any _ s3 K w _ ht3 (by decide) hs3).mono ?_; rintro e w4 ⟨b4, s4, rfl, ht4, h4, h4'⟩; clear ht3; cases b4)
          | (refine (after_any _ s4 K w _ ht4 (by decide) (by omega)).mono ?_; rintro e w5 ⟨b5, s5, rfl, ht5, h5, h5'⟩; cases b5)))
      · go_meet
        exact ⟨s5, by omega, ht5⟩
      · have q : s5.size + 1 ≤ s4.size := h5' trivial
        go_roundg s5.size
        case measure => omega
        case rel => exact ⟨s5, rfl, by omega, ht5⟩
      · have q : s4.size + 1 ≤ s3.size := h4' trivial
        go_roundg s4.size
        case measure => omega
        case rel => exact ⟨s4, rfl, by omega, ht4⟩
  case rest =>
    obtain ⟨s3, hs3, ht3⟩ := hcut
    clear ht2 hs2b
    go_upto_region 11 with (first
      | (go_at_call 31; first
          | (refine (after_any _ s3 K w _ ht3 (by decide) hs3).mono ?_; rintro e w4 ⟨b4, s4, rfl, ht4, h4, -⟩; clear ht3; cases b4)
          | (refine (after_any _ s4 K w _ ht4 (by decide) (by omega)).mono ?_; rintro e w5 ⟨b5, s5, rfl, ht5, h5, -⟩; clear ht4)
          | (refine (after_any _ s5 K w _ ht5 (by decide) (by omega)).mono ?_; rintro e w6 ⟨b6, s6, rfl, ht6, h6, -⟩; clear ht5; cases b6)))
    · go_ret
      exact ⟨_, rfl, by rw [HK.out]; exact ht4.bel⟩
    · go_ret
      exact ⟨_, rfl, by rw [HK.out]; exact ht6.bel⟩
    have hs6 : s6.size ≤ 4611686018427387904 := by omega
    go_cut [33] from 28 (fun s33 wx => (∃ b : Bool, s33 = .bool b) ∧ ∃ s7 : ByteArray, s7.size ≤ 4611686018427387904 ∧ Txt w K s7 wx)
    case first =>
      go_wp2_with (first
        | (go_at_call 31; first
          | (refine (after_any _ s6 K w _ ht6 (by decide) hs6).mono ?_; rintro e w7 ⟨b7, s7, rfl, ht7, h7, -⟩; clear ht6; cases b7)
          | (refine (after_any _ s7 K w _ ht7 (by decide) (by omega)).mono ?_; rintro e w8 ⟨b8, s8, rfl, ht8, h8, -⟩)))
      · go_meet
        exact ⟨⟨_, rfl⟩, s8, by omega, ht8⟩
      · go_meet
        exact ⟨⟨_, rfl⟩, s7, by omega, ht7⟩
    case rest =>
      obtain ⟨⟨b33, rfl⟩, s7, hs7, ht7⟩ := hcut
      clear ht6 hs6
      go_upto_if 33 with fail
      go_cut [39] from 34 (fun _ wx => ∃ s8 : ByteArray, s8.size ≤ 4611686018427387904 ∧ Txt w K s8 wx)
      case first =>
        cases b33
        · go_wp2
          go_meet
          exact ⟨s7, hs7, ht7⟩
        · go_wp2_with fail
          go_loopg [39] s7.size (fun gk _ wr => ∃ s3 : ByteArray, gk = s3.size ∧ s3.size ≤ 4611686018427387904 ∧ Txt w K s3 wr)
          case atStart => exact ⟨s7, rfl, hs7, ht7⟩
          case round =>
            obtain ⟨s3, rfl, hs3, ht3⟩ := hrel
            clear ht7
            go_wp2_with (first
              | (go_at_call 31; first
                | (refine (after_any _ s3 K w _ ht3 (by decide) hs3).mono ?_; rintro e w4 ⟨b4, s4, rfl, ht4, h4, h4'⟩; clear ht3; cases b4)
                | (refine (after_any _ s4 K w _ ht4 (by decide) (by omega)).mono ?_; rintro e w5 ⟨b5, s5, rfl, ht5, h5, h5'⟩; cases b5)))
            · go_meet
              exact ⟨s5, by omega, ht5⟩
            · have q : s5.size + 1 ≤ s4.size := h5' trivial
              go_roundg s5.size
              case measure => omega
              case rel => exact ⟨s5, rfl, by omega, ht5⟩
            · have q : s4.size + 1 ≤ s3.size := h4' trivial
              go_roundg s4.size
              case measure => omega
              case rel => exact ⟨s4, rfl, by omega, ht4⟩
      case rest =>
        obtain ⟨s8, hs8, ht8⟩ := hcut
        clear ht7 hs7
        have hcell := ht8.cell
        have hbel := ht8.bel
        rw [← HK.out] at hbel
        have HBE := Lib.hid hbel
        clear ht8 hbel
        have hsz : (0 : Int) ≤ (s8.size : Int) ∧ (s8.size : Int) ≤ 4611686018427387904 := by omega
        go_wp2
        go_loopg [6, 7, 41] 6 (fun gk _ _ s41 wr => ∃ k : Nat, k ≤ 6 ∧ gk = 6 - k ∧ s41 = .int .i64 k ∧ wr = wc)
        case atStart => exact ⟨0, by omega, rfl, rfl, rfl⟩
        case round =>
          obtain ⟨k, hk, rfl, rfl, rfl⟩ := hrel
          have i0 := at89_0
          have i1 := at89_1
          have i2 := at89_2
          have i3 := at89_3
          have i4 := at89_4
          have i5 := at89_5
          by_cases hlt : k < 6
          · obtain rfl | rfl | rfl | rfl | rfl | rfl : k = 0 ∨ k = 1 ∨ k = 2 ∨ k = 3 ∨ k = 4 ∨ k = 5 := by omega
            · go_wp2
              all_goals first
                | (go_ret; exact ⟨_, rfl, HBE.out⟩)
                | (go_roundg 5; (case measure => omega); (case rel => exact ⟨1, by omega, rfl, by first | rfl | simp, rfl⟩))
            · go_wp2
              all_goals first
                | (go_ret; exact ⟨_, rfl, HBE.out⟩)
                | (go_roundg 4; (case measure => omega); (case rel => exact ⟨2, by omega, rfl, by first | rfl | simp, rfl⟩))
            · go_wp2
              all_goals first
                | (go_ret; exact ⟨_, rfl, HBE.out⟩)
                | (go_roundg 3; (case measure => omega); (case rel => exact ⟨3, by omega, rfl, by first | rfl | simp, rfl⟩))
            · go_wp2
              all_goals first
                | (go_ret; exact ⟨_, rfl, HBE.out⟩)
                | (go_roundg 2; (case measure => omega); (case rel => exact ⟨4, by omega, rfl, by first | rfl | simp, rfl⟩))
            · go_wp2
              all_goals first
                | (go_ret; exact ⟨_, rfl, HBE.out⟩)
                | (go_roundg 1; (case measure => omega); (case rel => exact ⟨5, by omega, rfl, by first | rfl | simp, rfl⟩))
            · go_wp2
              all_goals first
                | (go_ret; exact ⟨_, rfl, HBE.out⟩)
                | (go_roundg 0; (case measure => omega); (case rel => exact ⟨6, by omega, rfl, by first | rfl | simp, rfl⟩))
          · obtain rfl : k = 6 := by omega
            go_wp2
            go_ret
            exact ⟨_, rfl, HBE.out⟩
end Go.Proofs.YtelflagehingoaaDoor
