/-
  Comments made with columns.
-/
import Derived.Test.YtelflagehingoaaDoorPos
namespace Go.Proofs.YtelflagehingoaaDoor
open Go.RowKit

set_option maxRecDepth 100000 in
set_option maxHeartbeats 2000000 in
theorem comments_cols (vT vL vC : Value) (ss : List ByteArray) (zs us : List Int) (w : World) (hl : ss.length ≤ 65536) (hz : zs.length = ss.length) (hu : us.length = ss.length) (hT : StrsAt w vT ss) (hL : NumsAt w vL zs) (hC : NumsAt w vC us) : Calls Tryd.prog 9 #[vT, vL, vC] w (NewComs ss w) := by
  obtain ⟨aC, capC, rfl, hC⟩ := hC
  rcases hC with ⟨rfl, rfl, rfl⟩ | ⟨a, rfl, hC⟩
  · exact comments_nil vT vL ss zs w hl hz hT hL
  have HC := Lib.hid hC
  clear hC
  obtain ⟨i2, hi2, hx0, hx1, hx2⟩ := info_parts Tryd.info35
  obtain ⟨aT, capT, rfl, hT⟩ := hT
  obtain ⟨aL, capL, rfl, hL⟩ := hL
  have HT := Lib.hid hT
  have HL := Lib.hid hL
  clear hT hL
  have n1 := fun n => neqsome23 a n capC
  have hlz : (0 : Int) ≤ (ss.length : Int) ∧ (ss.length : Int) ≤ 65536 := by omega
  go_enter Tryd.func9, Tryd.ntmps9
  go_wp2_with (first
    | (at_make; refine wpList_make_full _ rfl _ _ 28 rfl w.heap.size 35 i2 (.agg #[.int .u32 0, .int .u32 0, .string ByteArray.empty]) 3 Tryd.underlying28 hi2 hx0 hx1 _ _ _ _ ss.length rfl rfl rfl rfl (by rw [hx2]; omega) (by unfold maxLen; omega) (Nat.le_refl _) ?_; intro wm hown2 hgrow2))
  obtain ⟨hb0, hh⟩ : ∃ hb0, w.heap.size = hb0 := ⟨_, rfl⟩
  have hfill : Made hb0 w ss [] wm := ⟨by rw [← hh]; simpa [Value.cells, made_coms, comCells_nil] using hown2, by rw [← hh]; exact (Below.refl _ _).grown hgrow2 (Nat.le_refl _) (by simp), fun i hi => absurd hi (by simp)⟩
  clear hown2 hgrow2
  have HFI := Lib.hid hfill
  have HHB := Lib.hid hh
  clear hfill
  rw [hh]
  clear hh
  go_loopg [8, 9] ss.length (fun gk s8 _s9 wx => ∃ (k : Nat) (cs : List (Int × Int × ByteArray)), k ≤ ss.length ∧ gk = ss.length - k ∧ s8 = .int .i64 k ∧ cs.length = k ∧ Made hb0 w ss cs wx)
  case atStart => exact ⟨0, [], Nat.zero_le _, rfl, rfl, rfl, HFI.out⟩
  case round =>
    obtain ⟨k, cs, hk, rfl, rfl, hcs, hF⟩ := hrel
    clear HFI
    have HF := Lib.hid hF
    have HCS := Lib.hid hcs
    clear hF hcs
    by_cases hlt : k < ss.length
    · have hkz : (k : Int) < (ss.length : Int) := by omega
      obtain ⟨bT, oT, hea, hbT, hcT⟩ := some_str HT.out hlt
      obtain ⟨bL, oL, heb, hbL, hcL⟩ := some_num HL.out (by rw [hz]; exact hlt)
      subst hea heb
      have hcT1 := (HF.out.bel.cell (p := ⟨bT, oT + k, none⟩) (by rw [← HHB.out]; exact hbT)).trans hcT
      have hcL1 := (HF.out.bel.cell (p := ⟨bL, oL + k, none⟩) (by rw [← HHB.out]; exact hbL)).trans hcL
      obtain ⟨h0, h1, h2, hf0, hf1, hf2⟩ := made_room HF.out (by rw [HCS.out]; exact hlt)
      rw [HCS.out] at h0 h1 h2 hf0 hf1 hf2
      clear hcT hcL
      obtain ⟨s, hs⟩ : ∃ s, ss.getD k ByteArray.empty = s := ⟨_, rfl⟩
      rw [hs] at hcT1
      have HS := Lib.hid hs
      clear hs
      generalize zs.getD k 0 = z at *
      obtain ⟨bC, oC, hec, hbC, hcC⟩ := some_num (cap := capC) (Or.inr ⟨a, rfl, HC.out⟩) (show k < us.length by rw [hu]; exact hlt)
      cases hec
      have hcC1 := (HF.out.bel.cell (p := ⟨bC, oC + k, none⟩) (by rw [← HHB.out]; exact hbC)).trans hcC
      clear hcC
      generalize us.getD k 0 = u at *
      have hul : (k : Int) < (us.length : Int) := by omega
      have hzl : (k : Int) < (zs.length : Int) := by omega
      go_wp2
      go_region_with (go_at_call 17; refine (newPos_any _ _ _ _).mono ?_; rintro e w5 ⟨x, y, rfl, hb5⟩; have g1 := (hb5.cell (World.block_lt_of_cell? _ _ hcT1)).trans hcT1; have g2 := (hb5.cell (World.block_lt_of_cell? _ _ h0)).trans h0; have g3 := (hb5.cell (World.block_lt_of_cell? _ _ h1)).trans h1; have g4 := (hb5.cell (World.block_lt_of_cell? _ _ h2)).trans h2; have g5 := (hb5.frozen (World.block_lt_of_cell? _ _ h0)).trans hf0; have g6 := (hb5.frozen (World.block_lt_of_cell? _ _ h1)).trans hf1; have g7 := (hb5.frozen (World.block_lt_of_cell? _ _ h2)).trans hf2)
      all_goals
        go_wp2
        go_roundg (ss.length - (k + 1))
        case measure => omega
        case rel =>
          exact ⟨k + 1, cs ++ [(x, y, s)], by omega, rfl, by first | rfl | simp, by simp [HCS.out], HF.out.push HCS.out hlt hb5 x y s HS.out⟩
    · obtain rfl : k = ss.length := by omega
      go_wp2
      go_ret
      exact made_done HF.out HCS.out HHB.out
end Go.Proofs.YtelflagehingoaaDoor
