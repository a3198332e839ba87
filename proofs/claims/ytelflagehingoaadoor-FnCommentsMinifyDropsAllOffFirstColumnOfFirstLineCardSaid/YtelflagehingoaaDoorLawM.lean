/-
  The walk of the law 'FnCommentsMinifyDropsAllOffFirstColumnOfFirstLine'.
-/
import Derived.Test.YtelflagehingoaaDoorMini
import Derived.Test.YtelflagehingoaaDoorCols
namespace Go.Proofs.YtelflagehingoaaDoor
open Go.RowKit

/-- An answer; yes says that no text is great. -/
def FitBool (ss : List ByteArray) (w : World) (e : Ending) (w' : World) : Prop := ∃ b : Bool, e = .returned (.bool b) ∧ w = w' ∧ (b = true → ∀ i, i < ss.length → (ss.getD i ByteArray.empty).size ≤ 1048576)

set_option maxHeartbeats 2000000 in
theorem bytesM_any (v0 v1 v2 : Value) (t1 : List ByteArray) (l1 l2 : List Int) (w : World) (h0 : t1.length ≤ maxLen)
    (hT1 : StrsAt w v0 t1) (hL1 : NumsAt w v1 l1) (hL2 : NumsAt w v2 l2) : Calls Tryd.prog 5 #[v0, v1, v2] w (FitBool t1 w) := by
  unfold maxLen at h0
  obtain ⟨a0, cap0, rfl, hT1⟩ := hT1
  obtain ⟨a1, cap1, rfl, -⟩ := hL1
  obtain ⟨a2, cap2, rfl, -⟩ := hL2
  have HT1 := Lib.hid hT1
  clear hT1
  go_enter Tryd.func5, Tryd.ntmps5
  go_wp2
  any_goals (go_ret; exact ⟨false, rfl, rfl, fun h => by cases h⟩)
  go_loopg [7, 8] t1.length (fun gk s9 s10 wr => ∃ (k : Nat) (x : Int), w = wr ∧ k ≤ t1.length ∧ gk = t1.length - k ∧ s9 = .int .i64 x ∧ s10 = .int .i64 k ∧ Hid (∀ i, i < k → (t1.getD i ByteArray.empty).size ≤ 1048576))
  case atStart => exact ⟨0, _, rfl, Nat.zero_le _, rfl, rfl, rfl, Lib.hid (fun i hi => absurd hi (by omega))⟩
  case round =>
    obtain ⟨k, x, rfl, hk, rfl, rfl, rfl, hsz⟩ := hrel
    by_cases hlt : k < t1.length
    · have hkz : (k : Int) < (t1.length : Int) := by omega
      obtain ⟨b, off, ha, _, hcell⟩ := some_str HT1.out hlt
      subst ha
      obtain ⟨s, hs⟩ : ∃ s, t1.getD k ByteArray.empty = s := ⟨_, rfl⟩
      rw [hs] at hcell
      have HS := Lib.hid hs
      clear hs
      by_cases hss : s.size ≤ 1048576
      · go_wp2
        any_goals (go_ret; exact ⟨false, rfl, rfl, fun h => by cases h⟩)
        go_roundg (t1.length - (k + 1))
        case measure => omega
        case rel =>
          refine ⟨k + 1, _, rfl, by omega, rfl, rfl, by first | rfl | simp, Lib.hid (fun i hi => ?_)⟩
          by_cases e : i = k
          · subst e; rw [HS.out]; exact hss
          · exact hsz.out i (by omega)
      · go_wp2
        go_ret
        exact ⟨false, rfl, rfl, fun h => by cases h⟩
    · obtain rfl : k = t1.length := by omega
      go_wp2
      all_goals first
        | (go_ret; exact ⟨false, rfl, rfl, fun h => by cases h⟩)
        | (go_ret; exact ⟨true, rfl, rfl, fun _ => hsz.out⟩)

set_option maxRecDepth 100000 in
set_option maxHeartbeats 4000000 in
theorem lawM_main (v0 v1 v2 : Value) (t1 : List ByteArray) (l1 l2 : List Int) (w : World) (h0 : t1.length ≤ 65536) (e1 : l1.length = t1.length) (e2 : l2.length = t1.length)
    (hT1 : StrsAt w v0 t1) (hL1 : NumsAt w v1 l1) (hL2 : NumsAt w v2 l2) : Calls Tryd.prog 3 #[v0, v1, v2] w fun e w' => e = .returned (.bool true) ∧ Below w.heap.size w w' := by
  have hby := bytesM_any v0 v1 v2 t1 l1 l2 w (by unfold maxLen; omega) hT1 hL1 hL2
  have hs1 := strBytes_any v0 t1 w h0 hT1
  have hc1 := copyStrs_any v0 t1 w h0 hT1
  have HBY := Lib.hid hby
  have HS1 := Lib.hid hs1
  have HC1 := Lib.hid hc1
  have HL1 := Lib.hid hL1
  have HL2 := Lib.hid hL2
  obtain ⟨a0, cap0, rfl, -⟩ := hT1
  obtain ⟨a1, cap1, rfl, -⟩ := hL1
  obtain ⟨a2, cap2, rfl, -⟩ := hL2
  rw [e1] at HBY HL1 ⊢
  rw [e2] at HBY HL2 ⊢
  clear hby hs1 hc1
  have h0z : (0 : Int) ≤ (t1.length : Int) ∧ (t1.length : Int) ≤ 65536 := by omega
  have HE := Lib.hid (And.intro e1 e2)
  clear e1 e2
  go_enter Tryd.func3, Tryd.ntmps3
  go_upto_region 13 with (first
    | (go_at_call 5; refine (HBY.out).mono ?_; rintro e w' ⟨b, rfl, rfl, hfit⟩; have HFIT := Lib.hid hfit; clear hfit; cases b)
    | (go_at_call 6; refine (HS1.out).mono ?_; rintro e w' ⟨x1, rfl, rfl⟩)
    | (go_at_call 7; refine (HC1.out).mono ?_; rintro e wa ⟨u0, rfl, hu0, hba⟩; have HBA := Lib.hid hba; have HU0 := Lib.hid hu0; clear hba hu0 HC1)
    | (go_at_call 8; first | (refine (copyNums_any _ l1 _ (by rw [HE.out.1]; exact h0) (HL1.out.below HBA.out)).mono ?_; rintro e wb ⟨u1, rfl, hu1, hbb⟩; have HBB := Lib.hid hbb; have HU1 := Lib.hid hu1; clear hbb hu1 HL1) | (refine (copyNums_any _ l2 _ (by rw [HE.out.2]; exact h0) ((HL2.out.below HBA.out).below HBB.out)).mono ?_; rintro e wc ⟨u2, rfl, hu2, hbc⟩; have HBC := Lib.hid hbc; have HU2 := Lib.hid hu2; clear hbc hu2))
    | (go_at_call 9; refine (comments_cols _ _ _ t1 l1 l2 _ h0 HE.out.1 HE.out.2 ((HU0.out.below HBB.out).below HBC.out) (HU1.out.below HBC.out) HU2.out).mono ?_; rintro e we ⟨k1, c1, rfl, hl1, hx1, hk1, hbe⟩; obtain ⟨g1, p1, hv1, -⟩ := id hk1; subst hv1; have HK1 := Lib.hid hk1; have HX1 := Lib.hid hx1; have HN1 := Lib.hid hl1; have HBE := Lib.hid hbe; clear hk1 hx1 hl1 hbe))
  any_goals (go_ret; exact ⟨rfl, Below.refl _ _⟩)
  have b1 := HBA.out
  have b2 := b1.trans (HBB.out.mono b1.size)
  have b3 := b2.trans (HBC.out.mono b2.size)
  have b4 := b3.trans (HBE.out.mono b3.size)
  have HW := Lib.hid b4
  clear b1 b2 b3 b4 HBA HBB HBC HBE HU0 HU1 HU2 HL2
  have hc1z : (0 : Int) ≤ (c1.length : Int) ∧ (c1.length : Int) ≤ 65536 := by have := HN1.out; omega
  have hszs : ∀ i, i < c1.length → (c1.getD i com0).2.2.size ≤ 1048576 := fun i hi => by rw [HX1.out i hi]; exact HFIT.out trivial i (by rw [← HN1.out]; exact hi)
  have HSZ := Lib.hid hszs
  clear hszs HX1 HFIT
  go_wp2
  go_loopw [8] (fun i wr => ∃ k : Nat, k ≤ c1.length ∧ i = .int .i64 k ∧ Below we.heap.size we wr ∧ Hid (∀ j, j < k → ¬ (lineOf (c1.getD j com0).2.1 = 1 ∧ colOf (c1.getD j com0).2.1 = 1))) (fun i _ => c1.length - (intOf i).toNat)
  case atStart => exact ⟨0, Nat.zero_le _, rfl, Below.refl _ _, Lib.hid (fun j hj => absurd hj (by omega))⟩
  case round =>
    obtain ⟨k, hk, rfl, hbk, hno⟩ := hrel
    by_cases hlt : k < c1.length
    · obtain ⟨z1, z2⟩ := coms_get (HK1.out.below hbk) k hlt
      have HBK := Lib.hid hbk
      clear hbk
      obtain ⟨y, hy⟩ : ∃ y, (c1.getD k com0).2.1 = y := ⟨_, rfl⟩
      rw [hy] at z2
      have HY := Lib.hid hy
      clear hy
      generalize (c1.getD k com0).1 = x at *
      have hkz : (k : Int) < (c1.length : Int) := by omega
      by_cases hl : lineOf y = 1
      · have k1 : (lineOf y == 1) = true := by simp [hl]
        by_cases hc : colOf y = 1
        · have k2 : (colOf y == 1) = true := by simp [hc]
          clear hl hc
          go_wp2_with (first
            | (go_at_call 10; refine (line_of x y _).mono ?_; rintro e w5 ⟨rfl, hb5⟩; have d0 := (hb5.cell (World.block_lt_of_cell? _ _ z1)).trans z1; have d1 := (hb5.cell (World.block_lt_of_cell? _ _ z2)).trans z2; have HW5 := Lib.hid (HBK.out.trans (hb5.mono HBK.out.size)); clear hb5)
            | (go_at_call 11; refine (col_of x y _).mono ?_; rintro e w6 ⟨rfl, hb6⟩; have HW6 := Lib.hid (HW5.out.trans (hb6.mono HW5.out.size)); clear hb6))
          go_ret
          exact ⟨rfl, HW.out.trans (HW6.out.mono HW.out.size)⟩
        · have k2 : (colOf y == 1) = false := by simp [hc]
          have HC := Lib.hid hc
          clear hl hc
          go_wp2_with (first
            | (go_at_call 10; refine (line_of x y _).mono ?_; rintro e w5 ⟨rfl, hb5⟩; have d0 := (hb5.cell (World.block_lt_of_cell? _ _ z1)).trans z1; have d1 := (hb5.cell (World.block_lt_of_cell? _ _ z2)).trans z2; have HW5 := Lib.hid (HBK.out.trans (hb5.mono HBK.out.size)); clear hb5)
            | (go_at_call 11; refine (col_of x y _).mono ?_; rintro e w6 ⟨rfl, hb6⟩; have HW6 := Lib.hid (HW5.out.trans (hb6.mono HW5.out.size)); clear hb6))
          go_roundw
          case rel =>
            refine ⟨k + 1, by omega, by go_num, HW6.out, Lib.hid (fun j hj => ?_)⟩
            by_cases e : j = k
            · subst e; rw [HY.out]; exact fun h => HC.out h.2
            · exact hno.out j (by omega)
          case measure => simp [intOf]; omega
      · have k1 : (lineOf y == 1) = false := by simp [hl]
        have HC := Lib.hid hl
        clear hl
        go_wp2_with (first
          | (go_at_call 10; refine (line_of x y _).mono ?_; rintro e w5 ⟨rfl, hb5⟩; have HW5 := Lib.hid (HBK.out.trans (hb5.mono HBK.out.size)); clear hb5))
        go_roundw
        case rel =>
          refine ⟨k + 1, by omega, by go_num, HW5.out, Lib.hid (fun j hj => ?_)⟩
          by_cases e : j = k
          · subst e; rw [HY.out]; exact fun h => HC.out h.1
          · exact hno.out j (by omega)
        case measure => simp [intOf]; omega
    · obtain rfl : k = c1.length := by omega
      have HBK := Lib.hid hbk
      clear hbk
      go_wp2_with (first
        | (go_at_call 12; refine (newPrinter_any true _).mono ?_; rintro e wg ⟨P, rfl, hpr, hPf, hbg⟩; have HPR := Lib.hid hpr; have HBG := Lib.hid (HBK.out.trans (hbg.mono HBK.out.size)); clear hpr hPf hbg)
        | (go_at_call 15; refine (mini_any P _ _ 0 c1 _ (by rw [HN1.out]; exact h0) HPR.out (HK1.out.below HBG.out) HSZ.out hno.out).mono ?_; rintro e wh ⟨rfl, hbh⟩; have HPR2 := Lib.hid (HPR.out.below hbh); have HBH := Lib.hid (HBG.out.trans (hbh.mono HBG.out.size)); clear hbh HPR)
        | (go_at_call 13; first | (refine (pending_any P true _ 0 _ HPR.out).mono ?_; rintro e w' ⟨rfl, hw⟩; subst w') | (refine (pending_any P true _ 0 _ HPR2.out).mono ?_; rintro e w' ⟨rfl, hw⟩; subst w'))
        | (go_at_call 14; first | (refine (line_any P true _ 0 _ HPR.out).mono ?_; rintro e w' ⟨rfl, hw⟩; subst w') | (refine (line_any P true _ 0 _ HPR2.out).mono ?_; rintro e w' ⟨rfl, hw⟩; subst w')))
      go_ret
      exact ⟨rfl, HW.out.trans (HBH.out.mono HW.out.size)⟩

set_option maxRecDepth 100000 in
set_option maxHeartbeats 4000000 in
theorem lawM_all (v0 v1 v2 : Value) (t1 : List ByteArray) (l1 l2 : List Int) (w : World) (m0 : t1.length ≤ maxLen) (m1 : l1.length ≤ maxLen) (m2 : l2.length ≤ maxLen)
    (hT1 : StrsAt w v0 t1) (hL1 : NumsAt w v1 l1) (hL2 : NumsAt w v2 l2) : Calls Tryd.prog 3 #[v0, v1, v2] w fun e w' => e = .returned (.bool true) ∧ Below w.heap.size w w' := by
  by_cases hall : t1.length ≤ 65536 ∧ l1.length = t1.length ∧ l2.length = t1.length
  · exact lawM_main v0 v1 v2 t1 l1 l2 w hall.1 hall.2.1 hall.2.2 hT1 hL1 hL2
  have hby := bytesM_any v0 v1 v2 t1 l1 l2 w m0 hT1 hL1 hL2
  have HBY := Lib.hid hby
  have hs1 : t1.length ≤ 65536 → Calls Tryd.prog 6 #[v0] w (SomeInt w) := fun h => strBytes_any v0 t1 w h hT1
  have HS1 := Lib.hid hs1
  obtain ⟨a0, cap0, rfl, -⟩ := hT1
  obtain ⟨a1, cap1, rfl, -⟩ := hL1
  obtain ⟨a2, cap2, rfl, -⟩ := hL2
  unfold maxLen at m0 m1 m2
  clear hby hs1
  have HALL := Lib.hid hall
  clear hall
  by_cases h0 : t1.length ≤ 65536
  · by_cases h1 : l1.length ≤ 65536
    · by_cases h2 : l2.length ≤ 65536
      · by_cases e1 : t1.length = l1.length
        · have e2 : t1.length ≠ l2.length := fun e2 => HALL.out ⟨h0, e1.symm, e2.symm⟩
          have c1 : ((t1.length : Int) != (l1.length : Int)) = false := by simp [e1]
          have c2 : ((t1.length : Int) != (l2.length : Int)) = true := by simp; omega
          clear e1 e2
          go_enter Tryd.func3, Tryd.ntmps3
          go_wp2_with (first
            | (go_at_call 5; refine (HBY.out).mono ?_; rintro e w' ⟨b, rfl, rfl, -⟩; cases b)
            | (go_at_call 6; refine (HS1.out h0).mono ?_; rintro e w' ⟨x1, rfl, rfl⟩))
          all_goals (go_ret; exact ⟨rfl, Below.refl _ _⟩)
        · have c1 : ((t1.length : Int) != (l1.length : Int)) = true := by simp; omega
          clear e1
          go_enter Tryd.func3, Tryd.ntmps3
          go_wp2_with (first
            | (go_at_call 5; refine (HBY.out).mono ?_; rintro e w' ⟨b, rfl, rfl, -⟩; cases b)
            | (go_at_call 6; refine (HS1.out h0).mono ?_; rintro e w' ⟨x1, rfl, rfl⟩))
          all_goals (go_ret; exact ⟨rfl, Below.refl _ _⟩)
      · go_enter Tryd.func3, Tryd.ntmps3
        go_wp2_with (go_at_call 5; refine (HBY.out).mono ?_; rintro e w' ⟨b, rfl, rfl, -⟩; cases b)
        all_goals (go_ret; exact ⟨rfl, Below.refl _ _⟩)
    · go_enter Tryd.func3, Tryd.ntmps3
      go_wp2_with (go_at_call 5; refine (HBY.out).mono ?_; rintro e w' ⟨b, rfl, rfl, -⟩; cases b)
      all_goals (go_ret; exact ⟨rfl, Below.refl _ _⟩)
  · go_enter Tryd.func3, Tryd.ntmps3
    go_wp2_with (go_at_call 5; refine (HBY.out).mono ?_; rintro e w' ⟨b, rfl, rfl, -⟩; cases b)
    all_goals (go_ret; exact ⟨rfl, Below.refl _ _⟩)
end Go.Proofs.YtelflagehingoaaDoor
