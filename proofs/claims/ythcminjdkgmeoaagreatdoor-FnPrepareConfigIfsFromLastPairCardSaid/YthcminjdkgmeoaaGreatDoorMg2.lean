/-
  The stable sort: the symmetric merge, the second range of one element.
-/
import Derived.Test.YthcminjdkgmeoaaGreatDoorMg1
namespace Go.Proofs.YthcminjdkgmeoaaGreatDoor
open Go.RowKit
set_option linter.unusedVariables false

set_option maxRecDepth 100000 in
set_option maxHeartbeats 4000000 in
theorem merge_two (w0 : World) (P n eb c : Nat) (S : Nat → List UInt8) (hn : n ≤ 100000000) (hC : CmpOk w0 P eb S) (w : World) (p : Nat → Nat) (a m : Nat) (h : SA w0 P n S p w) (ham : a + 1 < m) (hb : m + 1 ≤ n) (hs1 : Stb.Sorted (ltS S) a m p) (hbef : Stb.Before a m (m + 1) p) :
    Calls Tryz.prog 34 #[.slice (some ⟨P, 0, none⟩) n c, .int .i64 (a : Int), .int .i64 (m : Int), .int .i64 ((m + 1 : Nat) : Int), cmpV eb] w fun e w' => e = .returned (.tuple #[]) ∧ ∃ q, SA w0 P n S q w' ∧ Stb.Shuf a (m + 1) p q ∧ Stb.Sorted (ltS S) a (m + 1) q := by
  obtain ⟨b, hm⟩ : ∃ b, m + 1 = b := ⟨_, rfl⟩
  have HM := Lib.hid hm
  have HC := Lib.hid hC
  have H0 := Lib.hid h
  have HS1 := Lib.hid hs1
  have HBEF := Lib.hid hbef
  have HO := Lib.hid (Stb.ord_of (Stb.wk_kltS S))
  obtain ⟨hz1, hz2, hz3, hz4, hz5⟩ : (b : Int) - (m : Int) = 1 ∧ (a : Int) + 1 < (m : Int) ∧ (b : Int) ≤ (n : Int) ∧ (n : Int) ≤ 100000000 ∧ ¬ (m : Int) - (a : Int) = 1 := by omega
  have hz6 : ((m : Int) - (a : Int) == 1) = false := by simp; omega
  rw [hm]
  clear h hC hs1 hbef
  go_enter Tryz.func34, Tryz.ntmps34
  go_wp2_with fail
  go_loopg [14, 15] (m - a) (fun gk s14 s15 wr => ∃ i j : Nat, s14 = .int .i64 (i : Int) ∧ s15 = .int .i64 (j : Int) ∧ a ≤ i ∧ i ≤ j ∧ j ≤ m ∧ gk = j - i ∧ Hid ((i = a ∨ ltS S (p m) (p (i - 1)) = false) ∧ (j = m ∨ ltS S (p m) (p j) = true)) ∧ Hid (SA w0 P n S p wr))
  case atStart => exact ⟨a, m, rfl, rfl, Nat.le_refl _, by omega, Nat.le_refl _, rfl, Lib.hid ⟨Or.inl rfl, Or.inl rfl⟩, H0⟩
  case round =>
    obtain ⟨i, j, rfl, rfl, h1, h2, h3, rfl, HX, HSA⟩ := hrel
    by_cases hij : i < j
    · have hijz : (i : Int) < (j : Int) := by omega
      obtain ⟨hj1, hj2⟩ : (j : Int) ≤ (m : Int) ∧ (a : Int) ≤ (i : Int) := by omega
      obtain ⟨h, hh0⟩ : ∃ h, (i + j) / 2 = h := ⟨_, rfl⟩
      have hwh : ((i : Int) + (j : Int)) / 2 = (h : Int) := by omega
      obtain ⟨hhn1, hhn2⟩ : (h : Int) < (n : Int) ∧ (m : Int) < (n : Int) := by omega
      have cx := HSA.out.cell (show m < n by omega)
      have cy := HSA.out.cell (show h < n by omega)
      have HB := Lib.hid (And.intro (show m < n by omega) (show h < n by omega))
      have HC2 := Lib.hid (fun (w1 : World) (k : SA w0 P n S p w1) => HC.out w1 (p m) (p h) k.kept)
      obtain ⟨v, hv⟩ : ∃ v, Lib.compareBytes (Stb.key (S (p m))) (Stb.key (S (p h))) = v := ⟨_, rfl⟩
      have hk : Stb.kltS S (p m) (p h) = decide (v < 0) := by rw [← hv]; rfl
      rw [hv] at HC2
      have HK := Lib.hid hk
      clear hv hk
      have HLT : Hid (ltS S (p m) (p h) = decide (v < 0)) := Lib.hid (by
        have := HBEF.out h m (by omega) (by omega) (by omega) (by omega)
        unfold ltS
        rw [Stb.ltT_hi (by omega), HK.out])
      go_upto_region 17 with fail
      by_cases hv0 : v < 0
      · have hvd : decide (v < 0) = true := by simp [hv0]
        go_region_held3 (fun w' => w'.cell? ⟨P, m, none⟩ = some (strL (S (p m))) ∧ w'.cell? ⟨P, h, none⟩ = some (strL (S (p h))) ∧ SA w0 P n S p w')
          (first
            | (go_keep; done)
            | exact ⟨cx, cy, HSA.out.drew⟩
            | (go_split_ands
               have hh := SA.below (by assumption) hq
               exact ⟨hh.cell HB.out.1, hh.cell HB.out.2, hh⟩))
          (first | (go_at_call 15; go_split_ands; rename_i hsa; refine (HC2.out _ hsa).mono ?_; rintro e w2 ⟨rfl, hq⟩))
        have hh : w2.cell? ⟨P, m, none⟩ = some (strL (S (p m))) ∧ w2.cell? ⟨P, h, none⟩ = some (strL (S (p h))) ∧ SA w0 P n S p w2 := by assumption
        have H2 := Lib.hid hh.2.2
        clear hh hq
        go_wp2_with fail
        go_roundg (h - i)
        case measure => omega
        case rel => exact ⟨i, h, rfl, rfl, h1, by omega, by omega, rfl, Lib.hid ⟨HX.out.1, Or.inr (by rw [HLT.out]; simp [hv0])⟩, H2⟩
      · have hvd : decide (v < 0) = false := by simp [hv0]
        go_region_held3 (fun w' => w'.cell? ⟨P, m, none⟩ = some (strL (S (p m))) ∧ w'.cell? ⟨P, h, none⟩ = some (strL (S (p h))) ∧ SA w0 P n S p w')
          (first
            | (go_keep; done)
            | exact ⟨cx, cy, HSA.out.drew⟩
            | (go_split_ands
               have hh := SA.below (by assumption) hq
               exact ⟨hh.cell HB.out.1, hh.cell HB.out.2, hh⟩))
          (first | (go_at_call 15; go_split_ands; rename_i hsa; refine (HC2.out _ hsa).mono ?_; rintro e w2 ⟨rfl, hq⟩))
        have hh : w2.cell? ⟨P, m, none⟩ = some (strL (S (p m))) ∧ w2.cell? ⟨P, h, none⟩ = some (strL (S (p h))) ∧ SA w0 P n S p w2 := by assumption
        have H2 := Lib.hid hh.2.2
        clear hh hq
        go_wp2_with fail
        go_roundg (j - (h + 1))
        case measure => omega
        case rel => exact ⟨h + 1, j, by go_num, rfl, by omega, by omega, h3, rfl, Lib.hid ⟨Or.inr (by rw [Nat.add_sub_cancel, HLT.out]; simp [hv0]), HX.out.2⟩, H2⟩
    · have hijz : ¬ (i : Int) < (j : Int) := by omega
      have hej : j = i := by omega
      subst hej
      obtain ⟨hi1, hi2⟩ : (a : Int) ≤ (j : Int) ∧ (j : Int) ≤ (m : Int) := by omega
      have HSRT : Hid (Stb.Sorted (ltS S) a b (Stb.shD m j p)) := Lib.hid (by
        rw [← HM.out]
        exact Stb.merge_last HO.out HS1.out HBEF.out (by omega) HX.out.1 HX.out.2)
      have H1 : Hid (SA w0 P n S (Stb.shD m m p) wr ∧ Stb.Shuf a b p (Stb.shD m m p)) := Lib.hid (by rw [Stb.shD_start]; exact ⟨HSA.out, Stb.Shuf.refl _ _ _⟩)
      go_wp2_with fail
      go_loopg [17] (m - j) (fun gk s17 wz => ∃ k : Nat, s17 = .int .i64 (k : Int) ∧ j ≤ k ∧ k ≤ m ∧ gk = k - j ∧ Hid (SA w0 P n S (Stb.shD m k p) wz ∧ Stb.Shuf a b p (Stb.shD m k p)))
      case atStart => exact ⟨m, rfl, by omega, Nat.le_refl _, rfl, H1⟩
      case round =>
        obtain ⟨k, rfl, k1, k2, rfl, HY⟩ := hrel
        by_cases hk : j < k
        · have hkz : (j : Int) < (k : Int) := by omega
          obtain ⟨y, hy⟩ : ∃ y, k - 1 = y := ⟨_, rfl⟩
          have hwy : IntKind.i64.wrap ((k : Int) - 1) = (y : Int) := by rw [wrap_small (by omega) (by omega)]; omega
          have hkn : k < n := by omega
          have hyn : y < n := by omega
          have hky : k ≠ y := by omega
          have hkz2 : (k : Int) < (n : Int) := by omega
          have hyz2 : (y : Int) < (n : Int) := by omega
          obtain ⟨q, hq⟩ : ∃ q, Stb.shD m k p = q := ⟨_, rfl⟩
          have HQ : Hid (Stb.swap q k y = Stb.shD m y p) := Lib.hid (by rw [← hq, ← hy]; exact Stb.shD_step p k2 (by omega))
          have HYY := Lib.hid hy
          rw [hq] at HY
          have HB := Lib.hid (And.intro hkn (And.intro hyn hky))
          have HSH : Hid (Stb.Shuf a b p (Stb.swap q k y)) := Lib.hid (HY.out.2.trans (Stb.swap_shuf q (by omega) (by omega)))
          have dx := HY.out.1.cell hkn
          have dy := HY.out.1.cell hyn
          have fx := HY.out.1.frz k
          have fy := HY.out.1.frz y
          clear hq hy
          go_upto_region 23 with fail
          go_region_law (fail)
          all_goals
            go_wp2_with fail
            go_roundg (y - j)
            case measure => have := HYY.out; omega
            case rel => exact ⟨y, by first | rfl | (have := HYY.out; congr 1; omega), by have := HYY.out; omega, by have := HYY.out; omega, rfl, Lib.hid (by rw [← HQ.out]; exact And.intro (by first | exact (SA.swap HY.out.1.drew HB.out.1 HB.out.2.1 HB.out.2.2) | exact (SA.swap2 HY.out.1.drew HB.out.1 HB.out.2.1 HB.out.2.2) | exact (SA.swap HY.out.1 HB.out.1 HB.out.2.1 HB.out.2.2).drew | exact (SA.swap2 HY.out.1 HB.out.1 HB.out.2.1 HB.out.2.2).drew) HSH.out)⟩
        · have hkz : ¬ (j : Int) < (k : Int) := by omega
          have hke : k = j := by omega
          go_wp2_with fail
          refine bodyPost_ret (results_none rfl _ _ _) rfl ?_
          exact ⟨rfl, _, HY.out.1, HY.out.2, by rw [hke]; exact HSRT.out⟩
end Go.Proofs.YthcminjdkgmeoaaGreatDoor
