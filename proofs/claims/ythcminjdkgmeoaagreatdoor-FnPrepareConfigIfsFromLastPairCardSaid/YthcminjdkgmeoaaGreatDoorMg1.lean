/-
  The stable sort: the symmetric merge.
-/
import Derived.Test.YthcminjdkgmeoaaGreatDoorIns
namespace Go.Proofs.YthcminjdkgmeoaaGreatDoor
open Go.RowKit
set_option linter.unusedVariables false

/-- The contract of a merge of ranges no longer than d. -/
def MergeC (w0 : World) (P n eb c : Nat) (S : Nat → List UInt8) (d : Nat) : Prop := ∀ (w : World) (p : Nat → Nat) (a m b : Nat), b - a ≤ d → SA w0 P n S p w → a < m → m < b → b ≤ n → Stb.Sorted (ltS S) a m p → Stb.Sorted (ltS S) m b p → Stb.Before a m b p →
    Calls Tryz.prog 34 #[.slice (some ⟨P, 0, none⟩) n c, .int .i64 (a : Int), .int .i64 (m : Int), .int .i64 (b : Int), cmpV eb] w fun e w' => e = .returned (.tuple #[]) ∧ ∃ q, SA w0 P n S q w' ∧ Stb.Shuf a b p q ∧ Stb.Sorted (ltS S) a b q

set_option maxRecDepth 100000 in
set_option maxHeartbeats 4000000 in
theorem merge_one (w0 : World) (P n eb c : Nat) (S : Nat → List UInt8) (hn : n ≤ 100000000) (hC : CmpOk w0 P eb S) (w : World) (p : Nat → Nat) (a b : Nat) (h : SA w0 P n S p w) (hab : a + 1 < b) (hb : b ≤ n) (hs2 : Stb.Sorted (ltS S) (a + 1) b p) (hbef : Stb.Before a (a + 1) b p) :
    Calls Tryz.prog 34 #[.slice (some ⟨P, 0, none⟩) n c, .int .i64 (a : Int), .int .i64 ((a + 1 : Nat) : Int), .int .i64 (b : Int), cmpV eb] w fun e w' => e = .returned (.tuple #[]) ∧ ∃ q, SA w0 P n S q w' ∧ Stb.Shuf a b p q ∧ Stb.Sorted (ltS S) a b q := by
  obtain ⟨m, hm⟩ : ∃ m, a + 1 = m := ⟨_, rfl⟩
  have HM := Lib.hid hm
  have HC := Lib.hid hC
  have H0 := Lib.hid h
  have HS2 := Lib.hid hs2
  have HBEF := Lib.hid hbef
  have HO := Lib.hid (Stb.ord_of (Stb.wk_kltS S))
  obtain ⟨hz1, hz2, hz3, hz4⟩ : (m : Int) - (a : Int) = 1 ∧ (m : Int) < (b : Int) ∧ (b : Int) ≤ (n : Int) ∧ (n : Int) ≤ 100000000 := by omega
  rw [hm]
  clear h hC hs2 hbef
  go_enter Tryz.func34, Tryz.ntmps34
  go_wp2_with fail
  go_loopg [10, 11] (b - m) (fun gk s10 s11 wr => ∃ i j : Nat, s10 = .int .i64 (i : Int) ∧ s11 = .int .i64 (j : Int) ∧ m ≤ i ∧ i ≤ j ∧ j ≤ b ∧ gk = j - i ∧ Hid ((i = m ∨ ltS S (p (i - 1)) (p a) = true) ∧ (j = b ∨ ltS S (p j) (p a) = false)) ∧ Hid (SA w0 P n S p wr))
  case atStart => exact ⟨m, b, rfl, rfl, Nat.le_refl _, by omega, Nat.le_refl _, rfl, Lib.hid ⟨Or.inl rfl, Or.inl rfl⟩, H0⟩
  case round =>
    obtain ⟨i, j, rfl, rfl, h1, h2, h3, rfl, HX, HSA⟩ := hrel
    by_cases hij : i < j
    · have hijz : (i : Int) < (j : Int) := by omega
      obtain ⟨hj1, hj2⟩ : (j : Int) ≤ (b : Int) ∧ (m : Int) ≤ (i : Int) := by omega
      obtain ⟨h, hh0⟩ : ∃ h, (i + j) / 2 = h := ⟨_, rfl⟩
      have hwh : ((i : Int) + (j : Int)) / 2 = (h : Int) := by omega
      obtain ⟨hhn1, hhn2⟩ : (h : Int) < (n : Int) ∧ (a : Int) < (n : Int) := by omega
      have cx := HSA.out.cell (show h < n by omega)
      have cy := HSA.out.cell (show a < n by omega)
      have HB := Lib.hid (And.intro (show h < n by omega) (show a < n by omega))
      have HC2 := Lib.hid (fun (w1 : World) (k : SA w0 P n S p w1) => HC.out w1 (p h) (p a) k.kept)
      obtain ⟨v, hv⟩ : ∃ v, Lib.compareBytes (Stb.key (S (p h))) (Stb.key (S (p a))) = v := ⟨_, rfl⟩
      have hk : Stb.kltS S (p h) (p a) = decide (v < 0) := by rw [← hv]; rfl
      rw [hv] at HC2
      have HK := Lib.hid hk
      clear hv hk
      have HLT : Hid (ltS S (p h) (p a) = decide (v < 0)) := Lib.hid (by
        have := HBEF.out a h (by omega) (by omega) (by rw [HM.out]; omega) (by omega)
        unfold ltS
        rw [Stb.ltT_hi (by omega), HK.out])
      go_upto_region 5 with fail
      by_cases hv0 : v < 0
      · 
        go_region_held3 (fun w' => w'.cell? ⟨P, h, none⟩ = some (strL (S (p h))) ∧ w'.cell? ⟨P, a, none⟩ = some (strL (S (p a))) ∧ SA w0 P n S p w')
          (first
            | (go_keep; done)
            | exact ⟨cx, cy, HSA.out.drew⟩
            | (go_split_ands
               have hh := SA.below (by assumption) hq
               exact ⟨hh.cell HB.out.1, hh.cell HB.out.2, hh⟩))
          (first | (go_at_call 15; go_split_ands; rename_i hsa; refine (HC2.out _ hsa).mono ?_; rintro e w2 ⟨rfl, hq⟩))
        have hh : w2.cell? ⟨P, h, none⟩ = some (strL (S (p h))) ∧ w2.cell? ⟨P, a, none⟩ = some (strL (S (p a))) ∧ SA w0 P n S p w2 := by assumption
        have H2 := Lib.hid hh.2.2
        clear hh hq
        go_wp2_with fail
        go_roundg (j - (h + 1))
        case measure => omega
        case rel => exact ⟨h + 1, j, by go_num, rfl, by omega, by omega, h3, rfl, Lib.hid ⟨Or.inr (by rw [Nat.add_sub_cancel, HLT.out]; simp [hv0]), HX.out.2⟩, H2⟩
      · 
        go_region_held3 (fun w' => w'.cell? ⟨P, h, none⟩ = some (strL (S (p h))) ∧ w'.cell? ⟨P, a, none⟩ = some (strL (S (p a))) ∧ SA w0 P n S p w')
          (first
            | (go_keep; done)
            | exact ⟨cx, cy, HSA.out.drew⟩
            | (go_split_ands
               have hh := SA.below (by assumption) hq
               exact ⟨hh.cell HB.out.1, hh.cell HB.out.2, hh⟩))
          (first | (go_at_call 15; go_split_ands; rename_i hsa; refine (HC2.out _ hsa).mono ?_; rintro e w2 ⟨rfl, hq⟩))
        have hh : w2.cell? ⟨P, h, none⟩ = some (strL (S (p h))) ∧ w2.cell? ⟨P, a, none⟩ = some (strL (S (p a))) ∧ SA w0 P n S p w2 := by assumption
        have H2 := Lib.hid hh.2.2
        clear hh hq
        go_wp2_with fail
        go_roundg (h - i)
        case measure => omega
        case rel => exact ⟨i, h, rfl, rfl, h1, by omega, by omega, rfl, Lib.hid ⟨HX.out.1, Or.inr (by rw [HLT.out]; simp [hv0])⟩, H2⟩
    · have hijz : ¬ (i : Int) < (j : Int) := by omega
      have hej : j = i := by omega
      subst hej
      obtain ⟨hi1, hi2⟩ : (m : Int) ≤ (j : Int) ∧ (j : Int) ≤ (b : Int) := by omega
      have HSRT : Hid (Stb.Sorted (ltS S) a b (Stb.shU a (j - 1) p)) := Lib.hid (Stb.merge_first HO.out HS2.out HBEF.out (by omega) (by rw [HM.out]; exact HX.out.1) HX.out.2)
      have H1 : Hid (SA w0 P n S (Stb.shU a a p) wr ∧ Stb.Shuf a b p (Stb.shU a a p)) := Lib.hid (by rw [Stb.shU_start]; exact ⟨HSA.out, Stb.Shuf.refl _ _ _⟩)
      go_wp2_with fail
      go_loopg [13] (j - 1 - a) (fun gk s13 wz => ∃ k : Nat, s13 = .int .i64 (k : Int) ∧ a ≤ k ∧ k ≤ j - 1 ∧ gk = j - 1 - k ∧ Hid (SA w0 P n S (Stb.shU a k p) wz ∧ Stb.Shuf a b p (Stb.shU a k p)))
      case atStart => exact ⟨a, rfl, Nat.le_refl _, by omega, rfl, H1⟩
      case round =>
        obtain ⟨k, rfl, k1, k2, rfl, HY⟩ := hrel
        by_cases hk : k < j - 1
        · have hkz : (k : Int) < (j : Int) - 1 := by omega
          obtain ⟨y, hy⟩ : ∃ y, k + 1 = y := ⟨_, rfl⟩
          have hwy : IntKind.i64.wrap ((k : Int) + 1) = (y : Int) := by rw [wrap_small (by omega) (by omega)]; omega
          have hkn : k < n := by omega
          have hyn : y < n := by omega
          have hky : k ≠ y := by omega
          have hkz2 : (k : Int) < (n : Int) := by omega
          have hyz2 : (y : Int) < (n : Int) := by omega
          obtain ⟨q, hq⟩ : ∃ q, Stb.shU a k p = q := ⟨_, rfl⟩
          have HQ : Hid (Stb.swap q k y = Stb.shU a y p) := Lib.hid (by rw [← hq, ← hy]; exact Stb.shU_step p k1)
          have HYY := Lib.hid hy
          rw [hq] at HY
          have HB := Lib.hid (And.intro hkn (And.intro hyn hky))
          have HSH : Hid (Stb.Shuf a b p (Stb.swap q k y)) := Lib.hid (HY.out.2.trans (Stb.swap_shuf q (by omega) (by omega)))
          have dx := HY.out.1.cell hkn
          have dy := HY.out.1.cell hyn
          have fx := HY.out.1.frz k
          have fy := HY.out.1.frz y
          clear hq hy
          go_upto_region 11 with fail
          go_region_law (fail)
          all_goals
            go_wp2_with fail
            go_roundg (j - 1 - y)
            case measure => have := HYY.out; omega
            case rel => exact ⟨y, by first | rfl | (have := HYY.out; congr 1; omega), by have := HYY.out; omega, by have := HYY.out; omega, rfl, Lib.hid (by rw [← HQ.out]; exact And.intro (by first | exact (SA.swap HY.out.1.drew HB.out.1 HB.out.2.1 HB.out.2.2) | exact (SA.swap2 HY.out.1.drew HB.out.1 HB.out.2.1 HB.out.2.2) | exact (SA.swap HY.out.1 HB.out.1 HB.out.2.1 HB.out.2.2).drew | exact (SA.swap2 HY.out.1 HB.out.1 HB.out.2.1 HB.out.2.2).drew) HSH.out)⟩
        · have hkz : ¬ (k : Int) < (j : Int) - 1 := by omega
          have hke : k = j - 1 := by omega
          go_wp2_with fail
          refine bodyPost_ret (results_none rfl _ _ _) rfl ?_
          exact ⟨rfl, _, HY.out.1, HY.out.2, by rw [hke]; exact HSRT.out⟩
end Go.Proofs.YthcminjdkgmeoaaGreatDoor
