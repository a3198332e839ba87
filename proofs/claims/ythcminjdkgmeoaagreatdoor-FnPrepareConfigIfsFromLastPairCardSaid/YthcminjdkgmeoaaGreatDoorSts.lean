/-
  The stable sort whole.
-/
import Derived.Test.YthcminjdkgmeoaaGreatDoorMg3
namespace Go.Proofs.YthcminjdkgmeoaaGreatDoor
open Go.RowKit
set_option linter.unusedVariables false

set_option maxRecDepth 100000 in
set_option maxHeartbeats 600000 in
theorem stable_any (w0 w : World) (P n eb c : Nat) (S : Nat → List UInt8) (hn : n ≤ 100000000) (hC : CmpOk w0 P eb S) (h : SA w0 P n S id w) :
    Calls Tryz.prog 27 #[.slice (some ⟨P, 0, none⟩) n c, .int .i64 (n : Int), cmpV eb] w fun e w' => e = .returned (.tuple #[]) ∧ ∃ q, SA w0 P n S q w' ∧ Stb.Shuf 0 n id q ∧ Stb.Sorted (ltS S) 0 n q := by
  have H0 := Lib.hid (And.intro (Stb.BlkI.start (ltS S) n 20) h)
  have HINS := Lib.hid (fun (w1 : World) (p : Nat → Nat) (a b : Nat) (h : SA w0 P n S p w1) (h1 : Stb.Inc a b p) (h2 : a ≤ b) (h3 : b ≤ n) => ins_any w0 w1 P n eb S p a b c h hC h1 h2 h3 hn)
  have HMRG := Lib.hid (fun (w1 : World) (p : Nat → Nat) (a m b : Nat) (h : SA w0 P n S p w1) (h1 : a < m) (h2 : m < b) (h3 : b ≤ n) (h4 : Stb.Sorted (ltS S) a m p) (h5 : Stb.Sorted (ltS S) m b p) (h6 : Stb.Before a m b p) => merge_any w0 P n eb c S hn hC n w1 p a m b (by omega) h h1 h2 h3 h4 h5 h6)
  obtain ⟨hz1, hz2⟩ : (0 : Int) ≤ (n : Int) ∧ (n : Int) ≤ 100000000 := by omega
  clear h hC
  go_enter Tryz.func27, Tryz.ntmps27
  go_wp2_with fail
  go_loopg [7, 8] n (fun gk s7 s8 wr => ∃ (a b t : Nat) (q : Nat → Nat), s7 = .int .i64 (a : Int) ∧ s8 = .int .i64 (b : Int) ∧ b = a + 20 ∧ a ≤ n ∧ gk = n - a ∧ Hid (Stb.BlkI (ltS S) n 20 t a q ∧ SA w0 P n S q wr))
  case atStart => exact ⟨0, 20, 0, id, rfl, rfl, rfl, Nat.zero_le _, rfl, H0⟩
  case round =>
    obtain ⟨a, b, t, q, rfl, rfl, hab, han, rfl, HX⟩ := hrel
    by_cases hb : b ≤ n
    · have hbz : (b : Int) ≤ (n : Int) := by omega
      have habz : (b : Int) = (a : Int) + 20 := by omega
      have HCALL := Lib.hid (HINS.out wr q a b HX.out.2 (HX.out.1.inc b) (by omega) hb)
      have HAB := Lib.hid hab
      have hb20 : (b : Int) ≤ 100000000 := by omega
      clear habz hab
      go_wp2_with (go_at_call 33; refine HCALL.out.mono ?_; rintro e w2 ⟨rfl, q2, a1, a2, a3⟩; have H2 := Lib.hid (And.intro a2 (And.intro a3 a1)); clear a1 a2 a3)
      go_roundg (n - b)
      case measure => have := HAB.out; omega
      case rel =>
        refine ⟨b, b + 20, t + 1, _, rfl, by go_num, rfl, hb, rfl, Lib.hid (And.intro ?_ H2.out.2.2)⟩
        have e := HAB.out
        have h1 := H2.out.1
        have h2 := H2.out.2.1
        rw [e] at h1 h2 ⊢
        exact HX.out.1.step (by omega) (by omega) h1 h2
    · have hbz : ¬ (b : Int) ≤ (n : Int) := by omega
      have HCALL := Lib.hid (HINS.out wr q a n HX.out.2 (HX.out.1.inc n) han (Nat.le_refl _))
      have HBLK : Hid (∀ q2, Stb.Shuf a n q q2 → Stb.Sorted (ltS S) a n q2 → Stb.Blk (ltS S) n 20 q2 ∧ Stb.Shuf 0 n id q2) := Lib.hid (fun q2 k1 k2 => HX.out.1.fin (by omega) (by omega) k1 k2)
      clear hab
      go_wp2_with (go_at_call 33; refine HCALL.out.mono ?_; rintro e w2 ⟨rfl, q2, a1, a2, a3⟩; have H2 := Lib.hid (And.intro (HBLK.out q2 a2 a3) a1); clear a1 a2 a3)
      go_loopg [6] n (fun gk s6 wz => ∃ (s : Nat) (q : Nat → Nat), s6 = .int .i64 (s : Int) ∧ 0 < s ∧ (s ≤ n ∨ s ≤ n + n ∨ s = 20) ∧ gk = n - (s - 20) ∧ 20 ≤ s ∧ Hid (Stb.Blk (ltS S) n s q ∧ Stb.Shuf 0 n id q ∧ SA w0 P n S q wz))
      case atStart => exact ⟨20, _, rfl, by omega, Or.inr (Or.inr rfl), rfl, Nat.le_refl _, Lib.hid (And.intro H2.out.1.1 (And.intro H2.out.1.2 H2.out.2))⟩
      case round =>
        obtain ⟨s, q3, rfl, hs0, hs1, rfl, hs20, HY⟩ := hrel
        by_cases hsn : s < n
        · have hsz : (s : Int) < (n : Int) := by omega
          have hsz0 : (20 : Int) ≤ (s : Int) := by omega
          have HM0 := Lib.hid (Stb.MrgI.start (lt := ltS S) hs0 HY.out.1 HY.out.2.1)
          have HSN := Lib.hid (And.intro hsn hs20)
          clear hs1
          go_wp2_with fail
          go_loopg [7, 8] n (fun gk s7 s8 wj => ∃ (a b t : Nat) (q4 : Nat → Nat), s7 = .int .i64 (a : Int) ∧ s8 = .int .i64 (b : Int) ∧ Hid (b = a + 2 * s) ∧ a ≤ n ∧ gk = n - a ∧ Hid (Stb.MrgI (ltS S) n s t a q3 q4 ∧ SA w0 P n S q4 wj))
          case atStart => exact ⟨0, 2 * s, 0, q3, rfl, by first | rfl | go_num, Lib.hid (by omega), Nat.zero_le _, rfl, Lib.hid (And.intro HM0.out HY.out.2.2)⟩
          case round =>
            obtain ⟨a, b, t, q4, rfl, rfl, HAB, han, rfl, HZ⟩ := hrel
            obtain ⟨m, hm⟩ : ∃ m, a + s = m := ⟨_, rfl⟩
            have hwm : (a : Int) + (s : Int) = (m : Int) := by omega
            have HM := Lib.hid hm
            by_cases hb : b ≤ n
            · have hbz : (b : Int) ≤ (n : Int) := by omega
              have hmz : (m : Int) ≤ (n : Int) := by have := HAB.out; omega
              have hpre := HZ.out.1.pre hb (by have := HAB.out; omega) (by have := HAB.out; omega) (Or.inl HAB.out)
              rw [hm] at hpre
              have HCALL := Lib.hid (HMRG.out wr q4 a m b HZ.out.2 (by omega) (by have := HAB.out; omega) hb hpre.1 hpre.2.1 hpre.2.2)
              clear hpre hm
              go_wp2_with (go_at_call 34; refine HCALL.out.mono ?_; rintro e w3 ⟨rfl, q5, a1, a2, a3⟩; have H3 := Lib.hid (And.intro a2 (And.intro a3 a1)); clear a1 a2 a3)
              go_roundg (n - b)
              case measure => have := HAB.out; omega
              case rel =>
                refine ⟨b, b + 2 * s, t + 1, _, rfl, by first | rfl | go_num, Lib.hid rfl, hb, rfl, Lib.hid (And.intro ?_ H3.out.2.2)⟩
                have e := HAB.out
                have h1 := H3.out.1
                have h2 := H3.out.2.1
                rw [e] at h1 h2 ⊢
                exact HZ.out.1.step (by omega) h1 h2
            · have hbz : ¬ (b : Int) ≤ (n : Int) := by omega
              have HFIN : Hid (∀ q5, Stb.Shuf a n q4 q5 → Stb.Sorted (ltS S) a n q5 → Stb.Blk (ltS S) n (2 * s) q5 ∧ Stb.Shuf 0 n id q5) := Lib.hid (fun q5 k1 k2 => HZ.out.1.fin (by have := HAB.out; omega) k1 k2)
              have hmz2 : (m : Int) ≤ 200000000 := by omega
              by_cases hmn : m < n
              · have hmnz : (m : Int) < (n : Int) := by omega
                have hpre := HZ.out.1.pre (Nat.le_refl n) (by omega) (by have := HAB.out; omega) (Or.inr rfl)
                rw [hm] at hpre
                have HCALL := Lib.hid (HMRG.out wr q4 a m n HZ.out.2 (by omega) hmn (Nat.le_refl _) hpre.1 hpre.2.1 hpre.2.2)
                clear hpre hm
                go_wp2_with (go_at_call 34; refine HCALL.out.mono ?_; rintro e w3 ⟨rfl, q5, a1, a2, a3⟩; have H3 := Lib.hid (And.intro (HFIN.out q5 a2 a3) a1); clear a1 a2 a3)
                go_roundg (n - (2 * s - 20))
                case measure => have := HSN.out; omega
                case rel => exact ⟨2 * s, _, by first | rfl | go_num | (congr 1; omega), by omega, by have := HSN.out; omega, rfl, by have := HSN.out; omega, Lib.hid (And.intro H3.out.1.1 (And.intro H3.out.1.2 H3.out.2))⟩
              · have hmnz : ¬ (m : Int) < (n : Int) := by omega
                have H3 := Lib.hid (And.intro (HFIN.out q4 (Stb.Shuf.refl _ _ _) (HZ.out.1.one (by omega))) HZ.out.2)
                clear hm
                go_wp2_with fail
                go_roundg (n - (2 * s - 20))
                case measure => have := HSN.out; omega
                case rel => exact ⟨2 * s, _, by first | rfl | go_num | (congr 1; omega), by omega, by have := HSN.out; omega, rfl, by have := HSN.out; omega, Lib.hid (And.intro H3.out.1.1 (And.intro H3.out.1.2 H3.out.2))⟩
        · have hsz : ¬ (s : Int) < (n : Int) := by omega
          have HS := Lib.hid (HY.out.1.all (by omega))
          go_wp2_with fail
          go_end0
          exact ⟨rfl, q3, HY.out.2.2, HY.out.2.1, HS.out⟩

set_option maxRecDepth 100000 in
theorem sort_any (w0 w : World) (P n eb c : Nat) (S : Nat → List UInt8) (hn : n ≤ 100000000) (hC : CmpOk w0 P eb S) (h : SA w0 P n S id w) :
    Calls Tryz.prog 14 #[.slice (some ⟨P, 0, none⟩) n c, cmpV eb] w fun e w' => e = .returned (.tuple #[]) ∧ ∃ q, SA w0 P n S q w' ∧ Stb.Shuf 0 n id q ∧ Stb.Sorted (ltS S) 0 n q := by
  have HC := Lib.hid (stable_any w0 w P n eb c S hn hC h)
  clear hC h
  go_enter Tryz.func14, Tryz.ntmps14
  go_wp2_with (go_at_call 27; refine HC.out.mono ?_; rintro e w2 ⟨rfl, q2, a1, a2, a3⟩; have H2 := Lib.hid (And.intro a1 (And.intro a2 a3)); clear a1 a2 a3)
  go_end0
  exact ⟨rfl, _, H2.out⟩
end Go.Proofs.YthcminjdkgmeoaaGreatDoor
