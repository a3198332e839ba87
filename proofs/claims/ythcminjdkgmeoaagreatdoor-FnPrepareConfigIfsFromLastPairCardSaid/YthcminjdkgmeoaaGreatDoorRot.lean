/-
  The stable sort: a rotation.
-/
import Derived.Test.YthcminjdkgmeoaaGreatDoorSwr
namespace Go.Proofs.YthcminjdkgmeoaaGreatDoor
open Go.RowKit
set_option linter.unusedVariables false

set_option maxRecDepth 100000 in
set_option maxHeartbeats 2000000 in
theorem rot_any (w0 w : World) (P n : Nat) (S : Nat → List UInt8) (p : Nat → Nat) (a m b c : Nat) (F : Value) (h : SA w0 P n S p w) (ham : a < m) (hmb : m < b) (hb : b ≤ n) (hn : n ≤ 100000000) :
    Calls Tryz.prog 44 #[.slice (some ⟨P, 0, none⟩) n c, .int .i64 (a : Int), .int .i64 (m : Int), .int .i64 (b : Int), F] w fun e w' => e = .returned (.tuple #[]) ∧ SA w0 P n S (Stb.rotF a m b p) w' := by
  have H0 := Lib.hid (And.intro (Stb.RotI.start (p := p) ham hmb) h)
  have HC := Lib.hid (fun (w1 : World) (q : Nat → Nat) (x y k : Nat) (h : SA w0 P n S q w1) (h1 : x + k ≤ y) (h2 : y + k ≤ n) => swr_any w0 w1 P n S q x y k c F h h1 h2 hn)
  have hz : (a : Int) < (m : Int) ∧ (m : Int) < (b : Int) ∧ (b : Int) ≤ (n : Int) ∧ (n : Int) ≤ 100000000 := by omega
  have e1 : (m : Int) - (a : Int) = ((m - a : Nat) : Int) := by omega
  have e2 : (b : Int) - (m : Int) = ((b - m : Nat) : Int) := by omega
  have HE1 := Lib.hid e1
  have HE2 := Lib.hid e2
  clear h e1 e2
  go_enter Tryz.func44, Tryz.ntmps44
  go_wp2_with fail
  go_loopg [10, 11] (b - a) (fun gk s10 s11 wr => ∃ (i j : Nat) (q : Nat → Nat), s10 = .int .i64 (i : Int) ∧ s11 = .int .i64 (j : Int) ∧ gk = i + j ∧ Hid (Stb.RotI a m b i j p q ∧ SA w0 P n S q wr))
  case atStart => exact ⟨m - a, b - m, p, by rw [HE1.out], by rw [HE2.out], by omega, H0⟩
  case round =>
    obtain ⟨i, j, q, rfl, rfl, rfl, HX⟩ := hrel
    have hI := HX.out.1
    have b1 := hI.i0
    have b2 := hI.j0
    have b3 := hI.ia
    have b4 := hI.jb
    have hb1 : (0 : Int) < (i : Int) ∧ (i : Int) ≤ (m : Int) ∧ (0 : Int) < (j : Int) ∧ (m : Int) + (j : Int) ≤ (n : Int) := by omega
    have e0 : (m : Int) - (i : Int) = ((m - i : Nat) : Int) := by omega
    rcases Nat.lt_trichotomy i j with hc | hc | hc
    · have hne : ¬ (i : Int) = (j : Int) := by omega
      have hlt : ¬ (j : Int) < (i : Int) := by omega
      have e3 : (m : Int) + (j : Int) - (i : Int) = ((m + j - i : Nat) : Int) := by omega
      have HD : Hid (Calls Tryz.prog 55 #[.slice (some ⟨P, 0, none⟩) n c, .int .i64 ((m : Int) - (i : Int)), .int .i64 ((m : Int) + (j : Int) - (i : Int)), .int .i64 (i : Int), F] wr fun e w' => e = .returned (.tuple #[]) ∧ SA w0 P n S (Stb.swp (m - i) (m + j - i) i q) w') := Lib.hid (by
        rw [e0, e3]
        exact HC.out wr q (m - i) (m + j - i) i HX.out.2 (by omega) (by omega))
      have HN := Lib.hid (hI.right hc)
      clear hI b1 b2 b3 b4 e0 e3
      go_wp2_with (go_at_call 55; refine HD.out.mono ?_; rintro e w2 ⟨rfl, a1⟩; have H2 := Lib.hid (And.intro HN.out a1); clear a1)
      go_roundg (i + (j - i))
      case measure => omega
      case rel => exact ⟨i, j - i, _, rfl, by go_num, rfl, H2⟩
    · subst hc
      have HD : Hid (Calls Tryz.prog 55 #[.slice (some ⟨P, 0, none⟩) n c, .int .i64 ((m : Int) - (i : Int)), .int .i64 (m : Int), .int .i64 (i : Int), F] wr fun e w' => e = .returned (.tuple #[]) ∧ SA w0 P n S (Stb.rotF a m b p) w') := Lib.hid (by
        rw [e0, ← hI.fin]
        exact HC.out wr q (m - i) m i HX.out.2 (by omega) (by omega))
      clear hI b1 b2 b3 b4 e0
      go_wp2_with (go_at_call 55; refine HD.out.mono ?_; rintro e w2 ⟨rfl, a1⟩; have H2 := Lib.hid a1; clear a1)
      go_end0
      exact ⟨rfl, H2.out⟩
    · have hne : ¬ (i : Int) = (j : Int) := by omega
      have hlt : (j : Int) < (i : Int) := by omega
      have HD : Hid (Calls Tryz.prog 55 #[.slice (some ⟨P, 0, none⟩) n c, .int .i64 ((m : Int) - (i : Int)), .int .i64 (m : Int), .int .i64 (j : Int), F] wr fun e w' => e = .returned (.tuple #[]) ∧ SA w0 P n S (Stb.swp (m - i) m j q) w') := Lib.hid (by
        rw [e0]
        exact HC.out wr q (m - i) m j HX.out.2 (by omega) (by omega))
      have HN := Lib.hid (hI.left hc)
      clear hI b1 b2 b3 b4 e0
      go_wp2_with (go_at_call 55; refine HD.out.mono ?_; rintro e w2 ⟨rfl, a1⟩; have H2 := Lib.hid (And.intro HN.out a1); clear a1)
      go_roundg (i - j + j)
      case measure => omega
      case rel => exact ⟨i - j, j, _, by go_num, rfl, rfl, H2⟩
end Go.Proofs.YthcminjdkgmeoaaGreatDoor
