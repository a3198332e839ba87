/-
  The stable sort: two ranges exchanged.
-/
import Derived.Test.YthcminjdkgmeoaaGreatDoorSa
namespace Go.Proofs.YthcminjdkgmeoaaGreatDoor
open Go.RowKit
set_option linter.unusedVariables false

theorem wrap_small {x : Int} (h0 : 0 ≤ x) (h1 : x ≤ 1000000000) : IntKind.i64.wrap x = x := by
  rw [IntKind.wrap_i64]
  omega
set_option maxRecDepth 100000 in
set_option maxHeartbeats 2000000 in
theorem swr_any (w0 w : World) (P n : Nat) (S : Nat → List UInt8) (p : Nat → Nat) (a b m c : Nat) (F : Value) (h : SA w0 P n S p w) (hab : a + m ≤ b) (hb : b + m ≤ n) (hn : n ≤ 100000000) :
    Calls Tryz.prog 55 #[.slice (some ⟨P, 0, none⟩) n c, .int .i64 (a : Int), .int .i64 (b : Int), .int .i64 (m : Int), F] w fun e w' => e = .returned (.tuple #[]) ∧ SA w0 P n S (Stb.swp a b m p) w' := by
  have HS := Lib.hid h
  have hz : (a : Int) + (m : Int) ≤ (b : Int) ∧ (b : Int) + (m : Int) ≤ (n : Int) ∧ (n : Int) ≤ 100000000 := by omega
  clear h
  go_enter Tryz.func55, Tryz.ntmps55
  go_wp2_with fail
  go_loopg [10] m (fun gk s10 wr => ∃ i : Nat, s10 = .int .i64 (i : Int) ∧ i ≤ m ∧ gk = m - i ∧ Hid (SA w0 P n S (Stb.swp a b i p) wr))
  case atStart => exact ⟨0, rfl, Nat.zero_le _, rfl, Lib.hid (by rw [Stb.swp_zero]; exact HS.out)⟩
  case round =>
    obtain ⟨i, rfl, hi, rfl, HX⟩ := hrel
    by_cases hlt : i < m
    · have hkz : (i : Int) < (m : Int) := by omega
      obtain ⟨x, hx⟩ : ∃ x, a + i = x := ⟨_, rfl⟩
      obtain ⟨y, hy⟩ : ∃ y, b + i = y := ⟨_, rfl⟩
      have hwx : IntKind.i64.wrap ((a : Int) + (i : Int)) = (x : Int) := by rw [wrap_small (by omega) (by omega)]; omega
      have hwy : IntKind.i64.wrap ((b : Int) + (i : Int)) = (y : Int) := by rw [wrap_small (by omega) (by omega)]; omega
      have hxn : x < n := by omega
      have hyn : y < n := by omega
      have hxy : x ≠ y := by omega
      obtain ⟨q, hq⟩ : ∃ q, Stb.swp a b i p = q := ⟨_, rfl⟩
      have HQ : Hid (Stb.swap q x y = Stb.swp a b (i + 1) p) := Lib.hid (by rw [← hq, ← hx, ← hy]; exact Stb.swp_succ a b i p (by omega))
      rw [hq] at HX
      have cx := HX.out.cell hxn
      have cy := HX.out.cell hyn
      have fx := HX.out.frz x
      have fy := HX.out.frz y
      have hxz : (x : Int) < (n : Int) := by omega
      have hyz : (y : Int) < (n : Int) := by omega
      have HO := Lib.hid (HX.out.swap hxn hyn hxy)
      have HO2 := Lib.hid (HX.out.swap2 hxn hyn hxy)
      clear hx hy hq
      go_upto_region 3 with fail
      go_region_law (fail)
      all_goals
        go_wp2_with fail
        go_roundg (m - (i + 1))
        case measure => omega
        case rel => exact ⟨i + 1, by go_num, by omega, rfl, Lib.hid (by rw [← HQ.out]; first | exact HO.out.drew | exact HO2.out.drew | exact HO.out | exact HO2.out | exact (SA.swap HX.out.drew hxn hyn hxy) | exact (SA.swap2 HX.out.drew hxn hyn hxy))⟩
    · have hkz : ¬ (i : Int) < (m : Int) := by omega
      have e : i = m := by omega
      subst e
      go_wp2_with fail
      go_end0
      exact ⟨rfl, HX.out⟩
end Go.Proofs.YthcminjdkgmeoaaGreatDoor
