/-
  The law's own function answers true.
-/
import Derived.Test.YthcminjdkgmeoaaGreatDoorCfg
import Derived.Lib.Builder
import Derived.LaidEqlPtr
namespace Go.Proofs.YthcminjdkgmeoaaGreatDoor
open Go.RowKit
set_option linter.unusedVariables false

set_option maxRecDepth 100000 in
set_option maxHeartbeats 2000000 in
theorem lawI_any (v0 : Value) (ss : List ByteArray) (w : World) (hl : ss.length ≤ maxLen) (hs : ∀ i, i < ss.length → (ss.getD i ByteArray.empty).size ≤ maxLen) (h : StrsAt w v0 ss) :
    Calls Tryz.prog 3 #[v0] w fun e w' => e = .returned (.bool true) ∧ Below w.heap.size w w' := by
  have HBY := Lib.hid (bytes_any v0 ss w hl hs h)
  have HOF := Lib.hid (fun (h1 : ss.length ≤ 1048576) h2 => bytesOf_any v0 ss w h1 h2 h)
  have HCP := Lib.hid (fun (h1 : ss.length ≤ 1048576) => copy_any v0 ss w h1 h)
  have HST := Lib.hid h
  obtain ⟨ti, hti⟩ : ∃ j, Tryz.prog.info? 51 = some j := Option.isSome_iff_exists.1 (by kernel_rfl)
  have hne : ∀ (w : World) (a : Addr), (binOp .neq 27 (.pointer (some a)) (.pointer (some a))).run Tryz.prog w = .ok (.bool false) w := fun w a => Lib.run_neq_ptr_same w a Tryz.underlying27 hti
  have heq : ∀ (w : World) (a : Addr), (binOp .eql 27 (.pointer (some a)) (.pointer (some a))).run Tryz.prog w = .ok (.bool true) w := fun w a => run_eql_ptr_same w a Tryz.underlying27 hti
  clear hti
  clear hl hs h
  go_enter Tryz.func3, Tryz.ntmps3
  go_wp2_with (first
    | (go_at_call 4; refine HBY.out.mono ?_; rintro e w1 ⟨b, rfl, rfl, hb⟩; cases b)
    | (go_at_call 5; have HB := Lib.hid (hb (by trivial)); clear hb; refine (HOF.out HB.out.1 HB.out.2).mono ?_; rintro e w1 ⟨x, rfl, rfl, hx⟩; clear hx; by_cases hxb : (1048576 : Int) < (x : Int))
    | (go_at_call 6; refine (HCP.out HB.out.1).mono ?_; rintro e w2 hcp; obtain ⟨v1, rfl, hsl, hbl⟩ := hcp.at; have HSL := Lib.hid hsl; have HBL := Lib.hid hbl; obtain ⟨ao, c, hv, hP⟩ := hsl; subst hv; have HP := Lib.hid hP; clear hP hbl hcp))
  · go_ret
    exact ⟨rfl, Below.refl _ _⟩
  · go_ret
    exact ⟨rfl, Below.refl _ _⟩
  have hlz : (0 : Int) ≤ (ss.length : Int) ∧ (ss.length : Int) ≤ 1048576 := by have := HB.out.1; omega
  clear hxb
  go_loopg [3, 4] ss.length (fun gk s3 s4 wr => ∃ (k : Nat) (x : ByteArray), w2 = wr ∧ k ≤ ss.length ∧ gk = ss.length - k ∧ s3 = .string x ∧ s4 = .int .i64 k ∧ Hid (x = wantK ss k))
  case atStart => exact ⟨0, _, rfl, Nat.zero_le _, rfl, rfl, rfl, Lib.hid rfl⟩
  case round =>
    obtain ⟨k, x, rfl, hk, rfl, rfl, rfl, HX⟩ := hrel
    by_cases hlt : k < ss.length
    · have hkz : (k : Int) < (ss.length : Int) := by omega
      obtain ⟨P, rfl, hc⟩ := HP.out (by omega)
      have hcell := hc k hlt
      have hsz := HB.out.2 k hlt
      have hh := fun w => has_any (ss.getD k ByteArray.empty) w hsz
      have HIT := Lib.hid (wantK_hit (ss := ss) hlt)
      have HMISS := Lib.hid (wantK_miss (ss := ss) hlt)
      have HSH := Lib.hid (key_short (ss.getD k ByteArray.empty))
      unfold HasOut at hh
      obtain ⟨s, hs⟩ : ∃ s, ss.getD k ByteArray.empty = s := ⟨_, rfl⟩
      rw [hs] at hcell hh HIT HMISS HSH
      have HH := Lib.hid hh
      clear hc hsz hh hs
      by_cases hkey : Stb.key s.data.toList = ifsL ++ [61]
      · have HK := Lib.hid hkey
        have h4 : (4 : Int) ≤ (s.size : Int) := by
          have : ¬ s.size < 4 := fun h => HSH.out h hkey
          omega
        clear hkey
        go_wp2_with (go_at_call 7; refine (HH.out _).mono ?_; rintro e w3 ⟨b, rfl, rfl, hb⟩; obtain rfl : b = true := hb.2 HK.out; clear hb)
        go_roundg (ss.length - (k + 1))
        case measure => omega
        case rel => exact ⟨k + 1, _, rfl, by omega, rfl, rfl, by first | rfl | simp, Lib.hid (HIT.out HK.out).symm⟩
      · have HK := Lib.hid hkey
        clear hkey
        go_wp2_with (go_at_call 7; refine (HH.out _).mono ?_; rintro e w3 ⟨b, rfl, rfl, hb⟩; obtain rfl : b = false := (by cases b; rfl; exact absurd (hb.1 rfl) HK.out); clear hb)
        go_roundg (ss.length - (k + 1))
        case measure => omega
        case rel => exact ⟨k + 1, x, rfl, by omega, rfl, rfl, by first | rfl | simp, Lib.hid (HX.out.trans (HMISS.out HK.out).symm)⟩
    · obtain rfl : k = ss.length := by omega
      have HW := Lib.hid (HX.out.trans (wantK_all ss))
      have HNEW := Lib.hid (newCfg_any ss HB.out.1 HB.out.2 (.slice ao ss.length c) w2 HSL.out)
      clear HX
      go_wp2_with (first
        | (go_at_call 8; refine HNEW.out.mono ?_; rintro e w3 ⟨v, R, b, rfl, a1, a2, a3, a4, a5, a6, a7⟩
           have HE := Lib.hid a2
           have HC := Lib.hid a1
           have HBB := Lib.hid (HBL.out.trans (a7.mono HBL.out.size))
           have HBG := Lib.hid (Nat.le_trans HBL.out.size a6)
           have HPREP := Lib.hid (fun (old : ByteArray) (w : World) hE hC => prepCfg_any (lists ss) R a3 (by omega) a5 v old b w hE hC)
           have hfd : ifsOf (Stb.fnd (ifsL ++ [61]) R) = x := by rw [a3.fnd]; exact HW.out.symm
           unfold PrepOut at HPREP
           rw [hfd] at HPREP
           clear a1 a2 a3 a4 a5 a6 a7 hfd)
        | (go_at_call 9; refine (HPREP.out _ _ HE.out HC.out).mono ?_; rintro e w4 ⟨rfl, a1, a2, a3⟩
           have HBN := Lib.hid (HBB.out.grown a3 HBB.out.size (fun k hk => by obtain rfl := Option.some.inj hk; exact HBG.out))
           clear HBB HE HC
           have HBB := HBN
           clear HBN
           have HE := Lib.hid a2
           have HC := Lib.hid a1
           clear a1 a2 a3)
        | (go_at_call 10; refine (ifsOf_any _ x _ HC.out.c25).mono ?_; rintro e w5 ⟨rfl, rfl⟩))
      go_ret
      exact ⟨rfl, HBB.out⟩
end Go.Proofs.YthcminjdkgmeoaaGreatDoor
