/-
  The second law's small functions: zzAllAlnum, the size test, Unwrap.
-/
import Derived.Test.YthohfanojaiedaaFmtLawB
import Derived.Test.YthohfanojaiedaaFmtRegBad
namespace Go.Proofs.YthohfanojaiedaaFmt
open Go.RowKit

/-- Letters and digits alone. -/
def allAl (s : ByteArray) : Bool := s.data.toList.all fun c => isAl c.toNat
theorem allAl_at {s : ByteArray} (h : allAl s = true) (k : Nat) (hk : k < s.size) : isAl (bt s k) = true := by
  unfold allAl at h
  rw [List.all_eq_true] at h
  have hk2 : k < s.data.toList.length := by simpa using hk
  have := h (s.data.toList[k]) (List.getElem_mem hk2)
  unfold bt
  rw [List.getD, List.getElem?_eq_getElem hk2]
  exact this
theorem allAl_no {s : ByteArray} (h : ∀ k, k < s.size → isAl (bt s k) = true) : allAl s = true := by
  unfold allAl
  rw [List.all_eq_true]
  intro c hc
  obtain ⟨k, hk, rfl⟩ := List.mem_iff_getElem.1 hc
  have hk2 : k < s.size := by simpa using hk
  have := h k hk2
  unfold bt at this
  rw [List.getD, List.getElem?_eq_getElem hk] at this
  exact this

set_option maxRecDepth 100000 in
theorem allAlnum_any (s : ByteArray) (w : World) (hs : s.size ≤ 65536) : Calls Tryf.prog 10 #[.string s] w fun e w' => e = .returned (.bool (allAl s)) ∧ w = w' := by
  have hz : (s.size : Int) ≤ 65536 := by omega
  obtain ⟨r, hr⟩ : ∃ r, allAl s = r := ⟨_, rfl⟩
  rw [hr]
  have HR := Lib.hid hr
  clear hr
  go_enter Tryf.func10, Tryf.ntmps10
  go_wp2_with fail
  go_loopg [3] s.size (fun gk s3 wr => ∃ k : Nat, k ≤ s.size ∧ gk = s.size - k ∧ s3 = .int .i64 k ∧ wr = w ∧ Hid (∀ j, j < k → isAl (bt s j) = true))
  case atStart => exact ⟨0, Nat.zero_le _, rfl, rfl, rfl, Lib.hid (fun j hj => by omega)⟩
  case round =>
    obtain ⟨k, hk, rfl, rfl, rfl, hall⟩ := hrel
    by_cases hlt : k < s.size
    · have hkz : (k : Int) < (s.size : Int) := by omega
      have hg := bt_get s k hlt
      obtain ⟨x, hx⟩ : ∃ x, bt s k = x := ⟨_, rfl⟩
      rw [hx] at hg
      have hgx : (s[k]'hlt).toNat = x := hg.symm
      have HX := Lib.hid hx
      clear hg hx
      cases hal : isAl x
      · have HAL := Lib.hid (fun W => alnum_no hal W)
        have hrf : r = false := by
          rw [← HR.out, Bool.eq_false_iff]
          intro h
          have := allAl_at h k hlt
          rw [HX.out, hal] at this
          cases this
        subst hrf
        clear hal
        go_wp2_with (go_at_call 11; refine (HAL.out _).mono ?_; rintro e w' ⟨rfl, rfl⟩)
        go_ret
        exact ⟨rfl, rfl⟩
      · have HAL := Lib.hid (fun W => alnum_yes hal W)
        have HY := Lib.hid hal
        clear hal
        go_wp2_with (go_at_call 11; refine (HAL.out _).mono ?_; rintro e w' ⟨rfl, rfl⟩)
        go_roundg (s.size - (k + 1))
        case measure => omega
        case rel => exact ⟨k + 1, by omega, rfl, by go_num, rfl, Lib.hid (fun j hj => by
          by_cases e : j = k
          · rw [e, HX.out]; exact HY.out
          · exact hall.out j (by omega))⟩
    · obtain rfl : k = s.size := by omega
      have hrt : r = true := by rw [← HR.out]; exact allAl_no hall.out
      subst hrt
      clear hall
      go_wp2
      go_ret
      exact ⟨rfl, rfl⟩

theorem bytesO_yes (s : ByteArray) (a b m : Int) (w : World) (hs : s.size ≤ 1048576) : Calls Tryf.prog 9 #[.string s, .int .u8 a, .int .u8 b, .int .u64 m] w fun e w' => e = .returned (.bool true) ∧ w = w' := by
  have hz : (s.size : Int) ≤ 1048576 := by omega
  clear hs
  go_enter Tryf.func9, Tryf.ntmps9
  go_wp2
  go_ret
  exact ⟨rfl, rfl⟩
theorem bytesO_no (s : ByteArray) (a b m : Int) (w : World) (hs : 1048576 < s.size) : Calls Tryf.prog 9 #[.string s, .int .u8 a, .int .u8 b, .int .u64 m] w fun e w' => e = .returned (.bool false) ∧ w = w' := by
  have hz : (1048576 : Int) < (s.size : Int) := by omega
  clear hs
  go_enter Tryf.func9, Tryf.ntmps9
  go_wp2
  go_ret
  exact ⟨rfl, rfl⟩

theorem unwrap_any (t : ByteArray) (w : World) : Calls Tryf.prog 13 #[.agg #[.string t, .nilIface]] w fun e w' => e = .returned .nilIface ∧ Below w.heap.size w w' := by
  go_enter Tryf.func13, Tryf.ntmps13
  go_wp2
  go_ret
  exact ⟨rfl, (Below.refl _ _).alloc (Nat.le_refl _) _⟩
end Go.Proofs.YthohfanojaiedaaFmt
