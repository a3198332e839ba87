/-
  The walks: an environment out of one pair, and what IFS reads as in it.
-/
import Derived.Test.YthcminjdkgmeoaaGreatDoorSa
import Derived.Deep.DeepMust
import Derived.Handy
import Derived.Laws.Cover4
import Derived.Laws.EntriesVeiled
import Derived.Laws.IdiomStrings
import Derived.Lib.OthersKept
import Derived.WalkLawsBesides
import Derived.WalkSpells
import Derived.Test.YthcminjdkgmeoaaGreatDoorShelf
namespace Go.Proofs.YthcminjdkgmeoaaGreatDoor
open Go.RowKit

/-- Where the first '=' stands (at the end: there is none). -/
def eqPos (s : ByteArray) : Nat := (s.data.toList.takeWhile (fun c => c.toNat != 61)).length

theorem eqPos_le (s : ByteArray) : eqPos s ≤ s.size := by
  unfold eqPos
  have := (List.takeWhile_prefix (fun c : UInt8 => c.toNat != 61) (l := s.data.toList)).length_le
  simpa using this

theorem eqPos_before (s : ByteArray) (k : Nat) (h : k < eqPos s) : ∃ h' : k < s.size, ¬ (s[k]'h').toNat = 61 := by
  have hle := eqPos_le s
  refine ⟨by omega, ?_⟩
  unfold eqPos at h
  have hp := List.takeWhile_prefix (fun c : UInt8 => c.toNat != 61) (l := s.data.toList)
  have he : (s.data.toList.takeWhile (fun c => c.toNat != 61))[k] = s.data.toList[k]'(by have := hp.length_le; omega) := hp.getElem h
  have hm : (s.data.toList.takeWhile (fun c => c.toNat != 61))[k] ∈ s.data.toList.takeWhile (fun c => c.toNat != 61) := List.getElem_mem h
  have := List.all_eq_true.1 (List.all_takeWhile (l := s.data.toList) (p := fun c => c.toNat != 61)) _ hm
  rw [he] at this
  simpa [ByteArray.getElem_eq_getElem_data] using this

theorem eqPos_at (s : ByteArray) (h : eqPos s < s.size) : (s[eqPos s]'h).toNat = 61 := by
  have hl : (s.data.toList.takeWhile (fun c => c.toNat != 61)).length < s.data.toList.length := by simpa [eqPos] using h
  have hd := List.head?_dropWhile_not (fun c : UInt8 => c.toNat != 61) s.data.toList
  have ha := List.takeWhile_append_dropWhile (p := fun c : UInt8 => c.toNat != 61) (l := s.data.toList)
  have hg : s.data.toList[(s.data.toList.takeWhile (fun c => c.toNat != 61)).length]? = (s.data.toList.dropWhile (fun c => c.toNat != 61)).head? := by
    conv => lhs; rw [← ha]
    rw [List.getElem?_append_right (by simp), ha, Nat.sub_self, List.head?_eq_getElem?]
  have e : s.data.toList[(s.data.toList.takeWhile (fun c => c.toNat != 61)).length]? = some (s[eqPos s]'h) := by
    rw [List.getElem?_eq_getElem hl]
    simp [eqPos, ByteArray.getElem_eq_getElem_data]
  rw [e] at hg
  rw [← hg] at hd
  simpa using hd

theorem extract_one (s : ByteArray) (k : Nat) (h : k < s.size) : (s.extract k (k + 1)).toList = [s[k]] := by
  rw [Lib.toList_data, Lib.extract_data, show k + 1 - k = 1 from by omega]
  have hk : k < s.data.toList.length := by simpa using h
  rw [List.drop_eq_getElem_cons hk]
  simp [ByteArray.getElem_eq_getElem_data]

theorem extract_is (s : ByteArray) (k : Nat) (h : k < s.size) (hc : (s[k]'h).toNat = 61) : ((s.extract k (k + 1)).toList == [61]) = true := by
  rw [extract_one s k h]
  have : s[k] = 61 := by apply UInt8.toNat_inj.1; exact hc
  rw [this]
  rfl
theorem extract_not (s : ByteArray) (k : Nat) (h : k < s.size) (hc : ¬ (s[k]'h).toNat = 61) : ((s.extract k (k + 1)).toList == [61]) = false := by
  rw [extract_one s k h]
  have : ¬ s[k] = 61 := fun e => hc (by rw [e]; rfl)
  simp [this]

/-- The first '=' of a text, as the search hands it back. -/
def eqIdx (s : ByteArray) : Int := if eqPos s < s.size then (eqPos s : Int) else -1
theorem eqIdx_hit {s : ByteArray} {k : Nat} (hk : k < s.size) (h : k = eqPos s) : (k : Int) = eqIdx s := by unfold eqIdx; rw [if_pos (by omega), h]
theorem eqIdx_miss {s : ByteArray} (h : ¬ eqPos s < s.size) : (-1 : Int) = eqIdx s := by unfold eqIdx; rw [if_neg h]
theorem ret_int {k : IntKind} {a b : Int} (h : a = b) : Ending.returned (.int k a) = .returned (.int k b) := by rw [h]

set_option maxRecDepth 100000 in
set_option maxHeartbeats 1000000 in
/-- The first '=' of a text. -/
theorem index_any1 (s : ByteArray) (w : World) (hs : s.size ≤ 4194304) :
    Calls Tryz.prog 31 #[.string s, .string ⟨#[61]⟩] w fun e w' => e = .returned (.int .i64 (eqIdx s)) ∧ w' = w := by
  have hle := eqPos_le s
  go_enter Tryz.func31, Tryz.ntmps31
  go_wp2
  go_loop [5] (fun i => ∃ k : Nat, k ≤ eqPos s ∧ i = .int .i64 k) (fun i => s.size - (intOf i).toNat)
  case atStart => exact ⟨0, Nat.zero_le _, rfl⟩
  case round =>
    obtain ⟨k, hk, rfl⟩ := hrel
    by_cases hlt : k < s.size
    · by_cases he : k = eqPos s
      · have hf := extract_is s k hlt (by have := eqPos_at s (by omega); simpa [he] using this)
        have HE := Lib.hid he
        clear he
        go_wp2
        go_ret
        exact ⟨ret_int (eqIdx_hit hlt HE.out), rfl⟩
      · obtain ⟨_, hne⟩ := eqPos_before s k (by omega)
        have hf := extract_not s k hlt hne
        clear hne
        go_wp2
        go_round
        case rel => exact ⟨k + 1, by omega, by go_num⟩
        case measure => simp [intOf]; omega
    · go_wp2
      go_ret
      exact ⟨ret_int (eqIdx_miss (by omega)), rfl⟩

set_option maxRecDepth 100000 in
set_option maxHeartbeats 1000000 in
/-- A text cut at its first '='. -/
theorem cut_hit (s : ByteArray) (w : World) (hs : s.size ≤ 4194304) (h : eqPos s < s.size) :
    Calls Tryz.prog 18 #[.string s, .string ⟨#[61]⟩] w fun e w' => e = .returned (.tuple #[.string (s.extract 0 (eqPos s)), .string (s.extract (eqPos s + 1) s.size), .bool true]) ∧ ∃ n, w' = w.drewN n := by
  have hc := index_any1 s w hs
  rw [← eqIdx_hit h rfl] at hc
  have HC := Lib.hid hc
  clear hc
  have h0 : (0 : Int) ≤ (eqPos s : Int) := by omega
  have h1 : (eqPos s : Int) ≤ (s.size : Int) := by omega
  have h2 : (eqPos s : Int) + 1 ≤ (s.size : Int) := by omega
  go_enter Tryz.func18, Tryz.ntmps18
  go_wp2_with (go_at_call 31; refine (HC.out).mono ?_; rintro e w' ⟨rfl, hw⟩; subst w')
  go_quiet (fail)
  go_wp2
  go_ret3
  exact ⟨rfl, _, rfl⟩

set_option maxRecDepth 100000 in
set_option maxHeartbeats 1000000 in
theorem cut_miss (s : ByteArray) (w : World) (hs : s.size ≤ 4194304) (h : ¬ eqPos s < s.size) :
    Calls Tryz.prog 18 #[.string s, .string ⟨#[61]⟩] w fun e w' => e = .returned (.tuple #[.string s, .string ByteArray.empty, .bool false]) ∧ w' = w := by
  have hc := index_any1 s w hs
  rw [← eqIdx_miss h] at hc
  have HC := Lib.hid hc
  clear hc
  go_enter Tryz.func18, Tryz.ntmps18
  go_wp2_with (go_at_call 31; refine (HC.out).mono ?_; rintro e w' ⟨rfl, hw⟩; subst w')
  go_ret3
  exact ⟨rfl, rfl⟩

set_option maxRecDepth 100000 in
set_option maxHeartbeats 1000000 in
/-- The environment's own comparison, names as they are. -/
theorem compare_any (v : Value) (a b : ByteArray) (w : World) :
    Calls Tryz.prog 17 #[.agg #[.bool false, v], .string a, .string b] w fun e w' => e = .returned (.int .i64 (Lib.compareBytes a.data.toList b.data.toList)) ∧ Below w.heap.size w w' := by
  go_enter Tryz.func17, Tryz.ntmps17
  go_wp2_with (go_at_call 30; refine (Tryz.strings_Compare _ _ _).mono ?_; rintro e w' ⟨rfl, hw⟩; subst w')
  go_ret
  exact ⟨rfl, (Below.refl _ _).alloc (Nat.le_refl _) _⟩
end Go.Proofs.YthcminjdkgmeoaaGreatDoor
