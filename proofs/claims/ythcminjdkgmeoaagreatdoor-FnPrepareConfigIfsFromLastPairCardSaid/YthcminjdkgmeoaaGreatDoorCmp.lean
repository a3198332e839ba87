/-
  The comparison of two pairs by their names.
-/
import Derived.Test.YthcminjdkgmeoaaGreatDoorEnv
import Derived.Test.YthcminjdkgmeoaaGreatDoorIns
import Derived.Lib.IndexLaws
namespace Go.Proofs.YthcminjdkgmeoaaGreatDoor
open Go.RowKit
set_option linter.unusedVariables false

theorem eqP_cons (b : UInt8) (r : List UInt8) : Stb.eqP (b :: r) = if b.toNat = 61 then 0 else Stb.eqP r + 1 := by
  unfold Stb.eqP
  rw [List.takeWhile_cons]
  by_cases h : b.toNat = 61
  · simp [h]
  · simp [h]
theorem idx_eq : ∀ l : List UInt8, Lib.indexByte l 61 = if Stb.eqP l < l.length then (Stb.eqP l : Int) else -1
  | [] => rfl
  | b :: r => by
    rw [Lib.indexByte, eqP_cons, idx_eq r]
    by_cases h : b.toNat = 61
    · have e : b = 61 := UInt8.toNat_inj.1 h
      subst e
      simp
    · have e : (b == 61) = false := by
        rw [beq_eq_false_iff_ne]
        intro e
        exact h (by rw [e]; rfl)
      rw [e, if_neg h, List.length_cons]
      by_cases c : Stb.eqP r < r.length
      · have c2 : Stb.eqP r + 1 < r.length + 1 := by omega
        have c3 : ((Stb.eqP r : Int) == -1) = false := by simp
        simp only [if_pos c, if_pos c2, c3, Bool.false_eq_true, if_false]
        all_goals (first | rfl | omega)
      · have c2 : ¬ Stb.eqP r + 1 < r.length + 1 := by omega
        simp [if_neg c]
theorem len_size (s : ByteArray) : s.data.toList.length = s.size := by rw [Array.length_toList]; rfl
theorem ext_list (s : ByteArray) (n : Nat) : (s.extract 0 n).data.toList = s.data.toList.take n := by
  rw [Lib.extract_data]
  simp
/-- The first '=' of a text, or -1. -/
def posI (s : ByteArray) : Int := if Stb.eqP s.data.toList < s.size then (Stb.eqP s.data.toList : Int) else -1
theorem ib_any (s : ByteArray) (w : World) : Calls Tryz.prog 16 #[.string s, .int .u8 61] w fun e w' => e = .returned (.int .i64 (posI s)) ∧ w' = w := by
  refine (Tryz.strings_IndexByte s 61 w).mono ?_
  rintro e w' ⟨rfl, rfl⟩
  refine ⟨?_, rfl⟩
  have h : Lib.indexByte s.data.toList ((61 : Int).toNat.toUInt8) = posI s := by
    rw [show ((61 : Int).toNat.toUInt8) = (61 : UInt8) from rfl, idx_eq, len_size]
    rfl
  rw [h]
/-- Where the name ends, its '=' with it. -/
def cutN (s : ByteArray) : Nat := if Stb.eqP s.data.toList < s.size then Stb.eqP s.data.toList + 1 else 0
theorem cut_key (s : ByteArray) : s.data.toList.take (cutN s) = Stb.key s.data.toList := by
  unfold cutN Stb.key
  rw [len_size]
  split
  · rfl
  · rfl
theorem pos_cases (s : ByteArray) (hs : s.size ≤ 4194304) : (∃ k : Nat, posI s = (k : Int) ∧ cutN s = k + 1 ∧ k + 1 ≤ s.size) ∨ (posI s = -1 ∧ cutN s = 0) := by
  unfold posI cutN
  by_cases h : Stb.eqP s.data.toList < s.size
  · exact Or.inl ⟨_, by rw [if_pos h], by rw [if_pos h], by omega⟩
  · exact Or.inr ⟨by rw [if_neg h], by rw [if_neg h]⟩

theorem cmp_ret {A B C D : List UInt8} (h1 : A = C) (h2 : B = D) : Ending.returned (.int .i64 (Lib.compareBytes A B)) = Ending.returned (.int .i64 (Lib.compareBytes C D)) := by rw [h1, h2]
set_option maxRecDepth 100000 in
set_option maxHeartbeats 2000000 in
theorem cmpf_any (eb : Nat) (s t : ByteArray) (hs : s.size ≤ 4194304) (ht : t.size ≤ 4194304) (w : World) (c0 : w.cell? ⟨eb, 0, none⟩ = some (.bool false)) (c1 : w.cell? ⟨eb, 1, none⟩ = some (.slice none 0 0)) :
    Calls Tryz.prog 15 #[.string s, .string t, .pointer (some ⟨eb, 0, none⟩)] w fun e w' => e = .returned (.int .i64 (Lib.compareBytes (Stb.key s.data.toList) (Stb.key t.data.toList))) ∧ Below w.heap.size w w' := by
  have HIB := Lib.hid ib_any
  have HCC := Lib.hid (fun (x y : ByteArray) (w : World) => compare_any (.slice none 0 0) x y w)
  have HK := Lib.hid (And.intro (cut_key s) (cut_key t))
  obtain ⟨i, hi⟩ : ∃ i, posI s = i := ⟨_, rfl⟩
  obtain ⟨j, hj⟩ : ∃ j, posI t = j := ⟨_, rfl⟩
  have hps := pos_cases s hs
  have hpt := pos_cases t ht
  have HS := Lib.hid (ib_any s)
  have HT := Lib.hid (ib_any t)
  rw [hi] at hps HS
  rw [hj] at hpt HT
  obtain ⟨hsz, htz⟩ : (s.size : Int) ≤ 4194304 ∧ (t.size : Int) ≤ 4194304 := by omega
  clear HIB hi hj
  rcases hps with ⟨k, rfl, hcs, hks⟩ | ⟨rfl, hcs⟩ <;> rcases hpt with ⟨m, rfl, hct, hmt⟩ | ⟨rfl, hct⟩
  all_goals
    have HCS := Lib.hid hcs
    have HCT := Lib.hid hct
    clear hcs hct
  · have HA : Hid (s.data.toList.take (k + 1) = Stb.key s.data.toList) := Lib.hid (by rw [← HK.out.1, HCS.out])
    have HB : Hid (t.data.toList.take (m + 1) = Stb.key t.data.toList) := Lib.hid (by rw [← HK.out.2, HCT.out])
    obtain ⟨h1, h3⟩ : (k : Int) + 1 ≤ (s.size : Int) ∧ (0 : Int) ≤ (k : Int) + 1 := by omega
    obtain ⟨h2, h4⟩ : (m : Int) + 1 ≤ (t.size : Int) ∧ (0 : Int) ≤ (m : Int) + 1 := by omega
    have h5 : ¬ (k : Int) < 0 := by omega
    have h6 : ¬ (m : Int) < 0 := by omega
    go_enter Tryz.func15, Tryz.ntmps15
    go_upto_region 9 with (first | (go_at_call 16; refine (HS.out _).mono ?_; rintro e w1 ⟨rfl, rfl⟩; clear HS) | (go_at_call 16; refine (HT.out _).mono ?_; rintro e w2 ⟨rfl, rfl⟩; clear HT))
    go_region_law (go_simp; go_at_call 17; refine (HCC.out _ _ _).mono ?_; rintro e w3 ⟨rfl, hb4⟩)
    all_goals
      go_wp2_with fail
      go_ret
      exact ⟨cmp_ret HA.out HB.out, below_of_drew hb4⟩
  · have HA : Hid (s.data.toList.take (k + 1) = Stb.key s.data.toList) := Lib.hid (by rw [← HK.out.1, HCS.out])
    have HB : Hid ([] = Stb.key t.data.toList) := Lib.hid (by rw [← HK.out.2, HCT.out]; rfl)
    obtain ⟨h1, h3⟩ : (k : Int) + 1 ≤ (s.size : Int) ∧ (0 : Int) ≤ (k : Int) + 1 := by omega
    have h5 : ¬ (k : Int) < 0 := by omega
    go_enter Tryz.func15, Tryz.ntmps15
    go_upto_region 9 with (first | (go_at_call 16; refine (HS.out _).mono ?_; rintro e w1 ⟨rfl, rfl⟩; clear HS) | (go_at_call 16; refine (HT.out _).mono ?_; rintro e w2 ⟨rfl, rfl⟩; clear HT))
    go_region_law (go_simp; go_at_call 17; refine (HCC.out _ _ _).mono ?_; rintro e w3 ⟨rfl, hb4⟩)
    all_goals
      go_wp2_with fail
      go_ret
      exact ⟨cmp_ret HA.out HB.out, below_of_drew hb4⟩
  · have HA : Hid ([] = Stb.key s.data.toList) := Lib.hid (by rw [← HK.out.1, HCS.out]; rfl)
    have HB : Hid (t.data.toList.take (m + 1) = Stb.key t.data.toList) := Lib.hid (by rw [← HK.out.2, HCT.out])
    obtain ⟨h2, h4⟩ : (m : Int) + 1 ≤ (t.size : Int) ∧ (0 : Int) ≤ (m : Int) + 1 := by omega
    have h6 : ¬ (m : Int) < 0 := by omega
    go_enter Tryz.func15, Tryz.ntmps15
    go_upto_region 9 with (first | (go_at_call 16; refine (HS.out _).mono ?_; rintro e w1 ⟨rfl, rfl⟩; clear HS) | (go_at_call 16; refine (HT.out _).mono ?_; rintro e w2 ⟨rfl, rfl⟩; clear HT))
    go_region_law (go_simp; go_at_call 17; refine (HCC.out _ _ _).mono ?_; rintro e w3 ⟨rfl, hb4⟩)
    all_goals
      go_wp2_with fail
      go_ret
      exact ⟨cmp_ret HA.out HB.out, below_of_drew hb4⟩
  · have HA : Hid ([] = Stb.key s.data.toList) := Lib.hid (by rw [← HK.out.1, HCS.out]; rfl)
    have HB : Hid ([] = Stb.key t.data.toList) := Lib.hid (by rw [← HK.out.2, HCT.out]; rfl)
    go_enter Tryz.func15, Tryz.ntmps15
    go_upto_region 9 with (first | (go_at_call 16; refine (HS.out _).mono ?_; rintro e w1 ⟨rfl, rfl⟩; clear HS) | (go_at_call 16; refine (HT.out _).mono ?_; rintro e w2 ⟨rfl, rfl⟩; clear HT))
    go_region_law (go_simp; go_at_call 17; refine (HCC.out _ _ _).mono ?_; rintro e w3 ⟨rfl, hb4⟩)
    all_goals
      go_wp2_with fail
      go_ret
      exact ⟨cmp_ret HA.out HB.out, below_of_drew hb4⟩
end Go.Proofs.YthcminjdkgmeoaaGreatDoor
