/-
  The walk of the law 'FnReadFieldsModel'.
-/
import Derived.Test.YtjoceojknhipoaaGreatDoorModelWalk
import Derived.Test.YtjoceojknhipoaaGreatDoorWholeAll
import Derived.Test.YtjoceojknhipoaaGreatDoorSmallM
import Derived.Test.YtjoceojknhipoaaGreatDoorLawP
namespace Go.Proofs.YtjoceojknhipoaaGreatDoor
open Go.RowKit Rf

theorem runs_len (sep : Int → Bool) (ts : List Tok) : ∀ k, (runsTo sep ts k).length ≤ k
  | 0 => Nat.le_refl _
  | k + 1 => by
    have ih := runs_len sep ts k
    cases hs : solid sep (ts.getD k tok0)
    · unfold runsTo
      rw [runs_sep sep ts k hs]
      exact Nat.le_succ_of_le ih
    · unfold runsTo at ih ⊢
      rw [runs_solid sep ts k hs]
      generalize RS sep ts k = p at *
      obtain ⟨d, o⟩ := p
      cases o <;> simp [closeAt] at ih ⊢ <;> omega

theorem mall_len {sep : Int → Bool} {n : Int} {ts : List Tok} (hl : ts.length ≤ 65536) (xs : List (List Int)) (h : mall sep n ts = some xs) : xs.length ≤ 9223372036854775807 := by
  have hr := runs_len sep ts ts.length
  unfold mall mone mres at h
  by_cases h0 : runsTo sep ts ts.length = []
  · simp [h0] at h
  · have ht := tcut_len (n := n) h0 (by omega)
    simp only [h0, if_false] at h
    split at h
    · cases h; simp
    · cases h; rw [List.length_map]; omega

set_option maxHeartbeats 2000000 in
set_option maxRecDepth 100000 in
theorem lawM_main (ifs s : ByteArray) (n : Int) (raw : Bool) (w : World) (h1 : ifs.size ≤ 4096) (h2 : s.size ≤ 65536) (hn : n = -1 ∨ 1 ≤ n) (hb : raw = true ∨ ∀ k (h : k < ifs.size), ifs[k].toNat ≠ 92) :
    Calls Tryz.prog 4 #[.string ifs, .string s, .int .i64 n, .bool raw] w fun e w' => e = .returned (.bool true) ∧ Below w.heap.size w w' := by
  have hg := give_mall (among ifs) n raw (runes s) hn (hb.imp id (among_bs ifs))
  have HR0 := fun w => rf_all ifs s n raw w h1 h2 hn
  have HM0 := fun w => model_any ifs s n raw w h1 h2 hn
  have hol : ∀ xs, mall (among ifs) n (toks raw (runes s)) = some xs → xs.length ≤ 9223372036854775807 := mall_len (by have := toks_length raw (runes s); have := runes_length s; omega)
  rw [hg] at HR0
  generalize mall (among ifs) n (toks raw (runes s)) = o at *
  have HR := Lib.hid HR0
  have HM := Lib.hid HM0
  have HOL := Lib.hid hol
  clear HR0 HM0 hg hol
  cases raw
  · have hb' : ∀ k (h : k < ifs.size), ifs[k].toNat ≠ 92 := by simpa using hb
    have HB := Lib.hid hb'
    clear hb hb'
    by_cases hn1 : n = -1
    · subst hn1
      go_enter Tryz.func4, Tryz.ntmps4
      go_wp2_with (first
        | (go_at_call 11; refine (bytesM_yes _ _ _ _ _ (by omega)).mono ?_; rintro e w' ⟨rfl, hw⟩; subst w')
        | (go_at_call 12; refine (hasByte_no ifs 92 _ (by omega) HB.out).mono ?_; rintro e w' ⟨rfl, hw⟩; subst w')
        | (go_at_call 8; refine (HR.out _).mono ?_; rintro e w1 ⟨v1, rfl, hl1, hb1⟩)
        | (go_at_call 10; refine (HM.out _).mono ?_; rintro e w2 ⟨v2, rfl, hl2, hb2⟩; have HL1 := Lib.hid (lies_below hl1 hb2); have HL2 := Lib.hid hl2; clear hl1 hl2)
        | (go_at_call 9; refine (same_any o _ _ _ HOL.out HL1.out HL2.out).mono ?_; rintro e w3 ⟨rfl, hb3⟩))
      go_ret
      exact ⟨rfl, hb1.trans ((hb2.mono hb1.size).trans (hb3.mono (Nat.le_trans hb1.size hb2.size)))⟩
    · have c1 : (n != -1) = true := by simp [hn1]
      have c2 : ¬ n < 1 := by omega
      clear hn1 hn
      go_enter Tryz.func4, Tryz.ntmps4
      go_wp2_with (first
        | (go_at_call 11; refine (bytesM_yes _ _ _ _ _ (by omega)).mono ?_; rintro e w' ⟨rfl, hw⟩; subst w')
        | (go_at_call 12; refine (hasByte_no ifs 92 _ (by omega) HB.out).mono ?_; rintro e w' ⟨rfl, hw⟩; subst w')
        | (go_at_call 8; refine (HR.out _).mono ?_; rintro e w1 ⟨v1, rfl, hl1, hb1⟩)
        | (go_at_call 10; refine (HM.out _).mono ?_; rintro e w2 ⟨v2, rfl, hl2, hb2⟩; have HL1 := Lib.hid (lies_below hl1 hb2); have HL2 := Lib.hid hl2; clear hl1 hl2)
        | (go_at_call 9; refine (same_any o _ _ _ HOL.out HL1.out HL2.out).mono ?_; rintro e w3 ⟨rfl, hb3⟩))
      go_ret
      exact ⟨rfl, hb1.trans ((hb2.mono hb1.size).trans (hb3.mono (Nat.le_trans hb1.size hb2.size)))⟩
  · clear hb
    by_cases hn1 : n = -1
    · subst hn1
      go_enter Tryz.func4, Tryz.ntmps4
      go_wp2_with (first
        | (go_at_call 11; refine (bytesM_yes _ _ _ _ _ (by omega)).mono ?_; rintro e w' ⟨rfl, hw⟩; subst w')
        | (go_at_call 8; refine (HR.out _).mono ?_; rintro e w1 ⟨v1, rfl, hl1, hb1⟩)
        | (go_at_call 10; refine (HM.out _).mono ?_; rintro e w2 ⟨v2, rfl, hl2, hb2⟩; have HL1 := Lib.hid (lies_below hl1 hb2); have HL2 := Lib.hid hl2; clear hl1 hl2)
        | (go_at_call 9; refine (same_any o _ _ _ HOL.out HL1.out HL2.out).mono ?_; rintro e w3 ⟨rfl, hb3⟩))
      go_ret
      exact ⟨rfl, hb1.trans ((hb2.mono hb1.size).trans (hb3.mono (Nat.le_trans hb1.size hb2.size)))⟩
    · have c1 : (n != -1) = true := by simp [hn1]
      have c2 : ¬ n < 1 := by omega
      clear hn1 hn
      go_enter Tryz.func4, Tryz.ntmps4
      go_wp2_with (first
        | (go_at_call 11; refine (bytesM_yes _ _ _ _ _ (by omega)).mono ?_; rintro e w' ⟨rfl, hw⟩; subst w')
        | (go_at_call 8; refine (HR.out _).mono ?_; rintro e w1 ⟨v1, rfl, hl1, hb1⟩)
        | (go_at_call 10; refine (HM.out _).mono ?_; rintro e w2 ⟨v2, rfl, hl2, hb2⟩; have HL1 := Lib.hid (lies_below hl1 hb2); have HL2 := Lib.hid hl2; clear hl1 hl2)
        | (go_at_call 9; refine (same_any o _ _ _ HOL.out HL1.out HL2.out).mono ?_; rintro e w3 ⟨rfl, hb3⟩))
      go_ret
      exact ⟨rfl, hb1.trans ((hb2.mono hb1.size).trans (hb3.mono (Nat.le_trans hb1.size hb2.size)))⟩

set_option maxRecDepth 100000 in
theorem lawM_all (ifs s : ByteArray) (n : Int) (raw : Bool) (w : World) (hi : ifs.size ≤ maxLen) (hs : s.size ≤ maxLen) (hn : (Lit.int .i64 n).wf = true) :
    Calls Tryz.prog 4 #[.string ifs, .string s, .int .i64 n, .bool raw] w fun e w' => e = .returned (.bool true) ∧ Below w.heap.size w w' := by
  have hnr : -9223372036854775808 ≤ n ∧ n ≤ 9223372036854775807 := by simpa [Lit.wf, IntKind.min, IntKind.max, IntKind.signed, IntKind.bits] using hn
  by_cases hz : ifs.size + s.size ≤ 1048576
  · by_cases h1 : ifs.size ≤ 4096
    · by_cases h2 : s.size ≤ 65536
      · by_cases h3 : n = -1 ∨ 1 ≤ n
        · by_cases h4 : raw = true ∨ ∀ k (h : k < ifs.size), ifs[k].toNat ≠ 92
          · exact lawM_main ifs s n raw w h1 h2 h3 h4
          · obtain rfl : raw = false := by cases raw; · rfl
                                           exact absurd (Or.inl rfl) h4
            have h5 : ¬ ∀ k (h : k < ifs.size), ifs[k].toNat ≠ 92 := fun h => h4 (Or.inr h)
            have H5 := Lib.hid h5
            clear h4 h5
            by_cases hn1 : n = -1
            · subst hn1
              go_enter Tryz.func4, Tryz.ntmps4
              go_wp2_with (first
                | (go_at_call 11; refine (bytesM_yes _ _ _ _ _ hz).mono ?_; rintro e w' ⟨rfl, hw⟩; subst w')
                | (go_at_call 12; refine (hasByte_yes ifs 92 _ (by omega) H5.out).mono ?_; rintro e w' ⟨rfl, hw⟩; subst w'))
              go_ret
              exact ⟨rfl, Below.refl _ _⟩
            · have c1 : (n != -1) = true := by simp [hn1]
              have c2 : ¬ n < 1 := by omega
              go_enter Tryz.func4, Tryz.ntmps4
              go_wp2_with (first
                | (go_at_call 11; refine (bytesM_yes _ _ _ _ _ hz).mono ?_; rintro e w' ⟨rfl, hw⟩; subst w')
                | (go_at_call 12; refine (hasByte_yes ifs 92 _ (by omega) H5.out).mono ?_; rintro e w' ⟨rfl, hw⟩; subst w'))
              go_ret
              exact ⟨rfl, Below.refl _ _⟩
        · have c1 : (n != -1) = true := by simp; omega
          have c2 : n < 1 := by omega
          go_enter Tryz.func4, Tryz.ntmps4
          go_wp2_with (go_at_call 11; refine (bytesM_yes _ _ _ _ _ hz).mono ?_; rintro e w' ⟨rfl, hw⟩; subst w')
          go_ret
          exact ⟨rfl, Below.refl _ _⟩
      · go_enter Tryz.func4, Tryz.ntmps4
        go_wp2_with (go_at_call 11; refine (bytesM_yes _ _ _ _ _ hz).mono ?_; rintro e w' ⟨rfl, hw⟩; subst w')
        go_ret
        exact ⟨rfl, Below.refl _ _⟩
    · go_enter Tryz.func4, Tryz.ntmps4
      go_wp2_with (go_at_call 11; refine (bytesM_yes _ _ _ _ _ hz).mono ?_; rintro e w' ⟨rfl, hw⟩; subst w')
      go_ret
      exact ⟨rfl, Below.refl _ _⟩
  · have hz' : 1048576 < ifs.size + s.size := by omega
    go_enter Tryz.func4, Tryz.ntmps4
    go_wp2_with (go_at_call 11; refine (bytesM_no _ _ _ _ _ hz' hi hs).mono ?_; rintro e w' ⟨rfl, hw⟩; subst w')
    go_ret
    exact ⟨rfl, Below.refl _ _⟩
end Go.Proofs.YtjoceojknhipoaaGreatDoor
