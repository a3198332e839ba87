/-
  The walk of the law 'FnReadFieldsPrefixOfAll'.
-/
import Derived.Test.YtjoceojknhipoaaGreatDoorPlainP
import Derived.Test.YtjoceojknhipoaaGreatDoorSame
namespace Go.Proofs.YtjoceojknhipoaaGreatDoor
open Go.RowKit Rf

theorem bytesP_yes (p q : ByteArray) (n : Int) (b : Bool) (w : World) (h : p.size + q.size ≤ 1048576) : Calls Tryz.prog 13 #[.string p, .string q, .int .i64 n, .bool b] w fun e w' => e = .returned (.bool true) ∧ w = w' := by
  go_enter Tryz.func13, Tryz.ntmps13
  go_wp2
  go_ret
  exact ⟨rfl, rfl⟩

theorem bytesP_no (p q : ByteArray) (n : Int) (b : Bool) (w : World) (h : 1048576 < p.size + q.size) (hp : p.size ≤ maxLen) (hq : q.size ≤ maxLen) : Calls Tryz.prog 13 #[.string p, .string q, .int .i64 n, .bool b] w fun e w' => e = .returned (.bool false) ∧ w = w' := by
  unfold maxLen at hp hq
  by_cases h1 : 1048576 < p.size
  · go_enter Tryz.func13, Tryz.ntmps13
    go_wp2
    go_ret
    exact ⟨rfl, rfl⟩
  · by_cases h2 : 1048576 < q.size
    · go_enter Tryz.func13, Tryz.ntmps13
      go_wp2
      go_ret
      exact ⟨rfl, rfl⟩
    · go_enter Tryz.func13, Tryz.ntmps13
      go_wp2
      go_ret
      exact ⟨rfl, rfl⟩

theorem lies_below {o : Option (List (List Int))} {v : Value} {w w' : World} (h : Lies o v w) (hb : Below w.heap.size w w') : Lies o v w' := by
  cases o with
  | none => exact h
  | some xs =>
    obtain ⟨g, c, rfl, hc⟩ := h
    exact ⟨g, c, rfl, fun k hk => (hb.cell (World.block_lt_of_cell? w _ (hc k hk))).trans (hc k hk)⟩

theorem pre_bytes (a b : ByteArray) (k : Nat) (h : k < a.size) (h' : k < (a ++ b).size) : (a ++ b)[k] = a[k] := by
  have h1 : k < a.data.size := h
  simp only [ByteArray.getElem_eq_getElem_data, ByteArray.data_append]
  exact Array.getElem_append_left h1
theorem suf_bytes (a b : ByteArray) (k : Nat) (h : k < b.size) (h' : a.size + k < (a ++ b).size) : (a ++ b)[a.size + k] = b[k] := by
  have h1 : a.data.size ≤ a.size + k := Nat.le_add_right _ _
  simp only [ByteArray.getElem_eq_getElem_data, ByteArray.data_append]
  rw [Array.getElem_append_right h1]
  congr 1
  exact Nat.add_sub_cancel_left _ _

set_option maxHeartbeats 2000000 in
set_option maxRecDepth 100000 in
theorem lawP_main (ifs s : ByteArray) (n : Int) (raw : Bool) (w : World) (h1 : ifs.size ≤ 4096) (h2 : s.size ≤ 65536) (hn : 2 ≤ n) (hnm : n ≤ 9223372036854775807) :
    Calls Tryz.prog 5 #[.string ifs, .string s, .int .i64 n, .bool raw] w fun e w' => e = .returned (.bool true) ∧ Below w.heap.size w w' := by
  have hp := pair_of (among ifs) (fun r => isWS r && among ifs r) n raw (runes s) hn (by have := runes_length s; omega)
  have HR1 := fun w => rf_many ifs s n raw w h1 h2 (Or.inr hn)
  have HR2 := fun w => rf_many ifs s (-1) raw w h1 h2 (Or.inl rfl)
  generalize give (among ifs) (fun r => isWS r && among ifs r) n raw (runes s) = o at *
  generalize give (among ifs) (fun r => isWS r && among ifs r) (-1) raw (runes s) = oa at *
  have hR1 := Lib.hid HR1
  have hR2 := Lib.hid HR2
  clear HR1 HR2
  rcases hp with ⟨rfl, rfl⟩ | ⟨xs, rfl, rfl, hx1, hx2⟩ | ⟨xs, ys, q, L, mid, rfl, rfl, hnq, hxl, hyl, hqL, hL, hlow, htop, htl⟩
  · have n1 := nil_is
    go_enter Tryz.func5, Tryz.ntmps5
    go_wp2_with (first
      | (go_at_call 13; refine (bytesP_yes _ _ _ _ _ (by omega)).mono ?_; rintro e w' ⟨rfl, hw⟩; subst w')
      | (go_at_call 8; first | (refine (hR1.out _).mono ?_; rintro e w1 ⟨v1, rfl, hl1, hb1⟩; obtain rfl : v1 = _ := hl1; clear hR1) | (refine (hR2.out _).mono ?_; rintro e w2 ⟨v2, rfl, hl2, hb2⟩; obtain rfl : v2 = _ := hl2))
      | (go_at_call 9; refine (same_nil _).mono ?_; rintro e w3 ⟨rfl, hb3⟩))
    go_ret
    exact ⟨rfl, hb1.trans ((hb2.mono hb1.size).trans (hb3.mono (Nat.le_trans hb1.size hb2.size)))⟩
  · have hx3 : (xs.length : Int) ≤ 65536 := by omega
    go_enter Tryz.func5, Tryz.ntmps5
    go_wp2_with (first
      | (go_at_call 13; refine (bytesP_yes _ _ _ _ _ (by omega)).mono ?_; rintro e w' ⟨rfl, hw⟩; subst w')
      | (go_at_call 8; first | (refine (hR1.out _).mono ?_; rintro e w1 ⟨v1, rfl, hl1, hb1⟩; clear hR1) | (refine (hR2.out _).mono ?_; rintro e w2 ⟨v2, rfl, hl2, hb2⟩; have hl1' := lies_below hl1 hb2; have HL1 := Lib.hid hl1'; have HL2 := Lib.hid hl2; obtain ⟨g1, c1, rfl, _⟩ := hl1'; obtain ⟨g2, c2, rfl, _⟩ := hl2; clear hl1; have n1 := some_not g1 xs.length c1; have n2 := some_not g2 xs.length c2))
      | (go_at_call 9; refine (same_any (some xs) _ _ _ (fun ys hy => by cases hy; omega) HL1.out HL2.out).mono ?_; rintro e w3 ⟨rfl, hb3⟩))
    go_ret
    exact ⟨rfl, hb1.trans ((hb2.mono hb1.size).trans (hb3.mono (Nat.le_trans hb1.size hb2.size)))⟩
  · obtain ⟨F, hF⟩ : ∃ F : ByteArray, runesBytes (ys.getD q []) = F := ⟨_, rfl⟩
    obtain ⟨M, hM⟩ : ∃ M : ByteArray, runesBytes mid = M := ⟨_, rfl⟩
    obtain ⟨E, hE⟩ : ∃ E : ByteArray, runesBytes (ys.getD L []) = E := ⟨_, rfl⟩
    have hLast : runesBytes (xs.getD q []) = F ++ M ++ E := by rw [htop, runesBytes_append, runesBytes_append, hF, hM, hE]
    have hLz : (F ++ M ++ E).size ≤ 262144 := by have := runesBytes_size_le (xs.getD q []); rw [hLast] at this; omega
    have hLs : (F ++ M ++ E).size = (F ++ M).size + E.size := ByteArray.size_append
    have hLs2 : (F ++ M).size = F.size + M.size := ByteArray.size_append
    have hTX := Lib.hid htop
    have HLO := Lib.hid hlow
    have HLA := Lib.hid hLast
    have HFF := Lib.hid hF
    have HEE := Lib.hid hE
    clear htop hlow hLast hF hM hE htl
    have HNQ := Lib.hid hnq
    have hq0 : (1 : Int) ≤ (q : Int) := by omega
    have hnL : n < (L : Int) + 1 := by omega
    have hnL2 : n ≤ 65536 := by omega
    clear hnq
    obtain ⟨Z, hZ⟩ : ∃ Z : ByteArray, F ++ M ++ E = Z := ⟨_, rfl⟩
    have hpre : ∀ w, Calls Tryz.prog 14 #[.string Z, .string F] w fun e w' => e = .returned (.bool true) ∧ Below w.heap.size w w' := fun w => by
      have hz : F ++ (M ++ E) = Z := by rw [← hZ, ByteArray.append_assoc]
      have hsz2 : (F ++ (M ++ E)).size = F.size + (M ++ E).size := ByteArray.size_append
      rw [hZ, ← hz] at hLz
      rw [← hz]
      exact prefix_any _ _ w (by omega) (by omega) (fun k h h' => pre_bytes F (M ++ E) k h h')
    have hsuf : ∀ w, Calls Tryz.prog 15 #[.string Z, .string E] w fun e w' => e = .returned (.bool true) ∧ Below w.heap.size w w' := fun w => by
      rw [← hZ]
      exact suffix_any _ _ (F ++ M).size w (by omega) (by omega) (fun k h h' => suf_bytes (F ++ M) E k h h')
    rw [hZ] at hLz hLs HLA
    have hqz : (q : Int) < (L : Int) := by omega
    have hLb : (L : Int) ≤ 65536 := by omega
    have hZb : (Z.size : Int) ≤ 262144 := by omega
    have hZc : (F.size : Int) + (E.size : Int) ≤ (Z.size : Int) := by omega
    have HPRE := Lib.hid hpre
    have HSUF := Lib.hid hsuf
    have HXL := Lib.hid hxl
    have HYL := Lib.hid hyl
    clear hLs hLs2 hZ hpre hsuf hxl hyl hLz hqL hL hTX
    go_enter Tryz.func5, Tryz.ntmps5
    go_upto_region 13 with (first
      | (go_at_call 13; refine (bytesP_yes _ _ _ _ _ (by omega)).mono ?_; rintro e w' ⟨rfl, hw⟩; subst w')
      | (go_at_call 8; first | (refine (hR1.out _).mono ?_; rintro e w1 ⟨v1, rfl, hl1, hb1⟩; clear hR1) | (refine (hR2.out _).mono ?_; rintro e w2 ⟨v2, rfl, hl2, hb2⟩; have hl1' := lies_below hl1 hb2; obtain ⟨g1, c1, rfl, hc1⟩ := hl1'; obtain ⟨g2, c2, rfl, hc2⟩ := hl2; rw [HXL.out, HYL.out]; clear hl1; have n1 := some_not g1 (q + 1) c1; have n2 := some_not g2 (L + 1) c2; have HC1 := Lib.hid hc1; have HC2 := Lib.hid hc2; clear hc1 hc2)))
    have hnq := HNQ.out
    subst hnq
    clear hn hnm hnL hnL2 HNQ hR2
    have hbz : w.heap.size ≤ w2.heap.size := Nat.le_trans hb1.size hb2.size
    have HB := Lib.hid (hb1.trans (hb2.mono hb1.size))
    clear hb1 hb2
    go_wp2
    go_loopw [11] (fun i wr => ∃ k nd : Nat, k ≤ q ∧ i = .int .i64 k ∧ wr = w2.drewN nd) (fun i _ => q - (intOf i).toNat)
    case atStart => exact ⟨0, 0, Nat.zero_le _, rfl, rfl⟩
    case round =>
      obtain ⟨k, nd, hk, rfl, rfl⟩ := hrel
      by_cases hlt : k < q
      · have c1 := HC1.out k (by rw [HXL.out]; omega)
        have c2 := HC2.out k (by rw [HYL.out]; omega)
        rw [HLO.out k hlt] at c1
        generalize runesBytes (ys.getD k []) = T at *
        have b0 : (0 : Int) ≤ (k : Int) := by omega
        have b1 : (k : Int) < (q : Int) := by omega
        have b2 : (k : Int) < (q : Int) + 1 := by omega
        have b3 : (k : Int) < (L : Int) + 1 := by omega
        go_wp2
        go_quiet (fail)
        go_wp2
        go_roundw
        case rel => exact ⟨k + 1, nd + nq, by omega, by go_num, by simp⟩
        case measure => simp [intOf]; omega
      · obtain rfl : k = q := by omega
        have c1 := HC1.out k (by rw [HXL.out]; omega)
        have c2 := HC2.out k (by rw [HYL.out]; omega)
        have c3 := HC2.out L (by rw [HYL.out]; omega)
        rw [HLA.out] at c1
        rw [HFF.out] at c2
        rw [HEE.out] at c3
        have hw0 : w2.heap.size = (w2.drewN nd).heap.size := rfl
        go_wp2_with (first
          | (go_at_call 14; refine (HPRE.out _).mono ?_; rintro e w3 ⟨rfl, hb3⟩)
          | (go_at_call 15; refine (HSUF.out _).mono ?_; rintro e w4 ⟨rfl, hb4⟩))
        go_ret
        exact ⟨rfl, (below_drewN HB.out nd).trans ((hb3.mono hbz).trans (hb4.mono (Nat.le_trans hbz hb3.size)))⟩

set_option maxRecDepth 100000 in
theorem lawP_all (ifs s : ByteArray) (n : Int) (raw : Bool) (w : World) (hi : ifs.size ≤ maxLen) (hs : s.size ≤ maxLen) (hn : (Lit.int .i64 n).wf = true) :
    Calls Tryz.prog 5 #[.string ifs, .string s, .int .i64 n, .bool raw] w fun e w' => e = .returned (.bool true) ∧ Below w.heap.size w w' := by
  have hnr : -9223372036854775808 ≤ n ∧ n ≤ 9223372036854775807 := by simpa [Lit.wf, IntKind.min, IntKind.max, IntKind.signed, IntKind.bits] using hn
  by_cases hz : ifs.size + s.size ≤ 1048576
  · by_cases h1 : ifs.size ≤ 4096
    · by_cases h2 : s.size ≤ 65536
      · by_cases h3 : 2 ≤ n
        · exact lawP_main ifs s n raw w h1 h2 h3 hnr.2
        · go_enter Tryz.func5, Tryz.ntmps5
          go_wp2_with (go_at_call 13; refine (bytesP_yes _ _ _ _ _ hz).mono ?_; rintro e w' ⟨rfl, hw⟩; subst w')
          go_ret
          exact ⟨rfl, Below.refl _ _⟩
      · go_enter Tryz.func5, Tryz.ntmps5
        go_wp2_with (go_at_call 13; refine (bytesP_yes _ _ _ _ _ hz).mono ?_; rintro e w' ⟨rfl, hw⟩; subst w')
        go_ret
        exact ⟨rfl, Below.refl _ _⟩
    · go_enter Tryz.func5, Tryz.ntmps5
      go_wp2_with (go_at_call 13; refine (bytesP_yes _ _ _ _ _ hz).mono ?_; rintro e w' ⟨rfl, hw⟩; subst w')
      go_ret
      exact ⟨rfl, Below.refl _ _⟩
  · have hz' : 1048576 < ifs.size + s.size := by omega
    go_enter Tryz.func5, Tryz.ntmps5
    go_wp2_with (go_at_call 13; refine (bytesP_no _ _ _ _ _ hz' hi hs).mono ?_; rintro e w' ⟨rfl, hw⟩; subst w')
    go_ret
    exact ⟨rfl, Below.refl _ _⟩
end Go.Proofs.YtjoceojknhipoaaGreatDoor
