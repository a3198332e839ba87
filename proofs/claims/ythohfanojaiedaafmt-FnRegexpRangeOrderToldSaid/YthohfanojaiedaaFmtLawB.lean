/-
  FnRegexpBracketModel answers true at every input.
-/
import Derived.Test.YthohfanojaiedaaFmtBits
namespace Go.Proofs.YthohfanojaiedaaFmt
open Go.RowKit

theorem mrun_len (s : ByteArray) : ∀ (f i : Nat) (out b : List UInt8), i ≤ s.size → out.length ≤ 2 * i → mrun s f i out = some b → b.length ≤ 2 * s.size
  | 0, _, _, _, _, _, h => by cases h
  | f + 1, i, out, b, hi, ho, h => by
    by_cases hlt : i < s.size
    · cases hst : mstep s i with
      | none => rw [mrun_none s f i out hlt hst] at h; cases h
      | some q =>
        obtain ⟨o, j⟩ := q
        obtain ⟨s1, s2, s3⟩ := mstep_ok hlt hst
        rw [mrun_step s f i out hlt hst] at h
        exact mrun_len s f j (out ++ o) b s2 (by simp; omega) h
    · rw [mrun_end s f i out (by omega)] at h
      cases h
      omega

theorem own_below {w w' : World} {base n size : Nat} {e : TypeId} {v : Value} {xs : List Value} (h : w.ownsRow base e size v n xs) {C : Nat} (hb : Below C w w') (hC : w.heap.size ≤ C) : w'.ownsRow base e size v n xs := by
  refine ⟨h.1, ?_⟩
  rcases h.2 with hn | ⟨g, cap, cur, hv, hbg, hg, rest⟩
  · exact Or.inl hn
  · have hgl : g < w.heap.size := (Array.getElem?_eq_some_iff.1 hg).1
    exact Or.inr ⟨g, cap, cur, hv, hbg, (hb.block g (by omega)).trans hg, rest⟩

theorem bytesB_no (s : ByteArray) (m : Int) (w : World) (hs : 1048576 < s.size) : Calls Tryf.prog 5 #[.string s, .int .u64 m] w fun e w' => e = .returned (.bool false) ∧ w = w' := by
  have hz : (1048576 : Int) < (s.size : Int) := by omega
  clear hs
  go_enter Tryf.func5, Tryf.ntmps5
  go_wp2
  go_ret
  exact ⟨rfl, rfl⟩

def Good (w : World) (e : Ending) (w' : World) : Prop := e = .returned (.bool true) ∧ Below w.heap.size w w'

set_option maxRecDepth 100000 in
set_option maxHeartbeats 4000000 in
theorem lawB_main (s : ByteArray) (mode : Int) (w : World) (hs : s.size ≤ 65536) (p : Addr) (hV : w.cell? ⟨0, 0, none⟩ = some (.iface 109 (.pointer (some p)))) :
    Calls Tryf.prog 3 #[.string s, .int .u64 mode] w (Good w) := by
  obtain ⟨ib, hib, hb0, hb1, hb2⟩ := info_parts Tryf.info_byte
  obtain ⟨I, U, hmo⟩ := mode_ok mode
  obtain ⟨m, hm⟩ : ∃ m, bits .or .u64 (bits .and .u64 mode 59) 4 = m := ⟨_, rfl⟩
  rw [hm] at hmo
  have HMO := Lib.hid hmo
  have hz : (s.size : Int) ≤ 65536 := by omega
  have HV := Lib.hid hV
  have HVs := Lib.hid (World.block_lt_of_cell? _ _ hV)
  have HBY := Lib.hid (fun W => bytesB_yes s mode W (by omega))
  obtain ⟨R, hR⟩ : ∃ R, mrun s (s.size + 1) 0 [] = R := ⟨_, rfl⟩
  have HMD := Lib.hid (fun W => model_any s W hs R hR)
  clear hV hmo
  cases R with
  | none =>
    clear hR
    go_enter Tryf.func3, Tryf.ntmps3
    go_wp2_with (first
      | (go_at_call 5; refine (HBY.out _).mono ?_; rintro e w' ⟨rfl, rfl⟩)
      | (go_at_call 6; refine (HMD.out _).mono ?_; rintro e w2 ⟨rfl, hb2⟩))
    go_ret
    exact ⟨rfl, hb2⟩
  | some b =>
    have hbl := mrun_len s _ 0 [] b (Nat.zero_le _) (Nat.le_refl _) hR
    have hR2 := Lib.hid hR
    have HRX := Lib.hid (fun W q => regexp_any s m I U HMO.out b hR2.out W hs p q)
    have hbs : (⟨b.toArray⟩ : ByteArray).size = b.length := list_size b
    have hbz : (b.length : Int) ≤ 131072 := by omega
    have hhl : (headOf I U).length ≤ 7 := by cases I <;> cases U <;> decide
    have HBS := Lib.hid hbs
    clear hR hbs
    go_enter Tryf.func3, Tryf.ntmps3
    go_upto_region 9 with (first
      | (go_at_call 5; refine (HBY.out _).mono ?_; rintro e w' ⟨rfl, rfl⟩)
      | (go_at_call 6; refine (HMD.out _).mono ?_; rintro e w2 ⟨rfl, hbb2⟩))
    have HB2 := Lib.hid hbb2
    clear hbb2
    go_upto_region 10 with (first
      | (at_make; refine wpList_make_own _ rfl _ _ 27 rfl w2.heap.size 5 ib (.int .u8 0) 1 Tryf.underlying27 hib hb0 hb1 _ _ _ (b.length + 8) rfl rfl (by omega) (by rw [hb2]; omega) (by unfold maxLen; omega) (Nat.le_refl _) ?_; intro w3 hown3 hgrow3; have HB3 := Lib.hid ((Below.refl w2.heap.size w2).grown hgrow3 (Nat.le_refl _) (fun k hk => by cases hk)); have hz3 := HB3.out.size)
      | (go_at_call 7; refine (head_any w2.heap.size 0 _ [] m I U HMO.out _ hz3 hown3 (by omega)).mono ?_; rintro e w4 ⟨v4, rfl, hown4, hb4⟩; have HB4 := Lib.hid (HB3.out.trans hb4); clear hb4))
    have hz4 := HB4.out.size
    rw [Nat.zero_add, List.nil_append] at hown4
    have HOWN4 := Lib.hid hown4
    clear hown4 hown3 hgrow3
    go_upto_region 12 with (first
      | (at_builtin; refine Lib.wpList_append_own_string _ rfl _ _ 27 9 rfl w2.heap.size 5 ib Tryf.underlying27 Tryf.underlying9 hib hb0 hb1 hb2 _ _ _ rfl HOWN4.out ⟨b.toArray⟩ rfl (by rw [HBS.out]; unfold maxLen; omega) (by rw [HBS.out]; omega) hz4 ?_; intro v5 w5 hown5 hgrow5 _; have HB5 := Lib.hid (HB4.out.grown hgrow5 hz4 (fun j hj => (HOWN4.out.lt j hj).1)); have hz5 := HB5.out.size)
      | (at_builtin; refine wpList_append_own _ rfl _ _ 27 rfl w2.heap.size 5 ib (.int .u8 0) 1 1 Tryf.underlying27 hib hb0 hb1 hb2 rfl (by decide) _ _ _ rfl (hown5.alloc _) ⟨_, 0, none⟩ 1 1 [.int .u8 36] rfl rfl (cell_one_new _ _ _) (by intro u hu; simp at hu; subst hu; rfl) (by rw [HBS.out]; unfold maxLen; omega) (by rw [HBS.out]; omega) (by simp; omega) ?_; intro v6 w6 hown6 hgrow6 _; have HB6 := Lib.hid ((HB5.out.alloc hz5 _).grown hgrow6 (by simp; omega) (fun j hj => (hown5.lt j hj).1))))
    have hcells : Lib.byteCells (headOf I U ++ b ++ [36]) = Lib.byteCells (headOf I U) ++ Lib.strCells ⟨b.toArray⟩ ++ [.int .u8 36] := by
      rw [Lib.byteCells_append, Lib.byteCells_append]
      rfl
    rw [← hcells] at hown6
    have HOWN6 := Lib.hid hown6
    have hz2 := HB2.out.size
    have HB26 := Lib.hid (HB2.out.trans (HB6.out.mono hz2))
    have hV6 := (HB26.out.cell (p := ⟨0, 0, none⟩) HVs.out).trans HV.out
    have HRX6 := Lib.hid (HRX.out _ hV6)
    obtain ⟨X, hX⟩ : ∃ X : ByteArray, ⟨(headOf I U ++ b ++ [36]).toArray⟩ = X := ⟨_, rfl⟩
    rw [hX] at HRX6
    have HX := Lib.hid hX
    clear hown5 hown6 hgrow5 hgrow6 hcells hX hV6 hz2 hz3 hz4 hz5 HB3 HB4 HB5 HB6 HOWN4
    go_upto_region 13 with (go_at_call 8; refine (HRX6.out).mono ?_; rintro e w7 ⟨rfl, hb7⟩; have HB7 := Lib.hid hb7; have hcv := conv_own (own_below HOWN6.out hb7 (Nat.le_refl _)); clear hb7)
    rw [HX.out] at hcv
    go_wp2
    go_ret
    exact ⟨rfl, HB26.out.trans (HB7.out.mono HB26.out.size)⟩

theorem lawB_all (s : ByteArray) (mode : Int) (w : World) (hl : s.size ≤ maxLen) (p : Addr) (hV : w.cell? ⟨0, 0, none⟩ = some (.iface 109 (.pointer (some p)))) :
    Calls Tryf.prog 3 #[.string s, .int .u64 mode] w (Good w) := by
  unfold maxLen at hl
  by_cases hs : s.size ≤ 65536
  · exact lawB_main s mode w hs p hV
  · clear hV
    by_cases hs2 : s.size ≤ 1048576
    · have HBY := Lib.hid (fun W => bytesB_yes s mode W hs2)
      have hz : (65536 : Int) < (s.size : Int) := by omega
      clear hs hs2 hl
      go_enter Tryf.func3, Tryf.ntmps3
      go_wp2_with (go_at_call 5; refine (HBY.out _).mono ?_; rintro e w' ⟨rfl, rfl⟩)
      go_ret
      exact ⟨rfl, Below.refl _ _⟩
    · have HBY := Lib.hid (fun W => bytesB_no s mode W (by omega))
      clear hs hs2 hl
      go_enter Tryf.func3, Tryf.ntmps3
      go_wp2_with (go_at_call 5; refine (HBY.out _).mono ?_; rintro e w' ⟨rfl, rfl⟩)
      go_ret
      exact ⟨rfl, Below.refl _ _⟩
end Go.Proofs.YthohfanojaiedaaFmt
