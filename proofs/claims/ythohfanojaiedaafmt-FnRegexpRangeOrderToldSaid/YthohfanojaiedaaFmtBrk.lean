/-
  The law's own model of a pattern, walked.
-/
import Derived.Test.YthohfanojaiedaaFmtSmall
namespace Go.Proofs.YthohfanojaiedaaFmt
open Go.RowKit

/-- What the model hands back. -/
def ModelOut (R : Option (List UInt8)) (w : World) (e : Ending) (w' : World) : Prop :=
  (match R with
    | some b => e = .returned (.tuple #[.string ⟨b.toArray⟩, .bool true])
    | none => e = .returned (.tuple #[.string ⟨#[]⟩, .bool false])) ∧ Below w.heap.size w w'

theorem extract_part (s : ByteArray) (a b : Nat) : (s.extract a b).data.toList = part s a (b - a) := by
  rw [ByteArray.data_extract, Array.toList_extract]
  rfl

theorem slice_at (s : ByteArray) (a b : Nat) (h1 : a ≤ b) (h2 : b ≤ s.size) (W : World) : (Instr.slice 9 (.string s) (some (.int .i64 (a : Int))) (some (.int .i64 (b : Int))) none).run Tryf.prog W = .ok (.string (s.extract a b)) W := by
  have := run_slice_string (P := Tryf.prog) W 9 s .i64 .i64 (a : Int) (b : Int) Tryf.underlying9 (by omega) (by omega) (by omega)
  simpa using this
theorem alnum_yes {x : Nat} (h : isAl x = true) (w : World) : Calls Tryf.prog 11 #[.int .u8 x] w fun e w' => e = .returned (.bool true) ∧ w = w' := by
  have := alnum_any x w
  rw [h] at this
  exact this
theorem alnum_no {x : Nat} (h : isAl x = false) (w : World) : Calls Tryf.prog 11 #[.int .u8 x] w fun e w' => e = .returned (.bool false) ∧ w = w' := by
  have := alnum_any x w
  rw [h] at this
  exact this

set_option maxRecDepth 100000 in
set_option maxHeartbeats 4000000 in
theorem model_any (s : ByteArray) (w : World) (hs : s.size ≤ 65536) (R : Option (List UInt8)) (hR : mrun s (s.size + 1) 0 [] = R) :
    Calls Tryf.prog 6 #[.string s] w (ModelOut R w) := by
  obtain ⟨ib, hib, hb0, hb1, hb2⟩ := info_parts Tryf.info_byte
  have hz : (s.size : Int) ≤ 65536 := by omega
  have HR := Lib.hid hR
  clear hR
  go_enter Tryf.func6, Tryf.ntmps6
  go_wp2_with (at_make; refine wpList_make_own _ rfl _ _ 27 rfl w.heap.size 5 ib (.int .u8 0) 1 Tryf.underlying27 hib hb0 hb1 _ _ _ (2 * s.size + 2) rfl rfl (by omega) (by rw [hb2]; omega) (by unfold maxLen; omega) (Nat.le_refl _) ?_; intro w0 hown0 hgrow0)
  go_loopg [4, 5] (s.size + 1) (fun gk s4 s5 wr => ∃ (i f : Nat) (out : List UInt8), i ≤ s.size ∧ gk = s.size + 1 - i ∧ s5 = .int .i64 i ∧ Hid (mrun s f i out = R) ∧ s.size < i + f ∧ out.length ≤ 2 * i ∧ wr.ownsRow w.heap.size 5 1 s4 out.length (Lib.byteCells out) ∧ Below w.heap.size w wr)
  case atStart => exact ⟨0, s.size + 1, [], Nat.zero_le _, rfl, rfl, HR, by omega, Nat.le_refl _, hown0, (Below.refl _ _).grown hgrow0 (Nat.le_refl _) (fun k hk => by cases hk)⟩
  case round =>
    rename_i v4 v5
    obtain ⟨i, f, out, hi, rfl, rfl, hrun, hf, ho, hown, hbel⟩ := hrel
    have HOWN := Lib.hid hown
    have HBEL := Lib.hid hbel
    have hzr := hbel.size
    obtain ⟨f, rfl⟩ : ∃ g, f = g + 1 := ⟨f - 1, by omega⟩
    clear hown hbel hown0 hgrow0
    by_cases hlt : i < s.size
    · have hiz : (i : Int) < (s.size : Int) := by omega
      have hbi := bt_get s i hlt
      obtain ⟨x, hx⟩ : ∃ x, bt s i = x := ⟨_, rfl⟩
      rw [hx] at hbi
      have hgx : (s[i]'hlt).toNat = x := hbi.symm
      have HX := Lib.hid hx
      clear hbi hx
      cases hal : isAl x
      · have HAL := Lib.hid (fun W => alnum_no hal W)
        by_cases h93 : x = 93
        · subst h93
          have hst : mstep s i = some ([92, 93], i + 1) := by unfold mstep; rw [HX.out, if_neg (by simpa using hal), if_pos rfl]
          have hr2 := hrun.out
          rw [mrun_step s f i out hlt hst] at hr2
          have HR2 := Lib.hid hr2
          clear hst hr2 hrun hal
          go_wp2_with (first
            | (go_at_call 11; refine (HAL.out _).mono ?_; rintro e w' ⟨rfl, rfl⟩)
            | (at_builtin; refine wpList_append_own _ rfl _ _ 27 rfl w.heap.size 5 ib (.int .u8 0) 1 1 Tryf.underlying27 hib hb0 hb1 hb2 rfl (by decide) _ _ _ rfl (HOWN.out.alloc _) ⟨_, 0, none⟩ 2 2 [.int .u8 92, .int .u8 93] rfl rfl (cells_two _ _ _ _) (by intro u hu; simp at hu; rcases hu with rfl | rfl <;> rfl) (by unfold maxLen; omega) (by omega) (by simp; omega) ?_; intro v1 w1 hown1 hgrow1 _))
          go_roundg (s.size + 1 - (i + 1))
          case measure => omega
          case rel => exact ⟨i + 1, f, out ++ [92, 93], by omega, rfl, by go_num, HR2, by omega, by simp; omega, by
            rw [List.length_append, Lib.byteCells_append]
            exact hown1, (HBEL.out.alloc hzr _).grown hgrow1 (by simp; omega) (fun j hj => (HOWN.out.lt j hj).1)⟩
        · have z93 : ((x : Int) == 93) = false := by simp; omega
          by_cases h91 : x = 91
          · subst h91
            obtain ⟨a1, a2, a3, a4⟩ := aend_spec s s.size (i + 1) (by omega) (by omega)
            obtain ⟨E, hE⟩ : ∃ E, aend s (i + 1) s.size = E := ⟨_, rfl⟩
            rw [hE] at a1 a2 a3 a4
            have A3 := Lib.hid a3
            have A4 := Lib.hid a4
            clear a3 a4 h93
            have hst : mstep s i = (if E = s.size then some ([92, 91], i + 1) else if bt s E = 93 ∧ i + 1 < E then some (part s i (E + 1 - i), E + 1) else none) := by
              unfold mstep
              rw [HX.out, if_neg (by simpa using hal), if_neg (by decide), if_pos rfl, hE]
            clear hE hal
            have HST := Lib.hid hst
            clear hst
            go_upto_block 2 with (go_at_call 11; refine (HAL.out _).mono ?_; rintro e w' ⟨rfl, rfl⟩)
            go_cut [7] from 39 to 50 (fun s7 wx => s7 = .int .i64 E ∧ wx = wr)
            case first =>
              go_wp2_with fail
              go_loopg [7] (s.size - (i + 1)) (fun gk s7 wi => ∃ j : Nat, i + 1 ≤ j ∧ j ≤ E ∧ gk = s.size - j ∧ s7 = .int .i64 j ∧ wi = wr)
              case atStart => exact ⟨i + 1, Nat.le_refl _, a1, rfl, by go_num, rfl⟩
              case round =>
                obtain ⟨j, j1, j2, rfl, rfl, rfl⟩ := hrel
                by_cases hj : j < s.size
                · have hjz : (j : Int) < (s.size : Int) := by omega
                  have hgj := bt_get s j hj
                  obtain ⟨y, hy⟩ : ∃ y, bt s j = y := ⟨_, rfl⟩
                  rw [hy] at hgj
                  have hgy : (s[j]'hj).toNat = y := hgj.symm
                  have HY := Lib.hid hy
                  clear hgj hy
                  by_cases hje : j < E
                  · have hay : isAl y = true := by rw [← HY.out]; exact A3.out j (by omega) hje
                    have HAY := Lib.hid (fun W => alnum_yes hay W)
                    clear hay
                    go_wp2_with (go_at_call 11; refine (HAY.out _).mono ?_; rintro e w' ⟨rfl, rfl⟩)
                    go_roundg (s.size - (j + 1))
                    case measure => omega
                    case rel => exact ⟨j + 1, by omega, by omega, rfl, by go_num, rfl⟩
                  · obtain rfl : j = E := by omega
                    have hay : isAl y = false := by rw [← HY.out]; exact A4.out hj
                    have HAY := Lib.hid (fun W => alnum_no hay W)
                    clear hay
                    go_wp2_with (go_at_call 11; refine (HAY.out _).mono ?_; rintro e w' ⟨rfl, rfl⟩)
                    go_meet
                    exact ⟨rfl, rfl⟩
                · obtain rfl : j = E := by omega
                  go_wp2
                  go_meet
                  exact ⟨rfl, rfl⟩
            case rest =>
              obtain ⟨rfl, rfl⟩ := hcut
              by_cases hEs : E = s.size
              · have hst := HST.out
                rw [if_pos hEs] at hst
                have hr2 := hrun.out
                rw [mrun_step s f i out hlt hst] at hr2
                have HR2 := Lib.hid hr2
                subst hEs
                clear hst hr2 hrun
                go_wp2_with (at_builtin; refine wpList_append_own _ rfl _ _ 27 rfl w.heap.size 5 ib (.int .u8 0) 1 1 Tryf.underlying27 hib hb0 hb1 hb2 rfl (by decide) _ _ _ rfl (HOWN.out.alloc _) ⟨_, 0, none⟩ 2 2 [.int .u8 92, .int .u8 91] rfl rfl (cells_two _ _ _ _) (by intro u hu; simp at hu; rcases hu with rfl | rfl <;> rfl) (by unfold maxLen; omega) (by omega) (by simp; omega) ?_; intro v1 w1 hown1 hgrow1 _)
                go_roundg (s.size + 1 - (i + 1))
                case measure => omega
                case rel => exact ⟨i + 1, f, out ++ [92, 91], by omega, rfl, by go_num, HR2, by omega, by simp; omega, by
                  rw [List.length_append, Lib.byteCells_append]
                  exact hown1, (HBEL.out.alloc hzr _).grown hgrow1 (by simp; omega) (fun j hj => (HOWN.out.lt j hj).1)⟩
              · have hEl : E < s.size := by omega
                have hEz : (E : Int) < (s.size : Int) := by omega
                have hgE := bt_get s E hEl
                obtain ⟨y, hy⟩ : ∃ y, bt s E = y := ⟨_, rfl⟩
                rw [hy] at hgE
                have hgy : (s[E]'hEl).toNat = y := hgE.symm
                have hst := HST.out
                rw [if_neg hEs, hy] at hst
                clear hgE hy
                have hnE : ((E : Int) == (s.size : Int)) = false := by simp; omega
                by_cases hc : y = 93 ∧ i + 1 < E
                · obtain ⟨rfl, hc2⟩ := hc
                  rw [if_pos ⟨rfl, hc2⟩] at hst
                  have hr2 := hrun.out
                  rw [mrun_step s f i out hlt hst] at hr2
                  have HR2 := Lib.hid hr2
                  have hcz : (i : Int) + 1 < (E : Int) := by omega
                  have hpl := part_len s i (E + 1 - i)
                  have hxs : (s.extract i (E + 1)).size = E + 1 - i := by rw [ByteArray.size_extract]; omega
                  have hxl : (part s i (E + 1 - i)).length = E + 1 - i := by rw [← extract_part, Array.length_toList]; exact hxs
                  have HXL := Lib.hid hxl
                  have HXS := Lib.hid hxs
                  have hsl : ∀ W, (Instr.slice 9 (.string s) (some (.int .i64 (i : Int))) (some (.int .i64 ((E : Int) + 1))) none).run Tryf.prog W = .ok (.string (s.extract i (E + 1))) W := fun W => slice_at s i (E + 1) (by omega) (by omega) W
                  clear hst hr2 hrun hxs hxl hEs
                  go_wp2_with (at_builtin; refine Lib.wpList_append_own_string _ rfl _ _ 27 9 rfl w.heap.size 5 ib Tryf.underlying27 Tryf.underlying9 hib hb0 hb1 hb2 _ _ _ rfl HOWN.out (s.extract i (E + 1)) rfl (by rw [HXS.out]; unfold maxLen; omega) (by rw [HXS.out]; omega) hzr ?_; intro v1 w1 hown1 hgrow1 _)
                  go_roundg (s.size + 1 - (E + 1))
                  case measure => omega
                  case rel => exact ⟨E + 1, f, out ++ part s i (E + 1 - i), by omega, rfl, by go_num, HR2, by omega, by simp; omega, by
                    rw [List.length_append, HXL.out, Lib.byteCells_append, ← extract_part]
                    rw [HXS.out] at hown1
                    exact hown1, HBEL.out.grown hgrow1 hzr (fun j hj => (HOWN.out.lt j hj).1)⟩
                · rw [if_neg hc] at hst
                  have hr2 := hrun.out
                  rw [mrun_none s f i out hlt hst] at hr2
                  subst hr2
                  clear hst hrun HR HST
                  by_cases hy93 : y = 93
                  · subst hy93
                    have hcz : ¬ (i : Int) + 1 < (E : Int) := by omega
                    clear hc
                    go_wp2
                    go_ret2
                    exact ⟨rfl, HBEL.out⟩
                  · have hyz : ((y : Int) == 93) = false := by simp; omega
                    clear hc hy93
                    go_wp2
                    go_ret2
                    exact ⟨rfl, HBEL.out⟩
          · have hst : mstep s i = none := by
              unfold mstep
              rw [HX.out, if_neg (by simpa using hal), if_neg h93, if_neg h91]
            have z91 : ((x : Int) == 91) = false := by simp; omega
            have hr2 := hrun.out
            rw [mrun_none s f i out hlt hst] at hr2
            subst hr2
            clear hst hrun HR hal h93 h91
            go_wp2_with (go_at_call 11; refine (HAL.out _).mono ?_; rintro e w' ⟨rfl, rfl⟩)
            go_ret2
            exact ⟨rfl, HBEL.out⟩
      · have HAL := Lib.hid (fun W => alnum_yes hal W)
        have hst : mstep s i = some ([s.data.toList.getD i 0], i + 1) := by unfold mstep; rw [HX.out, if_pos hal]
        have hr2 := hrun.out
        rw [mrun_step s f i out hlt hst] at hr2
        have HR2 := Lib.hid hr2
        clear hst hr2 hrun hal
        go_wp2_with (first
          | (go_at_call 11; refine (HAL.out _).mono ?_; rintro e w' ⟨rfl, rfl⟩)
          | (at_builtin; refine wpList_append_own _ rfl _ _ 27 rfl w.heap.size 5 ib (.int .u8 0) 1 1 Tryf.underlying27 hib hb0 hb1 hb2 rfl (by decide) _ _ _ rfl (HOWN.out.alloc _) ⟨_, 0, none⟩ 1 1 [.int .u8 x] rfl rfl (cell_one_new _ _ _) (by intro u hu; simp at hu; subst hu; rfl) (by unfold maxLen; omega) (by omega) (by simp; omega) ?_; intro v1 w1 hown1 hgrow1 _))
        go_roundg (s.size + 1 - (i + 1))
        case measure => omega
        case rel => exact ⟨i + 1, f, out ++ [s.data.toList.getD i 0], by omega, rfl, by go_num, HR2, by omega, by simp; omega, by
          rw [List.length_append, Lib.byteCells_append]
          have e : Lib.byteCells [s.data.toList.getD i 0] = [.int .u8 x] := by rw [← HX.out]; rfl
          rw [e]
          exact hown1, (HBEL.out.alloc hzr _).grown hgrow1 (by simp; omega) (fun j hj => (HOWN.out.lt j hj).1)⟩
    · obtain rfl : i = s.size := by omega
      have hr2 := hrun.out
      rw [mrun_end s f _ out (Nat.le_refl _)] at hr2
      subst hr2
      have hcv := conv_own HOWN.out
      clear hrun HR
      go_wp2
      go_ret2
      exact ⟨rfl, HBEL.out⟩
end Go.Proofs.YthohfanojaiedaaFmt
