/-
  The environment's search for IFS: the test of one pair; the binary search.
-/
import Derived.Test.YthcminjdkgmeoaaGreatDoorLst
namespace Go.Proofs.YthcminjdkgmeoaaGreatDoor
open Go.RowKit
set_option linter.unusedVariables false

theorem ifs_name : (⟨#[73, 70, 83]⟩ : ByteArray).data.toList = ifsL := rfl
theorem getC_short {l : List UInt8} (h : l.length < 4) : Stb.getC ifsL l = Lib.compareBytes l ifsL := by
  unfold Stb.getC
  rw [if_pos (show l.length < ifsL.length + 1 from h)]
theorem getC_long {l : List UInt8} (h : ¬ l.length < 4) : Stb.getC ifsL l = if Lib.compareBytes (l.take 3) ifsL = 0 then (if (l.getD 3 0).toNat < 61 then -1 else if 61 < (l.getD 3 0).toNat then 1 else 0) else Lib.compareBytes (l.take 3) ifsL := by
  unfold Stb.getC
  rw [if_neg (show ¬ l.length < ifsL.length + 1 from h)]
  rfl
theorem byte_getD (p : ByteArray) (h : 3 < p.size) : (p.data.toList.getD 3 0).toNat = (p[3]'h).toNat := by
  have h2 : 3 < p.data.toList.length := by rw [len_size]; exact h
  rw [List.getD_eq_getElem?_getD, List.getElem?_eq_getElem h2]
  simp [ByteArray.getElem_eq_getElem_data]

set_option maxRecDepth 100000 in
set_option maxHeartbeats 2000000 in
theorem get1_any (p : ByteArray) (hp : p.size ≤ 4194304) (v : Value) (a b c : Nat) (w : World)
    (ha : w.cell? ⟨a, 0, none⟩ = some (.int .i64 4)) (hb0 : w.cell? ⟨b, 0, none⟩ = some (.bool false)) (hb1 : w.cell? ⟨b, 1, none⟩ = some v) (hc : w.cell? ⟨c, 0, none⟩ = some (.int .i64 3)) :
    Calls Tryz.prog 86 #[.string p, .string ⟨#[73, 70, 83]⟩, .pointer (some ⟨a, 0, none⟩), .pointer (some ⟨b, 0, none⟩), .pointer (some ⟨c, 0, none⟩)] w fun e w' => e = .returned (.int .i64 (Stb.getC ifsL p.data.toList)) ∧ Below w.heap.size w w' := by
  by_cases h4 : p.size < 4
  · have h4z : (p.size : Int) < 4 := by omega
    obtain ⟨r, hr⟩ : ∃ r, Lib.compareBytes p.data.toList ifsL = r := ⟨_, rfl⟩
    have hg : Stb.getC ifsL p.data.toList = r := by rw [getC_short (by rw [len_size]; exact h4), hr]
    have HCMP : Hid (∀ w5 : World, Calls Tryz.prog 17 #[.agg #[.bool false, v], .string p, .string ⟨#[73, 70, 83]⟩] w5 fun e w' => e = .returned (.int .i64 r) ∧ Below w5.heap.size w5 w') := Lib.hid (fun w5 => by
      have h := compare_any v p ⟨#[73, 70, 83]⟩ w5
      rw [ifs_name, hr] at h
      exact h)
    rw [hg]
    clear hg hr
    go_enter Tryz.func86, Tryz.ntmps86
    go_wp2_with (go_at_call 17; refine (HCMP.out _).mono ?_; rintro e w1 ⟨rfl, hq⟩)
    go_ret
    exact ⟨rfl, hq⟩
  · have h4z : ¬ ((p.size : Int) < 4) := by omega
    have h3' : (3 : Int) ≤ (p.size : Int) := by omega
    have h3n : (3 : Int) < (p.size : Int) := by omega
    have h3 : 3 < p.size := by omega
    have hg := getC_long (l := p.data.toList) (by rw [len_size]; exact h4)
    rw [byte_getD p h3] at hg
    have hx := ext_list p 3
    obtain ⟨pn, hpn⟩ : ∃ pn, p.extract 0 3 = pn := ⟨_, rfl⟩
    rw [hpn] at hx
    obtain ⟨r, hr⟩ : ∃ r, Lib.compareBytes (p.data.toList.take 3) ifsL = r := ⟨_, rfl⟩
    rw [hr] at hg
    have HCMP : Hid (∀ w5 : World, Calls Tryz.prog 17 #[.agg #[.bool false, v], .string pn, .string ⟨#[73, 70, 83]⟩] w5 fun e w' => e = .returned (.int .i64 r) ∧ Below w5.heap.size w5 w') := Lib.hid (fun w5 => by
      have h := compare_any v pn ⟨#[73, 70, 83]⟩ w5
      rw [ifs_name, hx, hr] at h
      exact h)
    obtain ⟨y, hy⟩ : ∃ y : Nat, (p[3]'h3).toNat = y := ⟨_, rfl⟩
    rw [hy] at hg
    rw [hg]
    clear hg hr hx
    by_cases hr0 : r = 0
    · subst hr0
      rw [if_pos rfl]
      rcases Nat.lt_trichotomy y 61 with hy0 | hy0 | hy0
      · rw [if_pos hy0]
        have q1 : decide ((y : Int) < 61) = true := by simp; omega
        have q2 : decide ((61 : Int) < (y : Int)) = false := by simp; omega
        go_enter Tryz.func86, Tryz.ntmps86
        go_wp2_with fail
        go_region_held3 (fun w' => w'.cell? ⟨b, 0, none⟩ = some (.bool false) ∧ w'.cell? ⟨b, 1, none⟩ = some v ∧ w'.cell? ⟨c, 0, none⟩ = some (.int .i64 3) ∧ Below w.heap.size w w')
          (first
            | (go_keep; done)
            | ((try dsimp only); exact ⟨by simpa using hb0, by simpa using hb1, by simpa using hc, (Below.refl _ _).drew⟩)
            | (go_split_ands
               refine ⟨?_, ?_, ?_, ?_⟩
               · exact (hq.cell (p := ⟨b, 0, none⟩) (World.block_lt_of_cell? _ _ (by assumption))).trans (by assumption)
               · exact (hq.cell (p := ⟨b, 1, none⟩) (World.block_lt_of_cell? _ _ (by assumption))).trans (by assumption)
               · exact (hq.cell (p := ⟨c, 0, none⟩) (World.block_lt_of_cell? _ _ (by assumption))).trans (by assumption)
               · exact Below.trans (by assumption) (hq.mono (Below.size (by assumption)))))
          (first | (go_at_call 17; refine (HCMP.out _).mono ?_; rintro e w1 ⟨rfl, hq⟩))
        go_wp2
        go_ret
        have hh : w1.cell? ⟨b, 0, none⟩ = some (.bool false) ∧ w1.cell? ⟨b, 1, none⟩ = some v ∧ w1.cell? ⟨c, 0, none⟩ = some (.int .i64 3) ∧ Below w.heap.size w w1 := by assumption
        exact ⟨rfl, hh.2.2.2⟩
      · rw [if_neg (by omega), if_neg (by omega)]
        have q1 : decide ((y : Int) < 61) = false := by simp; omega
        have q2 : decide ((61 : Int) < (y : Int)) = false := by simp; omega
        go_enter Tryz.func86, Tryz.ntmps86
        go_wp2_with fail
        go_region_held3 (fun w' => w'.cell? ⟨b, 0, none⟩ = some (.bool false) ∧ w'.cell? ⟨b, 1, none⟩ = some v ∧ w'.cell? ⟨c, 0, none⟩ = some (.int .i64 3) ∧ Below w.heap.size w w')
          (first
            | (go_keep; done)
            | ((try dsimp only); exact ⟨by simpa using hb0, by simpa using hb1, by simpa using hc, (Below.refl _ _).drew⟩)
            | (go_split_ands
               refine ⟨?_, ?_, ?_, ?_⟩
               · exact (hq.cell (p := ⟨b, 0, none⟩) (World.block_lt_of_cell? _ _ (by assumption))).trans (by assumption)
               · exact (hq.cell (p := ⟨b, 1, none⟩) (World.block_lt_of_cell? _ _ (by assumption))).trans (by assumption)
               · exact (hq.cell (p := ⟨c, 0, none⟩) (World.block_lt_of_cell? _ _ (by assumption))).trans (by assumption)
               · exact Below.trans (by assumption) (hq.mono (Below.size (by assumption)))))
          (first | (go_at_call 17; refine (HCMP.out _).mono ?_; rintro e w1 ⟨rfl, hq⟩))
        go_wp2
        go_ret
        have hh : w1.cell? ⟨b, 0, none⟩ = some (.bool false) ∧ w1.cell? ⟨b, 1, none⟩ = some v ∧ w1.cell? ⟨c, 0, none⟩ = some (.int .i64 3) ∧ Below w.heap.size w w1 := by assumption
        exact ⟨rfl, hh.2.2.2⟩
      · rw [if_neg (by omega), if_pos hy0]
        have q1 : decide ((y : Int) < 61) = false := by simp; omega
        have q2 : decide ((61 : Int) < (y : Int)) = true := by simp; omega
        go_enter Tryz.func86, Tryz.ntmps86
        go_wp2_with fail
        go_region_held3 (fun w' => w'.cell? ⟨b, 0, none⟩ = some (.bool false) ∧ w'.cell? ⟨b, 1, none⟩ = some v ∧ w'.cell? ⟨c, 0, none⟩ = some (.int .i64 3) ∧ Below w.heap.size w w')
          (first
            | (go_keep; done)
            | ((try dsimp only); exact ⟨by simpa using hb0, by simpa using hb1, by simpa using hc, (Below.refl _ _).drew⟩)
            | (go_split_ands
               refine ⟨?_, ?_, ?_, ?_⟩
               · exact (hq.cell (p := ⟨b, 0, none⟩) (World.block_lt_of_cell? _ _ (by assumption))).trans (by assumption)
               · exact (hq.cell (p := ⟨b, 1, none⟩) (World.block_lt_of_cell? _ _ (by assumption))).trans (by assumption)
               · exact (hq.cell (p := ⟨c, 0, none⟩) (World.block_lt_of_cell? _ _ (by assumption))).trans (by assumption)
               · exact Below.trans (by assumption) (hq.mono (Below.size (by assumption)))))
          (first | (go_at_call 17; refine (HCMP.out _).mono ?_; rintro e w1 ⟨rfl, hq⟩))
        go_wp2
        go_ret
        have hh : w1.cell? ⟨b, 0, none⟩ = some (.bool false) ∧ w1.cell? ⟨b, 1, none⟩ = some v ∧ w1.cell? ⟨c, 0, none⟩ = some (.int .i64 3) ∧ Below w.heap.size w w1 := by assumption
        exact ⟨rfl, hh.2.2.2⟩
    · have hrb : (r == 0) = false := by simp [hr0]
      rw [if_neg hr0]
      go_enter Tryz.func86, Tryz.ntmps86
      go_wp2_with fail
      go_region_held3 (fun w' => w'.cell? ⟨b, 0, none⟩ = some (.bool false) ∧ w'.cell? ⟨b, 1, none⟩ = some v ∧ w'.cell? ⟨c, 0, none⟩ = some (.int .i64 3) ∧ Below w.heap.size w w')
        (first
          | (go_keep; done)
          | ((try dsimp only); exact ⟨by simpa using hb0, by simpa using hb1, by simpa using hc, (Below.refl _ _).drew⟩)
          | (go_split_ands
             refine ⟨?_, ?_, ?_, ?_⟩
             · exact (hq.cell (p := ⟨b, 0, none⟩) (World.block_lt_of_cell? _ _ (by assumption))).trans (by assumption)
             · exact (hq.cell (p := ⟨b, 1, none⟩) (World.block_lt_of_cell? _ _ (by assumption))).trans (by assumption)
             · exact (hq.cell (p := ⟨c, 0, none⟩) (World.block_lt_of_cell? _ _ (by assumption))).trans (by assumption)
             · exact Below.trans (by assumption) (hq.mono (Below.size (by assumption)))))
        (first | (go_at_call 17; refine (HCMP.out _).mono ?_; rintro e w1 ⟨rfl, hq⟩))
      go_wp2
      go_ret
      have hh : w1.cell? ⟨b, 0, none⟩ = some (.bool false) ∧ w1.cell? ⟨b, 1, none⟩ = some v ∧ w1.cell? ⟨c, 0, none⟩ = some (.int .i64 3) ∧ Below w.heap.size w w1 := by assumption
      exact ⟨rfl, hh.2.2.2⟩
end Go.Proofs.YthcminjdkgmeoaaGreatDoor
