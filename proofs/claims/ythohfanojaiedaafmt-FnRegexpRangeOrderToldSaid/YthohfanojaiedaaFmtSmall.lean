/-
  The law's small functions: zzAlnum, the size test, zzHead.
-/
import Derived.Test.YthohfanojaiedaaFmtRegexp
import Derived.Lib.AppendStr
import Derived.OwnWalk
namespace Go.Proofs.YthohfanojaiedaaFmt
open Go.RowKit

theorem ret_bool {a b : Bool} (h : a = b) : Ending.returned (.bool a) = .returned (.bool b) := by rw [h]
theorem cells_three (W : World) (x y z : Value) (e : TypeId) (j : Nat) (u : Value) (h : [x, y, z][j]? = some u) : (W.alloc (.cells #[x, y, z] e)).cell? ((⟨W.heap.size, 0, none⟩ : Addr).add j) = some u := by
  match j, h with
  | 0, h => simp at h; subst h; simp [Addr.add]
  | 1, h => simp at h; subst h; simp [Addr.add]
  | 2, h => simp at h; subst h; simp [Addr.add]
theorem cells_two (W : World) (x y : Value) (e : TypeId) (j : Nat) (u : Value) (h : [x, y][j]? = some u) : (W.alloc (.cells #[x, y] e)).cell? ((⟨W.heap.size, 0, none⟩ : Addr).add j) = some u := by
  match j, h with
  | 0, h => simp at h; subst h; simp [Addr.add]
  | 1, h => simp at h; subst h; simp [Addr.add]

set_option maxRecDepth 100000 in
set_option maxHeartbeats 1000000 in
theorem alnum_any (x : Nat) (w : World) : Calls Tryf.prog 11 #[.int .u8 x] w fun e w' => e = .returned (.bool (isAl x)) ∧ w = w' := by
  have h : (x < 48) ∨ (48 ≤ x ∧ x ≤ 57) ∨ (58 ≤ x ∧ x ≤ 64) ∨ (65 ≤ x ∧ x ≤ 90) ∨ (91 ≤ x ∧ x ≤ 96) ∨ (97 ≤ x ∧ x ≤ 122) ∨ 123 ≤ x := by omega
  rcases h with h | ⟨h, g⟩ | ⟨h, g⟩ | ⟨h, g⟩ | ⟨h, g⟩ | ⟨h, g⟩ | h
  · have e : isAl x = false := by unfold isAl; simp; omega
    rw [e]
    have h2 : (x : Int) < (48 : Int) := by omega
    clear e h
    go_enter Tryf.func11, Tryf.ntmps11
    go_wp2
    go_ret
    exact ⟨ret_bool (by simp; try omega), rfl⟩
  · have e : isAl x = true := by unfold isAl; simp; omega
    rw [e]
    have h2 : (48 : Int) ≤ (x : Int) := by omega
    have g2 : (x : Int) ≤ (57 : Int) := by omega
    clear e h g
    go_enter Tryf.func11, Tryf.ntmps11
    go_wp2
    go_ret
    exact ⟨ret_bool (by simp; try omega), rfl⟩
  · have e : isAl x = false := by unfold isAl; simp; omega
    rw [e]
    have h2 : (58 : Int) ≤ (x : Int) := by omega
    have g2 : (x : Int) ≤ (64 : Int) := by omega
    clear e h g
    go_enter Tryf.func11, Tryf.ntmps11
    go_wp2
    go_ret
    exact ⟨ret_bool (by simp; try omega), rfl⟩
  · have e : isAl x = true := by unfold isAl; simp; omega
    rw [e]
    have h2 : (65 : Int) ≤ (x : Int) := by omega
    have g2 : (x : Int) ≤ (90 : Int) := by omega
    clear e h g
    go_enter Tryf.func11, Tryf.ntmps11
    go_wp2
    go_ret
    exact ⟨ret_bool (by simp; try omega), rfl⟩
  · have e : isAl x = false := by unfold isAl; simp; omega
    rw [e]
    have h2 : (91 : Int) ≤ (x : Int) := by omega
    have g2 : (x : Int) ≤ (96 : Int) := by omega
    clear e h g
    go_enter Tryf.func11, Tryf.ntmps11
    go_wp2
    go_ret
    exact ⟨ret_bool (by simp; try omega), rfl⟩
  · have e : isAl x = true := by unfold isAl; simp; omega
    rw [e]
    have h2 : (97 : Int) ≤ (x : Int) := by omega
    have g2 : (x : Int) ≤ (122 : Int) := by omega
    clear e h g
    go_enter Tryf.func11, Tryf.ntmps11
    go_wp2
    go_ret
    exact ⟨ret_bool (by simp; try omega), rfl⟩
  · have e : isAl x = false := by unfold isAl; simp; omega
    rw [e]
    have h2 : (123 : Int) ≤ (x : Int) := by omega
    clear e h
    go_enter Tryf.func11, Tryf.ntmps11
    go_wp2
    go_ret
    exact ⟨ret_bool (by simp; try omega), rfl⟩

theorem bytesB_yes (s : ByteArray) (m : Int) (w : World) (hs : s.size ≤ 1048576) : Calls Tryf.prog 5 #[.string s, .int .u64 m] w fun e w' => e = .returned (.bool true) ∧ w = w' := by
  have hz : (s.size : Int) ≤ 1048576 := by omega
  clear hs
  go_enter Tryf.func5, Tryf.ntmps5
  go_wp2
  go_ret
  exact ⟨rfl, rfl⟩

set_option maxRecDepth 100000 in
set_option maxHeartbeats 1000000 in
/-- What zzHead appends. -/
theorem head_any (base n : Nat) (v : Value) (xs : List UInt8) (m : Int) (I U : Bool) (hm : ModeOk m I U) (w : World) (hbw : base ≤ w.heap.size) (hown : w.ownsRow base 5 1 v n (Lib.byteCells xs)) (hn : n ≤ 1000) :
    Calls Tryf.prog 7 #[v, .int .u64 m] w fun e w' => ∃ v', e = .returned v' ∧ w'.ownsRow base 5 1 v' (n + (headOf I U).length) (Lib.byteCells (xs ++ headOf I U)) ∧ Below base w w' := by
  obtain ⟨ib, hib, hb0, hb1, hb2⟩ := info_parts Tryf.info_byte
  obtain ⟨f12, f8, f1, f4, f64⟩ := hm
  have HOWN := Lib.hid hown
  have HBEL := Lib.hid (Below.refl base w)
  have hsz := hbw
  clear hown f12 f64
  rw [Lib.byteCells_append]
  cases I <;> cases U
  all_goals
    go_enter Tryf.func7, Tryf.ntmps7
    go_wp2_with (first
      | (at_builtin; refine wpList_append_own _ rfl _ _ 27 rfl base 5 ib (.int .u8 0) 1 1 Tryf.underlying27 hib hb0 hb1 hb2 rfl (by decide) _ _ _ rfl (HOWN.out.alloc _) ⟨_, 0, none⟩ 3 3 [.int .u8 40, .int .u8 63, .int .u8 115] rfl rfl (cells_three _ _ _ _ _) (by intro u hu; simp at hu; rcases hu with rfl | rfl | rfl <;> rfl) (by unfold maxLen; omega) (by omega) (by simp; omega) ?_; intro v1 w1 hown1 hgrow1 _; have hbel1 := (HBEL.out.alloc hsz _).grown hgrow1 (by simp; omega) (fun j hj => (HOWN.out.lt j hj).1); replace HOWN := Lib.hid hown1; replace HBEL := Lib.hid hbel1; replace hsz := Nat.le_trans hbw hbel1.size; clear hown1 hgrow1 hbel1)
      | (at_builtin; refine wpList_append_own _ rfl _ _ 27 rfl base 5 ib (.int .u8 0) 1 1 Tryf.underlying27 hib hb0 hb1 hb2 rfl (by decide) _ _ _ rfl (HOWN.out.alloc _) ⟨_, 0, none⟩ 1 1 [.int .u8 _] rfl rfl (cell_one_new _ _ _) (by intro u hu; simp at hu; subst hu; rfl) (by unfold maxLen; omega) (by omega) (by simp; omega) ?_; intro v1 w1 hown1 hgrow1 _; have hbel1 := (HBEL.out.alloc hsz _).grown hgrow1 (by simp; omega) (fun j hj => (HOWN.out.lt j hj).1); replace HOWN := Lib.hid hown1; replace HBEL := Lib.hid hbel1; replace hsz := Nat.le_trans hbw hbel1.size; clear hown1 hgrow1 hbel1))
    go_ret
    refine ⟨v1, rfl, ?_, HBEL.out⟩
    have h := HOWN.out
    simpa [headOf, Lib.byteCells, List.append_assoc] using h
end Go.Proofs.YthohfanojaiedaaFmt
