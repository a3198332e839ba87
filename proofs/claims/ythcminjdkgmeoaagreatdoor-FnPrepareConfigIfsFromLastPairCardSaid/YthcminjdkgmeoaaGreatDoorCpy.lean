/-
  The copy of the list; the test of a pair's first four bytes.
-/
import Derived.Test.YthcminjdkgmeoaaGreatDoorStr
import Derived.Deep.OwnRows
namespace Go.Proofs.YthcminjdkgmeoaaGreatDoor
open Go.RowKit
set_option linter.unusedVariables false

/-- The copy: nothing, or a new row of the same strings. -/
def CpyOut (ss : List ByteArray) (w : World) (e : Ending) (w' : World) : Prop := ∃ v, e = .returned v ∧ Below w.heap.size w w' ∧ ((ss = [] ∧ ∃ ao c, v = .slice ao 0 c) ∨ ∃ P, v = .slice (some ⟨P, 0, none⟩) ss.length ss.length ∧ ∀ k, k < ss.length → w'.cell? ⟨P, k, none⟩ = some (.string (ss.getD k ByteArray.empty)))
/-- The copy under way. -/
structure CpI (w : World) (ss : List ByteArray) (k : Nat) (w' : World) : Prop where
  below : Below w.heap.size w w'
  blk : ∃ cur, w'.heap[w.heap.size]? = some (.cells cur 9 (0, 0)) ∧ cur.size = ss.length ∧ ∀ j, j < k → cur[j]? = some (.string (ss.getD j ByteArray.empty))
theorem CpI.start (w : World) (ss : List ByteArray) : CpI w ss 0 (w.alloc (.cells (madeCells #[.string ⟨#[]⟩] ss.length) 9)) where
  below := (Below.refl _ _).alloc (Nat.le_refl _) _
  blk := ⟨_, heap_alloc_new _ _, size_madeCells _ _, fun j h => absurd h (by omega)⟩
theorem CpI.put {w w' : World} {ss : List ByteArray} {k : Nat} (h : CpI w ss k w') (hk : k < ss.length) : CpI w ss (k + 1) (w'.setCell ⟨w.heap.size, k, none⟩ (.string (ss.getD k ByteArray.empty))) where
  below := h.below.setCell (p := ⟨w.heap.size, k, none⟩) (Nat.le_refl _) _
  blk := by
    obtain ⟨cur, h1, h2, h3⟩ := h.blk
    refine ⟨cur.setIfInBounds k (.string (ss.getD k ByteArray.empty)), by simp [World.setCell, Array.getElem?_modify, h1], by simpa using h2, fun j hj => ?_⟩
    rw [Array.getElem?_setIfInBounds]
    by_cases he : k = j
    · rw [if_pos he, if_pos (by omega), he]
    · rw [if_neg he]
      exact h3 j (by omega)
theorem CpI.cell {w w' : World} {ss : List ByteArray} {k : Nat} (h : CpI w ss k w') {j : Nat} (hj : j < ss.length) : (∃ u, w'.cell? ⟨w.heap.size, j, none⟩ = some u) ∧ w'.frozen? ⟨w.heap.size, j, none⟩ = false := by
  obtain ⟨cur, h1, h2, _⟩ := h.blk
  exact ⟨⟨cur[j]'(by omega), (Lib.cell_of_heap h1 j).trans (Array.getElem?_eq_getElem (by omega))⟩, Lib.frozen_of_heap h1 j⟩

theorem info_str : (Tryz.prog.info? 9).map (fun i => (i.zero, i.size, i.bytes)) = some (some (.string ⟨#[]⟩), 1, 16) := by kernel_rfl
set_option maxRecDepth 100000 in
set_option maxHeartbeats 1000000 in
theorem copy_any (v : Value) (ss : List ByteArray) (w : World) (hl : ss.length ≤ 1048576) (h : StrsAt w v ss) : Calls Tryz.prog 6 #[v] w (CpyOut ss w) := by
  obtain ⟨ao, cap, rfl, hc⟩ := h
  have HC := Lib.hid hc
  have hlz : (0 : Int) ≤ (ss.length : Int) ∧ (ss.length : Int) ≤ 1048576 := by omega
  have hq : ∀ (w : World) (a : Option Addr) (n c n' c' : Nat), (binOp .eql 22 (.slice a n c) (.slice none n' c')).run Tryz.prog w = .ok (.bool a.isNone) w := fun w a n c n' c' => Lib.run_eql_slice_nil w _ _ a n c n' c' Tryz.underlying22
  rcases hc with ⟨rfl, rfl, rfl⟩ | ⟨a, rfl, hcell⟩
  · clear hlz HC hl
    go_enter Tryz.func6, Tryz.ntmps6
    go_wp2_with fail
    go_ret
    exact ⟨_, rfl, Below.refl _ _, Or.inl ⟨rfl, _, _, rfl⟩⟩
  · have hmk : ∀ w : World, (Instr.makeSlice 22 (.int .i64 (ss.length : Int)) (.int .i64 (ss.length : Int))).run Tryz.prog w = .ok (.slice (some ⟨w.heap.size, 0, none⟩) ss.length ss.length) (w.alloc (.cells (madeCells #[.string ⟨#[]⟩] ss.length) 9)) := fun w => run_make_row' _ _ _ 16 Tryz.underlying22 info_str rfl _ _ _ (by omega) (by omega) w
    have HS0 := Lib.hid (CpI.start w ss)
    have HL := Lib.hid hl
    clear hcell hl
    go_enter Tryz.func6, Tryz.ntmps6
    go_wp2_with fail
    go_loopg [4] ss.length (fun gk s4 wr => ∃ (k : Nat), k ≤ ss.length ∧ gk = ss.length - k ∧ s4 = .int .i64 k ∧ Hid (CpI w ss k wr))
    case atStart => exact ⟨0, Nat.zero_le _, rfl, rfl, HS0⟩
    case round =>
      obtain ⟨k, hk, rfl, rfl, HX⟩ := hrel
      by_cases hlt : k < ss.length
      · have hkz : (k : Int) < (ss.length : Int) := by omega
        obtain ⟨b, off, ha, hbl, hcell⟩ := some_str HC.out hlt
        obtain rfl := Option.some.inj ha
        have hcell2 := (HX.out.below.cell (p := ⟨b, off + k, none⟩) hbl).trans hcell
        obtain ⟨⟨u, hu⟩, hf⟩ := HX.out.cell hlt
        have HP := Lib.hid (HX.out.put hlt)
        obtain ⟨x, hx⟩ : ∃ x, ss.getD k ByteArray.empty = x := ⟨_, rfl⟩
        rw [hx] at HP hcell2
        clear hcell ha hbl hx
        go_wp2_with fail
        go_roundg (ss.length - (k + 1))
        case measure => omega
        case rel => exact ⟨k + 1, by omega, rfl, by first | rfl | simp, HP⟩
      · obtain rfl : k = ss.length := by omega
        go_wp2_with fail
        go_ret
        refine ⟨_, rfl, HX.out.below, Or.inr ⟨w.heap.size, rfl, fun k hk => ?_⟩⟩
        obtain ⟨cur, h1, h2, h3⟩ := HX.out.blk
        exact (Lib.cell_of_heap h1 k).trans (h3 k hk)

/-! ### The first four bytes -/
theorem key_four {l : List UInt8} : Stb.key l = ifsL ++ [61] ↔ l.take 4 = [73, 70, 83, 61] := by
  constructor
  · intro h
    obtain ⟨_, v, rfl⟩ := Stb.key_valid (t := ifsL) (by decide) (by decide) h
    rfl
  · intro h
    obtain ⟨a, b, c, d, r, rfl⟩ : ∃ a b c d r, l = a :: b :: c :: d :: r := by
      match l, h with
      | a :: b :: c :: d :: r, _ => exact ⟨a, b, c, d, r, rfl⟩
    simp at h
    obtain ⟨rfl, rfl, rfl, rfl⟩ := h
    rfl
theorem byte_at (p : ByteArray) (k : Nat) (h : k < p.size) : p.data.toList[k]? = some (p[k]'h) := by
  have h2 : k < p.data.toList.length := by rw [len_size]; exact h
  rw [List.getElem?_eq_getElem h2]
  simp [ByteArray.getElem_eq_getElem_data]
theorem key_bytes (p : ByteArray) (h : 3 < p.size) : Stb.key p.data.toList = ifsL ++ [61] ↔ (p[0]'(by omega)).toNat = 73 ∧ (p[1]'(by omega)).toNat = 70 ∧ (p[2]'(by omega)).toNat = 83 ∧ (p[3]'h).toNat = 61 := by
  rw [key_four]
  have b0 := byte_at p 0 (by omega)
  have b1 := byte_at p 1 (by omega)
  have b2 := byte_at p 2 (by omega)
  have b3 := byte_at p 3 h
  generalize p[0]'(by omega) = x0 at *
  generalize p[1]'(by omega) = x1 at *
  generalize p[2]'(by omega) = x2 at *
  generalize p[3]'h = x3 at *
  obtain ⟨a, b, c, d, r, hl⟩ : ∃ a b c d r, p.data.toList = a :: b :: c :: d :: r := by
    match hl : p.data.toList, b3 with
    | a :: b :: c :: d :: r, _ => exact ⟨a, b, c, d, r, rfl⟩
    | [], h => cases h
    | [_], h => cases h
    | [_, _], h => cases h
    | [_, _, _], h => cases h
  rw [hl] at b0 b1 b2 b3 ⊢
  simp at b0 b1 b2 b3
  subst b0 b1 b2 b3
  simp [← UInt8.toNat_inj]
theorem key_short (p : ByteArray) (h : p.size < 4) : Stb.key p.data.toList ≠ ifsL ++ [61] := by
  intro e
  rw [key_four] at e
  have := congrArg List.length e
  have hz := len_size p
  simp at this
  omega
def HasOut (s : ByteArray) (w : World) (e : Ending) (w' : World) : Prop := ∃ b, e = .returned (.bool b) ∧ w = w' ∧ (b = true ↔ Stb.key s.data.toList = ifsL ++ [61])
set_option maxRecDepth 100000 in
set_option maxHeartbeats 1000000 in
theorem has_any (s : ByteArray) (w : World) (hs : s.size ≤ 1048576) : Calls Tryz.prog 7 #[.string s] w (HasOut s w) := by
  by_cases h4 : s.size < 4
  · have h4z : (s.size : Int) < 4 := by omega
    have HK := Lib.hid (key_short s h4)
    clear h4
    go_enter Tryz.func7, Tryz.ntmps7
    go_wp2_with fail
    go_ret
    exact ⟨_, rfl, rfl, fun h => (by cases h), fun h => absurd h HK.out⟩
  · have h4z : (4 : Int) ≤ (s.size : Int) := by omega
    have h3 : 3 < s.size := by omega
    have h2 : 2 < s.size := by omega
    have h1 : 1 < s.size := by omega
    have h0 : 0 < s.size := by omega
    have n3 : (3 : Int) < (s.size : Int) := by omega
    have n2 : (2 : Int) < (s.size : Int) := by omega
    have n1 : (1 : Int) < (s.size : Int) := by omega
    have n0 : (0 : Int) < (s.size : Int) := by omega
    have hk := key_bytes s h3
    obtain ⟨y0, e0⟩ : ∃ y : Nat, (s[0]'h0).toNat = y := ⟨_, rfl⟩
    obtain ⟨y1, e1⟩ : ∃ y : Nat, (s[1]'h1).toNat = y := ⟨_, rfl⟩
    obtain ⟨y2, e2⟩ : ∃ y : Nat, (s[2]'h2).toNat = y := ⟨_, rfl⟩
    obtain ⟨y3, e3⟩ : ∃ y : Nat, (s[3]'h3).toNat = y := ⟨_, rfl⟩
    rw [e0, e1, e2, e3] at hk
    have HK := Lib.hid hk
    clear hk h4
    by_cases c0 : y0 = 73
    · have d0 : ((y0 : Int) == 73) = true := by simp; omega
      by_cases c1 : y1 = 70
      · have d1 : ((y1 : Int) == 70) = true := by simp; omega
        by_cases c2 : y2 = 83
        · have d2 : ((y2 : Int) == 83) = true := by simp; omega
          by_cases c3 : y3 = 61
          · have d3 : ((y3 : Int) == 61) = true := by simp; omega
            have HH := Lib.hid (HK.out.2 ⟨c0, c1, c2, c3⟩)
            clear c0 c1 c2 c3
            go_enter Tryz.func7, Tryz.ntmps7
            go_wp2_with fail
            go_ret
            exact ⟨_, rfl, rfl, fun _ => HH.out, fun _ => rfl⟩
          · have d3 : ((y3 : Int) == 61) = false := by simp; omega
            have HH : Hid (¬ _) := Lib.hid (fun h => c3 (HK.out.1 h).2.2.2)
            clear c0 c1 c2 c3
            go_enter Tryz.func7, Tryz.ntmps7
            go_wp2_with fail
            go_ret
            exact ⟨_, rfl, rfl, fun h => (by cases h), fun h => absurd h HH.out⟩
        · have d2 : ((y2 : Int) == 83) = false := by simp; omega
          have HH : Hid (¬ _) := Lib.hid (fun h => c2 (HK.out.1 h).2.2.1)
          clear c0 c1 c2
          go_enter Tryz.func7, Tryz.ntmps7
          go_wp2_with fail
          go_ret
          exact ⟨_, rfl, rfl, fun h => (by cases h), fun h => absurd h HH.out⟩
      · have d1 : ((y1 : Int) == 70) = false := by simp; omega
        have HH : Hid (¬ _) := Lib.hid (fun h => c1 (HK.out.1 h).2.1)
        clear c0 c1
        go_enter Tryz.func7, Tryz.ntmps7
        go_wp2_with fail
        go_ret
        exact ⟨_, rfl, rfl, fun h => (by cases h), fun h => absurd h HH.out⟩
    · have d0 : ((y0 : Int) == 73) = false := by simp; omega
      have HH : Hid (¬ _) := Lib.hid (fun h => c0 (HK.out.1 h).1)
      clear c0
      go_enter Tryz.func7, Tryz.ntmps7
      go_wp2_with fail
      go_ret
      exact ⟨_, rfl, rfl, fun h => (by cases h), fun h => absurd h HH.out⟩
end Go.Proofs.YthcminjdkgmeoaaGreatDoor
