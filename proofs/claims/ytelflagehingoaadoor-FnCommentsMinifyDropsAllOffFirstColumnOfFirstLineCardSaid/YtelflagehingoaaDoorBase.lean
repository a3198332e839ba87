/-
  Slices of strings and of numbers as lists; the laws' own small loops over them.
-/
import Derived.Test.YtelflagehingoaaDoorChecked
import Derived.WalkKit
import Derived.Lib.Hide
import Derived.WalkSpells
import Derived.OwnWalk
import Derived.Laws.EntriesVeiled
import Derived.Deep.LoopGhost
import Derived.Deep.CutRange
import Derived.Deep.DeepCutAuto
import Derived.Below
namespace Go.Proofs.YtelflagehingoaaDoor
open Go.RowKit

/-- The strings that a slice holds. -/
def StrsAt (w : World) (v : Value) (ss : List ByteArray) : Prop :=
  ∃ ao cap, v = .slice ao ss.length cap ∧ ((ao = none ∧ ss = [] ∧ cap = 0) ∨ ∃ a, ao = some a ∧ ∀ i, i < ss.length → w.cell? (a.add i) = some (.string (ss.getD i ByteArray.empty)))
/-- The numbers that a slice holds. -/
def NumsAt (w : World) (v : Value) (zs : List Int) : Prop :=
  ∃ ao cap, v = .slice ao zs.length cap ∧ ((ao = none ∧ zs = [] ∧ cap = 0) ∨ ∃ a, ao = some a ∧ ∀ i, i < zs.length → w.cell? (a.add i) = some (.int .u64 (zs.getD i 0)))

theorem StrsAt.below {w w' : World} {v : Value} {ss : List ByteArray} (h : StrsAt w v ss) (hb : Below w.heap.size w w') : StrsAt w' v ss := by
  obtain ⟨ao, cap, hv, hc⟩ := h
  refine ⟨ao, cap, hv, ?_⟩
  rcases hc with hc | ⟨a, ha, hc⟩
  · exact Or.inl hc
  · exact Or.inr ⟨a, ha, fun i hi => (hb.cell (World.block_lt_of_cell? w _ (hc i hi))).trans (hc i hi)⟩
theorem NumsAt.below {w w' : World} {v : Value} {ss : List Int} (h : NumsAt w v ss) (hb : Below w.heap.size w w') : NumsAt w' v ss := by
  obtain ⟨ao, cap, hv, hc⟩ := h
  refine ⟨ao, cap, hv, ?_⟩
  rcases hc with hc | ⟨a, ha, hc⟩
  · exact Or.inl hc
  · exact Or.inr ⟨a, ha, fun i hi => (hb.cell (World.block_lt_of_cell? w _ (hc i hi))).trans (hc i hi)⟩

/-- The cell of an element that is there. -/
theorem some_str {w : World} {ao : Option Addr} {cap k : Nat} {ss : List ByteArray} (h : (ao = none ∧ ss = [] ∧ cap = 0) ∨ ∃ a, ao = some a ∧ ∀ i, i < ss.length → w.cell? (a.add i) = some (.string (ss.getD i ByteArray.empty))) (hk : k < ss.length) :
    ∃ b off, ao = some ⟨b, off, none⟩ ∧ b < w.heap.size ∧ w.cell? ⟨b, off + k, none⟩ = some (.string (ss.getD k ByteArray.empty)) := by
  rcases h with ⟨_, h, _⟩ | ⟨⟨b, off, spot⟩, ha, hc⟩
  · subst h; exact absurd hk (by simp)
  · have hs : spot = none := by simpa [Addr.add] using World.cell?_spot (hc 0 (by omega))
    subst hs
    have h := hc k hk
    rw [Go.WideShapes.add_plain] at h
    exact ⟨b, off, ha, World.block_lt_of_cell? w _ h, h⟩
theorem some_num {w : World} {ao : Option Addr} {cap k : Nat} {ss : List Int} (h : (ao = none ∧ ss = [] ∧ cap = 0) ∨ ∃ a, ao = some a ∧ ∀ i, i < ss.length → w.cell? (a.add i) = some (.int .u64 (ss.getD i 0))) (hk : k < ss.length) :
    ∃ b off, ao = some ⟨b, off, none⟩ ∧ b < w.heap.size ∧ w.cell? ⟨b, off + k, none⟩ = some (.int .u64 (ss.getD k 0)) := by
  rcases h with ⟨_, h, _⟩ | ⟨⟨b, off, spot⟩, ha, hc⟩
  · subst h; exact absurd hk (by simp)
  · have hs : spot = none := by simpa [Addr.add] using World.cell?_spot (hc 0 (by omega))
    subst hs
    have h := hc k hk
    rw [Go.WideShapes.add_plain] at h
    exact ⟨b, off, ha, World.block_lt_of_cell? w _ h, h⟩

/-- An answer of yes or no; nothing is turned. -/
def SomeBool (w : World) (e : Ending) (w' : World) : Prop := ∃ b : Bool, e = .returned (.bool b) ∧ w = w'
def SomeInt (w : World) (e : Ending) (w' : World) : Prop := ∃ x : Int, e = .returned (.int .i64 x) ∧ w = w'

set_option maxHeartbeats 1000000 in
theorem strBytes_any (v : Value) (ss : List ByteArray) (w : World) (hl : ss.length ≤ 65536) (h : StrsAt w v ss) : Calls Tryd.prog 6 #[v] w (SomeInt w) := by
  obtain ⟨ao, cap, rfl, hc⟩ := h
  have HC := Lib.hid hc
  clear hc
  have hlz : (0 : Int) ≤ (ss.length : Int) ∧ (ss.length : Int) ≤ 65536 := by omega
  go_enter Tryd.func6, Tryd.ntmps6
  go_wp2
  go_loopg [3, 4] ss.length (fun gk s2 s3 wr => ∃ (k : Nat) (x : Int), w = wr ∧ k ≤ ss.length ∧ gk = ss.length - k ∧ s2 = .int .i64 x ∧ s3 = .int .i64 k)
  case atStart => exact ⟨0, _, rfl, Nat.zero_le _, rfl, rfl, rfl⟩
  case round =>
    obtain ⟨k, x, rfl, hk, rfl, rfl, rfl⟩ := hrel
    by_cases hlt : k < ss.length
    · have hkz : (k : Int) < (ss.length : Int) := by omega
      obtain ⟨b, off, ha, _, hcell⟩ := some_str HC.out hlt
      subst ha
      generalize ss.getD k ByteArray.empty = s at hcell
      go_wp2
      go_roundg (ss.length - (k + 1))
      case measure => omega
      case rel => exact ⟨k + 1, _, rfl, by omega, rfl, rfl, by first | rfl | simp⟩
    · obtain rfl : k = ss.length := by omega
      go_wp2
      go_ret
      exact ⟨_, rfl, rfl⟩

/-- A row that is being filled: k cells are there, the rest is as it was made. -/
def fillZ (vs zs : List Value) (k : Nat) : List Value := vs.take k ++ zs.drop k
theorem fillZ_zero (vs zs : List Value) : fillZ vs zs 0 = zs := by simp [fillZ]
theorem fillZ_all (vs zs : List Value) (hl : vs.length = zs.length) : fillZ vs zs vs.length = vs := by unfold fillZ; rw [List.take_length, hl, List.drop_length, List.append_nil]
theorem fillZ_len (vs zs : List Value) (k : Nat) (hl : vs.length = zs.length) (hk : k ≤ vs.length) : (fillZ vs zs k).length = vs.length := by simp [fillZ]; omega
theorem fillZ_at (vs zs : List Value) (k : Nat) (hl : vs.length = zs.length) (hk : k < vs.length) : (fillZ vs zs k)[k]? = zs[k]? := by
  unfold fillZ
  rw [List.getElem?_append_right (by simp; omega), List.length_take, show min k vs.length = k by omega, Nat.sub_self, List.getElem?_drop, Nat.add_zero]
theorem fillZ_set (vs zs : List Value) (k : Nat) (u : Value) (hl : vs.length = zs.length) (hk : k < vs.length) (hu : vs[k]? = some u) : (fillZ vs zs k).set k u = fillZ vs zs (k + 1) := by
  unfold fillZ
  have h1 : (vs.take k).length = k := by simp; omega
  rw [List.set_append_right _ _ (by omega), h1, Nat.sub_self, List.drop_eq_getElem_cons (show k < zs.length by omega), List.set_cons_zero]
  have h2 : vs.take (k + 1) = vs.take k ++ [u] := by
    rw [List.take_succ_eq_append_getElem hk]
    have := List.getElem?_eq_some_iff.1 hu
    rw [this.2]
  rw [h2]
  simp

/-- What is owned stays owned where nothing below the heap's end has turned. -/
theorem own_call {w w' : World} {base : Nat} {e : TypeId} {size : Nat} {v : Value} {n : Nat} {xs : List Value} (h : w.ownsRow base e size v n xs) (hb : Below w.heap.size w w') : w'.ownsRow base e size v n xs := by
  refine ⟨h.1, ?_⟩
  rcases h.2 with hn | ⟨g, cap, cur, hv, hg, hh, r⟩
  · exact Or.inl hn
  · exact Or.inr ⟨g, cap, cur, hv, hg, by rw [hb.block g (Array.getElem?_eq_some_iff.1 hh).1]; exact hh, r⟩

theorem Tryd.info9 : (Tryd.prog.info? 9).map (fun i => (i.zero, i.size, i.bytes)) = some (some (.string ByteArray.empty), 1, 16) := by kernel_rfl
theorem Tryd.info30 : (Tryd.prog.info? 30).map (fun i => (i.zero, i.size, i.bytes)) = some (some (.int .u64 0), 1, 8) := by kernel_rfl
theorem nil22 (w : World) : (binOp .eql 22 (.slice none 0 0) (.slice none 0 0)).run Tryd.prog w = .ok (.bool true) w := by kernel_rfl
theorem some22 (a : Addr) (n c : Nat) (w : World) : (binOp .eql 22 (.slice (some a) n c) (.slice none 0 0)).run Tryd.prog w = .ok (.bool false) w := by kernel_rfl
theorem nil23 (w : World) : (binOp .eql 23 (.slice none 0 0) (.slice none 0 0)).run Tryd.prog w = .ok (.bool true) w := by kernel_rfl
theorem some23 (a : Addr) (n c : Nat) (w : World) : (binOp .eql 23 (.slice (some a) n c) (.slice none 0 0)).run Tryd.prog w = .ok (.bool false) w := by kernel_rfl

/-- A new slice that holds the strings. -/
def NewStrs (ss : List ByteArray) (w : World) (e : Ending) (w' : World) : Prop := ∃ v, e = .returned v ∧ StrsAt w' v ss ∧ Below w.heap.size w w'
def NewNums (zs : List Int) (w : World) (e : Ending) (w' : World) : Prop := ∃ v, e = .returned v ∧ NumsAt w' v zs ∧ Below w.heap.size w w'

/-- The copy as far as it has come. -/
structure Copied (h : Nat) (ty : TypeId) (w : World) (vs zs : List Value) (k : Nat) (wx : World) : Prop where
  row : wx.ownsRow h ty 1 (.slice (some ⟨h, 0, none⟩) vs.length vs.length) vs.length (fillZ vs zs k)
  bel : Below h w wx

theorem Copied.step {h k : Nat} {ty : TypeId} {w wx : World} {vs zs : List Value} (hc : Copied h ty w vs zs k wx) (hl : vs.length = zs.length) (hk : k < vs.length) (u : Value) (hu : vs[k]? = some u) : Copied h ty w vs zs (k + 1) (wx.setCell ⟨h, k, none⟩ u) := by
  refine ⟨?_, hc.bel.setCell (Nat.le_refl _) _⟩
  have := (hc.row.stored k u).1
  rwa [fillZ_set vs zs k u hl hk hu] at this

set_option maxHeartbeats 1000000 in
theorem copyStrs_any (v : Value) (ss : List ByteArray) (w : World) (hl : ss.length ≤ 65536) (h : StrsAt w v ss) : Calls Tryd.prog 7 #[v] w (NewStrs ss w) := by
  obtain ⟨i2, hi2, hx0, hx1, hx2⟩ := info_parts Tryd.info9
  obtain ⟨ao, cap, rfl, hc⟩ := h
  rcases hc with ⟨rfl, rfl, rfl⟩ | ⟨a, rfl, hc⟩
  · have n1 := nil22
    go_enter Tryd.func7, Tryd.ntmps7
    go_wp2
    go_ret
    exact ⟨_, rfl, ⟨none, 0, rfl, Or.inl ⟨rfl, rfl, rfl⟩⟩, Below.refl _ _⟩
  · have HC := Lib.hid hc
    clear hc
    have n1 := some22 a ss.length cap
    have hlz : (0 : Int) ≤ (ss.length : Int) ∧ (ss.length : Int) ≤ 65536 := by omega
    go_enter Tryd.func7, Tryd.ntmps7
    go_wp2_with (first
      | (at_make; refine wpList_make_full _ rfl _ _ 22 rfl w.heap.size 9 i2 (.string ByteArray.empty) 1 Tryd.underlying22 hi2 hx0 hx1 _ _ _ _ ss.length rfl rfl rfl rfl (by rw [hx2]; omega) (by unfold maxLen; omega) (Nat.le_refl _) ?_; intro wm hown2 hgrow2))
    obtain ⟨hb0, hh⟩ : ∃ hb0, w.heap.size = hb0 := ⟨_, rfl⟩
    have hfill : Copied hb0 9 w (ss.map Value.string) (List.replicate ss.length (.string ByteArray.empty)) 0 wm := ⟨by rw [fillZ_zero, List.length_map, ← hh]; simpa [toList_madeCells_one, Value.cells] using hown2, by rw [← hh]; exact (Below.refl _ _).grown hgrow2 (Nat.le_refl _) (by simp)⟩
    clear hown2 hgrow2
    have HFI := Lib.hid hfill
    have HHB := Lib.hid hh
    clear hfill
    rw [hh]
    clear hh
    go_loopg [4] ss.length (fun gk s4 wx => ∃ k, k ≤ ss.length ∧ gk = ss.length - k ∧ s4 = .int .i64 k ∧ Copied hb0 9 w (ss.map Value.string) (List.replicate ss.length (.string ByteArray.empty)) k wx)
    case atStart => exact ⟨0, Nat.zero_le _, rfl, rfl, HFI.out⟩
    case round =>
      obtain ⟨k, hk, rfl, rfl, hF⟩ := hrel
      clear HFI
      have HF := Lib.hid hF
      clear hF
      by_cases hlt : k < ss.length
      · have hkz : (k : Int) < (ss.length : Int) := by omega
        obtain ⟨b, off, hab, hbl, hck⟩ := some_str (cap := cap) (Or.inr ⟨a, rfl, HC.out⟩) hlt
        cases hab
        have hcell := (HF.out.bel.cell (p := ⟨b, off + k, none⟩) (by rw [← HHB.out]; exact hbl)).trans hck
        clear hck
        have hst1 := HF.out.row.cellAt k (by simp; omega)
        rw [fillZ_at _ _ _ (by simp) (by simpa using hlt)] at hst1
        have hst2 := HF.out.row.frozenAt k
        have hu : (ss.map Value.string)[k]? = some (.string (ss.getD k ByteArray.empty)) := by simp [List.getD, hlt]
        have HU := Lib.hid hu
        simp only [List.getElem?_replicate, if_pos hlt] at hst1
        clear hu
        generalize hx : ss.getD k ByteArray.empty = x at *
        clear hx
        go_wp2
        go_roundg (ss.length - (k + 1))
        case measure => omega
        case rel => exact ⟨k + 1, by omega, rfl, by first | rfl | simp, HF.out.step (by simp) (by simpa using hlt) _ HU.out⟩
      · obtain rfl : k = ss.length := by omega
        go_wp2
        go_ret
        have hr := HF.out.row
        have hfa := fillZ_all (ss.map Value.string) (List.replicate ss.length (.string ByteArray.empty)) (by simp)
        rw [List.length_map] at hfa hr
        rw [hfa] at hr
        refine ⟨_, rfl, ⟨_, _, rfl, Or.inr ⟨⟨hb0, 0, none⟩, rfl, fun i hi => ?_⟩⟩, by rw [HHB.out]; exact HF.out.bel⟩
        rw [Go.WideShapes.add_plain, Nat.zero_add, hr.cellAt i (by omega)]
        simp [List.getD, hi]

set_option maxHeartbeats 1000000 in
theorem copyNums_any (v : Value) (ss : List Int) (w : World) (hl : ss.length ≤ 65536) (h : NumsAt w v ss) : Calls Tryd.prog 8 #[v] w (NewNums ss w) := by
  obtain ⟨i2, hi2, hx0, hx1, hx2⟩ := info_parts Tryd.info30
  obtain ⟨ao, cap, rfl, hc⟩ := h
  rcases hc with ⟨rfl, rfl, rfl⟩ | ⟨a, rfl, hc⟩
  · have n1 := nil23
    go_enter Tryd.func8, Tryd.ntmps8
    go_wp2
    go_ret
    exact ⟨_, rfl, ⟨none, 0, rfl, Or.inl ⟨rfl, rfl, rfl⟩⟩, Below.refl _ _⟩
  · have HC := Lib.hid hc
    clear hc
    have n1 := some23 a ss.length cap
    have hlz : (0 : Int) ≤ (ss.length : Int) ∧ (ss.length : Int) ≤ 65536 := by omega
    go_enter Tryd.func8, Tryd.ntmps8
    go_wp2_with (first
      | (at_make; refine wpList_make_full _ rfl _ _ 23 rfl w.heap.size 30 i2 (.int .u64 0) 1 Tryd.underlying23 hi2 hx0 hx1 _ _ _ _ ss.length rfl rfl rfl rfl (by rw [hx2]; omega) (by unfold maxLen; omega) (Nat.le_refl _) ?_; intro wm hown2 hgrow2))
    obtain ⟨hb0, hh⟩ : ∃ hb0, w.heap.size = hb0 := ⟨_, rfl⟩
    have hfill : Copied hb0 30 w (ss.map (Value.int .u64)) (List.replicate ss.length (.int .u64 0)) 0 wm := ⟨by rw [fillZ_zero, List.length_map, ← hh]; simpa [toList_madeCells_one, Value.cells] using hown2, by rw [← hh]; exact (Below.refl _ _).grown hgrow2 (Nat.le_refl _) (by simp)⟩
    clear hown2 hgrow2
    have HFI := Lib.hid hfill
    have HHB := Lib.hid hh
    clear hfill
    rw [hh]
    clear hh
    go_loopg [4] ss.length (fun gk s4 wx => ∃ k, k ≤ ss.length ∧ gk = ss.length - k ∧ s4 = .int .i64 k ∧ Copied hb0 30 w (ss.map (Value.int .u64)) (List.replicate ss.length (.int .u64 0)) k wx)
    case atStart => exact ⟨0, Nat.zero_le _, rfl, rfl, HFI.out⟩
    case round =>
      obtain ⟨k, hk, rfl, rfl, hF⟩ := hrel
      clear HFI
      have HF := Lib.hid hF
      clear hF
      by_cases hlt : k < ss.length
      · have hkz : (k : Int) < (ss.length : Int) := by omega
        obtain ⟨b, off, hab, hbl, hck⟩ := some_num (cap := cap) (Or.inr ⟨a, rfl, HC.out⟩) hlt
        cases hab
        have hcell := (HF.out.bel.cell (p := ⟨b, off + k, none⟩) (by rw [← HHB.out]; exact hbl)).trans hck
        clear hck
        have hst1 := HF.out.row.cellAt k (by simp; omega)
        rw [fillZ_at _ _ _ (by simp) (by simpa using hlt)] at hst1
        have hst2 := HF.out.row.frozenAt k
        have hu : (ss.map (Value.int .u64))[k]? = some (.int .u64 (ss.getD k 0)) := by simp [List.getD, hlt]
        have HU := Lib.hid hu
        simp only [List.getElem?_replicate, if_pos hlt] at hst1
        clear hu
        generalize hx : ss.getD k 0 = x at *
        clear hx
        go_wp2
        go_roundg (ss.length - (k + 1))
        case measure => omega
        case rel => exact ⟨k + 1, by omega, rfl, by first | rfl | simp, HF.out.step (by simp) (by simpa using hlt) _ HU.out⟩
      · obtain rfl : k = ss.length := by omega
        go_wp2
        go_ret
        have hr := HF.out.row
        have hfa := fillZ_all (ss.map (Value.int .u64)) (List.replicate ss.length (.int .u64 0)) (by simp)
        rw [List.length_map] at hfa hr
        rw [hfa] at hr
        refine ⟨_, rfl, ⟨_, _, rfl, Or.inr ⟨⟨hb0, 0, none⟩, rfl, fun i hi => ?_⟩⟩, by rw [HHB.out]; exact HF.out.bel⟩
        rw [Go.WideShapes.add_plain, Nat.zero_add, hr.cellAt i (by omega)]
        simp [List.getD, hi]
end Go.Proofs.YtelflagehingoaaDoor
