/-
  The list of strings that comes in; the size tests; the word that is built of it.
  The word that the law builds of its strings: one literal for each.
  Splitting a word once more: what its literals read as stays. No walk here.
  Splitting a word once more, second part: the pieces that are left read as the state that left them. No walk here.
  What the laws' calls of SplitBraces and Word.Lit do to the word that was built, and to the literals that were handed in.
  The walk of the law FnSplitBracesKeepsLitsAndIsStable.
  What both cards of this seat share: the strings that come in, what they read as behind the call, the two errors of strconv.
-/
import Derived.Test.YtpmmnlgkeanplaaDoorGj
import Derived.WalkSpells
import Derived.OwnWalk
import Derived.Test.YtpmmnlgkeanplaaDoorGc
import Derived.Test.YtpmmnlgkeanplaaDoorRows
import Derived.ProofKit
import Derived.OpenShut
import Derived.SliceStrings
import Derived.Carry
import Derived.ChangeOld
import Derived.Lay
import Derived.LaidOnce
import Derived.Lib.LaidU8
import Derived.LaidLaws
namespace Go.Proofs.YtpmmnlgkeanplaaDoor
open Go.RowKit

/-- The strings that a slice holds. -/
def StrsAt (w : World) (v : Value) (ss : List ByteArray) : Prop :=
  ∃ ao cap, v = .slice ao ss.length cap ∧ ((ao = none ∧ ss = [] ∧ cap = 0) ∨ ∃ a, ao = some a ∧ ∀ i, i < ss.length → w.cell? (a.add i) = some (.string (ss.getD i ByteArray.empty)))
theorem StrsAt.below {w w' : World} {v : Value} {ss : List ByteArray} (h : StrsAt w v ss) (hb : Below w.heap.size w w') : StrsAt w' v ss := by
  obtain ⟨ao, cap, hv, hc⟩ := h
  refine ⟨ao, cap, hv, ?_⟩
  rcases hc with hc | ⟨a, ha, hc⟩
  · exact Or.inl hc
  · exact Or.inr ⟨a, ha, fun i hi => (hb.cell (World.block_lt_of_cell? w _ (hc i hi))).trans (hc i hi)⟩
/-- The cell of an element that is there. -/
theorem some_str {w : World} {ao : Option Addr} {cap k : Nat} {ss : List ByteArray} (h : (ao = none ∧ ss = [] ∧ cap = 0) ∨ ∃ a, ao = some a ∧ ∀ i, i < ss.length → w.cell? (a.add i) = some (.string (ss.getD i ByteArray.empty))) (hk : k < ss.length) :
    ∃ b off, ao = some ⟨b, off, none⟩ ∧ b < w.heap.size ∧ w.cell? ⟨b, off + k, none⟩ = some (.string (ss.getD k ByteArray.empty)) := by
  rcases h with ⟨_, h, _⟩ | ⟨⟨b, off, spot⟩, ha, hc⟩
  · subst h; exact absurd hk (by simp)
  · have hs : spot = none := by simpa [Addr.add] using World.cell?_spot (hc 0 (by omega))
    subst hs
    have h := hc k hk
    rw [Go.WideShapes.add_plain] at h
    exact ⟨b, off, ha, World.block_lt_of_cell? w _ h, h⟩

/-- The sum that the law bounds. -/
def tot : List ByteArray → Nat
  | [] => 0
  | s :: r => 8 + s.size + tot r
theorem tot_take : ∀ (ss : List ByteArray) (k : Nat), k < ss.length → tot (ss.take (k + 1)) = tot (ss.take k) + (8 + (ss.getD k ByteArray.empty).size)
  | [], _, h => absurd h (by simp)
  | s :: r, 0, _ => by simp [tot]
  | s :: r, k + 1, h => by
    have := tot_take r k (by simpa using h)
    simp only [List.take_succ_cons, tot, List.getD_cons_succ] at this ⊢
    omega

set_option maxHeartbeats 1000000 in
theorem tooBig_any (v : Value) (ss : List ByteArray) (w : World) (hl : ss.length ≤ maxLen) (hs : ∀ i, i < ss.length → (ss.getD i ByteArray.empty).size ≤ maxLen) (h : StrsAt w v ss) : Calls Tryd.prog 6 #[v] w fun e w' => ∃ b, e = .returned (.bool b) ∧ w = w' ∧ (b = false → tot ss ≤ 8192) := by
  obtain ⟨ao, cap, rfl, hc⟩ := h
  have HC := Lib.hid hc
  have HS := Lib.hid hs
  clear hc hs
  unfold maxLen at hl
  by_cases hbig : ss.length ≤ 8192
  · have hlz : (0 : Int) ≤ (ss.length : Int) ∧ (ss.length : Int) ≤ 8192 := by omega
    clear hl
    go_enter Tryd.func6, Tryd.ntmps6
    go_wp2
    go_loopg [3, 4] ss.length (fun gk s3 s4 wr => ∃ (k x : Nat), w = wr ∧ k ≤ ss.length ∧ gk = ss.length - k ∧ s3 = .int .i64 x ∧ s4 = .int .i64 k ∧ x = tot (ss.take k) ∧ x ≤ 8192)
    case atStart => exact ⟨0, 0, rfl, Nat.zero_le _, rfl, rfl, rfl, rfl, Nat.zero_le _⟩
    case round =>
      obtain ⟨k, x, rfl, hk, rfl, rfl, rfl, hx, hx2⟩ := hrel
      have hxz : (0 : Int) ≤ (x : Int) ∧ (x : Int) ≤ 8192 := by omega
      by_cases hlt : k < ss.length
      · have hkz : (k : Int) < (ss.length : Int) := by omega
        obtain ⟨b, off, ha, _, hcell⟩ := some_str HC.out hlt
        subst ha
        have ht := tot_take ss k hlt
        have hsz := HS.out k hlt
        unfold maxLen at hsz
        generalize ss.getD k ByteArray.empty = s at hcell ht hsz
        rw [← hx] at ht
        by_cases h1 : s.size ≤ 8192
        · have h1z : (0 : Int) ≤ (s.size : Int) ∧ (s.size : Int) ≤ 8192 := by omega
          have HT := Lib.hid ht
          clear ht hsz hx
          by_cases h2 : x + (8 + s.size) ≤ 8192
          · have h2z : (x : Int) + (8 + (s.size : Int)) ≤ 8192 := by omega
            go_wp2
            go_roundg (ss.length - (k + 1))
            case measure => omega
            case rel => exact ⟨k + 1, x + (8 + s.size), rfl, by omega, rfl, by first | rfl | simp, by first | rfl | simp, HT.out.symm, h2⟩
          · have h2z : 8192 < (x : Int) + (8 + (s.size : Int)) := by omega
            go_wp2
            go_ret
            exact ⟨_, rfl, rfl, fun h => by cases h⟩
        · have h1z : (8192 : Int) < (s.size : Int) ∧ (s.size : Int) ≤ 9223372036854775807 := by omega
          clear ht hsz hx
          go_wp2
          go_ret
          exact ⟨_, rfl, rfl, fun h => by cases h⟩
      · obtain rfl : k = ss.length := by omega
        rw [List.take_length] at hx
        have HX := Lib.hid hx
        clear hx
        go_wp2
        go_ret
        exact ⟨_, rfl, rfl, fun _ => by have := HX.out; omega⟩
  · have hlz : (8192 : Int) < (ss.length : Int) := by omega
    go_enter Tryd.func6, Tryd.ntmps6
    go_wp2
    go_ret
    exact ⟨_, rfl, rfl, fun h => by cases h⟩

set_option maxHeartbeats 1000000 in
theorem bytesK_any (v : Value) (ss : List ByteArray) (w : World) (hl : ss.length ≤ maxLen) (hs : ∀ i, i < ss.length → (ss.getD i ByteArray.empty).size ≤ maxLen) (h : StrsAt w v ss) : Calls Tryd.prog 13 #[v] w fun e w' => ∃ b, e = .returned (.bool b) ∧ w = w' := by
  obtain ⟨ao, cap, rfl, hc⟩ := h
  have HC := Lib.hid hc
  have HS := Lib.hid hs
  clear hc hs
  unfold maxLen at hl
  by_cases hbig : ss.length ≤ 1048576
  · have hlz : (0 : Int) ≤ (ss.length : Int) ∧ (ss.length : Int) ≤ 1048576 := by omega
    clear hl
    go_enter Tryd.func13, Tryd.ntmps13
    go_wp2
    go_loopg [3, 4] ss.length (fun gk s3 s4 wr => ∃ (k x : Nat), w = wr ∧ k ≤ ss.length ∧ gk = ss.length - k ∧ s3 = .int .i64 x ∧ s4 = .int .i64 k ∧ x ≤ 1048576)
    case atStart => exact ⟨0, ss.length, rfl, Nat.zero_le _, rfl, by first | rfl | simp, rfl, hbig⟩
    case round =>
      obtain ⟨k, x, rfl, hk, rfl, rfl, rfl, hx2⟩ := hrel
      have hxz : (0 : Int) ≤ (x : Int) ∧ (x : Int) ≤ 1048576 := by omega
      by_cases hlt : k < ss.length
      · have hkz : (k : Int) < (ss.length : Int) := by omega
        obtain ⟨b, off, ha, _, hcell⟩ := some_str HC.out hlt
        subst ha
        have hsz := HS.out k hlt
        unfold maxLen at hsz
        generalize ss.getD k ByteArray.empty = s at hcell hsz
        by_cases h1 : s.size ≤ 1048576
        · have h1z : (0 : Int) ≤ (s.size : Int) ∧ (s.size : Int) ≤ 1048576 := by omega
          clear hsz
          by_cases h2 : x + s.size ≤ 1048576
          · have h2z : (x : Int) + (s.size : Int) ≤ 1048576 := by omega
            go_wp2
            go_roundg (ss.length - (k + 1))
            case measure => omega
            case rel => exact ⟨k + 1, x + s.size, rfl, by omega, rfl, by first | rfl | simp, by first | rfl | simp, h2⟩
          · have h2z : 1048576 < (x : Int) + (s.size : Int) := by omega
            go_wp2
            go_ret
            exact ⟨_, rfl, rfl⟩
        · have h1z : (1048576 : Int) < (s.size : Int) ∧ (s.size : Int) ≤ 9223372036854775807 := by omega
          clear hsz
          go_wp2
          go_ret
          exact ⟨_, rfl, rfl⟩
      · obtain rfl : k = ss.length := by omega
        go_wp2
        go_ret
        exact ⟨_, rfl, rfl⟩
  · have hlz : (1048576 : Int) < (ss.length : Int) := by omega
    go_enter Tryd.func13, Tryd.ntmps13
    go_wp2
    go_ret
    exact ⟨_, rfl, rfl⟩

set_option maxHeartbeats 1000000 in
theorem bytesM_any (v : Value) (ss : List ByteArray) (w : World) (hl : ss.length ≤ maxLen) (hs : ∀ i, i < ss.length → (ss.getD i ByteArray.empty).size ≤ maxLen) (h : StrsAt w v ss) : Calls Tryd.prog 5 #[v] w fun e w' => ∃ b, e = .returned (.bool b) ∧ w = w' := by
  obtain ⟨ao, cap, rfl, hc⟩ := h
  have HC := Lib.hid hc
  have HS := Lib.hid hs
  clear hc hs
  unfold maxLen at hl
  by_cases hbig : ss.length ≤ 1048576
  · have hlz : (0 : Int) ≤ (ss.length : Int) ∧ (ss.length : Int) ≤ 1048576 := by omega
    clear hl
    go_enter Tryd.func5, Tryd.ntmps5
    go_wp2
    go_loopg [3, 4] ss.length (fun gk s3 s4 wr => ∃ (k x : Nat), w = wr ∧ k ≤ ss.length ∧ gk = ss.length - k ∧ s3 = .int .i64 x ∧ s4 = .int .i64 k ∧ x ≤ 1048576)
    case atStart => exact ⟨0, ss.length, rfl, Nat.zero_le _, rfl, by first | rfl | simp, rfl, hbig⟩
    case round =>
      obtain ⟨k, x, rfl, hk, rfl, rfl, rfl, hx2⟩ := hrel
      have hxz : (0 : Int) ≤ (x : Int) ∧ (x : Int) ≤ 1048576 := by omega
      by_cases hlt : k < ss.length
      · have hkz : (k : Int) < (ss.length : Int) := by omega
        obtain ⟨b, off, ha, _, hcell⟩ := some_str HC.out hlt
        subst ha
        have hsz := HS.out k hlt
        unfold maxLen at hsz
        generalize ss.getD k ByteArray.empty = s at hcell hsz
        by_cases h1 : s.size ≤ 1048576
        · have h1z : (0 : Int) ≤ (s.size : Int) ∧ (s.size : Int) ≤ 1048576 := by omega
          clear hsz
          by_cases h2 : x + s.size ≤ 1048576
          · have h2z : (x : Int) + (s.size : Int) ≤ 1048576 := by omega
            go_wp2
            go_roundg (ss.length - (k + 1))
            case measure => omega
            case rel => exact ⟨k + 1, x + s.size, rfl, by omega, rfl, by first | rfl | simp, by first | rfl | simp, h2⟩
          · have h2z : 1048576 < (x : Int) + (s.size : Int) := by omega
            go_wp2
            go_ret
            exact ⟨_, rfl, rfl⟩
        · have h1z : (1048576 : Int) < (s.size : Int) ∧ (s.size : Int) ≤ 9223372036854775807 := by omega
          clear hsz
          go_wp2
          go_ret
          exact ⟨_, rfl, rfl⟩
      · obtain rfl : k = ss.length := by omega
        go_wp2
        go_ret
        exact ⟨_, rfl, rfl⟩
  · have hlz : (1048576 : Int) < (ss.length : Int) := by omega
    go_enter Tryd.func5, Tryd.ntmps5
    go_wp2
    go_ret
    exact ⟨_, rfl, rfl⟩
end Go.Proofs.YtpmmnlgkeanplaaDoor

namespace Go.Proofs.YtpmmnlgkeanplaaDoor
open Go.RowKit
set_option linter.unusedSectionVars false

/-- The building as far as it has come: ls: the literals' blocks that lie in the slice; qs: those that the word has. -/
structure Mk (w : World) (ss : List ByteArray) (ls qs : List Nat) (pv : Value) (wx : World) : Prop where
  word : wx.heap[w.heap.size]? = some (.cells #[pv] 39 (0, 0))
  own : wx.ownsRow (w.heap.size + 2) 41 1 pv qs.length (qs.map fun q => .iface 36 (.pointer (some ⟨q, 0, none⟩)))
  arr : ∃ a : Array Value, wx.heap[w.heap.size + 1]? = some (.cells a 36 (0, 0)) ∧ a.toList = (ls.map fun q => Value.pointer (some ⟨q, 0, none⟩)) ++ List.replicate (ss.length - ls.length) (.pointer none)
  lits : ∀ i q, ls[i]? = some q → w.heap.size + 1 < q ∧ LitAt wx q (ss.getD i ByteArray.empty)
  bel : Below w.heap.size w wx
  size : w.heap.size + 2 ≤ wx.heap.size

theorem Mk.alloc {w wx : World} {ss : List ByteArray} {ls qs : List Nat} {pv : Value} (h : Mk w ss ls qs pv wx) (o : Obj) : Mk w ss ls qs pv (wx.alloc o) := by
  have hs := h.size
  have old : ∀ k, k < wx.heap.size → (wx.alloc o).heap[k]? = wx.heap[k]? := fun k hk => Below.heap_alloc _ _ _ hk
  obtain ⟨a, ha, ha2⟩ := h.arr
  exact {
    word := (old _ (by omega)).trans h.word
    own := h.own.alloc _
    arr := ⟨a, (old _ (by omega)).trans ha, ha2⟩
    lits := fun i q hi => ⟨(h.lits i q hi).1, by
      obtain ⟨x, y, z, u, hq⟩ := (h.lits i q hi).2
      exact ⟨x, y, z, u, (old _ (Array.getElem?_eq_some_iff.1 hq).1).trans hq⟩⟩
    bel := h.bel.alloc (by omega) _
    size := by simp only [World.size_alloc]; omega }

theorem Mk.store {w wx : World} {ss : List ByteArray} {ls qs : List Nat} {pv : Value} (h : Mk w ss ls qs pv wx) {q : Nat} (hq : w.heap.size + 1 < q) (hL : LitAt wx q (ss.getD ls.length ByteArray.empty)) (hl : ls.length < ss.length) : Mk w ss (ls ++ [q]) qs pv (wx.setCell ⟨w.heap.size + 1, ls.length, none⟩ (.pointer (some ⟨q, 0, none⟩))) := by
  have hs := h.size
  have old : ∀ k, k ≠ w.heap.size + 1 → (wx.setCell ⟨w.heap.size + 1, ls.length, none⟩ (.pointer (some ⟨q, 0, none⟩))).heap[k]? = wx.heap[k]? := fun k hk => Below.heap_setCell _ _ _ _ hk
  obtain ⟨a, ha, ha2⟩ := h.arr
  have lit : ∀ k s, w.heap.size + 1 < k → LitAt wx k s → LitAt (wx.setCell ⟨w.heap.size + 1, ls.length, none⟩ (.pointer (some ⟨q, 0, none⟩))) k s := fun k s hk ⟨x, y, z, u, hq⟩ => ⟨x, y, z, u, (old _ (by omega)).trans hq⟩
  exact {
    word := (old _ (by omega)).trans h.word
    own := by
      refine ⟨h.own.1, ?_⟩
      rcases h.own.2 with h1 | ⟨g, cap, cur, hv, hg, hb, r⟩
      · exact Or.inl h1
      · exact Or.inr ⟨g, cap, cur, hv, hg, (old _ (by omega)).trans hb, r⟩
    arr := by
      refine ⟨_, heap_setCell_same _ _ _ _ _ _ ha, ?_⟩
      rw [Array.toList_setIfInBounds, ha2]
      have e : ss.length - ls.length = (ss.length - (ls ++ [q]).length) + 1 := by simp; omega
      rw [e, List.replicate_succ, List.set_append_right _ _ (by simp)]
      simp
    lits := fun i k hi => by
      by_cases hlt : i < ls.length
      · rw [List.getElem?_append_left hlt] at hi
        obtain ⟨h1, h2⟩ := h.lits i k hi
        exact ⟨h1, lit k _ h1 h2⟩
      · rw [List.getElem?_append_right (by omega)] at hi
        have hi0 : i = ls.length := by
          have := (List.getElem?_eq_some_iff.1 hi).1
          simp at this
          omega
        subst hi0
        simp at hi
        subst hi
        exact ⟨hq, lit _ _ hq hL⟩
    bel := h.bel.setCell (p := ⟨w.heap.size + 1, ls.length, none⟩) (by show w.heap.size ≤ w.heap.size + 1; omega) _
    size := by simp only [World.size_setCell]; omega }

theorem Mk.push {w wx w1 : World} {ss : List ByteArray} {ls qs : List Nat} {pv : Value} (h : Mk w ss ls qs pv wx) {q g cap : Nat} {W : World} (hW : Below wx.heap.size wx W)
    (hown : w1.ownsRow (w.heap.size + 2) 41 1 (.slice (some ⟨g, 0, none⟩) (qs.length + 1) cap) (qs.length + 1) ((qs.map fun q => .iface 36 (.pointer (some ⟨q, 0, none⟩))) ++ [.iface 36 (.pointer (some ⟨q, 0, none⟩))])) (hg : W.grownBy w1 pv.ownBlock) :
    Mk w ss ls (qs ++ [q]) (.slice (some ⟨g, 0, none⟩) (qs.length + 1) cap) (w1.setCell ⟨w.heap.size, 0, none⟩ (.slice (some ⟨g, 0, none⟩) (qs.length + 1) cap)) ∧ w1.heap[w.heap.size]? = some (.cells #[pv] 39 (0, 0)) := by
  have hs := h.size
  have hWs := hW.size
  have hb : ∀ k, k < wx.heap.size → W.heap[k]? = wx.heap[k]? := fun k hk => hW.block k hk
  obtain ⟨a, ha, ha2⟩ := h.arr
  have hob : ∀ k, pv.ownBlock = some k → w.heap.size + 2 ≤ k ∧ ∃ c fz, wx.heap[k]? = some (.cells c 41 fz) := fun k hk => by
    rcases h.own.2 with ⟨hv, _⟩ | ⟨g, cap, cur, hv, hg, hb, _⟩
    · rw [hv] at hk
      cases hk
    · rw [hv] at hk
      cases hk
      exact ⟨hg, _, _, hb⟩
  have old : ∀ (k : Nat) (c : Array Value) (T : TypeId), wx.heap[k]? = some (.cells c T (0, 0)) → T ≠ 41 → w1.heap[k]? = some (.cells c T (0, 0)) := fun k c T hk hT => by
    have hlt := (Array.getElem?_eq_some_iff.1 hk).1
    rw [hg.block k (by omega) (fun e => by
      obtain ⟨_, c2, fz, hc⟩ := hob k e.symm
      rw [hk] at hc
      simp only [Option.some.injEq, Obj.cells.injEq] at hc
      exact hT hc.2.1), hb k hlt]
    exact hk
  have hword := old _ _ _ h.word (by decide)
  refine ⟨?_, hword⟩
  have set : ∀ k, k ≠ w.heap.size → (w1.setCell ⟨w.heap.size, 0, none⟩ (.slice (some ⟨g, 0, none⟩) (qs.length + 1) cap)).heap[k]? = w1.heap[k]? := fun k hk => Below.heap_setCell _ _ _ _ hk
  have b1 : Below w.heap.size w w1 := (h.bel.trans (hW.mono (by omega))).grown hg (by omega) (fun k hk => by have := (hob k hk).1; omega)
  exact {
    word := by
      rw [heap_setCell_same _ _ _ _ _ _ hword]
      rfl
    own := by
      have hl : (qs ++ [q]).length = qs.length + 1 := by simp
      rw [hl]
      refine ⟨by simp, ?_⟩
      rcases hown.2 with ⟨hv, _⟩ | ⟨g2, cap2, cur, hv, hg2, hb2, r1, r2, r3, r4⟩
      · cases hv
      · refine Or.inr ⟨g2, cap2, cur, hv, hg2, (set _ (by omega)).trans hb2, r1, r2, r3, ?_⟩
        rw [r4, List.map_append]
        rfl
    arr := ⟨a, (set _ (by omega)).trans (old _ _ _ ha (by decide)), ha2⟩
    lits := fun i k hi => ⟨(h.lits i k hi).1, by
      obtain ⟨x, y, z, u, hq⟩ := (h.lits i k hi).2
      have := (h.lits i k hi).1
      exact ⟨x, y, z, u, (set _ (by omega)).trans (old _ _ _ hq (by decide))⟩⟩
    bel := b1.setCell (p := ⟨w.heap.size, 0, none⟩) (Nat.le_refl _) _
    size := by
      have := hg.size
      simp only [World.size_setCell]
      omega }

theorem Tryd.info_plit : (Tryd.prog.info? 36).map (fun i => (i.zero, i.size, i.bytes)) = some (some (.pointer none), 1, 8) := by kernel_rfl

set_option maxRecDepth 100000 in
set_option maxHeartbeats 2000000 in
theorem build_any (v : Value) (ss : List ByteArray) (w : World) (hl : ss.length ≤ 100000) (h : StrsAt w v ss) :
    Calls Tryd.prog 7 #[v] w fun e w' => ∃ ls pv, e = .returned (.tuple #[.pointer (some ⟨w.heap.size, 0, none⟩), .slice (some ⟨w.heap.size + 1, 0, none⟩) ss.length ss.length]) ∧ Mk w ss ls ls pv w' ∧ ls.length = ss.length := by
  haveI : Pw := ⟨0⟩
  obtain ⟨i2, hi2, hx0, hx1, hx2⟩ := info_parts Tryd.info_plit
  obtain ⟨ib, hib, hb0, hb1, hb2⟩ := info_parts Tryd.info_part
  obtain ⟨ao, cap, rfl, hc⟩ := h
  have HC := Lib.hid hc
  clear hc
  have hlz : (0 : Int) ≤ (ss.length : Int) ∧ (ss.length : Int) ≤ 100000 := by omega
  go_enter Tryd.func7, Tryd.ntmps7
  go_wp2_with (first
    | (at_make; refine wpList_make_full _ rfl _ _ 25 rfl (w.heap.size + 1) 36 i2 (.pointer none) 1 Tryd.underlying25 hi2 hx0 hx1 _ _ _ _ ss.length rfl rfl rfl rfl (by rw [hx2]; omega) (by unfold maxLen; omega) (by simp) ?_; intro wm hown2 hgrow2))
  have hmk : Mk w ss [] [] (.slice none 0 0) wm := by
    have hs0 : (w.alloc (.cells #[.slice none 0 0] 39)).heap.size = w.heap.size + 1 := by simp only [World.size_alloc]
    have hw0 : wm.heap[w.heap.size]? = some (.cells #[.slice none 0 0] 39 (0, 0)) := by
      rw [hgrow2.block _ (by omega) (by simp)]
      exact heap_alloc_new w _
    obtain ⟨cur, hb, hcur⟩ : ∃ cur : Array Value, wm.heap[w.heap.size + 1]? = some (.cells cur 36 (0, 0)) ∧ cur.toList = List.replicate ss.length (.pointer none) := by
      rcases hown2.2 with ⟨hv, _⟩ | ⟨g, cap, cur, hv, hg, hb, r1, r2, r3, r4⟩
      · cases hv
      · simp only [Value.slice.injEq, Option.some.injEq, Addr.mk.injEq] at hv
        obtain ⟨⟨rfl, _⟩, _, hcap⟩ := hv
        refine ⟨cur, by rw [← hs0]; exact hb, ?_⟩
        have e1 : cur.toList.length = ss.length * 1 := by rw [Array.length_toList, r3]; congr 1; omega
        rw [List.take_of_length_le (by omega)] at r4
        rw [r4]
        simp [toList_madeCells_one, Value.cells]
    exact {
      word := hw0
      own := World.ownsRow_nil _ _ _ _
      arr := ⟨cur, hb, by rw [hcur]; rfl⟩
      lits := fun i q h => by simp at h
      bel := ((Below.refl _ _).alloc (Nat.le_refl _) _).grown hgrow2 (by omega) (by simp)
      size := (Array.getElem?_eq_some_iff.1 hb).1 }
  have HI := Lib.hid hmk
  clear hmk hown2 hgrow2
  go_loopg [6] ss.length (fun gk s6 wr => ∃ ls pv, ls.length ≤ ss.length ∧ gk = ss.length - ls.length ∧ s6 = .int .i64 (ls.length : Int) ∧ Mk w ss ls ls pv wr)
  case atStart => exact ⟨[], _, Nat.zero_le _, rfl, rfl, HI.out⟩
  case round =>
    obtain ⟨ls, pv, hk, rfl, rfl, hm⟩ := hrel
    clear HI
    have HM := Lib.hid hm
    clear hm
    by_cases hlt : ls.length < ss.length
    · have hkz : (ls.length : Int) < (ss.length : Int) := by omega
      obtain ⟨b, off, hab, hbl, hck⟩ := some_str HC.out hlt
      subst hab
      have hcell := (HM.out.bel.cell (p := ⟨b, off + ls.length, none⟩) hbl).trans hck
      clear hck
      obtain ⟨s, hs⟩ : ∃ s, ss.getD ls.length ByteArray.empty = s := ⟨_, rfl⟩
      rw [hs] at hcell
      have HS := Lib.hid hs
      clear hs
      obtain ⟨q, hq⟩ : ∃ q, wr.heap.size = q := ⟨_, rfl⟩
      have HQ := Lib.hid hq
      clear hq
      go_upto_region 7 with fail
      have hm1 := HM.out.alloc (.cells #[.int .u32 0, .int .u32 0, .int .u32 0, .int .u32 0, .string s] 35)
      have hl1 : LitAt (wr.alloc (.cells #[.int .u32 0, .int .u32 0, .int .u32 0, .int .u32 0, .string s] 35)) q s := ⟨0, 0, 0, 0, by rw [← HQ.out]; exact heap_alloc_new wr _⟩
      rw [HQ.out]
      clear hcell
      generalize wr.alloc (.cells #[.int .u32 0, .int .u32 0, .int .u32 0, .int .u32 0, .string s] 35) = wy at *
      obtain ⟨a1, ha1, ha2⟩ := hm1.arr
      have hc1 : wy.cell? ⟨w.heap.size + 1, ls.length, none⟩ = some (.pointer none) := by
        rw [Lib.cell_of_heap ha1, ← Array.getElem?_toList, ha2, List.getElem?_append_right (by simp)]
        simp [List.getElem?_replicate]
        omega
      have hf1 : wy.frozen? ⟨w.heap.size + 1, ls.length, none⟩ = false := Lib.frozen_of_heap ha1 ls.length
      have HM1 := Lib.hid (And.intro hm1 hl1)
      clear hm1 hl1 ha1 ha2
      go_upto_region 8 with fail
      have hm2 := HM1.out.1.store (q := q) (by have := HM.out.size; have := HQ.out; omega) (by rw [HS.out]; exact HM1.out.2) hlt
      clear hc1 hf1 HM1
      generalize wy.setCell ⟨w.heap.size + 1, ls.length, none⟩ (.pointer (some ⟨q, 0, none⟩)) = wz at *
      obtain ⟨s8, n8, c8, rfl⟩ := own_slice hm2.own
      have hc2 : wz.cell? ⟨w.heap.size, 0, none⟩ = some (.slice s8 n8 c8) := (Lib.cell_of_heap hm2.word 0).trans rfl
      have HM2 := Lib.hid hm2
      clear hm2
      go_wp2_with (at_builtin; refine wpList_append_lies _ rfl _ _ 37 rfl (w.heap.size + 2) 41 ib .nilIface 1 16 Tryd.underlying37 hib hb0 hb1 hb2 rfl (by decide) _ _ _ rfl (HM2.out.own.alloc _) ⟨wz.heap.size, 0, none⟩ 1 1 [.iface 36 (.pointer (some ⟨q, 0, none⟩))] rfl rfl (cell_one_new wz _ _) (by intro u hu; simp at hu; subst hu; rfl) (by decide) (by unfold maxLen; omega) (by omega) (by simp only [World.size_alloc]; have := HM2.out.size; omega) _ rfl ?_; intro g cap2 w1 hown1 hgrow1 hat1 hlt1; obtain ⟨hm3, hw3⟩ := HM2.out.push (q := q) ((Below.refl _ _).alloc (Nat.le_refl _) _) hown1 hgrow1; have hc3 : w1.cell? ⟨w.heap.size, 0, none⟩ = some (.slice s8 n8 c8) := (Lib.cell_of_heap hw3 0).trans rfl; have hf3 : w1.frozen? ⟨w.heap.size, 0, none⟩ = false := Lib.frozen_of_heap hw3 0; have HM3 := Lib.hid hm3; clear hm3 hw3 hown1 hgrow1 hat1)
      go_roundg (ss.length - (ls.length + 1))
      case measure => omega
      case rel => exact ⟨ls ++ [q], _, by simp; omega, by simp, by first | rfl | simp, HM3.out⟩
    · obtain hle : ls.length = ss.length := by omega
      rw [hle]
      go_wp2
      go_ret2
      exact ⟨ls, pv, rfl, HM.out, hle⟩
end Go.Proofs.YtpmmnlgkeanplaaDoor

namespace Go.Proofs.YtpmmnlgkeanplaaDoor
open Go.RowKit

/-- What is left of a state once the braces that are not closed fall back to text. -/
def render (st : St) : List Part := unwind st.stack st.top

theorem sepBy_last (sep : ByteArray) : ∀ (es : List (List Part)) (a qs : List Part), sepBy sep (es ++ [a ++ qs]) = sepBy sep (es ++ [a]) ++ qs
  | [], _, _ => rfl
  | [e], a, qs => by simp [sepBy]
  | e :: e2 :: r, a, qs => by
    have h := sepBy_last sep (e2 :: r) a qs
    simp only [List.cons_append] at h ⊢
    simp [sepBy, h]
theorem sepBy_more (sep : ByteArray) : ∀ (es : List (List Part)), es ≠ [] → sepBy sep (es ++ [[]]) = sepBy sep es ++ [.lit sep]
  | [], h => absurd rfl h
  | [e], _ => by simp [sepBy]
  | e :: e2 :: r, _ => by
    have h := sepBy_more sep (e2 :: r) (by simp)
    simp only [List.cons_append] at h ⊢
    simp [sepBy, h]
theorem unclosed_push (f : Frame) (ps : List Part) : unclosed { f with acc := f.acc ++ ps } = unclosed f ++ ps := by
  simp only [unclosed, Frame.elems, List.cons_append, sepBy_last]
theorem unwind_cons (top : List Part) : ∀ (r : List Frame) (f : Frame), unwind (f :: r) top = unwind r top ++ unclosed f
  | [], f => by rw [unwind, unwind]
  | g :: r, f => by
    rw [unwind, unwind_cons top r, unwind_cons top r g, unclosed_push, List.append_assoc]
theorem render_push (st : St) (ps : List Part) : render (st.push ps) = render st ++ ps := by
  obtain ⟨top, stack⟩ := st
  cases stack with
  | nil =>
    show unwind [] (top ++ ps) = unwind [] top ++ ps
    rw [unwind, unwind]
  | cons f r =>
    show unwind ({ f with acc := f.acc ++ ps } :: r) top = unwind (f :: r) top ++ ps
    rw [unwind_cons, unwind_cons, unclosed_push, List.append_assoc]

/- Texts. -/
def oapp : Option (List UInt8) → Option (List UInt8) → Option (List UInt8)
  | some x, some y => some (x ++ y)
  | _, _ => none
theorem oapp_none (t : Option (List UInt8)) : oapp t none = none := by cases t <;> rfl
theorem none_oapp (t : Option (List UInt8)) : oapp none t = none := rfl
theorem litText_append : ∀ (a b : List Part), litText (a ++ b) = oapp (litText a) (litText b)
  | [], b => by
    show litText b = oapp (some []) (litText b)
    cases litText b <;> rfl
  | .lit s :: r, b => by
    have h := litText_append r b
    simp only [List.cons_append, litText, h]
    cases litText r <;> cases litText b <;> simp [oapp]
  | .brace _ _ :: r, b => rfl
  | .other _ _ :: r, b => rfl
theorem litText_one (s : ByteArray) : litText [.lit s] = some s.data.toList := by
  simp [litText]

def absF (f : Frame) : Bool × List (Option (List UInt8)) × Option (List UInt8) := (f.seq, f.done.map litText, litText f.acc)
/-- The state by its texts. -/
def abs (st : St) : Option (List UInt8) × List (Bool × List (Option (List UInt8)) × Option (List UInt8)) := (litText st.top, st.stack.map absF)

theorem abs_cases {a b : St} (h : abs a = abs b) : litText a.top = litText b.top ∧ ((a.stack = [] ∧ b.stack = []) ∨ ∃ f r g q, a.stack = f :: r ∧ b.stack = g :: q ∧ f.seq = g.seq ∧ f.done.map litText = g.done.map litText ∧ litText f.acc = litText g.acc ∧ r.map absF = q.map absF) := by
  obtain ⟨at_, as_⟩ := a
  obtain ⟨bt_, bs_⟩ := b
  simp only [abs, Prod.mk.injEq] at h
  refine ⟨h.1, ?_⟩
  cases as_ with
  | nil =>
    cases bs_ with
    | nil => exact Or.inl ⟨rfl, rfl⟩
    | cons g q => simp at h
  | cons f r =>
    cases bs_ with
    | nil => simp at h
    | cons g q =>
      simp only [List.map_cons, List.cons.injEq, absF, Prod.mk.injEq] at h
      exact Or.inr ⟨f, r, g, q, rfl, rfl, h.2.1.1, h.2.1.2.1, h.2.1.2.2, h.2.2⟩

theorem abs_push {a b : St} (h : abs a = abs b) {ps qs : List Part} (hp : litText ps = litText qs) : abs (a.push ps) = abs (b.push qs) := by
  obtain ⟨ht, hc⟩ := abs_cases h
  obtain ⟨at_, as_⟩ := a
  obtain ⟨bt_, bs_⟩ := b
  simp only at ht hc
  rcases hc with ⟨rfl, rfl⟩ | ⟨f, r, g, q, rfl, rfl, h1, h2, h3, h4⟩
  · simp [abs, St.push, litText_append, ht, hp]
  · simp [abs, absF, St.push, litText_append, ht, hp, h1, h2, h3]
    exact h4
theorem abs_flush {a b : St} (h : abs a = abs b) (v : ByteArray) (last j : Nat) : abs (a.flush v last j) = abs (b.flush v last j) := by
  unfold St.flush
  split
  · exact h
  · exact abs_push h rfl

theorem elems_text {f g : Frame} (h2 : f.done.map litText = g.done.map litText) (h3 : litText f.acc = litText g.acc) : f.elems.map litText = g.elems.map litText := by
  simp [Frame.elems, h2, h3]
theorem sepBy_text (sep : ByteArray) : ∀ (es fs : List (List Part)), es.map litText = fs.map litText → litText (sepBy sep es) = litText (sepBy sep fs)
  | [], fs, h => by
    cases fs with
    | nil => rfl
    | cons a b => simp at h
  | [e], fs, h => by
    match fs, h with
    | [], h => simp at h
    | [a], h => simpa [sepBy] using h
    | a :: b :: c, h => simp at h
  | e :: e2 :: r, fs, h => by
    match fs, h with
    | [], h => simp at h
    | [a], h => simp at h
    | a :: b :: c, h =>
      have h2 := sepBy_text sep (e2 :: r) (b :: c) (by simp only [List.map_cons, List.cons.injEq] at h ⊢; exact h.2)
      simp only [List.map_cons, List.cons.injEq] at h
      have e1 : sepBy sep (e :: e2 :: r) = e ++ ([.lit sep] ++ sepBy sep (e2 :: r)) := rfl
      have e3 : sepBy sep (a :: b :: c) = a ++ ([.lit sep] ++ sepBy sep (b :: c)) := rfl
      rw [e1, e3, litText_append, litText_append, litText_append a, litText_append _ (sepBy sep (b :: c)), h2, h.1]
theorem getD_text : ∀ (es fs : List (List Part)) (k : Nat), es.map litText = fs.map litText → litOf (es.getD k []) = litOf (fs.getD k [])
  | [], fs, k, h => by
    cases fs with
    | nil => rfl
    | cons a b => simp at h
  | e :: r, fs, k, h => by
    cases fs with
    | nil => simp at h
    | cons a b =>
      simp only [List.map_cons, List.cons.injEq] at h
      cases k with
      | zero =>
        show litOf e = litOf a
        rw [litOf, litOf, h.1]
      | succ k => exact getD_text r b k h.2
theorem broken_text {es fs : List (List Part)} (h : es.map litText = fs.map litText) : broken es = broken fs := by
  have hl : es.length = fs.length := by simpa using congrArg List.length h
  simp only [broken, getD_text es fs 0 h, getD_text es fs 1 h, getD_text es fs 2 h, hl]
theorem closed_text {f g : Frame} (h1 : f.seq = g.seq) (h2 : f.done.map litText = g.done.map litText) (h3 : litText f.acc = litText g.acc) : litText (closed f) = litText (closed g) := by
  have he := elems_text h2 h3
  have hl : f.elems.length = g.elems.length := by simpa using congrArg List.length he
  have hs := sepBy_text dots _ _ he
  unfold closed
  rw [hl, h1, broken_text he]
  split
  · simp only [litText_append, h3]
  · split
    · split
      · simp only [litText_append, hs]
      · rfl
    · rfl
theorem unclosed_text {f g : Frame} (h1 : f.seq = g.seq) (h2 : f.done.map litText = g.done.map litText) (h3 : litText f.acc = litText g.acc) : litText (unclosed f) = litText (unclosed g) := by
  have he := elems_text h2 h3
  have e1 : ∀ k : Frame, unclosed k = [.lit lb] ++ sepBy (if k.seq then dots else cm) k.elems := fun _ => rfl
  rw [e1, e1, litText_append, litText_append, h1, sepBy_text _ _ _ he]
theorem render_text : ∀ {a b : St}, abs a = abs b → litText (render a) = litText (render b) := by
  intro a b h
  obtain ⟨at_, as_⟩ := a
  obtain ⟨bt_, bs_⟩ := b
  induction as_ generalizing bs_ with
  | nil =>
    obtain ⟨ht, hc⟩ := abs_cases h
    rcases hc with ⟨_, h2⟩ | ⟨f, r, g, q, h1, _⟩
    · simp only at h2 ht
      subst h2
      show litText (unwind [] at_) = litText (unwind [] bt_)
      rw [unwind, unwind, ht]
    · simp at h1
  | cons f r ih =>
    obtain ⟨ht, hc⟩ := abs_cases h
    rcases hc with ⟨h1, _⟩ | ⟨f1, r1, g, q, h1, h2, h3, h4, h5, h6⟩
    · simp at h1
    · simp only [List.cons.injEq] at h1 h2 ht
      obtain ⟨rfl, rfl⟩ := h1
      subst h2
      have h7 := ih q (by simp only [abs, ht, h6])
      show litText (unwind (f :: r) at_) = litText (unwind (g :: q) bt_)
      rw [unwind_cons, unwind_cons, litText_append, litText_append, unclosed_text h3 h4 h5]
      have h8 : litText (unwind r at_) = litText (unwind q bt_) := h7
      rw [h8]

/- Tokens. -/
inductive Tok where
  | opn | com | dts | cls
def Tok.txt : Tok → ByteArray
  | .opn => lb
  | .com => cm
  | .dts => dots
  | .cls => rb
/-- What of the state decides on tokens. -/
def hd (st : St) : Option (Bool × Bool) := match st.stack with
  | [] => none
  | f :: _ => some (f.seq, f.done.isEmpty)
def tokAt (v : ByteArray) (j : Nat) (h : Option (Bool × Bool)) : Option Tok :=
  if bt v j = 92 then none
  else if bt v j = 123 then some .opn
  else if bt v j = 44 then h.map fun _ => .com
  else if bt v j = 46 then h.bind fun x => if v.size ≤ j + 1 ∨ bt v (j + 1) ≠ 46 then none else if x.1 = false ∧ x.2 = false then none else some .dts
  else if bt v j = 125 then h.map fun _ => .cls
  else none
def act (t : Tok) (st : St) : St := match t, st.stack with
  | .opn, s => { st with stack := ⟨false, [], []⟩ :: s }
  | _, [] => st
  | .com, f :: r => { st with stack := (if f.seq then ⟨false, [sepBy dots f.elems], []⟩ else ⟨false, f.elems, []⟩) :: r }
  | .dts, f :: r => { st with stack := ⟨true, f.elems, []⟩ :: r }
  | .cls, f :: r => ({ st with stack := r } : St).push (closed f)
def nxt (v : ByteArray) (j : Nat) : Nat := if bt v j = 92 then j + 2 else j + 1

theorem flush_stack_nil {st : St} (h : st.stack = []) (v : ByteArray) (last j : Nat) : (st.flush v last j).stack = [] := by
  obtain ⟨t, s⟩ := st
  simp only at h
  subst h
  unfold St.flush
  split <;> rfl
theorem flush_stack_cons {st : St} {f : Frame} {r : List Frame} (h : st.stack = f :: r) (v : ByteArray) (last j : Nat) : ∃ a, (st.flush v last j).stack = { f with acc := a } :: r := by
  obtain ⟨t, s⟩ := st
  simp only at h
  subst h
  unfold St.flush
  split
  · exact ⟨f.acc, rfl⟩
  · exact ⟨_, rfl⟩
theorem isEmpty_false {α : Type} (l : List α) : l.isEmpty = false ↔ l ≠ [] := by cases l <;> simp
theorem stepB_eq (v : ByteArray) (j last : Nat) (st : St) : stepB v j last st = match tokAt v j (hd st) with
    | none => (nxt v j, last, st)
    | some t => (j + t.txt.size, j + t.txt.size, act t (st.flush v last j)) := by
  have z1 : lb.size = 1 := rfl
  have z2 : cm.size = 1 := rfl
  have z3 : rb.size = 1 := rfl
  unfold stepB tokAt nxt hd act
  by_cases h1 : bt v j = 92
  · simp [h1]
  by_cases h2 : bt v j = 123
  · simp [h2, Tok.txt, z1]
  by_cases h3 : bt v j = 44
  · cases hs : st.stack with
    | nil => simp [h3, flush_stack_nil hs]
    | cons f r =>
      obtain ⟨a, ha⟩ := flush_stack_cons hs v last j
      simp [h3, ha, Tok.txt, z2]
  by_cases h4 : bt v j = 46
  · cases hs : st.stack with
    | nil => simp [h4]
    | cons f r =>
      obtain ⟨a, ha⟩ := flush_stack_cons hs v last j
      by_cases h5 : v.size ≤ j + 1 ∨ bt v (j + 1) ≠ 46
      · simp [h4, h5]
      · by_cases h6 : f.seq = false ∧ f.done ≠ []
        · have h7 : f.done.isEmpty = false := (isEmpty_false _).2 h6.2
          simp [h4, h5, h6.1, h6.2, h7]
        · have h7 : ¬ (f.seq = false ∧ f.done.isEmpty = false) := fun e => h6 ⟨e.1, (isEmpty_false _).1 e.2⟩
          rw [if_neg h1, if_neg h2, if_neg h3, if_pos h4]
          simp only [h4, if_true, Option.bind_some, if_neg h5, if_neg h6, if_neg h7, ha]
          rfl
  by_cases h8 : bt v j = 125
  · cases hs : st.stack with
    | nil => simp [h8, flush_stack_nil hs]
    | cons f r =>
      obtain ⟨a, ha⟩ := flush_stack_cons hs v last j
      simp [h8, ha, Tok.txt, z3]
  · simp [h1, h2, h3, h4, h8]

theorem abs_hd {a b : St} (h : abs a = abs b) : hd a = hd b := by
  obtain ⟨_, hc⟩ := abs_cases h
  rcases hc with ⟨h1, h2⟩ | ⟨f, r, g, q, h1, h2, h3, h4, h5, h6⟩
  · simp only [hd, h1, h2]
  · have e : f.done.isEmpty = g.done.isEmpty := by
      have := congrArg List.isEmpty h4
      simpa using this
    simp only [hd, h1, h2, h3, e]
theorem abs_act {a b : St} (h : abs a = abs b) (t : Tok) : abs (act t a) = abs (act t b) := by
  obtain ⟨ht, hc⟩ := abs_cases h
  obtain ⟨at_, as_⟩ := a
  obtain ⟨bt_, bs_⟩ := b
  simp only at ht hc
  rcases hc with ⟨rfl, rfl⟩ | ⟨f, r, g, q, rfl, rfl, h3, h4, h5, h6⟩
  · cases t <;> simp [act, abs, ht, absF]
  · have he := elems_text h4 h5
    cases t with
    | opn => simp [act, abs, absF, ht, h3, h4, h5]; exact h6
    | com =>
      by_cases hq : g.seq = true
      · have hs := sepBy_text dots _ _ he
        simp [act, abs, ht, absF, h3, hq, hs]
        exact h6
      · simp [act, abs, ht, absF, h3, hq]
        exact ⟨he, h6⟩
    | dts =>
      simp [act, abs, ht, absF]
      exact ⟨he, h6⟩
    | cls => exact abs_push (a := ⟨at_, r⟩) (b := ⟨bt_, q⟩) (by simp only [abs, ht, h6]) (closed_text h3 h4 h5)
theorem abs_run (v : ByteArray) : ∀ (n j last : Nat) {a b : St}, abs a = abs b → (runB v n j last a).1 = (runB v n j last b).1 ∧ abs (runB v n j last a).2 = abs (runB v n j last b).2
  | 0, _, _, _, _, h => ⟨rfl, h⟩
  | n + 1, j, last, a, b, h => by
    unfold runB
    split
    · rw [stepB_eq, stepB_eq, abs_hd h]
      cases tokAt v j (hd b) with
      | none => exact abs_run v n _ _ h
      | some t => exact abs_run v n _ _ (abs_act (abs_flush h v last j) t)
    · exact ⟨rfl, h⟩
theorem stepP_lit (st : St) (v : ByteArray) : stepP st (.lit v) = (runB v (v.size + 1) 0 0 st).2.push [.lit (v.extract (runB v (v.size + 1) 0 0 st).1 v.size)] := by
  show (match runB v (v.size + 1) 0 0 st with | (last, st') => if last = 0 then st'.push [.lit v] else st'.push [.lit (v.extract last v.size)]) = _
  generalize runB v (v.size + 1) 0 0 st = x
  obtain ⟨l, s⟩ := x
  simp only
  split
  · rename_i h
    subst h
    rw [show v.extract 0 v.size = v from by simp]
  · rfl
theorem abs_step {a b : St} (h : abs a = abs b) (p : Part) : abs (stepP a p) = abs (stepP b p) := by
  cases p with
  | lit v =>
    rw [stepP_lit, stepP_lit]
    obtain ⟨h1, h2⟩ := abs_run v (v.size + 1) 0 0 h
    rw [h1]
    exact abs_push h2 rfl
  | brace q es => exact abs_push h rfl
  | other t x => exact abs_push h rfl
theorem abs_fold : ∀ (ps : List Part) {a b : St}, abs a = abs b → abs (ps.foldl stepP a) = abs (ps.foldl stepP b)
  | [], _, _, h => h
  | p :: r, _, _, h => abs_fold r (abs_step h p)

theorem render_act (t : Tok) (st : St) (h : t = .opn ∨ st.stack ≠ []) (hd : t = .dts → ∀ f r, st.stack = f :: r → f.seq = true ∨ f.done = []) : litText (render (act t st)) = none ∨ render (act t st) = render st ++ [.lit t.txt] := by
  obtain ⟨top, stack⟩ := st
  cases stack with
  | nil =>
    rcases h with rfl | h
    · right
      show unwind [⟨false, [], []⟩] top = unwind [] top ++ [.lit lb]
      rw [unwind_cons]
      rfl
    · exact absurd rfl h
  | cons f r =>
    have hne : f.elems ≠ [] := by simp [Frame.elems]
    cases t with
    | opn =>
      right
      show unwind (⟨false, [], []⟩ :: f :: r) top = unwind (f :: r) top ++ [.lit lb]
      rw [unwind_cons]
      rfl
    | com =>
      right
      show unwind ((if f.seq then ⟨false, [sepBy dots f.elems], []⟩ else ⟨false, f.elems, []⟩) :: r) top = unwind (f :: r) top ++ [.lit cm]
      rw [unwind_cons, unwind_cons, List.append_assoc]
      congr 1
      cases hq : f.seq with
      | true =>
        show Part.lit lb :: sepBy cm ([sepBy dots f.elems] ++ [[]]) = Part.lit lb :: sepBy (if f.seq then dots else cm) f.elems ++ [.lit cm]
        rw [sepBy_more _ _ (by simp), hq]
        rfl
      | false =>
        show Part.lit lb :: sepBy cm (f.elems ++ [[]]) = Part.lit lb :: sepBy (if f.seq then dots else cm) f.elems ++ [.lit cm]
        rw [sepBy_more _ _ hne, hq]
        rfl
    | dts =>
      right
      show unwind (⟨true, f.elems, []⟩ :: r) top = unwind (f :: r) top ++ [.lit dots]
      rw [unwind_cons, unwind_cons, List.append_assoc]
      congr 1
      show Part.lit lb :: sepBy dots (f.elems ++ [[]]) = Part.lit lb :: sepBy (if f.seq then dots else cm) f.elems ++ [.lit dots]
      rw [sepBy_more _ _ hne]
      rcases hd rfl f r rfl with hq | hq
      · rw [hq]
        rfl
      · have e1 : f.elems = [f.acc] := by simp [Frame.elems, hq]
        rw [e1]
        rfl
    | cls =>
      have e1 : render (act .cls ⟨top, f :: r⟩) = unwind r top ++ closed f := by
        show render ((⟨top, r⟩ : St).push (closed f)) = _
        rw [render_push]
        rfl
      have e2 : render ⟨top, f :: r⟩ = unwind r top ++ unclosed f := unwind_cons top r f
      rw [e1, e2, litText_append]
      unfold closed
      by_cases h1 : f.elems.length = 1
      · right
        rw [if_pos h1, List.append_assoc (unwind r top) (unclosed f)]
        have e3 : f.done = [] := by
          have : f.done.length = 0 := by simpa [Frame.elems] using h1
          exact List.eq_nil_of_length_eq_zero this
        have e4 : f.elems = [f.acc] := by simp [Frame.elems, e3]
        show unwind r top ++ ([.lit lb] ++ f.acc ++ [.lit rb]) = unwind r top ++ ((Part.lit lb :: sepBy (if f.seq then dots else cm) f.elems) ++ [.lit rb])
        rw [e4]
        rfl
      · rw [if_neg h1]
        cases hq : f.seq with
        | false =>
          left
          exact oapp_none _
        | true =>
          cases hb : broken f.elems with
          | false =>
            left
            exact oapp_none _
          | true =>
            right
            rw [if_pos rfl, if_pos rfl, List.append_assoc (unwind r top) (unclosed f)]
            show unwind r top ++ ([.lit lb] ++ sepBy dots f.elems ++ [.lit rb]) = unwind r top ++ ((Part.lit lb :: sepBy (if f.seq then dots else cm) f.elems) ++ [.lit rb])
            rw [hq]
            rfl
end Go.Proofs.YtpmmnlgkeanplaaDoor

namespace Go.Proofs.YtpmmnlgkeanplaaDoor
open Go.RowKit

/-- Places passed without a change of the state. -/
inductive Passes (v : ByteArray) (h : Option (Bool × Bool)) : Nat → Nat → Prop where
  | refl (i : Nat) : Passes v h i i
  | step (i k : Nat) (hi : i < v.size) (ht : tokAt v i h = none) (r : Passes v h (nxt v i) k) : Passes v h i k
theorem Passes.snoc {v : ByteArray} {h : Option (Bool × Bool)} {i k : Nat} (p : Passes v h i k) (hk : k < v.size) (ht : tokAt v k h = none) : Passes v h i (nxt v k) := by
  induction p with
  | refl i => exact .step i _ hk ht (.refl _)
  | step i k hi h1 r ih => exact .step i _ hi h1 (ih hk ht)

theorem size_extract (v : ByteArray) (a b : Nat) (hb : b ≤ v.size) : (v.extract a b).size = b - a := by
  simp only [ByteArray.size_extract]
  omega
theorem bt_extract (v : ByteArray) (a b i : Nat) (hb : b ≤ v.size) (hi : a + i < b) : bt (v.extract a b) i = bt v (a + i) := by
  have hs := size_extract v a b hb
  rw [bt_get _ i (by omega), bt_get v (a + i) (by omega)]
  congr 1
  exact ByteArray.getElem_extract ..
theorem tokAt_extract {v : ByteArray} {h : Option (Bool × Bool)} {a b i : Nat} (ht : tokAt v (a + i) h = none) (hi : a + i < b) (hb : b ≤ v.size) : tokAt (v.extract a b) i h = none := by
  have hs := size_extract v a b hb
  unfold tokAt at ht ⊢
  rw [bt_extract v a b i hb hi, hs]
  split
  · rfl
  rename_i h1
  rw [if_neg h1] at ht
  split
  · rename_i h2
    rw [if_pos h2] at ht
    cases ht
  rename_i h2
  rw [if_neg h2] at ht
  split
  · rename_i h3
    rw [if_pos h3] at ht
    exact ht
  rename_i h3
  rw [if_neg h3] at ht
  split
  · rename_i h4
    rw [if_pos h4] at ht
    cases h with
    | none => rfl
    | some x =>
      simp only [Option.bind_some] at ht ⊢
      by_cases h5 : b - a ≤ i + 1
      · rw [if_pos (Or.inl h5)]
      · have e : bt (v.extract a b) (i + 1) = bt v (a + i + 1) := bt_extract v a b (i + 1) hb (by omega)
        rw [e]
        by_cases h6 : v.size ≤ a + i + 1 ∨ bt v (a + i + 1) ≠ 46
        · rw [if_pos (h6.elim (fun h => by omega) Or.inr)]
        · rw [if_neg h6] at ht
          split
          · rfl
          · exact ht
  rename_i h4
  rw [if_neg h4] at ht
  exact ht

theorem run_piece {v : ByteArray} {st : St} {a b : Nat} (hb : b ≤ v.size) {i k : Nat} (p : Passes v (hd st) i k) (hi : a ≤ i) (hk : b ≤ k) : ∀ n l, runB (v.extract a b) n (i - a) l st = (l, st) := by
  have hs := size_extract v a b hb
  induction p with
  | refl i =>
    intro n l
    cases n with
    | zero => rfl
    | succ n =>
      unfold runB
      rw [if_neg (by omega)]
  | step i k h1 h2 r ih =>
    intro n l
    cases n with
    | zero => rfl
    | succ n =>
      unfold runB
      by_cases h3 : i < b
      · have e : a + (i - a) = i := by omega
        have h4 : tokAt (v.extract a b) (i - a) (hd st) = none := tokAt_extract (by rw [e]; exact h2) (by omega) hb
        have h5 : nxt (v.extract a b) (i - a) = nxt v i - a := by
          unfold nxt
          rw [bt_extract v a b (i - a) hb (by omega), e]
          split <;> omega
        rw [if_pos (by omega), stepB_eq, h4]
        show runB (v.extract a b) n (nxt (v.extract a b) (i - a)) l st = (l, st)
        rw [h5]
        exact ih (by unfold nxt; split <;> omega) hk n l
      · rw [if_neg (by omega)]
theorem stepP_piece {v : ByteArray} {st : St} {a b k : Nat} (hb : b ≤ v.size) (p : Passes v (hd st) a k) (hk : b ≤ k) : stepP st (.lit (v.extract a b)) = st.push [.lit (v.extract a b)] := by
  have h := run_piece hb p (Nat.le_refl a) hk ((v.extract a b).size + 1) 0
  rw [Nat.sub_self] at h
  have key : ∀ w : ByteArray, w.extract 0 w.size = w := fun w => by simp
  rw [stepP_lit, h]
  show st.push [.lit ((v.extract a b).extract 0 (v.extract a b).size)] = _
  rw [key]

theorem flush_hd (st : St) (v : ByteArray) (last j : Nat) : hd (st.flush v last j) = hd st := by
  cases hs : st.stack with
  | nil => simp only [hd, flush_stack_nil hs, hs]
  | cons f r =>
    obtain ⟨a, ha⟩ := flush_stack_cons hs v last j
    simp only [hd, ha, hs]
theorem tokAt_some {v : ByteArray} {j : Nat} {h : Option (Bool × Bool)} {t : Tok} (ht : tokAt v j h = some t) : tokAt t.txt 0 h = some t := by
  unfold tokAt at ht
  split at ht
  · cases ht
  split at ht
  · cases ht
    rfl
  split at ht
  · cases h with
    | none => cases ht
    | some x =>
      cases ht
      rfl
  split at ht
  · cases h with
    | none => cases ht
    | some x =>
      simp only [Option.bind_some] at ht
      split at ht
      · cases ht
      split at ht
      · cases ht
      · rename_i h2
        cases ht
        show (if (2 : Nat) ≤ 0 + 1 ∨ bt dots (0 + 1) ≠ 46 then none else if x.1 = false ∧ x.2 = false then none else some Tok.dts) = some Tok.dts
        rw [if_neg (by decide), if_neg h2]
  split at ht
  · cases h with
    | none => cases ht
    | some x =>
      cases ht
      rfl
  · cases ht
theorem tokAt_fits {v : ByteArray} {j : Nat} {h : Option (Bool × Bool)} {t : Tok} (hj : j < v.size) (ht : tokAt v j h = some t) : j + t.txt.size ≤ v.size ∧ (∀ i, i < t.txt.size → bt t.txt i = bt v (j + i)) ∧ (t = .opn ∨ h ≠ none) ∧ (t = .dts → ∀ x, h = some x → x.1 = true ∨ x.2 = true) := by
  unfold tokAt at ht
  split at ht
  · cases ht
  have one : ∀ (s : ByteArray), s.size = 1 → bt v j = bt s 0 → ∀ i, i < s.size → bt s i = bt v (j + i) := fun s h1 h2 i h3 => by
    have : i = 0 := by omega
    subst this
    exact h2.symm
  split at ht
  · rename_i h2
    cases ht
    exact ⟨hj, one lb rfl h2, Or.inl rfl, fun h => by cases h⟩
  split at ht
  · rename_i h2
    cases h with
    | none => cases ht
    | some x =>
      cases ht
      exact ⟨hj, one cm rfl h2, Or.inr (by simp), fun h => by cases h⟩
  split at ht
  · rename_i h2
    cases h with
    | none => cases ht
    | some x =>
      simp only [Option.bind_some] at ht
      split at ht
      · cases ht
      rename_i h3
      split at ht
      · cases ht
      · rename_i h4
        cases ht
        have h5 : ¬ v.size ≤ j + 1 := fun h => h3 (Or.inl h)
        have h6 : bt v (j + 1) = 46 := Classical.byContradiction fun h => h3 (Or.inr h)
        refine ⟨by show j + 2 ≤ v.size; omega, fun i hi => ?_, Or.inr (by simp), fun _ y hy => ?_⟩
        · have hi2 : i < 2 := hi
          match i, hi2 with
          | 0, _ => exact h2.symm
          | 1, _ => exact h6.symm
        · cases hy
          cases hx : x.1 with
          | true => exact Or.inl rfl
          | false =>
            cases hx2 : x.2 with
            | true => exact Or.inr rfl
            | false => exact absurd ⟨hx, hx2⟩ h4
  split at ht
  · rename_i h2
    cases h with
    | none => cases ht
    | some x =>
      cases ht
      exact ⟨hj, one rb rfl h2, Or.inr (by simp), fun h => by cases h⟩
  · cases ht

/-- From one state to another: what is left grows by pieces that read as the bytes between, and that lead from the one state to the other; or a brace stands. -/
def Good (st st' : St) (c : List UInt8) : Prop := litText (render st') = none ∨ ∃ X, render st' = render st ++ X ∧ abs (X.foldl stepP st) = abs st' ∧ litText X = some c
theorem Good.refl (st : St) : Good st st [] := Or.inr ⟨[], by simp, rfl, rfl⟩
theorem Good.keeps {st st' : St} {c : List UInt8} (h : Good st st' c) (hn : litText (render st) = none) : litText (render st') = none := by
  rcases h with h | ⟨X, h1, _, _⟩
  · exact h
  · rw [h1, litText_append, hn, none_oapp]
theorem Good.trans {a b d : St} {c e : List UInt8} (h : Good a b c) (k : Good b d e) : Good a d (c ++ e) := by
  rcases h with h | ⟨X, h1, h2, h3⟩
  · exact Or.inl (k.keeps h)
  rcases k with k | ⟨Y, k1, k2, k3⟩
  · exact Or.inl k
  refine Or.inr ⟨X ++ Y, by rw [k1, h1, List.append_assoc], ?_, by rw [litText_append, h3, k3]; rfl⟩
  rw [List.foldl_append]
  exact (abs_fold Y h2).trans k2
theorem good_push {st : St} {s : ByteArray} (h : stepP st (.lit s) = st.push [.lit s]) : Good st (st.push [.lit s]) s.data.toList :=
  Or.inr ⟨[.lit s], render_push _ _, by rw [List.foldl_cons, List.foldl_nil, h], litText_one s⟩
theorem good_flush {v : ByteArray} {st : St} {last j : Nat} (hj : j ≤ v.size) (p : Passes v (hd st) last j) : Good st (st.flush v last j) (v.extract last j).data.toList := by
  unfold St.flush
  split
  · rename_i h
    subst h
    have e : (v.extract last last).data.toList = [] := by
      have h1 := size_extract v last last hj
      rw [Nat.sub_self] at h1
      have h2 : (v.extract last last).data.toList.length = 0 := by rw [Array.length_toList]; exact h1
      exact List.eq_nil_of_length_eq_zero h2
    rw [e]
    exact Good.refl st
  · exact good_push (stepP_piece hj p (Nat.le_refl j))
theorem abs_push_nil (st : St) (s : ByteArray) (h : s.data.toList = []) : abs (st.push [.lit s]) = abs st := by
  obtain ⟨top, stack⟩ := st
  have e : ∀ t : Option (List UInt8), oapp t (some []) = t := fun t => by cases t <;> simp [oapp]
  cases stack with
  | nil => simp [abs, St.push, litText_append, litText_one, h, e]
  | cons f r => simp [abs, absF, St.push, litText_append, litText_one, h, e]
theorem good_act {v : ByteArray} {j : Nat} {st : St} {t : Tok} (hj : j < v.size) (ht : tokAt v j (hd st) = some t) : Good st (act t st) t.txt.data.toList := by
  obtain ⟨h1, h2, h3, h4⟩ := tokAt_fits hj ht
  have hr := render_act t st (h3.imp id fun h e => h (by simp only [hd, e])) (fun e f r hs => by
    have h5 := h4 e (f.seq, f.done.isEmpty) (by simp only [hd, hs])
    rcases h5 with h5 | h5
    · exact Or.inl h5
    · exact Or.inr (List.isEmpty_iff.1 h5))
  rcases hr with hr | hr
  · exact Or.inl hr
  refine Or.inr ⟨[.lit t.txt], hr, ?_, litText_one _⟩
  rw [List.foldl_cons, List.foldl_nil, stepP_lit]
  have hz : 0 < t.txt.size := by cases t <;> decide
  have hrun : runB t.txt (t.txt.size + 1) 0 0 st = (t.txt.size, act t st) := by
    unfold runB
    rw [if_pos hz, stepB_eq, tokAt_some ht]
    show runB t.txt t.txt.size (0 + t.txt.size) (0 + t.txt.size) (act t (st.flush t.txt 0 0)) = _
    rw [show st.flush t.txt 0 0 = st from if_pos rfl, Nat.zero_add]
    cases hn : t.txt.size with
    | zero => omega
    | succ n =>
      unfold runB
      rw [hn, if_neg (by omega)]
  rw [hrun]
  refine abs_push_nil _ _ ?_
  have h5 := size_extract t.txt t.txt.size t.txt.size (Nat.le_refl _)
  rw [Nat.sub_self] at h5
  exact List.eq_nil_of_length_eq_zero (by rw [Array.length_toList]; exact h5)

theorem toList_extract (v : ByteArray) (a b : Nat) : (v.extract a b).data.toList = (v.data.toList.take b).drop a := by
  simp [ByteArray.data_extract, List.drop_take]
theorem bt_toList (v : ByteArray) (i : Nat) (h : i < v.size) : ∃ x, v.data.toList[i]? = some x ∧ bt v i = x.toNat := by
  have hl : i < v.data.toList.length := by rw [Array.length_toList]; exact h
  refine ⟨v.data.toList[i], List.getElem?_eq_getElem hl, ?_⟩
  unfold bt
  rw [List.getD_eq_getElem?_getD, List.getElem?_eq_getElem hl]
  rfl
theorem tok_bytes {v : ByteArray} {j : Nat} {t : Tok} (h1 : j + t.txt.size ≤ v.size) (h2 : ∀ i, i < t.txt.size → bt t.txt i = bt v (j + i)) : (v.extract j (j + t.txt.size)).data.toList = t.txt.data.toList := by
  have hs := size_extract v j (j + t.txt.size) h1
  apply List.ext_getElem?
  intro i
  by_cases hi : i < t.txt.size
  · obtain ⟨x, hx1, hx2⟩ := bt_toList (v.extract j (j + t.txt.size)) i (by omega)
    obtain ⟨y, hy1, hy2⟩ := bt_toList t.txt i hi
    rw [hx1, hy1]
    have e := bt_extract v j (j + t.txt.size) i h1 (by omega)
    have e2 := h2 i hi
    have : x.toNat = y.toNat := by rw [← hx2, ← hy2, e, e2]
    rw [UInt8.toNat_inj.1 this]
  · rw [List.getElem?_eq_none (by rw [Array.length_toList]; show (v.extract j (j + t.txt.size)).size ≤ i; omega), List.getElem?_eq_none (by rw [Array.length_toList]; show t.txt.size ≤ i; omega)]
theorem extract_cut (v : ByteArray) (a b c : Nat) (h1 : a ≤ b) (h2 : b ≤ c) (h3 : c ≤ v.size) : (v.extract a c).data.toList = (v.extract a b).data.toList ++ (v.extract b c).data.toList := by
  rw [toList_extract, toList_extract, toList_extract]
  have h4 : v.data.toList.take c = v.data.toList.take b ++ (v.data.toList.take c).drop b := by
    have h5 := (List.take_append_drop b (v.data.toList.take c)).symm
    rw [List.take_take, Nat.min_eq_left h2] at h5
    exact h5
  conv => lhs; rw [h4]
  rw [List.drop_append_of_le_length]
  rw [List.length_take, Array.length_toList]
  show a ≤ min b v.size
  omega

theorem run_good (v : ByteArray) : ∀ (n j last : Nat) (st : St), last ≤ v.size → last ≤ j → v.size ≤ j + n → Passes v (hd st) last j → Good st ((runB v n j last st).2.push [.lit (v.extract (runB v n j last st).1 v.size)]) (v.extract last v.size).data.toList := by
  have stop : ∀ (j last : Nat) (st : St), v.size ≤ j → Passes v (hd st) last j → Good st (st.push [.lit (v.extract last v.size)]) (v.extract last v.size).data.toList := fun j last st h p => good_push (stepP_piece (Nat.le_refl _) p h)
  intro n
  induction n with
  | zero => exact fun j last st h1 _ h2 p => stop j last st (by omega) p
  | succ n ih =>
    intro j last st h1 hl h2 p
    by_cases hj : j < v.size
    · have e : runB v (n + 1) j last st = (match stepB v j last st with | (j', last', st') => runB v n j' last' st') := by
        conv => lhs; unfold runB
        rw [if_pos hj]
      rw [e, stepB_eq]
      cases ht : tokAt v j (hd st) with
      | none => exact ih (nxt v j) last st h1 (by unfold nxt; split <;> omega) (by unfold nxt; split <;> omega) (p.snoc hj ht)
      | some t =>
        obtain ⟨f1, f2, _⟩ := tokAt_fits hj ht
        have g1 := good_flush (by omega) p
        have g2 := good_act (st := st.flush v last j) hj (by rw [flush_hd]; exact ht)
        have g3 := ih (j + t.txt.size) (j + t.txt.size) (act t (st.flush v last j)) (by omega) (Nat.le_refl _) (by have : 0 < t.txt.size := (by cases t <;> decide); omega) (.refl _)
        have g := (g1.trans g2).trans g3
        rw [← tok_bytes f1 f2, ← extract_cut v last j _ (by omega) (by omega) f1, ← extract_cut v last _ v.size (by omega) f1 (Nat.le_refl _)] at g
        exact g
    · have e : runB v (n + 1) j last st = (last, st) := by
        unfold runB
        rw [if_neg hj]
      rw [e]
      exact stop j last st (by omega) p
theorem good_lit (st : St) (v : ByteArray) : Good st (stepP st (.lit v)) v.data.toList := by
  have h := run_good v (v.size + 1) 0 0 st (Nat.zero_le _) (Nat.le_refl _) (by omega) (.refl 0)
  rw [stepP_lit]
  have e : v.extract 0 v.size = v := by simp
  rw [e] at h
  exact h
theorem bad_push (st : St) (p : Part) (h : litText [p] = none) : litText (render (st.push [p])) = none := by
  rw [render_push, litText_append, h, oapp_none]
theorem fold_good : ∀ (ps : List Part) (st : St), litText (render (ps.foldl stepP st)) = none ∨ ∃ c, litText ps = some c ∧ Good st (ps.foldl stepP st) c
  | [], st => Or.inr ⟨[], rfl, Good.refl st⟩
  | p :: r, st => by
    have h := fold_good r (stepP st p)
    rw [List.foldl_cons]
    rcases h with h | ⟨c, h1, h2⟩
    · exact Or.inl h
    cases p with
    | lit v => exact Or.inr ⟨v.data.toList ++ c, by simp [litText, h1], (good_lit st v).trans h2⟩
    | brace q es => exact Or.inl (h2.keeps (bad_push st _ rfl))
    | other t x => exact Or.inl (h2.keeps (bad_push st _ rfl))
/-- What is left of a word reads as the word did, or a brace stands; and once more it reads the same. -/
theorem split_text (ps : List Part) : (litText (split ps) = none ∨ litText (split ps) = litText ps) ∧ litText (split (split ps)) = litText (split ps) := by
  have hs : ∀ qs : List Part, split qs = render (qs.foldl stepP ⟨[], []⟩) := fun _ => rfl
  have e0 : render ⟨[], []⟩ = [] := by
    show unwind [] [] = []
    rw [unwind]
  rcases fold_good ps ⟨[], []⟩ with h | ⟨c, h1, h2⟩
  · have h3 : litText (split ps) = none := h
    refine ⟨Or.inl h3, ?_⟩
    rw [h3]
    rcases fold_good (split ps) ⟨[], []⟩ with k | ⟨c, k1, k2⟩
    · exact k
    · rw [h3] at k1
      cases k1
  · rcases h2 with h2 | ⟨X, a1, a2, a3⟩
    · have h3 : litText (split ps) = none := h2
      refine ⟨Or.inl h3, ?_⟩
      rw [h3]
      rcases fold_good (split ps) ⟨[], []⟩ with k | ⟨c, k1, k2⟩
      · exact k
      · rw [h3] at k1
        cases k1
    · rw [e0, List.nil_append] at a1
      have e1 : split ps = X := a1
      refine ⟨Or.inr (by rw [e1, a3, h1]), ?_⟩
      rw [hs (split ps), e1]
      exact (render_text a2).trans (by rw [a1])
theorem split_stable (ps : List Part) : litOf (split (split ps)) = litOf (split ps) := by
  rw [litOf, litOf, (split_text ps).2]
end Go.Proofs.YtpmmnlgkeanplaaDoor

namespace Go.Proofs.YtpmmnlgkeanplaaDoor
open Go.RowKit

theorem sz_render (st : St) : sz (render st) ≤ st.sz := by
  obtain ⟨top, stack⟩ := st
  induction stack with
  | nil =>
    show sz (unwind [] top) ≤ sz top + 0
    rw [unwind]
    exact Nat.le_refl _
  | cons f r ih =>
    show sz (unwind (f :: r) top) ≤ sz top + ((f :: r).map Frame.sz).sum
    have h1 : sz (unwind r top) ≤ sz top + (r.map Frame.sz).sum := ih
    have h2 := unclosed_sz f
    rw [unwind_cons, sz_append, List.map_cons, List.sum_cons]
    omega
theorem sz_split (ps : List Part) : sz (split ps) ≤ 10 * sz ps + 20 * ps.length := by
  have h1 := sz_render (ps.foldl stepP ⟨[], []⟩)
  have h2 := foldP_sz ps ⟨[], []⟩
  have h0 : (⟨[], []⟩ : St).sz = 0 := rfl
  have e : split ps = render (ps.foldl stepP ⟨[], []⟩) := rfl
  rw [e]
  omega
theorem weight_sz : ∀ ps : List Part, weight ps ≤ sz ps
  | [] => Nat.le_refl _
  | .lit s :: r => by
    have h := weight_sz r
    have e : psz (Part.lit s) = 1 + s.size := rfl
    rw [sz_cons, weight]
    omega
  | .brace q es :: r => by
    have h := weight_sz r
    rw [sz_cons]
    show weight r ≤ _
    omega
  | .other t x :: r => by
    have h := weight_sz r
    rw [sz_cons]
    show weight r ≤ _
    omega
theorem sz_lits : ∀ ss : List ByteArray, sz (ss.map Part.lit) ≤ tot ss
  | [] => Nat.le_refl _
  | s :: r => by
    have h := sz_lits r
    have e : psz (Part.lit s) = 1 + s.size := rfl
    rw [List.map_cons, sz_cons, e, tot]
    omega

/-- The word at P holds these parts. -/
def Wd (P : Nat) (ps : List Part) (w : World) : Prop := ∃ v vals, w.heap[P]? = some (.cells #[v] 39 (0, 0)) ∧ RowAt w (fun k => k = P) v vals ∧ PartsAt w (fun k => k = P) vals ps
/-- All but the word's own block is as it was. -/
structure Kept (P : Nat) (w w' : World) : Prop where
  block : ∀ k, k < w.heap.size → k ≠ P → w'.heap[k]? = w.heap[k]?
  size : w.heap.size ≤ w'.heap.size
  os : w'.os = w.os
  tape : w'.tape = w.tape
  output : w'.output = w.output
theorem Kept.refl (P : Nat) (w : World) : Kept P w w := ⟨fun _ _ _ => rfl, Nat.le_refl _, rfl, rfl, rfl⟩
theorem Kept.trans {P : Nat} {w w1 w2 : World} (h : Kept P w w1) (k : Kept P w1 w2) : Kept P w w2 :=
  ⟨fun i hi hn => (k.block i (Nat.lt_of_lt_of_le hi h.size) hn).trans (h.block i hi hn), Nat.le_trans h.size k.size, k.os.trans h.os, k.tape.trans h.tape, k.output.trans h.output⟩
theorem Kept.of_below {P : Nat} {w w' : World} (h : Below w.heap.size w w') : Kept P w w' := ⟨fun k hk _ => h.block k hk, h.size, h.os, h.tape, h.output⟩
theorem Kept.below {P : Nat} {w w' : World} (h : Kept P w w') (hP : P < w.heap.size) : Below P w w' := ⟨h.os, h.tape, h.output, h.size, fun k hk => h.block k (by omega) (by omega)⟩
theorem Wd.below {P : Nat} {ps : List Part} {w w' : World} (h : Wd P ps w) (hb : Below w.heap.size w w') : Wd P ps w' := by
  obtain ⟨v, vals, h1, h2, h3⟩ := h
  have hs : Safe (fun k => k = P) (fun k => k = P) w w' := ⟨fun k hk _ => hb.block k hk, fun _ _ x => x⟩
  exact ⟨v, vals, (hb.block _ (Array.getElem?_eq_some_iff.1 h1).1).trans h1, h2.safe hs, h3.safe hs⟩

theorem split_any (P : Nat) (w : World) {ps : List Part} (h : Wd P ps w) (hB : 19 * sz ps + 20 * ps.length + 100 ≤ 100000000) (hE : Errs w) :
    Calls Tryd.prog 10 #[.pointer (some ⟨P, 0, none⟩)] w fun e w' => ∃ ps', e = .returned (.bool (ps.any holds)) ∧ Wd P ps' w' ∧ Kept P w w' ∧ ((ps.any holds = false ∧ ps' = ps ∧ w = w') ∨ (ps.any holds = true ∧ ps' = split ps)) := by
  obtain ⟨v, vals, h1, h2, h3⟩ := h
  letI : Pw := ⟨P⟩
  cases hh : ps.any holds with
  | false => exact (split_no w h1 h2 h3 hh hB).mono fun e w' ⟨he, hw⟩ => ⟨ps, he, by rw [← hw]; exact ⟨v, vals, h1, h2, h3⟩, by rw [← hw]; exact Kept.refl _ _, Or.inl ⟨rfl, rfl, hw⟩⟩
  | true => exact (split_yes w h1 h2 h3 hh hB hE).mono fun e w' ⟨he, hw⟩ => ⟨split ps, he, hw.word, ⟨hw.kept, hw.size, hw.os, hw.tape, hw.output⟩, Or.inr ⟨rfl, rfl⟩⟩
theorem wlit_any (P : Nat) (w : World) {ps : List Part} (h : Wd P ps w) (hB : sz ps ≤ 100000000) :
    Calls Tryd.prog 12 #[.pointer (some ⟨P, 0, none⟩)] w fun e w' => e = .returned (.string (litOf ps)) ∧ Below w.heap.size w w' := by
  obtain ⟨v, vals, h1, h2, h3⟩ := h
  have := sz_length ps
  have := weight_sz ps
  letI : Pw := ⟨P⟩
  exact lit_any w _ P v vals ps h1 h2 h3 (by omega) (by omega)

/-- The literals handed in are as they were. -/
structure Lits (P : Nat) (ss : List ByteArray) (ls : List Nat) (w : World) : Prop where
  len : ls.length = ss.length
  size : P + 1 < w.heap.size
  cells : ∀ i q, ls[i]? = some q → q ≠ P ∧ w.cell? ⟨P + 1, i, none⟩ = some (.pointer (some ⟨q, 0, none⟩)) ∧ LitAt w q (ss.getD i ByteArray.empty)
theorem Lits.kept {P : Nat} {ss : List ByteArray} {ls : List Nat} {w w' : World} (h : Lits P ss ls w) (k : Kept P w w') : Lits P ss ls w' := by
  refine ⟨h.len, Nat.lt_of_lt_of_le h.size k.size, fun i q hi => ?_⟩
  obtain ⟨h1, h2, x, y, z, u, h3⟩ := h.cells i q hi
  refine ⟨h1, ?_, x, y, z, u, (k.block q (Array.getElem?_eq_some_iff.1 h3).1 h1).trans h3⟩
  rw [← h2]
  simp only [World.cell?, k.block (P + 1) h.size (by omega)]
theorem Mk.lits_ {w wx : World} {ss : List ByteArray} {ls : List Nat} {pv : Value} (h : Mk w ss ls ls pv wx) (hl : ls.length = ss.length) : Lits w.heap.size ss ls wx := by
  refine ⟨hl, by have := h.size; omega, fun i q hi => ?_⟩
  obtain ⟨h1, h2⟩ := h.lits i q hi
  refine ⟨by omega, ?_, h2⟩
  obtain ⟨a, ha, ha2⟩ := h.arr
  have hlt := (List.getElem?_eq_some_iff.1 hi).1
  rw [Lib.cell_of_heap ha, ← Array.getElem?_toList, ha2, List.getElem?_append_left (by simpa using hlt), List.getElem?_map, hi]
  rfl
theorem parts_lits {w : World} {P : Nat} : ∀ (ls : List Nat) (ss : List ByteArray), ls.length = ss.length → (∀ i q, ls[i]? = some q → q ≠ P ∧ LitAt w q (ss.getD i ByteArray.empty)) → PartsAt w (fun k => k = P) (ls.map fun q => .iface 36 (.pointer (some ⟨q, 0, none⟩))) (ss.map Part.lit)
  | [], [], _, _ => .nil
  | q :: r, s :: t, hl, h => by
    have h0 := h 0 q rfl
    exact .cons _ _ _ _ (.lit q s h0.1 h0.2) (parts_lits r t (by simpa using hl) (fun i q hi => by
      have := h (i + 1) q hi
      simpa using this))
  | [], _ :: _, hl, _ => by simp at hl
  | _ :: _, [], hl, _ => by simp at hl
theorem Mk.wd {w wx : World} {ss : List ByteArray} {ls : List Nat} {pv : Value} (h : Mk w ss ls ls pv wx) (hl : ls.length = ss.length) : Wd w.heap.size (ss.map Part.lit) wx := by
  refine ⟨pv, _, h.word, ?_, parts_lits ls ss hl (fun i q hi => ⟨by have := (h.lits i q hi).1; omega, (h.lits i q hi).2⟩)⟩
  rcases h.own.2 with ⟨hv, hn⟩ | ⟨g, cap, cur, hv, hg, hb, _, _, _, ht⟩
  · refine Or.inl ⟨hv, ?_⟩
    rw [List.eq_nil_of_length_eq_zero hn]
    rfl
  · refine Or.inr ⟨g, cap, cur, by rw [hv, List.length_map], by show ¬ g = w.heap.size; omega, hb, ?_⟩
    rw [List.length_map]
    simpa using ht

/-- All that the law knows behind a call. -/
structure Bun (w w1 : World) (ss : List ByteArray) (ls : List Nat) (ps : List Part) (b : Bool) (wx : World) : Prop where
  lits : Lits w.heap.size ss ls wx
  bel : Below w.heap.size w wx
  wd : Wd w.heap.size ps wx
  kept : Kept w.heap.size w1 wx
  same : b = false → Below w1.heap.size w1 wx
theorem Bun.below {w w1 : World} {ss : List ByteArray} {ls : List Nat} {ps : List Part} {b : Bool} {wx wy : World} (h : Bun w w1 ss ls ps b wx) (hb : Below wx.heap.size wx wy) : Bun w w1 ss ls ps b wy :=
  ⟨h.lits.kept (Kept.of_below hb), h.bel.trans (hb.mono h.bel.size), h.wd.below hb, h.kept.trans (Kept.of_below hb), fun e => (h.same e).trans (hb.mono (h.same e).size)⟩
theorem Bun.draws {w w1 : World} {ss : List ByteArray} {ls : List Nat} {ps : List Part} {b : Bool} {wx : World} (h : Bun w w1 ss ls ps b wx) (n : Nat) : Bun w w1 ss ls ps b (wx.drewN n) := h.below ⟨rfl, rfl, rfl, Nat.le_refl _, fun _ _ => rfl⟩

theorem part_comp : (Tryd.prog.info? 36).map (fun i => i.comparable) = some true := by kernel_rfl
theorem lit_known : (Tryd.prog.info? 35).isSome = true := by kernel_rfl
theorem part_neq (w : World) (a : Addr) : (binOp .neq 41 (.iface 36 (.pointer (some a))) (.iface 36 (.pointer (some a)))).run Tryd.prog w = .ok (.bool false) w := by
  obtain ⟨i, hi, hc⟩ := Option.map_eq_some_iff.1 part_comp
  obtain ⟨j, hj⟩ := Option.isSome_iff_exists.1 lit_known
  have h := run_equalIn_iface_ptr_same w 9998 a Tryd.underlying41 Tryd.underlying36 hi hc hj
  simp only [binOp]
  simp [Op.equal, Op.maxDepth, h]

set_option maxRecDepth 100000 in
set_option maxHeartbeats 2000000 in
theorem lawK_big (v : Value) (ss : List ByteArray) (w : World) (hl : ss.length ≤ maxLen) (hs : ∀ i, i < ss.length → (ss.getD i ByteArray.empty).size ≤ maxLen) (h : StrsAt w v ss) (hb : ¬ tot ss ≤ 8192) :
    Calls Tryd.prog 4 #[v] w fun e w' => e = .returned (.bool true) ∧ Below w.heap.size w w' := by
  have HY := Lib.hid (bytesK_any v ss w hl hs h)
  have HT := Lib.hid (tooBig_any v ss w hl hs h)
  have HB := Lib.hid hb
  clear hb hs hl
  obtain ⟨ao, cap, rfl, hc⟩ := h
  clear hc
  go_enter Tryd.func4, Tryd.ntmps4
  go_wp2_with (first
    | (go_at_call 13; refine (HY.out).mono ?_; rintro e w' ⟨b, rfl, rfl⟩; cases b)
    | (go_at_call 6; refine (HT.out).mono ?_; rintro e w' ⟨b, rfl, rfl, hb⟩; obtain rfl : b = true := (by cases b; exact absurd (hb rfl) HB.out; rfl)))
  all_goals (go_ret; exact ⟨rfl, Below.refl _ _⟩)

/-- The slice of the word's parts, and its cells, as long as nothing of it has turned. -/
theorem Mk.row {w w1 wx : World} {ss : List ByteArray} {ls : List Nat} {pv : Value} (h : Mk w ss ls ls pv w1) (hl : ls.length = ss.length) (hb : Below w1.heap.size w1 wx) :
    ∃ a cap, wx.cell? ⟨w.heap.size, 0, none⟩ = some (.slice a ss.length cap) ∧ ∀ (k q : Nat), ls[k]? = some q → ∃ g, a = some ⟨g, 0, none⟩ ∧ wx.cell? ⟨g, k, none⟩ = some (.iface 36 (.pointer (some ⟨q, 0, none⟩))) := by
  have hw : wx.heap[w.heap.size]? = some (.cells #[pv] 39 (0, 0)) := (hb.block _ (Array.getElem?_eq_some_iff.1 h.word).1).trans h.word
  rcases h.own.2 with ⟨hv, hn⟩ | ⟨g, cap, cur, hv, hg, hc, _, _, _, ht⟩
  · refine ⟨none, 0, ?_, fun k q hk => ?_⟩
    · rw [Lib.cell_of_heap hw, hv, ← hl, hn]
      rfl
    · rw [List.eq_nil_of_length_eq_zero hn] at hk
      simp at hk
  · refine ⟨some ⟨g, 0, none⟩, cap, ?_, fun k q hk => ⟨g, rfl, ?_⟩⟩
    · rw [Lib.cell_of_heap hw, hv, hl]
      rfl
    · have hlt := (List.getElem?_eq_some_iff.1 hk).1
      have hc2 : wx.heap[g]? = some (.cells cur 41 (0, 0)) := (hb.block _ (Array.getElem?_eq_some_iff.1 hc).1).trans hc
      rw [Nat.mul_one] at ht
      have h2 : (cur.toList.take ls.length)[k]? = some (.iface 36 (.pointer (some ⟨q, 0, none⟩))) := by
        rw [ht, List.getElem?_map, hk]
        rfl
      rw [List.getElem?_take_of_lt hlt] at h2
      rw [Lib.cell_of_heap hc2]
      simpa using h2
end Go.Proofs.YtpmmnlgkeanplaaDoor

namespace Go.Proofs.YtpmmnlgkeanplaaDoor
open Go.RowKit

set_option maxRecDepth 100000 in
set_option maxHeartbeats 2000000 in
theorem lawK_small (v : Value) (ss : List ByteArray) (w : World) (hl : ss.length ≤ maxLen) (hs : ∀ i, i < ss.length → (ss.getD i ByteArray.empty).size ≤ maxLen) (h : StrsAt w v ss) (hb : tot ss ≤ 8192) (hE : Errs w) :
    Calls Tryd.prog 4 #[v] w fun e w' => e = .returned (.bool true) ∧ Below w.heap.size w w' := by
  have HY := Lib.hid (bytesK_any v ss w hl hs h)
  have HT := Lib.hid (tooBig_any v ss w hl hs h)
  have hz := sz_lits ss
  have hlen := sz_length (ss.map Part.lit)
  have hsp := sz_split (ss.map Part.lit)
  rw [List.length_map] at hlen hsp
  have HBU := Lib.hid (build_any v ss w (by omega) h)
  have HE := Lib.hid hE
  have HE12 := Lib.hid (show 0 < w.heap.size ∧ 1 < w.heap.size from by
    obtain ⟨⟨e1, a1, b1⟩, ⟨e2, a2, b2⟩⟩ := hE
    exact ⟨World.block_lt_of_cell? w _ a1, World.block_lt_of_cell? w _ a2⟩)
  have HZ := Lib.hid (show sz (ss.map Part.lit) ≤ 8192 ∧ ss.length ≤ 8192 ∧ sz (split (ss.map Part.lit)) ≤ 1000000 by omega)
  have hlz : (0 : Int) ≤ (ss.length : Int) ∧ (ss.length : Int) ≤ 8192 := by omega
  clear hb hs hl hz hlen hsp hE
  obtain ⟨ao, cap, rfl, hc⟩ := h
  have HC := Lib.hid hc
  clear hc
  go_enter Tryd.func4, Tryd.ntmps4
  go_wp2_with (first
    | (go_at_call 13; refine (HY.out).mono ?_; rintro e w' ⟨b, rfl, rfl⟩; cases b)
    | (go_at_call 6; refine (HT.out).mono ?_; rintro e w' ⟨b, rfl, rfl, hb⟩; clear hb; cases b))
  all_goals first | (go_ret; exact ⟨rfl, Below.refl _ _⟩) | skip
  go_wp2_with (go_at_call 7; refine (HBU.out).mono ?_; rintro e w1 ⟨ls, pv, rfl, hmk, hls⟩; have HM := Lib.hid (And.intro hmk hls); clear hmk hls)
  refine (split_any w.heap.size w1 (HM.out.1.wd HM.out.2) (by rw [List.length_map]; have := HZ.out; omega) (HE.out.below HM.out.1.bel HE12.out.1 HE12.out.2)).mono ?_
  rintro e w2 ⟨ps1, rfl, hwd, hkp, hor⟩
  have hsz1 : sz ps1 ≤ 1000000 := by
    have := HZ.out
    rcases hor with ⟨_, rfl, _⟩ | ⟨_, rfl⟩ <;> omega
  have hln1 := sz_length ps1
  have hl1 := HM.out.1.lits_ HM.out.2
  obtain ⟨b1, hb1⟩ : ∃ b1, (ss.map Part.lit).any holds = b1 := ⟨_, rfl⟩
  have hb2 : Bun w w1 ss ls ps1 b1 w2 := ⟨hl1.kept hkp, HM.out.1.bel.trans (hkp.below (by have := hl1.size; omega)), hwd, hkp, fun e => by
    rcases hor with ⟨_, _, h⟩ | ⟨h, _⟩
    · rw [h]
      exact Below.refl _ _
    · rw [hb1, e] at h
      cases h⟩
  have HB2 := Lib.hid hb2
  have HSZ := Lib.hid (show sz ps1 ≤ 100000000 ∧ 19 * sz ps1 + 20 * ps1.length + 100 ≤ 100000000 by omega)
  have HSZ3 := Lib.hid hsz1
  have HOR := Lib.hid hor
  have HLS := Lib.hid HM.out.2
  have HB1 := Lib.hid hb1
  rw [hb1]
  clear hwd hkp hor hb1 hsz1 hln1 hl1 hb2
  go_wp2_with fail
  go_loopg [6] ss.length (fun gk s w3 => ∃ k, Bun w w1 ss ls ps1 b1 w3 ∧ k ≤ ss.length ∧ gk = ss.length - k ∧ s = .int .i64 (k : Int))
  case atStart => exact ⟨0, HB2.out, Nat.zero_le _, rfl, rfl⟩
  case round =>
    rename World => w3
    obtain ⟨k, hbun, hk, rfl, rfl⟩ := hrel
    have HB3 := Lib.hid hbun
    clear hbun HB2
    by_cases hlt : k < ss.length
    · have hkz : (k : Int) < (ss.length : Int) := by omega
      obtain ⟨b, off, hab, hbl, hck⟩ := some_str HC.out hlt
      subst hab
      have hcell := (HB3.out.bel.cell (p := ⟨b, off + k, none⟩) hbl).trans hck
      obtain ⟨q, hq⟩ : ∃ q, ls[k]? = some q := ⟨_, List.getElem?_eq_getElem (by have := HB3.out.lits.len; omega)⟩
      obtain ⟨_, hc1, x1, x2, x3, x4, hq2⟩ := HB3.out.lits.cells k q hq
      clear hck hbl
      generalize ss.getD k ByteArray.empty = s at *
      have hc2 : w3.cell? ⟨q, 4, none⟩ = some (.string s) := (Lib.cell_of_heap hq2 4).trans rfl
      clear hq2 hq
      go_upto_region 10 with fail
      go_quiet (fail)
      go_wp2
      go_roundg (ss.length - (k + 1))
      case measure => omega
      case rel => exact ⟨k + 1, HB3.out.draws _, by omega, rfl, by first | rfl | simp⟩
    · obtain rfl : k = ss.length := by omega
      cases b1 with
      | true =>
        go_wp2_with (go_at_call 12; refine (wlit_any w.heap.size w3 HB3.out.wd HSZ.out.1).mono ?_; rintro e w4 ⟨rfl, hb4⟩; have HB4 := Lib.hid (HB3.out.below hb4); clear hb4)
        refine (split_any w.heap.size w4 HB4.out.wd HSZ.out.2 (HE.out.below HB4.out.bel HE12.out.1 HE12.out.2)).mono ?_
        rintro e w5 ⟨ps2, rfl, hwd5, hkp5, hor5⟩
        have heq : litOf ps2 = litOf ps1 := by
          rcases hor5 with ⟨_, rfl, _⟩ | ⟨h2, rfl⟩
          · rfl
          · rcases HOR.out with ⟨h1, h3, _⟩ | ⟨_, h3⟩
            · rw [h3, h1] at h2
              cases h2
            · rw [h3]
              exact split_stable _
        have hsz5 : sz ps2 ≤ 100000000 := by
          have h5 := HSZ3.out
          rcases hor5 with ⟨_, rfl, _⟩ | ⟨_, rfl⟩
          · omega
          · have := sz_split ps1
            have := sz_length ps1
            omega
        have hb5 : Bun w w1 ss ls ps2 true w5 := ⟨HB4.out.lits.kept hkp5, HB4.out.bel.trans (hkp5.below (by have := HB4.out.lits.size; omega)), hwd5, HB4.out.kept.trans hkp5, fun h => by cases h⟩
        have HB5 := Lib.hid (And.intro hb5 (And.intro heq hsz5))
        clear hwd5 hkp5 hor5 heq hsz5 hb5
        generalize ps1.any holds = b5
        go_wp2_with (go_at_call 12; refine (wlit_any w.heap.size w5 HB5.out.1.wd HB5.out.2.2).mono ?_; rintro e w6 ⟨rfl, hb6⟩; rw [HB5.out.2.1]; have HB6 := Lib.hid (HB5.out.1.below hb6); clear hb6)
        go_loopg [9] ss.length (fun gk s w7 => ∃ k, Bun w w1 ss ls ps2 true w7 ∧ k ≤ ss.length ∧ gk = ss.length - k ∧ s = .int .i64 (k : Int))
        case atStart => exact ⟨0, HB6.out, Nat.zero_le _, rfl, rfl⟩
        case round =>
          rename World => w7
          obtain ⟨k, hbun, hk, rfl, rfl⟩ := hrel
          have HE6 := Lib.hid hbun
          clear hbun HB6
          by_cases hlt : k < ss.length
          · have hkz : (k : Int) < (ss.length : Int) := by omega
            obtain ⟨b, off, hab, hbl, hck⟩ := some_str HC.out hlt
            subst hab
            have hcell := (HE6.out.bel.cell (p := ⟨b, off + k, none⟩) hbl).trans hck
            obtain ⟨q, hq⟩ : ∃ q, ls[k]? = some q := ⟨_, List.getElem?_eq_getElem (by have := HE6.out.lits.len; omega)⟩
            obtain ⟨_, hc1, x1, x2, x3, x4, hq2⟩ := HE6.out.lits.cells k q hq
            clear hck hbl
            generalize ss.getD k ByteArray.empty = s at *
            have hc2 : w7.cell? ⟨q, 4, none⟩ = some (.string s) := (Lib.cell_of_heap hq2 4).trans rfl
            clear hq2 hq
            go_upto_region 27 with fail
            go_quiet (fail)
            go_wp2
            go_roundg (ss.length - (k + 1))
            case measure => omega
            case rel => exact ⟨k + 1, HE6.out.draws _, by omega, rfl, by first | rfl | simp⟩
          · obtain rfl : k = ss.length := by omega
            go_wp2
            go_ret
            exact ⟨rfl, HE6.out.bel⟩
      | false =>
        obtain rfl : ps1 = ss.map Part.lit := by
          rcases HOR.out with ⟨_, h, _⟩ | ⟨h, _⟩
          · exact h
          · rw [HB1.out] at h
            cases h
        obtain ⟨g0, cap0, c5, c6⟩ := HM.out.1.row HM.out.2 (HB3.out.same rfl)
        clear c6
        go_wp2_with fail
        go_loopg [7] ss.length (fun gk s w8 => ∃ k, Bun w w1 ss ls (ss.map Part.lit) false w8 ∧ k ≤ ss.length ∧ gk = ss.length - k ∧ s = .int .i64 (k : Int))
        case atStart => exact ⟨0, HB3.out, Nat.zero_le _, rfl, rfl⟩
        case round =>
          rename World => w8
          obtain ⟨k, hbun, hk, rfl, rfl⟩ := hrel
          have HB8 := Lib.hid hbun
          clear hbun HB3
          by_cases hlt : k < ss.length
          · have hkz : (k : Int) < (ss.length : Int) := by omega
            obtain ⟨b, off, hab, hbl, hck⟩ := some_str HC.out hlt
            subst hab
            have hcell := (HB8.out.bel.cell (p := ⟨b, off + k, none⟩) hbl).trans hck
            obtain ⟨q, hq⟩ : ∃ q, ls[k]? = some q := ⟨_, List.getElem?_eq_getElem (by have := HB8.out.lits.len; omega)⟩
            obtain ⟨_, hc1, x1, x2, x3, x4, hq2⟩ := HB8.out.lits.cells k q hq
            obtain ⟨a9, cap9, c5, c6⟩ := HM.out.1.row HM.out.2 (HB8.out.same rfl)
            obtain ⟨g9, rfl, c7⟩ := c6 k q hq
            have hneq := part_neq
            clear c6
            clear hck hbl hcell hq2 hq
            go_upto_region 18 with fail
            go_quiet (fail)
            go_wp2
            go_roundg (ss.length - (k + 1))
            case measure => omega
            case rel => exact ⟨k + 1, HB8.out.draws _, by omega, rfl, by first | rfl | simp⟩
          · obtain rfl : k = ss.length := by omega
            go_wp2_with (go_at_call 12; refine (wlit_any w.heap.size w8 HB8.out.wd HSZ.out.1).mono ?_; rintro e w4 ⟨rfl, hb4⟩; have HB4 := Lib.hid (HB8.out.below hb4); clear hb4)
            refine (split_any w.heap.size w4 HB4.out.wd HSZ.out.2 (HE.out.below HB4.out.bel HE12.out.1 HE12.out.2)).mono ?_
            rintro e w5 ⟨ps2, rfl, hwd5, hkp5, hor5⟩
            have heq : litOf ps2 = litOf (ss.map Part.lit) := by
              rcases hor5 with ⟨_, rfl, _⟩ | ⟨h2, rfl⟩
              · rfl
              · rw [HB1.out] at h2
                cases h2
            have hsz5 : sz ps2 ≤ 100000000 := by
              have h5 := HSZ3.out
              rcases hor5 with ⟨_, rfl, _⟩ | ⟨_, rfl⟩
              · omega
              · have := sz_split (ss.map Part.lit)
                have := sz_length (ss.map Part.lit)
                omega
            have hb5 : Bun w w1 ss ls ps2 true w5 := ⟨HB4.out.lits.kept hkp5, HB4.out.bel.trans (hkp5.below (by have := HB4.out.lits.size; omega)), hwd5, HB4.out.kept.trans hkp5, fun h => by cases h⟩
            have HB5 := Lib.hid (And.intro hb5 (And.intro heq hsz5))
            clear hwd5 hkp5 hor5 heq hsz5 hb5
            generalize (ss.map Part.lit).any holds = b5
            go_wp2_with (go_at_call 12; refine (wlit_any w.heap.size w5 HB5.out.1.wd HB5.out.2.2).mono ?_; rintro e w6 ⟨rfl, hb6⟩; rw [HB5.out.2.1]; have HB6 := Lib.hid (HB5.out.1.below hb6); clear hb6)
            go_loopg [9] ss.length (fun gk s w7 => ∃ k, Bun w w1 ss ls ps2 true w7 ∧ k ≤ ss.length ∧ gk = ss.length - k ∧ s = .int .i64 (k : Int))
            case atStart => exact ⟨0, HB6.out, Nat.zero_le _, rfl, rfl⟩
            case round =>
              rename World => w7
              obtain ⟨k, hbun, hk, rfl, rfl⟩ := hrel
              have HE6 := Lib.hid hbun
              clear hbun HB6
              by_cases hlt : k < ss.length
              · have hkz : (k : Int) < (ss.length : Int) := by omega
                obtain ⟨b, off, hab, hbl, hck⟩ := some_str HC.out hlt
                subst hab
                have hcell := (HE6.out.bel.cell (p := ⟨b, off + k, none⟩) hbl).trans hck
                obtain ⟨q, hq⟩ : ∃ q, ls[k]? = some q := ⟨_, List.getElem?_eq_getElem (by have := HE6.out.lits.len; omega)⟩
                obtain ⟨_, hc1, x1, x2, x3, x4, hq2⟩ := HE6.out.lits.cells k q hq
                clear hck hbl
                generalize ss.getD k ByteArray.empty = s at *
                have hc2 : w7.cell? ⟨q, 4, none⟩ = some (.string s) := (Lib.cell_of_heap hq2 4).trans rfl
                clear hq2 hq
                go_upto_region 27 with fail
                go_quiet (fail)
                go_wp2
                go_roundg (ss.length - (k + 1))
                case measure => omega
                case rel => exact ⟨k + 1, HE6.out.draws _, by omega, rfl, by first | rfl | simp⟩
              · obtain rfl : k = ss.length := by omega
                go_wp2
                go_ret
                exact ⟨rfl, HE6.out.bel⟩

theorem lawK_any (v : Value) (ss : List ByteArray) (w : World) (hl : ss.length ≤ maxLen) (hs : ∀ i, i < ss.length → (ss.getD i ByteArray.empty).size ≤ maxLen) (h : StrsAt w v ss) (hE : Errs w) :
    Calls Tryd.prog 4 #[v] w fun e w' => e = .returned (.bool true) ∧ Below w.heap.size w w' := by
  by_cases hb : tot ss ≤ 8192
  · exact lawK_small v ss w hl hs h hb hE
  · exact lawK_big v ss w hl hs h hb
end Go.Proofs.YtpmmnlgkeanplaaDoor

namespace Go.Proofs.YtpmmnlgkeanplaaDoor
open Go.ChangeShapes Go.WideShapes Go.ChangeAt Go.RowKit

theorem own : ownKnob Tryd.prog.godebug = none := by kernel_rfl
theorem laidOut : laidOutB Tryd.prog = true := by kernel_rfl
theorem cells_str : Tryd.prog.cellsOf 9 = 1 := by kernel_rfl
def laid : List (String × DataW Unit) := [("math/bits.deBruijn32tab", Rows.laid_math_bits_deBruijn32tab), ("math/bits.deBruijn64tab", Rows.laid_math_bits_deBruijn64tab), ("internal/strconv.uint64pow10", Rows.laid_internal_strconv_uint64pow10), ("strconv.ErrRange", Rows.laid_strconv_ErrRange), ("strconv.ErrSyntax", Rows.laid_strconv_ErrSyntax)]

theorem err_cell {W : World} {n nm : String} {d : DataW Unit} {g : Nat} {ti : TypeId} {ms : Array (String × TypeId)} (h : Lib.VarReads Tryd.prog W n (.iface nm d)) (hg : Tryd.prog.globalNamed n = some g) (ht : (Tryd.prog.globals[g]?).map (·.type) = some ti) (hi : Tryd.prog.underlying ti = some (.interface ms)) :
    ∃ ev, W.cell? ⟨g, 0, none⟩ = some ev ∧ (ev = .nilIface ∨ ∃ te pe, ev = .iface te pe) := by
  obtain ⟨g', t', cs, fuel, p, hg', ht', hv, hd⟩ := h
  obtain rfl := Option.some.inj (hg.symm.trans hg')
  obtain rfl := Option.some.inj (ht.symm.trans ht')
  obtain ⟨_, u, v, hcs, _, _⟩ := iface_of_trod hi hd
  refine ⟨.iface u v, ?_, Or.inr ⟨u, v, rfl⟩⟩
  have h0 := World.var?_cell hg' hv 0
  obtain ⟨l⟩ := cs
  simp only at hcs
  subst hcs
  simpa using h0
theorem errs_of {W : World} (h : laidMet Tryd.prog laid W) : Errs W :=
  ⟨err_cell (Lib.laidMet.reads h (.tail _ (.tail _ (.tail _ (.tail _ (.head _)))))) (by kernel_rfl) (by kernel_rfl) Tryd.underlying60,
   err_cell (Lib.laidMet.reads h (.tail _ (.tail _ (.tail _ (.head _))))) (by kernel_rfl) (by kernel_rfl) Tryd.underlying60⟩

section
variable {H : Type} {enc : TypeId × Value → H} {W W' : World} {base : Nat} {v : Value} {d : DataW H} {p : List MemPlace}

set_option maxRecDepth 10000 in
theorem strs_of (hv : Value.okWide Tryd.prog W .any base 22 v) (h : DataW.Trod enc Tryd.prog W 0 (fun _ => true) true 22 v d p) : ∃ ss, StrsAt W v ss ∧ ss.length ≤ maxLen ∧ ∀ i, i < ss.length → (ss.getD i ByteArray.empty).size ≤ maxLen := by
  obtain ⟨a0, len, cap, rfl⟩ := okWide_slice Tryd.underlying22 hv
  obtain ⟨fuel, hf⟩ := h
  rcases open_strings Tryd.underlying22 Tryd.underlying9 cells_str hf with ⟨hcs, hx⟩ | ⟨a, len', cap', ss, hcs, _, hl, hm, hz, hx, hcell, hsz⟩
  · simp [Value.cells] at hcs
    obtain ⟨rfl, rfl, rfl⟩ := hcs
    exact ⟨[], ⟨none, 0, rfl, Or.inl ⟨rfl, rfl, rfl⟩⟩, Nat.zero_le _, fun i hi => absurd hi (by simp)⟩
  · simp [Value.cells] at hcs
    obtain ⟨rfl, rfl, rfl⟩ := hcs
    simp only [if_true] at hz
    have hlen : (ss.take len).length = len := by simp; omega
    refine ⟨ss.take len, ⟨some a, cap, by rw [hlen], Or.inr ⟨a, rfl, fun i hi => ?_⟩⟩, Nat.le_trans (Nat.le_of_eq hlen) (Nat.le_trans hl hm), fun i hi => ?_⟩
    · rw [hlen] at hi
      rw [hcell i (by omega)]
      simp [List.getD, List.getElem?_take_of_lt hi]
    · have h1 : (ss.take len).getD i ByteArray.empty ∈ ss.take len := by
        rw [List.getD_eq_getElem?_getD, List.getElem?_eq_getElem hi]
        exact List.getElem_mem hi
      exact hsz _ (List.mem_of_mem_take h1)
theorem carry_strs (h : DataW.Trod enc Tryd.prog W 0 (fun _ => true) true 22 v d p) (hb : Below W.heap.size W W') (hlt : ∀ x ∈ p, x.block < W.heap.size) : DataW.Trod enc Tryd.prog W' 0 (fun b => decide (b < W.heap.size)) true 22 v d p :=
  Below.trod laidOut (by kernel_rfl) (of_decide_eq_true (by kernel_rfl)) h hb hlt
end
end Go.Proofs.YtpmmnlgkeanplaaDoor
