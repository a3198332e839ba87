/-
  The row that is put in order: what it holds, and what is left of the rest. No walk here.
-/
import Derived.Test.YthcminjdkgmeoaaGreatDoorFin
import Derived.Test.YthcminjdkgmeoaaGreatDoorBlk
import Derived.Test.YthcminjdkgmeoaaGreatDoorProg
import Derived.WalkKit
import Derived.WalkSmall
import Derived.OpenShut
import Derived.BigQuiet
import Derived.Deep.QuietTactic
import Derived.Deep.RegionWith
import Derived.Deep.RegionLaw
import Derived.Deep.RegionHeld3
import Derived.Deep.AppendLies
import Derived.Deep.LoopGhost
import Derived.Deep.CutRange
import Derived.Deep.CutBlock
import Derived.Deep.DeepCutAuto
import Derived.IntWalk
import Derived.Lib.Hide
import Derived.Laws.Rows
import Derived.Outline
namespace Go.Proofs.YthcminjdkgmeoaaGreatDoor
open Go.RowKit
set_option linter.unusedVariables false

abbrev strL (l : List UInt8) : Value := .string ⟨l.toArray⟩
/-- All but block P is as it was. -/
structure KeptP (P : Nat) (w w' : World) : Prop where
  block : ∀ k, k < w.heap.size → k ≠ P → w'.heap[k]? = w.heap[k]?
  size : w.heap.size ≤ w'.heap.size
  os : w'.os = w.os
  tape : w'.tape = w.tape
  output : w'.output = w.output
theorem KeptP.refl (P : Nat) (w : World) : KeptP P w w := ⟨fun _ _ _ => rfl, Nat.le_refl _, rfl, rfl, rfl⟩
theorem KeptP.trans {P : Nat} {w w1 w2 : World} (h : KeptP P w w1) (k : KeptP P w1 w2) : KeptP P w w2 :=
  ⟨fun i hi hn => (k.block i (Nat.lt_of_lt_of_le hi h.size) hn).trans (h.block i hi hn), Nat.le_trans h.size k.size, k.os.trans h.os, k.tape.trans h.tape, k.output.trans h.output⟩
theorem KeptP.of_below {P : Nat} {w w' : World} (h : Below w.heap.size w w') : KeptP P w w' := ⟨fun k hk _ => h.block k hk, h.size, h.os, h.tape, h.output⟩
theorem KeptP.set {P : Nat} (w : World) (k : Nat) (v : Value) : KeptP P w (w.setCell ⟨P, k, none⟩ v) := ⟨fun j _ hj => Below.heap_setCell _ _ _ _ hj, by simp only [World.size_setCell]; exact Nat.le_refl _, rfl, rfl, rfl⟩
theorem KeptP.cell {P : Nat} {w w' : World} (h : KeptP P w w') {b k : Nat} {v : Value} (hb : b ≠ P) (hc : w.cell? ⟨b, k, none⟩ = some v) : w'.cell? ⟨b, k, none⟩ = some v :=
  (World.cell?_of_block (h.block b (World.block_lt_of_cell? w _ hc) hb)).trans hc

theorem set_at (a : Array Value) (i k : Nat) (x : Value) (h : i < a.size) : (a.setIfInBounds i x)[k]? = if k = i then some x else a[k]? := by
  rw [Array.getElem?_setIfInBounds]
  by_cases c : i = k
  · rw [if_pos c, if_pos (by omega), if_pos c.symm]
  · rw [if_neg c, if_neg (fun e => c e.symm)]
/-- The row in block P: the texts S in the order q. -/
structure SA (w0 : World) (P n : Nat) (S : Nat → List UInt8) (q : Nat → Nat) (w : World) : Prop where
  cells : ∃ cur, w.heap[P]? = some (.cells cur 9 (0, 0)) ∧ n ≤ cur.size ∧ ∀ k, k < n → cur[k]? = some (strL (S (q k)))
  kept : KeptP P w0 w
section
variable {w0 w w' : World} {P n : Nat} {S : Nat → List UInt8} {q : Nat → Nat}
theorem SA.cell (h : SA w0 P n S q w) {k : Nat} (hk : k < n) : w.cell? ⟨P, k, none⟩ = some (strL (S (q k))) := by
  obtain ⟨cur, h1, h2, h3⟩ := h.cells
  rw [Lib.cell_of_heap h1]
  exact h3 k hk
theorem SA.frz (h : SA w0 P n S q w) (k : Nat) : w.frozen? ⟨P, k, none⟩ = false := by
  obtain ⟨cur, h1, h2, h3⟩ := h.cells
  exact Lib.frozen_of_heap h1 k
theorem SA.lt (h : SA w0 P n S q w) : P < w.heap.size := by
  obtain ⟨cur, h1, _⟩ := h.cells
  exact (Array.getElem?_eq_some_iff.1 h1).1
theorem SA.below (h : SA w0 P n S q w) (hb : Below w.heap.size w w') : SA w0 P n S q w' := by
  have hl := h.lt
  obtain ⟨cur, h1, h2, h3⟩ := h.cells
  exact ⟨⟨cur, (hb.block P hl).trans h1, h2, h3⟩, h.kept.trans (KeptP.of_below hb)⟩
theorem SA.drew (h : SA w0 P n S q w) : SA w0 P n S q w.drew := h.below ⟨rfl, rfl, rfl, Nat.le_refl _, fun _ _ => rfl⟩
/-- Two places exchanged. -/
theorem SA.swap (h : SA w0 P n S q w) {i j : Nat} (hi : i < n) (hj : j < n) (hij : i ≠ j) : SA w0 P n S (Stb.swap q i j) ((w.setCell ⟨P, i, none⟩ (strL (S (q j)))).setCell ⟨P, j, none⟩ (strL (S (q i)))) := by
  obtain ⟨cur, h1, h2, h3⟩ := h.cells
  refine ⟨⟨(cur.setIfInBounds i (strL (S (q j)))).setIfInBounds j (strL (S (q i))), ?_, by simpa using h2, fun k hk => ?_⟩, (h.kept.trans (KeptP.set w _ _)).trans (KeptP.set _ _ _)⟩
  · have e1 : (w.setCell ⟨P, i, none⟩ (strL (S (q j)))).heap[P]? = some (.cells (cur.setIfInBounds i (strL (S (q j)))) 9 (0, 0)) := by rw [heap_setCell_same _ _ _ _ _ _ h1]
    rw [heap_setCell_same _ _ _ _ _ _ e1]
  · rw [set_at _ _ _ _ (by simp; omega), set_at _ _ _ _ (by omega)]
    unfold Stb.swap
    by_cases c1 : k = j
    · rw [if_pos c1, if_neg (by omega), if_pos c1]
    · rw [if_neg c1]
      by_cases c2 : k = i
      · rw [if_pos c2, if_pos c2]
      · rw [if_neg c2, if_neg c2, if_neg c1]
        exact h3 k hk
theorem SA.swap2 (h : SA w0 P n S q w) {i j : Nat} (hi : i < n) (hj : j < n) (hij : i ≠ j) : SA w0 P n S (Stb.swap q i j) ((w.setCell ⟨P, j, none⟩ (strL (S (q i)))).setCell ⟨P, i, none⟩ (strL (S (q j)))) := by
  have e : Stb.swap q i j = Stb.swap q j i := by
    funext k
    unfold Stb.swap
    by_cases c1 : k = i
    · by_cases c2 : k = j
      · omega
      · rw [if_pos c1, if_neg c2, if_pos c1]
    · by_cases c2 : k = j
      · rw [if_neg c1, if_pos c2, if_pos c2]
      · rw [if_neg c1, if_neg c2, if_neg c2, if_neg c1]
  rw [e]
  exact h.swap hj hi (Ne.symm hij)
end
end Go.Proofs.YthcminjdkgmeoaaGreatDoor
