/-
  What both cards of this seat share: the slices that come in, read as lists; what they read as behind the call.
-/
import Derived.Test.YtelflagehingoaaDoorBase
import Derived.Test.YtelflagehingoaaDoorRows
import Derived.ProofKit
import Derived.OpenShut
import Derived.SliceStrings
import Derived.Carry
import Derived.ChangeOld
import Derived.Lay
import Derived.LaidOnce
namespace Go.Proofs.YtelflagehingoaaDoor
open Go.ChangeShapes Go.WideShapes Go.ChangeAt Go.RowKit

theorem own : ownKnob Tryd.prog.godebug = none := by kernel_rfl
theorem laidOut : laidOutB Tryd.prog = true := by kernel_rfl
theorem cells9 : Tryd.prog.cellsOf 9 = 1 := by kernel_rfl
theorem cells30 : Tryd.prog.cellsOf 30 = 1 := by kernel_rfl
def laid : List (String × DataW Unit) := [("unicode/utf8.acceptRanges", Rows.laid_unicode_utf8_acceptRanges), ("unicode.White_Space", Rows.laid_unicode_White_Space), ("unicode/utf8.first", Rows.laid_unicode_utf8_first)]

section
variable {H : Type} {enc : TypeId × Value → H} {W W' : World} {base : Nat} {v : Value} {d : DataW H} {p : List MemPlace}

set_option maxRecDepth 10000 in
theorem strs_of (hv : Value.okWide Tryd.prog W .any base 22 v) (h : DataW.Trod enc Tryd.prog W 0 (fun _ => true) true 22 v d p) : ∃ ss, StrsAt W v ss ∧ ss.length ≤ maxLen := by
  obtain ⟨a0, len, cap, rfl⟩ := okWide_slice Tryd.underlying22 hv
  obtain ⟨fuel, hf⟩ := h
  rcases open_strings Tryd.underlying22 Tryd.underlying9 cells9 hf with ⟨hcs, hx⟩ | ⟨a, len', cap', ss, hcs, _, hl, hm, hz, hx, hcell, hsz⟩
  · simp [Value.cells] at hcs
    obtain ⟨rfl, rfl, rfl⟩ := hcs
    exact ⟨[], ⟨none, 0, rfl, Or.inl ⟨rfl, rfl, rfl⟩⟩, Nat.zero_le _⟩
  · simp [Value.cells] at hcs
    obtain ⟨rfl, rfl, rfl⟩ := hcs
    simp only [if_true] at hz
    have hlen : (ss.take len).length = len := by simp; omega
    refine ⟨ss.take len, ⟨some a, cap, by rw [hlen], Or.inr ⟨a, rfl, fun i hi => ?_⟩⟩, Nat.le_trans (Nat.le_of_eq hlen) (Nat.le_trans hl hm)⟩
    rw [hlen] at hi
    rw [hcell i (by omega)]
    simp [List.getD, List.getElem?_take_of_lt hi]

set_option maxRecDepth 10000 in
theorem nums_of (hv : Value.okWide Tryd.prog W .any base 23 v) (h : DataW.Trod enc Tryd.prog W 0 (fun _ => true) true 23 v d p) : ∃ zs, NumsAt W v zs ∧ zs.length ≤ maxLen := by
  obtain ⟨a0, len, cap, rfl⟩ := okWide_slice Tryd.underlying23 hv
  obtain ⟨fuel, hf⟩ := h
  rcases open_ints Tryd.underlying23 Tryd.underlying30 cells30 hf with ⟨hcs, hx⟩ | ⟨a, len', cap', ss, hcs, _, hl, hm, hz, hx, hcell, hsz⟩
  · simp [Value.cells] at hcs
    obtain ⟨rfl, rfl, rfl⟩ := hcs
    exact ⟨[], ⟨none, 0, rfl, Or.inl ⟨rfl, rfl, rfl⟩⟩, Nat.zero_le _⟩
  · simp [Value.cells] at hcs
    obtain ⟨rfl, rfl, rfl⟩ := hcs
    simp only [if_true] at hz
    have hlen : (ss.take len).length = len := by simp; omega
    refine ⟨ss.take len, ⟨some a, cap, by rw [hlen], Or.inr ⟨a, rfl, fun i hi => ?_⟩⟩, Nat.le_trans (Nat.le_of_eq hlen) (Nat.le_trans hl hm)⟩
    rw [hlen] at hi
    rw [hcell i (by omega)]
    simp [List.getD, List.getElem?_take_of_lt hi]

theorem carry_strs (h : DataW.Trod enc Tryd.prog W 0 (fun _ => true) true 22 v d p) (hb : Below W.heap.size W W') (hlt : ∀ x ∈ p, x.block < W.heap.size) : DataW.Trod enc Tryd.prog W' 0 (fun b => decide (b < W.heap.size)) true 22 v d p :=
  Below.trod laidOut (by kernel_rfl) (of_decide_eq_true (by kernel_rfl)) h hb hlt
theorem carry_nums (h : DataW.Trod enc Tryd.prog W 0 (fun _ => true) true 23 v d p) (hb : Below W.heap.size W W') (hlt : ∀ x ∈ p, x.block < W.heap.size) : DataW.Trod enc Tryd.prog W' 0 (fun b => decide (b < W.heap.size)) true 23 v d p :=
  Below.trod laidOut (by kernel_rfl) (of_decide_eq_true (by kernel_rfl)) h hb hlt
end
end Go.Proofs.YtelflagehingoaaDoor
