/-
  What the card needs: the strings that come in, what they read as behind the call.
-/
import Derived.Test.YthcminjdkgmeoaaGreatDoorStr
import Derived.Test.YthcminjdkgmeoaaGreatDoorRows
import Derived.ProofKit
import Derived.OpenShut
import Derived.SliceStrings
import Derived.Carry
import Derived.ChangeOld
import Derived.Lay
import Derived.LaidOnce
import Derived.LaidLaws
namespace Go.Proofs.YthcminjdkgmeoaaGreatDoor
open Go.ChangeShapes Go.WideShapes Go.ChangeAt Go.RowKit

theorem own : ownKnob Tryz.prog.godebug = none := by kernel_rfl
theorem laidOut : laidOutB Tryz.prog = true := by kernel_rfl
theorem cells_str : Tryz.prog.cellsOf 9 = 1 := by kernel_rfl
def laid : List (String × DataW Unit) := [("unicode/utf8.acceptRanges", Rows.laid_unicode_utf8_acceptRanges), ("unicode.CaseRanges", Rows.laid_unicode_CaseRanges), ("unicode/utf8.first", Rows.laid_unicode_utf8_first)]

section
variable {H : Type} {enc : TypeId × Value → H} {W W' : World} {base : Nat} {v : Value} {d : DataW H} {p : List MemPlace}

set_option maxRecDepth 10000 in
theorem strs_of (hv : Value.okWide Tryz.prog W .any base 22 v) (h : DataW.Trod enc Tryz.prog W 0 (fun _ => true) true 22 v d p) : ∃ ss, StrsAt W v ss ∧ ss.length ≤ maxLen ∧ ∀ i, i < ss.length → (ss.getD i ByteArray.empty).size ≤ maxLen := by
  obtain ⟨a0, len, cap, rfl⟩ := okWide_slice Tryz.underlying22 hv
  obtain ⟨fuel, hf⟩ := h
  rcases open_strings Tryz.underlying22 Tryz.underlying9 cells_str hf with ⟨hcs, hx⟩ | ⟨a, len', cap', ss, hcs, _, hl, hm, hz, hx, hcell, hsz⟩
  · simp [Value.cells] at hcs
    obtain ⟨rfl, rfl, rfl⟩ := hcs
    exact ⟨[], ⟨none, 0, rfl, Or.inl ⟨rfl, rfl, rfl⟩⟩, Nat.zero_le _, fun i hi => absurd hi (by simp)⟩
  · simp [Value.cells] at hcs
    obtain ⟨rfl, rfl, rfl⟩ := hcs
    simp only [if_true] at hz
    have hlen : (ss.take len).length = len := by simp; omega
    refine ⟨ss.take len, ⟨some a, cap, by rw [hlen], Or.inr ⟨a, rfl, fun i hi => ?_⟩⟩, Nat.le_trans (Nat.le_of_eq hlen) (Nat.le_trans hl hm), fun i hi => ?_⟩
    · rw [hlen] at hi
      rw [hcell i (by omega)]
      simp [List.getD, List.getElem?_take_of_lt hi]
    · have h1 : (ss.take len).getD i ByteArray.empty ∈ ss.take len := by
        rw [List.getD_eq_getElem?_getD, List.getElem?_eq_getElem hi]
        exact List.getElem_mem hi
      exact hsz _ (List.mem_of_mem_take h1)
theorem carry_strs (h : DataW.Trod enc Tryz.prog W 0 (fun _ => true) true 22 v d p) (hb : Below W.heap.size W W') (hlt : ∀ x ∈ p, x.block < W.heap.size) : DataW.Trod enc Tryz.prog W' 0 (fun b => decide (b < W.heap.size)) true 22 v d p :=
  Below.trod laidOut (by kernel_rfl) (of_decide_eq_true (by kernel_rfl)) h hb hlt
end
end Go.Proofs.YthcminjdkgmeoaaGreatDoor
