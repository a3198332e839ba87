/-
  The mode that the law makes: which bits are set. No program in sight.
-/
import Derived.Test.YthohfanojaiedaaFmtBrk
import Derived.Laws.BitsLemmas
namespace Go.Proofs.YthohfanojaiedaaFmt
open Go.RowKit

theorem u64_wrap (n : Nat) (h : n < 2 ^ 64) : IntKind.u64.wrap (n : Int) = n := by rw [IntKind.wrap_u64]; omega
theorem ofInt_nat (n : Nat) (h : n < 2 ^ 64) : (BitVec.ofInt IntKind.u64.bits (n : Int)).toNat = n := by
  show (BitVec.ofInt 64 (n : Int)).toNat = n
  rw [BitVec.toNat_ofInt]
  omega
def low (x : Int) : Nat := (BitVec.ofInt 64 x).toNat
theorem low_lt (x : Int) : low x < 2 ^ 64 := (BitVec.ofInt 64 x).isLt
theorem bits_and_low (x : Int) (c : Nat) (hc : c < 2 ^ 64) : bits .and .u64 x c = ((low x &&& c : Nat) : Int) := by
  unfold bits
  simp only [BitVec.toNat_and]
  rw [ofInt_nat c hc]
  exact u64_wrap _ (Nat.lt_of_le_of_lt Nat.and_le_right hc)
theorem bits_or_low (a c : Nat) (ha : a < 2 ^ 64) (hc : c < 2 ^ 64) : bits .or .u64 (a : Int) c = ((a ||| c : Nat) : Int) := by
  unfold bits
  simp only [BitVec.toNat_or]
  rw [ofInt_nat c hc, ofInt_nat a ha]
  exact u64_wrap _ (Nat.or_lt_two_pow ha hc)
theorem low_nat (n : Nat) (h : n < 2 ^ 64) : low (n : Int) = n := ofInt_nat n h

theorem mode_ok (mode : Int) : ∃ I U, ModeOk (bits .or .u64 (bits .and .u64 mode 59) 4) I U := by
  have e1 : bits .and .u64 mode 59 = ((low mode &&& 59 : Nat) : Int) := bits_and_low mode 59 (by decide)
  have h1 : (low mode &&& 59) < 2 ^ 64 := Nat.lt_of_le_of_lt Nat.and_le_right (by decide)
  have e2 : bits .or .u64 ((low mode &&& 59 : Nat) : Int) 4 = (((low mode &&& 59) ||| 4 : Nat) : Int) := bits_or_low _ 4 h1 (by decide)
  rw [e1, e2]
  have h2 : (low mode &&& 59) ||| 4 < 2 ^ 64 := Nat.or_lt_two_pow h1 (by decide)
  have ea : ∀ c : Nat, c < 2 ^ 64 → bits .and .u64 (((low mode &&& 59) ||| 4 : Nat) : Int) c = ((((low mode &&& 59) ||| 4) &&& c : Nat) : Int) := fun c hc => by
    rw [bits_and_low _ c hc, low_nat _ h2]
  have d : ∀ c : Nat, ((low mode &&& 59) ||| 4) &&& c = (low mode &&& (59 &&& c)) ||| (4 &&& c) := fun c => by
    rw [Nat.and_or_distrib_right, Nat.and_assoc]
  refine ⟨_, _, ?_, rfl, rfl, ?_, ?_⟩
  · rw [show ((12 : Int)) = ((12 : Nat) : Int) from rfl, ea 12 (by decide), d]
    have : ¬ ((low mode &&& (59 &&& 12)) ||| (4 &&& 12)) = 0 := by
      intro h
      have := (Nat.or_eq_zero_iff.1 h).2
      exact absurd this (by decide)
    simp only [beq_eq_false_iff_ne, ne_eq]
    omega
  · rw [show ((4 : Int)) = ((4 : Nat) : Int) from rfl, ea 4 (by decide), d]
    have : (low mode &&& (59 &&& 4)) ||| (4 &&& 4) = 4 := by
      rw [show (59 &&& 4 : Nat) = 0 from by decide, Nat.and_zero]
      decide
    rw [this]
    decide
  · rw [show ((64 : Int)) = ((64 : Nat) : Int) from rfl, ea 64 (by decide), d]
    have : (low mode &&& (59 &&& 64)) ||| (4 &&& 64) = 0 := by
      rw [show (59 &&& 64 : Nat) = 0 from by decide, Nat.and_zero]
      decide
    rw [this]
    decide
end Go.Proofs.YthohfanojaiedaaFmt
