/-
  regexpNext at the pattern's end: io.EOF.
-/
import Derived.Test.YtdpiipejpmheoaaFmtPlain
namespace Go.Proofs.YtdpiipejpmheoaaFmt
open Go.RowKit

set_option maxRecDepth 100000 in
set_option maxHeartbeats 4000000 in
theorem rn_end (b l : Nat) (s : ByteArray) (i : Nat) (mode : Int) (w : World) (hl : Lex l s i w) (hi : s.size ≤ i) (hs : i ≤ 100000) (hmode : (bits BinOp.and IntKind.u64 mode 64 != 0) = false) (V : Value) (hV : w.cell? ⟨0, 0, none⟩ = some V) :
    Calls Tryf.prog 8 #[.pointer (some ⟨b, 0, none⟩), .pointer (some ⟨l, 0, none⟩), .int .u64 mode] w fun e w' => e = .returned V ∧ Below w.heap.size w w' := by
  have HL := Lib.hid hl
  have HN := Lib.hid (fun W (h : Lex l s i W) => next_end l s i W h hi (by omega))
  have hlw := hl.lt
  have hV1 : ∀ o, (w.alloc o).cell? ⟨0, 0, none⟩ = some V := fun o => by
    rw [World.cell?_alloc_past _ _ _ (World.block_lt_of_cell? _ _ hV)]
    exact hV
  clear hl hi hs hV
  go_enter Tryf.func8, Tryf.ntmps8
  go_upto_region 2 with (go_at_call 11; refine (HN.out _ ((HL.out.below ((Below.refl _ _).alloc (Nat.le_refl _) _) (Nat.le_refl _)).below ((Below.refl _ _).alloc (Nat.le_refl _) _) (Nat.le_refl _))).mono ?_; rintro e w3 ⟨rfl, nq, rfl⟩)
  go_wp2_with fail
  go_ret
  exact ⟨rfl, below_drewN (((Below.refl _ _).alloc (Nat.le_refl _) _).alloc (by simp) _) nq⟩
end Go.Proofs.YtdpiipejpmheoaaFmt
