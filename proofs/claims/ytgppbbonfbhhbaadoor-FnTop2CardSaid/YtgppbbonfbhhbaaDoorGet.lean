/-
  The walk: prepareConfig of a Config whose environment is the law's own: IFS set or not.
-/
import Derived.Test.YtgppbbonfbhhbaaDoorIfs
namespace Go.Proofs.YtgppbbonfbhhbaaDoor
open Go.RowKit Rf

/-- A variable that is set to a text; one that is not set. -/
def varOf (ifs : ByteArray) : Value := .agg #[.bool true, .bool false, .bool false, .bool false, .int .u8 1, .string ifs, .slice none 0 0, .map none, .slice none 0 0]
def var0 : Value := .agg #[.bool false, .bool false, .bool false, .bool false, .int .u8 0, .string ⟨#[]⟩, .slice none 0 0, .map none, .slice none 0 0]

/-- The law's environment in block g: is IFS set, to what. -/
structure IsZEnv (w : World) (g : Nat) (ifs : ByteArray) (sep : Bool) : Prop where
  c5 : w.cell? ⟨g, 5, none⟩ = some (.string ifs)
  c6 : w.cell? ⟨g, 6, none⟩ = some (.bool sep)

theorem IsZEnv.of_block {w w' : World} {g : Nat} {ifs : ByteArray} {sep : Bool} (h : IsZEnv w g ifs sep) (hb : w'.heap[g]? = w.heap[g]?) : IsZEnv w' g ifs sep :=
  ⟨(World.cell?_of_block (a := ⟨g, 5, none⟩) hb).trans h.c5, (World.cell?_of_block (a := ⟨g, 6, none⟩) hb).trans h.c6⟩

set_option maxRecDepth 100000 in
theorem get_set (ifs : ByteArray) (g : Nat) (w : World) (h : IsZEnv w g ifs true) : Calls Tryd.prog 42 #[.pointer (some ⟨g, 0, none⟩), .string ⟨#[73, 70, 83]⟩] w fun e w' => e = .returned (varOf ifs) ∧ Below w.heap.size w w' := by
  obtain ⟨c5, c6⟩ := h
  have l5 := World.block_lt_of_cell? _ _ c5
  simp only [] at l5
  go_enter Tryd.func42, Tryd.ntmps42
  go_wp2
  exact bodyPost_ret (v := varOf ifs) (by simp [results, Tryd.results42, go_sem, varOf]) rfl ⟨rfl, (Below.refl _ _).alloc (Nat.le_refl _) _⟩
set_option maxRecDepth 100000 in
theorem get_unset (ifs : ByteArray) (g : Nat) (w : World) (h : IsZEnv w g ifs false) : Calls Tryd.prog 42 #[.pointer (some ⟨g, 0, none⟩), .string ⟨#[73, 70, 83]⟩] w fun e w' => e = .returned var0 ∧ Below w.heap.size w w' := by
  obtain ⟨c5, c6⟩ := h
  have l5 := World.block_lt_of_cell? _ _ c5
  simp only [] at l5
  go_enter Tryd.func42, Tryd.ntmps42
  go_wp2
  exact bodyPost_ret (v := var0) (by simp [results, Tryd.results42, go_sem, var0]) rfl ⟨rfl, (Below.refl _ _).alloc (Nat.le_refl _) _⟩
end Go.Proofs.YtgppbbonfbhhbaaDoor
