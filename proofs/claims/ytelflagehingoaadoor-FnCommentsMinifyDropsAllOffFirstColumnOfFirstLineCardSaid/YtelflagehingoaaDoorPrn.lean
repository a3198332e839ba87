/-
  A fresh printer; its queue of comments.
-/
import Derived.Test.YtelflagehingoaaDoorPos
namespace Go.Proofs.YtelflagehingoaaDoor
open Go.RowKit

theorem Tryd.info5 : (Tryd.prog.info? 5).map (fun i => (i.zero, i.size, i.bytes)) = some (some (.int .u8 0), 1, 1) := by kernel_rfl

set_option maxRecDepth 100000 in
set_option maxHeartbeats 1000000 in
theorem newWriter_any (w : World) : Calls Tryd.prog 21 #[.nilIface] w fun e w' => ∃ g, e = .returned (.pointer (some ⟨g, 0, none⟩)) ∧ Below w.heap.size w w' := by
  have hta : ∀ w : World, (Instr.typeAssert .nilIface 63 51 true).run Tryd.prog w = .ok (.tuple #[.pointer none, .bool false]) w := fun _ => by kernel_rfl
  obtain ⟨i5, hi5, hx0, hx1, hx2⟩ := info_parts Tryd.info5
  go_enter Tryd.func21, Tryd.ntmps21
  go_wp2_with (first
    | (at_make; refine wpList_make_full _ rfl _ _ 65 rfl w.heap.size 5 i5 (.int .u8 0) 1 Tryd.underlying65 hi5 hx0 hx1 _ _ _ _ 4096 rfl rfl rfl rfl (by rw [hx2]; omega) (by unfold maxLen; omega) (Nat.le_refl _) ?_; intro wm hown2 hgrow2)
    | go_in)
  go_ret
  exact ⟨_, rfl, ((Below.refl _ _).grown hgrow2 (Nat.le_refl _) (by simp)).alloc hgrow2.size _⟩

/-- A printer in block P: does it make texts small, which comments wait, which line. -/
structure IsPrn (w : World) (P : Nat) (m : Bool) (pend : Value) (line : Int) : Prop where
  c10 : w.cell? ⟨P, 10, none⟩ = some (.bool m)
  c17 : w.cell? ⟨P, 17, none⟩ = some pend
  c19 : w.cell? ⟨P, 19, none⟩ = some (.int .u64 line)
  f17 : w.frozen? ⟨P, 17, none⟩ = false
def NewPrn (m : Bool) (w : World) (e : Ending) (w' : World) : Prop := ∃ P, e = .returned (.pointer (some ⟨P, 0, none⟩)) ∧ IsPrn w' P m (.slice none 0 0) 0 ∧ w.heap.size ≤ P ∧ Below w.heap.size w w'

theorem two_cells {w w5 : World} {m : Bool} (hb5 : Below ((w.alloc (.cells #[.bool m] 4)).alloc (.cells #[.func (.func 22) #[] #[.pointer (some ⟨w.heap.size, 0, none⟩)]] 46)).heap.size ((w.alloc (.cells #[.bool m] 4)).alloc (.cells #[.func (.func 22) #[] #[.pointer (some ⟨w.heap.size, 0, none⟩)]] 46)) w5) :
    w5.cell? ⟨w.heap.size, 0, none⟩ = some (.bool m) ∧ w5.cell? ⟨w.heap.size + 1, 0, none⟩ = some (.func (.func 22) #[] #[.pointer (some ⟨w.heap.size, 0, none⟩)]) ∧ w.heap.size + 2 ≤ w5.heap.size ∧ Below w.heap.size w w5 := by
  refine ⟨(hb5.cell (p := ⟨w.heap.size, 0, none⟩) (by simp; omega)).trans (by simp [go_sem]), (hb5.cell (p := ⟨w.heap.size + 1, 0, none⟩) (by simp)).trans (by simp [go_sem]), by have := hb5.size; simpa using this, ?_⟩
  exact (((Below.refl _ _).alloc (Nat.le_refl _) _).alloc (by simp) _).trans (hb5.mono (by simp; omega))

set_option maxRecDepth 100000 in
set_option maxHeartbeats 1000000 in
theorem newPrinter_any (m : Bool) (w : World) : Calls Tryd.prog 12 #[.bool m] w (NewPrn m w) := by
  go_enter Tryd.func12, Tryd.ntmps12
  go_wp2_with (first | (go_at_call 21; refine (newWriter_any _).mono ?_; rintro e w5 ⟨g, rfl, hb5⟩; obtain ⟨hc0, hc1, hz5, hbw⟩ := two_cells hb5; have HBW := Lib.hid hbw; clear hb5 hbw; have hl0 := World.block_lt_of_cell? _ _ hc0; have hl1 := World.block_lt_of_cell? _ _ hc1) | go_in)
  refine wp_loop_rounds 2 ?_
  rw [rounds_succ]
  go_wp2_with (first | go_in)
  go_end0
  go_wp2
  rw [rounds_succ]
  go_wp2
  go_ret
  refine ⟨_, rfl, ⟨?_, ?_, ?_, ?_⟩, by omega, (HBW.out.alloc (by omega) _).alloc (by simp; omega) _⟩
  all_goals simp [go_sem]
end Go.Proofs.YtelflagehingoaaDoor
