/-
  The environment of no pairs.
-/
import Derived.Test.YthcminjdkgmeoaaGreatDoorPrep
namespace Go.Proofs.YthcminjdkgmeoaaGreatDoor
open Go.RowKit
set_option linter.unusedVariables false

theorem own_empty {w : World} {base : Nat} {e : TypeId} {size : Nat} {v : Value} {xs : List Value} (h : w.ownsRow base e size v 0 xs) : ∃ ao c, v = .slice ao 0 c := by
  rcases h.2 with ⟨h, _⟩ | ⟨g, cap, cur, hv, _⟩
  · exact ⟨_, _, h⟩
  · exact ⟨_, _, hv⟩
theorem clone_zero (ao : Option Addr) (c : Nat) (w : World) : Calls Tryz.prog 13 #[.slice ao 0 c] w fun e w' => ∃ ao' c', e = .returned (.slice ao' 0 c') ∧ Below w.heap.size w w' := by
  cases ao with
  | none => exact (Tryz.slices_Clone_string_nil 0 c w).mono fun e w' ⟨h1, h2⟩ => ⟨none, 0, h1, by rw [h2]; exact Below.refl _ _⟩
  | some a =>
    refine (Tryz.slices_Clone_string_zero a c w).mono fun e w' ⟨v, h1, h2, _, h3⟩ => ?_
    obtain ⟨ao, c', rfl⟩ := own_empty h2
    exact ⟨ao, c', h1, h3⟩
theorem stable_zero (ao : Option Addr) (c : Nat) (f : Value) (w : World) : Calls Tryz.prog 14 #[.slice ao 0 c, f] w fun e w' => e = .returned (.tuple #[]) ∧ w = w' := by
  go_enter Tryz.func14, Tryz.ntmps14
  go_wp2
  refine wp_loop_rounds 1 ?_
  rw [rounds_succ]
  go_wp2
  refine wp_loop_rounds 1 ?_
  rw [rounds_succ]
  go_wp2
  refine wp_loop_rounds 1 ?_
  rw [rounds_succ]
  go_wp2
  go_returns
  exact ⟨rfl, rfl⟩
set_option maxHeartbeats 1000000 in
theorem lst_zero (ao : Option Addr) (c : Nat) (w : World) : Calls Tryz.prog 11 #[.bool false, .slice ao 0 c] w (LstOut [] w) := by
  have HCL := Lib.hid (clone_zero ao c w)
  have hmf : ∀ (fn : Fn) (first cap : Array Value) (w : World), (Instr.makeFunc fn first cap).run Tryz.prog w = .ok (.func fn first cap) w := fun _ _ _ _ => rfl
  go_enter Tryz.func11, Tryz.ntmps11
  go_wp2_with (first
    | (go_at_call 13; refine HCL.out.mono ?_; rintro e w1 ⟨ao2, c2, rfl, a1⟩; have HB1 := Lib.hid a1; clear a1)
    | (go_at_call 14; refine (stable_zero _ _ _ _).mono ?_; rintro e w3 ⟨rfl, rfl⟩))
  refine wp_loop_rounds 1 ?_
  rw [rounds_succ]
  go_wp2_with fail
  go_ret
  refine ⟨.slice ao2 0 c2, [], rfl, ⟨ao2, c2, rfl, fun h => absurd rfl h⟩, ⟨fun i j x y _ h => by simp at h, fun x h => by simp at h, rfl⟩, Nat.le_refl _, fun x h => by simp at h, ?_⟩
  have hb1 := HB1.out
  exact hb1.trans (((Below.refl w1.heap.size w1).alloc (Nat.le_refl _) _).mono hb1.size)
end Go.Proofs.YthcminjdkgmeoaaGreatDoor
