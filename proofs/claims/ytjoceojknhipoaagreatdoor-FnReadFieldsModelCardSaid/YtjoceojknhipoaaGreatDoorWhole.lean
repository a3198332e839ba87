/-
  The walk: ReadFields of a Config whose environment is one pair, made by the law's own helper.
-/
import Derived.Test.YtjoceojknhipoaaGreatDoorScan
namespace Go.Proofs.YtjoceojknhipoaaGreatDoor
open Go.RowKit Rf

/-- The fields as they lie behind a call. -/
def Lies (o : Option (List (List Int))) (v : Value) (w : World) : Prop := match o with
  | none => v = .slice none 0 0
  | some xs => ∃ g c, v = .slice (some ⟨g, 0, none⟩) xs.length c ∧ ∀ k, k < xs.length → w.cell? ⟨g, k, none⟩ = some (.string (runesBytes (xs.getD k [])))
def RfRes (o : Option (List (List Int))) (w : World) (e : Ending) (w' : World) : Prop := ∃ v, e = .returned v ∧ Lies o v w' ∧ Below w.heap.size w w'

theorem rfRes_of {b : Nat} {o : Option (List (List Int))} {w W : World} {e : Ending} {w' : World} (h : RfOut b o W e w') (hb : Below w.heap.size w W) (hw : w.heap.size ≤ b) (hW : w.heap.size ≤ W.heap.size) : RfRes o w e w' := by
  obtain ⟨⟨W2, hg, hb2⟩, h⟩ := h
  have hB : Below w.heap.size w w' := (hb.grown hg hW (by intro k hk; cases hk; exact hw)).trans (hb2.mono (Nat.le_trans hW hg.size))
  cases o with
  | none => exact ⟨_, h, rfl, hB⟩
  | some xs =>
    obtain ⟨g, c, he, hc⟩ := h
    exact ⟨_, he, ⟨g, c, rfl, hc⟩, hB⟩

theorem below_one {w W : World} {o : Obj} (h : Below (w.alloc o).heap.size (w.alloc o) W) : Below w.heap.size w W := ((Below.refl _ w).alloc (Nat.le_refl _) o).trans (h.mono (by simp))

set_option maxHeartbeats 1000000 in
theorem rf_many (ifs s : ByteArray) (n : Int) (raw : Bool) (w : World) (hs : ifs.size ≤ 4096) (hsz : s.size ≤ 65536) (hn : n = -1 ∨ 2 ≤ n) :
    Calls Tryz.prog 8 #[.string ifs, .string s, .int .i64 n, .bool raw] w (RfRes (give (among ifs) (fun r => isWS r && among ifs r) n raw (runes s)) w) := by
  go_enter Tryz.func8, Tryz.ntmps8
  go_wp2_with (first
    | (go_at_call 19; refine (listEnv_one ifs w.heap.size 1 _ hs (cell_one_new _ _ _ 0 _ rfl)).mono ?_; rintro e W ⟨v, rfl, g, cap, rfl, hg, hg1, hg2, hb⟩; have hB := below_one hb; have hWle := hB.size)
    | (go_at_call 7; refine (readFields_many ifs ⟨#[]⟩ s n raw W.heap.size g cap _ hs hsz hn ((World.cell?_alloc_past _ _ _ hg2).trans hg) (Nat.ne_of_lt hg2) ⟨(cell_of_row _ _ 0 _ _ (0, 0) (heap_alloc_new _ _)).trans rfl, (cell_of_row _ _ 3 _ _ (0, 0) (heap_alloc_new _ _)).trans rfl, (cell_of_row _ _ 25 _ _ (0, 0) (heap_alloc_new _ _)).trans rfl, frozen_of_row _ _ 0 _ _ (heap_alloc_new _ _), frozen_of_row _ _ 25 _ _ (heap_alloc_new _ _)⟩).mono ?_; rintro e w2 hout; obtain ⟨v2, rfl, hl2, hb2⟩ := rfRes_of hout (hB.alloc hWle _) hWle (by simp; omega)))
  go_ret
  exact ⟨_, rfl, hl2, hb2⟩
end Go.Proofs.YtjoceojknhipoaaGreatDoor
