/-
  The walk: ReadFields of a Config whose environment is one pair: every number of fields.
-/
import Derived.Test.YtjoceojknhipoaaGreatDoorWhole
import Derived.Test.YtjoceojknhipoaaGreatDoorOne
namespace Go.Proofs.YtjoceojknhipoaaGreatDoor
open Go.RowKit Rf

set_option maxHeartbeats 1000000 in
theorem rf_one (ifs s : ByteArray) (raw : Bool) (w : World) (hs : ifs.size ≤ 4096) (hsz : s.size ≤ 65536) :
    Calls Tryz.prog 8 #[.string ifs, .string s, .int .i64 1, .bool raw] w (RfRes (give (among ifs) (fun r => isWS r && among ifs r) 1 raw (runes s)) w) := by
  go_enter Tryz.func8, Tryz.ntmps8
  go_wp2_with (first
    | (go_at_call 19; refine (listEnv_one ifs w.heap.size 1 _ hs (cell_one_new _ _ _ 0 _ rfl)).mono ?_; rintro e W ⟨v, rfl, g, cap, rfl, hg, hg1, hg2, hb⟩; have hB := below_one hb; have hWle := hB.size)
    | (go_at_call 7; refine (readFields_one ifs ⟨#[]⟩ s raw W.heap.size g cap _ hs hsz ((World.cell?_alloc_past _ _ _ hg2).trans hg) (Nat.ne_of_lt hg2) ⟨(cell_of_row _ _ 0 _ _ (0, 0) (heap_alloc_new _ _)).trans rfl, (cell_of_row _ _ 3 _ _ (0, 0) (heap_alloc_new _ _)).trans rfl, (cell_of_row _ _ 25 _ _ (0, 0) (heap_alloc_new _ _)).trans rfl, frozen_of_row _ _ 0 _ _ (heap_alloc_new _ _), frozen_of_row _ _ 25 _ _ (heap_alloc_new _ _)⟩).mono ?_; rintro e w2 hout; obtain ⟨v2, rfl, hl2, hb2⟩ := rfRes_of hout (hB.alloc hWle _) hWle (by simp; omega)))
  go_ret
  exact ⟨_, rfl, hl2, hb2⟩

theorem rf_all (ifs s : ByteArray) (n : Int) (raw : Bool) (w : World) (hs : ifs.size ≤ 4096) (hsz : s.size ≤ 65536) (hn : n = -1 ∨ 1 ≤ n) :
    Calls Tryz.prog 8 #[.string ifs, .string s, .int .i64 n, .bool raw] w (RfRes (give (among ifs) (fun r => isWS r && among ifs r) n raw (runes s)) w) := by
  by_cases h1 : n = 1
  · subst h1
    exact rf_one ifs s raw w hs hsz
  · exact rf_many ifs s n raw w hs hsz (by omega)
end Go.Proofs.YtjoceojknhipoaaGreatDoor
