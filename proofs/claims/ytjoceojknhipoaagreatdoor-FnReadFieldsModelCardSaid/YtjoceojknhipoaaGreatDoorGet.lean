/-
  The walk: what IFS reads as in the environment of one pair.
-/
import Derived.Test.YtjoceojknhipoaaGreatDoorList
namespace Go.Proofs.YtjoceojknhipoaaGreatDoor
open Go.RowKit Rf

/-- A variable's nine cells, written one by one. -/
def putVar (w : World) (b : Nat) (s : ByteArray) : World := (((((((((w.setCell ⟨b, 0, none⟩ (.bool true)).setCell ⟨b, 1, none⟩ (.bool false)).setCell ⟨b, 2, none⟩ (.bool true)).setCell ⟨b, 3, none⟩ (.bool false)).setCell ⟨b, 4, none⟩ (.int .u8 1)).setCell ⟨b, 5, none⟩ (.string s)).setCell ⟨b, 6, none⟩ (.slice none 0 0)).setCell ⟨b, 7, none⟩ (.map none)).setCell ⟨b, 8, none⟩ (.slice none 0 0))

theorem alloc_second (w : World) (a b : Obj) : ((w.alloc a).alloc b).heap[w.heap.size + 1]? = some b := by
  have := heap_alloc_new (w.alloc a) b
  simpa using this
theorem below4 {w w1 : World} {a b c d : Obj} (h : Below ((((w.alloc a).alloc b).alloc c).alloc d).heap.size ((((w.alloc a).alloc b).alloc c).alloc d) w1) : Below w.heap.size w w1 :=
  (((((Below.refl _ _).alloc (Nat.le_refl _) _).alloc (by simp) _).alloc (by simp; omega) _).alloc (by simp; omega) _).trans (h.mono (by simp; omega))

theorem setCell_block {w : World} {b : Nat} {c : Array Value} {t : TypeId} {fr : Nat × Nat} (h : w.heap[b]? = some (.cells c t fr)) (k : Nat) (v : Value) :
    (w.setCell ⟨b, k, none⟩ v).heap[b]? = some (.cells (c.setIfInBounds k v) t fr) := by
  simp [World.setCell, Array.getElem?_modify, h]

theorem putVar_block {w : World} {b : Nat} {t : TypeId} {fr : Nat × Nat} (s : ByteArray) (h : w.heap[b]? = some (.cells #[.bool false, .bool false, .bool false, .bool false, .int .u8 0, .string ⟨#[]⟩, .slice none 0 0, .map none, .slice none 0 0] t fr)) :
    (putVar w b s).heap[b]? = some (.cells #[.bool true, .bool false, .bool true, .bool false, .int .u8 1, .string s, .slice none 0 0, .map none, .slice none 0 0] t fr) := by
  have h0 := setCell_block h 0 (.bool true)
  have h1 := setCell_block h0 1 (.bool false)
  have h2 := setCell_block h1 2 (.bool true)
  have h3 := setCell_block h2 3 (.bool false)
  have h4 := setCell_block h3 4 (.int .u8 1)
  have h5 := setCell_block h4 5 (.string s)
  have h6 := setCell_block h5 6 (.slice none 0 0)
  have h7 := setCell_block h6 7 (.map none)
  have h8 := setCell_block h7 8 (.slice none 0 0)
  exact h8

theorem putVar_other {w : World} {b k : Nat} (s : ByteArray) (h : k ≠ b) : (putVar w b s).heap[k]? = w.heap[k]? := by
  unfold putVar
  repeat rw [Below.heap_setCell _ _ _ _ h]

theorem below_putVar {B : Nat} {a w : World} (h : Below B a w) {b : Nat} (hb : B ≤ b) (s : ByteArray) : Below B a (putVar w b s) := by
  unfold putVar
  repeat refine Below.setCell ?_ hb _
  exact h

/-- What IFS reads as: a variable that is set, a string, that text. -/
def varOf (ifs : ByteArray) : Value := .agg #[.bool true, .bool false, .bool true, .bool false, .int .u8 1, .string ifs, .slice none 0 0, .map none, .slice none 0 0]
def GetOut (ifs : ByteArray) (w : World) (e : Ending) (w' : World) : Prop := e = .returned (varOf ifs) ∧ Below w.heap.size w w'

set_option maxHeartbeats 1000000 in
theorem get_one (ifs : ByteArray) (g cap : Nat) (w : World) (hs : ifs.size ≤ 4096) (hc : w.cell? ⟨g, 0, none⟩ = some (.string (pairOf ifs))) :
    Calls Tryz.prog 108 #[.agg #[.bool false, .slice (some ⟨g, 0, none⟩) 1 cap], .string ⟨#[73, 70, 83]⟩] w (GetOut ifs w) := by
  have hmf : ∀ (fn : Fn) (first cap : Array Value) (w : World), (Instr.makeFunc fn first cap).run Tryz.prog w = .ok (.func fn first cap) w := fun _ _ _ _ => rfl
  have hps := pair_size ifs
  have h3 : 3 < (pairOf ifs).size := by omega
  have hget := fun v a b c g cap w => search_one (pairOf ifs) h3 (pair_byte ifs h3) (by rw [pair_name]) v a b c g cap w
  have HG := Lib.hid hget
  have hpr := pair_rest ifs
  clear hget
  generalize pairOf ifs = p at *
  have HPR := Lib.hid hpr
  have h4i : (4 : Int) ≤ (p.size : Int) := by omega
  clear hpr hps
  have lg : g < w.heap.size := World.block_lt_of_cell? w _ hc
  go_enter Tryz.func108, Tryz.ntmps108
  go_wp2_with fail
  refine (HG.out (.slice (some ⟨g, 0, none⟩) 1 cap) _ _ _ _ _ _ ?_ ?_ ?_ ?_ ?_).mono ?_
  · rw [World.cell?_alloc_past _ _ _ (by simp; omega), World.cell?_alloc_past _ _ _ (by simp; omega), World.cell?_alloc_past _ _ _ (by simp; omega), World.cell?_alloc_past _ _ _ lg]
    exact hc
  · simp [go_sem]
  · simp [go_sem]
  · simp [go_sem]
  · simp [go_sem]
  rintro e w1 ⟨rfl, q1⟩
  have z1 := q1.size
  simp only [World.size_alloc] at z1
  have G : w1.cell? ⟨g, 0, none⟩ = some (.string p) := by
    rw [q1.cell (p := ⟨g, 0, none⟩) (by simp; omega), World.cell?_alloc_past _ _ _ (by simp; omega), World.cell?_alloc_past _ _ _ (by simp; omega), World.cell?_alloc_past _ _ _ (by simp; omega), World.cell?_alloc_past _ _ _ lg]
    exact hc
  have L1 : w1.cell? ⟨w.heap.size, 1, none⟩ = some (.slice (some ⟨g, 0, none⟩) 1 cap) := (q1.cell (p := ⟨w.heap.size, 1, none⟩) (by simp; omega)).trans (by simp [go_sem])
  have P4 : w1.cell? ⟨w.heap.size + 1 + 1 + 1, 0, none⟩ = some (.int .i64 4) := (q1.cell (p := ⟨w.heap.size + 1 + 1 + 1, 0, none⟩) (by simp)).trans (by simp [go_sem])
  have C0 : w1.cell? ⟨w.heap.size + 1, 0, none⟩ = some (.bool false) := (q1.cell (p := ⟨w.heap.size + 1, 0, none⟩) (by simp)).trans (by simp [go_sem])
  have F0 : w1.frozen? ⟨w.heap.size + 1, 0, none⟩ = false := (q1.frozen (p := ⟨w.heap.size + 1, 0, none⟩) (by simp)).trans (by simp [go_sem])
  have C1 : w1.cell? ⟨w.heap.size + 1, 1, none⟩ = some (.bool false) := (q1.cell (p := ⟨w.heap.size + 1, 1, none⟩) (by simp)).trans (by simp [go_sem])
  have F1 : w1.frozen? ⟨w.heap.size + 1, 1, none⟩ = false := (q1.frozen (p := ⟨w.heap.size + 1, 1, none⟩) (by simp)).trans (by simp [go_sem])
  have C2 : w1.cell? ⟨w.heap.size + 1, 2, none⟩ = some (.bool false) := (q1.cell (p := ⟨w.heap.size + 1, 2, none⟩) (by simp)).trans (by simp [go_sem])
  have F2 : w1.frozen? ⟨w.heap.size + 1, 2, none⟩ = false := (q1.frozen (p := ⟨w.heap.size + 1, 2, none⟩) (by simp)).trans (by simp [go_sem])
  have C3 : w1.cell? ⟨w.heap.size + 1, 3, none⟩ = some (.bool false) := (q1.cell (p := ⟨w.heap.size + 1, 3, none⟩) (by simp)).trans (by simp [go_sem])
  have F3 : w1.frozen? ⟨w.heap.size + 1, 3, none⟩ = false := (q1.frozen (p := ⟨w.heap.size + 1, 3, none⟩) (by simp)).trans (by simp [go_sem])
  have C4 : w1.cell? ⟨w.heap.size + 1, 4, none⟩ = some (.int .u8 0) := (q1.cell (p := ⟨w.heap.size + 1, 4, none⟩) (by simp)).trans (by simp [go_sem])
  have F4 : w1.frozen? ⟨w.heap.size + 1, 4, none⟩ = false := (q1.frozen (p := ⟨w.heap.size + 1, 4, none⟩) (by simp)).trans (by simp [go_sem])
  have C5 : w1.cell? ⟨w.heap.size + 1, 5, none⟩ = some (.string ⟨#[]⟩) := (q1.cell (p := ⟨w.heap.size + 1, 5, none⟩) (by simp)).trans (by simp [go_sem])
  have F5 : w1.frozen? ⟨w.heap.size + 1, 5, none⟩ = false := (q1.frozen (p := ⟨w.heap.size + 1, 5, none⟩) (by simp)).trans (by simp [go_sem])
  have C6 : w1.cell? ⟨w.heap.size + 1, 6, none⟩ = some (.slice none 0 0) := (q1.cell (p := ⟨w.heap.size + 1, 6, none⟩) (by simp)).trans (by simp [go_sem])
  have F6 : w1.frozen? ⟨w.heap.size + 1, 6, none⟩ = false := (q1.frozen (p := ⟨w.heap.size + 1, 6, none⟩) (by simp)).trans (by simp [go_sem])
  have C7 : w1.cell? ⟨w.heap.size + 1, 7, none⟩ = some (.map none) := (q1.cell (p := ⟨w.heap.size + 1, 7, none⟩) (by simp)).trans (by simp [go_sem])
  have F7 : w1.frozen? ⟨w.heap.size + 1, 7, none⟩ = false := (q1.frozen (p := ⟨w.heap.size + 1, 7, none⟩) (by simp)).trans (by simp [go_sem])
  have C8 : w1.cell? ⟨w.heap.size + 1, 8, none⟩ = some (.slice none 0 0) := (q1.cell (p := ⟨w.heap.size + 1, 8, none⟩) (by simp)).trans (by simp [go_sem])
  have F8 : w1.frozen? ⟨w.heap.size + 1, 8, none⟩ = false := (q1.frozen (p := ⟨w.heap.size + 1, 8, none⟩) (by simp)).trans (by simp [go_sem])
  go_wp2
  go_region
  go_wp2
  have hblk : w1.heap[w.heap.size + 1]? = some (.cells #[.bool false, .bool false, .bool false, .bool false, .int .u8 0, .string ⟨#[]⟩, .slice none 0 0, .map none, .slice none 0 0] 71 (0, 0)) := by
    rw [q1.block (w.heap.size + 1) (by simp), Below.heap_alloc _ _ _ (by simp), Below.heap_alloc _ _ _ (by simp)]
    exact alloc_second w _ _
  have hput := putVar_block (p.extract 4 p.size) hblk
  have hbel : Below w.heap.size w (putVar w1 (w.heap.size + 1) (p.extract 4 p.size)) := below_putVar (below4 q1) (by omega) _
  rw [HPR.out] at hput hbel
  change bodyPost _ _ _ _ _ ((putVar w1 (w.heap.size + 1) (p.extract 4 p.size)).drew)
  rw [HPR.out]
  clear C0 C1 C2 C3 C4 C5 C6 C7 C8 F0 F1 F2 F3 F4 F5 F6 F7 F8 G L1 P4 hblk q1
  generalize putVar w1 (w.heap.size + 1) ifs = w2 at *
  have R0 : w2.cell? ⟨w.heap.size + 1, 0, none⟩ = some (.bool true) := cell_of_row w2 _ 0 _ _ _ hput
  have R1 : w2.cell? ⟨w.heap.size + 1, 1, none⟩ = some (.bool false) := cell_of_row w2 _ 1 _ _ _ hput
  have R2 : w2.cell? ⟨w.heap.size + 1, 2, none⟩ = some (.bool true) := cell_of_row w2 _ 2 _ _ _ hput
  have R3 : w2.cell? ⟨w.heap.size + 1, 3, none⟩ = some (.bool false) := cell_of_row w2 _ 3 _ _ _ hput
  have R4 : w2.cell? ⟨w.heap.size + 1, 4, none⟩ = some (.int .u8 1) := cell_of_row w2 _ 4 _ _ _ hput
  have R5 : w2.cell? ⟨w.heap.size + 1, 5, none⟩ = some (.string ifs) := cell_of_row w2 _ 5 _ _ _ hput
  have R6 : w2.cell? ⟨w.heap.size + 1, 6, none⟩ = some (.slice none 0 0) := cell_of_row w2 _ 6 _ _ _ hput
  have R7 : w2.cell? ⟨w.heap.size + 1, 7, none⟩ = some (.map none) := cell_of_row w2 _ 7 _ _ _ hput
  have R8 : w2.cell? ⟨w.heap.size + 1, 8, none⟩ = some (.slice none 0 0) := cell_of_row w2 _ 8 _ _ _ hput
  refine bodyPost_ret (v := varOf ifs) (by simp [results, Tryz.results108, go_sem, R0, R1, R2, R3, R4, R5, R6, R7, R8, varOf]) rfl ⟨rfl, hbel.drew⟩
end Go.Proofs.YtjoceojknhipoaaGreatDoor
