/-
  The printer's queue: comments are added at its end.
-/
import Derived.Test.YtelflagehingoaaDoorPrn
namespace Go.Proofs.YtelflagehingoaaDoor
open Go.RowKit

theorem IsPrn.grown {w w1 : World} {P : Nat} {m : Bool} {pend : Value} {line : Int} {row : Option Nat} (h : IsPrn w P m pend line) (hg : w.grownBy w1 row) (hne : row ≠ some P) : IsPrn w1 P m pend line := by
  have hb : w1.heap[P]? = w.heap[P]? := hg.block P (World.block_lt_of_cell? w _ h.c10) (fun e => hne e.symm)
  exact ⟨(World.cell?_of_block (a := ⟨P, 10, none⟩) hb).trans h.c10, (World.cell?_of_block (a := ⟨P, 17, none⟩) hb).trans h.c17, (World.cell?_of_block (a := ⟨P, 19, none⟩) hb).trans h.c19, (World.frozen?_of_block (a := ⟨P, 17, none⟩) hb).trans h.f17⟩

theorem IsPrn.store {w : World} {P : Nat} {m : Bool} {pend : Value} {line : Int} (h : IsPrn w P m pend line) (v : Value) : IsPrn (w.setCell ⟨P, 17, none⟩ v) P m v line :=
  ⟨by rw [World.cell?_setCell_other _ _ _ _ (by intro e; cases e)]; exact h.c10, World.cell?_setCell_same _ _ _ h.c17, by rw [World.cell?_setCell_other _ _ _ _ (by intro e; cases e)]; exact h.c19, by rw [World.frozen?_setCell]; exact h.f17⟩

theorem IsPrn.below {w w1 : World} {P : Nat} {m : Bool} {pend : Value} {line : Int} (h : IsPrn w P m pend line) (hb : Below w.heap.size w w1) : IsPrn w1 P m pend line := by
  have hl : P < w.heap.size := World.block_lt_of_cell? w _ h.c10
  exact ⟨(hb.cell (p := ⟨P, 10, none⟩) hl).trans h.c10, (hb.cell (p := ⟨P, 17, none⟩) hl).trans h.c17, (hb.cell (p := ⟨P, 19, none⟩) hl).trans h.c19, (hb.frozen (p := ⟨P, 17, none⟩) hl).trans h.f17⟩

theorem own_slice {w : World} {base : Nat} {e : TypeId} {size : Nat} {v : Value} {n : Nat} {xs : List Value} (h : w.ownsRow base e size v n xs) : ∃ ao c, v = .slice ao n c := by
  rcases h.2 with ⟨hv, h0⟩ | ⟨g, cap, cur, hv, _⟩
  · subst h0; exact ⟨none, 0, hv⟩
  · exact ⟨_, cap, hv⟩

theorem com_one (cs : List (Int × Int × ByteArray)) : ∀ u ∈ comCells cs, u.oneCell' = true := by
  intro u hu
  obtain ⟨c, _, hc⟩ := List.mem_flatMap.1 hu
  simp [comC] at hc
  rcases hc with rfl | rfl | rfl <;> rfl

theorem pending_any (P : Nat) (m : Bool) (v : Value) (line : Int) (w : World) (h : IsPrn w P m v line) : Calls Tryd.prog 13 #[.pointer (some ⟨P, 0, none⟩)] w fun e w' => e = .returned v ∧ w = w' := by
  obtain ⟨_, c, _, _⟩ := h
  go_enter Tryd.func13, Tryd.ntmps13
  go_wp2
  go_ret
  exact ⟨rfl, rfl⟩

theorem line_any (P : Nat) (m : Bool) (v : Value) (line : Int) (w : World) (h : IsPrn w P m v line) : Calls Tryd.prog 14 #[.pointer (some ⟨P, 0, none⟩)] w fun e w' => e = .returned (.int .u64 line) ∧ w = w' := by
  obtain ⟨_, _, c, _⟩ := h
  go_enter Tryd.func14, Tryd.ntmps14
  go_wp2
  go_ret
  exact ⟨rfl, rfl⟩

/-- What the queue is once the comments have been added. -/
def Queued (P n : Nat) (xs : List Value) (line : Int) (cs : List (Int × Int × ByteArray)) (w : World) (e : Ending) (w' : World) : Prop :=
  e = .returned (.tuple #[]) ∧ ∃ v', IsPrn w' P false v' line ∧ w'.ownsRow (P + 1) 35 3 v' (n + cs.length) (xs ++ comCells cs) ∧ Below P w w'

set_option maxRecDepth 100000 in
set_option maxHeartbeats 1000000 in
theorem queue_any (P n : Nat) (v vs : Value) (xs : List Value) (line : Int) (cs : List (Int × Int × ByteArray)) (w : World) (hn : n ≤ 65536) (hcl : cs.length ≤ 65536) (hp : IsPrn w P false v line) (hown : w.ownsRow (P + 1) 35 3 v n xs) (hcs : ComsAt w vs cs) :
    Calls Tryd.prog 15 #[.pointer (some ⟨P, 0, none⟩), vs] w (Queued P n xs line cs w) := by
  obtain ⟨i2, hi2, hx0, hx1, hx2⟩ := info_parts Tryd.info35
  obtain ⟨g, cap, rfl, hg, hc⟩ := hcs
  obtain ⟨ao0, cp0, hv0⟩ := own_slice hown
  subst hv0
  have hl := comCells_len cs
  have hone := com_one cs
  have hPw : P < w.heap.size := World.block_lt_of_cell? w _ hp.c10
  have hP := Lib.hid hp
  have HC := Lib.hid hc
  have HL := Lib.hid hl
  have HO := Lib.hid hone
  have c10 := hp.c10
  have c17 := hp.c17
  clear hp hc hl hone
  go_enter Tryd.func15, Tryd.ntmps15
  go_wp2_with (first
    | (at_builtin; refine wpList_append_own _ rfl _ _ 28 rfl (P + 1) 35 i2 (.agg #[.int .u32 0, .int .u32 0, .string ByteArray.empty]) 3 24 Tryd.underlying28 hi2 hx0 hx1 hx2 rfl (by decide) _ _ _ rfl hown ⟨g, 0, none⟩ cs.length cap (comCells cs) rfl (by rw [HL.out]) (by intro j u hu; rw [Addr.add_lit, Nat.zero_add, HC.out j (by have := (List.getElem?_eq_some_iff.1 hu).1; have := HL.out; omega)]; exact hu) HO.out (by unfold maxLen; omega) (by omega) (by omega) ?_; intro v1 w1 hown1 hgrow1 _; have hP1 := hP.out.grown hgrow1 (fun e => by have := (hown.lt P e).1; omega); have d17 := hP1.c17; have e17 := hP1.f17; obtain ⟨ao1, cp1, hv1⟩ := own_slice hown1; subst hv1)
    | go_in)
  go_end0
  go_wp2
  go_end0
  refine ⟨rfl, _, hP1.store _, ?_, ((Below.refl _ _).grown hgrow1 (Nat.le_of_lt hPw) (fun k hk => by have := (hown.lt k hk).1; omega)).setCell (Nat.le_refl _) _⟩
  exact ownsRow_setCell_other hown1 (fun e => by have := (hown1.lt P e).1; omega) _
end Go.Proofs.YtelflagehingoaaDoor
