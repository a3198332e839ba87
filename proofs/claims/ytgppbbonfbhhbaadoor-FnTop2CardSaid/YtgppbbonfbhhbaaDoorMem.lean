/-
  The memory of the first loop: an iterator, the runes kept, the fields' places. No walk here.
-/
import Derived.Test.YtgppbbonfbhhbaaDoorPrep
import Derived.Test.YtgppbbonfbhhbaaDoorRf
import Derived.OneCell
namespace Go.Proofs.YtgppbbonfbhhbaaDoor
open Go.RowKit Rf

/-- What is owned stays owned where nothing below the heap's end has turned. -/
theorem own_call {w w' : World} {base : Nat} {e : TypeId} {size : Nat} {v : Value} {n : Nat} {xs : List Value} (h : w.ownsRow base e size v n xs) (hb : Below w.heap.size w w') : w'.ownsRow base e size v n xs := by
  refine ⟨h.1, ?_⟩
  rcases h.2 with hn | ⟨g, cap, cur, hv, hg, hh, r⟩
  · exact Or.inl hn
  · exact Or.inr ⟨g, cap, cur, hv, hg, by rw [hb.block g (Array.getElem?_eq_some_iff.1 hh).1]; exact hh, r⟩

/-- Rows of two kinds are no one row; a row is no iterator. -/
theorem own_apart {w : World} {base base' : Nat} {e e' : TypeId} {size size' : Nat} {v v' : Value} {n n' : Nat} {xs xs' : List Value} (h : w.ownsRow base e size v n xs) (h' : w.ownsRow base' e' size' v' n' xs') (hne : e ≠ e') :
    v.ownBlock = none ∨ v.ownBlock ≠ v'.ownBlock := by
  rcases h.2 with ⟨rfl, _⟩ | ⟨g, cap, cur, rfl, _, hh, _⟩
  · exact Or.inl rfl
  · right
    rcases h'.2 with ⟨rfl, _⟩ | ⟨g', cap', cur', rfl, _, hh', _⟩
    · simp [Value.ownBlock]
    · intro eq
      simp only [Value.ownBlock, Option.some.injEq] at eq
      rw [eq, hh'] at hh
      simp only [Option.some.injEq, Obj.cells.injEq] at hh
      exact hne hh.2.1.symm
theorem own_notIter {w : World} {base : Nat} {e : TypeId} {size : Nat} {v : Value} {n : Nat} {xs : List Value} (h : w.ownsRow base e size v n xs) {K : Nat} {s : ByteArray} {pos : Nat} (hk : w.heap[K]? = some (.stringIter s pos)) : v.ownBlock ≠ some K := by
  rcases h.2 with ⟨rfl, _⟩ | ⟨g, cap, cur, rfl, _, hh, _⟩
  · simp [Value.ownBlock]
  · intro eq
    simp only [Value.ownBlock, Option.some.injEq] at eq
    rw [eq, hk] at hh
    cases hh
theorem own_iterAt {w : World} {base : Nat} {e : TypeId} {size : Nat} {v : Value} {n : Nat} {xs : List Value} (h : w.ownsRow base e size v n xs) {K : Nat} {s : ByteArray} {pos : Nat} (hk : w.heap[K]? = some (.stringIter s pos)) (pos' : Nat) :
    (w.iterAt K s pos').ownsRow base e size v n xs := by
  have hne := own_notIter h hk
  refine ⟨h.1, ?_⟩
  rcases h.2 with hn | ⟨g, cap, cur, hv, hg, hh, r⟩
  · exact Or.inl hn
  · subst hv
    exact Or.inr ⟨g, cap, cur, rfl, hg, by rw [Lib.iterAt_other _ _ _ _ _ (fun e => hne (by simp [Value.ownBlock, e]))]; exact hh, r⟩

/-- The fields' cells: a closed field's two places; an open one's start and -1. -/
def fcells (done : List (Nat × Nat)) (opn : Option Nat) : List Value :=
  (done.flatMap fun f => [Value.int .i64 f.1, .int .i64 f.2]) ++ (match opn with | some a => [.int .i64 a, .int .i64 (-1)] | none => [])
def fcount (done : List (Nat × Nat)) (opn : Option Nat) : Nat := done.length + (match opn with | some _ => 1 | none => 0)

theorem pairs_length (done : List (Nat × Nat)) : (done.flatMap fun f => [Value.int .i64 f.1, .int .i64 f.2]).length = 2 * done.length := by
  induction done with
  | nil => rfl
  | cons a t ih => simp only [List.flatMap_cons, List.length_append, ih, List.length_cons, List.length_nil]; omega

theorem fcells_close (done : List (Nat × Nat)) (a e : Nat) : (fcells done (some a)).set (done.length * 2 + 1) (.int .i64 e) = fcells (done ++ [(a, e)]) none := by
  unfold fcells
  rw [List.set_append_right _ _ (by rw [pairs_length]; omega), pairs_length, show done.length * 2 + 1 - 2 * done.length = 1 by omega]
  simp
theorem fcount_close (done : List (Nat × Nat)) (a e : Nat) : fcount done (some a) = fcount (done ++ [(a, e)]) none := by simp [fcount]
theorem fcells_open (done : List (Nat × Nat)) (a : Nat) : fcells done none ++ [.int .i64 a, .int .i64 (-1)] = fcells done (some a) := by simp [fcells]
theorem fcount_open (done : List (Nat × Nat)) (a : Nat) : fcount done none + 1 = fcount done (some a) := by simp [fcount]

structure Mem (B K : Nat) (s : ByteArray) (pos : Nat) (W : World) (rv fv : Value) (out : List Int) (done : List (Nat × Nat)) (opn : Option Nat) (wr : World) : Prop where
  iter : wr.heap[K]? = some (.stringIter s pos)
  rows : wr.ownsRow B 21 1 rv out.length (out.map (Value.int .i32))
  flds : wr.ownsRow B 69 2 fv (fcount done opn) (fcells done opn)
  bel : Below B W wr
  hK : B ≤ K

section
variable {B K : Nat} {s : ByteArray} {pos : Nat} {W wr : World} {rv fv : Value} {out : List Int} {done : List (Nat × Nat)} {opn : Option Nat}

theorem Mem.size (h : Mem B K s pos W rv fv out done opn wr) : B ≤ wr.heap.size := by
  have := (Array.getElem?_eq_some_iff.1 h.iter).1
  have := h.hK
  omega

theorem Mem.call (h : Mem B K s pos W rv fv out done opn wr) {w' : World} (hb : Below wr.heap.size wr w') : Mem B K s pos W rv fv out done opn w' :=
  ⟨by rw [hb.block K (Array.getElem?_eq_some_iff.1 h.iter).1]; exact h.iter, own_call h.rows hb, own_call h.flds hb, h.bel.trans (hb.mono h.size), h.hK⟩

theorem Mem.next (h : Mem B K s pos W rv fv out done opn wr) (pos' : Nat) : Mem B K s pos' W rv fv out done opn (wr.iterAt K s pos') :=
  ⟨Lib.iterAt_heap _ _ _ _ _ h.iter, own_iterAt h.rows h.iter pos', own_iterAt h.flds h.iter pos', Lib.below_iterAt h.bel h.hK _ _, h.hK⟩

/-- The open field's end is written. -/
theorem Mem.close {a g n c : Nat} (h : Mem B K s pos W rv (.slice (some ⟨g, 0, none⟩) n c) out done (some a) wr) (e : Nat) (hn : n = fcount done (some a)) :
    Mem B K s pos W rv (.slice (some ⟨g, 0, none⟩) n c) out (done ++ [(a, e)]) none (wr.setCell ⟨g, done.length * 2 + 1, none⟩ (.int .i64 e)) := by
  subst hn
  have hst := h.flds.stored (done.length * 2 + 1) (.int .i64 e)
  have hr := own_apart h.rows h.flds (by decide)
  have hk := own_notIter h.flds h.iter
  have hB := h.flds.lt g rfl
  refine ⟨?_, ?_, ?_, h.bel.setCell hB.1 _, h.hK⟩
  · rw [Below.heap_setCell _ _ _ _ (fun e => hk (by simp [Value.ownBlock, e]))]; exact h.iter
  · refine ownsRow_setCell_other h.rows ?_ _
    rcases hr with hr | hr
    · rw [hr]; simp
    · exact hr
  · have := hst.1
    rw [fcells_close] at this
    rw [← fcount_close]
    exact this

/-- A rune is kept. -/
theorem Mem.pushRune (h : Mem B K s pos W rv fv out done opn wr) {rv' : Value} {w1 : World} (o : Obj) (r : Int) (hown : w1.ownsRow B 21 1 rv' (out.length + 1) (out.map (Value.int .i32) ++ [.int .i32 r])) (hg : (wr.alloc o).grownBy w1 rv.ownBlock) :
    Mem B K s pos W rv' fv (out ++ [r]) done opn w1 := by
  have hf := own_apart h.flds h.rows (by decide)
  have hk := own_notIter h.rows h.iter
  have hz := h.size
  refine ⟨?_, by simpa using hown, (h.flds.alloc o).kept hg hf, (h.bel.alloc hz o).grown hg (by simp; omega) (fun k hk => (h.rows.lt k hk).1), h.hK⟩
  have hlt := (Array.getElem?_eq_some_iff.1 h.iter).1
  rw [hg.block K (by simp; omega) (fun e => hk e.symm), Below.heap_alloc _ _ _ hlt]
  exact h.iter

/-- A field is opened. -/
theorem Mem.pushField (h : Mem B K s pos W rv fv out done none wr) {fv' : Value} {w1 : World} (o : Obj) (a : Nat) (hown : w1.ownsRow B 69 2 fv' (fcount done none + 1) (fcells done none ++ [.int .i64 a, .int .i64 (-1)])) (hg : (wr.alloc o).grownBy w1 fv.ownBlock) :
    Mem B K s pos W rv fv' out done (some a) w1 := by
  have hf := own_apart h.rows h.flds (by decide)
  have hk := own_notIter h.flds h.iter
  have hz := h.size
  refine ⟨?_, (h.rows.alloc o).kept hg hf, by rw [← fcount_open, ← fcells_open]; exact hown, (h.bel.alloc hz o).grown hg (by simp; omega) (fun k hk => (h.flds.lt k hk).1), h.hK⟩
  have hlt := (Array.getElem?_eq_some_iff.1 h.iter).1
  rw [hg.block K (by simp; omega) (fun e => hk e.symm), Below.heap_alloc _ _ _ hlt]
  exact h.iter
end
end Go.Proofs.YtgppbbonfbhhbaaDoor
