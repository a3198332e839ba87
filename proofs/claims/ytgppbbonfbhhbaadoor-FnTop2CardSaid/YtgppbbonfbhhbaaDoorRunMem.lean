/-
  The model's two lists of places, as two rows of the call's own that stay apart. No walk here.
-/
import Derived.Test.YtgppbbonfbhhbaaDoorRuns
namespace Go.Proofs.YtgppbbonfbhhbaaDoor
open Go.RowKit Rf

def ints (l : List Nat) : List Value := l.map fun (k : Nat) => Value.int .i64 k

structure RunMem (w3 : World) (S E : List Nat) (vs ve : Value) (wr : World) : Prop where
  st : wr.ownsRow w3.heap.size 3 1 vs S.length (ints S)
  en : wr.ownsRow w3.heap.size 3 1 ve E.length (ints E)
  ap : ∀ k, vs.ownBlock = some k → ve.ownBlock ≠ some k
  bel : Below w3.heap.size w3 wr

theorem runMem_start (w3 : World) : RunMem w3 [] [] (.slice none 0 0) (.slice none 0 0) w3 :=
  ⟨World.ownsRow_nil _ _ _ _, World.ownsRow_nil _ _ _ _, fun k h => by simp [Value.ownBlock] at h, Below.refl _ _⟩

section
variable {w3 wr w1 : World} {S E : List Nat} {vs ve v1 : Value}

theorem RunMem.call (h : RunMem w3 S E vs ve wr) (hb : Below wr.heap.size wr w1) : RunMem w3 S E vs ve w1 :=
  ⟨own_call h.st hb, own_call h.en hb, h.ap, h.bel.trans (hb.mono h.bel.size)⟩

theorem ne_of_ap {a b : Option Nat} (h : ∀ k, a = some k → b ≠ some k) : b = none ∨ b ≠ a := by
  cases b with
  | none => exact Or.inl rfl
  | some k => exact Or.inr (fun e => h k e.symm rfl)
theorem ap_symm {a b : Option Nat} (h : ∀ k, a = some k → b ≠ some k) : ∀ k, b = some k → a ≠ some k := fun k hb ha => h k ha hb

theorem RunMem.pushS (h : RunMem w3 S E vs ve wr) (o : Obj) (a : Nat) (hown : w1.ownsRow w3.heap.size 3 1 v1 (S.length + 1) (ints S ++ [.int .i64 a])) (hg : (wr.alloc o).grownBy w1 vs.ownBlock)
    (hl : v1.ownBlock = vs.ownBlock ∨ v1.ownBlock = some (wr.alloc o).heap.size) : RunMem w3 (S ++ [a]) E v1 ve w1 where
  st := by simpa [ints] using hown
  en := (h.en.alloc o).kept hg (ne_of_ap h.ap)
  ap := fun k hk he => by
    rcases hl with hl | hl
    · exact h.ap k (hl ▸ hk) he
    · have := (h.en.lt k he).2
      rw [hk] at hl
      simp at hl
      omega
  bel := (h.bel.alloc h.bel.size o).grown hg (by have := h.bel.size; simp; omega) (fun k hk => (h.st.lt k hk).1)

theorem RunMem.pushE (h : RunMem w3 S E vs ve wr) (o : Obj) (a : Nat) (hown : w1.ownsRow w3.heap.size 3 1 v1 (E.length + 1) (ints E ++ [.int .i64 a])) (hg : (wr.alloc o).grownBy w1 ve.ownBlock)
    (hl : v1.ownBlock = ve.ownBlock ∨ v1.ownBlock = some (wr.alloc o).heap.size) : RunMem w3 S (E ++ [a]) vs v1 w1 where
  st := (h.st.alloc o).kept hg (ne_of_ap (ap_symm h.ap))
  en := by simpa [ints] using hown
  ap := fun k hk he => by
    rcases hl with hl | hl
    · exact h.ap k hk (hl ▸ he)
    · have := (h.st.lt k hk).2
      rw [he] at hl
      simp at hl
      omega
  bel := (h.bel.alloc h.bel.size o).grown hg (by have := h.bel.size; simp; omega) (fun k hk => (h.en.lt k hk).1)
end

/-- Where the first loop of the model stands: the runs so far; an open run has just been closed. -/
def AtHead (sep : Int → Bool) (ts : List Tok) (i : Nat) : Prop := (RS sep ts i).2 = none ∨ i = ts.length ∨ solid sep (ts.getD i tok0) = false

theorem head_start (sep : Int → Bool) (ts : List Tok) : AtHead sep ts 0 ∧ runsTo sep ts 0 = [] := ⟨Or.inl rfl, rfl⟩
theorem head_sep {sep : Int → Bool} {ts : List Tok} {i : Nat} (h : solid sep (ts.getD i tok0) = false) : AtHead sep ts (i + 1) ∧ runsTo sep ts (i + 1) = runsTo sep ts i := by
  have e := runs_sep sep ts i h
  refine ⟨Or.inl (by rw [e]), ?_⟩
  show closeAt (RS sep ts (i + 1)).1 (RS sep ts (i + 1)).2 (i + 1) = _
  rw [e]
  rfl
theorem head_open {sep : Int → Bool} {ts : List Tok} {i : Nat} (hh : AtHead sep ts i) (hi : i < ts.length) (h : solid sep (ts.getD i tok0) = true) : RS sep ts i = (runsTo sep ts i, none) := by
  rcases hh with hh | hh | hh
  · unfold runsTo
    generalize hp : RS sep ts i = p at *
    obtain ⟨d, o⟩ := p
    simp only [] at hh
    subst hh
    rfl
  · omega
  · rw [hh] at h; cases h

/-- Within a run that began at i: j tokens on. -/
theorem run_step {sep : Int → Bool} {ts : List Tok} {i j : Nat} {L : List (Nat × Nat)} (h : RS sep ts j = (L, if j = i then none else some i)) (hs : solid sep (ts.getD j tok0) = true) : RS sep ts (j + 1) = (L, some i) := by
  rw [runs_solid sep ts j hs, h]
  by_cases e : j = i
  · simp [e]
  · simp [e]
end Go.Proofs.YtgppbbonfbhhbaaDoor
