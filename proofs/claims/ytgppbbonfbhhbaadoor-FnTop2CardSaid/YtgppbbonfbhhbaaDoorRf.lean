/-
  Plain law: what ReadFields computes of a list of runes, and that a reading by tokens and runs gives the same texts. No program in sight.
-/
import Derived.WalkKit
namespace Go.Proofs.YtgppbbonfbhhbaaDoor.Rf

/-- The state of the first loop: the runes kept, the closed fields, where the open field began, whether a backslash waits. -/
structure St where
  out : List Int
  done : List (Nat × Nat)
  opn : Option Nat
  esc : Bool

def St.init : St := ⟨[], [], none, false⟩

def step (sep : Int → Bool) (raw : Bool) (st : St) (r : Int) : St :=
  let live := raw || !st.esc
  let f : List (Nat × Nat) × Option Nat := match st.opn with
    | some a => if sep r && live then (st.done ++ [(a, st.out.length)], none) else (st.done, some a)
    | none => if !sep r && live then (st.done, some st.out.length) else (st.done, none)
  if r = 92 then ⟨if raw || st.esc then st.out ++ [r] else st.out, f.1, f.2, !st.esc⟩ else ⟨st.out ++ [r], f.1, f.2, false⟩

def scan (sep : Int → Bool) (raw : Bool) (rs : List Int) : St := rs.foldl (step sep raw) St.init

def closeAt (done : List (Nat × Nat)) (opn : Option Nat) (e : Nat) : List (Nat × Nat) := match opn with
  | some a => done ++ [(a, e)]
  | none => done

/-- All fields, as places in the runes kept. -/
def St.fields (st : St) : List (Nat × Nat) := closeAt st.done st.opn st.out.length

/-- A part of a list. -/
def part (l : List Int) (f : Nat × Nat) : List Int := (l.take f.2).drop f.1

/-- How far 'ws' goes from the left, at most to 'b'; from the right, at most back to 'b'. -/
def lo (ws : Int → Bool) (l : List Int) (b : Nat) : Nat := ((l.take b).takeWhile ws).length
def hi (ws : Int → Bool) (l : List Int) (b : Nat) : Nat := l.length - ((l.drop b).reverse.takeWhile ws).length

/-- The places of the fields that are handed back. -/
def cut (ws : Int → Bool) (n : Int) (l : List Int) (fs : List (Nat × Nat)) : List (Nat × Nat) :=
  if n = 1 then [(lo ws l (fs.headD (0, 0)).1, hi ws l (fs.getLastD (0, 0)).2)]
  else if n ≠ -1 ∧ n < fs.length then fs.take (n.toNat - 1) ++ [((fs.getD (n.toNat - 1) (0, 0)).1, (fs.getLastD (0, 0)).2)]
  else fs

/-- What ReadFields gives: nothing, or the fields' runes. -/
def give (sep ws : Int → Bool) (n : Int) (raw : Bool) (rs : List Int) : Option (List (List Int)) :=
  let st := scan sep raw rs
  if st.fields = [] then none else some ((cut ws n st.out st.fields).map (part st.out))

theorem scan_snoc (sep : Int → Bool) (raw : Bool) (rs : List Int) (r : Int) : scan sep raw (rs ++ [r]) = step sep raw (scan sep raw rs) r := by
  simp [scan]

theorem step_out (sep : Int → Bool) (raw : Bool) (st : St) (r : Int) : (step sep raw st r).out.length ≤ st.out.length + 1 := by
  unfold step
  simp only []
  split
  · split <;> simp
  · simp

theorem foldl_out (sep : Int → Bool) (raw : Bool) : ∀ (rs : List Int) (st : St), (rs.foldl (step sep raw) st).out.length ≤ st.out.length + rs.length
  | [], st => by simp
  | r :: rs, st => by
    have h1 := foldl_out sep raw rs (step sep raw st r)
    have h2 := step_out sep raw st r
    simp only [List.foldl_cons, List.length_cons]
    omega

theorem out_le (sep : Int → Bool) (raw : Bool) (rs : List Int) : (scan sep raw rs).out.length ≤ rs.length := by
  have := foldl_out sep raw rs St.init
  simpa [scan, St.init] using this

/-- The fields lie one behind the other in the runes kept. -/
def Asc : Nat → List (Nat × Nat) → Nat → Prop
  | m, [], e => m ≤ e
  | m, f :: fs, e => m ≤ f.1 ∧ f.1 ≤ f.2 ∧ Asc f.2 fs e

theorem Asc.mono : ∀ {fs : List (Nat × Nat)} {m e e' : Nat}, Asc m fs e → e ≤ e' → Asc m fs e'
  | [], _, _, _, h, he => Nat.le_trans h he
  | _ :: _, _, _, _, h, he => ⟨h.1, h.2.1, h.2.2.mono he⟩
theorem Asc.snoc : ∀ {fs : List (Nat × Nat)} {m a e : Nat}, Asc m fs a → a ≤ e → Asc m (fs ++ [(a, e)]) e
  | [], _, _, _, h, he => ⟨h, he, Nat.le_refl _⟩
  | _ :: _, _, _, _, h, he => ⟨h.1, h.2.1, h.2.2.snoc he⟩
theorem Asc.all : ∀ {fs : List (Nat × Nat)} {m e : Nat}, Asc m fs e → m ≤ e ∧ ∀ f ∈ fs, m ≤ f.1 ∧ f.1 ≤ f.2 ∧ f.2 ≤ e
  | [], _, _, h => ⟨h, by simp⟩
  | f :: fs, m, e, h => by
    have ih := h.2.2.all
    have h1 := h.1
    have h2 := h.2.1
    refine ⟨by omega, fun x hx => ?_⟩
    rcases List.mem_cons.1 hx with rfl | hx
    · exact ⟨h1, h2, ih.1⟩
    · have := ih.2 x hx; omega
theorem Asc.append : ∀ {fs gs : List (Nat × Nat)} {m e : Nat}, Asc m (fs ++ gs) e → ∀ f ∈ fs, ∀ g ∈ gs, f.2 ≤ g.1
  | [], _, _, _, _ => by simp
  | f :: fs, gs, m, e, h => by
    intro x hx g hg
    rcases List.mem_cons.1 hx with rfl | hx
    · exact (h.2.2.all.2 g (List.mem_append_right _ hg)).1
    · exact Asc.append h.2.2 x hx g hg

/-- The invariant of the first loop. -/
def Inv (st : St) : Prop := match st.opn with
  | some a => Asc 0 st.done a ∧ a ≤ st.out.length
  | none => Asc 0 st.done st.out.length

theorem inv_step {sep : Int → Bool} {raw : Bool} {st : St} (r : Int) (h : Inv st) : Inv (step sep raw st r) := by
  obtain ⟨out, done, opn, esc⟩ := st
  by_cases hr : r = 92
  · have hs' : sep 92 = sep r := by rw [hr]
    cases hs : sep r <;> rw [hs] at hs' <;> cases raw <;> cases esc <;> cases opn <;> simp [step, hr, hs', Inv] at h ⊢
    all_goals first
      | exact h
      | exact h.mono (by omega)
      | exact ⟨h.1, by omega⟩
      | exact ⟨h, by omega⟩
      | exact (h.1.snoc h.2).mono (by omega)
  · cases hs : sep r <;> cases raw <;> cases esc <;> cases opn <;> simp [step, hr, hs, Inv] at h ⊢
    all_goals first
      | exact h
      | exact h.mono (by omega)
      | exact ⟨h.1, by omega⟩
      | exact ⟨h, by omega⟩
      | exact (h.1.snoc h.2).mono (by omega)

theorem inv_foldl {sep : Int → Bool} {raw : Bool} : ∀ (rs : List Int) (st : St), Inv st → Inv (rs.foldl (step sep raw) st)
  | [], _, h => h
  | r :: rs, _, h => inv_foldl rs _ (inv_step r h)

theorem fields_asc {sep : Int → Bool} {raw : Bool} {rs : List Int} {st : St} {fs : List (Nat × Nat)} (h : scan sep raw rs = st) (hf : st.fields = fs) : Asc 0 fs st.out.length := by
  have hi : Inv st := by rw [← h]; exact inv_foldl rs _ (Nat.le_refl _)
  subst hf
  obtain ⟨out, done, opn, esc⟩ := st
  cases opn with
  | none => exact hi
  | some a => exact hi.1.snoc hi.2
theorem fields_ok {sep : Int → Bool} {raw : Bool} {rs : List Int} {st : St} {fs : List (Nat × Nat)} (h : scan sep raw rs = st) (hf : st.fields = fs) : ∀ f ∈ fs, f.1 ≤ f.2 ∧ f.2 ≤ st.out.length :=
  fun f hx => ((fields_asc h hf).all.2 f hx).2
end Go.Proofs.YtgppbbonfbhhbaaDoor.Rf
