/-
  What the law's second loop keeps: where the runs begin and end. No walk here.
-/
import Derived.Test.YtgppbbonfbhhbaaDoorUnits
namespace Go.Proofs.YtgppbbonfbhhbaaDoor
open Go.RowKit Rf

theorem open_none {sep : Int → Bool} {ts : List Tok} : ∀ {k : Nat}, (k = 0 ∨ solid sep (ts.getD (k - 1) tok0) = false) → (RS sep ts k).2 = none
  | 0, _ => rfl
  | k + 1, h => by
    have hs : solid sep (ts.getD k tok0) = false := by simpa using h
    rw [runs_sep sep ts k hs]
theorem open_some {sep : Int → Bool} {ts : List Tok} {k : Nat} (h : solid sep (ts.getD k tok0) = true) : ∃ a, (RS sep ts (k + 1)).2 = some a := by
  rw [runs_solid sep ts k h]
  exact ⟨_, rfl⟩

theorem runs_new {sep : Int → Bool} {ts : List Tok} {k : Nat} (ho : k = 0 ∨ solid sep (ts.getD (k - 1) tok0) = false) (hs : solid sep (ts.getD k tok0) = true) : runsTo sep ts (k + 1) = runsTo sep ts k ++ [(k, k + 1)] := by
  have h := open_none ho
  unfold runsTo
  rw [runs_solid sep ts k hs]
  generalize RS sep ts k = p at *
  obtain ⟨d, o⟩ := p
  simp only [] at h
  subst h
  rfl
theorem runs_more {sep : Int → Bool} {ts : List Tok} {k : Nat} (ho : solid sep (ts.getD k tok0) = true) (hs : solid sep (ts.getD (k + 1) tok0) = true) :
    ∃ d a, runsTo sep ts (k + 1) = d ++ [(a, k + 1)] ∧ runsTo sep ts (k + 1 + 1) = d ++ [(a, k + 1 + 1)] := by
  obtain ⟨a, h⟩ := open_some ho
  unfold runsTo
  rw [runs_solid sep ts (k + 1) hs]
  generalize RS sep ts (k + 1) = p at *
  obtain ⟨d, o⟩ := p
  simp only [] at h
  subst h
  exact ⟨d, a, rfl, rfl⟩

theorem runs_le (sep : Int → Bool) (ts : List Tok) : ∀ k, (runsTo sep ts k).length ≤ k
  | 0 => Nat.le_refl _
  | k + 1 => by
    have ih := runs_le sep ts k
    cases hs : solid sep (ts.getD k tok0)
    · unfold runsTo
      rw [runs_sep sep ts k hs]
      exact Nat.le_succ_of_le ih
    · unfold runsTo at ih ⊢
      rw [runs_solid sep ts k hs]
      generalize RS sep ts k = p at *
      obtain ⟨d, o⟩ := p
      cases o <;> simp [closeAt] at ih ⊢ <;> omega

theorem ints_set_at (E : List Nat) (k a : Nat) : (ints E).set k (.int .i64 a) = ints (E.set k a) := by simp [ints, List.map_set]

theorem RunMem.setE {w3 wr : World} {S E : List Nat} {vs : Value} {g n c : Nat} (h : RunMem w3 S E vs (.slice (some ⟨g, 0, none⟩) n c) wr) (hn : n = E.length) (k a : Nat) : RunMem w3 S (E.set k a) vs (.slice (some ⟨g, 0, none⟩) n c) (wr.setCell ⟨g, k, none⟩ (.int .i64 a)) where
  st := ownsRow_setCell_other h.st (fun e => h.ap g e rfl) _
  en := by
    subst hn
    have := (h.en.stored k (.int .i64 a)).1
    rw [ints_set_at] at this
    rw [List.length_set]
    exact this
  ap := h.ap
  bel := h.bel.setCell (p := ⟨g, k, none⟩) (h.en.lt g rfl).1 _

theorem last_cell {w3 wr : World} {S E : List Nat} {vs : Value} {g n c : Nat} (h : RunMem w3 S E vs (.slice (some ⟨g, 0, none⟩) n c) wr) (hn : n = E.length) (k : Nat) (hk : k < E.length) : (∃ x : Int, wr.cell? ⟨g, k, none⟩ = some (.int .i64 x)) ∧ wr.frozen? ⟨g, k, none⟩ = false := by
  subst hn
  refine ⟨⟨(E.getD k 0 : Nat), ?_⟩, h.en.frozenAt k⟩
  rw [h.en.cellAt k (by omega)]
  simp [ints, List.getD, hk]

theorem one_at (W : World) (g : Nat) (hg : W.heap.size = g) (x : Value) (e : TypeId) : ∀ j u, [x][j]? = some u → (W.alloc (.cells #[x] e)).cell? ((⟨g, 0, none⟩ : Addr).add j) = some u := by
  subst hg
  exact cell_one_new W x e

theorem set_last (d : List (Nat × Nat)) (a x y : Nat) : ((d ++ [(a, x)]).map (·.2)).set d.length y = (d ++ [(a, y)]).map (·.2) ∧ (d ++ [(a, x)]).map (·.1) = (d ++ [(a, y)]).map (·.1) := by
  simp
end Go.Proofs.YtgppbbonfbhhbaaDoor
