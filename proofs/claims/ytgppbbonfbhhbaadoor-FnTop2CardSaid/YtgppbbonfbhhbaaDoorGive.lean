/-
  What the model hands back, by tokens; that it is what ReadFields gives (n other than 1). No program in sight.
-/
import Derived.Test.YtgppbbonfbhhbaaDoorRunMem
namespace Go.Proofs.YtgppbbonfbhhbaaDoor
open Go.RowKit Rf

def RInv (p : List (Nat × Nat) × Option Nat) (k : Nat) : Prop := match p.2 with
  | some a => Asc 0 p.1 a ∧ a ≤ k
  | none => Asc 0 p.1 k

theorem rinv_close {p : List (Nat × Nat) × Option Nat} {k : Nat} (h : RInv p k) : Asc 0 (closeAt p.1 p.2 k) k := by
  obtain ⟨d, o⟩ := p
  cases o with
  | none => exact h
  | some a => exact h.1.snoc h.2

theorem rinv (sep : Int → Bool) (ts : List Tok) : ∀ k, RInv (RS sep ts k) k
  | 0 => Nat.le_refl _
  | k + 1 => by
    have ih := rinv sep ts k
    cases hs : solid sep (ts.getD k tok0)
    · rw [runs_sep sep ts k hs]
      exact (rinv_close ih).mono (Nat.le_succ _)
    · rw [runs_solid sep ts k hs]
      generalize RS sep ts k = p at *
      obtain ⟨d, o⟩ := p
      cases o with
      | none => exact ⟨ih, Nat.le_succ _⟩
      | some a => exact ⟨ih.1, Nat.le_succ_of_le ih.2⟩

theorem runs_asc (sep : Int → Bool) (ts : List Tok) (k : Nat) : Asc 0 (runsTo sep ts k) k := rinv_close (rinv sep ts k)

/-- The runs that are handed back, n other than 1. -/
def tcut (n : Int) (L : List (Nat × Nat)) : List (Nat × Nat) :=
  if n ≠ -1 ∧ n < L.length then L.take (n.toNat - 1) ++ [((L.getD (n.toNat - 1) (0, 0)).1, (L.getLastD (0, 0)).2)] else L

def textAt (ts : List Tok) (f : Nat × Nat) : List Int := textOf ((ts.take f.2).drop f.1)

theorem getD_map_at (f : Nat × Nat → Nat × Nat) (L : List (Nat × Nat)) (k : Nat) (h : k < L.length) : (L.map f).getD k (0, 0) = f (L.getD k (0, 0)) := by simp [List.getD, h]
theorem last_map (f : Nat × Nat → Nat × Nat) (L : List (Nat × Nat)) (h : L ≠ []) : (L.map f).getLastD (0, 0) = f (L.getLastD (0, 0)) := by
  rw [List.getLastD_eq_getLast?, List.getLastD_eq_getLast?, List.getLast?_map, List.getLast?_eq_some_getLast h]
  rfl

theorem cut_map {ws : Int → Bool} {n : Int} {out : List Int} {L : List (Nat × Nat)} (g : Nat → Nat) (h1 : n ≠ 1) (hn : n = -1 ∨ 2 ≤ n) (hL : L ≠ []) :
    cut ws n out (L.map fun p => (g p.1, g p.2)) = (tcut n L).map fun p => (g p.1, g p.2) := by
  unfold cut tcut
  rw [if_neg h1, List.length_map]
  by_cases hc : n ≠ -1 ∧ n < (L.length : Int)
  · rw [if_pos hc, if_pos hc, List.map_append, List.map_take, last_map _ _ hL, getD_map_at _ _ _ (by omega)]
    rfl
  · rw [if_neg hc, if_neg hc]

theorem tcut_cut {ws : Int → Bool} {n : Int} {out : List Int} {L : List (Nat × Nat)} (h1 : n ≠ 1) : tcut n L = cut ws n out L := by
  unfold cut tcut
  rw [if_neg h1]

theorem tcut_ok {n : Int} {L : List (Nat × Nat)} {e : Nat} (hn : n = -1 ∨ 2 ≤ n) (h : Asc 0 L e) : ∀ f ∈ tcut n L, f.1 ≤ f.2 ∧ f.2 ≤ e := by
  have hz : (List.replicate e (0 : Int)).length = e := List.length_replicate
  rw [tcut_cut (ws := fun _ => false) (out := List.replicate e 0) (by omega)]
  by_cases hc : n ≠ -1 ∧ n < (L.length : Int)
  · obtain ⟨q, rfl⟩ : ∃ q : Nat, n = (q : Int) + 1 := ⟨(n - 1).toNat, by omega⟩
    obtain ⟨M, hM⟩ : ∃ M, L.length = M + 1 := ⟨L.length - 1, by omega⟩
    rw [cut_merged hM (by omega) (by omega)]
    have := merged_ok (out := List.replicate e 0) (by rw [hz]; exact h) hM (show q < M by omega)
    rw [hz] at this
    exact this
  · rw [cut_none (by omega) hc]
    intro f hf
    exact (h.all.2 f hf).2

theorem tcut_len {n : Int} {L : List (Nat × Nat)} (h0 : L ≠ []) (hl : L.length ≤ 1048576) : (tcut n L).length ≤ 1048576 ∧ 0 < (tcut n L).length := by
  have := List.length_pos_iff.2 h0
  unfold tcut
  split
  · simp; omega
  · exact ⟨hl, this⟩

/-- What the model hands back, n other than 1. -/
def mres (sep : Int → Bool) (n : Int) (ts : List Tok) : Option (List (List Int)) :=
  if runsTo sep ts ts.length = [] then none else some ((tcut n (runsTo sep ts ts.length)).map (textAt ts))

theorem give_mres (sep ws : Int → Bool) (n : Int) (raw : Bool) (rs : List Int) (hn : n = -1 ∨ 2 ≤ n) (hb : raw = true ∨ sep 92 = false) : give sep ws n raw rs = mres sep n (toks raw rs) := by
  obtain ⟨h1, h2⟩ := scan_runs sep raw rs hb
  have hasc := runs_asc sep (toks raw rs) (toks raw rs).length
  unfold give mres
  simp only []
  rw [h1, h2]
  generalize runsTo sep (toks raw rs) (toks raw rs).length = L at *
  generalize toks raw rs = ts at *
  by_cases hL : L = []
  · subst hL; rfl
  · rw [if_neg (by simpa using hL), if_neg hL, cut_map (at_ ts) (by omega) hn hL, List.map_map]
    congr 1
    apply List.map_congr_left
    intro f hf
    exact part_text ts f.1 f.2 (tcut_ok hn hasc f hf).1
end Go.Proofs.YtgppbbonfbhhbaaDoor
