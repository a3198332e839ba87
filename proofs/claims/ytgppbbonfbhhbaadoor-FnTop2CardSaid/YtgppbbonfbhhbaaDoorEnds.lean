/-
  The two ends of n = 1 by blank parts. No program in sight.
-/
import Derived.Test.YtgppbbonfbhhbaaDoorBlank
namespace Go.Proofs.YtgppbbonfbhhbaaDoor
open Go.RowKit Rf

theorem mark_blank (sep : Int → Bool) (ts : List Tok) (k : Nat) (h : k < ts.length) : isOne ((marks sep ts).getD k 0) = blank sep (ts.getD k tok0) := by
  rw [marks_at _ _ _ h, isOne_skips]; rfl

theorem take_all (f : Tok → Bool) (ts : List Tok) : ∀ j, j ≤ ts.length → ((ts.take j).all f = true ↔ ∀ k, k < j → f (ts.getD k tok0) = true)
  | 0, _ => by simp
  | j + 1, hj => by
    rw [take_one ts j (by omega), List.all_append, Bool.and_eq_true, take_all f ts j (by omega)]
    simp only [List.all_cons, List.all_nil, Bool.and_true]
    constructor
    · intro ⟨h1, h2⟩ k hk
      by_cases e : k = j
      · rw [e]; exact h2
      · exact h1 k (by omega)
    · intro h
      exact ⟨fun k hk => h k (by omega), h j (by omega)⟩

theorem mlo_is (sep : Int → Bool) (ts : List Tok) : mlo sep ts ≤ ts.length ∧ (∀ k, k < mlo sep ts → blank sep (ts.getD k tok0) = true) ∧ (mlo sep ts < ts.length → blank sep (ts.getD (mlo sep ts) tok0) = false) := by
  have hml := marks_len sep ts
  obtain ⟨j, j1, j2, j3⟩ := least (fun k => isOne ((marks sep ts).getD k 0)) ts.length
  have e : mlo sep ts = j := by
    unfold mlo
    have ha := lo_at (ws := isOne) (l := marks sep ts) (b := ts.length) (by omega) j j1 j2
    by_cases h : j < ts.length
    · exact lo_stop ha h (by omega) (by rw [j3 h]; simp)
    · obtain rfl : j = ts.length := by omega
      exact lo_all ha
  rw [e]
  exact ⟨j1, fun k hk => by rw [← mark_blank sep ts k (by omega)]; exact j2 k hk, fun h => by rw [← mark_blank sep ts j h]; exact j3 h⟩

theorem lead_blank (sep : Int → Bool) (ts : List Tok) (f : Nat) (hf : f ≤ ts.length) : (ts.take f).all (blank sep) = decide (f ≤ mlo sep ts) := by
  obtain ⟨h1, h2, h3⟩ := mlo_is sep ts
  by_cases h : f ≤ mlo sep ts
  · rw [decide_eq_true h]
    exact (take_all _ ts f hf).2 (fun k hk => h2 k (by omega))
  · rw [decide_eq_false h, Bool.eq_false_iff]
    intro hc
    have := (take_all _ ts f hf).1 hc (mlo sep ts) (by omega)
    rw [h3 (by omega)] at this
    cases this

theorem mhi_is (sep : Int → Bool) (ts : List Tok) : mlo sep ts ≤ mhi sep ts ∧ mhi sep ts ≤ ts.length ∧ (∀ k, mhi sep ts ≤ k → k < ts.length → blank sep (ts.getD k tok0) = true) ∧ (mlo sep ts < mhi sep ts → blank sep (ts.getD (mhi sep ts - 1) tok0) = false) := by
  have hml := marks_len sep ts
  have hlo := (mlo_is sep ts).1
  obtain ⟨m, m1, m2, m3⟩ := least (fun k => isOne ((marks sep ts).getD (ts.length - 1 - k) 0)) (ts.length - mlo sep ts)
  have e : mhi sep ts = ts.length - m := by
    unfold mhi
    have ha := hi_at (ws := isOne) (l := marks sep ts) (b := mlo sep ts) m (by omega) (fun k hk => by rw [hml]; exact m2 k hk)
    rw [hml] at ha
    by_cases h : m < ts.length - mlo sep ts
    · obtain ⟨x, hx⟩ : ∃ x, ts.length - m = x + 1 := ⟨ts.length - m - 1, by omega⟩
      rw [hx] at ha ⊢
      have h3 := m3 h
      rw [show ts.length - 1 - m = x by omega] at h3
      exact hi_stop ha (by omega) (by omega) (by rw [h3]; simp)
    · rw [show ts.length - m = mlo sep ts by omega] at ha ⊢
      exact hi_all ha
  rw [e]
  refine ⟨by omega, by omega, fun k h1 h2 => ?_, fun h => ?_⟩
  · have := m2 (ts.length - 1 - k) (by omega)
    rw [show ts.length - 1 - (ts.length - 1 - k) = k by omega] at this
    rw [← mark_blank sep ts k h2]
    exact this
  · have := m3 (by omega)
    rw [show ts.length - m - 1 = ts.length - 1 - m by omega, ← mark_blank sep ts _ (by omega)]
    exact this

theorem drop_all (f : Tok → Bool) (ts : List Tok) (l : Nat) : ((ts.drop l).all f = true ↔ ∀ k, l ≤ k → k < ts.length → f (ts.getD k tok0) = true) := by
  rw [List.all_eq_true]
  constructor
  · intro h k h1 h2
    refine h _ ?_
    rw [List.getD, List.getElem?_eq_getElem h2]
    exact List.mem_drop_iff_getElem.2 ⟨k - l, by omega, by simp only [Option.getD_some]; congr 1; omega⟩
  · intro h x hx
    obtain ⟨i, hi, rfl⟩ := List.mem_drop_iff_getElem.1 hx
    have := h (l + i) (by omega) (by omega)
    rwa [List.getD, List.getElem?_eq_getElem (by omega)] at this

theorem tail_blank (sep : Int → Bool) (ts : List Tok) (l : Nat) (h0 : mlo sep ts ≤ l) : (ts.drop l).all (blank sep) = decide (mhi sep ts ≤ l) := by
  obtain ⟨h1, h2, h3, h4⟩ := mhi_is sep ts
  by_cases h : mhi sep ts ≤ l
  · rw [decide_eq_true h]
    exact (drop_all _ ts l).2 (fun k hk hk2 => h3 k (by omega) hk2)
  · rw [decide_eq_false h, Bool.eq_false_iff]
    intro hc
    have := (drop_all _ ts l).1 hc (mhi sep ts - 1) (by omega) (by omega)
    rw [h4 (by omega)] at this
    cases this
end Go.Proofs.YtgppbbonfbhhbaaDoor
