/-
  What the law's switch leaves: the parts that are to be handed back, and where they lie. No walk here.
-/
import Derived.Test.YtgppbbonfbhhbaaDoorCat
namespace Go.Proofs.YtgppbbonfbhhbaaDoor
open Go.RowKit Rf

theorem runs_strict (sep : Int → Bool) (ts : List Tok) : ∀ k, (∀ f ∈ (RS sep ts k).1, f.1 < f.2) ∧ ∀ a, (RS sep ts k).2 = some a → a < k
  | 0 => ⟨fun f h => by simp [RS] at h, fun a h => by simp [RS] at h⟩
  | k + 1 => by
    have ih := runs_strict sep ts k
    cases hs : solid sep (ts.getD k tok0)
    · rw [runs_sep sep ts k hs]
      unfold runsTo
      generalize RS sep ts k = p at *
      obtain ⟨d, o⟩ := p
      refine ⟨fun f hf => ?_, fun a h => by cases h⟩
      cases o with
      | none => exact ih.1 f hf
      | some a =>
        rcases List.mem_append.1 (show f ∈ d ++ [(a, k)] from hf) with h | h
        · exact ih.1 f h
        · simp only [List.mem_singleton] at h
          subst h
          exact ih.2 a rfl
    · rw [runs_solid sep ts k hs]
      generalize RS sep ts k = p at *
      obtain ⟨d, o⟩ := p
      refine ⟨ih.1, fun a h => ?_⟩
      cases o with
      | none => cases h; exact Nat.lt_succ_self _
      | some b => cases h; exact Nat.lt_succ_of_lt (ih.2 b rfl)

theorem runsTo_strict (sep : Int → Bool) (ts : List Tok) (k : Nat) : ∀ f ∈ runsTo sep ts k, f.1 < f.2 := by
  have h := runs_strict sep ts k
  unfold runsTo
  generalize RS sep ts k = p at *
  obtain ⟨d, o⟩ := p
  intro f hf
  cases o with
  | none => exact h.1 f hf
  | some a =>
    rcases List.mem_append.1 (show f ∈ d ++ [(a, k)] from hf) with h1 | h1
    · exact h.1 f h1
    · simp only [List.mem_singleton] at h1
      subst h1
      exact h.2 a rfl

theorem tcut_lt {n : Int} {L : List (Nat × Nat)} {e : Nat} (hn : n = -1 ∨ 2 ≤ n) (h : Asc 0 L e) (hs : ∀ f ∈ L, f.1 < f.2) : ∀ f ∈ tcut n L, f.1 < f.2 ∧ f.2 ≤ e := by
  intro f hf
  refine ⟨?_, (tcut_ok hn h f hf).2⟩
  unfold tcut at hf
  split at hf
  · rename_i hc
    rcases List.mem_append.1 hf with hf | hf
    · exact hs f (List.mem_of_mem_take hf)
    · simp only [List.mem_singleton] at hf
      subst hf
      obtain ⟨q, hq⟩ : ∃ q, n.toNat - 1 = q := ⟨_, rfl⟩
      rw [hq]
      obtain ⟨M, hM⟩ : ∃ M, L.length = M + 1 := ⟨L.length - 1, by omega⟩
      have hqM : q < M := by omega
      have h4 : L.getLastD (0, 0) = L.getD M (0, 0) := by
        rw [List.getLastD_eq_getLast?, List.getLast?_eq_getElem?, hM]
        rfl
      rw [h4]
      have hq' : L.getD q (0, 0) ∈ L.take M := by
        rw [List.getD, List.getElem?_eq_getElem (by omega)]
        exact List.mem_take_iff_getElem.2 ⟨q, by omega, rfl⟩
      have hl' : L.getD M (0, 0) ∈ L.drop M := by
        rw [List.getD, List.getElem?_eq_getElem (by omega)]
        exact List.mem_drop_iff_getElem.2 ⟨0, by omega, by simp⟩
      have hap := Asc.append (fs := L.take M) (gs := L.drop M) (by rw [List.take_append_drop]; exact h) _ hq' _ hl'
      have h1 := hs _ (List.mem_of_mem_take hq')
      have h2 := hs _ (List.mem_of_mem_drop hl')
      simp only []
      omega
  · exact hs f hf

/-- The parts that are handed back. -/
def ccut (sep : Int → Bool) (n : Int) (ts : List Tok) : List (Nat × Nat) :=
  if runsTo sep ts ts.length = [] then [] else if n = 1 then [(mlo sep ts, mhi sep ts)] else tcut n (runsTo sep ts ts.length)

theorem tcut_ne {n : Int} {L : List (Nat × Nat)} (h : L ≠ []) : tcut n L ≠ [] := by
  unfold tcut
  split
  · simp
  · exact h

theorem tcut_size (n : Int) (L : List (Nat × Nat)) : (tcut n L).length ≤ L.length + 1 := by
  unfold tcut
  split
  · simp; omega
  · exact Nat.le_succ _

theorem mall_ccut (sep : Int → Bool) (n : Int) (ts : List Tok) : mall sep n ts = if ccut sep n ts = [] then none else some ((ccut sep n ts).map (textAt ts)) := by
  unfold mall ccut mone mres
  by_cases h0 : runsTo sep ts ts.length = []
  · simp [h0]
  · by_cases h1 : n = 1
    · simp [h0, h1, textAt]
    · simp [h0, h1, tcut_ne]

theorem ends_of {sep : Int → Bool} {ts : List Tok} (h : runsTo sep ts ts.length ≠ []) : EndsAt sep ts ts.length ((runsTo sep ts ts.length).headD (0, 0)).1 ((runsTo sep ts ts.length).getLastD (0, 0)).2 :=
  (run_ends sep ts ts.length).2 h

theorem lo_first {sep : Int → Bool} {ts : List Tok} {p q : Nat} (h : EndsAt sep ts ts.length p q) : mlo sep ts ≤ p ∧ q ≤ mhi sep ts ∧ mlo sep ts < mhi sep ts := by
  obtain ⟨a1, a2, a3⟩ := mlo_is sep ts
  obtain ⟨b1, b2, b3, b4⟩ := mhi_is sep ts
  have hlt := h.lt
  have hle := h.le
  have c1 : mlo sep ts ≤ p := by
    refine Nat.le_of_not_lt fun hc => ?_
    have := a2 p hc
    unfold blank at this
    rw [h.fst] at this
    cases this
  have c2 : q ≤ mhi sep ts := by
    refine Nat.le_of_not_lt fun hc => ?_
    have := b3 (q - 1) (by omega) (by omega)
    unfold blank at this
    rw [h.lst] at this
    cases this
  exact ⟨c1, c2, by omega⟩

theorem ccut_ok (sep : Int → Bool) {n : Int} (ts : List Tok) (hn : n = -1 ∨ 1 ≤ n) : ∀ f ∈ ccut sep n ts, f.1 < f.2 ∧ f.2 ≤ ts.length := by
  unfold ccut
  by_cases h0 : runsTo sep ts ts.length = []
  · simp [h0]
  · rw [if_neg h0]
    by_cases h1 : n = 1
    · rw [if_pos h1]
      intro f hf
      simp only [List.mem_singleton] at hf
      subst hf
      exact ⟨(lo_first (ends_of h0)).2.2, (mhi_is sep ts).2.1⟩
    · rw [if_neg h1]
      exact tcut_lt (by omega) (runs_asc sep ts _) (runsTo_strict sep ts _)

theorem ccut_len (sep : Int → Bool) (n : Int) (ts : List Tok) : (ccut sep n ts).length ≤ ts.length + 1 := by
  unfold ccut
  split
  · simp
  · split
    · simp
    · have := tcut_size n (runsTo sep ts ts.length); have := runs_le sep ts ts.length; omega

theorem ints_at (l : List Nat) (k : Nat) (h : k < l.length) : (ints l)[k]? = some (.int .i64 (l.getD k 0 : Nat)) := by simp [ints, List.getD, h]
theorem fst_at (L : List (Nat × Nat)) (k : Nat) (h : k < L.length) : (L.map (·.1)).getD k 0 = (L.getD k (0, 0)).1 := by simp [List.getD, h]
theorem snd_at (L : List (Nat × Nat)) (k : Nat) (h : k < L.length) : (L.map (·.2)).getD k 0 = (L.getD k (0, 0)).2 := by simp [List.getD, h]

theorem own_ints {w : World} {base g c n m : Nat} {l : List Nat} (h : w.ownsRow base 3 1 (.slice (some ⟨g, 0, none⟩) n c) m (ints l)) (hm : m = l.length) (k : Nat) (hk : k < l.length) : w.cell? ⟨g, k, none⟩ = some (.int .i64 (l.getD k 0 : Nat)) := by
  subst hm
  obtain ⟨g2, c2, hv⟩ := own_cons h (by omega)
  cases hv
  rw [h.cellAt _ (by omega)]
  exact ints_at l k hk

/-- The parts as they lie. -/
structure CutMem (wy : World) (C : List (Nat × Nat)) (s15 s16 : Value) (wx : World) : Prop where
  bel : Below wy.heap.size wy wx
  sl : (C = [] ∧ ∃ o c, s15 = .slice o 0 c) ∨ ∃ g1 c1 g2 c2, s15 = .slice (some ⟨g1, 0, none⟩) C.length c1 ∧ s16 = .slice (some ⟨g2, 0, none⟩) C.length c2 ∧
    ∀ k, k < C.length → wx.cell? ⟨g1, k, none⟩ = some (.int .i64 (C.getD k (0, 0)).1) ∧ wx.cell? ⟨g2, k, none⟩ = some (.int .i64 (C.getD k (0, 0)).2)

theorem cutMem_all {wy wx : World} {L : List (Nat × Nat)} {s15 s16 : Value} (h : RunMem wy (L.map (·.1)) (L.map (·.2)) s15 s16 wx) : CutMem wy L s15 s16 wx := by
  refine ⟨h.bel, ?_⟩
  by_cases h0 : L = []
  · subst h0
    obtain ⟨o, c, rfl⟩ := own_slice h.st
    exact Or.inl ⟨rfl, o, c, rfl⟩
  · have hp := List.length_pos_iff.2 h0
    obtain ⟨g1, c1, e1⟩ := own_cons h.st (by simpa using hp)
    obtain ⟨g2, c2, e2⟩ := own_cons h.en (by simpa using hp)
    subst e1 e2
    refine Or.inr ⟨g1, c1, g2, c2, by simp, by simp, fun k hk => ⟨?_, ?_⟩⟩
    · rw [own_ints h.st rfl k (by simpa using hk), fst_at _ _ hk]
    · rw [own_ints h.en rfl k (by simpa using hk), snd_at _ _ hk]

theorem set_getD (l : List Nat) (q x k : Nat) (hk : k < l.length) : (l.set q x).getD k 0 = if q = k then x else l.getD k 0 := by
  by_cases h : q = k
  · subst h; simp [List.getD, hk]
  · simp [List.getD, h, List.getElem?_set_ne h]

theorem cutMem_part {wy wx : World} {L : List (Nat × Nat)} {g1 c1 g2 c2 n1 n2 q : Nat} (hq : q + 1 < L.length)
    (h : RunMem wy (L.map (·.1)) ((L.map (·.2)).set q (L.getD (L.length - 1) (0, 0)).2) (.slice (some ⟨g1, 0, none⟩) n1 c1) (.slice (some ⟨g2, 0, none⟩) n2 c2) wx) :
    CutMem wy (tcut ((q : Int) + 1) L) (.slice (some ⟨g1, 0, none⟩) (q + 1) c1) (.slice (some ⟨g2, 0, none⟩) (q + 1) c2) wx := by
  have hl : L.getLastD (0, 0) = L.getD (L.length - 1) (0, 0) := by
    rw [List.getLastD_eq_getLast?, List.getLast?_eq_getElem?]
    rfl
  have e : tcut ((q : Int) + 1) L = merged L q (L.getD (L.length - 1) (0, 0)).2 := by
    unfold tcut merged
    rw [if_pos (by omega), hl, show ((q : Int) + 1).toNat - 1 = q by omega]
  have hm := merged_length L q (L.getD (L.length - 1) (0, 0)).2 (by omega)
  refine ⟨h.bel, Or.inr ⟨g1, c1, g2, c2, by rw [e, hm], by rw [e, hm], fun k hk => ?_⟩⟩
  rw [e, hm] at hk
  rw [own_ints h.st (by simp) k (by simp; omega), own_ints h.en (by simp) k (by simp; omega), fst_at _ _ (by omega), set_getD _ _ _ _ (by simp; omega), e]
  by_cases hkq : q = k
  · subst hkq
    rw [if_pos rfl, merged_top _ _ _ (by omega)]
    exact ⟨rfl, rfl⟩
  · rw [if_neg hkq, merged_low _ _ _ _ (by omega) (by omega), snd_at _ _ (by omega)]
    exact ⟨rfl, rfl⟩

theorem RunMem.setS {w3 wr : World} {S E : List Nat} {ve : Value} {g n c : Nat} (h : RunMem w3 S E (.slice (some ⟨g, 0, none⟩) n c) ve wr) (hn : n = S.length) (k a : Nat) : RunMem w3 (S.set k a) E (.slice (some ⟨g, 0, none⟩) n c) ve (wr.setCell ⟨g, k, none⟩ (.int .i64 a)) where
  st := by
    subst hn
    have := (h.st.stored k (.int .i64 a)).1
    rw [ints_set_at] at this
    rw [List.length_set]
    exact this
  en := ownsRow_setCell_other h.en (fun e => h.ap g rfl e) _
  ap := h.ap
  bel := h.bel.setCell (p := ⟨g, k, none⟩) (h.st.lt g rfl).1 _

theorem cutMem_one {wy wx : World} {S E : List Nat} {g1 c1 n1 : Nat} {ve : Value} {lo hi : Nat} (h : RunMem wy S E (.slice (some ⟨g1, 0, none⟩) n1 c1) ve wx) (hS : S.getD 0 0 = lo) (h0 : 0 < S.length) (t : TypeId) :
    CutMem wy [(lo, hi)] (.slice (some ⟨g1, 0, none⟩) 1 c1) (.slice (some ⟨wx.heap.size, 0, none⟩) 1 1) (wx.alloc (.cells #[.int .i64 hi] t)) := by
  subst hS
  have hb := h.bel.size
  have hg := (h.st.lt g1 rfl).2
  refine ⟨h.bel.alloc hb _, Or.inr ⟨g1, c1, wx.heap.size, 1, rfl, rfl, fun k hk => ?_⟩⟩
  obtain rfl : k = 0 := by simpa using hk
  refine ⟨?_, cell_one_new _ _ _ 0 _ rfl⟩
  rw [World.cell?_alloc_past _ _ _ hg, own_ints h.st (by rfl) 0 h0]
  rfl

theorem unitsAt_of {w wx : World} {g n uc B : Nat} {sep : Int → Bool} {ts : List Tok} (h : w.ownsRow B 33 3 (.slice (some ⟨g, 0, none⟩) n uc) ts.length (unitCells sep ts)) (hb : Below w.heap.size w wx) (a b : Nat) (hbl : b ≤ ts.length) :
    UnitsAt wx g (a * 3) sep ((ts.take b).drop a) := by
  intro k hk
  simp only [List.length_drop, List.length_take] at hk
  have hlt : a + k < ts.length := by omega
  have hg := (h.lt g rfl).2
  obtain ⟨m1, m2, m3⟩ := unitCells_get sep ts (a + k) tok0 hlt
  have hul := unitCells_len sep ts
  have hT : ((ts.take b).drop a).getD k tok0 = ts.getD (a + k) tok0 := by
    simp only [List.getD, List.getElem?_drop]
    rw [List.getElem?_take_of_lt (by omega)]
  obtain ⟨g2, c2, hv⟩ := own_cons h (by omega)
  cases hv
  rw [hT]
  have e : ∀ j, a * 3 + k * 3 + j = (a + k) * 3 + j := fun j => by omega
  refine ⟨?_, ?_, ?_⟩
  · rw [show a * 3 + k * 3 = (a + k) * 3 by omega]
    exact (hb.cell (p := ⟨g, (a + k) * 3, none⟩) hg).trans ((h.cellAt _ (by omega)).trans m1)
  · rw [e]
    exact (hb.cell (p := ⟨g, (a + k) * 3 + 1, none⟩) hg).trans ((h.cellAt _ (by omega)).trans m2)
  · rw [e]
    exact (hb.cell (p := ⟨g, (a + k) * 3 + 2, none⟩) hg).trans ((h.cellAt _ (by omega)).trans m3)
end Go.Proofs.YtgppbbonfbhhbaaDoor
