/-
  The plain law of the model at n = 1: what it hands back is what ReadFields gives. No program in sight.
-/
import Derived.Test.YtgppbbonfbhhbaaDoorGive
import Derived.Test.YtgppbbonfbhhbaaDoorLoHi
namespace Go.Proofs.YtgppbbonfbhhbaaDoor
open Go.RowKit Rf

/-- Where the first run begins and the last one ends. -/
structure EndsAt (sep : Int → Bool) (ts : List Tok) (k p q : Nat) : Prop where
  lt : p < q
  le : q ≤ k
  bef : ∀ i, i < p → solid sep (ts.getD i tok0) = false
  fst : solid sep (ts.getD p tok0) = true
  lst : solid sep (ts.getD (q - 1) tok0) = true
  aft : ∀ i, q ≤ i → i < k → solid sep (ts.getD i tok0) = false

def RunEnds (sep : Int → Bool) (ts : List Tok) (k : Nat) (d : List (Nat × Nat)) (o : Option Nat) : Prop :=
  (closeAt d o k = [] → ∀ i, i < k → solid sep (ts.getD i tok0) = false) ∧
  (closeAt d o k ≠ [] → EndsAt sep ts k ((closeAt d o k).headD (0, 0)).1 ((closeAt d o k).getLastD (0, 0)).2)

theorem close_ne (d : List (Nat × Nat)) (a k : Nat) : closeAt d (some a) k ≠ [] := by simp [closeAt]
theorem headD_snoc (d : List (Nat × Nat)) (x : Nat × Nat) (h : d ≠ []) : (d ++ [x]).headD (0, 0) = d.headD (0, 0) := by
  cases d with
  | nil => exact absurd rfl h
  | cons a d => rfl
theorem lastD_snoc (d : List (Nat × Nat)) (x : Nat × Nat) : (d ++ [x]).getLastD (0, 0) = x := by simp [List.getLastD_eq_getLast?]
theorem head_snoc_fst (d : List (Nat × Nat)) (a x y : Nat) : ((d ++ [(a, x)]).headD (0, 0)).1 = ((d ++ [(a, y)]).headD (0, 0)).1 := by
  cases d <;> rfl

theorem run_ends (sep : Int → Bool) (ts : List Tok) : ∀ k, RunEnds sep ts k (RS sep ts k).1 (RS sep ts k).2
  | 0 => ⟨fun _ i hi => absurd hi (by omega), fun h => absurd rfl h⟩
  | k + 1 => by
    have ih := run_ends sep ts k
    cases hs : solid sep (ts.getD k tok0)
    · rw [runs_sep sep ts k hs]
      unfold runsTo
      refine ⟨fun h i hi => ?_, fun h => ?_⟩
      · by_cases e : i = k
        · rw [e]; exact hs
        · exact ih.1 h i (by omega)
      · have hh := ih.2 h
        refine ⟨hh.lt, Nat.le_succ_of_le hh.le, hh.bef, hh.fst, hh.lst, fun i h1 h2 => ?_⟩
        by_cases e : i = k
        · rw [e]; exact hs
        · exact hh.aft i h1 (by omega)
    · rw [runs_solid sep ts k hs]
      generalize RS sep ts k = p at *
      obtain ⟨d, o⟩ := p
      refine ⟨fun h => absurd h (close_ne _ _ _), fun _ => ?_⟩
      simp only [closeAt, lastD_snoc]
      cases o with
      | none =>
        by_cases hd : d = []
        · subst hd
          have hh := ih.1 rfl
          exact ⟨Nat.lt_succ_self _, Nat.le_refl _, hh, hs, hs, fun i h1 h2 => absurd h2 (by omega)⟩
        · rw [headD_snoc _ _ hd]
          have hh := ih.2 hd
          have h1 := hh.lt
          have h2 := hh.le
          simp only [closeAt] at h1 h2
          exact ⟨by omega, Nat.le_refl _, hh.bef, hh.fst, hs, fun i h3 h4 => absurd h4 (by omega)⟩
      | some a =>
        have hh := ih.2 (close_ne _ _ _)
        simp only [closeAt, lastD_snoc] at hh
        have h1 := hh.lt
        rw [show ((d ++ [((some a).getD k, k + 1)]).headD (0, 0)).1 = ((d ++ [(a, k)]).headD (0, 0)).1 from head_snoc_fst d a _ _]
        exact ⟨by omega, Nat.le_refl _, hh.bef, hh.fst, hs, fun i h3 h4 => absurd h4 (by omega)⟩

/-- Does the model's search at n = 1 go on over this token? -/
def skips (sep : Int → Bool) (t : Tok) : Int := if !solid sep t && isWS t.r then 1 else 0
def marks (sep : Int → Bool) (ts : List Tok) : List Int := ts.map (skips sep)
def isOne (r : Int) : Bool := r == 1
def mlo (sep : Int → Bool) (ts : List Tok) : Nat := lo isOne (marks sep ts) ts.length
def mhi (sep : Int → Bool) (ts : List Tok) : Nat := hi isOne (marks sep ts) (mlo sep ts)

theorem marks_at (sep : Int → Bool) (ts : List Tok) (k : Nat) (h : k < ts.length) : (marks sep ts).getD k 0 = skips sep (ts.getD k tok0) := by simp [marks, List.getD, h]
theorem marks_len (sep : Int → Bool) (ts : List Tok) : (marks sep ts).length = ts.length := by simp [marks]
theorem isOne_skips (sep : Int → Bool) (t : Tok) : isOne (skips sep t) = (!solid sep t && isWS t.r) := by
  unfold isOne skips
  cases (!solid sep t && isWS t.r) <;> rfl

theorem lo_at {ws : Int → Bool} {l : List Int} {b : Nat} (hb : b ≤ l.length) : ∀ j, j ≤ b → (∀ k, k < j → ws (l.getD k 0) = true) → LoAt ws l b j
  | 0, _, _ => lo_start ws l b
  | j + 1, hj, h => lo_step (lo_at hb j (by omega) (fun k hk => h k (by omega))) (by omega) hb (h j (by omega))
theorem hi_at {ws : Int → Bool} {l : List Int} {b : Nat} : ∀ m, b + m ≤ l.length → (∀ k, k < m → ws (l.getD (l.length - 1 - k) 0) = true) → HiAt ws l b (l.length - m)
  | 0, _, _ => hi_start ws l b
  | m + 1, hm, h => by
    have ih := hi_at (ws := ws) (l := l) (b := b) m (by omega) (fun k hk => h k (by omega))
    obtain ⟨x, hx⟩ : ∃ x, l.length - m = x + 1 := ⟨l.length - m - 1, by omega⟩
    rw [hx] at ih
    have e : l.length - (m + 1) = x := by omega
    have hw := h m (by omega)
    rw [show l.length - 1 - m = x by omega] at hw
    rw [e]
    exact hi_step ih (by omega) (by omega) hw

/-- The first place below b that does not hold, or b. -/
theorem least (f : Nat → Bool) : ∀ b, ∃ j, j ≤ b ∧ (∀ k, k < j → f k = true) ∧ (j < b → f j = false)
  | 0 => ⟨0, Nat.le_refl _, fun k hk => absurd hk (by omega), fun h => absurd h (by omega)⟩
  | b + 1 => by
    obtain ⟨j, h1, h2, h3⟩ := least f b
    by_cases e : j < b
    · exact ⟨j, by omega, h2, fun _ => h3 e⟩
    · obtain rfl : j = b := by omega
      cases hf : f j
      · exact ⟨j, by omega, h2, fun _ => hf⟩
      · refine ⟨j + 1, Nat.le_refl _, fun k hk => ?_, fun h => absurd h (by omega)⟩
        by_cases e2 : k = j
        · rw [e2]; exact hf
        · exact h2 k (by omega)

theorem textOf_full (l : List Tok) (h : ∀ t ∈ l, t.empty = false) : textOf l = l.map Tok.r := by
  unfold textOf
  rw [List.filter_eq_self.2 (fun t ht => by simp [h t ht])]

theorem textOf_at (ts : List Tok) (k : Nat) (hk : k < ts.length) (he : (ts.getD k tok0).empty = false) : at_ ts (k + 1) = at_ ts k + 1 ∧ (textOf ts).getD (at_ ts k) 0 = (ts.getD k tok0).r := by
  have h1 := take_one ts k hk
  have h2 : textOf (ts.take (k + 1)) = textOf (ts.take k) ++ [(ts.getD k tok0).r] := by rw [h1, textOf_keep _ _ he]
  refine ⟨by unfold at_; rw [h2]; simp, ?_⟩
  have h3 : textOf ts = textOf (ts.take (k + 1)) ++ textOf (ts.drop (k + 1)) := by rw [← textOf_append, List.take_append_drop]
  rw [h3, h2]
  unfold at_
  simp [List.getD]

theorem at_front (ts : List Tok) : ∀ p, p ≤ ts.length → (∀ i, i < p → (ts.getD i tok0).empty = false) → at_ ts p = p
  | 0, _, _ => by simp [at_, textOf]
  | p + 1, hp, h => by
    have ih := at_front ts p (by omega) (fun i hi => h i (by omega))
    rw [(textOf_at ts p (by omega) (h p (by omega))).1, ih]
theorem at_back (ts : List Tok) (q : Nat) (h : ∀ i, q ≤ i → i < ts.length → (ts.getD i tok0).empty = false) : ∀ m, q + m ≤ ts.length → at_ ts (q + m) = at_ ts q + m
  | 0, _ => rfl
  | m + 1, hm => by
    have ih := at_back ts q h m (by omega)
    have := (textOf_at ts (q + m) (by omega) (h (q + m) (by omega) (by omega))).1
    rw [show q + (m + 1) = q + m + 1 by omega, this, ih]
    omega
theorem at_all (ts : List Tok) : at_ ts ts.length = (textOf ts).length := by unfold at_; rw [List.take_length]

theorem not_empty {sep : Int → Bool} {ts : List Tok} (hw : ∀ t ∈ ts, t.empty = true → t.lit = true) {i : Nat} (hi : i < ts.length) (hs : solid sep (ts.getD i tok0) = false) : (ts.getD i tok0).empty = false ∧ sep (ts.getD i tok0).r = true := by
  have hm : ts.getD i tok0 ∈ ts := by rw [List.getD, List.getElem?_eq_getElem hi]; exact List.getElem_mem hi
  have := hw _ hm
  unfold solid at hs
  revert this hs
  cases (ts.getD i tok0).empty <;> cases (ts.getD i tok0).lit <;> cases sep (ts.getD i tok0).r <;> simp

theorem toks_lit (raw : Bool) : ∀ rs : List Int, ∀ t ∈ toks raw rs, t.empty = true → t.lit = true := by
  intro rs
  induction rs using toks.induct (raw := raw) with
  | case1 => intro t ht; simp [toks_nil] at ht
  | case2 r h => rw [toks_last _ _ h]; intro t ht he; simp at ht; subst ht; rfl
  | case3 r h => rw [toks_plain _ _ _ (by simpa using h), toks_nil]; intro t ht he; simp at ht; subst ht; cases he
  | case4 r x rs h ih => rw [toks_esc _ _ _ _ h]; intro t ht he; rcases List.mem_cons.1 ht with rfl | ht; · rfl
                         exact ih t ht he
  | case5 r x rs h ih => rw [toks_plain _ _ _ (by simpa using h)]; intro t ht he; rcases List.mem_cons.1 ht with rfl | ht; · cases he
                         exact ih t ht he

/-- The two ends of n = 1, by tokens and by runes. -/
theorem one_ends {sep : Int → Bool} {ts : List Tok} {p q : Nat} (hw : ∀ t ∈ ts, t.empty = true → t.lit = true) (h : EndsAt sep ts ts.length p q) :
    lo (fun r => isWS r && sep r) (textOf ts) (at_ ts p) = at_ ts (mlo sep ts) ∧ hi (fun r => isWS r && sep r) (textOf ts) (at_ ts q) = at_ ts (mhi sep ts) ∧ mlo sep ts < mhi sep ts ∧ mhi sep ts ≤ ts.length := by
  obtain ⟨hlt, hle, hbef, hfst, hlst, haft⟩ := h
  have hml := marks_len sep ts
  have hall := at_all ts
  -- from the left
  obtain ⟨j, j1, j2, j3⟩ := least (fun k => isOne ((marks sep ts).getD k 0)) p
  have hmp : isOne ((marks sep ts).getD p 0) = false := by rw [marks_at _ _ _ (by omega), isOne_skips, hfst]; rfl
  have hstop : isOne ((marks sep ts).getD j 0) = false := by
    by_cases e : j < p
    · exact j3 e
    · obtain rfl : j = p := by omega
      exact hmp
  have hlo : mlo sep ts = j := by
    unfold mlo
    exact lo_stop (lo_at (by omega) j (by omega) j2) (by omega) (by omega) (by rw [hstop]; simp)
  have hfr : ∀ k, k ≤ p → at_ ts k = k := fun k hk => at_front ts k (by omega) (fun i hi => (not_empty hw (by omega) (hbef i (by omega))).1)
  have htx : ∀ k, k < p → (textOf ts).getD k 0 = (ts.getD k tok0).r := fun k hk => by
    have := (textOf_at ts k (by omega) (not_empty hw (by omega) (hbef k hk)).1).2
    rwa [hfr k (by omega)] at this
  have hws : ∀ k, k < p → (isWS ((textOf ts).getD k 0) && sep ((textOf ts).getD k 0)) = isOne ((marks sep ts).getD k 0) := fun k hk => by
    rw [htx k hk, marks_at _ _ _ (by omega), isOne_skips, hbef k hk, (not_empty hw (by omega) (hbef k hk)).2]
    cases isWS (ts.getD k tok0).r <;> rfl
  have hql := at_back ts q (fun i h1 h2 => (not_empty hw h2 (haft i h1 h2)).1)
  have hpl : p < (textOf ts).length ∨ p ≤ (textOf ts).length := by
    right
    have := textOf_split ts p ts.length (by omega)
    have h2 := congrArg List.length this
    have h3 := hfr p (Nat.le_refl _)
    unfold at_ at h3
    rw [List.take_length, List.length_append] at h2
    omega
  have hA : lo (fun r => isWS r && sep r) (textOf ts) (at_ ts p) = at_ ts (mlo sep ts) := by
    rw [hlo, hfr p (Nat.le_refl _), hfr j j1]
    have hla : LoAt (fun r => isWS r && sep r) (textOf ts) p j := lo_at (by omega) j j1 (fun k hk => by show (isWS _ && sep _) = true; rw [hws k (by omega)]; exact j2 k hk)
    by_cases e : j < p
    · exact lo_stop hla e (by omega) (by show ¬ (isWS _ && sep _) = true; rw [hws j e, hstop]; simp)
    · obtain rfl : j = p := by omega
      exact lo_all hla
  -- from the right
  obtain ⟨m, m1, m2, m3⟩ := least (fun k => isOne ((marks sep ts).getD (ts.length - 1 - k) 0)) (ts.length - q)
  have hmq : isOne ((marks sep ts).getD (q - 1) 0) = false := by rw [marks_at _ _ _ (by omega), isOne_skips, hlst]; rfl
  have hstop2 : isOne ((marks sep ts).getD (ts.length - 1 - m) 0) = false := by
    by_cases e : m < ts.length - q
    · exact m3 e
    · rw [show ts.length - 1 - m = q - 1 by omega]
      exact hmq
  have hhi : mhi sep ts = ts.length - m := by
    have h0 := hi_at (ws := isOne) (l := marks sep ts) (b := mlo sep ts) m (by omega) (fun k hk => by rw [hml]; exact m2 k hk)
    obtain ⟨x, hx⟩ : ∃ x, ts.length - m = x + 1 := ⟨ts.length - m - 1, by omega⟩
    rw [hml, hx] at h0
    unfold mhi
    rw [hx]
    rw [show ts.length - 1 - m = x by omega] at hstop2
    exact hi_stop h0 (by omega) (by omega) (by rw [hstop2]; simp)
  have hend : at_ ts (ts.length - m) = at_ ts q + (ts.length - m - q) := by
    have := hql (ts.length - m - q) (by omega)
    rwa [show q + (ts.length - m - q) = ts.length - m by omega] at this
  have hend2 : (textOf ts).length = at_ ts q + (ts.length - q) := by
    have := hql (ts.length - q) (by omega)
    rw [show q + (ts.length - q) = ts.length by omega, hall] at this
    exact this
  have htx2 : ∀ k, k < ts.length - q → (textOf ts).getD ((textOf ts).length - 1 - k) 0 = (ts.getD (ts.length - 1 - k) tok0).r := fun k hk => by
    have h1 := (textOf_at ts (ts.length - 1 - k) (by omega) (not_empty hw (by omega) (haft _ (by omega) (by omega))).1).2
    have h2 := hql (ts.length - 1 - k - q) (by omega)
    rw [show q + (ts.length - 1 - k - q) = ts.length - 1 - k by omega] at h2
    rw [h2] at h1
    rw [show (textOf ts).length - 1 - k = at_ ts q + (ts.length - 1 - k - q) by omega]
    exact h1
  have hws2 : ∀ k, k < ts.length - q → (isWS ((textOf ts).getD ((textOf ts).length - 1 - k) 0) && sep ((textOf ts).getD ((textOf ts).length - 1 - k) 0)) = isOne ((marks sep ts).getD (ts.length - 1 - k) 0) := fun k hk => by
    have hs := haft (ts.length - 1 - k) (by omega) (by omega)
    rw [htx2 k hk, marks_at _ _ _ (by omega), isOne_skips, hs, (not_empty hw (by omega) hs).2]
    cases isWS (ts.getD (ts.length - 1 - k) tok0).r <;> rfl
  refine ⟨hA, ?_, by omega, by omega⟩
  rw [hhi, hend]
  have hha : HiAt (fun r => isWS r && sep r) (textOf ts) (at_ ts q) ((textOf ts).length - m) := hi_at m (by omega) (fun k hk => by show (isWS _ && sep _) = true; rw [hws2 k (by omega)]; exact m2 k hk)
  by_cases e : m < ts.length - q
  · obtain ⟨x, hx⟩ : ∃ x, (textOf ts).length - m = x + 1 := ⟨(textOf ts).length - m - 1, by omega⟩
    rw [hx] at hha
    have h5 := hws2 m e
    rw [show (textOf ts).length - 1 - m = x by omega, hstop2] at h5
    rw [hi_stop hha (by omega) (by omega) (by show ¬ (isWS _ && sep _) = true; rw [h5]; simp)]
    omega
  · rw [show (textOf ts).length - m = at_ ts q by omega] at hha
    rw [hi_all hha]
    omega

/-- What the model hands back at n = 1. -/
def mone (sep : Int → Bool) (ts : List Tok) : Option (List (List Int)) :=
  if runsTo sep ts ts.length = [] then none else some [textOf ((ts.take (mhi sep ts)).drop (mlo sep ts))]

theorem head_map_at (f : Nat × Nat → Nat × Nat) (L : List (Nat × Nat)) (h : L ≠ []) : (L.map f).headD (0, 0) = f (L.headD (0, 0)) := by
  cases L with
  | nil => exact absurd rfl h
  | cons a L => rfl

theorem give_mone (sep : Int → Bool) (raw : Bool) (rs : List Int) (hb : raw = true ∨ sep 92 = false) : give sep (fun r => isWS r && sep r) 1 raw rs = mone sep (toks raw rs) := by
  obtain ⟨h1, h2⟩ := scan_runs sep raw rs hb
  have hend := run_ends sep (toks raw rs) (toks raw rs).length
  have hw := toks_lit raw rs
  unfold give mone
  simp only []
  rw [h1, h2]
  have hL0 : closeAt (RS sep (toks raw rs) (toks raw rs).length).1 (RS sep (toks raw rs) (toks raw rs).length).2 (toks raw rs).length = runsTo sep (toks raw rs) (toks raw rs).length := rfl
  unfold RunEnds at hend
  rw [hL0] at hend
  generalize runsTo sep (toks raw rs) (toks raw rs).length = L at *
  generalize toks raw rs = ts at *
  by_cases hL : L = []
  · subst hL; rfl
  · rw [if_neg (by simpa using hL), if_neg hL]
    obtain ⟨e1, e2, e3, _⟩ := one_ends hw (hend.2 hL)
    unfold cut
    rw [if_pos rfl, head_map_at _ _ hL, last_map _ _ hL]
    simp only [List.map_cons, List.map_nil]
    rw [e1, e2, part_text ts _ _ (Nat.le_of_lt e3)]

/-- What the model hands back. -/
def mall (sep : Int → Bool) (n : Int) (ts : List Tok) : Option (List (List Int)) := if n = 1 then mone sep ts else mres sep n ts

theorem give_mall (sep : Int → Bool) (n : Int) (raw : Bool) (rs : List Int) (hn : n = -1 ∨ 1 ≤ n) (hb : raw = true ∨ sep 92 = false) : give sep (fun r => isWS r && sep r) n raw rs = mall sep n (toks raw rs) := by
  unfold mall
  by_cases h1 : n = 1
  · subst h1
    rw [if_pos rfl]
    exact give_mone sep raw rs hb
  · rw [if_neg h1]
    exact give_mres sep _ n raw rs (by omega) hb
end Go.Proofs.YtgppbbonfbhhbaaDoor
