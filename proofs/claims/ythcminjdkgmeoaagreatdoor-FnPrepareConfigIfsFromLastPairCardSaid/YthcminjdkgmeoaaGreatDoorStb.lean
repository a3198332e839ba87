/-
  Plain law: a stable sort by swaps, told by tags. 'p i' is the tag (the first place) of what lies at place i. No program in sight.
-/
import Derived.WalkKit
namespace Go.Proofs.YthcminjdkgmeoaaGreatDoor.Stb

/-- Two places exchanged. -/
def swap (p : Nat → Nat) (i j : Nat) : Nat → Nat := fun k => if k = i then p j else if k = j then p i else p k

/-- 'q' holds on [a, b) what 'p' held there, in some order, and elsewhere what 'p' held; no tag twice if none was twice. -/
structure Shuf (a b : Nat) (p q : Nat → Nat) : Prop where
  out : ∀ k, ¬ (a ≤ k ∧ k < b) → q k = p k
  fwd : ∀ k, a ≤ k → k < b → ∃ j, a ≤ j ∧ j < b ∧ q k = p j
  bwd : ∀ k, a ≤ k → k < b → ∃ j, a ≤ j ∧ j < b ∧ p k = q j
  inj : (∀ i j, p i = p j → i = j) → ∀ i j, q i = q j → i = j

theorem Shuf.refl (a b : Nat) (p : Nat → Nat) : Shuf a b p p :=
  ⟨fun _ _ => rfl, fun k h1 h2 => ⟨k, h1, h2, rfl⟩, fun k h1 h2 => ⟨k, h1, h2, rfl⟩, fun h => h⟩

theorem Shuf.trans {a b : Nat} {p q r : Nat → Nat} (h : Shuf a b p q) (k : Shuf a b q r) : Shuf a b p r where
  out := fun i hi => (k.out i hi).trans (h.out i hi)
  fwd := fun i h1 h2 => by
    obtain ⟨j, j1, j2, e⟩ := k.fwd i h1 h2
    obtain ⟨l, l1, l2, e'⟩ := h.fwd j j1 j2
    exact ⟨l, l1, l2, e.trans e'⟩
  bwd := fun i h1 h2 => by
    obtain ⟨j, j1, j2, e⟩ := h.bwd i h1 h2
    obtain ⟨l, l1, l2, e'⟩ := k.bwd j j1 j2
    exact ⟨l, l1, l2, e.trans e'⟩
  inj := fun hp => k.inj (h.inj hp)

/-- A shuffle of a part is one of the whole. -/
theorem Shuf.wide {a b c d : Nat} {p q : Nat → Nat} (h : Shuf a b p q) (hc : c ≤ a) (hd : b ≤ d) : Shuf c d p q where
  out := fun k hk => h.out k (fun hx => hk ⟨by omega, by omega⟩)
  fwd := fun k h1 h2 => by
    by_cases hx : a ≤ k ∧ k < b
    · obtain ⟨j, j1, j2, e⟩ := h.fwd k hx.1 hx.2
      exact ⟨j, by omega, by omega, e⟩
    · exact ⟨k, h1, h2, h.out k hx⟩
  bwd := fun k h1 h2 => by
    by_cases hx : a ≤ k ∧ k < b
    · obtain ⟨j, j1, j2, e⟩ := h.bwd k hx.1 hx.2
      exact ⟨j, by omega, by omega, e⟩
    · exact ⟨k, h1, h2, (h.out k hx).symm⟩
  inj := h.inj

theorem swap_shuf {a b i j : Nat} (p : Nat → Nat) (hi : a ≤ i ∧ i < b) (hj : a ≤ j ∧ j < b) : Shuf a b p (swap p i j) where
  out := fun k hk => by
    unfold swap
    rw [if_neg (fun e => hk (by subst e; exact hi)), if_neg (fun e => hk (by subst e; exact hj))]
  fwd := fun k h1 h2 => by
    unfold swap
    split
    · exact ⟨j, hj.1, hj.2, rfl⟩
    · split
      · exact ⟨i, hi.1, hi.2, rfl⟩
      · exact ⟨k, h1, h2, rfl⟩
  bwd := fun k h1 h2 => by
    by_cases e1 : k = i
    · subst e1
      refine ⟨j, hj.1, hj.2, ?_⟩
      unfold swap
      split
      · next h => rw [h]
      · rw [if_pos rfl]
    · by_cases e2 : k = j
      · subst e2
        exact ⟨i, hi.1, hi.2, by unfold swap; rw [if_pos rfl]⟩
      · exact ⟨k, h1, h2, by unfold swap; rw [if_neg e1, if_neg e2]⟩
  inj := fun hp x y h => by
    unfold swap at h
    split at h <;> split at h <;> (try split at h) <;> (try split at h) <;> first | omega | (have := hp _ _ h; omega)

/-- A strict order on the tags: what the sort's own test says of two tags in their first order. -/
structure Ord (lt : Nat → Nat → Bool) : Prop where
  irr : ∀ x, lt x x = false
  tr : ∀ x y z, lt x y = true → lt y z = true → lt x z = true
  tot : ∀ x y, x ≠ y → lt x y = true ∨ lt y x = true

theorem Ord.asym {lt : Nat → Nat → Bool} (h : Ord lt) {x y : Nat} (hx : lt x y = true) : lt y x = false := by
  cases e : lt y x with
  | false => rfl
  | true => have := h.tr _ _ _ hx e; rw [h.irr] at this; cases this

/-- The places of [a, b) stand in order. -/
def Sorted (lt : Nat → Nat → Bool) (a b : Nat) (p : Nat → Nat) : Prop := ∀ i j, a ≤ i → i < j → j < b → lt (p i) (p j) = true

/-- Whatever lies in [a, m) lies, by tag, before whatever lies in [m, b). -/
def Before (a m b : Nat) (p : Nat → Nat) : Prop := ∀ i j, a ≤ i → i < m → m ≤ j → j < b → p i < p j

theorem Sorted.sub {lt : Nat → Nat → Bool} {a b c d : Nat} {p : Nat → Nat} (h : Sorted lt a b p) (hc : a ≤ c) (hd : d ≤ b) : Sorted lt c d p :=
  fun i j h1 h2 h3 => h i j (by omega) h2 (by omega)

theorem Sorted.congr {lt : Nat → Nat → Bool} {a b : Nat} {p q : Nat → Nat} (h : Sorted lt a b p) (e : ∀ k, a ≤ k → k < b → q k = p k) : Sorted lt a b q := by
  intro i j h1 h2 h3
  rw [e i h1 (by omega), e j (by omega) h3]
  exact h i j h1 h2 h3

/-- Two parts in order, the first below the second, make a whole in order. -/
theorem Sorted.join {lt : Nat → Nat → Bool} {a m b : Nat} {p : Nat → Nat} (h : Sorted lt a m p) (k : Sorted lt m b p) (hx : ∀ i j, a ≤ i → i < m → m ≤ j → j < b → lt (p i) (p j) = true) : Sorted lt a b p := by
  intro i j h1 h2 h3
  by_cases hj : j < m
  · exact h i j h1 h2 hj
  · by_cases hi : i < m
    · exact hx i j h1 hi (by omega) h3
    · exact k i j (by omega) h2 h3

/-! ### The symmetric merge -/

/-- What the rotation of [s, e) about m leaves: the second part first. -/
structure Rot (s m e : Nat) (p q : Nat → Nat) : Prop where
  shuf : Shuf s e p q
  lo : ∀ k, k < e - m → q (s + k) = p (m + k)
  hi : ∀ k, k < m - s → q (s + (e - m) + k) = p (s + k)

/-- WHAT THE BINARY SEARCH FOUND, and what it is good for: with 'start' and 'end' so chosen, the two parts may be merged each by itself. -/
theorem merge_step {lt : Nat → Nat → Bool} (hO : Ord lt) {a m b s e mid : Nat} {p q q1 q2 : Nat → Nat}
    (hs1 : Sorted lt a m p) (hs2 : Sorted lt m b p) (hbef : Before a m b p)
    (ham : a ≤ m) (hmb : m ≤ b) (has : a ≤ s) (hsm : s ≤ m) (hme : m ≤ e) (heb : e ≤ b) (hmid : s + (e - m) = mid)
    (hlow : a < s → e < b → lt (p (s - 1)) (p e) = true) (hhigh : s < m → m < e → lt (p (e - 1)) (p s) = true)
    (hrot : Rot s m e p q) (h1 : Shuf a mid q q1) (g1 : Sorted lt a s q → Sorted lt s mid q → Before a s mid q → Sorted lt a mid q1)
    (h2 : Shuf mid b q1 q2) (g2 : Sorted lt mid e q1 → Sorted lt e b q1 → Before mid e b q1 → Sorted lt mid b q2) :
    Shuf a b p q2 ∧ Sorted lt a b q2 := by
  have hout : ∀ k, ¬ (s ≤ k ∧ k < e) → q k = p k := hrot.shuf.out
  have hlo : ∀ k, s ≤ k → k < mid → q k = p (k + (m - s)) := fun k k1 k2 => by
    have := hrot.lo (k - s) (by omega)
    rw [show s + (k - s) = k from by omega, show m + (k - s) = k + (m - s) from by omega] at this
    exact this
  have hhi : ∀ k, mid ≤ k → k < e → q k = p (k - (e - m)) := fun k k1 k2 => by
    have := hrot.hi (k - mid) (by omega)
    rw [show s + (e - m) + (k - mid) = k from by omega, show s + (k - mid) = k - (e - m) from by omega] at this
    exact this
  have A1 : Sorted lt a s q := hs1.sub (Nat.le_refl _) hsm |>.congr (fun k k1 k2 => hout k (by omega))
  have A2 : Sorted lt s mid q := fun i j i1 i2 i3 => by
    rw [hlo i i1 (by omega), hlo j (by omega) i3]
    exact hs2 _ _ (by omega) (by omega) (by omega)
  have A3 : Before a s mid q := fun i j i1 i2 i3 i4 => by
    rw [hout i (by omega), hlo j i3 i4]
    exact hbef _ _ i1 (by omega) (by omega) (by omega)
  have B1 : Sorted lt mid e q := fun i j i1 i2 i3 => by
    rw [hhi i i1 (by omega), hhi j (by omega) i3]
    exact hs1 _ _ (by omega) (by omega) (by omega)
  have B2 : Sorted lt e b q := hs2.sub hme (Nat.le_refl _) |>.congr (fun k k1 k2 => hout k (by omega))
  have B3 : Before mid e b q := fun i j i1 i2 i3 i4 => by
    rw [hhi i i1 i2, hout j (by omega)]
    exact hbef _ _ (by omega) (by omega) (by omega) (by omega)
  have S1 := g1 A1 A2 A3
  have hq1 : ∀ k, mid ≤ k → q1 k = q k := fun k hk => h1.out k (by omega)
  have S2 := g2 (B1.congr fun k k1 _ => hq1 k k1) (B2.congr fun k k1 _ => hq1 k (by omega)) (fun i j i1 i2 i3 i4 => by rw [hq1 i i1, hq1 j (by omega)]; exact B3 i j i1 i2 i3 i4)
  -- whatever lies in [a, mid) lies below whatever lies in [mid, b)
  have X : ∀ i j, a ≤ i → i < mid → mid ≤ j → j < b → lt (q i) (q j) = true := by
    intro i j i1 i2 j1 j2
    by_cases hi : i < s
    · rw [hout i (by omega)]
      by_cases hj : j < e
      · rw [hhi j j1 hj]
        exact hs1 _ _ i1 (by omega) (by omega)
      · rw [hout j (by omega)]
        -- p i ≤ p (s-1) < p e ≤ p j
        have c := hlow (by omega) (by omega)
        have c1 : lt (p i) (p e) = true := by
          by_cases h : i = s - 1
          · rw [h]; exact c
          · exact hO.tr _ _ _ (hs1 i (s - 1) i1 (by omega) (by omega)) c
        by_cases h : j = e
        · rw [h]; exact c1
        · exact hO.tr _ _ _ c1 (hs2 e j (by omega) (by omega) j2)
    · rw [hlo i (by omega) i2]
      by_cases hj : j < e
      · rw [hhi j j1 hj]
        -- p (i + ..) ≤ p (e-1) < p s ≤ p (j - ..)
        have c := hhigh (by omega) (by omega)
        have c1 : lt (p (i + (m - s))) (p s) = true := by
          by_cases h : i + (m - s) = e - 1
          · rw [h]; exact c
          · exact hO.tr _ _ _ (hs2 _ (e - 1) (by omega) (by omega) (by omega)) c
        by_cases h : j - (e - m) = s
        · rw [h]; exact c1
        · exact hO.tr _ _ _ c1 (hs1 s _ (by omega) (by omega) (by omega))
      · rw [hout j (by omega)]
        exact hs2 _ _ (by omega) (by omega) j2
  refine ⟨((hrot.shuf.wide has heb).trans (h1.wide (Nat.le_refl _) (by omega))).trans (h2.wide (by omega) (Nat.le_refl _)), ?_⟩
  refine Sorted.join (m := mid) (S1.congr fun k _ k2 => h2.out k (by omega)) S2 ?_
  intro i j i1 i2 j1 j2
  rw [h2.out i (by omega)]
  obtain ⟨j', a1, a2, e2⟩ := h2.fwd j j1 j2
  obtain ⟨i', b1, b2, e1⟩ := h1.fwd i i1 i2
  rw [e2, e1, hq1 j' a1]
  exact X i' j' b1 b2 a1 a2

end Go.Proofs.YthcminjdkgmeoaaGreatDoor.Stb
