/-
  Plain law: the stable sort's parts, told by tags. No program in sight.
-/
import Derived.Test.YthcminjdkgmeoaaGreatDoorStb
namespace Go.Proofs.YthcminjdkgmeoaaGreatDoor.Stb

/-! ### The order -/
structure Wk (klt : Nat → Nat → Bool) : Prop where
  irr : ∀ x, klt x x = false
  tr : ∀ x y z, klt x y = true → klt y z = true → klt x z = true
  neg : ∀ x y z, klt x y = false → klt y z = false → klt x z = false
/-- Keys first, tags behind. -/
def ltT (klt : Nat → Nat → Bool) (x y : Nat) : Bool := if x < y then !klt y x else klt x y
theorem ltT_lo {klt : Nat → Nat → Bool} {x y : Nat} (h : x < y) : ltT klt x y = !klt y x := by unfold ltT; rw [if_pos h]
theorem ltT_hi {klt : Nat → Nat → Bool} {x y : Nat} (h : ¬ x < y) : ltT klt x y = klt x y := by unfold ltT; rw [if_neg h]
theorem ord_of {klt : Nat → Nat → Bool} (h : Wk klt) : Ord (ltT klt) where
  irr := fun x => by rw [ltT_hi (by omega), h.irr]
  tot := fun x y hxy => by
    by_cases hl : x < y
    · rw [ltT_lo hl, ltT_hi (x := y) (y := x) (by omega)]
      cases klt y x <;> simp
    · rw [ltT_hi hl, ltT_lo (x := y) (y := x) (by omega)]
      cases klt x y <;> simp
  tr := fun x y z h1 h2 => by
    by_cases a : x < y
    · rw [ltT_lo a, Bool.not_eq_true'] at h1
      by_cases b : y < z
      · rw [ltT_lo b, Bool.not_eq_true'] at h2
        rw [ltT_lo (by omega), h.neg _ _ _ h2 h1]
        rfl
      · rw [ltT_hi b] at h2
        by_cases c : x < z
        · rw [ltT_lo c]
          cases e : klt z x with
          | false => rfl
          | true => have := h.tr _ _ _ h2 e; rw [h1] at this; cases this
        · rw [ltT_hi c]
          cases e : klt x z with
          | true => rfl
          | false => have := h.neg _ _ _ h1 e; rw [h2] at this; cases this
    · rw [ltT_hi a] at h1
      by_cases b : y < z
      · rw [ltT_lo b, Bool.not_eq_true'] at h2
        by_cases c : x < z
        · rw [ltT_lo c]
          cases e : klt z x with
          | false => rfl
          | true => have := h.tr _ _ _ e h1; rw [h2] at this; cases this
        · rw [ltT_hi c]
          cases e : klt x z with
          | true => rfl
          | false => have := h.neg _ _ _ e h2; rw [h1] at this; cases this
      · rw [ltT_hi b] at h2
        rw [ltT_hi (by omega), h.tr _ _ _ h1 h2]

/-! ### Ranges exchanged, and turned round -/
def swp (a b n : Nat) (p : Nat → Nat) : Nat → Nat := fun k => if a ≤ k ∧ k < a + n then p (b + (k - a)) else if b ≤ k ∧ k < b + n then p (a + (k - b)) else p k
theorem swp_zero (a b : Nat) (p : Nat → Nat) : swp a b 0 p = p := by
  funext k
  unfold swp
  rw [if_neg (by omega), if_neg (by omega)]
theorem swp_succ (a b n : Nat) (p : Nat → Nat) (h : a + n < b) : swap (swp a b n p) (a + n) (b + n) = swp a b (n + 1) p := by
  funext k
  unfold swap swp
  by_cases h1 : k = a + n
  · subst h1
    rw [if_pos rfl, if_neg (by omega), if_neg (by omega), if_pos (by omega)]
    congr 1
    omega
  · rw [if_neg h1]
    by_cases h2 : k = b + n
    · subst h2
      rw [if_pos rfl, if_neg (by omega), if_neg (by omega), if_neg (by omega), if_pos (by omega)]
      congr 1
      omega
    · rw [if_neg h2]
      by_cases h3 : a ≤ k ∧ k < a + n
      · rw [if_pos h3, if_pos (by omega)]
      · have h5 : ¬ (a ≤ k ∧ k < a + (n + 1)) := by omega
        by_cases h4 : b ≤ k ∧ k < b + n
        · rw [if_neg h3, if_pos h4, if_neg h5, if_pos (by omega)]
        · rw [if_neg h3, if_neg h4, if_neg h5, if_neg (by omega)]
def rotF (a m b : Nat) (p : Nat → Nat) : Nat → Nat := fun k => if a ≤ k ∧ k < a + (b - m) then p (m + (k - a)) else if a + (b - m) ≤ k ∧ k < b then p (k - (b - m)) else p k
theorem rot_Rot {a m b : Nat} (p : Nat → Nat) (ham : a ≤ m) (hmb : m ≤ b) : Rot a m b p (rotF a m b p) where
  shuf := {
    out := fun k hk => by unfold rotF; rw [if_neg (by omega), if_neg (by omega)]
    fwd := fun k h1 h2 => by
      unfold rotF
      by_cases h : k < a + (b - m)
      · rw [if_pos ⟨h1, h⟩]
        exact ⟨m + (k - a), by omega, by omega, rfl⟩
      · rw [if_neg (by omega), if_pos (by omega)]
        exact ⟨k - (b - m), by omega, by omega, rfl⟩
    bwd := fun k h1 h2 => by
      by_cases h : k < m
      · refine ⟨k + (b - m), by omega, by omega, ?_⟩
        unfold rotF
        rw [if_neg (by omega), if_pos (by omega)]
        congr 1
        omega
      · refine ⟨k - (m - a), by omega, by omega, ?_⟩
        unfold rotF
        rw [if_pos (by omega)]
        congr 1
        omega
    inj := fun hp x y h => by
      unfold rotF at h
      split at h <;> split at h <;> (try split at h) <;> (try split at h) <;> (have := hp _ _ h; omega) }
  lo := fun k hk => by
    unfold rotF
    rw [if_pos (by omega)]
    congr 1
    omega
  hi := fun k hk => by
    unfold rotF
    rw [if_neg (by omega), if_pos (by omega)]
    congr 1
    omega
theorem rot_left {a b : Nat} (p : Nat → Nat) : Rot a a b p p := ⟨Shuf.refl _ _ _, fun k hk => rfl, fun k hk => by omega⟩
theorem rot_right {a b : Nat} (p : Nat → Nat) : Rot a b b p p := ⟨Shuf.refl _ _ _, fun k hk => by omega, fun k hk => by rw [Nat.sub_self, Nat.add_zero]⟩
/-- The rotation under way. -/
structure RotI (a m b i j : Nat) (p q : Nat → Nat) : Prop where
  i0 : 0 < i
  j0 : 0 < j
  ia : a + i ≤ m
  jb : m + j ≤ b
  lo : ∀ k, k < j → rotF a m b p (m - i + k) = q (m + k)
  hi : ∀ k, k < i → rotF a m b p (m - i + j + k) = q (m - i + k)
  out : ∀ k, ¬ (m - i ≤ k ∧ k < m + j) → rotF a m b p k = q k
section
variable {a m b i j : Nat} {p q : Nat → Nat}
theorem RotI.start (ham : a < m) (hmb : m < b) : RotI a m b (m - a) (b - m) p p where
  i0 := by omega
  j0 := by omega
  ia := by omega
  jb := by omega
  lo := fun k hk => by
    unfold rotF
    rw [if_pos (by omega)]
    congr 1
    omega
  hi := fun k hk => by
    unfold rotF
    rw [if_neg (by omega), if_pos (by omega)]
    congr 1
    omega
  out := fun k hk => by
    unfold rotF
    rw [if_neg (by omega), if_neg (by omega)]
theorem RotI.left (h : RotI a m b i j p q) (hij : j < i) : RotI a m b (i - j) j p (swp (m - i) m j q) where
  i0 := by omega
  j0 := h.j0
  ia := by have := h.ia; omega
  jb := h.jb
  lo := fun k hk => by
    have h1 := h.hi k (by omega)
    have := h.ia
    have e : m - (i - j) + k = m - i + j + k := by omega
    rw [e, h1]
    unfold swp
    rw [if_neg (by omega), if_pos (by omega)]
    congr 1
    omega
  hi := fun k hk => by
    have h1 := h.hi (j + k) (by omega)
    have := h.ia
    have e : m - (i - j) + j + k = m - i + j + (j + k) := by omega
    rw [e, h1]
    unfold swp
    rw [if_neg (by omega), if_neg (by omega)]
    congr 1
    omega
  out := fun k hk => by
    have := h.ia
    unfold swp
    by_cases h1 : m - i ≤ k ∧ k < m - i + j
    · rw [if_pos h1]
      have h2 := h.lo (k - (m - i)) (by omega)
      rw [show m - i + (k - (m - i)) = k by omega] at h2
      exact h2
    · rw [if_neg h1, if_neg (by omega)]
      exact h.out k (by omega)
theorem RotI.right (h : RotI a m b i j p q) (hij : i < j) : RotI a m b i (j - i) p (swp (m - i) (m + j - i) i q) where
  i0 := h.i0
  j0 := by omega
  ia := h.ia
  jb := by have := h.jb; omega
  lo := fun k hk => by
    have h1 := h.lo k (by omega)
    have := h.ia
    rw [h1]
    unfold swp
    rw [if_neg (by omega), if_neg (by omega)]
  hi := fun k hk => by
    have h1 := h.lo (j - i + k) (by omega)
    have := h.ia
    rw [show m - i + (j - i) + k = m - i + (j - i + k) by omega, h1]
    unfold swp
    rw [if_pos (by omega)]
    congr 1
    omega
  out := fun k hk => by
    have := h.ia
    unfold swp
    by_cases h1 : m + j - i ≤ k ∧ k < m + j - i + i
    · rw [if_neg (by omega), if_pos h1]
      have h2 := h.hi (k - (m - i + j)) (by omega)
      rw [show m - i + j + (k - (m - i + j)) = k by omega] at h2
      rw [h2]
      congr 1
      omega
    · rw [if_neg (by omega), if_neg h1]
      exact h.out k (by omega)
theorem RotI.fin (h : RotI a m b i i p q) : swp (m - i) m i q = rotF a m b p := by
  have := h.ia
  funext k
  unfold swp
  by_cases h1 : m - i ≤ k ∧ k < m - i + i
  · rw [if_pos h1]
    have h2 := h.lo (k - (m - i)) (by omega)
    rw [show m - i + (k - (m - i)) = k by omega] at h2
    exact h2.symm
  · rw [if_neg h1]
    by_cases h3 : m ≤ k ∧ k < m + i
    · rw [if_pos h3]
      have h2 := h.hi (k - m) (by omega)
      rw [show m - i + i + (k - m) = k by omega] at h2
      exact h2.symm
    · rw [if_neg h3]
      exact (h.out k (by omega)).symm
end

/-! ### Insertion -/
/-- The tags stand in their first order. -/
def Inc (a b : Nat) (p : Nat → Nat) : Prop := ∀ k l, a ≤ k → k < l → l < b → p k < p l
structure InsI (lt : Nat → Nat → Bool) (a i : Nat) (p q : Nat → Nat) : Prop where
  shuf : Shuf a i p q
  srt : Sorted lt a i q
structure InsJ (lt : Nat → Nat → Bool) (a i j : Nat) (p q : Nat → Nat) : Prop where
  aj : a ≤ j
  ji : j ≤ i
  at_ : q j = p i
  shuf : Shuf a (i + 1) p q
  srt : ∀ k l, a ≤ k → k < l → l ≤ i → k ≠ j → l ≠ j → lt (q k) (q l) = true
  up : ∀ k, j < k → k ≤ i → lt (p i) (q k) = true
  tag : ∀ k, a ≤ k → k ≤ i → k ≠ j → q k < p i
section
variable {lt : Nat → Nat → Bool} {a b i j : Nat} {p q : Nat → Nat}
theorem InsI.start (a : Nat) (p : Nat → Nat) : InsI lt a (a + 1) p p := ⟨Shuf.refl _ _ _, fun i j h1 h2 h3 => by omega⟩
theorem InsI.none (h : b ≤ a) (p : Nat → Nat) : Sorted lt a b p := fun i j h1 h2 h3 => by omega
theorem InsI.inner (h : InsI lt a i p q) (hinc : Inc a b p) (hai : a ≤ i) (hib : i < b) : InsJ lt a i i p q where
  aj := hai
  ji := Nat.le_refl _
  at_ := h.shuf.out i (by omega)
  shuf := h.shuf.wide (Nat.le_refl _) (by omega)
  srt := fun k l h1 h2 h3 _ h5 => h.srt k l h1 h2 (by omega)
  up := fun k h1 h2 => by omega
  tag := fun k h1 h2 h3 => by
    obtain ⟨j, j1, j2, e⟩ := h.shuf.fwd k h1 (by omega)
    rw [e]
    exact hinc j i j1 j2 hib
theorem InsJ.step (h : InsJ lt a i j p q) (haj : a < j) (hlt : lt (p i) (q (j - 1)) = true) : InsJ lt a i (j - 1) p (swap q j (j - 1)) := by
  have hji := h.ji
  have e1 : swap q j (j - 1) (j - 1) = q j := by unfold swap; rw [if_neg (by omega), if_pos rfl]
  have e2 : swap q j (j - 1) j = q (j - 1) := by unfold swap; rw [if_pos rfl]
  have e3 : ∀ k, k ≠ j → k ≠ j - 1 → swap q j (j - 1) k = q k := fun k h1 h2 => by unfold swap; rw [if_neg h1, if_neg h2]
  refine ⟨by omega, by omega, by rw [e1, h.at_], h.shuf.trans (swap_shuf q ⟨by omega, by omega⟩ ⟨by omega, by omega⟩), ?_, ?_, ?_⟩
  · intro k l k1 k2 k3 k4 k5
    by_cases c1 : k = j
    · rw [c1, e2, e3 l (by omega) (by omega)]
      exact h.srt (j - 1) l (by omega) (by omega) k3 (by omega) (by omega)
    · by_cases c2 : l = j
      · rw [c2, e2, e3 k c1 k4]
        exact h.srt k (j - 1) k1 (by omega) (by omega) c1 (by omega)
      · rw [e3 k c1 k4, e3 l c2 k5]
        exact h.srt k l k1 k2 k3 c1 c2
  · intro k k1 k2
    by_cases c : k = j
    · rw [c, e2]
      exact hlt
    · rw [e3 k c (by omega)]
      exact h.up k (by omega) k2
  · intro k k1 k2 k3
    by_cases c : k = j
    · rw [c, e2]
      exact h.tag (j - 1) (by omega) (by omega) (by omega)
    · rw [e3 k c k3]
      exact h.tag k k1 k2 c
theorem InsJ.fin (hO : Ord lt) (h : InsJ lt a i j p q) (hs : j = a ∨ lt (q (j - 1)) (p i) = true) : InsI lt a (i + 1) p q where
  shuf := h.shuf
  srt := fun k l k1 k2 k3 => by
    have haj := h.aj
    by_cases c1 : k = j
    · rw [c1, h.at_]
      exact h.up l (by omega) (by omega)
    · by_cases c2 : l = j
      · rw [c2, h.at_]
        rcases hs with hs | hs
        · omega
        · by_cases c3 : k = j - 1
          · rw [c3]
            exact hs
          · exact hO.tr _ _ _ (h.srt k (j - 1) k1 (by omega) (by have := h.ji; omega) c1 (by omega)) hs
      · exact h.srt k l k1 k2 (by omega) c1 c2
end

/-! ### One element merged in -/
def shU (a k : Nat) (p : Nat → Nat) : Nat → Nat := fun t => if a ≤ t ∧ t < k then p (t + 1) else if t = k then p a else p t
theorem shU_start (a : Nat) (p : Nat → Nat) : shU a a p = p := by
  funext t
  unfold shU
  rw [if_neg (by omega)]
  split
  · next h => rw [h]
  · rfl
theorem shU_step {a k : Nat} (p : Nat → Nat) (h : a ≤ k) : swap (shU a k p) k (k + 1) = shU a (k + 1) p := by
  funext t
  unfold swap shU
  by_cases h1 : t = k
  · subst h1
    rw [if_pos rfl, if_neg (by omega), if_neg (by omega), if_pos (by omega)]
  · rw [if_neg h1]
    by_cases h2 : t = k + 1
    · subst h2
      rw [if_pos rfl, if_neg (by omega), if_pos rfl, if_neg (by omega), if_pos rfl]
    · rw [if_neg h2]
      by_cases h3 : a ≤ t ∧ t < k
      · rw [if_pos h3, if_pos (by omega)]
      · rw [if_neg h3, if_neg h1, if_neg (by omega), if_neg h2]
def shD (m k : Nat) (p : Nat → Nat) : Nat → Nat := fun t => if k < t ∧ t ≤ m then p (t - 1) else if t = k then p m else p t
theorem shD_start (m : Nat) (p : Nat → Nat) : shD m m p = p := by
  funext t
  unfold shD
  rw [if_neg (by omega)]
  split
  · next h => rw [h]
  · rfl
theorem shD_step {m k : Nat} (p : Nat → Nat) (h : k ≤ m) (h0 : 0 < k) : swap (shD m k p) k (k - 1) = shD m (k - 1) p := by
  funext t
  unfold swap shD
  by_cases h1 : t = k
  · subst h1
    rw [if_pos rfl, if_neg (by omega), if_neg (by omega), if_pos (by omega)]
  · rw [if_neg h1]
    by_cases h2 : t = k - 1
    · subst h2
      rw [if_pos rfl, if_neg (by omega), if_pos rfl, if_neg (by omega), if_pos rfl]
    · rw [if_neg h2]
      by_cases h3 : k < t ∧ t ≤ m
      · rw [if_pos h3, if_pos (by omega)]
      · rw [if_neg h3, if_neg h1, if_neg (by omega), if_neg h2]
section
variable {lt : Nat → Nat → Bool} {a m b i : Nat} {p : Nat → Nat}
theorem merge_first (hO : Ord lt) (hs2 : Sorted lt (a + 1) b p) (hbef : Before a (a + 1) b p) (hi : a + 1 ≤ i ∧ i ≤ b) (h1 : i = a + 1 ∨ lt (p (i - 1)) (p a) = true) (h2 : i = b ∨ lt (p i) (p a) = false) : Sorted lt a b (shU a (i - 1) p) := by
  have e1 : ∀ t, a ≤ t → t < i - 1 → shU a (i - 1) p t = p (t + 1) := fun t x y => by unfold shU; rw [if_pos ⟨x, y⟩]
  have e2 : shU a (i - 1) p (i - 1) = p a := by unfold shU; rw [if_neg (by omega), if_pos rfl]
  have e3 : ∀ t, i ≤ t → shU a (i - 1) p t = p t := fun t x => by unfold shU; rw [if_neg (by omega), if_neg (by omega)]
  have up : ∀ t, i ≤ t → t < b → lt (p a) (p t) = true := fun t x y => by
    rcases h2 with h2 | h2
    · omega
    · have h3 : lt (p a) (p i) = true := by
        rcases hO.tot (p a) (p i) (by have := hbef a i (Nat.le_refl _) (by omega) (by omega) (by omega); omega) with h | h
        · exact h
        · rw [h2] at h; cases h
      by_cases c : t = i
      · rw [c]; exact h3
      · exact hO.tr _ _ _ h3 (hs2 i t (by omega) (by omega) y)
  intro k l k1 k2 k3
  by_cases c1 : k < i - 1
  · rw [e1 k k1 c1]
    by_cases c2 : l < i - 1
    · rw [e1 l (by omega) c2]
      exact hs2 _ _ (by omega) (by omega) (by omega)
    · by_cases c3 : l = i - 1
      · rw [c3, e2]
        rcases h1 with h1 | h1
        · omega
        · by_cases c4 : k + 1 = i - 1
          · rw [c4]; exact h1
          · exact hO.tr _ _ _ (hs2 (k + 1) (i - 1) (by omega) (by omega) (by omega)) h1
      · rw [e3 l (by omega)]
        exact hs2 _ _ (by omega) (by omega) k3
  · by_cases c3 : k = i - 1
    · rw [c3, e2, e3 l (by omega)]
      exact up l (by omega) k3
    · rw [e3 k (by omega), e3 l (by omega)]
      exact hs2 k l (by omega) k2 k3
theorem merge_last (hO : Ord lt) (hs1 : Sorted lt a m p) (hbef : Before a m (m + 1) p) (hi : a ≤ i ∧ i ≤ m) (h1 : i = a ∨ lt (p m) (p (i - 1)) = false) (h2 : i = m ∨ lt (p m) (p i) = true) : Sorted lt a (m + 1) (shD m i p) := by
  have e1 : ∀ t, i < t → t ≤ m → shD m i p t = p (t - 1) := fun t x y => by unfold shD; rw [if_pos ⟨x, y⟩]
  have e2 : shD m i p i = p m := by unfold shD; rw [if_neg (by omega), if_pos rfl]
  have e3 : ∀ t, t < i → shD m i p t = p t := fun t x => by unfold shD; rw [if_neg (by omega), if_neg (by omega)]
  have lo : ∀ t, a ≤ t → t < i → lt (p t) (p m) = true := fun t x y => by
    rcases h1 with h1 | h1
    · omega
    · have h3 : lt (p (i - 1)) (p m) = true := by
        rcases hO.tot (p (i - 1)) (p m) (by have := hbef (i - 1) m (by omega) (by omega) (Nat.le_refl _) (by omega); omega) with h | h
        · exact h
        · rw [h1] at h; cases h
      by_cases c : t = i - 1
      · rw [c]; exact h3
      · exact hO.tr _ _ _ (hs1 t (i - 1) x (by omega) (by omega)) h3
  have hi2 : ∀ t, i ≤ t → t < m → lt (p m) (p t) = true := fun t x y => by
    rcases h2 with h2 | h2
    · omega
    · by_cases c : t = i
      · rw [c]; exact h2
      · exact hO.tr _ _ _ h2 (hs1 i t hi.1 (by omega) y)
  intro k l k1 k2 k3
  by_cases c1 : l < i
  · rw [e3 k (by omega), e3 l c1]
    exact hs1 k l k1 k2 (by omega)
  · by_cases c2 : l = i
    · rw [c2, e2, e3 k (by omega)]
      exact lo k k1 (by omega)
    · rw [e1 l (by omega) (by omega)]
      by_cases c3 : k < i
      · rw [e3 k c3]
        exact hs1 _ _ k1 (by omega) (by omega)
      · by_cases c4 : k = i
        · rw [c4, e2]
          exact hi2 _ (by omega) (by omega)
        · rw [e1 k (by omega) (by omega)]
          exact hs1 _ _ (by omega) (by omega) (by omega)
end

/-! ### Blocks -/
/-- All blocks of this size stand in order, and hold their own tags. -/
structure Blk (lt : Nat → Nat → Bool) (n s : Nat) (q : Nat → Nat) : Prop where
  srt : ∀ t, Sorted lt (t * s) (min ((t + 1) * s) n) q
  own : ∀ k, k < n → q k / s = k / s
theorem Blk.before {lt : Nat → Nat → Bool} {n s : Nat} {q : Nat → Nat} (h : Blk lt n s q) (hs : 0 < s) {t b : Nat} (hb : b ≤ n) (hb2 : b ≤ (t + 2) * s) : Before (t * s) ((t + 1) * s) b q := by
  intro i j i1 i2 i3 i4
  have e1 : i / s = t := by
    rw [Nat.div_eq_iff hs]
    rw [Nat.add_mul, Nat.one_mul] at i2
    omega
  have e2 : j / s = t + 1 := by
    rw [Nat.div_eq_iff hs]
    have : (t + 2) * s = (t + 1) * s + s := by rw [Nat.add_mul, Nat.add_mul]; omega
    omega
  have h1 := h.own i (by rw [Nat.add_mul, Nat.one_mul] at i2 i3; omega)
  have h2 := h.own j (by omega)
  have : q i / s < q j / s := by omega
  exact Nat.lt_of_not_le (fun hc => by have := Nat.div_le_div_right (c := s) hc; omega)
end Go.Proofs.YthcminjdkgmeoaaGreatDoor.Stb
