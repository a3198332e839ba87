/-
  Plain law: what the ordered pairs hold, and what the search finds in them. No program in sight.
-/
import Derived.Test.YthcminjdkgmeoaaGreatDoorRes
namespace Go.Proofs.YthcminjdkgmeoaaGreatDoor.Stb
open Go.Lib
set_option linter.unusedVariables false

/-- The sort's own test, by tags. -/
def kltS (S : Nat → List UInt8) (x y : Nat) : Bool := decide (compareBytes (key (S x)) (key (S y)) < 0)
theorem wk_kltS (S : Nat → List UInt8) : Wk (kltS S) where
  irr := fun x => by simp [kltS, cb_refl]
  tr := fun x y z h1 h2 => by
    simp only [kltS, decide_eq_true_eq] at *
    exact cb_tr _ _ _ h1 h2
  neg := fun x y z h1 h2 => by
    simp only [kltS, decide_eq_false_iff_not] at *
    exact cb_neg _ _ _ h1 h2
/-- The texts as they lie. -/
def lay (n : Nat) (S : Nat → List UInt8) (q : Nat → Nat) : List (List UInt8) := (List.range n).map fun k => S (q k)
theorem lay_at {n : Nat} {S : Nat → List UInt8} {q : Nat → Nat} {k : Nat} {x : List UInt8} (h : (lay n S q)[k]? = some x) : k < n ∧ x = S (q k) := by
  unfold lay at h
  rw [List.getElem?_map] at h
  obtain ⟨a, ha, rfl⟩ := Option.map_eq_some_iff.1 h
  have hl := (List.getElem?_eq_some_iff.1 ha).1
  rw [List.length_range] at hl
  rw [List.getElem?_range hl] at ha
  obtain rfl := Option.some.inj ha
  exact ⟨hl, rfl⟩
theorem lay_get {n : Nat} (S : Nat → List UInt8) (q : Nat → Nat) {k : Nat} (h : k < n) : (lay n S q)[k]? = some (S (q k)) := by
  unfold lay
  rw [List.getElem?_map, List.getElem?_range h]
  rfl
theorem lay_length (n : Nat) (S : Nat → List UInt8) (q : Nat → Nat) : (lay n S q).length = n := by simp [lay]
section
variable {n : Nat} {S : Nat → List UInt8} {q : Nat → Nat}
theorem lay_srt (h : Sorted (ltT (kltS S)) 0 n q) : ∀ (i j : Nat) x y, i < j → (lay n S q)[i]? = some x → (lay n S q)[j]? = some y → ¬ compareBytes (key y) (key x) < 0 := by
  intro i j x y hij hx hy
  obtain ⟨_, rfl⟩ := lay_at hx
  obtain ⟨hj, rfl⟩ := lay_at hy
  have h1 := h i j (Nat.zero_le _) hij hj
  by_cases c : q i < q j
  · rw [ltT_lo c] at h1
    simpa [kltS] using h1
  · rw [ltT_hi c] at h1
    have h2 : compareBytes (key (S (q i))) (key (S (q j))) < 0 := by simpa [kltS] using h1
    have := cb_anti (key (S (q j))) (key (S (q i)))
    omega
theorem lay_fnd (T : List UInt8) (hs : Shuf 0 n id q) (h : Sorted (ltT (kltS S)) 0 n q) : fnd T (lay n S q) = fnd T (lay n S id) := by
  cases e : fnd T (lay n S id) with
  | none =>
    refine fnd_not (fun y hy => ?_)
    obtain ⟨k, hk⟩ := List.getElem?_of_mem hy
    obtain ⟨hkn, rfl⟩ := lay_at hk
    obtain ⟨j, _, j2, e2⟩ := hs.fwd k (Nat.zero_le _) hkn
    rw [e2]
    exact fnd_none e _ (List.mem_of_getElem? (lay_get S id j2))
  | some x =>
    obtain ⟨i, i1, i2, i3⟩ := fnd_some e
    obtain ⟨hi, rfl⟩ := lay_at i1
    obtain ⟨j, _, j2, e2⟩ := hs.bwd i (Nat.zero_le _) hi
    have e3 : q j = i := e2.symm
    refine fnd_is (i := j) (by rw [lay_get S q j2, e3]; rfl) i2 (fun k y hjk hy hc => ?_)
    obtain ⟨hk, rfl⟩ := lay_at hy
    have h1 := h j k (Nat.zero_le _) hjk hk
    rw [e3] at h1
    obtain ⟨l, _, l2, e4⟩ := hs.fwd k (Nat.zero_le _) hk
    have hqk : q k < n := by rw [e4]; exact l2
    by_cases c : i < q k
    · exact i3 (q k) _ c (lay_get S id hqk) hc
    · rw [ltT_hi c] at h1
      have h2 : compareBytes (key (S i)) (key (S (q k))) < 0 := by simpa [kltS] using h1
      have i2' : key (S i) = T := i2
      rw [hc, i2', cb_refl] at h2
      omega
end
/-- What the binary search leaves. -/
theorem search_fnd {R : List (List UInt8)} {t : List UInt8} (ht : ∀ x ∈ t, x.toNat ≠ 61) (hinc : ∀ (i j : Nat) x y, i < j → R[i]? = some x → R[j]? = some y → compareBytes (key x) (key y) < 0) (hval : ∀ x ∈ R, valid x = true) {i : Nat} (hi : i ≤ R.length)
    (h1 : i = 0 ∨ ∀ x, R[i - 1]? = some x → getC t x < 0) (h2 : i = R.length ∨ ∀ x, R[i]? = some x → ¬ getC t x < 0) :
    (∀ x, R[i]? = some x → getC t x = 0 → fnd (t ++ [61]) R = some x) ∧ ((∀ x, R[i]? = some x → getC t x ≠ 0) → fnd (t ++ [61]) R = none) := by
  have hc : ∀ x ∈ R, getC t x = compareBytes (key x) (t ++ [61]) := fun x hx => getC_valid (hval x hx) ht
  refine ⟨fun x hx h0 => ?_, fun hno => fnd_not (fun y hy hk => ?_)⟩
  · have hm := List.mem_of_getElem? hx
    rw [hc x hm] at h0
    have hk := cb_eq _ _ h0
    refine fnd_is hx hk (fun j y hj hy e => ?_)
    have := hinc i j x y hj hx hy
    rw [hk, e, cb_refl] at this
    omega
  · obtain ⟨k, hk1⟩ := List.getElem?_of_mem hy
    have hkl := (List.getElem?_eq_some_iff.1 hk1).1
    have hy0 : getC t y = 0 := by rw [hc y hy, hk, cb_refl]
    rcases Nat.lt_trichotomy k i with c | c | c
    · rcases h1 with h1 | h1
      · omega
      · by_cases c2 : k = i - 1
        · have := h1 y (by rw [← c2]; exact hk1)
          omega
        · have hlt : i - 1 < R.length := by omega
          have hz := List.getElem?_eq_getElem hlt
          have h3 := h1 _ hz
          rw [hc _ (List.mem_of_getElem? hz)] at h3
          have h4 := hinc k (i - 1) y _ (by omega) hk1 hz
          rw [hk] at h4
          have h5 := cb_tr _ _ _ h4 h3
          rw [cb_refl] at h5
          omega
    · exact hno y (by rw [← c]; exact hk1) hy0
    · rcases h2 with h2 | h2
      · omega
      · have hlt : i < R.length := by omega
        have hz := List.getElem?_eq_getElem hlt
        have h3 := h2 _ hz
        rw [hc _ (List.mem_of_getElem? hz)] at h3
        have h4 := hinc i k _ y c hz hk1
        rw [hk] at h4
        exact h3 h4
/-- Whoever has the key of a name has that name. -/
theorem key_valid {t : List UInt8} (ht : ∀ x ∈ t, x.toNat ≠ 61) (h0 : t ≠ []) {x : List UInt8} (h : key x = t ++ [61]) : valid x = true ∧ ∃ v, x = t ++ 61 :: v := by
  by_cases he : eqP x < x.length
  · obtain ⟨v, h1, h2, h3⟩ := eqP_split x he
    rw [h3] at h
    have e : name x = t := List.append_cancel_right h
    rw [e] at h1 h2
    have h4 := key_of (v := v) h2
    rw [← h1] at h4
    refine ⟨?_, v, h1⟩
    unfold valid
    have : 0 < t.length := List.length_pos_iff.2 h0
    simp only [decide_eq_true_eq]
    omega
  · unfold key at h
    rw [if_neg he] at h
    simp at h
theorem key_pre {t v : List UInt8} (ht : ∀ x ∈ t, x.toNat ≠ 61) : key (t ++ 61 :: v) = t ++ [61] := (key_of ht).2.1
/-- What an environment of these pairs gives for a name. -/
theorem env_get {t : List UInt8} (ht : ∀ x ∈ t, x.toNat ≠ 61) (h0 : t ≠ []) {n : Nat} {S : Nat → List UInt8} {q : Nat → Nat} (hs : Shuf 0 n id q) (h : Sorted (ltT (kltS S)) 0 n q) :
    (∀ (i j : Nat) x y, i < j → (dd [] [] (lay n S q))[i]? = some x → (dd [] [] (lay n S q))[j]? = some y → compareBytes (key x) (key y) < 0) ∧ (∀ x ∈ dd [] [] (lay n S q), valid x = true) ∧ fnd (t ++ [61]) (dd [] [] (lay n S q)) = fnd (t ++ [61]) (lay n S id) := by
  have hd := DdI.start (lay_srt h)
  refine ⟨(dd_inc _ _ _ hd).1, (dd_inc _ _ _ hd).2, ?_⟩
  rw [dd_fnd _ (fun x hx => (key_valid ht h0 hx).1) _ _ _ hd, List.nil_append, lay_fnd _ hs h]
end Go.Proofs.YthcminjdkgmeoaaGreatDoor.Stb
