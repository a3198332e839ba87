/-
  Plain law: blocks put in order one by one, and merged two by two. No program in sight.
-/
import Derived.Test.YthcminjdkgmeoaaGreatDoorSrt
namespace Go.Proofs.YthcminjdkgmeoaaGreatDoor.Stb
set_option linter.unusedVariables false

theorem div_in {s t k : Nat} (hs : 0 < s) : k / s = t ↔ t * s ≤ k ∧ k < t * s + s := by
  rw [Nat.div_eq_iff hs]
  omega
theorem own_of {s t a b n : Nat} {q q' : Nat → Nat} (hs : 0 < s) (ha : a = t * s) (hb : b ≤ a + s) (h : Shuf a b q q') (ho : ∀ k, a ≤ k → k < b → q k / s = k / s) : ∀ k, a ≤ k → k < b → q' k / s = k / s := by
  intro k k1 k2
  obtain ⟨j, j1, j2, e⟩ := h.fwd k k1 k2
  rw [e, ho j j1 j2, (div_in (t := t) hs).2 (by omega), (div_in (t := t) hs).2 (by omega)]
/-- Blocks of s, the first t of them done. -/
structure BlkI (lt : Nat → Nat → Bool) (n s t a : Nat) (q : Nat → Nat) : Prop where
  at_ : a = t * s
  an : a ≤ n
  shuf : Shuf 0 n id q
  srt : ∀ u, u < t → Sorted lt (u * s) ((u + 1) * s) q
  own : ∀ k, k < a → q k / s = k / s
  rest : ∀ k, a ≤ k → q k = k
section
variable {lt : Nat → Nat → Bool} {n s t a : Nat} {q q' q0 : Nat → Nat}
theorem BlkI.start (lt : Nat → Nat → Bool) (n s : Nat) : BlkI lt n s 0 0 id := ⟨by simp, Nat.zero_le _, Shuf.refl _ _ _, fun u h => by omega, fun k h => by omega, fun k h => rfl⟩
theorem BlkI.inc (h : BlkI lt n s t a q) (b : Nat) : Inc a b q := fun k l k1 k2 k3 => by rw [h.rest k k1, h.rest l (by omega)]; exact k2
theorem BlkI.step (h : BlkI lt n s t a q) (hs : 0 < s) (hb : a + s ≤ n) (h1 : Shuf a (a + s) q q') (h2 : Sorted lt a (a + s) q') : BlkI lt n s (t + 1) (a + s) q' where
  at_ := by rw [Nat.add_mul, Nat.one_mul, h.at_]
  an := hb
  shuf := h.shuf.trans (h1.wide (Nat.zero_le _) hb)
  srt := fun u hu => by
    by_cases c : u = t
    · rw [c, Nat.add_mul, Nat.one_mul, ← h.at_]
      exact h2
    · have hle : (u + 1) * s ≤ a := by rw [h.at_]; exact Nat.mul_le_mul_right s (by omega)
      exact (h.srt u (by omega)).congr (fun k k1 k2 => h1.out k (by omega))
  own := fun k hk => by
    by_cases c : k < a
    · rw [h1.out k (by omega)]
      exact h.own k c
    · exact own_of (n := n) hs h.at_ (Nat.le_refl _) h1 (fun j j1 j2 => by rw [h.rest j j1]) k (by omega) hk
  rest := fun k hk => by
    rw [h1.out k (by omega)]
    exact h.rest k (by omega)
theorem BlkI.fin (h : BlkI lt n s t a q) (hs : 0 < s) (hb : n < a + s) (h1 : Shuf a n q q') (h2 : Sorted lt a n q') : Blk lt n s q' ∧ Shuf 0 n id q' := by
  refine ⟨⟨fun u => ?_, fun k hk => ?_⟩, h.shuf.trans (h1.wide (Nat.zero_le _) (Nat.le_refl _))⟩
  · rcases Nat.lt_trichotomy u t with c | c | c
    · have hle : (u + 1) * s ≤ a := by rw [h.at_]; exact Nat.mul_le_mul_right s (by omega)
      have e : min ((u + 1) * s) n = (u + 1) * s := by have := h.an; omega
      rw [e]
      exact (h.srt u c).congr (fun k k1 k2 => h1.out k (by omega))
    · have e : min ((u + 1) * s) n = n := by rw [c, Nat.add_mul, Nat.one_mul, ← h.at_]; omega
      rw [e, c, ← h.at_]
      exact h2
    · have hle : (t + 1) * s ≤ u * s := Nat.mul_le_mul_right s (by omega)
      rw [Nat.add_mul, Nat.one_mul, ← h.at_] at hle
      intro i j i1 i2 i3
      omega
  · by_cases c : k < a
    · rw [h1.out k (by omega)]
      exact h.own k c
    · exact own_of (n := n) hs h.at_ (by omega) h1 (fun j j1 j2 => by rw [h.rest j j1]) k (by omega) hk
/-- Pairs of blocks merged, the first t of them done. -/
structure MrgI (lt : Nat → Nat → Bool) (n s t a : Nat) (q0 q : Nat → Nat) : Prop where
  at_ : a = t * (2 * s)
  an : a ≤ n
  s0 : 0 < s
  blk : Blk lt n s q0
  shuf0 : Shuf 0 n id q0
  shuf : Shuf 0 n id q
  srt : ∀ u, u < t → Sorted lt (u * (2 * s)) ((u + 1) * (2 * s)) q
  own : ∀ k, k < a → q k / (2 * s) = k / (2 * s)
  rest : ∀ k, a ≤ k → q k = q0 k
theorem MrgI.start (hs : 0 < s) (hb : Blk lt n s q0) (h0 : Shuf 0 n id q0) : MrgI lt n s 0 0 q0 q0 := ⟨by simp, Nat.zero_le _, hs, hb, h0, h0, fun u h => by omega, fun k h => by omega, fun k h => rfl⟩
theorem two_mul_div {s : Nat} (k : Nat) : k / (2 * s) = k / s / 2 := by rw [Nat.mul_comm 2 s, Nat.div_div_eq_div_mul]
theorem MrgI.own2 (h : MrgI lt n s t a q0 q) (k : Nat) (hk : k < n) (ha : a ≤ k) : q k / (2 * s) = k / (2 * s) := by
  rw [h.rest k ha, two_mul_div, two_mul_div, h.blk.own k hk]
/-- What the merge of one pair asks for. -/
theorem MrgI.pre (h : MrgI lt n s t a q0 q) {b : Nat} (hb : b ≤ n) (hm : a + s ≤ b) (hb2 : b ≤ a + 2 * s) (hfull : b = a + 2 * s ∨ b = n) : Sorted lt a (a + s) q ∧ Sorted lt (a + s) b q ∧ Before a (a + s) b q := by
  have e0 : a = (2 * t) * s := by rw [h.at_, Nat.mul_comm 2 t, Nat.mul_assoc]
  have e1 : (2 * t + 1) * s = a + s := by rw [Nat.add_mul, Nat.one_mul, ← e0]
  have e2 : (2 * t + 1 + 1) * s = a + 2 * s := by rw [Nat.add_mul, Nat.one_mul, e1]; omega
  have e3 : (2 * t + 2) * s = a + 2 * s := e2
  have h1 := h.blk.srt (2 * t)
  have h2 := h.blk.srt (2 * t + 1)
  rw [e1, ← e0, show min (a + s) n = a + s by omega] at h1
  rw [e1, e2, show min (a + 2 * s) n = b by omega] at h2
  have h3 := h.blk.before h.s0 (t := 2 * t) (b := b) hb (by rw [e3]; exact hb2)
  rw [e1, ← e0] at h3
  refine ⟨h1.congr (fun k k1 _ => h.rest k k1), h2.congr (fun k k1 _ => h.rest k (by omega)), fun i j i1 i2 i3 i4 => ?_⟩
  rw [h.rest i i1, h.rest j (by omega)]
  exact h3 i j i1 i2 i3 i4
theorem MrgI.step (h : MrgI lt n s t a q0 q) (hb : a + 2 * s ≤ n) (h1 : Shuf a (a + 2 * s) q q') (h2 : Sorted lt a (a + 2 * s) q') : MrgI lt n s (t + 1) (a + 2 * s) q0 q' where
  at_ := by rw [Nat.add_mul, Nat.one_mul, h.at_]
  an := hb
  s0 := h.s0
  blk := h.blk
  shuf0 := h.shuf0
  shuf := h.shuf.trans (h1.wide (Nat.zero_le _) hb)
  srt := fun u hu => by
    by_cases c : u = t
    · rw [c, Nat.add_mul, Nat.one_mul, ← h.at_]
      exact h2
    · have hle : (u + 1) * (2 * s) ≤ a := by rw [h.at_]; exact Nat.mul_le_mul_right (2 * s) (by omega)
      exact (h.srt u (by omega)).congr (fun k k1 k2 => h1.out k (by omega))
  own := fun k hk => by
    by_cases c : k < a
    · rw [h1.out k (by omega)]
      exact h.own k c
    · exact own_of (n := n) (by have := h.s0; omega) h.at_ (Nat.le_refl _) h1 (fun j j1 j2 => h.own2 j (by omega) j1) k (by omega) hk
  rest := fun k hk => by
    rw [h1.out k (by omega)]
    exact h.rest k (by omega)
theorem MrgI.fin (h : MrgI lt n s t a q0 q) (hb : n < a + 2 * s) (h1 : Shuf a n q q') (h2 : Sorted lt a n q') : Blk lt n (2 * s) q' ∧ Shuf 0 n id q' := by
  have hs := h.s0
  refine ⟨⟨fun u => ?_, fun k hk => ?_⟩, h.shuf.trans (h1.wide (Nat.zero_le _) (Nat.le_refl _))⟩
  · rcases Nat.lt_trichotomy u t with c | c | c
    · have hle : (u + 1) * (2 * s) ≤ a := by rw [h.at_]; exact Nat.mul_le_mul_right (2 * s) (by omega)
      have e : min ((u + 1) * (2 * s)) n = (u + 1) * (2 * s) := by have := h.an; omega
      rw [e]
      exact (h.srt u c).congr (fun k k1 k2 => h1.out k (by omega))
    · have e : min ((u + 1) * (2 * s)) n = n := by rw [c, Nat.add_mul, Nat.one_mul, ← h.at_]; omega
      rw [e, c, ← h.at_]
      exact h2
    · have hle : (t + 1) * (2 * s) ≤ u * (2 * s) := Nat.mul_le_mul_right (2 * s) (by omega)
      rw [Nat.add_mul, Nat.one_mul, ← h.at_] at hle
      intro i j i1 i2 i3
      omega
  · by_cases c : k < a
    · rw [h1.out k (by omega)]
      exact h.own k c
    · exact own_of (n := n) (by omega) h.at_ (by omega) h1 (fun j j1 j2 => h.own2 j j2 j1) k (by omega) hk
/-- The last pair has but one block: it stands in order already. -/
theorem MrgI.one (h : MrgI lt n s t a q0 q) (hb : n ≤ a + s) : Sorted lt a n q := by
  have e0 : a = (2 * t) * s := by rw [h.at_, Nat.mul_comm 2 t, Nat.mul_assoc]
  have e1 : (2 * t + 1) * s = a + s := by rw [Nat.add_mul, Nat.one_mul, ← e0]
  have h1 := h.blk.srt (2 * t)
  rw [e1, ← e0, show min (a + s) n = n by omega] at h1
  exact h1.congr (fun k k1 _ => h.rest k k1)
theorem Blk.all (h : Blk lt n s q) (hn : n ≤ s) : Sorted lt 0 n q := by
  have h1 := h.srt 0
  simp only [Nat.zero_mul, Nat.zero_add, Nat.one_mul] at h1
  rwa [show min s n = n by omega] at h1
end
end Go.Proofs.YthcminjdkgmeoaaGreatDoor.Stb
