/-
  The law's model: which braces match, and how a pair's own level is read on. No walk here.
  What an open brace of the splitter has in common with the model's reading of the pair's own level. No walk here.
  The splitter's state beside the model's, token by token. No walk here.
  A word of literals splits into expansions just where the law's model says so. No walk here.
  The law's zzJoin and zzHasOpenBrace; what its two sides come to.
  The walk of the law FnSplitBracesMatchesBraceModel.
-/
import Derived.Test.YtpmmnlgkeanplaaDoorGn
import Derived.Test.YtpmmnlgkeanplaaDoorGk
import Derived.Lib.BufferRead
namespace Go.Proofs.YtpmmnlgkeanplaaDoor
open Go.RowKit
section
variable (S : List UInt8) (I : List Bool)

/-- At q the brace that was opened at o is closed. -/
def PopAt (q o : Nat) : Prop := q < S.length ∧ I.getD q false = false ∧ S.getD q 0 = 125 ∧ ∃ s, (mrun S I q).1 = s ++ [o]

theorem mrun_pop {q o : Nat} (h : PopAt S I q o) : ∃ s, (mrun S I q).1 = s ++ [o] ∧ mrun S I (q + 1) = (s, ((mrun S I q).2.set o (q : Int)).set q (o : Int)) := by
  obtain ⟨h1, h2, h3, s, hs⟩ := h
  refine ⟨s, hs, ?_⟩
  rw [mrun, mstep, if_neg (by rw [h2]; simp), if_neg (by rw [h3]; decide), if_pos h3, hs]
  simp
theorem mrun_inert {q : Nat} (h : I.getD q false = true) : mrun S I (q + 1) = mrun S I q := by
  rw [mrun, mstep, if_pos h]
theorem mrun_open {q : Nat} (h : I.getD q false = false) (h2 : S.getD q 0 = 123) : mrun S I (q + 1) = ((mrun S I q).1 ++ [q], (mrun S I q).2) := by
  rw [mrun, mstep, if_neg (by rw [h]; simp), if_pos h2]
theorem mrun_empty {q : Nat} (h2 : S.getD q 0 = 125) (h3 : (mrun S I q).1 = []) : mrun S I (q + 1) = mrun S I q := by
  rw [mrun, mstep]
  by_cases hI : I.getD q false = true
  · rw [if_pos hI]
  · rw [if_neg hI, if_neg (by rw [h2]; decide), if_pos h2, h3]
    rfl
theorem mrun_other {q : Nat} (h2 : S.getD q 0 ≠ 123) (h3 : S.getD q 0 ≠ 125) : mrun S I (q + 1) = mrun S I q := by
  rw [mrun, mstep]
  by_cases hI : I.getD q false = true
  · rw [if_pos hI]
  · rw [if_neg hI, if_neg h2, if_neg h3]

/-- What holds of the stack, and of the partners so far. -/
structure KInv (k : Nat) : Prop where
  sorted : (mrun S I k).1.Pairwise (· < ·)
  below : ∀ o ∈ (mrun S I k).1, o < k ∧ I.getD o false = false ∧ S.getD o 0 = 123
  pops : ∀ q o, PopAt S I q o → q < k → (mrun S I k).2[o]? = some (q : Int) ∧ o ∉ (mrun S I k).1
  val : ∀ p m, (mrun S I k).2[p]? = some m → m = -1 ∨ (∃ q : Nat, m = (q : Int) ∧ q < k ∧ PopAt S I q p) ∨ ∃ q : Nat, m = (q : Int) ∧ q < p
theorem kinv : ∀ k, k ≤ S.length → KInv S I k
  | 0, _ => ⟨by simp [mrun], fun o h => by simp [mrun] at h, fun q o _ h => by omega, fun p m h => by
      simp only [mrun, List.getElem?_replicate] at h
      split at h
      · exact Or.inl (by simpa using h.symm)
      · cases h⟩
  | k + 1, hk => by
    have ih := kinv k (by omega)
    have hlen := (mrun_inv S I k (by omega)).len
    have same : mrun S I (k + 1) = mrun S I k → ¬ (∃ o, PopAt S I k o) → KInv S I (k + 1) := fun e hno => ⟨by rw [e]; exact ih.sorted, fun o h => by
        rw [e] at h
        obtain ⟨a, b⟩ := ih.below o h
        exact ⟨by omega, b⟩, fun q o hp hq => by
        by_cases e2 : q = k
        · subst e2
          exact absurd ⟨o, hp⟩ hno
        · rw [e]
          exact ih.pops q o hp (by omega), fun p m h => by
        rw [e] at h
        rcases ih.val p m h with h | ⟨q, h1, h2, h3⟩ | h
        · exact Or.inl h
        · exact Or.inr (Or.inl ⟨q, h1, by omega, h3⟩)
        · exact Or.inr (Or.inr h)⟩
    by_cases hI : I.getD k false = true
    · exact same (mrun_inert S I hI) (fun ⟨o, h⟩ => by
        have := h.2.1
        rw [hI] at this
        cases this)
    have hI2 : I.getD k false = false := by simpa using hI
    by_cases h123 : S.getD k 0 = 123
    · have e := mrun_open S I hI2 h123
      have hno : ¬ ∃ o, PopAt S I k o := fun ⟨o, h⟩ => by
        have := h.2.2.1
        rw [h123] at this
        exact absurd this (by decide)
      refine ⟨?_, fun o h => ?_, fun q o hp hq => ?_, fun p m h => ?_⟩
      · rw [e]
        rw [List.pairwise_append]
        refine ⟨ih.sorted, by simp, fun a ha b hb => ?_⟩
        simp at hb
        have := (ih.below a ha).1
        omega
      · rw [e] at h
        rcases List.mem_append.1 h with h | h
        · obtain ⟨a, b⟩ := ih.below o h
          exact ⟨by omega, b⟩
        · simp at h
          subst h
          exact ⟨by omega, hI2, h123⟩
      · by_cases e2 : q = k
        · subst e2
          exact absurd ⟨o, hp⟩ hno
        · rw [e]
          obtain ⟨a, b⟩ := ih.pops q o hp (by omega)
          refine ⟨a, fun h => ?_⟩
          rcases List.mem_append.1 h with h | h
          · exact b h
          · simp at h
            obtain ⟨s, hs⟩ := hp.2.2.2
            have := ((kinv q (by omega)).below o (by rw [hs]; simp)).1
            omega
      · rw [e] at h
        rcases ih.val p m h with h | ⟨q, h1, h2, h3⟩ | h
        · exact Or.inl h
        · exact Or.inr (Or.inl ⟨q, h1, by omega, h3⟩)
        · exact Or.inr (Or.inr h)
    by_cases h125 : S.getD k 0 = 125
    · rcases List.eq_nil_or_concat (mrun S I k).1 with hs | ⟨s, o, hs⟩
      · exact same (mrun_empty S I h125 hs) (fun ⟨o, h⟩ => by
          obtain ⟨s2, h2⟩ := h.2.2.2
          rw [hs] at h2
          simp at h2)
      · rw [List.concat_eq_append] at hs
        have hpop : PopAt S I k o := ⟨by omega, hI2, h125, s, hs⟩
        obtain ⟨s2, hs2, e⟩ := mrun_pop S I hpop
        have hss : s2 = s ∧ True := by
          rw [hs] at hs2
          exact ⟨(List.append_inj_left' hs2 rfl).symm, trivial⟩
        obtain ⟨rfl, _⟩ := hss
        have hsorted := ih.sorted
        rw [hs] at hsorted
        have hso : ∀ a ∈ s2, a < o := fun a ha => (List.pairwise_append.1 hsorted).2.2 a ha o (by simp)
        have hok := ih.below o (by rw [hs]; simp)
        have huniq : ∀ o', PopAt S I k o' → o' = o := fun o' h => by
          obtain ⟨s3, h3⟩ := h.2.2.2
          rw [hs] at h3
          have := List.append_inj_right' h3 rfl
          simpa using this.symm
        refine ⟨?_, fun x h => ?_, fun q x hp hq => ?_, fun p m h => ?_⟩
        · rw [e]
          exact (List.pairwise_append.1 hsorted).1
        · rw [e] at h
          obtain ⟨a, b⟩ := ih.below x (by rw [hs]; exact List.mem_append.2 (Or.inl h))
          exact ⟨by omega, b⟩
        · rw [e]
          by_cases e2 : q = k
          · subst e2
            obtain rfl := huniq x hp
            refine ⟨?_, fun h => by have := hso x h; omega⟩
            simp only
            rw [List.getElem?_set, if_neg (by omega), List.getElem?_set, if_pos rfl, if_pos (by omega)]
          · obtain ⟨a, b⟩ := ih.pops q x hp (by omega)
            have hxo : x ≠ o := fun e3 => b (by rw [hs, e3]; simp)
            have hxk : x < k := by
              obtain ⟨s4, h4⟩ := hp.2.2.2
              have := ((kinv q (by omega)).below x (by rw [h4]; simp)).1
              omega
            refine ⟨?_, fun h => b (by rw [hs]; exact List.mem_append.2 (Or.inl h))⟩
            simp only
            rw [List.getElem?_set, if_neg (by omega), List.getElem?_set, if_neg (fun h => hxo h.symm)]
            exact a
        · rw [e] at h
          simp only at h
          rw [List.getElem?_set] at h
          split at h
          · rename_i e5
            subst e5
            simp only [List.length_set, hlen] at h
            rw [if_pos (by omega)] at h
            cases h
            exact Or.inr (Or.inr ⟨o, rfl, hok.1⟩)
          · rw [List.getElem?_set] at h
            split at h
            · rename_i e5
              subst e5
              rw [if_pos (by omega)] at h
              cases h
              exact Or.inr (Or.inl ⟨k, rfl, by omega, hpop⟩)
            · rcases ih.val p m h with h | ⟨q, h1, h2, h3⟩ | h
              · exact Or.inl h
              · exact Or.inr (Or.inl ⟨q, h1, by omega, h3⟩)
              · exact Or.inr (Or.inr h)
    · exact same (mrun_other S I h123 h125) (fun ⟨o, h⟩ => h125 h.2.2.1)
termination_by k => k

/-- The partners behind it all. -/
def mAll : List Int := (mrun S I S.length).2
theorem mAll_pop {q o : Nat} (h : PopAt S I q o) : (mAll S I).getD o 0 = (q : Int) := by
  have := ((kinv S I S.length (Nat.le_refl _)).pops q o h h.1).1
  rw [mAll, List.getD_eq_getElem?_getD, this]
  rfl
theorem mAll_val {i : Nat} (hi : i < S.length) (h : ¬ (mAll S I).getD i 0 < (i : Int)) : ∃ q : Nat, (mAll S I).getD i 0 = (q : Int) ∧ PopAt S I q i := by
  have hl := (mrun_inv S I S.length (Nat.le_refl _)).len
  have hp : (mAll S I)[i]? = some ((mAll S I).getD i 0) := by
    rw [List.getD_eq_getElem?_getD, List.getElem?_eq_getElem (by rw [mAll, hl]; exact hi)]
    rfl
  rcases (kinv S I S.length (Nat.le_refl _)).val i _ hp with e | ⟨q, e, _, h3⟩ | ⟨q, e, h3⟩
  · omega
  · exact ⟨q, e, h3⟩
  · omega
theorem PopAt.open_ {q o : Nat} (h : PopAt S I q o) : o < q ∧ I.getD o false = false ∧ S.getD o 0 = 123 := by
  obtain ⟨s, hs⟩ := h.2.2.2
  exact (kinv S I q (Nat.le_of_lt h.1)).below o (by rw [hs]; simp)

/-- The law's model: some pair that closes is an expansion. -/
theorem emits_iff (D : List Bool) : emitsM S I D (mAll S I) = true ↔ ∃ q o, PopAt S I q o ∧ pairE S I D (mAll S I) o q = true := by
  constructor
  · intro h
    unfold emitsM at h
    rw [List.any_eq_true] at h
    obtain ⟨i, h1, h2⟩ := h
    simp only [Bool.and_eq_true, Bool.not_eq_true', decide_eq_false_iff_not] at h2
    obtain ⟨⟨⟨a, b⟩, c⟩, d⟩ := h2
    obtain ⟨q, e, hq⟩ := mAll_val S I (List.mem_range.1 h1) c
    rw [e] at d
    exact ⟨q, i, hq, by simpa using d⟩
  · rintro ⟨q, o, h1, h2⟩
    obtain ⟨a, b, c⟩ := h1.open_
    have e := mAll_pop S I h1
    refine emitsM_yes (i := o) (by have := h1.1; omega) ?_
    unfold condM
    rw [b, c, e]
    simp [h2]
    omega
end
end Go.Proofs.YtpmmnlgkeanplaaDoor

namespace Go.Proofs.YtpmmnlgkeanplaaDoor
open Go.RowKit

theorem sub_cat (S : List UInt8) (a b c : Nat) (h1 : a ≤ b) (h2 : b ≤ c) : sub S a b ++ sub S b c = sub S a c := by
  unfold sub
  have h4 : S.take c = S.take b ++ (S.take c).drop b := by
    have h5 := (List.take_append_drop b (S.take c)).symm
    rw [List.take_take, Nat.min_eq_left h2] at h5
    exact h5
  by_cases hb : b ≤ S.length
  · conv => rhs; rw [h4]
    rw [List.drop_append_of_le_length (by rw [List.length_take]; omega)]
  · rw [List.take_of_length_le (by omega : S.length ≤ b), List.take_of_length_le (by omega : S.length ≤ c), List.drop_eq_nil_of_le (by omega : S.length ≤ b), List.append_nil]
theorem sub_self (S : List UInt8) (a : Nat) : sub S a a = [] := by
  unfold sub
  rw [List.drop_eq_nil_iff, List.length_take]
  omega
theorem oapp_some (x : List UInt8) (t : Option (List UInt8)) (y : List UInt8) (h : t = some x) : oapp t (some y) = some (x ++ y) := by
  rw [h]
  rfl
theorem oapp_nil (t : Option (List UInt8)) : oapp t (some []) = t := by cases t <;> simp [oapp]
theorem oapp_assoc (a b c : Option (List UInt8)) : oapp (oapp a b) c = oapp a (oapp b c) := by
  cases a <;> cases b <;> cases c <;> simp [oapp]

section
variable (S : List UInt8) (I D : List Bool)
noncomputable def scn (k p : Nat) (seps : List Nat) : Option (List Nat) := scanE S I D (mAll S I) k (S.length + 1) p seps
def Reach (o p : Nat) (seps : List Nat) : Prop := o + 1 ≤ p ∧ ∀ k, p ≤ k → k ≤ S.length → scn S I D k (o + 1) [] = scn S I D k p seps
def CommaAt (o p : Nat) : Prop := o + 1 ≤ p ∧ ∀ k, p ≤ k → k ≤ S.length → scn S I D k (o + 1) [] = none
variable {S I D} {o p q : Nat} {seps : List Nat}
theorem scn_step {k : Nat} (hk : k ≤ S.length) (hp : p < k) : scn S I D k p seps = if I.getD p false = true then scn S I D k (p + 1) seps
    else if S.getD p 0 = 123 ∧ (p : Int) < (mAll S I).getD p 0 then scn S I D k (((mAll S I).getD p 0).toNat + 1) seps
    else if S.getD p 0 = 44 then none
    else if D.getD p false = true then scn S I D k (p + 2) (seps ++ [p])
    else scn S I D k (p + 1) seps := scanE_step S I D (mAll S I) k p seps hk hp
theorem Reach.start (o : Nat) : Reach S I D o (o + 1) [] := ⟨Nat.le_refl _, fun _ _ _ => rfl⟩
theorem Reach.inert (h : Reach S I D o p seps) (hI : I.getD p false = true) : Reach S I D o (p + 1) seps :=
  ⟨by have := h.1; omega, fun k h1 h2 => by rw [h.2 k (by omega) h2, scn_step h2 (by omega), if_pos hI]⟩
theorem Reach.jump (h : Reach S I D o p seps) (hI : I.getD p false = false) (hS : S.getD p 0 = 123) (hM : (mAll S I).getD p 0 = (q : Int)) (hq : p < q) : Reach S I D o (q + 1) seps :=
  ⟨by have := h.1; omega, fun k h1 h2 => by
    rw [h.2 k (by omega) h2, scn_step h2 (by omega), if_neg (by rw [hI]; simp), if_pos ⟨hS, by rw [hM]; omega⟩, hM]
    rfl⟩
theorem Reach.comma (h : Reach S I D o p seps) (hI : I.getD p false = false) (hS : S.getD p 0 = 44) : CommaAt S I D o (p + 1) :=
  ⟨by have := h.1; omega, fun k h1 h2 => by rw [h.2 k (by omega) h2, scn_step h2 (by omega), if_neg (by rw [hI]; simp), if_neg (by rw [hS]; rintro ⟨h, _⟩; exact absurd h (by decide)), if_pos hS]⟩
theorem Reach.dots (h : Reach S I D o p seps) (hI : I.getD p false = false) (hS : S.getD p 0 = 46) (hD : D.getD p false = true) : Reach S I D o (p + 2) (seps ++ [p]) :=
  ⟨by have := h.1; omega, fun k h1 h2 => by rw [h.2 k (by omega) h2, scn_step h2 (by omega), if_neg (by rw [hI]; simp), if_neg (by rw [hS]; rintro ⟨h, _⟩; exact absurd h (by decide)), if_neg (by rw [hS]; decide), if_pos hD]⟩
theorem Reach.plain (h : Reach S I D o p seps) (hI : I.getD p false = false) (h1 : S.getD p 0 ≠ 123) (h2 : S.getD p 0 ≠ 44) (hD : D.getD p false = false) : Reach S I D o (p + 1) seps :=
  ⟨by have := h.1; omega, fun k h3 h4 => by rw [h.2 k (by omega) h4, scn_step h4 (by omega), if_neg (by rw [hI]; simp), if_neg (fun e => h1 e.1), if_neg h2, if_neg (by rw [hD]; simp)]⟩
theorem CommaAt.go (h : CommaAt S I D o p) (hq : p ≤ q) : CommaAt S I D o q := ⟨by have := h.1; omega, fun k h1 h2 => h.2 k (by omega) h2⟩
theorem Reach.done (h : Reach S I D o p seps) (hp : p ≤ S.length) : scn S I D p (o + 1) [] = some seps := by
  rw [h.2 p (Nat.le_refl _) hp]
  exact scanE_end S I D (mAll S I) p p seps (Nat.le_refl _)

/-- The finished elements and the last one, cut at the separators. -/
def Pieces (S : List UInt8) : Nat → List Nat → List (List Part) → List Part → Nat → List UInt8 → Prop
  | start, [], done, acc, g, pend => start ≤ g ∧ done = [] ∧ oapp (litText acc) (some pend) = some (sub S start g)
  | start, a :: r, done, acc, g, pend => ∃ d ds, done = d :: ds ∧ litText d = some (sub S start a) ∧ Pieces S (a + 2) r ds acc g pend
theorem Pieces.bytes {g g2 : Nat} {acc : List Part} {pend : List UInt8} (hg : g ≤ g2) : ∀ {seps : List Nat} {start : Nat} {done : List (List Part)}, Pieces S start seps done acc g pend → Pieces S start seps done acc g2 (pend ++ sub S g g2)
  | [], start, done, ⟨h1, h2, h3⟩ => ⟨by omega, h2, by
      have e : (some (pend ++ sub S g g2) : Option (List UInt8)) = oapp (some pend) (some (sub S g g2)) := rfl
      rw [e, ← oapp_assoc, h3, ← sub_cat S start g g2 h1 hg]
      rfl⟩
  | a :: r, start, done, ⟨d, ds, h1, h2, h3⟩ => ⟨d, ds, h1, h2, Pieces.bytes hg h3⟩
theorem Pieces.flush {g : Nat} {acc acc2 : List Part} {pend : List UInt8} (ha : litText acc2 = oapp (litText acc) (some pend)) : ∀ {seps : List Nat} {start : Nat} {done : List (List Part)}, Pieces S start seps done acc g pend → Pieces S start seps done acc2 g []
  | [], _, _, ⟨h1, h2, h3⟩ => ⟨h1, h2, by rw [oapp_nil, ha, h3]⟩
  | _ :: _, _, _, ⟨d, ds, h1, h2, h3⟩ => ⟨d, ds, h1, h2, Pieces.flush ha h3⟩
theorem Pieces.cut {g : Nat} {acc : List Part} : ∀ {seps : List Nat} {start : Nat} {done : List (List Part)}, Pieces S start seps done acc g [] → Pieces S start (seps ++ [g]) (done ++ [acc]) [] (g + 2) []
  | [], start, done, ⟨h1, h2, h3⟩ => by
    subst h2
    rw [oapp_nil] at h3
    exact ⟨acc, [], rfl, h3, Nat.le_refl _, rfl, by rw [sub_self]; rfl⟩
  | a :: r, start, done, ⟨d, ds, h1, h2, h3⟩ => ⟨d, ds ++ [acc], by rw [h1]; rfl, h2, Pieces.cut h3⟩

variable (S I D)
/-- An open brace, as far as g, with bytes that are not laid down yet. -/
structure Lev (f : Frame) (o g : Nat) (pend : List UInt8) : Prop where
  lt : o < g
  text : oapp (litText (unclosed f)) (some pend) = some (sub S o g)
  kind : (f.seq = false ∧ f.done ≠ [] ∧ CommaAt S I D o g) ∨ ∃ seps, Reach S I D o g seps ∧ (f.seq = true ↔ seps ≠ []) ∧ Pieces S (o + 1) seps f.done f.acc g pend
/-- All of them, the innermost first. -/
def Chain : List Frame → List Nat → Nat → List UInt8 → Prop
  | [], [], _, _ => True
  | f :: fs, o :: os, g, pend => Lev S I D f o g pend ∧ Chain fs os o []
  | _, _, _, _ => False
variable {S I D} {f : Frame} {g : Nat} {pend : List UInt8}
theorem Lev.flush (h : Lev S I D f o g pend) {s : ByteArray} (hs : s.data.toList = pend) : Lev S I D { f with acc := f.acc ++ [.lit s] } o g [] := by
  have e : litText (f.acc ++ [.lit s]) = oapp (litText f.acc) (some pend) := by rw [litText_append, litText_one, hs]
  refine ⟨h.lt, ?_, ?_⟩
  · rw [unclosed_push, litText_append, litText_one, hs, oapp_nil]
    exact h.text
  · rcases h.kind with ⟨a, b, c⟩ | ⟨seps, a, b, c⟩
    · exact Or.inl ⟨a, b, c⟩
    · exact Or.inr ⟨seps, a, b, c.flush e⟩

theorem unclosed_com (f : Frame) : unclosed (if f.seq then ⟨false, [sepBy Go.Proofs.YtpmmnlgkeanplaaDoor.dots f.elems], []⟩ else ⟨false, f.elems, []⟩) = unclosed f ++ [.lit cm] := by
  have hne : f.elems ≠ [] := by simp [Frame.elems]
  cases hq : f.seq with
  | true =>
    show Part.lit lb :: sepBy cm ([sepBy Go.Proofs.YtpmmnlgkeanplaaDoor.dots f.elems] ++ [[]]) = Part.lit lb :: sepBy (if f.seq then Go.Proofs.YtpmmnlgkeanplaaDoor.dots else cm) f.elems ++ [.lit cm]
    rw [sepBy_more _ _ (by simp), hq]
    rfl
  | false =>
    show Part.lit lb :: sepBy cm (f.elems ++ [[]]) = Part.lit lb :: sepBy (if f.seq then Go.Proofs.YtpmmnlgkeanplaaDoor.dots else cm) f.elems ++ [.lit cm]
    rw [sepBy_more _ _ hne, hq]
    rfl
theorem unclosed_dts (f : Frame) (h : f.seq = true ∨ f.done = []) : unclosed ⟨true, f.elems, []⟩ = unclosed f ++ [.lit Go.Proofs.YtpmmnlgkeanplaaDoor.dots] := by
  have hne : f.elems ≠ [] := by simp [Frame.elems]
  show Part.lit lb :: sepBy Go.Proofs.YtpmmnlgkeanplaaDoor.dots (f.elems ++ [[]]) = Part.lit lb :: sepBy (if f.seq then Go.Proofs.YtpmmnlgkeanplaaDoor.dots else cm) f.elems ++ [.lit Go.Proofs.YtpmmnlgkeanplaaDoor.dots]
  rw [sepBy_more _ _ hne]
  rcases h with hq | hq
  · rw [hq]
    rfl
  · have e1 : f.elems = [f.acc] := by simp [Frame.elems, hq]
    rw [e1]
    rfl

theorem kind_cases (t : List UInt8) : (isNum ⟨t.toArray⟩ = true ∧ kindOf t = 1) ∨ (isNum ⟨t.toArray⟩ = false ∧ isChar ⟨t.toArray⟩ = true ∧ kindOf t = 2) ∨ (isNum ⟨t.toArray⟩ = false ∧ isChar ⟨t.toArray⟩ = false ∧ kindOf t = 0) := by
  have e : isNum ⟨t.toArray⟩ = intOk t := isNum_eq _
  rw [e]
  cases hi : intOk t with
  | true => exact Or.inl ⟨rfl, by unfold kindOf; rw [if_pos hi]⟩
  | false =>
    right
    unfold kindOf
    rw [if_neg (by rw [hi]; simp)]
    match t with
    | [] => exact Or.inr ⟨rfl, rfl, rfl⟩
    | [c] =>
      have e2 : isChar ⟨[c].toArray⟩ = isLetter c.toNat := rfl
      rw [e2]
      cases hl : isLetter c.toNat with
      | true => exact Or.inl ⟨rfl, rfl, by show (if isLetter c.toNat = true then 2 else 0) = 2; rw [if_pos hl]⟩
      | false => exact Or.inr ⟨rfl, rfl, by show (if isLetter c.toNat = true then 2 else 0) = 0; rw [if_neg (by rw [hl]; simp)]⟩
    | a :: b :: r =>
      refine Or.inr ⟨rfl, ?_, rfl⟩
      have e3 : (⟨(a :: b :: r).toArray⟩ : ByteArray).size = r.length + 2 := rfl
      unfold isChar
      rw [e3, Bool.and_eq_false_iff]
      left
      exact beq_eq_false_iff_ne.2 (by omega)
theorem litOf_some {ps : List Part} {t : List UInt8} (h : litText ps = some t) : litOf ps = ⟨t.toArray⟩ := by
  rw [litOf, h]
  rfl
theorem broken_two {d e : List Part} {a b : List UInt8} (hd : litText d = some a) (he : litText e = some b) : broken [d, e] = !okEnds (kindOf a) (kindOf b) := by
  have e1 : litOf ([d, e].getD 0 []) = ⟨a.toArray⟩ := litOf_some hd
  have e2 : litOf ([d, e].getD 1 []) = ⟨b.toArray⟩ := litOf_some he
  have e3 : ([d, e].length == 3) = false := rfl
  have e4 : decide (3 < [d, e].length) = false := rfl
  unfold broken
  rw [e1, e2, e3, e4]
  rcases kind_cases a with ⟨h1, h2⟩ | ⟨h1, h3, h2⟩ | ⟨h1, h3, h2⟩ <;> rcases kind_cases b with ⟨k1, k2⟩ | ⟨k1, k3, k2⟩ | ⟨k1, k3, k2⟩ <;> simp [*, okEnds]
theorem broken_three {d e c : List Part} {a b x : List UInt8} (hd : litText d = some a) (he : litText e = some b) (hc : litText c = some x) : broken [d, e, c] = !(okEnds (kindOf a) (kindOf b) && intOk x) := by
  have e1 : litOf ([d, e, c].getD 0 []) = ⟨a.toArray⟩ := litOf_some hd
  have e2 : litOf ([d, e, c].getD 1 []) = ⟨b.toArray⟩ := litOf_some he
  have e5 : litOf ([d, e, c].getD 2 []) = ⟨x.toArray⟩ := litOf_some hc
  have e6 : isNum ⟨x.toArray⟩ = intOk x := isNum_eq _
  have e3 : ([d, e, c].length == 3) = true := rfl
  have e4 : decide (3 < [d, e, c].length) = false := rfl
  unfold broken
  rw [e1, e2, e3, e4, e5, e6]
  cases intOk x <;> rcases kind_cases a with ⟨h1, h2⟩ | ⟨h1, h3, h2⟩ | ⟨h1, h3, h2⟩ <;> rcases kind_cases b with ⟨k1, k2⟩ | ⟨k1, k3, k2⟩ | ⟨k1, k3, k2⟩ <;> simp [*, okEnds]

/-- Where a brace closes, the splitter and the model decide alike. -/
theorem decide_ (h : Lev S I D f o g []) (hg : g ≤ S.length) : (litText (closed f) = none ∧ pairE S I D (mAll S I) o g = true) ∨ (closed f = unclosed f ++ [.lit rb] ∧ pairE S I D (mAll S I) o g = false) := by
  have hpe : pairE S I D (mAll S I) o g = match scn S I D g (o + 1) [] with
    | none => true
    | some [a] => okEnds (kindOf (sub S (o + 1) a)) (kindOf (sub S (a + 2) g))
    | some [a, b] => okEnds (kindOf (sub S (o + 1) a)) (kindOf (sub S (a + 2) b)) && intOk (sub S (b + 2) g)
    | some _ => false := rfl
  rcases h.kind with ⟨h1, h2, h3⟩ | ⟨seps, h1, h2, h3⟩
  · left
    have hl : ¬ f.elems.length = 1 := by
      intro e
      have : f.done.length = 0 := by simpa [Frame.elems] using e
      exact h2 (List.eq_nil_of_length_eq_zero this)
    refine ⟨?_, ?_⟩
    · unfold closed
      rw [if_neg hl, h1]
      rfl
    · rw [hpe, h3.2 g (Nat.le_refl _) hg]
  · rw [hpe, h1.done hg]
    have hun : unclosed f = .lit lb :: sepBy (if f.seq then Go.Proofs.YtpmmnlgkeanplaaDoor.dots else cm) f.elems := rfl
    match seps, h2, h3 with
    | [], h2, h3 =>
      right
      have hd : f.done = [] := h3.2.1
      have he : f.elems = [f.acc] := by simp [Frame.elems, hd]
      refine ⟨?_, rfl⟩
      unfold closed
      rw [hun, he]
      rfl
    | [a], h2, ⟨d, ds, e1, e2, e3, e4, e5⟩ =>
      subst e4
      have hq : f.seq = true := h2.2 (by simp)
      have he : f.elems = [d, f.acc] := by simp [Frame.elems, e1]
      rw [oapp_nil] at e5
      have hb := broken_two e2 e5
      unfold closed
      rw [hun, he, if_neg (by simp), hq, if_pos rfl, hb]
      cases hk : okEnds (kindOf (sub S (o + 1) a)) (kindOf (sub S (a + 2) g)) with
      | true => exact Or.inl ⟨rfl, hk⟩
      | false => exact Or.inr ⟨rfl, hk⟩
    | [a, b], h2, ⟨d, ds, e1, e2, d2, ds2, e3, e4, e5, e6, e7⟩ =>
      subst e6
      subst e3
      have hq : f.seq = true := h2.2 (by simp)
      have he : f.elems = [d, d2, f.acc] := by simp [Frame.elems, e1]
      rw [oapp_nil] at e7
      have hb := broken_three e2 e4 e7
      unfold closed
      rw [hun, he, if_neg (by simp), hq, if_pos rfl, hb]
      cases hk : (okEnds (kindOf (sub S (o + 1) a)) (kindOf (sub S (a + 2) b)) && intOk (sub S (b + 2) g)) with
      | true => exact Or.inl ⟨rfl, hk⟩
      | false => exact Or.inr ⟨rfl, hk⟩
    | a :: b :: c :: r, h2, ⟨d, ds, e1, e2, d2, ds2, e3, e4, d3, ds3, e5, e6, e7⟩ =>
      right
      subst e5
      subst e3
      have hq : f.seq = true := h2.2 (by simp)
      have he : f.elems = d :: d2 :: d3 :: (ds3 ++ [f.acc]) := by simp [Frame.elems, e1]
      have hb : broken f.elems = true := by
        have h4 : decide (3 < f.elems.length) = true := by
          rw [he]
          simp
        unfold broken
        rw [h4]
        simp
      refine ⟨?_, rfl⟩
      unfold closed
      rw [if_neg (by rw [he]; simp), hq, if_pos rfl, hb, if_pos rfl, hun, hq]
      rfl
end
end Go.Proofs.YtpmmnlgkeanplaaDoor

namespace Go.Proofs.YtpmmnlgkeanplaaDoor
open Go.RowKit

theorem sub_one (S : List UInt8) (g : Nat) (h : g < S.length) : sub S g (g + 1) = [S.getD g 0] := by
  unfold sub
  have e : S.take (g + 1) = S.take g ++ [S[g]] := List.take_succ_eq_append_getElem h
  have hl : (S.take g).length = g := by simp; omega
  rw [e, List.drop_append_of_le_length (by omega), List.drop_eq_nil_of_le (by omega), List.nil_append, List.getD_eq_getElem?_getD, List.getElem?_eq_getElem h]
  rfl
section
variable {S : List UInt8} {I D : List Bool}
variable {f : Frame} {o g g2 : Nat} {pend : List UInt8}
theorem Lev.adv (h : Lev S I D f o g pend) (hg : g ≤ g2) (hk : ∀ seps, Reach S I D o g seps → (f.seq = true ↔ seps ≠ []) → Pieces S (o + 1) seps f.done f.acc g pend → Reach S I D o g2 seps) : Lev S I D f o g2 (pend ++ sub S g g2) := by
  have hlt := h.lt
  refine ⟨by omega, ?_, ?_⟩
  · have e : (some (pend ++ sub S g g2) : Option (List UInt8)) = oapp (some pend) (some (sub S g g2)) := rfl
    rw [e, ← oapp_assoc, h.text, ← sub_cat S o g g2 (by omega) hg]
    rfl
  · rcases h.kind with ⟨a, b, c⟩ | ⟨seps, a, b, c⟩
    · exact Or.inl ⟨a, b, c.go hg⟩
    · exact Or.inr ⟨seps, hk seps a b c, b, c.bytes hg⟩
/-- The splitter's state fits the model's at g; no pair so far is an expansion. -/
structure Ok (S : List UInt8) (I D : List Bool) (g : Nat) (pend : List UInt8) (st : St) : Prop where
  some_ : litText (render st) ≠ none
  chain : Chain S I D st.stack (mrun S I g).1.reverse g pend
  none_ : ∀ q, q < g → ∀ o, PopAt S I q o → pairE S I D (mAll S I) o q = false
/-- Or a brace stands, and the model says so too. -/
def Sim (S : List UInt8) (I D : List Bool) (g : Nat) (pend : List UInt8) (st : St) : Prop := (litText (render st) = none ∧ emitsM S I D (mAll S I) = true) ∨ Ok S I D g pend st

theorem text_some {a : List Part} {s : ByteArray} (h : litText a ≠ none) : litText (a ++ [.lit s]) ≠ none := by
  rw [litText_append, litText_one]
  cases ha : litText a with
  | none => exact absurd ha h
  | some x => simp [oapp]
theorem chain_cons {st : St} {os : List Nat} {r : List Frame} (hs : st.stack = f :: r) (h : Chain S I D st.stack os g pend) : ∃ o os2, os = o :: os2 ∧ Lev S I D f o g pend ∧ Chain S I D r os2 o [] := by
  rw [hs] at h
  cases os with
  | nil => exact absurd h id
  | cons o os2 => exact ⟨o, os2, rfl, h.1, h.2⟩
theorem chain_nil {st : St} {os : List Nat} (hs : st.stack = []) (h : Chain S I D st.stack os g pend) : os = [] := by
  rw [hs] at h
  cases os with
  | nil => rfl
  | cons o os2 => exact absurd h id

variable {st : St}
theorem Ok.pass (h : Ok S I D g pend st) (hg : g ≤ g2) (hm : (mrun S I g2).1 = (mrun S I g).1) (hp : ∀ q, g ≤ q → q < g2 → ∀ o, ¬ PopAt S I q o)
    (hk : ∀ f r o seps, st.stack = f :: r → Reach S I D o g seps → (f.seq = true ↔ seps ≠ []) → Pieces S (o + 1) seps f.done f.acc g pend → Reach S I D o g2 seps) : Ok S I D g2 (pend ++ sub S g g2) st := by
  refine ⟨h.some_, ?_, fun q hq o ho => ?_⟩
  · rw [hm]
    cases hs : st.stack with
    | nil =>
      rw [chain_nil hs h.chain]
      trivial
    | cons f r =>
      obtain ⟨o, os2, e1, e2, e3⟩ := chain_cons hs h.chain
      rw [e1]
      exact ⟨e2.adv hg (fun seps a b c => hk f r o seps hs a b c), e3⟩
  · by_cases hq2 : q < g
    · exact h.none_ q hq2 o ho
    · exact absurd ho (hp q (by omega) hq o)
theorem Ok.flush {v : ByteArray} {last j : Nat} (h : Ok S I D g pend st) (hp : (v.extract last j).data.toList = pend) (he : last = j → pend = []) : Ok S I D g [] (st.flush v last j) := by
  unfold St.flush
  split
  · rename_i e
    rw [he e] at h
    exact h
  · refine ⟨?_, ?_, h.none_⟩
    · rw [render_push]
      exact text_some h.some_
    · cases hs : st.stack with
      | nil =>
        have e := chain_nil hs h.chain
        rw [e]
        have e2 : (st.push [.lit (v.extract last j)]).stack = [] := by
          unfold St.push
          rw [hs]
        rw [e2]
        trivial
      | cons f r =>
        obtain ⟨o, os2, e1, e2, e3⟩ := chain_cons hs h.chain
        have e4 : (st.push [.lit (v.extract last j)]).stack = { f with acc := f.acc ++ [.lit (v.extract last j)] } :: r := by
          unfold St.push
          rw [hs]
        rw [e4, e1]
        exact ⟨e2.flush hp, e3⟩

theorem Ok.opn (h : Ok S I D g [] st) (hg : g < S.length) (hI : I.getD g false = false) (hS : S.getD g 0 = 123) : Ok S I D (g + 1) [] (act .opn st) := by
  have hm := mrun_open S I hI hS
  have er : render (act .opn st) = render st ++ [.lit lb] := by
    show unwind (⟨false, [], []⟩ :: st.stack) st.top = unwind st.stack st.top ++ [.lit lb]
    rw [unwind_cons]
    rfl
  refine ⟨?_, ?_, fun q hq o ho => ?_⟩
  · rw [er]
    exact text_some h.some_
  · rw [hm]
    simp only [List.reverse_append, List.reverse_cons, List.reverse_nil, List.nil_append, List.singleton_append]
    refine ⟨⟨by omega, ?_, Or.inr ⟨[], Reach.start g, by simp, Nat.le_refl _, rfl, by rw [sub_self]; rfl⟩⟩, h.chain⟩
    rw [sub_one S g hg, hS]
    rfl
  · by_cases e : q = g
    · subst e
      have := ho.2.2.1
      rw [hS] at this
      exact absurd this (by decide)
    · exact h.none_ q (by omega) o ho

theorem stack_render {r : List Frame} (hs : st.stack = f :: r) : render st = unwind r st.top ++ unclosed f := by
  show unwind st.stack st.top = _
  rw [hs, unwind_cons]
theorem Ok.com {r : List Frame} (h : Ok S I D g [] st) (hs : st.stack = f :: r) (hg : g < S.length) (hI : I.getD g false = false) (hS : S.getD g 0 = 44) : Ok S I D (g + 1) [] (act .com st) := by
  have hm := mrun_other S I (q := g) (by rw [hS]; decide) (by rw [hS]; decide)
  obtain ⟨o, os2, e1, e2, e3⟩ := chain_cons hs h.chain
  have ea : act .com st = { st with stack := (if f.seq then ⟨false, [sepBy dots f.elems], []⟩ else ⟨false, f.elems, []⟩) :: r } := by
    unfold act
    rw [hs]
  have er : render (act .com st) = render st ++ [.lit cm] := by
    rw [ea, stack_render hs]
    show unwind ((if f.seq then ⟨false, [sepBy dots f.elems], []⟩ else ⟨false, f.elems, []⟩) :: r) st.top = _
    rw [unwind_cons, unclosed_com, List.append_assoc]
  refine ⟨?_, ?_, fun q hq o ho => ?_⟩
  · rw [er]
    exact text_some h.some_
  · rw [hm, e1, ea]
    have hlt := e2.lt
    have hc : CommaAt S I D o (g + 1) := by
      rcases e2.kind with ⟨_, _, c⟩ | ⟨seps, a, _, _⟩
      · exact c.go (by omega)
      · exact a.comma hI hS
    refine ⟨⟨by omega, ?_, Or.inl ⟨?_, ?_, hc⟩⟩, e3⟩
    · rw [unclosed_com, litText_append, litText_one, oapp_nil]
      have h3 := e2.text
      rw [oapp_nil] at h3
      rw [h3, ← sub_cat S o g (g + 1) (by omega) (by omega), sub_one S g hg, hS]
      rfl
    · split <;> rfl
    · split
      · simp
      · simp [Frame.elems]
  · by_cases e : q = g
    · subst e
      have := ho.2.2.1
      rw [hS] at this
      exact absurd this (by decide)
    · exact h.none_ q (by omega) o ho
theorem Ok.dts {r : List Frame} (h : Ok S I D g [] st) (hs : st.stack = f :: r) (hf : f.seq = true ∨ f.done = []) (hg : g + 1 < S.length) (hI : I.getD g false = false) (hS : S.getD g 0 = 46) (hS2 : S.getD (g + 1) 0 = 46) (hD : D.getD g false = true) : Ok S I D (g + 2) [] (act .dts st) := by
  have hm := mrun_other S I (q := g) (by rw [hS]; decide) (by rw [hS]; decide)
  have hm2 := mrun_other S I (q := g + 1) (by rw [hS2]; decide) (by rw [hS2]; decide)
  obtain ⟨o, os2, e1, e2, e3⟩ := chain_cons hs h.chain
  have ea : act .dts st = { st with stack := ⟨true, f.elems, []⟩ :: r } := by
    unfold act
    rw [hs]
  have er : render (act .dts st) = render st ++ [.lit dots] := by
    rw [ea, stack_render hs]
    show unwind (⟨true, f.elems, []⟩ :: r) st.top = _
    rw [unwind_cons, unclosed_dts f hf, List.append_assoc]
  refine ⟨?_, ?_, fun q hq o ho => ?_⟩
  · rw [er]
    exact text_some h.some_
  · rw [hm2, hm, e1, ea]
    have hlt := e2.lt
    refine ⟨⟨by omega, ?_, ?_⟩, e3⟩
    · rw [unclosed_dts f hf, litText_append, litText_one, oapp_nil]
      have h3 := e2.text
      rw [oapp_nil] at h3
      have e5 : sub S g (g + 2) = [46, 46] := by
        rw [← sub_cat S g (g + 1) (g + 2) (by omega) (by omega), sub_one S g (by omega), sub_one S (g + 1) hg, hS, hS2]
        rfl
      rw [h3, ← sub_cat S o g (g + 2) (by omega) (by omega), e5]
      rfl
    · rcases e2.kind with ⟨a, b, _⟩ | ⟨seps, a, b, c⟩
      · rcases hf with hf | hf
        · rw [a] at hf
          cases hf
        · exact absurd hf b
      · exact Or.inr ⟨seps ++ [g], a.dots hI hS hD, by simp, c.cut⟩
  · by_cases e : q = g
    · subst e
      have := ho.2.2.1
      rw [hS] at this
      exact absurd this (by decide)
    · by_cases e : q = g + 1
      · subst e
        have := ho.2.2.1
        rw [hS2] at this
        exact absurd this (by decide)
      · exact h.none_ q (by omega) o ho

theorem Lev.lower {f2 : Frame} {o2 : Nat} {ps : List Part} (h : Lev S I D f2 o2 o []) (hI : I.getD o false = false) (hS : S.getD o 0 = 123) (hM : (mAll S I).getD o 0 = (g : Int)) (hog : o < g) (ht : litText ps = some (sub S o (g + 1))) : Lev S I D { f2 with acc := f2.acc ++ ps } o2 (g + 1) [] := by
  have hlt := h.lt
  have h3 := h.text
  rw [oapp_nil] at h3
  refine ⟨by omega, ?_, ?_⟩
  · rw [unclosed_push, litText_append, h3, ht, oapp_nil, ← sub_cat S o2 o (g + 1) (by omega) (by omega)]
    rfl
  · rcases h.kind with ⟨a, b, c⟩ | ⟨seps, a, b, c⟩
    · exact Or.inl ⟨a, b, c.go (by omega)⟩
    · refine Or.inr ⟨seps, a.jump hI hS hM hog, b, ?_⟩
      have h4 := c.bytes (g2 := g + 1) (by omega)
      refine (h4.flush (acc2 := f2.acc ++ ps) ?_)
      rw [litText_append, ht]
      rfl
theorem Ok.cls {r : List Frame} (h : Ok S I D g [] st) (hs : st.stack = f :: r) (hg : g < S.length) (hI : I.getD g false = false) (hS : S.getD g 0 = 125) : Sim S I D (g + 1) [] (act .cls st) := by
  obtain ⟨o, os2, e1, e2, e3⟩ := chain_cons hs h.chain
  have hstk : (mrun S I g).1 = os2.reverse ++ [o] := by
    have := congrArg List.reverse e1
    simpa using this
  have hpop : PopAt S I g o := ⟨hg, hI, hS, os2.reverse, hstk⟩
  obtain ⟨s3, hs3, hm⟩ := mrun_pop S I hpop
  obtain rfl : s3 = os2.reverse := by
    rw [hstk] at hs3
    exact (List.append_inj_left' hs3 rfl).symm
  have hM := mAll_pop S I hpop
  obtain ⟨ho1, ho2, ho3⟩ := hpop.open_
  have ea : act .cls st = ({ st with stack := r } : St).push (closed f) := by
    unfold act
    rw [hs]
  have er : render (act .cls st) = unwind r st.top ++ closed f := by
    rw [ea, render_push]
    rfl
  have hlt := e2.lt
  rcases decide_ e2 (by omega) with ⟨d1, d2⟩ | ⟨d1, d2⟩
  · left
    refine ⟨by rw [er, litText_append, d1, oapp_none], (emits_iff S I D).2 ⟨g, o, hpop, d2⟩⟩
  · right
    have htx : litText (closed f) = some (sub S o (g + 1)) := by
      have h3 := e2.text
      rw [oapp_nil] at h3
      rw [d1, litText_append, litText_one, h3, ← sub_cat S o g (g + 1) (by omega) (by omega), sub_one S g hg, hS]
      rfl
    refine ⟨?_, ?_, fun q hq o2 hq2 => ?_⟩
    · rw [er, d1, ← List.append_assoc, ← stack_render hs]
      exact text_some h.some_
    · rw [hm, ea]
      simp only [List.reverse_reverse]
      cases r with
      | nil =>
        cases os2 with
        | nil => trivial
        | cons a b => exact absurd e3 id
      | cons f2 r2 =>
        cases os2 with
        | nil => exact absurd e3 id
        | cons o2 os3 => exact ⟨e3.1.lower ho2 ho3 hM ho1 htx, e3.2⟩
    · by_cases e : q = g
      · subst e
        obtain ⟨s4, h4⟩ := hq2.2.2.2
        rw [hstk] at h4
        have := List.append_inj_right' h4 rfl
        simp only [List.cons.injEq, and_true] at this
        rw [← this]
        exact d2
      · exact h.none_ q (by omega) o2 hq2
end
end Go.Proofs.YtpmmnlgkeanplaaDoor

namespace Go.Proofs.YtpmmnlgkeanplaaDoor
open Go.RowKit

/-- Where one string lies in the whole. -/
structure At (S : List UInt8) (I D : List Bool) (base : Nat) (b : List UInt8) : Prop where
  byte : ∀ j x, b[j]? = some x → S.getD (base + j) 0 = x
  len : base + b.length ≤ S.length
  cut : ∀ i j, i ≤ j → j ≤ b.length → (b.take j).drop i = sub S (base + i) (base + j)
  mark : ∀ j m d, (lex b)[j]? = some (m, d) → I.getD (base + j) false = m ∧ D.getD (base + j) false = d

theorem at_of (A b C : List UInt8) (LA LC : List (Bool × Bool)) (hA : LA.length = A.length) : At (A ++ (b ++ C)) ((LA ++ (lex b ++ LC)).map (·.1)) ((LA ++ (lex b ++ LC)).map (·.2)) A.length b := by
  refine ⟨fun j x h => ?_, by simp, fun i j hi hj => ?_, fun j m d h => ?_⟩
  · have hlt := (List.getElem?_eq_some_iff.1 h).1
    rw [List.getD_eq_getElem?_getD, List.getElem?_append_right (by omega), Nat.add_sub_cancel_left, List.getElem?_append_left hlt, h]
    rfl
  · unfold sub
    rw [List.take_length_add_append, List.drop_length_add_append, List.take_append_of_le_length hj]
  · have hlt := (List.getElem?_eq_some_iff.1 h).1
    have e : (LA ++ (lex b ++ LC))[A.length + j]? = some (m, d) := by
      rw [List.getElem?_append_right (by omega), hA, Nat.add_sub_cancel_left, List.getElem?_append_left hlt, h]
    rw [List.getD_eq_getElem?_getD, List.getD_eq_getElem?_getD, List.getElem?_map, List.getElem?_map, e]
    exact ⟨rfl, rfl⟩

section
variable {S : List UInt8} {I D : List Bool} {base : Nat} {v : ByteArray}
theorem bt_of {j : Nat} {x : UInt8} (h : v.data.toList[j]? = some x) : bt v j = x.toNat := by
  unfold bt
  rw [List.getD_eq_getElem?_getD, h]
  rfl
/-- The marks at a place that is reached. -/
theorem At.marks (hA : At S I D base v.data.toList) {j : Nat} {X : List (Bool × Bool)} (hX : LexTo v.data.toList j X) {x : UInt8} (hx : v.data.toList[j]? = some x) :
    (x.toNat = 92 → I.getD (base + j) false = true ∧ (j + 1 < v.data.toList.length → I.getD (base + j + 1) false = true)) ∧
    (x.toNat ≠ 92 → I.getD (base + j) false = false ∧ D.getD (base + j) false = (decide (x.toNat = 46) && decide (((v.data.toList[j + 1]?).getD 0).toNat = 46))) := by
  have hlt := (List.getElem?_eq_some_iff.1 hx).1
  have hXl : X.length = j := by have := hX.2; omega
  refine ⟨fun h92 => ?_, fun h92 => ?_⟩
  · by_cases hj : j + 1 < v.data.toList.length
    · have h2 := (hX.esc2 hx h92 hj).1
      have e1 : (lex v.data.toList)[j]? = some (true, false) := by
        rw [h2, List.append_assoc, List.append_assoc, List.getElem?_append_right (by omega), hXl, Nat.sub_self]
        rfl
      have e2 : (lex v.data.toList)[j + 1]? = some (true, false) := by
        rw [h2, List.append_assoc, List.append_assoc, List.getElem?_append_right (by omega), hXl, Nat.add_sub_cancel_left]
        rfl
      exact ⟨(hA.mark _ _ _ e1).1, fun _ => (hA.mark _ _ _ e2).1⟩
    · have h2 := (hX.esc1 hx h92 hj).1
      have e1 : (lex v.data.toList)[j]? = some (true, false) := by
        rw [h2, List.append_assoc, List.getElem?_append_right (by omega), hXl, Nat.sub_self]
        rfl
      exact ⟨(hA.mark _ _ _ e1).1, fun h => absurd h hj⟩
  · have h2 := (hX.one hx h92 rfl).1
    have e1 : (lex v.data.toList)[j]? = some (false, decide (x.toNat = 46) && decide (((v.data.toList[j + 1]?).getD 0).toNat = 46)) := by
      rw [h2, List.append_assoc, List.getElem?_append_right (by omega), hXl, Nat.sub_self]
      rfl
    exact hA.mark _ _ _ e1

theorem flush_none {st : St} {v : ByteArray} {last j : Nat} (h : litText (render st) = none) : litText (render (st.flush v last j)) = none := by
  unfold St.flush
  split
  · exact h
  · rw [render_push, litText_append, h]
    rfl
theorem run_none (v : ByteArray) : ∀ (n j last : Nat) (st : St), litText (render st) = none → litText (render (runB v n j last st).2) = none
  | 0, _, _, _, h => h
  | n + 1, j, last, st, h => by
    unfold runB
    split
    · rename_i hj
      rw [stepB_eq]
      cases ht : tokAt v j (hd st) with
      | none => exact run_none v n _ _ _ h
      | some t => exact run_none v n _ _ _ ((good_act (st := st.flush v last j) hj (by rw [flush_hd]; exact ht)).keeps (flush_none h))
    · exact h

theorem hd_none {st : St} (h : hd st = none) : st.stack = [] := by
  unfold hd at h
  split at h
  · assumption
  · cases h
theorem hd_some {st : St} {x : Bool × Bool} (h : hd st = some x) : ∃ f r, st.stack = f :: r ∧ x = (f.seq, f.done.isEmpty) := by
  unfold hd at h
  split at h
  · cases h
  · rename_i f r hs
    cases h
    exact ⟨f, r, hs, rfl⟩

theorem sim_run (hA : At S I D base v.data.toList) : ∀ (n j last : Nat) (st : St) (X : List (Bool × Bool)), LexTo v.data.toList j X → last ≤ j → last ≤ v.size → v.size ≤ j + n →
    Sim S I D (base + min j v.size) (sub S (base + last) (base + min j v.size)) st → Sim S I D (base + v.size) [] ((runB v n j last st).2.push [.lit (v.extract (runB v n j last st).1 v.size)]) := by
  have hbl : v.data.toList.length = v.size := by rw [Array.length_toList]; rfl
  have hlen := hA.len
  have ext : ∀ i j, i ≤ j → j ≤ v.size → (v.extract i j).data.toList = sub S (base + i) (base + j) := fun i j h1 h2 => by
    rw [toList_extract]
    exact hA.cut i j h1 (by omega)
  intro n
  have stop : ∀ (j last : Nat) (st : St), last ≤ v.size → v.size ≤ j → Ok S I D (base + min j v.size) (sub S (base + last) (base + min j v.size)) st → Ok S I D (base + v.size) [] (st.push [.lit (v.extract last v.size)]) := fun j last st h1 h2 h => by
    rw [Nat.min_eq_right h2] at h
    by_cases e : last = v.size
    · subst e
      have h4 : ∀ s : ByteArray, s.data.toList = [] → Ok S I D (base + v.size) [] st → Ok S I D (base + v.size) [] (st.push [.lit s]) := fun s hs h => by
        refine ⟨by rw [render_push]; exact text_some h.some_, ?_, h.none_⟩
        cases hst : st.stack with
        | nil =>
          have e2 := chain_nil hst h.chain
          have e3 : (st.push [.lit s]).stack = [] := by unfold St.push; rw [hst]
          rw [e2, e3]
          trivial
        | cons f r =>
          obtain ⟨o, os2, e1, e2, e3⟩ := chain_cons hst h.chain
          have e4 : (st.push [.lit s]).stack = { f with acc := f.acc ++ [.lit s] } :: r := by unfold St.push; rw [hst]
          rw [e4, e1]
          exact ⟨e2.flush hs, e3⟩
      rw [sub_self] at h
      exact h4 _ (by rw [ext _ _ (Nat.le_refl _) (Nat.le_refl _), sub_self]) h
    · have h3 := h.flush (v := v) (last := last) (j := v.size) (ext _ _ h1 (Nat.le_refl _)) (fun e2 => absurd e2 e)
      unfold St.flush at h3
      rw [if_neg e] at h3
      exact h3
  induction n with
  | zero =>
    intro j last st X hX hl hls hn hsim
    rcases hsim with ⟨a, b⟩ | h
    · left
      exact ⟨by rw [render_push, litText_append, run_none v 0 j last st a]; rfl, b⟩
    · exact Or.inr (stop j last st hls (by omega) h)
  | succ n ih =>
    intro j last st X hX hl hls hn hsim
    rcases hsim with ⟨a, b⟩ | h
    · left
      exact ⟨by rw [render_push, litText_append, run_none v (n + 1) j last st a]; rfl, b⟩
    by_cases hj : j < v.size
    · have er : runB v (n + 1) j last st = (match stepB v j last st with | (j', last', st') => runB v n j' last' st') := by
        conv => lhs; unfold runB
        rw [if_pos hj]
      rw [er, stepB_eq]
      rw [Nat.min_eq_left (by omega)] at h
      obtain ⟨x, hx⟩ := getE (l := v.data.toList) (k := j) (by omega)
      have hbt := bt_of hx
      have hSx := hA.byte j x hx
      obtain ⟨m1, m2⟩ := hA.marks hX hx
      have hcat : ∀ j2, j ≤ j2 → sub S (base + last) (base + j) ++ sub S (base + j) (base + j2) = sub S (base + last) (base + j2) := fun j2 h2 => sub_cat S _ _ _ (by omega) (by omega)
      cases ht : tokAt v j (hd st) with
      | none =>
        by_cases h92 : x.toNat = 92
        · have hn2 : nxt v j = j + 2 := by unfold nxt; rw [hbt, if_pos h92]
          obtain ⟨hI1, hI2⟩ := m1 h92
          show Sim S I D (base + v.size) [] ((runB v n (nxt v j) last st).2.push [.lit (v.extract (runB v n (nxt v j) last st).1 v.size)])
          rw [hn2]
          by_cases hj2 : j + 1 < v.size
          · refine ih (j + 2) last st _ (hX.esc2 hx h92 (by omega)) (by omega) hls (by omega) (Or.inr ?_)
            rw [Nat.min_eq_left (by omega), ← hcat (j + 2) (by omega)]
            have hI2' := hI2 (by omega)
            refine h.pass (by omega) ?_ (fun q h1 h2 o hp => ?_) (fun f r o seps _ a _ _ => ?_)
            · have e1 := mrun_inert S I hI1
              have e2 := mrun_inert S I hI2'
              show (mrun S I (base + j + 1 + 1)).1 = _
              rw [e2, e1]
            · have := hp.2.1
              by_cases e : q = base + j
              · rw [e, hI1] at this
                cases this
              · rw [show q = base + j + 1 by omega, hI2'] at this
                cases this
            · exact (a.inert hI1).inert hI2'
          · refine ih (j + 2) last st _ (hX.esc1 hx h92 (by omega)) (by omega) hls (by omega) (Or.inr ?_)
            have e3 : min (j + 2) v.size = j + 1 := by omega
            rw [e3, ← hcat (j + 1) (by omega)]
            refine h.pass (by omega) ?_ (fun q h1 h2 o hp => ?_) (fun f r o seps _ a _ _ => a.inert hI1)
            · exact congrArg Prod.fst (mrun_inert S I hI1)
            · have := hp.2.1
              rw [show q = base + j by omega, hI1] at this
              cases this
        · have hn2 : nxt v j = j + 1 := by unfold nxt; rw [hbt, if_neg h92]
          obtain ⟨hI1, hD1⟩ := m2 h92
          show Sim S I D (base + v.size) [] ((runB v n (nxt v j) last st).2.push [.lit (v.extract (runB v n (nxt v j) last st).1 v.size)])
          rw [hn2]
          refine ih (j + 1) last st _ (hX.one hx h92 rfl) (by omega) hls (by omega) (Or.inr ?_)
          rw [Nat.min_eq_left (by omega), ← hcat (j + 1) (by omega)]
          unfold tokAt at ht
          rw [hbt, if_neg h92] at ht
          have one : ∀ q, base + j ≤ q → q < base + (j + 1) → q = base + j := fun q h1 h2 => by omega
          by_cases h123 : x.toNat = 123
          · rw [if_pos h123] at ht
            cases ht
          rw [if_neg h123] at ht
          have hx123 : S.getD (base + j) 0 ≠ 123 := fun e => h123 (by rw [hSx] at e; rw [e]; rfl)
          by_cases h44 : x.toNat = 44
          · rw [if_pos h44] at ht
            have hst : st.stack = [] := hd_none (by cases hh : hd st with
              | none => rfl
              | some y => rw [hh] at ht; cases ht)
            have hx125 : S.getD (base + j) 0 ≠ 125 := fun e => by rw [hSx] at e; rw [e] at h44; exact absurd h44 (by decide)
            refine h.pass (by omega) (congrArg Prod.fst (mrun_other S I hx123 hx125)) (fun q h1 h2 o hp => ?_) (fun f r o seps hs _ _ _ => ?_)
            · rw [one q h1 h2] at hp
              exact hx125 hp.2.2.1
            · rw [hst] at hs
              cases hs
          rw [if_neg h44] at ht
          have hx44 : S.getD (base + j) 0 ≠ 44 := fun e => h44 (by rw [hSx] at e; rw [e]; rfl)
          by_cases h46 : x.toNat = 46
          · rw [if_pos h46] at ht
            have hx125 : S.getD (base + j) 0 ≠ 125 := fun e => by rw [hSx] at e; rw [e] at h46; exact absurd h46 (by decide)
            refine h.pass (by omega) (congrArg Prod.fst (mrun_other S I hx123 hx125)) (fun q h1 h2 o hp => ?_) (fun f r o seps hs a b c => ?_)
            · rw [one q h1 h2] at hp
              exact hx125 hp.2.2.1
            · by_cases hd2 : ((v.data.toList[j + 1]?).getD 0).toNat = 46
              · exfalso
                have hh : hd st = some (f.seq, f.done.isEmpty) := by unfold hd; rw [hs]
                rw [hh, Option.bind_some] at ht
                have hj2 : ¬ (v.size ≤ j + 1 ∨ bt v (j + 1) ≠ 46) := by
                  by_cases hj3 : j + 1 < v.size
                  · obtain ⟨y, hy⟩ := getE (l := v.data.toList) (k := j + 1) (by omega)
                    rw [hy] at hd2
                    rw [bt_of hy]
                    have : y.toNat = 46 := hd2
                    omega
                  · rw [List.getElem?_eq_none (by omega)] at hd2
                    exact absurd hd2 (by decide)
                rw [if_neg hj2] at ht
                split at ht
                · rename_i hq
                  have hseps : seps = [] := by
                    cases seps with
                    | nil => rfl
                    | cons a b2 =>
                      have := b.2 (by simp)
                      have hq1 : f.seq = false := hq.1
                      rw [hq1] at this
                      cases this
                  subst hseps
                  have hq2 : f.done.isEmpty = false := hq.2
                  have h5 := c.2.1
                  rw [h5] at hq2
                  exact absurd hq2 (by decide)
                · cases ht
              · refine a.plain hI1 hx123 hx44 ?_
                rw [hD1, decide_eq_false hd2, Bool.and_false]
          rw [if_neg h46] at ht
          have hDf : D.getD (base + j) false = false := by rw [hD1]; simp [h46]
          by_cases h125 : x.toNat = 125
          · rw [if_pos h125] at ht
            have hst : st.stack = [] := hd_none (by cases hh : hd st with
              | none => rfl
              | some y => rw [hh] at ht; cases ht)
            have hx125 : S.getD (base + j) 0 = 125 := by rw [hSx]; exact UInt8.toNat_inj.1 h125
            have hms : (mrun S I (base + j)).1 = [] := by
              have := chain_nil hst h.chain
              simpa using this
            refine h.pass (by omega) (congrArg Prod.fst (mrun_empty S I hx125 hms)) (fun q h1 h2 o hp => ?_) (fun f r o seps hs _ _ _ => ?_)
            · rw [one q h1 h2] at hp
              obtain ⟨s, hs⟩ := hp.2.2.2
              rw [hms] at hs
              simp at hs
            · rw [hst] at hs
              cases hs
          · have hx125 : S.getD (base + j) 0 ≠ 125 := fun e => h125 (by rw [hSx] at e; rw [e]; rfl)
            refine h.pass (by omega) (congrArg Prod.fst (mrun_other S I hx123 hx125)) (fun q h1 h2 o hp => ?_) (fun f r o seps _ a _ _ => a.plain hI1 hx123 hx44 hDf)
            rw [one q h1 h2] at hp
            exact hx125 hp.2.2.1
      | some t =>
        obtain ⟨f1, f2, f3, f4⟩ := tokAt_fits hj ht
        have hfl : Ok S I D (base + j) [] (st.flush v last j) := h.flush (ext last j hl (by omega)) (fun e => by rw [e, sub_self])
        have hz : 0 < t.txt.size := by cases t <;> decide
        have hb0 : bt v j = bt t.txt 0 := (f2 0 hz).symm
        have hx92 : x.toNat ≠ 92 := by
          rw [← hbt, hb0]
          cases t <;> decide
        obtain ⟨hI1, hD1⟩ := m2 hx92
        show Sim S I D (base + v.size) [] ((runB v n (j + t.txt.size) (j + t.txt.size) (act t (st.flush v last j))).2.push [.lit (v.extract (runB v n (j + t.txt.size) (j + t.txt.size) (act t (st.flush v last j))).1 v.size)])
        have key : ∀ X', LexTo v.data.toList (j + t.txt.size) X' → Sim S I D (base + (j + t.txt.size)) [] (act t (st.flush v last j)) → Sim S I D (base + v.size) [] ((runB v n (j + t.txt.size) (j + t.txt.size) (act t (st.flush v last j))).2.push [.lit (v.extract (runB v n (j + t.txt.size) (j + t.txt.size) (act t (st.flush v last j))).1 v.size)]) := fun X' hX' hs => ih _ _ _ X' hX' (Nat.le_refl _) (by omega) (by omega) (by rw [Nat.min_eq_left (by omega), sub_self]; exact hs)
        have hstk : t ≠ .opn → ∃ f r, (st.flush v last j).stack = f :: r ∧ hd st = some (f.seq, f.done.isEmpty) := fun hne => by
          rcases f3 with e | e
          · exact absurd e hne
          · rw [← flush_hd st v last j] at e
            cases hh : hd (st.flush v last j) with
            | none => exact absurd hh e
            | some y =>
              obtain ⟨f, r, h1, h2⟩ := hd_some hh
              exact ⟨f, r, h1, by rw [← flush_hd st v last j, hh, h2]⟩
        have hSt : S.getD (base + j) 0 = x := hSx
        cases t with
        | opn =>
          have e : x = 123 := UInt8.toNat_inj.1 (by rw [← hbt, hb0]; decide)
          exact key _ (hX.one hx hx92 rfl) (Or.inr (hfl.opn (by omega) hI1 (by rw [hSt, e])))
        | com =>
          obtain ⟨f, r, h1, h2⟩ := hstk (by simp)
          have e : x = 44 := UInt8.toNat_inj.1 (by rw [← hbt, hb0]; decide)
          exact key _ (hX.one hx hx92 rfl) (Or.inr (hfl.com h1 (by omega) hI1 (by rw [hSt, e])))
        | cls =>
          obtain ⟨f, r, h1, h2⟩ := hstk (by simp)
          have e : x = 125 := UInt8.toNat_inj.1 (by rw [← hbt, hb0]; decide)
          exact key _ (hX.one hx hx92 rfl) (hfl.cls h1 (by omega) hI1 (by rw [hSt, e]))
        | dts =>
          obtain ⟨f, r, h1, h2⟩ := hstk (by simp)
          have e : x = 46 := UInt8.toNat_inj.1 (by rw [← hbt, hb0]; decide)
          have f1' : j + 2 ≤ v.size := f1
          obtain ⟨y, hy⟩ := getE (l := v.data.toList) (k := j + 1) (by omega)
          have hy46 : y.toNat = 46 := by
            have h3 := f2 1 (by decide)
            rw [bt_of hy] at h3
            rw [← h3]
            decide
          have ey : y = 46 := UInt8.toNat_inj.1 hy46
          have hf : f.seq = true ∨ f.done = [] := by
            rcases f4 rfl _ h2 with h5 | h5
            · exact Or.inl h5
            · exact Or.inr (List.isEmpty_iff.1 h5)
          have hX1 := hX.one hx hx92 rfl
          have hX2 := hX1.one hy (by rw [hy46]; decide) rfl
          refine key _ hX2 (Or.inr (hfl.dts h1 hf (by omega) hI1 (by rw [hSt, e]) (by have := hA.byte (j + 1) y hy; rw [← ey]; exact this) ?_))
          rw [hD1, hy]
          simp [e, ey]
    · have er : runB v (n + 1) j last st = (last, st) := by
        unfold runB
        rw [if_neg hj]
      rw [er]
      exact Or.inr (stop j last st hls (by omega) h)
end

theorem sim_parts (ss : List ByteArray) : ∀ (post pre : List ByteArray) (st : St), ss = pre ++ post → Sim (allB ss) (allI ss) (allD ss) (allB pre).length [] st → Sim (allB ss) (allI ss) (allD ss) (allB ss).length [] ((post.map Part.lit).foldl stepP st)
  | [], pre, st, he, h => by
    rw [List.append_nil] at he
    subst he
    exact h
  | s :: post, pre, st, he, h => by
    have hA : At (allB ss) (allI ss) (allD ss) (allB pre).length s.data.toList := by
      have e1 : allB ss = allB pre ++ (s.data.toList ++ allB post) := by rw [he]; simp [allB]
      have e2 : allL ss = allL pre ++ (lex s.data.toList ++ allL post) := by rw [he]; simp [allL]
      have := at_of (allB pre) s.data.toList (allB post) (allL pre) (allL post) (allL_len pre)
      rw [← e1, ← e2] at this
      exact this
    have h1 := sim_run hA (s.size + 1) 0 0 st [] (LexTo.start _) (Nat.le_refl _) (Nat.zero_le _) (by omega) (by rw [Nat.zero_min, Nat.add_zero, sub_self]; exact h)
    rw [← stepP_lit] at h1
    have e3 : (allB (pre ++ [s])).length = (allB pre).length + s.size := by
      have : s.data.size = s.size := rfl
      simp [allB, this]
    rw [← e3] at h1
    exact sim_parts ss post (pre ++ [s]) (stepP st (.lit s)) (by rw [he]; simp) h1

/-- The model's answer, and the splitter's. -/
theorem model_fits (ss : List ByteArray) : emitsM (allB ss) (allI ss) (allD ss) (mAll (allB ss) (allI ss)) = true ↔ litText (split (ss.map Part.lit)) = none := by
  have e0 : render ⟨[], []⟩ = [] := by
    show unwind [] [] = []
    rw [unwind]
  have h := sim_parts ss ss [] ⟨[], []⟩ rfl (Or.inr ⟨by rw [e0]; simp [litText], trivial, fun q hq => by simp [allB] at hq⟩)
  have e1 : split (ss.map Part.lit) = render ((ss.map Part.lit).foldl stepP ⟨[], []⟩) := rfl
  rw [e1]
  rcases h with ⟨a, b⟩ | h
  · exact ⟨fun _ => a, fun _ => b⟩
  · refine ⟨fun he => ?_, fun hn => absurd hn h.some_⟩
    obtain ⟨q, o, h1, h2⟩ := (emits_iff _ _ _).1 he
    have := h.none_ q h1.1 o h1
    rw [h2] at this
    cases this
end Go.Proofs.YtpmmnlgkeanplaaDoor

namespace Go.Proofs.YtpmmnlgkeanplaaDoor
open Go.RowKit

theorem join_conv {w : World} {base n : Nat} {v : Value} {l : List UInt8} (h : w.ownsRow base 5 1 v n (Lib.byteCells l)) : (convert 42 9 v).run Tryd.prog w = .ok (.string ⟨l.toArray⟩) w := by
  have hl := h.1
  rw [Lib.byteCells_length, Nat.mul_one] at hl
  rcases h.2 with ⟨rfl, rfl⟩ | ⟨g, cap, cur, rfl, _, hg, _, _, _, htk⟩
  · have : l = [] := List.length_eq_zero_iff.1 hl
    subst this
    exact Lib.run_convert_nil_bytes w _ _ _ 0 Tryd.underlying42 Tryd.underlying5 Tryd.underlying9
  · subst hl
    exact run_convert_bytes_back w _ _ _ ⟨g, 0, none⟩ cap l Tryd.underlying42 Tryd.underlying5 Tryd.underlying9 (Lib.bytes_of_row hg (by simpa using htk))

set_option maxRecDepth 100000 in
set_option maxHeartbeats 2000000 in
theorem join_any (v : Value) (ss : List ByteArray) (w : World) (hl : tot ss ≤ 8192) (h : StrsAt w v ss) :
    Calls Tryd.prog 8 #[v] w fun e w' => e = .returned (.string ⟨(allB ss).toArray⟩) ∧ Below w.heap.size w w' := by
  obtain ⟨ib, hib, hb0, hb1, hb2⟩ := info_parts info_byte
  have htot := allB_tot ss
  have hlen := sz_length (ss.map Part.lit)
  have hszl := sz_lits ss
  rw [List.length_map] at hlen
  obtain ⟨ao, cap, rfl, hc⟩ := h
  have HC := Lib.hid hc
  have hlz : (0 : Int) ≤ (ss.length : Int) ∧ (ss.length : Int) ≤ 8192 := by omega
  obtain ⟨n, hn⟩ : ∃ n, (allB ss).length = n := ⟨_, rfl⟩
  have HN := Lib.hid hn
  have hnz : (0 : Int) ≤ (n : Int) ∧ (n : Int) ≤ 8192 := by omega
  clear hc hl htot hlen hszl hn
  go_enter Tryd.func8, Tryd.ntmps8
  go_wp2
  go_loopg [3, 4] ss.length (fun gk s3 s4 wr => ∃ k, w = wr ∧ k ≤ ss.length ∧ gk = ss.length - k ∧ s3 = .int .i64 ((allB (ss.take k)).length : Int) ∧ s4 = .int .i64 (k : Int))
  case atStart => exact ⟨0, rfl, Nat.zero_le _, rfl, rfl, rfl⟩
  case round =>
    obtain ⟨k, rfl, hk, rfl, rfl, rfl⟩ := hrel
    have hle := allB_le ss k
    have hlez : ((allB (ss.take k)).length : Int) ≤ 8192 := by have := HN.out; omega
    by_cases hlt : k < ss.length
    · have hkz : (k : Int) < (ss.length : Int) := by omega
      obtain ⟨b, off, ha, _, hcell⟩ := some_str HC.out hlt
      subst ha
      have ht := congrArg List.length (allB_take ss k hlt)
      have hle2 := allB_le ss (k + 1)
      rw [List.length_append, Array.length_toList] at ht
      generalize ss.getD k ByteArray.empty = s at hcell ht
      have ht2 : (allB (ss.take (k + 1))).length = (allB (ss.take k)).length + s.size := ht
      have hsz : (allB (ss.take k)).length + s.size ≤ 8192 := by have := HN.out; omega
      have HT := Lib.hid ht2
      clear ht ht2 hle2 hle
      generalize (allB (ss.take k)).length = x at *
      have hsz2 : (x : Int) + (s.size : Int) ≤ 8192 ∧ (0 : Int) ≤ (s.size : Int) := by omega
      go_wp2
      go_roundg (ss.length - (k + 1))
      case measure => omega
      case rel => exact ⟨k + 1, rfl, by omega, rfl, by rw [HT.out]; first | rfl | simp, by first | rfl | simp⟩
    · obtain rfl : k = ss.length := by omega
      rw [List.take_length, HN.out]
      clear hle hlez
      go_wp2_with (at_make; refine wpList_make_own _ rfl _ _ 42 rfl w.heap.size 5 ib (.int .u8 0) 1 Tryd.underlying42 hib hb0 hb1 _ _ _ n rfl rfl (by omega) (by rw [hb2]; omega) (by unfold maxLen; omega) (Nat.le_refl _) ?_; intro w1 hown1 hgrow1; have HB1 := Lib.hid (And.intro hown1 ((Below.refl w.heap.size w).grown hgrow1 (Nat.le_refl _) (fun k hk => by cases hk))); clear hown1 hgrow1)
      go_loopg [5, 6] ss.length (fun gk s5 s6 wr => ∃ q sa sn sc, q ≤ ss.length ∧ gk = ss.length - q ∧ s5 = .slice sa sn sc ∧ s6 = .int .i64 (q : Int) ∧ wr.ownsRow w.heap.size 5 1 (.slice sa sn sc) (allB (ss.take q)).length (Lib.byteCells (allB (ss.take q))) ∧ Below w.heap.size w wr)
      case atStart => exact ⟨0, _, _, _, Nat.zero_le _, rfl, rfl, rfl, HB1.out.1, HB1.out.2⟩
      case round =>
        clear HB1
        rename World => w4
        obtain ⟨q, sa, sn, sc, hq, rfl, rfl, rfl, hown, hb⟩ := hrel
        have HO := Lib.hid hown
        have HB := Lib.hid hb
        have hz := hb.size
        have HZ := Lib.hid hz
        have hle := allB_le ss q
        rw [HN.out] at hle
        clear hown hz
        by_cases hlt : q < ss.length
        · have hkz : (q : Int) < (ss.length : Int) := by omega
          obtain ⟨b, off, ha, hbl, hck⟩ := some_str HC.out hlt
          subst ha
          have hcell := (hb.cell (p := ⟨b, off + q, none⟩) hbl).trans hck
          have HTB := Lib.hid (allB_take ss q hlt)
          have hle2 := allB_le ss (q + 1)
          rw [HTB.out, HN.out, List.length_append, Array.length_toList] at hle2
          clear hck hbl hb
          generalize ss.getD q ByteArray.empty = s at *
          generalize allB (ss.take q) = SB at *
          have hfit : SB.length + s.size ≤ n := hle2
          have hbl : s.data.toList.length = s.size := by rw [Array.length_toList]; rfl
          have HBL := Lib.hid hbl
          clear hle2 hle hbl
          go_wp2_with (at_builtin; refine Lib.wpList_append_own_string _ rfl _ _ 42 9 rfl w.heap.size 5 ib Tryd.underlying42 Tryd.underlying9 hib hb0 hb1 hb2 _ _ _ rfl HO.out s rfl (by unfold maxLen; omega) (by omega) HZ.out ?_; intro v6 w6 hown6 hgrow6 _; have HB6 := Lib.hid (HB.out.grown hgrow6 HZ.out (fun j hj => (own_byte HO.out hj).1)); obtain ⟨sa6, sn6, sc6, hv6⟩ := own_slice' hown6; subst hv6; have HO6 := Lib.hid hown6; clear hown6 hgrow6)
          go_roundg (ss.length - (q + 1))
          case measure => omega
          case rel => exact ⟨q + 1, sa6, sn6, sc6, by omega, rfl, rfl, by first | rfl | simp, by
            rw [HTB.out, List.length_append, HBL.out, Lib.byteCells_append]
            exact HO6.out, HB6.out⟩
        · obtain rfl : q = ss.length := by omega
          rw [List.take_length] at HO
          have hcv := join_conv HO.out
          clear hle hb
          go_wp2
          go_ret
          exact ⟨rfl, HB.out⟩

theorem tot_le : ∀ (ss : List ByteArray) (k : Nat), tot (ss.take k) ≤ tot ss
  | [], k => by simp [tot]
  | s :: r, 0 => by simp [tot]
  | s :: r, k + 1 => by
    have := tot_le r k
    simp only [List.take_succ_cons, tot]
    omega
theorem any_holds : ∀ ss : List ByteArray, (ss.map Part.lit).any holds = ss.any fun s => s.data.toList.contains 123
  | [] => rfl
  | s :: r => by
    rw [List.map_cons, List.any_cons, List.any_cons, any_holds r]
    rfl
set_option maxRecDepth 100000 in
set_option maxHeartbeats 2000000 in
theorem hasOpen_any (v : Value) (ss : List ByteArray) (w : World) (hl : tot ss ≤ 8192) (h : StrsAt w v ss) :
    Calls Tryd.prog 11 #[v] w fun e w' => e = .returned (.bool ((ss.map Part.lit).any holds)) ∧ w = w' := by
  have hlen := sz_length (ss.map Part.lit)
  have hszl := sz_lits ss
  rw [List.length_map] at hlen
  have HSZ := Lib.hid (fun k (hk : k < ss.length) => show (ss.getD k ByteArray.empty).size ≤ 8192 from by
    have h1 := tot_take ss k hk
    have h2 : tot (ss.take (k + 1)) ≤ tot ss := tot_le ss (k + 1)
    omega)
  have HANY := Lib.hid (any_holds ss)
  obtain ⟨ao, cap, rfl, hc⟩ := h
  have HC := Lib.hid hc
  have hlz : (0 : Int) ≤ (ss.length : Int) ∧ (ss.length : Int) ≤ 8192 := by omega
  clear hc hl hlen hszl
  go_enter Tryd.func11, Tryd.ntmps11
  go_wp2
  go_loopg [3] ss.length (fun gk s3 wr => ∃ k, w = wr ∧ k ≤ ss.length ∧ gk = ss.length - k ∧ s3 = .int .i64 (k : Int) ∧ Hid (∀ j, j < k → (ss.getD j ByteArray.empty).data.toList.contains 123 = false))
  case atStart => exact ⟨0, rfl, Nat.zero_le _, rfl, rfl, Lib.hid (fun j h => by omega)⟩
  case round =>
    obtain ⟨k, rfl, hk, rfl, rfl, HNO⟩ := hrel
    by_cases hlt : k < ss.length
    · have hkz : (k : Int) < (ss.length : Int) := by omega
      obtain ⟨b, off, ha, _, hcell⟩ := some_str HC.out hlt
      subst ha
      have hsz := HSZ.out k hlt
      have HMEM := Lib.hid (show ss.getD k ByteArray.empty ∈ ss from by
        rw [List.getD_eq_getElem?_getD, List.getElem?_eq_getElem hlt]
        exact List.getElem_mem hlt)
      generalize hs : ss.getD k ByteArray.empty = s at *
      have HS := Lib.hid hs
      clear hs
      have hsz2 : (0 : Int) ≤ (s.size : Int) ∧ (s.size : Int) ≤ 8192 := by omega
      go_wp2
      go_loopg [5] s.size (fun gk s5 wr => ∃ i, w = wr ∧ i ≤ s.size ∧ gk = s.size - i ∧ s5 = .int .i64 (i : Int) ∧ Hid (∀ j, j < i → bt s j ≠ 123))
      case atStart => exact ⟨0, rfl, Nat.zero_le _, rfl, rfl, Lib.hid (fun j h => by omega)⟩
      case round =>
        obtain ⟨i, rfl, hi, rfl, rfl, HNI⟩ := hrel
        by_cases hlt2 : i < s.size
        · have hiz : (i : Int) < (s.size : Int) := by omega
          obtain ⟨x, hx⟩ : ∃ x : Nat, bt s i = x := ⟨_, rfl⟩
          have hg : (s[i]'hlt2).toNat = x := by rw [← bt_get s i hlt2]; exact hx
          have HX := Lib.hid hx
          clear hx
          by_cases h123 : x = 123
          · have z : ((x : Int) == 123) = true := by rw [h123]; rfl
            have HR : Hid ((ss.map Part.lit).any holds = true) := Lib.hid (by
              rw [HANY.out, List.any_eq_true]
              exact ⟨s, HMEM.out, (has_iff s).2 ⟨i, hlt2, by rw [HX.out]; exact h123⟩⟩)
            go_wp2
            go_ret
            exact ⟨by rw [HR.out]; first | rfl | simp, rfl⟩
          · have z : ((x : Int) == 123) = false := beq_eq_false_iff_ne.2 (by omega)
            go_wp2
            go_roundg (s.size - (i + 1))
            case measure => omega
            case rel => exact ⟨i + 1, rfl, by omega, rfl, by first | rfl | simp, Lib.hid (fun j hj => by
              by_cases e : j = i
              · rw [e, HX.out]
                exact h123
              · exact HNI.out j (by omega))⟩
        · obtain rfl : i = s.size := by omega
          have HCF : Hid (s.data.toList.contains 123 = false) := Lib.hid (by
            cases hcc : s.data.toList.contains 123 with
            | false => rfl
            | true =>
              obtain ⟨j, h1, h2⟩ := (has_iff s).1 hcc
              exact absurd h2 (HNI.out j h1))
          go_wp2
          go_roundg (ss.length - (k + 1))
          case measure => omega
          case rel => exact ⟨k + 1, rfl, by omega, rfl, by first | rfl | simp, Lib.hid (fun j hj => by
            by_cases e : j = k
            · rw [e, HS.out]
              exact HCF.out
            · exact HNO.out j (by omega))⟩
    · obtain rfl : k = ss.length := by omega
      have HR : Hid ((ss.map Part.lit).any holds = false) := Lib.hid (by
        rw [HANY.out, ← Bool.not_eq_true, List.any_eq_true]
        rintro ⟨s, h1, h2⟩
        obtain ⟨j, hj⟩ := List.getElem?_of_mem h1
        have := HNO.out j (List.getElem?_eq_some_iff.1 hj).1
        rw [List.getD_eq_getElem?_getD, hj] at this
        simp only [Option.getD_some] at this
        rw [this] at h2
        cases h2)
      go_wp2
      go_ret
      exact ⟨by rw [HR.out]; first | rfl | simp, rfl⟩
end Go.Proofs.YtpmmnlgkeanplaaDoor

namespace Go.Proofs.YtpmmnlgkeanplaaDoor
open Go.RowKit

/-- What the law wants the word to read as. -/
noncomputable def wantOf (ss : List ByteArray) : ByteArray := if emitsM (allB ss) (allI ss) (allD ss) (mAll (allB ss) (allI ss)) = true then ⟨#[]⟩ else ⟨(allB ss).toArray⟩
theorem litText_lits_all : ∀ ss : List ByteArray, litText (ss.map Part.lit) = some (allB ss)
  | [] => rfl
  | s :: r => by
    have h := litText_lits_all r
    simp only [List.map_cons, litText, h, Option.map_some]
    rfl
theorem want_yes (ss : List ByteArray) : litOf (split (ss.map Part.lit)) = wantOf ss := by
  unfold wantOf
  by_cases h : emitsM (allB ss) (allI ss) (allD ss) (mAll (allB ss) (allI ss)) = true
  · rw [if_pos h, litOf, (model_fits ss).1 h]
    rfl
  · rw [if_neg h]
    rcases (split_text (ss.map Part.lit)).1 with h2 | h2
    · exact absurd ((model_fits ss).2 h2) h
    · rw [litOf, h2, litText_lits_all]
      rfl
theorem want_no (ss : List ByteArray) (h : (ss.map Part.lit).any holds = false) : litOf (ss.map Part.lit) = wantOf ss := by
  unfold wantOf
  have he : ¬ emitsM (allB ss) (allI ss) (allD ss) (mAll (allB ss) (allI ss)) = true := fun he => by
    obtain ⟨q, o, h1, h2⟩ := (emits_iff _ _ _).1 he
    obtain ⟨a, b, c⟩ := h1.open_
    have hlt : o < (allB ss).length := by have := h1.1; omega
    rw [List.getD_eq_getElem?_getD, List.getElem?_eq_getElem hlt] at c
    have hm : (123 : UInt8) ∈ allB ss := by
      have e : (allB ss)[o] = 123 := c
      rw [← e]
      exact List.getElem_mem hlt
    unfold allB at hm
    obtain ⟨s, hs1, hs2⟩ := List.mem_flatMap.1 hm
    rw [any_holds, ← Bool.not_eq_true, List.any_eq_true] at h
    exact h ⟨s, hs1, by rw [List.contains_iff_mem]; exact hs2⟩
  rw [if_neg he, litOf, litText_lits_all]
  rfl

set_option maxRecDepth 100000 in
set_option maxHeartbeats 2000000 in
theorem lawM_big (v : Value) (ss : List ByteArray) (w : World) (hl : ss.length ≤ maxLen) (hs : ∀ i, i < ss.length → (ss.getD i ByteArray.empty).size ≤ maxLen) (h : StrsAt w v ss) (hb : ¬ tot ss ≤ 8192) :
    Calls Tryd.prog 3 #[v] w fun e w' => e = .returned (.bool true) ∧ Below w.heap.size w w' := by
  have HY := Lib.hid (bytesM_any v ss w hl hs h)
  have HT := Lib.hid (tooBig_any v ss w hl hs h)
  have HB := Lib.hid hb
  clear hb hs hl
  obtain ⟨ao, cap, rfl, hc⟩ := h
  clear hc
  go_enter Tryd.func3, Tryd.ntmps3
  go_wp2_with (first
    | (go_at_call 5; refine (HY.out).mono ?_; rintro e w' ⟨b, rfl, rfl⟩; cases b)
    | (go_at_call 6; refine (HT.out).mono ?_; rintro e w' ⟨b, rfl, rfl, hb⟩; obtain rfl : b = true := (by cases b; exact absurd (hb rfl) HB.out; rfl)))
  all_goals (go_ret; exact ⟨rfl, Below.refl _ _⟩)

set_option maxRecDepth 100000 in
set_option maxHeartbeats 2000000 in
theorem lawM_small (v : Value) (ss : List ByteArray) (w : World) (hl : ss.length ≤ maxLen) (hs : ∀ i, i < ss.length → (ss.getD i ByteArray.empty).size ≤ maxLen) (h : StrsAt w v ss) (hb : tot ss ≤ 8192) (hE : Errs w) :
    Calls Tryd.prog 3 #[v] w fun e w' => e = .returned (.bool true) ∧ Below w.heap.size w w' := by
  have HY := Lib.hid (bytesM_any v ss w hl hs h)
  have HT := Lib.hid (tooBig_any v ss w hl hs h)
  have hz := sz_lits ss
  have hlen := sz_length (ss.map Part.lit)
  have hsp := sz_split (ss.map Part.lit)
  rw [List.length_map] at hlen hsp
  have HBU := Lib.hid (build_any v ss w (by omega) h)
  have HTOT := Lib.hid hb
  have HH := Lib.hid h
  have HE := Lib.hid hE
  have HE12 := Lib.hid (show 0 < w.heap.size ∧ 1 < w.heap.size from by
    obtain ⟨⟨e1, a1, b1⟩, ⟨e2, a2, b2⟩⟩ := hE
    exact ⟨World.block_lt_of_cell? w _ a1, World.block_lt_of_cell? w _ a2⟩)
  have HZ := Lib.hid (show sz (ss.map Part.lit) ≤ 8192 ∧ ss.length ≤ 8192 ∧ sz (split (ss.map Part.lit)) ≤ 1000000 by omega)
  clear hb hs hl hz hlen hsp hE
  obtain ⟨b1, hb1⟩ : ∃ b1, (ss.map Part.lit).any holds = b1 := ⟨_, rfl⟩
  obtain ⟨eb, heb⟩ : ∃ eb, emitsM (allB ss) (allI ss) (allD ss) (mAll (allB ss) (allI ss)) = eb := ⟨_, rfl⟩
  have HB1 := Lib.hid hb1
  have HEB := Lib.hid heb
  clear hb1 heb
  have HW : Hid (wantOf ss = if eb = true then ⟨#[]⟩ else ⟨(allB ss).toArray⟩) := Lib.hid (by unfold wantOf; rw [HEB.out])
  obtain ⟨ao, cap, rfl, hc⟩ := h
  clear hc
  go_enter Tryd.func3, Tryd.ntmps3
  go_wp2_with (first
    | (go_at_call 5; refine (HY.out).mono ?_; rintro e w' ⟨b, rfl, rfl⟩; cases b)
    | (go_at_call 6; refine (HT.out).mono ?_; rintro e w' ⟨b, rfl, rfl, hb⟩; clear hb; cases b))
  all_goals first | (go_ret; exact ⟨rfl, Below.refl _ _⟩) | skip
  go_upto_region 6 with (go_at_call 7; refine (HBU.out).mono ?_; rintro e w1 ⟨ls, pv, rfl, hmk, hls⟩; have HM := Lib.hid (And.intro hmk hls); clear hmk hls)
  go_upto_region 7 with (go_at_call 8; refine (join_any _ ss w1 HTOT.out (HH.out.below HM.out.1.bel)).mono ?_; rintro e w2 ⟨rfl, hb2⟩; have HB2 := Lib.hid hb2; clear hb2)
  have HEM := Lib.hid (emits_any _ ss w2 HTOT.out (HH.out.below (HM.out.1.bel.trans (HB2.out.mono HM.out.1.bel.size))))
  have HEB2 : Hid (emitsM (allB ss) (allI ss) (allD ss) (mrun (allB ss) (allI ss) (allB ss).length).2 = eb) := HEB
  rw [HEB2.out] at HEM
  clear HEB2
  cases eb
  all_goals
    go_upto_region 9 with (go_at_call 9; refine (HEM.out).mono ?_; rintro e w3 ⟨rfl, hb3⟩; have HB3 := Lib.hid (HB2.out.trans (hb3.mono HB2.out.size)); clear hb3)
    have HWD3 := Lib.hid ((HM.out.1.wd HM.out.2).below HB3.out)
    have hb03 := HM.out.1.bel.trans (HB3.out.mono HM.out.1.bel.size)
    have HB03 := Lib.hid hb03
    have HSP := Lib.hid (split_any w.heap.size w3 HWD3.out (by rw [List.length_map]; have := HZ.out; omega) (HE.out.below hb03 HE12.out.1 HE12.out.2))
    rw [HB1.out] at HSP
    clear hb03
    go_upto_region 10 with (go_at_call 10; refine (HSP.out).mono ?_; rintro e w4 ⟨ps1, rfl, hwd4, hkp4, hor4⟩; have HS4 := Lib.hid (And.intro hwd4 (And.intro hkp4 hor4)); clear hwd4 hkp4 hor4)
    have hlt1 : w.heap.size < w3.heap.size := by
      have h1 := HM.out.1.size
      have h2 := HB3.out.size
      omega
    have HB04 := Lib.hid (HB03.out.trans (HS4.out.2.1.below hlt1))
    have HHO := Lib.hid (hasOpen_any _ ss w4 HTOT.out (HH.out.below HB04.out))
    rw [HB1.out] at HHO
    have hsz1 : sz ps1 ≤ 1000000 := by
      have := HZ.out
      rcases HS4.out.2.2 with ⟨_, rfl, _⟩ | ⟨_, rfl⟩ <;> omega
    have hlit : litOf ps1 = wantOf ss := by
      rcases HS4.out.2.2 with ⟨h1, rfl, _⟩ | ⟨h1, rfl⟩
      · exact want_no ss (HB1.out.trans h1)
      · exact want_yes ss
    rw [HW.out] at hlit
    have HLT := Lib.hid (wlit_any w.heap.size w4 HS4.out.1 (by omega))
    rw [hlit] at HLT
    clear hsz1 hlit hlt1
    cases b1
    all_goals
      go_wp2_with (first
        | (go_at_call 11; refine (HHO.out).mono ?_; rintro e w5 ⟨rfl, rfl⟩)
        | (go_at_call 12; refine (HLT.out).mono ?_; rintro e w6 ⟨rfl, hb6⟩; have HB6 := Lib.hid hb6; clear hb6))
      go_ret
      exact ⟨by first | rfl | simp, HB04.out.trans (HB6.out.mono HB04.out.size)⟩

theorem lawM_any (v : Value) (ss : List ByteArray) (w : World) (hl : ss.length ≤ maxLen) (hs : ∀ i, i < ss.length → (ss.getD i ByteArray.empty).size ≤ maxLen) (h : StrsAt w v ss) (hE : Errs w) :
    Calls Tryd.prog 3 #[v] w fun e w' => e = .returned (.bool true) ∧ Below w.heap.size w w' := by
  by_cases hb : tot ss ≤ 8192
  · exact lawM_small v ss w hl hs h hb hE
  · exact lawM_big v ss w hl hs h hb
end Go.Proofs.YtpmmnlgkeanplaaDoor
