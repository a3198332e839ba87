/-
  Which strings are an int64 in decimal: by their digits' value. No walk here.
  The law's own test for an int64 in decimal, and its two small companions.
  The law's zzIsInt64, zzAsciiLetter and zzKind at whatever bytes.
  The law's zzPairEmits: one matched pair of braces, decided by what lies between.
  The walk of the law's zzPairEmits.
-/
import Derived.Test.YtpmmnlgkeanplaaDoorGa
import Derived.Test.YtpmmnlgkeanplaaDoorGk
namespace Go.Proofs.YtpmmnlgkeanplaaDoor
open Go.RowKit

def isDig (c : UInt8) : Bool := decide (48 ≤ c.toNat) && decide (c.toNat ≤ 57)
def dval (acc : Nat) (l : List UInt8) : Nat := l.foldl (fun a c => a * 10 + (c.toNat - 48)) acc
theorem dval_nil (acc : Nat) : dval acc [] = acc := by simp only [dval, List.foldl_nil]
theorem dval_cons (acc : Nat) (c : UInt8) (r : List UInt8) : dval acc (c :: r) = dval (acc * 10 + (c.toNat - 48)) r := by simp only [dval, List.foldl_cons]
theorem dval_acc (l : List UInt8) : ∀ acc : Nat, dval acc l = acc * 10 ^ l.length + dval 0 l := by
  induction l with
  | nil =>
    intro acc
    rw [dval_nil, dval_nil, List.length_nil, Nat.pow_zero, Nat.mul_one, Nat.add_zero]
  | cons c r ih =>
    intro acc
    rw [dval_cons, ih, dval_cons, ih (0 * 10 + _), List.length_cons, Nat.pow_succ, Nat.add_mul, Nat.zero_mul, Nat.zero_add]
    rw [Nat.mul_assoc acc 10, Nat.mul_comm 10, Nat.add_assoc]
theorem dval_ge (l : List UInt8) (acc : Nat) : acc ≤ dval acc l := by
  rw [dval_acc]
  have h : 0 < 10 ^ l.length := Nat.pow_pos (by decide)
  have := Nat.le_mul_of_pos_right acc h
  exact Nat.le_trans this (Nat.le_add_right _ _)
theorem dval_lt (l : List UInt8) : l.all isDig = true → dval 0 l < 10 ^ l.length := by
  induction l with
  | nil =>
    intro _
    rw [dval_nil, List.length_nil, Nat.pow_zero]
    exact Nat.one_pos
  | cons c r ih =>
    intro h
    rw [List.all_cons, Bool.and_eq_true] at h
    have hr := ih h.2
    have hc : c.toNat - 48 ≤ 9 := by
      have := h.1
      simp only [isDig, Bool.and_eq_true, decide_eq_true_eq] at this
      omega
    rw [dval_cons, dval_acc, List.length_cons, Nat.pow_succ, Nat.zero_mul, Nat.zero_add]
    have := Nat.mul_le_mul_right (10 ^ r.length) hc
    generalize 10 ^ r.length = X at *
    omega
theorem dval_append (a b : List UInt8) : ∀ acc : Nat, dval acc (a ++ b) = dval (dval acc a) b := by
  induction a with
  | nil =>
    intro acc
    rw [List.nil_append, dval_nil]
  | cons c r ih =>
    intro acc
    rw [List.cons_append, dval_cons, ih, dval_cons]
/-- The first place that differs decides. -/
theorem dval_lex {p x y : List UInt8} {c d : UInt8} (hl : x.length = y.length) (hx : x.all isDig = true) (hc : isDig c = true) (hcd : c.toNat < d.toNat) : dval 0 (p ++ c :: x) < dval 0 (p ++ d :: y) := by
  rw [dval_append, dval_append, dval_cons, dval_cons, dval_acc x, dval_acc y, hl]
  have h1 := dval_lt x hx
  rw [hl] at h1
  simp only [isDig, Bool.and_eq_true, decide_eq_true_eq] at hc
  have h2 : dval 0 p * 10 + (c.toNat - 48) + 1 ≤ dval 0 p * 10 + (d.toNat - 48) := by omega
  have h3 := Nat.mul_le_mul_right (10 ^ y.length) h2
  rw [Nat.add_mul _ 1, Nat.one_mul] at h3
  generalize 10 ^ y.length = X at *
  omega

theorem parseUintM_ok (l : List UInt8) : ∀ (acc u : Nat), acc ≤ 18446744073709551615 → (Lib.parseUintM 18446744073709551615 acc l = .ok u ↔ (l.all isDig = true ∧ dval acc l ≤ 18446744073709551615 ∧ u = dval acc l)) := by
  induction l with
  | nil =>
    intro acc u ha
    simp only [Lib.parseUintM, List.all_nil, dval_nil, true_and]
    constructor
    · intro h
      cases h
      exact ⟨ha, rfl⟩
    · rintro ⟨_, rfl⟩
      rfl
  | cons c r ih =>
    intro acc u ha
    simp only [Lib.parseUintM, List.all_cons, dval_cons, Bool.and_eq_true]
    by_cases hd : 48 ≤ c.toNat ∧ c.toNat ≤ 57
    · have hdd : isDig c = true := by simp [isDig, hd]
      rw [if_pos hd]
      have hg := dval_ge r (acc * 10 + (c.toNat - 48))
      by_cases h1 : 1844674407370955162 ≤ acc
      · rw [if_pos h1]
        constructor
        · intro h
          cases h
        · rintro ⟨_, h, _⟩
          omega
      · rw [if_neg h1]
        by_cases h2 : 18446744073709551615 < acc * 10 + (c.toNat - 48)
        · rw [if_pos h2]
          constructor
          · intro h
            cases h
          · rintro ⟨_, h, _⟩
            omega
        · rw [if_neg h2, ih _ u (by omega)]
          simp [hdd]
    · rw [if_neg hd]
      have hdd : isDig c = false := by
        simp only [isDig, Bool.and_eq_false_iff, decide_eq_false_iff_not]
        omega
      constructor
      · intro h
        cases h
      · rintro ⟨⟨h, _⟩, _⟩
        rw [hdd] at h
        cases h

/-- An int64 in decimal, by its digits. -/
def intOk (l : List UInt8) : Bool := match l with
  | [] => false
  | c :: r =>
    let b := if c.toNat = 43 ∨ c.toNat = 45 then r else c :: r
    !b.isEmpty && b.all isDig && decide (dval 0 b ≤ if c.toNat = 45 then 9223372036854775808 else 9223372036854775807)

theorem isNum_eq (s : ByteArray) : isNum s = intOk s.data.toList := by
  unfold isNum
  generalize s.data.toList = l
  cases l with
  | nil => rfl
  | cons c r =>
    simp only [Lib.parseIntB, intOk]
    generalize hb : (if c.toNat = 43 ∨ c.toNat = 45 then r else c :: r) = b
    unfold Lib.parseUintB
    cases b with
    | nil => simp
    | cons d q =>
      rw [if_neg (by simp)]
      have e : (2 ^ 64 - 1 : Nat) = 18446744073709551615 := by decide
      have e2 : (2 ^ (64 - 1) : Nat) = 9223372036854775808 := by decide
      rw [e, e2]
      have key := parseUintM_ok (d :: q) 0
      rcases hp : Lib.parseUintM 18446744073709551615 0 (d :: q) with u | _ | _
      ·
        obtain ⟨h1, h2, h3⟩ := (key u (by decide)).1 hp
        subst h3
        simp only [h1, List.isEmpty_cons, Bool.not_false, Bool.true_and]
        by_cases hn : c.toNat = 45
        · simp only [hn, not_true, false_and, if_false, true_and, if_true]
          by_cases h4 : 9223372036854775808 < dval 0 (d :: q)
          · rw [if_pos h4]
            simp
            omega
          · rw [if_neg h4]
            simp
            omega
        · simp only [hn, not_false_iff, true_and, false_and, if_false]
          by_cases h4 : 9223372036854775808 ≤ dval 0 (d :: q)
          · rw [if_pos h4]
            simp
            omega
          · rw [if_neg h4]
            simp
            omega
      ·
        have h : ¬ ((d :: q).all isDig = true ∧ dval 0 (d :: q) ≤ 18446744073709551615) := fun h => by
          have := (key _ (by decide)).2 ⟨h.1, h.2, rfl⟩
          rw [hp] at this
          cases this
        symm
        simp only [Bool.and_eq_false_iff, List.isEmpty_cons, Bool.not_false, decide_eq_false_iff_not]
        by_cases ha : (d :: q).all isDig = true
        · right
          have : ¬ dval 0 (d :: q) ≤ 18446744073709551615 := fun k => h ⟨ha, k⟩
          split <;> omega
        · left
          right
          simpa using ha
      ·
        have h : ¬ ((d :: q).all isDig = true ∧ dval 0 (d :: q) ≤ 18446744073709551615) := fun h => by
          have := (key _ (by decide)).2 ⟨h.1, h.2, rfl⟩
          rw [hp] at this
          cases this
        symm
        simp only [Bool.and_eq_false_iff, List.isEmpty_cons, Bool.not_false, decide_eq_false_iff_not]
        by_cases ha : (d :: q).all isDig = true
        · right
          have : ¬ dval 0 (d :: q) ≤ 18446744073709551615 := fun k => h ⟨ha, k⟩
          split <;> omega
        · left
          right
          simpa using ha

/-- The greatest of the sign's numbers, digit by digit. -/
def limL (neg : Bool) : List UInt8 := [57, 50, 50, 51, 51, 55, 50, 48, 51, 54, 56, 53, 52, 55, 55, 53, 56, 48, if neg then 56 else 55]
theorem limL_len (neg : Bool) : (limL neg).length = 19 := rfl
theorem limL_dig (neg : Bool) : (limL neg).all isDig = true := by cases neg <;> decide
theorem limL_val (neg : Bool) : dval 0 (limL neg) = if neg then 9223372036854775808 else 9223372036854775807 := by cases neg <;> decide

theorem dval_zeros (l : List UInt8) : ∀ k : Nat, k ≤ l.length → (∀ j, j < k → l[j]? = some 48) → dval 0 l = dval 0 (l.drop k) := by
  induction l with
  | nil =>
    intro k hk _
    obtain rfl : k = 0 := by simpa using hk
    rfl
  | cons c r ih =>
    intro k hk hz
    cases k with
    | zero => rfl
    | succ k =>
      have h0 : c = 48 := by simpa using hz 0 (by omega)
      subst h0
      have := ih k (by simpa using hk) (fun j hj => by simpa using hz (j + 1) (by omega))
      rw [List.drop_succ_cons, ← this, dval_cons]
      rfl
/-- The comparison with the greatest number. -/
theorem cut_at {l : List UInt8} {j : Nat} {x : UInt8} (h : l[j]? = some x) : l = l.take j ++ x :: l.drop (j + 1) := by
  have hlt := (List.getElem?_eq_some_iff.1 h).1
  have hx := (List.getElem?_eq_some_iff.1 h).2
  conv => lhs; rw [← List.take_append_drop j l, List.drop_eq_getElem_cons hlt, hx]
theorem all_drop {l : List UInt8} (k : Nat) (h : l.all isDig = true) : (l.drop k).all isDig = true := by
  rw [List.all_eq_true] at h ⊢
  exact fun x hx => h x (List.mem_of_mem_drop hx)
theorem lex_less {D L : List UInt8} {j : Nat} {x y : UInt8} (hl : D.length = L.length) (hD : D.all isDig = true) (ht : D.take j = L.take j) (hx : D[j]? = some x) (hy : L[j]? = some y) (h : x.toNat < y.toNat) : dval 0 D < dval 0 L := by
  rw [cut_at hx, cut_at hy, ht]
  refine dval_lex (by simp [hl]) (all_drop _ hD) ?_ h
  rw [List.all_eq_true] at hD
  exact hD x (List.mem_of_getElem? hx)
end Go.Proofs.YtpmmnlgkeanplaaDoor

namespace Go.Proofs.YtpmmnlgkeanplaaDoor
open Go.RowKit

/-- Bytes that a slice holds. -/
def BytesAt (w : World) (v : Value) (l : List UInt8) : Prop := ∃ ao cap, v = .slice ao l.length cap ∧ (l ≠ [] → ∃ g off, ao = some ⟨g, off, none⟩ ∧ l.length ≤ cap ∧ g < w.heap.size ∧ ∀ (i : Nat) x, l[i]? = some x → w.cell? ⟨g, off + i, none⟩ = some (.int .u8 (x.toNat : Int)))
theorem BytesAt.below {w w' : World} {v : Value} {l : List UInt8} (h : BytesAt w v l) (hb : Below w.heap.size w w') : BytesAt w' v l := by
  obtain ⟨ao, cap, hv, hc⟩ := h
  refine ⟨ao, cap, hv, fun hl => ?_⟩
  obtain ⟨g, off, h1, h2, h3, h4⟩ := hc hl
  exact ⟨g, off, h1, h2, Nat.lt_of_lt_of_le h3 hb.size, fun i x hx => (hb.cell (p := ⟨g, off + i, none⟩) h3).trans (h4 i x hx)⟩

theorem intOk_parts {c : UInt8} {r : List UInt8} {i0 : Nat} {neg : Bool} (hi : i0 = if c.toNat = 43 ∨ c.toNat = 45 then 1 else 0) (hn : neg = decide (c.toNat = 45)) :
    intOk (c :: r) = (!((c :: r).drop i0).isEmpty && ((c :: r).drop i0).all isDig && decide (dval 0 ((c :: r).drop i0) ≤ if neg = true then 9223372036854775808 else 9223372036854775807)) := by
  have e1 : (c :: r).drop i0 = if c.toNat = 43 ∨ c.toNat = 45 then r else c :: r := by
    rw [hi]
    split <;> rfl
  rw [e1]
  simp only [intOk, hn, decide_eq_true_eq]

/-- What loop by loop is known of the digits. -/
theorem digs_no {l : List UInt8} {i0 k : Nat} {x : UInt8} (hi : i0 ≤ k) (hk : l[k]? = some x) (hx : isDig x = false) : (l.drop i0).all isDig = false := by
  rw [← Bool.not_eq_true, List.all_eq_true]
  intro h
  have h2 : (l.drop i0)[k - i0]? = some x := by rw [List.getElem?_drop, show i0 + (k - i0) = k by omega]; exact hk
  have := h x (List.mem_of_getElem? h2)
  rw [hx] at this
  cases this
theorem digs_yes {l : List UInt8} {i0 : Nat} (h : ∀ j x, i0 ≤ j → l[j]? = some x → isDig x = true) : (l.drop i0).all isDig = true := by
  rw [List.all_eq_true]
  intro x hx
  obtain ⟨j, hj⟩ := List.getElem?_of_mem hx
  rw [List.getElem?_drop] at hj
  exact h _ x (by omega) hj
theorem zeros_drop {l : List UInt8} {i0 k : Nat} (hi : i0 ≤ k) (hk : k ≤ l.length) (hz : ∀ j, i0 ≤ j → j < k → l[j]? = some 48) : dval 0 (l.drop i0) = dval 0 (l.drop k) := by
  have h := dval_zeros (l.drop i0) (k - i0) (by simp; omega) (fun j hj => by rw [List.getElem?_drop]; exact hz _ (by omega) (by omega))
  rw [List.drop_drop, show i0 + (k - i0) = k by omega] at h
  exact h
theorem small_val {D : List UInt8} (hD : D.all isDig = true) (hl : D.length < 19) (neg : Bool) : dval 0 D ≤ if neg = true then 9223372036854775808 else 9223372036854775807 := by
  have h := dval_lt D hD
  have h2 : 10 ^ D.length ≤ 10 ^ 18 := Nat.pow_le_pow_right (by decide) (by omega)
  have h3 : (10 : Nat) ^ 18 = 1000000000000000000 := by decide
  rw [h3] at h2
  generalize 10 ^ D.length = X at *
  split <;> omega
theorem great_val {D : List UInt8} {x : UInt8} {r : List UInt8} (hD : D = x :: r) (hx : isDig x = true) (hx0 : x ≠ 48) (hl : 19 < D.length) (neg : Bool) : ¬ dval 0 D ≤ if neg = true then 9223372036854775808 else 9223372036854775807 := by
  subst hD
  rw [dval_cons, dval_acc, Nat.zero_mul, Nat.zero_add]
  have h1 : 1 ≤ x.toNat - 48 := by
    simp only [isDig, Bool.and_eq_true, decide_eq_true_eq] at hx
    have : x.toNat ≠ 48 := fun e => hx0 (UInt8.toNat_inj.1 e)
    omega
  have h2 := Nat.mul_le_mul_right (10 ^ r.length) h1
  have h3 : 10 ^ 19 ≤ 10 ^ r.length := Nat.pow_le_pow_right (by decide) (by simp only [List.length_cons] at hl; omega)
  have h4 : (10 : Nat) ^ 19 = 10000000000000000000 := by decide
  rw [h4] at h3
  rw [Nat.one_mul] at h2
  generalize 10 ^ r.length = X at *
  split <;> omega
theorem cmp_less {D : List UInt8} {neg : Bool} {j : Nat} {x y : UInt8} (hl : D.length = 19) (hD : D.all isDig = true) (ht : D.take j = (limL neg).take j) (hx : D[j]? = some x) (hy : (limL neg)[j]? = some y) (h : x.toNat < y.toNat) : dval 0 D ≤ if neg = true then 9223372036854775808 else 9223372036854775807 := by
  have := lex_less (L := limL neg) hl hD ht hx hy h
  rw [limL_val] at this
  exact Nat.le_of_lt this
theorem cmp_more {D : List UInt8} {neg : Bool} {j : Nat} {x y : UInt8} (hl : D.length = 19) (ht : D.take j = (limL neg).take j) (hx : D[j]? = some x) (hy : (limL neg)[j]? = some y) (h : y.toNat < x.toNat) : ¬ dval 0 D ≤ if neg = true then 9223372036854775808 else 9223372036854775807 := by
  have := lex_less (D := limL neg) (L := D) hl.symm (limL_dig neg) ht.symm hy hx h
  rw [limL_val] at this
  exact Nat.not_le_of_gt this
theorem cmp_same {D : List UInt8} {neg : Bool} (hl : D.length = 19) (ht : D.take 19 = (limL neg).take 19) : dval 0 D ≤ if neg = true then 9223372036854775808 else 9223372036854775807 := by
  rw [List.take_of_length_le (by omega), List.take_of_length_le (Nat.le_refl 19)] at ht
  rw [ht, limL_val]
  exact Nat.le_refl _
theorem take_more {D L : List UInt8} {j : Nat} {x : UInt8} (ht : D.take j = L.take j) (hx : D[j]? = some x) (hy : L[j]? = some x) : D.take (j + 1) = L.take (j + 1) := by
  rw [List.take_add_one, List.take_add_one, ht, hx, hy]
theorem elem_bytes : Tryd.prog.elem 42 = 5 := by kernel_rfl
theorem size_byte : (Tryd.prog.info? 5).map (fun i => i.size) = some 1 := by kernel_rfl
theorem run_size_byte (W : World) : (sizeOf 5).run Tryd.prog W = .ok 1 W := by
  obtain ⟨j, hj, hs⟩ := Option.map_eq_some_iff.1 size_byte
  simp [sizeOf, typeInfo, hj, hs]
theorem slice_from (W : World) (g off len cap k : Nat) (h1 : k ≤ len) (h2 : ¬ cap = k) : (Instr.slice 42 (.slice (some ⟨g, off, none⟩) len cap) (some (.int .i64 (k : Int))) none none).run Tryd.prog W = .ok (.slice (some ⟨g, off + k, none⟩) (len - k) (cap - k)) W := by
  rw [run_slice_l W 42 _ len cap (by rw [elem_bytes]; exact Tryd.underlying42) .i64 (k : Int) (by omega) (by omega), elem_bytes, run_size_byte]
  simp [Result.andThen, sliced, h2, Go.WideShapes.add_plain]
theorem slice_both (W : World) (g off len cap a b : Nat) (h1 : a ≤ b) (h2 : b ≤ cap) (h3 : ¬ cap = a) : (Instr.slice 42 (.slice (some ⟨g, off, none⟩) len cap) (some (.int .i64 (a : Int))) (some (.int .i64 (b : Int))) none).run Tryd.prog W = .ok (.slice (some ⟨g, off + a, none⟩) (b - a) (cap - a)) W := by
  rw [run_slice_lh W 42 _ len cap (by rw [elem_bytes]; exact Tryd.underlying42) .i64 .i64 (a : Int) (b : Int) (by omega) (by omega) (by omega), elem_bytes, run_size_byte]
  simp [Result.andThen, sliced, h3, Go.WideShapes.add_plain]
theorem below_draws {B : Nat} {a w : World} (h : Below B a w) (n : Nat) : Below B a (w.drewN n) := h.trans ⟨rfl, rfl, rfl, Nat.le_refl _, fun _ _ => rfl⟩
theorem getE {l : List UInt8} {k : Nat} (h : k < l.length) : ∃ x, l[k]? = some x := ⟨_, List.getElem?_eq_getElem h⟩

set_option maxRecDepth 100000 in
set_option maxHeartbeats 2000000 in
theorem isInt_plus (v : Value) (c : UInt8) (r : List UInt8) (w : World) (hl : (c :: r).length ≤ 100000) (h : BytesAt w v (c :: r)) (hc : c.toNat = 43) :
    Calls Tryd.prog 29 #[v] w fun e w' => e = .returned (.bool (intOk (c :: r))) ∧ Below w.heap.size w w' := by
  have HP := Lib.hid (intOk_parts (c := c) (r := r) (i0 := 1) (neg := false) (by simp [hc]) (by simp [hc]))
  obtain ⟨ao, cap, rfl, h⟩ := h
  obtain ⟨g, off, rfl, hcap, hg, hcell⟩ := h (by simp)
  have hc0 : w.cell? ⟨g, off, none⟩ = some (.int .u8 (c.toNat : Int)) := hcell 0 c rfl
  have HC := Lib.hid hcell
  have HG := Lib.hid hg
  obtain ⟨l, hl0⟩ : ∃ l, c :: r = l := ⟨_, rfl⟩
  have hne : 0 < (c :: r).length := by simp
  have h43 : ((c.toNat : Int) == 43) = true := by rw [hc]; rfl
  have h45 : ((c.toNat : Int) == 45) = false := by rw [hc]; rfl
  rw [hl0] at hl hne HC HP hcap ⊢
  have hlz : (1 : Int) ≤ (l.length : Int) ∧ (l.length : Int) ≤ 100000 ∧ (l.length : Int) ≤ (cap : Int) := by omega
  have hne0 : ((l.length : Int) == 0) = false := beq_eq_false_iff_ne.2 (by omega)
  clear hcell hg h hc hl0
  go_enter Tryd.func29, Tryd.ntmps29
  by_cases hone : l.length = 1
  · have hlz1 : (l.length : Int) = 1 := by omega
    go_wp2
    go_ret
    refine ⟨?_, Below.refl _ _⟩
    rw [HP.out]
    have e : l.drop 1 = [] := by rw [List.drop_eq_nil_iff]; omega
    rw [e]
    rfl
  have hlz1 : (1 : Int) < (l.length : Int) := by omega
  have hone2 : ((1 : Int) == (l.length : Int)) = false := by simp; omega
  go_wp2
  clear h43 h45 hc0
  go_loopg [5] (l.length - 1) (fun gk s5 wr => ∃ k : Nat, 1 ≤ k ∧ k ≤ l.length ∧ gk = l.length - k ∧ s5 = .int .i64 (k : Int) ∧ Hid (∀ j x, 1 ≤ j → j < k → l[j]? = some x → isDig x = true) ∧ w = wr)
  case atStart => exact ⟨1, Nat.le_refl _, by omega, rfl, rfl, Lib.hid (fun j x h1 h2 => by omega), rfl⟩
  case round =>
    obtain ⟨k, hk0, hk, rfl, rfl, HD, rfl⟩ := hrel
    by_cases hlt : k < l.length
    · have hkz : (k : Int) < (l.length : Int) := by omega
      obtain ⟨x, hx⟩ := getE hlt
      have hcx := HC.out k x hx
      have HX := Lib.hid hx
      clear hx
      have hx255 : x.toNat ≤ 255 := by have := x.toNat_lt; omega
      by_cases hd : 48 ≤ x.toNat ∧ x.toNat ≤ 57
      · have hdz : (48 : Int) ≤ (x.toNat : Int) ∧ (x.toNat : Int) ≤ 57 := by omega
        have HDX := Lib.hid (show isDig x = true by simp [isDig, hd])
        clear hd
        go_wp2
        go_roundg (l.length - (k + 1))
        case measure => omega
        case rel => exact ⟨k + 1, by omega, by omega, rfl, by first | rfl | simp, Lib.hid (fun j y h1 h2 h3 => by
          by_cases e : j = k
          · subst e
            rw [HX.out] at h3
            cases h3
            exact HDX.out
          · exact HD.out j y h1 (by omega) h3), rfl⟩
      · have HDX := Lib.hid (show isDig x = false by simp only [isDig, Bool.and_eq_false_iff, decide_eq_false_iff_not]; omega)
        have HN := Lib.hid (digs_no hk0 HX.out HDX.out)
        by_cases hd1 : x.toNat < 48
        · have hdz : (x.toNat : Int) < 48 := by omega
          clear hd
          go_wp2
          go_ret
          refine ⟨?_, Below.refl _ _⟩
          rw [HP.out, HN.out]
          simp
        · have hdz : (57 : Int) < (x.toNat : Int) ∧ (48 : Int) ≤ (x.toNat : Int) := by omega
          clear hd
          go_wp2
          go_ret
          refine ⟨?_, Below.refl _ _⟩
          rw [HP.out, HN.out]
          simp
    · obtain rfl : k = l.length := by omega
      have HA := Lib.hid (digs_yes (i0 := 1) (fun j x h1 h2 => HD.out j x h1 (List.getElem?_eq_some_iff.1 h2).1 h2))
      have HE := Lib.hid (show (l.drop 1).isEmpty = false by rw [isEmpty_false]; intro e; rw [List.drop_eq_nil_iff] at e; omega)
      clear hk HD
      go_wp2
      go_loopg [3] (l.length - 1) (fun gk s3 wr => ∃ k : Nat, 1 ≤ k ∧ k < l.length ∧ gk = l.length - k ∧ s3 = .int .i64 (k : Int) ∧ Hid (∀ j, 1 ≤ j → j < k → l[j]? = some 48) ∧ w = wr)
      case atStart => exact ⟨1, Nat.le_refl _, by omega, rfl, rfl, Lib.hid (fun j h1 h2 => by omega), rfl⟩
      case round =>
        obtain ⟨k, hk1, hk, rfl, rfl, HZ, rfl⟩ := hrel
        obtain ⟨x, hx⟩ := getE hk
        have hcx := HC.out k x hx
        have HX := Lib.hid hx
        clear hx
        have hkz : (k : Int) < (l.length : Int) := by omega
        by_cases hgo : k + 1 < l.length ∧ x = 48
        · obtain ⟨hg1, rfl⟩ := hgo
          have hgz : (k : Int) < (l.length : Int) - 1 := by omega
          have hcx2 : w.cell? ⟨g, off + k, none⟩ = some (.int .u8 48) := hcx
          clear hcx
          go_wp2
          go_roundg (l.length - (k + 1))
          case measure => omega
          case rel => exact ⟨k + 1, by omega, by omega, rfl, by first | rfl | simp, Lib.hid (fun j h1 h2 => by
            by_cases e : j = k
            · subst e
              exact HX.out
            · exact HZ.out j h1 (by omega)), rfl⟩
        · have HDV := Lib.hid (zeros_drop hk1 (by omega) HZ.out)
          have HDA : Hid ((l.drop k).all isDig = true) := Lib.hid (by
            have := all_drop (k - 1) HA.out
            rw [List.drop_drop, show 1 + (k - 1) = k by omega] at this
            exact this)
          have hlen : (l.drop k).length = l.length - k := List.length_drop
          have HGO := Lib.hid hgo
          have hstop : (decide ((k : Int) < (l.length : Int) - 1) = false) ∨ (((x.toNat : Int) == 48) = false ∧ (k : Int) < (l.length : Int) - 1) := by
            by_cases h1 : k + 1 < l.length
            · right
              refine ⟨?_, by omega⟩
              simp only [beq_eq_false_iff_ne, ne_eq]
              intro e
              exact hgo ⟨h1, UInt8.toNat_inj.1 (show x.toNat = 48 by omega)⟩
            · left
              simp
              omega
          clear hgo
          obtain ⟨D, hD⟩ : ∃ D, l.drop k = D := ⟨_, rfl⟩
          rw [hD] at hlen HDA HDV
          have hlenz : (D.length : Int) = (l.length : Int) - (k : Int) := by omega
          have HCD : Hid (∀ (i : Nat) y, D[i]? = some y → w.cell? ⟨g, off + k + i, none⟩ = some (.int .u8 (y.toNat : Int))) := Lib.hid (fun i y hy => by
            rw [← hD, List.getElem?_drop] at hy
            have := HC.out (k + i) y hy
            rw [← Nat.add_assoc] at this
            exact this)
          have HDX : Hid (D = x :: l.drop (k + 1)) := Lib.hid (by
            rw [← hD, List.drop_eq_getElem_cons hk]
            congr 1
            exact (List.getElem?_eq_some_iff.1 HX.out).2)
          clear hD
          have HF : Hid (∀ b : Bool, (b = true ↔ dval 0 D ≤ if false = true then 9223372036854775808 else 9223372036854775807) → intOk l = b) := Lib.hid (fun b hb => by
            rw [HP.out, HE.out, HA.out, HDV.out]
            cases b with
            | true =>
              have := hb.1 rfl
              simpa using this
            | false =>
              have : ¬ dval 0 D ≤ if false = true then 9223372036854775808 else 9223372036854775807 := fun h => by cases hb.2 h
              simpa using this)
          have hDz : (1 : Int) ≤ (D.length : Int) ∧ (D.length : Int) ≤ 100000 := by omega
          have e1 : l.length - k = D.length := by omega
          have hsl := fun W => slice_from W g off l.length cap k (by omega) (by omega)
          have HE1 := Lib.hid e1
          clear e1
          rcases hstop with hst | ⟨hst, hst2⟩
          all_goals
            go_upto_region 21 with fail
            rw [HE1.out]
            obtain ⟨Ls, hLs⟩ : ∃ Ls : ByteArray, Ls = ⟨#[57, 50, 50, 51, 51, 55, 50, 48, 51, 54, 56, 53, 52, 55, 55, 53, 56, 48, 55]⟩ := ⟨_, rfl⟩
            rw [← hLs]
            have hLz : Ls.size = 19 := by rw [hLs]; rfl
            have HLL := Lib.hid (show Ls.data.toList = limL false by rw [hLs]; rfl)
            have HLS := Lib.hid hLz
            have hLi : (Ls.size : Int) = 19 := by omega
            clear hLs hLz hst hsl
            by_cases hA : D.length < 19
            · have hAz : (D.length : Int) < 19 := by omega
              have HR := Lib.hid (HF.out true ⟨fun _ => small_val HDA.out hA false, fun _ => rfl⟩)
              clear hA
              go_wp2
              go_ret
              exact ⟨by rw [HR.out]; first | rfl | simp, Below.refl _ _⟩
            · by_cases hB : 19 < D.length
              · have hBz : (19 : Int) < (D.length : Int) := by omega
                have HR := Lib.hid (HF.out false ⟨fun h => (by cases h), fun h => absurd h (great_val HDX.out (by have h1 := HDA.out; rw [HDX.out, List.all_cons, Bool.and_eq_true] at h1; exact h1.1) (fun e => HGO.out ⟨by omega, e⟩) hB false)⟩)
                clear hA hB
                go_wp2
                go_ret
                exact ⟨by rw [HR.out]; first | rfl | simp, Below.refl _ _⟩
              · have hDl : D.length = 19 := by omega
                have HDL := Lib.hid hDl
                rw [hDl]
                clear hA hB hDz hlenz hlen hDl
                go_wp2
                go_loopg [8] 19 (fun gk s8 wr => ∃ j : Nat, j ≤ 19 ∧ gk = 19 - j ∧ s8 = .int .i64 (j : Int) ∧ Hid (D.take j = (limL false).take j) ∧ Below w.heap.size w wr)
                case atStart => exact ⟨0, by omega, rfl, rfl, Lib.hid rfl, Below.refl _ _⟩
                case round =>
                  rename World => w3
                  obtain ⟨j, hj, rfl, rfl, HT, hbw⟩ := hrel
                  have HBW := Lib.hid hbw
                  by_cases hlt : j < 19
                  · have hjz : (j : Int) < 19 := by omega
                    obtain ⟨x2, hx2⟩ := getE (l := D) (k := j) (by have := HDL.out; omega)
                    obtain ⟨y, hy⟩ := getE (l := limL false) (k := j) (by rw [limL_len]; exact hlt)
                    have hjs : j < Ls.size := by have := HLS.out; omega
                    have hyb : (Ls[j]'hjs).toNat = y.toNat := by
                      have h1 := bt_get Ls j hjs
                      rw [← h1, bt, HLL.out, List.getD_eq_getElem?_getD, hy]
                      rfl
                    have hc3 : w3.cell? ⟨g, off + k + j, none⟩ = some (.int .u8 (x2.toNat : Int)) := (hbw.cell (p := ⟨g, off + k + j, none⟩) HG.out).trans (HCD.out j x2 hx2)
                    have HX2 := Lib.hid hx2
                    have HY2 := Lib.hid hy
                    clear hbw hx2 hy
                    have hzz : (x2.toNat : Int) ≤ 255 ∧ (y.toNat : Int) ≤ 255 := by have := x2.toNat_lt; have := y.toNat_lt; omega
                    by_cases h1 : x2.toNat < y.toNat
                    · have h1z : (x2.toNat : Int) < (y.toNat : Int) := by omega
                      have HR := Lib.hid (HF.out true ⟨fun _ => cmp_less (neg := false) HDL.out HDA.out HT.out HX2.out HY2.out h1, fun _ => rfl⟩)
                      clear h1
                      go_upto_region 28 with fail
                      go_quiet (fail)
                      go_wp2
                      go_ret
                      exact ⟨by rw [HR.out]; first | rfl | simp, below_draws HBW.out _⟩
                    · by_cases h2 : y.toNat < x2.toNat
                      · have h2z : (y.toNat : Int) < (x2.toNat : Int) := by omega
                        have HR := Lib.hid (HF.out false ⟨fun h => (by cases h), fun h => absurd h (cmp_more (neg := false) HDL.out HT.out HX2.out HY2.out h2)⟩)
                        clear h1 h2
                        go_upto_region 28 with fail
                        go_quiet (fail)
                        go_upto_region 30 with fail
                        go_quiet (fail)
                        go_wp2
                        go_ret
                        refine ⟨?_, by first | exact below_draws HBW.out _ | exact below_draws (below_draws HBW.out _) _⟩
                        rw [HR.out]
                        first | rfl | simp
                      · obtain rfl : x2 = y := UInt8.toNat_inj.1 (by omega)
                        clear h1 h2
                        go_upto_region 28 with fail
                        go_quiet (fail)
                        go_upto_region 30 with fail
                        go_quiet (fail)
                        go_wp2
                        go_roundg (19 - (j + 1))
                        case measure => omega
                        case rel => exact ⟨j + 1, by omega, rfl, by first | rfl | simp, Lib.hid (take_more HT.out HX2.out HY2.out), by first | exact below_draws HBW.out _ | exact below_draws (below_draws HBW.out _) _⟩
                  · obtain rfl : j = 19 := by omega
                    have HR := Lib.hid (HF.out true ⟨fun _ => cmp_same HDL.out HT.out, fun _ => rfl⟩)
                    clear hbw
                    go_wp2
                    go_ret
                    exact ⟨by rw [HR.out]; first | rfl | simp, HBW.out⟩

set_option maxRecDepth 100000 in
set_option maxHeartbeats 2000000 in
theorem isInt_minus (v : Value) (c : UInt8) (r : List UInt8) (w : World) (hl : (c :: r).length ≤ 100000) (h : BytesAt w v (c :: r)) (hc : c.toNat = 45) :
    Calls Tryd.prog 29 #[v] w fun e w' => e = .returned (.bool (intOk (c :: r))) ∧ Below w.heap.size w w' := by
  have HP := Lib.hid (intOk_parts (c := c) (r := r) (i0 := 1) (neg := true) (by simp [hc]) (by simp [hc]))
  obtain ⟨ao, cap, rfl, h⟩ := h
  obtain ⟨g, off, rfl, hcap, hg, hcell⟩ := h (by simp)
  have hc0 : w.cell? ⟨g, off, none⟩ = some (.int .u8 (c.toNat : Int)) := hcell 0 c rfl
  have HC := Lib.hid hcell
  have HG := Lib.hid hg
  obtain ⟨l, hl0⟩ : ∃ l, c :: r = l := ⟨_, rfl⟩
  have hne : 0 < (c :: r).length := by simp
  have h43 : ((c.toNat : Int) == 43) = false := by rw [hc]; rfl
  have h45 : ((c.toNat : Int) == 45) = true := by rw [hc]; rfl
  rw [hl0] at hl hne HC HP hcap ⊢
  have hlz : (1 : Int) ≤ (l.length : Int) ∧ (l.length : Int) ≤ 100000 ∧ (l.length : Int) ≤ (cap : Int) := by omega
  have hne0 : ((l.length : Int) == 0) = false := beq_eq_false_iff_ne.2 (by omega)
  clear hcell hg h hc hl0
  go_enter Tryd.func29, Tryd.ntmps29
  by_cases hone : l.length = 1
  · have hlz1 : (l.length : Int) = 1 := by omega
    go_wp2
    go_ret
    refine ⟨?_, Below.refl _ _⟩
    rw [HP.out]
    have e : l.drop 1 = [] := by rw [List.drop_eq_nil_iff]; omega
    rw [e]
    rfl
  have hlz1 : (1 : Int) < (l.length : Int) := by omega
  have hone2 : ((1 : Int) == (l.length : Int)) = false := by simp; omega
  go_wp2
  clear h43 h45 hc0
  go_loopg [5] (l.length - 1) (fun gk s5 wr => ∃ k : Nat, 1 ≤ k ∧ k ≤ l.length ∧ gk = l.length - k ∧ s5 = .int .i64 (k : Int) ∧ Hid (∀ j x, 1 ≤ j → j < k → l[j]? = some x → isDig x = true) ∧ w = wr)
  case atStart => exact ⟨1, Nat.le_refl _, by omega, rfl, rfl, Lib.hid (fun j x h1 h2 => by omega), rfl⟩
  case round =>
    obtain ⟨k, hk0, hk, rfl, rfl, HD, rfl⟩ := hrel
    by_cases hlt : k < l.length
    · have hkz : (k : Int) < (l.length : Int) := by omega
      obtain ⟨x, hx⟩ := getE hlt
      have hcx := HC.out k x hx
      have HX := Lib.hid hx
      clear hx
      have hx255 : x.toNat ≤ 255 := by have := x.toNat_lt; omega
      by_cases hd : 48 ≤ x.toNat ∧ x.toNat ≤ 57
      · have hdz : (48 : Int) ≤ (x.toNat : Int) ∧ (x.toNat : Int) ≤ 57 := by omega
        have HDX := Lib.hid (show isDig x = true by simp [isDig, hd])
        clear hd
        go_wp2
        go_roundg (l.length - (k + 1))
        case measure => omega
        case rel => exact ⟨k + 1, by omega, by omega, rfl, by first | rfl | simp, Lib.hid (fun j y h1 h2 h3 => by
          by_cases e : j = k
          · subst e
            rw [HX.out] at h3
            cases h3
            exact HDX.out
          · exact HD.out j y h1 (by omega) h3), rfl⟩
      · have HDX := Lib.hid (show isDig x = false by simp only [isDig, Bool.and_eq_false_iff, decide_eq_false_iff_not]; omega)
        have HN := Lib.hid (digs_no hk0 HX.out HDX.out)
        by_cases hd1 : x.toNat < 48
        · have hdz : (x.toNat : Int) < 48 := by omega
          clear hd
          go_wp2
          go_ret
          refine ⟨?_, Below.refl _ _⟩
          rw [HP.out, HN.out]
          simp
        · have hdz : (57 : Int) < (x.toNat : Int) ∧ (48 : Int) ≤ (x.toNat : Int) := by omega
          clear hd
          go_wp2
          go_ret
          refine ⟨?_, Below.refl _ _⟩
          rw [HP.out, HN.out]
          simp
    · obtain rfl : k = l.length := by omega
      have HA := Lib.hid (digs_yes (i0 := 1) (fun j x h1 h2 => HD.out j x h1 (List.getElem?_eq_some_iff.1 h2).1 h2))
      have HE := Lib.hid (show (l.drop 1).isEmpty = false by rw [isEmpty_false]; intro e; rw [List.drop_eq_nil_iff] at e; omega)
      clear hk HD
      go_wp2
      go_loopg [3] (l.length - 1) (fun gk s3 wr => ∃ k : Nat, 1 ≤ k ∧ k < l.length ∧ gk = l.length - k ∧ s3 = .int .i64 (k : Int) ∧ Hid (∀ j, 1 ≤ j → j < k → l[j]? = some 48) ∧ w = wr)
      case atStart => exact ⟨1, Nat.le_refl _, by omega, rfl, rfl, Lib.hid (fun j h1 h2 => by omega), rfl⟩
      case round =>
        obtain ⟨k, hk1, hk, rfl, rfl, HZ, rfl⟩ := hrel
        obtain ⟨x, hx⟩ := getE hk
        have hcx := HC.out k x hx
        have HX := Lib.hid hx
        clear hx
        have hkz : (k : Int) < (l.length : Int) := by omega
        by_cases hgo : k + 1 < l.length ∧ x = 48
        · obtain ⟨hg1, rfl⟩ := hgo
          have hgz : (k : Int) < (l.length : Int) - 1 := by omega
          have hcx2 : w.cell? ⟨g, off + k, none⟩ = some (.int .u8 48) := hcx
          clear hcx
          go_wp2
          go_roundg (l.length - (k + 1))
          case measure => omega
          case rel => exact ⟨k + 1, by omega, by omega, rfl, by first | rfl | simp, Lib.hid (fun j h1 h2 => by
            by_cases e : j = k
            · subst e
              exact HX.out
            · exact HZ.out j h1 (by omega)), rfl⟩
        · have HDV := Lib.hid (zeros_drop hk1 (by omega) HZ.out)
          have HDA : Hid ((l.drop k).all isDig = true) := Lib.hid (by
            have := all_drop (k - 1) HA.out
            rw [List.drop_drop, show 1 + (k - 1) = k by omega] at this
            exact this)
          have hlen : (l.drop k).length = l.length - k := List.length_drop
          have HGO := Lib.hid hgo
          have hstop : (decide ((k : Int) < (l.length : Int) - 1) = false) ∨ (((x.toNat : Int) == 48) = false ∧ (k : Int) < (l.length : Int) - 1) := by
            by_cases h1 : k + 1 < l.length
            · right
              refine ⟨?_, by omega⟩
              simp only [beq_eq_false_iff_ne, ne_eq]
              intro e
              exact hgo ⟨h1, UInt8.toNat_inj.1 (show x.toNat = 48 by omega)⟩
            · left
              simp
              omega
          clear hgo
          obtain ⟨D, hD⟩ : ∃ D, l.drop k = D := ⟨_, rfl⟩
          rw [hD] at hlen HDA HDV
          have hlenz : (D.length : Int) = (l.length : Int) - (k : Int) := by omega
          have HCD : Hid (∀ (i : Nat) y, D[i]? = some y → w.cell? ⟨g, off + k + i, none⟩ = some (.int .u8 (y.toNat : Int))) := Lib.hid (fun i y hy => by
            rw [← hD, List.getElem?_drop] at hy
            have := HC.out (k + i) y hy
            rw [← Nat.add_assoc] at this
            exact this)
          have HDX : Hid (D = x :: l.drop (k + 1)) := Lib.hid (by
            rw [← hD, List.drop_eq_getElem_cons hk]
            congr 1
            exact (List.getElem?_eq_some_iff.1 HX.out).2)
          clear hD
          have HF : Hid (∀ b : Bool, (b = true ↔ dval 0 D ≤ if true = true then 9223372036854775808 else 9223372036854775807) → intOk l = b) := Lib.hid (fun b hb => by
            rw [HP.out, HE.out, HA.out, HDV.out]
            cases b with
            | true =>
              have := hb.1 rfl
              simpa using this
            | false =>
              have : ¬ dval 0 D ≤ if true = true then 9223372036854775808 else 9223372036854775807 := fun h => by cases hb.2 h
              simpa using this)
          have hDz : (1 : Int) ≤ (D.length : Int) ∧ (D.length : Int) ≤ 100000 := by omega
          have e1 : l.length - k = D.length := by omega
          have hsl := fun W => slice_from W g off l.length cap k (by omega) (by omega)
          have HE1 := Lib.hid e1
          clear e1
          rcases hstop with hst | ⟨hst, hst2⟩
          all_goals
            go_upto_region 21 with fail
            rw [HE1.out]
            obtain ⟨Ls, hLs⟩ : ∃ Ls : ByteArray, Ls = ⟨#[57, 50, 50, 51, 51, 55, 50, 48, 51, 54, 56, 53, 52, 55, 55, 53, 56, 48, 56]⟩ := ⟨_, rfl⟩
            rw [← hLs]
            have hLz : Ls.size = 19 := by rw [hLs]; rfl
            have HLL := Lib.hid (show Ls.data.toList = limL true by rw [hLs]; rfl)
            have HLS := Lib.hid hLz
            have hLi : (Ls.size : Int) = 19 := by omega
            clear hLs hLz hst hsl
            by_cases hA : D.length < 19
            · have hAz : (D.length : Int) < 19 := by omega
              have HR := Lib.hid (HF.out true ⟨fun _ => small_val HDA.out hA true, fun _ => rfl⟩)
              clear hA
              go_wp2
              go_ret
              exact ⟨by rw [HR.out]; first | rfl | simp, Below.refl _ _⟩
            · by_cases hB : 19 < D.length
              · have hBz : (19 : Int) < (D.length : Int) := by omega
                have HR := Lib.hid (HF.out false ⟨fun h => (by cases h), fun h => absurd h (great_val HDX.out (by have h1 := HDA.out; rw [HDX.out, List.all_cons, Bool.and_eq_true] at h1; exact h1.1) (fun e => HGO.out ⟨by omega, e⟩) hB true)⟩)
                clear hA hB
                go_wp2
                go_ret
                exact ⟨by rw [HR.out]; first | rfl | simp, Below.refl _ _⟩
              · have hDl : D.length = 19 := by omega
                have HDL := Lib.hid hDl
                rw [hDl]
                clear hA hB hDz hlenz hlen hDl
                go_wp2
                go_loopg [8] 19 (fun gk s8 wr => ∃ j : Nat, j ≤ 19 ∧ gk = 19 - j ∧ s8 = .int .i64 (j : Int) ∧ Hid (D.take j = (limL true).take j) ∧ Below w.heap.size w wr)
                case atStart => exact ⟨0, by omega, rfl, rfl, Lib.hid rfl, Below.refl _ _⟩
                case round =>
                  rename World => w3
                  obtain ⟨j, hj, rfl, rfl, HT, hbw⟩ := hrel
                  have HBW := Lib.hid hbw
                  by_cases hlt : j < 19
                  · have hjz : (j : Int) < 19 := by omega
                    obtain ⟨x2, hx2⟩ := getE (l := D) (k := j) (by have := HDL.out; omega)
                    obtain ⟨y, hy⟩ := getE (l := limL true) (k := j) (by rw [limL_len]; exact hlt)
                    have hjs : j < Ls.size := by have := HLS.out; omega
                    have hyb : (Ls[j]'hjs).toNat = y.toNat := by
                      have h1 := bt_get Ls j hjs
                      rw [← h1, bt, HLL.out, List.getD_eq_getElem?_getD, hy]
                      rfl
                    have hc3 : w3.cell? ⟨g, off + k + j, none⟩ = some (.int .u8 (x2.toNat : Int)) := (hbw.cell (p := ⟨g, off + k + j, none⟩) HG.out).trans (HCD.out j x2 hx2)
                    have HX2 := Lib.hid hx2
                    have HY2 := Lib.hid hy
                    clear hbw hx2 hy
                    have hzz : (x2.toNat : Int) ≤ 255 ∧ (y.toNat : Int) ≤ 255 := by have := x2.toNat_lt; have := y.toNat_lt; omega
                    by_cases h1 : x2.toNat < y.toNat
                    · have h1z : (x2.toNat : Int) < (y.toNat : Int) := by omega
                      have HR := Lib.hid (HF.out true ⟨fun _ => cmp_less (neg := true) HDL.out HDA.out HT.out HX2.out HY2.out h1, fun _ => rfl⟩)
                      clear h1
                      go_upto_region 28 with fail
                      go_quiet (fail)
                      go_wp2
                      go_ret
                      exact ⟨by rw [HR.out]; first | rfl | simp, below_draws HBW.out _⟩
                    · by_cases h2 : y.toNat < x2.toNat
                      · have h2z : (y.toNat : Int) < (x2.toNat : Int) := by omega
                        have HR := Lib.hid (HF.out false ⟨fun h => (by cases h), fun h => absurd h (cmp_more (neg := true) HDL.out HT.out HX2.out HY2.out h2)⟩)
                        clear h1 h2
                        go_upto_region 28 with fail
                        go_quiet (fail)
                        go_upto_region 30 with fail
                        go_quiet (fail)
                        go_wp2
                        go_ret
                        refine ⟨?_, by first | exact below_draws HBW.out _ | exact below_draws (below_draws HBW.out _) _⟩
                        rw [HR.out]
                        first | rfl | simp
                      · obtain rfl : x2 = y := UInt8.toNat_inj.1 (by omega)
                        clear h1 h2
                        go_upto_region 28 with fail
                        go_quiet (fail)
                        go_upto_region 30 with fail
                        go_quiet (fail)
                        go_wp2
                        go_roundg (19 - (j + 1))
                        case measure => omega
                        case rel => exact ⟨j + 1, by omega, rfl, by first | rfl | simp, Lib.hid (take_more HT.out HX2.out HY2.out), by first | exact below_draws HBW.out _ | exact below_draws (below_draws HBW.out _) _⟩
                  · obtain rfl : j = 19 := by omega
                    have HR := Lib.hid (HF.out true ⟨fun _ => cmp_same HDL.out HT.out, fun _ => rfl⟩)
                    clear hbw
                    go_wp2
                    go_ret
                    exact ⟨by rw [HR.out]; first | rfl | simp, HBW.out⟩

set_option maxRecDepth 100000 in
set_option maxHeartbeats 2000000 in
theorem isInt_none (v : Value) (c : UInt8) (r : List UInt8) (w : World) (hl : (c :: r).length ≤ 100000) (h : BytesAt w v (c :: r)) (hc : c.toNat ≠ 43 ∧ c.toNat ≠ 45) :
    Calls Tryd.prog 29 #[v] w fun e w' => e = .returned (.bool (intOk (c :: r))) ∧ Below w.heap.size w w' := by
  have HP := Lib.hid (intOk_parts (c := c) (r := r) (i0 := 0) (neg := false) (by simp [hc]) (by simp [hc]))
  obtain ⟨ao, cap, rfl, h⟩ := h
  obtain ⟨g, off, rfl, hcap, hg, hcell⟩ := h (by simp)
  have hc0 : w.cell? ⟨g, off, none⟩ = some (.int .u8 (c.toNat : Int)) := hcell 0 c rfl
  have HC := Lib.hid hcell
  have HG := Lib.hid hg
  obtain ⟨l, hl0⟩ : ∃ l, c :: r = l := ⟨_, rfl⟩
  have hne : 0 < (c :: r).length := by simp
  have h43 : ((c.toNat : Int) == 43) = false := by simp; omega
  have h45 : ((c.toNat : Int) == 45) = false := by simp; omega
  rw [hl0] at hl hne HC HP hcap ⊢
  have hlz : (1 : Int) ≤ (l.length : Int) ∧ (l.length : Int) ≤ 100000 ∧ (l.length : Int) ≤ (cap : Int) := by omega
  have hne0 : ((l.length : Int) == 0) = false := beq_eq_false_iff_ne.2 (by omega)
  clear hcell hg h hc hl0
  go_enter Tryd.func29, Tryd.ntmps29
  by_cases hone : l.length = 0
  · omega
  have hlz1 : (0 : Int) < (l.length : Int) := by omega
  have hone2 : ((0 : Int) == (l.length : Int)) = false := by simp; omega
  go_wp2
  clear h43 h45 hc0
  go_loopg [5] (l.length - 0) (fun gk s5 wr => ∃ k : Nat, 0 ≤ k ∧ k ≤ l.length ∧ gk = l.length - k ∧ s5 = .int .i64 (k : Int) ∧ Hid (∀ j x, 0 ≤ j → j < k → l[j]? = some x → isDig x = true) ∧ w = wr)
  case atStart => exact ⟨0, Nat.le_refl _, by omega, rfl, rfl, Lib.hid (fun j x h1 h2 => by omega), rfl⟩
  case round =>
    obtain ⟨k, hk0, hk, rfl, rfl, HD, rfl⟩ := hrel
    by_cases hlt : k < l.length
    · have hkz : (k : Int) < (l.length : Int) := by omega
      obtain ⟨x, hx⟩ := getE hlt
      have hcx := HC.out k x hx
      have HX := Lib.hid hx
      clear hx
      have hx255 : x.toNat ≤ 255 := by have := x.toNat_lt; omega
      by_cases hd : 48 ≤ x.toNat ∧ x.toNat ≤ 57
      · have hdz : (48 : Int) ≤ (x.toNat : Int) ∧ (x.toNat : Int) ≤ 57 := by omega
        have HDX := Lib.hid (show isDig x = true by simp [isDig, hd])
        clear hd
        go_wp2
        go_roundg (l.length - (k + 1))
        case measure => omega
        case rel => exact ⟨k + 1, by omega, by omega, rfl, by first | rfl | simp, Lib.hid (fun j y h1 h2 h3 => by
          by_cases e : j = k
          · subst e
            rw [HX.out] at h3
            cases h3
            exact HDX.out
          · exact HD.out j y h1 (by omega) h3), rfl⟩
      · have HDX := Lib.hid (show isDig x = false by simp only [isDig, Bool.and_eq_false_iff, decide_eq_false_iff_not]; omega)
        have HN := Lib.hid (digs_no hk0 HX.out HDX.out)
        by_cases hd1 : x.toNat < 48
        · have hdz : (x.toNat : Int) < 48 := by omega
          clear hd
          go_wp2
          go_ret
          refine ⟨?_, Below.refl _ _⟩
          rw [HP.out, HN.out]
          simp
        · have hdz : (57 : Int) < (x.toNat : Int) ∧ (48 : Int) ≤ (x.toNat : Int) := by omega
          clear hd
          go_wp2
          go_ret
          refine ⟨?_, Below.refl _ _⟩
          rw [HP.out, HN.out]
          simp
    · obtain rfl : k = l.length := by omega
      have HA := Lib.hid (digs_yes (i0 := 0) (fun j x h1 h2 => HD.out j x h1 (List.getElem?_eq_some_iff.1 h2).1 h2))
      have HE := Lib.hid (show (l.drop 0).isEmpty = false by rw [isEmpty_false]; intro e; rw [List.drop_eq_nil_iff] at e; omega)
      clear hk HD
      go_wp2
      go_loopg [3] (l.length - 0) (fun gk s3 wr => ∃ k : Nat, 0 ≤ k ∧ k < l.length ∧ gk = l.length - k ∧ s3 = .int .i64 (k : Int) ∧ Hid (∀ j, 0 ≤ j → j < k → l[j]? = some 48) ∧ w = wr)
      case atStart => exact ⟨0, Nat.le_refl _, by omega, rfl, rfl, Lib.hid (fun j h1 h2 => by omega), rfl⟩
      case round =>
        obtain ⟨k, hk1, hk, rfl, rfl, HZ, rfl⟩ := hrel
        obtain ⟨x, hx⟩ := getE hk
        have hcx := HC.out k x hx
        have HX := Lib.hid hx
        clear hx
        have hkz : (k : Int) < (l.length : Int) := by omega
        by_cases hgo : k + 1 < l.length ∧ x = 48
        · obtain ⟨hg1, rfl⟩ := hgo
          have hgz : (k : Int) < (l.length : Int) - 1 := by omega
          have hcx2 : w.cell? ⟨g, off + k, none⟩ = some (.int .u8 48) := hcx
          clear hcx
          go_wp2
          go_roundg (l.length - (k + 1))
          case measure => omega
          case rel => exact ⟨k + 1, by omega, by omega, rfl, by first | rfl | simp, Lib.hid (fun j h1 h2 => by
            by_cases e : j = k
            · subst e
              exact HX.out
            · exact HZ.out j h1 (by omega)), rfl⟩
        · have HDV := Lib.hid (zeros_drop hk1 (by omega) HZ.out)
          have HDA : Hid ((l.drop k).all isDig = true) := Lib.hid (by
            have := all_drop (k - 0) HA.out
            rw [List.drop_drop, show 0 + (k - 0) = k by omega] at this
            exact this)
          have hlen : (l.drop k).length = l.length - k := List.length_drop
          have HGO := Lib.hid hgo
          have hstop : (decide ((k : Int) < (l.length : Int) - 1) = false) ∨ (((x.toNat : Int) == 48) = false ∧ (k : Int) < (l.length : Int) - 1) := by
            by_cases h1 : k + 1 < l.length
            · right
              refine ⟨?_, by omega⟩
              simp only [beq_eq_false_iff_ne, ne_eq]
              intro e
              exact hgo ⟨h1, UInt8.toNat_inj.1 (show x.toNat = 48 by omega)⟩
            · left
              simp
              omega
          clear hgo
          obtain ⟨D, hD⟩ : ∃ D, l.drop k = D := ⟨_, rfl⟩
          rw [hD] at hlen HDA HDV
          have hlenz : (D.length : Int) = (l.length : Int) - (k : Int) := by omega
          have HCD : Hid (∀ (i : Nat) y, D[i]? = some y → w.cell? ⟨g, off + k + i, none⟩ = some (.int .u8 (y.toNat : Int))) := Lib.hid (fun i y hy => by
            rw [← hD, List.getElem?_drop] at hy
            have := HC.out (k + i) y hy
            rw [← Nat.add_assoc] at this
            exact this)
          have HDX : Hid (D = x :: l.drop (k + 1)) := Lib.hid (by
            rw [← hD, List.drop_eq_getElem_cons hk]
            congr 1
            exact (List.getElem?_eq_some_iff.1 HX.out).2)
          clear hD
          have HF : Hid (∀ b : Bool, (b = true ↔ dval 0 D ≤ if false = true then 9223372036854775808 else 9223372036854775807) → intOk l = b) := Lib.hid (fun b hb => by
            rw [HP.out, HE.out, HA.out, HDV.out]
            cases b with
            | true =>
              have := hb.1 rfl
              simpa using this
            | false =>
              have : ¬ dval 0 D ≤ if false = true then 9223372036854775808 else 9223372036854775807 := fun h => by cases hb.2 h
              simpa using this)
          have hDz : (1 : Int) ≤ (D.length : Int) ∧ (D.length : Int) ≤ 100000 := by omega
          have e1 : l.length - k = D.length := by omega
          have hsl := fun W => slice_from W g off l.length cap k (by omega) (by omega)
          have HE1 := Lib.hid e1
          clear e1
          rcases hstop with hst | ⟨hst, hst2⟩
          all_goals
            go_upto_region 21 with fail
            rw [HE1.out]
            obtain ⟨Ls, hLs⟩ : ∃ Ls : ByteArray, Ls = ⟨#[57, 50, 50, 51, 51, 55, 50, 48, 51, 54, 56, 53, 52, 55, 55, 53, 56, 48, 55]⟩ := ⟨_, rfl⟩
            rw [← hLs]
            have hLz : Ls.size = 19 := by rw [hLs]; rfl
            have HLL := Lib.hid (show Ls.data.toList = limL false by rw [hLs]; rfl)
            have HLS := Lib.hid hLz
            have hLi : (Ls.size : Int) = 19 := by omega
            clear hLs hLz hst hsl
            by_cases hA : D.length < 19
            · have hAz : (D.length : Int) < 19 := by omega
              have HR := Lib.hid (HF.out true ⟨fun _ => small_val HDA.out hA false, fun _ => rfl⟩)
              clear hA
              go_wp2
              go_ret
              exact ⟨by rw [HR.out]; first | rfl | simp, Below.refl _ _⟩
            · by_cases hB : 19 < D.length
              · have hBz : (19 : Int) < (D.length : Int) := by omega
                have HR := Lib.hid (HF.out false ⟨fun h => (by cases h), fun h => absurd h (great_val HDX.out (by have h1 := HDA.out; rw [HDX.out, List.all_cons, Bool.and_eq_true] at h1; exact h1.1) (fun e => HGO.out ⟨by omega, e⟩) hB false)⟩)
                clear hA hB
                go_wp2
                go_ret
                exact ⟨by rw [HR.out]; first | rfl | simp, Below.refl _ _⟩
              · have hDl : D.length = 19 := by omega
                have HDL := Lib.hid hDl
                rw [hDl]
                clear hA hB hDz hlenz hlen hDl
                go_wp2
                go_loopg [8] 19 (fun gk s8 wr => ∃ j : Nat, j ≤ 19 ∧ gk = 19 - j ∧ s8 = .int .i64 (j : Int) ∧ Hid (D.take j = (limL false).take j) ∧ Below w.heap.size w wr)
                case atStart => exact ⟨0, by omega, rfl, rfl, Lib.hid rfl, Below.refl _ _⟩
                case round =>
                  rename World => w3
                  obtain ⟨j, hj, rfl, rfl, HT, hbw⟩ := hrel
                  have HBW := Lib.hid hbw
                  by_cases hlt : j < 19
                  · have hjz : (j : Int) < 19 := by omega
                    obtain ⟨x2, hx2⟩ := getE (l := D) (k := j) (by have := HDL.out; omega)
                    obtain ⟨y, hy⟩ := getE (l := limL false) (k := j) (by rw [limL_len]; exact hlt)
                    have hjs : j < Ls.size := by have := HLS.out; omega
                    have hyb : (Ls[j]'hjs).toNat = y.toNat := by
                      have h1 := bt_get Ls j hjs
                      rw [← h1, bt, HLL.out, List.getD_eq_getElem?_getD, hy]
                      rfl
                    have hc3 : w3.cell? ⟨g, off + k + j, none⟩ = some (.int .u8 (x2.toNat : Int)) := (hbw.cell (p := ⟨g, off + k + j, none⟩) HG.out).trans (HCD.out j x2 hx2)
                    have HX2 := Lib.hid hx2
                    have HY2 := Lib.hid hy
                    clear hbw hx2 hy
                    have hzz : (x2.toNat : Int) ≤ 255 ∧ (y.toNat : Int) ≤ 255 := by have := x2.toNat_lt; have := y.toNat_lt; omega
                    by_cases h1 : x2.toNat < y.toNat
                    · have h1z : (x2.toNat : Int) < (y.toNat : Int) := by omega
                      have HR := Lib.hid (HF.out true ⟨fun _ => cmp_less (neg := false) HDL.out HDA.out HT.out HX2.out HY2.out h1, fun _ => rfl⟩)
                      clear h1
                      go_upto_region 28 with fail
                      go_quiet (fail)
                      go_wp2
                      go_ret
                      exact ⟨by rw [HR.out]; first | rfl | simp, below_draws HBW.out _⟩
                    · by_cases h2 : y.toNat < x2.toNat
                      · have h2z : (y.toNat : Int) < (x2.toNat : Int) := by omega
                        have HR := Lib.hid (HF.out false ⟨fun h => (by cases h), fun h => absurd h (cmp_more (neg := false) HDL.out HT.out HX2.out HY2.out h2)⟩)
                        clear h1 h2
                        go_upto_region 28 with fail
                        go_quiet (fail)
                        go_upto_region 30 with fail
                        go_quiet (fail)
                        go_wp2
                        go_ret
                        refine ⟨?_, by first | exact below_draws HBW.out _ | exact below_draws (below_draws HBW.out _) _⟩
                        rw [HR.out]
                        first | rfl | simp
                      · obtain rfl : x2 = y := UInt8.toNat_inj.1 (by omega)
                        clear h1 h2
                        go_upto_region 28 with fail
                        go_quiet (fail)
                        go_upto_region 30 with fail
                        go_quiet (fail)
                        go_wp2
                        go_roundg (19 - (j + 1))
                        case measure => omega
                        case rel => exact ⟨j + 1, by omega, rfl, by first | rfl | simp, Lib.hid (take_more HT.out HX2.out HY2.out), by first | exact below_draws HBW.out _ | exact below_draws (below_draws HBW.out _) _⟩
                  · obtain rfl : j = 19 := by omega
                    have HR := Lib.hid (HF.out true ⟨fun _ => cmp_same HDL.out HT.out, fun _ => rfl⟩)
                    clear hbw
                    go_wp2
                    go_ret
                    exact ⟨by rw [HR.out]; first | rfl | simp, HBW.out⟩
end Go.Proofs.YtpmmnlgkeanplaaDoor

namespace Go.Proofs.YtpmmnlgkeanplaaDoor
open Go.RowKit

theorem isInt_nil (v : Value) (w : World) (h : BytesAt w v []) : Calls Tryd.prog 29 #[v] w fun e w' => e = .returned (.bool (intOk [])) ∧ Below w.heap.size w w' := by
  obtain ⟨ao, cap, rfl, _⟩ := h
  show Calls Tryd.prog 29 #[.slice ao 0 cap] w _
  go_enter Tryd.func29, Tryd.ntmps29
  go_wp2
  go_ret
  exact ⟨rfl, Below.refl _ _⟩
theorem isInt_any (v : Value) (l : List UInt8) (w : World) (hl : l.length ≤ 100000) (h : BytesAt w v l) : Calls Tryd.prog 29 #[v] w fun e w' => e = .returned (.bool (intOk l)) ∧ Below w.heap.size w w' := by
  cases l with
  | nil => exact isInt_nil v w h
  | cons c r =>
    by_cases h1 : c.toNat = 43
    · exact isInt_plus v c r w hl h h1
    · by_cases h2 : c.toNat = 45
      · exact isInt_minus v c r w hl h h2
      · exact isInt_none v c r w hl h ⟨h1, h2⟩

theorem isLetter_any (x : UInt8) (w : World) : Calls Tryd.prog 37 #[.int .u8 (x.toNat : Int)] w fun e w' => e = .returned (.bool (isLetter x.toNat)) ∧ w = w' := by
  have hx : (x.toNat : Int) ≤ 255 ∧ (0 : Int) ≤ (x.toNat : Int) := by have := x.toNat_lt; omega
  have HL : Hid (∀ b : Bool, (b = true ↔ ((97 ≤ x.toNat ∧ x.toNat ≤ 122) ∨ (65 ≤ x.toNat ∧ x.toNat ≤ 90))) → isLetter x.toNat = b) := Lib.hid (fun b hb => by
    rw [Bool.eq_iff_iff, hb]
    simp [isLetter])
  go_enter Tryd.func37, Tryd.ntmps37
  by_cases h1 : (97 : Int) ≤ (x.toNat : Int)
  · by_cases h2 : (x.toNat : Int) ≤ 122
    · go_wp2
      go_ret
      exact ⟨by rw [HL.out true (by simp; omega)]; first | rfl | simp, rfl⟩
    · have h3 : (65 : Int) ≤ (x.toNat : Int) := by omega
      have h4 : ¬ (x.toNat : Int) ≤ 90 := by omega
      go_wp2
      go_ret
      exact ⟨by rw [HL.out false (by simp; omega)]; first | rfl | simp, rfl⟩
  · by_cases h3 : (65 : Int) ≤ (x.toNat : Int)
    · by_cases h4 : (x.toNat : Int) ≤ 90
      · go_wp2
        go_ret
        exact ⟨by rw [HL.out true (by simp; omega)]; first | rfl | simp, rfl⟩
      · go_wp2
        go_ret
        exact ⟨by rw [HL.out false (by simp; omega)]; first | rfl | simp, rfl⟩
    · go_wp2
      go_ret
      exact ⟨by rw [HL.out false (by simp; omega)]; first | rfl | simp, rfl⟩

/-- 1: an int64; 2: one letter; 0: neither. -/
def kindOf (l : List UInt8) : Nat := if intOk l = true then 1 else match l with
  | [c] => if isLetter c.toNat = true then 2 else 0
  | _ => 0
theorem kind_any (v : Value) (l : List UInt8) (w : World) (hl : l.length ≤ 100000) (h : BytesAt w v l) : Calls Tryd.prog 28 #[v] w fun e w' => e = .returned (.int .i64 (kindOf l : Int)) ∧ Below w.heap.size w w' := by
  have HI := Lib.hid (isInt_any v l w hl h)
  have HH := Lib.hid h
  obtain ⟨b, hb⟩ : ∃ b, intOk l = b := ⟨_, rfl⟩
  rw [hb] at HI
  have HB := Lib.hid hb
  cases b with
  | true =>
    have HK : Hid (kindOf l = 1) := Lib.hid (by unfold kindOf; rw [if_pos hb])
    obtain ⟨ao, cap, rfl, hc⟩ := h
    clear hc hb hl
    go_enter Tryd.func28, Tryd.ntmps28
    go_wp2_with (go_at_call 29; refine (HI.out).mono ?_; rintro e w1 ⟨rfl, hb1⟩; have HB1 := Lib.hid hb1; clear hb1)
    go_ret
    exact ⟨by rw [HK.out]; first | rfl | simp, HB1.out⟩
  | false =>
    by_cases h1 : l.length = 1
    · obtain ⟨c, rfl⟩ : ∃ c, l = [c] := by
        match l, h1 with
        | [c], _ => exact ⟨c, rfl⟩
      have HK : Hid (kindOf [c] = if isLetter c.toNat = true then 2 else 0) := Lib.hid (by unfold kindOf; rw [if_neg (by rw [hb]; simp)])
      obtain ⟨ao, cap, rfl, hc⟩ := h
      obtain ⟨g, off, rfl, hcap, hg, hcell⟩ := hc (by simp)
      have hc0 : w.cell? ⟨g, off, none⟩ = some (.int .u8 (c.toNat : Int)) := hcell 0 c rfl
      have HC0 := Lib.hid hc0
      have HG := Lib.hid hg
      clear hcell hg hb hl hc0 h1
      show Calls Tryd.prog 28 #[.slice (some ⟨g, off, none⟩) 1 cap] w _
      go_enter Tryd.func28, Tryd.ntmps28
      obtain ⟨b2, hb2⟩ : ∃ b2, isLetter c.toNat = b2 := ⟨_, rfl⟩
      have HL := Lib.hid hb2
      clear hb2
      rw [HL.out] at HK
      cases b2
      all_goals
        go_wp2_with (first
          | (go_at_call 29; refine (HI.out).mono ?_; rintro e w1 ⟨rfl, hb1⟩; have HB1 := Lib.hid hb1; have hc1 : w1.cell? ⟨g, off, none⟩ = some (.int .u8 (c.toNat : Int)) := (hb1.cell (p := ⟨g, off, none⟩) HG.out).trans HC0.out; clear hb1)
          | (go_at_call 37; refine (isLetter_any c w1).mono ?_; rintro e w2 ⟨rfl, rfl⟩; rw [HL.out]))
        go_ret
        exact ⟨by rw [HK.out]; first | rfl | simp, HB1.out⟩
    · have HK : Hid (kindOf l = 0) := Lib.hid (by
        unfold kindOf
        rw [if_neg (by rw [hb]; simp)]
        match l, h1 with
        | [], _ => rfl
        | [c], h1 => exact absurd rfl h1
        | _ :: _ :: _, _ => rfl)
      have hz : ((l.length : Int) == 1) = false := beq_eq_false_iff_ne.2 (by omega)
      obtain ⟨ao, cap, rfl, hc⟩ := h
      clear hc hb hl h1
      go_enter Tryd.func28, Tryd.ntmps28
      go_wp2_with (go_at_call 29; refine (HI.out).mono ?_; rintro e w1 ⟨rfl, hb1⟩; have HB1 := Lib.hid hb1; clear hb1)
      go_ret
      exact ⟨by rw [HK.out]; first | rfl | simp, HB1.out⟩
end Go.Proofs.YtpmmnlgkeanplaaDoor

namespace Go.Proofs.YtpmmnlgkeanplaaDoor
open Go.RowKit

/-- Values that a slice holds. -/
def ArrAt (w : World) (v : Value) (vals : List Value) : Prop := ∃ g off cap, v = .slice (some ⟨g, off, none⟩) vals.length cap ∧ vals.length ≤ cap ∧ g < w.heap.size ∧ ∀ (i : Nat) u, vals[i]? = some u → w.cell? ⟨g, off + i, none⟩ = some u
theorem ArrAt.below {w w' : World} {v : Value} {l : List Value} (h : ArrAt w v l) (hb : Below w.heap.size w w') : ArrAt w' v l := by
  obtain ⟨g, off, cap, h1, h2, h3, h4⟩ := h
  exact ⟨g, off, cap, h1, h2, Nat.lt_of_lt_of_le h3 hb.size, fun i x hx => (hb.cell (p := ⟨g, off + i, none⟩) h3).trans (h4 i x hx)⟩
def byteV (S : List UInt8) : List Value := S.map fun x => .int .u8 (x.toNat : Int)
def boolV (I : List Bool) : List Value := I.map .bool
def intV (M : List Int) : List Value := M.map (.int .i64)

/-- What lies from a up to b. -/
def sub (S : List UInt8) (a b : Nat) : List UInt8 := (S.take b).drop a
theorem sub_len (S : List UInt8) (a b : Nat) (h : b ≤ S.length) : (sub S a b).length = b - a := by
  simp only [sub, List.length_drop, List.length_take]
  omega
theorem sub_at (S : List UInt8) (a b i : Nat) (x : UInt8) (h : (sub S a b)[i]? = some x) : S[a + i]? = some x := by
  unfold sub at h
  rw [List.getElem?_drop] at h
  have hlt := (List.getElem?_eq_some_iff.1 h).1
  rw [List.length_take] at hlt
  rwa [List.getElem?_take_of_lt (by omega)] at h
theorem sub_bytes {w : World} {g off cap : Nat} {S : List UInt8} (hg : g < w.heap.size) (hc : ∀ (i : Nat) u, (byteV S)[i]? = some u → w.cell? ⟨g, off + i, none⟩ = some u) (a b : Nat) (hab : a ≤ b) (hb : b ≤ S.length) (hcap : S.length ≤ cap) : BytesAt w (.slice (some ⟨g, off + a, none⟩) (b - a) (cap - a)) (sub S a b) := by
  refine ⟨_, cap - a, by rw [sub_len S a b hb], fun _ => ⟨g, off + a, rfl, by rw [sub_len S a b hb]; omega, hg, fun i x hx => ?_⟩⟩
  have h := hc (a + i) (.int .u8 (x.toNat : Int)) (by rw [byteV, List.getElem?_map, sub_at S a b i x hx]; rfl)
  rw [← Nat.add_assoc] at h
  exact h

/-- The pair's own level, read from left to right: none: a comma; else where it is parted. -/
def scanE (S : List UInt8) (I D : List Bool) (M : List Int) (k : Nat) : Nat → Nat → List Nat → Option (List Nat)
  | 0, _, seps => some seps
  | f + 1, p, seps =>
    if p < k then
      if I.getD p false = true then scanE S I D M k f (p + 1) seps
      else if S.getD p 0 = 123 ∧ (p : Int) < M.getD p 0 then scanE S I D M k f ((M.getD p 0).toNat + 1) seps
      else if S.getD p 0 = 44 then none
      else if D.getD p false = true then scanE S I D M k f (p + 2) (seps ++ [p])
      else scanE S I D M k f (p + 1) seps
    else some seps
def okEnds (a b : Nat) : Bool := !(a == 0) && !(b == 0) && (a == b)
def pairE (S : List UInt8) (I D : List Bool) (M : List Int) (i k : Nat) : Bool := match scanE S I D M k (S.length + 1) (i + 1) [] with
  | none => true
  | some [a] => okEnds (kindOf (sub S (i + 1) a)) (kindOf (sub S (a + 2) k))
  | some [a, b] => okEnds (kindOf (sub S (i + 1) a)) (kindOf (sub S (a + 2) b)) && intOk (sub S (b + 2) k)
  | some _ => false

/-- With enough fuel the amount does not matter. -/
theorem scanE_fuel (S : List UInt8) (I D : List Bool) (M : List Int) (k : Nat) : ∀ (f f2 p : Nat) (seps : List Nat), k < p + f → k < p + f2 → scanE S I D M k f p seps = scanE S I D M k f2 p seps := by
  intro f
  induction f with
  | zero =>
    intro f2 p seps h1 h2
    cases f2 with
    | zero => rfl
    | succ f2 => rw [scanE, scanE, if_neg (by omega)]
  | succ f ih =>
    intro f2 p seps h1 h2
    cases f2 with
    | zero => rw [scanE, scanE, if_neg (by omega)]
    | succ f2 =>
      rw [scanE, scanE]
      split
      · split
        · exact ih _ _ _ (by omega) (by omega)
        · split
          · exact ih _ _ _ (by omega) (by omega)
          · split
            · rfl
            · split
              · exact ih _ _ _ (by omega) (by omega)
              · exact ih _ _ _ (by omega) (by omega)
      · rfl
/-- One step, with fuel left as great as one likes. -/
theorem scanE_step (S : List UInt8) (I D : List Bool) (M : List Int) (k p : Nat) (seps : List Nat) (hk : k ≤ S.length) (hp : p < k) : scanE S I D M k (S.length + 1) p seps =
    if I.getD p false = true then scanE S I D M k (S.length + 1) (p + 1) seps
    else if S.getD p 0 = 123 ∧ (p : Int) < M.getD p 0 then scanE S I D M k (S.length + 1) ((M.getD p 0).toNat + 1) seps
    else if S.getD p 0 = 44 then none
    else if D.getD p false = true then scanE S I D M k (S.length + 1) (p + 2) (seps ++ [p])
    else scanE S I D M k (S.length + 1) (p + 1) seps := by
  have h := scanE_fuel S I D M k (S.length + 1) (S.length + 2) p seps (by omega) (by omega)
  rw [h, scanE, if_pos hp]
theorem scanE_end (S : List UInt8) (I D : List Bool) (M : List Int) (k p : Nat) (seps : List Nat) (hp : k ≤ p) : scanE S I D M k (S.length + 1) p seps = some seps := by
  rw [scanE, if_neg (by omega)]

/-- What is known of the places where the level is parted. -/
def Sep (i k p : Nat) (seps : List Nat) : Prop := i + 1 ≤ p ∧ (∀ a, seps[0]? = some a → i + 1 ≤ a ∧ a + 2 ≤ k ∧ a + 2 ≤ p) ∧ ∀ a b, seps[0]? = some a → seps[1]? = some b → a + 2 ≤ b ∧ b + 2 ≤ k ∧ b + 2 ≤ p
theorem Sep.go {i k p q : Nat} {seps : List Nat} (h : Sep i k p seps) (hq : p ≤ q) : Sep i k q seps :=
  ⟨by have := h.1; omega, fun a ha => by have := h.2.1 a ha; omega, fun a b ha hb => by have := h.2.2 a b ha hb; omega⟩
theorem Sep.more {i k p : Nat} {seps : List Nat} (h : Sep i k p seps) (hp : p + 2 ≤ k) : Sep i k (p + 2) (seps ++ [p]) := by
  obtain ⟨h1, h2, h3⟩ := h
  match seps, h2, h3 with
  | [], _, _ =>
    refine ⟨by omega, fun a ha => ?_, fun a b _ hb => by simp at hb⟩
    simp at ha
    omega
  | [x], h2, _ =>
    have hx := h2 x rfl
    refine ⟨by omega, fun a ha => ?_, fun a b ha hb => ?_⟩
    · simp at ha
      omega
    · simp at ha hb
      omega
  | x :: y :: r, h2, h3 =>
    have hx := h2 x rfl
    have hy := h3 x y rfl rfl
    refine ⟨by omega, fun a ha => ?_, fun a b ha hb => ?_⟩
    · simp at ha
      omega
    · simp at ha hb
      omega
def sepV (seps : List Nat) : Array Value := #[.int .i64 (seps.getD 0 0 : Nat), .int .i64 (seps.getD 1 0 : Nat), .int .i64 (seps.getD 2 0 : Nat)]

theorem arr_get {w : World} {g off : Nat} {vals : List Value} (hc : ∀ (i : Nat) u, vals[i]? = some u → w.cell? ⟨g, off + i, none⟩ = some u) {p : Nat} (hp : p < vals.length) : w.cell? ⟨g, off + p, none⟩ = some (vals[p]) := hc p _ (List.getElem?_eq_getElem hp)
theorem byteV_get (S : List UInt8) (p : Nat) (hp : p < S.length) : (byteV S)[p]? = some (.int .u8 ((S.getD p 0).toNat : Int)) := by
  rw [byteV, List.getElem?_map, List.getElem?_eq_getElem hp, List.getD_eq_getElem?_getD, List.getElem?_eq_getElem hp]
  rfl
theorem boolV_get (I : List Bool) (p : Nat) (hp : p < I.length) : (boolV I)[p]? = some (.bool (I.getD p false)) := by
  rw [boolV, List.getElem?_map, List.getElem?_eq_getElem hp, List.getD_eq_getElem?_getD, List.getElem?_eq_getElem hp]
  rfl
theorem intV_get (M : List Int) (p : Nat) (hp : p < M.length) : (intV M)[p]? = some (.int .i64 (M.getD p 0)) := by
  rw [intV, List.getElem?_map, List.getElem?_eq_getElem hp, List.getD_eq_getElem?_getD, List.getElem?_eq_getElem hp]
  rfl
end Go.Proofs.YtpmmnlgkeanplaaDoor

namespace Go.Proofs.YtpmmnlgkeanplaaDoor
open Go.RowKit

/-- A piece of the text, handed to the law's helpers. -/
theorem piece {gS oS cS : Nat} {S : List UInt8} {w : World} {Z : Nat} (hS : gS < w.heap.size ∧ ∀ (i : Nat) u, (byteV S)[i]? = some u → w.cell? ⟨gS, oS + i, none⟩ = some u) (hZ : w.heap.size = Z) (hcap : S.length ≤ cS) (hn : S.length ≤ 100000) (a b : Nat) (hab : a ≤ b) (hb : b ≤ S.length) (W : World) (hW : Below Z w W) :
    (sub S a b).length ≤ 100000 ∧ BytesAt W (.slice (some ⟨gS, oS + a, none⟩) (b - a) (cS - a)) (sub S a b) := by
  subst hZ
  exact ⟨by rw [sub_len S a b hb]; omega, (sub_bytes hS.1 hS.2 a b hab hb hcap).below hW⟩

set_option maxRecDepth 100000 in
set_option maxHeartbeats 2000000 in
theorem pair_any (vS vI vD vM : Value) (S : List UInt8) (I D : List Bool) (M : List Int) (i k : Nat) (w : World) (hS : ArrAt w vS (byteV S)) (hI : ArrAt w vI (boolV I)) (hD : ArrAt w vD (boolV D)) (hM : ArrAt w vM (intV M))
    (hn : S.length ≤ 100000) (hIl : I.length = S.length) (hDl : D.length = S.length) (hMl : M.length = S.length) (hik : i < k) (hkn : k < S.length)
    (hdd : ∀ p, p < k → D.getD p false = true → p + 2 ≤ k) (hmm : ∀ p, M.getD p 0 < S.length ∧ -1 ≤ M.getD p 0) :
    Calls Tryd.prog 14 #[vS, vI, vD, vM, .int .i64 (i : Int), .int .i64 (k : Int)] w fun e w' => e = .returned (.bool (pairE S I D M i k)) ∧ Below w.heap.size w w' := by
  obtain ⟨gS, oS, cS, rfl, hS1, hS2, hS3⟩ := hS
  obtain ⟨gI, oI, cI, rfl, hI1, hI2, hI3⟩ := hI
  obtain ⟨gD, oD, cD, rfl, hD1, hD2, hD3⟩ := hD
  obtain ⟨gM, oM, cM, rfl, hM1, hM2, hM3⟩ := hM
  have lS : (byteV S).length = S.length := by simp [byteV]
  have lI : (boolV I).length = S.length := by simp [boolV, hIl]
  have lD : (boolV D).length = S.length := by simp [boolV, hDl]
  have lM : (intV M).length = S.length := by simp [intV, hMl]
  rw [lS] at hS1 ⊢
  rw [lI] at hI1 ⊢
  rw [lD] at hD1 ⊢
  rw [lM] at hM1 ⊢
  have HS := Lib.hid (And.intro hS2 hS3)
  have HI := Lib.hid (And.intro hI2 hI3)
  have HD := Lib.hid (And.intro hD2 hD3)
  have HM := Lib.hid (And.intro hM2 hM3)
  have HL := Lib.hid (And.intro hIl (And.intro hDl hMl))
  have HDD := Lib.hid hdd
  have HMM := Lib.hid hmm
  have hkz : (i : Int) < (k : Int) ∧ (k : Int) < (S.length : Int) ∧ (S.length : Int) ≤ 100000 := by omega
  clear hS2 hS3 hI2 hI3 hD2 hD3 hM2 hM3 hIl hDl hMl hdd hmm lS lI lD lM
  go_enter Tryd.func14, Tryd.ntmps14
  go_wp2
  obtain ⟨Z, hZ⟩ : ∃ Z, w.heap.size = Z := ⟨_, rfl⟩
  have HZ := Lib.hid hZ
  have HW1 := Lib.hid (And.intro (heap_alloc_new w (.cells #[.int .i64 0, .int .i64 0, .int .i64 0] 65)) ((Below.refl w.heap.size w).alloc (Nat.le_refl _) (.cells #[.int .i64 0, .int .i64 0, .int .i64 0] 65)))
  rw [hZ] at HW1 ⊢
  clear hZ
  go_loopg [14, 15] (S.length - (i + 1)) (fun gk s14 s15 wr => ∃ (p : Nat) (seps : List Nat), gk = S.length - p ∧ s14 = .int .i64 (seps.length : Int) ∧ s15 = .int .i64 (p : Int) ∧ Sep i k p seps ∧ p ≤ S.length ∧ seps.length ≤ p ∧ Hid (scanE S I D M k (S.length + 1) p seps = scanE S I D M k (S.length + 1) (i + 1) []) ∧ wr.heap[Z]? = some (.cells (sepV seps) 65 (0, 0)) ∧ Below Z w wr)
  case atStart => exact ⟨i + 1, [], rfl, rfl, by first | rfl | simp, ⟨Nat.le_refl _, fun a h => by simp at h, fun a b h => by simp at h⟩, by omega, Nat.zero_le _, Lib.hid rfl, HW1.out.1, HW1.out.2⟩
  case round =>
    clear HW1
    obtain ⟨p, seps, rfl, rfl, rfl, hsep, hpn, hcp, HSC, hz, hbw⟩ := hrel
    have HSEP := Lib.hid hsep
    have HBW := Lib.hid (And.intro hz hbw)
    have HCP := Lib.hid hcp
    have hcz : (seps.length : Int) ≤ (p : Int) ∧ (p : Int) ≤ (S.length : Int) ∧ (0 : Int) ≤ (seps.length : Int) := by omega
    clear hcp
    by_cases hlt : p < k
    · have hlz : (p : Int) < (k : Int) := by omega
      have c1 := (hbw.cell (p := ⟨gI, oI + p, none⟩) (by have := HI.out.1; rw [HZ.out] at this; exact this)).trans (HI.out.2 p _ (boolV_get I p (by rw [HL.out.1]; omega)))
      have c2 := (hbw.cell (p := ⟨gS, oS + p, none⟩) (by have := HS.out.1; rw [HZ.out] at this; exact this)).trans (HS.out.2 p _ (byteV_get S p (by omega)))
      have c3 := (hbw.cell (p := ⟨gD, oD + p, none⟩) (by have := HD.out.1; rw [HZ.out] at this; exact this)).trans (HD.out.2 p _ (boolV_get D p (by rw [HL.out.2.1]; omega)))
      have c4 := (hbw.cell (p := ⟨gM, oM + p, none⟩) (by have := HM.out.1; rw [HZ.out] at this; exact this)).trans (HM.out.2 p _ (intV_get M p (by rw [HL.out.2.2]; omega)))
      have HST := Lib.hid (HSC.out.symm.trans (scanE_step S I D M k p seps (by omega) hlt)).symm
      have hm0 := HMM.out p
      have HDP := Lib.hid (HDD.out p hlt)
      clear hz hbw hsep
      generalize I.getD p false = bI at *
      generalize D.getD p false = bD at *
      generalize M.getD p 0 = m at *
      generalize S.getD p 0 = x at *
      cases bI with
      | true =>
        go_wp2
        go_roundg (S.length - (p + 1))
        case measure => omega
        case rel => exact ⟨p + 1, seps, rfl, rfl, by first | rfl | simp, HSEP.out.go (by omega), by omega, by have := HCP.out; omega, Lib.hid HST.out, HBW.out.1, HBW.out.2⟩
      | false =>
        have hx0 : (0 : Int) ≤ (x.toNat : Int) ∧ (x.toNat : Int) ≤ 255 := by have := x.toNat_lt; omega
        by_cases hj : x.toNat = 123 ∧ (p : Int) < m
        · have hj1 : ((x.toNat : Int) == 123) = true := by rw [hj.1]; rfl
          have hj2 := hj.2
          have HX : Hid (x = 123) := Lib.hid (UInt8.toNat_inj.1 hj.1)
          clear hj
          go_wp2
          go_roundg (S.length - (m.toNat + 1))
          case measure => omega
          case rel => exact ⟨m.toNat + 1, seps, rfl, rfl, by first | rfl | (simp; omega), HSEP.out.go (by omega), by omega, by have := HCP.out; omega, Lib.hid (by
            have h := HST.out
            rw [if_neg (by simp), if_pos ⟨HX.out, hj2⟩] at h
            exact h), HBW.out.1, HBW.out.2⟩
        · have HJ : Hid (¬ (x = 123 ∧ (p : Int) < m)) := Lib.hid (fun e => hj ⟨by rw [e.1]; rfl, e.2⟩)
          have hjj : ((x.toNat : Int) == 123) = false ∨ (((x.toNat : Int) == 123) = true ∧ ¬ (p : Int) < m) := by
            by_cases e : x.toNat = 123
            · exact Or.inr ⟨by rw [e]; rfl, fun h => hj ⟨e, h⟩⟩
            · exact Or.inl (beq_eq_false_iff_ne.2 (by omega))
          clear hj
          have HST2 := Lib.hid (show (if x = 44 then none else if bD = true then scanE S I D M k (S.length + 1) (p + 2) (seps ++ [p]) else scanE S I D M k (S.length + 1) (p + 1) seps) = scanE S I D M k (S.length + 1) (i + 1) [] by
            have h := HST.out
            rw [if_neg (by simp), if_neg HJ.out] at h
            exact h)
          by_cases hc : x.toNat = 44
          · have hc1 : ((x.toNat : Int) == 44) = true := by rw [hc]; rfl
            have hc2 : ((x.toNat : Int) == 123) = false := by rw [hc]; rfl
            have HR : Hid (pairE S I D M i k = true) := Lib.hid (by
              have h := HST2.out
              rw [if_pos (UInt8.toNat_inj.1 hc)] at h
              unfold pairE
              rw [← h])
            clear hjj hc
            go_wp2
            go_ret
            exact ⟨by rw [HR.out]; first | rfl | simp, by rw [HZ.out]; exact HBW.out.2⟩
          · have hc1 : ((x.toNat : Int) == 44) = false := beq_eq_false_iff_ne.2 (by omega)
            have HST3 := Lib.hid (show (if bD = true then scanE S I D M k (S.length + 1) (p + 2) (seps ++ [p]) else scanE S I D M k (S.length + 1) (p + 1) seps) = scanE S I D M k (S.length + 1) (i + 1) [] by
              have h := HST2.out
              rw [if_neg (fun e => hc (by rw [e]; rfl))] at h
              exact h)
            clear hc HST HST2
            cases bD with
            | false =>
              rcases hjj with hjj | ⟨hjj, hjk⟩
              all_goals
                go_wp2
                go_roundg (S.length - (p + 1))
                case measure => omega
                case rel => exact ⟨p + 1, seps, rfl, rfl, by first | rfl | simp, HSEP.out.go (by omega), by omega, by have := HCP.out; omega, Lib.hid HST3.out, HBW.out.1, HBW.out.2⟩
            | true =>
              have hp2 := HDP.out rfl
              have hcz1 : wr.frozen? ⟨Z, 0, none⟩ = false := Lib.frozen_of_heap HBW.out.1 0
              have hcz2 : wr.frozen? ⟨Z, 1, none⟩ = false := Lib.frozen_of_heap HBW.out.1 1
              have hcz3 : wr.frozen? ⟨Z, 2, none⟩ = false := Lib.frozen_of_heap HBW.out.1 2
              have hcc1 : wr.cell? ⟨Z, 0, none⟩ = some (.int .i64 (seps.getD 0 0 : Nat)) := (Lib.cell_of_heap HBW.out.1 0).trans rfl
              have hcc2 : wr.cell? ⟨Z, 1, none⟩ = some (.int .i64 (seps.getD 1 0 : Nat)) := (Lib.cell_of_heap HBW.out.1 1).trans rfl
              have hcc3 : wr.cell? ⟨Z, 2, none⟩ = some (.int .i64 (seps.getD 2 0 : Nat)) := (Lib.cell_of_heap HBW.out.1 2).trans rfl
              match seps, HSEP, HBW, HCP, HST3, hcz, hcc1, hcc2, hcc3 with
              | [], HSEP, HBW, HCP, HST3, hcz, hcc1, hcc2, hcc3 =>
                rcases hjj with hjj | ⟨hjj, hjk⟩
                all_goals
                  go_wp2
                  go_roundg (S.length - (p + 2))
                  case measure => omega
                  case rel => exact ⟨p + 2, [p], rfl, by first | rfl | simp, by first | rfl | simp, HSEP.out.more hp2, by omega, by simp, Lib.hid HST3.out, by rw [heap_setCell_same _ _ _ _ _ _ HBW.out.1]; rfl, HBW.out.2.setCell (p := ⟨Z, 0, none⟩) (Nat.le_refl _) _⟩
              | [a], HSEP, HBW, HCP, HST3, hcz, hcc1, hcc2, hcc3 =>
                rcases hjj with hjj | ⟨hjj, hjk⟩
                all_goals
                  go_wp2
                  go_roundg (S.length - (p + 2))
                  case measure => omega
                  case rel => exact ⟨p + 2, [a, p], rfl, by first | rfl | simp, by first | rfl | simp, HSEP.out.more hp2, by omega, by simp, Lib.hid HST3.out, by rw [heap_setCell_same _ _ _ _ _ _ HBW.out.1]; rfl, HBW.out.2.setCell (p := ⟨Z, 1, none⟩) (Nat.le_refl _) _⟩
              | [a, b], HSEP, HBW, HCP, HST3, hcz, hcc1, hcc2, hcc3 =>
                rcases hjj with hjj | ⟨hjj, hjk⟩
                all_goals
                  go_wp2
                  go_roundg (S.length - (p + 2))
                  case measure => omega
                  case rel => exact ⟨p + 2, [a, b, p], rfl, by first | rfl | simp, by first | rfl | simp, HSEP.out.more hp2, by omega, by have := HCP.out; simp at this ⊢; omega, Lib.hid HST3.out, by rw [heap_setCell_same _ _ _ _ _ _ HBW.out.1]; rfl, HBW.out.2.setCell (p := ⟨Z, 2, none⟩) (Nat.le_refl _) _⟩
              | a :: b :: d :: r, HSEP, HBW, HCP, HST3, hcz, hcc1, hcc2, hcc3 =>
                have hge : ¬ ((a :: b :: d :: r).length : Int) < 3 := by simp; omega
                have hln : (a :: b :: d :: r).length ≤ p := HCP.out
                generalize hsq : a :: b :: d :: r = sq at *
                rcases hjj with hjj | ⟨hjj, hjk⟩
                all_goals
                  go_wp2
                  go_roundg (S.length - (p + 2))
                  case measure => omega
                  case rel => exact ⟨p + 2, sq ++ [p], rfl, by first | rfl | simp, by first | rfl | simp, HSEP.out.more hp2, by omega, by simp; omega, Lib.hid HST3.out, by rw [HBW.out.1, ← hsq]; rfl, HBW.out.2⟩
    · have HR : Hid (scanE S I D M k (S.length + 1) (i + 1) [] = some seps) := Lib.hid (by rw [← HSC.out]; exact scanE_end S I D M k p seps (by omega))
      match seps, HR, HBW, HSEP, HCP, hsep, hcz, hz with
      | [], HR, HBW, HSEP, HCP, hsep, hcz, hz =>
        have HR2 : Hid (pairE S I D M i k = false) := Lib.hid (by unfold pairE; rw [HR.out])
        clear hsep hz hbw hcz
        go_wp2
        go_ret
        exact ⟨by rw [HR2.out]; first | rfl | simp, by rw [HZ.out]; exact HBW.out.2⟩
      | [a], HR, HBW, HSEP, HCP, hsep, hcz, hz =>
        obtain ⟨ha1, ha2, ha3⟩ := hsep.2.1 a rfl
        have hcc1 : wr.cell? ⟨Z, 0, none⟩ = some (.int .i64 (a : Int)) := (Lib.cell_of_heap HBW.out.1 0).trans rfl
        have hZlt : Z < wr.heap.size := (Array.getElem?_eq_some_iff.1 HBW.out.1).1
        have HC1 := Lib.hid hcc1
        have HZL := Lib.hid hZlt
        have haz : (a : Int) + 2 ≤ (k : Int) ∧ (i : Int) + 1 ≤ (a : Int) := by omega
        have hsl1 := fun W => slice_both W gS oS S.length cS (i + 1) a (by omega) (by omega) (by omega)
        have hsl2 := fun W => slice_both W gS oS S.length cS (a + 2) k (by omega) (by omega) (by omega)
        rw [Int.natCast_add] at hsl1 hsl2
        have HP1 := Lib.hid (piece HS.out HZ.out hS1 hn (i + 1) a (by omega) (by omega))
        have HP2 := Lib.hid (piece HS.out HZ.out hS1 hn (a + 2) k (by omega) (by omega))
        obtain ⟨q0, hq0⟩ : ∃ q0, kindOf (sub S (i + 1) a) = q0 := ⟨_, rfl⟩
        obtain ⟨q1, hq1⟩ : ∃ q1, kindOf (sub S (a + 2) k) = q1 := ⟨_, rfl⟩
        have HQ0 := Lib.hid hq0
        have HQ1 := Lib.hid hq1
        have HR2 : Hid (pairE S I D M i k = okEnds q0 q1) := Lib.hid (by
          unfold pairE
          rw [HR.out, hq0.symm, hq1.symm])
        clear hq0 hq1 hsep hz hbw hcz hpn
        go_upto_region 24 with (go_at_call 28; refine (kind_any _ _ wr (HP1.out wr HBW.out.2).1 (HP1.out wr HBW.out.2).2).mono ?_; rintro e w2 ⟨rfl, hb2⟩; rw [HQ0.out]; have HB2 := Lib.hid (HBW.out.2.trans (hb2.mono (Nat.le_of_lt HZL.out))); have hd1 : w2.cell? ⟨Z, 0, none⟩ = some (.int .i64 (a : Int)) := (hb2.cell (p := ⟨Z, 0, none⟩) HZL.out).trans HC1.out; have HZ2 := Lib.hid (Nat.lt_of_lt_of_le HZL.out hb2.size); clear hb2)
        go_upto_region 25 with (go_at_call 28; refine (kind_any _ _ w2 (HP2.out w2 HB2.out).1 (HP2.out w2 HB2.out).2).mono ?_; rintro e w3 ⟨rfl, hb3⟩; rw [HQ1.out]; have HB3 := Lib.hid (HB2.out.trans (hb3.mono (Nat.le_of_lt HZ2.out))); clear hb3)
        have hres : (((q0 : Int) == 0) = true ∧ okEnds q0 q1 = false) ∨ (((q0 : Int) == 0) = false ∧ ((q1 : Int) == 0) = true ∧ okEnds q0 q1 = false) ∨ (((q0 : Int) == 0) = false ∧ ((q1 : Int) == 0) = false ∧ ((q0 : Int) != (q1 : Int)) = true ∧ okEnds q0 q1 = false) ∨ (((q0 : Int) == 0) = false ∧ ((q1 : Int) == 0) = false ∧ ((q0 : Int) != (q1 : Int)) = false ∧ okEnds q0 q1 = true) := by
          by_cases e0 : q0 = 0
          · exact Or.inl ⟨by rw [e0]; rfl, by rw [e0]; rfl⟩
          · have f0 : ((q0 : Int) == 0) = false := beq_eq_false_iff_ne.2 (by omega)
            by_cases e1 : q1 = 0
            · exact Or.inr (Or.inl ⟨f0, by rw [e1]; rfl, by simp [okEnds, e1]⟩)
            · have f1 : ((q1 : Int) == 0) = false := beq_eq_false_iff_ne.2 (by omega)
              by_cases e2 : q0 = q1
              · exact Or.inr (Or.inr (Or.inr ⟨f0, f1, by rw [e2]; simp, by simp [okEnds, e1, e2]⟩))
              · exact Or.inr (Or.inr (Or.inl ⟨f0, f1, by simp; omega, by simp [okEnds, e2]⟩))
        rcases hres with ⟨r1, r2⟩ | ⟨r1, r3, r2⟩ | ⟨r1, r3, r4, r2⟩ | ⟨r1, r3, r4, r2⟩
        · rw [r2] at HR2
          go_wp2
          go_ret
          exact ⟨by rw [HR2.out]; first | rfl | simp, by rw [HZ.out]; exact HB3.out⟩
        · rw [r2] at HR2
          go_wp2
          go_ret
          exact ⟨by rw [HR2.out]; first | rfl | simp, by rw [HZ.out]; exact HB3.out⟩
        · rw [r2] at HR2
          go_wp2
          go_ret
          exact ⟨by rw [HR2.out]; first | rfl | simp, by rw [HZ.out]; exact HB3.out⟩
        · rw [r2] at HR2
          go_wp2
          go_ret
          exact ⟨by rw [HR2.out]; first | rfl | simp, by rw [HZ.out]; exact HB3.out⟩
      | [a, b], HR, HBW, HSEP, HCP, hsep, hcz, hz =>
        obtain ⟨ha1, ha2, ha3⟩ := hsep.2.1 a rfl
        obtain ⟨hb1, hb2, hb3⟩ := hsep.2.2 a b rfl rfl
        have hcc1 : wr.cell? ⟨Z, 0, none⟩ = some (.int .i64 (a : Int)) := (Lib.cell_of_heap HBW.out.1 0).trans rfl
        have hcc2 : wr.cell? ⟨Z, 1, none⟩ = some (.int .i64 (b : Int)) := (Lib.cell_of_heap HBW.out.1 1).trans rfl
        have HC2 := Lib.hid hcc2
        have hZlt : Z < wr.heap.size := (Array.getElem?_eq_some_iff.1 HBW.out.1).1
        have HC1 := Lib.hid hcc1
        have HZL := Lib.hid hZlt
        have haz : (a : Int) + 2 ≤ (k : Int) ∧ (i : Int) + 1 ≤ (a : Int) := by omega
        have hbz : (a : Int) + 2 ≤ (b : Int) ∧ (b : Int) + 2 ≤ (k : Int) := by omega
        have hsl1 := fun W => slice_both W gS oS S.length cS (i + 1) a (by omega) (by omega) (by omega)
        have hsl2 := fun W => slice_both W gS oS S.length cS (a + 2) b (by omega) (by omega) (by omega)
        rw [Int.natCast_add] at hsl1 hsl2
        have hsl3 := fun W => slice_both W gS oS S.length cS (b + 2) k (by omega) (by omega) (by omega)
        rw [Int.natCast_add] at hsl3
        have HP1 := Lib.hid (piece HS.out HZ.out hS1 hn (i + 1) a (by omega) (by omega))
        have HP2 := Lib.hid (piece HS.out HZ.out hS1 hn (a + 2) b (by omega) (by omega))
        have HP3 := Lib.hid (piece HS.out HZ.out hS1 hn (b + 2) k (by omega) (by omega))
        obtain ⟨q0, hq0⟩ : ∃ q0, kindOf (sub S (i + 1) a) = q0 := ⟨_, rfl⟩
        obtain ⟨q1, hq1⟩ : ∃ q1, kindOf (sub S (a + 2) b) = q1 := ⟨_, rfl⟩
        have HQ0 := Lib.hid hq0
        have HQ1 := Lib.hid hq1
        obtain ⟨b2, hq2⟩ : ∃ b2, intOk (sub S (b + 2) k) = b2 := ⟨_, rfl⟩
        have HQ2 := Lib.hid hq2
        have HR2 : Hid (pairE S I D M i k = (okEnds q0 q1 && b2)) := Lib.hid (by
          unfold pairE
          rw [HR.out, hq0.symm, hq1.symm, hq2.symm])
        clear hq2
        clear hq0 hq1 hsep hz hbw hcz hpn
        go_upto_region 24 with (go_at_call 28; refine (kind_any _ _ wr (HP1.out wr HBW.out.2).1 (HP1.out wr HBW.out.2).2).mono ?_; rintro e w2 ⟨rfl, hb2⟩; rw [HQ0.out]; have HB2 := Lib.hid (HBW.out.2.trans (hb2.mono (Nat.le_of_lt HZL.out))); have hd1 : w2.cell? ⟨Z, 0, none⟩ = some (.int .i64 (a : Int)) := (hb2.cell (p := ⟨Z, 0, none⟩) HZL.out).trans HC1.out; have hd2 : w2.cell? ⟨Z, 1, none⟩ = some (.int .i64 (b : Int)) := (hb2.cell (p := ⟨Z, 1, none⟩) HZL.out).trans HC2.out; have HD2 := Lib.hid hd2; have HZ2 := Lib.hid (Nat.lt_of_lt_of_le HZL.out hb2.size); clear hb2)
        go_upto_region 25 with (go_at_call 28; refine (kind_any _ _ w2 (HP2.out w2 HB2.out).1 (HP2.out w2 HB2.out).2).mono ?_; rintro e w3 ⟨rfl, hb3⟩; rw [HQ1.out]; have HB3 := Lib.hid (HB2.out.trans (hb3.mono (Nat.le_of_lt HZ2.out))); have he2 : w3.cell? ⟨Z, 1, none⟩ = some (.int .i64 (b : Int)) := (hb3.cell (p := ⟨Z, 1, none⟩) HZ2.out).trans HD2.out; clear hb3)
        have hres : (((q0 : Int) == 0) = true ∧ okEnds q0 q1 = false) ∨ (((q0 : Int) == 0) = false ∧ ((q1 : Int) == 0) = true ∧ okEnds q0 q1 = false) ∨ (((q0 : Int) == 0) = false ∧ ((q1 : Int) == 0) = false ∧ ((q0 : Int) != (q1 : Int)) = true ∧ okEnds q0 q1 = false) ∨ (((q0 : Int) == 0) = false ∧ ((q1 : Int) == 0) = false ∧ ((q0 : Int) != (q1 : Int)) = false ∧ okEnds q0 q1 = true) := by
          by_cases e0 : q0 = 0
          · exact Or.inl ⟨by rw [e0]; rfl, by rw [e0]; rfl⟩
          · have f0 : ((q0 : Int) == 0) = false := beq_eq_false_iff_ne.2 (by omega)
            by_cases e1 : q1 = 0
            · exact Or.inr (Or.inl ⟨f0, by rw [e1]; rfl, by simp [okEnds, e1]⟩)
            · have f1 : ((q1 : Int) == 0) = false := beq_eq_false_iff_ne.2 (by omega)
              by_cases e2 : q0 = q1
              · exact Or.inr (Or.inr (Or.inr ⟨f0, f1, by rw [e2]; simp, by simp [okEnds, e1, e2]⟩))
              · exact Or.inr (Or.inr (Or.inl ⟨f0, f1, by simp; omega, by simp [okEnds, e2]⟩))
        rcases hres with ⟨r1, r2⟩ | ⟨r1, r3, r2⟩ | ⟨r1, r3, r4, r2⟩ | ⟨r1, r3, r4, r2⟩
        · rw [r2] at HR2
          go_wp2
          go_ret
          exact ⟨by rw [HR2.out]; first | rfl | simp, by rw [HZ.out]; exact HB3.out⟩
        · rw [r2] at HR2
          go_wp2
          go_ret
          exact ⟨by rw [HR2.out]; first | rfl | simp, by rw [HZ.out]; exact HB3.out⟩
        · rw [r2] at HR2
          go_wp2
          go_ret
          exact ⟨by rw [HR2.out]; first | rfl | simp, by rw [HZ.out]; exact HB3.out⟩
        · rw [r2] at HR2
          cases b2
          all_goals
            go_wp2_with (go_at_call 29; refine (isInt_any _ _ w3 (HP3.out w3 HB3.out).1 (HP3.out w3 HB3.out).2).mono ?_; rintro e w4 ⟨rfl, hb4⟩; rw [HQ2.out]; have HB4 := Lib.hid (HB3.out.trans (hb4.mono (by have := HB3.out.size; have := HZ.out; omega))); clear hb4)
            go_ret
            exact ⟨by rw [HR2.out]; first | rfl | simp, by rw [HZ.out]; exact HB4.out⟩
      | a :: b :: d :: r, HR, HBW, HSEP, HCP, hsep, hcz, hz =>
        have HR2 : Hid (pairE S I D M i k = false) := Lib.hid (by unfold pairE; rw [HR.out])
        have hge : (2 : Int) < ((a :: b :: d :: r).length : Int) := by simp; omega
        have hge0 : (((a :: b :: d :: r).length : Int) == 0) = false := beq_eq_false_iff_ne.2 (by omega)
        clear hsep hz hbw HSC
        generalize hsq : a :: b :: d :: r = sq at *
        go_wp2
        go_ret
        exact ⟨by rw [HR2.out]; first | rfl | simp, by rw [HZ.out]; exact HBW.out.2⟩
end Go.Proofs.YtpmmnlgkeanplaaDoor
