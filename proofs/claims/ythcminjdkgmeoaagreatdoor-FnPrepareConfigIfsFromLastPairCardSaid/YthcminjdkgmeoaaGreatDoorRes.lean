/-
  Plain law: the pairs of an environment, ordered by their names, the last of each kept. No program in sight.
-/
import Derived.Test.YthcminjdkgmeoaaGreatDoorSrt
import Derived.Lib.Bytealg
namespace Go.Proofs.YthcminjdkgmeoaaGreatDoor.Stb
open Go.Lib

/-! ### The comparison of bytes -/
theorem cb_refl : ∀ a : List UInt8, compareBytes a a = 0
  | [] => rfl
  | x :: r => by
    have h : ¬ x < x := by rw [UInt8.lt_iff_toNat_lt]; omega
    rw [compareBytes, if_neg h, if_neg h, cb_refl r]
theorem cb_eq : ∀ a b : List UInt8, compareBytes a b = 0 → a = b
  | [], [], _ => rfl
  | [], _ :: _, h => by simp [compareBytes] at h
  | _ :: _, [], h => by simp [compareBytes] at h
  | x :: r, y :: s, h => by
    rw [compareBytes] at h
    split at h
    · cases h
    · split at h
      · cases h
      · rename_i h1 h2
        rw [UInt8.lt_iff_toNat_lt] at h1 h2
        have e : x = y := UInt8.toNat_inj.1 (by omega)
        rw [e, cb_eq r s h]
theorem cb_anti : ∀ a b : List UInt8, compareBytes a b = - compareBytes b a
  | [], [] => rfl
  | [], _ :: _ => rfl
  | _ :: _, [] => rfl
  | x :: r, y :: s => by
    rw [compareBytes, compareBytes, cb_anti r s]
    by_cases h1 : x < y
    · have h2 : ¬ y < x := by rw [UInt8.lt_iff_toNat_lt] at *; omega
      rw [if_pos h1, if_neg h2, if_pos h1]
    · by_cases h2 : y < x
      · rw [if_neg h1, if_pos h2, if_pos h2]
        rfl
      · rw [if_neg h1, if_neg h2, if_neg h2, if_neg h1]
theorem cb_tr : ∀ a b c : List UInt8, compareBytes a b < 0 → compareBytes b c < 0 → compareBytes a c < 0
  | [], [], _, h, _ => by simp [compareBytes] at h
  | [], _ :: _, [], _, h => by simp [compareBytes] at h
  | [], _ :: _, _ :: _, _, _ => by simp [compareBytes]
  | _ :: _, [], _, h, _ => by simp [compareBytes] at h
  | _ :: _, _ :: _, [], _, h => by simp [compareBytes] at h
  | x :: r, y :: s, z :: t, h1, h2 => by
    rw [compareBytes] at h1 h2 ⊢
    by_cases a1 : x < y
    · by_cases b1 : y < z
      · rw [if_pos (by rw [UInt8.lt_iff_toNat_lt] at *; omega)]
        decide
      · rw [if_neg b1] at h2
        by_cases b2 : z < y
        · rw [if_pos b2] at h2
          omega
        · rw [if_pos (by rw [UInt8.lt_iff_toNat_lt] at *; omega)]
          decide
    · rw [if_neg a1] at h1
      by_cases a2 : y < x
      · rw [if_pos a2] at h1
        omega
      · rw [if_neg a2] at h1
        have e : x = y := UInt8.toNat_inj.1 (by rw [UInt8.lt_iff_toNat_lt] at *; omega)
        rw [e]
        by_cases b1 : y < z
        · rw [if_pos b1]
          decide
        · rw [if_neg b1] at h2 ⊢
          by_cases b2 : z < y
          · rw [if_pos b2] at h2
            omega
          · rw [if_neg b2] at h2 ⊢
            exact cb_tr r s t h1 h2
theorem cb_neg (a b c : List UInt8) (h1 : ¬ compareBytes a b < 0) (h2 : ¬ compareBytes b c < 0) : ¬ compareBytes a c < 0 := by
  intro h
  have a1 := cb_anti b c
  by_cases e : compareBytes b c = 0
  · have := cb_eq _ _ e
    rw [← this] at h
    exact h1 h
  · exact h1 (cb_tr a c b h (by rw [cb_anti]; omega))

/-! ### Names -/
def eqP (s : List UInt8) : Nat := (s.takeWhile (fun c => c.toNat != 61)).length
/-- The name and its '='; nothing where there is no '='. -/
def key (s : List UInt8) : List UInt8 := if eqP s < s.length then s.take (eqP s + 1) else []
def name (s : List UInt8) : List UInt8 := s.take (eqP s)
def valid (s : List UInt8) : Bool := decide (0 < eqP s ∧ eqP s < s.length)
theorem eqP_split (s : List UInt8) (h : eqP s < s.length) : ∃ v, s = name s ++ 61 :: v ∧ (∀ x ∈ name s, x.toNat ≠ 61) ∧ key s = name s ++ [61] := by
  have ha := List.takeWhile_append_dropWhile (p := fun c : UInt8 => c.toNat != 61) (l := s)
  have hn : name s = s.takeWhile (fun c => c.toNat != 61) := by
    unfold name eqP
    exact (List.prefix_iff_eq_take.1 (List.takeWhile_prefix _)).symm
  have hall : ∀ x ∈ name s, x.toNat ≠ 61 := fun x hx => by
    rw [hn] at hx
    have := List.all_eq_true.1 (List.all_takeWhile (l := s) (p := fun c => c.toNat != 61)) x hx
    simpa using this
  cases hd : s.dropWhile (fun c : UInt8 => c.toNat != 61) with
  | nil =>
    rw [hd, List.append_nil] at ha
    unfold eqP at h
    rw [ha] at h
    omega
  | cons y v =>
    have hy : y.toNat = 61 := by
      have := List.head?_dropWhile_not (fun c : UInt8 => c.toNat != 61) s
      rw [hd] at this
      simpa using this
    have hy2 : y = 61 := UInt8.toNat_inj.1 hy
    have hs : s = name s ++ 61 :: v := by rw [hn, ← hy2, ← hd, ha]
    refine ⟨v, hs, hall, ?_⟩
    unfold key
    rw [if_pos h]
    have hl : (name s).length = eqP s := by rw [hn]; rfl
    have e : s.take (eqP s + 1) = (name s ++ 61 :: v).take ((name s).length + 1) := by rw [hl, ← hs]
    rw [e, List.take_append, List.take_of_length_le (by omega)]
    simp
theorem key_of {u v : List UInt8} (hu : ∀ x ∈ u, x.toNat ≠ 61) : eqP (u ++ 61 :: v) = u.length ∧ key (u ++ 61 :: v) = u ++ [61] ∧ name (u ++ 61 :: v) = u := by
  have h1 : (u ++ 61 :: v).takeWhile (fun c : UInt8 => c.toNat != 61) = u := by
    rw [List.takeWhile_append_of_pos (fun x hx => by simpa using hu x hx)]
    simp
  have h2 : eqP (u ++ 61 :: v) = u.length := by unfold eqP; rw [h1]
  refine ⟨h2, ?_, ?_⟩
  · unfold key
    rw [h2, if_pos (by simp), List.take_append, List.take_of_length_le (by omega)]
    simp
  · unfold name
    rw [h2]
    simp
/-- The search's own test of a pair against a name t. -/
def getC (t s : List UInt8) : Int :=
  if s.length < t.length + 1 then compareBytes s t
  else if compareBytes (s.take t.length) t = 0 then (if (s.getD t.length 0).toNat < 61 then -1 else if 61 < (s.getD t.length 0).toNat then 1 else 0)
  else compareBytes (s.take t.length) t
theorem getC_key : ∀ (u v t : List UInt8), (∀ x ∈ u, x.toNat ≠ 61) → (∀ x ∈ t, x.toNat ≠ 61) → getC t (u ++ 61 :: v) = compareBytes (u ++ [61]) (t ++ [61])
  | [], v, [], _, _ => by simp [getC, compareBytes]
  | [], v, y :: t, _, ht => by
    have hy := ht y (by simp)
    have h1 : (61 : UInt8) < y ∨ y < 61 := by
      rw [UInt8.lt_iff_toNat_lt, UInt8.lt_iff_toNat_lt]
      have e : (61 : UInt8).toNat = 61 := rfl
      omega
    have h2 : ∀ a b, compareBytes (61 :: a) (y :: b) = if (61 : UInt8) < y then -1 else 1 := fun a b => by
      rw [compareBytes]
      rcases h1 with h | h
      · rw [if_pos h, if_pos h]
      · have h3 : ¬ (61 : UInt8) < y := by rw [UInt8.lt_iff_toNat_lt] at *; omega
        rw [if_neg h3, if_pos h, if_neg h3]
    have h3 : ∀ a b, compareBytes (61 :: a) (y :: b) ≠ 0 := fun a b => by rw [h2]; split <;> decide
    unfold getC
    split
    · simp only [List.nil_append, List.cons_append, h2]
    · simp only [List.nil_append, List.cons_append, List.length_cons, List.take_succ_cons]
      rw [if_neg (h3 _ _), h2, h2]
  | x :: u, v, [], hu, _ => by
    have hx := hu x (by simp)
    have h1 : (61 : UInt8) < x ∨ x < 61 := by
      rw [UInt8.lt_iff_toNat_lt, UInt8.lt_iff_toNat_lt]
      have e : (61 : UInt8).toNat = 61 := rfl
      omega
    have e61 : (61 : UInt8).toNat = 61 := rfl
    unfold getC
    rw [if_neg (by simp)]
    simp only [List.length_nil, List.take_zero, List.cons_append, List.nil_append, compareBytes, if_true]
    simp only [List.getD_cons_zero]
    by_cases c : x.toNat < 61
    · rw [if_pos c, if_pos (show x < 61 by rw [UInt8.lt_iff_toNat_lt]; exact c)]
    · rw [if_neg c, if_pos (show 61 < x.toNat by omega), if_neg (show ¬ x < 61 by rw [UInt8.lt_iff_toNat_lt]; exact c), if_pos (show 61 < x by rw [UInt8.lt_iff_toNat_lt]; show 61 < x.toNat; omega)]
  | x :: u, v, y :: t, hu, ht => by
    have ih := getC_key u v t (fun z hz => hu z (by simp [hz])) (fun z hz => ht z (by simp [hz]))
    unfold getC at ih ⊢
    simp only [List.cons_append, List.length_cons, List.take_succ_cons, compareBytes, List.getD_cons_succ, Nat.add_lt_add_iff_right]
    by_cases h1 : x < y
    · rw [if_pos h1, if_pos h1, if_pos h1]
      simp
    · by_cases h2 : y < x
      · rw [if_neg h1, if_pos h2, if_neg h1, if_pos h2, if_neg h1, if_pos h2]
        simp
      · rw [if_neg h1, if_neg h2, if_neg h1, if_neg h2, if_neg h1, if_neg h2]
        exact ih
theorem getC_valid {t s : List UInt8} (hs : valid s = true) (ht : ∀ x ∈ t, x.toNat ≠ 61) : getC t s = compareBytes (key s) (t ++ [61]) := by
  have h : 0 < eqP s ∧ eqP s < s.length := by simpa [valid] using hs
  obtain ⟨v, h1, h2, h3⟩ := eqP_split s h.2
  rw [h3]
  conv => lhs; rw [h1]
  exact getC_key _ _ _ h2 ht

/-! ### The last of each name -/
/-- The last element of this key. -/
def fnd (T : List UInt8) (l : List (List UInt8)) : Option (List UInt8) := l.foldl (fun a s => if key s = T then some s else a) none
theorem fnd_foldl (T : List UInt8) : ∀ (l : List (List UInt8)) (a : Option (List UInt8)), l.foldl (fun a s => if key s = T then some s else a) a = match fnd T l with | some x => some x | none => a
  | [], a => rfl
  | s :: r, a => by
    unfold fnd
    rw [List.foldl_cons, List.foldl_cons, fnd_foldl T r, fnd_foldl T r]
    cases fnd T r with
    | some x => rfl
    | none => by_cases h : key s = T <;> simp [h]
theorem fnd_append (T : List UInt8) (a b : List (List UInt8)) : fnd T (a ++ b) = match fnd T b with | some x => some x | none => fnd T a := by
  unfold fnd
  rw [List.foldl_append, fnd_foldl]
  rfl
theorem fnd_cons (T : List UInt8) (s : List UInt8) (r : List (List UInt8)) : fnd T (s :: r) = match fnd T r with | some x => some x | none => if key s = T then some s else none := by
  rw [show s :: r = [s] ++ r from rfl, fnd_append]
  rfl
theorem fnd_some {T x : List UInt8} : ∀ {l : List (List UInt8)}, fnd T l = some x → ∃ i : Nat, l[i]? = some x ∧ key x = T ∧ ∀ j y, i < j → l[j]? = some y → key y ≠ T
  | [], h => by cases h
  | s :: r, h => by
    rw [fnd_cons] at h
    cases hr : fnd T r with
    | some y =>
      rw [hr] at h
      obtain rfl := Option.some.inj h
      obtain ⟨i, h1, h2, h3⟩ := fnd_some hr
      refine ⟨i + 1, by simpa using h1, h2, fun j y hj hy => ?_⟩
      cases j with
      | zero => omega
      | succ j => exact h3 j y (by omega) (by simpa using hy)
    | none =>
      rw [hr] at h
      by_cases hk : key s = T
      · simp only [hk, if_true, Option.some.injEq] at h
        subst h
        refine ⟨0, rfl, hk, fun j y hj hy => ?_⟩
        cases j with
        | zero => omega
        | succ j =>
          intro e
          have := fnd_none_of hr y (List.mem_of_getElem? (by simpa using hy : r[j]? = some y))
          exact this e
      · simp [hk] at h
where fnd_none_of {T : List UInt8} : ∀ {l : List (List UInt8)}, fnd T l = none → ∀ y ∈ l, key y ≠ T
  | [], _, y, hy => by cases hy
  | s :: r, h, y, hy => by
    rw [fnd_cons] at h
    cases hr : fnd T r with
    | some z => rw [hr] at h; cases h
    | none =>
      rw [hr] at h
      rcases List.mem_cons.1 hy with rfl | hy
      · intro e
        simp [e] at h
      · exact fnd_some.fnd_none_of hr y hy
theorem fnd_none {T : List UInt8} {l : List (List UInt8)} (h : fnd T l = none) : ∀ y ∈ l, key y ≠ T := fnd_some.fnd_none_of h
theorem fnd_is {T : List UInt8} {l : List (List UInt8)} {i : Nat} {x : List UInt8} (h1 : l[i]? = some x) (h2 : key x = T) (h3 : ∀ j y, i < j → l[j]? = some y → key y ≠ T) : fnd T l = some x := by
  cases h : fnd T l with
  | none => exact absurd h2 (fnd_none h x (List.mem_of_getElem? h1))
  | some y =>
    obtain ⟨k, k1, k2, k3⟩ := fnd_some h
    rcases Nat.lt_trichotomy i k with c | c | c
    · exact absurd k2 (h3 k y c k1)
    · rw [← c, h1] at k1
      exact k1.symm
    · exact absurd h2 (k3 i x c h1)
theorem fnd_not {T : List UInt8} {l : List (List UInt8)} (h : ∀ y ∈ l, key y ≠ T) : fnd T l = none := by
  cases e : fnd T l with
  | none => rfl
  | some x =>
    obtain ⟨i, i1, i2, _⟩ := fnd_some e
    exact absurd i2 (h x (List.mem_of_getElem? i1))

/-- What is kept of the ordered pairs. -/
def dd (done : List (List UInt8)) (last : List UInt8) : List (List UInt8) → List (List UInt8)
  | [] => done
  | x :: r => if valid x = true then (if name x = last then dd (done.dropLast ++ [x]) last r else dd (done ++ [x]) (name x) r) else dd done last r
/-- What stands between two rounds. -/
structure DdI (done : List (List UInt8)) (last : List UInt8) (rest : List (List UInt8)) : Prop where
  inc : ∀ (i j : Nat) x y, i < j → done[i]? = some x → done[j]? = some y → compareBytes (key x) (key y) < 0
  val : ∀ x ∈ done, valid x = true
  lst : (done = [] ∧ last = []) ∨ ∃ d z, done = d ++ [z] ∧ last = name z
  low : ∀ x ∈ done, ∀ y ∈ rest, ¬ compareBytes (key y) (key x) < 0
  srt : ∀ (i j : Nat) x y, i < j → rest[i]? = some x → rest[j]? = some y → ¬ compareBytes (key y) (key x) < 0
theorem DdI.start {rest : List (List UInt8)} (h : ∀ (i j : Nat) x y, i < j → rest[i]? = some x → rest[j]? = some y → ¬ compareBytes (key y) (key x) < 0) : DdI [] [] rest :=
  ⟨fun i j x y _ h => (by simp at h), fun x h => (by cases h), Or.inl ⟨rfl, rfl⟩, fun x h => (by cases h), h⟩
theorem valid_name {s : List UInt8} (h : valid s = true) : name s ≠ [] ∧ key s = name s ++ [61] := by
  have h2 : 0 < eqP s ∧ eqP s < s.length := by simpa [valid] using h
  obtain ⟨v, h3, h4, h5⟩ := eqP_split s h2.2
  refine ⟨fun e => ?_, h5⟩
  have : (name s).length = eqP s := by
    unfold name
    rw [List.length_take]
    omega
  rw [e] at this
  simp at this
  omega
section
variable {done rest : List (List UInt8)} {last x : List UInt8}
theorem DdI.tail (h : DdI done last (x :: rest)) : DdI done last rest :=
  ⟨h.inc, h.val, h.lst, fun a ha y hy => h.low a ha y (List.mem_cons_of_mem _ hy), fun i j a b hij ha hb => h.srt (i + 1) (j + 1) a b (by omega) (by simpa using ha) (by simpa using hb)⟩
theorem DdI.head (h : DdI done last (x :: rest)) : ∀ y ∈ rest, ¬ compareBytes (key y) (key x) < 0 := fun y hy => by
  obtain ⟨j, hj⟩ := List.getElem?_of_mem hy
  exact h.srt 0 (j + 1) x y (by omega) rfl (by simpa using hj)
theorem DdI.dup (h : DdI done last (x :: rest)) (hv : valid x = true) (hn : name x = last) : ∃ d z, done = d ++ [z] ∧ key z = key x ∧ DdI (d ++ [x]) last rest := by
  have hx := valid_name hv
  rcases h.lst with ⟨_, h2⟩ | ⟨d, z, h1, h2⟩
  · rw [h2] at hn
    exact absurd hn hx.1
  · have hz := valid_name (h.val z (by rw [h1]; simp))
    have hk : key z = key x := by rw [hz.2, hx.2, hn, h2]
    refine ⟨d, z, h1, hk, ⟨?_, ?_, Or.inr ⟨d, x, rfl, hn.symm⟩, ?_, h.tail.srt⟩⟩
    · intro i j a b hij ha hb
      have hj : j < (d ++ [x]).length := (List.getElem?_eq_some_iff.1 hb).1
      rw [List.length_append, List.length_singleton] at hj
      have ha' : done[i]? = some a := by
        rw [h1, List.getElem?_append_left (by omega)]
        rwa [List.getElem?_append_left (by omega)] at ha
      by_cases c : j < d.length
      · refine h.inc i j a b hij ha' ?_
        rw [h1, List.getElem?_append_left c]
        rwa [List.getElem?_append_left c] at hb
      · have e : j = d.length := by omega
        rw [e, List.getElem?_append_right (Nat.le_refl _), Nat.sub_self] at hb
        simp at hb
        rw [← hb, ← hk]
        refine h.inc i j a z hij ha' ?_
        rw [h1, e, List.getElem?_append_right (Nat.le_refl _), Nat.sub_self]
        rfl
    · intro a ha
      rcases List.mem_append.1 ha with ha | ha
      · exact h.val a (by rw [h1]; simp [ha])
      · rw [List.mem_singleton.1 ha]
        exact hv
    · intro a ha y hy
      rcases List.mem_append.1 ha with ha | ha
      · exact h.low a (by rw [h1]; simp [ha]) y (List.mem_cons_of_mem _ hy)
      · rw [List.mem_singleton.1 ha]
        exact h.head y hy
theorem DdI.new (h : DdI done last (x :: rest)) (hv : valid x = true) (hn : name x ≠ last) : DdI (done ++ [x]) (name x) rest := by
  have hx := valid_name hv
  refine ⟨?_, ?_, Or.inr ⟨done, x, rfl, rfl⟩, ?_, h.tail.srt⟩
  · intro i j a b hij ha hb
    have hj : j < (done ++ [x]).length := (List.getElem?_eq_some_iff.1 hb).1
    rw [List.length_append, List.length_singleton] at hj
    have ha' : done[i]? = some a := by rwa [List.getElem?_append_left (by omega)] at ha
    by_cases c : j < done.length
    · refine h.inc i j a b hij ha' ?_
      rwa [List.getElem?_append_left c] at hb
    · have e : j = done.length := by omega
      rw [e, List.getElem?_append_right (Nat.le_refl _), Nat.sub_self] at hb
      simp at hb
      rw [← hb]
      -- a ≤ the last one < x
      rcases h.lst with ⟨h1, _⟩ | ⟨d, z, h1, h2⟩
      · rw [h1] at ha'
        simp at ha'
      · have hzm : z ∈ done := by rw [h1]; simp
        have hz := valid_name (h.val z hzm)
        have l1 := h.low z hzm x (by simp)
        have l2 : compareBytes (key z) (key x) < 0 := by
          have l3 := cb_anti (key z) (key x)
          by_cases c0 : compareBytes (key x) (key z) = 0
          · have := cb_eq _ _ c0
            rw [hx.2, hz.2] at this
            exact absurd (by rw [h2]; exact List.append_cancel_right this) hn
          · omega
        by_cases c2 : i + 1 = done.length
        · have e2 : a = z := by
            rw [h1, List.getElem?_append_right (by rw [h1] at c2; simp at c2; omega)] at ha'
            rw [h1] at c2
            simp at c2
            rw [show i - d.length = 0 by omega] at ha'
            simpa using ha'.symm
          rw [e2]
          exact l2
        · refine cb_tr _ _ _ (h.inc i (done.length - 1) a z (by omega) ha' ?_) l2
          rw [h1]
          simp
  · intro a ha
    rcases List.mem_append.1 ha with ha | ha
    · exact h.val a ha
    · rw [List.mem_singleton.1 ha]
      exact hv
  · intro a ha y hy
    rcases List.mem_append.1 ha with ha | ha
    · exact h.low a ha y (List.mem_cons_of_mem _ hy)
    · rw [List.mem_singleton.1 ha]
      exact h.head y hy
end
/-- In what is kept the names ascend. -/
theorem dd_inc : ∀ (rest done : List (List UInt8)) (last : List UInt8), DdI done last rest → (∀ (i j : Nat) x y, i < j → (dd done last rest)[i]? = some x → (dd done last rest)[j]? = some y → compareBytes (key x) (key y) < 0) ∧ (∀ x ∈ dd done last rest, valid x = true)
  | [], done, last, h => ⟨h.inc, h.val⟩
  | x :: r, done, last, h => by
    rw [dd]
    by_cases hv : valid x = true
    · rw [if_pos hv]
      by_cases hn : name x = last
      · rw [if_pos hn]
        obtain ⟨d, z, h1, h2, h3⟩ := h.dup hv hn
        have e : done.dropLast ++ [x] = d ++ [x] := by rw [h1]; simp
        rw [e]
        exact dd_inc r _ _ h3
      · rw [if_neg hn]
        exact dd_inc r _ _ (h.new hv hn)
    · rw [if_neg hv]
      exact dd_inc r _ _ h.tail
/-- .. and the last of each name is there. -/
theorem dd_fnd (T : List UInt8) (hT : ∀ x, key x = T → valid x = true) : ∀ (rest done : List (List UInt8)) (last : List UInt8), DdI done last rest → fnd T (dd done last rest) = fnd T (done ++ rest)
  | [], done, last, h => by rw [List.append_nil]; rfl
  | x :: r, done, last, h => by
    rw [dd]
    by_cases hv : valid x = true
    · rw [if_pos hv]
      by_cases hn : name x = last
      · rw [if_pos hn]
        obtain ⟨d, z, h1, h2, h3⟩ := h.dup hv hn
        have e : done.dropLast ++ [x] = d ++ [x] := by rw [h1]; simp
        rw [e, dd_fnd T hT r _ _ h3, h1]
        simp only [fnd_append, fnd_cons, h2]
        cases fnd T r with
        | some y => rfl
        | none => by_cases hk : key x = T <;> simp [hk, fnd]
      · rw [if_neg hn, dd_fnd T hT r _ _ (h.new hv hn), List.append_assoc]
        rfl
    · rw [if_neg hv, dd_fnd T hT r _ _ h.tail]
      have hk : key x ≠ T := fun e => hv (hT x e)
      simp only [fnd_append, fnd_cons, hk, if_false]
      cases fnd T r <;> rfl
end Go.Proofs.YthcminjdkgmeoaaGreatDoor.Stb
