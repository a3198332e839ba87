/-
  Plain law: the runes of a string, as 'range' and the conversion hand them out. No program in sight.
-/
import Derived.WalkKit
import Derived.Laws.IdiomStrings
import Derived.Laws.Cover4
import Derived.Lib.OthersKept
namespace Go.Proofs.YtgppbbonfbhhbaaDoor.Rf

/-- The runes from place 'pos' on, by at most 'fuel' of them. -/
def runesAt (s : ByteArray) : Nat → Nat → List Int
  | 0, _ => []
  | fuel + 1, pos => if pos < s.size then ((Utf8.decode s pos).1 : Int) :: runesAt s fuel (pos + (Utf8.decode s pos).2) else []

/-- The runes of a string. -/
def runes (s : ByteArray) : List Int := runesAt s s.size 0

theorem width_pos (s : ByteArray) (pos : Nat) (h : pos < s.size) : 1 ≤ (Utf8.decode s pos).2 := by
  by_cases ha : (s[pos]'h).toNat < 128
  · rw [decode_ascii s pos h ha]; exact Nat.le_refl _
  · exact (decode_high s pos h (by omega)).2

theorem runesAt_fuel (s : ByteArray) : ∀ (f g pos : Nat), s.size ≤ pos + f → s.size ≤ pos + g → runesAt s f pos = runesAt s g pos
  | 0, 0, _, _, _ => rfl
  | 0, g + 1, pos, h, _ => by
    unfold runesAt
    rw [if_neg (by omega)]
  | f + 1, 0, pos, _, h => by
    unfold runesAt
    rw [if_neg (by omega)]
  | f + 1, g + 1, pos, h1, h2 => by
    unfold runesAt
    split
    · next h =>
      have := width_pos s pos h
      rw [runesAt_fuel s f g _ (by omega) (by omega)]
    · rfl

/-- The runes from a place on. -/
def from_ (s : ByteArray) (pos : Nat) : List Int := runesAt s s.size pos

theorem from_zero (s : ByteArray) : from_ s 0 = runes s := rfl
theorem from_end (s : ByteArray) (pos : Nat) (h : ¬ pos < s.size) : from_ s pos = [] := by
  unfold from_
  cases hz : s.size with
  | zero => rfl
  | succ k => unfold runesAt; rw [if_neg h]
theorem from_step (s : ByteArray) (pos : Nat) (h : pos < s.size) : from_ s pos = ((Utf8.decode s pos).1 : Int) :: from_ s (pos + (Utf8.decode s pos).2) := by
  unfold from_
  obtain ⟨k, hk⟩ : ∃ k, s.size = k + 1 := ⟨s.size - 1, by omega⟩
  have := width_pos s pos h
  rw [hk, runesAt, if_pos h, runesAt_fuel s k (k + 1) _ (by omega) (by omega)]

theorem runesAt_length (s : ByteArray) : ∀ (f pos : Nat), (runesAt s f pos).length ≤ s.size - pos
  | 0, _ => by simp [runesAt]
  | f + 1, pos => by
    unfold runesAt
    split
    · next h =>
      have := width_pos s pos h
      have := runesAt_length s f (pos + (Utf8.decode s pos).2)
      simp only [List.length_cons]
      omega
    · simp

theorem runes_length (s : ByteArray) : (runes s).length ≤ s.size := by unfold runes; have := runesAt_length s s.size 0; simpa using this

/-- The conversion's own list is this one. -/
theorem runesFrom_eq (s : ByteArray) : ∀ (b i : Nat) (acc : Array Value), Conv.runesFrom s b i acc = acc ++ ((runesAt s b i).map (Value.int .i32)).toArray
  | 0, _, acc => by simp [Conv.runesFrom, runesAt]
  | b + 1, i, acc => by
    unfold Conv.runesFrom runesAt
    split
    · simp only [runesFrom_eq s b]
      simp
    · simp

theorem runesFrom_whole (s : ByteArray) : Conv.runesFrom s s.size 0 #[] = ((runes s).map (Value.int .i32)).toArray := by
  rw [runesFrom_eq]; simp [runes]

/-- A rune that is handed out fits its kind. -/
theorem rune_range (s : ByteArray) (pos : Nat) : (0 : Int) ≤ ((Utf8.decode s pos).1 : Int) ∧ ((Utf8.decode s pos).1 : Int) ≤ 2147483647 := by
  have := decode_le s pos
  omega

/-- A rune that is handed out is a valid one. -/
theorem rune_valid (s : ByteArray) (pos : Nat) : ((Utf8.decode s pos).1 : Int) ≤ 1114111 ∧ ¬ (55296 ≤ ((Utf8.decode s pos).1 : Int) ∧ ((Utf8.decode s pos).1 : Int) ≤ 57343) := by
  simp only [Utf8.decode]
  have hb : ∀ k, (s.get! (pos + k)).toNat < 256 := fun k => (s.get! (pos + k)).toNat_lt
  have h0 := hb 0
  have h1 := hb 1
  repeat' split
  all_goals simp_all [Utf8.runeError, Utf8.valid]
  all_goals omega

def valid (r : Int) : Prop := 0 ≤ r ∧ r ≤ 1114111 ∧ ¬ (55296 ≤ r ∧ r ≤ 57343)

theorem runesAt_valid (s : ByteArray) : ∀ (f pos : Nat), ∀ r ∈ runesAt s f pos, valid r
  | 0, _, r, h => by simp [runesAt] at h
  | f + 1, pos, r, h => by
    unfold runesAt at h
    split at h
    · rcases List.mem_cons.1 h with rfl | h
      · exact ⟨(rune_range s pos).1, rune_valid s pos⟩
      · exact runesAt_valid s f _ r h
    · simp at h

theorem runes_valid (s : ByteArray) : ∀ r ∈ runes s, valid r := runesAt_valid s _ _

/-- A byte above the ASCII ones never gives an ASCII rune: so an ASCII rune among the runes is a byte of the string. -/
theorem runesAt_ascii (s : ByteArray) (c : Nat) (hc : c < 128) : ∀ (f pos : Nat), (c : Int) ∈ runesAt s f pos → ∃ k, ∃ h : k < s.size, (s[k]'h).toNat = c
  | 0, _, h => by simp [runesAt] at h
  | f + 1, pos, h => by
    unfold runesAt at h
    split at h
    · next hp =>
      rcases List.mem_cons.1 h with e | h
      · by_cases ha : (s[pos]'hp).toNat < 128
        · rw [decode_ascii s pos hp ha] at e
          exact ⟨pos, hp, by simp at e; omega⟩
        · have := (decode_high s pos hp (by omega)).1
          omega
      · exact runesAt_ascii s c hc f _ h
    · simp at h

theorem runes_ascii (s : ByteArray) (c : Nat) (hc : c < 128) (h : (c : Int) ∈ runes s) : ∃ k, ∃ h : k < s.size, (s[k]'h).toNat = c := runesAt_ascii s c hc _ _ h

/-- Is the rune among the string's? -/
def among (s : ByteArray) (r : Int) : Bool := (runes s).contains r

end Go.Proofs.YtgppbbonfbhhbaaDoor.Rf
