/-
  The law's model of a pattern, step by step; regexpNext takes the same steps.
-/
import Derived.Test.YthohfanojaiedaaFmtClosed
import Derived.Test.YthohfanojaiedaaFmtOpen
namespace Go.Proofs.YthohfanojaiedaaFmt
open Go.RowKit

/-- Where the run of letters and digits from i on ends (n: how many may come). -/
def aend (s : ByteArray) (i : Nat) : Nat → Nat
  | 0 => i
  | n + 1 => if i < s.size ∧ isAl (bt s i) = true then aend s (i + 1) n else i

theorem aend_spec (s : ByteArray) : ∀ (n i : Nat), i ≤ s.size → s.size ≤ i + n → i ≤ aend s i n ∧ aend s i n ≤ s.size ∧ (∀ k, i ≤ k → k < aend s i n → isAl (bt s k) = true) ∧ (aend s i n < s.size → isAl (bt s (aend s i n)) = false)
  | 0, i, h1, h2 => ⟨Nat.le_refl _, h1, fun k a b => by unfold aend at b; omega, fun h => by unfold aend at h; omega⟩
  | n + 1, i, h1, h2 => by
    unfold aend
    by_cases h : i < s.size ∧ isAl (bt s i) = true
    · rw [if_pos h]
      obtain ⟨a, b, c, d⟩ := aend_spec s n (i + 1) (by omega) (by omega)
      refine ⟨by omega, b, fun k h3 h4 => ?_, d⟩
      by_cases e : k = i
      · rw [e]; exact h.2
      · exact c k (by omega) h4
    · rw [if_neg h]
      refine ⟨Nat.le_refl _, h1, fun k a b => by omega, fun h3 => ?_⟩
      cases hb : isAl (bt s i)
      · rfl
      · exact absurd ⟨h3, hb⟩ h

/-- One step of the model: what it writes and where it goes on. -/
def mstep (s : ByteArray) (i : Nat) : Option (List UInt8 × Nat) :=
  if isAl (bt s i) = true then some ([s.data.toList.getD i 0], i + 1)
  else if bt s i = 93 then some ([92, 93], i + 1)
  else if bt s i = 91 then
    (if aend s (i + 1) s.size = s.size then some ([92, 91], i + 1)
     else if bt s (aend s (i + 1) s.size) = 93 ∧ i + 1 < aend s (i + 1) s.size then some (part s i (aend s (i + 1) s.size + 1 - i), aend s (i + 1) s.size + 1)
     else none)
  else none

/-- The model from a place on. -/
def mrun (s : ByteArray) : Nat → Nat → List UInt8 → Option (List UInt8)
  | 0, _, _ => none
  | f + 1, i, out => if s.size ≤ i then some out else match mstep s i with
    | none => none
    | some p => mrun s f p.2 (out ++ p.1)

theorem mrun_end (s : ByteArray) (f i : Nat) (out : List UInt8) (h : s.size ≤ i) : mrun s (f + 1) i out = some out := by
  unfold mrun
  rw [if_pos h]
theorem mrun_step (s : ByteArray) (f i : Nat) (out : List UInt8) (h : i < s.size) {o : List UInt8} {j : Nat} (hs : mstep s i = some (o, j)) : mrun s (f + 1) i out = mrun s f j (out ++ o) := by
  show (if s.size ≤ i then some out else _) = _
  rw [if_neg (by omega), hs]
theorem mrun_none (s : ByteArray) (f i : Nat) (out : List UInt8) (h : i < s.size) (hs : mstep s i = none) : mrun s (f + 1) i out = none := by
  show (if s.size ≤ i then some out else _) = _
  rw [if_neg (by omega), hs]

theorem mstep_ok {s : ByteArray} {i : Nat} {o : List UInt8} {j : Nat} (hi : i < s.size) (h : mstep s i = some (o, j)) : i < j ∧ j ≤ s.size ∧ o.length ≤ 2 * (j - i) := by
  unfold mstep at h
  split at h
  · simp only [Option.some.injEq, Prod.mk.injEq] at h
    obtain ⟨rfl, rfl⟩ := h
    simp; omega
  · split at h
    · simp only [Option.some.injEq, Prod.mk.injEq] at h
      obtain ⟨rfl, rfl⟩ := h
      simp; omega
    · split at h
      · split at h
        · simp only [Option.some.injEq, Prod.mk.injEq] at h
          obtain ⟨rfl, rfl⟩ := h
          simp; omega
        · split at h
          · rename_i h1 h2
            simp only [Option.some.injEq, Prod.mk.injEq] at h
            obtain ⟨rfl, rfl⟩ := h
            obtain ⟨a, b, _, _⟩ := aend_spec s s.size (i + 1) (by omega) (by omega)
            have := part_len s i (aend s (i + 1) s.size + 1 - i)
            omega
          · cases h
      · cases h

/-- regexpNext takes the model's steps. -/
theorem rn_step (B b l : Nat) (s : ByteArray) (i : Nat) (acc : List UInt8) (mode : Int) (w : World) (hb : Bld B b acc w) (hl : Lex l s i w) (hne : l ≠ b) (hBl : B ≤ l) (hi : i < s.size) (hs : s.size ≤ 100000) (hal : acc.length ≤ 10000000)
    (hmode : (bits BinOp.and IntKind.u64 mode 64 != 0) = false) {o : List UInt8} {j : Nat} (h : mstep s i = some (o, j)) :
    Calls Tryf.prog 15 #[.pointer (some ⟨b, 0, none⟩), .pointer (some ⟨l, 0, none⟩), .int .u64 mode] w fun e w' => e = .returned .nilIface ∧ Bld B b (acc ++ o) w' ∧ Lex l s j w' ∧ Below B w w' := by
  unfold mstep at h
  split at h
  · rename_i ha
    simp only [Option.some.injEq, Prod.mk.injEq] at h
    obtain ⟨rfl, rfl⟩ := h
    obtain ⟨x0, x1, x2, x3, x4, x5, x6⟩ := al_facts ha
    have hp := rn_plain B b l s i acc mode w hb hl hne hBl hi hs (by omega) x1 (by omega) (by omega) x6 x3 x2 hmode
    have e : quoted (s.data.toList.getD i 0) = [s.data.toList.getD i 0] := by
      unfold quoted
      have hm : isMeta (s.data.toList.getD i 0).toNat = false := by
        show isMeta (bt s i) = false
        unfold isAl at ha
        unfold isMeta
        simp at ha ⊢
        omega
      rw [hm]
      rfl
    rw [e] at hp
    exact hp
  · split at h
    · rename_i ha
      simp only [Option.some.injEq, Prod.mk.injEq] at h
      obtain ⟨rfl, rfl⟩ := h
      have hp := rn_plain B b l s i acc mode w hb hl hne hBl hi hs (by omega) (by omega) (by omega) (by omega) (by omega) (by omega) (by omega) hmode
      rw [byte_of ha (c := 93) rfl] at hp
      exact hp
    · split at h
      · rename_i ha
        obtain ⟨a1, a2, a3, a4⟩ := aend_spec s s.size (i + 1) (by omega) (by omega)
        split at h
        · rename_i he
          simp only [Option.some.injEq, Prod.mk.injEq] at h
          obtain ⟨rfl, rfl⟩ := h
          by_cases h0 : i + 1 = s.size
          · exact rn_open0 B b l s i acc mode w hb hl hne hBl hs hal ha h0 hmode
          · exact rn_open B b l s i (s.size - (i + 1)) acc mode w hb hl hne hBl hs hal ha (by omega) (by omega) (fun k hk => a3 _ (by omega) (by omega)) hmode
        · split at h
          · rename_i he hc
            simp only [Option.some.injEq, Prod.mk.injEq] at h
            obtain ⟨rfl, rfl⟩ := h
            have hp := rn_closed B b l s i (aend s (i + 1) s.size - (i + 1)) acc mode w hb hl hne hBl hs hal ha (by omega) (by omega) (fun k hk => a3 _ (by omega) (by omega)) (by rw [show i + 1 + (aend s (i + 1) s.size - (i + 1)) = aend s (i + 1) s.size by omega]; exact hc.1) hmode
            rw [show aend s (i + 1) s.size - (i + 1) + 2 = aend s (i + 1) s.size + 1 - i by omega, show i + (aend s (i + 1) s.size - (i + 1)) + 2 = aend s (i + 1) s.size + 1 by omega] at hp
            exact hp
          · cases h
      · cases h
end Go.Proofs.YthohfanojaiedaaFmt
