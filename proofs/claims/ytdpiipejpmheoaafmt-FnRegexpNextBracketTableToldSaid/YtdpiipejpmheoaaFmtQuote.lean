/-
  quoteMeta walked, at every text.
-/
import Derived.Test.YtdpiipejpmheoaaFmtLexer
import Derived.Laws.IdiomStrings
import Derived.Lib.BufferRead
import Derived.Maps.AppendAt
namespace Go.Proofs.YtdpiipejpmheoaaFmt
open Go.RowKit

def quotedAll (l : List UInt8) : List UInt8 := l.flatMap quoted

theorem conv_own {w : World} {base n : Nat} {v : Value} {l : List UInt8} (h : w.ownsRow base 5 1 v n (Lib.byteCells l)) : (convert 29 9 v).run Tryf.prog w = .ok (.string ⟨l.toArray⟩) w := by
  have hl := h.1
  rw [Lib.byteCells_length, Nat.mul_one] at hl
  rcases h.2 with ⟨rfl, rfl⟩ | ⟨g, cap, cur, rfl, _, hg, _, _, _, htk⟩
  · have : l = [] := List.length_eq_zero_iff.1 hl
    subst this
    exact Lib.run_convert_nil_bytes w _ _ _ 0 Tryf.underlying29 Tryf.underlying5 Tryf.underlying9
  · subst hl
    exact run_convert_bytes_back w _ _ _ ⟨g, 0, none⟩ cap l Tryf.underlying29 Tryf.underlying5 Tryf.underlying9 (Lib.bytes_of_row hg (by simpa using htk))

theorem quote_snoc (s : ByteArray) (k : Nat) (h : k < s.size) : quotedAll (s.data.toList.take (k + 1)) = quotedAll (s.data.toList.take k) ++ quoted s[k] := by
  have h2 : k < s.data.toList.length := by simpa using h
  rw [List.take_succ_eq_append_getElem h2]
  simp [quotedAll]
  rfl
theorem quote_len (l : List UInt8) : (quotedAll l).length ≤ 2 * l.length := by
  induction l with
  | nil => exact Nat.zero_le _
  | cons a l ih =>
    have : (quoted a).length ≤ 2 := by unfold quoted; split <;> simp
    simp only [quotedAll, List.flatMap_cons, List.length_append, List.length_cons] at ih ⊢
    omega

set_option maxRecDepth 100000 in
set_option maxHeartbeats 2000000 in
theorem quote_any (s : ByteArray) (w : World) (hs : s.size ≤ 100000) :
    Calls Tryf.prog 16 #[.string s] w fun e w' => e = .returned (.string ⟨(quotedAll s.data.toList).toArray⟩) ∧ Below w.heap.size w w' := by
  obtain ⟨ib, hib, hb0, hb1, hb2⟩ := info_parts Tryf.info_byte
  have hsz : (s.size : Int) ≤ 100000 := by omega
  go_enter Tryf.func16, Tryf.ntmps16
  go_wp2_with fail
  go_loopg [3, 4] s.size (fun gk s3 s4 wr => ∃ k : Nat, k ≤ s.size ∧ gk = s.size - k ∧ s4 = .int .i64 k ∧ wr.ownsRow w.heap.size 5 1 s3 (quotedAll (s.data.toList.take k)).length (Lib.byteCells (quotedAll (s.data.toList.take k))) ∧ Below w.heap.size w wr)
  case atStart => exact ⟨0, Nat.zero_le _, rfl, rfl, World.ownsRow_nil _ _ _ _, Below.refl _ _⟩
  case round =>
    rename_i v3 v4
    obtain ⟨k, hk, rfl, rfl, hown, hbel⟩ := hrel
    have HOWN := Lib.hid hown
    have HBEL := Lib.hid hbel
    by_cases hlt : k < s.size
    · have hkz : (k : Int) < (s.size : Int) := by omega
      clear hown hbel
      have hsn := quote_snoc s k hlt
      have hll := quote_len (s.data.toList.take k)
      have htk : (s.data.toList.take k).length ≤ k := List.length_take_le _ _
      obtain ⟨c, hc⟩ : ∃ c : UInt8, s[k] = c := ⟨_, rfl⟩
      rw [hc] at hsn
      obtain ⟨x, hx⟩ : ∃ x : Nat, c.toNat = x := ⟨_, rfl⟩
      have hcx : (s[k]'hlt).toNat = x := by rw [hc, hx]
      have HX := Lib.hid hx
      have HSN := Lib.hid hsn
      have hqn : ((quotedAll (s.data.toList.take k)).length : Int) ≤ 200000 := by omega
      have hzr := HBEL.out.size
      clear hsn hc hx hll htk
      cases hm : isMeta x
      · have q : (x == 92) = false ∧ (x == 46) = false ∧ (x == 43) = false ∧ (x == 42) = false ∧ (x == 63) = false ∧ (x == 40) = false ∧ (x == 41) = false ∧ (x == 124) = false ∧ (x == 91) = false ∧ (x == 93) = false ∧ (x == 123) = false ∧ (x == 125) = false ∧ (x == 94) = false ∧ (x == 36) = false := by
          unfold isMeta at hm
          simpa [Bool.or_eq_false_iff, and_assoc] using hm
        have HQ : Hid (quoted c = [c]) := Lib.hid (by unfold quoted; rw [HX.out, hm]; rfl)
        clear hm
        obtain ⟨q1, q2, q3, q4, q5, q6, q7, q8, q9, q10, q11, q12, q13, q14⟩ := q
        have z1 : ((x : Int) == 92) = false := by simp at q1 ⊢; omega
        have z2 : ((x : Int) == 46) = false := by simp at q2 ⊢; omega
        have z3 : ((x : Int) == 43) = false := by simp at q3 ⊢; omega
        have z4 : ((x : Int) == 42) = false := by simp at q4 ⊢; omega
        have z5 : ((x : Int) == 63) = false := by simp at q5 ⊢; omega
        have z6 : ((x : Int) == 40) = false := by simp at q6 ⊢; omega
        have z7 : ((x : Int) == 41) = false := by simp at q7 ⊢; omega
        have z8 : ((x : Int) == 124) = false := by simp at q8 ⊢; omega
        have z9 : ((x : Int) == 91) = false := by simp at q9 ⊢; omega
        have z10 : ((x : Int) == 93) = false := by simp at q10 ⊢; omega
        have z11 : ((x : Int) == 123) = false := by simp at q11 ⊢; omega
        have z12 : ((x : Int) == 125) = false := by simp at q12 ⊢; omega
        have z13 : ((x : Int) == 94) = false := by simp at q13 ⊢; omega
        have z14 : ((x : Int) == 36) = false := by simp at q14 ⊢; omega
        clear q1 q2 q3 q4 q5 q6 q7 q8 q9 q10 q11 q12 q13 q14
        go_wp2_with (at_builtin; refine wpList_append_own _ rfl _ _ 29 rfl w.heap.size 5 ib (.int .u8 0) 1 1 Tryf.underlying29 hib hb0 hb1 hb2 rfl (by decide) _ _ _ rfl (HOWN.out.alloc _) ⟨_, 0, none⟩ 1 1 [.int .u8 x] rfl rfl (cell_one_new _ _ _) (by intro u hu; simp at hu; subst hu; rfl) (by unfold maxLen; omega) (by omega) (by simp; omega) ?_; intro v1 w1 hown1 hgrow1 _)
        go_roundg (s.size - (k + 1))
        case measure => omega
        case rel => exact ⟨k + 1, by omega, rfl, by go_num, by
          rw [HSN.out, HQ.out, Lib.byteCells_append, List.length_append]
          have e : Lib.byteCells [c] = [.int .u8 x] := by simp [Lib.byteCells, HX.out]
          rw [e]
          exact hown1, (HBEL.out.alloc hzr _).grown hgrow1 (by simp; omega) (fun j hj => (HOWN.out.lt j hj).1)⟩
      · have HQ : Hid (quoted c = [92, c]) := Lib.hid (by unfold quoted; rw [HX.out, hm]; rfl)
        have q : x = 92 ∨ x = 46 ∨ x = 43 ∨ x = 42 ∨ x = 63 ∨ x = 40 ∨ x = 41 ∨ x = 124 ∨ x = 91 ∨ x = 93 ∨ x = 123 ∨ x = 125 ∨ x = 94 ∨ x = 36 := by
          unfold isMeta at hm
          simpa [Bool.or_eq_true, or_assoc] using hm
        clear hm
        rcases q with rfl | rfl | rfl | rfl | rfl | rfl | rfl | rfl | rfl | rfl | rfl | rfl | rfl | rfl
        all_goals
          go_wp2_with (first
            | (at_builtin; refine wpList_append_own _ rfl _ _ 29 rfl w.heap.size 5 ib (.int .u8 0) 1 1 Tryf.underlying29 hib hb0 hb1 hb2 rfl (by decide) _ _ _ rfl (hown1.alloc _) ⟨w1.heap.size, 0, none⟩ 1 1 [.int .u8 _] rfl rfl (cell_one_new _ _ _) (by intro u hu; simp at hu; subst hu; rfl) (by unfold maxLen; omega) (by omega) (by have := hgrow1.size; simp at this ⊢; omega) ?_; intro v2 w2 hown2 hgrow2 _)
            | (at_builtin; refine wpList_append_own _ rfl _ _ 29 rfl w.heap.size 5 ib (.int .u8 0) 1 1 Tryf.underlying29 hib hb0 hb1 hb2 rfl (by decide) _ _ _ rfl (HOWN.out.alloc _) ⟨_, 0, none⟩ 1 1 [.int .u8 92] rfl rfl (cell_one_new _ _ _) (by intro u hu; simp at hu; subst hu; rfl) (by unfold maxLen; omega) (by omega) (by simp; omega) ?_; intro v1 w1 hown1 hgrow1 _))
          go_roundg (s.size - (k + 1))
          case measure => omega
          case rel => exact ⟨k + 1, by omega, rfl, by go_num, by
            rw [HSN.out, HQ.out, Lib.byteCells_append, List.length_append]
            have e : Lib.byteCells [92, c] = [.int .u8 92, .int .u8 (c.toNat : Int)] := rfl
            have h2 := hown2
            rw [List.append_assoc] at h2
            rw [e, HX.out]
            exact h2, by
            have h1 := (HBEL.out.alloc hzr _).grown hgrow1 (by simp; omega) (fun j hj => (HOWN.out.lt j hj).1)
            exact (h1.alloc h1.size _).grown hgrow2 (by have := h1.size; simp; omega) (fun j hj => (hown1.lt j hj).1)⟩
    · obtain rfl : k = s.size := by omega
      have hcv := conv_own hown
      rw [List.take_of_length_le (by simp)] at hcv
      clear hown hbel
      go_wp2
      go_ret
      exact ⟨rfl, HBEL.out⟩
end Go.Proofs.YtdpiipejpmheoaaFmt
