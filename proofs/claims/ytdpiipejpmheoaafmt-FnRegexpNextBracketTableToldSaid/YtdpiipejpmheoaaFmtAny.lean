/-
  The lexer's steps and looks at any bytes, and the memory of a bracket under way behind them.
-/
import Derived.Test.YtdpiipejpmheoaaFmtLast
import Derived.Test.YtdpiipejpmheoaaFmtBrack
import Derived.Lib.RuneCountTail
import Derived.Shelf.Unicode.DecodeLastEight
import Derived.Lib.RuneCount
namespace Go.Proofs.YtdpiipejpmheoaaFmt
open Go.RowKit

/-- unicode/utf8's two tables lie in memory, below B. -/
def Tabs (B : Nat) (w : World) : Prop := Lib.Utf8Tabs 1 2 w ∧ 1 < B ∧ 2 < B
theorem Tabs.below {B C : Nat} {w w' : World} (h : Tabs B w) (hb : Below C w w') (hC : B ≤ C) : Tabs B w' := by
  obtain ⟨⟨h1, h2⟩, h3, h4⟩ := h
  refine ⟨⟨fun c hc => (hb.cell (p := ⟨1, c, none⟩) (Nat.lt_of_lt_of_le h3 hC)).trans (h1 c hc), fun i hi => ⟨?_, ?_⟩⟩, h3, h4⟩
  · exact (hb.cell (p := ⟨2, 2 * i, none⟩) (Nat.lt_of_lt_of_le h4 hC)).trans (h2 i hi).1
  · exact (hb.cell (p := ⟨2, 2 * i + 1, none⟩) (Nat.lt_of_lt_of_le h4 hC)).trans (h2 i hi).2

theorem Tabs.drew {B : Nat} {w : World} (h : Tabs B w) : Tabs B w.drew := h
theorem Lex.drew {l : Nat} {s : ByteArray} {i : Nat} {w : World} (h : Lex l s i w) : Lex l s i w.drew := h

theorem dec_any (B : Nat) (s : ByteArray) (i : Nat) (w : World) (hi : i < s.size) (hT : Tabs B w) :
    Calls Tryf.prog 23 #[.string (s.extract i s.size)] w fun e w' => e = .returned (.tuple #[.int .i32 (Utf8.decode s i).1, .int .i64 (Utf8.decode s i).2]) ∧ Below w.heap.size w w' := by
  have h := Any.utf8_DecodeRuneInString Tryf.dec_decode (s.extract i s.size) w hT.1
  have e : Lib.decodeGo (s.extract i s.size) = Utf8.decode s i := by
    unfold Lib.decodeGo
    rw [Lib.tail_size, if_neg (by omega), Lib.tail_decode, Nat.add_zero]
  rw [e] at h
  exact h

/-- The lexer has been moved, and blocks may have been added. -/
structure MovedG (l : Nat) (s : ByteArray) (j : Nat) (w w' : World) : Prop where
  bel : Below l w w'
  lex : Lex l s j w'
  oth : ∀ k, k < w.heap.size → k ≠ l → w'.heap[k]? = w.heap[k]?
  size : w.heap.size ≤ w'.heap.size

theorem MovedG.of {l : Nat} {s : ByteArray} {i : Nat} {w w5 : World} (h : Lex l s i w) (hb : Below w.heap.size w w5) (q j : Nat) : MovedG l s j w ((w5.drewN q).setCell ⟨l, 1, none⟩ (.int .i64 j)) := by
  have h5 := h.below hb (Nat.le_refl _)
  have hm := Moved.of h5 q j
  have hl := h.lt
  exact {
    bel := (hb.mono (Nat.le_of_lt hl)).trans hm.bel
    lex := hm.lex
    oth := fun k hk hne => (hm.oth k hne).trans (hb.block k hk)
    size := by rw [hm.size]; exact hb.size }
theorem MovedG.still {l : Nat} {s : ByteArray} {j : Nat} {w w' : World} (h : Lex l s j w) (hq : Quietly w w') : MovedG l s j w w' := by
  obtain ⟨q, rfl⟩ := hq
  exact { bel := below_drewN (Below.refl l w) q, lex := h, oth := fun k _ _ => rfl, size := Nat.le_refl _ }
theorem MovedG.ahead {l : Nat} {s : ByteArray} {j : Nat} {w w1 w' : World} (hb : Below w.heap.size w w1) (hz : w1.heap.size = w.heap.size) (hl : l < w.heap.size) (h : MovedG l s j w1 w') : MovedG l s j w w' where
  bel := (hb.mono (Nat.le_of_lt hl)).trans h.bel
  lex := h.lex
  oth := fun k hk hne => (h.oth k (by omega) hne).trans (hb.block k hk)
  size := by have := h.size; omega
theorem MovedG.cell {l : Nat} {s : ByteArray} {j : Nat} {w w' : World} (h : MovedG l s j w w') {k o : Nat} {v : Value} (hk : k ≠ l) (hc : w.cell? ⟨k, o, none⟩ = some v) : w'.cell? ⟨k, o, none⟩ = some v := by
  have hlt : k < w.heap.size := World.block_lt_of_cell? (a := ⟨k, o, none⟩) _ hc
  have e : w'.cell? ⟨k, o, none⟩ = w.cell? ⟨k, o, none⟩ := by simp only [World.cell?, h.oth k hlt hk]
  rw [e]; exact hc
theorem MovedG.bld {B b l : Nat} {s : ByteArray} {i j : Nat} {acc : List UInt8} {w w' : World} (h : MovedG l s j w w') (hb : Bld B b acc w) (hl : Lex l s i w) (hne : l ≠ b) : Bld B b acc w' :=
  hb.other hl (by decide) hne (fun k hk h2 => h.oth k h2 hk)

theorem BM.movedG {b l N : Nat} {s : ByteArray} {lit : Int} {pos : Nat} {inner : List UInt8} {w wr w' : World} (h : BM b l N s lit pos inner w wr) (hl : l < N) {pos' : Nat} (hm : MovedG l s pos' wr w') : BM b l N s lit pos' inner w w' where
  oth := fun k hk hne => (hm.oth k (by have := h.bsb.lt; omega) hne).trans (h.oth k hk hne)
  k3 := hm.cell (by omega) h.k3
  k4 := hm.cell (by omega) h.k4
  k5 := hm.cell (by omega) h.k5
  bsb := hm.bld h.bsb h.lex (by omega)
  lex := hm.lex
  bel := h.bel.trans hm.bel
theorem BM.grown {b l N : Nat} {s : ByteArray} {lit : Int} {pos : Nat} {inner : List UInt8} {w wr w' : World} (h : BM b l N s lit pos inner w wr) (hg : Below wr.heap.size wr w') : BM b l N s lit pos inner w w' := by
  have hz : N + 3 < wr.heap.size := h.bsb.lt
  exact {
    oth := fun k h1 h2 => (hg.block k (by omega)).trans (h.oth k h1 h2)
    k3 := (hg.cell (p := ⟨N, 0, none⟩) (by show N < _; omega)).trans h.k3
    k4 := (hg.cell (p := ⟨N + 1, 0, none⟩) (by show N + 1 < _; omega)).trans h.k4
    k5 := (hg.cell (p := ⟨N + 2, 0, none⟩) (by show N + 2 < _; omega)).trans h.k5
    bsb := h.bsb.below hg (Nat.le_refl _)
    lex := h.lex.below hg (Nat.le_refl _)
    bel := h.bel.trans (hg.mono (Nat.le_of_lt h.lex.lt)) }

set_option maxHeartbeats 1000000 in
theorem next_go (B l : Nat) (s : ByteArray) (i : Nat) (w : World) (h : Lex l s i w) (hT : Tabs B w) (hi : i < s.size) (hs : s.size ≤ 100000000) :
    Calls Tryf.prog 11 #[.pointer (some ⟨l, 0, none⟩)] w fun e w' => e = .returned (.int .i32 (Utf8.decode s i).1) ∧ MovedG l s (i + (Utf8.decode s i).2) w w' := by
  have c0 := h.c0
  have c1 := h.c1
  have f1 := h.f1
  have hz : (i : Int) < (s.size : Int) ∧ (s.size : Int) ≤ 100000000 := by omega
  have h4 : (Utf8.decode s i).2 ≤ 4 := by
    rw [Lib.decode_at]
    exact Lib.decodeN_le4 _ _ _ _ _
  have HD := Lib.hid (fun W (hW : Tabs B W) => dec_any B s i W hi hW)
  generalize (Utf8.decode s i).1 = r at *
  generalize (Utf8.decode s i).2 = n at *
  have hn : (n : Int) ≤ 4 := by omega
  have H := Lib.hid h
  have HT := Lib.hid hT
  have hlw := h.lt
  have hle : i ≤ s.size := by omega
  clear h hT hi hs h4
  go_enter Tryf.func11, Tryf.ntmps11
  go_upto_region 1 with fail
  go_quiet (fail)
  have d0 : (w.drewN nq).cell? ⟨l, 0, none⟩ = some (.string s) := c0
  have d1 : (w.drewN nq).cell? ⟨l, 1, none⟩ = some (.int .i64 i) := c1
  have g1 : (w.drewN nq).frozen? ⟨l, 1, none⟩ = false := f1
  have H1 : Hid (Lex l s i (w.drewN nq)) := Lib.hid H.out
  have HT1 : Hid (Tabs B (w.drewN nq)) := Lib.hid HT.out
  have HB1 : Hid (Below w.heap.size w (w.drewN nq)) := Lib.hid (below_drewN (Below.refl _ w) nq)
  have HZ1 : Hid ((w.drewN nq).heap.size = w.heap.size) := Lib.hid rfl
  generalize w.drewN nq = w1 at *
  clear c0 c1 f1
  go_upto_region 3 with fail
  go_region_with (go_at_call 23; refine (HD.out _ HT1.out.drew).mono ?_; rintro e w5 ⟨rfl, hb5⟩; have d5 : w5.cell? ⟨l, 1, none⟩ = some (.int .i64 i) := (H1.out.drew.below hb5 (Nat.le_refl _)).c1; have g5 : w5.frozen? ⟨l, 1, none⟩ = false := (H1.out.drew.below hb5 (Nat.le_refl _)).f1; have HB5 := Lib.hid hb5)
  all_goals
    go_wp2
    go_ret
    refine ⟨rfl, MovedG.ahead (w1 := w1.drew) HB1.out.drew HZ1.out hlw ?_⟩
    have hm := MovedG.of H1.out.drew HB5.out 0 (i + n)
    rw [Int.natCast_add] at hm
    exact hm

set_option maxHeartbeats 1000000 in
theorem peek_go (B l : Nat) (s : ByteArray) (i : Nat) (w : World) (h : Lex l s i w) (hT : Tabs B w) (hs : s.size ≤ 100000000) (hi : i ≤ s.size) :
    Calls Tryf.prog 12 #[.pointer (some ⟨l, 0, none⟩)] w fun e w' => ∃ r : Nat, e = .returned (.int .i32 r) ∧ Below w.heap.size w w' := by
  have c0 := h.c0
  have c1 := h.c1
  have hz : (i : Int) ≤ (s.size : Int) ∧ (s.size : Int) ≤ 100000000 := by omega
  have HD := Lib.hid (fun W (hW : Tabs B W) (hi : i < s.size) => dec_any B s i W hi hW)
  generalize (Utf8.decode s i).1 = r at *
  generalize (Utf8.decode s i).2 = n at *
  have HT := Lib.hid hT
  have hle : i ≤ s.size := by omega
  clear h hT hi hs
  go_enter Tryf.func12, Tryf.ntmps12
  go_upto_region 1 with fail
  go_quiet (fail)
  have d0 : (w.drewN nq).cell? ⟨l, 0, none⟩ = some (.string s) := c0
  have d1 : (w.drewN nq).cell? ⟨l, 1, none⟩ = some (.int .i64 i) := c1
  have HT1 : Hid (Tabs B (w.drewN nq)) := Lib.hid HT.out
  have HB1 : Hid (Below w.heap.size w (w.drewN nq)) := Lib.hid (below_drewN (Below.refl _ w) nq)
  have HZ1 : Hid ((w.drewN nq).heap.size = w.heap.size) := Lib.hid rfl
  generalize w.drewN nq = w1 at *
  clear c0 c1
  by_cases hlt : i < s.size
  · have hzl : (i : Int) < (s.size : Int) := by omega
    go_upto_region 3 with fail
    go_region_with (go_at_call 23; refine (HD.out _ HT1.out.drew hlt).mono ?_; rintro e w5 ⟨rfl, hb5⟩; have HB5 := Lib.hid hb5)
    all_goals
      go_wp2
      go_ret
      exact ⟨r, rfl, HB1.out.drew.trans (HB5.out.mono (by show _ ≤ w1.heap.size; rw [HZ1.out]; exact Nat.le_refl _))⟩
  · have hzl : (s.size : Int) ≤ (i : Int) := by omega
    go_wp2
    go_ret
    exact ⟨0, rfl, HB1.out⟩

theorem slice_upto (s : ByteArray) (b : Nat) (h2 : b + 1 ≤ s.size) (W : World) : (Instr.slice 9 (.string s) none (some (.int .i64 ((b : Int) + 1))) none).run Tryf.prog W = .ok (.string (s.extract 0 (b + 1))) W := by
  have := run_slice_string_h (P := Tryf.prog) W 9 s Tryf.underlying9 .i64 ((b : Int) + 1) (by omega) (by omega)
  simpa using this

set_option maxHeartbeats 1000000 in
theorem last_go (B l : Nat) (s : ByteArray) (k : Nat) (w : World) (h : Lex l s (k + 2) w) (hT : Tabs B w) (hs : s.size ≤ 100000000) (hi : k + 2 ≤ s.size) :
    Calls Tryf.prog 14 #[.pointer (some ⟨l, 0, none⟩)] w fun e w' => ∃ r : Nat, e = .returned (.int .i32 r) ∧ Below w.heap.size w w' := by
  have c0 := h.c0
  have c1 := h.c1
  have HD : Hid (∀ W, Tabs B W → Calls Tryf.prog 25 #[.string (s.extract 0 (k + 1))] W fun e w' => e = .returned (.tuple #[.int .i32 (Lib.decodeLastL (s.extract 0 (k + 1)).data.toList).1, .int .i64 (Lib.decodeLastL (s.extract 0 (k + 1)).data.toList).2]) ∧ Below W.heap.size W w') := Lib.hid (fun W hW => Any.utf8_DecodeLastRuneInString Tryf.dec_decodeLast (s.extract 0 (k + 1)) W (by rw [ByteArray.size_extract]; omega) hW.1)
  generalize (Lib.decodeLastL (s.extract 0 (k + 1)).data.toList).1 = r at *
  generalize (Lib.decodeLastL (s.extract 0 (k + 1)).data.toList).2 = n at *
  have hz : ((k : Int) + 2) ≤ (s.size : Int) ∧ (s.size : Int) ≤ 100000000 := by omega
  have hle : k + 1 ≤ s.size := by omega
  have hlz : (k : Int) + 1 ≤ (s.size : Int) := by omega
  have HT := Lib.hid hT
  have hsl := fun W => slice_upto s k hle W
  have hwr : IntKind.i64.wrap ((k : Int) + 2 - 1) = (k : Int) + 1 := by
    rw [IntKind.wrap_i64]
    omega
  clear h hT hi hs
  go_enter Tryf.func14, Tryf.ntmps14
  go_upto_region 3 with fail
  go_region_with (go_at_call 25; refine (HD.out _ HT.out.drew).mono ?_; rintro e w5 ⟨rfl, hb5⟩; have HB5 := Lib.hid hb5)
  all_goals
    go_wp2
    go_ret
    exact ⟨r, rfl, (Below.refl _ w).drew.trans HB5.out⟩

theorem dec_ne (s : ByteArray) (i c : Nat) (hc : c < 128) (h : i < s.size) (hn : bt s i ≠ c) : (Utf8.decode s i).1 ≠ c := by
  rw [Lib.decode_at]
  have hb : (s.get! i).toNat = bt s i := by rw [bt_get s i h, Utf8W.get!_of_lt s i h]
  rw [hb]
  generalize bt s i = b at hn
  unfold Lib.decodeN
  repeat' split
  all_goals simp
  all_goals omega
theorem dec_max (s : ByteArray) (i : Nat) : (Utf8.decode s i).1 ≤ 1114111 := by
  rw [Lib.decode_at]
  unfold Lib.decodeN
  repeat' split
  all_goals simp
  all_goals omega
theorem dec_fit (s : ByteArray) (i : Nat) (h : i < s.size) : i + (Utf8.decode s i).2 ≤ s.size := by
  have h1 := Lib.decodeGo_le_size (s.extract i s.size)
  have e : Lib.decodeGo (s.extract i s.size) = Utf8.decode s i := by
    unfold Lib.decodeGo
    rw [Lib.tail_size, if_neg (by omega), Lib.tail_decode, Nat.add_zero]
  rw [e, Lib.tail_size] at h1
  omega

/-- What the lexer's next step does where neither bracket lies ahead. -/
def NextOut (l : Nat) (s : ByteArray) (p : Nat) (w : World) (e : Ending) (w' : World) : Prop :=
  ∃ r p' : Nat, e = .returned (.int .i32 r) ∧ r ≠ 91 ∧ r ≠ 93 ∧ r ≤ 1114111 ∧ p ≤ p' ∧ p' ≤ s.size ∧ (r ≠ 0 → p < p') ∧ MovedG l s p' w w'

theorem next_free (B l : Nat) (s : ByteArray) (p : Nat) (w : World) (h : Lex l s p w) (hT : Tabs B w) (hp : p ≤ s.size) (hs : s.size ≤ 100000000) (hno : ∀ k, p ≤ k → k < s.size → bt s k ≠ 91 ∧ bt s k ≠ 93) :
    Calls Tryf.prog 11 #[.pointer (some ⟨l, 0, none⟩)] w (NextOut l s p w) := by
  by_cases hlt : p < s.size
  · refine (next_go B l s p w h hT hlt hs).mono ?_
    rintro e w' ⟨rfl, hm⟩
    have h1 := Lib.decode_width_pos s p hlt
    exact ⟨_, _, rfl, dec_ne s p 91 (by omega) hlt (hno p (Nat.le_refl _) hlt).1, dec_ne s p 93 (by omega) hlt (hno p (Nat.le_refl _) hlt).2, dec_max s p, by omega, dec_fit s p hlt, fun _ => by omega, hm⟩
  · refine (next_end l s p w h (by omega) (by omega)).mono ?_
    rintro e w' ⟨rfl, hq⟩
    exact ⟨0, p, rfl, by omega, by omega, by omega, Nat.le_refl _, hp, fun h => absurd rfl h, MovedG.still h hq⟩
end Go.Proofs.YtdpiipejpmheoaaFmt
