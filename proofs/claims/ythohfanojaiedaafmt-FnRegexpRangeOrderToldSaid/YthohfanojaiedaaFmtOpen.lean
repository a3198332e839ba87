/-
  regexpNext at a bracket that nothing closes, behind it letters and digits alone.
-/
import Derived.Test.YthohfanojaiedaaFmtBrack
namespace Go.Proofs.YthohfanojaiedaaFmt
open Go.RowKit

set_option maxRecDepth 100000 in
set_option maxHeartbeats 1000000 in
theorem literal_any (B b l : Nat) (s : ByteArray) (i lit pos : Nat) (inner acc : List UInt8) (w wr : World) (h : BM b l w.heap.size s (lit : Int) pos inner w wr) (hb : Bld B b acc w) (hl : Lex l s i w) (hne : l ≠ b) (hlw : l < w.heap.size) (hBl : B ≤ l) (hal : acc.length ≤ 10000000) :
    Calls Tryf.prog 28 #[.pointer (some ⟨w.heap.size + 2, 0, none⟩), .pointer (some ⟨w.heap.size + 1, 0, none⟩), .pointer (some ⟨w.heap.size, 0, none⟩)] wr fun e w' => e = .returned .nilIface ∧ Bld B b (acc ++ [92, 91]) w' ∧ Lex l s lit w' ∧ Below B w w' := by
  have k3 := h.k3
  have k4 := h.k4
  have k5 := h.k5
  have f1 := h.lex.f1
  have hc1 := h.lex.c1
  have hm : Moved l s lit wr (wr.setCell ⟨l, 1, none⟩ (.int .i64 (lit : Int))) := Moved.of h.lex 0 lit
  have hb2 := hm.bld (h.sb hb hl hne) h.lex hne
  have h3 : (wr.setCell ⟨l, 1, none⟩ (.int .i64 (lit : Int))).cell? ⟨w.heap.size, 0, none⟩ = some (.pointer (some ⟨b, 0, none⟩)) := hm.cell (by omega) k3
  have HW := Lib.hid (wstr B b acc ⟨#[92, 91]⟩ _ hb2 (by omega) (by simp [ByteArray.size]))
  have HM := Lib.hid hm
  have H := Lib.hid h
  have hneN : w.heap.size ≠ l := by omega
  clear hm hb2 h hb hl
  go_enter Tryf.func28, Tryf.ntmps28
  go_wp2_with (go_at_call 14; refine (HW.out).mono ?_; rintro e w5 ⟨rfl, hb5, hk5⟩)
  go_ret
  exact ⟨rfl, hb5, HM.out.lex.kept hk5 hne, ((H.out.bel.trans HM.out.bel).mono hBl).trans hk5.bel⟩
/-- What the lexer's next step hands out: 0 at the end. -/
def cu (s : ByteArray) (j : Nat) : Nat := if j < s.size then bt s j else 0
theorem cu_in (s : ByteArray) (j : Nat) (h : j < s.size) : cu s j = bt s j := if_pos h
theorem cu_end (s : ByteArray) (j : Nat) (h : s.size ≤ j) : cu s j = 0 := if_neg (by omega)

set_option maxRecDepth 100000 in
set_option maxHeartbeats 8000000 in
theorem rn_open (B b l : Nat) (s : ByteArray) (i m : Nat) (acc : List UInt8) (mode : Int) (w : World) (hb : Bld B b acc w) (hl : Lex l s i w) (hne : l ≠ b) (hBl : B ≤ l) (hs : s.size ≤ 100000) (hal : acc.length ≤ 10000000)
    (ha : bt s i = 91) (hm : 1 ≤ m) (him : i + 1 + m = s.size) (hall : ∀ k, k < m → isAl (bt s (i + 1 + k)) = true) (hmode : (bits BinOp.and IntKind.u64 mode 64 != 0) = false) :
    Calls Tryf.prog 15 #[.pointer (some ⟨b, 0, none⟩), .pointer (some ⟨l, 0, none⟩), .int .u64 mode] w fun e w' => e = .returned .nilIface ∧ Bld B b (acc ++ [92, 91]) w' ∧ Lex l s (i + 1) w' ∧ Below B w w' := by
  have HB := Lib.hid hb
  have HL := Lib.hid hl
  have hlw := hl.lt
  have hbw := hb.lt
  have HN := Lib.hid (fun W j (h : Lex l s j W) hj h2 => next_ascii l s j W h hj (by omega) h2)
  have hn0 := next_ascii l s i
  rw [ha] at hn0
  have HN0 := Lib.hid (fun W (h : Lex l s i W) => hn0 W h (by omega) (by omega) (by omega))
  have hc0 : isAl (bt s (i + 1)) = true := hall 0 (by omega)
  obtain ⟨x, hx⟩ : ∃ x : Nat, bt s (i + 1) = x := ⟨_, rfl⟩
  rw [hx] at hc0
  obtain ⟨x0, x1, x2, x3, x4, x5, x6⟩ := al_facts hc0
  have hn1 := next_ascii l s (i + 1)
  rw [hx] at hn1
  have HN1 := Lib.hid (fun W (h : Lex l s (i + 1) W) => hn1 W h (by omega) (by omega) (by omega))
  have HX := Lib.hid hx
  have z0 : ((x : Int) == 0) = false := by simp; omega
  have z1 : ((x : Int) == 33) = false := by simp; omega
  have z2 : ((x : Int) == 94) = false := by simp; omega
  have z3 : ((x : Int) == 93) = false := by simp; omega
  have HALL := Lib.hid hall
  have HNE := Lib.hid (fun W j (h : Lex l s j W) hj => next_end l s j W h hj)
  have HIM := Lib.hid (And.intro him hs)
  clear hb hl hs ha him hall hn0 hn1 hx hc0 x0 x1 x2 x3 x4 x5 x6
  go_enter Tryf.func15, Tryf.ntmps15
  go_upto_region 2 with (go_at_call 22; refine (HN0.out _ ((HL.out.below ((Below.refl _ _).alloc (Nat.le_refl _) _) (Nat.le_refl _)).below ((Below.refl _ _).alloc (Nat.le_refl _) _) (Nat.le_refl _))).mono ?_; rintro e w3 ⟨rfl, hm3⟩)
  have b3 : w3.cell? ⟨w.heap.size, 0, none⟩ = some (.pointer (some ⟨b, 0, none⟩)) := hm3.cell (by omega) (by simp [go_sem])
  have b4 : w3.cell? ⟨w.heap.size + 1, 0, none⟩ = some (.pointer (some ⟨l, 0, none⟩)) := hm3.cell (by omega) (by simp [go_sem])
  have l0 := hm3.lex.c1
  have hw3 : w3.heap.size = w.heap.size + 2 := hm3.size.trans (by simp)
  have HM3 := Lib.hid hm3
  have HW3 := Lib.hid hw3
  clear hm3 hw3
  go_upto_region 69 with fail
  have HBM := Lib.hid (BM.start hlw HM3.out HW3.out ((i : Int) + 1))
  simp only [HW3.out, Nat.add_assoc, Nat.reduceAdd]
  generalize (w3.alloc (.cells #[.int .i64 ((i : Int) + 1)] 3)).alloc (.cells #[.pointer none, .slice none 0 0] 42) = w4 at HBM ⊢
  clear HM3 HW3 b3 b4 l0
  go_upto_region 70 with (go_at_call 26; refine (wbyteK (w.heap.size + 3) (w.heap.size + 3) [] 91 _ rfl _ HBM.out.bsb (Nat.zero_le _)).mono ?_; rintro e w5 ⟨rfl, hb5, hk5⟩)
  have HBM5 := Lib.hid (HBM.out.kept hlw hb5 hk5)
  have k4 := HBM5.out.k4
  clear hb5 hk5 HBM
  go_upto_region 75 with (go_at_call 22; refine (HN1.out _ HBM5.out.lex).mono ?_; rintro e w6 ⟨rfl, hm6⟩)
  have HBM6 := Lib.hid (HBM5.out.moved hlw hm6)
  clear hm6 HBM5 k4
  go_wp2_with fail
  generalize (bits BinOp.and IntKind.u64 mode 2 != 0) = F
  go_loopg [7, 18, 19, 20] m (fun gk s7 s18 s19 s20 wr => ∃ k : Nat, k ≤ m ∧ gk = m - k ∧ s7 = .int .i32 (cu s (i + 1 + k)) ∧ s18 = .bool false ∧ s19 = .nilIface ∧ s20 = .nilIface ∧ BM b l w.heap.size s ((i : Int) + 1) (min (i + 1 + k + 1) s.size) ([91] ++ part s (i + 1) k) w wr)
  case atStart => exact ⟨0, Nat.zero_le _, rfl, by rw [Nat.add_zero, cu_in _ _ (by have := HIM.out; omega), HX.out], rfl, rfl, rfl, by rw [Nat.min_eq_left (by have := HIM.out; omega)]; exact HBM6.out⟩
  case round =>
    clear HBM6
    obtain ⟨k, hk, rfl, rfl, rfl, rfl, rfl, hbm⟩ := hrel
    have HBM := Lib.hid hbm
    have k3 := hbm.k3
    have k4 := hbm.k4
    have hpl := part_len s (i + 1) k
    clear hbm
    by_cases hlt : k < m
    · have hc1 := HALL.out k hlt
      have hcu := cu_in s (i + 1 + k) (by have := HIM.out; omega)
      rw [hcu]
      clear hcu
      have hmn : min (i + 1 + k + 1) s.size = i + 1 + k + 1 := Nat.min_eq_left (by have := HIM.out; omega)
      have HBM0 := HBM.out
      rw [hmn] at HBM0
      have HBM1 := Lib.hid HBM0
      clear HBM HBM0 hmn
      have hps := part_snoc s (i + 1) k (by have := HIM.out; omega)
      have HPS := Lib.hid hps
      obtain ⟨c, hc⟩ : ∃ c : UInt8, s.data.toList.getD (i + 1 + k) 0 = c := ⟨_, rfl⟩
      have HC := Lib.hid hc
      obtain ⟨y, hy⟩ : ∃ y : Nat, bt s (i + 1 + k) = y := ⟨_, rfl⟩
      have hcy : c.toNat = y := by rw [← hc, ← hy]; rfl
      rw [hy] at hc1 ⊢
      obtain ⟨y0, y1, y2, y3, y4, y5, y6⟩ := al_facts hc1
      have q0 : ((y : Int) == 0) = false := by simp; omega
      have q1 : ((y : Int) == 92) = false := by simp; omega
      have q2 : ((y : Int) == 45) = false := by simp; omega
      have q3 : ((y : Int) == 93) = false := by simp; omega
      have q4 : ((y : Int) == 91) = false := by simp; omega
      have q5 : ((y : Int) == 47) = false := by simp; omega
      have hen : Lib.encodeRune (y : Int) = [c] := by rw [← hcy]; exact enc_rune c (by omega)
      have HW := Lib.hid (fun W (h : Bld (w.heap.size + 3) (w.heap.size + 3) ([91] ++ part s (i + 1) k) W) => wrune (w.heap.size + 3) (w.heap.size + 3) ([91] ++ part s (i + 1) k) y (by omega) (by omega) W h (by have := HIM.out; simp; omega))
      have HEN := Lib.hid hen
      clear hc1 hps hc hy hcy y0 y1 y2 y3 y4 y5 y6 hen hpl
      by_cases hl1 : k + 1 < m
      · have hal1 := (al_facts (HALL.out (k + 1) hl1)).2.1
        have HNX := Lib.hid hal1
        clear hal1
        cases F
        all_goals
          go_wp2_with (first
            | (go_at_call 24; refine (HW.out _ HBM1.out.bsb).mono ?_; rintro e w7 ⟨rfl, hb7, hk7⟩; have HBM7 := Lib.hid (HBM1.out.kept hlw hb7 hk7); have k47 := HBM7.out.k4; clear hb7 hk7)
            | (go_at_call 22; refine (HN.out _ (i + 1 + k + 1) HBM7.out.lex (by have := HIM.out; omega) HNX.out).mono ?_; rintro e w8 ⟨rfl, hm8⟩; have HBM8 := Lib.hid (HBM7.out.moved hlw hm8); clear hm8))
          go_roundg (m - (k + 1))
          case measure => omega
          case rel => exact ⟨k + 1, by omega, rfl, by rw [cu_in _ _ (by have := HIM.out; omega)]; rfl, rfl, rfl, rfl, by
            have h8 := HBM8.out
            rw [HEN.out, List.append_assoc, ← HC.out, ← HPS.out] at h8
            rw [Nat.min_eq_left (by have := HIM.out; omega)]
            exact h8⟩
      · have hkm : k + 1 = m := by omega
        have HKM := Lib.hid hkm
        clear hl1 hkm
        cases F
        all_goals
          go_wp2_with (first
            | (go_at_call 24; refine (HW.out _ HBM1.out.bsb).mono ?_; rintro e w7 ⟨rfl, hb7, hk7⟩; have HBM7 := Lib.hid (HBM1.out.kept hlw hb7 hk7); have k47 := HBM7.out.k4; clear hb7 hk7)
            | (go_at_call 22; refine (HNE.out _ (i + 1 + k + 1) HBM7.out.lex (by have := HIM.out; have := HKM.out; omega) (by have := HIM.out; omega)).mono ?_; rintro e w8 ⟨rfl, hq8⟩))
          go_roundg (m - (k + 1))
          case measure => omega
          case rel => exact ⟨k + 1, by omega, rfl, by rw [cu_end _ _ (by have := HIM.out; have := HKM.out; omega)]; rfl, rfl, rfl, rfl, by
            obtain ⟨q, rfl⟩ := hq8
            have h8 := HBM7.out.quiet q
            rw [HEN.out, List.append_assoc, ← HC.out, ← HPS.out] at h8
            rw [Nat.min_eq_right (by have := HIM.out; have := HKM.out; omega)]
            rw [show i + 1 + k + 1 = s.size by have := HIM.out; have := HKM.out; omega] at h8
            exact h8⟩
    · obtain rfl : k = m := by omega
      rw [cu_end _ _ (by have := HIM.out; omega)]
      have hlt1 : (((i + 1 : Nat)) : Int) = (i : Int) + 1 := by omega
      have hbl := HBM.out
      rw [← hlt1] at hbl
      have HLIT := Lib.hid (literal_any B b l s i (i + 1) _ _ acc w wr hbl HB.out HL.out hne hlw hBl hal)
      clear hbl hlt1
      go_wp2_with (go_at_call 28; refine (HLIT.out).mono ?_; rintro e w7 ⟨rfl, h7, h8, h9⟩)
      go_ret
      exact ⟨rfl, h7, h8, h9⟩

set_option maxRecDepth 100000 in
set_option maxHeartbeats 8000000 in
theorem rn_open0 (B b l : Nat) (s : ByteArray) (i : Nat) (acc : List UInt8) (mode : Int) (w : World) (hb : Bld B b acc w) (hl : Lex l s i w) (hne : l ≠ b) (hBl : B ≤ l) (hs : s.size ≤ 100000) (hal : acc.length ≤ 10000000)
    (ha : bt s i = 91) (him : i + 1 = s.size) (hmode : (bits BinOp.and IntKind.u64 mode 64 != 0) = false) :
    Calls Tryf.prog 15 #[.pointer (some ⟨b, 0, none⟩), .pointer (some ⟨l, 0, none⟩), .int .u64 mode] w fun e w' => e = .returned .nilIface ∧ Bld B b (acc ++ [92, 91]) w' ∧ Lex l s (i + 1) w' ∧ Below B w w' := by
  have HB := Lib.hid hb
  have HL := Lib.hid hl
  have hlw := hl.lt
  have hbw := hb.lt
  have HNE := Lib.hid (fun W (h : Lex l s (i + 1) W) => next_end l s (i + 1) W h (by omega) (by omega))
  have hn0 := next_ascii l s i
  rw [ha] at hn0
  have HN0 := Lib.hid (fun W (h : Lex l s i W) => hn0 W h (by omega) (by omega) (by omega))
  clear hb hl hs ha him hn0
  go_enter Tryf.func15, Tryf.ntmps15
  go_upto_region 2 with (go_at_call 22; refine (HN0.out _ ((HL.out.below ((Below.refl _ _).alloc (Nat.le_refl _) _) (Nat.le_refl _)).below ((Below.refl _ _).alloc (Nat.le_refl _) _) (Nat.le_refl _))).mono ?_; rintro e w3 ⟨rfl, hm3⟩)
  have b3 : w3.cell? ⟨w.heap.size, 0, none⟩ = some (.pointer (some ⟨b, 0, none⟩)) := hm3.cell (by omega) (by simp [go_sem])
  have b4 : w3.cell? ⟨w.heap.size + 1, 0, none⟩ = some (.pointer (some ⟨l, 0, none⟩)) := hm3.cell (by omega) (by simp [go_sem])
  have l0 := hm3.lex.c1
  have hw3 : w3.heap.size = w.heap.size + 2 := hm3.size.trans (by simp)
  have HM3 := Lib.hid hm3
  have HW3 := Lib.hid hw3
  clear hm3 hw3
  go_upto_region 69 with fail
  have HBM := Lib.hid (BM.start hlw HM3.out HW3.out ((i : Int) + 1))
  simp only [HW3.out, Nat.add_assoc, Nat.reduceAdd]
  generalize (w3.alloc (.cells #[.int .i64 ((i : Int) + 1)] 3)).alloc (.cells #[.pointer none, .slice none 0 0] 42) = w4 at HBM ⊢
  clear HM3 HW3 b3 b4 l0
  go_upto_region 70 with (go_at_call 26; refine (wbyteK (w.heap.size + 3) (w.heap.size + 3) [] 91 _ rfl _ HBM.out.bsb (Nat.zero_le _)).mono ?_; rintro e w5 ⟨rfl, hb5, hk5⟩)
  have HBM5 := Lib.hid (HBM.out.kept hlw hb5 hk5)
  have k4 := HBM5.out.k4
  clear hb5 hk5 HBM
  go_upto_region 75 with (go_at_call 22; refine (HNE.out _ HBM5.out.lex).mono ?_; rintro e w6 ⟨rfl, hq6⟩)
  have hbm6 : BM b l w.heap.size s ((i : Int) + 1) (i + 1) ([] ++ [91]) w w6 := by
    obtain ⟨q, rfl⟩ := hq6
    exact HBM5.out.quiet q
  have hlt1 : (((i + 1 : Nat)) : Int) = (i : Int) + 1 := by omega
  rw [← hlt1] at hbm6
  have HLIT := Lib.hid (literal_any B b l s i (i + 1) _ _ acc w w6 hbm6 HB.out HL.out hne hlw hBl hal)
  clear hbm6 hlt1 hq6 HBM5 k4
  go_wp2_with (go_at_call 28; refine (HLIT.out).mono ?_; rintro e w7 ⟨rfl, h7, h8, h9⟩)
  go_ret
  exact ⟨rfl, h7, h8, h9⟩

end Go.Proofs.YthohfanojaiedaaFmt
