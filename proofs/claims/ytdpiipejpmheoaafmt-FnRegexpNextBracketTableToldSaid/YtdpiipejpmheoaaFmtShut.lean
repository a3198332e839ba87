/-
  regexpNext at a bracket of letters and digits, whatever the mode.
-/
import Derived.Test.YtdpiipejpmheoaaFmtBrack
import Derived.WalkMore
namespace Go.Proofs.YtdpiipejpmheoaaFmt
open Go.RowKit

set_option maxRecDepth 100000 in
set_option maxHeartbeats 8000000 in
theorem rn_shut (B b l : Nat) (s : ByteArray) (i m : Nat) (acc : List UInt8) (mode : Int) (w : World) (hb : Bld B b acc w) (hl : Lex l s i w) (hne : l ≠ b) (hBl : B ≤ l) (hs : s.size ≤ 100000) (hal : acc.length ≤ 10000000)
    (ha : bt s i = 91) (hm : 1 ≤ m) (him : i + 1 + m < s.size) (hall : ∀ k, k < m → isAl (bt s (i + 1 + k)) = true) (hend : bt s (i + 1 + m) = 93) :
    Calls Tryf.prog 8 #[.pointer (some ⟨b, 0, none⟩), .pointer (some ⟨l, 0, none⟩), .int .u64 mode] w fun e w' => e = .returned .nilIface ∧ Bld B b (acc ++ part s i (m + 2)) w' ∧ Lex l s (i + m + 2) w' ∧ Below B w w' := by
  have HB := Lib.hid hb
  have HL := Lib.hid hl
  have hlw := hl.lt
  have hbw := hb.lt
  have HN := Lib.hid (fun W j (h : Lex l s j W) hj h2 => next_ascii l s j W h hj (by omega) h2)
  have hn0 := next_ascii l s i
  rw [ha] at hn0
  have HN0 := Lib.hid (fun W (h : Lex l s i W) => hn0 W h (by omega) (by omega) (by omega))
  have HA := Lib.hid ha
  have hc0 : isAl (bt s (i + 1)) = true := hall 0 (by omega)
  obtain ⟨x, hx⟩ : ∃ x : Nat, bt s (i + 1) = x := ⟨_, rfl⟩
  rw [hx] at hc0
  obtain ⟨x0, x1, x2, x3, x4, x5, x6⟩ := al_facts hc0
  have hn1 := next_ascii l s (i + 1)
  rw [hx] at hn1
  have HN1 := Lib.hid (fun W (h : Lex l s (i + 1) W) => hn1 W h (by omega) (by omega) (by omega))
  have HX := Lib.hid hx
  have z0 : ((x : Int) == 0) = false := by simp; omega
  have z1 : ((x : Int) == 33) = false := by simp; omega
  have z2 : ((x : Int) == 94) = false := by simp; omega
  have z3 : ((x : Int) == 93) = false := by simp; omega
  have HALL := Lib.hid hall
  have HEND := Lib.hid hend
  have HIM := Lib.hid (And.intro him hs)
  clear hb hl hs ha him hall hend hn0 hn1 hx hc0 x0 x1 x2 x3 x4 x5 x6
  go_enter Tryf.func8, Tryf.ntmps8
  go_upto_if 31 with (go_at_call 11; refine (HN0.out _ ((HL.out.below ((Below.refl _ _).alloc (Nat.le_refl _) _) (Nat.le_refl _)).below ((Below.refl _ _).alloc (Nat.le_refl _) _) (Nat.le_refl _))).mono ?_; rintro e w3 ⟨rfl, hm3⟩)
  generalize (bits BinOp.and IntKind.u64 mode 64 != 0) = M
  go_cut [8, 31] from 32 to 95 (fun s8 s31 wx => wx = w3)
  case first => as_aux_lemma =>
    cases M
    · go_wp2_with fail
      go_meet
      exact rfl
    · go_wp2_with fail
      go_step3
      go_wp2_with fail
      go_step3
      go_wp2_with fail
      simp only [Exit.noGoto_normal]
      go_wp2_with fail
      go_meet
      exact rfl
  case rest =>
  obtain rfl := hcut
  have b3 : wc.cell? ⟨w.heap.size, 0, none⟩ = some (.pointer (some ⟨b, 0, none⟩)) := hm3.cell (by omega) (by simp [go_sem])
  have b4 : wc.cell? ⟨w.heap.size + 1, 0, none⟩ = some (.pointer (some ⟨l, 0, none⟩)) := hm3.cell (by omega) (by simp [go_sem])
  have l0 := hm3.lex.c1
  have hw3 : wc.heap.size = w.heap.size + 2 := hm3.size.trans (by simp)
  have HM3 := Lib.hid hm3
  have HW3 := Lib.hid hw3
  clear hm3 hw3
  go_upto_region 69 with fail
  have HBM := Lib.hid (BM.start hlw HM3.out HW3.out ((i : Int) + 1))
  simp only [HW3.out, Nat.add_assoc, Nat.reduceAdd]
  generalize (wc.alloc (.cells #[.int .i64 ((i : Int) + 1)] 3)).alloc (.cells #[.pointer none, .slice none 0 0] 33) = w4 at HBM ⊢
  clear HM3 HW3 b3 b4 l0
  go_upto_region 70 with (go_at_call 15; refine (wbyteK (w.heap.size + 3) (w.heap.size + 3) [] 91 _ rfl _ HBM.out.bsb (Nat.zero_le _)).mono ?_; rintro e w5 ⟨rfl, hb5, hk5⟩)
  have HBM5 := Lib.hid (HBM.out.kept hlw hb5 hk5)
  have k4 := HBM5.out.k4
  clear hb5 hk5 HBM
  go_upto_region 75 with (go_at_call 11; refine (HN1.out _ HBM5.out.lex).mono ?_; rintro e w6 ⟨rfl, hm6⟩)
  have HBM6 := Lib.hid (HBM5.out.moved hlw hm6)
  clear hm6 HBM5 k4
  go_wp2_with fail
  generalize (bits BinOp.and IntKind.u64 mode 2 != 0) = F
  go_loopg [7, 18, 19, 20] m (fun gk s7 s18 s19 s20 wr => ∃ k : Nat, k ≤ m ∧ gk = m - k ∧ s7 = .int .i32 (bt s (i + 1 + k)) ∧ s18 = .bool false ∧ s19 = .nilIface ∧ s20 = .nilIface ∧ BM b l w.heap.size s ((i : Int) + 1) (i + 1 + k + 1) ([91] ++ part s (i + 1) k) w wr)
  case atStart => exact ⟨0, Nat.zero_le _, rfl, by rw [Nat.add_zero, HX.out], rfl, rfl, rfl, HBM6.out⟩
  case round =>
    clear HBM6
    obtain ⟨k, hk, rfl, rfl, rfl, rfl, rfl, hbm⟩ := hrel
    have HBM := Lib.hid hbm
    have k3 := hbm.k3
    have k4 := hbm.k4
    have hpl := part_len s (i + 1) k
    clear hbm
    by_cases hlt : k < m
    · have hc1 := HALL.out k hlt
      have hps := part_snoc s (i + 1) k (by have := HIM.out; omega)
      have HPS := Lib.hid hps
      obtain ⟨c, hc⟩ : ∃ c : UInt8, s.data.toList.getD (i + 1 + k) 0 = c := ⟨_, rfl⟩
      have HC := Lib.hid hc
      obtain ⟨y, hy⟩ : ∃ y : Nat, bt s (i + 1 + k) = y := ⟨_, rfl⟩
      have hcy : c.toNat = y := by rw [← hc, ← hy]; rfl
      rw [hy] at hc1 ⊢
      obtain ⟨y0, y1, y2, y3, y4, y5, y6⟩ := al_facts hc1
      have q0 : ((y : Int) == 0) = false := by simp; omega
      have q1 : ((y : Int) == 92) = false := by simp; omega
      have q2 : ((y : Int) == 45) = false := by simp; omega
      have q3 : ((y : Int) == 93) = false := by simp; omega
      have q4 : ((y : Int) == 91) = false := by simp; omega
      have q5 : ((y : Int) == 47) = false := by simp; omega
      have hen : Lib.encodeRune (y : Int) = [c] := by rw [← hcy]; exact enc_rune c (by omega)
      have HW := Lib.hid (fun W (h : Bld (w.heap.size + 3) (w.heap.size + 3) ([91] ++ part s (i + 1) k) W) => wrune (w.heap.size + 3) (w.heap.size + 3) ([91] ++ part s (i + 1) k) y (by omega) (by omega) W h (by have := HIM.out; simp; omega))
      have HEN := Lib.hid hen
      have hnx : bt s (i + 1 + (k + 1)) < 128 := by
        by_cases h : k + 1 < m
        · exact (al_facts (HALL.out (k + 1) h)).2.1
        · have e : k + 1 = m := by omega
          rw [e, HEND.out]
          omega
      have HNX := Lib.hid hnx
      clear hc1 hps hc hy hcy y0 y1 y2 y3 y4 y5 y6 hen hpl hnx
      cases F
      all_goals
        go_wp2_with (first
          | (go_at_call 13; refine (HW.out _ HBM.out.bsb).mono ?_; rintro e w7 ⟨rfl, hb7, hk7⟩; have HBM7 := Lib.hid (HBM.out.kept hlw hb7 hk7); have k47 := HBM7.out.k4; clear hb7 hk7)
          | (go_at_call 11; refine (HN.out _ (i + 1 + k + 1) HBM7.out.lex (by have := HIM.out; omega) HNX.out).mono ?_; rintro e w8 ⟨rfl, hm8⟩; have HBM8 := Lib.hid (HBM7.out.moved hlw hm8); clear hm8))
        go_roundg (m - (k + 1))
        case measure => omega
        case rel => exact ⟨k + 1, by omega, rfl, rfl, rfl, rfl, rfl, by
          have h8 := HBM8.out
          rw [HEN.out, List.append_assoc, ← HC.out, ← HPS.out] at h8
          exact h8⟩
    · obtain rfl : k = m := by omega
      rw [HEND.out]
      have HWB := Lib.hid (wbyteK (w.heap.size + 3) (w.heap.size + 3) ([91] ++ part s (i + 1) k) 93 _ rfl wr HBM.out.bsb (by have := HIM.out; simp; omega))
      go_upto_region 120 with (go_at_call 15; refine (HWB.out).mono ?_; rintro e w7 ⟨rfl, hb7, hk7⟩; have HBM7 := Lib.hid (HBM.out.kept hlw hb7 hk7); have k37 := HBM7.out.k3; clear hb7 hk7)
      have hps := part_ends s i k (by have := HIM.out; omega) HA.out HEND.out
      have HBD := Lib.hid HBM7.out.drew
      have HSZ := Lib.hid (show (part s (i + 1) k).length ≤ 100000 by have := HIM.out; omega)
      clear HBM7
      go_region_with (first
        | (go_at_call 9; refine (bstr (w.heap.size + 3) (w.heap.size + 3) _ _ HBD.out.bsb).mono ?_; rintro e w8 ⟨rfl, hb8, hk8⟩; have HBM8 := Lib.hid (HBD.out.kept hlw hb8 hk8); have k38 := HBM8.out.k3; clear hb8 hk8)
        | (go_at_call 7; refine (wstr B b acc _ _ (HBM8.out.sb HB.out HL.out hne) (by omega) (by have := HSZ.out; rw [list_size]; simp; omega)).mono ?_; rintro e w9 ⟨rfl, hb9, hk9⟩; have HK9 := Lib.hid (And.intro hb9 hk9); clear hb9 hk9))
      all_goals
        go_wp2
        go_ret
        refine ⟨rfl, ?_, ?_, (HBM8.out.bel.mono hBl).trans HK9.out.2.bel⟩
        · rw [hps]
          exact HK9.out.1
        · have h8 := HBM8.out.lex.kept HK9.out.2 hne
          rw [show i + 1 + k + 1 = i + k + 2 by omega] at h8
          exact h8
end Go.Proofs.YtdpiipejpmheoaaFmt
