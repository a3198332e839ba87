/-
  regexpNext at a bracket whose one range is reversed: the error.
-/
import Derived.Test.YthohfanojaiedaaFmtRange
import Derived.Test.YthohfanojaiedaaFmtFmt
namespace Go.Proofs.YthohfanojaiedaaFmt
open Go.RowKit Go.Extern.Stop Go.Stop Go.Extern

/-- A SyntaxError without an inner error lies there. -/
def ErrAt (q : Nat) (t : ByteArray) (w : World) : Prop := w.heap[q]? = some (.cells #[.string t, .nilIface] 69 (0, 0))
/-- What is handed back where the range is reversed. -/
def BadOut (B : Nat) (w : World) (e : Ending) (w' : World) : Prop := ∃ q t, e = .returned (.iface 36 (.pointer (some ⟨q, 0, none⟩))) ∧ ErrAt q t w' ∧ Below B w w'
/-- The deferred error: none ahead of the range, one behind it. -/
def BadAt (N k : Nat) (v : Value) (w : World) : Prop := (k ≤ 1 ∧ v = .nilIface) ∨ (2 ≤ k ∧ ∃ q t, v = .iface 36 (.pointer (some ⟨q, 0, none⟩)) ∧ ErrAt q t w ∧ N + 3 < q)
theorem BadAt.kept {N k : Nat} {v : Value} {w w' : World} (h : BadAt N k v w) (hk : Kept (N + 3) (N + 3) w w') : BadAt N k v w' := by
  rcases h with h | ⟨h1, q, t, hv, hq, hn⟩
  · exact Or.inl h
  · exact Or.inr ⟨h1, q, t, hv, hk.oth q _ hq (fun e => by have := Option.some.inj e; omega) (fun c fz e => by cases e), hn⟩
theorem BadAt.moved {N k l : Nat} {s : ByteArray} {j : Nat} {v : Value} {w w' : World} (h : BadAt N k v w) (hl : l < N) (hm : Moved l s j w w') : BadAt N k v w' := by
  rcases h with h | ⟨h1, q, t, hv, hq, hn⟩
  · exact Or.inl h
  · exact Or.inr ⟨h1, q, t, hv, (hm.oth q (by omega)).trans hq, hn⟩
theorem BadAt.next {N k : Nat} {v : Value} {w : World} (h : BadAt N k v w) (hk : k = 0 ∨ 2 ≤ k) : BadAt N (k + 1) v w := by
  rcases h with ⟨h1, h2⟩ | ⟨h1, h2⟩
  · exact Or.inl ⟨by omega, h2⟩
  · exact Or.inr ⟨by omega, h2⟩
theorem BM.alloc {b l N : Nat} {s : ByteArray} {lit : Int} {pos : Nat} {inner : List UInt8} {w wr : World} (h : BM b l N s lit pos inner w wr) (o : Obj) : BM b l N s lit pos inner w (wr.alloc o) := by
  have hz : N + 3 < wr.heap.size := h.bsb.lt
  have hb := (Below.refl wr.heap.size wr).alloc (Nat.le_refl _) o
  exact {
    oth := fun k h1 h2 => (hb.block k (by omega)).trans (h.oth k h1 h2)
    k3 := (hb.cell (p := ⟨N, 0, none⟩) (by show N < _; omega)).trans h.k3
    k4 := (hb.cell (p := ⟨N + 1, 0, none⟩) (by show N + 1 < _; omega)).trans h.k4
    k5 := (hb.cell (p := ⟨N + 2, 0, none⟩) (by show N + 2 < _; omega)).trans h.k5
    bsb := h.bsb.below hb (Nat.le_refl _)
    lex := h.lex.below hb (Nat.le_refl _)
    bel := h.bel.alloc (Nat.le_of_lt h.lex.lt) o }

set_option maxRecDepth 100000 in
set_option maxHeartbeats 8000000 in
theorem rn_bad (F : Interp) (B b l : Nat) (s : ByteArray) (i x y : Nat) (acc : List UInt8) (mode : Int) (w : World) (hb : Bld B b acc w) (hl : Lex l s i w) (hBl : B ≤ l) (hs : s.size ≤ 100000)
    (ha : bt s i = 91) (him : i + 4 < s.size) (hx : bt s (i + 1) = x) (h2 : bt s (i + 1 + 1) = 45) (hy : bt s (i + 1 + 2) = y) (hend : bt s (i + 1 + 3) = 93) (hax : isAl x = true) (hay : isAl y = true) (hxy : y < x) (hF : F.answers w.tape) (hmode : (bits BinOp.and IntKind.u64 mode 64 != 0) = false) :
    Calls Tryf.prog 15 #[.pointer (some ⟨b, 0, none⟩), .pointer (some ⟨l, 0, none⟩), .int .u64 mode] w (BadOut B w) := by
  have HB := Lib.hid hb
  have HL := Lib.hid hl
  have hlw := hl.lt
  have hbw := hb.lt
  have HN := Lib.hid (fun W j (h : Lex l s j W) hj h2 => next_ascii l s j W h hj (by omega) h2)
  have hn0 := next_ascii l s i
  rw [ha] at hn0
  have HN0 := Lib.hid (fun W (h : Lex l s i W) => hn0 W h (by omega) (by omega) (by omega))
  have HA := Lib.hid ha
  obtain ⟨x0, x1, x2, x3, x4, x5, x6⟩ := al_facts hax
  have hn1 := next_ascii l s (i + 1)
  rw [hx] at hn1
  have HN1 := Lib.hid (fun W (h : Lex l s (i + 1) W) => hn1 W h (by omega) (by omega) (by omega))
  have HX := Lib.hid hx
  have z0 : ((x : Int) == 0) = false := by simp; omega
  have z1 : ((x : Int) == 33) = false := by simp; omega
  have z2 : ((x : Int) == 94) = false := by simp; omega
  have z3 : ((x : Int) == 93) = false := by simp; omega
  have HY := Lib.hid hy
  have H2 := Lib.hid h2
  have HAX := Lib.hid hax
  have HAY := Lib.hid hay
  have HEND := Lib.hid hend
  have HIM := Lib.hid (And.intro him hs)
  clear hb hl hs ha him hend hn0 hn1 hx hy h2 hax hay x0 x1 x2 x3 x4 x5 x6
  go_enter Tryf.func15, Tryf.ntmps15
  go_upto_region 2 with (go_at_call 22; refine (HN0.out _ ((HL.out.below ((Below.refl _ _).alloc (Nat.le_refl _) _) (Nat.le_refl _)).below ((Below.refl _ _).alloc (Nat.le_refl _) _) (Nat.le_refl _))).mono ?_; rintro e w3 ⟨rfl, hm3⟩)
  have b3 : w3.cell? ⟨w.heap.size, 0, none⟩ = some (.pointer (some ⟨b, 0, none⟩)) := hm3.cell (by omega) (by simp [go_sem])
  have b4 : w3.cell? ⟨w.heap.size + 1, 0, none⟩ = some (.pointer (some ⟨l, 0, none⟩)) := hm3.cell (by omega) (by simp [go_sem])
  have l0 := hm3.lex.c1
  have hw3 : w3.heap.size = w.heap.size + 2 := hm3.size.trans (by simp)
  have HM3 := Lib.hid hm3
  have HW3 := Lib.hid hw3
  clear hm3 hw3
  go_upto_region 69 with fail
  have HBM := Lib.hid (BM.start hlw HM3.out HW3.out ((i : Int) + 1))
  simp only [HW3.out, Nat.add_assoc, Nat.reduceAdd]
  generalize (w3.alloc (.cells #[.int .i64 ((i : Int) + 1)] 3)).alloc (.cells #[.pointer none, .slice none 0 0] 42) = w4 at HBM ⊢
  clear HM3 HW3 b3 b4 l0
  go_upto_region 70 with (go_at_call 26; refine (wbyteK (w.heap.size + 3) (w.heap.size + 3) [] 91 _ rfl _ HBM.out.bsb (Nat.zero_le _)).mono ?_; rintro e w5 ⟨rfl, hb5, hk5⟩)
  have HBM5 := Lib.hid (HBM.out.kept hlw hb5 hk5)
  have k4 := HBM5.out.k4
  clear hb5 hk5 HBM
  go_upto_region 75 with (go_at_call 22; refine (HN1.out _ HBM5.out.lex).mono ?_; rintro e w6 ⟨rfl, hm6⟩)
  have HBM6 := Lib.hid (HBM5.out.moved hlw hm6)
  clear hm6 HBM5 k4
  go_wp2_with fail
  generalize (bits BinOp.and IntKind.u64 mode 2 != 0) = Fn
  have HF := Lib.hid hF
  clear hF
  go_loopg [7, 18, 19, 20] 3 (fun gk s7 s18 s19 s20 wr => ∃ (k : Nat) (v19 : Value), v19 = s19 ∧ k ≤ 3 ∧ gk = 3 - k ∧ s7 = .int .i32 (bt s (i + 1 + k)) ∧ s18 = .bool false ∧ BadAt w.heap.size k v19 wr ∧ s20 = .nilIface ∧ BM b l w.heap.size s ((i : Int) + 1) (i + 1 + k + 1) ([91] ++ part s (i + 1) k) w wr)
  case atStart => exact ⟨0, _, rfl, Nat.zero_le _, rfl, by rw [Nat.add_zero, HX.out], rfl, Or.inl ⟨by omega, rfl⟩, rfl, HBM6.out⟩
  case round =>
    clear HBM6
    obtain ⟨k, v19, rfl, hk, rfl, rfl, rfl, hbad, rfl, hbm⟩ := hrel
    have HBM := Lib.hid hbm
    have k3 := hbm.k3
    have k4 := hbm.k4
    have hpl := part_len s (i + 1) k
    clear hbm
    by_cases hk3 : k = 3
    · subst hk3
      rw [HEND.out]
      rcases hbad with ⟨h, _⟩ | ⟨_, q, t, rfl, hq, hqn⟩
      · omega
      · have HQ := Lib.hid hq
        clear hq hqn hpl k3 k4
        go_wp2
        go_ret
        exact ⟨q, t, rfl, HQ.out, HBM.out.bel.mono hBl⟩
    · have hps := part_snoc s (i + 1) k (by have := HIM.out; omega)
      have HPS := Lib.hid hps
      have hnx : bt s (i + 1 + (k + 1)) < 128 := by
        have h : k = 0 ∨ k = 1 ∨ k = 2 := by omega
        rcases h with rfl | rfl | rfl
        · rw [H2.out]; omega
        · rw [HY.out]; exact (al_facts HAY.out).2.1
        · rw [HEND.out]; omega
      have HNX := Lib.hid hnx
      obtain ⟨c, hc⟩ : ∃ c : UInt8, s.data.toList.getD (i + 1 + k) 0 = c := ⟨_, rfl⟩
      have HC := Lib.hid hc
      obtain ⟨u, hu⟩ : ∃ u : Nat, bt s (i + 1 + k) = u := ⟨_, rfl⟩
      have hcu : c.toNat = u := by rw [← hc, ← hu]; rfl
      by_cases hk1 : k = 1
      · subst hk1
        have h45 : c = 45 := by
          apply UInt8.toNat_inj.1
          rw [hcu, ← hu, H2.out]
          rfl
        rw [H2.out]
        have HWB := Lib.hid (wbyteK (w.heap.size + 3) (w.heap.size + 3) ([91] ++ part s (i + 1) 1) 45 _ rfl wr HBM.out.bsb (by simp; omega))
        have HLA := Lib.hid (fun W (h : Lex l s (i + 1 + 1 + 1) W) => last_ascii l s (i + 1) W h (by have := HIM.out; omega) (by have := HIM.out; omega) x HX.out (al_facts HAX.out).2.1)
        have HPK := Lib.hid (fun W (h : Lex l s (i + 1 + 1 + 1) W) => peek_ascii l s (i + 1 + 2) W h (by have := HIM.out; omega) (by have := HIM.out; omega) y HY.out (al_facts HAY.out).2.1)
        have r1 : ((y : Int) != 93) = true := by
          have := (al_facts HAY.out).2.2.2.2.1
          simp; omega
        have r2 : (y : Int) < (x : Int) := by omega
        subst h45
        obtain rfl : v19 = .nilIface := by
          rcases hbad with ⟨_, h⟩ | ⟨h, _⟩
          · exact h
          · omega
        clear hbad
        clear hps hc hu hcu hpl hnx
        go_upto_region 111 with (first
          | (go_at_call 26; refine (HWB.out).mono ?_; rintro e w7 ⟨rfl, hb7, hk7⟩; have HBM7 := Lib.hid (HBM.out.kept hlw hb7 hk7); have k47 := HBM7.out.k4; clear hb7 hk7)
          | (go_at_call 25; refine (HLA.out _ HBM7.out.lex).mono ?_; rintro e w8 ⟨rfl, hq8⟩; have HBM8 := Lib.hid (HBM7.out.quietly hq8); have k48 := HBM8.out.k4)
          | (go_at_call 23; refine (HPK.out _ HBM8.out.lex).mono ?_; rintro e w9 ⟨rfl, hq9⟩; have HBM9 := Lib.hid (HBM8.out.quietly hq9); have k49 := HBM9.out.k4))
        have hF9 : F.answers w9.tape := by rw [HBM9.out.bel.tape]; exact HF.out
        have hF' := answers_open hF9
        have s1 := Tryf.callS
        have s2 := Tryf.guardS
        have s3 := Tryf.fmtS
        have s4 := Tryf.fmtSr
        have s5 := Tryf.opR
        have HKEY := Lib.hid (fun (o1 : Obj) (t : ByteArray) => And.intro ((HBM9.out.alloc o1).alloc (.cells #[.string t, .nilIface] 69)).drew (show ErrAt (w9.heap.size + 1) t (((w9.alloc o1).alloc (.cells #[.string t, .nilIface] 69)).drew) from heap_alloc2_new w9 o1 _))
        have hsz9 := HBM9.out.bsb.lt
        have HS9 := Lib.hid hsz9
        clear hsz9
        have hz9 : w.heap.size < w9.heap.size ∧ w.heap.size + 1 < w9.heap.size := by have := HS9.out; omega
        have k4a : ∀ o1 o2, ((w9.alloc o1).alloc o2).cell? ⟨w.heap.size + 1, 0, none⟩ = some (.pointer (some ⟨l, 0, none⟩)) := fun o1 o2 => ((HBM9.out.alloc o1).alloc o2).k4
        go_upto_region 136 with fail
        go_wp2_with (go_at_call 22; refine (HN.out _ (i + 1 + 1 + 1) (HKEY.out _ _).1.lex (by have := HIM.out; omega) HNX.out).mono ?_; rintro e w10 ⟨rfl, hm10⟩; have HBM10 := Lib.hid ((HKEY.out _ _).1.moved hlw hm10); have HERR := Lib.hid ((hm10.oth (w9.heap.size + 1) (by have := HS9.out; omega)).trans (HKEY.out _ _).2); clear hm10)
        go_roundg 1
        case measure => omega
        case rel => exact ⟨2, _, rfl, by omega, rfl, rfl, rfl, Or.inr ⟨Nat.le_refl _, _, _, rfl, HERR.out, by have := HS9.out; omega⟩, rfl, by
          have h8 := HBM10.out
          rw [List.append_assoc, ← HC.out, ← HPS.out] at h8
          exact h8⟩
      · have hau : isAl u = true := by
          rw [← hu]
          have h : k = 0 ∨ k = 2 := by omega
          rcases h with rfl | rfl
          · rw [Nat.add_zero, HX.out]; exact HAX.out
          · rw [HY.out]; exact HAY.out
        rw [hu] at ⊢
        obtain ⟨y0, y1, y2, y3, y4, y5, y6⟩ := al_facts hau
        have q0 : ((u : Int) == 0) = false := by simp; omega
        have q1 : ((u : Int) == 92) = false := by simp; omega
        have q2 : ((u : Int) == 45) = false := by simp; omega
        have q3 : ((u : Int) == 93) = false := by simp; omega
        have q4 : ((u : Int) == 91) = false := by simp; omega
        have q5 : ((u : Int) == 47) = false := by simp; omega
        have hen : Lib.encodeRune (u : Int) = [c] := by rw [← hcu]; exact enc_rune c (by omega)
        have HW := Lib.hid (fun W (h : Bld (w.heap.size + 3) (w.heap.size + 3) ([91] ++ part s (i + 1) k) W) => wrune (w.heap.size + 3) (w.heap.size + 3) ([91] ++ part s (i + 1) k) u (by omega) (by omega) W h (by simp; omega))
        have HEN := Lib.hid hen
        clear hps hc hu hcu hau y0 y1 y2 y3 y4 y5 y6 hen hpl hnx
        have HBAD := Lib.hid hbad
        clear hbad
        cases Fn
        all_goals
          go_wp2_with (first
            | (go_at_call 24; refine (HW.out _ HBM.out.bsb).mono ?_; rintro e w7 ⟨rfl, hb7, hk7⟩; have HBM7 := Lib.hid (HBM.out.kept hlw hb7 hk7); have k47 := HBM7.out.k4; have HBAD7 := Lib.hid (HBAD.out.kept hk7); clear hb7 hk7)
            | (go_at_call 22; refine (HN.out _ (i + 1 + k + 1) HBM7.out.lex (by have := HIM.out; omega) HNX.out).mono ?_; rintro e w8 ⟨rfl, hm8⟩; have HBM8 := Lib.hid (HBM7.out.moved hlw hm8); have HBAD8 := Lib.hid (HBAD7.out.moved hlw hm8); clear hm8))
          go_roundg (3 - (k + 1))
          case measure => omega
          case rel => exact ⟨k + 1, _, rfl, by omega, rfl, rfl, rfl, HBAD8.out.next (by omega), rfl, by
            have h8 := HBM8.out
            rw [HEN.out, List.append_assoc, ← HC.out, ← HPS.out] at h8
            exact h8⟩
end Go.Proofs.YthohfanojaiedaaFmt
