/-
  regexpNext at a bracket behind which no bracket lies: the escaped bracket, one byte on.
-/
import Derived.Test.YtdpiipejpmheoaaFmtAny
import Derived.Test.YtdpiipejpmheoaaFmtFmt
import Derived.WalkMore
import Derived.Laws.Cover4
namespace Go.Proofs.YtdpiipejpmheoaaFmt
open Go.RowKit Go.Extern.Stop Go.Stop Go.Extern

theorem BM.alloc {b l N : Nat} {s : ByteArray} {lit : Int} {pos : Nat} {inner : List UInt8} {w wr : World} (h : BM b l N s lit pos inner w wr) (o : Obj) : BM b l N s lit pos inner w (wr.alloc o) :=
  h.grown ((Below.refl _ _).alloc (Nat.le_refl _) o)

theorem literal_any (B b l : Nat) (s : ByteArray) (i lit pos : Nat) (inner acc : List UInt8) (w wr : World) (h : BM b l w.heap.size s (lit : Int) pos inner w wr) (hb : Bld B b acc w) (hl : Lex l s i w) (hne : l ≠ b) (hlw : l < w.heap.size) (hBl : B ≤ l) (hal : acc.length ≤ 10000000) :
    Calls Tryf.prog 17 #[.pointer (some ⟨w.heap.size + 2, 0, none⟩), .pointer (some ⟨w.heap.size + 1, 0, none⟩), .pointer (some ⟨w.heap.size, 0, none⟩)] wr fun e w' => e = .returned .nilIface ∧ Bld B b (acc ++ [92, 91]) w' ∧ Lex l s lit w' ∧ Below B w w' := by
  have k3 := h.k3
  have k4 := h.k4
  have k5 := h.k5
  have f1 := h.lex.f1
  have hc1 := h.lex.c1
  have hm : Moved l s lit wr (wr.setCell ⟨l, 1, none⟩ (.int .i64 (lit : Int))) := Moved.of h.lex 0 lit
  have hb2 := hm.bld (h.sb hb hl hne) h.lex hne
  have h3 : (wr.setCell ⟨l, 1, none⟩ (.int .i64 (lit : Int))).cell? ⟨w.heap.size, 0, none⟩ = some (.pointer (some ⟨b, 0, none⟩)) := hm.cell (by omega) k3
  have HW := Lib.hid (wstr B b acc ⟨#[92, 91]⟩ _ hb2 (by omega) (by simp [ByteArray.size]))
  have HM := Lib.hid hm
  have H := Lib.hid h
  have hneN : w.heap.size ≠ l := by omega
  clear hm hb2 h hb hl
  go_enter Tryf.func17, Tryf.ntmps17
  go_wp2_with (go_at_call 7; refine (HW.out).mono ?_; rintro e w5 ⟨rfl, hb5, hk5⟩)
  go_ret
  exact ⟨rfl, hb5, HM.out.lex.kept hk5 hne, ((H.out.bel.trans HM.out.bel).mono hBl).trans hk5.bel⟩

/-- A deferred error: none, or one that lies somewhere. -/
def Def (v : Value) : Prop := v = .nilIface ∨ ∃ q, v = .iface 50 (.pointer (some ⟨q, 0, none⟩))

theorem enc_len (r : Nat) : (Lib.encodeRune (r : Int)).length ≤ 4 := by
  rw [← Lib.runeCells_length]
  exact (Lib.runeCells_le _).2

theorem quote_small (b : ByteArray) (h : b.size ≤ 4) : (quotedAll b.data.toList).length ≤ 8 := by
  have h1 := quote_len b.data.toList
  have h3 : b.data.toList.length = b.size := by simp
  omega

/-- Where a round begins: the character in hand is r, the lexer stands at p. -/
structure At (b l N : Nat) (s : ByteArray) (i r p : Nat) (inner : List UInt8) (w wr : World) : Prop where
  bm : BM b l N s ((i : Int) + 1) p inner w wr
  len : r ≠ 0 → inner.length ≤ 8 * p ∧ i + 1 < p
  lo : i + 1 ≤ p
  hi : p ≤ s.size
  n91 : r ≠ 91
  n93 : r ≠ 93
  max : r ≤ 1114111
theorem At.ints {b l N : Nat} {s : ByteArray} {i r p : Nat} {inner : List UInt8} {w wr : World} (h : At b l N s i r p inner w wr) : ((0 : Int) ≤ (r : Int) ∧ (r : Int) ≤ 1114111) ∧ ((r : Int) == 91) = false ∧ ((r : Int) == 93) = false := by
  have h1 := h.n91
  have h2 := h.n93
  have h3 := h.max
  refine ⟨⟨by omega, by omega⟩, ?_, ?_⟩
  · simp; omega
  · simp; omega
/-- A round has written a little, and the lexer has taken its next step. -/
theorem At.next {b l N : Nat} {s : ByteArray} {i p r' p' : Nat} {inner : List UInt8} {w wr w' : World} (hl : l < N) (hw : inner.length ≤ 8 * p + 8) (hlo : i + 1 ≤ p) (hb : BM b l N s ((i : Int) + 1) p inner w wr) (h1 : r' ≠ 91) (h2 : r' ≠ 93) (h3 : r' ≤ 1114111) (h4 : p ≤ p') (h5 : p' ≤ s.size) (h6 : r' ≠ 0 → p < p') (hm : MovedG l s p' wr w') : At b l N s i r' p' inner w w' where
  bm := hb.movedG hl hm
  len := fun h => by have := h6 h; omega
  lo := by omega
  hi := h5
  n91 := h1
  n93 := h2
  max := h3
/-- What is left of the loop. -/
def left (s : ByteArray) (r p : Nat) : Nat := if r = 0 then 0 else 1 + (s.size - p)
theorem left_lt (s : ByteArray) {r p r' p' : Nat} (hr : r ≠ 0) (h5 : p' ≤ s.size) (h6 : r' ≠ 0 → p < p') : left s r' p' < left s r p := by
  unfold left
  rw [if_neg hr]
  by_cases h : r' = 0
  · rw [if_pos h]; omega
  · rw [if_neg h]; have := h6 h; omega

theorem left_lt2 (s : ByteArray) {r p p1 r' p' : Nat} (hr : r ≠ 0) (h3 : p ≤ p1) (h5 : p' ≤ s.size) (h6 : r' ≠ 0 → p1 < p') : left s r' p' < left s r p :=
  left_lt s hr h5 (fun h => by have := h6 h; omega)

set_option maxRecDepth 100000 in
set_option maxHeartbeats 8000000 in
theorem rn_free (F : Interp) (B b l : Nat) (s : ByteArray) (i : Nat) (acc : List UInt8) (mode : Int) (w : World) (hb : Bld B b acc w) (hl : Lex l s i w) (hne : l ≠ b) (hBl : B ≤ l) (hs : s.size ≤ 100000) (hal : acc.length ≤ 10000000)
    (ha : bt s i = 91) (hi : i < s.size) (hno : ∀ k, i + 1 ≤ k → k < s.size → bt s k ≠ 91 ∧ bt s k ≠ 93) (hT : Tabs B w) (hF : F.answers w.tape) :
    Calls Tryf.prog 8 #[.pointer (some ⟨b, 0, none⟩), .pointer (some ⟨l, 0, none⟩), .int .u64 mode] w fun e w' => e = .returned .nilIface ∧ Bld B b (acc ++ [92, 91]) w' ∧ Lex l s (i + 1) w' ∧ Below B w w' := by
  have HB := Lib.hid hb
  have HL := Lib.hid hl
  have HT := Lib.hid hT
  have HF := Lib.hid hF
  have hlw := hl.lt
  have hbw := hb.lt
  have hn0 := next_ascii l s i
  rw [ha] at hn0
  have HN0 := Lib.hid (fun W (h : Lex l s i W) => hn0 W h hi (by omega) (by omega))
  have HN := Lib.hid (fun W p (h : Lex l s p W) (hW : Below B w W) (hp1 : i + 1 ≤ p) (hp : p ≤ s.size) => next_free B l s p W h (hT.below hW (Nat.le_refl _)) hp (by omega) (fun k hk => hno k (by omega)))
  have HIM := Lib.hid (And.intro hi hs)
  clear hb hl hs ha hi hno hn0 hT hF
  go_enter Tryf.func8, Tryf.ntmps8
  go_upto_if 31 with (go_at_call 11; refine (HN0.out _ ((HL.out.below ((Below.refl _ _).alloc (Nat.le_refl _) _) (Nat.le_refl _)).below ((Below.refl _ _).alloc (Nat.le_refl _) _) (Nat.le_refl _))).mono ?_; rintro e w3 ⟨rfl, hm3⟩)
  generalize (bits BinOp.and IntKind.u64 mode 64 != 0) = M
  go_cut [8, 31] from 32 to 95 (fun s8 s31 wx => wx = w3)
  case first => as_aux_lemma =>
    cases M
    · go_wp2_with fail
      go_meet
      exact rfl
    · go_wp2_with fail
      go_step3
      go_wp2_with fail
      go_step3
      go_wp2_with fail
      simp only [Exit.noGoto_normal]
      go_wp2_with fail
      go_meet
      exact rfl
  case rest =>
  obtain rfl := hcut
  have b3 : wc.cell? ⟨w.heap.size, 0, none⟩ = some (.pointer (some ⟨b, 0, none⟩)) := hm3.cell (by omega) (by simp [go_sem])
  have b4 : wc.cell? ⟨w.heap.size + 1, 0, none⟩ = some (.pointer (some ⟨l, 0, none⟩)) := hm3.cell (by omega) (by simp [go_sem])
  have l0 := hm3.lex.c1
  have hw3 : wc.heap.size = w.heap.size + 2 := hm3.size.trans (by simp)
  have HM3 := Lib.hid hm3
  have HW3 := Lib.hid hw3
  clear hm3 hw3
  go_upto_region 69 with fail
  have HBM := Lib.hid (BM.start hlw HM3.out HW3.out ((i : Int) + 1))
  simp only [HW3.out, Nat.add_assoc, Nat.reduceAdd]
  generalize (wc.alloc (.cells #[.int .i64 ((i : Int) + 1)] 3)).alloc (.cells #[.pointer none, .slice none 0 0] 33) = w4 at HBM ⊢
  clear HM3 HW3 b3 b4 l0
  go_upto_region 70 with (go_at_call 15; refine (wbyteK (w.heap.size + 3) (w.heap.size + 3) [] 91 _ rfl _ HBM.out.bsb (Nat.zero_le _)).mono ?_; rintro e w5 ⟨rfl, hb5, hk5⟩)
  have HBM5 := Lib.hid (HBM.out.kept hlw hb5 hk5)
  have k4 := HBM5.out.k4
  clear hb5 hk5 HBM
  go_upto_region 75 with (go_at_call 11; refine (HN.out _ (i + 1) HBM5.out.lex (HBM5.out.bel.mono hBl) (Nat.le_refl _) HIM.out.1).mono ?_; rintro e w6 ⟨r, p, rfl, r91, r93, rmax, hp0, hp1, hp2, hm6⟩)
  have HA := Lib.hid (At.mk (r := r) (HBM5.out.movedG hlw hm6) (fun h => by have := hp2 h; exact ⟨by simp; omega, this⟩) hp0 hp1 r91 r93 rmax)
  have hlit : (((i + 1 : Nat)) : Int) = (i : Int) + 1 := by omega
  have HLIT := Lib.hid (fun pos inner W (h : BM b l w.heap.size s ((i : Int) + 1) pos inner w W) => literal_any B b l s i (i + 1) pos inner acc w W (by rw [hlit]; exact h) HB.out HL.out hne hlw hBl hal)
  have hri := HA.out.ints
  clear hm6 HBM5 k4 hp0 hp1 hp2 rmax r91 r93 hlit
  obtain ⟨hrz, q91, q93⟩ := hri
  by_cases hr0 : r = 0
  · subst hr0
    go_wp2_with (go_at_call 17; refine (HLIT.out _ _ _ HA.out.bm).mono ?_; rintro e w7 ⟨rfl, h7, h8, h9⟩)
    go_ret
    exact ⟨rfl, h7, h8, h9⟩
  have q0 : ((r : Int) == 0) = false := by simp; omega
  go_upto_block 5 with fail
  have HR0 := Lib.hid hr0
  clear hr0
  have k4 := HA.out.bm.k4
  go_cut [7] from 235 to 245 (fun s7 wx => ∃ (r p : Nat) (inner : List UInt8), s7 = .int .i32 r ∧ At b l w.heap.size s i r p inner w wx)
  case first => as_aux_lemma =>
    have HWB := Lib.hid (wbyteK (w.heap.size + 3) (w.heap.size + 3) _ 94 _ rfl _ HA.out.bm.bsb (by simp))
    by_cases hq : r = 33 ∨ r = 94
    · rcases hq with rfl | rfl
      all_goals
        go_upto_region 81 with (go_at_call 15; refine (HWB.out).mono ?_; rintro e w7 ⟨rfl, hb7, hk7⟩)
        have HBM7 := Lib.hid (HA.out.bm.kept hlw hb7 hk7)
        have k47 := HBM7.out.k4
        clear hb7 hk7
        go_upto_region 82 with (go_at_call 11; refine (HN.out _ p HBM7.out.lex (HBM7.out.bel.mono hBl) HA.out.lo HA.out.hi).mono ?_; rintro e w8 ⟨r8, p8, rfl, r91, r93, rmax, hp0, hp1, hp2, hm8⟩)
        have HA8 := Lib.hid (At.next hlw (by simp) HA.out.lo HBM7.out r91 r93 rmax hp0 hp1 hp2 hm8)
        have hri := HA8.out.ints
        clear hm8 HBM7 k47 hp0 hp1 hp2 rmax r91 r93
        obtain ⟨hrz8, q918, q938⟩ := hri
        by_cases hr0 : r8 = 0
        · subst hr0
          go_wp2_with (go_at_call 17; refine (HLIT.out _ _ _ HA8.out.bm).mono ?_; rintro e w7 ⟨rfl, h7, h8, h9⟩)
          go_ret
          exact ⟨rfl, h7, h8, h9⟩
        · have q0 : ((r8 : Int) == 0) = false := by simp; omega
          clear hr0
          go_wp2_with fail
          go_meet
          exact ⟨r8, p8, _, rfl, HA8.out⟩
    · have z1 : ((r : Int) == 33) = false := by simp; omega
      have z2 : ((r : Int) == 94) = false := by simp; omega
      clear hq
      go_wp2_with fail
      go_meet
      exact ⟨r, p, _, rfl, HA.out⟩
  case rest =>
  clear HR0 q0 q91 q93 hrz HA k4
  obtain ⟨r, p, inner, rfl, hA⟩ := hcut
  have HA := Lib.hid hA
  have hri := hA.ints
  clear hA
  obtain ⟨hrz, q91, q93⟩ := hri
  go_wp2_with fail
  generalize (bits BinOp.and IntKind.u64 mode 2 != 0) = Fn
  go_loopg [7, 18, 19, 20] (left s r p) (fun gk s7 s18 s19 s20 wr => ∃ (r p : Nat) (inner : List UInt8) (hs : Bool) (v19 : Value), v19 = s19 ∧ gk = left s r p ∧ s7 = .int .i32 r ∧ s18 = .bool hs ∧ Def v19 ∧ s20 = .nilIface ∧ At b l w.heap.size s i r p inner w wr)
  case atStart => exact ⟨r, p, inner, false, _, rfl, rfl, rfl, rfl, Or.inl rfl, rfl, HA.out⟩
  case round =>
    clear hrz q91 q93 HA
    obtain ⟨r, p, inner, hsl, v19, rfl, rfl, rfl, rfl, hdef, rfl, hA⟩ := hrel
    have HA := Lib.hid hA
    have hri := hA.ints
    have HDEF := Lib.hid hdef
    clear hA hdef
    obtain ⟨hrz, q91, q93⟩ := hri
    by_cases hr0 : r = 0
    · subst hr0
      go_wp2_with (go_at_call 17; refine (HLIT.out _ _ _ HA.out.bm).mono ?_; rintro e w7 ⟨rfl, h7, h8, h9⟩)
      go_ret
      exact ⟨rfl, h7, h8, h9⟩
    have q0 : ((r : Int) == 0) = false := by simp; omega
    have HR0 := Lib.hid hr0
    have HLEN := Lib.hid (HA.out.len hr0)
    clear hr0
    have k4 := HA.out.bm.k4
    by_cases hr45 : r = 45
    · as_aux_lemma =>
      subst hr45
      have HWB := Lib.hid (fun W (h : Bld (w.heap.size + 3) (w.heap.size + 3) inner W) => wbyteK (w.heap.size + 3) (w.heap.size + 3) inner 45 _ rfl W h (by have := HLEN.out; have := HA.out.hi; have := HIM.out; omega))
      obtain ⟨k, hk⟩ : ∃ k, p = k + 2 := ⟨p - 2, by have := HLEN.out; omega⟩
      have HLA := Lib.hid (fun W (h : Lex l s p W) (hW : Below B w W) => last_go B l s k W (by rw [← hk]; exact h) (HT.out.below hW (Nat.le_refl _)) (by have := HIM.out; omega) (by have := HA.out.hi; omega))
      have HPK := Lib.hid (fun W (h : Lex l s p W) (hW : Below B w W) => peek_go B l s p W h (HT.out.below hW (Nat.le_refl _)) (by have := HIM.out; omega) HA.out.hi)
      clear hk
      go_upto_region 111 with (first
        | (go_at_call 15; refine (HWB.out _ HA.out.bm.bsb).mono ?_; rintro e w7 ⟨rfl, hb7, hk7⟩; have HBM7 := Lib.hid (HA.out.bm.kept hlw hb7 hk7); have k47 := HBM7.out.k4; clear hb7 hk7)
        | (go_at_call 14; refine (HLA.out _ HBM7.out.lex (HBM7.out.bel.mono hBl)).mono ?_; rintro e w8 ⟨x, rfl, hg8⟩; have HBM8 := Lib.hid (HBM7.out.grown hg8); have k48 := HBM8.out.k4; clear hg8)
        | (go_at_call 12; refine (HPK.out _ HBM8.out.lex (HBM8.out.bel.mono hBl)).mono ?_; rintro e w9 ⟨y, rfl, hg9⟩; have HBM9 := Lib.hid (HBM8.out.grown hg9); have k49 := HBM9.out.k4; clear hg9))
      clear HBM7 HBM8 k47 k48
      by_cases hy : y = 93
      · subst hy
        go_wp2_with (go_at_call 11; refine (HN.out _ p HBM9.out.lex (HBM9.out.bel.mono hBl) HA.out.lo HA.out.hi).mono ?_; rintro e w10 ⟨r9, p9, rfl, n91, n93, nmax, hp0, hp1, hp2, hm9⟩; have HA9 := Lib.hid (At.next hlw (by have := HLEN.out; simp; omega) HA.out.lo HBM9.out n91 n93 nmax hp0 hp1 hp2 hm9); have HLT := Lib.hid (left_lt s HR0.out hp1 hp2); clear hm9 n91 n93 nmax hp0 hp1 hp2)
        go_roundg (left s r9 p9)
        case measure => exact HLT.out
        case rel => exact ⟨r9, p9, _, hsl, _, rfl, rfl, rfl, rfl, HDEF.out, rfl, HA9.out⟩
      have r1 : ((y : Int) != 93) = true := by simp; omega
      by_cases hxy : x ≤ y
      · have r2 : (x : Int) ≤ (y : Int) := by omega
        go_wp2_with (go_at_call 11; refine (HN.out _ p HBM9.out.lex (HBM9.out.bel.mono hBl) HA.out.lo HA.out.hi).mono ?_; rintro e w10 ⟨r9, p9, rfl, n91, n93, nmax, hp0, hp1, hp2, hm9⟩; have HA9 := Lib.hid (At.next hlw (by have := HLEN.out; simp; omega) HA.out.lo HBM9.out n91 n93 nmax hp0 hp1 hp2 hm9); have HLT := Lib.hid (left_lt s HR0.out hp1 hp2); clear hm9 n91 n93 nmax hp0 hp1 hp2)
        go_roundg (left s r9 p9)
        case measure => exact HLT.out
        case rel => exact ⟨r9, p9, _, hsl, _, rfl, rfl, rfl, rfl, HDEF.out, rfl, HA9.out⟩
      have r2 : (y : Int) < (x : Int) := by omega
      rcases HDEF.out with rfl | ⟨q, rfl⟩
      · have hF9 : F.answers w9.tape := by rw [HBM9.out.bel.tape]; exact HF.out
        have hF' := answers_open hF9
        have s1 := Tryf.callS
        have s2 := Tryf.guardS
        have s3 := Tryf.fmtS
        have s4 := Tryf.fmtSr
        have s5 := Tryf.opR
        have HKEY := Lib.hid (fun (o1 : Obj) (t : ByteArray) => ((HBM9.out.alloc o1).alloc (.cells #[.string t, .nilIface] 52)).drew)
        have k4a : ∀ o1 o2, ((w9.alloc o1).alloc o2).cell? ⟨w.heap.size + 1, 0, none⟩ = some (.pointer (some ⟨l, 0, none⟩)) := fun o1 o2 => ((HBM9.out.alloc o1).alloc o2).k4
        go_upto_region 136 with fail
        go_wp2_with (go_at_call 11; refine (HN.out _ p (HKEY.out _ _).lex ((HKEY.out _ _).bel.mono hBl) HA.out.lo HA.out.hi).mono ?_; rintro e w10 ⟨r9, p9, rfl, n91, n93, nmax, hp0, hp1, hp2, hm9⟩; have HA9 := Lib.hid (At.next hlw (by have := HLEN.out; simp; omega) HA.out.lo (HKEY.out _ _) n91 n93 nmax hp0 hp1 hp2 hm9); have HLT := Lib.hid (left_lt s HR0.out hp1 hp2); clear hm9 n91 n93 nmax hp0 hp1 hp2)
        go_roundg (left s r9 p9)
        case measure => exact HLT.out
        case rel => exact ⟨r9, p9, _, hsl, _, rfl, rfl, rfl, rfl, Or.inr ⟨_, rfl⟩, rfl, HA9.out⟩
      · go_wp2_with (go_at_call 11; refine (HN.out _ p HBM9.out.lex (HBM9.out.bel.mono hBl) HA.out.lo HA.out.hi).mono ?_; rintro e w10 ⟨r9, p9, rfl, n91, n93, nmax, hp0, hp1, hp2, hm9⟩; have HA9 := Lib.hid (At.next hlw (by have := HLEN.out; simp; omega) HA.out.lo HBM9.out n91 n93 nmax hp0 hp1 hp2 hm9); have HLT := Lib.hid (left_lt s HR0.out hp1 hp2); clear hm9 n91 n93 nmax hp0 hp1 hp2)
        go_roundg (left s r9 p9)
        case measure => exact HLT.out
        case rel => exact ⟨r9, p9, _, hsl, _, rfl, rfl, rfl, rfl, HDEF.out, rfl, HA9.out⟩
    by_cases hr92 : r = 92
    · as_aux_lemma =>
      subst hr92
      go_upto_block 9 with (go_at_call 11; refine (HN.out _ p HA.out.bm.lex (HA.out.bm.bel.mono hBl) HA.out.lo HA.out.hi).mono ?_; rintro e w6 ⟨c, p1, rfl, n91, n93, nmax, hp0, hp1, hp2, hm6⟩)
      have HA1 := Lib.hid (At.next hlw (by have := HLEN.out; omega) HA.out.lo HA.out.bm n91 n93 nmax hp0 hp1 hp2 hm6)
      have HP1 := Lib.hid hp0
      have HLT1 := Lib.hid (left_lt s HR0.out hp1 hp2)
      have HPS := Lib.hid hp2
      have hri := HA1.out.ints
      have k41 := HA1.out.bm.k4
      clear hm6 n91 n93 nmax hp0 hp1 hp2 q91 q93 hrz k4
      obtain ⟨hrz, q91, q93⟩ := hri
      by_cases hc0 : c = 0
      · subst hc0
        go_wp2_with fail
        go_roundg (left s 0 p1)
        case measure => exact HLT1.out
        case rel => exact ⟨0, p1, _, hsl, _, rfl, rfl, rfl, rfl, HDEF.out, rfl, HA1.out⟩
      have q0c : ((c : Int) == 0) = false := by simp; omega
      have HL1 := Lib.hid (show inner.length + 8 ≤ 8 * p1 ∧ p1 ≤ 100000 by have := HLEN.out; have := HPS.out hc0; have := HA1.out.hi; have := HIM.out; omega)
      clear hc0 HLT1
      by_cases hc45 : c = 45
      · subst hc45
        have HWD := Lib.hid (fun W (h : Bld (w.heap.size + 3) (w.heap.size + 3) inner W) => wstr (w.heap.size + 3) (w.heap.size + 3) inner ⟨#[92, 45]⟩ W h (by have := HL1.out; omega) (by simp [ByteArray.size]))
        go_wp2_with (first
          | (go_at_call 7; refine (HWD.out _ HA1.out.bm.bsb).mono ?_; rintro e w7 ⟨rfl, hb7, hk7⟩; have HBM7 := Lib.hid (HA1.out.bm.kept hlw hb7 hk7); have k47 := HBM7.out.k4; clear hb7 hk7)
          | (go_at_call 11; refine (HN.out _ p1 HBM7.out.lex (HBM7.out.bel.mono hBl) HA1.out.lo HA1.out.hi).mono ?_; rintro e w8 ⟨r9, p9, rfl, n91, n93, nmax, hp0, hp1, hp2, hm9⟩; have HA9 := Lib.hid (At.next hlw (by have := HL1.out; simp; omega) HA1.out.lo HBM7.out n91 n93 nmax hp0 hp1 hp2 hm9); have HLT := Lib.hid (left_lt2 s HR0.out HP1.out hp1 hp2); clear hm9 n91 n93 nmax hp0 hp1 hp2))
        go_roundg (left s r9 p9)
        case measure => exact HLT.out
        case rel => exact ⟨r9, p9, _, hsl, _, rfl, rfl, rfl, rfl, HDEF.out, rfl, HA9.out⟩
      have q45c : ((c : Int) == 45) = false := by simp; omega
      clear hc45
      by_cases hcb : 128 < c
      · have zcb : (128 : Int) < (c : Int) := by omega
        have HWR := Lib.hid (fun W (h : Bld (w.heap.size + 3) (w.heap.size + 3) inner W) => wrune (w.heap.size + 3) (w.heap.size + 3) inner c (by omega) (by omega) W h (by have := HL1.out; omega))
        go_wp2_with (first
          | (go_at_call 13; refine (HWR.out _ HA1.out.bm.bsb).mono ?_; rintro e w7 ⟨rfl, hb7, hk7⟩; have HBM7 := Lib.hid (HA1.out.bm.kept hlw hb7 hk7); have k47 := HBM7.out.k4; clear hb7 hk7)
          | (go_at_call 11; refine (HN.out _ p1 HBM7.out.lex (HBM7.out.bel.mono hBl) HA1.out.lo HA1.out.hi).mono ?_; rintro e w8 ⟨r9, p9, rfl, n91, n93, nmax, hp0, hp1, hp2, hm9⟩; have HA9 := Lib.hid (At.next hlw (by have := HL1.out; have := enc_len c; simp; omega) HA1.out.lo HBM7.out n91 n93 nmax hp0 hp1 hp2 hm9); have HLT := Lib.hid (left_lt2 s HR0.out HP1.out hp1 hp2); clear hm9 n91 n93 nmax hp0 hp1 hp2))
        go_roundg (left s r9 p9)
        case measure => exact HLT.out
        case rel => exact ⟨r9, p9, _, hsl, _, rfl, rfl, rfl, rfl, HDEF.out, rfl, HA9.out⟩
      have zcb : ¬ (128 : Int) < (c : Int) := by omega
      clear hcb
      obtain ⟨u, hu⟩ : ∃ u, Utf8.encode (c : Int) = u := ⟨_, rfl⟩
      have hus : u.size ≤ 4 := by rw [← hu]; exact encode_size_le (c : Int)
      obtain ⟨Q, hQl, hQ⟩ : ∃ Q : List UInt8, Q.length ≤ 8 ∧ ∀ W, Calls Tryf.prog 16 #[.string u] W (fun e w' => e = .returned (.string ⟨Q.toArray⟩) ∧ Below W.heap.size W w') := ⟨quotedAll u.data.toList, quote_small u hus, fun W => quote_any u W (by omega)⟩
      have HU := Lib.hid hu
      have HQ := Lib.hid hQ
      have HWS := Lib.hid (fun W (h : Bld (w.heap.size + 3) (w.heap.size + 3) inner W) => wstr (w.heap.size + 3) (w.heap.size + 3) inner ⟨Q.toArray⟩ W h (by have := HL1.out; omega) (by rw [list_size]; omega))
      clear hu hQ hus
      cases Fn
      · go_wp2_with (first
          | (go_at_call 16; rw [HU.out]; refine (HQ.out _).mono ?_; rintro e w5 ⟨rfl, hg5⟩; have HBM5 := Lib.hid (HA1.out.bm.grown hg5); have k45 := HBM5.out.k4; clear hg5)
          | (go_at_call 7; refine (HWS.out _ HBM5.out.bsb).mono ?_; rintro e w7 ⟨rfl, hb7, hk7⟩; have HBM7 := Lib.hid (HBM5.out.kept hlw hb7 hk7); have k47 := HBM7.out.k4; clear hb7 hk7)
          | (go_at_call 11; refine (HN.out _ p1 HBM7.out.lex (HBM7.out.bel.mono hBl) HA1.out.lo HA1.out.hi).mono ?_; rintro e w8 ⟨r9, p9, rfl, n91, n93, nmax, hp0, hp1, hp2, hm9⟩; have HA9 := Lib.hid (At.next hlw (by have := HL1.out; simp; omega) HA1.out.lo HBM7.out n91 n93 nmax hp0 hp1 hp2 hm9); have HLT := Lib.hid (left_lt2 s HR0.out HP1.out hp1 hp2); clear hm9 n91 n93 nmax hp0 hp1 hp2))
        go_roundg (left s r9 p9)
        case measure => exact HLT.out
        case rel => exact ⟨r9, p9, _, hsl, _, rfl, rfl, rfl, rfl, HDEF.out, rfl, HA9.out⟩
      · by_cases h47 : c = 47
        · have q47 : ((c : Int) == 47) = true := by simp; omega
          clear h47
          go_wp2_with (first
            | (go_at_call 16; rw [HU.out]; refine (HQ.out _).mono ?_; rintro e w5 ⟨rfl, hg5⟩; have HBM5 := Lib.hid (HA1.out.bm.grown hg5); have k45 := HBM5.out.k4; clear hg5)
            | (go_at_call 7; refine (HWS.out _ HBM5.out.bsb).mono ?_; rintro e w7 ⟨rfl, hb7, hk7⟩; have HBM7 := Lib.hid (HBM5.out.kept hlw hb7 hk7); have k47 := HBM7.out.k4; clear hb7 hk7)
            | (go_at_call 11; refine (HN.out _ p1 HBM7.out.lex (HBM7.out.bel.mono hBl) HA1.out.lo HA1.out.hi).mono ?_; rintro e w8 ⟨r9, p9, rfl, n91, n93, nmax, hp0, hp1, hp2, hm9⟩; have HA9 := Lib.hid (At.next hlw (by have := HL1.out; simp; omega) HA1.out.lo HBM7.out n91 n93 nmax hp0 hp1 hp2 hm9); have HLT := Lib.hid (left_lt2 s HR0.out HP1.out hp1 hp2); clear hm9 n91 n93 nmax hp0 hp1 hp2))
          go_roundg (left s r9 p9)
          case measure => exact HLT.out
          case rel => exact ⟨r9, p9, _, true, _, rfl, rfl, rfl, rfl, HDEF.out, rfl, HA9.out⟩
        · have q47 : ((c : Int) == 47) = false := by simp; omega
          clear h47
          go_wp2_with (first
            | (go_at_call 16; rw [HU.out]; refine (HQ.out _).mono ?_; rintro e w5 ⟨rfl, hg5⟩; have HBM5 := Lib.hid (HA1.out.bm.grown hg5); have k45 := HBM5.out.k4; clear hg5)
            | (go_at_call 7; refine (HWS.out _ HBM5.out.bsb).mono ?_; rintro e w7 ⟨rfl, hb7, hk7⟩; have HBM7 := Lib.hid (HBM5.out.kept hlw hb7 hk7); have k47 := HBM7.out.k4; clear hb7 hk7)
            | (go_at_call 11; refine (HN.out _ p1 HBM7.out.lex (HBM7.out.bel.mono hBl) HA1.out.lo HA1.out.hi).mono ?_; rintro e w8 ⟨r9, p9, rfl, n91, n93, nmax, hp0, hp1, hp2, hm9⟩; have HA9 := Lib.hid (At.next hlw (by have := HL1.out; simp; omega) HA1.out.lo HBM7.out n91 n93 nmax hp0 hp1 hp2 hm9); have HLT := Lib.hid (left_lt2 s HR0.out HP1.out hp1 hp2); clear hm9 n91 n93 nmax hp0 hp1 hp2))
          go_roundg (left s r9 p9)
          case measure => exact HLT.out
          case rel => exact ⟨r9, p9, _, hsl, _, rfl, rfl, rfl, rfl, HDEF.out, rfl, HA9.out⟩
    have q92 : ((r : Int) == 92) = false := by simp; omega
    have q45 : ((r : Int) == 45) = false := by simp; omega
    have HWR := Lib.hid (fun W (h : Bld (w.heap.size + 3) (w.heap.size + 3) inner W) => wrune (w.heap.size + 3) (w.heap.size + 3) inner r (by omega) (by omega) W h (by have := HLEN.out; have := HA.out.hi; have := HIM.out; omega))
    clear hr45 hr92
    cases Fn
    · go_wp2_with (first
        | (go_at_call 13; refine (HWR.out _ HA.out.bm.bsb).mono ?_; rintro e w7 ⟨rfl, hb7, hk7⟩; have HBM7 := Lib.hid (HA.out.bm.kept hlw hb7 hk7); have k47 := HBM7.out.k4; clear hb7 hk7)
        | (go_at_call 11; refine (HN.out _ p HBM7.out.lex (HBM7.out.bel.mono hBl) HA.out.lo HA.out.hi).mono ?_; rintro e w8 ⟨r9, p9, rfl, n91, n93, nmax, hp0, hp1, hp2, hm9⟩; have HA9 := Lib.hid (At.next hlw (by have := HLEN.out; have := enc_len r; simp; omega) HA.out.lo HBM7.out n91 n93 nmax hp0 hp1 hp2 hm9); have HLT := Lib.hid (left_lt s HR0.out hp1 hp2); clear hm9 n91 n93 nmax hp0 hp1 hp2))
      go_roundg (left s r9 p9)
      case measure => exact HLT.out
      case rel => exact ⟨r9, p9, _, hsl, _, rfl, rfl, rfl, rfl, HDEF.out, rfl, HA9.out⟩
    · by_cases h47 : r = 47
      · subst h47
        go_wp2_with (first
          | (go_at_call 13; refine (HWR.out _ HA.out.bm.bsb).mono ?_; rintro e w7 ⟨rfl, hb7, hk7⟩; have HBM7 := Lib.hid (HA.out.bm.kept hlw hb7 hk7); have k47 := HBM7.out.k4; clear hb7 hk7)
          | (go_at_call 11; refine (HN.out _ p HBM7.out.lex (HBM7.out.bel.mono hBl) HA.out.lo HA.out.hi).mono ?_; rintro e w8 ⟨r9, p9, rfl, n91, n93, nmax, hp0, hp1, hp2, hm9⟩; have HA9 := Lib.hid (At.next hlw (by have := HLEN.out; have h := enc_len 47; simp at h ⊢; omega) HA.out.lo HBM7.out n91 n93 nmax hp0 hp1 hp2 hm9); have HLT := Lib.hid (left_lt s HR0.out hp1 hp2); clear hm9 n91 n93 nmax hp0 hp1 hp2))
        go_roundg (left s r9 p9)
        case measure => exact HLT.out
        case rel => exact ⟨r9, p9, _, true, _, rfl, rfl, rfl, rfl, HDEF.out, rfl, HA9.out⟩
      · have q47 : ((r : Int) == 47) = false := by simp; omega
        clear h47
        go_wp2_with (first
          | (go_at_call 13; refine (HWR.out _ HA.out.bm.bsb).mono ?_; rintro e w7 ⟨rfl, hb7, hk7⟩; have HBM7 := Lib.hid (HA.out.bm.kept hlw hb7 hk7); have k47 := HBM7.out.k4; clear hb7 hk7)
          | (go_at_call 11; refine (HN.out _ p HBM7.out.lex (HBM7.out.bel.mono hBl) HA.out.lo HA.out.hi).mono ?_; rintro e w8 ⟨r9, p9, rfl, n91, n93, nmax, hp0, hp1, hp2, hm9⟩; have HA9 := Lib.hid (At.next hlw (by have := HLEN.out; have := enc_len r; simp; omega) HA.out.lo HBM7.out n91 n93 nmax hp0 hp1 hp2 hm9); have HLT := Lib.hid (left_lt s HR0.out hp1 hp2); clear hm9 n91 n93 nmax hp0 hp1 hp2))
        go_roundg (left s r9 p9)
        case measure => exact HLT.out
        case rel => exact ⟨r9, p9, _, hsl, _, rfl, rfl, rfl, rfl, HDEF.out, rfl, HA9.out⟩
end Go.Proofs.YtdpiipejpmheoaaFmt
