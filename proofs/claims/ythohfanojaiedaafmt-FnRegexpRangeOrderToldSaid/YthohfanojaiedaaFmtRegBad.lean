/-
  Regexp at letters and digits followed by a bracket whose range is reversed: the error.
-/
import Derived.Test.YthohfanojaiedaaFmtRegOk
namespace Go.Proofs.YthohfanojaiedaaFmt
open Go.RowKit Go.Extern.Stop Go.Stop Go.Extern

/-- The empty string and a SyntaxError without an inner error. -/
def BadReg (w : World) (e : Ending) (w' : World) : Prop := ∃ q t, e = .returned (.tuple #[.string ⟨#[]⟩, .iface 36 (.pointer (some ⟨q, 0, none⟩))]) ∧ ErrAt q t w' ∧ Below w.heap.size w w'
theorem err_ne (q : Addr) (p : Addr) (w : World) : (binOp BinOp.eql 30 (Value.iface 36 (Value.pointer (some q))) (Value.iface 109 (Value.pointer (some p)))).run Tryf.prog w = .ok (.bool false) w :=
  run_eql_iface_types 36 109 _ _ Tryf.underlying30 (by decide) w
theorem err_no (q : Addr) (w : World) : (Instr.typeAssert (Value.iface 36 (Value.pointer (some q))) 30 50 true).run Tryf.prog w = .ok (.tuple #[.pointer none, .bool false]) w := by kernel_rfl

set_option maxRecDepth 100000 in
set_option maxHeartbeats 4000000 in
theorem regexp_bad (F : Interp) (s : ByteArray) (w : World) (m : Int) (I U : Bool) (hm : ModeOk m I U) (n x y : Nat) (hsz : s.size = n + 5) (hpre : ∀ k, k < n → isAl (bt s k) = true) (ha : bt s n = 91) (hx : bt s (n + 1) = x) (h2 : bt s (n + 1 + 1) = 45) (hy : bt s (n + 1 + 2) = y) (hend : bt s (n + 1 + 3) = 93) (hax : isAl x = true) (hay : isAl y = true) (hxy : y < x) (hF : F.answers w.tape) (hs : s.size ≤ 65541) (p : Addr) (hV : w.cell? ⟨0, 0, none⟩ = some (.iface 109 (.pointer (some p)))) :
    Calls Tryf.prog 8 #[.string s, .int .u64 m] w (BadReg w) := by
  obtain ⟨f12, f8, f1, f4, f64⟩ := hm
  have ee := eof_eq p
  have en := eof_ne p
  have HPRE := Lib.hid hpre
  have HSZ := Lib.hid hsz
  obtain ⟨hd, hhd⟩ : ∃ hd, headOf I U = hd := ⟨_, rfl⟩
  have hdl : hd.length ≤ 7 := by rw [← hhd]; cases I <;> cases U <;> decide
  have HH := Lib.hid hhd
  clear hhd
  have HV := Lib.hid hV
  have hVs := World.block_lt_of_cell? _ _ hV
  have HRN := Lib.hid (fun B b l acc W (h1 : Bld B b acc W) (h2' : Lex l s n W) h4 hFW => rn_bad F B b l s n x y acc m W h1 h2' h4 (by omega) ha (by omega) hx h2 hy hend hax hay hxy hFW f64)
  have HF := Lib.hid hF
  have nE := err_ne
  have nT := err_no
  clear hV hpre ha hx h2 hy hend hax hay hxy hsz hF
  go_enter Tryf.func8, Tryf.ntmps8
  go_upto_region 25 with fail
  have HB := Lib.hid (bld_fresh w)
  have HBL := Lib.hid ((Below.refl w.heap.size w).alloc (Nat.le_refl _) (.cells #[.pointer none, .slice none 0 0] 42))
  generalize w.alloc (.cells #[.pointer none, .slice none 0 0] 42) = w1 at HB HBL ⊢
  cases I <;> cases U
  all_goals
    go_upto_region 33 with (go_at_call 14; refine (wstr w.heap.size w.heap.size _ _ _ HB.out (by simp) (by simp [ByteArray.size])).mono ?_; rintro e w2 ⟨rfl, hb2, hk2⟩; replace HB := Lib.hid hb2; replace HBL := Lib.hid (HBL.out.trans hk2.bel); clear hb2 hk2)
  all_goals
    have HB2 := Lib.hid (show Bld w.heap.size w.heap.size hd w2 by rw [← HH.out]; exact HB.out)
    have hgt := HB2.out.lt
    clear HB HH
    go_upto_region 34 with fail
    have hlx : Lex w2.heap.size s 0 (w2.alloc (.cells #[.string s, .int .i64 0] 46)) := heap_alloc_new w2 _
    have HLX := Lib.hid hlx
    have HB3 := Lib.hid (HB2.out.below ((Below.refl _ _).alloc (Nat.le_refl _) (.cells #[.string s, .int .i64 0] 46)) (Nat.le_refl _))
    have HBL3 := Lib.hid (HBL.out.alloc HBL.out.size (.cells #[.string s, .int .i64 0] 46))
    obtain ⟨l, hl⟩ : ∃ l, w2.heap.size = l := ⟨_, rfl⟩
    rw [hl] at HLX hgt ⊢
    generalize w2.alloc (.cells #[.string s, .int .i64 0] 46) = w3 at HLX HB3 HBL3 ⊢
    clear hlx hl HB2 HBL
    go_wp2_with fail
    go_loopg [11] (s.size + 1) (fun gk s11 wr => ∃ i : Nat, i ≤ n ∧ gk = s.size + 1 - i ∧ s11 = .slice none 0 0 ∧ Bld w.heap.size w.heap.size (hd ++ part s 0 i) wr ∧ Lex l s i wr ∧ Below w.heap.size w wr)
    case atStart => exact ⟨0, Nat.zero_le _, rfl, rfl, by rw [show part s 0 0 = [] from rfl, List.append_nil]; exact HB3.out, HLX.out, HBL3.out⟩
    case round =>
      obtain ⟨i, hi, rfl, rfl, hbr, hlr, hwr⟩ := hrel
      have HBR := Lib.hid hbr
      have HLR := Lib.hid hlr
      have HWR := Lib.hid hwr
      have hVr := (hwr.cell (p := ⟨0, 0, none⟩) hVs).trans HV.out
      have hpl := part_len s 0 i
      have hal : (hd ++ part s 0 i).length ≤ 200000 := by have := HSZ.out; simp; omega
      have HAL := Lib.hid hal
      clear hbr hlr hwr hal hpl
      by_cases hlt : i < n
      · have hst : mstep s i = some ([s.data.toList.getD i 0], i + 1) := by unfold mstep; rw [if_pos (HPRE.out i hlt)]
        have HST := Lib.hid (rn_step w.heap.size w.heap.size l s i _ m wr HBR.out HLR.out (by omega) (by omega) (by have := HSZ.out; omega) (by omega) (by have := HAL.out; omega) f64 hst)
        have hps := part_snoc s 0 i (by have := HSZ.out; omega)
        rw [Nat.zero_add] at hps
        have HPS := Lib.hid hps
        clear hst hps
        go_wp2_with (go_at_call 15; refine (HST.out).mono ?_; rintro e w5 ⟨rfl, h5, h6, h7⟩; have hV5 := (h7.cell (p := ⟨0, 0, none⟩) hVs).trans hVr; have H5 := Lib.hid h5; have H6 := Lib.hid h6; have H7 := Lib.hid h7; clear h5 h6 h7)
        go_roundg (s.size + 1 - (i + 1))
        case measure => have := HSZ.out; omega
        case rel => exact ⟨i + 1, by omega, rfl, rfl, by rw [HPS.out, ← List.append_assoc]; exact H5.out, H6.out, HWR.out.trans H7.out⟩
      · obtain rfl : i = n := by omega
        have HST := Lib.hid (HRN.out w.heap.size w.heap.size l _ wr HBR.out HLR.out (by omega) (by rw [HWR.out.tape]; exact HF.out))
        go_wp2_with (go_at_call 15; refine (HST.out).mono ?_; rintro e w5 ⟨q, t, rfl, h6, h7⟩; have hV5 := (h7.cell (p := ⟨0, 0, none⟩) hVs).trans hVr; have H6 := Lib.hid h6; have H7 := Lib.hid h7; clear h6 h7)
        go_ret2
        exact ⟨q, t, rfl, H6.out, HWR.out.trans H7.out⟩
end Go.Proofs.YthohfanojaiedaaFmt
