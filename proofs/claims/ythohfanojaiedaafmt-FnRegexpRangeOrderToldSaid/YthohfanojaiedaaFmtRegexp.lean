/-
  Regexp walked at patterns of the model.
-/
import Derived.Test.YthohfanojaiedaaFmtModel
import Derived.LaidEql
namespace Go.Proofs.YthohfanojaiedaaFmt
open Go.RowKit

/-- What the law asks of the mode, and the two bits that it leaves open. -/
structure ModeOk (m : Int) (I U : Bool) : Prop where
  f12 : (bits BinOp.and IntKind.u64 m 12 == 0) = false
  f8 : (bits BinOp.and IntKind.u64 m 8 != 0) = I
  f1 : (bits BinOp.and IntKind.u64 m 1 != 0) = U
  f4 : (bits BinOp.and IntKind.u64 m 4 != 0) = true
  f64 : (bits BinOp.and IntKind.u64 m 64 != 0) = false

def headOf (I U : Bool) : List UInt8 := [40, 63, 115] ++ (if I then [105] else []) ++ (if U then [85] else []) ++ [41] ++ [94]

theorem eof_ne (p : Addr) (w : World) : (binOp BinOp.eql 30 Value.nilIface (Value.iface 109 (Value.pointer (some p)))).run Tryf.prog w = .ok (.bool false) w :=
  run_eql_iface_nil_left w _ _ Tryf.underlying30
theorem eof_eq (p : Addr) (w : World) : (binOp BinOp.eql 30 (Value.iface 109 (Value.pointer (some p))) (Value.iface 109 (Value.pointer (some p)))).run Tryf.prog w = .ok (.bool true) w := by
  have h1 : (Tryf.prog.info? 109).map (fun i => i.comparable) = some true := by kernel_rfl
  have h2 : (Tryf.prog.info? 111).isSome = true := by kernel_rfl
  obtain ⟨i, hi, hc⟩ := Option.map_eq_some_iff.1 h1
  obtain ⟨j, hj⟩ := Option.isSome_iff_exists.1 h2
  exact run_eql_iface_ptr_same w p Tryf.underlying30 Tryf.underlying109 hi hc hj

set_option maxRecDepth 100000 in
set_option maxHeartbeats 4000000 in
theorem regexp_any (s : ByteArray) (m : Int) (I U : Bool) (hm : ModeOk m I U) (body : List UInt8) (hR : mrun s (s.size + 1) 0 [] = some body) (w : World) (hs : s.size ≤ 65536) (p : Addr) (hV : w.cell? ⟨0, 0, none⟩ = some (.iface 109 (.pointer (some p)))) :
    Calls Tryf.prog 8 #[.string s, .int .u64 m] w fun e w' => e = .returned (.tuple #[.string ⟨(headOf I U ++ body ++ [36]).toArray⟩, .nilIface]) ∧ Below w.heap.size w w' := by
  obtain ⟨f12, f8, f1, f4, f64⟩ := hm
  have ee := eof_eq p
  have en := eof_ne p
  have HR := Lib.hid hR
  obtain ⟨hd, hhd⟩ : ∃ hd, headOf I U = hd := ⟨_, rfl⟩
  have hdl : hd.length ≤ 7 := by rw [← hhd]; cases I <;> cases U <;> decide
  rw [hhd]
  have HH := Lib.hid hhd
  clear hhd
  have HV := Lib.hid hV
  have hVs := World.block_lt_of_cell? _ _ hV
  clear hR hV
  go_enter Tryf.func8, Tryf.ntmps8
  go_upto_region 25 with fail
  have HB := Lib.hid (bld_fresh w)
  have HBL := Lib.hid ((Below.refl w.heap.size w).alloc (Nat.le_refl _) (.cells #[.pointer none, .slice none 0 0] 42))
  generalize w.alloc (.cells #[.pointer none, .slice none 0 0] 42) = w1 at HB HBL ⊢
  cases I <;> cases U
  all_goals
    go_upto_region 33 with (go_at_call 14; refine (wstr w.heap.size w.heap.size _ _ _ HB.out (by simp) (by simp [ByteArray.size])).mono ?_; rintro e w2 ⟨rfl, hb2, hk2⟩; replace HB := Lib.hid hb2; replace HBL := Lib.hid (HBL.out.trans hk2.bel); clear hb2 hk2)
  all_goals
    have HB2 := Lib.hid (show Bld w.heap.size w.heap.size hd w2 by rw [← HH.out]; exact HB.out)
    have hgt := HB2.out.lt
    clear HB HH
    go_upto_region 34 with fail
    have hlx : Lex w2.heap.size s 0 (w2.alloc (.cells #[.string s, .int .i64 0] 46)) := heap_alloc_new w2 _
    have HLX := Lib.hid hlx
    have HB3 := Lib.hid (HB2.out.below ((Below.refl _ _).alloc (Nat.le_refl _) (.cells #[.string s, .int .i64 0] 46)) (Nat.le_refl _))
    have HBL3 := Lib.hid (HBL.out.alloc HBL.out.size (.cells #[.string s, .int .i64 0] 46))
    obtain ⟨l, hl⟩ : ∃ l, w2.heap.size = l := ⟨_, rfl⟩
    rw [hl] at HLX hgt ⊢
    generalize w2.alloc (.cells #[.string s, .int .i64 0] 46) = w3 at HLX HB3 HBL3 ⊢
    clear hlx hl HB2 HBL
    go_wp2_with fail
    go_loopg [11] (s.size + 1) (fun gk s11 wr => ∃ (i : Nat) (out : List UInt8) (f : Nat), i ≤ s.size ∧ gk = s.size + 1 - i ∧ s11 = .slice none 0 0 ∧ Hid (mrun s f i out = some body) ∧ s.size < i + f ∧ out.length ≤ 2 * i ∧ Bld w.heap.size w.heap.size (hd ++ out) wr ∧ Lex l s i wr ∧ Below w.heap.size w wr)
    case atStart => exact ⟨0, [], s.size + 1, Nat.zero_le _, rfl, rfl, HR, by omega, Nat.le_refl _, by rw [List.append_nil]; exact HB3.out, HLX.out, HBL3.out⟩
    case round =>
      obtain ⟨i, out, f, hi, rfl, rfl, hrun, hf, ho, hbr, hlr, hwr⟩ := hrel
      have HBR := Lib.hid hbr
      have HLR := Lib.hid hlr
      have HWR := Lib.hid hwr
      have hVr := (hwr.cell (p := ⟨0, 0, none⟩) hVs).trans HV.out
      have hal : (hd ++ out).length ≤ 10000000 := by simp; omega
      have HAL := Lib.hid hal
      obtain ⟨f, rfl⟩ : ∃ g, f = g + 1 := ⟨f - 1, by omega⟩
      clear hbr hlr hwr hal
      by_cases hlt : i < s.size
      · cases hst : mstep s i with
        | none =>
          have := hrun.out
          rw [mrun_none s f i out hlt hst] at this
          cases this
        | some q =>
          obtain ⟨o, j⟩ := q
          obtain ⟨s1, s2, s3⟩ := mstep_ok hlt hst
          have hr2 := hrun.out
          rw [mrun_step s f i out hlt hst] at hr2
          have HR2 := Lib.hid hr2
          have HST := Lib.hid (rn_step w.heap.size w.heap.size l s i (hd ++ out) m wr HBR.out HLR.out (by omega) (by omega) hlt (by omega) HAL.out f64 hst)
          clear hst hr2 hrun
          go_wp2_with (go_at_call 15; refine (HST.out).mono ?_; rintro e w5 ⟨rfl, h5, h6, h7⟩; have hV5 := (h7.cell (p := ⟨0, 0, none⟩) hVs).trans hVr; have H5 := Lib.hid h5; have H6 := Lib.hid h6; have H7 := Lib.hid h7; clear h5 h6 h7)
          go_roundg (s.size + 1 - j)
          case measure => omega
          case rel => exact ⟨j, out ++ o, f, s2, rfl, rfl, HR2, by omega, by simp; omega, by rw [← List.append_assoc]; exact H5.out, H6.out, HWR.out.trans H7.out⟩
      · obtain rfl : i = s.size := by omega
        have hr2 := hrun.out
        rw [mrun_end s f _ out (Nat.le_refl _)] at hr2
        simp only [Option.some.injEq] at hr2
        subst hr2
        have HEN := Lib.hid (rn_end w.heap.size l s s.size m wr HLR.out (Nat.le_refl _) (by omega) f64 _ hVr)
        clear hrun
        have hbl : (hd ++ out).length ≤ 200000 := by simp; omega
        have HBL5 := Lib.hid hbl
        go_wp2_with (first
          | (go_at_call 15; refine (HEN.out).mono ?_; rintro e w5 ⟨rfl, h5⟩; have hV5 := (h5.cell (p := ⟨0, 0, none⟩) (by show 0 < wr.heap.size; have := HWR.out.size; omega)).trans hVr; have H5 := Lib.hid (HBR.out.below h5 (Nat.le_refl _)); have H6 := Lib.hid (HWR.out.trans (h5.mono HWR.out.size)); clear h5)
          | (go_at_call 14; refine (wstr w.heap.size w.heap.size _ _ _ H5.out (by have := HBL5.out; omega) (by simp [ByteArray.size])).mono ?_; rintro e w6 ⟨rfl, hb6, hk6⟩; have H7 := Lib.hid hb6; have H8 := Lib.hid (H6.out.trans hk6.bel); clear hb6 hk6)
          | (go_at_call 16; refine (bstr w.heap.size w.heap.size _ _ H7.out).mono ?_; rintro e w7 ⟨rfl, hb7, hk7⟩; have H9 := Lib.hid (H8.out.trans hk7.bel); clear hb7 hk7))
        go_ret2
        refine ⟨?_, H9.out⟩
        rw [List.append_assoc]
        rfl
end Go.Proofs.YthohfanojaiedaaFmt
