/-
  The exported helper over regexpNext: it hands out what regexpNext has added, where the lexer stands, no error.
-/
import Derived.Test.YtdpiipejpmheoaaFmtBrack
import Derived.OwnWalk
namespace Go.Proofs.YtdpiipejpmheoaaFmt
open Go.RowKit

set_option maxRecDepth 100000 in
set_option maxHeartbeats 4000000 in
theorem rnx_any (out s : ByteArray) (i : Nat) (mode : Int) (add : List UInt8) (j : Nat) (w : World) (ho : out.size ≤ 65536)
    (hr : ∀ (b l : Nat) (W : World), Bld w.heap.size b out.data.toList W → Lex l s i W → l ≠ b → w.heap.size ≤ l → Below w.heap.size w W → Calls Tryf.prog 8 #[.pointer (some ⟨b, 0, none⟩), .pointer (some ⟨l, 0, none⟩), .int .u64 mode] W fun e w' => e = .returned .nilIface ∧ Bld w.heap.size b (out.data.toList ++ add) w' ∧ Lex l s j w' ∧ Below w.heap.size W w') :
    Calls Tryf.prog 5 #[.string out, .string s, .int .i64 i, .int .u64 mode] w fun e w' => e = .returned (.tuple #[.string ⟨(out.data.toList ++ add).toArray⟩, .int .i64 j, .nilIface]) ∧ Below w.heap.size w w' := by
  have HR := Lib.hid hr
  clear hr
  go_enter Tryf.func5, Tryf.ntmps5
  go_upto_region 2 with fail
  have HB := Lib.hid (bld_fresh w)
  have HBL := Lib.hid ((Below.refl w.heap.size w).alloc (Nat.le_refl _) (.cells #[.pointer none, .slice none 0 0] 33))
  generalize w.alloc (.cells #[.pointer none, .slice none 0 0] 33) = w1 at HB HBL ⊢
  go_upto_region 3 with (go_at_call 7; refine (wstr w.heap.size w.heap.size [] out _ HB.out (by simp) (by omega)).mono ?_; rintro e w2 ⟨rfl, hb2, hk2⟩)
  have HB2 := Lib.hid (show Bld w.heap.size w.heap.size out.data.toList w2 from hb2)
  have HBL2 := Lib.hid (HBL.out.trans hk2.bel)
  have hgt := HB2.out.lt
  clear HB HBL hb2 hk2
  go_upto_region 4 with fail
  have hlx : Lex w2.heap.size s i (w2.alloc (.cells #[.string s, .int .i64 i] 37)) := heap_alloc_new w2 _
  have HLX := Lib.hid hlx
  have HB3 := Lib.hid (HB2.out.below ((Below.refl _ _).alloc (Nat.le_refl _) (.cells #[.string s, .int .i64 i] 37)) (Nat.le_refl _))
  have HBL3 := Lib.hid (HBL2.out.alloc HBL2.out.size (.cells #[.string s, .int .i64 i] 37))
  obtain ⟨l, hl⟩ : ∃ l, w2.heap.size = l := ⟨_, rfl⟩
  rw [hl] at HLX hgt ⊢
  generalize w2.alloc (.cells #[.string s, .int .i64 i] 37) = w3 at HLX HB3 HBL3 ⊢
  clear hlx hl HB2 HBL2
  go_upto_region 5 with (go_at_call 8; refine (HR.out w.heap.size l w3 HB3.out HLX.out (by omega) (by omega) HBL3.out).mono ?_; rintro e w5 ⟨rfl, h5, h6, h7⟩; have H5 := Lib.hid h5; have H6 := Lib.hid h6; have H7 := Lib.hid (HBL3.out.trans h7); clear h5 h6 h7)
  have c1 := H6.out.c1
  go_region_with (go_at_call 9; refine (bstr w.heap.size w.heap.size _ _ (show Bld w.heap.size w.heap.size _ w5.drew from H5.out)).mono ?_; rintro e w7 ⟨rfl, hb7, hk7⟩; have H9 := Lib.hid (H7.out.drew.trans hk7.bel); have c17 := ((show Lex l s j w5.drew from H6.out).kept hk7 (by omega)).c1; clear hb7 hk7)
  all_goals
    go_wp2
    go_ret3
    exact ⟨rfl, H9.out⟩
end Go.Proofs.YtdpiipejpmheoaaFmt
