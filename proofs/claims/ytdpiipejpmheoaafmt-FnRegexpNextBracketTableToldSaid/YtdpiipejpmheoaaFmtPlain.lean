/-
  regexpNext at a character that stands for itself.
-/
import Derived.Test.YtdpiipejpmheoaaFmtQuote
namespace Go.Proofs.YtdpiipejpmheoaaFmt
open Go.RowKit

theorem quoted_len (c : UInt8) : (quoted c).length ≤ 2 := by unfold quoted; split <;> simp
theorem quoted_size (c : UInt8) : (⟨(quoted c).toArray⟩ : ByteArray).size ≤ 100000000 := by
  have := quoted_len c
  simp [ByteArray.size]
  omega
theorem enc_ascii (c : UInt8) (h : c.toNat < 128) : Utf8.encode (c.toNat : Int) = ⟨#[c]⟩ := by
  have v : Utf8.valid (c.toNat : Int) = true := by simp [Utf8.valid]; omega
  simp [Utf8.encode, v, h]
theorem quote_one (c : UInt8) (x : Nat) (hcx : c.toNat = x) (h : x < 128) (w : World) :
    Calls Tryf.prog 16 #[.string (Utf8.encode (x : Int))] w fun e w' => e = .returned (.string ⟨(quoted c).toArray⟩) ∧ Below w.heap.size w w' := by
  subst hcx
  rw [enc_ascii c h]
  have hq := quote_any ⟨#[c]⟩ w (by simp [ByteArray.size])
  have e : quotedAll (⟨#[c]⟩ : ByteArray).data.toList = quoted c := by simp [quotedAll]
  rw [e] at hq
  exact hq

set_option maxRecDepth 100000 in
set_option maxHeartbeats 4000000 in
theorem rn_plain (B b l : Nat) (s : ByteArray) (i : Nat) (acc : List UInt8) (mode : Int) (w : World) (hb : Bld B b acc w) (hl : Lex l s i w) (hne : l ≠ b) (hBl : B ≤ l) (hi : i < s.size) (hs : s.size ≤ 100000) (hal : acc.length ≤ 100000000)
    (ha : bt s i < 128) (h0 : bt s i ≠ 0) (h1 : bt s i ≠ 42) (h2 : bt s i ≠ 63) (h3 : bt s i ≠ 92) (h4 : bt s i ≠ 91) (hmode : (bits BinOp.and IntKind.u64 mode 64 != 0) = false) :
    Calls Tryf.prog 8 #[.pointer (some ⟨b, 0, none⟩), .pointer (some ⟨l, 0, none⟩), .int .u64 mode] w fun e w' => e = .returned .nilIface ∧ Bld B b (acc ++ quoted (s.data.toList.getD i 0)) w' ∧ Lex l s (i + 1) w' ∧ Below B w w' := by
  have HB := Lib.hid hb
  have HL := Lib.hid hl
  have hlw := hl.lt
  have hbw := hb.lt
  have HN := Lib.hid (fun W (h : Lex l s i W) => next_ascii l s i W h hi (by omega) ha)
  obtain ⟨x, hx⟩ : ∃ x : Nat, bt s i = x := ⟨_, rfl⟩
  rw [hx] at h0 h1 h2 h3 h4 ha HN
  have HX := Lib.hid hx
  have z0 : ((x : Int) == 0) = false := by simpa using h0
  have z1 : ((x : Int) == 42) = false := by simp; omega
  have z2 : ((x : Int) == 63) = false := by simp; omega
  have z3 : ((x : Int) == 92) = false := by simp; omega
  have z4 : ((x : Int) == 91) = false := by simp; omega
  have z5 : ¬ (128 : Int) < (x : Int) := by omega
  obtain ⟨c, hc⟩ : ∃ c : UInt8, s.data.toList.getD i 0 = c := ⟨_, rfl⟩
  rw [hc]
  have hcx : c.toNat = x := by rw [← hc, ← hx]; rfl
  have HQ := Lib.hid (fun W => quote_one c x hcx ha W)
  clear hb hl hi hs hx h0 h1 h2 h3 h4 ha hcx hc
  go_enter Tryf.func8, Tryf.ntmps8
  go_upto_region 2 with (go_at_call 11; refine (HN.out _ ((HL.out.below ((Below.refl _ _).alloc (Nat.le_refl _) _) (Nat.le_refl _)).below ((Below.refl _ _).alloc (Nat.le_refl _) _) (Nat.le_refl _))).mono ?_; rintro e w3 ⟨rfl, hm⟩)
  have b3 : w3.cell? ⟨w.heap.size, 0, none⟩ = some (.pointer (some ⟨b, 0, none⟩)) := hm.cell (by omega) (by simp [go_sem])
  have b4 : w3.cell? ⟨w.heap.size + 1, 0, none⟩ = some (.pointer (some ⟨l, 0, none⟩)) := hm.cell (by omega) (by simp [go_sem])
  have HM := Lib.hid hm
  clear hm
  have hw3 : w3.heap.size = w.heap.size + 2 := HM.out.size.trans (by simp)
  have HB3 := Lib.hid (HM.out.bld ((HB.out.below ((Below.refl _ _).alloc (Nat.le_refl _) _) (Nat.le_refl _)).below ((Below.refl _ _).alloc (Nat.le_refl _) _) (Nat.le_refl _)) ((HL.out.below ((Below.refl _ _).alloc (Nat.le_refl _) _) (Nat.le_refl _)).below ((Below.refl _ _).alloc (Nat.le_refl _) _) (Nat.le_refl _)) hne)
  have HW3 := Lib.hid hw3
  clear hw3
  have HBQ := Lib.hid (fun W' (h : Below w3.drew.heap.size w3.drew W') => (show Bld B b acc w3.drew from HB3.out).below h (Nat.le_refl _))
  go_wp2_with fail
  go_region_with (first
    | (go_at_call 16; refine (HQ.out _).mono ?_; rintro e w4 ⟨rfl, hb4⟩; have e3 := (hb4.cell (p := ⟨w.heap.size, 0, none⟩) (by show w.heap.size < w3.heap.size; rw [HW3.out]; omega)).trans b3)
    | (go_at_call 7; refine (wstr B b acc _ _ (HBQ.out _ hb4) hal (quoted_size c)).mono ?_; rintro e w5 ⟨rfl, hb5, hk5⟩))
  all_goals
    go_wp2
    go_ret
    have hk4 : Lex l s (i + 1) w4 := (show Lex l s (i + 1) w3.drew from HM.out.lex).below hb4 (Nat.le_refl _)
    have hBw : B ≤ w.heap.size := by omega
    have h3 : Below B w w3 := (((Below.refl B w).alloc hBw _).alloc (by simp; omega) _).trans (HM.out.bel.mono hBl)
    have h4 : Below B w w4 := h3.drew.trans (hb4.mono (by show B ≤ w3.heap.size; rw [HW3.out]; omega))
    exact ⟨rfl, hb5, hk4.kept hk5 hne, h4.trans hk5.bel⟩
end Go.Proofs.YtdpiipejpmheoaaFmt
