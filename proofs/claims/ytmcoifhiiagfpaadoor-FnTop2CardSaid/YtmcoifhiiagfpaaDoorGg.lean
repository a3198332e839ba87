/-
  asciiLetter; the loop over a sequence's two ends.
  The loop over the two ends of a sequence, round by round.
  The loop over the two ends of a sequence.
  The loop that lays the elements of a broken sequence down as text.
-/
import Derived.Test.YtmcoifhiiagfpaaDoorGf
import Derived.Test.YtmcoifhiiagfpaaDoorGc
namespace Go.Proofs.YtmcoifhiiagfpaaDoor
open Go.RowKit
set_option linter.unusedSectionVars false
variable [Pw]

set_option maxRecDepth 100000 in
theorem letter_any (x : Nat) (w : World) : Calls Tryd.prog 32 #[.int .u8 x] w fun e w' => e = .returned (.bool (isLetter x)) ∧ w = w' := by
  by_cases a1 : 97 ≤ x
  · have d1 : (97 : Int) ≤ (x : Int) := by omega
    by_cases a2 : x ≤ 122
    · have d2 : (x : Int) ≤ (122 : Int) := by omega
      have hr : isLetter x = true := by unfold isLetter; simp [a1, a2]
      rw [hr]
      go_enter Tryd.func32, Tryd.ntmps32
      go_wp2
      go_ret
      exact ⟨rfl, rfl⟩
    · have d2 : ¬ (x : Int) ≤ (122 : Int) := by omega
      have d3 : (65 : Int) ≤ (x : Int) := by omega
      have d4 : ¬ (x : Int) ≤ (90 : Int) := by omega
      have hr : isLetter x = false := by unfold isLetter; simp [a1, a2]; omega
      rw [hr]
      go_enter Tryd.func32, Tryd.ntmps32
      go_wp2
      go_ret
      exact ⟨rfl, rfl⟩
  · have d1 : ¬ (97 : Int) ≤ (x : Int) := by omega
    by_cases a3 : 65 ≤ x
    · have d3 : (65 : Int) ≤ (x : Int) := by omega
      by_cases a4 : x ≤ 90
      · have d4 : (x : Int) ≤ (90 : Int) := by omega
        have hr : isLetter x = true := by unfold isLetter; simp [a3, a4]
        rw [hr]
        go_enter Tryd.func32, Tryd.ntmps32
        go_wp2
        go_ret
        exact ⟨rfl, rfl⟩
      · have d4 : ¬ (x : Int) ≤ (90 : Int) := by omega
        have hr : isLetter x = false := by unfold isLetter; simp [a1, a4]
        rw [hr]
        go_enter Tryd.func32, Tryd.ntmps32
        go_wp2
        go_ret
        exact ⟨rfl, rfl⟩
    · have d3 : ¬ (65 : Int) ≤ (x : Int) := by omega
      have hr : isLetter x = false := by unfold isLetter; simp [a1, a3]
      rw [hr]
      go_enter Tryd.func32, Tryd.ntmps32
      go_wp2
      go_ret
      exact ⟨rfl, rfl⟩
end Go.Proofs.YtmcoifhiiagfpaaDoor

namespace Go.Proofs.YtmcoifhiiagfpaaDoor
open Go.RowKit
set_option linter.unusedSectionVars false
variable [Pw]

/-- A letter and no number; neither. -/
def chr (s : ByteArray) : Bool := !isNum s && isChar s
def bad (s : ByteArray) : Bool := !isNum s && !isChar s

theorem weight_le (ps : List Part) : weight ps ≤ sz ps := by
  induction ps with
  | nil => exact Nat.zero_le _
  | cons p r ih =>
    rw [sz_cons]
    cases p with
    | lit s =>
      simp only [weight, psz]
      omega
    | brace _ _ =>
      simp only [weight]
      omega
    | other _ _ =>
      simp only [weight]
      omega
theorem litOf_size (ps : List Part) : (litOf ps).size ≤ weight ps := by
  unfold litOf
  rw [litText_lits]
  cases h : lits ps with
  | none => exact Nat.zero_le _
  | some xs =>
    have h1 := (lits_weight ps xs h).1
    have h2 : (((Option.map (fun l : List ByteArray => l.flatMap fun s => s.data.toList) (some xs)).getD []).toArray).size = weight ps := by
      rw [← h1]
      rfl
    exact Nat.le_of_eq h2

theorem parse_yes (s : ByteArray) (w : World) (hs : s.size ≤ 100000000) (hE : Errs w) (hn : isNum s = true) :
    Calls Tryd.prog 31 #[.string s, .int .i64 10, .int .i64 64] w fun e w' => (∃ v, e = .returned (.tuple #[.int .i64 v, .nilIface])) ∧ Below w.heap.size w w' := by
  refine (parse_any s w hs hE).mono ?_
  rintro e w' ⟨⟨v, er, rfl, hh⟩, hb⟩
  rcases hh with ⟨_, rfl⟩ | ⟨h, _⟩
  · exact ⟨⟨v, rfl⟩, hb⟩
  · rw [hn] at h
    cases h
theorem parse_no (s : ByteArray) (w : World) (hs : s.size ≤ 100000000) (hE : Errs w) (hn : isNum s = false) :
    Calls Tryd.prog 31 #[.string s, .int .i64 10, .int .i64 64] w fun e w' => (∃ v t q, e = .returned (.tuple #[.int .i64 v, .iface t (.pointer (some ⟨q, 0, none⟩))])) ∧ Below w.heap.size w w' := by
  refine (parse_any s w hs hE).mono ?_
  rintro e w' ⟨⟨v, er, rfl, hh⟩, hb⟩
  rcases hh with ⟨h, _⟩ | ⟨_, t, q, rfl⟩
  · rw [hn] at h
    cases h
  · exact ⟨⟨v, t, q, rfl⟩, hb⟩

/-- The slots of the loop over the ends. -/
structure ChFr (N p : Nat) (c50 c51 c52 : Value) (lx la jb b ch : Nat) (brk : Bool) (e cap i : Nat) (a : Act) : Prop where
  fr : Fr N p c50 c51 c52 lx la jb a
  s19 : a.tmps.getD 19 undef = ptr b
  s20 : a.tmps.getD 20 undef = ptr ch
  s21 : a.tmps.getD 21 undef = .bool brk
  s297 : a.tmps.getD 297 undef = .slice (some ⟨e, 0, none⟩) 2 cap
  s298 : a.tmps.getD 298 undef = .int .i64 2
  s299 : a.tmps.getD 299 undef = .int .i64 (i : Int)

/-- The array of two. -/
def Two (w : World) (ch : Nat) (c0 c1 : Bool) : Prop := w.heap[ch]? = some (.cells #[.bool c0, .bool c1] 84 (0, 0))

/-- An element of a finished brace, at any later world. -/
structure El (w : World) (b e k : Nat) (es : List Part) (p : Nat) (v : Value) (vals : List Value) (L : Nat → Prop) : Prop where
  ce : w.cell? ⟨e, k, none⟩ = some (.pointer (some ⟨p, 0, none⟩))
  hp : w.heap[p]? = some (.cells #[v] 40 (0, 0))
  row : RowAt w L v vals
  par : PartsAt w L vals es
theorem Br.el {w : World} {L : Nat → Prop} {b e cap : Nat} {seq : Bool} {ess : List (List Part)} (h : Br w L b seq ess e cap) {k : Nat} {es : List Part} (hk : ess[k]? = some es) {w2 : World} (hb : Below w.heap.size w w2) : ∃ p v vals, El w2 b e k es p v vals L := by
  obtain ⟨p, v, vals, h1, h2, h3, h4⟩ := h.elt k es hk
  have hs : Safe L L w w2 := ⟨fun k hk _ => hb.block k hk, fun _ _ x => x⟩
  obtain ⟨c, hc⟩ := h.ety
  exact ⟨p, v, vals, (hb.cell (p := ⟨e, k, none⟩) (Array.getElem?_eq_some_iff.1 hc).1).trans h1, (hb.block p (Array.getElem?_eq_some_iff.1 h2).1).trans h2, h3.safe hs, h4.safe hs⟩

set_option maxRecDepth 1000000 in
set_option maxHeartbeats 2000000 in
theorem chars_round0 {N p : Nat} {c50 c51 c52 : Value} {lx la jb b ch e cap2 ecap : Nat} {brk : Bool} {a : Act} (cf : ChFr N p c50 c51 c52 lx la jb b ch brk e cap2 0 a) {w7 w : World} {L : Nat → Prop} {seq : Bool} {ess : List (List Part)} (br : Br w7 L b seq ess e ecap) {es : List Part} (hes : ess[0]? = some es) (hn : sz es ≤ 100000000) (hb : Below w7.heap.size w7 w) {c1 : Bool} (harr : Two w ch false c1) (hch : w7.heap.size ≤ ch) (hE : Errs w7) (hE1 : 0 < w7.heap.size) (hE2 : 1 < w7.heap.size) (Q0 : Exit → Act → World → Prop) :
    Code.wp Tryd.prog (bodyOf 3) (Exit.then (fun a' w' => ChFr N p c50 c51 c52 lx la jb b ch (brk || bad (litOf es)) e cap2 (0 + 1) a' ∧ Below w7.heap.size w7 w' ∧ Two w' ch (chr (litOf es)) c1) Q0) a w := by
  obtain ⟨fr, g19, g20, g21, g297, g298, g299⟩ := cf
  obtain ⟨f, hf, ht⟩ := frame_lit a.tmps fr.size
  obtain ⟨t, d⟩ := a
  have hd : d = [] := fr.defers
  subst hd
  have h0 := (hf 0).trans fr.s0
  have h2 := (hf 2).trans fr.s2
  have h3 := (hf 3).trans fr.s3
  have h4 := (hf 4).trans fr.s4
  have h5 := (hf 5).trans fr.s5
  have h6 := (hf 6).trans fr.s6
  have h7 := (hf 7).trans fr.s7
  have h8 := (hf 8).trans fr.s8
  have h11 := (hf 11).trans fr.s11
  have h13 := (hf 13).trans fr.s13
  have h14 := (hf 14).trans fr.s14
  have h50 := (hf 50).trans fr.s50
  have h51 := (hf 51).trans fr.s51
  have h52 := (hf 52).trans fr.s52
  replace g19 := (hf 19).trans g19
  replace g20 := (hf 20).trans g20
  replace g21 := (hf 21).trans g21
  replace g297 := (hf 297).trans g297
  replace g298 := (hf 298).trans g298
  replace g299 := (hf 299).trans g299
  simp only [h0, h2, h3, h4, h5, h6, h7, h8, h11, h13, h14, h50, h51, h52, g19, g20, g21, g297, g298, g299] at ht
  have ht2 : t = _ := ht
  subst ht2
  clear hf ht fr h0 h2 h3 h4 h5 h6 h7 h8 h11 h13 h14 h50 h51 h52 g19 g20 g21 g297 g298 g299
  obtain ⟨p0, v0, vals0, el⟩ := br.el hes hb
  have ce : w.cell? ⟨e, 0, none⟩ = some (.pointer (some ⟨p0, 0, none⟩)) := el.ce
  have hln := sz_length es
  have hwt := weight_le es
  have hsl := litOf_size es
  have hlit := lit_any w L p0 v0 vals0 es el.hp el.row el.par (by omega) (by omega)
  have hsl2 : (litOf es).size ≤ 100000000 := by omega
  obtain ⟨s, hse⟩ : ∃ s, litOf es = s := ⟨_, rfl⟩
  rw [hse] at hlit hsl2 ⊢
  have HL := Lib.hid hlit
  have HP := Lib.hid (fun (w2 : World) (hb2 : Below w.heap.size w w2) => hE.below ((hb.trans (hb2.mono hb.size))) hE1 hE2)
  have HSZ := Lib.hid hsl2
  have HB0 := Lib.hid hb
  have HA0 := Lib.hid (show w.heap[ch]? = _ from harr)
  have HCL := Lib.hid (show ch < w.heap.size from (Array.getElem?_eq_some_iff.1 harr).1)
  have HCH := Lib.hid hch
  have hzl : (s.size : Int) ≤ 100000000 := by omega
  clear el hln hwt hsl hb harr hch hE hE1 hE2 hn hes br hlit hsl2 hse es ess
  cases hnum : isNum s with
  | true =>
    have HN := Lib.hid hnum
    have hr1 : chr s = false := by unfold chr; rw [hnum]; rfl
    have hr2 : bad s = false := by unfold bad; rw [hnum]; rfl
    rw [hr1, hr2, Bool.or_false]
    clear hr1 hr2 hnum
    conv => arg 2; whnf
    unfold ptr
    go_wp2_with (first
      | (go_at_call 30; refine (HL.out).mono ?_; rintro e1 w2 ⟨rfl, hb2⟩; have HB2 := Lib.hid hb2; clear hb2)
      | (go_at_call 31; refine (parse_yes s _ HSZ.out (HP.out w2 HB2.out) HN.out).mono ?_; rintro e2 w3 ⟨⟨u, rfl⟩, hb3⟩; have HB3 := Lib.hid (HB2.out.trans (hb3.mono HB2.out.size)); clear hb3))
    exact ⟨⟨⟨rfl, rfl, rfl, rfl, rfl, rfl, rfl, rfl, rfl, rfl, rfl, rfl, rfl, rfl, rfl, rfl⟩, rfl, rfl, rfl, rfl, rfl, rfl⟩, HB0.out.trans (HB3.out.mono HB0.out.size), (HB3.out.block ch HCL.out).trans HA0.out⟩
  | false =>
    have HN := Lib.hid hnum
    have hr0 : chr s = isChar s := by unfold chr; rw [hnum]; rfl
    have hr1 : bad s = !isChar s := by unfold bad; rw [hnum]; rfl
    rw [hr0, hr1]
    clear hr0 hr1 hnum
    by_cases h1 : s.size = 1
    · have z1 : ((s.size : Int) == 1) = true := by simp [h1]
      have z0 : 0 < s.size := by omega
      have hic : isChar s = isLetter (s[0]'z0).toNat := by
        unfold isChar
        rw [h1, bt_get s 0 z0]
        rfl
      rw [hic]
      clear hic h1
      cases hlt : isLetter (s[0]'z0).toNat with
      | true =>
        conv => arg 2; whnf
        unfold ptr
        go_wp2_with (first
          | (go_at_call 30; refine (HL.out).mono ?_; rintro e1 w2 ⟨rfl, hb2⟩; have HB2 := Lib.hid hb2; clear hb2)
          | (go_at_call 31; refine (parse_no s _ HSZ.out (HP.out w2 HB2.out) HN.out).mono ?_; rintro e2 w3 ⟨⟨u, t, q, rfl⟩, hb3⟩; have hb4 := HB2.out.trans (hb3.mono HB2.out.size); have hA3 := (hb4.block ch HCL.out).trans HA0.out; have HA3 := Lib.hid hA3; have cA : w3.cell? ⟨ch, 0, none⟩ = some (.bool false) := (Lib.cell_of_heap hA3 0).trans rfl; have zA : w3.frozen? ⟨ch, 0, none⟩ = false := Lib.frozen_of_heap hA3 0; have HB3 := Lib.hid hb4; clear hb3 hb4 hA3)
          | (go_at_call 32; refine (letter_any _ _).mono ?_; rintro e4 w4 ⟨rfl, rfl⟩))
        exact ⟨⟨⟨rfl, rfl, rfl, rfl, rfl, rfl, rfl, rfl, rfl, rfl, rfl, rfl, rfl, rfl, rfl, rfl⟩, rfl, rfl, by rw [Bool.not_true, Bool.or_false]; rfl, rfl, rfl, rfl⟩, (HB0.out.trans (HB3.out.mono HB0.out.size)).setCell (p := ⟨ch, 0, none⟩) HCH.out _, (heap_setCell_same _ _ _ _ _ _ HA3.out).trans rfl⟩
      | false =>
        conv => arg 2; whnf
        unfold ptr
        go_wp2_with (first
          | (go_at_call 30; refine (HL.out).mono ?_; rintro e1 w2 ⟨rfl, hb2⟩; have HB2 := Lib.hid hb2; clear hb2)
          | (go_at_call 31; refine (parse_no s _ HSZ.out (HP.out w2 HB2.out) HN.out).mono ?_; rintro e2 w3 ⟨⟨u, t, q, rfl⟩, hb3⟩; have HB3 := Lib.hid (HB2.out.trans (hb3.mono HB2.out.size)); clear hb3)
          | (go_at_call 32; refine (letter_any _ _).mono ?_; rintro e4 w4 ⟨rfl, rfl⟩))
        exact ⟨⟨⟨rfl, rfl, rfl, rfl, rfl, rfl, rfl, rfl, rfl, rfl, rfl, rfl, rfl, rfl, rfl, rfl⟩, rfl, rfl, by rw [Bool.not_false, Bool.or_true]; rfl, rfl, rfl, rfl⟩, HB0.out.trans (HB3.out.mono HB0.out.size), (HB3.out.block ch HCL.out).trans HA0.out⟩
    · have z1 : ((s.size : Int) == 1) = false := by simp; omega
      have hic : isChar s = false := by
        unfold isChar
        simp [h1]
      rw [hic]
      clear hic h1
      conv => arg 2; whnf
      unfold ptr
      go_wp2_with (first
        | (go_at_call 30; refine (HL.out).mono ?_; rintro e1 w2 ⟨rfl, hb2⟩; have HB2 := Lib.hid hb2; clear hb2)
        | (go_at_call 31; refine (parse_no s _ HSZ.out (HP.out w2 HB2.out) HN.out).mono ?_; rintro e2 w3 ⟨⟨u, t, q, rfl⟩, hb3⟩; have HB3 := Lib.hid (HB2.out.trans (hb3.mono HB2.out.size)); clear hb3))
      exact ⟨⟨⟨rfl, rfl, rfl, rfl, rfl, rfl, rfl, rfl, rfl, rfl, rfl, rfl, rfl, rfl, rfl, rfl⟩, rfl, rfl, by rw [Bool.not_false, Bool.or_true]; rfl, rfl, rfl, rfl⟩, HB0.out.trans (HB3.out.mono HB0.out.size), (HB3.out.block ch HCL.out).trans HA0.out⟩

set_option maxRecDepth 1000000 in
set_option maxHeartbeats 2000000 in
theorem chars_round1 {N p : Nat} {c50 c51 c52 : Value} {lx la jb b ch e cap2 ecap : Nat} {brk : Bool} {a : Act} (cf : ChFr N p c50 c51 c52 lx la jb b ch brk e cap2 1 a) {w7 w : World} {L : Nat → Prop} {seq : Bool} {ess : List (List Part)} (br : Br w7 L b seq ess e ecap) {es : List Part} (hes : ess[1]? = some es) (hn : sz es ≤ 100000000) (hb : Below w7.heap.size w7 w) {c0 : Bool} (harr : Two w ch c0 false) (hch : w7.heap.size ≤ ch) (hE : Errs w7) (hE1 : 0 < w7.heap.size) (hE2 : 1 < w7.heap.size) (Q0 : Exit → Act → World → Prop) :
    Code.wp Tryd.prog (bodyOf 3) (Exit.then (fun a' w' => ChFr N p c50 c51 c52 lx la jb b ch (brk || bad (litOf es)) e cap2 (1 + 1) a' ∧ Below w7.heap.size w7 w' ∧ Two w' ch c0 (chr (litOf es))) Q0) a w := by
  obtain ⟨fr, g19, g20, g21, g297, g298, g299⟩ := cf
  obtain ⟨f, hf, ht⟩ := frame_lit a.tmps fr.size
  obtain ⟨t, d⟩ := a
  have hd : d = [] := fr.defers
  subst hd
  have h0 := (hf 0).trans fr.s0
  have h2 := (hf 2).trans fr.s2
  have h3 := (hf 3).trans fr.s3
  have h4 := (hf 4).trans fr.s4
  have h5 := (hf 5).trans fr.s5
  have h6 := (hf 6).trans fr.s6
  have h7 := (hf 7).trans fr.s7
  have h8 := (hf 8).trans fr.s8
  have h11 := (hf 11).trans fr.s11
  have h13 := (hf 13).trans fr.s13
  have h14 := (hf 14).trans fr.s14
  have h50 := (hf 50).trans fr.s50
  have h51 := (hf 51).trans fr.s51
  have h52 := (hf 52).trans fr.s52
  replace g19 := (hf 19).trans g19
  replace g20 := (hf 20).trans g20
  replace g21 := (hf 21).trans g21
  replace g297 := (hf 297).trans g297
  replace g298 := (hf 298).trans g298
  replace g299 := (hf 299).trans g299
  simp only [h0, h2, h3, h4, h5, h6, h7, h8, h11, h13, h14, h50, h51, h52, g19, g20, g21, g297, g298, g299] at ht
  have ht2 : t = _ := ht
  subst ht2
  clear hf ht fr h0 h2 h3 h4 h5 h6 h7 h8 h11 h13 h14 h50 h51 h52 g19 g20 g21 g297 g298 g299
  obtain ⟨p0, v0, vals0, el⟩ := br.el hes hb
  have ce : w.cell? ⟨e, 1, none⟩ = some (.pointer (some ⟨p0, 0, none⟩)) := el.ce
  have hln := sz_length es
  have hwt := weight_le es
  have hsl := litOf_size es
  have hlit := lit_any w L p0 v0 vals0 es el.hp el.row el.par (by omega) (by omega)
  have hsl2 : (litOf es).size ≤ 100000000 := by omega
  obtain ⟨s, hse⟩ : ∃ s, litOf es = s := ⟨_, rfl⟩
  rw [hse] at hlit hsl2 ⊢
  have HL := Lib.hid hlit
  have HP := Lib.hid (fun (w2 : World) (hb2 : Below w.heap.size w w2) => hE.below ((hb.trans (hb2.mono hb.size))) hE1 hE2)
  have HSZ := Lib.hid hsl2
  have HB0 := Lib.hid hb
  have HA0 := Lib.hid (show w.heap[ch]? = _ from harr)
  have HCL := Lib.hid (show ch < w.heap.size from (Array.getElem?_eq_some_iff.1 harr).1)
  have HCH := Lib.hid hch
  have hzl : (s.size : Int) ≤ 100000000 := by omega
  clear el hln hwt hsl hb harr hch hE hE1 hE2 hn hes br hlit hsl2 hse es ess
  cases hnum : isNum s with
  | true =>
    have HN := Lib.hid hnum
    have hr1 : chr s = false := by unfold chr; rw [hnum]; rfl
    have hr2 : bad s = false := by unfold bad; rw [hnum]; rfl
    rw [hr1, hr2, Bool.or_false]
    clear hr1 hr2 hnum
    conv => arg 2; whnf
    unfold ptr
    go_wp2_with (first
      | (go_at_call 30; refine (HL.out).mono ?_; rintro e1 w2 ⟨rfl, hb2⟩; have HB2 := Lib.hid hb2; clear hb2)
      | (go_at_call 31; refine (parse_yes s _ HSZ.out (HP.out w2 HB2.out) HN.out).mono ?_; rintro e2 w3 ⟨⟨u, rfl⟩, hb3⟩; have HB3 := Lib.hid (HB2.out.trans (hb3.mono HB2.out.size)); clear hb3))
    exact ⟨⟨⟨rfl, rfl, rfl, rfl, rfl, rfl, rfl, rfl, rfl, rfl, rfl, rfl, rfl, rfl, rfl, rfl⟩, rfl, rfl, rfl, rfl, rfl, rfl⟩, HB0.out.trans (HB3.out.mono HB0.out.size), (HB3.out.block ch HCL.out).trans HA0.out⟩
  | false =>
    have HN := Lib.hid hnum
    have hr0 : chr s = isChar s := by unfold chr; rw [hnum]; rfl
    have hr1 : bad s = !isChar s := by unfold bad; rw [hnum]; rfl
    rw [hr0, hr1]
    clear hr0 hr1 hnum
    by_cases h1 : s.size = 1
    · have z1 : ((s.size : Int) == 1) = true := by simp [h1]
      have z0 : 0 < s.size := by omega
      have hic : isChar s = isLetter (s[0]'z0).toNat := by
        unfold isChar
        rw [h1, bt_get s 0 z0]
        rfl
      rw [hic]
      clear hic h1
      cases hlt : isLetter (s[0]'z0).toNat with
      | true =>
        conv => arg 2; whnf
        unfold ptr
        go_wp2_with (first
          | (go_at_call 30; refine (HL.out).mono ?_; rintro e1 w2 ⟨rfl, hb2⟩; have HB2 := Lib.hid hb2; clear hb2)
          | (go_at_call 31; refine (parse_no s _ HSZ.out (HP.out w2 HB2.out) HN.out).mono ?_; rintro e2 w3 ⟨⟨u, t, q, rfl⟩, hb3⟩; have hb4 := HB2.out.trans (hb3.mono HB2.out.size); have hA3 := (hb4.block ch HCL.out).trans HA0.out; have HA3 := Lib.hid hA3; have cA : w3.cell? ⟨ch, 1, none⟩ = some (.bool false) := (Lib.cell_of_heap hA3 1).trans rfl; have zA : w3.frozen? ⟨ch, 1, none⟩ = false := Lib.frozen_of_heap hA3 1; have HB3 := Lib.hid hb4; clear hb3 hb4 hA3)
          | (go_at_call 32; refine (letter_any _ _).mono ?_; rintro e4 w4 ⟨rfl, rfl⟩))
        exact ⟨⟨⟨rfl, rfl, rfl, rfl, rfl, rfl, rfl, rfl, rfl, rfl, rfl, rfl, rfl, rfl, rfl, rfl⟩, rfl, rfl, by rw [Bool.not_true, Bool.or_false]; rfl, rfl, rfl, rfl⟩, (HB0.out.trans (HB3.out.mono HB0.out.size)).setCell (p := ⟨ch, 1, none⟩) HCH.out _, (heap_setCell_same _ _ _ _ _ _ HA3.out).trans rfl⟩
      | false =>
        conv => arg 2; whnf
        unfold ptr
        go_wp2_with (first
          | (go_at_call 30; refine (HL.out).mono ?_; rintro e1 w2 ⟨rfl, hb2⟩; have HB2 := Lib.hid hb2; clear hb2)
          | (go_at_call 31; refine (parse_no s _ HSZ.out (HP.out w2 HB2.out) HN.out).mono ?_; rintro e2 w3 ⟨⟨u, t, q, rfl⟩, hb3⟩; have HB3 := Lib.hid (HB2.out.trans (hb3.mono HB2.out.size)); clear hb3)
          | (go_at_call 32; refine (letter_any _ _).mono ?_; rintro e4 w4 ⟨rfl, rfl⟩))
        exact ⟨⟨⟨rfl, rfl, rfl, rfl, rfl, rfl, rfl, rfl, rfl, rfl, rfl, rfl, rfl, rfl, rfl, rfl⟩, rfl, rfl, by rw [Bool.not_false, Bool.or_true]; rfl, rfl, rfl, rfl⟩, HB0.out.trans (HB3.out.mono HB0.out.size), (HB3.out.block ch HCL.out).trans HA0.out⟩
    · have z1 : ((s.size : Int) == 1) = false := by simp; omega
      have hic : isChar s = false := by
        unfold isChar
        simp [h1]
      rw [hic]
      clear hic h1
      conv => arg 2; whnf
      unfold ptr
      go_wp2_with (first
        | (go_at_call 30; refine (HL.out).mono ?_; rintro e1 w2 ⟨rfl, hb2⟩; have HB2 := Lib.hid hb2; clear hb2)
        | (go_at_call 31; refine (parse_no s _ HSZ.out (HP.out w2 HB2.out) HN.out).mono ?_; rintro e2 w3 ⟨⟨u, t, q, rfl⟩, hb3⟩; have HB3 := Lib.hid (HB2.out.trans (hb3.mono HB2.out.size)); clear hb3))
      exact ⟨⟨⟨rfl, rfl, rfl, rfl, rfl, rfl, rfl, rfl, rfl, rfl, rfl, rfl, rfl, rfl, rfl, rfl⟩, rfl, rfl, by rw [Bool.not_false, Bool.or_true]; rfl, rfl, rfl, rfl⟩, HB0.out.trans (HB3.out.mono HB0.out.size), (HB3.out.block ch HCL.out).trans HA0.out⟩
end Go.Proofs.YtmcoifhiiagfpaaDoor

namespace Go.Proofs.YtmcoifhiiagfpaaDoor
open Go.RowKit
set_option linter.unusedSectionVars false
variable [Pw]

set_option maxRecDepth 1000000 in
set_option maxHeartbeats 2000000 in
theorem chars_exit {N p : Nat} {c50 c51 c52 : Value} {lx la jb b ch e cap2 : Nat} {brk : Bool} {a : Act} (cf : ChFr N p c50 c51 c52 lx la jb b ch brk e cap2 2 a) {w : World} (Q : Exit → Act → World → Prop) (hQ : ∀ a', ChFr N p c50 c51 c52 lx la jb b ch brk e cap2 2 a' → Q (.exit 7) a' w) :
    Code.wp Tryd.prog (bodyOf 3) Q a w := by
  obtain ⟨fr, g19, g20, g21, g297, g298, g299⟩ := cf
  obtain ⟨f, hf, ht⟩ := frame_lit a.tmps fr.size
  obtain ⟨t, d⟩ := a
  have hd : d = [] := fr.defers
  subst hd
  have h0 := (hf 0).trans fr.s0
  have h2 := (hf 2).trans fr.s2
  have h3 := (hf 3).trans fr.s3
  have h4 := (hf 4).trans fr.s4
  have h5 := (hf 5).trans fr.s5
  have h6 := (hf 6).trans fr.s6
  have h7 := (hf 7).trans fr.s7
  have h8 := (hf 8).trans fr.s8
  have h11 := (hf 11).trans fr.s11
  have h13 := (hf 13).trans fr.s13
  have h14 := (hf 14).trans fr.s14
  have h50 := (hf 50).trans fr.s50
  have h51 := (hf 51).trans fr.s51
  have h52 := (hf 52).trans fr.s52
  replace g19 := (hf 19).trans g19
  replace g20 := (hf 20).trans g20
  replace g21 := (hf 21).trans g21
  replace g297 := (hf 297).trans g297
  replace g298 := (hf 298).trans g298
  replace g299 := (hf 299).trans g299
  simp only [h0, h2, h3, h4, h5, h6, h7, h8, h11, h13, h14, h50, h51, h52, g19, g20, g21, g297, g298, g299] at ht
  have ht2 : t = _ := ht
  subst ht2
  clear hf ht fr h0 h2 h3 h4 h5 h6 h7 h8 h11 h13 h14 h50 h51 h52 g19 g20 g21 g297 g298 g299
  conv => arg 2; whnf
  unfold ptr
  go_wp2_with fail
  exact ⟨⟨rfl, rfl, rfl, rfl, rfl, rfl, rfl, rfl, rfl, rfl, rfl, rfl, rfl, rfl, rfl, rfl⟩, rfl, rfl, rfl, rfl, rfl, rfl⟩

theorem chars_loop {N p : Nat} {c50 c51 c52 : Value} {lx la jb b ch e cap2 ecap : Nat} {a : Act} (cf : ChFr N p c50 c51 c52 lx la jb b ch false e cap2 0 a) {w7 w : World} {L : Nat → Prop} {seq : Bool} {ess : List (List Part)} (br : Br w7 L b seq ess e ecap) {ea eb : List Part} (hea : ess[0]? = some ea) (heb : ess[1]? = some eb) (hna : sz ea ≤ 100000000) (hnb : sz eb ≤ 100000000) (hb : Below w7.heap.size w7 w) (harr : Two w ch false false) (hch : w7.heap.size ≤ ch) (hE : Errs w7) (hE1 : 0 < w7.heap.size) (hE2 : 1 < w7.heap.size) (Q : Exit → Act → World → Prop)
    (hQ : ∀ a' w', ChFr N p c50 c51 c52 lx la jb b ch (bad (litOf ea) || bad (litOf eb)) e cap2 2 a' → Below w7.heap.size w7 w' → Two w' ch (chr (litOf ea)) (chr (litOf eb)) → Q (.exit 7) a' w') :
    Code.wp Tryd.prog (Code.loop (bodyOf 3)) Q a w := by
  refine wp_loop_ghost (fun n a' w' => Below w7.heap.size w7 w' ∧ ((n = 2 ∧ ChFr N p c50 c51 c52 lx la jb b ch false e cap2 0 a' ∧ Two w' ch false false) ∨ (n = 1 ∧ ChFr N p c50 c51 c52 lx la jb b ch (bad (litOf ea)) e cap2 1 a' ∧ Two w' ch (chr (litOf ea)) false) ∨ (n = 0 ∧ ChFr N p c50 c51 c52 lx la jb b ch (bad (litOf ea) || bad (litOf eb)) e cap2 2 a' ∧ Two w' ch (chr (litOf ea)) (chr (litOf eb))))) 2 ⟨hb, Or.inl ⟨rfl, cf, harr⟩⟩ ?_
  rintro n a1 w1 ⟨hb1, hcase⟩
  rcases hcase with ⟨rfl, cf1, ha1⟩ | ⟨rfl, cf1, ha1⟩ | ⟨rfl, cf1, ha1⟩
  · refine Code.wp_mono ?_ (chars_round0 cf1 br hea hna hb1 ha1 hch hE hE1 hE2 Q)
    intro ex a' w' hq
    cases ex with
    | normal => exact ⟨1, by omega, hq.2.1, Or.inr (Or.inl ⟨rfl, by have := hq.1; rwa [Bool.false_or] at this, hq.2.2⟩)⟩
    | exit id => exact hq
    | goto l => exact hq
    | ret => exact hq
    | panic ch => exact hq
    | outgrown => exact hq
  · refine Code.wp_mono ?_ (chars_round1 cf1 br heb hnb hb1 ha1 hch hE hE1 hE2 Q)
    intro ex a' w' hq
    cases ex with
    | normal => exact ⟨0, by omega, hq.2.1, Or.inr (Or.inr ⟨rfl, hq.1, hq.2.2⟩)⟩
    | exit id => exact hq
    | goto l => exact hq
    | ret => exact hq
    | panic ch => exact hq
    | outgrown => exact hq
  · exact chars_exit cf1 _ (fun a' h => hQ a' w1 h hb1 ha1)
end Go.Proofs.YtmcoifhiiagfpaaDoor

namespace Go.Proofs.YtmcoifhiiagfpaaDoor
open Go.RowKit
set_option linter.unusedSectionVars false
variable [Pw]

theorem sepBy_snoc (sep : ByteArray) : ∀ (l : List (List Part)) (e : List Part), l ≠ [] → sepBy sep (l ++ [e]) = sepBy sep l ++ (.lit sep :: e)
  | [], _, h => absurd rfl h
  | [a], e, _ => rfl
  | a :: b :: r, e, _ => by
    show a ++ .lit sep :: sepBy sep ((b :: r) ++ [e]) = (a ++ .lit sep :: sepBy sep (b :: r)) ++ (.lit sep :: e)
    rw [sepBy_snoc sep (b :: r) e (by simp)]
    simp
theorem sepBy_pre (sep : ByteArray) : ∀ (l : List (List Part)) (k : Nat), ∃ t, sepBy sep l = sepBy sep (l.take k) ++ t
  | l, 0 => ⟨_, rfl⟩
  | [], k + 1 => ⟨[], rfl⟩
  | [a], k + 1 => ⟨[], by simp [sepBy]⟩
  | a :: b :: r, 1 => ⟨_, rfl⟩
  | a :: b :: r, k + 2 => by
    obtain ⟨t, ht⟩ := sepBy_pre sep (b :: r) (k + 1)
    refine ⟨t, ?_⟩
    show a ++ .lit sep :: sepBy sep (b :: r) = (a ++ .lit sep :: sepBy sep ((b :: r).take (k + 1))) ++ t
    rw [ht]
    simp
theorem sepBy_take_len (sep : ByteArray) (l : List (List Part)) (k : Nat) : (sepBy sep (l.take k)).length ≤ (sepBy sep l).length := by
  obtain ⟨t, ht⟩ := sepBy_pre sep l k
  rw [ht, List.length_append]
  omega
theorem sepBy_zero (sep : ByteArray) (ess : List (List Part)) (es : List Part) (h : ess[0]? = some es) : sepBy sep (ess.take (0 + 1)) = es := by
  cases ess with
  | nil => simp at h
  | cons a r =>
    simp only [List.getElem?_cons_zero, Option.some.injEq] at h
    subst h
    rfl
theorem sepBy_step (sep : ByteArray) (ess : List (List Part)) (k : Nat) (es : List Part) (hk : 0 < k) (h : ess[k]? = some es) : sepBy sep (ess.take (k + 1)) = sepBy sep (ess.take k) ++ ([.lit sep] ++ es) := by
  rw [List.take_add_one, h]
  have hl : k < ess.length := (List.getElem?_eq_some_iff.1 h).1
  exact sepBy_snoc sep (ess.take k) es (fun e => by
    have := congrArg List.length e
    simp only [List.length_take, List.length_nil] at this
    omega)

/-- A finished brace whose block is known. -/
theorem brace_lies2 {w : World} {L : Nat → Prop} {b e cap : Nat} {seq : Bool} {ess : List (List Part)} {xs : List Value} {ys : List Part} (h : PartsAt w L (.iface 76 (ptr b) :: xs) (.brace seq ess :: ys)) (hB : w.heap[b]? = some (.cells #[.bool seq, .slice (some ⟨e, 0, none⟩) ess.length cap] 80 (0, 0))) : Br w L b seq ess e cap := by
  obtain ⟨e', cap', br⟩ := brace_lies h
  have h1 := br.blk
  rw [hB] at h1
  simp only [Option.some.injEq, Obj.cells.injEq, Array.mk.injEq, List.cons.injEq, Value.slice.injEq, Addr.mk.injEq, and_true, true_and] at h1
  obtain ⟨rfl, rfl⟩ := h1
  exact br

/-- The slots of the loop. -/
structure SpA (N p : Nat) (c50 c51 c52 : Value) (lx la jb e n cap i : Nat) (a : Act) : Prop where
  fr : Fr N p c50 c51 c52 lx la jb a
  s374 : a.tmps.getD 374 undef = .slice (some ⟨e, 0, none⟩) n cap
  s375 : a.tmps.getD 375 undef = .int .i64 (n : Int)
  s376 : a.tmps.getD 376 undef = .int .i64 (i : Int)

set_option linter.unusedSimpArgs false in
set_option maxRecDepth 1000000 in
set_option maxHeartbeats 2000000 in
theorem spillA_0 {N p : Nat} {c50 c51 c52 : Value} {lx la jb b e cap : Nat} {a : Act} {ess : List (List Part)} (sf : SpA N p c50 c51 c52 lx la jb e ess.length cap 0 a) {ws w1 : World} {T : St} {xs : List Value} {ys : List Part} {seq : Bool} (hs : Sb N T (.iface 76 (.pointer (some ⟨b, 0, none⟩)) :: xs) (.brace seq ess :: ys) w1) (hk : Still N ws w1) (hB : w1.heap[b]? = some (.cells #[.bool seq, .slice (some ⟨e, 0, none⟩) ess.length cap] 80 (0, 0))) {es : List Part} (he : ess[0]? = some es) (hlen : T.cur.length + es.length ≤ 100000000) (hn : ess.length ≤ 100000000) (Q0 : Exit → Act → World → Prop) :
    Code.wp Tryd.prog (bodyOf 4) (Exit.then (fun a' w' => SpA N p c50 c51 c52 lx la jb e ess.length cap (0 + 1) a' ∧ Sb N (T.push es) (.iface 76 (.pointer (some ⟨b, 0, none⟩)) :: xs) (.brace seq ess :: ys) w' ∧ Still N ws w' ∧ w'.heap[b]? = some (.cells #[.bool seq, .slice (some ⟨e, 0, none⟩) ess.length cap] 80 (0, 0))) Q0) a w1 := by
  obtain ⟨fr, g374, g375, g376⟩ := sf
  obtain ⟨f, hf, ht⟩ := frame_lit a.tmps fr.size
  obtain ⟨t, d⟩ := a
  have hd : d = [] := fr.defers
  subst hd
  have h0 := (hf 0).trans fr.s0
  have h2 := (hf 2).trans fr.s2
  have h3 := (hf 3).trans fr.s3
  have h4 := (hf 4).trans fr.s4
  have h5 := (hf 5).trans fr.s5
  have h6 := (hf 6).trans fr.s6
  have h7 := (hf 7).trans fr.s7
  have h8 := (hf 8).trans fr.s8
  have h11 := (hf 11).trans fr.s11
  have h13 := (hf 13).trans fr.s13
  have h14 := (hf 14).trans fr.s14
  have h50 := (hf 50).trans fr.s50
  have h51 := (hf 51).trans fr.s51
  have h52 := (hf 52).trans fr.s52
  replace g374 := (hf 374).trans g374
  replace g375 := (hf 375).trans g375
  replace g376 := (hf 376).trans g376
  simp only [h0, h2, h3, h4, h5, h6, h7, h8, h11, h13, h14, h50, h51, h52, g374, g375, g376] at ht
  have ht2 : t = _ := ht
  subst ht2
  clear hf ht fr h0 h2 h3 h4 h5 h6 h7 h8 h11 h13 h14 h50 h51 h52 g374 g375 g376
  have hlt : 0 < ess.length := (List.getElem?_eq_some_iff.1 he).1
  obtain ⟨p0, ce, hpe⟩ : ∃ p0, w1.cell? ⟨e, 0, none⟩ = some (.pointer (some ⟨p0, 0, none⟩)) ∧ ∃ c, w1.heap[e]? = some (.cells c 38 (0, 0)) := by
    obtain ⟨hs, hsb, hst, hxy⟩ := hs
    have br := brace_lies2 hxy hB
    obtain ⟨p, v, vals, h1, _⟩ := br.elt 0 es he
    exact ⟨p, h1, br.ety⟩
  have hz : (0 : Int) < (ess.length : Int) ∧ (ess.length : Int) ≤ 100000000 := by omega
  obtain ⟨ib, hib, hb0, hb1, hb2⟩ := info_parts Tryd.info_part
  have HM1 := Lib.hid (show Sb N T (.iface 76 (.pointer (some ⟨b, 0, none⟩)) :: xs) (.brace seq ess :: ys) w1 ∧ Still N ws w1 ∧ KeepB w1 w1 from ⟨hs, hk, KeepB.refl _⟩)
  have HB := Lib.hid hB
  have HE := Lib.hid he
  have HCE := Lib.hid (And.intro ce hpe)
  have HLN := Lib.hid hlen
  clear hs hk hB he hpe hlen hlt hn
  conv => arg 2; whnf
  unfold ptr
  obtain ⟨hs, hsb, hst, hxy⟩ := HM1.out.1
  have ha := hsb.words _ (acc_mem hs)
  obtain ⟨ac, hac⟩ : ∃ ac, hs.acc = ac := ⟨_, rfl⟩
  rw [hac] at ha
  have cb2 : w1.cell? ⟨N + 2, 0, none⟩ = some (.pointer (some ⟨ac.blk, 0, none⟩)) := by rw [Lib.cell_of_heap hsb.b2, hac]; rfl
  have cac : w1.cell? ⟨ac.blk, 0, none⟩ = some ac.v := by rw [Lib.cell_of_heap ha.blk]; rfl
  have sac : ac.blk < w1.heap.size := (Array.getElem?_eq_some_iff.1 ha.blk).1
  have hN7 := hsb.lt
  have hcl : ac.vals.length = (T).cur.length := by rw [← hst, st_cur, ← hac]; exact (hsb.words _ (acc_mem hs)).parts.length
  have HA := Lib.hid (And.intro hsb (And.intro hxy (And.intro hac (And.intro ha hst))))
  have br := brace_lies2 hxy HB.out
  obtain ⟨p9, v0, vals0, ce9, hp0, hrow, hpar⟩ := br.elt 0 es HE.out
  have hp9 : p9 = p0 := by
    obtain ⟨cc, hcc⟩ := HCE.out.2
    have h1 := HCE.out.1
    rw [Lib.cell_of_heap hcc] at h1
    rw [Lib.cell_of_heap hcc] at ce9
    rw [h1] at ce9
    simp only [Option.some.injEq, Value.pointer.injEq, Addr.mk.injEq, and_true] at ce9
    exact ce9.symm
  subst hp9
  have c0 : w1.cell? ⟨p9, 0, none⟩ = some v0 := by rw [Lib.cell_of_heap hp0]; rfl
  have HBR := Lib.hid (And.intro br hp0)
  have HNW := Lib.hid (show News w1.drew v0 vals0.length vals0 from hrow.news)
  have HAL := Lib.hid (show ac.vals.length + vals0.length ≤ 100000000 by
    rw [hcl, hpar.length]
    have := HLN.out
    omega)
  have HEL := Lib.hid hpar
  clear hsb hxy ha hcl hst br hac ce9 hp0 hrow hpar
  go_upto_region 92 with fail
  refine region_anyE (fun w' => w'.cell? ⟨N + 2, 0, none⟩ = some (.pointer (some ⟨ac.blk, 0, none⟩)) ∧ w'.cell? ⟨ac.blk, 0, none⟩ = some ac.v ∧ w'.cell? ⟨p9, 0, none⟩ = some (v0)) 12 (by kernel_rfl) ?_ (fun hS hC => ?_)
  · (try dsimp only); go_keep
  refine anyE_take (i := 0) (v := ?_) [0] (by kernel_rfl) rfl (fun _ _ _ h => h) (by rfl) ?_ hC hS ?_
  rotate_left
  · intro w hSw
    (try dsimp only at hSw)
    go_simp
    (try with_reducible rfl)
  clear hC
  intro hC
  try simp only [Act.put, List.setIfInBounds_toArray, List.set_cons_zero, List.set_cons_succ]
  refine anyE_take (i := 1) (v := ?_) [1] (by kernel_rfl) rfl (fun _ _ _ h => h) (by rfl) ?_ hC hS ?_
  rotate_left
  · intro w hSw
    (try dsimp only at hSw)
    go_simp
    (try with_reducible rfl)
  clear hC
  intro hC
  try simp only [Act.put, List.setIfInBounds_toArray, List.set_cons_zero, List.set_cons_succ]
  refine anyE_take (i := 2) (v := ?_) [2] (by kernel_rfl) rfl (fun _ _ _ h => h) (by rfl) ?_ hC hS ?_
  rotate_left
  · intro w hSw
    (try dsimp only at hSw)
    go_simp
    (try with_reducible rfl)
  clear hC
  intro hC
  try simp only [Act.put, List.setIfInBounds_toArray, List.set_cons_zero, List.set_cons_succ]
  refine anyE_take (i := 3) (v := ?_) [3] (by kernel_rfl) rfl (fun _ _ _ h => h) (by rfl) ?_ hC hS ?_
  rotate_left
  · intro w hSw
    (try dsimp only at hSw)
    go_simp
    (try with_reducible rfl)
  clear hC
  intro hC
  try simp only [Act.put, List.setIfInBounds_toArray, List.set_cons_zero, List.set_cons_succ]
  refine anyE_take (i := 4) (v := ?_) [4] (by kernel_rfl) rfl (fun _ _ _ h => h) (by rfl) ?_ hC hS ?_
  rotate_left
  · intro w hSw
    (try dsimp only at hSw)
    go_simp
    (try with_reducible rfl)
  clear hC
  intro hC
  try simp only [Act.put, List.setIfInBounds_toArray, List.set_cons_zero, List.set_cons_succ]
  refine anyE_take (i := 5) (v := ?_) [5] (by kernel_rfl) rfl (fun _ _ _ h => h) (by rfl) ?_ hC hS ?_
  rotate_left
  · intro w hSw
    (try dsimp only at hSw)
    go_simp
    (try with_reducible rfl)
  clear hC
  intro hC
  try simp only [Act.put, List.setIfInBounds_toArray, List.set_cons_zero, List.set_cons_succ]
  refine anyE_take (i := 6) (v := ?_) [6] (by kernel_rfl) rfl (fun _ _ _ h => h) (by rfl) ?_ hC hS ?_
  rotate_left
  · intro w hSw
    (try dsimp only at hSw)
    go_simp
    (try with_reducible rfl)
  clear hC
  intro hC
  try simp only [Act.put, List.setIfInBounds_toArray, List.set_cons_zero, List.set_cons_succ]
  refine anyE_take (i := 7) (v := ?_) [7] (by kernel_rfl) rfl (fun _ _ _ h => h) (by rfl) ?_ hC hS ?_
  rotate_left
  · intro w hSw
    (try dsimp only at hSw)
    go_simp
    (try with_reducible rfl)
  clear hC
  intro hC
  try simp only [Act.put, List.setIfInBounds_toArray, List.set_cons_zero, List.set_cons_succ]
  refine anyE_take (i := 8) (v := ?_) [8] (by kernel_rfl) rfl (fun _ _ _ h => h) (by rfl) ?_ hC hS ?_
  rotate_left
  · intro w hSw
    (try dsimp only at hSw)
    go_simp
    (try with_reducible rfl)
  clear hC
  intro hC
  try simp only [Act.put, List.setIfInBounds_toArray, List.set_cons_zero, List.set_cons_succ]
  refine anyE_one (i := 9) (by kernel_rfl) hC rfl (fun K hK => ?_)
  clear hC
  (refine step_append_row _ (by rfl) _ _ 31 (by rfl) (N + 6) 72 ib .nilIface 16 Tryd.underlying31 hib hb0 hb1 hb2 rfl ac.v ac.vals.length ac.vals (by rfl) HA.out.2.2.2.1.own.drew v0 vals0.length vals0 (by rfl) HNW.out rfl HEL.out.one (by have := HAL.out; unfold maxLen; omega) (by have := HAL.out; omega) (by show N + 6 ≤ w1.heap.size; omega) ?_; intro v8 wb hown8 hgrow8 hat8; obtain ⟨s8, n8, c8, rfl⟩ := own_slice hown8; have hc8 : wb.heap[ac.blk]? = some (.cells #[ac.v] 40 (0, 0)) := HA.out.2.2.2.1.grown (W := w1.drew) (fun _ _ => rfl) (Nat.le_refl _) hgrow8; have hb8 : wb.heap[N + 2]? = some (.cells #[ptr ac.blk] 38 (0, 0)) := HA.out.2.2.2.1.box (W := w1.drew) (fun _ _ => rfl) (Nat.le_refl _) hgrow8 (by omega) (by rw [← HA.out.2.2.1]; exact HA.out.1.b2); have y1 : wb.cell? ⟨ac.blk, 0, none⟩ = some ac.v := (Lib.cell_of_heap hc8 0).trans rfl; have y2 : wb.frozen? ⟨ac.blk, 0, none⟩ = false := Lib.frozen_of_heap hc8 0; have y3 : wb.cell? ⟨N + 2, 0, none⟩ = some (.pointer (some ⟨ac.blk, 0, none⟩)) := (Lib.cell_of_heap hb8 0).trans rfl; have l0 : wb.cell? ⟨p9, 0, none⟩ = some (v0) := ((cell_grown hgrow8 (HBR.out.2) HA.out.2.2.2.1.own.drew (by decide) 0)).trans c0; have H8 := Lib.hid (And.intro hown8 (And.intro hgrow8 hat8)); clear hown8 hgrow8 hat8 hc8 hb8)
  refine hK.out _ _ ?_ ?_
  · (try dsimp only); exact ⟨y3, y1, l0⟩
  clear hS
  intro hS hC
  clear hK K
  try simp only [Act.put, List.setIfInBounds_toArray, List.set_cons_zero, List.set_cons_succ]
  refine anyE_take (i := 10) (v := ?_) [11, 10] (by kernel_rfl) rfl (fun _ _ _ h => h) (by rfl) ?_ hC hS ?_
  rotate_left
  · intro w hSw
    (try dsimp only at hSw)
    go_simp
    (try with_reducible rfl)
  clear hC
  intro hC
  try simp only [Act.put, List.setIfInBounds_toArray, List.set_cons_zero, List.set_cons_succ]
  refine anyE_take (i := 11) (v := ?_) [11] (by kernel_rfl) rfl (fun _ _ _ h => h) (by rfl) ?_ hC hS ?_
  rotate_left
  · intro w hSw
    (try dsimp only at hSw)
    go_simp
    (try with_reducible rfl)
  clear hC
  intro hC
  try simp only [Act.put, List.setIfInBounds_toArray, List.set_cons_zero, List.set_cons_succ]
  refine anyE_last (by kernel_rfl) rfl (by kernel_rfl) (fun K hK => ?_)
  clear hC
  go_simp
  refine hK.out _ _ ?_
  clear hK K hS
  refine NoPanic.normal ?_
  try simp only [Act.put, List.setIfInBounds_toArray, List.set_cons_zero, List.set_cons_succ]
  obtain ⟨e8, s8, kb8⟩ := HA.out.1.row_end2 (W := w1.drew) HA.out.2.2.1 (us := vals0) HEL.out HA.out.2.1 ((Below.refl w1.heap.size w1).drew) H8.out.1 H8.out.2.1 H8.out.2.2
  rw [HA.out.2.2.2.2] at e8
  have HM2 := Lib.hid (And.intro e8 (And.intro (HM1.out.2.1.trans s8) (HM1.out.2.2.trans kb8)))
  clear kb8
  clear y1 y2 y3 H8 e8 s8 l0 c0 cb2 cac sac HA HAL HNW HEL
  generalize wb.setCell ⟨ac.blk, 0, none⟩ (.slice s8 n8 c8) = w2 at *
  go_wp2_with fail
  exact ⟨⟨⟨rfl, rfl, rfl, rfl, rfl, rfl, rfl, rfl, rfl, rfl, rfl, rfl, rfl, rfl, rfl, rfl⟩, rfl, rfl, rfl⟩, HM2.out.1, HM2.out.2.1, HM2.out.2.2 _ _ _ _ HB.out (by decide) (by decide)⟩

set_option linter.unusedSimpArgs false in
set_option maxRecDepth 1000000 in
set_option maxHeartbeats 2000000 in
theorem spillA_S {N p : Nat} {c50 c51 c52 : Value} {lx la jb b e cap i : Nat} {a : Act} {ess : List (List Part)} (sf : SpA N p c50 c51 c52 lx la jb e ess.length cap i a) {ws w1 : World} {T : St} {xs : List Value} {ys : List Part} {seq : Bool} (hs : Sb N T (.iface 76 (.pointer (some ⟨b, 0, none⟩)) :: xs) (.brace seq ess :: ys) w1) (hk : Still N ws w1) (hB : w1.heap[b]? = some (.cells #[.bool seq, .slice (some ⟨e, 0, none⟩) ess.length cap] 80 (0, 0))) {es : List Part} (he : ess[i]? = some es) (hi : 0 < i) (hlen : T.cur.length + 1 + es.length ≤ 100000000) (hn : ess.length ≤ 100000000) (Q0 : Exit → Act → World → Prop) :
    Code.wp Tryd.prog (bodyOf 4) (Exit.then (fun a' w' => SpA N p c50 c51 c52 lx la jb e ess.length cap (i + 1) a' ∧ Sb N ((T.push [.lit dots]).push es) (.iface 76 (.pointer (some ⟨b, 0, none⟩)) :: xs) (.brace seq ess :: ys) w' ∧ Still N ws w' ∧ w'.heap[b]? = some (.cells #[.bool seq, .slice (some ⟨e, 0, none⟩) ess.length cap] 80 (0, 0))) Q0) a w1 := by
  obtain ⟨fr, g374, g375, g376⟩ := sf
  obtain ⟨f, hf, ht⟩ := frame_lit a.tmps fr.size
  obtain ⟨t, d⟩ := a
  have hd : d = [] := fr.defers
  subst hd
  have h0 := (hf 0).trans fr.s0
  have h2 := (hf 2).trans fr.s2
  have h3 := (hf 3).trans fr.s3
  have h4 := (hf 4).trans fr.s4
  have h5 := (hf 5).trans fr.s5
  have h6 := (hf 6).trans fr.s6
  have h7 := (hf 7).trans fr.s7
  have h8 := (hf 8).trans fr.s8
  have h11 := (hf 11).trans fr.s11
  have h13 := (hf 13).trans fr.s13
  have h14 := (hf 14).trans fr.s14
  have h50 := (hf 50).trans fr.s50
  have h51 := (hf 51).trans fr.s51
  have h52 := (hf 52).trans fr.s52
  replace g374 := (hf 374).trans g374
  replace g375 := (hf 375).trans g375
  replace g376 := (hf 376).trans g376
  simp only [h0, h2, h3, h4, h5, h6, h7, h8, h11, h13, h14, h50, h51, h52, g374, g375, g376] at ht
  have ht2 : t = _ := ht
  subst ht2
  clear hf ht fr h0 h2 h3 h4 h5 h6 h7 h8 h11 h13 h14 h50 h51 h52 g374 g375 g376
  have hlt : i < ess.length := (List.getElem?_eq_some_iff.1 he).1
  obtain ⟨p0, ce, hpe⟩ : ∃ p0, w1.cell? ⟨e, i, none⟩ = some (.pointer (some ⟨p0, 0, none⟩)) ∧ ∃ c, w1.heap[e]? = some (.cells c 38 (0, 0)) := by
    obtain ⟨hs, hsb, hst, hxy⟩ := hs
    have br := brace_lies2 hxy hB
    obtain ⟨p, v, vals, h1, _⟩ := br.elt i es he
    exact ⟨p, h1, br.ety⟩
  have hz : ((i : Int) : Int) < (ess.length : Int) ∧ (ess.length : Int) ≤ 100000000 := by omega
  have hi0 : (0 : Int) < (i : Int) := by omega
  obtain ⟨ib, hib, hb0, hb1, hb2⟩ := info_parts Tryd.info_part
  have HM1 := Lib.hid (show Sb N T (.iface 76 (.pointer (some ⟨b, 0, none⟩)) :: xs) (.brace seq ess :: ys) w1 ∧ Still N ws w1 ∧ KeepB w1 w1 from ⟨hs, hk, KeepB.refl _⟩)
  have HB := Lib.hid hB
  have HE := Lib.hid he
  have HCE := Lib.hid (And.intro ce hpe)
  have HLN := Lib.hid hlen
  clear hs hk hB he hpe hlen hlt hn hi
  conv => arg 2; whnf
  unfold ptr
  have cN1 : w1.cell? ⟨N + 5, 0, none⟩ = some (.func (.func 25) #[] #[.pointer (some ⟨N + 2, 0, none⟩)]) := by rw [Lib.cell_of_heap HM1.out.1.b5]; rfl
  have lN1 : N + 5 < w1.heap.size := HM1.out.1.lt
  have HLN1 := Lib.hid lN1
  clear lN1
  go_upto_region 91 with fail
  refine region_anyE (fun w' => w'.cell? ⟨N + 5, 0, none⟩ = some (.func (.func 25) #[] #[.pointer (some ⟨N + 2, 0, none⟩)])) 2 (by kernel_rfl) ?_ (fun hS hC => ?_)
  · (try dsimp only); go_keep
  refine anyE_take (i := 0) (v := ?_) [0] (by kernel_rfl) rfl (fun _ _ _ h => h) (by rfl) ?_ hC hS ?_
  rotate_left
  · intro w hSw
    (try dsimp only at hSw)
    go_simp
    (try with_reducible rfl)
  clear hC
  intro hC
  try simp only [Act.put, List.setIfInBounds_toArray, List.set_cons_zero, List.set_cons_succ]
  refine anyE_one (i := 1) (by kernel_rfl) hC rfl (fun K hK => ?_)
  clear hC
  go_simp
  (refine (dots_any _).mono ?_; rintro e1 wa1 ⟨q1, rfl, hq1, hb1⟩; have hb2 : Below w1.heap.size w1 wa1 := ((Below.refl w1.heap.size w1).drew).trans hb1; have cNa1 : wa1.cell? ⟨N + 5, 0, none⟩ = some (.func (.func 25) #[] #[.pointer (some ⟨N + 2, 0, none⟩)]) := (hb2.cell (p := ⟨N + 5, 0, none⟩) HLN1.out).trans cN1; have HQ1 := Lib.hid (And.intro hq1 hb2); clear hq1 hb1 hb2; unfold ptr)
  refine hK.out _ _ ?_ ?_
  · (try dsimp only); exact cNa1
  clear hS
  intro hS hC
  clear hK K
  try simp only [Act.put, List.setIfInBounds_toArray, List.set_cons_zero, List.set_cons_succ]
  refine anyE_last (by kernel_rfl) rfl (by kernel_rfl) (fun K hK => ?_)
  clear hC
  go_simp
  (go_at_call 25; refine (addLit_any2 N T (.iface 76 (.pointer (some ⟨b, 0, none⟩)) :: xs) (.brace seq ess :: ys) wa1 q1 dots (HM1.out.1.below HQ1.out.2) HQ1.out.1 (by have := HLN.out; omega)).mono ?_; rintro e2 w2 ⟨rfl, h9, s9, kb9⟩)
  refine hK.out _ _ ?_
  clear hK K hS
  refine NoPanic.normal ?_
  try simp only [Act.put, List.setIfInBounds_toArray, List.set_cons_zero, List.set_cons_succ]
  have HM2 := Lib.hid (And.intro h9 (And.intro (HM1.out.2.1.trans ((Still.of_below HQ1.out.2 (by have := HLN1.out; omega)).trans s9)) (HM1.out.2.2.trans ((KeepB.of_below HQ1.out.2).trans kb9))))
  clear cN1 cNa1 HQ1 HLN1 h9 s9 kb9
  clear ce hi0
  obtain ⟨hs, hsb, hst, hxy⟩ := HM2.out.1
  have ha := hsb.words _ (acc_mem hs)
  obtain ⟨ac, hac⟩ : ∃ ac, hs.acc = ac := ⟨_, rfl⟩
  rw [hac] at ha
  have cb2 : w2.cell? ⟨N + 2, 0, none⟩ = some (.pointer (some ⟨ac.blk, 0, none⟩)) := by rw [Lib.cell_of_heap hsb.b2, hac]; rfl
  have cac : w2.cell? ⟨ac.blk, 0, none⟩ = some ac.v := by rw [Lib.cell_of_heap ha.blk]; rfl
  have sac : ac.blk < w2.heap.size := (Array.getElem?_eq_some_iff.1 ha.blk).1
  have hN7 := hsb.lt
  have hcl : ac.vals.length = ((T.push [.lit dots])).cur.length := by rw [← hst, st_cur, ← hac]; exact (hsb.words _ (acc_mem hs)).parts.length
  have HA := Lib.hid (And.intro hsb (And.intro hxy (And.intro hac (And.intro ha hst))))
  have hkb := HM2.out.2.2
  have br := brace_lies2 hxy (hkb _ _ _ _ HB.out (by decide) (by decide))
  obtain ⟨p9, v0, vals0, ce9, hp0, hrow, hpar⟩ := br.elt i es HE.out
  have hp9 : p9 = p0 := by
    obtain ⟨cc, hcc⟩ := HCE.out.2
    have h1 := HCE.out.1
    rw [Lib.cell_of_heap hcc] at h1
    rw [Lib.cell_of_heap (hkb _ _ _ _ hcc (by decide) (by decide))] at ce9
    rw [h1] at ce9
    simp only [Option.some.injEq, Value.pointer.injEq, Addr.mk.injEq, and_true] at ce9
    exact ce9.symm
  subst hp9
  have c0 : w2.cell? ⟨p9, 0, none⟩ = some v0 := by rw [Lib.cell_of_heap hp0]; rfl
  have HBR := Lib.hid (And.intro br hp0)
  have HNW := Lib.hid (show News w2.drew v0 vals0.length vals0 from hrow.news)
  have HAL := Lib.hid (show ac.vals.length + vals0.length ≤ 100000000 by
    rw [hcl, hpar.length, cur_push]
    simp only [List.length_append, List.length_cons, List.length_nil]
    have := HLN.out
    omega)
  have HEL := Lib.hid hpar
  clear hsb hxy ha hcl hst br hac ce9 hp0 hrow hpar hkb
  go_upto_region 92 with fail
  refine region_anyE (fun w' => w'.cell? ⟨N + 2, 0, none⟩ = some (.pointer (some ⟨ac.blk, 0, none⟩)) ∧ w'.cell? ⟨ac.blk, 0, none⟩ = some ac.v ∧ w'.cell? ⟨p9, 0, none⟩ = some (v0)) 12 (by kernel_rfl) ?_ (fun hS hC => ?_)
  · (try dsimp only); go_keep
  refine anyE_take (i := 0) (v := ?_) [0] (by kernel_rfl) rfl (fun _ _ _ h => h) (by rfl) ?_ hC hS ?_
  rotate_left
  · intro w hSw
    (try dsimp only at hSw)
    go_simp
    (try with_reducible rfl)
  clear hC
  intro hC
  try simp only [Act.put, List.setIfInBounds_toArray, List.set_cons_zero, List.set_cons_succ]
  refine anyE_take (i := 1) (v := ?_) [1] (by kernel_rfl) rfl (fun _ _ _ h => h) (by rfl) ?_ hC hS ?_
  rotate_left
  · intro w hSw
    (try dsimp only at hSw)
    go_simp
    (try with_reducible rfl)
  clear hC
  intro hC
  try simp only [Act.put, List.setIfInBounds_toArray, List.set_cons_zero, List.set_cons_succ]
  refine anyE_take (i := 2) (v := ?_) [2] (by kernel_rfl) rfl (fun _ _ _ h => h) (by rfl) ?_ hC hS ?_
  rotate_left
  · intro w hSw
    (try dsimp only at hSw)
    go_simp
    (try with_reducible rfl)
  clear hC
  intro hC
  try simp only [Act.put, List.setIfInBounds_toArray, List.set_cons_zero, List.set_cons_succ]
  refine anyE_take (i := 3) (v := ?_) [3] (by kernel_rfl) rfl (fun _ _ _ h => h) (by rfl) ?_ hC hS ?_
  rotate_left
  · intro w hSw
    (try dsimp only at hSw)
    go_simp
    (try with_reducible rfl)
  clear hC
  intro hC
  try simp only [Act.put, List.setIfInBounds_toArray, List.set_cons_zero, List.set_cons_succ]
  refine anyE_take (i := 4) (v := ?_) [4] (by kernel_rfl) rfl (fun _ _ _ h => h) (by rfl) ?_ hC hS ?_
  rotate_left
  · intro w hSw
    (try dsimp only at hSw)
    go_simp
    (try with_reducible rfl)
  clear hC
  intro hC
  try simp only [Act.put, List.setIfInBounds_toArray, List.set_cons_zero, List.set_cons_succ]
  refine anyE_take (i := 5) (v := ?_) [5] (by kernel_rfl) rfl (fun _ _ _ h => h) (by rfl) ?_ hC hS ?_
  rotate_left
  · intro w hSw
    (try dsimp only at hSw)
    go_simp
    (try with_reducible rfl)
  clear hC
  intro hC
  try simp only [Act.put, List.setIfInBounds_toArray, List.set_cons_zero, List.set_cons_succ]
  refine anyE_take (i := 6) (v := ?_) [6] (by kernel_rfl) rfl (fun _ _ _ h => h) (by rfl) ?_ hC hS ?_
  rotate_left
  · intro w hSw
    (try dsimp only at hSw)
    go_simp
    (try with_reducible rfl)
  clear hC
  intro hC
  try simp only [Act.put, List.setIfInBounds_toArray, List.set_cons_zero, List.set_cons_succ]
  refine anyE_take (i := 7) (v := ?_) [7] (by kernel_rfl) rfl (fun _ _ _ h => h) (by rfl) ?_ hC hS ?_
  rotate_left
  · intro w hSw
    (try dsimp only at hSw)
    go_simp
    (try with_reducible rfl)
  clear hC
  intro hC
  try simp only [Act.put, List.setIfInBounds_toArray, List.set_cons_zero, List.set_cons_succ]
  refine anyE_take (i := 8) (v := ?_) [8] (by kernel_rfl) rfl (fun _ _ _ h => h) (by rfl) ?_ hC hS ?_
  rotate_left
  · intro w hSw
    (try dsimp only at hSw)
    go_simp
    (try with_reducible rfl)
  clear hC
  intro hC
  try simp only [Act.put, List.setIfInBounds_toArray, List.set_cons_zero, List.set_cons_succ]
  refine anyE_one (i := 9) (by kernel_rfl) hC rfl (fun K hK => ?_)
  clear hC
  (refine step_append_row _ (by rfl) _ _ 31 (by rfl) (N + 6) 72 ib .nilIface 16 Tryd.underlying31 hib hb0 hb1 hb2 rfl ac.v ac.vals.length ac.vals (by rfl) HA.out.2.2.2.1.own.drew v0 vals0.length vals0 (by rfl) HNW.out rfl HEL.out.one (by have := HAL.out; unfold maxLen; omega) (by have := HAL.out; omega) (by show N + 6 ≤ w2.heap.size; omega) ?_; intro v8 wb hown8 hgrow8 hat8; obtain ⟨s8, n8, c8, rfl⟩ := own_slice hown8; have hc8 : wb.heap[ac.blk]? = some (.cells #[ac.v] 40 (0, 0)) := HA.out.2.2.2.1.grown (W := w2.drew) (fun _ _ => rfl) (Nat.le_refl _) hgrow8; have hb8 : wb.heap[N + 2]? = some (.cells #[ptr ac.blk] 38 (0, 0)) := HA.out.2.2.2.1.box (W := w2.drew) (fun _ _ => rfl) (Nat.le_refl _) hgrow8 (by omega) (by rw [← HA.out.2.2.1]; exact HA.out.1.b2); have y1 : wb.cell? ⟨ac.blk, 0, none⟩ = some ac.v := (Lib.cell_of_heap hc8 0).trans rfl; have y2 : wb.frozen? ⟨ac.blk, 0, none⟩ = false := Lib.frozen_of_heap hc8 0; have y3 : wb.cell? ⟨N + 2, 0, none⟩ = some (.pointer (some ⟨ac.blk, 0, none⟩)) := (Lib.cell_of_heap hb8 0).trans rfl; have l0 : wb.cell? ⟨p9, 0, none⟩ = some (v0) := ((cell_grown hgrow8 (HBR.out.2) HA.out.2.2.2.1.own.drew (by decide) 0)).trans c0; have H8 := Lib.hid (And.intro hown8 (And.intro hgrow8 hat8)); clear hown8 hgrow8 hat8 hc8 hb8)
  refine hK.out _ _ ?_ ?_
  · (try dsimp only); exact ⟨y3, y1, l0⟩
  clear hS
  intro hS hC
  clear hK K
  try simp only [Act.put, List.setIfInBounds_toArray, List.set_cons_zero, List.set_cons_succ]
  refine anyE_take (i := 10) (v := ?_) [11, 10] (by kernel_rfl) rfl (fun _ _ _ h => h) (by rfl) ?_ hC hS ?_
  rotate_left
  · intro w hSw
    (try dsimp only at hSw)
    go_simp
    (try with_reducible rfl)
  clear hC
  intro hC
  try simp only [Act.put, List.setIfInBounds_toArray, List.set_cons_zero, List.set_cons_succ]
  refine anyE_take (i := 11) (v := ?_) [11] (by kernel_rfl) rfl (fun _ _ _ h => h) (by rfl) ?_ hC hS ?_
  rotate_left
  · intro w hSw
    (try dsimp only at hSw)
    go_simp
    (try with_reducible rfl)
  clear hC
  intro hC
  try simp only [Act.put, List.setIfInBounds_toArray, List.set_cons_zero, List.set_cons_succ]
  refine anyE_last (by kernel_rfl) rfl (by kernel_rfl) (fun K hK => ?_)
  clear hC
  go_simp
  refine hK.out _ _ ?_
  clear hK K hS
  refine NoPanic.normal ?_
  try simp only [Act.put, List.setIfInBounds_toArray, List.set_cons_zero, List.set_cons_succ]
  obtain ⟨e8, s8, kb8⟩ := HA.out.1.row_end2 (W := w2.drew) HA.out.2.2.1 (us := vals0) HEL.out HA.out.2.1 ((Below.refl w2.heap.size w2).drew) H8.out.1 H8.out.2.1 H8.out.2.2
  rw [HA.out.2.2.2.2] at e8
  have HM3 := Lib.hid (And.intro e8 (And.intro (HM2.out.2.1.trans s8) (HM2.out.2.2.trans kb8)))
  clear kb8
  clear y1 y2 y3 H8 e8 s8 l0 c0 cb2 cac sac HA HAL HNW HEL
  generalize wb.setCell ⟨ac.blk, 0, none⟩ (.slice s8 n8 c8) = w3 at *
  go_wp2_with fail
  exact ⟨⟨⟨rfl, rfl, rfl, rfl, rfl, rfl, rfl, rfl, rfl, rfl, rfl, rfl, rfl, rfl, rfl, rfl⟩, rfl, rfl, rfl⟩, HM3.out.1, HM3.out.2.1, HM3.out.2.2 _ _ _ _ HB.out (by decide) (by decide)⟩

set_option maxRecDepth 1000000 in
set_option maxHeartbeats 2000000 in
theorem spillA_exit {N p : Nat} {c50 c51 c52 : Value} {lx la jb e n cap : Nat} {a : Act} (sf : SpA N p c50 c51 c52 lx la jb e n cap n a) (hn : n ≤ 100000000) {w : World} (Q : Exit → Act → World → Prop) (hQ : ∀ a', SpA N p c50 c51 c52 lx la jb e n cap n a' → Q (.exit 9) a' w) :
    Code.wp Tryd.prog (bodyOf 4) Q a w := by
  obtain ⟨fr, g374, g375, g376⟩ := sf
  obtain ⟨f, hf, ht⟩ := frame_lit a.tmps fr.size
  obtain ⟨t, d⟩ := a
  have hd : d = [] := fr.defers
  subst hd
  have h0 := (hf 0).trans fr.s0
  have h2 := (hf 2).trans fr.s2
  have h3 := (hf 3).trans fr.s3
  have h4 := (hf 4).trans fr.s4
  have h5 := (hf 5).trans fr.s5
  have h6 := (hf 6).trans fr.s6
  have h7 := (hf 7).trans fr.s7
  have h8 := (hf 8).trans fr.s8
  have h11 := (hf 11).trans fr.s11
  have h13 := (hf 13).trans fr.s13
  have h14 := (hf 14).trans fr.s14
  have h50 := (hf 50).trans fr.s50
  have h51 := (hf 51).trans fr.s51
  have h52 := (hf 52).trans fr.s52
  replace g374 := (hf 374).trans g374
  replace g375 := (hf 375).trans g375
  replace g376 := (hf 376).trans g376
  simp only [h0, h2, h3, h4, h5, h6, h7, h8, h11, h13, h14, h50, h51, h52, g374, g375, g376] at ht
  have ht2 : t = _ := ht
  subst ht2
  clear hf ht fr h0 h2 h3 h4 h5 h6 h7 h8 h11 h13 h14 h50 h51 h52 g374 g375 g376
  have hz : (n : Int) ≤ 100000000 := by omega
  conv => arg 2; whnf
  unfold ptr
  go_wp2_with fail
  exact ⟨⟨rfl, rfl, rfl, rfl, rfl, rfl, rfl, rfl, rfl, rfl, rfl, rfl, rfl, rfl, rfl, rfl⟩, rfl, rfl, rfl⟩

theorem spillA_loop {N p : Nat} {c50 c51 c52 : Value} {lx la jb b e cap : Nat} {a : Act} {ess : List (List Part)} (sf : SpA N p c50 c51 c52 lx la jb e ess.length cap 0 a) {w : World} {T : St} {xs : List Value} {ys : List Part} {seq : Bool} (hs : Sb N T (.iface 76 (.pointer (some ⟨b, 0, none⟩)) :: xs) (.brace seq ess :: ys) w) (hB : w.heap[b]? = some (.cells #[.bool seq, .slice (some ⟨e, 0, none⟩) ess.length cap] 80 (0, 0))) (hlen : T.cur.length + (sepBy dots ess).length ≤ 100000000) (hn : ess.length ≤ 100000000) (Q : Exit → Act → World → Prop)
    (hQ : ∀ a' w', SpA N p c50 c51 c52 lx la jb e ess.length cap ess.length a' → Sb N (T.push (sepBy dots ess)) (.iface 76 (.pointer (some ⟨b, 0, none⟩)) :: xs) (.brace seq ess :: ys) w' → Still N w w' → Q (.exit 9) a' w') :
    Code.wp Tryd.prog (Code.loop (bodyOf 4)) Q a w := by
  refine wp_loop_ghost (fun n a' w' => ∃ i, i ≤ ess.length ∧ n = ess.length - i ∧ SpA N p c50 c51 c52 lx la jb e ess.length cap i a' ∧ Sb N (T.push (sepBy dots (ess.take i))) (.iface 76 (.pointer (some ⟨b, 0, none⟩)) :: xs) (.brace seq ess :: ys) w' ∧ Still N w w' ∧ w'.heap[b]? = some (.cells #[.bool seq, .slice (some ⟨e, 0, none⟩) ess.length cap] 80 (0, 0))) ess.length ⟨0, Nat.zero_le _, rfl, sf, by
    have e0 : T.push (sepBy dots (ess.take 0)) = T := by
      obtain ⟨top, stack⟩ := T
      cases stack <;> simp [St.push, sepBy]
    rw [e0]
    exact hs, Still.refl _ _, hB⟩ ?_
  rintro n a1 w1 ⟨i, hi, rfl, sf1, hs1, hk1, hB1⟩
  by_cases hlt : i < ess.length
  · obtain ⟨es, he⟩ : ∃ es, ess[i]? = some es := ⟨ess[i], List.getElem?_eq_getElem hlt⟩
    have hl2 := sepBy_take_len dots ess (i + 1)
    rcases Nat.eq_zero_or_pos i with rfl | hpos
    · rw [sepBy_zero _ _ _ he] at hl2
      have e0 : T.push (sepBy dots (ess.take 0)) = T := by
        obtain ⟨top, stack⟩ := T
        cases stack <;> simp [St.push, sepBy]
      rw [e0] at hs1
      refine Code.wp_mono ?_ (spillA_0 sf1 hs1 hk1 hB1 he (by omega) hn Q)
      intro ex a' w' hq
      cases ex with
      | normal =>
        refine ⟨ess.length - 1, by omega, 1, hlt, rfl, hq.1, ?_, hq.2.2.1, hq.2.2.2⟩
        have h2 := sepBy_zero dots ess es he
        rw [Nat.zero_add] at h2
        rw [h2]
        exact hq.2.1
      | exit id => exact hq
      | goto l => exact hq
      | ret => exact hq
      | panic ch => exact hq
      | outgrown => exact hq
    · have hst := sepBy_step dots ess i es hpos he
      rw [hst] at hl2
      simp only [List.length_append, List.length_cons, List.length_nil] at hl2
      refine Code.wp_mono ?_ (spillA_S sf1 hs1 hk1 hB1 he hpos (by rw [cur_push, List.length_append]; omega) hn Q)
      intro ex a' w' hq
      cases ex with
      | normal =>
        refine ⟨ess.length - (i + 1), by omega, i + 1, hlt, rfl, hq.1, ?_, hq.2.2.1, hq.2.2.2⟩
        rw [hst, ← push_push, ← push_push]
        exact hq.2.1
      | exit id => exact hq
      | goto l => exact hq
      | ret => exact hq
      | panic ch => exact hq
      | outgrown => exact hq
  · have hi2 : i = ess.length := by omega
    subst hi2
    rw [List.take_length] at hs1
    exact spillA_exit sf1 hn _ (fun a' h => hQ a' w1 h hs1 hk1)
end Go.Proofs.YtmcoifhiiagfpaaDoor
