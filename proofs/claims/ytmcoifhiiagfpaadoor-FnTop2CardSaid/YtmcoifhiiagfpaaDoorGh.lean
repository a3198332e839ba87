/-
  One byte of a literal: the closing brace (a sequence).
  One byte of a literal: the closing brace (a sequence that is none).
  One byte of a literal, whatever it is.
  The loop over the bytes of a literal.
-/
import Derived.Test.YtmcoifhiiagfpaaDoorGg
import Derived.Test.YtmcoifhiiagfpaaDoorGd
namespace Go.Proofs.YtmcoifhiiagfpaaDoor
open Go.RowKit
set_option linter.unusedSectionVars false
variable [Pw]

set_option linter.unusedSimpArgs false in
set_option maxRecDepth 1000000 in
set_option maxHeartbeats 2000000 in
theorem byte_closeC {N p : Nat} {c50 c51 c52 : Value} {lx la jb : Nat} {a : Act} (fr : Fr N p c50 c51 c52 lx la jb a) {v : ByteArray} {q j last : Nat} {st : St} {xs : List Value} {ys : List Part} {w0 w : World} (m : In N v q lx la jb j last st xs ys w0 w) (hj : j < v.size) (hv : v.size ≤ 100000000)
    (hc : bt v j = 125) (fr0 : Frame) (r0 : List Frame) (hst : st.stack = fr0 :: r0) (hl : last ≤ j) (hcur : st.cur.length ≤ 100000000) (f6 : Frame) (r6 : List Frame) (hst6 : (st.flush v last j).stack = f6 :: r6) (hsq : f6.seq = true) (h6d : f6.done.length < 100000000) (h6n : f6.done ≠ []) (hbk : broken f6.elems = false) (hszs : ∀ es ∈ f6.elems, sz es ≤ 100000000) (hE : Errs w0) (hE1 : 0 < N) (hE2 : 1 < N) (hcu : (⟨(st.flush v last j).top, r6⟩ : St).cur.length ≤ 100000000) (Q0 : Exit → Act → World → Prop) :
    Code.wp Tryd.prog (bodyOf 1) (Exit.then (fun a' w' => ∃ jb', Fr N p c50 c51 c52 lx la jb' a' ∧ In N v q lx la jb' (j + 1) (j + 1) (({ (st.flush v last j) with stack := r6 } : St).push [.brace true f6.elems]) xs ys w0 w') Q0) a w := by
  obtain ⟨f, hf, ht⟩ := frame_lit a.tmps fr.size
  obtain ⟨t, d⟩ := a
  have hd : d = [] := fr.defers
  subst hd
  have h0 := (hf 0).trans fr.s0
  have h2 := (hf 2).trans fr.s2
  have h3 := (hf 3).trans fr.s3
  have h4 := (hf 4).trans fr.s4
  have h5 := (hf 5).trans fr.s5
  have h6 := (hf 6).trans fr.s6
  have h7 := (hf 7).trans fr.s7
  have h8 := (hf 8).trans fr.s8
  have h11 := (hf 11).trans fr.s11
  have h13 := (hf 13).trans fr.s13
  have h14 := (hf 14).trans fr.s14
  have h50 := (hf 50).trans fr.s50
  have h51 := (hf 51).trans fr.s51
  have h52 := (hf 52).trans fr.s52
  simp only [h0, h2, h3, h4, h5, h6, h7, h8, h11, h13, h14, h50, h51, h52] at ht
  have ht2 : t = _ := ht
  subst ht2
  clear hf ht fr h0 h2 h3 h4 h5 h6 h7 h8 h11 h13 h14 h50 h51 h52
  obtain ⟨x1, x2, x3, x4, hqb⟩ := m.lit
  have bx := m.bx
  have bl := m.bl
  have bj := m.bj
  have cj : w.cell? ⟨jb, 0, none⟩ = some (.int .i64 j) := by rw [Lib.cell_of_heap bj]; rfl
  have cx : w.cell? ⟨lx, 0, none⟩ = some (.pointer (some ⟨q, 0, none⟩)) := by rw [Lib.cell_of_heap bx]; rfl
  have q4 : w.cell? ⟨q, 4, none⟩ = some (.string v) := by rw [Lib.cell_of_heap hqb]; rfl
  have zj : w.frozen? ⟨jb, 0, none⟩ = false := Lib.frozen_of_heap bj 0
  have sj : jb < w.heap.size := (Array.getElem?_eq_some_iff.1 bj).1
  have hz : (j : Int) < (v.size : Int) ∧ (v.size : Int) ≤ 100000000 := by omega
  obtain ⟨bb, cn⟩ : ∃ bb : Nat, w.cell? ⟨N + 3, 0, none⟩ = some (.pointer (some ⟨bb, 0, none⟩)) := by
    obtain ⟨hs, h1, h2, _⟩ := m.sb
    obtain ⟨top, frames, ov⟩ := hs
    cases frames with
    | nil =>
      rw [← h2] at hst
      simp [HS.st] at hst
    | cons hf hr =>
      refine ⟨hf.blk, ?_⟩
      rw [Lib.cell_of_heap h1.b3]
      rfl
  have hg : (v[j]'hj).toNat = 125 := by rw [← bt_get v j hj]; exact hc
  have M := Lib.hid m
  clear hqb bx bl bj m hst hc
  conv => arg 2; whnf
  unfold ptr
  go_upto_region 17 with fail
  go_quiet (fail)
  have e6 : (w.drewN nq).cell? ⟨N + 3, 0, none⟩ = some (.pointer (some ⟨bb, 0, none⟩)) := cn
  have e1 : (w.drewN nq).cell? ⟨jb, 0, none⟩ = some (.int .i64 j) := cj
  have e2 : (w.drewN nq).cell? ⟨lx, 0, none⟩ = some (.pointer (some ⟨q, 0, none⟩)) := cx
  have e3 : (w.drewN nq).cell? ⟨q, 4, none⟩ = some (.string v) := q4
  have e4 : (w.drewN nq).frozen? ⟨jb, 0, none⟩ = false := zj
  have e5 : jb < (w.drewN nq).heap.size := sj
  have HD := Lib.hid (below_drewN (Below.refl w.heap.size w) nq)
  generalize w.drewN nq = w1 at *
  clear cj cx q4 zj sj cn
  go_upto_region 20 with fail
  go_quiet (fail)
  have g6 : (w1.drewN nq).cell? ⟨N + 3, 0, none⟩ = some (.pointer (some ⟨bb, 0, none⟩)) := e6
  have HD3 := Lib.hid (HD.out.trans (below_drewN (Below.refl w.heap.size w1) nq))
  generalize w1.drewN nq = w3 at *
  clear e1 e2 e3 e4 e5 e6
  have HM3 := Lib.hid (M.out.grow HD3.out)
  have HCALL := Lib.hid (addIdx_any N la jb lx q st xs ys w3 v last j HM3.out.sb HM3.out.bl HM3.out.bj HM3.out.bx HM3.out.lit hl (by omega) hv hcur)
  have HST6 := Lib.hid hst6
  clear hl hcur hst6
  go_upto_region 56 with (go_at_call 26; refine (HCALL.out).mono ?_; rintro e w6 ⟨rfl, h6, h6s⟩)
  have HM6 := Lib.hid (HM3.out.state h6 h6s)
  have HPOP := Lib.hid (pop_any N (st.flush v last j) f6 r6 xs ys w6 (by rw [← HST6.out]; exact h6))
  clear h6 h6s HCALL g6
  go_upto_region 57 with (go_at_call 24; refine (HPOP.out).mono ?_; rintro e w7 hp7; obtain ⟨b, rfl, h7, s7⟩ := hp7; unfold ptr)
  obtain ⟨T7, hT7⟩ : ∃ T7, (⟨(st.flush v last j).top, r6⟩ : St) = T7 := ⟨_, rfl⟩
  rw [hT7] at h7
  have HT7 := Lib.hid hT7
  have HM7 := Lib.hid (HM6.out.state h7 s7)
  clear hT7 HPOP s7
  rw [HT7.out] at hcu
  rw [hsq] at h7 HM7
  have hel : f6.elems.length = f6.done.length + 1 := by simp [Frame.elems]
  have hp : 0 < f6.done.length := List.length_pos_iff.2 h6n
  obtain ⟨ess, hess⟩ : ∃ ess, f6.elems = ess := ⟨_, rfl⟩
  rw [hess] at h7 HM7 hbk hszs hel
  have HESS := Lib.hid hess
  obtain ⟨ea, hea⟩ : ∃ ea, ess[0]? = some ea := ⟨ess[0]'(by omega), List.getElem?_eq_getElem (by omega)⟩
  obtain ⟨eb, heb⟩ : ∃ eb, ess[1]? = some eb := ⟨ess[1]'(by omega), List.getElem?_eq_getElem (by omega)⟩
  obtain ⟨L, e, ecap, br⟩ : ∃ L e ecap, Br w7 L b true ess e ecap := by
    obtain ⟨hs, hsb, hst, hxy⟩ := h7
    obtain ⟨e, ecap, br⟩ := brace_lies hxy
    exact ⟨_, e, ecap, br⟩
  have cb0 : w7.cell? ⟨b, 0, none⟩ = some (.bool true) := by rw [Lib.cell_of_heap br.blk]; rfl
  have cb1 : w7.cell? ⟨b, 1, none⟩ = some (.slice (some ⟨e, 0, none⟩) ess.length ecap) := by rw [Lib.cell_of_heap br.blk]; rfl
  have sbb : b < w7.heap.size := (Array.getElem?_eq_some_iff.1 br.blk).1
  have hecap := br.cap
  have z1 : ((ess.length : Int) == 1) = false := by simp; omega
  have i2 : (2 : Int) ≤ (ess.length : Int) ∧ (ess.length : Int) ≤ 100000000 ∧ (ess.length : Int) ≤ (ecap : Int) ∧ (2 : Int) ≤ (ecap : Int) := by omega
  have hN7 := HM7.out.sb.lt
  have hE7 : Errs w7 := hE.below HM7.out.still.bel hE1 hE2
  have HE7 := Lib.hid (And.intro hE7 (And.intro (show 0 < w7.heap.size by omega) (show 1 < w7.heap.size by omega)))
  have HSZS := Lib.hid (And.intro hszs (And.intro hea heb))
  have HBK := Lib.hid hbk
  have HCU := Lib.hid hcu
  have HBR := Lib.hid br
  have HSB7 := Lib.hid h7
  have HN7 := Lib.hid (And.intro hN7 sbb)
  clear hcu hszs hbk hE hE1 hE2 hE7 hel hp hess hea heb br hecap hN7 h6n h6d h7 hsq
  go_upto_region 65 with fail
  go_wp2_with fail
  refine chars_loop (N := N) (p := p) (c50 := c50) (c51 := c51) (c52 := c52) (lx := lx) (la := la) (jb := jb) (b := b) (ch := w7.heap.size) (e := e) (cap2 := ecap) ?_ HBR.out HSZS.out.2.1 HSZS.out.2.2 (HSZS.out.1 ea (List.mem_of_getElem? HSZS.out.2.1)) (HSZS.out.1 eb (List.mem_of_getElem? HSZS.out.2.2)) ((Below.refl w7.heap.size w7).alloc (Nat.le_refl _) _) (heap_alloc_new w7 _) (Nat.le_refl _) HE7.out.1 HE7.out.2.1 HE7.out.2.2 _ ?_
  · exact ⟨⟨rfl, rfl, rfl, rfl, rfl, rfl, rfl, rfl, rfl, rfl, rfl, rfl, rfl, rfl, rfl, rfl⟩, rfl, rfl, rfl, rfl, rfl, rfl⟩
  intro a8 w8 cf8 hb8 htw8
  obtain ⟨fr8, g19, g20, g21, g297, g298, g299⟩ := cf8
  clear f g297 g298 g299
  obtain ⟨ca, hca⟩ : ∃ ca, chr (litOf ea) = ca := ⟨_, rfl⟩
  obtain ⟨cb, hcb⟩ : ∃ cb, chr (litOf eb) = cb := ⟨_, rfl⟩
  obtain ⟨B0, hB0⟩ : ∃ B0, (bad (litOf ea) || bad (litOf eb)) = B0 := ⟨_, rfl⟩
  rw [hB0] at g21
  rw [hca, hcb] at htw8
  obtain ⟨X3, hX3⟩ : ∃ X3, ((ess.length == 3 && !isNum (litOf (ess.getD 2 []))) || decide (3 < ess.length)) = X3 := ⟨_, rfl⟩
  have hbt : broken ess = (B0 || X3 || (ca != cb)) := by
    have e1 : ess.getD 0 [] = ea := by rw [List.getD_eq_getElem?_getD, HSZS.out.2.1]; rfl
    have e2 : ess.getD 1 [] = eb := by rw [List.getD_eq_getElem?_getD, HSZS.out.2.2]; rfl
    rw [← hB0, ← hX3, ← hca, ← hcb]
    unfold broken bad chr
    simp only [e1, e2]
    simp only [Bool.or_assoc]
  rw [HBK.out] at hbt
  have HBT := Lib.hid hbt
  have HX3 := Lib.hid hX3
  clear hbt hB0 hca hcb hX3 cb0 cb1 z1 sbb
  obtain ⟨f, hf, ht⟩ := frame_lit a8.tmps fr8.size
  obtain ⟨t, d⟩ := a8
  have hd : d = [] := fr8.defers
  subst hd
  have h0 := (hf 0).trans fr8.s0
  have h2 := (hf 2).trans fr8.s2
  have h3 := (hf 3).trans fr8.s3
  have h4 := (hf 4).trans fr8.s4
  have h5 := (hf 5).trans fr8.s5
  have h6 := (hf 6).trans fr8.s6
  have h7 := (hf 7).trans fr8.s7
  have h8 := (hf 8).trans fr8.s8
  have h11 := (hf 11).trans fr8.s11
  have h13 := (hf 13).trans fr8.s13
  have h14 := (hf 14).trans fr8.s14
  have h50 := (hf 50).trans fr8.s50
  have h51 := (hf 51).trans fr8.s51
  have h52 := (hf 52).trans fr8.s52
  replace g19 := (hf 19).trans g19
  replace g20 := (hf 20).trans g20
  replace g21 := (hf 21).trans g21
  simp only [h0, h2, h3, h4, h5, h6, h7, h8, h11, h13, h14, h50, h51, h52, g19, g20, g21] at ht
  have ht2 : t = _ := ht
  subst ht2
  clear hf ht fr8 h0 h2 h3 h4 h5 h6 h7 h8 h11 h13 h14 h50 h51 h52 g19 g20 g21
  unfold ptr
  have c1 : w8.cell? ⟨b, 1, none⟩ = some (.slice (some ⟨e, 0, none⟩) ess.length ecap) := (hb8.cell (p := ⟨b, 1, none⟩) HN7.out.2).trans (by rw [Lib.cell_of_heap HBR.out.blk]; rfl)
  have HB8 := Lib.hid hb8
  have HTW8 := Lib.hid htw8
  clear hb8 htw8
  go_upto_if 329 with fail
  go_cut [21] from 324 to 349 (fun s21 wx => s21 = .bool (B0 || X3) ∧ Below w7.heap.size w7 wx ∧ Two wx w7.heap.size ca cb)
  case first =>
    by_cases h3 : ess.length = 3
    · have z3 : ((ess.length : Int) == 3) = true := by simp [h3]
      obtain ⟨ec, hec⟩ : ∃ ec, ess[2]? = some ec := ⟨ess[2]'(by omega), List.getElem?_eq_getElem (by omega)⟩
      obtain ⟨p9, v9, vals9, el⟩ := HBR.out.el hec HB8.out
      have c9 : w8.cell? ⟨e, 2, none⟩ = some (.pointer (some ⟨p9, 0, none⟩)) := el.ce
      have hszc := HSZS.out.1 ec (List.mem_of_getElem? hec)
      have hln := sz_length ec
      have hwt := weight_le ec
      have hsl := litOf_size ec
      have hX : (!isNum (litOf ec)) = X3 := by
        have e3 : ess.getD 2 [] = ec := by rw [List.getD_eq_getElem?_getD, hec]; rfl
        rw [← HX3.out, e3, h3]
        simp
      have HL := Lib.hid (lit_any w8 L p9 v9 vals9 ec el.hp el.row el.par (by omega) (by omega))
      have HS := Lib.hid (show (litOf ec).size ≤ 100000000 by omega)
      have i3 : (2 : Int) < (ess.length : Int) := by omega
      clear el hszc hln hwt hsl hec h3
      cases hnum : isNum (litOf ec) with
      | true =>
        rw [hnum] at hX
        have hX2 : X3 = false := hX.symm
        subst hX2
        have HN := Lib.hid hnum
        clear hnum hX
        go_wp2_with (first
          | (go_at_call 30; refine (HL.out).mono ?_; rintro e1 w2 ⟨rfl, hb2⟩; have HB2 := Lib.hid hb2; clear hb2)
          | (go_at_call 31; refine (parse_yes _ _ HS.out (HE7.out.1.below (HB8.out.trans (HB2.out.mono HB8.out.size)) HE7.out.2.1 HE7.out.2.2) HN.out).mono ?_; rintro e2 w3 ⟨⟨u, rfl⟩, hb3⟩; have HB3 := Lib.hid (HB2.out.trans (hb3.mono HB2.out.size)); clear hb3))
        go_meet
        exact ⟨by rw [Bool.or_false], HB8.out.trans (HB3.out.mono HB8.out.size), (HB3.out.block _ (Array.getElem?_eq_some_iff.1 HTW8.out).1).trans HTW8.out⟩
      | false =>
        rw [hnum] at hX
        have hX2 : X3 = true := hX.symm
        subst hX2
        have HN := Lib.hid hnum
        clear hnum hX
        go_wp2_with (first
          | (go_at_call 30; refine (HL.out).mono ?_; rintro e1 w2 ⟨rfl, hb2⟩; have HB2 := Lib.hid hb2; clear hb2)
          | (go_at_call 31; refine (parse_no _ _ HS.out (HE7.out.1.below (HB8.out.trans (HB2.out.mono HB8.out.size)) HE7.out.2.1 HE7.out.2.2) HN.out).mono ?_; rintro e2 w3 ⟨⟨u, t, q, rfl⟩, hb3⟩; have HB3 := Lib.hid (HB2.out.trans (hb3.mono HB2.out.size)); clear hb3))
        go_meet
        exact ⟨by rw [Bool.or_true], HB8.out.trans (HB3.out.mono HB8.out.size), (HB3.out.block _ (Array.getElem?_eq_some_iff.1 HTW8.out).1).trans HTW8.out⟩
    · have z3 : ((ess.length : Int) == 3) = false := by simp; omega
      by_cases h4 : 3 < ess.length
      · have z4 : (3 : Int) < (ess.length : Int) := by omega
        have hX2 : X3 = true := by rw [← HX3.out]; simp [h4]
        subst hX2
        clear h3 h4
        go_wp2_with fail
        go_meet
        exact ⟨by rw [Bool.or_true], HB8.out, HTW8.out⟩
      · have z4 : ¬ (3 : Int) < (ess.length : Int) := by omega
        have hX2 : X3 = false := by rw [← HX3.out]; simp [h4]; omega
        subst hX2
        clear h3 h4
        go_wp2_with fail
        go_meet
        exact ⟨by rw [Bool.or_false], HB8.out, HTW8.out⟩
  case rest =>
    obtain ⟨h21, hb9, htw9⟩ := hcut
    subst h21
    obtain ⟨w9, hw9⟩ : ∃ w9, wc = w9 := ⟨_, rfl⟩
    rw [hw9] at hb9 htw9 ⊢
    clear hw9
    have t0 : w9.cell? ⟨w7.heap.size, 0, none⟩ = some (.bool ca) := (Lib.cell_of_heap htw9 0).trans rfl
    have t1 : w9.cell? ⟨w7.heap.size, 1, none⟩ = some (.bool cb) := (Lib.cell_of_heap htw9 1).trans rfl
    have HM9 := Lib.hid (HM7.out.grow hb9)
    have HBR9 := Lib.hid hb9
    clear hb9 htw9 c1 HTW8 HB8 HX3
    go_upto_if 354 with fail
    go_cut [21] from 350 to 354 (fun s21 wx => s21 = .bool (B0 || X3 || (ca != cb)) ∧ w9 = wx)
    case first =>
      cases ca <;> cases cb
      all_goals
        go_wp2_with fail
        go_meet
        exact ⟨by simp, rfl⟩
    case rest =>
      obtain ⟨h21, hw9⟩ := hcut
      rw [← HBT.out] at h21
      subst h21
      subst hw9
      clear t0 t1
      obtain ⟨ib, hib, hb0, hb1, hb2⟩ := info_parts Tryd.info_part
      obtain ⟨hs, hsb, hst, hxy⟩ := HM9.out.sb
      have ha := hsb.words _ (acc_mem hs)
      obtain ⟨ac, hac⟩ : ∃ ac, hs.acc = ac := ⟨_, rfl⟩
      rw [hac] at ha
      have cb2 : w9.cell? ⟨N + 2, 0, none⟩ = some (.pointer (some ⟨ac.blk, 0, none⟩)) := by rw [Lib.cell_of_heap hsb.b2, hac]; rfl
      have cac : w9.cell? ⟨ac.blk, 0, none⟩ = some ac.v := by rw [Lib.cell_of_heap ha.blk]; rfl
      have sac : ac.blk < w9.heap.size := (Array.getElem?_eq_some_iff.1 ha.blk).1
      have hN7 := hsb.lt
      have hcl : ac.vals.length = (T7).cur.length := by rw [← hst, st_cur, ← hac]; exact (hsb.words _ (acc_mem hs)).parts.length
      have HA := Lib.hid (And.intro hsb (And.intro hxy (And.intro hac (And.intro ha hst))))
      have HAL := Lib.hid (show ac.vals.length ≤ 100000000 by rw [hcl]; exact HCU.out)
      clear hsb hxy ha hcl hst hac
      go_upto_region 85 with fail
      refine region_anyE (fun w' => w'.cell? ⟨N + 2, 0, none⟩ = some (.pointer (some ⟨ac.blk, 0, none⟩)) ∧ w'.cell? ⟨ac.blk, 0, none⟩ = some ac.v) 11 (by kernel_rfl) ?_ (fun hS hC => ?_)
      · (try dsimp only); go_keep
      refine anyE_take (i := 0) (v := ?_) [0] (by kernel_rfl) rfl (fun _ _ _ h => h) (by rfl) ?_ hC hS ?_
      rotate_left
      · intro w hSw
        (try dsimp only at hSw)
        go_simp
        (try with_reducible rfl)
      clear hC
      intro hC
      try simp only [Act.put, List.setIfInBounds_toArray, List.set_cons_zero, List.set_cons_succ]
      refine anyE_take (i := 1) (v := ?_) [1] (by kernel_rfl) rfl (fun _ _ _ h => h) (by rfl) ?_ hC hS ?_
      rotate_left
      · intro w hSw
        (try dsimp only at hSw)
        go_simp
        (try with_reducible rfl)
      clear hC
      intro hC
      try simp only [Act.put, List.setIfInBounds_toArray, List.set_cons_zero, List.set_cons_succ]
      refine anyE_take (i := 2) (v := ?_) [2] (by kernel_rfl) rfl (fun _ _ _ h => h) (by rfl) ?_ hC hS ?_
      rotate_left
      · intro w hSw
        (try dsimp only at hSw)
        go_simp
        (try with_reducible rfl)
      clear hC
      intro hC
      try simp only [Act.put, List.setIfInBounds_toArray, List.set_cons_zero, List.set_cons_succ]
      refine anyE_take (i := 3) (v := ?_) [3] (by kernel_rfl) rfl (fun _ _ _ h => h) (by rfl) ?_ hC hS ?_
      rotate_left
      · intro w hSw
        (try dsimp only at hSw)
        go_simp
        (try with_reducible rfl)
      clear hC
      intro hC
      try simp only [Act.put, List.setIfInBounds_toArray, List.set_cons_zero, List.set_cons_succ]
      refine anyE_take (i := 4) (v := ?_) [4] (by kernel_rfl) rfl (fun _ _ _ h => h) (by rfl) ?_ hC hS ?_
      rotate_left
      · intro w hSw
        (try dsimp only at hSw)
        go_simp
        (try with_reducible rfl)
      clear hC
      intro hC
      try simp only [Act.put, List.setIfInBounds_toArray, List.set_cons_zero, List.set_cons_succ]
      refine anyE_take (i := 5) (v := ?_) [5] (by kernel_rfl) rfl (fun _ _ _ h => h) (by rfl) ?_ hC hS ?_
      rotate_left
      · intro w hSw
        (try dsimp only at hSw)
        go_simp
        (try with_reducible rfl)
      clear hC
      intro hC
      try simp only [Act.put, List.setIfInBounds_toArray, List.set_cons_zero, List.set_cons_succ]
      refine anyE_take (i := 6) (v := ?_) [6] (by kernel_rfl) rfl (fun _ _ _ h => h) (by rfl) ?_ hC hS ?_
      rotate_left
      · intro w hSw
        (try dsimp only at hSw)
        go_simp
        (try with_reducible rfl)
      clear hC
      intro hC
      try simp only [Act.put, List.setIfInBounds_toArray, List.set_cons_zero, List.set_cons_succ]
      refine anyE_one (i := 7) (by kernel_rfl) hC rfl (fun K hK => ?_)
      clear hC
      go_simp
      refine hK.out _ _ ?_ ?_
      · (try dsimp only); go_keep
      clear hS
      intro hS hC
      clear hK K
      try simp only [Act.put, List.setIfInBounds_toArray, List.set_cons_zero, List.set_cons_succ]
      refine anyE_one (i := 8) (by kernel_rfl) hC rfl (fun K hK => ?_)
      clear hC
      (refine step_append_lies _ (by rfl) _ _ 31 (by rfl) (N + 6) 72 ib .nilIface 1 16 Tryd.underlying31 hib hb0 hb1 hb2 rfl (by decide) _ _ _ (by rfl) ((HA.out.2.2.2.1.own.alloc _).drew) ⟨w9.heap.size, 0, none⟩ 1 1 [.iface 76 (.pointer (some ⟨b, 0, none⟩))] (by rfl) (by rfl) (World.news_of_block (cs := #[.iface 76 (.pointer (some ⟨b, 0, none⟩))]) (t := 72) (fr := (0, 0)) (heap_alloc_new w9 _)) (by simp [Value.oneCell']) (by decide) (by have := HAL.out; unfold maxLen; omega) (by have := HAL.out; omega) (by rw [alloc_size]; omega) (w9.heap.size + 1) (by simp) ?_; intro g8 cap8 w8 hown8 hgrow8 hat8 _; have hc8 : w8.heap[ac.blk]? = some (.cells #[ac.v] 40 (0, 0)) := HA.out.2.2.2.1.grown (alloc_kept w9 _) (by rw [alloc_size]; omega) hgrow8; have hb8 : w8.heap[N + 2]? = some (.cells #[ptr ac.blk] 38 (0, 0)) := HA.out.2.2.2.1.box (alloc_kept w9 _) (by rw [alloc_size]; omega) hgrow8 (by omega) (by rw [← HA.out.2.2.1]; exact HA.out.1.b2); have y1 : w8.cell? ⟨ac.blk, 0, none⟩ = some ac.v := (Lib.cell_of_heap hc8 0).trans rfl; have y2 : w8.frozen? ⟨ac.blk, 0, none⟩ = false := Lib.frozen_of_heap hc8 0; have y3 : w8.cell? ⟨N + 2, 0, none⟩ = some (.pointer (some ⟨ac.blk, 0, none⟩)) := (Lib.cell_of_heap hb8 0).trans rfl; have H8 := Lib.hid (And.intro hown8 (And.intro hgrow8 hat8)); clear hown8 hgrow8 hat8 hc8 hb8)
      refine hK.out _ _ ?_ ?_
      · (try dsimp only); exact ⟨y3, y1⟩
      clear hS
      intro hS hC
      clear hK K
      try simp only [Act.put, List.setIfInBounds_toArray, List.set_cons_zero, List.set_cons_succ]
      refine anyE_take (i := 9) (v := ?_) [10, 9] (by kernel_rfl) rfl (fun _ _ _ h => h) (by rfl) ?_ hC hS ?_
      rotate_left
      · intro w hSw
        (try dsimp only at hSw)
        go_simp
        (try with_reducible rfl)
      clear hC
      intro hC
      try simp only [Act.put, List.setIfInBounds_toArray, List.set_cons_zero, List.set_cons_succ]
      refine anyE_take (i := 10) (v := ?_) [10] (by kernel_rfl) rfl (fun _ _ _ h => h) (by rfl) ?_ hC hS ?_
      rotate_left
      · intro w hSw
        (try dsimp only at hSw)
        go_simp
        (try with_reducible rfl)
      clear hC
      intro hC
      try simp only [Act.put, List.setIfInBounds_toArray, List.set_cons_zero, List.set_cons_succ]
      refine anyE_last (by kernel_rfl) rfl (by kernel_rfl) (fun K hK => ?_)
      clear hC
      go_simp
      refine hK.out _ _ ?_
      clear hK K hS
      refine NoPanic.normal ?_
      try simp only [Act.put, List.setIfInBounds_toArray, List.set_cons_zero, List.set_cons_succ]
      obtain ⟨e8, s8⟩ := HA.out.1.push_end HA.out.2.2.1 (us := [.iface 76 (.pointer (some ⟨b, 0, none⟩))]) (qs := [.brace true ess]) (.cons _ _ _ _ (parts_head HA.out.2.1).1 .nil) (parts_head HA.out.2.1).2 (((Below.refl w9.heap.size w9).alloc (Nat.le_refl _) _).drew) H8.out.1 H8.out.2.1 (by
        rcases H8.out.2.2 with e1 | e1
        · exact Or.inl e1
        · exact Or.inr (by rw [e1, alloc_size]))
      rw [HA.out.2.2.2.2, ← HT7.out, ← HESS.out] at e8
      have HM20 := Lib.hid (HM9.out.state e8 s8)
      clear y1 y2 y3 H8 e8 s8
      generalize w8.setCell ⟨ac.blk, 0, none⟩ (.slice (some ⟨g8, 0, none⟩) (ac.vals.length + 1) cap8) = w20 at *
      clear cb2 cac sac hN7
      have hbj := HM20.out.bj
      have hbl := HM20.out.bl
      have k1 : w20.cell? ⟨jb, 0, none⟩ = some (.int .i64 (j : Int)) := by rw [Lib.cell_of_heap hbj]; rfl
      have k2 : w20.cell? ⟨la, 0, none⟩ = some (.int .i64 last) := by rw [Lib.cell_of_heap hbl]; rfl
      have k3 : w20.frozen? ⟨la, 0, none⟩ = false := Lib.frozen_of_heap hbl 0
      have k4 : jb < w20.heap.size := (Array.getElem?_eq_some_iff.1 hbj).1
      have k5 : la < w20.heap.size := (Array.getElem?_eq_some_iff.1 hbl).1
      clear hbj hbl
      have hms := HM20.out.setl (j + 1)
      rw [Int.natCast_add, Int.natCast_one] at hms
      have HM21 := Lib.hid hms
      clear hms
      go_upto_region 96 with fail
      have k6 : (w20.setCell ⟨la, 0, none⟩ (.int .i64 ((j : Int) + 1))).cell? ⟨jb, 0, none⟩ = some (.int .i64 (j : Int)) := by have := HM21.out.bj; rw [Lib.cell_of_heap this]; rfl
      generalize w20.setCell ⟨la, 0, none⟩ (.int .i64 ((j : Int) + 1)) = w22 at *
      clear k1 k2 k3 k4 k5
      go_wp2_with fail
      have hn := HM21.out.next (Below.refl _ _) (j + 1)
      rw [Int.natCast_add, Int.natCast_one] at hn
      exact ⟨_, ⟨rfl, rfl, rfl, rfl, rfl, rfl, rfl, rfl, rfl, rfl, rfl, rfl, rfl, rfl, rfl, rfl⟩, hn⟩

end Go.Proofs.YtmcoifhiiagfpaaDoor

namespace Go.Proofs.YtmcoifhiiagfpaaDoor
open Go.RowKit
set_option linter.unusedSectionVars false
variable [Pw]

set_option linter.unusedSimpArgs false in
set_option maxRecDepth 1000000 in
set_option maxHeartbeats 2000000 in
theorem byte_closeD {N p : Nat} {c50 c51 c52 : Value} {lx la jb : Nat} {a : Act} (fr : Fr N p c50 c51 c52 lx la jb a) {v : ByteArray} {q j last : Nat} {st : St} {xs : List Value} {ys : List Part} {w0 w : World} (m : In N v q lx la jb j last st xs ys w0 w) (hj : j < v.size) (hv : v.size ≤ 100000000)
    (hc : bt v j = 125) (fr0 : Frame) (r0 : List Frame) (hst : st.stack = fr0 :: r0) (hl : last ≤ j) (hcur : st.cur.length ≤ 100000000) (f6 : Frame) (r6 : List Frame) (hst6 : (st.flush v last j).stack = f6 :: r6) (hsq : f6.seq = true) (h6d : f6.done.length < 100000000) (h6n : f6.done ≠ []) (hbk : broken f6.elems = true) (hszs : ∀ es ∈ f6.elems, sz es ≤ 100000000) (hE : Errs w0) (hE1 : 0 < N) (hE2 : 1 < N) (hcu : ((⟨(st.flush v last j).top, r6⟩ : St).push ([.lit lb] ++ sepBy dots f6.elems ++ [.lit rb])).cur.length ≤ 100000000) (Q0 : Exit → Act → World → Prop) :
    Code.wp Tryd.prog (bodyOf 1) (Exit.then (fun a' w' => ∃ jb', Fr N p c50 c51 c52 lx la jb' a' ∧ In N v q lx la jb' (j + 1) (j + 1) (({ (st.flush v last j) with stack := r6 } : St).push ([.lit lb] ++ sepBy dots f6.elems ++ [.lit rb])) xs ys w0 w') Q0) a w := by
  obtain ⟨f, hf, ht⟩ := frame_lit a.tmps fr.size
  obtain ⟨t, d⟩ := a
  have hd : d = [] := fr.defers
  subst hd
  have h0 := (hf 0).trans fr.s0
  have h2 := (hf 2).trans fr.s2
  have h3 := (hf 3).trans fr.s3
  have h4 := (hf 4).trans fr.s4
  have h5 := (hf 5).trans fr.s5
  have h6 := (hf 6).trans fr.s6
  have h7 := (hf 7).trans fr.s7
  have h8 := (hf 8).trans fr.s8
  have h11 := (hf 11).trans fr.s11
  have h13 := (hf 13).trans fr.s13
  have h14 := (hf 14).trans fr.s14
  have h50 := (hf 50).trans fr.s50
  have h51 := (hf 51).trans fr.s51
  have h52 := (hf 52).trans fr.s52
  simp only [h0, h2, h3, h4, h5, h6, h7, h8, h11, h13, h14, h50, h51, h52] at ht
  have ht2 : t = _ := ht
  subst ht2
  clear hf ht fr h0 h2 h3 h4 h5 h6 h7 h8 h11 h13 h14 h50 h51 h52
  obtain ⟨x1, x2, x3, x4, hqb⟩ := m.lit
  have bx := m.bx
  have bl := m.bl
  have bj := m.bj
  have cj : w.cell? ⟨jb, 0, none⟩ = some (.int .i64 j) := by rw [Lib.cell_of_heap bj]; rfl
  have cx : w.cell? ⟨lx, 0, none⟩ = some (.pointer (some ⟨q, 0, none⟩)) := by rw [Lib.cell_of_heap bx]; rfl
  have q4 : w.cell? ⟨q, 4, none⟩ = some (.string v) := by rw [Lib.cell_of_heap hqb]; rfl
  have zj : w.frozen? ⟨jb, 0, none⟩ = false := Lib.frozen_of_heap bj 0
  have sj : jb < w.heap.size := (Array.getElem?_eq_some_iff.1 bj).1
  have hz : (j : Int) < (v.size : Int) ∧ (v.size : Int) ≤ 100000000 := by omega
  obtain ⟨bb, cn⟩ : ∃ bb : Nat, w.cell? ⟨N + 3, 0, none⟩ = some (.pointer (some ⟨bb, 0, none⟩)) := by
    obtain ⟨hs, h1, h2, _⟩ := m.sb
    obtain ⟨top, frames, ov⟩ := hs
    cases frames with
    | nil =>
      rw [← h2] at hst
      simp [HS.st] at hst
    | cons hf hr =>
      refine ⟨hf.blk, ?_⟩
      rw [Lib.cell_of_heap h1.b3]
      rfl
  have hg : (v[j]'hj).toNat = 125 := by rw [← bt_get v j hj]; exact hc
  have M := Lib.hid m
  clear hqb bx bl bj m hst hc
  conv => arg 2; whnf
  unfold ptr
  go_upto_region 17 with fail
  go_quiet (fail)
  have e6 : (w.drewN nq).cell? ⟨N + 3, 0, none⟩ = some (.pointer (some ⟨bb, 0, none⟩)) := cn
  have e1 : (w.drewN nq).cell? ⟨jb, 0, none⟩ = some (.int .i64 j) := cj
  have e2 : (w.drewN nq).cell? ⟨lx, 0, none⟩ = some (.pointer (some ⟨q, 0, none⟩)) := cx
  have e3 : (w.drewN nq).cell? ⟨q, 4, none⟩ = some (.string v) := q4
  have e4 : (w.drewN nq).frozen? ⟨jb, 0, none⟩ = false := zj
  have e5 : jb < (w.drewN nq).heap.size := sj
  have HD := Lib.hid (below_drewN (Below.refl w.heap.size w) nq)
  generalize w.drewN nq = w1 at *
  clear cj cx q4 zj sj cn
  go_upto_region 20 with fail
  go_quiet (fail)
  have g6 : (w1.drewN nq).cell? ⟨N + 3, 0, none⟩ = some (.pointer (some ⟨bb, 0, none⟩)) := e6
  have HD3 := Lib.hid (HD.out.trans (below_drewN (Below.refl w.heap.size w1) nq))
  generalize w1.drewN nq = w3 at *
  clear e1 e2 e3 e4 e5 e6
  have HM3 := Lib.hid (M.out.grow HD3.out)
  have HCALL := Lib.hid (addIdx_any N la jb lx q st xs ys w3 v last j HM3.out.sb HM3.out.bl HM3.out.bj HM3.out.bx HM3.out.lit hl (by omega) hv hcur)
  have HST6 := Lib.hid hst6
  clear hl hcur hst6
  go_upto_region 56 with (go_at_call 26; refine (HCALL.out).mono ?_; rintro e w6 ⟨rfl, h6, h6s⟩)
  have HM6 := Lib.hid (HM3.out.state h6 h6s)
  have HPOP := Lib.hid (pop_any N (st.flush v last j) f6 r6 xs ys w6 (by rw [← HST6.out]; exact h6))
  clear h6 h6s HCALL g6
  go_upto_region 57 with (go_at_call 24; refine (HPOP.out).mono ?_; rintro e w7 hp7; obtain ⟨b, rfl, h7, s7⟩ := hp7; unfold ptr)
  obtain ⟨T7, hT7⟩ : ∃ T7, (⟨(st.flush v last j).top, r6⟩ : St) = T7 := ⟨_, rfl⟩
  rw [hT7] at h7
  have HT7 := Lib.hid hT7
  have HM7 := Lib.hid (HM6.out.state h7 s7)
  clear hT7 HPOP s7
  rw [HT7.out] at hcu
  rw [hsq] at h7 HM7
  have hel : f6.elems.length = f6.done.length + 1 := by simp [Frame.elems]
  have hp : 0 < f6.done.length := List.length_pos_iff.2 h6n
  obtain ⟨ess, hess⟩ : ∃ ess, f6.elems = ess := ⟨_, rfl⟩
  rw [hess] at h7 HM7 hbk hszs hel
  have HESS := Lib.hid hess
  obtain ⟨ea, hea⟩ : ∃ ea, ess[0]? = some ea := ⟨ess[0]'(by omega), List.getElem?_eq_getElem (by omega)⟩
  obtain ⟨eb, heb⟩ : ∃ eb, ess[1]? = some eb := ⟨ess[1]'(by omega), List.getElem?_eq_getElem (by omega)⟩
  obtain ⟨L, e, ecap, br⟩ : ∃ L e ecap, Br w7 L b true ess e ecap := by
    obtain ⟨hs, hsb, hst, hxy⟩ := h7
    obtain ⟨e, ecap, br⟩ := brace_lies hxy
    exact ⟨_, e, ecap, br⟩
  have cb0 : w7.cell? ⟨b, 0, none⟩ = some (.bool true) := by rw [Lib.cell_of_heap br.blk]; rfl
  have cb1 : w7.cell? ⟨b, 1, none⟩ = some (.slice (some ⟨e, 0, none⟩) ess.length ecap) := by rw [Lib.cell_of_heap br.blk]; rfl
  have sbb : b < w7.heap.size := (Array.getElem?_eq_some_iff.1 br.blk).1
  have hecap := br.cap
  have z1 : ((ess.length : Int) == 1) = false := by simp; omega
  have i2 : (2 : Int) ≤ (ess.length : Int) ∧ (ess.length : Int) ≤ 100000000 ∧ (ess.length : Int) ≤ (ecap : Int) ∧ (2 : Int) ≤ (ecap : Int) := by omega
  have hN7 := HM7.out.sb.lt
  have hE7 : Errs w7 := hE.below HM7.out.still.bel hE1 hE2
  have HE7 := Lib.hid (And.intro hE7 (And.intro (show 0 < w7.heap.size by omega) (show 1 < w7.heap.size by omega)))
  have HSZS := Lib.hid (And.intro hszs (And.intro hea heb))
  have HBK := Lib.hid hbk
  have HCU := Lib.hid hcu
  have HBR := Lib.hid br
  have HSB7 := Lib.hid h7
  have HN7 := Lib.hid (And.intro hN7 sbb)
  clear hcu hszs hbk hE hE1 hE2 hE7 hel hp hess hea heb br hecap hN7 h6n h6d h7 hsq
  go_upto_region 65 with fail
  go_wp2_with fail
  refine chars_loop (N := N) (p := p) (c50 := c50) (c51 := c51) (c52 := c52) (lx := lx) (la := la) (jb := jb) (b := b) (ch := w7.heap.size) (e := e) (cap2 := ecap) ?_ HBR.out HSZS.out.2.1 HSZS.out.2.2 (HSZS.out.1 ea (List.mem_of_getElem? HSZS.out.2.1)) (HSZS.out.1 eb (List.mem_of_getElem? HSZS.out.2.2)) ((Below.refl w7.heap.size w7).alloc (Nat.le_refl _) _) (heap_alloc_new w7 _) (Nat.le_refl _) HE7.out.1 HE7.out.2.1 HE7.out.2.2 _ ?_
  · exact ⟨⟨rfl, rfl, rfl, rfl, rfl, rfl, rfl, rfl, rfl, rfl, rfl, rfl, rfl, rfl, rfl, rfl⟩, rfl, rfl, rfl, rfl, rfl, rfl⟩
  intro a8 w8 cf8 hb8 htw8
  obtain ⟨fr8, g19, g20, g21, g297, g298, g299⟩ := cf8
  clear f g297 g298 g299
  obtain ⟨ca, hca⟩ : ∃ ca, chr (litOf ea) = ca := ⟨_, rfl⟩
  obtain ⟨cb, hcb⟩ : ∃ cb, chr (litOf eb) = cb := ⟨_, rfl⟩
  obtain ⟨B0, hB0⟩ : ∃ B0, (bad (litOf ea) || bad (litOf eb)) = B0 := ⟨_, rfl⟩
  rw [hB0] at g21
  rw [hca, hcb] at htw8
  obtain ⟨X3, hX3⟩ : ∃ X3, ((ess.length == 3 && !isNum (litOf (ess.getD 2 []))) || decide (3 < ess.length)) = X3 := ⟨_, rfl⟩
  have hbt : broken ess = (B0 || X3 || (ca != cb)) := by
    have e1 : ess.getD 0 [] = ea := by rw [List.getD_eq_getElem?_getD, HSZS.out.2.1]; rfl
    have e2 : ess.getD 1 [] = eb := by rw [List.getD_eq_getElem?_getD, HSZS.out.2.2]; rfl
    rw [← hB0, ← hX3, ← hca, ← hcb]
    unfold broken bad chr
    simp only [e1, e2]
    simp only [Bool.or_assoc]
  rw [HBK.out] at hbt
  have HBT := Lib.hid hbt
  have HX3 := Lib.hid hX3
  clear hbt hB0 hca hcb hX3 cb0 cb1 z1 sbb
  obtain ⟨f, hf, ht⟩ := frame_lit a8.tmps fr8.size
  obtain ⟨t, d⟩ := a8
  have hd : d = [] := fr8.defers
  subst hd
  have h0 := (hf 0).trans fr8.s0
  have h2 := (hf 2).trans fr8.s2
  have h3 := (hf 3).trans fr8.s3
  have h4 := (hf 4).trans fr8.s4
  have h5 := (hf 5).trans fr8.s5
  have h6 := (hf 6).trans fr8.s6
  have h7 := (hf 7).trans fr8.s7
  have h8 := (hf 8).trans fr8.s8
  have h11 := (hf 11).trans fr8.s11
  have h13 := (hf 13).trans fr8.s13
  have h14 := (hf 14).trans fr8.s14
  have h50 := (hf 50).trans fr8.s50
  have h51 := (hf 51).trans fr8.s51
  have h52 := (hf 52).trans fr8.s52
  replace g19 := (hf 19).trans g19
  replace g20 := (hf 20).trans g20
  replace g21 := (hf 21).trans g21
  simp only [h0, h2, h3, h4, h5, h6, h7, h8, h11, h13, h14, h50, h51, h52, g19, g20, g21] at ht
  have ht2 : t = _ := ht
  subst ht2
  clear hf ht fr8 h0 h2 h3 h4 h5 h6 h7 h8 h11 h13 h14 h50 h51 h52 g19 g20 g21
  unfold ptr
  have c1 : w8.cell? ⟨b, 1, none⟩ = some (.slice (some ⟨e, 0, none⟩) ess.length ecap) := (hb8.cell (p := ⟨b, 1, none⟩) HN7.out.2).trans (by rw [Lib.cell_of_heap HBR.out.blk]; rfl)
  have HB8 := Lib.hid hb8
  have HTW8 := Lib.hid htw8
  clear hb8 htw8
  go_upto_if 329 with fail
  go_cut [21] from 324 to 349 (fun s21 wx => s21 = .bool (B0 || X3) ∧ Below w7.heap.size w7 wx ∧ Two wx w7.heap.size ca cb)
  case first =>
    by_cases h3 : ess.length = 3
    · have z3 : ((ess.length : Int) == 3) = true := by simp [h3]
      obtain ⟨ec, hec⟩ : ∃ ec, ess[2]? = some ec := ⟨ess[2]'(by omega), List.getElem?_eq_getElem (by omega)⟩
      obtain ⟨p9, v9, vals9, el⟩ := HBR.out.el hec HB8.out
      have c9 : w8.cell? ⟨e, 2, none⟩ = some (.pointer (some ⟨p9, 0, none⟩)) := el.ce
      have hszc := HSZS.out.1 ec (List.mem_of_getElem? hec)
      have hln := sz_length ec
      have hwt := weight_le ec
      have hsl := litOf_size ec
      have hX : (!isNum (litOf ec)) = X3 := by
        have e3 : ess.getD 2 [] = ec := by rw [List.getD_eq_getElem?_getD, hec]; rfl
        rw [← HX3.out, e3, h3]
        simp
      have HL := Lib.hid (lit_any w8 L p9 v9 vals9 ec el.hp el.row el.par (by omega) (by omega))
      have HS := Lib.hid (show (litOf ec).size ≤ 100000000 by omega)
      have i3 : (2 : Int) < (ess.length : Int) := by omega
      clear el hszc hln hwt hsl hec h3
      cases hnum : isNum (litOf ec) with
      | true =>
        rw [hnum] at hX
        have hX2 : X3 = false := hX.symm
        subst hX2
        have HN := Lib.hid hnum
        clear hnum hX
        go_wp2_with (first
          | (go_at_call 30; refine (HL.out).mono ?_; rintro e1 w2 ⟨rfl, hb2⟩; have HB2 := Lib.hid hb2; clear hb2)
          | (go_at_call 31; refine (parse_yes _ _ HS.out (HE7.out.1.below (HB8.out.trans (HB2.out.mono HB8.out.size)) HE7.out.2.1 HE7.out.2.2) HN.out).mono ?_; rintro e2 w3 ⟨⟨u, rfl⟩, hb3⟩; have HB3 := Lib.hid (HB2.out.trans (hb3.mono HB2.out.size)); clear hb3))
        go_meet
        exact ⟨by rw [Bool.or_false], HB8.out.trans (HB3.out.mono HB8.out.size), (HB3.out.block _ (Array.getElem?_eq_some_iff.1 HTW8.out).1).trans HTW8.out⟩
      | false =>
        rw [hnum] at hX
        have hX2 : X3 = true := hX.symm
        subst hX2
        have HN := Lib.hid hnum
        clear hnum hX
        go_wp2_with (first
          | (go_at_call 30; refine (HL.out).mono ?_; rintro e1 w2 ⟨rfl, hb2⟩; have HB2 := Lib.hid hb2; clear hb2)
          | (go_at_call 31; refine (parse_no _ _ HS.out (HE7.out.1.below (HB8.out.trans (HB2.out.mono HB8.out.size)) HE7.out.2.1 HE7.out.2.2) HN.out).mono ?_; rintro e2 w3 ⟨⟨u, t, q, rfl⟩, hb3⟩; have HB3 := Lib.hid (HB2.out.trans (hb3.mono HB2.out.size)); clear hb3))
        go_meet
        exact ⟨by rw [Bool.or_true], HB8.out.trans (HB3.out.mono HB8.out.size), (HB3.out.block _ (Array.getElem?_eq_some_iff.1 HTW8.out).1).trans HTW8.out⟩
    · have z3 : ((ess.length : Int) == 3) = false := by simp; omega
      by_cases h4 : 3 < ess.length
      · have z4 : (3 : Int) < (ess.length : Int) := by omega
        have hX2 : X3 = true := by rw [← HX3.out]; simp [h4]
        subst hX2
        clear h3 h4
        go_wp2_with fail
        go_meet
        exact ⟨by rw [Bool.or_true], HB8.out, HTW8.out⟩
      · have z4 : ¬ (3 : Int) < (ess.length : Int) := by omega
        have hX2 : X3 = false := by rw [← HX3.out]; simp [h4]; omega
        subst hX2
        clear h3 h4
        go_wp2_with fail
        go_meet
        exact ⟨by rw [Bool.or_false], HB8.out, HTW8.out⟩
  case rest =>
    obtain ⟨h21, hb9, htw9⟩ := hcut
    subst h21
    obtain ⟨w9, hw9⟩ : ∃ w9, wc = w9 := ⟨_, rfl⟩
    rw [hw9] at hb9 htw9 ⊢
    clear hw9
    have t0 : w9.cell? ⟨w7.heap.size, 0, none⟩ = some (.bool ca) := (Lib.cell_of_heap htw9 0).trans rfl
    have t1 : w9.cell? ⟨w7.heap.size, 1, none⟩ = some (.bool cb) := (Lib.cell_of_heap htw9 1).trans rfl
    have HM9 := Lib.hid (HM7.out.grow hb9)
    have HBR9 := Lib.hid hb9
    clear hb9 htw9 c1 HTW8 HB8 HX3
    go_upto_if 354 with fail
    go_cut [21] from 350 to 354 (fun s21 wx => s21 = .bool (B0 || X3 || (ca != cb)) ∧ w9 = wx)
    case first =>
      cases ca <;> cases cb
      all_goals
        go_wp2_with fail
        go_meet
        exact ⟨by simp, rfl⟩
    case rest =>
      obtain ⟨h21, hw9⟩ := hcut
      rw [← HBT.out] at h21
      subst h21
      subst hw9
      clear t0 t1
      have hcu := HCU.out
      rw [cur_push, HESS.out] at hcu
      simp only [List.length_append, List.length_cons, List.length_nil] at hcu
      have HC2 := Lib.hid hcu
      clear hcu HCU
      have cN9 : w9.cell? ⟨N + 5, 0, none⟩ = some (.func (.func 25) #[] #[.pointer (some ⟨N + 2, 0, none⟩)]) := by rw [Lib.cell_of_heap HM9.out.sb.b5]; rfl
      have lN9 : N + 5 < w9.heap.size := HM9.out.sb.lt
      have HLN9 := Lib.hid lN9
      clear lN9
      go_upto_region 86 with fail
      refine region_anyE (fun w' => w'.cell? ⟨N + 5, 0, none⟩ = some (.func (.func 25) #[] #[.pointer (some ⟨N + 2, 0, none⟩)])) 2 (by kernel_rfl) ?_ (fun hS hC => ?_)
      · (try dsimp only); go_keep
      refine anyE_take (i := 0) (v := ?_) [0] (by kernel_rfl) rfl (fun _ _ _ h => h) (by rfl) ?_ hC hS ?_
      rotate_left
      · intro w hSw
        (try dsimp only at hSw)
        go_simp
        (try with_reducible rfl)
      clear hC
      intro hC
      try simp only [Act.put, List.setIfInBounds_toArray, List.set_cons_zero, List.set_cons_succ]
      refine anyE_one (i := 1) (by kernel_rfl) hC rfl (fun K hK => ?_)
      clear hC
      go_simp
      (refine (lbrace_any _).mono ?_; rintro e1 wa9 ⟨q9, rfl, hq1, hb1⟩; have hb2 : Below w9.heap.size w9 wa9 := ((Below.refl w9.heap.size w9).drew).trans hb1; have cNa9 : wa9.cell? ⟨N + 5, 0, none⟩ = some (.func (.func 25) #[] #[.pointer (some ⟨N + 2, 0, none⟩)]) := (hb2.cell (p := ⟨N + 5, 0, none⟩) HLN9.out).trans cN9; have HQ9 := Lib.hid (And.intro hq1 hb2); clear hq1 hb1 hb2; unfold ptr)
      refine hK.out _ _ ?_ ?_
      · (try dsimp only); exact cNa9
      clear hS
      intro hS hC
      clear hK K
      try simp only [Act.put, List.setIfInBounds_toArray, List.set_cons_zero, List.set_cons_succ]
      refine anyE_last (by kernel_rfl) rfl (by kernel_rfl) (fun K hK => ?_)
      clear hC
      go_simp
      (go_at_call 25; refine (addLit_any N T7 (.iface 76 (.pointer (some ⟨b, 0, none⟩)) :: xs) (.brace true ess :: ys) wa9 q9 lb (HM9.out.sb.below HQ9.out.2) HQ9.out.1 (by have := HC2.out; omega)).mono ?_; rintro e2 w10 ⟨rfl, h9, s9⟩)
      refine hK.out _ _ ?_
      clear hK K hS
      refine NoPanic.normal ?_
      try simp only [Act.put, List.setIfInBounds_toArray, List.set_cons_zero, List.set_cons_succ]
      have HM10 := Lib.hid (HM9.out.state h9 ((Still.of_below HQ9.out.2 (by have := HLN9.out; omega)).trans s9))
      clear cN9 cNa9 HQ9 HLN9 h9 s9
      obtain ⟨e2, cap2, br2⟩ : ∃ e2 cap2 : Nat, w10.heap[b]? = some (.cells #[.bool true, .slice (some ⟨e2, 0, none⟩) ess.length cap2] 80 (0, 0)) := by
        obtain ⟨hs, hsb, hst, hxy⟩ := HM10.out.sb
        obtain ⟨e2, cap2, br2⟩ := brace_lies hxy
        exact ⟨e2, cap2, br2.blk⟩
      have cbb : w10.cell? ⟨b, 1, none⟩ = some (.slice (some ⟨e2, 0, none⟩) ess.length cap2) := by rw [Lib.cell_of_heap br2]; rfl
      have HB10 := Lib.hid br2
      have HEN := Lib.hid (show ess.length ≤ 100000000 by omega)
      clear br2
      go_upto_region 87 with fail
      go_wp2_with fail
      refine spillA_loop (N := N) (p := p) (c50 := c50) (c51 := c51) (c52 := c52) (lx := lx) (la := la) (jb := jb) (b := b) (e := e2) (cap := cap2) (T := T7.push [.lit lb]) ?_ HM10.out.sb HB10.out (by rw [cur_push, List.length_append]; have := HC2.out; simp only [List.length_cons, List.length_nil]; omega) HEN.out _ ?_
      · exact ⟨⟨rfl, rfl, rfl, rfl, rfl, rfl, rfl, rfl, rfl, rfl, rfl, rfl, rfl, rfl, rfl, rfl⟩, rfl, rfl, rfl⟩
      intro a11 w11 sf11 h11 s11
      have HM11 := Lib.hid (HM10.out.state h11 s11)
      clear h11 s11 cbb f
      obtain ⟨fr11, g374, g375, g376⟩ := sf11
      clear g374 g375 g376
      obtain ⟨f, hf, ht⟩ := frame_lit a11.tmps fr11.size
      obtain ⟨t, d⟩ := a11
      have hd : d = [] := fr11.defers
      subst hd
      have h0 := (hf 0).trans fr11.s0
      have h2 := (hf 2).trans fr11.s2
      have h3 := (hf 3).trans fr11.s3
      have h4 := (hf 4).trans fr11.s4
      have h5 := (hf 5).trans fr11.s5
      have h6 := (hf 6).trans fr11.s6
      have h7 := (hf 7).trans fr11.s7
      have h8 := (hf 8).trans fr11.s8
      have h11 := (hf 11).trans fr11.s11
      have h13 := (hf 13).trans fr11.s13
      have h14 := (hf 14).trans fr11.s14
      have h50 := (hf 50).trans fr11.s50
      have h51 := (hf 51).trans fr11.s51
      have h52 := (hf 52).trans fr11.s52
      simp only [h0, h2, h3, h4, h5, h6, h7, h8, h11, h13, h14, h50, h51, h52] at ht
      have ht2 : t = _ := ht
      subst ht2
      clear hf ht fr11 h0 h2 h3 h4 h5 h6 h7 h8 h11 h13 h14 h50 h51 h52
      unfold ptr
      have cN11 : w11.cell? ⟨N + 5, 0, none⟩ = some (.func (.func 25) #[] #[.pointer (some ⟨N + 2, 0, none⟩)]) := by rw [Lib.cell_of_heap HM11.out.sb.b5]; rfl
      have lN11 : N + 5 < w11.heap.size := HM11.out.sb.lt
      have HLN11 := Lib.hid lN11
      clear lN11
      go_upto_region 94 with fail
      refine region_anyE (fun w' => w'.cell? ⟨N + 5, 0, none⟩ = some (.func (.func 25) #[] #[.pointer (some ⟨N + 2, 0, none⟩)])) 2 (by kernel_rfl) ?_ (fun hS hC => ?_)
      · (try dsimp only); go_keep
      refine anyE_take (i := 0) (v := ?_) [0] (by kernel_rfl) rfl (fun _ _ _ h => h) (by rfl) ?_ hC hS ?_
      rotate_left
      · intro w hSw
        (try dsimp only at hSw)
        go_simp
        (try with_reducible rfl)
      clear hC
      intro hC
      try simp only [Act.put, List.setIfInBounds_toArray, List.set_cons_zero, List.set_cons_succ]
      refine anyE_one (i := 1) (by kernel_rfl) hC rfl (fun K hK => ?_)
      clear hC
      go_simp
      (refine (rbrace_any _).mono ?_; rintro e1 wa11 ⟨q11, rfl, hq1, hb1⟩; have hb2 : Below w11.heap.size w11 wa11 := ((Below.refl w11.heap.size w11).drew).trans hb1; have cNa11 : wa11.cell? ⟨N + 5, 0, none⟩ = some (.func (.func 25) #[] #[.pointer (some ⟨N + 2, 0, none⟩)]) := (hb2.cell (p := ⟨N + 5, 0, none⟩) HLN11.out).trans cN11; have HQ11 := Lib.hid (And.intro hq1 hb2); clear hq1 hb1 hb2; unfold ptr)
      refine hK.out _ _ ?_ ?_
      · (try dsimp only); exact cNa11
      clear hS
      intro hS hC
      clear hK K
      try simp only [Act.put, List.setIfInBounds_toArray, List.set_cons_zero, List.set_cons_succ]
      refine anyE_last (by kernel_rfl) rfl (by kernel_rfl) (fun K hK => ?_)
      clear hC
      go_simp
      (go_at_call 25; refine (addLit_any N ((T7.push [.lit lb]).push (sepBy dots ess)) (.iface 76 (.pointer (some ⟨b, 0, none⟩)) :: xs) (.brace true ess :: ys) wa11 q11 rb (HM11.out.sb.below HQ11.out.2) HQ11.out.1 (by rw [cur_push, cur_push, List.length_append, List.length_append]; have := HC2.out; simp only [List.length_cons, List.length_nil]; omega)).mono ?_; rintro e2 w12 ⟨rfl, h9, s9⟩)
      refine hK.out _ _ ?_
      clear hK K hS
      refine NoPanic.normal ?_
      try simp only [Act.put, List.setIfInBounds_toArray, List.set_cons_zero, List.set_cons_succ]
      have HM12 := Lib.hid (HM11.out.state h9 ((Still.of_below HQ11.out.2 (by have := HLN11.out; omega)).trans s9))
      clear cN11 cNa11 HQ11 HLN11 h9 s9
      have h20 := HM12.out.sb.tail
      rw [push_push, push_push, ← List.append_assoc, ← HT7.out, ← HESS.out] at h20
      have HM20 := Lib.hid (HM12.out.state h20 (Still.refl _ _))
      clear h20
      have hbj := HM20.out.bj
      have hbl := HM20.out.bl
      have k1 : w12.cell? ⟨jb, 0, none⟩ = some (.int .i64 (j : Int)) := by rw [Lib.cell_of_heap hbj]; rfl
      have k2 : w12.cell? ⟨la, 0, none⟩ = some (.int .i64 last) := by rw [Lib.cell_of_heap hbl]; rfl
      have k3 : w12.frozen? ⟨la, 0, none⟩ = false := Lib.frozen_of_heap hbl 0
      have k4 : jb < w12.heap.size := (Array.getElem?_eq_some_iff.1 hbj).1
      have k5 : la < w12.heap.size := (Array.getElem?_eq_some_iff.1 hbl).1
      clear hbj hbl
      have hms := HM20.out.setl (j + 1)
      rw [Int.natCast_add, Int.natCast_one] at hms
      have HM21 := Lib.hid hms
      clear hms
      go_upto_region 96 with fail
      have k6 : (w12.setCell ⟨la, 0, none⟩ (.int .i64 ((j : Int) + 1))).cell? ⟨jb, 0, none⟩ = some (.int .i64 (j : Int)) := by have := HM21.out.bj; rw [Lib.cell_of_heap this]; rfl
      generalize w12.setCell ⟨la, 0, none⟩ (.int .i64 ((j : Int) + 1)) = w22 at *
      clear k1 k2 k3 k4 k5
      go_wp2_with fail
      have hn := HM21.out.next (Below.refl _ _) (j + 1)
      rw [Int.natCast_add, Int.natCast_one] at hn
      exact ⟨_, ⟨rfl, rfl, rfl, rfl, rfl, rfl, rfl, rfl, rfl, rfl, rfl, rfl, rfl, rfl, rfl, rfl⟩, hn⟩

end Go.Proofs.YtmcoifhiiagfpaaDoor

namespace Go.Proofs.YtmcoifhiiagfpaaDoor
open Go.RowKit
set_option linter.unusedSectionVars false
variable [Pw]

/-- A sequence under construction has an element behind it. -/
def SeqOk (st : St) : Prop := ∀ f ∈ st.stack, f.seq = true → f.done ≠ []

theorem stack_sz : ∀ (l : List Frame) (f : Frame), f ∈ l → f.sz ≤ (l.map Frame.sz).sum
  | [], f, h => by cases h
  | a :: r, f, h => by
    rw [List.map_cons, List.sum_cons]
    rcases List.mem_cons.1 h with rfl | h
    · omega
    · have := stack_sz r f h
      omega
theorem stack_len : ∀ (l : List Frame), l.length ≤ (l.map Frame.sz).sum
  | [] => Nat.le_refl _
  | a :: r => by
    rw [List.map_cons, List.sum_cons, List.length_cons]
    have := stack_len r
    have h : 4 ≤ a.sz := by unfold Frame.sz; omega
    omega
theorem esz_len : ∀ (l : List (List Part)), 3 * l.length ≤ esz l
  | [] => Nat.le_refl _
  | a :: r => by
    have := esz_len r
    show 3 * (r.length + 1) ≤ (sz a + 3) + esz r
    omega
theorem esz_mem : ∀ (l : List (List Part)) (es : List Part), es ∈ l → sz es ≤ esz l
  | [], es, h => by cases h
  | a :: r, es, h => by
    show sz es ≤ (sz a + 3) + esz r
    rcases List.mem_cons.1 h with rfl | h
    · omega
    · have := esz_mem r es h
      omega
theorem cur_sz (st : St) : st.cur.length ≤ st.sz := by
  obtain ⟨top, stack⟩ := st
  cases stack with
  | nil =>
    have := sz_length top
    show top.length ≤ _
    simp only [St.sz]
    omega
  | cons f r =>
    have h1 := sz_length f.acc
    have h2 := esz_mem f.elems f.acc (by simp [Frame.elems])
    have h3 := stack_sz (f :: r) f (List.mem_cons_self ..)
    show f.acc.length ≤ _
    have h4 : f.sz = esz f.elems + 4 := rfl
    simp only [St.sz] at h3 ⊢
    omega

/-- The facts on sizes that a byte wants. -/
theorem flush_facts (st : St) (v : ByteArray) (last j : Nat) (hl : last ≤ j) (hj : j ≤ v.size) (B : Nat) (hB : st.sz + (j - last) + 1 ≤ B) (f6 : Frame) (r6 : List Frame) (h6 : (st.flush v last j).stack = f6 :: r6) :
    3 * f6.done.length + 3 ≤ B ∧ (∀ es ∈ f6.elems, sz es ≤ B) ∧ (sepBy dots f6.elems).length ≤ B ∧ (⟨(st.flush v last j).top, r6⟩ : St).cur.length + (closed f6).length ≤ B := by
  have hf := flush_sz st v last j hl hj
  have hs : (st.flush v last j).sz = sz (st.flush v last j).top + (f6.sz + (r6.map Frame.sz).sum) := by
    unfold St.sz
    rw [h6, List.map_cons, List.sum_cons]
  have h1 := esz_len f6.elems
  have h2 : f6.elems.length = f6.done.length + 1 := by simp [Frame.elems]
  have h3 : f6.sz = esz f6.elems + 4 := rfl
  have h4 := sepBy_sz dots (by decide) f6.elems
  have h5 := sz_length (sepBy dots f6.elems)
  have h7 := cur_sz ⟨(st.flush v last j).top, r6⟩
  have h8 : (⟨(st.flush v last j).top, r6⟩ : St).sz = sz (st.flush v last j).top + (r6.map Frame.sz).sum := rfl
  have h9 := sz_length (closed f6)
  have h10 := closed_sz f6
  refine ⟨by omega, fun es he => ?_, by omega, by omega⟩
  have := esz_mem f6.elems es he
  omega
theorem flush_seq (st : St) (v : ByteArray) (last j : Nat) (h : SeqOk st) : SeqOk (st.flush v last j) := by
  unfold St.flush
  split
  · exact h
  · obtain ⟨top, stack⟩ := st
    cases stack with
    | nil => exact h
    | cons f r =>
      intro g hg
      rcases List.mem_cons.1 hg with rfl | hg
      · exact h f (List.mem_cons_self ..)
      · exact h g (List.mem_cons_of_mem _ hg)
theorem push_seq (st : St) (ps : List Part) (h : SeqOk st) : SeqOk (st.push ps) := by
  obtain ⟨top, stack⟩ := st
  cases stack with
  | nil => exact h
  | cons f r =>
    intro g hg
    rcases List.mem_cons.1 hg with rfl | hg
    · exact h f (List.mem_cons_self ..)
    · exact h g (List.mem_cons_of_mem _ hg)
theorem stepB_seq (v : ByteArray) (j last : Nat) (st : St) (h : SeqOk st) : SeqOk (stepB v j last st).2.2 := by
  have hf := flush_seq st v last j h
  have tl : ∀ {f : Frame} {r : List Frame}, (st.flush v last j).stack = f :: r → ∀ g ∈ r, g.seq = true → g.done ≠ [] := fun {f r} e g hg => hf g (by rw [e]; exact List.mem_cons_of_mem _ hg)
  unfold stepB
  split
  · exact h
  · split
    · intro g hg
      rcases List.mem_cons.1 hg with rfl | hg
      · intro e; cases e
      · exact hf g hg
    · split
      · split
        · exact h
        · rename_i f r hfr
          intro g hg
          rcases List.mem_cons.1 hg with rfl | hg
          · split
            · intro e; cases e
            · intro e; cases e
          · exact tl hfr g hg
      · split
        · split
          · exact h
          · split
            · exact h
            · split
              · exact h
              · split
                · exact h
                · rename_i f r hfr
                  intro g hg
                  rcases List.mem_cons.1 hg with rfl | hg
                  · intro _
                    simp [Frame.elems]
                  · exact tl hfr g hg
        · split
          · split
            · exact h
            · rename_i f r hfr
              refine push_seq _ _ ?_
              intro g hg
              exact tl hfr g hg
          · exact h

theorem flush_top (st : St) (v : ByteArray) (last j : Nat) : (st.stack = [] ↔ (st.flush v last j).stack = []) ∧ ∀ f r, st.stack = f :: r → ∃ f6, (st.flush v last j).stack = f6 :: r ∧ f6.seq = f.seq ∧ f6.done = f.done := by
  unfold St.flush
  split
  · exact ⟨Iff.rfl, fun f r h => ⟨f, h, rfl, rfl⟩⟩
  · obtain ⟨top, stack⟩ := st
    cases stack with
    | nil => exact ⟨Iff.rfl, fun f r h => by cases h⟩
    | cons f r =>
      refine ⟨⟨(fun h => by cases h), (fun h => by cases h)⟩, fun f' r' h => ?_⟩
      cases h
      exact ⟨_, rfl, rfl, rfl⟩

theorem byte_any {N p : Nat} {c50 c51 c52 : Value} {lx la jb : Nat} {a : Act} (fr : Fr N p c50 c51 c52 lx la jb a) {v : ByteArray} {q j last : Nat} {st : St} {xs : List Value} {ys : List Part} {w0 w : World} (m : In N v q lx la jb j last st xs ys w0 w) (hj : j < v.size) (hv : v.size ≤ 100000000)
    (hl : last ≤ j) (hok : SeqOk st) (hsz : st.sz + (j - last) + 1 ≤ 100000000) (hE : Errs w0) (hE1 : 0 < N) (hE2 : 1 < N) (Q0 : Exit → Act → World → Prop) :
    Code.wp Tryd.prog (bodyOf 1) (Exit.then (fun a' w' => ∃ jb', Fr N p c50 c51 c52 lx la jb' a' ∧ In N v q lx la jb' (stepB v j last st).1 (stepB v j last st).2.1 (stepB v j last st).2.2 xs ys w0 w') Q0) a w := by
  have hcur : st.cur.length ≤ 100000000 := by have := cur_sz st; omega
  have hstk : st.stack.length ≤ 100000000 := by
    have := stack_len st.stack
    have h2 : st.sz = sz st.top + (st.stack.map Frame.sz).sum := rfl
    omega
  by_cases c1 : bt v j = 92
  · have e : stepB v j last st = (j + 2, last, st) := by unfold stepB; rw [if_pos c1]
    rw [e]
    exact byte_escape fr m hj hv c1 Q0
  by_cases c2 : bt v j = 123
  · have e : stepB v j last st = (j + 1, j + 1, { st.flush v last j with stack := ⟨false, [], []⟩ :: (st.flush v last j).stack }) := by unfold stepB; rw [if_neg c1, if_pos c2]
    rw [e]
    exact byte_open fr m hj hv hl hcur hstk c2 Q0
  by_cases c3 : bt v j = 44
  · cases hst : st.stack with
    | nil =>
      have e : stepB v j last st = (j + 1, last, st) := by
        unfold stepB
        rw [if_neg c1, if_neg c2, if_pos c3, (flush_top st v last j).1.1 hst]
      rw [e]
      exact byte_skip fr m hj hv (Or.inl c3) hst Q0
    | cons fr0 r0 =>
      obtain ⟨f6, h6, hs6, hd6⟩ := (flush_top st v last j).2 fr0 r0 hst
      obtain ⟨b1, b2, b3, b4⟩ := flush_facts st v last j hl (by omega) 100000000 hsz f6 r0 h6
      cases hsq : f6.seq with
      | false =>
        have e : stepB v j last st = (j + 1, j + 1, { st.flush v last j with stack := ⟨false, f6.elems, []⟩ :: r0 }) := by
          unfold stepB
          rw [if_neg c1, if_neg c2, if_pos c3]
          simp only [h6, hsq]
          rfl
        rw [e]
        exact byte_comma fr m hj hv c3 fr0 r0 hst hl hcur f6 r0 h6 hsq (by omega) Q0
      | true =>
        have e : stepB v j last st = (j + 1, j + 1, { st.flush v last j with stack := ⟨false, [sepBy dots f6.elems], []⟩ :: r0 }) := by
          unfold stepB
          rw [if_neg c1, if_neg c2, if_pos c3]
          simp only [h6, hsq]
          rfl
        rw [e]
        exact byte_merge fr m hj hv c3 fr0 r0 hst hl hcur f6 r0 h6 hsq (flush_seq st v last j hok f6 (by rw [h6]; exact List.mem_cons_self ..) hsq) (by omega) b3 Q0
  by_cases c4 : bt v j = 46
  · cases hst : st.stack with
    | nil =>
      have e : stepB v j last st = (j + 1, last, st) := by
        unfold stepB
        rw [if_neg c1, if_neg c2, if_neg c3, if_pos c4, hst]
      rw [e]
      exact byte_skip fr m hj hv (Or.inr (Or.inl c4)) hst Q0
    | cons fr0 r0 =>
      obtain ⟨f6, h6, hs6, hd6⟩ := (flush_top st v last j).2 fr0 r0 hst
      obtain ⟨b1, b2, b3, b4⟩ := flush_facts st v last j hl (by omega) 100000000 hsz f6 r0 h6
      by_cases hn : v.size ≤ j + 1 ∨ bt v (j + 1) ≠ 46
      · have e : stepB v j last st = (j + 1, last, st) := by
          unfold stepB
          rw [if_neg c1, if_neg c2, if_neg c3, if_pos c4, hst]
          simp only [if_pos hn]
        rw [e]
        exact byte_dot1 fr m hj hv c4 (by rw [hst]; simp) hn Q0
      · have hn2 : j + 1 < v.size ∧ bt v (j + 1) = 46 := by
          refine ⟨by omega, ?_⟩
          by_cases hx : bt v (j + 1) = 46
          · exact hx
          · exact absurd (Or.inr hx) hn
        by_cases hq : fr0.seq = false ∧ fr0.done ≠ []
        · have e : stepB v j last st = (j + 1, last, st) := by
            unfold stepB
            rw [if_neg c1, if_neg c2, if_neg c3, if_pos c4, hst]
            simp only [if_neg hn, if_pos hq]
          rw [e]
          exact byte_dot2 fr m hj hv c4 fr0 r0 hst hq.1 hq.2 (by rw [← hd6]; omega) hn2.1 hn2.2 Q0
        · have e : stepB v j last st = (j + 2, j + 2, { st.flush v last j with stack := ⟨true, f6.elems, []⟩ :: r0 }) := by
            unfold stepB
            rw [if_neg c1, if_neg c2, if_neg c3, if_pos c4, hst]
            simp only [if_neg hn, if_neg hq, h6]
          rw [e]
          refine byte_dots fr m hj hv c4 fr0 r0 hst ?_ (by rw [← hd6]; omega) hl hcur f6 r0 h6 hn2.1 hn2.2 (by omega) Q0
          cases hs : fr0.seq with
          | true => exact Or.inl rfl
          | false =>
            refine Or.inr ?_
            by_cases hx : fr0.done = []
            · exact hx
            · exact absurd ⟨hs, hx⟩ hq
  by_cases c5 : bt v j = 125
  · cases hst : st.stack with
    | nil =>
      have e : stepB v j last st = (j + 1, last, st) := by
        unfold stepB
        rw [if_neg c1, if_neg c2, if_neg c3, if_neg c4, if_pos c5, (flush_top st v last j).1.1 hst]
      rw [e]
      exact byte_skip fr m hj hv (Or.inr (Or.inr c5)) hst Q0
    | cons fr0 r0 =>
      obtain ⟨f6, h6, hs6, hd6⟩ := (flush_top st v last j).2 fr0 r0 hst
      obtain ⟨b1, b2, b3, b4⟩ := flush_facts st v last j hl (by omega) 100000000 hsz f6 r0 h6
      have e : stepB v j last st = (j + 1, j + 1, ({ st.flush v last j with stack := r0 } : St).push (closed f6)) := by
        unfold stepB
        rw [if_neg c1, if_neg c2, if_neg c3, if_neg c4, if_pos c5, h6]
      rw [e]
      have hel : f6.elems.length = f6.done.length + 1 := by simp [Frame.elems]
      by_cases hd : f6.done = []
      · have ec : closed f6 = [.lit lb] ++ f6.acc ++ [.lit rb] := by
          unfold closed
          rw [if_pos (by rw [hel, hd]; rfl)]
        rw [ec] at b4 ⊢
        exact byte_closeA fr m hj hv c5 fr0 r0 hst hl hcur f6 r0 h6 hd (by rw [cur_push, List.length_append]; exact b4) Q0
      · have hne : ¬ f6.elems.length = 1 := by
          have := List.length_pos_iff.2 hd
          omega
        cases hsq : f6.seq with
        | false =>
          have ec : closed f6 = [.brace false f6.elems] := by
            unfold closed
            rw [if_neg hne, hsq]
            rfl
          rw [ec] at b4 ⊢
          exact byte_closeB fr m hj hv c5 fr0 r0 hst hl hcur f6 r0 h6 hsq (by omega) hd (by omega) Q0
        | true =>
          cases hbk : broken f6.elems with
          | false =>
            have ec : closed f6 = [.brace true f6.elems] := by
              unfold closed
              rw [if_neg hne, hsq, hbk]
              rfl
            rw [ec] at b4 ⊢
            exact byte_closeC fr m hj hv c5 fr0 r0 hst hl hcur f6 r0 h6 hsq (by omega) hd hbk b2 hE hE1 hE2 (by omega) Q0
          | true =>
            have ec : closed f6 = [.lit lb] ++ sepBy dots f6.elems ++ [.lit rb] := by
              unfold closed
              rw [if_neg hne, hsq, hbk]
              rfl
            rw [ec] at b4 ⊢
            exact byte_closeD fr m hj hv c5 fr0 r0 hst hl hcur f6 r0 h6 hsq (by omega) hd hbk b2 hE hE1 hE2 (by rw [cur_push, List.length_append]; exact b4) Q0
  · have e : stepB v j last st = (j + 1, last, st) := by
      unfold stepB
      rw [if_neg c1, if_neg c2, if_neg c3, if_neg c4, if_neg c5]
    rw [e]
    exact byte_other fr m hj hv c1 c2 c3 c4 c5 Q0
end Go.Proofs.YtmcoifhiiagfpaaDoor

namespace Go.Proofs.YtmcoifhiiagfpaaDoor
open Go.RowKit
set_option linter.unusedSectionVars false
variable [Pw]

set_option maxRecDepth 1000000 in
set_option maxHeartbeats 2000000 in
theorem bytes_exit {N p : Nat} {c50 c51 c52 : Value} {lx la jb : Nat} {a : Act} (fr : Fr N p c50 c51 c52 lx la jb a) {v : ByteArray} {q j last : Nat} {st : St} {xs : List Value} {ys : List Part} {w0 w : World} (m : In N v q lx la jb j last st xs ys w0 w) (hj : v.size ≤ j) (hv : j ≤ 100000001)
    (Q : Exit → Act → World → Prop) (hQ : ∀ a' w', Fr N p c50 c51 c52 lx la jb a' → In N v q lx la jb j last st xs ys w0 w' → Q (.exit 2) a' w') :
    Code.wp Tryd.prog (bodyOf 1) Q a w := by
  obtain ⟨f, hf, ht⟩ := frame_lit a.tmps fr.size
  obtain ⟨t, d⟩ := a
  have hd : d = [] := fr.defers
  subst hd
  have h0 := (hf 0).trans fr.s0
  have h2 := (hf 2).trans fr.s2
  have h3 := (hf 3).trans fr.s3
  have h4 := (hf 4).trans fr.s4
  have h5 := (hf 5).trans fr.s5
  have h6 := (hf 6).trans fr.s6
  have h7 := (hf 7).trans fr.s7
  have h8 := (hf 8).trans fr.s8
  have h11 := (hf 11).trans fr.s11
  have h13 := (hf 13).trans fr.s13
  have h14 := (hf 14).trans fr.s14
  have h50 := (hf 50).trans fr.s50
  have h51 := (hf 51).trans fr.s51
  have h52 := (hf 52).trans fr.s52
  simp only [h0, h2, h3, h4, h5, h6, h7, h8, h11, h13, h14, h50, h51, h52] at ht
  have ht2 : t = _ := ht
  subst ht2
  clear hf ht fr h0 h2 h3 h4 h5 h6 h7 h8 h11 h13 h14 h50 h51 h52
  obtain ⟨x1, x2, x3, x4, hqb⟩ := m.lit
  have bx := m.bx
  have bj := m.bj
  have cj : w.cell? ⟨jb, 0, none⟩ = some (.int .i64 j) := by rw [Lib.cell_of_heap bj]; rfl
  have cx : w.cell? ⟨lx, 0, none⟩ = some (.pointer (some ⟨q, 0, none⟩)) := by rw [Lib.cell_of_heap bx]; rfl
  have q4 : w.cell? ⟨q, 4, none⟩ = some (.string v) := by rw [Lib.cell_of_heap hqb]; rfl
  have hz : ¬ (j : Int) < (v.size : Int) := by omega
  have hz2 : (j : Int) ≤ 100000001 := by omega
  have M := Lib.hid m
  have HQ := Lib.hid hQ
  clear hqb bx bj m hj hQ
  conv => arg 2; whnf
  unfold ptr
  go_upto_region 17 with fail
  go_quiet (fail)
  have HD := Lib.hid (below_drewN (Below.refl w.heap.size w) nq)
  generalize w.drewN nq = w1 at *
  clear cj cx q4
  go_wp2_with fail
  exact HQ.out _ _ ⟨rfl, rfl, rfl, rfl, rfl, rfl, rfl, rfl, rfl, rfl, rfl, rfl, rfl, rfl, rfl, rfl⟩ (M.out.grow HD.out)

theorem bytes_loop {N p : Nat} {c50 c51 c52 : Value} {lx la jb : Nat} {a : Act} (fr : Fr N p c50 c51 c52 lx la jb a) {v : ByteArray} {q : Nat} {st : St} {xs : List Value} {ys : List Part} {w0 w : World} (m : In N v q lx la jb 0 0 st xs ys w0 w) (hok : SeqOk st) (hsz : st.sz + 9 * (v.size + 2) + 1 ≤ 100000000) (hE : Errs w0) (hE1 : 0 < N) (hE2 : 1 < N)
    (Q : Exit → Act → World → Prop) (hQ : ∀ a' w' jb' j', Fr N p c50 c51 c52 lx la jb' a' → In N v q lx la jb' j' (runB v (v.size + 1) 0 0 st).1 (runB v (v.size + 1) 0 0 st).2 xs ys w0 w' → SeqOk (runB v (v.size + 1) 0 0 st).2 → Q (.exit 2) a' w') :
    Code.wp Tryd.prog (Code.loop (bodyOf 1)) Q a w := by
  refine wp_loop_ghost (fun n a' w' => ∃ jb j last st', Fr N p c50 c51 c52 lx la jb a' ∧ In N v q lx la jb j last st' xs ys w0 w' ∧ runB v n j last st' = runB v (v.size + 1) 0 0 st ∧ v.size < n + j ∧ last ≤ j ∧ SeqOk st' ∧ st'.sz + (j - last) + 9 * (v.size + 2 - j) + 1 ≤ 100000000 ∧ j ≤ v.size + 1) (v.size + 1) ⟨jb, 0, 0, st, fr, m, rfl, by omega, Nat.le_refl _, hok, by omega, by omega⟩ ?_
  rintro n a1 w1 ⟨jb1, j, last, st1, fr1, m1, hr, hn, hl, hok1, hs1, hj1⟩
  by_cases hj : j < v.size
  · obtain ⟨f, rfl⟩ : ∃ f, n = f + 1 := ⟨n - 1, by omega⟩
    refine Code.wp_mono ?_ (byte_any fr1 m1 hj (by omega) hl hok1 (by omega) hE hE1 hE2 Q)
    intro ex a' w' hq
    cases ex with
    | normal =>
      obtain ⟨jb', hf', hm'⟩ := hq
      obtain ⟨s1, s2, s3, s4⟩ := stepB_sz v j last st1 hl hj
      have s5 := stepB_seq v j last st1 hok1
      have hr2 : runB v f (stepB v j last st1).1 (stepB v j last st1).2.1 (stepB v j last st1).2.2 = runB v (v.size + 1) 0 0 st := by
        rw [← hr]
        conv => rhs; unfold runB
        rw [if_pos hj]
      exact ⟨f, by omega, jb', _, _, _, hf', hm', hr2, by omega, s1, s5, by omega, by omega⟩
    | exit id => exact hq
    | goto l => exact hq
    | ret => exact hq
    | panic ch => exact hq
    | outgrown => exact hq
  · have hr2 : runB v (v.size + 1) 0 0 st = (last, st1) := by
      rw [← hr]
      cases n with
      | zero => rfl
      | succ f =>
        unfold runB
        rw [if_neg hj]
    refine bytes_exit fr1 m1 (by omega) (by omega) _ (fun a' w' hf' hm' => ?_)
    refine hQ a' w' jb1 j hf' ?_ ?_
    · rw [hr2]
      exact hm'
    · rw [hr2]
      exact hok1
end Go.Proofs.YtmcoifhiiagfpaaDoor
