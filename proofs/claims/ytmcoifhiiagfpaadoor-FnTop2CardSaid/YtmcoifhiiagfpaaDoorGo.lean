/-
  The law's items written out, walked.
  The law's items written out, walked.
  The word's parts written out, walked.
-/
import Derived.Test.YtmcoifhiiagfpaaDoorGn
namespace Go.Proofs.YtmcoifhiiagfpaaDoor
open Go.RowKit
set_option linter.unusedVariables false

/-- What has been written by now, and what is left of the rest. -/
structure SL (B b : Nat) (l : List UInt8) (w w' : World) : Prop where
  bld : Bld B b l w'
  kept : KeptR B w w'
theorem Bld.blk {B b : Nat} {l : List UInt8} {w : World} (h : Bld B b l w) : ∃ c, w.heap[b]? = some (.cells c 34 (0, 0)) := by
  rcases h with h | h <;>
  · obtain ⟨_, v, hbk, _⟩ := h
    exact ⟨_, hbk⟩
section
variable {B b : Nat} {l l' : List UInt8} {w w1 : World}
theorem SL.to (h : SL B b l w w1) (e : l = l') : SL B b l' w w1 := e ▸ h
theorem SL.str (h : SL B b l w w1) (s : ByteArray) (hl : l.length ≤ 100000000) (hs : s.size ≤ 100000000) :
    Calls Tryd.prog 16 #[.pointer (some ⟨b, 0, none⟩), .string s] w1 fun e w2 => e = .returned (.tuple #[.int .i64 s.size, .nilIface]) ∧ SL B b (l ++ s.data.toList) w w2 := by
  obtain ⟨c, hc⟩ := h.bld.blk
  refine (wstr B b l s w1 h.bld hl hs).mono ?_
  rintro e w2 ⟨rfl, a1, a2⟩
  exact ⟨rfl, a1, h.kept.trans (a2.r hc (Or.inr rfl))⟩
theorem SL.byte (h : SL B b l w w1) (c : UInt8) (n : Int) (hn : (c.toNat : Int) = n) (hl : l.length ≤ 100000000) :
    Calls Tryd.prog 17 #[.pointer (some ⟨b, 0, none⟩), .int .u8 n] w1 fun e w2 => e = .returned .nilIface ∧ SL B b (l ++ [c]) w w2 := by
  subst hn
  obtain ⟨k, hc⟩ := h.bld.blk
  refine (wbyte B b l c w1 h.bld hl).mono ?_
  rintro e w2 ⟨rfl, a1, a2⟩
  exact ⟨rfl, a1, h.kept.trans (a2.r hc (Or.inr rfl))⟩
theorem SL.below (h : SL B b l w w1) {w2 : World} (hb : Below w1.heap.size w1 w2) : SL B b l w w2 := ⟨h.bld.below hb (Nat.le_refl _), h.kept.trans (KeptR.of_below hb h.bld.hw)⟩
end
/-! ### What is written by now -/
def sepB (j : Nat) : List UInt8 := if j = 0 then [] else [124]
section
variable (qt : TypeId → Value → List UInt8)
theorem serIR_append : ∀ a b : List (List Item), serIR qt (a ++ b) = serIR qt a ++ serIR qt b
  | [], b => by simp [serIR]
  | w :: r, b => by rw [List.cons_append, serIR, serIR, serIR_append r b]; simp
theorem serIE_snoc (a : List (List Item)) (w : List Item) : serIE qt (a ++ [w]) = serIE qt a ++ sepB a.length ++ serIW qt w := by
  cases a with
  | nil => simp [serIE, serIR, sepB]
  | cons x r =>
    rw [List.cons_append, serIE, serIE, serIR_append]
    simp [serIR, sepB]
theorem serIE_app (a b : List (List Item)) : ∃ r, serIE qt (a ++ b) = serIE qt a ++ r := by
  cases a with
  | nil => exact ⟨_, by simp [serIE]; rfl⟩
  | cons x r => exact ⟨serIR qt b, by rw [List.cons_append, serIE, serIE, serIR_append]; simp⟩
theorem serIE_take {es : List (List Item)} {j : Nat} {e : List Item} (h : es[j]? = some e) : serIE qt (es.take (j + 1)) = serIE qt (es.take j) ++ sepB j ++ serIW qt e ∧ (serIE qt (es.take j)).length + (sepB j).length + (serIW qt e).length ≤ (serIE qt es).length := by
  have hlt := (List.getElem?_eq_some_iff.1 h).1
  have e1 : es.take (j + 1) = es.take j ++ [e] := by
    rw [List.take_succ_eq_append_getElem hlt, (List.getElem?_eq_some_iff.1 h).2]
  have e2 : serIE qt (es.take (j + 1)) = serIE qt (es.take j) ++ sepB j ++ serIW qt e := by
    rw [e1, serIE_snoc, List.length_take, Nat.min_eq_left (by omega)]
  refine ⟨e2, ?_⟩
  obtain ⟨r, hr⟩ := serIE_app qt (es.take (j + 1)) (es.drop (j + 1))
  rw [List.take_append_drop] at hr
  rw [hr, e2, List.length_append, List.length_append, List.length_append]
  omega
theorem serIW_append : ∀ a b : List Item, serIW qt (a ++ b) = serIW qt a ++ serIW qt b
  | [], b => by simp [serIW]
  | i :: r, b => by rw [List.cons_append, serIW, serIW, serIW_append r b]; simp
theorem serIW_one (i : Item) : serIW qt [i] = serI qt i := by simp [serIW]
theorem serIW_take {is : List Item} {k : Nat} {i : Item} (h : is[k]? = some i) : serIW qt (is.take (k + 1)) = serIW qt (is.take k) ++ serI qt i ∧ (serIW qt (is.take k)).length + (serI qt i).length ≤ (serIW qt is).length := by
  have hlt := (List.getElem?_eq_some_iff.1 h).1
  have e1 : is.take (k + 1) = is.take k ++ [i] := by
    rw [List.take_succ_eq_append_getElem hlt, (List.getElem?_eq_some_iff.1 h).2]
  have e2 : serIW qt (is.take (k + 1)) = serIW qt (is.take k) ++ serI qt i := by
    rw [e1, serIW_append, serIW_one]
  refine ⟨e2, ?_⟩
  have e3 : (serIW qt is).length = (serIW qt (is.take (k + 1) ++ is.drop (k + 1))).length := by rw [List.take_append_drop]
  rw [e3, serIW_append, e2, List.length_append, List.length_append]
  omega
end
def quo (s : List UInt8) : ByteArray := ⟨#[39]⟩ ++ bytesOf s ++ ⟨#[39]⟩
theorem quo_list (s : List UInt8) : (quo s).data.toList = 39 :: (s ++ [39]) := by
  unfold quo
  simp [bytesOf]
theorem quo_size {s : List UInt8} (h : s.length ≤ 5) : (quo s).size ≤ 100000000 := by
  have : (quo s).size = (quo s).data.toList.length := by rw [Array.length_toList]; rfl
  rw [this, quo_list]
  simp
  omega
/-- The contract. -/
def SeriC (is : List Item) : Prop := ∀ (B b : Nat) (l : List UInt8) (w : World) (v : Value) (ptrs : List Nat), Bld B b l w → PtrsAt w NoL v ptrs → ItemsAt w NoL ptrs is → okW is = true → costW is ≤ 10000000 → l.length + (serIW qt0 is).length ≤ 100000000 →
    Calls Tryd.prog 8 #[v, .pointer (some ⟨b, 0, none⟩)] w fun e w' => e = .returned (.tuple #[]) ∧ SL B b (l ++ serIW qt0 is) w w'

end Go.Proofs.YtmcoifhiiagfpaaDoor

namespace Go.Proofs.YtmcoifhiiagfpaaDoor
open Go.RowKit
set_option linter.unusedVariables false

set_option maxRecDepth 100000 in
set_option maxHeartbeats 8000000 in
theorem seri_step (is : List Item) (hrec : ∀ es e, Item.lst es ∈ is → e ∈ es → SeriC e) : SeriC is := by
  intro B b l w v ptrs hs hp hi hok hcw hC
  obtain ⟨ao, cap, rfl, hform⟩ := hp.form
  have hlen := hi.length
  have HFORM := Lib.hid hform
  have HPC := Lib.hid (fun (wr : World) (kk : KeptR B w wr) (k q : Nat) (e : ao = some ⟨k, 0, none⟩) => (show PtrsAt wr NoL (.slice (some ⟨k, 0, none⟩) ptrs.length cap) ptrs from e ▸ (hp.frm (kk.frm NoL))))
  have HI := Lib.hid hi
  have HOK := Lib.hid hok
  have HC := Lib.hid hC
  have HCW := Lib.hid hcw
  have HREC := Lib.hid hrec
  have HS := Lib.hid hs
  have hcl := len_cost hok
  obtain ⟨n, hn⟩ : ∃ n, ptrs.length = n := ⟨_, rfl⟩
  have HLEN : Hid (is.length = n) := Lib.hid (by omega)
  have hnz : (0 : Int) ≤ (n : Int) ∧ (n : Int) ≤ 10000000 := by omega
  have HN := Lib.hid hn
  rw [hn]
  clear hs hp hi hok hC hform hlen hcl hn hrec hcw
  go_enter Tryd.func8, Tryd.ntmps8
  go_wp2_with fail
  go_loopg [10] n (fun gk s10 wr => ∃ k : Nat, s10 = .int .i64 (k : Int) ∧ k ≤ n ∧ gk = n - k ∧ Hid (SL B b (l ++ serIW qt0 (is.take k)) w wr))
  case atStart => exact ⟨0, rfl, Nat.zero_le _, rfl, Lib.hid ⟨by simpa [serIW] using HS.out, KeptR.refl _ _⟩⟩
  case round =>
    obtain ⟨k, rfl, hk, rfl, HX⟩ := hrel
    by_cases hlt : k < n
    · have hkz : (k : Int) < (n : Int) := by omega
      obtain ⟨q, i, e1, e2, e3⟩ := HI.out.at_ k (by rw [HLEN.out]; exact hlt)
      obtain ⟨g, rfl⟩ := HFORM.out k q e1
      have cq : wr.cell? ⟨g, k, none⟩ = some (ptrV q) := (HPC.out wr HX.out.kept g q rfl).cell e1
      have hok1 := okW_at HOK.out e2
      have t1 := (serIW_take qt0 e2).1
      have t2 : (l ++ serIW qt0 (is.take k)).length + (serI qt0 i).length ≤ 100000000 := by
        have := (serIW_take qt0 e2).2
        have := HC.out
        rw [List.length_append]
        omega
      have hci : costI i ≤ 10000000 := by
        have := (symW_take e2).2
        have := HCW.out
        omega
      have HT : Hid (l ++ serIW qt0 (is.take (k + 1)) = l ++ serIW qt0 (is.take k) ++ serI qt0 i) := Lib.hid (by rw [t1, List.append_assoc])
      have HMEM := Lib.hid (List.mem_of_getElem? e2)
      obtain ⟨M0, hM0⟩ : ∃ M0, l ++ serIW qt0 (is.take k) = M0 := ⟨_, rfl⟩
      rw [hM0] at t2 HX HT
      clear e1 e2 t1 hM0
      cases e3 with
      | lit _ s a1 a2 hL h =>
        have d0 : wr.cell? ⟨q, 0, none⟩ = some (.int .i64 0) := HX.out.kept.item h 0
        have d1 : wr.cell? ⟨q, 1, none⟩ = some (.string (bytesOf s)) := HX.out.kept.item h 1
        have HW := Lib.hid (HX.out.str (bytesOf s) (by omega) (by show s.toArray.size ≤ _; rw [List.size_toArray]; rw [serI] at t2; omega))
        clear h hL hok1 t2 hci
        go_wp2_with (go_at_call 16; refine HW.out.mono ?_; rintro e w2 ⟨rfl, a1⟩; have H2 := Lib.hid (a1.to (show _ = l ++ serIW qt0 (is.take (k + 1)) by rw [HT.out, serI]; rfl)); clear a1)
        go_roundg (n - (k + 1))
        case measure => omega
        case rel => exact ⟨k + 1, by go_num, by omega, rfl, H2⟩
      | sq _ s a1 a2 hL h hs5 =>
        have d0 : wr.cell? ⟨q, 0, none⟩ = some (.int .i64 1) := HX.out.kept.item h 0
        have d1 : wr.cell? ⟨q, 1, none⟩ = some (.string (bytesOf s)) := HX.out.kept.item h 1
        have HW := Lib.hid (HX.out.str (quo s) (by omega) (quo_size hs5))
        have hz1 : (bytesOf s).size ≤ 5 := by show s.toArray.size ≤ 5; rw [List.size_toArray]; exact hs5
        have hz2 : ¬ (9223372036854775807 < 1 + (bytesOf s).size) := by omega
        have hz3 : ¬ (9223372036854775807 < 1 + (bytesOf s).size + 1) := by omega
        clear h hL hok1 t2 hs5 hci
        unfold quo at HW
        go_wp2_with (go_at_call 16; go_loud (refine HW.out.mono ?_; rintro e w2 ⟨rfl, a1⟩; have H2 := Lib.hid (a1.to (show _ = l ++ serIW qt0 (is.take (k + 1)) by rw [HT.out, serI]; exact congrArg _ (quo_list s))); clear a1))
        go_roundg (n - (k + 1))
        case measure => omega
        case rel => exact ⟨k + 1, by go_num, by omega, rfl, H2⟩
      | lst _ es a1 a2 g2 cap2 vs hL h hr he =>
        have d0 : wr.cell? ⟨q, 0, none⟩ = some (.int .i64 2) := HX.out.kept.item h 0
        have HH := Lib.hid h
        have HR := Lib.hid hr
        have HE := Lib.hid he
        have HOKE : Hid (okE es = true) := Lib.hid (by have : 2 ≤ es.length ∧ okE es = true := by simpa [okI] using hok1
                                                       exact this.2)
        have hln := lst_len es
        obtain ⟨ne, hne⟩ : ∃ ne, es.length = ne := ⟨_, rfl⟩
        have HNE := Lib.hid hne
        have hnez : (0 : Int) ≤ (ne : Int) ∧ (ne : Int) ≤ 10000000 := by omega
        have HB : Hid (M0.length + (serIE qt0 es).length + 3 ≤ 100000000) := Lib.hid (by rw [serI] at t2; simp at t2; omega)
        have HCI : Hid (symC (symE es) ≤ 10000000) := Lib.hid (by unfold costI at hci; rw [symI, symC, symC_append] at hci; omega)
        have HD2 : Hid (∀ w1, KeptR B w w1 → w1.cell? ⟨q, 2, none⟩ = some (.slice (some ⟨g2, 0, none⟩) ne cap2)) := Lib.hid (fun w1 kk => by rw [← HNE.out]; exact kk.item HH.out 2)
        have HW := Lib.hid (HX.out.str ⟨#[76, 40]⟩ (by have := HB.out; omega) (by decide))
        clear h hL hok1 t2 hr he hln hne hci
        go_wp2_with (go_at_call 16; refine HW.out.mono ?_; rintro e w1 ⟨rfl, a1⟩; have H1 := Lib.hid a1; have d2 := HD2.out w1 H1.out.kept; clear a1)
        go_loopg [45] ne (fun gk s45 wz => ∃ j : Nat, s45 = .int .i64 (j : Int) ∧ j ≤ ne ∧ gk = ne - j ∧ Hid (SL B b (M0 ++ [76, 40] ++ serIE qt0 (es.take j)) w wz))
        case atStart => exact ⟨0, rfl, Nat.zero_le _, rfl, Lib.hid (H1.out.to (by simp [serIE]))⟩
        case round =>
          obtain ⟨j, rfl, hj, rfl, HY⟩ := hrel
          by_cases hltj : j < ne
          · have hjz : (j : Int) < (ne : Int) := by omega
            obtain ⟨x, ptrs2, e, f1, f2, f3, f4⟩ := HE.out.at_ j (by rw [HNE.out]; exact hltj)
            obtain ⟨ao2, cap3, rfl, _⟩ := f3.form
            have cx : wr.cell? ⟨g2, j, none⟩ = some (.slice ao2 ptrs2.length cap3) := (HR.out.frm (HY.out.kept.frm NoL) (by simp)).cell f1
            have t3 := serIE_take qt0 f2
            have HT2 : Hid (M0 ++ [76, 40] ++ serIE qt0 (es.take (j + 1)) = M0 ++ [76, 40] ++ serIE qt0 (es.take j) ++ sepB j ++ serIW qt0 e) := Lib.hid (by rw [t3.1]; simp)
            have hbd : (M0 ++ [76, 40] ++ serIE qt0 (es.take j) ++ sepB j).length + (serIW qt0 e).length ≤ 100000000 := by
              have h1 := t3.2
              have h2 := HB.out
              rw [List.length_append, List.length_append, List.length_append]
              simp
              omega
            have hce : costW e ≤ 10000000 := by
              have := (symE_take f2).2
              have := HCI.out
              omega
            have HC2 := Lib.hid (fun (wz : World) (r : SL B b (M0 ++ [76, 40] ++ serIE qt0 (es.take j) ++ sepB j) w wz) => HREC.out es e HMEM.out (List.mem_of_getElem? f2) B b _ wz _ ptrs2 r.bld (f3.frm (r.kept.frm NoL)) (f4.frm (r.kept.frm NoL)) (okE_at HOKE.out f2) hce hbd)
            have HBD : Hid ((M0 ++ [76, 40] ++ serIE qt0 (es.take j)).length ≤ 100000000) := Lib.hid (by rw [List.length_append] at hbd; omega)
            clear f1 f2 f3 f4 t3 hbd hce
            by_cases hj0 : j = 0
            · have hj0z : ¬ ((0 : Int) < (j : Int)) := by omega
              have HD0 := Lib.hid (HY.out.to (show _ = M0 ++ [76, 40] ++ serIE qt0 (es.take j) ++ sepB j by simp [sepB, hj0]))
              have HD := Lib.hid (HC2.out wr HD0.out)
              clear hj0
              go_wp2_with (go_at_call 8; refine HD.out.mono ?_; rintro e2 w2 ⟨rfl, a1⟩; have H2 := Lib.hid ((SL.mk a1.bld (HD0.out.kept.trans a1.kept)).to HT2.out.symm); clear a1)
              go_roundg (ne - (j + 1))
              case measure => omega
              case rel => exact ⟨j + 1, by go_num, by omega, rfl, H2⟩
            · have hj0z : (0 : Int) < (j : Int) := by omega
              have HW2 := Lib.hid (HY.out.byte 124 124 rfl HBD.out)
              have HSEP : Hid (sepB j = [124]) := Lib.hid (by rw [sepB, if_neg hj0])
              clear hj0
              go_wp2_with (first
                | (go_at_call 17; refine HW2.out.mono ?_; rintro e2 w2 ⟨rfl, a1⟩; have H2 := Lib.hid (a1.to (show _ = M0 ++ [76, 40] ++ serIE qt0 (es.take j) ++ sepB j by rw [HSEP.out])); clear a1)
                | (go_at_call 8; refine (HC2.out _ H2.out).mono ?_; rintro e3 w3 ⟨rfl, a1⟩; have H3 := Lib.hid ((SL.mk a1.bld (H2.out.kept.trans a1.kept)).to HT2.out.symm); clear a1))
              go_roundg (ne - (j + 1))
              case measure => omega
              case rel => exact ⟨j + 1, by go_num, by omega, rfl, H3⟩
          · have hjz : ¬ (j : Int) < (ne : Int) := by omega
            have HF : Hid (SL B b (M0 ++ [76, 40] ++ serIE qt0 es) w wr) := Lib.hid (HY.out.to (by rw [List.take_of_length_le (by rw [HNE.out]; omega)]))
            have HW3 := Lib.hid (HF.out.byte 41 41 rfl (by
              have h2 := HB.out
              rw [List.length_append, List.length_append]
              simp
              omega))
            go_wp2_with (go_at_call 17; refine HW3.out.mono ?_; rintro e2 w2 ⟨rfl, a1⟩; have H2 := Lib.hid (a1.to (show _ = l ++ serIW qt0 (is.take (k + 1)) by rw [HT.out, serI]; simp)); clear a1)
            go_roundg (n - (k + 1))
            case measure => omega
            case rel => exact ⟨k + 1, by go_num, by omega, rfl, H2⟩
      | seq _ ends a1 a2 g2 cap2 hL h hr =>
        have d0 : wr.cell? ⟨q, 0, none⟩ = some (.int .i64 3) := HX.out.kept.item h 0
        have HH := Lib.hid h
        have HR := Lib.hid hr
        have HE3 := Lib.hid (ok_seq hok1).1
        rw [seq_ser] at t2
        have HB : Hid (M0.length + (joinD [124] ends).length + 3 ≤ 100000000) := Lib.hid (by simp at t2; omega)
        obtain ⟨ne, hne⟩ : ∃ ne, ends.length = ne := ⟨_, rfl⟩
        have HNE := Lib.hid hne
        have HD3 : Hid (∀ w1, KeptR B w w1 → w1.cell? ⟨q, 3, none⟩ = some (.slice (some ⟨g2, 0, none⟩) ne cap2)) := Lib.hid (fun w1 kk => by rw [← HNE.out]; exact kk.item HH.out 3)
        have HW := Lib.hid (HX.out.str ⟨#[83, 40]⟩ (by have := HB.out; omega) (by decide))
        have HJ : Hid (∀ w1, KeptR B w w1 → Calls Tryd.prog 18 #[.slice (some ⟨g2, 0, none⟩) ne cap2, .string ⟨#[124]⟩] w1 fun e w' => e = .returned (strV (joinD [124] ends)) ∧ Below w1.heap.size w1 w') := Lib.hid (by
          intro w1 k1
          rw [← HNE.out]
          exact join_ends w1 NoL g2 cap2 ends ⟨#[124]⟩ (HR.out.frm (k1.frm NoL) (by simp)) HE3.out (by have := HB.out; show (joinD [124] ends).length ≤ _; omega))
        have HSZ : Hid ((bytesOf (joinD [124] ends)).size ≤ 100000000) := Lib.hid (by show (joinD [124] ends).toArray.size ≤ _; rw [List.size_toArray]; have := HB.out; omega)
        have HL2 : Hid ((M0 ++ [83, 40]).length ≤ 100000000) := Lib.hid (by have := HB.out; simp; omega)
        have HL3 : Hid ((M0 ++ [83, 40] ++ joinD [124] ends).length ≤ 100000000) := Lib.hid (by have := HB.out; simp; omega)
        clear h hL hok1 t2 hr hne hci
        go_upto_region 20 with (go_at_call 16; refine HW.out.mono ?_; rintro e w1 ⟨rfl, a1⟩; have H1 := Lib.hid a1; have d3 := HD3.out w1 H1.out.kept; clear a1)
        have HJ1 := Lib.hid (HJ.out w1 H1.out.kept)
        go_wp2_with (first
          | (go_at_call 18; refine HJ1.out.mono ?_; rintro e w2 ⟨rfl, a1⟩; have H2 := Lib.hid (H1.out.below a1); clear a1)
          | (go_at_call 16; refine (H2.out.str (bytesOf (joinD [124] ends)) HL2.out HSZ.out).mono ?_; rintro e w3 ⟨rfl, a1⟩; have H3 := Lib.hid a1; clear a1)
          | (go_at_call 17; refine (H3.out.byte 41 41 rfl HL3.out).mono ?_; rintro e w4 ⟨rfl, a1⟩; have H4 := Lib.hid (a1.to (show _ = l ++ serIW qt0 (is.take (k + 1)) by rw [HT.out, seq_ser]; simp [bytesOf])); clear a1))
        go_roundg (n - (k + 1))
        case measure => omega
        case rel => exact ⟨k + 1, by go_num, by omega, rfl, H4⟩
    · have hkz : ¬ (k : Int) < (n : Int) := by omega
      have HF : Hid (SL B b (l ++ serIW qt0 is) w wr) := Lib.hid (HX.out.to (by rw [List.take_of_length_le (by rw [HLEN.out]; omega)]))
      go_wp2_with fail
      go_end0
      exact ⟨rfl, HF.out⟩

theorem seri_any : ∀ (n : Nat) (is : List Item), SizeOf.sizeOf is ≤ n → SeriC is := by
  intro n
  induction n with
  | zero =>
    intro is h
    refine seri_step is (fun es e h1 h2 => ?_)
    have := List.sizeOf_lt_of_mem h1
    omega
  | succ n ih =>
    intro is h
    refine seri_step is (fun es e h1 h2 => ih e ?_)
    have a := List.sizeOf_lt_of_mem h1
    have b := List.sizeOf_lt_of_mem h2
    simp at a
    omega
end Go.Proofs.YtmcoifhiiagfpaaDoor

namespace Go.Proofs.YtmcoifhiiagfpaaDoor
open Go.RowKit
set_option linter.unusedVariables false

section
variable (qt : TypeId → Value → List UInt8)
theorem serR_append : ∀ a b : List (List Part), serR qt (a ++ b) = serR qt a ++ serR qt b
  | [], b => by simp [serR]
  | w :: r, b => by rw [List.cons_append, serR, serR, serR_append r b]; simp
theorem serE_snoc (a : List (List Part)) (w : List Part) : serE qt (a ++ [w]) = serE qt a ++ sepB a.length ++ serW qt w := by
  cases a with
  | nil => simp [serE, serR, sepB]
  | cons x r =>
    rw [List.cons_append, serE, serE, serR_append]
    simp [serR, sepB]
theorem serE_app (a b : List (List Part)) : ∃ r, serE qt (a ++ b) = serE qt a ++ r := by
  cases a with
  | nil => exact ⟨_, by simp [serE]; rfl⟩
  | cons x r => exact ⟨serR qt b, by rw [List.cons_append, serE, serE, serR_append]; simp⟩
theorem serE_take {es : List (List Part)} {j : Nat} {e : List Part} (h : es[j]? = some e) : serE qt (es.take (j + 1)) = serE qt (es.take j) ++ sepB j ++ serW qt e ∧ ∃ r, serE qt es = serE qt (es.take j) ++ sepB j ++ serW qt e ++ r := by
  have hlt := (List.getElem?_eq_some_iff.1 h).1
  have e1 : es.take (j + 1) = es.take j ++ [e] := by
    rw [List.take_succ_eq_append_getElem hlt, (List.getElem?_eq_some_iff.1 h).2]
  have e2 : serE qt (es.take (j + 1)) = serE qt (es.take j) ++ sepB j ++ serW qt e := by
    rw [e1, serE_snoc, List.length_take, Nat.min_eq_left (by omega)]
  refine ⟨e2, ?_⟩
  obtain ⟨r, hr⟩ := serE_app qt (es.take (j + 1)) (es.drop (j + 1))
  rw [List.take_append_drop, e2] at hr
  exact ⟨r, hr⟩
theorem serW_take {ps : List Part} {k : Nat} {p : Part} (h : ps[k]? = some p) : serW qt (ps.take (k + 1)) = serW qt (ps.take k) ++ serP qt p ∧ ∃ r, serW qt ps = serW qt (ps.take k) ++ serP qt p ++ r := by
  have hlt := (List.getElem?_eq_some_iff.1 h).1
  have e1 : ps.take (k + 1) = ps.take k ++ [p] := by
    rw [List.take_succ_eq_append_getElem hlt, (List.getElem?_eq_some_iff.1 h).2]
  have e2 : serW qt (ps.take (k + 1)) = serW qt (ps.take k) ++ serP qt p := by
    rw [e1, serW_append, serW_one]
  refine ⟨e2, serW qt (ps.drop (k + 1)), ?_⟩
  rw [← e2, ← serW_append, List.take_append_drop]
end
theorem safe_below {B : Nat} {w w' : World} (h : Below B w w') : Safe (fun k => B ≤ k) (fun k => B ≤ k) w w' := ⟨fun k _ hk => h.block k (by omega), fun _ _ hk => hk⟩
theorem WordsAt.at_ {w : World} {L : Nat → Prop} : ∀ {ptrs : List Nat} {ess : List (List Part)}, WordsAt w L ptrs ess → ∀ k, k < ess.length → ∃ p v vals e, ptrs[k]? = some p ∧ ess[k]? = some e ∧ ¬ L p ∧ w.heap[p]? = some (.cells #[v] 40 (0, 0)) ∧ RowAt w L v vals ∧ PartsAt w L vals e
  | _, _, .nil, k, h => by simp at h
  | _, _, .cons p v vals ps ptrs ess hp h1 h2 h3 h4, 0, _ => ⟨p, v, vals, ps, rfl, rfl, hp, h1, h2, h3⟩
  | _, _, .cons p v vals ps ptrs ess hp h1 h2 h3 h4, k + 1, h => by
    obtain ⟨p2, v2, vals2, e, a, b, c⟩ := WordsAt.at_ h4 k (by simp at h; omega)
    exact ⟨p2, v2, vals2, e, by simpa using a, by simpa using b, c⟩
theorem WordsAt.length {w : World} {L : Nat → Prop} : ∀ {ptrs : List Nat} {ess : List (List Part)}, WordsAt w L ptrs ess → ptrs.length = ess.length
  | _, _, .nil => rfl
  | _, _, .cons _ _ _ _ _ _ _ _ _ _ h4 => by simp [h4.length]
/-- A block below B, later. -/
theorem late {B : Nat} {w w' : World} (h : Below B w w') {k : Nat} (hk : ¬ B ≤ k) {c : Array Value} {T : TypeId} (hc : w.heap[k]? = some (.cells c T (0, 0))) (j : Nat) : w'.cell? ⟨k, j, none⟩ = c[j]? := by
  rw [Lib.cell_of_heap ((h.block k (by omega)).trans hc)]
theorem asq_yes (x : Value) (w : World) : (Instr.typeAssert (.iface 58 x) 72 58 true).run Tryd.prog w = .ok (.tuple #[x, .bool true]) w := by
  simp [Instr.typeAssert, run_underlying Tryd.underlying58, Result.andThen]
theorem asq_no (t : TypeId) (x : Value) (ht : t ≠ 58) (w : World) : (Instr.typeAssert (.iface t x) 72 58 true).run Tryd.prog w = .ok (.tuple #[.pointer none, .bool false]) w := by
  simp [Instr.typeAssert, run_underlying Tryd.underlying58, ht, Result.andThen]
theorem abr_yes (x : Value) (w : World) : (Instr.typeAssert (.iface 76 x) 72 76 true).run Tryd.prog w = .ok (.tuple #[x, .bool true]) w := by
  simp [Instr.typeAssert, run_underlying Tryd.underlying76, Result.andThen]
theorem lit_len (s : ByteArray) : s.data.toList.length = s.size := by rw [Array.length_toList]; rfl
theorem RowAt.form2 {w : World} {L : Nat → Prop} {v : Value} {vals : List Value} (h : RowAt w L v vals) : ∃ a0 cap0, v = .slice a0 vals.length cap0 ∧ ∀ (k : Nat) (u : Value), vals[k]? = some u → ∃ g, a0 = some ⟨g, 0, none⟩ ∧ ¬ L g ∧ w.cell? ⟨g, k, none⟩ = some u := by
  rcases h with ⟨rfl, rfl⟩ | ⟨g, cap, cur, rfl, hL, hg, ht⟩
  · exact ⟨none, 0, rfl, fun k u h => by simp at h⟩
  · refine ⟨_, cap, rfl, fun k u h => ⟨g, rfl, hL, ?_⟩⟩
    rw [Lib.cell_of_heap hg]
    have hk : k < vals.length := (List.getElem?_eq_some_iff.1 h).1
    have h2 : (cur.toList.take vals.length)[k]? = some u := by rw [ht]; exact h
    rw [List.getElem?_take_of_lt hk] at h2
    simpa using h2
/-- The contract. -/
def SerpC (ps : List Part) : Prop := ∀ (B b : Nat) (l : List UInt8) (w0 w : World) (v : Value) (vals : List Value), Bld B b l w → RowAt w (fun k => B ≤ k) v vals → PartsAt w (fun k => B ≤ k) vals ps → Below B w0 w → w0.heap.size ≤ B → (123 : UInt8) ∉ serW (badQ w0) ps → dz ps ≤ 1000000000 → l.length + (serW (qtW w0) ps).length ≤ 100000000 →
    Calls Tryd.prog 10 #[v, .pointer (some ⟨b, 0, none⟩)] w fun e w' => e = .returned (.bool true) ∧ SL B b (l ++ serW (qtW w0) ps) w w'

set_option maxRecDepth 100000 in
set_option maxHeartbeats 8000000 in
theorem serp_step (ps : List Part) (hrec : ∀ q es e, Part.brace q es ∈ ps → e ∈ es → SerpC e) : SerpC ps := by
  intro B b l w0 w v vals hs hr hp hb0 hB0 hbad hdz hC
  have hlen := hp.length
  obtain ⟨ao, cap, rfl, hform⟩ := hr.form2
  have HFORM := Lib.hid hform
  have HP := Lib.hid hp
  have HC := Lib.hid hC
  have HBAD := Lib.hid hbad
  have HDZ := Lib.hid hdz
  have HB0 := Lib.hid hb0
  have HB00 := Lib.hid hB0
  have HREC := Lib.hid hrec
  have HS := Lib.hid hs
  have hcl := sz_lengthD ps
  obtain ⟨n, hn⟩ : ∃ n, vals.length = n := ⟨_, rfl⟩
  have HLEN : Hid (ps.length = n) := Lib.hid (by omega)
  have hnz : (0 : Int) ≤ (n : Int) ∧ (n : Int) ≤ 1000000000 := by omega
  rw [hn]
  clear hs hp hr hb0 hB0 hbad hdz hC hform hlen hcl hn hrec
  go_enter Tryd.func10, Tryd.ntmps10
  go_wp2_with fail
  go_loopg [15] n (fun gk s15 wr => ∃ k : Nat, s15 = .int .i64 (k : Int) ∧ k ≤ n ∧ gk = n - k ∧ Hid (SL B b (l ++ serW (qtW w0) (ps.take k)) w wr))
  case atStart => exact ⟨0, rfl, Nat.zero_le _, rfl, Lib.hid ⟨by simpa [serW] using HS.out, KeptR.refl _ _⟩⟩
  case round =>
    obtain ⟨k, rfl, hk, rfl, HX⟩ := hrel
    by_cases hlt : k < n
    · have hkz : (k : Int) < (n : Int) := by omega
      obtain ⟨u, p, e1, e2, e3⟩ := HP.out.at_ k (by rw [HLEN.out]; exact hlt)
      obtain ⟨g, rfl, hgl, hgc⟩ := HFORM.out k u e1
      have hgl2 : ¬ B ≤ g := hgl
      have cq : wr.cell? ⟨g, k, none⟩ = some u := (World.cell?_of_block (HX.out.kept.bel.block g (by omega))).trans hgc
      clear hgl2
      have t1 := (serW_take (qtW w0) e2).1
      have t2 : (l ++ serW (qtW w0) (ps.take k)).length + (serP (qtW w0) p).length ≤ 100000000 := by
        obtain ⟨r, hr⟩ := (serW_take (qtW w0) e2).2
        have := HC.out
        rw [hr, List.length_append, List.length_append] at this
        rw [List.length_append]
        omega
      have tb : (123 : UInt8) ∉ serP (badQ w0) p := fun hm => by
        obtain ⟨r, hr⟩ := (serW_take (badQ w0) e2).2
        exact HBAD.out (by rw [hr]; simp [hm])
      have HT : Hid (l ++ serW (qtW w0) (ps.take (k + 1)) = l ++ serW (qtW w0) (ps.take k) ++ serP (qtW w0) p) := Lib.hid (by rw [t1, List.append_assoc])
      have HMEM := Lib.hid (List.mem_of_getElem? e2)
      obtain ⟨M0, hM0⟩ : ∃ M0, l ++ serW (qtW w0) (ps.take k) = M0 := ⟨_, rfl⟩
      rw [hM0] at t2 HX HT
      clear e1 e2 t1 hM0 hgl hgc
      cases e3 with
      | lit q s hL hq =>
        obtain ⟨a1, a2, a3, a4, h⟩ := hq
        have hta := assert_yes (.pointer (some ⟨q, 0, none⟩))
        have d4 : wr.cell? ⟨q, 4, none⟩ = some (.string s) := late HX.out.kept.bel hL h 4
        have HW := Lib.hid (HX.out.str s (by omega) (by have e := lit_len s; rw [serP_lit] at t2; omega))
        clear h hL t2 tb
        go_wp2_with (go_at_call 16; refine HW.out.mono ?_; rintro e w2 ⟨rfl, a1⟩; have H2 := Lib.hid (a1.to (show _ = l ++ serW (qtW w0) (ps.take (k + 1)) by rw [HT.out, serP_lit])); clear a1)
        go_roundg (n - (k + 1))
        case measure => omega
        case rel => exact ⟨k + 1, by go_num, by omega, rfl, H2⟩
      | other t x ht =>
        have hgood := badQ_good (w := w0) (t := t) (x := x) (by rw [serP] at tb; exact tb)
        obtain ⟨rfl, q, s, rfl, hq⟩ := hgood
        have hqt := qtW_sq hq 58
        obtain ⟨hs5, a1, a2, a3, a4, a5, h⟩ := hq
        have hlt0 : q < w0.heap.size := (Array.getElem?_eq_some_iff.1 h).1
        have hta := assert_no 58 (ptrV q) (by decide)
        have htb := asq_yes (ptrV q)
        have d5 : wr.cell? ⟨q, 5, none⟩ = some (.string (bytesOf s)) := late (HB0.out.trans HX.out.kept.bel) (by have := HB00.out; omega) h 5
        have HW := Lib.hid (HX.out.str (quo s) (by omega) (quo_size hs5))
        have hz1 : (bytesOf s).size ≤ 5 := by show s.toArray.size ≤ 5; rw [List.size_toArray]; exact hs5
        have hz2 : ¬ (9223372036854775807 < 1 + (bytesOf s).size) := by omega
        have hz3 : ¬ (9223372036854775807 < 1 + (bytesOf s).size + 1) := by omega
        have HT2 : Hid (M0 ++ (quo s).data.toList = l ++ serW (qtW w0) (ps.take (k + 1))) := Lib.hid (by rw [HT.out, serP, hqt, quo_list])
        clear h ht t2 tb hqt hlt0 hs5
        unfold quo at HW
        go_wp2_with (go_at_call 16; go_loud (refine HW.out.mono ?_; rintro e w2 ⟨rfl, a1⟩; have H2 := Lib.hid (a1.to HT2.out); clear a1))
        go_roundg (n - (k + 1))
        case measure => omega
        case rel => exact ⟨k + 1, by go_num, by omega, rfl, H2⟩
      | brace bb g2 cap2 cur sq ptrs ess hb he h1 h2 h3 h4 =>
        have HH := Lib.hid h1
        have HBB := Lib.hid hb
        have HWD := Lib.hid h4
        have hpl := h4.length
        have HCUR := Lib.hid (fun (wz : World) (kk : Below B w wz) (j p : Nat) (hj : ptrs[j]? = some p) => (show wz.cell? ⟨g2, j, none⟩ = some (.pointer (some ⟨p, 0, none⟩)) from by
          rw [late kk he h2 j]
          have h5 : (cur.toList.take ptrs.length)[j]? = some (Value.pointer (some ⟨p, 0, none⟩)) := by rw [h3.1, List.getElem?_map, hj]; rfl
          rw [List.getElem?_take_of_lt (List.getElem?_eq_some_iff.1 hj).1] at h5
          simpa using h5))
        have hln := len_mem HMEM.out
        obtain ⟨ne, hne⟩ : ∃ ne, ptrs.length = ne := ⟨_, rfl⟩
        have HNE : Hid (ess.length = ne) := Lib.hid (by omega)
        have hnez : (0 : Int) ≤ (ne : Int) ∧ (ne : Int) ≤ 1000000000 := by have := HDZ.out; omega
        have HB : Hid (M0.length + (serE (qtW w0) ess).length + 3 ≤ 100000000) := Lib.hid (by rw [serP] at t2; cases sq <;> simp at t2 <;> omega)
        have HBE : Hid ((123 : UInt8) ∉ serE (badQ w0) ess) := Lib.hid (by rw [serP] at tb; intro hm; exact tb (by simp [hm]))
        have hta := assert_no 76 (.pointer (some ⟨bb, 0, none⟩)) (by decide)
        have htb := asq_no 76 (.pointer (some ⟨bb, 0, none⟩)) (by decide)
        have htc := abr_yes (.pointer (some ⟨bb, 0, none⟩))
        have HD1 := Lib.hid (fun (wz : World) (kk : Below B w wz) => (show wz.cell? ⟨bb, 1, none⟩ = some (.slice (some ⟨g2, 0, none⟩) ne cap2) from by rw [late kk hb h1 1, hne]; rfl))
        have d0 : wr.cell? ⟨bb, 0, none⟩ = some (.bool sq) := late HX.out.kept.bel hb h1 0
        clear hb he h1 h2 h3 h4 t2 tb hpl hln hne HH HBB
        cases sq
        · have HW := Lib.hid (HX.out.str ⟨#[76, 40]⟩ (by have := HB.out; omega) (by decide))
          go_wp2_with (go_at_call 16; refine HW.out.mono ?_; rintro e w1 ⟨rfl, a1⟩; have H1 := Lib.hid a1; have d2 := HD1.out w1 H1.out.kept.bel; clear a1)
          go_loopg [56] ne (fun gk s56 wz => ∃ j : Nat, s56 = .int .i64 (j : Int) ∧ j ≤ ne ∧ gk = ne - j ∧ Hid (SL B b (M0 ++ [76, 40] ++ serE (qtW w0) (ess.take j)) w wz))
          case atStart => exact ⟨0, rfl, Nat.zero_le _, rfl, Lib.hid (H1.out.to (by simp [serE]))⟩
          case round =>
            obtain ⟨j, rfl, hj, rfl, HY⟩ := hrel
            by_cases hltj : j < ne
            · have hjz : (j : Int) < (ne : Int) := by omega
              obtain ⟨pp, vv, vals2, e, f1, f2, f3, f4, f5, f6⟩ := HWD.out.at_ j (by rw [HNE.out]; exact hltj)
              have cx := HCUR.out wr HY.out.kept.bel j pp f1
              have t3 := serE_take (qtW w0) f2
              have HT2 : Hid (M0 ++ [76, 40] ++ serE (qtW w0) (ess.take (j + 1)) = M0 ++ [76, 40] ++ serE (qtW w0) (ess.take j) ++ sepB j ++ serW (qtW w0) e) := Lib.hid (by rw [t3.1]; simp)
              have hbd : (M0 ++ [76, 40] ++ serE (qtW w0) (ess.take j) ++ sepB j).length + (serW (qtW w0) e).length ≤ 100000000 := by
                obtain ⟨r, hr⟩ := t3.2
                have h2 := HB.out
                rw [hr] at h2
                simp only [List.length_append] at h2 ⊢
                simp
                omega
              have hbe : (123 : UInt8) ∉ serW (badQ w0) e := fun hm => by
                obtain ⟨r, hr⟩ := (serE_take (badQ w0) f2).2
                exact HBE.out (by rw [hr]; simp [hm])
              have hde : dz e ≤ 1000000000 := by
                have := dz_mem HMEM.out (List.mem_of_getElem? f2)
                have := HDZ.out
                omega
              have HCV := Lib.hid (fun (wz : World) (r : Below B w wz) => (show wz.cell? ⟨pp, 0, none⟩ = some vv from late r f3 f4 0))
              have HC2 := Lib.hid (fun (wz : World) (r : SL B b (M0 ++ [76, 40] ++ serE (qtW w0) (ess.take j) ++ sepB j) w wz) => HREC.out _ ess e HMEM.out (List.mem_of_getElem? f2) B b _ w0 wz vv vals2 r.bld (f5.safe (safe_below r.kept.bel)) (f6.safe (safe_below r.kept.bel)) (HB0.out.trans r.kept.bel) HB00.out hbe hde hbd)
              have HBD : Hid ((M0 ++ [76, 40] ++ serE (qtW w0) (ess.take j)).length ≤ 100000000) := Lib.hid (by rw [List.length_append] at hbd; omega)
              clear f1 f2 f3 f4 f5 f6 t3 hbd hbe hde
              by_cases hj0 : j = 0
              · have hj0z : ¬ ((0 : Int) < (j : Int)) := by omega
                have HD0 := Lib.hid (HY.out.to (show _ = M0 ++ [76, 40] ++ serE (qtW w0) (ess.take j) ++ sepB j by simp [sepB, hj0]))
                have HD := Lib.hid (HC2.out wr HD0.out)
                have cv := HCV.out wr HY.out.kept.bel
                clear hj0
                go_wp2_with (go_at_call 10; refine HD.out.mono ?_; rintro e2 w2 ⟨rfl, a1⟩; have H2 := Lib.hid ((SL.mk a1.bld (HD0.out.kept.trans a1.kept)).to HT2.out.symm); clear a1)
                go_roundg (ne - (j + 1))
                case measure => omega
                case rel => exact ⟨j + 1, by go_num, by omega, rfl, H2⟩
              · have hj0z : (0 : Int) < (j : Int) := by omega
                have HW2 := Lib.hid (HY.out.byte 124 124 rfl HBD.out)
                have HSEP : Hid (sepB j = [124]) := Lib.hid (by rw [sepB, if_neg hj0])
                clear hj0
                go_wp2_with (first
                  | (go_at_call 17; refine HW2.out.mono ?_; rintro e2 w2 ⟨rfl, a1⟩; have H2 := Lib.hid (a1.to (show _ = M0 ++ [76, 40] ++ serE (qtW w0) (ess.take j) ++ sepB j by rw [HSEP.out])); have cv := HCV.out w2 H2.out.kept.bel; clear a1)
                  | (go_at_call 10; refine (HC2.out _ H2.out).mono ?_; rintro e3 w3 ⟨rfl, a1⟩; have H3 := Lib.hid ((SL.mk a1.bld (H2.out.kept.trans a1.kept)).to HT2.out.symm); clear a1))
                go_roundg (ne - (j + 1))
                case measure => omega
                case rel => exact ⟨j + 1, by go_num, by omega, rfl, H3⟩
            · have hjz : ¬ (j : Int) < (ne : Int) := by omega
              have HF : Hid (SL B b (M0 ++ [76, 40] ++ serE (qtW w0) ess) w wr) := Lib.hid (HY.out.to (by rw [List.take_of_length_le (by rw [HNE.out]; omega)]))
              have HW3 := Lib.hid (HF.out.byte 41 41 rfl (by
                have h2 := HB.out
                rw [List.length_append, List.length_append]
                simp
                omega))
              go_wp2_with (go_at_call 17; refine HW3.out.mono ?_; rintro e2 w2 ⟨rfl, a1⟩; have H2 := Lib.hid (a1.to (show _ = l ++ serW (qtW w0) (ps.take (k + 1)) by rw [HT.out, serP]; simp)); clear a1)
              go_roundg (n - (k + 1))
              case measure => omega
              case rel => exact ⟨k + 1, by go_num, by omega, rfl, H2⟩
        · have HW := Lib.hid (HX.out.str ⟨#[83, 40]⟩ (by have := HB.out; omega) (by decide))
          go_wp2_with (go_at_call 16; refine HW.out.mono ?_; rintro e w1 ⟨rfl, a1⟩; have H1 := Lib.hid a1; have d2 := HD1.out w1 H1.out.kept.bel; clear a1)
          go_loopg [56] ne (fun gk s56 wz => ∃ j : Nat, s56 = .int .i64 (j : Int) ∧ j ≤ ne ∧ gk = ne - j ∧ Hid (SL B b (M0 ++ [83, 40] ++ serE (qtW w0) (ess.take j)) w wz))
          case atStart => exact ⟨0, rfl, Nat.zero_le _, rfl, Lib.hid (H1.out.to (by simp [serE]))⟩
          case round =>
            obtain ⟨j, rfl, hj, rfl, HY⟩ := hrel
            by_cases hltj : j < ne
            · have hjz : (j : Int) < (ne : Int) := by omega
              obtain ⟨pp, vv, vals2, e, f1, f2, f3, f4, f5, f6⟩ := HWD.out.at_ j (by rw [HNE.out]; exact hltj)
              have cx := HCUR.out wr HY.out.kept.bel j pp f1
              have t3 := serE_take (qtW w0) f2
              have HT2 : Hid (M0 ++ [83, 40] ++ serE (qtW w0) (ess.take (j + 1)) = M0 ++ [83, 40] ++ serE (qtW w0) (ess.take j) ++ sepB j ++ serW (qtW w0) e) := Lib.hid (by rw [t3.1]; simp)
              have hbd : (M0 ++ [83, 40] ++ serE (qtW w0) (ess.take j) ++ sepB j).length + (serW (qtW w0) e).length ≤ 100000000 := by
                obtain ⟨r, hr⟩ := t3.2
                have h2 := HB.out
                rw [hr] at h2
                simp only [List.length_append] at h2 ⊢
                simp
                omega
              have hbe : (123 : UInt8) ∉ serW (badQ w0) e := fun hm => by
                obtain ⟨r, hr⟩ := (serE_take (badQ w0) f2).2
                exact HBE.out (by rw [hr]; simp [hm])
              have hde : dz e ≤ 1000000000 := by
                have := dz_mem HMEM.out (List.mem_of_getElem? f2)
                have := HDZ.out
                omega
              have HCV := Lib.hid (fun (wz : World) (r : Below B w wz) => (show wz.cell? ⟨pp, 0, none⟩ = some vv from late r f3 f4 0))
              have HC2 := Lib.hid (fun (wz : World) (r : SL B b (M0 ++ [83, 40] ++ serE (qtW w0) (ess.take j) ++ sepB j) w wz) => HREC.out _ ess e HMEM.out (List.mem_of_getElem? f2) B b _ w0 wz vv vals2 r.bld (f5.safe (safe_below r.kept.bel)) (f6.safe (safe_below r.kept.bel)) (HB0.out.trans r.kept.bel) HB00.out hbe hde hbd)
              have HBD : Hid ((M0 ++ [83, 40] ++ serE (qtW w0) (ess.take j)).length ≤ 100000000) := Lib.hid (by rw [List.length_append] at hbd; omega)
              clear f1 f2 f3 f4 f5 f6 t3 hbd hbe hde
              by_cases hj0 : j = 0
              · have hj0z : ¬ ((0 : Int) < (j : Int)) := by omega
                have HD0 := Lib.hid (HY.out.to (show _ = M0 ++ [83, 40] ++ serE (qtW w0) (ess.take j) ++ sepB j by simp [sepB, hj0]))
                have HD := Lib.hid (HC2.out wr HD0.out)
                have cv := HCV.out wr HY.out.kept.bel
                clear hj0
                go_wp2_with (go_at_call 10; refine HD.out.mono ?_; rintro e2 w2 ⟨rfl, a1⟩; have H2 := Lib.hid ((SL.mk a1.bld (HD0.out.kept.trans a1.kept)).to HT2.out.symm); clear a1)
                go_roundg (ne - (j + 1))
                case measure => omega
                case rel => exact ⟨j + 1, by go_num, by omega, rfl, H2⟩
              · have hj0z : (0 : Int) < (j : Int) := by omega
                have HW2 := Lib.hid (HY.out.byte 124 124 rfl HBD.out)
                have HSEP : Hid (sepB j = [124]) := Lib.hid (by rw [sepB, if_neg hj0])
                clear hj0
                go_wp2_with (first
                  | (go_at_call 17; refine HW2.out.mono ?_; rintro e2 w2 ⟨rfl, a1⟩; have H2 := Lib.hid (a1.to (show _ = M0 ++ [83, 40] ++ serE (qtW w0) (ess.take j) ++ sepB j by rw [HSEP.out])); have cv := HCV.out w2 H2.out.kept.bel; clear a1)
                  | (go_at_call 10; refine (HC2.out _ H2.out).mono ?_; rintro e3 w3 ⟨rfl, a1⟩; have H3 := Lib.hid ((SL.mk a1.bld (H2.out.kept.trans a1.kept)).to HT2.out.symm); clear a1))
                go_roundg (ne - (j + 1))
                case measure => omega
                case rel => exact ⟨j + 1, by go_num, by omega, rfl, H3⟩
            · have hjz : ¬ (j : Int) < (ne : Int) := by omega
              have HF : Hid (SL B b (M0 ++ [83, 40] ++ serE (qtW w0) ess) w wr) := Lib.hid (HY.out.to (by rw [List.take_of_length_le (by rw [HNE.out]; omega)]))
              have HW3 := Lib.hid (HF.out.byte 41 41 rfl (by
                have h2 := HB.out
                rw [List.length_append, List.length_append]
                simp
                omega))
              go_wp2_with (go_at_call 17; refine HW3.out.mono ?_; rintro e2 w2 ⟨rfl, a1⟩; have H2 := Lib.hid (a1.to (show _ = l ++ serW (qtW w0) (ps.take (k + 1)) by rw [HT.out, serP]; simp)); clear a1)
              go_roundg (n - (k + 1))
              case measure => omega
              case rel => exact ⟨k + 1, by go_num, by omega, rfl, H2⟩
    · have hkz : ¬ (k : Int) < (n : Int) := by omega
      have HF : Hid (SL B b (l ++ serW (qtW w0) ps) w wr) := Lib.hid (HX.out.to (by rw [List.take_of_length_le (by rw [HLEN.out]; omega)]))
      go_wp2_with fail
      go_ret
      exact ⟨rfl, HF.out⟩

theorem serp_any : ∀ (n : Nat) (ps : List Part), SizeOf.sizeOf ps ≤ n → SerpC ps := by
  intro n
  induction n with
  | zero =>
    intro ps h
    refine serp_step ps (fun q es e h1 h2 => ?_)
    have := List.sizeOf_lt_of_mem h1
    omega
  | succ n ih =>
    intro ps h
    refine serp_step ps (fun q es e h1 h2 => ih e ?_)
    have a := List.sizeOf_lt_of_mem h1
    have b := List.sizeOf_lt_of_mem h2
    simp at a
    omega
end Go.Proofs.YtmcoifhiiagfpaaDoor
