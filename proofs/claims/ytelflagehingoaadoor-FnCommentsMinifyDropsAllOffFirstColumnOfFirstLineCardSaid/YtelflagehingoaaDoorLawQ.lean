/-
  The walk of the law 'FnCommentsQueuesAllInOrder'.
-/
import Derived.Test.YtelflagehingoaaDoorQueue
import Derived.Laws.StructEq
import Derived.Deep.QuietTactic
import Derived.BigQuiet
namespace Go.Proofs.YtelflagehingoaaDoor
open Go.RowKit

set_option maxHeartbeats 2000000 in
theorem bytesQ_any (v0 v1 v2 v3 : Value) (t1 t2 : List ByteArray) (l1 l2 : List Int) (w : World) (h0 : t1.length ≤ maxLen) (h2 : t2.length ≤ maxLen)
    (hT1 : StrsAt w v0 t1) (hL1 : NumsAt w v1 l1) (hT2 : StrsAt w v2 t2) (hL2 : NumsAt w v3 l2) : Calls Tryd.prog 16 #[v0, v1, v2, v3] w (SomeBool w) := by
  unfold maxLen at h0 h2
  obtain ⟨a0, cap0, rfl, hT1⟩ := hT1
  obtain ⟨a1, cap1, rfl, hL1⟩ := hL1
  obtain ⟨a2, cap2, rfl, hT2⟩ := hT2
  obtain ⟨a3, cap3, rfl, hL2⟩ := hL2
  have HT1 := Lib.hid hT1
  have HT2 := Lib.hid hT2
  clear hT1 hT2 hL1 hL2
  go_enter Tryd.func16, Tryd.ntmps16
  go_wp2
  any_goals (go_ret; exact ⟨_, rfl, rfl⟩)
  go_loopg [9, 10] t1.length (fun gk s9 s10 wr => ∃ (k : Nat) (x : Int), w = wr ∧ k ≤ t1.length ∧ gk = t1.length - k ∧ s9 = .int .i64 x ∧ s10 = .int .i64 k)
  case atStart => exact ⟨0, _, rfl, Nat.zero_le _, rfl, rfl, rfl⟩
  case round =>
    obtain ⟨k, x, rfl, hk, rfl, rfl, rfl⟩ := hrel
    by_cases hlt : k < t1.length
    · have hkz : (k : Int) < (t1.length : Int) := by omega
      obtain ⟨b, off, ha, _, hcell⟩ := some_str HT1.out hlt
      subst ha
      generalize t1.getD k ByteArray.empty = s at hcell
      go_wp2
      any_goals (go_ret; exact ⟨_, rfl, rfl⟩)
      go_roundg (t1.length - (k + 1))
      case measure => omega
      case rel => exact ⟨k + 1, _, rfl, by omega, rfl, rfl, by first | rfl | simp⟩
    · obtain rfl : k = t1.length := by omega
      go_wp2
      any_goals (go_ret; exact ⟨_, rfl, rfl⟩)
      go_loopg [9, 11] t2.length (fun gk s9 s10 wr => ∃ (k : Nat) (x : Int), w = wr ∧ k ≤ t2.length ∧ gk = t2.length - k ∧ s9 = .int .i64 x ∧ s10 = .int .i64 k)
      case atStart => exact ⟨0, _, rfl, Nat.zero_le _, rfl, rfl, rfl⟩
      case round =>
        obtain ⟨k, x, rfl, hk, rfl, rfl, rfl⟩ := hrel
        by_cases hlt : k < t2.length
        · have hkz : (k : Int) < (t2.length : Int) := by omega
          obtain ⟨b, off, ha, _, hcell⟩ := some_str HT2.out hlt
          subst ha
          generalize t2.getD k ByteArray.empty = s at hcell
          go_wp2
          any_goals (go_ret; exact ⟨_, rfl, rfl⟩)
          go_roundg (t2.length - (k + 1))
          case measure => omega
          case rel => exact ⟨k + 1, _, rfl, by omega, rfl, rfl, by first | rfl | simp⟩
        · obtain rfl : k = t2.length := by omega
          go_wp2
          all_goals (go_ret; exact ⟨_, rfl, rfl⟩)

theorem fields33 : Tryd.prog.fieldsOf 33 = #[{ name := "offs", type := 31, offset := 0, embedded := false, tag := "", pkgPath := "mvdan.cc/sh/v3/syntax", byteOffset := 0 }, { name := "lineCol", type := 31, offset := 1, embedded := false, tag := "", pkgPath := "mvdan.cc/sh/v3/syntax", byteOffset := 4 }] := by kernel_rfl
theorem guard33 : Tryd.prog.eqGuardType Tryd.prog.depth 33 = false := by kernel_rfl
theorem posNeq (x y : Int) (w : World) : (binOp .neq 33 (.agg #[.int .u32 x, .int .u32 y]) (.agg #[.int .u32 x, .int .u32 y])).run Tryd.prog w = .ok (.bool false) w := by
  rw [run_neq_struct, show (10000 : Nat) = 9998 + 1 + 1 from rfl, run_equalIn_agg w _ 33 _ _ (by kernel_rfl) (by kernel_rfl), fields33]
  have h31 := Tryd.underlying31
  simp [Op.eqFields, go_sem, h31]

theorem com_get (cs : List (Int × Int × ByteArray)) (rest : List Value) : ∀ k, k < cs.length →
    (comCells cs ++ rest)[k * 3]? = some (.int .u32 (cs.getD k com0).1) ∧ (comCells cs ++ rest)[k * 3 + 1]? = some (.int .u32 (cs.getD k com0).2.1) ∧ (comCells cs ++ rest)[k * 3 + 2]? = some (.string (cs.getD k com0).2.2) := by
  induction cs with
  | nil => intro k hk; simp at hk
  | cons c cs ih =>
    intro k hk
    cases k with
    | zero => simp [comCells, comC]
    | succ k =>
      have h := ih k (by simpa using hk)
      rw [show (k + 1) * 3 = k * 3 + 1 + 1 + 1 by omega]
      simpa [comCells, comC] using h
theorem com_get2 (bs cs : List (Int × Int × ByteArray)) (k : Nat) (hk : k < cs.length) :
    (comCells bs ++ comCells cs)[(bs.length + k) * 3]? = some (.int .u32 (cs.getD k com0).1) ∧ (comCells bs ++ comCells cs)[(bs.length + k) * 3 + 1]? = some (.int .u32 (cs.getD k com0).2.1) ∧ (comCells bs ++ comCells cs)[(bs.length + k) * 3 + 2]? = some (.string (cs.getD k com0).2.2) := by
  have hl := comCells_len bs
  have h := com_get cs [] k hk
  rw [List.append_nil] at h
  refine ⟨?_, ?_, ?_⟩
  · rw [List.getElem?_append_right (by omega), hl, show (bs.length + k) * 3 - bs.length * 3 = k * 3 by omega]; exact h.1
  · rw [List.getElem?_append_right (by omega), hl, show (bs.length + k) * 3 + 1 - bs.length * 3 = k * 3 + 1 by omega]; exact h.2.1
  · rw [List.getElem?_append_right (by omega), hl, show (bs.length + k) * 3 + 2 - bs.length * 3 = k * 3 + 2 by omega]; exact h.2.2

theorem coms_get {w : World} {g cap : Nat} {cs : List (Int × Int × ByteArray)} (h : ComsAt w (.slice (some ⟨g, 0, none⟩) cs.length cap) cs) (k : Nat) (hk : k < cs.length) :
    w.cell? ⟨g, k * 3, none⟩ = some (.int .u32 (cs.getD k com0).1) ∧ w.cell? ⟨g, k * 3 + 1, none⟩ = some (.int .u32 (cs.getD k com0).2.1) := by
  obtain ⟨g', cap', hv, _, hc⟩ := h
  cases hv
  have h := com_get cs [] k hk
  rw [List.append_nil] at h
  exact ⟨(hc _ (by omega)).trans h.1, (hc _ (by omega)).trans h.2.1⟩

theorem below_drewN {B : Nat} {w w' : World} (h : Below B w w') : ∀ n, Below B w (w'.drewN n)
  | 0 => h
  | n + 1 => by
    have := (below_drewN h n).drew
    exact this

theorem StrsAt.of_slice {w : World} {ao : Option Addr} {n cap : Nat} {ss : List ByteArray} (h : StrsAt w (.slice ao n cap) ss) :
    (ao = none ∧ ss = [] ∧ cap = 0) ∨ ∃ a, ao = some a ∧ ∀ i, i < ss.length → w.cell? (a.add i) = some (.string (ss.getD i ByteArray.empty)) := by
  obtain ⟨a, c, hv, h⟩ := h
  cases hv
  exact h

theorem own_ptr {w : World} {base : Nat} {e : TypeId} {size : Nat} {ao : Option Addr} {c n : Nat} {xs : List Value} (h : w.ownsRow base e size (.slice ao n c) n xs) (hn : 0 < n) : ∃ g, ao = some ⟨g, 0, none⟩ := by
  rcases h.2 with ⟨_, h0⟩ | ⟨g, cap, cur, hv, _⟩
  · omega
  · cases hv; exact ⟨g, rfl⟩

theorem ComsAt.below {w w' : World} {v : Value} {cs : List (Int × Int × ByteArray)} (h : ComsAt w v cs) (hb : Below w.heap.size w w') : ComsAt w' v cs := by
  obtain ⟨g, cap, hv, hg, hc⟩ := h
  exact ⟨g, cap, hv, Nat.lt_of_lt_of_le hg hb.size, fun i hi => (hb.cell (p := ⟨g, i, none⟩) hg).trans (hc i hi)⟩

set_option maxRecDepth 100000 in
set_option maxHeartbeats 4000000 in
theorem lawQ_main (v0 v1 v2 v3 : Value) (t1 t2 : List ByteArray) (l1 l2 : List Int) (w : World) (h0 : t1.length ≤ 65536) (h2 : t2.length ≤ 65536) (e1 : l1.length = t1.length) (e2 : l2.length = t2.length)
    (hT1 : StrsAt w v0 t1) (hL1 : NumsAt w v1 l1) (hT2 : StrsAt w v2 t2) (hL2 : NumsAt w v3 l2) : Calls Tryd.prog 4 #[v0, v1, v2, v3] w fun e w' => e = .returned (.bool true) ∧ Below w.heap.size w w' := by
  have hby := bytesQ_any v0 v1 v2 v3 t1 t2 l1 l2 w (by unfold maxLen; omega) (by unfold maxLen; omega) hT1 hL1 hT2 hL2
  have hs1 := strBytes_any v0 t1 w h0 hT1
  have hs2 := strBytes_any v2 t2 w h2 hT2
  have hc1 := copyStrs_any v0 t1 w h0 hT1
  have HBY := Lib.hid hby
  have HS1 := Lib.hid hs1
  have HS2 := Lib.hid hs2
  have HC1 := Lib.hid hc1
  have HL1 := Lib.hid hL1
  have HT2 := Lib.hid hT2
  have HL2 := Lib.hid hL2
  obtain ⟨a0, cap0, rfl, -⟩ := hT1
  obtain ⟨a1, cap1, rfl, -⟩ := hL1
  obtain ⟨a2, cap2, rfl, -⟩ := hT2
  obtain ⟨a3, cap3, rfl, -⟩ := hL2
  rw [e1] at HBY HL1 ⊢
  rw [e2] at HBY HL2 ⊢
  clear hby hs1 hs2 hc1
  have h0z : (0 : Int) ≤ (t1.length : Int) ∧ (t1.length : Int) ≤ 65536 := by omega
  have h2z : (0 : Int) ≤ (t2.length : Int) ∧ (t2.length : Int) ≤ 65536 := by omega
  have HE := Lib.hid (And.intro e1 e2)
  clear e1 e2
  go_enter Tryd.func4, Tryd.ntmps4
  go_upto_region 21 with (first
    | (go_at_call 16; refine (HBY.out).mono ?_; rintro e w' ⟨b, rfl, rfl⟩)
    | (go_at_call 6; first | (refine (HS1.out).mono ?_; rintro e w' ⟨x1, rfl, rfl⟩; clear HS1) | (refine (HS2.out).mono ?_; rintro e w' ⟨x2, rfl, rfl⟩))
    | (go_at_call 7; first | (refine (HC1.out).mono ?_; rintro e wa ⟨u0, rfl, hu0, hba⟩; obtain ⟨ua0, uc0, hv0, -⟩ := id hu0; subst hv0; have HBA := Lib.hid hba; have HU0 := Lib.hid hu0; clear hba hu0 HC1) | (refine (copyStrs_any _ t2 _ h2 ((HT2.out.below HBA.out).below HBB.out)).mono ?_; rintro e wc ⟨u2, rfl, hu2, hbc⟩; obtain ⟨ua2, uc2, hv2, -⟩ := id hu2; subst hv2; have HBC := Lib.hid hbc; have HU2 := Lib.hid hu2; clear hbc hu2))
    | (go_at_call 8; first | (refine (copyNums_any _ l1 _ (by rw [HE.out.1]; exact h0) (HL1.out.below HBA.out)).mono ?_; rintro e wb ⟨u1, rfl, hu1, hbb⟩; have HBB := Lib.hid hbb; have HU1 := Lib.hid hu1; clear hbb hu1 HL1) | (refine (copyNums_any _ l2 _ (by rw [HE.out.2]; exact h2) (((HL2.out.below HBA.out).below HBB.out).below HBC.out)).mono ?_; rintro e wd ⟨u3, rfl, hu3, hbd⟩; have HBD := Lib.hid hbd; have HU3 := Lib.hid hu3; clear hbd hu3))
    | (go_at_call 9; first | (refine (comments_nil _ _ t1 l1 _ h0 HE.out.1 (((HU0.out.below HBB.out).below HBC.out).below HBD.out) ((HU1.out.below HBC.out).below HBD.out)).mono ?_; rintro e we ⟨k1, c1, rfl, hl1, hx1, hk1, hbe⟩; obtain ⟨g1, p1, hv1, -⟩ := id hk1; subst hv1; have HK1 := Lib.hid hk1; have HX1 := Lib.hid hx1; have HN1 := Lib.hid hl1; have HBE := Lib.hid hbe; clear hk1 hx1 hl1 hbe HU1) | (refine (comments_nil _ _ t2 l2 _ h2 HE.out.2 ((HU2.out.below HBD.out).below HBE.out) (HU3.out.below HBE.out)).mono ?_; rintro e wf ⟨k2, c2, rfl, hl2, hx2, hk2, hbf⟩; obtain ⟨g2, p2, hv2, -⟩ := id hk2; subst hv2; have HK2 := Lib.hid hk2; have HX2 := Lib.hid hx2; have HN2 := Lib.hid hl2; have HBF := Lib.hid hbf; clear hk2 hx2 hl2 hbf))
    | (go_at_call 12; refine (newPrinter_any false _).mono ?_; rintro e wg ⟨P, rfl, hpr, hPf, hbg⟩; have HPR := Lib.hid hpr; have HPF := Lib.hid hPf; have HBG := Lib.hid hbg; clear hpr hPf hbg)
    | (go_at_call 14; refine (line_any P false _ 0 _ HPR.out).mono ?_; rintro e w' ⟨rfl, hw⟩; subst w')
    | (go_at_call 15; first | (refine (queue_any P 0 _ _ [] 0 c1 _ (by omega) (by rw [HN1.out]; exact h0) HPR.out (World.ownsRow_nil _ _ _ _) ((HK1.out.below HBF.out).below HBG.out)).mono ?_; rintro e wh ⟨rfl, q1, hq1, hr1, hbh⟩; have HQ1 := Lib.hid hq1; have HR1 := Lib.hid hr1; have HBH := Lib.hid (HBG.out.trans (hbh.mono HPF.out)); clear hq1 hr1 hbh HPR) | (refine (queue_any P (0 + c1.length) _ _ ([] ++ comCells c1) 0 c2 _ (by have := HN1.out; omega) (by rw [HN2.out]; exact h2) HQ1.out HR1.out (HK2.out.below HBH.out)).mono ?_; rintro e wi ⟨rfl, q2, hq2, hr2, hbi⟩; have HQ2 := Lib.hid hq2; have HR2 := Lib.hid hr2; have HBI := Lib.hid (HBH.out.trans (hbi.mono HPF.out)); clear hq2 hr2 hbi HQ1 HR1))
    | (go_at_call 13; first | (refine (pending_any P false _ 0 _ HPR.out).mono ?_; rintro e w' ⟨rfl, hw⟩; subst w') | (refine (pending_any P false _ 0 _ HQ2.out).mono ?_; rintro e w' ⟨rfl, hw⟩; subst w')))
  any_goals (go_ret; exact ⟨rfl, Below.refl _ _⟩)
  have hr2 := HR2.out
  simp only [Nat.zero_add, List.nil_append] at hr2
  obtain ⟨ao, gc, hq⟩ := own_slice hr2
  subst hq
  have HR := Lib.hid hr2
  have b1 := HBA.out
  have b2 := b1.trans (HBB.out.mono b1.size)
  have b3 := b2.trans (HBC.out.mono b2.size)
  have b4 := b3.trans (HBD.out.mono b3.size)
  have b5 := b4.trans (HBE.out.mono b4.size)
  have b6 := b5.trans (HBF.out.mono b5.size)
  have HW := Lib.hid (b6.trans (HBI.out.mono b6.size))
  clear b1 b2 b3 b4 b5 b6
  have HS1 := Lib.hid ((((((HU0.out.below HBB.out).below HBC.out).below HBD.out).below HBE.out).below HBF.out).below HBI.out)
  have HS3 := Lib.hid ((((HU2.out.below HBD.out).below HBE.out).below HBF.out).below HBI.out)
  have HK1i := Lib.hid ((HK1.out.below HBF.out).below HBI.out)
  have HK2i := Lib.hid (HK2.out.below HBI.out)
  have hprn := HQ2.out
  clear hr2 HU0 HU2 HU3 HBA HBB HBC HBD HBE HBF HBG HBH HBI HK1 HK2 HR2
  have HPRN := Lib.hid hprn
  clear hprn
  have hc1z : (0 : Int) ≤ (c1.length : Int) ∧ (c1.length : Int) ≤ 65536 := by have := HN1.out; omega
  have hc2z : (0 : Int) ≤ (c2.length : Int) ∧ (c2.length : Int) ≤ 65536 := by have := HN2.out; omega
  have pn := posNeq
  have pg := guard33
  go_wp2
  go_loopw [15] (fun i wr => ∃ k n : Nat, k ≤ c1.length ∧ i = .int .i64 k ∧ wr = wi.drewN n) (fun i _ => c1.length - (intOf i).toNat)
  case atStart => exact ⟨0, 0, Nat.zero_le _, rfl, rfl⟩
  case round =>
    obtain ⟨k, n, hk, rfl, rfl⟩ := hrel
    by_cases hlt : k < c1.length
    · have hk1 : k < t1.length := by have := HN1.out; omega
      obtain ⟨bT, oT, hea, _, hcT⟩ := some_str (HS1.out.of_slice) hk1
      subst hea
      obtain ⟨gg, hga⟩ := own_ptr HR.out (by omega)
      subst hga
      obtain ⟨m1, m2, m3⟩ := com_get c1 (comCells c2) k hlt
      have hlen := comCells_len c1
      have q1 := HR.out.cellAt (k * 3) (by omega)
      have q2 := HR.out.cellAt (k * 3 + 1) (by omega)
      have q3 := HR.out.cellAt (k * 3 + 2) (by omega)
      rw [m1] at q1
      rw [m2] at q2
      rw [m3, HX1.out k hlt] at q3
      obtain ⟨z1, z2⟩ := coms_get HK1i.out k hlt
      clear m1 m2 m3 hlen
      generalize (c1.getD k com0).1 = x at *
      generalize (c1.getD k com0).2.1 = y at *
      generalize t1.getD k ByteArray.empty = s at *
      have hkz : (k : Int) < (c1.length : Int) ∧ (k : Int) < (t1.length : Int) := by omega
      have hkn : (k : Int) < ((c1.length + c2.length : Nat) : Int) := by omega
      go_wp2
      go_quiet (fail)
      go_wp2
      go_roundw
      case rel => exact ⟨k + 1, n + nq, by omega, by go_num, by simp⟩
      case measure => simp [intOf]; omega
    · obtain rfl : k = c1.length := by omega
      have HBn := Lib.hid (below_drewN HW.out n)
      have HS3n : Hid (StrsAt (wi.drewN n) (.slice ua2 t2.length uc2) t2) := HS3
      have HK2n : Hid (ComsAt (wi.drewN n) (.slice (some ⟨g2, 0, none⟩) c2.length p2) c2) := HK2i
      have HRn : Hid ((wi.drewN n).ownsRow (P + 1) 35 3 (.slice ao (c1.length + c2.length) gc) (c1.length + c2.length) (comCells c1 ++ comCells c2)) := HR
      have HPn : Hid (IsPrn (wi.drewN n) P false (.slice ao (c1.length + c2.length) gc) 0) := Lib.hid (HPRN.out.below (below_drewN (Below.refl _ _) n))
      clear HW HS3 HK2i HR HPRN HS1 HK1i HX1
      generalize wi.drewN n = wj at *
      go_wp2
      go_loopw [16, 17] (fun i _ wr => ∃ k : Nat, k ≤ c2.length ∧ i = .int .i64 k ∧ Below wj.heap.size wj wr) (fun i _ _ => c2.length - (intOf i).toNat)
      case atStart => exact ⟨0, Nat.zero_le _, rfl, Below.refl _ _⟩
      case round =>
        obtain ⟨k, hk, rfl, hbk⟩ := hrel
        by_cases hlt : k < c2.length
        · have hk1 : k < t2.length := by have := HN2.out; omega
          obtain ⟨bT, oT, hea, hbT, hcT⟩ := some_str ((HS3n.out.below hbk).of_slice) hk1
          subst hea
          obtain ⟨gg, hga⟩ := own_ptr HRn.out (by omega)
          subst hga
          obtain ⟨m1, m2, m3⟩ := com_get2 c1 c2 k hlt
          have hlen := comCells_len c1
          have hlen2 := comCells_len c2
          have hown := own_call HRn.out hbk
          have q1 := hown.cellAt ((c1.length + k) * 3) (by omega)
          have q2 := hown.cellAt ((c1.length + k) * 3 + 1) (by omega)
          have q3 := hown.cellAt ((c1.length + k) * 3 + 2) (by omega)
          rw [m1] at q1
          rw [m2] at q2
          rw [m3, HX2.out k hlt] at q3
          obtain ⟨z1, z2⟩ := coms_get (HK2n.out.below hbk) k hlt
          clear m1 m2 m3 hlen hlen2 hown
          generalize (c2.getD k com0).1 = x at *
          generalize (c2.getD k com0).2.1 = y at *
          generalize t2.getD k ByteArray.empty = s at *
          have hkz : (k : Int) < (c2.length : Int) ∧ (k : Int) < (t2.length : Int) := by omega
          have hkn : (c1.length : Int) + (k : Int) < ((c1.length + c2.length : Nat) : Int) := by omega
          have HBK := Lib.hid hbk
          clear hbk
          have l1 := World.block_lt_of_cell? _ _ hcT
          have l2 := World.block_lt_of_cell? _ _ z1
          simp only [] at l1 l2
          go_wp2
          go_quiet (fail)
          go_wp2
          go_roundw
          case rel => exact ⟨k + 1, by omega, by go_num, below_drewN (HBK.out.alloc HBK.out.size _) _⟩
          case measure => simp [intOf]; omega
        · obtain rfl : k = c2.length := by omega
          go_wp2_with (go_at_call 14; refine (line_any P false _ 0 _ (HPn.out.below hbk)).mono ?_; rintro e w' ⟨rfl, hw⟩; subst w')
          go_ret
          exact ⟨rfl, HBn.out.trans (hbk.mono HBn.out.size)⟩
end Go.Proofs.YtelflagehingoaaDoor
