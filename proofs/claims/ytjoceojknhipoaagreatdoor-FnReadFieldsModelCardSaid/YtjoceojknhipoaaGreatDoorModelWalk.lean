/-
  The walk of the model.
-/
import Derived.Test.YtjoceojknhipoaaGreatDoorModelEnd
import Derived.Test.YtjoceojknhipoaaGreatDoorSmallM
import Derived.Laws.IdiomStrings
import Derived.Maps.AppendAt
import Derived.Deep.LoopGhost
import Derived.Deep.CutRange
import Derived.Deep.DeepCutAuto
namespace Go.Proofs.YtjoceojknhipoaaGreatDoor
open Go.RowKit Rf

theorem cell_front (w : World) (l : List Value) (r : Array Value) (e : TypeId) (k : Nat) (u : Value) (h : l[k]? = some u) : (w.alloc (.cells (l.toArray ++ r) e)).cell? ⟨w.heap.size, k, none⟩ = some u := by
  have hk : k < l.length := (List.getElem?_eq_some_iff.1 h).1
  rw [cell_of_row _ _ k (l.toArray ++ r) e (0, 0) (heap_alloc_new w _)]
  rw [Array.getElem?_append_left (by simpa using hk)]
  simpa using h

theorem conv_runes (s : ByteArray) (w : World) (hs : s.size ≤ 65536) : ∃ cap w', (convert 9 53 (.string s)).run Tryz.prog w = .ok (.slice (some ⟨w.heap.size, 0, none⟩) (runes s).length cap) w' ∧
    (∀ k, k < (runes s).length → w'.cell? ⟨w.heap.size, k, none⟩ = some (.int .i32 ((runes s).getD k 0))) ∧ Below w.heap.size w w' ∧ w.heap.size < w'.heap.size := by
  have hl := runes_length s
  have hsz : (Conv.runesFrom s s.size 0 #[]).size = (runes s).length := by rw [runesFrom_whole]; simp
  have h := run_runes_of_string (P := Tryz.prog) w 9 53 21 s (by kernel_rfl) Tryz.underlying53 (by kernel_rfl) (by rw [hsz]; omega)
  rw [hsz, runesFrom_whole] at h
  refine ⟨_, _, h, ?_, ?_, ?_⟩
  · intro k hk
    exact cell_front w.drew _ _ _ k _ (by simp [List.getD, hk])
  · exact Below.alloc (w := w.drew) (Below.trans (Below.refl _ w) ⟨rfl, rfl, rfl, Nat.le_refl _, fun _ _ => rfl⟩) (Nat.le_refl _) _
  · show w.drew.heap.size < (w.drew.alloc _).heap.size
    simp

theorem Tryz.info_int : (Tryz.prog.info? 3).map (fun i => (i.zero, i.size, i.bytes)) = some (some (.int .i64 0), 1, 8) := by kernel_rfl

theorem toks_length (raw : Bool) : ∀ rs : List Int, (toks raw rs).length ≤ rs.length := by
  intro rs
  induction rs using toks.induct (raw := raw) with
  | case1 => exact Nat.le_refl _
  | case2 r h => rw [toks_last _ _ h]; exact Nat.le_refl _
  | case3 r h => rw [toks_plain _ _ _ (by simpa using h), toks_nil]; exact Nat.le_refl _
  | case4 r x rs h ih => rw [toks_esc _ _ _ _ h]; simp only [List.length_cons]; omega
  | case5 r x rs h ih => rw [toks_plain _ _ _ (by simpa using h)]; simp only [List.length_cons] at ih ⊢; omega

theorem tcut_short {n : Int} {L : List (Nat × Nat)} (hn : n = -1 ∨ 1 ≤ n) (hc : n ≠ -1 ∧ n < (L.length : Int)) : ((tcut n L).length : Int) = n := by
  unfold tcut
  rw [if_pos hc]
  simp
  omega

theorem solid_drop {w w' : World} {rs : List Int} {g : Nat} (hc : ∀ k, k < rs.length → w.cell? ⟨g, k, none⟩ = some (.int .i32 (rs.getD k 0))) (hb : Below w.heap.size w w') : ∀ k, k < rs.length → w'.cell? ⟨g, k, none⟩ = some (.int .i32 (rs.getD k 0)) :=
  fun k hk => (hb.cell (World.block_lt_of_cell? w _ (hc k hk))).trans (hc k hk)

set_option maxRecDepth 100000 in
set_option maxHeartbeats 4000000 in
theorem model_any (ifs s : ByteArray) (n : Int) (raw : Bool) (w : World) (hs : ifs.size ≤ 4096) (hsz : s.size ≤ 65536) (hn : n = -1 ∨ 1 ≤ n) :
    Calls Tryz.prog 10 #[.string ifs, .string s, .int .i64 n, .bool raw] w (RfRes (mall (among ifs) n (toks raw (runes s))) w) := by
  obtain ⟨i2, hi2, hx0, hx1, hx2⟩ := info_parts Tryz.info_str
  obtain ⟨i4, hi4, hz0, hz1, hz2⟩ := info_parts Tryz.info_int
  obtain ⟨ca, wa, ha, hac, hab, hal⟩ := conv_runes ifs w (by omega)
  obtain ⟨cb, wb, hb, hbc, hbb, hbl⟩ := conv_runes s wa (by omega)
  have hrl := runes_length s
  have htk := tokens_any (runes s) raw wa.heap.size cb wb (by omega) hbc
  have HTK := Lib.hid htk
  have HAC := Lib.hid hac
  have HBB := Lib.hid (And.intro hab hbb)
  clear htk hac hbc
  go_enter Tryz.func10, Tryz.ntmps10
  go_wp2_with (first
    | (go_at_call 20; refine (HTK.out).mono ?_; rintro e w3 ⟨gt, ct, rfl, hto, htb⟩))
  have hta := toksAt_own hto
  have hgt := (hto.lt gt rfl).2
  have htn := toks_length raw (runes s)
  generalize hT : toks raw (runes s) = T at *
  have hTl : T.length ≤ 65536 := by omega
  have hTz : (0 : Int) ≤ (T.length : Int) ∧ (T.length : Int) ≤ 65536 := by omega
  have HB3 := Lib.hid (HBB.out.1.trans ((HBB.out.2.mono (Nat.le_of_lt hal)).trans (htb.mono (Nat.le_of_lt (Nat.lt_trans hal hbl)))))
  have hac3 := solid_drop HAC.out (HBB.out.2.trans (htb.mono (Nat.le_of_lt hbl)))
  have HAC3 := Lib.hid hac3
  have HTA := Lib.hid hta
  have HTT := Lib.hid hT
  clear hta hto hac3 hT htb
  have hifl : (runes ifs).length ≤ 65536 := by have := runes_length ifs; omega
  have hsol : ∀ (t : Tok) (w5 : World), Below w3.heap.size w3 w5 → Calls Tryz.prog 21 #[t.val, .slice (some ⟨w.heap.size, 0, none⟩) (runes ifs).length ca] w5 fun e w' => e = .returned (.bool (solid (among ifs) t)) ∧ Below w5.heap.size w5 w' := fun t w5 hb5 =>
    solid_any t (runes ifs) w.heap.size ca w5 hifl (fun k hk => (hb5.cell (World.block_lt_of_cell? w3 _ (HAC3.out k hk))).trans (HAC3.out k hk))
  have HSOL := Lib.hid hsol
  clear hsol
  go_loopg [11, 12, 13, 14] T.length (fun gk s11 s12 s13 _s14 wr => ∃ (i : Nat) (L : List (Nat × Nat)) (vs ve : Value), vs = s11 ∧ ve = s12 ∧ i ≤ T.length ∧ gk = T.length - i ∧ s13 = .int .i64 i ∧ RunMem w3 (L.map (·.1)) (L.map (·.2)) vs ve wr ∧ Hid (AtHead (among ifs) T i ∧ runsTo (among ifs) T i = L) ∧ L.length ≤ i)
  case atStart => exact ⟨0, [], _, _, rfl, rfl, Nat.zero_le _, rfl, rfl, runMem_start w3, Lib.hid (head_start _ _), Nat.le_refl _⟩
  case round =>
    obtain ⟨i, L, vs, ve, rfl, rfl, hi, rfl, rfl, hm, hh, hLi⟩ := hrel
    have HM := Lib.hid hm
    clear hm
    by_cases hlt : i < T.length
    · have hiz : (i : Int) < (T.length : Int) := by omega
      obtain ⟨c1, c2, c3⟩ := toksAt_below HTA.out hgt HM.out.bel i tok0 hlt
      obtain ⟨t, ht⟩ : ∃ t, T.getD i tok0 = t := ⟨_, rfl⟩
      rw [ht] at c1 c2 c3
      have HT := Lib.hid ht
      clear ht
      have hsc := HSOL.out t _ HM.out.bel
      have HSC := Lib.hid hsc
      clear hsc
      cases hso : solid (among ifs) t
      · go_wp2_with (go_at_call 21; refine (HSC.out).mono ?_; rintro e w5 ⟨rfl, hb5⟩; rw [hso])
        go_roundg (T.length - (i + 1))
        case measure => omega
        case rel => exact ⟨i + 1, L, _, _, rfl, rfl, by omega, rfl, by first | rfl | simp, HM.out.call hb5, Lib.hid (by have := head_sep (sep := among ifs) (ts := T) (i := i) (by rw [HT.out]; exact hso); exact ⟨this.1, this.2.trans hh.out.2⟩), by omega⟩
      · go_wp2_with (go_at_call 21; refine (HSC.out).mono ?_; rintro e w5 ⟨rfl, hb5⟩; rw [hso])
        have hst := HM.out.call hb5
        have hopen := head_open hh.out.1 hlt (by rw [HT.out]; exact hso)
        rw [hh.out.2] at hopen
        have HOP := Lib.hid hopen
        have HS5 := Lib.hid hst
        clear hopen hst HSC c1 c2 c3
        go_loopg [14] (T.length - i) (fun gk s14 wx => ∃ j : Nat, i ≤ j ∧ j ≤ T.length ∧ gk = T.length - j ∧ s14 = .int .i64 j ∧ RunMem w3 (L.map (·.1)) (L.map (·.2)) vs ve wx ∧ Hid (RS (among ifs) T j = (L, if j = i then none else some i)))
        case atStart => exact ⟨i, Nat.le_refl _, hi, rfl, rfl, HS5.out, Lib.hid (by rw [HOP.out]; simp)⟩
        case round =>
          obtain ⟨j, hij, hj, rfl, rfl, hmj, hrs⟩ := hrel
          have HMJ := Lib.hid hmj
          clear hmj HS5
          have hjz : (0 : Int) ≤ (j : Int) ∧ (j : Int) ≤ 65536 := by omega
          have hzw := HMJ.out.bel.size
          have hLl : L.length ≤ 65536 := by omega
          by_cases hjt : j < T.length
          · have hjt2 : (j : Int) < (T.length : Int) := by omega
            obtain ⟨c1, c2, c3⟩ := toksAt_below HTA.out hgt HMJ.out.bel j tok0 hjt
            obtain ⟨t2, ht2⟩ : ∃ t2, T.getD j tok0 = t2 := ⟨_, rfl⟩
            rw [ht2] at c1 c2 c3
            have HT2 := Lib.hid ht2
            clear ht2
            have hsc := HSOL.out t2 _ HMJ.out.bel
            have HSC2 := Lib.hid hsc
            clear hsc
            cases hso2 : solid (among ifs) t2
            · have hji : j ≠ i := fun e => by subst e; have := HT.out; rw [HT2.out] at this; subst this; rw [hso] at hso2; cases hso2
              go_wp2_with (first
              | (go_at_call 21; refine (HSC2.out).mono ?_; rintro e w6 ⟨rfl, hb6⟩; rw [hso2]; have HM6 := Lib.hid (HMJ.out.call hb6))
              | (at_builtin; refine wpList_append_own_at _ rfl _ _ 60 rfl w3.heap.size 3 i4 (.int .i64 0) 1 8 Tryz.underlying60 hi4 hz0 hz1 hz2 rfl (by decide) _ _ _ rfl (HM7.out.en.alloc _) ⟨w7.heap.size, 0, none⟩ 1 1 [.int .i64 j] rfl rfl (cell_one_new _ _ _) (by intro u hu; simp at hu; subst hu; rfl) (by unfold maxLen; simp; omega) (by simp; omega) (by have := HM7.out.bel.size; simp; omega) ?_; intro v2 w8 hown8 hgrow8 _ hloc8)
              | (at_builtin; refine wpList_append_own_at _ rfl _ _ 60 rfl w3.heap.size 3 i4 (.int .i64 0) 1 8 Tryz.underlying60 hi4 hz0 hz1 hz2 rfl (by decide) _ _ _ rfl (HM6.out.st.alloc _) ⟨w6.heap.size, 0, none⟩ 1 1 [.int .i64 i] rfl rfl (cell_one_new _ _ _) (by intro u hu; simp at hu; subst hu; rfl) (by unfold maxLen; simp; omega) (by simp; omega) (by have := HM6.out.bel.size; simp; omega) ?_; intro v1 w7 hown7 hgrow7 _ hloc7; have HM7 := Lib.hid (HM6.out.pushS _ _ hown7 hgrow7 hloc7)))
              go_roundg (T.length - j)
              case measure => omega
              case rel => exact ⟨j, L ++ [(i, j)], _, _, rfl, rfl, by omega, rfl, by first | rfl | simp, by rw [List.map_append, List.map_append]; exact HM7.out.pushE _ _ hown8 hgrow8 hloc8, Lib.hid ⟨Or.inr (Or.inr (by rw [HT2.out]; exact hso2)), by unfold runsTo; rw [hrs.out, if_neg hji]; rfl⟩, by simp; omega⟩
            · go_wp2_with (go_at_call 21; refine (HSC2.out).mono ?_; rintro e w6 ⟨rfl, hb6⟩; rw [hso2])
              go_roundg (T.length - (j + 1))
              case measure => omega
              case rel => exact ⟨j + 1, by omega, by omega, rfl, by first | rfl | simp, HMJ.out.call hb6, Lib.hid (by rw [run_step hrs.out (by rw [HT2.out]; exact hso2), if_neg (by omega)])⟩
          · obtain rfl : j = T.length := by omega
            have hji : T.length ≠ i := by omega
            have HM6 := Lib.hid HMJ.out
            go_wp2_with (first
              | (at_builtin; refine wpList_append_own_at _ rfl _ _ 60 rfl w3.heap.size 3 i4 (.int .i64 0) 1 8 Tryz.underlying60 hi4 hz0 hz1 hz2 rfl (by decide) _ _ _ rfl (HM7.out.en.alloc _) ⟨w7.heap.size, 0, none⟩ 1 1 [.int .i64 T.length] rfl rfl (cell_one_new _ _ _) (by intro u hu; simp at hu; subst hu; rfl) (by unfold maxLen; simp; omega) (by simp; omega) (by have := HM7.out.bel.size; simp; omega) ?_; intro v2 w8 hown8 hgrow8 _ hloc8)
              | (at_builtin; refine wpList_append_own_at _ rfl _ _ 60 rfl w3.heap.size 3 i4 (.int .i64 0) 1 8 Tryz.underlying60 hi4 hz0 hz1 hz2 rfl (by decide) _ _ _ rfl (HM6.out.st.alloc _) ⟨wr.heap.size, 0, none⟩ 1 1 [.int .i64 i] rfl rfl (cell_one_new _ _ _) (by intro u hu; simp at hu; subst hu; rfl) (by unfold maxLen; simp; omega) (by simp; omega) (by have := HM6.out.bel.size; simp; omega) ?_; intro v1 w7 hown7 hgrow7 _ hloc7; have HM7 := Lib.hid (HM6.out.pushS _ _ hown7 hgrow7 hloc7)))
            go_roundg 0
            case measure => omega
            case rel => exact ⟨T.length, L ++ [(i, T.length)], _, _, rfl, rfl, by omega, by omega, by first | rfl | simp, by rw [List.map_append, List.map_append]; exact HM7.out.pushE _ _ hown8 hgrow8 hloc8, Lib.hid ⟨Or.inr (Or.inl rfl), by unfold runsTo; rw [hrs.out, if_neg hji]; rfl⟩, by simp; omega⟩
    · obtain rfl : i = T.length := by omega
      have hL := hh.out.2
      have hLl : L.length ≤ 65536 := by omega
      have hst := HM.out.st
      have hen := HM.out.en
      have HBL := Lib.hid (HB3.out.trans (HM.out.bel.mono HB3.out.size))
      have hmall : ∀ r, r = mall (among ifs) n T → RfRes r w = RfRes (mall (among ifs) n T) w := fun r h => by rw [h]
      have HMALL := Lib.hid hmall
      have HL := Lib.hid hL
      clear hmall hL hh
      rw [List.length_map] at hst hen
      by_cases hL0 : L = []
      · subst hL0
        obtain ⟨sa, sc, hsv⟩ := own_slice hst
        obtain ⟨ea, ec, hev⟩ := own_slice hen
        subst hsv hev
        clear HM hst hen
        go_wp2
        go_ret
        rw [← HMALL.out none (by unfold mall mone mres; rw [HL.out]; simp)]
        exact ⟨_, rfl, rfl, HBL.out⟩
      · have hlp : 0 < L.length := List.length_pos_iff.2 hL0
        obtain ⟨sg, sc, hsv⟩ := own_cons hst hlp
        obtain ⟨eg, ec, hev⟩ := own_cons hen hlp
        subst hsv hev
        have HST := Lib.hid hst
        have HEN := Lib.hid hen
        clear hst hen
        have hlz : (1 : Int) ≤ (L.length : Int) ∧ (L.length : Int) ≤ 65536 := by omega
        have hl0 : ((L.length : Int) == 0) = false := by simp; omega
        by_cases hn1 : n = 1
        · subst hn1
          have hres : some [textOf ((T.take (mhi (among ifs) T)).drop (mlo (among ifs) T))] = mall (among ifs) 1 T := by unfold mall mone; rw [if_pos rfl, HL.out, if_neg hL0]
          have HRES := Lib.hid hres
          clear hres
          have hoe : mlo (among ifs) T < mhi (among ifs) T ∧ mhi (among ifs) T ≤ T.length := by
            have h0 := run_ends (among ifs) T T.length
            unfold RunEnds at h0
            have hne : closeAt (RS (among ifs) T T.length).1 (RS (among ifs) T T.length).2 T.length ≠ [] := by
              show runsTo (among ifs) T T.length ≠ []
              rw [HL.out]
              exact hL0
            exact (one_ends (by rw [← HTT.out]; exact toks_lit raw (runes s)) (h0.2 hne)).2.2
          have hml := marks_len (among ifs) T
          have HML := Lib.hid hml
          clear hml
          obtain ⟨wo, rfl⟩ : ∃ wo : World, wo = wr := ⟨_, rfl⟩
          go_upto_block 4 with fail
          go_cut [16] from 71 (fun s16 wx => ∃ j : Nat, s16 = .int .i64 j ∧ mlo (among ifs) T = j ∧ Below wo.heap.size wo wx)
          case first =>
            go_wp2_with fail
            go_loopg [16] T.length (fun gk s16 wx => ∃ j : Nat, j ≤ T.length ∧ gk = T.length - j ∧ s16 = .int .i64 j ∧ LoAt isOne (marks (among ifs) T) T.length j ∧ Below wo.heap.size wo wx)
            case atStart => exact ⟨0, Nat.zero_le _, rfl, rfl, lo_start _ _ _, Below.refl _ _⟩
            case round =>
              obtain ⟨j, hj, rfl, rfl, hlo, hbx⟩ := hrel
              have HLO := Lib.hid hlo
              have HBX := Lib.hid hbx
              have hb3 := HM.out.bel.trans (hbx.mono HM.out.bel.size)
              clear hlo hbx
              by_cases hlt : j < T.length
              · have hjz : (j : Int) < (T.length : Int) := by omega
                obtain ⟨c1, c2, c3⟩ := toksAt_below HTA.out hgt hb3 j tok0 hlt
                have hmk := isOne_skips (among ifs) (T.getD j tok0)
                rw [← marks_at _ _ _ hlt] at hmk
                obtain ⟨t, ht⟩ : ∃ t, T.getD j tok0 = t := ⟨_, rfl⟩
                rw [ht] at c1 c2 c3 hmk
                have HMK := Lib.hid hmk
                have hsc := HSOL.out t _ hb3
                have HSC := Lib.hid hsc
                clear hsc ht hmk hb3
                cases hso : solid (among ifs) t
                · cases hws : isWS t.r
                  · go_wp2_with (first
                      | (go_at_call 21; refine (HSC.out).mono ?_; rintro e w5 ⟨rfl, hb5⟩; rw [hso]; have c1b := (hb5.cell (World.block_lt_of_cell? _ _ c1)).trans c1)
                      | (go_at_call 22; refine (ws_any _ _).mono ?_; rintro e w6 ⟨rfl, hw6⟩; rw [hws]; subst w6))
                    go_meet
                    exact ⟨j, rfl, lo_stop HLO.out hlt (by rw [HML.out]; exact Nat.le_refl _) (by rw [HMK.out, hso, hws]; simp), HBX.out.trans (hb5.mono HBX.out.size)⟩
                  · go_wp2_with (first
                      | (go_at_call 21; refine (HSC.out).mono ?_; rintro e w5 ⟨rfl, hb5⟩; rw [hso]; have c1b := (hb5.cell (World.block_lt_of_cell? _ _ c1)).trans c1)
                      | (go_at_call 22; refine (ws_any _ _).mono ?_; rintro e w6 ⟨rfl, hw6⟩; rw [hws]; subst w6))
                    go_roundg (T.length - (j + 1))
                    case measure => omega
                    case rel => exact ⟨j + 1, by omega, rfl, by first | rfl | simp, lo_step HLO.out hlt (by rw [HML.out]; exact Nat.le_refl _) (by rw [HMK.out, hso, hws]; rfl), HBX.out.trans (hb5.mono HBX.out.size)⟩
                · go_wp2_with (first
                    | (go_at_call 21; refine (HSC.out).mono ?_; rintro e w5 ⟨rfl, hb5⟩; rw [hso]))
                  go_meet
                  exact ⟨j, rfl, lo_stop HLO.out hlt (by rw [HML.out]; exact Nat.le_refl _) (by rw [HMK.out, hso]; simp), HBX.out.trans (hb5.mono HBX.out.size)⟩
              · obtain rfl : j = T.length := by omega
                have hjz : ¬ (T.length : Int) < (T.length : Int) := by omega
                go_wp2
                go_meet
                exact ⟨T.length, rfl, lo_all HLO.out, HBX.out⟩
          case rest =>
            obtain ⟨x, rfl, hxlo, hb5⟩ := hcut
            have HB5 := Lib.hid hb5
            rw [hxlo] at hoe HRES
            have HXLO := Lib.hid hxlo
            clear hb5 hxlo
            have hxz : (0 : Int) ≤ (x : Int) ∧ (x : Int) < (T.length : Int) := by omega
            go_upto_block 6 with fail
            go_cut [17] from 96 (fun s17 wx => ∃ j : Nat, s17 = .int .i64 j ∧ mhi (among ifs) T = j ∧ Below wo.heap.size wo wx)
            case first =>
              go_wp2_with fail
              go_loopg [17] T.length (fun gk s17 wx => ∃ j : Nat, j ≤ T.length ∧ gk = T.length - (T.length - j) ∧ x ≤ j ∧ s17 = .int .i64 j ∧ HiAt isOne (marks (among ifs) T) x j ∧ Below wo.heap.size wo wx)
              case atStart => exact ⟨T.length, Nat.le_refl _, by omega, by omega, rfl, by have := hi_start isOne (marks (among ifs) T) x; rwa [HML.out] at this, HB5.out⟩
              case round =>
                obtain ⟨j, hj, rfl, hxj, rfl, hhi, hbx⟩ := hrel
                have HHI := Lib.hid hhi
                have HBX := Lib.hid hbx
                have hb3 := HM.out.bel.trans (hbx.mono HM.out.bel.size)
                clear hhi hbx
                by_cases hlt : x < j
                · obtain ⟨m, rfl⟩ : ∃ m, j = m + 1 := ⟨j - 1, by omega⟩
                  have hjz : (x : Int) < (m : Int) + 1 := by omega
                  have hmz : (0 : Int) ≤ (m : Int) ∧ (m : Int) < (T.length : Int) := by omega
                  obtain ⟨c1, c2, c3⟩ := toksAt_below HTA.out hgt hb3 m tok0 (by omega)
                  have hmk := isOne_skips (among ifs) (T.getD m tok0)
                  rw [← marks_at _ _ _ (by omega)] at hmk
                  obtain ⟨t, ht⟩ : ∃ t, T.getD m tok0 = t := ⟨_, rfl⟩
                  rw [ht] at c1 c2 c3 hmk
                  have HMK := Lib.hid hmk
                  have hsc := HSOL.out t _ hb3
                  have HSC := Lib.hid hsc
                  clear hsc ht hmk hb3
                  cases hso : solid (among ifs) t
                  · cases hws : isWS t.r
                    · go_wp2_with (first
                        | (go_at_call 21; refine (HSC.out).mono ?_; rintro e w5 ⟨rfl, hb5⟩; rw [hso]; have c1b := (hb5.cell (World.block_lt_of_cell? _ _ c1)).trans c1)
                        | (go_at_call 22; refine (ws_any _ _).mono ?_; rintro e w6 ⟨rfl, hw6⟩; rw [hws]; subst w6))
                      go_meet
                      exact ⟨m + 1, by first | rfl | simp, by unfold mhi; rw [HXLO.out]; exact hi_stop HHI.out hlt (by rw [HML.out]; exact hj) (by rw [HMK.out, hso, hws]; simp), HBX.out.trans (hb5.mono HBX.out.size)⟩
                    · go_wp2_with (first
                        | (go_at_call 21; refine (HSC.out).mono ?_; rintro e w5 ⟨rfl, hb5⟩; rw [hso]; have c1b := (hb5.cell (World.block_lt_of_cell? _ _ c1)).trans c1)
                        | (go_at_call 22; refine (ws_any _ _).mono ?_; rintro e w6 ⟨rfl, hw6⟩; rw [hws]; subst w6))
                      go_roundg (T.length - (T.length - m))
                      case measure => omega
                      case rel => exact ⟨m, by omega, rfl, by omega, by first | rfl | simp, hi_step HHI.out hlt (by rw [HML.out]; exact hj) (by rw [HMK.out, hso, hws]; rfl), HBX.out.trans (hb5.mono HBX.out.size)⟩
                  · go_wp2_with (first
                      | (go_at_call 21; refine (HSC.out).mono ?_; rintro e w5 ⟨rfl, hb5⟩; rw [hso]))
                    go_meet
                    exact ⟨m + 1, by first | rfl | simp, by unfold mhi; rw [HXLO.out]; exact hi_stop HHI.out hlt (by rw [HML.out]; exact hj) (by rw [HMK.out, hso]; simp), HBX.out.trans (hb5.mono HBX.out.size)⟩
                · obtain rfl : j = x := by omega
                  have hjz : ¬ (j : Int) < (j : Int) := by omega
                  go_wp2
                  go_meet
                  exact ⟨j, rfl, by unfold mhi; rw [HXLO.out]; exact hi_all HHI.out, HBX.out⟩
            case rest =>
              obtain ⟨y, rfl, hyhi, hb6⟩ := hcut
              rw [hyhi] at hoe HRES
              clear hyhi
              have hb3 := HM.out.bel.trans (hb6.mono HM.out.bel.size)
              have htx := text_any T gt ct x y wc hTl hoe.2 (Nat.le_of_lt hoe.1) (toksAt_below HTA.out hgt hb3) (Nat.lt_of_lt_of_le hgt hb3.size)
              have HTX := Lib.hid htx
              have HB6 := Lib.hid (HBL.out.trans (hb6.mono HBL.out.size))
              clear htx hb3 hb6
              go_wp2_with (go_at_call 23; refine (HTX.out).mono ?_; rintro e w7 ⟨rfl, hb7⟩)
              go_ret
              rw [← HRES.out]
              refine ⟨_, rfl, ⟨w7.heap.size, 1, rfl, fun k hk => ?_⟩, (HB6.out.trans (hb7.mono HB6.out.size)).alloc (Nat.le_trans HB6.out.size hb7.size) _⟩
              obtain rfl : k = 0 := by simpa using hk
              exact (cell_one_new _ _ _ 0 _ rfl)
        · have hn2 : n = -1 ∨ 2 ≤ n := by omega
          have hn1b : (n == 1) = false := by simp [hn1]
          have htl := tcut_len (n := n) hL0 hLl
          go_upto_region 26 with fail
          go_cut [132] from 126 (fun s132 wx => wr = wx ∧ s132 = .bool (decide (n ≠ -1 ∧ n < (L.length : Int))))
          case first =>
            by_cases c1 : n = -1
            · have c1b : (n != -1) = false := by simp [c1]
              go_wp2
              go_meet
              exact ⟨rfl, by simp [c1]⟩
            · have c1b : (n != -1) = true := by simp [c1]
              go_wp2
              go_meet
              exact ⟨rfl, by simp [c1]⟩
          case rest =>
            obtain ⟨rfl, rfl⟩ := hcut
            go_upto_if 132 with fail
            go_cut [18] from 22 (fun s18 wx => wr = wx ∧ s18 = .int .i64 ((tcut n L).length : Nat))
            case first =>
              by_cases hc : n ≠ -1 ∧ n < (L.length : Int)
              · have hd : decide (n ≠ -1 ∧ n < (L.length : Int)) = true := decide_eq_true hc
                rw [hd]
                have hq := tcut_short hn hc
                go_wp2
                go_meet
                exact ⟨rfl, by rw [hq]⟩
              · have hd : decide (n ≠ -1 ∧ n < (L.length : Int)) = false := decide_eq_false hc
                rw [hd]
                have hq : tcut n L = L := by unfold tcut; rw [if_neg hc]
                go_wp2
                go_meet
                exact ⟨rfl, by rw [hq]⟩
            case rest =>
              obtain ⟨rfl, rfl⟩ := hcut
              have hcat : ∀ k, k < (tcut n L).length → CutAt n L k := fun k hk => tcut_at hn2 hk
              have hok := tcut_ok hn2 (by have := runs_asc (among ifs) T T.length; rw [HL.out] at this; exact this)
              have hres : some ((tcut n L).map (textAt T)) = mall (among ifs) n T := by unfold mall mres; rw [if_neg hn1, HL.out, if_neg hL0]
              have HCAT := Lib.hid hcat
              have HOK := Lib.hid hok
              have HRES := Lib.hid hres
              clear hcat hok hres
              generalize hC : tcut n L = C at *
              obtain ⟨M, hM⟩ : ∃ M, C.length = M := ⟨_, rfl⟩
              rw [hM] at htl ⊢
              have hMz : (1 : Int) ≤ (M : Int) ∧ (M : Int) ≤ 65536 := by omega
              have HMC := Lib.hid (And.intro hC hM)
              have hwz := HM.out.bel.size
              clear hC hM
              obtain ⟨wo, rfl⟩ : ∃ wo : World, wo = wr := ⟨_, rfl⟩
              go_wp2_with (first
                | (at_make; refine wpList_make_full _ rfl _ _ 23 rfl wo.heap.size 9 i2 (.string ByteArray.empty) 1 Tryz.underlying23 hi2 hx0 hx1 _ _ _ _ M rfl rfl rfl rfl (by rw [hx2]; omega) (by unfold maxLen; omega) (Nat.le_refl _) ?_; intro wm hown2 hgrow2))
              obtain ⟨hb0, hh⟩ : ∃ hb0, wo.heap.size = hb0 := ⟨_, rfl⟩
              have hml : (mtexts T C).length = M := by rw [mtexts_len]; exact HMC.out.2
              have hfill : Filled hb0 wo (mtexts T C) 0 wm := ⟨by rw [hml, done_zero, hml, ← hh]; simpa [toList_madeCells_one, Value.cells] using hown2, by rw [← hh]; exact (Below.refl _ _).grown hgrow2 (Nat.le_refl _) (by simp)⟩
              have hszm := hgrow2.size
              clear hown2 hgrow2
              have HFI := Lib.hid hfill
              have HML := Lib.hid hml
              clear hfill hml
              have HHB := Lib.hid hh
              rw [hh]
              clear hh
              go_loopg [20, 21] M (fun gk s20 _s21 wx => ∃ k : Nat, k ≤ M ∧ gk = M - k ∧ s20 = .int .i64 k ∧ Filled hb0 wo (mtexts T C) k wx)
              case atStart => exact ⟨0, Nat.zero_le _, rfl, rfl, HFI.out⟩
              case round =>
                obtain ⟨k, hk, rfl, rfl, hF⟩ := hrel
                clear HFI
                have HF := Lib.hid hF
                clear hF
                by_cases hlt : k < M
                · have hkz : (0 : Int) ≤ (k : Int) ∧ (k : Int) < (M : Int) := by omega
                  have hkC : k < C.length := by rw [HMC.out.2]; exact hlt
                  have hC := HMC.out.1
                  subst hC
                  obtain ⟨c1, c2, c3, c4⟩ := HCAT.out k hkC
                  rw [HMC.out.2] at c3 c4
                  have hkk : (k : Int) < (L.length : Int) := by omega
                  have hpk := HOK.out ((tcut n L).getD k (0, 0)) (by rw [List.getD, List.getElem?_eq_getElem hkC]; exact List.getElem_mem hkC)
                  have ht := mtexts_at T (tcut n L) k hkC
                  have hs1 := own_ints HST.out (by simp) k (by simpa using c1)
                  rw [fst_at _ _ c1, ← c2] at hs1
                  have he1 := own_ints HEN.out (by simp) k (by simpa using c1)
                  rw [snd_at _ _ c1] at he1
                  have he2 := own_ints HEN.out (by simp) (L.length - 1) (by simp; omega)
                  rw [snd_at _ _ (by omega)] at he2
                  have hcell : ∀ a v, wo.cell? a = some v → wr.cell? a = some v := fun a v h => (HF.out.bel.cell (by have := World.block_lt_of_cell? wo _ h; rw [← HHB.out]; exact this)).trans h
                  replace hs1 := hcell _ _ hs1
                  replace he1 := hcell _ _ he1
                  replace he2 := hcell _ _ he2
                  clear hcell
                  obtain ⟨pa, pe, hp⟩ : ∃ pa pe : Nat, (tcut n L).getD k (0, 0) = (pa, pe) := ⟨_, _, rfl⟩
                  rw [hp] at hs1 hpk ht c2 c3 c4
                  simp only [] at hs1 hpk ht c2 c3 c4
                  have HT := Lib.hid ht
                  have htx : ∀ w5, Below wr.heap.size wr w5 → Calls Tryz.prog 23 #[.slice (some ⟨gt, 0, none⟩) T.length ct, .int .i64 pa, .int .i64 pe] w5 fun e w' => e = .returned (.string (runesBytes (textOf ((T.take pe).drop pa)))) ∧ Below w5.heap.size w5 w' := fun w5 hb5 => by
                    have hbb := (HM.out.bel.trans (HF.out.bel.mono (by rw [← HHB.out]; exact hwz))).trans (hb5.mono (Nat.le_trans hwz (Nat.le_trans (by rw [HHB.out]; exact Nat.le_of_lt (HF.out.row.lt hb0 rfl).2) (Nat.le_refl _))))
                    exact text_any T gt ct pa pe w5 hTl hpk.2 hpk.1 (toksAt_below HTA.out hgt hbb) (Nat.lt_of_lt_of_le hgt hbb.size)
                  have HTX := Lib.hid htx
                  clear htx ht hp
                  by_cases hlast : k + 1 = M
                  · have hpe := c3 hlast
                    rw [← hpe] at he2
                    have hq : ((k : Int) == (M : Int) - 1) = true := by simp; omega
                    clear c2 c3 c4 hpe
                    go_wp2_with (go_at_call 23; refine (HTX.out _ (Below.refl _ _)).mono ?_; rintro e w7 ⟨rfl, hb7⟩; obtain ⟨hst1, hst2⟩ := HF.out.cell (by rw [HML.out]; exact hlt) hb7)
                    go_roundg (M - (k + 1))
                    case measure => omega
                    case rel => exact ⟨k + 1, by omega, rfl, by first | rfl | simp, HF.out.stepB (by rw [HML.out]; exact hlt) hb7 _ HT.out⟩
                  · have hpe := c4 (by omega)
                    rw [← hpe] at he1
                    have hq : ((k : Int) == (M : Int) - 1) = false := by simp; omega
                    clear c2 c3 c4 hpe he2
                    go_wp2_with (go_at_call 23; refine (HTX.out _ (Below.refl _ _)).mono ?_; rintro e w7 ⟨rfl, hb7⟩; obtain ⟨hst1, hst2⟩ := HF.out.cell (by rw [HML.out]; exact hlt) hb7)
                    go_roundg (M - (k + 1))
                    case measure => omega
                    case rel => exact ⟨k + 1, by omega, rfl, by first | rfl | simp, HF.out.stepB (by rw [HML.out]; exact hlt) hb7 _ HT.out⟩
                · obtain rfl : k = M := by omega
                  go_wp2
                  go_ret
                  have hC := HMC.out.2
                  have := filled_res (h := hb0) HBL.out (by rw [← HHB.out]; exact HBL.out.size) (by rw [hC]; exact HF.out) _ HRES.out.symm
                  rw [hC] at this
                  exact this
end Go.Proofs.YtjoceojknhipoaaGreatDoor
