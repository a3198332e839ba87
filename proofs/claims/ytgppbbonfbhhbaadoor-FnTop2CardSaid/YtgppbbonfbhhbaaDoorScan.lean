/-
  The walk: ReadFields.
-/
import Derived.Test.YtgppbbonfbhhbaaDoorReady
import Derived.Deep.LoopGhost
import Derived.Deep.CutRange
import Derived.Deep.CutBlock
import Derived.Deep.DeepCutAuto
import Derived.Deep.Light
namespace Go.Proofs.YtgppbbonfbhhbaaDoor
open Go.RowKit Rf

theorem Tryd.info_rune : (Tryd.prog.info? 21).map (fun i => (i.zero, i.size, i.bytes)) = some (some (.int .i32 0), 1, 4) := by kernel_rfl
theorem Tryd.info_pos : (Tryd.prog.info? 69).map (fun i => (i.zero, i.size, i.bytes)) = some (some (.agg #[.int .i64 0, .int .i64 0]), 2, 16) := by kernel_rfl
theorem Tryd.info_str : (Tryd.prog.info? 9).map (fun i => (i.zero, i.size, i.bytes)) = some (some (.string ByteArray.empty), 1, 16) := by kernel_rfl

/-- The first loop's relation. -/
def InScan (B K : Nat) (s ifs : ByteArray) (raw : Bool) (W : World) (gk : Nat) (fv rv vi ve : Value) (wr : World) : Prop :=
  ∃ pos out done opn esc fv0 rv0, rv0 ≠ .slice none 0 0 ∧ fv0 = fv ∧ rv0 = rv ∧ gk = s.size - pos ∧ vi = .bool (Option.isSome opn) ∧ ve = .bool esc ∧ Mem B K s pos W rv fv out done opn wr ∧
    (from_ s pos).foldl (Rf.step (among ifs) raw) ⟨out, done, opn, esc⟩ = scan (among ifs) raw (runes s) ∧ out.length + (from_ s pos).length ≤ s.size ∧ fcount done opn + (from_ s pos).length ≤ s.size

theorem mem_start {w1 W : World} {B : Nat} {s : ByteArray} {rv : Value} (hB : B = W.heap.size) (hg : W.grownBy w1 none) (hlt : W.heap.size ≤ w1.heap.size) (hr : w1.ownsRow B 21 1 rv 0 []) : Mem B w1.heap.size s 0 W rv (.slice none 0 0) [] [] none (w1.iter s 0) := by
  subst hB
  exact ⟨World.iter_heap _ _ _, hr.alloc _, World.ownsRow_nil _ _ _ _, ((Below.refl _ W).grown hg (Nat.le_refl _) (by simp)).alloc hlt _, hlt⟩

theorem own_cons {w : World} {base : Nat} {e : TypeId} {size : Nat} {v : Value} {n : Nat} {xs : List Value} (h : w.ownsRow base e size v n xs) (hn : 0 < n) : ∃ g c, v = .slice (some ⟨g, 0, none⟩) n c := by
  rcases h.2 with ⟨_, h0⟩ | ⟨g, cap, cur, hv, _⟩
  · omega
  · exact ⟨g, cap, hv⟩

theorem own_slice {w : World} {base : Nat} {e : TypeId} {size : Nat} {v : Value} {n : Nat} {xs : List Value} (h : w.ownsRow base e size v n xs) : ∃ ao c, v = .slice ao n c := by
  rcases h.2 with ⟨hv, h0⟩ | ⟨g, cap, cur, hv, _⟩
  · subst h0; exact ⟨none, 0, hv⟩
  · exact ⟨_, cap, hv⟩

theorem own_some {w : World} {base : Nat} {e : TypeId} {size : Nat} {v : Value} {n : Nat} {xs : List Value} (h : w.ownsRow base e size v n xs) (hn : v ≠ .slice none 0 0) : ∃ g c, v = .slice (some ⟨g, 0, none⟩) n c := by
  rcases h.2 with ⟨h0, _⟩ | ⟨g, cap, cur, hv, _⟩
  · exact absurd h0 hn
  · exact ⟨g, cap, hv⟩

theorem own_ptr {w : World} {base : Nat} {e : TypeId} {size : Nat} {ao : Option Addr} {c : Nat} {n : Nat} {xs : List Value} (h : w.ownsRow base e size (.slice ao n c) n xs) (hn : 0 < n) : ∃ g, ao = some ⟨g, 0, none⟩ := by
  rcases h.2 with ⟨_, h0⟩ | ⟨g, cap, cur, hv, _⟩
  · omega
  · cases hv; exact ⟨g, rfl⟩

theorem fields_nil {out : List Int} {done : List (Nat × Nat)} {opn : Option Nat} {esc : Bool} (h : St.fields ⟨out, done, opn, esc⟩ = []) : done = [] ∧ opn = none := by
  cases opn with
  | none => exact ⟨h, rfl⟩
  | some a => simp [St.fields, closeAt] at h

theorem fields_len (out : List Int) (done : List (Nat × Nat)) (opn : Option Nat) (esc : Bool) : (St.fields ⟨out, done, opn, esc⟩).length = fcount done opn := by
  cases opn <;> simp [St.fields, closeAt, fcount]

/-- Behind the first loop: every field is closed. -/
def Closed (B K : Nat) (s : ByteArray) (W : World) (rv : Value) (out : List Int) (fs : List (Nat × Nat)) (fv : Value) (wr : World) : Prop :=
  ∃ pos, Mem B K s pos W rv fv out fs none wr ∧ fs ≠ []

theorem fcells_last (done : List (Nat × Nat)) (a : Nat) : (fcells done (some a))[done.length * 2 + 1]? = some (.int .i64 (-1)) := by
  unfold fcells
  rw [List.getElem?_append_right (by rw [pairs_length]; omega), pairs_length, show done.length * 2 + 1 - 2 * done.length = 1 by omega]
  simp

theorem Mem.endCell {B K : Nat} {s : ByteArray} {pos : Nat} {W wr : World} {rv : Value} {out : List Int} {done : List (Nat × Nat)} {a g n c : Nat} (h : Mem B K s pos W rv (.slice (some ⟨g, 0, none⟩) n c) out done (some a) wr) (hn : n = fcount done (some a)) :
    wr.cell? ⟨g, done.length * 2 + 1, none⟩ = some (.int .i64 (-1)) ∧ wr.frozen? ⟨g, done.length * 2 + 1, none⟩ = false := by
  subst hn
  refine ⟨?_, h.flds.frozenAt _⟩
  rw [h.flds.cellAt _ (by simp [fcount]; omega), fcells_last]

theorem two_new (w : World) (x y : Value) (e : TypeId) (j : Nat) (u : Value) (h : [x, y][j]? = some u) : (w.alloc (.cells #[x, y] e)).cell? ((⟨w.heap.size, 0, none⟩ : Addr).add j) = some u := by
  match j, h with
  | 0, h => simp at h; subst h; rw [show (⟨w.heap.size, 0, none⟩ : Addr).add 0 = ⟨w.heap.size, 0, none⟩ from rfl]; exact cell_of_row _ _ 0 #[x, y] e _ (heap_alloc_new w _)
  | 1, h => simp at h; subst h; rw [show (⟨w.heap.size, 0, none⟩ : Addr).add 1 = ⟨w.heap.size, 1, none⟩ from rfl]; exact cell_of_row _ _ 1 #[x, y] e _ (heap_alloc_new w _)
  | j + 2, h => simp at h

theorem push_one (w : World) (x : Value) (e : TypeId) (j : Nat) (u : Value) (h : [x][j]? = some u) : (w.alloc (.cells #[x] e)).cell? ((⟨w.heap.size, 0, none⟩ : Addr).add j) = some u := cell_one_new w x e j u h

/-- Behind the fields' part of a round: the backslash's part is left. -/
def Half (B K : Nat) (s ifs : ByteArray) (raw : Bool) (W : World) (p2 : Nat) (rv : Value) (out : List Int) (done : List (Nat × Nat)) (opn : Option Nat) (esc : Bool) (r : Int) (fv vi : Value) (wr : World) : Prop :=
  ∃ done' opn', vi = .bool (Option.isSome opn') ∧ Mem B K s p2 W rv fv out done' opn' wr ∧ fcount done' opn' ≤ fcount done opn + 1 ∧
    Rf.step (among ifs) raw ⟨out, done, opn, esc⟩ r = if (r == 92) = true then ⟨if raw || esc then out ++ [r] else out, done', opn', !esc⟩ else ⟨out ++ [r], done', opn', false⟩

theorem give_none {sep ws : Int → Bool} {n : Int} {raw : Bool} {rs : List Int} {st : St} (h : scan sep raw rs = st) (hf : st.fields = []) : give sep ws n raw rs = none := by
  simp [give, h, hf]
theorem give_some {sep ws : Int → Bool} {n : Int} {raw : Bool} {rs : List Int} {st : St} {fs : List (Nat × Nat)} (h : scan sep raw rs = st) (hf : st.fields = fs) (hne : fs ≠ []) : give sep ws n raw rs = some ((cut ws n st.out fs).map (Rf.part st.out)) := by
  simp [give, h, hf, hne]

set_option maxRecDepth 100000 in
set_option maxHeartbeats 4000000 in
theorem readFields_many (ifs s : ByteArray) (n : Int) (raw : Bool) (b : Nat) (env : Value) (w : World) (hpr : Calls Tryd.prog 10 #[.pointer (some ⟨b, 0, none⟩)] w (PrepOut b env ifs w)) (hsz : s.size ≤ 1048576) (hn : n = -1 ∨ 2 ≤ n) :
    Calls Tryd.prog 8 #[.pointer (some ⟨b, 0, none⟩), .string s, .int .i64 n, .bool raw] w (RfOut b (give (among ifs) (fun r => isWS r && among ifs r) n raw (runes s)) w) := by
  obtain ⟨i0, hi, hz0, hz1, hz2⟩ := info_parts Tryd.info_rune
  obtain ⟨i1, hi1, hy0, hy1, hy2⟩ := info_parts Tryd.info_pos
  obtain ⟨i2, hi2, hx0, hx1, hx2⟩ := info_parts Tryd.info_str
  have hn1 : (n == 1) = false := by simp; omega
  have HPR := Lib.hid hpr
  clear hpr
  go_enter Tryd.func8, Tryd.ntmps8
  go_wp2_with (first
    | (go_at_call 10; refine (HPR.out).mono ?_; rintro e W ⟨rfl, hcfg, hgr⟩)
    | (at_make; refine wpList_make_own _ rfl _ _ 67 rfl W.heap.size 21 i0 (.int .i32 0) 1 Tryd.underlying67 hi hz0 hz1 _ _ _ s.size rfl rfl (by omega) (by rw [hz2]; omega) (by unfold maxLen; omega) (Nat.le_refl _) ?_; intro w1 hown1 hgrow1))
  have hW : W.heap.size ≤ w1.heap.size := hgrow1.size
  have hc25 := hcfg.c25
  have hm0 := mem_start (s := s) rfl hgrow1 hW hown1
  clear hown1 hgrow1
  obtain ⟨K, hK⟩ : ∃ K, w1.heap.size = K := ⟨_, rfl⟩
  rw [hK] at hm0 ⊢
  clear hW hK
  have HM := Lib.hid hm0
  clear hm0
  go_loopg [9, 10, 11, 12] s.size (fun gk s9 s10 s11 s12 wr => InScan W.heap.size K s ifs raw W gk s9 s10 s11 s12 wr)
  case atStart => exact ⟨0, [], [], none, false, _, _, (by simp), rfl, rfl, rfl, rfl, rfl, HM.out, rfl, by simpa [from_zero] using runes_length s, by simpa [fcount, from_zero] using runes_length s⟩
  case round =>
    obtain ⟨pos, out, done, opn, esc, fv, rv, hnn, rfl, rfl, rfl, rfl, rfl, hm, hfold, hol, hfc⟩ := hrel
    have HF := Lib.hid hfold
    clear hfold
    have HM0 := Lib.hid hm
    have HN := Lib.hid hnn
    clear hnn
    have hit := hm.iter
    clear hm HM
    by_cases hp : pos < s.size
    · have hnx : ∀ ty, (Instr.next (.pointer (some ⟨K, 0, none⟩)) true ty).run Tryd.prog wr = _ := fun ty => Lib.run_next_any_at wr K s pos ty hit hp
      have hwd := width_pos s pos hp
      have hfs := from_step s pos hp
      have hfs0 := hfs
      obtain ⟨r, hr⟩ : ∃ r : Int, ((Utf8.decode s pos).1 : Int) = r := ⟨_, rfl⟩
      obtain ⟨p2, hp2⟩ : ∃ p2 : Nat, pos + (Utf8.decode s pos).2 = p2 := ⟨_, rfl⟩
      have hp2' : pos + 1 ≤ p2 := by omega
      rw [hr, hp2] at hfs hfs0
      simp only [hr, hp2] at hnx
      have hF2 := HF.out
      rw [hfs, List.foldl_cons] at hF2
      have HF2 := Lib.hid hF2
      have HM1 := Lib.hid (HM0.out.next p2)
      have hc1 := (HM1.out.bel.cell (World.block_lt_of_cell? W _ hc25)).trans hc25
      clear hF2 hfs hr hp2 hwd HF
      rw [hfs0] at hol hfc
      simp only [List.length_cons] at hol hfc
      have hz0l : (from_ s p2).length ≤ s.size := by omega
      have HHF := Lib.hid (And.intro hol hfc)
      clear hol hfc hfs0
      go_upto_if 30 with fail
      go_cut [9, 11] from 27 to 81 (fun s9 s11 wx => Half W.heap.size K s ifs raw W p2 rv out done opn esc r s9 s11 wx)
      case first =>
        obtain ⟨ra, rc, hrv⟩ := own_slice HM1.out.rows
        subst hrv
        cases opn with
        | some a =>
          obtain ⟨fg, fc, hfv⟩ := own_cons HM1.out.flds (by simp [fcount])
          subst hfv
          have hN : fcount done (some a) = done.length + 1 := by simp [fcount]
          rw [hN]
          rw [hN] at HM1
          have hdl : done.length ≤ 1048576 := by have := HHF.out.2; rw [hN] at this; omega
          have hdz : (0 : Int) ≤ (done.length : Int) ∧ (done.length : Int) ≤ 1048576 := by omega
          clear hdl
          cases hsep : among ifs r
          case' true => cases raw
          case' true.false => cases esc
          all_goals
            go_wp2_with (first
              | (go_at_call 11; refine (ifsRune_any b ifs r _ hc1).mono ?_; rintro e w2 ⟨rfl, hb2⟩; rw [hsep]; have hm2 := HM1.out.call hb2; obtain ⟨hcl, hfr⟩ := hm2.endCell hN.symm; have HM2 := Lib.hid hm2; clear hm2))
            go_meet
            first
              | exact ⟨_, _, rfl, HM2.out.close out.length hN.symm, by simp [fcount], by simp [Rf.step, hsep]⟩
              | exact ⟨_, _, rfl, HM2.out, by simp [fcount], by simp [Rf.step, hsep]⟩
        | none =>
          obtain ⟨fa, fc, hfv⟩ := own_slice HM1.out.flds
          subst hfv
          have hdl : fcount done none ≤ 1048576 := by have := HHF.out.2; omega
          cases hsep : among ifs r
          case' false => cases raw
          case' false.false => cases esc
          all_goals
            go_wp2_with (first
              | (go_at_call 11; refine (ifsRune_any b ifs r _ hc1).mono ?_; rintro e w2 ⟨rfl, hb2⟩; rw [hsep]; have HM2 := Lib.hid (HM1.out.call hb2); have hz2 := hb2.size; have hz1 := HM1.out.size)
              | (at_builtin; refine wpList_append_own _ rfl _ _ 66 rfl W.heap.size 69 i1 (.agg #[.int .i64 0, .int .i64 0]) 2 16 Tryd.underlying66 hi1 hy0 hy1 hy2 rfl (by decide) _ _ _ rfl (HM2.out.flds.alloc _) ⟨w2.heap.size, 0, none⟩ 1 1 [.int .i64 out.length, .int .i64 (-1)] rfl rfl (two_new _ _ _ _) (by intro u hu; simp at hu; rcases hu with rfl | rfl <;> rfl) (by unfold maxLen; omega) (by omega) (by simp; omega) ?_; intro v1 w3 hown3 hgrow3 _))
            go_meet
            first
              | exact ⟨_, _, rfl, HM2.out.pushField _ _ hown3 hgrow3, by simp [fcount], by simp [Rf.step, hsep]⟩
              | exact ⟨_, _, rfl, HM2.out, by simp [fcount], by simp [Rf.step, hsep]⟩
      case rest =>
        obtain ⟨done', opn', rfl, hm3, hfc3, hstep⟩ := hcut
        have hol1 : out.length ≤ 1048576 := by have := HHF.out.1; omega
        have HM3 := Lib.hid hm3
        have hz3 := hm3.size
        have HS := Lib.hid hstep
        clear hm3 hstep HM1 HM0
        have W92 : (r == 92) = true ∨ (r == 92) = false := by cases (r == 92) <;> simp
        rcases W92 with hr92 | hr92
        case' inl => cases raw
        case' inl.false => cases esc
        all_goals
          go_wp2_with (first
              | (at_builtin; refine wpList_append_own _ rfl _ _ 67 rfl W.heap.size 21 i0 (.int .i32 0) 1 4 Tryd.underlying67 hi hz0 hz1 hz2 rfl (by decide) _ _ _ rfl (HM3.out.rows.alloc _) ⟨wc.heap.size, 0, none⟩ 1 1 [.int .i32 r] rfl rfl (cell_one_new _ _ _) (by intro u hu; simp at hu; subst hu; rfl) (by unfold maxLen; omega) (by omega) (by simp; omega) ?_; intro v1 w3 hown3 hgrow3 hnil3))
          go_roundg (s.size - p2)
          case measure => omega
          case rel =>
            have h1 := HF2.out
            have h2 := HHF.out
            rw [HS.out, hr92] at h1
            simp only [if_true, Bool.false_eq_true, if_false, Bool.or_true, Bool.true_or, Bool.or_self, Bool.not_true, Bool.not_false] at h1
            first
              | exact ⟨p2, _, done', opn', _, _, _, (fun e => by have := hnil3.1 e; omega), rfl, rfl, rfl, rfl, rfl, HM3.out.pushRune _ _ hown3 hgrow3, h1, by simp; omega, by omega⟩
              | exact ⟨p2, _, done', opn', _, _, _, HN.out, rfl, rfl, rfl, rfl, rfl, HM3.out, h1, by omega, by omega⟩
    · have hnx : ∀ ty, (Instr.next (.pointer (some ⟨K, 0, none⟩)) true ty).run Tryd.prog wr = _ := fun ty => Lib.run_next_end_at wr K s pos ty hit hp
      have hst := HF.out
      rw [from_end s pos hp, List.foldl_nil] at hst
      obtain ⟨ga, rc, hrv⟩ := own_some HM0.out.rows HN.out
      subst hrv
      rw [from_end s pos hp] at hol hfc
      simp only [List.length_nil, Nat.add_zero] at hol hfc
      have HHF := Lib.hid (And.intro hol hfc)
      clear HF hol hfc
      obtain ⟨fa, fc, hfv⟩ := own_slice HM0.out.flds
      subst hfv
      by_cases hF : St.fields ⟨out, done, opn, esc⟩ = []
      · obtain ⟨rfl, rfl⟩ := fields_nil hF
        have HST := Lib.hid hst
        clear hst
        go_wp2
        go_ret
        exact ⟨⟨W, hgr, HM0.out.bel⟩, by rw [give_none HST.out.symm rfl]; rfl⟩
      · have hfl := fields_len out done opn esc
        have hf0 : ((fcount done opn : Int) == 0) = false := by
          have : (St.fields ⟨out, done, opn, esc⟩).length ≠ 0 := fun e => hF (List.length_eq_zero_iff.1 e)
          simp; omega
        have hfb : (0 : Int) ≤ (fcount done opn : Int) ∧ (fcount done opn : Int) ≤ 1048576 := by have := HHF.out.2; omega
        have HFL := Lib.hid hfl
        clear hfl
        go_upto_if 85 with fail
        go_cut [9] from 20 (fun s9 wx => Closed W.heap.size K s W (.slice (some ⟨ga, 0, none⟩) out.length rc) out (St.fields ⟨out, done, opn, esc⟩) s9 wx)
        case first =>
          cases opn with
          | none =>
            go_wp2
            go_meet
            exact ⟨_, HM0.out, hF⟩
          | some a =>
            have hN : fcount done (some a) = done.length + 1 := by simp [fcount]
            obtain ⟨fg, hfa⟩ := own_ptr HM0.out.flds (by omega)
            subst hfa
            rw [hN]
            have hdz : (0 : Int) ≤ (done.length : Int) ∧ (done.length : Int) ≤ 1048576 := by omega
            obtain ⟨hcl, hfr⟩ := HM0.out.endCell rfl
            go_wp2
            go_meet
            exact ⟨_, (HM0.out.close out.length rfl), hF⟩
        case rest =>
          obtain ⟨pos4, hm4, hne4⟩ := hcut
          generalize hfs : St.fields ⟨out, done, opn, esc⟩ = fs at *
          have HST := Lib.hid (give_some (ws := fun r => isWS r && among ifs r) (n := n) hst.symm hfs hne4)
          have hfok := Lib.hid (fields_ok hst.symm hfs)
          have hasc := Lib.hid (fields_asc hst.symm hfs)
          clear hst hfs HM0 hf0 hfb hF
          obtain ⟨L, hL⟩ : ∃ L, fs.length = L + 1 := ⟨fs.length - 1, by have := List.length_pos_iff.2 hne4; omega⟩
          obtain ⟨fg, fc4, hfv⟩ := own_cons hm4.flds (by simp [fcount, hL])
          have hN4 : fcount fs none = L + 1 := by simp [fcount, hL]
          subst hfv
          rw [hN4] at hm4 ⊢
          have hLb : (0 : Int) ≤ (L : Int) ∧ (L : Int) ≤ 1048576 := by have := HFL.out; have := HHF.out.2; omega
          have HM4 := Lib.hid hm4
          have he4 := endCell_any hm4 hL.symm L (by omega)
          have hcap4 : (L : Int) + 1 ≤ (fc4 : Int) := by have := own_cap hm4.flds; rw [hN4] at this; omega
          have hrc : (out.length : Int) ≤ (rc : Int) := by have := own_cap hm4.rows; omega
          clear hm4 hne4
          obtain ⟨e9, he9⟩ : ∃ e9 : Nat, (fs.getD L (0, 0)).2 = e9 := ⟨_, rfl⟩
          rw [he9] at he4
          have H9 := Lib.hid he9
          clear he9
          go_upto_block 2 with fail
          go_cut [9] from 20 (fun s9 wx => ∃ fs' c, s9 = .slice (some ⟨fg, 0, none⟩) fs'.length c ∧ Ready W.heap.size W ga out fs' fg wx ∧ fs' = cut (fun r => isWS r && among ifs r) n out fs ∧ (∀ f ∈ fs', f.1 ≤ f.2 ∧ f.2 ≤ out.length) ∧ fs'.length ≤ 1048577)
          case first =>
            by_cases hcase : n ≠ -1 ∧ n < (L : Int) + 1
            · obtain ⟨q, hq⟩ : ∃ q : Nat, n = (q : Int) + 1 := ⟨(n - 1).toNat, by omega⟩
              subst hq
              have c1 : ((q : Int) + 1 != -1) = true := by simp; omega
              have c2 : decide ((q : Int) + 1 < (L : Int) + 1) = true := by simp; omega
              have hqb : (0 : Int) ≤ (q : Int) ∧ (q : Int) ≤ 1048576 := by omega
              have heq := endCell_any HM4.out hL.symm q (by omega)
              obtain ⟨e1, e2⟩ := he4
              obtain ⟨e3, e4⟩ := heq
              go_wp2
              go_meet
              refine ⟨merged fs q e9, fc4, ?_, ready_cut HM4.out hL.symm q _ (by omega), ?_, ?_, ?_⟩
              · rw [merged_length fs q _ (by omega)]
              · rw [← H9.out]; exact (cut_merged hL (by omega) (by omega)).symm
              · rw [← H9.out]; exact merged_ok hasc.out hL (by omega)
              · rw [merged_length fs q _ (by omega)]; omega
            · have hc : cut (fun r => isWS r && among ifs r) n out fs = fs := cut_none (by omega) (by rw [hL]; push_cast; omega)
              by_cases h1 : n = -1
              · subst h1
                go_wp2
                go_meet
                exact ⟨fs, fc4, by rw [hL], ready_all HM4.out hL.symm, hc.symm, hfok.out, by rw [hL]; omega⟩
              · have c1 : (n != -1) = true := by simp; omega
                have c2 : decide (n < (L : Int) + 1) = false := by simp; omega
                go_wp2
                go_meet
                exact ⟨fs, fc4, by rw [hL], ready_all HM4.out hL.symm, hc.symm, hfok.out, by rw [hL]; omega⟩
          case rest =>
            obtain ⟨fs', fc5, rfl, hR, hcut', hok, hlen⟩ := hcut
            have hm0 : (0 : Int) ≤ (fs'.length : Int) ∧ (fs'.length : Int) ≤ 1048577 := by omega
            have HR := Lib.hid hR
            have HOK := Lib.hid hok
            have HC := Lib.hid hcut'
            clear hR hok hcut' he4 HM4 hc25 hit hnx hp HN hfok hasc HFL HHF hL hN4
            have htl : (texts out fs').length = fs'.length := by simp [texts]
            go_wp2_with (first
              | (at_make; refine wpList_make_full _ rfl _ _ 27 rfl wc.heap.size 9 i2 (.string ByteArray.empty) 1 Tryd.underlying27 hi2 hx0 hx1 _ _ _ _ fs'.length rfl rfl rfl rfl (by rw [hx2]; omega) (by unfold maxLen; omega) (Nat.le_refl _) ?_; intro wm hown2 hgrow2))
            have hbm := HR.out.bel.grown hgrow2 HR.out.hB (by simp)
            have hszm := hgrow2.size
            obtain ⟨hb0, hh⟩ : ∃ hb0, wc.heap.size = hb0 := ⟨_, rfl⟩
            have hfill : Filled hb0 wc (texts out fs') 0 wm := ⟨by rw [htl, done_zero, htl, ← hh]; simpa [toList_madeCells_one, Value.cells] using hown2, by rw [← hh]; exact (Below.refl _ _).grown hgrow2 (Nat.le_refl _) (by simp)⟩
            clear hown2 hgrow2 hbm
            have HFI := Lib.hid hfill
            clear hfill
            rw [hh]
            go_loopg [174] fs'.length (fun gk s174 wx => ∃ k, k ≤ fs'.length ∧ gk = fs'.length - k ∧ s174 = .int .i64 k ∧ Filled hb0 wc (texts out fs') k wx)
            case atStart => exact ⟨0, Nat.zero_le _, rfl, rfl, HFI.out⟩
            case round =>
              obtain ⟨k, hk, rfl, rfl, hF⟩ := hrel
              clear HFI
              have HF := Lib.hid hF
              clear hF
              by_cases hlt : k < fs'.length
              · have hkz : (k : Int) < (fs'.length : Int) := by omega
                obtain ⟨pa, pe, hp⟩ : ∃ pa pe : Nat, fs'.getD k (0, 0) = (pa, pe) := ⟨_, _, rfl⟩
                obtain ⟨hcl1, hcl2⟩ := HR.out.flds k hlt
                rw [hp] at hcl1 hcl2
                simp only [] at hcl1 hcl2
                have hca := (HF.out.bel.cell (by have := World.block_lt_of_cell? wc _ hcl1; rw [← hh]; exact this)).trans hcl1
                have hcb := (HF.out.bel.cell (by have := World.block_lt_of_cell? wc _ hcl2; rw [← hh]; exact this)).trans hcl2
                have hpk := HOK.out (pa, pe) (by rw [← hp, List.getD, List.getElem?_eq_getElem hlt]; exact List.getElem_mem hlt)
                simp only [] at hpk
                have hpa : (0 : Int) ≤ (pa : Int) ∧ (pa : Int) ≤ (pe : Int) ∧ (pe : Int) ≤ (out.length : Int) ∧ (pe : Int) ≤ (rc : Int) := by omega
                clear hcl1 hcl2 hpk
                have hst1 := (HF.out.row.alloc (.cells #[.int .i64 pa, .int .i64 pe] 69)).cellAt k (by omega)
                have hst2 := (HF.out.row.alloc (.cells #[.int .i64 pa, .int .i64 pe] 69)).frozenAt k
                rw [done_at _ _ (by omega)] at hst1
                by_cases hrp : rc = pa
                · subst hrp
                  obtain rfl : pe = rc := by omega
                  have hconv : ∀ a, (convert 67 9 (.slice (some a) 0 0)).run Tryd.prog (wr.alloc (.cells #[.int .i64 pe, .int .i64 pe] 69)) = _ := fun a => conv_none out pe 0 a _
                  go_wp2
                  go_roundg (fs'.length - (k + 1))
                  case measure => omega
                  case rel => exact ⟨k + 1, by omega, rfl, rfl, HF.out.step (by omega) _ _ (texts_at out fs' k _ hlt hp)⟩
                · have hrp' : ¬ (rc : Int) = (pa : Int) := by omega
                  have hconv := conv_part HR.out (by rw [hh]; exact HF.out.bel) pa pe rc (by omega) (.cells #[.int .i64 pa, .int .i64 pe] 69)
                  go_wp2
                  go_roundg (fs'.length - (k + 1))
                  case measure => omega
                  case rel => exact ⟨k + 1, by omega, rfl, rfl, HF.out.step (by omega) _ _ (texts_at out fs' k _ hlt hp)⟩
              · obtain rfl : k = fs'.length := by omega
                go_wp2
                go_ret
                exact rfOut_some hgr HR.out.bel (by rw [← hh]; exact HR.out.hB) (by rw [htl]; exact HF.out) (by rw [HST.out, HC.out])
end Go.Proofs.YtgppbbonfbhhbaaDoor
