/-
  The walk of the law, whole.
-/
import Derived.Test.YtgppbbonfbhhbaaDoorGot
import Derived.Test.YtgppbbonfbhhbaaDoorShelf
import Derived.Deep.LoopGhost
import Derived.Deep.CutRange
import Derived.Deep.CutBlock
import Derived.Deep.DeepCutAuto
import Derived.Outline
namespace Go.Proofs.YtgppbbonfbhhbaaDoor
open Go.RowKit Rf

def Tabs (w : World) : Prop := Lib.Utf8Tabs (Tryd.laysValid_ren.g 3) (Tryd.laysValid_ren.g 4) w

theorem Tryd.info_unit : (Tryd.prog.info? 33).map (fun i => (i.zero, i.size, i.bytes)) = some (some (.agg #[.string ByteArray.empty, .bool false, .bool false]), 3, 24) := by kernel_rfl

theorem Tryd.info_int : (Tryd.prog.info? 3).map (fun i => (i.zero, i.size, i.bytes)) = some (some (.int .i64 0), 1, 8) := by kernel_rfl

def Good (w : World) (e : Ending) (w' : World) : Prop := e = .returned (.bool true) ∧ Below w.heap.size w w'

set_option maxRecDepth 100000 in
set_option maxHeartbeats 8000000 in
theorem law_main (line : ByteArray) (how n : Int) (raw : Bool) (w : World) (hs : line.size ≤ 1048576) (h0 : 0 ≤ how) (h1 : how ≤ 255) (hn : n = -1 ∨ 1 ≤ n) (hn2 : n ≤ 127) (hT : Tabs w) :
    Calls Tryd.prog 3 #[.string line, .int .u8 how, .int .i8 n, .bool raw] w (Good w) := by
  obtain ⟨iu, hiu, hu0, hu1, hu2⟩ := info_parts Tryd.info_unit
  have hval := Tryd.utf8_ValidString line w (by omega) hT
  generalize Lib.validD line.data.toList = V at hval
  have HV := Lib.hid hval
  clear hval hT
  have c1 : (n == 0) = false := by simp; omega
  have c2 : ¬ n < -1 := by omega
  go_enter Tryd.func3, Tryd.ntmps3
  go_upto_region 11 with (first
    | (go_at_call 4; refine (HV.out).mono ?_; rintro e w1 ⟨rfl, hb1⟩; have HB1 := Lib.hid hb1; clear hb1; cases V)
    | (go_at_call 5; refine (sep_any how w1.heap.size _ h0 h1 (by simp [go_sem]) (by simp [go_sem]) (by simp [go_sem]) (by simp [go_sem])).mono ?_; rintro e w2 ⟨rfl, hz, hb2⟩; have HZ := Lib.hid hz; have HB2 := Lib.hid hb2; clear hz hb2))
  · go_ret
    exact ⟨rfl, HB1.out⟩
  obtain ⟨G, hG⟩ : ∃ G, w1.heap.size = G := ⟨_, rfl⟩
  have hGw : w.heap.size ≤ G := by rw [← hG]; exact HB1.out.size
  have hG2 : G < w2.heap.size := by have := World.block_lt_of_cell? _ _ HZ.out.c5; rw [← hG]; exact this
  have hbw := ((HB1.out.alloc HB1.out.size _).trans (HB2.out.mono HB1.out.size))
  rw [hG] at HZ ⊢
  have HBW := Lib.hid hbw
  clear hbw HB1 HB2 hG
  obtain ⟨sp, hsp⟩ : ∃ sp, sepAt (how % 7) = sp := ⟨_, rfl⟩
  obtain ⟨ifs, hifs⟩ : ∃ ifs, ifsAt (how % 7) = ifs := ⟨_, rfl⟩
  have HIF := Lib.hid (And.intro hifs hsp)
  rw [hifs, hsp] at HZ
  clear hifs hsp
  go_upto_block 0 with fail
  go_cut [10, 11, 13, 14] from 46 (fun s10 s11 _ _ wx => ∃ (ts : List Tok) (esc : Bool), s11 = .bool esc ∧ wx.ownsRow w2.heap.size 33 3 s10 ts.length (unitCells (among ifs) ts) ∧ Below w2.heap.size w2 wx ∧ Hid (ts ++ tokE raw esc [] = toks raw (runes line)) ∧ ts.length ≤ line.size)
  case first =>
    as_aux_lemma =>
      go_wp2_with fail
      go_loopg [10, 11, 13, 14] line.size (fun gk s10 s11 _ _ wr => ∃ (pos : Nat) (ts : List Tok) (esc : Bool), gk = line.size - pos ∧ s11 = .bool esc ∧ UMem w2.heap.size w2.heap.size line (among ifs) raw w2 pos ts esc s10 wr)
      case atStart => exact ⟨0, [], false, rfl, rfl, umem_start⟩
      case round =>
        rename_i v10 v11 v13 v14
        obtain ⟨pos, ts, esc, rfl, rfl, hm⟩ := hrel
        have HM := Lib.hid hm
        have hit := hm.iter
        have hlen := hm.len
        clear hm
        by_cases hp : pos < line.size
        · have hnx : ∀ ty, (Instr.next (.pointer (some ⟨w2.heap.size, 0, none⟩)) true ty).run Tryd.prog wr = _ := fun ty => Lib.run_next_any_at wr w2.heap.size line pos ty hit hp
          have hwd := width_pos line pos hp
          obtain ⟨p2, hp2⟩ : ∃ p2, pos + (Utf8.decode line pos).2 = p2 := ⟨_, rfl⟩
          rw [hp2] at hnx
          have hp2z : pos < p2 := by omega
          have HP2 := Lib.hid hp2
          obtain ⟨r, hr⟩ : ∃ r : Int, ((Utf8.decode line pos).1 : Int) = r := ⟨_, rfl⟩
          rw [hr] at hnx
          have HR := Lib.hid hr
          clear hr hp2 hwd hit
          cases hr92 : (r == 92)
          · cases esc
            · have HQ := Lib.hid hr92
              have hzx := HZ.out.below hG2 ((Lib.below_iterAt HM.out.bel HM.out.hK line p2).alloc (Lib.below_iterAt HM.out.bel HM.out.hK line p2).size (.cells #[.string (Utf8.encode r), .bool false, .bool false] 33))
              have hcut := cuts_any ifs sp r G _ hzx
              have hszz := (Lib.below_iterAt HM.out.bel HM.out.hK line p2).size
              obtain ⟨b, hb⟩ : ∃ b, among ifs r = b := ⟨_, rfl⟩
              rw [hb] at hcut
              have HB := Lib.hid hb
              have HCUT := Lib.hid hcut
              clear hb hcut hzx
              go_upto_region 18 with (go_at_call 6; refine (HCUT.out).mono ?_; rintro e w5 ⟨rfl, hb5⟩; obtain ⟨d0, d1, d2, f1, f2, hx5⟩ := unit_cells hb5; clear hb5)
              cases b
              · have hbx := below_put (below_put hx5 (Nat.le_refl _) 1 (.bool false)) (Nat.le_refl _) 2 (.bool false)
                have hownx := own_call (own_iterAt HM.out.own HM.out.iter p2) hbx
                have HBX := Lib.hid hbx
                have hszy := hbx.size
                have HU := Lib.hid (unit_of (sep := among ifs) (r := r) (b := false) (c := false) HB.out rfl)
                clear hbx hx5
                go_wp2_with (at_builtin; refine wpList_append_own _ rfl _ _ 31 rfl w2.heap.size 33 iu (.agg #[.string ByteArray.empty, .bool false, .bool false]) 3 24 Tryd.underlying31 hiu hu0 hu1 hu2 rfl (by decide) _ _ _ rfl (hownx.alloc _) ⟨_, 0, none⟩ 1 1 [.string (Utf8.encode r), .bool false, .bool false] rfl rfl (by intro j u hu; exact three_at _ _ (by simp) _ _ _ _ j u hu) (by intro u hu; simp at hu; rcases hu with rfl | rfl | rfl <;> rfl) (by unfold maxLen; omega) (by omega) (by simp at hszy hszz ⊢; omega) ?_; intro v3 w3 hown3 hgrow3 _)
                go_roundg (line.size - p2)
                case measure => omega
                case rel => exact ⟨p2, ts ++ [⟨r, false, false⟩], false, rfl, rfl, HM.out.push hp HP2.out HR.out (Or.inr (Or.inl HQ.out)) HBX.out _ (by rw [HU.out]; exact hown3) hgrow3⟩
              · cases hws : isWS r
                · have g1 : (r == 32) = false := by unfold isWS at hws; revert hws; cases (r == 32) <;> simp
                  have g2 : (r == 9) = false := by unfold isWS at hws; revert hws; cases (r == 9) <;> simp
                  have g3 : (r == 10) = false := by unfold isWS at hws; revert hws; cases (r == 10) <;> simp
                  have HWS := Lib.hid hws
                  clear hws
                  have hbx := below_put (below_put hx5 (Nat.le_refl _) 1 (.bool true)) (Nat.le_refl _) 2 (.bool false)
                  have hownx := own_call (own_iterAt HM.out.own HM.out.iter p2) hbx
                  have HBX := Lib.hid hbx
                  have hszy := hbx.size
                  have HU := Lib.hid (unit_of (sep := among ifs) (r := r) (b := true) (c := false) HB.out (by rw [HWS.out]; rfl))
                  clear hbx hx5
                  go_wp2_with (at_builtin; refine wpList_append_own _ rfl _ _ 31 rfl w2.heap.size 33 iu (.agg #[.string ByteArray.empty, .bool false, .bool false]) 3 24 Tryd.underlying31 hiu hu0 hu1 hu2 rfl (by decide) _ _ _ rfl (hownx.alloc _) ⟨_, 0, none⟩ 1 1 [.string (Utf8.encode r), .bool true, .bool false] rfl rfl (by intro j u hu; exact three_at _ _ (by simp) _ _ _ _ j u hu) (by intro u hu; simp at hu; rcases hu with rfl | rfl | rfl <;> rfl) (by unfold maxLen; omega) (by omega) (by simp at hszy hszz ⊢; omega) ?_; intro v3 w3 hown3 hgrow3 _)
                  go_roundg (line.size - p2)
                  case measure => omega
                  case rel => exact ⟨p2, ts ++ [⟨r, false, false⟩], false, rfl, rfl, HM.out.push hp HP2.out HR.out (Or.inr (Or.inl HQ.out)) HBX.out _ (by rw [HU.out]; exact hown3) hgrow3⟩
                · have hd : (r == 32) = true ∨ ((r == 32) = false ∧ (r == 9) = true) ∨ ((r == 32) = false ∧ (r == 9) = false ∧ (r == 10) = true) := by
                    unfold isWS at hws
                    revert hws
                    cases (r == 32) <;> cases (r == 9) <;> cases (r == 10) <;> simp
                  have HWS := Lib.hid hws
                  clear hws
                  rcases hd with g1 | ⟨g1, g2⟩ | ⟨g1, g2, g3⟩
                  all_goals
                    have hbx := below_put (below_put hx5 (Nat.le_refl _) 1 (.bool true)) (Nat.le_refl _) 2 (.bool true)
                    have hownx := own_call (own_iterAt HM.out.own HM.out.iter p2) hbx
                    have HBX := Lib.hid hbx
                    have hszy := hbx.size
                    have HU := Lib.hid (unit_of (sep := among ifs) (r := r) (b := true) (c := true) HB.out (by rw [HWS.out]; rfl))
                    clear hbx hx5
                    go_wp2_with (at_builtin; refine wpList_append_own _ rfl _ _ 31 rfl w2.heap.size 33 iu (.agg #[.string ByteArray.empty, .bool false, .bool false]) 3 24 Tryd.underlying31 hiu hu0 hu1 hu2 rfl (by decide) _ _ _ rfl (hownx.alloc _) ⟨_, 0, none⟩ 1 1 [.string (Utf8.encode r), .bool true, .bool true] rfl rfl (by intro j u hu; exact three_at _ _ (by simp) _ _ _ _ j u hu) (by intro u hu; simp at hu; rcases hu with rfl | rfl | rfl <;> rfl) (by unfold maxLen; omega) (by omega) (by simp at hszy hszz ⊢; omega) ?_; intro v3 w3 hown3 hgrow3 _)
                    go_roundg (line.size - p2)
                    case measure => omega
                    case rel => exact ⟨p2, ts ++ [⟨r, false, false⟩], false, rfl, rfl, HM.out.push hp HP2.out HR.out (Or.inr (Or.inl HQ.out)) HBX.out _ (by rw [HU.out]; exact hown3) hgrow3⟩
            · have hbx := (Below.refl (wr.iterAt w2.heap.size line p2).heap.size (wr.iterAt w2.heap.size line p2)).alloc (Nat.le_refl _) (.cells #[.string (Utf8.encode r), .bool false, .bool false] 33)
              have hownx := own_call (own_iterAt HM.out.own HM.out.iter p2) hbx
              have HBX := Lib.hid hbx
              have hszx := HM.out.size
              have hszy := hbx.size
              have hszz := (Lib.below_iterAt HM.out.bel HM.out.hK line p2).size
              clear hbx
              go_wp2_with (at_builtin; refine wpList_append_own _ rfl _ _ 31 rfl w2.heap.size 33 iu (.agg #[.string ByteArray.empty, .bool false, .bool false]) 3 24 Tryd.underlying31 hiu hu0 hu1 hu2 rfl (by decide) _ _ _ rfl (hownx.alloc _) ⟨_, 0, none⟩ 1 1 [.string (Utf8.encode r), .bool false, .bool false] rfl rfl (by intro j u hu; exact three_at _ _ (by simp) _ _ _ _ j u hu) (by intro u hu; simp at hu; rcases hu with rfl | rfl <;> rfl) (by unfold maxLen; omega) (by omega) (by simp at hszy hszz ⊢; omega) ?_; intro v3 w3 hown3 hgrow3 _)
              go_roundg (line.size - p2)
              case measure => omega
              case rel => exact ⟨p2, ts ++ [⟨r, true, false⟩], false, rfl, rfl, HM.out.push hp HP2.out HR.out (Or.inl rfl) HBX.out _ hown3 hgrow3⟩
          · have h92 : r = 92 := by simpa using hr92
            cases raw
            · cases esc
              · have HX := Lib.hid (HM.out.bs hp HP2.out (HR.out.trans h92) rfl)
                clear h92
                go_wp2
                go_roundg (line.size - p2)
                case measure => omega
                case rel => exact ⟨p2, ts, true, rfl, rfl, HX.out⟩
              · clear h92
                have hbx := (Below.refl (wr.iterAt w2.heap.size line p2).heap.size (wr.iterAt w2.heap.size line p2)).alloc (Nat.le_refl _) (.cells #[.string (Utf8.encode r), .bool false, .bool false] 33)
                have hownx := own_call (own_iterAt HM.out.own HM.out.iter p2) hbx
                have HBX := Lib.hid hbx
                have hszx := HM.out.size
                have hszy := hbx.size
                have hszz := (Lib.below_iterAt HM.out.bel HM.out.hK line p2).size
                clear hbx
                go_wp2_with (at_builtin; refine wpList_append_own _ rfl _ _ 31 rfl w2.heap.size 33 iu (.agg #[.string ByteArray.empty, .bool false, .bool false]) 3 24 Tryd.underlying31 hiu hu0 hu1 hu2 rfl (by decide) _ _ _ rfl (hownx.alloc _) ⟨_, 0, none⟩ 1 1 [.string (Utf8.encode r), .bool false, .bool false] rfl rfl (by intro j u hu; exact three_at _ _ (by simp) _ _ _ _ j u hu) (by intro u hu; simp at hu; rcases hu with rfl | rfl <;> rfl) (by unfold maxLen; omega) (by omega) (by simp at hszy hszz ⊢; omega) ?_; intro v3 w3 hown3 hgrow3 _)
                go_roundg (line.size - p2)
                case measure => omega
                case rel => exact ⟨p2, ts ++ [⟨r, true, false⟩], false, rfl, rfl, HM.out.push hp HP2.out HR.out (Or.inl rfl) HBX.out _ hown3 hgrow3⟩
            · obtain rfl : esc = false := by cases esc; · rfl
                                             exact absurd (HM.out.esc rfl) (by simp)
              clear h92
              have hzx := HZ.out.below hG2 ((Lib.below_iterAt HM.out.bel HM.out.hK line p2).alloc (Lib.below_iterAt HM.out.bel HM.out.hK line p2).size (.cells #[.string (Utf8.encode r), .bool false, .bool false] 33))
              have hcut := cuts_any ifs sp r G _ hzx
              have hszz := (Lib.below_iterAt HM.out.bel HM.out.hK line p2).size
              obtain ⟨b, hb⟩ : ∃ b, among ifs r = b := ⟨_, rfl⟩
              rw [hb] at hcut
              have HB := Lib.hid hb
              have HCUT := Lib.hid hcut
              clear hb hcut hzx
              go_upto_region 18 with (go_at_call 6; refine (HCUT.out).mono ?_; rintro e w5 ⟨rfl, hb5⟩; obtain ⟨d0, d1, d2, f1, f2, hx5⟩ := unit_cells hb5; clear hb5)
              cases b
              · have hbx := below_put (below_put hx5 (Nat.le_refl _) 1 (.bool false)) (Nat.le_refl _) 2 (.bool false)
                have hownx := own_call (own_iterAt HM.out.own HM.out.iter p2) hbx
                have HBX := Lib.hid hbx
                have hszy := hbx.size
                have HU := Lib.hid (unit_of (sep := among ifs) (r := r) (b := false) (c := false) HB.out rfl)
                clear hbx hx5
                go_wp2_with (at_builtin; refine wpList_append_own _ rfl _ _ 31 rfl w2.heap.size 33 iu (.agg #[.string ByteArray.empty, .bool false, .bool false]) 3 24 Tryd.underlying31 hiu hu0 hu1 hu2 rfl (by decide) _ _ _ rfl (hownx.alloc _) ⟨_, 0, none⟩ 1 1 [.string (Utf8.encode r), .bool false, .bool false] rfl rfl (by intro j u hu; exact three_at _ _ (by simp) _ _ _ _ j u hu) (by intro u hu; simp at hu; rcases hu with rfl | rfl | rfl <;> rfl) (by unfold maxLen; omega) (by omega) (by simp at hszy hszz ⊢; omega) ?_; intro v3 w3 hown3 hgrow3 _)
                go_roundg (line.size - p2)
                case measure => omega
                case rel => exact ⟨p2, ts ++ [⟨r, false, false⟩], false, rfl, rfl, HM.out.push hp HP2.out HR.out (Or.inr (Or.inr rfl)) HBX.out _ (by rw [HU.out]; exact hown3) hgrow3⟩
              · cases hws : isWS r
                · have g1 : (r == 32) = false := by unfold isWS at hws; revert hws; cases (r == 32) <;> simp
                  have g2 : (r == 9) = false := by unfold isWS at hws; revert hws; cases (r == 9) <;> simp
                  have g3 : (r == 10) = false := by unfold isWS at hws; revert hws; cases (r == 10) <;> simp
                  have HWS := Lib.hid hws
                  clear hws
                  have hbx := below_put (below_put hx5 (Nat.le_refl _) 1 (.bool true)) (Nat.le_refl _) 2 (.bool false)
                  have hownx := own_call (own_iterAt HM.out.own HM.out.iter p2) hbx
                  have HBX := Lib.hid hbx
                  have hszy := hbx.size
                  have HU := Lib.hid (unit_of (sep := among ifs) (r := r) (b := true) (c := false) HB.out (by rw [HWS.out]; rfl))
                  clear hbx hx5
                  go_wp2_with (at_builtin; refine wpList_append_own _ rfl _ _ 31 rfl w2.heap.size 33 iu (.agg #[.string ByteArray.empty, .bool false, .bool false]) 3 24 Tryd.underlying31 hiu hu0 hu1 hu2 rfl (by decide) _ _ _ rfl (hownx.alloc _) ⟨_, 0, none⟩ 1 1 [.string (Utf8.encode r), .bool true, .bool false] rfl rfl (by intro j u hu; exact three_at _ _ (by simp) _ _ _ _ j u hu) (by intro u hu; simp at hu; rcases hu with rfl | rfl | rfl <;> rfl) (by unfold maxLen; omega) (by omega) (by simp at hszy hszz ⊢; omega) ?_; intro v3 w3 hown3 hgrow3 _)
                  go_roundg (line.size - p2)
                  case measure => omega
                  case rel => exact ⟨p2, ts ++ [⟨r, false, false⟩], false, rfl, rfl, HM.out.push hp HP2.out HR.out (Or.inr (Or.inr rfl)) HBX.out _ (by rw [HU.out]; exact hown3) hgrow3⟩
                · have hd : (r == 32) = true ∨ ((r == 32) = false ∧ (r == 9) = true) ∨ ((r == 32) = false ∧ (r == 9) = false ∧ (r == 10) = true) := by
                    unfold isWS at hws
                    revert hws
                    cases (r == 32) <;> cases (r == 9) <;> cases (r == 10) <;> simp
                  have HWS := Lib.hid hws
                  clear hws
                  rcases hd with g1 | ⟨g1, g2⟩ | ⟨g1, g2, g3⟩
                  all_goals
                    have hbx := below_put (below_put hx5 (Nat.le_refl _) 1 (.bool true)) (Nat.le_refl _) 2 (.bool true)
                    have hownx := own_call (own_iterAt HM.out.own HM.out.iter p2) hbx
                    have HBX := Lib.hid hbx
                    have hszy := hbx.size
                    have HU := Lib.hid (unit_of (sep := among ifs) (r := r) (b := true) (c := true) HB.out (by rw [HWS.out]; rfl))
                    clear hbx hx5
                    go_wp2_with (at_builtin; refine wpList_append_own _ rfl _ _ 31 rfl w2.heap.size 33 iu (.agg #[.string ByteArray.empty, .bool false, .bool false]) 3 24 Tryd.underlying31 hiu hu0 hu1 hu2 rfl (by decide) _ _ _ rfl (hownx.alloc _) ⟨_, 0, none⟩ 1 1 [.string (Utf8.encode r), .bool true, .bool true] rfl rfl (by intro j u hu; exact three_at _ _ (by simp) _ _ _ _ j u hu) (by intro u hu; simp at hu; rcases hu with rfl | rfl | rfl <;> rfl) (by unfold maxLen; omega) (by omega) (by simp at hszy hszz ⊢; omega) ?_; intro v3 w3 hown3 hgrow3 _)
                    go_roundg (line.size - p2)
                    case measure => omega
                    case rel => exact ⟨p2, ts ++ [⟨r, false, false⟩], false, rfl, rfl, HM.out.push hp HP2.out HR.out (Or.inr (Or.inr rfl)) HBX.out _ (by rw [HU.out]; exact hown3) hgrow3⟩
        · have hnx : ∀ ty, (Instr.next (.pointer (some ⟨w2.heap.size, 0, none⟩)) true ty).run Tryd.prog wr = _ := fun ty => Lib.run_next_end_at wr w2.heap.size line pos ty hit hp
          have heq := HM.out.eq
          rw [from_end line pos hp] at heq
          go_wp2
          go_meet
          exact ⟨ts, esc, rfl, HM.out.own, HM.out.bel, Lib.hid heq, by omega⟩

  case rest =>
    obtain ⟨ts, esc, rfl, hown, hbe, hts, htl⟩ := hcut
    have HOWN := Lib.hid hown
    have HBE := Lib.hid hbe
    have hzc := hbe.size
    clear hown hbe
    obtain ⟨T, hT⟩ : ∃ T, toks raw (runes line) = T := ⟨_, rfl⟩
    rw [hT] at hts
    have HT := Lib.hid hT
    clear hT
    go_upto_if 89 with fail
    go_cut [10] from 90 (fun s10 wx => wx.ownsRow w2.heap.size 33 3 s10 T.length (unitCells (among ifs) T) ∧ Below w2.heap.size w2 wx ∧ T.length ≤ 1048577)
    case first =>
      as_aux_lemma =>
        cases esc
        · go_wp2
          go_meet
          have e : ts = T := by have := hts.out; simpa [tokE, toks_nil] using this
          subst e
          exact ⟨HOWN.out, HBE.out, by omega⟩
        · have hown := HOWN.out
          go_wp2_with (at_builtin; refine wpList_append_own _ rfl _ _ 31 rfl w2.heap.size 33 iu (.agg #[.string ByteArray.empty, .bool false, .bool false]) 3 24 Tryd.underlying31 hiu hu0 hu1 hu2 rfl (by decide) _ _ _ rfl (hown.alloc _) ⟨_, 0, none⟩ 1 1 [.string ⟨#[]⟩, .bool false, .bool false] rfl rfl (by intro j u hu; exact three_at _ _ (by simp) _ _ _ _ j u hu) (by intro u hu; simp at hu; rcases hu with rfl | rfl <;> rfl) (by unfold maxLen; omega) (by omega) (by simp; omega) ?_; intro v3 w3 hown3 hgrow3 _)
          go_meet
          have e : ts ++ [⟨0, true, true⟩] = T := hts.out
          have hl : T.length = ts.length + 1 := by rw [← e]; simp
          refine ⟨?_, (HBE.out.alloc hzc _).grown hgrow3 (by simp; omega) (fun k hk => (HOWN.out.lt k hk).1), by omega⟩
          rw [hl, ← e, unitCells_snoc]
          exact hown3
    case rest =>
      obtain ⟨hown, hbe, htl2⟩ := hcut
      obtain ⟨i4, hi4, hz0, hz1, hz2⟩ := info_parts Tryd.info_int
      obtain ⟨ao, uc, hv⟩ := own_slice hown
      subst hv
      have HUN := Lib.hid hown
      have HB2 := Lib.hid hbe
      have hrl := runs_le (among ifs) T
      have HRL := Lib.hid hrl
      have hTz : (0 : Int) ≤ (T.length : Int) ∧ (T.length : Int) ≤ 1048576 + 1 := by omega
      clear hown hbe hrl HOWN HBE hts htl hzc
      obtain ⟨wy, rfl⟩ : ∃ wy : World, wy = wc := ⟨_, rfl⟩
      go_upto_block 2 with fail
      go_cut [15, 16, 17, 18] from 96 (fun s15 s16 _ _ wx => RunMem wy ((runsTo (among ifs) T T.length).map (·.1)) ((runsTo (among ifs) T T.length).map (·.2)) s15 s16 wx)
      case first =>
        as_aux_lemma =>
          go_wp2_with fail
          go_loopg [15, 16, 17, 18, 96] T.length (fun gk s15 s16 _ _ s96 wr => ∃ (k : Nat) (vs ve : Value), vs = s15 ∧ ve = s16 ∧ k ≤ T.length ∧ gk = T.length - k ∧ s96 = .int .i64 k ∧ RunMem wy ((runsTo (among ifs) T k).map (·.1)) ((runsTo (among ifs) T k).map (·.2)) vs ve wr)
          case atStart => exact ⟨0, _, _, rfl, rfl, Nat.zero_le _, rfl, rfl, runMem_start wy⟩
          case round =>
            obtain ⟨k, vs, ve, rfl, rfl, hk, rfl, rfl, hm⟩ := hrel
            have HM := Lib.hid hm
            clear hm
            by_cases hlt : k < T.length
            · have hkz : (k : Int) < (T.length : Int) := by omega
              obtain ⟨ug, hug⟩ := own_ptr HUN.out (by omega)
              subst hug
              obtain ⟨m1, m2, m3⟩ := unitCells_get (among ifs) T k tok0 hlt
              have hul := unitCells_len (among ifs) T
              have hugl := (HUN.out.lt ug rfl).2
              have q1 := (HM.out.bel.cell (p := ⟨ug, k * 3, none⟩) hugl).trans ((HUN.out.cellAt (k * 3) (by omega)).trans m1)
              have q2 := (HM.out.bel.cell (p := ⟨ug, k * 3 + 1, none⟩) hugl).trans ((HUN.out.cellAt (k * 3 + 1) (by omega)).trans m2)
              have q3 := (HM.out.bel.cell (p := ⟨ug, k * 3 + 2, none⟩) hugl).trans ((HUN.out.cellAt (k * 3 + 2) (by omega)).trans m3)
              clear m1 m2 m3 hul
              have hru := HRL.out k
              have hll : (runsTo (among ifs) T k).length ≤ 1048577 := by omega
              have hzw := HM.out.bel.size
              cases hso : solid (among ifs) (T.getD k tok0)
              · rw [hso] at q2 q3
                simp only [Bool.not_false] at q2 q3
                generalize (true && isWS (T.getD k tok0).r) = x3 at q3
                generalize unitS (T.getD k tok0) = x1 at q1
                have HSO := Lib.hid (runs_sep (among ifs) T k hso)
                clear hso
                go_wp2
                go_roundg (T.length - (k + 1))
                case measure => omega
                case rel => exact ⟨k + 1, _, _, rfl, rfl, by omega, rfl, by first | rfl | simp, by
                  have e : runsTo (among ifs) T (k + 1) = runsTo (among ifs) T k := by unfold runsTo; rw [HSO.out]; rfl
                  rw [e]
                  exact HM.out.call ((Below.refl _ _).alloc (Nat.le_refl _) _)⟩
              · rw [hso] at q2 q3
                simp only [Bool.not_true, Bool.false_and] at q2 q3
                generalize unitS (T.getD k tok0) = x1 at q1
                have hugw : ug < wr.heap.size := Nat.lt_of_lt_of_le hugl hzw
                by_cases hk0 : k = 0
                · have hkz0 : ((k : Int) == 0) = true := by simp [hk0]
                  have HNEW := Lib.hid (runs_new (Or.inl hk0) hso)
                  clear hk0 hso
                  have HM6 := Lib.hid (HM.out.call ((Below.refl wr.heap.size wr).alloc (Nat.le_refl _) (.cells #[.string x1, .bool false, .bool false] 33)))
                  go_wp2_with (first
                    | (at_builtin; refine wpList_append_own_at _ rfl _ _ 35 rfl wy.heap.size 3 i4 (.int .i64 0) 1 8 Tryd.underlying35 hi4 hz0 hz1 hz2 rfl (by decide) _ _ _ rfl (HM7.out.en.alloc _) ⟨w7.heap.size, 0, none⟩ 1 1 [.int .i64 k] rfl rfl (cell_one_new _ _ _) (by intro u hu; simp at hu; subst hu; rfl) (by unfold maxLen; simp; omega) (by simp; omega) (by have := HM7.out.bel.size; simp; omega) ?_; intro v2 w8 hown8 hgrow8 _ hloc8; have HM8 := Lib.hid (HM7.out.pushE _ k hown8 hgrow8 hloc8); obtain ⟨g8, c8, hv8⟩ := own_cons hown8 (by omega); subst hv8; rw [List.length_map] at HM8 ⊢; obtain ⟨⟨x8, d8⟩, e8⟩ := last_cell HM8.out (by simp) (runsTo (among ifs) T k).length (by simp))
                    | (at_builtin; refine wpList_append_own_at _ rfl _ _ 35 rfl wy.heap.size 3 i4 (.int .i64 0) 1 8 Tryd.underlying35 hi4 hz0 hz1 hz2 rfl (by decide) _ _ _ rfl (HM6.out.st.alloc _) ⟨_, 0, none⟩ 1 1 [.int .i64 k] rfl rfl (one_at _ _ (by simp) _ _) (by intro u hu; simp at hu; subst hu; rfl) (by unfold maxLen; simp; omega) (by simp; omega) (by have := HM6.out.bel.size; simp; omega) ?_; intro v1 w7 hown7 hgrow7 _ hloc7; have HM7 := Lib.hid (HM6.out.pushS _ k hown7 hgrow7 hloc7)))
                  go_roundg (T.length - (k + 1))
                  case measure => omega
                  case rel => exact ⟨k + 1, _, _, rfl, rfl, by omega, rfl, by first | rfl | simp, by
                    have := HM8.out.setE (by simp) (runsTo (among ifs) T k).length (k + 1)
                    rw [HNEW.out, List.map_append, List.map_append]
                    simpa using this⟩
                · have hkz0 : ((k : Int) == 0) = false := by simp [hk0]
                  have hkz1 : (1 : Int) ≤ (k : Int) := by omega
                  have q4 := (HM.out.bel.cell (p := ⟨ug, (k - 1) * 3 + 1, none⟩) hugl).trans ((HUN.out.cellAt ((k - 1) * 3 + 1) (by have := unitCells_len (among ifs) T; omega)).trans (unitCells_get (among ifs) T (k - 1) tok0 (by omega)).2.1)
                  cases hpo : solid (among ifs) (T.getD (k - 1) tok0)
                  · rw [hpo] at q4
                    simp only [Bool.not_false] at q4
                    have HNEW := Lib.hid (runs_new (Or.inr hpo) hso)
                    clear hk0 hso hpo
                    have HM6 := Lib.hid (HM.out.call ((Below.refl wr.heap.size wr).alloc (Nat.le_refl _) (.cells #[.string x1, .bool false, .bool false] 33)))
                    go_wp2_with (first
                      | (at_builtin; refine wpList_append_own_at _ rfl _ _ 35 rfl wy.heap.size 3 i4 (.int .i64 0) 1 8 Tryd.underlying35 hi4 hz0 hz1 hz2 rfl (by decide) _ _ _ rfl (HM7.out.en.alloc _) ⟨w7.heap.size, 0, none⟩ 1 1 [.int .i64 k] rfl rfl (cell_one_new _ _ _) (by intro u hu; simp at hu; subst hu; rfl) (by unfold maxLen; simp; omega) (by simp; omega) (by have := HM7.out.bel.size; simp; omega) ?_; intro v2 w8 hown8 hgrow8 _ hloc8; have HM8 := Lib.hid (HM7.out.pushE _ k hown8 hgrow8 hloc8); obtain ⟨g8, c8, hv8⟩ := own_cons hown8 (by omega); subst hv8; rw [List.length_map] at HM8 ⊢; obtain ⟨⟨x8, d8⟩, e8⟩ := last_cell HM8.out (by simp) (runsTo (among ifs) T k).length (by simp))
                      | (at_builtin; refine wpList_append_own_at _ rfl _ _ 35 rfl wy.heap.size 3 i4 (.int .i64 0) 1 8 Tryd.underlying35 hi4 hz0 hz1 hz2 rfl (by decide) _ _ _ rfl (HM6.out.st.alloc _) ⟨_, 0, none⟩ 1 1 [.int .i64 k] rfl rfl (one_at _ _ (by simp) _ _) (by intro u hu; simp at hu; subst hu; rfl) (by unfold maxLen; simp; omega) (by simp; omega) (by have := HM6.out.bel.size; simp; omega) ?_; intro v1 w7 hown7 hgrow7 _ hloc7; have HM7 := Lib.hid (HM6.out.pushS _ k hown7 hgrow7 hloc7)))
                    go_roundg (T.length - (k + 1))
                    case measure => omega
                    case rel => exact ⟨k + 1, _, _, rfl, rfl, by omega, rfl, by first | rfl | simp, by
                      have := HM8.out.setE (by simp) (runsTo (among ifs) T k).length (k + 1)
                      rw [HNEW.out, List.map_append, List.map_append]
                      simpa using this⟩
                  · rw [hpo] at q4
                    simp only [Bool.not_true] at q4
                    have hmore : ∃ d a, runsTo (among ifs) T k = d ++ [(a, k)] ∧ runsTo (among ifs) T (k + 1) = d ++ [(a, k + 1)] := by
                      obtain ⟨m, rfl⟩ : ∃ m, k = m + 1 := ⟨k - 1, by omega⟩
                      exact runs_more (by simpa using hpo) hso
                    obtain ⟨d, a, e1, e2⟩ := hmore
                    have hm6 := HM.out.call ((Below.refl wr.heap.size wr).alloc (Nat.le_refl _) (.cells #[.string x1, .bool false, .bool false] 33))
                    rw [e1] at hm6 hll
                    have hdl : d.length ≤ 1048577 := by simp at hll; omega
                    obtain ⟨g6, c6, hv6⟩ := own_cons hm6.en (by simp)
                    subst hv6
                    have hEl : ((d ++ [(a, k)]).map (·.2)).length = d.length + 1 := by simp
                    rw [hEl] at hm6 ⊢
                    obtain ⟨⟨x6, d6⟩, e6⟩ := last_cell hm6 hEl.symm d.length (by simp)
                    have HM6 := Lib.hid hm6
                    have HE2 := Lib.hid e2
                    have hdz : (0 : Int) ≤ (d.length : Int) ∧ (d.length : Int) ≤ 1048577 := by omega
                    clear hk0 hso hpo e1 e2 hm6 HM hEl hll hru
                    go_wp2
                    go_roundg (T.length - (k + 1))
                    case measure => omega
                    case rel => exact ⟨k + 1, _, _, rfl, rfl, by omega, rfl, by first | rfl | simp, by
                      have := HM6.out.setE (by simp) d.length (k + 1)
                      rw [(set_last d a k (k + 1)).1, (set_last d a k (k + 1)).2] at this
                      rw [HE2.out]
                      exact this⟩
            · obtain rfl : k = T.length := by omega
              go_wp2
              go_meet
              exact HM.out
      case rest =>
        have HRM := Lib.hid hcut
        clear hcut
        obtain ⟨L, hL⟩ : ∃ L, runsTo (among ifs) T T.length = L := ⟨_, rfl⟩
        rw [hL] at HRM
        have hLl := HRL.out T.length
        rw [hL] at hLl
        have HL := Lib.hid hL
        clear hL HRL
        obtain ⟨wz, rfl⟩ : ∃ wz : World, wz = wc := ⟨_, rfl⟩
        go_upto_block 4 with fail
        go_cut [15, 16, 19, 20] from 129 (fun s15 s16 _ _ wx => CutMem wy (ccut (among ifs) n T) s15 s16 wx)
        case first =>
          as_aux_lemma =>
            by_cases hLe : L = []
            · obtain ⟨o15, c15, hv15⟩ := own_slice HRM.out.st
              obtain ⟨o16, c16, hv16⟩ := own_slice HRM.out.en
              have HCM := Lib.hid (cutMem_all HRM.out)
              have HE : Hid (ccut (among ifs) n T = L) := Lib.hid (by unfold ccut; rw [HL.out, hLe]; rfl)
              have hl0 : (L.map (·.1)).length = 0 := by simp [hLe]
              rw [hl0] at hv15
              subst hv15 hv16
              clear hl0 hLe hLl
              go_wp2
              go_meet
              rw [HE.out]; exact HCM.out
            · obtain ⟨M, hM⟩ : ∃ M, L.length = M + 1 := ⟨L.length - 1, by have := List.length_pos_iff.2 hLe; omega⟩
              have HM := Lib.hid hM
              obtain ⟨g1, f1, e1⟩ := own_cons HRM.out.st (by simp; omega)
              obtain ⟨g2, f2, e2⟩ := own_cons HRM.out.en (by simp; omega)
              have hEN := ends_of (sep := among ifs) (ts := T) (by rw [HL.out]; exact hLe)
              rw [HL.out] at hEN
              obtain ⟨k1, k2, k3⟩ := lo_first hEN
              have hqT := hEN.le
              have hpq := hEN.lt
              clear hEN
              rw [List.length_map, hM] at e1 e2
              subst e1 e2
              have mh1 := (mhi_is (among ifs) T).1
              have mh2 := (mhi_is (among ifs) T).2.1
              obtain ⟨p, hp⟩ : ∃ p, (L.headD (0, 0)).1 = p := ⟨_, rfl⟩
              obtain ⟨q, hq⟩ : ∃ q, (L.getLastD (0, 0)).2 = q := ⟨_, rfl⟩
              rw [hp] at k1 hpq
              rw [hq] at k2 hqT hpq
              have hMl : M + 1 ≤ T.length := by omega
              have hMz : (0 : Int) ≤ (M : Int) ∧ (M : Int) ≤ 1048577 := by omega
              have hq2 : (L.map (·.2)).getD M 0 = q := by
                rw [snd_at _ _ (by omega), ← hq, List.getLastD_eq_getLast?, List.getLast?_eq_getElem?, hM]
                rfl
              have hp2 : (L.map (·.1)).getD 0 0 = p := by
                rw [fst_at _ _ (by omega), ← hp]
                cases L with
                | nil => rfl
                | cons a l => rfl
              have HP := Lib.hid (And.intro hp2 hq2)
              have hc2 := own_ints HRM.out.en rfl M (by simp; omega)
              rw [hq2] at hc2
              obtain ⟨ug, hug⟩ := own_ptr HUN.out (by omega)
              subst hug
              clear hp hq hp2 hq2 hLe hM
              by_cases hn1 : n = 1
              · subst hn1
                clear c1 c2 hn hn2
                have hm1 := HRM.out
                have hp0 := own_ints hm1.st (by simp [HM.out]) 0 (by simp [HM.out])
                rw [HP.out.1] at hp0
                have HP0 := Lib.hid hp0
                clear hm1 hp0 hc2
                go_upto_block 5 with fail
                go_cut [19] from 136 (fun _ wx => RunMem wy ((L.map (·.1)).set 0 (mlo (among ifs) T)) (L.map (·.2)) (.slice (some ⟨g1, 0, none⟩) (M + 1) f1) (.slice (some ⟨g2, 0, none⟩) (M + 1) f2) wx)
                case first =>
                  as_aux_lemma =>
                    go_wp2_with fail
                    go_loopg [136] p (fun gk _ wr => ∃ x, mlo (among ifs) T ≤ x ∧ x ≤ p ∧ x = gk ∧ RunMem wy ((L.map (·.1)).set 0 x) (L.map (·.2)) (.slice (some ⟨g1, 0, none⟩) (M + 1) f1) (.slice (some ⟨g2, 0, none⟩) (M + 1) f2) wr)
                    case atStart => exact ⟨p, k1, Nat.le_refl _, rfl, by
                      have e : (L.map (·.1)).set 0 p = L.map (·.1) := by
                        rw [← HP.out.1]
                        cases L with
                        | nil => rfl
                        | cons a l => rfl
                      rw [e]
                      exact HRM.out⟩
                    case round =>
                      obtain ⟨x, x1, x2, rfl, hm⟩ := hrel
                      have hc := own_ints hm.st (by simp [HM.out]) 0 (by simp [HM.out])
                      have hcx : ((L.map (·.1)).set 0 x).getD 0 0 = x := by rw [set_getD _ _ _ _ (by simp [HM.out]), if_pos rfl]
                      rw [hcx] at hc
                      have hfz := own_frz hm.st (by simp [HM.out]) 0
                      have HMM := Lib.hid hm
                      have hcu := own_cap HUN.out
                      clear hm hcx HP0
                      have hxz : (0 : Int) ≤ (x : Int) ∧ (x : Int) ≤ 1048577 := by omega
                      have hxT : (x : Int) ≤ (uc : Int) := by omega
                      by_cases hx0 : 0 < x
                      · have hx0z : (1 : Int) ≤ (x : Int) := by omega
                        by_cases hle : x ≤ mlo (among ifs) T
                        · have HBL := Lib.hid (blank_pre HUN.out HMM.out.bel (by omega) x uc (by omega) true (by simpa using hle))
                          go_upto_region 36 with (go_at_call 7; refine (HBL.out).mono ?_; rintro e w5 ⟨rfl, hb5⟩; have HB5 := Lib.hid hb5; clear hb5)
                          go_meet
                          obtain rfl : x = mlo (among ifs) T := by omega
                          exact HMM.out.call HB5.out
                        · have HBL := Lib.hid (blank_pre HUN.out HMM.out.bel (by omega) x uc (by omega) false (by simpa using hle))
                          have hgw := (HMM.out.st.lt g1 rfl).2
                          have hMM0 := HMM.out
                          go_upto_region 36 with (go_at_call 7; refine (HBL.out).mono ?_; rintro e w5 ⟨rfl, hb5⟩; have HM5 := Lib.hid (hMM0.call hb5); clear hMM0 hb5)
                          have hc5 := own_ints HM5.out.st (by simp [HM.out]) 0 (by simp [HM.out])
                          rw [set_getD _ _ _ _ (by simp [HM.out]), if_pos rfl] at hc5
                          have hf5 := own_frz HM5.out.st (by simp [HM.out]) 0
                          go_wp2
                          go_roundg (x - 1)
                          case measure => omega
                          case rel => exact ⟨x - 1, by omega, by omega, rfl, by
                            have := HM5.out.setS (by simp [HM.out]) 0 (x - 1)
                            rw [List.set_set] at this
                            have e : (((x - 1 : Nat)) : Int) = (x : Int) - 1 := by omega
                            rw [e] at this
                            exact this⟩
                      · obtain rfl : x = 0 := by omega
                        go_wp2
                        go_meet
                        have e : mlo (among ifs) T = 0 := by omega
                        rw [e]
                        exact HMM.out
                case rest =>
                  have HR1 := Lib.hid hcut
                  have hc2 := own_ints hcut.en (by simp [HM.out]) M (by simp [HM.out])
                  rw [HP.out.2] at hc2
                  clear hcut
                  obtain ⟨wv, rfl⟩ : ∃ wv : World, wv = wc := ⟨_, rfl⟩
                  go_upto_block 7 with fail
                  go_cut [19] from 160 (fun s19 wx => s19 = .int .i64 (mhi (among ifs) T) ∧ Below wv.heap.size wv wx)
                  case first =>
                    as_aux_lemma =>
                      go_wp2_with fail
                      go_loopg [19] (T.length - q) (fun gk s19 wr => ∃ l, q ≤ l ∧ l ≤ mhi (among ifs) T ∧ gk = T.length - l ∧ s19 = .int .i64 (l : Nat) ∧ Below wv.heap.size wv wr)
                      case atStart => exact ⟨q, Nat.le_refl _, k2, rfl, rfl, Below.refl _ _⟩
                      case round =>
                        obtain ⟨l, l1, l2, rfl, rfl, hb⟩ := hrel
                        have HBL0 := Lib.hid hb
                        have hbb := HR1.out.bel.trans (hb.mono HR1.out.bel.size)
                        have hcu := own_cap HUN.out
                        clear hb hc2
                        have hlz : (0 : Int) ≤ (l : Int) ∧ (l : Int) ≤ 1048577 := by omega
                        by_cases hlt : l < T.length
                        · have hltz : (l : Int) < (T.length : Int) := by omega
                          have hnc : ¬ uc = l := by omega
                          have hnc2 : ¬ l = uc := by omega
                          by_cases hle : mhi (among ifs) T ≤ l
                          · have HBL := Lib.hid (fun m o c hm ho => blank_suf HUN.out hbb (by omega) l m o c hm ho (by omega) true (by simpa using hle))
                            clear hbb
                            go_upto_region 39 with (go_at_call 7; refine (HBL.out _ _ _ (by omega) (by omega)).mono ?_; rintro e w5 ⟨rfl, hb5⟩; have HB5 := Lib.hid hb5; clear hb5)
                            go_meet
                            obtain rfl : l = mhi (among ifs) T := by omega
                            exact ⟨rfl, HBL0.out.trans (HB5.out.mono HBL0.out.size)⟩
                          · have HBL := Lib.hid (fun m o c hm ho => blank_suf HUN.out hbb (by omega) l m o c hm ho (by omega) false (by simpa using hle))
                            clear hbb
                            go_upto_region 39 with (go_at_call 7; refine (HBL.out _ _ _ (by omega) (by omega)).mono ?_; rintro e w5 ⟨rfl, hb5⟩; have HB5 := Lib.hid hb5; clear hb5)
                            go_wp2
                            go_roundg (T.length - (l + 1))
                            case measure => omega
                            case rel => exact ⟨l + 1, by omega, by omega, rfl, by go_num, HBL0.out.trans (HB5.out.mono HBL0.out.size)⟩
                        · obtain rfl : l = T.length := by omega
                          go_wp2
                          go_meet
                          have e : mhi (among ifs) T = T.length := by omega
                          exact ⟨by rw [e], HBL0.out⟩
                  case rest =>
                    obtain ⟨rfl, hb⟩ := hcut
                    have HBV := Lib.hid hb
                    have hcu := own_cap HR1.out.st
                    rw [show ((L.map (·.1)).set 0 (mlo (among ifs) T)).length = M + 1 by simp [HM.out]] at hcu
                    have hf1z : (M : Int) + 1 ≤ (f1 : Int) := by omega
                    clear hb hc2
                    go_wp2
                    go_meet
                    have hne : runsTo (among ifs) T T.length ≠ [] := by rw [HL.out]; intro e; have := HM.out; rw [e] at this; simp at this
                    have e : ccut (among ifs) 1 T = [(mlo (among ifs) T, mhi (among ifs) T)] := by unfold ccut; rw [if_neg hne, if_pos rfl]
                    rw [e]
                    exact cutMem_one (HR1.out.call HBV.out) (by rw [set_getD _ _ _ _ (by simp [HM.out]), if_pos rfl]) (by simp [HM.out]) _
              · have hne : runsTo (among ifs) T T.length ≠ [] := by rw [HL.out]; intro e; have := HM.out; rw [e] at this; simp at this
                have hcc : ccut (among ifs) n T = tcut n L := by unfold ccut; rw [if_neg hne, if_neg hn1, HL.out]
                have HCC := Lib.hid hcc
                clear hcc hne
                have c3 : (n == 1) = false := by simpa using hn1
                by_cases hcn : 1 ≤ n ∧ n ≤ M
                · obtain ⟨n1, n2⟩ := hcn
                  obtain ⟨a, ha⟩ : ∃ a : Nat, n = (a : Int) + 1 := ⟨(n - 1).toNat, by omega⟩
                  have HA := Lib.hid ha
                  have haM : a + 1 ≤ M := by omega
                  have hca := own_ints HRM.out.en (by simp [HM.out]) a (by simp [HM.out]; omega)
                  have hfa := own_frz HRM.out.en (by simp [HM.out]) a
                  have e1 : (n - 1).toNat = a := by omega
                  have e2 : n.toNat = a + 1 := by omega
                  have cu1 := own_cap HRM.out.st
                  have cu2 := own_cap HRM.out.en
                  rw [List.length_map, HM.out] at cu1 cu2
                  have nz1 : n ≤ (f1 : Int) := by omega
                  have nz2 : n ≤ (f2 : Int) := by omega
                  have nz3 : (0 : Int) < n := by omega
                  have nz4 : n < (M : Int) + 1 := by omega
                  clear ha hn1 hn c2 cu1 cu2
                  go_wp2
                  go_meet
                  have hq3 : (L.getD (L.length - 1) (0, 0)).2 = q := by
                    rw [← HP.out.2, snd_at _ _ (by rw [HM.out]; omega), HM.out]
                    rfl
                  have hse := HRM.out.setE (by simp [HM.out]) a q
                  rw [← hq3] at hse
                  have hfin := cutMem_part (n1 := M + 1) (n2 := M + 1) (q := a) (by rw [HM.out]; omega) hse
                  rw [hq3] at hfin
                  rw [HCC.out, show tcut n L = tcut ((a : Int) + 1) L by rw [HA.out]]
                  exact hfin
                · have HCM := Lib.hid (cutMem_all HRM.out)
                  have e : tcut n L = L := by
                    unfold tcut
                    rw [if_neg]
                    have := HM.out
                    omega
                  have HE := Lib.hid (HCC.out.trans e)
                  clear e
                  rcases hn with hn | hn
                  · subst hn
                    clear hcn hn1 c1 c2 c3 hn2
                    go_wp2
                    go_meet
                    rw [HE.out]
                    exact HCM.out
                  · have nz : (M : Int) + 1 ≤ n := by omega
                    clear hcn hn1 c2
                    go_wp2
                    go_meet
                    rw [HE.out]
                    exact HCM.out
        case rest =>
          obtain ⟨C, hC⟩ : ∃ C, ccut (among ifs) n T = C := ⟨_, rfl⟩
          have hCok := ccut_ok (among ifs) (n := n) T hn
          have hCl := ccut_len (among ifs) n T
          rw [hC] at hCok hCl hcut
          have HC := Lib.hid hC
          have HOK := Lib.hid hCok
          clear hC hCok
          obtain ⟨wz, rfl⟩ : ∃ wz : World, wz = wc := ⟨_, rfl⟩
          have hbz : Below w2.heap.size w2 wz := HB2.out.trans (hcut.bel.mono HB2.out.size)
          have hzz := hbz.size
          have hbyz := hcut.bel
          have hrf : ∀ W, Below wz.heap.size wz W → IsCfg W wz.heap.size (.iface 24 (.pointer (some ⟨G, 0, none⟩))) ⟨#[]⟩ → Calls Tryd.prog 8 #[.pointer (some ⟨wz.heap.size, 0, none⟩), .string line, .int .i64 n, .bool raw] W (fun e w' => ∃ v, e = .returned v ∧ GotMem T C v w' ∧ Below wz.heap.size wz w') := by
            intro W hW hcfg
            have hz := (HZ.out.below hG2 hbz).below (by omega) hW
            rw [← HIF.out.1, ← HIF.out.2] at hz
            refine (rf_env (how % 7) line n raw G wz.heap.size W hz (by omega) hcfg hs hn).mono ?_
            intro e w' h
            rw [HIF.out.1, HT.out] at h
            obtain ⟨v, g1, g2, g3⟩ := got_of h hW (Nat.le_refl _) hW.size
            rw [HC.out] at g2
            exact ⟨v, g1, g2, g3⟩
          have HRF := Lib.hid hrf
          have HBZ := Lib.hid (HBW.out.trans (hbz.mono (by omega)))
          have HYZ := Lib.hid hbyz
          have HCUT := Lib.hid hcut
          clear hrf hbz hcut hbyz HZ HC HIF HT
          have hcl2 : (C.length : Int) ≤ 1048578 := by omega
          by_cases hC0 : C = []
          · obtain ⟨o15, c15, hv15⟩ := cut_zero HCUT.out hC0
            subst hv15
            clear HCUT
            go_upto_region 48 with (go_at_call 8; refine (HRF.out _ ((Below.refl _ _).alloc (Nat.le_refl _) _) ⟨by simp [go_sem], by simp [go_sem], by simp [go_sem], by simp [go_sem], by simp [go_sem]⟩).mono ?_; rintro e w5 ⟨v5, rfl, hg5, hb5⟩; have HB5 := Lib.hid hb5; have HG5 := Lib.hid hg5; clear hg5 hb5)
            obtain ⟨o5, c5, hv5⟩ := got_zero HG5.out hC0
            subst hv5
            clear hC0 HG5
            go_wp2_with fail
            go_loopg [220] 0 (fun _ s220 wr => s220 = .int .i64 0 ∧ wr = w5)
            case atStart => exact ⟨rfl, rfl⟩
            case round =>
              obtain ⟨rfl, rfl⟩ := hrel
              go_wp2
              go_ret
              exact ⟨rfl, HBZ.out.trans (HB5.out.mono (by have := HBZ.out.size; omega))⟩
          · obtain ⟨g1, c1, g2, c2, hv15, hv16, hg1, hg2, hcells⟩ := cut_some HCUT.out hC0
            subst hv15 hv16
            have HCE := Lib.hid hcells
            clear HCUT hcells
            have hC1 : (1 : Int) ≤ (C.length : Int) := by have := List.length_pos_iff.2 hC0; omega
            go_upto_region 48 with (go_at_call 8; refine (HRF.out _ ((Below.refl _ _).alloc (Nat.le_refl _) _) ⟨by simp [go_sem], by simp [go_sem], by simp [go_sem], by simp [go_sem], by simp [go_sem]⟩).mono ?_; rintro e w5 ⟨v5, rfl, hg5, hb5⟩; have HB5 := Lib.hid hb5; have HG5 := Lib.hid hg5; clear hg5 hb5)
            obtain ⟨g3, c3, hv5, hg3, hcell3⟩ := got_some HG5.out hC0
            subst hv5
            have HC3 := Lib.hid hcell3
            clear hC0 HG5 hcell3
            have hT1 : (C.length : Int) ≤ (T.length : Int) + 1 := by omega
            obtain ⟨ug, hug⟩ := own_ptr HUN.out (by have := (HOK.out (C.getD 0 (0, 0)) (by rw [List.getD, List.getElem?_eq_getElem (by omega)]; exact List.getElem_mem _)); omega)
            subst hug
            have hcu := own_cap HUN.out
            have hucz : (T.length : Int) ≤ (uc : Int) := by omega
            go_wp2_with fail
            go_loopg [220] C.length (fun gk s220 wr => ∃ k : Nat, k ≤ C.length ∧ gk = C.length - k ∧ s220 = .int .i64 k ∧ Below w5.heap.size w5 wr)
            case atStart => exact ⟨0, Nat.zero_le _, rfl, rfl, Below.refl _ _⟩
            case round =>
              obtain ⟨k, hk, rfl, rfl, hbr⟩ := hrel
              have HBR := Lib.hid hbr
              by_cases hlt : k < C.length
              · have hkz : (k : Int) < (C.length : Int) := by omega
                obtain ⟨d1, d2⟩ := HCE.out k hlt
                have d3 := HC3.out k hlt
                obtain ⟨p1, p2⟩ := HOK.out (C.getD k (0, 0)) (by rw [List.getD, List.getElem?_eq_getElem hlt]; exact List.getElem_mem _)
                obtain ⟨a, ha⟩ : ∃ a, (C.getD k (0, 0)).1 = a := ⟨_, rfl⟩
                obtain ⟨b, hb⟩ : ∃ b, (C.getD k (0, 0)).2 = b := ⟨_, rfl⟩
                rw [ha] at d1 d3 p1
                rw [hb] at d2 d3 p1 p2
                have HAB := Lib.hid (And.intro ha hb)
                clear ha hb
                have hw5 := HB5.out.size
                have q1 := (hbr.cell (p := ⟨g1, k, none⟩) (by show g1 < w5.heap.size; omega)).trans ((HB5.out.cell (p := ⟨g1, k, none⟩) hg1).trans d1)
                have q2 := (hbr.cell (p := ⟨g2, k, none⟩) (by show g2 < w5.heap.size; omega)).trans ((HB5.out.cell (p := ⟨g2, k, none⟩) hg2).trans d2)
                have q3 := (hbr.cell (p := ⟨g3, k, none⟩) hg3).trans d3
                have Q3 := Lib.hid q3
                clear q3 d1 d2 d3 hbr
                have pz : (0 : Int) ≤ (a : Int) ∧ (a : Int) < (b : Int) ∧ (b : Int) ≤ (T.length : Int) ∧ (b : Int) ≤ (uc : Int) := by omega
                go_upto_region 54 with fail
                go_quiet (fail)
                have HBQ := Lib.hid (below_drewN HBR.out nq)
                clear HBR q1 q2
                generalize hwq : wr.drewN nq = wq at HBQ ⊢
                clear hwq
                go_wp2_with fail
                go_loopg [23, 234] (b - a) (fun gk s23 s234 wi => ∃ j : Nat, j ≤ b - a ∧ gk = b - a - j ∧ s234 = .int .i64 j ∧ s23 = .string (catU ((T.take (a + j)).drop a)) ∧ Below w5.heap.size w5 wi)
                case atStart => exact ⟨0, Nat.zero_le _, rfl, rfl, by rw [part_nil], HBQ.out⟩
                case round =>
                  obtain ⟨j, hj, rfl, rfl, rfl, hbi⟩ := hrel
                  have HBI := Lib.hid hbi
                  by_cases hjt : j < b - a
                  · have hu := unitsAt_of HUN.out (HYZ.out.trans ((HB5.out.trans (hbi.mono HB5.out.size)).mono HYZ.out.size)) a b (by omega) j (by simp; omega)
                    have hT : ((T.take b).drop a).getD j tok0 = T.getD (a + j) tok0 := by
                      simp only [List.getD, List.getElem?_drop]
                      rw [List.getElem?_take_of_lt (by omega)]
                    rw [hT] at hu
                    obtain ⟨r1, r2, r3⟩ := hu
                    have hps := part_snoc T a b j (by omega) (by omega)
                    have hs1 := part_size T a (a + j) (by omega)
                    have hs2 := unitS_size (T.getD (a + j) tok0)
                    have HPS := Lib.hid hps
                    generalize blank (among ifs) (T.getD (a + j) tok0) = x3 at r3
                    generalize (!solid (among ifs) (T.getD (a + j) tok0)) = x2 at r2
                    generalize unitS (T.getD (a + j) tok0) = x1 at *
                    generalize hX : catU ((T.take (a + j)).drop a) = X at *
                    clear hT hps hX hbi
                    have jz : (0 : Int) ≤ (j : Int) ∧ (j : Int) < (b : Int) - (a : Int) := by omega
                    have sz : (X.size : Int) + (x1.size : Int) ≤ 4194312 := by omega
                    have hwi := HBI.out.size
                    go_wp2
                    go_roundg (b - a - (j + 1))
                    case measure => omega
                    case rel => exact ⟨j + 1, by omega, rfl, by go_num, by rw [HPS.out], HBI.out.alloc hwi _⟩
                  · obtain rfl : j = b - a := by omega
                    have q4 := (HBI.out.cell (p := ⟨g3, k, none⟩) hg3).trans (HC3.out k hlt)
                    rw [HAB.out.1, HAB.out.2] at q4
                    rw [show a + (b - a) = b by omega]
                    generalize catU ((T.take b).drop a) = X at *
                    clear hbi
                    go_wp2
                    go_roundg (C.length - (k + 1))
                    case measure => omega
                    case rel => exact ⟨k + 1, by omega, rfl, by go_num, HBI.out⟩
              · obtain rfl : k = C.length := by omega
                go_wp2
                go_ret
                exact ⟨rfl, HBZ.out.trans ((HB5.out.trans (HBR.out.mono HB5.out.size)).mono (by have := HBZ.out.size; omega))⟩

set_option maxRecDepth 100000 in
set_option maxHeartbeats 1000000 in
theorem lawW_all (line : ByteArray) (how n : Int) (raw : Bool) (w : World) (h0 : 0 ≤ how) (h1 : how ≤ 255) (hn1 : -128 ≤ n) (hn2 : n ≤ 127) (hl : line.size ≤ maxLen) (hT : Tabs w) :
    Calls Tryd.prog 3 #[.string line, .int .u8 how, .int .i8 n, .bool raw] w (Good w) := by
  unfold maxLen at hl
  by_cases hs : line.size ≤ 1048576
  · by_cases hn : n = -1 ∨ 1 ≤ n
    · exact law_main line how n raw w hs h0 h1 hn hn2 hT
    · clear hT
      by_cases hn0 : n = 0
      · subst hn0
        clear hn hn1 hn2
        go_enter Tryd.func3, Tryd.ntmps3
        go_wp2_with fail
        go_ret
        exact ⟨rfl, Below.refl _ _⟩
      · have c1 : (n == 0) = false := by simpa using hn0
        have c2 : n < -1 := by omega
        clear hn hn0
        go_enter Tryd.func3, Tryd.ntmps3
        go_wp2_with fail
        go_ret
        exact ⟨rfl, Below.refl _ _⟩
  · have hs1 : (1048576 : Int) < (line.size : Int) := by omega
    clear hT hs hn1 hn2
    go_enter Tryd.func3, Tryd.ntmps3
    go_wp2_with fail
    go_ret
    exact ⟨rfl, Below.refl _ _⟩
end Go.Proofs.YtgppbbonfbhhbaaDoor
