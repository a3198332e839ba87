/-
  Positions and comments made.
-/
import Derived.Test.YtelflagehingoaaDoorBase
import Derived.Deep.RegionWith
import Derived.RegionTactic
namespace Go.Proofs.YtelflagehingoaaDoor
open Go.RowKit

/-- Some position, in new memory. -/
def SomePos (w : World) (e : Ending) (w' : World) : Prop := ∃ x y : Int, e = .returned (.agg #[.int .u32 x, .int .u32 y]) ∧ Below w.heap.size w w'

theorem newPos_any (o l c : Int) (w : World) : Calls Tryd.prog 17 #[.int .u64 o, .int .u64 l, .int .u64 c] w (SomePos w) := by
  go_enter Tryd.func17, Tryd.ntmps17
  go_wp2
  all_goals exact bodyPost_ret (v := .agg #[.int .u32 _, .int .u32 _]) (by simp [results, Tryd.results17, go_sem]; exact ⟨rfl, rfl⟩) rfl ⟨_, _, rfl, (Below.refl _ _).alloc (Nat.le_refl _) _⟩

theorem Tryd.info35 : (Tryd.prog.info? 35).map (fun i => (i.zero, i.size, i.bytes)) = some (some (.agg #[.int .u32 0, .int .u32 0, .string ByteArray.empty]), 3, 24) := by kernel_rfl

/-- A comment: its position's two numbers, its text. -/
def comC (c : Int × Int × ByteArray) : List Value := [.int .u32 c.1, .int .u32 c.2.1, .string c.2.2]
def comCells (cs : List (Int × Int × ByteArray)) : List Value := cs.flatMap comC
def com0 : Int × Int × ByteArray := (0, 0, ByteArray.empty)

theorem neqnil23 (w : World) : (binOp .neq 23 (.slice none 0 0) (.slice none 0 0)).run Tryd.prog w = .ok (.bool false) w := by kernel_rfl
theorem neqsome23 (a : Addr) (n c : Nat) (w : World) : (binOp .neq 23 (.slice (some a) n c) (.slice none 0 0)).run Tryd.prog w = .ok (.bool true) w := by kernel_rfl

theorem comCells_len (cs : List (Int × Int × ByteArray)) : (comCells cs).length = cs.length * 3 := by
  induction cs with
  | nil => rfl
  | cons c cs ih => simp only [comCells, List.flatMap_cons, List.length_append, comC, List.length_cons, List.length_nil] at ih ⊢; omega

theorem range_add3 (n : Nat) : List.range ((n + 1) * 3) = List.range (n * 3) ++ [n * 3, n * 3 + 1, n * 3 + 2] := by
  rw [show (n + 1) * 3 = n * 3 + 1 + 1 + 1 by omega, List.range_succ, List.range_succ, List.range_succ]
  simp
theorem made3 (a b c : Value) : ∀ n, (madeCells #[a, b, c] (n * 3)).toList = (List.replicate n [a, b, c]).flatMap id
  | 0 => by simp [madeCells]
  | n + 1 => by
    have ih := made3 a b c n
    have e0 : n * 3 % 3 = 0 := by omega
    have e1 : (n * 3 + 1) % 3 = 1 := by omega
    have e2 : (n * 3 + 2) % 3 = 2 := by omega
    simp only [madeCells, Array.toList_map, Array.toList_range] at ih ⊢
    rw [range_add3, List.map_append, ih, List.replicate_succ', List.flatMap_append]
    simp [e0, e1, e2]
theorem made_coms (n : Nat) : (madeCells #[.int .u32 0, .int .u32 0, .string ByteArray.empty] (n * 3)).toList = comCells (List.replicate n com0) := by
  rw [made3]
  induction n with
  | zero => rfl
  | succ n ih =>
    rw [List.replicate_succ, List.replicate_succ, List.flatMap_cons, ih]
    rfl
theorem comCells_nil : comCells [] = [] := rfl

/-- The row of comments as far as it is made. -/
structure Made (h : Nat) (w : World) (ss : List ByteArray) (cs : List (Int × Int × ByteArray)) (wx : World) : Prop where
  row : wx.ownsRow h 35 3 (.slice (some ⟨h, 0, none⟩) ss.length ss.length) ss.length (comCells cs ++ comCells (List.replicate (ss.length - cs.length) com0))
  bel : Below h w wx
  txt : ∀ i, i < cs.length → (cs.getD i com0).2.2 = ss.getD i ByteArray.empty

theorem Made.rowG {h : Nat} {w wx : World} {ss : List ByteArray} {cs : List (Int × Int × ByteArray)} (hm : Made h w ss cs wx) {w' : World} (hb : Below wx.heap.size wx w') : Made h w ss cs w' :=
  ⟨own_call hm.row hb, hm.bel.trans (hb.mono (Nat.le_of_lt (hm.row.lt h rfl).2)), hm.txt⟩

theorem com_append (a b : List (Int × Int × ByteArray)) : comCells (a ++ b) = comCells a ++ comCells b := by simp [comCells]
theorem rest_cons (n k : Nat) (h : k < n) : comCells (List.replicate (n - k) com0) = .int .u32 0 :: .int .u32 0 :: .string ByteArray.empty :: comCells (List.replicate (n - (k + 1)) com0) := by
  rw [show n - k = (n - (k + 1)) + 1 by omega, List.replicate_succ]
  rfl

/-- The three cells that the next comment takes. -/
theorem made_room {h : Nat} {w wx : World} {ss : List ByteArray} {cs : List (Int × Int × ByteArray)} (hm : Made h w ss cs wx) (hk : cs.length < ss.length) :
    wx.cell? ⟨h, cs.length * 3, none⟩ = some (.int .u32 0) ∧ wx.cell? ⟨h, cs.length * 3 + 1, none⟩ = some (.int .u32 0) ∧ wx.cell? ⟨h, cs.length * 3 + 2, none⟩ = some (.string ByteArray.empty) ∧
    wx.frozen? ⟨h, cs.length * 3, none⟩ = false ∧ wx.frozen? ⟨h, cs.length * 3 + 1, none⟩ = false ∧ wx.frozen? ⟨h, cs.length * 3 + 2, none⟩ = false := by
  have hl := comCells_len cs
  refine ⟨?_, ?_, ?_, hm.row.frozenAt _, hm.row.frozenAt _, hm.row.frozenAt _⟩
  · rw [hm.row.cellAt _ (by omega), List.getElem?_append_right (by omega), hl, Nat.sub_self, rest_cons _ _ hk]; rfl
  · rw [hm.row.cellAt _ (by omega), List.getElem?_append_right (by omega), hl, show cs.length * 3 + 1 - cs.length * 3 = 1 by omega, rest_cons _ _ hk]; rfl
  · rw [hm.row.cellAt _ (by omega), List.getElem?_append_right (by omega), hl, show cs.length * 3 + 2 - cs.length * 3 = 2 by omega, rest_cons _ _ hk]; rfl

/-- The comments that a slice holds. -/
def ComsAt (w : World) (v : Value) (cs : List (Int × Int × ByteArray)) : Prop :=
  ∃ g cap, v = .slice (some ⟨g, 0, none⟩) cs.length cap ∧ g < w.heap.size ∧ ∀ i, i < cs.length * 3 → w.cell? ⟨g, i, none⟩ = (comCells cs)[i]?
def NewComs (ss : List ByteArray) (w : World) (e : Ending) (w' : World) : Prop :=
  ∃ v cs, e = .returned v ∧ cs.length = ss.length ∧ (∀ i, i < cs.length → (cs.getD i com0).2.2 = ss.getD i ByteArray.empty) ∧ ComsAt w' v cs ∧ Below w.heap.size w w'

theorem made_done {h : Nat} {w wr : World} {ss : List ByteArray} {cs : List (Int × Int × ByteArray)} (hm : Made h w ss cs wr) (hk : cs.length = ss.length) (hh : w.heap.size = h) : NewComs ss w (.returned (.slice (some ⟨h, 0, none⟩) ss.length ss.length)) wr := by
  have hr := hm.row
  have hl := comCells_len cs
  rw [show ss.length - cs.length = 0 by omega, List.replicate_zero, comCells_nil, List.append_nil] at hr
  exact ⟨_, cs, rfl, hk, hm.txt, ⟨h, ss.length, by rw [hk], (hr.lt h rfl).2, fun i hi => hr.cellAt i (by omega)⟩, by rw [hh]; exact hm.bel⟩

theorem set3 (us rest : List Value) (k : Nat) (a b c x y z : Value) (hl : us.length = k * 3) :
    (((us ++ a :: b :: c :: rest).set (k * 3) x).set (k * 3 + 1) y).set (k * 3 + 2) z = us ++ [x, y, z] ++ rest := by
  rw [List.set_append_right _ _ (by omega), hl, Nat.sub_self, List.set_append_right _ _ (by omega), hl, List.set_append_right _ _ (by omega), hl, show k * 3 + 1 - k * 3 = 1 by omega, show k * 3 + 2 - k * 3 = 2 by omega]
  simp

theorem Made.push {h k : Nat} {w wr : World} {ss : List ByteArray} {cs : List (Int × Int × ByteArray)} (hm : Made h w ss cs wr) (hk : cs.length = k) (hlt : k < ss.length) {w5 : World} (hb : Below wr.drew.heap.size wr.drew w5) (x y : Int) (s : ByteArray) (hs : ss.getD k ByteArray.empty = s) :
    Made h w ss (cs ++ [(x, y, s)]) (((w5.setCell ⟨h, k * 3, none⟩ (.int .u32 x)).setCell ⟨h, k * 3 + 1, none⟩ (.int .u32 y)).setCell ⟨h, k * 3 + 2, none⟩ (.string s)) := by
  have hb1 : Below wr.heap.size wr w5 := ((Below.refl _ _).drew).trans hb
  have hm5 := hm.rowG hb1
  have hl := comCells_len cs
  refine ⟨?_, ((hm5.bel.setCell (Nat.le_refl _) _).setCell (Nat.le_refl _) _).setCell (Nat.le_refl _) _, fun i hi => ?_⟩
  · have h3 := ((((hm5.row.stored (k * 3) (.int .u32 x)).1).stored (k * 3 + 1) (.int .u32 y)).1.stored (k * 3 + 2) (.string s)).1
    rw [rest_cons _ _ (by omega), set3 _ _ _ _ _ _ _ _ _ (by omega)] at h3
    rw [com_append, List.length_append]
    exact hk ▸ h3
  · rw [List.length_append, List.length_singleton] at hi
    by_cases e : i < cs.length
    · have := hm.txt i e
      simpa [List.getD, List.getElem?_append_left e] using this
    · obtain rfl : i = cs.length := by omega
      rw [hk, hs]
      simp [List.getD, hk]

set_option maxRecDepth 100000 in
set_option maxHeartbeats 2000000 in
theorem comments_nil (vT vL : Value) (ss : List ByteArray) (zs : List Int) (w : World) (hl : ss.length ≤ 65536) (hz : zs.length = ss.length) (hT : StrsAt w vT ss) (hL : NumsAt w vL zs) : Calls Tryd.prog 9 #[vT, vL, .slice none 0 0] w (NewComs ss w) := by
  obtain ⟨i2, hi2, hx0, hx1, hx2⟩ := info_parts Tryd.info35
  obtain ⟨aT, capT, rfl, hT⟩ := hT
  obtain ⟨aL, capL, rfl, hL⟩ := hL
  have HT := Lib.hid hT
  have HL := Lib.hid hL
  clear hT hL
  have n1 := neqnil23
  have hlz : (0 : Int) ≤ (ss.length : Int) ∧ (ss.length : Int) ≤ 65536 := by omega
  go_enter Tryd.func9, Tryd.ntmps9
  go_wp2_with (first
    | (at_make; refine wpList_make_full _ rfl _ _ 28 rfl w.heap.size 35 i2 (.agg #[.int .u32 0, .int .u32 0, .string ByteArray.empty]) 3 Tryd.underlying28 hi2 hx0 hx1 _ _ _ _ ss.length rfl rfl rfl rfl (by rw [hx2]; omega) (by unfold maxLen; omega) (Nat.le_refl _) ?_; intro wm hown2 hgrow2))
  obtain ⟨hb0, hh⟩ : ∃ hb0, w.heap.size = hb0 := ⟨_, rfl⟩
  have hfill : Made hb0 w ss [] wm := ⟨by rw [← hh]; simpa [Value.cells, made_coms, comCells_nil] using hown2, by rw [← hh]; exact (Below.refl _ _).grown hgrow2 (Nat.le_refl _) (by simp), fun i hi => absurd hi (by simp)⟩
  clear hown2 hgrow2
  have HFI := Lib.hid hfill
  have HHB := Lib.hid hh
  clear hfill
  rw [hh]
  clear hh
  go_loopg [8, 9] ss.length (fun gk s8 _s9 wx => ∃ (k : Nat) (cs : List (Int × Int × ByteArray)), k ≤ ss.length ∧ gk = ss.length - k ∧ s8 = .int .i64 k ∧ cs.length = k ∧ Made hb0 w ss cs wx)
  case atStart => exact ⟨0, [], Nat.zero_le _, rfl, rfl, rfl, HFI.out⟩
  case round =>
    obtain ⟨k, cs, hk, rfl, rfl, hcs, hF⟩ := hrel
    clear HFI
    have HF := Lib.hid hF
    have HCS := Lib.hid hcs
    clear hF hcs
    by_cases hlt : k < ss.length
    · have hkz : (k : Int) < (ss.length : Int) := by omega
      obtain ⟨bT, oT, hea, hbT, hcT⟩ := some_str HT.out hlt
      obtain ⟨bL, oL, heb, hbL, hcL⟩ := some_num HL.out (by rw [hz]; exact hlt)
      subst hea heb
      have hcT1 := (HF.out.bel.cell (p := ⟨bT, oT + k, none⟩) (by rw [← HHB.out]; exact hbT)).trans hcT
      have hcL1 := (HF.out.bel.cell (p := ⟨bL, oL + k, none⟩) (by rw [← HHB.out]; exact hbL)).trans hcL
      obtain ⟨h0, h1, h2, hf0, hf1, hf2⟩ := made_room HF.out (by rw [HCS.out]; exact hlt)
      rw [HCS.out] at h0 h1 h2 hf0 hf1 hf2
      clear hcT hcL
      obtain ⟨s, hs⟩ : ∃ s, ss.getD k ByteArray.empty = s := ⟨_, rfl⟩
      rw [hs] at hcT1
      have HS := Lib.hid hs
      clear hs
      generalize zs.getD k 0 = z at *
      have hzl : (k : Int) < (zs.length : Int) := by omega
      go_wp2
      go_region_with (go_at_call 17; refine (newPos_any _ _ _ _).mono ?_; rintro e w5 ⟨x, y, rfl, hb5⟩; have g1 := (hb5.cell (World.block_lt_of_cell? _ _ hcT1)).trans hcT1; have g2 := (hb5.cell (World.block_lt_of_cell? _ _ h0)).trans h0; have g3 := (hb5.cell (World.block_lt_of_cell? _ _ h1)).trans h1; have g4 := (hb5.cell (World.block_lt_of_cell? _ _ h2)).trans h2; have g5 := (hb5.frozen (World.block_lt_of_cell? _ _ h0)).trans hf0; have g6 := (hb5.frozen (World.block_lt_of_cell? _ _ h1)).trans hf1; have g7 := (hb5.frozen (World.block_lt_of_cell? _ _ h2)).trans hf2)
      all_goals
        go_wp2
        go_roundg (ss.length - (k + 1))
        case measure => omega
        case rel =>
          exact ⟨k + 1, cs ++ [(x, y, s)], by omega, rfl, by first | rfl | simp, by simp [HCS.out], HF.out.push HCS.out hlt hb5 x y s HS.out⟩
    · obtain rfl : k = ss.length := by omega
      go_wp2
      go_ret
      exact made_done HF.out HCS.out HHB.out
end Go.Proofs.YtelflagehingoaaDoor
