/-
  The model's small functions: among, solid, white space, tokens, text.
-/
import Derived.Test.YtjoceojknhipoaaGreatDoorScan
import Derived.Deep.LoopGhost
namespace Go.Proofs.YtjoceojknhipoaaGreatDoor
open Go.RowKit Rf

/-- A token. -/
structure Tok where
  r : Int
  lit : Bool
  empty : Bool

def Tok.val (t : Tok) : Value := .agg #[.int .i32 t.r, .bool t.lit, .bool t.empty]
def Tok.cells (t : Tok) : List Value := [.int .i32 t.r, .bool t.lit, .bool t.empty]

def toks (raw : Bool) : List Int → List Tok
  | [] => []
  | [r] => if (!raw && r == 92) = true then [⟨0, true, true⟩] else [⟨r, false, false⟩]
  | r :: x :: rs => if (!raw && r == 92) = true then ⟨x, true, false⟩ :: toks raw rs else ⟨r, false, false⟩ :: toks raw (x :: rs)

def solid (sep : Int → Bool) (t : Tok) : Bool := t.lit || !sep t.r

theorem inSet_any (rs : List Int) (g c : Nat) (r : Int) (w : World) (hl : rs.length ≤ 65536) (hc : ∀ k, k < rs.length → w.cell? ⟨g, k, none⟩ = some (.int .i32 (rs.getD k 0))) :
    Calls Tryz.prog 33 #[.slice (some ⟨g, 0, none⟩) rs.length c, .int .i32 r] w fun e w' => e = .returned (.bool (rs.contains r)) ∧ w = w' := by
  have HC := Lib.hid hc
  clear hc
  go_enter Tryz.func33, Tryz.ntmps33
  go_wp2
  go_loopg [5] rs.length (fun gk s5 wr => w = wr ∧ ∃ k : Nat, k ≤ rs.length ∧ gk = rs.length - k ∧ s5 = .int .i64 k ∧ Hid (rs.contains r = (rs.drop k).contains r))
  case atStart => exact ⟨rfl, 0, Nat.zero_le _, rfl, rfl, Lib.hid rfl⟩
  case round =>
    obtain ⟨rfl, k, hk, rfl, rfl, hso⟩ := hrel
    by_cases hlt : k < rs.length
    · have hkz : (k : Int) < (rs.length : Int) := by omega
      have hcell := HC.out k hlt
      have hd : rs.drop k = rs.getD k 0 :: rs.drop (k + 1) := by rw [List.drop_eq_getElem_cons hlt]; simp [List.getD, hlt]
      have HD := Lib.hid hd
      clear hd
      generalize hx : rs.getD k 0 = x at *
      cases hxr : (x == r)
      · go_wp2
        go_roundg (rs.length - (k + 1))
        case measure => omega
        case rel => exact ⟨rfl, k + 1, by omega, rfl, rfl, Lib.hid (by rw [hso.out, HD.out, List.contains_cons, show (r == x) = (x == r) from Bool.beq_comm .., hxr]; rfl)⟩
      · go_wp2
        go_ret
        exact ⟨by rw [hso.out, HD.out, List.contains_cons, show (r == x) = (x == r) from Bool.beq_comm .., hxr]; rfl, rfl⟩
    · obtain rfl : k = rs.length := by omega
      go_wp2
      go_ret
      exact ⟨by rw [hso.out, List.drop_length]; rfl, rfl⟩

theorem solid_any (t : Tok) (rs : List Int) (g c : Nat) (w : World) (hl : rs.length ≤ 65536) (hc : ∀ k, k < rs.length → w.cell? ⟨g, k, none⟩ = some (.int .i32 (rs.getD k 0))) :
    Calls Tryz.prog 21 #[t.val, .slice (some ⟨g, 0, none⟩) rs.length c] w fun e w' => e = .returned (.bool (solid (fun r => rs.contains r) t)) ∧ Below w.heap.size w w' := by
  obtain ⟨r, lit, em⟩ := t
  have hin : ∀ o : Obj, Calls Tryz.prog 33 #[.slice (some ⟨g, 0, none⟩) rs.length c, .int .i32 r] (w.alloc o) fun e w' => e = .returned (.bool (rs.contains r)) ∧ w.alloc o = w' := fun o =>
    inSet_any rs g c r (w.alloc o) hl (fun k hk => by rw [World.cell?_alloc_past _ _ _ (World.block_lt_of_cell? w _ (hc k hk))]; exact hc k hk)
  obtain ⟨bb, hbb⟩ : ∃ bb, rs.contains r = bb := ⟨_, rfl⟩
  have key : solid (fun r => rs.contains r) ⟨r, lit, em⟩ = (lit || !bb) := by rw [← hbb]; rfl
  rw [key]
  simp only [hbb] at hin
  have HIN := Lib.hid hin
  clear hin hc hbb key
  unfold Tok.val
  cases lit
  · go_enter Tryz.func21, Tryz.ntmps21
    go_wp2_with (go_at_call 33; refine (HIN.out _).mono ?_; rintro e w' ⟨rfl, hw⟩; subst w')
    go_ret
    exact ⟨by simp, (Below.refl _ w).alloc (Nat.le_refl _) _⟩
  · go_enter Tryz.func21, Tryz.ntmps21
    go_wp2
    go_ret
    exact ⟨rfl, (Below.refl _ w).alloc (Nat.le_refl _) _⟩

theorem Tryz.info_tok : (Tryz.prog.info? 63).map (fun i => (i.zero, i.size, i.bytes)) = some (some (.agg #[.int .i32 0, .bool false, .bool false]), 3, 8) := by kernel_rfl

def tokCells (ts : List Tok) : List Value := ts.flatMap Tok.cells
theorem tokCells_snoc (ts : List Tok) (t : Tok) : tokCells (ts ++ [t]) = tokCells ts ++ t.cells := by simp [tokCells]
theorem tokCells_length (ts : List Tok) : (tokCells ts).length = 3 * ts.length := by
  induction ts with
  | nil => rfl
  | cons a l ih => simp only [tokCells, List.flatMap_cons, List.length_append, List.length_cons] at ih ⊢; rw [ih]; simp [Tok.cells]; omega
theorem tokCells_get : ∀ (ts : List Tok) (k : Nat) (d : Tok), k < ts.length →
    (tokCells ts)[k * 3]? = some (.int .i32 (ts.getD k d).r) ∧ (tokCells ts)[k * 3 + 1]? = some (.bool (ts.getD k d).lit) ∧ (tokCells ts)[k * 3 + 2]? = some (.bool (ts.getD k d).empty)
  | [], k, _, h => by simp at h
  | t :: ts, 0, _, _ => by simp [tokCells, Tok.cells]
  | t :: ts, k + 1, d, h => by
    have ih := tokCells_get ts k d (by simpa using h)
    have e : tokCells (t :: ts) = t.cells ++ tokCells ts := rfl
    have hl : t.cells.length = 3 := rfl
    rw [e, List.getElem?_append_right (by omega), List.getElem?_append_right (by omega), List.getElem?_append_right (by omega), hl, show (k + 1) * 3 - 3 = k * 3 by omega, show (k + 1) * 3 + 1 - 3 = k * 3 + 1 by omega, show (k + 1) * 3 + 2 - 3 = k * 3 + 2 by omega]
    simpa using ih

theorem three_new (w : World) (x y z : Value) (e : TypeId) (j : Nat) (u : Value) (h : [x, y, z][j]? = some u) : (w.alloc (.cells #[x, y, z] e)).cell? ((⟨w.heap.size, 0, none⟩ : Addr).add j) = some u := by
  match j, h with
  | 0, h => simp at h; subst h; rw [show (⟨w.heap.size, 0, none⟩ : Addr).add 0 = ⟨w.heap.size, 0, none⟩ from rfl]; exact cell_of_row _ _ 0 #[x, y, z] e (0, 0) (heap_alloc_new w _)
  | 1, h => simp at h; subst h; rw [show (⟨w.heap.size, 0, none⟩ : Addr).add 1 = ⟨w.heap.size, 1, none⟩ from rfl]; exact cell_of_row _ _ 1 #[x, y, z] e (0, 0) (heap_alloc_new w _)
  | 2, h => simp at h; subst h; rw [show (⟨w.heap.size, 0, none⟩ : Addr).add 2 = ⟨w.heap.size, 2, none⟩ from rfl]; exact cell_of_row _ _ 2 #[x, y, z] e (0, 0) (heap_alloc_new w _)
  | j + 3, h => simp at h

theorem toks_plain (raw : Bool) (r : Int) (rs : List Int) (h : (!raw && r == 92) = false) : toks raw (r :: rs) = ⟨r, false, false⟩ :: toks raw rs := by
  cases rs <;> simp only [toks, h, Bool.false_eq_true, if_false]
theorem toks_esc (raw : Bool) (r x : Int) (rs : List Int) (h : (!raw && r == 92) = true) : toks raw (r :: x :: rs) = ⟨x, true, false⟩ :: toks raw rs := by
  simp only [toks, h, if_true]
theorem toks_last (raw : Bool) (r : Int) (h : (!raw && r == 92) = true) : toks raw [r] = [⟨0, true, true⟩] := by
  simp only [toks, h, if_true]
theorem toks_nil (raw : Bool) : toks raw [] = [] := rfl

def TokOut (raw : Bool) (rs : List Int) (w : World) (e : Ending) (w' : World) : Prop :=
  ∃ g c, e = .returned (.slice (some ⟨g, 0, none⟩) (toks raw rs).length c) ∧ w'.ownsRow w.heap.size 63 3 (.slice (some ⟨g, 0, none⟩) (toks raw rs).length c) (toks raw rs).length (tokCells (toks raw rs)) ∧ Below w.heap.size w w'

/-- Where the loop over the runes stands. -/
structure TokMem (raw : Bool) (rs : List Int) (w : World) (i : Nat) (ts : List Tok) (v : Value) (wr : World) : Prop where
  own : wr.ownsRow w.heap.size 63 3 v ts.length (tokCells ts)
  nn : v ≠ .slice none 0 0
  bel : Below w.heap.size w wr
  eq : ts ++ toks raw (rs.drop i) = toks raw rs
  len : ts.length ≤ i

theorem tokMem_push {raw : Bool} {rs : List Int} {w wr w1 : World} {i j : Nat} {ts : List Tok} {v v1 : Value} (h : TokMem raw rs w i ts v wr) (o : Obj) (t : Tok) (hown : w1.ownsRow w.heap.size 63 3 v1 (ts.length + 1) (tokCells ts ++ t.cells)) (hg : (wr.alloc o).grownBy w1 v.ownBlock)
    (hn : v1 = .slice none 0 0 ↔ v = .slice none 0 0 ∧ 1 = 0) (he : toks raw (rs.drop i) = t :: toks raw (rs.drop j)) (hj : i + 1 ≤ j) : TokMem raw rs w j (ts ++ [t]) v1 w1 where
  own := by rw [tokCells_snoc, List.length_append]; exact hown
  nn := fun e => by have := hn.1 e; omega
  bel := (h.bel.alloc h.bel.size o).grown hg (by have := h.bel.size; simp; omega) (fun k hk => (h.own.lt k hk).1)
  eq := by rw [← h.eq, he]; simp
  len := by have := h.len; simp; omega

set_option maxRecDepth 100000 in
set_option maxHeartbeats 1000000 in
theorem tokens_any (rs : List Int) (raw : Bool) (g c : Nat) (w : World) (hl : rs.length ≤ 65536) (hc : ∀ k, k < rs.length → w.cell? ⟨g, k, none⟩ = some (.int .i32 (rs.getD k 0))) :
    Calls Tryz.prog 20 #[.slice (some ⟨g, 0, none⟩) rs.length c, .bool raw] w (TokOut raw rs w) := by
  obtain ⟨i3, hi3, hz0, hz1, hz2⟩ := info_parts Tryz.info_tok
  have HC := Lib.hid hc
  clear hc
  go_enter Tryz.func20, Tryz.ntmps20
  go_wp2_with (first
    | (at_make; refine wpList_make_own _ rfl _ _ 58 rfl w.heap.size 63 i3 (.agg #[.int .i32 0, .bool false, .bool false]) 3 Tryz.underlying58 hi3 hz0 hz1 _ _ _ rs.length rfl rfl (by omega) (by rw [hz2]; omega) (by unfold maxLen; omega) (Nat.le_refl _) ?_; intro w1 hown1 hgrow1))
  have hst : TokMem raw rs w 0 [] (.slice (some ⟨w.heap.size, 0, none⟩) 0 rs.length) w1 := ⟨hown1, by simp, (Below.refl _ w).grown hgrow1 (Nat.le_refl _) (by simp), rfl, Nat.le_refl _⟩
  have HST := Lib.hid hst
  clear hst hown1 hgrow1
  go_loopg [5, 6] rs.length (fun gk s5 s6 wr => ∃ (i : Nat) (ts : List Tok) (v : Value), i ≤ rs.length ∧ gk = rs.length - i ∧ v = s5 ∧ s6 = .int .i64 i ∧ TokMem raw rs w i ts v wr)
  case atStart => exact ⟨0, [], _, Nat.zero_le _, rfl, rfl, rfl, HST.out⟩
  case round =>
    obtain ⟨i, ts, v, hi, rfl, rfl, rfl, hm⟩ := hrel
    clear HST
    have HM := Lib.hid hm
    have hzr := hm.bel.size
    have htl := hm.len
    clear hm
    by_cases hlt : i < rs.length
    · have hcw : ∀ k, k < rs.length → wr.cell? ⟨g, k, none⟩ = some (.int .i32 (rs.getD k 0)) := fun k hk => (HM.out.bel.cell (World.block_lt_of_cell? w _ (HC.out k hk))).trans (HC.out k hk)
      have hce := hcw i hlt
      have hd : ∀ k, k < rs.length → rs.drop k = rs.getD k 0 :: rs.drop (k + 1) := fun k hk => by rw [List.drop_eq_getElem_cons hk]; simp [List.getD, hk]
      have HD := Lib.hid hd
      have HCW := Lib.hid hcw
      have hiz : (i : Int) < (rs.length : Int) := by omega
      have hib : (0 : Int) ≤ (i : Int) ∧ (i : Int) ≤ 65536 := by omega
      obtain ⟨r, hr⟩ : ∃ r : Int, rs.getD i 0 = r := ⟨_, rfl⟩
      rw [hr] at hce
      have HRR := Lib.hid hr
      clear hd hcw hr
      have hcase : raw = true ∨ (raw = false ∧ (r == 92) = false) ∨ (raw = false ∧ (r == 92) = true) := by cases raw <;> cases (r == 92) <;> simp
      by_cases hesc : (!raw && r == 92) = true
      · have h92 : (r == 92) = true := by revert hesc; cases raw <;> simp
        have hraw : raw = false := by revert hesc; cases raw <;> simp
        subst hraw
        by_cases hn : i + 1 < rs.length
        · have hnz : (i : Int) + 1 < (rs.length : Int) := by omega
          have hcn := HCW.out (i + 1) hn
          obtain ⟨x, hx⟩ : ∃ x : Int, rs.getD (i + 1) 0 = x := ⟨_, rfl⟩
          rw [hx] at hcn
          have HX := Lib.hid hx
          clear hx hcase
          go_wp2_with (first
            | (at_builtin; refine wpList_append_own _ rfl _ _ 58 rfl w.heap.size 63 i3 (.agg #[.int .i32 0, .bool false, .bool false]) 3 8 Tryz.underlying58 hi3 hz0 hz1 hz2 rfl (by decide) _ _ _ rfl (HM.out.own.alloc _) ⟨wr.heap.size, 0, none⟩ 1 1 [.int .i32 x, .bool true, .bool false] rfl rfl (three_new _ _ _ _ _) (by intro u hu; simp at hu; rcases hu with rfl | rfl | rfl <;> rfl) (by unfold maxLen; omega) (by omega) (by simp; omega) ?_; intro v1 w3 hown3 hgrow3 hnil3))
          go_roundg (rs.length - (i + 2))
          case measure => omega
          case rel => exact ⟨i + 2, _, _, by omega, rfl, rfl, by first | rfl | simp, tokMem_push HM.out _ ⟨x, true, false⟩ hown3 hgrow3 hnil3 (by rw [HD.out i hlt, HD.out (i + 1) hn, HRR.out, HX.out, toks_esc _ _ _ _ hesc]) (by omega)⟩
        · have hnz : ¬ (i : Int) + 1 < (rs.length : Int) := by omega
          clear hcase
          go_wp2_with (first
            | (at_builtin; refine wpList_append_own _ rfl _ _ 58 rfl w.heap.size 63 i3 (.agg #[.int .i32 0, .bool false, .bool false]) 3 8 Tryz.underlying58 hi3 hz0 hz1 hz2 rfl (by decide) _ _ _ rfl (HM.out.own.alloc _) ⟨wr.heap.size, 0, none⟩ 1 1 [.int .i32 0, .bool true, .bool true] rfl rfl (three_new _ _ _ _ _) (by intro u hu; simp at hu; rcases hu with rfl | rfl | rfl <;> rfl) (by unfold maxLen; omega) (by omega) (by simp; omega) ?_; intro v1 w3 hown3 hgrow3 hnil3))
          go_roundg (rs.length - (i + 1))
          case measure => omega
          case rel => exact ⟨i + 1, _, _, by omega, rfl, rfl, by first | rfl | simp, tokMem_push HM.out _ ⟨0, true, true⟩ hown3 hgrow3 hnil3 (by rw [HD.out i hlt, HRR.out, List.drop_eq_nil_of_le (show rs.length ≤ i + 1 by omega), toks_last _ _ hesc, toks_nil]) (by omega)⟩
      · have hesc' : (!raw && r == 92) = false := by simpa using hesc
        clear hesc
        rcases hcase with hraw | ⟨hraw, h92⟩ | ⟨hraw, h92⟩
        case' inl => subst hraw
        case' inr.inl => subst hraw
        case' inr.inr => exact absurd hesc' (by rw [hraw, h92]; simp)
        all_goals
          go_wp2_with (first
            | (at_builtin; refine wpList_append_own _ rfl _ _ 58 rfl w.heap.size 63 i3 (.agg #[.int .i32 0, .bool false, .bool false]) 3 8 Tryz.underlying58 hi3 hz0 hz1 hz2 rfl (by decide) _ _ _ rfl (HM.out.own.alloc _) ⟨wr.heap.size, 0, none⟩ 1 1 [.int .i32 r, .bool false, .bool false] rfl rfl (three_new _ _ _ _ _) (by intro u hu; simp at hu; rcases hu with rfl | rfl | rfl <;> rfl) (by unfold maxLen; omega) (by omega) (by simp; omega) ?_; intro v1 w3 hown3 hgrow3 hnil3))
          go_roundg (rs.length - (i + 1))
          case measure => omega
          case rel => exact ⟨i + 1, _, _, by omega, rfl, rfl, by first | rfl | simp, tokMem_push HM.out _ ⟨r, false, false⟩ hown3 hgrow3 hnil3 (by rw [HD.out i hlt, HRR.out, toks_plain _ _ _ hesc']) (by omega)⟩
    · obtain rfl : i = rs.length := by omega
      go_wp2
      go_ret
      have he := HM.out.eq
      rw [List.drop_length, toks_nil, List.append_nil] at he
      subst he
      obtain ⟨g2, c2, rfl⟩ := own_some HM.out.own HM.out.nn
      exact ⟨g2, c2, rfl, HM.out.own, HM.out.bel⟩
end Go.Proofs.YtjoceojknhipoaaGreatDoor
