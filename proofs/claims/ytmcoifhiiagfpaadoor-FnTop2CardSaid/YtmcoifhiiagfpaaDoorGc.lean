/-
  strconv.ParseInt and Word.Lit at what brace splitting hands them.
  Word.Lit at a finished word.
  Does some literal of the word hold an opening brace?
  slices.ContainsFunc at the word's parts.
  append of a whole row, empty or nil too, as one step of a region that draws; the state behind it.
  Parts appended to any word under construction. No walk here.
  What SplitBraces holds where its loop begins, and at its end. No walk here.
  How great the plain state of brace splitting can grow. No walk here.
-/
import Derived.Test.YtmcoifhiiagfpaaDoorShelf
import Derived.Test.YtmcoifhiiagfpaaDoorGb
import Derived.Laws.OwnMore
import Derived.Maps.AppendAt
import Derived.Test.YtmcoifhiiagfpaaDoorGa
namespace Go.Proofs.YtmcoifhiiagfpaaDoor
open Go.RowKit

/-- strconv's two errors lie in their variables. -/
def Errs (w : World) : Prop := (∃ ev, w.cell? ⟨0, 0, none⟩ = some ev ∧ (ev = .nilIface ∨ ∃ te pe, ev = .iface te pe)) ∧ (∃ ev, w.cell? ⟨1, 0, none⟩ = some ev ∧ (ev = .nilIface ∨ ∃ te pe, ev = .iface te pe))
theorem Errs.below {w w' : World} {C : Nat} (h : Errs w) (hb : Below C w w') (h1 : 0 < C) (h2 : 1 < C) : Errs w' := by
  obtain ⟨⟨e1, a1, b1⟩, ⟨e2, a2, b2⟩⟩ := h
  exact ⟨⟨e1, (hb.cell (p := ⟨0, 0, none⟩) h1).trans a1, b1⟩, ⟨e2, (hb.cell (p := ⟨1, 0, none⟩) h2).trans a2, b2⟩⟩

/-- What ParseInt hands back of its error: nil for an int64 in decimal, else none. -/
def NumOut (s : ByteArray) (w : World) (e : Ending) (w' : World) : Prop :=
  (∃ v er, e = .returned (.tuple #[.int .i64 v, er]) ∧ ((isNum s = true ∧ er = .nilIface) ∨ (isNum s = false ∧ ∃ t q, er = .iface t (.pointer (some ⟨q, 0, none⟩))))) ∧ Below w.heap.size w w'

theorem parse_any (s : ByteArray) (w : World) (hs : s.size ≤ 100000000) (hE : Errs w) :
    Calls Tryd.prog 31 #[.string s, .int .i64 10, .int .i64 64] w (NumOut s w) := by
  obtain ⟨⟨e1, a1, b1⟩, ⟨e2, a2, b2⟩⟩ := hE
  rcases hp : Lib.parseIntB 64 s.data.toList with v | _ | _
  ·
    refine (Tryd.strconv_ParseInt_10_at64_ok s (by omega) v hp w).mono ?_
    rintro e w' ⟨rfl, hw⟩
    refine ⟨⟨v, .nilIface, rfl, Or.inl ⟨by unfold isNum; rw [hp], rfl⟩⟩, ?_⟩
    rcases hw with rfl | ⟨t, rfl⟩
    · exact Below.refl _ _
    · exact Lib.bytesWorld_below _ _ _
  ·
    refine (Tryd.strconv_ParseInt_10_at64_syntax s (by omega) hp e1 w a1 b1).mono ?_
    rintro e w' ⟨q, rfl, _, _, hb⟩
    exact ⟨⟨_, _, rfl, Or.inr ⟨by unfold isNum; rw [hp], _, q, rfl⟩⟩, hb⟩
  ·
    refine (Tryd.strconv_ParseInt_10_at64_range s (by omega) hp e2 w a2 b2).mono ?_
    rintro e w' ⟨q, rfl, _, _, hb⟩
    exact ⟨⟨_, _, rfl, Or.inr ⟨by unfold isNum; rw [hp], _, q, rfl⟩⟩, hb⟩
end Go.Proofs.YtmcoifhiiagfpaaDoor

namespace Go.Proofs.YtmcoifhiiagfpaaDoor
open Go.RowKit

theorem assert_no (t : TypeId) (x : Value) (ht : t ≠ 67) (w : World) : (Instr.typeAssert (.iface t x) 72 67 true).run Tryd.prog w = .ok (.tuple #[.pointer none, .bool false]) w := by
  simp [Instr.typeAssert, run_underlying Tryd.underlying67, ht, Result.andThen]
theorem assert_yes (x : Value) (w : World) : (Instr.typeAssert (.iface 67 x) 72 67 true).run Tryd.prog w = .ok (.tuple #[x, .bool true]) w := by
  simp [Instr.typeAssert, run_underlying Tryd.underlying67, Result.andThen]

/-- The texts, if all parts are literals. -/
def lits : List Part → Option (List ByteArray)
  | [] => some []
  | .lit s :: r => (lits r).map (s :: ·)
  | _ :: _ => none
theorem litText_lits : ∀ ps : List Part, litText ps = (lits ps).map fun l => l.flatMap fun s => s.data.toList
  | [] => rfl
  | .lit s :: r => by
    simp only [litText, lits, litText_lits r, Option.map_map]
    cases lits r <;> simp
  | .brace _ _ :: _ => rfl
  | .other _ _ :: _ => rfl
theorem join_empty (l : List ByteArray) : Lib.join (l.map (·.data.toList)) [] = l.flatMap fun s => s.data.toList := by
  cases l with
  | nil => rfl
  | cons a r =>
    rw [List.map_cons, Lib.join_cons]
    simp only [Lib.joinTail, List.flatMap_cons, List.map_map]
    rfl
theorem lits_snoc : ∀ (ps : List Part) (xs : List ByteArray) (s : ByteArray), lits ps = some xs → lits (ps ++ [.lit s]) = some (xs ++ [s])
  | [], xs, s, h => by cases h; rfl
  | .lit a :: r, xs, s, h => by
    simp only [lits, Option.map_eq_some_iff] at h
    obtain ⟨ys, hy, rfl⟩ := h
    simp [lits, lits_snoc r ys s hy]
theorem lits_none : ∀ (ps qs : List Part) (p : Part), (∀ s, p ≠ .lit s) → lits (ps ++ p :: qs) = none
  | [], qs, p, h => by
    cases p with
    | lit s => exact absurd rfl (h s)
    | brace _ _ => rfl
    | other _ _ => rfl
  | .lit a :: r, qs, p, h => by simp [lits, lits_none r qs p h]
  | .brace _ _ :: _, _, _, _ => rfl
  | .other _ _ :: _, _, _, _ => rfl
/-- The bytes of all literals. -/
def weight : List Part → Nat
  | [] => 0
  | .lit s :: r => s.size + weight r
  | _ :: r => weight r
theorem lits_weight : ∀ (ps : List Part) (xs : List ByteArray), lits ps = some xs → (xs.flatMap fun s => s.data.toList).length = weight ps ∧ xs.length = ps.length
  | [], xs, h => by cases h; exact ⟨rfl, rfl⟩
  | .lit a :: r, xs, h => by
    simp only [lits, Option.map_eq_some_iff] at h
    obtain ⟨ys, hy, rfl⟩ := h
    obtain ⟨h1, h2⟩ := lits_weight r ys hy
    have e : a.data.toList.length = a.size := by rw [Array.length_toList]; rfl
    rw [List.flatMap_cons, List.length_append, h1, e]
    exact ⟨rfl, by simp [h2]⟩

theorem PartsAt.at_ {w : World} {L : Nat → Prop} : ∀ {vs : List Value} {ps : List Part}, PartsAt w L vs ps → ∀ k, k < ps.length → ∃ v p, vs[k]? = some v ∧ ps[k]? = some p ∧ PartAt w L v p
  | [], _, .nil, k, hk => absurd hk (by simp)
  | _ :: _, _, .cons v p _ _ h1 h2, 0, _ => ⟨v, p, rfl, rfl, h1⟩
  | _ :: _, _, .cons v p _ _ h1 h2, k + 1, hk => by
    obtain ⟨a, b, e1, e2, e3⟩ := h2.at_ k (by simpa using hk)
    exact ⟨a, b, e1, e2, e3⟩

theorem Tryd.info_str : (Tryd.prog.info? 9).map (fun i => (i.zero, i.size, i.bytes)) = some (some (.string ⟨#[]⟩), 1, 16) := by kernel_rfl

set_option maxRecDepth 100000 in
set_option maxHeartbeats 2000000 in
theorem lit_any (w : World) (L : Nat → Prop) (p : Nat) (v : Value) (vals : List Value) (ps : List Part) (hb : w.heap[p]? = some (.cells #[v] 40 (0, 0))) (hr : RowAt w L v vals) (hp : PartsAt w L vals ps) (hn : ps.length ≤ 100000000) (hw : weight ps ≤ 100000000) :
    Calls Tryd.prog 30 #[ptr p] w fun e w' => e = .returned (.string (litOf ps)) ∧ Below w.heap.size w w' := by
  obtain ⟨ib, hib, hb0, hb1, hb2⟩ := info_parts Tryd.info_str
  have hlen := hp.length
  have cb : w.cell? ⟨p, 0, none⟩ = some v := by rw [Lib.cell_of_heap hb]; rfl
  have hpl : p < w.heap.size := (Array.getElem?_eq_some_iff.1 hb).1
  obtain ⟨a0, cap0, hv, hcell⟩ : ∃ (a0 : Option Addr) (cap0 : Nat), v = .slice a0 ps.length cap0 ∧ ∀ k u, vals[k]? = some u → ∃ g, a0 = some ⟨g, 0, none⟩ ∧ g < w.heap.size ∧ w.cell? ⟨g, k, none⟩ = some u := by
    rcases hr with ⟨rfl, hv0⟩ | ⟨g, cap, cur, rfl, hL, hg, ht⟩
    · subst hv0
      exact ⟨none, 0, by rw [← hlen]; rfl, fun k u h => by simp at h⟩
    · refine ⟨some ⟨g, 0, none⟩, cap, by rw [hlen], fun k u h => ⟨g, rfl, (Array.getElem?_eq_some_iff.1 hg).1, ?_⟩⟩
      rw [Lib.cell_of_heap hg]
      have hk : k < vals.length := (List.getElem?_eq_some_iff.1 h).1
      have h2 : (cur.toList.take vals.length)[k]? = some u := by rw [ht]; exact h
      rw [List.getElem?_take_of_lt hk] at h2
      simpa using h2
  subst hv
  have HC := Lib.hid hcell
  have HP := Lib.hid hp
  have HN := Lib.hid (And.intro hn hw)
  have hnz : (ps.length : Int) ≤ 100000000 := by omega
  clear hb hr hp hcell hlen hn hw
  unfold ptr
  go_enter Tryd.func30, Tryd.ntmps30
  go_upto_region 2 with (at_make; refine wpList_make_own _ rfl _ _ 42 rfl w.heap.size 9 ib (.string ⟨#[]⟩) 1 Tryd.underlying42 hib hb0 hb1 _ _ _ 1 rfl rfl (by omega) (by rw [hb2]; omega) (by decide) (Nat.le_refl _) ?_; intro w3 hown3 hgrow3; have HB3 := Lib.hid ((Below.refl w.heap.size w).grown hgrow3 (Nat.le_refl _) (fun k hk => by cases hk)))
  have cb3 := (HB3.out.cell (p := ⟨p, 0, none⟩) hpl).trans cb
  have HO3 := Lib.hid hown3
  clear hown3 hgrow3 cb
  go_wp2_with fail
  go_loopg [3, 14] ps.length (fun gk s3 s14 wr => ∃ (k : Nat) (xs : List ByteArray) (v3 : Value), v3 = s3 ∧ k ≤ ps.length ∧ gk = ps.length - k ∧ s14 = .int .i64 k ∧ Hid (lits (ps.take k) = some xs) ∧ Hid (xs.length = k) ∧ Hid (wr.ownsRow w.heap.size 9 1 v3 k (xs.map Value.string)) ∧ Hid (Below w.heap.size w wr))
  case atStart => exact ⟨0, [], _, rfl, Nat.zero_le _, rfl, rfl, Lib.hid rfl, Lib.hid rfl, HO3, HB3⟩
  case round =>
    clear HO3 HB3 cb3
    obtain ⟨k, xs, s3, rfl, hk, rfl, rfl, HL, HXL, HO, HB⟩ := hrel
    by_cases hlt : k < ps.length
    · have hkz : (k : Int) < (ps.length : Int) := by omega
      obtain ⟨u, q, e1, e2, e3⟩ := HP.out.at_ k hlt
      obtain ⟨g, rfl, hgl, hgc⟩ := HC.out k u e1
      have hgr := (HB.out.cell (p := ⟨g, k, none⟩) hgl).trans hgc
      have hsplit : ps = ps.take k ++ q :: ps.drop (k + 1) := by
        have hq : ps[k] = q := by rw [List.getElem?_eq_getElem hlt] at e2; exact Option.some.inj e2
        rw [← hq, ← List.drop_eq_getElem_cons hlt, List.take_append_drop]
      have hno : (∀ s, q ≠ .lit s) → litOf ps = ⟨#[]⟩ := fun hq => by
        unfold litOf
        rw [litText_lits, hsplit, lits_none _ _ _ hq]
        rfl
      have HSP := Lib.hid hsplit
      have HNO := Lib.hid hno
      have HE2 := Lib.hid e2
      clear e1 e2 hgc hsplit hno
      cases e3 with
      | lit q1 s hL hq =>
        obtain ⟨x1, x2, x3, x4, hq⟩ := hq
        have hql : q1 < w.heap.size := (Array.getElem?_eq_some_iff.1 hq).1
        have cq : w.cell? ⟨q1, 4, none⟩ = some (.string s) := by rw [Lib.cell_of_heap hq]; rfl
        have cqr := (HB.out.cell (p := ⟨q1, 4, none⟩) hql).trans cq
        have hta := assert_yes (.pointer (some ⟨q1, 0, none⟩))
        have HKN := Lib.hid (show k + 1 ≤ 100000001 by have := HN.out; omega)
        have hzr := HB.out.size
        clear hq cq
        go_wp2_with (at_builtin; refine wpList_append_own _ rfl _ _ 42 rfl w.heap.size 9 ib (.string ⟨#[]⟩) 1 16 Tryd.underlying42 hib hb0 hb1 hb2 rfl (by decide) _ _ _ rfl (HO.out.alloc _) ⟨wr.heap.size, 0, none⟩ 1 1 [.string s] rfl rfl (cell_one_new _ _ _) (by intro u hu; simp at hu; subst hu; rfl) (by have := HKN.out; unfold maxLen; omega) (by have := HKN.out; omega) (by simp; omega) ?_; intro v1 w1 hown1 hgrow1 _; have HO1 := Lib.hid hown1; have HB1 := Lib.hid ((HB.out.alloc hzr _).grown hgrow1 (by simp; omega) (fun j hj => (HO.out.lt j hj).1)); clear hown1 hgrow1)
        go_roundg (ps.length - (k + 1))
        case measure => omega
        case rel => exact ⟨k + 1, xs ++ [s], _, rfl, by omega, rfl, by go_num, Lib.hid (by
          have h2 := List.take_succ_eq_append_getElem hlt
          have hq : ps[k] = .lit s := by have := HE2.out; rw [List.getElem?_eq_getElem hlt] at this; exact Option.some.inj this
          rw [h2, hq]
          exact lits_snoc _ _ _ HL.out), Lib.hid (by simp [HXL.out]), Lib.hid (by rw [List.map_append]; exact HO1.out), HB1⟩
      | brace b e cap cur sq ptrs ess a1 a2 a3 a4 a5 a6 =>
        have hta := assert_no 76 (.pointer (some ⟨b, 0, none⟩)) (by decide)
        clear a1 a2 a3 a4 a5 a6
        go_wp2_with fail
        go_ret
        exact ⟨by rw [HNO.out (fun s e => by cases e)]; rfl, HB.out⟩
      | other t x ht =>
        have hta := assert_no t x ht
        go_wp2_with fail
        go_ret
        exact ⟨by rw [HNO.out (fun s e => by cases e)]; rfl, HB.out⟩
    · obtain rfl : k = ps.length := by omega
      have hl2 : litOf ps = ⟨(xs.flatMap fun s => s.data.toList).toArray⟩ := by
        unfold litOf
        have h1 := HL.out
        rw [List.take_length] at h1
        rw [litText_lits, h1]
        rfl
      have hwt := lits_weight ps xs (by have h1 := HL.out; rw [List.take_length] at h1; exact h1)
      have HL2 := Lib.hid hl2
      have HWT := Lib.hid hwt
      clear hl2 hwt
      have hJ : ∃ (a : Option Addr) (c : Nat), s3 = .slice a ps.length c ∧ Calls Tryd.prog 18 #[.slice a ps.length c, .string ⟨#[]⟩] wr fun e w' => e = .returned (.string (litOf ps)) ∧ Below wr.heap.size wr w' := by
        rcases Nat.eq_zero_or_pos ps.length with h0 | hpos
        · have hxs : xs = [] := List.eq_nil_of_length_eq_zero (HXL.out.trans h0)
          rcases HO.out.2 with ⟨hv, _⟩ | ⟨g, cap, cur, hv, _⟩
          · refine ⟨none, 0, by rw [hv, h0], ?_⟩
            rw [h0]
            refine (Tryd.strings_Join_none none 0 ⟨#[]⟩ wr).mono ?_
            rintro e w' ⟨rfl, rfl⟩
            exact ⟨by rw [HL2.out, hxs]; rfl, Below.refl _ _⟩
          · refine ⟨some ⟨g, 0, none⟩, cap, hv, ?_⟩
            rw [h0]
            refine (Tryd.strings_Join_none (some ⟨g, 0, none⟩) cap ⟨#[]⟩ wr).mono ?_
            rintro e w' ⟨rfl, rfl⟩
            exact ⟨by rw [HL2.out, hxs]; rfl, Below.refl _ _⟩
        · obtain ⟨g, cap, cur, hv, hg6, hgb, hgt, hcap, _⟩ := own_row HO.out hpos
          refine ⟨some ⟨g, 0, none⟩, cap, hv, ?_⟩
          have ho := HO.out
          rw [hv] at ho
          have hxl := HXL.out
          have hj := Tryd.strings_Join g 0 cap xs ⟨#[]⟩ wr (fun j x hx => by
            have hjl : j < xs.length := (List.getElem?_eq_some_iff.1 hx).1
            rw [Nat.zero_add, own_cell ho j (by omega), List.getElem?_map, hx]
            rfl) ((Array.getElem?_eq_some_iff.1 hgb).1) (by have := HN.out; omega) (by omega) (by
            rw [show (⟨#[]⟩ : ByteArray).data.toList = [] from rfl, join_empty, HWT.out.1]
            have := HN.out
            omega)
          rw [hxl, show (⟨#[]⟩ : ByteArray).data.toList = [] from rfl, join_empty, ← HL2.out] at hj
          exact hj
      obtain ⟨a, c, rfl, hj⟩ := hJ
      have HJ := Lib.hid hj
      clear hj
      go_wp2_with (go_at_call 18; refine (HJ.out).mono ?_; rintro e w6 ⟨rfl, h6⟩)
      go_ret
      exact ⟨rfl, HB.out.trans (h6.mono HB.out.size)⟩
end Go.Proofs.YtmcoifhiiagfpaaDoor

namespace Go.Proofs.YtmcoifhiiagfpaaDoor
open Go.RowKit

theorem bt_get (s : ByteArray) (i : Nat) (h : i < s.size) : bt s i = (s[i]'h).toNat := by
  unfold bt
  congr 1
  have h2 : i < s.data.toList.length := by simpa using h
  rw [List.getD, List.getElem?_eq_getElem h2]
  simp
  rfl
theorem ext_one (s : ByteArray) (i : Nat) (h : i < s.size) : s.extract i (i + 1) = ⟨#[s[i]'h]⟩ := by
  apply ByteArray.ext
  apply Array.toList_inj.1
  have h2 : i < s.data.toList.length := by simpa using h
  rw [ByteArray.data_extract, Array.toList_extract]
  simp only [List.extract, Nat.add_sub_cancel_left]
  rw [List.drop_eq_getElem_cons h2]
  simp
  rfl
theorem slice_at (s : ByteArray) (a b : Nat) (h1 : a ≤ b) (h2 : b ≤ s.size) (W : World) : (Instr.slice 9 (.string s) (some (.int .i64 (a : Int))) (some (.int .i64 (b : Int))) none).run Tryd.prog W = .ok (.string (s.extract a b)) W := by
  have := run_slice_string (P := Tryd.prog) W 9 s .i64 .i64 (a : Int) (b : Int) Tryd.underlying9 (by omega) (by omega) (by omega)
  simpa using this

/-- Is 123 among the bytes from i on? -/
theorem has_iff (s : ByteArray) : s.data.toList.contains 123 = true ↔ ∃ i, i < s.size ∧ bt s i = 123 := by
  rw [List.contains_iff_mem, List.mem_iff_getElem]
  constructor
  · rintro ⟨i, h, e⟩
    refine ⟨i, by simpa using h, ?_⟩
    unfold bt
    rw [List.getD, List.getElem?_eq_getElem h, Option.getD_some, e]
    rfl
  · rintro ⟨i, h, e⟩
    have h2 : i < s.data.toList.length := by simpa using h
    refine ⟨i, h2, ?_⟩
    unfold bt at e
    rw [List.getD, List.getElem?_eq_getElem h2, Option.getD_some] at e
    exact UInt8.toNat_inj.1 e

set_option maxRecDepth 100000 in
set_option maxHeartbeats 2000000 in
theorem index_any (s : ByteArray) (w : World) (hs : s.size ≤ 100000000) :
    Calls Tryd.prog 39 #[.string s, .string ⟨#[123]⟩] w fun e w' => ∃ j : Int, e = .returned (.int .i64 j) ∧ (decide (0 ≤ j) = s.data.toList.contains 123) ∧ w = w' := by
  have hz : (s.size : Int) ≤ 100000000 := by omega
  go_enter Tryd.func39, Tryd.ntmps39
  go_wp2_with fail
  go_loopg [5] (s.size + 1) (fun gk s5 wr => ∃ k : Nat, k ≤ s.size ∧ gk = s.size + 1 - k ∧ s5 = .int .i64 k ∧ Hid (∀ i, i < k → bt s i ≠ 123) ∧ w = wr)
  case atStart => exact ⟨0, Nat.zero_le _, rfl, rfl, Lib.hid (fun i h => by omega), rfl⟩
  case round =>
    obtain ⟨k, hk, rfl, rfl, HK, rfl⟩ := hrel
    by_cases hlt : k < s.size
    · have hkz : (k : Int) < (s.size : Int) := by omega
      have hsl : ∀ W, (Instr.slice 9 (.string s) (some (.int .i64 (k : Int))) (some (.int .i64 ((k : Int) + 1))) none).run Tryd.prog W = .ok (.string ⟨#[s[k]'hlt]⟩) W := fun W => by
        have := slice_at s k (k + 1) (by omega) hlt W
        rw [ext_one s k hlt, Int.natCast_add, Int.natCast_one] at this
        exact this
      obtain ⟨c, hc⟩ : ∃ c : UInt8, s[k]'hlt = c := ⟨_, rfl⟩
      rw [hc] at hsl
      have HB := Lib.hid (show bt s k = c.toNat by rw [bt_get s k hlt, hc])
      clear hc
      by_cases hcb : c = 123
      · subst hcb
        go_wp2_with fail
        go_ret
        refine ⟨_, rfl, ?_, rfl⟩
        rw [(has_iff s).2 ⟨k, hlt, HB.out⟩]
        simp
      · have hne : (c == 123) = false := by simpa using hcb
        have HCB := Lib.hid hcb
        clear hcb
        go_wp2_with fail
        go_roundg (s.size + 1 - (k + 1))
        case measure => omega
        case rel => exact ⟨k + 1, by omega, rfl, by go_num, Lib.hid (fun i hi => by
          by_cases he : i = k
          · subst he
            rw [HB.out]
            intro e
            exact HCB.out (UInt8.toNat_inj.1 e)
          · exact HK.out i (by omega)), rfl⟩
    · obtain rfl : k = s.size := by omega
      go_wp2_with fail
      go_ret
      refine ⟨-1, rfl, ?_, rfl⟩
      cases h : s.data.toList.contains 123 with
      | false => rfl
      | true =>
        obtain ⟨i, h1, h2⟩ := (has_iff s).1 h
        exact absurd h2 (HK.out i h1)
theorem contains_any (s : ByteArray) (w : World) (hs : s.size ≤ 100000000) :
    Calls Tryd.prog 23 #[.string s, .string ⟨#[123]⟩] w fun e w' => e = .returned (.bool (s.data.toList.contains 123)) ∧ w = w' := by
  have HI := Lib.hid (fun W => index_any s W hs)
  generalize s.data.toList.contains 123 = H at *
  go_enter Tryd.func23, Tryd.ntmps23
  go_wp2_with (go_at_call 39; refine (HI.out _).mono ?_; rintro e w5 ⟨j, rfl, hj, rfl⟩; have HJ := Lib.hid hj; clear hj)
  go_ret
  refine ⟨?_, rfl⟩
  rw [← HJ.out]
  rfl

/-- What the closure answers at a part. -/
def holds (p : Part) : Bool := match p with | .lit s => s.data.toList.contains 123 | _ => false

set_option maxRecDepth 100000 in
set_option maxHeartbeats 2000000 in
theorem isBrace_any (w : World) (L : Nat → Prop) (v : Value) (p : Part) (h : PartAt w L v p) (hs : ∀ s, p = .lit s → s.size ≤ 100000000) :
    Calls Tryd.prog 22 #[v] w fun e w' => e = .returned (.bool (holds p)) ∧ w = w' := by
  cases h with
  | lit q s hL hq =>
    obtain ⟨x1, x2, x3, x4, hq⟩ := hq
    have cq : w.cell? ⟨q, 4, none⟩ = some (.string s) := by rw [Lib.cell_of_heap hq]; rfl
    have hta := assert_yes (.pointer (some ⟨q, 0, none⟩))
    have HC := Lib.hid (contains_any s w (hs s rfl))
    have hh : holds (.lit s) = s.data.toList.contains 123 := rfl
    rw [hh]
    clear hh hq
    generalize s.data.toList.contains 123 = H at *
    go_enter Tryd.func22, Tryd.ntmps22
    go_wp2_with (go_at_call 23; refine (HC.out).mono ?_; rintro e w5 ⟨rfl, rfl⟩)
    go_ret
    exact ⟨rfl, rfl⟩
  | brace b e cap cur sq ptrs ess a1 a2 a3 a4 a5 a6 =>
    have hta := assert_no 76 (.pointer (some ⟨b, 0, none⟩)) (by decide)
    clear a1 a2 a3 a4 a5 a6
    go_enter Tryd.func22, Tryd.ntmps22
    go_wp2_with fail
    go_ret
    exact ⟨rfl, rfl⟩
  | other t x ht =>
    have hta := assert_no t x ht
    go_enter Tryd.func22, Tryd.ntmps22
    go_wp2_with fail
    go_ret
    exact ⟨rfl, rfl⟩
end Go.Proofs.YtmcoifhiiagfpaaDoor

namespace Go.Proofs.YtmcoifhiiagfpaaDoor
open Go.RowKit

theorem RowAt.form {w : World} {L : Nat → Prop} {v : Value} {vals : List Value} (h : RowAt w L v vals) : ∃ (a0 : Option Addr) (cap0 : Nat), v = .slice a0 vals.length cap0 ∧ ∀ k u, vals[k]? = some u → ∃ g, a0 = some ⟨g, 0, none⟩ ∧ g < w.heap.size ∧ w.cell? ⟨g, k, none⟩ = some u := by
  rcases h with ⟨rfl, hv0⟩ | ⟨g, cap, cur, rfl, hL, hg, ht⟩
  · subst hv0
    exact ⟨none, 0, rfl, fun k u h => by simp at h⟩
  · refine ⟨some ⟨g, 0, none⟩, cap, rfl, fun k u h => ⟨g, rfl, (Array.getElem?_eq_some_iff.1 hg).1, ?_⟩⟩
    rw [Lib.cell_of_heap hg]
    have hk : k < vals.length := (List.getElem?_eq_some_iff.1 h).1
    have h2 : (cur.toList.take vals.length)[k]? = some u := by rw [ht]; exact h
    rw [List.getElem?_take_of_lt hk] at h2
    simpa using h2

set_option maxRecDepth 100000 in
set_option maxHeartbeats 2000000 in
theorem indexFunc_any (w : World) (L : Nat → Prop) (v : Value) (vals : List Value) (ps : List Part) (hr : RowAt w L v vals) (hp : PartsAt w L vals ps) (hn : ps.length ≤ 100000000) (hs : ∀ p ∈ ps, ∀ s, p = .lit s → s.size ≤ 100000000) :
    Calls Tryd.prog 38 #[v, .func (.func 22) #[] #[]] w fun e w' => ∃ j : Int, e = .returned (.int .i64 j) ∧ decide (0 ≤ j) = ps.any holds ∧ w = w' := by
  have hlen := hp.length
  obtain ⟨a0, cap0, hv, hcell⟩ := hr.form
  rw [hlen] at hv
  subst hv
  have HC := Lib.hid hcell
  have HP := Lib.hid hp
  have HS := Lib.hid hs
  have hnz : (ps.length : Int) ≤ 100000000 := by omega
  clear hr hp hcell hlen hn hs
  go_enter Tryd.func38, Tryd.ntmps38
  go_wp2_with fail
  go_loopg [8] ps.length (fun gk s8 wr => ∃ k : Nat, k ≤ ps.length ∧ gk = ps.length - k ∧ s8 = .int .i64 k ∧ Hid ((ps.take k).any holds = false) ∧ w = wr)
  case atStart => exact ⟨0, Nat.zero_le _, rfl, rfl, Lib.hid rfl, rfl⟩
  case round =>
    obtain ⟨k, hk, rfl, rfl, HK, rfl⟩ := hrel
    by_cases hlt : k < ps.length
    · have hkz : (k : Int) < (ps.length : Int) := by omega
      obtain ⟨u, q, e1, e2, e3⟩ := HP.out.at_ k hlt
      obtain ⟨g, rfl, hgl, hgc⟩ := HC.out k u e1
      have hq : ps[k] = q := by rw [List.getElem?_eq_getElem hlt] at e2; exact Option.some.inj e2
      have HB := isBrace_any w L u q e3 (fun s => HS.out q (by rw [← hq]; exact List.getElem_mem hlt) s)
      have htk : (ps.take (k + 1)).any holds = holds q := by
        rw [List.take_succ_eq_append_getElem hlt, List.any_append, HK.out, hq]
        simp
      have hany : holds q = true → ps.any holds = true := fun h => by
        rw [List.any_eq_true]
        exact ⟨q, by rw [← hq]; exact List.getElem_mem hlt, h⟩
      generalize holds q = H at *
      have HB := Lib.hid HB
      have HTK := Lib.hid htk
      have HANY := Lib.hid hany
      clear e1 e2 e3 hq htk hany
      cases H
      · go_wp2_with (go_at_call 22; refine (HB.out).mono ?_; rintro e w5 ⟨rfl, rfl⟩)
        go_roundg (ps.length - (k + 1))
        case measure => omega
        case rel => exact ⟨k + 1, by omega, rfl, by go_num, HTK, rfl⟩
      · go_wp2_with (go_at_call 22; refine (HB.out).mono ?_; rintro e w5 ⟨rfl, rfl⟩)
        go_ret
        refine ⟨_, rfl, ?_, rfl⟩
        rw [HANY.out trivial]
        simp
    · obtain rfl : k = ps.length := by omega
      go_wp2_with fail
      go_ret
      refine ⟨-1, rfl, ?_, rfl⟩
      have := HK.out
      rw [List.take_length] at this
      rw [this]
      rfl

theorem containsFunc_any (w : World) (L : Nat → Prop) (v : Value) (vals : List Value) (ps : List Part) (hr : RowAt w L v vals) (hp : PartsAt w L vals ps) (hn : ps.length ≤ 100000000) (hs : ∀ p ∈ ps, ∀ s, p = .lit s → s.size ≤ 100000000) :
    Calls Tryd.prog 21 #[v, .func (.func 22) #[] #[]] w fun e w' => e = .returned (.bool (ps.any holds)) ∧ w = w' := by
  have HI := Lib.hid (indexFunc_any w L v vals ps hr hp hn hs)
  clear hr hp hn hs
  generalize ps.any holds = H at *
  go_enter Tryd.func21, Tryd.ntmps21
  go_wp2_with (go_at_call 38; refine (HI.out).mono ?_; rintro e w5 ⟨j, rfl, hj, rfl⟩; have HJ := Lib.hid hj; clear hj)
  go_ret
  refine ⟨?_, rfl⟩
  rw [← HJ.out]
  rfl
end Go.Proofs.YtmcoifhiiagfpaaDoor

namespace Go.Proofs.YtmcoifhiiagfpaaDoor
open Go.RowKit
set_option linter.unusedSectionVars false
variable [Pw]

/-- What is appended: nothing at all, or what lies from an address on. -/
def News (w : World) (x : Value) (m : Nat) (news : List Value) : Prop :=
  (x = .slice none 0 0 ∧ m = 0 ∧ news = []) ∨ ∃ ad c, x = .slice (some ad) m c ∧ ∀ j u, news[j]? = some u → w.cell? (ad.add j) = some u

theorem RowAt.news {w : World} {L : Nat → Prop} {x : Value} {vals : List Value} (h : RowAt w L x vals) : News w x vals.length vals := by
  rcases h with ⟨rfl, rfl⟩ | ⟨g, cap, cur, rfl, hL, hg, ht⟩
  · exact Or.inl ⟨rfl, rfl, rfl⟩
  · refine Or.inr ⟨⟨g, 0, none⟩, cap, rfl, fun j u hu => ?_⟩
    have hj : j < vals.length := (List.getElem?_eq_some_iff.1 hu).1
    have h2 : (cur.toList.take vals.length)[j]? = some u := by rw [ht]; exact hu
    rw [List.getElem?_take_of_lt hj] at h2
    have hadd : (⟨g, 0, none⟩ : Addr).add j = ⟨g, j, none⟩ := by unfold Addr.add; split <;> simp_all
    rw [hadd, Lib.cell_of_heap hg]
    simpa using h2

theorem run_append_row {P : Program} (w : World) (t ty : TypeId) (base : Nat) (e : TypeId) (i : TypeInfo) (z : Value) (bytes : Nat) (ht : P.underlying t = some (.slice e)) (hi : P.info? e = some i) (hz : i.zero = some z)
    (hsize : i.size = 1) (hby : i.bytes = bytes) (hzs : z.cells.size = 1) (v : Value) (n : Nat) (xs : List Value) (hown : w.ownsRow base e 1 v n xs) (x : Value) (m : Nat) (news : List Value) (hx : News w x m news) (hl : news.length = m) (h1 : ∀ u ∈ news, u.oneCell' = true)
    (h63 : n + m ≤ maxLen) (hbytes : (n + m) * bytes ≤ 140737488355328) (hbase : base ≤ w.heap.size) :
    ∃ v' w', (Builtin.append_ #[t, t] ty #[v, x]).run P w = .ok v' w' ∧ w'.ownsRow base e 1 v' (n + m) (xs ++ news) ∧ w.grownBy w' v.ownBlock ∧ (v'.ownBlock = v.ownBlock ∨ v'.ownBlock = some w.heap.size) := by
  rcases hx with ⟨rfl, rfl, rfl⟩ | ⟨ad, c, rfl, hn⟩
  · refine ⟨v, w, run_append_owned_none (P := P) w base t ty e i 1 ht hi v n xs hown, ?_, ⟨rfl, rfl, rfl, Nat.le_refl _, fun _ _ _ => rfl⟩, Or.inl rfl⟩
    rw [List.append_nil]
    exact hown
  · obtain ⟨v', w', hr, h2, h3, _, h5⟩ := run_append_own_at (P := P) w base t ty e i z 1 bytes ht hi hz hsize hby hzs (by decide) v n xs hown ad m c news (by simpa using hl) hn h1 h63 hbytes hbase
    exact ⟨v', w', hr, h2, h3, h5⟩

theorem step_append_row {P : Program} (w : World) {ops : Array Oper} {o : Oper} {a : Act} {K : Act → World → Prop} {Q : Exit → Act → World → Prop} {E : Prop} (hgd : o.guard = none) (s x : Operand) (t : TypeId)
    (ho : o.op = .call { callee := .builtin .append, args := #[s, x], argTypes := #[t, t] })
    (base : Nat) (e : TypeId) (i : TypeInfo) (z : Value) (bytes : Nat) (ht : P.underlying t = some (.slice e)) (hi : P.info? e = some i) (hz : i.zero = some z)
    (hsize : i.size = 1) (hby : i.bytes = bytes) (hzs : z.cells.size = 1)
    (v : Value) (n : Nat) (xs : List Value) (hs : a.eval s = v) (hown : w.ownsRow base e 1 v n xs)
    (xv : Value) (m : Nat) (news : List Value) (hx : a.eval x = xv) (hnw : News w xv m news) (hl : news.length = m) (h1 : ∀ u ∈ news, u.oneCell' = true)
    (h63 : n + m ≤ maxLen) (hbytes : (n + m) * bytes ≤ 140737488355328) (hbase : base ≤ w.heap.size)
    (h : ∀ v' w', w'.ownsRow base e 1 v' (n + m) (xs ++ news) → w.grownBy w' v.ownBlock → (v'.ownBlock = v.ownBlock ∨ v'.ownBlock = some w.heap.size) → K (a.put o.dst v') w') :
    if Region.wanted o (yielded ops a.tmps) = true then Oper.wp P o a w K Q else E := by
  have hw : Region.wanted o (yielded ops a.tmps) = true := by simp [Region.wanted, hgd]
  rw [if_pos hw]
  obtain ⟨v', w', hr, h2, h3, h4⟩ := run_append_row (P := P) w t o.type base e i z bytes ht hi hz hsize hby hzs v n xs hown xv m news hnw hl h1 h63 hbytes hbase
  unfold Oper.wp execOp
  simp only [ho, resolve, invoke, builtin, Sem.run_bind, Sem.run_pure, Result.andThen_ok, List.map_toArray, List.map_cons, List.map_nil, hs, hx, hr]
  exact h v' w' h2 h3 h4

/-- Behind the append of a row and the store. -/
theorem SB.row_end2 {N : Nat} {hs : HS} {w W w1 : World} {a : HW} (h : SB N hs w) (hae : hs.acc = a) {us : List Value} {qs : List Part} (hq : PartsAt w (hs.live N) us qs) {xs : List Value} {ys : List Part} (hx : PartsAt w (hs.live N) xs ys) (hB : Below w.heap.size w W) {v' : Value}
    (hown : w1.ownsRow (N + 6) 72 1 v' (a.vals.length + us.length) (a.vals ++ us)) (hg : W.grownBy w1 a.v.ownBlock) (hat : v'.ownBlock = a.v.ownBlock ∨ v'.ownBlock = some W.heap.size) :
    Sb N (hs.st.push qs) xs ys (w1.setCell ⟨a.blk, 0, none⟩ v') ∧ Still N w (w1.setCell ⟨a.blk, 0, none⟩ v') ∧ KeepB w (w1.setCell ⟨a.blk, 0, none⟩ v') := by
  subst hae
  have hb : ∀ k, k < w.heap.size → W.heap[k]? = w.heap[k]? := fun k hk => hB.block k hk
  have hW := h.grow hb
  have hsf : Safe (hs.live N) (hs.live N) w W := ⟨fun k hk _ => hb k hk, fun _ _ x => x⟩
  have hqW : PartsAt W (hs.live N) us qs := hq.safe hsf
  have hxW : PartsAt W (hs.live N) xs ys := hx.safe hsf
  have hp := hW.push hqW hown hg (by
    rcases hat with e | e
    · exact Or.inl e
    · exact Or.inr ⟨_, e, Nat.le_refl _⟩)
  have ha := h.words _ (acc_mem hs)
  have hN := h.lt
  have hfar : N ≤ hs.acc.blk := by have := ha.far; omega
  refine ⟨⟨_, hp.1, st_push hs _ us qs, hxW.safe hp.2⟩, ?_⟩
  have h1 : Below N w w1 := (hB.mono (by omega)).grown hg (by have := hB.size; omega) (fun k hk => by have := (own_block ha.own hk).1; omega)
  have key : ∀ (k : Nat) (c : Array Value) (T : TypeId) (fz : Nat × Nat), w.heap[k]? = some (.cells c T fz) → T ≠ 40 → T ≠ 72 → (w1.setCell ⟨hs.acc.blk, 0, none⟩ v').heap[k]? = some (.cells c T fz) := ?_
  · exact ⟨⟨h1.setCell (p := ⟨hs.acc.blk, 0, none⟩) hfar _, fun k c T fz hk hT => key k c T fz hk (by rintro rfl; revert hT; decide) (by rintro rfl; revert hT; decide)⟩, key⟩
  intro k c T fz hk hT1 hT2
  have hlt : k < w.heap.size := (Array.getElem?_eq_some_iff.1 hk).1
  have n1 : k ≠ hs.acc.blk := fun e => by
    rw [e, ha.blk] at hk
    simp only [Option.some.injEq, Obj.cells.injEq] at hk
    exact hT1 hk.2.1.symm
  have n2 : some k ≠ hs.acc.v.ownBlock := fun e => by
    obtain ⟨_, c', hc⟩ := own_block ha.own e.symm
    rw [hk] at hc
    simp only [Option.some.injEq, Obj.cells.injEq] at hc
    exact hT2 hc.2.1
  rw [Below.heap_setCell _ _ _ _ n1, hg.block k (by have := hB.size; omega) n2, hb k hlt]
  exact hk
theorem SB.row_end {N : Nat} {hs : HS} {w W w1 : World} {a : HW} (h : SB N hs w) (hae : hs.acc = a) {us : List Value} {qs : List Part} (hq : PartsAt w (hs.live N) us qs) {xs : List Value} {ys : List Part} (hx : PartsAt w (hs.live N) xs ys) (hB : Below w.heap.size w W) {v' : Value}
    (hown : w1.ownsRow (N + 6) 72 1 v' (a.vals.length + us.length) (a.vals ++ us)) (hg : W.grownBy w1 a.v.ownBlock) (hat : v'.ownBlock = a.v.ownBlock ∨ v'.ownBlock = some W.heap.size) :
    Sb N (hs.st.push qs) xs ys (w1.setCell ⟨a.blk, 0, none⟩ v') ∧ Still N w (w1.setCell ⟨a.blk, 0, none⟩ v') :=
  let ⟨a, b, _⟩ := h.row_end2 hae hq hx hB hown hg hat
  ⟨a, b⟩
end Go.Proofs.YtmcoifhiiagfpaaDoor

namespace Go.Proofs.YtmcoifhiiagfpaaDoor
open Go.RowKit
set_option linter.unusedSectionVars false
variable [Pw]

/-- What of an open brace an append to a word leaves. -/
def shape (f : HF) : Nat × Bool × Value × List Nat := (f.blk, f.seq, f.ev, f.words.map HW.blk)

theorem SB.update {N : Nat} {hs hs' : HS} {w w1 : World} (h : SB N hs w) {A C : List HW} {a : HW} (hw : hs.words = A ++ a :: C) {us : List Value} {qs : List Part} (hq : PartsAt w (hs.live N) us qs) {v' : Value}
    (hw' : hs'.words = A ++ ⟨a.blk, v', a.vals ++ us, a.ps ++ qs⟩ :: C) (htop : hs'.top.blk = hs.top.blk) (hacc : hs'.acc.blk = hs.acc.blk) (hcur : hs'.curV = hs.curV) (hov : hs'.ov = hs.ov) (hfr : hs'.frames.map shape = hs.frames.map shape)
    (hown : w1.ownsRow (N + 6) 72 1 v' (a.vals.length + us.length) (a.vals ++ us)) (hg : w.grownBy w1 a.v.ownBlock) (hv : v'.ownBlock = a.v.ownBlock ∨ ∃ g, v'.ownBlock = some g ∧ w.heap.size ≤ g) :
    SB N hs' (w1.setCell ⟨a.blk, 0, none⟩ v') ∧ Safe (hs.live N) (hs'.live N) w (w1.setCell ⟨a.blk, 0, none⟩ v') := by
  have hmem : a ∈ hs.words := by rw [hw]; simp
  have ha := h.words _ hmem
  have hdw := h.dw
  have hda : (hs.words.filterMap arr).Nodup := h.da
  rw [hw] at hdw hda
  have keep : ∀ k, k < w.heap.size → k ≠ a.blk → a.v.ownBlock ≠ some k → (w1.setCell ⟨a.blk, 0, none⟩ v').heap[k]? = w.heap[k]? := by
    intro k hk hne ho
    rw [Below.heap_setCell _ _ _ _ hne]
    exact hg.block k hk (fun e => ho e.symm)
  have lt_ : ∀ {k : Nat} {o : Obj}, w.heap[k]? = some o → k < w.heap.size := fun hk => (Array.getElem?_eq_some_iff.1 hk).1
  have hab : ∀ {k : Nat} {c : Array Value} {T : TypeId}, w.heap[k]? = some (.cells c T (0, 0)) → T ≠ 40 → k ≠ a.blk := fun {k c T} hk hT e => by
    rw [e, ha.blk] at hk
    simp only [Option.some.injEq, Obj.cells.injEq] at hk
    exact hT hk.2.1.symm
  have haa : ∀ {k : Nat} {c : Array Value} {T : TypeId}, w.heap[k]? = some (.cells c T (0, 0)) → T ≠ 72 → a.v.ownBlock ≠ some k := fun {k c T} hk hT e => by
    obtain ⟨_, c', hc'⟩ := own_block ha.own e
    rw [hk] at hc'
    simp only [Option.some.injEq, Obj.cells.injEq] at hc'
    exact hT hc'.2.1
  have by_type : ∀ {k : Nat} {c : Array Value} {T : TypeId}, w.heap[k]? = some (.cells c T (0, 0)) → T ≠ 40 → T ≠ 72 → (w1.setCell ⟨a.blk, 0, none⟩ v').heap[k]? = some (.cells c T (0, 0)) := fun {k c T} hk h1 h2 => (keep k (lt_ hk) (hab hk h1) (haa hk h2)).trans hk
  have own_type : ∀ {e n v xs}, w.ownsRow (N + 6) e 1 v n xs → e ≠ 40 → e ≠ 72 → (w1.setCell ⟨a.blk, 0, none⟩ v').ownsRow (N + 6) e 1 v n xs := fun {e n v xs} ho h1 h2 => own_kept ho (fun g _ _ ⟨c, hc⟩ => keep g (lt_ hc) (hab hc h1) (haa hc h2))
  have hblkw : a.blk < w.heap.size := lt_ ha.blk
  have hof : ∀ f ∈ hs'.frames, ∃ f' ∈ hs.frames, shape f' = shape f := fun f hf => by
    have hm : shape f ∈ hs'.frames.map shape := List.mem_map_of_mem hf
    rw [hfr] at hm
    exact List.mem_map.1 hm
  have hlive : ∀ k, k < w.heap.size → ¬ hs.live0 N k → ¬ hs'.live0 N k := by
    intro k hk hn hl
    apply hn
    rcases hl with hl | ⟨x, hx, hl⟩ | ⟨f, hf, hl⟩ | hl
    · exact Or.inl hl
    · rw [hw'] at hx
      rcases mem_acc hx with rfl | hx
      · rcases hl with hl | hl
        · exact Or.inr (Or.inl ⟨a, hmem, Or.inl hl⟩)
        · rcases hv with e | ⟨g, e, hge⟩
          · exact Or.inr (Or.inl ⟨a, hmem, Or.inr (e.symm.trans hl)⟩)
          · have : g = k := Option.some.inj (e.symm.trans hl)
            exact absurd hk (by omega)
      · exact Or.inr (Or.inl ⟨x, by rw [hw]; exact mem_back hx, hl⟩)
    · obtain ⟨f', hf', e⟩ := hof f hf
      simp only [shape, Prod.mk.injEq] at e
      obtain ⟨e1, e2, e3, e4⟩ := e
      rw [← e1, ← e3] at hl
      exact Or.inr (Or.inr (Or.inl ⟨f', hf', hl⟩))
    · rw [hov] at hl
      exact Or.inr (Or.inr (Or.inr hl))
  have hsafe0 : Safe (hs.live0 N) (hs'.live0 N) w (w1.setCell ⟨a.blk, 0, none⟩ v') := by
    refine ⟨fun k hk hn => keep k hk (fun e => hn (Or.inr (Or.inl ⟨a, hmem, Or.inl e⟩))) (fun e => hn (Or.inr (Or.inl ⟨a, hmem, Or.inr e⟩))), hlive⟩
  have hsafe := hsafe0.more
  have hblks : hs'.frames.map HF.blk = hs.frames.map HF.blk := by
    have := congrArg (List.map Prod.fst) hfr
    simpa [List.map_map, Function.comp_def, shape] using this
  have hevs : hs'.frames.map HF.ev = hs.frames.map HF.ev := by
    have := congrArg (List.map fun x : Nat × Bool × Value × List Nat => x.2.2.1) hfr
    simpa [List.map_map, Function.comp_def, shape] using this
  refine ⟨{
    topBlk := htop.trans h.topBlk
    pw := ⟨h.pw.1, h.pw.2.elim fun c hc => ⟨c, (keep _ (lt_ hc) (fun e => by have := ha.far; have := h.pw.1; omega) (fun e => by have := (own_block ha.own e).1; have := h.pw.1; omega)).trans hc⟩⟩
    b1 := by_type h.b1 (by decide) (by decide)
    b2 := by rw [hacc]; exact by_type h.b2 (by decide) (by decide)
    b3 := by rw [hcur]; exact by_type h.b3 (by decide) (by decide)
    b4 := by rw [hov]; exact by_type h.b4 (by decide) (by decide)
    b5 := by_type h.b5 (by decide) (by decide)
    opens := by
      have e : hs'.frames.map (fun f => ptr f.blk) = hs.frames.map fun f => ptr f.blk := by
        have := congrArg (List.map ptr) hblks
        simpa [List.map_map, Function.comp_def] using this
      have e2 : hs'.frames.length = hs.frames.length := by
        have := congrArg List.length hblks
        simpa using this
      rw [hov, e2, List.map_reverse, e, ← List.map_reverse]
      exact own_type h.opens (by decide) (by decide)
    words := by
      intro x hx
      rw [hw'] at hx
      rcases mem_acc hx with rfl | hx
      · have hab1 : w1.heap[a.blk]? = some (.cells #[a.v] 40 (0, 0)) := by
          rw [hg.block a.blk hblkw (fun e => haa ha.blk (by decide) e.symm)]
          exact ha.blk
        refine ⟨?_, ?_, (ha.parts.append hq).safe hsafe, ha.far⟩
        · rw [heap_setCell_same _ _ _ _ _ _ hab1]
          rfl
        · show (w1.setCell ⟨a.blk, 0, none⟩ v').ownsRow (N + 6) 72 1 v' (a.vals ++ us).length (a.vals ++ us)
          rw [List.length_append]
          refine own_kept hown (fun g _ _ ⟨c, hc⟩ => Below.heap_setCell _ _ _ _ (fun e => ?_))
          rw [e, hab1] at hc
          simp only [Option.some.injEq, Obj.cells.injEq] at hc
          exact absurd hc.2.1 (by decide)
      · have hx' : x ∈ hs.words := by rw [hw]; exact mem_back hx
        have hk := h.words x hx'
        refine ⟨?_, ?_, hk.parts.safe hsafe, hk.far⟩
        · rw [keep x.blk (lt_ hk.blk) (other_blk hdw x hx) (haa hk.blk (by decide))]
          exact hk.blk
        · exact own_kept hk.own (fun g hgx _ ⟨c, hc⟩ => keep g (lt_ hc) (hab hc (by decide)) (other_arr hda x hx g hgx))
    frames := fun f hf => by
      obtain ⟨f', hf', e⟩ := hof f hf
      simp only [shape, Prod.mk.injEq] at e
      obtain ⟨e1, e2, e3, e4⟩ := e
      have hk := h.frames f' hf'
      have e5 : f'.words.map (fun x => ptr x.blk) = f.words.map fun x => ptr x.blk := by
        have := congrArg (List.map ptr) e4
        simpa [List.map_map, Function.comp_def] using this
      have hlen : f'.words.length = f.words.length := by
        have := congrArg List.length e5
        simpa using this
      refine ⟨?_, ?_, by rw [← e1]; exact hk.far⟩
      · rw [← e1, ← e2, ← e3]
        exact by_type hk.blk (by decide) (by decide)
      · rw [← e3, ← e5, ← hlen]
        exact own_type hk.own (by decide) (by decide)
    dw := by rw [hw']; rw [List.map_append, List.map_cons] at hdw ⊢; exact hdw
    da := by
      rw [hw']
      refine swap_arr hda ?_
      rcases hv with e | ⟨g, e, hge⟩
      · exact Or.inl e
      · refine Or.inr ⟨g, e, fun x hx hgx => ?_⟩
        have hk := h.words x (by rw [hw]; exact mem_back hx)
        obtain ⟨_, c, hc⟩ := own_block hk.own hgx
        exact absurd (lt_ hc) (by omega)
    df := by rw [hblks]; exact h.df
    de := by
      have e : hs'.frames.filterMap (fun f => f.ev.ownBlock) = hs.frames.filterMap fun f => f.ev.ownBlock := by
        have := congrArg (List.filterMap Value.ownBlock) hevs
        simpa [List.filterMap_map, Function.comp_def] using this
      rw [e]; exact h.de }, hsafe⟩
end Go.Proofs.YtmcoifhiiagfpaaDoor

namespace Go.Proofs.YtmcoifhiiagfpaaDoor
open Go.RowKit
set_option linter.unusedSectionVars false
variable [Pw]

/-- The six blocks made at the start. -/
def startW (w : World) : World :=
  (((((w.alloc (.cells #[.slice none 0 0] 40)).alloc (.cells #[ptr w.heap.size] 38)).alloc (.cells #[ptr w.heap.size] 38)).alloc (.cells #[.pointer none] 76)).alloc (.cells #[.slice none 0 0] 77)).alloc (.cells #[.func (.func 25) #[] #[ptr (w.heap.size + 2)]] 82)

theorem start_size (w : World) : (startW w).heap.size = w.heap.size + 6 := by
  unfold startW
  simp only [World.size_alloc]
theorem start_below (w : World) : Below w.heap.size w (startW w) := by
  unfold startW
  refine ((((((Below.refl _ _).alloc (Nat.le_refl _) _).alloc ?_ _).alloc ?_ _).alloc ?_ _).alloc ?_ _).alloc ?_ _
  all_goals
    simp only [World.size_alloc]
    omega
theorem start_at (w : World) : (startW w).heap[w.heap.size]? = some (.cells #[.slice none 0 0] 40 (0, 0)) ∧ (startW w).heap[w.heap.size + 1]? = some (.cells #[ptr w.heap.size] 38 (0, 0)) ∧ (startW w).heap[w.heap.size + 2]? = some (.cells #[ptr w.heap.size] 38 (0, 0)) ∧ (startW w).heap[w.heap.size + 3]? = some (.cells #[.pointer none] 76 (0, 0)) ∧ (startW w).heap[w.heap.size + 4]? = some (.cells #[.slice none 0 0] 77 (0, 0)) ∧ (startW w).heap[w.heap.size + 5]? = some (.cells #[.func (.func 25) #[] #[ptr (w.heap.size + 2)]] 82 (0, 0)) := by
  have one : ∀ (W : World) (o : Obj) (k : Nat), W.heap.size = k → (W.alloc o).heap[k]? = some o := fun W o k e => by subst e; exact heap_alloc_new W o
  have old : ∀ (W : World) (o : Obj) (k : Nat) (x : Option Obj), k < W.heap.size → W.heap[k]? = x → (W.alloc o).heap[k]? = x := fun W o k x hk e => by rw [Below.heap_alloc _ _ _ hk]; exact e
  unfold startW
  refine ⟨?_, ?_, ?_, ?_, ?_, ?_⟩
  · refine old _ _ _ _ (by simp only [World.size_alloc]; omega) (old _ _ _ _ (by simp only [World.size_alloc]; omega) (old _ _ _ _ (by simp only [World.size_alloc]; omega) (old _ _ _ _ (by simp only [World.size_alloc]; omega) (old _ _ _ _ (by simp only [World.size_alloc]; omega) (one _ _ _ rfl)))))
  · refine old _ _ _ _ (by simp only [World.size_alloc]; omega) (old _ _ _ _ (by simp only [World.size_alloc]; omega) (old _ _ _ _ (by simp only [World.size_alloc]; omega) (old _ _ _ _ (by simp only [World.size_alloc]; omega) (one _ _ _ (by simp only [World.size_alloc])))))
  · refine old _ _ _ _ (by simp only [World.size_alloc]; omega) (old _ _ _ _ (by simp only [World.size_alloc]; omega) (old _ _ _ _ (by simp only [World.size_alloc]; omega) (one _ _ _ (by simp only [World.size_alloc]))))
  · refine old _ _ _ _ (by simp only [World.size_alloc]; omega) (old _ _ _ _ (by simp only [World.size_alloc]; omega) (one _ _ _ (by simp only [World.size_alloc])))
  · refine old _ _ _ _ (by simp only [World.size_alloc]; omega) (one _ _ _ (by simp only [World.size_alloc]))
  · exact one _ _ _ (by simp only [World.size_alloc])

def hs0 (N : Nat) : HS := ⟨nw N, [], .slice none 0 0⟩
theorem start_sb (w : World) (hp : ∃ c, w.heap[Pw.p]? = some (.cells c 40 (0, 0))) : SB w.heap.size (hs0 w.heap.size) (startW w) := by
  obtain ⟨a0, a1, a2, a3, a4, a5⟩ := start_at w
  exact {
    topBlk := rfl
    pw := hp.elim fun c hc => ⟨(Array.getElem?_eq_some_iff.1 hc).1, c, ((start_below w).block _ (Array.getElem?_eq_some_iff.1 hc).1).trans hc⟩
    b1 := a1
    b2 := a2
    b3 := a3
    b4 := a4
    b5 := a5
    opens := World.ownsRow_nil _ _ _ _
    words := fun x hx => by
      obtain rfl : x = nw w.heap.size := by simpa [HS.words, hs0] using hx
      exact ⟨a0, World.ownsRow_nil _ _ _ _, .nil, Or.inl rfl⟩
    frames := fun f hf => by cases hf
    dw := by simp [HS.words, hs0]
    da := by simp [HS.words, hs0, nw, Value.ownBlock]
    df := by simp [hs0]
    de := by simp [hs0] }

/-- The start, with the word's own parts beside it. -/
theorem start_st (w : World) (hp : ∃ c, w.heap[Pw.p]? = some (.cells c 40 (0, 0))) {L : Nat → Prop} (hL : L Pw.p) {xs : List Value} {ys : List Part} (h : PartsAt w L xs ys) : Sb w.heap.size ⟨[], []⟩ xs ys (startW w) := by
  refine ⟨hs0 w.heap.size, start_sb w hp, rfl, h.safe ⟨fun k hk _ => (start_below w).block k hk, fun k hk hn hl => ?_⟩⟩
  rcases hl with (hl | ⟨x, hx, hl⟩ | ⟨f, hf, _⟩ | hl) | hl
  · omega
  · obtain rfl : x = nw w.heap.size := by simpa [HS.words, hs0] using hx
    rcases hl with hl | hl
    · have e : k = w.heap.size := hl
      omega
    · cases hl
  · cases hf
  · cases hl
  · exact hn (by rw [hl]; exact hL)
end Go.Proofs.YtmcoifhiiagfpaaDoor

namespace Go.Proofs.YtmcoifhiiagfpaaDoor
open Go.RowKit

def psz : Part → Nat
  | .lit s => 1 + s.size
  | _ => 1
def sz (ps : List Part) : Nat := (ps.map psz).sum
def esz (es : List (List Part)) : Nat := (es.map fun e => sz e + 3).sum
def Frame.sz (f : Frame) : Nat := esz f.elems + 4
def St.sz (st : St) : Nat := Go.Proofs.YtmcoifhiiagfpaaDoor.sz st.top + (st.stack.map Frame.sz).sum

theorem sz_append (a b : List Part) : sz (a ++ b) = sz a + sz b := by simp [sz]
theorem sz_cons (p : Part) (b : List Part) : sz (p :: b) = psz p + sz b := by simp [sz]
theorem esz_append (a b : List (List Part)) : esz (a ++ b) = esz a + esz b := by simp [esz]
theorem sz_length (ps : List Part) : ps.length ≤ sz ps := by
  induction ps with
  | nil => exact Nat.zero_le _
  | cons p r ih =>
    rw [sz_cons, List.length_cons]
    have : 1 ≤ psz p := by cases p <;> simp [psz]
    omega
theorem push_sz (st : St) (ps : List Part) : (st.push ps).sz = st.sz + sz ps := by
  obtain ⟨top, stack⟩ := st
  cases stack with
  | nil => simp [St.push, St.sz, sz_append]
  | cons f r =>
    have e : ∀ a, esz (f.done ++ [a]) = esz f.done + (Go.Proofs.YtmcoifhiiagfpaaDoor.sz a + 3) := fun a => by rw [esz_append]; simp [esz]
    simp only [St.push, St.sz, List.map_cons, List.sum_cons, Frame.sz, Frame.elems, e, sz_append]
    omega
theorem sepBy_sz (sep : ByteArray) (hs : sep.size ≤ 2) : ∀ es : List (List Part), sz (sepBy sep es) + 3 ≤ esz es + 3
  | [] => by simp [sepBy, sz]
  | [ps] => by simp [sepBy, esz]
  | ps :: q :: r => by
    have ih := sepBy_sz sep hs (q :: r)
    rw [sepBy, sz_append, sz_cons]
    · simp only [esz, List.map_cons, List.sum_cons, psz] at ih ⊢
      omega
    · simp
theorem closed_sz (f : Frame) : sz (closed f) ≤ f.sz := by
  have h1 := sepBy_sz dots (by decide) f.elems
  have e1 : sz [Part.lit lb] = 2 := rfl
  have e2 : sz [Part.lit rb] = 2 := rfl
  have e3 : ∀ b es, sz [Part.brace b es] = 1 := fun _ _ => rfl
  unfold closed Frame.sz
  split
  · rw [sz_append, sz_append, e1, e2]
    have : esz f.elems = esz f.done + (sz f.acc + 3) := by simp [Frame.elems, esz]
    omega
  · split
    · split
      · rw [sz_append, sz_append, e1, e2]; omega
      · rw [e3]; omega
    · rw [e3]; omega
theorem unclosed_sz (f : Frame) : sz (unclosed f) ≤ f.sz := by
  unfold unclosed Frame.sz
  rw [sz_cons]
  have e1 : psz (Part.lit lb) = 2 := rfl
  have h1 := sepBy_sz dots (by decide) f.elems
  have h2 := sepBy_sz cm (by decide) f.elems
  split <;> omega
theorem flush_sz (st : St) (v : ByteArray) (last j : Nat) (hl : last ≤ j) (hj : j ≤ v.size) : (st.flush v last j).sz ≤ st.sz + 1 + (j - last) := by
  unfold St.flush
  split
  · omega
  · rw [push_sz]
    have : sz [Part.lit (v.extract last j)] = 1 + (v.extract last j).size := rfl
    rw [this, ByteArray.size_extract]
    omega
theorem flush_stack (st : St) (v : ByteArray) (last j : Nat) : (st.flush v last j).stack.length = st.stack.length := by
  unfold St.flush
  split
  · rfl
  · obtain ⟨top, stack⟩ := st
    cases stack <;> rfl

/-- One byte: the places move on, and what is held grows a little. -/
theorem stepB_sz (v : ByteArray) (j last : Nat) (st : St) (hl : last ≤ j) (hj : j < v.size) :
    (stepB v j last st).2.1 ≤ (stepB v j last st).1 ∧ j < (stepB v j last st).1 ∧ (stepB v j last st).1 ≤ j + 2 ∧ (stepB v j last st).2.2.sz + ((stepB v j last st).1 - (stepB v j last st).2.1) + 9 * j ≤ st.sz + (j - last) + 9 * (stepB v j last st).1 := by
  have hf := flush_sz st v last j hl (by omega)
  unfold stepB
  split
  · exact ⟨by simp only; omega, by simp only; omega, by simp only; omega, by simp only; omega⟩
  · split
    · refine ⟨by simp only; omega, by simp only; omega, by simp only; omega, ?_⟩
      simp only [St.sz, List.map_cons, List.sum_cons, Frame.sz, Frame.elems, esz, List.nil_append, List.map_nil, List.sum_nil] at hf ⊢
      have e0 : sz [] = 0 := rfl
      rw [e0]
      omega
    · split
      · split
        · exact ⟨by simp only; omega, by simp only; omega, by simp only; omega, by simp only; omega⟩
        · rename_i f r hfr
          refine ⟨by simp only; omega, by simp only; omega, by simp only; omega, ?_⟩
          have h1 := sepBy_sz dots (by decide) f.elems
          simp only [St.sz, hfr, List.map_cons, List.sum_cons, Frame.sz] at hf ⊢
          split
          · have e : esz (Frame.elems ⟨false, [sepBy dots f.elems], []⟩) = sz (sepBy dots f.elems) + 6 := by simp [Frame.elems, esz, sz]
            rw [e]; omega
          · have e : esz (Frame.elems ⟨false, f.elems, []⟩) = esz f.elems + 3 := by
              show esz (f.elems ++ [[]]) = _
              rw [esz_append]; rfl
            rw [e]; omega
      · split
        · split
          · exact ⟨by simp only; omega, by simp only; omega, by simp only; omega, by simp only; omega⟩
          · split
            · exact ⟨by simp only; omega, by simp only; omega, by simp only; omega, by simp only; omega⟩
            · split
              · exact ⟨by simp only; omega, by simp only; omega, by simp only; omega, by simp only; omega⟩
              · split
                · exact ⟨by simp only; omega, by simp only; omega, by simp only; omega, by simp only; omega⟩
                · rename_i f r hfr
                  refine ⟨by simp only; omega, by simp only; omega, by simp only; omega, ?_⟩
                  simp only [St.sz, hfr, List.map_cons, List.sum_cons, Frame.sz] at hf ⊢
                  have e : esz (Frame.elems ⟨true, f.elems, []⟩) = esz f.elems + 3 := by
                    show esz (f.elems ++ [[]]) = _
                    rw [esz_append]; rfl
                  rw [e]; omega
        · split
          · split
            · exact ⟨by simp only; omega, by simp only; omega, by simp only; omega, by simp only; omega⟩
            · rename_i f r hfr
              refine ⟨by simp only; omega, by simp only; omega, by simp only; omega, ?_⟩
              have hc := closed_sz f
              rw [push_sz]
              simp only [St.sz, hfr, List.map_cons, List.sum_cons] at hf ⊢
              omega
          · exact ⟨by simp only; omega, by simp only; omega, by simp only; omega, by simp only; omega⟩

theorem stepB_last (v : ByteArray) (j last : Nat) (st : St) (hl : last ≤ v.size) (hj : j < v.size) : (stepB v j last st).2.1 ≤ v.size := by
  unfold stepB
  repeat' split
  all_goals simp only
  all_goals omega

theorem runB_sz (v : ByteArray) : ∀ (f j last : Nat) (st : St), last ≤ j → last ≤ v.size → j ≤ v.size + 1 → (runB v f j last st).2.sz ≤ st.sz + (j - last) + 9 * (v.size + 2 - j) ∧ (runB v f j last st).1 ≤ v.size
  | 0, j, last, st, _, h2, _ => ⟨by show st.sz ≤ _; omega, h2⟩
  | f + 1, j, last, st, h1, h2, h3 => by
    unfold runB
    split
    · rename_i hj
      obtain ⟨s1, s2, s3, s4⟩ := stepB_sz v j last st h1 hj
      have s5 := stepB_last v j last st h2 hj
      obtain ⟨r1, r2⟩ := runB_sz v f (stepB v j last st).1 (stepB v j last st).2.1 (stepB v j last st).2.2 s1 s5 (by omega)
      refine ⟨Nat.le_trans r1 ?_, r2⟩
      omega
    · exact ⟨by show st.sz ≤ _; omega, h2⟩

theorem stepP_sz (st : St) (p : Part) : (stepP st p).sz ≤ st.sz + 10 * psz p + 20 := by
  cases p with
  | lit v =>
    obtain ⟨r1, r2⟩ := runB_sz v (v.size + 1) 0 0 st (Nat.le_refl _) (Nat.zero_le _) (Nat.zero_le _)
    unfold stepP
    simp only
    generalize runB v (v.size + 1) 0 0 st = R at r1 r2 ⊢
    obtain ⟨last, st'⟩ := R
    simp only at r1 r2 ⊢
    have e : psz (Part.lit v) = 1 + v.size := rfl
    rw [e]
    split
    · rw [push_sz]
      have : sz [Part.lit v] = 1 + v.size := rfl
      omega
    · rw [push_sz]
      have : sz [Part.lit (v.extract last v.size)] = 1 + (v.extract last v.size).size := rfl
      rw [this, ByteArray.size_extract]
      omega
  | brace b es =>
    show (st.push _).sz ≤ _
    rw [push_sz]
    have : sz [Part.brace b es] = 1 := rfl
    omega
  | other t x =>
    show (st.push _).sz ≤ _
    rw [push_sz]
    have : sz [Part.other t x] = 1 := rfl
    omega
theorem foldP_sz : ∀ (ps : List Part) (st : St), (ps.foldl stepP st).sz ≤ st.sz + 10 * sz ps + 20 * ps.length
  | [], st => by simp [sz]
  | p :: r, st => by
    have h1 := stepP_sz st p
    have h2 := foldP_sz r (stepP st p)
    rw [List.foldl_cons, sz_cons, List.length_cons]
    omega
end Go.Proofs.YtmcoifhiiagfpaaDoor
