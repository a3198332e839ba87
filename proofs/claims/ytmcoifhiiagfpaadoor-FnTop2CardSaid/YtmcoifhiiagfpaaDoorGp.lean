/-
  The law: its items, and what the splitting leaves. No walk here.
  The law, walked.
-/
import Derived.Test.YtmcoifhiiagfpaaDoorGm
import Derived.Test.YtmcoifhiiagfpaaDoorGn
import Derived.Test.YtmcoifhiiagfpaaDoorGo
namespace Go.Proofs.YtmcoifhiiagfpaaDoor
open Go.RowKit
set_option linter.unusedVariables false

theorem item_top (p : Nat) (l : List UInt8) (hl : l.length ≤ 1048576) (h6 : 6 ≤ p) : ItemC 33 p l 0 :=
  have i6 : ItemC 15 p l 6 := item_any 15 p l 6 hl h6 (by omega) (by omega) (fun h => absurd h (by omega))
  have i5 : ItemC 18 p l 5 := item_any 18 p l 5 hl h6 (by omega) (by omega) (fun _ => word_any 15 p l 6 hl h6 i6)
  have i4 : ItemC 21 p l 4 := item_any 21 p l 4 hl h6 (by omega) (by omega) (fun _ => word_any 18 p l 5 hl h6 i5)
  have i3 : ItemC 24 p l 3 := item_any 24 p l 3 hl h6 (by omega) (by omega) (fun _ => word_any 21 p l 4 hl h6 i4)
  have i2 : ItemC 27 p l 2 := item_any 27 p l 2 hl h6 (by omega) (by omega) (fun _ => word_any 24 p l 3 hl h6 i3)
  have i1 : ItemC 30 p l 1 := item_any 30 p l 1 hl h6 (by omega) (by omega) (fun _ => word_any 27 p l 2 hl h6 i2)
  item_any 33 p l 0 hl h6 (by omega) (by omega) (fun _ => word_any 30 p l 1 hl h6 i1)

/-- The law's items so far. -/
structure TpAt (p : Nat) (l : List UInt8) (w : World) (v : Value) (ptrs : List Nat) (is : List Item) (j : Nat) (w' : World) : Prop where
  wo : WoAt 33 p 0 l w v ptrs is w'
  dec : Dec w' p l j
  cost : costW is ≤ 5 * j + slack l j 33
/-- .. and one more decoded. -/
structure TpIt (p : Nat) (l : List UInt8) (w : World) (v : Value) (ptrs : List Nat) (is : List Item) (q : Nat) (it : Item) (j : Nat) (w' : World) : Prop where
  wo : WoIt 33 p 0 l w v ptrs is q it w'
  dec : Dec w' p l j
  cost : costW (is ++ [it]) ≤ 5 * j + slack l j 33
section
variable {p j : Nat} {l : List UInt8} {w w1 w2 : World} {v : Value} {ptrs : List Nat} {is : List Item}
theorem TpAt.start (hd : Dec w p l 0) (h6 : 6 ≤ p) (ht : Tab w) : TpAt p l w (.slice none 0 0) [] [] 0 w :=
  ⟨WoAt.start hd.lt h6 hd (Nat.le_refl _) (Kept.refl p w) ht, hd, by simp [costW, symW, symC]⟩
theorem TpAt.more (h : TpAt p l w v ptrs is j w1) (hd : Dec w2 p l j) (hk : Kept p w1 w2) : TpAt p l w v ptrs is j w2 := by
  refine ⟨⟨h.wo.own.kept hk.grown ?_, h.wo.items.frm (hk.frm h.dec _), h.wo.ok, ⟨j, Nat.zero_le _, hd, ?_⟩, h.wo.kept.trans hk, tab_kept h.wo.tab hk h.wo.p6, h.wo.pb, h.wo.p6⟩, hd, h.cost⟩
  · by_cases e : v.ownBlock = none
    · exact Or.inl e
    · refine Or.inr (fun e2 => ?_)
      have := (own_blk h.wo.own e2).1
      have := h.wo.pb
      omega
  · have := h.cost
    by_cases e : j = l.length
    · rw [slack_end e] at this ⊢
      omega
    · rw [slack_in e] at this ⊢
      omega
theorem TpAt.item (h : TpAt p l w v ptrs is j w1) (hj : j < l.length) {q j2 : Nat} {it : Item} (h1 : ItemAt w2 (fun k => k < w1.heap.size) q it) (h2 : okI it = true) (h3 : Dec w2 p l j2) (h4 : Kept p w1 w2) (h5 : j ≤ j2) (h6 : costI it ≤ 5 * (j2 - j) + slack l j2 33) : TpIt p l w v ptrs is q it j2 w2 := by
  have hc := h.cost
  rw [slack_in (show j ≠ l.length by omega)] at hc
  refine ⟨h.wo.item (j := j) (Nat.zero_le _) h.dec ?_ h1 h2 h3 h4 h5 h6 (fun e => by omega), h3, ?_⟩
  · rw [slack_in (show j ≠ l.length by omega)]
    omega
  · rw [costW_snoc]
    omega
theorem TpIt.push {q : Nat} {it : Item} (h : TpIt p l w v ptrs is q it j w1) {g cap : Nat} (o : Obj) (hown : w2.ownsRow w.heap.size 28 1 (.slice (some ⟨g, 0, none⟩) (is.length + 1) cap) (is.length + 1) (ptrs.map ptrV ++ [ptrV q])) (hg : (w1.alloc o).grownBy w2 v.ownBlock) (hat : v.ownBlock = some g ∨ g = (w1.alloc o).heap.size) :
    TpAt p l w (.slice (some ⟨g, 0, none⟩) (is.length + 1) cap) (ptrs ++ [q]) (is ++ [it]) j w2 := by
  have hb : Below w1.heap.size w1 (w1.alloc o) := (Below.refl w1.heap.size w1).alloc (Nat.le_refl _) o
  have hr : ∀ k, v.ownBlock = some k → w.heap.size ≤ k := fun k hk => (own_blk h.wo.own hk).1
  exact ⟨h.wo.push o hown hg hat, (h.dec.below hb).app hg (fun k hk => by have := hr k hk; have := h.wo.pb; omega), h.cost⟩
theorem TpAt.fin (h : TpAt p l w v ptrs is j w1) : PtrsAt w1 NoL v ptrs ∧ ItemsAt w1 NoL ptrs is := by
  have hlen := h.wo.items.length
  refine ⟨?_, h.wo.items.frm (Frm.none _ _)⟩
  rcases h.wo.own.2 with ⟨hv, hn⟩ | ⟨g, cap, cur, hv, hb, hg, h1, h2, h3, h4⟩
  · exact Or.inl ⟨hv, List.length_eq_zero_iff.1 (by omega)⟩
  · exact Or.inr ⟨g, cap, cur, by rw [hlen]; exact hv, fun e => e, hg, by rw [hlen]; simpa using h4, by omega⟩
end

/-! ### How long the items are, written out -/
theorem joinD_bar (ends : List (List UInt8)) : (joinD [124] ends).length ≤ (joinD [46, 46] ends).length := by
  cases ends with
  | nil => simp [joinD]
  | cons a r =>
    have h : (r.flatMap fun e => [124] ++ e).length ≤ (r.flatMap fun e => [46, 46] ++ e).length := by
      induction r with
      | nil => exact Nat.le_refl _
      | cons x r ih =>
        simp only [List.flatMap_cons, List.length_append, List.length_cons, List.length_nil]
        omega
    simp only [joinD, List.length_append]
    omega
theorem ser_len {w : World} {L : Nat → Prop} {qs : List Nat} {is : List Item} (h : ItemsAt w L qs is) : (serIW qt0 is).length ≤ 3 * costW is :=
  ItemsAt.rec (motive_1 := fun _ i _ => (serI qt0 i).length ≤ 3 * costI i) (motive_2 := fun _ is _ => (serIW qt0 is).length ≤ 3 * costW is) (motive_3 := fun _ es _ => (serIE qt0 es).length ≤ 3 * symC (symE es) ∧ (serIR qt0 es).length ≤ 3 * symC (symER es))
    (fun q s a b hL h => by rw [serI, cost_lit]; omega)
    (fun q s a b hL h hs => by
      rw [serI, cost_sq]
      show (39 :: (s ++ [39])).length ≤ _
      simp
      omega)
    (fun q es a b g cap vs hL h hr he ih => by
      unfold costI
      rw [serI, symI, symC, symC_append]
      have := ih.1
      simp [symC]
      omega)
    (fun q ends a b g cap hL h hr => by
      unfold costI
      rw [seq_ser, seq_syms, symC_bytes]
      have := joinD_bar ends
      simp
      omega)
    (by simp [serIW])
    (fun q i qs is h1 h2 i1 i2 => by
      have e : costW (i :: is) = costI i + costW is := by unfold costW costI; rw [symW, symC_append]
      rw [serIW, List.length_append, e]
      omega)
    (by simp [serIE, serIR])
    (fun v ptrs is vs es h1 h2 h3 i2 i3 => by
      have e : symC (symW is) = costW is := rfl
      have := i3.2
      refine ⟨?_, ?_⟩
      · rw [serIE, symE, List.length_append, symC_append, e]
        omega
      · rw [serIR, symER, List.length_cons, List.length_append, symC, symC_append, e]
        omega)
    h

/-! ### Fresh blocks -/
theorem rs_start (w : World) : RS w.heap.size w.heap.size [] (w.alloc (.cells #[.slice none 0 0, .pointer none, .slice none 0 0] 36)) :=
  ⟨⟨.slice none 0 0, [], [], [], [], ⟨⟨Nat.le_refl _, .pointer none, .slice none 0 0, heap_alloc_new w _, Or.inl rfl, World.ownsRowF_nil _ _ _ _⟩, World.ownsRow_nil _ _ _ _, .nil⟩, fun r h => h, by simp, rfl⟩⟩
theorem bld_start (w : World) : Bld w.heap.size w.heap.size [] (w.alloc (.cells #[.pointer none, .slice none 0 0] 34)) :=
  Or.inl (Lib.BuilderAtF.of ((Lib.fresh_isBuilder 34 5 w).elim id (fun h => by
    have := h.cell0
    rw [Lib.cell_of_heap (heap_alloc_new w _)] at this
    cases this)))
theorem wd_start {B b : Nat} {pv : Value} {l : List UInt8} {vals : List Value} {ps : List Part} {m : List Sym} {w : World} (h : RX B b pv l vals ps m w) : Wd w.heap.size ps (w.alloc (.cells #[pv] 40)) := by
  have hb : Below w.heap.size w (w.alloc (.cells #[pv] 40)) := (Below.refl w.heap.size w).alloc (Nat.le_refl _) _
  have hs : Safe NoL (fun k => k = w.heap.size) w (w.alloc (.cells #[pv] 40)) := ⟨fun k hk _ => hb.block k hk, fun k hk _ e => by omega⟩
  refine ⟨pv, vals, heap_alloc_new w _, ?_, h.rp.parts.safe hs⟩
  rcases h.own.2 with ⟨hv, hn⟩ | ⟨g, cap, cur, hv, _, hg, _, _, _, h4⟩
  · exact Or.inl ⟨hv, List.length_eq_zero_iff.1 hn⟩
  · have hlt := (Array.getElem?_eq_some_iff.1 hg).1
    exact Or.inr ⟨g, cap, cur, hv, fun e => by omega, (hb.block g hlt).trans hg, by simpa using h4⟩
theorem RParts.word {P : Nat} {w w' : World} (hk : Kept P w w') {c : Array Value} (hP : w.heap[P]? = some (.cells c 40 (0, 0))) {vs : List Value} {ps : List Part} {m : List Sym} (h : RParts w vs ps m) : RParts w' vs ps m := by
  have key : ∀ (k : Nat) (x : Array Value) (T : TypeId), w.heap[k]? = some (.cells x T (0, 0)) → T ≠ 40 → w'.heap[k]? = some (.cells x T (0, 0)) := fun k x T hx hT => (hk.block k (Array.getElem?_eq_some_iff.1 hx).1 (fun e => by
    rw [e, hP] at hx
    simp only [Option.some.injEq, Obj.cells.injEq, and_true] at hx
    exact hT hx.2.symm)).trans hx
  induction h with
  | nil => exact .nil
  | lit q s vs ps m h1 h2 ih =>
    obtain ⟨a, b, c, d, h1⟩ := h1
    exact .lit q s vs ps m ⟨a, b, c, d, key _ _ _ h1 (by decide)⟩ ih
  | sq q s vs ps m h1 h2 ih =>
    obtain ⟨h0, a, b, c, d, x, h1⟩ := h1
    exact .sq q s vs ps m ⟨h0, a, b, c, d, x, key _ _ _ h1 (by decide)⟩ ih

/-- What splitting the rendered word leaves. -/
structure SpOut (P : Nat) (is : List Item) (w w' : World) (v : Value) (vals : List Value) (ps : List Part) : Prop where
  blk : w'.heap[P]? = some (.cells #[v] 40 (0, 0))
  row : RowAt w' (fun k => k = P) v vals
  parts : PartsAt w' (fun k => k = P) vals ps
  ser : serW (qtW w') ps = serIW qt0 is
  good : (123 : UInt8) ∉ serW (badQ w') ps
  dz : dz ps ≤ 1000000000
  kept : Kept P w w'
theorem law_split {P : Nat} {is : List Item} {vals : List Value} {ps : List Part} {w : World} (h : Wd P ps w) (hr : RParts w vals ps (symW is)) (hN : Neat ps) (hok : okW is = true) (hC : costW is ≤ 5243000) (hE : Errs w) :
    Calls Tryd.prog 9 #[.pointer (some ⟨P, 0, none⟩)] w fun e w' => e = .returned (.bool (is.any Item.br)) ∧ ∃ v vals' ps', SpOut P is w w' v vals' ps' := by
  have hB := hr.bound hN hC
  have hb := any_br hr hok
  refine (split_any P w h hB hE).mono ?_
  rintro e w' ⟨ps', rfl, ⟨v, vals', k1, k2, k3⟩, a2, a3⟩
  obtain ⟨v0, vals0, k0, _⟩ := h
  have hr' := hr.word a2 k0
  have hs : (ps.any holds = false ∧ ps' = ps) ∨ ps' = split ps := by
    rcases a3 with ⟨x, y, _⟩ | ⟨x, y⟩
    · exact Or.inl ⟨x, y⟩
    · exact Or.inr y
  have h5 := split_reads hr' hN hok hs
  have hd := hr.dz
  have hdz : dz ps' ≤ 1000000000 := by
    rcases a3 with ⟨x, rfl, _⟩ | ⟨x, rfl⟩
    · omega
    · have := dz_split ps
      omega
  exact ⟨by rw [hb], v, vals', ps', k1, k2, k3, h5.1, h5.2, hdz, a2⟩
end Go.Proofs.YtmcoifhiiagfpaaDoor

namespace Go.Proofs.YtmcoifhiiagfpaaDoor
open Go.RowKit
set_option linter.unusedVariables false

/-- The law's argument: these bytes. -/
def BytesAt (w : World) (v : Value) (l : List UInt8) : Prop := ∃ ao cap, v = .slice ao l.length cap ∧ (l ≠ [] → ∃ g off, ao = some ⟨g, off, none⟩ ∧ g < w.heap.size ∧ ∀ (k : Nat) x, l[k]? = some x → w.cell? ⟨g, off + k, none⟩ = some (.int .u8 (x.toNat : Int)))
theorem dec_start {w : World} {v : Value} {l : List UInt8} (h : BytesAt w v l) : Dec (w.alloc (.cells #[v, .int .i64 0] 25)) w.heap.size l 0 := by
  obtain ⟨ao, cap, rfl, h⟩ := h
  refine ⟨Nat.zero_le _, ao, cap, heap_alloc_new w _, fun hl => ?_⟩
  obtain ⟨g, off, a, b, c⟩ := h hl
  exact ⟨g, off, a, b, fun k x hx => (((Below.refl w.heap.size w).alloc (Nat.le_refl _) _).cell (p := ⟨g, off + k, none⟩) b).trans (c k x hx)⟩
theorem rx_slice {B b : Nat} {pv : Value} {l : List UInt8} {vals : List Value} {ps : List Part} {m : List Sym} {w : World} (h : RX B b pv l vals ps m w) : ∃ a n c, pv = .slice a n c := by
  rcases h.own.2 with ⟨hv, _⟩ | ⟨g, cap, cur, hv, _⟩
  · exact ⟨_, _, _, hv⟩
  · exact ⟨_, _, _, hv⟩
theorem br_kind {w : World} {L : Nat → Prop} {q : Nat} {i : Item} (h : ItemAt w L q i) : ∃ kd : Int, w.cell? ⟨q, 0, none⟩ = some (.int .i64 kd) ∧ ((i.br = true ∧ (2 : Int) ≤ kd) ∨ (i.br = false ∧ ¬ (2 : Int) ≤ kd)) := by
  cases h with
  | lit _ s a b hL h => exact ⟨0, (Lib.cell_of_heap h 0).trans rfl, Or.inr ⟨rfl, by decide⟩⟩
  | sq _ s a b hL h hs => exact ⟨1, (Lib.cell_of_heap h 0).trans rfl, Or.inr ⟨rfl, by decide⟩⟩
  | lst _ es a b g cap vs hL h hr he => exact ⟨2, (Lib.cell_of_heap h 0).trans rfl, Or.inl ⟨rfl, by decide⟩⟩
  | seq _ ends a b g cap hL h hr => exact ⟨3, (Lib.cell_of_heap h 0).trans rfl, Or.inl ⟨rfl, by decide⟩⟩

/-- The items are rendered, and laid into a word in block P. -/
structure LwA (w : World) (is : List Item) (v : Value) (ptrs : List Nat) (P : Nat) (vals : List Value) (ps : List Part) (w5 : World) : Prop where
  bel : Below w.heap.size w w5
  pat : PtrsAt w5 NoL v ptrs
  iat : ItemsAt w5 NoL ptrs is
  wd : Wd P ps w5
  rp : RParts w5 vals ps (symW is)
  neat : Neat ps
  errs : Errs w5
  lo : w.heap.size ≤ P
theorem lwA {p : Nat} {w w1 wr w4 : World} {v pv : Value} {ptrs : List Nat} {is : List Item} {vals : List Value} {ps : List Part} {o : Obj} (hE : Errs w) (h6 : 6 ≤ w.heap.size)
    (hw1 : Below w.heap.size w w1) (hp : p = w.heap.size) (h1 : Kept p w1 wr) (hp1 : PtrsAt wr NoL v ptrs) (hi1 : ItemsAt wr NoL ptrs is)
    (k : KeptR wr.heap.size (wr.alloc o) w4) (hx : RX wr.heap.size wr.heap.size pv [] vals ps ([] ++ symW is) w4) (hn : Neat ps) :
    LwA w is v ptrs w4.heap.size vals ps (w4.alloc (.cells #[pv] 40)) := by
  have b1 : Below w.heap.size w wr := ⟨h1.os.trans hw1.os, h1.tape.trans hw1.tape, h1.output.trans hw1.output, Nat.le_trans hw1.size h1.size, fun i hi => (h1.block i (by have := hw1.size; omega) (by omega)).trans (hw1.block i hi)⟩
  have b2 : Below wr.heap.size wr (wr.alloc o) := (Below.refl wr.heap.size wr).alloc (Nat.le_refl _) o
  have b3 : Below wr.heap.size wr w4 := b2.trans k.bel
  have b4 : Below w4.heap.size w4 (w4.alloc (.cells #[pv] 40)) := (Below.refl w4.heap.size w4).alloc (Nat.le_refl _) _
  have f1 : Frm NoL NoL wr (w4.alloc (.cells #[pv] 40)) := ((frm_below b2 NoL).trans (k.frm NoL)).trans (frm_below b4 NoL)
  have bb : Below w.heap.size w (w4.alloc (.cells #[pv] 40)) := b1.trans ((b3.mono b1.size).trans (b4.mono (by have := b1.size; have := b3.size; omega)))
  exact ⟨bb, hp1.frm f1, hi1.frm f1, wd_start hx, hx.rp.kept (KeptR.of_below b4 (Nat.le_refl _)), hn, hE.below bb (by omega) (by omega), by have := b1.size; have := b3.size; omega⟩

abbrev sbz : Obj := .cells #[.pointer none, .slice none 0 0] 34
section
variable {w w5 w7 w8 w10 w11 w12 : World} {is : List Item} {v v' : Value} {ptrs : List Nat} {P : Nat} {vals vals' : List Value} {ps ps' : List Part} {S : List UInt8}
theorem lw_len (hA : LwA w is v ptrs P vals ps w5) (hC : costW is ≤ 5243000) : (serIW qt0 is).length ≤ 100000000 := by
  have := ser_len hA.iat
  omega
theorem lw_ser (hA : LwA w is v ptrs P vals ps w5) (hok : okW is = true) (hC : costW is ≤ 5243000) :
    Calls Tryd.prog 8 #[v, .pointer (some ⟨w5.heap.size, 0, none⟩)] (w5.alloc sbz) fun e w' => e = .returned (.tuple #[]) ∧ SL w5.heap.size w5.heap.size (serIW qt0 is) (w5.alloc sbz) w' := by
  have b := (Below.refl w5.heap.size w5).alloc (Nat.le_refl _) sbz
  have hl := lw_len hA hC
  exact seri_any _ is (Nat.le_refl _) w5.heap.size w5.heap.size [] (w5.alloc sbz) v ptrs (bld_start w5) (hA.pat.frm (frm_below b NoL)) (hA.iat.frm (frm_below b NoL)) hok (by omega) (by simpa using hl)
theorem lw_split (hA : LwA w is v ptrs P vals ps w5) (hok : okW is = true) (hC : costW is ≤ 5243000) (h6 : 6 ≤ w.heap.size) (h7 : SL w5.heap.size w5.heap.size S (w5.alloc sbz) w7) :
    Calls Tryd.prog 9 #[.pointer (some ⟨P, 0, none⟩)] w7 fun e w' => e = .returned (.bool (is.any Item.br)) ∧ ∃ v vals' ps', SpOut P is w7 w' v vals' ps' := by
  have b : Below w5.heap.size w5 w7 := ((Below.refl w5.heap.size w5).alloc (Nat.le_refl _) sbz).trans h7.kept.bel
  have hs := hA.bel.size
  exact law_split (hA.wd.below b) (hA.rp.kept (KeptR.of_below b (Nat.le_refl _))) hA.neat hok hC (hA.errs.below b (by omega) (by omega))
theorem lw_c (hA : LwA w is v ptrs P vals ps w5) (h7 : SL w5.heap.size w5.heap.size S (w5.alloc sbz) w7) (h8 : SpOut P is w7 w8 v' vals' ps') : Bld w5.heap.size w5.heap.size S w8 ∧ Below w.heap.size w w8 ∧ w5.heap.size ≤ w8.heap.size := by
  have b : Below w5.heap.size w5 w7 := ((Below.refl w5.heap.size w5).alloc (Nat.le_refl _) sbz).trans h7.kept.bel
  obtain ⟨v0, vals0, k0, _⟩ := hA.wd
  have hP := (Array.getElem?_eq_some_iff.1 k0).1
  have hs := hA.bel.size
  have hb := b.size
  refine ⟨h7.bld.other (k := P) ((b.block P hP).trans k0) (by decide) (by omega) (fun j hj hl => h8.kept.block j hl hj), ?_, by have := h8.kept.size; omega⟩
  have b7 : Below w.heap.size w w7 := hA.bel.trans (b.mono hs)
  have hlo := hA.lo
  exact b7.trans ⟨h8.kept.os, h8.kept.tape, h8.kept.output, h8.kept.size, fun k hk => h8.kept.block k (by omega) (by omega)⟩
theorem lw_serw (h8 : SpOut P is w7 w8 v' vals' ps') (hP : P < w8.heap.size) (hl : (serIW qt0 is).length ≤ 100000000) :
    Calls Tryd.prog 10 #[v', .pointer (some ⟨w8.heap.size, 0, none⟩)] (w8.alloc sbz) fun e w' => e = .returned (.bool true) ∧ SL w8.heap.size w8.heap.size (serIW qt0 is) (w8.alloc sbz) w' := by
  have b := (Below.refl w8.heap.size w8).alloc (Nat.le_refl _) sbz
  have hs : Safe (fun k => k = P) (fun k => w8.heap.size ≤ k) w8 (w8.alloc sbz) := ⟨fun k hk _ => b.block k hk, fun k hk _ e => by omega⟩
  have h := serp_any _ ps' (Nat.le_refl _) w8.heap.size w8.heap.size [] w8 (w8.alloc sbz) v' vals' (bld_start w8) (h8.row.safe hs) (h8.parts.safe hs) b (Nat.le_refl _) h8.good h8.dz (by rw [h8.ser]; simpa using hl)
  rw [h8.ser] at h
  exact h
theorem lw_end (hc : Bld w5.heap.size w5.heap.size S w8 ∧ Below w.heap.size w w8 ∧ w5.heap.size ≤ w8.heap.size) (h9 : SL w8.heap.size w8.heap.size S (w8.alloc sbz) w10) (h10 : KeptB w8.heap.size w8.heap.size w10 w11) : Bld w5.heap.size w5.heap.size S w11 ∧ Below w.heap.size w w11 := by
  have b : Below w8.heap.size w8 w11 := (((Below.refl w8.heap.size w8).alloc (Nat.le_refl _) sbz).trans h9.kept.bel).trans h10.bel
  exact ⟨hc.1.below b (Nat.le_refl _), hc.2.1.trans (b.mono hc.2.1.size)⟩
end

set_option maxRecDepth 100000 in
set_option maxHeartbeats 8000000 in
theorem law_any (v0 : Value) (l : List UInt8) (w : World) (hv : BytesAt w v0 l) (hE : Errs w) (hT : Tab w) (h6 : 6 ≤ w.heap.size) :
    Calls Tryd.prog 3 #[v0] w fun e w' => e = .returned (.bool true) ∧ Below w.heap.size w w' := by
  obtain ⟨ib, hib, ibz, ibs, ibb⟩ := info_parts Tryd.info_pitem
  have hd0 := dec_start hv
  have hb1 : Below w.heap.size w (w.alloc (.cells #[v0, .int .i64 0] 25)) := (Below.refl w.heap.size w).alloc (Nat.le_refl _) _
  obtain ⟨ao, cap, rfl, hcells⟩ := hv
  obtain ⟨n, hn⟩ : ∃ n, l.length = n := ⟨_, rfl⟩
  have hnz : (0 : Int) ≤ (n : Int) := by omega
  by_cases hbig : 1048576 < n
  · have hz : (1048576 : Int) < (n : Int) := by omega
    rw [hn]
    clear hcells hd0
    go_enter Tryd.func3, Tryd.ntmps3
    go_wp2_with fail
    go_ret
    exact ⟨rfl, Below.refl _ _⟩
  · have hz : ¬ ((1048576 : Int) < (n : Int)) := by omega
    have hl : l.length ≤ 1048576 := by omega
    obtain ⟨w1, hw1⟩ : ∃ w1, w.alloc (.cells #[.slice ao l.length cap, .int .i64 0] 25) = w1 := ⟨_, rfl⟩
    rw [hn] at hw1
    rw [hn, hw1] at hd0 hb1
    have HT0 := Lib.hid (TpAt.start hd0 h6 (tab_below hT hb1 h6))
    have HB1 := Lib.hid hb1
    have HE := Lib.hid hE
    have HN := Lib.hid hn
    have H6 := Lib.hid h6
    have HITEM : Hid (∀ (w2 : World) (i : Nat), Dec w2 w.heap.size l i → Tab w2 → Calls Tryd.prog 5 #[.pointer (some ⟨w.heap.size, 0, none⟩), .int .i64 0] w2 (ItemOut 33 w.heap.size l i w2)) := Lib.hid (fun w2 i a b => item_top w.heap.size l hl h6 w2 i a b)
    have HMORE : Hid (∀ (w2 : World) (i : Nat), Dec w2 w.heap.size l i → Calls Tryd.prog 4 #[.pointer (some ⟨w.heap.size, 0, none⟩)] w2 fun e w' => e = .returned (.bool (decide (i < l.length))) ∧ Dec w' w.heap.size l i ∧ Kept w.heap.size w2 w') := Lib.hid (fun w2 i a => more_any w.heap.size l i w2 a hl)
    have HL := Lib.hid hl
    rw [hn]
    clear hcells hd0 hb1 hE h6 hl hbig hT
    go_enter Tryd.func3, Tryd.ntmps3
    go_wp2_with fail
    go_loopg [4] (l.length + 1) (fun gk s4 wr => ∃ (v : Value) (ptrs : List Nat) (is : List Item) (j : Nat), s4 = v ∧ gk = l.length + 1 - j ∧ j ≤ l.length ∧ Hid (TpAt w.heap.size l w1 v ptrs is j wr))
    case atStart => exact ⟨_, [], [], 0, rfl, rfl, Nat.zero_le _, HT0⟩
    case round =>
      obtain ⟨v, ptrs, is, j, rfl, rfl, hj, HX⟩ := hrel
      by_cases hlt : j < l.length
      · have hdec : decide (j < l.length) = true := by simp [hlt]
        have HMO := Lib.hid (HMORE.out wr j HX.out.dec)
        rw [hdec] at HMO
        have HJL := Lib.hid hlt
        have HCL : Hid (is.length ≤ 10000000) := Lib.hid (by
          have h1 := len_cost HX.out.wo.ok
          have h2 := HX.out.cost
          have h3 := slack_le l j 33
          have h4 := HL.out
          omega)
        clear hdec
        go_wp2_with (first
          | (go_at_call 4; refine HMO.out.mono ?_; rintro e w2 ⟨rfl, a1, a2⟩; have H2 := Lib.hid (HX.out.more a1 a2); clear a1 a2)
          | (go_at_call 5; refine (HITEM.out _ j H2.out.dec H2.out.wo.tab).mono ?_; rintro e w3 ⟨q, it, j2, rfl, a1, a2, a3, a4, a5, a6, a7, a8⟩; have H3 := Lib.hid (H2.out.item HJL.out a1 a2 a3 a4 a5 a7); have HJ2 := Lib.hid (And.intro (a6 HJL.out) a3.1); clear a1 a2 a3 a4 a5 a6 a7 a8)
          | (at_builtin; refine wpList_append_lies _ rfl _ _ 26 rfl w1.heap.size 28 ib (.pointer none) 1 8 Tryd.underlying26 hib ibz ibs ibb rfl (by decide) _ _ _ rfl (H3.out.wo.own.alloc _) ⟨_, 0, none⟩ 1 1 [ptrV q] rfl rfl (cell_one_new _ _ _) (by intro u hu; simp at hu; subst hu; rfl) (by decide) (by have := HCL.out; unfold maxLen; omega) (by have := HCL.out; omega) (by have := H3.out.wo.kept.size; simp; omega) _ rfl ?_; intro g cap2 w4 hown hgrow hat _; have H4 := Lib.hid (H3.out.push _ hown hgrow hat); clear hown hgrow hat))
        go_roundg (l.length + 1 - j2)
        case measure => have := HJ2.out; omega
        case rel => exact ⟨_, _, _, j2, rfl, rfl, HJ2.out.2, H4⟩
      · have hdec : decide (j < l.length) = false := by simp [hlt]
        have HMO := Lib.hid (HMORE.out wr j HX.out.dec)
        rw [hdec] at HMO
        go_upto_region 7 with (go_at_call 4; refine HMO.out.mono ?_; rintro e w2 ⟨rfl, a1, a2⟩; have H2 := Lib.hid (HX.out.more a1 a2); clear a1 a2)
        clear HX HMO
        have HOK := Lib.hid H2.out.wo.ok
        have HCOST : Hid (costW is ≤ 5243000) := Lib.hid (by
          have h2 := H2.out.cost
          have h3 := slack_le l j 33
          have h4 := HL.out
          omega)
        have hf := H2.out.fin
        obtain ⟨ao2, cap2, rfl, hform⟩ := hf.1.form
        have HFORM := Lib.hid hform
        have HP1 := Lib.hid hf.1
        have HI1 := Lib.hid hf.2
        have hli := hf.2.length
        have HKP := Lib.hid H2.out.wo.kept
        have hcl := len_cost H2.out.wo.ok
        have HREND : Hid (∀ wz, wz = w2.alloc (.cells #[.slice none 0 0, .pointer none, .slice none 0 0] 36) → Calls Tryd.prog 6 #[.slice ao2 ptrs.length cap2, .pointer (some ⟨w2.heap.size, 0, none⟩)] wz fun e w' => e = .returned (.tuple #[]) ∧ RS w2.heap.size w2.heap.size ([] ++ symW is) w' ∧ KeptR w2.heap.size wz w') := Lib.hid (fun wz e => by
          have b2 : Below w2.heap.size w2 wz := by rw [e]; exact (Below.refl w2.heap.size w2).alloc (Nat.le_refl _) _
          refine render_any _ is (Nat.le_refl _) w2.heap.size w2.heap.size [] wz _ ptrs (by rw [e]; exact rs_start w2) (HP1.out.frm (frm_below b2 NoL)) (HI1.out.frm (frm_below b2 NoL)) HOK.out ?_
          have := HCOST.out
          simp [symC]
          omega)
        have hNm := hcl
        obtain ⟨m, hm⟩ : ∃ m, ptrs.length = m := ⟨_, rfl⟩
        have HM : Hid (is.length = m) := Lib.hid (by omega)
        have hmz : (0 : Int) ≤ (m : Int) ∧ (m : Int) ≤ 10000000 := by have := HCOST.out; omega
        have HRS : Hid (symC ([] ++ symW is) ≤ 10000000) := Lib.hid (by have h := HCOST.out; unfold costW at h; rw [List.nil_append]; omega)
        rw [hm] at HREND HP1
        have HPM := Lib.hid hm
        rw [hm]
        clear hf hform hli hcl hNm hm
        go_wp2_with (first
          | (go_at_call 6; refine (HREND.out _ rfl).mono ?_; rintro e w3 ⟨rfl, a1, a2⟩; have H3 := Lib.hid a1; have K3 := Lib.hid a2; clear a1 a2)
          | (go_at_call 7; go_loud (refine (H3.out.flush HRS.out).mono ?_; rintro e w4 ⟨rfl, ⟨⟨pv, vals, ps, x1, x2, x3, x4⟩⟩, a2⟩; obtain ⟨a5, n5, c5, rfl⟩ := rx_slice x1; have H4 := Lib.hid x1; have HNT := Lib.hid x2; have K4 := Lib.hid (K3.out.trans a2); have c0 : w4.cell? ⟨w2.heap.size, 0, none⟩ = some (.slice a5 n5 c5) := x1.fb.cell0; clear x1 x2 x3 x4 a2; obtain ⟨w5, hw5⟩ : ∃ w5, w4.alloc (.cells #[.slice a5 n5 c5] 40) = w5 := ⟨_, rfl⟩; obtain ⟨P, hP⟩ : ∃ P, w4.heap.size = P := ⟨_, rfl⟩; have HA := Lib.hid (lwA HE.out H6.out HB1.out rfl HKP.out HP1.out HI1.out K4.out H4.out HNT.out); rw [hP, hw5] at HA)))
        clear H2
        go_loopg [7, 41] m (fun gk s7 s41 wz => ∃ k : Nat, s41 = .int .i64 (k : Int) ∧ k ≤ m ∧ gk = m - k ∧ s7 = .bool ((is.take k).any Item.br) ∧ w5 = wz)
        case atStart => exact ⟨0, rfl, Nat.zero_le _, rfl, rfl, rfl⟩
        case round =>
          obtain ⟨k, rfl, hk, rfl, rfl, rfl⟩ := hrel
          by_cases hltk : k < m
          · have hkz : (k : Int) < (m : Int) := by omega
            obtain ⟨q, i, e1, e2, e3⟩ := HA.out.iat.at_ k (by rw [HM.out]; exact hltk)
            obtain ⟨g, rfl⟩ := HFORM.out k q e1
            have cq := (show PtrsAt w5 NoL (.slice (some ⟨g, 0, none⟩) ptrs.length cap2) ptrs by rw [HPM.out]; exact HA.out.pat).cell e1
            obtain ⟨kd, d0, hkd⟩ := br_kind e3
            have htk : (is.take (k + 1)).any Item.br = ((is.take k).any Item.br || i.br) := by
              have hlt2 := (List.getElem?_eq_some_iff.1 e2).1
              rw [List.take_succ_eq_append_getElem hlt2, (List.getElem?_eq_some_iff.1 e2).2, List.any_append]
              simp
            rcases hkd with ⟨hb, h2⟩ | ⟨hb, h2⟩
            · have HTK : Hid ((is.take (k + 1)).any Item.br = true) := Lib.hid (by rw [htk, hb, Bool.or_true])
              clear e1 e2 e3 hb htk
              go_wp2_with fail
              go_roundg (m - (k + 1))
              case measure => omega
              case rel => exact ⟨k + 1, by go_num, by omega, rfl, by rw [HTK.out], rfl⟩
            · have HTK : Hid ((is.take (k + 1)).any Item.br = (is.take k).any Item.br) := Lib.hid (by rw [htk, hb, Bool.or_false])
              clear e1 e2 e3 hb htk
              generalize (is.take k).any Item.br = c at *
              go_wp2_with fail
              go_roundg (m - (k + 1))
              case measure => omega
              case rel => exact ⟨k + 1, by go_num, by omega, rfl, by rw [HTK.out], rfl⟩
          · have hkz : ¬ (k : Int) < (m : Int) := by omega
            have htake : is.take k = is := List.take_of_length_le (by rw [HM.out]; omega)
            rw [htake]
            clear htake
            have HS1 := Lib.hid (lw_ser HA.out HOK.out HCOST.out)
            have HS2 := Lib.hid (fun (w7 : World) (h : SL w5.heap.size w5.heap.size (serIW qt0 is) (w5.alloc sbz) w7) => lw_split HA.out HOK.out HCOST.out H6.out h)
            have HLEN := Lib.hid (lw_len HA.out HCOST.out)
            obtain ⟨c, hc⟩ : ∃ c, is.any Item.br = c := ⟨_, rfl⟩
            rw [hc] at HS2 ⊢
            clear hc
            go_wp2_with (first
              | (go_at_call 8; refine HS1.out.mono ?_; rintro e w7 ⟨rfl, a1⟩; have H7 := Lib.hid a1; clear a1)
              | (go_at_call 9; refine (HS2.out _ H7.out).mono ?_; rintro e w8 ⟨rfl, v', vals', ps', a1⟩; have H8 := Lib.hid a1; have HC8 := Lib.hid (lw_c HA.out H7.out a1); have c8 : w8.cell? ⟨P, 0, none⟩ = some v' := (Lib.cell_of_heap a1.blk 0).trans rfl; have hP8 : P < w8.heap.size := (Array.getElem?_eq_some_iff.1 a1.blk).1; have HS3 := Lib.hid (lw_serw a1 hP8 HLEN.out); clear a1)
              | (go_at_call 10; refine HS3.out.mono ?_; rintro e w10 ⟨rfl, a1⟩; have H10 := Lib.hid a1; have HB1 := Lib.hid (bstr _ _ _ w10 a1.bld); clear a1)
              | (go_at_call 11; refine HB1.out.mono ?_; rintro e w11 ⟨rfl, a1, a2⟩; have H11 := Lib.hid (lw_end HC8.out H10.out a2); have HB2 := Lib.hid (bstr _ _ _ w11 H11.out.1); clear a1 a2 HB1)
              | (go_at_call 11; refine HB2.out.mono ?_; rintro e w12 ⟨rfl, a1, a2⟩; have H12 := Lib.hid (H11.out.2.trans (a2.bel.mono (show w.heap.size ≤ w5.heap.size from HA.out.bel.size))); clear a1 a2 HB2))
            all_goals
              go_ret
              exact ⟨rfl, H12.out⟩
end Go.Proofs.YtmcoifhiiagfpaaDoor
