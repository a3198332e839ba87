/-
  The memory behind the statements that begin an element. No walk here.
  One byte of a literal: two dots that begin an element.
  One byte of a literal: a comma inside a list.
  The words of a sequence merged into the first one: what is held. No walk here.
  One round of the loop that merges the words of a sequence.
  The loop that merges the words of a sequence.
  The memory behind the statements that cut the list of elements to its first one. No walk here.
  One byte of a literal: a comma inside a sequence, which becomes a list.
-/
import Derived.Test.YtmcoifhiiagfpaaDoorGd
namespace Go.Proofs.YtmcoifhiiagfpaaDoor
open Go.RowKit
set_option linter.unusedSectionVars false
variable [Pw]

theorem elem_end {N : Nat} {top : HW} {hf : HF} {hr : List HF} {ov : Value} {w W0 W w7 : World} {v' : Value} {sq : Bool} {xs : List Value} {ys : List Part} (h : SB N ⟨top, hf :: hr, ov⟩ w) (hx : PartsAt w (HS.live N ⟨top, hf :: hr, ov⟩) xs ys)
    (k0 : ∀ k, k < w.heap.size → k ≠ N + 2 → k ≠ hf.blk → W0.heap[k]? = w.heap[k]?) (k2 : W0.heap[N + 2]? = some (.cells #[ptr w.heap.size] 38 (0, 0))) (kp : W0.heap[w.heap.size]? = some (.cells #[.slice none 0 0] 40 (0, 0))) (kb : W0.heap[hf.blk]? = some (.cells #[.bool sq, hf.ev] 80 (0, 0))) (kz : W0.heap.size = w.heap.size + 1) (kbel : Below N w W0)
    (hB : Below W0.heap.size W0 W) (hg : W.grownBy w7 hf.ev.ownBlock) (hown : w7.ownsRow (N + 6) 38 1 v' (hf.words.length + 1) ((hf.words.map fun x => ptr x.blk) ++ [ptr w.heap.size])) (hat : v'.ownBlock = hf.ev.ownBlock ∨ v'.ownBlock = some W.heap.size) :
    Sb N ⟨top.ps, ⟨sq, hf.fr.elems, []⟩ :: hr.map HF.fr⟩ xs ys (w7.setCell ⟨hf.blk, 1, none⟩ v') ∧ Still N w (w7.setCell ⟨hf.blk, 1, none⟩ v') := by
  have hN := h.lt
  have hF := h.frames hf (List.mem_cons_self ..)
  have hbl : hf.blk < w.heap.size := (Array.getElem?_eq_some_iff.1 hF.blk).1
  have hbf := hF.far
  have hz : w.heap.size + 1 ≤ W.heap.size := by have := hB.size; omega
  have hob : ∀ g, hf.ev.ownBlock = some g → N + 6 ≤ g ∧ g < w.heap.size ∧ g ≠ hf.blk := fun g e => by
    obtain ⟨h1, c, hc⟩ := own_block hF.own e
    refine ⟨h1, (Array.getElem?_eq_some_iff.1 hc).1, fun e2 => ?_⟩
    rw [e2, hF.blk] at hc
    simp only [Option.some.injEq, Obj.cells.injEq] at hc
    exact absurd hc.2.1 (by decide)
  have up : ∀ {k : Nat} {o : Obj}, W0.heap[k]? = some o → k ≠ hf.blk → hf.ev.ownBlock ≠ some k → (w7.setCell ⟨hf.blk, 1, none⟩ v').heap[k]? = some o := fun {k o} hk n no => by
    have hk0 : k < W0.heap.size := (Array.getElem?_eq_some_iff.1 hk).1
    rw [Below.heap_setCell _ _ _ _ n, hg.block k (by omega) (fun e => no e.symm), hB.block k hk0]
    exact hk
  have K0 : ∀ k, k < w.heap.size → k ≠ N + 2 → k ≠ hf.blk → hf.ev.ownBlock ≠ some k → (w7.setCell ⟨hf.blk, 1, none⟩ v').heap[k]? = w.heap[k]? := fun k hk n2 nb no => by
    rw [Below.heap_setCell _ _ _ _ nb, hg.block k (by omega) (fun e => no e.symm), hB.block k (by omega)]
    exact k0 k hk n2 nb
  have kb7 : w7.heap[hf.blk]? = some (.cells #[.bool sq, hf.ev] 80 (0, 0)) := by
    rw [hg.block hf.blk (by omega) (fun e => (hob _ e.symm).2.2 rfl), hB.block hf.blk (by omega)]
    exact kb
  have hown2 : (w7.setCell ⟨hf.blk, 1, none⟩ v').ownsRow (N + 6) 38 1 v' (hf.words.length + 1) ((hf.words.map fun x => ptr x.blk) ++ [ptr w.heap.size]) := own_kept hown (fun g _ _ ⟨c, hc⟩ => Below.heap_setCell _ _ _ _ (fun e => by
    have e2 : g = hf.blk := e
    rw [e2, kb7] at hc
    simp only [Option.some.injEq, Obj.cells.injEq] at hc
    exact absurd hc.2.1 (by decide)))
  obtain ⟨p1, p2⟩ := h.elem (p := w.heap.size) (sq := sq) (ev' := v') (Nat.le_refl _) K0 (up k2 (by omega) (fun e => by have := (hob _ e).1; omega)) (up kp (by omega) (fun e => by have := (hob _ e).2.1; omega)) (by
    rw [heap_setCell_same _ _ _ _ _ _ kb7]
    rfl) hown2 (by
    rcases hat with e | e
    · exact Or.inl e
    · exact Or.inr ⟨_, e, by omega⟩)
  refine ⟨⟨_, p1, ?_, hx.safe p2⟩, ?_, ?_⟩
  · simp [HS.st, HF.fr, HF.words, nw, Frame.elems]
  · have h1 : Below N w w7 := (kbel.trans (hB.mono (by omega))).grown hg (by omega) (fun k hk => by have := (hob k hk).1; omega)
    exact h1.setCell (p := ⟨hf.blk, 1, none⟩) (by show N ≤ hf.blk; omega) _
  · intro k c T fz hk hT
    have hlt : k < w.heap.size := (Array.getElem?_eq_some_iff.1 hk).1
    have no : ∀ {c' : Array Value} {T' : TypeId}, w.heap[k]? = some (.cells c' T' (0, 0)) → T' ≠ 3 → T' ≠ 67 → T' ≠ 69 → False := fun {c' T'} h a1 a2 a3 => by
      rw [hk] at h
      simp only [Option.some.injEq, Obj.cells.injEq] at h
      rcases hT with e | e | e
      · exact a1 (h.2.1.symm.trans e)
      · exact a2 (h.2.1.symm.trans e)
      · exact a3 (h.2.1.symm.trans e)
    rw [K0 k hlt (fun e => by subst e; exact no h.b2 (by decide) (by decide) (by decide)) (fun e => by subst e; exact no hF.blk (by decide) (by decide) (by decide)) (fun e => by
      obtain ⟨_, c', hc⟩ := own_block hF.own e
      exact no hc (by decide) (by decide) (by decide))]
    exact hk
/-- The memory ahead of the append to the list of elements. -/
structure EW (N : Nat) (w W0 : World) (hf : HF) (sq : Bool) : Prop where
  k0 : ∀ k, k < w.heap.size → k ≠ N + 2 → k ≠ hf.blk → W0.heap[k]? = w.heap[k]?
  k2 : W0.heap[N + 2]? = some (.cells #[ptr w.heap.size] 38 (0, 0))
  kp : W0.heap[w.heap.size]? = some (.cells #[.slice none 0 0] 40 (0, 0))
  kb : W0.heap[hf.blk]? = some (.cells #[.bool sq, hf.ev] 80 (0, 0))
  kz : W0.heap.size = w.heap.size + 1
  kbel : Below N w W0

theorem ew_seq {N : Nat} {top : HW} {hf : HF} {hr : List HF} {ov : Value} {w : World} (h : SB N ⟨top, hf :: hr, ov⟩ w) (sq : Bool) : EW N w (((w.setCell ⟨hf.blk, 0, none⟩ (.bool sq)).setCell ⟨N + 2, 0, none⟩ (ptr w.heap.size)).alloc (.cells #[.slice none 0 0] 40)) hf sq := by
  have hN := h.lt
  have hF := h.frames hf (List.mem_cons_self ..)
  have hbl : hf.blk < w.heap.size := (Array.getElem?_eq_some_iff.1 hF.blk).1
  have hbf := hF.far
  refine ⟨fun k hk n2 nb => ?_, ?_, ?_, ?_, ?_, ?_⟩
  · rw [Below.heap_alloc _ _ _ (by simp only [World.size_setCell]; omega), Below.heap_setCell _ _ _ _ n2, Below.heap_setCell _ _ _ _ nb]
  · rw [Below.heap_alloc _ _ _ (by simp only [World.size_setCell]; omega)]
    refine setCell_box (a := ptr hf.acc.blk) ?_
    rw [Below.heap_setCell _ _ _ _ (by show N + 2 ≠ hf.blk; omega)]
    exact h.b2
  · have e : ((w.setCell ⟨hf.blk, 0, none⟩ (.bool sq)).setCell ⟨N + 2, 0, none⟩ (ptr w.heap.size)).heap.size = w.heap.size := by simp only [World.size_setCell]
    have := heap_alloc_new ((w.setCell ⟨hf.blk, 0, none⟩ (.bool sq)).setCell ⟨N + 2, 0, none⟩ (ptr w.heap.size)) (.cells #[.slice none 0 0] 40)
    rw [e] at this
    exact this
  · rw [Below.heap_alloc _ _ _ (by simp only [World.size_setCell]; omega), Below.heap_setCell _ _ _ _ (by show hf.blk ≠ N + 2; omega), heap_setCell_same _ _ _ _ _ _ hF.blk]
    rfl
  · simp only [World.size_alloc, World.size_setCell]
  · refine (((Below.refl N w).setCell (p := ⟨hf.blk, 0, none⟩) (by show N ≤ hf.blk; omega) _).setCell (p := ⟨N + 2, 0, none⟩) (by show N ≤ N + 2; omega) _).alloc ?_ _
    simp only [World.size_setCell]
    omega
theorem ew_list {N : Nat} {top : HW} {hf : HF} {hr : List HF} {ov : Value} {w : World} (h : SB N ⟨top, hf :: hr, ov⟩ w) : EW N w ((w.setCell ⟨N + 2, 0, none⟩ (ptr w.heap.size)).alloc (.cells #[.slice none 0 0] 40)) hf hf.seq := by
  have hN := h.lt
  have hF := h.frames hf (List.mem_cons_self ..)
  have hbl : hf.blk < w.heap.size := (Array.getElem?_eq_some_iff.1 hF.blk).1
  have hbf := hF.far
  refine ⟨fun k hk n2 nb => ?_, ?_, ?_, ?_, ?_, ?_⟩
  · rw [Below.heap_alloc _ _ _ (by simp only [World.size_setCell]; omega), Below.heap_setCell _ _ _ _ n2]
  · rw [Below.heap_alloc _ _ _ (by simp only [World.size_setCell]; omega)]
    exact setCell_box h.b2
  · have e : (w.setCell ⟨N + 2, 0, none⟩ (ptr w.heap.size)).heap.size = w.heap.size := by simp only [World.size_setCell]
    have := heap_alloc_new (w.setCell ⟨N + 2, 0, none⟩ (ptr w.heap.size)) (.cells #[.slice none 0 0] 40)
    rw [e] at this
    exact this
  · rw [Below.heap_alloc _ _ _ (by simp only [World.size_setCell]; omega), Below.heap_setCell _ _ _ _ (by show hf.blk ≠ N + 2; omega)]
    exact hF.blk
  · simp only [World.size_alloc, World.size_setCell]
  · refine ((Below.refl N w).setCell (p := ⟨N + 2, 0, none⟩) (by show N ≤ N + 2; omega) _).alloc ?_ _
    simp only [World.size_setCell]
    omega

/-- What lies there. -/
theorem EW.lies {N : Nat} {top : HW} {hf : HF} {hr : List HF} {ov : Value} {w W0 : World} {sq : Bool} (h : SB N ⟨top, hf :: hr, ov⟩ w) (e : EW N w W0 hf sq) : W0.cell? ⟨N + 3, 0, none⟩ = some (.pointer (some ⟨hf.blk, 0, none⟩)) ∧ W0.cell? ⟨N + 2, 0, none⟩ = some (.pointer (some ⟨w.heap.size, 0, none⟩)) ∧ W0.cell? ⟨hf.blk, 1, none⟩ = some hf.ev ∧ W0.frozen? ⟨hf.blk, 1, none⟩ = false ∧ N + 3 < W0.heap.size ∧ N + 2 < W0.heap.size ∧ hf.blk < W0.heap.size ∧ W0.ownsRow (N + 6) 38 1 hf.ev hf.words.length (hf.words.map fun x => ptr x.blk) ∧ N + 6 ≤ W0.heap.size := by
  have hN := h.lt
  have hF := h.frames hf (List.mem_cons_self ..)
  have hbl : hf.blk < w.heap.size := (Array.getElem?_eq_some_iff.1 hF.blk).1
  have hbf := hF.far
  have hz := e.kz
  have h3 : W0.heap[N + 3]? = some (.cells #[ptr hf.blk] 76 (0, 0)) := (e.k0 (N + 3) (by omega) (by omega) (by omega)).trans h.b3
  refine ⟨by rw [Lib.cell_of_heap h3]; rfl, by rw [Lib.cell_of_heap e.k2]; rfl, by rw [Lib.cell_of_heap e.kb]; rfl, Lib.frozen_of_heap e.kb 1, by omega, by omega, by omega, own_kept hF.own (fun g hg h6 ⟨c, hc⟩ => ?_), by omega⟩
  refine e.k0 g (Array.getElem?_eq_some_iff.1 hc).1 (by omega) (fun e2 => ?_)
  rw [e2, hF.blk] at hc
  simp only [Option.some.injEq, Obj.cells.injEq] at hc
  exact absurd hc.2.1 (by decide)
theorem elem_end2 {N : Nat} {top : HW} {hf : HF} {hr : List HF} {ov : Value} {w W0 W w7 : World} {v' : Value} {sq : Bool} {xs : List Value} {ys : List Part} (h : SB N ⟨top, hf :: hr, ov⟩ w) (hx : PartsAt w (HS.live N ⟨top, hf :: hr, ov⟩) xs ys) (e : EW N w W0 hf sq)
    (hB : Below W0.heap.size W0 W) (hg : W.grownBy w7 hf.ev.ownBlock) (hown : w7.ownsRow (N + 6) 38 1 v' (hf.words.length + 1) ((hf.words.map fun x => ptr x.blk) ++ [ptr w.heap.size])) (hat : v'.ownBlock = hf.ev.ownBlock ∨ v'.ownBlock = some W.heap.size) :
    Sb N ⟨top.ps, ⟨sq, hf.fr.elems, []⟩ :: hr.map HF.fr⟩ xs ys (w7.setCell ⟨hf.blk, 1, none⟩ v') ∧ Still N w (w7.setCell ⟨hf.blk, 1, none⟩ v') :=
  elem_end h hx e.k0 e.k2 e.kp e.kb e.kz e.kbel hB hg hown hat
/-- Behind the append, ahead of the store. -/
theorem EW.after {N : Nat} {top : HW} {hf : HF} {hr : List HF} {ov : Value} {w W0 W w7 : World} {sq : Bool} (h : SB N ⟨top, hf :: hr, ov⟩ w) (e : EW N w W0 hf sq) (hB : Below W0.heap.size W0 W) (hg : W.grownBy w7 hf.ev.ownBlock) : w7.heap[hf.blk]? = some (.cells #[.bool sq, hf.ev] 80 (0, 0)) ∧ w7.heap[N + 3]? = some (.cells #[ptr hf.blk] 76 (0, 0)) ∧ w7.heap[N + 2]? = some (.cells #[ptr w.heap.size] 38 (0, 0)) := by
  have hN := h.lt
  have hF := h.frames hf (List.mem_cons_self ..)
  have hbl : hf.blk < w.heap.size := (Array.getElem?_eq_some_iff.1 hF.blk).1
  have hbf := hF.far
  have hz := e.kz
  have hs := hB.size
  have ne : some hf.blk ≠ hf.ev.ownBlock := fun e2 => by
    obtain ⟨_, c, hc⟩ := own_block hF.own e2.symm
    rw [hF.blk] at hc
    simp only [Option.some.injEq, Obj.cells.injEq] at hc
    exact absurd hc.2.1 (by decide)
  have n2 : some (N + 2) ≠ hf.ev.ownBlock := fun e2 => by
    obtain ⟨h6, _⟩ := own_block hF.own e2.symm
    omega
  have n3 : some (N + 3) ≠ hf.ev.ownBlock := fun e2 => by
    obtain ⟨h6, _⟩ := own_block hF.own e2.symm
    omega
  refine ⟨?_, ?_, ?_⟩
  · rw [hg.block _ (by omega) ne, hB.block _ (by omega)]
    exact e.kb
  · rw [hg.block _ (by omega) n3, hB.block _ (by omega), e.k0 (N + 3) (by omega) (by omega) (by omega)]
    exact h.b3
  · rw [hg.block _ (by omega) n2, hB.block _ (by omega)]
    exact e.k2
end Go.Proofs.YtmcoifhiiagfpaaDoor

namespace Go.Proofs.YtmcoifhiiagfpaaDoor
open Go.RowKit
set_option linter.unusedSectionVars false
variable [Pw]

theorem Tryd.info_pword : (Tryd.prog.info? 38).map (fun i => (i.zero, i.size, i.bytes)) = some (some (.pointer none), 1, 8) := by kernel_rfl

set_option linter.unusedSimpArgs false in
set_option maxRecDepth 1000000 in
set_option maxHeartbeats 2000000 in
theorem byte_dots {N p : Nat} {c50 c51 c52 : Value} {lx la jb : Nat} {a : Act} (fr : Fr N p c50 c51 c52 lx la jb a) {v : ByteArray} {q j last : Nat} {st : St} {xs : List Value} {ys : List Part} {w0 w : World} (m : In N v q lx la jb j last st xs ys w0 w) (hj : j < v.size) (hv : v.size ≤ 100000000)
    (hc : bt v j = 46) (fr0 : Frame) (r0 : List Frame) (hst : st.stack = fr0 :: r0) (hsq : fr0.seq = true ∨ fr0.done = []) (hdl : fr0.done.length ≤ 100000000) (hl : last ≤ j) (hcur : st.cur.length ≤ 100000000) (f6 : Frame) (r6 : List Frame) (hst6 : (st.flush v last j).stack = f6 :: r6) (hj1 : j + 1 < v.size) (hnx : bt v (j + 1) = 46) (h6d : f6.done.length ≤ 100000000) (Q0 : Exit → Act → World → Prop) :
    Code.wp Tryd.prog (bodyOf 1) (Exit.then (fun a' w' => ∃ jb', Fr N p c50 c51 c52 lx la jb' a' ∧ In N v q lx la jb' (j + 2) (j + 2) { (st.flush v last j) with stack := ⟨true, f6.elems, []⟩ :: r6 } xs ys w0 w') Q0) a w := by
  obtain ⟨f, hf, ht⟩ := frame_lit a.tmps fr.size
  obtain ⟨t, d⟩ := a
  have hd : d = [] := fr.defers
  subst hd
  have h0 := (hf 0).trans fr.s0
  have h2 := (hf 2).trans fr.s2
  have h3 := (hf 3).trans fr.s3
  have h4 := (hf 4).trans fr.s4
  have h5 := (hf 5).trans fr.s5
  have h6 := (hf 6).trans fr.s6
  have h7 := (hf 7).trans fr.s7
  have h8 := (hf 8).trans fr.s8
  have h11 := (hf 11).trans fr.s11
  have h13 := (hf 13).trans fr.s13
  have h14 := (hf 14).trans fr.s14
  have h50 := (hf 50).trans fr.s50
  have h51 := (hf 51).trans fr.s51
  have h52 := (hf 52).trans fr.s52
  simp only [h0, h2, h3, h4, h5, h6, h7, h8, h11, h13, h14, h50, h51, h52] at ht
  have ht2 : t = _ := ht
  subst ht2
  clear hf ht fr h0 h2 h3 h4 h5 h6 h7 h8 h11 h13 h14 h50 h51 h52
  obtain ⟨x1, x2, x3, x4, hqb⟩ := m.lit
  have bx := m.bx
  have bl := m.bl
  have bj := m.bj
  have cj : w.cell? ⟨jb, 0, none⟩ = some (.int .i64 j) := by rw [Lib.cell_of_heap bj]; rfl
  have cx : w.cell? ⟨lx, 0, none⟩ = some (.pointer (some ⟨q, 0, none⟩)) := by rw [Lib.cell_of_heap bx]; rfl
  have q4 : w.cell? ⟨q, 4, none⟩ = some (.string v) := by rw [Lib.cell_of_heap hqb]; rfl
  have zj : w.frozen? ⟨jb, 0, none⟩ = false := Lib.frozen_of_heap bj 0
  have sj : jb < w.heap.size := (Array.getElem?_eq_some_iff.1 bj).1
  have hz : (j : Int) < (v.size : Int) ∧ (v.size : Int) ≤ 100000000 := by omega
  obtain ⟨bb, be, cap, cn, cs, ce⟩ : ∃ bb be cap : Nat, w.cell? ⟨N + 3, 0, none⟩ = some (.pointer (some ⟨bb, 0, none⟩)) ∧ w.cell? ⟨bb, 0, none⟩ = some (.bool fr0.seq) ∧ w.cell? ⟨bb, 1, none⟩ = some (.slice (some ⟨be, 0, none⟩) (fr0.done.length + 1) cap) := by
    obtain ⟨hs, h1, h2, _⟩ := m.sb
    obtain ⟨top, frames, ov⟩ := hs
    cases frames with
    | nil =>
      rw [← h2] at hst
      simp [HS.st] at hst
    | cons hf hr =>
      rw [← h2] at hst
      simp only [HS.st, List.map_cons, List.cons.injEq] at hst
      have hF := h1.frames hf (List.mem_cons_self ..)
      have hsq2 : hf.seq = fr0.seq := by rw [← hst.1]; rfl
      have hdl2 : hf.words.length = fr0.done.length + 1 := by rw [← hst.1]; simp [HF.words, HF.fr]
      obtain ⟨e, cap, cur, hev, _⟩ := own_row hF.own (by omega)
      refine ⟨hf.blk, e, cap, ?_, ?_, ?_⟩
      · rw [Lib.cell_of_heap h1.b3]
        rfl
      · rw [Lib.cell_of_heap hF.blk, hsq2]
        rfl
      · rw [Lib.cell_of_heap hF.blk, hev, hdl2]
        rfl
  have hdp : (fr0.done.length : Int) ≤ 100000000 := by omega
  have hsd : fr0.seq = true ∨ (fr0.seq = false ∧ fr0.done.length = 0) := by
    cases hs : fr0.seq with
    | true => exact Or.inl rfl
    | false =>
      rcases hsq with h | h
      · rw [hs] at h; cases h
      · exact Or.inr ⟨rfl, by rw [h]; rfl⟩
  generalize fr0.done.length = D at *
  generalize fr0.seq = sq0 at *
  have hg : (v[j]'hj).toNat = 46 := by rw [← bt_get v j hj]; exact hc
  have M := Lib.hid m
  have hg2 : (v[j + 1]'hj1).toNat = 46 := by rw [← bt_get v (j + 1) hj1]; exact hnx
  clear hqb bx bl bj m hst hc hdl hnx
  conv => arg 2; whnf
  unfold ptr
  go_upto_region 17 with fail
  go_quiet (fail)
  have e7 : (w.drewN nq).cell? ⟨bb, 0, none⟩ = some (.bool sq0) := cs
  have e8 : (w.drewN nq).cell? ⟨bb, 1, none⟩ = some (.slice (some ⟨be, 0, none⟩) (D + 1) cap) := ce
  have e6 : (w.drewN nq).cell? ⟨N + 3, 0, none⟩ = some (.pointer (some ⟨bb, 0, none⟩)) := cn
  have e1 : (w.drewN nq).cell? ⟨jb, 0, none⟩ = some (.int .i64 j) := cj
  have e2 : (w.drewN nq).cell? ⟨lx, 0, none⟩ = some (.pointer (some ⟨q, 0, none⟩)) := cx
  have e3 : (w.drewN nq).cell? ⟨q, 4, none⟩ = some (.string v) := q4
  have e4 : (w.drewN nq).frozen? ⟨jb, 0, none⟩ = false := zj
  have e5 : jb < (w.drewN nq).heap.size := sj
  have HD := Lib.hid (below_drewN (Below.refl w.heap.size w) nq)
  generalize w.drewN nq = w1 at *
  clear cj cx q4 zj sj cn cs ce
  go_upto_region 20 with fail
  go_quiet (fail)
  have g1 : (w1.drewN nq).cell? ⟨jb, 0, none⟩ = some (.int .i64 j) := e1
  have g2 : (w1.drewN nq).cell? ⟨lx, 0, none⟩ = some (.pointer (some ⟨q, 0, none⟩)) := e2
  have g3 : (w1.drewN nq).cell? ⟨q, 4, none⟩ = some (.string v) := e3
  have g5 : jb < (w1.drewN nq).heap.size := e5
  have g7 : (w1.drewN nq).cell? ⟨bb, 0, none⟩ = some (.bool sq0) := e7
  have g8 : (w1.drewN nq).cell? ⟨bb, 1, none⟩ = some (.slice (some ⟨be, 0, none⟩) (D + 1) cap) := e8
  have g6 : (w1.drewN nq).cell? ⟨N + 3, 0, none⟩ = some (.pointer (some ⟨bb, 0, none⟩)) := e6
  have HD2 := Lib.hid (HD.out.trans (below_drewN (Below.refl w.heap.size w1) nq))
  generalize w1.drewN nq = w2 at *
  clear e1 e2 e3 e4 e5 e6 e7 e8
  go_upto_region 46 with fail
  have hwr : IntKind.i64.wrap ((j : Int) + 1) = (j : Int) + 1 := by rw [IntKind.wrap_i64]; omega
  have d2 : (j : Int) + 1 < (v.size : Int) := by omega
  have d1 : decide ((v.size : Int) ≤ (j : Int) + 1) = false := decide_eq_false (by omega)
  go_quiet (fail)
  have k1 : (w2.drewN nq).cell? ⟨jb, 0, none⟩ = some (.int .i64 j) := g1
  have k6 : (w2.drewN nq).cell? ⟨N + 3, 0, none⟩ = some (.pointer (some ⟨bb, 0, none⟩)) := g6
  have k7 : (w2.drewN nq).cell? ⟨bb, 0, none⟩ = some (.bool sq0) := g7
  have k8 : (w2.drewN nq).cell? ⟨bb, 1, none⟩ = some (.slice (some ⟨be, 0, none⟩) (D + 1) cap) := g8
  have HD3 := Lib.hid (HD2.out.trans (below_drewN (Below.refl w.heap.size w2) nq))
  generalize w2.drewN nq = w3 at *
  have k2 : (lx : Nat) = lx := rfl
  clear g1 g2 g3 g5 g6 g7 g8 hwr d1 d2 k2
  have HM3 := Lib.hid (M.out.grow HD3.out)
  have HCALL := Lib.hid (addIdx_any N la jb lx q st xs ys w3 v last j HM3.out.sb HM3.out.bl HM3.out.bj HM3.out.bx HM3.out.lit hl (by omega) hv hcur)
  have HST6 := Lib.hid hst6
  clear hl hcur hst6
  rcases hsd with rfl | ⟨rfl, rfl⟩
  all_goals
    go_upto_region 49 with (go_at_call 26; refine (HCALL.out).mono ?_; rintro e w6 ⟨rfl, h6, h6s⟩)
  all_goals
    have HM6 := Lib.hid (HM3.out.state h6 h6s)
    obtain ⟨hs, hsb, hst, hxy⟩ := h6
    obtain ⟨top, frames, ov⟩ := hs
    cases frames with
    | nil =>
      exfalso
      have := HST6.out
      rw [← hst] at this
      simp [HS.st] at this
    | cons hf hr =>
      have HST := Lib.hid hst
      have hF := hsb.frames hf (List.mem_cons_self ..)
      have HSB := Lib.hid hsb
      have HXY := Lib.hid hxy
      have HFK := Lib.hid hF
      have hb2 := hsb.b2
      have hb3 := hsb.b3
      have n2 : w6.cell? ⟨N + 2, 0, none⟩ = some (ptr hf.acc.blk) := by rw [Lib.cell_of_heap hb2]; rfl
      have n3 : w6.cell? ⟨N + 3, 0, none⟩ = some (.pointer (some ⟨hf.blk, 0, none⟩)) := by rw [Lib.cell_of_heap hb3]; rfl
      have n0 : w6.cell? ⟨hf.blk, 0, none⟩ = some (.bool hf.seq) := by rw [Lib.cell_of_heap hF.blk]; rfl
      have f2 : w6.frozen? ⟨N + 2, 0, none⟩ = false := Lib.frozen_of_heap hb2 0
      have f0 : w6.frozen? ⟨hf.blk, 0, none⟩ = false := Lib.frozen_of_heap hF.blk 0
      have hN6 := hsb.lt
      have m2 : N + 2 < w6.heap.size := by omega
      have m3 : N + 3 < w6.heap.size := by omega
      have mb : hf.blk < w6.heap.size := (Array.getElem?_eq_some_iff.1 hF.blk).1
      have ne2 : ¬ hf.blk = N + 2 := by have := hF.far; omega
      have ne3 : ¬ hf.blk = N + 3 := by have := hF.far; omega
      clear hb2 hb3 hst hxy hsb h6s hF HCALL
      go_upto_region 51 with fail
      have hew := ew_seq HSB.out true
      change Code.wp _ _ _ _ (((w6.setCell ⟨hf.blk, 0, none⟩ (.bool true)).setCell ⟨N + 2, 0, none⟩ (ptr w6.heap.size)).alloc (.cells #[.slice none 0 0] 40))
      generalize ((w6.setCell ⟨hf.blk, 0, none⟩ (.bool true)).setCell ⟨N + 2, 0, none⟩ (ptr w6.heap.size)).alloc (.cells #[.slice none 0 0] 40) = W0 at *
      obtain ⟨c3, c2, c1, z1, s3, s2, sb, ho, hb6⟩ := hew.lies HSB.out
      have HEW := Lib.hid hew
      have HO := Lib.hid ho
      have HL := Lib.hid (show hf.words.length ≤ 100000001 by
        have e1 := congrArg St.stack HST.out
        rw [HST6.out] at e1
        simp only [HS.st, List.map_cons, List.cons.injEq] at e1
        rw [← e1.1] at h6d
        simp only [HF.fr, List.length_map] at h6d
        simp only [HF.words, List.length_append, List.length_cons, List.length_nil]
        omega)
      clear n2 n3 n0 f2 f0 hew ho m2 m3 mb h6d k1 k6 k7 k8
      obtain ⟨ib, hib, hb0, hb1, hb2⟩ := info_parts Tryd.info_pword
      refine region_anyE (fun w' => w'.cell? ⟨N + 3, 0, none⟩ = some (.pointer (some ⟨hf.blk, 0, none⟩)) ∧ w'.cell? ⟨hf.blk, 1, none⟩ = some hf.ev ∧ w'.cell? ⟨N + 2, 0, none⟩ = some (.pointer (some ⟨w6.heap.size, 0, none⟩))) 10 (by kernel_rfl) ?_ (fun hS hC => ?_)
      · (try dsimp only); go_keep
      refine anyE_take (i := 0) (v := ?_) [0] (by kernel_rfl) rfl (fun _ _ _ h => h) (by rfl) ?_ hC hS ?_
      rotate_left
      · intro w hSw
        (try dsimp only at hSw)
        go_simp
        (try with_reducible rfl)
      clear hC
      intro hC
      try simp only [Act.put, List.setIfInBounds_toArray, List.set_cons_zero, List.set_cons_succ]
      refine anyE_take (i := 1) (v := ?_) [1] (by kernel_rfl) rfl (fun _ _ _ h => h) (by rfl) ?_ hC hS ?_
      rotate_left
      · intro w hSw
        (try dsimp only at hSw)
        go_simp
        (try with_reducible rfl)
      clear hC
      intro hC
      try simp only [Act.put, List.setIfInBounds_toArray, List.set_cons_zero, List.set_cons_succ]
      refine anyE_take (i := 2) (v := ?_) [2] (by kernel_rfl) rfl (fun _ _ _ h => h) (by rfl) ?_ hC hS ?_
      rotate_left
      · intro w hSw
        (try dsimp only at hSw)
        go_simp
        (try with_reducible rfl)
      clear hC
      intro hC
      try simp only [Act.put, List.setIfInBounds_toArray, List.set_cons_zero, List.set_cons_succ]
      refine anyE_take (i := 3) (v := ?_) [3] (by kernel_rfl) rfl (fun _ _ _ h => h) (by rfl) ?_ hC hS ?_
      rotate_left
      · intro w hSw
        (try dsimp only at hSw)
        go_simp
        (try with_reducible rfl)
      clear hC
      intro hC
      try simp only [Act.put, List.setIfInBounds_toArray, List.set_cons_zero, List.set_cons_succ]
      refine anyE_take (i := 4) (v := ?_) [4] (by kernel_rfl) rfl (fun _ _ _ h => h) (by rfl) ?_ hC hS ?_
      rotate_left
      · intro w hSw
        (try dsimp only at hSw)
        go_simp
        (try with_reducible rfl)
      clear hC
      intro hC
      try simp only [Act.put, List.setIfInBounds_toArray, List.set_cons_zero, List.set_cons_succ]
      refine anyE_take (i := 5) (v := ?_) [5] (by kernel_rfl) rfl (fun _ _ _ h => h) (by rfl) ?_ hC hS ?_
      rotate_left
      · intro w hSw
        (try dsimp only at hSw)
        go_simp
        (try with_reducible rfl)
      clear hC
      intro hC
      try simp only [Act.put, List.setIfInBounds_toArray, List.set_cons_zero, List.set_cons_succ]
      refine anyE_one (i := 6) (by kernel_rfl) hC rfl (fun K hK => ?_)
      clear hC
      go_simp
      refine hK.out _ _ ?_ ?_
      · (try dsimp only); go_keep
      clear hS
      intro hS hC
      clear hK K
      try simp only [Act.put, List.setIfInBounds_toArray, List.set_cons_zero, List.set_cons_succ]
      refine anyE_one (i := 7) (by kernel_rfl) hC rfl (fun K hK => ?_)
      clear hC
      refine step_append_lies _ (by rfl) _ _ 78 (by rfl) (N + 6) 38 ib (.pointer none) 1 8 Tryd.underlying78 hib hb0 hb1 hb2 rfl (by decide) _ _ _ (by rfl) ((HO.out.alloc _).drew) ⟨W0.heap.size, 0, none⟩ 1 1 [.pointer (some ⟨w6.heap.size, 0, none⟩)] (by rfl) (by rfl) (World.news_of_block (cs := #[.pointer (some ⟨w6.heap.size, 0, none⟩)]) (t := 38) (fr := (0, 0)) (heap_alloc_new W0 _)) (by simp [Value.oneCell']) (by decide) (by have := HL.out; unfold maxLen; omega) (by have := HL.out; omega) (by rw [alloc_size]; omega) (W0.heap.size + 1) (by simp) ?_; intro g7 cap7 w7 hown7 hgrow7 hat7 _; have hh := HEW.out.after HSB.out (((Below.refl W0.heap.size W0).alloc (Nat.le_refl _) _).drew) hgrow7; have hc7 : w7.cell? ⟨hf.blk, 1, none⟩ = some hf.ev := (Lib.cell_of_heap hh.1 1).trans rfl; have hz7 : w7.frozen? ⟨hf.blk, 1, none⟩ = false := Lib.frozen_of_heap hh.1 1; have hd7 : w7.cell? ⟨N + 3, 0, none⟩ = some (.pointer (some ⟨hf.blk, 0, none⟩)) := (Lib.cell_of_heap hh.2.1 0).trans rfl; have hp7 : w7.cell? ⟨N + 2, 0, none⟩ = some (.pointer (some ⟨w6.heap.size, 0, none⟩)) := (Lib.cell_of_heap hh.2.2 0).trans rfl; have H7 := Lib.hid (And.intro hown7 (And.intro hgrow7 hat7)); clear hown7 hgrow7 hat7 hh
      refine hK.out _ _ ?_ ?_
      · (try dsimp only); exact ⟨hd7, hc7, hp7⟩
      clear hS
      intro hS hC
      clear hK K
      try simp only [Act.put, List.setIfInBounds_toArray, List.set_cons_zero, List.set_cons_succ]
      refine anyE_take (i := 8) (v := ?_) [9, 8] (by kernel_rfl) rfl (fun _ _ _ h => h) (by rfl) ?_ hC hS ?_
      rotate_left
      · intro w hSw
        (try dsimp only at hSw)
        go_simp
        (try with_reducible rfl)
      clear hC
      intro hC
      try simp only [Act.put, List.setIfInBounds_toArray, List.set_cons_zero, List.set_cons_succ]
      refine anyE_take (i := 9) (v := ?_) [9] (by kernel_rfl) rfl (fun _ _ _ h => h) (by rfl) ?_ hC hS ?_
      rotate_left
      · intro w hSw
        (try dsimp only at hSw)
        go_simp
        (try with_reducible rfl)
      clear hC
      intro hC
      try simp only [Act.put, List.setIfInBounds_toArray, List.set_cons_zero, List.set_cons_succ]
      refine anyE_last (by kernel_rfl) rfl (by kernel_rfl) (fun K hK => ?_)
      clear hC
      go_simp
      refine hK.out _ _ ?_
      clear hK K hS
      refine NoPanic.normal ?_
      try simp only [Act.put, List.setIfInBounds_toArray, List.set_cons_zero, List.set_cons_succ]
      obtain ⟨e7, s7⟩ := elem_end2 (v' := .slice (some ⟨g7, 0, none⟩) (hf.words.length + 1) cap7) HSB.out HXY.out HEW.out (((Below.refl W0.heap.size W0).alloc (Nat.le_refl _) _).drew) H7.out.2.1 H7.out.1 (by
        rcases H7.out.2.2 with e | e
        · exact Or.inl e.symm
        · exact Or.inr (by rw [alloc_size]; exact congrArg some e))
      have hS1 : top.ps = (st.flush v last j).top := by rw [← HST.out]; rfl
      have hS2 : hf.fr = f6 ∧ hr.map HF.fr = r6 := by
        have e1 := congrArg St.stack HST.out
        rw [HST6.out] at e1
        simpa only [HS.st, List.map_cons, List.cons.injEq] using e1
      rw [hS1, hS2.1, hS2.2] at e7
      clear hS1 hS2
      have hm7 := HM6.out.state e7 s7
      have HM7 := Lib.hid hm7
      clear hc7 hz7 hd7 H7 e7 s7 hm7
      generalize w7.setCell ⟨hf.blk, 1, none⟩ (.slice (some ⟨g7, 0, none⟩) (hf.words.length + 1) cap7) = w8 at *
      have hbj := HM7.out.bj
      have y1 : w8.cell? ⟨jb, 0, none⟩ = some (.int .i64 j) := by rw [Lib.cell_of_heap hbj]; rfl
      have y3 : w8.frozen? ⟨jb, 0, none⟩ = false := Lib.frozen_of_heap hbj 0
      have y4 : jb < w8.heap.size := (Array.getElem?_eq_some_iff.1 hbj).1
      clear hbj c3 c2 c1 z1 s3 s2 sb hb6 hp7
      have hms := HM7.out.setj (j + 1)
      rw [Int.natCast_add, Int.natCast_one] at hms
      have HMS := Lib.hid hms
      clear hms
      go_upto_region 95 with fail
      have k1 : (w8.setCell ⟨jb, 0, none⟩ (.int .i64 ((j : Int) + 1))).cell? ⟨jb, 0, none⟩ = some (.int .i64 ((j : Int) + 1)) := by have := HMS.out.bj; rw [Lib.cell_of_heap this]; rfl
      have k2 : (w8.setCell ⟨jb, 0, none⟩ (.int .i64 ((j : Int) + 1))).cell? ⟨la, 0, none⟩ = some (.int .i64 last) := by have := HMS.out.bl; rw [Lib.cell_of_heap this]; rfl
      have k3 : (w8.setCell ⟨jb, 0, none⟩ (.int .i64 ((j : Int) + 1))).frozen? ⟨la, 0, none⟩ = false := Lib.frozen_of_heap HMS.out.bl 0
      have k4 : jb < (w8.setCell ⟨jb, 0, none⟩ (.int .i64 ((j : Int) + 1))).heap.size := (Array.getElem?_eq_some_iff.1 HMS.out.bj).1
      have k5 : la < (w8.setCell ⟨jb, 0, none⟩ (.int .i64 ((j : Int) + 1))).heap.size := (Array.getElem?_eq_some_iff.1 HMS.out.bl).1
      generalize w8.setCell ⟨jb, 0, none⟩ (.int .i64 ((j : Int) + 1)) = w9 at *
      clear y1 y3 y4
      have hms := HMS.out.setl (j + 1 + 1)
      rw [Int.natCast_add, Int.natCast_add, Int.natCast_one] at hms
      have HM9 := Lib.hid hms
      clear hms
      go_upto_region 96 with fail
      have k6 : (w9.setCell ⟨la, 0, none⟩ (.int .i64 ((j : Int) + 1 + 1))).cell? ⟨jb, 0, none⟩ = some (.int .i64 ((j : Int) + 1)) := by have := HM9.out.bj; rw [Lib.cell_of_heap this]; rfl
      generalize w9.setCell ⟨la, 0, none⟩ (.int .i64 ((j : Int) + 1 + 1)) = w10 at *
      clear k1 k2 k3 k4 k5
      go_wp2_with fail
      have hn := HM9.out.next (Below.refl _ _) (j + 1 + 1)
      rw [Int.natCast_add, Int.natCast_add, Int.natCast_one] at hn
      exact ⟨_, ⟨rfl, rfl, rfl, rfl, rfl, rfl, rfl, rfl, rfl, rfl, rfl, rfl, rfl, rfl, rfl, rfl⟩, hn⟩
end Go.Proofs.YtmcoifhiiagfpaaDoor

namespace Go.Proofs.YtmcoifhiiagfpaaDoor
open Go.RowKit
set_option linter.unusedSectionVars false
variable [Pw]

set_option linter.unusedSimpArgs false in
set_option maxRecDepth 1000000 in
set_option maxHeartbeats 2000000 in
theorem byte_comma {N p : Nat} {c50 c51 c52 : Value} {lx la jb : Nat} {a : Act} (fr : Fr N p c50 c51 c52 lx la jb a) {v : ByteArray} {q j last : Nat} {st : St} {xs : List Value} {ys : List Part} {w0 w : World} (m : In N v q lx la jb j last st xs ys w0 w) (hj : j < v.size) (hv : v.size ≤ 100000000)
    (hc : bt v j = 44) (fr0 : Frame) (r0 : List Frame) (hst : st.stack = fr0 :: r0) (hl : last ≤ j) (hcur : st.cur.length ≤ 100000000) (f6 : Frame) (r6 : List Frame) (hst6 : (st.flush v last j).stack = f6 :: r6) (hsq : f6.seq = false) (h6d : f6.done.length ≤ 100000000) (Q0 : Exit → Act → World → Prop) :
    Code.wp Tryd.prog (bodyOf 1) (Exit.then (fun a' w' => ∃ jb', Fr N p c50 c51 c52 lx la jb' a' ∧ In N v q lx la jb' (j + 1) (j + 1) { (st.flush v last j) with stack := ⟨false, f6.elems, []⟩ :: r6 } xs ys w0 w') Q0) a w := by
  obtain ⟨f, hf, ht⟩ := frame_lit a.tmps fr.size
  obtain ⟨t, d⟩ := a
  have hd : d = [] := fr.defers
  subst hd
  have h0 := (hf 0).trans fr.s0
  have h2 := (hf 2).trans fr.s2
  have h3 := (hf 3).trans fr.s3
  have h4 := (hf 4).trans fr.s4
  have h5 := (hf 5).trans fr.s5
  have h6 := (hf 6).trans fr.s6
  have h7 := (hf 7).trans fr.s7
  have h8 := (hf 8).trans fr.s8
  have h11 := (hf 11).trans fr.s11
  have h13 := (hf 13).trans fr.s13
  have h14 := (hf 14).trans fr.s14
  have h50 := (hf 50).trans fr.s50
  have h51 := (hf 51).trans fr.s51
  have h52 := (hf 52).trans fr.s52
  simp only [h0, h2, h3, h4, h5, h6, h7, h8, h11, h13, h14, h50, h51, h52] at ht
  have ht2 : t = _ := ht
  subst ht2
  clear hf ht fr h0 h2 h3 h4 h5 h6 h7 h8 h11 h13 h14 h50 h51 h52
  obtain ⟨x1, x2, x3, x4, hqb⟩ := m.lit
  have bx := m.bx
  have bl := m.bl
  have bj := m.bj
  have cj : w.cell? ⟨jb, 0, none⟩ = some (.int .i64 j) := by rw [Lib.cell_of_heap bj]; rfl
  have cx : w.cell? ⟨lx, 0, none⟩ = some (.pointer (some ⟨q, 0, none⟩)) := by rw [Lib.cell_of_heap bx]; rfl
  have q4 : w.cell? ⟨q, 4, none⟩ = some (.string v) := by rw [Lib.cell_of_heap hqb]; rfl
  have zj : w.frozen? ⟨jb, 0, none⟩ = false := Lib.frozen_of_heap bj 0
  have sj : jb < w.heap.size := (Array.getElem?_eq_some_iff.1 bj).1
  have hz : (j : Int) < (v.size : Int) ∧ (v.size : Int) ≤ 100000000 := by omega
  obtain ⟨bb, cn⟩ : ∃ bb : Nat, w.cell? ⟨N + 3, 0, none⟩ = some (.pointer (some ⟨bb, 0, none⟩)) := by
    obtain ⟨hs, h1, h2, _⟩ := m.sb
    obtain ⟨top, frames, ov⟩ := hs
    cases frames with
    | nil =>
      rw [← h2] at hst
      simp [HS.st] at hst
    | cons hf hr =>
      refine ⟨hf.blk, ?_⟩
      rw [Lib.cell_of_heap h1.b3]
      rfl
  have hg : (v[j]'hj).toNat = 44 := by rw [← bt_get v j hj]; exact hc
  have M := Lib.hid m
  clear hqb bx bl bj m hst hc
  conv => arg 2; whnf
  unfold ptr
  go_upto_region 17 with fail
  go_quiet (fail)
  have e6 : (w.drewN nq).cell? ⟨N + 3, 0, none⟩ = some (.pointer (some ⟨bb, 0, none⟩)) := cn
  have e1 : (w.drewN nq).cell? ⟨jb, 0, none⟩ = some (.int .i64 j) := cj
  have e2 : (w.drewN nq).cell? ⟨lx, 0, none⟩ = some (.pointer (some ⟨q, 0, none⟩)) := cx
  have e3 : (w.drewN nq).cell? ⟨q, 4, none⟩ = some (.string v) := q4
  have e4 : (w.drewN nq).frozen? ⟨jb, 0, none⟩ = false := zj
  have e5 : jb < (w.drewN nq).heap.size := sj
  have HD := Lib.hid (below_drewN (Below.refl w.heap.size w) nq)
  generalize w.drewN nq = w1 at *
  clear cj cx q4 zj sj cn
  go_upto_region 20 with fail
  go_quiet (fail)
  have g6 : (w1.drewN nq).cell? ⟨N + 3, 0, none⟩ = some (.pointer (some ⟨bb, 0, none⟩)) := e6
  have HD3 := Lib.hid (HD.out.trans (below_drewN (Below.refl w.heap.size w1) nq))
  generalize w1.drewN nq = w3 at *
  clear e1 e2 e3 e4 e5 e6
  have HM3 := Lib.hid (M.out.grow HD3.out)
  have HCALL := Lib.hid (addIdx_any N la jb lx q st xs ys w3 v last j HM3.out.sb HM3.out.bl HM3.out.bj HM3.out.bx HM3.out.lit hl (by omega) hv hcur)
  have HST6 := Lib.hid hst6
  clear hl hcur hst6
  have HSQ := Lib.hid hsq
  clear hsq
  go_upto_region 31 with (go_at_call 26; refine (HCALL.out).mono ?_; rintro e w6 ⟨rfl, h6, h6s⟩)
  all_goals
    have HM6 := Lib.hid (HM3.out.state h6 h6s)
    obtain ⟨hs, hsb, hst, hxy⟩ := h6
    obtain ⟨top, frames, ov⟩ := hs
    cases frames with
    | nil =>
      exfalso
      have := HST6.out
      rw [← hst] at this
      simp [HS.st] at this
    | cons hf hr =>
      have HST := Lib.hid hst
      have hF := hsb.frames hf (List.mem_cons_self ..)
      have HSB := Lib.hid hsb
      have HXY := Lib.hid hxy
      have HFK := Lib.hid hF
      have hb2 := hsb.b2
      have hb3 := hsb.b3
      have n2 : w6.cell? ⟨N + 2, 0, none⟩ = some (ptr hf.acc.blk) := by rw [Lib.cell_of_heap hb2]; rfl
      have n3 : w6.cell? ⟨N + 3, 0, none⟩ = some (.pointer (some ⟨hf.blk, 0, none⟩)) := by rw [Lib.cell_of_heap hb3]; rfl
      have hfq : hf.seq = false := by
        have e1 := congrArg St.stack HST.out
        rw [HST6.out] at e1
        simp only [HS.st, List.map_cons, List.cons.injEq] at e1
        have e2 := HSQ.out
        rw [← e1.1] at e2
        exact e2
      have n0 : w6.cell? ⟨hf.blk, 0, none⟩ = some (.bool false) := by rw [Lib.cell_of_heap hF.blk, hfq]; rfl
      have f2 : w6.frozen? ⟨N + 2, 0, none⟩ = false := Lib.frozen_of_heap hb2 0
      have f0 : w6.frozen? ⟨hf.blk, 0, none⟩ = false := Lib.frozen_of_heap hF.blk 0
      have hN6 := hsb.lt
      have m2 : N + 2 < w6.heap.size := by omega
      have m3 : N + 3 < w6.heap.size := by omega
      have mb : hf.blk < w6.heap.size := (Array.getElem?_eq_some_iff.1 hF.blk).1
      have ne2 : ¬ hf.blk = N + 2 := by have := hF.far; omega
      have ne3 : ¬ hf.blk = N + 3 := by have := hF.far; omega
      clear hb2 hb3 hst hxy hsb h6s hF HCALL
      have HFQ := Lib.hid hfq
      clear hfq
      go_upto_region 43 with fail
      have hew : EW N w6 _ hf false := HFQ.out ▸ ew_list HSB.out
      change Code.wp _ _ _ _ ((w6.setCell ⟨N + 2, 0, none⟩ (ptr w6.heap.size)).alloc (.cells #[.slice none 0 0] 40))
      generalize (w6.setCell ⟨N + 2, 0, none⟩ (ptr w6.heap.size)).alloc (.cells #[.slice none 0 0] 40) = W0 at *
      obtain ⟨c3, c2, c1, z1, s3, s2, sb, ho, hb6⟩ := hew.lies HSB.out
      have HEW := Lib.hid hew
      have HO := Lib.hid ho
      have HL := Lib.hid (show hf.words.length ≤ 100000001 by
        have e1 := congrArg St.stack HST.out
        rw [HST6.out] at e1
        simp only [HS.st, List.map_cons, List.cons.injEq] at e1
        rw [← e1.1] at h6d
        simp only [HF.fr, List.length_map] at h6d
        simp only [HF.words, List.length_append, List.length_cons, List.length_nil]
        omega)
      clear n2 n3 n0 f2 f0 hew ho m2 m3 mb h6d g6
      obtain ⟨ib, hib, hb0, hb1, hb2⟩ := info_parts Tryd.info_pword
      refine region_anyE (fun w' => w'.cell? ⟨N + 3, 0, none⟩ = some (.pointer (some ⟨hf.blk, 0, none⟩)) ∧ w'.cell? ⟨hf.blk, 1, none⟩ = some hf.ev ∧ w'.cell? ⟨N + 2, 0, none⟩ = some (.pointer (some ⟨w6.heap.size, 0, none⟩))) 10 (by kernel_rfl) ?_ (fun hS hC => ?_)
      · (try dsimp only); go_keep
      refine anyE_take (i := 0) (v := ?_) [0] (by kernel_rfl) rfl (fun _ _ _ h => h) (by rfl) ?_ hC hS ?_
      rotate_left
      · intro w hSw
        (try dsimp only at hSw)
        go_simp
        (try with_reducible rfl)
      clear hC
      intro hC
      try simp only [Act.put, List.setIfInBounds_toArray, List.set_cons_zero, List.set_cons_succ]
      refine anyE_take (i := 1) (v := ?_) [1] (by kernel_rfl) rfl (fun _ _ _ h => h) (by rfl) ?_ hC hS ?_
      rotate_left
      · intro w hSw
        (try dsimp only at hSw)
        go_simp
        (try with_reducible rfl)
      clear hC
      intro hC
      try simp only [Act.put, List.setIfInBounds_toArray, List.set_cons_zero, List.set_cons_succ]
      refine anyE_take (i := 2) (v := ?_) [2] (by kernel_rfl) rfl (fun _ _ _ h => h) (by rfl) ?_ hC hS ?_
      rotate_left
      · intro w hSw
        (try dsimp only at hSw)
        go_simp
        (try with_reducible rfl)
      clear hC
      intro hC
      try simp only [Act.put, List.setIfInBounds_toArray, List.set_cons_zero, List.set_cons_succ]
      refine anyE_take (i := 3) (v := ?_) [3] (by kernel_rfl) rfl (fun _ _ _ h => h) (by rfl) ?_ hC hS ?_
      rotate_left
      · intro w hSw
        (try dsimp only at hSw)
        go_simp
        (try with_reducible rfl)
      clear hC
      intro hC
      try simp only [Act.put, List.setIfInBounds_toArray, List.set_cons_zero, List.set_cons_succ]
      refine anyE_take (i := 4) (v := ?_) [4] (by kernel_rfl) rfl (fun _ _ _ h => h) (by rfl) ?_ hC hS ?_
      rotate_left
      · intro w hSw
        (try dsimp only at hSw)
        go_simp
        (try with_reducible rfl)
      clear hC
      intro hC
      try simp only [Act.put, List.setIfInBounds_toArray, List.set_cons_zero, List.set_cons_succ]
      refine anyE_take (i := 5) (v := ?_) [5] (by kernel_rfl) rfl (fun _ _ _ h => h) (by rfl) ?_ hC hS ?_
      rotate_left
      · intro w hSw
        (try dsimp only at hSw)
        go_simp
        (try with_reducible rfl)
      clear hC
      intro hC
      try simp only [Act.put, List.setIfInBounds_toArray, List.set_cons_zero, List.set_cons_succ]
      refine anyE_one (i := 6) (by kernel_rfl) hC rfl (fun K hK => ?_)
      clear hC
      go_simp
      refine hK.out _ _ ?_ ?_
      · (try dsimp only); go_keep
      clear hS
      intro hS hC
      clear hK K
      try simp only [Act.put, List.setIfInBounds_toArray, List.set_cons_zero, List.set_cons_succ]
      refine anyE_one (i := 7) (by kernel_rfl) hC rfl (fun K hK => ?_)
      clear hC
      refine step_append_lies _ (by rfl) _ _ 78 (by rfl) (N + 6) 38 ib (.pointer none) 1 8 Tryd.underlying78 hib hb0 hb1 hb2 rfl (by decide) _ _ _ (by rfl) ((HO.out.alloc _).drew) ⟨W0.heap.size, 0, none⟩ 1 1 [.pointer (some ⟨w6.heap.size, 0, none⟩)] (by rfl) (by rfl) (World.news_of_block (cs := #[.pointer (some ⟨w6.heap.size, 0, none⟩)]) (t := 38) (fr := (0, 0)) (heap_alloc_new W0 _)) (by simp [Value.oneCell']) (by decide) (by have := HL.out; unfold maxLen; omega) (by have := HL.out; omega) (by rw [alloc_size]; omega) (W0.heap.size + 1) (by simp) ?_; intro g7 cap7 w7 hown7 hgrow7 hat7 _; have hh := HEW.out.after HSB.out (((Below.refl W0.heap.size W0).alloc (Nat.le_refl _) _).drew) hgrow7; have hc7 : w7.cell? ⟨hf.blk, 1, none⟩ = some hf.ev := (Lib.cell_of_heap hh.1 1).trans rfl; have hz7 : w7.frozen? ⟨hf.blk, 1, none⟩ = false := Lib.frozen_of_heap hh.1 1; have hd7 : w7.cell? ⟨N + 3, 0, none⟩ = some (.pointer (some ⟨hf.blk, 0, none⟩)) := (Lib.cell_of_heap hh.2.1 0).trans rfl; have hp7 : w7.cell? ⟨N + 2, 0, none⟩ = some (.pointer (some ⟨w6.heap.size, 0, none⟩)) := (Lib.cell_of_heap hh.2.2 0).trans rfl; have H7 := Lib.hid (And.intro hown7 (And.intro hgrow7 hat7)); clear hown7 hgrow7 hat7 hh
      refine hK.out _ _ ?_ ?_
      · (try dsimp only); exact ⟨hd7, hc7, hp7⟩
      clear hS
      intro hS hC
      clear hK K
      try simp only [Act.put, List.setIfInBounds_toArray, List.set_cons_zero, List.set_cons_succ]
      refine anyE_take (i := 8) (v := ?_) [9, 8] (by kernel_rfl) rfl (fun _ _ _ h => h) (by rfl) ?_ hC hS ?_
      rotate_left
      · intro w hSw
        (try dsimp only at hSw)
        go_simp
        (try with_reducible rfl)
      clear hC
      intro hC
      try simp only [Act.put, List.setIfInBounds_toArray, List.set_cons_zero, List.set_cons_succ]
      refine anyE_take (i := 9) (v := ?_) [9] (by kernel_rfl) rfl (fun _ _ _ h => h) (by rfl) ?_ hC hS ?_
      rotate_left
      · intro w hSw
        (try dsimp only at hSw)
        go_simp
        (try with_reducible rfl)
      clear hC
      intro hC
      try simp only [Act.put, List.setIfInBounds_toArray, List.set_cons_zero, List.set_cons_succ]
      refine anyE_last (by kernel_rfl) rfl (by kernel_rfl) (fun K hK => ?_)
      clear hC
      go_simp
      refine hK.out _ _ ?_
      clear hK K hS
      refine NoPanic.normal ?_
      try simp only [Act.put, List.setIfInBounds_toArray, List.set_cons_zero, List.set_cons_succ]
      obtain ⟨e7, s7⟩ := elem_end2 (v' := .slice (some ⟨g7, 0, none⟩) (hf.words.length + 1) cap7) HSB.out HXY.out HEW.out (((Below.refl W0.heap.size W0).alloc (Nat.le_refl _) _).drew) H7.out.2.1 H7.out.1 (by
        rcases H7.out.2.2 with e | e
        · exact Or.inl e.symm
        · exact Or.inr (by rw [alloc_size]; exact congrArg some e))
      have hS1 : top.ps = (st.flush v last j).top := by rw [← HST.out]; rfl
      have hS2 : hf.fr = f6 ∧ hr.map HF.fr = r6 := by
        have e1 := congrArg St.stack HST.out
        rw [HST6.out] at e1
        simpa only [HS.st, List.map_cons, List.cons.injEq] using e1
      rw [hS1, hS2.1, hS2.2] at e7
      clear hS1 hS2
      have hm7 := HM6.out.state e7 s7
      have HM7 := Lib.hid hm7
      clear hc7 hz7 hd7 H7 e7 s7 hm7
      generalize w7.setCell ⟨hf.blk, 1, none⟩ (.slice (some ⟨g7, 0, none⟩) (hf.words.length + 1) cap7) = w8 at *
      have hbj := HM7.out.bj
      have hbl := HM7.out.bl
      have k1 : w8.cell? ⟨jb, 0, none⟩ = some (.int .i64 (j : Int)) := by rw [Lib.cell_of_heap hbj]; rfl
      have k2 : w8.cell? ⟨la, 0, none⟩ = some (.int .i64 last) := by rw [Lib.cell_of_heap hbl]; rfl
      have k3 : w8.frozen? ⟨la, 0, none⟩ = false := Lib.frozen_of_heap hbl 0
      have k4 : jb < w8.heap.size := (Array.getElem?_eq_some_iff.1 hbj).1
      have k5 : la < w8.heap.size := (Array.getElem?_eq_some_iff.1 hbl).1
      clear hbj hbl c3 c2 c1 z1 s3 s2 sb hb6 hp7
      have hms := HM7.out.setl (j + 1)
      rw [Int.natCast_add, Int.natCast_one] at hms
      have HM9 := Lib.hid hms
      clear hms
      go_upto_region 96 with fail
      have k6 : (w8.setCell ⟨la, 0, none⟩ (.int .i64 ((j : Int) + 1))).cell? ⟨jb, 0, none⟩ = some (.int .i64 (j : Int)) := by have := HM9.out.bj; rw [Lib.cell_of_heap this]; rfl
      generalize w8.setCell ⟨la, 0, none⟩ (.int .i64 ((j : Int) + 1)) = w10 at *
      clear k1 k2 k3 k4 k5
      go_wp2_with fail
      have hn := HM9.out.next (Below.refl _ _) (j + 1)
      rw [Int.natCast_add, Int.natCast_one] at hn
      exact ⟨_, ⟨rfl, rfl, rfl, rfl, rfl, rfl, rfl, rfl, rfl, rfl, rfl, rfl, rfl, rfl, rfl, rfl⟩, hn⟩
end Go.Proofs.YtmcoifhiiagfpaaDoor

namespace Go.Proofs.YtmcoifhiiagfpaaDoor
open Go.RowKit
set_option linter.unusedSectionVars false
variable [Pw]

theorem own_news {w : World} {base n : Nat} {e : TypeId} {v : Value} {xs : List Value} (h : w.ownsRow base e 1 v n xs) : News w v n xs := by
  have hl := h.1
  rcases h.2 with ⟨rfl, rfl⟩ | ⟨g, cap, cur, rfl, hb, hg, h1, h2, h3, h4⟩
  · exact Or.inl ⟨rfl, rfl, List.eq_nil_of_length_eq_zero (by omega)⟩
  · refine Or.inr ⟨⟨g, 0, none⟩, cap, rfl, fun j u hu => ?_⟩
    have hj : j < n := by have := (List.getElem?_eq_some_iff.1 hu).1; omega
    have h5 : (cur.toList.take (n * 1))[j]? = some u := by rw [h4]; exact hu
    rw [List.getElem?_take_of_lt (by omega)] at h5
    have hadd : (⟨g, 0, none⟩ : Addr).add j = ⟨g, j, none⟩ := by unfold Addr.add; split <;> simp_all
    rw [hadd, Lib.cell_of_heap hg]
    simpa using h5

theorem own_slice {w : World} {base n : Nat} {e : TypeId} {v : Value} {xs : List Value} (h : w.ownsRow base e 1 v n xs) : ∃ s a c, v = .slice s a c := by
  rcases h.2 with ⟨rfl, _⟩ | ⟨g, cap, cur, rfl, _⟩
  · exact ⟨_, _, _, rfl⟩
  · exact ⟨_, _, _, rfl⟩

/-- The list that lies ahead of a separator and the next one. -/
def joinTo (p : List Part) (es : List (List Part)) : List Part := es.foldl (fun a e => a ++ (.lit dots :: e)) p
theorem joinTo_app (a : List Part) : ∀ (es : List (List Part)) (b : List Part), joinTo (a ++ b) es = a ++ joinTo b es
  | [], _ => rfl
  | e :: r, b => by
    show joinTo (a ++ b ++ (.lit dots :: e)) r = a ++ joinTo (b ++ (.lit dots :: e)) r
    rw [List.append_assoc, joinTo_app a r]
theorem sep_join : ∀ (es : List (List Part)) (p : List Part), sepBy dots (p :: es) = joinTo p es
  | [], _ => rfl
  | e :: r, p => by
    show p ++ .lit dots :: sepBy dots (e :: r) = joinTo (p ++ (.lit dots :: e)) r
    rw [sep_join r e, joinTo_app p r]
    congr 1
    exact (joinTo_app [.lit dots] r e).symm
theorem joinTo_len : ∀ (es : List (List Part)) (p : List Part), p.length ≤ (joinTo p es).length
  | [], _ => Nat.le_refl _
  | e :: r, p => by
    have := joinTo_len r (p ++ (.lit dots :: e))
    rw [List.length_append] at this
    show p.length ≤ (joinTo (p ++ (.lit dots :: e)) r).length
    omega
theorem joinTo_take (es : List (List Part)) (p : List Part) (k : Nat) : (joinTo p (es.take k)).length ≤ (joinTo p es).length := by
  have h := joinTo_len (es.drop k) (joinTo p (es.take k))
  have e : joinTo (joinTo p (es.take k)) (es.drop k) = joinTo p es := by
    unfold joinTo
    rw [← List.foldl_append, List.take_append_drop]
  rw [e] at h
  exact h
theorem joinTo_snoc (es : List (List Part)) (p : List Part) (k : Nat) (e : List Part) (he : es[k]? = some e) : joinTo p (es.take (k + 1)) = joinTo p (es.take k) ++ [.lit dots] ++ e := by
  unfold joinTo
  rw [List.take_add_one, he, List.foldl_append]
  simp

/-- The state while the words of a sequence are merged: the first word's parts so far; the others as they were. -/
def Mg (N : Nat) (top : HW) (hr : List HF) (ov : Value) (blk : Nat) (sq : Bool) (ev : Value) (x0 : Nat) (R : List HW) (ps : List Part) (xs : List Value) (ys : List Part) (w : World) : Prop :=
  ∃ (X : HW) (D : List HW) (acc : HW), X.blk = x0 ∧ X.ps = ps ∧ D ++ [acc] = X :: R ∧ SB N ⟨top, ⟨blk, sq, ev, D, acc⟩ :: hr, ov⟩ w ∧ PartsAt w (HS.live N ⟨top, ⟨blk, sq, ev, D, acc⟩ :: hr, ov⟩) xs ys

/-- Parts appended to the first word. -/
theorem mg_step {N : Nat} {top : HW} {hr : List HF} {ov : Value} {blk : Nat} {sq : Bool} {ev : Value} {X : HW} {D R : List HW} {acc : HW} {w W w1 : World} (h : SB N ⟨top, ⟨blk, sq, ev, D, acc⟩ :: hr, ov⟩ w) (hw : D ++ [acc] = X :: R)
    {us : List Value} {qs : List Part} (hq : PartsAt W (HS.live N ⟨top, ⟨blk, sq, ev, D, acc⟩ :: hr, ov⟩) us qs) {xs : List Value} {ys : List Part} (hx : PartsAt w (HS.live N ⟨top, ⟨blk, sq, ev, D, acc⟩ :: hr, ov⟩) xs ys) (hB : Below w.heap.size w W) {v' : Value}
    (hown : w1.ownsRow (N + 6) 72 1 v' (X.vals.length + us.length) (X.vals ++ us)) (hg : W.grownBy w1 X.v.ownBlock) (hat : v'.ownBlock = X.v.ownBlock ∨ ∃ g, v'.ownBlock = some g ∧ W.heap.size ≤ g) :
    Mg N top hr ov blk sq ev X.blk R (X.ps ++ qs) xs ys (w1.setCell ⟨X.blk, 0, none⟩ v') ∧ Still N w (w1.setCell ⟨X.blk, 0, none⟩ v') := by
  have hb : ∀ k, k < w.heap.size → W.heap[k]? = w.heap[k]? := fun k hk => hB.block k hk
  have hW := h.grow hb
  have hsf : Safe (HS.live N ⟨top, ⟨blk, sq, ev, D, acc⟩ :: hr, ov⟩) (HS.live N ⟨top, ⟨blk, sq, ev, D, acc⟩ :: hr, ov⟩) w W := ⟨fun k hk _ => hb k hk, fun _ _ x => x⟩
  have hwd : HS.words ⟨top, ⟨blk, sq, ev, D, acc⟩ :: hr, ov⟩ = [top] ++ X :: (R ++ hr.flatMap HF.words) := by
    simp only [HS.words, List.flatMap_cons, HF.words, hw]
    simp
  obtain ⟨D', acc', hda, hacc⟩ : ∃ (D' : List HW) (acc' : HW), D' ++ [acc'] = ⟨X.blk, v', X.vals ++ us, X.ps ++ qs⟩ :: R ∧ acc'.blk = acc.blk := by
    cases D with
    | nil =>
      simp only [List.nil_append, List.cons.injEq] at hw
      obtain ⟨rfl, rfl⟩ := hw
      exact ⟨[], _, rfl, rfl⟩
    | cons d D1 =>
      simp only [List.cons_append, List.cons.injEq] at hw
      obtain ⟨rfl, rfl⟩ := hw
      exact ⟨_ :: D1, acc, rfl, rfl⟩
  have hXm : X ∈ HS.words ⟨top, ⟨blk, sq, ev, D, acc⟩ :: hr, ov⟩ := by rw [hwd]; simp
  have hX := h.words X hXm
  have hp := hW.update (hs' := ⟨top, ⟨blk, sq, ev, D', acc'⟩ :: hr, ov⟩) (A := [top]) (C := R ++ hr.flatMap HF.words) hwd hq (v' := v') (by
    simp only [HS.words, List.flatMap_cons, HF.words, hda]
    simp) rfl hacc rfl rfl (by
    simp only [List.map_cons, shape, HF.words, hda, hw, List.map_cons]) hown hg hat
  refine ⟨⟨⟨X.blk, v', X.vals ++ us, X.ps ++ qs⟩, D', acc', rfl, rfl, hda, hp.1, (hx.safe hsf).safe hp.2⟩, ?_⟩
  have hN := h.lt
  have h1 : Below N w w1 := (hB.mono (by omega)).grown hg (by have := hB.size; omega) (fun k hk => by have := (own_block hX.own hk).1; omega)
  refine ⟨h1.setCell (p := ⟨X.blk, 0, none⟩) (by show N ≤ X.blk; have := hX.far; omega) _, fun k c T fz hk hT => ?_⟩
  have hlt : k < w.heap.size := (Array.getElem?_eq_some_iff.1 hk).1
  have n1 : k ≠ X.blk := fun e => by
    rw [e, hX.blk] at hk
    simp only [Option.some.injEq, Obj.cells.injEq] at hk
    obtain ⟨_, rfl, _⟩ := hk
    revert hT; decide
  have n2 : some k ≠ X.v.ownBlock := fun e => by
    obtain ⟨_, c', hc⟩ := own_block hX.own e.symm
    rw [hk] at hc
    simp only [Option.some.injEq, Obj.cells.injEq] at hc
    obtain ⟨_, rfl, _⟩ := hc
    revert hT; decide
  rw [Below.heap_setCell _ _ _ _ n1, hg.block k (by have := hB.size; omega) n2, hb k hlt]
  exact hk

/-- The state behind the statements that begin an element, where the list of elements may have been cut ahead of them. -/
theorem elem_end_of {N : Nat} {top : HW} {hf : HF} {hr : List HF} {ov : Value} {w W0 W w7 : World} {v' ev1 : Value} {sq : Bool} {xs : List Value} {ys : List Part} {D : List HW} (h : SB N ⟨top, hf :: hr, ov⟩ w) (hx : PartsAt w (HS.live N ⟨top, hf :: hr, ov⟩) xs ys) (hD : D.Sublist hf.words)
    (k0 : ∀ k, k < w.heap.size → k ≠ N + 2 → k ≠ hf.blk → hf.ev.ownBlock ≠ some k → W0.heap[k]? = w.heap[k]?) (k2 : W0.heap[N + 2]? = some (.cells #[ptr w.heap.size] 38 (0, 0))) (kp : W0.heap[w.heap.size]? = some (.cells #[.slice none 0 0] 40 (0, 0))) (kb : W0.heap[hf.blk]? = some (.cells #[.bool sq, ev1] 80 (0, 0))) (kz : W0.heap.size = w.heap.size + 1) (kbel : Below N w W0) (he : ev1.ownBlock = hf.ev.ownBlock)
    (hB : Below W0.heap.size W0 W) (hg : W.grownBy w7 ev1.ownBlock) (hown : w7.ownsRow (N + 6) 38 1 v' (D.length + 1) ((D.map fun x => ptr x.blk) ++ [ptr w.heap.size])) (hat : v'.ownBlock = ev1.ownBlock ∨ v'.ownBlock = some W.heap.size) :
    Sb N ⟨top.ps, ⟨sq, D.map HW.ps, []⟩ :: hr.map HF.fr⟩ xs ys (w7.setCell ⟨hf.blk, 1, none⟩ v') ∧ Still N w (w7.setCell ⟨hf.blk, 1, none⟩ v') := by
  have hN := h.lt
  have hF := h.frames hf (List.mem_cons_self ..)
  have hbl : hf.blk < w.heap.size := (Array.getElem?_eq_some_iff.1 hF.blk).1
  have hbf := hF.far
  have hz : w.heap.size + 1 ≤ W.heap.size := by have := hB.size; omega
  rw [he] at hg hat
  have hob : ∀ g, hf.ev.ownBlock = some g → N + 6 ≤ g ∧ g < w.heap.size ∧ g ≠ hf.blk := fun g e => by
    obtain ⟨h1, c, hc⟩ := own_block hF.own e
    refine ⟨h1, (Array.getElem?_eq_some_iff.1 hc).1, fun e2 => ?_⟩
    rw [e2, hF.blk] at hc
    simp only [Option.some.injEq, Obj.cells.injEq] at hc
    exact absurd hc.2.1 (by decide)
  have up : ∀ {k : Nat} {o : Obj}, W0.heap[k]? = some o → k ≠ hf.blk → hf.ev.ownBlock ≠ some k → (w7.setCell ⟨hf.blk, 1, none⟩ v').heap[k]? = some o := fun {k o} hk n no => by
    have hk0 : k < W0.heap.size := (Array.getElem?_eq_some_iff.1 hk).1
    rw [Below.heap_setCell _ _ _ _ n, hg.block k (by omega) (fun e => no e.symm), hB.block k hk0]
    exact hk
  have K0 : ∀ k, k < w.heap.size → k ≠ N + 2 → k ≠ hf.blk → hf.ev.ownBlock ≠ some k → (w7.setCell ⟨hf.blk, 1, none⟩ v').heap[k]? = w.heap[k]? := fun k hk n2 nb no => by
    rw [Below.heap_setCell _ _ _ _ nb, hg.block k (by omega) (fun e => no e.symm), hB.block k (by omega)]
    exact k0 k hk n2 nb no
  have kb7 : w7.heap[hf.blk]? = some (.cells #[.bool sq, ev1] 80 (0, 0)) := by
    rw [hg.block hf.blk (by omega) (fun e => (hob _ e.symm).2.2 rfl), hB.block hf.blk (by omega)]
    exact kb
  have hown2 : (w7.setCell ⟨hf.blk, 1, none⟩ v').ownsRow (N + 6) 38 1 v' (D.length + 1) ((D.map fun x => ptr x.blk) ++ [ptr w.heap.size]) := own_kept hown (fun g _ _ ⟨c, hc⟩ => Below.heap_setCell _ _ _ _ (fun e => by
    have e2 : g = hf.blk := e
    rw [e2, kb7] at hc
    simp only [Option.some.injEq, Obj.cells.injEq] at hc
    exact absurd hc.2.1 (by decide)))
  obtain ⟨p1, p2⟩ := h.elem_of (p := w.heap.size) (sq := sq) (ev' := v') hD (Nat.le_refl _) K0 (up k2 (by omega) (fun e => by have := (hob _ e).1; omega)) (up kp (by omega) (fun e => by have := (hob _ e).2.1; omega)) (by
    rw [heap_setCell_same _ _ _ _ _ _ kb7]
    rfl) hown2 (by
    rcases hat with e | e
    · exact Or.inl e
    · exact Or.inr ⟨_, e, by omega⟩)
  refine ⟨⟨_, p1, ?_, hx.safe p2⟩, ?_, ?_⟩
  · simp [HS.st, HF.fr, nw]
  · have h1 : Below N w w7 := (kbel.trans (hB.mono (by omega))).grown hg (by omega) (fun k hk => by have := (hob k hk).1; omega)
    exact h1.setCell (p := ⟨hf.blk, 1, none⟩) (by show N ≤ hf.blk; omega) _
  · intro k c T fz hk hT
    have hlt : k < w.heap.size := (Array.getElem?_eq_some_iff.1 hk).1
    have no : ∀ {c' : Array Value} {T' : TypeId}, w.heap[k]? = some (.cells c' T' (0, 0)) → T' ≠ 3 → T' ≠ 67 → T' ≠ 69 → False := fun {c' T'} h a1 a2 a3 => by
      rw [hk] at h
      simp only [Option.some.injEq, Obj.cells.injEq] at h
      rcases hT with e | e | e
      · exact a1 (h.2.1.symm.trans e)
      · exact a2 (h.2.1.symm.trans e)
      · exact a3 (h.2.1.symm.trans e)
    rw [K0 k hlt (fun e => by subst e; exact no h.b2 (by decide) (by decide) (by decide)) (fun e => by subst e; exact no hF.blk (by decide) (by decide) (by decide)) (fun e => by
      obtain ⟨_, c', hc⟩ := own_block hF.own e
      exact no hc (by decide) (by decide) (by decide))]
    exact hk
end Go.Proofs.YtmcoifhiiagfpaaDoor

namespace Go.Proofs.YtmcoifhiiagfpaaDoor
open Go.RowKit
set_option linter.unusedSectionVars false
variable [Pw]

/-- The slots while the words of a sequence are merged. -/
structure MgFr (N p : Nat) (c50 c51 c52 : Value) (lx la jb x0 e m cap i : Nat) (a : Act) : Prop where
  fr : Fr N p c50 c51 c52 lx la jb a
  s16 : a.tmps.getD 16 undef = ptr x0
  s127 : a.tmps.getD 127 undef = .slice (some ⟨e, 1, none⟩) m cap
  s128 : a.tmps.getD 128 undef = .int .i64 m
  s129 : a.tmps.getD 129 undef = .int .i64 i

set_option linter.unusedSimpArgs false in
set_option maxRecDepth 1000000 in
set_option maxHeartbeats 2000000 in
theorem merge_round {N p : Nat} {c50 c51 c52 : Value} {lx la jb x0 e ecap ccap i : Nat} {a : Act} {R : List HW} (mf : MgFr N p c50 c51 c52 lx la jb x0 e R.length ccap i a) {top : HW} {hr : List HF} {ov : Value} {blk : Nat} {sq : Bool} {P0 : List Part} {xs : List Value} {ys : List Part} {ws w : World}
    (mg : Mg N top hr ov blk sq (.slice (some ⟨e, 0, none⟩) (R.length + 1) ecap) x0 R (joinTo P0 ((R.map HW.ps).take i)) xs ys w) (hs : Still N ws w) (hi : i < R.length) (hR : R.length ≤ 100000000) (hlen : (joinTo P0 (R.map HW.ps)).length ≤ 100000000) (Q0 : Exit → Act → World → Prop) :
    Code.wp Tryd.prog (bodyOf 2) (Exit.then (fun a' w' => MgFr N p c50 c51 c52 lx la jb x0 e R.length ccap (i + 1) a' ∧ Mg N top hr ov blk sq (.slice (some ⟨e, 0, none⟩) (R.length + 1) ecap) x0 R (joinTo P0 ((R.map HW.ps).take (i + 1))) xs ys w' ∧ Still N ws w') Q0) a w := by
  obtain ⟨fr, h16, h127, h128, h129⟩ := mf
  obtain ⟨f, hf, ht⟩ := frame_lit a.tmps fr.size
  obtain ⟨t, d⟩ := a
  have hd : d = [] := fr.defers
  subst hd
  have h0 := (hf 0).trans fr.s0
  have h2 := (hf 2).trans fr.s2
  have h3 := (hf 3).trans fr.s3
  have h4 := (hf 4).trans fr.s4
  have h5 := (hf 5).trans fr.s5
  have h6 := (hf 6).trans fr.s6
  have h7 := (hf 7).trans fr.s7
  have h8 := (hf 8).trans fr.s8
  have h11 := (hf 11).trans fr.s11
  have h13 := (hf 13).trans fr.s13
  have h14 := (hf 14).trans fr.s14
  have h50 := (hf 50).trans fr.s50
  have h51 := (hf 51).trans fr.s51
  have h52 := (hf 52).trans fr.s52
  replace h16 := (hf 16).trans h16
  replace h127 := (hf 127).trans h127
  replace h128 := (hf 128).trans h128
  replace h129 := (hf 129).trans h129
  simp only [h0, h2, h3, h4, h5, h6, h7, h8, h11, h13, h14, h16, h50, h51, h52, h127, h128, h129] at ht
  have ht2 : t = _ := ht
  subst ht2
  clear hf ht fr h0 h2 h3 h4 h5 h6 h7 h8 h11 h13 h14 h16 h50 h51 h52 h127 h128 h129
  obtain ⟨X, D, acc, rfl, hps, hw, hsb, hxy⟩ := mg
  obtain ⟨Y, hY⟩ : ∃ Y, R[i]? = some Y := ⟨R[i], List.getElem?_eq_getElem hi⟩
  have hwd : HS.words ⟨top, ⟨blk, sq, .slice (some ⟨e, 0, none⟩) (R.length + 1) ecap, D, acc⟩ :: hr, ov⟩ = [top] ++ X :: (R ++ hr.flatMap HF.words) := by
    simp only [HS.words, List.flatMap_cons, HF.words, hw]
    simp
  have hX := hsb.words X (by rw [hwd]; simp)
  have hYm : Y ∈ HS.words ⟨top, ⟨blk, sq, .slice (some ⟨e, 0, none⟩) (R.length + 1) ecap, D, acc⟩ :: hr, ov⟩ := by
    rw [hwd]
    have := List.mem_of_getElem? hY
    simp [this]
  have hF := hsb.frames _ (List.mem_cons_self ..)
  have hDl : D.length + 1 = R.length + 1 := by
    have := congrArg List.length hw
    simpa using this
  have hown : w.ownsRow (N + 6) 38 1 (.slice (some ⟨e, 0, none⟩) (R.length + 1) ecap) (R.length + 1) ((X :: R).map fun h => ptr h.blk) := by
    have := hF.own
    simp only [HF.words, hw, List.length_cons] at this
    exact this
  have ce : w.cell? ⟨e, 1 + i, none⟩ = some (.pointer (some ⟨Y.blk, 0, none⟩)) := by
    rw [own_cell hown (1 + i) (by omega), Nat.add_comm 1 i, List.map_cons, List.getElem?_cons_succ, List.getElem?_map, hY]
    rfl
  have cX : w.cell? ⟨X.blk, 0, none⟩ = some X.v := by rw [Lib.cell_of_heap hX.blk]; rfl
  have hz : (i : Int) < (R.length : Int) ∧ (R.length : Int) ≤ 100000000 := by omega
  have HM := Lib.hid (And.intro hw (And.intro hsb (And.intro hxy (And.intro hX hYm))))
  clear hw hsb hxy hX hYm hF hown hwd
  conv => arg 2; whnf
  unfold ptr
  go_upto_region 36 with fail
  obtain ⟨ib, hib, hb0, hb1, hb2⟩ := info_parts Tryd.info_part
  have hl1 : X.vals.length + 1 + Y.vals.length ≤ 100000000 := by
    have h1 := HM.out.2.2.2.1.parts.length
    have h2 := (HM.out.2.1.words Y HM.out.2.2.2.2).parts.length
    have h3 := joinTo_take (R.map HW.ps) P0 (i + 1)
    rw [joinTo_snoc _ _ _ Y.ps (by rw [List.getElem?_map, hY]; rfl), ← hps] at h3
    simp only [List.length_append, List.length_cons, List.length_nil] at h3
    omega
  have HL := Lib.hid hl1
  have HPS := Lib.hid hps
  have HY := Lib.hid hY
  have HS := Lib.hid hs
  have zX : w.frozen? ⟨X.blk, 0, none⟩ = false := Lib.frozen_of_heap HM.out.2.2.2.1.blk 0
  have sX : X.blk < w.heap.size := (Array.getElem?_eq_some_iff.1 HM.out.2.2.2.1.blk).1
  have HSX := Lib.hid sX
  have HLR := Lib.hid (And.intro hlen hR)
  clear hl1 hps hY hs ce sX zX hlen hR
  refine region_anyE (fun w' => w'.cell? ⟨X.blk, 0, none⟩ = some X.v) 11 (by kernel_rfl) ?_ (fun hS hC => ?_)
  · (try dsimp only); go_keep
  refine anyE_take (i := 0) (v := ?_) [0] (by kernel_rfl) rfl (fun _ _ _ h => h) (by rfl) ?_ hC hS ?_
  rotate_left
  · intro w hSw
    (try dsimp only at hSw)
    go_simp
    (try with_reducible rfl)
  clear hC
  intro hC
  try simp only [Act.put, List.setIfInBounds_toArray, List.set_cons_zero, List.set_cons_succ]
  refine anyE_take (i := 1) (v := ?_) [1] (by kernel_rfl) rfl (fun _ _ _ h => h) (by rfl) ?_ hC hS ?_
  rotate_left
  · intro w hSw
    (try dsimp only at hSw)
    go_simp
    (try with_reducible rfl)
  clear hC
  intro hC
  try simp only [Act.put, List.setIfInBounds_toArray, List.set_cons_zero, List.set_cons_succ]
  refine anyE_take (i := 2) (v := ?_) [2] (by kernel_rfl) rfl (fun _ _ _ h => h) (by rfl) ?_ hC hS ?_
  rotate_left
  · intro w hSw
    (try dsimp only at hSw)
    go_simp
    (try with_reducible rfl)
  clear hC
  intro hC
  try simp only [Act.put, List.setIfInBounds_toArray, List.set_cons_zero, List.set_cons_succ]
  refine anyE_take (i := 3) (v := ?_) [3] (by kernel_rfl) rfl (fun _ _ _ h => h) (by rfl) ?_ hC hS ?_
  rotate_left
  · intro w hSw
    (try dsimp only at hSw)
    go_simp
    (try with_reducible rfl)
  clear hC
  intro hC
  try simp only [Act.put, List.setIfInBounds_toArray, List.set_cons_zero, List.set_cons_succ]
  refine anyE_take (i := 4) (v := ?_) [4] (by kernel_rfl) rfl (fun _ _ _ h => h) (by rfl) ?_ hC hS ?_
  rotate_left
  · intro w hSw
    (try dsimp only at hSw)
    go_simp
    (try with_reducible rfl)
  clear hC
  intro hC
  try simp only [Act.put, List.setIfInBounds_toArray, List.set_cons_zero, List.set_cons_succ]
  refine anyE_one (i := 5) (by kernel_rfl) hC rfl (fun K hK => ?_)
  clear hC
  go_simp
  (refine (dots_any _).mono ?_; rintro e1 w1 ⟨q, rfl, hq1, hb1⟩; have hb2 : Below w.heap.size w w1 := ((Below.refl w.heap.size w).drew).trans hb1; have hcX1 : w1.cell? ⟨X.blk, 0, none⟩ = some X.v := (hb2.cell (p := ⟨X.blk, 0, none⟩) HSX.out).trans cX; have HB1 := Lib.hid (And.intro hq1 hb2); have HO1 := Lib.hid (own_kept HM.out.2.2.2.1.own (fun g hg _ h => hb2.block g (Array.getElem?_eq_some_iff.1 h.choose_spec).1)); clear hq1 hb1 hb2)
  refine hK.out _ _ ?_ ?_
  · (try dsimp only); exact hcX1
  clear hS
  intro hS hC
  clear hK K
  try simp only [Act.put, List.setIfInBounds_toArray, List.set_cons_zero, List.set_cons_succ]
  refine anyE_take (i := 6) (v := ?_) [6] (by kernel_rfl) rfl (fun _ _ _ h => h) (by rfl) ?_ hC hS ?_
  rotate_left
  · intro w hSw
    (try dsimp only at hSw)
    go_simp
    (try with_reducible rfl)
  clear hC
  intro hC
  try simp only [Act.put, List.setIfInBounds_toArray, List.set_cons_zero, List.set_cons_succ]
  refine anyE_one (i := 7) (by kernel_rfl) hC rfl (fun K hK => ?_)
  clear hC
  go_simp
  refine hK.out _ _ ?_ ?_
  · (try dsimp only); go_keep
  clear hS
  intro hS hC
  clear hK K
  try simp only [Act.put, List.setIfInBounds_toArray, List.set_cons_zero, List.set_cons_succ]
  refine anyE_one (i := 8) (by kernel_rfl) hC rfl (fun K hK => ?_)
  clear hC
  (refine step_append_lies _ (by rfl) _ _ 31 (by rfl) (N + 6) 72 ib .nilIface 1 16 Tryd.underlying31 hib hb0 hb1 hb2 rfl (by decide) _ _ _ (by rfl) (HO1.out.alloc _) ⟨w1.heap.size, 0, none⟩ 1 1 [.iface 67 (.pointer (some ⟨q, 0, none⟩))] (by rfl) (by rfl) (cell_one_new w1 _ _) (by intro u hu; simp at hu; subst hu; rfl) (by decide) (by have := HL.out; unfold maxLen; omega) (by have := HL.out; omega) (by rw [World.size_alloc]; have := HM.out.2.1.lt; have := HB1.out.2.size; omega) (w1.heap.size + 1) (by simp) ?_; intro g2 cap2 w2 hown2 hgrow2 hat2 _; have hcX2 : w2.heap[X.blk]? = some (.cells #[X.v] 40 (0, 0)) := (hgrow2.block X.blk (by rw [World.size_alloc]; have := HSX.out; have := HB1.out.2.size; omega) (fun e => HM.out.2.2.2.1.ne e.symm)).trans (((HB1.out.2.alloc HB1.out.2.size _).block X.blk HSX.out).trans HM.out.2.2.2.1.blk); have hc2 : w2.cell? ⟨X.blk, 0, none⟩ = some X.v := (Lib.cell_of_heap hcX2 0).trans rfl; have hz2 : w2.frozen? ⟨X.blk, 0, none⟩ = false := Lib.frozen_of_heap hcX2 0; have H2 := Lib.hid (And.intro hown2 (And.intro hgrow2 hat2)); clear hown2 hgrow2 hat2 hcX2)
  refine hK.out _ _ ?_ ?_
  · (try dsimp only); exact hc2
  clear hS
  intro hS hC
  clear hK K
  try simp only [Act.put, List.setIfInBounds_toArray, List.set_cons_zero, List.set_cons_succ]
  refine anyE_take (i := 9) (v := ?_) [10, 9] (by kernel_rfl) rfl (fun _ _ _ h => h) (by rfl) ?_ hC hS ?_
  rotate_left
  · intro w hSw
    (try dsimp only at hSw)
    go_simp
    (try with_reducible rfl)
  clear hC
  intro hC
  try simp only [Act.put, List.setIfInBounds_toArray, List.set_cons_zero, List.set_cons_succ]
  refine anyE_take (i := 10) (v := ?_) [10] (by kernel_rfl) rfl (fun _ _ _ h => h) (by rfl) ?_ hC hS ?_
  rotate_left
  · intro w hSw
    (try dsimp only at hSw)
    go_simp
    (try with_reducible rfl)
  clear hC
  intro hC
  try simp only [Act.put, List.setIfInBounds_toArray, List.set_cons_zero, List.set_cons_succ]
  refine anyE_last (by kernel_rfl) rfl (by kernel_rfl) (fun K hK => ?_)
  clear hC
  go_simp
  refine hK.out _ _ ?_
  clear hK K hS
  refine NoPanic.normal ?_
  try simp only [Act.put, List.setIfInBounds_toArray, List.set_cons_zero, List.set_cons_succ]
  have hbw := HB1.out.2
  have hb3 : Below w.heap.size w (w1.alloc (.cells #[.iface 67 (.pointer (some ⟨q, 0, none⟩))] 72)) := hbw.alloc hbw.size _
  obtain ⟨mg1, st1⟩ := mg_step (v' := .slice (some ⟨g2, 0, none⟩) (X.vals.length + 1) cap2) (us := [.iface 67 (.pointer (some ⟨q, 0, none⟩))]) (qs := [.lit dots]) HM.out.2.1 HM.out.1 (.cons _ _ _ _ (.lit q dots ((HM.out.2.1.grow (fun k hk => hbw.block k hk)).lit_free HB1.out.1) (by
    obtain ⟨y1, y2, y3, y4, hq⟩ := HB1.out.1
    exact ⟨y1, y2, y3, y4, (Below.heap_alloc w1 _ _ (Array.getElem?_eq_some_iff.1 hq).1).trans hq⟩)) .nil) HM.out.2.2.1 hb3 H2.out.1 H2.out.2.1 (by
    rcases H2.out.2.2 with e1 | e1
    · exact Or.inl e1.symm
    · exact Or.inr ⟨g2, rfl, by rw [World.size_alloc]; omega⟩)
  have HS1 := Lib.hid (HS.out.trans st1)
  obtain ⟨b, hb⟩ : ∃ b, X.blk = b := ⟨_, rfl⟩
  rw [HPS.out] at mg1
  generalize w2.setCell ⟨X.blk, 0, none⟩ (.slice (some ⟨g2, 0, none⟩) (X.vals.length + 1) cap2) = w3 at *
  rw [hb] at mg1 ⊢
  have HXL := Lib.hid (show X.vals.length = (joinTo P0 ((R.map HW.ps).take i)).length from by rw [← HPS.out]; exact HM.out.2.2.2.1.parts.length)
  clear hc2 hz2 cX hcX1 H2 HB1 HO1 HSX hbw hb3 st1 HS HPS HM
  obtain ⟨X2, D2, acc2, hx2, hps2, hw2, hsb2, hxy2⟩ := mg1
  subst hx2
  have hwd : HS.words ⟨top, ⟨blk, sq, .slice (some ⟨e, 0, none⟩) (R.length + 1) ecap, D2, acc2⟩ :: hr, ov⟩ = [top] ++ X2 :: (R ++ hr.flatMap HF.words) := by
    simp only [HS.words, List.flatMap_cons, HF.words, hw2]
    simp
  have hX2 := hsb2.words X2 (by rw [hwd]; simp)
  have hYm : Y ∈ HS.words ⟨top, ⟨blk, sq, .slice (some ⟨e, 0, none⟩) (R.length + 1) ecap, D2, acc2⟩ :: hr, ov⟩ := by
    rw [hwd]
    have := List.mem_of_getElem? HY.out
    simp [this]
  have hY2 := hsb2.words Y hYm
  have hX2l : X2.vals.length = X.vals.length + 1 := by
    rw [hX2.parts.length, hps2, HXL.out]
    simp
  have cX : w3.cell? ⟨X2.blk, 0, none⟩ = some X2.v := by rw [Lib.cell_of_heap hX2.blk]; rfl
  have cY : w3.cell? ⟨Y.blk, 0, none⟩ = some Y.v := by rw [Lib.cell_of_heap hY2.blk]; rfl
  have HNW := Lib.hid (show News w3.drew Y.v Y.vals.length Y.vals from own_news hY2.own)
  have HM := Lib.hid (And.intro hw2 (And.intro hsb2 (And.intro hxy2 (And.intro hX2 hY2))))
  have HX2L := Lib.hid hX2l
  have HNB := Lib.hid (show X2.v.ownBlock ≠ some Y.blk from fun e1 => by
    obtain ⟨_, c, hc⟩ := own_block hX2.own e1
    rw [hY2.blk] at hc
    simp only [Option.some.injEq, Obj.cells.injEq] at hc
    exact absurd hc.2.1 (by decide))
  have HPS2 := Lib.hid hps2
  have HBX := Lib.hid hb
  clear hb hX2l hwd hX2 hYm hY2 hw2 hsb2 hxy2 hps2 HXL
  go_upto_region 37 with fail
  refine region_anyE (fun w' => w'.cell? ⟨X2.blk, 0, none⟩ = some X2.v ∧ w'.cell? ⟨Y.blk, 0, none⟩ = some Y.v) 12 (by kernel_rfl) ?_ (fun hS hC => ?_)
  · (try dsimp only); go_keep
  refine anyE_take (i := 0) (v := ?_) [0] (by kernel_rfl) rfl (fun _ _ _ h => h) (by rfl) ?_ hC hS ?_
  rotate_left
  · intro w hSw
    (try dsimp only at hSw)
    go_simp
    (try with_reducible rfl)
  clear hC
  intro hC
  try simp only [Act.put, List.setIfInBounds_toArray, List.set_cons_zero, List.set_cons_succ]
  refine anyE_take (i := 1) (v := ?_) [1] (by kernel_rfl) rfl (fun _ _ _ h => h) (by rfl) ?_ hC hS ?_
  rotate_left
  · intro w hSw
    (try dsimp only at hSw)
    go_simp
    (try with_reducible rfl)
  clear hC
  intro hC
  try simp only [Act.put, List.setIfInBounds_toArray, List.set_cons_zero, List.set_cons_succ]
  refine anyE_take (i := 2) (v := ?_) [2] (by kernel_rfl) rfl (fun _ _ _ h => h) (by rfl) ?_ hC hS ?_
  rotate_left
  · intro w hSw
    (try dsimp only at hSw)
    go_simp
    (try with_reducible rfl)
  clear hC
  intro hC
  try simp only [Act.put, List.setIfInBounds_toArray, List.set_cons_zero, List.set_cons_succ]
  refine anyE_take (i := 3) (v := ?_) [3] (by kernel_rfl) rfl (fun _ _ _ h => h) (by rfl) ?_ hC hS ?_
  rotate_left
  · intro w hSw
    (try dsimp only at hSw)
    go_simp
    (try with_reducible rfl)
  clear hC
  intro hC
  try simp only [Act.put, List.setIfInBounds_toArray, List.set_cons_zero, List.set_cons_succ]
  refine anyE_take (i := 4) (v := ?_) [4] (by kernel_rfl) rfl (fun _ _ _ h => h) (by rfl) ?_ hC hS ?_
  rotate_left
  · intro w hSw
    (try dsimp only at hSw)
    go_simp
    (try with_reducible rfl)
  clear hC
  intro hC
  try simp only [Act.put, List.setIfInBounds_toArray, List.set_cons_zero, List.set_cons_succ]
  refine anyE_take (i := 5) (v := ?_) [5] (by kernel_rfl) rfl (fun _ _ _ h => h) (by rfl) ?_ hC hS ?_
  rotate_left
  · intro w hSw
    (try dsimp only at hSw)
    go_simp
    (try with_reducible rfl)
  clear hC
  intro hC
  try simp only [Act.put, List.setIfInBounds_toArray, List.set_cons_zero, List.set_cons_succ]
  refine anyE_take (i := 6) (v := ?_) [6] (by kernel_rfl) rfl (fun _ _ _ h => h) (by rfl) ?_ hC hS ?_
  rotate_left
  · intro w hSw
    (try dsimp only at hSw)
    go_simp
    (try with_reducible rfl)
  clear hC
  intro hC
  try simp only [Act.put, List.setIfInBounds_toArray, List.set_cons_zero, List.set_cons_succ]
  refine anyE_take (i := 7) (v := ?_) [7] (by kernel_rfl) rfl (fun _ _ _ h => h) (by rfl) ?_ hC hS ?_
  rotate_left
  · intro w hSw
    (try dsimp only at hSw)
    go_simp
    (try with_reducible rfl)
  clear hC
  intro hC
  try simp only [Act.put, List.setIfInBounds_toArray, List.set_cons_zero, List.set_cons_succ]
  refine anyE_take (i := 8) (v := ?_) [8] (by kernel_rfl) rfl (fun _ _ _ h => h) (by rfl) ?_ hC hS ?_
  rotate_left
  · intro w hSw
    (try dsimp only at hSw)
    go_simp
    (try with_reducible rfl)
  clear hC
  intro hC
  try simp only [Act.put, List.setIfInBounds_toArray, List.set_cons_zero, List.set_cons_succ]
  refine anyE_one (i := 9) (by kernel_rfl) hC rfl (fun K hK => ?_)
  clear hC
  (refine step_append_row _ (by rfl) _ _ 31 (by rfl) (N + 6) 72 ib .nilIface 16 Tryd.underlying31 hib hb0 hb1 hb2 rfl X2.v X2.vals.length X2.vals (by rfl) HM.out.2.2.2.1.own.drew Y.v Y.vals.length Y.vals (by rfl) HNW.out rfl HM.out.2.2.2.2.parts.one (by have := HL.out; have := HX2L.out; unfold maxLen; omega) (by have := HL.out; have := HX2L.out; omega) (by have := HM.out.2.1.lt; show N + 6 ≤ w3.heap.size; omega) ?_; intro v4 w4 hown4 hgrow4 hat4; obtain ⟨s4, n4, c4, rfl⟩ := own_slice hown4; have hcX4 : w4.heap[X2.blk]? = some (.cells #[X2.v] 40 (0, 0)) := (hgrow4.block X2.blk (Array.getElem?_eq_some_iff.1 HM.out.2.2.2.1.blk).1 (fun e => HM.out.2.2.2.1.ne e.symm)).trans HM.out.2.2.2.1.blk; have hc4 : w4.cell? ⟨X2.blk, 0, none⟩ = some X2.v := (Lib.cell_of_heap hcX4 0).trans rfl; have hz4 : w4.frozen? ⟨X2.blk, 0, none⟩ = false := Lib.frozen_of_heap hcX4 0; have hcY4 : w4.cell? ⟨Y.blk, 0, none⟩ = some Y.v := (Lib.cell_of_heap ((hgrow4.block Y.blk (Array.getElem?_eq_some_iff.1 HM.out.2.2.2.2.blk).1 (fun e => HNB.out e.symm)).trans HM.out.2.2.2.2.blk) 0).trans rfl; have H4 := Lib.hid (And.intro hown4 (And.intro hgrow4 hat4)); clear hown4 hgrow4 hat4 hcX4)
  refine hK.out _ _ ?_ ?_
  · (try dsimp only); exact ⟨hc4, hcY4⟩
  clear hS
  intro hS hC
  clear hK K
  try simp only [Act.put, List.setIfInBounds_toArray, List.set_cons_zero, List.set_cons_succ]
  refine anyE_take (i := 10) (v := ?_) [11, 10] (by kernel_rfl) rfl (fun _ _ _ h => h) (by rfl) ?_ hC hS ?_
  rotate_left
  · intro w hSw
    (try dsimp only at hSw)
    go_simp
    (try with_reducible rfl)
  clear hC
  intro hC
  try simp only [Act.put, List.setIfInBounds_toArray, List.set_cons_zero, List.set_cons_succ]
  refine anyE_take (i := 11) (v := ?_) [11] (by kernel_rfl) rfl (fun _ _ _ h => h) (by rfl) ?_ hC hS ?_
  rotate_left
  · intro w hSw
    (try dsimp only at hSw)
    go_simp
    (try with_reducible rfl)
  clear hC
  intro hC
  try simp only [Act.put, List.setIfInBounds_toArray, List.set_cons_zero, List.set_cons_succ]
  refine anyE_last (by kernel_rfl) rfl (by kernel_rfl) (fun K hK => ?_)
  clear hC
  go_simp
  refine hK.out _ _ ?_
  clear hK K hS
  refine NoPanic.normal ?_
  try simp only [Act.put, List.setIfInBounds_toArray, List.set_cons_zero, List.set_cons_succ]
  obtain ⟨mg2, st2⟩ := mg_step (W := w3.drew) (v' := .slice s4 n4 c4) (us := Y.vals) (qs := Y.ps) HM.out.2.1 HM.out.1 (HM.out.2.2.2.2.parts.safe ⟨fun _ _ _ => rfl, fun _ _ x => x⟩) HM.out.2.2.1 ((Below.refl w3.heap.size w3).drew) H4.out.1 H4.out.2.1 (by
    rcases H4.out.2.2 with e1 | e1
    · exact Or.inl e1
    · exact Or.inr ⟨_, e1, Nat.le_refl _⟩)
  have HS2 := Lib.hid (HS1.out.trans st2)
  rw [HPS2.out, ← joinTo_snoc _ _ _ Y.ps (by rw [List.getElem?_map, HY.out]; rfl)] at mg2
  have HMG := Lib.hid mg2
  generalize w4.setCell ⟨X2.blk, 0, none⟩ (.slice s4 n4 c4) = w5 at *
  clear hc4 hz4 hcY4 cX cY H4 HNW HX2L HNB st2 HS1 HPS2 HM mg2 HLR
  go_wp2_with fail
  exact ⟨⟨⟨rfl, rfl, rfl, rfl, rfl, rfl, rfl, rfl, rfl, rfl, rfl, rfl, rfl, rfl, rfl, rfl⟩, congrArg ptr HBX.out.symm, rfl, rfl, rfl⟩, by rw [HBX.out]; exact HMG.out, HS2.out⟩
end Go.Proofs.YtmcoifhiiagfpaaDoor

namespace Go.Proofs.YtmcoifhiiagfpaaDoor
open Go.RowKit
set_option linter.unusedSectionVars false
variable [Pw]

set_option maxRecDepth 1000000 in
set_option maxHeartbeats 2000000 in
theorem merge_exit {N p : Nat} {c50 c51 c52 : Value} {lx la jb x0 e m ccap : Nat} {a : Act} (mf : MgFr N p c50 c51 c52 lx la jb x0 e m ccap m a) (hm : m ≤ 100000000) {w : World} (Q : Exit → Act → World → Prop) (hQ : ∀ a', MgFr N p c50 c51 c52 lx la jb x0 e m ccap m a' → Q (.exit 5) a' w) :
    Code.wp Tryd.prog (bodyOf 2) Q a w := by
  obtain ⟨fr, h16, h127, h128, h129⟩ := mf
  obtain ⟨f, hf, ht⟩ := frame_lit a.tmps fr.size
  obtain ⟨t, d⟩ := a
  have hd : d = [] := fr.defers
  subst hd
  have h0 := (hf 0).trans fr.s0
  have h2 := (hf 2).trans fr.s2
  have h3 := (hf 3).trans fr.s3
  have h4 := (hf 4).trans fr.s4
  have h5 := (hf 5).trans fr.s5
  have h6 := (hf 6).trans fr.s6
  have h7 := (hf 7).trans fr.s7
  have h8 := (hf 8).trans fr.s8
  have h11 := (hf 11).trans fr.s11
  have h13 := (hf 13).trans fr.s13
  have h14 := (hf 14).trans fr.s14
  have h50 := (hf 50).trans fr.s50
  have h51 := (hf 51).trans fr.s51
  have h52 := (hf 52).trans fr.s52
  replace h16 := (hf 16).trans h16
  replace h127 := (hf 127).trans h127
  replace h128 := (hf 128).trans h128
  replace h129 := (hf 129).trans h129
  simp only [h0, h2, h3, h4, h5, h6, h7, h8, h11, h13, h14, h16, h50, h51, h52, h127, h128, h129] at ht
  have ht2 : t = _ := ht
  subst ht2
  clear hf ht fr h0 h2 h3 h4 h5 h6 h7 h8 h11 h13 h14 h16 h50 h51 h52 h127 h128 h129
  have hz : (m : Int) ≤ 100000000 := by omega
  conv => arg 2; whnf
  unfold ptr
  go_wp2_with fail
  exact ⟨⟨rfl, rfl, rfl, rfl, rfl, rfl, rfl, rfl, rfl, rfl, rfl, rfl, rfl, rfl, rfl, rfl⟩, rfl, rfl, rfl, rfl⟩

theorem merge_loop {N p : Nat} {c50 c51 c52 : Value} {lx la jb x0 e ecap ccap : Nat} {a : Act} {R : List HW} (mf : MgFr N p c50 c51 c52 lx la jb x0 e R.length ccap 0 a) {top : HW} {hr : List HF} {ov : Value} {blk : Nat} {sq : Bool} {P0 : List Part} {xs : List Value} {ys : List Part} {w : World}
    (mg : Mg N top hr ov blk sq (.slice (some ⟨e, 0, none⟩) (R.length + 1) ecap) x0 R P0 xs ys w) (hR : R.length ≤ 100000000) (hlen : (joinTo P0 (R.map HW.ps)).length ≤ 100000000) (Q : Exit → Act → World → Prop)
    (hQ : ∀ a' w', MgFr N p c50 c51 c52 lx la jb x0 e R.length ccap R.length a' → Mg N top hr ov blk sq (.slice (some ⟨e, 0, none⟩) (R.length + 1) ecap) x0 R (joinTo P0 (R.map HW.ps)) xs ys w' → Still N w w' → Q (.exit 5) a' w') :
    Code.wp Tryd.prog (Code.loop (bodyOf 2)) Q a w := by
  refine wp_loop_ghost (fun n a' w' => ∃ i, i ≤ R.length ∧ n = R.length - i ∧ MgFr N p c50 c51 c52 lx la jb x0 e R.length ccap i a' ∧ Mg N top hr ov blk sq (.slice (some ⟨e, 0, none⟩) (R.length + 1) ecap) x0 R (joinTo P0 ((R.map HW.ps).take i)) xs ys w' ∧ Still N w w') R.length ⟨0, Nat.zero_le _, rfl, mf, mg, Still.refl _ _⟩ ?_
  rintro n a1 w1 ⟨i, hi, rfl, mf1, mg1, hs1⟩
  by_cases hlt : i < R.length
  · refine Code.wp_mono ?_ (merge_round mf1 mg1 hs1 hlt hR hlen Q)
    intro ex a' w' hq
    cases ex with
    | normal => exact ⟨R.length - (i + 1), by omega, i + 1, hlt, rfl, hq.1, hq.2.1, hq.2.2⟩
    | exit id => exact hq
    | goto l => exact hq
    | ret => exact hq
    | panic ch => exact hq
    | outgrown => exact hq
  · have hi2 : i = R.length := by omega
    subst hi2
    rw [List.take_of_length_le (by simp)] at mg1
    exact merge_exit mf1 hR _ (fun a' m' => hQ a' w1 m' mg1 hs1)
end Go.Proofs.YtmcoifhiiagfpaaDoor

namespace Go.Proofs.YtmcoifhiiagfpaaDoor
open Go.RowKit
set_option linter.unusedSectionVars false
variable [Pw]

structure CW (N : Nat) (w W : World) (blk e ecap x0 : Nat) : Prop where
  k0 : ∀ k, k < w.heap.size → k ≠ blk → k ≠ e → W.heap[k]? = w.heap[k]?
  kb : W.heap[blk]? = some (.cells #[.bool false, .slice (some ⟨e, 0, none⟩) 1 ecap] 80 (0, 0))
  ko : W.ownsRow (N + 6) 38 1 (.slice (some ⟨e, 0, none⟩) 1 ecap) 1 [ptr x0]
  kz : W.heap.size = w.heap.size
  ne : blk ≠ e
  be : blk < w.heap.size ∧ e < w.heap.size ∧ N + 6 ≤ blk ∧ N + 6 ≤ e

theorem cut_heap {N : Nat} {top : HW} {hr : List HF} {ov : Value} {blk e n ecap : Nat} {sq : Bool} {X : HW} {D R : List HW} {acc : HW} {w W : World} (h : SB N ⟨top, ⟨blk, sq, .slice (some ⟨e, 0, none⟩) n ecap, D, acc⟩ :: hr, ov⟩ w) (hw : D ++ [acc] = X :: R)
    (hW : W.heap = (((w.setCell ⟨blk, 0, none⟩ (.bool false)).setCell ⟨blk, 1, none⟩ (.slice (some ⟨e, 0, none⟩) 1 ecap)).setCell ⟨e, 0, none⟩ (ptr X.blk)).heap) : CW N w W blk e ecap X.blk := by
  have hF := h.frames _ (List.mem_cons_self ..)
  have hwl : HF.words ⟨blk, sq, .slice (some ⟨e, 0, none⟩) n ecap, D, acc⟩ = X :: R := hw
  have hown := hF.own
  rw [hwl] at hown
  obtain ⟨g', cap', cur, hv, hb, hg, ht, h1, h2, h3⟩ := own_row hown (by simp)
  simp only [Value.slice.injEq, Option.some.injEq, Addr.mk.injEq, and_true] at hv
  obtain ⟨rfl, rfl, rfl⟩ := hv
  have hbl := (Array.getElem?_eq_some_iff.1 hF.blk).1
  have hel := (Array.getElem?_eq_some_iff.1 hg).1
  have hbf := hF.far
  have ne : blk ≠ e := fun e1 => by
    subst e1
    have hk := hF.blk
    rw [hg] at hk
    simp only [Option.some.injEq, Obj.cells.injEq] at hk
    exact absurd hk.2.1 (by decide)
  have hk2 : W.heap[e]? = some (.cells (cur.setIfInBounds 0 (ptr X.blk)) 38 (0, 0)) := by
    rw [hW]
    refine heap_setCell_same _ _ _ _ _ _ ?_
    rw [Below.heap_setCell _ _ _ _ (by show e ≠ blk; exact fun h => ne h.symm), Below.heap_setCell _ _ _ _ (by show e ≠ blk; exact fun h => ne h.symm)]
    exact hg
  refine ⟨fun k hk n1 n2 => ?_, ?_, ⟨rfl, Or.inr ⟨e, ecap, _, rfl, hb, hk2, ?_, h2, ?_, ?_⟩⟩, ?_, ne, hbl, hel, hbf, hb⟩
  · rw [hW, Below.heap_setCell _ _ _ _ n2, Below.heap_setCell _ _ _ _ n1, Below.heap_setCell _ _ _ _ n1]
  · rw [hW, Below.heap_setCell _ _ _ _ ne]
    have h5 := heap_setCell_same _ _ 0 _ _ (.bool false) hF.blk
    rw [heap_setCell_same _ _ _ _ _ _ h5]
    rfl
  · simp only [List.length_cons] at h1
    omega
  · simp [h3]
  · have hpos : 0 < cur.toList.length := by
      simp only [Array.length_toList]
      simp only [List.length_cons] at h1
      omega
    cases hc : cur.toList with
    | nil => rw [hc] at hpos; simp at hpos
    | cons c cs => simp [hc]
  · rw [hW]
    simp only [World.size_setCell]

/-- Ahead of the append. -/
structure CW0 (N : Nat) (w W0 : World) (blk e ecap x0 : Nat) : Prop where
  k0 : ∀ k, k < w.heap.size → k ≠ N + 2 → k ≠ blk → k ≠ e → W0.heap[k]? = w.heap[k]?
  k2 : W0.heap[N + 2]? = some (.cells #[ptr w.heap.size] 38 (0, 0))
  kp : W0.heap[w.heap.size]? = some (.cells #[.slice none 0 0] 40 (0, 0))
  kb : W0.heap[blk]? = some (.cells #[.bool false, .slice (some ⟨e, 0, none⟩) 1 ecap] 80 (0, 0))
  ko : W0.ownsRow (N + 6) 38 1 (.slice (some ⟨e, 0, none⟩) 1 ecap) 1 [ptr x0]
  kz : W0.heap.size = w.heap.size + 1
  ne : blk ≠ e
  be : blk < w.heap.size ∧ e < w.heap.size ∧ N + 6 ≤ blk ∧ N + 6 ≤ e

theorem cw0 {N : Nat} {w W : World} {blk e ecap x0 : Nat} {pp : Value} (c : CW N w W blk e ecap x0) (h2 : w.heap[N + 2]? = some (.cells #[pp] 38 (0, 0))) : CW0 N w ((W.setCell ⟨N + 2, 0, none⟩ (ptr w.heap.size)).alloc (.cells #[.slice none 0 0] 40)) blk e ecap x0 := by
  obtain ⟨b1, b2, b3, b4⟩ := c.be
  have hz := c.kz
  have hl2 := (Array.getElem?_eq_some_iff.1 h2).1
  have hs : (W.setCell ⟨N + 2, 0, none⟩ (ptr w.heap.size)).heap.size = w.heap.size := by simp only [World.size_setCell]; exact hz
  have h2W : W.heap[N + 2]? = some (.cells #[pp] 38 (0, 0)) := (c.k0 (N + 2) hl2 (by omega) (by omega)).trans h2
  refine ⟨fun k hk n2 nb ne => ?_, ?_, ?_, ?_, ?_, ?_, c.ne, c.be⟩
  · rw [Below.heap_alloc _ _ _ (by omega), Below.heap_setCell _ _ _ _ n2]
    exact c.k0 k hk nb ne
  · rw [Below.heap_alloc _ _ _ (by omega)]
    exact setCell_box h2W
  · have := heap_alloc_new (W.setCell ⟨N + 2, 0, none⟩ (ptr w.heap.size)) (.cells #[.slice none 0 0] 40)
    rw [hs] at this
    exact this
  · rw [Below.heap_alloc _ _ _ (by omega), Below.heap_setCell _ _ _ _ (by show blk ≠ N + 2; omega)]
    exact c.kb
  · refine own_kept c.ko (fun g hg h6 ⟨cc, hc⟩ => ?_)
    have hgl := (Array.getElem?_eq_some_iff.1 hc).1
    rw [Below.heap_alloc _ _ _ (by omega), Below.heap_setCell _ _ _ _ (by show g ≠ N + 2; omega)]
  · rw [World.size_alloc, hs]
theorem CW0.lies {N : Nat} {w W0 : World} {blk e ecap x0 : Nat} (c : CW0 N w W0 blk e ecap x0) (h3 : w.heap[N + 3]? = some (.cells #[ptr blk] 76 (0, 0))) : W0.cell? ⟨N + 3, 0, none⟩ = some (.pointer (some ⟨blk, 0, none⟩)) ∧ W0.cell? ⟨N + 2, 0, none⟩ = some (.pointer (some ⟨w.heap.size, 0, none⟩)) ∧ W0.cell? ⟨blk, 1, none⟩ = some (.slice (some ⟨e, 0, none⟩) 1 ecap) ∧ W0.frozen? ⟨blk, 1, none⟩ = false ∧ N + 3 < W0.heap.size ∧ N + 2 < W0.heap.size ∧ blk < W0.heap.size ∧ N + 6 ≤ W0.heap.size := by
  obtain ⟨b1, b2, b3, b4⟩ := c.be
  have hz := c.kz
  have hl := (Array.getElem?_eq_some_iff.1 h3).1
  have h3' := (c.k0 (N + 3) hl (by omega) (by omega) (by omega)).trans h3
  exact ⟨by rw [Lib.cell_of_heap h3']; rfl, by rw [Lib.cell_of_heap c.k2]; rfl, by rw [Lib.cell_of_heap c.kb]; rfl, Lib.frozen_of_heap c.kb 1, by omega, by omega, by omega, by omega⟩
/-- Behind the append, ahead of the store. -/
theorem CW0.after {N : Nat} {w W0 W w7 : World} {blk e ecap x0 : Nat} (c : CW0 N w W0 blk e ecap x0) (h3 : w.heap[N + 3]? = some (.cells #[ptr blk] 76 (0, 0))) (hB : Below W0.heap.size W0 W) (hg : W.grownBy w7 (some e)) : w7.heap[blk]? = some (.cells #[.bool false, .slice (some ⟨e, 0, none⟩) 1 ecap] 80 (0, 0)) ∧ w7.heap[N + 3]? = some (.cells #[ptr blk] 76 (0, 0)) ∧ w7.heap[N + 2]? = some (.cells #[ptr w.heap.size] 38 (0, 0)) := by
  obtain ⟨b1, b2, b3, b4⟩ := c.be
  have hz := c.kz
  have hs := hB.size
  have hl := (Array.getElem?_eq_some_iff.1 h3).1
  have hne := c.ne
  refine ⟨?_, ?_, ?_⟩
  · rw [hg.block _ (by omega) (fun e => hne (Option.some.inj e)), hB.block _ (by omega)]
    exact c.kb
  · rw [hg.block _ (by omega) (fun e => by have := Option.some.inj e; omega), hB.block _ (by omega), c.k0 (N + 3) (by omega) (by omega) (by omega) (by omega)]
    exact h3
  · rw [hg.block _ (by omega) (fun e => by have := Option.some.inj e; omega), hB.block _ (by omega)]
    exact c.k2
/-- The state behind it. -/
theorem CW0.end_ {N : Nat} {top : HW} {hr : List HF} {ov : Value} {blk e n ecap : Nat} {sq : Bool} {X : HW} {D R : List HW} {acc : HW} {w W0 W w7 : World} {v' : Value} {xs : List Value} {ys : List Part} (h : SB N ⟨top, ⟨blk, sq, .slice (some ⟨e, 0, none⟩) n ecap, D, acc⟩ :: hr, ov⟩ w) (hx : PartsAt w (HS.live N ⟨top, ⟨blk, sq, .slice (some ⟨e, 0, none⟩) n ecap, D, acc⟩ :: hr, ov⟩) xs ys) (hw : D ++ [acc] = X :: R)
    (c : CW0 N w W0 blk e ecap X.blk) (kbel : Below N w W0) (hB : Below W0.heap.size W0 W) (hg : W.grownBy w7 (some e)) (hown : w7.ownsRow (N + 6) 38 1 v' (1 + 1) ([ptr X.blk] ++ [ptr w.heap.size])) (hat : v'.ownBlock = some e ∨ v'.ownBlock = some W.heap.size) :
    Sb N ⟨top.ps, ⟨false, [X.ps], []⟩ :: hr.map HF.fr⟩ xs ys (w7.setCell ⟨blk, 1, none⟩ v') ∧ Still N w (w7.setCell ⟨blk, 1, none⟩ v') :=
  elem_end_of (D := [X]) (ev1 := .slice (some ⟨e, 0, none⟩) 1 ecap) h hx (by
    show [X].Sublist (D ++ [acc])
    rw [hw]
    exact List.Sublist.cons_cons _ (List.nil_sublist _)) (fun k hk n2 nb no => c.k0 k hk n2 nb (fun e1 => no (by rw [e1]; rfl))) c.k2 c.kp c.kb c.kz kbel rfl hB hg hown hat
end Go.Proofs.YtmcoifhiiagfpaaDoor

namespace Go.Proofs.YtmcoifhiiagfpaaDoor
open Go.RowKit
set_option linter.unusedSectionVars false
variable [Pw]

set_option linter.unusedSimpArgs false in
set_option maxRecDepth 1000000 in
set_option maxHeartbeats 2000000 in
theorem byte_merge {N p : Nat} {c50 c51 c52 : Value} {lx la jb : Nat} {a : Act} (fr : Fr N p c50 c51 c52 lx la jb a) {v : ByteArray} {q j last : Nat} {st : St} {xs : List Value} {ys : List Part} {w0 w : World} (m : In N v q lx la jb j last st xs ys w0 w) (hj : j < v.size) (hv : v.size ≤ 100000000)
    (hc : bt v j = 44) (fr0 : Frame) (r0 : List Frame) (hst : st.stack = fr0 :: r0) (hl : last ≤ j) (hcur : st.cur.length ≤ 100000000) (f6 : Frame) (r6 : List Frame) (hst6 : (st.flush v last j).stack = f6 :: r6) (hsq : f6.seq = true) (h6n : f6.done ≠ []) (h6d : f6.done.length ≤ 100000000) (h6l : (sepBy dots f6.elems).length ≤ 100000000) (Q0 : Exit → Act → World → Prop) :
    Code.wp Tryd.prog (bodyOf 1) (Exit.then (fun a' w' => ∃ jb', Fr N p c50 c51 c52 lx la jb' a' ∧ In N v q lx la jb' (j + 1) (j + 1) { (st.flush v last j) with stack := ⟨false, [sepBy dots f6.elems], []⟩ :: r6 } xs ys w0 w') Q0) a w := by
  obtain ⟨f, hf, ht⟩ := frame_lit a.tmps fr.size
  obtain ⟨t, d⟩ := a
  have hd : d = [] := fr.defers
  subst hd
  have h0 := (hf 0).trans fr.s0
  have h2 := (hf 2).trans fr.s2
  have h3 := (hf 3).trans fr.s3
  have h4 := (hf 4).trans fr.s4
  have h5 := (hf 5).trans fr.s5
  have h6 := (hf 6).trans fr.s6
  have h7 := (hf 7).trans fr.s7
  have h8 := (hf 8).trans fr.s8
  have h11 := (hf 11).trans fr.s11
  have h13 := (hf 13).trans fr.s13
  have h14 := (hf 14).trans fr.s14
  have h50 := (hf 50).trans fr.s50
  have h51 := (hf 51).trans fr.s51
  have h52 := (hf 52).trans fr.s52
  simp only [h0, h2, h3, h4, h5, h6, h7, h8, h11, h13, h14, h50, h51, h52] at ht
  have ht2 : t = _ := ht
  subst ht2
  clear hf ht fr h0 h2 h3 h4 h5 h6 h7 h8 h11 h13 h14 h50 h51 h52
  obtain ⟨x1, x2, x3, x4, hqb⟩ := m.lit
  have bx := m.bx
  have bl := m.bl
  have bj := m.bj
  have cj : w.cell? ⟨jb, 0, none⟩ = some (.int .i64 j) := by rw [Lib.cell_of_heap bj]; rfl
  have cx : w.cell? ⟨lx, 0, none⟩ = some (.pointer (some ⟨q, 0, none⟩)) := by rw [Lib.cell_of_heap bx]; rfl
  have q4 : w.cell? ⟨q, 4, none⟩ = some (.string v) := by rw [Lib.cell_of_heap hqb]; rfl
  have zj : w.frozen? ⟨jb, 0, none⟩ = false := Lib.frozen_of_heap bj 0
  have sj : jb < w.heap.size := (Array.getElem?_eq_some_iff.1 bj).1
  have hz : (j : Int) < (v.size : Int) ∧ (v.size : Int) ≤ 100000000 := by omega
  obtain ⟨bb, cn⟩ : ∃ bb : Nat, w.cell? ⟨N + 3, 0, none⟩ = some (.pointer (some ⟨bb, 0, none⟩)) := by
    obtain ⟨hs, h1, h2, _⟩ := m.sb
    obtain ⟨top, frames, ov⟩ := hs
    cases frames with
    | nil =>
      rw [← h2] at hst
      simp [HS.st] at hst
    | cons hf hr =>
      refine ⟨hf.blk, ?_⟩
      rw [Lib.cell_of_heap h1.b3]
      rfl
  have hg : (v[j]'hj).toNat = 44 := by rw [← bt_get v j hj]; exact hc
  have M := Lib.hid m
  clear hqb bx bl bj m hst hc
  conv => arg 2; whnf
  unfold ptr
  go_upto_region 17 with fail
  go_quiet (fail)
  have e6 : (w.drewN nq).cell? ⟨N + 3, 0, none⟩ = some (.pointer (some ⟨bb, 0, none⟩)) := cn
  have e1 : (w.drewN nq).cell? ⟨jb, 0, none⟩ = some (.int .i64 j) := cj
  have e2 : (w.drewN nq).cell? ⟨lx, 0, none⟩ = some (.pointer (some ⟨q, 0, none⟩)) := cx
  have e3 : (w.drewN nq).cell? ⟨q, 4, none⟩ = some (.string v) := q4
  have e4 : (w.drewN nq).frozen? ⟨jb, 0, none⟩ = false := zj
  have e5 : jb < (w.drewN nq).heap.size := sj
  have HD := Lib.hid (below_drewN (Below.refl w.heap.size w) nq)
  generalize w.drewN nq = w1 at *
  clear cj cx q4 zj sj cn
  go_upto_region 20 with fail
  go_quiet (fail)
  have g6 : (w1.drewN nq).cell? ⟨N + 3, 0, none⟩ = some (.pointer (some ⟨bb, 0, none⟩)) := e6
  have HD3 := Lib.hid (HD.out.trans (below_drewN (Below.refl w.heap.size w1) nq))
  generalize w1.drewN nq = w3 at *
  clear e1 e2 e3 e4 e5 e6
  have HM3 := Lib.hid (M.out.grow HD3.out)
  have HCALL := Lib.hid (addIdx_any N la jb lx q st xs ys w3 v last j HM3.out.sb HM3.out.bl HM3.out.bj HM3.out.bx HM3.out.lit hl (by omega) hv hcur)
  have HST6 := Lib.hid hst6
  clear hl hcur hst6
  have HSQ := Lib.hid hsq
  clear hsq
  go_upto_region 31 with (go_at_call 26; refine (HCALL.out).mono ?_; rintro e w6 ⟨rfl, h6, h6s⟩)
  all_goals
    have HM6 := Lib.hid (HM3.out.state h6 h6s)
    obtain ⟨hs, hsb, hst, hxy⟩ := h6
    obtain ⟨top, frames, ov⟩ := hs
    cases frames with
    | nil =>
      exfalso
      have := HST6.out
      rw [← hst] at this
      simp [HS.st] at this
    | cons hf hr =>
      obtain ⟨blk, sq, ev, D, acc⟩ := hf
      have hS1 : top.ps = (st.flush v last j).top := by rw [← hst]; rfl
      have hS2 : (⟨sq, D.map HW.ps, acc.ps⟩ : Frame) = f6 ∧ hr.map HF.fr = r6 := by
        have e1 := congrArg St.stack hst
        rw [HST6.out] at e1
        simp only [HS.st, List.map_cons, List.cons.injEq] at e1
        exact e1
      obtain ⟨hS2, hS3⟩ := hS2
      subst hS2
      have hsq2 : sq = true := HSQ.out
      subst hsq2
      obtain ⟨X, R, hw, hRn⟩ : ∃ X R, D ++ [acc] = X :: R ∧ 0 < R.length := by
        cases D with
        | nil => exact absurd rfl h6n
        | cons d D1 => exact ⟨d, D1 ++ [acc], rfl, by simp⟩
      have hF := hsb.frames _ (List.mem_cons_self ..)
      have hwl : HF.words ⟨blk, true, ev, D, acc⟩ = X :: R := hw
      have hown := hF.own
      rw [hwl] at hown
      obtain ⟨e, ecap, cur, hev, heb, heg, het, hec1, hec2, hec3⟩ := own_row hown (by simp)
      have hev2 : ev = .slice (some ⟨e, 0, none⟩) (X :: R).length ecap := hev
      subst hev2
      have helems : sepBy dots (Frame.elems ⟨true, D.map HW.ps, acc.ps⟩) = joinTo X.ps (R.map HW.ps) := by
        have e1 : Frame.elems ⟨true, D.map HW.ps, acc.ps⟩ = (D ++ [acc]).map HW.ps := by simp [Frame.elems]
        rw [e1, hw, List.map_cons, sep_join]
      have hb2 := hsb.b2
      have hb3 := hsb.b3
      have n3 : w6.cell? ⟨N + 3, 0, none⟩ = some (.pointer (some ⟨blk, 0, none⟩)) := by rw [Lib.cell_of_heap hb3]; rfl
      have n0 : w6.cell? ⟨blk, 0, none⟩ = some (.bool true) := by rw [Lib.cell_of_heap hF.blk]; rfl
      have n1 : w6.cell? ⟨blk, 1, none⟩ = some (.slice (some ⟨e, 0, none⟩) (R.length + 1) ecap) := by rw [Lib.cell_of_heap hF.blk]; rfl
      have ne0 : w6.cell? ⟨e, 0, none⟩ = some (.pointer (some ⟨X.blk, 0, none⟩)) := by
        rw [own_cell hown 0 (by simp)]
        rfl
      have hRl : R.length ≤ 100000000 := by
        have := congrArg List.length hw
        simp only [List.length_append, List.length_cons, List.length_nil] at this
        simp only [List.length_map] at h6d
        omega
      simp only [List.length_cons] at hec1
      have i1 : (1 : Int) ≤ (R.length : Int) ∧ (R.length : Int) ≤ 100000000 ∧ (R.length : Int) + 1 ≤ (ecap : Int) := by omega
      have nec : ¬ ecap = 1 := by omega
      have HIN := Lib.hid (And.intro hsb (And.intro hxy hw))
      have HST := Lib.hid (And.intro hS1 hS3)
      have HEL := Lib.hid helems
      have HJL := Lib.hid (show (joinTo X.ps (R.map HW.ps)).length ≤ 100000000 by rw [← helems]; exact h6l)
      have HRL := Lib.hid (And.intro hRn hRl)
      clear hb2 hb3 hst hxy hsb h6s hF HCALL hS1 hS3 h6n h6d h6l hown hev heb heg het hec1 hec2 hec3 helems hw hwl hRn hRl HSQ HST6 g6
      go_upto_region 33 with fail
      go_wp2_with fail
      refine merge_loop (N := N) (p := p) (c50 := c50) (c51 := c51) (c52 := c52) (lx := lx) (la := la) (jb := jb) (x0 := X.blk) (e := e) (ecap := ecap) (ccap := ecap - 1) (R := R) (top := top) (hr := hr) (ov := ov) (blk := blk) (sq := true) (P0 := X.ps) (xs := xs) (ys := ys) ⟨⟨rfl, rfl, rfl, rfl, rfl, rfl, rfl, rfl, rfl, rfl, rfl, rfl, rfl, rfl, rfl, rfl⟩, rfl, ?_, ?_, rfl⟩ ⟨X, D, acc, rfl, rfl, HIN.out.2.2, HIN.out.1, HIN.out.2.1⟩ HRL.out.2 HJL.out _ ?_
      · rfl
      · rfl
      · intro a8 w8 mf8 mg8 st8
        obtain ⟨fr8, g16, g127, g128, g129⟩ := mf8
        clear f
        obtain ⟨f, hf, ht⟩ := frame_lit a8.tmps fr8.size
        obtain ⟨t, d⟩ := a8
        have hd : d = [] := fr8.defers
        subst hd
        have h0 := (hf 0).trans fr8.s0
        have h2 := (hf 2).trans fr8.s2
        have h3 := (hf 3).trans fr8.s3
        have h4 := (hf 4).trans fr8.s4
        have h5 := (hf 5).trans fr8.s5
        have h6 := (hf 6).trans fr8.s6
        have h7 := (hf 7).trans fr8.s7
        have h8 := (hf 8).trans fr8.s8
        have h11 := (hf 11).trans fr8.s11
        have h13 := (hf 13).trans fr8.s13
        have h14 := (hf 14).trans fr8.s14
        have h50 := (hf 50).trans fr8.s50
        have h51 := (hf 51).trans fr8.s51
        have h52 := (hf 52).trans fr8.s52
        replace g16 := (hf 16).trans g16
        simp only [h0, h2, h3, h4, h5, h6, h7, h8, h11, h13, h14, h50, h51, h52, g16] at ht
        have ht2 : t = _ := ht
        subst ht2
        clear hf ht fr8 h0 h2 h3 h4 h5 h6 h7 h8 h11 h13 h14 h50 h51 h52 g16
        obtain ⟨X8, D8, acc8, hx8, hps8, hw8, hsb8, hxy8⟩ := mg8
        have hF := hsb8.frames _ (List.mem_cons_self ..)
        have HST8 := Lib.hid st8
        have HPS8 := Lib.hid hps8
        have HX8 := Lib.hid hx8
        have HIN8 := Lib.hid (And.intro hsb8 (And.intro hxy8 hw8))
        have n3 : w8.cell? ⟨N + 3, 0, none⟩ = some (.pointer (some ⟨blk, 0, none⟩)) := by rw [Lib.cell_of_heap hsb8.b3]; rfl
        have n0 : w8.cell? ⟨blk, 0, none⟩ = some (.bool true) := by rw [Lib.cell_of_heap hF.blk]; rfl
        have n1 : w8.cell? ⟨blk, 1, none⟩ = some (.slice (some ⟨e, 0, none⟩) (R.length + 1) ecap) := by rw [Lib.cell_of_heap hF.blk]; rfl
        have z0 : w8.frozen? ⟨blk, 0, none⟩ = false := Lib.frozen_of_heap hF.blk 0
        have nb3 : ¬ blk = N + 3 := by have h6 : N + 6 ≤ blk := hF.far; omega
        clear hps8 hx8 hsb8 hxy8 hw8 hF g127 g128 g129 HIN HJL st8
        unfold ptr
        go_upto_region 40 with fail
        obtain ⟨w9, h9⟩ : ∃ w9, w8.setCell ⟨blk, 0, none⟩ (.bool false) = w9 := ⟨_, rfl⟩
        have k9 : w9.heap[blk]? = some (.cells #[.bool false, .slice (some ⟨e, 0, none⟩) (R.length + 1) ecap] 80 (0, 0)) := by
          rw [← h9, heap_setCell_same _ _ _ _ _ _ (HIN8.out.1.frames _ (List.mem_cons_self ..)).blk]
          rfl
        have k93 : w9.heap[N + 3]? = some (.cells #[ptr blk] 76 (0, 0)) := by
          rw [← h9, Below.heap_setCell _ _ _ _ (by show N + 3 ≠ blk; exact fun h => nb3 h.symm)]
          exact HIN8.out.1.b3
        have m3 : w9.cell? ⟨N + 3, 0, none⟩ = some (.pointer (some ⟨blk, 0, none⟩)) := by rw [Lib.cell_of_heap k93]; rfl
        have m1 : w9.cell? ⟨blk, 1, none⟩ = some (.slice (some ⟨e, 0, none⟩) (R.length + 1) ecap) := by rw [Lib.cell_of_heap k9]; rfl
        have z9 : w9.frozen? ⟨blk, 1, none⟩ = false := Lib.frozen_of_heap k9 1
        have hbl9 : blk < w9.heap.size := (Array.getElem?_eq_some_iff.1 k9).1
        have iec : (1 : Int) ≤ (ecap : Int) := by omega
        have HK9 := Lib.hid (And.intro k9 k93)
        rw [h9]
        have HW9 := Lib.hid h9
        clear h9 k9 k93 n3 n0 n1 z0
        refine region_anyE (fun w' => w'.cell? ⟨N + 3, 0, none⟩ = some (.pointer (some ⟨blk, 0, none⟩)) ∧ w'.cell? ⟨blk, 1, none⟩ = some (.slice (some ⟨e, 0, none⟩) (R.length + 1) ecap)) 8 (by kernel_rfl) ?_ (fun hS hC => ?_)
        · (try dsimp only); go_keep
        refine anyE_take (i := 0) (v := ?_) [0] (by kernel_rfl) rfl (fun _ _ _ h => h) (by rfl) ?_ hC hS ?_
        rotate_left
        · intro w hSw
          (try dsimp only at hSw)
          go_simp
          (try with_reducible rfl)
        clear hC
        intro hC
        try simp only [Act.put, List.setIfInBounds_toArray, List.set_cons_zero, List.set_cons_succ]
        refine anyE_take (i := 1) (v := ?_) [1] (by kernel_rfl) rfl (fun _ _ _ h => h) (by rfl) ?_ hC hS ?_
        rotate_left
        · intro w hSw
          (try dsimp only at hSw)
          go_simp
          (try with_reducible rfl)
        clear hC
        intro hC
        try simp only [Act.put, List.setIfInBounds_toArray, List.set_cons_zero, List.set_cons_succ]
        refine anyE_take (i := 2) (v := ?_) [2] (by kernel_rfl) rfl (fun _ _ _ h => h) (by rfl) ?_ hC hS ?_
        rotate_left
        · intro w hSw
          (try dsimp only at hSw)
          go_simp
          (try with_reducible rfl)
        clear hC
        intro hC
        try simp only [Act.put, List.setIfInBounds_toArray, List.set_cons_zero, List.set_cons_succ]
        refine anyE_take (i := 3) (v := ?_) [3] (by kernel_rfl) rfl (fun _ _ _ h => h) (by rfl) ?_ hC hS ?_
        rotate_left
        · intro w hSw
          (try dsimp only at hSw)
          go_simp
          (try with_reducible rfl)
        clear hC
        intro hC
        try simp only [Act.put, List.setIfInBounds_toArray, List.set_cons_zero, List.set_cons_succ]
        refine anyE_take (i := 4) (v := ?_) [4] (by kernel_rfl) rfl (fun _ _ _ h => h) (by rfl) ?_ hC hS ?_
        rotate_left
        · intro w hSw
          (try dsimp only at hSw)
          go_simp
          (try with_reducible rfl)
        clear hC
        intro hC
        try simp only [Act.put, List.setIfInBounds_toArray, List.set_cons_zero, List.set_cons_succ]
        refine anyE_take (i := 5) (v := ?_) [5] (by kernel_rfl) rfl (fun _ _ _ h => h) (by rfl) ?_ hC hS ?_
        rotate_left
        · intro w hSw
          (try dsimp only at hSw)
          go_simp
          (try with_reducible rfl)
        clear hC
        intro hC
        try simp only [Act.put, List.setIfInBounds_toArray, List.set_cons_zero, List.set_cons_succ]
        refine anyE_take (i := 6) (v := ?_) [7, 6] (by kernel_rfl) rfl (fun _ _ _ h => h) (by rfl) ?_ hC hS ?_
        rotate_left
        · intro w hSw
          (try dsimp only at hSw)
          go_simp
          (try with_reducible rfl)
        clear hC
        intro hC
        try simp only [Act.put, List.setIfInBounds_toArray, List.set_cons_zero, List.set_cons_succ]
        refine anyE_take (i := 7) (v := ?_) [7] (by kernel_rfl) rfl (fun _ _ _ h => h) (by rfl) ?_ hC hS ?_
        rotate_left
        · intro w hSw
          (try dsimp only at hSw)
          go_simp
          (try with_reducible rfl)
        clear hC
        intro hC
        try simp only [Act.put, List.setIfInBounds_toArray, List.set_cons_zero, List.set_cons_succ]
        refine anyE_last (by kernel_rfl) rfl (by kernel_rfl) (fun K hK => ?_)
        clear hC
        go_simp
        refine hK.out _ _ ?_
        clear hK K hS
        refine NoPanic.normal ?_
        try simp only [Act.put, List.setIfInBounds_toArray, List.set_cons_zero, List.set_cons_succ]
        obtain ⟨w10, h10⟩ : ∃ w10, (w9.setCell ⟨blk, 1, none⟩ (.slice (some ⟨e, 0, none⟩) 1 ecap)).drew = w10 := ⟨_, rfl⟩
        have hb10 : w10.heap[blk]? = some (.cells #[.bool false, .slice (some ⟨e, 0, none⟩) 1 ecap] 80 (0, 0)) := by
          rw [← h10]
          show (w9.setCell ⟨blk, 1, none⟩ (.slice (some ⟨e, 0, none⟩) 1 ecap)).heap[blk]? = _
          rw [heap_setCell_same _ _ _ _ _ _ HK9.out.1]
          rfl
        have h103 : w10.heap[N + 3]? = some (.cells #[ptr blk] 76 (0, 0)) := by
          rw [← h10]
          show (w9.setCell ⟨blk, 1, none⟩ (.slice (some ⟨e, 0, none⟩) 1 ecap)).heap[N + 3]? = _
          rw [Below.heap_setCell _ _ _ _ (by show N + 3 ≠ blk; exact fun h => nb3 h.symm)]
          exact HK9.out.2
        obtain ⟨cur, hbe, he8, hec⟩ : ∃ cur : Array Value, N + 6 ≤ e ∧ w8.heap[e]? = some (.cells cur 38 (0, 0)) ∧ 0 < cur.size := by
          have hF := HIN8.out.1.frames _ (List.mem_cons_self ..)
          obtain ⟨g', cap', cur, hv, hb, hg, ht, h1, h2, h3⟩ := own_row hF.own (by simp [HF.words])
          simp only [Value.slice.injEq, Option.some.injEq, Addr.mk.injEq, and_true] at hv
          obtain ⟨rfl, _, rfl⟩ := hv
          exact ⟨cur, hb, hg, by omega⟩
        have neb : blk ≠ e := fun e1 => by
          have hk := (HIN8.out.1.frames _ (List.mem_cons_self ..)).blk
          rw [← e1] at he8
          rw [he8] at hk
          simp only [Option.some.injEq, Obj.cells.injEq] at hk
          exact absurd hk.2.1 (by decide)
        have he10 : w10.heap[e]? = some (.cells cur 38 (0, 0)) := by
          rw [← h10]
          show (w9.setCell ⟨blk, 1, none⟩ (.slice (some ⟨e, 0, none⟩) 1 ecap)).heap[e]? = _
          rw [Below.heap_setCell _ _ _ _ (by show e ≠ blk; exact fun h => neb h.symm), ← HW9.out, Below.heap_setCell _ _ _ _ (by show e ≠ blk; exact fun h => neb h.symm)]
          exact he8
        have y3 : w10.cell? ⟨N + 3, 0, none⟩ = some (.pointer (some ⟨blk, 0, none⟩)) := by rw [Lib.cell_of_heap h103]; rfl
        have y1 : w10.cell? ⟨blk, 1, none⟩ = some (.slice (some ⟨e, 0, none⟩) 1 ecap) := by rw [Lib.cell_of_heap hb10]; rfl
        obtain ⟨c0, hc0⟩ : ∃ c0, cur[0]? = some c0 := ⟨cur[0], Array.getElem?_eq_getElem hec⟩
        have ye : w10.cell? ⟨e, 0, none⟩ = some c0 := by rw [Lib.cell_of_heap he10]; exact hc0
        have yz : w10.frozen? ⟨e, 0, none⟩ = false := Lib.frozen_of_heap he10 0
        have hs10 : w10.heap.size = w8.heap.size := by
          rw [← h10]
          show (w9.setCell ⟨blk, 1, none⟩ (.slice (some ⟨e, 0, none⟩) 1 ecap)).heap.size = _
          rw [← HW9.out]
          simp only [World.size_setCell]
        have hl8 := HIN8.out.1.lt
        have g2 : N + 2 < w10.heap.size := by omega
        have g3 : N + 3 < w10.heap.size := by omega
        have ge : e < w10.heap.size := (Array.getElem?_eq_some_iff.1 he10).1
        have gb : blk < w10.heap.size := (Array.getElem?_eq_some_iff.1 hb10).1
        have e2 : ¬ e = N + 2 := by omega
        have e3 : ¬ e = N + 3 := by omega
        have b2 : w10.cell? ⟨N + 2, 0, none⟩ = some (ptr acc8.blk) := by
          rw [Lib.cell_of_heap (show w10.heap[N + 2]? = some (.cells #[ptr acc8.blk] 38 (0, 0)) from ?_)]
          · rfl
          · rw [← h10]
            show (w9.setCell ⟨blk, 1, none⟩ (.slice (some ⟨e, 0, none⟩) 1 ecap)).heap[N + 2]? = _
            have hF := (HIN8.out.1.frames _ (List.mem_cons_self ..)).far
            have hF2 : N + 6 ≤ blk := hF
            rw [Below.heap_setCell _ _ _ _ (by show N + 2 ≠ blk; omega), ← HW9.out, Below.heap_setCell _ _ _ _ (by show N + 2 ≠ blk; omega)]
            exact HIN8.out.1.b2
        have f2 : w10.frozen? ⟨N + 2, 0, none⟩ = false := by
          refine Lib.frozen_of_heap (show w10.heap[N + 2]? = some (.cells #[ptr acc8.blk] 38 (0, 0)) from ?_) 0
          rw [← h10]
          show (w9.setCell ⟨blk, 1, none⟩ (.slice (some ⟨e, 0, none⟩) 1 ecap)).heap[N + 2]? = _
          have hF := (HIN8.out.1.frames _ (List.mem_cons_self ..)).far
          have hF2 : N + 6 ≤ blk := hF
          rw [Below.heap_setCell _ _ _ _ (by show N + 2 ≠ blk; omega), ← HW9.out, Below.heap_setCell _ _ _ _ (by show N + 2 ≠ blk; omega)]
          exact HIN8.out.1.b2
        rw [h10]
        have HW10 := Lib.hid h10
        have HE10 := Lib.hid (And.intro hb10 (And.intro h103 (And.intro he10 (And.intro hs10 (And.intro he8 neb)))))
        clear h10 hb10 h103 he8 hec neb he10 hc0 hs10 m3 m1 z9 HK9
        go_upto_region 43 with fail
        have hF8 := HIN8.out.1.frames _ (List.mem_cons_self ..)
        have hblk : N + 6 ≤ blk := hF8.far
        have kb9 : Below N w8 w9 := by rw [← HW9.out]; exact (Below.refl N w8).setCell (p := ⟨blk, 0, none⟩) (by show N ≤ blk; omega) _
        have kb10 : Below N w8 w10 := by rw [← HW10.out]; exact (kb9.setCell (p := ⟨blk, 1, none⟩) (by show N ≤ blk; omega) _).drew
        have kb0 : Below N w8 (((w10.setCell ⟨e, 0, none⟩ (ptr X.blk)).setCell ⟨N + 2, 0, none⟩ (ptr w8.heap.size)).alloc (.cells #[.slice none 0 0] 40)) :=
          ((kb10.setCell (p := ⟨e, 0, none⟩) (by show N ≤ e; omega) _).setCell (p := ⟨N + 2, 0, none⟩) (by show N ≤ N + 2; omega) _).alloc (by simp only [World.size_setCell]; omega) _
        have cw : CW N w8 (w10.setCell ⟨e, 0, none⟩ (ptr X.blk)) blk e ecap X.blk := by
          have h1 := cut_heap (W := w10.setCell ⟨e, 0, none⟩ (ptr X8.blk)) HIN8.out.1 HIN8.out.2.2 (by rw [← HW10.out, ← HW9.out]; rfl)
          rw [HX8.out] at h1
          exact h1
        have c0 := cw0 cw HIN8.out.1.b2
        rw [HE10.out.2.2.2.1]
        change Code.wp _ _ _ _ (((w10.setCell ⟨e, 0, none⟩ (ptr X.blk)).setCell ⟨N + 2, 0, none⟩ (ptr w8.heap.size)).alloc (.cells #[.slice none 0 0] 40))
        clear hF8 hblk kb9 kb10 cw y3 y1 ye yz g2 g3 ge gb b2 f2 HE10 HW10 HW9 hbl9
        generalize ((w10.setCell ⟨e, 0, none⟩ (ptr X.blk)).setCell ⟨N + 2, 0, none⟩ (ptr w8.heap.size)).alloc (.cells #[.slice none 0 0] 40) = W0 at *
        obtain ⟨u3, u2, u1, uz, us3, us2, usb, us6⟩ := c0.lies HIN8.out.1.b3
        have HC0 := Lib.hid (And.intro c0 kb0)
        clear c0 kb0
        obtain ⟨ib, hib, hb0, hb1, hb2⟩ := info_parts Tryd.info_pword
        refine region_anyE (fun w' => w'.cell? ⟨N + 3, 0, none⟩ = some (.pointer (some ⟨blk, 0, none⟩)) ∧ w'.cell? ⟨blk, 1, none⟩ = some (.slice (some ⟨e, 0, none⟩) 1 ecap) ∧ w'.cell? ⟨N + 2, 0, none⟩ = some (.pointer (some ⟨w8.heap.size, 0, none⟩))) 10 (by kernel_rfl) ?_ (fun hS hC => ?_)
        · (try dsimp only); go_keep
        refine anyE_take (i := 0) (v := ?_) [0] (by kernel_rfl) rfl (fun _ _ _ h => h) (by rfl) ?_ hC hS ?_
        rotate_left
        · intro w hSw
          (try dsimp only at hSw)
          go_simp
          (try with_reducible rfl)
        clear hC
        intro hC
        try simp only [Act.put, List.setIfInBounds_toArray, List.set_cons_zero, List.set_cons_succ]
        refine anyE_take (i := 1) (v := ?_) [1] (by kernel_rfl) rfl (fun _ _ _ h => h) (by rfl) ?_ hC hS ?_
        rotate_left
        · intro w hSw
          (try dsimp only at hSw)
          go_simp
          (try with_reducible rfl)
        clear hC
        intro hC
        try simp only [Act.put, List.setIfInBounds_toArray, List.set_cons_zero, List.set_cons_succ]
        refine anyE_take (i := 2) (v := ?_) [2] (by kernel_rfl) rfl (fun _ _ _ h => h) (by rfl) ?_ hC hS ?_
        rotate_left
        · intro w hSw
          (try dsimp only at hSw)
          go_simp
          (try with_reducible rfl)
        clear hC
        intro hC
        try simp only [Act.put, List.setIfInBounds_toArray, List.set_cons_zero, List.set_cons_succ]
        refine anyE_take (i := 3) (v := ?_) [3] (by kernel_rfl) rfl (fun _ _ _ h => h) (by rfl) ?_ hC hS ?_
        rotate_left
        · intro w hSw
          (try dsimp only at hSw)
          go_simp
          (try with_reducible rfl)
        clear hC
        intro hC
        try simp only [Act.put, List.setIfInBounds_toArray, List.set_cons_zero, List.set_cons_succ]
        refine anyE_take (i := 4) (v := ?_) [4] (by kernel_rfl) rfl (fun _ _ _ h => h) (by rfl) ?_ hC hS ?_
        rotate_left
        · intro w hSw
          (try dsimp only at hSw)
          go_simp
          (try with_reducible rfl)
        clear hC
        intro hC
        try simp only [Act.put, List.setIfInBounds_toArray, List.set_cons_zero, List.set_cons_succ]
        refine anyE_take (i := 5) (v := ?_) [5] (by kernel_rfl) rfl (fun _ _ _ h => h) (by rfl) ?_ hC hS ?_
        rotate_left
        · intro w hSw
          (try dsimp only at hSw)
          go_simp
          (try with_reducible rfl)
        clear hC
        intro hC
        try simp only [Act.put, List.setIfInBounds_toArray, List.set_cons_zero, List.set_cons_succ]
        refine anyE_one (i := 6) (by kernel_rfl) hC rfl (fun K hK => ?_)
        clear hC
        go_simp
        refine hK.out _ _ ?_ ?_
        · (try dsimp only); go_keep
        clear hS
        intro hS hC
        clear hK K
        try simp only [Act.put, List.setIfInBounds_toArray, List.set_cons_zero, List.set_cons_succ]
        refine anyE_one (i := 7) (by kernel_rfl) hC rfl (fun K hK => ?_)
        clear hC
        (refine step_append_lies _ (by rfl) _ _ 78 (by rfl) (N + 6) 38 ib (.pointer none) 1 8 Tryd.underlying78 hib hb0 hb1 hb2 rfl (by decide) _ _ _ (by rfl) ((HC0.out.1.ko.alloc _).drew) ⟨W0.heap.size, 0, none⟩ 1 1 [.pointer (some ⟨w8.heap.size, 0, none⟩)] (by rfl) (by rfl) (World.news_of_block (cs := #[.pointer (some ⟨w8.heap.size, 0, none⟩)]) (t := 38) (fr := (0, 0)) (heap_alloc_new W0 _)) (by simp [Value.oneCell']) (by decide) (by decide) (by decide) (by rw [alloc_size]; omega) (W0.heap.size + 1) (by simp) ?_; intro g7 cap7 w7 hown7 hgrow7 hat7 _; have hh := HC0.out.1.after HIN8.out.1.b3 (((Below.refl W0.heap.size W0).alloc (Nat.le_refl _) _).drew) hgrow7; have hc7 : w7.cell? ⟨blk, 1, none⟩ = some (.slice (some ⟨e, 0, none⟩) 1 ecap) := (Lib.cell_of_heap hh.1 1).trans rfl; have hz7 : w7.frozen? ⟨blk, 1, none⟩ = false := Lib.frozen_of_heap hh.1 1; have hd7 : w7.cell? ⟨N + 3, 0, none⟩ = some (.pointer (some ⟨blk, 0, none⟩)) := (Lib.cell_of_heap hh.2.1 0).trans rfl; have hp7 : w7.cell? ⟨N + 2, 0, none⟩ = some (.pointer (some ⟨w8.heap.size, 0, none⟩)) := (Lib.cell_of_heap hh.2.2 0).trans rfl; have H7 := Lib.hid (And.intro hown7 (And.intro hgrow7 hat7)); clear hown7 hgrow7 hat7 hh)
        refine hK.out _ _ ?_ ?_
        · (try dsimp only); exact ⟨hd7, hc7, hp7⟩
        clear hS
        intro hS hC
        clear hK K
        try simp only [Act.put, List.setIfInBounds_toArray, List.set_cons_zero, List.set_cons_succ]
        refine anyE_take (i := 8) (v := ?_) [9, 8] (by kernel_rfl) rfl (fun _ _ _ h => h) (by rfl) ?_ hC hS ?_
        rotate_left
        · intro w hSw
          (try dsimp only at hSw)
          go_simp
          (try with_reducible rfl)
        clear hC
        intro hC
        try simp only [Act.put, List.setIfInBounds_toArray, List.set_cons_zero, List.set_cons_succ]
        refine anyE_take (i := 9) (v := ?_) [9] (by kernel_rfl) rfl (fun _ _ _ h => h) (by rfl) ?_ hC hS ?_
        rotate_left
        · intro w hSw
          (try dsimp only at hSw)
          go_simp
          (try with_reducible rfl)
        clear hC
        intro hC
        try simp only [Act.put, List.setIfInBounds_toArray, List.set_cons_zero, List.set_cons_succ]
        refine anyE_last (by kernel_rfl) rfl (by kernel_rfl) (fun K hK => ?_)
        clear hC
        go_simp
        refine hK.out _ _ ?_
        clear hK K hS
        refine NoPanic.normal ?_
        try simp only [Act.put, List.setIfInBounds_toArray, List.set_cons_zero, List.set_cons_succ]
        have c0 : CW0 N w8 W0 blk e ecap X8.blk := by rw [HX8.out]; exact HC0.out.1
        obtain ⟨e7, s7⟩ := c0.end_ (v' := .slice (some ⟨g7, 0, none⟩) (1 + 1) cap7) HIN8.out.1 HIN8.out.2.1 HIN8.out.2.2 HC0.out.2 (((Below.refl W0.heap.size W0).alloc (Nat.le_refl _) _).drew) H7.out.2.1 (by rw [HX8.out]; exact H7.out.1) (by
          rcases H7.out.2.2 with e1 | e1
          · exact Or.inl e1.symm
          · exact Or.inr (by rw [alloc_size]; exact congrArg some e1))
        rw [HPS8.out, ← HEL.out, HST.out.1, HST.out.2] at e7
        have hm7 := HM6.out.state e7 (HST8.out.trans s7)
        have HM7 := Lib.hid hm7
        clear c0 hc7 hz7 hd7 hp7 H7 e7 s7 hm7 u3 u2 u1 uz us3 us2 usb us6
        generalize w7.setCell ⟨blk, 1, none⟩ (.slice (some ⟨g7, 0, none⟩) (1 + 1) cap7) = w20 at *
        have hbj := HM7.out.bj
        have hbl := HM7.out.bl
        have k1 : w20.cell? ⟨jb, 0, none⟩ = some (.int .i64 (j : Int)) := by rw [Lib.cell_of_heap hbj]; rfl
        have k2 : w20.cell? ⟨la, 0, none⟩ = some (.int .i64 last) := by rw [Lib.cell_of_heap hbl]; rfl
        have k3 : w20.frozen? ⟨la, 0, none⟩ = false := Lib.frozen_of_heap hbl 0
        have k4 : jb < w20.heap.size := (Array.getElem?_eq_some_iff.1 hbj).1
        have k5 : la < w20.heap.size := (Array.getElem?_eq_some_iff.1 hbl).1
        clear hbj hbl
        have hms := HM7.out.setl (j + 1)
        rw [Int.natCast_add, Int.natCast_one] at hms
        have HM9 := Lib.hid hms
        clear hms
        go_upto_region 96 with fail
        have k6 : (w20.setCell ⟨la, 0, none⟩ (.int .i64 ((j : Int) + 1))).cell? ⟨jb, 0, none⟩ = some (.int .i64 (j : Int)) := by have := HM9.out.bj; rw [Lib.cell_of_heap this]; rfl
        generalize w20.setCell ⟨la, 0, none⟩ (.int .i64 ((j : Int) + 1)) = w22 at *
        clear k1 k2 k3 k4 k5
        go_wp2_with fail
        have hn := HM9.out.next (Below.refl _ _) (j + 1)
        rw [Int.natCast_add, Int.natCast_one] at hn
        exact ⟨_, ⟨rfl, rfl, rfl, rfl, rfl, rfl, rfl, rfl, rfl, rfl, rfl, rfl, rfl, rfl, rfl, rfl⟩, hn⟩
end Go.Proofs.YtmcoifhiiagfpaaDoor
