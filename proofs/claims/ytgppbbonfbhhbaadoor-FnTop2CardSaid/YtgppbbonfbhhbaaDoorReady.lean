/-
  The fields' places read back, merged; the texts. No walk here.
-/
import Derived.Test.YtgppbbonfbhhbaaDoorMem
import Derived.Laws.Cover4
namespace Go.Proofs.YtgppbbonfbhhbaaDoor
open Go.RowKit Rf

theorem own_cap {w : World} {base : Nat} {e : TypeId} {size : Nat} {g c n m : Nat} {xs : List Value} (h : w.ownsRow base e size (.slice (some ⟨g, 0, none⟩) n c) m xs) : m ≤ c := by
  rcases h.2 with ⟨h', _⟩ | ⟨g', cap', cur, h', _, _, hnc, _⟩
  · simp at h'
  · cases h'; exact hnc

theorem pairs_get : ∀ (fs : List (Nat × Nat)) (k : Nat), k < fs.length →
    (fs.flatMap fun f => [Value.int .i64 f.1, .int .i64 f.2])[k * 2]? = some (.int .i64 (fs.getD k (0, 0)).1) ∧ (fs.flatMap fun f => [Value.int .i64 f.1, .int .i64 f.2])[k * 2 + 1]? = some (.int .i64 (fs.getD k (0, 0)).2)
  | [], k, h => by simp at h
  | f :: fs, 0, _ => by simp
  | f :: fs, k + 1, h => by
    have ih := pairs_get fs k (by simpa using h)
    rw [show (k + 1) * 2 = k * 2 + 1 + 1 by omega]
    simpa using ih

theorem fcells_get (fs : List (Nat × Nat)) (k : Nat) (h : k < fs.length) :
    (fcells fs none)[k * 2]? = some (.int .i64 (fs.getD k (0, 0)).1) ∧ (fcells fs none)[k * 2 + 1]? = some (.int .i64 (fs.getD k (0, 0)).2) := by
  simpa [fcells] using pairs_get fs k h

theorem fcells_none_length (fs : List (Nat × Nat)) : (fcells fs none).length = 2 * fs.length := by simp only [fcells, List.append_nil, pairs_length]

/-- The fields handed back when there are more than are asked for. -/
def merged (fs : List (Nat × Nat)) (q e : Nat) : List (Nat × Nat) := fs.take q ++ [((fs.getD q (0, 0)).1, e)]

theorem merged_length (fs : List (Nat × Nat)) (q e : Nat) (h : q < fs.length) : (merged fs q e).length = q + 1 := by
  simp [merged]; omega

theorem merged_low (fs : List (Nat × Nat)) (q e k : Nat) (h : q < fs.length) (hk : k < q) : (merged fs q e).getD k (0, 0) = fs.getD k (0, 0) := by
  unfold merged
  rw [List.getD, List.getElem?_append_left (by simp; omega), List.getElem?_take_of_lt hk]
  rfl
theorem merged_top (fs : List (Nat × Nat)) (q e : Nat) (h : q < fs.length) : (merged fs q e).getD q (0, 0) = ((fs.getD q (0, 0)).1, e) := by
  unfold merged
  rw [List.getD, List.getElem?_append_right (by simp; omega)]
  simp [Nat.min_eq_left (Nat.le_of_lt h)]

theorem cells_merge (fs : List (Nat × Nat)) (q e k : Nat) (hq : q < fs.length) (hk : k < q + 1) :
    ((fcells fs none).set (q * 2 + 1) (.int .i64 e))[k * 2]? = some (.int .i64 ((merged fs q e).getD k (0, 0)).1) ∧ ((fcells fs none).set (q * 2 + 1) (.int .i64 e))[k * 2 + 1]? = some (.int .i64 ((merged fs q e).getD k (0, 0)).2) := by
  have hl := fcells_none_length fs
  have hg := fcells_get fs k (by omega)
  rw [List.getElem?_set_ne (by omega)]
  by_cases hkq : k = q
  · subst hkq
    rw [merged_top fs k e hq, List.getElem?_set_self (by omega)]
    exact ⟨hg.1, rfl⟩
  · rw [merged_low fs q e k hq (by omega), List.getElem?_set_ne (by omega)]
    exact hg

/-- All is there that the last loop reads. -/
structure Ready (B : Nat) (W : World) (ga : Nat) (out : List Int) (fs : List (Nat × Nat)) (g : Nat) (wr : World) : Prop where
  flds : ∀ k, k < fs.length → wr.cell? ⟨g, k * 2, none⟩ = some (.int .i64 (fs.getD k (0, 0)).1) ∧ wr.cell? ⟨g, k * 2 + 1, none⟩ = some (.int .i64 (fs.getD k (0, 0)).2)
  rows : ∀ j, j < out.length → wr.cell? ⟨ga, j, none⟩ = some (.int .i32 (out.getD j 0))
  bel : Below B W wr
  hB : B ≤ wr.heap.size

theorem rows_cells {w : World} {base ga rc : Nat} {out : List Int} (h : w.ownsRow base 21 1 (.slice (some ⟨ga, 0, none⟩) out.length rc) out.length (out.map (Value.int .i32))) (j : Nat) (hj : j < out.length) : w.cell? ⟨ga, j, none⟩ = some (.int .i32 (out.getD j 0)) := by
  rw [h.cellAt j (by omega)]
  simp [List.getD, hj]

theorem ready_all {N B K ga rc g c : Nat} {s : ByteArray} {pos : Nat} {W wr : World} {out : List Int} {fs : List (Nat × Nat)} (h : Mem B K s pos W (.slice (some ⟨ga, 0, none⟩) out.length rc) (.slice (some ⟨g, 0, none⟩) N c) out fs none wr) (hN : N = fs.length) : Ready B W ga out fs g wr where
  flds k hk := by
    subst hN
    have hf : wr.ownsRow B 69 2 (.slice (some ⟨g, 0, none⟩) fs.length c) fs.length (fcells fs none) := h.flds
    rw [hf.cellAt _ (by omega), hf.cellAt _ (by omega)]
    exact fcells_get fs k hk
  rows j hj := rows_cells h.rows j hj
  bel := h.bel
  hB := h.size

theorem ready_cut {N B K ga rc g c : Nat} {s : ByteArray} {pos : Nat} {W wr : World} {out : List Int} {fs : List (Nat × Nat)} (h : Mem B K s pos W (.slice (some ⟨ga, 0, none⟩) out.length rc) (.slice (some ⟨g, 0, none⟩) N c) out fs none wr) (hN : N = fs.length) (q e : Nat) (hq : q < fs.length) :
    Ready B W ga out (merged fs q e) g (wr.setCell ⟨g, q * 2 + 1, none⟩ (.int .i64 e)) where
  flds k hk := by
    subst hN
    rw [merged_length fs q e hq] at hk
    have hf : wr.ownsRow B 69 2 (.slice (some ⟨g, 0, none⟩) fs.length c) fs.length (fcells fs none) := h.flds
    have hs := (hf.stored (q * 2 + 1) (.int .i64 e)).1
    rw [hs.cellAt _ (by omega), hs.cellAt _ (by omega)]
    exact cells_merge fs q e k hq hk
  rows j hj := by
    subst hN
    have hr := own_apart h.rows h.flds (by decide)
    rw [World.cell?_setCell_other _ _ _ _ (by intro e; cases e; rcases hr with hr | hr <;> simp [Value.ownBlock] at hr)]
    exact rows_cells h.rows j hj
  bel := h.bel.setCell (h.flds.lt g rfl).1 _
  hB := by simpa [World.setCell] using h.size

theorem endCell_any {N B K g c : Nat} {s : ByteArray} {pos : Nat} {W wr : World} {rv : Value} {out : List Int} {fs : List (Nat × Nat)} (h : Mem B K s pos W rv (.slice (some ⟨g, 0, none⟩) N c) out fs none wr) (hN : N = fs.length) (q : Nat) (hq : q < fs.length) :
    wr.cell? ⟨g, q * 2 + 1, none⟩ = some (.int .i64 (fs.getD q (0, 0)).2) ∧ wr.frozen? ⟨g, q * 2 + 1, none⟩ = false := by
  subst hN
  have hf : wr.ownsRow B 69 2 (.slice (some ⟨g, 0, none⟩) fs.length c) fs.length (fcells fs none) := h.flds
  exact ⟨by rw [hf.cellAt _ (by omega)]; exact (fcells_get fs q hq).2, hf.frozenAt _⟩

theorem cut_merged {ws : Int → Bool} {out : List Int} {fs : List (Nat × Nat)} {L q : Nat} (hL : fs.length = L + 1) (hq : q < L) (hq1 : 1 ≤ q) : cut ws ((q : Int) + 1) out fs = merged fs q (fs.getD L (0, 0)).2 := by
  have h1 : ¬ (q : Int) + 1 = 1 := by omega
  have h2 : (q : Int) + 1 ≠ -1 ∧ (q : Int) + 1 < (fs.length : Int) := by omega
  have h3 : ((q : Int) + 1).toNat - 1 = q := by omega
  have h4 : fs.getLastD (0, 0) = fs.getD L (0, 0) := by
    rw [List.getLastD_eq_getLast?, List.getLast?_eq_getElem?, hL]
    rfl
  unfold cut merged
  rw [if_neg h1, if_pos h2, h3, h4]

theorem cut_none {ws : Int → Bool} {n : Int} {out : List Int} {fs : List (Nat × Nat)} (h1 : n ≠ 1) (h2 : ¬ (n ≠ -1 ∧ n < (fs.length : Int))) : cut ws n out fs = fs := by
  unfold cut
  rw [if_neg h1, if_neg h2]

theorem merged_ok {out : List Int} {fs : List (Nat × Nat)} {L q : Nat} (h : Asc 0 fs out.length) (hL : fs.length = L + 1) (hq : q < L) : ∀ f ∈ merged fs q (fs.getD L (0, 0)).2, f.1 ≤ f.2 ∧ f.2 ≤ out.length := by
  intro f hf
  have hall := h.all.2
  rcases List.mem_append.1 hf with hf | hf
  · exact (hall f (List.mem_of_mem_take hf)).2
  · simp only [List.mem_singleton] at hf
    subst hf
    have hq' : fs.getD q (0, 0) ∈ fs.take L := by
      rw [List.getD, List.getElem?_eq_getElem (by omega)]
      exact List.mem_take_iff_getElem.2 ⟨q, by omega, rfl⟩
    have hl' : fs.getD L (0, 0) ∈ fs.drop L := by
      rw [List.getD, List.getElem?_eq_getElem (by omega)]
      exact List.mem_drop_iff_getElem.2 ⟨0, by omega, by simp⟩
    have hap := Asc.append (fs := fs.take L) (gs := fs.drop L) (by rw [List.take_append_drop]; exact h) _ hq' _ hl'
    have h1 := hall _ (List.mem_of_mem_take hq')
    have h2 := hall _ (List.mem_of_mem_drop hl')
    simp only []
    omega

/-- The texts handed back. -/
def texts (out : List Int) (fs : List (Nat × Nat)) : List ByteArray := fs.map fun f => runesBytes (Rf.part out f)
def done_ (ts : List ByteArray) (k : Nat) : List Value := (ts.take k).map Value.string ++ List.replicate (ts.length - k) (.string ByteArray.empty)

theorem done_zero (ts : List ByteArray) : done_ ts 0 = List.replicate ts.length (.string ByteArray.empty) := by simp [done_]
theorem done_step (ts : List ByteArray) (k : Nat) (h : k < ts.length) : (done_ ts k).set k (.string (ts.getD k ByteArray.empty)) = done_ ts (k + 1) := by
  apply List.ext_getElem?
  intro j
  simp only [done_, List.getElem?_set, List.length_append, List.length_map, List.length_take, List.length_replicate, List.getElem?_append, List.getElem?_map, List.getElem?_take, List.getElem?_replicate]
  rcases Nat.lt_trichotomy j k with hj | hj | hj
  · have h1 : ¬ k = j := by omega
    have h2 : j < min k ts.length := by omega
    have h3 : j < min (k + 1) ts.length := by omega
    have h4 : j < k + 1 := by omega
    simp [h1, h2, h3, h4, hj]
  · subst hj
    have h2 : j < min j ts.length + (ts.length - j) := by omega
    have h3 : j < min (j + 1) ts.length := by omega
    simp [h2, h3, List.getD, h]
  · have h1 : ¬ k = j := by omega
    have h2 : ¬ j < min k ts.length := by omega
    have h3 : ¬ j < min (k + 1) ts.length := by omega
    simp only [h1, if_false, h2, h3]
    congr 1
    simp
    omega
theorem done_all (ts : List ByteArray) : done_ ts ts.length = ts.map Value.string := by simp [done_]

structure Filled (h : Nat) (Wm : World) (ts : List ByteArray) (k : Nat) (wx : World) : Prop where
  row : wx.ownsRow h 9 1 (.slice (some ⟨h, 0, none⟩) ts.length ts.length) ts.length (done_ ts k)
  bel : Below h Wm wx

theorem done_at (ts : List ByteArray) (k : Nat) (h : k < ts.length) : (done_ ts k)[k]? = some (.string ByteArray.empty) := by
  unfold done_
  have hm : min k ts.length = k := by omega
  rw [List.getElem?_append_right (by simp only [List.length_map, List.length_take]; omega), List.length_map, List.length_take, hm, Nat.sub_self, List.getElem?_replicate, if_pos (by omega)]

theorem Filled.step {h k : Nat} {Wm wx : World} {ts : List ByteArray} (hf : Filled h Wm ts k wx) (hk : k < ts.length) (o : Obj) (t : ByteArray) (ht : ts.getD k ByteArray.empty = t) : Filled h Wm ts (k + 1) ((wx.alloc o).setCell ⟨h, k, none⟩ (.string t)) := by
  subst ht
  have hz : h ≤ wx.heap.size := Nat.le_of_lt (hf.row.lt h rfl).2
  refine ⟨?_, (hf.bel.alloc hz o).setCell (Nat.le_refl _) _⟩
  have := ((hf.row.alloc o).stored k (.string (ts.getD k ByteArray.empty))).1
  rw [done_step ts k hk] at this
  exact this

theorem texts_at (out : List Int) (fs : List (Nat × Nat)) (k : Nat) (p : Nat × Nat) (hk : k < fs.length) (hp : fs.getD k (0, 0) = p) : (texts out fs).getD k ByteArray.empty = runesBytes (Rf.part out p) := by
  subst hp
  simp [texts, List.getD, hk]

/-- A part of the runes, made a string. -/
theorem conv_part {B ga : Nat} {W wc : World} {out : List Int} {fs : List (Nat × Nat)} {fg : Nat} (hR : Ready B W ga out fs fg wc) {w' : World} (hb : Below wc.heap.size wc w') (pa pe rc : Nat) (h2 : pe ≤ out.length) (o : Obj) :
    (convert 67 9 (.slice (some ⟨ga, pa, none⟩) (pe - pa) (rc - pa))).run Tryd.prog (w'.alloc o) = .ok (.string (runesBytes (Rf.part out (pa, pe)))) (w'.alloc o) := by
  have hz : wc.heap.size ≤ w'.heap.size := hb.size
  rw [run_convert_runes (w'.alloc o) 67 9 21 ⟨ga, pa, none⟩ (pe - pa) (rc - pa) (out.drop pa) (by simp; omega) Tryd.underlying67 (by kernel_rfl) (by kernel_rfl) ?_]
  · rw [Rf.part, List.drop_take]
  · intro j hj
    simp only [List.length_drop] at hj
    have hc := hR.rows (pa + j) (by omega)
    have hlt := World.block_lt_of_cell? wc _ hc
    have e : (⟨ga, pa, none⟩ : Addr).add j = ⟨ga, pa + j, none⟩ := by simp [Addr.add]
    rw [e, World.cell?_alloc_past _ _ _ (Nat.lt_of_lt_of_le hlt hz), hb.cell hlt, hc]
    simp [List.getD, List.getElem?_drop]

theorem conv_none (out : List Int) (pe c : Nat) (a : Addr) (w : World) : (convert 67 9 (.slice (some a) 0 c)).run Tryd.prog w = .ok (.string (runesBytes (Rf.part out (pe, pe)))) w := by
  rw [run_convert_runes w 67 9 21 a 0 c [] (Nat.zero_le _) Tryd.underlying67 (by kernel_rfl) (by kernel_rfl) (by intro j hj; simp at hj)]
  have : Rf.part out (pe, pe) = [] := by simp [Rf.part]
  rw [this]
  rfl

/-- What ReadFields leaves. -/
def RfOut (b : Nat) (o : Option (List (List Int))) (w : World) (e : Ending) (w' : World) : Prop :=
  (∃ W, w.grownBy W (some b) ∧ Below W.heap.size W w') ∧ match o with
    | none => e = .returned (.slice none 0 0)
    | some xs => ∃ g c, e = .returned (.slice (some ⟨g, 0, none⟩) xs.length c) ∧ ∀ k, k < xs.length → w'.cell? ⟨g, k, none⟩ = some (.string (runesBytes (xs.getD k [])))

theorem rfOut_some {b : Nat} {w W Wm w' : World} {out : List Int} {fs : List (Nat × Nat)} {h : Nat} {o : Option (List (List Int))} (hgr : w.grownBy W (some b)) (hb : Below W.heap.size W Wm) (hW : W.heap.size ≤ h) (hf : Filled h Wm (texts out fs) (texts out fs).length w') (ho : o = some (fs.map (Rf.part out))) :
    RfOut b o w (.returned (.slice (some ⟨h, 0, none⟩) fs.length fs.length)) w' := by
  subst ho
  refine ⟨⟨W, hgr, hb.trans (hf.bel.mono hW)⟩, h, fs.length, by simp, fun k hk => ?_⟩
  have hl : (texts out fs).length = fs.length := by simp [texts]
  simp only [List.length_map] at hk
  rw [hf.row.cellAt k (by omega), done_all]
  simp [texts, List.getD, hk]
end Go.Proofs.YtgppbbonfbhhbaaDoor
