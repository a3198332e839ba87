/-
  One part of the word.
  The loop over the parts of the word.
  The loop that lays the elements of a brace that is never closed down as text.
-/
import Derived.Test.YtmcoifhiiagfpaaDoorGh
import Derived.Test.YtmcoifhiiagfpaaDoorGg
namespace Go.Proofs.YtmcoifhiiagfpaaDoor
open Go.RowKit
set_option linter.unusedSectionVars false
variable [Pw]

/-- The slots of the loop over the parts. -/
structure FrP (N p : Nat) (arr : Value) (n i : Nat) (a : Act) : Prop where
  defers : a.defers = []
  size : a.tmps.size = 469
  s0 : a.tmps.getD 0 undef = ptr p
  s2 : a.tmps.getD 2 undef = .bool false
  s3 : a.tmps.getD 3 undef = ptr (N + 1)
  s4 : a.tmps.getD 4 undef = ptr (N + 2)
  s5 : a.tmps.getD 5 undef = ptr (N + 3)
  s6 : a.tmps.getD 6 undef = ptr (N + 4)
  s7 : a.tmps.getD 7 undef = .func (.func 24) #[] #[ptr (N + 3), ptr (N + 4), ptr (N + 1), ptr (N + 2)]
  s8 : a.tmps.getD 8 undef = ptr (N + 5)
  s50 : a.tmps.getD 50 undef = arr
  s51 : a.tmps.getD 51 undef = .int .i64 (n : Int)
  s52 : a.tmps.getD 52 undef = .int .i64 (i : Int)

theorem stepP_zero {st st8 : St} {v : ByteArray} {last : Nat} (h : runB v (v.size + 1) 0 0 st = (last, st8)) (h0 : last = 0) : stepP st (.lit v) = st8.push [.lit v] := by
  unfold stepP
  simp only [h]
  exact if_pos h0
theorem stepP_more {st st8 : St} {v : ByteArray} {last : Nat} (h : runB v (v.size + 1) 0 0 st = (last, st8)) (h0 : ¬ last = 0) : stepP st (.lit v) = st8.push [.lit (v.extract last v.size)] := by
  unfold stepP
  simp only [h]
  exact if_neg h0
theorem part_other_form {w : World} {L : Nat → Prop} {u : Value} {q : Part} (h : PartAt w L u q) (hq : ∀ s, q ≠ .lit s) : ∃ t x, u = .iface t x ∧ t ≠ 67 := by
  cases h with
  | lit q s hL hq2 => exact absurd rfl (hq s)
  | brace b e cap cur seq ptrs ess hb he h1 h2 h3 h4 => exact ⟨_, _, rfl, by decide⟩
  | other t x ht => exact ⟨t, x, rfl, ht⟩
theorem part_lit_form {w : World} {L : Nat → Prop} {u : Value} {s : ByteArray} (h : PartAt w L u (.lit s)) : ∃ q, u = .iface 67 (ptr q) ∧ LitAt w q s := by
  cases h with
  | lit q s hL hq => exact ⟨q, rfl, hq⟩

set_option linter.unusedSimpArgs false in
set_option maxRecDepth 1000000 in
set_option maxHeartbeats 2000000 in
theorem part_other {N p g cap n i : Nat} {a : Act} (fr : FrP N p (.slice (some ⟨g, 0, none⟩) n cap) n i a) {st : St} {vals : List Value} {ps : List Part} {ws w7 : World} (hs : Sb N st vals ps w7) (hk : Still N ws w7) (hi : i < n) (hn : n ≤ 100000000) (hg : g < N) {u : Value} (hu : ws.cell? ⟨g, i, none⟩ = some u) (hui : vals[i]? = some u) {q : Part} (hqi : ps[i]? = some q) (hq : ∀ s, q ≠ .lit s) (hcu : st.cur.length ≤ 100000000) (Q0 : Exit → Act → World → Prop) :
    Code.wp Tryd.prog (bodyOf 0) (Exit.then (fun a' w' => FrP N p (.slice (some ⟨g, 0, none⟩) n cap) n (i + 1) a' ∧ Sb N (stepP st q) vals ps w' ∧ Still N ws w') Q0) a w7 := by
  obtain ⟨f, hf, ht⟩ := frame_lit a.tmps fr.size
  obtain ⟨t, d⟩ := a
  have hd : d = [] := fr.defers
  subst hd
  have h0 := (hf 0).trans fr.s0
  have h2 := (hf 2).trans fr.s2
  have h3 := (hf 3).trans fr.s3
  have h4 := (hf 4).trans fr.s4
  have h5 := (hf 5).trans fr.s5
  have h6 := (hf 6).trans fr.s6
  have h7 := (hf 7).trans fr.s7
  have h8 := (hf 8).trans fr.s8
  have h50 := (hf 50).trans fr.s50
  have h51 := (hf 51).trans fr.s51
  have h52 := (hf 52).trans fr.s52
  simp only [h0, h2, h3, h4, h5, h6, h7, h8, h50, h51, h52] at ht
  have ht2 : t = _ := ht
  subst ht2
  clear hf ht fr h0 h2 h3 h4 h5 h6 h7 h8 h50 h51 h52
  have cu : w7.cell? ⟨g, i, none⟩ = some u := (hk.bel.cell (p := ⟨g, i, none⟩) hg).trans hu
  have hz : (i : Int) < (n : Int) ∧ (n : Int) ≤ 100000000 := by omega
  have hN0 := hs.lt
  obtain ⟨t, x, rfl, htx⟩ : ∃ t x, u = .iface t x ∧ t ≠ 67 := by
    obtain ⟨hs0, hsb, hst, hxy⟩ := hs
    obtain ⟨u2, q2, e1, e2, e3⟩ := hxy.at_ i (List.getElem?_eq_some_iff.1 hqi).1
    rw [hui] at e1
    rw [hqi] at e2
    cases e1
    cases e2
    exact part_other_form e3 hq
  have hta := assert_no t x htx
  have HS := Lib.hid (And.intro hs (And.intro hk (And.intro hqi (And.intro hq (And.intro hui hcu)))))
  have HN0 := Lib.hid hN0
  obtain ⟨ib, hib, hb0, hb1, hb2⟩ := info_parts Tryd.info_part
  clear hs hk hg hu hqi hq hui htx hcu hN0 hn hi
  conv => arg 2; whnf
  unfold ptr
  go_upto_region 14 with fail
  obtain ⟨w8, hw8⟩ : ∃ w8, w7.alloc (.cells #[.pointer none] 67) = w8 := ⟨_, rfl⟩
  rw [hw8]
  have hb8 : Below w7.heap.size w7 w8 := by rw [← hw8]; exact (Below.refl _ _).alloc (Nat.le_refl _) _
  have hs8 := HS.out.1.below hb8
  have HK8 := Lib.hid (HS.out.2.1.trans (Still.of_below hb8 (by have := HN0.out; omega)))
  clear hw8 hb8 cu hta
  obtain ⟨hs, hsb, hst, hxy⟩ := hs8
  have ha := hsb.words _ (acc_mem hs)
  obtain ⟨ac, hac⟩ : ∃ ac, hs.acc = ac := ⟨_, rfl⟩
  rw [hac] at ha
  have cb2 : w8.cell? ⟨N + 2, 0, none⟩ = some (.pointer (some ⟨ac.blk, 0, none⟩)) := by rw [Lib.cell_of_heap hsb.b2, hac]; rfl
  have cac : w8.cell? ⟨ac.blk, 0, none⟩ = some ac.v := by rw [Lib.cell_of_heap ha.blk]; rfl
  have sac : ac.blk < w8.heap.size := (Array.getElem?_eq_some_iff.1 ha.blk).1
  have hN7 := hsb.lt
  have hcl : ac.vals.length = (st).cur.length := by rw [← hst, st_cur, ← hac]; exact (hsb.words _ (acc_mem hs)).parts.length
  have HA := Lib.hid (And.intro hsb (And.intro hxy (And.intro hac (And.intro ha hst))))
  have hpar : PartAt w8 (hs.live N) (.iface t x) q := by
    obtain ⟨u2, q2, e1, e2, e3⟩ := hxy.at_ i (List.getElem?_eq_some_iff.1 HS.out.2.2.1).1
    rw [HS.out.2.2.2.2.1] at e1
    rw [HS.out.2.2.1] at e2
    cases e1
    cases e2
    exact e3
  have HPA := Lib.hid hpar
  have HAL := Lib.hid (show ac.vals.length ≤ 100000000 by rw [hcl]; exact HS.out.2.2.2.2.2)
  clear hsb hxy ha hcl hst hac hpar
  refine region_anyE (fun w' => w'.cell? ⟨N + 2, 0, none⟩ = some (.pointer (some ⟨ac.blk, 0, none⟩)) ∧ w'.cell? ⟨ac.blk, 0, none⟩ = some ac.v) 10 (by kernel_rfl) ?_ (fun hS hC => ?_)
  · (try dsimp only); go_keep
  refine anyE_take (i := 0) (v := ?_) [0] (by kernel_rfl) rfl (fun _ _ _ h => h) (by rfl) ?_ hC hS ?_
  rotate_left
  · intro w hSw
    (try dsimp only at hSw)
    go_simp
    (try with_reducible rfl)
  clear hC
  intro hC
  try simp only [Act.put, List.setIfInBounds_toArray, List.set_cons_zero, List.set_cons_succ]
  refine anyE_take (i := 1) (v := ?_) [1] (by kernel_rfl) rfl (fun _ _ _ h => h) (by rfl) ?_ hC hS ?_
  rotate_left
  · intro w hSw
    (try dsimp only at hSw)
    go_simp
    (try with_reducible rfl)
  clear hC
  intro hC
  try simp only [Act.put, List.setIfInBounds_toArray, List.set_cons_zero, List.set_cons_succ]
  refine anyE_take (i := 2) (v := ?_) [2] (by kernel_rfl) rfl (fun _ _ _ h => h) (by rfl) ?_ hC hS ?_
  rotate_left
  · intro w hSw
    (try dsimp only at hSw)
    go_simp
    (try with_reducible rfl)
  clear hC
  intro hC
  try simp only [Act.put, List.setIfInBounds_toArray, List.set_cons_zero, List.set_cons_succ]
  refine anyE_take (i := 3) (v := ?_) [3] (by kernel_rfl) rfl (fun _ _ _ h => h) (by rfl) ?_ hC hS ?_
  rotate_left
  · intro w hSw
    (try dsimp only at hSw)
    go_simp
    (try with_reducible rfl)
  clear hC
  intro hC
  try simp only [Act.put, List.setIfInBounds_toArray, List.set_cons_zero, List.set_cons_succ]
  refine anyE_take (i := 4) (v := ?_) [4] (by kernel_rfl) rfl (fun _ _ _ h => h) (by rfl) ?_ hC hS ?_
  rotate_left
  · intro w hSw
    (try dsimp only at hSw)
    go_simp
    (try with_reducible rfl)
  clear hC
  intro hC
  try simp only [Act.put, List.setIfInBounds_toArray, List.set_cons_zero, List.set_cons_succ]
  refine anyE_take (i := 5) (v := ?_) [5] (by kernel_rfl) rfl (fun _ _ _ h => h) (by rfl) ?_ hC hS ?_
  rotate_left
  · intro w hSw
    (try dsimp only at hSw)
    go_simp
    (try with_reducible rfl)
  clear hC
  intro hC
  try simp only [Act.put, List.setIfInBounds_toArray, List.set_cons_zero, List.set_cons_succ]
  refine anyE_one (i := 6) (by kernel_rfl) hC rfl (fun K hK => ?_)
  clear hC
  go_simp
  refine hK.out _ _ ?_ ?_
  · (try dsimp only); go_keep
  clear hS
  intro hS hC
  clear hK K
  try simp only [Act.put, List.setIfInBounds_toArray, List.set_cons_zero, List.set_cons_succ]
  refine anyE_one (i := 7) (by kernel_rfl) hC rfl (fun K hK => ?_)
  clear hC
  (refine step_append_lies _ (by rfl) _ _ 31 (by rfl) (N + 6) 72 ib .nilIface 1 16 Tryd.underlying31 hib hb0 hb1 hb2 rfl (by decide) _ _ _ (by rfl) ((HA.out.2.2.2.1.own.alloc _).drew) ⟨w8.heap.size, 0, none⟩ 1 1 [.iface t x] (by rfl) (by rfl) (World.news_of_block (cs := #[.iface t x]) (t := 72) (fr := (0, 0)) (heap_alloc_new w8 _)) (by simp [Value.oneCell']) (by decide) (by have := HAL.out; unfold maxLen; omega) (by have := HAL.out; omega) (by rw [alloc_size]; omega) (w8.heap.size + 1) (by simp) ?_; intro g8 cap8 wb hown8 hgrow8 hat8 _; have hc8 : wb.heap[ac.blk]? = some (.cells #[ac.v] 40 (0, 0)) := HA.out.2.2.2.1.grown (alloc_kept w8 _) (by rw [alloc_size]; omega) hgrow8; have hb8 : wb.heap[N + 2]? = some (.cells #[ptr ac.blk] 38 (0, 0)) := HA.out.2.2.2.1.box (alloc_kept w8 _) (by rw [alloc_size]; omega) hgrow8 (by omega) (by rw [← HA.out.2.2.1]; exact HA.out.1.b2); have y1 : wb.cell? ⟨ac.blk, 0, none⟩ = some ac.v := (Lib.cell_of_heap hc8 0).trans rfl; have y2 : wb.frozen? ⟨ac.blk, 0, none⟩ = false := Lib.frozen_of_heap hc8 0; have y3 : wb.cell? ⟨N + 2, 0, none⟩ = some (.pointer (some ⟨ac.blk, 0, none⟩)) := (Lib.cell_of_heap hb8 0).trans rfl; have H8 := Lib.hid (And.intro hown8 (And.intro hgrow8 hat8)); clear hown8 hgrow8 hat8 hc8 hb8)
  refine hK.out _ _ ?_ ?_
  · (try dsimp only); exact ⟨y3, y1⟩
  clear hS
  intro hS hC
  clear hK K
  try simp only [Act.put, List.setIfInBounds_toArray, List.set_cons_zero, List.set_cons_succ]
  refine anyE_take (i := 8) (v := ?_) [9, 8] (by kernel_rfl) rfl (fun _ _ _ h => h) (by rfl) ?_ hC hS ?_
  rotate_left
  · intro w hSw
    (try dsimp only at hSw)
    go_simp
    (try with_reducible rfl)
  clear hC
  intro hC
  try simp only [Act.put, List.setIfInBounds_toArray, List.set_cons_zero, List.set_cons_succ]
  refine anyE_take (i := 9) (v := ?_) [9] (by kernel_rfl) rfl (fun _ _ _ h => h) (by rfl) ?_ hC hS ?_
  rotate_left
  · intro w hSw
    (try dsimp only at hSw)
    go_simp
    (try with_reducible rfl)
  clear hC
  intro hC
  try simp only [Act.put, List.setIfInBounds_toArray, List.set_cons_zero, List.set_cons_succ]
  refine anyE_last (by kernel_rfl) rfl (by kernel_rfl) (fun K hK => ?_)
  clear hC
  go_simp
  refine hK.out _ _ ?_
  clear hK K hS
  refine NoPanic.normal ?_
  try simp only [Act.put, List.setIfInBounds_toArray, List.set_cons_zero, List.set_cons_succ]
  obtain ⟨e8, s8⟩ := HA.out.1.push_end HA.out.2.2.1 (us := [.iface t x]) (qs := [q]) (.cons _ _ _ _ HPA.out .nil) HA.out.2.1 (((Below.refl w8.heap.size w8).alloc (Nat.le_refl _) _).drew) H8.out.1 H8.out.2.1 (by
    rcases H8.out.2.2 with e1 | e1
    · exact Or.inl e1
    · exact Or.inr (by rw [e1, alloc_size]))
  rw [HA.out.2.2.2.2] at e8
  have HF := Lib.hid (And.intro e8 (HK8.out.trans s8))
  clear y1 y2 y3 H8 e8 s8 cb2 cac sac
  generalize wb.setCell ⟨ac.blk, 0, none⟩ (.slice (some ⟨g8, 0, none⟩) (ac.vals.length + 1) cap8) = w20 at *
  go_wp2_with fail
  have hst : stepP st q = st.push [q] := by
    cases q with
    | lit s => exact absurd rfl (HS.out.2.2.2.1 s)
    | brace _ _ => rfl
    | other _ _ => rfl
  rw [hst]
  exact ⟨⟨rfl, rfl, rfl, rfl, rfl, rfl, rfl, rfl, rfl, rfl, rfl, rfl, rfl⟩, HF.out.1, HF.out.2⟩

set_option linter.unusedSimpArgs false in
set_option maxRecDepth 1000000 in
set_option maxHeartbeats 2000000 in
theorem part_lit0 {N p g cap n i : Nat} {a : Act} (fr : FrP N p (.slice (some ⟨g, 0, none⟩) n cap) n i a) {st : St} {vals : List Value} {ps : List Part} {ws w7 : World} (hs : Sb N st vals ps w7) (hk : Still N ws w7) (hi : i < n) (hn : n ≤ 100000000) (hg : g < N) {u : Value} (hu : ws.cell? ⟨g, i, none⟩ = some u) (hui : vals[i]? = some u) {v : ByteArray} (hqi : ps[i]? = some (.lit v)) (hok : SeqOk st) (hsz : st.sz + 9 * (v.size + 2) + 1 ≤ 100000000) (hE : Errs ws) (hE1 : 0 < N) (hE2 : 1 < N) (hl0 : (runB v (v.size + 1) 0 0 st).1 = 0) (Q0 : Exit → Act → World → Prop) :
    Code.wp Tryd.prog (bodyOf 0) (Exit.then (fun a' w' => FrP N p (.slice (some ⟨g, 0, none⟩) n cap) n (i + 1) a' ∧ Sb N (stepP st (.lit v)) vals ps w' ∧ Still N ws w') Q0) a w7 := by
  obtain ⟨f, hf, ht⟩ := frame_lit a.tmps fr.size
  obtain ⟨t, d⟩ := a
  have hd : d = [] := fr.defers
  subst hd
  have h0 := (hf 0).trans fr.s0
  have h2 := (hf 2).trans fr.s2
  have h3 := (hf 3).trans fr.s3
  have h4 := (hf 4).trans fr.s4
  have h5 := (hf 5).trans fr.s5
  have h6 := (hf 6).trans fr.s6
  have h7 := (hf 7).trans fr.s7
  have h8 := (hf 8).trans fr.s8
  have h50 := (hf 50).trans fr.s50
  have h51 := (hf 51).trans fr.s51
  have h52 := (hf 52).trans fr.s52
  simp only [h0, h2, h3, h4, h5, h6, h7, h8, h50, h51, h52] at ht
  have ht2 : t = _ := ht
  subst ht2
  clear hf ht fr h0 h2 h3 h4 h5 h6 h7 h8 h50 h51 h52
  have cu : w7.cell? ⟨g, i, none⟩ = some u := (hk.bel.cell (p := ⟨g, i, none⟩) hg).trans hu
  have hz : (i : Int) < (n : Int) ∧ (n : Int) ≤ 100000000 := by omega
  have hN0 := hs.lt
  obtain ⟨q, rfl, hq⟩ : ∃ q, u = .iface 67 (ptr q) ∧ LitAt w7 q v := by
    obtain ⟨hs0, hsb, hst, hxy⟩ := hs
    obtain ⟨u2, q2, e1, e2, e3⟩ := hxy.at_ i (List.getElem?_eq_some_iff.1 hqi).1
    rw [hui] at e1
    rw [hqi] at e2
    cases e1
    cases e2
    exact part_lit_form e3
  unfold ptr at cu
  have hta := assert_yes (.pointer (some ⟨q, 0, none⟩))
  have HS := Lib.hid (And.intro hs (And.intro hk (And.intro hq (And.intro hok hsz))))
  have HE := Lib.hid (And.intro (hE.below hk.bel hE1 hE2) (And.intro hE1 hE2))
  have HN0 := Lib.hid hN0
  have HL0 := Lib.hid hl0
  clear hs hk hg hu hqi hui hN0 hn hi hq hok hsz hE hE1 hE2 hl0
  conv => arg 2; whnf
  unfold ptr
  go_upto_region 16 with fail
  go_wp2_with fail
  refine bytes_loop (N := N) (p := p) (c50 := .slice (some ⟨g, 0, none⟩) n cap) (c51 := .int .i64 (n : Int)) (c52 := .int .i64 (i : Int)) (lx := w7.heap.size) (la := w7.heap.size + 1) (jb := w7.heap.size + 2) (v := v) (q := q) (st := st) (xs := vals) (ys := ps) (w0 := w7) ?_ ?_ HS.out.2.2.2.1 HS.out.2.2.2.2 HE.out.1 HE.out.2.1 HE.out.2.2 _ ?_
  · exact ⟨rfl, rfl, rfl, rfl, rfl, rfl, rfl, rfl, rfl, rfl, rfl, rfl, rfl, rfl, rfl, rfl⟩
  · have hb1 : Below w7.heap.size w7 (((w7.alloc (.cells #[.pointer (some ⟨q, 0, none⟩)] 67)).alloc (.cells #[.int .i64 0] 3)).alloc (.cells #[.int .i64 0] 3)) := (((Below.refl w7.heap.size w7).alloc (Nat.le_refl _) _).alloc (by simp) _).alloc (by simp; omega) _
    have hst := Still.of_below hb1 (show N ≤ w7.heap.size by have := HN0.out; omega)
    have h1 : (((w7.alloc (.cells #[.pointer (some ⟨q, 0, none⟩)] 67)).alloc (.cells #[.int .i64 0] 3)).alloc (.cells #[.int .i64 0] 3)).heap[w7.heap.size]? = some (.cells #[ptr q] 67 (0, 0)) := by
      rw [Below.heap_alloc _ _ _ (by simp; omega), Below.heap_alloc _ _ _ (by simp)]
      exact heap_alloc_new w7 _
    have h2 : (((w7.alloc (.cells #[.pointer (some ⟨q, 0, none⟩)] 67)).alloc (.cells #[.int .i64 0] 3)).alloc (.cells #[.int .i64 0] 3)).heap[w7.heap.size + 1]? = some (.cells #[.int .i64 0] 3 (0, 0)) := by
      rw [Below.heap_alloc _ _ _ (by simp)]
      have := heap_alloc_new (w7.alloc (.cells #[.pointer (some ⟨q, 0, none⟩)] 67)) (.cells #[.int .i64 0] 3)
      rw [World.size_alloc] at this
      exact this
    have h3 : (((w7.alloc (.cells #[.pointer (some ⟨q, 0, none⟩)] 67)).alloc (.cells #[.int .i64 0] 3)).alloc (.cells #[.int .i64 0] 3)).heap[w7.heap.size + 2]? = some (.cells #[.int .i64 0] 3 (0, 0)) := by
      have := heap_alloc_new ((w7.alloc (.cells #[.pointer (some ⟨q, 0, none⟩)] 67)).alloc (.cells #[.int .i64 0] 3)) (.cells #[.int .i64 0] 3)
      rw [World.size_alloc, World.size_alloc] at this
      exact this
    exact ⟨HS.out.1.below hb1, hst.lit HS.out.2.2.1, h1, h2, h3, hst, by have := HN0.out; omega, by omega, by omega, by omega⟩
  intro a8 w8 jb8 j8 fr8 m8 ok8
  clear f cu hta
  obtain ⟨f, hf, ht⟩ := frame_lit a8.tmps fr8.size
  obtain ⟨t, d⟩ := a8
  have hd : d = [] := fr8.defers
  subst hd
  have h0 := (hf 0).trans fr8.s0
  have h2 := (hf 2).trans fr8.s2
  have h3 := (hf 3).trans fr8.s3
  have h4 := (hf 4).trans fr8.s4
  have h5 := (hf 5).trans fr8.s5
  have h6 := (hf 6).trans fr8.s6
  have h7 := (hf 7).trans fr8.s7
  have h8 := (hf 8).trans fr8.s8
  have h11 := (hf 11).trans fr8.s11
  have h13 := (hf 13).trans fr8.s13
  have h14 := (hf 14).trans fr8.s14
  have h50 := (hf 50).trans fr8.s50
  have h51 := (hf 51).trans fr8.s51
  have h52 := (hf 52).trans fr8.s52
  simp only [h0, h2, h3, h4, h5, h6, h7, h8, h11, h13, h14, h50, h51, h52] at ht
  have ht2 : t = _ := ht
  subst ht2
  clear hf ht fr8 h0 h2 h3 h4 h5 h6 h7 h8 h11 h13 h14 h50 h51 h52
  obtain ⟨r1, r2⟩ := runB_sz v (v.size + 1) 0 0 st (Nat.le_refl _) (Nat.zero_le _) (Nat.zero_le _)
  obtain ⟨last, hla⟩ : ∃ last, (runB v (v.size + 1) 0 0 st).1 = last := ⟨_, rfl⟩
  obtain ⟨st8, hst8⟩ : ∃ st8, (runB v (v.size + 1) 0 0 st).2 = st8 := ⟨_, rfl⟩
  have hrun : runB v (v.size + 1) 0 0 st = (last, st8) := by rw [← hla, ← hst8]
  rw [hla, hst8] at m8
  rw [hst8] at r1
  rw [hla] at r2
  have hl0 := HL0.out
  rw [hla] at hl0
  have hc8 := cur_sz st8
  have HC8 := Lib.hid (show st8.cur.length ≤ 100000000 by have := HS.out.2.2.2.2; omega)
  have HRN := Lib.hid hrun
  have HM8 := Lib.hid m8
  have HR2 := Lib.hid r2
  have hbl := m8.bl
  have hbx := m8.bx
  have d1 : w8.cell? ⟨w7.heap.size + 1, 0, none⟩ = some (.int .i64 (last : Int)) := by rw [Lib.cell_of_heap hbl]; rfl
  have d2 : w8.cell? ⟨w7.heap.size, 0, none⟩ = some (.pointer (some ⟨q, 0, none⟩)) := by rw [Lib.cell_of_heap hbx]; rfl
  have d5 : w8.cell? ⟨N + 5, 0, none⟩ = some (.func (.func 25) #[] #[.pointer (some ⟨N + 2, 0, none⟩)]) := by rw [Lib.cell_of_heap m8.sb.b5]; rfl
  have z1 : ((last : Int) == 0) = true := by simp [hl0]
  clear m8 hbl hbx r1 r2 hla hst8 hrun hc8 ok8 hl0
  unfold ptr
  have HCALL := Lib.hid (addLit_any N st8 vals ps w8 q v HM8.out.sb HM8.out.lit HC8.out)
  go_wp2_with (go_at_call 25; refine (HCALL.out).mono ?_; rintro e w9 ⟨rfl, h9, s9⟩; have HF := Lib.hid (And.intro h9 s9); clear h9 s9)
  have hst : stepP st (.lit v) = st8.push [.lit v] := stepP_zero HRN.out (by have h2 := HL0.out; rw [HRN.out] at h2; exact h2)
  rw [hst]
  exact ⟨⟨rfl, rfl, rfl, rfl, rfl, rfl, rfl, rfl, rfl, rfl, rfl, rfl, rfl⟩, HF.out.1, HS.out.2.1.trans (HM8.out.still.trans HF.out.2)⟩

set_option linter.unusedSimpArgs false in
set_option maxRecDepth 1000000 in
set_option maxHeartbeats 2000000 in
theorem part_lit1 {N p g cap n i : Nat} {a : Act} (fr : FrP N p (.slice (some ⟨g, 0, none⟩) n cap) n i a) {st : St} {vals : List Value} {ps : List Part} {ws w7 : World} (hs : Sb N st vals ps w7) (hk : Still N ws w7) (hi : i < n) (hn : n ≤ 100000000) (hg : g < N) {u : Value} (hu : ws.cell? ⟨g, i, none⟩ = some u) (hui : vals[i]? = some u) {v : ByteArray} (hqi : ps[i]? = some (.lit v)) (hok : SeqOk st) (hsz : st.sz + 9 * (v.size + 2) + 1 ≤ 100000000) (hE : Errs ws) (hE1 : 0 < N) (hE2 : 1 < N) (hl0 : ¬ (runB v (v.size + 1) 0 0 st).1 = 0) (Q0 : Exit → Act → World → Prop) :
    Code.wp Tryd.prog (bodyOf 0) (Exit.then (fun a' w' => FrP N p (.slice (some ⟨g, 0, none⟩) n cap) n (i + 1) a' ∧ Sb N (stepP st (.lit v)) vals ps w' ∧ Still N ws w') Q0) a w7 := by
  obtain ⟨f, hf, ht⟩ := frame_lit a.tmps fr.size
  obtain ⟨t, d⟩ := a
  have hd : d = [] := fr.defers
  subst hd
  have h0 := (hf 0).trans fr.s0
  have h2 := (hf 2).trans fr.s2
  have h3 := (hf 3).trans fr.s3
  have h4 := (hf 4).trans fr.s4
  have h5 := (hf 5).trans fr.s5
  have h6 := (hf 6).trans fr.s6
  have h7 := (hf 7).trans fr.s7
  have h8 := (hf 8).trans fr.s8
  have h50 := (hf 50).trans fr.s50
  have h51 := (hf 51).trans fr.s51
  have h52 := (hf 52).trans fr.s52
  simp only [h0, h2, h3, h4, h5, h6, h7, h8, h50, h51, h52] at ht
  have ht2 : t = _ := ht
  subst ht2
  clear hf ht fr h0 h2 h3 h4 h5 h6 h7 h8 h50 h51 h52
  have cu : w7.cell? ⟨g, i, none⟩ = some u := (hk.bel.cell (p := ⟨g, i, none⟩) hg).trans hu
  have hz : (i : Int) < (n : Int) ∧ (n : Int) ≤ 100000000 := by omega
  have hN0 := hs.lt
  obtain ⟨q, rfl, hq⟩ : ∃ q, u = .iface 67 (ptr q) ∧ LitAt w7 q v := by
    obtain ⟨hs0, hsb, hst, hxy⟩ := hs
    obtain ⟨u2, q2, e1, e2, e3⟩ := hxy.at_ i (List.getElem?_eq_some_iff.1 hqi).1
    rw [hui] at e1
    rw [hqi] at e2
    cases e1
    cases e2
    exact part_lit_form e3
  unfold ptr at cu
  have hta := assert_yes (.pointer (some ⟨q, 0, none⟩))
  have HS := Lib.hid (And.intro hs (And.intro hk (And.intro hq (And.intro hok hsz))))
  have HE := Lib.hid (And.intro (hE.below hk.bel hE1 hE2) (And.intro hE1 hE2))
  have HN0 := Lib.hid hN0
  have HL0 := Lib.hid hl0
  clear hs hk hg hu hqi hui hN0 hn hi hq hok hsz hE hE1 hE2 hl0
  conv => arg 2; whnf
  unfold ptr
  go_upto_region 16 with fail
  go_wp2_with fail
  refine bytes_loop (N := N) (p := p) (c50 := .slice (some ⟨g, 0, none⟩) n cap) (c51 := .int .i64 (n : Int)) (c52 := .int .i64 (i : Int)) (lx := w7.heap.size) (la := w7.heap.size + 1) (jb := w7.heap.size + 2) (v := v) (q := q) (st := st) (xs := vals) (ys := ps) (w0 := w7) ?_ ?_ HS.out.2.2.2.1 HS.out.2.2.2.2 HE.out.1 HE.out.2.1 HE.out.2.2 _ ?_
  · exact ⟨rfl, rfl, rfl, rfl, rfl, rfl, rfl, rfl, rfl, rfl, rfl, rfl, rfl, rfl, rfl, rfl⟩
  · have hb1 : Below w7.heap.size w7 (((w7.alloc (.cells #[.pointer (some ⟨q, 0, none⟩)] 67)).alloc (.cells #[.int .i64 0] 3)).alloc (.cells #[.int .i64 0] 3)) := (((Below.refl w7.heap.size w7).alloc (Nat.le_refl _) _).alloc (by simp) _).alloc (by simp; omega) _
    have hst := Still.of_below hb1 (show N ≤ w7.heap.size by have := HN0.out; omega)
    have h1 : (((w7.alloc (.cells #[.pointer (some ⟨q, 0, none⟩)] 67)).alloc (.cells #[.int .i64 0] 3)).alloc (.cells #[.int .i64 0] 3)).heap[w7.heap.size]? = some (.cells #[ptr q] 67 (0, 0)) := by
      rw [Below.heap_alloc _ _ _ (by simp; omega), Below.heap_alloc _ _ _ (by simp)]
      exact heap_alloc_new w7 _
    have h2 : (((w7.alloc (.cells #[.pointer (some ⟨q, 0, none⟩)] 67)).alloc (.cells #[.int .i64 0] 3)).alloc (.cells #[.int .i64 0] 3)).heap[w7.heap.size + 1]? = some (.cells #[.int .i64 0] 3 (0, 0)) := by
      rw [Below.heap_alloc _ _ _ (by simp)]
      have := heap_alloc_new (w7.alloc (.cells #[.pointer (some ⟨q, 0, none⟩)] 67)) (.cells #[.int .i64 0] 3)
      rw [World.size_alloc] at this
      exact this
    have h3 : (((w7.alloc (.cells #[.pointer (some ⟨q, 0, none⟩)] 67)).alloc (.cells #[.int .i64 0] 3)).alloc (.cells #[.int .i64 0] 3)).heap[w7.heap.size + 2]? = some (.cells #[.int .i64 0] 3 (0, 0)) := by
      have := heap_alloc_new ((w7.alloc (.cells #[.pointer (some ⟨q, 0, none⟩)] 67)).alloc (.cells #[.int .i64 0] 3)) (.cells #[.int .i64 0] 3)
      rw [World.size_alloc, World.size_alloc] at this
      exact this
    exact ⟨HS.out.1.below hb1, hst.lit HS.out.2.2.1, h1, h2, h3, hst, by have := HN0.out; omega, by omega, by omega, by omega⟩
  intro a8 w8 jb8 j8 fr8 m8 ok8
  clear f cu hta
  obtain ⟨f, hf, ht⟩ := frame_lit a8.tmps fr8.size
  obtain ⟨t, d⟩ := a8
  have hd : d = [] := fr8.defers
  subst hd
  have h0 := (hf 0).trans fr8.s0
  have h2 := (hf 2).trans fr8.s2
  have h3 := (hf 3).trans fr8.s3
  have h4 := (hf 4).trans fr8.s4
  have h5 := (hf 5).trans fr8.s5
  have h6 := (hf 6).trans fr8.s6
  have h7 := (hf 7).trans fr8.s7
  have h8 := (hf 8).trans fr8.s8
  have h11 := (hf 11).trans fr8.s11
  have h13 := (hf 13).trans fr8.s13
  have h14 := (hf 14).trans fr8.s14
  have h50 := (hf 50).trans fr8.s50
  have h51 := (hf 51).trans fr8.s51
  have h52 := (hf 52).trans fr8.s52
  simp only [h0, h2, h3, h4, h5, h6, h7, h8, h11, h13, h14, h50, h51, h52] at ht
  have ht2 : t = _ := ht
  subst ht2
  clear hf ht fr8 h0 h2 h3 h4 h5 h6 h7 h8 h11 h13 h14 h50 h51 h52
  obtain ⟨r1, r2⟩ := runB_sz v (v.size + 1) 0 0 st (Nat.le_refl _) (Nat.zero_le _) (Nat.zero_le _)
  obtain ⟨last, hla⟩ : ∃ last, (runB v (v.size + 1) 0 0 st).1 = last := ⟨_, rfl⟩
  obtain ⟨st8, hst8⟩ : ∃ st8, (runB v (v.size + 1) 0 0 st).2 = st8 := ⟨_, rfl⟩
  have hrun : runB v (v.size + 1) 0 0 st = (last, st8) := by rw [← hla, ← hst8]
  rw [hla, hst8] at m8
  rw [hst8] at r1
  rw [hla] at r2
  have hl0 := HL0.out
  rw [hla] at hl0
  have hc8 := cur_sz st8
  have HC8 := Lib.hid (show st8.cur.length ≤ 100000000 by have := HS.out.2.2.2.2; omega)
  have HRN := Lib.hid hrun
  have HM8 := Lib.hid m8
  have HR2 := Lib.hid r2
  have hbl := m8.bl
  have hbx := m8.bx
  have d1 : w8.cell? ⟨w7.heap.size + 1, 0, none⟩ = some (.int .i64 (last : Int)) := by rw [Lib.cell_of_heap hbl]; rfl
  have d2 : w8.cell? ⟨w7.heap.size, 0, none⟩ = some (.pointer (some ⟨q, 0, none⟩)) := by rw [Lib.cell_of_heap hbx]; rfl
  have d5 : w8.cell? ⟨N + 5, 0, none⟩ = some (.func (.func 25) #[] #[.pointer (some ⟨N + 2, 0, none⟩)]) := by rw [Lib.cell_of_heap m8.sb.b5]; rfl
  have z1 : ((last : Int) == 0) = false := by simp; omega
  obtain ⟨x1, x2, x3, x4, hqb⟩ := m8.lit
  have q0 : w8.cell? ⟨q, 0, none⟩ = some (.int .u32 x1) := by rw [Lib.cell_of_heap hqb]; rfl
  have q1 : w8.cell? ⟨q, 1, none⟩ = some (.int .u32 x2) := by rw [Lib.cell_of_heap hqb]; rfl
  have q2 : w8.cell? ⟨q, 2, none⟩ = some (.int .u32 x3) := by rw [Lib.cell_of_heap hqb]; rfl
  have q3 : w8.cell? ⟨q, 3, none⟩ = some (.int .u32 x4) := by rw [Lib.cell_of_heap hqb]; rfl
  have q4 : w8.cell? ⟨q, 4, none⟩ = some (.string v) := by rw [Lib.cell_of_heap hqb]; rfl
  have hzl : (0 : Int) ≤ (last : Int) ∧ (last : Int) ≤ (v.size : Int) ∧ (v.size : Int) ≤ 100000000 := by have := HS.out.2.2.2.2; omega
  have sla : w7.heap.size + 1 < w8.heap.size := (Array.getElem?_eq_some_iff.1 hbl).1
  have slx : w7.heap.size < w8.heap.size := by omega
  have sqq : q < w8.heap.size := (Array.getElem?_eq_some_iff.1 hqb).1
  have s55 : N + 5 < w8.heap.size := m8.sb.lt
  clear m8 hbl hbx r1 r2 hla hst8 hrun hc8 ok8 hl0 hqb
  unfold ptr
  go_upto_region 102 with fail
  have HB := Lib.hid ((Below.refl w8.heap.size w8).alloc (Nat.le_refl _) (.cells #[.int .u32 x1, .int .u32 x2, .int .u32 x3, .int .u32 x4, .string (v.extract last v.size)] 69))
  have HLT : Hid (LitAt (w8.alloc (.cells #[.int .u32 x1, .int .u32 x2, .int .u32 x3, .int .u32 x4, .string (v.extract last v.size)] 69)) w8.heap.size (v.extract last v.size)) := Lib.hid ⟨x1, x2, x3, x4, heap_alloc_new w8 _⟩
  have d51 := (HB.out.cell (p := ⟨N + 5, 0, none⟩) s55).trans d5
  generalize w8.alloc (.cells #[.int .u32 x1, .int .u32 x2, .int .u32 x3, .int .u32 x4, .string (v.extract last v.size)] 69) = w9 at HB HLT d51 ⊢
  clear d1 d2 d5 q0 q1 q2 q3 q4 sla slx sqq
  have HCALL := Lib.hid (addLit_any N st8 vals ps w9 w8.heap.size _ (HM8.out.sb.below HB.out) HLT.out HC8.out)
  go_wp2_with (go_at_call 25; refine (HCALL.out).mono ?_; rintro e w10 ⟨rfl, h10, s10⟩; have HF := Lib.hid (And.intro h10 s10); clear h10 s10)
  have hst : stepP st (.lit v) = st8.push [.lit (v.extract last v.size)] := stepP_more HRN.out (by have h2 := HL0.out; rw [HRN.out] at h2; exact h2)
  rw [hst]
  exact ⟨⟨rfl, rfl, rfl, rfl, rfl, rfl, rfl, rfl, rfl, rfl, rfl, rfl, rfl⟩, HF.out.1, HS.out.2.1.trans (HM8.out.still.trans ((Still.of_below HB.out (by omega)).trans HF.out.2))⟩
end Go.Proofs.YtmcoifhiiagfpaaDoor

namespace Go.Proofs.YtmcoifhiiagfpaaDoor
open Go.RowKit
set_option linter.unusedSectionVars false
variable [Pw]

theorem runB_seq (v : ByteArray) : ∀ (f j last : Nat) (st : St), SeqOk st → SeqOk (runB v f j last st).2
  | 0, _, _, _, h => h
  | f + 1, j, last, st, h => by
    unfold runB
    split
    · exact runB_seq v f _ _ _ (stepB_seq v j last st h)
    · exact h
theorem stepP_seq (st : St) (p : Part) (h : SeqOk st) : SeqOk (stepP st p) := by
  cases p with
  | lit v =>
    have h1 := runB_seq v (v.size + 1) 0 0 st h
    rcases hr : runB v (v.size + 1) 0 0 st with ⟨last, st8⟩
    rw [hr] at h1
    by_cases h0 : last = 0
    · rw [stepP_zero hr h0]
      exact push_seq _ _ h1
    · rw [stepP_more hr h0]
      exact push_seq _ _ h1
  | brace b es => exact push_seq _ _ h
  | other t x => exact push_seq _ _ h
theorem foldP_seq : ∀ (ps : List Part) (st : St), SeqOk st → SeqOk (ps.foldl stepP st)
  | [], _, h => h
  | p :: r, st, h => foldP_seq r (stepP st p) (stepP_seq st p h)
theorem sz_mem : ∀ (ps : List Part) (p : Part), p ∈ ps → psz p ≤ sz ps
  | [], _, h => by cases h
  | a :: r, p, h => by
    rw [sz_cons]
    rcases List.mem_cons.1 h with rfl | h
    · omega
    · have := sz_mem r p h
      omega
theorem sz_take (ps : List Part) (k : Nat) : sz (ps.take k) ≤ sz ps := by
  have h : sz ps = sz (ps.take k) + sz (ps.drop k) := by rw [← sz_append, List.take_append_drop]
  omega

set_option maxRecDepth 1000000 in
set_option maxHeartbeats 2000000 in
theorem parts_exit {N p g cap n : Nat} {a : Act} (fr : FrP N p (.slice (some ⟨g, 0, none⟩) n cap) n n a) (hn : n ≤ 100000000) {w : World} (Q : Exit → Act → World → Prop) (hQ : ∀ a', FrP N p (.slice (some ⟨g, 0, none⟩) n cap) n n a' → Q (.exit 0) a' w) :
    Code.wp Tryd.prog (bodyOf 0) Q a w := by
  obtain ⟨f, hf, ht⟩ := frame_lit a.tmps fr.size
  obtain ⟨t, d⟩ := a
  have hd : d = [] := fr.defers
  subst hd
  have h0 := (hf 0).trans fr.s0
  have h2 := (hf 2).trans fr.s2
  have h3 := (hf 3).trans fr.s3
  have h4 := (hf 4).trans fr.s4
  have h5 := (hf 5).trans fr.s5
  have h6 := (hf 6).trans fr.s6
  have h7 := (hf 7).trans fr.s7
  have h8 := (hf 8).trans fr.s8
  have h50 := (hf 50).trans fr.s50
  have h51 := (hf 51).trans fr.s51
  have h52 := (hf 52).trans fr.s52
  simp only [h0, h2, h3, h4, h5, h6, h7, h8, h50, h51, h52] at ht
  have ht2 : t = _ := ht
  subst ht2
  clear hf ht fr h0 h2 h3 h4 h5 h6 h7 h8 h50 h51 h52
  have hz : (n : Int) ≤ 100000000 := by omega
  conv => arg 2; whnf
  unfold ptr
  go_wp2_with fail
  exact ⟨rfl, rfl, rfl, rfl, rfl, rfl, rfl, rfl, rfl, rfl, rfl, rfl, rfl⟩

theorem parts_loop {N p g cap : Nat} {a : Act} {vals : List Value} {ps : List Part} (fr : FrP N p (.slice (some ⟨g, 0, none⟩) ps.length cap) ps.length 0 a) {w : World} (hs : Sb N ⟨[], []⟩ vals ps w) (hg : g < N) (hc : ∀ k u, vals[k]? = some u → w.cell? ⟨g, k, none⟩ = some u) (hB : 10 * sz ps + 20 * ps.length + 9 * sz ps + 100 ≤ 100000000) (hE : Errs w) (hE1 : 0 < N) (hE2 : 1 < N) (Q : Exit → Act → World → Prop)
    (hQ : ∀ a' w', FrP N p (.slice (some ⟨g, 0, none⟩) ps.length cap) ps.length ps.length a' → Sb N (ps.foldl stepP ⟨[], []⟩) vals ps w' → Still N w w' → Q (.exit 0) a' w') :
    Code.wp Tryd.prog (Code.loop (bodyOf 0)) Q a w := by
  have hpl := sz_length ps
  refine wp_loop_ghost (fun n a' w' => ∃ i, i ≤ ps.length ∧ n = ps.length - i ∧ FrP N p (.slice (some ⟨g, 0, none⟩) ps.length cap) ps.length i a' ∧ Sb N ((ps.take i).foldl stepP ⟨[], []⟩) vals ps w' ∧ Still N w w') ps.length ⟨0, Nat.zero_le _, rfl, fr, hs, Still.refl _ _⟩ ?_
  rintro n a1 w1 ⟨i, hi, rfl, fr1, hs1, hk1⟩
  by_cases hlt : i < ps.length
  · obtain ⟨u, q, e1, e2, e3⟩ : ∃ u q, vals[i]? = some u ∧ ps[i]? = some q ∧ True := by
      obtain ⟨hs0, hsb, hst, hxy⟩ := hs1
      obtain ⟨u, q, e1, e2, e3⟩ := hxy.at_ i hlt
      exact ⟨u, q, e1, e2, trivial⟩
    have hf := foldP_sz (ps.take i) ⟨[], []⟩
    have h0 : (⟨[], []⟩ : St).sz = 0 := rfl
    have ht := sz_take ps i
    have htl : (ps.take i).length ≤ ps.length := List.length_take_le' ..
    have hmem : q ∈ ps := List.mem_of_getElem? e2
    have hsq := sz_mem ps q hmem
    have hseq : SeqOk ((ps.take i).foldl stepP ⟨[], []⟩) := foldP_seq _ _ (fun f hf => by cases hf)
    have hstep : (ps.take (i + 1)).foldl stepP ⟨[], []⟩ = stepP ((ps.take i).foldl stepP ⟨[], []⟩) q := by
      rw [List.take_add_one, e2, List.foldl_append]
      rfl
    have done : ∀ (ex : Exit) (a' : Act) (w' : World), Exit.then (fun a' w' => FrP N p (.slice (some ⟨g, 0, none⟩) ps.length cap) ps.length (i + 1) a' ∧ Sb N (stepP ((ps.take i).foldl stepP ⟨[], []⟩) q) vals ps w' ∧ Still N w w') Q ex a' w' → Exit.then (fun a' w' => ∃ n', n' < ps.length - i ∧ ∃ i, i ≤ ps.length ∧ n' = ps.length - i ∧ FrP N p (.slice (some ⟨g, 0, none⟩) ps.length cap) ps.length i a' ∧ Sb N ((ps.take i).foldl stepP ⟨[], []⟩) vals ps w' ∧ Still N w w') Q ex a' w' := by
      intro ex a' w' hq
      cases ex with
      | normal => exact ⟨ps.length - (i + 1), by omega, i + 1, hlt, rfl, hq.1, by rw [hstep]; exact hq.2.1, hq.2.2⟩
      | exit id => exact hq
      | goto l => exact hq
      | ret => exact hq
      | panic ch => exact hq
      | outgrown => exact hq
    cases q with
    | lit v =>
      have hpz : psz (Part.lit v) = 1 + v.size := rfl
      by_cases hl0 : (runB v (v.size + 1) 0 0 ((ps.take i).foldl stepP ⟨[], []⟩)).1 = 0
      · exact Code.wp_mono done (part_lit0 fr1 hs1 hk1 hlt (by omega) hg (hc i u e1) e1 e2 hseq (by omega) hE hE1 hE2 hl0 Q)
      · exact Code.wp_mono done (part_lit1 fr1 hs1 hk1 hlt (by omega) hg (hc i u e1) e1 e2 hseq (by omega) hE hE1 hE2 hl0 Q)
    | brace b es =>
      have hcu := cur_sz ((ps.take i).foldl stepP ⟨[], []⟩)
      exact Code.wp_mono done (part_other fr1 hs1 hk1 hlt (by omega) hg (hc i u e1) e1 e2 (fun s h => by cases h) (by omega) Q)
    | other t x =>
      have hcu := cur_sz ((ps.take i).foldl stepP ⟨[], []⟩)
      exact Code.wp_mono done (part_other fr1 hs1 hk1 hlt (by omega) hg (hc i u e1) e1 e2 (fun s h => by cases h) (by omega) Q)
  · have hi2 : i = ps.length := by omega
    subst hi2
    rw [List.take_length] at hs1
    exact parts_exit fr1 (by omega) _ (fun a' h => hQ a' w1 h hs1 hk1)
end Go.Proofs.YtmcoifhiiagfpaaDoor

namespace Go.Proofs.YtmcoifhiiagfpaaDoor
open Go.RowKit
set_option linter.unusedSectionVars false
variable [Pw]

/-- The slots of the unwinding. -/
structure FrU (N p : Nat) (a : Act) : Prop where
  defers : a.defers = []
  size : a.tmps.size = 469
  s0 : a.tmps.getD 0 undef = ptr p
  s2 : a.tmps.getD 2 undef = .bool false
  s3 : a.tmps.getD 3 undef = ptr (N + 1)
  s4 : a.tmps.getD 4 undef = ptr (N + 2)
  s5 : a.tmps.getD 5 undef = ptr (N + 3)
  s6 : a.tmps.getD 6 undef = ptr (N + 4)
  s7 : a.tmps.getD 7 undef = .func (.func 24) #[] #[ptr (N + 3), ptr (N + 4), ptr (N + 1), ptr (N + 2)]
  s8 : a.tmps.getD 8 undef = ptr (N + 5)

/-- The slots of the loop. -/
structure SpB (N p b e n cap i : Nat) (a : Act) : Prop where
  fr : FrU N p a
  s432 : a.tmps.getD 432 undef = .slice (some ⟨e, 0, none⟩) n cap
  s433 : a.tmps.getD 433 undef = .int .i64 (n : Int)
  s434 : a.tmps.getD 434 undef = .int .i64 (i : Int)
  s33 : a.tmps.getD 33 undef = ptr b

set_option linter.unusedSimpArgs false in
set_option maxRecDepth 1000000 in
set_option maxHeartbeats 2000000 in
theorem spillB_0 {N p b e cap : Nat} {a : Act} {ess : List (List Part)} (sf : SpB N p b e ess.length cap 0 a) {ws w1 : World} {T : St} {xs : List Value} {ys : List Part} {seq : Bool} (hs : Sb N T (.iface 76 (.pointer (some ⟨b, 0, none⟩)) :: xs) (.brace seq ess :: ys) w1) (hk : Still N ws w1) (hB : w1.heap[b]? = some (.cells #[.bool seq, .slice (some ⟨e, 0, none⟩) ess.length cap] 80 (0, 0))) {es : List Part} (he : ess[0]? = some es) (hlen : T.cur.length + es.length ≤ 100000000) (hn : ess.length ≤ 100000000) (Q0 : Exit → Act → World → Prop) :
    Code.wp Tryd.prog (bodyOf 6) (Exit.then (fun a' w' => SpB N p b e ess.length cap (0 + 1) a' ∧ Sb N (T.push es) (.iface 76 (.pointer (some ⟨b, 0, none⟩)) :: xs) (.brace seq ess :: ys) w' ∧ Still N ws w' ∧ w'.heap[b]? = some (.cells #[.bool seq, .slice (some ⟨e, 0, none⟩) ess.length cap] 80 (0, 0))) Q0) a w1 := by
  obtain ⟨fr, g432, g433, g434, g33⟩ := sf
  obtain ⟨f, hf, ht⟩ := frame_lit a.tmps fr.size
  obtain ⟨t, d⟩ := a
  have hd : d = [] := fr.defers
  subst hd
  have h0 := (hf 0).trans fr.s0
  have h2 := (hf 2).trans fr.s2
  have h3 := (hf 3).trans fr.s3
  have h4 := (hf 4).trans fr.s4
  have h5 := (hf 5).trans fr.s5
  have h6 := (hf 6).trans fr.s6
  have h7 := (hf 7).trans fr.s7
  have h8 := (hf 8).trans fr.s8
  replace g432 := (hf 432).trans g432
  replace g433 := (hf 433).trans g433
  replace g434 := (hf 434).trans g434
  replace g33 := (hf 33).trans g33
  simp only [h0, h2, h3, h4, h5, h6, h7, h8, g432, g433, g434, g33] at ht
  have ht2 : t = _ := ht
  subst ht2
  clear hf ht fr h0 h2 h3 h4 h5 h6 h7 h8 g432 g433 g434 g33
  have hlt : 0 < ess.length := (List.getElem?_eq_some_iff.1 he).1
  obtain ⟨p0, ce, hpe⟩ : ∃ p0, w1.cell? ⟨e, 0, none⟩ = some (.pointer (some ⟨p0, 0, none⟩)) ∧ ∃ c, w1.heap[e]? = some (.cells c 38 (0, 0)) := by
    obtain ⟨hs, hsb, hst, hxy⟩ := hs
    have br := brace_lies2 hxy hB
    obtain ⟨p, v, vals, h1, _⟩ := br.elt 0 es he
    exact ⟨p, h1, br.ety⟩
  have hz : (0 : Int) < (ess.length : Int) ∧ (ess.length : Int) ≤ 100000000 := by omega
  obtain ⟨ib, hib, hb0, hb1, hb2⟩ := info_parts Tryd.info_part
  have HM1 := Lib.hid (show Sb N T (.iface 76 (.pointer (some ⟨b, 0, none⟩)) :: xs) (.brace seq ess :: ys) w1 ∧ Still N ws w1 ∧ KeepB w1 w1 from ⟨hs, hk, KeepB.refl _⟩)
  have HB := Lib.hid hB
  have HE := Lib.hid he
  have HCE := Lib.hid (And.intro ce hpe)
  have HLN := Lib.hid hlen
  clear hs hk hB he hpe hlen hlt hn
  conv => arg 2; whnf
  unfold ptr
  obtain ⟨hs, hsb, hst, hxy⟩ := HM1.out.1
  have ha := hsb.words _ (acc_mem hs)
  obtain ⟨ac, hac⟩ : ∃ ac, hs.acc = ac := ⟨_, rfl⟩
  rw [hac] at ha
  have cb2 : w1.cell? ⟨N + 2, 0, none⟩ = some (.pointer (some ⟨ac.blk, 0, none⟩)) := by rw [Lib.cell_of_heap hsb.b2, hac]; rfl
  have cac : w1.cell? ⟨ac.blk, 0, none⟩ = some ac.v := by rw [Lib.cell_of_heap ha.blk]; rfl
  have sac : ac.blk < w1.heap.size := (Array.getElem?_eq_some_iff.1 ha.blk).1
  have hN7 := hsb.lt
  have hcl : ac.vals.length = (T).cur.length := by rw [← hst, st_cur, ← hac]; exact (hsb.words _ (acc_mem hs)).parts.length
  have HA := Lib.hid (And.intro hsb (And.intro hxy (And.intro hac (And.intro ha hst))))
  have br := brace_lies2 hxy HB.out
  obtain ⟨p9, v0, vals0, ce9, hp0, hrow, hpar⟩ := br.elt 0 es HE.out
  have hp9 : p9 = p0 := by
    obtain ⟨cc, hcc⟩ := HCE.out.2
    have h1 := HCE.out.1
    rw [Lib.cell_of_heap hcc] at h1
    rw [Lib.cell_of_heap hcc] at ce9
    rw [h1] at ce9
    simp only [Option.some.injEq, Value.pointer.injEq, Addr.mk.injEq, and_true] at ce9
    exact ce9.symm
  subst hp9
  have c0 : w1.cell? ⟨p9, 0, none⟩ = some v0 := by rw [Lib.cell_of_heap hp0]; rfl
  have HBR := Lib.hid (And.intro br hp0)
  have HNW := Lib.hid (show News w1.drew v0 vals0.length vals0 from hrow.news)
  have HAL := Lib.hid (show ac.vals.length + vals0.length ≤ 100000000 by
    rw [hcl, hpar.length]
    have := HLN.out
    omega)
  have HEL := Lib.hid hpar
  clear hsb hxy ha hcl hst br hac ce9 hp0 hrow hpar
  go_upto_region 114 with fail
  refine region_anyE (fun w' => w'.cell? ⟨N + 2, 0, none⟩ = some (.pointer (some ⟨ac.blk, 0, none⟩)) ∧ w'.cell? ⟨ac.blk, 0, none⟩ = some ac.v ∧ w'.cell? ⟨p9, 0, none⟩ = some (v0)) 12 (by kernel_rfl) ?_ (fun hS hC => ?_)
  · (try dsimp only); go_keep
  refine anyE_take (i := 0) (v := ?_) [0] (by kernel_rfl) rfl (fun _ _ _ h => h) (by rfl) ?_ hC hS ?_
  rotate_left
  · intro w hSw
    (try dsimp only at hSw)
    go_simp
    (try with_reducible rfl)
  clear hC
  intro hC
  try simp only [Act.put, List.setIfInBounds_toArray, List.set_cons_zero, List.set_cons_succ]
  refine anyE_take (i := 1) (v := ?_) [1] (by kernel_rfl) rfl (fun _ _ _ h => h) (by rfl) ?_ hC hS ?_
  rotate_left
  · intro w hSw
    (try dsimp only at hSw)
    go_simp
    (try with_reducible rfl)
  clear hC
  intro hC
  try simp only [Act.put, List.setIfInBounds_toArray, List.set_cons_zero, List.set_cons_succ]
  refine anyE_take (i := 2) (v := ?_) [2] (by kernel_rfl) rfl (fun _ _ _ h => h) (by rfl) ?_ hC hS ?_
  rotate_left
  · intro w hSw
    (try dsimp only at hSw)
    go_simp
    (try with_reducible rfl)
  clear hC
  intro hC
  try simp only [Act.put, List.setIfInBounds_toArray, List.set_cons_zero, List.set_cons_succ]
  refine anyE_take (i := 3) (v := ?_) [3] (by kernel_rfl) rfl (fun _ _ _ h => h) (by rfl) ?_ hC hS ?_
  rotate_left
  · intro w hSw
    (try dsimp only at hSw)
    go_simp
    (try with_reducible rfl)
  clear hC
  intro hC
  try simp only [Act.put, List.setIfInBounds_toArray, List.set_cons_zero, List.set_cons_succ]
  refine anyE_take (i := 4) (v := ?_) [4] (by kernel_rfl) rfl (fun _ _ _ h => h) (by rfl) ?_ hC hS ?_
  rotate_left
  · intro w hSw
    (try dsimp only at hSw)
    go_simp
    (try with_reducible rfl)
  clear hC
  intro hC
  try simp only [Act.put, List.setIfInBounds_toArray, List.set_cons_zero, List.set_cons_succ]
  refine anyE_take (i := 5) (v := ?_) [5] (by kernel_rfl) rfl (fun _ _ _ h => h) (by rfl) ?_ hC hS ?_
  rotate_left
  · intro w hSw
    (try dsimp only at hSw)
    go_simp
    (try with_reducible rfl)
  clear hC
  intro hC
  try simp only [Act.put, List.setIfInBounds_toArray, List.set_cons_zero, List.set_cons_succ]
  refine anyE_take (i := 6) (v := ?_) [6] (by kernel_rfl) rfl (fun _ _ _ h => h) (by rfl) ?_ hC hS ?_
  rotate_left
  · intro w hSw
    (try dsimp only at hSw)
    go_simp
    (try with_reducible rfl)
  clear hC
  intro hC
  try simp only [Act.put, List.setIfInBounds_toArray, List.set_cons_zero, List.set_cons_succ]
  refine anyE_take (i := 7) (v := ?_) [7] (by kernel_rfl) rfl (fun _ _ _ h => h) (by rfl) ?_ hC hS ?_
  rotate_left
  · intro w hSw
    (try dsimp only at hSw)
    go_simp
    (try with_reducible rfl)
  clear hC
  intro hC
  try simp only [Act.put, List.setIfInBounds_toArray, List.set_cons_zero, List.set_cons_succ]
  refine anyE_take (i := 8) (v := ?_) [8] (by kernel_rfl) rfl (fun _ _ _ h => h) (by rfl) ?_ hC hS ?_
  rotate_left
  · intro w hSw
    (try dsimp only at hSw)
    go_simp
    (try with_reducible rfl)
  clear hC
  intro hC
  try simp only [Act.put, List.setIfInBounds_toArray, List.set_cons_zero, List.set_cons_succ]
  refine anyE_one (i := 9) (by kernel_rfl) hC rfl (fun K hK => ?_)
  clear hC
  (refine step_append_row _ (by rfl) _ _ 31 (by rfl) (N + 6) 72 ib .nilIface 16 Tryd.underlying31 hib hb0 hb1 hb2 rfl ac.v ac.vals.length ac.vals (by rfl) HA.out.2.2.2.1.own.drew v0 vals0.length vals0 (by rfl) HNW.out rfl HEL.out.one (by have := HAL.out; unfold maxLen; omega) (by have := HAL.out; omega) (by show N + 6 ≤ w1.heap.size; omega) ?_; intro v8 wb hown8 hgrow8 hat8; obtain ⟨s8, n8, c8, rfl⟩ := own_slice hown8; have hc8 : wb.heap[ac.blk]? = some (.cells #[ac.v] 40 (0, 0)) := HA.out.2.2.2.1.grown (W := w1.drew) (fun _ _ => rfl) (Nat.le_refl _) hgrow8; have hb8 : wb.heap[N + 2]? = some (.cells #[ptr ac.blk] 38 (0, 0)) := HA.out.2.2.2.1.box (W := w1.drew) (fun _ _ => rfl) (Nat.le_refl _) hgrow8 (by omega) (by rw [← HA.out.2.2.1]; exact HA.out.1.b2); have y1 : wb.cell? ⟨ac.blk, 0, none⟩ = some ac.v := (Lib.cell_of_heap hc8 0).trans rfl; have y2 : wb.frozen? ⟨ac.blk, 0, none⟩ = false := Lib.frozen_of_heap hc8 0; have y3 : wb.cell? ⟨N + 2, 0, none⟩ = some (.pointer (some ⟨ac.blk, 0, none⟩)) := (Lib.cell_of_heap hb8 0).trans rfl; have l0 : wb.cell? ⟨p9, 0, none⟩ = some (v0) := ((cell_grown hgrow8 (HBR.out.2) HA.out.2.2.2.1.own.drew (by decide) 0)).trans c0; have H8 := Lib.hid (And.intro hown8 (And.intro hgrow8 hat8)); clear hown8 hgrow8 hat8 hc8 hb8)
  refine hK.out _ _ ?_ ?_
  · (try dsimp only); exact ⟨y3, y1, l0⟩
  clear hS
  intro hS hC
  clear hK K
  try simp only [Act.put, List.setIfInBounds_toArray, List.set_cons_zero, List.set_cons_succ]
  refine anyE_take (i := 10) (v := ?_) [11, 10] (by kernel_rfl) rfl (fun _ _ _ h => h) (by rfl) ?_ hC hS ?_
  rotate_left
  · intro w hSw
    (try dsimp only at hSw)
    go_simp
    (try with_reducible rfl)
  clear hC
  intro hC
  try simp only [Act.put, List.setIfInBounds_toArray, List.set_cons_zero, List.set_cons_succ]
  refine anyE_take (i := 11) (v := ?_) [11] (by kernel_rfl) rfl (fun _ _ _ h => h) (by rfl) ?_ hC hS ?_
  rotate_left
  · intro w hSw
    (try dsimp only at hSw)
    go_simp
    (try with_reducible rfl)
  clear hC
  intro hC
  try simp only [Act.put, List.setIfInBounds_toArray, List.set_cons_zero, List.set_cons_succ]
  refine anyE_last (by kernel_rfl) rfl (by kernel_rfl) (fun K hK => ?_)
  clear hC
  go_simp
  refine hK.out _ _ ?_
  clear hK K hS
  refine NoPanic.normal ?_
  try simp only [Act.put, List.setIfInBounds_toArray, List.set_cons_zero, List.set_cons_succ]
  obtain ⟨e8, s8, kb8⟩ := HA.out.1.row_end2 (W := w1.drew) HA.out.2.2.1 (us := vals0) HEL.out HA.out.2.1 ((Below.refl w1.heap.size w1).drew) H8.out.1 H8.out.2.1 H8.out.2.2
  rw [HA.out.2.2.2.2] at e8
  have HM2 := Lib.hid (And.intro e8 (And.intro (HM1.out.2.1.trans s8) (HM1.out.2.2.trans kb8)))
  clear kb8
  clear y1 y2 y3 H8 e8 s8 l0 c0 cb2 cac sac HA HAL HNW HEL
  generalize wb.setCell ⟨ac.blk, 0, none⟩ (.slice s8 n8 c8) = w2 at *
  go_wp2_with fail
  exact ⟨⟨⟨rfl, rfl, rfl, rfl, rfl, rfl, rfl, rfl, rfl, rfl⟩, rfl, rfl, rfl, rfl⟩, HM2.out.1, HM2.out.2.1, HM2.out.2.2 _ _ _ _ HB.out (by decide) (by decide)⟩

set_option linter.unusedSimpArgs false in
set_option maxRecDepth 1000000 in
set_option maxHeartbeats 2000000 in
theorem spillB_ST {N p b e cap i : Nat} {a : Act} {ess : List (List Part)} (sf : SpB N p b e ess.length cap i a) {ws w1 : World} {T : St} {xs : List Value} {ys : List Part} (hs : Sb N T (.iface 76 (.pointer (some ⟨b, 0, none⟩)) :: xs) (.brace true ess :: ys) w1) (hk : Still N ws w1) (hB : w1.heap[b]? = some (.cells #[.bool true, .slice (some ⟨e, 0, none⟩) ess.length cap] 80 (0, 0))) {es : List Part} (he : ess[i]? = some es) (hi : 0 < i) (hlen : T.cur.length + 1 + es.length ≤ 100000000) (hn : ess.length ≤ 100000000) (Q0 : Exit → Act → World → Prop) :
    Code.wp Tryd.prog (bodyOf 6) (Exit.then (fun a' w' => SpB N p b e ess.length cap (i + 1) a' ∧ Sb N ((T.push [.lit dots]).push es) (.iface 76 (.pointer (some ⟨b, 0, none⟩)) :: xs) (.brace true ess :: ys) w' ∧ Still N ws w' ∧ w'.heap[b]? = some (.cells #[.bool true, .slice (some ⟨e, 0, none⟩) ess.length cap] 80 (0, 0))) Q0) a w1 := by
  obtain ⟨fr, g432, g433, g434, g33⟩ := sf
  obtain ⟨f, hf, ht⟩ := frame_lit a.tmps fr.size
  obtain ⟨t, d⟩ := a
  have hd : d = [] := fr.defers
  subst hd
  have h0 := (hf 0).trans fr.s0
  have h2 := (hf 2).trans fr.s2
  have h3 := (hf 3).trans fr.s3
  have h4 := (hf 4).trans fr.s4
  have h5 := (hf 5).trans fr.s5
  have h6 := (hf 6).trans fr.s6
  have h7 := (hf 7).trans fr.s7
  have h8 := (hf 8).trans fr.s8
  replace g432 := (hf 432).trans g432
  replace g433 := (hf 433).trans g433
  replace g434 := (hf 434).trans g434
  replace g33 := (hf 33).trans g33
  simp only [h0, h2, h3, h4, h5, h6, h7, h8, g432, g433, g434, g33] at ht
  have ht2 : t = _ := ht
  subst ht2
  clear hf ht fr h0 h2 h3 h4 h5 h6 h7 h8 g432 g433 g434 g33
  have hlt : i < ess.length := (List.getElem?_eq_some_iff.1 he).1
  obtain ⟨p0, ce, hpe⟩ : ∃ p0, w1.cell? ⟨e, i, none⟩ = some (.pointer (some ⟨p0, 0, none⟩)) ∧ ∃ c, w1.heap[e]? = some (.cells c 38 (0, 0)) := by
    obtain ⟨hs, hsb, hst, hxy⟩ := hs
    have br := brace_lies2 hxy hB
    obtain ⟨p, v, vals, h1, _⟩ := br.elt i es he
    exact ⟨p, h1, br.ety⟩
  have hz : ((i : Int) : Int) < (ess.length : Int) ∧ (ess.length : Int) ≤ 100000000 := by omega
  have hi0 : (0 : Int) < (i : Int) := by omega
  have cq : w1.cell? ⟨b, 0, none⟩ = some (.bool true) := by rw [Lib.cell_of_heap hB]; rfl
  obtain ⟨ib, hib, hb0, hb1, hb2⟩ := info_parts Tryd.info_part
  have HM1 := Lib.hid (show Sb N T (.iface 76 (.pointer (some ⟨b, 0, none⟩)) :: xs) (.brace true ess :: ys) w1 ∧ Still N ws w1 ∧ KeepB w1 w1 from ⟨hs, hk, KeepB.refl _⟩)
  have HB := Lib.hid hB
  have HE := Lib.hid he
  have HCE := Lib.hid (And.intro ce hpe)
  have HLN := Lib.hid hlen
  clear hs hk hB he hpe hlen hlt hn hi
  conv => arg 2; whnf
  unfold ptr
  have cN1 : w1.cell? ⟨N + 5, 0, none⟩ = some (.func (.func 25) #[] #[.pointer (some ⟨N + 2, 0, none⟩)]) := by rw [Lib.cell_of_heap HM1.out.1.b5]; rfl
  have lN1 : N + 5 < w1.heap.size := HM1.out.1.lt
  have HLN1 := Lib.hid lN1
  clear lN1
  go_upto_region 112 with fail
  refine region_anyE (fun w' => w'.cell? ⟨N + 5, 0, none⟩ = some (.func (.func 25) #[] #[.pointer (some ⟨N + 2, 0, none⟩)])) 2 (by kernel_rfl) ?_ (fun hS hC => ?_)
  · (try dsimp only); go_keep
  refine anyE_take (i := 0) (v := ?_) [0] (by kernel_rfl) rfl (fun _ _ _ h => h) (by rfl) ?_ hC hS ?_
  rotate_left
  · intro w hSw
    (try dsimp only at hSw)
    go_simp
    (try with_reducible rfl)
  clear hC
  intro hC
  try simp only [Act.put, List.setIfInBounds_toArray, List.set_cons_zero, List.set_cons_succ]
  refine anyE_one (i := 1) (by kernel_rfl) hC rfl (fun K hK => ?_)
  clear hC
  go_simp
  (refine (dots_any _).mono ?_; rintro e1 wa1 ⟨q1, rfl, hq1, hb1⟩; have hb2 : Below w1.heap.size w1 wa1 := ((Below.refl w1.heap.size w1).drew).trans hb1; have cNa1 : wa1.cell? ⟨N + 5, 0, none⟩ = some (.func (.func 25) #[] #[.pointer (some ⟨N + 2, 0, none⟩)]) := (hb2.cell (p := ⟨N + 5, 0, none⟩) HLN1.out).trans cN1; have HQ1 := Lib.hid (And.intro hq1 hb2); clear hq1 hb1 hb2; unfold ptr)
  refine hK.out _ _ ?_ ?_
  · (try dsimp only); exact cNa1
  clear hS
  intro hS hC
  clear hK K
  try simp only [Act.put, List.setIfInBounds_toArray, List.set_cons_zero, List.set_cons_succ]
  refine anyE_last (by kernel_rfl) rfl (by kernel_rfl) (fun K hK => ?_)
  clear hC
  go_simp
  (go_at_call 25; refine (addLit_any2 N T (.iface 76 (.pointer (some ⟨b, 0, none⟩)) :: xs) (.brace true ess :: ys) wa1 q1 dots (HM1.out.1.below HQ1.out.2) HQ1.out.1 (by have := HLN.out; omega)).mono ?_; rintro e2 w2 ⟨rfl, h9, s9, kb9⟩)
  refine hK.out _ _ ?_
  clear hK K hS
  refine NoPanic.normal ?_
  try simp only [Act.put, List.setIfInBounds_toArray, List.set_cons_zero, List.set_cons_succ]
  have HM2 := Lib.hid (And.intro h9 (And.intro (HM1.out.2.1.trans ((Still.of_below HQ1.out.2 (by have := HLN1.out; omega)).trans s9)) (HM1.out.2.2.trans ((KeepB.of_below HQ1.out.2).trans kb9))))
  clear cN1 cNa1 HQ1 HLN1 h9 s9 kb9
  clear ce hi0 cq
  obtain ⟨hs, hsb, hst, hxy⟩ := HM2.out.1
  have ha := hsb.words _ (acc_mem hs)
  obtain ⟨ac, hac⟩ : ∃ ac, hs.acc = ac := ⟨_, rfl⟩
  rw [hac] at ha
  have cb2 : w2.cell? ⟨N + 2, 0, none⟩ = some (.pointer (some ⟨ac.blk, 0, none⟩)) := by rw [Lib.cell_of_heap hsb.b2, hac]; rfl
  have cac : w2.cell? ⟨ac.blk, 0, none⟩ = some ac.v := by rw [Lib.cell_of_heap ha.blk]; rfl
  have sac : ac.blk < w2.heap.size := (Array.getElem?_eq_some_iff.1 ha.blk).1
  have hN7 := hsb.lt
  have hcl : ac.vals.length = ((T.push [.lit dots])).cur.length := by rw [← hst, st_cur, ← hac]; exact (hsb.words _ (acc_mem hs)).parts.length
  have HA := Lib.hid (And.intro hsb (And.intro hxy (And.intro hac (And.intro ha hst))))
  have hkb := HM2.out.2.2
  have br := brace_lies2 hxy (hkb _ _ _ _ HB.out (by decide) (by decide))
  obtain ⟨p9, v0, vals0, ce9, hp0, hrow, hpar⟩ := br.elt i es HE.out
  have hp9 : p9 = p0 := by
    obtain ⟨cc, hcc⟩ := HCE.out.2
    have h1 := HCE.out.1
    rw [Lib.cell_of_heap hcc] at h1
    rw [Lib.cell_of_heap (hkb _ _ _ _ hcc (by decide) (by decide))] at ce9
    rw [h1] at ce9
    simp only [Option.some.injEq, Value.pointer.injEq, Addr.mk.injEq, and_true] at ce9
    exact ce9.symm
  subst hp9
  have c0 : w2.cell? ⟨p9, 0, none⟩ = some v0 := by rw [Lib.cell_of_heap hp0]; rfl
  have HBR := Lib.hid (And.intro br hp0)
  have HNW := Lib.hid (show News w2.drew v0 vals0.length vals0 from hrow.news)
  have HAL := Lib.hid (show ac.vals.length + vals0.length ≤ 100000000 by
    rw [hcl, hpar.length, cur_push]
    simp only [List.length_append, List.length_cons, List.length_nil]
    have := HLN.out
    omega)
  have HEL := Lib.hid hpar
  clear hsb hxy ha hcl hst br hac ce9 hp0 hrow hpar hkb
  go_upto_region 114 with fail
  refine region_anyE (fun w' => w'.cell? ⟨N + 2, 0, none⟩ = some (.pointer (some ⟨ac.blk, 0, none⟩)) ∧ w'.cell? ⟨ac.blk, 0, none⟩ = some ac.v ∧ w'.cell? ⟨p9, 0, none⟩ = some (v0)) 12 (by kernel_rfl) ?_ (fun hS hC => ?_)
  · (try dsimp only); go_keep
  refine anyE_take (i := 0) (v := ?_) [0] (by kernel_rfl) rfl (fun _ _ _ h => h) (by rfl) ?_ hC hS ?_
  rotate_left
  · intro w hSw
    (try dsimp only at hSw)
    go_simp
    (try with_reducible rfl)
  clear hC
  intro hC
  try simp only [Act.put, List.setIfInBounds_toArray, List.set_cons_zero, List.set_cons_succ]
  refine anyE_take (i := 1) (v := ?_) [1] (by kernel_rfl) rfl (fun _ _ _ h => h) (by rfl) ?_ hC hS ?_
  rotate_left
  · intro w hSw
    (try dsimp only at hSw)
    go_simp
    (try with_reducible rfl)
  clear hC
  intro hC
  try simp only [Act.put, List.setIfInBounds_toArray, List.set_cons_zero, List.set_cons_succ]
  refine anyE_take (i := 2) (v := ?_) [2] (by kernel_rfl) rfl (fun _ _ _ h => h) (by rfl) ?_ hC hS ?_
  rotate_left
  · intro w hSw
    (try dsimp only at hSw)
    go_simp
    (try with_reducible rfl)
  clear hC
  intro hC
  try simp only [Act.put, List.setIfInBounds_toArray, List.set_cons_zero, List.set_cons_succ]
  refine anyE_take (i := 3) (v := ?_) [3] (by kernel_rfl) rfl (fun _ _ _ h => h) (by rfl) ?_ hC hS ?_
  rotate_left
  · intro w hSw
    (try dsimp only at hSw)
    go_simp
    (try with_reducible rfl)
  clear hC
  intro hC
  try simp only [Act.put, List.setIfInBounds_toArray, List.set_cons_zero, List.set_cons_succ]
  refine anyE_take (i := 4) (v := ?_) [4] (by kernel_rfl) rfl (fun _ _ _ h => h) (by rfl) ?_ hC hS ?_
  rotate_left
  · intro w hSw
    (try dsimp only at hSw)
    go_simp
    (try with_reducible rfl)
  clear hC
  intro hC
  try simp only [Act.put, List.setIfInBounds_toArray, List.set_cons_zero, List.set_cons_succ]
  refine anyE_take (i := 5) (v := ?_) [5] (by kernel_rfl) rfl (fun _ _ _ h => h) (by rfl) ?_ hC hS ?_
  rotate_left
  · intro w hSw
    (try dsimp only at hSw)
    go_simp
    (try with_reducible rfl)
  clear hC
  intro hC
  try simp only [Act.put, List.setIfInBounds_toArray, List.set_cons_zero, List.set_cons_succ]
  refine anyE_take (i := 6) (v := ?_) [6] (by kernel_rfl) rfl (fun _ _ _ h => h) (by rfl) ?_ hC hS ?_
  rotate_left
  · intro w hSw
    (try dsimp only at hSw)
    go_simp
    (try with_reducible rfl)
  clear hC
  intro hC
  try simp only [Act.put, List.setIfInBounds_toArray, List.set_cons_zero, List.set_cons_succ]
  refine anyE_take (i := 7) (v := ?_) [7] (by kernel_rfl) rfl (fun _ _ _ h => h) (by rfl) ?_ hC hS ?_
  rotate_left
  · intro w hSw
    (try dsimp only at hSw)
    go_simp
    (try with_reducible rfl)
  clear hC
  intro hC
  try simp only [Act.put, List.setIfInBounds_toArray, List.set_cons_zero, List.set_cons_succ]
  refine anyE_take (i := 8) (v := ?_) [8] (by kernel_rfl) rfl (fun _ _ _ h => h) (by rfl) ?_ hC hS ?_
  rotate_left
  · intro w hSw
    (try dsimp only at hSw)
    go_simp
    (try with_reducible rfl)
  clear hC
  intro hC
  try simp only [Act.put, List.setIfInBounds_toArray, List.set_cons_zero, List.set_cons_succ]
  refine anyE_one (i := 9) (by kernel_rfl) hC rfl (fun K hK => ?_)
  clear hC
  (refine step_append_row _ (by rfl) _ _ 31 (by rfl) (N + 6) 72 ib .nilIface 16 Tryd.underlying31 hib hb0 hb1 hb2 rfl ac.v ac.vals.length ac.vals (by rfl) HA.out.2.2.2.1.own.drew v0 vals0.length vals0 (by rfl) HNW.out rfl HEL.out.one (by have := HAL.out; unfold maxLen; omega) (by have := HAL.out; omega) (by show N + 6 ≤ w2.heap.size; omega) ?_; intro v8 wb hown8 hgrow8 hat8; obtain ⟨s8, n8, c8, rfl⟩ := own_slice hown8; have hc8 : wb.heap[ac.blk]? = some (.cells #[ac.v] 40 (0, 0)) := HA.out.2.2.2.1.grown (W := w2.drew) (fun _ _ => rfl) (Nat.le_refl _) hgrow8; have hb8 : wb.heap[N + 2]? = some (.cells #[ptr ac.blk] 38 (0, 0)) := HA.out.2.2.2.1.box (W := w2.drew) (fun _ _ => rfl) (Nat.le_refl _) hgrow8 (by omega) (by rw [← HA.out.2.2.1]; exact HA.out.1.b2); have y1 : wb.cell? ⟨ac.blk, 0, none⟩ = some ac.v := (Lib.cell_of_heap hc8 0).trans rfl; have y2 : wb.frozen? ⟨ac.blk, 0, none⟩ = false := Lib.frozen_of_heap hc8 0; have y3 : wb.cell? ⟨N + 2, 0, none⟩ = some (.pointer (some ⟨ac.blk, 0, none⟩)) := (Lib.cell_of_heap hb8 0).trans rfl; have l0 : wb.cell? ⟨p9, 0, none⟩ = some (v0) := ((cell_grown hgrow8 (HBR.out.2) HA.out.2.2.2.1.own.drew (by decide) 0)).trans c0; have H8 := Lib.hid (And.intro hown8 (And.intro hgrow8 hat8)); clear hown8 hgrow8 hat8 hc8 hb8)
  refine hK.out _ _ ?_ ?_
  · (try dsimp only); exact ⟨y3, y1, l0⟩
  clear hS
  intro hS hC
  clear hK K
  try simp only [Act.put, List.setIfInBounds_toArray, List.set_cons_zero, List.set_cons_succ]
  refine anyE_take (i := 10) (v := ?_) [11, 10] (by kernel_rfl) rfl (fun _ _ _ h => h) (by rfl) ?_ hC hS ?_
  rotate_left
  · intro w hSw
    (try dsimp only at hSw)
    go_simp
    (try with_reducible rfl)
  clear hC
  intro hC
  try simp only [Act.put, List.setIfInBounds_toArray, List.set_cons_zero, List.set_cons_succ]
  refine anyE_take (i := 11) (v := ?_) [11] (by kernel_rfl) rfl (fun _ _ _ h => h) (by rfl) ?_ hC hS ?_
  rotate_left
  · intro w hSw
    (try dsimp only at hSw)
    go_simp
    (try with_reducible rfl)
  clear hC
  intro hC
  try simp only [Act.put, List.setIfInBounds_toArray, List.set_cons_zero, List.set_cons_succ]
  refine anyE_last (by kernel_rfl) rfl (by kernel_rfl) (fun K hK => ?_)
  clear hC
  go_simp
  refine hK.out _ _ ?_
  clear hK K hS
  refine NoPanic.normal ?_
  try simp only [Act.put, List.setIfInBounds_toArray, List.set_cons_zero, List.set_cons_succ]
  obtain ⟨e8, s8, kb8⟩ := HA.out.1.row_end2 (W := w2.drew) HA.out.2.2.1 (us := vals0) HEL.out HA.out.2.1 ((Below.refl w2.heap.size w2).drew) H8.out.1 H8.out.2.1 H8.out.2.2
  rw [HA.out.2.2.2.2] at e8
  have HM3 := Lib.hid (And.intro e8 (And.intro (HM2.out.2.1.trans s8) (HM2.out.2.2.trans kb8)))
  clear kb8
  clear y1 y2 y3 H8 e8 s8 l0 c0 cb2 cac sac HA HAL HNW HEL
  generalize wb.setCell ⟨ac.blk, 0, none⟩ (.slice s8 n8 c8) = w3 at *
  go_wp2_with fail
  exact ⟨⟨⟨rfl, rfl, rfl, rfl, rfl, rfl, rfl, rfl, rfl, rfl⟩, rfl, rfl, rfl, rfl⟩, HM3.out.1, HM3.out.2.1, HM3.out.2.2 _ _ _ _ HB.out (by decide) (by decide)⟩

set_option linter.unusedSimpArgs false in
set_option maxRecDepth 1000000 in
set_option maxHeartbeats 2000000 in
theorem spillB_SF {N p b e cap i : Nat} {a : Act} {ess : List (List Part)} (sf : SpB N p b e ess.length cap i a) {ws w1 : World} {T : St} {xs : List Value} {ys : List Part} (hs : Sb N T (.iface 76 (.pointer (some ⟨b, 0, none⟩)) :: xs) (.brace false ess :: ys) w1) (hk : Still N ws w1) (hB : w1.heap[b]? = some (.cells #[.bool false, .slice (some ⟨e, 0, none⟩) ess.length cap] 80 (0, 0))) {es : List Part} (he : ess[i]? = some es) (hi : 0 < i) (hlen : T.cur.length + 1 + es.length ≤ 100000000) (hn : ess.length ≤ 100000000) (Q0 : Exit → Act → World → Prop) :
    Code.wp Tryd.prog (bodyOf 6) (Exit.then (fun a' w' => SpB N p b e ess.length cap (i + 1) a' ∧ Sb N ((T.push [.lit cm]).push es) (.iface 76 (.pointer (some ⟨b, 0, none⟩)) :: xs) (.brace false ess :: ys) w' ∧ Still N ws w' ∧ w'.heap[b]? = some (.cells #[.bool false, .slice (some ⟨e, 0, none⟩) ess.length cap] 80 (0, 0))) Q0) a w1 := by
  obtain ⟨fr, g432, g433, g434, g33⟩ := sf
  obtain ⟨f, hf, ht⟩ := frame_lit a.tmps fr.size
  obtain ⟨t, d⟩ := a
  have hd : d = [] := fr.defers
  subst hd
  have h0 := (hf 0).trans fr.s0
  have h2 := (hf 2).trans fr.s2
  have h3 := (hf 3).trans fr.s3
  have h4 := (hf 4).trans fr.s4
  have h5 := (hf 5).trans fr.s5
  have h6 := (hf 6).trans fr.s6
  have h7 := (hf 7).trans fr.s7
  have h8 := (hf 8).trans fr.s8
  replace g432 := (hf 432).trans g432
  replace g433 := (hf 433).trans g433
  replace g434 := (hf 434).trans g434
  replace g33 := (hf 33).trans g33
  simp only [h0, h2, h3, h4, h5, h6, h7, h8, g432, g433, g434, g33] at ht
  have ht2 : t = _ := ht
  subst ht2
  clear hf ht fr h0 h2 h3 h4 h5 h6 h7 h8 g432 g433 g434 g33
  have hlt : i < ess.length := (List.getElem?_eq_some_iff.1 he).1
  obtain ⟨p0, ce, hpe⟩ : ∃ p0, w1.cell? ⟨e, i, none⟩ = some (.pointer (some ⟨p0, 0, none⟩)) ∧ ∃ c, w1.heap[e]? = some (.cells c 38 (0, 0)) := by
    obtain ⟨hs, hsb, hst, hxy⟩ := hs
    have br := brace_lies2 hxy hB
    obtain ⟨p, v, vals, h1, _⟩ := br.elt i es he
    exact ⟨p, h1, br.ety⟩
  have hz : ((i : Int) : Int) < (ess.length : Int) ∧ (ess.length : Int) ≤ 100000000 := by omega
  have hi0 : (0 : Int) < (i : Int) := by omega
  have cq : w1.cell? ⟨b, 0, none⟩ = some (.bool false) := by rw [Lib.cell_of_heap hB]; rfl
  obtain ⟨ib, hib, hb0, hb1, hb2⟩ := info_parts Tryd.info_part
  have HM1 := Lib.hid (show Sb N T (.iface 76 (.pointer (some ⟨b, 0, none⟩)) :: xs) (.brace false ess :: ys) w1 ∧ Still N ws w1 ∧ KeepB w1 w1 from ⟨hs, hk, KeepB.refl _⟩)
  have HB := Lib.hid hB
  have HE := Lib.hid he
  have HCE := Lib.hid (And.intro ce hpe)
  have HLN := Lib.hid hlen
  clear hs hk hB he hpe hlen hlt hn hi
  conv => arg 2; whnf
  unfold ptr
  have cN1 : w1.cell? ⟨N + 5, 0, none⟩ = some (.func (.func 25) #[] #[.pointer (some ⟨N + 2, 0, none⟩)]) := by rw [Lib.cell_of_heap HM1.out.1.b5]; rfl
  have lN1 : N + 5 < w1.heap.size := HM1.out.1.lt
  have HLN1 := Lib.hid lN1
  clear lN1
  go_upto_region 113 with fail
  refine region_anyE (fun w' => w'.cell? ⟨N + 5, 0, none⟩ = some (.func (.func 25) #[] #[.pointer (some ⟨N + 2, 0, none⟩)])) 2 (by kernel_rfl) ?_ (fun hS hC => ?_)
  · (try dsimp only); go_keep
  refine anyE_take (i := 0) (v := ?_) [0] (by kernel_rfl) rfl (fun _ _ _ h => h) (by rfl) ?_ hC hS ?_
  rotate_left
  · intro w hSw
    (try dsimp only at hSw)
    go_simp
    (try with_reducible rfl)
  clear hC
  intro hC
  try simp only [Act.put, List.setIfInBounds_toArray, List.set_cons_zero, List.set_cons_succ]
  refine anyE_one (i := 1) (by kernel_rfl) hC rfl (fun K hK => ?_)
  clear hC
  go_simp
  (refine (comma_any _).mono ?_; rintro e1 wa1 ⟨q1, rfl, hq1, hb1⟩; have hb2 : Below w1.heap.size w1 wa1 := ((Below.refl w1.heap.size w1).drew).trans hb1; have cNa1 : wa1.cell? ⟨N + 5, 0, none⟩ = some (.func (.func 25) #[] #[.pointer (some ⟨N + 2, 0, none⟩)]) := (hb2.cell (p := ⟨N + 5, 0, none⟩) HLN1.out).trans cN1; have HQ1 := Lib.hid (And.intro hq1 hb2); clear hq1 hb1 hb2; unfold ptr)
  refine hK.out _ _ ?_ ?_
  · (try dsimp only); exact cNa1
  clear hS
  intro hS hC
  clear hK K
  try simp only [Act.put, List.setIfInBounds_toArray, List.set_cons_zero, List.set_cons_succ]
  refine anyE_last (by kernel_rfl) rfl (by kernel_rfl) (fun K hK => ?_)
  clear hC
  go_simp
  (go_at_call 25; refine (addLit_any2 N T (.iface 76 (.pointer (some ⟨b, 0, none⟩)) :: xs) (.brace false ess :: ys) wa1 q1 cm (HM1.out.1.below HQ1.out.2) HQ1.out.1 (by have := HLN.out; omega)).mono ?_; rintro e2 w2 ⟨rfl, h9, s9, kb9⟩)
  refine hK.out _ _ ?_
  clear hK K hS
  refine NoPanic.normal ?_
  try simp only [Act.put, List.setIfInBounds_toArray, List.set_cons_zero, List.set_cons_succ]
  have HM2 := Lib.hid (And.intro h9 (And.intro (HM1.out.2.1.trans ((Still.of_below HQ1.out.2 (by have := HLN1.out; omega)).trans s9)) (HM1.out.2.2.trans ((KeepB.of_below HQ1.out.2).trans kb9))))
  clear cN1 cNa1 HQ1 HLN1 h9 s9 kb9
  clear ce hi0 cq
  obtain ⟨hs, hsb, hst, hxy⟩ := HM2.out.1
  have ha := hsb.words _ (acc_mem hs)
  obtain ⟨ac, hac⟩ : ∃ ac, hs.acc = ac := ⟨_, rfl⟩
  rw [hac] at ha
  have cb2 : w2.cell? ⟨N + 2, 0, none⟩ = some (.pointer (some ⟨ac.blk, 0, none⟩)) := by rw [Lib.cell_of_heap hsb.b2, hac]; rfl
  have cac : w2.cell? ⟨ac.blk, 0, none⟩ = some ac.v := by rw [Lib.cell_of_heap ha.blk]; rfl
  have sac : ac.blk < w2.heap.size := (Array.getElem?_eq_some_iff.1 ha.blk).1
  have hN7 := hsb.lt
  have hcl : ac.vals.length = ((T.push [.lit cm])).cur.length := by rw [← hst, st_cur, ← hac]; exact (hsb.words _ (acc_mem hs)).parts.length
  have HA := Lib.hid (And.intro hsb (And.intro hxy (And.intro hac (And.intro ha hst))))
  have hkb := HM2.out.2.2
  have br := brace_lies2 hxy (hkb _ _ _ _ HB.out (by decide) (by decide))
  obtain ⟨p9, v0, vals0, ce9, hp0, hrow, hpar⟩ := br.elt i es HE.out
  have hp9 : p9 = p0 := by
    obtain ⟨cc, hcc⟩ := HCE.out.2
    have h1 := HCE.out.1
    rw [Lib.cell_of_heap hcc] at h1
    rw [Lib.cell_of_heap (hkb _ _ _ _ hcc (by decide) (by decide))] at ce9
    rw [h1] at ce9
    simp only [Option.some.injEq, Value.pointer.injEq, Addr.mk.injEq, and_true] at ce9
    exact ce9.symm
  subst hp9
  have c0 : w2.cell? ⟨p9, 0, none⟩ = some v0 := by rw [Lib.cell_of_heap hp0]; rfl
  have HBR := Lib.hid (And.intro br hp0)
  have HNW := Lib.hid (show News w2.drew v0 vals0.length vals0 from hrow.news)
  have HAL := Lib.hid (show ac.vals.length + vals0.length ≤ 100000000 by
    rw [hcl, hpar.length, cur_push]
    simp only [List.length_append, List.length_cons, List.length_nil]
    have := HLN.out
    omega)
  have HEL := Lib.hid hpar
  clear hsb hxy ha hcl hst br hac ce9 hp0 hrow hpar hkb
  go_upto_region 114 with fail
  refine region_anyE (fun w' => w'.cell? ⟨N + 2, 0, none⟩ = some (.pointer (some ⟨ac.blk, 0, none⟩)) ∧ w'.cell? ⟨ac.blk, 0, none⟩ = some ac.v ∧ w'.cell? ⟨p9, 0, none⟩ = some (v0)) 12 (by kernel_rfl) ?_ (fun hS hC => ?_)
  · (try dsimp only); go_keep
  refine anyE_take (i := 0) (v := ?_) [0] (by kernel_rfl) rfl (fun _ _ _ h => h) (by rfl) ?_ hC hS ?_
  rotate_left
  · intro w hSw
    (try dsimp only at hSw)
    go_simp
    (try with_reducible rfl)
  clear hC
  intro hC
  try simp only [Act.put, List.setIfInBounds_toArray, List.set_cons_zero, List.set_cons_succ]
  refine anyE_take (i := 1) (v := ?_) [1] (by kernel_rfl) rfl (fun _ _ _ h => h) (by rfl) ?_ hC hS ?_
  rotate_left
  · intro w hSw
    (try dsimp only at hSw)
    go_simp
    (try with_reducible rfl)
  clear hC
  intro hC
  try simp only [Act.put, List.setIfInBounds_toArray, List.set_cons_zero, List.set_cons_succ]
  refine anyE_take (i := 2) (v := ?_) [2] (by kernel_rfl) rfl (fun _ _ _ h => h) (by rfl) ?_ hC hS ?_
  rotate_left
  · intro w hSw
    (try dsimp only at hSw)
    go_simp
    (try with_reducible rfl)
  clear hC
  intro hC
  try simp only [Act.put, List.setIfInBounds_toArray, List.set_cons_zero, List.set_cons_succ]
  refine anyE_take (i := 3) (v := ?_) [3] (by kernel_rfl) rfl (fun _ _ _ h => h) (by rfl) ?_ hC hS ?_
  rotate_left
  · intro w hSw
    (try dsimp only at hSw)
    go_simp
    (try with_reducible rfl)
  clear hC
  intro hC
  try simp only [Act.put, List.setIfInBounds_toArray, List.set_cons_zero, List.set_cons_succ]
  refine anyE_take (i := 4) (v := ?_) [4] (by kernel_rfl) rfl (fun _ _ _ h => h) (by rfl) ?_ hC hS ?_
  rotate_left
  · intro w hSw
    (try dsimp only at hSw)
    go_simp
    (try with_reducible rfl)
  clear hC
  intro hC
  try simp only [Act.put, List.setIfInBounds_toArray, List.set_cons_zero, List.set_cons_succ]
  refine anyE_take (i := 5) (v := ?_) [5] (by kernel_rfl) rfl (fun _ _ _ h => h) (by rfl) ?_ hC hS ?_
  rotate_left
  · intro w hSw
    (try dsimp only at hSw)
    go_simp
    (try with_reducible rfl)
  clear hC
  intro hC
  try simp only [Act.put, List.setIfInBounds_toArray, List.set_cons_zero, List.set_cons_succ]
  refine anyE_take (i := 6) (v := ?_) [6] (by kernel_rfl) rfl (fun _ _ _ h => h) (by rfl) ?_ hC hS ?_
  rotate_left
  · intro w hSw
    (try dsimp only at hSw)
    go_simp
    (try with_reducible rfl)
  clear hC
  intro hC
  try simp only [Act.put, List.setIfInBounds_toArray, List.set_cons_zero, List.set_cons_succ]
  refine anyE_take (i := 7) (v := ?_) [7] (by kernel_rfl) rfl (fun _ _ _ h => h) (by rfl) ?_ hC hS ?_
  rotate_left
  · intro w hSw
    (try dsimp only at hSw)
    go_simp
    (try with_reducible rfl)
  clear hC
  intro hC
  try simp only [Act.put, List.setIfInBounds_toArray, List.set_cons_zero, List.set_cons_succ]
  refine anyE_take (i := 8) (v := ?_) [8] (by kernel_rfl) rfl (fun _ _ _ h => h) (by rfl) ?_ hC hS ?_
  rotate_left
  · intro w hSw
    (try dsimp only at hSw)
    go_simp
    (try with_reducible rfl)
  clear hC
  intro hC
  try simp only [Act.put, List.setIfInBounds_toArray, List.set_cons_zero, List.set_cons_succ]
  refine anyE_one (i := 9) (by kernel_rfl) hC rfl (fun K hK => ?_)
  clear hC
  (refine step_append_row _ (by rfl) _ _ 31 (by rfl) (N + 6) 72 ib .nilIface 16 Tryd.underlying31 hib hb0 hb1 hb2 rfl ac.v ac.vals.length ac.vals (by rfl) HA.out.2.2.2.1.own.drew v0 vals0.length vals0 (by rfl) HNW.out rfl HEL.out.one (by have := HAL.out; unfold maxLen; omega) (by have := HAL.out; omega) (by show N + 6 ≤ w2.heap.size; omega) ?_; intro v8 wb hown8 hgrow8 hat8; obtain ⟨s8, n8, c8, rfl⟩ := own_slice hown8; have hc8 : wb.heap[ac.blk]? = some (.cells #[ac.v] 40 (0, 0)) := HA.out.2.2.2.1.grown (W := w2.drew) (fun _ _ => rfl) (Nat.le_refl _) hgrow8; have hb8 : wb.heap[N + 2]? = some (.cells #[ptr ac.blk] 38 (0, 0)) := HA.out.2.2.2.1.box (W := w2.drew) (fun _ _ => rfl) (Nat.le_refl _) hgrow8 (by omega) (by rw [← HA.out.2.2.1]; exact HA.out.1.b2); have y1 : wb.cell? ⟨ac.blk, 0, none⟩ = some ac.v := (Lib.cell_of_heap hc8 0).trans rfl; have y2 : wb.frozen? ⟨ac.blk, 0, none⟩ = false := Lib.frozen_of_heap hc8 0; have y3 : wb.cell? ⟨N + 2, 0, none⟩ = some (.pointer (some ⟨ac.blk, 0, none⟩)) := (Lib.cell_of_heap hb8 0).trans rfl; have l0 : wb.cell? ⟨p9, 0, none⟩ = some (v0) := ((cell_grown hgrow8 (HBR.out.2) HA.out.2.2.2.1.own.drew (by decide) 0)).trans c0; have H8 := Lib.hid (And.intro hown8 (And.intro hgrow8 hat8)); clear hown8 hgrow8 hat8 hc8 hb8)
  refine hK.out _ _ ?_ ?_
  · (try dsimp only); exact ⟨y3, y1, l0⟩
  clear hS
  intro hS hC
  clear hK K
  try simp only [Act.put, List.setIfInBounds_toArray, List.set_cons_zero, List.set_cons_succ]
  refine anyE_take (i := 10) (v := ?_) [11, 10] (by kernel_rfl) rfl (fun _ _ _ h => h) (by rfl) ?_ hC hS ?_
  rotate_left
  · intro w hSw
    (try dsimp only at hSw)
    go_simp
    (try with_reducible rfl)
  clear hC
  intro hC
  try simp only [Act.put, List.setIfInBounds_toArray, List.set_cons_zero, List.set_cons_succ]
  refine anyE_take (i := 11) (v := ?_) [11] (by kernel_rfl) rfl (fun _ _ _ h => h) (by rfl) ?_ hC hS ?_
  rotate_left
  · intro w hSw
    (try dsimp only at hSw)
    go_simp
    (try with_reducible rfl)
  clear hC
  intro hC
  try simp only [Act.put, List.setIfInBounds_toArray, List.set_cons_zero, List.set_cons_succ]
  refine anyE_last (by kernel_rfl) rfl (by kernel_rfl) (fun K hK => ?_)
  clear hC
  go_simp
  refine hK.out _ _ ?_
  clear hK K hS
  refine NoPanic.normal ?_
  try simp only [Act.put, List.setIfInBounds_toArray, List.set_cons_zero, List.set_cons_succ]
  obtain ⟨e8, s8, kb8⟩ := HA.out.1.row_end2 (W := w2.drew) HA.out.2.2.1 (us := vals0) HEL.out HA.out.2.1 ((Below.refl w2.heap.size w2).drew) H8.out.1 H8.out.2.1 H8.out.2.2
  rw [HA.out.2.2.2.2] at e8
  have HM3 := Lib.hid (And.intro e8 (And.intro (HM2.out.2.1.trans s8) (HM2.out.2.2.trans kb8)))
  clear kb8
  clear y1 y2 y3 H8 e8 s8 l0 c0 cb2 cac sac HA HAL HNW HEL
  generalize wb.setCell ⟨ac.blk, 0, none⟩ (.slice s8 n8 c8) = w3 at *
  go_wp2_with fail
  exact ⟨⟨⟨rfl, rfl, rfl, rfl, rfl, rfl, rfl, rfl, rfl, rfl⟩, rfl, rfl, rfl, rfl⟩, HM3.out.1, HM3.out.2.1, HM3.out.2.2 _ _ _ _ HB.out (by decide) (by decide)⟩

set_option maxRecDepth 1000000 in
set_option maxHeartbeats 2000000 in
theorem spillB_exit {N p b e n cap : Nat} {a : Act} (sf : SpB N p b e n cap n a) (hn : n ≤ 100000000) {w : World} (Q : Exit → Act → World → Prop) (hQ : ∀ a', SpB N p b e n cap n a' → Q (.exit 13) a' w) :
    Code.wp Tryd.prog (bodyOf 6) Q a w := by
  obtain ⟨fr, g432, g433, g434, g33⟩ := sf
  obtain ⟨f, hf, ht⟩ := frame_lit a.tmps fr.size
  obtain ⟨t, d⟩ := a
  have hd : d = [] := fr.defers
  subst hd
  have h0 := (hf 0).trans fr.s0
  have h2 := (hf 2).trans fr.s2
  have h3 := (hf 3).trans fr.s3
  have h4 := (hf 4).trans fr.s4
  have h5 := (hf 5).trans fr.s5
  have h6 := (hf 6).trans fr.s6
  have h7 := (hf 7).trans fr.s7
  have h8 := (hf 8).trans fr.s8
  replace g432 := (hf 432).trans g432
  replace g433 := (hf 433).trans g433
  replace g434 := (hf 434).trans g434
  replace g33 := (hf 33).trans g33
  simp only [h0, h2, h3, h4, h5, h6, h7, h8, g432, g433, g434, g33] at ht
  have ht2 : t = _ := ht
  subst ht2
  clear hf ht fr h0 h2 h3 h4 h5 h6 h7 h8 g432 g433 g434 g33
  have hz : (n : Int) ≤ 100000000 := by omega
  conv => arg 2; whnf
  unfold ptr
  go_wp2_with fail
  exact ⟨⟨rfl, rfl, rfl, rfl, rfl, rfl, rfl, rfl, rfl, rfl⟩, rfl, rfl, rfl, rfl⟩

theorem spillB_loopT {N p b e cap : Nat} {a : Act} {ess : List (List Part)} (sf : SpB N p b e ess.length cap 0 a) {w : World} {T : St} {xs : List Value} {ys : List Part} (hs : Sb N T (.iface 76 (.pointer (some ⟨b, 0, none⟩)) :: xs) (.brace true ess :: ys) w) (hB : w.heap[b]? = some (.cells #[.bool true, .slice (some ⟨e, 0, none⟩) ess.length cap] 80 (0, 0))) (hlen : T.cur.length + (sepBy dots ess).length ≤ 100000000) (hn : ess.length ≤ 100000000) (Q : Exit → Act → World → Prop)
    (hQ : ∀ a' w', SpB N p b e ess.length cap ess.length a' → Sb N (T.push (sepBy dots ess)) (.iface 76 (.pointer (some ⟨b, 0, none⟩)) :: xs) (.brace true ess :: ys) w' → Still N w w' → Q (.exit 13) a' w') :
    Code.wp Tryd.prog (Code.loop (bodyOf 6)) Q a w := by
  refine wp_loop_ghost (fun n a' w' => ∃ i, i ≤ ess.length ∧ n = ess.length - i ∧ SpB N p b e ess.length cap i a' ∧ Sb N (T.push (sepBy dots (ess.take i))) (.iface 76 (.pointer (some ⟨b, 0, none⟩)) :: xs) (.brace true ess :: ys) w' ∧ Still N w w' ∧ w'.heap[b]? = some (.cells #[.bool true, .slice (some ⟨e, 0, none⟩) ess.length cap] 80 (0, 0))) ess.length ⟨0, Nat.zero_le _, rfl, sf, by
    have e0 : T.push (sepBy dots (ess.take 0)) = T := by
      obtain ⟨top, stack⟩ := T
      cases stack <;> simp [St.push, sepBy]
    rw [e0]
    exact hs, Still.refl _ _, hB⟩ ?_
  rintro n a1 w1 ⟨i, hi, rfl, sf1, hs1, hk1, hB1⟩
  by_cases hlt : i < ess.length
  · obtain ⟨es, he⟩ : ∃ es, ess[i]? = some es := ⟨ess[i], List.getElem?_eq_getElem hlt⟩
    have hl2 := sepBy_take_len dots ess (i + 1)
    rcases Nat.eq_zero_or_pos i with rfl | hpos
    · rw [sepBy_zero _ _ _ he] at hl2
      have e0 : T.push (sepBy dots (ess.take 0)) = T := by
        obtain ⟨top, stack⟩ := T
        cases stack <;> simp [St.push, sepBy]
      rw [e0] at hs1
      refine Code.wp_mono ?_ (spillB_0 sf1 hs1 hk1 hB1 he (by omega) hn Q)
      intro ex a' w' hq
      cases ex with
      | normal =>
        refine ⟨ess.length - 1, by omega, 1, hlt, rfl, hq.1, ?_, hq.2.2.1, hq.2.2.2⟩
        have h2 := sepBy_zero dots ess es he
        rw [Nat.zero_add] at h2
        rw [h2]
        exact hq.2.1
      | exit id => exact hq
      | goto l => exact hq
      | ret => exact hq
      | panic ch => exact hq
      | outgrown => exact hq
    · have hst := sepBy_step dots ess i es hpos he
      rw [hst] at hl2
      simp only [List.length_append, List.length_cons, List.length_nil] at hl2
      refine Code.wp_mono ?_ (spillB_ST sf1 hs1 hk1 hB1 he hpos (by rw [cur_push, List.length_append]; omega) hn Q)
      intro ex a' w' hq
      cases ex with
      | normal =>
        refine ⟨ess.length - (i + 1), by omega, i + 1, hlt, rfl, hq.1, ?_, hq.2.2.1, hq.2.2.2⟩
        rw [hst, ← push_push, ← push_push]
        exact hq.2.1
      | exit id => exact hq
      | goto l => exact hq
      | ret => exact hq
      | panic ch => exact hq
      | outgrown => exact hq
  · have hi2 : i = ess.length := by omega
    subst hi2
    rw [List.take_length] at hs1
    exact spillB_exit sf1 hn _ (fun a' h => hQ a' w1 h hs1 hk1)

theorem spillB_loopF {N p b e cap : Nat} {a : Act} {ess : List (List Part)} (sf : SpB N p b e ess.length cap 0 a) {w : World} {T : St} {xs : List Value} {ys : List Part} (hs : Sb N T (.iface 76 (.pointer (some ⟨b, 0, none⟩)) :: xs) (.brace false ess :: ys) w) (hB : w.heap[b]? = some (.cells #[.bool false, .slice (some ⟨e, 0, none⟩) ess.length cap] 80 (0, 0))) (hlen : T.cur.length + (sepBy cm ess).length ≤ 100000000) (hn : ess.length ≤ 100000000) (Q : Exit → Act → World → Prop)
    (hQ : ∀ a' w', SpB N p b e ess.length cap ess.length a' → Sb N (T.push (sepBy cm ess)) (.iface 76 (.pointer (some ⟨b, 0, none⟩)) :: xs) (.brace false ess :: ys) w' → Still N w w' → Q (.exit 13) a' w') :
    Code.wp Tryd.prog (Code.loop (bodyOf 6)) Q a w := by
  refine wp_loop_ghost (fun n a' w' => ∃ i, i ≤ ess.length ∧ n = ess.length - i ∧ SpB N p b e ess.length cap i a' ∧ Sb N (T.push (sepBy cm (ess.take i))) (.iface 76 (.pointer (some ⟨b, 0, none⟩)) :: xs) (.brace false ess :: ys) w' ∧ Still N w w' ∧ w'.heap[b]? = some (.cells #[.bool false, .slice (some ⟨e, 0, none⟩) ess.length cap] 80 (0, 0))) ess.length ⟨0, Nat.zero_le _, rfl, sf, by
    have e0 : T.push (sepBy cm (ess.take 0)) = T := by
      obtain ⟨top, stack⟩ := T
      cases stack <;> simp [St.push, sepBy]
    rw [e0]
    exact hs, Still.refl _ _, hB⟩ ?_
  rintro n a1 w1 ⟨i, hi, rfl, sf1, hs1, hk1, hB1⟩
  by_cases hlt : i < ess.length
  · obtain ⟨es, he⟩ : ∃ es, ess[i]? = some es := ⟨ess[i], List.getElem?_eq_getElem hlt⟩
    have hl2 := sepBy_take_len cm ess (i + 1)
    rcases Nat.eq_zero_or_pos i with rfl | hpos
    · rw [sepBy_zero _ _ _ he] at hl2
      have e0 : T.push (sepBy cm (ess.take 0)) = T := by
        obtain ⟨top, stack⟩ := T
        cases stack <;> simp [St.push, sepBy]
      rw [e0] at hs1
      refine Code.wp_mono ?_ (spillB_0 sf1 hs1 hk1 hB1 he (by omega) hn Q)
      intro ex a' w' hq
      cases ex with
      | normal =>
        refine ⟨ess.length - 1, by omega, 1, hlt, rfl, hq.1, ?_, hq.2.2.1, hq.2.2.2⟩
        have h2 := sepBy_zero cm ess es he
        rw [Nat.zero_add] at h2
        rw [h2]
        exact hq.2.1
      | exit id => exact hq
      | goto l => exact hq
      | ret => exact hq
      | panic ch => exact hq
      | outgrown => exact hq
    · have hst := sepBy_step cm ess i es hpos he
      rw [hst] at hl2
      simp only [List.length_append, List.length_cons, List.length_nil] at hl2
      refine Code.wp_mono ?_ (spillB_SF sf1 hs1 hk1 hB1 he hpos (by rw [cur_push, List.length_append]; omega) hn Q)
      intro ex a' w' hq
      cases ex with
      | normal =>
        refine ⟨ess.length - (i + 1), by omega, i + 1, hlt, rfl, hq.1, ?_, hq.2.2.1, hq.2.2.2⟩
        rw [hst, ← push_push, ← push_push]
        exact hq.2.1
      | exit id => exact hq
      | goto l => exact hq
      | ret => exact hq
      | panic ch => exact hq
      | outgrown => exact hq
  · have hi2 : i = ess.length := by omega
    subst hi2
    rw [List.take_length] at hs1
    exact spillB_exit sf1 hn _ (fun a' h => hQ a' w1 h hs1 hk1)
end Go.Proofs.YtmcoifhiiagfpaaDoor
