/-
  A brace that has been taken off: what lies in memory. No walk here.
  One byte of a literal: the closing brace (a list).
  One byte of a literal: the closing brace (one element alone).
-/
import Derived.Test.YtmcoifhiiagfpaaDoorGe
namespace Go.Proofs.YtmcoifhiiagfpaaDoor
open Go.RowKit
set_option linter.unusedSectionVars false
variable [Pw]

/-- The words of a finished list. -/
theorem words_at {w : World} {L : Nat → Prop} : ∀ {ptrs : List Nat} {ess : List (List Part)}, WordsAt w L ptrs ess → ∀ (k : Nat) (es : List Part), ess[k]? = some es → ∃ p v vals, ptrs[k]? = some p ∧ w.heap[p]? = some (.cells #[v] 40 (0, 0)) ∧ RowAt w L v vals ∧ PartsAt w L vals es
  | _, _, .nil, k, es, h => by simp at h
  | _, _, .cons p v vals ps ptrs ess hp h1 h2 h3 h4, 0, es, h => by
    simp only [List.getElem?_cons_zero, Option.some.injEq] at h
    subst h
    exact ⟨p, v, vals, rfl, h1, h2, h3⟩
  | _, _, .cons p v vals ps ptrs ess hp h1 h2 h3 h4, k + 1, es, h => by
    rw [List.getElem?_cons_succ] at h
    exact words_at h4 k es h
theorem words_len {w : World} {L : Nat → Prop} : ∀ {ptrs : List Nat} {ess : List (List Part)}, WordsAt w L ptrs ess → ptrs.length = ess.length
  | _, _, .nil => rfl
  | _, _, .cons p v vals ps ptrs ess hp h1 h2 h3 h4 => by simp [words_len h4]

/-- A finished brace. -/
structure Br (w : World) (L : Nat → Prop) (b : Nat) (seq : Bool) (ess : List (List Part)) (e cap : Nat) : Prop where
  blk : w.heap[b]? = some (.cells #[.bool seq, .slice (some ⟨e, 0, none⟩) ess.length cap] 80 (0, 0))
  cap : ess.length ≤ cap
  ety : ∃ c, w.heap[e]? = some (.cells c 38 (0, 0))
  elt : ∀ (k : Nat) (es : List Part), ess[k]? = some es → ∃ p v vals, w.cell? ⟨e, k, none⟩ = some (.pointer (some ⟨p, 0, none⟩)) ∧ w.heap[p]? = some (.cells #[v] 40 (0, 0)) ∧ RowAt w L v vals ∧ PartsAt w L vals es
theorem part_brace {w : World} {L : Nat → Prop} {x : Value} {seq : Bool} {ess : List (List Part)} (h : PartAt w L x (.brace seq ess)) : ∃ b e cap, x = .iface 76 (ptr b) ∧ Br w L b seq ess e cap := by
  cases h with
  | brace b e cap cur _ ptrs _ hb he h1 h2 h3 h4 =>
    refine ⟨b, e, cap, rfl, ?_, ?_, ⟨cur, h2⟩, fun k es hk => ?_⟩
    · rw [← words_len h4]
      exact h1
    · rw [← words_len h4]
      exact h3.2
    · obtain ⟨p, v, vals, hp, a1, a2, a3⟩ := words_at h4 k es hk
      refine ⟨p, v, vals, ?_, a1, a2, a3⟩
      have hkl : k < ptrs.length := (List.getElem?_eq_some_iff.1 hp).1
      have h5 : (cur.toList.take ptrs.length)[k]? = some (Value.pointer (some ⟨p, 0, none⟩)) := by
        rw [h3.1, List.getElem?_map, hp]
        rfl
      rw [List.getElem?_take_of_lt hkl] at h5
      rw [Lib.cell_of_heap h2]
      simpa using h5
theorem brace_lies {w : World} {L : Nat → Prop} {b : Nat} {seq : Bool} {ess : List (List Part)} {xs : List Value} {ys : List Part} (h : PartsAt w L (.iface 76 (ptr b) :: xs) (.brace seq ess :: ys)) : ∃ e cap, Br w L b seq ess e cap := by
  cases h with
  | cons _ _ _ _ h1 _ =>
    obtain ⟨b', e, cap, hx, hb⟩ := part_brace h1
    simp only [ptr, Value.iface.injEq, true_and, Value.pointer.injEq, Option.some.injEq, Addr.mk.injEq, and_true] at hx
    subst hx
    exact ⟨e, cap, hb⟩
theorem parts_head {w : World} {L : Nat → Prop} {x : Value} {p : Part} {xs : List Value} {ys : List Part} (h : PartsAt w L (x :: xs) (p :: ys)) : PartAt w L x p ∧ PartsAt w L xs ys := by
  cases h with
  | cons _ _ _ _ h1 h2 => exact ⟨h1, h2⟩
theorem Sb.tail {N : Nat} {st : St} {x : Value} {p : Part} {xs : List Value} {ys : List Part} {w : World} (h : Sb N st (x :: xs) (p :: ys) w) : Sb N st xs ys w := by
  obtain ⟨hs, h1, h2, h3⟩ := h
  exact ⟨hs, h1, h2, (parts_head h3).2⟩
theorem cur_push (st : St) (a : List Part) : (st.push a).cur = st.cur ++ a := by
  obtain ⟨top, stack⟩ := st
  cases stack <;> rfl
theorem own_ne {w : World} {base n : Nat} {v : Value} {xs : List Value} (h : w.ownsRow base 72 1 v n xs) {k : Nat} {c : Array Value} {T : TypeId} {fz : Nat × Nat} (hk : w.heap[k]? = some (.cells c T fz)) (hT : T ≠ 72) : some k ≠ v.ownBlock := fun e => by
  obtain ⟨_, c', hc⟩ := own_block h e.symm
  rw [hk] at hc
  simp only [Option.some.injEq, Obj.cells.injEq] at hc
  exact hT hc.2.1
theorem cell_grown {W w1 : World} {base n : Nat} {v : Value} {xs : List Value} (hg : W.grownBy w1 v.ownBlock) {k : Nat} {c : Array Value} {T : TypeId} {fz : Nat × Nat} (hk : W.heap[k]? = some (.cells c T fz)) (ho : W.ownsRow base 72 1 v n xs) (hT : T ≠ 72) (o : Nat) : w1.cell? ⟨k, o, none⟩ = W.cell? ⟨k, o, none⟩ := by
  have h1 : w1.heap[k]? = some (.cells c T fz) := (hg.block k (Array.getElem?_eq_some_iff.1 hk).1 (own_ne ho hk hT)).trans hk
  rw [Lib.cell_of_heap h1, Lib.cell_of_heap hk]
theorem push_push (st : St) (a b : List Part) : (st.push a).push b = st.push (a ++ b) := by
  obtain ⟨top, stack⟩ := st
  cases stack <;> simp [St.push]
end Go.Proofs.YtmcoifhiiagfpaaDoor

namespace Go.Proofs.YtmcoifhiiagfpaaDoor
open Go.RowKit
set_option linter.unusedSectionVars false
variable [Pw]

set_option linter.unusedSimpArgs false in
set_option maxRecDepth 1000000 in
set_option maxHeartbeats 2000000 in
theorem byte_closeB {N p : Nat} {c50 c51 c52 : Value} {lx la jb : Nat} {a : Act} (fr : Fr N p c50 c51 c52 lx la jb a) {v : ByteArray} {q j last : Nat} {st : St} {xs : List Value} {ys : List Part} {w0 w : World} (m : In N v q lx la jb j last st xs ys w0 w) (hj : j < v.size) (hv : v.size ≤ 100000000)
    (hc : bt v j = 125) (fr0 : Frame) (r0 : List Frame) (hst : st.stack = fr0 :: r0) (hl : last ≤ j) (hcur : st.cur.length ≤ 100000000) (f6 : Frame) (r6 : List Frame) (hst6 : (st.flush v last j).stack = f6 :: r6) (hsq : f6.seq = false) (h6d : f6.done.length ≤ 100000000) (h6n : f6.done ≠ []) (hcu : (⟨(st.flush v last j).top, r6⟩ : St).cur.length ≤ 100000000) (Q0 : Exit → Act → World → Prop) :
    Code.wp Tryd.prog (bodyOf 1) (Exit.then (fun a' w' => ∃ jb', Fr N p c50 c51 c52 lx la jb' a' ∧ In N v q lx la jb' (j + 1) (j + 1) (({ (st.flush v last j) with stack := r6 } : St).push [.brace false f6.elems]) xs ys w0 w') Q0) a w := by
  obtain ⟨f, hf, ht⟩ := frame_lit a.tmps fr.size
  obtain ⟨t, d⟩ := a
  have hd : d = [] := fr.defers
  subst hd
  have h0 := (hf 0).trans fr.s0
  have h2 := (hf 2).trans fr.s2
  have h3 := (hf 3).trans fr.s3
  have h4 := (hf 4).trans fr.s4
  have h5 := (hf 5).trans fr.s5
  have h6 := (hf 6).trans fr.s6
  have h7 := (hf 7).trans fr.s7
  have h8 := (hf 8).trans fr.s8
  have h11 := (hf 11).trans fr.s11
  have h13 := (hf 13).trans fr.s13
  have h14 := (hf 14).trans fr.s14
  have h50 := (hf 50).trans fr.s50
  have h51 := (hf 51).trans fr.s51
  have h52 := (hf 52).trans fr.s52
  simp only [h0, h2, h3, h4, h5, h6, h7, h8, h11, h13, h14, h50, h51, h52] at ht
  have ht2 : t = _ := ht
  subst ht2
  clear hf ht fr h0 h2 h3 h4 h5 h6 h7 h8 h11 h13 h14 h50 h51 h52
  obtain ⟨x1, x2, x3, x4, hqb⟩ := m.lit
  have bx := m.bx
  have bl := m.bl
  have bj := m.bj
  have cj : w.cell? ⟨jb, 0, none⟩ = some (.int .i64 j) := by rw [Lib.cell_of_heap bj]; rfl
  have cx : w.cell? ⟨lx, 0, none⟩ = some (.pointer (some ⟨q, 0, none⟩)) := by rw [Lib.cell_of_heap bx]; rfl
  have q4 : w.cell? ⟨q, 4, none⟩ = some (.string v) := by rw [Lib.cell_of_heap hqb]; rfl
  have zj : w.frozen? ⟨jb, 0, none⟩ = false := Lib.frozen_of_heap bj 0
  have sj : jb < w.heap.size := (Array.getElem?_eq_some_iff.1 bj).1
  have hz : (j : Int) < (v.size : Int) ∧ (v.size : Int) ≤ 100000000 := by omega
  obtain ⟨bb, cn⟩ : ∃ bb : Nat, w.cell? ⟨N + 3, 0, none⟩ = some (.pointer (some ⟨bb, 0, none⟩)) := by
    obtain ⟨hs, h1, h2, _⟩ := m.sb
    obtain ⟨top, frames, ov⟩ := hs
    cases frames with
    | nil =>
      rw [← h2] at hst
      simp [HS.st] at hst
    | cons hf hr =>
      refine ⟨hf.blk, ?_⟩
      rw [Lib.cell_of_heap h1.b3]
      rfl
  have hg : (v[j]'hj).toNat = 125 := by rw [← bt_get v j hj]; exact hc
  have M := Lib.hid m
  clear hqb bx bl bj m hst hc
  conv => arg 2; whnf
  unfold ptr
  go_upto_region 17 with fail
  go_quiet (fail)
  have e6 : (w.drewN nq).cell? ⟨N + 3, 0, none⟩ = some (.pointer (some ⟨bb, 0, none⟩)) := cn
  have e1 : (w.drewN nq).cell? ⟨jb, 0, none⟩ = some (.int .i64 j) := cj
  have e2 : (w.drewN nq).cell? ⟨lx, 0, none⟩ = some (.pointer (some ⟨q, 0, none⟩)) := cx
  have e3 : (w.drewN nq).cell? ⟨q, 4, none⟩ = some (.string v) := q4
  have e4 : (w.drewN nq).frozen? ⟨jb, 0, none⟩ = false := zj
  have e5 : jb < (w.drewN nq).heap.size := sj
  have HD := Lib.hid (below_drewN (Below.refl w.heap.size w) nq)
  generalize w.drewN nq = w1 at *
  clear cj cx q4 zj sj cn
  go_upto_region 20 with fail
  go_quiet (fail)
  have g6 : (w1.drewN nq).cell? ⟨N + 3, 0, none⟩ = some (.pointer (some ⟨bb, 0, none⟩)) := e6
  have HD3 := Lib.hid (HD.out.trans (below_drewN (Below.refl w.heap.size w1) nq))
  generalize w1.drewN nq = w3 at *
  clear e1 e2 e3 e4 e5 e6
  have HM3 := Lib.hid (M.out.grow HD3.out)
  have HCALL := Lib.hid (addIdx_any N la jb lx q st xs ys w3 v last j HM3.out.sb HM3.out.bl HM3.out.bj HM3.out.bx HM3.out.lit hl (by omega) hv hcur)
  have HST6 := Lib.hid hst6
  clear hl hcur hst6
  go_upto_region 56 with (go_at_call 26; refine (HCALL.out).mono ?_; rintro e w6 ⟨rfl, h6, h6s⟩)
  have HM6 := Lib.hid (HM3.out.state h6 h6s)
  have HPOP := Lib.hid (pop_any N (st.flush v last j) f6 r6 xs ys w6 (by rw [← HST6.out]; exact h6))
  clear h6 h6s HCALL g6
  go_upto_region 57 with (go_at_call 24; refine (HPOP.out).mono ?_; rintro e w7 hp7; obtain ⟨b, rfl, h7, s7⟩ := hp7; unfold ptr)
  obtain ⟨T7, hT7⟩ : ∃ T7, (⟨(st.flush v last j).top, r6⟩ : St) = T7 := ⟨_, rfl⟩
  rw [hT7] at h7
  have HT7 := Lib.hid hT7
  have HM7 := Lib.hid (HM6.out.state h7 s7)
  clear hT7 HPOP s7
  rw [HT7.out] at hcu
  rw [hsq] at h7
  have hel : f6.elems.length = f6.done.length + 1 := by simp [Frame.elems]
  obtain ⟨hs, hsb, hst, hxy⟩ := h7
  have ha := hsb.words _ (acc_mem hs)
  obtain ⟨ac, hac⟩ : ∃ ac, hs.acc = ac := ⟨_, rfl⟩
  rw [hac] at ha
  have cb2 : w7.cell? ⟨N + 2, 0, none⟩ = some (.pointer (some ⟨ac.blk, 0, none⟩)) := by rw [Lib.cell_of_heap hsb.b2, hac]; rfl
  have cac : w7.cell? ⟨ac.blk, 0, none⟩ = some ac.v := by rw [Lib.cell_of_heap ha.blk]; rfl
  have sac : ac.blk < w7.heap.size := (Array.getElem?_eq_some_iff.1 ha.blk).1
  have hN7 := hsb.lt
  have hcl : ac.vals.length = (T7).cur.length := by rw [← hst, st_cur, ← hac]; exact (hsb.words _ (acc_mem hs)).parts.length
  have HA := Lib.hid (And.intro hsb (And.intro hxy (And.intro hac (And.intro ha hst))))
  obtain ⟨e, ecap, br⟩ := brace_lies hxy
  have cb0 : w7.cell? ⟨b, 0, none⟩ = some (.bool false) := by rw [Lib.cell_of_heap br.blk]; rfl
  have cb1 : w7.cell? ⟨b, 1, none⟩ = some (.slice (some ⟨e, 0, none⟩) f6.elems.length ecap) := by rw [Lib.cell_of_heap br.blk]; rfl
  have HBR := Lib.hid br
  have HAL := Lib.hid (show ac.vals.length ≤ 100000000 by rw [hcl]; exact hcu)
  have z1 : ((f6.elems.length : Int) == 1) = false := by
    have hp : 0 < f6.done.length := List.length_pos_iff.2 h6n
    simp
    omega
  obtain ⟨ib, hib, hb0, hb1, hb2⟩ := info_parts Tryd.info_part
  clear hsb hxy ha hcl hst br hcu h6n h6d hel hac hsq
  go_upto_region 62 with fail
  refine region_anyE (fun w' => w'.cell? ⟨N + 2, 0, none⟩ = some (.pointer (some ⟨ac.blk, 0, none⟩)) ∧ w'.cell? ⟨ac.blk, 0, none⟩ = some ac.v) 11 (by kernel_rfl) ?_ (fun hS hC => ?_)
  · (try dsimp only); go_keep
  refine anyE_take (i := 0) (v := ?_) [0] (by kernel_rfl) rfl (fun _ _ _ h => h) (by rfl) ?_ hC hS ?_
  rotate_left
  · intro w hSw
    (try dsimp only at hSw)
    go_simp
    (try with_reducible rfl)
  clear hC
  intro hC
  try simp only [Act.put, List.setIfInBounds_toArray, List.set_cons_zero, List.set_cons_succ]
  refine anyE_take (i := 1) (v := ?_) [1] (by kernel_rfl) rfl (fun _ _ _ h => h) (by rfl) ?_ hC hS ?_
  rotate_left
  · intro w hSw
    (try dsimp only at hSw)
    go_simp
    (try with_reducible rfl)
  clear hC
  intro hC
  try simp only [Act.put, List.setIfInBounds_toArray, List.set_cons_zero, List.set_cons_succ]
  refine anyE_take (i := 2) (v := ?_) [2] (by kernel_rfl) rfl (fun _ _ _ h => h) (by rfl) ?_ hC hS ?_
  rotate_left
  · intro w hSw
    (try dsimp only at hSw)
    go_simp
    (try with_reducible rfl)
  clear hC
  intro hC
  try simp only [Act.put, List.setIfInBounds_toArray, List.set_cons_zero, List.set_cons_succ]
  refine anyE_take (i := 3) (v := ?_) [3] (by kernel_rfl) rfl (fun _ _ _ h => h) (by rfl) ?_ hC hS ?_
  rotate_left
  · intro w hSw
    (try dsimp only at hSw)
    go_simp
    (try with_reducible rfl)
  clear hC
  intro hC
  try simp only [Act.put, List.setIfInBounds_toArray, List.set_cons_zero, List.set_cons_succ]
  refine anyE_take (i := 4) (v := ?_) [4] (by kernel_rfl) rfl (fun _ _ _ h => h) (by rfl) ?_ hC hS ?_
  rotate_left
  · intro w hSw
    (try dsimp only at hSw)
    go_simp
    (try with_reducible rfl)
  clear hC
  intro hC
  try simp only [Act.put, List.setIfInBounds_toArray, List.set_cons_zero, List.set_cons_succ]
  refine anyE_take (i := 5) (v := ?_) [5] (by kernel_rfl) rfl (fun _ _ _ h => h) (by rfl) ?_ hC hS ?_
  rotate_left
  · intro w hSw
    (try dsimp only at hSw)
    go_simp
    (try with_reducible rfl)
  clear hC
  intro hC
  try simp only [Act.put, List.setIfInBounds_toArray, List.set_cons_zero, List.set_cons_succ]
  refine anyE_take (i := 6) (v := ?_) [6] (by kernel_rfl) rfl (fun _ _ _ h => h) (by rfl) ?_ hC hS ?_
  rotate_left
  · intro w hSw
    (try dsimp only at hSw)
    go_simp
    (try with_reducible rfl)
  clear hC
  intro hC
  try simp only [Act.put, List.setIfInBounds_toArray, List.set_cons_zero, List.set_cons_succ]
  refine anyE_one (i := 7) (by kernel_rfl) hC rfl (fun K hK => ?_)
  clear hC
  go_simp
  refine hK.out _ _ ?_ ?_
  · (try dsimp only); go_keep
  clear hS
  intro hS hC
  clear hK K
  try simp only [Act.put, List.setIfInBounds_toArray, List.set_cons_zero, List.set_cons_succ]
  refine anyE_one (i := 8) (by kernel_rfl) hC rfl (fun K hK => ?_)
  clear hC
  (refine step_append_lies _ (by rfl) _ _ 31 (by rfl) (N + 6) 72 ib .nilIface 1 16 Tryd.underlying31 hib hb0 hb1 hb2 rfl (by decide) _ _ _ (by rfl) ((HA.out.2.2.2.1.own.alloc _).drew) ⟨w7.heap.size, 0, none⟩ 1 1 [.iface 76 (.pointer (some ⟨b, 0, none⟩))] (by rfl) (by rfl) (World.news_of_block (cs := #[.iface 76 (.pointer (some ⟨b, 0, none⟩))]) (t := 72) (fr := (0, 0)) (heap_alloc_new w7 _)) (by simp [Value.oneCell']) (by decide) (by have := HAL.out; unfold maxLen; omega) (by have := HAL.out; omega) (by rw [alloc_size]; omega) (w7.heap.size + 1) (by simp) ?_; intro g8 cap8 w8 hown8 hgrow8 hat8 _; have hc8 : w8.heap[ac.blk]? = some (.cells #[ac.v] 40 (0, 0)) := HA.out.2.2.2.1.grown (alloc_kept w7 _) (by rw [alloc_size]; omega) hgrow8; have hb8 : w8.heap[N + 2]? = some (.cells #[ptr ac.blk] 38 (0, 0)) := HA.out.2.2.2.1.box (alloc_kept w7 _) (by rw [alloc_size]; omega) hgrow8 (by omega) (by rw [← HA.out.2.2.1]; exact HA.out.1.b2); have y1 : w8.cell? ⟨ac.blk, 0, none⟩ = some ac.v := (Lib.cell_of_heap hc8 0).trans rfl; have y2 : w8.frozen? ⟨ac.blk, 0, none⟩ = false := Lib.frozen_of_heap hc8 0; have y3 : w8.cell? ⟨N + 2, 0, none⟩ = some (.pointer (some ⟨ac.blk, 0, none⟩)) := (Lib.cell_of_heap hb8 0).trans rfl; have H8 := Lib.hid (And.intro hown8 (And.intro hgrow8 hat8)); clear hown8 hgrow8 hat8 hc8 hb8)
  refine hK.out _ _ ?_ ?_
  · (try dsimp only); exact ⟨y3, y1⟩
  clear hS
  intro hS hC
  clear hK K
  try simp only [Act.put, List.setIfInBounds_toArray, List.set_cons_zero, List.set_cons_succ]
  refine anyE_take (i := 9) (v := ?_) [10, 9] (by kernel_rfl) rfl (fun _ _ _ h => h) (by rfl) ?_ hC hS ?_
  rotate_left
  · intro w hSw
    (try dsimp only at hSw)
    go_simp
    (try with_reducible rfl)
  clear hC
  intro hC
  try simp only [Act.put, List.setIfInBounds_toArray, List.set_cons_zero, List.set_cons_succ]
  refine anyE_take (i := 10) (v := ?_) [10] (by kernel_rfl) rfl (fun _ _ _ h => h) (by rfl) ?_ hC hS ?_
  rotate_left
  · intro w hSw
    (try dsimp only at hSw)
    go_simp
    (try with_reducible rfl)
  clear hC
  intro hC
  try simp only [Act.put, List.setIfInBounds_toArray, List.set_cons_zero, List.set_cons_succ]
  refine anyE_last (by kernel_rfl) rfl (by kernel_rfl) (fun K hK => ?_)
  clear hC
  go_simp
  refine hK.out _ _ ?_
  clear hK K hS
  refine NoPanic.normal ?_
  try simp only [Act.put, List.setIfInBounds_toArray, List.set_cons_zero, List.set_cons_succ]
  obtain ⟨e8, s8⟩ := HA.out.1.push_end HA.out.2.2.1 (us := [.iface 76 (.pointer (some ⟨b, 0, none⟩))]) (qs := [.brace false f6.elems]) (.cons _ _ _ _ (parts_head HA.out.2.1).1 .nil) (parts_head HA.out.2.1).2 (((Below.refl w7.heap.size w7).alloc (Nat.le_refl _) _).drew) H8.out.1 H8.out.2.1 (by
    rcases H8.out.2.2 with e1 | e1
    · exact Or.inl e1
    · exact Or.inr (by rw [e1, alloc_size]))
  rw [HA.out.2.2.2.2, ← HT7.out] at e8
  have HM20 := Lib.hid (HM7.out.state e8 s8)
  clear y1 y2 y3 H8 e8 s8
  generalize w8.setCell ⟨ac.blk, 0, none⟩ (.slice (some ⟨g8, 0, none⟩) (ac.vals.length + 1) cap8) = w20 at *
  clear z1 cb0 cb1 cb2 cac sac hN7
  have hbj := HM20.out.bj
  have hbl := HM20.out.bl
  have k1 : w20.cell? ⟨jb, 0, none⟩ = some (.int .i64 (j : Int)) := by rw [Lib.cell_of_heap hbj]; rfl
  have k2 : w20.cell? ⟨la, 0, none⟩ = some (.int .i64 last) := by rw [Lib.cell_of_heap hbl]; rfl
  have k3 : w20.frozen? ⟨la, 0, none⟩ = false := Lib.frozen_of_heap hbl 0
  have k4 : jb < w20.heap.size := (Array.getElem?_eq_some_iff.1 hbj).1
  have k5 : la < w20.heap.size := (Array.getElem?_eq_some_iff.1 hbl).1
  clear hbj hbl
  have hms := HM20.out.setl (j + 1)
  rw [Int.natCast_add, Int.natCast_one] at hms
  have HM21 := Lib.hid hms
  clear hms
  go_upto_region 96 with fail
  have k6 : (w20.setCell ⟨la, 0, none⟩ (.int .i64 ((j : Int) + 1))).cell? ⟨jb, 0, none⟩ = some (.int .i64 (j : Int)) := by have := HM21.out.bj; rw [Lib.cell_of_heap this]; rfl
  generalize w20.setCell ⟨la, 0, none⟩ (.int .i64 ((j : Int) + 1)) = w22 at *
  clear k1 k2 k3 k4 k5
  go_wp2_with fail
  have hn := HM21.out.next (Below.refl _ _) (j + 1)
  rw [Int.natCast_add, Int.natCast_one] at hn
  exact ⟨_, ⟨rfl, rfl, rfl, rfl, rfl, rfl, rfl, rfl, rfl, rfl, rfl, rfl, rfl, rfl, rfl, rfl⟩, hn⟩
end Go.Proofs.YtmcoifhiiagfpaaDoor

namespace Go.Proofs.YtmcoifhiiagfpaaDoor
open Go.RowKit
set_option linter.unusedSectionVars false
variable [Pw]

set_option linter.unusedSimpArgs false in
set_option maxRecDepth 1000000 in
set_option maxHeartbeats 2000000 in
theorem byte_closeA {N p : Nat} {c50 c51 c52 : Value} {lx la jb : Nat} {a : Act} (fr : Fr N p c50 c51 c52 lx la jb a) {v : ByteArray} {q j last : Nat} {st : St} {xs : List Value} {ys : List Part} {w0 w : World} (m : In N v q lx la jb j last st xs ys w0 w) (hj : j < v.size) (hv : v.size ≤ 100000000)
    (hc : bt v j = 125) (fr0 : Frame) (r0 : List Frame) (hst : st.stack = fr0 :: r0) (hl : last ≤ j) (hcur : st.cur.length ≤ 100000000) (f6 : Frame) (r6 : List Frame) (hst6 : (st.flush v last j).stack = f6 :: r6) (h6n : f6.done = []) (hcu : ((⟨(st.flush v last j).top, r6⟩ : St).push ([.lit lb] ++ f6.acc ++ [.lit rb])).cur.length ≤ 100000000) (Q0 : Exit → Act → World → Prop) :
    Code.wp Tryd.prog (bodyOf 1) (Exit.then (fun a' w' => ∃ jb', Fr N p c50 c51 c52 lx la jb' a' ∧ In N v q lx la jb' (j + 1) (j + 1) (({ (st.flush v last j) with stack := r6 } : St).push ([.lit lb] ++ f6.acc ++ [.lit rb])) xs ys w0 w') Q0) a w := by
  obtain ⟨f, hf, ht⟩ := frame_lit a.tmps fr.size
  obtain ⟨t, d⟩ := a
  have hd : d = [] := fr.defers
  subst hd
  have h0 := (hf 0).trans fr.s0
  have h2 := (hf 2).trans fr.s2
  have h3 := (hf 3).trans fr.s3
  have h4 := (hf 4).trans fr.s4
  have h5 := (hf 5).trans fr.s5
  have h6 := (hf 6).trans fr.s6
  have h7 := (hf 7).trans fr.s7
  have h8 := (hf 8).trans fr.s8
  have h11 := (hf 11).trans fr.s11
  have h13 := (hf 13).trans fr.s13
  have h14 := (hf 14).trans fr.s14
  have h50 := (hf 50).trans fr.s50
  have h51 := (hf 51).trans fr.s51
  have h52 := (hf 52).trans fr.s52
  simp only [h0, h2, h3, h4, h5, h6, h7, h8, h11, h13, h14, h50, h51, h52] at ht
  have ht2 : t = _ := ht
  subst ht2
  clear hf ht fr h0 h2 h3 h4 h5 h6 h7 h8 h11 h13 h14 h50 h51 h52
  obtain ⟨x1, x2, x3, x4, hqb⟩ := m.lit
  have bx := m.bx
  have bl := m.bl
  have bj := m.bj
  have cj : w.cell? ⟨jb, 0, none⟩ = some (.int .i64 j) := by rw [Lib.cell_of_heap bj]; rfl
  have cx : w.cell? ⟨lx, 0, none⟩ = some (.pointer (some ⟨q, 0, none⟩)) := by rw [Lib.cell_of_heap bx]; rfl
  have q4 : w.cell? ⟨q, 4, none⟩ = some (.string v) := by rw [Lib.cell_of_heap hqb]; rfl
  have zj : w.frozen? ⟨jb, 0, none⟩ = false := Lib.frozen_of_heap bj 0
  have sj : jb < w.heap.size := (Array.getElem?_eq_some_iff.1 bj).1
  have hz : (j : Int) < (v.size : Int) ∧ (v.size : Int) ≤ 100000000 := by omega
  obtain ⟨bb, cn⟩ : ∃ bb : Nat, w.cell? ⟨N + 3, 0, none⟩ = some (.pointer (some ⟨bb, 0, none⟩)) := by
    obtain ⟨hs, h1, h2, _⟩ := m.sb
    obtain ⟨top, frames, ov⟩ := hs
    cases frames with
    | nil =>
      rw [← h2] at hst
      simp [HS.st] at hst
    | cons hf hr =>
      refine ⟨hf.blk, ?_⟩
      rw [Lib.cell_of_heap h1.b3]
      rfl
  have hg : (v[j]'hj).toNat = 125 := by rw [← bt_get v j hj]; exact hc
  have M := Lib.hid m
  clear hqb bx bl bj m hst hc
  conv => arg 2; whnf
  unfold ptr
  go_upto_region 17 with fail
  go_quiet (fail)
  have e6 : (w.drewN nq).cell? ⟨N + 3, 0, none⟩ = some (.pointer (some ⟨bb, 0, none⟩)) := cn
  have e1 : (w.drewN nq).cell? ⟨jb, 0, none⟩ = some (.int .i64 j) := cj
  have e2 : (w.drewN nq).cell? ⟨lx, 0, none⟩ = some (.pointer (some ⟨q, 0, none⟩)) := cx
  have e3 : (w.drewN nq).cell? ⟨q, 4, none⟩ = some (.string v) := q4
  have e4 : (w.drewN nq).frozen? ⟨jb, 0, none⟩ = false := zj
  have e5 : jb < (w.drewN nq).heap.size := sj
  have HD := Lib.hid (below_drewN (Below.refl w.heap.size w) nq)
  generalize w.drewN nq = w1 at *
  clear cj cx q4 zj sj cn
  go_upto_region 20 with fail
  go_quiet (fail)
  have g6 : (w1.drewN nq).cell? ⟨N + 3, 0, none⟩ = some (.pointer (some ⟨bb, 0, none⟩)) := e6
  have HD3 := Lib.hid (HD.out.trans (below_drewN (Below.refl w.heap.size w1) nq))
  generalize w1.drewN nq = w3 at *
  clear e1 e2 e3 e4 e5 e6
  have HM3 := Lib.hid (M.out.grow HD3.out)
  have HCALL := Lib.hid (addIdx_any N la jb lx q st xs ys w3 v last j HM3.out.sb HM3.out.bl HM3.out.bj HM3.out.bx HM3.out.lit hl (by omega) hv hcur)
  have HST6 := Lib.hid hst6
  clear hl hcur hst6
  go_upto_region 56 with (go_at_call 26; refine (HCALL.out).mono ?_; rintro e w6 ⟨rfl, h6, h6s⟩)
  have HM6 := Lib.hid (HM3.out.state h6 h6s)
  have HPOP := Lib.hid (pop_any N (st.flush v last j) f6 r6 xs ys w6 (by rw [← HST6.out]; exact h6))
  clear h6 h6s HCALL g6
  go_upto_region 57 with (go_at_call 24; refine (HPOP.out).mono ?_; rintro e w7 hp7; obtain ⟨b, rfl, h7, s7⟩ := hp7; unfold ptr)
  obtain ⟨T7, hT7⟩ : ∃ T7, (⟨(st.flush v last j).top, r6⟩ : St) = T7 := ⟨_, rfl⟩
  rw [hT7] at h7
  have HT7 := Lib.hid hT7
  have HM7 := Lib.hid (HM6.out.state h7 s7)
  clear hT7 HPOP s7
  rw [HT7.out, cur_push] at hcu
  simp only [List.length_append, List.length_cons, List.length_nil] at hcu
  have HCU := Lib.hid hcu
  have hel : f6.elems = [f6.acc] := by simp [Frame.elems, h6n]
  rw [hel] at h7 HM7
  clear h6n hcu
  obtain ⟨e7, cap7, cbb⟩ : ∃ e7 cap7 : Nat, w7.cell? ⟨b, 1, none⟩ = some (.slice (some ⟨e7, 0, none⟩) 1 cap7) := by
    obtain ⟨hs, hsb, hst, hxy⟩ := h7
    obtain ⟨e, cap, br⟩ := brace_lies hxy
    exact ⟨e, cap, by rw [Lib.cell_of_heap br.blk]; rfl⟩
  obtain ⟨ib, hib, hb0, hb1, hb2⟩ := info_parts Tryd.info_part
  clear h7 hel
  have cN7 : w7.cell? ⟨N + 5, 0, none⟩ = some (.func (.func 25) #[] #[.pointer (some ⟨N + 2, 0, none⟩)]) := by rw [Lib.cell_of_heap HM7.out.sb.b5]; rfl
  have lN7 : N + 5 < w7.heap.size := HM7.out.sb.lt
  have HLN7 := Lib.hid lN7
  clear lN7
  go_upto_region 58 with fail
  refine region_anyE (fun w' => w'.cell? ⟨N + 5, 0, none⟩ = some (.func (.func 25) #[] #[.pointer (some ⟨N + 2, 0, none⟩)])) 2 (by kernel_rfl) ?_ (fun hS hC => ?_)
  · (try dsimp only); go_keep
  refine anyE_take (i := 0) (v := ?_) [0] (by kernel_rfl) rfl (fun _ _ _ h => h) (by rfl) ?_ hC hS ?_
  rotate_left
  · intro w hSw
    (try dsimp only at hSw)
    go_simp
    (try with_reducible rfl)
  clear hC
  intro hC
  try simp only [Act.put, List.setIfInBounds_toArray, List.set_cons_zero, List.set_cons_succ]
  refine anyE_one (i := 1) (by kernel_rfl) hC rfl (fun K hK => ?_)
  clear hC
  go_simp
  (refine (lbrace_any _).mono ?_; rintro e1 wa7 ⟨q7, rfl, hq1, hb1⟩; have hb2 : Below w7.heap.size w7 wa7 := ((Below.refl w7.heap.size w7).drew).trans hb1; have cNa7 : wa7.cell? ⟨N + 5, 0, none⟩ = some (.func (.func 25) #[] #[.pointer (some ⟨N + 2, 0, none⟩)]) := (hb2.cell (p := ⟨N + 5, 0, none⟩) HLN7.out).trans cN7; have HQ7 := Lib.hid (And.intro hq1 hb2); clear hq1 hb1 hb2; unfold ptr)
  refine hK.out _ _ ?_ ?_
  · (try dsimp only); exact cNa7
  clear hS
  intro hS hC
  clear hK K
  try simp only [Act.put, List.setIfInBounds_toArray, List.set_cons_zero, List.set_cons_succ]
  refine anyE_last (by kernel_rfl) rfl (by kernel_rfl) (fun K hK => ?_)
  clear hC
  go_simp
  (go_at_call 25; refine (addLit_any N T7 (.iface 76 (.pointer (some ⟨b, 0, none⟩)) :: xs) (.brace f6.seq [f6.acc] :: ys) wa7 q7 lb (HM7.out.sb.below HQ7.out.2) HQ7.out.1 (by have := HCU.out; omega)).mono ?_; rintro e2 w8 ⟨rfl, h9, s9⟩)
  refine hK.out _ _ ?_
  clear hK K hS
  refine NoPanic.normal ?_
  try simp only [Act.put, List.setIfInBounds_toArray, List.set_cons_zero, List.set_cons_succ]
  have HM8 := Lib.hid (HM7.out.state h9 ((Still.of_below HQ7.out.2 (by have := HLN7.out; omega)).trans s9))
  clear cN7 cNa7 HQ7 HLN7 h9 s9
  clear cbb
  obtain ⟨hs, hsb, hst, hxy⟩ := HM8.out.sb
  have ha := hsb.words _ (acc_mem hs)
  obtain ⟨ac, hac⟩ : ∃ ac, hs.acc = ac := ⟨_, rfl⟩
  rw [hac] at ha
  have cb2 : w8.cell? ⟨N + 2, 0, none⟩ = some (.pointer (some ⟨ac.blk, 0, none⟩)) := by rw [Lib.cell_of_heap hsb.b2, hac]; rfl
  have cac : w8.cell? ⟨ac.blk, 0, none⟩ = some ac.v := by rw [Lib.cell_of_heap ha.blk]; rfl
  have sac : ac.blk < w8.heap.size := (Array.getElem?_eq_some_iff.1 ha.blk).1
  have hN7 := hsb.lt
  have hcl : ac.vals.length = (T7.push [.lit lb]).cur.length := by rw [← hst, st_cur, ← hac]; exact (hsb.words _ (acc_mem hs)).parts.length
  have HA := Lib.hid (And.intro hsb (And.intro hxy (And.intro hac (And.intro ha hst))))
  obtain ⟨e, ecap, br⟩ := brace_lies hxy
  obtain ⟨p0, v0, vals0, ce0, hp0, hrow, hpar⟩ := br.elt 0 f6.acc rfl
  have c0 : w8.cell? ⟨b, 1, none⟩ = some (.slice (some ⟨e, 0, none⟩) 1 ecap) := by rw [Lib.cell_of_heap br.blk]; rfl
  have c1 : w8.cell? ⟨e, 0, none⟩ = some (.pointer (some ⟨p0, 0, none⟩)) := ce0
  have c2 : w8.cell? ⟨p0, 0, none⟩ = some v0 := by rw [Lib.cell_of_heap hp0]; rfl
  have HBR := Lib.hid (And.intro br hp0)
  have HNW := Lib.hid (show News w8.drew v0 vals0.length vals0 from hrow.news)
  have HAL := Lib.hid (show ac.vals.length + vals0.length ≤ 100000000 by
    rw [hcl, hpar.length, cur_push]
    simp only [List.length_append, List.length_cons, List.length_nil]
    have := HCU.out
    omega)
  have HEL := Lib.hid hpar
  clear hsb hxy ha hcl hst br hac ce0 hp0 hrow hpar
  go_upto_region 59 with fail
  refine region_anyE (fun w' => w'.cell? ⟨N + 2, 0, none⟩ = some (.pointer (some ⟨ac.blk, 0, none⟩)) ∧ w'.cell? ⟨ac.blk, 0, none⟩ = some ac.v ∧ w'.cell? ⟨b, 1, none⟩ = some (.slice (some ⟨e, 0, none⟩) 1 ecap) ∧ w'.cell? ⟨e, 0, none⟩ = some (.pointer (some ⟨p0, 0, none⟩)) ∧ w'.cell? ⟨p0, 0, none⟩ = some (v0)) 17 (by kernel_rfl) ?_ (fun hS hC => ?_)
  · (try dsimp only); go_keep
  refine anyE_take (i := 0) (v := ?_) [0] (by kernel_rfl) rfl (fun _ _ _ h => h) (by rfl) ?_ hC hS ?_
  rotate_left
  · intro w hSw
    (try dsimp only at hSw)
    go_simp
    (try with_reducible rfl)
  clear hC
  intro hC
  try simp only [Act.put, List.setIfInBounds_toArray, List.set_cons_zero, List.set_cons_succ]
  refine anyE_take (i := 1) (v := ?_) [1] (by kernel_rfl) rfl (fun _ _ _ h => h) (by rfl) ?_ hC hS ?_
  rotate_left
  · intro w hSw
    (try dsimp only at hSw)
    go_simp
    (try with_reducible rfl)
  clear hC
  intro hC
  try simp only [Act.put, List.setIfInBounds_toArray, List.set_cons_zero, List.set_cons_succ]
  refine anyE_take (i := 2) (v := ?_) [2] (by kernel_rfl) rfl (fun _ _ _ h => h) (by rfl) ?_ hC hS ?_
  rotate_left
  · intro w hSw
    (try dsimp only at hSw)
    go_simp
    (try with_reducible rfl)
  clear hC
  intro hC
  try simp only [Act.put, List.setIfInBounds_toArray, List.set_cons_zero, List.set_cons_succ]
  refine anyE_take (i := 3) (v := ?_) [3] (by kernel_rfl) rfl (fun _ _ _ h => h) (by rfl) ?_ hC hS ?_
  rotate_left
  · intro w hSw
    (try dsimp only at hSw)
    go_simp
    (try with_reducible rfl)
  clear hC
  intro hC
  try simp only [Act.put, List.setIfInBounds_toArray, List.set_cons_zero, List.set_cons_succ]
  refine anyE_take (i := 4) (v := ?_) [4] (by kernel_rfl) rfl (fun _ _ _ h => h) (by rfl) ?_ hC hS ?_
  rotate_left
  · intro w hSw
    (try dsimp only at hSw)
    go_simp
    (try with_reducible rfl)
  clear hC
  intro hC
  try simp only [Act.put, List.setIfInBounds_toArray, List.set_cons_zero, List.set_cons_succ]
  refine anyE_take (i := 5) (v := ?_) [5] (by kernel_rfl) rfl (fun _ _ _ h => h) (by rfl) ?_ hC hS ?_
  rotate_left
  · intro w hSw
    (try dsimp only at hSw)
    go_simp
    (try with_reducible rfl)
  clear hC
  intro hC
  try simp only [Act.put, List.setIfInBounds_toArray, List.set_cons_zero, List.set_cons_succ]
  refine anyE_take (i := 6) (v := ?_) [6] (by kernel_rfl) rfl (fun _ _ _ h => h) (by rfl) ?_ hC hS ?_
  rotate_left
  · intro w hSw
    (try dsimp only at hSw)
    go_simp
    (try with_reducible rfl)
  clear hC
  intro hC
  try simp only [Act.put, List.setIfInBounds_toArray, List.set_cons_zero, List.set_cons_succ]
  refine anyE_take (i := 7) (v := ?_) [7] (by kernel_rfl) rfl (fun _ _ _ h => h) (by rfl) ?_ hC hS ?_
  rotate_left
  · intro w hSw
    (try dsimp only at hSw)
    go_simp
    (try with_reducible rfl)
  clear hC
  intro hC
  try simp only [Act.put, List.setIfInBounds_toArray, List.set_cons_zero, List.set_cons_succ]
  refine anyE_take (i := 8) (v := ?_) [8] (by kernel_rfl) rfl (fun _ _ _ h => h) (by rfl) ?_ hC hS ?_
  rotate_left
  · intro w hSw
    (try dsimp only at hSw)
    go_simp
    (try with_reducible rfl)
  clear hC
  intro hC
  try simp only [Act.put, List.setIfInBounds_toArray, List.set_cons_zero, List.set_cons_succ]
  refine anyE_take (i := 9) (v := ?_) [9] (by kernel_rfl) rfl (fun _ _ _ h => h) (by rfl) ?_ hC hS ?_
  rotate_left
  · intro w hSw
    (try dsimp only at hSw)
    go_simp
    (try with_reducible rfl)
  clear hC
  intro hC
  try simp only [Act.put, List.setIfInBounds_toArray, List.set_cons_zero, List.set_cons_succ]
  refine anyE_take (i := 10) (v := ?_) [10] (by kernel_rfl) rfl (fun _ _ _ h => h) (by rfl) ?_ hC hS ?_
  rotate_left
  · intro w hSw
    (try dsimp only at hSw)
    go_simp
    (try with_reducible rfl)
  clear hC
  intro hC
  try simp only [Act.put, List.setIfInBounds_toArray, List.set_cons_zero, List.set_cons_succ]
  refine anyE_take (i := 11) (v := ?_) [11] (by kernel_rfl) rfl (fun _ _ _ h => h) (by rfl) ?_ hC hS ?_
  rotate_left
  · intro w hSw
    (try dsimp only at hSw)
    go_simp
    (try with_reducible rfl)
  clear hC
  intro hC
  try simp only [Act.put, List.setIfInBounds_toArray, List.set_cons_zero, List.set_cons_succ]
  refine anyE_take (i := 12) (v := ?_) [12] (by kernel_rfl) rfl (fun _ _ _ h => h) (by rfl) ?_ hC hS ?_
  rotate_left
  · intro w hSw
    (try dsimp only at hSw)
    go_simp
    (try with_reducible rfl)
  clear hC
  intro hC
  try simp only [Act.put, List.setIfInBounds_toArray, List.set_cons_zero, List.set_cons_succ]
  refine anyE_take (i := 13) (v := ?_) [13] (by kernel_rfl) rfl (fun _ _ _ h => h) (by rfl) ?_ hC hS ?_
  rotate_left
  · intro w hSw
    (try dsimp only at hSw)
    go_simp
    (try with_reducible rfl)
  clear hC
  intro hC
  try simp only [Act.put, List.setIfInBounds_toArray, List.set_cons_zero, List.set_cons_succ]
  refine anyE_one (i := 14) (by kernel_rfl) hC rfl (fun K hK => ?_)
  clear hC
  (refine step_append_row _ (by rfl) _ _ 31 (by rfl) (N + 6) 72 ib .nilIface 16 Tryd.underlying31 hib hb0 hb1 hb2 rfl ac.v ac.vals.length ac.vals (by rfl) HA.out.2.2.2.1.own.drew v0 vals0.length vals0 (by rfl) HNW.out rfl HEL.out.one (by have := HAL.out; unfold maxLen; omega) (by have := HAL.out; omega) (by show N + 6 ≤ w8.heap.size; omega) ?_; intro v8 wb hown8 hgrow8 hat8; obtain ⟨s8, n8, c8, rfl⟩ := own_slice hown8; have hc8 : wb.heap[ac.blk]? = some (.cells #[ac.v] 40 (0, 0)) := HA.out.2.2.2.1.grown (W := w8.drew) (fun _ _ => rfl) (Nat.le_refl _) hgrow8; have hb8 : wb.heap[N + 2]? = some (.cells #[ptr ac.blk] 38 (0, 0)) := HA.out.2.2.2.1.box (W := w8.drew) (fun _ _ => rfl) (Nat.le_refl _) hgrow8 (by omega) (by rw [← HA.out.2.2.1]; exact HA.out.1.b2); have y1 : wb.cell? ⟨ac.blk, 0, none⟩ = some ac.v := (Lib.cell_of_heap hc8 0).trans rfl; have y2 : wb.frozen? ⟨ac.blk, 0, none⟩ = false := Lib.frozen_of_heap hc8 0; have y3 : wb.cell? ⟨N + 2, 0, none⟩ = some (.pointer (some ⟨ac.blk, 0, none⟩)) := (Lib.cell_of_heap hb8 0).trans rfl; have l0 : wb.cell? ⟨b, 1, none⟩ = some (.slice (some ⟨e, 0, none⟩) 1 ecap) := ((cell_grown hgrow8 (HBR.out.1.blk) HA.out.2.2.2.1.own.drew (by decide) 1)).trans c0; have l1 : wb.cell? ⟨e, 0, none⟩ = some (.pointer (some ⟨p0, 0, none⟩)) := ((cell_grown hgrow8 (HBR.out.1.ety.choose_spec) HA.out.2.2.2.1.own.drew (by decide) 0)).trans c1; have l2 : wb.cell? ⟨p0, 0, none⟩ = some (v0) := ((cell_grown hgrow8 (HBR.out.2) HA.out.2.2.2.1.own.drew (by decide) 0)).trans c2; have H8 := Lib.hid (And.intro hown8 (And.intro hgrow8 hat8)); clear hown8 hgrow8 hat8 hc8 hb8)
  refine hK.out _ _ ?_ ?_
  · (try dsimp only); exact ⟨y3, y1, l0, l1, l2⟩
  clear hS
  intro hS hC
  clear hK K
  try simp only [Act.put, List.setIfInBounds_toArray, List.set_cons_zero, List.set_cons_succ]
  refine anyE_take (i := 15) (v := ?_) [16, 15] (by kernel_rfl) rfl (fun _ _ _ h => h) (by rfl) ?_ hC hS ?_
  rotate_left
  · intro w hSw
    (try dsimp only at hSw)
    go_simp
    (try with_reducible rfl)
  clear hC
  intro hC
  try simp only [Act.put, List.setIfInBounds_toArray, List.set_cons_zero, List.set_cons_succ]
  refine anyE_take (i := 16) (v := ?_) [16] (by kernel_rfl) rfl (fun _ _ _ h => h) (by rfl) ?_ hC hS ?_
  rotate_left
  · intro w hSw
    (try dsimp only at hSw)
    go_simp
    (try with_reducible rfl)
  clear hC
  intro hC
  try simp only [Act.put, List.setIfInBounds_toArray, List.set_cons_zero, List.set_cons_succ]
  refine anyE_last (by kernel_rfl) rfl (by kernel_rfl) (fun K hK => ?_)
  clear hC
  go_simp
  refine hK.out _ _ ?_
  clear hK K hS
  refine NoPanic.normal ?_
  try simp only [Act.put, List.setIfInBounds_toArray, List.set_cons_zero, List.set_cons_succ]
  obtain ⟨e8, s8⟩ := HA.out.1.row_end (W := w8.drew) HA.out.2.2.1 (us := vals0) HEL.out HA.out.2.1 ((Below.refl w8.heap.size w8).drew) H8.out.1 H8.out.2.1 H8.out.2.2
  rw [HA.out.2.2.2.2] at e8
  have HM9 := Lib.hid (HM8.out.state e8 s8)
  clear y1 y2 y3 H8 e8 s8 l0 c0 l1 c1 l2 c2 cb2 cac sac HA HAL HNW HEL
  generalize wb.setCell ⟨ac.blk, 0, none⟩ (.slice s8 n8 c8) = w9 at *
  have cN9 : w9.cell? ⟨N + 5, 0, none⟩ = some (.func (.func 25) #[] #[.pointer (some ⟨N + 2, 0, none⟩)]) := by rw [Lib.cell_of_heap HM9.out.sb.b5]; rfl
  have lN9 : N + 5 < w9.heap.size := HM9.out.sb.lt
  have HLN9 := Lib.hid lN9
  clear lN9
  go_upto_region 60 with fail
  refine region_anyE (fun w' => w'.cell? ⟨N + 5, 0, none⟩ = some (.func (.func 25) #[] #[.pointer (some ⟨N + 2, 0, none⟩)])) 2 (by kernel_rfl) ?_ (fun hS hC => ?_)
  · (try dsimp only); go_keep
  refine anyE_take (i := 0) (v := ?_) [0] (by kernel_rfl) rfl (fun _ _ _ h => h) (by rfl) ?_ hC hS ?_
  rotate_left
  · intro w hSw
    (try dsimp only at hSw)
    go_simp
    (try with_reducible rfl)
  clear hC
  intro hC
  try simp only [Act.put, List.setIfInBounds_toArray, List.set_cons_zero, List.set_cons_succ]
  refine anyE_one (i := 1) (by kernel_rfl) hC rfl (fun K hK => ?_)
  clear hC
  go_simp
  (refine (rbrace_any _).mono ?_; rintro e1 wa9 ⟨q9, rfl, hq1, hb1⟩; have hb2 : Below w9.heap.size w9 wa9 := ((Below.refl w9.heap.size w9).drew).trans hb1; have cNa9 : wa9.cell? ⟨N + 5, 0, none⟩ = some (.func (.func 25) #[] #[.pointer (some ⟨N + 2, 0, none⟩)]) := (hb2.cell (p := ⟨N + 5, 0, none⟩) HLN9.out).trans cN9; have HQ9 := Lib.hid (And.intro hq1 hb2); clear hq1 hb1 hb2; unfold ptr)
  refine hK.out _ _ ?_ ?_
  · (try dsimp only); exact cNa9
  clear hS
  intro hS hC
  clear hK K
  try simp only [Act.put, List.setIfInBounds_toArray, List.set_cons_zero, List.set_cons_succ]
  refine anyE_last (by kernel_rfl) rfl (by kernel_rfl) (fun K hK => ?_)
  clear hC
  go_simp
  (go_at_call 25; refine (addLit_any N ((T7.push [.lit lb]).push f6.acc) (.iface 76 (.pointer (some ⟨b, 0, none⟩)) :: xs) (.brace f6.seq [f6.acc] :: ys) wa9 q9 rb (HM9.out.sb.below HQ9.out.2) HQ9.out.1 (by rw [cur_push, cur_push, List.length_append, List.length_append]; have := HCU.out; simp only [List.length_cons, List.length_nil]; omega)).mono ?_; rintro e2 w10 ⟨rfl, h9, s9⟩)
  refine hK.out _ _ ?_
  clear hK K hS
  refine NoPanic.normal ?_
  try simp only [Act.put, List.setIfInBounds_toArray, List.set_cons_zero, List.set_cons_succ]
  have HM10 := Lib.hid (HM9.out.state h9 ((Still.of_below HQ9.out.2 (by have := HLN9.out; omega)).trans s9))
  clear cN9 cNa9 HQ9 HLN9 h9 s9
  have h20 := HM10.out.sb.tail
  rw [push_push, push_push, ← List.append_assoc, ← HT7.out] at h20
  have HM20 := Lib.hid (HM10.out.state h20 (Still.refl _ _))
  clear h20
  have hbj := HM20.out.bj
  have hbl := HM20.out.bl
  have k1 : w10.cell? ⟨jb, 0, none⟩ = some (.int .i64 (j : Int)) := by rw [Lib.cell_of_heap hbj]; rfl
  have k2 : w10.cell? ⟨la, 0, none⟩ = some (.int .i64 last) := by rw [Lib.cell_of_heap hbl]; rfl
  have k3 : w10.frozen? ⟨la, 0, none⟩ = false := Lib.frozen_of_heap hbl 0
  have k4 : jb < w10.heap.size := (Array.getElem?_eq_some_iff.1 hbj).1
  have k5 : la < w10.heap.size := (Array.getElem?_eq_some_iff.1 hbl).1
  clear hbj hbl
  have hms := HM20.out.setl (j + 1)
  rw [Int.natCast_add, Int.natCast_one] at hms
  have HM21 := Lib.hid hms
  clear hms
  go_upto_region 96 with fail
  have k6 : (w10.setCell ⟨la, 0, none⟩ (.int .i64 ((j : Int) + 1))).cell? ⟨jb, 0, none⟩ = some (.int .i64 (j : Int)) := by have := HM21.out.bj; rw [Lib.cell_of_heap this]; rfl
  generalize w10.setCell ⟨la, 0, none⟩ (.int .i64 ((j : Int) + 1)) = w22 at *
  clear k1 k2 k3 k4 k5
  go_wp2_with fail
  have hn := HM21.out.next (Below.refl _ _) (j + 1)
  rw [Int.natCast_add, Int.natCast_one] at hn
  exact ⟨_, ⟨rfl, rfl, rfl, rfl, rfl, rfl, rfl, rfl, rfl, rfl, rfl, rfl, rfl, rfl, rfl, rfl⟩, hn⟩
end Go.Proofs.YtmcoifhiiagfpaaDoor
