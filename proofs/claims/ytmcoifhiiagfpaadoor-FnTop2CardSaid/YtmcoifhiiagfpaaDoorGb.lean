/-
  The small functions of brace splitting: the literals of the tokens, the closure that appends the text since the last token, the closure that takes a brace off.
  A brace taken off: what is held behind it. No walk here.
  The closure that takes a brace off.
  A brace opened, an element begun: what is held behind it. No walk here.
  An element begun: what is held behind it. No walk here.
-/
import Derived.Test.YtmcoifhiiagfpaaDoorGa
namespace Go.Proofs.YtmcoifhiiagfpaaDoor
open Go.RowKit
set_option linter.unusedSectionVars false
variable [Pw]

theorem lit_new (w : World) (s : ByteArray) : LitAt (w.alloc (.cells #[.int .u32 0, .int .u32 0, .int .u32 0, .int .u32 0, .string s] 69)) w.heap.size s := ⟨0, 0, 0, 0, heap_alloc_new w _⟩
/-- A new literal. -/
def NewLit (s : ByteArray) (w : World) (e : Ending) (w' : World) : Prop := ∃ q, e = .returned (ptr q) ∧ LitAt w' q s ∧ Below w.heap.size w w'

theorem dots_any (w : World) : Calls Tryd.prog 27 #[] w (NewLit dots w) := by
  go_enter Tryd.func27, Tryd.ntmps27
  go_wp2
  go_ret
  exact ⟨_, rfl, lit_new w _, (Below.refl _ _).alloc (Nat.le_refl _) _⟩
theorem lbrace_any (w : World) : Calls Tryd.prog 28 #[] w (NewLit lb w) := by
  go_enter Tryd.func28, Tryd.ntmps28
  go_wp2
  go_ret
  exact ⟨_, rfl, lit_new w _, (Below.refl _ _).alloc (Nat.le_refl _) _⟩
theorem rbrace_any (w : World) : Calls Tryd.prog 29 #[] w (NewLit rb w) := by
  go_enter Tryd.func29, Tryd.ntmps29
  go_wp2
  go_ret
  exact ⟨_, rfl, lit_new w _, (Below.refl _ _).alloc (Nat.le_refl _) _⟩
theorem comma_any (w : World) : Calls Tryd.prog 33 #[] w (NewLit cm w) := by
  go_enter Tryd.func33, Tryd.ntmps33
  go_wp2
  go_ret
  exact ⟨_, rfl, lit_new w _, (Below.refl _ _).alloc (Nat.le_refl _) _⟩

theorem Sb.below {N : Nat} {st : St} {xs : List Value} {ys : List Part} {w w' : World} (h : Sb N st xs ys w) (hb : Below w.heap.size w w') : Sb N st xs ys w' := by
  obtain ⟨hs, h1, h2, h3⟩ := h
  exact ⟨hs, h1.grow (fun k hk => hb.block k hk), h2, h3.safe ⟨fun k hk _ => hb.block k hk, fun _ _ x => x⟩⟩
theorem Sb.lt {N : Nat} {st : St} {xs : List Value} {ys : List Part} {w : World} (h : Sb N st xs ys w) : N + 5 < w.heap.size := by
  obtain ⟨hs, h1, _⟩ := h
  exact h1.lt
theorem Sb.b5 {N : Nat} {st : St} {xs : List Value} {ys : List Part} {w : World} (h : Sb N st xs ys w) : w.heap[N + 5]? = some (.cells #[.func (.func 25) #[] #[ptr (N + 2)]] 82 (0, 0)) := by
  obtain ⟨hs, h1, _⟩ := h
  exact h1.b5

set_option maxRecDepth 100000 in
set_option maxHeartbeats 2000000 in
theorem addIdx_any (N la j lx q : Nat) (st : St) (xs : List Value) (ys : List Part) (w : World) (v : ByteArray) (a b : Nat) (h : Sb N st xs ys w) (ha : w.heap[la]? = some (.cells #[.int .i64 a] 3 (0, 0))) (hj : w.heap[j]? = some (.cells #[.int .i64 b] 3 (0, 0))) (hx : w.heap[lx]? = some (.cells #[ptr q] 67 (0, 0))) (hq : LitAt w q v) (hab : a ≤ b) (hbs : b ≤ v.size) (hvs : v.size ≤ 100000000) (hl : st.cur.length ≤ 100000000) :
    Calls Tryd.prog 26 #[ptr la, ptr j, ptr lx, ptr (N + 5)] w fun e w' => e = .returned (.tuple #[]) ∧ Sb N (st.flush v a b) xs ys w' ∧ Still N w w' := by
  obtain ⟨x1, x2, x3, x4, hqb⟩ := hq
  have c1 : w.cell? ⟨la, 0, none⟩ = some (.int .i64 a) := by rw [Lib.cell_of_heap ha]; rfl
  have c2 : w.cell? ⟨j, 0, none⟩ = some (.int .i64 b) := by rw [Lib.cell_of_heap hj]; rfl
  have c3 : w.cell? ⟨lx, 0, none⟩ = some (.pointer (some ⟨q, 0, none⟩)) := by rw [Lib.cell_of_heap hx]; rfl
  have q0 : w.cell? ⟨q, 0, none⟩ = some (.int .u32 x1) := by rw [Lib.cell_of_heap hqb]; rfl
  have q1 : w.cell? ⟨q, 1, none⟩ = some (.int .u32 x2) := by rw [Lib.cell_of_heap hqb]; rfl
  have q2 : w.cell? ⟨q, 2, none⟩ = some (.int .u32 x3) := by rw [Lib.cell_of_heap hqb]; rfl
  have q3 : w.cell? ⟨q, 3, none⟩ = some (.int .u32 x4) := by rw [Lib.cell_of_heap hqb]; rfl
  have q4 : w.cell? ⟨q, 4, none⟩ = some (.string v) := by rw [Lib.cell_of_heap hqb]; rfl
  have hb5 := h.b5
  have c5 : w.cell? ⟨N + 5, 0, none⟩ = some (.func (.func 25) #[] #[.pointer (some ⟨N + 2, 0, none⟩)]) := by rw [Lib.cell_of_heap hb5]; rfl
  have hz : (a : Int) ≤ (b : Int) ∧ (b : Int) ≤ (v.size : Int) ∧ (v.size : Int) ≤ 100000000 := by omega
  have hlt := h.lt
  have s1 : la < w.heap.size := (Array.getElem?_eq_some_iff.1 ha).1
  have s2 : j < w.heap.size := (Array.getElem?_eq_some_iff.1 hj).1
  have s3 : lx < w.heap.size := (Array.getElem?_eq_some_iff.1 hx).1
  have s4 : q < w.heap.size := (Array.getElem?_eq_some_iff.1 hqb).1
  have H := Lib.hid h
  have HL := Lib.hid hl
  clear ha hj hx hqb hb5 h hl
  unfold ptr
  by_cases he : a = b
  · subst he
    go_enter Tryd.func26, Tryd.ntmps26
    go_wp2
    refine bodyPost_ret (results_none rfl _ _ _) rfl ?_
    refine ⟨rfl, ?_, Still.refl N w⟩
    unfold St.flush
    rw [if_pos rfl]
    exact H.out
  · have hne : ((a : Int) == (b : Int)) = false := by simp; omega
    have HE := Lib.hid he
    clear he
    go_enter Tryd.func26, Tryd.ntmps26
    go_upto_region 3 with fail
    have HB := Lib.hid ((Below.refl w.heap.size w).alloc (Nat.le_refl _) (.cells #[.int .u32 x1, .int .u32 x2, .int .u32 x3, .int .u32 x4, .string (v.extract a b)] 69))
    have HS1 := Lib.hid (H.out.below HB.out)
    have HLT : Hid (LitAt (w.alloc (.cells #[.int .u32 x1, .int .u32 x2, .int .u32 x3, .int .u32 x4, .string (v.extract a b)] 69)) w.heap.size (v.extract a b)) := Lib.hid ⟨x1, x2, x3, x4, heap_alloc_new w _⟩
    have c51 := (HB.out.cell (p := ⟨N + 5, 0, none⟩) (by show N + 5 < _; omega)).trans c5
    generalize w.alloc (.cells #[.int .u32 x1, .int .u32 x2, .int .u32 x3, .int .u32 x4, .string (v.extract a b)] 69) = w5 at HB HS1 HLT c51 ⊢
    clear c1 c2 c3 c5 q0 q1 q2 q3 q4
    have HC := Lib.hid (addLit_any N st xs ys w5 w.heap.size _ HS1.out HLT.out HL.out)
    go_wp2_with (go_at_call 25; refine (HC.out).mono ?_; rintro e w6 ⟨rfl, h6, h7⟩)
    refine bodyPost_end (results_none rfl _ _ _) rfl ?_
    refine ⟨rfl, ?_, (Still.of_below HB.out (by omega)).trans h7⟩
    unfold St.flush
    rw [if_neg HE.out]
    exact h6
end Go.Proofs.YtmcoifhiiagfpaaDoor

namespace Go.Proofs.YtmcoifhiiagfpaaDoor
open Go.RowKit

theorem nodup_app {α : Type} {A B : List α} (h : (A ++ B).Nodup) : A.Nodup ∧ B.Nodup ∧ ∀ x ∈ A, x ∉ B := by
  rw [List.nodup_append] at h
  exact ⟨h.1, h.2.1, fun x hx hb => h.2.2 x hx x hb rfl⟩

theorem own_row {w : World} {base n : Nat} {e : TypeId} {v : Value} {xs : List Value} (h : w.ownsRow base e 1 v n xs) (hn : 0 < n) : ∃ g cap cur, v = .slice (some ⟨g, 0, none⟩) n cap ∧ base ≤ g ∧ w.heap[g]? = some (.cells cur e (0, 0)) ∧ cur.toList.take n = xs ∧ n ≤ cap ∧ cap ≤ maxLen ∧ cur.size = cap := by
  rcases h.2 with ⟨_, h0⟩ | ⟨g, cap, cur, hv, hb, hg, h1, h2, h3, h4⟩
  · omega
  · exact ⟨g, cap, cur, hv, hb, hg, by simpa using h4, h1, h2, by simpa using h3⟩
theorem own_cell {w : World} {base n : Nat} {e : TypeId} {g cap : Nat} {xs : List Value} (h : w.ownsRow base e 1 (.slice (some ⟨g, 0, none⟩) n cap) n xs) (i : Nat) (hi : i < n) : w.cell? ⟨g, i, none⟩ = xs[i]? := by
  obtain ⟨g', cap', cur, hv, _, hg, ht, h1, h2, h3⟩ := own_row h (by omega)
  simp only [Value.slice.injEq, Option.some.injEq, Addr.mk.injEq, and_true, true_and] at hv
  obtain ⟨rfl, rfl⟩ := hv
  rw [Lib.cell_of_heap hg, ← ht]
  simp [hi]

/-- The slice cut by its last element. -/
theorem own_cut {w : World} {base n g cap : Nat} {e : TypeId} {xs : List Value} {x : Value} (h : w.ownsRow base e 1 (.slice (some ⟨g, 0, none⟩) (n + 1) cap) (n + 1) (xs ++ [x])) : w.ownsRow base e 1 (.slice (some ⟨g, 0, none⟩) n cap) n xs := by
  have hl := h.1
  obtain ⟨g', cap', cur, hv, hb, hg, ht, h1, h2, h3⟩ := own_row h (by omega)
  simp only [Value.slice.injEq, Option.some.injEq, Addr.mk.injEq, and_true, true_and] at hv
  obtain ⟨rfl, rfl⟩ := hv
  have hxl : xs.length = n := by simpa using hl
  refine ⟨by omega, Or.inr ⟨g, cap, cur, rfl, hb, hg, by omega, h2, by omega, ?_⟩⟩
  have e1 : cur.toList.take n = (cur.toList.take (n + 1)).take n := by rw [List.take_take, Nat.min_eq_left (by omega)]
  rw [Nat.mul_one, e1, ht, List.take_left' hxl]

theorem words_parts {N : Nat} {L L' : Nat → Prop} {w : World} : ∀ (l : List HW), (∀ h ∈ l, WOk N L w h) → (∀ h ∈ l, ¬ L' h.blk ∧ ∀ g, h.v.ownBlock = some g → ¬ L' g) → Safe L L' w w → WordsAt w L' (l.map HW.blk) (l.map HW.ps)
  | [], _, _, _ => .nil
  | h :: r, h1, h2, hs => by
    have hk := h1 h (List.mem_cons_self ..)
    obtain ⟨f1, f2⟩ := h2 h (List.mem_cons_self ..)
    refine .cons h.blk h.v h.vals h.ps _ _ f1 hk.blk ?_ (hk.parts.safe hs) (words_parts r (fun x hx => h1 x (List.mem_cons_of_mem _ hx)) (fun x hx => h2 x (List.mem_cons_of_mem _ hx)) hs)
    rcases hk.own.2 with ⟨hv, hn⟩ | ⟨g, cap, cur, hv, hb, hg, _, _, _, ht⟩
    · exact Or.inl ⟨hv, List.eq_nil_of_length_eq_zero hn⟩
    · exact Or.inr ⟨g, cap, cur, hv, f2 g (by rw [hv]; rfl), hg, by simpa using ht⟩

set_option linter.unusedSectionVars false
variable [Pw]
/-- What is held when the innermost brace is taken off. -/
theorem SB.pop {N : Nat} {top : HW} {f : HF} {r : List HF} {g cap : Nat} {w w' : World} (h : SB N ⟨top, f :: r, .slice (some ⟨g, 0, none⟩) (r.length + 1) cap⟩ w)
    (hk : ∀ k, k ≠ N + 2 → k ≠ N + 3 → k ≠ N + 4 → w'.heap[k]? = w.heap[k]?)
    (h2 : w'.heap[N + 2]? = some (.cells #[ptr (HS.acc ⟨top, r, .slice (some ⟨g, 0, none⟩) r.length cap⟩).blk] 38 (0, 0)))
    (h3 : w'.heap[N + 3]? = some (.cells #[HS.curV ⟨top, r, .slice (some ⟨g, 0, none⟩) r.length cap⟩] 76 (0, 0)))
    (h4 : w'.heap[N + 4]? = some (.cells #[.slice (some ⟨g, 0, none⟩) r.length cap] 77 (0, 0))) :
    SB N ⟨top, r, .slice (some ⟨g, 0, none⟩) r.length cap⟩ w' ∧ Safe (HS.live N ⟨top, f :: r, .slice (some ⟨g, 0, none⟩) (r.length + 1) cap⟩) (HS.live N ⟨top, r, .slice (some ⟨g, 0, none⟩) r.length cap⟩) w w' ∧ PartAt w' (HS.live N ⟨top, r, .slice (some ⟨g, 0, none⟩) r.length cap⟩) (.iface 76 (ptr f.blk)) (.brace f.seq f.fr.elems) := by
  have hsub : (HS.words ⟨top, r, .slice (some ⟨g, 0, none⟩) r.length cap⟩).Sublist (HS.words ⟨top, f :: r, .slice (some ⟨g, 0, none⟩) (r.length + 1) cap⟩) := by
    refine List.Sublist.cons_cons _ ?_
    rw [List.flatMap_cons]
    exact List.sublist_append_right ..
  have hfm : ∀ x ∈ f.words, x ∈ HS.words ⟨top, f :: r, .slice (some ⟨g, 0, none⟩) (r.length + 1) cap⟩ := fun x hx => by
    simp only [HS.words, List.flatMap_cons, List.mem_cons, List.mem_append]
    exact Or.inr (Or.inl hx)
  have hF := h.frames f (List.mem_cons_self ..)
  have ty : ∀ {k : Nat} {c1 c2 : Array Value} {T1 T2 : TypeId}, w.heap[k]? = some (.cells c1 T1 (0, 0)) → w.heap[k]? = some (.cells c2 T2 (0, 0)) → T1 = T2 := fun {k c1 c2 T1 T2} a b => by
    rw [a] at b
    simp only [Option.some.injEq, Obj.cells.injEq] at b
    exact b.2.1
  have hdw := h.dw
  have hda : (HS.words ⟨top, f :: r, .slice (some ⟨g, 0, none⟩) (r.length + 1) cap⟩).filterMap arr |>.Nodup := h.da
  have hdf := h.df
  have hde := h.de
  obtain ⟨_, cg, hcg⟩ := own_block h.opens (g := g) rfl
  -- live
  have hll : ∀ k, HS.live0 N ⟨top, r, .slice (some ⟨g, 0, none⟩) r.length cap⟩ k → HS.live0 N ⟨top, f :: r, .slice (some ⟨g, 0, none⟩) (r.length + 1) cap⟩ k := by
    rintro k (hl | ⟨x, hx, hl⟩ | ⟨f', hf, hl⟩ | hl)
    · exact Or.inl hl
    · exact Or.inr (Or.inl ⟨x, hsub.subset hx, hl⟩)
    · exact Or.inr (Or.inr (Or.inl ⟨f', List.mem_cons_of_mem _ hf, hl⟩))
    · exact Or.inr (Or.inr (Or.inr hl))
  have hk' : ∀ k, ¬ HS.live0 N ⟨top, r, .slice (some ⟨g, 0, none⟩) r.length cap⟩ k → w'.heap[k]? = w.heap[k]? := fun k hn =>
    hk k (fun e => hn (Or.inl (by omega))) (fun e => hn (Or.inl (by omega))) (fun e => hn (Or.inl (by omega)))
  have far_kept : ∀ {k : Nat} {o : Obj}, N + 6 ≤ k → w.heap[k]? = some o → w'.heap[k]? = some o := fun {k o} h6 ho => (hk k (by omega) (by omega) (by omega)).trans ho
  have own_far : ∀ {e n v xs}, w.ownsRow (N + 6) e 1 v n xs → w'.ownsRow (N + 6) e 1 v n xs := fun ho => own_kept ho (fun g' _ h6 ⟨c, hc⟩ => (far_kept h6 hc).trans hc.symm)
  have hs10 : Safe (HS.live0 N ⟨top, f :: r, .slice (some ⟨g, 0, none⟩) (r.length + 1) cap⟩) (HS.live0 N ⟨top, r, .slice (some ⟨g, 0, none⟩) r.length cap⟩) w w' := ⟨fun k _ hn => hk' k (fun hl => hn (hll k hl)), fun k _ hn hl => hn (hll k hl)⟩
  have hs20 : Safe (HS.live0 N ⟨top, f :: r, .slice (some ⟨g, 0, none⟩) (r.length + 1) cap⟩) (HS.live0 N ⟨top, r, .slice (some ⟨g, 0, none⟩) r.length cap⟩) w w := ⟨fun _ _ _ => rfl, fun k _ hn hl => hn (hll k hl)⟩
  have hs30 : Safe (HS.live0 N ⟨top, r, .slice (some ⟨g, 0, none⟩) r.length cap⟩) (HS.live0 N ⟨top, r, .slice (some ⟨g, 0, none⟩) r.length cap⟩) w w' := ⟨fun k _ hn => hk' k hn, fun _ _ h => h⟩
  have hs1 := hs10.more
  have hs2 := hs20.more
  have hs3 := hs30.more
  -- what is no longer live
  have hsplit : ∀ x ∈ f.words, (∀ y ∈ HS.words ⟨top, r, .slice (some ⟨g, 0, none⟩) r.length cap⟩, x.blk ≠ y.blk) ∧ (∀ y ∈ HS.words ⟨top, r, .slice (some ⟨g, 0, none⟩) r.length cap⟩, ∀ k, arr x = some k → arr y ≠ some k) := by
    intro x hx
    have hperm : ∃ A C, HS.words ⟨top, f :: r, .slice (some ⟨g, 0, none⟩) (r.length + 1) cap⟩ = A ++ x :: C ∧ ∀ y ∈ HS.words ⟨top, r, .slice (some ⟨g, 0, none⟩) r.length cap⟩, y ∈ A ++ C := by
      obtain ⟨a, c, e⟩ := List.append_of_mem hx
      refine ⟨top :: a, c ++ r.flatMap HF.words, by simp [HS.words, e], fun y hy => ?_⟩
      rcases List.mem_cons.1 hy with rfl | hy
      · simp
      · simp only [List.cons_append, List.mem_cons, List.mem_append]
        exact Or.inr (Or.inr (Or.inr hy))
    obtain ⟨A, C, e, hy⟩ := hperm
    rw [e] at hdw hda
    exact ⟨fun y hm => (other_blk hdw y (hy y hm)).symm, fun y hm k hxk hyk => other_arr hda y (hy y hm) k hyk hxk⟩
  have hw' : ∀ y ∈ HS.words ⟨top, r, .slice (some ⟨g, 0, none⟩) r.length cap⟩, WOk N (HS.live N ⟨top, f :: r, .slice (some ⟨g, 0, none⟩) (r.length + 1) cap⟩) w y := fun y hy => h.words y (hsub.subset hy)
  have nl : ∀ {k : Nat} {c : Array Value} {T : TypeId}, w.heap[k]? = some (.cells c T (0, 0)) → N + 6 ≤ k → (T = 40 → ∀ y ∈ HS.words ⟨top, r, .slice (some ⟨g, 0, none⟩) r.length cap⟩, k ≠ y.blk) → (T = 72 → ∀ y ∈ HS.words ⟨top, r, .slice (some ⟨g, 0, none⟩) r.length cap⟩, arr y ≠ some k) → (T = 80 → ∀ y ∈ r, k ≠ y.blk) → (T = 38 → ∀ y ∈ r, y.ev.ownBlock ≠ some k) → T ≠ 76 → ¬ HS.live N ⟨top, r, .slice (some ⟨g, 0, none⟩) r.length cap⟩ k := by
    intro k c T hkT h6 g1 g2 g3 g4 g5 hl
    rcases hl with (hl | ⟨x, hx, rfl | hl⟩ | ⟨f', hf, rfl | hl⟩ | hl) | hl
    · omega
    · exact g1 (ty hkT (hw' x hx).blk) x hx rfl
    · obtain ⟨_, c', hc'⟩ := own_block (hw' x hx).own hl
      exact g2 (ty hkT hc') x hx hl
    · exact g3 (ty hkT (h.frames f' (List.mem_cons_of_mem _ hf)).blk) f' hf rfl
    · obtain ⟨_, c', hc'⟩ := own_block (h.frames f' (List.mem_cons_of_mem _ hf)).own hl
      exact g4 (ty hkT hc') f' hf hl
    · have e : g = k := Option.some.inj hl
      subst e
      exact g5 (ty hkT hcg)
    · have := h.pw.1
      omega
  have htop : ∀ x ∈ f.words, N + 6 ≤ x.blk := fun x hx => by
    rcases (h.words x (hfm x hx)).far with e | e
    · exact absurd (e.trans h.topBlk.symm) ((hsplit x hx).1 top (List.mem_cons_self ..))
    · exact e
  refine ⟨?_, hs1, ?_⟩
  · exact {
      topBlk := h.topBlk
      pw := ⟨h.pw.1, h.pw.2.elim fun c hc => ⟨c, (hk _ (by have := h.pw.1; omega) (by have := h.pw.1; omega) (by have := h.pw.1; omega)).trans hc⟩⟩
      b1 := (hk _ (by omega) (by omega) (by omega)).trans h.b1
      b2 := h2
      b3 := h3
      b4 := h4
      b5 := (hk _ (by omega) (by omega) (by omega)).trans h.b5
      opens := by
        have ho := h.opens
        rw [show (HS.frames ⟨top, f :: r, .slice (some ⟨g, 0, none⟩) (r.length + 1) cap⟩) = f :: r from rfl, List.reverse_cons, List.map_append] at ho
        exact own_far (own_cut ho)
      words := fun x hx => by
        have hx0 := hw' x hx
        refine ⟨?_, own_far hx0.own, hx0.parts.safe hs1, hx0.far⟩
        rcases hx0.far with e | e
        · rw [hk x.blk (by omega) (by omega) (by omega)]; exact hx0.blk
        · exact far_kept e hx0.blk
      frames := fun f' hf => by
        have hf0 := h.frames f' (List.mem_cons_of_mem _ hf)
        exact ⟨far_kept hf0.far hf0.blk, own_far hf0.own, hf0.far⟩
      dw := List.Nodup.sublist (hsub.map HW.blk) hdw
      da := List.Nodup.sublist (hsub.filterMap arr) hda
      df := (List.nodup_cons.1 hdf).2
      de := List.Nodup.sublist ((List.sublist_cons_self f r).filterMap fun f => f.ev.ownBlock) hde }
  · obtain ⟨e, ce, cur, hev, he6, heb, het, hec, _⟩ := own_row hF.own (by unfold HF.words; simp)
    have hfr : f.fr.elems = f.words.map HW.ps := by simp [HF.fr, Frame.elems, HF.words]
    rw [hfr]
    have hlen : (f.words.map HW.blk).length = f.words.length := List.length_map ..
    have hfb := hF.blk
    rw [hev, ← hlen] at hfb
    refine .brace f.blk e ce cur f.seq (f.words.map HW.blk) _ ?_ ?_ (far_kept hF.far hfb) (far_kept he6 heb) ?_ ((words_parts f.words (fun x hx => h.words x (hfm x hx)) ?_ hs2).safe hs3)
    · refine nl hF.blk hF.far (fun e => absurd e (by decide)) (fun e => absurd e (by decide)) (fun _ y hy e => ?_) (fun e => absurd e (by decide)) (by decide)
      exact (List.nodup_cons.1 hdf).1 (List.mem_map.2 ⟨y, hy, e.symm⟩)
    · refine nl heb he6 (fun e => absurd e (by decide)) (fun e => absurd e (by decide)) (fun e => absurd e (by decide)) (fun _ y hy hye => ?_) (by decide)
      have hd2 := hde
      rw [show (HS.frames ⟨top, f :: r, .slice (some ⟨g, 0, none⟩) (r.length + 1) cap⟩) = f :: r from rfl, List.filterMap_cons, hev] at hd2
      exact (List.nodup_cons.1 hd2).1 (List.mem_filterMap.2 ⟨y, hy, hye⟩)
    · refine ⟨?_, by rw [hlen]; exact hec⟩
      rw [hlen, het, List.map_map]
      rfl
    · intro x hx
      have hx0 := h.words x (hfm x hx)
      refine ⟨nl hx0.blk (htop x hx) (fun _ y hy => (hsplit x hx).1 y hy) (fun e => absurd e (by decide)) (fun e => absurd e (by decide)) (fun e => absurd e (by decide)) (by decide), fun k hxk => ?_⟩
      obtain ⟨h6, c', hc'⟩ := own_block hx0.own hxk
      exact nl hc' h6 (fun e => absurd e (by decide)) (fun _ y hy => (hsplit x hx).2 y hy k hxk) (fun e => absurd e (by decide)) (fun e => absurd e (by decide)) (by decide)
end Go.Proofs.YtmcoifhiiagfpaaDoor

namespace Go.Proofs.YtmcoifhiiagfpaaDoor
open Go.RowKit
set_option linter.unusedSectionVars false
variable [Pw]

theorem setCell_box {w : World} {k : Nat} {a b : Value} {T : TypeId} (h : w.heap[k]? = some (.cells #[a] T (0, 0))) : (w.setCell ⟨k, 0, none⟩ b).heap[k]? = some (.cells #[b] T (0, 0)) := by
  rw [heap_setCell_same _ _ _ _ _ _ h]
  rfl

/-- What the closure leaves. -/
def Popped (N : Nat) (st : St) (f : Frame) (xs : List Value) (ys : List Part) (w : World) (e : Ending) (w' : World) : Prop :=
  ∃ b, e = .returned (ptr b) ∧ Sb N st (.iface 76 (ptr b) :: xs) (.brace f.seq f.elems :: ys) w' ∧ Still N w w'

theorem still_boxes {N : Nat} {w w' : World} {c2 c3 c4 : Value} (h2 : w.heap[N + 2]? = some (.cells #[c2] 38 (0, 0))) (h3 : w.heap[N + 3]? = some (.cells #[c3] 76 (0, 0))) (h4 : w.heap[N + 4]? = some (.cells #[c4] 77 (0, 0))) (hb : Below N w w') (hk : ∀ k, k ≠ N + 2 → k ≠ N + 3 → k ≠ N + 4 → w'.heap[k]? = w.heap[k]?) : Still N w w' := by
  refine ⟨hb, fun k c T fz hkc hT => ?_⟩
  have no : ∀ {c' : Array Value} {T' : TypeId}, w.heap[k]? = some (.cells c' T' (0, 0)) → T' ≠ 3 → T' ≠ 67 → T' ≠ 69 → False := fun {c' T'} h a1 a2 a3 => by
    rw [hkc] at h
    simp only [Option.some.injEq, Obj.cells.injEq] at h
    rcases hT with e | e | e
    · exact a1 (h.2.1.symm.trans e)
    · exact a2 (h.2.1.symm.trans e)
    · exact a3 (h.2.1.symm.trans e)
  rw [hk k (fun e => by subst e; exact no h2 (by decide) (by decide) (by decide)) (fun e => by subst e; exact no h3 (by decide) (by decide) (by decide)) (fun e => by subst e; exact no h4 (by decide) (by decide) (by decide))]
  exact hkc

/-- The three boxes written. -/
theorem pop_world {N : Nat} {w : World} {c2 c3 c4 v2 v3 v4 : Value} (h2 : w.heap[N + 2]? = some (.cells #[c2] 38 (0, 0))) (h3 : w.heap[N + 3]? = some (.cells #[c3] 76 (0, 0))) (h4 : w.heap[N + 4]? = some (.cells #[c4] 77 (0, 0))) {W : World} (hW : W = ((w.setCell ⟨N + 4, 0, none⟩ v4).setCell ⟨N + 3, 0, none⟩ v3).setCell ⟨N + 2, 0, none⟩ v2) :
    (∀ k, k ≠ N + 2 → k ≠ N + 3 → k ≠ N + 4 → W.heap[k]? = w.heap[k]?) ∧ W.heap[N + 2]? = some (.cells #[v2] 38 (0, 0)) ∧ W.heap[N + 3]? = some (.cells #[v3] 76 (0, 0)) ∧ W.heap[N + 4]? = some (.cells #[v4] 77 (0, 0)) ∧ Still N w W := by
  subst hW
  have k0 : ∀ k, k ≠ N + 2 → k ≠ N + 3 → k ≠ N + 4 → (((w.setCell ⟨N + 4, 0, none⟩ v4).setCell ⟨N + 3, 0, none⟩ v3).setCell ⟨N + 2, 0, none⟩ v2).heap[k]? = w.heap[k]? := fun k n2 n3 n4 => by
    rw [Below.heap_setCell _ _ _ _ n2, Below.heap_setCell _ _ _ _ n3, Below.heap_setCell _ _ _ _ n4]
  refine ⟨k0, ?_, ?_, ?_, still_boxes h2 h3 h4 ((((Below.refl N w).setCell (p := ⟨N + 4, 0, none⟩) (by show N ≤ N + 4; omega) _).setCell (p := ⟨N + 3, 0, none⟩) (by show N ≤ N + 3; omega) _).setCell (p := ⟨N + 2, 0, none⟩) (by show N ≤ N + 2; omega) _) k0⟩
  · refine setCell_box (a := c2) ?_
    rw [Below.heap_setCell _ _ _ _ (by show N + 2 ≠ N + 3; omega), Below.heap_setCell _ _ _ _ (by show N + 2 ≠ N + 4; omega)]
    exact h2
  · rw [Below.heap_setCell _ _ _ _ (by show N + 3 ≠ N + 2; omega)]
    refine setCell_box (a := c3) ?_
    rw [Below.heap_setCell _ _ _ _ (by show N + 3 ≠ N + 4; omega)]
    exact h3
  · rw [Below.heap_setCell _ _ _ _ (by show N + 4 ≠ N + 2; omega), Below.heap_setCell _ _ _ _ (by show N + 4 ≠ N + 3; omega)]
    exact setCell_box h4

/-- The state behind it. -/
theorem pop_end {N : Nat} {top : HW} {hf : HF} {hr : List HF} {g cap : Nat} {xs : List Value} {ys : List Part} {w W : World} (h : SB N ⟨top, hf :: hr, .slice (some ⟨g, 0, none⟩) (hr.length + 1) cap⟩ w) (hx : PartsAt w (HS.live N ⟨top, hf :: hr, .slice (some ⟨g, 0, none⟩) (hr.length + 1) cap⟩) xs ys)
    (hW : W = ((w.setCell ⟨N + 4, 0, none⟩ (.slice (some ⟨g, 0, none⟩) hr.length cap)).setCell ⟨N + 3, 0, none⟩ (HS.curV ⟨top, hr, .slice (some ⟨g, 0, none⟩) hr.length cap⟩)).setCell ⟨N + 2, 0, none⟩ (ptr (HS.acc ⟨top, hr, .slice (some ⟨g, 0, none⟩) hr.length cap⟩).blk)) :
    Popped N ⟨top.ps, hr.map HF.fr⟩ hf.fr xs ys w (.returned (ptr hf.blk)) W := by
  obtain ⟨k0, k2, k3, k4, ks⟩ := pop_world h.b2 h.b3 h.b4 hW
  obtain ⟨p1, p2, p3⟩ := h.pop k0 k2 k3 k4
  exact ⟨hf.blk, rfl, ⟨_, p1, rfl, .cons _ _ _ _ p3 (hx.safe p2)⟩, ks⟩

theorem Popped.drew {N : Nat} {st : St} {f : Frame} {xs : List Value} {ys : List Part} {w : World} {e : Ending} {W : World} (h : Popped N st f xs ys w e W) (hN : N + 5 < w.heap.size) : Popped N st f xs ys w e W.drew := by
  obtain ⟨b, he, h1, h2⟩ := h
  have hb : Below W.heap.size W W.drew := (Below.refl _ _).drew
  exact ⟨b, he, h1.below hb, h2.trans (Still.of_below hb (by have := h2.bel.size; omega))⟩

set_option maxRecDepth 100000 in
set_option maxHeartbeats 2000000 in
theorem pop_any (N : Nat) (st : St) (f : Frame) (r : List Frame) (xs : List Value) (ys : List Part) (w : World) (h : Sb N ⟨st.top, f :: r⟩ xs ys w) :
    Calls Tryd.prog 24 #[ptr (N + 3), ptr (N + 4), ptr (N + 1), ptr (N + 2)] w (Popped N ⟨st.top, r⟩ f xs ys w) := by
  obtain ⟨hs, hsb, hst, hxy⟩ := h
  obtain ⟨top, frames, ov⟩ := hs
  cases frames with
  | nil => simp [HS.st] at hst
  | cons hf hr =>
    simp only [HS.st, St.mk.injEq, List.map_cons, List.cons.injEq] at hst
    obtain ⟨ht, hff, hrr⟩ := hst
    obtain ⟨g, cap, cur, hov, hg6, hgb, hgt, hgc, hgm, hgs⟩ := own_row hsb.opens (by simp)
    obtain rfl : ov = .slice (some ⟨g, 0, none⟩) (hr.length + 1) cap := hov
    have HSB := Lib.hid hsb
    have HXY := Lib.hid hxy
    have b1 := hsb.b1
    have b2 := hsb.b2
    have b3 := hsb.b3
    have b4 := hsb.b4
    have c1 : w.cell? ⟨N + 1, 0, none⟩ = some (.pointer (some ⟨N, 0, none⟩)) := by rw [Lib.cell_of_heap b1]; rfl
    have c2 : w.cell? ⟨N + 2, 0, none⟩ = some (.pointer (some ⟨hf.acc.blk, 0, none⟩)) := by rw [Lib.cell_of_heap b2]; rfl
    have c3 : w.cell? ⟨N + 3, 0, none⟩ = some (.pointer (some ⟨hf.blk, 0, none⟩)) := by rw [Lib.cell_of_heap b3]; rfl
    have c4 : w.cell? ⟨N + 4, 0, none⟩ = some (.slice (some ⟨g, 0, none⟩) (hr.length + 1) cap) := by rw [Lib.cell_of_heap b4]; rfl
    have z2 : w.frozen? ⟨N + 2, 0, none⟩ = false := Lib.frozen_of_heap b2 0
    have z3 : w.frozen? ⟨N + 3, 0, none⟩ = false := Lib.frozen_of_heap b3 0
    have z4 : w.frozen? ⟨N + 4, 0, none⟩ = false := Lib.frozen_of_heap b4 0
    have hz : (hr.length : Int) + 1 ≤ (cap : Int) ∧ (cap : Int) ≤ 9223372036854775807 := by unfold maxLen at hgm; simp at hgc; omega
    have HB := Lib.hid (And.intro b2 (And.intro b3 b4))
    clear hsb hxy b1 b2 b3 b4 hgt hgb hgs
    unfold ptr
    rw [← ht, ← hrr, ← hff]
    clear ht hrr hff
    cases hr with
    | nil =>
      go_enter Tryd.func24, Tryd.ntmps24
      go_wp2
      go_ret
      have hp := pop_end HSB.out HXY.out rfl
      have htb := HSB.out.topBlk
      simp only at htb
      rw [show (HS.acc ⟨top, [], .slice (some ⟨g, 0, none⟩) ([] : List HF).length cap⟩).blk = N from htb] at hp
      exact hp
    | cons hf2 hr2 =>
      have hf2m := HSB.out.frames hf2 (by simp)
      obtain ⟨e2, cap2, cur2, hev2, he26, he2b, he2t, he2c, he2m, _⟩ := own_row hf2m.own (by unfold HF.words; simp)
      have hwl : hf2.words.length = hf2.done.length + 1 := by unfold HF.words; simp
      rw [hwl] at hev2 he2c
      have ho2 := hf2m.own
      rw [hwl, hev2] at ho2
      have d1 := own_cell ho2 hf2.done.length (by omega)
      have d1' : (hf2.words.map fun h => ptr h.blk)[hf2.done.length]? = some (ptr hf2.acc.blk) := by unfold HF.words; simp
      rw [d1'] at d1
      have d2 := own_cell HSB.out.opens hr2.length (by simp; omega)
      have d2' : ((HS.frames ⟨top, hf :: hf2 :: hr2, .slice (some ⟨g, 0, none⟩) ((hf2 :: hr2).length + 1) cap⟩).reverse.map fun f => ptr f.blk)[hr2.length]? = some (ptr hf2.blk) := by simp
      rw [d2'] at d2
      have d3 : w.cell? ⟨hf2.blk, 1, none⟩ = some hf2.ev := by rw [Lib.cell_of_heap hf2m.blk]; rfl
      rw [hev2] at d3
      have hb6 := hf2m.far
      have n1 : ¬ g = N + 4 := by omega
      have hz2 : (hf2.done.length : Int) + 1 ≤ (cap2 : Int) ∧ (cap2 : Int) ≤ 9223372036854775807 := by unfold maxLen at he2m; omega
      simp only [List.length_cons, Nat.add_assoc, Nat.reduceAdd] at c4 hz
      clear hf2m hev2 he2b he2t ho2 d1' d2'
      unfold ptr at d1 d2
      go_enter Tryd.func24, Tryd.ntmps24
      have n2 : ¬ hf2.blk = N + 4 := by omega
      have n3 : ¬ hf2.blk = N + 3 := by omega
      have n4 : ¬ e2 = N + 4 := by omega
      have n5 : ¬ e2 = N + 3 := by omega
      have HNW := Lib.hid HSB.out.lt
      go_upto_region 7 with fail
      have hwr : IntKind.i64.wrap (hf2.done.length : Int) = (hf2.done.length : Int) := by rw [IntKind.wrap_i64]; omega
      go_region_with fail
      all_goals
        go_wp2
        go_ret
        exact (pop_end HSB.out HXY.out rfl).drew HNW.out
end Go.Proofs.YtmcoifhiiagfpaaDoor

namespace Go.Proofs.YtmcoifhiiagfpaaDoor
open Go.RowKit
set_option linter.unusedSectionVars false
variable [Pw]

/-- What is held when a brace has been opened. -/
theorem SB.opens_ {N : Nat} {hs : HS} {w W : World} (h : SB N hs w) {p e b : Nat} {ov' : Value} (hp : w.heap.size ≤ p) (he : w.heap.size ≤ e) (hb : w.heap.size ≤ b)
    (k0 : ∀ k, k < w.heap.size → k ≠ N + 2 → k ≠ N + 3 → k ≠ N + 4 → hs.ov.ownBlock ≠ some k → W.heap[k]? = w.heap[k]?)
    (k2 : W.heap[N + 2]? = some (.cells #[ptr p] 38 (0, 0))) (k3 : W.heap[N + 3]? = some (.cells #[ptr b] 76 (0, 0))) (k4 : W.heap[N + 4]? = some (.cells #[ov'] 77 (0, 0)))
    (kp : W.heap[p]? = some (.cells #[.slice none 0 0] 40 (0, 0))) (ke : W.heap[e]? = some (.cells #[ptr p] 38 (0, 0))) (kb : W.heap[b]? = some (.cells #[.bool false, .slice (some ⟨e, 0, none⟩) 1 1] 80 (0, 0)))
    (ko : W.ownsRow (N + 6) 76 1 ov' (hs.frames.length + 1) ((hs.frames.reverse.map fun f => ptr f.blk) ++ [ptr b])) (hov : ov'.ownBlock = hs.ov.ownBlock ∨ ∃ g, ov'.ownBlock = some g ∧ w.heap.size ≤ g) :
    SB N ⟨hs.top, ⟨b, false, .slice (some ⟨e, 0, none⟩) 1 1, [], ⟨p, .slice none 0 0, [], []⟩⟩ :: hs.frames, ov'⟩ W ∧ Safe (hs.live N) (HS.live N ⟨hs.top, ⟨b, false, .slice (some ⟨e, 0, none⟩) 1 1, [], ⟨p, .slice none 0 0, [], []⟩⟩ :: hs.frames, ov'⟩) w W := by
  have hN := h.lt
  have lt_ : ∀ {k : Nat} {o : Obj}, w.heap[k]? = some o → k < w.heap.size := fun hk => (Array.getElem?_eq_some_iff.1 hk).1
  have keep : ∀ {k : Nat} {c : Array Value} {T : TypeId}, w.heap[k]? = some (.cells c T (0, 0)) → k ≠ N + 2 → k ≠ N + 3 → k ≠ N + 4 → T ≠ 76 → W.heap[k]? = some (.cells c T (0, 0)) := fun {k c T} hk n2 n3 n4 hT => by
    refine (k0 k (lt_ hk) n2 n3 n4 (fun e => ?_)).trans hk
    obtain ⟨_, c', hc⟩ := own_block h.opens e
    rw [hk] at hc
    simp only [Option.some.injEq, Obj.cells.injEq] at hc
    exact hT hc.2.1
  have own_keep : ∀ {T : TypeId} {n v xs}, w.ownsRow (N + 6) T 1 v n xs → T ≠ 76 → W.ownsRow (N + 6) T 1 v n xs := fun {T n v xs} ho hT => own_kept ho (fun g _ h6 ⟨c, hc⟩ => (keep hc (by omega) (by omega) (by omega) hT).trans hc.symm)
  have hwords : HS.words ⟨hs.top, ⟨b, false, .slice (some ⟨e, 0, none⟩) 1 1, [], ⟨p, .slice none 0 0, [], []⟩⟩ :: hs.frames, ov'⟩ = hs.top :: ⟨p, .slice none 0 0, [], []⟩ :: hs.frames.flatMap HF.words := rfl
  have hold : ∀ x ∈ hs.top :: hs.frames.flatMap HF.words, x ∈ hs.words := fun x hx => hx
  have hcase : ∀ x ∈ hs.top :: (⟨p, .slice none 0 0, [], []⟩ : HW) :: hs.frames.flatMap HF.words, x = ⟨p, .slice none 0 0, [], []⟩ ∨ x ∈ hs.words := fun x hx => by
    rcases List.mem_cons.1 hx with rfl | hx
    · exact Or.inr (List.mem_cons_self ..)
    · rcases List.mem_cons.1 hx with rfl | hx
      · exact Or.inl rfl
      · exact Or.inr (List.mem_cons_of_mem _ hx)
  have hsafe0 : Safe (hs.live0 N) (HS.live0 N ⟨hs.top, ⟨b, false, .slice (some ⟨e, 0, none⟩) 1 1, [], ⟨p, .slice none 0 0, [], []⟩⟩ :: hs.frames, ov'⟩) w W := by
    refine ⟨fun k hk hn => k0 k hk (fun e => hn (Or.inl (by omega))) (fun e => hn (Or.inl (by omega))) (fun e => hn (Or.inl (by omega))) (fun e => hn (Or.inr (Or.inr (Or.inr e)))), fun k hk hn hl => hn ?_⟩
    rcases hl with hl | ⟨x, hx, hl⟩ | ⟨f, hf, hl⟩ | hl
    · exact Or.inl hl
    · rw [hwords] at hx
      rcases hcase x hx with rfl | hx
      · rcases hl with rfl | hl
        · exact absurd hk (by show ¬ _ < _; omega)
        · cases hl
      · exact Or.inr (Or.inl ⟨x, hx, hl⟩)
    · rcases List.mem_cons.1 hf with rfl | hf
      · rcases hl with rfl | hl
        · exact absurd hk (by show ¬ _ < _; omega)
        · have : e = k := Option.some.inj hl
          exact absurd hk (by omega)
      · exact Or.inr (Or.inr (Or.inl ⟨f, hf, hl⟩))
    · rcases hov with e' | ⟨g, e', hg⟩
      · exact Or.inr (Or.inr (Or.inr (e'.symm.trans hl)))
      · have : g = k := Option.some.inj (e'.symm.trans hl)
        exact absurd hk (by omega)
  have hsafe := hsafe0.more
  refine ⟨{
    topBlk := h.topBlk
    pw := ⟨h.pw.1, h.pw.2.elim fun c hc => ⟨c, keep hc (by have := h.pw.1; omega) (by have := h.pw.1; omega) (by have := h.pw.1; omega) (by decide)⟩⟩
    b1 := keep h.b1 (by omega) (by omega) (by omega) (by decide)
    b2 := k2
    b3 := k3
    b4 := k4
    b5 := keep h.b5 (by omega) (by omega) (by omega) (by decide)
    opens := by
      rw [show (HS.frames ⟨hs.top, ⟨b, false, .slice (some ⟨e, 0, none⟩) 1 1, [], ⟨p, .slice none 0 0, [], []⟩⟩ :: hs.frames, ov'⟩) = ⟨b, false, .slice (some ⟨e, 0, none⟩) 1 1, [], ⟨p, .slice none 0 0, [], []⟩⟩ :: hs.frames from rfl, List.reverse_cons, List.map_append]
      exact ko
    words := fun x hx => by
      rw [hwords] at hx
      rcases hcase x hx with rfl | hx
      · exact ⟨kp, World.ownsRow_nil _ _ _ _, .nil, Or.inr (by show N + 6 ≤ p; omega)⟩
      · have hk := h.words x hx
        refine ⟨keep hk.blk ?_ ?_ ?_ (by decide), own_keep hk.own (by decide), hk.parts.safe hsafe, hk.far⟩
        · rcases hk.far with e | e <;> omega
        · rcases hk.far with e | e <;> omega
        · rcases hk.far with e | e <;> omega
    frames := fun f hf => by
      rcases List.mem_cons.1 hf with rfl | hf
      · refine ⟨kb, ⟨rfl, Or.inr ⟨e, 1, #[ptr p], rfl, by omega, ke, Nat.le_refl _, by decide, rfl, rfl⟩⟩, by show N + 6 ≤ b; omega⟩
      · have hk := h.frames f hf
        exact ⟨keep hk.blk (by have := hk.far; omega) (by have := hk.far; omega) (by have := hk.far; omega) (by decide), own_keep hk.own (by decide), hk.far⟩
    dw := by
      rw [hwords]
      have hd : ([hs.top.blk] ++ (hs.frames.flatMap HF.words).map HW.blk).Nodup := h.dw
      show ([hs.top.blk] ++ p :: (hs.frames.flatMap HF.words).map HW.blk).Nodup
      refine nodup_join hd (fun hm => ?_)
      obtain ⟨x, hx, e⟩ : ∃ x ∈ hs.words, x.blk = p := by
        rcases List.mem_append.1 hm with hm | hm
        · exact ⟨hs.top, List.mem_cons_self .., (List.mem_singleton.1 hm).symm⟩
        · obtain ⟨x, hx, e⟩ := List.mem_map.1 hm
          exact ⟨x, List.mem_cons_of_mem _ hx, e⟩
      have hl := lt_ (h.words x hx).blk
      omega
    da := by rw [hwords]; exact h.da
    df := by
      show (b :: hs.frames.map HF.blk).Nodup
      refine List.nodup_cons.2 ⟨fun hm => ?_, h.df⟩
      obtain ⟨x, hx, e⟩ := List.mem_map.1 hm
      have := lt_ (h.frames x hx).blk
      omega
    de := by
      show (e :: hs.frames.filterMap fun f => f.ev.ownBlock).Nodup
      refine List.nodup_cons.2 ⟨fun hm => ?_, h.de⟩
      obtain ⟨x, hx, e'⟩ := List.mem_filterMap.1 hm
      obtain ⟨_, c, hc⟩ := own_block (h.frames x hx).own e'
      have := lt_ hc
      omega }, hsafe⟩
end Go.Proofs.YtmcoifhiiagfpaaDoor

namespace Go.Proofs.YtmcoifhiiagfpaaDoor
open Go.RowKit
set_option linter.unusedSectionVars false
variable [Pw]

/-- A new, empty word. -/
def nw (p : Nat) : HW := ⟨p, .slice none 0 0, [], []⟩

/-- What is held when an element has been begun. -/
theorem SB.elem_of {N : Nat} {top : HW} {f : HF} {r : List HF} {ov : Value} {w W : World} (h : SB N ⟨top, f :: r, ov⟩ w) {p : Nat} {sq : Bool} {ev' : Value} {D : List HW} (hD : D.Sublist f.words) (hp : w.heap.size ≤ p)
    (k0 : ∀ k, k < w.heap.size → k ≠ N + 2 → k ≠ f.blk → f.ev.ownBlock ≠ some k → W.heap[k]? = w.heap[k]?)
    (k2 : W.heap[N + 2]? = some (.cells #[ptr p] 38 (0, 0)))
    (kp : W.heap[p]? = some (.cells #[.slice none 0 0] 40 (0, 0))) (kb : W.heap[f.blk]? = some (.cells #[.bool sq, ev'] 80 (0, 0)))
    (ko : W.ownsRow (N + 6) 38 1 ev' (D.length + 1) ((D.map fun x => ptr x.blk) ++ [ptr p])) (hev : ev'.ownBlock = f.ev.ownBlock ∨ ∃ g, ev'.ownBlock = some g ∧ w.heap.size ≤ g) :
    SB N ⟨top, ⟨f.blk, sq, ev', D, nw p⟩ :: r, ov⟩ W ∧ Safe (HS.live N ⟨top, f :: r, ov⟩) (HS.live N ⟨top, ⟨f.blk, sq, ev', D, nw p⟩ :: r, ov⟩) w W := by
  have hN := h.lt
  have hF := h.frames f (List.mem_cons_self ..)
  have lt_ : ∀ {k : Nat} {o : Obj}, w.heap[k]? = some o → k < w.heap.size := fun hk => (Array.getElem?_eq_some_iff.1 hk).1
  have keep : ∀ {k : Nat} {c : Array Value} {T : TypeId}, w.heap[k]? = some (.cells c T (0, 0)) → k ≠ N + 2 → k ≠ f.blk → (T = 38 → f.ev.ownBlock ≠ some k) → W.heap[k]? = some (.cells c T (0, 0)) := fun {k c T} hk n2 n3 hT => by
    refine (k0 k (lt_ hk) n2 n3 (fun e => ?_)).trans hk
    obtain ⟨_, c', hc⟩ := own_block hF.own e
    rw [hk] at hc
    simp only [Option.some.injEq, Obj.cells.injEq] at hc
    exact hT hc.2.1 e
  have nb : ∀ {k : Nat} {c : Array Value} {T : TypeId}, w.heap[k]? = some (.cells c T (0, 0)) → T ≠ 80 → k ≠ f.blk := fun {k c T} hk hT e => by
    rw [e, hF.blk] at hk
    simp only [Option.some.injEq, Obj.cells.injEq] at hk
    exact hT hk.2.1.symm
  have own_keep : ∀ {T : TypeId} {n v xs}, w.ownsRow (N + 6) T 1 v n xs → T ≠ 80 → (T = 38 → ∀ k, v.ownBlock = some k → f.ev.ownBlock ≠ some k) → W.ownsRow (N + 6) T 1 v n xs := fun {T n v xs} ho hT hp => own_kept ho (fun g hg h6 ⟨c, hc⟩ => (keep hc (by omega) (nb hc hT) (fun e => hp e g hg)).trans hc.symm)
  have hwords : HS.words ⟨top, ⟨f.blk, sq, ev', D, nw p⟩ :: r, ov⟩ = (top :: D) ++ nw p :: r.flatMap HF.words := by simp [HS.words, HF.words]
  have hold : HS.words ⟨top, f :: r, ov⟩ = (top :: f.words) ++ r.flatMap HF.words := by simp [HS.words]
  have hsub : ((top :: D) ++ r.flatMap HF.words).Sublist (HS.words ⟨top, f :: r, ov⟩) := by
    rw [hold]
    exact List.Sublist.append (List.Sublist.cons_cons _ hD) (List.Sublist.refl _)
  have hcase : ∀ x ∈ (top :: D) ++ nw p :: r.flatMap HF.words, x = nw p ∨ x ∈ HS.words ⟨top, f :: r, ov⟩ := fun x hx => by
    rcases mem_acc hx with e | e
    · exact Or.inl e
    · exact Or.inr (hsub.subset e)
  have hde := h.de
  have hevr : ∀ y ∈ r, ∀ k, y.ev.ownBlock = some k → f.ev.ownBlock ≠ some k := fun y hy k e e' => by
    have hd2 := hde
    rw [show (HS.frames ⟨top, f :: r, ov⟩) = f :: r from rfl, List.filterMap_cons, e'] at hd2
    exact (List.nodup_cons.1 hd2).1 (List.mem_filterMap.2 ⟨y, hy, e⟩)
  have hsafe0 : Safe (HS.live0 N ⟨top, f :: r, ov⟩) (HS.live0 N ⟨top, ⟨f.blk, sq, ev', D, nw p⟩ :: r, ov⟩) w W := by
    refine ⟨fun k hk hn => k0 k hk (fun e => hn (Or.inl (by omega))) (fun e => hn (Or.inr (Or.inr (Or.inl ⟨f, List.mem_cons_self .., Or.inl e⟩)))) (fun e => hn (Or.inr (Or.inr (Or.inl ⟨f, List.mem_cons_self .., Or.inr e⟩)))), fun k hk hn hl => hn ?_⟩
    rcases hl with hl | ⟨x, hx, hl⟩ | ⟨f', hf, hl⟩ | hl
    · exact Or.inl hl
    · rw [hwords] at hx
      rcases hcase x hx with rfl | hx
      · rcases hl with e | hl
        · have e2 : k = p := e
          exact absurd hk (by omega)
        · cases hl
      · exact Or.inr (Or.inl ⟨x, hx, hl⟩)
    · rcases List.mem_cons.1 hf with rfl | hf
      · rcases hl with rfl | hl
        · exact Or.inr (Or.inr (Or.inl ⟨f, List.mem_cons_self .., Or.inl rfl⟩))
        · rcases hev with e' | ⟨g, e', hg⟩
          · exact Or.inr (Or.inr (Or.inl ⟨f, List.mem_cons_self .., Or.inr (e'.symm.trans hl)⟩))
          · have : g = k := Option.some.inj (e'.symm.trans hl)
            exact absurd hk (by omega)
      · exact Or.inr (Or.inr (Or.inl ⟨f', List.mem_cons_of_mem _ hf, hl⟩))
    · exact Or.inr (Or.inr (Or.inr hl))
  have hsafe := hsafe0.more
  have hlen : HF.words ⟨f.blk, sq, ev', D, nw p⟩ = D ++ [nw p] := rfl
  refine ⟨{
    topBlk := h.topBlk
    pw := ⟨h.pw.1, h.pw.2.elim fun c hc => ⟨c, keep hc (by have := h.pw.1; omega) (nb hc (by decide)) (fun e => absurd e (by decide))⟩⟩
    b1 := keep h.b1 (by omega) (nb h.b1 (by decide)) (fun _ e => by have := (own_block hF.own e).1; omega)
    b2 := k2
    b3 := keep h.b3 (by omega) (nb h.b3 (by decide)) (fun e => absurd e (by decide))
    b4 := keep h.b4 (by omega) (nb h.b4 (by decide)) (fun e => absurd e (by decide))
    b5 := keep h.b5 (by omega) (nb h.b5 (by decide)) (fun e => absurd e (by decide))
    opens := by
      have ho := h.opens
      rw [List.map_reverse] at ho ⊢
      exact own_keep ho (by decide) (fun e => absurd e (by decide))
    words := fun x hx => by
      rw [hwords] at hx
      rcases hcase x hx with rfl | hx
      · exact ⟨kp, World.ownsRow_nil _ _ _ _, .nil, Or.inr (by show N + 6 ≤ p; omega)⟩
      · have hk := h.words x hx
        refine ⟨keep hk.blk ?_ (nb hk.blk (by decide)) (fun e => absurd e (by decide)), own_keep hk.own (by decide) (fun e => absurd e (by decide)), hk.parts.safe hsafe, hk.far⟩
        rcases hk.far with e | e <;> omega
    frames := fun f' hf => by
      rcases List.mem_cons.1 hf with rfl | hf
      · refine ⟨kb, ?_, hF.far⟩
        rw [hlen, List.length_append, List.map_append]
        exact ko
      · have hk := h.frames f' (List.mem_cons_of_mem _ hf)
        refine ⟨keep hk.blk (by have := hk.far; omega) (fun e => ?_) (fun e => absurd e (by decide)), own_keep hk.own (by decide) (fun _ k e => hevr f' hf k e), hk.far⟩
        exact (List.nodup_cons.1 h.df).1 (List.mem_map.2 ⟨f', hf, e⟩)
    dw := by
      rw [hwords, List.map_append, List.map_cons]
      have hd : (((top :: D) ++ r.flatMap HF.words).map HW.blk).Nodup := List.Nodup.sublist (hsub.map HW.blk) h.dw
      rw [List.map_append] at hd
      refine nodup_join hd (fun hm => ?_)
      have hm2 : (nw p).blk ∈ (HS.words ⟨top, f :: r, ov⟩).map HW.blk := by
        refine (hsub.map HW.blk).subset ?_
        rw [List.map_append]
        exact hm
      obtain ⟨x, hx, e⟩ := List.mem_map.1 hm2
      have hl := lt_ (h.words x hx).blk
      have e' : x.blk = p := e
      omega
    da := by
      rw [hwords, List.filterMap_append, List.filterMap_cons]
      have hd : (((top :: D) ++ r.flatMap HF.words).filterMap fun h => h.v.ownBlock).Nodup := List.Nodup.sublist (hsub.filterMap _) h.da
      rw [List.filterMap_append] at hd
      exact hd
    df := h.df
    de := by
      show (List.filterMap (fun f : HF => f.ev.ownBlock) ((⟨f.blk, sq, ev', D, nw p⟩ : HF) :: r)).Nodup
      have hd2 : (List.filterMap (fun f : HF => f.ev.ownBlock) (f :: r)).Nodup := hde
      rcases hev with e' | ⟨g, e', hg⟩
      · rw [List.filterMap_cons] at hd2 ⊢
        simp only [e']
        exact hd2
      · rw [List.filterMap_cons]
        simp only [e']
        refine List.nodup_cons.2 ⟨fun hm => ?_, ?_⟩
        · obtain ⟨x, hx, e2⟩ := List.mem_filterMap.1 hm
          obtain ⟨_, c, hc⟩ := own_block (h.frames x (List.mem_cons_of_mem _ hx)).own e2
          have := lt_ hc
          omega
        · rw [List.filterMap_cons] at hd2
          cases hfe : f.ev.ownBlock with
          | none => rw [hfe] at hd2; exact hd2
          | some k => rw [hfe] at hd2; exact (List.nodup_cons.1 hd2).2 }, hsafe⟩

theorem SB.elem {N : Nat} {top : HW} {f : HF} {r : List HF} {ov : Value} {w W : World} (h : SB N ⟨top, f :: r, ov⟩ w) {p : Nat} {sq : Bool} {ev' : Value} (hp : w.heap.size ≤ p)
    (k0 : ∀ k, k < w.heap.size → k ≠ N + 2 → k ≠ f.blk → f.ev.ownBlock ≠ some k → W.heap[k]? = w.heap[k]?)
    (k2 : W.heap[N + 2]? = some (.cells #[ptr p] 38 (0, 0)))
    (kp : W.heap[p]? = some (.cells #[.slice none 0 0] 40 (0, 0))) (kb : W.heap[f.blk]? = some (.cells #[.bool sq, ev'] 80 (0, 0)))
    (ko : W.ownsRow (N + 6) 38 1 ev' (f.words.length + 1) ((f.words.map fun x => ptr x.blk) ++ [ptr p])) (hev : ev'.ownBlock = f.ev.ownBlock ∨ ∃ g, ev'.ownBlock = some g ∧ w.heap.size ≤ g) :
    SB N ⟨top, ⟨f.blk, sq, ev', f.words, nw p⟩ :: r, ov⟩ W ∧ Safe (HS.live N ⟨top, f :: r, ov⟩) (HS.live N ⟨top, ⟨f.blk, sq, ev', f.words, nw p⟩ :: r, ov⟩) w W :=
  h.elem_of (List.Sublist.refl _) hp k0 k2 kp kb ko hev
end Go.Proofs.YtmcoifhiiagfpaaDoor
