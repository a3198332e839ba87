/-
  What the decoded items are in memory; what calls leave of them. No walk here.
  The law's decoder: the ends of a sequence.
  The law's decoder: a word, given the contract of an item.
  The law's decoder: an item.
  The law's decoder: an item, walked.
-/
import Derived.Test.YtmcoifhiiagfpaaDoorGl
namespace Go.Proofs.YtmcoifhiiagfpaaDoor
open Go.RowKit
set_option linter.unusedVariables false

abbrev strV (l : List UInt8) : Value := .string (bytesOf l)
abbrev ptrV (q : Nat) : Value := .pointer (some ⟨q, 0, none⟩)

/-- A finished slice of pointers to items, its row not among L. -/
def PtrsAt (w : World) (L : Nat → Prop) (v : Value) (ptrs : List Nat) : Prop :=
  (v = .slice none 0 0 ∧ ptrs = []) ∨ ∃ g cap cur, v = .slice (some ⟨g, 0, none⟩) ptrs.length cap ∧ ¬ L g ∧ w.heap[g]? = some (.cells cur 28 (0, 0)) ∧ cur.toList.take ptrs.length = ptrs.map ptrV ∧ ptrs.length ≤ cap
/-- A row of one type's cells that begins so. -/
def RowOf (w : World) (L : Nat → Prop) (T : TypeId) (g n cap : Nat) (xs : List Value) : Prop := ¬ L g ∧ ∃ cur, w.heap[g]? = some (.cells cur T (0, 0)) ∧ cur.toList.take n = xs ∧ n ≤ cap

mutual
inductive ItemAt (w : World) (L : Nat → Prop) : Nat → Item → Prop
  | lit (q : Nat) (s : List UInt8) (a b : Value) (hL : ¬ L q) (h : w.heap[q]? = some (.cells #[.int .i64 0, strV s, a, b] 44 (0, 0))) : ItemAt w L q (.lit s)
  | sq (q : Nat) (s : List UInt8) (a b : Value) (hL : ¬ L q) (h : w.heap[q]? = some (.cells #[.int .i64 1, strV s, a, b] 44 (0, 0))) (hs : s.length ≤ 5) : ItemAt w L q (.sq 0 (strV s))
  | lst (q : Nat) (es : List (List Item)) (a b : Value) (g cap : Nat) (vs : List Value) (hL : ¬ L q) (h : w.heap[q]? = some (.cells #[.int .i64 2, a, .slice (some ⟨g, 0, none⟩) es.length cap, b] 44 (0, 0))) (hr : RowOf w L 26 g es.length cap vs) (he : ElemsAt w L vs es) : ItemAt w L q (.lst es)
  | seq (q : Nat) (ends : List (List UInt8)) (a b : Value) (g cap : Nat) (hL : ¬ L q) (h : w.heap[q]? = some (.cells #[.int .i64 3, a, b, .slice (some ⟨g, 0, none⟩) ends.length cap] 44 (0, 0))) (hr : RowOf w L 9 g ends.length cap (ends.map strV)) : ItemAt w L q (.seq ends)
inductive ItemsAt (w : World) (L : Nat → Prop) : List Nat → List Item → Prop
  | nil : ItemsAt w L [] []
  | cons (q : Nat) (i : Item) (qs : List Nat) (is : List Item) (h1 : ItemAt w L q i) (h2 : ItemsAt w L qs is) : ItemsAt w L (q :: qs) (i :: is)
inductive ElemsAt (w : World) (L : Nat → Prop) : List Value → List (List Item) → Prop
  | nil : ElemsAt w L [] []
  | cons (v : Value) (ptrs : List Nat) (is : List Item) (vs : List Value) (es : List (List Item)) (h1 : PtrsAt w L v ptrs) (h2 : ItemsAt w L ptrs is) (h3 : ElemsAt w L vs es) : ElemsAt w L (v :: vs) (is :: es)
end

/-- The blocks of items, and of their rows, are as they were, but for L; and those of L' are new or of L. -/
def Frm (L L' : Nat → Prop) (w w' : World) : Prop := ∀ (k : Nat) (c : Array Value) (T : TypeId), w.heap[k]? = some (.cells c T (0, 0)) → (T = 44 ∨ T = 28 ∨ T = 26 ∨ T = 9) → ¬ L k → w'.heap[k]? = some (.cells c T (0, 0)) ∧ ¬ L' k
theorem Frm.refl (L : Nat → Prop) (w : World) : Frm L L w w := fun _ _ _ h _ hl => ⟨h, hl⟩
theorem Frm.trans {L L1 L2 : Nat → Prop} {w w1 w2 : World} (h : Frm L L1 w w1) (k : Frm L1 L2 w1 w2) : Frm L L2 w w2 := fun i c T hi hT hl => k i c T (h i c T hi hT hl).1 hT (h i c T hi hT hl).2
section
variable {L L' : Nat → Prop} {w w' : World} (hf : Frm L L' w w')
include hf
theorem PtrsAt.frm {v : Value} {ptrs : List Nat} (h : PtrsAt w L v ptrs) : PtrsAt w' L' v ptrs := by
  rcases h with h | ⟨g, cap, cur, h1, hl, h2, h3⟩
  · exact Or.inl h
  · have := hf g cur _ h2 (by simp) hl
    exact Or.inr ⟨g, cap, cur, h1, this.2, this.1, h3⟩
theorem RowOf.frm {T : TypeId} (hT : T = 44 ∨ T = 28 ∨ T = 26 ∨ T = 9) {g n cap : Nat} {xs : List Value} (h : RowOf w L T g n cap xs) : RowOf w' L' T g n cap xs := by
  obtain ⟨hl, cur, h1, h2⟩ := h
  have := hf g cur _ h1 hT hl
  exact ⟨this.2, cur, this.1, h2⟩
theorem items_frm : (∀ {q i}, ItemAt w L q i → ItemAt w' L' q i) ∧ (∀ {qs is}, ItemsAt w L qs is → ItemsAt w' L' qs is) ∧ (∀ {vs es}, ElemsAt w L vs es → ElemsAt w' L' vs es) := by
  have k0 : ∀ {q c}, w.heap[q]? = some (.cells c 44 (0, 0)) → ¬ L q → w'.heap[q]? = some (.cells c 44 (0, 0)) ∧ ¬ L' q := fun {q c} h hl => hf q _ _ h (Or.inl rfl) hl
  have k1 : ∀ q s a b, ¬ L q → w.heap[q]? = some (.cells #[.int .i64 0, strV s, a, b] 44 (0, 0)) → ItemAt w' L' q (.lit s) := fun q s a b hl h => .lit q s a b (k0 h hl).2 (k0 h hl).1
  have k2 : ∀ q s a b, ¬ L q → w.heap[q]? = some (.cells #[.int .i64 1, strV s, a, b] 44 (0, 0)) → s.length ≤ 5 → ItemAt w' L' q (.sq 0 (strV s)) := fun q s a b hl h hs => .sq q s a b (k0 h hl).2 (k0 h hl).1 hs
  refine ⟨fun {q i} h => ItemAt.rec (motive_1 := fun q i _ => ItemAt w' L' q i) (motive_2 := fun qs is _ => ItemsAt w' L' qs is) (motive_3 := fun vs es _ => ElemsAt w' L' vs es) k1 k2
      (fun q es a b g cap vs hl h hr _ ih => .lst q es a b g cap vs (k0 h hl).2 (k0 h hl).1 (hr.frm hf (by simp)) ih) (fun q ends a b g cap hl h hr => .seq q ends a b g cap (k0 h hl).2 (k0 h hl).1 (hr.frm hf (by simp)))
      .nil (fun q i qs is _ _ a b => .cons q i qs is a b) .nil (fun v ptrs is vs es h1 _ _ a b => .cons v ptrs is vs es (h1.frm hf) a b) h,
    fun {qs is} h => ItemsAt.rec (motive_1 := fun q i _ => ItemAt w' L' q i) (motive_2 := fun qs is _ => ItemsAt w' L' qs is) (motive_3 := fun vs es _ => ElemsAt w' L' vs es) k1 k2
      (fun q es a b g cap vs hl h hr _ ih => .lst q es a b g cap vs (k0 h hl).2 (k0 h hl).1 (hr.frm hf (by simp)) ih) (fun q ends a b g cap hl h hr => .seq q ends a b g cap (k0 h hl).2 (k0 h hl).1 (hr.frm hf (by simp)))
      .nil (fun q i qs is _ _ a b => .cons q i qs is a b) .nil (fun v ptrs is vs es h1 _ _ a b => .cons v ptrs is vs es (h1.frm hf) a b) h,
    fun {vs es} h => ElemsAt.rec (motive_1 := fun q i _ => ItemAt w' L' q i) (motive_2 := fun qs is _ => ItemsAt w' L' qs is) (motive_3 := fun vs es _ => ElemsAt w' L' vs es) k1 k2
      (fun q es a b g cap vs hl h hr _ ih => .lst q es a b g cap vs (k0 h hl).2 (k0 h hl).1 (hr.frm hf (by simp)) ih) (fun q ends a b g cap hl h hr => .seq q ends a b g cap (k0 h hl).2 (k0 h hl).1 (hr.frm hf (by simp)))
      .nil (fun q i qs is _ _ a b => .cons q i qs is a b) .nil (fun v ptrs is vs es h1 _ _ a b => .cons v ptrs is vs es (h1.frm hf) a b) h⟩
theorem ItemAt.frm {q : Nat} {i : Item} (h : ItemAt w L q i) : ItemAt w' L' q i := (items_frm hf).1 h
theorem ItemsAt.frm {qs : List Nat} {is : List Item} (h : ItemsAt w L qs is) : ItemsAt w' L' qs is := (items_frm hf).2.1 h
theorem ElemsAt.frm {vs : List Value} {es : List (List Item)} (h : ElemsAt w L vs es) : ElemsAt w' L' vs es := (items_frm hf).2.2 h
end
theorem ItemsAt.append {w : World} {L : Nat → Prop} : ∀ {qs : List Nat} {is : List Item} {rs : List Nat} {js : List Item}, ItemsAt w L qs is → ItemsAt w L rs js → ItemsAt w L (qs ++ rs) (is ++ js)
  | [], _, _, _, .nil, h => h
  | _ :: _, _, _, _, .cons q i qs is h1 h2, h => .cons q i _ _ h1 (ItemsAt.append h2 h)
theorem ElemsAt.append {w : World} {L : Nat → Prop} : ∀ {qs : List Value} {is : List (List Item)} {rs : List Value} {js : List (List Item)}, ElemsAt w L qs is → ElemsAt w L rs js → ElemsAt w L (qs ++ rs) (is ++ js)
  | [], _, _, _, .nil, h => h
  | _ :: _, _, _, _, .cons v ptrs is vs es h1 h2 h3, h => .cons v ptrs is _ _ h1 h2 (ElemsAt.append h3 h)
theorem ItemsAt.length {w : World} {L : Nat → Prop} : ∀ {qs : List Nat} {is : List Item}, ItemsAt w L qs is → qs.length = is.length
  | [], _, .nil => rfl
  | _ :: _, _, .cons _ _ _ _ _ h => by simp [h.length]
theorem ElemsAt.length {w : World} {L : Nat → Prop} : ∀ {qs : List Value} {is : List (List Item)}, ElemsAt w L qs is → qs.length = is.length
  | [], _, .nil => rfl
  | _ :: _, _, .cons _ _ _ _ _ _ _ h => by simp [h.length]

/-! ### What a call that turns the decoder leaves -/
theorem Kept.frm {p i : Nat} {l : List UInt8} {w w' : World} (h : Kept p w w') (hd : Dec w p l i) (L : Nat → Prop) : Frm L L w w' := by
  obtain ⟨c, hc⟩ := hd.cells
  intro k x T hk hT hL
  have hlt := (Array.getElem?_eq_some_iff.1 hk).1
  have hne : k ≠ p := fun e => by
    rw [e, hc] at hk
    simp only [Option.some.injEq, Obj.cells.injEq, and_true] at hk
    rcases hT with h | h | h | h <;> (rw [h] at hk; exact absurd hk.2 (by decide))
  exact ⟨(h.block k hlt hne).trans hk, hL⟩
theorem frm_below {w w' : World} (h : Below w.heap.size w w') (L : Nat → Prop) : Frm L L w w' := fun k c T hk _ hL => ⟨(h.block k (Array.getElem?_eq_some_iff.1 hk).1).trans hk, hL⟩
/-- The live blocks: those that were there at N, and the row of v. -/
def Liv (N : Nat) (v : Value) (k : Nat) : Prop := k < N ∨ v.ownBlock = some k
theorem Frm.fresh {N M : Nat} {v : Value} {w : World} (h1 : N ≤ M) (h2 : ∀ k, v.ownBlock = some k → k < M) : Frm (fun k => k < M) (Liv N v) w w := fun k c T h _ hl => ⟨h, fun e => e.elim (fun e => hl (by omega)) (fun e => hl (h2 k e))⟩
theorem Frm.done {N : Nat} {v : Value} {w : World} : Frm (Liv N v) (fun k => k < N) w w := fun k c T h _ hl => ⟨h, fun e => hl (Or.inl e)⟩
/-- The row of v has been appended to. -/
theorem Frm.app {N : Nat} {v v' : Value} {w w' : World} (hN : N ≤ w.heap.size) (hg : w.grownBy w' v.ownBlock) (hat : v'.ownBlock = v.ownBlock ∨ ∃ k, v'.ownBlock = some k ∧ w.heap.size ≤ k) : Frm (Liv N v) (Liv N v') w w' := fun k c T h _ hl => by
  have hlt := (Array.getElem?_eq_some_iff.1 h).1
  refine ⟨(hg.block k hlt (fun e => hl (Or.inr e.symm))).trans h, fun e => ?_⟩
  rcases e with e | e
  · exact hl (Or.inl e)
  · rcases hat with h2 | ⟨j, h2, h3⟩
    · exact hl (Or.inr (by rw [← h2]; exact e))
    · rw [h2] at e
      have := Option.some.inj e
      omega
theorem Kept.grown {p : Nat} {w w' : World} (h : Kept p w w') : w.grownBy w' (some p) := ⟨h.os, h.tape, h.output, h.size, fun k hk hn => h.block k hk (fun e => hn (by rw [e]))⟩
theorem Kept.app {p : Nat} {w w1 w2 : World} (h : Kept p w w1) {row : Option Nat} (hg : w1.grownBy w2 row) (hr : ∀ k, row = some k → w.heap.size ≤ k) : Kept p w w2 :=
  ⟨fun j hj hn => (hg.block j (by have := h.size; omega) (fun e => by have := hr j e.symm; omega)).trans (h.block j hj hn), Nat.le_trans h.size hg.size, hg.os.trans h.os, hg.tape.trans h.tape, hg.output.trans h.output⟩
theorem Dec.app {p i : Nat} {l : List UInt8} {w1 w2 : World} (h : Dec w1 p l i) {row : Option Nat} (hg : w1.grownBy w2 row) (hr : ∀ k, row = some k → p < k) : Dec w2 p l i :=
  h.belowC (C := p + 1) ((Below.refl (p + 1) w1).grown hg (by have := h.lt; omega) (fun k hk => hr k hk)) (by omega)
theorem tab_block {w w' : World} (h : Tab w) (hb : w'.heap[3]? = w.heap[3]?) : Tab w' := by
  unfold Tab Lib.TabIs World.var? at h ⊢
  rw [show Tryd.prog.globalNamed "internal/strconv.uint64pow10" = some 3 by kernel_rfl] at h ⊢
  simp only [Option.bind_some] at h ⊢
  rw [hb]
  exact h
theorem tab_lt {w : World} (h : Tab w) : 3 < w.heap.size := by
  unfold Tab Lib.TabIs World.var? at h
  rw [show Tryd.prog.globalNamed "internal/strconv.uint64pow10" = some 3 by kernel_rfl] at h
  rcases Nat.lt_or_ge 3 w.heap.size with h' | h'
  · exact h'
  · simp only [Option.bind_some] at h
    rw [Array.getElem?_eq_none h'] at h
    cases h
theorem tab_kept {p : Nat} {w w' : World} (h : Tab w) (hk : Kept p w w') (hp : 6 ≤ p) : Tab w' := tab_block h (hk.block _ (tab_lt h) (by omega))
theorem tab_below {C : Nat} {w w' : World} (h : Tab w) (hk : Below C w w') (hC : 6 ≤ C) : Tab w' := tab_block h (hk.block _ (by omega))
end Go.Proofs.YtmcoifhiiagfpaaDoor

namespace Go.Proofs.YtmcoifhiiagfpaaDoor
open Go.RowKit
set_option linter.unusedVariables false

theorem info_string_parts : ∃ i, Tryd.prog.info? 9 = some i ∧ i.zero = some (.string ⟨#[]⟩) ∧ i.size = 1 ∧ i.bytes = 16 := info_parts Tryd.info_str
theorem own_blk {w : World} {base n size : Nat} {e : TypeId} {v : Value} {xs : List Value} (h : w.ownsRow base e size v n xs) {g : Nat} (hg : v.ownBlock = some g) : base ≤ g ∧ ∃ c, w.heap[g]? = some (.cells c e (0, 0)) := by
  rcases h.2 with ⟨rfl, _⟩ | ⟨g', cap, cur, rfl, hb, hg', _⟩
  · cases hg
  · simp only [Value.ownBlock, Option.some.injEq] at hg
    subst hg
    exact ⟨hb, cur, hg'⟩
theorem own_rw {w : World} {base n : Nat} {e : TypeId} {v : Value} {xs : List Value} (h : w.ownsRow base e 1 v n xs) (hn : 0 < n) : ∃ g cap cur, v = .slice (some ⟨g, 0, none⟩) n cap ∧ base ≤ g ∧ w.heap[g]? = some (.cells cur e (0, 0)) ∧ cur.toList.take n = xs ∧ n ≤ cap ∧ cap ≤ maxLen ∧ cur.size = cap := by
  rcases h.2 with ⟨_, h0⟩ | ⟨g, cap, cur, hv, hb, hg, h1, h2, h3, h4⟩
  · omega
  · exact ⟨g, cap, cur, hv, hb, hg, by simpa using h4, h1, h2, by simpa using h3⟩

theorem next_two {l : List UInt8} {i j : Nat} (h1 : i ≤ j) (h2 : i < l.length → i < j) : j < l.length → i + 1 ≤ j := fun e => by have := h2 (by omega); omega
theorem next_more {l : List UInt8} {i j j2 c : Nat} (h : j < l.length → i + c ≤ j) (h1 : j ≤ j2) (h2 : j < l.length → j < j2) : j2 < l.length → i + (c + 1) ≤ j2 := fun e => by
  have := h (by omega)
  have := h2 (by omega)
  omega
/-- The ends so far. -/
structure SeAt (c p i : Nat) (l : List UInt8) (w : World) (v : Value) (xs : List (List UInt8)) (w' : World) : Prop where
  own : w'.ownsRow w.heap.size 9 1 v xs.length (xs.map strV)
  dec : ∃ j, i ≤ j ∧ (j < l.length → i + c ≤ j) ∧ Dec w' p l j
  kept : Kept p w w'
  tab : Tab w'
  pb : p < w.heap.size
  p6 : 6 ≤ p
  len : xs.length ≤ 3
section
variable {c p i : Nat} {l : List UInt8} {w w1 w2 : World} {v : Value} {xs : List (List UInt8)}
theorem SeAt.start {j : Nat} (hp : p < w.heap.size) (h6 : 6 ≤ p) (hd : Dec w1 p l j) (hi : i ≤ j) (hc : j < l.length → i + 1 ≤ j) (hk : Kept p w w1) (ht : Tab w) : SeAt 1 p i l w (.slice none 0 0) [] w1 :=
  ⟨World.ownsRow_nil _ _ _ _, ⟨j, hi, hc, hd⟩, hk, tab_kept ht hk h6, hp, h6, by simp⟩
theorem SeAt.next (h : SeAt c p i l w v xs w1) {j2 : Nat} (hd : Dec w2 p l j2) (hj : i ≤ j2) (hc : j2 < l.length → i + (c + 1) ≤ j2) (hk : Kept p w1 w2) : SeAt (c + 1) p i l w v xs w2 :=
  ⟨h.own.kept hk.grown (by
    by_cases e : v.ownBlock = none
    · exact Or.inl e
    · refine Or.inr (fun e2 => ?_)
      have := (own_blk h.own e2).1
      have := h.pb
      omega), ⟨j2, hj, hc, hd⟩, h.kept.trans hk, tab_kept h.tab hk h.p6, h.pb, h.p6, h.len⟩
theorem SeAt.call (h : SeAt c p i l w v xs w1) (hb : Below w1.heap.size w1 w2) : SeAt c p i l w v xs w2 := by
  obtain ⟨j, hj, hc, hd⟩ := h.dec
  exact ⟨h.own.kept (row := none) ⟨hb.os, hb.tape, hb.output, hb.size, fun k hk _ => hb.block k hk⟩ (by cases v.ownBlock <;> simp), ⟨j, hj, hc, hd.below hb⟩, h.kept.then hb h.kept.size, tab_below h.tab hb (by have := h.kept.size; have := h.pb; have := h.p6; omega), h.pb, h.p6, h.len⟩
theorem SeAt.push (h : SeAt c p i l w v xs w1) {v' : Value} {x : List UInt8} (o : Obj) (hl : xs.length < 3) (hown : w2.ownsRow w.heap.size 9 1 v' (xs.length + 1) (xs.map strV ++ [strV x])) (hg : (w1.alloc o).grownBy w2 v.ownBlock) : SeAt c p i l w v' (xs ++ [x]) w2 := by
  have h1 := h.call ((Below.refl w1.heap.size w1).alloc (Nat.le_refl _) o)
  have hr : ∀ k, v.ownBlock = some k → w.heap.size ≤ k := fun k hk => (own_blk h.own hk).1
  obtain ⟨j, hj, hc, hd⟩ := h1.dec
  refine ⟨by rw [List.length_append, List.map_append]; exact hown, ⟨j, hj, hc, hd.app hg (fun k hk => by have := hr k hk; have := h.pb; omega)⟩, h1.kept.app hg hr, tab_block h1.tab (hg.block _ (tab_lt h1.tab) (fun e => by have := hr _ e.symm; have := h.pb; have := h.p6; omega)), h.pb, h.p6, by simp; omega⟩
end
/-- What the ends may be. -/
def SeqOut (p : Nat) (l : List UInt8) (i : Nat) (w : World) (e : Ending) (w' : World) : Prop :=
  ∃ (ends : List (List UInt8)) (g cap j : Nat), e = .returned (.slice (some ⟨g, 0, none⟩) ends.length cap) ∧ RowOf w' (fun k => k < w.heap.size) 9 g ends.length cap (ends.map strV) ∧ okI (.seq ends) = true ∧ ends.length ≤ 3 ∧ (∀ x ∈ ends, x.length ≤ 3) ∧ Dec w' p l j ∧ Kept p w w' ∧ i ≤ j ∧ (j < l.length → i + 3 ≤ j)
theorem SeAt.out {c p i : Nat} {l : List UInt8} {w w1 : World} {v : Value} {xs : List (List UInt8)} (h : SeAt c p i l w v xs w1) (h3 : 3 ≤ c) (hx : xs ≠ []) (hok : okI (.seq xs) = true) (hl : ∀ x ∈ xs, x.length ≤ 3) : SeqOut p l i w (.returned v) w1 := by
  obtain ⟨j, hj, hc, hd⟩ := h.dec
  obtain ⟨g, cap, cur, hv, hgb, hg, ht, hcc, _⟩ := own_rw h.own (List.length_pos_iff.2 hx)
  exact ⟨xs, g, cap, j, by rw [hv], ⟨Nat.not_lt.2 hgb, cur, hg, ht, hcc⟩, hok, h.len, hl, hd, h.kept, hj, fun e => by have := hc e; omega⟩

set_option maxRecDepth 100000 in
set_option maxHeartbeats 2000000 in
theorem seq_any (p : Nat) (l : List UInt8) (i : Nat) (w : World) (h : Dec w p l i) (hl : l.length ≤ 1048576) (h6 : 6 ≤ p) (ht : Tab w) :
    Calls Tryd.prog 15 #[.pointer (some ⟨p, 0, none⟩)] w (SeqOut p l i w) := by
  obtain ⟨ib, hib, ibz, ibs, ibb⟩ := info_string_parts
  have HNN : Hid (∀ wr j, Dec wr p l j → Calls Tryd.prog 12 #[.pointer (some ⟨p, 0, none⟩)] wr (NextN p l j wr)) := Lib.hid (fun wr j h => next_n p l j wr h hl)
  have HS := Lib.hid (fun w1 j (hd : Dec w1 p l j) (hi : i ≤ j) (hc : j < l.length → i + 1 ≤ j) (hk : Kept p w w1) => SeAt.start (i := i) h.lt h6 hd hi hc hk ht)
  have HH := Lib.hid h
  clear h ht
  go_enter Tryd.func15, Tryd.ntmps15
  go_upto_region 3 with (go_at_call 12; refine (HNN.out _ _ HH.out).mono ?_; rintro e w1 ⟨y, j1, rfl, hy, hd1, hk1, hi1, hb1, _⟩; have H0 := Lib.hid (HS.out w1 j1 hd1 hi1 (next_two hi1 hb1) hk1); clear hd1 hk1 hi1)
  have hy0 : (0 : Int) ≤ (y : Int) := by omega
  by_cases h2 : (y : Int) % 2 = 0
  · have z2 : ((y : Int) % 2 == 0) = true := by simp [h2]
    go_upto_region 5 with (first
      | (go_at_call 12; obtain ⟨j, hj, hc, hd⟩ := H0.out.dec; refine (HNN.out _ j hd).mono ?_; rintro e w1a ⟨y1, j1, rfl, hy1, hd1, hk1, hi1, hb1, _⟩; have H0a := Lib.hid (H0.out.next hd1 (Nat.le_trans hj hi1) (next_more hc hi1 hb1) hk1); clear hd1 hk1 hi1 hb1 hd hj hc)
      | (go_at_call 34; refine (itoa_end _ (by omega) _ H0a.out.tab).mono ?_; rintro e w1b ⟨⟨x1, rfl, hx1⟩, hb⟩; have H0b := Lib.hid (H0a.out.call hb); have HX1 := Lib.hid hx1; clear hb hx1)
      | (at_builtin; refine wpList_append_own _ rfl _ _ 42 rfl w.heap.size 9 ib (.string ⟨#[]⟩) 1 16 Tryd.underlying42 hib ibz ibs ibb rfl (by decide) _ _ _ rfl (H0b.out.own.alloc _) ⟨_, 0, none⟩ 1 1 [strV x1] rfl rfl (cell_one_new _ _ _) (by intro u hu; simp at hu; subst hu; rfl) (by unfold maxLen; simp) (by simp) (by have := H0b.out.kept.size; simp; omega) ?_; intro v1 w1c hown hgrow _; have H1 := Lib.hid (H0b.out.push _ (by simp) hown hgrow); clear hown hgrow))
    go_upto_region 8 with (first
      | (go_at_call 12; obtain ⟨j, hj, hc, hd⟩ := H1.out.dec; refine (HNN.out _ j hd).mono ?_; rintro e w2a ⟨y2, j2, rfl, hy2, hd2, hk2, hi2, hb2, _⟩; have H1a := Lib.hid (H1.out.next hd2 (Nat.le_trans hj hi2) (next_more hc hi2 hb2) hk2); clear hd2 hk2 hi2 hb2 hd hj hc)
      | (go_at_call 34; refine (itoa_end _ (by omega) _ H1a.out.tab).mono ?_; rintro e w2b ⟨⟨x2, rfl, hx2⟩, hb⟩; have H1b := Lib.hid (H1a.out.call hb); have HX2 := Lib.hid hx2; clear hb hx2)
      | (at_builtin; refine wpList_append_own _ rfl _ _ 42 rfl w.heap.size 9 ib (.string ⟨#[]⟩) 1 16 Tryd.underlying42 hib ibz ibs ibb rfl (by decide) _ _ _ rfl (H1b.out.own.alloc _) ⟨_, 0, none⟩ 1 1 [strV x2] rfl rfl (cell_one_new _ _ _) (by intro u hu; simp at hu; subst hu; rfl) (by unfold maxLen; simp) (by simp) (by have := H1b.out.kept.size; simp; omega) ?_; intro v2 w2c hown hgrow _; have H2 := Lib.hid (H1b.out.push _ (by simp) hown hgrow); clear hown hgrow))
    by_cases h4 : (2 : Int) ≤ (y : Int) % 4
    · have z4 : decide ((2 : Int) ≤ (y : Int) % 4) = true := by simp [h4]
      go_upto_region 10 with (first
        | (go_at_call 12; obtain ⟨j, hj, hc, hd⟩ := H2.out.dec; refine (HNN.out _ j hd).mono ?_; rintro e w3a ⟨y3, j3, rfl, hy3, hd3, hk3, hi3, hb3, _⟩; have H2a := Lib.hid (H2.out.next hd3 (Nat.le_trans hj hi3) (next_more hc hi3 hb3) hk3); clear hd3 hk3 hi3 hb3 hd hj hc)
        | (go_at_call 34; refine (itoa_end _ (by omega) _ H2a.out.tab).mono ?_; rintro e w3b ⟨⟨x3, rfl, hx3⟩, hb⟩; have H2b := Lib.hid (H2a.out.call hb); have HX3 := Lib.hid hx3; clear hb hx3)
        | (at_builtin; refine wpList_append_own _ rfl _ _ 42 rfl w.heap.size 9 ib (.string ⟨#[]⟩) 1 16 Tryd.underlying42 hib ibz ibs ibb rfl (by decide) _ _ _ rfl (H2b.out.own.alloc _) ⟨_, 0, none⟩ 1 1 [strV x3] rfl rfl (cell_one_new _ _ _) (by intro u hu; simp at hu; subst hu; rfl) (by unfold maxLen; simp) (by simp) (by have := H2b.out.kept.size; simp; omega) ?_; intro v3 w3c hown hgrow _; have H3 := Lib.hid (H2b.out.push _ (by simp) hown hgrow); clear hown hgrow))
      go_wp2
      go_ret
      exact H3.out.out (by decide) (by simp) (ok_three HX1.out HX2.out HX3.out) (by simp [HX1.out.len, HX2.out.len, HX3.out.len])
    · have z4 : decide ((2 : Int) ≤ (y : Int) % 4) = false := by simp [h4]
      go_wp2
      go_ret
      exact H2.out.out (by decide) (by simp) (ok_two HX1.out HX2.out) (by simp [HX1.out.len, HX2.out.len])
  · have z2 : ((y : Int) % 2 == 0) = false := by simp [h2]
    go_upto_region 7 with (first
      | (go_at_call 12; obtain ⟨j, hj, hc, hd⟩ := H0.out.dec; refine (HNN.out _ j hd).mono ?_; rintro e w1a ⟨y1, j1, rfl, hy1, hd1, hk1, hi1, hb1, _⟩; have H0a := Lib.hid (H0.out.next hd1 (Nat.le_trans hj hi1) (next_more hc hi1 hb1) hk1); clear hd1 hk1 hi1 hb1 hd hj hc)
      | (go_at_call 35; refine (brletter_any _ (by omega) _).mono ?_; rintro e w1b ⟨⟨x1, rfl, hx1⟩, rfl⟩; have H0b := H0a; have HX1 := Lib.hid hx1; clear hx1)
      | (at_builtin; refine wpList_append_own _ rfl _ _ 42 rfl w.heap.size 9 ib (.string ⟨#[]⟩) 1 16 Tryd.underlying42 hib ibz ibs ibb rfl (by decide) _ _ _ rfl (H0b.out.own.alloc _) ⟨_, 0, none⟩ 1 1 [strV x1] rfl rfl (cell_one_new _ _ _) (by intro u hu; simp at hu; subst hu; rfl) (by unfold maxLen; simp) (by simp) (by have := H0b.out.kept.size; simp; omega) ?_; intro v1 w1c hown hgrow _; have H1 := Lib.hid (H0b.out.push _ (by simp) hown hgrow); clear hown hgrow))
    go_upto_region 8 with (first
      | (go_at_call 12; obtain ⟨j, hj, hc, hd⟩ := H1.out.dec; refine (HNN.out _ j hd).mono ?_; rintro e w2a ⟨y2, j2, rfl, hy2, hd2, hk2, hi2, hb2, _⟩; have H1a := Lib.hid (H1.out.next hd2 (Nat.le_trans hj hi2) (next_more hc hi2 hb2) hk2); clear hd2 hk2 hi2 hb2 hd hj hc)
      | (go_at_call 35; refine (brletter_any _ (by omega) _).mono ?_; rintro e w2b ⟨⟨x2, rfl, hx2⟩, rfl⟩; have H1b := H1a; have HX2 := Lib.hid hx2; clear hx2)
      | (at_builtin; refine wpList_append_own _ rfl _ _ 42 rfl w.heap.size 9 ib (.string ⟨#[]⟩) 1 16 Tryd.underlying42 hib ibz ibs ibb rfl (by decide) _ _ _ rfl (H1b.out.own.alloc _) ⟨_, 0, none⟩ 1 1 [strV x2] rfl rfl (cell_one_new _ _ _) (by intro u hu; simp at hu; subst hu; rfl) (by unfold maxLen; simp) (by simp) (by have := H1b.out.kept.size; simp; omega) ?_; intro v2 w2c hown hgrow _; have H2 := Lib.hid (H1b.out.push _ (by simp) hown hgrow); clear hown hgrow))
    by_cases h4 : (2 : Int) ≤ (y : Int) % 4
    · have z4 : decide ((2 : Int) ≤ (y : Int) % 4) = true := by simp [h4]
      go_upto_region 10 with (first
        | (go_at_call 12; obtain ⟨j, hj, hc, hd⟩ := H2.out.dec; refine (HNN.out _ j hd).mono ?_; rintro e w3a ⟨y3, j3, rfl, hy3, hd3, hk3, hi3, hb3, _⟩; have H2a := Lib.hid (H2.out.next hd3 (Nat.le_trans hj hi3) (next_more hc hi3 hb3) hk3); clear hd3 hk3 hi3 hb3 hd hj hc)
        | (go_at_call 34; refine (itoa_end _ (by omega) _ H2a.out.tab).mono ?_; rintro e w3b ⟨⟨x3, rfl, hx3⟩, hb⟩; have H2b := Lib.hid (H2a.out.call hb); have HX3 := Lib.hid hx3; clear hb hx3)
        | (at_builtin; refine wpList_append_own _ rfl _ _ 42 rfl w.heap.size 9 ib (.string ⟨#[]⟩) 1 16 Tryd.underlying42 hib ibz ibs ibb rfl (by decide) _ _ _ rfl (H2b.out.own.alloc _) ⟨_, 0, none⟩ 1 1 [strV x3] rfl rfl (cell_one_new _ _ _) (by intro u hu; simp at hu; subst hu; rfl) (by unfold maxLen; simp) (by simp) (by have := H2b.out.kept.size; simp; omega) ?_; intro v3 w3c hown hgrow _; have H3 := Lib.hid (H2b.out.push _ (by simp) hown hgrow); clear hown hgrow))
      go_wp2
      go_ret
      exact H3.out.out (by decide) (by simp) (ok_three HX1.out HX2.out HX3.out) (by simp [HX1.out.len, HX2.out.len, HX3.out.len])
    · have z4 : decide ((2 : Int) ≤ (y : Int) % 4) = false := by simp [h4]
      go_wp2
      go_ret
      exact H2.out.out (by decide) (by simp) (ok_two HX1.out HX2.out) (by simp [HX1.out.len, HX2.out.len])
end Go.Proofs.YtmcoifhiiagfpaaDoor

namespace Go.Proofs.YtmcoifhiiagfpaaDoor
open Go.RowKit
set_option linter.unusedVariables false

/-! ### How great items are -/
def symC : List Sym → Nat
  | [] => 0
  | .b _ :: r => 1 + symC r
  | .o _ :: r => 5 + symC r
theorem symC_append : ∀ a b : List Sym, symC (a ++ b) = symC a + symC b
  | [], b => by simp [symC]
  | .b x :: r, b => by rw [List.cons_append, symC, symC, symC_append r b]; omega
  | .o x :: r, b => by rw [List.cons_append, symC, symC, symC_append r b]; omega
theorem symC_bytes : ∀ s : List UInt8, symC (s.map .b) = s.length
  | [] => rfl
  | x :: r => by rw [List.map_cons, symC, symC_bytes r, List.length_cons]; omega
def costI (i : Item) : Nat := symC (symI i)
def costW (w : List Item) : Nat := symC (symW w)
def costE (es : List (List Item)) : Nat := (es.map costW).sum
theorem symW_append : ∀ a b : List Item, symW (a ++ b) = symW a ++ symW b
  | [], b => by simp [symW]
  | i :: r, b => by rw [List.cons_append, symW, symW, symW_append r b, List.append_assoc]
theorem symW_one (i : Item) : symW [i] = symI i := by simp [symW]
theorem costW_snoc (is : List Item) (i : Item) : costW (is ++ [i]) = costW is + costI i := by
  unfold costW costI
  rw [symW_append, symC_append, symW_one]
theorem costE_snoc (es : List (List Item)) (w : List Item) : costE (es ++ [w]) = costE es + costW w := by simp [costE]
theorem okW_append : ∀ a b : List Item, okW (a ++ b) = (okW a && okW b)
  | [], b => by simp [okW]
  | i :: r, b => by rw [List.cons_append, okW, okW, okW_append r b, Bool.and_assoc]
theorem okW_snoc {is : List Item} {i : Item} (h : okW is = true) (hi : okI i = true) : okW (is ++ [i]) = true := by
  rw [okW_append, h]
  simp [okW, hi]
theorem okE_append : ∀ a b : List (List Item), okE (a ++ b) = (okE a && okE b)
  | [], b => by simp [okE]
  | i :: r, b => by rw [List.cons_append, okE, okE, okE_append r b, Bool.and_assoc]
theorem okE_snoc {es : List (List Item)} {w : List Item} (h : okE es = true) (hi : okW w = true) : okE (es ++ [w]) = true := by
  rw [okE_append, h]
  simp [okE, hi]
theorem cost_er : ∀ es : List (List Item), symC (symER es) = es.length + costE es
  | [] => by simp [symER, symC, costE]
  | w :: r => by
    have h := cost_er r
    have e : costE (w :: r) = costW w + costE r := by simp [costE]
    rw [symER, symC, symC_append, h, e, List.length_cons]
    unfold costW
    omega
theorem cost_lst (es : List (List Item)) (h1 : 1 ≤ es.length) : costI (.lst es) ≤ 1 + es.length + costE es := by
  unfold costI
  rw [symI, symC, symC_append]
  cases es with
  | nil => simp at h1
  | cons w r =>
    have h := cost_er r
    have e : costE (w :: r) = costW w + costE r := by simp [costE]
    rw [symE, symC_append, h, e, List.length_cons]
    unfold costW
    simp [symC]
    omega
theorem cost_lit (s : List UInt8) : costI (.lit s) = s.length := by unfold costI; rw [symI, symC_bytes]
theorem cost_sq (t : TypeId) (x : Value) : costI (.sq t x) = 5 := by simp [costI, symI, symC]
theorem cost_seq {ends : List (List UInt8)} (h3 : ends.length ≤ 3) (hl : ∀ x ∈ ends, x.length ≤ 3) : costI (.seq ends) ≤ 15 := by
  match ends, h3, hl with
  | [], _, _ => simp [costI, symI, symC]
  | [a], _, hl =>
    have := hl a (by simp)
    simp [costI, symI, symC, symC_append, symC_bytes]
    omega
  | [a, b], _, hl =>
    have := hl a (by simp)
    have := hl b (by simp)
    simp [costI, symI, symC, symC_append, symC_bytes]
    omega
  | [a, b, c], _, hl =>
    have := hl a (by simp)
    have := hl b (by simp)
    have := hl c (by simp)
    simp [costI, symI, symC, symC_append, symC_bytes]
    omega
  | _ :: _ :: _ :: _ :: _, h, _ => simp at h

def slack (l : List UInt8) (j E : Nat) : Nat := if j = l.length then E else 0
theorem slack_le (l : List UInt8) (j E : Nat) : slack l j E ≤ E := by unfold slack; split <;> omega
theorem slack_end {l : List UInt8} {j : Nat} (h : j = l.length) (E : Nat) : slack l j E = E := by unfold slack; rw [if_pos h]
theorem slack_in {l : List UInt8} {j : Nat} (h : j ≠ l.length) (E : Nat) : slack l j E = 0 := by unfold slack; rw [if_neg h]

/-- What an item may be. -/
def ItemOut (E p : Nat) (l : List UInt8) (i : Nat) (w : World) (e : Ending) (w' : World) : Prop :=
  ∃ (q : Nat) (it : Item) (j : Nat), e = .returned (ptrV q) ∧ ItemAt w' (fun k => k < w.heap.size) q it ∧ okI it = true ∧ Dec w' p l j ∧ Kept p w w' ∧ i ≤ j ∧ (i < l.length → i < j) ∧ costI it ≤ 5 * (j - i) + slack l j E ∧ (i = l.length → costI it ≤ 1)
/-- What a word may be. -/
def WordOut (E p : Nat) (l : List UInt8) (i : Nat) (w : World) (e : Ending) (w' : World) : Prop :=
  ∃ (v : Value) (ptrs : List Nat) (is : List Item) (j : Nat), e = .returned v ∧ PtrsAt w' (fun k => k < w.heap.size) v ptrs ∧ ItemsAt w' (fun k => k < w.heap.size) ptrs is ∧ okW is = true ∧ Dec w' p l j ∧ Kept p w w' ∧ i ≤ j ∧ costW is ≤ 5 * (j - i) + slack l j E ∧ (i = l.length → costW is = 0)

/-- The word under way. -/
structure WoAt (E p i : Nat) (l : List UInt8) (w : World) (v : Value) (ptrs : List Nat) (is : List Item) (w' : World) : Prop where
  own : w'.ownsRow w.heap.size 28 1 v is.length (ptrs.map ptrV)
  items : ItemsAt w' (Liv w.heap.size v) ptrs is
  ok : okW is = true
  dec : ∃ j, i ≤ j ∧ Dec w' p l j ∧ costW is ≤ 5 * (j - i) + slack l j (E + is.length)
  kept : Kept p w w'
  tab : Tab w'
  pb : p < w.heap.size
  p6 : 6 ≤ p
section
variable {E p i : Nat} {l : List UInt8} {w w1 w2 w3 : World} {v : Value} {ptrs : List Nat} {is : List Item}
theorem WoAt.start {j : Nat} (hp : p < w.heap.size) (h6 : 6 ≤ p) (hd : Dec w1 p l j) (hi : i ≤ j) (hk : Kept p w w1) (ht : Tab w) : WoAt E p i l w (.slice none 0 0) [] [] w1 :=
  ⟨World.ownsRow_nil _ _ _ _, .nil, rfl, ⟨j, hi, hd, by simp [costW, symW, symC]⟩, hk, tab_kept ht hk h6, hp, h6⟩
/-- An item has been decoded. -/
structure WoIt (E p i : Nat) (l : List UInt8) (w : World) (v : Value) (ptrs : List Nat) (is : List Item) (q : Nat) (it : Item) (w' : World) : Prop where
  own : w'.ownsRow w.heap.size 28 1 v is.length (ptrs.map ptrV)
  items : ItemsAt w' (Liv w.heap.size v) (ptrs ++ [q]) (is ++ [it])
  ok : okW (is ++ [it]) = true
  dec : ∃ j, i ≤ j ∧ Dec w' p l j ∧ costW (is ++ [it]) ≤ 5 * (j - i) + slack l j (E + (is ++ [it]).length)
  kept : Kept p w w'
  tab : Tab w'
  pb : p < w.heap.size
  p6 : 6 ≤ p
theorem WoAt.item (h : WoAt E p i l w v ptrs is w1) {j : Nat} (hj : i ≤ j) (hd : Dec w1 p l j) (hc : costW is ≤ 5 * (j - i) + slack l j (E + is.length)) {q j2 : Nat} {it : Item}
    (h1 : ItemAt w2 (fun k => k < w1.heap.size) q it) (h2 : okI it = true) (h3 : Dec w2 p l j2) (h4 : Kept p w1 w2) (h5 : j ≤ j2) (h6 : costI it ≤ 5 * (j2 - j) + slack l j2 E) (h7 : j = l.length → costI it ≤ 1) : WoIt E p i l w v ptrs is q it w2 where
  own := h.own.kept h4.grown (by
    by_cases e : v.ownBlock = none
    · exact Or.inl e
    · refine Or.inr (fun e2 => ?_)
      have := (own_blk h.own e2).1
      have := h.pb
      omega)
  items := (h.items.frm (h4.frm hd _)).append (.cons _ _ _ _ (h1.frm (Frm.fresh h.kept.size (fun k hk => (h.own.lt k hk).2))) .nil)
  ok := okW_snoc h.ok h2
  dec := by
    have hl2 := h3.1
    refine ⟨j2, by omega, h3, ?_⟩
    rw [costW_snoc, List.length_append, List.length_singleton]
    by_cases e : j = l.length
    · have e2 : j2 = l.length := by omega
      rw [slack_end e] at hc
      rw [slack_end e2]
      have := h7 e
      omega
    · rw [slack_in e] at hc
      by_cases e2 : j2 = l.length
      · rw [slack_end e2] at h6 ⊢
        omega
      · rw [slack_in e2] at h6 ⊢
        omega
  kept := h.kept.trans h4
  tab := tab_kept h.tab h4 h.p6
  pb := h.pb
  p6 := h.p6
theorem WoIt.push {q : Nat} {it : Item} (h : WoIt E p i l w v ptrs is q it w1) {g cap : Nat} (o : Obj) (hown : w2.ownsRow w.heap.size 28 1 (.slice (some ⟨g, 0, none⟩) (is.length + 1) cap) (is.length + 1) (ptrs.map ptrV ++ [ptrV q])) (hg : (w1.alloc o).grownBy w2 v.ownBlock) (hat : v.ownBlock = some g ∨ g = (w1.alloc o).heap.size) :
    WoAt E p i l w (.slice (some ⟨g, 0, none⟩) (is.length + 1) cap) (ptrs ++ [q]) (is ++ [it]) w2 := by
  have hb : Below w1.heap.size w1 (w1.alloc o) := (Below.refl w1.heap.size w1).alloc (Nat.le_refl _) o
  have hr : ∀ k, v.ownBlock = some k → w.heap.size ≤ k := fun k hk => (own_blk h.own hk).1
  obtain ⟨j, hj, hd, hc⟩ := h.dec
  have hN := h.kept.size
  refine ⟨by rw [List.length_append, List.map_append]; exact hown, (h.items.frm (frm_below hb _)).frm (Frm.app (by have := hb.size; omega) hg ?_), h.ok, ⟨j, hj, (hd.below hb).app hg (fun k hk => by have := hr k hk; have := h.pb; omega), hc⟩, (h.kept.then hb hN).app hg hr, ?_, h.pb, h.p6⟩
  · rcases hat with e | e
    · exact Or.inl (by rw [e]; rfl)
    · exact Or.inr ⟨g, rfl, by rw [e]; exact Nat.le_refl _⟩
  · have ht := tab_below h.tab hb (by have := h.pb; have := h.p6; omega)
    exact tab_block ht (hg.block _ (tab_lt ht) (fun e => by have := hr _ e.symm; have := h.pb; have := h.p6; omega))
theorem WoAt.out (h : WoAt E p i l w v ptrs is w1) (hl : is.length ≤ 3) (h0 : i = l.length → is = []) : WordOut (E + 3) p l i w (.returned v) w1 := by
  obtain ⟨j, hj, hd, hc⟩ := h.dec
  have hlen := h.items.length
  refine ⟨v, ptrs, is, j, rfl, ?_, h.items.frm Frm.done, h.ok, hd, h.kept, hj, ?_, fun e => by rw [h0 e]; rfl⟩
  · rcases h.own.2 with ⟨hv, hn⟩ | ⟨g, cap, cur, hv, hb, hg, h1, h2, h3, h4⟩
    · exact Or.inl ⟨hv, List.length_eq_zero_iff.1 (by omega)⟩
    · exact Or.inr ⟨g, cap, cur, by rw [hlen]; exact hv, Nat.not_lt.2 hb, hg, by rw [hlen]; simpa using h4, by omega⟩
  · by_cases e : j = l.length
    · rw [slack_end e] at hc ⊢
      omega
    · rw [slack_in e] at hc ⊢
      omega
end
/-- The contract of an item at a depth. -/
def ItemC (E p : Nat) (l : List UInt8) (d : Nat) : Prop := ∀ (w : World) (i : Nat), Dec w p l i → Tab w → Calls Tryd.prog 5 #[.pointer (some ⟨p, 0, none⟩), .int .i64 (d : Int)] w (ItemOut E p l i w)
def WordC (E p : Nat) (l : List UInt8) (d : Nat) : Prop := ∀ (w : World) (i : Nat), Dec w p l i → Tab w → Calls Tryd.prog 14 #[.pointer (some ⟨p, 0, none⟩), .int .i64 (d : Int)] w (WordOut E p l i w)

theorem Tryd.info_pitem : (Tryd.prog.info? 28).map (fun i => (i.zero, i.size, i.bytes)) = some (some (.pointer none), 1, 8) := by kernel_rfl

set_option maxRecDepth 100000 in
set_option maxHeartbeats 2000000 in
theorem word_any (E p : Nat) (l : List UInt8) (d : Nat) (hl : l.length ≤ 1048576) (h6 : 6 ≤ p) (hC : ItemC E p l d) : WordC (E + 3) p l d := by
  intro w i h ht
  obtain ⟨ib, hib, ibz, ibs, ibb⟩ := info_parts Tryd.info_pitem
  have HC := Lib.hid hC
  have HN := Lib.hid (next_n p l i w h hl)
  have HS := Lib.hid (fun w1 j (hd : Dec w1 p l j) (hi : i ≤ j) (hk : Kept p w w1) => WoAt.start (E := E) (i := i) h.lt h6 hd hi hk ht)
  clear h ht hC
  go_enter Tryd.func14, Tryd.ntmps14
  go_upto_region 2 with (go_at_call 12; refine HN.out.mono ?_; rintro e w1 ⟨y, j1, rfl, hy, hd1, hk1, hi1, hb1, hz1⟩; have H0 := Lib.hid (HS.out w1 j1 hd1 hi1 hk1); have HZ := Lib.hid hz1; clear hd1 hk1 hi1 hb1 hz1)
  have hyn : ((y : Int) % 4) = ((y % 4 : Nat) : Int) := by omega
  have HZ4 : Hid (i = l.length → y % 4 = 0) := Lib.hid (fun he => by rw [HZ.out he])
  have hyb : ((y % 4 : Nat) : Int) ≤ 3 := by omega
  rw [hyn]
  clear hyn
  obtain ⟨z, hzz⟩ : ∃ z, y % 4 = z := ⟨_, rfl⟩
  rw [hzz] at hyb HZ4 ⊢
  clear hzz HZ
  go_wp2_with fail
  go_loopg [6, 7] z (fun gk s6 s7 wr => ∃ (k : Nat) (ptrs : List Nat) (is : List Item), s7 = .int .i64 (k : Int) ∧ k ≤ z ∧ gk = z - k ∧ is.length = k ∧ Hid (WoAt E p i l w s6 ptrs is wr))
  case atStart => exact ⟨0, [], [], rfl, by omega, rfl, rfl, H0⟩
  case round =>
    rename_i v6 v7
    obtain ⟨k, ptrs, is, rfl, hk, rfl, hlen, HX⟩ := hrel
    by_cases hkn : k < z
    · have hkz : (k : Int) < (z : Int) := by omega
      have HLEN := Lib.hid hlen
      clear hlen
      have HKZ := Lib.hid (show is.length ≤ 3 by rw [HLEN.out]; omega)
      obtain ⟨j, hj, hd, hc⟩ := HX.out.dec
      have HJ := Lib.hid (And.intro hj (And.intro hd hc))
      have HCJ := Lib.hid (HC.out wr j hd HX.out.tab)
      clear hj hd hc
      go_wp2_with (first
        | (go_at_call 5; refine HCJ.out.mono ?_; rintro e w2 ⟨q, it, j2, rfl, a1, a2, a3, a4, a5, _, a7, a8⟩; have H2 := Lib.hid (HX.out.item HJ.out.1 HJ.out.2.1 HJ.out.2.2 a1 a2 a3 a4 a5 a7 a8); clear a1 a2 a3 a4 a5 a7 a8)
        | (at_builtin; refine wpList_append_lies _ rfl _ _ 26 rfl w.heap.size 28 ib (.pointer none) 1 8 Tryd.underlying26 hib ibz ibs ibb rfl (by decide) _ _ _ rfl (H2.out.own.alloc _) ⟨_, 0, none⟩ 1 1 [ptrV q] rfl rfl (cell_one_new _ _ _) (by intro u hu; simp at hu; subst hu; rfl) (by decide) (by have := HKZ.out; unfold maxLen; omega) (by have := HKZ.out; omega) (by have := H2.out.kept.size; simp; omega) _ rfl ?_; intro g cap w3 hown hgrow hat _; have H3 := Lib.hid (H2.out.push _ hown hgrow hat); clear hown hgrow hat))
      go_roundg (z - (k + 1))
      case measure => omega
      case rel => exact ⟨k + 1, _, _, by go_num, by omega, rfl, by rw [List.length_append, HLEN.out]; rfl, H3⟩
    · have hkz : ¬ (k : Int) < (z : Int) := by omega
      have HO := Lib.hid (HX.out.out (by omega) (fun he => by have := HZ4.out he; exact List.length_eq_zero_iff.1 (by omega)))
      clear hlen
      go_wp2_with fail
      go_ret
      exact HO.out
end Go.Proofs.YtmcoifhiiagfpaaDoor

namespace Go.Proofs.YtmcoifhiiagfpaaDoor
open Go.RowKit
set_option linter.unusedVariables false

def litAl : ByteArray := ⟨#[97, 98, 120, 121, 122, 48, 49, 57, 45]⟩
def sqAl : ByteArray := ⟨#[97, 98, 123, 125, 44, 46, 92, 120]⟩
theorem litAl_plain : ∀ x ∈ litAl.data.toList, plainB x = true := by decide
theorem text_lit (p : Nat) (l : List UInt8) (i : Nat) (w : World) (h : Dec w p l i) (hl : l.length ≤ 1048576) :
    Calls Tryd.prog 13 #[.pointer (some ⟨p, 0, none⟩), .string ⟨#[97, 98, 120, 121, 122, 48, 49, 57, 45]⟩, .int .i64 4, .bool false] w (TextOut litAl 4 false p l i w) :=
  text_any litAl 4 false p l i w h hl (by decide) (by decide)
theorem text_sq (p : Nat) (l : List UInt8) (i : Nat) (w : World) (h : Dec w p l i) (hl : l.length ≤ 1048576) :
    Calls Tryd.prog 13 #[.pointer (some ⟨p, 0, none⟩), .string ⟨#[97, 98, 123, 125, 44, 46, 92, 120]⟩, .int .i64 5, .bool true] w (TextOut sqAl 5 true p l i w) :=
  text_any sqAl 5 true p l i w h hl (by decide) (by decide)

/-- The item's number is read. -/
structure ItAt (p i : Nat) (l : List UInt8) (w : World) (i1 : Nat) (w1 : World) : Prop where
  dec : Dec w1 p l i1
  kept : Kept p w w1
  le : i ≤ i1
  lt : i < l.length → i < i1
  tab : Tab w1
  pb : p < w.heap.size
  p6 : 6 ≤ p
section
variable {E p i i1 : Nat} {l : List UInt8} {w w1 w2 : World}
theorem newItem (w2 : World) (c : Array Value) : (w2.alloc (.cells c 44)).heap[w2.heap.size]? = some (.cells c 44 (0, 0)) := heap_alloc_new w2 _
theorem ItAt.lit (h : ItAt p i l w i1 w1) (hE : 15 ≤ E) {s : List UInt8} {j : Nat} (hd : Dec w2 p l j) (hk : Kept p w1 w2) (hj : i1 ≤ j) (hs : s.length ≤ 4) (ha : ∀ x ∈ s, x ∈ litAl.data.toList) (hn : s ≠ []) (h1 : i1 = l.length → s.length ≤ 1) :
    ItemOut E p l i w (.returned (ptrV w2.heap.size)) (w2.alloc (.cells #[.int .i64 0, strV s, .slice none 0 0, .slice none 0 0] 44)) := by
  have hb : Below w2.heap.size w2 (w2.alloc (.cells #[.int .i64 0, strV s, .slice none 0 0, .slice none 0 0] 44)) := (Below.refl w2.heap.size w2).alloc (Nat.le_refl _) _
  have k2 := h.kept.trans hk
  have hle := h.le
  have hl1 := h.dec.1
  have hl2 := hd.1
  refine ⟨_, .lit s, j, rfl, .lit _ s _ _ (by have := k2.size; omega) (newItem w2 _), ?_, hd.below hb, k2.then hb k2.size, by omega, fun e => by have := h.lt e; omega, ?_, fun e => by rw [cost_lit]; exact h1 (by omega)⟩
  · have hp : s.all plainB = true := List.all_eq_true.2 (fun x hx => litAl_plain x (ha x hx))
    cases s with
    | nil => exact absurd rfl hn
    | cons a r => simp [okI]; simpa using hp
  · rw [cost_lit]
    by_cases e : i = l.length
    · have := h1 (by omega)
      rw [slack_end (show j = l.length by omega)]
      omega
    · have := h.lt (by omega)
      omega
theorem ItAt.sq (h : ItAt p i l w i1 w1) {s : List UInt8} {j : Nat} (hd : Dec w2 p l j) (hk : Kept p w1 w2) (hj : i1 ≤ j) (hs : s.length ≤ 5) (hne : i ≠ l.length) :
    ItemOut E p l i w (.returned (ptrV w2.heap.size)) (w2.alloc (.cells #[.int .i64 1, strV s, .slice none 0 0, .slice none 0 0] 44)) := by
  have hb : Below w2.heap.size w2 (w2.alloc (.cells #[.int .i64 1, strV s, .slice none 0 0, .slice none 0 0] 44)) := (Below.refl w2.heap.size w2).alloc (Nat.le_refl _) _
  have k2 := h.kept.trans hk
  have hle := h.le
  have hl1 := h.dec.1
  have hl2 := hd.1
  have := h.lt (by omega)
  exact ⟨_, .sq 0 (strV s), j, rfl, .sq _ s _ _ (by have := k2.size; omega) (newItem w2 _) hs, rfl, hd.below hb, k2.then hb k2.size, by omega, fun e => by omega, by rw [cost_sq]; omega, fun e => absurd e hne⟩
theorem ItAt.seq (h : ItAt p i l w i1 w1) (hE : 15 ≤ E) (hne : i ≠ l.length) {ends : List (List UInt8)} {g cap j : Nat} (hr : RowOf w2 (fun k => k < w1.heap.size) 9 g ends.length cap (ends.map strV)) (hok : okI (.seq ends) = true) (h3 : ends.length ≤ 3) (hx : ∀ x ∈ ends, x.length ≤ 3) (hd : Dec w2 p l j) (hk : Kept p w1 w2) (hj : i1 ≤ j) (hj3 : j < l.length → i1 + 3 ≤ j) :
    ItemOut E p l i w (.returned (ptrV w2.heap.size)) (w2.alloc (.cells #[.int .i64 3, .string ⟨#[]⟩, .slice none 0 0, .slice (some ⟨g, 0, none⟩) ends.length cap] 44)) := by
  have hb : Below w2.heap.size w2 (w2.alloc (.cells #[.int .i64 3, .string ⟨#[]⟩, .slice none 0 0, .slice (some ⟨g, 0, none⟩) ends.length cap] 44)) := (Below.refl w2.heap.size w2).alloc (Nat.le_refl _) _
  have k2 := h.kept.trans hk
  have hle := h.le
  have hl1 := h.dec.1
  have hl2 := hd.1
  have := h.lt (by omega)
  have hN := h.kept.size
  have hr2 : RowOf (w2.alloc (.cells #[.int .i64 3, .string ⟨#[]⟩, .slice none 0 0, .slice (some ⟨g, 0, none⟩) ends.length cap] 44)) (fun k => k < w.heap.size) 9 g ends.length cap (ends.map strV) := by
    obtain ⟨a, cur, b, c⟩ := hr
    exact ⟨fun e => a (by omega), cur, (hb.block g (Array.getElem?_eq_some_iff.1 b).1).trans b, c⟩
  refine ⟨_, .seq ends, j, rfl, .seq _ ends _ _ g cap (by have := k2.size; omega) (newItem w2 _) hr2, hok, hd.below hb, k2.then hb k2.size, by omega, fun e => by omega, ?_, fun e => absurd e hne⟩
  have hc := cost_seq h3 hx
  by_cases e : j = l.length
  · rw [slack_end e]
    omega
  · have := hj3 (by omega)
    rw [slack_in e]
    omega
end

/-- The live blocks, and the item under way. -/
def LivB (N b : Nat) (v : Value) (k : Nat) : Prop := Liv N v k ∨ k = b
theorem FrmB.fresh {N M b : Nat} {v : Value} {w : World} (h1 : N ≤ M) (h2 : ∀ k, v.ownBlock = some k → k < M) (hb : b < M) : Frm (fun k => k < M) (LivB N b v) w w := fun k c T h hT hl => ⟨h, fun e => e.elim (fun e => (Frm.fresh h1 h2 k c T h hT hl).2 e) (fun e => hl (by omega))⟩
theorem FrmB.done {N b : Nat} {v : Value} {w : World} : Frm (LivB N b v) (fun k => k < N) w w := fun k c T h _ hl => ⟨h, fun e => hl (Or.inl (Or.inl e))⟩
theorem FrmB.app {N b : Nat} {v v' : Value} {w w' : World} (hN : N ≤ w.heap.size) (hg : w.grownBy w' v.ownBlock) (hat : v'.ownBlock = v.ownBlock ∨ ∃ k, v'.ownBlock = some k ∧ w.heap.size ≤ k) : Frm (LivB N b v) (LivB N b v') w w' := fun k c T h hT hl =>
  let r := Frm.app hN hg hat k c T h hT (fun e => hl (Or.inl e))
  ⟨r.1, fun e => e.elim r.2 (fun e => hl (Or.inr e))⟩
theorem FrmB.set {N b : Nat} {v : Value} {w : World} (o : Nat) (x : Value) : Frm (LivB N b v) (LivB N b v) w (w.setCell ⟨b, o, none⟩ x) := fun k c T h hT hl =>
  ⟨(Below.heap_setCell _ _ _ _ (fun e => hl (Or.inr e))).trans h, hl⟩
/-- A list under way. -/
structure LsAt (E p i0 : Nat) (l : List UInt8) (w : World) (b : Nat) (v : Value) (vs : List Value) (es : List (List Item)) (w' : World) : Prop where
  blk : w'.heap[b]? = some (.cells #[.int .i64 2, .string ⟨#[]⟩, v, .slice none 0 0] 44 (0, 0))
  own : w'.ownsRow w.heap.size 26 1 v es.length vs
  elems : ElemsAt w' (LivB w.heap.size b v) vs es
  ok : okE es = true
  dec : ∃ j, i0 ≤ j ∧ Dec w' p l j ∧ costE es ≤ 5 * (j - i0) + slack l j E
  kept : Kept p w w'
  tab : Tab w'
  lo : w.heap.size ≤ b
  pb : p < w.heap.size
  p6 : 6 ≤ p
/-- .. and its next word decoded. -/
structure LsIt (E p i0 : Nat) (l : List UInt8) (w : World) (b : Nat) (v : Value) (vs : List Value) (es : List (List Item)) (x : Value) (is : List Item) (w' : World) : Prop where
  blk : w'.heap[b]? = some (.cells #[.int .i64 2, .string ⟨#[]⟩, v, .slice none 0 0] 44 (0, 0))
  own : w'.ownsRow w.heap.size 26 1 v es.length vs
  elems : ElemsAt w' (LivB w.heap.size b v) (vs ++ [x]) (es ++ [is])
  ok : okE (es ++ [is]) = true
  dec : ∃ j, i0 ≤ j ∧ Dec w' p l j ∧ costE (es ++ [is]) ≤ 5 * (j - i0) + slack l j E
  kept : Kept p w w'
  tab : Tab w'
  lo : w.heap.size ≤ b
  pb : p < w.heap.size
  p6 : 6 ≤ p
section
variable {E p i i0 i1 b : Nat} {l : List UInt8} {w w1 w2 w3 : World} {v : Value} {vs : List Value} {es : List (List Item)}
theorem ItAt.lst (h : ItAt p i l w i1 w1) {i2 : Nat} (hd : Dec w2 p l i2) (hk : Kept p w1 w2) : LsAt E p i2 l w w2.heap.size (.slice none 0 0) [] [] (w2.alloc (.cells #[.int .i64 2, .string ⟨#[]⟩, .slice none 0 0, .slice none 0 0] 44)) := by
  have hb : Below w2.heap.size w2 (w2.alloc (.cells #[.int .i64 2, .string ⟨#[]⟩, .slice none 0 0, .slice none 0 0] 44)) := (Below.refl w2.heap.size w2).alloc (Nat.le_refl _) _
  have k2 := h.kept.trans hk
  exact ⟨newItem w2 _, World.ownsRow_nil _ _ _ _, .nil, rfl, ⟨i2, Nat.le_refl _, hd.below hb, by simp [costE]⟩, k2.then hb k2.size, tab_below (tab_kept h.tab hk h.p6) hb (by have := h.pb; have := h.p6; have := k2.size; omega), k2.size, h.pb, h.p6⟩
theorem LsAt.word (h : LsAt E p i0 l w b v vs es w1) {j : Nat} (hj : i0 ≤ j) (hd : Dec w1 p l j) (hc : costE es ≤ 5 * (j - i0) + slack l j E) {x : Value} {ptrs : List Nat} {is : List Item} {j2 : Nat}
    (h1 : PtrsAt w2 (fun k => k < w1.heap.size) x ptrs) (h2 : ItemsAt w2 (fun k => k < w1.heap.size) ptrs is) (h3 : okW is = true) (h4 : Dec w2 p l j2) (h5 : Kept p w1 w2) (h6 : j ≤ j2) (h7 : costW is ≤ 5 * (j2 - j) + slack l j2 E) (h8 : j = l.length → costW is = 0) : LsIt E p i0 l w b v vs es x is w2 where
  blk := (h5.block b (Array.getElem?_eq_some_iff.1 h.blk).1 (by have := h.lo; have := h.pb; omega)).trans h.blk
  own := h.own.kept h5.grown (by
    by_cases e : v.ownBlock = none
    · exact Or.inl e
    · refine Or.inr (fun e2 => ?_)
      have := (own_blk h.own e2).1
      have := h.pb
      omega)
  elems := (h.elems.frm (h5.frm hd _)).append (.cons _ _ _ _ _ (h1.frm (FrmB.fresh h.kept.size (fun k hk => (h.own.lt k hk).2) (Array.getElem?_eq_some_iff.1 h.blk).1)) (h2.frm (FrmB.fresh h.kept.size (fun k hk => (h.own.lt k hk).2) (Array.getElem?_eq_some_iff.1 h.blk).1)) .nil)
  ok := okE_snoc h.ok h3
  dec := by
    have hl2 := h4.1
    refine ⟨j2, by omega, h4, ?_⟩
    rw [costE_snoc]
    by_cases e : j = l.length
    · have e2 : j2 = l.length := by omega
      rw [slack_end e] at hc
      rw [slack_end e2]
      have := h8 e
      omega
    · rw [slack_in e] at hc
      omega
  kept := h.kept.trans h5
  tab := tab_kept h.tab h5 h.p6
  lo := h.lo
  pb := h.pb
  p6 := h.p6
theorem LsIt.blk2 {x : Value} {is : List Item} (h : LsIt E p i0 l w b v vs es x is w1) {W : World} (hW : Below w1.heap.size w1 W) (hg : W.grownBy w2 v.ownBlock) : w2.heap[b]? = some (.cells #[.int .i64 2, .string ⟨#[]⟩, v, .slice none 0 0] 44 (0, 0)) := by
  have hblt := (Array.getElem?_eq_some_iff.1 h.blk).1
  have hsz := hW.size
  have nb : some b ≠ v.ownBlock := fun e => by
    obtain ⟨_, c, hc⟩ := own_blk h.own e.symm
    rw [h.blk] at hc
    simp only [Option.some.injEq, Obj.cells.injEq, and_true] at hc
    exact absurd hc.2 (by decide)
  exact (hg.block b (by omega) nb).trans ((hW.block b hblt).trans h.blk)
theorem PtrsAt.slice {w : World} {L : Nat → Prop} {v : Value} {ptrs : List Nat} (h : PtrsAt w L v ptrs) : ∃ ao c, v = .slice ao ptrs.length c := by
  rcases h with ⟨rfl, rfl⟩ | ⟨g, cap, cur, rfl, _⟩
  · exact ⟨none, 0, rfl⟩
  · exact ⟨_, _, rfl⟩
theorem PtrsAt.one {w : World} {L : Nat → Prop} {v : Value} {ptrs : List Nat} (h : PtrsAt w L v ptrs) : v.oneCell' = true := by
  rcases h with ⟨rfl, _⟩ | ⟨g, cap, cur, rfl, _⟩ <;> rfl
theorem LsIt.push {x : Value} {is : List Item} (h : LsIt E p i0 l w b v vs es x is w1) {W : World} (hW : Below w1.heap.size w1 W) {g cap : Nat} (hown : w2.ownsRow w.heap.size 26 1 (.slice (some ⟨g, 0, none⟩) (es.length + 1) cap) (es.length + 1) (vs ++ [x])) (hg : W.grownBy w2 v.ownBlock) (hat : v.ownBlock = some g ∨ g = W.heap.size) :
    LsAt E p i0 l w b (.slice (some ⟨g, 0, none⟩) (es.length + 1) cap) (vs ++ [x]) (es ++ [is]) (w2.setCell ⟨b, 2, none⟩ (.slice (some ⟨g, 0, none⟩) (es.length + 1) cap)) := by
  have hr : ∀ k, v.ownBlock = some k → w.heap.size ≤ k := fun k hk => (own_blk h.own hk).1
  obtain ⟨j, hj, hd, hc⟩ := h.dec
  have hN := h.kept.size
  have hblt := (Array.getElem?_eq_some_iff.1 h.blk).1
  have hsz := hW.size
  have nb : some b ≠ v.ownBlock := fun e => by
    obtain ⟨_, c, hc⟩ := own_blk h.own e.symm
    rw [h.blk] at hc
    simp only [Option.some.injEq, Obj.cells.injEq, and_true] at hc
    exact absurd hc.2 (by decide)
  have ngb : g ≠ b := fun e => by
    rcases hat with h1 | h1
    · exact nb (by rw [h1, e])
    · omega
  have hb2 : w2.heap[b]? = some (.cells #[.int .i64 2, .string ⟨#[]⟩, v, .slice none 0 0] 44 (0, 0)) := (hg.block b (by omega) nb).trans ((hW.block b hblt).trans h.blk)
  have hoth : ∀ k, k ≠ b → (w2.setCell ⟨b, 2, none⟩ (.slice (some ⟨g, 0, none⟩) (es.length + 1) cap)).heap[k]? = w2.heap[k]? := fun k hk => Below.heap_setCell _ _ _ _ hk
  have hkb : Kept b w2 (w2.setCell ⟨b, 2, none⟩ (.slice (some ⟨g, 0, none⟩) (es.length + 1) cap)) := kept_set
  have ht := tab_below h.tab hW (by have := h.pb; have := h.p6; omega)
  have hl0 := h.lo
  have hp := h.pb
  have hp6 := h.p6
  refine ⟨?_, ?_, ?_, h.ok, ⟨j, hj, ?_, hc⟩, ?_, ?_, h.lo, h.pb, h.p6⟩
  · rw [heap_setCell_same _ _ _ _ _ _ hb2]
    rfl
  · rw [List.length_append]
    exact hown.kept hkb.grown (Or.inr (fun e => ngb (by simpa [Value.ownBlock] using e)))
  · refine ElemsAt.frm (FrmB.set _ _) (ElemsAt.frm (FrmB.app (by omega) hg ?_) (ElemsAt.frm (frm_below hW _) h.elems))
    rcases hat with e | e
    · exact Or.inl (by rw [e]; rfl)
    · exact Or.inr ⟨g, rfl, by rw [e]; exact Nat.le_refl _⟩
  · exact ((hd.below hW).app hg (fun k hk => by have := hr k hk; omega)).belowC (C := p + 1) ((Below.refl (p + 1) w2).setCell (p := ⟨b, 2, none⟩) (by show p + 1 ≤ b; omega) _) (by omega)
  · have k2 := (h.kept.then hW hN).app hg hr
    exact k2.then ((Below.refl w.heap.size w2).setCell (p := ⟨b, 2, none⟩) h.lo _) (Nat.le_refl _)
  · have h1 := tab_block ht (hg.block _ (tab_lt ht) (fun e => by have := hr _ e.symm; omega))
    exact tab_below h1 ((Below.refl w.heap.size w2).setCell (p := ⟨b, 2, none⟩) h.lo _) (by omega)
theorem LsAt.out (h : LsAt E p i0 l w b v vs es w1) (hE : 15 ≤ E) (hne : i ≠ l.length) (hi : i < i0) (h2 : 2 ≤ es.length) (h4 : es.length ≤ 4) : ItemOut E p l i w (.returned (ptrV b)) w1 := by
  obtain ⟨j, hj, hd, hc⟩ := h.dec
  obtain ⟨g, cap, cur, hv, hgb, hg, ht, hcc, _⟩ := own_rw h.own (by omega)
  have hk := h.blk
  rw [hv] at hk
  have hl2 := hd.1
  refine ⟨b, .lst es, j, rfl, .lst b es _ _ g cap vs (Nat.not_lt.2 h.lo) hk ⟨Nat.not_lt.2 hgb, cur, hg, ht, hcc⟩ (h.elems.frm FrmB.done), ?_, hd, h.kept, by omega, fun _ => by omega, ?_, fun e => absurd e hne⟩
  · simp [okI, h.ok, h2]
  · have := cost_lst es (by omega)
    omega
end
end Go.Proofs.YtmcoifhiiagfpaaDoor

namespace Go.Proofs.YtmcoifhiiagfpaaDoor
open Go.RowKit
set_option linter.unusedVariables false

theorem Tryd.info_items : (Tryd.prog.info? 26).map (fun i => (i.zero, i.size, i.bytes)) = some (some (.slice none 0 0), 1, 24) := by kernel_rfl

theorem Kept.of_drew {p : Nat} {w w' : World} (h : Kept p w.drew w') : Kept p w w' := ⟨h.block, h.size, h.os, h.tape, h.output⟩

set_option maxRecDepth 100000 in
set_option maxHeartbeats 4000000 in
theorem item_any (E p : Nat) (l : List UInt8) (d : Nat) (hl : l.length ≤ 1048576) (h6 : 6 ≤ p) (hE : 15 ≤ E) (hd6 : d ≤ 6) (hC : d < 6 → WordC E p l (d + 1)) : ItemC E p l d := by
  intro w i h ht
  obtain ⟨ib, hib, ibz, ibs, ibb⟩ := info_parts Tryd.info_items
  have HC := Lib.hid hC
  have HN := Lib.hid (next_n p l i w h hl)
  have HT := Lib.hid (fun (w : World) (i : Nat) (h : Dec w p l i) => text_lit p l i w h hl)
  have HQ := Lib.hid (fun (w : World) (i : Nat) (h : Dec w p l i) => text_sq p l i w h hl)
  have HSE := Lib.hid (fun (w : World) (i : Nat) (h : Dec w p l i) (ht : Tab w) => seq_any p l i w h hl h6 ht)
  have HNN := Lib.hid (fun (w : World) (i : Nat) (h : Dec w p l i) => next_n p l i w h hl)
  have HS := Lib.hid (fun w1 i1 (hd : Dec w1 p l i1) (hk : Kept p w w1) (hi : i ≤ i1) (hlt : i < l.length → i < i1) => ItAt.mk hd hk hi hlt (tab_kept ht hk h6) h.lt h6)
  clear h ht hC
  go_enter Tryd.func5, Tryd.ntmps5
  go_upto_region 2 with (go_at_call 12; refine HN.out.mono ?_; rintro e w1 ⟨y, i1, rfl, hy, hd1, hk1, hi1, hb1, hz1⟩; have H0 := Lib.hid (HS.out w1 i1 hd1 hk1 hi1 hb1); have HZ := Lib.hid hz1; clear hd1 hk1 hi1 hb1 hz1)
  have h8 : (y : Int) % 8 = 0 ∨ (y : Int) % 8 = 1 ∨ (y : Int) % 8 = 2 ∨ (y : Int) % 8 = 3 ∨ (y : Int) % 8 = 4 ∨ (y : Int) % 8 = 5 ∨ (y : Int) % 8 = 6 ∨ (y : Int) % 8 = 7 := by omega
  have HI : Hid (i = l.length → (y : Int) % 8 = 0) := Lib.hid (fun e => by rw [HZ.out e]; rfl)
  clear HZ
  by_cases hd : (d : Int) < 6
  · have HCC : Hid (∀ (w : World) (i : Nat), Dec w p l i → Tab w → Calls Tryd.prog 14 #[.pointer (some ⟨p, 0, none⟩), .int .i64 ((d : Int) + 1)] w (WordOut E p l i w)) := Lib.hid (fun w i h1 h2 => HC.out (by omega) w i h1 h2)
    rcases h8 with e | e | e | e | e | e | e | e
    · have HNE : Hid (True) := Lib.hid (trivial)
      rw [e]
      clear e
      go_wp2_with (go_at_call 13; refine (HT.out _ _ H0.out.dec).mono ?_; rintro e2 w2 ⟨s, j2, rfl, a1, a2, a3, a4, a5, a6, a7⟩; have HO := Lib.hid (H0.out.lit hE a1 a2 a3 a4 a5 (a6 rfl) (a7 rfl)); clear a1 a2 a3 a4 a5 a6 a7)
      go_ret
      exact HO.out
    · have HNE : Hid (i ≠ l.length) := Lib.hid (fun e3 => by have := HI.out e3; omega)
      rw [e]
      clear e
      go_wp2_with (go_at_call 13; refine (HT.out _ _ H0.out.dec).mono ?_; rintro e2 w2 ⟨s, j2, rfl, a1, a2, a3, a4, a5, a6, a7⟩; have HO := Lib.hid (H0.out.lit hE a1 a2 a3 a4 a5 (a6 rfl) (a7 rfl)); clear a1 a2 a3 a4 a5 a6 a7)
      go_ret
      exact HO.out
    · have HNE : Hid (i ≠ l.length) := Lib.hid (fun e3 => by have := HI.out e3; omega)
      rw [e]
      clear e
      go_wp2_with (go_at_call 13; refine (HT.out _ _ H0.out.dec).mono ?_; rintro e2 w2 ⟨s, j2, rfl, a1, a2, a3, a4, a5, a6, a7⟩; have HO := Lib.hid (H0.out.lit hE a1 a2 a3 a4 a5 (a6 rfl) (a7 rfl)); clear a1 a2 a3 a4 a5 a6 a7)
      go_ret
      exact HO.out
    · have HNE : Hid (i ≠ l.length) := Lib.hid (fun e3 => by have := HI.out e3; omega)
      rw [e]
      clear e
      go_wp2_with (go_at_call 13; refine (HQ.out _ _ H0.out.dec).mono ?_; rintro e2 w2 ⟨s, j2, rfl, a1, a2, a3, a4, a5, a6, a7⟩; have HO := Lib.hid (H0.out.sq (E := E) (s := s) a1 a2 a3 a4 HNE.out); clear a1 a2 a3 a4 a5 a6 a7)
      go_ret
      exact HO.out
    · have HNE : Hid (i ≠ l.length) := Lib.hid (fun e3 => by have := HI.out e3; omega)
      rw [e]
      clear e
      have HLT := Lib.hid (H0.out.lt (by have := HNE.out; have := H0.out.dec.1; have := H0.out.le; omega))
      go_upto_region 10 with (go_at_call 12; go_loud (refine (HNN.out _ _ H0.out.dec).mono ?_; rintro e2 w2 ⟨y2, i2, rfl, hy2, a1, a2, a3, _, _⟩; have HL0 := Lib.hid (H0.out.lst (E := E) a1 a2); have HI2 := Lib.hid (Nat.lt_of_lt_of_le HLT.out a3); clear a1 a2 a3))
      have hm : (0 : Int) ≤ (y2 : Int) % 3 ∧ (y2 : Int) % 3 < 3 := by omega
      obtain ⟨n, hn, hn2, hn4⟩ : ∃ n : Nat, (2 : Int) + (y2 : Int) % 3 = (n : Int) ∧ 2 ≤ n ∧ n ≤ 4 := ⟨2 + y2 % 3, by omega, by omega, by omega⟩
      rw [hn]
      clear hn hm
      go_wp2_with fail
      obtain ⟨b, hb⟩ : ∃ b, w2.heap.size = b := ⟨_, rfl⟩
      rw [hb] at HL0
      rw [hb]
      go_loopg [8] n (fun gk s8 wr => ∃ (k : Nat) (v : Value) (vs : List Value) (es : List (List Item)), s8 = .int .i64 (k : Int) ∧ k ≤ n ∧ gk = n - k ∧ es.length = k ∧ Hid (LsAt E p i2 l w b v vs es wr))
      case atStart => exact ⟨0, _, [], [], rfl, by omega, rfl, rfl, HL0⟩
      case round =>
        obtain ⟨k, v, vs, es, rfl, hk, rfl, hlen, HX⟩ := hrel
        by_cases hkn : k < n
        · have hkz : (k : Int) < (n : Int) := by omega
          have HLEN := Lib.hid hlen
          clear hlen
          have HKZ := Lib.hid (show es.length ≤ 4 by rw [HLEN.out]; omega)
          have c2 : wr.cell? ⟨b, 2, none⟩ = some v := (Lib.cell_of_heap HX.out.blk 2).trans rfl
          obtain ⟨j, hj, hd3, hc3⟩ := HX.out.dec
          have HJ := Lib.hid (And.intro hj (And.intro hd3 hc3))
          clear hj hd3 hc3
          have hwr : IntKind.i64.wrap ((d : Int) + 1) = (d : Int) + 1 := by rw [IntKind.wrap_i64]; omega
          go_upto_region 14 with fail
          go_region_law (first
            | (go_simp; go_at_call 14; refine (HCC.out wr.drew j HJ.out.2.1 HX.out.tab).mono ?_; rintro e3 w3 ⟨x, ptrs, is, j2, rfl, a1, a2, a3, a4, a5, a6, a7, a8⟩; obtain ⟨ao, cx, rfl⟩ := a1.slice; have H3 := Lib.hid (HX.out.word HJ.out.1 HJ.out.2.1 HJ.out.2.2 a1 a2 a3 a4 a5.of_drew a6 a7 a8); clear a1 a2 a3 a4 a5 a6 a7 a8; have c3 : w3.cell? ⟨b, 2, none⟩ = some v := (Lib.cell_of_heap H3.out.blk 2).trans rfl; have c3a : (w3.alloc (.cells #[.slice ao ptrs.length cx] 26)).cell? ⟨b, 2, none⟩ = some v := (Lib.cell_of_heap ((Lib.alloc_old w3 _ b (Array.getElem?_eq_some_iff.1 H3.out.blk).1).trans H3.out.blk) 2).trans rfl)
            | (refine step_append_lies _ rfl _ _ 41 rfl w.heap.size 26 ib (.slice none 0 0) 1 24 Tryd.underlying41 hib ibz ibs ibb rfl (by decide) _ _ _ rfl (H3.out.own.alloc _) ⟨w3.heap.size, 0, none⟩ 1 1 [.slice ao ptrs.length cx] rfl rfl (cell_one_new w3 _ _) (by intro u hu; simp at hu; subst hu; rfl) (by decide) (by have := HKZ.out; unfold maxLen; omega) (by have := HKZ.out; omega) (by have := H3.out.kept.size; simp; omega) _ rfl ?_; intro g cap w4 hown hgrow hat _; have HB4 := Lib.hid (H3.out.blk2 ((Below.refl w3.heap.size w3).alloc (Nat.le_refl _) _) hgrow); have c4 : w4.cell? ⟨b, 2, none⟩ = some v := (Lib.cell_of_heap HB4.out 2).trans rfl; have f4 : w4.frozen? ⟨b, 2, none⟩ = false := Lib.frozen_of_heap HB4.out 2; have H4 := Lib.hid (H3.out.push ((Below.refl w3.heap.size w3).alloc (Nat.le_refl _) _) hown hgrow hat); clear hown hgrow hat))
          all_goals
            go_wp2
            go_roundg (n - (k + 1))
            case measure => omega
            case rel => exact ⟨k + 1, _, _, _, by go_num, by omega, rfl, by rw [List.length_append, HLEN.out]; rfl, H4⟩
        · have hkz : ¬ (k : Int) < (n : Int) := by omega
          have HO := Lib.hid (HX.out.out (i := i) hE HNE.out HI2.out (by omega) (by omega))
          clear hlen
          go_wp2_with fail
          go_ret
          exact HO.out
    · have HNE : Hid (i ≠ l.length) := Lib.hid (fun e3 => by have := HI.out e3; omega)
      rw [e]
      clear e
      have HLT := Lib.hid (H0.out.lt (by have := HNE.out; have := H0.out.dec.1; have := H0.out.le; omega))
      go_upto_region 10 with (go_at_call 12; go_loud (refine (HNN.out _ _ H0.out.dec).mono ?_; rintro e2 w2 ⟨y2, i2, rfl, hy2, a1, a2, a3, _, _⟩; have HL0 := Lib.hid (H0.out.lst (E := E) a1 a2); have HI2 := Lib.hid (Nat.lt_of_lt_of_le HLT.out a3); clear a1 a2 a3))
      have hm : (0 : Int) ≤ (y2 : Int) % 3 ∧ (y2 : Int) % 3 < 3 := by omega
      obtain ⟨n, hn, hn2, hn4⟩ : ∃ n : Nat, (2 : Int) + (y2 : Int) % 3 = (n : Int) ∧ 2 ≤ n ∧ n ≤ 4 := ⟨2 + y2 % 3, by omega, by omega, by omega⟩
      rw [hn]
      clear hn hm
      go_wp2_with fail
      obtain ⟨b, hb⟩ : ∃ b, w2.heap.size = b := ⟨_, rfl⟩
      rw [hb] at HL0
      rw [hb]
      go_loopg [8] n (fun gk s8 wr => ∃ (k : Nat) (v : Value) (vs : List Value) (es : List (List Item)), s8 = .int .i64 (k : Int) ∧ k ≤ n ∧ gk = n - k ∧ es.length = k ∧ Hid (LsAt E p i2 l w b v vs es wr))
      case atStart => exact ⟨0, _, [], [], rfl, by omega, rfl, rfl, HL0⟩
      case round =>
        obtain ⟨k, v, vs, es, rfl, hk, rfl, hlen, HX⟩ := hrel
        by_cases hkn : k < n
        · have hkz : (k : Int) < (n : Int) := by omega
          have HLEN := Lib.hid hlen
          clear hlen
          have HKZ := Lib.hid (show es.length ≤ 4 by rw [HLEN.out]; omega)
          have c2 : wr.cell? ⟨b, 2, none⟩ = some v := (Lib.cell_of_heap HX.out.blk 2).trans rfl
          obtain ⟨j, hj, hd3, hc3⟩ := HX.out.dec
          have HJ := Lib.hid (And.intro hj (And.intro hd3 hc3))
          clear hj hd3 hc3
          have hwr : IntKind.i64.wrap ((d : Int) + 1) = (d : Int) + 1 := by rw [IntKind.wrap_i64]; omega
          go_upto_region 14 with fail
          go_region_law (first
            | (go_simp; go_at_call 14; refine (HCC.out wr.drew j HJ.out.2.1 HX.out.tab).mono ?_; rintro e3 w3 ⟨x, ptrs, is, j2, rfl, a1, a2, a3, a4, a5, a6, a7, a8⟩; obtain ⟨ao, cx, rfl⟩ := a1.slice; have H3 := Lib.hid (HX.out.word HJ.out.1 HJ.out.2.1 HJ.out.2.2 a1 a2 a3 a4 a5.of_drew a6 a7 a8); clear a1 a2 a3 a4 a5 a6 a7 a8; have c3 : w3.cell? ⟨b, 2, none⟩ = some v := (Lib.cell_of_heap H3.out.blk 2).trans rfl; have c3a : (w3.alloc (.cells #[.slice ao ptrs.length cx] 26)).cell? ⟨b, 2, none⟩ = some v := (Lib.cell_of_heap ((Lib.alloc_old w3 _ b (Array.getElem?_eq_some_iff.1 H3.out.blk).1).trans H3.out.blk) 2).trans rfl)
            | (refine step_append_lies _ rfl _ _ 41 rfl w.heap.size 26 ib (.slice none 0 0) 1 24 Tryd.underlying41 hib ibz ibs ibb rfl (by decide) _ _ _ rfl (H3.out.own.alloc _) ⟨w3.heap.size, 0, none⟩ 1 1 [.slice ao ptrs.length cx] rfl rfl (cell_one_new w3 _ _) (by intro u hu; simp at hu; subst hu; rfl) (by decide) (by have := HKZ.out; unfold maxLen; omega) (by have := HKZ.out; omega) (by have := H3.out.kept.size; simp; omega) _ rfl ?_; intro g cap w4 hown hgrow hat _; have HB4 := Lib.hid (H3.out.blk2 ((Below.refl w3.heap.size w3).alloc (Nat.le_refl _) _) hgrow); have c4 : w4.cell? ⟨b, 2, none⟩ = some v := (Lib.cell_of_heap HB4.out 2).trans rfl; have f4 : w4.frozen? ⟨b, 2, none⟩ = false := Lib.frozen_of_heap HB4.out 2; have H4 := Lib.hid (H3.out.push ((Below.refl w3.heap.size w3).alloc (Nat.le_refl _) _) hown hgrow hat); clear hown hgrow hat))
          all_goals
            go_wp2
            go_roundg (n - (k + 1))
            case measure => omega
            case rel => exact ⟨k + 1, _, _, _, by go_num, by omega, rfl, by rw [List.length_append, HLEN.out]; rfl, H4⟩
        · have hkz : ¬ (k : Int) < (n : Int) := by omega
          have HO := Lib.hid (HX.out.out (i := i) hE HNE.out HI2.out (by omega) (by omega))
          clear hlen
          go_wp2_with fail
          go_ret
          exact HO.out
    · have HNE : Hid (i ≠ l.length) := Lib.hid (fun e3 => by have := HI.out e3; omega)
      rw [e]
      clear e
      go_wp2_with (go_at_call 15; refine (HSE.out _ _ H0.out.dec H0.out.tab).mono ?_; rintro e2 w2 ⟨ends, g, cap, j2, rfl, a1, a2, a3, a4, a5, a6, a7, a8⟩; have HO := Lib.hid (H0.out.seq hE HNE.out a1 a2 a3 a4 a5 a6 a7 a8); clear a1 a2 a3 a4 a5 a6 a7 a8)
      go_ret
      exact HO.out
    · have HNE : Hid (i ≠ l.length) := Lib.hid (fun e3 => by have := HI.out e3; omega)
      rw [e]
      clear e
      go_wp2_with (go_at_call 13; refine (HT.out _ _ H0.out.dec).mono ?_; rintro e2 w2 ⟨s, j2, rfl, a1, a2, a3, a4, a5, a6, a7⟩; have HO := Lib.hid (H0.out.lit hE a1 a2 a3 a4 a5 (a6 rfl) (a7 rfl)); clear a1 a2 a3 a4 a5 a6 a7)
      go_ret
      exact HO.out
  · have hd2 : (6 : Int) ≤ (d : Int) := by omega
    clear hd
    rcases h8 with e | e | e | e | e | e | e | e
    · have HNE : Hid (True) := Lib.hid (trivial)
      rw [e]
      clear e
      go_wp2_with (go_at_call 13; refine (HT.out _ _ H0.out.dec).mono ?_; rintro e2 w2 ⟨s, j2, rfl, a1, a2, a3, a4, a5, a6, a7⟩; have HO := Lib.hid (H0.out.lit hE a1 a2 a3 a4 a5 (a6 rfl) (a7 rfl)); clear a1 a2 a3 a4 a5 a6 a7)
      go_ret
      exact HO.out
    · have HNE : Hid (i ≠ l.length) := Lib.hid (fun e3 => by have := HI.out e3; omega)
      rw [e]
      clear e
      go_wp2_with (go_at_call 13; refine (HT.out _ _ H0.out.dec).mono ?_; rintro e2 w2 ⟨s, j2, rfl, a1, a2, a3, a4, a5, a6, a7⟩; have HO := Lib.hid (H0.out.lit hE a1 a2 a3 a4 a5 (a6 rfl) (a7 rfl)); clear a1 a2 a3 a4 a5 a6 a7)
      go_ret
      exact HO.out
    · have HNE : Hid (i ≠ l.length) := Lib.hid (fun e3 => by have := HI.out e3; omega)
      rw [e]
      clear e
      go_wp2_with (go_at_call 13; refine (HT.out _ _ H0.out.dec).mono ?_; rintro e2 w2 ⟨s, j2, rfl, a1, a2, a3, a4, a5, a6, a7⟩; have HO := Lib.hid (H0.out.lit hE a1 a2 a3 a4 a5 (a6 rfl) (a7 rfl)); clear a1 a2 a3 a4 a5 a6 a7)
      go_ret
      exact HO.out
    · have HNE : Hid (i ≠ l.length) := Lib.hid (fun e3 => by have := HI.out e3; omega)
      rw [e]
      clear e
      go_wp2_with (go_at_call 13; refine (HQ.out _ _ H0.out.dec).mono ?_; rintro e2 w2 ⟨s, j2, rfl, a1, a2, a3, a4, a5, a6, a7⟩; have HO := Lib.hid (H0.out.sq (E := E) (s := s) a1 a2 a3 a4 HNE.out); clear a1 a2 a3 a4 a5 a6 a7)
      go_ret
      exact HO.out
    · have HNE : Hid (i ≠ l.length) := Lib.hid (fun e3 => by have := HI.out e3; omega)
      rw [e]
      clear e
      go_wp2_with (go_at_call 13; refine (HT.out _ _ H0.out.dec).mono ?_; rintro e2 w2 ⟨s, j2, rfl, a1, a2, a3, a4, a5, a6, a7⟩; have HO := Lib.hid (H0.out.lit hE a1 a2 a3 a4 a5 (a6 rfl) (a7 rfl)); clear a1 a2 a3 a4 a5 a6 a7)
      go_ret
      exact HO.out
    · have HNE : Hid (i ≠ l.length) := Lib.hid (fun e3 => by have := HI.out e3; omega)
      rw [e]
      clear e
      go_wp2_with (go_at_call 13; refine (HT.out _ _ H0.out.dec).mono ?_; rintro e2 w2 ⟨s, j2, rfl, a1, a2, a3, a4, a5, a6, a7⟩; have HO := Lib.hid (H0.out.lit hE a1 a2 a3 a4 a5 (a6 rfl) (a7 rfl)); clear a1 a2 a3 a4 a5 a6 a7)
      go_ret
      exact HO.out
    · have HNE : Hid (i ≠ l.length) := Lib.hid (fun e3 => by have := HI.out e3; omega)
      rw [e]
      clear e
      go_wp2_with (go_at_call 13; refine (HT.out _ _ H0.out.dec).mono ?_; rintro e2 w2 ⟨s, j2, rfl, a1, a2, a3, a4, a5, a6, a7⟩; have HO := Lib.hid (H0.out.lit hE a1 a2 a3 a4 a5 (a6 rfl) (a7 rfl)); clear a1 a2 a3 a4 a5 a6 a7)
      go_ret
      exact HO.out
    · have HNE : Hid (i ≠ l.length) := Lib.hid (fun e3 => by have := HI.out e3; omega)
      rw [e]
      clear e
      go_wp2_with (go_at_call 13; refine (HT.out _ _ H0.out.dec).mono ?_; rintro e2 w2 ⟨s, j2, rfl, a1, a2, a3, a4, a5, a6, a7⟩; have HO := Lib.hid (H0.out.lit hE a1 a2 a3 a4 a5 (a6 rfl) (a7 rfl)); clear a1 a2 a3 a4 a5 a6 a7)
      go_ret
      exact HO.out
end Go.Proofs.YtmcoifhiiagfpaaDoor
