/-
  The law's model, as a plain function of the strings. No walk here.
  The arrays that the law's model fills.
  The walk of the law's zzModelEmits, first part: the strings are read.
-/
import Derived.Test.YtpmmnlgkeanplaaDoorGm
import Derived.Lib.AppendStr
import Derived.Laws.BytesString
namespace Go.Proofs.YtpmmnlgkeanplaaDoor
open Go.RowKit

/-- What each byte of one string is marked as: inert; the first of two dots. -/
def lex : List UInt8 → List (Bool × Bool)
  | [] => []
  | [c] => [(decide (c.toNat = 92), false)]
  | c :: d :: r => if c.toNat = 92 then (true, false) :: (true, false) :: lex r else (false, decide (c.toNat = 46) && decide (d.toNat = 46)) :: lex (d :: r)
theorem lex_len : ∀ (n : Nat) (l : List UInt8), l.length ≤ n → (lex l).length = l.length
  | _, [], _ => rfl
  | _, [_], _ => rfl
  | 0, _ :: _ :: _, h => absurd h (by simp)
  | n + 1, c :: d :: r, h => by
    rw [lex]
    split
    · have := lex_len n r (by simp at h ⊢; omega)
      simp [this]
    · have := lex_len n (d :: r) (by simp at h ⊢; omega)
      simp only [List.length_cons] at this ⊢
      omega
theorem lex_length (l : List UInt8) : (lex l).length = l.length := lex_len l.length l (Nat.le_refl _)
theorem lex_one (c : UInt8) (r : List UInt8) (h : c.toNat ≠ 92) : lex (c :: r) = (false, decide (c.toNat = 46) && decide ((r.getD 0 0).toNat = 46)) :: lex r := by
  cases r with
  | nil =>
    have e : decide ((([] : List UInt8).getD 0 0).toNat = 46) = false := by decide
    rw [e, Bool.and_false]
    simp [lex, h]
  | cons d r =>
    rw [lex, if_neg h]
    rfl
theorem lex_two (c d : UInt8) (r : List UInt8) (h : c.toNat = 92) : lex (c :: d :: r) = (true, false) :: (true, false) :: lex r := by
  rw [lex, if_pos h]
theorem lex_dots : ∀ (n : Nat) (l : List UInt8), l.length ≤ n → ∀ (p : Nat) (b : Bool), (lex l)[p]? = some (b, true) → l[p]? = some 46 ∧ l[p + 1]? = some 46 ∧ b = false
  | _, [], _, p, b, hp => by simp [lex] at hp
  | _, [c], _, p, b, hp => by
    cases p with
    | zero => simp [lex] at hp
    | succ p => simp [lex] at hp
  | 0, _ :: _ :: _, h, _, _, _ => absurd h (by simp)
  | n + 1, c :: d :: r, h, p, b, hp => by
    rw [lex] at hp
    split at hp
    · match p, hp with
      | 0, hp => simp at hp
      | 1, hp => simp at hp
      | p + 2, hp =>
        have := lex_dots n r (by simp at h ⊢; omega) p b (by simpa using hp)
        simpa using this
    · match p, hp with
      | 0, hp =>
        simp only [List.getElem?_cons_zero, Option.some.injEq, Prod.mk.injEq, Bool.and_eq_true, decide_eq_true_eq] at hp
        have e1 : c = 46 := UInt8.toNat_inj.1 hp.2.1
        have e2 : d = 46 := UInt8.toNat_inj.1 hp.2.2
        exact ⟨by rw [e1]; rfl, by rw [e2]; rfl, hp.1.symm⟩
      | p + 1, hp =>
        have := lex_dots n (d :: r) (by simp at h ⊢; omega) p b (by simpa using hp)
        simpa using this

/-- All strings one behind the other; their marks. -/
def allB (ss : List ByteArray) : List UInt8 := ss.flatMap fun s => s.data.toList
def allL (ss : List ByteArray) : List (Bool × Bool) := ss.flatMap fun s => lex s.data.toList
def allI (ss : List ByteArray) : List Bool := (allL ss).map (·.1)
def allD (ss : List ByteArray) : List Bool := (allL ss).map (·.2)
theorem allL_len : ∀ ss : List ByteArray, (allL ss).length = (allB ss).length
  | [] => rfl
  | s :: r => by
    have h := allL_len r
    simp only [allL, allB, List.flatMap_cons, List.length_append, lex_length] at h ⊢
    omega
theorem allL_dots : ∀ (ss : List ByteArray) (p : Nat) (b : Bool), (allL ss)[p]? = some (b, true) → (allB ss)[p + 1]? = some 46
  | [], p, b, h => by simp [allL] at h
  | s :: r, p, b, h => by
    simp only [allL, allB, List.flatMap_cons] at h ⊢
    have hl := lex_length s.data.toList
    by_cases hp : p < (lex s.data.toList).length
    · rw [List.getElem?_append_left hp] at h
      have h2 := (lex_dots _ _ (Nat.le_refl _) p b h).2.1
      rw [List.getElem?_append_left (List.getElem?_eq_some_iff.1 h2).1]
      exact h2
    · rw [List.getElem?_append_right (by omega)] at h
      have h2 := allL_dots r _ b h
      rw [List.getElem?_append_right (by omega), show p + 1 - s.data.toList.length = p - (lex s.data.toList).length + 1 by omega]
      exact h2
theorem allD_dots (ss : List ByteArray) (p : Nat) (h : (allD ss).getD p false = true) : (allB ss)[p + 1]? = some 46 := by
  unfold allD at h
  rw [List.getD_eq_getElem?_getD, List.getElem?_map] at h
  cases hp : (allL ss)[p]? with
  | none => rw [hp] at h; cases h
  | some x =>
    rw [hp] at h
    obtain ⟨b, d⟩ := x
    simp only [Option.map_some, Option.getD_some] at h
    subst h
    exact allL_dots ss p b hp

/-- One place of the matching: the open braces (the innermost last), the partners. -/
def mstep (S : List UInt8) (I : List Bool) (k : Nat) (st : List Nat × List Int) : List Nat × List Int :=
  if I.getD k false = true then st
  else if S.getD k 0 = 123 then (st.1 ++ [k], st.2)
  else if S.getD k 0 = 125 then match st.1.getLast? with
    | none => st
    | some o => (st.1.dropLast, (st.2.set o (k : Int)).set k (o : Int))
  else st
def mrun (S : List UInt8) (I : List Bool) : Nat → List Nat × List Int
  | 0 => ([], List.replicate S.length (-1))
  | k + 1 => mstep S I k (mrun S I k)
/-- Is some pair an expansion? -/
def emitsM (S : List UInt8) (I D : List Bool) (M : List Int) : Bool := (List.range S.length).any fun i => !I.getD i false && (S.getD i 0 == 123) && !decide (M.getD i 0 < (i : Int)) && pairE S I D M i (M.getD i 0).toNat

/-- What the matching keeps. -/
structure MInv (S : List UInt8) (k : Nat) (st : List Nat × List Int) : Prop where
  len : st.2.length = S.length
  stk : ∀ o ∈ st.1, o < k
  cnt : st.1.length ≤ k
  val : ∀ p m, st.2[p]? = some m → m = -1 ∨ ∃ q : Nat, m = (q : Int) ∧ q < S.length ∧ q ≠ p ∧ (p < q → S[q]? = some 125)
theorem mrun_inv (S : List UInt8) (I : List Bool) : ∀ k, k ≤ S.length → MInv S k (mrun S I k)
  | 0, _ => ⟨by simp [mrun], fun o h => by simp [mrun] at h, by simp [mrun], fun p m h => by
      simp only [mrun, List.getElem?_replicate] at h
      split at h
      · exact Or.inl (by simpa using h.symm)
      · cases h⟩
  | k + 1, hk => by
    have ih := mrun_inv S I k (by omega)
    rw [mrun]
    generalize mrun S I k = st at ih
    obtain ⟨stk, M⟩ := st
    have up : MInv S (k + 1) (stk, M) := ⟨ih.len, fun o h => Nat.lt_succ_of_lt (ih.stk o h), Nat.le_succ_of_le ih.cnt, ih.val⟩
    unfold mstep
    split
    · exact up
    split
    · exact ⟨ih.len, fun o h => by
        rcases List.mem_append.1 h with h | h
        · exact Nat.lt_succ_of_lt (ih.stk o h)
        · simp at h
          omega, by have := ih.cnt; simp at this ⊢; omega, ih.val⟩
    split
    · rename_i h1 h2 h3
      simp only
      cases hl : stk.getLast? with
      | none => exact up
      | some o =>
        have ho : o ∈ stk := List.mem_of_getLast? hl
        have hok := ih.stk o ho
        have hSk : S[k]? = some 125 := by
          rw [List.getD_eq_getElem?_getD, List.getElem?_eq_getElem (by omega)] at h3
          rw [List.getElem?_eq_getElem (by omega)]
          simpa using h3
        refine ⟨by simpa using ih.len, fun x hx => Nat.lt_succ_of_lt (ih.stk x ((List.dropLast_sublist stk).subset hx)), by have := ih.cnt; simp at this ⊢; omega, fun p m hp => ?_⟩
        have hlen := ih.len
        simp only at hlen hp
        rw [List.getElem?_set] at hp
        split at hp
        · rename_i e
          subst e
          simp only [List.length_set, hlen] at hp
          rw [if_pos (by omega)] at hp
          cases hp
          exact Or.inr ⟨o, rfl, by omega, by omega, fun h => by omega⟩
        · rw [List.getElem?_set] at hp
          split at hp
          · rename_i e
            subst e
            rw [if_pos (by omega)] at hp
            cases hp
            exact Or.inr ⟨k, rfl, by omega, by omega, fun _ => hSk⟩
          · exact ih.val p m hp
    · exact up
end Go.Proofs.YtpmmnlgkeanplaaDoor

namespace Go.Proofs.YtpmmnlgkeanplaaDoor
open Go.RowKit

/-- An array of n marks, filled as far as L; the rest false. -/
def Pad (w : World) (b n : Nat) (L : List Bool) : Prop := ∃ a : Array Value, w.heap[b]? = some (.cells a 4 (0, 0)) ∧ a.toList = boolV L ++ List.replicate (n - L.length) (.bool false)
theorem Pad.no {w : World} {b n : Nat} {L : List Bool} (h : Pad w b n L) (hl : L.length < n) : Pad w b n (L ++ [false]) := by
  obtain ⟨a, h1, h2⟩ := h
  refine ⟨a, h1, ?_⟩
  have e : n - L.length = (n - (L ++ [false]).length) + 1 := by simp; omega
  rw [h2, e, List.replicate_succ]
  simp [boolV]
theorem Pad.yes {w : World} {b n : Nat} {L : List Bool} (h : Pad w b n L) (hl : L.length < n) : Pad (w.setCell ⟨b, L.length, none⟩ (.bool true)) b n (L ++ [true]) := by
  obtain ⟨a, h1, h2⟩ := h
  refine ⟨_, heap_setCell_same _ _ _ _ _ _ h1, ?_⟩
  have e : n - L.length = (n - (L ++ [true]).length) + 1 := by simp; omega
  have e2 : (boolV L).length = L.length := by simp [boolV]
  rw [Array.toList_setIfInBounds, h2, e, List.replicate_succ, List.set_append_right _ _ (by omega), e2, Nat.sub_self, List.set_cons_zero]
  simp [boolV]
theorem Pad.keep {w w' : World} {b n : Nat} {L : List Bool} (h : Pad w b n L) (hk : w'.heap[b]? = w.heap[b]?) : Pad w' b n L := by
  obtain ⟨a, h1, h2⟩ := h
  exact ⟨a, hk.trans h1, h2⟩
theorem Pad.lt {w : World} {b n : Nat} {L : List Bool} (h : Pad w b n L) : b < w.heap.size := by
  obtain ⟨a, h1, _⟩ := h
  exact (Array.getElem?_eq_some_iff.1 h1).1
theorem Pad.next {w : World} {b n : Nat} {L : List Bool} (h : Pad w b n L) (hl : L.length < n) : w.cell? ⟨b, L.length, none⟩ = some (.bool false) ∧ w.frozen? ⟨b, L.length, none⟩ = false := by
  obtain ⟨a, h1, h2⟩ := h
  have e2 : (boolV L).length = L.length := by simp [boolV]
  refine ⟨?_, Lib.frozen_of_heap h1 _⟩
  rw [Lib.cell_of_heap h1, ← Array.getElem?_toList, h2, List.getElem?_append_right (by omega), e2, Nat.sub_self, List.getElem?_replicate, if_pos (by omega)]
theorem Pad.full {w : World} {b n : Nat} {L : List Bool} (h : Pad w b n L) (hl : L.length = n) : ArrAt w (.slice (some ⟨b, 0, none⟩) n n) (boolV L) := by
  have hlt := h.lt
  obtain ⟨a, h1, h2⟩ := h
  have e2 : (boolV L).length = n := by simp [boolV, hl]
  refine ⟨b, 0, n, by rw [e2], by omega, hlt, fun i u hu => ?_⟩
  rw [hl, Nat.sub_self, List.replicate_zero, List.append_nil] at h2
  rw [Lib.cell_of_heap h1, ← Array.getElem?_toList, h2, Nat.zero_add]
  exact hu

/-- The model's memory while the strings are read. -/
structure ME (w : World) (n : Nat) (vs : Value) (S : List UInt8) (bi bd : Nat) (LI LD : List Bool) (wx : World) : Prop where
  own : wx.ownsRow w.heap.size 5 1 vs S.length (Lib.byteCells S)
  pi : Pad wx bi n LI
  pd : Pad wx bd n LD
  ne : bi ≠ bd
  fi : w.heap.size ≤ bi
  fd : w.heap.size ≤ bd
  bel : Below w.heap.size w wx
theorem own_byte {w : World} {base n : Nat} {v : Value} {xs : List Value} (h : w.ownsRow base 5 1 v n xs) {k : Nat} (hk : v.ownBlock = some k) : base ≤ k ∧ ∃ c, w.heap[k]? = some (.cells c 5 (0, 0)) := by
  rcases h.2 with ⟨hv, _⟩ | ⟨g, cap, cur, hv, hg, hb, _⟩
  · rw [hv] at hk
    cases hk
  · rw [hv] at hk
    cases hk
    exact ⟨hg, cur, hb⟩
theorem own_set {w : World} {base n : Nat} {v : Value} {xs : List Value} (h : w.ownsRow base 5 1 v n xs) {b i : Nat} {u : Value} (hb : ∀ c, w.heap[b]? ≠ some (.cells c 5 (0, 0))) : (w.setCell ⟨b, i, none⟩ u).ownsRow base 5 1 v n xs := by
  refine ⟨h.1, ?_⟩
  rcases h.2 with h1 | ⟨g, cap, cur, hv, hg, hc, r⟩
  · exact Or.inl h1
  · refine Or.inr ⟨g, cap, cur, hv, hg, ?_, r⟩
    rw [Below.heap_setCell _ _ _ _ (fun e => hb cur (by have e2 : g = b := e; rw [← e2]; exact hc))]
    exact hc
theorem Pad.noByte {w : World} {b n : Nat} {L : List Bool} (h : Pad w b n L) : ∀ c, w.heap[b]? ≠ some (.cells c 5 (0, 0)) := fun c e => by
  obtain ⟨a, h1, _⟩ := h
  rw [h1] at e
  simp only [Option.some.injEq, Obj.cells.injEq] at e
  exact absurd e.2.1 (by decide)
section
variable {w : World} {n : Nat} {vs : Value} {S : List UInt8} {bi bd : Nat} {LI LD : List Bool} {wx : World}
theorem ME.setI (h : ME w n vs S bi bd LI LD wx) (hl : LI.length < n) : ME w n vs S bi bd (LI ++ [true]) LD (wx.setCell ⟨bi, LI.length, none⟩ (.bool true)) :=
  ⟨own_set h.own h.pi.noByte, h.pi.yes hl, h.pd.keep (Below.heap_setCell _ _ _ _ h.ne.symm), h.ne, h.fi, h.fd, h.bel.setCell (p := ⟨bi, LI.length, none⟩) h.fi _⟩
theorem ME.setD (h : ME w n vs S bi bd LI LD wx) (hl : LD.length < n) : ME w n vs S bi bd LI (LD ++ [true]) (wx.setCell ⟨bd, LD.length, none⟩ (.bool true)) :=
  ⟨own_set h.own h.pd.noByte, h.pi.keep (Below.heap_setCell _ _ _ _ h.ne), h.pd.yes hl, h.ne, h.fi, h.fd, h.bel.setCell (p := ⟨bd, LD.length, none⟩) h.fd _⟩
theorem ME.noI (h : ME w n vs S bi bd LI LD wx) (hl : LI.length < n) : ME w n vs S bi bd (LI ++ [false]) LD wx := ⟨h.own, h.pi.no hl, h.pd, h.ne, h.fi, h.fd, h.bel⟩
theorem ME.noD (h : ME w n vs S bi bd LI LD wx) (hl : LD.length < n) : ME w n vs S bi bd LI (LD ++ [false]) wx := ⟨h.own, h.pi, h.pd.no hl, h.ne, h.fi, h.fd, h.bel⟩
theorem ME.text (h : ME w n vs S bi bd LI LD wx) {v' : Value} {w' : World} {s : ByteArray} (ho : w'.ownsRow w.heap.size 5 1 v' (S.length + s.size) (Lib.byteCells S ++ Lib.strCells s)) (hg : wx.grownBy w' vs.ownBlock) : ME w n v' (S ++ s.data.toList) bi bd LI LD w' := by
  have key : ∀ b L, Pad wx b n L → w'.heap[b]? = wx.heap[b]? := fun b L hp => hg.block b hp.lt (fun e => by
    obtain ⟨_, c, hc⟩ := own_byte h.own e.symm
    exact hp.noByte c hc)
  refine ⟨?_, h.pi.keep (key _ _ h.pi), h.pd.keep (key _ _ h.pd), h.ne, h.fi, h.fd, h.bel.grown hg h.bel.size (fun k hk => (own_byte h.own hk).1)⟩
  have e1 : (S ++ s.data.toList).length = S.length + s.size := by rw [List.length_append, Array.length_toList]; rfl
  rw [e1, Lib.byteCells_append]
  exact ho
end
section
variable {w : World} {n m : Nat} {vs : Value} {S : List UInt8} {bi bd : Nat} {LI LD : List Bool} {wx : World}
theorem ME.esc1 (h : ME w n vs S bi bd LI LD wx) (h1 : LI.length = m) (h2 : LD.length = m) (hm : m < n) : ME w n vs S bi bd (LI ++ [true]) (LD ++ [false]) (wx.setCell ⟨bi, m, none⟩ (.bool true)) := by
  subst h1
  exact (h.setI hm).noD (by omega)
theorem ME.esc2 (h : ME w n vs S bi bd LI LD wx) (h1 : LI.length = m) (h2 : LD.length = m) (hm : m + 1 < n) : ME w n vs S bi bd (LI ++ [true] ++ [true]) (LD ++ [false] ++ [false]) ((wx.setCell ⟨bi, m, none⟩ (.bool true)).setCell ⟨bi, m + 1, none⟩ (.bool true)) :=
  (h.esc1 h1 h2 (by omega)).esc1 (by simp [h1]) (by simp [h2]) hm
theorem ME.dot (h : ME w n vs S bi bd LI LD wx) (h1 : LI.length = m) (h2 : LD.length = m) (hm : m < n) : ME w n vs S bi bd (LI ++ [false]) (LD ++ [true]) (wx.setCell ⟨bd, m, none⟩ (.bool true)) := by
  subst h2
  exact (h.setD hm).noI (by omega)
theorem ME.plain (h : ME w n vs S bi bd LI LD wx) (h1 : LI.length = m) (h2 : LD.length = m) (hm : m < n) : ME w n vs S bi bd (LI ++ [false]) (LD ++ [false]) wx :=
  (h.noI (by omega)).noD (by omega)
end
theorem Pad.next2 {w : World} {b n m : Nat} {L : List Bool} (h : Pad w b n L) (h1 : L.length = m) (hl : m + 1 < n) : w.cell? ⟨b, m + 1, none⟩ = some (.bool false) ∧ w.frozen? ⟨b, m + 1, none⟩ = false := by
  have e : (L ++ [false]).length = m + 1 := by simp [h1]
  have h2 := (h.no (by omega)).next (by omega)
  rw [e] at h2
  exact h2
theorem allB_take (ss : List ByteArray) (k : Nat) (h : k < ss.length) : allB (ss.take (k + 1)) = allB (ss.take k) ++ (ss.getD k ByteArray.empty).data.toList := by
  rw [List.take_succ_eq_append_getElem h, List.getD_eq_getElem?_getD, List.getElem?_eq_getElem h, allB, allB, List.flatMap_append]
  simp
theorem allL_take (ss : List ByteArray) (k : Nat) (h : k < ss.length) : allL (ss.take (k + 1)) = allL (ss.take k) ++ lex (ss.getD k ByteArray.empty).data.toList := by
  rw [List.take_succ_eq_append_getElem h, List.getD_eq_getElem?_getD, List.getElem?_eq_getElem h, allL, allL, List.flatMap_append]
  simp
theorem allB_le (ss : List ByteArray) (k : Nat) : (allB (ss.take k)).length ≤ (allB ss).length := by
  have e : allB ss = allB (ss.take k) ++ allB (ss.drop k) := by
    rw [allB, allB, allB, ← List.flatMap_append, List.take_append_drop]
  rw [e, List.length_append]
  omega
theorem allB_tot : ∀ ss : List ByteArray, (allB ss).length ≤ tot ss
  | [] => Nat.le_refl _
  | s :: r => by
    have h := allB_tot r
    simp only [allB, List.flatMap_cons, List.length_append, tot, Array.length_toList] at h ⊢
    have : s.data.size = s.size := rfl
    omega

/- The stack of open braces, the partners. -/
def stV (st : List Nat) : List Value := st.map fun (o : Nat) => Value.int .i64 (o : Int)
theorem own_pop {w : World} {base m g cap : Nat} {xs : List Value} {x : Value} (h : w.ownsRow base 3 1 (.slice (some ⟨g, 0, none⟩) (m + 1) cap) (m + 1) (xs ++ [x])) : w.ownsRow base 3 1 (.slice (some ⟨g, 0, none⟩) m cap) m xs ∧ w.cell? ⟨g, m, none⟩ = some x ∧ m + 1 ≤ cap := by
  have hl : xs.length = m := by
    have := h.1
    simp at this
    omega
  rcases h.2 with ⟨hv, _⟩ | ⟨g2, cap2, cur, hv, hg, hb, r1, r2, r3, r4⟩
  · cases hv
  · simp only [Value.slice.injEq, Option.some.injEq, Addr.mk.injEq] at hv
    obtain ⟨⟨rfl, _⟩, _, rfl⟩ := hv
    have h4 : cur.toList.take m = xs := by
      have := congrArg (List.take m) r4
      rw [List.take_take, Nat.min_eq_left (by omega), List.take_left' hl] at this
      exact this
    refine ⟨⟨by omega, Or.inr ⟨g, cap, cur, rfl, hg, hb, by omega, r2, r3, by rw [Nat.mul_one]; exact h4⟩⟩, ?_, r1⟩
    rw [Lib.cell_of_heap hb, ← Array.getElem?_toList]
    have h5 : (cur.toList.take ((m + 1) * 1))[m]? = some x := by
      rw [r4, List.getElem?_append_right (by omega), hl, Nat.sub_self]
      rfl
    rwa [List.getElem?_take_of_lt (by omega)] at h5
theorem own_set' {w : World} {base n : Nat} {e : TypeId} {v : Value} {xs : List Value} (h : w.ownsRow base e 1 v n xs) {b i : Nat} {u : Value} (hb : b < base) : (w.setCell ⟨b, i, none⟩ u).ownsRow base e 1 v n xs := by
  refine ⟨h.1, ?_⟩
  rcases h.2 with h1 | ⟨g, cap, cur, hv, hg, hc, r⟩
  · exact Or.inl h1
  · refine Or.inr ⟨g, cap, cur, hv, hg, ?_, r⟩
    rw [Below.heap_setCell _ _ _ _ (show g ≠ b by omega)]
    exact hc
theorem slice_upto (W : World) (g len cap m : Nat) (h : m ≤ cap) : (Instr.slice 44 (.slice (some ⟨g, 0, none⟩) len cap) none (some (.int .i64 (m : Int))) none).run Tryd.prog W = .ok (.slice (some ⟨g, 0, none⟩) m cap) W := by
  have e1 : Tryd.prog.elem 44 = 3 := by kernel_rfl
  have e2 : (sizeOf 3).run Tryd.prog W = .ok 1 W := by
    obtain ⟨j, hj, hs⟩ := Option.map_eq_some_iff.1 (show (Tryd.prog.info? 3).map (fun i => i.size) = some 1 by kernel_rfl)
    simp [sizeOf, typeInfo, hj, hs]
  rw [run_slice_h W 44 _ len cap (by rw [e1]; exact Tryd.underlying44) .i64 (m : Int) (by omega) (by omega), e1, e2]
  simp [Result.andThen, sliced, Go.WideShapes.add_plain]

/-- The model's memory while the braces are matched. -/
structure MM (w4 : World) (bm B : Nat) (st : List Nat × List Int) (v : Value) (wx : World) : Prop where
  own : wx.ownsRow B 3 1 v st.1.length (stV st.1)
  arr : ∃ a : Array Value, wx.heap[bm]? = some (.cells a 3 (0, 0)) ∧ a.toList = intV st.2
  lt : bm < B
  far : w4.heap.size ≤ bm
  bel : Below w4.heap.size w4 wx
  size : B ≤ wx.heap.size
theorem MM.at_ {w4 wx : World} {bm B : Nat} {st : List Nat × List Int} {v : Value} (h : MM w4 bm B st v wx) {p : Nat} (hp : p < st.2.length) : wx.cell? ⟨bm, p, none⟩ = some (.int .i64 (st.2.getD p 0)) ∧ wx.frozen? ⟨bm, p, none⟩ = false := by
  obtain ⟨a, h1, h2⟩ := h.arr
  refine ⟨?_, Lib.frozen_of_heap h1 _⟩
  rw [Lib.cell_of_heap h1, ← Array.getElem?_toList, h2]
  exact intV_get _ _ hp
theorem MM.set {w4 wx : World} {bm B : Nat} {st : List Nat} {M : List Int} {v : Value} (h : MM w4 bm B (st, M) v wx) (p : Nat) (m : Int) : MM w4 bm B (st, M.set p m) v (wx.setCell ⟨bm, p, none⟩ (.int .i64 m)) := by
  obtain ⟨a, h1, h2⟩ := h.arr
  refine ⟨own_set' h.own h.lt, ⟨_, heap_setCell_same _ _ _ _ _ _ h1, ?_⟩, h.lt, h.far, h.bel.setCell (p := ⟨bm, p, none⟩) h.far _, by simp only [World.size_setCell]; exact h.size⟩
  rw [Array.toList_setIfInBounds, h2]
  simp [intV, List.map_set]
theorem MM.push {w4 wx w1 : World} {bm B : Nat} {st : List Nat} {M : List Int} {v v' : Value} (h : MM w4 bm B (st, M) v wx) {k : Nat} {W : World} (hW : Below wx.heap.size wx W) (ho : w1.ownsRow B 3 1 v' (st.length + 1) (stV st ++ [.int .i64 (k : Int)])) (hg : W.grownBy w1 v.ownBlock) : MM w4 bm B (st ++ [k], M) v' w1 := by
  have hWs := hW.size
  have hs := h.size
  obtain ⟨a, h1, h2⟩ := h.arr
  have hob : ∀ j, v.ownBlock = some j → B ≤ j := fun j hj => by
    rcases h.own.2 with ⟨hv, _⟩ | ⟨g, cap, cur, hv, hg, _⟩
    · rw [hv] at hj
      cases hj
    · rw [hv] at hj
      cases hj
      exact hg
  have hlt := h.lt
  refine ⟨?_, ⟨a, ?_, h2⟩, h.lt, h.far, ((h.bel.trans (hW.mono (by have := h.far; omega))).grown hg (by have := h.far; omega) (fun j hj => by have := hob j hj; have := h.far; omega)), by have := hg.size; omega⟩
  · have e : (st ++ [k]).length = st.length + 1 := by simp
    simp only [e]
    simpa [stV] using ho
  · rw [hg.block bm (by omega) (fun e => by have := hob bm e.symm; omega), hW.block bm (by omega)]
    exact h1
theorem MM.pop {w4 wx : World} {bm B : Nat} {st : List Nat} {M : List Int} {g cap o : Nat} (h : MM w4 bm B (st ++ [o], M) (.slice (some ⟨g, 0, none⟩) (st.length + 1) cap) wx) : MM w4 bm B (st, M) (.slice (some ⟨g, 0, none⟩) st.length cap) wx ∧ wx.cell? ⟨g, st.length, none⟩ = some (.int .i64 (o : Int)) ∧ st.length + 1 ≤ cap := by
  have h1 := h.own
  have e : (st ++ [o]).length = st.length + 1 := by simp
  simp only [e, stV, List.map_append, List.map_cons, List.map_nil] at h1
  obtain ⟨p1, p2, p3⟩ := own_pop h1
  exact ⟨⟨p1, h.arr, h.lt, h.far, h.bel, h.size⟩, p2, p3⟩

/-- One pair decides. -/
def condM (S : List UInt8) (I D : List Bool) (M : List Int) (i : Nat) : Bool := !I.getD i false && (S.getD i 0 == 123) && !decide (M.getD i 0 < (i : Int)) && pairE S I D M i (M.getD i 0).toNat
theorem emitsM_yes {S : List UInt8} {I D : List Bool} {M : List Int} {i : Nat} (hi : i < S.length) (h : condM S I D M i = true) : emitsM S I D M = true := by
  unfold emitsM
  rw [List.any_eq_true]
  exact ⟨i, List.mem_range.2 hi, h⟩
theorem emitsM_no {S : List UInt8} {I D : List Bool} {M : List Int} (h : ∀ i, i < S.length → condM S I D M i = false) : emitsM S I D M = false := by
  unfold emitsM
  rw [← Bool.not_eq_true, List.any_eq_true]
  rintro ⟨i, h1, h2⟩
  have := h i (List.mem_range.1 h1)
  unfold condM at this
  rw [this] at h2
  cases h2
/-- The arrays, as slices. -/
theorem own_arr {w : World} {base : Nat} {v : Value} {S : List UInt8} (h : w.ownsRow base 5 1 v S.length (Lib.byteCells S)) (h0 : 0 < S.length) : ∃ g cap, v = .slice (some ⟨g, 0, none⟩) S.length cap ∧ g < w.heap.size ∧ (∀ p, p < S.length → w.cell? ⟨g, p, none⟩ = some (.int .u8 ((S.getD p 0).toNat : Int))) ∧ ArrAt w v (byteV S) := by
  rcases h.2 with ⟨_, h1⟩ | ⟨g, cap, cur, hv, hg, hb, r1, r2, r3, r4⟩
  · omega
  · have e : (byteV S).length = S.length := by simp [byteV]
    have hlt := (Array.getElem?_eq_some_iff.1 hb).1
    have key : ∀ (i : Nat) u, (byteV S)[i]? = some u → w.cell? ⟨g, i, none⟩ = some u := fun i u hu => by
      have hi := (List.getElem?_eq_some_iff.1 hu).1
      rw [Lib.cell_of_heap hb, ← Array.getElem?_toList]
      have h5 : (cur.toList.take (S.length * 1))[i]? = some u := by rw [r4]; exact hu
      rwa [List.getElem?_take_of_lt (by omega)] at h5
    exact ⟨g, cap, hv, hlt, fun p hp => key p _ (byteV_get S p hp), g, 0, cap, by rw [hv, e], by omega, hlt, fun i u hu => by rw [Nat.zero_add]; exact key i u hu⟩
end Go.Proofs.YtpmmnlgkeanplaaDoor

namespace Go.Proofs.YtpmmnlgkeanplaaDoor
open Go.RowKit

theorem info_byte : (Tryd.prog.info? 5).map (fun i => (i.zero, i.size, i.bytes)) = some (some (.int .u8 0), 1, 1) := by kernel_rfl
theorem info_bool : (Tryd.prog.info? 4).map (fun i => (i.zero, i.size, i.bytes)) = some (some (.bool false), 1, 1) := by kernel_rfl
theorem info_int : (Tryd.prog.info? 3).map (fun i => (i.zero, i.size, i.bytes)) = some (some (.int .i64 0), 1, 8) := by kernel_rfl

/-- A row of n marks, just made. -/
theorem pad_made {W : World} {H n : Nat} (h : W.ownsRow H 4 1 (.slice (some ⟨H, 0, none⟩) n n) n (madeCells (Value.bool false).cells (n * 1)).toList) : Pad W H n [] := by
  rcases h.2 with ⟨hv, _⟩ | ⟨g, cap, cur, hv, hg, hb, r1, r2, r3, r4⟩
  · cases hv
  · simp only [Value.slice.injEq, Option.some.injEq, Addr.mk.injEq] at hv
    obtain ⟨⟨rfl, _⟩, _, hcap⟩ := hv
    refine ⟨cur, hb, ?_⟩
    have e1 : cur.toList.length = n * 1 := by rw [Array.length_toList, r3]; congr 1; omega
    rw [List.take_of_length_le (by omega)] at r4
    rw [r4]
    simp [toList_madeCells_one, Value.cells, boolV]

/-- A row of n numbers: k of them filled. -/
def Fill (W : World) (b n k : Nat) : Prop := ∃ a : Array Value, W.heap[b]? = some (.cells a 3 (0, 0)) ∧ a.toList = List.replicate k (.int .i64 (-1)) ++ List.replicate (n - k) (.int .i64 0)
theorem fill_made {W : World} {H n : Nat} (h : W.ownsRow H 3 1 (.slice (some ⟨H, 0, none⟩) n n) n (madeCells (Value.int .i64 0).cells (n * 1)).toList) : Fill W H n 0 := by
  rcases h.2 with ⟨hv, _⟩ | ⟨g, cap, cur, hv, hg, hb, r1, r2, r3, r4⟩
  · cases hv
  · simp only [Value.slice.injEq, Option.some.injEq, Addr.mk.injEq] at hv
    obtain ⟨⟨rfl, _⟩, _, hcap⟩ := hv
    refine ⟨cur, hb, ?_⟩
    have e1 : cur.toList.length = n * 1 := by rw [Array.length_toList, r3]; congr 1; omega
    rw [List.take_of_length_le (by omega)] at r4
    rw [r4]
    simp [toList_madeCells_one, Value.cells]
theorem Fill.at_ {W : World} {b n k : Nat} (h : Fill W b n k) (hk : k < n) : W.cell? ⟨b, k, none⟩ = some (.int .i64 0) ∧ W.frozen? ⟨b, k, none⟩ = false := by
  obtain ⟨a, h1, h2⟩ := h
  refine ⟨?_, Lib.frozen_of_heap h1 _⟩
  rw [Lib.cell_of_heap h1, ← Array.getElem?_toList, h2, List.getElem?_append_right (by simp), List.length_replicate, Nat.sub_self, List.getElem?_replicate, if_pos (by omega)]
theorem Fill.next {W : World} {b n k : Nat} (h : Fill W b n k) (hk : k < n) : Fill (W.setCell ⟨b, k, none⟩ (.int .i64 (-1))) b n (k + 1) := by
  obtain ⟨a, h1, h2⟩ := h
  refine ⟨_, heap_setCell_same _ _ _ _ _ _ h1, ?_⟩
  have e : n - k = (n - (k + 1)) + 1 := by omega
  rw [Array.toList_setIfInBounds, h2, e, List.replicate_succ, List.set_append_right _ _ (by simp), List.length_replicate, Nat.sub_self, List.set_cons_zero, List.replicate_succ']
  simp
theorem own_slice' {w : World} {base n : Nat} {e : TypeId} {v : Value} {xs : List Value} (h : w.ownsRow base e 1 v n xs) : ∃ s a c, v = .slice s a c := by
  rcases h.2 with ⟨rfl, _⟩ | ⟨g, cap, cur, rfl, _⟩
  · exact ⟨_, _, _, rfl⟩
  · exact ⟨_, _, _, rfl⟩
/-- Where one string has been read as far as j: the marks so far, and what is still to come. -/
def LexTo (b : List UInt8) (j : Nat) (X : List (Bool × Bool)) : Prop := lex b = X ++ lex (b.drop j) ∧ X.length = min j b.length
theorem LexTo.start (b : List UInt8) : LexTo b 0 [] := ⟨rfl, by simp⟩
theorem LexTo.done {b : List UInt8} {j : Nat} {X : List (Bool × Bool)} (h : LexTo b j X) (hj : b.length ≤ j) : X = lex b := by
  rw [h.1, List.drop_eq_nil_of_le hj]
  simp [lex]
theorem LexTo.esc2 {b : List UInt8} {j : Nat} {X : List (Bool × Bool)} (h : LexTo b j X) {x : UInt8} (hx : b[j]? = some x) (h92 : x.toNat = 92) (hj : j + 1 < b.length) : LexTo b (j + 2) (X ++ [(true, false)] ++ [(true, false)]) := by
  have hlt := (List.getElem?_eq_some_iff.1 hx).1
  have e : b.drop j = x :: b[j + 1] :: b.drop (j + 2) := by
    rw [List.drop_eq_getElem_cons hlt, List.drop_eq_getElem_cons hj, (List.getElem?_eq_some_iff.1 hx).2]
  refine ⟨?_, by have := h.2; simp; omega⟩
  rw [h.1, e, lex_two _ _ _ h92]
  simp
theorem LexTo.esc1 {b : List UInt8} {j : Nat} {X : List (Bool × Bool)} (h : LexTo b j X) {x : UInt8} (hx : b[j]? = some x) (h92 : x.toNat = 92) (hj : ¬ j + 1 < b.length) : LexTo b (j + 2) (X ++ [(true, false)]) := by
  have hlt := (List.getElem?_eq_some_iff.1 hx).1
  have e : b.drop j = [x] := by
    rw [List.drop_eq_getElem_cons hlt, (List.getElem?_eq_some_iff.1 hx).2, List.drop_eq_nil_of_le (by omega)]
  refine ⟨?_, by have := h.2; simp; omega⟩
  rw [h.1, e, List.drop_eq_nil_of_le (by omega : b.length ≤ j + 2)]
  simp [lex, h92]
theorem LexTo.one {b : List UInt8} {j : Nat} {X : List (Bool × Bool)} (h : LexTo b j X) {x : UInt8} (hx : b[j]? = some x) (h92 : x.toNat ≠ 92) {d : Bool} (hd : d = (decide (x.toNat = 46) && decide (((b[j + 1]?).getD 0).toNat = 46))) : LexTo b (j + 1) (X ++ [(false, d)]) := by
  have hlt := (List.getElem?_eq_some_iff.1 hx).1
  have e : b.drop j = x :: b.drop (j + 1) := by
    rw [List.drop_eq_getElem_cons hlt, (List.getElem?_eq_some_iff.1 hx).2]
  refine ⟨?_, by have := h.2; simp; omega⟩
  rw [h.1, e, lex_one _ _ h92, hd]
  simp [List.getD_eq_getElem?_getD]
theorem allI_len (ss : List ByteArray) : (allI ss).length = (allB ss).length := by rw [allI, List.length_map, allL_len]
theorem allD_len (ss : List ByteArray) : (allD ss).length = (allB ss).length := by rw [allD, List.length_map, allL_len]
theorem allI_take (ss : List ByteArray) (k : Nat) (h : k < ss.length) : allI (ss.take (k + 1)) = allI (ss.take k) ++ (lex (ss.getD k ByteArray.empty).data.toList).map (·.1) := by rw [allI, allL_take ss k h, List.map_append]; rfl
theorem allD_take (ss : List ByteArray) (k : Nat) (h : k < ss.length) : allD (ss.take (k + 1)) = allD (ss.take k) ++ (lex (ss.getD k ByteArray.empty).data.toList).map (·.2) := by rw [allD, allL_take ss k h, List.map_append]; rfl

set_option maxRecDepth 100000 in
set_option maxHeartbeats 4000000 in
theorem emits_any (v : Value) (ss : List ByteArray) (w : World) (hl : tot ss ≤ 8192) (h : StrsAt w v ss) :
    Calls Tryd.prog 9 #[v] w fun e w' => e = .returned (.bool (emitsM (allB ss) (allI ss) (allD ss) (mrun (allB ss) (allI ss) (allB ss).length).2)) ∧ Below w.heap.size w w' := by
  obtain ⟨ib, hib, hb0, hb1, hb2⟩ := info_parts info_byte
  obtain ⟨io, hio, ho0, ho1, ho2⟩ := info_parts info_bool
  obtain ⟨ii, hii, hi0, hi1, hi2⟩ := info_parts info_int
  have htot := allB_tot ss
  have hlen := sz_length (ss.map Part.lit)
  have hszl := sz_lits ss
  rw [List.length_map] at hlen
  obtain ⟨ao, cap, rfl, hc⟩ := h
  have HC := Lib.hid hc
  have hlz : (0 : Int) ≤ (ss.length : Int) ∧ (ss.length : Int) ≤ 8192 := by omega
  obtain ⟨n, hn⟩ : ∃ n, (allB ss).length = n := ⟨_, rfl⟩
  have HN := Lib.hid hn
  have hnz : (0 : Int) ≤ (n : Int) ∧ (n : Int) ≤ 8192 := by omega
  rw [hn]
  clear hc hl htot hlen hszl hn
  go_enter Tryd.func9, Tryd.ntmps9
  go_wp2
  go_loopg [3, 4] ss.length (fun gk s3 s4 wr => ∃ k, w = wr ∧ k ≤ ss.length ∧ gk = ss.length - k ∧ s3 = .int .i64 ((allB (ss.take k)).length : Int) ∧ s4 = .int .i64 (k : Int))
  case atStart => exact ⟨0, rfl, Nat.zero_le _, rfl, rfl, rfl⟩
  case round =>
    obtain ⟨k, rfl, hk, rfl, rfl, rfl⟩ := hrel
    have hle := allB_le ss k
    have hlez : ((allB (ss.take k)).length : Int) ≤ 8192 := by have := HN.out; omega
    by_cases hlt : k < ss.length
    · have hkz : (k : Int) < (ss.length : Int) := by omega
      obtain ⟨b, off, ha, _, hcell⟩ := some_str HC.out hlt
      subst ha
      have ht := congrArg List.length (allB_take ss k hlt)
      have hle2 := allB_le ss (k + 1)
      rw [List.length_append, Array.length_toList] at ht
      generalize ss.getD k ByteArray.empty = s at hcell ht
      have ht2 : (allB (ss.take (k + 1))).length = (allB (ss.take k)).length + s.size := ht
      have hsz : (allB (ss.take k)).length + s.size ≤ 8192 := by have := HN.out; omega
      have HT := Lib.hid ht2
      clear ht ht2 hle2 hle
      generalize (allB (ss.take k)).length = x at *
      have hsz2 : (x : Int) + (s.size : Int) ≤ 8192 ∧ (0 : Int) ≤ (s.size : Int) := by omega
      go_wp2
      go_roundg (ss.length - (k + 1))
      case measure => omega
      case rel => exact ⟨k + 1, rfl, by omega, rfl, by rw [HT.out]; first | rfl | simp, by first | rfl | simp⟩
    · obtain rfl : k = ss.length := by omega
      rw [List.take_length, HN.out]
      clear hle hlez
      go_wp2_with (first
        | (at_make; refine wpList_make_own _ rfl _ _ 42 rfl w.heap.size 5 ib (.int .u8 0) 1 Tryd.underlying42 hib hb0 hb1 _ _ _ n rfl rfl (by omega) (by rw [hb2]; omega) (by unfold maxLen; omega) (Nat.le_refl _) ?_; intro w1 hown1 hgrow1; have HB1 := Lib.hid ((Below.refl w.heap.size w).grown hgrow1 (Nat.le_refl _) (fun k hk => by cases hk)))
        | (at_make; refine wpList_make_full _ rfl _ _ 43 rfl w1.heap.size 4 io (.bool false) 1 Tryd.underlying43 hio ho0 ho1 _ _ _ _ n rfl rfl rfl rfl (by rw [ho2]; omega) (by unfold maxLen; omega) (Nat.le_refl _) ?_; intro w2 hown2 hgrow2)
        | (at_make; refine wpList_make_full _ rfl _ _ 43 rfl w2.heap.size 4 io (.bool false) 1 Tryd.underlying43 hio ho0 ho1 _ _ _ _ n rfl rfl rfl rfl (by rw [ho2]; omega) (by unfold maxLen; omega) (Nat.le_refl _) ?_; intro w3 hown3 hgrow3))
      have hme : ME w n (.slice (some ⟨w.heap.size, 0, none⟩) 0 n) [] w1.heap.size w2.heap.size [] [] w3 := by
        have p2 := pad_made hown2
        have p3 := pad_made hown3
        have hs2 := p2.lt
        have o12 : w2.heap[w.heap.size]? = w1.heap[w.heap.size]? ∧ w3.heap[w.heap.size]? = w2.heap[w.heap.size]? := by
          obtain ⟨_, c, hc⟩ := own_byte hown1 (k := w.heap.size) rfl
          have h1 := (Array.getElem?_eq_some_iff.1 hc).1
          exact ⟨hgrow2.block _ h1 (by simp), hgrow3.block _ (by have := hgrow2.size; omega) (by simp)⟩
        refine ⟨⟨rfl, ?_⟩, p2.keep (hgrow3.block _ hs2 (by simp)), p3, by omega, HB1.out.size, Nat.le_trans HB1.out.size hgrow2.size, (HB1.out.grown hgrow2 HB1.out.size (fun k hk => by cases hk)).grown hgrow3 (Nat.le_trans HB1.out.size hgrow2.size) (fun k hk => by cases hk)⟩
        rcases hown1.2 with ⟨hv, _⟩ | ⟨g, cap, cur, hv, hg, hb, r⟩
        · cases hv
        · refine Or.inr ⟨g, cap, cur, hv, hg, ?_, r⟩
          simp only [Value.slice.injEq, Option.some.injEq, Addr.mk.injEq] at hv
          obtain ⟨⟨rfl, _⟩, _⟩ := hv
          rw [o12.2, o12.1]
          exact hb
      obtain ⟨bi, hbi⟩ : ∃ bi, w1.heap.size = bi := ⟨_, rfl⟩
      obtain ⟨bd, hbd⟩ : ∃ bd, w2.heap.size = bd := ⟨_, rfl⟩
      rw [hbi, hbd] at hme
      rw [hbi, hbd]
      have HME := Lib.hid hme
      clear hme hown1 hgrow1 hown2 hgrow2 hown3 hgrow3 HB1 hbi hbd
      go_loopg [5, 8, 9] ss.length (fun gk s5 s8 s9 wr => ∃ q sa sn sc, q ≤ ss.length ∧ gk = ss.length - q ∧ s5 = .slice sa sn sc ∧ s8 = .int .i64 ((allB (ss.take q)).length : Int) ∧ s9 = .int .i64 (q : Int) ∧ ME w n (.slice sa sn sc) (allB (ss.take q)) bi bd (allI (ss.take q)) (allD (ss.take q)) wr)
      case atStart => exact ⟨0, _, _, _, Nat.zero_le _, rfl, rfl, rfl, rfl, HME.out⟩
      case round =>
        clear HME
        rename World => w4
        obtain ⟨q, sa, sn, sc, hq, rfl, rfl, rfl, rfl, hme⟩ := hrel
        have HME := Lib.hid hme
        clear hme
        have hle := allB_le ss q
        rw [HN.out] at hle
        have hlez : ((allB (ss.take q)).length : Int) ≤ (n : Int) ∧ (0 : Int) ≤ ((allB (ss.take q)).length : Int) := by omega
        have hIl := allI_len (ss.take q)
        have hDl := allD_len (ss.take q)
        by_cases hlt : q < ss.length
        · have hkz : (q : Int) < (ss.length : Int) := by omega
          obtain ⟨b, off, ha, hbl, hck⟩ := some_str HC.out hlt
          subst ha
          have hcell := (HME.out.bel.cell (p := ⟨b, off + q, none⟩) hbl).trans hck
          have HTB := Lib.hid (allB_take ss q hlt)
          have HTI := Lib.hid (allI_take ss q hlt)
          have HTD := Lib.hid (allD_take ss q hlt)
          have hle2 := allB_le ss (q + 1)
          rw [HTB.out, HN.out, List.length_append, Array.length_toList] at hle2
          clear hck hbl
          generalize ss.getD q ByteArray.empty = s at *
          generalize allB (ss.take q) = SB at *
          generalize allI (ss.take q) = LI at *
          generalize allD (ss.take q) = LD at *
          have hfit : SB.length + s.size ≤ n := hle2
          have hfz : (SB.length : Int) + (s.size : Int) ≤ (n : Int) ∧ (0 : Int) ≤ (s.size : Int) := by omega
          have hbl : s.data.toList.length = s.size := by rw [Array.length_toList]; rfl
          have HIL := Lib.hid hIl
          have HDL := Lib.hid hDl
          have HBL := Lib.hid hbl
          clear hle2 hle hIl hDl hbl
          go_wp2
          go_loopg [11] (s.size + 2) (fun gk s11 wr => ∃ (j : Nat) (X : List (Bool × Bool)), s11 = .int .i64 (j : Int) ∧ gk = s.size + 2 - j ∧ j ≤ s.size + 1 ∧ LexTo s.data.toList j X ∧ ME w n (.slice sa sn sc) SB bi bd (LI ++ X.map (·.1)) (LD ++ X.map (·.2)) wr)
          case atStart => exact ⟨0, [], rfl, rfl, Nat.zero_le _, LexTo.start _, by simpa using HME.out⟩
          case round =>
            clear HME
            rename World => w5
            obtain ⟨j, X, rfl, rfl, hj1, hX, hme⟩ := hrel
            have HME := Lib.hid hme
            have HX := Lib.hid hX
            clear hme hX
            by_cases hj : j < s.size
            · have hjz : (j : Int) < (s.size : Int) := by omega
              have hXl : X.length = j := by have := HX.out.2; have := HBL.out; omega
              have hIl : (LI ++ X.map (·.1)).length = SB.length + j := by have := HIL.out; simp; omega
              have hDl : (LD ++ X.map (·.2)).length = SB.length + j := by have := HDL.out; simp; omega
              obtain ⟨ci, fi⟩ := HME.out.pi.next (by omega)
              obtain ⟨cd, fd⟩ := HME.out.pd.next (by omega)
              rw [hIl] at ci fi
              rw [hDl] at cd fd
              obtain ⟨x, hx⟩ := getE (l := s.data.toList) (k := j) (by have := HBL.out; omega)
              have hyb : (s[j]'hj).toNat = x.toNat := by
                have h1 := bt_get s j hj
                rw [← h1, bt, List.getD_eq_getElem?_getD, hx]
                rfl
              have HXX := Lib.hid hx
              have hxz : (0 : Int) ≤ (x.toNat : Int) ∧ (x.toNat : Int) ≤ 255 := by have := x.toNat_lt; omega
              have HIl := Lib.hid hIl
              have HDl := Lib.hid hDl
              have HXL := Lib.hid hXl
              clear hx hIl hDl hXl
              by_cases h92 : x.toNat = 92
              · have z92 : ((x.toNat : Int) == 92) = true := by rw [h92]; rfl
                by_cases hj2 : j + 1 < s.size
                · have hj2z : (j : Int) + 1 < (s.size : Int) := by omega
                  obtain ⟨ci2, fi2⟩ := HME.out.pi.next2 HIl.out (by omega)
                  go_wp2
                  go_roundg (s.size + 2 - (j + 2))
                  case measure => omega
                  case rel => exact ⟨j + 2, X ++ [(true, false)] ++ [(true, false)], by first | rfl | simp, rfl, by omega, HX.out.esc2 HXX.out h92 (by have := HBL.out; omega), by
                    have h := HME.out.esc2 HIl.out HDl.out (by omega)
                    simpa [List.append_assoc] using h⟩
                · have hj2z : ¬ (j : Int) + 1 < (s.size : Int) := by omega
                  go_wp2
                  go_roundg (s.size + 2 - (j + 2))
                  case measure => omega
                  case rel => exact ⟨j + 2, X ++ [(true, false)], by first | rfl | simp, rfl, by omega, HX.out.esc1 HXX.out h92 (by have := HBL.out; omega), by
                    have h := HME.out.esc1 HIl.out HDl.out (by omega)
                    simpa [List.append_assoc] using h⟩
              · have z92 : ((x.toNat : Int) == 92) = false := beq_eq_false_iff_ne.2 (by omega)
                have HPL := Lib.hid (HME.out.plain HIl.out HDl.out (by omega))
                by_cases h46 : x.toNat = 46
                · have z46 : ((x.toNat : Int) == 46) = true := by rw [h46]; rfl
                  by_cases hj2 : j + 1 < s.size
                  · have hj2z : (j : Int) + 1 < (s.size : Int) := by omega
                    obtain ⟨y, hy⟩ := getE (l := s.data.toList) (k := j + 1) (by have := HBL.out; omega)
                    have hyb2 : (s[j + 1]'hj2).toNat = y.toNat := by
                      have h1 := bt_get s (j + 1) hj2
                      rw [← h1, bt, List.getD_eq_getElem?_getD, hy]
                      rfl
                    have HYY := Lib.hid hy
                    clear hy
                    by_cases hy46 : y.toNat = 46
                    · have zy : ((y.toNat : Int) == 46) = true := by rw [hy46]; rfl
                      go_wp2
                      go_roundg (s.size + 2 - (j + 1))
                      case measure => omega
                      case rel => exact ⟨j + 1, X ++ [(false, true)], by first | rfl | simp, rfl, by omega, HX.out.one HXX.out h92 (by rw [HYY.out]; simp [h46, hy46]), by
                        have h := HME.out.dot HIl.out HDl.out (by omega)
                        simpa [List.append_assoc] using h⟩
                    · have zy : ((y.toNat : Int) == 46) = false := beq_eq_false_iff_ne.2 (by omega)
                      go_wp2
                      go_roundg (s.size + 2 - (j + 1))
                      case measure => omega
                      case rel => exact ⟨j + 1, X ++ [(false, false)], by first | rfl | simp, rfl, by omega, HX.out.one HXX.out h92 (by rw [HYY.out]; simp [hy46]), by
                        have h := HPL.out
                        simpa [List.append_assoc] using h⟩
                  · have hj2z : ¬ (j : Int) + 1 < (s.size : Int) := by omega
                    go_wp2
                    go_roundg (s.size + 2 - (j + 1))
                    case measure => omega
                    case rel => exact ⟨j + 1, X ++ [(false, false)], by first | rfl | simp, rfl, by omega, HX.out.one HXX.out h92 (by rw [List.getElem?_eq_none (by have := HBL.out; omega)]; simp), by
                      have h := HPL.out
                      simpa [List.append_assoc] using h⟩
                · have z46 : ((x.toNat : Int) == 46) = false := beq_eq_false_iff_ne.2 (by omega)
                  go_wp2
                  go_roundg (s.size + 2 - (j + 1))
                  case measure => omega
                  case rel => exact ⟨j + 1, X ++ [(false, false)], by first | rfl | simp, rfl, by omega, HX.out.one HXX.out h92 (by simp [h46]), by
                    have h := HPL.out
                    simpa [List.append_assoc] using h⟩
            · have hXE := HX.out.done (by have := HBL.out; omega)
              subst hXE
              have hjn : ¬ (j : Int) < (s.size : Int) := by omega
              have hsz5 := HME.out.bel.size
              have HS5 := Lib.hid hsz5
              clear hsz5
              go_wp2_with (at_builtin; refine Lib.wpList_append_own_string _ rfl _ _ 42 9 rfl w.heap.size 5 ib Tryd.underlying42 Tryd.underlying9 hib hb0 hb1 hb2 _ _ _ rfl HME.out.own s rfl (by unfold maxLen; omega) (by omega) HS5.out ?_; intro v6 w6 hown6 hgrow6 _; have HM6 := Lib.hid (HME.out.text hown6 hgrow6); obtain ⟨sa6, sn6, sc6, hv6⟩ := own_slice' hown6; subst hv6; clear hown6 hgrow6)
              go_roundg (ss.length - (q + 1))
              case measure => omega
              case rel => exact ⟨q + 1, sa6, sn6, sc6, by omega, rfl, rfl, by rw [HTB.out, List.length_append, HBL.out]; first | rfl | simp, by first | rfl | simp, by
                rw [HTB.out, HTI.out, HTD.out]
                exact HM6.out⟩
        · obtain rfl : q = ss.length := by omega
          rw [List.take_length] at HME
          rw [List.take_length]
          clear hle hIl hDl hlez
          obtain rfl : n = sn := by
            rcases HME.out.own.2 with ⟨hv, h0⟩ | ⟨g, cap, cur, hv, _⟩
            · simp only [Value.slice.injEq] at hv
              have := HN.out
              omega
            · simp only [Value.slice.injEq] at hv
              rw [hv.2.1]
              exact HN.out.symm
          have hz4 := HME.out.bel.size
          have HZ4 := Lib.hid hz4
          go_wp2_with (at_make; refine wpList_make_full _ rfl _ _ 44 rfl w4.heap.size 3 ii (.int .i64 0) 1 Tryd.underlying44 hii hi0 hi1 _ _ _ _ n rfl rfl rfl rfl (by rw [hi2]; omega) (by unfold maxLen; omega) (Nat.le_refl _) ?_; intro w5 hown5 hgrow5)
          have hf5 := fill_made hown5
          have hb5 : Below w4.heap.size w4 w5 := (Below.refl _ _).grown hgrow5 (Nat.le_refl _) (fun k hk => by cases hk)
          obtain ⟨bm, hbm⟩ : ∃ bm, w4.heap.size = bm := ⟨_, rfl⟩
          have HBM := Lib.hid hbm
          rw [hbm] at hf5 hb5
          rw [hbm]
          have HF5 := Lib.hid (And.intro hf5 hb5)
          clear hf5 hb5 hbm hown5 hgrow5 hz4
          go_loopg [14] n (fun gk s14 wr => ∃ k, k ≤ n ∧ gk = n - k ∧ s14 = .int .i64 (k : Int) ∧ Fill wr bm n k ∧ Below bm w4 wr)
          case atStart => exact ⟨0, Nat.zero_le _, rfl, rfl, HF5.out.1, HF5.out.2⟩
          case round =>
            clear HF5
            rename World => w6
            obtain ⟨k, hk, rfl, rfl, hf, hb⟩ := hrel
            have HF6 := Lib.hid (And.intro hf hb)
            by_cases hlt6 : k < n
            · have hkz : (k : Int) < (n : Int) := by omega
              obtain ⟨c1, f1⟩ := hf.at_ hlt6
              clear hf hb
              go_wp2
              go_roundg (n - (k + 1))
              case measure => omega
              case rel => exact ⟨k + 1, by omega, rfl, by first | rfl | simp, HF6.out.1.next hlt6, HF6.out.2.setCell (p := ⟨bm, k, none⟩) (Nat.le_refl _) _⟩
            · obtain rfl : n = k := by omega
              clear hf hb
              go_wp2_with (at_make; refine wpList_make_own _ rfl _ _ 44 rfl w6.heap.size 3 ii (.int .i64 0) 1 Tryd.underlying44 hii hi0 hi1 _ _ _ 0 rfl rfl rfl (by rw [hi2]; omega) (by unfold maxLen; omega) (Nat.le_refl _) ?_; intro w7 hown7 hgrow7)
              obtain ⟨B, hB⟩ : ∃ B, w6.heap.size = B := ⟨_, rfl⟩
              rw [hB] at hown7
              rw [hB]
              have hbmlt : bm < w6.heap.size := by
                obtain ⟨a, h1, _⟩ := HF6.out.1
                exact (Array.getElem?_eq_some_iff.1 h1).1
              have hb46 : Below w4.heap.size w4 w6 := by rw [HBM.out]; exact HF6.out.2
              have hmm7 : MM w4 bm B (mrun (allB ss) (allI ss) 0) (.slice (some ⟨B, 0, none⟩) 0 0) w7 := by
                obtain ⟨a, h1, h2⟩ := HF6.out.1
                refine ⟨hown7, ⟨a, (hgrow7.block bm hbmlt (by simp)).trans h1, ?_⟩, by omega, by have := HBM.out; omega, hb46.grown hgrow7 (by have := HBM.out; omega) (fun k hk => by cases hk), by have := hgrow7.size; omega⟩
                rw [h2, Nat.sub_self, List.replicate_zero, List.append_nil]
                simp [mrun, intV, HN.out]
              have HMM7 := Lib.hid hmm7
              have HARR := Lib.hid (And.intro (HME.out.pi.full (by rw [allI_len, HN.out])) (HME.out.pd.full (by rw [allD_len, HN.out])))
              have HLT := Lib.hid (And.intro HME.out.pi.lt HME.out.pd.lt)
              clear hmm7 hown7 hgrow7 hbmlt hb46 hB HF6
              go_loopg [15, 16] n (fun gk s15 s16 wr => ∃ k sa2 sc2, k ≤ n ∧ gk = n - k ∧ s15 = .slice sa2 (mrun (allB ss) (allI ss) k).1.length sc2 ∧ s16 = .int .i64 (k : Int) ∧ MM w4 bm B (mrun (allB ss) (allI ss) k) (.slice sa2 (mrun (allB ss) (allI ss) k).1.length sc2) wr)
              case atStart => exact ⟨0, _, _, Nat.zero_le _, rfl, rfl, rfl, HMM7.out⟩
              case round =>
                clear HMM7
                rename World => w8
                obtain ⟨k, sa2, sc2, hk, rfl, rfl, rfl, hmm⟩ := hrel
                have HMM := Lib.hid hmm
                have hinv := mrun_inv (allB ss) (allI ss) k (by rw [HN.out]; exact hk)
                have HINV := Lib.hid hinv
                by_cases hlt8 : k < n
                · have hkz : (k : Int) < (n : Int) := by omega
                  obtain ⟨gS, cS, hvS, hgS, hS2, hAS⟩ := own_arr HME.out.own (by rw [HN.out]; omega)
                  simp only [Value.slice.injEq] at hvS
                  obtain ⟨hsa, hsn2, hsc⟩ := hvS
                  subst hsa
                  clear hsn2 hsc
                  have c1 : w8.cell? ⟨bi, k, none⟩ = some (.bool ((allI ss).getD k false)) := by
                    obtain ⟨g2, o2, c2, hv2, _, _, h3⟩ := HARR.out.1
                    cases hv2
                    have := h3 k _ (boolV_get _ k (by rw [allI_len, HN.out]; exact hlt8))
                    rw [Nat.zero_add] at this
                    exact (hmm.bel.cell (p := ⟨bi, k, none⟩) HLT.out.1).trans this
                  have c2 : w8.cell? ⟨gS, k, none⟩ = some (.int .u8 (((allB ss).getD k 0).toNat : Int)) := (hmm.bel.cell (p := ⟨gS, k, none⟩) hgS).trans (hS2 k (by rw [HN.out]; exact hlt8))
                  have HST := Lib.hid (show mrun (allB ss) (allI ss) (k + 1) = mstep (allB ss) (allI ss) k (mrun (allB ss) (allI ss) k) from rfl)
                  have hMl := hinv.len
                  have hsl8 : (mrun (allB ss) (allI ss) k).1.length ≤ k := hinv.cnt
                  clear hmm hinv hS2 hgS hAS
                  generalize mrun (allB ss) (allI ss) k = stM at *
                  obtain ⟨st, M⟩ := stM
                  simp only at hsl8 hMl
                  rw [HN.out] at hMl
                  have hown8 : w8.ownsRow B 3 1 (.slice sa2 st.length sc2) st.length (stV st) := HMM.out.own
                  have HOWN8 := Lib.hid hown8
                  clear hown8
                  have hBB := HMM.out.size
                  have HBB := Lib.hid hBB
                  have hslz : (0 : Int) ≤ (st.length : Int) ∧ (st.length : Int) ≤ (k : Int) := by omega
                  have hx0 : (0 : Int) ≤ (((allB ss).getD k 0).toNat : Int) ∧ (((allB ss).getD k 0).toNat : Int) ≤ 255 := by have := ((allB ss).getD k 0).toNat_lt; omega
                  clear hBB
                  have HST2 := Lib.hid (show mrun (allB ss) (allI ss) (k + 1) = if (allI ss).getD k false = true then (st, M) else if (allB ss).getD k 0 = 123 then (st ++ [k], M) else if (allB ss).getD k 0 = 125 then (match st.getLast? with | none => (st, M) | some o => (st.dropLast, (M.set o (k : Int)).set k (o : Int))) else (st, M) from HST.out)
                  clear HST
                  generalize (allI ss).getD k false = bI at *
                  generalize (allB ss).getD k 0 = x at *
                  generalize hnx : mrun (allB ss) (allI ss) (k + 1) = nx at *
                  cases bI with
                  | true =>
                    obtain rfl : nx = (st, M) := HST2.out
                    go_wp2
                    go_roundg (n - (k + 1))
                    case measure => omega
                    case rel => exact ⟨k + 1, sa2, sc2, by omega, rfl, by rw [hnx] <;> rfl, by first | rfl | simp, by rw [hnx]; exact HMM.out⟩
                  | false =>
                    have h3 := HST2.out
                    rw [if_neg (by simp)] at h3
                    by_cases h123 : x.toNat = 123
                    · have z123 : ((x.toNat : Int) == 123) = true := by rw [h123]; rfl
                      obtain rfl : x = 123 := UInt8.toNat_inj.1 h123
                      rw [if_pos rfl] at h3
                      subst h3
                      go_wp2_with (at_builtin; refine wpList_append_lies _ rfl _ _ 44 rfl B 3 ii (.int .i64 0) 1 8 Tryd.underlying44 hii hi0 hi1 hi2 rfl (by decide) _ _ _ rfl (HOWN8.out.alloc _) ⟨w8.heap.size, 0, none⟩ 1 1 [.int .i64 (k : Int)] rfl rfl (cell_one_new w8 _ _) (by intro u hu; simp at hu; subst hu; rfl) (by decide) (by unfold maxLen; omega) (by omega) (by simp only [World.size_alloc]; have := HBB.out; omega) _ rfl ?_; intro g9 cap9 w9 hown9 hgrow9 hat9 hlt9; have HM9 := Lib.hid (HMM.out.push (k := k) ((Below.refl _ _).alloc (Nat.le_refl _) _) hown9 hgrow9); clear hown9 hgrow9 hat9)
                      go_roundg (n - (k + 1))
                      case measure => omega
                      case rel => exact ⟨k + 1, _, cap9, by omega, rfl, by rw [hnx]; simp only [List.length_append, List.length_cons, List.length_nil]; rfl, by first | rfl | simp, by rw [hnx]; simp only [List.length_append, List.length_cons, List.length_nil]; exact HM9.out⟩
                    · have z123 : ((x.toNat : Int) == 123) = false := beq_eq_false_iff_ne.2 (by omega)
                      rw [if_neg (fun e => h123 (by rw [e]; rfl))] at h3
                      by_cases h125 : x.toNat = 125
                      · have z125 : ((x.toNat : Int) == 125) = true := by rw [h125]; rfl
                        rw [if_pos (UInt8.toNat_inj.1 h125)] at h3
                        rcases List.eq_nil_or_concat st with rfl | ⟨st2, o, rfl⟩
                        · obtain rfl : nx = ([], M) := h3
                          go_wp2
                          go_roundg (n - (k + 1))
                          case measure => omega
                          case rel => exact ⟨k + 1, sa2, sc2, by omega, rfl, by rw [hnx] <;> rfl, by first | rfl | simp, by rw [hnx]; exact HMM.out⟩
                        · have e1 : (st2.concat o).length = st2.length + 1 := by simp
                          have h4 : nx = (st2, (M.set o (k : Int)).set k (o : Int)) := by
                            rw [h3]
                            simp
                          rw [List.concat_eq_append] at HMM e1 HINV
                          obtain ⟨g9, hsa⟩ : ∃ g9, sa2 = some ⟨g9, 0, none⟩ := by
                            rcases HOWN8.out.2 with ⟨_, h⟩ | ⟨g, cap, cur, hv, _⟩
                            · simp at h
                            · simp only [Value.slice.injEq] at hv
                              exact ⟨g, hv.1⟩
                          subst hsa
                          simp only [List.concat_eq_append] at HST2 h3 hslz hsl8 hnx ⊢
                          have hm9 : MM w4 bm B (st2 ++ [o], M) (.slice (some ⟨g9, 0, none⟩) (st2.length + 1) sc2) w8 := by
                            have := HMM.out
                            simp only [e1] at this
                            exact this
                          obtain ⟨p1, p2, p3⟩ := hm9.pop
                          have ho : o < k := HINV.out.stk o (by simp)
                          obtain ⟨c5, f5⟩ := p1.at_ (p := o) (by simp only; omega)
                          obtain ⟨c6, f6⟩ := p1.at_ (p := k) (by simp only; omega)
                          simp only at c5 c6
                          have HP1 := Lib.hid p1
                          have hsl := fun W => slice_upto W g9 (st2.length + 1) sc2 st2.length (by omega)
                          have hoz : (0 : Int) ≤ (o : Int) ∧ (o : Int) < (k : Int) := by omega
                          rw [e1]
                          rw [e1] at hslz hsl8
                          have hone : ¬ o = k := by omega
                          clear p1 h3 e1 HST2 HOWN8
                          go_wp2
                          go_roundg (n - (k + 1))
                          case measure => omega
                          case rel => exact ⟨k + 1, _, sc2, by omega, rfl, by rw [hnx, h4] <;> rfl, by first | rfl | simp, by rw [hnx, h4]; exact (HP1.out.set o (k : Int)).set k (o : Int)⟩
                      · have z125 : ((x.toNat : Int) == 125) = false := beq_eq_false_iff_ne.2 (by omega)
                        rw [if_neg (fun e => h125 (by rw [e]; rfl))] at h3
                        subst h3
                        go_wp2
                        go_roundg (n - (k + 1))
                        case measure => omega
                        case rel => exact ⟨k + 1, sa2, sc2, by omega, rfl, by rw [hnx] <;> rfl, by first | rfl | simp, by rw [hnx]; exact HMM.out⟩
                · obtain rfl : n = k := by omega
                  clear hmm hinv
                  obtain ⟨M, hM⟩ : ∃ M, (mrun (allB ss) (allI ss) n).2 = M := ⟨_, rfl⟩
                  have HMQ := Lib.hid hM
                  have hMl := HINV.out.len
                  have hval := HINV.out.val
                  obtain ⟨aM, ha1, ha2⟩ := HMM.out.arr
                  rw [hM] at hMl hval ha2
                  rw [HN.out] at hMl
                  have hbmlt := (Array.getElem?_eq_some_iff.1 ha1).1
                  have hlV : (intV M).length = n := by simp [intV, hMl]
                  have hAM : ArrAt w8 (.slice (some ⟨bm, 0, none⟩) n n) (intV M) := ⟨bm, 0, n, by rw [hlV], by omega, hbmlt, fun i u hu => by
                    rw [Lib.cell_of_heap ha1, ← Array.getElem?_toList, ha2, Nat.zero_add]
                    exact hu⟩
                  have HAM := Lib.hid hAM
                  have HVAL := Lib.hid hval
                  have HML := Lib.hid hMl
                  have HBMLT := Lib.hid hbmlt
                  have HB48 := Lib.hid HMM.out.bel
                  have hrange : 0 < n → ∀ p, M.getD p 0 < (allB ss).length ∧ -1 ≤ M.getD p 0 := fun h0 p => by
                    rw [HN.out]
                    rw [List.getD_eq_getElem?_getD]
                    cases hp : M[p]? with
                    | none =>
                      simp only [Option.getD_none]
                      omega
                    | some m =>
                      rcases hval p m hp with rfl | ⟨q, rfl, hq, _⟩
                      · simp only [Option.getD_some]; omega
                      · rw [HN.out] at hq
                        simp only [Option.getD_some]
                        omega
                  have HRANGE := Lib.hid hrange
                  clear hval hMl hbmlt ha1 ha2 hAM hlV hM hrange
                  go_wp2
                  go_loopg [18] n (fun gk s18 wr => ∃ i, i ≤ n ∧ gk = n - i ∧ s18 = .int .i64 (i : Int) ∧ Hid (∀ j, j < i → condM (allB ss) (allI ss) (allD ss) M j = false) ∧ Below w8.heap.size w8 wr)
                  case atStart => exact ⟨0, Nat.zero_le _, rfl, rfl, Lib.hid (fun j h => by omega), Below.refl _ _⟩
                  case round =>
                    rename World => w9
                    obtain ⟨i, hi, rfl, rfl, HNO, hb⟩ := hrel
                    have HB9 := Lib.hid hb
                    have HB49 := Lib.hid (HB48.out.trans (hb.mono HB48.out.size))
                    have HBW := Lib.hid (HME.out.bel.trans (HB49.out.mono HZ4.out))
                    clear hb
                    by_cases hlt9 : i < n
                    · have hiz : (i : Int) < (n : Int) := by omega
                      obtain ⟨gS, cS, hvS, hgS, hS2, hAS⟩ := own_arr HME.out.own (by rw [HN.out]; omega)
                      simp only [Value.slice.injEq] at hvS
                      obtain ⟨hsa, hsn2, hsc⟩ := hvS
                      subst hsa
                      clear hsn2 hsc
                      have HAS := Lib.hid hAS
                      have c1 : w9.cell? ⟨bi, i, none⟩ = some (.bool ((allI ss).getD i false)) := by
                        obtain ⟨g2, o2, c2, hv2, _, _, h3⟩ := HARR.out.1
                        cases hv2
                        have := h3 i _ (boolV_get _ i (by rw [allI_len, HN.out]; exact hlt9))
                        rw [Nat.zero_add] at this
                        exact (HB49.out.cell (p := ⟨bi, i, none⟩) HLT.out.1).trans this
                      have c2 : w9.cell? ⟨gS, i, none⟩ = some (.int .u8 (((allB ss).getD i 0).toNat : Int)) := (HB49.out.cell (p := ⟨gS, i, none⟩) hgS).trans (hS2 i (by rw [HN.out]; exact hlt9))
                      have c3 : w9.cell? ⟨bm, i, none⟩ = some (.int .i64 (M.getD i 0)) := by
                        obtain ⟨g2, o2, c2, hv2, _, _, h3⟩ := HAM.out
                        cases hv2
                        have := h3 i _ (intV_get _ i (by rw [HML.out]; exact hlt9))
                        rw [Nat.zero_add] at this
                        exact (HB9.out.cell (p := ⟨bm, i, none⟩) HBMLT.out).trans this
                      have hx0 : (0 : Int) ≤ (((allB ss).getD i 0).toNat : Int) ∧ (((allB ss).getD i 0).toNat : Int) ≤ 255 := by have := ((allB ss).getD i 0).toNat_lt; omega
                      have hm0 := HRANGE.out (by omega) i
                      rw [HN.out] at hm0
                      have HCOND := Lib.hid (show condM (allB ss) (allI ss) (allD ss) M i = (!(allI ss).getD i false && ((allB ss).getD i 0 == 123) && !decide (M.getD i 0 < (i : Int)) && pairE (allB ss) (allI ss) (allD ss) M i (M.getD i 0).toNat) from rfl)
                      have HNEXT : Hid (condM (allB ss) (allI ss) (allD ss) M i = false → ∀ j, j < i + 1 → condM (allB ss) (allI ss) (allD ss) M j = false) := Lib.hid (fun h j hj => by
                        by_cases e : j = i
                        · rw [e]; exact h
                        · exact HNO.out j (by omega))
                      clear hAS hS2 hgS
                      have HMI := Lib.hid (show ∀ m : Int, M.getD i 0 = m → (i : Int) ≤ m → ∃ q : Nat, m = (q : Int) ∧ q < n ∧ i < q ∧ (allB ss)[q]? = some 125 from fun m hm hle => by
                        have hp : M[i]? = some m := by
                          rw [List.getElem?_eq_getElem (by rw [HML.out]; exact hlt9)]
                          rw [List.getD_eq_getElem?_getD, List.getElem?_eq_getElem (by rw [HML.out]; exact hlt9)] at hm
                          simpa using hm
                        rcases HVAL.out i m hp with rfl | ⟨q, rfl, h1, h2, h3⟩
                        · omega
                        · rw [HN.out] at h1
                          exact ⟨q, rfl, h1, by omega, h3 (by omega)⟩)
                      generalize hgI : (allI ss).getD i false = bI at *
                      generalize hgS2 : (allB ss).getD i 0 = x at *
                      generalize hgM : M.getD i 0 = m at *
                      clear hgI hgS2 hgM
                      cases bI with
                      | true =>
                        go_wp2
                        go_roundg (n - (i + 1))
                        case measure => omega
                        case rel => exact ⟨i + 1, by omega, rfl, by first | rfl | simp, Lib.hid (HNEXT.out (by rw [HCOND.out]; simp)), HB9.out⟩
                      | false =>
                        by_cases h123 : x.toNat = 123
                        · have z123 : ((x.toNat : Int) != 123) = false := by rw [h123]; rfl
                          obtain rfl : x = 123 := UInt8.toNat_inj.1 h123
                          by_cases hmi : m < (i : Int)
                          · go_wp2
                            go_roundg (n - (i + 1))
                            case measure => omega
                            case rel => exact ⟨i + 1, by omega, rfl, by first | rfl | simp, Lib.hid (HNEXT.out (by rw [HCOND.out]; simp [hmi])), HB9.out⟩
                          · obtain ⟨q, rfl, hq1, hq2, hq3⟩ := HMI.out m rfl (by omega)
                            have HPR := Lib.hid (pair_any (.slice (some ⟨gS, 0, none⟩) n sc) (.slice (some ⟨bi, 0, none⟩) n n) (.slice (some ⟨bd, 0, none⟩) n n) (.slice (some ⟨bm, 0, none⟩) n n) (allB ss) (allI ss) (allD ss) M i q w9 (HAS.out.below (HB49.out)) (HARR.out.1.below HB49.out) (HARR.out.2.below HB49.out) (HAM.out.below HB9.out) (by rw [HN.out]; omega) (by rw [allI_len]) (by rw [allD_len]) (by rw [HML.out, HN.out]) hq2 (by rw [HN.out]; exact hq1) (fun p hp hd => by
                              have h46 := allD_dots ss p hd
                              by_cases e : p + 1 = q
                              · rw [e, hq3] at h46
                                cases h46
                              · omega) (HRANGE.out (by omega)))
                            have hqz : (i : Int) < (q : Int) ∧ (q : Int) < (n : Int) := by omega
                            obtain ⟨bp, hbp⟩ : ∃ bp, pairE (allB ss) (allI ss) (allD ss) M i q = bp := ⟨_, rfl⟩
                            rw [hbp] at HPR
                            have HC2 : Hid (condM (allB ss) (allI ss) (allD ss) M i = bp) := Lib.hid (by
                              rw [HCOND.out, ← hbp]
                              simp [hmi])
                            clear hbp
                            cases bp with
                            | true =>
                              have HRES := Lib.hid (emitsM_yes (by rw [HN.out]; exact hlt9) HC2.out)
                              go_wp2_with (go_at_call 14; refine (HPR.out).mono ?_; rintro e w10 ⟨rfl, hb10⟩; have HB10 := Lib.hid hb10; clear hb10)
                              go_ret
                              exact ⟨by rw [HMQ.out, HRES.out]; first | rfl | simp, HBW.out.trans (HB10.out.mono HBW.out.size)⟩
                            | false =>
                              go_wp2_with (go_at_call 14; refine (HPR.out).mono ?_; rintro e w10 ⟨rfl, hb10⟩; have HB10 := Lib.hid (HB9.out.trans (hb10.mono HB9.out.size)); clear hb10)
                              go_roundg (n - (i + 1))
                              case measure => omega
                              case rel => exact ⟨i + 1, by omega, rfl, by first | rfl | simp, Lib.hid (HNEXT.out HC2.out), HB10.out⟩
                        · have z123 : ((x.toNat : Int) != 123) = true := by simp; omega
                          go_wp2
                          go_roundg (n - (i + 1))
                          case measure => omega
                          case rel => exact ⟨i + 1, by omega, rfl, by first | rfl | simp, Lib.hid (HNEXT.out (by rw [HCOND.out]; have : (x == 123) = false := by { simp; intro e; exact h123 (by rw [e]; rfl) }; rw [this]; simp)), HB9.out⟩
                    · obtain rfl : n = i := by omega
                      have HRES := Lib.hid (emitsM_no (fun j hj => HNO.out j (by rw [HN.out] at hj; exact hj)))
                      go_wp2
                      go_ret
                      exact ⟨by rw [HMQ.out, HRES.out]; first | rfl | simp, HBW.out⟩
end Go.Proofs.YtpmmnlgkeanplaaDoor
