/-
  The memory of a bracket under way. No walk here.
-/
import Derived.Test.YtdpiipejpmheoaaFmtEnd
namespace Go.Proofs.YtdpiipejpmheoaaFmt
open Go.RowKit

structure BM (b l N : Nat) (s : ByteArray) (lit : Int) (pos : Nat) (inner : List UInt8) (w wr : World) : Prop where
  oth : ∀ k, k < N → k ≠ l → wr.heap[k]? = w.heap[k]?
  k3 : wr.cell? ⟨N, 0, none⟩ = some (.pointer (some ⟨b, 0, none⟩))
  k4 : wr.cell? ⟨N + 1, 0, none⟩ = some (.pointer (some ⟨l, 0, none⟩))
  k5 : wr.cell? ⟨N + 2, 0, none⟩ = some (.int .i64 lit)
  bsb : Bld (N + 3) (N + 3) inner wr
  lex : Lex l s pos wr
  bel : Below l w wr

section
variable {b l N : Nat} {s : ByteArray} {lit : Int} {pos : Nat} {inner : List UInt8} {w wr w' : World}

theorem BM.moved (h : BM b l N s lit pos inner w wr) (hl : l < N) {pos' : Nat} (hm : Moved l s pos' wr w') : BM b l N s lit pos' inner w w' where
  oth := fun k hk hne => (hm.oth k hne).trans (h.oth k hk hne)
  k3 := hm.cell (by omega) h.k3
  k4 := hm.cell (by omega) h.k4
  k5 := hm.cell (by omega) h.k5
  bsb := hm.bld h.bsb h.lex (by omega)
  lex := hm.lex
  bel := h.bel.trans hm.bel

theorem BM.kept (h : BM b l N s lit pos inner w wr) (hl : l < N) {inner' : List UInt8} (hb : Bld (N + 3) (N + 3) inner' w') (hk : Kept (N + 3) (N + 3) wr w') : BM b l N s lit pos inner' w w' where
  oth := fun k h1 h2 => (hk.bel.block k (by omega)).trans (h.oth k h1 h2)
  k3 := (hk.bel.cell (p := ⟨N, 0, none⟩) (by show N < N + 3; omega)).trans h.k3
  k4 := (hk.bel.cell (p := ⟨N + 1, 0, none⟩) (by show N + 1 < N + 3; omega)).trans h.k4
  k5 := (hk.bel.cell (p := ⟨N + 2, 0, none⟩) (by show N + 2 < N + 3; omega)).trans h.k5
  bsb := hb
  lex := h.lex.kept hk (by omega)
  bel := h.bel.trans (hk.bel.mono (by omega))

theorem BM.quiet (h : BM b l N s lit pos inner w wr) (q : Nat) : BM b l N s lit pos inner w (wr.drewN q) where
  oth := h.oth
  k3 := h.k3
  k4 := h.k4
  k5 := h.k5
  bsb := h.bsb
  lex := h.lex
  bel := below_drewN h.bel q

theorem BM.drew (h : BM b l N s lit pos inner w wr) : BM b l N s lit pos inner w wr.drew where
  oth := h.oth
  k3 := h.k3
  k4 := h.k4
  k5 := h.k5
  bsb := h.bsb
  lex := h.lex
  bel := h.bel.drew

theorem BM.sb {B : Nat} {acc : List UInt8} {i : Nat} (h : BM b l w.heap.size s lit pos inner w wr) (hb : Bld B b acc w) (hl : Lex l s i w) (hne : l ≠ b) : Bld B b acc wr :=
  hb.other hl (by decide) hne (fun j h1 h2 => h.oth j h2 h1)
end

theorem bld_fresh (W : World) : Bld W.heap.size W.heap.size [] (W.alloc (.cells #[.pointer none, .slice none 0 0] 33)) := by
  refine Or.inl ⟨Nat.le_refl _, .slice none 0 0, ?_, ⟨rfl, Or.inl ⟨rfl, rfl⟩⟩, by simp [Value.ownBlock]⟩
  exact heap_alloc_new W _

/-- The bracket's memory as it is laid. -/
theorem BM.start {b l : Nat} {s : ByteArray} {i : Nat} {w w3 : World} (hlw : l < w.heap.size) (hm : Moved l s i ((w.alloc (.cells #[.pointer (some ⟨b, 0, none⟩)] 31)).alloc (.cells #[.pointer (some ⟨l, 0, none⟩)] 39)) w3) (hw : w3.heap.size = w.heap.size + 2) (lit : Int) :
    BM b l w.heap.size s lit i [] w ((w3.alloc (.cells #[.int .i64 lit] 3)).alloc (.cells #[.pointer none, .slice none 0 0] 33)) where
  oth := fun k h1 h2 => by
    rw [Below.heap_alloc _ _ _ (by simp; omega), Below.heap_alloc _ _ _ (by omega), hm.oth k h2, Below.heap_alloc _ _ _ (by simp; omega), Below.heap_alloc _ _ _ (by omega)]
  k3 := by
    rw [World.cell?_alloc_past _ _ _ (by simp; omega), World.cell?_alloc_past _ _ _ (by show w.heap.size < _; omega)]
    exact hm.cell (by omega) (by simp [go_sem])
  k4 := by
    rw [World.cell?_alloc_past _ _ _ (by simp; omega), World.cell?_alloc_past _ _ _ (by show w.heap.size + 1 < _; omega)]
    exact hm.cell (by omega) (by simp [go_sem])
  k5 := by
    rw [World.cell?_alloc_past _ _ _ (by simp; omega)]
    rw [← hw]
    simp [go_sem]
  bsb := by
    have h := bld_fresh (w3.alloc (.cells #[.int .i64 lit] 3))
    have e : (w3.alloc (.cells #[.int .i64 lit] 3)).heap.size = w.heap.size + 3 := by simp; omega
    rw [e] at h
    exact h
  lex := (hm.lex.below ((Below.refl _ _).alloc (Nat.le_refl _) _) (Nat.le_refl _)).below ((Below.refl _ _).alloc (Nat.le_refl _) _) (Nat.le_refl _)
  bel := (((((Below.refl l w).alloc (by omega) _).alloc (by simp; omega) _).trans hm.bel).alloc (by omega) _).alloc (by simp; omega) _

theorem wbyteK (B b : Nat) (l : List UInt8) (c : UInt8) (x : Int) (hx : (c.toNat : Int) = x) (w : World) (h : Bld B b l w) (hl : l.length ≤ 100000000) :
    Calls Tryf.prog 15 #[.pointer (some ⟨b, 0, none⟩), .int .u8 x] w fun e w' => e = .returned .nilIface ∧ Bld B b (l ++ [c]) w' ∧ Kept B b w w' := by
  subst hx
  exact wbyte B b l c w h hl

/-- A letter or a digit. -/
def isAl (x : Nat) : Bool := (97 ≤ x && x ≤ 122) || (65 ≤ x && x ≤ 90) || (48 ≤ x && x ≤ 57)
theorem al_facts {x : Nat} (h : isAl x = true) : 48 ≤ x ∧ x < 128 ∧ x ≠ 91 ∧ x ≠ 92 ∧ x ≠ 93 ∧ x ≠ 94 ∧ x ≠ 63 := by
  unfold isAl at h
  simp at h
  omega
theorem enc_rune (c : UInt8) (h : c.toNat < 128) : Lib.encodeRune (c.toNat : Int) = [c] := by
  unfold Lib.encodeRune
  rw [Lib.encodeRuneZ_one (by omega) (by omega)]
  simp

/-- The bytes of a part. -/
def part (s : ByteArray) (a n : Nat) : List UInt8 := (s.data.toList.drop a).take n
theorem part_len (s : ByteArray) (a n : Nat) : (part s a n).length ≤ n := by unfold part; simp; omega
theorem part_snoc (s : ByteArray) (a n : Nat) (h : a + n < s.size) : part s a (n + 1) = part s a n ++ [s.data.toList.getD (a + n) 0] := by
  have h2 : n < (s.data.toList.drop a).length := by simp; omega
  unfold part
  rw [List.take_succ_eq_append_getElem h2]
  congr 2
  have h3 : a + n < s.data.toList.length := by simpa using h
  rw [List.getElem_drop, List.getD, List.getElem?_eq_getElem h3]
  rfl
theorem byte_of {s : ByteArray} {j x : Nat} {c : UInt8} (h : bt s j = x) (hc : c.toNat = x) : s.data.toList.getD j 0 = c := by
  apply UInt8.toNat_inj.1
  rw [hc, ← h]
  rfl
theorem part_cons (s : ByteArray) (a n : Nat) (h : a < s.size) : part s a (n + 1) = s.data.toList.getD a 0 :: part s (a + 1) n := by
  have h3 : a < s.data.toList.length := by simpa using h
  unfold part
  rw [List.drop_eq_getElem_cons h3, List.take_succ_cons, List.getD, List.getElem?_eq_getElem h3]
  rfl
theorem part_ends (s : ByteArray) (i m : Nat) (h : i + 1 + m < s.size) (ha : bt s i = 91) (he : bt s (i + 1 + m) = 93) : part s i (m + 2) = [91] ++ part s (i + 1) m ++ [93] := by
  rw [part_cons s i (m + 1) (by omega), part_snoc s (i + 1) m h, byte_of ha (c := 91) rfl, byte_of he (c := 93) rfl]
  rfl
theorem list_bytes (l : List UInt8) : (⟨l.toArray⟩ : ByteArray).data.toList = l := rfl
theorem list_size (l : List UInt8) : (⟨l.toArray⟩ : ByteArray).size = l.length := by simp [ByteArray.size]
end Go.Proofs.YtdpiipejpmheoaaFmt
