/-
  strings.Builder's methods over a list of bytes, and what a lexer's memory is.
-/
import Derived.Test.YtdpiipejpmheoaaFmtSb
import Derived.WalkKit
import Derived.WalkSmall
import Derived.OpenShut
import Derived.BigQuiet
import Derived.Deep.QuietTactic
import Derived.Deep.RegionWith
import Derived.Deep.LoopGhost
import Derived.Deep.CutRange
import Derived.Deep.CutBlock
import Derived.Deep.DeepCutAuto
import Derived.IntWalk
import Derived.Lib.Hide
import Derived.Laws.Rows
import Derived.Outline
namespace Go.Proofs.YtdpiipejpmheoaaFmt
open Go.RowKit

/-- The builder in block b holds these bytes. -/
def Bld (B b : Nat) (l : List UInt8) (w : World) : Prop := Lib.IsBuilderF 33 5 B b (Lib.byteCells l) w

/-- What a call that writes into the builder b leaves of the rest. -/
structure Kept (B b : Nat) (w w' : World) : Prop where
  bel : Below B w w'
  oth : Lib.OthersKept 5 (some b) w w'

/-- The lexer in block l stands at i in s. -/
def Lex (l : Nat) (s : ByteArray) (i : Nat) (w : World) : Prop := w.heap[l]? = some (.cells #[.string s, .int .i64 i] 37 (0, 0))

theorem Bld.le {B b : Nat} {l : List UInt8} {w : World} (h : Bld B b l w) : B ≤ b := by
  rcases h with h | h <;> exact h.1
theorem Bld.lt {B b : Nat} {l : List UInt8} {w : World} (h : Bld B b l w) : b < w.heap.size := by
  rcases h with h | h <;> exact h.lt
theorem Bld.hw {B b : Nat} {l : List UInt8} {w : World} (h : Bld B b l w) : B ≤ w.heap.size := Nat.le_of_lt (Nat.lt_of_le_of_lt h.le h.lt)

theorem Lex.lt {l : Nat} {s : ByteArray} {i : Nat} {w : World} (h : Lex l s i w) : l < w.heap.size := (Array.getElem?_eq_some_iff.1 h).1
theorem Lex.c0 {l : Nat} {s : ByteArray} {i : Nat} {w : World} (h : Lex l s i w) : w.cell? ⟨l, 0, none⟩ = some (.string s) := by rw [Lib.cell_of_heap h]; rfl
theorem Lex.c1 {l : Nat} {s : ByteArray} {i : Nat} {w : World} (h : Lex l s i w) : w.cell? ⟨l, 1, none⟩ = some (.int .i64 i) := by rw [Lib.cell_of_heap h]; rfl
theorem Lex.f1 {l : Nat} {s : ByteArray} {i : Nat} {w : World} (h : Lex l s i w) : w.frozen? ⟨l, 1, none⟩ = false := Lib.frozen_of_heap h 1
theorem Lex.kept {B b l : Nat} {s : ByteArray} {i : Nat} {w w' : World} (h : Lex l s i w) (hk : Kept B b w w') (hne : l ≠ b) : Lex l s i w' :=
  hk.oth l _ h (fun e => hne (Option.some.inj e)) (fun c fz e => by cases e)

/-- A builder over which nothing has been turned but a block that is not of its own. -/
theorem Bld.other {B b : Nat} {l : List UInt8} {w w' : World} (h : Bld B b l w) {k : Nat} {T : TypeId} {c : Array Value} {fz : Nat × Nat} (hk : w.heap[k]? = some (.cells c T fz)) (hT : T ≠ 5) (hb : k ≠ b) (he : ∀ j, j ≠ k → j < w.heap.size → w'.heap[j]? = w.heap[j]?) : Bld B b l w' := by
  have go : ∀ p, Lib.BuilderAtF 33 5 B b p (Lib.byteCells l) w → Lib.BuilderAtF 33 5 B b p (Lib.byteCells l) w' := by
    intro p hp
    have hlt := hp.lt
    obtain ⟨hB, v, hbk, hown, hne⟩ := hp
    refine ⟨hB, v, (he b (fun e => hb e.symm) hlt).trans hbk, ⟨hown.1, ?_⟩, hne⟩
    rcases hown.2 with hn | ⟨g, cap, cur, fz2, hv, hbg, hg, rest⟩
    · exact Or.inl hn
    · have hgk : g ≠ k := fun e => by
        rw [e, hk] at hg
        simp only [Option.some.injEq, Obj.cells.injEq] at hg
        exact hT hg.2.1
      have hgl : g < w.heap.size := (Array.getElem?_eq_some_iff.1 hg).1
      exact Or.inr ⟨g, cap, cur, fz2, hv, hbg, (he g hgk hgl).trans hg, rest⟩
  rcases h with h | h
  · exact Or.inl (go _ h)
  · exact Or.inr (go _ h)

/-- A builder over which nothing below the world's end has been turned. -/
theorem Bld.below {B b : Nat} {l : List UInt8} {w w' : World} (h : Bld B b l w) {C : Nat} (hb : Below C w w') (hC : w.heap.size ≤ C) : Bld B b l w' := by
  have go : ∀ p, Lib.BuilderAtF 33 5 B b p (Lib.byteCells l) w → Lib.BuilderAtF 33 5 B b p (Lib.byteCells l) w' := by
    intro p hp
    have hlt := hp.lt
    obtain ⟨hB, v, hbk, hown, hne⟩ := hp
    refine ⟨hB, v, (hb.block b (by omega)).trans hbk, ⟨hown.1, ?_⟩, hne⟩
    rcases hown.2 with hn | ⟨g, cap, cur, fz2, hv, hbg, hg, rest⟩
    · exact Or.inl hn
    · have hgl : g < w.heap.size := (Array.getElem?_eq_some_iff.1 hg).1
      exact Or.inr ⟨g, cap, cur, fz2, hv, hbg, (hb.block g (by omega)).trans hg, rest⟩
  rcases h with h | h
  · exact Or.inl (go _ h)
  · exact Or.inr (go _ h)
theorem Lex.below {l : Nat} {s : ByteArray} {i : Nat} {w w' : World} (h : Lex l s i w) {C : Nat} (hb : Below C w w') (hC : w.heap.size ≤ C) : Lex l s i w' :=
  (hb.block l (by have := h.lt; omega)).trans h

/-- The lexer has been moved. -/
structure Moved (l : Nat) (s : ByteArray) (j : Nat) (w w' : World) : Prop where
  bel : Below l w w'
  lex : Lex l s j w'
  oth : ∀ k, k ≠ l → w'.heap[k]? = w.heap[k]?
  size : w'.heap.size = w.heap.size

theorem Moved.of {l : Nat} {s : ByteArray} {i : Nat} {w : World} (h : Lex l s i w) (q j : Nat) : Moved l s j w ((w.drewN q).setCell ⟨l, 1, none⟩ (.int .i64 j)) where
  bel := (below_drewN (Below.refl l w) q).setCell (p := ⟨l, 1, none⟩) (Nat.le_refl l) _
  lex := by
    have hd : (w.drewN q).heap = w.heap := rfl
    have h1 : (w.drewN q).heap[l]? = some (.cells #[.string s, .int .i64 i] 37 (0, 0)) := by rw [hd]; exact h
    unfold Lex
    rw [heap_setCell_same _ _ _ _ _ _ h1]
    rfl
  oth := fun k hk => by
    rw [Below.heap_setCell _ _ _ _ hk]
    rfl
  size := by simp [World.size_setCell]
theorem Moved.bld {B b l : Nat} {s : ByteArray} {i j : Nat} {acc : List UInt8} {w w' : World} (h : Moved l s j w w') (hb : Bld B b acc w) (hl : Lex l s i w) (hne : l ≠ b) : Bld B b acc w' :=
  hb.other hl (by decide) hne (fun k hk _ => h.oth k hk)
theorem Moved.cell {l : Nat} {s : ByteArray} {j : Nat} {w w' : World} (h : Moved l s j w w') {k o : Nat} {v : Value} (hk : k ≠ l) (hc : w.cell? ⟨k, o, none⟩ = some v) : w'.cell? ⟨k, o, none⟩ = some v := by
  have e : w'.cell? ⟨k, o, none⟩ = w.cell? ⟨k, o, none⟩ := by simp only [World.cell?, h.oth k hk]
  rw [e]; exact hc

/-! ### The builder's methods -/

theorem wbyte (B b : Nat) (l : List UInt8) (c : UInt8) (w : World) (h : Bld B b l w) (hl : l.length ≤ 100000000) :
    Calls Tryf.prog 15 #[.pointer (some ⟨b, 0, none⟩), .int .u8 c.toNat] w fun e w' => e = .returned .nilIface ∧ Bld B b (l ++ [c]) w' ∧ Kept B b w w' := by
  refine (Any.Builder_WriteByte_k Tryf.sb_WriteByte Tryf.sb_X B b (Lib.byteCells l) c.toNat w h (by rw [Lib.byteCells_length]; omega) h.hw).mono ?_
  rintro e w' ⟨he, h1, h2, h3⟩
  refine ⟨he, Or.inr ?_, h2, h3⟩
  rw [Lib.byteCells_append]
  exact h1
theorem wstr (B b : Nat) (l : List UInt8) (s : ByteArray) (w : World) (h : Bld B b l w) (hl : l.length ≤ 100000000) (hs : s.size ≤ 100000000) :
    Calls Tryf.prog 7 #[.pointer (some ⟨b, 0, none⟩), .string s] w fun e w' => e = .returned (.tuple #[.int .i64 s.size, .nilIface]) ∧ Bld B b (l ++ s.data.toList) w' ∧ Kept B b w w' := by
  refine (Any.Builder_WriteString_k Tryf.sb_WriteString Tryf.sb_X B b (Lib.byteCells l) s w h (by rw [Lib.byteCells_length]; omega) h.hw).mono ?_
  rintro e w' ⟨he, h1, h2, h3⟩
  refine ⟨he, Or.inr ?_, h2, h3⟩
  rw [Lib.byteCells_append]
  exact h1
theorem wrune (B b : Nat) (l : List UInt8) (r : Int) (hr0 : -2147483648 ≤ r) (hr1 : r ≤ 2147483647) (w : World) (h : Bld B b l w) (hl : l.length ≤ 100000000) :
    Calls Tryf.prog 13 #[.pointer (some ⟨b, 0, none⟩), .int .i32 r] w fun e w' => e = .returned (.tuple #[.int .i64 (Lib.runeCells r).length, .nilIface]) ∧ Bld B b (l ++ Lib.encodeRune r) w' ∧ Kept B b w w' := by
  refine (Any.Builder_WriteRune_k Tryf.sb_WriteRune Tryf.sb_X B b (Lib.byteCells l) r hr0 hr1 w h (by rw [Lib.byteCells_length]; omega) h.hw).mono ?_
  rintro e w' ⟨he, h1, h2, h3⟩
  refine ⟨he, Or.inr ?_, h2, h3⟩
  rw [Lib.byteCells_append, Lib.byteCells_encodeRune]
  exact h1
theorem bstr (B b : Nat) (l : List UInt8) (w : World) (h : Bld B b l w) :
    Calls Tryf.prog 9 #[.pointer (some ⟨b, 0, none⟩)] w fun e w' => e = .returned (.string ⟨l.toArray⟩) ∧ Bld B b l w' ∧ Kept B b w w' := by
  refine (Any.Builder_String_any_k Tryf.sb_String Tryf.sb_X B b l w h h.hw).mono ?_
  rintro e w' ⟨he, h1, h2, h3⟩
  exact ⟨he, h1, h2, h3⟩
end Go.Proofs.YtdpiipejpmheoaaFmt
