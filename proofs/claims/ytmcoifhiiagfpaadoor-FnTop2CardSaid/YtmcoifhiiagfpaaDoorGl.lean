/-
  The shelf's contracts of strings.Builder laid at this program, one table of numbers for all. Written by a program of ours (tools/mk_sb2.py).
  The law's decoder: the next byte.
  strings.Builder's methods over a list of bytes (after rf3/XBuild).
  strings.Builder's methods where the builder is the second field of a brBuild (after the shelf's, which speak of a builder in a block of its own).
  The law's decoder: a text over an alphabet.
  The law's letters and numbers.
-/
import Derived.Shelf.Strings.BuilderK
import Derived.Ground.NamesProg
import Derived.Test.YtmcoifhiiagfpaaDoorProg
import Derived.ProofKit
import Derived.Test.YtmcoifhiiagfpaaDoorGk
import Derived.WalkSpells
import Derived.OwnWalk
import Derived.WalkKit
import Derived.WalkSmall
import Derived.OpenShut
import Derived.BigQuiet
import Derived.Deep.QuietTactic
import Derived.Deep.RegionWith
import Derived.Deep.LoopGhost
import Derived.Deep.CutRange
import Derived.Deep.CutBlock
import Derived.Deep.DeepCutAuto
import Derived.IntWalk
import Derived.Lib.Hide
import Derived.Laws.Rows
import Derived.Outline
import Derived.Laws.OwnMore
import Derived.Maps.AppendAt
namespace Go.Proofs
open Go.Shelf

def Tryd.sb_ren : Go.Shelf.Ren := ⟨fun | 166 => 16 | 167 => 17 | 169 => 11 | 240 => 36 | 276 => 43 | n => n, fun | 0 => 0 | 3 => 3 | 4 => 4 | 5 => 5 | 9 => 9 | 20 => 20 | 37 => 22 | 70 => 32 | 72 => 34 | 75 => 55 | 80 => 48 | 127 => 88 | 164 => 95 | n => n, fun n => n⟩
theorem Tryd.sb_copyCheck : Go.Proofs.Lays.n240 Tryd.prog Tryd.sb_ren := {
  mixed := by kernel_rfl
  f240 := Tryd.func36.trans (congrArg some (by kernel_rfl))
  f276 := Tryd.func43.trans (congrArg some (by kernel_rfl))
  t0 := Tryd.underlying0
  a0 := Tryd.isAgg0
  z0 := Tryd.sizeOf0
  v0 := Tryd.zeroValue0
  t4 := Tryd.underlying4
  a4 := Tryd.isAgg4
  z4 := Tryd.sizeOf4
  v4 := Tryd.zeroValue4
  t9 := Tryd.underlying9
  a9 := Tryd.isAgg9
  z9 := Tryd.sizeOf9
  v9 := Tryd.zeroValue9
  t20 := Tryd.underlying20
  a20 := Tryd.isAgg20
  z20 := Tryd.sizeOf20
  v20 := Tryd.zeroValue20
  t70 := Tryd.underlying32
  a70 := Tryd.isAgg32
  z70 := Tryd.sizeOf32
  v70 := Tryd.zeroValue32
  t72 := Tryd.underlying34
  a72 := Tryd.isAgg34
  z72 := Tryd.sizeOf34
  v72 := Tryd.zeroValue34
  t164 := Tryd.underlying95
  a164 := Tryd.isAgg95
  z164 := Tryd.sizeOf95
  v164 := Tryd.zeroValue95 }
theorem Tryd.sb_WriteString : Go.Proofs.Lays.n166 Tryd.prog Tryd.sb_ren := {
  mixed := by kernel_rfl
  f166 := Tryd.func16.trans (congrArg some (by kernel_rfl))
  f240 := Tryd.func36.trans (congrArg some (by kernel_rfl))
  f276 := Tryd.func43.trans (congrArg some (by kernel_rfl))
  t0 := Tryd.underlying0
  a0 := Tryd.isAgg0
  z0 := Tryd.sizeOf0
  v0 := Tryd.zeroValue0
  t3 := Tryd.underlying3
  a3 := Tryd.isAgg3
  z3 := Tryd.sizeOf3
  v3 := Tryd.zeroValue3
  t4 := Tryd.underlying4
  a4 := Tryd.isAgg4
  z4 := Tryd.sizeOf4
  v4 := Tryd.zeroValue4
  t9 := Tryd.underlying9
  a9 := Tryd.isAgg9
  z9 := Tryd.sizeOf9
  v9 := Tryd.zeroValue9
  t20 := Tryd.underlying20
  a20 := Tryd.isAgg20
  z20 := Tryd.sizeOf20
  v20 := Tryd.zeroValue20
  t37 := Tryd.underlying22
  a37 := Tryd.isAgg22
  z37 := Tryd.sizeOf22
  v37 := Tryd.zeroValue22
  t70 := Tryd.underlying32
  a70 := Tryd.isAgg32
  z70 := Tryd.sizeOf32
  v70 := Tryd.zeroValue32
  t72 := Tryd.underlying34
  a72 := Tryd.isAgg34
  z72 := Tryd.sizeOf34
  v72 := Tryd.zeroValue34
  t75 := Tryd.underlying55
  a75 := Tryd.isAgg55
  z75 := Tryd.sizeOf55
  v75 := Tryd.zeroValue55
  t164 := Tryd.underlying95
  a164 := Tryd.isAgg95
  z164 := Tryd.sizeOf95
  v164 := Tryd.zeroValue95 }
theorem Tryd.sb_WriteByte : Go.Proofs.Lays.n167 Tryd.prog Tryd.sb_ren := {
  mixed := by kernel_rfl
  f167 := Tryd.func17.trans (congrArg some (by kernel_rfl))
  f240 := Tryd.func36.trans (congrArg some (by kernel_rfl))
  f276 := Tryd.func43.trans (congrArg some (by kernel_rfl))
  t0 := Tryd.underlying0
  a0 := Tryd.isAgg0
  z0 := Tryd.sizeOf0
  v0 := Tryd.zeroValue0
  t4 := Tryd.underlying4
  a4 := Tryd.isAgg4
  z4 := Tryd.sizeOf4
  v4 := Tryd.zeroValue4
  t5 := Tryd.underlying5
  a5 := Tryd.isAgg5
  z5 := Tryd.sizeOf5
  v5 := Tryd.zeroValue5
  t9 := Tryd.underlying9
  a9 := Tryd.isAgg9
  z9 := Tryd.sizeOf9
  v9 := Tryd.zeroValue9
  t20 := Tryd.underlying20
  a20 := Tryd.isAgg20
  z20 := Tryd.sizeOf20
  v20 := Tryd.zeroValue20
  t37 := Tryd.underlying22
  a37 := Tryd.isAgg22
  z37 := Tryd.sizeOf22
  v37 := Tryd.zeroValue22
  t70 := Tryd.underlying32
  a70 := Tryd.isAgg32
  z70 := Tryd.sizeOf32
  v70 := Tryd.zeroValue32
  t72 := Tryd.underlying34
  a72 := Tryd.isAgg34
  z72 := Tryd.sizeOf34
  v72 := Tryd.zeroValue34
  t75 := Tryd.underlying55
  a75 := Tryd.isAgg55
  z75 := Tryd.sizeOf55
  v75 := Tryd.zeroValue55
  t164 := Tryd.underlying95
  a164 := Tryd.isAgg95
  z164 := Tryd.sizeOf95
  v164 := Tryd.zeroValue95 }
theorem Tryd.sb_String : Go.Proofs.Lays.n169 Tryd.prog Tryd.sb_ren := {
  mixed := by kernel_rfl
  f169 := Tryd.func11.trans (congrArg some (by kernel_rfl))
  t0 := Tryd.underlying0
  a0 := Tryd.isAgg0
  z0 := Tryd.sizeOf0
  v0 := Tryd.zeroValue0
  t3 := Tryd.underlying3
  a3 := Tryd.isAgg3
  z3 := Tryd.sizeOf3
  v3 := Tryd.zeroValue3
  t9 := Tryd.underlying9
  a9 := Tryd.isAgg9
  z9 := Tryd.sizeOf9
  v9 := Tryd.zeroValue9
  t37 := Tryd.underlying22
  a37 := Tryd.isAgg22
  z37 := Tryd.sizeOf22
  v37 := Tryd.zeroValue22
  t70 := Tryd.underlying32
  a70 := Tryd.isAgg32
  z70 := Tryd.sizeOf32
  v70 := Tryd.zeroValue32
  t72 := Tryd.underlying34
  a72 := Tryd.isAgg34
  z72 := Tryd.sizeOf34
  v72 := Tryd.zeroValue34
  t127 := Tryd.underlying88
  a127 := Tryd.isAgg88
  z127 := Tryd.sizeOf88
  v127 := Tryd.zeroValue88 }
theorem Tryd.sb_X : Builder.Extra Tryd.prog Tryd.sb_ren := {
  sizeBuilder := by kernel_rfl
  liesBuilder := by kernel_rfl
  t5 := Tryd.underlying5
  a5 := Tryd.isAgg5
  z5 := Tryd.sizeOf5
  v5 := Tryd.zeroValue5
  infoByte := by kernel_rfl
  cellsByte := by kernel_rfl
  sizeByte := by kernel_rfl
  neB5 := by decide }
end Go.Proofs

namespace Go.Proofs.YtmcoifhiiagfpaaDoor
open Go.RowKit

/-- The decoder at p: the bytes l, of which i are read. -/
def Dec (w : World) (p : Nat) (l : List UInt8) (i : Nat) : Prop := i ≤ l.length ∧ ∃ ao cap, w.heap[p]? = some (.cells #[.slice ao l.length cap, .int .i64 (i : Int)] 25 (0, 0)) ∧
  (l ≠ [] → ∃ g off, ao = some ⟨g, off, none⟩ ∧ g < p ∧ ∀ (k : Nat) x, l[k]? = some x → w.cell? ⟨g, off + k, none⟩ = some (.int .u8 (x.toNat : Int)))
theorem Dec.lt {w : World} {p i : Nat} {l : List UInt8} (h : Dec w p l i) : p < w.heap.size := by
  obtain ⟨_, ao, cap, h1, _⟩ := h
  exact (Array.getElem?_eq_some_iff.1 h1).1
theorem Dec.below {w w' : World} {p i : Nat} {l : List UInt8} (h : Dec w p l i) (hb : Below w.heap.size w w') : Dec w' p l i := by
  have hlt := h.lt
  obtain ⟨h0, ao, cap, h1, h2⟩ := h
  refine ⟨h0, ao, cap, (hb.block p hlt).trans h1, fun hl => ?_⟩
  obtain ⟨g, off, a, b, c⟩ := h2 hl
  exact ⟨g, off, a, b, fun k x hx => (hb.cell (p := ⟨g, off + k, none⟩) (show g < w.heap.size by omega)).trans (c k x hx)⟩
theorem Dec.step {w : World} {p i : Nat} {l : List UInt8} (h : Dec w p l i) (hi : i < l.length) : Dec (w.setCell ⟨p, 1, none⟩ (.int .i64 ((i + 1 : Nat) : Int))) p l (i + 1) := by
  obtain ⟨h0, ao, cap, h1, h2⟩ := h
  refine ⟨hi, ao, cap, ?_, fun hl => ?_⟩
  · rw [heap_setCell_same _ _ _ _ _ _ h1]
    rfl
  · obtain ⟨g, off, a, b, c⟩ := h2 hl
    refine ⟨g, off, a, b, fun k x hx => ?_⟩
    rw [← c k x hx]
    simp only [World.cell?]
    rw [Below.heap_setCell _ _ _ _ (show g ≠ p by omega)]
theorem kept_set {w : World} {p k : Nat} {v : Value} : Kept p w (w.setCell ⟨p, k, none⟩ v) := ⟨fun j _ hj => Below.heap_setCell _ _ _ _ hj, by simp only [World.size_setCell]; exact Nat.le_refl _, rfl, rfl, rfl⟩
theorem kept_draws {p : Nat} {w w' : World} (h : Kept p w w') (n : Nat) : Kept p w (w'.drewN n) := h.trans ⟨fun _ _ _ => rfl, Nat.le_refl _, rfl, rfl, rfl⟩
theorem Dec.draws {w : World} {p i : Nat} {l : List UInt8} (h : Dec w p l i) (n : Nat) : Dec (w.drewN n) p l i := h.below ⟨rfl, rfl, rfl, Nat.le_refl _, fun _ _ => rfl⟩

set_option maxRecDepth 100000 in
set_option maxHeartbeats 1000000 in
theorem more_any (p : Nat) (l : List UInt8) (i : Nat) (w : World) (h : Dec w p l i) (hl : l.length ≤ 1048576) :
    Calls Tryd.prog 4 #[.pointer (some ⟨p, 0, none⟩)] w fun e w' => e = .returned (.bool (decide (i < l.length))) ∧ Dec w' p l i ∧ Kept p w w' := by
  have HD := Lib.hid h
  obtain ⟨h0, ao, cap, h1, h2⟩ := h
  have c0 : w.cell? ⟨p, 0, none⟩ = some (.slice ao l.length cap) := (Lib.cell_of_heap h1 0).trans rfl
  have c1 : w.cell? ⟨p, 1, none⟩ = some (.int .i64 (i : Int)) := (Lib.cell_of_heap h1 1).trans rfl
  have hz : (i : Int) ≤ (l.length : Int) ∧ (l.length : Int) ≤ 1048576 := by omega
  have HR : Hid (decide ((i : Int) < (l.length : Int)) = decide (i < l.length)) := Lib.hid (by
    rw [decide_eq_decide]
    omega)
  clear h1 h2
  go_enter Tryd.func4, Tryd.ntmps4
  go_upto_region 1 with fail
  go_quiet (fail)
  go_wp2
  go_ret
  exact ⟨by rw [← HR.out]; first | rfl | simp, HD.out.draws _, kept_draws (Kept.refl p w) _⟩

/-- What the next byte may be. -/
def NextOut (p : Nat) (l : List UInt8) (i : Nat) (w : World) (e : Ending) (w' : World) : Prop :=
  ∃ (x : UInt8) (i2 : Nat), e = .returned (.int .u8 (x.toNat : Int)) ∧ Dec w' p l i2 ∧ Kept p w w' ∧ i ≤ i2 ∧ (i < l.length → i2 = i + 1) ∧ (i = l.length → x = 0)
set_option maxRecDepth 100000 in
set_option maxHeartbeats 1000000 in
theorem next_any (p : Nat) (l : List UInt8) (i : Nat) (w : World) (h : Dec w p l i) (hl : l.length ≤ 1048576) :
    Calls Tryd.prog 12 #[.pointer (some ⟨p, 0, none⟩)] w (NextOut p l i w) := by
  have HD := Lib.hid h
  obtain ⟨h0, ao, cap, h1, h2⟩ := h
  have c0 : w.cell? ⟨p, 0, none⟩ = some (.slice ao l.length cap) := (Lib.cell_of_heap h1 0).trans rfl
  have c1 : w.cell? ⟨p, 1, none⟩ = some (.int .i64 (i : Int)) := (Lib.cell_of_heap h1 1).trans rfl
  have f1 : w.frozen? ⟨p, 1, none⟩ = false := Lib.frozen_of_heap h1 1
  have hlt := (Array.getElem?_eq_some_iff.1 h1).1
  by_cases hi : i < l.length
  · obtain ⟨g, off, rfl, hg, hc⟩ := h2 (by intro e; rw [e] at hi; simp at hi)
    obtain ⟨x, hx⟩ : ∃ x, l[i]? = some x := ⟨_, List.getElem?_eq_getElem hi⟩
    have c2 := hc i x hx
    have hz : (i : Int) < (l.length : Int) ∧ (l.length : Int) ≤ 1048576 ∧ (0 : Int) ≤ (i : Int) := by omega
    have HI := Lib.hid hi
    clear h1 h2 hc hx hi h0
    go_enter Tryd.func12, Tryd.ntmps12
    go_upto_region 1 with fail
    go_quiet (fail)
    go_upto_region 3 with fail
    go_quiet (fail)
    go_wp2
    go_ret
    refine ⟨x, i + 1, by first | rfl | simp, ?_, ?_, by omega, fun _ => rfl, fun e => by have := HI.out; omega⟩
    · exact (HD.out.draws _).step HI.out
    · exact (kept_draws (Kept.refl p w) _).trans kept_set
  · have hz : (l.length : Int) ≤ (i : Int) ∧ (i : Int) ≤ 1048576 := by omega
    have HI := Lib.hid (show i = l.length by omega)
    clear h1 h2 hi h0 hlt
    go_enter Tryd.func12, Tryd.ntmps12
    go_upto_region 1 with fail
    go_quiet (fail)
    go_wp2
    go_ret
    exact ⟨0, i, by first | rfl | simp, HD.out.draws _, kept_draws (Kept.refl p w) _, Nat.le_refl _, fun h => by have := HI.out; omega, fun _ => rfl⟩
end Go.Proofs.YtmcoifhiiagfpaaDoor

namespace Go.Proofs.YtmcoifhiiagfpaaDoor
open Go.RowKit

/-- The builder in block b holds these bytes. -/
def Bld (B b : Nat) (l : List UInt8) (w : World) : Prop := Lib.IsBuilderF 34 5 B b (Lib.byteCells l) w

/-- What a call that writes into the builder b leaves of the rest. -/
structure KeptB (B b : Nat) (w w' : World) : Prop where
  bel : Below B w w'
  oth : Lib.OthersKept 5 (some b) w w'

theorem Bld.le {B b : Nat} {l : List UInt8} {w : World} (h : Bld B b l w) : B ≤ b := by
  rcases h with h | h <;> exact h.1
theorem Bld.lt {B b : Nat} {l : List UInt8} {w : World} (h : Bld B b l w) : b < w.heap.size := by
  rcases h with h | h <;> exact h.lt
theorem Bld.hw {B b : Nat} {l : List UInt8} {w : World} (h : Bld B b l w) : B ≤ w.heap.size := Nat.le_of_lt (Nat.lt_of_le_of_lt h.le h.lt)

/-- A builder over which nothing has been turned but a block that is not of its own. -/
theorem Bld.other {B b : Nat} {l : List UInt8} {w w' : World} (h : Bld B b l w) {k : Nat} {T : TypeId} {c : Array Value} {fz : Nat × Nat} (hk : w.heap[k]? = some (.cells c T fz)) (hT : T ≠ 5) (hb : k ≠ b) (he : ∀ j, j ≠ k → j < w.heap.size → w'.heap[j]? = w.heap[j]?) : Bld B b l w' := by
  have go : ∀ p, Lib.BuilderAtF 34 5 B b p (Lib.byteCells l) w → Lib.BuilderAtF 34 5 B b p (Lib.byteCells l) w' := by
    intro p hp
    have hlt := hp.lt
    obtain ⟨hB, v, hbk, hown, hne⟩ := hp
    refine ⟨hB, v, (he b (fun e => hb e.symm) hlt).trans hbk, ⟨hown.1, ?_⟩, hne⟩
    rcases hown.2 with hn | ⟨g, cap, cur, fz2, hv, hbg, hg, rest⟩
    · exact Or.inl hn
    · have hgk : g ≠ k := fun e => by
        rw [e, hk] at hg
        simp only [Option.some.injEq, Obj.cells.injEq] at hg
        exact hT hg.2.1
      have hgl : g < w.heap.size := (Array.getElem?_eq_some_iff.1 hg).1
      exact Or.inr ⟨g, cap, cur, fz2, hv, hbg, (he g hgk hgl).trans hg, rest⟩
  rcases h with h | h
  · exact Or.inl (go _ h)
  · exact Or.inr (go _ h)

/-- A builder over which nothing below the world's end has been turned. -/
theorem Bld.below {B b : Nat} {l : List UInt8} {w w' : World} (h : Bld B b l w) {C : Nat} (hb : Below C w w') (hC : w.heap.size ≤ C) : Bld B b l w' := by
  have go : ∀ p, Lib.BuilderAtF 34 5 B b p (Lib.byteCells l) w → Lib.BuilderAtF 34 5 B b p (Lib.byteCells l) w' := by
    intro p hp
    have hlt := hp.lt
    obtain ⟨hB, v, hbk, hown, hne⟩ := hp
    refine ⟨hB, v, (hb.block b (by omega)).trans hbk, ⟨hown.1, ?_⟩, hne⟩
    rcases hown.2 with hn | ⟨g, cap, cur, fz2, hv, hbg, hg, rest⟩
    · exact Or.inl hn
    · have hgl : g < w.heap.size := (Array.getElem?_eq_some_iff.1 hg).1
      exact Or.inr ⟨g, cap, cur, fz2, hv, hbg, (hb.block g (by omega)).trans hg, rest⟩
  rcases h with h | h
  · exact Or.inl (go _ h)
  · exact Or.inr (go _ h)
/-! ### The builder's methods -/

theorem wbyte (B b : Nat) (l : List UInt8) (c : UInt8) (w : World) (h : Bld B b l w) (hl : l.length ≤ 100000000) :
    Calls Tryd.prog 17 #[.pointer (some ⟨b, 0, none⟩), .int .u8 c.toNat] w fun e w' => e = .returned .nilIface ∧ Bld B b (l ++ [c]) w' ∧ KeptB B b w w' := by
  refine (Any.Builder_WriteByte_k Tryd.sb_WriteByte Tryd.sb_X B b (Lib.byteCells l) c.toNat w h (by rw [Lib.byteCells_length]; omega) h.hw).mono ?_
  rintro e w' ⟨he, h1, h2, h3⟩
  refine ⟨he, Or.inr ?_, h2, h3⟩
  rw [Lib.byteCells_append]
  exact h1
theorem wstr (B b : Nat) (l : List UInt8) (s : ByteArray) (w : World) (h : Bld B b l w) (hl : l.length ≤ 100000000) (hs : s.size ≤ 100000000) :
    Calls Tryd.prog 16 #[.pointer (some ⟨b, 0, none⟩), .string s] w fun e w' => e = .returned (.tuple #[.int .i64 s.size, .nilIface]) ∧ Bld B b (l ++ s.data.toList) w' ∧ KeptB B b w w' := by
  refine (Any.Builder_WriteString_k Tryd.sb_WriteString Tryd.sb_X B b (Lib.byteCells l) s w h (by rw [Lib.byteCells_length]; omega) h.hw).mono ?_
  rintro e w' ⟨he, h1, h2, h3⟩
  refine ⟨he, Or.inr ?_, h2, h3⟩
  rw [Lib.byteCells_append]
  exact h1
theorem bstr (B b : Nat) (l : List UInt8) (w : World) (h : Bld B b l w) :
    Calls Tryd.prog 11 #[.pointer (some ⟨b, 0, none⟩)] w fun e w' => e = .returned (.string ⟨l.toArray⟩) ∧ Bld B b l w' ∧ KeptB B b w w' := by
  refine (Any.Builder_String_any_k Tryd.sb_String Tryd.sb_X B b l w h h.hw).mono ?_
  rintro e w' ⟨he, h1, h2, h3⟩
  exact ⟨he, h1, h2, h3⟩
end Go.Proofs.YtmcoifhiiagfpaaDoor

namespace Go.Proofs.YtmcoifhiiagfpaaDoor
open Go.RowKit
set_option linter.unusedVariables false

/-- The brBuild in block b: pv are its parts, l the bytes of its builder. -/
def FB (B b : Nat) (pv : Value) (l : List UInt8) (w : World) : Prop := B ≤ b ∧ ∃ p v, w.heap[b]? = some (.cells #[pv, p, v] 36 (0, 0)) ∧ (p = .pointer none ∨ p = .pointer (some ⟨b, 1, none⟩)) ∧ w.ownsRowF B 5 1 v l.length (Lib.byteCells l)
theorem FB.lt {B b : Nat} {pv : Value} {l : List UInt8} {w : World} (h : FB B b pv l w) : b < w.heap.size := by
  obtain ⟨_, p, v, hb, _⟩ := h
  exact (Array.getElem?_eq_some_iff.1 hb).1
theorem KeptB.refl (B b : Nat) (w : World) : KeptB B b w w := ⟨Below.refl B w, Lib.OthersKept.refl _ _ w⟩
theorem KeptB.trans {B b : Nat} {w w1 w2 : World} (h : KeptB B b w w1) (k : KeptB B b w1 w2) : KeptB B b w w2 := ⟨h.bel.trans k.bel, h.oth.trans k.oth⟩
theorem KeptB.set {B b : Nat} {w w1 : World} (h : KeptB B b w w1) (hB : B ≤ b) (o : Nat) (v : Value) : KeptB B b w (w1.setCell ⟨b, o, none⟩ v) := ⟨h.bel.setCell (p := ⟨b, o, none⟩) hB v, h.oth.setCell ⟨b, o, none⟩ rfl v⟩
theorem KeptB.draws {B b : Nat} {w w1 : World} (h : KeptB B b w w1) (n : Nat) : KeptB B b w (w1.drewN n) := ⟨below_drewN h.bel n, h.oth⟩

theorem nil_size : (Tryd.prog.info? 32).isSome = true := by kernel_rfl
set_option maxHeartbeats 1000000 in
set_option maxRecDepth 100000 in
theorem fcopy (B b : Nat) (pv v p : Value) (w : World) (hB : B ≤ b) (hb : w.heap[b]? = some (.cells #[pv, p, v] 36 (0, 0))) (hp : p = .pointer none ∨ p = .pointer (some ⟨b, 1, none⟩)) :
    Calls Tryd.prog 36 #[.pointer (some ⟨b, 1, none⟩)] w fun e w' => e = .returned (.tuple #[]) ∧ (w' = w ∨ w' = w.setCell ⟨b, 1, none⟩ (.pointer (some ⟨b, 1, none⟩))) ∧ w'.heap[b]? = some (.cells #[pv, .pointer (some ⟨b, 1, none⟩), v] 36 (0, 0)) := by
  obtain ⟨j, hj, hjs⟩ := Option.map_eq_some_iff.1 Tryd.sb_X.sizeBuilder
  have h1 : w.cell? ⟨b, 1, none⟩ = some p := (Lib.cell_of_heap hb 1).trans rfl
  have f1 : w.frozen? ⟨b, 1, none⟩ = false := Lib.frozen_of_heap hb 1
  have hsh : w.shape? b = some (36, 3) := by simp [World.shape?, hb]
  rcases hp with rfl | rfl
  · have hend : (w.setCell ⟨b, 1, none⟩ (.pointer (some ⟨b, 1, none⟩))).heap[b]? = some (.cells #[pv, .pointer (some ⟨b, 1, none⟩), v] 36 (0, 0)) := by
      rw [heap_setCell_same _ _ _ _ _ _ hb]
      rfl
    go_enter Tryd.func36, Tryd.ntmps36
    go_wp2
    rw [Lib.run_to_unsafe w ⟨b, 1, none⟩ Tryd.underlying32 Tryd.underlying95 hj (by rw [hjs]; decide) hsh (show 1 < 3 by decide)]
    simp only [Result.andThen]
    rw [Oper.upon_value]
    go_wp2
    rw [run_callFunc_extern Tryd.func43 (by kernel_rfl) (by kernel_rfl) (by kernel_rfl) (e := Extern.AbiNoEscape.same) (by kernel_rfl)]
    rw [Lib.run_noEscape]
    simp only [Result.andThen]
    rw [Oper.upon_value]
    go_wp2
    rw [Lib.run_from_unsafe w ⟨b, 1, none⟩ Tryd.underlying95 Tryd.underlying32 hj hsh (by kernel_rfl)]
    simp only [Result.andThen]
    rw [Oper.upon_value]
    go_wp2
    go_end0
    exact ⟨rfl, Or.inr rfl, hend⟩
  · go_enter Tryd.func36, Tryd.ntmps36
    go_wp2
    rw [Lib.run_neq_ptr_same w _ Tryd.underlying32 hj]
    go_wp2
    go_end0
    exact ⟨rfl, Or.inl rfl, hb⟩
theorem fown {B b : Nat} {pv p v v' : Value} {cs : List Value} {w : World} (hB : B ≤ b) (hb : w.heap[b]? = some (.cells #[pv, p, v] 36 (0, 0))) (hown : w.ownsRowF B 5 1 v' cs.length cs) (x : Value) (o : Nat) : (w.setCell ⟨b, o, none⟩ x).ownsRowF B 5 1 v' cs.length cs :=
  hown.kept (row := some b) ⟨rfl, rfl, rfl, by simp [World.setCell], fun k _ hk => Below.heap_setCell _ _ _ _ (fun e => hk (by simp [e]))⟩ (Or.inr (Lib.ownBlock_neF hown hb (by decide)))
/-- A new buffer laid in. -/
theorem FB.put {B b : Nat} {pv v v' : Value} {l : List UInt8} {w : World} (hB : B ≤ b) (hb : w.heap[b]? = some (.cells #[pv, .pointer (some ⟨b, 1, none⟩), v] 36 (0, 0))) (hown : w.ownsRowF B 5 1 v' (Lib.byteCells l).length (Lib.byteCells l)) : FB B b pv l (w.setCell ⟨b, 2, none⟩ v') := by
  have h2 := fown hB hb hown v' 2
  rw [Lib.byteCells_length] at h2
  refine ⟨hB, _, v', ?_, Or.inr rfl, h2⟩
  rw [heap_setCell_same _ _ _ _ _ _ hb]
  rfl

set_option maxHeartbeats 2000000 in
set_option maxRecDepth 100000 in
theorem fbyte (B b : Nat) (pv : Value) (l : List UInt8) (c : UInt8) (w : World) (h : FB B b pv l w) (hl : l.length ≤ 100000000) :
    Calls Tryd.prog 17 #[.pointer (some ⟨b, 1, none⟩), .int .u8 c.toNat] w fun e w' => e = .returned .nilIface ∧ FB B b pv (l ++ [c]) w' ∧ KeptB B b w w' := by
  obtain ⟨hB, p, v, hb, hp, hown⟩ := h
  have hlt : b < w.heap.size := (Array.getElem?_eq_some_iff.1 hb).1
  have hc := fcopy B b pv v p w hB hb hp
  obtain ⟨i0, hi, hz0, hz1, hz2⟩ := info_parts Tryd.sb_X.infoByte
  rw [← Lib.byteCells_length l] at hown
  have ht : (Lib.byteCells l).length ≤ 100000000 := by rw [Lib.byteCells_length]; exact hl
  go_enter Tryd.func17, Tryd.ntmps17
  go_wp2_with (go_at_call 36; refine hc.mono ?_)
  rintro e w1 ⟨rfl, hw1, hbk⟩
  have hown1 : w1.ownsRowF B 5 1 v (Lib.byteCells l).length (Lib.byteCells l) := by
    rcases hw1 with rfl | rfl
    · exact hown
    · exact fown hB hb hown _ 1
  have hk1 : KeptB B b w w1 := by
    rcases hw1 with rfl | rfl
    · exact KeptB.refl B b _
    · exact (KeptB.refl B b w).set hB _ _
  clear hw1
  have hne := Lib.ownBlock_neF hown1 hbk (by decide)
  have c0 : w1.cell? ⟨b, 1, none⟩ = some (.pointer (some ⟨b, 1, none⟩)) := by rw [Lib.cell_of_heap hbk]; rfl
  have c1 : w1.cell? ⟨b, 2, none⟩ = some v := by rw [Lib.cell_of_heap hbk]; rfl
  go_wp2_with (at_builtin; refine wpList_append_ownF _ rfl _ _ 22 rfl B 5 i0 (.int .u8 0) 1 1 Tryd.underlying22 hi hz0 hz1 hz2 rfl (by decide) _ _ _ rfl (hown1.alloc _) ⟨w1.heap.size, 0, none⟩ 1 1 [.int .u8 c.toNat] rfl rfl ?c1 ?c2 ?c3 ?c4 ?c5 ?_)
  case c1 =>
    intro j u hj
    match j, hj with
    | 0, hj => simp at hj; subst hj; simp [Addr.add]
  case c2 => intro u hu; simp at hu; subst hu; rfl
  case c3 => unfold maxLen; omega
  case c4 => omega
  case c5 => have := hk1.bel.size; simp; omega
  intro v' w2 hown' hgrow _
  have hb2 : w2.heap[b]? = some (.cells #[pv, .pointer (some ⟨b, 1, none⟩), v] 36 (0, 0)) := by
    rw [hgrow.block b (by have := hk1.bel.size; simp; omega) (fun e => hne e.symm), Lib.alloc_old w1 _ b (by have := hk1.bel.size; omega)]
    exact hbk
  have d0 : w2.cell? ⟨b, 1, none⟩ = some (.pointer (some ⟨b, 1, none⟩)) := by rw [Lib.cell_of_heap hb2]; rfl
  have d1 : w2.cell? ⟨b, 2, none⟩ = some v := by rw [Lib.cell_of_heap hb2]; rfl
  have f1 : w2.frozen? ⟨b, 2, none⟩ = false := Lib.frozen_of_heap hb2 2
  obtain ⟨g, cap, rfl⟩ : ∃ g cap, v' = .slice (some ⟨g, 0, none⟩) ((Lib.byteCells l).length + 1) cap := by
    rcases hown'.2 with ⟨_, h0⟩ | ⟨g, cap, cur, fz, hv, _⟩
    · omega
    · exact ⟨g, cap, hv⟩
  go_wp2
  go_ret
  refine ⟨rfl, ?_, ?_, ((hk1.oth.alloc _).grown hgrow (Lib.ownsRowF_kind (hown1.alloc _))).setCell ⟨b, 2, none⟩ rfl _⟩
  · refine FB.put hB hb2 ?_
    rw [Lib.byteCells_append, List.length_append]
    exact hown'
  · exact ((hk1.bel.alloc (by have := hk1.bel.size; omega) _).grown hgrow (by have := hk1.bel.size; simp; omega) (fun k hk => (hown1.lt k hk).1)).setCell (p := ⟨b, 2, none⟩) hB _

set_option maxHeartbeats 2000000 in
set_option maxRecDepth 100000 in
theorem fstr (B b : Nat) (pv : Value) (l : List UInt8) (s : ByteArray) (w : World) (h : FB B b pv l w) (hl : l.length ≤ 100000000) (hs : s.size ≤ 100000000) :
    Calls Tryd.prog 16 #[.pointer (some ⟨b, 1, none⟩), .string s] w fun e w' => e = .returned (.tuple #[.int .i64 s.size, .nilIface]) ∧ FB B b pv (l ++ s.data.toList) w' ∧ KeptB B b w w' := by
  obtain ⟨hB, p, v, hb, hp, hown⟩ := h
  have hlt : b < w.heap.size := (Array.getElem?_eq_some_iff.1 hb).1
  have hc := fcopy B b pv v p w hB hb hp
  obtain ⟨i0, hi, hz0, hz1, hz2⟩ := info_parts Tryd.sb_X.infoByte
  rw [← Lib.byteCells_length l] at hown
  have ht : (Lib.byteCells l).length ≤ 100000000 := by rw [Lib.byteCells_length]; exact hl
  go_enter Tryd.func16, Tryd.ntmps16
  go_wp2_with (go_at_call 36; refine hc.mono ?_)
  rintro e w1 ⟨rfl, hw1, hbk⟩
  have hown1 : w1.ownsRowF B 5 1 v (Lib.byteCells l).length (Lib.byteCells l) := by
    rcases hw1 with rfl | rfl
    · exact hown
    · exact fown hB hb hown _ 1
  have hk1 : KeptB B b w w1 := by
    rcases hw1 with rfl | rfl
    · exact KeptB.refl B b _
    · exact (KeptB.refl B b w).set hB _ _
  clear hw1
  have hne := Lib.ownBlock_neF hown1 hbk (by decide)
  have c0 : w1.cell? ⟨b, 1, none⟩ = some (.pointer (some ⟨b, 1, none⟩)) := by rw [Lib.cell_of_heap hbk]; rfl
  have c1 : w1.cell? ⟨b, 2, none⟩ = some v := by rw [Lib.cell_of_heap hbk]; rfl
  go_wp2_with (at_builtin; refine Lib.wpList_append_own_stringF _ rfl _ _ 22 9 rfl B 5 i0 Tryd.underlying22 Tryd.underlying9 hi hz0 hz1 hz2 _ _ _ rfl hown1 s rfl ?c3 ?c4 ?c5 ?_)
  case c3 => unfold maxLen; omega
  case c4 => omega
  case c5 => have := hk1.bel.size; omega
  intro v' w2 hown' hgrow _
  have hb2 : w2.heap[b]? = some (.cells #[pv, .pointer (some ⟨b, 1, none⟩), v] 36 (0, 0)) := by
    rw [hgrow.block b (by have := hk1.bel.size; omega) (fun e => hne e.symm)]
    exact hbk
  have d0 : w2.cell? ⟨b, 1, none⟩ = some (.pointer (some ⟨b, 1, none⟩)) := by rw [Lib.cell_of_heap hb2]; rfl
  have d1 : w2.cell? ⟨b, 2, none⟩ = some v := by rw [Lib.cell_of_heap hb2]; rfl
  have f1 : w2.frozen? ⟨b, 2, none⟩ = false := Lib.frozen_of_heap hb2 2
  obtain ⟨ao, n', cap, rfl⟩ : ∃ ao n' cap, v' = .slice ao n' cap := by
    rcases hown'.2 with ⟨hv, _⟩ | ⟨g, cap, cur, fz, hv, _⟩
    · exact ⟨_, _, _, hv⟩
    · exact ⟨_, _, _, hv⟩
  go_wp2
  go_ret2
  refine ⟨rfl, ?_, ?_, (hk1.oth.grown hgrow (Lib.ownsRowF_kind hown1)).setCell ⟨b, 2, none⟩ rfl _⟩
  · refine FB.put hB hb2 ?_
    rw [Lib.byteCells_append]
    simpa [Lib.strCells, Lib.byteCells, Lib.byteCells_length] using hown'
  · exact (hk1.bel.grown hgrow (by have := hk1.bel.size; omega) (fun k hk => (hown1.lt k hk).1)).setCell (p := ⟨b, 2, none⟩) hB _

set_option maxHeartbeats 2000000 in
set_option maxRecDepth 100000 in
theorem flen (B b : Nat) (pv : Value) (l : List UInt8) (w : World) (h : FB B b pv l w) (hl : l.length ≤ 100000000) :
    Calls Tryd.prog 19 #[.pointer (some ⟨b, 1, none⟩)] w fun e w' => e = .returned (.int .i64 l.length) ∧ w' = w := by
  obtain ⟨hB, p, v, hb, hp, hown⟩ := h
  obtain ⟨ao, cap, rfl⟩ : ∃ ao cap, v = .slice ao l.length cap := by
    rcases hown.2 with ⟨hv, h0⟩ | ⟨g, cap, cur, fz, hv, _⟩
    · exact ⟨none, 0, by rw [hv, h0]⟩
    · exact ⟨_, _, hv⟩
  have c1 : w.cell? ⟨b, 2, none⟩ = some (.slice ao l.length cap) := by rw [Lib.cell_of_heap hb]; rfl
  go_enter Tryd.func19, Tryd.ntmps19
  go_wp2
  go_ret
  exact ⟨rfl, rfl⟩

set_option maxHeartbeats 2000000 in
set_option maxRecDepth 100000 in
theorem freset (B b : Nat) (pv : Value) (l : List UInt8) (w : World) (h : FB B b pv l w) :
    Calls Tryd.prog 20 #[.pointer (some ⟨b, 1, none⟩)] w fun e w' => e = .returned (.tuple #[]) ∧ FB B b pv [] w' ∧ KeptB B b w w' := by
  obtain ⟨hB, p, v, hb, hp, hown⟩ := h
  have c0 : w.cell? ⟨b, 1, none⟩ = some p := by rw [Lib.cell_of_heap hb]; rfl
  have c1 : w.cell? ⟨b, 2, none⟩ = some v := by rw [Lib.cell_of_heap hb]; rfl
  have f1 : w.frozen? ⟨b, 1, none⟩ = false := Lib.frozen_of_heap hb 1
  have f2 : w.frozen? ⟨b, 2, none⟩ = false := Lib.frozen_of_heap hb 2
  have hb1 : (w.setCell ⟨b, 1, none⟩ (.pointer none)).heap[b]? = some (.cells #[pv, .pointer none, v] 36 (0, 0)) := by
    rw [heap_setCell_same _ _ _ _ _ _ hb]
    rfl
  have hb2 : ((w.setCell ⟨b, 1, none⟩ (.pointer none)).setCell ⟨b, 2, none⟩ (.slice none 0 0)).heap[b]? = some (.cells #[pv, .pointer none, .slice none 0 0] 36 (0, 0)) := by
    rw [heap_setCell_same _ _ _ _ _ _ hb1]
    rfl
  have hend : FB B b pv [] ((w.setCell ⟨b, 1, none⟩ (.pointer none)).setCell ⟨b, 2, none⟩ (.slice none 0 0)) := ⟨hB, _, _, hb2, Or.inl rfl, World.ownsRowF_nil _ _ _ _⟩
  have hk : KeptB B b w ((w.setCell ⟨b, 1, none⟩ (.pointer none)).setCell ⟨b, 2, none⟩ (.slice none 0 0)) := ((KeptB.refl B b w).set hB _ _).set hB _ _
  go_enter Tryd.func20, Tryd.ntmps20
  go_wp2
  go_end0
  exact ⟨rfl, hend, hk⟩

set_option maxHeartbeats 2000000 in
set_option maxRecDepth 100000 in
/-- String of a builder that holds a byte. -/
theorem fstring (B b : Nat) (pv : Value) (l : List UInt8) (w : World) (h : FB B b pv l w) (h0 : l ≠ []) (hl : l.length ≤ 100000000) :
    Calls Tryd.prog 11 #[.pointer (some ⟨b, 1, none⟩)] w fun e w' => e = .returned (.string ⟨l.toArray⟩) ∧ FB B b pv l w' ∧ KeptB B b w w' := by
  obtain ⟨hB, p, v, hbk, hp, hown⟩ := h
  have hl0 : l.length ≠ 0 := by simpa using h0
  have hown' := hown
  obtain ⟨g, cap, cur, fz, rfl, hbg, hg, hfz, hnc, hcm, hcs, htake⟩ : ∃ g cap cur fz, v = .slice (some ⟨g, 0, none⟩) l.length cap ∧ B ≤ g ∧ w.heap[g]? = some (.cells cur 5 fz) ∧ fz.2 ≤ l.length * 1 ∧ l.length ≤ cap ∧ cap ≤ maxLen ∧ cur.size = cap * 1 ∧ cur.toList.take (l.length * 1) = Lib.byteCells l := by
    rcases hown.2 with ⟨_, hz⟩ | ⟨g, cap, cur, fz, hv, r⟩
    · exact absurd hz hl0
    · exact ⟨g, cap, cur, fz, hv, r⟩
  have hgb : g ≠ b := fun e => by
    rw [e, hbk] at hg
    simp only [Option.some.injEq, Obj.cells.injEq] at hg
    exact absurd hg.2.1 (by decide)
  have c1 : w.drew.cell? ⟨b, 2, none⟩ = some (.slice (some ⟨g, 0, none⟩) l.length cap) := by
    have : w.drew.heap[b]? = some (.cells #[pv, p, .slice (some ⟨g, 0, none⟩) l.length cap] 36 (0, 0)) := hbk
    rw [Lib.cell_of_heap this]; rfl
  have hSD : (Builtin.unsafeSliceData_ #[22] 88 #[.slice (some ⟨g, 0, none⟩) l.length cap]).run Tryd.prog w.drew = .ok (.pointer (some ⟨g, 0, none⟩)) w.drew :=
    Lib.run_unsafeSliceData_row _ _ _ _ _ _ (by omega)
  have hUS : (Builtin.unsafeString_ #[88, 3] 9 #[.pointer (some ⟨g, 0, none⟩), .int .i64 l.length]).run Tryd.prog w.drew = .ok (.string ⟨l.toArray⟩) (w.drew.freeze ⟨g, 0, none⟩ l.length) := by
    refine Lib.run_unsafeString_row w.drew 88 3 9 5 Tryd.underlying88 Tryd.sb_X.cellsByte g cur.size (by have hg' : w.drew.heap[g]? = some (.cells cur 5 fz) := hg; simp [World.shape?, hg']) l h0 (by omega) (by unfold maxLen at hcm; omega) ?_
    intro j x hx
    have := hown.cells (g := g) rfl j (.int .u8 x.toNat) (by simp [Lib.byteCells, hx])
    exact this
  have hkeep : FB B b pv l (w.drew.freeze ⟨g, 0, none⟩ l.length) := by
    unfold World.freeze
    split
    · exact ⟨hB, p, _, hbk, hp, hown⟩
    · refine ⟨hB, p, .slice (some ⟨g, 0, none⟩) l.length cap, ?_, hp, ⟨hown.1, ?_⟩⟩
      · simp only [Array.getElem?_modify]
        rw [if_neg hgb]
        exact hbk
      · obtain ⟨lo, hi⟩ := fz
        refine .inr ⟨g, _, cur, (if lo == hi then (0, 0 + l.length) else (min lo 0, max hi (0 + l.length))), rfl, hbg, ?_, ?_, hnc, hcm, hcs, htake⟩
        · have hg' : w.drew.heap[g]? = some (.cells cur 5 (lo, hi)) := hg
          simp [Array.getElem?_modify, hg']
        · simp only at hfz
          split <;> simp <;> omega
  have hkk : KeptB B b w (w.drew.freeze ⟨g, 0, none⟩ l.length) := ⟨Lib.below_freeze (Below.drew (Below.refl B w)) (p := ⟨g, 0, none⟩) hbg _, ((Lib.OthersKept.refl _ _ w).drew).freeze ⟨g, 0, none⟩ _ ⟨cur, fz, hg⟩⟩
  clear hown hown' hnc hcm hcs htake
  go_enter Tryd.func11, Tryd.ntmps11
  go_wp2
  go_region
  all_goals (go_wp2; go_ret; exact ⟨rfl, hkeep, hkk⟩)
end Go.Proofs.YtmcoifhiiagfpaaDoor

namespace Go.Proofs.YtmcoifhiiagfpaaDoor
open Go.RowKit
set_option linter.unusedVariables false

theorem Dec.belowC {w w' : World} {p i C : Nat} {l : List UInt8} (h : Dec w p l i) (hb : Below C w w') (hC : p < C) : Dec w' p l i := by
  obtain ⟨h0, ao, cap, h1, h2⟩ := h
  refine ⟨h0, ao, cap, (hb.block p hC).trans h1, fun hl => ?_⟩
  obtain ⟨g, off, a, b, c⟩ := h2 hl
  exact ⟨g, off, a, b, fun k x hx => (hb.cell (p := ⟨g, off + k, none⟩) (show g < C by omega)).trans (c k x hx)⟩
theorem Kept.then {p : Nat} {w w1 w2 : World} (h : Kept p w w1) {C : Nat} (k : Below C w1 w2) (hC : w.heap.size ≤ C) : Kept p w w2 :=
  ⟨fun j hj hn => (k.block j (by omega)).trans (h.block j hj hn), Nat.le_trans h.size k.size, k.os.trans h.os, k.tape.trans h.tape, k.output.trans h.output⟩
theorem Dec.cells {w : World} {p i : Nat} {l : List UInt8} (h : Dec w p l i) : ∃ c, w.heap[p]? = some (.cells c 25 (0, 0)) := by
  obtain ⟨_, ao, cap, h1, _⟩ := h
  exact ⟨_, h1⟩
theorem Bld.keep {B b p i : Nat} {acc l : List UInt8} {w w' : World} (h : Bld B b acc w) (hd : Dec w p l i) (hne : p ≠ b) (hk : Kept p w w') : Bld B b acc w' := by
  obtain ⟨c, hc⟩ := hd.cells
  exact h.other hc (by decide) hne (fun j hj hl => hk.block j hl hj)

/-- The next byte, as a number. -/
def NextN (p : Nat) (l : List UInt8) (i : Nat) (w : World) (e : Ending) (w' : World) : Prop :=
  ∃ y i2 : Nat, e = .returned (.int .u8 (y : Int)) ∧ (y : Int) ≤ 255 ∧ Dec w' p l i2 ∧ Kept p w w' ∧ i ≤ i2 ∧ (i < l.length → i < i2) ∧ (i = l.length → y = 0)
theorem next_n (p : Nat) (l : List UInt8) (i : Nat) (w : World) (h : Dec w p l i) (hl : l.length ≤ 1048576) : Calls Tryd.prog 12 #[.pointer (some ⟨p, 0, none⟩)] w (NextN p l i w) := by
  refine (next_any p l i w h hl).mono ?_
  rintro e w1 ⟨x, i1, rfl, hd1, hk1, hi1, ha1, hb1⟩
  refine ⟨x.toNat, i1, rfl, by have := x.toNat_lt; omega, hd1, hk1, hi1, fun e => by have := ha1 e; omega, fun e => by rw [hb1 e]; rfl⟩

/-- What a text may be. -/
def TextOut (al : ByteArray) (m : Nat) (em : Bool) (p : Nat) (l : List UInt8) (i : Nat) (w : World) (e : Ending) (w' : World) : Prop :=
  ∃ (s : List UInt8) (i2 : Nat), e = .returned (.string (bytesOf s)) ∧ Dec w' p l i2 ∧ Kept p w w' ∧ i ≤ i2 ∧ s.length ≤ m ∧ (∀ x ∈ s, x ∈ al.data.toList) ∧ (em = false → s ≠ []) ∧ (em = false → i = l.length → s.length ≤ 1)
theorem rem_nat (x m : Nat) : Int.tmod (x : Int) (m : Int) = ((x % m : Nat) : Int) := by
  rw [Int.tmod_eq_emod_of_nonneg (by omega)]
  exact Int.natCast_emod x m |>.symm

/-- The builder under way. -/
structure TxAt (al : ByteArray) (p : Nat) (l : List UInt8) (i : Nat) (w : World) (b k : Nat) (acc : List UInt8) (w' : World) : Prop where
  dec : ∃ j, i ≤ j ∧ Dec w' p l j
  kept : Kept p w w'
  bld : Bld b b acc w'
  len : acc.length = k
  all : ∀ x ∈ acc, x ∈ al.data.toList
  lo : w.heap.size ≤ b
  pb : p < w.heap.size
theorem TxAt.start {al : ByteArray} {p i i1 : Nat} {l : List UInt8} {w w1 : World} (hp : p < w.heap.size) (hd : Dec w1 p l i1) (hi : i ≤ i1) (hk : Kept p w w1) : TxAt al p l i w w1.heap.size 0 [] (w1.alloc (.cells #[.pointer none, .slice none 0 0] 34)) where
  dec := ⟨i1, hi, hd.below ((Below.refl w1.heap.size w1).alloc (Nat.le_refl _) _)⟩
  kept := hk.then ((Below.refl w1.heap.size w1).alloc (Nat.le_refl _) _) hk.size
  bld := Or.inl (Lib.BuilderAtF.of ((Lib.fresh_isBuilder 34 5 w1).elim id (fun h => by
    have := h.cell0
    rw [Lib.cell_of_heap (heap_alloc_new w1 _)] at this
    cases this)))
  len := rfl
  all := fun x h => by cases h
  lo := hk.size
  pb := hp
theorem TxAt.next {al : ByteArray} {p i b k j j2 : Nat} {l acc : List UInt8} {w wr w1 : World} (h : TxAt al p l i w b k acc wr) (hd : Dec wr p l j) (hj : i ≤ j) (hd2 : Dec w1 p l j2) (hj2 : j ≤ j2) (hk : Kept p wr w1) : TxAt al p l i w b k acc w1 where
  dec := ⟨j2, by omega, hd2⟩
  kept := h.kept.trans hk
  bld := h.bld.keep hd (by have := h.lo; have := h.pb; omega) hk
  len := h.len
  all := h.all
  lo := h.lo
  pb := h.pb
theorem TxAt.write {al : ByteArray} {p i b k : Nat} {x : UInt8} {l acc : List UInt8} {w wr w1 : World} (h : TxAt al p l i w b k acc wr) (hx : x ∈ al.data.toList) (hb : Bld b b (acc ++ [x]) w1) (hk : KeptB b b wr w1) : TxAt al p l i w b (k + 1) (acc ++ [x]) w1 where
  dec := by
    obtain ⟨j, hj, hd⟩ := h.dec
    exact ⟨j, hj, hd.belowC hk.bel (by have := h.lo; have := h.pb; omega)⟩
  kept := h.kept.then hk.bel h.lo
  bld := hb
  len := by have := h.len; simp [this]
  all := fun y hy => by
    rcases List.mem_append.1 hy with h1 | h1
    · exact h.all y h1
    · simp at h1
      rw [h1]
      exact hx
  lo := h.lo
  pb := h.pb

theorem TxAt.str {al : ByteArray} {p i b k : Nat} {l acc : List UInt8} {w wr w1 : World} (h : TxAt al p l i w b k acc wr) (hb : Bld b b acc w1) (hk : KeptB b b wr w1) : TxAt al p l i w b k acc w1 where
  dec := by
    obtain ⟨j, hj, hd⟩ := h.dec
    exact ⟨j, hj, hd.belowC hk.bel (by have := h.lo; have := h.pb; omega)⟩
  kept := h.kept.then hk.bel h.lo
  bld := hb
  len := h.len
  all := h.all
  lo := h.lo
  pb := h.pb
theorem rem_in (y : Nat) {m : Nat} (h : 1 ≤ m) : (0 : Int) ≤ (y : Int) % (m : Int) ∧ (y : Int) % (m : Int) < (m : Int) :=
  ⟨Int.emod_nonneg _ (by omega), Int.emod_lt_of_pos _ (by omega)⟩
theorem mem_at (al : ByteArray) {k : Nat} (h : k < al.size) : al[k] ∈ al.data.toList := by
  show al.data[k] ∈ al.data.toList
  simp
theorem byte_at (al : ByteArray) (y : Nat) (h : 1 ≤ al.size) : ∃ (x : Nat) (hq : y % al.size < al.size), (al[y % al.size]'hq).toNat = x ∧ Hid (∃ c : UInt8, c ∈ al.data.toList ∧ c.toNat = x) :=
  ⟨_, Nat.mod_lt y h, rfl, Lib.hid ⟨_, mem_at al (Nat.mod_lt y h), rfl⟩⟩
theorem wbyte_n (B b : Nat) (l : List UInt8) (c : UInt8) (x : Nat) (hx : c.toNat = x) (w : World) (h : Bld B b l w) (hl : l.length ≤ 100000000) :
    Calls Tryd.prog 17 #[.pointer (some ⟨b, 0, none⟩), .int .u8 (x : Int)] w fun e w' => e = .returned .nilIface ∧ Bld B b (l ++ [c]) w' ∧ KeptB B b w w' := by
  rw [← hx]
  exact wbyte B b l c w h hl
set_option maxRecDepth 100000 in
set_option maxHeartbeats 1000000 in
theorem text_any (al : ByteArray) (m : Nat) (em : Bool) (p : Nat) (l : List UInt8) (i : Nat) (w : World) (h : Dec w p l i) (hl : l.length ≤ 1048576) (hal : 1 ≤ al.size ∧ al.size ≤ 100) (hm : 1 ≤ m ∧ m ≤ 10) :
    Calls Tryd.prog 13 #[.pointer (some ⟨p, 0, none⟩), .string al, .int .i64 (m : Int), .bool em] w (TextOut al m em p l i w) := by
  have HD := Lib.hid h
  have HN := Lib.hid (next_n p l i w h hl)
  have hz : (1 : Int) ≤ (m : Int) ∧ (m : Int) ≤ 10 ∧ (1 : Int) ≤ (al.size : Int) ∧ (al.size : Int) ≤ 100 := by omega
  clear h
  go_enter Tryd.func13, Tryd.ntmps13
  go_upto_region 2 with (go_at_call 12; refine HN.out.mono ?_; rintro e w1 ⟨y, i1, rfl, hy, hd1, hk1, hi1, ha1, hb1⟩; have HDD := Lib.hid hd1; have HK1 := Lib.hid hk1; have HB1 := Lib.hid hb1; clear hd1 ha1 hk1 hb1)
  have hyn : ((y : Int) % ((m : Int) + 1)) = ((y % (m + 1) : Nat) : Int) := by push_cast; rfl
  have hyb : y % (m + 1) ≤ m := by have := Nat.mod_lt y (show 0 < m + 1 by omega); omega
  have HZ0 : Hid (i = l.length → y % (m + 1) = 0) := Lib.hid (fun he => by rw [HB1.out he]; exact Nat.zero_mod _)
  rw [hyn]
  clear hyn
  obtain ⟨z, hzz⟩ : ∃ z, y % (m + 1) = z := ⟨_, rfl⟩
  rw [hzz] at hyb HZ0 ⊢
  clear hzz HB1
  have hzb : (z : Int) ≤ (m : Int) := by omega
  clear hyb
  have HT := Lib.hid (TxAt.start (al := al) HD.out.lt HDD.out hi1 HK1.out)
  clear hi1 hy
  have hN : ∀ wr j, Dec wr p l j → Calls Tryd.prog 12 #[.pointer (some ⟨p, 0, none⟩)] wr (NextN p l j wr) := fun wr j h => next_n p l j wr h hl
  have HNN := Lib.hid hN
  clear hN HN HDD HK1 HD
  have hgoal : ∀ n : Nat, (n : Int) ≤ 10 → n ≤ m → (em = false → 0 < n) → (em = false → i = l.length → n ≤ 1) → ∀ (acc : List UInt8) (w' : World), TxAt al p l i w w1.heap.size n acc w' → TextOut al m em p l i w (.returned (.string (bytesOf acc))) w' := by
    intro n _ h1 h2 h3 acc w' h
    obtain ⟨j, hj, hd⟩ := h.dec
    exact ⟨acc, j, rfl, hd, h.kept, hj, by rw [h.len]; exact h1, h.all, fun e => by have := h2 e; have := h.len; exact List.ne_nil_of_length_pos (by omega), fun e e2 => by rw [h.len]; exact h3 e e2⟩
  have HG := Lib.hid hgoal
  clear hgoal
  obtain ⟨b, hb⟩ : ∃ b, w1.heap.size = b := ⟨_, rfl⟩
  rw [hb] at HG
  rw [hb] at HT
  cases em
  · rcases Nat.eq_zero_or_pos z with h0 | h0
    · have z0 : ((z : Int) == 0) = true := by simp; omega
      clear h0 hzb
      go_wp2
      go_loopg [11] 1 (fun gk s11 wr => ∃ (k : Nat) (acc : List UInt8), s11 = .int .i64 (k : Int) ∧ k ≤ 1 ∧ gk = 1 - k ∧ Hid (TxAt al p l i w b k acc wr))
      case atStart => exact ⟨0, [], rfl, by omega, rfl, HT⟩
      case round =>
        obtain ⟨k, acc, rfl, hk, rfl, HX⟩ := hrel
        by_cases hkn : k < 1
        · have hkz : (k : Int) < 1 := by omega
          obtain ⟨j, hj, hd⟩ := HX.out.dec
          have HNJ := Lib.hid (HNN.out wr j hd)
          have HJ := Lib.hid (And.intro hj hd)
          have HKL := Lib.hid (show acc.length ≤ 100000000 by rw [HX.out.len]; omega)
          clear hj hd
          go_wp2_with (first
            | (go_at_call 12; refine HNJ.out.mono ?_; rintro e w2 ⟨y2, j2, rfl, hy2, hd2, hk2, hi2, _, _⟩; have HX2 := Lib.hid (HX.out.next HJ.out.2 HJ.out.1 hd2 hi2 hk2); have hq := rem_in y2 hal.1; obtain ⟨x, hqn, hcx, HCM⟩ := byte_at al y2 hal.1; clear hd2 hk2 hi2)
            | (go_at_call 17; obtain ⟨c, HC1, HC2⟩ := HCM.out; refine (wbyte_n b b acc c x HC2 _ HX2.out.bld HKL.out).mono ?_; rintro e w3 ⟨rfl, hb3, hk3⟩; have HX3 := Lib.hid (HX2.out.write HC1 hb3 hk3); clear hb3 hk3))
          go_roundg (1 - (k + 1))
          case measure => omega
          case rel => exact ⟨k + 1, _, by go_num, by omega, rfl, HX3⟩
        · have hkz : ¬ (k : Int) < 1 := by omega
          have HW := Lib.hid (bstr b b acc wr HX.out.bld)
          have HKE := Lib.hid (show k = 1 by omega)
          go_wp2_with (go_at_call 11; refine HW.out.mono ?_; rintro e w4 ⟨rfl, hb4, hk4⟩; have HX4 := Lib.hid (HX.out.str hb4 hk4); clear hb4 hk4)
          go_ret
          have hx := HX4.out
          rw [HKE.out] at hx
          exact HG.out 1 (by omega) (by omega) (by omega) (by omega) acc _ hx
    · have z0 : ((z : Int) == 0) = false := by simp; omega
      have H0 := Lib.hid h0
      clear h0
      go_wp2
      go_loopg [11] z (fun gk s11 wr => ∃ (k : Nat) (acc : List UInt8), s11 = .int .i64 (k : Int) ∧ k ≤ z ∧ gk = z - k ∧ Hid (TxAt al p l i w b k acc wr))
      case atStart => exact ⟨0, [], rfl, by omega, rfl, HT⟩
      case round =>
        obtain ⟨k, acc, rfl, hk, rfl, HX⟩ := hrel
        by_cases hkn : k < z
        · have hkz : (k : Int) < (z : Int) := by omega
          obtain ⟨j, hj, hd⟩ := HX.out.dec
          have HNJ := Lib.hid (HNN.out wr j hd)
          have HJ := Lib.hid (And.intro hj hd)
          have HKL := Lib.hid (show acc.length ≤ 100000000 by rw [HX.out.len]; omega)
          clear hj hd
          go_wp2_with (first
            | (go_at_call 12; refine HNJ.out.mono ?_; rintro e w2 ⟨y2, j2, rfl, hy2, hd2, hk2, hi2, _, _⟩; have HX2 := Lib.hid (HX.out.next HJ.out.2 HJ.out.1 hd2 hi2 hk2); have hq := rem_in y2 hal.1; obtain ⟨x, hqn, hcx, HCM⟩ := byte_at al y2 hal.1; clear hd2 hk2 hi2)
            | (go_at_call 17; obtain ⟨c, HC1, HC2⟩ := HCM.out; refine (wbyte_n b b acc c x HC2 _ HX2.out.bld HKL.out).mono ?_; rintro e w3 ⟨rfl, hb3, hk3⟩; have HX3 := Lib.hid (HX2.out.write HC1 hb3 hk3); clear hb3 hk3))
          go_roundg (z - (k + 1))
          case measure => omega
          case rel => exact ⟨k + 1, _, by go_num, by omega, rfl, HX3⟩
        · have hkz : ¬ (k : Int) < (z : Int) := by omega
          have HW := Lib.hid (bstr b b acc wr HX.out.bld)
          have HKE := Lib.hid (show k = z by omega)
          go_wp2_with (go_at_call 11; refine HW.out.mono ?_; rintro e w4 ⟨rfl, hb4, hk4⟩; have HX4 := Lib.hid (HX.out.str hb4 hk4); clear hb4 hk4)
          go_ret
          have hx := HX4.out
          rw [HKE.out] at hx
          exact HG.out z (by omega) (by omega) (fun _ => H0.out) (fun _ he => by have := HZ0.out he; omega) acc _ hx
  · go_wp2
    go_loopg [11] z (fun gk s11 wr => ∃ (k : Nat) (acc : List UInt8), s11 = .int .i64 (k : Int) ∧ k ≤ z ∧ gk = z - k ∧ Hid (TxAt al p l i w b k acc wr))
    case atStart => exact ⟨0, [], rfl, by omega, rfl, HT⟩
    case round =>
      obtain ⟨k, acc, rfl, hk, rfl, HX⟩ := hrel
      by_cases hkn : k < z
      · have hkz : (k : Int) < (z : Int) := by omega
        obtain ⟨j, hj, hd⟩ := HX.out.dec
        have HNJ := Lib.hid (HNN.out wr j hd)
        have HJ := Lib.hid (And.intro hj hd)
        have HKL := Lib.hid (show acc.length ≤ 100000000 by rw [HX.out.len]; omega)
        clear hj hd
        go_wp2_with (first
          | (go_at_call 12; refine HNJ.out.mono ?_; rintro e w2 ⟨y2, j2, rfl, hy2, hd2, hk2, hi2, _, _⟩; have HX2 := Lib.hid (HX.out.next HJ.out.2 HJ.out.1 hd2 hi2 hk2); have hq := rem_in y2 hal.1; obtain ⟨x, hqn, hcx, HCM⟩ := byte_at al y2 hal.1; clear hd2 hk2 hi2)
          | (go_at_call 17; obtain ⟨c, HC1, HC2⟩ := HCM.out; refine (wbyte_n b b acc c x HC2 _ HX2.out.bld HKL.out).mono ?_; rintro e w3 ⟨rfl, hb3, hk3⟩; have HX3 := Lib.hid (HX2.out.write HC1 hb3 hk3); clear hb3 hk3))
        go_roundg (z - (k + 1))
        case measure => omega
        case rel => exact ⟨k + 1, _, by go_num, by omega, rfl, HX3⟩
      · have hkz : ¬ (k : Int) < (z : Int) := by omega
        have HW := Lib.hid (bstr b b acc wr HX.out.bld)
        have HKE := Lib.hid (show k = z by omega)
        go_wp2_with (go_at_call 11; refine HW.out.mono ?_; rintro e w4 ⟨rfl, hb4, hk4⟩; have HX4 := Lib.hid (HX.out.str hb4 hk4); clear hb4 hk4)
        go_ret
        have hx := HX4.out
        rw [HKE.out] at hx
        exact HG.out z (by omega) (by omega) (fun h => by cases h) (fun h => by cases h) acc _ hx
end Go.Proofs.YtmcoifhiiagfpaaDoor

namespace Go.Proofs.YtmcoifhiiagfpaaDoor
open Go.RowKit
set_option linter.unusedVariables false

/-- An end of a sequence: a letter or a number. -/
structure EndOk (c : Bool) (l : List UInt8) : Prop where
  ne : l ≠ []
  plain : l.all plainB = true
  len : l.length ≤ 3
  num : isNum (bytesOf l) = !c
  chr : c = true → isChar (bytesOf l) = true
theorem litOf_one (s : ByteArray) : litOf [.lit s] = s := by
  show (⟨(litText [.lit s] |>.getD []).toArray⟩ : ByteArray) = s
  simp [litText]
theorem ok_two {c : Bool} {a b : List UInt8} (ha : EndOk c a) (hb : EndOk c b) : okI (.seq [a, b]) = true := by
  have h1 : a.isEmpty = false := by cases a <;> first | rfl | exact absurd rfl ha.ne
  have h2 : b.isEmpty = false := by cases b <;> first | rfl | exact absurd rfl hb.ne
  have hbr : broken [[.lit (bytesOf a)], [.lit (bytesOf b)]] = false := by
    unfold broken
    simp only [List.getD_cons_zero, List.getD_cons_succ, litOf_one, ha.num, hb.num, List.length_cons, List.length_nil]
    cases c
    · simp
    · simp [ha.chr rfl, hb.chr rfl]
  simp [okI, h1, h2, ha.plain, hb.plain, hbr]
theorem ok_three {c : Bool} {a b k : List UInt8} (ha : EndOk c a) (hb : EndOk c b) (hk : EndOk false k) : okI (.seq [a, b, k]) = true := by
  have h1 : a.isEmpty = false := by cases a <;> first | rfl | exact absurd rfl ha.ne
  have h2 : b.isEmpty = false := by cases b <;> first | rfl | exact absurd rfl hb.ne
  have h3 : k.isEmpty = false := by cases k <;> first | rfl | exact absurd rfl hk.ne
  have hbr : broken [[.lit (bytesOf a)], [.lit (bytesOf b)], [.lit (bytesOf k)]] = false := by
    unfold broken
    simp only [List.getD_cons_zero, List.getD_cons_succ, litOf_one, ha.num, hb.num, hk.num, List.length_cons, List.length_nil]
    cases c
    · simp
    · simp [ha.chr rfl, hb.chr rfl]
  simp [okI, h1, h2, h3, ha.plain, hb.plain, hk.plain, hbr]
def numB (l : List UInt8) : Bool := !l.isEmpty && l.all plainB && decide (l.length ≤ 3) && intOk l
theorem end_num {l : List UInt8} (h : numB l = true) : EndOk false l := by
  simp only [numB, Bool.and_eq_true, decide_eq_true_eq] at h
  obtain ⟨⟨⟨h1, h2⟩, h3⟩, h4⟩ := h
  refine ⟨fun e => (by rw [e] at h1; cases h1), h2, h3, ?_, fun e => (by cases e)⟩
  rw [isNum_eq]
  exact h4
theorem nums_ok : ∀ k : Fin 41, numB (Lib.itoa ((k.val : Int) - 20)) = true := by decide +kernel
def chrB (c : UInt8) : Bool := plainB c && !intOk [c] && isLetter c.toNat
theorem end_chr {c : UInt8} (h : chrB c = true) : EndOk true [c] := by
  simp only [chrB, Bool.and_eq_true, Bool.not_eq_true'] at h
  obtain ⟨⟨h1, h2⟩, h3⟩ := h
  refine ⟨by simp, by simp [h1], by simp, ?_, fun _ => ?_⟩
  · rw [isNum_eq]
    exact h2
  · show ((bytesOf [c]).size == 1 && isLetter (bt (bytesOf [c]) 0)) = true
    rw [Bool.and_eq_true]
    exact ⟨rfl, h3⟩
theorem chrs_ok : ∀ k : Fin 128, isLetter k.val = true → chrB (UInt8.ofNat k.val) = true := by decide +kernel
theorem enc_ascii (r : Nat) (h : r < 128) : Utf8.encode (r : Int) = bytesOf [UInt8.ofNat r] := by
  have hv : Utf8.valid (r : Int) = true := by simp [Utf8.valid]; omega
  unfold Utf8.encode
  simp only [hv, if_true]
  have e : (r : Int).toNat = r := rfl
  rw [e, if_pos (by omega)]
  rfl
theorem enc_letter {z : Int} (h : (97 ≤ z ∧ z ≤ 122) ∨ (65 ≤ z ∧ z ≤ 90)) : ∃ c : UInt8, Utf8.encode z = bytesOf [c] ∧ EndOk true [c] := by
  obtain ⟨r, rfl⟩ : ∃ r : Nat, z = (r : Int) := ⟨z.toNat, by omega⟩
  have hr : r < 128 := by omega
  refine ⟨UInt8.ofNat r, enc_ascii r hr, end_chr (chrs_ok ⟨r, hr⟩ ?_)⟩
  simp only [isLetter, Bool.or_eq_true, Bool.and_eq_true, decide_eq_true_eq]
  omega

set_option maxRecDepth 100000 in
set_option maxHeartbeats 1000000 in
theorem brletter_any (y : Nat) (hy : (y : Int) ≤ 255) (w : World) :
    Calls Tryd.prog 35 #[.int .u8 (y : Int)] w fun e w' => (∃ l : List UInt8, e = .returned (.string (bytesOf l)) ∧ EndOk true l) ∧ w' = w := by
  have hz : (0 : Int) ≤ (y : Int) := by omega
  have h2 : (0 : Int) ≤ (y : Int) % 52 ∧ (y : Int) % 52 < 52 := by omega
  go_enter Tryd.func35, Tryd.ntmps35
  go_wp2
  · go_ret
    obtain ⟨c, h3, h4⟩ := enc_letter (z := 97 + (y : Int) % 52) (by omega)
    exact ⟨⟨[c], by rw [h3]; rfl, h4⟩, rfl⟩
  · go_ret
    obtain ⟨c, h3, h4⟩ := enc_letter (z := 65 + (y : Int) % 52 - 26) (by omega)
    exact ⟨⟨[c], by rw [h3]; rfl, h4⟩, rfl⟩

abbrev Tab (w : World) : Prop := Lib.TabIs Tryd.prog w "internal/strconv.uint64pow10" .u64 Lib.pow10Tab
theorem itoa_end (z : Int) (h : -20 ≤ z ∧ z ≤ 20) (w : World) (ht : Tab w) :
    Calls Tryd.prog 34 #[.int .i64 z] w fun e w' => (∃ l : List UInt8, e = .returned (.string (bytesOf l)) ∧ EndOk false l) ∧ Below w.heap.size w w' := by
  refine (Tryd.strconv_Itoa z (by omega) (by omega) w ht).mono ?_
  rintro e w' ⟨rfl, k, os, rfl⟩
  refine ⟨⟨_, rfl, ?_⟩, ?_⟩
  · obtain ⟨r, hr⟩ : ∃ r : Nat, z = (r : Int) - 20 := ⟨(z + 20).toNat, by omega⟩
    have := nums_ok ⟨r, by omega⟩
    rw [hr]
    exact end_num this
  · exact ⟨rfl, rfl, rfl, by simp [Go.Sort.grow], fun i hi => by
      show ((w.drewN k).heap ++ os)[i]? = _
      rw [Array.getElem?_append_left (by show i < w.heap.size; omega)]
      rfl⟩
end Go.Proofs.YtmcoifhiiagfpaaDoor
