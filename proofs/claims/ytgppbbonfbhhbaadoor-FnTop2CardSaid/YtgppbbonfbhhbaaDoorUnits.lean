/-
  The memory of the law's first loop: an iterator, the units so far. No walk here.
-/
import Derived.Test.YtgppbbonfbhhbaaDoorOneLaw
import Derived.Test.YtgppbbonfbhhbaaDoorSmall
import Derived.Test.YtgppbbonfbhhbaaDoorOne
import Derived.Maps.AppendAt
namespace Go.Proofs.YtgppbbonfbhhbaaDoor
open Go.RowKit Rf

/-- The tokens that are still to come, a backslash waiting or not. -/
def tokE (raw esc : Bool) (rs : List Int) : List Tok := if esc then (match rs with | [] => [⟨0, true, true⟩] | r :: rs => ⟨r, true, false⟩ :: toks raw rs) else toks raw rs

theorem tokE_bs (rs : List Int) : tokE false false (92 :: rs) = tokE false true rs := by
  cases rs with
  | nil => exact toks_last false 92 rfl
  | cons x rs => exact toks_esc false 92 x rs rfl
theorem tokE_plain (raw : Bool) (r : Int) (rs : List Int) (h : (r == 92) = false ∨ raw = true) : tokE raw false (r :: rs) = ⟨r, false, false⟩ :: tokE raw false rs :=
  toks_plain raw r rs (by rcases h with h | h <;> simp [h])
theorem tokE_esc (raw : Bool) (r : Int) (rs : List Int) : tokE raw true (r :: rs) = ⟨r, true, false⟩ :: tokE raw false rs := rfl

structure UMem (B K : Nat) (s : ByteArray) (sep : Int → Bool) (raw : Bool) (W : World) (pos : Nat) (ts : List Tok) (esc : Bool) (v : Value) (wr : World) : Prop where
  iter : wr.heap[K]? = some (.stringIter s pos)
  own : wr.ownsRow B 33 3 v ts.length (unitCells sep ts)
  bel : Below B W wr
  hK : B ≤ K
  eq : ts ++ tokE raw esc (from_ s pos) = toks raw (runes s)
  len : ts.length + (from_ s pos).length ≤ s.size
  esc : esc = true → raw = false

section
variable {B K : Nat} {s : ByteArray} {sep : Int → Bool} {raw : Bool} {W wr : World} {pos : Nat} {ts : List Tok} {esc : Bool} {v : Value}

theorem UMem.size (h : UMem B K s sep raw W pos ts esc v wr) : B ≤ wr.heap.size := by
  have := (Array.getElem?_eq_some_iff.1 h.iter).1
  have := h.hK
  omega

/-- The iterator has gone on; what it handed out is a backslash that makes the next one stand for itself. -/
theorem UMem.bs {p2 : Nat} (h : UMem B K s sep raw W pos ts false v wr) (hp : pos < s.size) (hp2 : pos + (Utf8.decode s pos).2 = p2) (hr : ((Utf8.decode s pos).1 : Int) = 92) (hraw : raw = false) :
    UMem B K s sep raw W p2 ts true v (wr.iterAt K s p2) := by
  subst hp2
  exact {
    iter := Lib.iterAt_heap _ _ _ _ _ h.iter
    own := own_iterAt h.own h.iter _
    bel := Lib.below_iterAt h.bel h.hK _ _
    hK := h.hK
    eq := by have := h.eq; rw [from_step s pos hp, hr] at this; subst hraw; rw [tokE_bs] at this; exact this
    len := by have := h.len; rw [from_step s pos hp] at this; simp at this; omega
    esc := fun _ => hraw }

/-- The iterator has gone on; what it handed out has been made a unit and put behind the others. -/
theorem UMem.push {p2 : Nat} (h : UMem B K s sep raw W pos ts esc v wr) (hp : pos < s.size) (hp2 : pos + (Utf8.decode s pos).2 = p2) {r : Int} (hr : ((Utf8.decode s pos).1 : Int) = r) (hq : esc = true ∨ (r == 92) = false ∨ raw = true) {v' : Value} {w1 w2 : World} (hb : Below (wr.iterAt K s p2).heap.size (wr.iterAt K s p2) w1) (o : Obj)
    (hown : w2.ownsRow B 33 3 v' (ts.length + 1) (unitCells sep ts ++ unitC sep ⟨r, esc, false⟩)) (hg : (w1.alloc o).grownBy w2 v.ownBlock) :
    UMem B K s sep raw W p2 (ts ++ [⟨r, esc, false⟩]) false v' w2 := by
  subst hp2
  exact {
    iter := by
      have hit := Lib.iterAt_heap wr K s pos (pos + (Utf8.decode s pos).2) h.iter
      have hlt := (Array.getElem?_eq_some_iff.1 hit).1
      have hk := own_notIter h.own h.iter
      have hz := hb.size
      rw [hg.block K (by simp; omega) (fun e => hk e.symm), Below.heap_alloc _ _ _ (by omega), hb.block K hlt]
      exact hit
    own := by rw [unitCells_snoc, List.length_append]; exact hown
    bel := by
      have hz := h.size
      have h1 := Lib.below_iterAt h.bel h.hK s (pos + (Utf8.decode s pos).2)
      have hz1 : B ≤ (wr.iterAt K s (pos + (Utf8.decode s pos).2)).heap.size := by have := (Array.getElem?_eq_some_iff.1 (Lib.iterAt_heap wr K s pos (pos + (Utf8.decode s pos).2) h.iter)).1; have := h.hK; omega
      have h2 := h1.trans (hb.mono hz1)
      have hz2 := hb.size
      exact (h2.alloc (by omega) o).grown hg (by simp; omega) (fun k hk => (h.own.lt k hk).1)
    hK := h.hK
    eq := by
      have := h.eq
      rw [from_step s pos hp, hr] at this
      cases esc with
      | true => rw [tokE_esc] at this; simpa using this
      | false => rw [tokE_plain _ _ _ (by simpa using hq)] at this; simpa using this
    len := by have := h.len; rw [from_step s pos hp] at this; simp at this ⊢; omega
    esc := fun h => by cases h }
end

theorem unit_cells {X w5 : World} {a b c : Value} {T : TypeId} (hb5 : Below (X.alloc (.cells #[a, b, c] T)).heap.size (X.alloc (.cells #[a, b, c] T)) w5) :
    w5.cell? ⟨X.heap.size, 0, none⟩ = some a ∧ w5.cell? ⟨X.heap.size, 1, none⟩ = some b ∧ w5.cell? ⟨X.heap.size, 2, none⟩ = some c ∧ w5.frozen? ⟨X.heap.size, 1, none⟩ = false ∧ w5.frozen? ⟨X.heap.size, 2, none⟩ = false ∧ Below X.heap.size X w5 :=
  ⟨(hb5.cell (p := ⟨X.heap.size, 0, none⟩) (by simp)).trans (by simp [go_sem]), (hb5.cell (p := ⟨X.heap.size, 1, none⟩) (by simp)).trans (by simp [go_sem]), (hb5.cell (p := ⟨X.heap.size, 2, none⟩) (by simp)).trans (by simp [go_sem]),
   (hb5.frozen (p := ⟨X.heap.size, 1, none⟩) (by simp)).trans (by simp [go_sem]), (hb5.frozen (p := ⟨X.heap.size, 2, none⟩) (by simp)).trans (by simp [go_sem]), ((Below.refl _ _).alloc (Nat.le_refl _) _).trans (hb5.mono (by simp))⟩

theorem three_at (W : World) (g : Nat) (hg : W.heap.size = g) (x y z : Value) (e : TypeId) (j : Nat) (u : Value) (h : [x, y, z][j]? = some u) : (W.alloc (.cells #[x, y, z] e)).cell? ((⟨g, 0, none⟩ : Addr).add j) = some u := by
  subst hg
  exact three_new W x y z e j u h

theorem below_put {B U : Nat} {X W : World} (h : Below B X W) (hU : B ≤ U) (o : Nat) (v : Value) : Below B X (W.setCell ⟨U, o, none⟩ v) := h.setCell (p := ⟨U, o, none⟩) hU v

theorem unit_of {sep : Int → Bool} {r : Int} {b c : Bool} (hb : sep r = b) (hc : (b && isWS r) = c) : unitC sep ⟨r, false, false⟩ = [.string (Utf8.encode r), .bool b, .bool c] := by
  subst hc
  subst hb
  cases h : sep r <;> simp [unitC, unitS, solid, h]

theorem IsZEnv.below {w w' : World} {g : Nat} {ifs : ByteArray} {sep : Bool} {B : Nat} (h : IsZEnv w g ifs sep) (hg : g < B) (hb : Below B w w') : IsZEnv w' g ifs sep :=
  ⟨(hb.cell (p := ⟨g, 5, none⟩) hg).trans h.c5, (hb.cell (p := ⟨g, 6, none⟩) hg).trans h.c6⟩

theorem umem_start {w : World} {s : ByteArray} {sep : Int → Bool} {raw : Bool} : UMem w.heap.size w.heap.size s sep raw w 0 [] false (.slice none 0 0) (w.iter s 0) :=
  ⟨World.iter_heap _ _ _, World.ownsRow_nil _ _ _ _, (Below.refl _ _).alloc (Nat.le_refl _) _, Nat.le_refl _, rfl, by simpa [from_zero] using runes_length s, fun h => by cases h⟩
end Go.Proofs.YtgppbbonfbhhbaaDoor
