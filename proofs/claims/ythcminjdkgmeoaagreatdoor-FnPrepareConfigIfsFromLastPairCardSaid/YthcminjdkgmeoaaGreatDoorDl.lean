/-
  The ordered pairs as they are thinned out; the copy that is put in order.
-/
import Derived.Test.YthcminjdkgmeoaaGreatDoorCmp
import Derived.Test.YthcminjdkgmeoaaGreatDoorSts
import Derived.Test.YthcminjdkgmeoaaGreatDoorShelf
namespace Go.Proofs.YthcminjdkgmeoaaGreatDoor
open Go.RowKit Go.Lib Go.Sort
set_option linter.unusedVariables false

/-- The row in block P begins with these texts. -/
structure DL (w0 : World) (P : Nat) (l : List (List UInt8)) (w : World) : Prop where
  cells : ∀ (k : Nat) x, l[k]? = some x → w.cell? ⟨P, k, none⟩ = some (strL x)
  frz : ∀ k, w.frozen? ⟨P, k, none⟩ = false
  lt : P < w.heap.size
  kept : KeptP P w0 w
theorem SA.dl {w0 w : World} {P n : Nat} {S : Nat → List UInt8} {q : Nat → Nat} (h : SA w0 P n S q w) : DL w0 P (Stb.lay n S q) w :=
  ⟨fun k x hx => by
    obtain ⟨h1, rfl⟩ := Stb.lay_at hx
    exact h.cell h1, h.frz, h.lt, h.kept⟩
theorem DL.below {w0 w w' : World} {P : Nat} {l : List (List UInt8)} (h : DL w0 P l w) (hb : Below w.heap.size w w') : DL w0 P l w' :=
  ⟨fun k x hx => (hb.cell (p := ⟨P, k, none⟩) h.lt).trans (h.cells k x hx), fun k => (hb.frozen (p := ⟨P, k, none⟩) h.lt).trans (h.frz k), by have := h.lt; have := hb.size; omega, h.kept.trans (KeptP.of_below hb)⟩
theorem keptP_cells (P : Nat) : ∀ (vs : List Value) (o : Nat) (w : World), KeptP P w (w.setCells P o vs)
  | [], o, w => KeptP.refl P w
  | v :: r, o, w => by
    rw [World.setCells]
    exact (KeptP.set w o v).trans (keptP_cells P r (o + 1) _)
theorem getD_of {l : List (List UInt8)} {k : Nat} (h : k < l.length) : l[k]? = some (l.getD k []) := by
  rw [List.getD_eq_getElem?_getD, List.getElem?_eq_getElem h]
  rfl
theorem strs_get (l : List (List UInt8)) : Lib.strsOf (fun k => (⟨(l.getD k []).toArray⟩ : ByteArray)) l.length = l := by
  unfold Lib.strsOf
  apply List.ext_getElem?
  intro k
  rw [List.getElem?_map]
  by_cases h : k < l.length
  · rw [List.getElem?_range h, getD_of h]
    rfl
  · rw [List.getElem?_eq_none (by simp; omega), List.getElem?_eq_none (by omega)]
    rfl
theorem del_any (w0 w : World) (P : Nat) (l : List (List UInt8)) (i j c : Nat) (h : DL w0 P l w) (hij : i ≤ j) (hj : j ≤ l.length) (hc : l.length ≤ c) (hm : c ≤ 9223372036854775807) :
    Calls Tryz.prog 19 #[.slice (some ⟨P, 0, none⟩) l.length c, .int .i64 (i : Int), .int .i64 (j : Int)] w fun e w' => e = .returned (.slice (some ⟨P, 0, none⟩) (l.length - (j - i)) c) ∧ DL w0 P (l.take i ++ l.drop j) w' := by
  have hcell : ∀ k, k < l.length → w.cell? ⟨P, k, none⟩ = some (strL (l.getD k [])) := fun k hk => h.cells k _ (getD_of hk)
  refine (Tryz.slices_Delete_string_cells P 0 l.length c i j (fun k => (⟨(l.getD k []).toArray⟩ : ByteArray)) w hc hm hij hj (fun k hk => by rw [Nat.zero_add]; exact hcell k hk) (fun k hk => by rw [Nat.zero_add]; exact h.frz k)).mono ?_
  rintro e w' ⟨rfl, q, rfl⟩
  rw [strs_get]
  refine ⟨rfl, ⟨fun k x hx => ?_, fun k => ?_, ?_, h.kept.trans ((⟨fun _ _ _ => rfl, Nat.le_refl _, rfl, rfl, rfl⟩ : KeptP P w (w.drewN q)).trans (keptP_cells P _ 0 _))⟩⟩
  · have hk : k < (l.take i ++ l.drop j).length := (List.getElem?_eq_some_iff.1 hx).1
    have hlen : ((l.take i ++ l.drop j ++ List.replicate (j - i) []).map encStr).length = l.length := by
      simp
      omega
    have hk2 : k < l.length := by
      simp at hk
      omega
    have h1 := World.cell?_setCells_in P ((l.take i ++ l.drop j ++ List.replicate (j - i) []).map encStr) 0 (w.drewN q) (fun t ht => by
      rw [hlen] at ht
      rw [Nat.zero_add]
      show (w.cell? ⟨P, t, none⟩).isSome = true
      rw [hcell t ht]
      rfl) k (by rw [hlen]; exact hk2)
    rw [Nat.zero_add] at h1
    rw [h1]
    have h2 : (l.take i ++ l.drop j ++ List.replicate (j - i) [])[k]? = some x := by rw [List.getElem?_append_left hk]; exact hx
    rw [← List.getElem?_eq_getElem (by rw [hlen]; exact hk2), List.getElem?_map, h2]
    rfl
  · rw [World.frozen?_setCells]
    exact h.frz k
  · have h1 := (keptP_cells P ((l.take i ++ l.drop j ++ List.replicate (j - i) []).map encStr) 0 (w.drewN q)).size
    have h2 : (w.drewN q).heap.size = w.heap.size := rfl
    have := h.lt
    omega

/-- The copy of the pairs. -/
def CloneOut (n : Nat) (S : Nat → List UInt8) (w : World) (e : Ending) (w' : World) : Prop :=
  ∃ P c, e = .returned (.slice (some ⟨P, 0, none⟩) n c) ∧ SA w' P n S id w' ∧ n ≤ c ∧ c ≤ 9223372036854775807 ∧ Below w.heap.size w w' ∧ w.heap.size ≤ P
theorem clone_any (b c n : Nat) (S : Nat → List UInt8) (w : World) (h0 : 0 < n) (hn : n ≤ 100000000) (hc : ∀ k, k < n → w.cell? ⟨b, k, none⟩ = some (strL (S k))) :
    Calls Tryz.prog 13 #[.slice (some ⟨b, 0, none⟩) n c] w (CloneOut n S w) := by
  have hget : ∀ k, k < n → ((List.range n).map fun k => (⟨(S k).toArray⟩ : ByteArray)).getD k ByteArray.empty = ⟨(S k).toArray⟩ := fun k hk => by
    rw [List.getD_eq_getElem?_getD, List.getElem?_map, List.getElem?_range hk]
    rfl
  refine (Tryz.slices_Clone_string b 0 n c ((List.range n).map fun k => (⟨(S k).toArray⟩ : ByteArray)) w (by simp) (by omega) (fun j hj => by
    have hj' : j < n := by simpa using hj
    rw [Nat.zero_add, hget j hj']
    exact hc j hj')).mono ?_
  rintro e w' ⟨v', rfl, hown, _, hb⟩
  rcases hown.2 with ⟨_, h1⟩ | ⟨g, cap, cur, rfl, hbg, hg, h1, h2, h3, h4⟩
  · omega
  · refine ⟨g, cap, rfl, ⟨⟨cur, hg, by omega, fun k hk => ?_⟩, KeptP.refl _ _⟩, h1, ?_, hb, hbg⟩
    · have h5 : (cur.toList.take (n * 1))[k]? = some (strL (S k)) := by
        rw [h4, List.getElem?_map, List.getElem?_take_of_lt hk, List.getElem?_map, List.getElem?_range hk]
        rfl
      rw [List.getElem?_take_of_lt (by omega)] at h5
      simpa using h5
    · unfold maxLen at h2
      omega
end Go.Proofs.YthcminjdkgmeoaaGreatDoor
