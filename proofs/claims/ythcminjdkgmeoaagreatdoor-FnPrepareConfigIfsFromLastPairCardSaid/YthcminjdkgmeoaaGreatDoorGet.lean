/-
  What IFS reads as in an environment of pairs.
-/
import Derived.Test.YthcminjdkgmeoaaGreatDoorGt2
namespace Go.Proofs.YthcminjdkgmeoaaGreatDoor
open Go.RowKit
set_option linter.unusedVariables false

/-- A variable's nine cells, written one by one. -/
def putVar (w : World) (b : Nat) (s : ByteArray) : World := (((((((((w.setCell ⟨b, 0, none⟩ (.bool true)).setCell ⟨b, 1, none⟩ (.bool false)).setCell ⟨b, 2, none⟩ (.bool true)).setCell ⟨b, 3, none⟩ (.bool false)).setCell ⟨b, 4, none⟩ (.int .u8 1)).setCell ⟨b, 5, none⟩ (.string s)).setCell ⟨b, 6, none⟩ (.slice none 0 0)).setCell ⟨b, 7, none⟩ (.map none)).setCell ⟨b, 8, none⟩ (.slice none 0 0))

theorem alloc_second (w : World) (a b : Obj) : ((w.alloc a).alloc b).heap[w.heap.size + 1]? = some b := by
  have := heap_alloc_new (w.alloc a) b
  simpa using this
theorem below4 {w w1 : World} {a b c d : Obj} (h : Below ((((w.alloc a).alloc b).alloc c).alloc d).heap.size ((((w.alloc a).alloc b).alloc c).alloc d) w1) : Below w.heap.size w w1 :=
  (((((Below.refl _ _).alloc (Nat.le_refl _) _).alloc (by simp) _).alloc (by simp; omega) _).alloc (by simp; omega) _).trans (h.mono (by simp; omega))

theorem setCell_block {w : World} {b : Nat} {c : Array Value} {t : TypeId} {fr : Nat × Nat} (h : w.heap[b]? = some (.cells c t fr)) (k : Nat) (v : Value) :
    (w.setCell ⟨b, k, none⟩ v).heap[b]? = some (.cells (c.setIfInBounds k v) t fr) := by
  simp [World.setCell, Array.getElem?_modify, h]

theorem putVar_block {w : World} {b : Nat} {t : TypeId} {fr : Nat × Nat} (s : ByteArray) (h : w.heap[b]? = some (.cells #[.bool false, .bool false, .bool false, .bool false, .int .u8 0, .string ⟨#[]⟩, .slice none 0 0, .map none, .slice none 0 0] t fr)) :
    (putVar w b s).heap[b]? = some (.cells #[.bool true, .bool false, .bool true, .bool false, .int .u8 1, .string s, .slice none 0 0, .map none, .slice none 0 0] t fr) := by
  have h0 := setCell_block h 0 (.bool true)
  have h1 := setCell_block h0 1 (.bool false)
  have h2 := setCell_block h1 2 (.bool true)
  have h3 := setCell_block h2 3 (.bool false)
  have h4 := setCell_block h3 4 (.int .u8 1)
  have h5 := setCell_block h4 5 (.string s)
  have h6 := setCell_block h5 6 (.slice none 0 0)
  have h7 := setCell_block h6 7 (.map none)
  have h8 := setCell_block h7 8 (.slice none 0 0)
  exact h8

theorem putVar_other {w : World} {b k : Nat} (s : ByteArray) (h : k ≠ b) : (putVar w b s).heap[k]? = w.heap[k]? := by
  unfold putVar
  repeat rw [Below.heap_setCell _ _ _ _ h]

theorem below_putVar {B : Nat} {a w : World} (h : Below B a w) {b : Nat} (hb : B ≤ b) (s : ByteArray) : Below B a (putVar w b s) := by
  unfold putVar
  repeat refine Below.setCell ?_ hb _
  exact h

/-- A variable's nine cells, written with zeros one by one. -/
def putZ (w : World) (b : Nat) : World := (((((((((w.setCell ⟨b, 0, none⟩ (.bool false)).setCell ⟨b, 1, none⟩ (.bool false)).setCell ⟨b, 2, none⟩ (.bool false)).setCell ⟨b, 3, none⟩ (.bool false)).setCell ⟨b, 4, none⟩ (.int .u8 0)).setCell ⟨b, 5, none⟩ (.string ⟨#[]⟩)).setCell ⟨b, 6, none⟩ (.slice none 0 0)).setCell ⟨b, 7, none⟩ (.map none)).setCell ⟨b, 8, none⟩ (.slice none 0 0))
theorem putZ_block {w : World} {b : Nat} {t : TypeId} {fr : Nat × Nat} (h : w.heap[b]? = some (.cells #[.bool false, .bool false, .bool false, .bool false, .int .u8 0, .string ⟨#[]⟩, .slice none 0 0, .map none, .slice none 0 0] t fr)) :
    (putZ w b).heap[b]? = some (.cells #[.bool false, .bool false, .bool false, .bool false, .int .u8 0, .string ⟨#[]⟩, .slice none 0 0, .map none, .slice none 0 0] t fr) := by
  have h0 := setCell_block h 0 (.bool false)
  have h1 := setCell_block h0 1 (.bool false)
  have h2 := setCell_block h1 2 (.bool false)
  have h3 := setCell_block h2 3 (.bool false)
  have h4 := setCell_block h3 4 (.int .u8 0)
  have h5 := setCell_block h4 5 (.string ⟨#[]⟩)
  have h6 := setCell_block h5 6 (.slice none 0 0)
  have h7 := setCell_block h6 7 (.map none)
  have h8 := setCell_block h7 8 (.slice none 0 0)
  exact h8
theorem below_putZ {B : Nat} {a w : World} (h : Below B a w) {b : Nat} (hb : B ≤ b) : Below B a (putZ w b) := by
  unfold putZ
  repeat refine Below.setCell ?_ hb _
  exact h

/-- What IFS reads as: a variable that is set, a string, that text. -/
def varOf (ifs : ByteArray) : Value := .agg #[.bool true, .bool false, .bool true, .bool false, .int .u8 1, .string ifs, .slice none 0 0, .map none, .slice none 0 0]

def varNone : Value := .agg #[.bool false, .bool false, .bool false, .bool false, .int .u8 0, .string ⟨#[]⟩, .slice none 0 0, .map none, .slice none 0 0]
/-- What IFS reads as. -/
def varV : Option (List UInt8) → Value
  | some s => varOf ⟨(s.drop 4).toArray⟩
  | none => varNone
def GetOut (R : List (List UInt8)) (w : World) (e : Ending) (w' : World) : Prop := e = .returned (varV (Stb.fnd (ifsL ++ [61]) R)) ∧ Below w.heap.size w w'
theorem EnvAt.below {R : List (List UInt8)} {v : Value} {w w' : World} (h : EnvAt R v w) (hb : Below w.heap.size w w') : EnvAt R v w' := by
  obtain ⟨ao, c, h1, h2⟩ := h
  refine ⟨ao, c, h1, fun hne => ?_⟩
  obtain ⟨P, h3, h4⟩ := h2 hne
  exact ⟨P, h3, fun k x hx => (hb.cell (p := ⟨P, k, none⟩) (World.block_lt_of_cell? w _ (h4 k x hx))).trans (h4 k x hx)⟩
theorem drop_ext (x : List UInt8) : (⟨x.toArray⟩ : ByteArray).extract 4 (⟨x.toArray⟩ : ByteArray).size = ⟨(x.drop 4).toArray⟩ := by
  apply ByteArray.ext
  apply Array.ext'
  rw [Lib.extract_data, str_size]
  show ((x.drop 4).take (x.length - 4)) = x.drop 4
  rw [List.take_of_length_le (by rw [List.length_drop]; omega)]
theorem alloc_four {w : World} (a b c d : Obj) : Below w.heap.size w ((((w.alloc a).alloc b).alloc c).alloc d) :=
  ((((Below.refl _ _).alloc (Nat.le_refl _) _).alloc (by simp) _).alloc (by simp; omega) _).alloc (by simp; omega) _
theorem fnd_len {R : List (List UInt8)} {x : List UInt8} (h : Stb.fnd (ifsL ++ [61]) R = some x) : 4 ≤ x.length := by
  obtain ⟨i, _, h2, _⟩ := Stb.fnd_some h
  obtain ⟨_, v, rfl⟩ := Stb.key_valid (t := ifsL) (by decide) (by decide) h2
  simp [ifsL]

set_option maxRecDepth 100000 in
set_option maxHeartbeats 2000000 in
theorem get_any (L R : List (List UInt8)) (hR : ResOk L R) (hn : R.length ≤ 4194304) (hs : ∀ x ∈ R, x.length ≤ 4194304) (v : Value) (w : World) (hE : EnvAt R v w) :
    Calls Tryz.prog 84 #[.agg #[.bool false, v], .string ⟨#[73, 70, 83]⟩] w (GetOut R w) := by
  have hmf : ∀ (fn : Fn) (first cap : Array Value) (w : World), (Instr.makeFunc fn first cap).run Tryz.prog w = .ok (.func fn first cap) w := fun _ _ _ _ => rfl
  have HBS := Lib.hid (fun (w2 : World) (a b c : Nat) (h : EnvAt R v w2) (v2 : Value) => bs_any L R hR hn hs v w2 h a b c v2)
  have HE := Lib.hid hE
  obtain ⟨ao, cap, hv, _⟩ := hE
  obtain ⟨n, hN⟩ : ∃ n, R.length = n := ⟨_, rfl⟩
  rw [hN] at hv
  have HN := Lib.hid hN
  have HSS := Lib.hid hs
  have hnz : (n : Int) ≤ 4194304 := by omega
  subst hv
  clear hN hs hn
  go_enter Tryz.func84, Tryz.ntmps84
  go_wp2_with fail
  refine (HBS.out _ _ _ _ (HE.out.below (alloc_four _ _ _ _)) (.slice ao n cap) ?_ ?_ ?_ ?_).mono ?_
  · simp [go_sem]
  · simp [go_sem]
  · simp [go_sem]
  · simp [go_sem]
  rintro e w1 ⟨i, f, rfl, hf1, hf2, q1⟩
  have z1 := q1.size
  simp only [World.size_alloc] at z1
  have HQ := Lib.hid q1
  have HF1 := Lib.hid hf1
  have HF2 := Lib.hid hf2
  have hblk : w1.heap[w.heap.size + 1]? = some (.cells #[.bool false, .bool false, .bool false, .bool false, .int .u8 0, .string ⟨#[]⟩, .slice none 0 0, .map none, .slice none 0 0] 67 (0, 0)) := by
    rw [q1.block (w.heap.size + 1) (by simp), Below.heap_alloc _ _ _ (by simp), Below.heap_alloc _ _ _ (by simp)]
    exact alloc_second w _ _
  have HBLK := Lib.hid hblk
  clear hblk hf1 hf2
  have L1 : w1.cell? ⟨w.heap.size, 1, none⟩ = some (.slice ao n cap) := (q1.cell (p := ⟨w.heap.size, 1, none⟩) (by simp; omega)).trans (by simp [go_sem])
  have P4 : w1.cell? ⟨w.heap.size + 1 + 1 + 1, 0, none⟩ = some (.int .i64 4) := (q1.cell (p := ⟨w.heap.size + 1 + 1 + 1, 0, none⟩) (by simp)).trans (by simp [go_sem])
  have C0 : w1.cell? ⟨w.heap.size + 1, 0, none⟩ = some (.bool false) := (q1.cell (p := ⟨w.heap.size + 1, 0, none⟩) (by simp)).trans (by simp [go_sem])
  have F0 : w1.frozen? ⟨w.heap.size + 1, 0, none⟩ = false := (q1.frozen (p := ⟨w.heap.size + 1, 0, none⟩) (by simp)).trans (by simp [go_sem])
  have C1 : w1.cell? ⟨w.heap.size + 1, 1, none⟩ = some (.bool false) := (q1.cell (p := ⟨w.heap.size + 1, 1, none⟩) (by simp)).trans (by simp [go_sem])
  have F1 : w1.frozen? ⟨w.heap.size + 1, 1, none⟩ = false := (q1.frozen (p := ⟨w.heap.size + 1, 1, none⟩) (by simp)).trans (by simp [go_sem])
  have C2 : w1.cell? ⟨w.heap.size + 1, 2, none⟩ = some (.bool false) := (q1.cell (p := ⟨w.heap.size + 1, 2, none⟩) (by simp)).trans (by simp [go_sem])
  have F2 : w1.frozen? ⟨w.heap.size + 1, 2, none⟩ = false := (q1.frozen (p := ⟨w.heap.size + 1, 2, none⟩) (by simp)).trans (by simp [go_sem])
  have C3 : w1.cell? ⟨w.heap.size + 1, 3, none⟩ = some (.bool false) := (q1.cell (p := ⟨w.heap.size + 1, 3, none⟩) (by simp)).trans (by simp [go_sem])
  have F3 : w1.frozen? ⟨w.heap.size + 1, 3, none⟩ = false := (q1.frozen (p := ⟨w.heap.size + 1, 3, none⟩) (by simp)).trans (by simp [go_sem])
  have C4 : w1.cell? ⟨w.heap.size + 1, 4, none⟩ = some (.int .u8 0) := (q1.cell (p := ⟨w.heap.size + 1, 4, none⟩) (by simp)).trans (by simp [go_sem])
  have F4 : w1.frozen? ⟨w.heap.size + 1, 4, none⟩ = false := (q1.frozen (p := ⟨w.heap.size + 1, 4, none⟩) (by simp)).trans (by simp [go_sem])
  have C5 : w1.cell? ⟨w.heap.size + 1, 5, none⟩ = some (.string ⟨#[]⟩) := (q1.cell (p := ⟨w.heap.size + 1, 5, none⟩) (by simp)).trans (by simp [go_sem])
  have F5 : w1.frozen? ⟨w.heap.size + 1, 5, none⟩ = false := (q1.frozen (p := ⟨w.heap.size + 1, 5, none⟩) (by simp)).trans (by simp [go_sem])
  have C6 : w1.cell? ⟨w.heap.size + 1, 6, none⟩ = some (.slice none 0 0) := (q1.cell (p := ⟨w.heap.size + 1, 6, none⟩) (by simp)).trans (by simp [go_sem])
  have F6 : w1.frozen? ⟨w.heap.size + 1, 6, none⟩ = false := (q1.frozen (p := ⟨w.heap.size + 1, 6, none⟩) (by simp)).trans (by simp [go_sem])
  have C7 : w1.cell? ⟨w.heap.size + 1, 7, none⟩ = some (.map none) := (q1.cell (p := ⟨w.heap.size + 1, 7, none⟩) (by simp)).trans (by simp [go_sem])
  have F7 : w1.frozen? ⟨w.heap.size + 1, 7, none⟩ = false := (q1.frozen (p := ⟨w.heap.size + 1, 7, none⟩) (by simp)).trans (by simp [go_sem])
  have C8 : w1.cell? ⟨w.heap.size + 1, 8, none⟩ = some (.slice none 0 0) := (q1.cell (p := ⟨w.heap.size + 1, 8, none⟩) (by simp)).trans (by simp [go_sem])
  have F8 : w1.frozen? ⟨w.heap.size + 1, 8, none⟩ = false := (q1.frozen (p := ⟨w.heap.size + 1, 8, none⟩) (by simp)).trans (by simp [go_sem])
  clear q1
  cases f with
  | true =>
    obtain ⟨x, hx, hfx⟩ := HF1.out rfl
    have h4 := fnd_len hfx
    have hin : i < n := by rw [← HN.out]; exact (List.getElem?_eq_some_iff.1 hx).1
    have hinz : (i : Int) < (n : Int) := by omega
    obtain ⟨_, _, h5, h6⟩ := HE.out.below ((alloc_four (w := w) (.cells #[.bool false, .slice ao n cap] 53) (.cells #[.bool false, .bool false, .bool false, .bool false, .int .u8 0, .string ⟨#[]⟩, .slice none 0 0, .map none, .slice none 0 0] 67) (.cells #[.int .i64 3] 3) (.cells #[.int .i64 4] 3)).trans (HQ.out.mono (by simp; omega)))
    obtain ⟨P, h7, h8⟩ := h6 (fun e => by rw [e] at hx; simp at hx)
    have hao : ao = some ⟨P, 0, none⟩ := by
      simp only [Value.slice.injEq] at h5
      rw [h5.1, h7]
    subst hao
    have cx : w1.cell? ⟨P, i, none⟩ = some (.string ⟨x.toArray⟩) := h8 i x hx
    have hps : (⟨x.toArray⟩ : ByteArray).size = x.length := str_size x
    have h4i : (4 : Int) ≤ ((⟨x.toArray⟩ : ByteArray).size : Int) := by omega
    have hdx := drop_ext x
    have HV : Hid (varV (Stb.fnd (ifsL ++ [61]) R) = varOf ⟨(x.drop 4).toArray⟩) := Lib.hid (by rw [hfx]; rfl)
    obtain ⟨p, hp⟩ : ∃ p : ByteArray, ⟨x.toArray⟩ = p := ⟨_, rfl⟩
    rw [hp] at cx h4i hdx
    have HPR := Lib.hid hdx
    clear h5 h6 h7 h8 hx hfx h4 hps hdx hp
    go_wp2_with fail
    go_region
    go_wp2
    have hput := putVar_block (p.extract 4 p.size) HBLK.out
    have hbel : Below w.heap.size w (putVar w1 (w.heap.size + 1) (p.extract 4 p.size)) := below_putVar (below4 HQ.out) (by omega) _
    rw [HPR.out] at hput hbel
    change bodyPost _ _ _ _ _ ((putVar w1 (w.heap.size + 1) (p.extract 4 p.size)).drew)
    rw [HPR.out]
    clear C0 C1 C2 C3 C4 C5 C6 C7 C8 F0 F1 F2 F3 F4 F5 F6 F7 F8 cx L1 P4 HBLK
    generalize putVar w1 (w.heap.size + 1) ⟨(x.drop 4).toArray⟩ = w2 at *
    have R0 : w2.cell? ⟨w.heap.size + 1, 0, none⟩ = some (.bool true) := cell_of_row w2 _ 0 _ _ _ hput
    have R1 : w2.cell? ⟨w.heap.size + 1, 1, none⟩ = some (.bool false) := cell_of_row w2 _ 1 _ _ _ hput
    have R2 : w2.cell? ⟨w.heap.size + 1, 2, none⟩ = some (.bool true) := cell_of_row w2 _ 2 _ _ _ hput
    have R3 : w2.cell? ⟨w.heap.size + 1, 3, none⟩ = some (.bool false) := cell_of_row w2 _ 3 _ _ _ hput
    have R4 : w2.cell? ⟨w.heap.size + 1, 4, none⟩ = some (.int .u8 1) := cell_of_row w2 _ 4 _ _ _ hput
    have R5 : w2.cell? ⟨w.heap.size + 1, 5, none⟩ = some (.string ⟨(x.drop 4).toArray⟩) := cell_of_row w2 _ 5 _ _ _ hput
    have R6 : w2.cell? ⟨w.heap.size + 1, 6, none⟩ = some (.slice none 0 0) := cell_of_row w2 _ 6 _ _ _ hput
    have R7 : w2.cell? ⟨w.heap.size + 1, 7, none⟩ = some (.map none) := cell_of_row w2 _ 7 _ _ _ hput
    have R8 : w2.cell? ⟨w.heap.size + 1, 8, none⟩ = some (.slice none 0 0) := cell_of_row w2 _ 8 _ _ _ hput
    refine bodyPost_ret (v := varOf ⟨(x.drop 4).toArray⟩) (by simp [results, Tryz.results84, go_sem, R0, R1, R2, R3, R4, R5, R6, R7, R8, varOf]) rfl ⟨by rw [HV.out], hbel.drew⟩
  | false =>
    have HV : Hid (varV (Stb.fnd (ifsL ++ [61]) R) = varNone) := Lib.hid (by rw [HF2.out rfl]; rfl)
    go_wp2_with fail
    have hput := putZ_block HBLK.out
    have hbel : Below w.heap.size w (putZ w1 (w.heap.size + 1)) := below_putZ (below4 HQ.out) (by omega)
    change bodyPost _ _ _ _ _ (putZ w1 (w.heap.size + 1))
    clear C0 C1 C2 C3 C4 C5 C6 C7 C8 F0 F1 F2 F3 F4 F5 F6 F7 F8 L1 P4 HBLK
    generalize putZ w1 (w.heap.size + 1) = w2 at *
    have R0 : w2.cell? ⟨w.heap.size + 1, 0, none⟩ = some (.bool false) := cell_of_row w2 _ 0 _ _ _ hput
    have R1 : w2.cell? ⟨w.heap.size + 1, 1, none⟩ = some (.bool false) := cell_of_row w2 _ 1 _ _ _ hput
    have R2 : w2.cell? ⟨w.heap.size + 1, 2, none⟩ = some (.bool false) := cell_of_row w2 _ 2 _ _ _ hput
    have R3 : w2.cell? ⟨w.heap.size + 1, 3, none⟩ = some (.bool false) := cell_of_row w2 _ 3 _ _ _ hput
    have R4 : w2.cell? ⟨w.heap.size + 1, 4, none⟩ = some (.int .u8 0) := cell_of_row w2 _ 4 _ _ _ hput
    have R5 : w2.cell? ⟨w.heap.size + 1, 5, none⟩ = some (.string ⟨#[]⟩) := cell_of_row w2 _ 5 _ _ _ hput
    have R6 : w2.cell? ⟨w.heap.size + 1, 6, none⟩ = some (.slice none 0 0) := cell_of_row w2 _ 6 _ _ _ hput
    have R7 : w2.cell? ⟨w.heap.size + 1, 7, none⟩ = some (.map none) := cell_of_row w2 _ 7 _ _ _ hput
    have R8 : w2.cell? ⟨w.heap.size + 1, 8, none⟩ = some (.slice none 0 0) := cell_of_row w2 _ 8 _ _ _ hput
    refine bodyPost_ret (v := varNone) (by simp [results, Tryz.results84, go_sem, R0, R1, R2, R3, R4, R5, R6, R7, R8, varNone]) rfl ⟨by rw [HV.out], hbel⟩
end Go.Proofs.YthcminjdkgmeoaaGreatDoor
