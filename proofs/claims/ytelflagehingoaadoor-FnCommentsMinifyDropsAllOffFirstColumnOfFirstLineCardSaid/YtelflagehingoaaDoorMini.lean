/-
  A position's line and column; the queue of a printer that makes texts small; a conversion.
-/
import Derived.Test.YtelflagehingoaaDoorLawQ
import Derived.Test.YtelflagehingoaaDoorSheb
namespace Go.Proofs.YtelflagehingoaaDoor
open Go.RowKit

def lineOf (y : Int) : Int := IntKind.u64.wrap (y / 16384)
def colOf (y : Int) : Int := IntKind.u64.wrap (bits BinOp.and IntKind.u32 y 16383)

theorem line_of (x y : Int) (w : World) : Calls Tryd.prog 10 #[.agg #[.int .u32 x, .int .u32 y]] w fun e w' => e = .returned (.int .u64 (lineOf y)) ∧ Below w.heap.size w w' := by
  go_enter Tryd.func10, Tryd.ntmps10
  go_wp2
  go_ret
  exact ⟨rfl, (Below.refl _ w).alloc (Nat.le_refl _) _⟩
theorem col_of (x y : Int) (w : World) : Calls Tryd.prog 11 #[.agg #[.int .u32 x, .int .u32 y]] w fun e w' => e = .returned (.int .u64 (colOf y)) ∧ Below w.heap.size w w' := by
  go_enter Tryd.func11, Tryd.ntmps11
  go_wp2
  go_ret
  exact ⟨rfl, (Below.refl _ w).alloc (Nat.le_refl _) _⟩

theorem cell_frontB (w : World) (l r : Array Value) (e : TypeId) (fr : Nat × Nat) (k : Nat) (u : Value) (h : l[k]? = some u) : (w.alloc (.cells (l ++ r) e fr)).cell? ⟨w.heap.size, k, none⟩ = some u := by
  have hk : k < l.size := (Array.getElem?_eq_some_iff.1 h).1
  rw [cell_of_row _ _ k (l ++ r) e fr (heap_alloc_new w _), Array.getElem?_append_left hk]
  exact h

theorem conv_bytes (s : ByteArray) (w : World) : ∃ g cap w', (convert 9 65 (.string s)).run Tryd.prog w = .ok (.slice (some ⟨g, 0, none⟩) s.size cap) w' ∧
    (∀ j (hj : j < s.data.toList.length), w'.cell? ((⟨g, 0, none⟩ : Addr).add j) = some (.int .u8 (s.data.toList[j].toNat : Int))) ∧ Below w.heap.size w w' := by
  refine ⟨_, _, _, run_bytes_of_string w 9 65 5 s Tryd.underlying9 Tryd.underlying65 Tryd.underlying5, fun j hj => ?_, ?_⟩
  · rw [Addr.add_lit, Nat.zero_add]

    exact cell_frontB w.drew _ _ _ _ j _ (by simp; exact ⟨s.data[j], by simp, rfl⟩)
  · exact Below.alloc (w := w.drew) (Below.refl _ w).drew (Nat.le_refl _) _

theorem coms_txt {w : World} {g cap : Nat} {cs : List (Int × Int × ByteArray)} (h : ComsAt w (.slice (some ⟨g, 0, none⟩) cs.length cap) cs) (k : Nat) (hk : k < cs.length) :
    w.cell? ⟨g, k * 3 + 2, none⟩ = some (.string (cs.getD k com0).2.2) := by
  obtain ⟨g', cap', hv, _, hc⟩ := h
  cases hv
  have h := com_get cs [] k hk
  rw [List.append_nil] at h
  exact (hc _ (by omega)).trans h.2.2

theorem com_cells {wr w2 w3 : World} {x y : Int} {s : ByteArray} (h : Below (wr.alloc (.cells #[.int .u32 x, .int .u32 y, .string s] 35)).heap.size (wr.alloc (.cells #[.int .u32 x, .int .u32 y, .string s] 35)) w2) (h3 : Below w2.heap.size w2 w3) :
    w3.cell? ⟨wr.heap.size, 0, none⟩ = some (.int .u32 x) ∧ w3.cell? ⟨wr.heap.size, 1, none⟩ = some (.int .u32 y) ∧ Below (wr.alloc (.cells #[.int .u32 x, .int .u32 y, .string s] 35)).heap.size (wr.alloc (.cells #[.int .u32 x, .int .u32 y, .string s] 35)) w3 := by
  have hw := h.trans (h3.mono h.size)
  exact ⟨(hw.cell (p := ⟨wr.heap.size, 0, none⟩) (by simp)).trans (by simp [go_sem]), (hw.cell (p := ⟨wr.heap.size, 1, none⟩) (by simp)).trans (by simp [go_sem]), hw⟩

def Quiet (w : World) (e : Ending) (w' : World) : Prop := e = .returned (.tuple #[]) ∧ Below w.heap.size w w'

set_option maxRecDepth 100000 in
set_option maxHeartbeats 4000000 in
theorem mini_any (P : Nat) (v vs : Value) (line : Int) (cs : List (Int × Int × ByteArray)) (w : World) (hcl : cs.length ≤ 65536) (hp : IsPrn w P true v line) (hcs : ComsAt w vs cs)
    (hsz : ∀ i, i < cs.length → (cs.getD i com0).2.2.size ≤ 1048576) (hno : ∀ i, i < cs.length → ¬ (lineOf (cs.getD i com0).2.1 = 1 ∧ colOf (cs.getD i com0).2.1 = 1)) :
    Calls Tryd.prog 15 #[.pointer (some ⟨P, 0, none⟩), vs] w (Quiet w) := by
  have HCS := Lib.hid hcs
  obtain ⟨g, cap, rfl, hg, -⟩ := hcs
  have c10 := hp.c10
  have HSZ := Lib.hid hsz
  have HNO := Lib.hid hno
  clear hp hsz hno
  have hlz : (0 : Int) ≤ (cs.length : Int) ∧ (cs.length : Int) ≤ 65536 := by omega
  go_enter Tryd.func15, Tryd.ntmps15
  go_wp2_with (first | go_in)
  go_loopw [5, 12] (fun _ i wr => ∃ k : Nat, k ≤ cs.length ∧ i = .int .i64 k ∧ Below w.heap.size w wr) (fun _ i _ => cs.length - (intOf i).toNat)
  case atStart => exact ⟨0, Nat.zero_le _, rfl, Below.refl _ _⟩
  case round =>
    obtain ⟨k, hk, rfl, hbk⟩ := hrel
    by_cases hlt : k < cs.length
    · have hcs' := HCS.out.below hbk
      obtain ⟨z1, z2⟩ := coms_get hcs' k hlt
      have z3 := coms_txt hcs' k hlt
      have hsk := HSZ.out k hlt
      have hnk := HNO.out k hlt
      have HBK := Lib.hid hbk
      clear hcs' hbk
      generalize (cs.getD k com0).1 = x at *
      generalize (cs.getD k com0).2.1 = y at *
      generalize (cs.getD k com0).2.2 = s at *
      have hkz : (k : Int) < (cs.length : Int) := by omega
      obtain ⟨X, hX⟩ : ∃ X : ByteArray, (⟨#[35]⟩ : ByteArray) ++ s = X := ⟨_, rfl⟩
      have hXs : X.size ≤ 4611686018427387904 := by rw [← hX, ByteArray.size_append]; have : (⟨#[35]⟩ : ByteArray).size = 1 := rfl; omega
      obtain ⟨gb, cb, w2, hcv0, hcb, hbb⟩ := conv_bytes X (wr.alloc (.cells #[.int .u32 x, .int .u32 y, .string s] 35))
      have hcv : (convert 9 65 (.string ((⟨#[35]⟩ : ByteArray) ++ s))).run Tryd.prog (wr.alloc (.cells #[.int .u32 x, .int .u32 y, .string s] 35)) = .ok (.slice (some ⟨gb, 0, none⟩) X.size cb) w2 := by rw [hX]; exact hcv0
      clear hcv0 hX
      have HCB := Lib.hid hcb
      have HBB := Lib.hid hbb
      clear hcb hbb
      have hb0 := HBK.out.alloc HBK.out.size (.cells #[.int .u32 x, .int .u32 y, .string s] 35)
      have HB0 := Lib.hid hb0
      clear hb0
      by_cases hcol : colOf y = 1
      · have k1 : (colOf y == 1) = true := by simp [hcol]
        have k2 : (lineOf y == 1) = false := by simp; exact fun h => hnk ⟨h, hcol⟩
        clear hnk hcol
        go_wp2_with (first
          | (go_at_call 27; refine (shebang_any X gb cb w2 hXs HCB.out).mono ?_; rintro e w3 ⟨s3, rfl, hb3⟩; obtain ⟨d0, d1, hw3⟩ := com_cells HBB.out hb3; have HW3 := Lib.hid (HB0.out.trans (hw3.mono HB0.out.size)); clear hw3 hb3)
          | (go_at_call 11; refine (col_of x y _).mono ?_; rintro e w4 ⟨rfl, hb4⟩; have e0 := (hb4.cell (World.block_lt_of_cell? _ _ d0)).trans d0; have e1 := (hb4.cell (World.block_lt_of_cell? _ _ d1)).trans d1; have HW4 := Lib.hid (HW3.out.trans (hb4.mono HW3.out.size)); clear hb4)
          | (go_at_call 10; refine (line_of x y _).mono ?_; rintro e w5 ⟨rfl, hb5⟩; have HW5 := Lib.hid (HW4.out.trans (hb5.mono HW4.out.size)); clear hb5)
          | (go_at_call 23; go_in))
        all_goals
          go_roundw
          case rel => exact ⟨k + 1, by omega, by go_num, by first | exact HW5.out | exact HW4.out | exact HW3.out⟩
          case measure => simp [intOf]; omega
      · have k1 : (colOf y == 1) = false := by simp [hcol]
        clear hnk hcol
        go_wp2_with (first
          | (go_at_call 27; refine (shebang_any X gb cb w2 hXs HCB.out).mono ?_; rintro e w3 ⟨s3, rfl, hb3⟩; obtain ⟨d0, d1, hw3⟩ := com_cells HBB.out hb3; have HW3 := Lib.hid (HB0.out.trans (hw3.mono HB0.out.size)); clear hw3 hb3)
          | (go_at_call 11; refine (col_of x y _).mono ?_; rintro e w4 ⟨rfl, hb4⟩; have HW4 := Lib.hid (HW3.out.trans (hb4.mono HW3.out.size)); clear hb4)
          | (go_at_call 23; go_in))
        all_goals
          go_roundw
          case rel => exact ⟨k + 1, by omega, by go_num, by first | exact HW4.out | exact HW3.out⟩
          case measure => simp [intOf]; omega
    · obtain rfl : k = cs.length := by omega
      go_wp2
      refine bodyPost_ret (results_none rfl _ _ _) rfl ?_
      go_wp2
      go_end0
      exact ⟨rfl, hbk⟩
end Go.Proofs.YtelflagehingoaaDoor
