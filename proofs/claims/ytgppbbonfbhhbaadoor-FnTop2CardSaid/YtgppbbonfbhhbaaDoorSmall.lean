/-
  The walks: the law's own small functions: which characters separate, does one, is a part blank.
-/
import Derived.Test.YtgppbbonfbhhbaaDoorPrep
import Derived.Deep.LoopGhost
namespace Go.Proofs.YtgppbbonfbhhbaaDoor
open Go.RowKit Rf

/-- The separating characters by their number; are they given. -/
def ifsAt (k : Int) : ByteArray := if k = 0 then ⟨#[32, 9, 10]⟩ else if k = 1 then ⟨#[]⟩ else if k = 2 then ⟨#[58]⟩ else if k = 3 then ⟨#[58, 32]⟩ else if k = 4 then ⟨#[195, 169, 120]⟩ else if k = 5 then ⟨#[32, 9, 10]⟩ else ⟨#[49, 121, 58]⟩
def sepAt (k : Int) : Bool := !(k == 0)
theorem ifs_given (k : Int) : ifsOf (ifsAt k) (sepAt k) = ifsAt k := by
  unfold ifsOf sepAt ifsAt
  by_cases h : k = 0
  · subst h; rfl
  · have : (k == 0) = false := by simp [h]
    rw [this]
    rfl
theorem ifs_bs (k : Int) : among (ifsAt k) 92 = false := by
  unfold ifsAt
  split
  · decide +kernel
  split
  · decide +kernel
  split
  · decide +kernel
  split
  · decide +kernel
  split
  · decide +kernel
  split
  · decide +kernel
  · decide +kernel

def SepOut (g : Nat) (k : Int) (w : World) (e : Ending) (w' : World) : Prop := e = .returned (.tuple #[]) ∧ IsZEnv w' g (ifsAt k) (sepAt k) ∧ Below g w w'

theorem sep_state {w : World} {g : Nat} {a : Value} {i : ByteArray} {b : Bool} (c5 : w.cell? ⟨g, 5, none⟩ = some a) (c6 : w.cell? ⟨g, 6, none⟩ = some (.bool b)) : IsZEnv (w.setCell ⟨g, 5, none⟩ (.string i)) g i b :=
  ⟨World.cell?_setCell_same _ _ _ c5, by rw [World.cell?_setCell_other _ _ _ _ (by intro e; cases e)]; exact c6⟩

theorem below_set {g : Nat} {w w' : World} (h : Below g w w') (o : Nat) (v : Value) : Below g w (w'.setCell ⟨g, o, none⟩ v) := h.setCell (p := ⟨g, o, none⟩) (Nat.le_refl g) v

set_option maxRecDepth 100000 in
set_option maxHeartbeats 1000000 in
theorem sep_any (h : Int) (g : Nat) (w : World) (h0 : 0 ≤ h) (h1 : h ≤ 255) (c5 : w.cell? ⟨g, 5, none⟩ = some (.string ⟨#[]⟩)) (c6 : w.cell? ⟨g, 6, none⟩ = some (.bool false)) (f5 : w.frozen? ⟨g, 5, none⟩ = false) (f6 : w.frozen? ⟨g, 6, none⟩ = false) :
    Calls Tryd.prog 5 #[.pointer (some ⟨g, 0, none⟩), .int .i64 h] w (SepOut g (h % 7) w) := by
  have d5 : (w.setCell ⟨g, 6, none⟩ (.bool true)).cell? ⟨g, 5, none⟩ = some (.string ⟨#[]⟩) := by rw [World.cell?_setCell_other _ _ _ _ (by intro e; cases e)]; exact c5
  have d6 : (w.setCell ⟨g, 6, none⟩ (.bool true)).cell? ⟨g, 6, none⟩ = some (.bool true) := World.cell?_setCell_same _ _ _ c6
  have e5 : ((w.setCell ⟨g, 6, none⟩ (.bool true)).setCell ⟨g, 6, none⟩ (.bool false)).cell? ⟨g, 5, none⟩ = some (.string ⟨#[]⟩) := by rw [World.cell?_setCell_other _ _ _ _ (by intro e; cases e)]; exact d5
  have e6 : ((w.setCell ⟨g, 6, none⟩ (.bool true)).setCell ⟨g, 6, none⟩ (.bool false)).cell? ⟨g, 6, none⟩ = some (.bool false) := World.cell?_setCell_same _ _ _ d6
  obtain ⟨k, hk⟩ : ∃ k, h % 7 = k := ⟨_, rfl⟩
  have hkr : k = 0 ∨ k = 1 ∨ k = 2 ∨ k = 3 ∨ k = 4 ∨ k = 5 ∨ k = 6 := by omega
  rw [hk]
  rcases hkr with rfl | rfl | rfl | rfl | rfl | rfl | rfl
  all_goals
    go_enter Tryd.func5, Tryd.ntmps5
    go_wp2
    go_end0
    refine ⟨rfl, ?_, ?_⟩
    · first
        | exact sep_state d5 d6
        | exact sep_state e5 e6
    · first
        | exact below_set (below_set (Below.refl g w) 6 _) 5 _
        | exact below_set (below_set (below_set (Below.refl g w) 6 _) 6 _) 5 _

theorem cuts_any (ifs : ByteArray) (sep : Bool) (r : Int) (g : Nat) (w : World) (hz : IsZEnv w g ifs sep) :
    Calls Tryd.prog 6 #[.pointer (some ⟨g, 0, none⟩), .int .i32 r] w fun e w' => e = .returned (.bool (among ifs r)) ∧ Below w.heap.size w w' := by
  have c5 := hz.c5
  clear hz
  go_enter Tryd.func6, Tryd.ntmps6
  go_wp2
  go_loopw [6] (fun _ wr => Looks ifs r w wr) (fun _ wr => ifs.size - wr.iterPos w.heap.size)
  case atStart => exact looks_start ifs _ w
  case round =>
    obtain ⟨pos, hit, hb, hso⟩ := hrel
    have hsz : w.heap.size < wr.heap.size := (Array.getElem?_eq_some_iff.1 hit).1
    have HS := Lib.hid hso
    clear hso
    by_cases hp : pos < ifs.size
    · have hnx : ∀ ty, (Instr.next (.pointer (some ⟨w.heap.size, 0, none⟩)) true ty).run Tryd.prog wr = _ := fun ty => Lib.run_next_any_at wr w.heap.size ifs pos ty hit hp
      have hwd := width_pos ifs pos hp
      have hit2 := Lib.iterAt_heap wr w.heap.size ifs pos (pos + (Utf8.decode ifs pos).2) hit
      have hb2 := Lib.below_iterAt hb (k := w.heap.size) (Nat.le_refl _) ifs (pos + (Utf8.decode ifs pos).2)
      by_cases hr : ((Utf8.decode ifs pos).1 : Int) = r
      · have hr1 : (((Utf8.decode ifs pos).1 : Int) == r) = true := by simp [hr]
        have HR := Lib.hid hr
        clear hr
        go_wp2
        go_ret
        exact ⟨by rw [sofar_hit ifs _ pos hp HS.out HR.out]; rfl, hb2⟩
      · have hr1 : (((Utf8.decode ifs pos).1 : Int) == r) = false := by simp; omega
        have HR := Lib.hid hr
        clear hr
        go_wp2
        go_roundw
        case rel => exact ⟨_, hit2, hb2, sofar_step ifs _ pos hp HS.out HR.out⟩
        case measure => simp only [World.iterPos, hit2, hit]; omega
    · have hnx : ∀ ty, (Instr.next (.pointer (some ⟨w.heap.size, 0, none⟩)) true ty).run Tryd.prog wr = _ := fun ty => Lib.run_next_end_at wr w.heap.size ifs pos ty hit hp
      go_wp2
      go_ret
      exact ⟨by rw [sofar_end ifs _ pos hp HS.out]; rfl, hb⟩
end Go.Proofs.YtgppbbonfbhhbaaDoor
