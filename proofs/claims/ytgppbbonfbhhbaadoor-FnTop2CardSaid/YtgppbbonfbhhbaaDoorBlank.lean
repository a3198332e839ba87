/-
  The walk: is a part of the units blank.
-/
import Derived.Test.YtgppbbonfbhhbaaDoorLoop2
namespace Go.Proofs.YtgppbbonfbhhbaaDoor
open Go.RowKit Rf

/-- Is the unit white space that separates? -/
def blank (sep : Int → Bool) (t : Tok) : Bool := !solid sep t && isWS t.r

/-- Units that lie from a place on. -/
def UnitsAt (w : World) (g off : Nat) (sep : Int → Bool) (ts : List Tok) : Prop := ∀ k, k < ts.length →
  w.cell? ⟨g, off + k * 3, none⟩ = some (.string (unitS (ts.getD k tok0))) ∧ w.cell? ⟨g, off + k * 3 + 1, none⟩ = some (.bool (!solid sep (ts.getD k tok0))) ∧ w.cell? ⟨g, off + k * 3 + 2, none⟩ = some (.bool (blank sep (ts.getD k tok0)))

set_option maxHeartbeats 1000000 in
theorem blank_any (sep : Int → Bool) (ts : List Tok) (g off c : Nat) (w : World) (hl : ts.length ≤ 1048577) (hg : g < w.heap.size) (hu : UnitsAt w g off sep ts) :
    Calls Tryd.prog 7 #[.slice (some ⟨g, off, none⟩) ts.length c] w fun e w' => e = .returned (.bool (ts.all (blank sep))) ∧ Below w.heap.size w w' := by
  have HU := Lib.hid hu
  clear hu
  have hlz : (0 : Int) ≤ (ts.length : Int) ∧ (ts.length : Int) ≤ 1048577 := by omega
  go_enter Tryd.func7, Tryd.ntmps7
  go_wp2
  go_loopw [4, 7] (fun _ i wr => ∃ k : Nat, k ≤ ts.length ∧ i = .int .i64 k ∧ Below w.heap.size w wr ∧ Hid (ts.all (blank sep) = (ts.drop k).all (blank sep))) (fun _ i _ => ts.length - (intOf i).toNat)
  case atStart => exact ⟨0, Nat.zero_le _, rfl, Below.refl _ _, Lib.hid rfl⟩
  case round =>
    obtain ⟨k, hk, rfl, hb, hall⟩ := hrel
    by_cases hlt : k < ts.length
    · have hkz : (k : Int) < (ts.length : Int) := by omega
      obtain ⟨u1, u2, u3⟩ := HU.out k hlt
      have q1 := (hb.cell (p := ⟨g, off + k * 3, none⟩) hg).trans u1
      have q2 := (hb.cell (p := ⟨g, off + k * 3 + 1, none⟩) hg).trans u2
      have q3 := (hb.cell (p := ⟨g, off + k * 3 + 2, none⟩) hg).trans u3
      have hd : ts.drop k = ts.getD k tok0 :: ts.drop (k + 1) := by rw [List.drop_eq_getElem_cons hlt]; simp [List.getD, hlt]
      have HD := Lib.hid hd
      have HB := Lib.hid hb
      have hzr := hb.size
      clear u1 u2 u3 hd hb
      generalize ts.getD k tok0 = t at *
      generalize unitS t = x1 at q1
      generalize (!solid sep t) = x2 at q2
      cases hbl : blank sep t
      · rw [hbl] at q3
        have HBL := Lib.hid hbl
        clear hbl
        go_wp2
        go_ret
        exact ⟨by rw [hall.out, HD.out, List.all_cons, HBL.out]; rfl, HB.out.alloc hzr _⟩
      · rw [hbl] at q3
        have HBL := Lib.hid hbl
        clear hbl
        go_wp2
        go_roundw
        case rel => exact ⟨k + 1, by omega, by go_num, HB.out.alloc hzr _, Lib.hid (by rw [hall.out, HD.out, List.all_cons, HBL.out]; rfl)⟩
        case measure => simp [intOf]; omega
    · obtain rfl : k = ts.length := by omega
      go_wp2
      go_ret
      exact ⟨by rw [hall.out, List.drop_length]; rfl, hb⟩
end Go.Proofs.YtgppbbonfbhhbaaDoor
