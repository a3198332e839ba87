/-
  The walk of the law 'FnCommentsQueuesAllInOrder': every case.
-/
import Derived.Test.YtelflagehingoaaDoorLawQ
namespace Go.Proofs.YtelflagehingoaaDoor
open Go.RowKit

set_option maxRecDepth 100000 in
set_option maxHeartbeats 4000000 in
theorem lawQ_all (v0 v1 v2 v3 : Value) (t1 t2 : List ByteArray) (l1 l2 : List Int) (w : World) (m0 : t1.length ≤ maxLen) (m1 : l1.length ≤ maxLen) (m2 : t2.length ≤ maxLen) (m3 : l2.length ≤ maxLen)
    (hT1 : StrsAt w v0 t1) (hL1 : NumsAt w v1 l1) (hT2 : StrsAt w v2 t2) (hL2 : NumsAt w v3 l2) : Calls Tryd.prog 4 #[v0, v1, v2, v3] w fun e w' => e = .returned (.bool true) ∧ Below w.heap.size w w' := by
  by_cases hall : t1.length ≤ 65536 ∧ t2.length ≤ 65536 ∧ l1.length = t1.length ∧ l2.length = t2.length
  · exact lawQ_main v0 v1 v2 v3 t1 t2 l1 l2 w hall.1 hall.2.1 hall.2.2.1 hall.2.2.2 hT1 hL1 hT2 hL2
  have hby := bytesQ_any v0 v1 v2 v3 t1 t2 l1 l2 w m0 m2 hT1 hL1 hT2 hL2
  have HBY := Lib.hid hby
  have hs1 : t1.length ≤ 65536 → Calls Tryd.prog 6 #[v0] w (SomeInt w) := fun h => strBytes_any v0 t1 w h hT1
  have hs2 : t2.length ≤ 65536 → Calls Tryd.prog 6 #[v2] w (SomeInt w) := fun h => strBytes_any v2 t2 w h hT2
  have HS1 := Lib.hid hs1
  have HS2 := Lib.hid hs2
  obtain ⟨a0, cap0, rfl, -⟩ := hT1
  obtain ⟨a1, cap1, rfl, -⟩ := hL1
  obtain ⟨a2, cap2, rfl, -⟩ := hT2
  obtain ⟨a3, cap3, rfl, -⟩ := hL2
  unfold maxLen at m0 m1 m2 m3
  clear hby hs1 hs2
  have HALL := Lib.hid hall
  clear hall
  by_cases h0 : t1.length ≤ 65536
  · by_cases h1 : l1.length ≤ 65536
    · by_cases h2 : t2.length ≤ 65536
      · by_cases h3 : l2.length ≤ 65536
        · by_cases e1 : t1.length = l1.length
          · have e2 : t2.length ≠ l2.length := fun e2 => HALL.out ⟨h0, h2, e1.symm, e2.symm⟩
            have c1 : ((t1.length : Int) != (l1.length : Int)) = false := by simp [e1]
            have c2 : ((t2.length : Int) != (l2.length : Int)) = true := by simp; omega
            clear e1 e2
            go_enter Tryd.func4, Tryd.ntmps4
            go_wp2_with (first
              | (go_at_call 16; refine (HBY.out).mono ?_; rintro e w' ⟨b, rfl, rfl⟩)
              | (go_at_call 6; first | (refine (HS1.out h0).mono ?_; rintro e w' ⟨x1, rfl, rfl⟩; clear HS1) | (refine (HS2.out h2).mono ?_; rintro e w' ⟨x2, rfl, rfl⟩)))
            all_goals (go_ret; exact ⟨rfl, Below.refl _ _⟩)
          · have c1 : ((t1.length : Int) != (l1.length : Int)) = true := by simp; omega
            clear e1
            go_enter Tryd.func4, Tryd.ntmps4
            go_wp2_with (first
              | (go_at_call 16; refine (HBY.out).mono ?_; rintro e w' ⟨b, rfl, rfl⟩)
              | (go_at_call 6; first | (refine (HS1.out h0).mono ?_; rintro e w' ⟨x1, rfl, rfl⟩; clear HS1) | (refine (HS2.out h2).mono ?_; rintro e w' ⟨x2, rfl, rfl⟩)))
            all_goals (go_ret; exact ⟨rfl, Below.refl _ _⟩)
        · go_enter Tryd.func4, Tryd.ntmps4
          go_wp2_with (go_at_call 16; refine (HBY.out).mono ?_; rintro e w' ⟨b, rfl, rfl⟩)
          all_goals (go_ret; exact ⟨rfl, Below.refl _ _⟩)
      · go_enter Tryd.func4, Tryd.ntmps4
        go_wp2_with (go_at_call 16; refine (HBY.out).mono ?_; rintro e w' ⟨b, rfl, rfl⟩)
        all_goals (go_ret; exact ⟨rfl, Below.refl _ _⟩)
    · go_enter Tryd.func4, Tryd.ntmps4
      go_wp2_with (go_at_call 16; refine (HBY.out).mono ?_; rintro e w' ⟨b, rfl, rfl⟩)
      all_goals (go_ret; exact ⟨rfl, Below.refl _ _⟩)
  · go_enter Tryd.func4, Tryd.ntmps4
    go_wp2_with (go_at_call 16; refine (HBY.out).mono ?_; rintro e w' ⟨b, rfl, rfl⟩)
    all_goals (go_ret; exact ⟨rfl, Below.refl _ _⟩)
end Go.Proofs.YtelflagehingoaaDoor
