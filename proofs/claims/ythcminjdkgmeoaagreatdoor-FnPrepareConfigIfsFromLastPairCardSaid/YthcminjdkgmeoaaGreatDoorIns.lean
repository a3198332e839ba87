/-
  The stable sort: insertion.
-/
import Derived.Test.YthcminjdkgmeoaaGreatDoorRot
namespace Go.Proofs.YthcminjdkgmeoaaGreatDoor
open Go.RowKit
set_option linter.unusedVariables false

/-- The pairs' comparison, a closure over the environment in block eb. -/
abbrev cmpV (eb : Nat) : Value := .func (.func 15) #[] #[.pointer (some ⟨eb, 0, none⟩)]
def CmpOk (w0 : World) (P eb : Nat) (S : Nat → List UInt8) : Prop := ∀ (w : World) (x y : Nat), KeptP P w0 w → Calls Tryz.prog 15 #[strL (S x), strL (S y), .pointer (some ⟨eb, 0, none⟩)] w fun e w' => e = .returned (.int .i64 (Lib.compareBytes (Stb.key (S x)) (Stb.key (S y)))) ∧ Below w.heap.size w w'
abbrev ltS (S : Nat → List UInt8) : Nat → Nat → Bool := Stb.ltT (Stb.kltS S)
theorem kept_drewP (P : Nat) (w : World) : KeptP P w w.drew := ⟨fun _ _ _ => rfl, Nat.le_refl _, rfl, rfl, rfl⟩
theorem below_of_drew {w w' : World} (h : Below w.drew.heap.size w.drew w') : Below w.heap.size w w' := ⟨h.os, h.tape, h.output, h.size, h.block⟩

set_option maxRecDepth 100000 in
set_option maxHeartbeats 1000000 in
theorem ins_any (w0 w : World) (P n eb : Nat) (S : Nat → List UInt8) (p : Nat → Nat) (a b c : Nat) (h : SA w0 P n S p w) (hC : CmpOk w0 P eb S) (hinc : Stb.Inc a b p) (hab : a ≤ b) (hb : b ≤ n) (hn : n ≤ 100000000) :
    Calls Tryz.prog 33 #[.slice (some ⟨P, 0, none⟩) n c, .int .i64 (a : Int), .int .i64 (b : Int), cmpV eb] w fun e w' => e = .returned (.tuple #[]) ∧ ∃ q, SA w0 P n S q w' ∧ Stb.Shuf a b p q ∧ Stb.Sorted (ltS S) a b q := by
  have H0 := Lib.hid (And.intro (Stb.InsI.start (lt := ltS S) a p) h)
  have HC := Lib.hid hC
  have HINC := Lib.hid hinc
  have hz : (a : Int) ≤ (b : Int) ∧ (b : Int) ≤ (n : Int) ∧ (n : Int) ≤ 100000000 := by omega
  have HO := Lib.hid (Stb.ord_of (Stb.wk_kltS S))
  clear h hC hinc
  go_enter Tryz.func33, Tryz.ntmps33
  go_wp2_with fail
  go_loopg [8] (b - (a + 1)) (fun gk s8 wr => ∃ (i : Nat) (q : Nat → Nat), s8 = .int .i64 (i : Int) ∧ a + 1 ≤ i ∧ (i ≤ b ∨ i = a + 1) ∧ gk = b - i ∧ Hid ((i = a + 1 → q = p) ∧ Stb.InsI (ltS S) a i p q ∧ SA w0 P n S q wr))
  case atStart => exact ⟨a + 1, p, by go_num, Nat.le_refl _, Or.inr rfl, rfl, Lib.hid (And.intro (fun _ => rfl) H0.out)⟩
  case round =>
    obtain ⟨i, q, rfl, hi1, hi2, rfl, HX⟩ := hrel
    by_cases hib : i < b
    · have hibz : (i : Int) < (b : Int) := by omega
      have hiz : (a : Int) + 1 ≤ (i : Int) := by omega
      have HJ := Lib.hid (And.intro (HX.out.2.1.inner HINC.out (by omega) hib) HX.out.2.2)
      go_wp2_with fail
      go_loopg [9] (i - a) (fun gk s9 wj => ∃ (j : Nat) (q : Nat → Nat), s9 = .int .i64 (j : Int) ∧ a ≤ j ∧ j ≤ i ∧ gk = j - a ∧ Hid (Stb.InsJ (ltS S) a i j p q ∧ SA w0 P n S q wj))
      case atStart => exact ⟨i, q, rfl, by omega, Nat.le_refl _, rfl, HJ⟩
      case round =>
        obtain ⟨j, q2, rfl, hj1, hj2, rfl, HY⟩ := hrel
        by_cases haj : a < j
        · have hajz : (a : Int) < (j : Int) := by omega
          have hjz : (j : Int) ≤ (i : Int) := by omega
          obtain ⟨y, hy⟩ : ∃ y, j - 1 = y := ⟨_, rfl⟩
          have hwy : IntKind.i64.wrap ((j : Int) - 1) = (y : Int) := by rw [wrap_small (by omega) (by omega)]; omega
          have hyn : y < n := by omega
          have hjn : j < n := by omega
          have hjy : j ≠ y := by omega
          have hyz : (y : Int) < (n : Int) := by omega
          have hjnz : (j : Int) < (n : Int) := by omega
          have cj := HY.out.2.cell hjn
          have cy := HY.out.2.cell hyn
          have hlt : ltS S (p i) (q2 y) = decide (Lib.compareBytes (Stb.key (S (q2 j))) (Stb.key (S (q2 y))) < 0) := by
            have h1 := HY.out.1.tag y (by omega) (by omega) (by omega)
            unfold ltS
            rw [Stb.ltT_hi (by omega), HY.out.1.at_]
            rfl
          have hlt2 : ltS S (q2 y) (p i) = !decide (Lib.compareBytes (Stb.key (S (q2 j))) (Stb.key (S (q2 y))) < 0) := by
            have h1 := HY.out.1.tag y (by omega) (by omega) (by omega)
            unfold ltS
            rw [Stb.ltT_lo (by omega), HY.out.1.at_]
            rfl
          have HC2 := Lib.hid (fun (w1 : World) (k : SA w0 P n S q2 w1) => HC.out w1 (q2 j) (q2 y) k.kept)
          obtain ⟨v, hv⟩ : ∃ v, Lib.compareBytes (Stb.key (S (q2 j))) (Stb.key (S (q2 y))) = v := ⟨_, rfl⟩
          rw [hv] at HC2 hlt hlt2
          clear hv
          by_cases hv0 : v < 0
          · have HSTEP : Hid (Stb.InsJ (ltS S) a i y p (Stb.swap q2 j y)) := Lib.hid (by
              rw [← hy] at hlt ⊢
              exact HY.out.1.step haj (by rw [hlt]; simp [hv0]))
            have HB := Lib.hid (And.intro hjn (And.intro hyn hjy))
            clear hlt hlt2
            go_upto_region 4 with fail
            go_region_held3 (fun w' => w'.cell? ⟨P, j, none⟩ = some (strL (S (q2 j))) ∧ w'.cell? ⟨P, y, none⟩ = some (strL (S (q2 y))) ∧ SA w0 P n S q2 w')
              (first
                | (go_keep; done)
                | exact ⟨cj, cy, HY.out.2.drew⟩
                | (go_split_ands
                   have hh := SA.below (by assumption) hq
                   exact ⟨hh.cell HB.out.1, hh.cell HB.out.2.1, hh⟩))
              (first | (go_at_call 15; go_split_ands; rename_i hsa; refine (HC2.out _ hsa).mono ?_; rintro e w2 ⟨rfl, hq⟩))
            have hh : w2.cell? ⟨P, j, none⟩ = some (strL (S (q2 j))) ∧ w2.cell? ⟨P, y, none⟩ = some (strL (S (q2 y))) ∧ SA w0 P n S q2 w2 := by assumption
            have H2 := Lib.hid hh.2.2
            have dj := hh.1
            have dy := hh.2.1
            have fj := H2.out.frz j
            have fy := H2.out.frz y
            clear hh hq
            go_upto_region 6 with fail
            go_region_law (fail)
            all_goals
              go_wp2_with fail
              go_roundg (y - a)
              case measure => omega
              case rel => exact ⟨y, _, by first | rfl | go_num | (congr 1; omega), by omega, by omega, rfl, Lib.hid (And.intro HSTEP.out (by first | exact (SA.swap H2.out.drew HB.out.1 HB.out.2.1 HB.out.2.2) | exact (SA.swap2 H2.out.drew HB.out.1 HB.out.2.1 HB.out.2.2) | exact (SA.swap H2.out HB.out.1 HB.out.2.1 HB.out.2.2).drew | exact (SA.swap2 H2.out HB.out.1 HB.out.2.1 HB.out.2.2).drew))⟩
          · have HFIN : Hid (Stb.InsI (ltS S) a (i + 1) p q2) := Lib.hid (HY.out.1.fin HO.out (Or.inr (by rw [hy, hlt2]; simp [hv0])))
            have HB := Lib.hid (And.intro hjn (And.intro hyn hjy))
            clear hlt hlt2
            go_upto_region 4 with fail
            go_region_held3 (fun w' => w'.cell? ⟨P, j, none⟩ = some (strL (S (q2 j))) ∧ w'.cell? ⟨P, y, none⟩ = some (strL (S (q2 y))) ∧ SA w0 P n S q2 w')
              (first
                | (go_keep; done)
                | exact ⟨cj, cy, HY.out.2.drew⟩
                | (go_split_ands
                   have hh := SA.below (by assumption) hq
                   exact ⟨hh.cell HB.out.1, hh.cell HB.out.2.1, hh⟩))
              (first | (go_at_call 15; go_split_ands; rename_i hsa; refine (HC2.out _ hsa).mono ?_; rintro e w2 ⟨rfl, hq⟩))
            have hh : w2.cell? ⟨P, j, none⟩ = some (strL (S (q2 j))) ∧ w2.cell? ⟨P, y, none⟩ = some (strL (S (q2 y))) ∧ SA w0 P n S q2 w2 := by assumption
            have H2 := Lib.hid hh.2.2
            clear hh hq
            go_wp2_with fail
            go_roundg (b - (i + 1))
            case measure => omega
            case rel => exact ⟨i + 1, q2, by go_num, by omega, by omega, rfl, Lib.hid (And.intro (fun e => by omega) (And.intro HFIN.out H2.out))⟩
        · have haj2 : decide ((a : Int) < (j : Int)) = false := by simp; omega
          have HFIN : Hid (Stb.InsI (ltS S) a (i + 1) p q2) := Lib.hid (HY.out.1.fin HO.out (Or.inl (by omega)))
          go_upto_region 4 with fail
          go_quiet (fail)
          have H2 := Lib.hid (HY.out.2.below (below_drewN (Below.refl wr.heap.size wr) nq))
          go_wp2_with fail
          go_roundg (b - (i + 1))
          case measure => omega
          case rel => exact ⟨i + 1, q2, by go_num, by omega, by omega, rfl, Lib.hid (And.intro (fun e => by omega) (And.intro HFIN.out H2.out))⟩
    · have hibz : ¬ (i : Int) < (b : Int) := by omega
      go_wp2_with fail
      go_end0
      refine ⟨rfl, q, HX.out.2.2, ?_, ?_⟩
      · rcases hi2 with h | h
        · have e : i = b := by omega
          exact e ▸ HX.out.2.1.shuf
        · rw [HX.out.1 h]
          exact Stb.Shuf.refl _ _ _
      · rcases hi2 with h | h
        · have e : i = b := by omega
          exact e ▸ HX.out.2.1.srt
        · intro k l k1 k2 k3
          omega
end Go.Proofs.YthcminjdkgmeoaaGreatDoor
