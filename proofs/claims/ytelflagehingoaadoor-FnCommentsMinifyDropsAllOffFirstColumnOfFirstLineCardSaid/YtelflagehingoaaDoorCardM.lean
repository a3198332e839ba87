/-
  'FnCommentsMinifyDropsAllOffFirstColumnOfFirstLine' returns true for every input and leaves its arguments as they were: the row's statement and its card.
-/
import Derived.Test.YtelflagehingoaaDoorLawM
import Derived.Test.YtelflagehingoaaDoorLift
import Derived.Test.YtelflagehingoaaDoorCards
import Derived.Test.YtelflagehingoaaDoorTie
import Derived.Ground.NamesProg
import Derived.SevenTiedAt
namespace Go.Proofs.YtelflagehingoaaDoor.fnCommentsMinifyDropsAllOffFirstColumnOfFirstLine
open Go.ChangeShapes Go.WideShapes Go.ChangeAt Go.RowKit

set_option maxRecDepth 100000 in
theorem lifted (os : Os) (started : os.Started) (H : Type) (enc : TypeId × Value → H) :
    ReturnsInHanded {} Tryd.checked os 3 .any (fun w args => (Rows.fnCommentsMinifyDropsAllOffFirstColumnOfFirstLineSpec.pre enc Tryd.prog Tryd.f3 [] false w args ∧ laidMetH Tryd.prog laid w) ∧ sizedMet enc Tryd.prog Tryd.f3 (OpenSpec.ofChange Rows.fnCommentsMinifyDropsAllOffFirstColumnOfFirstLineSpec) false w args)
      (Rows.fnCommentsMinifyDropsAllOffFirstColumnOfFirstLineSpec.post enc Tryd.prog Tryd.f3 false true false false) := by
  refine returnsInHanded_of_change_and (C := Tryd.checked) (X := fun w _ => laidMetH Tryd.prog laid w) (fun _ _ _ hh h => h.of_heap hh) own started (by kernel_rfl) Tryd.func3
    (ChangeSpec.witness_shaped (enc := enc) (C := Tryd.checked) (os := os) (X := fun w _ => laidMetH Tryd.prog laid w) false (World.laidAll Tryd.prog os laid) #[.slice none 0 0, .slice none 0 0, .slice none 0 0] 8 (World.laidAll_os _ _ _)
      (World.shaped_of_ZipB (by kernel_rfl) (by kernel_rfl)) (by kernel_rfl) (by kernel_rfl) (by kernel_rfl)
      (by rw [MakeChecks.laidMetH_plain _ _ _ (by kernel_rfl)]; exact laidMet_laidAll _ (by kernel_rfl) (by kernel_rfl))) ?_
  intro W base args ds gs before hval0 hW _ _ _ _
  have hval : ∀ (j : Nat) t v, Tryd.f3.params[j]? = some t → args[j]? = some v → Value.okWide Tryd.prog W .any base t v := hval0
  have hW' := hW
  obtain ⟨p, q, hA0, hV, rfl, _, _⟩ := hW
  have hA : DataW.TrodAll enc Tryd.prog W 0 (fun _ => true) true Tryd.f3.params.toList args.toList ds p := hA0
  rw [Tryd.params3] at hA hval
  obtain ⟨v0, vs0, d0, ds0, p0, q0, hargs, rfl, rfl, h0, r0⟩ := trodAll_cons hA
  obtain ⟨v1, vs1, d1, ds1, p1, q1, rfl, rfl, rfl, h1, r1⟩ := trodAll_cons r0
  obtain ⟨v2, vs2, d2, ds2, p2, q2, rfl, rfl, rfl, h2, r2⟩ := trodAll_cons r1
  obtain ⟨rfl, rfl, rfl⟩ := trodAll_nil r2
  obtain rfl : args = #[v0, v1, v2] := by cases args; simp_all
  obtain ⟨rfl, rfl⟩ := trodVars_none hV
  have hlt : ∀ x ∈ p0 ++ (p1 ++ (p2 ++ [])), x.block < W.heap.size := fun x hx => by simpa using hW'.lt x (by simpa using hx)
  obtain ⟨t1, hT1, m0⟩ := strs_of (hval 0 22 v0 rfl rfl) h0
  obtain ⟨l1, hL1, m1⟩ := nums_of (hval 1 23 v1 rfl rfl) h1
  obtain ⟨l2, hL2, m2⟩ := nums_of (hval 2 23 v2 rfl rfl) h2
  clear hA0 hval0
  refine (lawM_all v0 v1 v2 t1 l1 l2 W m0 m1 m2 hT1 hL1 hL2).mono fun e W' ⟨he, bel⟩ => ?_
  subst he
  have k0 := carry_strs h0 bel (fun x hx => hlt x (by simp [hx]))
  have k1 := carry_nums h1 bel (fun x hx => hlt x (by simp [hx]))
  have k2 := carry_nums h2 bel (fun x hx => hlt x (by simp [hx]))
  exact ⟨_, rfl, _, _, _, [], p0 ++ (p1 ++ (p2 ++ [])), [], hW', trodAll_mk1 (shut_bool Tryd.underlying4 _), (trodAll_cons_mk k0 (trodAll_cons_mk k1 (trodAll_cons_mk k2 trodAll_mk0))), rfl, bel.frame _, fun h => by cases h⟩

theorem over : Rows.FnCommentsMinifyDropsAllOffFirstColumnOfFirstLineSaid :=
  OpenClaim.holds_of_wide 3 Tryd.f3 rfl rfl rfl rfl rfl rfl rfl ⟨rfl, rfl, rfl, rfl, rfl⟩ rfl rfl rfl rfl rfl (by kernel_rfl) Tryd.func3 (by kernel_rfl)
    (of_decide_eq_true (by kernel_rfl)) (by unfold Func.isWrapper; first | (rw [if_pos (by decide +kernel)]; kernel_rfl) | (rw [if_neg (by decide +kernel)]; exact ⟨rfl, rfl⟩))
    (fun os started H enc _ => lifted os started H enc)

theorem proved : Rows.FnCommentsMinifyDropsAllOffFirstColumnOfFirstLineCardSaid :=
  Claim7.holds_tied_plain_at .later [] [.data, .listed, .pinned] true (true, "5f9ec453c28578e58c2565f2e4dd6da438c41e32918ffe53a2d5fc5a39e94e45") true over (fun _ h => by cases h) (by kernel_rfl) (fun _ h => by cases h) fnCommentsMinifyDropsAllOffFirstColumnOfFirstLine_row_tie rfl ⟨rfl, rfl⟩ (by kernel_rfl) rfl
    (fun f fn hf hfn => by
      obtain rfl : f = 3 := Option.some.inj ((show Tryd.prog.funcNamed "mvdan.cc/sh/v3/n010_150.FnCommentsMinifyDropsAllOffFirstColumnOfFirstLine" = some 3 by kernel_rfl).symm.trans hf) |>.symm
      obtain rfl : fn = Tryd.f3 := (Option.some.inj (Tryd.func3.symm.trans hfn)).symm
      exact ⟨by kernel_rfl, fun j t ht => by
        rw [Tryd.params3] at ht
        have hm : t ∈ [22, 23, 23] := by simpa using Array.mem_of_getElem? ht
        have hall : ([22, 23, 23].all fun u => !Tryd.prog.wantsStandIn u) = true := by kernel_rfl
        exact (show Tryd.prog.wantsStandIn t = false by simpa using List.all_eq_true.1 hall t hm)⟩)
    (by kernel_rfl)
#print axioms proved
end Go.Proofs.YtelflagehingoaaDoor.fnCommentsMinifyDropsAllOffFirstColumnOfFirstLine
