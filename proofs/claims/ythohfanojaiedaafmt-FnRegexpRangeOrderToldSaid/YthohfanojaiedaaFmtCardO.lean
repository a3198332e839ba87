/-
  'FnRegexpRangeOrder' returns true for every input and leaves its arguments as they were: the row's statement and its card (fmt's text told, the listed variables tied).
-/
import Derived.Test.YthohfanojaiedaaFmtLawO
import Derived.Test.YthohfanojaiedaaFmtCards
import Derived.Test.YthohfanojaiedaaFmtTie
import Derived.Ground.NamesProg
import Derived.ProofKit
import Derived.OpenShut
import Derived.ShutString
import Derived.ChangeOld
import Derived.Lay
import Derived.LaidOnce
import Derived.SevenTiedAt
import Derived.Stop.LaidErr
import Derived.Stop.JoinedTold
import Derived.Deep.DeepWitnessRef
import Derived.LaidHandle
namespace Go.Proofs.YthohfanojaiedaaFmt.fnRegexpRangeOrder
open Go.ChangeShapes Go.WideShapes Go.ChangeAt Go.RowKit
open Go.Extern.Stop Go.Stop Go.Extern
open Go.ChangeMaps (open_string shut_string)

theorem own : ownKnob Tryf.prog.godebug = none := by kernel_rfl
def laidP : List (String × DataW Unit) := [("unicode/utf8.acceptRanges", Rows.laid_unicode_utf8_acceptRanges), ("io.EOF", Rows.laid_io_EOF), ("unicode/utf8.first", Rows.laid_unicode_utf8_first)]
def laid : List (String × DataW Unit) := [("unicode/utf8.acceptRanges", Rows.laid_unicode_utf8_acceptRanges), ("errors.errorType", Rows.laid_errors_errorType), ("io.EOF", Rows.laid_io_EOF), ("unicode/utf8.first", Rows.laid_unicode_utf8_first)]

theorem et : Tryf.prog.globalNamed "errors.errorType" = some 1 := by kernel_rfl
theorem rtn : (Tryf.prog.cutTypes.find? (·.1 == "internal/reflectlite.rtype")).map (·.2) = some 80 := by kernel_rfl
theorem sizeT : Tryf.prog.types.size = 144 := by kernel_rfl
theorem oneRow : ((List.range 144).filter fun t => Tryf.prog.rowNamed t [101, 114, 114, 111, 114]) = [30] := by kernel_rfl

/-- What the condition gives a walk: the cell of the type handle, and the plain part. -/
theorem handle_of_laid {W : World} (h : laidMetH Tryf.prog laid W) : W.cell? ⟨1, 0, none⟩ = some (.iface 80 (.agg #[.pointer (some ⟨4, 30, none⟩)])) ∧ laidMet Tryf.prog laidP W := by
  have h' : laidMet Tryf.prog laidP W ∧ handlesMet Tryf.prog [("errors.errorType", Rows.laid_errors_errorType)] W := h
  refine ⟨?_, h'.1⟩
  obtain ⟨name, u, ty, e1, e2, e3, e4, e5⟩ := h'.2 _ (List.mem_singleton.2 rfl)
  have en : name = [101, 114, 114, 111, 114] := (Option.some.inj e1).symm
  subst en
  obtain rfl := Option.some.inj (rtn.symm.trans e2)
  have hm : ty ∈ (List.range 144).filter fun t => Tryf.prog.rowNamed t [101, 114, 114, 111, 114] := List.mem_filter.2 ⟨List.mem_range.2 (by rw [← sizeT]; exact e3), e4⟩
  rw [oneRow] at hm
  obtain rfl := List.mem_singleton.1 hm
  have hh : typeHandle Tryf.prog 30 = .pointer (some ⟨4, 30, none⟩) := by kernel_rfl
  rw [hh] at e5
  simpa using World.var?_cell et e5 0

/-- A world that meets the condition. -/
noncomputable def baseWorld (os : Os) : World :=
  let w0 := World.holding Tryf.prog os ⟨#[], #[], []⟩
  { w0 with heap := w0.heap.modify 1 fun
      | .cells _ t frozen => .cells #[.iface 80 (.agg #[.pointer (some ⟨4, 30, none⟩)])] t frozen
      | o => o }
noncomputable def laidWorld (os : Os) : World := (baseWorld os).layVars Tryf.prog laidP
theorem laidWorld_met (os : Os) (args : Array Value) : laidMetH Tryf.prog laid ((laidWorld os).forCall (fun _ _ => 0) ⟨#[], args, []⟩).memory := by
  have e1 : (laidP.filter fun x => (laidP.map (·.1)).contains x.1) = laidP := List.filter_eq_self.2 fun x hx => List.contains_iff_mem.2 (List.mem_map.2 ⟨x, hx, rfl⟩)
  have e2 : (laidP.filter fun x => !(laidP.map (·.1)).contains x.1) = [] := List.filter_eq_nil_iff.2 fun x hx => by rw [List.contains_iff_mem.2 (List.mem_map.2 ⟨x, hx, rfl⟩)]; simp
  have h : laidMet Tryf.prog laidP (laidWorld os) := laidMet_layVars (w0 := baseWorld os) (laidP.map (·.1)) [] (by rw [e1]; rfl) (by rw [e1]; kernel_rfl) (by rw [e1]; kernel_rfl) (by rw [e2]; exact LaidIn.none)
  exact laidMetH_of_parts (h.of_heap (by simp [World.memory, World.forCall, Input.heap])) (by kernel_rfl)

theorem star : "*" ++ "errors.errorString" = "*errors.errorString" := by decide
theorem rowE (u : TypeId) (h : Tryf.prog.typeName? 3 u = some "*errors.errorString") : u = 109 :=
  typeName_ptr_named (nm := "errors.errorString") (by rw [star]; kernel_rfl) (by kernel_rfl) (by decide) u (by rw [star]; exact h)

set_option maxRecDepth 100000 in
theorem lifted (os : Os) (started : os.Started) (H : Type) (enc : TypeId × Value → H) :
    ReturnsInTold none {} Tryf.checked os 4 .any Input.okWide ((OpenSpec.ofChange Rows.fnRegexpRangeOrderSpec).preRow enc Tryf.prog Tryf.f4 [] false laid)
      (fun F => ((OpenSpec.ofChange Rows.fnRegexpRangeOrderSpec).at F).post enc Tryf.prog Tryf.f4 false true false false) (aloneAtReturn Tryf.prog) nothingAlways := by
  refine returnsInTold_of_row (C := Tryf.checked) (s := OpenSpec.ofChange Rows.fnRegexpRangeOrderSpec) (by kernel_rfl) own started (by kernel_rfl) Tryf.func4
    (OpenSpec.witness_stopped_atRef (enc := enc) (C := Tryf.checked) false (laidWorld os) #[.string ByteArray.empty, .int .u8 0, .int .u8 0, .int .u64 0] (World.layVars_os _ _ _) (by kernel_rfl) (by kernel_rfl) (by kernel_rfl)
      (OpenSpec.preRow_of_B rfl 8 (by kernel_rfl) (by kernel_rfl) (laidWorld_met os _))) ?_
  intro F W base args ds gs before _ hF hval0 hW _ _ _ hL _
  have hval : ∀ (j : Nat) t v, Tryf.f4.params[j]? = some t → args[j]? = some v → Value.okWide Tryf.prog W .any base t v := hval0
  have hW' := hW
  obtain ⟨p, q, hA0, hV, rfl, _, _⟩ := hW
  have hA : DataW.TrodAll enc Tryf.prog W 0 (fun _ => true) true Tryf.f4.params.toList args.toList ds p := hA0
  rw [Tryf.params4] at hA hval
  obtain ⟨v0, vs0, d0, ds0, p0, q0, hargs, rfl, rfl, h0, r0⟩ := trodAll_cons hA
  obtain ⟨v1, vs1, d1, ds1, p1, q1, rfl, rfl, rfl, h1, r1⟩ := trodAll_cons r0
  obtain ⟨v2, vs2, d2, ds2, p2, q2, rfl, rfl, rfl, h2, r2⟩ := trodAll_cons r1
  obtain ⟨v3, vs3, d3, ds3, p3, q3, rfl, rfl, rfl, h3, r3⟩ := trodAll_cons r2
  obtain ⟨rfl, rfl, rfl⟩ := trodAll_nil r3
  obtain rfl : args = #[v0, v1, v2, v3] := by cases args; simp_all
  obtain ⟨rfl, rfl⟩ := trodVars_none hV
  obtain ⟨a0, rfl, rfl, rfl, w0⟩ := open_string Tryf.underlying9 (hval 0 9 v0 rfl rfl) h0
  obtain ⟨a1, rfl, rfl, rfl, w1⟩ := open_int Tryf.underlying5 (hval 1 5 v1 rfl rfl) h1
  obtain ⟨a2, rfl, rfl, rfl, w2⟩ := open_int Tryf.underlying5 (hval 2 5 v2 rfl rfl) h2
  obtain ⟨a3, rfl, rfl, rfl, w3⟩ := open_int Tryf.underlying22 (hval 3 22 v3 rfl rfl) h3
  clear hA0 hval0
  have b1 : 0 ≤ a1 ∧ a1 ≤ 255 := by simpa [Lit.wf, IntKind.min, IntKind.max, IntKind.signed, IntKind.bits] using w1
  have b2 : 0 ≤ a2 ∧ a2 ≤ 255 := by simpa [Lit.wf, IntKind.min, IntKind.max, IntKind.signed, IntKind.bits] using w2
  obtain ⟨x, rfl⟩ : ∃ x : Nat, a1 = (x : Int) := ⟨a1.toNat, by omega⟩
  obtain ⟨y, rfl⟩ : ∃ y : Nat, a2 = (y : Int) := ⟨a2.toNat, by omega⟩
  obtain ⟨hE, hL2⟩ := handle_of_laid hL
  obtain ⟨ae, te, hve, _, _, _⟩ := laid_sentinel (g := 0) hL2.tail (by kernel_rfl) (by kernel_rfl) Tryf.underlying30 rowE Tryf.underlying109 Tryf.underlying111 rfl rfl Tryf.underlying9 (by kernel_rfl) (by kernel_rfl)
  have hV0 : W.cell? ⟨0, 0, none⟩ = some (.iface 109 (.pointer (some ae))) := World.var?_cell (by kernel_rfl) hve 0
  refine (lawO_all F.told a0 x y (by omega) (by omega) a3 W w0 ae hF hV0 hE).mono fun e W' ⟨he, bel⟩ => ?_
  subst he
  exact ⟨_, rfl, _, _, _, [], _, [], hW', trodAll_mk1 (shut_bool Tryf.underlying4 _), (trodAll_cons_mk (shut_string Tryf.underlying9 w0) (trodAll_cons_mk (shut_int Tryf.underlying5 w1) (trodAll_cons_mk (shut_int Tryf.underlying5 w2) (trodAll_cons_mk (shut_int Tryf.underlying22 w3) trodAll_mk0)))), rfl, bel.frame _, fun h => by cases h⟩

theorem laidOut : laidOutB Tryf.pinned.checked.prog = true := by kernel_rfl
theorem stops : Tryf.pinned.checked.prog.stops = ["fmt.Sprintf", "fmt.errorf"] := by kernel_rfl
theorem stopKnobs : Tryf.pinned.checked.prog.stopKnobs = [] := by kernel_rfl
theorem quiet (os : Os) : Stop.quiet Tryf.pinned.checked.prog os := by
  intro k hk
  rw [stopKnobs] at hk
  cases hk

theorem proved : Rows.FnRegexpRangeOrderToldSaid :=
  Claim7.holds_of_told_tied_any_at .later 4 Tryf.f4 "fmt.Sprintf" ["fmt.errorf"] [] _ _ _ _ _ (by kernel_rfl) rfl rfl rfl laidOut (by kernel_rfl) rfl ⟨rfl, rfl, rfl, rfl, rfl, rfl, rfl⟩ rfl rfl (by kernel_rfl) (by kernel_rfl) Tryf.func4 (by kernel_rfl)
    (of_decide_eq_true (by kernel_rfl)) (by unfold Func.isWrapper; first | (rw [if_pos (by decide +kernel)]; kernel_rfl) | (rw [if_neg (by decide +kernel)]; exact ⟨rfl, rfl⟩)) stops.symm rfl stopKnobs.symm (by kernel_rfl)
    (by kernel_rfl) (by kernel_rfl) (by kernel_rfl) (by kernel_rfl) (by kernel_rfl) (by kernel_rfl) (by kernel_rfl) (by kernel_rfl) (by kernel_rfl) rfl (by kernel_rfl) rfl rfl
    rfl rfl
    rfl (by kernel_rfl) (by kernel_rfl) (by kernel_rfl) (by decide) (by kernel_rfl) fnRegexpRangeOrder_row_tie
    (OpenClaim.moreEntering_of (by kernel_rfl) (by kernel_rfl) (by kernel_rfl) (by kernel_rfl) (by kernel_rfl) (by kernel_rfl) (by kernel_rfl) (by kernel_rfl) (by kernel_rfl) (by kernel_rfl))
    ⟨_, WideRow.started_initial, quiet _⟩
    (fun os started _ H enc _ => lifted os started H enc)
#print axioms proved
end Go.Proofs.YthohfanojaiedaaFmt.fnRegexpRangeOrder
