/-
  DERIVED. GIVEN WITH THE SEED: THE CARDS: each row of YthohfanojaiedaaFmtRows.lean that lists a variable, with what it lists TIED to the program's text (the seventh form; the later family's looks); each row that meets fmt, with fmt's text TOLD by the authors' own Lean function (tested against real Go, not proved from fmt's source: count such statements apart). THE CARD IS WHAT COUNTS. Prove the row's statement (the work); the ties are given (YthohfanojaiedaaFmtTie.lean); close each card by the builder's one call (the guide's Derived/Test/ToyasCard.lean, 'card_holds'). Laid BY PROGRAM, IN A SANDBOX (cutbox-door.mjs). By AI agents, Wed Nov 11 2026. No macro, syntax, notation, axiom, sorry.
-/
import Derived.Test.YthohfanojaiedaaFmtRows
import GoSem.ClaimSeven
namespace Go.Proofs.YthohfanojaiedaaFmt
namespace Rows

/-- THE TOLD AND TIED CARD OF 'n010_86.FnRegexpBracketModel'. -/
def fnRegexpBracketModelCard : Claim7 := { stood := { row := fnRegexpBracketModelRow, standIns := [], harness := (true, "72e8452b4028b189d48c865feae48cafe9bb177623a07fc54526cd33be3a03b0"), looks := true }, told := true, laidByText := true, laidKinds := [.data, .sentinel, .pinned], laidTests := true, laidLooks := .later, goes := false }
def FnRegexpBracketModelToldSaid : Prop := Claim7.holds Tryf.pinned (.plain (OpenSpec.ofChange fnRegexpBracketModelSpec)) fnRegexpBracketModelCard
/-- ITS FALSE NEIGHBOUR. Refute it at one input. -/
def FnRegexpBracketModelToldWrongFalsely : Prop := Claim7.holds Tryf.pinned (.plain (OpenSpec.ofChange fnRegexpBracketModelWrong)) fnRegexpBracketModelCard

/-- THE TOLD AND TIED CARD OF 'n010_86.FnRegexpRangeOrder'. -/
def fnRegexpRangeOrderCard : Claim7 := { stood := { row := fnRegexpRangeOrderRow, standIns := [], harness := (true, "72e8452b4028b189d48c865feae48cafe9bb177623a07fc54526cd33be3a03b0"), looks := true }, told := true, laidByText := true, laidKinds := [.data, .handle, .sentinel, .pinned], laidTests := true, laidLooks := .later, goes := false }
def FnRegexpRangeOrderToldSaid : Prop := Claim7.holds Tryf.pinned (.plain (OpenSpec.ofChange fnRegexpRangeOrderSpec)) fnRegexpRangeOrderCard
/-- ITS FALSE NEIGHBOUR. Refute it at one input. -/
def FnRegexpRangeOrderToldWrongFalsely : Prop := Claim7.holds Tryf.pinned (.plain (OpenSpec.ofChange fnRegexpRangeOrderWrong)) fnRegexpRangeOrderCard
end Rows
end Go.Proofs.YthohfanojaiedaaFmt
