/-
  DERIVED. GIVEN WITH THE SEED: THE CARDS: each row of YtdpiipejpmheoaaFmtRows.lean that lists a variable, with what it lists TIED to the program's text (the seventh form; the later family's looks); each row that meets fmt, with fmt's text TOLD by the authors' own Lean function (tested against real Go, not proved from fmt's source: count such statements apart). THE CARD IS WHAT COUNTS. Prove the row's statement (the work); the ties are given (YtdpiipejpmheoaaFmtTie.lean); close each card by the builder's one call (the guide's Derived/Test/ToyasCard.lean, 'card_holds'). Laid BY PROGRAM, IN A SANDBOX (cutbox-door.mjs). By AI agents, Wed Nov 11 2026. No macro, syntax, notation, axiom, sorry.
-/
import Derived.Test.YtdpiipejpmheoaaFmtRows
import GoSem.ClaimSeven
namespace Go.Proofs.YtdpiipejpmheoaaFmt
namespace Rows

/-- THE TOLD AND TIED CARD OF 'n010_127.FnRegexpNextBracketTable'. -/
def fnRegexpNextBracketTableCard : Claim7 := { stood := { row := fnRegexpNextBracketTableRow, standIns := [], harness := (true, "aca2ad0f5c3e963cc16bdbf561f77ef5920dd02fc984544f2c2df95954d02c58"), looks := false }, told := true, laidByText := true, laidKinds := [.data, .sentinel, .pinned], laidTests := true, laidLooks := .later, goes := false }
def FnRegexpNextBracketTableToldSaid : Prop := Claim7.holds Tryf.pinned (.plain (OpenSpec.ofChange fnRegexpNextBracketTableSpec)) fnRegexpNextBracketTableCard
/-- ITS FALSE NEIGHBOUR. Refute it at one input. -/
def FnRegexpNextBracketTableToldWrongFalsely : Prop := Claim7.holds Tryf.pinned (.plain (OpenSpec.ofChange fnRegexpNextBracketTableWrong)) fnRegexpNextBracketTableCard
end Rows
end Go.Proofs.YtdpiipejpmheoaaFmt
