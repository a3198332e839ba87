/-
  DERIVED. GIVEN WITH THE SEED: THE CARDS: each row of YthcminjdkgmeoaaGreatDoorRows.lean that lists a variable, with what it lists TIED to the program's text (the seventh form; the later family's looks); each row that meets fmt, with fmt's text TOLD by the authors' own Lean function (tested against real Go, not proved from fmt's source: count such statements apart). THE CARD IS WHAT COUNTS. Prove the row's statement (the work); the ties are given (YthcminjdkgmeoaaGreatDoorTie.lean); close each card by the builder's one call (the guide's Derived/Test/ToyasCard.lean, 'card_holds'). Laid BY PROGRAM, IN A SANDBOX (cutbox-door.mjs). By AI agents, Wed Nov 11 2026. No macro, syntax, notation, axiom, sorry.
-/
import Derived.Test.YthcminjdkgmeoaaGreatDoorRows
import GoSem.ClaimSeven
namespace Go.Proofs.YthcminjdkgmeoaaGreatDoor
namespace Rows

/-- THE TIED CARD OF 'n010_163.FnPrepareConfigIfsFromLastPair'. -/
def fnPrepareConfigIfsFromLastPairCard : Claim7 := { stood := { row := fnPrepareConfigIfsFromLastPairRow, standIns := [], harness := (true, "179ee340063c25314ce72acc246ea7f8a7694996e3d00d4dbca0878d4abdb286"), looks := true }, kinds := [], alts := [], laidByText := true, laidKinds := [.data, .pinned, .pinned], laidTests := true, laidLooks := .later }
def FnPrepareConfigIfsFromLastPairCardSaid : Prop := Claim7.holds Tryz.pinned (.plain (OpenSpec.ofChange fnPrepareConfigIfsFromLastPairSpec)) fnPrepareConfigIfsFromLastPairCard

/-- THE SECOND FORM's CARD OF 'n010_163.FnPrepareConfigIfsFromLastPair'. -/
def fnPrepareConfigIfsFromLastPairUptoCard : Claim7 := { stood := { row := fnPrepareConfigIfsFromLastPairUptoRow, standIns := [], harness := (true, "179ee340063c25314ce72acc246ea7f8a7694996e3d00d4dbca0878d4abdb286"), looks := true }, kinds := [], alts := [], laidByText := true, laidKinds := [.data, .pinned, .pinned], laidTests := true, laidLooks := .later }
def FnPrepareConfigIfsFromLastPairUptoCardSaid : Prop := Claim7.holds Tryz.pinned (.plain (OpenSpec.upto fnPrepareConfigIfsFromLastPairSpec)) fnPrepareConfigIfsFromLastPairUptoCard
end Rows
end Go.Proofs.YthcminjdkgmeoaaGreatDoor
