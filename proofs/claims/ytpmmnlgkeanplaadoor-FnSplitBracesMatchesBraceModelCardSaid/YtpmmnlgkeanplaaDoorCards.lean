/-
  DERIVED. GIVEN WITH THE SEED: THE CARDS: each row of YtpmmnlgkeanplaaDoorRows.lean that lists a variable, with what it lists TIED to the program's text (the seventh form; the later family's looks); each row that meets fmt, with fmt's text TOLD by the authors' own Lean function (tested against real Go, not proved from fmt's source: count such statements apart). THE CARD IS WHAT COUNTS. Prove the row's statement (the work); the ties are given (YtpmmnlgkeanplaaDoorTie.lean); close each card by the builder's one call (the guide's Derived/Test/ToyasCard.lean, 'card_holds'). Laid BY PROGRAM, IN A SANDBOX (cutbox-door.mjs). By AI agents, Wed Nov 11 2026. No macro, syntax, notation, axiom, sorry.
-/
import Derived.Test.YtpmmnlgkeanplaaDoorRows
import GoSem.ClaimSeven
namespace Go.Proofs.YtpmmnlgkeanplaaDoor
namespace Rows

/-- THE TIED CARD OF 'n010_96.FnSplitBracesMatchesBraceModel'. -/
def fnSplitBracesMatchesBraceModelCard : Claim7 := { stood := { row := fnSplitBracesMatchesBraceModelRow, standIns := [], harness := (true, "ee1d9871a5e7513dc00529beafc75a8e308a955682670a2bee00671dca7b9b04"), looks := true }, kinds := [], alts := [], laidByText := true, laidKinds := [.data, .data, .data, .sentinel, .sentinel], laidTests := true, laidLooks := .later }
def FnSplitBracesMatchesBraceModelCardSaid : Prop := Claim7.holds Tryd.pinned (.plain (OpenSpec.ofChange fnSplitBracesMatchesBraceModelSpec)) fnSplitBracesMatchesBraceModelCard

/-- THE TIED CARD OF 'n010_96.FnSplitBracesKeepsLitsAndIsStable'. -/
def fnSplitBracesKeepsLitsAndIsStableCard : Claim7 := { stood := { row := fnSplitBracesKeepsLitsAndIsStableRow, standIns := [], harness := (true, "ee1d9871a5e7513dc00529beafc75a8e308a955682670a2bee00671dca7b9b04"), looks := true }, kinds := [], alts := [], laidByText := true, laidKinds := [.data, .data, .data, .sentinel, .sentinel], laidTests := true, laidLooks := .later }
def FnSplitBracesKeepsLitsAndIsStableCardSaid : Prop := Claim7.holds Tryd.pinned (.plain (OpenSpec.ofChange fnSplitBracesKeepsLitsAndIsStableSpec)) fnSplitBracesKeepsLitsAndIsStableCard

/-- THE SECOND FORM's CARD OF 'n010_96.FnSplitBracesMatchesBraceModel'. -/
def fnSplitBracesMatchesBraceModelUptoCard : Claim7 := { stood := { row := fnSplitBracesMatchesBraceModelUptoRow, standIns := [], harness := (true, "ee1d9871a5e7513dc00529beafc75a8e308a955682670a2bee00671dca7b9b04"), looks := true }, kinds := [], alts := [], laidByText := true, laidKinds := [.data, .data, .data, .sentinel, .sentinel], laidTests := true, laidLooks := .later }
def FnSplitBracesMatchesBraceModelUptoCardSaid : Prop := Claim7.holds Tryd.pinned (.plain (OpenSpec.upto fnSplitBracesMatchesBraceModelSpec)) fnSplitBracesMatchesBraceModelUptoCard

/-- THE SECOND FORM's CARD OF 'n010_96.FnSplitBracesKeepsLitsAndIsStable'. -/
def fnSplitBracesKeepsLitsAndIsStableUptoCard : Claim7 := { stood := { row := fnSplitBracesKeepsLitsAndIsStableUptoRow, standIns := [], harness := (true, "ee1d9871a5e7513dc00529beafc75a8e308a955682670a2bee00671dca7b9b04"), looks := true }, kinds := [], alts := [], laidByText := true, laidKinds := [.data, .data, .data, .sentinel, .sentinel], laidTests := true, laidLooks := .later }
def FnSplitBracesKeepsLitsAndIsStableUptoCardSaid : Prop := Claim7.holds Tryd.pinned (.plain (OpenSpec.upto fnSplitBracesKeepsLitsAndIsStableSpec)) fnSplitBracesKeepsLitsAndIsStableUptoCard
end Rows
end Go.Proofs.YtpmmnlgkeanplaaDoor
