/-
  DERIVED. GIVEN WITH THE SEED: THE CARDS: each row of YtjoceojknhipoaaGreatDoorRows.lean that lists a variable, with what it lists TIED to the program's text (the seventh form; the later family's looks); each row that meets fmt, with fmt's text TOLD by the authors' own Lean function (tested against real Go, not proved from fmt's source: count such statements apart). THE CARD IS WHAT COUNTS. Prove the row's statement (the work); the ties are given (YtjoceojknhipoaaGreatDoorTie.lean); close each card by the builder's one call (the guide's Derived/Test/ToyasCard.lean, 'card_holds'). Laid BY PROGRAM, IN A SANDBOX (cutbox-door.mjs). By AI agents, Wed Nov 11 2026. No macro, syntax, notation, axiom, sorry.
-/
import Derived.Test.YtjoceojknhipoaaGreatDoorRows
import GoSem.ClaimSeven
namespace Go.Proofs.YtjoceojknhipoaaGreatDoor
namespace Rows

/-- THE TIED CARD OF 'n010_99.FnReadFieldsDefaultIFSAgrees'. -/
def fnReadFieldsDefaultIFSAgreesCard : Claim7 := { stood := { row := fnReadFieldsDefaultIFSAgreesRow, standIns := [], harness := (true, "de7f15df26501ba78e25f10827afb11bdaef78cd6ef66fd2a381a4d5ff6d891f"), looks := true }, kinds := [], alts := [], laidByText := true, laidKinds := [.data, .pinned, .pinned], laidTests := true, laidLooks := .later }
def FnReadFieldsDefaultIFSAgreesCardSaid : Prop := Claim7.holds Tryz.pinned (.plain (OpenSpec.ofChange fnReadFieldsDefaultIFSAgreesSpec)) fnReadFieldsDefaultIFSAgreesCard

/-- THE TIED CARD OF 'n010_99.FnReadFieldsModel'. -/
def fnReadFieldsModelCard : Claim7 := { stood := { row := fnReadFieldsModelRow, standIns := [], harness := (true, "de7f15df26501ba78e25f10827afb11bdaef78cd6ef66fd2a381a4d5ff6d891f"), looks := true }, kinds := [], alts := [], laidByText := true, laidKinds := [.data, .pinned, .pinned], laidTests := true, laidLooks := .later }
def FnReadFieldsModelCardSaid : Prop := Claim7.holds Tryz.pinned (.plain (OpenSpec.ofChange fnReadFieldsModelSpec)) fnReadFieldsModelCard

/-- THE TIED CARD OF 'n010_99.FnReadFieldsPrefixOfAll'. -/
def fnReadFieldsPrefixOfAllCard : Claim7 := { stood := { row := fnReadFieldsPrefixOfAllRow, standIns := [], harness := (true, "de7f15df26501ba78e25f10827afb11bdaef78cd6ef66fd2a381a4d5ff6d891f"), looks := true }, kinds := [], alts := [], laidByText := true, laidKinds := [.data, .pinned, .pinned], laidTests := true, laidLooks := .later }
def FnReadFieldsPrefixOfAllCardSaid : Prop := Claim7.holds Tryz.pinned (.plain (OpenSpec.ofChange fnReadFieldsPrefixOfAllSpec)) fnReadFieldsPrefixOfAllCard

/-- THE SECOND FORM's CARD OF 'n010_99.FnReadFieldsDefaultIFSAgrees'. -/
def fnReadFieldsDefaultIFSAgreesUptoCard : Claim7 := { stood := { row := fnReadFieldsDefaultIFSAgreesUptoRow, standIns := [], harness := (true, "de7f15df26501ba78e25f10827afb11bdaef78cd6ef66fd2a381a4d5ff6d891f"), looks := true }, kinds := [], alts := [], laidByText := true, laidKinds := [.data, .pinned, .pinned], laidTests := true, laidLooks := .later }
def FnReadFieldsDefaultIFSAgreesUptoCardSaid : Prop := Claim7.holds Tryz.pinned (.plain (OpenSpec.upto fnReadFieldsDefaultIFSAgreesSpec)) fnReadFieldsDefaultIFSAgreesUptoCard

/-- THE SECOND FORM's CARD OF 'n010_99.FnReadFieldsModel'. -/
def fnReadFieldsModelUptoCard : Claim7 := { stood := { row := fnReadFieldsModelUptoRow, standIns := [], harness := (true, "de7f15df26501ba78e25f10827afb11bdaef78cd6ef66fd2a381a4d5ff6d891f"), looks := true }, kinds := [], alts := [], laidByText := true, laidKinds := [.data, .pinned, .pinned], laidTests := true, laidLooks := .later }
def FnReadFieldsModelUptoCardSaid : Prop := Claim7.holds Tryz.pinned (.plain (OpenSpec.upto fnReadFieldsModelSpec)) fnReadFieldsModelUptoCard

/-- THE SECOND FORM's CARD OF 'n010_99.FnReadFieldsPrefixOfAll'. -/
def fnReadFieldsPrefixOfAllUptoCard : Claim7 := { stood := { row := fnReadFieldsPrefixOfAllUptoRow, standIns := [], harness := (true, "de7f15df26501ba78e25f10827afb11bdaef78cd6ef66fd2a381a4d5ff6d891f"), looks := true }, kinds := [], alts := [], laidByText := true, laidKinds := [.data, .pinned, .pinned], laidTests := true, laidLooks := .later }
def FnReadFieldsPrefixOfAllUptoCardSaid : Prop := Claim7.holds Tryz.pinned (.plain (OpenSpec.upto fnReadFieldsPrefixOfAllSpec)) fnReadFieldsPrefixOfAllUptoCard
end Rows
end Go.Proofs.YtjoceojknhipoaaGreatDoor
