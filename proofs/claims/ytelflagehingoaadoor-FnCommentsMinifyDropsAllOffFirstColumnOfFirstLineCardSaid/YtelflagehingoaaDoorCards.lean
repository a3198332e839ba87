/-
  DERIVED. GIVEN WITH THE SEED: THE CARDS: each row of YtelflagehingoaaDoorRows.lean that lists a variable, with what it lists TIED to the program's text (the seventh form; the later family's looks); each row that meets fmt, with fmt's text TOLD by the authors' own Lean function (tested against real Go, not proved from fmt's source: count such statements apart). THE CARD IS WHAT COUNTS. Prove the row's statement (the work); the ties are given (YtelflagehingoaaDoorTie.lean); close each card by the builder's one call (the guide's Derived/Test/ToyasCard.lean, 'card_holds'). Laid BY PROGRAM, IN A SANDBOX (cutbox-door.mjs). By AI agents, Wed Nov 11 2026. No macro, syntax, notation, axiom, sorry.
-/
import Derived.Test.YtelflagehingoaaDoorRows
import GoSem.ClaimSeven
namespace Go.Proofs.YtelflagehingoaaDoor
namespace Rows

/-- THE TIED CARD OF 'n010_150.FnCommentsMinifyDropsAllOffFirstColumnOfFirstLine'. -/
def fnCommentsMinifyDropsAllOffFirstColumnOfFirstLineCard : Claim7 := { stood := { row := fnCommentsMinifyDropsAllOffFirstColumnOfFirstLineRow, standIns := [], harness := (true, "5f9ec453c28578e58c2565f2e4dd6da438c41e32918ffe53a2d5fc5a39e94e45"), looks := true }, kinds := [], alts := [], laidByText := true, laidKinds := [.data, .listed, .pinned], laidTests := true, laidLooks := .later }
def FnCommentsMinifyDropsAllOffFirstColumnOfFirstLineCardSaid : Prop := Claim7.holds Tryd.pinned (.plain (OpenSpec.ofChange fnCommentsMinifyDropsAllOffFirstColumnOfFirstLineSpec)) fnCommentsMinifyDropsAllOffFirstColumnOfFirstLineCard

/-- THE TIED CARD OF 'n010_150.FnCommentsQueuesAllInOrder'. -/
def fnCommentsQueuesAllInOrderCard : Claim7 := { stood := { row := fnCommentsQueuesAllInOrderRow, standIns := [], harness := (true, "5f9ec453c28578e58c2565f2e4dd6da438c41e32918ffe53a2d5fc5a39e94e45"), looks := true }, kinds := [], alts := [], laidByText := true, laidKinds := [.data, .listed, .pinned], laidTests := true, laidLooks := .later }
def FnCommentsQueuesAllInOrderCardSaid : Prop := Claim7.holds Tryd.pinned (.plain (OpenSpec.ofChange fnCommentsQueuesAllInOrderSpec)) fnCommentsQueuesAllInOrderCard

/-- THE SECOND FORM's CARD OF 'n010_150.FnCommentsMinifyDropsAllOffFirstColumnOfFirstLine'. -/
def fnCommentsMinifyDropsAllOffFirstColumnOfFirstLineUptoCard : Claim7 := { stood := { row := fnCommentsMinifyDropsAllOffFirstColumnOfFirstLineUptoRow, standIns := [], harness := (true, "5f9ec453c28578e58c2565f2e4dd6da438c41e32918ffe53a2d5fc5a39e94e45"), looks := true }, kinds := [], alts := [], laidByText := true, laidKinds := [.data, .listed, .pinned], laidTests := true, laidLooks := .later }
def FnCommentsMinifyDropsAllOffFirstColumnOfFirstLineUptoCardSaid : Prop := Claim7.holds Tryd.pinned (.plain (OpenSpec.upto fnCommentsMinifyDropsAllOffFirstColumnOfFirstLineSpec)) fnCommentsMinifyDropsAllOffFirstColumnOfFirstLineUptoCard

/-- THE SECOND FORM's CARD OF 'n010_150.FnCommentsQueuesAllInOrder'. -/
def fnCommentsQueuesAllInOrderUptoCard : Claim7 := { stood := { row := fnCommentsQueuesAllInOrderUptoRow, standIns := [], harness := (true, "5f9ec453c28578e58c2565f2e4dd6da438c41e32918ffe53a2d5fc5a39e94e45"), looks := true }, kinds := [], alts := [], laidByText := true, laidKinds := [.data, .listed, .pinned], laidTests := true, laidLooks := .later }
def FnCommentsQueuesAllInOrderUptoCardSaid : Prop := Claim7.holds Tryd.pinned (.plain (OpenSpec.upto fnCommentsQueuesAllInOrderSpec)) fnCommentsQueuesAllInOrderUptoCard
end Rows
end Go.Proofs.YtelflagehingoaaDoor
