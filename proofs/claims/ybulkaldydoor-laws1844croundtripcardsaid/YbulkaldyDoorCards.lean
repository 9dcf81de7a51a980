/-
  DERIVED. GIVEN WITH THE SEED: THE CARDS: each row of YbulkaldyDoorRows.lean that lists a variable, with what it lists TIED to the program's text (the seventh form; the later family's looks); each row that meets fmt, with fmt's text TOLD by the authors' own Lean function (tested against real Go, not proved from fmt's source: count such statements apart). THE CARD IS WHAT COUNTS. Prove the row's statement (the work); the ties are given (YbulkaldyDoorTie.lean); close each card by the builder's one call (the guide's Derived/Test/ToyasCard.lean, 'card_holds'). Laid BY PROGRAM, IN A SANDBOX (cutbox-door.mjs). By AI agents, Wed Nov 11 2026. No macro, syntax, notation, axiom, sorry.
-/
import Derived.Test.YbulkaldyDoorRows
import GoSem.ClaimSeven
namespace Go.Proofs.YbulkaldyDoor
namespace Rows

/-- THE TIED CARD OF 'controller.LawS1844CRoundTrip'. -/
def lawS1844CRoundTripCard : Claim7 := { stood := { row := lawS1844CRoundTripRow, standIns := [], harness := (true, "a60ea6212826302a2eda9c0f2163caaff3d48c7090e20ea8d8b454937207d2a8"), looks := false }, kinds := [], alts := [], laidByText := true, laidKinds := [.data, .called], laidTests := true, laidLooks := .later }
def LawS1844CRoundTripCardSaid : Prop := Claim7.holds Ybad.pinned (.plain (OpenSpec.ofChange lawS1844CRoundTripSpec)) lawS1844CRoundTripCard

/-- THE TIED CARD OF 'controller.LawS1844CShortDigits'. -/
def lawS1844CShortDigitsCard : Claim7 := { stood := { row := lawS1844CShortDigitsRow, standIns := [], harness := (true, "a60ea6212826302a2eda9c0f2163caaff3d48c7090e20ea8d8b454937207d2a8"), looks := false }, kinds := [], alts := [], laidByText := true, laidKinds := [.data], laidTests := true, laidLooks := .later }
def LawS1844CShortDigitsCardSaid : Prop := Claim7.holds Ybad.pinned (.plain (OpenSpec.ofChange lawS1844CShortDigitsSpec)) lawS1844CShortDigitsCard

/-- THE TIED CARD OF 'controller.LawS1844CLong'. -/
def lawS1844CLongCard : Claim7 := { stood := { row := lawS1844CLongRow, standIns := [], harness := (true, "a60ea6212826302a2eda9c0f2163caaff3d48c7090e20ea8d8b454937207d2a8"), looks := false }, kinds := [], alts := [], laidByText := true, laidKinds := [.data], laidTests := true, laidLooks := .later }
def LawS1844CLongCardSaid : Prop := Claim7.holds Ybad.pinned (.plain (OpenSpec.ofChange lawS1844CLongSpec)) lawS1844CLongCard
end Rows
end Go.Proofs.YbulkaldyDoor
