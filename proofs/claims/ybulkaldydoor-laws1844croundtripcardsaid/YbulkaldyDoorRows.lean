/-
  NARROWER THAN 'FOR EVERY INPUT', by the rows' own cells (each row's printed sentence says how): LawS1844CRoundTrip: laid · LawS1844CShortDigits: laid · LawS1844CLong: laid.
  DERIVED. THE GIVEN ROWS OF THIS SEAT. 3 by the template 'for every input the law returns true; each argument reads behind the call as it read before'; 0 by the template 'total and deterministic' (their statements: YbulkaldyDoorTotals.lean).
  GIVEN WITH THE SEED: the statements are not yours to turn. If you find one false, say at which input.
  Laid BY PROGRAM, IN A SANDBOX (cutbox-rows.mjs): the forced cells as the released guide's own fill.sh prints them over the translation 99e0c5aa7558d6a3… (all of the seat's roots in one cut). By AI agents, Wed Nov 11 2026. No macro, syntax, notation, axiom, sorry.
-/
import Derived.Test.YbulkaldyDoorChecked
import GoSem.Claim
import GoSem.ClaimJoined
import GoSem.ClaimMapViews
import Derived.JoinedTies
import Derived.KernelRfl
namespace Go.Proofs.YbulkaldyDoor
/- THE CELL 'sum', in the pinned program and in every row, IS THE sha256 OF THE DUMP (.gsa) THAT YbulkaldyDoorProg.lean LOADS. Nothing in Lean hashes anything: it is a label: what it is worth is what the hold of that sum in a sandbox is worth. -/
noncomputable def Ybad.pinned : Pinned := { name := "ybulkaldydoor", sum := "99e0c5aa7558d6a333167b35853e60626002652b76330a6502d9bc890c564eec", checked := Ybad.checked }
namespace Rows
def none {H : Type} : Left H := { results := [], args := [] }

/- WHAT THE LISTED PACKAGE-LEVEL VARIABLES READ AS WHEN THE CALL BEGINS. Each datum BY PROGRAM (the guide's laid-datum.mjs) off the statement by which the dump's own 'gosem.cut.vars' lays the variable. In a bare row this is a premise. The card (YbulkaldyDoorCards.lean) ties it to the program's text. -/
def laid_example_com_corelith_corelith_internal_controller_longID {H : Type} : DataW H := .agg [.lit (.int .u64 18446744073709551615), .lit (.int .u32 134217727)]
def laid_example_com_corelith_corelith_internal_controller_idDigit {H : Type} : DataW H := .agg [.lit (.int .u64 0), .lit (.int .u64 0), .lit (.int .u64 0), .lit (.int .u64 0), .lit (.int .u64 0), .lit (.int .u64 0), .lit (.int .u64 0), .lit (.int .u64 0), .lit (.int .u64 0), .lit (.int .u64 0), .lit (.int .u64 0), .lit (.int .u64 0), .lit (.int .u64 0), .lit (.int .u64 0), .lit (.int .u64 0), .lit (.int .u64 0), .lit (.int .u64 0), .lit (.int .u64 0), .lit (.int .u64 0), .lit (.int .u64 0), .lit (.int .u64 0), .lit (.int .u64 0), .lit (.int .u64 0), .lit (.int .u64 0), .lit (.int .u64 0), .lit (.int .u64 0), .lit (.int .u64 0), .lit (.int .u64 0), .lit (.int .u64 0), .lit (.int .u64 0), .lit (.int .u64 0), .lit (.int .u64 0), .lit (.int .u64 0), .lit (.int .u64 0), .lit (.int .u64 0), .lit (.int .u64 0), .lit (.int .u64 0), .lit (.int .u64 0), .lit (.int .u64 0), .lit (.int .u64 0), .lit (.int .u64 0), .lit (.int .u64 0), .lit (.int .u64 0), .lit (.int .u64 0), .lit (.int .u64 0), .lit (.int .u64 1), .lit (.int .u64 2), .lit (.int .u64 0), .lit (.int .u64 3), .lit (.int .u64 4), .lit (.int .u64 5), .lit (.int .u64 6), .lit (.int .u64 7), .lit (.int .u64 8), .lit (.int .u64 9), .lit (.int .u64 10), .lit (.int .u64 11), .lit (.int .u64 12), .lit (.int .u64 13), .lit (.int .u64 0), .lit (.int .u64 0), .lit (.int .u64 0), .lit (.int .u64 0), .lit (.int .u64 0), .lit (.int .u64 0), .lit (.int .u64 14), .lit (.int .u64 15), .lit (.int .u64 16), .lit (.int .u64 17), .lit (.int .u64 18), .lit (.int .u64 19), .lit (.int .u64 20), .lit (.int .u64 21), .lit (.int .u64 22), .lit (.int .u64 23), .lit (.int .u64 24), .lit (.int .u64 25), .lit (.int .u64 26), .lit (.int .u64 27), .lit (.int .u64 28), .lit (.int .u64 29), .lit (.int .u64 30), .lit (.int .u64 31), .lit (.int .u64 32), .lit (.int .u64 33), .lit (.int .u64 34), .lit (.int .u64 35), .lit (.int .u64 36), .lit (.int .u64 37), .lit (.int .u64 38), .lit (.int .u64 39), .lit (.int .u64 0), .lit (.int .u64 0), .lit (.int .u64 0), .lit (.int .u64 0), .lit (.int .u64 40), .lit (.int .u64 0), .lit (.int .u64 41), .lit (.int .u64 42), .lit (.int .u64 43), .lit (.int .u64 44), .lit (.int .u64 45), .lit (.int .u64 46), .lit (.int .u64 47), .lit (.int .u64 48), .lit (.int .u64 49), .lit (.int .u64 50), .lit (.int .u64 51), .lit (.int .u64 52), .lit (.int .u64 53), .lit (.int .u64 54), .lit (.int .u64 55), .lit (.int .u64 56), .lit (.int .u64 57), .lit (.int .u64 58), .lit (.int .u64 59), .lit (.int .u64 60), .lit (.int .u64 61), .lit (.int .u64 62), .lit (.int .u64 63), .lit (.int .u64 64), .lit (.int .u64 65), .lit (.int .u64 66), .lit (.int .u64 0), .lit (.int .u64 0), .lit (.int .u64 0), .lit (.int .u64 0), .lit (.int .u64 0), .lit (.int .u64 0), .lit (.int .u64 0), .lit (.int .u64 0), .lit (.int .u64 0), .lit (.int .u64 0), .lit (.int .u64 0), .lit (.int .u64 0), .lit (.int .u64 0), .lit (.int .u64 0), .lit (.int .u64 0), .lit (.int .u64 0), .lit (.int .u64 0), .lit (.int .u64 0), .lit (.int .u64 0), .lit (.int .u64 0), .lit (.int .u64 0), .lit (.int .u64 0), .lit (.int .u64 0), .lit (.int .u64 0), .lit (.int .u64 0), .lit (.int .u64 0), .lit (.int .u64 0), .lit (.int .u64 0), .lit (.int .u64 0), .lit (.int .u64 0), .lit (.int .u64 0), .lit (.int .u64 0), .lit (.int .u64 0), .lit (.int .u64 0), .lit (.int .u64 0), .lit (.int .u64 0), .lit (.int .u64 0), .lit (.int .u64 0), .lit (.int .u64 0), .lit (.int .u64 0), .lit (.int .u64 0), .lit (.int .u64 0), .lit (.int .u64 0), .lit (.int .u64 0), .lit (.int .u64 0), .lit (.int .u64 0), .lit (.int .u64 0), .lit (.int .u64 0), .lit (.int .u64 0), .lit (.int .u64 0), .lit (.int .u64 0), .lit (.int .u64 0), .lit (.int .u64 0), .lit (.int .u64 0), .lit (.int .u64 0), .lit (.int .u64 0), .lit (.int .u64 0), .lit (.int .u64 0), .lit (.int .u64 0), .lit (.int .u64 0), .lit (.int .u64 0), .lit (.int .u64 0), .lit (.int .u64 0), .lit (.int .u64 0), .lit (.int .u64 0), .lit (.int .u64 0), .lit (.int .u64 0), .lit (.int .u64 0), .lit (.int .u64 0), .lit (.int .u64 0), .lit (.int .u64 0), .lit (.int .u64 0), .lit (.int .u64 0), .lit (.int .u64 0), .lit (.int .u64 0), .lit (.int .u64 0), .lit (.int .u64 0), .lit (.int .u64 0), .lit (.int .u64 0), .lit (.int .u64 0), .lit (.int .u64 0), .lit (.int .u64 0), .lit (.int .u64 0), .lit (.int .u64 0), .lit (.int .u64 0), .lit (.int .u64 0), .lit (.int .u64 0), .lit (.int .u64 0), .lit (.int .u64 0), .lit (.int .u64 0), .lit (.int .u64 0), .lit (.int .u64 0), .lit (.int .u64 0), .lit (.int .u64 0), .lit (.int .u64 0), .lit (.int .u64 0), .lit (.int .u64 0), .lit (.int .u64 0), .lit (.int .u64 0), .lit (.int .u64 0), .lit (.int .u64 0), .lit (.int .u64 0), .lit (.int .u64 0), .lit (.int .u64 0), .lit (.int .u64 0), .lit (.int .u64 0), .lit (.int .u64 0), .lit (.int .u64 0), .lit (.int .u64 0), .lit (.int .u64 0), .lit (.int .u64 0), .lit (.int .u64 0), .lit (.int .u64 0), .lit (.int .u64 0), .lit (.int .u64 0), .lit (.int .u64 0), .lit (.int .u64 0), .lit (.int .u64 0), .lit (.int .u64 0), .lit (.int .u64 0), .lit (.int .u64 0), .lit (.int .u64 0), .lit (.int .u64 0), .lit (.int .u64 0), .lit (.int .u64 0), .lit (.int .u64 0), .lit (.int .u64 0), .lit (.int .u64 0), .lit (.int .u64 0), .lit (.int .u64 0), .lit (.int .u64 0), .lit (.int .u64 0), .lit (.int .u64 0)]

/-- 'controller.LawS1844CRoundTrip': WHATEVER THE INPUT: true; the input reads as it did. -/
def lawS1844CRoundTripSpec : ChangeSpec := { name := "lawS1844CRoundTrip", vars := ["example.com/corelith/corelith/internal/controller.longID", "example.com/corelith/corelith/internal/controller.idDigit"], fn := fun _ => fun
  | [d, g1, g2] => { results := [.lit (.bool true)], args := [d], vars := [g1, g2] }
  | _ => none }
def lawS1844CRoundTripRow : OpenClaim := { program := "ybulkaldydoor", sum := "99e0c5aa7558d6a333167b35853e60626002652b76330a6502d9bc890c564eec", func := "example.com/corelith/corelith/internal/controller.LawS1844CRoundTrip", spec := "lawS1844CRoundTrip", inPlace := ["math/bits.Add64", "math/bits.Sub64", "internal/abi.NoEscape"], named := ["example.com/corelith/corelith/internal/controller.longID", "example.com/corelith/corelith/internal/controller.idDigit", "math/bits.divideError", "math/bits.overflowError"], apart := false, laid := [("example.com/corelith/corelith/internal/controller.longID", laid_example_com_corelith_corelith_internal_controller_longID), ("example.com/corelith/corelith/internal/controller.idDigit", laid_example_com_corelith_corelith_internal_controller_idDigit)] }
def LawS1844CRoundTripSaid : Prop := lawS1844CRoundTripRow.holds Ybad.pinned (OpenSpec.ofChange lawS1844CRoundTripSpec)

/-- ITS FALSE NEIGHBOUR: 'it returns false'. Refute it at one input. -/
def lawS1844CRoundTripWrong : ChangeSpec := { name := "lawS1844CRoundTrip", vars := ["example.com/corelith/corelith/internal/controller.longID", "example.com/corelith/corelith/internal/controller.idDigit"], fn := fun _ => fun
  | [d, g1, g2] => { results := [.lit (.bool false)], args := [d], vars := [g1, g2] }
  | _ => none }
def LawS1844CRoundTripWrongFalsely : Prop := lawS1844CRoundTripRow.holds Ybad.pinned (OpenSpec.ofChange lawS1844CRoundTripWrong)

/-- 'controller.LawS1844CShortDigits': WHATEVER THE INPUT: true; the input reads as it did. -/
def lawS1844CShortDigitsSpec : ChangeSpec := { name := "lawS1844CShortDigits", vars := ["example.com/corelith/corelith/internal/controller.longID"], fn := fun _ => fun
  | [d, g1] => { results := [.lit (.bool true)], args := [d], vars := [g1] }
  | _ => none }
def lawS1844CShortDigitsRow : OpenClaim := { program := "ybulkaldydoor", sum := "99e0c5aa7558d6a333167b35853e60626002652b76330a6502d9bc890c564eec", func := "example.com/corelith/corelith/internal/controller.LawS1844CShortDigits", spec := "lawS1844CShortDigits", inPlace := ["math/bits.Sub64", "internal/abi.NoEscape"], named := ["example.com/corelith/corelith/internal/controller.longID", "math/bits.divideError", "math/bits.overflowError"], apart := false, laid := [("example.com/corelith/corelith/internal/controller.longID", laid_example_com_corelith_corelith_internal_controller_longID)] }
def LawS1844CShortDigitsSaid : Prop := lawS1844CShortDigitsRow.holds Ybad.pinned (OpenSpec.ofChange lawS1844CShortDigitsSpec)

/-- ITS FALSE NEIGHBOUR: 'it returns false'. Refute it at one input. -/
def lawS1844CShortDigitsWrong : ChangeSpec := { name := "lawS1844CShortDigits", vars := ["example.com/corelith/corelith/internal/controller.longID"], fn := fun _ => fun
  | [d, g1] => { results := [.lit (.bool false)], args := [d], vars := [g1] }
  | _ => none }
def LawS1844CShortDigitsWrongFalsely : Prop := lawS1844CShortDigitsRow.holds Ybad.pinned (OpenSpec.ofChange lawS1844CShortDigitsWrong)

/-- 'controller.LawS1844CLong': WHATEVER THE INPUT: true; the input reads as it did. -/
def lawS1844CLongSpec : ChangeSpec := { name := "lawS1844CLong", vars := ["example.com/corelith/corelith/internal/controller.longID"], fn := fun _ => fun
  | [d, g1] => { results := [.lit (.bool true)], args := [d], vars := [g1] }
  | _ => none }
def lawS1844CLongRow : OpenClaim := { program := "ybulkaldydoor", sum := "99e0c5aa7558d6a333167b35853e60626002652b76330a6502d9bc890c564eec", func := "example.com/corelith/corelith/internal/controller.LawS1844CLong", spec := "lawS1844CLong", inPlace := ["math/bits.Sub64", "internal/abi.NoEscape"], named := ["example.com/corelith/corelith/internal/controller.longID", "math/bits.divideError", "math/bits.overflowError"], apart := false, laid := [("example.com/corelith/corelith/internal/controller.longID", laid_example_com_corelith_corelith_internal_controller_longID)] }
def LawS1844CLongSaid : Prop := lawS1844CLongRow.holds Ybad.pinned (OpenSpec.ofChange lawS1844CLongSpec)

/-- ITS FALSE NEIGHBOUR: 'it returns false'. Refute it at one input. -/
def lawS1844CLongWrong : ChangeSpec := { name := "lawS1844CLong", vars := ["example.com/corelith/corelith/internal/controller.longID"], fn := fun _ => fun
  | [d, g1] => { results := [.lit (.bool false)], args := [d], vars := [g1] }
  | _ => none }
def LawS1844CLongWrongFalsely : Prop := lawS1844CLongRow.holds Ybad.pinned (OpenSpec.ofChange lawS1844CLongWrong)

end Rows
end Go.Proofs.YbulkaldyDoor
