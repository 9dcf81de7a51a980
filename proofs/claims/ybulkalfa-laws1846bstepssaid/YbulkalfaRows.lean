/-
  No cell of these rows narrows 'for every input' (looked for: loops, veiled, ifaces, maps, wideKeys, modest, calm, conditions, laid).
  DERIVED. THE GIVEN ROWS OF THIS SEAT. 5 by the template 'for every input the law returns true; each argument reads behind the call as it read before'; 0 by the template 'total and deterministic' (their statements: YbulkalfaTotals.lean).
  GIVEN WITH THE SEED: the statements are not yours to turn. If you find one false, say at which input.
  Laid BY PROGRAM, IN A SANDBOX (cutbox-rows.mjs): the forced cells as the released guide's own fill.sh prints them over the translation 0fc7bc925b3c8c06… (all of the seat's roots in one cut). By AI agents, Wed Nov 11 2026. No macro, syntax, notation, axiom, sorry.
-/
import Derived.Test.YbulkalfaChecked
import GoSem.Claim
import GoSem.ClaimJoined
import GoSem.ClaimMapViews
import Derived.JoinedTies
import Derived.KernelRfl
namespace Go.Proofs.Ybulkalfa
/- THE CELL 'sum', in the pinned program and in every row, IS THE sha256 OF THE DUMP (.gsa) THAT YbulkalfaProg.lean LOADS. Nothing in Lean hashes anything: it is a label: what it is worth is what the hold of that sum in a sandbox is worth. -/
noncomputable def Yba.pinned : Pinned := { name := "ybulkalfa", sum := "0fc7bc925b3c8c06848773291f3114b4519055be40935422f0a9e838005ab9ca", checked := Yba.checked }
namespace Rows
def none {H : Type} : Left H := { results := [], args := [] }

/-- 'narrowband.LawS1846BModel': WHATEVER THE INPUT: true; the input reads as it did. -/
def lawS1846BModelSpec : ChangeSpec := { name := "lawS1846BModel", fn := fun _ => fun
  | [d1, d2] => { results := [.lit (.bool true)], args := [d1, d2] }
  | _ => none }
def lawS1846BModelRow : OpenClaim := { program := "ybulkalfa", sum := "0fc7bc925b3c8c06848773291f3114b4519055be40935422f0a9e838005ab9ca", func := "example.com/narrowband/narrowband.LawS1846BModel", spec := "lawS1846BModel", apart := false }
def LawS1846BModelSaid : Prop := lawS1846BModelRow.holds Yba.pinned (OpenSpec.ofChange lawS1846BModelSpec)

/-- ITS FALSE NEIGHBOUR: 'it returns false'. Refute it at one input. -/
def lawS1846BModelWrong : ChangeSpec := { name := "lawS1846BModel", fn := fun _ => fun
  | [d1, d2] => { results := [.lit (.bool false)], args := [d1, d2] }
  | _ => none }
def LawS1846BModelWrongFalsely : Prop := lawS1846BModelRow.holds Yba.pinned (OpenSpec.ofChange lawS1846BModelWrong)

/-- 'narrowband.LawS1846BSteps': WHATEVER THE INPUT: true; the input reads as it did. -/
def lawS1846BStepsSpec : ChangeSpec := { name := "lawS1846BSteps", fn := fun _ => fun
  | [d1, d2, d3] => { results := [.lit (.bool true)], args := [d1, d2, d3] }
  | _ => none }
def lawS1846BStepsRow : OpenClaim := { program := "ybulkalfa", sum := "0fc7bc925b3c8c06848773291f3114b4519055be40935422f0a9e838005ab9ca", func := "example.com/narrowband/narrowband.LawS1846BSteps", spec := "lawS1846BSteps", apart := false }
def LawS1846BStepsSaid : Prop := lawS1846BStepsRow.holds Yba.pinned (OpenSpec.ofChange lawS1846BStepsSpec)

/-- ITS FALSE NEIGHBOUR: 'it returns false'. Refute it at one input. -/
def lawS1846BStepsWrong : ChangeSpec := { name := "lawS1846BSteps", fn := fun _ => fun
  | [d1, d2, d3] => { results := [.lit (.bool false)], args := [d1, d2, d3] }
  | _ => none }
def LawS1846BStepsWrongFalsely : Prop := lawS1846BStepsRow.holds Yba.pinned (OpenSpec.ofChange lawS1846BStepsWrong)

/-- 'narrowband.LawS1846CDivides': WHATEVER THE INPUT: true; the input reads as it did. -/
def lawS1846CDividesSpec : ChangeSpec := { name := "lawS1846CDivides", fn := fun _ => fun
  | [d1, d2] => { results := [.lit (.bool true)], args := [d1, d2] }
  | _ => none }
def lawS1846CDividesRow : OpenClaim := { program := "ybulkalfa", sum := "0fc7bc925b3c8c06848773291f3114b4519055be40935422f0a9e838005ab9ca", func := "example.com/narrowband/narrowband.LawS1846CDivides", spec := "lawS1846CDivides", apart := false }
def LawS1846CDividesSaid : Prop := lawS1846CDividesRow.holds Yba.pinned (OpenSpec.ofChange lawS1846CDividesSpec)

/-- ITS FALSE NEIGHBOUR: 'it returns false'. Refute it at one input. -/
def lawS1846CDividesWrong : ChangeSpec := { name := "lawS1846CDivides", fn := fun _ => fun
  | [d1, d2] => { results := [.lit (.bool false)], args := [d1, d2] }
  | _ => none }
def LawS1846CDividesWrongFalsely : Prop := lawS1846CDividesRow.holds Yba.pinned (OpenSpec.ofChange lawS1846CDividesWrong)

/-- 'narrowband.LawS1846CCoprime': WHATEVER THE INPUT: true; the input reads as it did. -/
def lawS1846CCoprimeSpec : ChangeSpec := { name := "lawS1846CCoprime", fn := fun _ => fun
  | [d1, d2] => { results := [.lit (.bool true)], args := [d1, d2] }
  | _ => none }
def lawS1846CCoprimeRow : OpenClaim := { program := "ybulkalfa", sum := "0fc7bc925b3c8c06848773291f3114b4519055be40935422f0a9e838005ab9ca", func := "example.com/narrowband/narrowband.LawS1846CCoprime", spec := "lawS1846CCoprime", apart := false }
def LawS1846CCoprimeSaid : Prop := lawS1846CCoprimeRow.holds Yba.pinned (OpenSpec.ofChange lawS1846CCoprimeSpec)

/-- ITS FALSE NEIGHBOUR: 'it returns false'. Refute it at one input. -/
def lawS1846CCoprimeWrong : ChangeSpec := { name := "lawS1846CCoprime", fn := fun _ => fun
  | [d1, d2] => { results := [.lit (.bool false)], args := [d1, d2] }
  | _ => none }
def LawS1846CCoprimeWrongFalsely : Prop := lawS1846CCoprimeRow.holds Yba.pinned (OpenSpec.ofChange lawS1846CCoprimeWrong)

/-- 'narrowband.LawS1846CModel': WHATEVER THE INPUT: true; the input reads as it did. -/
def lawS1846CModelSpec : ChangeSpec := { name := "lawS1846CModel", fn := fun _ => fun
  | [d1, d2] => { results := [.lit (.bool true)], args := [d1, d2] }
  | _ => none }
def lawS1846CModelRow : OpenClaim := { program := "ybulkalfa", sum := "0fc7bc925b3c8c06848773291f3114b4519055be40935422f0a9e838005ab9ca", func := "example.com/narrowband/narrowband.LawS1846CModel", spec := "lawS1846CModel", apart := false }
def LawS1846CModelSaid : Prop := lawS1846CModelRow.holds Yba.pinned (OpenSpec.ofChange lawS1846CModelSpec)

/-- ITS FALSE NEIGHBOUR: 'it returns false'. Refute it at one input. -/
def lawS1846CModelWrong : ChangeSpec := { name := "lawS1846CModel", fn := fun _ => fun
  | [d1, d2] => { results := [.lit (.bool false)], args := [d1, d2] }
  | _ => none }
def LawS1846CModelWrongFalsely : Prop := lawS1846CModelRow.holds Yba.pinned (OpenSpec.ofChange lawS1846CModelWrong)

end Rows
end Go.Proofs.Ybulkalfa
