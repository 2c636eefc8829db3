/-
  No cell of these rows narrows 'for every input' (looked for: loops, veiled, ifaces, maps, wideKeys, modest, calm, conditions, laid).
  DERIVED. THE GIVEN ROWS OF THIS SEAT. 2 by the template 'for every input the law returns true; each argument reads behind the call as it read before'; 0 by the template 'total and deterministic' (their statements: YbulkaknuTotals.lean).
  GIVEN WITH THE SEED: the statements are not yours to turn. If you find one false, say at which input.
  Laid BY PROGRAM, IN A SANDBOX (cutbox-rows.mjs): the forced cells as the released guide's own fill.sh prints them over the translation 6a281567afb5d99d… (all of the seat's roots in one cut). By AI agents, Wed Nov 11 2026. No macro, syntax, notation, axiom, sorry.
-/
import Derived.Test.YbulkaknuChecked
import GoSem.Claim
import GoSem.ClaimJoined
import GoSem.ClaimMapViews
import Derived.JoinedTies
import Derived.KernelRfl
namespace Go.Proofs.Ybulkaknu
/- THE CELL 'sum', in the pinned program and in every row, IS THE sha256 OF THE DUMP (.gsa) THAT YbulkaknuProg.lean LOADS. Nothing in Lean hashes anything: it is a label: what it is worth is what the hold of that sum in a sandbox is worth. -/
noncomputable def Yba.pinned : Pinned := { name := "ybulkaknu", sum := "6a281567afb5d99d95e731e708d2d0917490eae4e226c62e463870607dc5abd1", checked := Yba.checked }
namespace Rows
def none {H : Type} : Left H := { results := [], args := [] }

/-- 'rackfold.LawS1814ACycle': WHATEVER THE INPUT: true; the input reads as it did. -/
def lawS1814ACycleSpec : ChangeSpec := { name := "lawS1814ACycle", fn := fun _ => fun
  | [d] => { results := [.lit (.bool true)], args := [d] }
  | _ => none }
def lawS1814ACycleRow : OpenClaim := { program := "ybulkaknu", sum := "6a281567afb5d99d95e731e708d2d0917490eae4e226c62e463870607dc5abd1", func := "example.com/rackfold/rackfold.LawS1814ACycle", spec := "lawS1814ACycle", apart := false }
def LawS1814ACycleSaid : Prop := lawS1814ACycleRow.holds Yba.pinned (OpenSpec.ofChange lawS1814ACycleSpec)

/-- ITS FALSE NEIGHBOUR: 'it returns false'. Refute it at one input. -/
def lawS1814ACycleWrong : ChangeSpec := { name := "lawS1814ACycle", fn := fun _ => fun
  | [d] => { results := [.lit (.bool false)], args := [d] }
  | _ => none }
def LawS1814ACycleWrongFalsely : Prop := lawS1814ACycleRow.holds Yba.pinned (OpenSpec.ofChange lawS1814ACycleWrong)

/-- 'rackfold.LawS1814BCycle': WHATEVER THE INPUT: true; the input reads as it did. -/
def lawS1814BCycleSpec : ChangeSpec := { name := "lawS1814BCycle", fn := fun _ => fun
  | [d1, d2] => { results := [.lit (.bool true)], args := [d1, d2] }
  | _ => none }
def lawS1814BCycleRow : OpenClaim := { program := "ybulkaknu", sum := "6a281567afb5d99d95e731e708d2d0917490eae4e226c62e463870607dc5abd1", func := "example.com/rackfold/rackfold.LawS1814BCycle", spec := "lawS1814BCycle", apart := false }
def LawS1814BCycleSaid : Prop := lawS1814BCycleRow.holds Yba.pinned (OpenSpec.ofChange lawS1814BCycleSpec)

/-- ITS FALSE NEIGHBOUR: 'it returns false'. Refute it at one input. -/
def lawS1814BCycleWrong : ChangeSpec := { name := "lawS1814BCycle", fn := fun _ => fun
  | [d1, d2] => { results := [.lit (.bool false)], args := [d1, d2] }
  | _ => none }
def LawS1814BCycleWrongFalsely : Prop := lawS1814BCycleRow.holds Yba.pinned (OpenSpec.ofChange lawS1814BCycleWrong)

end Rows
end Go.Proofs.Ybulkaknu
