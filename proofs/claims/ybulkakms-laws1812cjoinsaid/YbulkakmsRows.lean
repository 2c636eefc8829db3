/-
  No cell of these rows narrows 'for every input' (looked for: loops, veiled, ifaces, maps, wideKeys, modest, calm, conditions, laid).
  DERIVED. THE GIVEN ROWS OF THIS SEAT. 3 by the template 'for every input the law returns true; each argument reads behind the call as it read before'; 0 by the template 'total and deterministic' (their statements: YbulkakmsTotals.lean).
  GIVEN WITH THE SEED: the statements are not yours to turn. If you find one false, say at which input.
  Laid BY PROGRAM, IN A SANDBOX (cutbox-rows.mjs): the forced cells as the released guide's own fill.sh prints them over the translation fc38485a366302fb… (all of the seat's roots in one cut). By AI agents, Wed Nov 11 2026. No macro, syntax, notation, axiom, sorry.
-/
import Derived.Test.YbulkakmsChecked
import GoSem.Claim
import GoSem.ClaimJoined
import GoSem.ClaimMapViews
import Derived.JoinedTies
import Derived.KernelRfl
namespace Go.Proofs.Ybulkakms
/- THE CELL 'sum', in the pinned program and in every row, IS THE sha256 OF THE DUMP (.gsa) THAT YbulkakmsProg.lean LOADS. Nothing in Lean hashes anything: it is a label: what it is worth is what the hold of that sum in a sandbox is worth. -/
noncomputable def Yba.pinned : Pinned := { name := "ybulkakms", sum := "fc38485a366302fb77efdf2223a8fc9e92f7ca0aba46ab53ce07909baa34829f", checked := Yba.checked }
namespace Rows
def none {H : Type} : Left H := { results := [], args := [] }

/-- 'usnwalk.LawS1812AMerge': WHATEVER THE INPUT: true; the input reads as it did. -/
def lawS1812AMergeSpec : ChangeSpec := { name := "lawS1812AMerge", fn := fun _ => fun
  | [d1, d2, d3, d4, d5] => { results := [.lit (.bool true)], args := [d1, d2, d3, d4, d5] }
  | _ => none }
def lawS1812AMergeRow : OpenClaim := { program := "ybulkakms", sum := "fc38485a366302fb77efdf2223a8fc9e92f7ca0aba46ab53ce07909baa34829f", func := "example.com/usnwalk/usnwalk.LawS1812AMerge", spec := "lawS1812AMerge", plainKeys := false, apart := false }
def LawS1812AMergeSaid : Prop := lawS1812AMergeRow.holds Yba.pinned (OpenSpec.ofChange lawS1812AMergeSpec)

/-- ITS FALSE NEIGHBOUR: 'it returns false'. Refute it at one input. -/
def lawS1812AMergeWrong : ChangeSpec := { name := "lawS1812AMerge", fn := fun _ => fun
  | [d1, d2, d3, d4, d5] => { results := [.lit (.bool false)], args := [d1, d2, d3, d4, d5] }
  | _ => none }
def LawS1812AMergeWrongFalsely : Prop := lawS1812AMergeRow.holds Yba.pinned (OpenSpec.ofChange lawS1812AMergeWrong)

/-- 'usnwalk.LawS1812CJoin': WHATEVER THE INPUT: true; the input reads as it did. -/
def lawS1812CJoinSpec : ChangeSpec := { name := "lawS1812CJoin", fn := fun _ => fun
  | [d1, d2, d3] => { results := [.lit (.bool true)], args := [d1, d2, d3] }
  | _ => none }
def lawS1812CJoinRow : OpenClaim := { program := "ybulkakms", sum := "fc38485a366302fb77efdf2223a8fc9e92f7ca0aba46ab53ce07909baa34829f", func := "example.com/usnwalk/usnwalk.LawS1812CJoin", spec := "lawS1812CJoin", inPlace := ["slices.overlaps[example.com/usnwalk/usnwalk.VersionCount]"], unfollowed := true, recurses := true, plainKeys := false, apart := false }
def LawS1812CJoinSaid : Prop := lawS1812CJoinRow.holds Yba.pinned (OpenSpec.ofChange lawS1812CJoinSpec)

/-- ITS FALSE NEIGHBOUR: 'it returns false'. Refute it at one input. -/
def lawS1812CJoinWrong : ChangeSpec := { name := "lawS1812CJoin", fn := fun _ => fun
  | [d1, d2, d3] => { results := [.lit (.bool false)], args := [d1, d2, d3] }
  | _ => none }
def LawS1812CJoinWrongFalsely : Prop := lawS1812CJoinRow.holds Yba.pinned (OpenSpec.ofChange lawS1812CJoinWrong)

/-- 'usnwalk.LawS1812CJoinIsAdd': WHATEVER THE INPUT: true; the input reads as it did. -/
def lawS1812CJoinIsAddSpec : ChangeSpec := { name := "lawS1812CJoinIsAdd", fn := fun _ => fun
  | [d1, d2] => { results := [.lit (.bool true)], args := [d1, d2] }
  | _ => none }
def lawS1812CJoinIsAddRow : OpenClaim := { program := "ybulkakms", sum := "fc38485a366302fb77efdf2223a8fc9e92f7ca0aba46ab53ce07909baa34829f", func := "example.com/usnwalk/usnwalk.LawS1812CJoinIsAdd", spec := "lawS1812CJoinIsAdd", inPlace := ["slices.overlaps[example.com/usnwalk/usnwalk.VersionCount]"], unfollowed := true, recurses := true, plainKeys := false, apart := false }
def LawS1812CJoinIsAddSaid : Prop := lawS1812CJoinIsAddRow.holds Yba.pinned (OpenSpec.ofChange lawS1812CJoinIsAddSpec)

/-- ITS FALSE NEIGHBOUR: 'it returns false'. Refute it at one input. -/
def lawS1812CJoinIsAddWrong : ChangeSpec := { name := "lawS1812CJoinIsAdd", fn := fun _ => fun
  | [d1, d2] => { results := [.lit (.bool false)], args := [d1, d2] }
  | _ => none }
def LawS1812CJoinIsAddWrongFalsely : Prop := lawS1812CJoinIsAddRow.holds Yba.pinned (OpenSpec.ofChange lawS1812CJoinIsAddWrong)

end Rows
end Go.Proofs.Ybulkakms
