/-
  DERIVED. GIVEN WITH THE SEED: THE CARDS: each row of YbulkakoiDoorRows.lean that lists a variable, with what it lists TIED to the program's text (the seventh form; the later family's looks); each row that meets fmt, with fmt's text TOLD by the authors' own Lean function (tested against real Go, not proved from fmt's source: count such statements apart). THE CARD IS WHAT COUNTS. Prove the row's statement (the work); the ties are given (YbulkakoiDoorTie.lean); close each card by the builder's one call (the guide's Derived/Test/ToyasCard.lean, 'card_holds'). Laid BY PROGRAM, IN A SANDBOX (cutbox-door.mjs). By AI agents, Wed Nov 11 2026. No macro, syntax, notation, axiom, sorry.
-/
import Derived.Test.YbulkakoiDoorRows
import GoSem.ClaimSeven
namespace Go.Proofs.YbulkakoiDoor
namespace Rows

/-- THE TIED CARD OF 'ber.LawS1815BStream'. -/
def lawS1815BStreamCard : Claim7 := { stood := { row := lawS1815BStreamRow, standIns := [], harness := (true, "6fab049d74791c2be470f5bfcad668c476dec8c802eeddcb1f9e97bc00cd8960"), looks := true }, kinds := [], alts := [], laidByText := true, laidKinds := [.sentinel, .sentinel, .sentinel, .sentinel, .sentinel], laidTests := true, laidLooks := .later }
def LawS1815BStreamCardSaid : Prop := Claim7.holds Ybad.pinned (.plain (OpenSpec.ofChange lawS1815BStreamSpec)) lawS1815BStreamCard

/-- THE TIED CARD OF 'ber.LawS1815BHeld'. -/
def lawS1815BHeldCard : Claim7 := { stood := { row := lawS1815BHeldRow, standIns := [], harness := (true, "6fab049d74791c2be470f5bfcad668c476dec8c802eeddcb1f9e97bc00cd8960"), looks := true }, kinds := [], alts := [], laidByText := true, laidKinds := [.sentinel, .sentinel, .sentinel, .sentinel, .sentinel], laidTests := true, laidLooks := .later }
def LawS1815BHeldCardSaid : Prop := Claim7.holds Ybad.pinned (.plain (OpenSpec.ofChange lawS1815BHeldSpec)) lawS1815BHeldCard

/-- THE TIED CARD OF 'dict.LawS1815CPlain'. -/
def lawS1815CPlainCard : Claim7 := { stood := { row := lawS1815CPlainRow, standIns := [], harness := (true, "6fab049d74791c2be470f5bfcad668c476dec8c802eeddcb1f9e97bc00cd8960"), looks := true }, kinds := [], alts := [], laidByText := true, laidKinds := [.wider], laidTests := true, laidLooks := .later }
def LawS1815CPlainCardSaid : Prop := Claim7.holds Ybad.pinned (.plain (OpenSpec.ofChange lawS1815CPlainSpec)) lawS1815CPlainCard

/-- THE TIED CARD OF 'dict.LawS1815CChoice'. -/
def lawS1815CChoiceCard : Claim7 := { stood := { row := lawS1815CChoiceRow, standIns := [], harness := (true, "6fab049d74791c2be470f5bfcad668c476dec8c802eeddcb1f9e97bc00cd8960"), looks := true }, kinds := [], alts := [], laidByText := true, laidKinds := [.wider], laidTests := true, laidLooks := .later }
def LawS1815CChoiceCardSaid : Prop := Claim7.holds Ybad.pinned (.plain (OpenSpec.ofChange lawS1815CChoiceSpec)) lawS1815CChoiceCard
end Rows
end Go.Proofs.YbulkakoiDoor
