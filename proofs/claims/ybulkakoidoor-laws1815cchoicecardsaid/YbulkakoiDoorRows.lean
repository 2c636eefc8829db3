/-
  NARROWER THAN 'FOR EVERY INPUT', by the rows' own cells (each row's printed sentence says how): LawS1815BStream: laid · LawS1815BHeld: laid · LawS1815CPlain: laid · LawS1815CChoice: laid.
  DERIVED. THE GIVEN ROWS OF THIS SEAT. 4 by the template 'for every input the law returns true; each argument reads behind the call as it read before'; 0 by the template 'total and deterministic' (their statements: YbulkakoiDoorTotals.lean).
  GIVEN WITH THE SEED: the statements are not yours to turn. If you find one false, say at which input.
  Laid BY PROGRAM, IN A SANDBOX (cutbox-rows.mjs): the forced cells as the released guide's own fill.sh prints them over the translation cf8df2339ebaa71e… (all of the seat's roots in one cut). By AI agents, Wed Nov 11 2026. No macro, syntax, notation, axiom, sorry.
-/
import Derived.Test.YbulkakoiDoorChecked
import GoSem.Claim
import GoSem.ClaimJoined
import GoSem.ClaimMapViews
import Derived.JoinedTies
import Derived.KernelRfl
namespace Go.Proofs.YbulkakoiDoor
/- THE CELL 'sum', in the pinned program and in every row, IS THE sha256 OF THE DUMP (.gsa) THAT YbulkakoiDoorProg.lean LOADS. Nothing in Lean hashes anything: it is a label: what it is worth is what the hold of that sum in a sandbox is worth. -/
noncomputable def Ybad.pinned : Pinned := { name := "ybulkakoidoor", sum := "cf8df2339ebaa71e88a8cb9b39ca9fdaab78449e52adbc06fbbbae28ecde9b1d", checked := Ybad.checked }
namespace Rows
def none {H : Type} : Left H := { results := [], args := [] }

/- WHAT THE LISTED PACKAGE-LEVEL VARIABLES READ AS WHEN THE CALL BEGINS. Each datum BY PROGRAM (the guide's laid-datum.mjs) off the statement by which the dump's own 'gosem.cut.vars' lays the variable. In a bare row this is a premise. The card (YbulkakoiDoorCards.lean) ties it to the program's text. -/
def laid_io_EOF {H : Type} : DataW H := .iface "*errors.errorString" (.ptr (.agg [.lit (.string [69, 79, 70])]))
def laid_io_ErrNoProgress {H : Type} : DataW H := .iface "*errors.errorString" (.ptr (.agg [.lit (.string [109, 117, 108, 116, 105, 112, 108, 101, 32, 82, 101, 97, 100, 32, 99, 97, 108, 108, 115, 32, 114, 101, 116, 117, 114, 110, 32, 110, 111, 32, 100, 97, 116, 97, 32, 111, 114, 32, 101, 114, 114, 111, 114])]))
def laid_bufio_ErrBufferFull {H : Type} : DataW H := .iface "*errors.errorString" (.ptr (.agg [.lit (.string [98, 117, 102, 105, 111, 58, 32, 98, 117, 102, 102, 101, 114, 32, 102, 117, 108, 108])]))
def laid_bufio_ErrNegativeCount {H : Type} : DataW H := .iface "*errors.errorString" (.ptr (.agg [.lit (.string [98, 117, 102, 105, 111, 58, 32, 110, 101, 103, 97, 116, 105, 118, 101, 32, 99, 111, 117, 110, 116])]))
def laid_bufio_errNegativeRead {H : Type} : DataW H := .iface "*errors.errorString" (.ptr (.agg [.lit (.string [98, 117, 102, 105, 111, 58, 32, 114, 101, 97, 100, 101, 114, 32, 114, 101, 116, 117, 114, 110, 101, 100, 32, 110, 101, 103, 97, 116, 105, 118, 101, 32, 99, 111, 117, 110, 116, 32, 102, 114, 111, 109, 32, 82, 101, 97, 100])]))
def laid_example_com_tollbook_tollbook_internal_dict_kinds {H : Type} : DataW H := .agg [.agg [.lit (.string []), .lit (.int .u32 0), .lit (.bool false), .lit (.bool false)], .agg [.lit (.string [73, 78, 84, 69, 71, 69, 82]), .lit (.int .u32 2), .lit (.bool false), .lit (.bool false)], .agg [.lit (.string [69, 78, 85, 77, 69, 82, 65, 84, 69, 68]), .lit (.int .u32 10), .lit (.bool false), .lit (.bool false)], .agg [.lit (.string [66, 79, 79, 76, 69, 65, 78]), .lit (.int .u32 1), .lit (.bool false), .lit (.bool false)], .agg [.lit (.string [78, 85, 76, 76]), .lit (.int .u32 5), .lit (.bool false), .lit (.bool false)], .agg [.lit (.string [79, 67, 84, 69, 84, 32, 83, 84, 82, 73, 78, 71]), .lit (.int .u32 4), .lit (.bool false), .lit (.bool false)], .agg [.lit (.string [66, 73, 84, 32, 83, 84, 82, 73, 78, 71]), .lit (.int .u32 3), .lit (.bool false), .lit (.bool false)], .agg [.lit (.string [73, 65, 53, 83, 116, 114, 105, 110, 103]), .lit (.int .u32 22), .lit (.bool false), .lit (.bool false)], .agg [.lit (.string [85, 84, 70, 56, 83, 116, 114, 105, 110, 103]), .lit (.int .u32 12), .lit (.bool false), .lit (.bool false)], .agg [.lit (.string [83, 69, 81, 85, 69, 78, 67, 69]), .lit (.int .u32 16), .lit (.bool true), .lit (.bool false)], .agg [.lit (.string [83, 69, 84]), .lit (.int .u32 17), .lit (.bool true), .lit (.bool false)], .agg [.lit (.string [83, 69, 81, 85, 69, 78, 67, 69, 32, 79, 70]), .lit (.int .u32 16), .lit (.bool true), .lit (.bool true)], .agg [.lit (.string [67, 72, 79, 73, 67, 69]), .lit (.int .u32 0), .lit (.bool false), .lit (.bool false)], .agg [.lit (.string [79, 66, 74, 69, 67, 84, 32, 73, 68, 69, 78, 84, 73, 70, 73, 69, 82]), .lit (.int .u32 6), .lit (.bool false), .lit (.bool false)], .agg [.lit (.string [83, 69, 84, 32, 79, 70]), .lit (.int .u32 17), .lit (.bool true), .lit (.bool true)], .agg [.lit (.string [65, 78, 89]), .lit (.int .u32 0), .lit (.bool false), .lit (.bool false)]]

/-- 'ber.LawS1815BStream': WHATEVER THE INPUT: true; the input reads as it did. -/
def lawS1815BStreamSpec : ChangeSpec := { name := "lawS1815BStream", fn := fun _ => fun
  | [d1, d2, d3, d4, d5] => { results := [.lit (.bool true)], args := [d1, d2, d3, d4, d5] }
  | _ => none }
def lawS1815BStreamRow : OpenClaim := { program := "ybulkakoidoor", sum := "cf8df2339ebaa71e88a8cb9b39ca9fdaab78449e52adbc06fbbbae28ecde9b1d", func := "example.com/tollbook/tollbook/internal/ber.LawS1815BStream", spec := "lawS1815BStream", inPlace := ["internal/reflectlite.TypeOf"], unfollowed := true, recurses := true, named := ["io.EOF", "bufio.ErrNegativeCount", "bufio.ErrBufferFull", "bufio.errNegativeRead", "io.ErrNoProgress"], plainKeys := false, apart := false, laid := [("io.EOF", laid_io_EOF), ("io.ErrNoProgress", laid_io_ErrNoProgress), ("bufio.ErrBufferFull", laid_bufio_ErrBufferFull), ("bufio.ErrNegativeCount", laid_bufio_ErrNegativeCount), ("bufio.errNegativeRead", laid_bufio_errNegativeRead)] }
def LawS1815BStreamSaid : Prop := lawS1815BStreamRow.holds Ybad.pinned (OpenSpec.ofChange lawS1815BStreamSpec)

/-- ITS FALSE NEIGHBOUR: 'it returns false'. Refute it at one input. -/
def lawS1815BStreamWrong : ChangeSpec := { name := "lawS1815BStream", fn := fun _ => fun
  | [d1, d2, d3, d4, d5] => { results := [.lit (.bool false)], args := [d1, d2, d3, d4, d5] }
  | _ => none }
def LawS1815BStreamWrongFalsely : Prop := lawS1815BStreamRow.holds Ybad.pinned (OpenSpec.ofChange lawS1815BStreamWrong)

/-- 'ber.LawS1815BHeld': WHATEVER THE INPUT: true; the input reads as it did. -/
def lawS1815BHeldSpec : ChangeSpec := { name := "lawS1815BHeld", fn := fun _ => fun
  | [d1, d2, d3, d4] => { results := [.lit (.bool true)], args := [d1, d2, d3, d4] }
  | _ => none }
def lawS1815BHeldRow : OpenClaim := { program := "ybulkakoidoor", sum := "cf8df2339ebaa71e88a8cb9b39ca9fdaab78449e52adbc06fbbbae28ecde9b1d", func := "example.com/tollbook/tollbook/internal/ber.LawS1815BHeld", spec := "lawS1815BHeld", inPlace := ["internal/reflectlite.TypeOf"], unfollowed := true, recurses := true, named := ["io.EOF", "bufio.ErrNegativeCount", "bufio.ErrBufferFull", "bufio.errNegativeRead", "io.ErrNoProgress"], plainKeys := false, apart := false, laid := [("io.EOF", laid_io_EOF), ("io.ErrNoProgress", laid_io_ErrNoProgress), ("bufio.ErrBufferFull", laid_bufio_ErrBufferFull), ("bufio.ErrNegativeCount", laid_bufio_ErrNegativeCount), ("bufio.errNegativeRead", laid_bufio_errNegativeRead)] }
def LawS1815BHeldSaid : Prop := lawS1815BHeldRow.holds Ybad.pinned (OpenSpec.ofChange lawS1815BHeldSpec)

/-- ITS FALSE NEIGHBOUR: 'it returns false'. Refute it at one input. -/
def lawS1815BHeldWrong : ChangeSpec := { name := "lawS1815BHeld", fn := fun _ => fun
  | [d1, d2, d3, d4] => { results := [.lit (.bool false)], args := [d1, d2, d3, d4] }
  | _ => none }
def LawS1815BHeldWrongFalsely : Prop := lawS1815BHeldRow.holds Ybad.pinned (OpenSpec.ofChange lawS1815BHeldWrong)

/-- 'dict.LawS1815CPlain': WHATEVER THE INPUT: true; the input reads as it did. -/
def lawS1815CPlainSpec : ChangeSpec := { name := "lawS1815CPlain", vars := ["example.com/tollbook/tollbook/internal/dict.kinds"], fn := fun _ => fun
  | [d1, d2, d3, g1] => { results := [.lit (.bool true)], args := [d1, d2, d3], vars := [g1] }
  | _ => none }
def lawS1815CPlainRow : OpenClaim := { program := "ybulkakoidoor", sum := "cf8df2339ebaa71e88a8cb9b39ca9fdaab78449e52adbc06fbbbae28ecde9b1d", func := "example.com/tollbook/tollbook/internal/dict.LawS1815CPlain", spec := "lawS1815CPlain", named := ["example.com/tollbook/tollbook/internal/dict.kinds"], plainKeys := false, apart := false, laid := [("example.com/tollbook/tollbook/internal/dict.kinds", laid_example_com_tollbook_tollbook_internal_dict_kinds)] }
def LawS1815CPlainSaid : Prop := lawS1815CPlainRow.holds Ybad.pinned (OpenSpec.ofChange lawS1815CPlainSpec)

/-- ITS FALSE NEIGHBOUR: 'it returns false'. Refute it at one input. -/
def lawS1815CPlainWrong : ChangeSpec := { name := "lawS1815CPlain", vars := ["example.com/tollbook/tollbook/internal/dict.kinds"], fn := fun _ => fun
  | [d1, d2, d3, g1] => { results := [.lit (.bool false)], args := [d1, d2, d3], vars := [g1] }
  | _ => none }
def LawS1815CPlainWrongFalsely : Prop := lawS1815CPlainRow.holds Ybad.pinned (OpenSpec.ofChange lawS1815CPlainWrong)

/-- 'dict.LawS1815CChoice': WHATEVER THE INPUT: true; the input reads as it did. -/
def lawS1815CChoiceSpec : ChangeSpec := { name := "lawS1815CChoice", vars := ["example.com/tollbook/tollbook/internal/dict.kinds"], fn := fun _ => fun
  | [d1, d2, d3, d4, d5, g1] => { results := [.lit (.bool true)], args := [d1, d2, d3, d4, d5], vars := [g1] }
  | _ => none }
def lawS1815CChoiceRow : OpenClaim := { program := "ybulkakoidoor", sum := "cf8df2339ebaa71e88a8cb9b39ca9fdaab78449e52adbc06fbbbae28ecde9b1d", func := "example.com/tollbook/tollbook/internal/dict.LawS1815CChoice", spec := "lawS1815CChoice", named := ["example.com/tollbook/tollbook/internal/dict.kinds"], plainKeys := false, apart := false, laid := [("example.com/tollbook/tollbook/internal/dict.kinds", laid_example_com_tollbook_tollbook_internal_dict_kinds)] }
def LawS1815CChoiceSaid : Prop := lawS1815CChoiceRow.holds Ybad.pinned (OpenSpec.ofChange lawS1815CChoiceSpec)

/-- ITS FALSE NEIGHBOUR: 'it returns false'. Refute it at one input. -/
def lawS1815CChoiceWrong : ChangeSpec := { name := "lawS1815CChoice", vars := ["example.com/tollbook/tollbook/internal/dict.kinds"], fn := fun _ => fun
  | [d1, d2, d3, d4, d5, g1] => { results := [.lit (.bool false)], args := [d1, d2, d3, d4, d5], vars := [g1] }
  | _ => none }
def LawS1815CChoiceWrongFalsely : Prop := lawS1815CChoiceRow.holds Ybad.pinned (OpenSpec.ofChange lawS1815CChoiceWrong)

end Rows
end Go.Proofs.YbulkakoiDoor
