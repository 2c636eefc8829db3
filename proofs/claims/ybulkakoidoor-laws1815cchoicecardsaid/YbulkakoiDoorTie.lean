/-
  DERIVED. GIVEN WITH THE SEED: THE PROGRAM's TIES (one call each: nine closed facts by the kernel) AND EACH ROW's TIE, after the 31st guide's Derived/Test/Toyas{Tie, Card}.lean. No idea stands in it: it is a product of the set-up. Laid BY PROGRAM, IN A SANDBOX (cutbox-door.mjs). By AI agents, Wed Nov 11 2026. No macro, syntax, notation, axiom, sorry.
-/
import Derived.Test.YbulkakoiDoorRows
import Derived.LaidByTextLater
import Derived.SevenTiedAt
import Derived.LaidSub
import Derived.LaidOnce
namespace Go.Proofs.YbulkakoiDoor
open Go
set_option maxRecDepth 100000
theorem seatTie1 : Ybad.prog.laidByTextLater [("io.EOF", Rows.laid_io_EOF), ("io.ErrNoProgress", Rows.laid_io_ErrNoProgress), ("bufio.ErrBufferFull", Rows.laid_bufio_ErrBufferFull), ("bufio.ErrNegativeCount", Rows.laid_bufio_ErrNegativeCount), ("bufio.errNegativeRead", Rows.laid_bufio_errNegativeRead), ("example.com/tollbook/tollbook/internal/dict.kinds", Rows.laid_example_com_tollbook_tollbook_internal_dict_kinds)] [.sentinel, .sentinel, .sentinel, .sentinel, .sentinel, .wider] true :=
  Program.laidByTextLater_by_one 124 8 65 (by kernel_rfl) (by kernel_rfl) (by kernel_rfl) (by kernel_rfl) (by kernel_rfl) (by kernel_rfl) (fun _ _ => by kernel_rfl)
theorem noOwnUnsafe : Ybad.pinned.checked.prog.headLifts.contains "ownunsafe" = false := by kernel_rfl
theorem tie : Ybad.prog.laidByTextLater [("io.EOF", Rows.laid_io_EOF), ("io.ErrNoProgress", Rows.laid_io_ErrNoProgress), ("bufio.ErrBufferFull", Rows.laid_bufio_ErrBufferFull), ("bufio.ErrNegativeCount", Rows.laid_bufio_ErrNegativeCount), ("bufio.errNegativeRead", Rows.laid_bufio_errNegativeRead)] [.sentinel, .sentinel, .sentinel, .sentinel, .sentinel] true :=
  Program.laidByTextLater.sub seatTie1 ["io.EOF", "io.ErrNoProgress", "bufio.ErrBufferFull", "bufio.ErrNegativeCount", "bufio.errNegativeRead"] (by kernel_rfl) (by kernel_rfl)
theorem lawS1815BStream_row_tie : Rows.lawS1815BStreamRow.laidByTextAt .later Ybad.pinned [.sentinel, .sentinel, .sentinel, .sentinel, .sentinel] true :=
  OpenClaim.laidByTextAt_later rfl rfl tie noOwnUnsafe
theorem lawS1815BHeld_row_tie : Rows.lawS1815BHeldRow.laidByTextAt .later Ybad.pinned [.sentinel, .sentinel, .sentinel, .sentinel, .sentinel] true :=
  OpenClaim.laidByTextAt_later rfl rfl tie noOwnUnsafe
theorem tie2 : Ybad.prog.laidByTextLater [("example.com/tollbook/tollbook/internal/dict.kinds", Rows.laid_example_com_tollbook_tollbook_internal_dict_kinds)] [.wider] true :=
  Program.laidByTextLater.sub seatTie1 ["example.com/tollbook/tollbook/internal/dict.kinds"] (by kernel_rfl) (by kernel_rfl)
theorem lawS1815CPlain_row_tie : Rows.lawS1815CPlainRow.laidByTextAt .later Ybad.pinned [.wider] true :=
  OpenClaim.laidByTextAt_later rfl rfl tie2 noOwnUnsafe
theorem lawS1815CChoice_row_tie : Rows.lawS1815CChoiceRow.laidByTextAt .later Ybad.pinned [.wider] true :=
  OpenClaim.laidByTextAt_later rfl rfl tie2 noOwnUnsafe
end Go.Proofs.YbulkakoiDoor
