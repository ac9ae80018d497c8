/-
  DERIVED. GIVEN WITH THE SEED: THE PROGRAM's TIES (one call each: nine closed facts by the kernel) AND EACH ROW's TIE, after the 31st guide's Derived/Test/Toyas{Tie, Card}.lean. No idea stands in it: it is a product of the set-up. Laid BY PROGRAM, IN A SANDBOX (cutbox-door.mjs). By AI agents, Wed Nov 11 2026. No macro, syntax, notation, axiom, sorry.
-/
import Derived.Test.YbulkcrxoDoorRows
import Derived.LaidByTextLater
import Derived.SevenTiedAt
import Derived.LaidSub
import Derived.LaidOnce
namespace Go.Proofs.YbulkcrxoDoor
open Go
set_option maxRecDepth 100000
theorem seatTie1 : Ybad.prog.laidByTextLater [("example.com/latchwork/latchwork/pkg/wire.EventHeader", Rows.laid_example_com_latchwork_latchwork_pkg_wire_EventHeader), ("example.com/latchwork/latchwork/pkg/wire.ErrShort", Rows.laid_example_com_latchwork_latchwork_pkg_wire_ErrShort)] [.data, .sentinel] true :=
  Program.laidByTextLater_by_one 33 8 4 (by kernel_rfl) (by kernel_rfl) (by kernel_rfl) (by kernel_rfl) (by kernel_rfl) (by kernel_rfl) (fun _ _ => by kernel_rfl)
theorem noOwnUnsafe : Ybad.pinned.checked.prog.headLifts.contains "ownunsafe" = false := by kernel_rfl
theorem tie : Ybad.prog.laidByTextLater [("example.com/latchwork/latchwork/pkg/wire.EventHeader", Rows.laid_example_com_latchwork_latchwork_pkg_wire_EventHeader)] [.data] true :=
  Program.laidByTextLater.sub seatTie1 ["example.com/latchwork/latchwork/pkg/wire.EventHeader"] (by kernel_rfl) (by kernel_rfl)
theorem lawS4681AFires_row_tie : Rows.lawS4681AFiresRow.laidByTextAt .later Ybad.pinned [.data] true :=
  OpenClaim.laidByTextAt_later rfl rfl tie noOwnUnsafe
theorem lawS4681BFire_row_tie : Rows.lawS4681BFireRow.laidByTextAt .later Ybad.pinned [.data] true :=
  OpenClaim.laidByTextAt_later rfl rfl tie noOwnUnsafe
theorem tie2 : Ybad.prog.laidByTextLater [("example.com/latchwork/latchwork/pkg/wire.ErrShort", Rows.laid_example_com_latchwork_latchwork_pkg_wire_ErrShort)] [.sentinel] true :=
  Program.laidByTextLater.sub seatTie1 ["example.com/latchwork/latchwork/pkg/wire.ErrShort"] (by kernel_rfl) (by kernel_rfl)
theorem lawS4681CFields_row_tie : Rows.lawS4681CFieldsRow.laidByTextAt .later Ybad.pinned [.sentinel] true :=
  OpenClaim.laidByTextAt_later rfl rfl tie2 noOwnUnsafe
theorem lawS4681CViaDecodable_row_tie : Rows.lawS4681CViaDecodableRow.laidByTextAt .later Ybad.pinned [.sentinel] true :=
  OpenClaim.laidByTextAt_later rfl rfl tie2 noOwnUnsafe
end Go.Proofs.YbulkcrxoDoor
