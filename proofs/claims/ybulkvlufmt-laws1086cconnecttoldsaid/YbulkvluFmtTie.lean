/-
  DERIVED. GIVEN WITH THE SEED: THE PROGRAM's TIES (one call each: nine closed facts by the kernel) AND EACH ROW's TIE, after the 31st guide's Derived/Test/Toyas{Tie, Card}.lean. No idea stands in it: it is a product of the set-up. Laid BY PROGRAM, IN A SANDBOX (cutbox-door.mjs). By AI agents, Wed Nov 11 2026. No macro, syntax, notation, axiom, sorry.
-/
import Derived.Test.YbulkvluFmtRows
import Derived.LaidByTextLater
import Derived.SevenTiedAt
import Derived.LaidSub
import Derived.LaidOnce
namespace Go.Proofs.YbulkvluFmt
open Go
set_option maxRecDepth 100000
theorem seatTie1 : Ybaf.prog.laidByTextLater [("example.com/cutline/cutline.ErrUnknownProcess", Rows.laid_example_com_cutline_cutline_ErrUnknownProcess), ("example.com/cutline/cutline.ErrBadChannel", Rows.laid_example_com_cutline_cutline_ErrBadChannel), ("example.com/cutline/cutline.ErrStarted", Rows.laid_example_com_cutline_cutline_ErrStarted), ("example.com/cutline/cutline.ErrRemote", Rows.laid_example_com_cutline_cutline_ErrRemote)] [.sentinel, .sentinel, .sentinel, .sentinel] true :=
  Program.laidByTextLater_by_one 85 8 2 (by kernel_rfl) (by kernel_rfl) (by kernel_rfl) (by kernel_rfl) (by kernel_rfl) (by kernel_rfl) (fun _ _ => by kernel_rfl)
theorem noOwnUnsafe : Ybaf.pinned.checked.prog.headLifts.contains "ownunsafe" = false := by kernel_rfl
theorem tie : Ybaf.prog.laidByTextLater [("example.com/cutline/cutline.ErrStarted", Rows.laid_example_com_cutline_cutline_ErrStarted), ("example.com/cutline/cutline.ErrRemote", Rows.laid_example_com_cutline_cutline_ErrRemote)] [.sentinel, .sentinel] true :=
  Program.laidByTextLater.sub seatTie1 ["example.com/cutline/cutline.ErrStarted", "example.com/cutline/cutline.ErrRemote"] (by kernel_rfl) (by kernel_rfl)
theorem lawS1086BStart_row_tie : Rows.lawS1086BStartRow.laidByTextAt .later Ybaf.pinned [.sentinel, .sentinel] true :=
  OpenClaim.laidByTextAt_later rfl rfl tie noOwnUnsafe
theorem tie2 : Ybaf.prog.laidByTextLater [("example.com/cutline/cutline.ErrUnknownProcess", Rows.laid_example_com_cutline_cutline_ErrUnknownProcess), ("example.com/cutline/cutline.ErrBadChannel", Rows.laid_example_com_cutline_cutline_ErrBadChannel), ("example.com/cutline/cutline.ErrStarted", Rows.laid_example_com_cutline_cutline_ErrStarted)] [.sentinel, .sentinel, .sentinel] true :=
  Program.laidByTextLater.sub seatTie1 ["example.com/cutline/cutline.ErrUnknownProcess", "example.com/cutline/cutline.ErrBadChannel", "example.com/cutline/cutline.ErrStarted"] (by kernel_rfl) (by kernel_rfl)
theorem lawS1086CConnect_row_tie : Rows.lawS1086CConnectRow.laidByTextAt .later Ybaf.pinned [.sentinel, .sentinel, .sentinel] true :=
  OpenClaim.laidByTextAt_later rfl rfl tie2 noOwnUnsafe
end Go.Proofs.YbulkvluFmt
