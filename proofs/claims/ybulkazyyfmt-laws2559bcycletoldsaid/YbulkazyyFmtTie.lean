/-
  DERIVED. GIVEN WITH THE SEED: THE PROGRAM's TIES (one call each: nine closed facts by the kernel) AND EACH ROW's TIE, after the 31st guide's Derived/Test/Toyas{Tie, Card}.lean. No idea stands in it: it is a product of the set-up. Laid BY PROGRAM, IN A SANDBOX (cutbox-door.mjs). By AI agents, Wed Nov 11 2026. No macro, syntax, notation, axiom, sorry.
-/
import Derived.Test.YbulkazyyFmtRows
import Derived.LaidByTextLater
import Derived.SevenTiedAt
import Derived.LaidSub
import Derived.LaidOnce
namespace Go.Proofs.YbulkazyyFmt
open Go
set_option maxRecDepth 100000
theorem seatTie1 : Ybaf.prog.laidByTextLater [("example.com/estampille/estampille.ErrHeld", Rows.laid_example_com_estampille_estampille_ErrHeld), ("example.com/estampille/estampille.ErrNotHeld", Rows.laid_example_com_estampille_estampille_ErrNotHeld), ("example.com/estampille/estampille.ErrProtocol", Rows.laid_example_com_estampille_estampille_ErrProtocol)] [.sentinel, .sentinel, .sentinel] true :=
  Program.laidByTextLater_by_one 66 8 2 (by kernel_rfl) (by kernel_rfl) (by kernel_rfl) (by kernel_rfl) (by kernel_rfl) (by kernel_rfl) (fun _ _ => by kernel_rfl)
theorem noOwnUnsafe : Ybaf.pinned.checked.prog.headLifts.contains "ownunsafe" = false := by kernel_rfl
theorem tie : Ybaf.prog.laidByTextLater [("example.com/estampille/estampille.ErrHeld", Rows.laid_example_com_estampille_estampille_ErrHeld), ("example.com/estampille/estampille.ErrProtocol", Rows.laid_example_com_estampille_estampille_ErrProtocol)] [.sentinel, .sentinel] true :=
  Program.laidByTextLater.sub seatTie1 ["example.com/estampille/estampille.ErrHeld", "example.com/estampille/estampille.ErrProtocol"] (by kernel_rfl) (by kernel_rfl)
theorem lawS2559BFresh_row_tie : Rows.lawS2559BFreshRow.laidByTextAt .later Ybaf.pinned [.sentinel, .sentinel] true :=
  OpenClaim.laidByTextAt_later rfl rfl tie noOwnUnsafe
theorem tie2 : Ybaf.prog.laidByTextLater [("example.com/estampille/estampille.ErrHeld", Rows.laid_example_com_estampille_estampille_ErrHeld), ("example.com/estampille/estampille.ErrNotHeld", Rows.laid_example_com_estampille_estampille_ErrNotHeld), ("example.com/estampille/estampille.ErrProtocol", Rows.laid_example_com_estampille_estampille_ErrProtocol)] [.sentinel, .sentinel, .sentinel] true :=
  Program.laidByTextLater.sub seatTie1 ["example.com/estampille/estampille.ErrHeld", "example.com/estampille/estampille.ErrNotHeld", "example.com/estampille/estampille.ErrProtocol"] (by kernel_rfl) (by kernel_rfl)
theorem lawS2559BCycle_row_tie : Rows.lawS2559BCycleRow.laidByTextAt .later Ybaf.pinned [.sentinel, .sentinel, .sentinel] true :=
  OpenClaim.laidByTextAt_later rfl rfl tie2 noOwnUnsafe
end Go.Proofs.YbulkazyyFmt
