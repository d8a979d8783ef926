/-
  DERIVED. GIVEN WITH THE SEED: THE PROGRAM's TIES (one call each: nine closed facts by the kernel) AND EACH ROW's TIE, after the 31st guide's Derived/Test/Toyas{Tie, Card}.lean. No idea stands in it: it is a product of the set-up. Laid BY PROGRAM, IN A SANDBOX (cutbox-door.mjs). By AI agents, Wed Nov 11 2026. No macro, syntax, notation, axiom, sorry.
-/
import Derived.Test.Qxb6616491aDoorRows
import Derived.LaidByTextLater
import Derived.SevenTiedAt
import Derived.LaidSub
import Derived.LaidOnce
namespace Go.Proofs.Qxb6616491aDoor
open Go
set_option maxRecDepth 100000
theorem seatTie1 : Tryd.prog.laidByTextLater [("example.com/lockspell/lockspell/store.ErrCannotHold", Rows.laid_example_com_lockspell_lockspell_store_ErrCannotHold), ("example.com/lockspell/lockspell/replay.errDuplicateKey", Rows.laid_example_com_lockspell_lockspell_replay_errDuplicateKey)] [.sentinel, .sentinel] true :=
  Program.laidByTextLater_by_one 47 8 2 (by kernel_rfl) (by kernel_rfl) (by kernel_rfl) (by kernel_rfl) (by kernel_rfl) (by kernel_rfl) (fun _ _ => by kernel_rfl)
theorem noOwnUnsafe : Tryd.pinned.checked.prog.headLifts.contains "ownunsafe" = false := by kernel_rfl
theorem tie : Tryd.prog.laidByTextLater [("example.com/lockspell/lockspell/store.ErrCannotHold", Rows.laid_example_com_lockspell_lockspell_store_ErrCannotHold), ("example.com/lockspell/lockspell/replay.errDuplicateKey", Rows.laid_example_com_lockspell_lockspell_replay_errDuplicateKey)] [.sentinel, .sentinel] true :=
  Program.laidByTextLater.sub seatTie1 ["example.com/lockspell/lockspell/store.ErrCannotHold", "example.com/lockspell/lockspell/replay.errDuplicateKey"] (by kernel_rfl) (by kernel_rfl)
theorem fnFailureOutcomeSurvivesWrapping_row_tie : Rows.fnFailureOutcomeSurvivesWrappingRow.laidByTextAt .later Tryd.pinned [.sentinel, .sentinel] true :=
  OpenClaim.laidByTextAt_later rfl rfl tie noOwnUnsafe
theorem fnFailureOutcomeDuplicateKeyWins_row_tie : Rows.fnFailureOutcomeDuplicateKeyWinsRow.laidByTextAt .later Tryd.pinned [.sentinel, .sentinel] true :=
  OpenClaim.laidByTextAt_later rfl rfl tie noOwnUnsafe
end Go.Proofs.Qxb6616491aDoor
