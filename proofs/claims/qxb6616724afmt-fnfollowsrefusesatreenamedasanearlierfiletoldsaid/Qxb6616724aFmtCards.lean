/-
  DERIVED. GIVEN WITH THE SEED: THE CARDS: each row of Qxb6616724aFmtRows.lean that lists a variable, with what it lists TIED to the program's text (the seventh form; the later family's looks); each row that meets fmt, with fmt's text TOLD by the authors' own Lean function (tested against real Go, not proved from fmt's source: count such statements apart). THE CARD IS WHAT COUNTS. Prove the row's statement (the work); the ties are given (Qxb6616724aFmtTie.lean); close each card by the builder's one call (the guide's Derived/Test/ToyasCard.lean, 'card_holds'). Laid BY PROGRAM, IN A SANDBOX (cutbox-door.mjs). By AI agents, Wed Nov 11 2026. No macro, syntax, notation, axiom, sorry.
-/
import Derived.Test.Qxb6616724aFmtRows
import GoSem.ClaimSeven
namespace Go.Proofs.Qxb6616724aFmt
namespace Rows

/-- THE TOLD CARD OF 'zzlaws_internal_git_b1.FnFollowsRefusesATreeNamedAsAnEarlierFile'. -/
def fnFollowsRefusesATreeNamedAsAnEarlierFileCard : Claim7 := { stood := { row := fnFollowsRefusesATreeNamedAsAnEarlierFileRow, standIns := [], harness := (true, "deb01416e0aeecd75e56fcf9ef4593fefee70e39325048bd76807a5b0ebb7e7c"), looks := false }, told := true, goes := false }
def FnFollowsRefusesATreeNamedAsAnEarlierFileToldSaid : Prop := Claim7.holds Tryf.pinned (.plain (OpenSpec.ofChange fnFollowsRefusesATreeNamedAsAnEarlierFileSpec)) fnFollowsRefusesATreeNamedAsAnEarlierFileCard
/-- ITS FALSE NEIGHBOUR. Refute it at one input. -/
def FnFollowsRefusesATreeNamedAsAnEarlierFileToldWrongFalsely : Prop := Claim7.holds Tryf.pinned (.plain (OpenSpec.ofChange fnFollowsRefusesATreeNamedAsAnEarlierFileWrong)) fnFollowsRefusesATreeNamedAsAnEarlierFileCard
end Rows
end Go.Proofs.Qxb6616724aFmt
