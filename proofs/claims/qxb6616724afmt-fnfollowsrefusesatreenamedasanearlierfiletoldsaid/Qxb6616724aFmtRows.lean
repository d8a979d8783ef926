/-
  No cell of these rows narrows 'for every input' (looked for: loops, veiled, ifaces, maps, wideKeys, modest, calm, conditions, laid).
  DERIVED. THE GIVEN ROWS OF THIS SEAT. 1 by the template 'for every input the law returns true; each argument reads behind the call as it read before'; 0 by the template 'total and deterministic' (their statements: Qxb6616724aFmtTotals.lean).
  GIVEN WITH THE SEED: the statements are not yours to turn. If you find one false, say at which input.
  Laid BY PROGRAM, IN A SANDBOX (cutbox-rows.mjs): the forced cells as the released guide's own fill.sh prints them over the translation 0f60f31f43b48922… (all of the seat's roots in one cut). By AI agents, Wed Nov 11 2026. No macro, syntax, notation, axiom, sorry.
-/
import Derived.Test.Qxb6616724aFmtChecked
import GoSem.Claim
import GoSem.ClaimJoined
import GoSem.ClaimMapViews
import Derived.JoinedTies
import Derived.KernelRfl
namespace Go.Proofs.Qxb6616724aFmt
/- THE CELL 'sum', in the pinned program and in every row, IS THE sha256 OF THE DUMP (.gsa) THAT Qxb6616724aFmtProg.lean LOADS. Nothing in Lean hashes anything: it is a label: what it is worth is what the hold of that sum in a sandbox is worth. -/
noncomputable def Tryf.pinned : Pinned := { name := "qxb6616724afmt", sum := "0f60f31f43b48922bc567d35f2b4b8ff2e65be78788498b7ac687273ca9cc73c", checked := Tryf.checked }
namespace Rows
def none {H : Type} : Left H := { results := [], args := [] }

/-- 'zzlaws_internal_git_b1.FnFollowsRefusesATreeNamedAsAnEarlierFile': WHATEVER THE INPUT: true; the input reads as it did. -/
def fnFollowsRefusesATreeNamedAsAnEarlierFileSpec : ChangeSpec := { name := "fnFollowsRefusesATreeNamedAsAnEarlierFile", fn := fun _ => fun
  | [d1, d2, d3] => { results := [.lit (.bool true)], args := [d1, d2, d3] }
  | _ => none }
def fnFollowsRefusesATreeNamedAsAnEarlierFileRow : OpenClaim := { program := "qxb6616724afmt", sum := "0f60f31f43b48922bc567d35f2b4b8ff2e65be78788498b7ac687273ca9cc73c", func := "example.com/handfast/handfast/zzlaws_internal_git_b1.FnFollowsRefusesATreeNamedAsAnEarlierFile", spec := "fnFollowsRefusesATreeNamedAsAnEarlierFile", stops := ["fmt.errorf"], inPlace := ["internal/bytealg.Compare", "fmt.errorf"], apart := false }
/-- NO THEOREM (fmt's text is open here; it may be false): for the released tool's asking of the row's closed facts alone. THE STATEMENT IS 'FnFollowsRefusesATreeNamedAsAnEarlierFileToldSaid' (Qxb6616724aFmtCards.lean). -/
def FnFollowsRefusesATreeNamedAsAnEarlierFileFormAsk : Prop := fnFollowsRefusesATreeNamedAsAnEarlierFileRow.holds Tryf.pinned (OpenSpec.ofChange fnFollowsRefusesATreeNamedAsAnEarlierFileSpec)

/-- ITS FALSE NEIGHBOUR: 'it returns false'. Refute it at one input. -/
def fnFollowsRefusesATreeNamedAsAnEarlierFileWrong : ChangeSpec := { name := "fnFollowsRefusesATreeNamedAsAnEarlierFile", fn := fun _ => fun
  | [d1, d2, d3] => { results := [.lit (.bool false)], args := [d1, d2, d3] }
  | _ => none }
def FnFollowsRefusesATreeNamedAsAnEarlierFileWrongFormAsk : Prop := fnFollowsRefusesATreeNamedAsAnEarlierFileRow.holds Tryf.pinned (OpenSpec.ofChange fnFollowsRefusesATreeNamedAsAnEarlierFileWrong)

end Rows
end Go.Proofs.Qxb6616724aFmt
