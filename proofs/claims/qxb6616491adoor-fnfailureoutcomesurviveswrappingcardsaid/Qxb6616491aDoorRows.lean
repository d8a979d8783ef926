/-
  NARROWER THAN 'FOR EVERY INPUT', by the rows' own cells (each row's printed sentence says how): FnFailureOutcomeSurvivesWrapping: ifaces, laid · FnFailureOutcomeDuplicateKeyWins: ifaces, laid.
  DERIVED. THE GIVEN ROWS OF THIS SEAT. 2 by the template 'for every input the law returns true; each argument reads behind the call as it read before'; 0 by the template 'total and deterministic' (their statements: Qxb6616491aDoorTotals.lean).
  GIVEN WITH THE SEED: the statements are not yours to turn. If you find one false, say at which input.
  Laid BY PROGRAM, IN A SANDBOX (cutbox-rows.mjs): the forced cells as the released guide's own fill.sh prints them over the translation 18bfc18104f9d789… (all of the seat's roots in one cut). By AI agents, Wed Nov 11 2026. No macro, syntax, notation, axiom, sorry.
-/
import Derived.Test.Qxb6616491aDoorChecked
import GoSem.Claim
import GoSem.ClaimJoined
import GoSem.ClaimMapViews
import Derived.JoinedTies
import Derived.KernelRfl
namespace Go.Proofs.Qxb6616491aDoor
/- THE CELL 'sum', in the pinned program and in every row, IS THE sha256 OF THE DUMP (.gsa) THAT Qxb6616491aDoorProg.lean LOADS. Nothing in Lean hashes anything: it is a label: what it is worth is what the hold of that sum in a sandbox is worth. -/
noncomputable def Tryd.pinned : Pinned := { name := "qxb6616491adoor", sum := "18bfc18104f9d7896db7711f7f7afb3debafdf57593b12322fb54481eb52a0bd", checked := Tryd.checked }
namespace Rows
def none {H : Type} : Left H := { results := [], args := [] }

/- WHAT THE LISTED PACKAGE-LEVEL VARIABLES READ AS WHEN THE CALL BEGINS. Each datum BY PROGRAM (the guide's laid-datum.mjs) off the statement by which the dump's own 'gosem.cut.vars' lays the variable. In a bare row this is a premise. The card (Qxb6616491aDoorCards.lean) ties it to the program's text. -/
def laid_example_com_lockspell_lockspell_store_ErrCannotHold {H : Type} : DataW H := .iface "*errors.errorString" (.ptr (.agg [.lit (.string [97, 32, 118, 97, 108, 117, 101, 32, 116, 104, 97, 116, 32, 116, 104, 101, 32, 99, 111, 108, 117, 109, 110, 32, 99, 97, 110, 110, 111, 116, 32, 104, 111, 108, 100])]))
def laid_example_com_lockspell_lockspell_replay_errDuplicateKey {H : Type} : DataW H := .iface "*errors.errorString" (.ptr (.agg [.lit (.string [100, 117, 112, 108, 105, 99, 97, 116, 101, 32, 107, 101, 121])]))

/-- 'zzlaws_replay_b1.FnFailureOutcomeSurvivesWrapping': WHATEVER THE INPUT: true; the input reads as it did. -/
def fnFailureOutcomeSurvivesWrappingSpec : ChangeSpec := { name := "fnFailureOutcomeSurvivesWrapping", vars := ["example.com/lockspell/lockspell/replay.errDuplicateKey", "example.com/lockspell/lockspell/store.ErrCannotHold"], fn := fun _ => fun
  | [d1, d2, g1, g2] => { results := [.lit (.bool true)], args := [d1, d2], vars := [g1, g2] }
  | _ => none }
def fnFailureOutcomeSurvivesWrappingRow : OpenClaim := { program := "qxb6616491adoor", sum := "18bfc18104f9d7896db7711f7f7afb3debafdf57593b12322fb54481eb52a0bd", func := "example.com/lockspell/lockspell/zzlaws_replay_b1.FnFailureOutcomeSurvivesWrapping", spec := "fnFailureOutcomeSurvivesWrapping", inPlace := ["internal/reflectlite.TypeOf"], unfollowed := true, recurses := true, named := ["example.com/lockspell/lockspell/replay.errDuplicateKey", "example.com/lockspell/lockspell/store.ErrCannotHold"], ifaces := true, apart := false, laid := [("example.com/lockspell/lockspell/store.ErrCannotHold", laid_example_com_lockspell_lockspell_store_ErrCannotHold), ("example.com/lockspell/lockspell/replay.errDuplicateKey", laid_example_com_lockspell_lockspell_replay_errDuplicateKey)] }
def FnFailureOutcomeSurvivesWrappingSaid : Prop := fnFailureOutcomeSurvivesWrappingRow.holds Tryd.pinned (OpenSpec.ofChange fnFailureOutcomeSurvivesWrappingSpec)

/-- ITS FALSE NEIGHBOUR: 'it returns false'. Refute it at one input. -/
def fnFailureOutcomeSurvivesWrappingWrong : ChangeSpec := { name := "fnFailureOutcomeSurvivesWrapping", vars := ["example.com/lockspell/lockspell/replay.errDuplicateKey", "example.com/lockspell/lockspell/store.ErrCannotHold"], fn := fun _ => fun
  | [d1, d2, g1, g2] => { results := [.lit (.bool false)], args := [d1, d2], vars := [g1, g2] }
  | _ => none }
def FnFailureOutcomeSurvivesWrappingWrongFalsely : Prop := fnFailureOutcomeSurvivesWrappingRow.holds Tryd.pinned (OpenSpec.ofChange fnFailureOutcomeSurvivesWrappingWrong)

/-- 'zzlaws_replay_b1.FnFailureOutcomeDuplicateKeyWins': WHATEVER THE INPUT: true; the input reads as it did. -/
def fnFailureOutcomeDuplicateKeyWinsSpec : ChangeSpec := { name := "fnFailureOutcomeDuplicateKeyWins", vars := ["example.com/lockspell/lockspell/store.ErrCannotHold", "example.com/lockspell/lockspell/replay.errDuplicateKey"], fn := fun _ => fun
  | [d, g1, g2] => { results := [.lit (.bool true)], args := [d], vars := [g1, g2] }
  | _ => none }
def fnFailureOutcomeDuplicateKeyWinsRow : OpenClaim := { program := "qxb6616491adoor", sum := "18bfc18104f9d7896db7711f7f7afb3debafdf57593b12322fb54481eb52a0bd", func := "example.com/lockspell/lockspell/zzlaws_replay_b1.FnFailureOutcomeDuplicateKeyWins", spec := "fnFailureOutcomeDuplicateKeyWins", inPlace := ["internal/reflectlite.TypeOf"], unfollowed := true, recurses := true, named := ["example.com/lockspell/lockspell/store.ErrCannotHold", "example.com/lockspell/lockspell/replay.errDuplicateKey"], ifaces := true, apart := false, laid := [("example.com/lockspell/lockspell/store.ErrCannotHold", laid_example_com_lockspell_lockspell_store_ErrCannotHold), ("example.com/lockspell/lockspell/replay.errDuplicateKey", laid_example_com_lockspell_lockspell_replay_errDuplicateKey)] }
def FnFailureOutcomeDuplicateKeyWinsSaid : Prop := fnFailureOutcomeDuplicateKeyWinsRow.holds Tryd.pinned (OpenSpec.ofChange fnFailureOutcomeDuplicateKeyWinsSpec)

/-- ITS FALSE NEIGHBOUR: 'it returns false'. Refute it at one input. -/
def fnFailureOutcomeDuplicateKeyWinsWrong : ChangeSpec := { name := "fnFailureOutcomeDuplicateKeyWins", vars := ["example.com/lockspell/lockspell/store.ErrCannotHold", "example.com/lockspell/lockspell/replay.errDuplicateKey"], fn := fun _ => fun
  | [d, g1, g2] => { results := [.lit (.bool false)], args := [d], vars := [g1, g2] }
  | _ => none }
def FnFailureOutcomeDuplicateKeyWinsWrongFalsely : Prop := fnFailureOutcomeDuplicateKeyWinsRow.holds Tryd.pinned (OpenSpec.ofChange fnFailureOutcomeDuplicateKeyWinsWrong)

end Rows
end Go.Proofs.Qxb6616491aDoor
