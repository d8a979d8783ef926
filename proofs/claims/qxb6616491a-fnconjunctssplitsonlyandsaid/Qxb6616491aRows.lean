/-
  NARROWER THAN 'FOR EVERY INPUT', by the rows' own cells (each row's printed sentence says how): FnConjunctsSplitsOnlyAnd: loops.
  DERIVED. THE GIVEN ROWS OF THIS SEAT. 2 by the template 'for every input the law returns true; each argument reads behind the call as it read before'; 0 by the template 'total and deterministic' (their statements: Qxb6616491aTotals.lean).
  GIVEN WITH THE SEED: the statements are not yours to turn. If you find one false, say at which input.
  Laid BY PROGRAM, IN A SANDBOX (cutbox-rows.mjs): the forced cells as the released guide's own fill.sh prints them over the translation 61f338fb0152af43… (all of the seat's roots in one cut). By AI agents, Wed Nov 11 2026. No macro, syntax, notation, axiom, sorry.
-/
import Derived.Test.Qxb6616491aChecked
import GoSem.Claim
import GoSem.ClaimJoined
import GoSem.ClaimMapViews
import Derived.JoinedTies
import Derived.KernelRfl
namespace Go.Proofs.Qxb6616491a
/- THE CELL 'sum', in the pinned program and in every row, IS THE sha256 OF THE DUMP (.gsa) THAT Qxb6616491aProg.lean LOADS. Nothing in Lean hashes anything: it is a label: what it is worth is what the hold of that sum in a sandbox is worth. -/
noncomputable def Try.pinned : Pinned := { name := "qxb6616491a", sum := "61f338fb0152af43b43569250ed4cc69e6a5fcd58fa3e77698199a460677b6ba", checked := Try.checked }
namespace Rows
def none {H : Type} : Left H := { results := [], args := [] }

/-- 'zzlaws_replay_b1.FnConjunctsAnyBracketing': WHATEVER THE INPUT: true; the input reads as it did. -/
def fnConjunctsAnyBracketingSpec : ChangeSpec := { name := "fnConjunctsAnyBracketing", fn := fun _ => fun
  | [d1, d2] => { results := [.lit (.bool true)], args := [d1, d2] }
  | _ => none }
def fnConjunctsAnyBracketingRow : OpenClaim := { program := "qxb6616491a", sum := "61f338fb0152af43b43569250ed4cc69e6a5fcd58fa3e77698199a460677b6ba", func := "example.com/lockspell/lockspell/zzlaws_replay_b1.FnConjunctsAnyBracketing", spec := "fnConjunctsAnyBracketing", recurses := true, apart := false }
def FnConjunctsAnyBracketingSaid : Prop := fnConjunctsAnyBracketingRow.holds Try.pinned (OpenSpec.ofChange fnConjunctsAnyBracketingSpec)

/-- ITS FALSE NEIGHBOUR: 'it returns false'. Refute it at one input. -/
def fnConjunctsAnyBracketingWrong : ChangeSpec := { name := "fnConjunctsAnyBracketing", fn := fun _ => fun
  | [d1, d2] => { results := [.lit (.bool false)], args := [d1, d2] }
  | _ => none }
def FnConjunctsAnyBracketingWrongFalsely : Prop := fnConjunctsAnyBracketingRow.holds Try.pinned (OpenSpec.ofChange fnConjunctsAnyBracketingWrong)

/-- 'zzlaws_replay_b1.FnConjunctsSplitsOnlyAnd': WHATEVER THE INPUT: true; the input reads as it did. -/
def fnConjunctsSplitsOnlyAndSpec : ChangeSpec := { name := "fnConjunctsSplitsOnlyAnd", fn := fun _ => fun
  | [d1, d2, d3] => { results := [.lit (.bool true)], args := [d1, d2, d3] }
  | _ => none }
def fnConjunctsSplitsOnlyAndRow : OpenClaim := { program := "qxb6616491a", sum := "61f338fb0152af43b43569250ed4cc69e6a5fcd58fa3e77698199a460677b6ba", func := "example.com/lockspell/lockspell/zzlaws_replay_b1.FnConjunctsSplitsOnlyAnd", spec := "fnConjunctsSplitsOnlyAnd", recurses := true, loops := true, apart := false }
def FnConjunctsSplitsOnlyAndSaid : Prop := fnConjunctsSplitsOnlyAndRow.holds Try.pinned (OpenSpec.ofChange fnConjunctsSplitsOnlyAndSpec)

/-- ITS FALSE NEIGHBOUR: 'it returns false'. Refute it at one input. -/
def fnConjunctsSplitsOnlyAndWrong : ChangeSpec := { name := "fnConjunctsSplitsOnlyAnd", fn := fun _ => fun
  | [d1, d2, d3] => { results := [.lit (.bool false)], args := [d1, d2, d3] }
  | _ => none }
def FnConjunctsSplitsOnlyAndWrongFalsely : Prop := fnConjunctsSplitsOnlyAndRow.holds Try.pinned (OpenSpec.ofChange fnConjunctsSplitsOnlyAndWrong)

end Rows
end Go.Proofs.Qxb6616491a
