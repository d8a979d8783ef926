/-
  DERIVED. GIVEN WITH THE SEED: THE CARDS: each row of Qxb6616491aDoorRows.lean that lists a variable, with what it lists TIED to the program's text (the seventh form; the later family's looks); each row that meets fmt, with fmt's text TOLD by the authors' own Lean function (tested against real Go, not proved from fmt's source: count such statements apart). THE CARD IS WHAT COUNTS. Prove the row's statement (the work); the ties are given (Qxb6616491aDoorTie.lean); close each card by the builder's one call (the guide's Derived/Test/ToyasCard.lean, 'card_holds'). Laid BY PROGRAM, IN A SANDBOX (cutbox-door.mjs). By AI agents, Wed Nov 11 2026. No macro, syntax, notation, axiom, sorry.
-/
import Derived.Test.Qxb6616491aDoorRows
import GoSem.ClaimSeven
namespace Go.Proofs.Qxb6616491aDoor
namespace Rows

/-- THE TIED CARD OF 'zzlaws_replay_b1.FnFailureOutcomeSurvivesWrapping'. -/
def fnFailureOutcomeSurvivesWrappingCard : Claim7 := { stood := { row := fnFailureOutcomeSurvivesWrappingRow, standIns := [], harness := (true, "ccb335f2b708015c4a86ae17b00db02d9d896d4594b941e00280f483eecfc5c5"), looks := true }, kinds := [], alts := [], laidByText := true, laidKinds := [.sentinel, .sentinel], laidTests := true, laidLooks := .later }
def FnFailureOutcomeSurvivesWrappingCardSaid : Prop := Claim7.holds Tryd.pinned (.plain (OpenSpec.ofChange fnFailureOutcomeSurvivesWrappingSpec)) fnFailureOutcomeSurvivesWrappingCard

/-- THE TIED CARD OF 'zzlaws_replay_b1.FnFailureOutcomeDuplicateKeyWins'. -/
def fnFailureOutcomeDuplicateKeyWinsCard : Claim7 := { stood := { row := fnFailureOutcomeDuplicateKeyWinsRow, standIns := [], harness := (true, "ccb335f2b708015c4a86ae17b00db02d9d896d4594b941e00280f483eecfc5c5"), looks := true }, kinds := [], alts := [], laidByText := true, laidKinds := [.sentinel, .sentinel], laidTests := true, laidLooks := .later }
def FnFailureOutcomeDuplicateKeyWinsCardSaid : Prop := Claim7.holds Tryd.pinned (.plain (OpenSpec.ofChange fnFailureOutcomeDuplicateKeyWinsSpec)) fnFailureOutcomeDuplicateKeyWinsCard
end Rows
end Go.Proofs.Qxb6616491aDoor
