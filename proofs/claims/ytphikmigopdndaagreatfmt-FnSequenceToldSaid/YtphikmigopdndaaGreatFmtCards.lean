/-
  DERIVED. GIVEN WITH THE SEED: THE CARDS: each row of YtphikmigopdndaaGreatFmtRows.lean that lists a variable, with what it lists TIED to the program's text (the seventh form; the later family's looks); each row that meets fmt, with fmt's text TOLD by the authors' own Lean function (tested against real Go, not proved from fmt's source: count such statements apart). THE CARD IS WHAT COUNTS. Prove the row's statement (the work); the ties are given (YtphikmigopdndaaGreatFmtTie.lean); close each card by the builder's one call (the guide's Derived/Test/ToyasCard.lean, 'card_holds'). Laid BY PROGRAM, IN A SANDBOX (cutbox-door.mjs). By AI agents, Wed Nov 11 2026. No macro, syntax, notation, axiom, sorry.
-/
import Derived.Test.YtphikmigopdndaaGreatFmtRows
import GoSem.ClaimSeven
namespace Go.Proofs.YtphikmigopdndaaGreatFmt
namespace Rows

/-- THE TOLD AND TIED CARD OF 'laws.FnBraces'. -/
def fnBracesCard : Claim7 := { stood := { row := fnBracesRow, standIns := [], harness := (true, "ec3f54832bf8bf4c3987ee531e1118f8f347d9c337d222d8d09a80937b95af61"), looks := true }, told := true, laidByText := true, laidKinds := [.data, .data, .data, .called, .called], laidTests := true, laidLooks := .later, goes := false }
def FnBracesToldSaid : Prop := Claim7.holds Tryz.pinned (.plain (OpenSpec.ofChange fnBracesSpec)) fnBracesCard
/-- ITS FALSE NEIGHBOUR. Refute it at one input. -/
def FnBracesToldWrongFalsely : Prop := Claim7.holds Tryz.pinned (.plain (OpenSpec.ofChange fnBracesWrong)) fnBracesCard

/-- THE TOLD AND TIED CARD OF 'laws.FnSequence'. -/
def fnSequenceCard : Claim7 := { stood := { row := fnSequenceRow, standIns := [], harness := (true, "ec3f54832bf8bf4c3987ee531e1118f8f347d9c337d222d8d09a80937b95af61"), looks := true }, told := true, laidByText := true, laidKinds := [.data, .data, .data, .called, .called], laidTests := true, laidLooks := .later, goes := false }
def FnSequenceToldSaid : Prop := Claim7.holds Tryz.pinned (.plain (OpenSpec.ofChange fnSequenceSpec)) fnSequenceCard
/-- ITS FALSE NEIGHBOUR. Refute it at one input. -/
def FnSequenceToldWrongFalsely : Prop := Claim7.holds Tryz.pinned (.plain (OpenSpec.ofChange fnSequenceWrong)) fnSequenceCard
end Rows
end Go.Proofs.YtphikmigopdndaaGreatFmt
