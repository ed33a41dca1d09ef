/-
  DERIVED. GIVEN WITH THE SEED: THE CARDS: each row of YbulkfqkcFmtRows.lean that lists a variable, with what it lists TIED to the program's text (the seventh form; the later family's looks); each row that meets fmt, with fmt's text TOLD by the authors' own Lean function (tested against real Go, not proved from fmt's source: count such statements apart). THE CARD IS WHAT COUNTS. Prove the row's statement (the work); the ties are given (YbulkfqkcFmtTie.lean); close each card by the builder's one call (the guide's Derived/Test/ToyasCard.lean, 'card_holds'). Laid BY PROGRAM, IN A SANDBOX (cutbox-door.mjs). By AI agents, Wed Nov 11 2026. No macro, syntax, notation, axiom, sorry.
-/
import Derived.Test.YbulkfqkcFmtRows
import GoSem.ClaimSeven
namespace Go.Proofs.YbulkfqkcFmt
namespace Rows

/-- THE TOLD CARD OF 'tester.LawS8374BWhole'. -/
def lawS8374BWholeCard : Claim7 := { stood := { row := lawS8374BWholeRow, standIns := [], harness := (true, "f18167d85c607fb3b8bf05f0e8885720a5a34005eb537afcc0d598a17ac1ad5b"), looks := false }, told := true, goes := false }
def LawS8374BWholeToldSaid : Prop := Claim7.holds Ybaf.pinned (.plain (OpenSpec.ofChange lawS8374BWholeSpec)) lawS8374BWholeCard
/-- ITS FALSE NEIGHBOUR. Refute it at one input. -/
def LawS8374BWholeToldWrongFalsely : Prop := Claim7.holds Ybaf.pinned (.plain (OpenSpec.ofChange lawS8374BWholeWrong)) lawS8374BWholeCard

/-- THE TOLD CARD OF 'tester.LawS8374BRound'. -/
def lawS8374BRoundCard : Claim7 := { stood := { row := lawS8374BRoundRow, standIns := [], harness := (true, "f18167d85c607fb3b8bf05f0e8885720a5a34005eb537afcc0d598a17ac1ad5b"), looks := false }, told := true, goes := false }
def LawS8374BRoundToldSaid : Prop := Claim7.holds Ybaf.pinned (.plain (OpenSpec.ofChange lawS8374BRoundSpec)) lawS8374BRoundCard
/-- ITS FALSE NEIGHBOUR. Refute it at one input. -/
def LawS8374BRoundToldWrongFalsely : Prop := Claim7.holds Ybaf.pinned (.plain (OpenSpec.ofChange lawS8374BRoundWrong)) lawS8374BRoundCard
end Rows
end Go.Proofs.YbulkfqkcFmt
