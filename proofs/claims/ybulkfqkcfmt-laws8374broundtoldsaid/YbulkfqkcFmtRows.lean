/-
  No cell of these rows narrows 'for every input' (looked for: loops, veiled, ifaces, maps, wideKeys, modest, calm, conditions, laid).
  DERIVED. THE GIVEN ROWS OF THIS SEAT. 2 by the template 'for every input the law returns true; each argument reads behind the call as it read before'; 0 by the template 'total and deterministic' (their statements: YbulkfqkcFmtTotals.lean).
  GIVEN WITH THE SEED: the statements are not yours to turn. If you find one false, say at which input.
  Laid BY PROGRAM, IN A SANDBOX (cutbox-rows.mjs): the forced cells as the released guide's own fill.sh prints them over the translation 190e84a56ae0e86d… (all of the seat's roots in one cut). By AI agents, Wed Nov 11 2026. No macro, syntax, notation, axiom, sorry.
-/
import Derived.Test.YbulkfqkcFmtChecked
import GoSem.Claim
import GoSem.ClaimJoined
import GoSem.ClaimMapViews
import Derived.JoinedTies
import Derived.KernelRfl
namespace Go.Proofs.YbulkfqkcFmt
/- THE CELL 'sum', in the pinned program and in every row, IS THE sha256 OF THE DUMP (.gsa) THAT YbulkfqkcFmtProg.lean LOADS. Nothing in Lean hashes anything: it is a label: what it is worth is what the hold of that sum in a sandbox is worth. -/
noncomputable def Ybaf.pinned : Pinned := { name := "ybulkfqkcfmt", sum := "190e84a56ae0e86d775830a5bff687741ea4a9990ee06da69d32ac005bc438d1", checked := Ybaf.checked }
namespace Rows
def none {H : Type} : Left H := { results := [], args := [] }

/-- 'tester.LawS8374BWhole': WHATEVER THE INPUT: true; the input reads as it did. -/
def lawS8374BWholeSpec : ChangeSpec := { name := "lawS8374BWhole", fn := fun _ => fun
  | [d1, d2, d3] => { results := [.lit (.bool true)], args := [d1, d2, d3] }
  | _ => none }
def lawS8374BWholeRow : OpenClaim := { program := "ybulkfqkcfmt", sum := "190e84a56ae0e86d775830a5bff687741ea4a9990ee06da69d32ac005bc438d1", func := "example.com/catechist/catechist/internal/tester.LawS8374BWhole", spec := "lawS8374BWhole", stops := ["fmt.errorf"], inPlace := ["fmt.errorf"], apart := false }
/-- NO THEOREM (fmt's text is open here; it may be false): for the released tool's asking of the row's closed facts alone. THE STATEMENT IS 'LawS8374BWholeToldSaid' (YbulkfqkcFmtCards.lean). -/
def LawS8374BWholeFormAsk : Prop := lawS8374BWholeRow.holds Ybaf.pinned (OpenSpec.ofChange lawS8374BWholeSpec)

/-- ITS FALSE NEIGHBOUR: 'it returns false'. Refute it at one input. -/
def lawS8374BWholeWrong : ChangeSpec := { name := "lawS8374BWhole", fn := fun _ => fun
  | [d1, d2, d3] => { results := [.lit (.bool false)], args := [d1, d2, d3] }
  | _ => none }
def LawS8374BWholeWrongFormAsk : Prop := lawS8374BWholeRow.holds Ybaf.pinned (OpenSpec.ofChange lawS8374BWholeWrong)

/-- 'tester.LawS8374BRound': WHATEVER THE INPUT: true; the input reads as it did. -/
def lawS8374BRoundSpec : ChangeSpec := { name := "lawS8374BRound", fn := fun _ => fun
  | [d1, d2] => { results := [.lit (.bool true)], args := [d1, d2] }
  | _ => none }
def lawS8374BRoundRow : OpenClaim := { program := "ybulkfqkcfmt", sum := "190e84a56ae0e86d775830a5bff687741ea4a9990ee06da69d32ac005bc438d1", func := "example.com/catechist/catechist/internal/tester.LawS8374BRound", spec := "lawS8374BRound", stops := ["fmt.errorf"], inPlace := ["fmt.errorf", "internal/abi.NoEscape", "internal/bytealg.MakeNoZero"], apart := false }
/-- NO THEOREM (fmt's text is open here; it may be false): for the released tool's asking of the row's closed facts alone. THE STATEMENT IS 'LawS8374BRoundToldSaid' (YbulkfqkcFmtCards.lean). -/
def LawS8374BRoundFormAsk : Prop := lawS8374BRoundRow.holds Ybaf.pinned (OpenSpec.ofChange lawS8374BRoundSpec)

/-- ITS FALSE NEIGHBOUR: 'it returns false'. Refute it at one input. -/
def lawS8374BRoundWrong : ChangeSpec := { name := "lawS8374BRound", fn := fun _ => fun
  | [d1, d2] => { results := [.lit (.bool false)], args := [d1, d2] }
  | _ => none }
def LawS8374BRoundWrongFormAsk : Prop := lawS8374BRoundRow.holds Ybaf.pinned (OpenSpec.ofChange lawS8374BRoundWrong)

end Rows
end Go.Proofs.YbulkfqkcFmt
