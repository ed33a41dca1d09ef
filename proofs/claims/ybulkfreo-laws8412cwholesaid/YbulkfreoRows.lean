/-
  No cell of these rows narrows 'for every input' (looked for: loops, veiled, ifaces, maps, wideKeys, modest, calm, conditions, laid).
  DERIVED. THE GIVEN ROWS OF THIS SEAT. 2 by the template 'for every input the law returns true; each argument reads behind the call as it read before'; 0 by the template 'total and deterministic' (their statements: YbulkfreoTotals.lean).
  GIVEN WITH THE SEED: the statements are not yours to turn. If you find one false, say at which input.
  Laid BY PROGRAM, IN A SANDBOX (cutbox-rows.mjs): the forced cells as the released guide's own fill.sh prints them over the translation f036a94fb7ca2b1b… (all of the seat's roots in one cut). By AI agents, Wed Nov 11 2026. No macro, syntax, notation, axiom, sorry.
-/
import Derived.Test.YbulkfreoChecked
import GoSem.Claim
import GoSem.ClaimJoined
import GoSem.ClaimMapViews
import Derived.JoinedTies
import Derived.KernelRfl
namespace Go.Proofs.Ybulkfreo
/- THE CELL 'sum', in the pinned program and in every row, IS THE sha256 OF THE DUMP (.gsa) THAT YbulkfreoProg.lean LOADS. Nothing in Lean hashes anything: it is a label: what it is worth is what the hold of that sum in a sandbox is worth. -/
noncomputable def Yba.pinned : Pinned := { name := "ybulkfreo", sum := "f036a94fb7ca2b1b8fd26089e8274eade5e21c0f4ec71d63540f3887e71d50a0", checked := Yba.checked }
namespace Rows
def none {H : Type} : Left H := { results := [], args := [] }

/-- 'cluster.LawS8412AWhole': WHATEVER THE INPUT: true; the input reads as it did. -/
def lawS8412AWholeSpec : ChangeSpec := { name := "lawS8412AWhole", fn := fun _ => fun
  | [d1, d2, d3, d4, d5, d6, d7, d8] => { results := [.lit (.bool true)], args := [d1, d2, d3, d4, d5, d6, d7, d8] }
  | _ => none }
def lawS8412AWholeRow : OpenClaim := { program := "ybulkfreo", sum := "f036a94fb7ca2b1b8fd26089e8274eade5e21c0f4ec71d63540f3887e71d50a0", func := "example.com/slackwater/slackwater/pkg/cluster.LawS8412AWhole", spec := "lawS8412AWhole", apart := false }
def LawS8412AWholeSaid : Prop := lawS8412AWholeRow.holds Yba.pinned (OpenSpec.ofChange lawS8412AWholeSpec)

/-- ITS FALSE NEIGHBOUR: 'it returns false'. Refute it at one input. -/
def lawS8412AWholeWrong : ChangeSpec := { name := "lawS8412AWhole", fn := fun _ => fun
  | [d1, d2, d3, d4, d5, d6, d7, d8] => { results := [.lit (.bool false)], args := [d1, d2, d3, d4, d5, d6, d7, d8] }
  | _ => none }
def LawS8412AWholeWrongFalsely : Prop := lawS8412AWholeRow.holds Yba.pinned (OpenSpec.ofChange lawS8412AWholeWrong)

/-- 'scheduler.LawS8412CWhole': WHATEVER THE INPUT: true; the input reads as it did. -/
def lawS8412CWholeSpec : ChangeSpec := { name := "lawS8412CWhole", fn := fun _ => fun
  | [d1, d2] => { results := [.lit (.bool true)], args := [d1, d2] }
  | _ => none }
def lawS8412CWholeRow : OpenClaim := { program := "ybulkfreo", sum := "f036a94fb7ca2b1b8fd26089e8274eade5e21c0f4ec71d63540f3887e71d50a0", func := "example.com/slackwater/slackwater/pkg/scheduler.LawS8412CWhole", spec := "lawS8412CWhole", inPlace := ["math.Float64bits"], apart := false }
def LawS8412CWholeSaid : Prop := lawS8412CWholeRow.holds Yba.pinned (OpenSpec.ofChange lawS8412CWholeSpec)

/-- ITS FALSE NEIGHBOUR: 'it returns false'. Refute it at one input. -/
def lawS8412CWholeWrong : ChangeSpec := { name := "lawS8412CWhole", fn := fun _ => fun
  | [d1, d2] => { results := [.lit (.bool false)], args := [d1, d2] }
  | _ => none }
def LawS8412CWholeWrongFalsely : Prop := lawS8412CWholeRow.holds Yba.pinned (OpenSpec.ofChange lawS8412CWholeWrong)

end Rows
end Go.Proofs.Ybulkfreo
