/-
  No cell of these rows narrows 'for every input' (looked for: loops, veiled, ifaces, maps, wideKeys, modest, calm, conditions, laid).
  DERIVED. THE GIVEN ROWS OF THIS SEAT. 1 by the template 'for every input the law returns true; each argument reads behind the call as it read before'; 0 by the template 'total and deterministic' (their statements: YbulkfrusTotals.lean).
  GIVEN WITH THE SEED: the statements are not yours to turn. If you find one false, say at which input.
  Laid BY PROGRAM, IN A SANDBOX (cutbox-rows.mjs): the forced cells as the released guide's own fill.sh prints them over the translation 3fde2fcd6304a60f… (all of the seat's roots in one cut). By AI agents, Wed Nov 11 2026. No macro, syntax, notation, axiom, sorry.
-/
import Derived.Test.YbulkfrusChecked
import GoSem.Claim
import GoSem.ClaimJoined
import GoSem.ClaimMapViews
import Derived.JoinedTies
import Derived.KernelRfl
namespace Go.Proofs.Ybulkfrus
/- THE CELL 'sum', in the pinned program and in every row, IS THE sha256 OF THE DUMP (.gsa) THAT YbulkfrusProg.lean LOADS. Nothing in Lean hashes anything: it is a label: what it is worth is what the hold of that sum in a sandbox is worth. -/
noncomputable def Yba.pinned : Pinned := { name := "ybulkfrus", sum := "3fde2fcd6304a60f927712cf56c2f68c5164a3eeca7e97e6e1d328787223bb84", checked := Yba.checked }
namespace Rows
def none {H : Type} : Left H := { results := [], args := [] }

/-- 'driftless.LawS8442AWhole': WHATEVER THE INPUT: true; the input reads as it did. -/
def lawS8442AWholeSpec : ChangeSpec := { name := "lawS8442AWhole", fn := fun _ => fun
  | [d1, d2, d3, d4] => { results := [.lit (.bool true)], args := [d1, d2, d3, d4] }
  | _ => none }
def lawS8442AWholeRow : OpenClaim := { program := "ybulkfrus", sum := "3fde2fcd6304a60f927712cf56c2f68c5164a3eeca7e97e6e1d328787223bb84", func := "example.com/driftless/driftless.LawS8442AWhole", spec := "lawS8442AWhole", apart := false }
def LawS8442AWholeSaid : Prop := lawS8442AWholeRow.holds Yba.pinned (OpenSpec.ofChange lawS8442AWholeSpec)

/-- ITS FALSE NEIGHBOUR: 'it returns false'. Refute it at one input. -/
def lawS8442AWholeWrong : ChangeSpec := { name := "lawS8442AWhole", fn := fun _ => fun
  | [d1, d2, d3, d4] => { results := [.lit (.bool false)], args := [d1, d2, d3, d4] }
  | _ => none }
def LawS8442AWholeWrongFalsely : Prop := lawS8442AWholeRow.holds Yba.pinned (OpenSpec.ofChange lawS8442AWholeWrong)

end Rows
end Go.Proofs.Ybulkfrus
