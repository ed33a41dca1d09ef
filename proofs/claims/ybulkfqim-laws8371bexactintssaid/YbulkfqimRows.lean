/-
  No cell of these rows narrows 'for every input' (looked for: loops, veiled, ifaces, maps, wideKeys, modest, calm, conditions, laid).
  DERIVED. THE GIVEN ROWS OF THIS SEAT. 4 by the template 'for every input the law returns true; each argument reads behind the call as it read before'; 0 by the template 'total and deterministic' (their statements: YbulkfqimTotals.lean).
  GIVEN WITH THE SEED: the statements are not yours to turn. If you find one false, say at which input.
  Laid BY PROGRAM, IN A SANDBOX (cutbox-rows.mjs): the forced cells as the released guide's own fill.sh prints them over the translation 60852e4e46af039e… (all of the seat's roots in one cut). By AI agents, Wed Nov 11 2026. No macro, syntax, notation, axiom, sorry.
-/
import Derived.Test.YbulkfqimChecked
import GoSem.Claim
import GoSem.ClaimJoined
import GoSem.ClaimMapViews
import Derived.JoinedTies
import Derived.KernelRfl
namespace Go.Proofs.Ybulkfqim
/- THE CELL 'sum', in the pinned program and in every row, IS THE sha256 OF THE DUMP (.gsa) THAT YbulkfqimProg.lean LOADS. Nothing in Lean hashes anything: it is a label: what it is worth is what the hold of that sum in a sandbox is worth. -/
noncomputable def Yba.pinned : Pinned := { name := "ybulkfqim", sum := "60852e4e46af039e3f694b920b49ca306f918fd661d0408a52b5eed65f519284", checked := Yba.checked }
namespace Rows
def none {H : Type} : Left H := { results := [], args := [] }

/-- 'record.LawS8371AWhole': WHATEVER THE INPUT: true; the input reads as it did. -/
def lawS8371AWholeSpec : ChangeSpec := { name := "lawS8371AWhole", fn := fun _ => fun
  | [d1, d2, d3, d4] => { results := [.lit (.bool true)], args := [d1, d2, d3, d4] }
  | _ => none }
def lawS8371AWholeRow : OpenClaim := { program := "ybulkfqim", sum := "60852e4e46af039e3f694b920b49ca306f918fd661d0408a52b5eed65f519284", func := "example.com/cistern/cistern/internal/record.LawS8371AWhole", spec := "lawS8371AWhole", inPlace := ["internal/bytealg.MakeNoZero", "internal/bytealg.Count", "internal/bytealg.IndexByte", "internal/bytealg.Index"], named := ["internal/bytealg.MaxLen"], apart := false }
def LawS8371AWholeSaid : Prop := lawS8371AWholeRow.holds Yba.pinned (OpenSpec.ofChange lawS8371AWholeSpec)

/-- ITS FALSE NEIGHBOUR: 'it returns false'. Refute it at one input. -/
def lawS8371AWholeWrong : ChangeSpec := { name := "lawS8371AWhole", fn := fun _ => fun
  | [d1, d2, d3, d4] => { results := [.lit (.bool false)], args := [d1, d2, d3, d4] }
  | _ => none }
def LawS8371AWholeWrongFalsely : Prop := lawS8371AWholeRow.holds Yba.pinned (OpenSpec.ofChange lawS8371AWholeWrong)

/-- 'cistern.LawS8371BWhole': WHATEVER THE INPUT: true; the input reads as it did. -/
def lawS8371BWholeSpec : ChangeSpec := { name := "lawS8371BWhole", fn := fun _ => fun
  | [d1, d2, d3, d4, d5, d6, d7, d8, d9] => { results := [.lit (.bool true)], args := [d1, d2, d3, d4, d5, d6, d7, d8, d9] }
  | _ => none }
def lawS8371BWholeRow : OpenClaim := { program := "ybulkfqim", sum := "60852e4e46af039e3f694b920b49ca306f918fd661d0408a52b5eed65f519284", func := "example.com/cistern/cistern.LawS8371BWhole", spec := "lawS8371BWhole", inPlace := ["math.Float64bits"], apart := false }
def LawS8371BWholeSaid : Prop := lawS8371BWholeRow.holds Yba.pinned (OpenSpec.ofChange lawS8371BWholeSpec)

/-- ITS FALSE NEIGHBOUR: 'it returns false'. Refute it at one input. -/
def lawS8371BWholeWrong : ChangeSpec := { name := "lawS8371BWhole", fn := fun _ => fun
  | [d1, d2, d3, d4, d5, d6, d7, d8, d9] => { results := [.lit (.bool false)], args := [d1, d2, d3, d4, d5, d6, d7, d8, d9] }
  | _ => none }
def LawS8371BWholeWrongFalsely : Prop := lawS8371BWholeRow.holds Yba.pinned (OpenSpec.ofChange lawS8371BWholeWrong)

/-- 'cistern.LawS8371BExactInts': WHATEVER THE INPUT: true; the input reads as it did. -/
def lawS8371BExactIntsSpec : ChangeSpec := { name := "lawS8371BExactInts", fn := fun _ => fun
  | [d1, d2, d3] => { results := [.lit (.bool true)], args := [d1, d2, d3] }
  | _ => none }
def lawS8371BExactIntsRow : OpenClaim := { program := "ybulkfqim", sum := "60852e4e46af039e3f694b920b49ca306f918fd661d0408a52b5eed65f519284", func := "example.com/cistern/cistern.LawS8371BExactInts", spec := "lawS8371BExactInts", inPlace := ["internal/chacha8rand.block"], named := ["encoding/binary.LittleEndian"], apart := false }
def LawS8371BExactIntsSaid : Prop := lawS8371BExactIntsRow.holds Yba.pinned (OpenSpec.ofChange lawS8371BExactIntsSpec)

/-- ITS FALSE NEIGHBOUR: 'it returns false'. Refute it at one input. -/
def lawS8371BExactIntsWrong : ChangeSpec := { name := "lawS8371BExactInts", fn := fun _ => fun
  | [d1, d2, d3] => { results := [.lit (.bool false)], args := [d1, d2, d3] }
  | _ => none }
def LawS8371BExactIntsWrongFalsely : Prop := lawS8371BExactIntsRow.holds Yba.pinned (OpenSpec.ofChange lawS8371BExactIntsWrong)

/-- 'cistern.LawS8371CWhole': WHATEVER THE INPUT: true; the input reads as it did. -/
def lawS8371CWholeSpec : ChangeSpec := { name := "lawS8371CWhole", fn := fun _ => fun
  | [d1, d2, d3] => { results := [.lit (.bool true)], args := [d1, d2, d3] }
  | _ => none }
def lawS8371CWholeRow : OpenClaim := { program := "ybulkfqim", sum := "60852e4e46af039e3f694b920b49ca306f918fd661d0408a52b5eed65f519284", func := "example.com/cistern/cistern.LawS8371CWhole", spec := "lawS8371CWhole", apart := false }
def LawS8371CWholeSaid : Prop := lawS8371CWholeRow.holds Yba.pinned (OpenSpec.ofChange lawS8371CWholeSpec)

/-- ITS FALSE NEIGHBOUR: 'it returns false'. Refute it at one input. -/
def lawS8371CWholeWrong : ChangeSpec := { name := "lawS8371CWhole", fn := fun _ => fun
  | [d1, d2, d3] => { results := [.lit (.bool false)], args := [d1, d2, d3] }
  | _ => none }
def LawS8371CWholeWrongFalsely : Prop := lawS8371CWholeRow.holds Yba.pinned (OpenSpec.ofChange lawS8371CWholeWrong)

end Rows
end Go.Proofs.Ybulkfqim
