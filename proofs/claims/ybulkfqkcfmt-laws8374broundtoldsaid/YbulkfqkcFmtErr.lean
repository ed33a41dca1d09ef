import Derived.Test.YbulkfqkcFmtCards
import Derived.Stop.CallBack
import Derived.Stop.IfaceNil
import Derived.WalkKit
import Derived.WalkSpells
import Derived.WalkLawsBesides
import Derived.Below
namespace Go.Proofs.YbulkfqkcFmt.Err
open Go.RowKit Go.Extern.Stop Go.Stop Go.Extern
set_option linter.unusedVariables false

theorem call12 (args : Array Value) (w : World) : (callFunc 12 args).run Ybaf.prog w = ((FmtStop.errorf #[9, 41] #[28] args).run Ybaf.prog w).andThen fun v w' => .ok (.value v) w' :=
  run_callFunc_extern Ybaf.func12 (by kernel_rfl) (by kernel_rfl) (by kernel_rfl) (by kernel_rfl) args w
theorem guard (name : String) (w : World) : (FmtStop.guard name).run Ybaf.prog w = .ok () w := by kernel_rfl
theorem fmt0r (w : World) : (FmtDoors.printed ⟨#[110, 111, 32, 116, 101, 120, 116, 32, 102, 111, 114, 32, 37, 115, 32, 37, 100]⟩ 2).run Ybaf.prog w = .ok [(0, 115, false), (1, 100, false)] w := by kernel_rfl
theorem op9 (name : String) (x : ByteArray) (w : World) : (FmtStop.operand name true 115 false (.iface 9 (.string x))).run Ybaf.prog w = .ok ([12, 6, 0, 0, 0, 0, 0, 0, 0, 115, 116, 114, 105, 110, 103], FmtStop.pack x.data.toList) w := by kernel_rfl
theorem op3 (name : String) (x : Int) (w : World) : (FmtStop.operand name true 100 false (.iface 3 (.int .i64 x))).run Ybaf.prog w = .ok ([5, 3, 0, 0, 0, 0, 0, 0, 0, 105, 110, 116], Go.Extern.Stop.digits 8 (x % 2 ^ 64).toNat) w := by kernel_rfl
theorem ptr51 (w : World) : (FmtStop.ptrTo "errors.errorString").run Ybaf.prog w = .ok 51 w := by kernel_rfl
theorem elem51 (w : World) : (elemOf 51).run Ybaf.prog w = .ok 53 w := by kernel_rfl

set_option maxRecDepth 100000 in
/-- fmt.Errorf's own text over the stop: an error that is not nil comes back, in new memory, whatever fmt's text is. -/
theorem errorf_any (b : Nat) (what : ByteArray) (v : Int) (w : World) (c0 : w.cell? ⟨b, 0, none⟩ = some (.iface 9 (.string what))) (c1 : w.cell? ⟨b, 1, none⟩ = some (.iface 3 (.int .i64 v))) :
    Calls Ybaf.prog 9 #[.string ⟨#[110, 111, 32, 116, 101, 120, 116, 32, 102, 111, 114, 32, 37, 115, 32, 37, 100]⟩, .slice (some ⟨b, 0, none⟩) 2 2] w fun e w' => ∃ a, e = .returned (.iface 51 (.pointer (some a))) ∧ Below w.heap.size w w' := by
  have g1 := call12
  have g2 := guard
  have g3 := fmt0r
  have g4 := op9
  have g5 := op3
  have g6 := ptr51
  have g7 := elem51
  go_enter Ybaf.func9, Ybaf.ntmps9
  go_wp2

  go_ret
  exact ⟨_, rfl, ((Below.refl _ _).alloc (Nat.le_refl _) _).drew⟩
end Go.Proofs.YbulkfqkcFmt.Err
