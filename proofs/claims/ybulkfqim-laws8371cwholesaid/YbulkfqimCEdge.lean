import Derived.Test.YbulkfqimCWalk
namespace Go.Proofs.Ybulkfqim.CWalk
open Go.RowKit
set_option linter.unusedVariables false

theorem run_make49_00 (w : World) :
    (Instr.makeSlice 45 (.int .i64 0) (.int .i64 0)).run Yba.prog w = .ok (.slice (some ⟨w.heap.size, 0, none⟩) 0 0) (w.alloc (.cells (madeCells #[.int .u64 0, .int .i64 0, .int .i64 0] 0) 49)) := by
  have := run_make49 0 0 (Nat.zero_le _) (by omega) w
  simpa using this

set_option maxHeartbeats 400000 in
set_option maxRecDepth 100000 in
theorem walk_empty (ad : Addr) (cap : Nat) (st : Int) (sh : Bool) (w : World) :
    Calls Yba.prog 6 #[.slice (some ad) 0 cap, .int .i64 st, .bool sh] w fun e w' => e = .returned (.bool true) ∧ Below w.heap.size w w' := by
  have hmk := run_make49_00
  have q1 := fun (w : World) (a : Option Addr) (n c : Nat) => run_neq_slice_nil_any (P := Yba.prog) w 44 47 a n c 0 0 Yba.underlying44
  have q2 := fun (w : World) (a : Option Addr) (n c : Nat) => Lib.run_eql_slice_nil (P := Yba.prog) w 45 49 a n c 0 0 Yba.underlying45
  have q3 := fun (w : World) (a : Option Addr) (n c : Nat) => Lib.run_eql_slice_nil (P := Yba.prog) w 44 47 a n c 0 0 Yba.underlying44
  go_enter Yba.func6, Yba.ntmps6
  cases sh
  · go_wp2
    refine wp_loop_rounds 1 ?_
    rw [rounds_succ]
    go_wp2
    refine wp_loop_rounds 1 ?_
    rw [rounds_succ]
    go_wp2
    go_ret
    exact ⟨rfl, ((Below.refl _ _).alloc (Nat.le_refl _) _).alloc (by simp) _⟩
  · go_wp2
    refine wp_loop_rounds 1 ?_
    rw [rounds_succ]
    go_wp2
    refine wp_loop_rounds 1 ?_
    rw [rounds_succ]
    go_wp2
    go_ret
    exact ⟨rfl, (((Below.refl _ _).alloc (Nat.le_refl _) _).alloc (by simp) _).alloc (by simp; omega) _⟩

set_option maxHeartbeats 400000 in
set_option maxRecDepth 100000 in
theorem walk_nil (st : Int) (sh : Bool) (w : World) :
    Calls Yba.prog 6 #[.slice none 0 0, .int .i64 st, .bool sh] w fun e w' => e = .returned (.bool true) ∧ Below w.heap.size w w' := by
  have hmk := run_make49_00
  have q1 := fun (w : World) (a : Option Addr) (n c : Nat) => run_neq_slice_nil_any (P := Yba.prog) w 44 47 a n c 0 0 Yba.underlying44
  have q2 := fun (w : World) (a : Option Addr) (n c : Nat) => Lib.run_eql_slice_nil (P := Yba.prog) w 45 49 a n c 0 0 Yba.underlying45
  have q3 := fun (w : World) (a : Option Addr) (n c : Nat) => Lib.run_eql_slice_nil (P := Yba.prog) w 44 47 a n c 0 0 Yba.underlying44
  go_enter Yba.func6, Yba.ntmps6
  cases sh
  · go_wp2
    refine wp_loop_rounds 1 ?_
    rw [rounds_succ]
    go_wp2
    go_ret
    exact ⟨rfl, ((Below.refl _ _).alloc (Nat.le_refl _) _)⟩
  · go_wp2
    refine wp_loop_rounds 1 ?_
    rw [rounds_succ]
    go_wp2
    go_ret
    exact ⟨rfl, ((Below.refl _ _).alloc (Nat.le_refl _) _).alloc (by simp) _⟩

set_option maxRecDepth 100000 in
theorem walk_big (a : Option Addr) (n cap : Nat) (st : Int) (sh : Bool) (w : World) (h : 1048576 < n) :
    Calls Yba.prog 6 #[.slice a n cap, .int .i64 st, .bool sh] w fun e w' => e = .returned (.bool true) ∧ Below w.heap.size w w' := by
  have h18 : decide ((1048576 : Int) < (n : Int)) = true := by simp; omega
  go_enter Yba.func6, Yba.ntmps6
  go_wp2
  go_ret
  exact ⟨rfl, Below.refl _ _⟩

/-- What the walk is told of a slice of structs of three integers that came in. -/
def IsRuns (w : World) (a : Option Addr) (len cap : Nat) : Prop :=
  (a = none ∧ len = 0 ∧ cap = 0) ∨
  ∃ x, a = some x ∧ (0 < len → ∃ b off, x = ⟨b, off, none⟩ ∧ b < w.heap.size ∧ ∃ A B C : Nat → Int,
    (∀ i, i < len → w.cell? ⟨b, off + i * 3, none⟩ = some (.int .u64 (A i))) ∧
    (∀ i, i < len → w.cell? ⟨b, off + i * 3 + 1, none⟩ = some (.int .i64 (B i))) ∧
    (∀ i, i < len → w.cell? ⟨b, off + i * 3 + 2, none⟩ = some (.int .i64 (C i))))

theorem walk (a : Option Addr) (len cap : Nat) (st : Int) (sh : Bool) (w : World) (h : IsRuns w a len cap) :
    Calls Yba.prog 6 #[.slice a len cap, .int .i64 st, .bool sh] w fun e w' => e = .returned (.bool true) ∧ Below w.heap.size w w' := by
  by_cases hn : 1048576 < len
  · exact walk_big a len cap st sh w hn
  rcases h with ⟨rfl, rfl, rfl⟩ | ⟨x, rfl, h⟩
  · exact walk_nil st sh w
  by_cases h0 : len = 0
  · subst h0
    exact walk_empty x cap st sh w
  obtain ⟨b, off, rfl, hb, A, B, C, hA, hB, hC⟩ := h (by omega)
  exact walk_some b off len cap st sh A B C w (by omega) hb hA hB hC
end Go.Proofs.Ybulkfqim.CWalk
