import Derived.Test.YbulkfrusShared
namespace Go.Proofs.Ybulkfrus.Walk
open Go.RowKit Go.Proofs.Ybulkfrus.Base
set_option linter.unusedVariables false

/-- What lies in the result's slot behind the call of step. -/
theorem slot_facts {w w1 : World} {v0 v1 v2 v3 : Value} (hb : Below (w.alloc (.cells #[v0, v1, v2, v3] 29)).heap.size (w.alloc (.cells #[v0, v1, v2, v3] 29)) w1) :
    Below w.heap.size w w1 ∧ w1.heap[w.heap.size]? = some (.cells #[v0, v1, v2, v3] 29 (0, 0)) := by
  refine ⟨((Below.refl _ _).alloc (Nat.le_refl _) _).trans (hb.mono (by simp)), ?_⟩
  rw [hb.block _ (by simp)]
  exact heap_alloc_new w _

set_option maxRecDepth 100000 in
set_option maxHeartbeats 400000 in
theorem at_common (C : Nat → Stp) (b off nc cc k : Nat) (r : Option Addr) (nr cr : Nat) (w : World) (hn : nc ≤ 2097152) (hk : k < nc) (hb : b < w.heap.size) (hl : SLie w b off nc C) :
    Calls Yba.prog 5 #[.slice (some ⟨b, off, none⟩) nc cc, .slice r nr cr, .int .i64 k] w fun e w' => e = .returned (.agg #[.bool (C k).il, .string (C k).key, .int .u64 (C k).ctr, .string (C k).rep]) ∧ Below w.heap.size w w' := by
  obtain ⟨g0, g1, g2, g3⟩ := hl k hk
  have hq : (k : Int) < (nc : Int) := by omega
  clear hl
  go_enter Yba.func5, Yba.ntmps5
  go_wp2_with fail
  refine (step_any (C k) _).mono ?_
  rintro e w1 ⟨rfl, hb1⟩
  obtain ⟨hB, hrow⟩ := slot_facts hb1
  have HB : Hid (Below w.heap.size w w1) := hB
  have c0 : w1.cell? ⟨w.heap.size, 0, none⟩ = some (.bool false) := cell_of_row w1 _ _ _ _ _ hrow
  have c1 : w1.cell? ⟨w.heap.size, 1, none⟩ = some (.string ⟨#[]⟩) := cell_of_row w1 _ _ _ _ _ hrow
  have c2 : w1.cell? ⟨w.heap.size, 2, none⟩ = some (.int .u64 0) := cell_of_row w1 _ _ _ _ _ hrow
  have c3 : w1.cell? ⟨w.heap.size, 3, none⟩ = some (.string ⟨#[]⟩) := cell_of_row w1 _ _ _ _ _ hrow
  have f0 : w1.frozen? ⟨w.heap.size, 0, none⟩ = false := frozen_of_row w1 _ _ _ _ hrow
  have f1 : w1.frozen? ⟨w.heap.size, 1, none⟩ = false := frozen_of_row w1 _ _ _ _ hrow
  have f2 : w1.frozen? ⟨w.heap.size, 2, none⟩ = false := frozen_of_row w1 _ _ _ _ hrow
  have f3 : w1.frozen? ⟨w.heap.size, 3, none⟩ = false := frozen_of_row w1 _ _ _ _ hrow
  clear hb1 hB hrow g0 g1 g2 g3
  go_wp2
  exact bodyPost_ret (v := .agg #[.bool (C k).il, .string (C k).key, .int .u64 (C k).ctr, .string (C k).rep]) (by simp [results, Yba.results5, go_sem, c0, c1, c2, c3]) rfl ⟨rfl, (((HB.out.setCell (p := ⟨w.heap.size, 0, none⟩) (Nat.le_refl _) _).setCell (p := ⟨w.heap.size, 1, none⟩) (Nat.le_refl _) _).setCell (p := ⟨w.heap.size, 2, none⟩) (Nat.le_refl _) _).setCell (p := ⟨w.heap.size, 3, none⟩) (Nat.le_refl _) _⟩

set_option maxRecDepth 100000 in
set_option maxHeartbeats 400000 in
theorem at_rest (R : Nat → Stp) (b off nc cc k : Nat) (a : Option Addr) (nr cr : Nat) (w : World) (hn : nc + nr ≤ 2097152) (hk : nc ≤ k) (hk2 : k < nc + nr) (hb : b < w.heap.size) (hl : SLie w b off nr R) :
    Calls Yba.prog 5 #[.slice a nc cc, .slice (some ⟨b, off, none⟩) nr cr, .int .i64 k] w fun e w' => e = .returned (.agg #[.bool (R (k - nc)).il, .string (R (k - nc)).key, .int .u64 (R (k - nc)).ctr, .string (R (k - nc)).rep]) ∧ Below w.heap.size w w' := by
  obtain ⟨d, rfl⟩ : ∃ d, k = nc + d := ⟨k - nc, by omega⟩
  rw [Nat.add_sub_cancel_left]
  obtain ⟨g0, g1, g2, g3⟩ := hl d (by omega)
  have hq : decide (((nc + d : Nat) : Int) < (nc : Int)) = false := by simp; omega
  have hq2 : (d : Int) < (nr : Int) := by omega
  clear hl
  go_enter Yba.func5, Yba.ntmps5
  go_wp2_with fail
  refine (step_any (R d) _).mono ?_
  rintro e w1 ⟨rfl, hb1⟩
  obtain ⟨hB, hrow⟩ := slot_facts hb1
  have HB : Hid (Below w.heap.size w w1) := hB
  have c0 : w1.cell? ⟨w.heap.size, 0, none⟩ = some (.bool false) := cell_of_row w1 _ _ _ _ _ hrow
  have c1 : w1.cell? ⟨w.heap.size, 1, none⟩ = some (.string ⟨#[]⟩) := cell_of_row w1 _ _ _ _ _ hrow
  have c2 : w1.cell? ⟨w.heap.size, 2, none⟩ = some (.int .u64 0) := cell_of_row w1 _ _ _ _ _ hrow
  have c3 : w1.cell? ⟨w.heap.size, 3, none⟩ = some (.string ⟨#[]⟩) := cell_of_row w1 _ _ _ _ _ hrow
  have f0 : w1.frozen? ⟨w.heap.size, 0, none⟩ = false := frozen_of_row w1 _ _ _ _ hrow
  have f1 : w1.frozen? ⟨w.heap.size, 1, none⟩ = false := frozen_of_row w1 _ _ _ _ hrow
  have f2 : w1.frozen? ⟨w.heap.size, 2, none⟩ = false := frozen_of_row w1 _ _ _ _ hrow
  have f3 : w1.frozen? ⟨w.heap.size, 3, none⟩ = false := frozen_of_row w1 _ _ _ _ hrow
  clear hb1 hB hrow g0 g1 g2 g3
  go_wp2
  exact bodyPost_ret (v := .agg #[.bool (R d).il, .string (R d).key, .int .u64 (R d).ctr, .string (R d).rep]) (by simp [results, Yba.results5, go_sem, c0, c1, c2, c3]) rfl ⟨rfl, (((HB.out.setCell (p := ⟨w.heap.size, 0, none⟩) (Nat.le_refl _) _).setCell (p := ⟨w.heap.size, 1, none⟩) (Nat.le_refl _) _).setCell (p := ⟨w.heap.size, 2, none⟩) (Nat.le_refl _) _).setCell (p := ⟨w.heap.size, 3, none⟩) (Nat.le_refl _) _⟩

/-- at: step k of the two slices one behind the other. -/
theorem at_any (C R : Nat → Stp) (a r : Option Addr) (nc cc nr cr k : Nat) (w : World) (hn : nc + nr ≤ 2097152) (hk : k < nc + nr) (hc : StpsAt w a nc C) (hr : StpsAt w r nr R) :
    Calls Yba.prog 5 #[.slice a nc cc, .slice r nr cr, .int .i64 k] w fun e w' => e = .returned (.agg #[.bool (thenS C R nc k).il, .string (thenS C R nc k).key, .int .u64 (thenS C R nc k).ctr, .string (thenS C R nc k).rep]) ∧ Below w.heap.size w w' := by
  by_cases h : k < nc
  · obtain ⟨b, off, rfl, hb, hl⟩ := hc (by omega)
    rw [show thenS C R nc k = C k from if_pos h]
    exact at_common C b off nc cc k r nr cr w (by omega) h hb hl
  · obtain ⟨b, off, rfl, hb, hl⟩ := hr (by omega)
    rw [show thenS C R nc k = R (k - nc) from if_neg h]
    exact at_rest R b off nc cc k a nr cr w hn (by omega) hk hb hl
end Go.Proofs.Ybulkfrus.Walk
