import Derived.Test.YbulkfqimRand
namespace Go.Proofs.Ybulkfqim.Rand
open Go.RowKit
set_option linter.unusedVariables false

/-- What init64 lays ahead of the block's call. -/
def W64 (w : World) (s : Nat) (x0 x1 x2 x3 : Int) : World :=
  ((((w.setCell ⟨s, 32, none⟩ (.int .u64 x0)).setCell ⟨s, 33, none⟩ (.int .u64 x1)).setCell ⟨s, 34, none⟩ (.int .u64 x2)).setCell ⟨s, 35, none⟩ (.int .u64 x3)).alloc (.cells #[.int .u64 x0, .int .u64 x1, .int .u64 x2, .int .u64 x3] 86)

theorem W64_facts (w : World) (s : Nat) (x0 x1 x2 x3 : Int) (ht : w.there s 0 48) (hs : s < w.heap.size) :
    Below s w (W64 w s x0 x1 x2 x3) ∧ (W64 w s x0 x1 x2 x3).there s 0 48 ∧ (W64 w s x0 x1 x2 x3).rangeAt s 32 [.int .u64 x0, .int .u64 x1, .int .u64 x2, .int .u64 x3] := by
  have e : W64 w s x0 x1 x2 x3 = (w.setCells s 32 [.int .u64 x0, .int .u64 x1, .int .u64 x2, .int .u64 x3]).alloc (.cells #[.int .u64 x0, .int .u64 x1, .int .u64 x2, .int .u64 x3] 86) := rfl
  have hsz : s < (w.setCells s 32 [.int .u64 x0, .int .u64 x1, .int .u64 x2, .int .u64 x3]).heap.size := by simpa [World.setCells, World.setCell] using hs
  have ht4 : w.there s 32 4 := fun j hj => by have := ht (32 + j) (by omega); rwa [Nat.zero_add] at this
  rw [e]
  refine ⟨(below_setCells (Nat.le_refl _) _ _ _ (Below.refl _ _)).alloc (by omega) _, World.there_alloc (World.there_setCells ht _ _ _) _, World.rangeAt_alloc (World.rangeAt_setCells_same w s 32 [.int .u64 x0, .int .u64 x1, .int .u64 x2, .int .u64 x3] ht4) _⟩

set_option maxRecDepth 100000 in
set_option maxHeartbeats 400000 in
theorem init64_any (s : Nat) (x0 x1 x2 x3 : Int) (w : World) (ht : w.there s 0 48) (hs : s < w.heap.size) :
    Calls Yba.prog 38 #[.pointer (some ⟨s, 0, none⟩), .agg #[.int .u64 x0, .int .u64 x1, .int .u64 x2, .int .u64 x3]] w fun e w' => e = .returned (.tuple #[]) ∧ Below s w w' := by
  obtain ⟨v0, c0⟩ := there_cell (j := 32) ht (by omega)
  obtain ⟨v1, c1⟩ := there_cell (j := 33) ht (by omega)
  obtain ⟨v2, c2⟩ := there_cell (j := 34) ht (by omega)
  obtain ⟨v3, c3⟩ := there_cell (j := 35) ht (by omega)
  have f0 := there_free (j := 32) ht (by omega)
  have f1 := there_free (j := 33) ht (by omega)
  have f2 := there_free (j := 34) ht (by omega)
  have f3 := there_free (j := 35) ht (by omega)
  have hF := W64_facts w s x0 x1 x2 x3 ht hs
  obtain ⟨W1, hW1⟩ : ∃ W1, W1 = W64 w s x0 x1 x2 x3 := ⟨_, rfl⟩
  rw [← hW1] at hF
  obtain ⟨hb1, ht1, hr1⟩ := hF
  have d0 : W1.drew.cell? ⟨s, 32, none⟩ = some (.int .u64 x0) := hr1 0 _ rfl
  have d1 : W1.drew.cell? ⟨s, 33, none⟩ = some (.int .u64 x1) := hr1 1 _ rfl
  have d2 : W1.drew.cell? ⟨s, 34, none⟩ = some (.int .u64 x2) := hr1 2 _ rfl
  have d3 : W1.drew.cell? ⟨s, 35, none⟩ = some (.int .u64 x3) := hr1 3 _ rfl
  have ht1d : W1.drew.there s 0 48 := ht1
  obtain ⟨vs, hlen, hrun⟩ := block_run s x0 x1 x2 x3 W1.drew ht1d d0 d1 d2 d3
  have ht2 : (W1.drew.setCells s 0 vs).there s 0 48 := World.there_setCells ht1d _ _ _
  have hb2 : Below s w (W1.drew.setCells s 0 vs) := below_setCells (Nat.le_refl _) _ _ _ hb1.drew
  generalize W1.drew.setCells s 0 vs = W2 at hrun ht2 hb2
  obtain ⟨u0, k0⟩ := there_cell (j := 36) ht2 (by omega)
  obtain ⟨u1, k1⟩ := there_cell (j := 37) ht2 (by omega)
  obtain ⟨u2, k2⟩ := there_cell (j := 38) ht2 (by omega)
  have g0 := there_free (j := 36) ht2 (by omega)
  have g1 := there_free (j := 37) ht2 (by omega)
  have g2 := there_free (j := 38) ht2 (by omega)
  have HB : Hid (Below s w W2) := hb2
  clear ht2 hb2 hr1 ht1 hb1 ht ht1d d0 d1 d2 d3 hlen
  rw [hW1] at hrun
  clear hW1
  unfold W64 at hrun
  go_enter Yba.func38, Yba.ntmps38
  go_wp2
  go_region
  go_wp2
  go_end0
  exact ⟨rfl, ((HB.out.setCell (p := ⟨s, 38, none⟩) (Nat.le_refl _) _).setCell (p := ⟨s, 36, none⟩) (Nat.le_refl _) _).setCell (p := ⟨s, 37, none⟩) (Nat.le_refl _) _⟩
end Go.Proofs.Ybulkfqim.Rand
