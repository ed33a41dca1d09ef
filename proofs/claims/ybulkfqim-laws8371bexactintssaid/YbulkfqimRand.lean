import Derived.Test.YbulkfqimRows
import Derived.WalkKit
import Derived.WalkSpells
import Derived.WalkLawsBesides
import Derived.Below
import Derived.Deep.QuietTactic
import Derived.BigQuiet
import Derived.Deep.MidRow
import Derived.Deep.RegionHeld3
namespace Go.Proofs.Ybulkfqim.Rand
open Go.RowKit
set_option linter.unusedVariables false

/-- A byte lies there. -/
def byteAt (w : World) (g o : Nat) : Prop := ∃ x, w.cell? ⟨g, o, none⟩ = some (.int .u8 x)

set_option maxRecDepth 100000 in
set_option maxHeartbeats 800000 in
theorem le_any (g o n c : Nat) (w : World) (hn : 8 ≤ n) (hb : ∀ i, i < 8 → byteAt w g (o + i)) :
    Calls Yba.prog 39 #[.slice (some ⟨g, o, none⟩) n c] w fun e w' => ∃ x m, e = .returned (.int .u64 x) ∧ w' = w.drewN m := by
  obtain ⟨x0, c0⟩ := hb 0 (by omega)
  obtain ⟨x1, c1⟩ := hb 1 (by omega)
  obtain ⟨x2, c2⟩ := hb 2 (by omega)
  obtain ⟨x3, c3⟩ := hb 3 (by omega)
  obtain ⟨x4, c4⟩ := hb 4 (by omega)
  obtain ⟨x5, c5⟩ := hb 5 (by omega)
  obtain ⟨x6, c6⟩ := hb 6 (by omega)
  obtain ⟨x7, c7⟩ := hb 7 (by omega)
  rw [Nat.add_zero] at c0
  have q0 : (0 : Int) < (n : Int) := by omega
  have q1 : (1 : Int) < (n : Int) := by omega
  have q2 : (2 : Int) < (n : Int) := by omega
  have q3 : (3 : Int) < (n : Int) := by omega
  have q4 : (4 : Int) < (n : Int) := by omega
  have q5 : (5 : Int) < (n : Int) := by omega
  have q6 : (6 : Int) < (n : Int) := by omega
  have q7 : (7 : Int) < (n : Int) := by omega
  clear hb
  go_enter Yba.func39, Yba.ntmps39
  go_wp2
  go_quiet (fail)
  go_wp2
  go_ret
  exact ⟨_, _, rfl, rfl⟩

theorem there_cell {w : World} {b n j : Nat} (h : w.there b 0 n) (hj : j < n) : ∃ v, w.cell? ⟨b, j, none⟩ = some v := by
  have := (h j hj).1
  rw [Nat.zero_add] at this
  exact Option.isSome_iff_exists.1 this
theorem there_free {w : World} {b n j : Nat} (h : w.there b 0 n) (hj : j < n) : w.frozen? ⟨b, j, none⟩ = false := by
  have := (h j hj).2
  rwa [Nat.zero_add] at this

/-- Below B nothing turns where cells of a block from B on are written. -/
theorem below_setCells {B : Nat} {a : World} {b : Nat} (hb : B ≤ b) : ∀ (vs : List Value) (o : Nat) (w : World), Below B a w → Below B a (w.setCells b o vs)
  | [], _, _, h => h
  | v :: r, o, w, h => by
    rw [World.setCells]
    exact below_setCells hb r (o + 1) _ (h.setCell (p := ⟨b, o, none⟩) hb v)

def words (a : Array Nat) : List Value :=
  let key := a.flatMap fun x => #[x % Extern.Chacha8Block.m32, x / Extern.Chacha8Block.m32]
  let lanes := (Array.range 4).map fun i => Extern.Chacha8Block.lane key ((0 : Int).toNat + i)
  let word (j : Nat) : Nat := (lanes.getD (j % 4) #[]).getD (j / 4) 0
  (List.range 32).map fun k => .int .u64 (Int.ofNat (word (2 * k) + word (2 * k + 1) * Extern.Chacha8Block.m32))

/-- chacha8rand.block: it writes 32 words at the state's head; which ones no row asks. -/
theorem block_run (s : Nat) (x0 x1 x2 x3 : Int) (w : World) (ht : w.there s 0 48)
    (c0 : w.cell? ⟨s, 32, none⟩ = some (.int .u64 x0)) (c1 : w.cell? ⟨s, 33, none⟩ = some (.int .u64 x1)) (c2 : w.cell? ⟨s, 34, none⟩ = some (.int .u64 x2)) (c3 : w.cell? ⟨s, 35, none⟩ = some (.int .u64 x3)) :
    ∃ vs : List Value, vs.length = 32 ∧ (callFunc 40 #[.pointer (some ⟨s, 32, none⟩), .pointer (some ⟨s, 0, none⟩), .int .u32 0]).run Yba.prog w = .ok (.value (.tuple #[])) (w.setCells s 0 vs) := by
  have hl : (loadCells ⟨s, 32, none⟩ 4).run Yba.prog w = .ok #[.int .u64 x0, .int .u64 x1, .int .u64 x2, .int .u64 x3] w := by
    refine run_loadCells_list (P := Yba.prog) w ⟨s, 32, none⟩ [.int .u64 x0, .int .u64 x1, .int .u64 x2, .int .u64 x3] (fun j v hv => ?_)
    rw [Addr.add_mid]
    match j, hv with
    | 0, hv => simp at hv; subst hv; exact c0
    | 1, hv => simp at hv; subst hv; exact c1
    | 2, hv => simp at hv; subst hv; exact c2
    | 3, hv => simp at hv; subst hv; exact c3
  rw [run_callFunc_extern (e := Extern.Chacha8Block.block) Yba.func40 (by kernel_rfl) (by kernel_rfl) (by kernel_rfl) (by kernel_rfl)]
  have hbody : Extern.Chacha8Block.block #[.pointer (some ⟨s, 32, none⟩), .pointer (some ⟨s, 0, none⟩), .int .u32 0] = (do
      let a ← (← loadCells ⟨s, 32, none⟩ 4).mapM (fun c => do pure (← asInt c).toNat)
      storeCells ⟨s, 0, none⟩ (words a)
      pure (Value.tuple #[])) := rfl
  have hm : ∃ a, (Array.mapM (fun c => do pure (← asInt c).toNat) #[Value.int .u64 x0, .int .u64 x1, .int .u64 x2, .int .u64 x3] : Sem (Array Nat)).run Yba.prog w = .ok a w := by
    refine ⟨#[x0.toNat, x1.toNat, x2.toNat, x3.toNat], ?_⟩
    simp [asInt, asIntOf]
  obtain ⟨a, ha⟩ := hm
  refine ⟨words a, by simp [words], ?_⟩
  have hst := run_storeCells_cells (P := Yba.prog) s 0 (words a) 0 w (fun j hj => by simpa using (ht j (by simp [words] at hj; omega)).1) (fun j hj => by simpa using (ht j (by simp [words] at hj; omega)).2) (fun v hv => by
    simp only [words, List.mem_map] at hv
    obtain ⟨k, _, rfl⟩ := hv
    rfl)
  simp only [Nat.add_zero] at hst
  rw [hbody]
  simp only [Sem.run_bind, hl, Result.andThen_ok, ha, hst, Sem.run_pure]
end Go.Proofs.Ybulkfqim.Rand
