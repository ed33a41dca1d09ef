import Derived.Test.YbulkfqimRows
import Derived.WalkKit
import Derived.WalkSpells
import Derived.WalkLawsBesides
import Derived.ProofKit
import Derived.Below
import Derived.Deep.OwnRows
import Derived.Deep.LoopGhost
import Derived.Deep.QuietTactic
import Derived.BigQuiet
import Derived.LaidEqlPtr
import Derived.Lib.Builder
namespace Go.Proofs.Ybulkfqim.CWalk
open Go.RowKit
set_option linter.unusedVariables false

theorem info49 : (Yba.prog.info? 49).map (fun i => (i.zero, i.size, i.bytes)) = some (some (.agg #[.int .u64 0, .int .i64 0, .int .i64 0]), 3, 24) := by kernel_rfl
theorem info52 : (Yba.prog.info? 52).map (fun i => (i.zero, i.size, i.bytes)) = some (some (.agg #[.slice none 0 0, .int .i64 0, .bool false]), 3, 40) := by kernel_rfl

theorem run_make49 (l c : Nat) (hlc : l ≤ c) (hc : c ≤ 1048576) (w : World) :
    (Instr.makeSlice 45 (.int .i64 (l : Int)) (.int .i64 (c : Int))).run Yba.prog w = .ok (.slice (some ⟨w.heap.size, 0, none⟩) l c) (w.alloc (.cells (madeCells #[.int .u64 0, .int .i64 0, .int .i64 0] (c * 3)) 49)) := by
  obtain ⟨i, hi, hz, hs, hb⟩ := info_parts info49
  have := run_make (P := Yba.prog) w 45 49 i _ Yba.underlying45 hi hz .i64 .i64 l c (by omega) (by omega) (by rw [hb]; omega) (by omega)
  simp only [Int.toNat_natCast, hs] at this
  exact this

/-- What cell j of the new row of runs holds when k runs are filled. -/
def fld (A B C : Nat → Int) (k j : Nat) : Value :=
  if j % 3 = 0 then .int .u64 (if j / 3 < k then A (j / 3) else 0) else if j % 3 = 1 then .int .i64 (if j / 3 < k then B (j / 3) else 0) else .int .i64 (if j / 3 < k then C (j / 3) else 0)

structure Fill (w wr : World) (n : Nat) (A B C : Nat → Int) (k : Nat) : Prop where
  below : Below w.heap.size w wr
  size : wr.heap.size = w.heap.size + 1
  row : wr.rowIs w.heap.size 49 (n * 3) (fld A B C k)

theorem fill_start (w : World) (n : Nat) (A B C : Nat → Int) : Fill w (w.alloc (.cells (madeCells #[.int .u64 0, .int .i64 0, .int .i64 0] (n * 3)) 49)) n A B C 0 := by
  refine ⟨(Below.refl _ _).alloc (Nat.le_refl _) _, by simp, ?_⟩
  refine ⟨_, heap_alloc_new _ _, by simp [madeCells], fun i hi => ?_⟩
  have h3 : i % 3 < 3 := Nat.mod_lt _ (by omega)
  simp only [madeCells, Array.getElem?_map, Array.getElem?_range, if_pos hi, Option.map_some, fld]
  rcases (show i % 3 = 0 ∨ i % 3 = 1 ∨ i % 3 = 2 by omega) with h | h | h <;> simp [h]

theorem fill_step {w wr : World} {n : Nat} {A B C : Nat → Int} {k : Nat} (h : Fill w wr n A B C k) (hk : k < n) :
    Fill w (((wr.setCell ⟨w.heap.size, k * 3, none⟩ (.int .u64 (A k))).setCell ⟨w.heap.size, k * 3 + 1, none⟩ (.int .i64 (B k))).setCell ⟨w.heap.size, k * 3 + 2, none⟩ (.int .i64 (C k))).drew n A B C (k + 1) := by
  refine ⟨((((h.below.setCell (Nat.le_refl _) _).setCell (Nat.le_refl _) _).setCell (Nat.le_refl _) _)).drew, by simp [h.size], ((((h.row.set _ _).set _ _).set _ _).congr (fun j hj => ?_)).drew⟩
  simp only [fld]
  by_cases e2 : j = k * 3 + 2
  · subst e2; simp [show (k * 3 + 2) % 3 = 2 by omega, show (k * 3 + 2) / 3 = k by omega]
  rw [if_neg e2]
  by_cases e1 : j = k * 3 + 1
  · subst e1; simp [show (k * 3 + 1) % 3 = 1 by omega, show (k * 3 + 1) / 3 = k by omega]
  rw [if_neg e1]
  by_cases e0 : j = k * 3
  · subst e0; simp
  rw [if_neg e0]
  have hh : (j / 3 < k) = (j / 3 < k + 1) := by simp; omega
  simp only [hh]


theorem fld0 (A B C : Nat → Int) {k n : Nat} (h : k < n) : fld A B C n (k * 3) = .int .u64 (A k) := by simp [fld, h]
theorem fld1 (A B C : Nat → Int) {k n : Nat} (h : k < n) : fld A B C n (k * 3 + 1) = .int .i64 (B k) := by simp [fld, h, show (k * 3 + 1) % 3 = 1 by omega, show (k * 3 + 1) / 3 = k by omega]
theorem fld2 (A B C : Nat → Int) {k n : Nat} (h : k < n) : fld A B C n (k * 3 + 2) = .int .i64 (C k) := by simp [fld, h, show (k * 3 + 2) % 3 = 2 by omega, show (k * 3 + 2) / 3 = k by omega]

theorem fin_below {w wr : World} (h : Below w.heap.size w wr) (hs : w.heap.size ≤ wr.heap.size) {g : Nat} (hg : w.heap.size ≤ g) (x y z : Value) (o1 o2 o3 : Obj) (m n : Nat) :
    Below w.heap.size w ((((((((wr.setCell ⟨g, 0, none⟩ x).setCell ⟨g, 1, none⟩ y).setCell ⟨g, 2, none⟩ z).alloc o1).alloc o2).alloc o3).drewN m).drewN n) := by
  have h3 := ((h.setCell (p := ⟨g, 0, none⟩) hg x).setCell (p := ⟨g, 1, none⟩) hg y).setCell (p := ⟨g, 2, none⟩) hg z
  exact below_drewN (below_drewN (((h3.alloc (by simp [World.setCell]; omega) o1).alloc (by simp [World.setCell]; omega) o2).alloc (by simp [World.setCell]; omega) o3) m) n

/-! ### Addresses held against one another -/
theorem neq_same (a : Addr) (w : World) : (binOp .neq 54 (.pointer (some a)) (.pointer (some a))).run Yba.prog w = .ok (.bool false) w := by
  obtain ⟨i, hi, _, _, _⟩ := info_parts info49
  exact Lib.run_neq_ptr_same w a Yba.underlying54 hi

theorem eql_other {w : World} {g N n m : Nat} {F G : Nat → Value} (h1 : w.rowIs g 49 n F) (h2 : w.rowIs N 49 m G) (hne : g ≠ N) :
    (binOp .eql 54 (.pointer (some ⟨g, 0, none⟩)) (.pointer (some ⟨N, 0, none⟩))).run Yba.prog w = .ok (.bool false) w := by
  obtain ⟨i, hi, _, hs, _⟩ := info_parts info49
  obtain ⟨c1, e1, _⟩ := h1
  obtain ⟨c2, e2, _⟩ := h2
  exact run_eql_ptr_other w Yba.underlying54 hi (by omega) (fun h => hne (by injection h)) e1 e2

/-! ### newRuns -/

theorem new_shared (s n c : Nat) (g : Option Addr) (w : World) (hn : n ≤ 1048576) (h0 : w.cell? ⟨s, 0, none⟩ = some (.slice g n c)) (h2 : w.cell? ⟨s, 2, none⟩ = some (.bool true)) :
    Calls Yba.prog 14 #[.pointer (some ⟨s, 0, none⟩)] w fun e w' => e = .returned (.slice (some ⟨w.heap.size, 0, none⟩) 0 n) ∧ w' = w.alloc (.cells (madeCells #[.int .u64 0, .int .i64 0, .int .i64 0] (n * 3)) 49) := by
  have hmk0 := run_make49 0 n (Nat.zero_le _) hn
  simp only [Int.natCast_zero] at hmk0
  go_enter Yba.func14, Yba.ntmps14
  go_wp2
  go_ret
  exact ⟨rfl, rfl⟩

theorem new_own (s g n c : Nat) (w : World) (h0 : w.cell? ⟨s, 0, none⟩ = some (.slice (some ⟨g, 0, none⟩) n c)) (h2 : w.cell? ⟨s, 2, none⟩ = some (.bool false)) :
    Calls Yba.prog 14 #[.pointer (some ⟨s, 0, none⟩)] w fun e w' => e = .returned (.slice (some ⟨g, 0, none⟩) 0 c) ∧ w' = w := by
  go_enter Yba.func14, Yba.ntmps14
  go_wp2
  go_ret
  exact ⟨rfl, rfl⟩

theorem new_nil (s : Nat) (w : World) (h0 : w.cell? ⟨s, 0, none⟩ = some (.slice none 0 0)) (h2 : w.cell? ⟨s, 2, none⟩ = some (.bool false)) :
    Calls Yba.prog 14 #[.pointer (some ⟨s, 0, none⟩)] w fun e w' => e = .returned (.slice none 0 0) ∧ w' = w := by
  go_enter Yba.func14, Yba.ntmps14
  go_wp2
  go_ret
  exact ⟨rfl, rfl⟩

/-! ### Behind newRuns: g: the block of 'out' -/
structure Mid (w wr : World) (n g : Nat) (st : Int) (sh : Bool) (A B C : Nat → Int) : Prop where
  below : Below w.heap.size w wr
  size : w.heap.size + 1 < wr.heap.size
  row : wr.rowIs w.heap.size 49 (n * 3) (fld A B C n)
  s : wr.rowIs (w.heap.size + 1) 52 3 (fun j => if j = 0 then .slice (some ⟨w.heap.size, 0, none⟩) n n else if j = 1 then .int .i64 st else .bool sh)
  out : ∃ F, wr.rowIs g 49 (n * 3) F

theorem Mid.alloc {w wr : World} {n g : Nat} {st : Int} {sh : Bool} {A B C : Nat → Int} (h : Mid w wr n g st sh A B C) (o : Obj) : Mid w (wr.alloc o) n g st sh A B C := by
  obtain ⟨F, hF⟩ := h.out
  exact ⟨h.below.alloc (by have := h.size; omega) o, by have := h.size; simp; omega, h.row.alloc o, h.s.alloc o, F, hF.alloc o⟩
theorem Mid.drew {w wr : World} {n g : Nat} {st : Int} {sh : Bool} {A B C : Nat → Int} (h : Mid w wr n g st sh A B C) : Mid w wr.drew n g st sh A B C :=
  ⟨h.below.drew, h.size, h.row, h.s, h.out⟩

theorem Mid.drewN {w wr : World} {n g : Nat} {st : Int} {sh : Bool} {A B C : Nat → Int} (h : Mid w wr n g st sh A B C) (m : Nat) : Mid w (wr.drewN m) n g st sh A B C :=
  ⟨below_drewN h.below m, h.size, h.row, h.s, h.out⟩

theorem mid_box {w wr : World} {n : Nat} (st : Int) (sh : Bool) {A B C : Nat → Int} (h : Fill w wr n A B C n) :
    Mid w (wr.alloc (.cells #[.slice (some ⟨w.heap.size, 0, none⟩) n n, .int .i64 st, .bool sh] 52)) n w.heap.size st sh A B C := by
  refine ⟨h.below.alloc (by rw [h.size]; omega) _, by simp [h.size], h.row.alloc _, ?_, _, h.row.alloc _⟩
  rw [← h.size]
  exact World.rowIs_alloc _ _ _ _ (fun i hi => by
    simp at hi
    rcases (show i = 0 ∨ i = 1 ∨ i = 2 by omega) with h | h | h <;> subst h <;> simp)

theorem mid_out {w wr : World} {n : Nat} {st : Int} {sh : Bool} {A B C : Nat → Int} (h : Mid w wr n w.heap.size st sh A B C) :
    Mid w (wr.alloc (.cells (madeCells #[.int .u64 0, .int .i64 0, .int .i64 0] (n * 3)) 49)) n wr.heap.size st sh A B C :=
  ⟨h.below.alloc (by have := h.size; omega) _, by have := h.size; simp; omega, h.row.alloc _, h.s.alloc _, _, (fill_start wr n (fun _ => 0) (fun _ => 0) (fun _ => 0)).row⟩

set_option maxHeartbeats 1600000 in
set_option maxRecDepth 100000 in
theorem walk_some (b off n cap : Nat) (st : Int) (sh : Bool) (A B C : Nat → Int) (w : World) (hn : n ≤ 1048576) (hb : b < w.heap.size)
    (hA : ∀ i, i < n → w.cell? ⟨b, off + i * 3, none⟩ = some (.int .u64 (A i)))
    (hB : ∀ i, i < n → w.cell? ⟨b, off + i * 3 + 1, none⟩ = some (.int .i64 (B i)))
    (hC : ∀ i, i < n → w.cell? ⟨b, off + i * 3 + 2, none⟩ = some (.int .i64 (C i))) :
    Calls Yba.prog 6 #[.slice (some ⟨b, off, none⟩) n cap, .int .i64 st, .bool sh] w fun e w' => e = .returned (.bool true) ∧ Below w.heap.size w w' := by
  have hmk := run_make49 n n (Nat.le_refl _) hn
  have q1 := fun (w : World) (a : Option Addr) (n c : Nat) => run_neq_slice_nil_any (P := Yba.prog) w 44 47 a n c 0 0 Yba.underlying44
  have q2 := fun (w : World) (a : Option Addr) (n c : Nat) => Lib.run_eql_slice_nil (P := Yba.prog) w 45 49 a n c 0 0 Yba.underlying45
  have q3 := fun (w : World) (a : Option Addr) (n c : Nat) => Lib.run_eql_slice_nil (P := Yba.prog) w 44 47 a n c 0 0 Yba.underlying44
  have hmk0 := run_make49 0 n (Nat.zero_le _) hn
  simp only [Int.natCast_zero] at hmk0
  have h18 : decide ((1048576 : Int) < (n : Int)) = false := by simp; omega
  go_enter Yba.func6, Yba.ntmps6
  go_wp2
  go_loopw [8] (fun i wr => ∃ k : Nat, k ≤ n ∧ i = .int .i64 k ∧ Fill w wr n A B C k) (fun i _ => n - (intOf i).toNat)
  case atStart => exact ⟨0, Nat.zero_le _, rfl, fill_start w n A B C⟩
  case round =>
    obtain ⟨k, hk, rfl, hF⟩ := hrel
    by_cases hlt : k < n
    · have cA : wr.cell? ⟨b, off + k * 3, none⟩ = some (.int .u64 (A k)) := (hF.below.cell (by exact hb)).trans (hA k hlt)
      have cB : wr.cell? ⟨b, off + k * 3 + 1, none⟩ = some (.int .i64 (B k)) := (hF.below.cell (by exact hb)).trans (hB k hlt)
      have cC : wr.cell? ⟨b, off + k * 3 + 2, none⟩ = some (.int .i64 (C k)) := (hF.below.cell (by exact hb)).trans (hC k hlt)
      have f0 : wr.frozen? ⟨w.heap.size, k * 3, none⟩ = false := hF.row.frozen _
      have f1 : wr.frozen? ⟨w.heap.size, k * 3 + 1, none⟩ = false := hF.row.frozen _
      have f2 : wr.frozen? ⟨w.heap.size, k * 3 + 2, none⟩ = false := hF.row.frozen _
      have o0 : ∃ v, wr.cell? ⟨w.heap.size, k * 3, none⟩ = some v := ⟨_, hF.row.cell (by omega)⟩
      have o1 : ∃ v, wr.cell? ⟨w.heap.size, k * 3 + 1, none⟩ = some v := ⟨_, hF.row.cell (by omega)⟩
      have o2 : ∃ v, wr.cell? ⟨w.heap.size, k * 3 + 2, none⟩ = some v := ⟨_, hF.row.cell (by omega)⟩
      obtain ⟨v0, o0⟩ := o0
      obtain ⟨v1, o1⟩ := o1
      obtain ⟨v2, o2⟩ := o2
      clear hA hB hC
      go_wp2
      go_region
      all_goals go_wp2
      all_goals go_roundw
      case rel => exact ⟨k + 1, by omega, by go_num, fill_step hF hlt⟩
      case measure => simp [intOf]; omega
    · have hd : decide ((k : Int) < (n : Int)) = false := by simp; omega
      obtain rfl : k = n := by omega
      have hsz := hF.size
      have hM := mid_box st sh hF
      cases sh
      · go_wp2_with fail
        refine (new_own _ _ _ _ _ (hM.s.cell (by omega)) (hM.s.cell (by omega))).mono ?_
        rintro e w1 ⟨rfl, rfl⟩
        go_wp2
        go_loopw [11] (fun i wr' => ∃ j : Nat, j ≤ k ∧ i = .int .i64 j ∧ Mid w wr' k w.heap.size st false A B C) (fun i _ => k - (intOf i).toNat)
        case atStart => exact ⟨0, Nat.zero_le _, rfl, hM⟩
        case round =>
          clear hM hF hlt hd hsz
          obtain ⟨j, hj, rfl, hM⟩ := hrel
          have bN := hM.size
          have bN0 : w.heap.size < wr.heap.size := by omega
          have bb : b < wr.heap.size := by omega
          have s0 : wr.cell? ⟨w.heap.size + 1, 0, none⟩ = some (.slice (some ⟨w.heap.size, 0, none⟩) k k) := hM.s.cell (by omega)
          by_cases hlt : j < k
          · have cA : wr.cell? ⟨b, off + j * 3, none⟩ = some (.int .u64 (A j)) := (hM.below.cell (by exact hb)).trans (hA j hlt)
            have cB : wr.cell? ⟨b, off + j * 3 + 1, none⟩ = some (.int .i64 (B j)) := (hM.below.cell (by exact hb)).trans (hB j hlt)
            have cC : wr.cell? ⟨b, off + j * 3 + 2, none⟩ = some (.int .i64 (C j)) := (hM.below.cell (by exact hb)).trans (hC j hlt)
            have o0 : wr.cell? ⟨w.heap.size, j * 3, none⟩ = some (.int .u64 (A j)) := (hM.row.cell (by omega)).trans (by rw [fld0 A B C hlt])
            have o1 : wr.cell? ⟨w.heap.size, j * 3 + 1, none⟩ = some (.int .i64 (B j)) := (hM.row.cell (by omega)).trans (by rw [fld1 A B C hlt])
            have o2 : wr.cell? ⟨w.heap.size, j * 3 + 2, none⟩ = some (.int .i64 (C j)) := (hM.row.cell (by omega)).trans (by rw [fld2 A B C hlt])
            have hl : (j : Int) < (k : Int) := by omega
            clear hA hB hC
            go_wp2
            go_quiet (fail)
            go_wp2
            go_roundw
            case rel => exact ⟨j + 1, by omega, by go_num, (hM.alloc _).drewN _⟩
            case measure => simp [intOf]; omega
          · have hd : decide ((j : Int) < (k : Int)) = false := by simp; omega
            obtain rfl : j = k := by omega
            by_cases h0 : j = 0
            · have hz : decide ((0 : Int) < (j : Int)) = false := by simp; omega
              clear hA hB hC
              go_wp2
              go_ret
              exact ⟨rfl, hM.below⟩
            · have hz : (0 : Int) < (j : Int) := by omega
              have o0 : wr.cell? ⟨w.heap.size, 0, none⟩ = some (.int .u64 (A 0)) := (hM.row.cell (by omega)).trans (by rw [← fld0 A B C (k := 0) (n := j) (by omega)])
              have o1 : wr.cell? ⟨w.heap.size, 1, none⟩ = some (.int .i64 (B 0)) := (hM.row.cell (by omega)).trans (by rw [← fld1 A B C (k := 0) (n := j) (by omega)])
              have o2 : wr.cell? ⟨w.heap.size, 2, none⟩ = some (.int .i64 (C 0)) := (hM.row.cell (by omega)).trans (by rw [← fld2 A B C (k := 0) (n := j) (by omega)])
              have f0 : wr.frozen? ⟨w.heap.size, 0, none⟩ = false := hM.row.frozen _
              have f1 : wr.frozen? ⟨w.heap.size, 1, none⟩ = false := hM.row.frozen _
              have f2 : wr.frozen? ⟨w.heap.size, 2, none⟩ = false := hM.row.frozen _
              have hsg : IntKind.u64.signed = false := rfl
              have hps := neq_same
              have bN1 : w.heap.size < wr.heap.size + 1 := by omega
              have bN2 : w.heap.size < wr.heap.size + 1 + 1 := by omega
              have bN3 : w.heap.size < wr.heap.size + 1 + 1 + 1 := by omega
              clear hA hB hC
              go_wp2
              go_quiet (fail)
              go_wp2
              go_quiet (fail)
              go_wp2
              go_ret
              exact ⟨rfl, fin_below hM.below (by omega) (by omega) _ _ _ _ _ _ _ _⟩
      · have hM2 := mid_out hM
        rw [show (wr.alloc (.cells #[.slice (some ⟨w.heap.size, 0, none⟩) k k, .int .i64 st, .bool true] 52)).heap.size = w.heap.size + 2 by simp [hsz]] at hM2
        obtain ⟨g, hg⟩ : ∃ g, g = w.heap.size + 2 := ⟨_, rfl⟩
        go_wp2_with fail
        refine (new_shared _ _ _ _ _ hn (hM.s.cell (by omega)) (hM.s.cell (by omega))).mono ?_
        rintro e w1 ⟨rfl, rfl⟩
        rw [show (wr.alloc (.cells #[.slice (some ⟨w.heap.size, 0, none⟩) k k, .int .i64 st, .bool true] 52)).heap.size = w.heap.size + 2 by simp [hsz]]
        rw [← hg] at hM2 ⊢
        have hg2 : w.heap.size + 2 ≤ g := by omega
        clear hg
        go_wp2
        go_loopw [11] (fun i wr' => ∃ j : Nat, j ≤ k ∧ i = .int .i64 j ∧ Mid w wr' k g st true A B C) (fun i _ => k - (intOf i).toNat)
        case atStart => exact ⟨0, Nat.zero_le _, rfl, hM2⟩
        case round =>
          clear hM hF hlt hd hM2 hsz
          obtain ⟨j, hj, rfl, hM⟩ := hrel
          have bN := hM.size
          have bN0 : w.heap.size < wr.heap.size := by omega
          have bb : b < wr.heap.size := by omega
          have s0 : wr.cell? ⟨w.heap.size + 1, 0, none⟩ = some (.slice (some ⟨w.heap.size, 0, none⟩) k k) := hM.s.cell (by omega)
          by_cases hlt : j < k
          · have cA : wr.cell? ⟨b, off + j * 3, none⟩ = some (.int .u64 (A j)) := (hM.below.cell (by exact hb)).trans (hA j hlt)
            have cB : wr.cell? ⟨b, off + j * 3 + 1, none⟩ = some (.int .i64 (B j)) := (hM.below.cell (by exact hb)).trans (hB j hlt)
            have cC : wr.cell? ⟨b, off + j * 3 + 2, none⟩ = some (.int .i64 (C j)) := (hM.below.cell (by exact hb)).trans (hC j hlt)
            have o0 : wr.cell? ⟨w.heap.size, j * 3, none⟩ = some (.int .u64 (A j)) := (hM.row.cell (by omega)).trans (by rw [fld0 A B C hlt])
            have o1 : wr.cell? ⟨w.heap.size, j * 3 + 1, none⟩ = some (.int .i64 (B j)) := (hM.row.cell (by omega)).trans (by rw [fld1 A B C hlt])
            have o2 : wr.cell? ⟨w.heap.size, j * 3 + 2, none⟩ = some (.int .i64 (C j)) := (hM.row.cell (by omega)).trans (by rw [fld2 A B C hlt])
            have hl : (j : Int) < (k : Int) := by omega
            clear hA hB hC
            go_wp2
            go_quiet (fail)
            go_wp2
            go_roundw
            case rel => exact ⟨j + 1, by omega, by go_num, (hM.alloc _).drewN _⟩
            case measure => simp [intOf]; omega
          · have hd : decide ((j : Int) < (k : Int)) = false := by simp; omega
            obtain rfl : j = k := by omega
            by_cases h0 : j = 0
            · have hz : decide ((0 : Int) < (j : Int)) = false := by simp; omega
              clear hA hB hC
              go_wp2
              go_ret
              exact ⟨rfl, hM.below⟩
            · have hz : (0 : Int) < (j : Int) := by omega
              have o0 : wr.cell? ⟨w.heap.size, 0, none⟩ = some (.int .u64 (A 0)) := (hM.row.cell (by omega)).trans (by rw [← fld0 A B C (k := 0) (n := j) (by omega)])
              have o1 : wr.cell? ⟨w.heap.size, 1, none⟩ = some (.int .i64 (B 0)) := (hM.row.cell (by omega)).trans (by rw [← fld1 A B C (k := 0) (n := j) (by omega)])
              have o2 : wr.cell? ⟨w.heap.size, 2, none⟩ = some (.int .i64 (C 0)) := (hM.row.cell (by omega)).trans (by rw [← fld2 A B C (k := 0) (n := j) (by omega)])
              obtain ⟨F, hF⟩ := hM.out
              have p0 : wr.cell? ⟨g, 0, none⟩ = some (F 0) := hF.cell (by omega)
              have p1 : wr.cell? ⟨g, 1, none⟩ = some (F 1) := hF.cell (by omega)
              have p2 : wr.cell? ⟨g, 2, none⟩ = some (F 2) := hF.cell (by omega)
              have f0 : wr.frozen? ⟨g, 0, none⟩ = false := hF.frozen _
              have f1 : wr.frozen? ⟨g, 1, none⟩ = false := hF.frozen _
              have f2 : wr.frozen? ⟨g, 2, none⟩ = false := hF.frozen _
              have gN := hF.lt
              have gN1 : g < wr.heap.size + 1 := by omega
              have gN2 : g < wr.heap.size + 1 + 1 := by omega
              have gN3 : g < wr.heap.size + 1 + 1 + 1 := by omega
              have gd0 : ¬ g = w.heap.size := by omega
              have gd0' : ¬ w.heap.size = g := by omega
              have gd1 : ¬ g = w.heap.size + 1 := by omega
              have gd1' : ¬ w.heap.size + 1 = g := by omega
              have hX : ∀ X : Int, ∀ o1 o2 o3 : Obj, ∀ m, (binOp .eql 54 (.pointer (some ⟨g, 0, none⟩)) (.pointer (some ⟨w.heap.size, 0, none⟩))).run Yba.prog (((((((wr.setCell ⟨g, 0, none⟩ (.int .u64 X)).setCell ⟨g, 1, none⟩ (.int .i64 (B 0))).setCell ⟨g, 2, none⟩ (.int .i64 (C 0))).alloc o1).alloc o2).alloc o3).drewN m) = .ok (.bool false) (((((((wr.setCell ⟨g, 0, none⟩ (.int .u64 X)).setCell ⟨g, 1, none⟩ (.int .i64 (B 0))).setCell ⟨g, 2, none⟩ (.int .i64 (C 0))).alloc o1).alloc o2).alloc o3).drewN m) := by
                intro X o1 o2 o3 m
                exact eql_other (w := (((((((wr.setCell ⟨g, 0, none⟩ (.int .u64 X)).setCell ⟨g, 1, none⟩ (.int .i64 (B 0))).setCell ⟨g, 2, none⟩ (.int .i64 (C 0))).alloc o1).alloc o2).alloc o3).drewN m)) ((((((hF.set _ _).set _ _).set _ _).alloc o1).alloc o2).alloc o3) ((((((hM.row.setOther gd0' _).setOther gd0' _).setOther gd0' _).alloc o1).alloc o2).alloc o3) gd0
              clear hF
              have hsg : IntKind.u64.signed = false := rfl
              have bN1 : w.heap.size < wr.heap.size + 1 := by omega
              have bN2 : w.heap.size < wr.heap.size + 1 + 1 := by omega
              have bN3 : w.heap.size < wr.heap.size + 1 + 1 + 1 := by omega
              clear hA hB hC
              go_wp2
              go_quiet (fail)
              go_wp2
              go_quiet (fail)
              go_wp2
              go_ret
              exact ⟨rfl, fin_below hM.below (by omega) (by omega) _ _ _ _ _ _ _ _⟩

end Go.Proofs.Ybulkfqim.CWalk
