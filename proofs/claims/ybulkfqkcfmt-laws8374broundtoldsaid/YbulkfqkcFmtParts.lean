import Derived.Test.YbulkfqkcFmtErr
import Derived.Deep.OwnRows
import Derived.Deep.QuietTactic
import Derived.BigQuiet
import Derived.Deep.Slices
import Derived.WalkSmall
namespace Go.Proofs.YbulkfqkcFmt.Parts
open Go.RowKit Go.Deep
set_option linter.unusedVariables false

theorem info9 : (Ybaf.prog.info? 9).map (fun i => (i.zero, i.size, i.bytes)) = some (some (.string ByteArray.empty), 1, 16) := by kernel_rfl
theorem size9 : (Ybaf.prog.info? 9).map (·.size) = some 1 := by kernel_rfl

/-- The strings of a slice as values. -/
def cells (S : Nat → ByteArray) (n : Nat) : List Value := (List.range n).map fun i => .string (S i)

theorem cells_get (S : Nat → ByteArray) (n j : Nat) (v : Value) (h : (cells S n)[j]? = some v) : j < n ∧ v = .string (S j) := by
  simp only [cells, List.getElem?_map, Option.map_eq_some_iff] at h
  obtain ⟨i, hi, rfl⟩ := h
  obtain ⟨hj, rfl⟩ := List.getElem?_eq_some_iff.1 hi
  simp at hj
  simp [hj]

theorem below_setCells {B : Nat} {a : World} {b : Nat} (hb : B ≤ b) : ∀ (vs : List Value) (o : Nat) (w : World), Below B a w → Below B a (w.setCells b o vs)
  | [], _, _, h => h
  | v :: r, o, w, h => by
    rw [World.setCells]
    exact below_setCells hb r (o + 1) _ (h.setCell (p := ⟨b, o, none⟩) hb v)
theorem size_setCells {b : Nat} : ∀ (vs : List Value) (o : Nat) (w : World), (w.setCells b o vs).heap.size = w.heap.size
  | [], _, _ => rfl
  | v :: r, o, w => by rw [World.setCells, size_setCells r]; simp [World.setCell]
theorem row_setCells {b : Nat} {t : TypeId} {n : Nat} : ∀ (vs : List Value) (o : Nat) (w : World) (f : Nat → Value), w.rowIs b t n f → ∃ f', (w.setCells b o vs).rowIs b t n f'
  | [], _, _, f, h => ⟨f, h⟩
  | v :: r, o, w, f, h => by
    rw [World.setCells]
    exact row_setCells r (o + 1) _ _ (h.set o v)

theorem copied (w : World) (S : Nat → ByteArray) (n : Nat) (W : World) (hW : W = w.alloc (.cells (madeCells #[.string ByteArray.empty] n) 9)) :
    Below w.heap.size w (W.setCells w.heap.size 0 (cells S n)) ∧ (W.setCells w.heap.size 0 (cells S n)).rowIs w.heap.size 9 n (fun i => .string (S i)) ∧ (W.setCells w.heap.size 0 (cells S n)).heap.size = w.heap.size + 1 := by
  have hrow : W.rowIs w.heap.size 9 n (fun _ => .string ByteArray.empty) := by rw [hW]; exact World.rowIs_made w _ n 9
  have hb : Below w.heap.size w W := by rw [hW]; exact (Below.refl _ _).alloc (Nat.le_refl _) _
  have hlen : (cells S n).length = n := by simp [cells]
  refine ⟨below_setCells (Nat.le_refl _) _ _ _ hb, ?_, by rw [size_setCells, hW]; simp⟩
  obtain ⟨f', hf'⟩ := row_setCells (cells S n) 0 W _ hrow
  refine hf'.congr fun i hi => ?_
  have h1 := hf'.cell hi
  have h2 := World.cell?_setCells_in w.heap.size (cells S n) 0 W (fun j hj => by rw [Nat.zero_add, hrow.cell (by omega)]; rfl) i (by omega)
  rw [Nat.zero_add, h1] at h2
  injection h2 with h2
  rw [h2]
  simp [cells]

set_option maxRecDepth 100000 in
theorem copy_some (ad : Addr) (n cap : Nat) (S : Nat → ByteArray) (w : World) (hn : n ≤ 1048576) (hc : ∀ i, i < n → w.cell? (ad.add i) = some (.string (S i))) :
    Calls Ybaf.prog 5 #[.slice (some ad) n cap] w fun e w' => e = .returned (.slice (some ⟨w.heap.size, 0, none⟩) n n) ∧ Below w.heap.size w w' ∧ w'.rowIs w.heap.size 9 n (fun i => .string (S i)) ∧ w'.heap.size = w.heap.size + 1 := by
  have hmk := run_make_row' (P := Ybaf.prog) 22 9 (.string ByteArray.empty) 16 Ybaf.underlying22 info9 rfl .i64 .i64 n (by omega) (by omega)
  have q := fun (w : World) (a : Option Addr) (n c : Nat) => Lib.run_eql_slice_nil (P := Ybaf.prog) w 22 9 a n c 0 0 Ybaf.underlying22
  obtain ⟨W, hW⟩ : ∃ W, W = w.alloc (.cells (madeCells #[.string ByteArray.empty] n) 9) := ⟨_, rfl⟩
  have hrow : W.rowIs w.heap.size 9 n (fun _ => .string ByteArray.empty) := by rw [hW]; exact World.rowIs_made w _ n 9
  have hcp := fun ty => run_copy_cells (P := Ybaf.prog) W 22 22 ty 9 w.heap.size 0 n n ad n cap (cells S n) Ybaf.underlying22 size9 (by simp [cells])
    (fun j v hv => by
      obtain ⟨hj, rfl⟩ := cells_get S n j v hv
      rw [hW, World.cell?_alloc_lt _ _ _ (World.block_lt_of_cell? w _ (hc j hj))]
      exact hc j hj)
    (fun j hj => by rw [Nat.zero_add, hrow.cell (by simpa [cells] using hj)]; rfl) (fun j _ => hrow.frozen _)
    (fun v hv => by simp only [cells, List.mem_map] at hv; obtain ⟨i, _, rfl⟩ := hv; rfl)
  have HF := copied w S n W hW
  generalize W.setCells w.heap.size 0 (cells S n) = W2 at hcp HF
  have HF' : Hid _ := HF
  rw [hW] at hcp
  clear hW hrow HF hc
  go_enter Ybaf.func5, Ybaf.ntmps5
  go_wp2
  go_ret
  exact ⟨rfl, HF'.out⟩

set_option maxRecDepth 100000 in
theorem copy_nil (w : World) : Calls Ybaf.prog 5 #[.slice none 0 0] w fun e w' => e = .returned (.slice none 0 0) ∧ w' = w := by
  have q := fun (w : World) (a : Option Addr) (n c : Nat) => Lib.run_eql_slice_nil (P := Ybaf.prog) w 22 9 a n c 0 0 Ybaf.underlying22
  go_enter Ybaf.func5, Ybaf.ntmps5
  go_wp2
  go_ret
  exact ⟨rfl, rfl⟩

/-! ### zzs8374beq on two slices of the same strings -/
set_option maxRecDepth 100000 in
theorem eq_nil (w : World) : Calls Ybaf.prog 7 #[.slice none 0 0, .slice none 0 0] w fun e w' => e = .returned (.bool true) ∧ ∃ m, w' = w.drewN m := by
  have q := fun (w : World) (a : Option Addr) (n c : Nat) => Lib.run_eql_slice_nil (P := Ybaf.prog) w 22 9 a n c 0 0 Ybaf.underlying22
  go_enter Ybaf.func7, Ybaf.ntmps7
  go_wp2
  refine wp_loop_rounds 1 ?_
  rw [rounds_succ]
  go_wp2
  go_ret
  exact ⟨rfl, 0, rfl⟩

set_option maxRecDepth 100000 in
theorem eq_empty (a b : Addr) (c d : Nat) (w : World) : Calls Ybaf.prog 7 #[.slice (some a) 0 c, .slice (some b) 0 d] w fun e w' => e = .returned (.bool true) ∧ ∃ m, w' = w.drewN m := by
  have q := fun (w : World) (a : Option Addr) (n c : Nat) => Lib.run_eql_slice_nil (P := Ybaf.prog) w 22 9 a n c 0 0 Ybaf.underlying22
  go_enter Ybaf.func7, Ybaf.ntmps7
  go_wp2
  refine wp_loop_rounds 1 ?_
  rw [rounds_succ]
  go_wp2
  go_ret
  exact ⟨rfl, 0, rfl⟩

set_option maxRecDepth 100000 in
set_option maxHeartbeats 400000 in
theorem eq_some (b off k n c d : Nat) (S : Nat → ByteArray) (w : World) (hn : n ≤ 1048576) (ha : ∀ i, i < n → w.cell? ⟨b, off + i, none⟩ = some (.string (S i))) (hb : ∀ i, i < n → w.cell? ⟨k, i, none⟩ = some (.string (S i))) :
    Calls Ybaf.prog 7 #[.slice (some ⟨b, off, none⟩) n c, .slice (some ⟨k, 0, none⟩) n d] w fun e w' => e = .returned (.bool true) ∧ ∃ m, w' = w.drewN m := by
  have q := fun (w : World) (a : Option Addr) (n c : Nat) => Lib.run_eql_slice_nil (P := Ybaf.prog) w 22 9 a n c 0 0 Ybaf.underlying22
  go_enter Ybaf.func7, Ybaf.ntmps7
  go_wp2
  go_loopw [5] (fun i wr => ∃ j : Nat, j ≤ n ∧ i = .int .i64 j ∧ ∃ m, wr = w.drewN m) (fun i _ => n - (intOf i).toNat)
  case atStart => exact ⟨0, Nat.zero_le _, rfl, 0, rfl⟩
  case round =>
    obtain ⟨j, hj, rfl, m, rfl⟩ := hrel
    by_cases hlt : j < n
    · have g1 := ha j hlt
      have g2 := hb j hlt
      have hl : (j : Int) < (n : Int) := by omega
      clear ha hb
      go_wp2
      go_quiet (fail)
      go_wp2
      go_roundw
      case rel => exact ⟨j + 1, by omega, by go_num, _, rfl⟩
      case measure => simp [intOf]; omega
    · have hd : decide ((j : Int) < (n : Int)) = false := by simp; omega
      clear ha hb
      go_wp2
      go_ret
      exact ⟨rfl, m, rfl⟩

/-! ### marshal -/
set_option maxRecDepth 100000 in
set_option maxHeartbeats 400000 in
theorem marshal_out (what : ByteArray) (a : Option Addr) (n c : Nat) (v : Int) (w : World) (hn : n ≤ 1048576) (hv : v < 0 ∨ (n : Int) ≤ v) :
    Calls Ybaf.prog 6 #[.agg #[.string what, .slice a n c], .int .i64 v] w fun e w' => ∃ p, e = .returned (.tuple #[.slice none 0 0, .iface 51 (.pointer (some p))]) ∧ Below w.heap.size w w' := by
  by_cases h0 : v < 0
  · go_enter Ybaf.func6, Ybaf.ntmps6
    go_wp2_with fail
    refine (Err.errorf_any (w.heap.size + 1) what v _ ?_ ?_).mono ?_
    · simp [go_sem]
    · simp [go_sem]
    rintro e w1 ⟨p, rfl, hb⟩
    go_wp2
    go_ret2
    exact ⟨p, rfl, (((Below.refl _ _).alloc (Nat.le_refl _) _).alloc (by simp) _).trans (hb.mono (by simp; omega))⟩
  · have h1 : (n : Int) ≤ v := by omega
    go_enter Ybaf.func6, Ybaf.ntmps6
    go_wp2_with fail
    refine (Err.errorf_any (w.heap.size + 1) what v _ ?_ ?_).mono ?_
    · simp [go_sem]
    · simp [go_sem]
    rintro e w1 ⟨p, rfl, hb⟩
    go_wp2
    go_ret2
    exact ⟨p, rfl, (((Below.refl _ _).alloc (Nat.le_refl _) _).alloc (by simp) _).trans (hb.mono (by simp; omega))⟩

set_option maxRecDepth 100000 in
set_option maxHeartbeats 400000 in
theorem marshal_in (what s : ByteArray) (b off n c k : Nat) (w : World) (hn : n ≤ 1048576) (hk : k < n) (hc : w.cell? ⟨b, off + k, none⟩ = some (.string s)) :
    Calls Ybaf.prog 6 #[.agg #[.string what, .slice (some ⟨b, off, none⟩) n c], .int .i64 k] w fun e w' => ∃ cap, e = .returned (.tuple #[.slice (some ⟨w.heap.size + 1, 0, none⟩) s.size cap, .nilIface]) ∧
      Below w.heap.size w w' ∧ w'.heap.size = w.heap.size + 2 ∧ w'.heap[w.heap.size + 1]? = some (.cells (bytesRow s cap) 5 ((bytesRow s cap).size, (bytesRow s cap).size + 1)) := by
  have hcv := fun (w : World) (s : ByteArray) => run_bytes_of_string (P := Ybaf.prog) w 9 26 5 s Ybaf.underlying9 Ybaf.underlying26 Ybaf.underlying5
  have hl : (k : Int) < (n : Int) := by omega
  have hb := World.block_lt_of_cell? w _ hc
  have hb1 : b < w.heap.size := hb
  clear hb
  go_enter Ybaf.func6, Ybaf.ntmps6
  go_wp2
  go_ret2
  refine ⟨_, rfl, ?_, ?_, ?_⟩
  · exact (((Below.refl _ _).alloc (Nat.le_refl _) _).alloc (by simp) _).drew
  · simp
  · exact heap_alloc2_new w _ _
end Go.Proofs.YbulkfqkcFmt.Parts
