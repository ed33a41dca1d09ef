import Derived.Test.YbulkfreoCBase
namespace Go.Proofs.Ybulkfreo.CWalk
open Go.RowKit Go.Proofs.Ybulkfreo.CBase
set_option linter.unusedVariables false

theorem info79 : (Yba.prog.info? 79).map (fun i => (i.zero, i.size, i.bytes)) = some (some (.agg #[.string ByteArray.empty, .int .i64 0, .int .i64 0, .int .i64 0, .float .f64 0]), 5, 48) := by kernel_rfl
theorem size79 : (Yba.prog.info? 79).map (·.size) = some 5 := by kernel_rfl

/-- The nodes as data. -/
structure Nodes where
  nm : Nat → ByteArray
  ph : Nat → Int
  rp : Nat → Int
  tk : Nat → Int
  lt : Nat → Nat

/-- Cell j of the row of nodes. -/
def Nodes.fld (D : Nodes) (j : Nat) : Value :=
  if j % 5 = 0 then .string (D.nm (j / 5)) else if j % 5 = 1 then .int .i64 (D.ph (j / 5)) else if j % 5 = 2 then .int .i64 (D.rp (j / 5)) else if j % 5 = 3 then .int .i64 (D.tk (j / 5)) else .float .f64 (D.lt (j / 5))

theorem Nodes.fld0 (D : Nodes) (k : Nat) : D.fld (k * 5) = .string (D.nm k) := by simp [Nodes.fld]
theorem Nodes.fld1 (D : Nodes) (k : Nat) : D.fld (k * 5 + 1) = .int .i64 (D.ph k) := by simp [Nodes.fld, show (k * 5 + 1) % 5 = 1 by omega, show (k * 5 + 1) / 5 = k by omega]
theorem Nodes.fld2 (D : Nodes) (k : Nat) : D.fld (k * 5 + 2) = .int .i64 (D.rp k) := by simp [Nodes.fld, show (k * 5 + 2) % 5 = 2 by omega, show (k * 5 + 2) / 5 = k by omega]
theorem Nodes.fld3 (D : Nodes) (k : Nat) : D.fld (k * 5 + 3) = .int .i64 (D.tk k) := by simp [Nodes.fld, show (k * 5 + 3) % 5 = 3 by omega, show (k * 5 + 3) / 5 = k by omega]
theorem Nodes.fld4 (D : Nodes) (k : Nat) : D.fld (k * 5 + 4) = .float .f64 (D.lt k) := by simp [Nodes.fld, show (k * 5 + 4) % 5 = 4 by omega, show (k * 5 + 4) / 5 = k by omega]

/-- The nodes lie at block b from offset off on. -/
def Lie (w : World) (b off n : Nat) (D : Nodes) : Prop := ∀ j, j < n * 5 → w.cell? ⟨b, off + j, none⟩ = some (D.fld j)

theorem Lie.at {w : World} {b off n : Nat} {D : Nodes} (h : Lie w b off n D) {k : Nat} (hk : k < n) :
    w.cell? ⟨b, off + k * 5, none⟩ = some (.string (D.nm k)) ∧ w.cell? ⟨b, off + k * 5 + 1, none⟩ = some (.int .i64 (D.ph k)) ∧ w.cell? ⟨b, off + k * 5 + 2, none⟩ = some (.int .i64 (D.rp k)) ∧
      w.cell? ⟨b, off + k * 5 + 3, none⟩ = some (.int .i64 (D.tk k)) ∧ w.cell? ⟨b, off + k * 5 + 4, none⟩ = some (.float .f64 (D.lt k)) := by
  have h0 := h (k * 5) (by omega)
  have h1 := h (k * 5 + 1) (by omega)
  have h2 := h (k * 5 + 2) (by omega)
  have h3 := h (k * 5 + 3) (by omega)
  have h4 := h (k * 5 + 4) (by omega)
  rw [D.fld0] at h0
  rw [D.fld1] at h1
  rw [D.fld2] at h2
  rw [D.fld3] at h3
  rw [D.fld4] at h4
  exact ⟨h0, h1, h2, h3, h4⟩

theorem Lie.below {w w' : World} {b off n : Nat} {D : Nodes} {B : Nat} (h : Lie w b off n D) (hb : Below B w w') (hB : b < B) : Lie w' b off n D := fun j hj => by
  rw [hb.cell (p := ⟨b, off + j, none⟩) hB]; exact h j hj

/-- The capacity of the first k nodes. -/
def capTo (D : Nodes) : Nat → Int
  | 0 => 0
  | k + 1 => if D.ph k = 1 then wrap64 (capTo D k + D.rp k) else capTo D k

set_option maxRecDepth 100000 in
set_option maxHeartbeats 400000 in
theorem ccap_any (b off n c : Nat) (D : Nodes) (w : World) (hn : n ≤ 1048576) (hl : Lie w b off n D) :
    Calls Yba.prog 8 #[.slice (some ⟨b, off, none⟩) n c] w fun e w' => e = .returned (.int .i64 (capTo D n)) ∧ w' = w := by
  go_enter Yba.func8, Yba.ntmps8
  go_wp2
  go_loop [3, 4] (fun t i => ∃ k : Nat, k ≤ n ∧ i = .int .i64 k ∧ t = .int .i64 (capTo D k)) (fun _ i => n - (intOf i).toNat)
  case atStart => exact ⟨0, Nat.zero_le _, rfl, rfl⟩
  case round =>
    obtain ⟨k, hk, rfl, rfl⟩ := hrel
    by_cases hlt : k < n
    · obtain ⟨g0, g1, g2, g3, g4⟩ := hl.at hlt
      have hq : (k : Int) < (n : Int) := by omega
      have HC : Hid (capTo D (k + 1) = if D.ph k = 1 then wrap64 (capTo D k + D.rp k) else capTo D k) := rfl
      clear hl g0 g3 g4
      by_cases hp : D.ph k = 1
      · have hp' : (D.ph k == 1) = true := by simp [hp]
        have HP : Hid (D.ph k = 1) := hp
        clear hp
        go_wp2
        go_round
        case rel => exact ⟨k + 1, by omega, by go_num, by rw [HC.out, if_pos HP.out]⟩
        case measure => simp [intOf]; omega
      · have hp' : (D.ph k == 1) = false := by simp [hp]
        go_wp2
        go_round
        case rel => exact ⟨k + 1, by omega, by go_num, by rw [HC.out, if_neg hp]⟩
        case measure => simp [intOf]; omega
    · have hd : decide ((k : Int) < (n : Int)) = false := by simp; omega
      obtain rfl : k = n := by omega
      clear hl
      go_wp2
      go_ret
      exact ⟨rfl, rfl⟩

set_option maxRecDepth 100000 in
set_option maxHeartbeats 400000 in
theorem capacity_any (b off n c : Nat) (D : Nodes) (w : World) (hn : n ≤ 1048576) (hb : b < w.heap.size) (hl : Lie w b off n D) :
    Calls Yba.prog 12 #[.slice (some ⟨b, off, none⟩) n c] w fun e w' => e = .returned (.int .i64 (capTo D n)) ∧ Below w.heap.size w w' := by
  have sf := fun (w : World) (a : Addr) (m : Mode) (x : Nat) => run_store Yba.prog w a (.float .f64 x) m rfl
  go_enter Yba.func12, Yba.ntmps12
  go_wp2
  go_loopw [3, 8] (fun t i wr => ∃ k : Nat, k ≤ n ∧ i = .int .i64 k ∧ t = .int .i64 (capTo D k) ∧ Below w.heap.size w wr) (fun _ i _ => n - (intOf i).toNat)
  case atStart => exact ⟨0, Nat.zero_le _, rfl, rfl, Below.refl _ _⟩
  case round =>
    obtain ⟨k, hk, rfl, rfl, hB⟩ := hrel
    by_cases hlt : k < n
    · obtain ⟨g0, g1, g2, g3, g4⟩ := (hl.below hB hb).at hlt
      have hq : (k : Int) < (n : Int) := by omega
      have HC : Hid (capTo D (k + 1) = if D.ph k = 1 then wrap64 (capTo D k + D.rp k) else capTo D k) := rfl
      have hz : w.heap.size ≤ wr.heap.size := hB.size
      have HB : Hid (Below w.heap.size w wr) := hB
      clear hl hB
      by_cases hp : D.ph k = 1
      · have hp' : (D.ph k == 1) = true := by simp [hp]
        have HP : Hid (D.ph k = 1) := hp
        clear hp
        go_wp2
        go_roundw
        case rel => exact ⟨k + 1, by omega, by go_num, by rw [HC.out, if_pos HP.out], HB.out.alloc hz _⟩
        case measure => simp [intOf]; omega
      · have hp' : (D.ph k == 1) = false := by simp [hp]
        go_wp2
        go_roundw
        case rel => exact ⟨k + 1, by omega, by go_num, by rw [HC.out, if_neg hp], HB.out.alloc hz _⟩
        case measure => simp [intOf]; omega
    · have hd : decide ((k : Int) < (n : Int)) = false := by simp; omega
      obtain rfl : k = n := by omega
      clear hl
      go_wp2
      go_ret
      exact ⟨rfl, hB⟩

theorem bits_run (b : Nat) (w : World) : (callFunc 9 #[.float .f64 b]).run Yba.prog w = .ok (.value (.int .u64 b)) w := by
  rw [run_callFunc_extern (e := Extern.MathFloatBits.float64bits) Yba.func9 (by kernel_rfl) (by kernel_rfl) (by kernel_rfl) (by kernel_rfl)]
  rfl

set_option maxRecDepth 100000 in
set_option maxHeartbeats 800000 in
theorem same_any (b off g n c d : Nat) (D : Nodes) (w : World) (hn : n ≤ 1048576) (hb : b < w.heap.size) (hg : g < w.heap.size) (hl : Lie w b off n D) (hl' : Lie w g 0 n D) :
    Calls Yba.prog 10 #[.slice (some ⟨b, off, none⟩) n c, .slice (some ⟨g, 0, none⟩) n d] w fun e w' => e = .returned (.bool true) ∧ Below w.heap.size w w' := by
  have sf := fun (w : World) (a : Addr) (m : Mode) (x : Nat) => run_store Yba.prog w a (.float .f64 x) m rfl
  have q := fun (w : World) (a : Option Addr) (n c : Nat) => Lib.run_eql_slice_nil (P := Yba.prog) w 69 79 a n c 0 0 Yba.underlying69
  have hbt := bits_run
  go_enter Yba.func10, Yba.ntmps10
  go_wp2
  go_loopw [5] (fun i wr => ∃ k : Nat, k ≤ n ∧ i = .int .i64 k ∧ Below w.heap.size w wr) (fun i _ => n - (intOf i).toNat)
  case atStart => exact ⟨0, Nat.zero_le _, rfl, Below.refl _ _⟩
  case round =>
    obtain ⟨k, hk, rfl, hB⟩ := hrel
    by_cases hlt : k < n
    · obtain ⟨g0, g1, g2, g3, g4⟩ := (hl.below hB hb).at hlt
      obtain ⟨e0, e1, e2, e3, e4⟩ := (hl'.below hB hg).at hlt
      simp only [Nat.zero_add] at e0 e1 e2 e3 e4
      have hq : (k : Int) < (n : Int) := by omega
      have hz : w.heap.size ≤ wr.heap.size := hB.size
      have z1 : b < wr.heap.size := by omega
      have z2 : g < wr.heap.size := by omega
      have z3 : b < wr.heap.size + 1 := by omega
      have z4 : g < wr.heap.size + 1 := by omega
      have HB : Hid (Below w.heap.size w wr) := hB
      clear hl hl' hB
      go_wp2
      go_quiet (fail)
      go_wp2
      go_roundw
      case rel => exact ⟨k + 1, by omega, by go_num, below_drewN ((HB.out.alloc hz _).alloc (by simp; omega) _) _⟩
      case measure => simp [intOf]; omega
    · have hd : decide ((k : Int) < (n : Int)) = false := by simp; omega
      clear hl hl'
      go_wp2
      go_ret
      exact ⟨rfl, hB⟩

/-! ### No nodes -/
set_option maxRecDepth 100000 in
theorem ccap_zero (a : Option Addr) (c : Nat) (w : World) : Calls Yba.prog 8 #[.slice a 0 c] w fun e w' => e = .returned (.int .i64 0) ∧ w' = w := by
  go_enter Yba.func8, Yba.ntmps8
  go_wp2
  refine wp_loop_rounds 1 ?_
  rw [rounds_succ]
  go_wp2
  go_ret
  exact ⟨rfl, rfl⟩

set_option maxRecDepth 100000 in
theorem capacity_zero (a : Option Addr) (c : Nat) (w : World) : Calls Yba.prog 12 #[.slice a 0 c] w fun e w' => e = .returned (.int .i64 0) ∧ Below w.heap.size w w' := by
  go_enter Yba.func12, Yba.ntmps12
  go_wp2
  refine wp_loop_rounds 1 ?_
  rw [rounds_succ]
  go_wp2
  go_ret
  exact ⟨rfl, Below.refl _ _⟩

set_option maxRecDepth 100000 in
theorem same_zero (a b : Option Addr) (c d : Nat) (w : World) (h : a.isNone = b.isNone) : Calls Yba.prog 10 #[.slice a 0 c, .slice b 0 d] w fun e w' => e = .returned (.bool true) ∧ Below w.heap.size w w' := by
  have q := fun (w : World) (a : Option Addr) (n c : Nat) => Lib.run_eql_slice_nil (P := Yba.prog) w 69 79 a n c 0 0 Yba.underlying69
  cases a <;> cases b <;> simp at h
  · go_enter Yba.func10, Yba.ntmps10
    go_wp2
    refine wp_loop_rounds 1 ?_
    rw [rounds_succ]
    go_wp2
    go_ret
    exact ⟨rfl, Below.refl _ _⟩
  · go_enter Yba.func10, Yba.ntmps10
    go_wp2
    refine wp_loop_rounds 1 ?_
    rw [rounds_succ]
    go_wp2
    go_ret
    exact ⟨rfl, Below.refl _ _⟩

/-! ### Use -/
/-- What Use gives: +0 where the capacity is 0, else the quotient's bits. -/
def UseIs (needed c : Int) (r : Nat) : Prop := (c = 0 ∧ r = 0) ∨ (c ≠ 0 ∧ floatBits .quo .f64 (floatOfInt .f64 needed) (floatOfInt .f64 c) = some r)

set_option maxRecDepth 100000 in
theorem use_of (needed cap : Int) (r : Nat) (v : Value) (w : World) (hu : UseIs needed cap r) (hc : Calls Yba.prog 12 #[v] w fun e w' => e = .returned (.int .i64 cap) ∧ Below w.heap.size w w') :
    Calls Yba.prog 7 #[.int .i64 needed, v] w fun e w' => e = .returned (.float .f64 r) ∧ Below w.heap.size w w' := by
  rcases hu with ⟨h0, rfl⟩ | ⟨h0, hq⟩
  · have hz : (cap == 0) = true := by simp [h0]
    have HC : Hid (Calls Yba.prog 12 #[v] w fun e w' => e = .returned (.int .i64 cap) ∧ Below w.heap.size w w') := hc
    clear hc h0
    go_enter Yba.func7, Yba.ntmps7
    go_wp2_with fail
    refine HC.out.mono ?_
    rintro e w1 ⟨rfl, hb⟩
    go_wp2
    go_ret
    exact ⟨rfl, hb⟩
  · have hz : (cap == 0) = false := by simp [h0]
    have HC : Hid (Calls Yba.prog 12 #[v] w fun e w' => e = .returned (.int .i64 cap) ∧ Below w.heap.size w w') := hc
    have hr := fun w => run_float_arith (P := Yba.prog) w .quo 24 .f64 _ _ r hq
    clear hc h0 hq
    go_enter Yba.func7, Yba.ntmps7
    go_wp2_with fail
    refine HC.out.mono ?_
    rintro e w1 ⟨rfl, hb⟩
    go_wp2
    go_ret
    exact ⟨rfl, hb⟩
end Go.Proofs.Ybulkfreo.CWalk
