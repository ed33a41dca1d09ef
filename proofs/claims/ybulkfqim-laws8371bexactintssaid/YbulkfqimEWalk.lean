import Derived.Test.YbulkfqimRand5
import Derived.Test.YbulkfqimBWalk
import Derived.Test.YbulkfqimExactF
namespace Go.Proofs.Ybulkfqim.EWalk
open Go.RowKit Go.Proofs.Ybulkfqim.Fl
set_option linter.unusedVariables false

/-- The sum of the first k numbers. -/
def sumTo (Z : Nat → Int) : Nat → Int
  | 0 => 0
  | k + 1 => sumTo Z k + Z k

theorem sumTo_le (Z : Nat → Int) (n : Nat) (h : ∀ i, i < n → -2147483648 ≤ Z i ∧ Z i ≤ 2147483647) : ∀ k, k ≤ n → -(2147483648 * (k : Int)) ≤ sumTo Z k ∧ sumTo Z k ≤ 2147483648 * (k : Int)
  | 0, _ => by simp [sumTo]
  | k + 1, hk => by
    have ih := sumTo_le Z n h k (by omega)
    have hz := h k (by omega)
    simp only [sumTo]
    omega

/-- The sampler lies in block b: passed is the float p, carry 0, the rest as it was made. -/
def Smp (w : World) (b : Nat) (q : Addr) (k : Int) (p : Nat) : Prop :=
  w.heap[b]? = some (.cells #[.pointer (some q), .int .i64 k, .slice none 0 0, .int .u64 0, .float .f64 p, .float .f64 0, .float .f64 0, .float .f64 0, .float .f64 0, .int .i64 0] 37 (0, 0))

theorem Smp.set {w : World} {b : Nat} {q : Addr} {k : Int} {p : Nat} (h : Smp w b q k p) (p' n : Nat) : Smp (((w.setCell ⟨b, 5, none⟩ (.float .f64 0)).setCell ⟨b, 4, none⟩ (.float .f64 p')).drewN n) b q k p' := by
  have h1 := heap_setCell_same w b 5 _ 37 (.float .f64 0) h
  have h2 := heap_setCell_same _ b 4 _ 37 (.float .f64 p') h1
  unfold Smp
  rw [World.heap_drewN, h2]
  rfl

theorem ord00 : (FloatKind.f64.format.order 0 0 != some .eq) = false := by decide +kernel
theorem ord00' : (FloatKind.f64.format.order 0 0 == some .eq) = true := by decide +kernel

set_option maxRecDepth 100000 in
set_option maxHeartbeats 800000 in
theorem walk_some (k0 seed : Int) (b0 off n cap : Nat) (Z : Nat → Int) (w : World) (hk0 : 0 ≤ k0 ∧ k0 ≤ 255) (hn : n ≤ 1048576) (hb0 : b0 < w.heap.size)
    (hZ : ∀ i, i < n → -2147483648 ≤ Z i ∧ Z i ≤ 2147483647) (hc : ∀ i, i < n → w.cell? ⟨b0, off + i, none⟩ = some (.int .i32 (Z i))) :
    Calls Yba.prog 5 #[.int .u8 k0, .int .u64 seed, .slice (some ⟨b0, off, none⟩) n cap] w fun e w' => e = .returned (.bool true) ∧ Below w.heap.size w w' := by
  have h12 : decide ((1048576 : Int) < (n : Int)) = false := by simp; omega
  have hsm := sumTo_le Z n hZ
  have z1 := ord00
  have z2 := ord00'
  go_enter Yba.func5, Yba.ntmps5
  go_wp2_with (go_at_call 13; refine (Rand.weighted_any _ _ _ hk0.1).mono ?_; rintro e w1 ⟨b, q, rfl, hB, hbn, hS⟩)
  have hS1 : Smp w1 b q k0 0 := hS
  clear hS
  go_loopw [8, 9] (fun t i wr => ∃ k : Nat, k ≤ n ∧ i = .int .i64 k ∧ t = .int .i64 (sumTo Z k) ∧ Below w.heap.size w wr ∧ Smp wr b q k0 (fl (sumTo Z k))) (fun _ i _ => n - (intOf i).toNat)
  case atStart => exact ⟨0, Nat.zero_le _, rfl, rfl, hB, by rw [show sumTo Z 0 = 0 from rfl, fl_zero]; exact hS1⟩
  case round =>
    clear hS1 hB
    obtain ⟨k, hk, rfl, rfl, hB, hS⟩ := hrel
    have hsk := hsm k hk
    have c1 : wr.cell? ⟨b, 1, none⟩ = some (.int .i64 k0) := cell_of_row wr _ _ _ _ _ hS
    have c2 : wr.cell? ⟨b, 2, none⟩ = some (.slice none 0 0) := cell_of_row wr _ _ _ _ _ hS
    have c3 : wr.cell? ⟨b, 3, none⟩ = some (.int .u64 0) := cell_of_row wr _ _ _ _ _ hS
    have c4 : wr.cell? ⟨b, 4, none⟩ = some (.float .f64 (fl (sumTo Z k))) := cell_of_row wr _ _ _ _ _ hS
    have c5 : wr.cell? ⟨b, 5, none⟩ = some (.float .f64 0) := cell_of_row wr _ _ _ _ _ hS
    have c6 : wr.cell? ⟨b, 6, none⟩ = some (.float .f64 0) := cell_of_row wr _ _ _ _ _ hS
    have c9 : wr.cell? ⟨b, 9, none⟩ = some (.int .i64 0) := cell_of_row wr _ _ _ _ _ hS
    have f4 : wr.frozen? ⟨b, 4, none⟩ = false := frozen_of_row wr _ _ _ _ hS
    have f5 : wr.frozen? ⟨b, 5, none⟩ = false := frozen_of_row wr _ _ _ _ hS
    by_cases hlt : k < n
    · have hz := hZ k hlt
      have cc : wr.cell? ⟨b0, off + k, none⟩ = some (.int .i32 (Z k)) := (hB.cell (by exact hb0)).trans (hc k hlt)
      have hs1 : sumTo Z (k + 1) = sumTo Z k + Z k := rfl
      have HS : Hid (Smp wr b q k0 (fl (sumTo Z k))) := hS
      have hsk1 := hsm (k + 1) (by omega)
      have ho := order_fl (sumTo Z k + Z k) (by rw [← hs1]; omega)
      have HO : Hid (sumTo Z (k + 1) = sumTo Z k + Z k) := hs1
      clear hs1 hS hc hZ hsm
      go_wp2_with fail
      refine (BWalk.pass_any b (fl (sumTo Z k)) 0 (fl (Z k)) wr c4 c5 f4 f5).mono ?_
      rintro e w' ⟨rfl, r1, r2, m, hK, rfl⟩
      obtain ⟨rfl, rfl⟩ := kahan_exact (by omega) (by omega) (by rw [← HO.out]; omega) hK
      clear hK
      unfold fl at ho c4 ⊢
      go_wp2
      go_roundw
      case rel =>
        have hS' := HS.out.set (fl (sumTo Z k + Z k)) m
        refine ⟨k + 1, by omega, by go_num, by rw [HO.out], below_drewN ((hB.setCell (p := ⟨b, 5, none⟩) hbn _).setCell (p := ⟨b, 4, none⟩) hbn _) _, ?_⟩
        rw [HO.out]
        exact hS'
      case measure => simp [intOf]; omega
    · have hd : decide ((k : Int) < (n : Int)) = false := by simp; omega
      clear hc hZ hsm
      go_wp2
      go_ret
      exact ⟨rfl, hB⟩

set_option maxRecDepth 100000 in
theorem walk_none (k0 seed : Int) (a : Option Addr) (cap : Nat) (w : World) (hk0 : 0 ≤ k0 ∧ k0 ≤ 255) :
    Calls Yba.prog 5 #[.int .u8 k0, .int .u64 seed, .slice a 0 cap] w fun e w' => e = .returned (.bool true) ∧ Below w.heap.size w w' := by
  have z1 := ord00
  have z2 := ord00'
  go_enter Yba.func5, Yba.ntmps5
  go_wp2_with (go_at_call 13; refine (Rand.weighted_any _ _ _ hk0.1).mono ?_; rintro e w1 ⟨b, q, rfl, hB, hbn, hS⟩)
  have c1 : w1.cell? ⟨b, 1, none⟩ = some (.int .i64 k0) := cell_of_row w1 _ _ _ _ _ hS
  have c2 : w1.cell? ⟨b, 2, none⟩ = some (.slice none 0 0) := cell_of_row w1 _ _ _ _ _ hS
  have c3 : w1.cell? ⟨b, 3, none⟩ = some (.int .u64 0) := cell_of_row w1 _ _ _ _ _ hS
  have c6 : w1.cell? ⟨b, 6, none⟩ = some (.float .f64 0) := cell_of_row w1 _ _ _ _ _ hS
  have c9 : w1.cell? ⟨b, 9, none⟩ = some (.int .i64 0) := cell_of_row w1 _ _ _ _ _ hS
  clear hS
  refine wp_loop_rounds 1 ?_
  rw [rounds_succ]
  go_wp2
  go_ret
  exact ⟨rfl, hB⟩

set_option maxRecDepth 100000 in
theorem walk_big (k0 seed : Int) (a : Option Addr) (n cap : Nat) (w : World) (h : 1048576 < n) :
    Calls Yba.prog 5 #[.int .u8 k0, .int .u64 seed, .slice a n cap] w fun e w' => e = .returned (.bool true) ∧ Below w.heap.size w w' := by
  have h12 : decide ((1048576 : Int) < (n : Int)) = true := by simp; omega
  go_enter Yba.func5, Yba.ntmps5
  go_wp2
  go_ret
  exact ⟨rfl, Below.refl _ _⟩
end Go.Proofs.Ybulkfqim.EWalk
