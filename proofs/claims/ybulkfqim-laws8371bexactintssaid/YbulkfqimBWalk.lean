import Derived.Test.YbulkfqimRows
import Derived.Test.YbulkfqimFloat
import Derived.WalkKit
import Derived.WalkSpells
import Derived.WalkLawsBesides
import Derived.Below
namespace Go.Proofs.Ybulkfqim.BWalk
open Go.RowKit Go.Proofs.Ybulkfqim.Fl
set_option linter.unusedVariables false

theorem bits_run (b : Nat) (w : World) : (callFunc 18 #[.float .f64 b]).run Yba.prog w = .ok (.value (.int .u64 b)) w := by
  rw [run_callFunc_extern (e := Extern.MathFloatBits.float64bits) Yba.func18 (by kernel_rfl) (by kernel_rfl) (by kernel_rfl) (by kernel_rfl)]
  rfl

set_option maxRecDepth 100000 in
theorem same_nan (a b : Nat) (w : World) (ha : nan a) (hb : nan b) : Calls Yba.prog 12 #[.float .f64 a, .float .f64 b] w fun e w' => e = .returned (.bool true) ∧ w' = w := by
  have e1 := order_nan ha
  have e2 := order_nan hb
  clear ha hb
  go_enter Yba.func12, Yba.ntmps12
  go_wp2
  go_ret
  exact ⟨rfl, rfl⟩

set_option maxRecDepth 100000 in
theorem same_num (a : Nat) (w : World) (ha : ¬ nan a) : Calls Yba.prog 12 #[.float .f64 a, .float .f64 a] w fun e w' => e = .returned (.bool true) ∧ w' = w := by
  have e1 := order_num ha
  have e3 := bits_run
  clear ha
  go_enter Yba.func12, Yba.ntmps12
  go_wp2
  go_ret
  exact ⟨rfl, rfl⟩

theorem same_any (a b : Nat) (w : World) (h : Same a b) : Calls Yba.prog 12 #[.float .f64 a, .float .f64 b] w fun e w' => e = .returned (.bool true) ∧ w' = w := by
  by_cases ha : nan a
  · rcases h with rfl | ⟨_, hb⟩
    · exact same_nan a a w ha ha
    · exact same_nan a b w ha hb
  · rcases h with rfl | ⟨h, _⟩
    · exact same_num a w ha
    · exact absurd h ha

set_option maxRecDepth 100000 in
theorem pass_any (b p c wt : Nat) (w : World) (h4 : w.cell? ⟨b, 4, none⟩ = some (.float .f64 p)) (h5 : w.cell? ⟨b, 5, none⟩ = some (.float .f64 c))
    (f4 : w.frozen? ⟨b, 4, none⟩ = false) (f5 : w.frozen? ⟨b, 5, none⟩ = false) :
    Calls Yba.prog 11 #[.pointer (some ⟨b, 0, none⟩), .float .f64 wt] w fun e w' => e = .returned (.tuple #[]) ∧ ∃ r1 r2 n, Kahan p c wt r1 r2 ∧ w' = ((w.setCell ⟨b, 5, none⟩ (.float .f64 r2)).setCell ⟨b, 4, none⟩ (.float .f64 r1)).drewN n := by
  have ra := run_arith (P := Yba.prog) .add (.inl rfl) 29
  have rs := run_arith (P := Yba.prog) .sub (.inr rfl) 29
  have sf := fun (w : World) (a : Addr) (m : Mode) (x : Nat) => run_store Yba.prog w a (.float .f64 x) m rfl
  go_enter Yba.func11, Yba.ntmps11
  go_wp2
  go_end0
  exact ⟨rfl, _, _, _, ⟨_, _, gives_res _ _ _ _, gives_res _ _ _ _, gives_res _ _ _ _, gives_res _ _ _ _⟩, rfl⟩

set_option maxRecDepth 100000 in
set_option maxHeartbeats 800000 in
theorem walk (passed carry jump tauFrac tau wt : Nat) (tauExp added k : Int) (w : World) (hk : 0 ≤ k ∧ k ≤ 255) :
    Calls Yba.prog 4 #[.float .f64 passed, .float .f64 carry, .float .f64 jump, .float .f64 tauFrac, .float .f64 tau, .int .i64 tauExp, .int .u64 added, .int .u8 k, .float .f64 wt] w
      fun e w' => e = .returned (.bool true) ∧ Below w.heap.size w w' := by
  have ra := run_arith (P := Yba.prog) .add (.inl rfl) 29
  have rs := run_arith (P := Yba.prog) .sub (.inr rfl) 29
  have q2 := fun (w : World) (a : Option Addr) (n c : Nat) => Lib.run_eql_slice_nil (P := Yba.prog) w 32 116 a n c 0 0 Yba.underlying32
  obtain ⟨W0, hW0⟩ : ∃ W0, W0 = w.alloc (.cells #[.pointer none, .int .i64 k, .slice none 0 0, .int .u64 added, .float .f64 passed, .float .f64 carry, .float .f64 jump, .float .f64 tauFrac, .float .f64 tau, .int .i64 tauExp] 37) := ⟨_, rfl⟩
  have hB : Below w.heap.size w W0 := hW0 ▸ (Below.refl _ _).alloc (Nat.le_refl _) _
  have c0 : W0.cell? ⟨w.heap.size, 0, none⟩ = some (.pointer none) := by rw [hW0]; simp [go_sem]
  have c1 : W0.cell? ⟨w.heap.size, 1, none⟩ = some (.int .i64 k) := by rw [hW0]; simp [go_sem]
  have c2 : W0.cell? ⟨w.heap.size, 2, none⟩ = some (.slice none 0 0) := by rw [hW0]; simp [go_sem]
  have c3 : W0.cell? ⟨w.heap.size, 3, none⟩ = some (.int .u64 added) := by rw [hW0]; simp [go_sem]
  have c4 : W0.cell? ⟨w.heap.size, 4, none⟩ = some (.float .f64 passed) := by rw [hW0]; simp [go_sem]
  have c5 : W0.cell? ⟨w.heap.size, 5, none⟩ = some (.float .f64 carry) := by rw [hW0]; simp [go_sem]
  have c6 : W0.cell? ⟨w.heap.size, 6, none⟩ = some (.float .f64 jump) := by rw [hW0]; simp [go_sem]
  have c7 : W0.cell? ⟨w.heap.size, 7, none⟩ = some (.float .f64 tauFrac) := by rw [hW0]; simp [go_sem]
  have c8 : W0.cell? ⟨w.heap.size, 8, none⟩ = some (.float .f64 tau) := by rw [hW0]; simp [go_sem]
  have c9 : W0.cell? ⟨w.heap.size, 9, none⟩ = some (.int .i64 tauExp) := by rw [hW0]; simp [go_sem]
  have f4 : W0.frozen? ⟨w.heap.size, 4, none⟩ = false := by rw [hW0]; simp [go_sem]
  have f5 : W0.frozen? ⟨w.heap.size, 5, none⟩ = false := by rw [hW0]; simp [go_sem]
  have HW : Hid (W0 = w.alloc (.cells #[.pointer none, .int .i64 k, .slice none 0 0, .int .u64 added, .float .f64 passed, .float .f64 carry, .float .f64 jump, .float .f64 tauFrac, .float .f64 tau, .int .i64 tauExp] 37)) := hW0
  clear hW0
  go_enter Yba.func4, Yba.ntmps4
  go_wp2_with fail
  rw [← HW.out]
  clear HW
  have G1 := gives_res W0 .sub wt carry
  generalize res W0 .sub wt carry = y at G1 ⊢
  generalize cnt .sub wt carry = n1
  have G2 := gives_res (W0.drewN n1) .add passed y
  generalize res (W0.drewN n1) .add passed y = s at G2 ⊢
  generalize cnt .add passed y = n2
  have G3 := gives_res (W0.drewN (n1 + n2)) .sub s passed
  generalize res (W0.drewN (n1 + n2)) .sub s passed = t at G3 ⊢
  generalize cnt .sub s passed = n3
  have G4 := gives_res (W0.drewN (n1 + n2 + n3)) .sub t y
  generalize res (W0.drewN (n1 + n2 + n3)) .sub t y = u at G4 ⊢
  generalize cnt .sub t y = n4
  have K0 : Hid (Kahan passed carry wt s u) := ⟨y, t, G1, G2, G3, G4⟩
  clear G1 G2 G3 G4
  refine (pass_any _ passed carry wt (W0.drewN (n1 + n2 + n3 + n4)) c4 c5 f4 f5).mono ?_
  rintro e w1 ⟨rfl, r1, r2, n, hK, rfl⟩
  obtain ⟨s1, s2⟩ := hK.same K0.out
  clear hK K0 ra rs
  go_wp2_with (go_at_call 12; refine (same_any _ _ _ (by first | exact s1 | exact s2 | exact Same.refl _)).mono ?_; rintro e w' ⟨rfl, rfl⟩)
  go_ret
  exact ⟨rfl, below_drewN (((below_drewN hB _).setCell (Nat.le_refl _) _).setCell (Nat.le_refl _) _) _⟩
end Go.Proofs.Ybulkfqim.BWalk
